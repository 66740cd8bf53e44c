import PyProof.Rows.All
import Wide.All
import OpenK.AllK
import Wide.FinOn
import KE.KBytesWalk
import KE.KFromBytes
import PySem.Challenge.RW_kt0033_01
set_option maxHeartbeats 4000000
open PySem PySem.W PyProof.Rows
set_option Elab.async false
set_option linter.unusedVariables false
set_option maxRecDepth 100000
namespace Mine
def L (s : String) : List Nat := (Str.ofString s).cps.toList
def b64L : List UInt8 := (L "ABCDEFGHIJKLMNOPQRSTUVWXYZabcdefghijklmnopqrstuvwxyz0123456789+/").map (·.toUInt8)
def fbody : Stmt → List Stmt
  | .FunctionDef _ _ body _ _ _ _ _ _ _ => body
  | _ => []
def fscope : Stmt → Scope
  | .FunctionDef _ _ _ _ _ _ scope _ _ _ => scope
  | _ => default
def nth (p : Program) (i : Nat) : Stmt := (p.main.body[i]?).getD default
def reCode : Array Nat := #[14, 14, 4, 1, 1, 9, 0, 64, 0, 1342177280, 0, 0, 0, 0, 0, 17, 0, 13, 11, 9, 0, 64, 0, 1342177280, 0, 0, 0, 0, 0, 17, 1, 1]
/-- the datum of the def at an address of the written part -/
def fdOf (K : Frag) (a : Addr) : FuncData := match K.lookup a with
  | some ⟨_, _, .func fd, _⟩ => fd
  | _ => Calls.docDef "" { posonlyargs := [], args := [], vararg := none, kwonlyargs := [], kw_defaults := [], kwarg := none, defaults := [] } [] default .none .none .none
def fdIs (K : Frag) (a : Addr) : Bool := match K.lookup a with
  | some ⟨_, _, .func _, _⟩ => true
  | _ => false
def codeQ (K : Frag) (P : Addr) (fd : FuncData) : Bool := match fd.code with
  | .ref c => c != P && (match K.lookup c with
    | some ⟨_, _, .fields vs, _⟩ => (match (vs[1]? : Option Value) with
      | some (.str q _) => q == fd.qualname
      | _ => false)
    | _ => false)
  | _ => false
open PySem.Builtin.Re in
/-- the pattern of the search, in the written part -/
def patIn (K : Frag) (P R : Addr) : Bool := R != P && (match K.lookup R with
  | some ⟨.type "re.Pattern", none, .fields fs, sl⟩ => sl.size == 0 && reRawNat (fs.getD 2 .none) == 1 && reRawNat (fs.getD 6 .none) == 0 && (match fs.getD 5 .none with
    | .ref C => C != P && (match K.lookup C with
      | some ⟨_, _, .seq items _, _⟩ => (items.map reRawOf).map (·.toNat) == reCode
      | _ => false)
    | _ => false)
  | _ => false)
end Mine
open PySem PySem.W PyProof.Rows
set_option Elab.async false
set_option linter.unusedVariables false
set_option maxRecDepth 1000000
set_option maxHeartbeats 8000000
namespace Mine
abbrev pw := PySem.Challenge.pw_kt0033_01
def looseN : List Str := ["_sre", "_wall", "_twin_re_1", "translate", "_special_chars_map", "escape", "_translate", "_join_translated_parts", "_buffer", "_truth", "_B64", "b2a_base64", "b64encode", "_raise_serialization_error", "_escape_cdata", "_escape_attrib", "_escape_attrib_html", "_escape_cdata_c14n", "_escape_attrib_c14n", "_law_drawn", "_law_members", "_law_written", "_law_spelled", "_law_ways", "_law_worth", "_law_octets", "_law_taken", "_law_counts"]
def viewP : Program := { pw with main := { pw.main with body := [nth pw 35] } }
def asK : List Addr := [3, 42, 43, 49, 50, 64, 68, 69, 75, 76, 82, 83, 89, 90, 97, 98, 99, 105, 106, 119, 120, 126, 127, 133, 134, 140, 141, 147, 148, 154, 155, 159, 160, 166, 167, 171, 172, 176, 177, 181, 182, 186, 187, 191, 192, 196, 197, 201, 202]
def namesK : List (Str × Addr) := [("translate", 50), ("_translate", 69), ("_join_translated_parts", 76), ("_buffer", 83), ("_truth", 90), ("b2a_base64", 98), ("b64encode", 106), ("_escape_cdata", 120), ("_escape_attrib", 127), ("_escape_attrib_html", 134), ("_escape_cdata_c14n", 141), ("_escape_attrib_c14n", 148), ("_law_drawn", 155), ("_law_members", 160), ("_law_written", 167), ("_law_spelled", 172), ("_law_ways", 177), ("_law_worth", 182), ("_law_octets", 187), ("_law_taken", 192), ("_law_counts", 197), ("law", 202), ("_twin_re_1", 43)]
def freeK : List Str := ["range", "len", "type", "bytes", "bool", "object", "sum", "enumerate"]
structure DefRow where
  a : Addr
  i : Nat
  c : Addr
  pm : Value
  dV : Value
  kV : Value
def defsK : List DefRow := [⟨50, 4, 49, .str (Str.ofString "cpy313.fnmatch") 289, .none, .none⟩,
  ⟨69, 9, 68, .str (Str.ofString "cpy313.fnmatch") 493, .none, .none⟩,
  ⟨76, 10, 75, .str (Str.ofString "cpy313.fnmatch") 493, .none, .none⟩,
  ⟨83, 12, 82, .str (Str.ofString "binascii") 527, .none, .none⟩,
  ⟨90, 13, 89, .str (Str.ofString "binascii") 527, .none, .none⟩,
  ⟨98, 15, 97, .str (Str.ofString "binascii") 527, .none, .ref 91⟩,
  ⟨106, 17, 105, .str (Str.ofString "cpy313.base64") 561, .ref 99, .none⟩,
  ⟨120, 20, 119, .str (Str.ofString "cpy313.xml.etree.ElementTree") 572, .none, .none⟩,
  ⟨127, 21, 126, .str (Str.ofString "cpy313.xml.etree.ElementTree") 572, .none, .none⟩,
  ⟨134, 22, 133, .str (Str.ofString "cpy313.xml.etree.ElementTree") 572, .none, .none⟩,
  ⟨141, 23, 140, .str (Str.ofString "cpy313.xml.etree.ElementTree") 572, .none, .none⟩,
  ⟨148, 24, 147, .str (Str.ofString "cpy313.xml.etree.ElementTree") 572, .none, .none⟩,
  ⟨155, 26, 154, .str (Str.ofString "law_kt0033_01") 616, .none, .none⟩,
  ⟨160, 27, 159, .str (Str.ofString "law_kt0033_01") 616, .none, .none⟩,
  ⟨167, 28, 166, .str (Str.ofString "law_kt0033_01") 616, .none, .none⟩,
  ⟨172, 29, 171, .str (Str.ofString "law_kt0033_01") 616, .none, .none⟩,
  ⟨177, 30, 176, .str (Str.ofString "law_kt0033_01") 616, .none, .none⟩,
  ⟨182, 31, 181, .str (Str.ofString "law_kt0033_01") 616, .none, .none⟩,
  ⟨187, 32, 186, .str (Str.ofString "law_kt0033_01") 616, .none, .none⟩,
  ⟨192, 33, 191, .str (Str.ofString "law_kt0033_01") 616, .none, .none⟩,
  ⟨197, 34, 196, .str (Str.ofString "law_kt0033_01") 616, .none, .none⟩,
  ⟨202, 35, 201, .str (Str.ofString "law_kt0033_01") 616, .none, .none⟩]
def fparams : Stmt → Arguments
  | .FunctionDef _ a _ _ _ _ _ _ _ _ => a
  | _ => default
def fname : Stmt → Str
  | .FunctionDef n _ _ _ _ _ _ _ _ _ => n
  | _ => default
def defData (d : DefRow) : FuncData :=
  { Calls.docDef (fname (nth pw d.i)) (fparams (nth pw d.i)) (fbody (nth pw d.i)) (fscope (nth pw d.i)) d.pm (.ref d.c) .none with defaults := d.dV, kwdefaults := d.kV }
def fdQ (K : Frag) (a : Addr) : Option FuncData := match K.lookup a with
  | some ⟨_, _, .func fd, _⟩ => some fd
  | _ => none
def flagsK (K : Frag) : Bool := (defsK.all fun d => codeQ K 64 (defData d)) && patIn K 64 43 && codeHdIn K 68 64 &&
  (match K.lookup 64 with
    | some ⟨Value.none, Option.none, .fields vs, sl⟩ => vs.size == 0 && sl.size == 0
    | _ => false) &&
  (match K.lookup 99 with
    | some ⟨_, _, .seq vs _, _⟩ => vs.size == 1 && (match (vs[0]? : Option Value) with | some Value.none => true | _ => false)
    | _ => false)
abbrev ViewT : Type := List (Option (Option Value)) × List (Option (Option Value)) × Option (Option Value) × List (Option FuncData) × Bool
def seeK (K : Frag) : ViewT := (namesK.map fun x => nsIn K mainGlobals x.1, freeK.map fun x => nsIn K mainGlobals x, nsIn K mainGlobals "_B64", defsK.map fun d => fdQ K d.a, flagsK K)
def dueK : ViewT := (namesK.map fun x => some (some (.ref x.2)), freeK.map fun _ => some none, some (some (.bytes b64L.toArray 545)), defsK.map fun d => some (defData d), true)
def Told (K : Frag) : Prop := seeK K = dueK
/-- the part of the heap that is looked at -/
def partAt (h : Heap) : List Addr → Option Frag
  | [] => some []
  | a :: as => match h.get? a, partAt h as with
    | some o, some K => some ((a, o) :: K)
    | _, _ => none
theorem partAt_in {h : Heap} : ∀ {as : List Addr} {K : Frag}, partAt h as = some K → K.In h
  | [], K, e => by cases e; intro a o q; cases q
  | a :: as, K, e => by
    unfold partAt at e
    split at e
    · rename_i o K' h1 h2
      cases e
      intro b ob q
      rw [List.lookup_cons] at q
      split at q
      · rename_i hb
        cases q
        rw [eq_of_beq hb]; exact h1
      · exact partAt_in h2 b ob q
    · cases e
def hook : Hook where
  α := Option ViewT
  obs := fun s => (partAt s.heap asK).map seeK
  val := fun _ => some dueK
  says := fun _ h => ∃ K : Frag, K.In h ∧ Told K
  of := fun w s e => by
    obtain ⟨K, h1, h2⟩ := Option.map_eq_some_iff.mp e
    exact ⟨K, partAt_in h1, h2⟩
  keeps := fun w h h' x k => let ⟨K, a, b⟩ := x; ⟨K, a.keeps k, b⟩
abbrev lawL : OpenLaw := PySem.Challenge.rw_kt0033_01
def xt : Shared → Bool := fun s => xlAt viewP [] s && recOk [] s
def LeftAt (w : World) : Prop := (openEnds treeTable lawL.prog w 5000).map (fun s => (openSeen viewP looseN (importedModules lawL.prog.main.body) xt true s, hook.obs s)) = some (openGood viewP looseN, hook.val w)
theorem left_ff (w : World) : LeftAt ((w.withFollow "special-get-raises" false).withFollow "comprehension-iter-twice" false) := by
  unfold LeftAt
  kernel_rfl
theorem left_ft (w : World) : LeftAt ((w.withFollow "special-get-raises" true).withFollow "comprehension-iter-twice" false) := by
  unfold LeftAt
  kernel_rfl
theorem left_tf (w : World) : LeftAt ((w.withFollow "special-get-raises" false).withFollow "comprehension-iter-twice" true) := by
  unfold LeftAt
  kernel_rfl
theorem left_tt (w : World) : LeftAt ((w.withFollow "special-get-raises" true).withFollow "comprehension-iter-twice" true) := by
  unfold LeftAt
  kernel_rfl
theorem left : LeftO lawL.row.prog viewP looseN xt hook.obs hook.val 5000 :=
  byRow2 "comprehension-iter-twice" (P := LeftAt)
    (byRow2 "special-get-raises" (P := fun w => LeftAt (w.withFollow "comprehension-iter-twice" false)) left_ff left_ft)
    (byRow2 "special-get-raises" (P := fun w => LeftAt (w.withFollow "comprehension-iter-twice" true)) left_tf left_tt)
theorem said : lawL.wellSaid = true := by kernel_rfl
theorem fits : (chainsOk viewP && opensWell lawL.row.prog && (frees lawL.row.toRowW && lawL.row.within.isEmpty)) = true := by decide +kernel
end Mine
open PySem PySem.W PyProof.Rows
set_option Elab.async false
namespace Mine
/-- plain data -/
inductive V where
  | none
  | bool (b : Bool)
  | int (i : Int)
  | str (l : List Nat)
  | bytes (l : List UInt8)
  | list (l : List V)
  | tup (l : List V)
  | rng (a b c : Int)
  | val (v : Value)
  | obj
def St (l : List Nat) : Str := ⟨l.toArray⟩
mutual
def Rd (h : Heap) (hot : Addr → Prop) : V → Value → Prop
  | .none, v => v = .none
  | .bool b, v => v = .bool b
  | .int i, v => ∃ t, v = .int i t
  | .str l, v => ∃ t, v = .str ⟨l.toArray⟩ t
  | .bytes l, v => ∃ t, v = .bytes l.toArray t
  | .list l, v => ∃ a items, v = .ref a ∧ ¬ hot a ∧ h.PlainList a items ∧ Rds h hot l items.toList
  | .tup l, v => ∃ a items, v = .ref a ∧ ¬ hot a ∧ h.IsTuple a items ∧ Rds h hot l items.toList
  | .rng a b c, v => ∃ r t u x, v = .ref r ∧ ¬ hot r ∧ IsRange h r a b c t u x
  | .val w, v => v = w
  | .obj, v => ∃ a, v = .ref a
def Rds (h : Heap) (hot : Addr → Prop) : List V → List Value → Prop
  | [], vs => vs = []
  | d :: ds, vs => ∃ v r, vs = v :: r ∧ Rd h hot d v ∧ Rds h hot ds r
end
abbrev Sub (h h' : Heap) : Prop := ∀ b o, h.get? b = some o → h'.get? b = some o
set_option linter.unusedVariables false
mutual
theorem Rd.mono {h h' : Heap} {hot hot' : Addr → Prop} (k : ∀ b o, ¬ hot b → h.get? b = some o → h'.get? b = some o ∧ ¬ hot' b) : ∀ (d : V) (v : Value), Rd h hot d v → Rd h' hot' d v
  | .none, v, x => by unfold Rd at x ⊢; exact x
  | .bool b, v, x => by unfold Rd at x ⊢; exact x
  | .int i, v, x => by unfold Rd at x ⊢; exact x
  | .str l, v, x => by unfold Rd at x ⊢; exact x
  | .bytes l, v, x => by unfold Rd at x ⊢; exact x
  | .val w, v, x => by unfold Rd at x ⊢; exact x
  | .obj, v, x => by unfold Rd at x ⊢; exact x
  | .rng a b c, v, x => by
    unfold Rd at x ⊢
    obtain ⟨r, t, u, y, rfl, ha, hr⟩ := x
    exact ⟨r, t, u, y, rfl, (k r _ ha hr).2, (k r _ ha hr).1⟩
  | .list l, v, x => by
    unfold Rd at x ⊢
    obtain ⟨a, items, rfl, ha, ⟨n, hl⟩, hr⟩ := x
    exact ⟨a, items, rfl, (k a _ ha hl).2, ⟨n, (k a _ ha hl).1⟩, Rds.mono k l _ hr⟩
  | .tup l, v, x => by
    unfold Rd at x ⊢
    obtain ⟨a, items, rfl, ha, ⟨o, hl, r⟩, hr⟩ := x
    exact ⟨a, items, rfl, (k a _ ha hl).2, ⟨o, (k a _ ha hl).1, r⟩, Rds.mono k l _ hr⟩
theorem Rds.mono {h h' : Heap} {hot hot' : Addr → Prop} (k : ∀ b o, ¬ hot b → h.get? b = some o → h'.get? b = some o ∧ ¬ hot' b) : ∀ (d : List V) (v : List Value), Rds h hot d v → Rds h' hot' d v
  | [], v, x => by unfold Rds at x ⊢; exact x
  | d :: ds, v, x => by
    unfold Rds at x ⊢
    obtain ⟨v, r, rfl, h1, h2⟩ := x
    exact ⟨v, r, rfl, Rd.mono k d v h1, Rds.mono k ds r h2⟩
end
theorem Rd.sub {h h' : Heap} {hot : Addr → Prop} (k : Sub h h') {d : V} {v : Value} (x : Rd h hot d v) : Rd h' hot d v := Rd.mono (fun b o n e => ⟨k b o e, n⟩) d v x
theorem Rds.sub {h h' : Heap} {hot : Addr → Prop} (k : Sub h h') {d : List V} {v : List Value} (x : Rds h hot d v) : Rds h' hot d v := Rds.mono (fun b o n e => ⟨k b o e, n⟩) d v x
theorem Rd.less {h : Heap} {hot hot' : Addr → Prop} (k : ∀ b, hot' b → hot b) {d : V} {v : Value} (x : Rd h hot d v) : Rd h hot' d v := Rd.mono (fun b o n e => ⟨e, fun q => n (k b q)⟩) d v x
theorem Rds.length {h : Heap} {hot : Addr → Prop} : ∀ {ds : List V} {vs : List Value}, Rds h hot ds vs → vs.length = ds.length
  | [], vs, x => by unfold Rds at x; subst x; rfl
  | d :: ds, vs, x => by unfold Rds at x; obtain ⟨v, r, rfl, h1, h2⟩ := x; simp [Rds.length h2]
theorem Rds.nil {h : Heap} {hot : Addr → Prop} : Rds h hot [] [] := by unfold Rds; rfl
theorem Rds.cons {h : Heap} {hot : Addr → Prop} {d : V} {ds : List V} {v : Value} {vs : List Value} (a : Rd h hot d v) (b : Rds h hot ds vs) : Rds h hot (d :: ds) (v :: vs) := by unfold Rds; exact ⟨v, vs, rfl, a, b⟩
theorem Rds.app {h : Heap} {hot : Addr → Prop} : ∀ {ds es : List V} {vs ws : List Value}, Rds h hot ds vs → Rds h hot es ws → Rds h hot (ds ++ es) (vs ++ ws)
  | [], _, vs, _, x, y => by unfold Rds at x; subst x; exact y
  | d :: ds, _, vs, _, x, y => by unfold Rds at x; obtain ⟨v, r, rfl, h1, h2⟩ := x; exact Rds.cons h1 (Rds.app h2 y)
theorem Rds.getElem {h : Heap} {hot : Addr → Prop} : ∀ {ds : List V} {vs : List Value} {i : Nat} {d : V}, Rds h hot ds vs → ds[i]? = some d → ∃ v, vs[i]? = some v ∧ Rd h hot d v
  | [], _, _, _, x, e => by simp at e
  | d :: ds, vs, 0, _, x, e => by unfold Rds at x; obtain ⟨v, r, rfl, h1, h2⟩ := x; simp at e; subst e; exact ⟨v, by simp, h1⟩
  | d :: ds, vs, i + 1, _, x, e => by unfold Rds at x; obtain ⟨v, r, rfl, h1, h2⟩ := x; simp at e; obtain ⟨w, a, b⟩ := Rds.getElem h2 e; exact ⟨w, by simpa using a, b⟩
theorem rd_none {h hot v} (x : Rd h hot .none v) : v = .none := by unfold Rd at x; exact x
theorem rd_bool {h hot b v} (x : Rd h hot (.bool b) v) : v = .bool b := by unfold Rd at x; exact x
theorem rd_int {h hot i v} (x : Rd h hot (.int i) v) : ∃ t, v = .int i t := by unfold Rd at x; exact x
theorem rd_str {h hot i v} (x : Rd h hot (.str i) v) : ∃ t, v = .str (St i) t := by unfold Rd at x; exact x
theorem rd_bytes {h hot i v} (x : Rd h hot (.bytes i) v) : ∃ t, v = .bytes i.toArray t := by unfold Rd at x; exact x
theorem rd_list {h hot l v} (x : Rd h hot (.list l) v) : ∃ a items, v = .ref a ∧ ¬ hot a ∧ h.PlainList a items ∧ Rds h hot l items.toList := by unfold Rd at x; exact x
theorem rd_tup {h hot l v} (x : Rd h hot (.tup l) v) : ∃ a items, v = .ref a ∧ ¬ hot a ∧ h.IsTuple a items ∧ Rds h hot l items.toList := by unfold Rd at x; exact x
theorem rd_rng {h hot a b c v} (x : Rd h hot (.rng a b c) v) : ∃ r t u y, v = .ref r ∧ ¬ hot r ∧ IsRange h r a b c t u y := by unfold Rd at x; exact x
theorem rd_val {h hot w v} (x : Rd h hot (.val w) v) : v = w := by unfold Rd at x; exact x
theorem mk_none {h hot} : Rd h hot .none .none := by unfold Rd; rfl
theorem mk_bool {h hot b} : Rd h hot (.bool b) (.bool b) := by unfold Rd; rfl
theorem mk_int {h hot i t} : Rd h hot (.int i) (.int i t) := by unfold Rd; exact ⟨t, rfl⟩
theorem mk_str {h hot i t} : Rd h hot (.str i) (.str (St i) t) := by unfold Rd; exact ⟨t, rfl⟩
theorem mk_bytes {h hot i t} : Rd h hot (.bytes i) (.bytes i.toArray t) := by unfold Rd; exact ⟨t, rfl⟩
theorem rd_obj {h hot v} (x : Rd h hot .obj v) : ∃ a, v = .ref a := by unfold Rd at x; exact x
theorem mk_obj {h hot a} : Rd h hot .obj (.ref a) := by unfold Rd; exact ⟨a, rfl⟩
theorem mk_val {h hot w} : Rd h hot (.val w) w := by unfold Rd; rfl
/-- what the claim's call stands on -/
structure Wo where
  prog : Program
  w : World
  B : Heap
  mg : Str → Option Value
  mb : Str → Option Value
  hg : B.Ns mainGlobals mg
  hb : B.Ns builtinsNs mb
  hbt : ∀ x : Str, x ≠ "__name__" → mb x = bootBuiltins x
  hnl : B.NoLimit
structure Grow (s s' : Shared) : Prop where
  sub : Sub s.heap s'.heap
  os : s'.os = s.os
  gens : AllBare s.gens → AllBare s'.gens
theorem Grow.refl (s : Shared) : Grow s s := ⟨fun _ _ e => e, rfl, fun e => e⟩
theorem Grow.trans {a b c : Shared} (x : Grow a b) (y : Grow b c) : Grow a c := ⟨fun p o e => y.sub p o (x.sub p o e), y.os.trans x.os, fun e => y.gens (x.gens e)⟩
theorem Grow.mk' {s : Shared} {h : Heap} {t : Nat} (k : Sub s.heap h) : Grow s { s with heap := h, toks := t } := ⟨k, rfl, fun e => e⟩
theorem Grow.tok {s : Shared} {t : Nat} : Grow s { s with toks := t } := ⟨fun _ _ e => e, rfl, fun e => e⟩
def VarIs (env : Env) (h : Heap) (x : Str) (v : Value) : Prop :=
  (env.scope.names.lookup x = some .local ∧ ∃ m, h.Ns env.locals m ∧ m x = some v) ∨
  ((env.scope.names.lookup x = some .cell ∨ env.scope.names.lookup x = some .free) ∧ ∃ c, env.cells.lookup x = some c ∧ h.IsCell c (some v))
theorem VarIs.sub {env : Env} {h h' : Heap} {x : Str} {v : Value} (k : Sub h h') (y : VarIs env h x v) : VarIs env h' x v := by
  rcases y with ⟨a, m, hn, hm⟩ | ⟨a, c, hc, hv⟩
  · exact .inl ⟨a, m, hn.keeps k, hm⟩
  · exact .inr ⟨a, c, hc, hv.keeps k⟩
inductive Slot where
  | unset
  | val (d : V)
  | own (l : List V)
  | app (x : Str)
abbrev Store := List (Str × Slot)
def isVar (sc : Scope) (x : Str) : Bool := !(x == ("__debug__" : Str)) && !(x == ("__classdict__" : Str)) && match sc.names.lookup x with
  | some .local | some .cell | some .free => true
  | _ => false
theorem isVar_1 {sc x} (h : isVar sc x = true) : (x == ("__debug__" : Str)) = false := by
  unfold isVar at h; simp only [Bool.and_eq_true, Bool.not_eq_true'] at h; exact h.1.1
theorem isVar_2 {sc x} (h : isVar sc x = true) : (x == ("__classdict__" : Str)) = false := by
  unfold isVar at h; simp only [Bool.and_eq_true, Bool.not_eq_true'] at h; exact h.1.2
def boundApp (h : Heap) (b a : Addr) : Prop := ∃ o, h.get? b = some o ∧ o.cls = .type "builtin_function_or_method" ∧ o.data = .fields #[.builtin "list.append", .ref a]
def SlotOk (env : Env) (h : Heap) (hot : Addr → Prop) (x : Str) : Slot → Prop
  | .unset => True
  | .val d => ∃ v, VarIs env h x v ∧ Rd h hot d v
  | .own l => ∃ a items, VarIs env h x (.ref a) ∧ h.PlainList a items ∧ Rds h hot l items.toList
  | .app _ => True
structure Good (W : Wo) (env : Env) (σ : Store) (hot : Addr → Prop) (s : Shared) : Prop where
  base : Sub W.B s.heap
  kind : env.scope.kind = .function
  globals : env.globals = mainGlobals
  builtins : env.builtins = builtinsNs
  cells : ∀ x, (env.scope.names.lookup x = some .cell ∨ env.scope.names.lookup x = some .free) → (env.cells.lookup x).isSome = true
  vars : ∀ p ∈ σ, isVar env.scope p.1 = true → SlotOk env s.heap hot p.1 p.2
  alive : ∀ a, hot a → ∃ o, s.heap.get? a = some o
theorem Good.grow {W env σ hot s s'} (g : Good W env σ hot s) (k : Grow s s') : Good W env σ hot s' where
  base := fun b o e => k.sub b o (g.base b o e)
  kind := g.kind
  globals := g.globals
  builtins := g.builtins
  cells := g.cells
  vars := fun p hp hv => by
    have := g.vars p hp hv
    cases h : p.2 with
    | unset => trivial
    | val d => rw [h] at this; obtain ⟨v, a, b⟩ := this; exact ⟨v, a.sub k.sub, b.sub k.sub⟩
    | own l => rw [h] at this; obtain ⟨a, items, x, ⟨n, y⟩, z⟩ := this; exact ⟨a, items, x.sub k.sub, ⟨n, k.sub _ _ y⟩, z.sub k.sub⟩
    | app l => trivial
  alive := fun a ha => (g.alive a ha).imp fun o e => k.sub a o e
/-- room to call: n levels of calls may follow -/
structure Room (A : Around) (n : Nat) : Prop where
  handled : A.handled = none
  depth : A.depth + n < 600
  units : A.units + 20 * n < 5000
theorem Room.in1 {A n} (r : Room A (n + 1)) : Room A.in1 n := ⟨r.handled, by have := r.depth; simp; omega, by have := r.units; simp; omega⟩
theorem Room.deeper {A n e} (r : Room A (n + 1)) : Room (A.deeper e) n := ⟨r.handled, by have := r.depth; show A.depth + 1 + n < 600; omega, by have := r.units; simp; omega⟩
theorem Room.less {A n m} (r : Room A n) (h : m ≤ n) : Room A m := ⟨r.handled, by have := r.depth; omega, by have := r.units; omega⟩
theorem Room.lim {A n} (r : Room A n) : A.depth < recursionLimit := by have := r.depth; unfold recursionLimit; omega
theorem Room.line {A n} (r : Room A n) : A.units < cLine := by have := r.units; unfold cLine; omega
/-- the expression gives the datum -/
structure Ev (W : Wo) (n : Nat) (sc : Scope) (σ : Store) (e : PySem.Expr) (d : V) : Prop where
  run : ∀ env, env.scope = sc → ∀ A, Room A n → ∀ s hot (Q : Value → Shared → Prop) E, Good W env σ hot s →
    (∀ v s', Grow s s' → Rd s'.heap hot d v → Q v s') → wpAny (model W.prog W.w) A (eval e env) Q E s
structure EvT (W : Wo) (n : Nat) (sc : Scope) (σ : Store) (e : PySem.Expr) (b : Bool) : Prop where
  run : ∀ env, env.scope = sc → ∀ A, Room A n → ∀ s hot (Q : Bool → Shared → Prop) E, Good W env σ hot s →
    (∀ s', Grow s s' → Q b s') → wpAny (model W.prog W.w) A (isTrue e env (eval e env)) Q E s
section
variable {W : Wo} {n : Nat} {sc : Scope} {σ : Store}
theorem Ev.name {x : Str} {pos : Pos} {d : V} (hm : (x, Slot.val d) ∈ σ) (hv : isVar sc x = true) : Ev W n sc σ (.Name x pos) d := by
  refine ⟨?_⟩
  intro env he A hA s hot Q E g k
  subst he
  have hd := isVar_1 hv
  obtain ⟨v, hx, hr⟩ := g.vars _ hm hv
  rcases hx with ⟨a, m, hn, hmx⟩ | ⟨a | a, c, hc, hcv⟩
  · exact wpAny_Name (wpAny_loadName_local g.kind a hn hmx (k v s (.refl s) hr)) hd
  · exact wpAny_Name (wpAny_loadName_cell g.kind a hc hcv (k v s (.refl s) hr)) hd
  · exact wpAny_Name (wpAny_loadName_free g.kind a hc hcv (k v s (.refl s) hr) (isVar_2 hv)) hd
end
/-- the frame of a running def: what it may write, what it must keep -/
def OwnOk (env : Env) (base : Shared) (h : Heap) (hot : Addr → Prop) (oa : Str → Addr) (x : Str) (l : List V) : Prop :=
  ∃ items, VarIs env h x (.ref (oa x)) ∧ h.PlainList (oa x) items ∧ Rds h hot l items.toList ∧ hot (oa x) ∧ base.heap.get? (oa x) = none ∧ oa x ≠ env.locals
def SlotF (env : Env) (base : Shared) (h : Heap) (hot : Addr → Prop) (oa : Str → Addr) (x : Str) : Slot → Prop
  | .unset => True
  | .val d => ∃ v, VarIs env h x v ∧ Rd h hot d v
  | .own l => OwnOk env base h hot oa x l
  | .app y => ∃ b, VarIs env h x (.ref b) ∧ boundApp h b (oa y) ∧ ¬ hot b
def Slot.isOwn : Slot → Bool
  | .own _ => true
  | _ => false
structure Fm (W : Wo) (env : Env) (base : Shared) (out hot : Addr → Prop) (oa : Str → Addr) (σ : Store) (s : Shared) : Prop where
  wbase : Sub W.B base.heap
  grow : Grow base s
  kind : env.scope.kind = .function
  globals : env.globals = mainGlobals
  builtins : env.builtins = builtinsNs
  nodup : (σ.map (·.1)).Nodup
  isv : ∀ p ∈ σ, isVar env.scope p.1 = true
  lc : ∀ p ∈ σ, env.scope.names.lookup p.1 = some .local ∨ env.scope.names.lookup p.1 = some .cell
  ns : ∃ m, s.heap.Ns env.locals m
  nsNew : base.heap.get? env.locals = none
  cells : ∀ x, (env.scope.names.lookup x = some .cell ∨ env.scope.names.lookup x = some .free) → (env.cells.lookup x).isSome = true
  cl : ∀ p ∈ σ, env.scope.names.lookup p.1 = some .cell → ∃ c v, env.cells.lookup p.1 = some c ∧ s.heap.IsCell c v ∧ base.heap.get? c = none ∧ c ≠ env.locals ∧ hot c
  apart : ∀ p ∈ σ, ∀ q ∈ σ, env.scope.names.lookup p.1 = some .cell → env.scope.names.lookup q.1 = some .cell → ∀ c, env.cells.lookup p.1 = some c → env.cells.lookup q.1 = some c → p.1 = q.1
  ownCell : ∀ p ∈ σ, ∀ q ∈ σ, env.scope.names.lookup p.1 = some .cell → q.2.isOwn = true → env.cells.lookup p.1 ≠ some (oa q.1)
  vars : ∀ p ∈ σ, SlotF env base s.heap hot oa p.1 p.2
  alive : ∀ a, hot a → ∃ o, s.heap.get? a = some o
  outhot : ∀ a, out a → hot a
  outlive : ∀ a, out a → ∃ o, base.heap.get? a = some o
  hotnew : ∀ a, hot a → out a ∨ base.heap.get? a = none
  nshot : hot env.locals
  inj : ∀ p ∈ σ, ∀ q ∈ σ, p.2.isOwn = true → q.2.isOwn = true → oa p.1 = oa q.1 → p.1 = q.1
theorem Fm.good {W env base out hot oa σ s} (F : Fm W env base out hot oa σ s) : Good W env σ hot s where
  base := fun b o e => F.grow.sub b o (F.wbase b o e)
  kind := F.kind
  globals := F.globals
  builtins := F.builtins
  cells := F.cells
  vars := fun p hp _ => by
    have := F.vars p hp
    cases h : p.2 with
    | unset => trivial
    | val d => rw [h] at this; exact this
    | own l => rw [h] at this; obtain ⟨items, a, b, c, _⟩ := this; exact ⟨_, items, a, b, c⟩
    | app l => trivial
  alive := F.alive
theorem SlotF.sub {env base h h' hot oa x t} (k : Sub h h') (y : SlotF env base h hot oa x t) : SlotF env base h' hot oa x t := by
  cases t with
  | unset => trivial
  | val d => obtain ⟨v, a, b⟩ := y; exact ⟨v, a.sub k, b.sub k⟩
  | own l => obtain ⟨items, a, ⟨n, b⟩, c, d⟩ := y; exact ⟨items, a.sub k, ⟨n, k _ _ b⟩, c.sub k, d⟩
  | app l => obtain ⟨b, a, ⟨o, b', c⟩, d⟩ := y; exact ⟨b, a.sub k, ⟨o, k _ _ b', c⟩, d⟩
theorem Fm.grown {W env base out hot oa σ s s'} (F : Fm W env base out hot oa σ s) (k : Grow s s') : Fm W env base out hot oa σ s' :=
  { F with
    grow := F.grow.trans k
    ns := F.ns.imp fun m hm => hm.keeps k.sub
    cl := fun p hp hc => let ⟨c, v, a, b, d⟩ := F.cl p hp hc; ⟨c, v, a, b.keeps k.sub, d⟩
    vars := fun p hp => (F.vars p hp).sub k.sub
    alive := fun a ha => (F.alive a ha).imp fun o e => k.sub a o e }
inductive Put (x : Str) (t : Slot) : Store → Store → Prop
  | here {o r} : Put x t ((x, o) :: r) ((x, t) :: r)
  | there {p r r'} : Put x t r r' → Put x t (p :: r) (p :: r')
theorem Put.names {x t σ σ'} (h : Put x t σ σ') : σ'.map (·.1) = σ.map (·.1) := by
  induction h with
  | here => rfl
  | there _ ih => simp [ih]
theorem Put.mem {x t σ σ'} (h : Put x t σ σ') : x ∈ σ.map (·.1) := by
  induction h with
  | here => simp
  | there _ ih => simp only [List.map_cons, List.mem_cons]; exact .inr ih
theorem Put.cases {x t σ σ'} (h : Put x t σ σ') (nd : (σ.map (·.1)).Nodup) : ∀ p ∈ σ', p = (x, t) ∨ (p ∈ σ ∧ p.1 ≠ x) := by
  induction h with
  | here =>
    intro p hp
    rcases List.mem_cons.mp hp with e | hp
    · exact .inl e
    · refine .inr ⟨List.mem_cons_of_mem _ hp, fun e => ?_⟩
      simp only [List.map_cons, List.nodup_cons] at nd
      exact nd.1 (e ▸ List.mem_map_of_mem hp)
  | @there q r r' h' ih =>
    intro p hp
    simp only [List.map_cons, List.nodup_cons] at nd
    rcases List.mem_cons.mp hp with e | hp
    · subst e; exact .inr ⟨List.mem_cons_self, fun e => nd.1 (e ▸ h'.mem)⟩
    · rcases ih nd.2 p hp with e | ⟨a, b⟩
      · exact .inl e
      · exact .inr ⟨List.mem_cons_of_mem _ a, b⟩
/-- a write at one hot address that is no base object -/
theorem Grow.sameBut {base s : Shared} {a : Addr} {h' : Heap} {t : Nat} (g : Grow base s) (hn : base.heap.get? a = none) (hs : Heap.SameBut a s.heap h') : Grow base { s with heap := h', toks := t } where
  sub := fun b o e => (hs.2 b (fun q => by rw [q, hn] at e; cases e)).trans (g.sub b o e)
  os := g.os
  gens := g.gens
theorem alive_same {hot : Addr → Prop} {h h' : Heap} {a : Addr} (al : ∀ a, hot a → ∃ o, h.get? a = some o) (hs : Heap.SameBut a h h') (ha : ∃ o, h'.get? a = some o) : ∀ b, hot b → ∃ o, h'.get? b = some o := fun b hb => by
  by_cases q : b = a
  · exact q ▸ ha
  · obtain ⟨o, e⟩ := al b hb; exact ⟨o, (hs.2 b q).trans e⟩
section
variable {W : Wo} {env : Env} {base : Shared} {out hot : Addr → Prop} {oa : Str → Addr} {σ σ' : Store} {s : Shared} {M : Model} {A : Around} {E : Value → Shared → Prop}
theorem VarIs.same {h h' : Heap} {a : Addr} {x : Str} {v : Value} (y : VarIs env h x v) (hs : Heap.SameBut a h h') (h1 : env.locals ≠ a) (h2 : env.scope.names.lookup x = some .cell ∨ env.scope.names.lookup x = some .free → ∀ c, env.cells.lookup x = some c → c ≠ a) : VarIs env h' x v := by
  rcases y with ⟨k, m, hn, hm⟩ | ⟨k, c, hc, hv⟩
  · exact .inl ⟨k, m, hn.sameBut hs h1, hm⟩
  · exact .inr ⟨k, c, hc, hv.sameBut hs (h2 k c hc)⟩
theorem Rd.same {h h' : Heap} {a : Addr} {d : V} {v : Value} (x : Rd h hot d v) (ha : hot a) (hs : Heap.SameBut a h h') : Rd h' hot d v :=
  Rd.mono (fun b _ nb e => ⟨(hs.2 b (fun q => nb (q ▸ ha))).trans e, nb⟩) d v x
theorem Rds.same {h h' : Heap} {a : Addr} {d : List V} {v : List Value} (x : Rds h hot d v) (ha : hot a) (hs : Heap.SameBut a h h') : Rds h' hot d v :=
  Rds.mono (fun b _ nb e => ⟨(hs.2 b (fun q => nb (q ▸ ha))).trans e, nb⟩) d v x
theorem ne_hot {a b : Addr} (h : hot a) (n : ¬ hot b) : b ≠ a := fun q => n (q ▸ h)
theorem VarIs.store_local {h h' : Heap} {x y : Str} {v w : Value} {m : Str → Option Value} (z : VarIs env h y w) (hm : h.Ns env.locals m) (hn' : h'.Ns env.locals fun z => if z = x then some v else m z) (hs' : Heap.SameBut env.locals h h')
    (hne : y ≠ x) (cne : ∀ c, env.cells.lookup y = some c → (env.scope.names.lookup y = some .cell ∨ env.scope.names.lookup y = some .free) → c ≠ env.locals) : VarIs env h' y w := by
  rcases z with ⟨k, m', hm', hmx⟩ | ⟨k, c, hc, hv⟩
  · refine .inl ⟨k, _, hn', ?_⟩
    rw [if_neg hne]
    obtain ⟨o1, es, ep, e1, e2, _, e4⟩ := hm
    obtain ⟨o2, es', ep', f1, f2, _, f4⟩ := hm'
    rw [e1] at f1; cases f1; rw [e2] at f2; cases f2
    rw [← e4, f4]; exact hmx
  · exact .inr ⟨k, c, hc, hv.sameBut hs' (cne c hc k)⟩
/-- what a put leaves: the names, the old slots -/
theorem Put.all {x : Str} {t : Slot} (hp : Put x t σ σ') (nd : (σ.map (·.1)).Nodup) {P : Str → Prop} (h : ∀ p ∈ σ, P p.1) : ∀ p ∈ σ', P p.1 := by
  intro p hq
  rcases hp.cases nd p hq with e | ⟨a, _⟩
  · subst e
    obtain ⟨q, a, b⟩ := List.mem_map.mp hp.mem
    exact b ▸ h q a
  · exact h p a
theorem Put.back {x : Str} {t : Slot} (hp : Put x t σ σ') (nd : (σ.map (·.1)).Nodup) : ∀ p ∈ σ', ∃ q ∈ σ, q.1 = p.1 := hp.all nd (P := fun y => ∃ q ∈ σ, q.1 = y) fun p h => ⟨p, h, rfl⟩
/-- a store of a value into a name of the frame; the new slot is told by the caller -/
theorem Fm.storeAny {x : Str} {t : Slot} {v : Value} {oa' : Str → Addr} {hot' : Addr → Prop} {Q : Unit → Shared → Prop} (F : Fm W env base out hot oa σ s) (hp : Put x t σ σ')
    (hh : ∀ a, hot a → hot' a) (hhn : ∀ a, hot' a → out a ∨ base.heap.get? a = none) (hal : ∀ a, hot' a → ∃ o, s.heap.get? a = some o) (hrd : ∀ d v, Rd s.heap hot d v → Rd s.heap hot' d v) (hrds : ∀ d v, Rds s.heap hot d v → Rds s.heap hot' d v)
    (hoa : ∀ y, y ≠ x → oa' y = oa y) (happ : ∀ p ∈ σ, ∀ y, p.2 = .app y → p.1 ≠ x → y ≠ x ∧ ∀ b, boundApp s.heap b (oa y) → ¬ hot b → ¬ hot' b)
    (hown : t.isOwn = true → base.heap.get? (oa' x) = none ∧ oa' x ≠ env.locals ∧ (∀ q ∈ σ, q.2.isOwn = true → q.1 ≠ x → oa q.1 ≠ oa' x) ∧ (∀ q ∈ σ, env.scope.names.lookup q.1 = some .cell → env.cells.lookup q.1 ≠ some (oa' x)))
    (ht : ∀ h', (∀ b, b ≠ env.locals → (∀ c, env.scope.names.lookup x = some .cell → env.cells.lookup x = some c → b ≠ c) → h'.get? b = s.heap.get? b) → VarIs env h' x v → SlotF env base h' hot' oa' x t)
    (h : ∀ s', Fm W env base out hot' oa' σ' s' → Q () s') : wpAny M A (storeName env x v) Q E s := by
  have hx : ∃ o, (x, o) ∈ σ := by obtain ⟨p, a, b⟩ := List.mem_map.mp hp.mem; exact ⟨p.2, by rw [← b]; exact a⟩
  obtain ⟨o₀, hx⟩ := hx
  have back := hp.back F.nodup
  have inj' : ∀ p ∈ σ', ∀ q ∈ σ', p.2.isOwn = true → q.2.isOwn = true → oa' p.1 = oa' q.1 → p.1 = q.1 := by
    intro p hq q hq' hp1 hq1 he
    rcases hp.cases F.nodup p hq with e | ⟨a, na⟩
    · subst e
      rcases hp.cases F.nodup q hq' with e | ⟨b, nb⟩
      · subst e; rfl
      · exact absurd (by rw [hoa _ nb] at he; exact he.symm) ((hown hp1).2.2.1 q b hq1 nb)
    · rcases hp.cases F.nodup q hq' with e | ⟨b, nb⟩
      · subst e; exact absurd (by rw [hoa _ na] at he; exact he) ((hown hq1).2.2.1 p a hp1 na)
      · exact F.inj p a q b hp1 hq1 (by rw [hoa _ na, hoa _ nb] at he; exact he)
  have ownCell' : ∀ p ∈ σ', ∀ q ∈ σ', env.scope.names.lookup p.1 = some .cell → q.2.isOwn = true → env.cells.lookup p.1 ≠ some (oa' q.1) := by
    intro p hq q hq' hk hq1
    obtain ⟨p', hp', ep⟩ := back p hq
    rcases hp.cases F.nodup q hq' with e | ⟨b, nb⟩
    · subst e; have := (hown hq1).2.2.2 p' hp' (by rw [ep]; exact hk); rw [ep] at this; exact this
    · rw [hoa _ nb]; have := F.ownCell p' hp' q b (by rw [ep]; exact hk) hq1; rw [ep] at this; exact this
  have apart' : ∀ p ∈ σ', ∀ q ∈ σ', env.scope.names.lookup p.1 = some .cell → env.scope.names.lookup q.1 = some .cell → ∀ c, env.cells.lookup p.1 = some c → env.cells.lookup q.1 = some c → p.1 = q.1 := by
    intro p hq q hq' k1 k2 c h1 h2
    obtain ⟨p', hp', ep⟩ := back p hq
    obtain ⟨q', hq'', eq⟩ := back q hq'
    rw [← ep] at k1 h1 ⊢; rw [← eq] at k2 h2 ⊢
    exact F.apart p' hp' q' hq'' k1 k2 c h1 h2
  have isv' := hp.all F.nodup (P := fun y => isVar env.scope y = true) F.isv
  have lc' := hp.all F.nodup (P := fun y => env.scope.names.lookup y = some .local ∨ env.scope.names.lookup y = some .cell) F.lc
  have nd' : (σ'.map (·.1)).Nodup := by rw [hp.names]; exact F.nodup
  rcases F.lc _ hx with hl | hl
  · obtain ⟨m, hm⟩ := F.ns
    refine wpAny_storeName_local hl hm (fun h' hn' hs' => h _ ?_) (by rw [F.kind]; rfl)
    refine { F with grow := F.grow.sameBut F.nsNew hs', ns := ⟨_, hn'⟩, nodup := nd', isv := isv', lc := lc', cl := ?_, apart := apart', ownCell := ownCell', vars := ?_, alive := alive_same hal hs' (let ⟨o, _, _, e, _⟩ := hn'; ⟨o, e⟩), outhot := fun a ha => hh a (F.outhot a ha), hotnew := hhn, nshot := hh _ F.nshot, inj := inj' }
    · intro p hq hc
      obtain ⟨p', hp', ep⟩ := back p hq
      obtain ⟨c, w, h1, h2, h3, h4, h5⟩ := F.cl p' hp' (by rw [ep]; exact hc)
      rw [ep] at h1
      exact ⟨c, w, h1, h2.sameBut hs' h4, h3, h4, hh _ h5⟩
    · intro p hq
      rcases hp.cases F.nodup p hq with e | ⟨a, hne⟩
      · subst e
        exact ht h' (fun b h1 _ => hs'.2 b h1) (.inl ⟨hl, _, hn', by simp⟩)
      · have vi : ∀ w, VarIs env s.heap p.1 w → VarIs env h' p.1 w := fun w y => y.store_local hm hn' hs' hne fun c hc hk => by
          rcases F.lc p a with k | k
          · rw [k] at hk; rcases hk with hk | hk <;> cases hk
          · obtain ⟨c', w', h1, _, _, h4, _⟩ := F.cl p a k
            rw [hc] at h1; cases h1; exact h4
        have old := F.vars p a
        cases ht' : p.2 with
        | unset => trivial
        | val d' => rw [ht'] at old; obtain ⟨w, y, z⟩ := old; exact ⟨w, vi w y, (hrd _ _ z).same (hh _ F.nshot) hs'⟩
        | own l =>
          rw [ht'] at old; obtain ⟨items, y, ⟨n, z⟩, r, h1, h2, h3⟩ := old
          show OwnOk _ _ _ _ _ _ _
          unfold OwnOk
          rw [hoa _ hne]
          exact ⟨items, vi _ y, ⟨n, (hs'.2 _ h3).trans z⟩, (hrds _ _ r).same (hh _ F.nshot) hs', hh _ h1, h2, h3⟩
        | app y =>
          rw [ht'] at old; obtain ⟨b, y', z', nb⟩ := old
          obtain ⟨yx, hb⟩ := happ p a y ht' hne
          have nb' := hb b z' nb
          obtain ⟨o, z, r⟩ := z'
          refine ⟨b, vi _ y', ?_, nb'⟩
          rw [hoa _ yx]
          exact ⟨o, (hs'.2 _ (ne_hot F.nshot nb)).trans z, r⟩
  · obtain ⟨c, v₀, hc, hv₀, cn, cL, ch⟩ := F.cl _ hx hl
    refine wpAny_storeName_cell F.kind hl hc hv₀ fun h' hv' hs' => h _ ?_
    refine { F with grow := F.grow.sameBut cn hs', ns := F.ns.imp fun m hm => hm.sameBut hs' (Ne.symm cL), nodup := nd', isv := isv', lc := lc', cl := ?_, apart := apart', ownCell := ownCell', vars := ?_, alive := alive_same hal hs' (let ⟨o, e, _⟩ := hv'; ⟨o, e⟩), outhot := fun a ha => hh a (F.outhot a ha), hotnew := hhn, nshot := hh _ F.nshot, inj := inj' }
    · intro p hq hk
      rcases hp.cases F.nodup p hq with e | ⟨a, hne⟩
      · subst e; exact ⟨c, _, hc, hv', cn, cL, hh _ ch⟩
      · obtain ⟨c', w, h1, h2, h3, h4, h5⟩ := F.cl p a hk
        exact ⟨c', w, h1, h2.sameBut hs' (fun e => hne (F.apart p a _ hx hk hl c' h1 (e ▸ hc))), h3, h4, hh _ h5⟩
    · intro p hq
      rcases hp.cases F.nodup p hq with e | ⟨a, hne⟩
      · subst e
        exact ht h' (fun b _ h2 => hs'.2 b (h2 c hl hc)) (.inr ⟨.inl hl, c, hc, hv'⟩)
      · have vi : ∀ w, VarIs env s.heap p.1 w → VarIs env h' p.1 w := fun w y => y.same hs' (Ne.symm cL) fun k' c' hc' => by
          rcases F.lc p a with k | k
          · rw [k] at k'; rcases k' with k' | k' <;> cases k'
          · exact fun e => hne (F.apart p a _ hx k hl c' hc' (e ▸ hc))
        have old := F.vars p a
        cases ht' : p.2 with
        | unset => trivial
        | val d' => rw [ht'] at old; obtain ⟨w, y, z⟩ := old; exact ⟨w, vi w y, (hrd _ _ z).same (hh _ ch) hs'⟩
        | own l =>
          rw [ht'] at old; obtain ⟨items, y, ⟨n, z⟩, r, h1, h2, h3⟩ := old
          show OwnOk _ _ _ _ _ _ _
          unfold OwnOk
          rw [hoa _ hne]
          exact ⟨items, vi _ y, ⟨n, (hs'.2 _ (fun q => F.ownCell (x, o₀) hx p a hl (by rw [ht']; rfl) (hc.trans (congrArg some q.symm)))).trans z⟩, (hrds _ _ r).same (hh _ ch) hs', hh _ h1, h2, h3⟩
        | app y =>
          rw [ht'] at old; obtain ⟨b, y', z', nb⟩ := old
          obtain ⟨yx, hb⟩ := happ p a y ht' hne
          have nb' := hb b z' nb
          obtain ⟨o, z, r⟩ := z'
          refine ⟨b, vi _ y', ?_, nb'⟩
          rw [hoa _ yx]
          exact ⟨o, (hs'.2 _ (ne_hot ch nb)).trans z, r⟩
/-- the frame behind a store of a plain datum -/
theorem Fm.store {x : Str} {d : V} {v : Value} {Q : Unit → Shared → Prop} (F : Fm W env base out hot oa σ s) (hp : Put x (.val d) σ σ') (hr : Rd s.heap hot d v) (hna : ∀ p ∈ σ, p.2 ≠ .app x)
    (h : ∀ s', Fm W env base out hot oa σ' s' → Q () s') : wpAny M A (storeName env x v) Q E s := by
  have hx : ∃ o, (x, o) ∈ σ := by obtain ⟨p, a, b⟩ := List.mem_map.mp hp.mem; exact ⟨p.2, by rw [← b]; exact a⟩
  obtain ⟨o₀, hx⟩ := hx
  refine F.storeAny hp (fun _ e => e) F.hotnew F.alive (fun _ _ e => e) (fun _ _ e => e) (fun _ _ => rfl) (fun p hp y e _ => ⟨fun q => hna p hp (by rw [e, q]), fun _ _ e => e⟩) (fun e => by cases e) (fun h' hk hv => ⟨v, hv, ?_⟩) h
  refine Rd.mono (fun b o nb e => ⟨(hk b (ne_hot F.nshot nb) fun c hl hc q => ?_).trans e, nb⟩) d v hr
  obtain ⟨c', _, h1, _, _, _, h5⟩ := F.cl _ hx hl
  rw [hc] at h1; cases h1
  exact nb (q ▸ h5)
end
end Mine
open PySem PySem.W PyProof.Rows
set_option Elab.async false
set_option linter.unusedVariables false
namespace Mine
theorem ofString_L (s : String) : Str.ofString s = St (L s) := by simp [L, St]
/-- an operation on two values -/
def BinOk (W : Wo) (op : Operator) (a b c : V) : Prop :=
  ∀ A, Room A 0 → ∀ s hot v₁ v₂ (Q : Value → Shared → Prop) E, Sub W.B s.heap → (∀ a, hot a → ∃ o, s.heap.get? a = some o) → Rd s.heap hot a v₁ → Rd s.heap hot b v₂ →
    (∀ v s', Grow s s' → Rd s'.heap hot c v → Q v s') → wpAny (model W.prog W.w) A (binaryOp op v₁ v₂) Q E s
def CmpOk (W : Wo) (op : CmpOp) (a b : V) (c : Bool) : Prop :=
  ∀ A, Room A 0 → ∀ s hot v₁ v₂ (Q : Value → Shared → Prop) E, Sub W.B s.heap → (∀ a, hot a → ∃ o, s.heap.get? a = some o) → Rd s.heap hot a v₁ → Rd s.heap hot b v₂ →
    (∀ s', Grow s s' → Q (.bool c) s') → wpAny (model W.prog W.w) A (compareOp op v₁ v₂) Q E s
def UnOk (W : Wo) (op : UnaryOp) (a c : V) : Prop :=
  ∀ A, Room A 0 → ∀ s hot v₁ (Q : Value → Shared → Prop) E, Sub W.B s.heap → Rd s.heap hot a v₁ →
    (∀ v s', Grow s s' → Rd s'.heap hot c v → Q v s') → wpAny (model W.prog W.w) A (unaryOp op v₁) Q E s
def TruOk (W : Wo) (a : V) (c : Bool) : Prop :=
  ∀ A, Room A 0 → ∀ s hot v₁ (Q : Bool → Shared → Prop) E, Sub W.B s.heap → Rd s.heap hot a v₁ →
    (∀ s', Grow s s' → Q c s') → wpAny (model W.prog W.w) A (truthy v₁) Q E s
def ItemOk (W : Wo) (a i c : V) : Prop :=
  ∀ A, Room A 0 → ∀ s hot v₁ v₂ (Q : Value → Shared → Prop) E, Sub W.B s.heap → (∀ a, hot a → ∃ o, s.heap.get? a = some o) → Rd s.heap hot a v₁ → Rd s.heap hot i v₂ →
    (∀ v s', Grow s s' → Rd s'.heap hot c v → Q v s') → ∃ T id, typeLookup (.type T) "__getitem__" = pure (some (.builtin id)) ∧ s.TypeIs v₁ T ∧ wpAny (model W.prog W.w) A (getItem v₁ v₂) Q E s
theorem intBits_le {a : Int} (h : a.natAbs < 2 ^ 64) : Builtin.Int.intBits a ≤ 64 := by
  unfold Builtin.Int.intBits
  split
  · omega
  · rename_i h0
    have : a.natAbs ≠ 0 := by simpa using h0
    have := (Nat.log2_lt this).mpr h
    omega
section
variable {W : Wo} {n : Nat} {sc : Scope} {σ : Store}
theorem BinOk.add {a b : Int} : BinOk W .Add (.int a) (.int b) (.int (a + b)) := by
  intro A hA s hot v₁ v₂ Q E _ _ h1 h2 k
  obtain ⟨t, rfl⟩ := rd_int h1; obtain ⟨u, rfl⟩ := rd_int h2
  exact @P.add_int _ _ _ _ _ _ _ _ _ _ (k _ _ .tok mk_int)
theorem BinOk.sub {a b : Int} : BinOk W .Sub (.int a) (.int b) (.int (a - b)) := by
  intro A hA s hot v₁ v₂ Q E _ _ h1 h2 k
  obtain ⟨t, rfl⟩ := rd_int h1; obtain ⟨u, rfl⟩ := rd_int h2
  exact @P.sub_int _ _ _ _ _ _ _ _ _ _ (k _ _ .tok mk_int)
theorem BinOk.mulL {a b : Int} (h : a.natAbs < 2 ^ 64) : BinOk W .Mult (.int a) (.int b) (.int (a * b)) := by
  intro A hA s hot v₁ v₂ Q E _ _ h1 h2 k
  obtain ⟨t, rfl⟩ := rd_int h1; obtain ⟨u, rfl⟩ := rd_int h2
  exact @P.mul_int _ _ _ _ _ _ _ _ _ _ (k _ _ .tok mk_int) (.of_left (intBits_le h))
theorem BinOk.fdiv {a b : Int} (h0 : b ≠ 0) (h : b.natAbs.log2 < 9000) : BinOk W .FloorDiv (.int a) (.int b) (.int (a.fdiv b)) := by
  intro A hA s hot v₁ v₂ Q E _ _ h1 h2 k
  obtain ⟨t, rfl⟩ := rd_int h1; obtain ⟨u, rfl⟩ := rd_int h2
  exact @floordiv_int _ _ _ _ _ _ _ _ _ _ h0 (k _ _ .tok mk_int) (.inl (PyProof.noPylong_of_log2 h))
theorem BinOk.fmod {a b : Int} (h0 : b ≠ 0) : BinOk W .Mod (.int a) (.int b) (.int (a.fmod b)) := by
  intro A hA s hot v₁ v₂ Q E _ _ h1 h2 k
  obtain ⟨t, rfl⟩ := rd_int h1; obtain ⟨u, rfl⟩ := rd_int h2
  exact @PyProof.Rows.mod_int _ _ _ _ _ _ _ _ _ _ h0 (k _ _ .tok mk_int)
theorem BinOk.pow {a b : Int} (h0 : 0 ≤ b) (h1 : b ≤ 1000000) (ha : a.natAbs < 2 ^ 64) : BinOk W .Pow (.int a) (.int b) (.int (a ^ b.toNat)) := by
  intro A hA s hot v₁ v₂ Q E _ _ r1 r2 k
  obtain ⟨t, rfl⟩ := rd_int r1; obtain ⟨u, rfl⟩ := rd_int r2
  exact @pow_int_small _ _ _ _ _ _ _ _ _ _ h0 h1 ha (k _ _ .tok mk_int)
theorem BinOk.shl {a b : Int} (h0 : 0 ≤ b) (h1 : b ≤ 1000000) (ha : a.natAbs < 2 ^ 64) : BinOk W .LShift (.int a) (.int b) (.int (a * 2 ^ b.toNat)) := by
  intro A hA s hot v₁ v₂ Q E _ _ r1 r2 k
  obtain ⟨t, rfl⟩ := rd_int r1; obtain ⟨u, rfl⟩ := rd_int r2
  exact @lshift_int_small _ _ _ _ _ _ _ _ _ _ h0 h1 ha (k _ _ .tok mk_int)
theorem BinOk.shr {a b : Int} (h0 : 0 ≤ b) : BinOk W .RShift (.int a) (.int b) (.int (a.fdiv (2 ^ b.toNat))) := by
  intro A hA s hot v₁ v₂ Q E _ _ r1 r2 k
  obtain ⟨t, rfl⟩ := rd_int r1; obtain ⟨u, rfl⟩ := rd_int r2
  exact @rshift_int _ _ _ _ _ _ _ _ _ _ h0 (k _ _ .tok mk_int)
theorem BinOk.and {a b : Int} : BinOk W .BitAnd (.int a) (.int b) (.int (Builtin.bitAnd a b)) := by
  intro A hA s hot v₁ v₂ Q E _ _ r1 r2 k
  obtain ⟨t, rfl⟩ := rd_int r1; obtain ⟨u, rfl⟩ := rd_int r2
  exact @and_int _ _ _ _ _ _ _ _ _ _ (k _ _ .tok mk_int)
theorem BinOk.or {a b : Int} : BinOk W .BitOr (.int a) (.int b) (.int (Builtin.bitOr a b)) := by
  intro A hA s hot v₁ v₂ Q E _ _ r1 r2 k
  obtain ⟨t, rfl⟩ := rd_int r1; obtain ⟨u, rfl⟩ := rd_int r2
  exact @or_int _ _ _ _ _ _ _ _ _ _ (k _ _ .tok mk_int)
theorem St_app (a b : List Nat) : St a ++ St b = St (a ++ b) := by
  show Str.mk (a.toArray ++ b.toArray) = Str.mk (a ++ b).toArray
  simp
theorem St_len (a : List Nat) : (St a).length = a.length := by simp [St, Str.length]
theorem BinOk.cat {a b : List Nat} (h : a.length + b.length ≤ 16777216) : BinOk W .Add (.str a) (.str b) (.str (a ++ b)) := by
  intro A hA s hot v₁ v₂ Q E _ _ r1 r2 k
  obtain ⟨t, rfl⟩ := rd_str r1; obtain ⟨u, rfl⟩ := rd_str r2
  refine SB.add (fun t' tk => ?_) (by rw [St_len, St_len, sizeLine_eq]; exact h)
  rw [St_app]
  exact k _ _ .tok mk_str
def rep (a : List Nat) (n : Int) : List Nat := (List.replicate n.toNat a).flatten
theorem St_mul (a : List Nat) (n : Int) : Txt.mul (St a) n = St (rep a n) := by
  unfold Txt.mul rep
  by_cases h1 : n < 1
  · rw [if_pos h1]
    have : n.toNat = 0 := by omega
    rw [this]; rfl
  · rw [if_neg h1]
    by_cases h2 : n = 1
    · subst h2; simp
    · by_cases h3 : a = []
      · subst h3; simp [St, Str.length]
      · have e : (n == 1 || (St a).length == 0) = false := by
          simp [St_len, h2, h3]
        rw [if_neg (by rw [e]; exact Bool.false_ne_true)]
        have key : ∀ (k : Nat) (acc : Array Nat), (List.replicate k a.toArray).foldl (· ++ ·) acc = acc ++ ((List.replicate k a).flatten).toArray := by
          intro k
          induction k with
          | zero => intro acc; simp
          | succ k ih => intro acc; rw [List.replicate_succ, List.foldl_cons, ih]; simp [List.replicate_succ, Array.append_assoc]
        show Str.mk ((List.replicate n.toNat a.toArray).foldl (· ++ ·) #[]) = _
        rw [key]; simp [St]
theorem BinOk.rep {a : List Nat} {m : Int} (l k : Nat) (hl : a.length ≤ l) (hm : m ≤ k) (hlo : -1000 ≤ m) (hk : k ≤ 16777216) (h : l * k ≤ 16777216) : BinOk W .Mult (.str a) (.int m) (.str (Mine.rep a m)) := by
  intro A hA s hot v₁ v₂ Q E _ _ r1 r2 kk
  obtain ⟨t, rfl⟩ := rd_str r1; obtain ⟨u, rfl⟩ := rd_int r2
  refine SB.mul (mulOk_of l k (by rw [St_len]; exact hl) hm (by omega) hk h) fun t' tk => ?_
  rw [St_mul]
  exact kk _ _ .tok mk_str
theorem CmpOk.eq_int {a b : Int} : CmpOk W .Eq (.int a) (.int b) (a == b) := by
  intro A hA s hot v₁ v₂ Q E _ _ r1 r2 k
  obtain ⟨t, rfl⟩ := rd_int r1; obtain ⟨u, rfl⟩ := rd_int r2
  exact @P.eq_int _ _ _ _ _ _ _ _ _ _ (k s (.refl s))
theorem CmpOk.ne_int {a b : Int} : CmpOk W .NotEq (.int a) (.int b) (a != b) := by
  intro A hA s hot v₁ v₂ Q E _ _ r1 r2 k
  obtain ⟨t, rfl⟩ := rd_int r1; obtain ⟨u, rfl⟩ := rd_int r2
  exact @P.ne_int _ _ _ _ _ _ _ _ _ _ (k s (.refl s))
theorem CmpOk.lt_int {a b : Int} : CmpOk W .Lt (.int a) (.int b) (decide (a < b)) := by
  intro A hA s hot v₁ v₂ Q E _ _ r1 r2 k
  obtain ⟨t, rfl⟩ := rd_int r1; obtain ⟨u, rfl⟩ := rd_int r2
  exact @P.lt_int _ _ _ _ _ _ _ _ _ _ (k s (.refl s))
theorem CmpOk.ge_int {a b : Int} : CmpOk W .GtE (.int a) (.int b) (decide (a ≥ b)) := by
  intro A hA s hot v₁ v₂ Q E _ _ r1 r2 k
  obtain ⟨t, rfl⟩ := rd_int r1; obtain ⟨u, rfl⟩ := rd_int r2
  exact @P.ge_int _ _ _ _ _ _ _ _ _ _ (k s (.refl s))
theorem CmpOk.ne_bool {a b : Bool} : CmpOk W .NotEq (.bool a) (.bool b) (a != b) := by
  intro A hA s hot v₁ v₂ Q E _ _ r1 r2 k
  cases rd_bool r1; cases rd_bool r2
  exact @PyProof.Rows.ne_bool _ _ _ _ _ _ _ _ (k s (.refl s))
theorem CmpOk.eq_str {a b : List Nat} : CmpOk W .Eq (.str a) (.str b) (a == b) := by
  intro A hA s hot v₁ v₂ Q E _ _ r1 r2 k
  obtain ⟨t, rfl⟩ := rd_str r1; obtain ⟨u, rfl⟩ := rd_str r2
  exact @P.eq_str _ _ _ _ _ _ _ _ _ _ (k s (.refl s))
theorem CmpOk.ne_str {a b : List Nat} : CmpOk W .NotEq (.str a) (.str b) (a != b) := by
  intro A hA s hot v₁ v₂ Q E _ _ r1 r2 k
  obtain ⟨t, rfl⟩ := rd_str r1; obtain ⟨u, rfl⟩ := rd_str r2
  exact @P.ne_str _ _ _ _ _ _ _ _ _ _ (k s (.refl s))
def isIn (y x : List Nat) : Bool := Txt.contains (St x) (St y)
theorem CmpOk.in_str {a b : List Nat} : CmpOk W .In (.str a) (.str b) (isIn a b) := by
  intro A hA s hot v₁ v₂ Q E _ _ r1 r2 k
  obtain ⟨t, rfl⟩ := rd_str r1; obtain ⟨u, rfl⟩ := rd_str r2
  exact @SB.contains _ _ _ _ _ _ _ _ _ _ (k s (.refl s))
theorem CmpOk.notIn_str {a b : List Nat} : CmpOk W .NotIn (.str a) (.str b) (!(isIn a b)) := by
  intro A hA s hot v₁ v₂ Q E _ _ r1 r2 k
  obtain ⟨t, rfl⟩ := rd_str r1; obtain ⟨u, rfl⟩ := rd_str r2
  exact @SB.notContains _ _ _ _ _ _ _ _ _ _ (k s (.refl s))
theorem UnOk.neg {a : Int} : UnOk W .USub (.int a) (.int (-a)) := by
  intro A hA s hot v₁ Q E _ r1 k
  obtain ⟨t, rfl⟩ := rd_int r1
  exact @P.neg_int _ _ _ _ _ _ _ _ (k _ _ .tok mk_int)
theorem TruOk.bool {b : Bool} : TruOk W (.bool b) b := by
  intro A hA s hot v₁ Q E _ r1 k
  cases rd_bool r1
  exact wpAny_truthy_bool (k s (.refl s))
end
end Mine
open PySem PySem.W PyProof.Rows
set_option Elab.async false
set_option linter.unusedVariables false
namespace Mine
section
variable {W : Wo} {n : Nat} {sc : Scope} {σ : Store}
theorem Ev.int {i : Int} {j pos} : Ev W n sc σ (.Constant (.int i) j pos) (.int i) :=
  ⟨fun env he A hA s hot Q E g k => wpAny_Constant_int (k _ _ .tok mk_int)⟩
theorem Ev.none {j pos} : Ev W n sc σ (.Constant .none j pos) .none :=
  ⟨fun env he A hA s hot Q E g k => wpAny_pure (k _ _ (.refl s) mk_none)⟩
theorem Ev.bool {b : Bool} {j pos} : Ev W n sc σ (.Constant (.bool b) j pos) (.bool b) :=
  ⟨fun env he A hA s hot Q E g k => wpAny_pure (k _ _ (.refl s) mk_bool)⟩
theorem Ev.str {x : String} {j pos} : Ev W n sc σ (.Constant (.str (Str.ofString x)) j pos) (.str (L x)) :=
  ⟨fun env he A hA s hot Q E g k => by rw [ofString_L]; exact @wpAny_mkText _ _ _ _ _ _ (k _ _ .tok mk_str)⟩
theorem Ev.bin {l r : PySem.Expr} {op : Operator} {pos} {a b c : V} (hl : Ev W n sc σ l a) (hr : Ev W n sc σ r b) (ho : BinOk W op a b c) : Ev W n sc σ (.BinOp l op r pos) c :=
  ⟨fun env he A hA s hot Q E g k => wpAny_BinOp (hl.run env he A hA s hot _ E g fun v₁ s₁ g₁ r₁ => hr.run env he A hA s₁ hot _ E (g.grow g₁) fun v₂ s₂ g₂ r₂ =>
    ho A (hA.less (Nat.zero_le _)) s₂ hot v₁ v₂ Q E ((g.grow g₁).grow g₂).base ((g.grow g₁).grow g₂).alive (r₁.sub g₂.sub) r₂ fun v s' g₃ r₃ => k v s' ((g₁.trans g₂).trans g₃) r₃)⟩
theorem Ev.cmp {l r : PySem.Expr} {op : CmpOp} {pos} {a b : V} {c : Bool} (hl : Ev W n sc σ l a) (hr : Ev W n sc σ r b) (ho : CmpOk W op a b c) (hm : behindInMarks op r = false) : Ev W n sc σ (.Compare l [op] [r] pos) (.bool c) :=
  ⟨fun env he A hA s hot Q E g k => wpAny_Compare1 (hl.run env he A hA s hot _ E g fun v₁ s₁ g₁ r₁ => hr.run env he A hA s₁ hot _ E (g.grow g₁) fun v₂ s₂ g₂ r₂ =>
    ho A (hA.less (Nat.zero_le _)) s₂ hot v₁ v₂ Q E ((g.grow g₁).grow g₂).base ((g.grow g₁).grow g₂).alive (r₁.sub g₂.sub) r₂ fun s' g₃ => k _ s' ((g₁.trans g₂).trans g₃) mk_bool) hm⟩
theorem EvT.cmp {l r : PySem.Expr} {op : CmpOp} {pos} {a b : V} {c : Bool} (hl : Ev W n sc σ l a) (hr : Ev W n sc σ r b) (ho : CmpOk W op a b c) (hm : behindInMarks op r = false) : EvT W n sc σ (.Compare l [op] [r] pos) c :=
  ⟨fun env he A hA s hot Q E g k => wpAny_isTrue_Compare1 (hl.run env he A hA s hot _ E g fun v₁ s₁ g₁ r₁ => hr.run env he A hA s₁ hot _ E (g.grow g₁) fun v₂ s₂ g₂ r₂ =>
    ho A (hA.less (Nat.zero_le _)) s₂ hot v₁ v₂ _ E ((g.grow g₁).grow g₂).base ((g.grow g₁).grow g₂).alive (r₁.sub g₂.sub) r₂ fun s' g₃ =>
      wpAny_truthy_bool (k s' ((g₁.trans g₂).trans g₃))) hm⟩
theorem Ev.un {e : PySem.Expr} {op : UnaryOp} {pos} {a c : V} (h : Ev W n sc σ e a) (ho : UnOk W op a c) : Ev W n sc σ (.UnaryOp op e pos) c :=
  ⟨fun env he A hA s hot Q E g k => by
    show wpAny _ A (do let v ← eval e env; standAt pos; holding [v] (unaryOp op v)) Q E s
    exact wpAny_bind (h.run env he A hA s hot _ E g fun v₁ s₁ g₁ r₁ => wpAny_bind (wpAny_standAt (wpAny_holding
      (ho A (hA.less (Nat.zero_le _)) s₁ hot v₁ Q E (g.grow g₁).base r₁ fun v s' g₃ r₃ => k v s' (g₁.trans g₃) r₃))))⟩
theorem EvT.not {e : PySem.Expr} {pos} {b : Bool} (h : EvT W n sc σ e b) : EvT W n sc σ (.UnaryOp .Not e pos) (!b) :=
  ⟨fun env he A hA s hot Q E g k => by
    show wpAny _ A (do return !(← isTrue e env (eval e env))) Q E s
    exact wpAny_bind (h.run env he A hA s hot _ E g fun s₁ g₁ => wpAny_pure (k s₁ g₁))⟩
theorem EvT.and {es : List PySem.Expr} {e : PySem.Expr} {pos} {b c : Bool} (h : EvT W n sc σ e b) (h2 : b = true → EvT W n sc σ (.BoolOp .And es pos) c) : EvT W n sc σ (.BoolOp .And (e :: es) pos) (b && c) :=
  ⟨fun env he A hA s hot Q E g k => by
    show wpAny _ A (do match BoolOp.And, ← isTrue e env (eval e env) with | .And, false => pure false | .Or, true => pure true | _, _ => allTrue .And es env) Q E s
    refine wpAny_bind (h.run env he A hA s hot _ E g fun s₁ g₁ => ?_)
    cases b with
    | false => exact wpAny_pure (k s₁ g₁)
    | true => exact (h2 rfl).run env he A hA s₁ hot Q E (g.grow g₁) fun s₂ g₂ => k s₂ (g₁.trans g₂)⟩
theorem EvT.and_nil {pos} : EvT W n sc σ (.BoolOp .And [] pos) true := ⟨fun env he A hA s hot Q E g k => wpAny_pure (k s (.refl s))⟩
theorem EvT.or {es : List PySem.Expr} {e : PySem.Expr} {pos} {b c : Bool} (h : EvT W n sc σ e b) (h2 : b = false → EvT W n sc σ (.BoolOp .Or es pos) c) : EvT W n sc σ (.BoolOp .Or (e :: es) pos) (b || c) :=
  ⟨fun env he A hA s hot Q E g k => by
    show wpAny _ A (do match BoolOp.Or, ← isTrue e env (eval e env) with | .And, false => pure false | .Or, true => pure true | _, _ => allTrue .Or es env) Q E s
    refine wpAny_bind (h.run env he A hA s hot _ E g fun s₁ g₁ => ?_)
    cases b with
    | true => exact wpAny_pure (k s₁ g₁)
    | false => exact (h2 rfl).run env he A hA s₁ hot Q E (g.grow g₁) fun s₂ g₂ => k s₂ (g₁.trans g₂)⟩
theorem Ev.ite {t a b : PySem.Expr} {pos} {c : Bool} {d : V} (h : EvT W n sc σ t c) (ha : c = true → Ev W n sc σ a d) (hb : c = false → Ev W n sc σ b d) : Ev W n sc σ (.IfExp t a b pos) d :=
  ⟨fun env he A hA s hot Q E g k => by
    show wpAny _ A (do if ← isTrue t env (eval t env) then eval a env else eval b env) Q E s
    refine wpAny_bind (h.run env he A hA s hot _ E g fun s₁ g₁ => ?_)
    cases c with
    | true => exact (ha rfl).run env he A hA s₁ hot Q E (g.grow g₁) fun v s₂ g₂ r => k v s₂ (g₁.trans g₂) r
    | false => exact (hb rfl).run env he A hA s₁ hot Q E (g.grow g₁) fun v s₂ g₂ r => k v s₂ (g₁.trans g₂) r⟩
theorem Ev.item {e i : PySem.Expr} {pos} {a b c : V} (he : Ev W n sc σ e a) (hi : Ev W n sc σ i b) (ho : ItemOk W a b c) (hs : ∀ o v, subscripted i false o v = operate [o, v] (getItem o v)) : Ev W n sc σ (.Subscript e i pos) c :=
  ⟨fun env hq A hA s hot Q E g k => @Subscript_ _ _ _ _ _ _ _ _ _ (he.run env hq A hA s hot _ E g fun v₁ s₁ g₁ r₁ => hi.run env hq A hA s₁ hot _ E (g.grow g₁) fun v₂ s₂ g₂ r₂ => by
    obtain ⟨T, id, hl, hT, hg⟩ := ho A (hA.less (Nat.zero_le _)) s₂ hot v₁ v₂ Q E ((g.grow g₁).grow g₂).base ((g.grow g₁).grow g₂).alive (r₁.sub g₂.sub) r₂ fun v s' g₃ r₃ => k v s' ((g₁.trans g₂).trans g₃) r₃
    exact tail_any hT hl hg (hs _ _))⟩
/-- several expressions, one after another -/
structure Evs (W : Wo) (n : Nat) (sc : Scope) (σ : Store) (es : List PySem.Expr) (ds : List V) : Prop where
  run : ∀ env, env.scope = sc → ∀ A, Room A n → ∀ s hot (Q : List Value → Shared → Prop) E pos, Good W env σ hot s →
    (∀ vs s', Grow s s' → Rds s'.heap hot ds vs → Q vs s') → wpAny (model W.prog W.w) A (spliced (backTo pos (starEach es env))) Q E s
  plain : ∀ env pos, (backTo pos (starEach es env)).any (·.1) = false ∧ (backTo pos (starEach es env)).all (fun x => !x.1) = true ∧ (backTo pos (starEach es env)).length = es.length
theorem Evs.nil : Evs W n sc σ [] [] := ⟨fun env he A hA s hot Q E pos g k => wpAny_pure (k _ s (.refl s) .nil), fun _ _ => ⟨rfl, rfl, rfl⟩⟩
theorem Evs.cons {e : PySem.Expr} {es : List PySem.Expr} {d : V} {ds : List V} (h : Ev W n sc σ e d) (hs : Evs W n sc σ es ds) (hn : ∀ env, starEach (e :: es) env = (false, eval e env) :: starEach es env) : Evs W n sc σ (e :: es) (d :: ds) :=
  ⟨fun env he A hA s hot Q E pos g k => by
    rw [hn]
    exact Calls.spliced_cons (h.run env he A hA s hot _ E g fun v₁ s₁ g₁ r₁ => hs.run env he A hA s₁ hot _ E pos (g.grow g₁) fun vs s₂ g₂ r₂ => k _ _ (g₁.trans g₂) (.cons (r₁.sub g₂.sub) r₂)),
   fun env pos => by
    rw [hn]
    obtain ⟨a, b, c⟩ := hs.plain env pos
    refine ⟨?_, ?_, ?_⟩
    · show (false || (backTo pos (starEach es env)).any (·.1)) = false; rw [a]; rfl
    · show (!false && (backTo pos (starEach es env)).all (fun x => !x.1)) = true; rw [b]; rfl
    · show (backTo pos (starEach es env)).length + 1 = es.length + 1; rw [c]⟩
theorem Rds.le {h : Heap} {hot : Addr → Prop} {ds : List V} {vs : List Value} (x : Rds h hot ds vs) {m : Nat} (k : ds.length ≤ m) : vs.length ≤ m := by rw [x.length]; exact k
theorem newIsHot {hot : Addr → Prop} {h : Heap} (al : ∀ a, hot a → ∃ o, h.get? a = some o) : ¬ hot h.objs.size := fun q => by
  obtain ⟨o, e⟩ := al _ q
  exact absurd (Heap.lt_size e) (Nat.lt_irrefl _)
theorem Ev.list {es : List PySem.Expr} {pos} {ds : List V} (h : Evs W n sc σ es ds) (hs : ds.length ≤ 16777216) : Ev W n sc σ (.List es pos) (.list ds) :=
  ⟨fun env he A hA s hot Q E g k => @PyProof.Rows.List_ _ _ _ _ _ _ _ _ (h.run env he A hA s hot _ E pos g fun vs s₁ g₁ r₁ => by
    have hz : vs.toArray.size ≤ sizeLine := by rw [List.size_toArray, sizeLine_eq]; exact r₁.le hs
    refine wpAny_newObj_type ?_ hz
    have up : Sub s₁.heap (s₁.heap.push { cls := .type "list", dict := Option.none, data := .seq vs.toArray }) := fun b o e => Heap.get?_push_of_some _ e
    refine k _ _ (g₁.trans ⟨up, rfl, fun e => e⟩) ?_
    unfold Rd
    exact ⟨_, vs.toArray, rfl, newIsHot (g.grow g₁).alive, ⟨0, Heap.get?_push_size _ rfl⟩, by rw [List.toList_toArray]; exact r₁.sub up⟩)⟩
theorem Ev.tup {es : List PySem.Expr} {j pos} {ds : List V} (h : Evs W n sc σ es ds) (hs : ds.length ≤ 16777216) : Ev W n sc σ (.Tuple es j pos) (.tup ds) :=
  ⟨fun env he A hA s hot Q E g k => @PyProof.Rows.Tuple_ _ _ _ _ _ _ _ _ _ (h.run env he A hA s hot _ E pos g fun vs s₁ g₁ r₁ => by
    have hz : vs.toArray.size ≤ sizeLine := by rw [List.size_toArray, sizeLine_eq]; exact r₁.le hs
    refine wpAny_newObj_type ?_ hz
    have up : Sub s₁.heap (s₁.heap.push { cls := .type "tuple", dict := Option.none, data := .seq vs.toArray }) := fun b o e => Heap.get?_push_of_some _ e
    refine k _ _ (g₁.trans ⟨up, rfl, fun e => e⟩) ?_
    unfold Rd
    exact ⟨_, vs.toArray, rfl, newIsHot (g.grow g₁).alive, ⟨_, Heap.get?_push_size _ rfl, rfl, 0, rfl⟩, by rw [List.toList_toArray]; exact r₁.sub up⟩)⟩
end
end Mine
open PySem PySem.W PyProof.Rows
set_option Elab.async false
set_option linter.unusedVariables false
namespace Mine
section
variable {W : Wo} {n : Nat} {sc : Scope} {σ : Store}
def isGlob (sc : Scope) (x : Str) : Bool := !(x == ("__debug__" : Str)) && !(x == ("__name__" : Str)) && match sc.names.lookup x with
  | some .globalImplicit => true
  | _ => false
theorem isGlob_1 {sc x} (h : isGlob sc x = true) : (x == ("__debug__" : Str)) = false := by
  unfold isGlob at h; simp only [Bool.and_eq_true, Bool.not_eq_true'] at h; exact h.1.1
theorem isGlob_2 {sc x} (h : isGlob sc x = true) : x ≠ "__name__" := by
  unfold isGlob at h; simp only [Bool.and_eq_true, Bool.not_eq_true'] at h; exact beq_eq_false_iff_ne.mp h.1.2
theorem isGlob_3 {sc x} (h : isGlob sc x = true) : sc.names.lookup x = some .globalImplicit := by
  unfold isGlob at h; simp only [Bool.and_eq_true] at h
  obtain ⟨_, h⟩ := h
  split at h
  · assumption
  · cases h
theorem Ev.glob {x : Str} {pos : Pos} {v : Value} (hv : isGlob sc x = true) (hm : W.mg x = some v) : Ev W n sc σ (.Name x pos) (.val v) :=
  ⟨fun env he A hA s hot Q E g k => by
    subst he
    exact Calls.Name_function_global g.kind (isGlob_3 hv) (Calls.loadGlobal_global (by rw [g.globals]; exact W.hg.keeps g.base) hm (k v s (.refl s) mk_val)) (isGlob_1 hv)⟩
theorem Ev.builtin {x : Str} {pos : Pos} {v : Value} (hv : isGlob sc x = true) (hm : W.mg x = Option.none) (hb : bootBuiltins x = some v) : Ev W n sc σ (.Name x pos) (.val v) :=
  ⟨fun env he A hA s hot Q E g k => by
    subst he
    exact Calls.Name_function_global g.kind (isGlob_3 hv) (Calls.loadGlobal_builtin (by rw [g.globals]; exact W.hg.keeps g.base) hm (by rw [g.builtins]; exact W.hb.keeps g.base)
      ((W.hbt x (isGlob_2 hv)).trans hb) (k v s (.refl s) mk_val)) (isGlob_1 hv)⟩
/-- a call of a value upon data -/
def CallOk (W : Wo) (n : Nat) (f : Value) (ds : List V) (c : V) : Prop :=
  ∀ A, Room A n → ∀ s hot vs (Q : Value → Shared → Prop) E, Sub W.B s.heap → (∀ a, hot a → ∃ o, s.heap.get? a = some o) → Rds s.heap hot ds vs →
    (∀ v s', Grow s s' → Rd s'.heap hot c v → Q v s') → wpAny (model W.prog W.w) A (call f vs) Q E s
def Callee (W : Wo) : Value → Prop
  | .builtin _ => True
  | .type _ => True
  | .ref a => ∃ o fd, W.B.get? a = some o ∧ o.data = .func fd
  | _ => False
theorem evalArgs_any {M : Model} {A : Around} {E : Value → Shared → Prop} {s : Shared} {f : Value} {args : List (Bool × Sem Value)} {Q : Args → Shared → Prop} (hp : args.any (·.1) = false)
    (h : wpAny M A (spliced args) (fun vs s' => Q ⟨vs, []⟩ s') E s) : wpAny M A (evalArgs f true args []) Q E s := by
  cases args with
  | nil =>
    unfold evalArgs
    show wpAny M A (spliced [] >>= _) Q E s
    exact wpAny_bind (wpAny_mono h (fun vs s' h' => wpAny_holding (wpAny_bind (wpAny_pure (wpAny_bind (wpAny_pure (wpAny_pure h')))))) fun _ _ x => x)
  | cons x rest =>
    obtain ⟨b, x⟩ := x
    cases b with
    | true => simp at hp
    | false => exact Calls.evalArgs_plain h
theorem callWith_any {f : Value} {pos : Pos} {first : List Value} {args : List (Bool × Sem Value)} {A : Around} {E : Value → Shared → Prop} {s : Shared} {Q : Value → Shared → Prop} (hc : Callee W f) (hp : args.any (·.1) = false)
    (h : wpAny (model W.prog W.w) A (spliced args) (fun vs s' => Sub W.B s'.heap ∧ wpAny (model W.prog W.w) A (call f (first ++ vs)) Q E s') E s) :
    wpAny (model W.prog W.w) A (callWith pos f first args []) Q E s := by
  cases f with
  | builtin id => exact Calls.callWith_builtin hp (evalArgs_any hp (wpAny_mono h (fun _ _ x => x.2) fun _ _ x => x))
  | type T => exact PyProof.Rows.callWith_type hp (evalArgs_any hp (wpAny_mono h (fun _ _ x => x.2) fun _ _ x => x))
  | ref a =>
    obtain ⟨o, fd, ho, hd⟩ := hc
    exact Calls.callWith_function (o := o) (fd := fd) (evalArgs_any hp (wpAny_mono h (fun _ _ x => ⟨⟨x.1 _ _ ho, hd⟩, x.2⟩) fun _ _ x => x))
  | _ => exact hc.elim
theorem Ev.call {x : Str} {p pos : Pos} {args : List PySem.Expr} {f : Value} {ds : List V} {c : V} (hf : Ev W n sc σ (.Name x p) (.val f)) (ha : Evs W n sc σ args ds) (hc : Callee W f) (hk : CallOk W n f ds c) :
    Ev W n sc σ (.Call (.Name x p) args [] pos) c :=
  ⟨fun env he A hA s hot Q E g k => by
    refine wpAny_Call_NameR (hf.run env he A hA s hot _ E g fun v s₁ g₁ r₁ => ?_)
    cases rd_val r₁
    refine callWith_any hc (ha.plain env pos).1 (ha.run env he A hA s₁ hot _ E pos (g.grow g₁) fun vs s₂ g₂ r₂ => ⟨((g.grow g₁).grow g₂).base, ?_⟩)
    exact hk A hA s₂ hot vs Q E ((g.grow g₁).grow g₂).base ((g.grow g₁).grow g₂).alive r₂ fun v s₃ g₃ r₃ => k v s₃ ((g₁.trans g₂).trans g₃) r₃⟩
/-- a method of a built-in type -/
structure Meth (T : String) (name : Str) (id : String) : Prop where
  pa : PlainAttrs T
  slot : PySem.Slot T name id
  ty : typeOf (.builtin id) = pure (.type "method_descriptor")
def HasType (d : V) (T : String) : Prop := ∀ (s : Shared) hot (v : Value), Rd s.heap hot d v → s.TypeIs v T ∧ ∀ a, v = .ref a → ∃ ob, s.heap.get? a = some ob ∧ ob.dict = Option.none
theorem HasType.str {l} : HasType (.str l) "str" := fun s hot v r => by
  obtain ⟨t, rfl⟩ := rd_str r
  exact ⟨typeIs_str _ _ _, fun a e => nomatch e⟩
theorem HasType.bytes {l} : HasType (.bytes l) "bytes" := fun s hot v r => by
  obtain ⟨t, rfl⟩ := rd_bytes r
  exact ⟨typeIs_bytes _ _ _, fun a e => nomatch e⟩
theorem Ev.meth {o : PySem.Expr} {name : Str} {apos pos : Pos} {args : List PySem.Expr} {T id : String} {a : V} {ds : List V} {c : V} (ho : Ev W n sc σ o a) (ha : Evs W n sc σ args ds) (ht : HasType a T) (hm : Meth T name id)
    (hk : CallOk W n (.builtin id) (a :: ds) c) (hbase : ∀ env, attributeBase o name env (eval o env) = eval o env) (hline : (apos.endLine == pos.line) = true) (hn : args.length < 20) :
    Ev W n sc σ (.Call (.Attribute o name apos) args [] pos) c :=
  ⟨fun env he A hA s hot Q E g k => by
    refine wpAny_Call_method_lateS (hbase env) ?_ hline (ho.run env he A hA s hot _ E g fun v s₁ g₁ r₁ => ?_)
    · rw [(ha.plain env pos).2.1]
      show (true && true && decide (args.length + 0 + 0 < 30)) = true
      simp; omega
    · obtain ⟨h1, h2⟩ := ht s₁ hot v r₁
      refine ⟨T, id, hm.pa, hm.slot, hm.ty, h1, h2, callWith_any (W := W) trivial (ha.plain env pos).1 (ha.run env he A hA s₁ hot _ E pos (g.grow g₁) fun vs s₂ g₂ r₂ => ⟨((g.grow g₁).grow g₂).base, ?_⟩)⟩
      exact hk A hA s₂ hot _ Q E ((g.grow g₁).grow g₂).base ((g.grow g₁).grow g₂).alive (.cons (r₁.sub g₂.sub) r₂) fun v s₃ g₃ r₃ => k v s₃ ((g₁.trans g₂).trans g₃) r₃⟩
/-- the items of sequences -/
theorem PlainList.isList {h : Heap} {a : Addr} {items : Array Value} (x : h.PlainList a items) : h.IsList a items := let ⟨n, e⟩ := x; ⟨_, e, rfl, n, rfl⟩
theorem ItemOk.list {l : List V} {i : Int} {c : V} (h0 : 0 ≤ i) (h1 : i < 2 ^ 63) (h : l[i.toNat]? = some c) : ItemOk W (.list l) (.int i) c := by
  intro A hA s hot v₁ v₂ Q E hb al r1 r2 k
  obtain ⟨a, items, rfl, _, hl, hr⟩ := rd_list r1; obtain ⟨u, rfl⟩ := rd_int r2
  obtain ⟨v, hv, rv⟩ := hr.getElem h
  exact ⟨"list", _, slot_list_getitem.lookup, (PlainList.isList hl).typeIs, @wpAny_getItem_list _ _ _ _ _ _ _ _ _ _ _ (PlainList.isList hl) h0 h1 (by simpa using hv) (k v s (.refl s) rv)⟩
def chAt (l : List Nat) (i : Int) : Option Nat := (seqIndex? i l.length).bind (l[·]?)
theorem ItemOk.str {l : List Nat} {i : Int} {c : Nat} (h0 : -(2 ^ 63) ≤ i) (h1 : i < 2 ^ 63) (h : chAt l i = some c) : ItemOk W (.str l) (.int i) (.str [c]) := by
  intro A hA s hot v₁ v₂ Q E hb al r1 r2 k
  obtain ⟨t, rfl⟩ := rd_str r1; obtain ⟨u, rfl⟩ := rd_int r2
  refine ⟨"str", _, slot_str_getitem.lookup, typeIs_str _ _ _, @PyProof.Rows.getItem_str _ _ _ _ _ _ _ _ _ _ _ ?_ ?_ (k _ _ .tok mk_str)⟩
  · rw [decide_eq_false (by omega), decide_eq_false (by omega)]; rfl
  · unfold chAt at h
    simpa [St, Str.length] using h
end
end Mine
open PySem PySem.W PyProof.Rows
set_option Elab.async false
set_option linter.unusedVariables false
namespace Mine
section
variable {W : Wo} {env : Env} {base base' : Shared} {out out' hot hot' : Addr → Prop} {oa : Str → Addr} {σ σ' : Store} {s s' : Shared}
/-- the addresses that the frame writes -/
def mutL (env : Env) (σ : Store) (oa : Str → Addr) : List Addr :=
  env.locals :: ((σ.filterMap fun p => if env.scope.names.lookup p.1 = some .cell then env.cells.lookup p.1 else none) ++ σ.filterMap fun p => if p.2.isOwn = true then some (oa p.1) else none)
theorem mem_mutL {b : Addr} : b ∈ mutL env σ oa ↔ b = env.locals ∨ (∃ p ∈ σ, env.scope.names.lookup p.1 = some .cell ∧ env.cells.lookup p.1 = some b) ∨ ∃ p ∈ σ, p.2.isOwn = true ∧ b = oa p.1 := by
  unfold mutL
  rw [List.mem_cons, List.mem_append, List.mem_filterMap, List.mem_filterMap]
  constructor
  · rintro (h | ⟨p, hp, h⟩ | ⟨p, hp, h⟩)
    · exact .inl h
    · split at h
      · exact .inr (.inl ⟨p, hp, by assumption, h⟩)
      · cases h
    · split at h
      · cases h; exact .inr (.inr ⟨p, hp, by assumption, rfl⟩)
      · cases h
  · rintro (h | ⟨p, hp, h1, h2⟩ | ⟨p, hp, h1, h2⟩)
    · exact .inl h
    · exact .inr (.inl ⟨p, hp, by rw [if_pos h1]; exact h2⟩)
    · exact .inr (.inr ⟨p, hp, by rw [if_pos h1, h2]⟩)
theorem Fm.mutNew (F : Fm W env base out hot oa σ s) : ∀ b ∈ mutL env σ oa, base.heap.get? b = none ∧ hot b := fun b hb => by
  rcases mem_mutL.mp hb with h | ⟨p, hp, h1, h2⟩ | ⟨p, hp, h1, h2⟩
  · subst h; exact ⟨F.nsNew, F.nshot⟩
  · obtain ⟨c, v, h3, _, h4, _, h5⟩ := F.cl p hp h1
    rw [h2] at h3; cases h3; exact ⟨h4, h5⟩
  · subst h2
    have := F.vars p hp
    cases h : p.2 with
    | own l => rw [h] at this; obtain ⟨items, _, _, _, a, b, _⟩ := this; exact ⟨b, a⟩
    | _ => rw [h] at h1; cases h1
abbrev hidden (env : Env) (σ : Store) (oa : Str → Addr) (s : Shared) : Shared := { s with heap := hideAll s.heap (mutL env σ oa) }
theorem Fm.grow_hidden (F : Fm W env base out hot oa σ s) : Grow base (hidden env σ oa s) where
  sub := fun b o e => hideAll_get _ (F.grow.sub b o e) fun hb => by rw [(F.mutNew b hb).1] at e; cases e
  os := F.grow.os
  gens := F.grow.gens
theorem Fm.rebase (F : Fm W env base out hot oa σ s) : Fm W env (hidden env σ oa s) (fun a => hot a ∧ a ∉ mutL env σ oa) hot oa σ s :=
  { F with
    wbase := fun b o e => F.grow_hidden.sub b o (F.wbase b o e)
    grow := ⟨fun b o e => of_hideAll _ e, rfl, fun e => e⟩
    nsNew := hideAll_none _ (mem_mutL.mpr (.inl rfl))
    cl := fun p hp hk => by
      obtain ⟨c, v, h1, h2, h3, h4, h5⟩ := F.cl p hp hk
      exact ⟨c, v, h1, h2, hideAll_none _ (mem_mutL.mpr (.inr (.inl ⟨p, hp, hk, h1⟩))), h4, h5⟩
    vars := fun p hp => by
      have old := F.vars p hp
      cases h : p.2 with
      | unset => trivial
      | val d => rw [h] at old; exact old
      | own l => rw [h] at old; obtain ⟨items, a, b, c, d, e, f⟩ := old; exact ⟨items, a, b, c, d, hideAll_none _ (mem_mutL.mpr (.inr (.inr ⟨p, hp, by rw [h]; rfl, rfl⟩))), f⟩
      | app y => rw [h] at old; exact old
    outhot := fun a ha => ha.1
    outlive := fun a ha => let ⟨o, e⟩ := F.alive a ha.1; ⟨o, hideAll_get _ e ha.2⟩
    hotnew := fun a ha => by
      by_cases q : a ∈ mutL env σ oa
      · exact .inr (hideAll_none _ q)
      · exact .inl ⟨ha, q⟩ }
theorem Fm.outMut (F : Fm W env base out hot oa σ s) : ∀ a, out a → hot a ∧ a ∉ mutL env σ oa := fun a ha => ⟨F.outhot a ha, fun q => by
  obtain ⟨o, e⟩ := F.outlive a ha
  rw [(F.mutNew a q).1] at e; cases e⟩
theorem none_of_sub {h h' : Heap} {a : Addr} (k : Sub h h') (e : h'.get? a = none) : h.get? a = none := by
  cases q : h.get? a with
  | none => rfl
  | some o => rw [k _ _ q] at e; cases e
theorem Fm.debase (F : Fm W env base' out' hot oa σ s) (g : Grow base base') (w : Sub W.B base.heap) (ho : ∀ a, out a → out' a) (hn : ∀ a, out' a → out a ∨ base.heap.get? a = none) (hv : ∀ a, out a → ∃ o, base.heap.get? a = some o) : Fm W env base out hot oa σ s :=
  { F with
    wbase := w
    grow := g.trans F.grow
    nsNew := none_of_sub g.sub F.nsNew
    cl := fun p hp hk => by
      obtain ⟨c, v, h1, h2, h3, h4, h5⟩ := F.cl p hp hk
      exact ⟨c, v, h1, h2, none_of_sub g.sub h3, h4, h5⟩
    vars := fun p hp => by
      have old := F.vars p hp
      cases h : p.2 with
      | unset => trivial
      | val d => rw [h] at old; exact old
      | own l => rw [h] at old; obtain ⟨items, a, b, c, d, e, f⟩ := old; exact ⟨items, a, b, c, d, none_of_sub g.sub e, f⟩
      | app y => rw [h] at old; exact old
    outhot := fun a ha => F.outhot a (ho a ha)
    outlive := hv
    hotnew := fun a ha => (F.hotnew a ha).elim (hn a) fun q => .inr (none_of_sub g.sub q) }
/-- more hot addresses: new ones, alive by now -/
theorem Fm.hotter (F : Fm W env base out hot oa σ s) (k : Grow s s') {wr : List Addr} (hn : ∀ b ∈ wr, s.heap.get? b = none) (ha : ∀ b ∈ wr, ∃ o, s'.heap.get? b = some o) : Fm W env base out (fun a => hot a ∨ a ∈ wr) oa σ s' := by
  have G := F.grown k
  have up : ∀ b o, ¬ hot b → s.heap.get? b = some o → s'.heap.get? b = some o ∧ ¬ (hot b ∨ b ∈ wr) := fun b o nb e => ⟨k.sub b o e, fun q => by
    rcases q with q | q
    · exact nb q
    · rw [hn b q] at e; cases e⟩
  exact { G with
    cl := fun p hp hk => by obtain ⟨c, v, h1, h2, h3, h4, h5⟩ := G.cl p hp hk; exact ⟨c, v, h1, h2, h3, h4, .inl h5⟩
    vars := fun p hp => by
      have old := F.vars p hp
      have new := G.vars p hp
      cases h : p.2 with
      | unset => trivial
      | val d => rw [h] at old new; obtain ⟨v, a, b⟩ := old; exact ⟨v, a.sub k.sub, Rd.mono up _ _ b⟩
      | own l => rw [h] at old; obtain ⟨items, a, ⟨n, b⟩, c, d, e⟩ := old; exact ⟨items, a.sub k.sub, ⟨n, k.sub _ _ b⟩, Rds.mono up _ _ c, .inl d, e⟩
      | app y =>
        rw [h] at old; obtain ⟨b, a, ⟨o, e, r⟩, nb⟩ := old
        exact ⟨b, a.sub k.sub, ⟨o, (up b o nb e).1, r⟩, (up b o nb e).2⟩
    alive := fun a q => by rcases q with q | q; exact G.alive a q; exact ha a q
    outhot := fun a q => .inl (G.outhot a q)
    hotnew := fun a q => q.elim (G.hotnew a) fun q => .inr (none_of_sub F.grow.sub (hn a q))
    nshot := .inl G.nshot }
/-- a change at hot addresses that are none of the frame's -/
theorem Fm.touch (F : Fm W env base out hot oa σ s) {wr : List Addr} {h' : Heap} {tk : Nat} (hk : ∀ b o, b ∉ wr → s.heap.get? b = some o → h'.get? b = some o)
    (hn : ∀ b ∈ wr, base.heap.get? b = none ∧ hot b ∧ b ∉ mutL env σ oa ∧ ∃ o, h'.get? b = some o) : Fm W env base out hot oa σ { s with heap := h', toks := tk } := by
  have nm : ∀ b, b ∈ mutL env σ oa → b ∉ wr := fun b hb hw => (hn b hw).2.2.1 hb
  have ns : env.locals ∉ wr := nm _ (mem_mutL.mpr (.inl rfl))
  have nc : ∀ p ∈ σ, env.scope.names.lookup p.1 = some .cell → ∀ c, env.cells.lookup p.1 = some c → c ∉ wr := fun p hp hk c hc => nm c (mem_mutL.mpr (.inr (.inl ⟨p, hp, hk, hc⟩)))
  have up : ∀ b o, ¬ hot b → s.heap.get? b = some o → h'.get? b = some o ∧ ¬ hot b := fun b o nb e => ⟨hk b o (fun q => nb (hn b q).2.1) e, nb⟩
  have vi : ∀ p ∈ σ, ∀ v, VarIs env s.heap p.1 v → VarIs env h' p.1 v := fun p hp v y => by
    rcases y with ⟨k, m, hm, hx⟩ | ⟨k, c, hc, hv⟩
    · exact .inl ⟨k, m, hm.at' (fun o e => hk _ o ns e), hx⟩
    · rcases F.lc p hp with q | q
      · rw [q] at k; rcases k with k | k <;> cases k
      · exact .inr ⟨k, c, hc, let ⟨o, a, b⟩ := hv; ⟨o, hk _ _ (nc p hp q c hc) a, b⟩⟩
  exact { F with
    grow := ⟨fun b o e => hk b o (fun q => by rw [(hn b q).1] at e; cases e) (F.grow.sub b o e), F.grow.os, F.grow.gens⟩
    ns := F.ns.imp fun m hm => hm.at' (fun o e => hk _ o ns e)
    cl := fun p hp q => by
      obtain ⟨c, v, h1, ⟨o, e, r⟩, h3⟩ := F.cl p hp q
      exact ⟨c, v, h1, ⟨o, hk _ _ (nc p hp q c h1) e, r⟩, h3⟩
    vars := fun p hp => by
      have old := F.vars p hp
      cases h : p.2 with
      | unset => trivial
      | val d => rw [h] at old; obtain ⟨v, a, b⟩ := old; exact ⟨v, vi p hp v a, Rd.mono up _ _ b⟩
      | own l => rw [h] at old; obtain ⟨items, a, ⟨n, b⟩, c, d, e⟩ := old; exact ⟨items, vi p hp _ a, ⟨n, hk _ _ (nm _ (mem_mutL.mpr (.inr (.inr ⟨p, hp, by rw [h]; rfl, rfl⟩)))) b⟩, Rds.mono up _ _ c, d, e⟩
      | app y =>
        rw [h] at old; obtain ⟨b, a, ⟨o, e, r⟩, nb⟩ := old
        exact ⟨b, vi p hp _ a, ⟨o, (up b o nb e).1, r⟩, nb⟩
    alive := fun a q => by
      by_cases hw : a ∈ wr
      · exact (hn a hw).2.2.2
      · obtain ⟨o, e⟩ := F.alive a q; exact ⟨o, hk a o hw e⟩ }
/-- a change at hot addresses that are none of the frame's, hot no longer -/
theorem Fm.touchOff (F : Fm W env base out hot oa σ s) {wr : List Addr} {h' : Heap} {tk : Nat} (hk : ∀ b o, b ∉ wr → s.heap.get? b = some o → h'.get? b = some o)
    (hn : ∀ b ∈ wr, base.heap.get? b = none ∧ hot b ∧ b ∉ mutL env σ oa) : Fm W env base out (fun a => hot a ∧ a ∉ wr) oa σ { s with heap := h', toks := tk } := by
  have nm : ∀ b, b ∈ mutL env σ oa → b ∉ wr := fun b hb hw => (hn b hw).2.2 hb
  have ns : env.locals ∉ wr := nm _ (mem_mutL.mpr (.inl rfl))
  have nc : ∀ p ∈ σ, env.scope.names.lookup p.1 = some .cell → ∀ c, env.cells.lookup p.1 = some c → c ∉ wr := fun p hp hk c hc => nm c (mem_mutL.mpr (.inr (.inl ⟨p, hp, hk, hc⟩)))
  have up : ∀ b o, ¬ hot b → s.heap.get? b = some o → h'.get? b = some o ∧ ¬ (hot b ∧ b ∉ wr) := fun b o nb e => ⟨hk b o (fun q => nb (hn b q).2.1) e, fun q => nb q.1⟩
  have vi : ∀ p ∈ σ, ∀ v, VarIs env s.heap p.1 v → VarIs env h' p.1 v := fun p hp v y => by
    rcases y with ⟨k, m, hm, hx⟩ | ⟨k, c, hc, hv⟩
    · exact .inl ⟨k, m, hm.at' (fun o e => hk _ o ns e), hx⟩
    · rcases F.lc p hp with q | q
      · rw [q] at k; rcases k with k | k <;> cases k
      · exact .inr ⟨k, c, hc, let ⟨o, a, b⟩ := hv; ⟨o, hk _ _ (nc p hp q c hc) a, b⟩⟩
  exact { F with
    grow := ⟨fun b o e => hk b o (fun q => by rw [(hn b q).1] at e; cases e) (F.grow.sub b o e), F.grow.os, F.grow.gens⟩
    ns := F.ns.imp fun m hm => hm.at' (fun o e => hk _ o ns e)
    cl := fun p hp q => by
      obtain ⟨c, v, h1, ⟨o, e, r⟩, h3, h4, h5⟩ := F.cl p hp q
      exact ⟨c, v, h1, ⟨o, hk _ _ (nc p hp q c h1) e, r⟩, h3, h4, h5, nc p hp q c h1⟩
    vars := fun p hp => by
      have old := F.vars p hp
      cases h : p.2 with
      | unset => trivial
      | val d => rw [h] at old; obtain ⟨v, a, b⟩ := old; exact ⟨v, vi p hp v a, Rd.mono up _ _ b⟩
      | own l =>
        rw [h] at old; obtain ⟨items, a, ⟨n, b⟩, c, d, e⟩ := old
        have := nm _ (mem_mutL.mpr (.inr (.inr ⟨p, hp, by rw [h]; rfl, rfl⟩)))
        exact ⟨items, vi p hp _ a, ⟨n, hk _ _ this b⟩, Rds.mono up _ _ c, ⟨d, this⟩, e⟩
      | app y =>
        rw [h] at old; obtain ⟨b, a, ⟨o, e, r⟩, nb⟩ := old
        exact ⟨b, vi p hp _ a, ⟨o, (up b o nb e).1, r⟩, (up b o nb e).2⟩
    alive := fun a q => by obtain ⟨o, e⟩ := F.alive a q.1; exact ⟨o, hk a o q.2 e⟩
    outhot := fun a ha => ⟨F.outhot a ha, fun q => by obtain ⟨o, e⟩ := F.outlive a ha; rw [(hn a q).1] at e; cases e⟩
    hotnew := fun a q => F.hotnew a q.1
    nshot := ⟨F.nshot, ns⟩ }
end
end Mine
open PySem PySem.W PyProof.Rows
set_option Elab.async false
set_option linter.unusedVariables false
namespace Mine
inductive Res where
  | next (σ : Store)
  | cont (σ : Store)
  | brk (σ : Store)
  | ret (d : V)
def ResOk (W : Wo) (env : Env) (base : Shared) (out : Addr → Prop) : Res → Flow → Shared → Prop
  | .next σ, f, s => f = .next ∧ ∃ hot oa, Fm W env base out hot oa σ s
  | .cont σ, f, s => f = .cont ∧ ∃ hot oa, Fm W env base out hot oa σ s
  | .brk σ, f, s => f = .brk ∧ ∃ hot oa, Fm W env base out hot oa σ s
  | .ret d, f, s => ∃ v, f = .ret v ∧ Grow base s ∧ Rd s.heap out d v
structure Runs (W : Wo) (n : Nat) (sc : Scope) (st : Stmt) (σ : Store) (r : Res) : Prop where
  run : ∀ env, env.scope = sc → ∀ A, Room A n → ∀ base out hot oa s (Q : Flow → Shared → Prop) E, Fm W env base out hot oa σ s →
    (∀ f s', ResOk W env base out r f s' → Q f s') → wpAny (model W.prog W.w) A (exec st env) Q E s
structure RunsL (W : Wo) (n : Nat) (sc : Scope) (sts : List Stmt) (σ : Store) (r : Res) : Prop where
  run : ∀ env, env.scope = sc → ∀ A, Room A n → ∀ base out hot oa s (Q : Flow → Shared → Prop) E, Fm W env base out hot oa σ s →
    (∀ f s', ResOk W env base out r f s' → Q f s') → wpAny (model W.prog W.w) A (execs sts env) Q E s
section
variable {W : Wo} {n : Nat} {sc : Scope} {σ σ' : Store}
theorem RunsL.nil : RunsL W n sc [] σ (.next σ) := ⟨fun env he A hA base out hot oa s Q E F k => wpAny_execs_nil (k _ _ ⟨rfl, hot, oa, F⟩)⟩
theorem RunsL.cons {st : Stmt} {sts : List Stmt} {r : Res} (h : Runs W n sc st σ (.next σ')) (h2 : RunsL W n sc sts σ' r) : RunsL W n sc (st :: sts) σ r :=
  ⟨fun env he A hA base out hot oa s Q E F k => wpAny_execs_cons (h.run env he A hA base out hot oa s _ E F fun f s' x => by
    obtain ⟨rfl, hot', oa', F'⟩ := x
    exact h2.run env he A hA base out hot' oa' s' Q E F' k)⟩
theorem RunsL.stop {st : Stmt} {sts : List Stmt} {r : Res} (h : Runs W n sc st σ r) (hr : ∀ σ', r ≠ .next σ') : RunsL W n sc (st :: sts) σ r :=
  ⟨fun env he A hA base out hot oa s Q E F k => wpAny_execs_cons (h.run env he A hA base out hot oa s _ E F fun f s' x => by
    cases r with
    | next σ' => exact absurd rfl (hr σ')
    | cont σ' => obtain ⟨rfl, x⟩ := x; exact k _ _ ⟨rfl, x⟩
    | brk σ' => obtain ⟨rfl, x⟩ := x; exact k _ _ ⟨rfl, x⟩
    | ret d => obtain ⟨v, rfl, x⟩ := x; exact k _ _ ⟨v, rfl, x⟩)⟩
theorem RunsL.ret {st : Stmt} {sts : List Stmt} {d : V} (h : Runs W n sc st σ (.ret d)) : RunsL W n sc (st :: sts) σ (.ret d) := .stop h fun _ e => nomatch e
theorem Runs.ret {e : PySem.Expr} {pos} {d : V} (h : Ev W n sc σ e d) : Runs W n sc (.Return (some e) pos) σ (.ret d) :=
  ⟨fun env he A hA base out hot oa s Q E F k => wpAny_Return_some (h.run env he A hA s hot _ E F.good fun v s' g r => k _ _ ⟨v, rfl, F.grow.trans g, r.less F.outhot⟩)⟩
theorem Runs.ifT {t : PySem.Expr} {a b : List Stmt} {pos} {r : Res} (h : EvT W n sc σ t true) (ha : RunsL W n sc a σ r) : Runs W n sc (.If t a b pos) σ r :=
  ⟨fun env he A hA base out hot oa s Q E F k => wpAny_If (h.run env he A hA s hot _ E F.good fun s' g => by
    simp only [if_true]
    exact ha.run env he A hA base out hot oa s' Q E (F.grown g) k)⟩
theorem Runs.ifF {t : PySem.Expr} {a b : List Stmt} {pos} {r : Res} (h : EvT W n sc σ t false) (hb : RunsL W n sc b σ r) : Runs W n sc (.If t a b pos) σ r :=
  ⟨fun env he A hA base out hot oa s Q E F k => wpAny_If (h.run env he A hA s hot _ E F.good fun s' g => by
    simp only [Bool.false_eq_true, if_false]
    exact hb.run env he A hA base out hot oa s' Q E (F.grown g) k)⟩
theorem Runs.assertT {t : PySem.Expr} {m : Option PySem.Expr} {pos} (h : EvT W n sc σ t true) : Runs W n sc (.Assert t m pos) σ (.next σ) :=
  ⟨fun env he A hA base out hot oa s Q E F k => by
    show wpAny _ A (do standAt pos; if ← isTrue t env (eval t env) then pure .next else assertFails t.pos (evalOpt m env)) Q E s
    refine wpAny_bind (wpAny_standAt (wpAny_bind (h.run env he A hA s hot _ E F.good fun s' g => ?_)))
    simp only [if_true]
    exact wpAny_pure (k _ _ ⟨rfl, hot, oa, F.grown g⟩)⟩
def noApp (x : Str) (σ : Store) : Prop := ∀ p ∈ σ, p.2 ≠ .app x
theorem noApp.nil {x} : noApp x [] := fun _ h => nomatch h
theorem noApp.val {x y d σ} (h : noApp x σ) : noApp x ((y, .val d) :: σ) := fun p hp => by
  rcases List.mem_cons.mp hp with e | hp
  · subst e; intro q; cases q
  · exact h p hp
theorem noApp.own {x y d σ} (h : noApp x σ) : noApp x ((y, .own d) :: σ) := fun p hp => by
  rcases List.mem_cons.mp hp with e | hp
  · subst e; intro q; cases q
  · exact h p hp
theorem noApp.unset {x y σ} (h : noApp x σ) : noApp x ((y, .unset) :: σ) := fun p hp => by
  rcases List.mem_cons.mp hp with e | hp
  · subst e; intro q; cases q
  · exact h p hp
theorem noApp.app {x y z σ} (hn : z ≠ x) (h : noApp x σ) : noApp x ((y, .app z) :: σ) := fun p hp => by
  rcases List.mem_cons.mp hp with e | hp
  · subst e; intro q; cases q; exact hn rfl
  · exact h p hp
/-- a plain store: x = e -/
theorem Runs.assign {x : Str} {p pos : Pos} {e : PySem.Expr} {d : V} (h : Ev W n sc σ e d) (hp : Put x (.val d) σ σ') (hn : noApp x σ) (hs : ∀ env, swapsWith e (some (.Name x p)) pos.line env = pure false) :
    Runs W n sc (.Assign [.Name x p] e pos) σ (.next σ') :=
  ⟨fun env he A hA base out hot oa s Q E F k => wpAny_Assign_Name (h.run env he A hA s hot _ E F.good fun v s₁ g r =>
    (F.grown g).store hp r hn fun s₂ F₂ => k _ _ ⟨rfl, hot, oa, F₂⟩) (hs env)⟩
/-- an augmented store upon a name -/
def InpOk (W : Wo) (op : Operator) (a b c : V) : Prop :=
  ∀ A, Room A 0 → ∀ s hot v₁ v₂ (Q : Value → Shared → Prop) E, Sub W.B s.heap → (∀ a, hot a → ∃ o, s.heap.get? a = some o) → Rd s.heap hot a v₁ → Rd s.heap hot b v₂ →
    (∀ v s', Grow s s' → Rd s'.heap hot c v → Q v s') → wpAny (model W.prog W.w) A (inplaceOp op v₁ v₂) Q E s
theorem InpOk.add {a b : Int} : InpOk W .Add (.int a) (.int b) (.int (a + b)) := by
  intro A hA s hot v₁ v₂ Q E _ _ h1 h2 k
  obtain ⟨t, rfl⟩ := rd_int h1; obtain ⟨u, rfl⟩ := rd_int h2
  exact @P.iadd_int _ _ _ _ _ _ _ _ _ _ (k _ _ .tok mk_int)
theorem Fm.var {env : Env} {base s : Shared} {out hot : Addr → Prop} {oa : Str → Addr} (F : Fm W env base out hot oa σ s) {x : Str} {d : V} (hm : (x, Slot.val d) ∈ σ) {M : Model} {A : Around} {E : Value → Shared → Prop} {Q : Value → Shared → Prop}
    (h : ∀ v, Rd s.heap hot d v → Q v s) : wpAny M A (loadName env x) Q E s := by
  obtain ⟨v, hx, hr⟩ := F.vars _ hm
  rcases hx with ⟨a, m, hn, hmx⟩ | ⟨a | a, c, hc, hcv⟩
  · exact wpAny_loadName_local F.kind a hn hmx (h v hr)
  · exact wpAny_loadName_cell F.kind a hc hcv (h v hr)
  · exact wpAny_loadName_free F.kind a hc hcv (h v hr) (isVar_2 (F.isv _ hm))
theorem Runs.aug {x : Str} {p pos : Pos} {e : PySem.Expr} {op : Operator} {a b c : V} (hm : (x, Slot.val a) ∈ σ) (h : Ev W n sc σ e b) (ho : InpOk W op a b c) (hp : Put x (.val c) σ σ') (hn : noApp x σ) :
    Runs W n sc (.AugAssign (.Name x p) op e pos) σ (.next σ') :=
  ⟨fun env he A hA base out hot oa s Q E F k => wpAny_AugAssign_Name (F.var hm fun v₁ r₁ => h.run env he A hA s hot _ E F.good fun v₂ s₂ g₂ r₂ =>
    ho A (hA.less (Nat.zero_le _)) s₂ hot v₁ v₂ _ E (F.grown g₂).good.base (F.grown g₂).alive (r₁.sub g₂.sub) r₂ fun v₃ s₃ g₃ r₃ =>
      (F.grown (g₂.trans g₃)).store hp r₃ hn fun s₄ F₄ => k _ _ ⟨rfl, hot, oa, F₄⟩)⟩
end
end Mine
open PySem PySem.W PyProof.Rows
set_option Elab.async false
set_option linter.unusedVariables false
namespace Mine
def quietIter (T : String) : Bool := !(["enumerate", "zip", "dict_itemiterator", "dict_reverseitemiterator", "odict_iterator", "itertools.zip_longest", "itertools.pairwise"].contains T)
/-- an iterator that yields the data -/
structure ItrW (W : Wo) (A : Around) (hot : Addr → Prop) (s₀ s : Shared) (I : Addr) (fp : List Addr) (P : Nat → Value → Prop) (St : Nat → Heap → Prop) (xs : List V) : Prop where
  wk : Walks W.prog W.w A I fp [I] xs.length P St
  live : ∀ i h, St i h → (∀ b ∈ fp, ∃ o, h.get? b = some o) ∧ ∃ o T, h.get? I = some o ∧ o.cls = .type T ∧ quietIter T = true
  st : St 0 s.heap
  apart : ∀ b ∈ fp, b ≠ I → ¬ hot b
  fresh : s₀.heap.get? I = none
  item : ∀ i v x, P i v → xs[i]? = some x → Rd s₀.heap hot x v
def Itr (W : Wo) (A : Around) (hot : Addr → Prop) (s₀ s : Shared) (it : Value) (xs : List V) : Prop :=
  ∃ I fp P St, it = .ref I ∧ ItrW W A hot s₀ s I fp P St xs
structure IterOk (W : Wo) (d : V) (xs : List V) : Prop where
  run : ∀ A, Room A 0 → ∀ s hot v (Q : Value → Shared → Prop) E, Sub W.B s.heap → (∀ a, hot a → ∃ o, s.heap.get? a = some o) → Rd s.heap hot d v →
    (∀ it s', Grow s s' → Itr W A hot s s' it xs → Q it s') → wpAny (model W.prog W.w) A (pyIter v) Q E s
theorem get_size_none (h : Heap) : h.get? h.objs.size = none := by
  cases e : h.get? h.objs.size with
  | none => rfl
  | some o => exact absurd (Heap.lt_size e) (Nat.lt_irrefl _)
section
variable {W : Wo} {n : Nat} {sc : Scope} {σ σ' : Store}
theorem IterOk.list {l : List V} : IterOk W (.list l) l := ⟨fun A hA s hot v Q E hb al r k => by
  obtain ⟨a, items, rfl, ha, hl, hr⟩ := rd_list r
  have hne : a ≠ s.heap.objs.size := by obtain ⟨m, e⟩ := hl; exact Nat.ne_of_lt (Heap.lt_size e)
  have up : Sub s.heap (s.heap.push { cls := .type "list_iterator", data := .fields #[.ref a, .int 0 0] }) := fun b o e => Heap.get?_push_of_some _ e
  have hz : items.size = l.length := by rw [← hr.length]; simp
  refine wpAny_pyIter_list (PlainList.isList hl) (k _ _ ⟨up, rfl, fun e => e⟩ ⟨s.heap.objs.size, [s.heap.objs.size, a], fun i v => items[i]? = some v, fun i h => h.IsListIter s.heap.objs.size a i ∧ h.IsList a items, rfl, by rw [← hz]; exact Walks.list hA.handled _ a hne items, fun i h st => ?_, ⟨⟨_, Heap.get?_push_size _ rfl, rfl, rfl⟩, (PlainList.isList hl).push _⟩, ?_, get_size_none _, ?_⟩)
  · obtain ⟨⟨o, e, c, _⟩, o', e', _⟩ := st
    refine ⟨fun b hb => ?_, o, _, e, c, by decide⟩
    rcases List.mem_cons.mp hb with q | hb
    · exact q ▸ ⟨o, e⟩
    · rw [List.mem_singleton.mp hb]; exact ⟨o', e'⟩
  · intro b hb' hn
    rcases List.mem_cons.mp hb' with e | hb'
    · exact absurd e hn
    · rcases List.mem_cons.mp hb' with e | hb'
      · rw [e]; exact ha
      · cases hb'
  · intro i v x hv hx
    obtain ⟨w, h1, h2⟩ := hr.getElem hx
    rw [show items[i]? = items.toList[i]? by simp, h1] at hv
    cases hv; exact h2⟩
theorem IterOk.str {l : List Nat} : IterOk W (.str l) (l.map fun c => .str [c]) := ⟨fun A hA s hot v Q E hb al r k => by
  obtain ⟨t, rfl⟩ := rd_str r
  have sz : (St l).cps.size = (l.map fun c => V.str [c]).length := by simp [St]
  have val : ∀ i v x, SignAt (St l) i v → (l.map fun c => V.str [c])[i]? = some x → Rd s.heap hot x v := by
    intro i v x ⟨c, u, h1, h2⟩ hx
    have h1' : l[i]? = some c := by simpa [St] using h1
    rw [List.getElem?_map, h1'] at hx
    simp at hx; subst hx; subst h2
    exact mk_str (i := [c])
  cases ha : (St l).cps.all (· < 128)
  · refine wpAny_pyIter_wide ha (k _ _ ⟨fun b o e => Heap.get?_push_of_some _ e, rfl, fun e => e⟩ ⟨s.heap.objs.size, [s.heap.objs.size], SignAt (St l), fun i h => h.IsStrIter s.heap.objs.size "str_iterator" (St l) t i, rfl, by rw [← sz]; exact Walks.strWide hA.handled _ _ t, fun i h st => ?_, ⟨_, Heap.get?_push_size _ rfl, rfl, rfl⟩, ?_, get_size_none _, val⟩)
    · obtain ⟨o, e, c, _⟩ := st; exact ⟨fun b hb => by rw [List.mem_singleton.mp hb]; exact ⟨o, e⟩, o, _, e, c, by decide⟩
    · intro b hb' hn; rcases List.mem_cons.mp hb' with e | hb'; exact absurd e hn; cases hb'
  · refine wpAny_pyIter_ascii ha (k _ _ ⟨fun b o e => Heap.get?_push_of_some _ e, rfl, fun e => e⟩ ⟨s.heap.objs.size, [s.heap.objs.size], SignAt (St l), fun i h => h.IsStrIter s.heap.objs.size "str_ascii_iterator" (St l) t i, rfl, by rw [← sz]; exact Walks.strAscii hA.handled _ _ t, fun i h st => ?_, ⟨_, Heap.get?_push_size _ rfl, rfl, rfl⟩, ?_, get_size_none _, val⟩)
    · obtain ⟨o, e, c, _⟩ := st; exact ⟨fun b hb => by rw [List.mem_singleton.mp hb]; exact ⟨o, e⟩, o, _, e, c, by decide⟩
    · intro b hb' hn; rcases List.mem_cons.mp hb' with e | hb'; exact absurd e hn; cases hb'⟩
def rangeL (a b c : Int) : List V := (List.range (Builtin.Range.rangeSize a b c).toNat).map fun (i : Nat) => V.int (a + (i : Int) * c)
theorem rangeSize_nonneg (a b c : Int) (hc : c ≠ 0) : 0 ≤ Builtin.Range.rangeSize a b c := by
  unfold Builtin.Range.rangeSize
  split
  · split
    · have : 0 ≤ (b - a - 1) / c := Int.ediv_nonneg (by omega) (by omega)
      omega
    · omega
  · split
    · have : 0 ≤ (a - b - 1) / (-c) := Int.ediv_nonneg (by omega) (by omega)
      omega
    · omega
theorem IterOk.rng {a b c : Int} (hc : c ≠ 0) (hs : Builtin.Range.small a b c = true) : IterOk W (.rng a b c) (rangeL a b c) := ⟨fun A hA s hot v Q E hb al r k => by
  obtain ⟨r, t, u, y, rfl, ha, hr⟩ := rd_rng r
  have up : Sub s.heap (s.heap.push { cls := .type "range_iterator", data := .fields #[rawInt a, rawInt (Builtin.Range.rangeSize a b c), rawInt c] }) := fun b o e => Heap.get?_push_of_some _ e
  have sz : (rangeL a b c).length = (Builtin.Range.rangeSize a b c).toNat := by simp [rangeL]
  refine wpAny_pyIter_range hr hs (k _ _ ⟨up, rfl, fun e => e⟩ ⟨s.heap.objs.size, [s.heap.objs.size], fun i v => ∃ t, v = .int (a + i * c) t, fun i h => IsRangeIter h s.heap.objs.size (a + (i : Nat) * c) (((Builtin.Range.rangeSize a b c).toNat : Int) - (i : Nat)) c, rfl, by rw [sz]; exact Walks.range hA.handled _ a c _, fun i h st => ⟨fun b hb => by rw [List.mem_singleton.mp hb]; exact ⟨_, st⟩, _, _, st, rfl, by decide⟩, ?_, ?_, get_size_none _, ?_⟩)
  · have e1 : a + ((0 : Nat) : Int) * c = a := by simp
    have e2 : ((Builtin.Range.rangeSize a b c).toNat : Int) - ((0 : Nat) : Int) = Builtin.Range.rangeSize a b c := by have := rangeSize_nonneg a b c hc; omega
    show IsRangeIter _ _ (a + ((0 : Nat) : Int) * c) (((Builtin.Range.rangeSize a b c).toNat : Int) - ((0 : Nat) : Int)) c
    rw [e1, e2]
    exact Heap.get?_push_size _ rfl
  · intro b hb' hn; rcases List.mem_cons.mp hb' with e | hb'; exact absurd e hn; cases hb'
  · intro i v x ⟨t, hv⟩ hx
    unfold rangeL at hx
    rw [List.getElem?_map] at hx
    obtain ⟨j, hj, e⟩ := Option.map_eq_some_iff.mp hx
    have : j = i := by
      rw [List.getElem?_eq_some_iff] at hj
      obtain ⟨h1, h2⟩ := hj
      simpa using h2.symm
    subst this; subst e; subst hv
    exact mk_int⟩
/-- what a target takes -/
structure Binds (W : Wo) (sc : Scope) (t : PySem.Expr) (d : V) (σ σ' : Store) : Prop where
  run : ∀ env, env.scope = sc → ∀ A, Room A 0 → ∀ base out hot oa s v (Q : Unit → Shared → Prop) E, Fm W env base out hot oa σ s → Rd s.heap hot d v →
    (∀ s', Fm W env base out hot oa σ' s' → Q () s') → wpAny (model W.prog W.w) A (assign t env v) Q E s
theorem Binds.name {x : Str} {p : Pos} {d : V} (hp : Put x (.val d) σ σ') (hn : noApp x σ) : Binds W sc (.Name x p) d σ σ' :=
  ⟨fun env he A hA base out hot oa s v Q E F r k => wpAny_assign_Name (F.store hp r hn k)⟩
theorem letOwned_quiet {M : Model} {A : Around} {E : Value → Shared → Prop} {s : Shared} {Q : Unit → Shared → Prop} {t : PySem.Expr} {I : Addr} {v : Value} {o : Obj} {T : String} (ho : s.heap.get? I = some o) (hc : o.cls = .type T) (hq : quietIter T = true) (h : Q () s) :
    wpAny M A (letOwnedTupleGo t (.ref I) v) Q E s := by
  have hT : ["enumerate", "zip", "dict_itemiterator", "dict_reverseitemiterator", "odict_iterator", "itertools.zip_longest", "itertools.pairwise"].contains T = false := by
    unfold quietIter at hq; rwa [Bool.not_eq_true'] at hq
  have go : ∀ a, wpAny M A (do
      let o ← load I
      match o.cls, o.data with
      | .type n, .fields vs =>
        if ["enumerate", "zip", "dict_itemiterator", "dict_reverseitemiterator", "odict_iterator", "itertools.zip_longest", "itertools.pairwise"].contains n && vs[0]? == some (rawInt a) then
          rule "for.unpacks-the-owned-tuple"
          updateField I 0 .none
      | _, _ => pure () : Sem Unit) Q E s := fun a => by
    refine wpAny_bind (wpAny_load ho ?_)
    rw [hc]
    split
    · rename_i n vs e1 e2
      cases e1
      rw [hT]
      exact wpAny_pure h
    · exact wpAny_pure h
  cases t <;> first
    | exact wpAny_pure h
    | (cases v <;> first | exact wpAny_pure h | exact go _)
/-- a for loop, told turn by turn -/
inductive ForL (W : Wo) (n : Nat) (sc : Scope) (t : PySem.Expr) (body : List Stmt) : List V → Store → Res → Prop
  | nil {σ : Store} : ForL W n sc t body [] σ (.next σ)
  | next {x : V} {xs : List V} {σ τ σ' : Store} {r : Res} : Binds W sc t x σ τ → RunsL W n sc body τ (.next σ') → ForL W n sc t body xs σ' r → ForL W n sc t body (x :: xs) σ r
  | cont {x : V} {xs : List V} {σ τ σ' : Store} {r : Res} : Binds W sc t x σ τ → RunsL W n sc body τ (.cont σ') → ForL W n sc t body xs σ' r → ForL W n sc t body (x :: xs) σ r
  | brk {x : V} {xs : List V} {σ τ σ' : Store} : Binds W sc t x σ τ → RunsL W n sc body τ (.brk σ') → ForL W n sc t body (x :: xs) σ (.next σ')
  | ret {x : V} {xs : List V} {σ τ : Store} {d : V} : Binds W sc t x σ τ → RunsL W n sc body τ (.ret d) → ForL W n sc t body (x :: xs) σ (.ret d)
section
variable {env : Env} {A : Around} {t : PySem.Expr} {body : List Stmt} {base : Shared} {out hot : Addr → Prop} {oa : Str → Addr} {s : Shared}
/-- a turn: the target, the body, over a base that keeps all but the frame's own -/
theorem turn_body {x : V} {v : Value} {τ : Store} {r : Res} {Q : Flow → Shared → Prop} {E : Value → Shared → Prop} (he : env.scope = sc) (hA : Room A n) (F : Fm W env base out hot oa σ s) (rv : Rd s.heap hot x v) (hb : Binds W sc t x σ τ) (hr : RunsL W n sc body τ r)
    (k : ∀ f s', ResOk W env (hidden env σ oa s) (fun a => hot a ∧ a ∉ mutL env σ oa) r f s' → Q f s') :
    wpAny (model W.prog W.w) A (assign t env v) (fun _ s₂ => wpAny (model W.prog W.w) A (execs body env) Q E s₂) E s :=
  hb.run env he A (hA.less (Nat.zero_le _)) _ _ hot oa s v _ _ F.rebase rv fun s₂ F₂ => hr.run env he A hA _ _ hot oa s₂ Q _ F₂ k
/-- what stands between the turns -/
def ForInv (W : Wo) (n : Nat) (sc : Scope) (env : Env) (t : PySem.Expr) (body : List Stmt) (xs : List V) (r : Res) (base : Shared) (out : Addr → Prop) (I : Addr) (fp : List Addr) (P : Nat → Value → Prop) (St : Nat → Heap → Prop) (m : Nat) (s : Shared) : Prop :=
  ∃ i σ hot oa, i ≤ xs.length ∧ m = xs.length - i ∧ ForL W n sc t body (xs.drop i) σ r ∧ Fm W env base out hot oa σ s ∧ St i s.heap ∧ (∀ b ∈ fp, b ∉ mutL env σ oa) ∧ hot I ∧ base.heap.get? I = none ∧
    ∀ j v x, i ≤ j → P j v → xs[j]? = some x → Rd s.heap hot x v
theorem ForInv.again {xs : List V} {r : Res} {A' : Around} {hot₀ : Addr → Prop} {s₀ s₁ s' : Shared} {I : Addr} {fp : List Addr} {P : Nat → Value → Prop} {St : Nat → Heap → Prop} {i : Nat} {σ₂ : Store} {hot₂ : Addr → Prop} {oa₂ : Str → Addr}
    (hW : ItrW W A' hot₀ s₀ s₁ I fp P St xs) (F : Fm W env base out hot oa σ s) (st : St (i + 1) s.heap) (mfp : ∀ b ∈ fp, b ∉ mutL env σ oa) (hI : hot I) (bI : base.heap.get? I = none) (hi : i < xs.length)
    (item : ∀ j v x, i ≤ j → P j v → xs[j]? = some x → Rd s.heap hot x v)
    (hL : ForL W n sc t body (xs.drop (i + 1)) σ₂ r) (F₂ : Fm W env (hidden env σ oa s) (fun a => hot a ∧ a ∉ mutL env σ oa) hot₂ oa₂ σ₂ s') :
    ∃ m', m' < xs.length - i ∧ ForInv W n sc env t body xs r base out I fp P St m' s' := by
  have keep : ∀ b ∈ fp, ∀ o, s.heap.get? b = some o → (hidden env σ oa s).heap.get? b = some o := fun b hb o e => hideAll_get _ e (mfp b hb)
  refine ⟨xs.length - (i + 1), by omega, i + 1, σ₂, hot₂, oa₂, hi, rfl, hL, F₂.debase F.grow_hidden F.wbase F.outMut (fun a ha => F.hotnew a ha.1) F.outlive, hW.wk.frame _ _ _ st fun b hb o e => F₂.grow.sub b o (keep b hb o e), fun b hb q => ?_, F₂.outhot I ⟨hI, mfp I (hW.wk.sub I (List.mem_singleton.mpr rfl))⟩, bI, fun j v x hj hv hx => ?_⟩
  · obtain ⟨o, e⟩ := (hW.live _ _ st).1 b hb
    have := (F₂.mutNew b q).1
    rw [keep b hb o e] at this; cases this
  · have h0 := item j v x (by omega) hv hx
    refine Rd.mono (fun b o nb e => ?_) _ _ h0
    have nm : b ∉ mutL env σ oa := fun q => nb (F.mutNew b q).2
    have e1 : (hidden env σ oa s).heap.get? b = some o := hideAll_get _ e nm
    refine ⟨F₂.grow.sub b o e1, fun q => ?_⟩
    rcases F₂.hotnew b q with q | q
    · exact nb q.1
    · rw [e1] at q; cases q
theorem for_loop {n : Nat} {σ : Store} {xs : List V} {r : Res} {s₀ : Shared} {it : Value} {R : Result → Shared → Prop} (he : env.scope = sc) (hA : Room A n)
    (hL : ForL W n sc t body xs σ r) (F : Fm W env base out hot oa σ s₀) (g : Grow s₀ s) (hI : Itr W A hot s₀ s it xs)
    (k : ∀ f s', ResOk W env base out r f s' → R (.ok f) s') : codeAny (model W.prog W.w) A (.forLoop t it body [] env) R s := by
  obtain ⟨I, fp, P, St, rfl, hW⟩ := hI
  have I0 : I ∈ fp := hW.wk.sub I (List.mem_singleton.mpr rfl)
  have aI : ∃ o, s.heap.get? I = some o := let ⟨o, _, e, _⟩ := (hW.live _ _ hW.st).2; ⟨o, e⟩
  have mfp : ∀ b ∈ fp, b ∉ mutL env σ oa := fun b hb q => by
    by_cases e : b = I
    · obtain ⟨o, e'⟩ := F.alive b (F.mutNew b q).2
      rw [e, hW.fresh] at e'; cases e'
    · exact hW.apart b hb e (F.mutNew b q).2
  have start : ForInv W n sc env t body xs r base out I fp P St xs.length s := by
    refine ⟨0, σ, _, oa, Nat.zero_le _, rfl, by simpa using hL, F.hotter g (wr := [I]) (fun b hb => by rw [List.mem_singleton.mp hb]; exact hW.fresh) (fun b hb => by rw [List.mem_singleton.mp hb]; exact aI), hW.st, mfp, .inr (List.mem_singleton.mpr rfl), none_of_sub F.grow.sub hW.fresh, fun j v x _ hv hx => ?_⟩
    refine Rd.mono (fun b o nb e => ⟨g.sub b o e, fun q => ?_⟩) _ _ (hW.item j v x hv hx)
    rcases q with q | q
    · exact nb q
    · rw [List.mem_singleton.mp q, hW.fresh] at e; cases e
  refine codeAny_forLoop_any (ForInv W n sc env t body xs r base out I fp P St) (fun m s₁ inv => ?_) _ start
  obtain ⟨i, σ₁, hot₁, oa₁, hi, rfl, hL₁, F₁, st, mfp₁, hI₁, bI, item⟩ := inv
  by_cases hlt : i < xs.length
  · refine hW.wk.item i s₁ _ _ hlt st fun v h' tk hv st' hk => ?_
    obtain ⟨o, T, ho, hc, hq⟩ := (hW.live _ _ st').2
    have F₂ : Fm W env base out hot₁ oa₁ σ₁ { s₁ with heap := h', toks := tk } := F₁.touch hk fun b hb => by
      rw [List.mem_singleton.mp hb]; exact ⟨bI, hI₁, mfp₁ I I0, o, ho⟩
    have up : ∀ b o, ¬ hot₁ b → s₁.heap.get? b = some o → h'.get? b = some o ∧ ¬ hot₁ b := fun b o nb e => ⟨hk b o (fun q => nb (by rw [List.mem_singleton.mp q]; exact hI₁)) e, nb⟩
    have item' : ∀ j v x, i ≤ j → P j v → xs[j]? = some x → Rd h' hot₁ x v := fun j v x hj hv hx => Rd.mono up _ _ (item j v x hj hv hx)
    have hx : xs[i]? = some xs[i] := by simp [hlt]
    have hd : xs.drop i = xs[i] :: xs.drop (i + 1) := List.drop_eq_getElem_cons hlt
    refine letOwned_quiet ho hc hq ?_
    rw [hd] at hL₁
    generalize hxs : xs.drop (i + 1) = rest at hL₁
    cases hL₁ with
    | next hb hr hL₂ =>
      refine turn_body he hA F₂ (item' i v _ (Nat.le_refl _) hv hx) hb hr fun f s' ok => ?_
      obtain ⟨rfl, hot', oa', F'⟩ := ok
      exact ForInv.again hW F₂ st' mfp₁ hI₁ bI hlt item' (hxs ▸ hL₂) F'
    | cont hb hr hL₂ =>
      refine turn_body he hA F₂ (item' i v _ (Nat.le_refl _) hv hx) hb hr fun f s' ok => ?_
      obtain ⟨rfl, hot', oa', F'⟩ := ok
      exact ForInv.again hW F₂ st' mfp₁ hI₁ bI hlt item' (hxs ▸ hL₂) F'
    | brk hb hr =>
      refine turn_body he hA F₂ (item' i v _ (Nat.le_refl _) hv hx) hb hr fun f s' ok => ?_
      obtain ⟨rfl, hot', oa', F'⟩ := ok
      exact k _ _ ⟨rfl, hot', oa', F'.debase F₂.grow_hidden F₂.wbase F₂.outMut (fun a ha => F₂.hotnew a ha.1) F₂.outlive⟩
    | ret hb hr =>
      refine turn_body he hA F₂ (item' i v _ (Nat.le_refl _) hv hx) hb hr fun f s' ok => ?_
      obtain ⟨w, rfl, G, rw'⟩ := ok
      exact k _ _ ⟨w, rfl, F₂.grow_hidden.trans G, rw'.less F₂.outMut⟩
  · have hi' : i = xs.length := by omega
    refine hW.wk.done s₁ _ _ (hi' ▸ st) fun h' tk hk => ?_
    have e : xs.drop i = [] := by rw [hi']; simp
    rw [e] at hL₁
    cases hL₁
    exact wpAny_execs_nil (k _ _ ⟨rfl, _, oa₁, F₁.touchOff hk fun b hb => by rw [List.mem_singleton.mp hb]; exact ⟨bI, hI₁, mfp₁ I I0⟩⟩)
theorem Runs.for {n : Nat} {σ : Store} {it : PySem.Expr} {pos : Pos} {a : V} {xs : List V} {r : Res} (h : Ev W n sc σ it a) (hi : IterOk W a xs) (hL : ForL W n sc t body xs σ r) (hs : ∀ env x, foldedSetIterable it env x = pure x) :
    Runs W n sc (.For t it body [] pos) σ r :=
  ⟨fun env he A hA base out hot oa s Q E F k => wpAny_For (h.run env he A hA s hot _ E F.good fun v s₁ g₁ r₁ =>
    hi.run A (hA.less (Nat.zero_le _)) s₁ hot v _ E (F.grown g₁).good.base (F.grown g₁).alive r₁ fun it' s₂ g₂ hI =>
      for_loop he hA hL (F.grown g₁) g₂ hI fun f s' ok => k f s' ok) (hs env)⟩
end
end
end Mine
open PySem PySem.W PyProof.Rows
set_option Elab.async false
set_option linter.unusedVariables false
namespace Mine
section
variable {W : Wo} {n : Nat} {sc : Scope} {σ σ' : Store}
/-- a while loop, told turn by turn -/
inductive WhL (W : Wo) (n : Nat) (sc : Scope) (t : PySem.Expr) (body : List Stmt) : Nat → Store → Res → Prop
  | done {m : Nat} {σ : Store} : EvT W n sc σ t false → WhL W n sc t body m σ (.next σ)
  | next {m : Nat} {σ σ' : Store} {r : Res} : EvT W n sc σ t true → RunsL W n sc body σ (.next σ') → WhL W n sc t body m σ' r → WhL W n sc t body (m + 1) σ r
  | cont {m : Nat} {σ σ' : Store} {r : Res} : EvT W n sc σ t true → RunsL W n sc body σ (.cont σ') → WhL W n sc t body m σ' r → WhL W n sc t body (m + 1) σ r
  | brk {m : Nat} {σ σ' : Store} : EvT W n sc σ t true → RunsL W n sc body σ (.brk σ') → WhL W n sc t body m σ (.next σ')
  | ret {m : Nat} {σ : Store} {d : V} : EvT W n sc σ t true → RunsL W n sc body σ (.ret d) → WhL W n sc t body m σ (.ret d)
theorem Runs.while {t : PySem.Expr} {body : List Stmt} {pos : Pos} {m : Nat} {r : Res} (hL : WhL W n sc t body m σ r) : Runs W n sc (.While t body [] pos) σ r :=
  ⟨fun env he A hA base out hot oa s Q E F k => by
    refine wpAny_While (codeAny_whileLoop (fun m s => ∃ σ hot oa, WhL W n sc t body m σ r ∧ Fm W env base out hot oa σ s) (fun m s₁ inv => ?_) m ⟨σ, hot, oa, hL, F⟩)
    obtain ⟨σ₁, hot₁, oa₁, hL₁, F₁⟩ := inv
    cases hL₁ with
    | done ht =>
      refine ht.run env he A hA s₁ hot₁ _ _ F₁.good fun s₂ g₂ => ?_
      simp only [Bool.false_eq_true, if_false]
      exact wpAny_execs_nil (k _ _ ⟨rfl, hot₁, oa₁, F₁.grown g₂⟩)
    | next ht hb hL₂ =>
      refine ht.run env he A hA s₁ hot₁ _ _ F₁.good fun s₂ g₂ => ?_
      simp only [if_true]
      refine hb.run env he A hA base out hot₁ oa₁ s₂ _ _ (F₁.grown g₂) fun f s₃ ok => ?_
      obtain ⟨rfl, hot', oa', F'⟩ := ok
      exact ⟨_, Nat.lt_succ_self _, _, hot', oa', hL₂, F'⟩
    | cont ht hb hL₂ =>
      refine ht.run env he A hA s₁ hot₁ _ _ F₁.good fun s₂ g₂ => ?_
      simp only [if_true]
      refine hb.run env he A hA base out hot₁ oa₁ s₂ _ _ (F₁.grown g₂) fun f s₃ ok => ?_
      obtain ⟨rfl, hot', oa', F'⟩ := ok
      exact ⟨_, Nat.lt_succ_self _, _, hot', oa', hL₂, F'⟩
    | brk ht hb =>
      refine ht.run env he A hA s₁ hot₁ _ _ F₁.good fun s₂ g₂ => ?_
      simp only [if_true]
      refine hb.run env he A hA base out hot₁ oa₁ s₂ _ _ (F₁.grown g₂) fun f s₃ ok => ?_
      obtain ⟨rfl, hot', oa', F'⟩ := ok
      exact k _ _ ⟨rfl, hot', oa', F'⟩
    | ret ht hb =>
      refine ht.run env he A hA s₁ hot₁ _ _ F₁.good fun s₂ g₂ => ?_
      simp only [if_true]
      refine hb.run env he A hA base out hot₁ oa₁ s₂ _ _ (F₁.grown g₂) fun f s₃ ok => ?_
      obtain ⟨v, rfl, x⟩ := ok
      exact k _ _ ⟨v, rfl, x⟩⟩
/-- several targets, several data -/
structure BindsL (W : Wo) (sc : Scope) (ts : List PySem.Expr) (ds : List V) (σ σ' : Store) : Prop where
  run : ∀ env, env.scope = sc → ∀ A, Room A 0 → ∀ base out hot oa s vs (Q : Unit → Shared → Prop) E, Fm W env base out hot oa σ s → Rds s.heap hot ds vs →
    (∀ s', Fm W env base out hot oa σ' s' → Q () s') → wpAny (model W.prog W.w) A (assignInOrder ((assignEach ts env).map (·.2)) vs) Q E s
  len : ∀ env, (assignEach ts env).length = ds.length ∧ (assignEach ts env).findIdx? (·.1) = none
theorem BindsL.nil : BindsL W sc [] [] σ σ := ⟨fun env he A hA base out hot oa s vs Q E F r k => by
    unfold Rds at r; subst r
    show wpAny _ A (pure ()) Q E s
    exact wpAny_pure (k s F), fun _ => ⟨rfl, rfl⟩⟩
/-- a store that lasts: what is read of an untouched value goes on -/
theorem BindsL.cons {x : Str} {p : Pos} {ts : List PySem.Expr} {d : V} {ds : List V} {τ : Store} (hp : Put x (.val d) σ τ) (hn : noApp x σ) (h2 : BindsL W sc ts ds τ σ') :
    BindsL W sc (.Name x p :: ts) (d :: ds) σ σ' :=
  ⟨fun env he A hA base out hot oa s vs Q E F r k => by
    unfold Rds at r
    obtain ⟨v, rest, rfl, r1, r2⟩ := r
    show wpAny _ A (do holding rest (assign (.Name x p) env v); assignInOrder ((assignEach ts env).map (·.2)) rest) Q E s
    have F1 := F.rebase
    refine wpAny_bind (wpAny_holding (wpAny_assign_Name (F1.store hp r1 hn fun s₁ F₁ => ?_)))
    have r2' : Rds s₁.heap hot ds rest := by
      refine Rds.mono (fun b o nb e => ⟨F₁.grow.sub b o (hideAll_get _ e fun q => nb (F.mutNew b q).2), nb⟩) _ _ r2
    exact h2.run env he A hA base out hot oa s₁ rest Q E (F₁.debase F.grow_hidden F.wbase F.outMut (fun a ha => F.hotnew a ha.1) F.outlive) r2' k,
   fun env => by
    obtain ⟨a, b⟩ := h2.len env
    refine ⟨by show (assignEach ts env).length + 1 = _; rw [a]; rfl, ?_⟩
    show List.findIdx? (·.1) ((false, assign (.Name x p) env) :: assignEach ts env) = none
    rw [List.findIdx?_cons, b]; rfl⟩
theorem Fm.ext {env : Env} {base s : Shared} {out hot : Addr → Prop} {oa : Str → Addr} {h' : Heap} (F : Fm W env base out hot oa σ s) (he : Heap.ExtBut s.heap.objs.size s.heap h') : Fm W env base out hot oa σ { s with heap := h' } :=
  F.grown ⟨fun b o e => he b o (Nat.ne_of_lt (Heap.lt_size e)) e, rfl, fun e => e⟩
theorem Binds.tuple {ts : List PySem.Expr} {j : Nat} {p : Pos} {ds : List V} (h : BindsL W sc ts ds σ σ') : Binds W sc (.Tuple ts j p) (.tup ds) σ σ' :=
  ⟨fun env he A hA base out hot oa s v Q E F r k => by
    obtain ⟨a, items, rfl, ha, hl, hr⟩ := rd_tup r
    have hz : items.size = ds.length := by rw [← hr.length]; simp
    refine assign_Tuple_tuple hA.handled hl ((h.len env).1.trans hz.symm) (h.len env).2 fun h' he' => ?_
    exact h.run env he A hA base out hot oa _ _ Q E (F.ext he') (Rds.mono (fun b o nb e => ⟨he' b o (Nat.ne_of_lt (Heap.lt_size e)) e, nb⟩) _ _ hr) k⟩
/-- x, y, .. = e of a call -/
theorem Runs.unpack {ts : List PySem.Expr} {j : Nat} {p pos : Pos} {e : PySem.Expr} {d : V} (h : Ev W n sc σ e d) (hb : Binds W sc (.Tuple ts j p) d σ σ')
    (hs : ∀ env, swapsWithSole [.Tuple ts j p] e pos.line env = pure false) (hw : ∀ env, env.scope = sc → swappedStores [.Tuple ts j p] e env = pure none) :
    Runs W n sc (.Assign [.Tuple ts j p] e pos) σ (.next σ') :=
  ⟨fun env he A hA base out hot oa s Q E F k => Assign_Tuple (h.run env he A hA s hot _ E F.good fun v s₁ g r =>
    hb.run env he A (hA.less (Nat.zero_le _)) base out hot oa s₁ v _ E (F.grown g) r fun s₂ F₂ => k _ _ ⟨rfl, hot, oa, F₂⟩) (hs env) (hw env he)⟩
/-- names stored from the last to the first (what a display of two or three is swapped into) -/
structure BindsR (W : Wo) (sc : Scope) (xs : List Str) (ds : List V) (σ σ' : Store) : Prop where
  run : ∀ env, env.scope = sc → ∀ A, Room A 0 → ∀ base out hot oa s vs (Q : Unit → Shared → Prop) E, Fm W env base out hot oa σ s → Rds s.heap hot ds vs →
    (∀ s', Fm W env base out hot oa σ' s' → Q () s') → wpAny (model W.prog W.w) A (assignInOrder (xs.map fun n => bindName env n) vs) Q E s
theorem BindsR.nil : BindsR W sc [] [] σ σ := ⟨fun env he A hA base out hot oa s vs Q E F r k => by
    unfold Rds at r; subst r
    show wpAny _ A (pure ()) Q E s
    exact wpAny_pure (k s F)⟩
theorem BindsR.cons {x : Str} {xs : List Str} {d : V} {ds : List V} {τ : Store} (hp : Put x (.val d) σ τ) (hn : noApp x σ) (h2 : BindsR W sc xs ds τ σ') : BindsR W sc (x :: xs) (d :: ds) σ σ' :=
  ⟨fun env he A hA base out hot oa s vs Q E F r k => by
    unfold Rds at r
    obtain ⟨v, rest, rfl, r1, r2⟩ := r
    show wpAny _ A (do holding rest (bindName env x v); assignInOrder (xs.map fun n => bindName env n) rest) Q E s
    have F1 := F.rebase
    refine wpAny_bind (wpAny_holding (wpAny_bindName (F1.store hp r1 hn fun s₁ F₁ => ?_)))
    have r2' : Rds s₁.heap hot ds rest := by
      refine Rds.mono (fun b o nb e => ⟨F₁.grow.sub b o (hideAll_get _ e fun q => nb (F.mutNew b q).2), nb⟩) _ _ r2
    exact h2.run env he A hA base out hot oa s₁ rest Q E (F₁.debase F.grow_hidden F.wbase F.outMut (fun a ha => F.hotnew a ha.1) F.outlive) r2' k⟩
theorem Rds.reverse {h : Heap} {hot : Addr → Prop} : ∀ {ds : List V} {vs : List Value}, Rds h hot ds vs → Rds h hot ds.reverse vs.reverse
  | [], vs, r => by unfold Rds at r; subst r; exact .nil
  | d :: ds, vs, r => by
    unfold Rds at r
    obtain ⟨v, rest, rfl, r1, r2⟩ := r
    rw [List.reverse_cons, List.reverse_cons]
    exact r2.reverse.app (.cons r1 .nil)
theorem Runs.swapped {ts : List PySem.Expr} {j : Nat} {p pos : Pos} {e : PySem.Expr} {ds : List V} {xs : List Str} (h : Ev W n sc σ e (.tup ds)) (hb : BindsR W sc xs.reverse ds.reverse σ σ')
    (hs : ∀ env, swapsWithSole [.Tuple ts j p] e pos.line env = pure false) (hw : ∀ env, env.scope = sc → swappedStores [.Tuple ts j p] e env = pure (some xs)) (hn : xs.length = ds.length) :
    Runs W n sc (.Assign [.Tuple ts j p] e pos) σ (.next σ') :=
  ⟨fun env he A hA base out hot oa s Q E F k => Assign_Tuple_swapped (h.run env he A hA s hot _ E F.good fun v s₁ g r => by
    obtain ⟨a, items, rfl, ha, hl, hr⟩ := rd_tup r
    have hz : xs.length = items.size := by rw [hn, ← hr.length]; simp
    rw [hz]
    refine unpackItems_tuple hA.handled hl fun h' he' => ?_
    exact hb.run env he A (hA.less (Nat.zero_le _)) base out hot oa _ _ _ E ((F.grown g).ext he') (Rds.mono (fun b o nb e => ⟨he' b o (Nat.ne_of_lt (Heap.lt_size e)) e, nb⟩) _ _ hr.reverse) fun s₂ F₂ => k _ _ ⟨rfl, hot, oa, F₂⟩) (hs env) (hw env he)⟩
end
end Mine
open PySem PySem.W PyProof.Rows
set_option Elab.async false
set_option linter.unusedVariables false
namespace Mine
section
variable {W : Wo} {n : Nat} {sc : Scope} {σ σ' : Store}
/-- the expression makes a new list -/
structure EvNew (W : Wo) (n : Nat) (sc : Scope) (σ : Store) (e : PySem.Expr) (ds : List V) : Prop where
  run : ∀ env, env.scope = sc → ∀ A, Room A n → ∀ s hot (Q : Value → Shared → Prop) E, Good W env σ hot s →
    (∀ a s' items, Grow s s' → s.heap.get? a = none → s'.heap.PlainList a items → Rds s'.heap (fun b => hot b ∨ b = a) ds items.toList → ¬ hot a → Q (.ref a) s') → wpAny (model W.prog W.w) A (eval e env) Q E s
theorem EvNew.list {es : List PySem.Expr} {pos} {ds : List V} (h : Evs W n sc σ es ds) (hs : ds.length ≤ 16777216) : EvNew W n sc σ (.List es pos) ds :=
  ⟨fun env he A hA s hot Q E g k => @PyProof.Rows.List_ _ _ _ _ _ _ _ _ (h.run env he A hA s hot _ E pos g fun vs s₁ g₁ r₁ => by
    have hz : vs.toArray.size ≤ sizeLine := by rw [List.size_toArray, sizeLine_eq]; exact r₁.le hs
    refine wpAny_newObj_type ?_ hz
    have up : Sub s₁.heap (s₁.heap.push { cls := .type "list", dict := Option.none, data := .seq vs.toArray }) := fun b o e => Heap.get?_push_of_some _ e
    refine k _ _ vs.toArray (g₁.trans ⟨up, rfl, fun e => e⟩) (none_of_sub g₁.sub (get_size_none _)) ⟨0, Heap.get?_push_size _ rfl⟩ ?_ (newIsHot (g.grow g₁).alive)
    rw [List.toList_toArray]
    exact Rds.mono (fun b o nb e => ⟨up b o e, fun q => by
      rcases q with q | q
      · exact nb q
      · rw [q, get_size_none] at e; cases e⟩) _ _ r₁)⟩
theorem Fm.storeOwn {env : Env} {base s : Shared} {out hot : Addr → Prop} {oa : Str → Addr} {M : Model} {A : Around} {E : Value → Shared → Prop} {x : Str} {ds : List V} {a : Addr} {items : Array Value} {Q : Unit → Shared → Prop}
    (F : Fm W env base out hot oa σ s) {s₁ : Shared} (g : Grow s s₁) (hp : Put x (.own ds) σ σ') (hn : noApp x σ) (ha : s.heap.get? a = none) (hl : s₁.heap.PlainList a items) (hr : Rds s₁.heap (fun b => hot b ∨ b = a) ds items.toList)
    (h : ∀ s' hot' oa', Fm W env base out hot' oa' σ' s' → Q () s') : wpAny M A (storeName env x (.ref a)) Q E s₁ := by
  have F₁ := F.hotter g (wr := [a]) (fun b hb => by rw [List.mem_singleton.mp hb]; exact ha) (fun b hb => by rw [List.mem_singleton.mp hb]; obtain ⟨m, e⟩ := hl; exact ⟨_, e⟩)
  have hh : ∀ b, (hot b ∨ b = a) ↔ (hot b ∨ b ∈ [a]) := fun b => by simp
  have hr' : Rds s₁.heap (fun b => hot b ∨ b ∈ [a]) ds items.toList := Rds.mono (fun b o nb e => ⟨e, fun q => nb ((hh b).mpr q)⟩) _ _ hr
  have aL : a ≠ env.locals := fun q => by obtain ⟨o, e⟩ := F.alive _ F.nshot; rw [← q, ha] at e; cases e
  have ac : ∀ q ∈ σ, env.scope.names.lookup q.1 = some .cell → env.cells.lookup q.1 ≠ some a := fun q hq hk e => by
    obtain ⟨c, v, h1, _, _, _, h5⟩ := F.cl q hq hk
    rw [e] at h1; cases h1
    obtain ⟨o, e'⟩ := F.alive _ h5
    rw [ha] at e'; cases e'
  have ao : ∀ q ∈ σ, q.2.isOwn = true → oa q.1 ≠ a := fun q hq ho e => by
    have := (F.mutNew (oa q.1) (mem_mutL.mpr (.inr (.inr ⟨q, hq, ho, rfl⟩)))).2
    obtain ⟨o, e'⟩ := F.alive _ this
    rw [e, ha] at e'; cases e'
  refine F₁.storeAny (oa' := fun y => if y = x then a else oa y) hp (fun _ e => e) F₁.hotnew F₁.alive (fun _ _ e => e) (fun _ _ e => e) (fun y hy => if_neg hy) (fun p hp' y e _ => ⟨fun q => hn p hp' (by rw [e, q]), fun _ _ e => e⟩)
    (fun _ => ⟨by rw [if_pos rfl]; exact none_of_sub F.grow.sub ha, by rw [if_pos rfl]; exact aL, fun q hq ho _ => by rw [if_pos rfl]; exact ao q hq ho, fun q hq hk => by rw [if_pos rfl]; exact ac q hq hk⟩)
    (fun h' hk hv => ?_) (fun s' F' => h s' _ _ F')
  unfold SlotF OwnOk
  dsimp only
  rw [if_pos rfl]
  have keep : ∀ b, b ≠ env.locals → (∀ q ∈ σ, env.scope.names.lookup q.1 = some .cell → env.cells.lookup q.1 ≠ some b) → h'.get? b = s₁.heap.get? b := fun b h1 h2 => hk b h1 fun c hl hc q => by
    obtain ⟨p, hp1, hp2⟩ := List.mem_map.mp hp.mem
    exact h2 p hp1 (by rw [hp2]; exact hl) (by rw [hp2, hc, q])
  obtain ⟨m, e⟩ := hl
  refine ⟨items, hv, ⟨m, (keep a aL ac).trans e⟩, ?_, .inr (List.mem_singleton.mpr rfl), none_of_sub F.grow.sub ha, aL⟩
  refine Rds.mono (fun b o nb e => ⟨(keep b (ne_hot F₁.nshot nb) fun q hq hk' hc => ?_).trans e, nb⟩) _ _ hr'
  obtain ⟨c, v, h1, _, _, _, h5⟩ := F₁.cl q hq hk'
  rw [hc] at h1; cases h1
  exact nb h5
/-- x = [..], the list to be changed in place -/
theorem Runs.assignOwn {x : Str} {p pos : Pos} {e : PySem.Expr} {ds : List V} (h : EvNew W n sc σ e ds) (hp : Put x (.own ds) σ σ') (hn : noApp x σ) (hs : ∀ env, swapsWith e (some (.Name x p)) pos.line env = pure false) :
    Runs W n sc (.Assign [.Name x p] e pos) σ (.next σ') :=
  ⟨fun env he A hA base out hot oa s Q E F k => wpAny_Assign_Name (h.run env he A hA s hot _ E F.good fun a s₁ items g ha hl hr _ =>
    F.storeOwn g hp hn ha hl hr fun s₂ hot' oa' F₂ => k _ _ ⟨rfl, hot', oa', F₂⟩) (hs env)⟩
/-- the frame behind a change of a list of its own -/
theorem Fm.writeOwn {env : Env} {base s : Shared} {out hot : Addr → Prop} {oa : Str → Addr} {x : Str} {ds ds' : List V} {h' : Heap} {tk : Nat} {items' : Array Value}
    (F : Fm W env base out hot oa σ s) (hm : (x, Slot.own ds) ∈ σ) (hp : Put x (.own ds') σ σ') (hs : Heap.SameBut (oa x) s.heap h') (hl : h'.PlainList (oa x) items') (hr : Rds s.heap hot ds' items'.toList) :
    Fm W env base out hot oa σ' { s with heap := h', toks := tk } := by
  obtain ⟨items, va, _, _, hx, bx, xL⟩ := F.vars _ hm
  have back := hp.back F.nodup
  have up : ∀ b o, ¬ hot b → s.heap.get? b = some o → h'.get? b = some o ∧ ¬ hot b := fun b o nb e => ⟨(hs.2 b (ne_hot hx nb)).trans e, nb⟩
  have vi : ∀ p ∈ σ, ∀ v, VarIs env s.heap p.1 v → VarIs env h' p.1 v := fun p hp' v y => y.same hs (Ne.symm xL) fun hk c hc q => by
    rcases F.lc p hp' with k | k
    · rw [k] at hk; rcases hk with hk | hk <;> cases hk
    · exact F.ownCell p hp' _ hm k rfl (by rw [hc, q])
  have al : ∀ a, hot a → ∃ o, h'.get? a = some o := alive_same F.alive hs (let ⟨m, e⟩ := hl; ⟨_, e⟩)
  have own' : ∀ p ∈ σ', p.2.isOwn = true → ∃ q ∈ σ, q.2.isOwn = true ∧ q.1 = p.1 := fun p hp' ho => by
    rcases hp.cases F.nodup p hp' with e | ⟨a, _⟩
    · subst e; exact ⟨_, hm, rfl, rfl⟩
    · exact ⟨p, a, ho, rfl⟩
  exact { F with
    grow := F.grow.sameBut bx hs
    nodup := by rw [hp.names]; exact F.nodup
    isv := hp.all F.nodup (P := fun y => isVar env.scope y = true) F.isv
    lc := hp.all F.nodup (P := fun y => env.scope.names.lookup y = some .local ∨ env.scope.names.lookup y = some .cell) F.lc
    ns := F.ns.imp fun m hm => hm.sameBut hs (Ne.symm xL)
    cl := fun p hp' hk => by
      obtain ⟨q, hq, e⟩ := back p hp'
      rw [← e] at hk ⊢
      obtain ⟨c, v, h1, h2, h3⟩ := F.cl q hq hk
      exact ⟨c, v, h1, h2.sameBut hs fun q' => F.ownCell q hq _ hm hk rfl (by rw [h1, q']), h3⟩
    apart := fun p hp' q hq' k1 k2 c h1 h2 => by
      obtain ⟨p', a, e⟩ := back p hp'
      obtain ⟨q', b, e'⟩ := back q hq'
      rw [← e] at k1 h1 ⊢; rw [← e'] at k2 h2 ⊢
      exact F.apart p' a q' b k1 k2 c h1 h2
    ownCell := fun p hp' q hq' hk ho => by
      obtain ⟨p', a, e⟩ := back p hp'
      obtain ⟨q', b, ho', e'⟩ := own' q hq' ho
      rw [← e] at hk ⊢; rw [← e']
      exact F.ownCell p' a q' b hk ho'
    vars := fun p hp' => by
      rcases hp.cases F.nodup p hp' with e | ⟨a, hne⟩
      · subst e
        exact ⟨items', vi _ hm _ va, hl, Rds.mono up _ _ hr, hx, bx, xL⟩
      · have old := F.vars p a
        cases h : p.2 with
        | unset => trivial
        | val d => rw [h] at old; obtain ⟨v, y, z⟩ := old; exact ⟨v, vi p a v y, Rd.mono up _ _ z⟩
        | own l =>
          rw [h] at old; obtain ⟨its, y, ⟨m, z⟩, r, d⟩ := old
          exact ⟨its, vi p a _ y, ⟨m, (hs.2 _ fun q => hne (F.inj p a _ hm (by rw [h]; rfl) rfl q)).trans z⟩, Rds.mono up _ _ r, d⟩
        | app y =>
          rw [h] at old; obtain ⟨b, y', ⟨o, z, r⟩, nb⟩ := old
          exact ⟨b, vi p a _ y', ⟨o, (up b o nb z).1, r⟩, nb⟩
    alive := al
    inj := fun p hp' q hq' h1 h2 e => by
      obtain ⟨p', a, ha, e1⟩ := own' p hp' h1
      obtain ⟨q', b, hb, e2⟩ := own' q hq' h2
      rw [← e1, ← e2] at e ⊢
      exact F.inj p' a q' b ha hb e }
theorem Fm.ownVar {env : Env} {base s : Shared} {out hot : Addr → Prop} {oa : Str → Addr} (F : Fm W env base out hot oa σ s) {x : Str} {p : Pos} {ds : List V} (hm : (x, Slot.own ds) ∈ σ) {M : Model} {A : Around} {E : Value → Shared → Prop} {Q : Value → Shared → Prop}
    (h : Q (.ref (oa x)) s) : wpAny M A (eval (.Name x p) env) Q E s := by
  obtain ⟨items, hx, _⟩ := F.vars _ hm
  have hd := isVar_1 (F.isv _ hm)
  rcases hx with ⟨a, m, hn, hmx⟩ | ⟨a | a, c, hc, hcv⟩
  · exact wpAny_Name (wpAny_loadName_local F.kind a hn hmx h) hd
  · exact wpAny_Name (wpAny_loadName_cell F.kind a hc hcv h) hd
  · exact wpAny_Name (wpAny_loadName_free F.kind a hc hcv h (isVar_2 (F.isv _ hm))) hd
theorem Fm.notInter {env : Env} {base s : Shared} {out hot : Addr → Prop} {oa : Str → Addr} (F : Fm W env base out hot oa σ s) : interactive env = false := by
  unfold interactive; rw [F.kind]; rfl
/-- x.append(e) -/
theorem Runs.append {x : Str} {p apos pos pos' : Pos} {e : PySem.Expr} {ds : List V} {d : V} (hm : (x, Slot.own ds) ∈ σ) (h : Ev W n sc σ e d) (hp : Put x (.own (ds ++ [d])) σ σ') (hz : ds.length ≤ 1000000)
    (hline : (apos.endLine == pos.line) = true) (hn : ∀ env, starEach [e] env = [(false, eval e env)]) :
    Runs W n sc (.Expr (.Call (.Attribute (.Name x p) "append" apos) [e] [] pos) pos') σ (.next σ') :=
  ⟨fun env he A hA base out hot oa s Q E F k => by
    refine wpAny_Expr_any (wpAny_Call_append (by rfl) (by rw [hn]; rfl) hline (by rw [hn]; rfl) (F.ownVar hm ?_)) F.notInter rfl
    obtain ⟨items, _, ⟨m, hl⟩, hr, _⟩ := F.vars _ hm
    refine ⟨oa x, items, rfl, ⟨_, m, hl, rfl, rfl, rfl⟩, h.run env he A hA s hot _ E F.good fun v s₁ g r => ?_⟩
    have hz' : items.size ≤ sizeLine := by have := hr.length; rw [Array.length_toList] at this; rw [this, sizeLine_eq]; omega
    refine wpAny_list_append_plain ⟨m, g.sub _ _ hl⟩ (fun h' hpl hs' => k _ _ ⟨rfl, hot, oa, (F.grown g).writeOwn hm hp hs' hpl ?_⟩) hz'
    rw [Array.toList_push]
    exact (hr.sub g.sub).app (.cons r .nil)⟩
theorem Rds.set {h : Heap} {hot : Addr → Prop} : ∀ {ds : List V} {vs : List Value} (i : Nat) {d : V} {v : Value}, Rds h hot ds vs → Rd h hot d v → Rds h hot (ds.set i d) (vs.set i v)
  | [], vs, i, d, v, r, _ => by unfold Rds at r; subst r; exact .nil
  | x :: ds, vs, i, d, v, r, q => by
    unfold Rds at r
    obtain ⟨w, rest, rfl, r1, r2⟩ := r
    cases i with
    | zero => exact .cons q r2
    | succ i => exact .cons r1 (r2.set i q)
theorem set_own {env : Env} {base s s₁ : Shared} {out hot : Addr → Prop} {oa : Str → Addr} {A : Around} {E : Value → Shared → Prop} {Q : Unit → Shared → Prop} {x : Str} {ds : List V} {i : Int} {t : Tok} {d : V} {v : Value}
    (F : Fm W env base out hot oa σ s) (hm : (x, Slot.own ds) ∈ σ) (hp : Put x (.own (ds.set i.toNat d)) σ σ') (h0 : 0 ≤ i) (h1 : i < ds.length) (h2 : i < 2 ^ 63) (r : Rd s.heap hot d v)
    (h : ∀ s', Fm W env base out hot oa σ' s' → Q () s') : wpAny (model W.prog W.w) A (setItem (.ref (oa x)) (.int i t) v) Q E s := by
  obtain ⟨items, _, ⟨m, hl⟩, hr, _⟩ := F.vars _ hm
  have hz : items.size = ds.length := by rw [← hr.length]; simp
  refine ki_setAt (n := m) hl h0 h2 (by rw [hz]; exact h1) (h _ (F.writeOwn hm hp (Heap.SameBut.update ..) (items' := items.setIfInBounds i.toNat v) ?_ ?_))
  · obtain ⟨m', e⟩ : ∃ m', Obj.mapSeq (·.setIfInBounds i.toNat v) { cls := .type "list", data := .seq items m } = { cls := .type "list", data := .seq (items.setIfInBounds i.toNat v) m' } := ⟨_, rfl⟩
    exact ⟨m', (Heap.get?_update_self _ hl (by rw [e]; rfl)).trans (congrArg some e)⟩
  · rw [Array.toList_setIfInBounds]; exact hr.set _ r
/-- x[i] op= e -/
theorem Runs.augItem {x : Str} {p pos' pos : Pos} {ie e : PySem.Expr} {op : Operator} {ds : List V} {i : Int} {a b d : V} (hm : (x, Slot.own ds) ∈ σ) (hi : Ev W n sc σ ie (.int i)) (h0 : 0 ≤ i) (h2 : i < 2 ^ 63) (ha : ds[i.toNat]? = some a)
    (h : Ev W n sc σ e b) (ho : InpOk W op a b d) (hp : Put x (.own (ds.set i.toNat d)) σ σ') (hg : ∀ ov iv new, augStore ie ov iv new = (do holding [new, ov, iv] (PySem.setItem ov iv new); release [new, ov, iv] []; pure .next)) :
    Runs W n sc (.AugAssign (.Subscript (.Name x p) ie pos') op e pos) σ (.next σ') :=
  ⟨fun env he A hA base out hot oa s Q E F k => wpAny_AugAssign_SubscriptAny (F.ownVar hm (hi.run env he A hA s hot _ E F.good fun iv s₁ g₁ r₁ => by
    obtain ⟨t, rfl⟩ := rd_int r₁
    have F₁ := F.grown g₁
    obtain ⟨items, _, ⟨m, hl⟩, hr, _⟩ := F₁.vars _ hm
    obtain ⟨v, hv, rv⟩ := hr.getElem ha
    have h1 : i < ds.length := by
      have := (List.getElem?_eq_some_iff.mp ha).1
      omega
    refine @wpAny_getItem_list _ _ _ _ _ _ _ _ _ _ _ (PlainList.isList ⟨m, hl⟩) h0 h2 (by simpa using hv) (h.run env he A hA s₁ hot _ E F₁.good fun w s₂ g₂ r₂ => ?_)
    exact ho A (hA.less (Nat.zero_le _)) s₂ hot v w _ E (F₁.grown g₂).good.base (F₁.grown g₂).alive (rv.sub g₂.sub) r₂ fun u s₃ g₃ r₃ =>
      set_own (F₁.grown (g₂.trans g₃)) (s₁ := s₃) hm hp h0 h1 h2 r₃ fun s' F' => k _ _ ⟨rfl, hot, oa, F'⟩)) hg⟩
/-- an own list is changed no more -/
theorem Fm.freeze {env : Env} {base s : Shared} {out hot : Addr → Prop} {oa : Str → Addr} {x : Str} {ds : List V} (F : Fm W env base out hot oa σ s) (hm : (x, Slot.own ds) ∈ σ) (hp : Put x (.val (.list ds)) σ σ') :
    Fm W env base out (fun a => hot a ∧ a ≠ oa x) oa σ' s := by
  obtain ⟨items, va, hl, hr, hx, bx, xL⟩ := F.vars _ hm
  have back := hp.back F.nodup
  have own' : ∀ p ∈ σ', p.2.isOwn = true → p ∈ σ ∧ p.1 ≠ x := fun p hp' ho => by
    rcases hp.cases F.nodup p hp' with e | a
    · subst e; cases ho
    · exact a
  exact { F with
    nodup := by rw [hp.names]; exact F.nodup
    isv := hp.all F.nodup (P := fun y => isVar env.scope y = true) F.isv
    lc := hp.all F.nodup (P := fun y => env.scope.names.lookup y = some .local ∨ env.scope.names.lookup y = some .cell) F.lc
    cl := fun p hp' hk => by
      obtain ⟨q, hq, e⟩ := back p hp'
      rw [← e] at hk ⊢
      obtain ⟨c, v, h1, h2, h3, h4, h5⟩ := F.cl q hq hk
      exact ⟨c, v, h1, h2, h3, h4, h5, fun q' => F.ownCell q hq _ hm hk rfl (by rw [h1, q'])⟩
    apart := fun p hp' q hq' k1 k2 c h1 h2 => by
      obtain ⟨p', a, e⟩ := back p hp'
      obtain ⟨q', b, e'⟩ := back q hq'
      rw [← e] at k1 h1 ⊢; rw [← e'] at k2 h2 ⊢
      exact F.apart p' a q' b k1 k2 c h1 h2
    ownCell := fun p hp' q hq' hk ho => by
      obtain ⟨p', a, e⟩ := back p hp'
      rw [← e] at hk ⊢
      exact F.ownCell p' a q (own' q hq' ho).1 hk ho
    vars := fun p hp' => by
      rcases hp.cases F.nodup p hp' with e | ⟨a, hne⟩
      · subst e
        refine ⟨_, va, ?_⟩
        unfold Rd
        exact ⟨_, items, rfl, fun q => q.2 rfl, hl, Rds.mono (fun b o nb e => ⟨e, fun q => nb q.1⟩) _ _ hr⟩
      · have old := F.vars p a
        cases h : p.2 with
        | unset => trivial
        | val d => rw [h] at old; obtain ⟨v, y, z⟩ := old; exact ⟨v, y, z.less fun b q => q.1⟩
        | own l =>
          rw [h] at old; obtain ⟨its, y, z, r, d, e⟩ := old
          exact ⟨its, y, z, Rds.mono (fun b o nb e => ⟨e, fun q => nb q.1⟩) _ _ r, ⟨d, fun q => hne (F.inj p a _ hm (by rw [h]; rfl) rfl q)⟩, e⟩
        | app y =>
          rw [h] at old; obtain ⟨b, y', z, nb⟩ := old
          exact ⟨b, y', z, fun q => nb q.1⟩
    alive := fun a q => F.alive a q.1
    outhot := fun a ha => ⟨F.outhot a ha, fun q => by obtain ⟨o, e⟩ := F.outlive a ha; rw [q, bx] at e; cases e⟩
    hotnew := fun a q => F.hotnew a q.1
    nshot := ⟨F.nshot, Ne.symm xL⟩
    inj := fun p hp' q hq' h1 h2 e => F.inj p (own' p hp' h1).1 q (own' q hq' h2).1 h1 h2 e }
theorem RunsL.freeze {x : Str} {ds : List V} {sts : List Stmt} {r : Res} (hm : (x, Slot.own ds) ∈ σ) (hp : Put x (.val (.list ds)) σ σ') (h : RunsL W n sc sts σ' r) : RunsL W n sc sts σ r :=
  ⟨fun env he A hA base out hot oa s Q E F k => h.run env he A hA base out _ oa s Q E (F.freeze hm hp) k⟩
end
end Mine
open PySem PySem.W PyProof.Rows
set_option Elab.async false
set_option linter.unusedVariables false
namespace Mine
def nodupB : List Str → Bool
  | [] => true
  | x :: r => !r.contains x && nodupB r
theorem nodupB_ok : ∀ {l : List Str}, nodupB l = true → l.Nodup
  | [], _ => List.nodup_nil
  | x :: r, h => by
    unfold nodupB at h
    simp only [Bool.and_eq_true, Bool.not_eq_true'] at h
    refine List.nodup_cons.mpr ⟨fun q => ?_, nodupB_ok h.2⟩
    have h1 := h.1
    rw [List.contains_iff_mem.mpr q] at h1
    exact Bool.noConfusion h1
def okNames (sc : Scope) (xs : List Str) : Bool :=
  nodupB xs && xs.all (fun x => isVar sc x && (sc.names.lookup x == some .local || sc.names.lookup x == some .cell)) && sc.names.all (fun p => p.2 != .free) && sc.kind == .function && !sc.isGenerator && !sc.isCoroutine
structure OkNames (sc : Scope) (xs : List Str) : Prop where
  nodup : xs.Nodup
  isv : ∀ x ∈ xs, isVar sc x = true
  lc : ∀ x ∈ xs, sc.names.lookup x = some .local ∨ sc.names.lookup x = some .cell
  nofree : ∀ x, sc.names.lookup x ≠ some .free
  kind : sc.kind = .function
  gen : sc.isGenerator = false
  co : sc.isCoroutine = false
theorem okNames_ok {sc : Scope} {xs : List Str} (h : okNames sc xs = true) : OkNames sc xs := by
  unfold okNames at h
  simp only [Bool.and_eq_true, Bool.not_eq_true', List.all_eq_true, Bool.or_eq_true, beq_iff_eq, bne_iff_ne] at h
  obtain ⟨⟨⟨⟨⟨h1, h2⟩, h3⟩, h4⟩, h5⟩, h6⟩ := h
  exact ⟨nodupB_ok h1, fun x hx => (h2 x hx).1, fun x hx => (h2 x hx).2, fun x e => h3 _ (mem_of_lookup e) rfl, h4, h5, h6⟩
theorem lookup_cellsFrom : ∀ (names : List (Str × NameKind)) (m : Nat) (acc : List (Str × Addr)) (x : Str), names.lookup x = some .cell ∨ (acc.lookup x).isSome = true → ((cellsFrom m names acc).lookup x).isSome = true
  | [], m, acc, x, h => by
    rcases h with h | h
    · cases h
    · exact h
  | (y, k) :: r, m, acc, x, h => by
    unfold cellsFrom
    by_cases hk : (k == NameKind.cell) = true
    · rw [if_pos hk]
      refine lookup_cellsFrom r _ _ x ?_
      by_cases hx : (x == y) = true
      · exact .inr (by rw [List.lookup_cons, hx]; rfl)
      · rcases h with h | h
        · rw [List.lookup_cons, show (x == y) = false by simpa using hx] at h; exact .inl h
        · exact .inr (by rw [List.lookup_cons, show (x == y) = false by simpa using hx]; exact h)
    · rw [if_neg hk]
      refine lookup_cellsFrom r _ _ x ?_
      rcases h with h | h
      · by_cases hx : (x == y) = true
        · rw [List.lookup_cons, hx] at h
          cases h; exact absurd rfl hk
        · rw [List.lookup_cons, show (x == y) = false by simpa using hx] at h; exact .inl h
      · exact .inr h
theorem bindL_other (kindOf : Str → Option NameKind) : ∀ (binds : List (Str × Value)) (m : Str → Option Value) (x : Str), x ∉ binds.map (·.1) → bindL kindOf binds m x = m x
  | [], _, _, _ => rfl
  | (y, v) :: r, m, x, h => by
    unfold bindL
    rw [bindL_other kindOf r _ x fun q => h (by simp only [List.map_cons]; exact List.mem_cons_of_mem _ q)]
    have hne : x ≠ y := fun e => h (by simp only [List.map_cons]; exact e ▸ List.mem_cons_self)
    split
    · exact if_neg hne
    · rfl
theorem bindL_at (kindOf : Str → Option NameKind) : ∀ (binds : List (Str × Value)) (m : Str → Option Value) (x : Str) (v : Value), (binds.map (·.1)).Nodup → (x, v) ∈ binds → kindOf x = some .local → bindL kindOf binds m x = some v
  | (y, w) :: r, m, x, v, nd, hm, hk => by
    unfold bindL
    simp only [List.map_cons, List.nodup_cons] at nd
    rcases List.mem_cons.mp hm with e | hm
    · obtain ⟨rfl, rfl⟩ := Prod.mk.inj e
      rw [bindL_other kindOf r _ _ nd.1, if_pos hk]
      simp
    · exact bindL_at kindOf r _ x v nd.2 hm hk
theorem bindC_other (kindOf : Str → Option NameKind) : ∀ (binds : List (Str × Value)) (m : Str → Option Value) (x : Str), x ∉ binds.map (·.1) → bindC kindOf binds m x = m x
  | [], _, _, _ => rfl
  | (y, v) :: r, m, x, h => by
    unfold bindC
    rw [bindC_other kindOf r _ x fun q => h (by simp only [List.map_cons]; exact List.mem_cons_of_mem _ q)]
    have hne : x ≠ y := fun e => h (by simp only [List.map_cons]; exact e ▸ List.mem_cons_self)
    split
    · rfl
    · exact if_neg hne
theorem bindC_at (kindOf : Str → Option NameKind) : ∀ (binds : List (Str × Value)) (m : Str → Option Value) (x : Str) (v : Value), (binds.map (·.1)).Nodup → (x, v) ∈ binds → kindOf x ≠ some .local → bindC kindOf binds m x = some v
  | (y, w) :: r, m, x, v, nd, hm, hk => by
    unfold bindC
    simp only [List.map_cons, List.nodup_cons] at nd
    rcases List.mem_cons.mp hm with e | hm
    · obtain ⟨rfl, rfl⟩ := Prod.mk.inj e
      rw [bindC_other kindOf r _ _ nd.1, if_neg hk]
      simp
    · exact bindC_at kindOf r _ x v nd.2 hm hk
def argStore (ps : List Str) (ds : List V) (ls : List Str) : Store := (ps.zip ds).map (fun p => (p.1, Slot.val p.2)) ++ ls.map fun x => (x, Slot.unset)
section
variable {W : Wo} {n : Nat}
theorem zip_map_fst {α : Type} : ∀ {ps : List Str} {ds : List α}, ps.length = ds.length → (ps.zip ds).map (·.1) = ps
  | [], [], _ => rfl
  | p :: ps, d :: ds, h => by simp only [List.zip_cons_cons, List.map_cons]; rw [zip_map_fst (by simpa using h)]
theorem argStore_names {ps : List Str} {ds : List V} {ls : List Str} (h : ps.length = ds.length) : (argStore ps ds ls).map (·.1) = ps ++ ls := by
  unfold argStore
  rw [List.map_append, List.map_map, List.map_map]
  have e1 : ((fun x : Str × Slot => x.1) ∘ fun p : Str × V => (p.1, Slot.val p.2)) = fun p => p.1 := rfl
  have e2 : ((fun x : Str × Slot => x.1) ∘ fun x : Str => (x, Slot.unset)) = id := rfl
  rw [e1, e2, List.map_id, zip_map_fst h]
theorem Rds.zip {h : Heap} {hot : Addr → Prop} : ∀ {ps : List Str} {ds : List V} {vs : List Value}, Rds h hot ds vs → ∀ x d, (x, d) ∈ ps.zip ds → ∃ v, (x, v) ∈ ps.zip vs ∧ Rd h hot d v
  | [], ds, vs, r, x, d, hm => by simp at hm
  | p :: ps, [], vs, r, x, d, hm => by simp at hm
  | p :: ps, e :: ds, vs, r, x, d, hm => by
    unfold Rds at r
    obtain ⟨v, rest, rfl, r1, r2⟩ := r
    rw [List.zip_cons_cons] at hm ⊢
    rcases List.mem_cons.mp hm with q | hm
    · cases q; exact ⟨v, List.mem_cons_self, r1⟩
    · obtain ⟨w, a, b⟩ := Rds.zip r2 x d hm
      exact ⟨w, List.mem_cons_of_mem _ a, b⟩
/-- the frame of a fresh call -/
theorem Fm.start {s s' : Shared} {hot : Addr → Prop} {env : Env} {ps : List Str} {ds : List V} {vs : List Value} {ls : List Str} {sc : Scope}
    (hB : Sub W.B s.heap) (al : ∀ a, hot a → ∃ o, s.heap.get? a = some o) (hr : Rds s.heap hot ds vs) (hp : ps.length = ds.length) (ok : OkNames sc (ps ++ ls)) (hsc : env.scope = sc) (hg : env.globals = mainGlobals) (hb : env.builtins = builtinsNs)
    (hcells : env.cells = cellsFrom (env.locals + 1) sc.names [])
    (x : InCallC s env.locals (bindL env.kindOf (ps.zip vs) fun _ => none) env.cells (bindC env.kindOf (ps.zip vs) fun _ => none) s') :
    Fm W env s hot (fun a => hot a ∨ a = env.locals ∨ ∃ y, env.cells.lookup y = some a) (fun _ => 0) (argStore ps ds ls) s' := by
  subst hsc
  have hlen : ps.length = vs.length := by rw [hp, hr.length]
  have nd : ((ps.zip vs).map (·.1)).Nodup := by rw [zip_map_fst hlen]; exact (List.nodup_append.mp ok.nodup).1
  have names := argStore_names (ls := ls) hp
  have inNames : ∀ p ∈ argStore ps ds ls, p.1 ∈ ps ++ ls := fun p hp' => names ▸ List.mem_map_of_mem hp'
  have keep : ∀ b o, s.heap.get? b = some o → s'.heap.get? b = some o := x.toInCall.keep
  have newL : s.heap.get? env.locals = none := by
    cases e : s.heap.get? env.locals with
    | none => rfl
    | some o => exact absurd (Heap.lt_size e) (Nat.not_lt.mpr x.toInCall.fresh)
  have newC : ∀ y c, env.cells.lookup y = some c → s.heap.get? c = none ∧ c ≠ env.locals := fun y c hc => by
    have hlt := x.above y c (mem_of_lookup hc)
    refine ⟨?_, Nat.ne_of_gt hlt⟩
    cases e : s.heap.get? c with
    | none => rfl
    | some o => exact absurd (Heap.lt_size e) (Nat.not_lt.mpr (Nat.le_of_lt (Nat.lt_of_le_of_lt x.toInCall.fresh hlt)))
  have cellOk : ∀ y, env.scope.names.lookup y = some .cell → ∃ c, env.cells.lookup y = some c := fun y hy => by
    rw [hcells]
    exact Option.isSome_iff_exists.mp (lookup_cellsFrom _ _ _ _ (.inl hy))
  refine { wbase := hB, grow := ⟨keep, by obtain ⟨h, t, e⟩ := x.toInCall.same; rw [e], fun q => by obtain ⟨h, t, e⟩ := x.toInCall.same; rw [e]; exact q⟩, kind := ok.kind, globals := hg, builtins := hb, nodup := by rw [names]; exact ok.nodup, isv := fun p hp' => ok.isv _ (inNames p hp'), lc := fun p hp' => ok.lc _ (inNames p hp'), ns := ⟨_, x.toInCall.ns⟩, nsNew := newL, cells := ?_, cl := ?_, apart := ?_, ownCell := ?_, vars := ?_, alive := ?_, outhot := fun a ha => .inl ha, outlive := al, hotnew := ?_, nshot := .inr (.inl rfl), inj := ?_ }
  · rintro y (hy | hy)
    · obtain ⟨c, hc⟩ := cellOk y hy; rw [hc]; rfl
    · exact absurd hy (ok.nofree y)
  · intro p hp' hk
    obtain ⟨c, hc⟩ := cellOk p.1 hk
    exact ⟨c, _, hc, x.cell _ c hc, (newC _ c hc).1, (newC _ c hc).2, .inr (.inr ⟨_, hc⟩)⟩
  · intro p hp' q hq' _ _ c h1 h2
    exact name_of_addr x.apart (mem_of_lookup h1) (mem_of_lookup h2)
  · intro p hp' q hq' _ ho
    exfalso
    unfold argStore at hq'
    rcases List.mem_append.mp hq' with q' | q'
    · obtain ⟨z, _, rfl⟩ := List.mem_map.mp q'; cases ho
    · obtain ⟨z, _, rfl⟩ := List.mem_map.mp q'; cases ho
  · intro p hp'
    unfold argStore at hp'
    rcases List.mem_append.mp hp' with q | q
    · obtain ⟨⟨y, d⟩, hz, rfl⟩ := List.mem_map.mp q
      obtain ⟨v, hv, rv⟩ := hr.zip y d hz
      have rv' : Rd s'.heap (fun a => hot a ∨ a = env.locals ∨ ∃ y, env.cells.lookup y = some a) d v := Rd.mono (fun b o nb e => ⟨keep b o e, fun q => by
        rcases q with q | q | ⟨z, q⟩
        · exact nb q
        · rw [q, newL] at e; cases e
        · rw [(newC z b q).1] at e; cases e⟩) _ _ rv
      refine ⟨v, ?_, rv'⟩
      rcases ok.lc y (List.mem_append_left _ (by have := List.of_mem_zip hz; exact this.1)) with k | k
      · exact .inl ⟨k, _, x.toInCall.ns, bindL_at _ _ _ _ _ nd hv k⟩
      · obtain ⟨c, hc⟩ := cellOk y k
        refine .inr ⟨.inl k, c, hc, ?_⟩
        have := x.cell y c hc
        rw [bindC_at _ _ _ _ _ nd hv (by show List.lookup y env.scope.names ≠ _; rw [k]; decide)] at this
        exact this
    · obtain ⟨z, _, rfl⟩ := List.mem_map.mp q; trivial
  · rintro a (ha | ha | ⟨y, ha⟩)
    · exact (al a ha).imp fun o e => keep a o e
    · subst ha; obtain ⟨o, _, _, e, _⟩ := x.toInCall.ns; exact ⟨o, e⟩
    · obtain ⟨o, e, _⟩ := x.cell y a ha; exact ⟨o, e⟩
  · rintro a (ha | ha | ⟨y, ha⟩)
    · exact .inl ha
    · subst ha; exact .inr newL
    · exact .inr (newC y a ha).1
  · intro p hp' q hq' ho _ _
    exfalso
    unfold argStore at hp'
    rcases List.mem_append.mp hp' with q' | q'
    · obtain ⟨z, _, rfl⟩ := List.mem_map.mp q'; cases ho
    · obtain ⟨z, _, rfl⟩ := List.mem_map.mp q'; cases ho
/-- a def of the text, in the base -/
structure IsDef (W : Wo) (a : Addr) (fd : FuncData) (body : List Stmt) : Prop where
  get : ∃ o, W.B.get? a = some o ∧ o.data = .func fd
  body : fd.body = .stmts body
  code : W.B.CodeRec fd.code fd.qualname
  clo : fd.closure = []
  globals : fd.globals = mainGlobals
  builtins : fd.builtins = builtinsNs
theorem IsDef.callee {a fd body} (h : IsDef W a fd body) : Callee W (.ref a) := let ⟨o, h1, h2⟩ := h.get; ⟨o, fd, h1, h2⟩
/-- the contract of a def: its body's run -/
theorem code_fn {a : Addr} {fd : FuncData} {body : List Stmt} {ps ls : List Str} {ds : List V} {c : V} {kw : List (Str × Value)} {A : Around} {s : Shared} {hot : Addr → Prop} {args vs : List Value} {R : Result → Shared → Prop}
    (hf : IsDef W a fd body) (ok : okNames fd.scope (ps ++ ls) = true) (hp : ps.length = ds.length) (h : RunsL W n fd.scope body (argStore ps ds ls) (.ret c))
    (hA : Room A (n + 1)) (hB : Sub W.B s.heap) (al : ∀ a, hot a → ∃ o, s.heap.get? a = some o) (hr : Rds s.heap hot ds vs) (hbind : BindsTo s fd ⟨args, kw⟩ (ps.zip vs))
    (k : ∀ v s', Grow s s' → Rd s'.heap hot c v → R (.ok (.ret v)) s') : codeAny (model W.prog W.w) A (.call (.ref a) ⟨args, kw⟩) R s := by
  have ok' := okNames_ok ok
  obtain ⟨o, h1, h2⟩ := hf.get
  have hlen : ps.length = vs.length := by rw [hp, hr.length]
  refine codeAny_call_function hA.lim (hB _ _ h1) h2 ok'.co ok'.gen hf.body (let ⟨c, o, vs, t, a, b, d⟩ := hf.code; ⟨c, o, vs, t, a, hB _ _ b, d⟩) (hbind _ _ _ _ ?_)
  rw [hf.clo]
  refine wpAny_newFunctionEnv_cells ok'.kind (fun x hx => ?_) fun env he s' x => ?_
  · have := ok'.lc x.1 (List.mem_append_left _ (by have := List.of_mem_zip (a := x.1) (b := x.2) hx; exact this.1))
    rcases this with q | q
    · exact .inl q
    · exact .inr ⟨q, lookup_cellsFrom _ _ _ _ (.inl q)⟩
  · subst he
    refine ⟨(W.hnl.keeps hB).keeps x.toInCall.keep, codeAny_func ?_⟩
    refine h.run _ rfl _ hA.deeper s hot _ _ s' _ _ (Fm.start hB al hr hp ok' rfl hf.globals hf.builtins rfl x) fun f s₂ r => ?_
    obtain ⟨v, rfl, g, rv⟩ := r
    exact k v s₂ g rv
theorem CallOk.fn {a : Addr} {fd : FuncData} {body : List Stmt} {ps ls : List Str} {ds : List V} {c : V} (hf : IsDef W a fd body) (ok : okNames fd.scope (ps ++ ls) = true) (hp : ps.length = ds.length)
    (hbind : ∀ vs : List Value, vs.length = ps.length → bindArgs fd ⟨vs, []⟩ = pure (ps.zip vs)) (h : RunsL W n fd.scope body (argStore ps ds ls) (.ret c)) : CallOk W (n + 1) (.ref a) ds c := by
  intro A hA s hot vs Q E hB al hr k
  refine wpAny_call (code_fn hf ok hp h hA hB al hr (.of_eq (hbind vs (by rw [hr.length, hp]))) fun v s' g r => ?_)
  exact k v s' g r
end
end Mine
open PySem PySem.W PyProof.Rows
set_option Elab.async false
set_option linter.unusedVariables false
namespace Mine
section
variable {prog : Program} {w : World} {A : Around} {E : Value → Shared → Prop} {s : Shared}
theorem wp_compTurn {elt t iter : PySem.Expr} {gens : List Comprehension} {scope : Scope} {pos : Pos} {d : Nat} {it acc : Value} {env : Env} {ifs : List PySem.Expr} {Q : Fin → Shared → Prop} (h : gens[d]? = some ⟨t, iter, ifs, 0⟩)
    (hnext : ∀ g', gens[d + 1]? = some g' → g'.is_async = 0 ∧ ∀ x, foldedSetIterable g'.iter env x = pure x)
    (hq : wpAny (model prog w) A (pyNext it) (fun r s₁ => match r with
      | none => Q (.done .next) s₁
      | some v => wpAny (model prog w) A (letOwnedTupleGo t it v) (fun _ s₂ => wpAny (model prog w) A (assign t env v) (fun _ s₃ =>
          wpAny (model prog w) A (forIn ifs true fun c r => if r = true then do let ok ← isTrue c env (eval c env); pure (ForInStep.yield ok) else pure (ForInStep.yield r)) (fun ok s₄ =>
            if ok = true then (match gens[d + 1]? with
              | some g' => wpAny (model prog w) A (eval g'.iter env) (fun x s₅ => wpAny (model prog w) A (pyIter x) (fun it' s₆ =>
                  codeAny (model prog w) A (.compStart (.ListComp elt gens scope pos) (d + 1) it' acc env) (fun r s' => match r with | .ok _ => Q (.again (.compLoop (.ListComp elt gens scope pos) d it acc env)) s' | .error e => cameBackBy (model prog w) A env E e s') s₆) E s₅) E s₄
              | none => wpAny (model prog w) A (eval elt env) (fun y s₅ => wpAny (model prog w) A (call (.builtin "list.append") [acc, y]) (fun _ s₆ => Q (.again (.compLoop (.ListComp elt gens scope pos) d it acc env)) s₆) E s₅) E s₄)
            else Q (.again (.compLoop (.ListComp elt gens scope pos) d it acc env)) s₄) E s₃) E s₂) E s₁) E s) :
    wpAny (model prog w) A (compTurn (.ListComp elt gens scope pos) d it acc env) Q E s := by
  unfold compTurn
  dsimp only
  simp only [h]
  refine wpAny_bind (wpAny_standAt ?_)
  rw [if_neg (by decide)]
  refine wpAny_bind (wpAny_mono hq (fun r s₁ h₁ => ?_) fun _ _ x => x)
  cases r with
  | none => exact wpAny_pure h₁
  | some v =>
    refine wpAny_bind (wpAny_mono h₁ (fun _ s₂ h₂ => wpAny_bind (wpAny_mono h₂ (fun _ s₃ h₃ => wpAny_bind (wpAny_mono h₃ (fun ok s₄ h₄ => ?_) fun _ _ x => x)) fun _ _ x => x)) fun _ _ x => x)
    cases ok with
    | false =>
      simp only [Bool.false_eq_true, if_false] at h₄ ⊢
      exact wpAny_pure h₄
    | true =>
      simp only [if_true] at h₄ ⊢
      cases hg : gens[d + 1]? with
      | none =>
        rw [hg] at h₄
        exact wpAny_bind (wpAny_bind (wpAny_mono h₄ (fun y s₅ h₅ => wpAny_bind (wpAny_mono h₅ (fun _ s₆ h₆ => wpAny_pure (wpAny_pure h₆)) fun _ _ x => x)) fun _ _ x => x))
      | some g' =>
        rw [hg] at h₄
        obtain ⟨ha, hf⟩ := hnext g' hg
        refine wpAny_bind (wpAny_mono h₄ (fun x s₅ h₅ => wpAny_bind (wpAny_standAt ?_)) fun _ _ x => x)
        rw [ha, if_neg (by decide)]
        refine wpAny_bind (wpAny_of_eq (hf x) ?_)
        rw [if_neg (by decide)]
        exact wpAny_bind (wpAny_holding (wpAny_mono h₅ (fun it' s₆ h₆ => wpAny_bind (wpAny_runOwn (codeAny_mono h₆ fun r s' hr => by
          cases r with
          | ok f => exact wpAny_pure hr
          | error e => exact hr))) fun _ _ x => x))
theorem code_compStart {elt t iter : PySem.Expr} {gens : List Comprehension} {scope : Scope} {pos : Pos} {d : Nat} {it acc : Value} {env : Env} {ifs : List PySem.Expr} {R : Result → Shared → Prop} (h : gens[d]? = some ⟨t, iter, ifs, 0⟩)
    (h0 : codeAny (model prog w) A (.compLoop (.ListComp elt gens scope pos) d it acc env) R s)
    (h1 : wpAny (model prog w) A (pyIter it) (fun it' s' => codeAny (model prog w) A (.compLoop (.ListComp elt gens scope pos) d it' acc env) R s') (notedBy (model prog w) A env fun x s' => R (.error x) s') s) :
    codeAny (model prog w) A (.compStart (.ListComp elt gens scope pos) d it acc env) R s := by
  refine codeAny_of_tree ?_
  show wpAny _ _ ((compStart (.ListComp elt gens scope pos) d it acc env).onRaise (fun x => do noteFrame x env; standAt theWindowsPlace)) _ _ s
  refine wpAny_notedAt ?_
  unfold compStart clausesOf
  simp only [h]
  show wpAny _ _ (ask >>= _) _ _ s
  refine wpAny_bind (wpAny_askSetting (wpAny_ite ?_))
  split
  · exact wpAny_bind (wpAny_pure (wpAny_pure (And.intro rfl h0)))
  · exact wpAny_bind (wpAny_rule (wpAny_bind (wpAny_standAt (wpAny_bind (wpAny_mono h1 (fun it' s' h' => wpAny_pure (And.intro rfl h')) fun _ _ x => x)))))
/-- one turn of a comprehension's loop -/
theorem code_compLoop {elt : PySem.Expr} {gens : List Comprehension} {scope : Scope} {pos : Pos} {d : Nat} {it acc : Value} {env : Env} {R : Result → Shared → Prop}
    (h : wpAny (model prog w) A (compTurn (.ListComp elt gens scope pos) d it acc env) (fun fin s' => match fin with | .done f => R (.ok f) s' | .again c' => c'.quiet = true ∧ codeAny (model prog w) A c' R s') (notedBy (model prog w) A env fun e s' => R (.error e) s') s) :
    codeAny (model prog w) A (.compLoop (.ListComp elt gens scope pos) d it acc env) R s := by
  refine codeAny_of_tree ?_
  show wpAny _ _ ((compTurn (.ListComp elt gens scope pos) d it acc env).onRaise (fun x => do noteFrame x env; theTreesLotGoes x)) _ _ s
  exact wpAny_noted h
end
end Mine
open PySem PySem.W PyProof.Rows
set_option Elab.async false
set_option linter.unusedVariables false
namespace Mine
section
variable {W : Wo} {env : Env} {base base' : Shared} {out out' hot hot' : Addr → Prop} {oa : Str → Addr} {σ σ' : Store} {s s' : Shared}
abbrev hid (l : List Addr) (s : Shared) : Shared := { s with heap := hideAll s.heap l }
/-- a base that keeps all but the addresses told -/
theorem Fm.rebaseX (F : Fm W env base out hot oa σ s) {l : List Addr} (hl : ∀ b ∈ mutL env σ oa, b ∈ l) (hh : ∀ b ∈ l, hot b ∧ base.heap.get? b = none) : Fm W env (hid l s) (fun a => hot a ∧ a ∉ l) hot oa σ s :=
  { F with
    wbase := fun b o e => hideAll_get _ (F.grow.sub b o (F.wbase b o e)) fun q => by have := (hh b q).2; rw [F.wbase b o e] at this; cases this
    grow := ⟨fun b o e => of_hideAll _ e, rfl, fun e => e⟩
    nsNew := hideAll_none _ (hl _ (mem_mutL.mpr (.inl rfl)))
    cl := fun p hp hk => by
      obtain ⟨c, v, h1, h2, h3, h4, h5⟩ := F.cl p hp hk
      exact ⟨c, v, h1, h2, hideAll_none _ (hl _ (mem_mutL.mpr (.inr (.inl ⟨p, hp, hk, h1⟩)))), h4, h5⟩
    vars := fun p hp => by
      have old := F.vars p hp
      cases h : p.2 with
      | unset => trivial
      | val d => rw [h] at old; exact old
      | own l' => rw [h] at old; obtain ⟨items, a, b, c, d, e, f⟩ := old; exact ⟨items, a, b, c, d, hideAll_none _ (hl _ (mem_mutL.mpr (.inr (.inr ⟨p, hp, by rw [h]; rfl, rfl⟩)))), f⟩
      | app y => rw [h] at old; exact old
    outhot := fun a ha => ha.1
    outlive := fun a ha => let ⟨o, e⟩ := F.alive a ha.1; ⟨o, hideAll_get _ e ha.2⟩
    hotnew := fun a ha => by
      by_cases q : a ∈ l
      · exact .inr (hideAll_none _ q)
      · exact .inl ⟨ha, q⟩ }
theorem grow_hid (F : Fm W env base out hot oa σ s) {l : List Addr} (hh : ∀ b ∈ l, hot b ∧ base.heap.get? b = none) : Grow base (hid l s) where
  sub := fun b o e => hideAll_get _ (F.grow.sub b o e) fun hb => by rw [(hh b hb).2] at e; cases e
  os := F.grow.os
  gens := F.grow.gens
theorem out_hid (F : Fm W env base out hot oa σ s) {l : List Addr} (hh : ∀ b ∈ l, hot b ∧ base.heap.get? b = none) : ∀ a, out a → hot a ∧ a ∉ l := fun a ha => ⟨F.outhot a ha, fun q => by
  obtain ⟨o, e⟩ := F.outlive a ha
  rw [(hh a q).2] at e; cases e⟩
theorem Fm.cool (F : Fm W env base out hot' oa σ s) (h : ∀ a, hot a → hot' a) (ho : ∀ a, out a → hot a) (hm : ∀ b ∈ mutL env σ oa, hot b) : Fm W env base out hot oa σ s :=
  { F with
    cl := fun p hp hk => by
      obtain ⟨c, v, h1, h2, h3, h4, h5⟩ := F.cl p hp hk
      exact ⟨c, v, h1, h2, h3, h4, hm c (mem_mutL.mpr (.inr (.inl ⟨p, hp, hk, h1⟩)))⟩
    vars := fun p hp => by
      have old := F.vars p hp
      cases q : p.2 with
      | unset => trivial
      | val d => rw [q] at old; obtain ⟨v, a, b⟩ := old; exact ⟨v, a, b.less h⟩
      | own l =>
        rw [q] at old; obtain ⟨items, a, b, c, d, e⟩ := old
        exact ⟨items, a, b, Rds.mono (fun b o nb e => ⟨e, fun q => nb (h b q)⟩) _ _ c, hm _ (mem_mutL.mpr (.inr (.inr ⟨p, hp, by rw [q]; rfl, rfl⟩))), e⟩
      | app y => rw [q] at old; obtain ⟨b, a, c, nb⟩ := old; exact ⟨b, a, c, fun q => nb (h b q)⟩
    alive := fun a ha => F.alive a (h a ha)
    outhot := ho
    hotnew := fun a ha => F.hotnew a (h a ha)
    nshot := hm _ (mem_mutL.mpr (.inl rfl)) }
/-- slots forgotten -/
inductive Wk : Store → Store → Prop
  | nil : Wk [] []
  | same {p σ τ} : Wk σ τ → Wk (p :: σ) (p :: τ)
  | drop {x t σ τ} : Wk σ τ → Wk ((x, t) :: σ) ((x, .unset) :: τ)
theorem Wk.names {σ τ : Store} (h : Wk σ τ) : τ.map (·.1) = σ.map (·.1) := by
  induction h with
  | nil => rfl
  | same _ ih => simp [ih]
  | drop _ ih => simp [ih]
theorem Wk.mem {σ τ : Store} (h : Wk σ τ) : ∀ p ∈ τ, p ∈ σ ∨ (p.2 = .unset ∧ ∃ q ∈ σ, q.1 = p.1) := by
  induction h with
  | nil => intro p hp; cases hp
  | same _ ih =>
    intro p hp
    rcases List.mem_cons.mp hp with e | hp
    · exact .inl (e ▸ List.mem_cons_self)
    · rcases ih p hp with h | ⟨h, q, hq, e⟩
      · exact .inl (List.mem_cons_of_mem _ h)
      · exact .inr ⟨h, q, List.mem_cons_of_mem _ hq, e⟩
  | drop _ ih =>
    intro p hp
    rcases List.mem_cons.mp hp with e | hp
    · subst e; exact .inr ⟨rfl, _, List.mem_cons_self, rfl⟩
    · rcases ih p hp with h | ⟨h, q, hq, e⟩
      · exact .inl (List.mem_cons_of_mem _ h)
      · exact .inr ⟨h, q, List.mem_cons_of_mem _ hq, e⟩
theorem Wk.back {σ τ : Store} (h : Wk σ τ) : ∀ p ∈ τ, ∃ q ∈ σ, q.1 = p.1 := fun p hp => by
  rcases h.mem p hp with h | ⟨_, h⟩
  · exact ⟨p, h, rfl⟩
  · exact h
theorem Wk.own {σ τ : Store} (h : Wk σ τ) : ∀ p ∈ τ, p.2.isOwn = true → p ∈ σ := fun p hp ho => by
  rcases h.mem p hp with h | ⟨e, _⟩
  · exact h
  · rw [e] at ho; cases ho
theorem Fm.forget (F : Fm W env base out hot oa σ s) (h : Wk σ σ') : Fm W env base out hot oa σ' s :=
  { F with
    nodup := by rw [h.names]; exact F.nodup
    isv := fun p hp => by obtain ⟨q, hq, e⟩ := h.back p hp; exact e ▸ F.isv q hq
    lc := fun p hp => by obtain ⟨q, hq, e⟩ := h.back p hp; exact e ▸ F.lc q hq
    cl := fun p hp => by obtain ⟨q, hq, e⟩ := h.back p hp; exact e ▸ F.cl q hq
    apart := fun p hp q hq => by
      obtain ⟨p', a, e⟩ := h.back p hp
      obtain ⟨q', b, e'⟩ := h.back q hq
      rw [← e, ← e']; exact F.apart p' a q' b
    ownCell := fun p hp q hq hk ho => by
      obtain ⟨p', a, e⟩ := h.back p hp
      rw [← e] at hk ⊢
      exact F.ownCell p' a q (h.own q hq ho) hk ho
    vars := fun p hp => by
      rcases h.mem p hp with q | ⟨e, _⟩
      · exact F.vars p q
      · rw [e]; trivial
    inj := fun p hp q hq h1 h2 => F.inj p (h.own p hp h1) q (h.own q hq h2) h1 h2 }
theorem Wk.mutL {σ τ : Store} (h : Wk σ τ) (b : Addr) (hb : b ∈ mutL env τ oa) : b ∈ Mine.mutL env σ oa := by
  rcases mem_mutL.mp hb with e | ⟨p, hp, h1, h2⟩ | ⟨p, hp, h1, h2⟩
  · exact mem_mutL.mpr (.inl e)
  · obtain ⟨q, hq, e⟩ := h.back p hp
    exact mem_mutL.mpr (.inr (.inl ⟨q, hq, by rw [e]; exact h1, by rw [e]; exact h2⟩))
  · exact mem_mutL.mpr (.inr (.inr ⟨p, h.own p hp h1, h1, h2⟩))
end
/-- the store within a comprehension: its own targets, what it sees of the block around -/
def InS (τ : Store) (scope : Scope) (σ : Store) : Store := τ ++ σ.filter fun p => scope.names.lookup p.1 == some .free
theorem InS.own {τ σ : Store} {scope : Scope} {p : Str × Slot} (h : p ∈ τ) : p ∈ InS τ scope σ := List.mem_append_left _ h
theorem InS.out {τ σ : Store} {scope : Scope} {p : Str × Slot} (h : p ∈ σ) (hf : (scope.names.lookup p.1 == some .free) = true) : p ∈ InS τ scope σ := List.mem_append_right _ (List.mem_filter.mpr ⟨h, hf⟩)
section
variable {W : Wo} {n : Nat} {sc : Scope}
structure Tests (W : Wo) (n : Nat) (sc : Scope) (σ : Store) (ifs : List PySem.Expr) (b : Bool) : Prop where
  run : ∀ env, env.scope = sc → ∀ A, Room A n → ∀ s hot (Q : Bool → Shared → Prop) E, Good W env σ hot s → (∀ s', Grow s s' → Q b s') →
    wpAny (model W.prog W.w) A (forIn ifs true fun c r => if r = true then do let ok ← isTrue c env (eval c env); pure (ForInStep.yield ok) else pure (ForInStep.yield r)) Q E s
theorem Tests.nil {σ : Store} : Tests W n sc σ [] true := ⟨fun env he A hA s hot Q E g k => wpAny_tests_nil (k s (.refl s))⟩
theorem Tests.one {σ : Store} {c : PySem.Expr} {b : Bool} (h : EvT W n sc σ c b) : Tests W n sc σ [c] b := ⟨fun env he A hA s hot Q E g k => wpAny_tests_one (h.run env he A hA s hot Q E g k)⟩
/-- what a generator's items give, one after another -/
inductive EmitL (W : Wo) (n : Nat) (sc scope : Scope) (σ : Store) (t : PySem.Expr) (ifs : List PySem.Expr) (G : Store → List V → Prop) : List V → Store → List V → Prop
  | nil {τ : Store} : EmitL W n sc scope σ t ifs G [] τ []
  | yes {x : V} {xs : List V} {τ τ' : Store} {o o' : List V} : Binds W sc t x τ τ' → Wk τ' τ → Tests W n sc (InS τ' scope σ) ifs true → G τ' o → EmitL W n sc scope σ t ifs G xs τ o' → EmitL W n sc scope σ t ifs G (x :: xs) τ (o ++ o')
  | no {x : V} {xs : List V} {τ τ' : Store} {o' : List V} : Binds W sc t x τ τ' → Wk τ' τ → Tests W n sc (InS τ' scope σ) ifs false → EmitL W n sc scope σ t ifs G xs τ o' → EmitL W n sc scope σ t ifs G (x :: xs) τ o'
/-- an item, or an item that is a new list -/
def EvF : Bool → Wo → Nat → Scope → Store → PySem.Expr → V → Prop
  | false, W, n, sc, σ, e, d => Ev W n sc σ e d
  | true, W, n, sc, σ, e, d => ∃ l, d = .list l ∧ EvNew W n sc σ e l
theorem EvF.run {fr : Bool} {σ : Store} {e : PySem.Expr} {d : V} (h : EvF fr W n sc σ e d) : ∀ env, env.scope = sc → ∀ A, Room A n → ∀ s hot (Q : Value → Shared → Prop) E, Good W env σ hot s →
    (∀ v s', Grow s s' → Rd s'.heap hot d v → (fr = true → ∃ a l, v = .ref a ∧ s.heap.get? a = none ∧ d = .list l) → Q v s') → wpAny (model W.prog W.w) A (eval e env) Q E s := by
  intro env he A hA s hot Q E g k
  cases fr with
  | false => exact Ev.run h env he A hA s hot Q E g fun v s' g' r => k v s' g' r fun q => by cases q
  | true =>
    obtain ⟨l, rfl, h⟩ := h
    refine h.run env he A hA s hot Q E g fun a s' items g' e' pl r nh => k _ s' g' ?_ fun _ => ⟨a, l, rfl, e', rfl⟩
    unfold Rd
    exact ⟨a, items, rfl, nh, pl, Rds.mono (fun b o nb e => ⟨e, fun q => nb (.inl q)⟩) _ _ r⟩
def EmitF (fr : Bool) (W : Wo) (n : Nat) (sc scope : Scope) (σ : Store) (elt : PySem.Expr) : List Comprehension → Store → List V → Prop
  | [], τ, o => ∃ d, o = [d] ∧ EvF fr W n sc (InS τ scope σ) elt d
  | g :: gs, τ, o => ∃ a xs, Ev W n sc (InS τ scope σ) g.iter a ∧ IterOk W a xs ∧ EmitL W n sc scope σ g.target g.ifs (EmitF fr W n sc scope σ elt gs) xs τ o
abbrev Emit (W : Wo) (n : Nat) (sc scope : Scope) (σ : Store) (elt : PySem.Expr) : List Comprehension → Store → List V → Prop := EmitF false W n sc scope σ elt
/-- new lists, each another one -/
def JOk (fr : Bool) (W : Wo) (acc : List V) (items : List Value) : Prop := fr = true → (∀ d ∈ acc, ∃ l, d = .list l) ∧ (∀ v ∈ items, ∃ a, v = .ref a ∧ W.B.get? a = none) ∧ items.Nodup
theorem JOk.nil {fr : Bool} {W : Wo} : JOk fr W [] [] := fun _ => ⟨by simp, by simp, List.nodup_nil⟩
theorem rds_alive {h : Heap} {hot : Addr → Prop} : ∀ {acc : List V} {items : List Value}, Rds h hot acc items → (∀ d ∈ acc, ∃ l, d = .list l) → ∀ v ∈ items, ∃ a o, v = .ref a ∧ h.get? a = some o
  | [], items, r, _, v, hv => by unfold Rds at r; subst r; cases hv
  | d :: acc, items, r, hd, v, hv => by
    unfold Rds at r; obtain ⟨w, r', rfl, h1, h2⟩ := r
    rcases List.mem_cons.mp hv with q | q
    · subst q
      obtain ⟨l, rfl⟩ := hd d (List.mem_cons_self ..)
      obtain ⟨a, its, e, _, ⟨m, e2⟩, _⟩ := rd_list h1
      exact ⟨a, _, e, e2⟩
    · exact rds_alive h2 (fun d hd' => hd d (List.mem_cons_of_mem _ hd')) v q
theorem JOk.push {fr : Bool} {W : Wo} {h : Heap} {hot : Addr → Prop} {acc : List V} {items : List Value} {d : V} {v : Value} (j : JOk fr W acc items) (r : Rds h hot acc items) (hB : Sub W.B h) (hv : fr = true → ∃ a l, v = .ref a ∧ h.get? a = none ∧ d = .list l) : JOk fr W (acc ++ [d]) (items ++ [v]) := fun q => by
  obtain ⟨j1, j2, j3⟩ := j q
  obtain ⟨a, l, rfl, e, rfl⟩ := hv q
  refine ⟨fun d hd => ?_, fun v hv => ?_, ?_⟩
  · rcases List.mem_append.mp hd with h | h
    · exact j1 d h
    · rw [List.mem_singleton.mp h]; exact ⟨l, rfl⟩
  · rcases List.mem_append.mp hv with h | h
    · exact j2 v h
    · rw [List.mem_singleton.mp h]; exact ⟨a, rfl, none_of_sub hB e⟩
  · refine List.nodup_append.mpr ⟨j3, by simp, fun x hx y hy => ?_⟩
    rw [List.mem_singleton.mp hy]
    rintro rfl
    obtain ⟨a', o, e1, e2⟩ := rds_alive r j1 _ hx
    cases e1
    rw [e] at e2; cases e2
/-- what the comprehension sees, in the base -/
def OuterOk (cenv : Env) (base : Shared) (out : Addr → Prop) (scope : Scope) (σ : Store) : Prop := ∀ p ∈ σ, (scope.names.lookup p.1 == some .free) = true → isVar cenv.scope p.1 = true → SlotOk cenv base.heap out p.1 p.2
theorem OuterOk.lift {cenv : Env} {base base' : Shared} {out out' : Addr → Prop} {scope : Scope} {σ : Store} (h : OuterOk cenv base out scope σ) (k : ∀ b o, ¬ out b → base.heap.get? b = some o → ¬ out' b) (g : Sub base.heap base'.heap) : OuterOk cenv base' out' scope σ := fun p hp hf hv => by
  have old := h p hp hf hv
  have up : ∀ b o, ¬ out b → base.heap.get? b = some o → base'.heap.get? b = some o ∧ ¬ out' b := fun b o nb e => ⟨g b o e, k b o nb e⟩
  cases q : p.2 with
  | unset => trivial
  | val d => rw [q] at old; obtain ⟨v, a, b⟩ := old; exact ⟨v, a.sub g, Rd.mono up _ _ b⟩
  | own l => rw [q] at old; obtain ⟨a, items, x, ⟨m, y⟩, z⟩ := old; exact ⟨a, items, x.sub g, ⟨m, g _ _ y⟩, Rds.mono up _ _ z⟩
  | app l => trivial
theorem Fm.goodIn {cenv : Env} {base s : Shared} {out hot : Addr → Prop} {oa : Str → Addr} {τ σ : Store} {scope : Scope} (F : Fm W cenv base out hot oa τ s) (h : OuterOk cenv base out scope σ) : Good W cenv (InS τ scope σ) hot s :=
  { F.good with
    vars := fun p hp hv => by
      rcases List.mem_append.mp hp with q | q
      · exact F.good.vars p q hv
      · obtain ⟨q1, q2⟩ := List.mem_filter.mp q
        exact h.lift (base' := s) (out' := hot) (fun b o nb e q => by
          rcases F.hotnew b q with q | q
          · exact nb q
          · rw [q] at e; cases e) F.grow.sub p q1 q2 hv }
/-- the list that the comprehension fills -/
structure Acc (fr : Bool) (W : Wo) (cenv : Env) (base : Shared) (hot : Addr → Prop) (oa : Str → Addr) (τ : Store) (D : Addr) (ds : List V) (s : Shared) : Prop where
  list : ∃ items, s.heap.PlainList D items ∧ Rds s.heap hot ds items.toList ∧ JOk fr W ds items.toList
  hot : hot D
  fresh : base.heap.get? D = none
  free : D ∉ mutL cenv τ oa
/-- the plain clauses -/
def PlainG (env : Env) (g : Comprehension) : Prop := g.is_async = 0 ∧ ∀ x, foldedSetIterable g.iter env x = pure x
variable {σ : Store}
section
variable {fr : Bool} {elt : PySem.Expr} {gens : List Comprehension} {scope : Scope} {pos : Pos} {sc' : Scope} {cenv : Env} {A : Around} {D : Addr} {oa : Str → Addr}
/-- what one item of the innermost clause told so far gives -/
def BodyOk (fr : Bool) (W : Wo) (n : Nat) (elt : PySem.Expr) (gens : List Comprehension) (scope : Scope) (pos : Pos) (sc' : Scope) (cenv : Env) (A : Around) (D : Addr) (oa : Str → Addr) (σ : Store) (gs : List Comprehension) (d : Nat) : Prop :=
  ∀ (τ : Store) (o acc : List V), EmitF fr W n sc' scope σ elt gs τ o → acc.length + o.length ≤ 1000000 → ∀ (base : Shared) (out hot : Addr → Prop) (s : Shared) (Q : Shared → Prop) (E : Value → Shared → Prop),
    Fm W cenv base out hot oa τ s → OuterOk cenv base out scope σ → Acc fr W cenv base hot oa τ D acc s → (∀ s', Fm W cenv base out hot oa τ s' → Acc fr W cenv base hot oa τ D (acc ++ o) s' → Q s') →
    (match gens[d + 1]? with
      | some g' => wpAny (model W.prog W.w) A (eval g'.iter cenv) (fun x s₅ => wpAny (model W.prog W.w) A (pyIter x) (fun it' s₆ =>
          codeAny (model W.prog W.w) A (.compStart (.ListComp elt gens scope pos) (d + 1) it' (.ref D) cenv) (fun r s' => match r with | .ok _ => Q s' | .error e => cameBackBy (model W.prog W.w) A cenv E e s') s₆) E s₅) E s
      | none => wpAny (model W.prog W.w) A (eval elt cenv) (fun y s₅ => wpAny (model W.prog W.w) A (call (.builtin "list.append") [.ref D, y]) (fun _ s₆ => Q s₆) E s₅) E s)
theorem Acc.grown {base s s' : Shared} {hot : Addr → Prop} {τ : Store} {acc : List V} (a : Acc fr W cenv base hot oa τ D acc s) (g : Grow s s') : Acc fr W cenv base hot oa τ D acc s' :=
  { a with list := let ⟨items, ⟨m, h⟩, r, j⟩ := a.list; ⟨items, ⟨m, g.sub _ _ h⟩, r.sub g.sub, j⟩ }
theorem body_nil {d : Nat} (hsc : cenv.scope = sc') (hA : Room A n) (hd : gens[d + 1]? = none) : BodyOk fr W n elt gens scope pos sc' cenv A D oa σ [] d := by
  intro τ o acc hE hz base out hot s Q E F ho ha k
  rw [hd]
  obtain ⟨d0, rfl, hEv⟩ := hE
  refine hEv.run cenv hsc A hA s hot _ E (F.goodIn ho) fun v s₅ g r hfr => ?_
  have ha' := ha.grown g
  obtain ⟨items, hl, hr, hj⟩ := ha.list
  have hj' := hj.push hr F.good.base hfr
  have hl : s₅.heap.PlainList D items := let ⟨m, e⟩ := hl; ⟨m, g.sub _ _ e⟩
  have hr := hr.sub g.sub
  have hz' : items.size ≤ sizeLine := by have := hr.length; rw [Array.length_toList] at this; rw [this, sizeLine_eq]; simp at hz; omega
  refine wpAny_list_append_plain hl (fun h' hpl hs' => k _ ((F.grown g).touch (tk := s₅.toks) (wr := [D]) (fun b o hb e => (hs'.2 b (fun q => hb (List.mem_singleton.mpr q))).trans e) fun b hb => ?_) { ha' with list := ⟨_, hpl, ?_, by rw [Array.toList_push]; exact hj'⟩ }) hz'
  · rw [List.mem_singleton.mp hb]
    obtain ⟨m, e⟩ := hpl
    exact ⟨ha.fresh, ha.hot, ha.free, _, e⟩
  · rw [Array.toList_push]
    exact (hr.same ha.hot hs').app (.cons (r.same ha.hot hs') .nil)
theorem loop_of_body (hsc : cenv.scope = sc') (hA : Room A n) (hg : ∀ g ∈ gens, PlainG cenv g) {gs : List Comprehension} {d : Nat} (hB : BodyOk fr W n elt gens scope pos sc' cenv A D oa σ gs d) {t iter : PySem.Expr} {ifs : List PySem.Expr} (hd : gens[d]? = some ⟨t, iter, ifs, 0⟩)
    {base : Shared} {out hot : Addr → Prop} {hot₀ : Addr → Prop} {A' : Around} {sI sJ : Shared} {xs₀ : List V} {I : Addr} {fp : List Addr} {P : Nat → Value → Prop} {St : Nat → Heap → Prop} (hW : ItrW W A hot₀ sI sJ I fp P St xs₀) (ho : OuterOk cenv base out scope σ) (hI : hot I) (bI : base.heap.get? I = none) (DI : D ∉ fp)
    {R : Result → Shared → Prop} :
    ∀ (xs : List V) (i : Nat) (τ : Store) (o acc : List V), i ≤ xs₀.length → xs = xs₀.drop i → EmitL W n sc' scope σ t ifs (EmitF fr W n sc' scope σ elt gs) xs τ o → acc.length + o.length ≤ 1000000 →
    ∀ (s : Shared), Fm W cenv base out hot oa τ s → Acc fr W cenv base hot oa τ D acc s → St i s.heap → (∀ b ∈ fp, b ∉ mutL cenv τ oa) → (∀ j v x, i ≤ j → P j v → xs₀[j]? = some x → Rd s.heap hot x v) →
    (∀ s' h' tk, Fm W cenv base out hot oa τ s' → Acc fr W cenv base hot oa τ D (acc ++ o) s' → (∀ b ∈ fp, b ∉ mutL cenv τ oa) → (∀ b o, b ∉ [I] → s'.heap.get? b = some o → h'.get? b = some o) → R (.ok .next) { s' with heap := h', toks := tk }) →
    codeAny (model W.prog W.w) A (.compLoop (.ListComp elt gens scope pos) d (.ref I) (.ref D) cenv) R s := by
  intro xs
  induction xs with
  | nil =>
    intro i τ o acc hi hx hE hz s F ha st mfp item k
    have hi' : i = xs₀.length := by
      have := congrArg List.length hx
      rw [List.length_drop] at this
      simp at this; omega
    cases hE
    refine code_compLoop (wp_compTurn hd (fun g' hg' => hg g' (List.mem_of_getElem? hg')) (hW.wk.done s _ _ (hi' ▸ st) fun h' tk hk => ?_))
    have := k s h' tk F (by simpa using ha) mfp hk
    exact this
  | cons x xs ih =>
    intro i τ o acc hi hx hE hz s F ha st mfp item k
    have hlt : i < xs₀.length := by
      have := congrArg List.length hx
      rw [List.length_drop] at this
      simp at this; omega
    have hd2 : xs₀.drop i = xs₀[i] :: xs₀.drop (i + 1) := List.drop_eq_getElem_cons hlt
    rw [hd2] at hx
    obtain ⟨ex, exs⟩ := List.cons.inj hx
    have hxi : xs₀[i]? = some x := by rw [ex]; simp [hlt]
    refine code_compLoop (wp_compTurn hd (fun g' hg' => hg g' (List.mem_of_getElem? hg')) (hW.wk.item i s _ _ hlt st fun v h' tk hv st' hk => ?_))
    obtain ⟨oI, T, hoI, hc, hq⟩ := (hW.live _ _ st').2
    have I0 : I ∈ fp := hW.wk.sub I (List.mem_singleton.mpr rfl)
    have DnI : D ≠ I := fun q => DI (q ▸ I0)
    have F₂ : Fm W cenv base out hot oa τ { s with heap := h', toks := tk } := F.touch hk fun b hb => by
      rw [List.mem_singleton.mp hb]; exact ⟨bI, hI, mfp I I0, oI, hoI⟩
    have up : ∀ b o, ¬ hot b → s.heap.get? b = some o → h'.get? b = some o ∧ ¬ hot b := fun b o nb e => ⟨hk b o (fun q => nb (by rw [List.mem_singleton.mp q]; exact hI)) e, nb⟩
    have item' : ∀ j v x, i ≤ j → P j v → xs₀[j]? = some x → Rd h' hot x v := fun j v x hj hv hx => Rd.mono up _ _ (item j v x hj hv hx)
    have ha₂ : Acc fr W cenv base hot oa τ D acc { s with heap := h', toks := tk } := { ha with
      list := by
        obtain ⟨items, ⟨m, e⟩, r, j⟩ := ha.list
        exact ⟨items, ⟨m, hk _ _ (fun q => DnI (List.mem_singleton.mp q)) e⟩, Rds.mono up _ _ r, j⟩ }
    refine letOwned_quiet hoI hc hq ?_
    -- the target, over a base that keeps the list and the iterator
    have next : ∀ {τ' : Store} {Q : Unit → Shared → Prop} {E : Value → Shared → Prop}, Binds W sc' t x τ τ' → Wk τ' τ →
        (∀ s₃, Fm W cenv base out hot oa τ' s₃ → Acc fr W cenv base hot oa τ' D acc s₃ → (∀ b ∈ fp, b ∉ mutL cenv τ' oa) → (∀ b ∈ fp, ∀ o, h'.get? b = some o → s₃.heap.get? b = some o) → (∀ j v x, i ≤ j → P j v → xs₀[j]? = some x → Rd s₃.heap hot x v) → Q () s₃) →
        wpAny (model W.prog W.w) A (assign t cenv v) Q E { s with heap := h', toks := tk } := by
      intro τ' Q E hb hw kk
      refine hb.run cenv hsc A (hA.less (Nat.zero_le _)) _ _ hot oa _ v Q E F₂.rebase (item' i v x (Nat.le_refl _) hv hxi) fun s₃ F₃ => ?_
      have keep : ∀ b o, b ∉ mutL cenv τ oa → h'.get? b = some o → s₃.heap.get? b = some o := fun b o nb e => F₃.grow.sub b o (hideAll_get _ e nb)
      have up3 : ∀ b o, ¬ hot b → h'.get? b = some o → s₃.heap.get? b = some o ∧ ¬ hot b := fun b o nb e => ⟨keep b o (fun q => nb (F₂.mutNew b q).2) e, nb⟩
      have free' : ∀ b o, b ∉ mutL cenv τ oa → h'.get? b = some o → b ∉ mutL cenv τ' oa := fun b o nb e q => by
        have := (F₃.mutNew b q).1
        rw [show (hidden cenv τ oa { s with heap := h', toks := tk }).heap.get? b = some o from hideAll_get _ e nb] at this; cases this
      refine kk s₃ (F₃.debase F₂.grow_hidden F₂.wbase F₂.outMut (fun a ha => F₂.hotnew a ha.1) F₂.outlive) { hot := ha.hot, fresh := ha.fresh, free := ?_, list := ?_ } (fun b hb' => ?_) (fun b hb' o e => keep b o (mfp b hb') e) fun j v x hj hv hx => Rd.mono up3 _ _ (item' j v x hj hv hx)
      · obtain ⟨items, ⟨m, e⟩, r, j⟩ := ha₂.list
        exact ⟨items, ⟨m, keep _ _ ha.free e⟩, Rds.mono up3 _ _ r, j⟩
      · obtain ⟨items, ⟨m, e⟩, r, j⟩ := ha₂.list
        exact free' D _ ha.free e
      · obtain ⟨o, e⟩ := (hW.live _ _ st').1 b hb'
        exact free' b o (mfp b hb') e
    cases hE with
    | @no _ _ _ τ' _ hb hw ht hL =>
      refine next hb hw fun s₃ F₃ ha₃ mfp₃ keep₃ item₃ => ht.run cenv hsc A hA s₃ hot _ _ (F₃.goodIn ho) fun s₄ g₄ => ?_
      simp only [Bool.false_eq_true, if_false]
      refine ⟨rfl, ih (i + 1) τ o acc hlt exs hL hz s₄ ((F₃.grown g₄).forget hw) { (ha₃.grown g₄) with free := fun q => ha₃.free (hw.mutL D q) } (hW.wk.frame _ _ _ st' fun b hb' o e => g₄.sub b o (keep₃ b hb' o e)) mfp (fun j v x hj hv hx => (item₃ j v x (by omega) hv hx).sub g₄.sub) k⟩
    | @yes _ _ _ τ' o1 o2 hb hw ht hG hL =>
      refine next hb hw fun s₃ F₃ ha₃ mfp₃ keep₃ item₃ => ht.run cenv hsc A hA s₃ hot _ _ (F₃.goodIn ho) fun s₄ g₄ => ?_
      simp only [if_true]
      have F₄ := F₃.grown g₄
      have ha₄ := ha₃.grown g₄
      have hl : ∀ b ∈ D :: mutL cenv τ' oa, hot b ∧ base.heap.get? b = none := fun b hb' => by
        rcases List.mem_cons.mp hb' with q | q
        · rw [q]; exact ⟨ha.hot, ha.fresh⟩
        · exact ⟨(F₄.mutNew b q).2, (F₄.mutNew b q).1⟩
      have F₅ := F₄.rebaseX (l := D :: mutL cenv τ' oa) (fun b q => List.mem_cons_of_mem _ q) hl
      have kept : ∀ b o, b ∉ D :: mutL cenv τ' oa → s₄.heap.get? b = some o → (hid (D :: mutL cenv τ' oa) s₄).heap.get? b = some o := fun b o nb e => hideAll_get _ e nb
      have fpn : ∀ b ∈ fp, b ∉ D :: mutL cenv τ' oa := fun b hb' q => by
        rcases List.mem_cons.mp q with q | q
        · exact DI (q ▸ hb')
        · exact mfp₃ b hb' q
      have ho' : OuterOk cenv (hid (D :: mutL cenv τ' oa) s₄) (fun a => hot a ∧ a ∉ D :: mutL cenv τ' oa) scope σ := ho.lift (fun b o nb e q => by
        rcases F₄.hotnew b q.1 with z | z
        · exact nb z
        · rw [z] at e; cases e) (grow_hid F₄ hl).sub
      have hz1 : acc.length + o1.length ≤ 1000000 := by simp at hz; omega
      refine hB τ' o1 acc hG hz1 _ _ hot s₄ _ _ F₅ ho' { hot := ha.hot, fresh := hideAll_none _ List.mem_cons_self, free := ha₄.free, list := ha₄.list } fun s₆ F₆ ha₆ => ⟨rfl, ?_⟩
      have F₇ : Fm W cenv base out hot oa τ' s₆ := F₆.debase (grow_hid F₄ hl) F₄.wbase (out_hid F₄ hl) (fun a q => F₄.hotnew a q.1) F₄.outlive
      have up6 : ∀ b o, ¬ hot b → s₄.heap.get? b = some o → s₆.heap.get? b = some o ∧ ¬ hot b := fun b o nb e => ⟨F₆.grow.sub b o (kept b o (fun q => nb (hl b q).1) e), nb⟩
      refine ih (i + 1) τ o2 (acc ++ o1) hlt exs hL (by simp at hz ⊢; omega) s₆ (F₇.forget hw) { hot := ha.hot, fresh := ha.fresh, free := ha.free, list := ha₆.list } (hW.wk.frame _ _ _ st' fun b hb' o e => F₆.grow.sub b o (kept b o (fpn b hb') (g₄.sub b o (keep₃ b hb' o e)))) mfp (fun j v x hj hv hx => Rd.mono up6 _ _ ((item₃ j v x (by omega) hv hx).sub g₄.sub)) ?_
      rw [List.append_assoc]
      exact k
theorem comp_loop (hsc : cenv.scope = sc') (hA : Room A n) (hg : ∀ g ∈ gens, PlainG cenv g) {gs : List Comprehension} {d : Nat} (hB : BodyOk fr W n elt gens scope pos sc' cenv A D oa σ gs d) {t iter : PySem.Expr} {ifs : List PySem.Expr} (hd : gens[d]? = some ⟨t, iter, ifs, 0⟩)
    {xs : List V} {τ : Store} {o acc : List V} (hE : EmitL W n sc' scope σ t ifs (EmitF fr W n sc' scope σ elt gs) xs τ o) (hz : acc.length + o.length ≤ 1000000)
    {base : Shared} {out hot : Addr → Prop} {s₀ s : Shared} {it : Value} {R : Result → Shared → Prop} (F : Fm W cenv base out hot oa τ s₀) (ho : OuterOk cenv base out scope σ) (ha : Acc fr W cenv base hot oa τ D acc s₀) (g : Grow s₀ s) (hI : Itr W A hot s₀ s it xs)
    (k : ∀ s', Fm W cenv base out hot oa τ s' → Acc fr W cenv base hot oa τ D (acc ++ o) s' → R (.ok .next) s') :
    codeAny (model W.prog W.w) A (.compLoop (.ListComp elt gens scope pos) d it (.ref D) cenv) R s := by
  obtain ⟨I, fp, P, St, rfl, hW⟩ := hI
  have I0 : I ∈ fp := hW.wk.sub I (List.mem_singleton.mpr rfl)
  have aI : ∃ o, s.heap.get? I = some o := let ⟨o, _, e, _⟩ := (hW.live _ _ hW.st).2; ⟨o, e⟩
  have mfp : ∀ b ∈ fp, b ∉ mutL cenv τ oa := fun b hb q => by
    by_cases e : b = I
    · obtain ⟨o, e'⟩ := F.alive b (F.mutNew b q).2
      rw [e, hW.fresh] at e'; cases e'
    · exact hW.apart b hb e (F.mutNew b q).2
  obtain ⟨items, ⟨m, eD⟩, rD, jD⟩ := ha.list
  have DI : D ∉ fp := fun q => by
    by_cases e : D = I
    · rw [e, hW.fresh] at eD; cases eD
    · exact hW.apart D q e ha.hot
  have up : ∀ b o, ¬ hot b → s₀.heap.get? b = some o → s.heap.get? b = some o ∧ ¬ (hot b ∨ b ∈ [I]) := fun b o nb e => ⟨g.sub b o e, fun q => by
    rcases q with q | q
    · exact nb q
    · rw [List.mem_singleton.mp q, hW.fresh] at e; cases e⟩
  refine loop_of_body hsc hA hg hB hd (A' := A) hW ho (hot := fun a => hot a ∨ a ∈ [I]) (.inr (List.mem_singleton.mpr rfl)) (none_of_sub F.grow.sub hW.fresh) DI xs 0 τ o acc (Nat.zero_le _) (by simp) hE hz s
    (F.hotter g (fun b hb => by rw [List.mem_singleton.mp hb]; exact hW.fresh) (fun b hb => by rw [List.mem_singleton.mp hb]; exact aI)) { hot := .inl ha.hot, fresh := ha.fresh, free := ha.free, list := ⟨items, ⟨m, g.sub _ _ eD⟩, Rds.mono up _ _ rD, jD⟩ } hW.st mfp (fun j v x _ hv hx => Rd.mono up _ _ (hW.item j v x hv hx)) fun s' h' tk F' ha' mfp' hk => ?_
  have bI : base.heap.get? I = none := none_of_sub F.grow.sub hW.fresh
  have F'' := F'.touchOff (tk := tk) hk fun b hb => by rw [List.mem_singleton.mp hb]; exact ⟨bI, .inr (List.mem_singleton.mpr rfl), mfp' I I0⟩
  have hotI : ∀ a, hot a → (hot a ∨ a ∈ [I]) ∧ a ∉ [I] := fun a q => ⟨.inl q, fun z => by
    obtain ⟨o, e⟩ := F.alive a q
    rw [List.mem_singleton.mp z, hW.fresh] at e; cases e⟩
  have up2 : ∀ b o, ¬ (hot b ∨ b ∈ [I]) → s'.heap.get? b = some o → h'.get? b = some o ∧ ¬ hot b := fun b o nb e => ⟨hk b o (fun q => nb (.inr q)) e, fun q => nb (.inl q)⟩
  refine k _ (F''.cool hotI F.outhot fun b hb => (F.mutNew b hb).2) { hot := ha.hot, fresh := ha.fresh, free := ha.free, list := ?_ }
  obtain ⟨items', ⟨m', e'⟩, r', j'⟩ := ha'.list
  exact ⟨items', ⟨m', hk _ _ (hotI D ha.hot).2 e'⟩, Rds.mono up2 _ _ r', j'⟩
theorem body_cons {d : Nat} {g : Comprehension} {gs : List Comprehension} (hsc : cenv.scope = sc') (hA : Room A n) (hg : ∀ g ∈ gens, PlainG cenv g) (hd : gens[d + 1]? = some g) (hB : BodyOk fr W n elt gens scope pos sc' cenv A D oa σ gs (d + 1)) : BodyOk fr W n elt gens scope pos sc' cenv A D oa σ (g :: gs) d := by
  intro τ o acc hE hz base out hot s Q E F ho ha k
  rw [hd]
  obtain ⟨t, iter, ifs, isA⟩ := g
  have hp := hg _ (List.mem_of_getElem? hd)
  obtain ⟨h0, hf⟩ := hp
  have h0' : isA = 0 := h0
  subst h0'
  obtain ⟨a, xs, hEv, hI, hL⟩ := hE
  refine hEv.run cenv hsc A hA s hot _ E (F.goodIn ho) fun v s₅ g₅ r₅ => ?_
  refine hI.run A (hA.less (Nat.zero_le _)) s₅ hot v _ E (F.grown g₅).good.base (F.grown g₅).alive r₅ fun it' s₆ g₆ hIt => ?_
  have run : codeAny (model W.prog W.w) A (.compLoop (.ListComp elt gens scope pos) (d + 1) it' (.ref D) cenv) (fun r s' => match r with | .ok _ => Q s' | .error e => cameBackBy (model W.prog W.w) A cenv E e s') s₆ :=
    comp_loop hsc hA hg hB hd hL hz (F.grown g₅) ho (ha.grown g₅) g₆ hIt fun s' F' ha' => k s' F' ha'
  refine code_compStart hd run ?_
  obtain ⟨I, fp, P, St, rfl, hW⟩ := hIt
  exact hW.wk.self 0 _ _ _ hW.st run
theorem body_all (hsc : cenv.scope = sc') (hA : Room A n) (hg : ∀ g ∈ gens, PlainG cenv g) : ∀ (gs : List Comprehension) (d : Nat), gens.drop (d + 1) = gs → BodyOk fr W n elt gens scope pos sc' cenv A D oa σ gs d
  | [], d, h => body_nil hsc hA (by rw [List.getElem?_eq_none_iff]; have := congrArg List.length h; rw [List.length_drop] at this; simp at this; omega)
  | g :: gs, d, h => by
    have h1 : gens[d + 1]? = some g := by
      have : (gens.drop (d + 1))[0]? = some g := by rw [h]; rfl
      rw [List.getElem?_drop] at this; simpa using this
    have h2 : gens.drop (d + 1 + 1) = gs := by rw [← List.drop_drop, h]; rfl
    exact body_cons hsc hA hg h1 (body_all hsc hA hg gs (d + 1) h2)
end
end
end Mine
open PySem PySem.W PyProof.Rows
set_option Elab.async false
set_option linter.unusedVariables false
namespace Mine
def isCell (k : NameKind) : Bool := k == .cell
/-- how many cells stand ahead of the name's -/
def cellIdx : List (Str × NameKind) → Str → Nat
  | [], _ => 0
  | (y, k) :: r, x => if x = y then 0 else (if k == .cell then 1 else 0) + cellIdx r x
theorem lookup_none_of {α : Type} {l : List (Str × α)} {x : Str} (h : x ∉ l.map (·.1)) : l.lookup x = none := by
  induction l with
  | nil => rfl
  | cons p r ih =>
    obtain ⟨y, k⟩ := p
    simp only [List.map_cons, List.mem_cons, not_or] at h
    rw [List.lookup_cons, show (x == y) = false from beq_eq_false_iff_ne.mpr h.1]
    exact ih h.2
theorem cf_other : ∀ (names : List (Str × NameKind)) (m : Nat) (acc : List (Str × Addr)) (y : Str), (y, NameKind.cell) ∉ names → (cellsFrom m names acc).lookup y = acc.lookup y
  | [], _, _, _, _ => rfl
  | (x, k) :: r, m, acc, y, h => by
    unfold cellsFrom
    have h' : (y, NameKind.cell) ∉ r := fun q => h (List.mem_cons_of_mem _ q)
    by_cases hk : (k == NameKind.cell) = true
    · rw [if_pos hk, cf_other r _ _ y h', List.lookup_cons]
      have : (y == x) = false := beq_eq_false_iff_ne.mpr fun e => h (by rw [e, ← (beq_iff_eq.mp hk)]; exact List.mem_cons_self)
      rw [this]
    · rw [if_neg hk]; exact cf_other r _ _ y h'
theorem cf_cell : ∀ (names : List (Str × NameKind)) (m : Nat) (acc : List (Str × Addr)) (x : Str), (names.map (·.1)).Nodup → (x, NameKind.cell) ∈ names → (cellsFrom m names acc).lookup x = some (m + cellIdx names x)
  | (y, k) :: r, m, acc, x, nd, h => by
    simp only [List.map_cons, List.nodup_cons] at nd
    unfold cellsFrom cellIdx
    rcases List.mem_cons.mp h with e | h
    · have e1 : x = y := (Prod.mk.inj e).1
      have e2 : k = NameKind.cell := ((Prod.mk.inj e).2).symm
      subst e1; subst e2
      rw [if_pos rfl, if_pos (by rfl), cf_other r _ _ x (fun q => nd.1 (List.mem_map_of_mem q)), List.lookup_cons]
      simp
    · have hne : x ≠ y := fun e => nd.1 (e ▸ List.mem_map_of_mem h)
      rw [if_neg hne]
      by_cases hk : (k == NameKind.cell) = true
      · rw [if_pos hk, if_pos hk, cf_cell r _ _ x nd.2 h]; congr 1; omega
      · rw [if_neg hk, if_neg hk, cf_cell r _ _ x nd.2 h]; congr 1; omega
theorem cellIdx_inj : ∀ (names : List (Str × NameKind)) (x y : Str), (names.map (·.1)).Nodup → (x, NameKind.cell) ∈ names → (y, NameKind.cell) ∈ names → cellIdx names x = cellIdx names y → x = y
  | [], x, y, nd, hx, hy, h => nomatch hx
  | (z, k) :: r, x, y, nd, hx, hy, h => by
    have nd : z ∉ r.map (·.1) ∧ (r.map (·.1)).Nodup := List.nodup_cons.mp nd
    unfold cellIdx at h
    by_cases ex : x = z
    · by_cases ey : y = z
      · rw [ex, ey]
      · exfalso
        rw [if_pos ex, if_neg ey] at h
        rcases List.mem_cons.mp hx with e | hx
        · cases e
          rw [if_pos (by rfl)] at h; omega
        · exact nd.1 (ex ▸ List.mem_map_of_mem (f := (·.1)) hx)
    · by_cases ey : y = z
      · exfalso
        rw [if_neg ex, if_pos ey] at h
        rcases List.mem_cons.mp hy with e | hy
        · cases e
          rw [if_pos (by rfl)] at h; omega
        · exact nd.1 (ey ▸ List.mem_map_of_mem (f := (·.1)) hy)
      · rw [if_neg ex, if_neg ey] at h
        have hx' : (x, NameKind.cell) ∈ r := by rcases List.mem_cons.mp hx with e | hx; cases e; exact absurd rfl ex; exact hx
        have hy' : (y, NameKind.cell) ∈ r := by rcases List.mem_cons.mp hy with e | hy; cases e; exact absurd rfl ey; exact hy
        exact cellIdx_inj r x y nd.2 hx' hy' (by omega)
theorem cf_heap : ∀ (names : List (Str × NameKind)) (h : Heap) (x : Str), (names.map (·.1)).Nodup → (x, NameKind.cell) ∈ names → (pushCells h names).IsCell (h.objs.size + cellIdx names x) none
  | [], h, x, nd, hx => nomatch hx
  | (y, k) :: r, h, x, nd, hx => by
    have nd : y ∉ r.map (·.1) ∧ (r.map (·.1)).Nodup := List.nodup_cons.mp nd
    unfold pushCells cellIdx
    rcases List.mem_cons.mp hx with e | hx
    · cases e
      rw [if_pos rfl, if_pos (by rfl)]
      exact ⟨_, pushCells_keeps r _ _ _ (by simpa using Heap.get?_push_size h rfl), rfl⟩
    · have hne : x ≠ y := fun e => nd.1 (e ▸ List.mem_map_of_mem (f := (·.1)) hx)
      rw [if_neg hne]
      by_cases hk : (k == NameKind.cell) = true
      · rw [if_pos hk, if_pos hk]
        have := cf_heap r (h.push { cls := .type "cell", data := .cell none }) x nd.2 hx
        rw [Heap.size_push] at this
        rw [show h.objs.size + (1 + cellIdx r x) = h.objs.size + 1 + cellIdx r x by omega]
        exact this
      · rw [if_neg hk, if_neg hk]
        have := cf_heap r h x nd.2 hx
        rw [show h.objs.size + (0 + cellIdx r x) = h.objs.size + cellIdx r x by omega]
        exact this
/-- the cells that a comprehension takes over -/
def clOf (env : Env) : List (Str × NameKind) → List (Str × Addr) → List (Str × Addr)
  | [], acc => acc
  | (x, k) :: r, acc => if k == .free then clOf env r ((x, (env.cells.lookup x).getD 0) :: acc) else clOf env r acc
theorem closureFor_is {scope : Scope} {env : Env} (h : ∀ x, (x, NameKind.free) ∈ scope.names → (env.cells.lookup x).isSome = true) : closureFor scope env = pure (clOf env scope.names []) := by
  unfold closureFor
  have key : ∀ (names : List (Str × NameKind)) (acc : List (Str × Addr)), (∀ x, (x, NameKind.free) ∈ names → (env.cells.lookup x).isSome = true) →
      (forIn names acc fun (x : Str × NameKind) (cs : List (Str × Addr)) => (match x with
        | (name, kind) => if (kind == NameKind.free) = true then do let a ← cellOf env name; pure (ForInStep.yield ((name, a) :: cs)) else pure (ForInStep.yield cs) : Sem (ForInStep (List (Str × Addr))))) = pure (clOf env names acc) := by
    intro names
    induction names with
    | nil => intro acc _; rfl
    | cons p r ih =>
      intro acc hp
      obtain ⟨x, k⟩ := p
      rw [List.forIn_cons]
      have hr : ∀ x, (x, NameKind.free) ∈ r → (env.cells.lookup x).isSome = true := fun x q => hp x (List.mem_cons_of_mem _ q)
      unfold clOf
      by_cases hk : (k == NameKind.free) = true
      · have hk' : k = .free := beq_iff_eq.mp hk
        obtain ⟨c, hc⟩ := Option.isSome_iff_exists.mp (hp x (by rw [hk']; exact List.mem_cons_self))
        have e : cellOf env x = pure c := by unfold cellOf; rw [hc]
        simp only [hk, if_true, e, hc, Option.getD_some, pure_bind]
        exact ih _ hr
      · simp only [hk]
        exact ih _ hr
  have := key scope.names [] h
  simpa using this
theorem clOf_lookup {env : Env} : ∀ (names : List (Str × NameKind)) (acc : List (Str × Addr)) (x : Str), (names.map (·.1)).Nodup → (env.cells.lookup x).isSome = true →
    ((x, NameKind.free) ∈ names ∨ acc.lookup x = env.cells.lookup x) → x ∉ (names.filter fun p => p.2 != .free).map (·.1) → (clOf env names acc).lookup x = env.cells.lookup x
  | [], acc, x, _, _, h, _ => by
    rcases h with h | h
    · cases h
    · exact h
  | (y, k) :: r, acc, x, nd, hs, h, hn => by
    simp only [List.map_cons, List.nodup_cons] at nd
    unfold clOf
    obtain ⟨c, hc⟩ := Option.isSome_iff_exists.mp hs
    by_cases hk : (k == NameKind.free) = true
    · have hk' : k = .free := beq_iff_eq.mp hk
      subst hk'
      rw [if_pos (by rfl)]
      have hn' : x ∉ (r.filter fun p => p.2 != .free).map (·.1) := by simpa using hn
      refine clOf_lookup r _ x nd.2 hs ?_ hn'
      by_cases ex : x = y
      · subst ex
        right
        rw [List.lookup_cons]; simp [hc]
      · rcases h with h | h
        · rcases List.mem_cons.mp h with e | h
          · cases e; exact absurd rfl ex
          · exact .inl h
        · right
          rw [List.lookup_cons, show (x == y) = false from beq_eq_false_iff_ne.mpr ex]; exact h
    · rw [if_neg hk]
      have hkb : (k != NameKind.free) = true := by simpa using hk
      have hn' : x ≠ y ∧ x ∉ (r.filter fun p => p.2 != .free).map (·.1) := by
        rw [List.filter_cons_of_pos (by simpa using hkb)] at hn
        simp only [List.map_cons, List.mem_cons, not_or] at hn
        exact hn
      refine clOf_lookup r _ x nd.2 hs ?_ hn'.2
      rcases h with h | h
      · rcases List.mem_cons.mp h with e | h
        · cases e; exact absurd rfl hn'.1
        · exact .inl h
      · exact .inr h
def relabelS (scope sc : Scope) : Scope := { scope with names := scope.names.map fun p => if (p.2 == .free && sc.names.lookup p.1 == some .cell) then (p.1, .cell) else p }
theorem relabel_is {scope : Scope} {env : Env} (hk : env.scope.kind = .function) : relabel scope env = relabelS scope env.scope := by
  unfold relabel relabelS
  congr 1
  refine List.map_congr_left fun p _ => ?_
  obtain ⟨n, k⟩ := p
  show (if (k == NameKind.free && env.scope.kind == ScopeKind.function && env.kindOf n == some NameKind.cell) = true then (n, NameKind.cell) else (n, k)) = _
  rw [hk]
  simp [Env.kindOf]
def okComp (scope sc : Scope) (ts : List Str) : Bool :=
  nodupB (scope.names.map (·.1)) && nodupB ts && ts.all (fun x => isVar scope x && (scope.names.lookup x == some .local || scope.names.lookup x == some .cell)) &&
  scope.names.all (fun p => p.2 != .free || sc.names.lookup p.1 == some .cell || sc.names.lookup p.1 == some .free) && scope.kind == .function
structure OkComp (scope sc : Scope) (ts : List Str) : Prop where
  names : (scope.names.map (·.1)).Nodup
  nodup : ts.Nodup
  isv : ∀ x ∈ ts, isVar scope x = true
  lc : ∀ x ∈ ts, scope.names.lookup x = some .local ∨ scope.names.lookup x = some .cell
  free : ∀ x, (x, NameKind.free) ∈ scope.names → sc.names.lookup x = some .cell ∨ sc.names.lookup x = some .free
  kind : scope.kind = .function
theorem okComp_ok {scope sc : Scope} {ts : List Str} (h : okComp scope sc ts = true) : OkComp scope sc ts := by
  unfold okComp at h
  simp only [Bool.and_eq_true, List.all_eq_true, Bool.or_eq_true, beq_iff_eq, bne_iff_ne] at h
  obtain ⟨⟨⟨⟨h1, h2⟩, h3⟩, h4⟩, h5⟩ := h
  exact ⟨nodupB_ok h1, nodupB_ok h2, fun x hx => (h3 x hx).1, fun x hx => (h3 x hx).2, fun x hx => by
    rcases h4 _ hx with (q | q) | q
    · exact absurd rfl q
    · exact .inl q
    · exact .inr q, h5⟩
theorem lookup_of_nodup {α : Type} : ∀ {l : List (Str × α)} {x : Str} {k : α}, (l.map (·.1)).Nodup → (x, k) ∈ l → l.lookup x = some k
  | (y, j) :: r, x, k, nd, h => by
    simp only [List.map_cons, List.nodup_cons] at nd
    rw [List.lookup_cons]
    rcases List.mem_cons.mp h with e | h
    · rw [(Prod.mk.inj e).1, (Prod.mk.inj e).2]; simp
    · have hne : x ≠ y := fun e => nd.1 (e ▸ List.mem_map_of_mem h)
      rw [show (x == y) = false from beq_eq_false_iff_ne.mpr hne]
      exact lookup_of_nodup nd.2 h
theorem relabelS_keep {scope sc : Scope} {x : Str} {k : NameKind} (hk : k ≠ .free) (h : scope.names.lookup x = some k) : (relabelS scope sc).names.lookup x = some k := by
  unfold relabelS
  show (scope.names.map _).lookup x = _
  generalize scope.names = l at h
  induction l with
  | nil => cases h
  | cons p r ih =>
    obtain ⟨y, j⟩ := p
    rw [List.lookup_cons] at h
    rw [List.map_cons]
    by_cases e : (x == y) = true
    · rw [e] at h
      have hj : j = k := Option.some.inj h
      subst hj
      have : (j == NameKind.free && sc.names.lookup y == some NameKind.cell) = false := by
        have : (j == NameKind.free) = false := beq_eq_false_iff_ne.mpr hk
        rw [this]; rfl
      dsimp only
      rw [this]
      simp [List.lookup_cons, e]
    · have e' : (x == y) = false := by simpa using e
      rw [e'] at h
      have ih' := ih h
      dsimp only
      split
      · rw [List.lookup_cons, e']; exact ih'
      · rw [List.lookup_cons, e']; exact ih'
theorem relabelS_free {scope sc : Scope} {x : Str} (h : scope.names.lookup x = some .free) : (relabelS scope sc).names.lookup x = some (if sc.names.lookup x = some .cell then .cell else .free) := by
  unfold relabelS
  show (scope.names.map _).lookup x = _
  generalize scope.names = l at h
  induction l with
  | nil => cases h
  | cons p r ih =>
    obtain ⟨y, j⟩ := p
    rw [List.lookup_cons] at h
    rw [List.map_cons]
    by_cases e : (x == y) = true
    · rw [e] at h; cases h
      have exy : x = y := beq_iff_eq.mp e
      subst exy
      dsimp only
      by_cases q : sc.names.lookup x = some .cell
      · rw [if_pos q, if_pos (by rw [q]; rfl)]; simp [List.lookup_cons]
      · rw [if_neg q, if_neg (by simpa using q)]; simp [List.lookup_cons]
    · have e' : (x == y) = false := by simpa using e
      rw [e'] at h
      have ih' := ih h
      dsimp only
      split
      · rw [List.lookup_cons, e']; exact ih'
      · rw [List.lookup_cons, e']; exact ih'
theorem relabelS_names {scope sc : Scope} : (relabelS scope sc).names.map (·.1) = scope.names.map (·.1) := by
  unfold relabelS
  show (scope.names.map _).map _ = _
  rw [List.map_map]
  refine List.map_congr_left fun p _ => ?_
  dsimp only [Function.comp]
  split <;> rfl
theorem isVar_relabel {scope sc : Scope} {x : Str} (h : isVar scope x = true) : isVar (relabelS scope sc) x = true := by
  unfold isVar at h ⊢
  simp only [Bool.and_eq_true] at h ⊢
  refine ⟨h.1, ?_⟩
  have h2 := h.2
  cases q : scope.names.lookup x with
  | none => rw [q] at h2; cases h2
  | some k =>
    rw [q] at h2
    by_cases hk : k = .free
    · subst hk
      rw [relabelS_free q]
      by_cases z : sc.names.lookup x = some .cell
      · rw [if_pos z]
      · rw [if_neg z]
    · rw [relabelS_keep hk q]; exact h2
end Mine
open PySem PySem.W PyProof.Rows
set_option Elab.async false
set_option linter.unusedVariables false
namespace Mine
theorem wp_newCompEnv {M : Model} {A : Around} {E : Value → Shared → Prop} {s : Shared} {scope : Scope} {globals : Addr} {cl : List (Str × Addr)} {qual : Str} {env : Env} {Q : Env → Shared → Prop}
    (h : Q { scope, locals := s.heap.objs.size, globals, cells := cellsFrom (s.heap.objs.size + 1) scope.names cl, qual, func := none, code := env.code, frame := env.frame, builtins := env.builtins }
      { s with heap := pushCells (s.heap.push { cls := .type "dict", data := .dict #[] }) scope.names }) :
    wpAny M A (newFunctionEnv scope globals cl [] qual none .none (some env)) Q E s := by
  simp only [newFunctionEnv, Option.isSome_some, if_true]
  refine wpAny_bind (wpAny_alloc ?_)
  refine wpAny_bind (wpAny_layCells _ (fun name kind cells => by cases hkc : kind == NameKind.cell <;> simp) _ _ _ _ ?_)
  rw [show ({ s with heap := s.heap.push { cls := .type "dict", data := .dict #[] } } : Shared).heap.objs.size = s.heap.objs.size + 1 from Heap.size_push ..]
  exact wpAny_bind (wpAny_pure (wpAny_pure h))
theorem nc1 (C i : Nat) : C + 1 + i ≠ C := by omega
theorem nc2 (C i : Nat) : C ≤ C + 1 + i := by omega
theorem nc3 {b C i : Nat} (h : b = C + 1 + i) : C ≤ b := by omega
theorem nc4 {b C D i : Nat} (h : b < D) (k : D < C) (q : b = C + 1 + i) : False := by omega
theorem nc5 {b D : Nat} (h : b < D) (q : b = D) : False := by omega
theorem nc6 {b C D : Nat} (h : b < D) (k : D < C) (q : b = C) : False := by omega
theorem nc7 {b C D : Nat} (h : b < D) (k : D < C) (q : C ≤ b) : False := by omega
theorem nc8 {C D : Nat} (k : D < C) (q : C ≤ D) : False := by omega
theorem nc9 {C i j : Nat} (h : C + 1 + i = C + 1 + j) : i = j := by omega
section
variable {W : Wo} {n : Nat} {sc : Scope} {σ : Store}
theorem comp_core {fl : Bool} {elt t iter : PySem.Expr} {ifs : List PySem.Expr} {gs : List Comprehension} {scope : Scope} {pos p' : Pos} {ts : List Str} {a : V} {xs o : List V} {use : Option (Value → Sem Unit)} {Q : Value → Shared → Prop} {E : Value → Shared → Prop} {A : Around} {env : Env} {hot : Addr → Prop} {s : Shared}
    (ok : okComp scope sc ts = true) (he : env.scope = sc) (hA : Room A n) (g : Good W env σ hot s)
    (hi : Ev W n sc σ iter a) (hx : IterOk W a xs) (hE : EmitL W n (relabelS scope sc) scope σ t ifs (EmitF fl W n (relabelS scope sc) scope σ elt gs) xs (ts.map fun x => (x, Slot.unset)) o) (hz : o.length ≤ 1000000)
    (hg : ∀ e : Env, ∀ c ∈ (⟨t, iter, ifs, 0⟩ : Comprehension) :: gs, PlainG e c)
    (k : ∀ s' C D, Grow s s' → s.heap.get? C = none → (∃ m, s'.heap.Ns C m) → Rd s'.heap (fun a => hot a ∨ a = C) (.list o) (.ref D) → D ≠ C → (s.heap.get? D = none ∧ ∃ items, s'.heap.PlainList D items ∧ Rds s'.heap (fun a => hot a ∨ a = C ∨ a = D) o items.toList ∧ JOk fl W o items.toList) → compPost (model W.prog W.w) A E use Q (.ref D) C (.ok .next) s') :
    wpAny (model W.prog W.w) A (comprehension (.ListComp elt (⟨t, iter, ifs, 0⟩ :: gs) scope pos) scope env p' (newList []) false (eval iter env) use) Q E s := by
  have ok' := okComp_ok ok
  have nok : ∀ {y : Str} {j k : NameKind}, (y, j) ∈ scope.names → (y, k) ∈ scope.names → j = k := fun h1 h2 => by
    have a1 := lookup_of_nodup ok'.names h1
    rw [lookup_of_nodup ok'.names h2] at a1
    exact (Option.some.inj a1).symm
  have fr : ∀ x, (x, NameKind.free) ∈ scope.names → (env.cells.lookup x).isSome = true := fun x hx => g.cells x (by rw [he]; exact ok'.free x hx)
  have hnames : ∀ x ∈ scope.names, x.2 = .local → scope.names.lookup x.1 = some .local := fun x hx hl => lookup_of_nodup ok'.names (by rw [← hl]; exact hx)
  refine wpAny_comprehension_free (g := ⟨t, iter, ifs, 0⟩) (gs := gs) (cl := clOf env scope.names []) rfl (hg env _ List.mem_cons_self).2 (closureFor_is fr) ok'.kind hnames
    (hi.run env he A hA s hot _ E g fun v s₁ g₁ r₁ => hx.run A (hA.less (Nat.zero_le _)) s₁ hot v _ E (g.grow g₁).base (g.grow g₁).alive r₁ fun it s₂ g₂ hI => ?_)
  -- the list, the scope
  have hz0 : ([] : List Value).toArray.size ≤ sizeLine := by simp
  refine wpAny_newObj_type ?_ hz0
  generalize hD : s₂.heap.objs.size = D
  generalize hs₃ : ({ s₂ with heap := s₂.heap.push { cls := .type "list", dict := Option.none, data := .seq ([] : List Value).toArray } } : Shared) = s₃
  have up₃ : Sub s₂.heap s₃.heap := by rw [← hs₃]; exact fun b o e => Heap.get?_push_of_some _ e
  have sz₃ : s₃.heap.objs.size = D + 1 := by rw [← hs₃]; show (s₂.heap.push _).objs.size = _; rw [Heap.size_push, hD]
  have plD₃ : s₃.heap.PlainList D #[] := ⟨0, by rw [← hs₃, ← hD]; exact Heap.get?_push_size _ rfl⟩
  refine wp_newCompEnv ?_
  generalize hC : s₃.heap.objs.size = C
  generalize hs₄ : ({ s₃ with heap := pushCells (s₃.heap.push { cls := .type "dict", data := .dict #[] }) scope.names } : Shared) = s₄
  have up₄ : Sub s₃.heap s₄.heap := by rw [← hs₄]; exact fun b o e => pushCells_keeps _ _ b o (Heap.get?_push_of_some _ e)
  have nsC₄ : s₄.heap.Ns C fun _ => none := by rw [← hs₄, ← hC]; exact (Heap.Ns.new s₃.heap (.type "dict")).keeps (pushCells_keeps _ _)
  have cellH : ∀ x, (x, NameKind.cell) ∈ scope.names → s₄.heap.IsCell (C + 1 + cellIdx scope.names x) none := fun x hx => by
    have := cf_heap scope.names (s₃.heap.push { cls := .type "dict", data := .dict #[] }) x ok'.names hx
    rw [Heap.size_push, hC] at this
    rw [← hs₄]; exact this
  -- the environment of the comprehension
  generalize hcenv : ({ ({ scope, locals := C, globals := env.globals, cells := cellsFrom (C + 1) scope.names (clOf env scope.names []), qual := env.qual, func := none, code := env.code, frame := env.frame, builtins := env.builtins } : Env) with scope := relabel scope env } : Env) = cenv
  have cL : cenv.locals = C := by rw [← hcenv]
  have csc : cenv.scope = relabelS scope sc := by rw [← hcenv, ← he]; exact relabel_is g.kind
  have ccl : cenv.cells = cellsFrom (C + 1) scope.names (clOf env scope.names []) := by rw [← hcenv]
  have own : ∀ x, (x, NameKind.cell) ∈ scope.names → cenv.cells.lookup x = some (C + 1 + cellIdx scope.names x) := fun x hx => by rw [ccl]; exact cf_cell _ _ _ _ ok'.names hx
  have outer : ∀ x, (x, NameKind.free) ∈ scope.names → cenv.cells.lookup x = env.cells.lookup x := fun x hx => by
    rw [ccl, cf_other _ _ _ _ fun q => by have := nok hx q; cases this]
    refine clOf_lookup _ _ _ ok'.names (fr x hx) (.inl hx) fun q => ?_
    obtain ⟨p, hp, e⟩ := List.mem_map.mp q
    obtain ⟨hp1, hp2⟩ := List.mem_filter.mp hp
    obtain ⟨y, j⟩ := p
    subst e
    have := nok hx hp1
    subst this; cases hp2
  have new₂ : ∀ b, s₂.heap.get? b = none → s₁.heap.get? b = none := fun b e => none_of_sub g₂.sub e
  have newD₂ : s₂.heap.get? D = none := by rw [← hD]; exact get_size_none _
  have newBig : ∀ b, C ≤ b → s₃.heap.get? b = none := fun b hb => by
    cases e : s₃.heap.get? b with
    | none => rfl
    | some o => exact absurd (Heap.lt_size e) (Nat.not_lt.mpr (hC ▸ hb))
  have newBig₁ : ∀ b, C ≤ b → s₁.heap.get? b = none := fun b hb => new₂ b (none_of_sub up₃ (newBig b hb))
  obtain ⟨I, fp, P, St, rfl, hW⟩ := hI
  have liveI := (hW.live _ _ hW.st).2
  have liveF := (hW.live _ _ hW.st).1
  have DneC : D ≠ C := by rw [← hC, sz₃]; exact Nat.ne_of_lt (Nat.lt_succ_self _)
  have ltC : ∀ b o, s₂.heap.get? b = some o → b < D := fun b o e => hD ▸ Heap.lt_size e
  have gAll : Grow s₁ s₄ := ⟨fun b o e => up₄ b o (up₃ b o (g₂.sub b o e)), by rw [← hs₄, ← hs₃]; exact g₂.os, fun q => by rw [← hs₄, ← hs₃]; exact g₂.gens q⟩
  let τ : Store := ts.map fun x => (x, Slot.unset)
  let hot₄ : Addr → Prop := fun a => hot a ∨ a = I ∨ a = D ∨ a = C ∨ ∃ x, (x, NameKind.cell) ∈ scope.names ∧ a = C + 1 + cellIdx scope.names x
  have alive₁ := (g.grow g₁).alive
  have tn : τ.map (·.1) = ts := by show (ts.map _).map _ = _; rw [List.map_map]; exact List.map_id' _
  have inTs : ∀ p ∈ τ, p.1 ∈ ts := fun p hp => tn ▸ List.mem_map_of_mem hp
  have unsetτ : ∀ p ∈ τ, p.2 = .unset := fun p hp => by obtain ⟨x, _, e⟩ := List.mem_map.mp hp; rw [← e]
  have cellMem : ∀ x ∈ ts, (relabelS scope sc).names.lookup x = some .cell → (x, NameKind.cell) ∈ scope.names := fun x hx h => by
    rcases ok'.lc x hx with q | q
    · rw [relabelS_keep (by decide) q] at h; cases h
    · exact mem_of_lookup q
  have F₄ : Fm W cenv s₁ hot hot₄ (fun _ => 0) τ s₄ := {
    wbase := (g.grow g₁).base
    grow := gAll
    kind := by rw [csc]; exact ok'.kind
    globals := by rw [← hcenv]; exact g.globals
    builtins := by rw [← hcenv]; exact g.builtins
    nodup := by rw [tn]; exact ok'.nodup
    isv := fun p hp => by rw [csc]; exact isVar_relabel (ok'.isv _ (inTs p hp))
    lc := fun p hp => by
      rw [csc]
      rcases ok'.lc _ (inTs p hp) with q | q
      · exact .inl (relabelS_keep (by decide) q)
      · exact .inr (relabelS_keep (by decide) q)
    ns := ⟨_, by rw [cL]; exact nsC₄⟩
    nsNew := by rw [cL]; exact newBig₁ C (Nat.le_refl _)
    cells := fun x hx => by
      rw [csc] at hx
      have hm : x ∈ (relabelS scope sc).names.map (·.1) := by
        rcases hx with q | q <;> exact List.mem_map_of_mem (mem_of_lookup q)
      rw [relabelS_names] at hm
      obtain ⟨p, hp, e⟩ := List.mem_map.mp hm
      obtain ⟨y, j⟩ := p
      subst e
      by_cases hj : j = .free
      · subst hj; rw [outer y hp]; exact fr y hp
      · have := relabelS_keep (sc := sc) hj (lookup_of_nodup ok'.names hp)
        rcases hx with q | q
        · rw [this] at q; cases q; rw [own y hp]; rfl
        · rw [this] at q; cases q; exact absurd rfl hj
    cl := fun p hp hk => by
      rw [csc] at hk
      have hm := cellMem _ (inTs p hp) hk
      exact ⟨C + 1 + cellIdx scope.names p.1, _, own _ hm, cellH _ hm, newBig₁ (C + 1 + cellIdx scope.names p.1) (nc2 _ _), by rw [cL]; exact nc1 _ _, .inr (.inr (.inr (.inr ⟨_, hm, rfl⟩)))⟩
    apart := fun p hp q hq k1 k2 c h1 h2 => by
      rw [csc] at k1 k2
      have m1 := cellMem _ (inTs p hp) k1
      have m2 := cellMem _ (inTs q hq) k2
      rw [own _ m1] at h1; rw [own _ m2] at h2
      exact cellIdx_inj _ _ _ ok'.names m1 m2 (nc9 ((Option.some.inj h1).trans (Option.some.inj h2).symm))
    ownCell := fun p hp q hq hk ho => by rw [unsetτ q hq] at ho; cases ho
    vars := fun p hp => by rw [unsetτ p hp]; trivial
    alive := fun b hb => by
      rcases hb with hb | hb | hb | hb | ⟨x, hx, hb⟩
      · obtain ⟨o, e⟩ := alive₁ b hb; exact ⟨o, gAll.sub b o e⟩
      · obtain ⟨o, _, e, _⟩ := liveI; exact ⟨o, by rw [hb]; exact up₄ _ _ (up₃ _ _ e)⟩
      · obtain ⟨m, e⟩ := plD₃; exact ⟨_, by rw [hb]; exact up₄ _ _ e⟩
      · obtain ⟨o, _, _, e, _⟩ := nsC₄; exact ⟨o, by rw [hb]; exact e⟩
      · obtain ⟨o, e, _⟩ := cellH x hx; exact ⟨o, by rw [hb]; exact e⟩
    outhot := fun b hb => .inl hb
    outlive := alive₁
    hotnew := fun b hb => by
      rcases hb with hb | hb | hb | hb | ⟨x, hx, hb⟩
      · exact .inl hb
      · exact .inr (by rw [hb]; exact hW.fresh)
      · exact .inr (by rw [hb]; exact new₂ _ newD₂)
      · exact .inr (by rw [hb]; exact newBig₁ _ (Nat.le_refl _))
      · exact .inr (newBig₁ b (nc3 hb))
    nshot := by rw [cL]; exact .inr (.inr (.inr (.inl rfl)))
    inj := fun p hp q hq ho => by rw [unsetτ p hp] at ho; cases ho }
  have mutC : ∀ b ∈ mutL cenv τ (fun _ => 0), C ≤ b := fun b hb => by
    rcases mem_mutL.mp hb with e | ⟨p, hp, h1, h2⟩ | ⟨p, hp, h1, _⟩
    · rw [e, cL]; exact Nat.le_refl _
    · rw [csc] at h1
      rw [own _ (cellMem _ (inTs p hp) h1)] at h2
      exact nc3 (Option.some.inj h2).symm
    · rw [unsetτ p hp] at h1; cases h1
  have DltC : D < C := by rw [← hC, sz₃]; exact Nat.lt_succ_self _
  have hO : OuterOk cenv s₁ hot scope σ := fun p hp hf hv => by
    have hfree := mem_of_lookup (beq_iff_eq.mp hf)
    have hk := ok'.free _ hfree
    have hv' : isVar env.scope p.1 = true := by
      unfold isVar at hv ⊢
      simp only [Bool.and_eq_true] at hv ⊢
      refine ⟨hv.1, ?_⟩
      rw [he]
      rcases hk with q | q <;> rw [q]
    have old := (g.grow g₁).vars p hp hv'
    have kin : cenv.scope.names.lookup p.1 = some .cell ∨ cenv.scope.names.lookup p.1 = some .free := by
      rw [csc, relabelS_free (beq_iff_eq.mp hf)]
      by_cases q : sc.names.lookup p.1 = some .cell
      · rw [if_pos q]; exact .inl rfl
      · rw [if_neg q]; exact .inr rfl
    have vi : ∀ v, VarIs env s₁.heap p.1 v → VarIs cenv s₁.heap p.1 v := fun v y => by
      rcases y with ⟨q, _⟩ | ⟨_, c, hc, hv⟩
      · rw [he] at q; rcases hk with hk | hk <;> rw [hk] at q <;> cases q
      · exact .inr ⟨kin, c, by rw [outer _ hfree]; exact hc, hv⟩
    cases q : p.2 with
    | unset => trivial
    | val d => rw [q] at old; obtain ⟨v, y, z⟩ := old; exact ⟨v, vi v y, z⟩
    | own l => rw [q] at old; obtain ⟨x, items, y, z⟩ := old; exact ⟨x, items, vi _ y, z⟩
    | app l => trivial
  have I0 : I ∈ fp := hW.wk.sub I (List.mem_singleton.mpr rfl)
  have fpD : ∀ b ∈ fp, b < D := fun b hb => let ⟨o, e⟩ := liveF b hb; ltC b o e
  have notHot : ∀ b, hot b → b < D := fun b hb => let ⟨o, e⟩ := alive₁ b hb; ltC b o (g₂.sub b o e)
  have upR : ∀ b o, ¬ hot b → s₁.heap.get? b = some o → s₄.heap.get? b = some o ∧ ¬ hot₄ b := fun b o nb e => ⟨gAll.sub b o e, fun q => by
    have hb := ltC b o (g₂.sub b o e)
    rcases q with q | q | q | q | ⟨x, _, q⟩
    · exact nb q
    · rw [q, hW.fresh] at e; cases e
    · exact nc5 hb q
    · exact nc6 hb DltC q
    · exact nc4 hb DltC q⟩
  have acc₄ : Acc fl W cenv s₁ hot₄ (fun _ => 0) τ D [] s₄ := {
    list := let ⟨m, e⟩ := plD₃; ⟨#[], ⟨m, up₄ _ _ e⟩, .nil, .nil⟩
    hot := .inr (.inr (.inl rfl))
    fresh := new₂ _ newD₂
    free := fun q => nc8 DltC (mutC D q) }
  have hgen : ∀ c ∈ (⟨t, iter, ifs, 0⟩ : Comprehension) :: gs, PlainG cenv c := hg cenv
  have body : BodyOk fl W n elt (⟨t, iter, ifs, 0⟩ :: gs) scope pos (relabelS scope sc) cenv A D (fun _ => 0) σ gs 0 := body_all csc hA hgen gs 0 rfl
  have run : codeAny (model W.prog W.w) A (.compLoop (.ListComp elt (⟨t, iter, ifs, 0⟩ :: gs) scope pos) 0 (.ref I) (.ref D) cenv) (compPost (model W.prog W.w) A E use Q (.ref D) C) s₄ := by
    refine loop_of_body csc hA hgen body rfl (A' := A) hW hO (hot := hot₄) (.inr (.inl rfl)) hW.fresh (fun q => Nat.lt_irrefl _ (fpD D q)) xs 0 τ o [] (Nat.zero_le _) (by simp) hE (by simpa using hz) s₄ F₄ acc₄
      (hW.wk.frame _ _ _ hW.st fun b _ o e => up₄ b o (up₃ b o e)) (fun b hb q => nc7 (fpD b hb) DltC (mutC b q)) (fun j v x _ hv hx => Rd.mono upR _ _ (hW.item j v x hv hx)) fun s' h' tk F' ha' mfp' hk => ?_
    obtain ⟨items, ⟨m, eD⟩, rD, jD⟩ := ha'.list
    have DI : D ≠ I := fun q => Nat.lt_irrefl _ (q ▸ fpD I I0)
    have CI : C ≠ I := fun q => nc6 (fpD I I0) DltC q.symm
    refine k _ C D (g₁.trans ⟨fun b o e => hk b o (fun q => by rw [List.mem_singleton.mp q, hW.fresh] at e; cases e) (F'.grow.sub b o e), F'.grow.os, F'.grow.gens⟩) (none_of_sub g₁.sub (newBig₁ C (Nat.le_refl _))) ?_ ?_ DneC ⟨none_of_sub g₁.sub (new₂ _ newD₂), items, ⟨m, hk _ _ (fun q => DI (List.mem_singleton.mp q)) eD⟩, ?_, by simpa using jD⟩
    · obtain ⟨mm, hm⟩ := F'.ns
      rw [cL] at hm
      exact ⟨mm, hm.at' fun o e => hk C o (fun q => CI (List.mem_singleton.mp q)) e⟩
    · show Rd h' _ (.list o) (.ref D)
      unfold Rd
      refine ⟨D, items, rfl, fun q => ?_, ⟨m, hk _ _ (fun q => DI (List.mem_singleton.mp q)) eD⟩, ?_⟩
      · rcases q with q | q
        · exact Nat.lt_irrefl _ (notHot D q)
        · exact DneC q
      · have rD' : Rds s'.heap hot₄ o items.toList := by simpa using rD
        refine Rds.mono (fun b o nb e => ⟨hk b o (fun q => nb (.inr (.inl (List.mem_singleton.mp q)))) e, fun q => ?_⟩) _ _ rD'
        rcases q with q | q
        · exact nb (.inl q)
        · exact nb (.inr (.inr (.inr (.inl q))))
    · have rD' : Rds s'.heap hot₄ o items.toList := by simpa using rD
      refine Rds.mono (fun b o nb e => ⟨hk b o (fun q => nb (.inr (.inl (List.mem_singleton.mp q)))) e, fun q => ?_⟩) _ _ rD'
      rcases q with q | q | q
      · exact nb (.inl q)
      · exact nb (.inr (.inr (.inr (.inl q))))
      · exact nb (.inr (.inr (.inl q)))
  refine code_compStart rfl run (hW.wk.self 0 _ _ _ (hW.wk.frame _ _ _ hW.st fun b _ o e => up₄ b o (up₃ b o e)) run)
/-- a list comprehension -/
theorem Ev.comp {elt t iter : PySem.Expr} {ifs : List PySem.Expr} {gs : List Comprehension} {scope : Scope} {pos : Pos} (ts : List Str) {a : V} {xs o : List V}
    (ok : okComp scope sc ts = true) (hi : Ev W n sc σ iter a) (hx : IterOk W a xs) (hE : EmitL W n (relabelS scope sc) scope σ t ifs (Emit W n (relabelS scope sc) scope σ elt gs) xs (ts.map fun x => (x, Slot.unset)) o) (hz : o.length ≤ 1000000)
    (hg : ∀ e : Env, ∀ c ∈ (⟨t, iter, ifs, 0⟩ : Comprehension) :: gs, PlainG e c) :
    Ev W n sc σ (.ListComp elt (⟨t, iter, ifs, 0⟩ :: gs) scope pos) (.list o) :=
  ⟨fun env he A hA s hot Q E g k => by
    rw [eval_ListComp]
    refine comp_core ok he hA g hi hx hE hz hg fun s' C D g' hC hn r hne _ => ?_
    obtain ⟨m, hm⟩ := hn
    refine ⟨m, hm, fun h' hs' => k _ _ ⟨fun b o e => (hs'.2 b (fun q => by rw [q, hC] at e; cases e)).trans (g'.sub b o e), g'.os, g'.gens⟩ ?_⟩
    exact Rd.mono (fun b o nb e => ⟨(hs'.2 b (fun q => nb (.inr q))).trans e, fun q => nb (.inl q)⟩) _ _ r⟩
/-- it makes a new list -/
theorem EvNew.comp {elt t iter : PySem.Expr} {ifs : List PySem.Expr} {gs : List Comprehension} {scope : Scope} {pos : Pos} (ts : List Str) {a : V} {xs o : List V}
    (ok : okComp scope sc ts = true) (hi : Ev W n sc σ iter a) (hx : IterOk W a xs) (hE : EmitL W n (relabelS scope sc) scope σ t ifs (Emit W n (relabelS scope sc) scope σ elt gs) xs (ts.map fun x => (x, Slot.unset)) o) (hz : o.length ≤ 1000000)
    (hg : ∀ e : Env, ∀ c ∈ (⟨t, iter, ifs, 0⟩ : Comprehension) :: gs, PlainG e c) :
    EvNew W n sc σ (.ListComp elt (⟨t, iter, ifs, 0⟩ :: gs) scope pos) o :=
  ⟨fun env he A hA s hot Q E g k => by
    rw [eval_ListComp]
    refine comp_core ok he hA g hi hx hE hz hg fun s' C D g' hC hn r hne hD => ?_
    obtain ⟨m, hm⟩ := hn
    refine ⟨m, hm, fun h' hs' => ?_⟩
    obtain ⟨hDn, items, ⟨mm, pl⟩, rr, _⟩ := hD
    obtain ⟨_, _, e, nD, _, _⟩ := rd_list r
    cases e
    refine k D _ items ⟨fun b o e => (hs'.2 b (fun q => by rw [q, hC] at e; cases e)).trans (g'.sub b o e), g'.os, g'.gens⟩ hDn ⟨mm, (hs'.2 D hne).trans pl⟩ ?_ fun q => nD (.inl q)
    refine Rds.mono (fun b o nb e => ⟨(hs'.2 b (fun q => nb (.inr (.inl q)))).trans e, fun q => ?_⟩) _ _ rr
    rcases q with q | q
    · exact nb (.inl q)
    · exact nb (.inr (.inr q))⟩
/-- x = [.. for ..], stored ahead of the comprehension's own names going -/
theorem Runs.assignComp {x : Str} {p spos : Pos} {elt t iter : PySem.Expr} {ifs : List PySem.Expr} {gs : List Comprehension} {scope : Scope} {pos : Pos} (ts : List Str) {a : V} {xs o : List V} {σ' : Store}
    (ok : okComp scope sc ts = true) (hi : Ev W n sc σ iter a) (hx : IterOk W a xs) (hE : EmitL W n (relabelS scope sc) scope σ t ifs (Emit W n (relabelS scope sc) scope σ elt gs) xs (ts.map fun x => (x, Slot.unset)) o) (hz : o.length ≤ 1000000)
    (hg : ∀ e : Env, ∀ c ∈ (⟨t, iter, ifs, 0⟩ : Comprehension) :: gs, PlainG e c) (hp : Put x (.val (.list o)) σ σ') (hn : noApp x σ) :
    Runs W n sc (.Assign [.Name x p] (.ListComp elt (⟨t, iter, ifs, 0⟩ :: gs) scope pos) spos) σ (.next σ') :=
  ⟨fun env he A hA base out hot oa s Q E F k => by
    have hb : ∃ b, swapsWith (.ListComp elt (⟨t, iter, ifs, 0⟩ :: gs) scope pos) (some (.Name x p)) spos.line env = pure b := ⟨_, rfl⟩
    obtain ⟨b, hb⟩ := hb
    cases b with
    | false =>
      exact wpAny_Assign_Name ((Ev.comp ts ok hi hx hE hz hg).run env he A hA s hot _ E F.good fun v s₁ g r => (F.grown g).store hp r hn fun s₂ F₂ => k _ _ ⟨rfl, hot, oa, F₂⟩) hb
    | true =>
      rw [exec_Assign_Name_used _ _ _ _ hb]
      refine wpAny_bind (wpAny_standAt (wpAny_bind ?_))
      show wpAny _ A (do let _ ← comprehension (PySem.Expr.ListComp elt (⟨t, iter, ifs, 0⟩ :: gs) scope pos) scope env _ (newList []) false (eval iter env) (some (PySem.assign (PySem.Expr.Name x p) env))) _ _ s
      refine wpAny_bind (comp_core (Q := fun v s' => wpAny (model W.prog W.w) A (pure ()) (fun _ s => wpAny (model W.prog W.w) A (pure Flow.next) Q E s) E s') ok he hA F.good hi hx hE hz hg fun s' C D g' hC hn' r hne _ => ?_)
      obtain ⟨m, hm⟩ := hn'
      have aC : ∃ o, s'.heap.get? C = some o := let ⟨o, _, _, e, _⟩ := hm; ⟨o, e⟩
      have F₁ := F.hotter g' (wr := [C]) (fun b hb => by rw [List.mem_singleton.mp hb]; exact hC) (fun b hb => by rw [List.mem_singleton.mp hb]; exact aC)
      have r' : Rd s'.heap (fun a => hot a ∨ a ∈ [C]) (.list o) (.ref D) := Rd.mono (fun b o nb e => ⟨e, fun q => nb (by
        rcases q with q | q
        · exact .inl q
        · exact .inr (List.mem_singleton.mp q))⟩) _ _ r
      have Cm : C ∉ mutL env σ oa := fun q => by
        obtain ⟨o, e⟩ := F.alive C (F.mutNew C q).2
        rw [hC] at e; cases e
      show wpAny _ A (PySem.assign (PySem.Expr.Name x p) env (Value.ref D)) _ E s'
      have Fr := F₁.rebase
      refine wpAny_assign_Name (Fr.store hp r' hn fun s₂ F₂ => ?_)
      have hmC : s₂.heap.Ns C m := hm.at' fun o e => F₂.grow.sub C o (hideAll_get _ e Cm)
      refine ⟨m, hmC, fun h' hs' => wpAny_pure (wpAny_pure (k _ _ ⟨rfl, (fun a => (hot a ∨ a ∈ [C]) ∧ a ∉ [C]), oa, ?_⟩))⟩
      have F₃ : Fm W env base out (fun a => hot a ∨ a ∈ [C]) oa σ' s₂ := F₂.debase F₁.grow_hidden F₁.wbase F₁.outMut (fun a ha => F₁.hotnew a ha.1) F₁.outlive
      refine F₃.touchOff (tk := s₂.toks) (wr := [C]) (fun b o hb e => (hs'.2 b (fun q => hb (List.mem_singleton.mpr q))).trans e) fun b hb => ?_
      rw [List.mem_singleton.mp hb]
      refine ⟨none_of_sub F.grow.sub hC, .inr (List.mem_singleton.mpr rfl), fun q => ?_⟩
      have := (F₂.mutNew C q).1
      obtain ⟨o, e⟩ := aC
      rw [show (hidden env σ oa s').heap.get? C = some o from hideAll_get _ e Cm] at this; cases this⟩
end
end Mine
open PySem PySem.W PyProof.Rows
set_option Elab.async false
set_option linter.unusedVariables false
namespace Mine
section
variable {W : Wo} {n : Nat} {sc : Scope} {σ σ' : Store}
/-- slices -/
inductive EvP (W : Wo) (n : Nat) (sc : Scope) (σ : Store) : Option PySem.Expr → Option Int → Prop
  | none : EvP W n sc σ Option.none Option.none
  | some {e : PySem.Expr} {i : Int} : Ev W n sc σ e (.int i) → EvP W n sc σ (Option.some e) (Option.some i)
theorem EvP.run {e : Option PySem.Expr} {i : Option Int} (h : EvP W n sc σ e i) : ∀ env, env.scope = sc → ∀ A, Room A n → ∀ s hot (Q : Value → Shared → Prop) E, Good W env σ hot s →
    (∀ p s', Grow s s' → p.map (·.1) = i → Q (partValue p) s') → wpAny (model W.prog W.w) A (evalPart e env) Q E s := by
  intro env he A hA s hot Q E g k
  cases h with
  | none => exact wpAny_pure (k Option.none s (.refl s) rfl)
  | some h =>
    refine h.run env he A hA s hot _ E g fun v s' g' r => ?_
    obtain ⟨t, ht⟩ := rd_int r
    rw [ht]
    exact k (Option.some (_, t)) s' g' rfl
def sl {α : Type} (l : List α) (lo hi st : Option Int) : List α :=
  (sliceRange (sliceBounds lo hi st l.length).1 (sliceBounds lo hi st l.length).2.1 (sliceBounds lo hi st l.length).2.2).filterMap (l[·]?)
theorem Rds.pick {h : Heap} {hot : Addr → Prop} {ds : List V} {vs : List Value} (r : Rds h hot ds vs) : ∀ idx : List Nat, Rds h hot (idx.filterMap (ds[·]?)) (idx.filterMap (vs[·]?))
  | [] => .nil
  | i :: idx => by
    have ih := Rds.pick r idx
    cases hd : ds[i]? with
    | none =>
      have hv : vs[i]? = none := by
        rw [List.getElem?_eq_none_iff] at hd ⊢; rw [r.length]; exact hd
      rw [List.filterMap_cons_none hd, List.filterMap_cons_none hv]; exact ih
    | some d =>
      obtain ⟨v, hv, rv⟩ := r.getElem hd
      rw [List.filterMap_cons_some hd, List.filterMap_cons_some hv]; exact .cons rv ih
theorem Rds.picked {h : Heap} {hot : Addr → Prop} {ds : List V} {items : Array Value} {lo hi st : Option Int} (r : Rds h hot ds items.toList) (hsz : items.size = ds.length) : Rds h hot (sl ds lo hi st) (slicePick items lo hi st).toList := by
  have := r.pick (sliceRange (sliceBounds lo hi st ds.length).1 (sliceBounds lo hi st ds.length).2.1 (sliceBounds lo hi st ds.length).2.2)
  unfold slicePick sl
  rw [hsz, List.toList_toArray]
  simpa using this
def SliceOk (W : Wo) (a : V) (lo hi st : Option Int) (c : V) : Prop :=
  ∀ A, Room A 0 → ∀ s hot v₁ sa l u t (Q : Value → Shared → Prop) E, Sub W.B s.heap → (∀ a, hot a → ∃ o, s.heap.get? a = some o) → Rd s.heap hot a v₁ →
    s.heap.get? sa = some { cls := .type "slice", data := .fields #[partValue l, partValue u, partValue t] } → l.map (·.1) = lo → u.map (·.1) = hi → t.map (·.1) = st →
    (∀ v s', Grow s s' → Rd s'.heap hot c v → Q v s') → ∃ T id, typeLookup (.type T) "__getitem__" = pure (some (.builtin id)) ∧ s.TypeIs v₁ T ∧ wpAny (model W.prog W.w) A (getItem v₁ (.ref sa)) Q E s
theorem isPart_of {p : Option (Int × Tok)} {i : Option Int} (h : p.map (·.1) = i) : IsPart (partValue p) i := by
  cases p with
  | none => cases h; exact .none
  | some q => cases h; exact .int _ _
theorem SliceOk.list {l : List V} {lo hi st : Option Int} (h0 : st ≠ some 0) (hz : l.length ≤ 16777216) : SliceOk W (.list l) lo hi st (.list (sl l lo hi st)) := by
  intro A hA s hot v₁ sa pl pu pt Q E hb al r1 hsa h1 h2 h3 k
  obtain ⟨a, items, rfl, _, hl, hr⟩ := rd_list r1
  have hsz : items.size = l.length := by rw [← hr.length]; simp
  refine ⟨"list", _, slot_list_getitem.lookup, (PlainList.isList hl).typeIs, @wpAny_getItem_list_slice _ _ _ _ _ _ _ _ _ _ _ _ _ _ _ (PlainList.isList hl) ⟨_, hsa, rfl, rfl⟩ (isPart_of h1) (isPart_of h2) (isPart_of h3) h0 (k _ _ ⟨fun b o e => Heap.get?_push_of_some _ e, rfl, fun e => e⟩ ?_) (by rw [hsz, sizeLine_eq]; exact hz)⟩
  have up : Sub s.heap (s.heap.push { cls := .type "list", data := .seq (slicePick items lo hi st) }) := fun b o e => Heap.get?_push_of_some _ e
  unfold Rd
  refine ⟨_, slicePick items lo hi st, rfl, newIsHot al, ⟨0, Heap.get?_push_size _ rfl⟩, (hr.sub up).picked hsz⟩
theorem up_ok (st : Option Int) (hc : st.getD 1 > 0) (lo hi : Option Int) (n : Nat) : 0 ≤ (sliceBounds lo hi st n).1 ∧ (sliceBounds lo hi st n).2.1 ≤ n := by
  have up (x : Int) : max 0 (min x (n : Int)) ≤ n := Int.max_le.mpr ⟨Int.natCast_nonneg _, Int.min_le_right ..⟩
  unfold sliceBounds
  dsimp only
  rw [if_pos hc, if_pos hc]
  refine ⟨?_, ?_⟩
  · cases lo with
    | none => exact Int.le_refl _
    | some i => dsimp only; rw [if_pos hc]; exact Int.le_max_left ..
  · cases hi with
    | none => exact Int.le_refl _
    | some i => dsimp only; rw [if_pos hc]; exact up _
theorem down_ok (st : Option Int) (hc : ¬ st.getD 1 > 0) (lo hi : Option Int) (n : Nat) : (sliceBounds lo hi st n).1 ≤ (n : Int) - 1 ∧ -1 ≤ (sliceBounds lo hi st n).2.1 := by
  have h1 : -1 ≤ (n : Int) - 1 := by omega
  have up (x : Int) : max (-1) (min x ((n : Int) - 1)) ≤ (n : Int) - 1 := Int.max_le.mpr ⟨h1, Int.min_le_right ..⟩
  unfold sliceBounds
  dsimp only
  rw [if_neg hc, if_neg hc]
  refine ⟨?_, ?_⟩
  · cases lo with
    | none => exact Int.le_refl _
    | some i => dsimp only; rw [if_neg hc]; exact up _
  · cases hi with
    | none => exact Int.le_refl _
    | some i => dsimp only; rw [if_neg hc]; exact Int.le_max_left ..
theorem pick_len {α : Type} (l : List α) (lo hi st : Option Int) : (sl l lo hi st).length ≤ l.length := by
  unfold sl
  exact Nat.le_trans (List.length_filterMap_le _ _) (sliceRange_length_le _ _ _ _ (fun hc => up_ok st hc lo hi _) (fun hc => down_ok st hc lo hi _))
theorem picks1 {α : Type} (l : List α) (a b : Nat) (hb : b ≤ l.length) (hab : a ≤ b) : (sliceRange (a : Int) (b : Int) 1).filterMap (l[·]?) = (l.drop a).take (b - a) := by
  unfold sliceRange
  simp only [show (1 : Int) > 0 by decide, if_true]
  have := StrLaws.picks l (b - a) a (by omega)
  rw [← this]
  by_cases h : (a : Int) < b
  · rw [if_pos h]
    have e : (((b : Int) - a + 1 - 1) / 1).toNat = b - a := by omega
    rw [e]
    congr 1
    apply List.map_congr_left
    intro k _
    omega
  · rw [if_neg h]
    have e : b - a = 0 := by omega
    rw [e]; rfl
theorem range_full {a b : Int} {n : Nat} (h1 : 0 ≤ a) (h2 : b ≤ n) (h : (sliceRange a b 1).length = n) : n = 0 ∨ (a = 0 ∧ b = n) := by
  unfold sliceRange at h
  simp only [show (1 : Int) > 0 by decide, if_true, List.length_map, List.length_range] at h
  by_cases hl : a < b
  · rw [if_pos hl] at h; exact .inr ⟨by omega, by omega⟩
  · rw [if_neg hl] at h; exact .inl (by omega)
theorem whole_pick {l : List Nat} {lo hi : Option Int} (h : (sliceRange (sliceBounds lo hi (some 1) l.length).1 (sliceBounds lo hi (some 1) l.length).2.1 1).length = l.length) : sl l lo hi (some 1) = l := by
  unfold sl
  have hs : (sliceBounds lo hi (some 1) l.length).2.2 = 1 := by unfold sliceBounds; rfl
  obtain ⟨h1, h2⟩ := up_ok (some 1) (by decide) lo hi l.length
  rw [hs]
  rcases range_full h1 h2 h with q | ⟨q1, q2⟩
  · have : l = [] := List.length_eq_zero_iff.mp q
    subst this
    simp
  · rw [q1, q2]
    exact (picks1 l 0 _ (Nat.le_refl _) (Nat.zero_le _)).trans (by simp)
theorem indices_eq (lo hi : Option Int) (st : Option Int) (n : Nat) : Builtin.Str.strSliceIndices lo hi (st.getD 1) n = sliceRange (sliceBounds lo hi st n).1 (sliceBounds lo hi st n).2.1 (sliceBounds lo hi st n).2.2 := rfl
theorem SliceOk.str {l : List Nat} {lo hi st : Option Int} (h0 : st.getD 1 ≠ 0) (hz : l.length ≤ 16777216) : SliceOk W (.str l) lo hi st (.str (sl l lo hi st)) := by
  intro A hA s hot v₁ sa pl pu pt Q E hb al r1 hsa h1 h2 h3 k
  obtain ⟨t, rfl⟩ := rd_str r1
  refine ⟨"str", _, slot_str_getitem.lookup, typeIs_str _ _ _, @wpAny_getItem_str_slice _ _ _ _ _ _ _ _ _ _ _ _ ⟨_, hsa, rfl, rfl⟩ (by rw [h3]; simpa using h0) ?_⟩
  have hlen : (St l).length = l.length := St_len l
  unfold sliceMade slicePicked
  rw [h1, h2, h3, hlen]
  by_cases hw : (st.getD 1 == 1 && (Builtin.Str.strSliceIndices lo hi (st.getD 1) l.length).length == l.length) = true
  · rw [if_pos hw]
    rw [Bool.and_eq_true, beq_iff_eq, beq_iff_eq] at hw
    obtain ⟨w1, w2⟩ := hw
    have e : sl l lo hi st = sl l lo hi (some 1) := by
      cases st with
      | none => rfl
      | some c => simp at w1; rw [w1]
    have w3 : sl l lo hi (some 1) = l := whole_pick (by rw [w1] at w2; exact w2)
    have := k (.str (St l) t) s (.refl s) (by rw [e, w3]; exact mk_str)
    exact this
  · rw [if_neg hw]
    have hp : (⟨((Builtin.Str.strSliceIndices lo hi (st.getD 1) l.length).filterMap ((St l).cps[·]?)).toArray⟩ : Str) = St (sl l lo hi st) := by
      unfold sl St
      rw [indices_eq]
      simp
    rw [hp]
    refine ⟨?_, k _ _ .tok mk_str⟩
    rw [St_len, sizeLine_eq]
    exact Nat.le_trans (pick_len l lo hi st) hz
theorem Ev.slice {e : PySem.Expr} {lower upper step : Option PySem.Expr} {p pos : Pos} {a c : V} {lo hi st : Option Int} (he : Ev W n sc σ e a) (h1 : EvP W n sc σ lower lo) (h2 : EvP W n sc σ upper hi) (h3 : EvP W n sc σ step st)
    (ho : SliceOk W a lo hi st c) (hs : ∀ o v, ∃ ops, subscripted (.Slice lower upper step p) false o v = operate ops (getItem o v)) : Ev W n sc σ (.Subscript e (.Slice lower upper step p) pos) c :=
  ⟨fun env hq A hA s hot Q E g k => @Subscript_ _ _ _ _ _ _ _ _ _ (he.run env hq A hA s hot _ E g fun v₁ s₁ g₁ r₁ => @wpAny_Slice _ _ _ _ _ _ _ _ _ _ (h1.run env hq A hA s₁ hot _ E (g.grow g₁) fun pl s₂ g₂ e₁ =>
    h2.run env hq A hA s₂ hot _ E ((g.grow g₁).grow g₂) fun pu s₃ g₃ e₂ => h3.run env hq A hA s₃ hot _ E (((g.grow g₁).grow g₂).grow g₃) fun pt s₄ g₄ e₃ => by
      have G := (((g.grow g₁).grow g₂).grow g₃).grow g₄
      have up : Sub s₄.heap (s₄.heap.push { cls := .type "slice", data := .fields #[partValue pl, partValue pu, partValue pt] }) := fun b o e => Heap.get?_push_of_some _ e
      have g₅ : Grow s₄ { s₄ with heap := s₄.heap.push { cls := .type "slice", data := .fields #[partValue pl, partValue pu, partValue pt] } } := ⟨up, rfl, fun e => e⟩
      obtain ⟨T, id, hl, hT, hg⟩ := ho A (hA.less (Nat.zero_le _)) _ hot v₁ s₄.heap.objs.size pl pu pt Q E (G.grow g₅).base (G.grow g₅).alive (((((r₁.sub g₂.sub).sub g₃.sub).sub g₄.sub)).sub up) (Heap.get?_push_size _ rfl) e₁ e₂ e₃
        fun v s' g₆ r₆ => k v s' (((((g₁.trans g₂).trans g₃).trans g₄).trans g₅).trans g₆) r₆
      obtain ⟨ops, hop⟩ := hs v₁ (.ref s₄.heap.objs.size)
      exact tail_any hT hl hg hop))⟩
/-- truthiness -/
theorem EvT.of {e : PySem.Expr} {a : V} {c : Bool} (h : Ev W n sc σ e a) (ht : TruOk W a c) (hd : ∀ env m, isTrue e env m = (do let v ← m; standAt e.pos; holding [v] (truthy v))) : EvT W n sc σ e c :=
  ⟨fun env he A hA s hot Q E g k => by
    rw [hd]
    exact wpAny_bind (h.run env he A hA s hot _ E g fun v s₁ g₁ r₁ => wpAny_bind (wpAny_standAt (wpAny_holding (ht A (hA.less (Nat.zero_le _)) s₁ hot v Q E (g.grow g₁).base r₁ fun s' g₂ => k s' (g₁.trans g₂)))))⟩
theorem TruOk.str {l : List Nat} (hz : l.length ≤ 16777216) : TruOk W (.str l) (!l.isEmpty) := by
  intro A hA s hot v₁ Q E _ r1 k
  obtain ⟨t, rfl⟩ := rd_str r1
  refine @P.truthy_str _ _ _ _ _ _ _ _ (by rw [St_len]; omega) ?_
  have : (((St l).length : Int) != 0) = !l.isEmpty := by
    rw [St_len]; cases l <;> simp [bne] <;> omega
  rw [this]
  exact k _ .tok
theorem TruOk.list {l : List V} (hz : l.length ≤ 16777216) : TruOk W (.list l) (!l.isEmpty) := by
  intro A hA s hot v₁ Q E _ r1 k
  obtain ⟨a, items, rfl, _, hl, hr⟩ := rd_list r1
  have hsz : items.size = l.length := by rw [← hr.length]; simp
  refine @wpAny_truthy_list _ _ _ _ _ _ _ _ (PlainList.isList hl) (by rw [hsz]; omega) ?_
  have : (!items.isEmpty) = !l.isEmpty := by
    unfold Array.isEmpty; rw [hsz]; cases l <;> simp
  rw [this]
  exact k _ .tok
/-- is -/
def V.simple : V → Bool
  | .none | .bool _ | .val (.type _) => true
  | _ => false
theorem CmpOk.is_none {d : V} {b : Bool} (h : b = match d with | .none => true | .val v => v == .none | _ => false) : CmpOk W .Is d .none b := by
  subst h
  intro A hA s hot v₁ v₂ Q E _ _ r1 r2 k
  cases rd_none r2
  refine PyProof.Rows.is_none_gen ?_
  have := k s (.refl s)
  cases d with
  | none => cases rd_none r1; exact this
  | bool b => cases rd_bool r1; exact this
  | int i => obtain ⟨t, rfl⟩ := rd_int r1; exact this
  | str i => obtain ⟨t, rfl⟩ := rd_str r1; exact this
  | bytes i => obtain ⟨t, rfl⟩ := rd_bytes r1; exact this
  | list l => obtain ⟨a, items, rfl, _⟩ := rd_list r1; exact this
  | tup l => obtain ⟨a, items, rfl, _⟩ := rd_tup r1; exact this
  | rng a b c => obtain ⟨r, t, u, y, rfl, _⟩ := rd_rng r1; exact this
  | val v => cases rd_val r1; exact this
  | obj => obtain ⟨a, rfl⟩ := rd_obj r1; exact this
theorem CmpOk.isNot_none {d : V} {b : Bool} (h : b = match d with | .none => false | .val v => !(v == .none) | _ => true) : CmpOk W .IsNot d .none b := by
  subst h
  intro A hA s hot v₁ v₂ Q E _ _ r1 r2 k
  cases rd_none r2
  refine PySem.isNot_none ?_
  have := k s (.refl s)
  cases d with
  | none => cases rd_none r1; exact this
  | bool b => cases rd_bool r1; exact this
  | int i => obtain ⟨t, rfl⟩ := rd_int r1; exact this
  | str i => obtain ⟨t, rfl⟩ := rd_str r1; exact this
  | bytes i => obtain ⟨t, rfl⟩ := rd_bytes r1; exact this
  | list l => obtain ⟨a, items, rfl, _⟩ := rd_list r1; exact this
  | tup l => obtain ⟨a, items, rfl, _⟩ := rd_tup r1; exact this
  | rng a b c => obtain ⟨r, t, u, y, rfl, _⟩ := rd_rng r1; exact this
  | val v => cases rd_val r1; exact this
  | obj => obtain ⟨a, rfl⟩ := rd_obj r1; exact this
theorem CmpOk.is_type {T U : String} : CmpOk W .Is (.val (.type T)) (.val (.type U)) (Value.type T == Value.type U) := by
  intro A hA s hot v₁ v₂ Q E _ _ r1 r2 k
  cases rd_val r1; cases rd_val r2
  exact wpAny_is_plain rfl (k s (.refl s))
/-- len, range, type -/
theorem CallOk.len_str {l : List Nat} (hz : l.length ≤ 16777216) : CallOk W n (.builtin "len") [.str l] (.int l.length) := by
  intro A hA s hot vs Q E _ _ r k
  unfold Rds at r; obtain ⟨v, r', rfl, h1, h2⟩ := r; unfold Rds at h2; subst h2
  obtain ⟨t, rfl⟩ := rd_str h1
  refine @P.len_str _ _ _ _ _ _ _ _ (by rw [St_len]; omega) ?_
  rw [St_len]
  exact k _ _ .tok mk_int
theorem CallOk.len_list {l : List V} (hz : l.length ≤ 16777216) : CallOk W n (.builtin "len") [.list l] (.int l.length) := by
  intro A hA s hot vs Q E _ _ r k
  unfold Rds at r; obtain ⟨v, r', rfl, h1, h2⟩ := r; unfold Rds at h2; subst h2
  obtain ⟨a, items, rfl, _, hl, hr⟩ := rd_list h1
  have hsz : items.size = l.length := by rw [← hr.length]; simp
  refine Calls.call_len_list (PlainList.isList hl) (by rw [hsz]; omega) ?_
  rw [hsz]
  exact k _ _ .tok mk_int
theorem rng_new {s : Shared} {hot : Addr → Prop} (al : ∀ a, hot a → ∃ o, s.heap.get? a = some o) {a b c : Int} {t u v : Tok} {tk : Nat} :
    Grow s { s with heap := s.heap.push { cls := .type "range", data := .fields #[.int a t, .int b u, .int c v] }, toks := tk } ∧ Rd (s.heap.push { cls := .type "range", data := .fields #[.int a t, .int b u, .int c v] }) hot (.rng a b c) (.ref s.heap.objs.size) := by
  refine ⟨⟨fun b o e => Heap.get?_push_of_some _ e, rfl, fun e => e⟩, ?_⟩
  unfold Rd
  exact ⟨_, t, u, v, rfl, newIsHot al, IsRange.new _ _ _ _ _ _ _⟩
theorem CallOk.range_1 {b : Int} : CallOk W n (.type "range") [.int b] (.rng 0 b 1) := by
  intro A hA s hot vs Q E _ al r k
  unfold Rds at r; obtain ⟨v, r', rfl, h1, h2⟩ := r; unfold Rds at h2; subst h2
  obtain ⟨t, rfl⟩ := rd_int h1
  exact @call_range_1 _ _ _ _ _ _ _ _ (k _ _ (rng_new al).1 (rng_new al (tk := 0)).2)
theorem CallOk.range_3 {a b c : Int} (hc : c ≠ 0) (hp : Builtin.divisionGoesByPylong (b - a) c = false) : CallOk W n (.type "range") [.int a, .int b, .int c] (.rng a b c) := by
  intro A hA s hot vs Q E _ al r k
  unfold Rds at r; obtain ⟨v, r', rfl, h1, h2⟩ := r
  unfold Rds at h2; obtain ⟨v', r'', rfl, h2, h3⟩ := h2
  unfold Rds at h3; obtain ⟨v'', r3, rfl, h3, h4⟩ := h3; unfold Rds at h4; subst h4
  obtain ⟨t, rfl⟩ := rd_int h1; obtain ⟨u, rfl⟩ := rd_int h2; obtain ⟨x, rfl⟩ := rd_int h3
  exact @call_range_3 _ _ _ _ _ _ _ _ _ _ _ _ hc (k _ _ (rng_new al).1 (rng_new al (tk := 0)).2) (.inl hp)
theorem CallOk.type_of {d : V} {T : String} (hT : HasType d T) (hb : (Value.type T == Value.type "builtin_function_or_method") = false) : CallOk W n (.type "type") [d] (.val (.type T)) := by
  intro A hA s hot vs Q E _ al r k
  unfold Rds at r; obtain ⟨v, r', rfl, h1, h2⟩ := r; unfold Rds at h2; subst h2
  exact @call_type_of _ _ _ _ _ _ _ _ (hT s hot v h1).1 hb (k _ _ (.refl s) mk_val)
end
end Mine
open PySem PySem.W PyProof.Rows
set_option Elab.async false
set_option linter.unusedVariables false
namespace Mine
/-- what replaces a sign -/
def rsub (l : List Nat) (c : Nat) (r : List Nat) : List Nat := l.flatMap fun x => if x = c then r else [x]
theorem rsub_free (c : Nat) (r : List Nat) : ∀ l : List Nat, c ∉ l → rsub l c r = l
  | [], _ => rfl
  | k :: l, h => by
    have h1 : ¬ k = c := fun e => h (e ▸ List.mem_cons_self ..)
    have h2 := rsub_free c r l fun m => h (List.mem_cons_of_mem _ m)
    unfold rsub at h2 ⊢
    rw [List.flatMap_cons, if_neg h1, h2]; rfl
theorem rsub_append (c : Nat) (r a b : List Nat) : rsub (a ++ b) c r = rsub a c r ++ rsub b c r := by unfold rsub; rw [List.flatMap_append]
theorem rsub_join (c : Nat) (z : List Nat) : ∀ parts : List Str, (∀ p ∈ parts, c ∉ p.cps.toList) → rsub (Str.join ⟨#[c]⟩ parts).cps.toList c z = (Str.join (St z) parts).cps.toList
  | [], _ => rfl
  | [p], h => rsub_free c z _ (h p (List.mem_singleton.mpr rfl))
  | p :: q :: r, h => by
    have ih := rsub_join c z (q :: r) fun a ha => h a (List.mem_cons_of_mem _ ha)
    show rsub (p ++ ⟨#[c]⟩ ++ Str.join ⟨#[c]⟩ (q :: r)).cps.toList c z = (p ++ St z ++ Str.join (St z) (q :: r)).cps.toList
    simp only [Str.cps_append, Array.toList_append]
    rw [rsub_append, rsub_append, ih, rsub_free c z _ (h p (List.mem_cons_self ..))]
    simp [rsub, St]
theorem replace_St (l z : List Nat) (c : Nat) : Txt.replace (St l) (St [c]) (St z) = St (rsub l c z) := by
  have h : Txt.replace (St l) ⟨#[c]⟩ (St z) = Str.join (St z) (Txt.split (St l) ⟨#[c]⟩) := StrLaws.replace_one _ _ _
  show Txt.replace (St l) ⟨#[c]⟩ (St z) = _
  rw [h]
  have h2 := rsub_join c z _ (StrLaws.split_free (St l) c)
  rw [StrLaws.join_split] at h2
  have h3 : (St l).cps.toList = l := by simp [St]
  rw [h3] at h2
  rw [h2]
  simp [St]
theorem isIn_one (l : List Nat) (c : Nat) : isIn [c] l = decide (c ∈ l) := by
  unfold isIn Txt.contains
  have := StrLaws.found_one (St l) c
  have h3 : (St l).cps.toList = l := by simp [St]
  rw [h3] at this
  exact this
def joinL (sep : List Nat) : List (List Nat) → List Nat
  | [] => []
  | [x] => x
  | x :: y :: r => x ++ sep ++ joinL sep (y :: r)
theorem join_St (sep : List Nat) (ls : List (List Nat)) : Txt.join (St sep) (ls.map St) = St (joinL sep ls) := by
  unfold Txt.join
  rw [StrLaws.glued_eq_join]
  induction ls with
  | nil => rfl
  | cons x r ih =>
    cases r with
    | nil => rfl
    | cons y r =>
      show St x ++ St sep ++ Str.join (St sep) ((y :: r).map St) = _
      rw [ih, St_app, St_app]; rfl
theorem joinL_nil_sep : ∀ ls : List (List Nat), joinL [] ls = ls.flatten
  | [] => rfl
  | [x] => by simp [joinL]
  | x :: y :: r => by rw [joinL, joinL_nil_sep (y :: r)]; simp
theorem Put.same {x : Str} {t : Slot} {σ σ' : Store} (h : Put x t σ σ') : (x, t) ∈ σ → (σ.map (·.1)).Nodup → σ' = σ := by
  induction h with
  | here =>
    intro hm nd
    simp only [List.map_cons, List.nodup_cons] at nd
    rcases List.mem_cons.mp hm with e | hm
    · rw [e]
    · exact absurd (List.mem_map_of_mem (f := (·.1)) hm) nd.1
  | there h ih =>
    intro hm nd
    simp only [List.map_cons, List.nodup_cons] at nd
    rcases List.mem_cons.mp hm with e | hm
    · have := h.mem
      rw [← e] at nd
      exact absurd this nd.1
    · rw [ih hm nd.2]
section
variable {W : Wo} {n : Nat} {sc : Scope} {σ σ' : Store}
theorem strs_of {h : Heap} {hot : Addr → Prop} : ∀ {ls : List (List Nat)} {vs : List Value}, Rds h hot (ls.map V.str) vs → ∃ l : List (Str × Tok), vs = strValues l ∧ l.map (·.1) = ls.map St
  | [], vs, r => by unfold Rds at r; subst r; exact ⟨[], rfl, rfl⟩
  | x :: ls, vs, r => by
    simp only [List.map_cons] at r
    unfold Rds at r; obtain ⟨v, r', rfl, h1, h2⟩ := r
    obtain ⟨t, rfl⟩ := rd_str h1
    obtain ⟨l, rfl, h3⟩ := strs_of h2
    exact ⟨(St x, t) :: l, rfl, by simp [h3]⟩
theorem CallOk.join {sep : List Nat} {ls : List (List Nat)} (B : Nat) (hB : ∀ y ∈ ls, y.length ≤ B) (hz : ls.length * B + ls.length * sep.length ≤ 16777216) :
    CallOk W n (.builtin "str.join") [.str sep, .list (ls.map V.str)] (.str (joinL sep ls)) := by
  intro A hA s hot vs Q E _ al r k
  unfold Rds at r; obtain ⟨v, r', rfl, h1, h2⟩ := r
  unfold Rds at h2; obtain ⟨v', r'', rfl, h2, h3⟩ := h2; unfold Rds at h3; subst h3
  obtain ⟨t, rfl⟩ := rd_str h1
  obtain ⟨a, items, rfl, _, hl, hr⟩ := rd_list h2
  obtain ⟨l, e1, e2⟩ := strs_of hr
  have e3 : items = (strValues l).toArray := by rw [← e1]
  subst e3
  refine SC.join (PlainList.isList hl) e2 ?_ fun t' k' => ?_
  · unfold JoinOk
    rw [Bool.not_eq_true']
    exact StrLaws.joinFits (B := B) (fun y hy => by
      obtain ⟨x, hx, rfl⟩ := List.mem_map.mp hy
      rw [St_len]; exact hB x hx) (by rw [St_len, List.length_map]; exact hz)
  · rw [join_St]; exact k _ _ .tok mk_str
theorem meth_join : Meth "str" "join" "str.join" := ⟨F.plainAttrs_str, F.slot_str_join, F.type_str_join⟩
theorem meth_replace : Meth "str" "replace" "str.replace" := ⟨F.plainAttrs_str, F.slot_str_replace, F.type_str_replace⟩
theorem meth_split : Meth "str" "split" "str.split" := ⟨F.plainAttrs_str, F.slot_str_split, F.type_str_split⟩
theorem meth_encode : Meth "str" "encode" "str.encode" := ⟨F.plainAttrs_str, F.slot_str_encode, F.type_str_encode⟩
/-- replace, nothing to be found -/
theorem CallOk.replace_none {l z : List Nat} {c : Nat} (hc : c ∉ l) : CallOk W n (.builtin "str.replace") [.str l, .str [c], .str z] (.str l) := by
  intro A hA s hot vs Q E _ al r k
  unfold Rds at r; obtain ⟨v, r', rfl, h1, h2⟩ := r
  unfold Rds at h2; obtain ⟨v', r'', rfl, h2, h3⟩ := h2
  unfold Rds at h3; obtain ⟨v'', r3, rfl, h3, h4⟩ := h3; unfold Rds at h4; subst h4
  obtain ⟨t, rfl⟩ := rd_str h1; obtain ⟨u, rfl⟩ := rd_str h2; obtain ⟨x, rfl⟩ := rd_str h3
  have he : (Builtin.Str.occurrences (St l) (St [c]) 0 (St l).length ((St l).length + 1)).isEmpty = true := by
    obtain ⟨f, h⟩ := StrLaws.occ_chain (St l) ⟨#[c]⟩ ((St l).length + 1)
    show (Builtin.Str.occurrences (St l) ⟨#[c]⟩ 0 (St l).length ((St l).length + 1)).isEmpty = true
    cases ho : Builtin.Str.occurrences (St l) ⟨#[c]⟩ 0 (St l).length ((St l).length + 1) with
    | nil => rfl
    | cons i r =>
      rw [ho] at h
      have hm := (StrLaws.subAt_one (St l) c i).mp h.2.1
      have hin : c ∈ (St l).cps.toList := List.mem_of_getElem? hm
      exact absurd (by simpa [St] using hin) hc
  refine call_gives F.slot_str_replace (typeIs_str _ _ _) F.entry_str_replace (F.args_str_replace_3 _ _ _) (gives_str_replace (St l) (St [c]) (St z) t u x fun h => ?_) ?_
  · rw [he] at h; cases h
  · rw [he]
    simp only [Bool.true_or, if_true]
    exact k _ s (.refl s) mk_str
/-- x.replace('a', 'b') -/
theorem replace_any {o : PySem.Expr} {apos pos p1 p2 : Pos} {a b : String} {j1 j2 : Nat} {env : Env} {A : Around} {s : Shared} {l z : List Nat} {c : Nat} {Q : Value → Shared → Prop} {E : Value → Shared → Prop}
    (hbase : attributeBase o "replace" env (eval o env) = eval o env) (hline : (apos.endLine == pos.line) = true) (ha : Str.ofString a = St [c]) (hb : Str.ofString b = St z) (hab : z ≠ [c])
    (hz : l.length + (l.length + 1) * z.length ≤ 16777216)
    (hargs : ∀ env, starEach [.Constant (.str (Str.ofString a)) j1 p1, .Constant (.str (Str.ofString b)) j2 p2] env = [(false, eval (.Constant (.str (Str.ofString a)) j1 p1) env), (false, eval (.Constant (.str (Str.ofString b)) j2 p2) env)])
    (h : wpAny (model W.prog W.w) A (eval o env) (fun v s₁ => ∃ t, v = .str (St l) t ∧ 1 ≤ s₁.toks ∧ ∀ t' k, Q (.str (St (rsub l c z)) t') { s₁ with toks := k }) E s) :
    wpAny (model W.prog W.w) A (eval (.Call (.Attribute o "replace" apos) [.Constant (.str (Str.ofString a)) j1 p1, .Constant (.str (Str.ofString b)) j2 p2] [] pos) env) Q E s := by
  refine wpAny_Call_method_lateS hbase ?_ hline (wpAny_mono h (fun v s₁ h₁ => ?_) fun _ _ e => e)
  · rw [hargs]; rfl
  obtain ⟨t, rfl, htk, hq⟩ := h₁
  refine ⟨"str", "str.replace", meth_replace.pa, meth_replace.slot, meth_replace.ty, typeIs_str _ _ _, fun _ e => (nomatch e), ?_⟩
  refine Calls.callWith_builtin (by rw [hargs]; rfl) (evalArgs_any (by rw [hargs]; rfl) ?_)
  rw [hargs]
  refine Calls.spliced_cons ?_
  refine @wpAny_mkText _ _ _ _ _ _ ?_
  refine Calls.spliced_cons ?_
  refine @wpAny_mkText _ _ _ _ _ _ ?_
  refine wpAny_pure ?_
  have hne : ((Str.ofString a) == (Str.ofString b)) = false := by
    rw [ha, hb]
    refine beq_eq_false_iff_ne.mpr fun e => hab ?_
    have : (St [c]).cps.toList = (St z).cps.toList := by rw [e]
    simpa [St] using this.symm
  refine SC.replace (show s₁.toks ≠ 0 by omega) (show s₁.toks + 1 ≠ 0 by omega) (show s₁.toks ≠ s₁.toks + 1 by omega) hne (by rw [hb, St_len, St_len]; exact hz) fun t' k => ?_
  rw [ha, hb, replace_St]
  exact hq t' k
/-- if 'a' in x: x = x.replace('a', 'b') -/
theorem Runs.ifReplace {x : Str} {a a' b : String} {j0 j1 j2 : Nat} {p0 p1 p2 px px' px'' pc apos cpos spos pos : Pos} {l z : List Nat} {c : Nat} (hm : (x, Slot.val (.str l)) ∈ σ) (hp : Put x (.val (.str (rsub l c z))) σ σ') (hn : noApp x σ)
    (ha' : Str.ofString a' = St [c]) (ha : Str.ofString a = St [c]) (hb : Str.ofString b = St z) (hab : z ≠ [c]) (hz : l.length + (l.length + 1) * z.length ≤ 16777216)
    (hv : isVar sc x = true)
    (hbase : ∀ env, attributeBase (.Name x px') "replace" env (eval (.Name x px') env) = eval (.Name x px') env) (hline : (apos.endLine == cpos.line) = true)
    (hargs : ∀ env, starEach [.Constant (.str (Str.ofString a)) j1 p1, .Constant (.str (Str.ofString b)) j2 p2] env = [(false, eval (.Constant (.str (Str.ofString a)) j1 p1) env), (false, eval (.Constant (.str (Str.ofString b)) j2 p2) env)])
    (hs : ∀ env, swapsWith (.Call (.Attribute (.Name x px') "replace" apos) [.Constant (.str (Str.ofString a)) j1 p1, .Constant (.str (Str.ofString b)) j2 p2] [] cpos) (some (.Name x px'')) spos.line env = pure false)
    (hk : behindInMarks .In (.Name x px) = false) :
    Runs W n sc (.If (.Compare (.Constant (.str (Str.ofString a')) j0 p0) [.In] [.Name x px] pc) [.Assign [.Name x px''] (.Call (.Attribute (.Name x px') "replace" apos) [.Constant (.str (Str.ofString a)) j1 p1, .Constant (.str (Str.ofString b)) j2 p2] [] cpos) spos] [] pos) σ (.next σ') :=
  ⟨fun env he A hA base out hot oa s Q E F k => by
    refine wpAny_If (wpAny_isTrue_Compare1 (@wpAny_mkText _ _ _ _ _ _ ?_) hk)
    refine wpAny_with_toks (n := 1) (show 1 ≤ s.toks + 1 by omega) ?_
    have F₀ : Fm W env base out hot oa σ { s with toks := s.toks + 1 } := F.grown .tok
    refine (Ev.name hm hv).run env he A hA _ hot _ _ F₀.good fun v s₁ g₁ r₁ htk => ?_
    obtain ⟨t, rfl⟩ := rd_str r₁
    refine @SB.contains _ _ _ _ _ _ _ _ _ _ (wpAny_truthy_bool ?_)
    have F₁ := F₀.grown g₁
    have hc : Txt.contains (St l) (Str.ofString a') = decide (c ∈ l) := by rw [ha']; exact isIn_one l c
    rw [hc]
    by_cases hin : c ∈ l
    · rw [decide_eq_true hin, if_pos rfl]
      refine wpAny_execs_cons (wpAny_Assign_Name ?_ (hs env))
      refine replace_any (hbase env) hline ha hb hab hz hargs ?_
      refine wpAny_with_toks htk ?_
      refine (Ev.name hm hv).run env he A hA _ hot _ _ F₁.good fun v s₂ g₂ r₂ htk₂ => ?_
      obtain ⟨t₂, rfl⟩ := rd_str r₂
      refine ⟨t₂, rfl, htk₂, fun t' k' => ?_⟩
      exact ((F₁.grown g₂).grown .tok).store hp (mk_str) hn fun s₃ F₃ => wpAny_execs_nil (k _ _ ⟨rfl, hot, oa, F₃⟩)
    · rw [decide_eq_false hin, if_neg Bool.false_ne_true]
      have e : rsub l c z = l := rsub_free c z l hin
      refine wpAny_execs_nil (k _ _ ⟨rfl, hot, oa, ?_⟩)
      have hσ : σ' = σ := (e ▸ hp).same (by exact hm) F.nodup
      rw [hσ]; exact F₁⟩
end
end Mine
open PySem PySem.W PyProof.Rows
set_option Elab.async false
set_option linter.unusedVariables false
namespace Mine
section
variable {W : Wo} {n : Nat} {sc : Scope} {σ σ' : Store}
theorem Runs.try {body : List Stmt} {h₀ : ExceptHandler} {hs : List ExceptHandler} {pos : Pos} {r : Res} (h : RunsL W n sc body σ r) : Runs W n sc (.Try body (h₀ :: hs) [] [] pos) σ r :=
  ⟨fun env he A hA base out hot oa s Q E F k => wpAny_Try_except (h.run env he A hA base out hot oa s _ _ F fun f s' x => by
    cases r with
    | next σ' => obtain ⟨rfl, x⟩ := x; exact wpAny_execs_nil (k _ _ ⟨rfl, x⟩)
    | cont σ' => obtain ⟨rfl, x⟩ := x; exact k _ _ ⟨rfl, x⟩
    | brk σ' => obtain ⟨rfl, x⟩ := x; exact k _ _ ⟨rfl, x⟩
    | ret d => obtain ⟨v, rfl, x⟩ := x; exact k _ _ ⟨v, rfl, x⟩)⟩
theorem RunsL.one {st : Stmt} {r : Res} (h : Runs W n sc st σ r) : RunsL W n sc [st] σ r :=
  ⟨fun env he A hA base out hot oa s Q E F k => wpAny_execs_cons (h.run env he A hA base out hot oa s _ E F fun f s' x => by
    cases r with
    | next σ' => obtain ⟨rfl, x⟩ := x; exact wpAny_execs_nil (k _ _ ⟨rfl, x⟩)
    | cont σ' => obtain ⟨rfl, x⟩ := x; exact k _ _ ⟨rfl, x⟩
    | brk σ' => obtain ⟨rfl, x⟩ := x; exact k _ _ ⟨rfl, x⟩
    | ret d => obtain ⟨v, rfl, x⟩ := x; exact k _ _ ⟨v, rfl, x⟩)⟩
end
end Mine
open PySem PySem.W PyProof.Rows
set_option Elab.async false
set_option linter.unusedVariables false
namespace Mine
theorem InS.free {τ σ : Store} {scope : Scope} {x : Str} {t : Slot} (h : (x, t) ∈ σ) (hf : (scope.names.lookup x == some .free) = true) : (x, t) ∈ InS τ scope σ := InS.out h hf
section
variable {W : Wo} {n : Nat} {sc scope : Scope} {σ σ' : Store}
/-- one name, one generator -/
theorem EmitL.one {α : Type} {k : Str} {pos : Pos} {ifs : List PySem.Expr} {elt : PySem.Expr} (enc : α → V) (p : α → Bool) (f : α → V) : ∀ (xs : List α),
    (∀ x ∈ xs, Tests W n sc (InS [(k, .val (enc x))] scope σ) ifs (p x)) → (∀ x ∈ xs, p x = true → Ev W n sc (InS [(k, .val (enc x))] scope σ) elt (f x)) →
    EmitL W n sc scope σ (.Name k pos) ifs (Emit W n sc scope σ elt []) (xs.map enc) [(k, .unset)] ((xs.filter p).map f)
  | [], _, _ => .nil
  | x :: xs, hT, hf => by
    have ih := EmitL.one (pos := pos) enc p f xs (fun y hy => hT y (List.mem_cons_of_mem _ hy)) (fun y hy => hf y (List.mem_cons_of_mem _ hy))
    have hx := hT x (List.mem_cons_self ..)
    have hb : Binds W sc (.Name k pos) (enc x) [(k, .unset)] [(k, .val (enc x))] := Binds.name .here (noApp.unset .nil)
    rw [List.map_cons, List.filter_cons]
    cases hp : p x with
    | true =>
      rw [hp] at hx
      rw [if_pos rfl, List.map_cons]
      exact EmitL.yes (o := [f x]) hb (.drop .nil) hx ⟨_, rfl, hf x (List.mem_cons_self ..) hp⟩ ih
    | false =>
      rw [hp] at hx
      rw [if_neg Bool.false_ne_true]
      exact EmitL.no hb (.drop .nil) hx ih
theorem EmitL.map {α : Type} {k : Str} {pos : Pos} {elt : PySem.Expr} (enc : α → V) (f : α → V) (xs : List α) (hf : ∀ x ∈ xs, Ev W n sc (InS [(k, .val (enc x))] scope σ) elt (f x)) :
    EmitL W n sc scope σ (.Name k pos) [] (Emit W n sc scope σ elt []) (xs.map enc) [(k, .unset)] (xs.map f) := by
  have := EmitL.one (k := k) (pos := pos) (ifs := []) (elt := elt) enc (fun _ => true) f xs (fun x _ => Tests.nil) (fun x hx _ => hf x hx)
  have e : xs.filter (fun _ => true) = xs := List.filter_eq_self.mpr fun _ _ => rfl
  rwa [e] at this
/-- lists one behind the other -/
theorem BinOk.catL {a b : List V} (h : a.length + b.length ≤ 16777216) : BinOk W .Add (.list a) (.list b) (.list (a ++ b)) := by
  intro A hA s hot v₁ v₂ Q E _ al r1 r2 k
  obtain ⟨l, items, rfl, _, hl, hr⟩ := rd_list r1
  obtain ⟨l2, items2, rfl, _, hl2, hr2⟩ := rd_list r2
  have hs1 : items.size = a.length := by rw [← hr.length]; simp
  have hs2 : items2.size = b.length := by rw [← hr2.length]; simp
  obtain ⟨n1, ho⟩ := hl
  obtain ⟨n2, ho2⟩ := hl2
  have hz : items.size + items2.size ≤ sizeLine := by rw [hs1, hs2, sizeLine_eq]; exact h
  refine concat_meets ⟨_, ho, rfl⟩ ⟨_, ho2, rfl⟩ noFill_list_add seq_list_add PySem.F.slot_list_add PySem.F.entry_list_add (PySem.F.args_list_add_2 _ _) (PyProof.Rows.list_addW l l2 items items2 n1 n2 _ _ _ _ hz) ⟨ho, ho2, ?_⟩
  have up : Sub s.heap (s.heap.push { cls := .type "list", data := .seq (items ++ items2) }) := fun b o e => Heap.get?_push_of_some _ e
  refine k (.ref s.heap.objs.size) _ ⟨up, rfl, fun e => e⟩ ?_
  unfold Rd
  exact ⟨_, items ++ items2, rfl, newIsHot al, ⟨0, Heap.get?_push_size _ rfl⟩, by rw [Array.toList_append]; exact (hr.sub up).app (hr2.sub up)⟩
/-- == [] -/
theorem CmpOk.eq_nil {a : List V} : CmpOk W .Eq (.list a) (.list []) a.isEmpty := by
  intro A hA s hot v₁ v₂ Q E _ al r1 r2 k
  obtain ⟨l, items, rfl, _, hl, hr⟩ := rd_list r1
  obtain ⟨l2, items2, rfl, _, hl2, hr2⟩ := rd_list r2
  have hs1 : items.size = a.length := by rw [← hr.length]; simp
  have hs2 : items2.size = 0 := by have := hr2.length; simpa using this
  have hu : A.units < cLine := hA.line
  cases a with
  | nil =>
    refine PySem.SeqAt.eq_listAt (e := fun _ => true) (PlainList.isList hl) (PlainList.isList hl2) (by rw [hs1, hs2]; rfl) hu (fun j h1 => ?_) ?_
    · rw [hs1] at h1; exact absurd h1 (Nat.not_lt_zero _)
    · rw [hs1]; exact k s (.refl s)
  | cons x a =>
    exact PySem.SeqAt.eq_list_lengthsAt (PlainList.isList hl) (PlainList.isList hl2) (by rw [hs1, hs2]; rfl) hu (k s (.refl s))
theorem CmpOk.eq_bytes {a b : List UInt8} : CmpOk W .Eq (.bytes a) (.bytes b) (a == b) := by
  intro A hA s hot v₁ v₂ Q E _ al r1 r2 k
  obtain ⟨t, rfl⟩ := rd_bytes r1
  obtain ⟨u, rfl⟩ := rd_bytes r2
  exact PySem.W.eq_bytes (k s (.refl s))
theorem str_beq_St (a b : List Nat) : (St a == St b) = (a == b) := by
  rw [Bool.eq_iff_iff, beq_iff_eq, beq_iff_eq]
  refine ⟨fun e => ?_, fun e => by rw [e]⟩
  have : (St a).cps.toList = (St b).cps.toList := by rw [e]
  simpa [St] using this
/-- x in ('a', 'b') -/
theorem CmpOk.in_tup {x : List Nat} {ls : List (List Nat)} : CmpOk W .In (.str x) (.tup (ls.map V.str)) (ls.any (· == x)) := by
  intro A hA s hot v₁ v₂ Q E _ al r1 r2 k
  obtain ⟨t, rfl⟩ := rd_str r1
  obtain ⟨l2, items2, rfl, _, hl2, hr2⟩ := rd_tup r2
  obtain ⟨l, e1, e2⟩ := strs_of hr2
  have e3 : items2 = (strValues l).toArray := by rw [← e1]
  subst e3
  let e : Value → Bool := fun v => match v with | .str y _ => y == St x | _ => false
  refine PySem.SeqAt.in_tupleAt e hl2 (fun y hy => ?_) ?_
  · have : y ∈ strValues l := by simpa using hy
    obtain ⟨p, hp, rfl⟩ := List.mem_map.mp this
    exact (PyProof.Rows.eqGives_str p.1 (St x) p.2 t).at _ _
  · have : (strValues l).toArray.any e = ls.any (· == x) := by
      rw [List.any_toArray]
      unfold strValues
      rw [List.any_map]
      have : l.any (e ∘ fun p => Value.str p.1 p.2) = (l.map (·.1)).any (· == St x) := by rw [List.any_map]; rfl
      rw [this, e2, List.any_map]
      congr 1
      funext z
      exact str_beq_St z x
    rw [this]
    exact k s (.refl s)
/-- bytes(list) -/
theorem ints_of {h : Heap} {hot : Addr → Prop} : ∀ {ls : List Int} {vs : List Value}, Rds h hot (ls.map V.int) vs → IntsAre vs ls
  | [], vs, r => by unfold Rds at r; subst r; exact .nil
  | x :: ls, vs, r => by
    simp only [List.map_cons] at r
    unfold Rds at r; obtain ⟨v, r', rfl, h1, h2⟩ := r
    obtain ⟨t, rfl⟩ := rd_int h1
    exact .cons _ _ (ints_of h2)
def octs (ns : List Int) : List UInt8 := ns.map fun n => n.toNat.toUInt8
theorem CallOk.bytes {ns : List Int} (hr : ∀ n ∈ ns, 0 ≤ n ∧ n < 256) (hz : ns.length ≤ 16777216) : CallOk W n (.type "bytes") [.list (ns.map V.int)] (.bytes (octs ns)) := by
  intro A hA s hot vs Q E _ al r k
  unfold Rds at r; obtain ⟨v, r', rfl, h1, h2⟩ := r; unfold Rds at h2; subst h2
  obtain ⟨a, items, rfl, _, hl, hr'⟩ := rd_list h1
  refine call_bytes_ints (vs := items.toList) (PlainList.isList hl) (ints_of hr') hr (by rw [hr'.length, List.length_map, sizeLine_eq]; exact hz) hA.handled fun h' t k' hk => ?_
  exact k _ _ (.mk' hk) mk_bytes
/-- sum(list) -/
def sumI : List Int → Int
  | [] => 0
  | x :: xs => x + sumI xs
theorem CallOk.sum {ns : List Int} : CallOk W n (.builtin "sum") [.list (ns.map V.int)] (.int (sumI ns)) := by
  intro A hA s hot vs Q E _ al r k
  unfold Rds at r; obtain ⟨v, r', rfl, h1, h2⟩ := r; unfold Rds at h2; subst h2
  obtain ⟨a, items, rfl, _, hl, hr'⟩ := rd_list h1
  have : ∀ {ls : List Int} {vs : List Value}, Rds s.heap hot (ls.map V.int) vs → ∃ xs : List (Int × Tok), vs = xs.map (fun p => Value.int p.1 p.2) ∧ xs.map (·.1) = ls := by
    intro ls
    induction ls with
    | nil => intro vs r; unfold Rds at r; subst r; exact ⟨[], rfl, rfl⟩
    | cons x ls ih =>
      intro vs r
      simp only [List.map_cons] at r
      unfold Rds at r; obtain ⟨v, r', rfl, h1, h2⟩ := r
      obtain ⟨t, rfl⟩ := rd_int h1
      obtain ⟨xs, rfl, e⟩ := ih h2
      exact ⟨(x, t) :: xs, rfl, by simp [e]⟩
  obtain ⟨xs, e1, e2⟩ := this hr'
  have e3 : items = intItems xs.toArray := by
    unfold intItems
    rw [List.map_toArray, ← e1]
  have e4 : preSum (numAt xs.toArray) xs.toArray.size = sumI ns := by
    rw [← e2]
    have hn : ∀ i, numAt xs.toArray i = ((xs.map (·.1))[i]?).getD 0 := by
      intro i; unfold numAt; simp
    rw [List.size_toArray, show xs.length = (xs.map (·.1)).length by simp]
    have key : ∀ (l : List Int) (j : Nat), j ≤ l.length → preSum (fun i => (l[i]?).getD 0) j = sumI (l.take j) := by
      intro l j
      induction j with
      | zero => intro _; simp [preSum, sumI]
      | succ j ih =>
        intro hj
        have app : ∀ a b : List Int, sumI (a ++ b) = sumI a + sumI b := by
          intro a b
          induction a with
          | nil => simp [sumI]
          | cons x a ih => simp [sumI, ih]; omega
        rw [preSum, ih (by omega), List.take_add_one, app]
        have hx : j < l.length := by omega
        rw [List.getElem?_eq_getElem hx]
        simp [sumI]
    have hf : numAt xs.toArray = fun i => ((xs.map (·.1))[i]?).getD 0 := funext hn
    rw [hf, key _ _ (Nat.le_refl _), List.take_length]
  subst e3
  refine PySem.sum_intListG hA.handled (PlainList.isList hl) fun h' tk t' hk => ?_
  rw [e4]
  exact k _ _ (.mk' hk) mk_int
end
end Mine
open PySem PySem.W PyProof.Rows
set_option Elab.async false
set_option linter.unusedVariables false
namespace Mine
/-- the text's def number i, under its name -/
def Fn (W : Wo) (pw : Program) (i : Nat) (x : Str) (ps : List Str) : Prop :=
  ∃ a fd, W.mg x = some (.ref a) ∧ IsDef W a fd (fbody (nth pw i)) ∧ fd.scope = fscope (nth pw i) ∧ ∀ vs : List Value, vs.length = ps.length → bindArgs fd ⟨vs, []⟩ = pure (ps.zip vs)
section
variable {W : Wo} {n : Nat} {sc scope : Scope} {σ σ' : Store} {pw : Program}
theorem Ev.fn {i : Nat} {x : Str} {ps : List Str} (ls : List Str) {args : List PySem.Expr} {p pos : Pos} {ds : List V} {c : V} (h : Fn W pw i x ps) (hg : isGlob sc x = true) (ha : Evs W (n + 1) sc σ args ds)
    (ok : okNames (fscope (nth pw i)) (ps ++ ls) = true) (hp : ps.length = ds.length) (hr : RunsL W n (fscope (nth pw i)) (fbody (nth pw i)) (argStore ps ds ls) (.ret c)) : Ev W (n + 1) sc σ (.Call (.Name x p) args [] pos) c := by
  obtain ⟨a, fd, h1, h2, h3, h4⟩ := h
  exact Ev.call (Ev.glob hg h1) ha h2.callee (CallOk.fn (ls := ls) h2 (by rw [h3]; exact ok) hp h4 (by rw [h3]; exact hr))
theorem Evs.one {e : PySem.Expr} {d : V} (h : Ev W n sc σ e d) (hn : ∀ env, starEach [e] env = (false, eval e env) :: starEach [] env) : Evs W n sc σ [e] [d] := .cons h .nil hn
end
end Mine
open PySem PySem.W PyProof.Rows
set_option Elab.async false
set_option linter.unusedVariables false
namespace Mine
theorem sl_map {α β : Type} (f : α → β) (l : List α) (lo hi st : Option Int) : sl (l.map f) lo hi st = (sl l lo hi st).map f := by
  unfold sl
  rw [List.length_map, List.map_filterMap]
  congr 1
  funext i
  rw [List.getElem?_map]
theorem fm_congr {α β : Type} {f g : α → Option β} : ∀ {l : List α}, (∀ x ∈ l, f x = g x) → l.filterMap f = l.filterMap g
  | [], _ => rfl
  | x :: l, h => by
    have ih := fm_congr (l := l) fun y hy => h y (List.mem_cons_of_mem _ hy)
    rw [List.filterMap_cons, List.filterMap_cons, h x (List.mem_cons_self ..), ih]
theorem clamp {x n : Nat} (h : x ≤ n) : max 0 (min (x : Int) n) = x := by
  rw [Int.min_eq_left (Int.ofNat_le.mpr h), Int.max_eq_right (Int.natCast_nonneg _)]
theorem neg_lt {b : Nat} (h : 0 < b) : -(b : Int) < 0 := by omega
theorem neg_add {b n : Nat} (h : b ≤ n) : -(b : Int) + n = (n - b : Nat) := by omega
theorem not_neg (a : Nat) : ¬ ((a : Int) < 0) := Int.not_lt.mpr (Int.natCast_nonneg _)
theorem sl_nat {α : Type} (l : List α) {a b : Nat} (hab : a ≤ b) (hb : b ≤ l.length) : sl l (some (a : Int)) (some (b : Int)) none = (l.drop a).take (b - a) := by
  unfold sl sliceBounds
  simp only [Option.getD_none, show (1 : Int) > 0 by decide, if_true]
  rw [if_neg (not_neg a), if_neg (not_neg b), clamp (Nat.le_trans hab hb), clamp hb]
  exact picks1 l _ _ hb hab
theorem sl_to {α : Type} (l : List α) {b : Nat} (hb : b ≤ l.length) : sl l none (some (b : Int)) none = l.take b := by
  unfold sl sliceBounds
  simp only [Option.getD_none, show (1 : Int) > 0 by decide, if_true]
  rw [if_neg (not_neg b), clamp hb]
  exact picks1 l 0 _ hb (Nat.zero_le _)
theorem sl_from {α : Type} (l : List α) {a : Nat} (ha : a ≤ l.length) : sl l (some (a : Int)) none none = l.drop a := by
  unfold sl sliceBounds
  simp only [Option.getD_none, show (1 : Int) > 0 by decide, if_true]
  rw [if_neg (not_neg a), clamp ha]
  refine (picks1 l a l.length (Nat.le_refl _) ha).trans (List.take_of_length_le ?_)
  rw [List.length_drop]; exact Nat.le_refl _
/-- up to the end, less some -/
theorem sl_less {α : Type} (l : List α) {a b : Nat} (h : a + b ≤ l.length) (hb : 0 < b) : sl l (some (a : Int)) (some (-(b : Int))) none = (l.drop a).take (l.length - b - a) := by
  unfold sl sliceBounds
  simp only [Option.getD_none, show (1 : Int) > 0 by decide, if_true]
  rw [if_neg (not_neg a), if_pos (neg_lt hb), neg_add (Nat.le_trans (Nat.le_add_left ..) h), clamp (Nat.le_trans (Nat.le_add_right ..) h), clamp (Nat.sub_le ..)]
  exact picks1 l _ _ (Nat.sub_le ..) (Nat.le_sub_of_add_le h)
theorem sl_last {α : Type} (l : List α) {b : Nat} (h : b ≤ l.length) (hb : 0 < b) : sl l (some (-(b : Int))) none none = l.drop (l.length - b) := by
  unfold sl sliceBounds
  simp only [Option.getD_none, show (1 : Int) > 0 by decide, if_true]
  rw [if_pos (neg_lt hb), neg_add h, clamp (Nat.sub_le ..)]
  refine (picks1 l _ l.length (Nat.le_refl _) (Nat.sub_le ..)).trans (List.take_of_length_le ?_)
  rw [List.length_drop]; exact Nat.le_refl _
theorem sl_len {α : Type} (l : List α) (lo hi : Option Int) : (sl l lo hi none).length ≤ l.length := pick_len l lo hi none
/-- l[:1] -/
theorem sl_one {α : Type} (l : List α) : sl l none (some 1) none = l.take 1 := by
  cases l with
  | nil => rfl
  | cons x l => exact sl_to (x :: l) (b := 1) (by simp)
/-- backwards -/
theorem sl_rev {α : Type} (l : List α) : sl l none none (some (-1)) = l.reverse := by
  unfold sl sliceBounds
  simp only [Option.getD_some, show ¬ ((-1 : Int) > 0) by decide, if_false]
  unfold sliceRange
  simp only [show ¬ ((-1 : Int) > 0) by decide, if_false]
  apply List.ext_getElem?
  intro i
  by_cases hl : l.length = 0
  · have : l = [] := List.length_eq_zero_iff.mp hl
    subst this; simp
  · rw [if_pos (by omega)]
    have e : (((l.length : Int) - 1 - -1 - -1 - 1) / (- -1)).toNat = l.length := by rw [show (- -1 : Int) = 1 by decide, Int.ediv_one]; omega
    rw [e, List.filterMap_map]
    have h : (List.range l.length).filterMap ((fun x => l[x]?) ∘ fun (k : Nat) => ((l.length : Int) - 1 + -1 * (k : Int)).toNat) = (List.range l.length).map fun k => l.getD (l.length - 1 - k) (l[0]'(by omega)) := by
      rw [← List.filterMap_eq_map]
      refine fm_congr ?_
      intro k hk
      rw [List.mem_range] at hk
      have : ((l.length : Int) - 1 + -1 * (k : Int)).toNat = l.length - 1 - k := by omega
      simp only [Function.comp, this]
      rw [List.getElem?_eq_getElem (by omega)]
      simp [List.getD, List.getElem?_eq_getElem (show l.length - 1 - k < l.length by omega)]
    rw [h]
    by_cases hi : i < l.length
    · rw [List.getElem?_map, List.getElem?_range hi]
      simp only [Option.map_some]
      rw [List.getElem?_reverse hi]
      simp [List.getD, List.getElem?_eq_getElem (show l.length - 1 - i < l.length by omega)]
    · rw [List.getElem?_eq_none (by simp; omega), List.getElem?_eq_none (by simp; omega)]
end Mine
open PySem PySem.W PyProof.Rows
set_option Elab.async false
set_option linter.unusedVariables false
namespace Mine
open Builtin Builtin.Str
section
variable {W : Wo} {n : Nat} {sc scope : Scope} {σ σ' : Store}
/-- an expression that draws a token on its way -/
structure Ev1 (W : Wo) (n : Nat) (sc : Scope) (σ : Store) (e : PySem.Expr) (d : V) : Prop where
  run : ∀ env, env.scope = sc → ∀ A, Room A n → ∀ s hot (Q : Value → Shared → Prop) E, Good W env σ hot s →
    (∀ v s', Grow s s' → 1 ≤ s'.toks → Rd s'.heap hot d v → Q v s') → wpAny (model W.prog W.w) A (eval e env) Q E s
theorem Ev1.slice {e : PySem.Expr} {i : Int} {j : Nat} {pi : Pos} {upper step : Option PySem.Expr} {p pos : Pos} {a c : V} {hi st : Option Int} (he : Ev W n sc σ e a) (h2 : EvP W n sc σ upper hi) (h3 : EvP W n sc σ step st)
    (ho : SliceOk W a (some i) hi st c) (hs : ∀ o v, ∃ ops, subscripted (.Slice (some (.Constant (.int i) j pi)) upper step p) false o v = operate ops (getItem o v)) : Ev1 W n sc σ (.Subscript e (.Slice (some (.Constant (.int i) j pi)) upper step p) pos) c :=
  ⟨fun env hq A hA s hot Q E g k => by
    refine @Subscript_ _ _ _ _ _ _ _ _ _ (he.run env hq A hA s hot _ E g fun v₁ s₁ g₁ r₁ => @wpAny_Slice _ _ _ _ _ _ _ _ _ _ (@evalPart_some_step _ _ _ _ _ _ _ (wpAny_Constant_int ?_)))
    have g₂ : Grow s₁ { s₁ with toks := s₁.toks + 1 } := .tok
    refine wpAny_with_toks (n := 1) (show 1 ≤ s₁.toks + 1 by omega) ?_
    refine h2.run env hq A hA _ hot _ _ ((g.grow g₁).grow g₂) fun pu s₃ g₃ e₂ t₃ => ?_
    refine wpAny_with_toks t₃ ?_
    refine h3.run env hq A hA s₃ hot _ _ (((g.grow g₁).grow g₂).grow g₃) fun pt s₄ g₄ e₃ t₄ => ?_
    have G := (((g.grow g₁).grow g₂).grow g₃).grow g₄
    have up : Sub s₄.heap (s₄.heap.push { cls := .type "slice", data := .fields #[partValue (some (i, s₁.toks)), partValue pu, partValue pt] }) := fun b o e => Heap.get?_push_of_some _ e
    have g₅ : Grow s₄ { s₄ with heap := s₄.heap.push { cls := .type "slice", data := .fields #[partValue (some (i, s₁.toks)), partValue pu, partValue pt] } } := ⟨up, rfl, fun e => e⟩
    refine wpAny_with_toks (n := 1) (show 1 ≤ s₄.toks from t₄) ?_
    obtain ⟨T, id, hl, hT, hg⟩ := ho A (hA.less (Nat.zero_le _)) _ hot v₁ s₄.heap.objs.size (some (i, s₁.toks)) pu pt (fun v s' => 1 ≤ s'.toks → Q v s') (fun e s' => 1 ≤ s'.toks → E e s') (G.grow g₅).base (G.grow g₅).alive (((((r₁.sub g₂.sub).sub g₃.sub).sub g₄.sub)).sub up) (Heap.get?_push_size _ rfl) rfl e₂ e₃
      fun v s' g₆ r₆ t₆ => k v s' (((((g₁.trans g₂).trans g₃).trans g₄).trans g₅).trans g₆) t₆ r₆
    obtain ⟨ops, hop⟩ := hs v₁ (.ref s₄.heap.objs.size)
    exact tail_any hT hl hg hop⟩
theorem Ev.replaceLit {o : PySem.Expr} {apos pos p1 p2 : Pos} {a b : String} {j1 j2 : Nat} {l z : List Nat} {c : Nat} (ho : Ev1 W n sc σ o (.str l)) (hbase : ∀ env, attributeBase o "replace" env (eval o env) = eval o env) (hline : (apos.endLine == pos.line) = true)
    (ha : Str.ofString a = St [c]) (hb : Str.ofString b = St z) (hab : z ≠ [c]) (hz : l.length + (l.length + 1) * z.length ≤ 16777216)
    (hargs : ∀ env, starEach [.Constant (.str (Str.ofString a)) j1 p1, .Constant (.str (Str.ofString b)) j2 p2] env = [(false, eval (.Constant (.str (Str.ofString a)) j1 p1) env), (false, eval (.Constant (.str (Str.ofString b)) j2 p2) env)]) :
    Ev W n sc σ (.Call (.Attribute o "replace" apos) [.Constant (.str (Str.ofString a)) j1 p1, .Constant (.str (Str.ofString b)) j2 p2] [] pos) (.str (rsub l c z)) :=
  ⟨fun env he A hA s hot Q E g k => replace_any (hbase env) hline ha hb hab hz hargs (ho.run env he A hA s hot _ E g fun v s₁ g₁ t₁ r₁ => by
    obtain ⟨t, rfl⟩ := rd_str r₁
    exact ⟨t, rfl, t₁, fun t' k' => k _ _ (g₁.trans .tok) mk_str⟩)⟩
theorem rds_strs {h : Heap} {hot : Addr → Prop} : ∀ l : List (Str × Tok), Rds h hot (l.map fun p => V.str p.1.cps.toList) (strValues l)
  | [] => .nil
  | (x, t) :: l => by
    refine .cons ?_ (rds_strs l)
    have : x = St x.cps.toList := by simp [St]
    show Rd h hot (.str x.cps.toList) (.str x t)
    have h := @mk_str h hot x.cps.toList t
    rwa [← this] at h
def splitL (l y : List Nat) : List (List Nat) := (Txt.split (St l) (St y)).map fun x => x.cps.toList
theorem CallOk.split {l y : List Nat} (hy : y ≠ []) (hz : l.length ≤ 1000000) : CallOk W n (.builtin "str.split") [.str l, .str y] (.list ((splitL l y).map V.str)) := by
  intro A hA s hot vs Q E _ al r k
  unfold Rds at r; obtain ⟨v, r', rfl, h1, h2⟩ := r
  unfold Rds at h2; obtain ⟨v', r'', rfl, h2, h3⟩ := h2; unfold Rds at h3; subst h3
  obtain ⟨t, rfl⟩ := rd_str h1; obtain ⟨u, rfl⟩ := rd_str h2
  have hy' : ((St y).length == 0) = false := by
    rw [St_len]; cases y with
    | nil => exact absurd rfl hy
    | cons a y => rfl
  have fin : ∀ (lt : List (Str × Tok)) (tk : Nat), lt.map (·.1) = Txt.split (St l) (St y) → Q (.ref s.heap.objs.size) { s with toks := tk, heap := s.heap.push { cls := .type "list", data := .seq (strValues lt).toArray } } := by
    intro lt tk e
    have up : Sub s.heap (s.heap.push { cls := .type "list", data := .seq (strValues lt).toArray }) := fun b o e => Heap.get?_push_of_some _ e
    refine k _ _ (.mk' up) ?_
    have e2 : (splitL l y).map V.str = lt.map fun p => V.str p.1.cps.toList := by
      unfold splitL
      rw [← e, List.map_map, List.map_map]; rfl
    rw [e2]
    unfold Rd
    exact ⟨_, _, rfl, newIsHot al, ⟨0, Heap.get?_push_size _ rfl⟩, by rw [List.toList_toArray]; exact rds_strs lt⟩
  have hsz : (St l).length ≤ sizeLine := by rw [St_len, sizeLine_eq]; omega
  cases h1 : (decide ((St l).length < (St y).length) || decide (strKind (St l) < strKind (St y)))
  · cases hf : (occurrences (St l) (St y) 0 (St l).length ((St l).length + 1)).isEmpty
    · have hsz2 : (partsBetween (St l) (occurrences (St l) (St y) 0 (St l).length ((St l).length + 1)) (St y).length).length ≤ sizeLine := by
        unfold partsBetween
        rw [List.length_map, List.length_zip, sizeLine_eq]
        have := StrLaws.occ_length_le (St l) (St y) 0 (St l).length ((St l).length + 1)
        simp only [List.length_cons, List.length_map]
        rw [St_len] at this ⊢
        omega
      refine call_meets F.slot_str_split (typeIs_str _ _ _) F.entry_str_split (F.args_str_split_2 _ _) (meets_str_split_sep (St l) (St y) t u h1 hy' hf hsz hsz2) ?_
      show wants Q E _ { s with toks := _, heap := s.heap.push { cls := .type "list", data := .seq (strsFrom s.toks (partsBetween (St l) (occurrences (St l) (St y) 0 (St l).length ((St l).length + 1)) (St y).length)).toArray } }
      rw [strsFrom_eq]
      exact fin _ _ ((numbered_texts _ _).trans ((if_neg (ne_true_of_eq_false h1)).trans (if_neg (ne_true_of_eq_false hf))).symm)
    · exact call_meets F.slot_str_split (typeIs_str _ _ _) F.entry_str_split (F.args_str_split_2 _ _) (meets_str_split_not_found (St l) (St y) t u h1 hy' hf)
        (fin [(St l, t)] _ ((if_neg (ne_true_of_eq_false h1)).trans (if_pos hf)).symm)
  · exact call_meets F.slot_str_split (typeIs_str _ _ _) F.entry_str_split (F.args_str_split_2 _ _) (meets_str_split_cannot_occur (St l) (St y) t u h1)
      (fin [(St l, t)] _ (if_pos h1).symm)
end
end Mine
open PySem PySem.W PyProof.Rows
set_option Elab.async false
set_option linter.unusedVariables false
namespace Mine
/-- the text's def number i, called upon a one positional and a named datum -/
def FnKw (W : Wo) (pw : Program) (i : Nat) (x p k : Str) : Prop :=
  ∃ a fd, W.mg x = some (.ref a) ∧ IsDef W a fd (fbody (nth pw i)) ∧ fd.scope = fscope (nth pw i) ∧ ∀ s, Sub W.B s.heap → ∀ u v : Value, BindsTo s fd ⟨[u], [(k, v)]⟩ [(p, u), (k, v)]
/-- the text's def number i, the last places filled by its defaults -/
def FnDf (W : Wo) (pw : Program) (i : Nat) (x : Str) (ps : List Str) (m : Nat) (ex : List Value) : Prop :=
  ∃ a fd, W.mg x = some (.ref a) ∧ IsDef W a fd (fbody (nth pw i)) ∧ fd.scope = fscope (nth pw i) ∧ ∀ s, Sub W.B s.heap → ∀ vs : List Value, vs.length = m → BindsTo s fd ⟨vs, []⟩ (ps.zip (vs ++ ex))
section
variable {W : Wo} {n : Nat} {sc scope : Scope} {σ σ' : Store} {pw : Program}
theorem Ev.fnKw {i : Nat} {x q k : Str} (ls : List Str) {e e2 : PySem.Expr} {p p2 pos : Pos} {d d2 : V} {c : V} (h : FnKw W pw i x q k) (hg : isGlob sc x = true) (ha : Ev W (n + 1) sc σ e d) (hb : Ev W (n + 1) sc σ e2 d2)
    (hn : ∀ env, starEach [e] env = (false, eval e env) :: starEach [] env)
    (ok : okNames (fscope (nth pw i)) ([q, k] ++ ls) = true) (hr : RunsL W n (fscope (nth pw i)) (fbody (nth pw i)) (argStore [q, k] [d, d2] ls) (.ret c)) : Ev W (n + 1) sc σ (.Call (.Name x p) [e] [⟨some k, e2, p2⟩] pos) c :=
  ⟨fun env he A hA s hot Q E g kk => by
    obtain ⟨a, fd, h1, h2, h3, h4⟩ := h
    obtain ⟨o, ho, hd⟩ := h2.get
    refine wpAny_Call_Name_kw ((Ev.glob (W := W) (n := n + 1) (σ := σ) (pos := p) hg h1).run env he A hA s hot _ E g fun v s₁ g₁ r₁ => ?_)
    cases rd_val r₁
    refine callWith_function_kw (o := o) (fd := fd) (PyProof.Rows.evalArgs_kw2 (by rfl) ?_ (hn env))
    have hone : Evs W (n + 1) sc σ [e] [d] := Evs.one ha hn
    refine hone.run env he A hA s₁ hot _ E pos (g.grow g₁) fun vs s₂ g₂ r₂ => ?_
    refine PyProof.Rows.kwAll_cons (hb.run env he A hA s₂ hot _ E ((g.grow g₁).grow g₂) fun v s₃ g₃ r₃ => PyProof.Rows.kwAll_nil ?_)
    have G₃ := ((g.grow g₁).grow g₂).grow g₃
    refine ⟨⟨G₃.base _ _ ho, hd⟩, ?_⟩
    unfold Rds at r₂; obtain ⟨u, r', rfl, hu, hu'⟩ := r₂; unfold Rds at hu'; subst hu'
    show wpAny _ A (PySem.call (Value.ref a) [u] [(k, v)]) Q E s₃
    refine wpAny_call (code_fn h2 (ps := [q, k]) (ls := ls) (ds := [d, d2]) (vs := [u, v]) (by rw [h3]; exact ok) rfl (by rw [h3]; exact hr) hA G₃.base G₃.alive (.cons (hu.sub g₃.sub) (.cons r₃ .nil)) (h4 s₃ G₃.base u v) fun v' s' g' r' => ?_)
    exact kk v' s' (((g₁.trans g₂).trans g₃).trans g') r'⟩
theorem Ev.fnDf {i : Nat} {x : Str} {ps : List Str} (ls : List Str) {m : Nat} {ex : List Value} {es : List V} {args : List PySem.Expr} {p pos : Pos} {ds : List V} {c : V} (h : FnDf W pw i x ps m ex) (hex : ∀ h hot, Rds h hot es ex) (hm : ds.length = m) (hg : isGlob sc x = true) (ha : Evs W (n + 1) sc σ args ds)
    (ok : okNames (fscope (nth pw i)) (ps ++ ls) = true) (hp : ps.length = (ds ++ es).length) (hr : RunsL W n (fscope (nth pw i)) (fbody (nth pw i)) (argStore ps (ds ++ es) ls) (.ret c)) : Ev W (n + 1) sc σ (.Call (.Name x p) args [] pos) c := by
  obtain ⟨a, fd, h1, h2, h3, h4⟩ := h
  refine Ev.call (Ev.glob hg h1) ha h2.callee ?_
  intro A hA s hot vs Q E hB al hrd k
  refine wpAny_call (code_fn h2 (ps := ps) (ls := ls) (ds := ds ++ es) (vs := vs ++ ex) (by rw [h3]; exact ok) hp (by rw [h3]; exact hr) hA hB al (hrd.app (hex _ _)) (h4 s hB vs (by rw [hrd.length, hm])) fun v s' g r => ?_)
  exact k v s' g r
end
end Mine
open PySem PySem.W PyProof.Rows
set_option Elab.async false
set_option linter.unusedVariables false
namespace Mine
section
variable {W : Wo} {n : Nat} {sc scope : Scope} {σ σ' : Store}
theorem IterOk.bytes {l : List UInt8} : IterOk W (.bytes l) (l.map fun c => .int (c.toNat : Nat)) := ⟨fun A hA s hot v Q E hb al r k => by
  obtain ⟨t, rfl⟩ := rd_bytes r
  have sz : l.toArray.size = (l.map fun c => V.int (c.toNat : Nat)).length := by simp
  have val : ∀ (i : Nat) (v : Value) (x : V), (∃ (c : UInt8) (u : Tok), l.toArray[i]? = some c ∧ v = .int (c.toNat : Int) u) → (l.map fun (c : UInt8) => V.int (c.toNat : Nat))[i]? = some x → Rd s.heap hot x v := by
    intro i v x ⟨c, u, h1, h2⟩ hx
    have h1' : l[i]? = some c := by simpa using h1
    rw [List.getElem?_map, h1'] at hx
    simp at hx; subst hx; subst h2
    exact mk_int
  refine KBw.pyIter_bytes (k _ _ ⟨fun b o e => Heap.get?_push_of_some _ e, rfl, fun e => e⟩ ⟨s.heap.objs.size, [s.heap.objs.size], _, fun i h => KBw.IsBytesIter h s.heap.objs.size l.toArray t i, rfl, by rw [← sz]; exact KBw.walks hA.handled _ _ t, fun i h st => ?_, ⟨_, Heap.get?_push_size _ rfl, rfl, rfl⟩, ?_, get_size_none _, val⟩)
  · obtain ⟨o, e, c, _⟩ := st; exact ⟨fun b hb => by rw [List.mem_singleton.mp hb]; exact ⟨o, e⟩, o, _, e, c, by decide⟩
  · intro b hb' hn; rcases List.mem_cons.mp hb' with e | hb'; exact absurd e hn; cases hb'⟩
theorem ItemOk.bytes {l : List UInt8} {i : Int} {k : Nat} (hi : i = k) (hk : k < l.length) (hz : l.length ≤ 1000000) : ItemOk W (.bytes l) (.int i) (.int ((l.getD k 0).toNat : Nat)) := by
  subst hi
  intro A hA s hot v₁ v₂ Q E hb al r1 r2 kk
  obtain ⟨t, rfl⟩ := rd_bytes r1; obtain ⟨u, rfl⟩ := rd_int r2
  exact ⟨"bytes", _, FB.slot_bytes_getitem.lookup, typeIs_bytes _ _ _, getItem_bytes (by omega) (by omega) (by omega) (kk _ _ .tok (by rw [Int.toNat_natCast]; exact mk_int))⟩
/-- a datum under another name -/
theorem Ev.as {e : PySem.Expr} {d d' : V} (h : Ev W n sc σ e d) (hd : ∀ h hot v, Rd h hot d v → Rd h hot d' v) : Ev W n sc σ e d' :=
  ⟨fun env he A hA s hot Q E g k => h.run env he A hA s hot Q E g fun v s' g' r => k v s' g' (hd _ _ _ r)⟩
theorem Ev.globBytes {x : Str} {pos : Pos} {l : List UInt8} (hv : isGlob sc x = true) (hm : ∃ t, W.mg x = some (.bytes l.toArray t)) : Ev W n sc σ (.Name x pos) (.bytes l) := by
  obtain ⟨t, hm⟩ := hm
  exact Ev.as (Ev.glob hv hm) fun h hot v r => by cases rd_val r; exact mk_bytes
/-- bits -/
theorem bitOr_nat (a b : Nat) : Builtin.bitOr (a : Int) (b : Int) = ((a ||| b : Nat) : Int) := by
  rw [bitOr_and, bitAnd_pp (by omega) (by omega), Int.toNat_natCast, Int.toNat_natCast]
  have := nat_or_add_and a b
  omega
theorem bitAnd_nat (a b : Nat) : Builtin.bitAnd (a : Int) (b : Int) = ((a &&& b : Nat) : Int) := by
  rw [bitAnd_pp (by omega) (by omega), Int.toNat_natCast, Int.toNat_natCast]
theorem BinOk.mask {a : Nat} {m : Int} (k : Nat) (hm : m = ((2 ^ k - 1 : Nat) : Int)) : BinOk W .BitAnd (.int a) (.int m) (.int (a % 2 ^ k : Nat)) := by
  have := BinOk.and (W := W) (a := a) (b := m)
  subst hm
  rwa [bitAnd_nat, Nat.and_two_pow_sub_one_eq_mod] at this
theorem BinOk.orLow {a b : Nat} (k : Nat) (ha : a % 2 ^ k = 0) (hb : b < 2 ^ k) : BinOk W .BitOr (.int a) (.int b) (.int (a + b : Nat)) := by
  have := BinOk.or (W := W) (a := a) (b := b)
  rw [bitOr_nat] at this
  have e : a ||| b = a + b := by
    have h := Nat.shiftLeft_add_eq_or_of_lt hb (a / 2 ^ k)
    rw [Nat.shiftLeft_eq, Nat.div_mul_cancel (Nat.dvd_of_mod_eq_zero ha)] at h
    exact h.symm
  rwa [e] at this
theorem BinOk.shlN {a : Nat} {m : Int} (k : Nat) (hm : m = k) (hk : k ≤ 1000000) (ha : a < 2 ^ 64) : BinOk W .LShift (.int a) (.int m) (.int (a * 2 ^ k : Nat)) := by
  subst hm
  have := BinOk.shl (W := W) (a := a) (b := k) (by omega) (by omega) (by simpa using ha)
  rw [Int.toNat_natCast] at this
  have e : ((a * 2 ^ k : Nat) : Int) = (a : Int) * 2 ^ k := by push_cast; rfl
  rw [e]; exact this
theorem BinOk.shrN {a : Nat} {m : Int} (k : Nat) (hm : m = k) : BinOk W .RShift (.int a) (.int m) (.int (a / 2 ^ k : Nat)) := by
  subst hm
  have := BinOk.shr (W := W) (a := a) (b := k) (by omega)
  rw [Int.toNat_natCast] at this
  have e : ((a / 2 ^ k : Nat) : Int) = (a : Int).fdiv (2 ^ k) := by
    rw [show ((2 : Int) ^ k) = ((2 ^ k : Nat) : Int) by push_cast; rfl]
    rw [← Int.ofNat_fdiv]
  rw [e]; exact this
theorem HasType.bool {b : Bool} : HasType (.bool b) "bool" := fun s hot v r => by
  cases rd_bool r
  exact ⟨rfl, fun a e => nomatch e⟩
end
/-- letters of base 64 -/
def b64S (k : Nat) : Nat := (b64L.getD k 0).toNat
structure Bs where
  out : List Nat
  bits : Nat
  ch : Nat
def feed (s : Bs) (b : UInt8) : Bs :=
  let ch := (s.ch * 2 ^ 8 + b.toNat) % 2 ^ 16
  match s.bits with
  | 0 => ⟨s.out ++ [b64S (ch / 2 ^ 2 % 2 ^ 6)], 2, ch⟩
  | 2 => ⟨s.out ++ [b64S (ch / 2 ^ 4 % 2 ^ 6)], 4, ch⟩
  | _ => ⟨s.out ++ [b64S (ch / 2 ^ 6 % 2 ^ 6), b64S (ch / 2 ^ 0 % 2 ^ 6)], 0, ch⟩
def feedAll (l : List UInt8) : Bs := l.foldl feed ⟨[], 0, 0⟩
theorem feedAll_snoc (l : List UInt8) (b : UInt8) : feedAll (l ++ [b]) = feed (feedAll l) b := by unfold feedAll; rw [List.foldl_append]; rfl
theorem b64S_lt (k : Nat) : b64S k < 256 := (b64L.getD k 0).toNat_lt
def BsOk (s : Bs) (m : Nat) : Prop := (s.bits = 0 ∨ s.bits = 2 ∨ s.bits = 4) ∧ s.ch < 65536 ∧ s.out.length ≤ 2 * m ∧ ∀ k ∈ s.out, k < 256
theorem feed_ok {s : Bs} {m : Nat} (h : BsOk s m) (b : UInt8) : BsOk (feed s b) (m + 1) := by
  obtain ⟨h1, h2, h3, h5⟩ := h
  have h4 : ∀ x : Nat, x % 2 ^ 16 < 65536 := fun x => Nat.mod_lt _ (by decide)
  unfold feed
  have h6 : ∀ (l : List Nat), (∀ k ∈ l, k < 256) → ∀ k ∈ s.out ++ l, k < 256 := fun l hl k hk => by
    rcases List.mem_append.mp hk with q | q
    · exact h5 k q
    · exact hl k q
  rcases h1 with e | e | e <;> rw [e] <;> refine ⟨by simp, h4 _, ?_, h6 _ ?_⟩ <;> first | (simp; omega) | (intro k hk; simp only [List.mem_cons, List.not_mem_nil, or_false] at hk; first | (rw [hk]; exact b64S_lt _) | (rcases hk with q | q <;> rw [q] <;> exact b64S_lt _))
theorem feedAll_ok : ∀ l : List UInt8, BsOk (feedAll l) l.length := by
  have : ∀ (l : List UInt8) (s : Bs) (m : Nat), BsOk s m → BsOk (l.foldl feed s) (m + l.length) := by
    intro l
    induction l with
    | nil => intro s m h; exact h
    | cons b l ih =>
      intro s m h
      have := ih (feed s b) (m + 1) (feed_ok h b)
      rw [List.length_cons, show m + (l.length + 1) = m + 1 + l.length by omega]
      exact this
  intro l
  have := this l ⟨[], 0, 0⟩ 0 ⟨.inl rfl, by decide, by simp, by simp⟩
  rwa [Nat.zero_add] at this
end Mine
open PySem PySem.W PyProof.Rows
set_option Elab.async false
set_option linter.unusedVariables false
namespace Mine
def boundObj (a : Addr) : Obj := { cls := .type "builtin_function_or_method", data := .fields #[.builtin "list.append", .ref a] }
theorem slot_mget : PySem.Slot "method_descriptor" "__get__" "method_descriptor.__get__" :=
  .of (owner := "method_descriptor") (n := "__get__") (by rw [typeLookup_type, builtinLookup_eq_fast]; kernel_rfl) (by decide +kernel) (by decide +kernel) (by decide +kernel)
    (by first | exact .inl (by decide +kernel) | exact .inr (by decide +kernel)) (by rw [isSubtype_type]; kernel_rfl)
theorem entry_mget : entryFor table "method_descriptor.__get__" = some Builtin.«method_descriptor.__get__» := entryFor_of_tree (by kernel_rfl)
theorem args_mget (a b c : Value) : argsOk "method_descriptor.__get__" ⟨[a, b, c], []⟩ := by unfold argsOk; kernel_rfl
theorem sa : Manifest.signature? "list.append" = some ⟨.oneArg, "list.append", "append", .self, [⟨"object", .posOnly, true⟩]⟩ := by
  rw [signature?_of (id := "list.append") (n := ['d', 'n', 'e', 'p', 'p', 'a']) (o := ['t', 's', 'i', 'l']) (by kernel_rfl) F.owner_list]; kernel_rfl
theorem bk : builtinKind "list.append" = some .method := by decide +kernel
theorem va : Manifest.varargsMethods.contains "list.append" = false := by decide +kernel
theorem sl_module : isSubtype (.type "list") (.type "module") = pure false := by rw [isSubtype_type]; kernel_rfl
theorem wp_check_append {prog : Program} {w : World} {A : Around} {E : Value → Shared → Prop} {s : Shared} {a : Addr} {v : Value} {Q : Unit → Shared → Prop} {xs : Array Value} {k : Nat} (hx : s.heap.get? a = some { cls := .type "list", data := .seq xs k }) (h : Q () s) :
    wpAny (model prog w) A (checkBoundCall "list.append" ⟨[.ref a, v], []⟩) Q E s := by
  have hT : s.TypeIs (.ref a) "list" := ⟨_, hx, rfl⟩
  unfold checkBoundCall
  rw [sa]
  simp only [bk]
  refine KFB.if_not (by decide) ?_
  refine wpAny_bind (wpAny_isInstance (T := "list") (b := false) hT sl_module ?_)
  rw [va]
  refine KFB.if_not rfl ?_
  refine wpAny_bind (wpAny_bind (m := isType (.ref a)) ?_)
  show wpAny _ _ (do let o ← loadPart a (some headPart); pure (match o.data with | .cls _ => true | _ => false)) _ _ s
  refine wpAny_bind (AutoSeq1.wpAny_loadPart' hx (wpAny_pure (wpAny_pure ?_)))
  refine KFB.if_not rfl ?_
  refine wpAny_bind (wpAny_typeOf hT ?_)
  exact wpAny_of_eq (a := ()) (by kernel_rfl) h
section
variable {prog : Program} {w : World} {A : Around} {E : Value → Shared → Prop} {s : Shared}
theorem run_mget {a : Addr} {P : Fin → Shared → Prop} (hT : s.TypeIs (.ref a) "list") (h : P (.done (.ret (.ref s.heap.objs.size))) { s with heap := s.heap.push (boundObj a) }) :
    wpAny (model prog w) A (Builtin.«method_descriptor.__get__» ⟨[.builtin "list.append", .ref a, .type "list"], []⟩) P E s := by
  unfold Builtin.«method_descriptor.__get__»
  refine wpAny_bind (wpAny_of_eq (a := (.builtin "list.append", some (.ref a), some (.type "list"))) (by first | rfl | kernel_rfl) ?_)
  refine KFB.if_not (by decide +kernel) ?_
  refine wpAny_bind (wpAny_bind (wpAny_of_eq (a := (Str.ofString "append", Value.type "list")) (by first | rfl | kernel_rfl) ?_)) 
  refine wpAny_bind (wpAny_isInstance (T := "list") (b := true) hT (by first | exact isSubtype_list_list | (rw [isSubtype_type]; kernel_rfl)) ?_)
  refine KFB.if_not rfl ?_
  refine wpAny_pure ?_
  exact wpAny_bind (wpAny_newObj_type (wpAny_pure h))
theorem lk_set : typeLookup (.type "method_descriptor") "__set__" = pure none := by rw [typeLookup_type, builtinLookup_eq_fast]; kernel_rfl
theorem lk_del : typeLookup (.type "method_descriptor") "__delete__" = pure none := by rw [typeLookup_type, builtinLookup_eq_fast]; kernel_rfl
theorem run_getattribute {a : Addr} {xs : Array Value} {k : Nat} {u : Tok} {P : Fin → Shared → Prop} (hx : s.heap.get? a = some { cls := .type "list", data := .seq xs k }) (h : P (.done (.ret (.ref s.heap.objs.size))) { s with heap := s.heap.push (boundObj a) }) :
    wpAny (model prog w) A (Builtin.«object.__getattribute__» ⟨[.ref a, .str "append" u], []⟩) P E s := by
  obtain ⟨hp, g, d, tk, os⟩ := s
  have hT : (⟨hp, g, d, tk, os⟩ : Shared).TypeIs (.ref a) "list" := ⟨_, hx, rfl⟩
  have f1 := F.slot_list_append.lookup
  have f2 := F.type_list_append
  have f3 := slot_mget.lookup
  have f4 := lk_set
  have f5 := lk_del
  unfold Builtin.«object.__getattribute__»
  repeat (any_goals (first | assumption | ((with_reducible show wpAny _ _ (call (Value.builtin "method_descriptor.__get__") _ _) _ _ _); refine wpAny_call_entry slot_mget F.type_list_append entry_mget (run_mget hT ?_) (args_mget _ _ _)) | wp_step))
  refine ⟨_, rfl, wpAny_pure h⟩
theorem getAttr_append {a : Addr} {xs : Array Value} {k : Nat} {Q : Value → Shared → Prop} (hx : s.heap.get? a = some { cls := .type "list", data := .seq xs k })
    (h : ∀ tk, Q (.ref s.heap.objs.size) { s with heap := s.heap.push (boundObj a), toks := tk }) : wpAny (model prog w) A (getAttr (.ref a) "append" true) Q E s := by
  obtain ⟨hp, g, d, tk, os⟩ := s
  have hT : ∀ tk', (⟨hp, g, d, tk', os⟩ : Shared).TypeIs (.ref a) "list" := fun _ => ⟨_, hx, rfl⟩
  have f3 := F.slot_list_getattribute.lookup
  have f4 := F.slot_list_getattribute.bind (.ref a)
  have f5 := am_list_getattr_none
  unfold getAttr getAttrBy
  repeat (any_goals (first | assumption | exact hT _ | ((with_reducible show wpAny _ _ (call (Value.builtin "list.__getattribute__") _ _) _ _ _); refine wpAny_call_entry F.slot_list_getattribute (hT _) am_entry_list_getattribute (run_getattribute (xs := xs) (k := k) hx ?_) (F.args_list_getattribute_2 _ _)) | wp_step))
  refine ⟨_, rfl, ?_⟩
  exact wpAny_pure (h _)
theorem quiet_append {as : Args} : (Code.builtin "list.append" as).quiet = true := Code.quiet_builtin _ (by decide +kernel)
theorem call_bound {x a : Addr} {o : Obj} {v : Value} {its : Array Value} {m : Nat} {Q : Value → Shared → Prop} (hx : s.heap.get? x = some o) (hc : o.cls = .type "builtin_function_or_method") (hd : o.data = .fields #[.builtin "list.append", .ref a])
    (ho : s.heap.get? a = some { cls := .type "list", data := .seq its m }) (hsz : its.size ≤ sizeLine)
    (h : ∀ h', Heap.SameBut a s.heap h' → h'.get? a = some { cls := .type "list", data := .seq (its.push v) (m + 1) } → Q .none { s with heap := h' }) : wpAny (model prog w) A (call (.ref x) [v]) Q E s := by
  refine wpAny_call (codeAny_of_tree ?_)
  show wpAny _ A.in1 (callAny (.ref x) ⟨[v], []⟩) _ _ s
  simp only [callAny]
  refine wpAny_bind (wpAny_load hx ?_)
  rw [hd, hc]
  simp only [show (Value.type "builtin_function_or_method" == Value.type "method" || Value.type "builtin_function_or_method" == Value.type "builtin_function_or_method" || Value.type "builtin_function_or_method" == Value.type "method-wrapper") = true by decide, if_true]
  refine KFB.if_so (by decide) ?_
  refine wpAny_bind (wp_check_append ho ?_)
  refine wpAny_bind (wpAny_pure (wpAny_pure ?_))
  refine ⟨quiet_append, codeAny_builtin entry_list_append ?_⟩
  show wpAny _ _ (updateSeq a (·.push v) >>= fun _ => ret .none) _ _ s
  refine wpAny_bind ?_
  refine wpAny_updateSeq ho rfl (wpAny_pure (h _ (Heap.SameBut.update ..) ?_))
  rw [Heap.get?_update_self _ ho (by rw [PyProof.Rows.mapSeq_push]; rfl), PyProof.Rows.mapSeq_push]
theorem callWith_bound {pos : Pos} {u : Addr} {o : Obj} {vs : Array Value} {args : List (Bool × Sem Value)} {Q : Value → Shared → Prop} (hplain : args.any (·.1) = false)
    (h : wpAny (model prog w) A (evalArgs (.ref u) true args []) (fun x s₁ => (s₁.heap.get? u = some o ∧ o.cls = .type "builtin_function_or_method" ∧ o.data = .fields vs) ∧ wpAny (model prog w) A (call (.ref u) x.pos x.kw) Q E s₁) E s) : wpAny (model prog w) A (callWith pos (.ref u) [] args []) Q E s := by
  unfold callWith
  refine wpAny_bind (wpAny_holding (wpAny_mono h (fun x s₁ h₁ => wpAny_bind (wpAny_standAt ?_)) fun _ _ x => x))
  obtain ⟨⟨ho, hc, hd⟩, hcall⟩ := h₁
  simp only [hplain, List.any_nil, Bool.or_false]
  refine wpAny_bind (m := keeperOf (.ref u)) ?_
  unfold keeperOf
  refine wpAny_bind (wpAny_load ho ?_)
  rw [hd, hc]
  simp only [show (Value.type "builtin_function_or_method" != Value.type "method") = true by decide, show (Value.type "builtin_function_or_method" == Value.type "builtin_function_or_method" || Value.type "builtin_function_or_method" == Value.type "method-wrapper") = true by decide, if_true]
  refine wpAny_pure ?_
  exact wpAny_bind (wpAny_mono hcall (fun r s₂ hr => wpAny_bind (wpAny_holding (wpAny_point (wpAny_pure hr)))) fun _ _ x => x)
end
section
variable {W : Wo} {n : Nat} {sc : Scope} {σ σ' : Store}
/-- x = y.append -/
theorem Runs.assignApp {x y : Str} {p q apos pos : Pos} {ds : List V} (hm : (y, Slot.own ds) ∈ σ) (hp : Put x (.app y) σ σ') (hn : noApp x σ) (hs : ∀ env, swapsWith (.Attribute (.Name y q) "append" apos) (some (.Name x p)) pos.line env = pure false) :
    Runs W n sc (.Assign [.Name x p] (.Attribute (.Name y q) "append" apos) pos) σ (.next σ') :=
  ⟨fun env he A hA base out hot oa s Q E F k => by
    refine wpAny_Assign_Name ?_ (hs env)
    rw [arm_eval_Attribute]
    obtain ⟨items, _, ⟨m, hl⟩, hr, ha, _⟩ := F.vars _ hm
    refine wpAny_bind (m := attributeBase (.Name y q) "append" env (eval (.Name y q) env)) ?_
    show wpAny _ A (eval (.Name y q) env) _ _ s
    refine F.ownVar hm (wpAny_bind (wpAny_standAt (wpAny_bind (wpAny_holding (getAttr_append hl fun tk => ?_)))))
    refine wpAny_bind (wpAny_pure (wpAny_pure ?_))
    have g : Grow s { s with heap := s.heap.push (boundObj (oa y)), toks := tk } := .mk' fun b o e => Heap.get?_push_of_some _ e
    have F₁ := F.grown g
    have hb : ¬ hot s.heap.objs.size := newIsHot F.alive
    have eb : (s.heap.push (boundObj (oa y))).get? s.heap.objs.size = some (boundObj (oa y)) := Heap.get?_push_size _ rfl
    refine F₁.storeAny (oa' := oa) (hot' := hot) hp (fun _ h => h) F₁.hotnew F₁.alive (fun _ _ h => h) (fun _ _ h => h) (fun _ _ => rfl) (fun p' hp' z hz _ => ⟨fun e => hn p' hp' (by rw [hz, e]), fun _ _ h => h⟩) (fun h => nomatch h) (fun h' hh hv => ?_) fun s' F' => k _ _ ⟨rfl, hot, oa, F'⟩
    refine ⟨s.heap.objs.size, hv, ⟨boundObj (oa y), ?_, rfl, rfl⟩, hb⟩
    rw [hh _ (fun e => hb (by rw [e]; exact F.nshot)) fun c hc hcc e => hb ?_]
    · exact eb
    · obtain ⟨p', hp', e'⟩ := List.mem_map.mp hp.mem
      obtain ⟨c', _, h1, _, _, _, h5⟩ := F.cl p' hp' (by rw [e']; exact hc)
      rw [e', hcc] at h1
      cases h1
      rw [e]; exact h5⟩
/-- x(e), x being y.append -/
theorem Runs.addCall {x y : Str} {p pos pos' : Pos} {e : PySem.Expr} {ds : List V} {d : V} (hx : (x, Slot.app y) ∈ σ) (hm : (y, Slot.own ds) ∈ σ) (h : Ev W n sc σ e d) (hp : Put y (.own (ds ++ [d])) σ σ') (hz : ds.length ≤ 1000000)
    (hn : ∀ env, starEach [e] env = (false, eval e env) :: starEach [] env) :
    Runs W n sc (.Expr (.Call (.Name x p) [e] [] pos) pos') σ (.next σ') :=
  ⟨fun env he A hA base out hot oa s Q E F k => by
    have hone : Evs W n sc σ [e] [d] := Evs.cons h .nil hn
    refine wpAny_Expr_any (wpAny_Call_NameR ?_) F.notInter rfl
    obtain ⟨b, hvb, ⟨o, ho, hoc, hod⟩, nb⟩ := F.vars _ hx
    have ev : ∀ {Q : Value → Shared → Prop} {E : Value → Shared → Prop}, Q (.ref b) s → wpAny (model W.prog W.w) A (eval (.Name x p) env) Q E s := by
      intro Q E hq
      have hd := isVar_1 (F.isv _ hx)
      rcases hvb with ⟨a, m, hn, hmx⟩ | ⟨a | a, c, hc, hcv⟩
      · exact wpAny_Name (wpAny_loadName_local F.kind a hn hmx hq) hd
      · exact wpAny_Name (wpAny_loadName_cell F.kind a hc hcv hq) hd
      · exact wpAny_Name (wpAny_loadName_free F.kind a hc hcv hq (isVar_2 (F.isv _ hx))) hd
    refine ev ?_
    refine callWith_bound (o := o) (vs := #[.builtin "list.append", .ref (oa y)]) (hone.plain env pos).1 (evalArgs_any (hone.plain env pos).1 (hone.run env he A hA s hot _ E pos F.good fun vs s₁ g r => ?_))
    refine ⟨⟨g.sub _ _ ho, hoc, hod⟩, ?_⟩
    unfold Rds at r; obtain ⟨v, r', rfl, hv, hv'⟩ := r; unfold Rds at hv'; subst hv'
    have F₁ := F.grown g
    obtain ⟨items, _, ⟨m, hl⟩, hr, _⟩ := F₁.vars _ hm
    have hz' : items.size ≤ sizeLine := by have := hr.length; rw [Array.length_toList] at this; rw [this, sizeLine_eq]; omega
    refine call_bound (g.sub _ _ ho) hoc hod hl hz' fun h' hs' ho' => k _ _ ⟨rfl, hot, oa, F₁.writeOwn hm hp hs' ⟨_, ho'⟩ ?_⟩
    rw [Array.toList_push]
    exact hr.app (.cons hv .nil)⟩
end
end Mine
open PySem PySem.W PyProof.Rows
set_option Elab.async false
set_option maxRecDepth 100000
set_option linter.unusedVariables false
namespace Mine
theorem ob_mro : mroOf (.type "object") = pure [.type "object"] := by rw [mroOf_type]; kernel_rfl
theorem ob_lookup_new : typeLookup (.type "object") "__new__" = pure (some (.builtin "object.__new__")) := by rw [typeLookup_type, builtinLookup_eq_fast]; kernel_rfl
theorem ob_slot_init : PySem.Slot "object" "__init__" "object.__init__" :=
  .of (owner := "object") (n := "__init__") (by rw [typeLookup_type, builtinLookup_eq_fast]; kernel_rfl) (by decide +kernel) (by decide +kernel) (by decide +kernel)
    (by first | exact .inl (by decide +kernel) | exact .inr (by decide +kernel)) (by rw [isSubtype_type]; kernel_rfl)
theorem ob_called : TypeCalled "object" "object.__new__" "object.__init__" :=
  ⟨by decide +kernel, by decide +kernel, ⟨_, _, ob_mro⟩, madeBy_type ob_mro ob_lookup_new (by decide +kernel), by decide +kernel, by rw [isSubtype_type]; kernel_rfl, ob_slot_init⟩
theorem ob_typeCall : checkTypeCall "object" ⟨[], []⟩ = pure () := by kernel_rfl
theorem ob_newCall : checkBuiltinCall "object.__new__" ⟨[.type "object"], []⟩ = pure () := by kernel_rfl
theorem ob_initArgs (v : Value) : argsOk "object.__init__" ⟨[v], []⟩ := by
  unfold argsOk; kernel_rfl
theorem ob_init (self : Value) : Meets (Builtin.«object.__init__» ⟨[self], []⟩) (fun _ R s => R (.ok (.ret .none)) s) := Meets.of_wp fun prog w A R s hq => wpAny_pure ⟨_, rfl, hq⟩
theorem ob_new : Meets (Builtin.«object.__new__» ⟨[.type "object"], []⟩) (fun A R s => R (.ok (.ret (.ref s.heap.objs.size))) { s with heap := s.heap.push { cls := .type "object", data := .plain } }) :=
  Meets.of_wp fun prog w A R s hq => by
    obtain ⟨hp, g, d, tk, os⟩ := s
    unfold Builtin.«object.__new__»
    refine wpAny_bind (wpAny_of_eq (a := true) (by first | rfl | kernel_rfl) ?_)
    refine KFB.if_not rfl ?_
    refine KFB.if_not (by decide +kernel) ?_
    refine wpAny_bind (wpAny_of_eq (a := ()) (by first | rfl | kernel_rfl) ?_)
    refine KFB.if_not rfl ?_
    refine KFB.if_not (c := typeHasDict (Value.type "object")) (by decide +kernel) ?_
    refine wpAny_bind (wpAny_pure ?_)
    refine wpAny_bind (wpAny_newObj_type ?_)
    refine KFB.if_not (c := diesByItsTypesDel "object") (by decide +kernel) ?_
    exact wpAny_pure ⟨_, rfl, hq⟩
theorem ob_entry : entryFor table "object.__new__" = some Builtin.«object.__new__» := entryFor_of_tree (by kernel_rfl)
theorem call_object {prog : Program} {w : World} {A : Around} {E : Value → Shared → Prop} {s : Shared} {Q : Value → Shared → Prop}
    (h : Q (.ref s.heap.objs.size) { s with heap := s.heap.push { cls := .type "object", data := .plain } }) : wpAny (model prog w) A (call (.type "object") []) Q E s :=
  callType_meets (Q₁ := fun obj s₁ => obj = .ref s.heap.objs.size ∧ s₁ = { s with heap := s.heap.push { cls := .type "object", data := .plain } }) ob_called ob_typeCall ob_newCall ob_entry F.entry_object_init ob_new ⟨rfl, rfl⟩ fun obj s₁ hq => by
    obtain ⟨rfl, rfl⟩ := hq
    exact ⟨⟨_, Heap.get?_push_size _ rfl, rfl⟩, ob_initArgs _, _, ob_init _, rfl, h⟩
section
variable {W : Wo} {n : Nat}
theorem CallOk.object : CallOk W n (.type "object") [] .obj := by
  intro A hA s hot vs Q E _ al r k
  unfold Rds at r; subst r
  exact call_object (k _ _ ⟨fun b o e => Heap.get?_push_of_some _ e, rfl, fun e => e⟩ mk_obj)
theorem CmpOk.isNot_obj {l : List Nat} : CmpOk W .IsNot (.str l) .obj true := by
  intro A hA s hot v₁ v₂ Q E _ _ r1 r2 k
  obtain ⟨t, rfl⟩ := rd_str r1
  obtain ⟨a, rfl⟩ := rd_obj r2
  exact wpAny_isNot_other rfl (fun e => nomatch e) (k s (.refl s))
end
end Mine
open PySem PySem.W PyProof.Rows
set_option Elab.async false
set_option linter.unusedVariables false
namespace Mine
section
variable {W : Wo} {n : Nat} {sc : Scope} {σ σ' : Store}
theorem RunsL.forget {sts : List Stmt} {r : Res} (hw : Wk σ σ') (h : RunsL W n sc sts σ' r) : RunsL W n sc sts σ r :=
  ⟨fun env he A hA base out hot oa s Q E F k => h.run env he A hA base out hot oa s Q E (F.forget hw) k⟩
theorem WhL.inv {t : PySem.Expr} {body : List Stmt} (P : Nat → Store → Prop) (N : Nat) (step : ∀ i σ, i < N → P i σ → EvT W n sc σ t true ∧ ∃ σ', RunsL W n sc body σ (.next σ') ∧ P (i + 1) σ') (last : ∀ σ, P N σ → EvT W n sc σ t false) :
    ∀ (k i : Nat) (σ : Store), i + k = N → P i σ → ∃ σ', P N σ' ∧ WhL W n sc t body k σ (.next σ')
  | 0, i, σ, e, h => by
    have : i = N := by omega
    subst this
    exact ⟨σ, h, .done (last σ h)⟩
  | k + 1, i, σ, e, h => by
    obtain ⟨h1, σ', h2, h3⟩ := step i σ (by omega) h
    obtain ⟨σ₂, h4, h5⟩ := WhL.inv P N step last k (i + 1) σ' (by omega) h3
    exact ⟨σ₂, h4, .next h1 h2 h5⟩
theorem RunsL.whileInv {t : PySem.Expr} {body : List Stmt} {pos : Pos} {sts : List Stmt} {r : Res} (P : Nat → Store → Prop) (N : Nat) (h0 : P 0 σ) (step : ∀ i σ, i < N → P i σ → EvT W n sc σ t true ∧ ∃ σ', RunsL W n sc body σ (.next σ') ∧ P (i + 1) σ') (last : ∀ σ, P N σ → EvT W n sc σ t false)
    (rest : ∀ σ, P N σ → RunsL W n sc sts σ r) : RunsL W n sc (.While t body [] pos :: sts) σ r := by
  obtain ⟨σ', h1, h2⟩ := WhL.inv P N step last N 0 σ (by omega) h0
  exact RunsL.cons (Runs.while h2) (rest σ' h1)
/-- f'a{e}b' -/
theorem Ev.fstr {a b : String} {j1 j2 : Nat} {p1 p2 p3 pos : Pos} {e : PySem.Expr} {l : List Nat} (h : Ev W n sc σ e (.str l)) (hz : (L a).length + l.length + (L b).length ≤ 1000000) :
    Ev W n sc σ (.JoinedStr [.Constant (.str (Str.ofString a)) j1 p1, .FormattedValue e (-1) Option.none p2, .Constant (.str (Str.ofString b)) j2 p3] pos) (.str (L a ++ l ++ L b)) :=
  ⟨fun env he A hA s hot Q E g k => by
    refine wpAny_JoinedStr ?_
    show Joins _ _ _ [eval (.Constant (.str (Str.ofString a)) j1 p1) env, eval (.FormattedValue e (-1) Option.none p2) env, eval (.Constant (.str (Str.ofString b)) j2 p3) env] Str.empty _ s
    have ea : Str.empty ++ Str.ofString a = St (L a) := by rw [Str.empty_append, ofString_L]
    have eb : St (L a ++ l) ++ Str.ofString b = St (L a ++ l ++ L b) := by rw [ofString_L b, St_app]
    unfold Joins
    refine @wpAny_mkText _ _ _ _ _ _ ?_
    refine ⟨_, _, rfl, by rw [ea, St_len, sizeLine_eq]; omega, ?_⟩
    rw [ea]
    unfold Joins
    have g₁ : Grow s { s with toks := s.toks + 1 } := .tok
    refine wpAny_FormattedValue_plain (h.run env he A hA _ hot _ E (g.grow g₁) fun v s₂ g₂ r₂ => ?_)
    obtain ⟨t, rfl⟩ := rd_str r₂
    have fin : ∀ s₃ : Shared, Grow s₂ s₃ → ∃ y u, (Value.str (St l) t : Value) = .str y u ∧ (St (L a) ++ y).length ≤ sizeLine ∧ Joins (model W.prog W.w) A E [eval (.Constant (.str (Str.ofString b)) j2 p3) env] (St (L a) ++ y) (fun out s₁ => out.length ≤ sizeLine ∧ Q (.str out s₁.toks) { s₁ with toks := s₁.toks + 1 }) s₃ := by
      intro s₃ g₃
      refine ⟨St l, t, rfl, by rw [St_app, St_len, List.length_append, sizeLine_eq]; omega, ?_⟩
      rw [St_app]
      unfold Joins
      refine @wpAny_mkText _ _ _ _ _ _ ?_
      refine ⟨_, _, rfl, by rw [eb, St_len, sizeLine_eq]; simp only [List.length_append]; omega, ?_⟩
      rw [eb]
      unfold Joins
      exact ⟨by rw [St_len, sizeLine_eq]; simp only [List.length_append]; omega, k _ _ ((((g₁.trans g₂).trans g₃).trans .tok).trans .tok) mk_str⟩
    refine wpAny_formatField_str (fin s₂ (.refl _)) ?_ (by rw [St_len, sizeLine_eq]; omega)
    obtain ⟨y, u, e1, e2, e3⟩ := fin { s₂ with toks := s₂.toks + 1 } .tok
    cases e1
    exact ⟨St l, s₂.toks, rfl, e2, e3⟩⟩
end
end Mine
open PySem PySem.W PyProof.Rows
set_option Elab.async false
set_option linter.unusedVariables false
set_option maxRecDepth 100000
namespace Mine
open PySem.Sre
def sp (c : Nat) : Bool := c == 38 || c == 124 || c == 126
theorem bits_sp (c : Nat) (h : c < 256) : (reCode.getD (5 + (1 + c / 32)) 0).testBit (c % 32) = sp c := by
  have : ∀ c : Fin 256, (reCode.getD (5 + (1 + c.val / 32)) 0).testBit (c.val % 32) = sp c.val := by decide +kernel
  exact this ⟨c, h⟩
theorem bits_sp2 (c : Nat) (h : c < 256) : (reCode.getD (19 + (1 + c / 32)) 0).testBit (c % 32) = sp c := by
  have : ∀ c : Fin 256, (reCode.getD (19 + (1 + c.val / 32)) 0).testBit (c.val % 32) = sp c.val := by decide +kernel
  exact this ⟨c, h⟩
theorem sp_lt {c : Nat} (h : ¬ c < 256) : sp c = false := by
  unfold sp; simp; omega
theorem inSet_5 (c : Nat) (seen : Sre.Seen) : ∃ seen', inSet reCode c 32 5 true seen = .ok (sp c, seen') := by
  have e : inSet reCode c 32 5 true seen = if (decide (c < 256) && (reCode.getD (5 + (1 + c / 32)) 0).testBit (c % 32)) = true then .ok (true, seen.add (reCode.getD (5 + 0) 0)) else inSet reCode c 31 14 true (seen.add (reCode.getD (5 + 0) 0)) := by kernel_rfl
  rw [e]
  by_cases hc : c < 256
  · rw [decide_eq_true hc, Bool.true_and, bits_sp c hc]
    cases sp c with
    | true => exact ⟨_, rfl⟩
    | false => exact ⟨_, rfl⟩
  · rw [decide_eq_false hc, sp_lt hc]
    exact ⟨_, rfl⟩
theorem inSet_19 (c : Nat) (seen : Sre.Seen) : ∃ seen', inSet reCode c 32 19 true seen = .ok (sp c, seen') := by
  have e : inSet reCode c 32 19 true seen = if (decide (c < 256) && (reCode.getD (19 + (1 + c / 32)) 0).testBit (c % 32)) = true then .ok (true, seen.add (reCode.getD (19 + 0) 0)) else inSet reCode c 31 28 true (seen.add (reCode.getD (19 + 0) 0)) := by kernel_rfl
  rw [e]
  by_cases hc : c < 256
  · rw [decide_eq_true hc, Bool.true_and, bits_sp2 c hc]
    cases sp c with
    | true => exact ⟨_, rfl⟩
    | false => exact ⟨_, rfl⟩
  · rw [decide_eq_false hc, sp_lt hc]
    exact ⟨_, rfl⟩
/-- where the next sign of the set stands -/
def nextAt (text : Array Nat) : (fuel s : Nat) → Option Nat
  | 0, _ => none
  | fuel + 1, s => if s ≥ text.size then none else if sp (text.getD s 0) then some s else nextAt text fuel (s + 1)
theorem admitted_eq (m : M) (hc : m.code = reCode) (hl : m.lim = m.text.size) : ∀ (fuel s : Nat) (seen : Sre.Seen), ∃ seen', M.admitted m fuel s seen = .ok (nextAt m.text fuel s, seen')
  | 0, s, seen => ⟨seen, rfl⟩
  | fuel + 1, s, seen => by
    unfold M.admitted nextAt
    rw [hl]
    by_cases h : s ≥ m.text.size
    · rw [if_pos h, if_pos h]; exact ⟨_, rfl⟩
    · rw [if_neg h, if_neg h, hc, show reCode.size = 32 from rfl]
      obtain ⟨seen', e⟩ := inSet_5 (m.text.getD s 0) seen
      rw [e]
      cases hs : sp (m.text.getD s 0) with
      | true => exact ⟨_, rfl⟩
      | false =>
        simp only [Bool.false_eq_true, if_false]
        exact admitted_eq m hc hl fuel (s + 1) seen'
/-- the machine at a sign of the set, before its first step -/
def mAt (text : Array Nat) (j : Nat) (seen : Sre.Seen) (mu : Bool) : M :=
  { code := reCode, text, lim := text.size, start := j, lastStart := text.size, pc := 15, pos := j, handed := j, marks := #[none, none], mustAdvance := mu, seen, outermost := true,
    frames := [{ wait := .nextStart, pc := 15, pos := j, outermost := true }], weight := 1 }
def m00 (text : Array Nat) (d : Nat) : M :=
  { code := reCode, text, lim := text.size, start := d, pc := 15, pos := d, handed := d, marks := #[none, none], mustAdvance := false, seen := ({} : Sre.Seen).add 14, lastStart := text.size }
theorem search_from (text : Array Nat) (d : Nat) (hd : d < text.size) : forSearch reCode text 1 d text.size false = (m00 text d).attemptFrom d true := by
  unfold forSearch
  have h1 : (header reCode).1 = 1 := rfl
  simp only [h1]
  rw [if_neg (by simp; omega)]
  simp only [show ¬ ((1 : Nat) > 1) by decide, decide_false, Bool.false_and, Bool.false_eq_true, if_false]
  rfl
theorem search_end (text : Array Nat) : (forSearch reCode text 1 text.size text.size false) = { m00 text text.size with answer := some false, lastStart := 0 } := by
  unfold forSearch
  have h1 : (header reCode).1 = 1 := rfl
  simp only [h1]
  rw [if_pos (by simp)]
  rfl
theorem search_eq (text : Array Nat) (d : Nat) (hd : d < text.size) : ∃ seen, forSearch reCode text 1 d text.size false = match nextAt text (text.size + 1 - d) d with
    | some j => mAt text j seen false
    | none => { m00 text d with seen, answer := some false } := by
  rw [search_from text d hd]
  obtain ⟨seen, e⟩ := admitted_eq (m00 text d) rfl rfl (text.size + 1 - d) d (m00 text d).seen
  refine ⟨seen, ?_⟩
  unfold M.attemptFrom
  have hf : (m00 text d).hasFirstSet = true := rfl
  rw [hf]
  simp only [Bool.not_true, Bool.false_eq_true, if_false]
  have e' : M.admitted (m00 text d) ((m00 text d).lim + 1 - d) d (m00 text d).seen = .ok (nextAt text (text.size + 1 - d) d, seen) := e
  rw [e']
  cases nextAt text (text.size + 1 - d) d with
  | none => rfl
  | some j =>
    simp only
    unfold M.attemptAt M.attempt
    rw [if_neg (by show ¬ (0 + 1 + 0 > 16777216); decide)]
    rfl
/-- four steps, and four more -/
theorem run_1 (text : Array Nat) (j : Nat) (seen : Sre.Seen) (hj : j < text.size) (hs : sp (text.getD j 0) = true) : ∃ seen', (mAt text j seen false).runFor 4 =
    { mAt text j seen' false with pc := 31, pos := j + 1, handed := j + 1, marks := #[some j, some (j + 1)], lastmark := 1, lastindex := 1, answer := some true } := by
  have ops17 : ops[17]? = some Op.MARK := rfl
  have ops13 : ops[13]? = some Op.IN := rfl
  have ops1 : ops[1]? = some Op.SUCCESS := rfl
  have s1 : (mAt text j seen false).step = { mAt text j (seen.add 17) false with pc := 17, marks := #[some j, none], lastmark := 0 } := by
    unfold M.step
    show (if 15 < reCode.size then M.exec (mAt text j seen false) else M.stick (mAt text j seen false) "code:ran-off") = _
    rw [if_pos (by decide)]
    rfl
  obtain ⟨sn, e2⟩ := inSet_19 (text.getD j 0) ((seen.add 17).add 13)
  rw [hs] at e2
  have s2 : M.step { mAt text j (seen.add 17) false with pc := 17, marks := #[some j, none], lastmark := 0 } = { mAt text j sn false with pc := 29, pos := j + 1, marks := #[some j, none], lastmark := 0 } := by
    unfold M.step
    show (if 17 < reCode.size then M.exec { mAt text j (seen.add 17) false with pc := 17, marks := #[some j, none], lastmark := 0 } else M.stick { mAt text j (seen.add 17) false with pc := 17, marks := #[some j, none], lastmark := 0 } "code:ran-off") = _
    rw [if_pos (by decide)]
    let m' : M := { mAt text j ((seen.add 17).add 13) false with pc := 17, marks := #[some j, none], lastmark := 0 }
    have acc : accepts reCode 17 (text.getD j 0) ((seen.add 17).add 13) = .ok (true, sn) := e2
    show (if j ≥ text.size then m'.say false else match accepts reCode 17 (text.getD j 0) ((seen.add 17).add 13) with
      | .error why => m'.stick why
      | .ok (false, seen) => M.say { m' with seen } false
      | .ok (true, seen) => { m' with seen, pc := 17 + itemWidth reCode 17, pos := j + 1 }) = _
    rw [if_neg (by omega), acc]
    rfl
  have s3 : M.step { mAt text j sn false with pc := 29, pos := j + 1, marks := #[some j, none], lastmark := 0 } = { mAt text j (sn.add 17) false with pc := 31, pos := j + 1, marks := #[some j, some (j + 1)], lastmark := 1, lastindex := 1 } := by
    unfold M.step
    show (if 29 < reCode.size then M.exec { mAt text j sn false with pc := 29, pos := j + 1, marks := #[some j, none], lastmark := 0 } else M.stick { mAt text j sn false with pc := 29, pos := j + 1, marks := #[some j, none], lastmark := 0 } "code:ran-off") = _
    rw [if_pos (by decide)]
    have e : M.exec { mAt text j sn false with pc := 29, pos := j + 1, marks := #[some j, none], lastmark := 0 } = M.mark { mAt text j (sn.add 17) false with pc := 29, pos := j + 1, marks := #[some j, none], lastmark := 0 } 1 := rfl
    rw [e]
    unfold M.mark
    dsimp only
    rw [if_pos (by show ((1 : Nat) : Int) ≤ 0 + 1; decide)]
    rfl
  have s4 : M.step { mAt text j (sn.add 17) false with pc := 31, pos := j + 1, marks := #[some j, some (j + 1)], lastmark := 1, lastindex := 1 } = { mAt text j ((sn.add 17).add 1) false with pc := 31, pos := j + 1, handed := j + 1, marks := #[some j, some (j + 1)], lastmark := 1, lastindex := 1, answer := some true } := by
    unfold M.step
    show (if 31 < reCode.size then M.exec { mAt text j (sn.add 17) false with pc := 31, pos := j + 1, marks := #[some j, some (j + 1)], lastmark := 1, lastindex := 1 } else M.stick { mAt text j (sn.add 17) false with pc := 31, pos := j + 1, marks := #[some j, some (j + 1)], lastmark := 1, lastindex := 1 } "code:ran-off") = _
    rw [if_pos (by decide)]
    rfl
  refine ⟨(sn.add 17).add 1, ?_⟩
  show M.runFor 4 _ = _
  unfold M.runFor
  rw [if_neg (by simp [mAt]), s1]
  unfold M.runFor
  rw [if_neg (by simp [mAt]), s2]
  unfold M.runFor
  rw [if_neg (by simp [mAt]), s3]
  unfold M.runFor
  rw [if_neg (by simp [mAt]), s4]
  rfl
theorem run_2 (text : Array Nat) (j : Nat) (seen : Sre.Seen) : M.runFor 4 { mAt text j seen false with pc := 31, pos := j + 1, handed := j + 1, marks := #[some j, some (j + 1)], lastmark := 1, lastindex := 1, answer := some true } =
    { mAt text j seen false with pc := 15, pos := j, handed := j + 1, marks := #[some j, some (j + 1)], lastmark := 1, lastindex := 1, answer := some true, frames := [], weight := 0, outcome := some .matched } := rfl
theorem run_3 (text : Array Nat) (d : Nat) (m : M) (h1 : m.answer = some false) (h2 : m.frames = []) (h3 : m.outcome = none) : M.runFor 4 m = { m with outcome := some .failed } := by
  obtain ⟨code, text, lim, start, lastStart, wholeText, mustAdvance, pc, pos, handed, outermost, marks, lastmark, lastindex, loops, inner, frames, weight, answer, seen, outcome⟩ := m
  simp only at h1 h2 h3
  subst h1 h2 h3
  rfl
end Mine
open PySem PySem.W PyProof.Rows
set_option Elab.async false
set_option linter.unusedVariables false
set_option maxRecDepth 100000
namespace Mine
open PySem.Sre PySem.Builtin.Re
section
variable {M' : Model} {A : Around} {E : Value → Shared → Prop} {s : Shared}
theorem drive_succ (k : Nat) (m : M) : reDrive (k + 1) m = (if (m.runFor 4).outcome.isSome then pure (m.runFor 4) else do rule "sre.turn"; reDrive k (m.runFor 4)) := rfl
theorem for_quiet {l : List Nat} {f : Nat → Unit → Sem (ForInStep Unit)} (hf : ∀ i s (Q : ForInStep Unit → Shared → Prop), Q (.yield ()) s → wpAny M' A (f i ()) Q E s) : ∀ {Q : Unit → Shared → Prop}, Q () s → wpAny M' A (forIn l () f) Q E s := by
  induction l with
  | nil => intro Q h; exact wpAny_pure h
  | cons i l ih =>
    intro Q h
    rw [List.forIn_cons]
    exact wpAny_bind (hf i s _ (ih h))
theorem big : (2 : Nat) ^ 64 = 18446744073709551614 + 1 + 1 := by decide
theorem run_end {m m' : M} {o : Sre.Outcome} {Q : Option M → Shared → Prop} (hd : ∀ {Q : M → Shared → Prop}, Q m' s → wpAny M' A (reDrive (2 ^ 64) m) Q E s) (ho : m'.outcome = some o)
    (h : match o with | .matched => Q (some m') s | .failed => Q none s | .stuck _ => False) : wpAny M' A (reRunToEnd m) Q E s := by
  unfold reRunToEnd
  refine wpAny_bind (hd ?_)
  refine wpAny_bind (for_quiet (fun i s Q h => ?_) ?_)
  · cases hc : m'.seen.has i with
    | true => exact wpAny_bind (wpAny_rule (wpAny_pure h))
    | false => exact wpAny_pure h
  · rw [ho]
    cases o with
    | matched => exact wpAny_pure h
    | failed => exact wpAny_pure h
    | stuck why => exact h.elim
theorem found_run {text : Array Nat} {j : Nat} {seen : Sre.Seen} (hj : j < text.size) (hs : sp (text.getD j 0) = true) {Q : Option M → Shared → Prop}
    (h : ∀ m : M, m.start = j → m.handed = j + 1 → m.marks = #[some j, some (j + 1)] → m.lastmark = 1 → m.lastindex = 1 → Q (some m) s) : wpAny M' A (reRunToEnd (mAt text j seen false)) Q E s := by
  obtain ⟨sn, e⟩ := run_1 text j seen hj hs
  refine run_end (m' := { mAt text j sn false with pc := 15, pos := j, handed := j + 1, marks := #[some j, some (j + 1)], lastmark := 1, lastindex := 1, answer := some true, frames := [], weight := 0, outcome := some .matched }) (o := .matched) ?_ rfl (h _ rfl rfl rfl rfl rfl)
  intro Q h
  rw [big, drive_succ, e]
  refine KFB.if_not rfl ?_
  refine wpAny_bind (wpAny_rule ?_)
  rw [drive_succ, run_2]
  exact KFB.if_so rfl (wpAny_pure h)
theorem none_run {m : M} (h1 : m.answer = some false) (h2 : m.frames = []) (h3 : m.outcome = none) {Q : Option M → Shared → Prop} (h : Q none s) : wpAny M' A (reRunToEnd m) Q E s := by
  refine run_end (m' := { m with outcome := some .failed }) (o := .failed) ?_ rfl h
  intro Q h
  rw [big, drive_succ, run_3 #[] 0 m h1 h2 h3]
  exact KFB.if_so rfl (wpAny_pure h)
theorem next_found {t : ReTarget} {d : Nat} (hc : t.code = reCode) (hg : t.groups = 1) (hl : t.lim = t.text.size) (hd : d ≤ t.text.size) {Q : Option M → Shared → Prop}
    (h1 : ∀ j, nextAt t.text (t.text.size + 1 - d) d = some j → ∀ m : M, m.start = j → m.handed = j + 1 → m.marks = #[some j, some (j + 1)] → m.lastmark = 1 → m.lastindex = 1 → Q (some m) s)
    (h2 : nextAt t.text (t.text.size + 1 - d) d = none → Q none s) : wpAny M' A (reNextFound t d false) Q E s := by
  unfold reNextFound
  rw [hc, hg, hl]
  by_cases hlt : d < t.text.size
  · obtain ⟨seen, e⟩ := search_eq t.text d hlt
    rw [e]
    cases hn : nextAt t.text (t.text.size + 1 - d) d with
    | none => exact none_run rfl rfl rfl (h2 hn)
    | some j =>
      have : ∀ fuel d, nextAt t.text fuel d = some j → j < t.text.size ∧ sp (t.text.getD j 0) = true := by
        intro fuel
        induction fuel with
        | zero => intro d h; cases h
        | succ fuel ih =>
          intro d h
          unfold nextAt at h
          split at h
          · cases h
          · split at h
            · cases h; exact ⟨by omega, by assumption⟩
            · exact ih _ h
      obtain ⟨a, b⟩ := this _ _ hn
      exact found_run a b (h1 j hn)
  · have : d = t.text.size := by omega
    subst this
    rw [search_end]
    refine none_run rfl rfl rfl (h2 ?_)
    rw [show t.text.size + 1 - t.text.size = 0 + 1 by omega]
    unfold nextAt
    rw [if_pos (Nat.le_refl _)]
end
end Mine
open PySem PySem.W PyProof.Rows
set_option Elab.async false
set_option linter.unusedVariables false
namespace Mine
theorem mem_two {α : Type} {P : α → Prop} {a b : α} (h1 : P a) (h2 : P b) : ∀ x, x ∈ [a, b] → P x
  | _, .head _ => h1
  | _, .tail _ (.head _) => h2
theorem mem_three {α : Type} {P : α → Prop} {a b c : α} (h1 : P a) (h2 : P b) (h3 : P c) : ∀ x, x ∈ [a, b, c] → P x
  | _, .head _ => h1
  | _, .tail _ (.head _) => h2
  | _, .tail _ (.tail _ (.head _)) => h3
theorem nat_succ_ne (n : Nat) : n + 1 ≠ n := Nat.succ_ne_self n
theorem nat_lt_ne {a b : Nat} (h : a < b) : a ≠ b := Nat.ne_of_lt h
/-- an enumerate over a list of data -/
structure EnI (W : Wo) (A : Around) (hot : Addr → Prop) (s₀ s : Shared) (e it l : Addr) (items : Array Value) (xs : List V) : Prop where
  hei : e ≠ it
  hle : l ≠ e
  hli : l ≠ it
  st : (∃ old, IsEnum s.heap e it 0 old) ∧ s.heap.IsListIter it l 0 ∧ s.heap.IsList l items
  nl : ¬ hot l
  fe : s₀.heap.get? e = none
  fi : s₀.heap.get? it = none
  rd : Rds s₀.heap hot xs items.toList
section
variable {W : Wo} {n : Nat} {sc : Scope} {σ σ' : Store} {env : Env} {A : Around} {elts : List PySem.Expr} {ek : Nat} {ep : Pos} {body : List Stmt} {base : Shared} {out hot : Addr → Prop} {oa : Str → Addr} {s : Shared}
def enSt (e it l : Addr) (items : Array Value) (i : Nat) (h : Heap) : Prop := (∃ old, IsEnum h e it i old) ∧ h.IsListIter it l i ∧ h.IsList l items
def EnInv (W : Wo) (n : Nat) (sc : Scope) (env : Env) (t : PySem.Expr) (body : List Stmt) (xs : List V) (r : Res) (base : Shared) (out : Addr → Prop) (e it l : Addr) (items : Array Value) (m : Nat) (s : Shared) : Prop :=
  ∃ i σ hot oa, i ≤ xs.length ∧ m = xs.length - i ∧ ForL W n sc t body ((xs.zipIdx.map fun p => V.tup [.int (p.2 : Nat), p.1]).drop i) σ r ∧ Fm W env base out hot oa σ s ∧ enSt e it l items i s.heap ∧ (∀ b ∈ [e, it, l], b ∉ mutL env σ oa) ∧ hot e ∧ hot it ∧ base.heap.get? e = none ∧ base.heap.get? it = none ∧
    Rds s.heap hot xs items.toList
theorem enSt.live {e it l : Addr} {items : Array Value} {i : Nat} {h : Heap} (st : enSt e it l items i h) : ∀ b ∈ [e, it, l], ∃ o, h.get? b = some o := by
  obtain ⟨⟨old, h1⟩, ⟨o, h2, _⟩, ⟨o', h3, _⟩⟩ := st
  intro b hb
  simp only [List.mem_cons, List.not_mem_nil, or_false] at hb
  rcases hb with rfl | rfl | rfl
  · exact ⟨_, h1⟩
  · exact ⟨_, h2⟩
  · exact ⟨_, h3⟩
theorem en_loop {n : Nat} {σ : Store} {xs : List V} {r : Res} {s₀ : Shared} {e it l : Addr} {items : Array Value} {R : Result → Shared → Prop} (he : env.scope = sc) (hA : Room A n)
    (hL : ForL W n sc (.Tuple elts ek ep) body (xs.zipIdx.map fun p => V.tup [.int (p.2 : Nat), p.1]) σ r) (F : Fm W env base out hot oa σ s₀) (g : Grow s₀ s) (hI : EnI W A hot s₀ s e it l items xs)
    (k : ∀ f s', ResOk W env base out r f s' → R (.ok f) s') : codeAny (model W.prog W.w) A (.forLoop (.Tuple elts ek ep) (.ref e) body [] env) R s := by
  have wk := WalksT.enumerate (prog := W.prog) (w := W.w) hA.handled e it l hI.hei hI.hle hI.hli items
  have hsz : items.size = xs.length := by rw [← hI.rd.length]; simp
  have st0 : enSt e it l items 0 s.heap := hI.st
  have aE := st0.live e (by simp)
  have aI := st0.live it (by simp)
  have dead : ∀ b, s₀.heap.get? b = none → b ∉ mutL env σ oa := fun b hb q => by
    obtain ⟨o, e'⟩ := F.alive b (F.mutNew b q).2
    rw [hb] at e'; cases e'
  have fresh : ∀ b ∈ [e, it], s₀.heap.get? b = none := mem_two hI.fe hI.fi
  have mfp : ∀ b ∈ [e, it, l], b ∉ mutL env σ oa := mem_three (dead e hI.fe) (dead it hI.fi) fun q => hI.nl (F.mutNew l q).2
  have start : EnInv W n sc env (.Tuple elts ek ep) body xs r base out e it l items xs.length s := by
    refine ⟨0, σ, _, oa, Nat.zero_le _, rfl, by simpa using hL, F.hotter g (wr := [e, it]) fresh (mem_two aE aI), hI.st, mfp, .inr (.head _), .inr (.tail _ (.head _)), none_of_sub F.grow.sub hI.fe, none_of_sub F.grow.sub hI.fi, ?_⟩
    refine Rds.mono (fun b o nb e' => ⟨g.sub b o e', fun q => ?_⟩) _ _ hI.rd
    rcases q with q | q
    · exact nb q
    · rw [fresh b q] at e'; cases e'
  refine codeAny_forLoop_any (EnInv W n sc env (.Tuple elts ek ep) body xs r base out e it l items) (fun m s₁ inv => ?_) _ start
  obtain ⟨i, σ₁, hot₁, oa₁, hi, rfl, hL₁, F₁, st, mfp₁, hE₁, hI₁, bE, bI, item⟩ := inv
  have hlen : (xs.zipIdx.map fun p => V.tup [.int (p.2 : Nat), p.1]).length = xs.length := by simp
  by_cases hlt : i < xs.length
  · refine wk.item i s₁ _ _ (by rw [hsz]; exact hlt) st fun T vals h' tk hv hT hTt hMid hk => ?_
    refine wk.go elts ek ep i T _ _ _ hMid fun h₂ st₂ hk₂ => ?_
    have hkk : ∀ b o, b ∉ [e, it] → s₁.heap.get? b = some o → h₂.get? b = some o := fun b o hb e' => hk₂ b o hb (hk b o hb e')
    have live₂ := enSt.live (show enSt e it l items (i + 1) h₂ from st₂)
    have F₂ : Fm W env base out hot₁ oa₁ σ₁ { s₁ with heap := h₂, toks := tk } := F₁.touch hkk (mem_two ⟨bE, hE₁, mfp₁ _ (.head _), live₂ _ (.head _)⟩ ⟨bI, hI₁, mfp₁ _ (.tail _ (.head _)), live₂ _ (.tail _ (.head _))⟩)
    have up : ∀ b o, ¬ hot₁ b → s₁.heap.get? b = some o → h₂.get? b = some o ∧ ¬ hot₁ b := fun b o nb e' => ⟨hkk b o (fun q => nb (mem_two hE₁ hI₁ b q)) e', nb⟩
    have item' : Rds h₂ hot₁ xs items.toList := Rds.mono up _ _ item
    have nT : ¬ hot₁ T := fun q => by
      obtain ⟨o, e'⟩ := F₁.alive T q
      exact absurd (Heap.lt_size e') (Nat.not_lt.mpr hT)
    obtain ⟨t', x, hx, rfl⟩ := hv
    have hxi : xs[i]? = some xs[i] := by simp [hlt]
    obtain ⟨v, hv1, hv2⟩ := item'.getElem hxi
    have hvx : v = x := by
      have : items.toList[i]? = some x := by simpa using hx
      rw [hv1] at this; exact Option.some.inj this
    subst hvx
    have rT : Rd h₂ hot₁ (.tup [.int (i : Nat), xs[i]]) (.ref T) := by
      unfold Rd
      exact ⟨T, _, rfl, nT, hTt.at fun o e' => hk₂ T o (wk.apart i T h' hMid) e', .cons mk_int (.cons hv2 .nil)⟩
    have hd : (xs.zipIdx.map fun p => V.tup [.int (p.2 : Nat), p.1]).drop i = V.tup [.int (i : Nat), xs[i]] :: (xs.zipIdx.map fun p => V.tup [.int (p.2 : Nat), p.1]).drop (i + 1) := by
      rw [List.drop_eq_getElem_cons (by rw [hlen]; exact hlt)]
      simp
    have again : ∀ {σ₂ : Store} {hot₂ : Addr → Prop} {oa₂ : Str → Addr} {s' : Shared}, ForL W n sc (.Tuple elts ek ep) body ((xs.zipIdx.map fun p => V.tup [.int (p.2 : Nat), p.1]).drop (i + 1)) σ₂ r →
        Fm W env (hidden env σ₁ oa₁ { s₁ with heap := h₂, toks := tk }) (fun a => hot₁ a ∧ a ∉ mutL env σ₁ oa₁) hot₂ oa₂ σ₂ s' → ∃ m', m' < xs.length - i ∧ EnInv W n sc env (.Tuple elts ek ep) body xs r base out e it l items m' s' := by
      intro σ₂ hot₂ oa₂ s' hL₂ F₃
      have keep : ∀ b ∈ [e, it, l], ∀ o, h₂.get? b = some o → (hidden env σ₁ oa₁ { s₁ with heap := h₂, toks := tk }).heap.get? b = some o := fun b hb o e' => hideAll_get _ e' (mfp₁ b hb)
      refine ⟨xs.length - (i + 1), by omega, i + 1, σ₂, hot₂, oa₂, hlt, rfl, hL₂, F₃.debase F₂.grow_hidden F₂.wbase F₂.outMut (fun a ha => F₂.hotnew a ha.1) F₂.outlive, wk.frame _ _ _ st₂ fun b hb o e' => F₃.grow.sub b o (keep b hb o e'), fun b hb q => ?_, F₃.outhot e ⟨hE₁, mfp₁ e (.head _)⟩, F₃.outhot it ⟨hI₁, mfp₁ it (.tail _ (.head _))⟩, bE, bI, ?_⟩
      · obtain ⟨o, e'⟩ := live₂ b hb
        have := (F₃.mutNew b q).1
        rw [keep b hb o e'] at this; cases this
      · refine Rds.mono (fun b o nb e' => ?_) _ _ item'
        have nm : b ∉ mutL env σ₁ oa₁ := fun q => nb (F₂.mutNew b q).2
        have e1 : (hidden env σ₁ oa₁ { s₁ with heap := h₂, toks := tk }).heap.get? b = some o := hideAll_get _ e' nm
        refine ⟨F₃.grow.sub b o e1, fun q => ?_⟩
        rcases F₃.hotnew b q with q | q
        · exact nb q.1
        · rw [e1] at q; cases q
    rw [hd] at hL₁
    generalize hxs : (xs.zipIdx.map fun p => V.tup [.int (p.2 : Nat), p.1]).drop (i + 1) = rest at hL₁
    cases hL₁ with
    | next hb hr hL₂ =>
      refine turn_body he hA F₂ rT hb hr fun f s' ok => ?_
      obtain ⟨rfl, hot', oa', F'⟩ := ok
      exact again (hxs ▸ hL₂) F'
    | cont hb hr hL₂ =>
      refine turn_body he hA F₂ rT hb hr fun f s' ok => ?_
      obtain ⟨rfl, hot', oa', F'⟩ := ok
      exact again (hxs ▸ hL₂) F'
    | brk hb hr =>
      refine turn_body he hA F₂ rT hb hr fun f s' ok => ?_
      obtain ⟨rfl, hot', oa', F'⟩ := ok
      exact k _ _ ⟨rfl, hot', oa', F'.debase F₂.grow_hidden F₂.wbase F₂.outMut (fun a ha => F₂.hotnew a ha.1) F₂.outlive⟩
    | ret hb hr =>
      refine turn_body he hA F₂ rT hb hr fun f s' ok => ?_
      obtain ⟨w, rfl, G, rw'⟩ := ok
      exact k _ _ ⟨w, rfl, F₂.grow_hidden.trans G, rw'.less F₂.outMut⟩
  · have hi' : i = xs.length := by omega
    refine wk.done s₁ _ _ (by rw [hsz, ← hi']; exact st) fun h' tk hk => ?_
    have e' : (xs.zipIdx.map fun p => V.tup [.int (p.2 : Nat), p.1]).drop i = [] := by rw [hi', ← hlen]; simp
    rw [e'] at hL₁
    cases hL₁
    exact wpAny_execs_nil (k _ _ ⟨rfl, _, oa₁, F₁.touchOff hk (mem_two ⟨bE, hE₁, mfp₁ _ (.head _)⟩ ⟨bI, hI₁, mfp₁ _ (.tail _ (.head _))⟩)⟩)
/-- for i, x in enumerate(e) -/
theorem Runs.forEnum {p pos cpos : Pos} {e : PySem.Expr} {xs : List V} {r : Res} (hg : isGlob sc "enumerate" = true) (hm : W.mg "enumerate" = Option.none) (hbb : bootBuiltins "enumerate" = some (.type "enumerate")) (h : Ev W n sc σ e (.list xs))
    (hn : ∀ env, starEach [e] env = (false, eval e env) :: starEach [] env) (hL : ForL W n sc (.Tuple elts ek ep) body (xs.zipIdx.map fun p => V.tup [.int (p.2 : Nat), p.1]) σ r) (hs : ∀ env x, foldedSetIterable (.Call (.Name "enumerate" p) [e] [] cpos) env x = pure x) :
    Runs W n sc (.For (.Tuple elts ek ep) (.Call (.Name "enumerate" p) [e] [] cpos) body [] pos) σ r :=
  ⟨fun env he A hA base out hot oa s Q E F k => by
    have hone : Evs W n sc σ [e] [.list xs] := Evs.one h hn
    refine wpAny_For (wpAny_Call_NameR ((Ev.builtin (W := W) (n := n) (σ := σ) (pos := p) hg hm hbb).run env he A hA s hot _ E F.good fun v s₁ g₁ r₁ => ?_)) (hs env)
    cases rd_val r₁
    refine callWith_any (W := W) (by trivial) (hone.plain env cpos).1 (hone.run env he A hA s₁ hot _ E cpos (F.grown g₁).good fun vs s₂ g₂ r₂ => ⟨((F.grown g₁).grown g₂).good.base, ?_⟩)
    unfold Rds at r₂; obtain ⟨v, r', rfl, hv, hv'⟩ := r₂; unfold Rds at hv'; subst hv'
    obtain ⟨l, items, rfl, nl, hl, hr⟩ := rd_list hv
    refine call_enumerate_list (PlainList.isList hl) fun h' h1 h2 _ hk => ?_
    refine wpAny_pyIter_enum h1 ?_
    have F₂ := (F.grown g₁).grown g₂
    have g₃ : Grow s₂ { s₂ with heap := h' } := ⟨hk, rfl, fun e => e⟩
    have hlt : l < s₂.heap.objs.size := by obtain ⟨m, e'⟩ := hl; exact Heap.lt_size e'
    have big : ∀ a : Nat, s₂.heap.objs.size ≤ a → s₂.heap.get? a = none := fun a ha => Heap.get?_none_of_le ha
    refine en_loop (s₀ := s₂) (items := items) he hA hL F₂ g₃ ⟨nat_succ_ne _, nat_lt_ne (Nat.lt_succ_of_lt hlt), nat_lt_ne hlt, ⟨⟨_, h1⟩, h2, PlainList.isList (let ⟨m, e⟩ := hl; ⟨m, hk _ _ e⟩)⟩, nl, big _ (Nat.le_succ _), big _ (Nat.le_refl _), hr⟩ fun f s' ok => k f s' ok⟩
end
end Mine
open PySem PySem.W PyProof.Rows
set_option Elab.async false
set_option linter.unusedVariables false
namespace Mine
section
variable {W : Wo} {n : Nat} {sc : Scope} {σ σ' : Store} {N : Nat}
/-- from a count of tokens on -/
structure EvN (W : Wo) (N n : Nat) (sc : Scope) (σ : Store) (e : PySem.Expr) (d : V) : Prop where
  run : ∀ env, env.scope = sc → ∀ A, Room A n → ∀ s hot (Q : Value → Shared → Prop) E, N ≤ s.toks → Good W env σ hot s →
    (∀ v s', Grow s s' → N ≤ s'.toks → Rd s'.heap hot d v → Q v s') → wpAny (model W.prog W.w) A (eval e env) Q E s
theorem Ev.toN {e : PySem.Expr} {d : V} (h : Ev W n sc σ e d) : EvN W N n sc σ e d :=
  ⟨fun env he A hA s hot Q E hN g k => wpAny_with_toks hN (h.run env he A hA s hot _ _ g fun v s' g' r hN' => k v s' g' hN' r)⟩
structure EvsN (W : Wo) (N n : Nat) (sc : Scope) (σ : Store) (es : List PySem.Expr) (ds : List V) : Prop where
  run : ∀ env, env.scope = sc → ∀ A, Room A n → ∀ s hot (Q : List Value → Shared → Prop) E pos, N ≤ s.toks → Good W env σ hot s →
    (∀ vs s', Grow s s' → Rds s'.heap hot ds vs → Q vs s') → wpAny (model W.prog W.w) A (spliced (backTo pos (starEach es env))) Q E s
theorem EvsN.nil : EvsN W N n sc σ [] [] := ⟨fun env he A hA s hot Q E pos hN g k => wpAny_pure (k _ s (.refl s) .nil)⟩
theorem EvsN.cons {e : PySem.Expr} {es : List PySem.Expr} {d : V} {ds : List V} (h : EvN W N n sc σ e d) (hs : EvsN W N n sc σ es ds) (hn : ∀ env, starEach (e :: es) env = (false, eval e env) :: starEach es env) : EvsN W N n sc σ (e :: es) (d :: ds) :=
  ⟨fun env he A hA s hot Q E pos hN g k => by
    rw [hn]
    exact Calls.spliced_cons (h.run env he A hA s hot _ E hN g fun v₁ s₁ g₁ hN₁ r₁ => hs.run env he A hA s₁ hot _ E pos hN₁ (g.grow g₁) fun vs s₂ g₂ r₂ => k _ _ (g₁.trans g₂) (.cons (r₁.sub g₂.sub) r₂))⟩
theorem EvN.tup {es : List PySem.Expr} {j pos} {ds : List V} (h : EvsN W N n sc σ es ds) (hs : ds.length ≤ 16777216) : EvN W N n sc σ (.Tuple es j pos) (.tup ds) :=
  ⟨fun env he A hA s hot Q E hN g k => wpAny_with_toks hN (@PyProof.Rows.Tuple_ _ _ _ _ _ _ _ _ _ (h.run env he A hA s hot _ _ pos hN g fun vs s₁ g₁ r₁ => by
    have hz : vs.toArray.size ≤ sizeLine := by rw [List.size_toArray, sizeLine_eq]; exact r₁.le hs
    refine wpAny_newObj_type (fun hN' => ?_) hz
    have up : Sub s₁.heap (s₁.heap.push { cls := .type "tuple", dict := Option.none, data := .seq vs.toArray }) := fun b o e => Heap.get?_push_of_some _ e
    refine k _ _ (g₁.trans ⟨up, rfl, fun e => e⟩) hN' ?_
    unfold Rd
    exact ⟨_, vs.toArray, rfl, newIsHot (g.grow g₁).alive, ⟨_, Heap.get?_push_size _ rfl, rfl, 0, rfl⟩, by rw [List.toList_toArray]; exact r₁.sub up⟩))⟩
/-- y.replace(x, ''), x a sign whose token is known -/
theorem EvN.replaceVar {x y : Str} {p px apos pos p2 : Pos} {j2 : Nat} {l : List Nat} {c : Nat} {t : Tok} (hx : (x, Slot.val (.val (.str (St [c]) t))) ∈ σ) (hvx : isVar sc x = true) (hy : (y, Slot.val (.str l)) ∈ σ) (hvy : isVar sc y = true) (ht : 1 ≤ t)
    (hbase : ∀ env, attributeBase (.Name y p) "replace" env (eval (.Name y p) env) = eval (.Name y p) env) (hline : (apos.endLine == pos.line) = true) (hb : Str.ofString "" = St []) (hz : l.length ≤ 1000000)
    (hargs : ∀ env, starEach [.Name x px, .Constant (.str (Str.ofString "")) j2 p2] env = [(false, eval (.Name x px) env), (false, eval (.Constant (.str (Str.ofString "")) j2 p2) env)]) :
    EvN W (t + 1) n sc σ (.Call (.Attribute (.Name y p) "replace" apos) [.Name x px, .Constant (.str (Str.ofString "")) j2 p2] [] pos) (.str (rsub l c [])) :=
  ⟨fun env he A hA s hot Q E hN g k => by
    refine wpAny_with_toks hN ?_
    refine wpAny_Call_method_lateS (hbase env) ?_ hline (wpAny_with_toks hN ((Ev.name hy hvy).run env he A hA s hot _ _ g fun v s₁ g₁ r₁ hN₁ => ?_))
    · rw [hargs]; rfl
    obtain ⟨u, rfl⟩ := rd_str r₁
    refine ⟨"str", "str.replace", meth_replace.pa, meth_replace.slot, meth_replace.ty, typeIs_str _ _ _, fun _ e => (nomatch e), ?_⟩
    refine Calls.callWith_builtin (by rw [hargs]; rfl) (evalArgs_any (by rw [hargs]; rfl) ?_)
    rw [hargs]
    refine Calls.spliced_cons ?_
    refine wpAny_with_toks hN₁ ?_
    refine (Ev.name hx hvx).run env he A hA s₁ hot _ _ (g.grow g₁) fun v s₂ g₂ r₂ hN₂ => ?_
    cases rd_val r₂
    refine Calls.spliced_cons ?_
    refine @wpAny_mkText _ _ _ _ _ _ ?_
    refine wpAny_pure ?_
    have hne : (St [c] == (Str.ofString "")) = false := by
      rw [hb]; exact beq_eq_false_iff_ne.mpr fun e => by
        have : (St [c]).cps.toList = (St []).cps.toList := by rw [e]
        simp [St] at this
    refine SC.replace (Nat.ne_of_gt (show 0 < t from ht)) (Nat.ne_of_gt (Nat.lt_of_le_of_lt (Nat.zero_le t) hN₂)) (Nat.ne_of_lt (show t < s₂.toks from hN₂)) hne (by rw [hb, St_len, St_len]; simp; omega) fun t' tk hN₃ => ?_
    rw [hb, replace_St]
    exact k _ _ ((g₁.trans g₂).trans .tok) hN₃ mk_str⟩
/-- a sign with its token -/
structure EvTk (W : Wo) (n : Nat) (sc : Scope) (σ : Store) (e : PySem.Expr) (l : List Nat) : Prop where
  run : ∀ env, env.scope = sc → ∀ A, Room A n → ∀ s hot (Q : Value → Shared → Prop) E, Good W env σ hot s →
    (∀ t s', Grow s s' → 1 ≤ t → t + 1 ≤ s'.toks → Q (.str (St l) t) s') → wpAny (model W.prog W.w) A (eval e env) Q E s
structure RunsN (W : Wo) (N n : Nat) (sc : Scope) (st : Stmt) (σ : Store) (r : Res) : Prop where
  run : ∀ env, env.scope = sc → ∀ A, Room A n → ∀ base out hot oa s (Q : Flow → Shared → Prop) E, N ≤ s.toks → Fm W env base out hot oa σ s →
    (∀ f s', ResOk W env base out r f s' → Q f s') → wpAny (model W.prog W.w) A (exec st env) Q E s
theorem RunsN.swapped {ts : List PySem.Expr} {j : Nat} {p pos : Pos} {e : PySem.Expr} {ds : List V} {xs : List Str} (h : EvN W N n sc σ e (.tup ds)) (hb : BindsR W sc xs.reverse ds.reverse σ σ')
    (hs : ∀ env, swapsWithSole [.Tuple ts j p] e pos.line env = pure false) (hw : ∀ env, env.scope = sc → swappedStores [.Tuple ts j p] e env = pure (some xs)) (hn : xs.length = ds.length) :
    RunsN W N n sc (.Assign [.Tuple ts j p] e pos) σ (.next σ') :=
  ⟨fun env he A hA base out hot oa s Q E hN F k => Assign_Tuple_swapped (h.run env he A hA s hot _ E hN F.good fun v s₁ g hN' r => by
    obtain ⟨a, items, rfl, ha, hl, hr⟩ := rd_tup r
    have hz : xs.length = items.size := by rw [hn, ← hr.length]; simp
    rw [hz]
    refine unpackItems_tuple hA.handled hl fun h' he' => ?_
    exact hb.run env he A (hA.less (Nat.zero_le _)) base out hot oa _ _ _ E ((F.grown g).ext he') (Rds.mono (fun b o nb e => ⟨he' b o (Nat.ne_of_lt (Heap.lt_size e)) e, nb⟩) _ _ hr.reverse) fun s₂ F₂ => k _ _ ⟨rfl, hot, oa, F₂⟩) (hs env) (hw env he)⟩
/-- x = a sign; then a statement that asks for the sign's token -/
theorem RunsL.draw {x : Str} {p pos : Pos} {e : PySem.Expr} {st : Stmt} {c : Nat} {σ₁ σ₂ : Value → Store} (h1 : EvTk W n sc σ e [c]) (hs : ∀ env, swapsWith e (some (.Name x p)) pos.line env = pure false) (hp : ∀ v, Put x (.val (.val v)) σ (σ₁ v)) (hn : noApp x σ)
    (h2 : ∀ t, 1 ≤ t → RunsN W (t + 1) n sc st (σ₁ (.str (St [c]) t)) (.next (σ₂ (.str (St [c]) t)))) (hw : ∀ v, Wk (σ₂ v) σ') : RunsL W n sc [.Assign [.Name x p] e pos, st] σ (.next σ') :=
  ⟨fun env he A hA base out hot oa s Q E F k => wpAny_execs_cons (wpAny_Assign_Name (h1.run env he A hA s hot _ E F.good fun t s₁ g ht htk =>
    wpAny_with_toks htk ((F.grown g).store (hp _) mk_val hn fun s₂ F₂ htk₂ => wpAny_execs_cons ((h2 t ht).run env he A hA base out hot oa s₂ _ _ htk₂ F₂ fun f s₃ ok => by
      obtain ⟨rfl, hot', oa', F₃⟩ := ok
      exact wpAny_execs_nil (k _ _ ⟨rfl, hot', oa', F₃.forget (hw _)⟩)))) (hs env))⟩
/-- s[a % b], an int of which has been made ahead -/
theorem EvTk.item {o a b : PySem.Expr} {pm pos : Pos} {l : List Nat} {i j : Int} {c : Nat} (ho : Ev W n sc σ o (.str l)) (ha : Ev W n sc σ a (.int i)) (hb : Ev W n sc σ b (.int j)) (hj : j ≠ 0) (h0 : -(2 ^ 63) ≤ i.fmod j) (h1 : i.fmod j < 2 ^ 63) (h : chAt l (i.fmod j) = some c)
    (hs : ∀ o v, subscripted (.BinOp a .Mod b pm) false o v = operate [o, v] (getItem o v)) : EvTk W n sc σ (.Subscript o (.BinOp a .Mod b pm) pos) [c] :=
  ⟨fun env hq A hA s hot Q E g k => @Subscript_ _ _ _ _ _ _ _ _ _ (ho.run env hq A hA s hot _ E g fun v₁ s₁ g₁ r₁ => wpAny_BinOp (ha.run env hq A hA s₁ hot _ E (g.grow g₁) fun v₂ s₂ g₂ r₂ => hb.run env hq A hA s₂ hot _ E ((g.grow g₁).grow g₂) fun v₃ s₃ g₃ r₃ => by
    obtain ⟨t, rfl⟩ := rd_str r₁; obtain ⟨u, rfl⟩ := rd_int r₂; obtain ⟨w, rfl⟩ := rd_int r₃
    refine @PyProof.Rows.mod_int _ _ _ _ _ _ _ _ _ _ hj ?_
    refine tail_any (typeIs_str _ _ _) slot_str_getitem.lookup (PyProof.Rows.getItem_str (c := c) ?_ ?_ ?_) (hs _ _)
    · rw [decide_eq_false (by omega), decide_eq_false (by omega)]; rfl
    · unfold chAt at h
      simpa [St, Str.length] using h
    · exact k _ _ (((g₁.trans g₂).trans g₃).trans .tok) (Nat.succ_le_succ (Nat.zero_le _)) (Nat.le_refl _)))⟩
end
end Mine
open PySem PySem.W PyProof.Rows
set_option Elab.async false
set_option linter.unusedVariables false
set_option maxRecDepth 100000
namespace Mine
open PySem.Builtin.Re
theorem rm_plain : PlainAttrs "re.Match" :=
  ⟨⟨"object.__getattribute__", by rw [typeLookup_type, builtinLookup_eq_fast]; kernel_rfl, by decide +kernel⟩, by rw [typeLookup_type, builtinLookup_eq_fast]; kernel_rfl⟩
theorem rm_slot : PySem.Slot "re.Match" "group" "re.Match.group" :=
  .of (owner := "re.Match") (n := "group") (by rw [typeLookup_type, builtinLookup_eq_fast]; kernel_rfl) (by decide +kernel) (by decide +kernel) (by decide +kernel)
    (by first | exact .inl (by decide +kernel) | exact .inr (by decide +kernel)) (by rw [isSubtype_type]; kernel_rfl)
theorem rm_ty : typeOf (.builtin "re.Match.group") = pure (.type "method_descriptor") := by show builtinType _ = _; rw [builtinType_eq_fast]; kernel_rfl
theorem rm_entry : entryFor table "re.Match.group" = some Builtin.«re.Match.group» := entryFor_of_tree (by kernel_rfl)
theorem rm_args (a b : Value) : argsOk "re.Match.group" ⟨[a, b], []⟩ := by unfold argsOk; kernel_rfl
theorem rp_plain : PlainAttrs "re.Pattern" :=
  ⟨⟨"object.__getattribute__", by rw [typeLookup_type, builtinLookup_eq_fast]; kernel_rfl, by decide +kernel⟩, by rw [typeLookup_type, builtinLookup_eq_fast]; kernel_rfl⟩
theorem rp_slot : PySem.Slot "re.Pattern" "sub" "re.Pattern.sub" :=
  .of (owner := "re.Pattern") (n := "sub") (by rw [typeLookup_type, builtinLookup_eq_fast]; kernel_rfl) (by decide +kernel) (by decide +kernel) (by decide +kernel)
    (by first | exact .inl (by decide +kernel) | exact .inr (by decide +kernel)) (by rw [isSubtype_type]; kernel_rfl)
theorem rp_ty : typeOf (.builtin "re.Pattern.sub") = pure (.type "method_descriptor") := by show builtinType _ = _; rw [builtinType_eq_fast]; kernel_rfl
theorem rp_entry : entryFor table "re.Pattern.sub" = some Builtin.«re.Pattern.sub» := entryFor_of_tree (by kernel_rfl)
theorem rp_entry_loop : entryFor table "re.Pattern.sub.loop" = some Builtin.«re.Pattern.sub.loop» := by first | exact entryFor_of_fast (by kernel_rfl) | exact entryFor_of_tree (by kernel_rfl)
theorem rp_args (a b c : Value) : argsOk "re.Pattern.sub" ⟨[a, b, c], []⟩ := by unfold argsOk; kernel_rfl
end Mine
open PySem PySem.W PyProof.Rows
set_option Elab.async false
set_option linter.unusedVariables false
set_option maxRecDepth 100000
namespace Mine
open PySem.Builtin.Re
def IsMatch (h : Heap) (m : Addr) (l : List Nat) (j : Nat) : Prop :=
  ∃ t pt sp k, h.get? m = some { cls := .type "re.Match", data := .fields #[.str (St l) t, pt, rawInt 0, rawInt l.length, rawInt 1, .ref sp] } ∧ h.get? sp = some { cls := .type "tuple", data := .seq #[rawInt j, rawInt (j + 1 : Nat), rawInt j, rawInt (j + 1 : Nat)] k }
section
variable {prog : Program} {w : World} {A : Around} {E : Value → Shared → Prop} {s : Shared}
theorem run_group {m : Addr} {l : List Nat} {j : Nat} {u : Tok} {P : Fin → Shared → Prop} (hm : IsMatch s.heap m l j) (h : ∀ t, P (.done (.ret (.str ⟨(St l).cps.extract j (j + 1)⟩ t))) { s with toks := s.toks + 1 }) :
    wpAny (model prog w) A (Builtin.«re.Match.group» ⟨[.ref m, .int 1 u], []⟩) P E s := by
  obtain ⟨t, pt, sp, k, h1, h2⟩ := hm
  unfold Builtin.«re.Match.group»
  refine wpAny_bind (wpAny_of_eq (a := ()) (by first | rfl | kernel_rfl) ?_)
  refine wpAny_bind (m := reFound (.ref m)) ?_
  unfold reFound
  refine wpAny_bind (wpAny_fieldsOf h1 rfl (wpAny_bind (m := reRawItems (.ref sp)) ?_))
  unfold reRawItems
  refine wpAny_bind (wpAny_seqItems h2 rfl (wpAny_pure (wpAny_pure ?_)))
  have hsp : Array.map reRawOf ((some #[rawInt (j : Int), rawInt ((j + 1 : Nat) : Int), rawInt (j : Int), rawInt ((j + 1 : Nat) : Int)]).getD #[]) = #[(j : Int), ((j + 1 : Nat) : Int), (j : Int), ((j + 1 : Nat) : Int)] := by simp [reRawOf, rawInt]
  rw [hsp]
  let x : ReFound := { fields := #[.str (St l) t, pt, rawInt 0, rawInt l.length, rawInt 1, .ref sp], spans := #[(j : Int), ((j + 1 : Nat) : Int), (j : Int), ((j + 1 : Nat) : Int)] }
  have hx : x.spans.size = 4 := rfl
  show wpAny _ _ (do let t ← reGroupText x (← reGroupNumber x (.int 1 u)) .none; ret t) _ _ _
  refine wpAny_bind (m := reGroupNumber x (.int 1 u)) ?_
  unfold reGroupNumber
  refine wpAny_bind (wpAny_of_eq (a := some (1 : Int)) (by rfl) ?_)
  refine KFB.if_so rfl ?_
  refine wpAny_bind (wpAny_of_eq (a := (1 : Int)) (by rfl) ?_)
  refine KFB.if_not (by rw [hx]; rfl) ?_
  refine wpAny_pure ?_
  refine wpAny_bind (m := reGroupText x 1 .none) ?_
  unfold reGroupText
  have b1 : x.spans.getD (2 * 1) (-1) = (j : Int) := rfl
  have b2 : x.spans.getD (2 * 1 + 1) (-1) = ((j + 1 : Nat) : Int) := rfl
  simp only [b1, b2]
  refine KFB.if_not (by simp; omega) ?_
  refine wpAny_bind (wpAny_of_eq (a := ((St l).cps, 0)) (by rfl) ?_)
  show wpAny _ _ (reSlice (St l).cps 0 (j : Int).toNat ((j + 1 : Nat) : Int).toNat) _ _ _
  rw [Int.toNat_natCast, Int.toNat_natCast]
  show wpAny _ _ (mkStr ⟨(St l).cps.extract j (j + 1)⟩) _ _ _
  refine wpAny_mkStr (wpAny_pure (h _)) ?_
  show ((St l).cps.extract j (j + 1)).size ≤ sizeLine
  rw [Array.size_extract, sizeLine_eq]
  omega
end
end Mine
open PySem PySem.W PyProof.Rows
set_option Elab.async false
set_option linter.unusedVariables false
set_option maxRecDepth 100000
namespace Mine
/-- the same world, upon a later heap -/
def Wo.at (W : Wo) (h : Heap) (k : Sub W.B h) : Wo :=
  { prog := W.prog, w := W.w, B := h, mg := W.mg, mb := W.mb, hg := W.hg.keeps k, hb := W.hb.keeps k, hbt := W.hbt, hnl := W.hnl.keeps k }
section
variable {W : Wo} {n : Nat} {sc : Scope} {σ : Store}
theorem IsMatch.sub {h h' : Heap} {m : Addr} {l : List Nat} {j : Nat} (k : Sub h h') (x : IsMatch h m l j) : IsMatch h' m l j := by
  obtain ⟨t, pt, sp, q, h1, h2⟩ := x
  exact ⟨t, pt, sp, q, k _ _ h1, k _ _ h2⟩
theorem Ev.group {x : Str} {p p1 apos pos : Pos} {j1 : Nat} {m : Addr} {l : List Nat} {j c : Nat} (hx : (x, Slot.val (.val (.ref m))) ∈ σ) (hv : isVar sc x = true) (hm : IsMatch W.B m l j) (hc : l[j]? = some c)
    (hbase : ∀ env, attributeBase (.Name x p) "group" env (eval (.Name x p) env) = eval (.Name x p) env) (hline : (apos.endLine == pos.line) = true)
    (hn : ∀ env, starEach [.Constant (.int 1) j1 p1] env = (false, eval (.Constant (.int 1) j1 p1) env) :: starEach [] env) : Ev W n sc σ (.Call (.Attribute (.Name x p) "group" apos) [.Constant (.int 1) j1 p1] [] pos) (.str [c]) :=
  ⟨fun env he A hA s hot Q E g k => by
    have ha : Evs W n sc σ [.Constant (.int 1) j1 p1] [.int 1] := Evs.one Ev.int hn
    refine wpAny_Call_method_lateS (hbase env) ?_ hline ((Ev.name hx hv).run env he A hA s hot _ E g fun v s₁ g₁ r₁ => ?_)
    · rw [hn]; rfl
    cases rd_val r₁
    have hm₁ := hm.sub (g.grow g₁).base
    obtain ⟨t, pt, sp, q, h1, h2⟩ := hm₁
    refine ⟨"re.Match", "re.Match.group", rm_plain, rm_slot, rm_ty, ⟨_, h1, rfl⟩, fun a e => by cases e; exact ⟨_, h1, rfl⟩, ?_⟩
    refine callWith_any (W := W) (by trivial) (ha.plain env pos).1 (ha.run env he A hA s₁ hot _ E pos (g.grow g₁) fun vs s₂ g₂ r₂ => ⟨((g.grow g₁).grow g₂).base, ?_⟩)
    unfold Rds at r₂; obtain ⟨v, r', rfl, hv1, hv2⟩ := r₂; unfold Rds at hv2; subst hv2
    obtain ⟨u, rfl⟩ := rd_int hv1
    refine wpAny_call_entry rm_slot (show s₂.TypeIs (.ref m) "re.Match" from ⟨_, g₂.sub _ _ h1, rfl⟩) rm_entry (run_group (l := l) (j := j) ⟨t, pt, sp, q, g₂.sub _ _ h1, g₂.sub _ _ h2⟩ fun t' => ?_) (rm_args _ _)
    have e : (⟨(St l).cps.extract j (j + 1)⟩ : Str) = St [c] := by
      unfold St
      congr 1
      apply Array.toList_inj.mp
      rw [Array.toList_extract]
      have hj : j < l.length := (List.getElem?_eq_some_iff.mp hc).1
      have hcj : l[j] = c := (List.getElem?_eq_some_iff.mp hc).2
      simp [List.extract, List.drop_eq_getElem_cons hj, hcj]
    rw [e]
    exact ⟨_, rfl, k _ _ ((g₁.trans g₂).trans .tok) mk_str⟩⟩
theorem Ev.or1 {e e2 : PySem.Expr} {es : List PySem.Expr} {pos : Pos} {a : V} (h : Ev W n sc σ e a) (ht : TruOk W a true) : Ev W n sc σ (.BoolOp .Or (e :: e2 :: es) pos) a :=
  ⟨fun env he A hA s hot Q E g k => by
    show wpAny _ A (boolOp pos .Or (eval e env :: eval e2 env :: evalEach es env)) Q E s
    unfold boolOp
    refine wpAny_bind (h.run env he A hA s hot _ E g fun v s₁ g₁ r₁ => ?_)
    refine wpAny_bind (wpAny_standAt (wpAny_bind (wpAny_holding (ht A (hA.less (Nat.zero_le _)) s₁ hot v _ E (g.grow g₁).base r₁ fun s₂ g₂ => ?_))))
    exact wpAny_pure (k v s₂ (g₁.trans g₂) (r₁.sub g₂.sub))⟩
/-- a lambda of one name that is made in the text -/
structure IsLam (h : Heap) (f : Addr) (body : PySem.Expr) (sc : Scope) (x : Str) : Prop where
  get : ∃ o fd, h.get? f = some o ∧ o.data = .func fd ∧ fd.body = .expr body ∧ fd.scope = sc ∧ h.CodeRec fd.code fd.qualname ∧ fd.closure = [] ∧ fd.globals = mainGlobals ∧ fd.builtins = builtinsNs ∧ ∀ v : Value, bindArgs fd ⟨[v], []⟩ = pure [(x, v)]
theorem IsLam.sub {h h' : Heap} {f : Addr} {body : PySem.Expr} {x : Str} (k : Sub h h') (y : IsLam h f body sc x) : IsLam h' f body sc x := by
  obtain ⟨o, fd, h1, h2, h3, h4, h5, r⟩ := y.get
  exact ⟨o, fd, k _ _ h1, h2, h3, h4, (let ⟨c, o, vs, t, a, b, d⟩ := h5; ⟨c, o, vs, t, a, k _ _ b, d⟩), r⟩
theorem lam_call {A : Around} {E : Value → Shared → Prop} {s : Shared} {hot : Addr → Prop} {f : Addr} {body : PySem.Expr} {x : Str} {v : Value} {c : V} {Q : Value → Shared → Prop} (hA : Room A (n + 1)) (hB : Sub W.B s.heap) (al : ∀ a, hot a → ∃ o, s.heap.get? a = some o)
    (hf : IsLam s.heap f body sc x) (ok : okNames sc [x] = true) (h : Ev (W.at s.heap hB) n sc [(x, .val (.val v))] body c)
    (k : ∀ v s', Grow s s' → Rd s'.heap hot c v → Q v s') : wpAny (model W.prog W.w) A (call (.ref f) [v]) Q E s := by
  obtain ⟨o, fd, h1, h2, h3, rfl, h5, h6, h7, h8, h9⟩ := hf.get
  have ok' := okNames_ok ok
  refine wpAny_call (kla_callFunE hA.lim h1 h2 ok'.co ok'.gen h3 h5 (BindsTo.of_eq (h9 v) _ _ _ _ ?_))
  rw [h6]
  refine wpAny_newFunctionEnv_cells ok'.kind (fun y hy => ?_) fun env he s' y => ?_
  · have hy' := List.mem_singleton.mp hy
    subst hy'
    rcases ok'.lc x (by simp) with q | q
    · exact .inl q
    · exact .inr ⟨q, lookup_cellsFrom _ _ _ _ (.inl q)⟩
  · subst he
    refine ⟨(W.hnl.keeps hB).keeps y.toInCall.keep, kla_codeExpr ?_⟩
    have rv : Rds s.heap hot [V.val v] [v] := .cons mk_val .nil
    have F := Fm.start (W := W.at s.heap hB) (ps := [x]) (ls := []) (fun b o e => e) al rv rfl ok' rfl h7 h8 rfl y
    exact h.run _ rfl _ hA.deeper s' _ _ _ F.good fun v' s₂ g r => k v' s₂ (F.grow.trans g) (r.less fun _ h => .inl h)
end
end Mine
open PySem PySem.W PyProof.Rows
set_option Elab.async false
set_option linter.unusedVariables false
set_option maxRecDepth 100000
namespace Mine
open PySem.Builtin.Re
def amp (l : List Nat) : List Nat := l.flatMap fun c => if sp c then [92, c] else [c]
theorem amp_free {l : List Nat} (h : ∀ c ∈ l, sp c = false) : amp l = l := by
  unfold amp
  induction l with
  | nil => rfl
  | cons c l ih =>
    rw [List.flatMap_cons, h c (List.mem_cons_self ..), ih fun x hx => h x (List.mem_cons_of_mem _ hx)]; rfl
theorem amp_append (a b : List Nat) : amp (a ++ b) = amp a ++ amp b := by unfold amp; rw [List.flatMap_append]
theorem amp_len : ∀ l : List Nat, (amp l).length ≤ 2 * l.length
  | [] => by simp [amp]
  | c :: l => by
    have ih := amp_len l
    unfold amp at ih ⊢
    rw [List.flatMap_cons, List.length_append, List.length_cons]
    have : (if sp c then [92, c] else [c]).length ≤ 2 := by split <;> simp
    omega
theorem nextAt_some {text : Array Nat} : ∀ {fuel s j : Nat}, nextAt text fuel s = some j → s ≤ j ∧ j < text.size ∧ sp (text.getD j 0) = true ∧ ∀ i, s ≤ i → i < j → sp (text.getD i 0) = false
  | 0, s, j, h => by cases h
  | fuel + 1, s, j, h => by
    unfold nextAt at h
    split at h
    · cases h
    · split at h
      · cases h; exact ⟨Nat.le_refl _, by omega, by assumption, fun i a b => by omega⟩
      · rename_i h1 h2
        obtain ⟨a, b, c, d⟩ := nextAt_some h
        refine ⟨by omega, b, c, fun i h3 h4 => ?_⟩
        by_cases e : i = s
        · subst e; simpa using h2
        · exact d i (by omega) h4
theorem nextAt_none {text : Array Nat} : ∀ {fuel s : Nat}, nextAt text fuel s = none → text.size + 1 - s ≤ fuel → ∀ i, s ≤ i → i < text.size → sp (text.getD i 0) = false
  | 0, s, h, hf, i, a, b => by omega
  | fuel + 1, s, h, hf, i, a, b => by
    unfold nextAt at h
    split at h
    · omega
    · split at h
      · cases h
      · rename_i h1 h2
        by_cases e : i = s
        · subst e; simpa using h2
        · exact nextAt_none h (by omega) i (by omega) b
theorem amp_none {l : List Nat} {d : Nat} (hd : d ≤ l.length) (h : ∀ i, d ≤ i → i < l.length → sp (l.getD i 0) = false) : amp l = amp (l.take d) ++ l.drop d := by
  have e : l = l.take d ++ l.drop d := (List.take_append_drop d l).symm
  have h2 : amp (l.drop d) = l.drop d := amp_free fun c hc => by
    obtain ⟨i, hi, rfl⟩ := List.mem_iff_getElem.mp hc
    rw [List.length_drop] at hi
    have := h (d + i) (by omega) (by omega)
    rw [List.getD_eq_getElem?_getD, List.getElem?_eq_getElem (by omega)] at this
    simpa using this
  have e2 : amp l = amp (l.take d ++ l.drop d) := by rw [List.take_append_drop]
  rw [e2, amp_append, h2]
theorem amp_some {l : List Nat} {d j c : Nat} (hd : d ≤ j) (hj : l[j]? = some c) (hs : sp c = true) (h : ∀ i, d ≤ i → i < j → sp (l.getD i 0) = false) : amp (l.take (j + 1)) = amp (l.take d) ++ (l.drop d).take (j - d) ++ [92, c] := by
  have hlt : j < l.length := (List.getElem?_eq_some_iff.mp hj).1
  have e : l.take (j + 1) = l.take d ++ ((l.drop d).take (j - d) ++ [c]) := by
    rw [List.take_add_one, hj]
    have : l.take j = l.take d ++ (l.drop d).take (j - d) := by
      have := List.take_add (l := l) (i := d) (j := j - d)
      rwa [Nat.add_sub_cancel' hd] at this
    rw [this, List.append_assoc]; rfl
  have h2 : amp ((l.drop d).take (j - d)) = (l.drop d).take (j - d) := amp_free fun x hx => by
    obtain ⟨i, hi, rfl⟩ := List.mem_iff_getElem.mp hx
    rw [List.length_take, List.length_drop] at hi
    have := h (d + i) (by omega) (by omega)
    rw [List.getD_eq_getElem?_getD, List.getElem?_eq_getElem (by omega)] at this
    simpa using this
  rw [e, amp_append, amp_append, h2, List.append_assoc]
  congr 2
  unfold amp
  simp [hs]
def IsPat (h : Heap) (P : Addr) : Prop :=
  ∃ fs C items k, h.get? P = some { cls := .type "re.Pattern", data := .fields fs } ∧ reRawNat (fs.getD 2 .none) = 1 ∧ fs.getD 5 .none = .ref C ∧ reRawNat (fs.getD 6 .none) = 0 ∧ (∃ oc, h.get? C = some oc ∧ oc.data = .seq items k) ∧ (items.map reRawOf).map (·.toNat) = reCode
theorem IsPat.sub {h h' : Heap} {P : Addr} (k : Sub h h') (x : IsPat h P) : IsPat h' P := by
  obtain ⟨fs, C, items, q, h1, h2, h3, h4, ⟨oc, h5, h6⟩, h7⟩ := x
  exact ⟨fs, C, items, q, k _ _ h1, h2, h3, h4, ⟨oc, k _ _ h5, h6⟩, h7⟩
section
variable {prog : Program} {w : World} {A : Around} {E : Value → Shared → Prop} {s : Shared}
def theT (P : Addr) (l : List Nat) (t : Tok) : ReTarget := { pattern := .ref P, string := .str (St l) t, code := reCode, text := (St l).cps, kind := 0, groups := 1, pos := 0, lim := (St l).cps.size }
theorem whole_target {P : Addr} {l : List Nat} {t : Tok} {Q : ReTarget → Shared → Prop} (hP : IsPat s.heap P) (h : Q (theT P l t) s) : wpAny (model prog w) A (reWholeTarget (.ref P) (.str (St l) t)) Q E s := by
  obtain ⟨fs, C, items, k, h1, h2, h3, h4, ⟨oc, h5, h6⟩, h7⟩ := hP
  unfold reWholeTarget
  refine wpAny_bind (wpAny_fieldsOf h1 rfl ?_)
  refine wpAny_bind (wpAny_of_eq (a := ((St l).cps, 0)) (by rfl) ?_)
  simp only [h4, h3, h2]
  refine KFB.if_not rfl ?_
  refine KFB.if_not rfl ?_
  refine wpAny_bind (wpAny_of_eq (a := ()) (by rfl) ?_)
  refine wpAny_bind (m := reRawItems (.ref C)) ?_
  unfold reRawItems
  refine wpAny_bind (wpAny_seqItems h5 h6 (wpAny_pure (wpAny_pure ?_)))
  have e : (Array.map reRawOf ((some items).getD #[])).map (·.toNat) = reCode := h7
  rw [e]
  exact h
theorem new_match {P : Addr} {l : List Nat} {t : Tok} {m : Sre.M} {j : Nat} {Q : Value → Shared → Prop} (h1 : m.start = j) (h2 : m.handed = j + 1) (h3 : m.marks = #[some j, some (j + 1)]) (h4 : m.lastmark = 1) (h5 : m.lastindex = 1)
    (h : ∀ M h', Sub s.heap h' → IsMatch h' M l j → Q (.ref M) { s with heap := h' }) : wpAny (model prog w) A (reNewMatch (.ref P) (.str (St l) t) 1 0 l.length m) Q E s := by
  unfold reNewMatch
  rw [h1, h2, h3, h4, h5]
  refine KFB.if_not (by simp) ?_
  refine wpAny_bind (wpAny_newTuple (items := [rawInt j, rawInt (j + 1 : Nat), rawInt j, rawInt (j + 1 : Nat)]) ?_ (by rw [sizeLine_eq]; simp))
  refine wpAny_newObj_type (h _ _ (fun b o e => Heap.get?_push_of_some _ (Heap.get?_push_of_some _ e)) ?_)
  exact ⟨t, .ref P, s.heap.objs.size, 0, Heap.get?_push_size _ rfl, Heap.get?_push_of_some _ (Heap.get?_push_size _ rfl)⟩
end
section
variable {W : Wo} {n : Nat}
theorem plain_loop : plainId "re.Pattern.sub.loop" = true := by decide +kernel
/-- what the calls of the lambda must give -/
def LamOk (W : Wo) (n : Nat) (f : Addr) (l : List Nat) (s₀ : Shared) : Prop :=
  ∀ (A : Around) (s : Shared) (E : Value → Shared → Prop) (Q : Value → Shared → Prop) (m : Addr) (j c : Nat), Room A n → Sub s₀.heap s.heap → IsMatch s.heap m l j → l[j]? = some c → sp c = true →
    (∀ t s', Grow s s' → Q (.str (St [92, c]) t) s') → wpAny (model W.prog W.w) A (call (.ref f) [.ref m]) Q E s
def PieceAt (h : Heap) (D : Addr) (lt : List (Str × Tok)) : Prop := ∃ k, h.get? D = some { cls := .type "list", data := .seq (strValues lt).toArray k }
theorem PieceAt.sub {h h' : Heap} {D : Addr} {lt : List (Str × Tok)} (k : Sub h h') (x : PieceAt h D lt) : PieceAt h' D lt := x.imp fun _ e => k _ _ e
theorem strSub_St (l : List Nat) (a b : Nat) : (⟨(St l).cps.extract a b⟩ : Str) = St ((l.drop a).take (b - a)) := by
  unfold St
  congr 1
  apply Array.toList_inj.mp
  simp [List.extract]
theorem push_piece {A : Around} {E : Value → Shared → Prop} {s : Shared} {D : Addr} {lt : List (Str × Tok)} {x : Str} {u : Tok} {Q : Unit → Shared → Prop} (hD : PieceAt s.heap D lt) (hz : lt.length ≤ 1000000)
    (h : ∀ h', Heap.SameBut D s.heap h' → PieceAt h' D (lt ++ [(x, u)]) → Q () { s with heap := h' }) : wpAny (model W.prog W.w) A (updateSeq D (·.push (.str x u))) Q E s := by
  obtain ⟨k, hk⟩ := hD
  have hl : (strValues lt).toArray.size = lt.length := by simp [strValues]
  refine wpAny_updateSeq hk rfl (h _ (Heap.SameBut.update ..) ⟨k + 1, ?_⟩) (by rw [hl, sizeLine_eq]; omega) (by simp only [Array.size_push]; rw [hl, sizeLine_eq]; omega)
  rw [Heap.get?_update_self _ hk (by rw [PyProof.Rows.mapSeq_push]; rfl), PyProof.Rows.mapSeq_push]
  simp [strValues]
def flatL (lt : List (Str × Tok)) : List Nat := (lt.map fun p => p.1.cps.toList).flatten
theorem flatL_snoc (lt : List (Str × Tok)) (x : List Nat) (u : Tok) : flatL (lt ++ [(St x, u)]) = flatL lt ++ x := by unfold flatL; simp [St]
theorem ite_cases {α : Type} {M : Model} {A : Around} {E : Value → Shared → Prop} {s : Shared} {c : Prop} [Decidable c] {a b : Sem α} {Q : α → Shared → Prop} (ha : c → wpAny M A a Q E s) (hb : ¬ c → wpAny M A b Q E s) : wpAny M A (if c then a else b) Q E s := by
  by_cases h : c
  · rw [if_pos h]; exact ha h
  · rw [if_neg h]; exact hb h
theorem sub_loop {f P : Addr} {l : List Nat} {t : Tok} {s₀ : Shared} {D : Addr} {R : Result → Shared → Prop} {A : Around} (hl : l.length ≤ 100000) (hA : Room A (n + 1)) (hP : IsPat s₀.heap P) (hf : LamOk W n f l s₀) (hD0 : s₀.heap.get? D = none)
    (k : ∀ t' s', Grow s₀ s' → R (.ok (.ret (.str (St (amp l)) t'))) s') :
    ∀ (fuel d : Nat) (m : Int) (s : Shared) (lt : List (Str × Tok)), l.length - d < fuel → d ≤ l.length → Grow s₀ s → PieceAt s.heap D lt → flatL lt = amp (l.take d) → lt.length ≤ 2 * d →
      codeAny (model W.prog W.w) A (.builtin "re.Pattern.sub.loop" ⟨[.ref P, .str (St l) t, .ref f, rawInt 1, rawInt 0, rawInt m, rawInt d, rawInt d, .bool false, .ref D, .bool false], []⟩) R s := by
  intro fuel
  induction fuel with
  | zero => intro d m s lt h; omega
  | succ fuel ih =>
    intro d m s lt hfu hd g hD hfl hlt
    have hsz : (St l).cps.size = l.length := by simp [St]
    have hgd : ∀ i, (St l).cps.getD i 0 = l.getD i 0 := fun i => by simp [St]
    have samePlus : ∀ {h' : Heap} {s₁ : Shared}, Grow s₀ s₁ → Heap.SameBut D s₁.heap h' → Grow s₀ { s₁ with heap := h' } := fun g₁ hs' => ⟨fun b o e => (hs'.2 b (fun q => by rw [q, hD0] at e; cases e)).trans (g₁.sub b o e), g₁.os, g₁.gens⟩
    have sizeS : ∀ a b : Nat, ((l.drop a).take (b - a)).length ≤ 100000 := fun a b => by rw [List.length_take, List.length_drop]; omega
    refine codeAny_builtin rp_entry_loop ?_
    rw [Around.under_plainId plain_loop _]
    unfold Builtin.«re.Pattern.sub.loop»
    refine wpAny_bind (whole_target (hP.sub g.sub) ?_)
    refine KFB.if_not rfl ?_
    refine wpAny_bind (KFB.if_not rfl ?_)
    rw [Int.toNat_natCast]
    refine next_found (t := theT P l t) rfl rfl rfl (by show d ≤ (St l).cps.size; rw [hsz]; exact hd) (fun j hj m₁ h1 h2 h3 h4 h5 => ?_) (fun hj => ?_)
    · obtain ⟨a1, a2, a3, a4⟩ := nextAt_some hj
      replace a2 : j < l.length := by rw [← hsz]; exact a2
      have hjc : l[j]? = some (l.getD j 0) := by rw [List.getD_eq_getElem?_getD, List.getElem?_eq_getElem a2]; rfl
      have hsp : sp (l.getD j 0) = true := by rw [← hgd]; exact a3
      have hamp := amp_some a1 hjc hsp fun i x y => by rw [← hgd]; exact a4 i x y
      dsimp only
      rw [h1, h2, show (j + 1 == j) = false by simp]
      refine ite_cases (fun hc => ?_) (fun hc => ?_)
      · refine wpAny_bind (m := reSlice (St l).cps 0 d j) ?_
        show wpAny _ _ (mkStr ⟨(St l).cps.extract d j⟩) _ _ _
        rw [strSub_St]
        refine wpAny_mkStr ?_ (by rw [St_len, sizeLine_eq]; have := sizeS d j; omega)
        refine wpAny_bind (push_piece (lt := lt) hD (by omega) fun h' hs' hD₂ => ?_)
        have g₂ := samePlus (g.trans .tok) hs'
        have hf₂ : flatL (lt ++ [(St ((l.drop d).take (j - d)), s.toks)]) = amp (l.take d) ++ (l.drop d).take (j - d) := by rw [flatL_snoc, hfl]
        have hl₂ : (lt ++ [(St ((l.drop d).take (j - d)), s.toks)]).length ≤ 2 * d + 1 := by rw [List.length_append]; simp; exact hlt
        refine KFB.if_not rfl ?_
        refine wpAny_bind (new_match (l := l) h1 h2 h3 h4 h5 fun M h'' hk hM => ?_)
        have g₃ := g₂.trans (Grow.mk' (t := s.toks + 1) hk)
        refine wpAny_bind (wpAny_holding (KFB.if_so rfl (hf _ _ _ _ M j _ hA.in1 g₃.sub hM hjc hsp fun t' s' g' => ?_)))
        refine KFB.if_so rfl ?_
        refine wpAny_bind (push_piece (PieceAt.sub g'.sub (PieceAt.sub hk hD₂)) (by omega) fun h₃ hs₃ hD₃ => ?_)
        have g₄ := samePlus (g₃.trans g') hs₃
        refine wpAny_pure ⟨plainId_quiet plain_loop _, ?_⟩
        exact ih (j + 1) (m + 1) _ _ (by omega) (by omega) g₄ hD₃ (by rw [flatL_snoc, hf₂, hamp]) (by rw [List.length_append]; simp only [List.length_cons, List.length_nil]; omega)
      · have hdj : d = j := by omega
        have hf₂ : flatL lt = amp (l.take d) ++ (l.drop d).take (j - d) := by rw [hfl, hdj]; simp
        refine KFB.if_not rfl ?_
        refine wpAny_bind (new_match (l := l) h1 h2 h3 h4 h5 fun M h'' hk hM => ?_)
        have g₃ := g.trans (Grow.mk' (t := s.toks) hk)
        refine wpAny_bind (wpAny_holding (KFB.if_so rfl (hf _ _ _ _ M j _ hA.in1 g₃.sub hM hjc hsp fun t' s' g' => ?_)))
        refine KFB.if_so rfl ?_
        refine wpAny_bind (push_piece (PieceAt.sub g'.sub (PieceAt.sub hk hD)) (by omega) fun h₃ hs₃ hD₃ => ?_)
        have g₄ := samePlus (g₃.trans g') hs₃
        refine wpAny_pure ⟨plainId_quiet plain_loop _, ?_⟩
        exact ih (j + 1) (m + 1) _ _ (by omega) (by omega) g₄ hD₃ (by rw [flatL_snoc, hf₂, hamp]) (by rw [List.length_append]; simp only [List.length_cons, List.length_nil]; omega)
    · have hn := nextAt_none hj (Nat.le_refl _)
      have hamp := amp_none hd fun i x y => by rw [← hgd]; exact hn i x (by show i < (St l).cps.size; rw [hsz]; exact y)
      dsimp only
      refine ite_cases (fun hc => ?_) (fun hc => ?_)
      · refine wpAny_bind (m := reSlice (St l).cps 0 d (St l).cps.size) ?_
        show wpAny _ _ (mkStr ⟨(St l).cps.extract d (St l).cps.size⟩) _ _ _
        rw [strSub_St, hsz]
        have ht : (l.drop d).take (l.length - d) = l.drop d := List.take_of_length_le (by rw [List.length_drop]; omega)
        rw [ht]
        refine wpAny_mkStr ?_ (by rw [St_len, sizeLine_eq, List.length_drop]; omega)
        refine wpAny_bind (push_piece (lt := lt) hD (by omega) fun h' hs' hD₂ => ?_)
        have g₂ := samePlus (g.trans .tok) hs'
        have hf₂ : flatL (lt ++ [(St (l.drop d), s.toks)]) = amp l := by rw [flatL_snoc, hfl, hamp]
        refine wpAny_bind (m := reSlice (St l).cps 0 0 0) ?_
        show wpAny _ _ (mkStr ⟨(St l).cps.extract 0 0⟩) _ _ _
        rw [strSub_St]
        refine wpAny_mkStr ?_ (by rw [St_len, sizeLine_eq]; simp)
        obtain ⟨kk, hDk⟩ := hD₂
        refine wpAny_bind (wpAny_seqItems hDk rfl ?_)
        refine ite_cases (fun he => ?_) (fun he => ?_)
        · have hnil : lt ++ [(St (l.drop d), s.toks)] = [] := by
            have : (strValues (lt ++ [(St (l.drop d), s.toks)])).toArray.isEmpty = true := he
            simpa [strValues] using this
          have hamp0 : amp l = [] := by rw [← hf₂, hnil]; rfl
          refine wpAny_bind (wpAny_pure (KFB.if_not rfl (wpAny_pure ?_)))
          have := k (s.toks + 1) _ (g₂.trans (.tok (t := (s.toks + 1) + 1)))
          rw [hamp0] at this
          simpa using this
        · have htot : ((lt ++ [(St (l.drop d), s.toks)]).map (·.1.length)).sum = (amp l).length := by
            rw [← hf₂]; unfold flatL
            rw [List.length_flatten, List.map_map]; rfl
          refine wpAny_bind (m := call (Value.builtin "str.join") [_, Value.ref D]) ?_
          refine SC.join ⟨_, hDk, rfl, _, rfl⟩ rfl ?_ fun t' tk => ?_
          · unfold JoinOk
            rw [StrLaws.joinTotal, Bool.not_eq_true']
            have e1 : (((lt ++ [(St (l.drop d), s.toks)]).map (·.1)).map (·.length)).sum = (amp l).length := by rw [List.map_map]; exact htot
            rw [e1]
            have := amp_len l
            unfold Builtin.Str.tooLong
            rw [sizeLine_eq, decide_eq_false_iff_not]
            have e2 : (St ((l.drop 0).take (0 - 0))).length = 0 := by rw [St_len]; simp
            rw [e2]; omega
          · refine KFB.if_not rfl (wpAny_pure ?_)
            have e3 : Txt.join (St ((l.drop 0).take (0 - 0))) ((lt ++ [(St (l.drop d), s.toks)]).map (·.1)) = St (amp l) := by
              have h0 : (l.drop 0).take (0 - 0) = [] := by simp
              rw [h0]
              have h1 : (lt ++ [(St (l.drop d), s.toks)]).map (·.1) = ((lt ++ [(St (l.drop d), s.toks)]).map fun p => p.1.cps.toList).map St := by
                rw [List.map_map]; apply List.map_congr_left; intro p _; simp [St]
              rw [h1, join_St, joinL_nil_sep, ← hf₂]; rfl
            rw [e3]
            exact k _ _ ((g₂.trans .tok).trans .tok)
      · have hf₂ : flatL lt = amp l := by
          have : d = l.length := by
            have : ¬ d < (St l).cps.size := hc
            rw [hsz] at this; omega
          rw [hfl, hamp, this]; simp
        refine wpAny_bind (m := reSlice (St l).cps 0 0 0) ?_
        show wpAny _ _ (mkStr ⟨(St l).cps.extract 0 0⟩) _ _ _
        rw [strSub_St]
        refine wpAny_mkStr ?_ (by rw [St_len, sizeLine_eq]; simp)
        obtain ⟨kk, hDk⟩ := hD
        refine wpAny_bind (wpAny_seqItems hDk rfl ?_)
        refine ite_cases (fun he => ?_) (fun he => ?_)
        · have hnil : lt = [] := by
            have : (strValues lt).toArray.isEmpty = true := he
            simpa [strValues] using this
          have hamp0 : amp l = [] := by rw [← hf₂, hnil]; rfl
          refine wpAny_bind (wpAny_pure (KFB.if_not rfl (wpAny_pure ?_)))
          have := k s.toks _ (g.trans (.tok (t := s.toks + 1)))
          rw [hamp0] at this
          simpa using this
        · have htot : (lt.map (·.1.length)).sum = (amp l).length := by
            rw [← hf₂]; unfold flatL
            rw [List.length_flatten, List.map_map]; rfl
          refine wpAny_bind (m := call (Value.builtin "str.join") [_, Value.ref D]) ?_
          refine SC.join ⟨_, hDk, rfl, _, rfl⟩ rfl ?_ fun t' tk => ?_
          · unfold JoinOk
            rw [StrLaws.joinTotal, Bool.not_eq_true']
            have e1 : ((lt.map (·.1)).map (·.length)).sum = (amp l).length := by rw [List.map_map]; exact htot
            rw [e1]
            have := amp_len l
            unfold Builtin.Str.tooLong
            rw [sizeLine_eq, decide_eq_false_iff_not]
            have e2 : (St ((l.drop 0).take (0 - 0))).length = 0 := by rw [St_len]; simp
            rw [e2]; omega
          · refine KFB.if_not rfl (wpAny_pure ?_)
            have e3 : Txt.join (St ((l.drop 0).take (0 - 0))) (lt.map (·.1)) = St (amp l) := by
              have h0 : (l.drop 0).take (0 - 0) = [] := by simp
              rw [h0]
              have h1 : lt.map (·.1) = (lt.map fun p => p.1.cps.toList).map St := by
                rw [List.map_map]; apply List.map_congr_left; intro p _; simp [St]
              rw [h1, join_St, joinL_nil_sep, ← hf₂]; rfl
            rw [e3]
            exact k _ _ ((g.trans .tok).trans .tok)
end
end Mine
open PySem PySem.W PyProof.Rows
set_option Elab.async false
set_option linter.unusedVariables false
set_option maxRecDepth 100000
namespace Mine
open PySem.Builtin.Re
theorem fn_lookup_call : ∃ v, typeLookup (.type "function") "__call__" = pure (some v) := ⟨.builtin "function.__call__", by rw [typeLookup_type, builtinLookup_eq_fast]; kernel_rfl⟩
theorem sub_str_ba : isSubtype (.type "str") (.type "bytearray") = pure false := by rw [isSubtype_type]; kernel_rfl
section
variable {W : Wo} {n : Nat}
theorem run_sub {f P : Addr} {l : List Nat} {t : Tok} {A : Around} {s : Shared} {R : Result → Shared → Prop} (hl : l.length ≤ 100000) (hA : Room A (n + 1)) (hP : IsPat s.heap P) (hf : LamOk W n f l s) (hF : ∃ o, s.heap.get? f = some o ∧ o.cls = .type "function")
    (k : ∀ t' s', Grow s s' → R (.ok (.ret (.str (St (amp l)) t'))) s') : wpAny (model W.prog W.w) A.in1 (Builtin.«re.Pattern.sub» ⟨[.ref P, .ref f, .str (St l) t], []⟩) (fun fin s' => match fin with | .done f => R (.ok f) s' | .again c' => c'.quiet = true ∧ codeAny (model W.prog W.w) A c' R s') (fun e s' => R (.error e) s') s := by
  obtain ⟨o, ho, hoc⟩ := hF
  obtain ⟨v, hv⟩ := fn_lookup_call
  show wpAny _ _ (reSubstitute "re.Pattern.sub" "sub" false ⟨[.ref P, .ref f, .str (St l) t], []⟩) _ _ _
  unfold reSubstitute
  refine wpAny_bind (wpAny_of_eq (a := [some (.ref f), some (.str (St l) t), none]) (by first | rfl | kernel_rfl) ?_)
  refine wpAny_bind (wpAny_pure ?_)
  refine wpAny_bind (wpAny_specialOf (T := "function") ⟨o, ho, hoc⟩ hv ?_)
  refine KFB.if_so (c := (some v).isSome) rfl ?_
  refine wpAny_bind (wpAny_pure ?_)
  refine KFB.if_so (c := (some v).isSome) rfl ?_
  refine wpAny_bind (wpAny_pure ?_)
  refine wpAny_bind (wpAny_holding (whole_target hP ?_))
  refine KFB.if_so rfl ?_
  refine wpAny_bind (m := reNotHeld "re.Pattern.sub" (.str (St l) t)) ?_
  unfold reNotHeld
  refine wpAny_bind (wpAny_isInstance (T := "str") (b := false) (typeIs_str _ _ _) sub_str_ba ?_)
  refine KFB.if_not rfl ?_
  refine wpAny_pure ?_
  refine wpAny_bind (wpAny_newList ?_ (by rw [sizeLine_eq]; simp))
  have up : Sub s.heap (s.heap.push { cls := .type "list", data := .seq ([] : List Value).toArray }) := fun b o e => Heap.get?_push_of_some _ e
  have g : Grow s { s with heap := s.heap.push { cls := .type "list", data := .seq ([] : List Value).toArray } } := ⟨up, rfl, fun e => e⟩
  refine wpAny_pure ⟨plainId_quiet plain_loop _, ?_⟩
  exact sub_loop (s₀ := s) (D := s.heap.objs.size) hl hA hP hf (get_size_none _) k (l.length + 1) 0 0 _ [] (by omega) (Nat.zero_le _) g ⟨0, Heap.get?_push_size _ rfl⟩ (by simp [flatL, amp]) (Nat.le_refl _)
theorem call_sub {f P : Addr} {l : List Nat} {t : Tok} {A : Around} {s : Shared} {E : Value → Shared → Prop} {Q : Value → Shared → Prop} (hl : l.length ≤ 100000) (hA : Room A (n + 1)) (hP : IsPat s.heap P) (hf : LamOk W n f l s) (hF : ∃ o, s.heap.get? f = some o ∧ o.cls = .type "function")
    (k : ∀ t' s', Grow s s' → Q (.str (St (amp l)) t') s') : wpAny (model W.prog W.w) A (call (.builtin "re.Pattern.sub") [.ref P, .ref f, .str (St l) t]) Q E s := by
  have hT : s.TypeIs (.ref P) "re.Pattern" := by
    obtain ⟨fs, C, items, q, h1, _⟩ := hP
    exact ⟨_, h1, rfl⟩
  exact wpAny_call (codeAny_call_builtin rp_slot.plain rp_entry (rp_slot.check _ _ _ _ _ _ _ _ hT (rp_args _ _ _) (wpAny_mono (run_sub (R := fun r s' => match r with | .ok (.ret v) => Q v s' | .ok _ => False | .error e => E e s') hl hA hP hf hF k) (fun fin s' h => by
    cases fin with
    | done f => exact h
    | again c => exact h) fun _ _ h => h)))
end
end Mine
open PySem PySem.W PyProof.Rows
set_option Elab.async false
set_option linter.unusedVariables false
set_option maxRecDepth 100000
namespace Mine
/-- a code object, its table, and where one lambda stands in it -/
structure TC where
  here : Bool
  c : Addr
  P : Addr
  q : Str
  pos : Pos
def TabOk (T : TC) (h : Heap) (hot : Addr → Prop) : Prop :=
  ∃ ps, h.get? T.P = some (tabObj ps) ∧ (ps = #[] ∨ ∃ c', ps = #[rawInt T.pos.line, rawInt T.pos.col, .ref c'] ∧ h.CodeRec (.ref c') (T.q ++ "<lambda>") ∧ ¬ hot c')
theorem TabOk.mono {T : TC} {h h' : Heap} {hot hot' : Addr → Prop} (x : TabOk T h hot) (hP : ∀ o, h.get? T.P = some o → h'.get? T.P = some o) (k : ∀ b o, ¬ hot b → h.get? b = some o → h'.get? b = some o ∧ ¬ hot' b) : TabOk T h' hot' := by
  obtain ⟨ps, e, r⟩ := x
  refine ⟨ps, hP _ e, ?_⟩
  rcases r with r | ⟨c', r1, ⟨c, o, vs, t, a, b, d⟩, r3⟩
  · exact .inl r
  · cases a
    exact .inr ⟨c', r1, ⟨c', o, vs, t, rfl, (k _ _ r3 b).1, d⟩, (k _ _ r3 b).2⟩
structure TIn (T : TC) (env : Env) (base : Shared) (σ : Store) (oa : Str → Addr) (hot : Addr → Prop) (s : Shared) : Prop where
  code : T.here = true → env.code = .ref T.c
  qual : T.here = true → env.qual = T.q
  ok : TabOk T s.heap hot
  new : base.heap.get? T.P = none
  isHot : hot T.P
  off : T.P ∉ mutL env σ oa
section
variable {T : TC} {W : Wo} {n : Nat} {sc : Scope} {σ σ' : Store} {env : Env} {base s s' : Shared} {out hot hot' : Addr → Prop} {oa oa' : Str → Addr}
theorem TIn.grow (t : TIn T env base σ oa hot s) (g : Grow s s') : TIn T env base σ oa hot s' :=
  { t with ok := t.ok.mono (fun o e => g.sub _ _ e) fun b o nb e => ⟨g.sub _ _ e, nb⟩ }
theorem TIn.keepTab (t : TIn T env base σ oa hot s) (F : Fm W env base out hot oa σ s) (g : Grow (hidden env σ oa s) s') {hot' : Addr → Prop} (hh : ∀ a, hot' a → (hot a ∧ a ∉ mutL env σ oa) ∨ (hidden env σ oa s).heap.get? a = none) : TabOk T s'.heap hot' :=
  t.ok.mono (fun o e => g.sub _ _ (hideAll_get _ e t.off)) fun b o nb e => by
    have e' : (hidden env σ oa s).heap.get? b = some o := hideAll_get _ e fun q => nb (F.mutNew _ q).2
    exact ⟨g.sub _ _ e', fun q => by
      rcases hh b q with q | q
      · exact nb q.1
      · rw [e'] at q; cases q⟩
theorem TIn.keep (t : TIn T env base σ oa hot s) (F : Fm W env base out hot oa σ s) (F' : Fm W env (hidden env σ oa s) (fun a => hot a ∧ a ∉ mutL env σ oa) hot' oa' σ' s') : TIn T env base σ' oa' hot' s' where
  code := t.code
  qual := t.qual
  ok := t.keepTab F F'.grow fun a ha => F'.hotnew a ha
  new := t.new
  isHot := F'.outhot _ ⟨t.isHot, t.off⟩
  off := fun hb => by
    obtain ⟨ps, e, _⟩ := t.ok
    have := hideAll_get _ e t.off
    have h2 := (F'.mutNew _ hb).1
    rw [show (hidden env σ oa s).heap.get? T.P = some (tabObj ps) from this] at h2
    cases h2
def ResT (T : TC) (W : Wo) (env : Env) (base : Shared) (out : Addr → Prop) : Res → Flow → Shared → Prop
  | .next σ, f, s => f = .next ∧ ∃ hot oa, Fm W env base out hot oa σ s ∧ TIn T env base σ oa hot s
  | .cont σ, f, s => f = .cont ∧ ∃ hot oa, Fm W env base out hot oa σ s ∧ TIn T env base σ oa hot s
  | .brk σ, f, s => f = .brk ∧ ∃ hot oa, Fm W env base out hot oa σ s ∧ TIn T env base σ oa hot s
  | .ret d, f, s => ∃ v, f = .ret v ∧ Grow base s ∧ Rd s.heap out d v ∧ TabOk T s.heap out
structure RunsT (T : TC) (W : Wo) (n : Nat) (sc : Scope) (st : Stmt) (σ : Store) (r : Res) : Prop where
  run : ∀ env, env.scope = sc → ∀ A, Room A n → ∀ base out hot oa s (Q : Flow → Shared → Prop) E, Fm W env base out hot oa σ s → TIn T env base σ oa hot s →
    (∀ f s', ResT T W env base out r f s' → Q f s') → wpAny (model W.prog W.w) A (exec st env) Q E s
structure RunsTL (T : TC) (W : Wo) (n : Nat) (sc : Scope) (sts : List Stmt) (σ : Store) (r : Res) : Prop where
  run : ∀ env, env.scope = sc → ∀ A, Room A n → ∀ base out hot oa s (Q : Flow → Shared → Prop) E, Fm W env base out hot oa σ s → TIn T env base σ oa hot s →
    (∀ f s', ResT T W env base out r f s' → Q f s') → wpAny (model W.prog W.w) A (execs sts env) Q E s
theorem ResT.of {r : Res} {f : Flow} (t : TIn T env base σ oa hot s) (F : Fm W env base out hot oa σ s) (h : ResOk W env (hidden env σ oa s) (fun a => hot a ∧ a ∉ mutL env σ oa) r f s') : ResT T W env base out r f s' := by
  have db : ∀ {hot' oa' σ'}, Fm W env (hidden env σ oa s) (fun a => hot a ∧ a ∉ mutL env σ oa) hot' oa' σ' s' → Fm W env base out hot' oa' σ' s' := fun F' => F'.debase F.grow_hidden F.wbase F.outMut (fun a ha => F.hotnew a ha.1) F.outlive
  cases r with
  | next σ' => obtain ⟨rfl, hot', oa', F'⟩ := h; exact ⟨rfl, hot', oa', db F', t.keep F F'⟩
  | cont σ' => obtain ⟨rfl, hot', oa', F'⟩ := h; exact ⟨rfl, hot', oa', db F', t.keep F F'⟩
  | brk σ' => obtain ⟨rfl, hot', oa', F'⟩ := h; exact ⟨rfl, hot', oa', db F', t.keep F F'⟩
  | ret d =>
    obtain ⟨v, rfl, g, rv⟩ := h
    exact ⟨v, rfl, F.grow_hidden.trans g, rv.less F.outMut, t.keepTab F g fun a ha => .inl (F.outMut a ha)⟩
theorem RunsT.of {st : Stmt} {r : Res} (h : Runs W n sc st σ r) : RunsT T W n sc st σ r :=
  ⟨fun env he A hA base out hot oa s Q E F t k => h.run env he A hA _ _ hot oa s Q E F.rebase fun f s' ok => k f s' (ResT.of t F ok)⟩
theorem RunsTL.of {sts : List Stmt} {r : Res} (h : RunsL W n sc sts σ r) : RunsTL T W n sc sts σ r :=
  ⟨fun env he A hA base out hot oa s Q E F t k => h.run env he A hA _ _ hot oa s Q E F.rebase fun f s' ok => k f s' (ResT.of t F ok)⟩
theorem RunsTL.nil : RunsTL T W n sc [] σ (.next σ) := .of .nil
theorem RunsTL.cons {st : Stmt} {sts : List Stmt} {r : Res} (h : RunsT T W n sc st σ (.next σ')) (h2 : RunsTL T W n sc sts σ' r) : RunsTL T W n sc (st :: sts) σ r :=
  ⟨fun env he A hA base out hot oa s Q E F t k => wpAny_execs_cons (h.run env he A hA base out hot oa s _ E F t fun f s' x => by
    obtain ⟨rfl, hot', oa', F', t'⟩ := x
    exact h2.run env he A hA base out hot' oa' s' Q E F' t' k)⟩
theorem RunsTL.con {st : Stmt} {sts : List Stmt} {r : Res} (h : Runs W n sc st σ (.next σ')) (h2 : RunsTL T W n sc sts σ' r) : RunsTL T W n sc (st :: sts) σ r := .cons (.of h) h2
theorem RunsT.ifT {t : PySem.Expr} {a b : List Stmt} {pos} {r : Res} (h : EvT W n sc σ t true) (ha : RunsTL T W n sc a σ r) : RunsT T W n sc (.If t a b pos) σ r :=
  ⟨fun env he A hA base out hot oa s Q E F tt k => wpAny_If (h.run env he A hA s hot _ E F.good fun s' g => by
    simp only [if_true]
    exact ha.run env he A hA base out hot oa s' Q E (F.grown g) (tt.grow g) k)⟩
theorem RunsT.ifF {t : PySem.Expr} {a b : List Stmt} {pos} {r : Res} (h : EvT W n sc σ t false) (hb : RunsTL T W n sc b σ r) : RunsT T W n sc (.If t a b pos) σ r :=
  ⟨fun env he A hA base out hot oa s Q E F tt k => wpAny_If (h.run env he A hA s hot _ E F.good fun s' g => by
    simp only [Bool.false_eq_true, if_false]
    exact hb.run env he A hA base out hot oa s' Q E (F.grown g) (tt.grow g) k)⟩
/-- the while loop: an invariant, turn by turn -/
theorem RunsT.while {t : PySem.Expr} {body : List Stmt} {pos : Pos} (P : Nat → Store → Prop) (N : Nat) (Z : Store) (h0 : P 0 σ) (step : ∀ i σ, i < N → P i σ → EvT W n sc σ t true ∧ ∃ σ', RunsTL T W n sc body σ (.next σ') ∧ P (i + 1) σ')
    (last : ∀ σ, P N σ → EvT W n sc σ t false ∧ σ = Z) : RunsT T W n sc (.While t body [] pos) σ (.next Z) :=
  ⟨fun env he A hA base out hot oa s Q E F tt k => by
    refine wpAny_While (codeAny_whileLoop (fun m s => ∃ i σ hot oa, i + m = N ∧ P i σ ∧ Fm W env base out hot oa σ s ∧ TIn T env base σ oa hot s) (fun m s₁ inv => ?_) N ⟨0, σ, hot, oa, by omega, h0, F, tt⟩)
    obtain ⟨i, σ₁, hot₁, oa₁, hi, hp, F₁, t₁⟩ := inv
    cases m with
    | zero =>
      have : i = N := by omega
      subst this
      obtain ⟨h1, rfl⟩ := last σ₁ hp
      refine h1.run env he A hA s₁ hot₁ _ _ F₁.good fun s₂ g₂ => ?_
      simp only [Bool.false_eq_true, if_false]
      exact wpAny_execs_nil (k _ _ ⟨rfl, hot₁, oa₁, F₁.grown g₂, t₁.grow g₂⟩)
    | succ m =>
      obtain ⟨h1, σ', h2, h3⟩ := step i σ₁ (by omega) hp
      refine h1.run env he A hA s₁ hot₁ _ _ F₁.good fun s₂ g₂ => ?_
      simp only [if_true]
      refine h2.run env he A hA base out hot₁ oa₁ s₂ _ _ (F₁.grown g₂) (t₁.grow g₂) fun f s₃ ok => ?_
      obtain ⟨rfl, hot', oa', F', t'⟩ := ok
      exact ⟨m, Nat.lt_succ_self _, i + 1, σ', hot', oa', by omega, h3, F', t'⟩⟩
/-- what the base tells of the code object -/
structure TB (T : TC) (W : Wo) : Prop where
  hd : CodeHd W.B T.c T.P
  bi : W.B.BuiltinsAt W.mg T.P
theorem TB.ne (b : TB T W) (hP : W.B.get? T.P = none) : mainGlobals ≠ T.P := fun q => by
  obtain ⟨o, es, ep, e, _⟩ := W.hg
  rw [q, hP] at e; cases e
/-- the lambda is made -/
theorem make_lam {A : Around} {E : Value → Shared → Prop} {Q : Value → Shared → Prop} {params : Arguments} {body : PySem.Expr} {lsc : Scope} {x : Str} (hh : T.here = true) (B : TB T W) (F : Fm W env base out hot oa σ s) (t : TIn T env base σ oa hot s)
    (hdef : defaultsOf params env = ([], [])) (hcl : closureFor lsc env = pure []) (hb : ∀ fd : FuncData, fd.params = params → fd.defaults = .none → fd.kwdefaults = .none → ∀ v : Value, bindArgs fd ⟨[v], []⟩ = pure [(x, v)])
    (k : ∀ f s', Fm W env base out hot oa σ s' → TIn T env base σ oa hot s' → (∀ d v, Rd s.heap hot d v → Rd s'.heap hot d v) → IsLam s'.heap f body lsc x → (∃ o, s'.heap.get? f = some o ∧ o.cls = .type "function") → Q (.ref f) s') :
    wpAny (model W.prog W.w) A (eval (.Lambda params body lsc T.pos) env) Q E s := by
  have hge0 := F.globals
  have sB : Sub W.B s.heap := F.good.base
  have hg : s.heap.Ns mainGlobals W.mg := W.hg.keeps sB
  have nP : W.B.get? T.P = none := none_of_sub F.wbase t.new
  have C := B.hd.keeps sB
  have hbi : s.heap.BuiltinsAt W.mg T.P := let ⟨bm, o, a1, a2, a3, a4, a5, r⟩ := B.bi; ⟨bm, o, a1, a2, a3, a4, sB _ _ a5, r⟩
  obtain ⟨ps, hP, hps⟩ := t.ok
  refine kla_eval hdef ?_
  rw [t.qual hh]
  have fin : ∀ (c' : Addr) (ctv : Value) (h' : Heap) (tk : Nat) (ps' : Array Value), (∀ b o, b ≠ T.P → s.heap.get? b = some o → h'.get? b = some o) → s.heap.objs.size ≤ h'.objs.size → h'.CodeRec (.ref c') (T.q ++ "<lambda>") → ¬ hot c' → h'.get? T.P = some (tabObj ps') →
      (ps' = #[rawInt T.pos.line, rawInt T.pos.col, .ref c']) → Q (.ref h'.objs.size) { s with heap := h'.push (kla_obj "<lambda>" (T.q ++ "<lambda>") params body lsc [] ((W.mg "__name__").getD .none) c' ctv), toks := tk } := by
    intro c' ctv h' tk ps' hk hsz hrec hnc hP' hps'
    have up : Sub h' (h'.push (kla_obj "<lambda>" (T.q ++ "<lambda>") params body lsc [] ((W.mg "__name__").getD .none) c' ctv)) := fun b o e => Heap.get?_push_of_some _ e
    have hrec' : (h'.push (kla_obj "<lambda>" (T.q ++ "<lambda>") params body lsc [] ((W.mg "__name__").getD .none) c' ctv)).CodeRec (.ref c') (T.q ++ "<lambda>") := let ⟨c, o, vs, t, a, b, d⟩ := hrec; ⟨c, o, vs, t, a, up _ _ b, d⟩
    have hk' : ∀ b o, b ∉ [T.P] → s.heap.get? b = some o → (h'.push (kla_obj "<lambda>" (T.q ++ "<lambda>") params body lsc [] ((W.mg "__name__").getD .none) c' ctv)).get? b = some o := fun b o nb e => up _ _ (hk b o (by simpa using nb) e)
    refine k _ _ (F.touch (wr := [T.P]) (tk := tk) hk' fun b hb => ?_) ⟨t.code, t.qual, ⟨ps', up _ _ hP', .inr ⟨c', hps', hrec', hnc⟩⟩, t.new, t.isHot, t.off⟩ (fun d v => Rd.mono (fun b o nb e => ⟨hk' b o (fun q => nb (by rw [List.mem_singleton.mp q]; exact t.isHot)) e, nb⟩) d v) ⟨_, _, Heap.get?_push_size _ rfl, rfl, rfl, rfl, hrec', rfl, rfl, rfl, hb _ rfl rfl rfl⟩ ⟨_, Heap.get?_push_size _ rfl, rfl⟩
    obtain rfl := List.mem_singleton.mp hb
    exact ⟨t.new, t.isHot, t.off, _, up _ _ hP'⟩
  rcases hps with rfl | ⟨c', rfl, hrec, hnc⟩
  · refine kla_makeFunction hcl hge0 hg (t.code hh) C hP trivial rfl (B.ne nP) hbi fun c' ctv h' tk hx hge hlt hrec htb => ?_
    exact fin c' ctv h' tk _ hx (by omega) hrec (fun q => by obtain ⟨o, e⟩ := F.alive _ q; exact absurd (Heap.lt_size e) (Nat.not_lt.mpr hge)) htb rfl
  · refine kla_makeFunctionHit (cv := .ref c') hcl hge0 hg (t.code hh) C hP (by exact TriplesOk_snoc _ _ _ [] trivial) (by exact codeAmong_snoc [] trivial rfl) hbi fun ctv h' tk hk hsz => ?_
    refine fin c' ctv h' tk _ (fun b o _ e => hk b o e) hsz (let ⟨c, o, vs, t, a, b, d⟩ := hrec; ⟨c, o, vs, t, a, hk _ _ b, d⟩) hnc (hk _ _ hP) rfl
end
end Mine
open PySem PySem.W PyProof.Rows
set_option Elab.async false
set_option linter.unusedVariables false
set_option maxRecDepth 100000
namespace Mine
section
variable {T : TC} {W : Wo} {n : Nat} {sc : Scope} {σ σ' : Store}
/-- what the lambda's body gives -/
def LamBody (W : Wo) (n : Nat) (lsc : Scope) (y : Str) (body : PySem.Expr) : Prop :=
  ∀ (h : Heap) (k : Sub W.B h) (m : Addr) (l : List Nat) (j c : Nat), IsMatch h m l j → l[j]? = some c → Ev (W.at h k) n lsc [(y, .val (.val (.ref m)))] body (.str [92, c])
theorem RunsT.sub {x y re : Str} {p p0 p1 apos cpos pos : Pos} {params : Arguments} {body : PySem.Expr} {lsc : Scope} {l : List Nat} {P : Addr} {lpos : Pos} (hpos : lpos = T.pos) (hh : T.here = true) (B : TB T W) (hx : (x, Slot.val (.str l)) ∈ σ) (hv : isVar sc x = true) (hl : l.length ≤ 100000)
    (hr : isGlob sc re = true) (hrm : W.mg re = some (.ref P)) (hP : IsPat W.B P) (ok : okNames lsc [y] = true) (hbody : LamBody W n lsc y body)
    (hdef : ∀ env, defaultsOf params env = ([], [])) (hcl : ∀ env, env.scope = sc → closureFor lsc env = pure []) (hb : ∀ fd : FuncData, fd.params = params → fd.defaults = .none → fd.kwdefaults = .none → ∀ v : Value, bindArgs fd ⟨[v], []⟩ = pure [(y, v)])
    (hbase : ∀ env, attributeBase (.Name re p0) "sub" env (eval (.Name re p0) env) = eval (.Name re p0) env) (hline : (apos.endLine == cpos.line) = true)
    (hn : ∀ env, starEach [.Lambda params body lsc lpos, .Name x p1] env = (false, eval (.Lambda params body lsc lpos) env) :: (false, eval (.Name x p1) env) :: starEach [] env)
    (hp : Put x (.val (.str (amp l))) σ σ') (hna : noApp x σ) (hs : ∀ env, swapsWith (.Call (.Attribute (.Name re p0) "sub" apos) [.Lambda params body lsc lpos, .Name x p1] [] cpos) (some (.Name x p)) pos.line env = pure false) :
    RunsT T W (n + 2) sc (.Assign [.Name x p] (.Call (.Attribute (.Name re p0) "sub" apos) [.Lambda params body lsc lpos, .Name x p1] [] cpos) pos) σ (.next σ') :=
  ⟨fun env he A hA base out hot oa s Q E F t k => by
    subst hpos
    refine wpAny_Assign_Name ?_ (hs env)
    refine wpAny_Call_method_lateS (hbase env) ?_ hline ((Ev.glob (n := n + 2) hr hrm).run env he A hA s hot _ E F.good fun v s₁ g₁ r₁ => ?_)
    · rw [hn]; rfl
    cases rd_val r₁
    have hP₁ := F.good.base
    obtain ⟨fs, C, items, q, hp1, hp2⟩ := hP
    have hP : IsPat W.B P := ⟨fs, C, items, q, hp1, hp2⟩
    refine ⟨"re.Pattern", "re.Pattern.sub", rp_plain, rp_slot, rp_ty, ⟨_, (F.grown g₁).good.base _ _ hp1, rfl⟩, fun a e => by cases e; exact ⟨_, (F.grown g₁).good.base _ _ hp1, rfl⟩, ?_⟩
    refine callWith_any (W := W) (by trivial) (by rw [hn]; rfl) ?_
    rw [hn]
    refine Calls.spliced_cons (make_lam hh B (F.grown g₁) (t.grow g₁) (hdef env) (hcl env he) hb fun f s₂ F₂ t₂ keepR hlam hfun => ?_)
    refine Calls.spliced_cons ((Ev.name (n := n + 2) hx hv).run env he A hA s₂ hot _ E F₂.good fun v s₃ g₃ r₃ => Calls.spliced_nil ⟨(F₂.good.grow g₃).base, ?_⟩)
    obtain ⟨u, rfl⟩ := rd_str r₃
    have F₃ := F₂.grown g₃
    refine call_sub (W := W) (n := n + 1) hl hA (hP.sub F₃.good.base) ?_ (let ⟨o, a, b⟩ := hfun; ⟨o, g₃.sub _ _ a, b⟩) fun t' s₄ g₄ => ?_
    · intro A' s' E' Q' m j c hA' hsub hm hj hsp k'
      have hB : Sub W.B s'.heap := fun b o e => hsub b o (F₃.good.base b o e)
      refine lam_call (W := W) (hot := fun _ => False) hA' hB (fun _ h => h.elim) (hlam.sub fun b o e => hsub b o (g₃.sub b o e)) ok (hbody s'.heap hB m l j c hm hj) fun v s'' g'' r'' => ?_
      obtain ⟨w, rfl⟩ := rd_str r''
      exact k' _ _ g''
    · have F₄ := F₃.grown g₄
      exact F₄.rebase.store hp mk_str hna fun s₅ F₅ => k _ _ (ResT.of ((t₂.grow g₃).grow g₄) F₄ ⟨rfl, hot, oa, F₅⟩)⟩
end
end Mine
open PySem PySem.W PyProof.Rows
set_option Elab.async false
set_option linter.unusedVariables false
set_option maxRecDepth 100000
namespace Mine
mutual
theorem Rd.off {h : Heap} {hot hot' : Addr → Prop} (k : ∀ b o, ¬ hot b → h.get? b = some o → o.cls ≠ .none → ¬ hot' b) : ∀ (d : V) (v : Value), Rd h hot d v → Rd h hot' d v
  | .none, v, x => by unfold Rd at x ⊢; exact x
  | .bool b, v, x => by unfold Rd at x ⊢; exact x
  | .int i, v, x => by unfold Rd at x ⊢; exact x
  | .str l, v, x => by unfold Rd at x ⊢; exact x
  | .bytes l, v, x => by unfold Rd at x ⊢; exact x
  | .val w, v, x => by unfold Rd at x ⊢; exact x
  | .obj, v, x => by unfold Rd at x ⊢; exact x
  | .rng a b c, v, x => by
    unfold Rd at x ⊢
    obtain ⟨r, t, u, y, rfl, ha, hr⟩ := x
    exact ⟨r, t, u, y, rfl, k r _ ha hr (by intro e; cases e), hr⟩
  | .list l, v, x => by
    unfold Rd at x ⊢
    obtain ⟨a, items, rfl, ha, ⟨n, hl⟩, hr⟩ := x
    exact ⟨a, items, rfl, k a _ ha hl (by intro e; cases e), ⟨n, hl⟩, Rds.off k l _ hr⟩
  | .tup l, v, x => by
    unfold Rd at x ⊢
    obtain ⟨a, items, rfl, ha, ⟨o, hl, r⟩, hr⟩ := x
    exact ⟨a, items, rfl, k a _ ha hl (by rw [r.1]; intro e; cases e), ⟨o, hl, r⟩, Rds.off k l _ hr⟩
theorem Rds.off {h : Heap} {hot hot' : Addr → Prop} (k : ∀ b o, ¬ hot b → h.get? b = some o → o.cls ≠ .none → ¬ hot' b) : ∀ (d : List V) (v : List Value), Rds h hot d v → Rds h hot' d v
  | [], v, x => by unfold Rds at x ⊢; exact x
  | d :: ds, v, x => by
    unfold Rds at x ⊢
    obtain ⟨v, r, rfl, h1, h2⟩ := x
    exact ⟨v, r, rfl, Rd.off k d v h1, Rds.off k ds r h2⟩
end
section
variable {T : TC} {W : Wo} {n : Nat} {sc : Scope} {σ σ' : Store} {env : Env} {base s s' : Shared} {out hot hot' : Addr → Prop} {oa oa' : Str → Addr}
/-- the heap without the table -/
abbrev noTab (T : TC) (s : Shared) : Shared := { s with heap := hideAll s.heap [T.P] }
theorem noTab_sub (T : TC) (s : Shared) : Grow (noTab T s) s := ⟨fun b o e => of_hideAll _ e, rfl, fun e => e⟩
/-- what a call leaves that writes the table -/
structure GrowT (T : TC) (s s' : Shared) : Prop where
  sub : ∀ b o, b ≠ T.P → s.heap.get? b = some o → s'.heap.get? b = some o
  os : s'.os = s.os
  gens : AllBare s.gens → AllBare s'.gens
theorem GrowT.of {T : TC} (g : Grow (noTab T s) s') : GrowT T s s' := ⟨fun b o nb e => g.sub b o (hideAll_get _ e (by simpa using nb)), g.os, g.gens⟩
/-- a frame past such a call -/
theorem Fm.growT (F : Fm W env base out hot oa σ s) (t : TIn T env base σ oa hot s) (g : GrowT T s s') (ok : TabOk T s'.heap hot) : Fm W env base out hot oa σ s' ∧ TIn T env base σ oa hot s' := by
  have ⟨ps, hP, _⟩ := ok
  have F₁ : Fm W env base out hot oa σ { s with heap := s'.heap, toks := s'.toks } := F.touch (wr := [T.P]) (fun b o nb e => g.sub b o (by simpa using nb) e) fun b hb => by
    obtain rfl := List.mem_singleton.mp hb
    exact ⟨t.new, t.isHot, t.off, _, hP⟩
  exact ⟨F₁.grown ⟨fun _ _ e => e, g.os, g.gens⟩, { t with ok := ok }⟩
theorem TIn.start {T T' : TC} (F : Fm W env s hot hot' oa σ s') (tok : TabOk T s.heap hot) (hP : hot T.P) (eP : T'.P = T.P) (eq : T'.q = T.q) (epos : T'.pos = T.pos) (hc : T'.here = true → env.code = .ref T'.c ∧ env.qual = T'.q) : TIn T' env (noTab T s) σ oa hot' s' := by
  obtain ⟨pz, ePz, hz⟩ := tok
  refine ⟨fun hh => (hc hh).1, fun hh => (hc hh).2, ?_, by rw [eP]; exact hideAll_none _ (by simp), by rw [eP]; exact F.outhot _ hP, fun hm => ?_⟩
  · have : TabOk T' s.heap hot := by rw [TabOk, eP, eq, epos]; exact ⟨pz, ePz, hz⟩
    exact this.mono (fun o e => F.grow.sub _ _ e) fun b o nb e => ⟨F.grow.sub _ _ e, fun q => by
      rcases F.hotnew b q with q | q
      · exact nb q
      · rw [q] at e; cases e⟩
  · rw [eP] at hm
    rw [(F.mutNew _ hm).1] at ePz; cases ePz
theorem code_fnT {a : Addr} {fd : FuncData} {body : List Stmt} {ps ls : List Str} {ds : List V} {c : V} {kw : List (Str × Value)} {A : Around} {s : Shared} {hot : Addr → Prop} {args vs : List Value} {R : Result → Shared → Prop} {T T' : TC} (eP : T'.P = T.P) (eq : T'.q = T.q) (epos : T'.pos = T.pos)
    (hcode : T'.here = true → fd.code = .ref T'.c ∧ fd.qualname ++ ".<locals>." = T'.q)
    (hf : IsDef W a fd body) (ok : okNames fd.scope (ps ++ ls) = true) (hp : ps.length = ds.length) (h : RunsTL T' W n fd.scope body (argStore ps ds ls) (.ret c))
    (hA : Room A (n + 1)) (hB : Sub W.B s.heap) (nP : W.B.get? T.P = none) (hP : hot T.P) (al : ∀ a, hot a → ∃ o, s.heap.get? a = some o) (tok : TabOk T s.heap hot) (hr : Rds s.heap hot ds vs) (hbind : BindsTo s fd ⟨args, kw⟩ (ps.zip vs))
    (k : ∀ v s', GrowT T s s' → TabOk T s'.heap hot → Rd s'.heap hot c v → R (.ok (.ret v)) s') : codeAny (model W.prog W.w) A (.call (.ref a) ⟨args, kw⟩) R s := by
  have ok' := okNames_ok ok
  obtain ⟨o, h1, h2⟩ := hf.get
  have hlen : ps.length = vs.length := by rw [hp, hr.length]
  refine codeAny_call_function hA.lim (hB _ _ h1) h2 ok'.co ok'.gen hf.body (let ⟨c, o, vs, t, a, b, d⟩ := hf.code; ⟨c, o, vs, t, a, hB _ _ b, d⟩) (hbind _ _ _ _ ?_)
  rw [hf.clo]
  refine wpAny_newFunctionEnv_cells ok'.kind (fun x hx => ?_) fun env he s' x => ?_
  · have := ok'.lc x.1 (List.mem_append_left _ (by have := List.of_mem_zip (a := x.1) (b := x.2) hx; exact this.1))
    rcases this with q | q
    · exact .inl q
    · exact .inr ⟨q, lookup_cellsFrom _ _ _ _ (.inl q)⟩
  · subst he
    refine ⟨(W.hnl.keeps hB).keeps x.toInCall.keep, codeAny_func ?_⟩
    have F := Fm.start (ls := ls) hB al hr hp ok' rfl hf.globals hf.builtins rfl x
    have hBn : ∀ b o, W.B.get? b = some o → b ≠ T.P := fun b o e q => by rw [q, nP] at e; cases e
    have F₁ := F.debase (base := noTab T s) (out := fun a => hot a ∧ a ≠ T.P) (noTab_sub T s) (fun b o e => hideAll_get _ (hB b o e) (by simpa using hBn b o e)) (fun a ha => ha.1)
      (fun a ha => by
        by_cases q : a = T.P
        · exact .inr (by rw [q]; exact hideAll_none _ (by simp))
        · exact .inl ⟨ha, q⟩) (fun a ha => by obtain ⟨o, e⟩ := al a ha.1; exact ⟨o, hideAll_get _ e (by simpa using ha.2)⟩)
    have t' := TIn.start (T := T) (T' := T') F tok hP eP eq epos hcode
    refine h.run _ rfl _ hA.deeper _ _ _ _ s' _ _ F₁ t' fun f s₂ r => ?_
    obtain ⟨v, rfl, g, rv, tk⟩ := r
    have tk' : TabOk T s₂.heap (fun a => hot a ∧ a ≠ T.P) := by rw [TabOk, eP, eq, epos] at tk; exact tk
    obtain ⟨p2, eP2, hz2⟩ := tk'
    refine k v s₂ (.of g) ⟨p2, eP2, ?_⟩ (Rd.off (fun b o nb e hc q => nb ⟨q, fun q2 => ?_⟩) _ _ rv)
    · rcases hz2 with hz2 | ⟨c', r1, r2, r3⟩
      · exact .inl hz2
      · refine .inr ⟨c', r1, r2, fun q => r3 ⟨q, fun q2 => ?_⟩⟩
        obtain ⟨c2, o2, vs2, t2, e1, e2, e3⟩ := r2
        cases e1
        rw [q2, eP2] at e2
        cases e2
        have : (tabObj p2).data = .fields p2 := rfl
        have e4 := e3.1
        rw [this] at e4
        cases e4
        subst r1
        have e5 := e3.2
        simp [rawInt] at e5
    · subst q2
      rw [eP2] at e
      cases e
      exact hc rfl
/-- the text's def number i, that may write the table -/
def FnT (W : Wo) (T : TC) (pw : Program) (i : Nat) (x : Str) (ps : List Str) : Prop :=
  ∃ a fd, W.mg x = some (.ref a) ∧ IsDef W a fd (fbody (nth pw i)) ∧ fd.scope = fscope (nth pw i) ∧ (∀ vs : List Value, vs.length = ps.length → bindArgs fd ⟨vs, []⟩ = pure (ps.zip vs)) ∧ (T.here = true → fd.code = .ref T.c ∧ fd.qualname ++ ".<locals>." = T.q)
theorem RunsT.callFn {T T' : TC} {pw : Program} {i : Nat} {x y : Str} {ps : List Str} (ls : List Str) {p p0 cpos pos : Pos} {args : List PySem.Expr} {ds : List V} {c : V} (eP : T'.P = T.P) (eq : T'.q = T.q) (epos : T'.pos = T.pos) (hfn : FnT W T' pw i y ps) (hg : isGlob sc y = true)
    (ha : Evs W (n + 1) sc σ args ds) (ok : okNames (fscope (nth pw i)) (ps ++ ls) = true) (hp : ps.length = ds.length) (hr : RunsTL T' W n (fscope (nth pw i)) (fbody (nth pw i)) (argStore ps ds ls) (.ret c))
    (hput : Put x (.val c) σ σ') (hna : noApp x σ) (hs : ∀ env, swapsWith (.Call (.Name y p0) args [] cpos) (some (.Name x p)) pos.line env = pure false) :
    RunsT T W (n + 1) sc (.Assign [.Name x p] (.Call (.Name y p0) args [] cpos) pos) σ (.next σ') :=
  ⟨fun env he A hA base out hot oa s Q E F t k => by
    obtain ⟨a, fd, h1, h2, h3, h4, h5⟩ := hfn
    refine wpAny_Assign_Name (wpAny_Call_NameR ((Ev.glob (n := n + 1) hg h1).run env he A hA s hot _ E F.good fun v s₁ g₁ r₁ => ?_)) (hs env)
    cases rd_val r₁
    refine callWith_any h2.callee (ha.plain env cpos).1 (ha.run env he A hA s₁ hot _ E cpos (F.grown g₁).good fun vs s₂ g₂ r₂ => ⟨((F.grown g₁).grown g₂).good.base, ?_⟩)
    have F₂ := (F.grown g₁).grown g₂
    have t₂ := (t.grow g₁).grow g₂
    have nP : W.B.get? T.P = none := none_of_sub F.wbase t.new
    refine wpAny_call (code_fnT (T := T) (T' := T') (ls := ls) eP eq epos h5 h2 (by rw [h3]; exact ok) hp (by rw [h3]; exact hr) hA F₂.good.base nP t.isHot F₂.alive t₂.ok r₂ (.of_eq (h4 vs (by rw [r₂.length, hp]))) fun v s₃ g₃ ok₃ r₃ => ?_)
    obtain ⟨F₃, t₃⟩ := F₂.growT t₂ g₃ ok₃
    exact F₃.rebase.store hput r₃ hna fun s₄ F₄ => k _ _ (ResT.of t₃ F₃ ⟨rfl, hot, oa, F₄⟩)⟩
end
end Mine
open PySem PySem.W PyProof.Rows
set_option Elab.async false
set_option linter.unusedVariables false
set_option maxRecDepth 100000
namespace Mine
theorem rds_ints {h h' : Heap} {hot hot' : Addr → Prop} : ∀ {l : List Int} {vs : List Value}, Rds h hot (l.map V.int) vs → Rds h' hot' (l.map V.int) vs
  | [], vs, r => by unfold Rds at r; subst r; exact .nil
  | i :: l, vs, r => by
    simp only [List.map_cons] at r ⊢
    unfold Rds at r; obtain ⟨v, r', rfl, h1, h2⟩ := r
    obtain ⟨t, rfl⟩ := rd_int h1
    exact .cons mk_int (rds_ints h2)
/-- a list of lists whose rows are the frame's own -/
structure MIn (env : Env) (base : Shared) (σ : Store) (oa : Str → Addr) (hot : Addr → Prop) (s : Shared) (D : Addr) (rs : List Addr) (rows : List (List Int)) : Prop where
  d : s.heap.PlainList D (rs.map Value.ref).toArray
  dn : ¬ hot D
  nd : rs.Nodup
  len : rows.length = rs.length
  row : ∀ (i : Nat) (r : Addr) (l : List Int), rs[i]? = some r → rows[i]? = some l → ∃ items, s.heap.PlainList r items ∧ Rds s.heap hot (l.map V.int) items.toList
  new : ∀ r ∈ rs, base.heap.get? r = none ∧ hot r ∧ r ∉ mutL env σ oa
section
variable {W : Wo} {n : Nat} {sc : Scope} {σ σ' : Store} {env : Env} {base s s' : Shared} {out hot hot' : Addr → Prop} {oa oa' : Str → Addr} {D : Addr} {rs : List Addr} {rows : List (List Int)}
theorem MIn.alive (m : MIn env base σ oa hot s D rs rows) : ∀ r ∈ rs, ∃ o, s.heap.get? r = some o := fun r hr => by
  obtain ⟨i, hi, e⟩ := List.mem_iff_getElem.mp hr
  obtain ⟨items, ⟨k, e2⟩, _⟩ := m.row i r (rows[i]'(by rw [m.len]; exact hi)) (by rw [List.getElem?_eq_getElem hi, e]) (List.getElem?_eq_getElem _)
  exact ⟨_, e2⟩
/-- any change that keeps what the rows need -/
theorem MIn.move (m : MIn env base σ oa hot s D rs rows) (hk : ∀ b o, b = D ∨ b ∈ rs → s.heap.get? b = some o → s'.heap.get? b = some o) (hD : ¬ hot' D) (hr : ∀ r ∈ rs, hot' r) (hm : ∀ r ∈ rs, r ∉ mutL env σ' oa') : MIn env base σ' oa' hot' s' D rs rows where
  d := let ⟨k, e⟩ := m.d; ⟨k, hk _ _ (.inl rfl) e⟩
  dn := hD
  nd := m.nd
  len := m.len
  row := fun i r l h1 h2 => let ⟨items, ⟨k, e⟩, q⟩ := m.row i r l h1 h2; ⟨items, ⟨k, hk _ _ (.inr (List.mem_of_getElem? h1)) e⟩, rds_ints q⟩
  new := fun r h => ⟨(m.new r h).1, hr r h, hm r h⟩
theorem MIn.grow (m : MIn env base σ oa hot s D rs rows) (g : Grow s s') : MIn env base σ oa hot s' D rs rows := m.move (fun b o _ e => g.sub b o e) m.dn (fun r h => (m.new r h).2.1) fun r h => (m.new r h).2.2
theorem MIn.dfree (m : MIn env base σ oa hot s D rs rows) (F : Fm W env base out hot oa σ s) : D ∉ mutL env σ oa := fun q => m.dn (F.mutNew _ q).2
theorem MIn.keep (m : MIn env base σ oa hot s D rs rows) (F : Fm W env base out hot oa σ s) (F' : Fm W env (hidden env σ oa s) (fun a => hot a ∧ a ∉ mutL env σ oa) hot' oa' σ' s') : MIn env base σ' oa' hot' s' D rs rows := by
  have hid : ∀ b o, b = D ∨ b ∈ rs → s.heap.get? b = some o → (hidden env σ oa s).heap.get? b = some o := fun b o hb e => hideAll_get _ e (by
    rcases hb with rfl | hb
    · exact m.dfree F
    · exact (m.new b hb).2.2)
  refine m.move (fun b o hb e => F'.grow.sub b o (hid b o hb e)) (fun q => ?_) (fun r h => F'.outhot _ ⟨(m.new r h).2.1, (m.new r h).2.2⟩) fun r h q => ?_
  · obtain ⟨k, e⟩ := m.d
    rcases F'.hotnew D q with q | q
    · exact m.dn q.1
    · rw [hid D _ (.inl rfl) e] at q; cases q
  · obtain ⟨o, e⟩ := m.alive r h
    have := (F'.mutNew r q).1
    rw [hid r o (.inr h) e] at this; cases this
/-- statements while the rows are the frame's own -/
structure RunsML (W : Wo) (n : Nat) (sc : Scope) (D : Addr) (rs : List Addr) (rows : List (List Int)) (sts : List Stmt) (σ : Store) (r : Res) : Prop where
  run : ∀ env, env.scope = sc → ∀ A, Room A n → ∀ base out hot oa s (Q : Flow → Shared → Prop) E, Fm W env base out hot oa σ s → MIn env base σ oa hot s D rs rows →
    (∀ f s', ResOk W env base out r f s' → Q f s') → wpAny (model W.prog W.w) A (execs sts env) Q E s
/-- a step among the rows -/
structure StepM (W : Wo) (n : Nat) (sc : Scope) (D : Addr) (rs : List Addr) (rows rows' : List (List Int)) (sts : List Stmt) (σ σ' : Store) : Prop where
  run : ∀ env, env.scope = sc → ∀ A, Room A n → ∀ base out hot oa s (Q : Flow → Shared → Prop) E, Fm W env base out hot oa σ s → MIn env base σ oa hot s D rs rows →
    (∀ hot' oa' s', Fm W env base out hot' oa' σ' s' → MIn env base σ' oa' hot' s' D rs rows' → Q .next s') → wpAny (model W.prog W.w) A (execs sts env) Q E s
/-- another way to say what a name holds -/
theorem Fm.reval {x : Str} {d d' : V} (F : Fm W env base out hot oa σ s) (hm : (x, Slot.val d) ∈ σ) (hp : Put x (.val d') σ σ') (h : ∀ v, Rd s.heap hot d v → Rd s.heap hot d' v) : Fm W env base out hot oa σ' s := by
  have back := hp.back F.nodup
  have own' : ∀ p ∈ σ', p.2.isOwn = true → p ∈ σ := fun p hp' ho => by
    rcases hp.cases F.nodup p hp' with e | a
    · subst e; cases ho
    · exact a.1
  exact { F with
    nodup := by rw [hp.names]; exact F.nodup
    isv := hp.all F.nodup (P := fun y => isVar env.scope y = true) F.isv
    lc := hp.all F.nodup (P := fun y => env.scope.names.lookup y = some .local ∨ env.scope.names.lookup y = some .cell) F.lc
    cl := fun p hp' hk => by
      obtain ⟨q, hq, e⟩ := back p hp'
      rw [← e] at hk ⊢
      exact F.cl q hq hk
    apart := fun p hp' q hq' k1 k2 c h1 h2 => by
      obtain ⟨p', a, e⟩ := back p hp'
      obtain ⟨q', b, e'⟩ := back q hq'
      rw [← e] at k1 h1 ⊢; rw [← e'] at k2 h2 ⊢
      exact F.apart p' a q' b k1 k2 c h1 h2
    ownCell := fun p hp' q hq' hk ho => by
      obtain ⟨p', a, e⟩ := back p hp'
      rw [← e] at hk ⊢
      exact F.ownCell p' a q (own' q hq' ho) hk ho
    vars := fun p hp' => by
      rcases hp.cases F.nodup p hp' with e | ⟨a, _⟩
      · subst e
        obtain ⟨v, y, z⟩ := F.vars _ hm
        exact ⟨v, y, h v z⟩
      · have old := F.vars p a
        exact old
    inj := fun p hp' q hq' h1 h2 => F.inj p (own' p hp' h1) q (own' q hq' h2) h1 h2 }
/-- the rows are changed no more -/
theorem RunsML.freeze {x : Str} {sts : List Stmt} {r : Res} (hm : (x, Slot.val (.val (.ref D))) ∈ σ) (hp : Put x (.val (.list (rows.map fun l => V.list (l.map V.int)))) σ σ') (h : RunsL W n sc sts σ' r) : RunsML W n sc D rs rows sts σ r :=
  ⟨fun env he A hA base out hot oa s Q E F m k => by
    have F₁ := F.touchOff (wr := rs) (h' := s.heap) (tk := s.toks) (fun b o _ e => e) m.new
    have F₂ := F₁.reval hm hp fun v r => ?_
    · exact h.run env he A hA base out _ oa s Q E F₂ k
    · cases rd_val r
      unfold Rd
      refine ⟨D, _, rfl, fun q => m.dn q.1, m.d, ?_⟩
      have : ∀ (rs' : List Addr) (rows' : List (List Int)), rows'.length = rs'.length → (∀ (i : Nat) (r : Addr) (l : List Int), rs'[i]? = some r → rows'[i]? = some l → r ∈ rs ∧ ∃ items, s.heap.PlainList r items ∧ Rds s.heap hot (l.map V.int) items.toList) → Rds s.heap (fun a => hot a ∧ a ∉ rs) (rows'.map fun l => V.list (l.map V.int)) (rs'.map Value.ref) := by
        intro rs'
        induction rs' with
        | nil => intro rows' hl _; rw [List.length_eq_zero_iff.mp hl]; exact .nil
        | cons r rs' ih =>
          intro rows' hl hh
          cases rows' with
          | nil => cases hl
          | cons l rows' =>
            obtain ⟨h1, items, h2, h3⟩ := hh 0 r l rfl rfl
            refine .cons ?_ (ih rows' (by simpa using hl) fun i r l e1 e2 => hh (i + 1) r l e1 e2)
            unfold Rd
            exact ⟨r, items, rfl, fun q => q.2 h1, h2, rds_ints h3⟩
      have := this rs rows m.len fun i r l e1 e2 => ⟨List.mem_of_getElem? e1, m.row i r l e1 e2⟩
      simpa using this⟩
end
end Mine
open PySem PySem.W PyProof.Rows
set_option Elab.async false
set_option linter.unusedVariables false
set_option maxRecDepth 100000
namespace Mine
section
variable {W : Wo} {n : Nat} {sc : Scope} {σ σ' : Store} {env : Env} {base s s' : Shared} {out hot hot' : Addr → Prop} {oa oa' : Str → Addr} {D : Addr} {rs : List Addr} {rows : List (List Int)}
theorem ItemOk.ofB {D : Addr} {items : Array Value} {i : Int} {v : Value} (hB : W.B.PlainList D items) (h0 : 0 ≤ i) (h1 : i < 2 ^ 63) (h : items[i.toNat]? = some v) : ItemOk W (.val (.ref D)) (.int i) (.val v) := by
  intro A hA s hot v₁ v₂ Q E hb al r1 r2 k
  cases rd_val r1; obtain ⟨u, rfl⟩ := rd_int r2
  have hl : s.heap.PlainList D items := let ⟨m, e⟩ := hB; ⟨m, hb _ _ e⟩
  exact ⟨"list", _, slot_list_getitem.lookup, (PlainList.isList hl).typeIs, @wpAny_getItem_list _ _ _ _ _ _ _ _ _ _ _ (PlainList.isList hl) h0 h1 h (k v s (.refl s) mk_val)⟩
theorem Good.at {hot : Addr → Prop} (g : Good W env σ hot s) : Good (W.at s.heap g.base) env σ hot s :=
  { base := fun b o e => e, kind := g.kind, globals := g.globals, builtins := g.builtins, cells := g.cells, vars := g.vars, alive := g.alive }
/-- table[k][k] = e -/
theorem StepM.set {x kx : Str} {p1 p2 p3 pos1 pos2 pos : Pos} {e : PySem.Expr} {i : Int} {c : Int} {l : List Int} (hm : (x, Slot.val (.val (.ref D))) ∈ σ) (hk : (kx, Slot.val (.int i)) ∈ σ) (hx : isVar sc x = true) (hkx : isVar sc kx = true) (h : Ev W n sc σ e (.int c)) (h0 : 0 ≤ i) (h2 : i < 2 ^ 63)
    (hl : rows[i.toNat]? = some l) (hi : i.toNat < l.length) (hsub : ∀ o v, subscripted (.Name kx p2) false o v = operate [o, v] (getItem o v))
    (hs : ∀ env, swapsWith e (some (.Subscript (.Subscript (.Name x p1) (.Name kx p2) pos1) (.Name kx p3) pos2)) pos.line env = pure false) :
    StepM W n sc D rs rows (rows.set i.toNat (l.set i.toNat c)) [.Assign [.Subscript (.Subscript (.Name x p1) (.Name kx p2) pos1) (.Name kx p3) pos2] e pos] σ σ :=
  ⟨fun env he A hA base out hot oa s Q E F m k => by
    have hlr : i.toNat < rs.length := by rw [← m.len]; exact (List.getElem?_eq_some_iff.mp hl).1
    obtain ⟨r, hr⟩ : ∃ r, rs[i.toNat]? = some r := ⟨_, List.getElem?_eq_getElem hlr⟩
    have hrm : r ∈ rs := List.mem_of_getElem? hr
    refine wpAny_execs_cons (wpAny_Assign_Subscript (h.run env he A hA s hot _ E F.good fun v s₁ g₁ r₁ => ?_) (hs env))
    have F₁ := F.grown g₁
    have m₁ := m.grow g₁
    have G₁ := F₁.good.at
    have hit : (rs.map Value.ref).toArray[i.toNat]? = some (.ref r) := by simp [hr]
    refine (Ev.item (W := W.at s₁.heap F₁.good.base) (n := n) (a := .val (.ref D)) (b := .int i) (c := .val (.ref r)) (Ev.name hm hx) (Ev.name hk hkx) (ItemOk.ofB m₁.d h0 h2 hit) hsub).run env he A hA s₁ hot _ E G₁ fun ov s₂ g₂ r₂ => ?_
    cases rd_val r₂
    refine (Ev.name (W := W) (n := n) hk hkx).run env he A hA s₂ hot _ E (F₁.grown g₂).good fun iv s₃ g₃ r₃ => ?_
    obtain ⟨t, rfl⟩ := rd_int r₃
    obtain ⟨u, rfl⟩ := rd_int r₁
    have F₃ := (F₁.grown g₂).grown g₃
    have m₃ := (m₁.grow g₂).grow g₃
    obtain ⟨items, ⟨km, el⟩, rr⟩ := m₃.row _ r l hr hl
    have hz : items.size = l.length := by have := rr.length; simpa using this
    refine ki_setAt (n := km) el h0 h2 (by rw [hz]; omega) (wpAny_execs_nil ?_)
    generalize hh' : s₃.heap.update r (Obj.mapSeq (·.setIfInBounds i.toNat (.int c u))) = h'
    have same : Heap.SameBut r s₃.heap h' := by rw [← hh']; exact Heap.SameBut.update ..
    have get' : h'.PlainList r (items.setIfInBounds i.toNat (.int c u)) := by
      obtain ⟨m', e⟩ : ∃ m', Obj.mapSeq (·.setIfInBounds i.toNat (.int c u)) { cls := .type "list", data := .seq items km } = { cls := .type "list", data := .seq (items.setIfInBounds i.toNat (.int c u)) m' } := ⟨_, rfl⟩
      exact ⟨m', by rw [← hh']; exact (Heap.get?_update_self _ el (by rw [e]; rfl)).trans (congrArg some e)⟩
    have kp : ∀ b o, b ∉ [r] → s₃.heap.get? b = some o → h'.get? b = some o := fun b o nb e => (same.2 b (by simpa using nb)).trans e
    have F₄ : Fm W env base out hot oa σ { s₃ with heap := h', toks := s₃.toks } := F₃.touch (wr := [r]) kp fun b hb => by
      obtain rfl := List.mem_singleton.mp hb
      obtain ⟨a1, a2, a3⟩ := m₃.new b hrm
      obtain ⟨mm, e⟩ := get'
      exact ⟨a1, a2, a3, _, e⟩
    refine k hot oa _ F₄ ⟨?_, m₃.dn, m₃.nd, by rw [List.length_set]; exact m₃.len, fun j r' l' e1 e2 => ?_, m₃.new⟩
    · obtain ⟨mm, e⟩ := m₃.d
      exact ⟨mm, kp _ _ (fun q => m₃.dn (by rw [List.mem_singleton.mp q]; exact (m₃.new r hrm).2.1)) e⟩
    · by_cases hj : j = i.toNat
      · subst hj
        rw [hr] at e1; cases e1
        rw [List.getElem?_set_self (by rw [m₃.len]; exact hlr)] at e2
        cases e2
        refine ⟨_, get', ?_⟩
        rw [Array.toList_setIfInBounds, List.map_set]
        exact (rds_ints rr).set _ mk_int
      · rw [List.getElem?_set_ne (Ne.symm hj)] at e2
        obtain ⟨items', ⟨mm, e⟩, q⟩ := m₃.row j r' l' e1 e2
        refine ⟨items', ⟨mm, kp _ _ (fun q => hj ?_) e⟩, rds_ints q⟩
        rw [List.mem_singleton] at q
        subst q
        have hj' := (List.getElem?_eq_some_iff.mp e1)
        have hi' := (List.getElem?_eq_some_iff.mp hr)
        exact (List.getElem_inj m₃.nd).mp (hj'.2.trans hi'.2.symm)⟩
end
end Mine
open PySem PySem.W PyProof.Rows
set_option Elab.async false
set_option linter.unusedVariables false
set_option maxRecDepth 100000
namespace Mine
section
variable {W : Wo} {n : Nat} {sc : Scope} {σ σ' : Store} {env : Env} {base s s' : Shared} {out hot hot' : Addr → Prop} {oa oa' : Str → Addr} {D : Addr} {rs : List Addr} {rows : List (List Int)}
/-- what stands between the turns -/
structure ForM (W : Wo) (env : Env) (base : Shared) (out : Addr → Prop) (D : Addr) (rs : List Addr) (xs : List V) (I : Addr) (fp : List Addr) (P : Nat → Value → Prop) (St : Nat → Heap → Prop) (hot : Addr → Prop) (oa : Str → Addr) (σ : Store) (rows : List (List Int)) (i : Nat) (s : Shared) : Prop where
  F : Fm W env base out hot oa σ s
  m : MIn env base σ oa hot s D rs rows
  st : St i s.heap
  mfp : ∀ b ∈ fp, b ∉ mutL env σ oa ∧ b ∉ rs
  hI : hot I
  bI : base.heap.get? I = none
  ID : I ≠ D
  item : ∀ j v x, i ≤ j → P j v → xs[j]? = some x → Rd s.heap hot x v
theorem RunsML.for {t : PySem.Expr} {body sts : List Stmt} {it : PySem.Expr} {pos : Pos} {a : V} {xs : List V} {r : Res} (σs τs : Nat → Store) (Rw : Nat → List (List Int)) (h : Ev W n sc (σs 0) it a) (hi : IterOk W a xs) (hs : ∀ env x, foldedSetIterable it env x = pure x)
    (step : ∀ i x, xs[i]? = some x → Binds W sc t x (σs i) (τs i) ∧ StepM W n sc D rs (Rw i) (Rw (i + 1)) body (τs i) (σs (i + 1))) (rest : RunsML W n sc D rs (Rw xs.length) sts (σs xs.length) r) : RunsML W n sc D rs (Rw 0) (.For t it body [] pos :: sts) (σs 0) r :=
  ⟨fun env he A hA base out hot oa s Q E F m k => by
    refine wpAny_execs_cons (wpAny_For (h.run env he A hA s hot _ E F.good fun v s₁ g₁ r₁ => hi.run A (hA.less (Nat.zero_le _)) s₁ hot v _ E (F.grown g₁).good.base (F.grown g₁).alive r₁ fun it' s₂ g₂ hI => ?_) (hs env))
    obtain ⟨I, fp, P, St, rfl, hW⟩ := hI
    have F₁ := F.grown g₁
    have m₁ := m.grow g₁
    have I0 : I ∈ fp := hW.wk.sub I (List.mem_singleton.mpr rfl)
    have aI : ∃ o, s₂.heap.get? I = some o := let ⟨o, _, e, _⟩ := (hW.live _ _ hW.st).2; ⟨o, e⟩
    have nI : ∀ b, hot b → b ≠ I := fun b hb q => by
      obtain ⟨o, e⟩ := F₁.alive b hb
      rw [q, hW.fresh] at e; cases e
    have notfp : ∀ b ∈ fp, hot b → False := fun b hb q => by
      by_cases e : b = I
      · exact nI b q e
      · exact hW.apart b hb e q
    have start : ForM W env base out D rs xs I fp P St (fun a => hot a ∨ a ∈ [I]) oa (σs 0) (Rw 0) 0 s₂ := by
      have F₂ := F₁.hotter g₂ (wr := [I]) (fun b hb => by rw [List.mem_singleton.mp hb]; exact hW.fresh) (fun b hb => by rw [List.mem_singleton.mp hb]; exact aI)
      have ID : I ≠ D := fun q => by
        obtain ⟨mm, e⟩ := m₁.d
        rw [← q, hW.fresh] at e; cases e
      refine ⟨F₂, m₁.move (fun b o _ e => g₂.sub b o e) (fun q => ?_) (fun r h => .inl (m₁.new r h).2.1) (fun r h => (m₁.new r h).2.2), hW.st, fun b hb => ⟨fun q => notfp b hb (F₁.mutNew b q).2, fun q => notfp b hb (m₁.new b q).2.1⟩, .inr (List.mem_singleton.mpr rfl), none_of_sub F₁.grow.sub hW.fresh, ID, fun j v x _ hv hx => ?_⟩
      · rcases q with q | q
        · exact m₁.dn q
        · exact ID (List.mem_singleton.mp q).symm
      · refine Rd.mono (fun b o nb e => ⟨g₂.sub b o e, fun q => ?_⟩) _ _ (hW.item j v x hv hx)
        rcases q with q | q
        · exact nb q
        · rw [List.mem_singleton.mp q, hW.fresh] at e; cases e
    refine codeAny_forLoop_any (fun c s => ∃ i hot oa, i ≤ xs.length ∧ c = xs.length - i ∧ ForM W env base out D rs xs I fp P St hot oa (σs i) (Rw i) i s) (fun c s₁ inv => ?_) _ ⟨0, _, oa, Nat.zero_le _, rfl, start⟩
    obtain ⟨i, hot₁, oa₁, hi, rfl, f⟩ := inv
    have mut_hot : ∀ b ∈ mutL env (σs i) oa₁, hot₁ b := fun b hb => (f.F.mutNew b hb).2
    by_cases hlt : i < xs.length
    · refine hW.wk.item i s₁ _ _ hlt f.st fun v h' tk hv st' hk => ?_
      obtain ⟨o, T, ho, hc, hq⟩ := (hW.live _ _ st').2
      have F₂ : Fm W env base out hot₁ oa₁ (σs i) { s₁ with heap := h', toks := tk } := f.F.touch hk fun b hb => by
        rw [List.mem_singleton.mp hb]; exact ⟨f.bI, f.hI, (f.mfp I I0).1, o, ho⟩
      have m₂ : MIn env base (σs i) oa₁ hot₁ { s₁ with heap := h', toks := tk } D rs (Rw i) := f.m.move (fun b o hb e => hk b o (fun q => by
        rw [List.mem_singleton.mp q] at hb
        rcases hb with hb | hb
        · exact f.ID hb
        · exact (f.mfp I I0).2 hb) e) f.m.dn (fun r h => (f.m.new r h).2.1) fun r h => (f.m.new r h).2.2
      have up : ∀ b o, ¬ hot₁ b → s₁.heap.get? b = some o → h'.get? b = some o ∧ ¬ hot₁ b := fun b o nb e => ⟨hk b o (fun q => nb (by rw [List.mem_singleton.mp q]; exact f.hI)) e, nb⟩
      have item' : ∀ j v x, i ≤ j → P j v → xs[j]? = some x → Rd h' hot₁ x v := fun j v x hj hv hx => Rd.mono up _ _ (f.item j v x hj hv hx)
      have hx : xs[i]? = some xs[i] := by simp [hlt]
      obtain ⟨hb, hst⟩ := step i _ hx
      refine letOwned_quiet ho hc hq ?_
      -- the target
      refine hb.run env he A (hA.less (Nat.zero_le _)) _ _ hot₁ oa₁ _ v _ _ F₂.rebase (item' i v _ (Nat.le_refl _) hv hx) fun s₃ F₃ => ?_
      have m₃ := m₂.keep F₂ F₃
      have liveFp : ∀ b ∈ fp, ∃ o, h'.get? b = some o := fun b hb => (hW.live _ _ st').1 b hb
      have kept₃ : ∀ b o, b ∉ mutL env (σs i) oa₁ → h'.get? b = some o → s₃.heap.get? b = some o := fun b o nb e => F₃.grow.sub b o (hideAll_get _ e nb)
      have st₃ : St (i + 1) s₃.heap := hW.wk.frame _ _ _ st' fun b hb o e => kept₃ b o (f.mfp b hb).1 e
      have mfp₃ : ∀ b ∈ fp, b ∉ mutL env (τs i) oa₁ := fun b hb q => by
        obtain ⟨o, e⟩ := liveFp b hb
        have := (F₃.mutNew b q).1
        rw [show (hidden env (σs i) oa₁ { s₁ with heap := h', toks := tk }).heap.get? b = some o from hideAll_get _ e (f.mfp b hb).1] at this; cases this
      have item₃ : ∀ j v x, i ≤ j → P j v → xs[j]? = some x → Rd s₃.heap hot₁ x v := fun j v x hj hv hx => Rd.mono (fun b o nb e => ⟨kept₃ b o (fun q => nb (mut_hot b q)) e, nb⟩) _ _ (item' j v x hj hv hx)
      have F₃' : Fm W env base out hot₁ oa₁ (τs i) s₃ := F₃.debase F₂.grow_hidden F₂.wbase F₂.outMut (fun a ha => F₂.hotnew a ha.1) F₂.outlive
      -- the body
      let l := mutL env (τs i) oa₁ ++ rs
      have hl : ∀ b ∈ l, hot₁ b ∧ base.heap.get? b = none := fun b hb => by
        rcases List.mem_append.mp hb with q | q
        · exact ⟨(F₃'.mutNew b q).2, (F₃'.mutNew b q).1⟩
        · exact ⟨(m₃.new b q).2.1, (m₃.new b q).1⟩
      have m₃' : MIn env (hid l s₃) (τs i) oa₁ hot₁ s₃ D rs (Rw i) := { m₃ with new := fun r h => ⟨hideAll_none _ (List.mem_append_right _ h), (m₃.new r h).2⟩ }
      refine hst.run env he A hA _ _ hot₁ oa₁ s₃ _ _ (F₃'.rebaseX (l := l) (fun b hb => List.mem_append_left _ hb) hl) m₃' fun hot₄ oa₄ s₄ F₄ m₄ => ?_
      have F₄' : Fm W env base out hot₄ oa₄ (σs (i + 1)) s₄ := F₄.debase (grow_hid F₃' hl) F₃'.wbase (out_hid F₃' hl) (fun a ha => F₃'.hotnew a ha.1) F₃'.outlive
      have m₄' : MIn env base (σs (i + 1)) oa₄ hot₄ s₄ D rs (Rw (i + 1)) := { m₄ with new := fun r h => ⟨(m₃.new r h).1, (m₄.new r h).2⟩ }
      have kept₄ : ∀ b o, b ∉ l → s₃.heap.get? b = some o → s₄.heap.get? b = some o := fun b o nb e => F₄.grow.sub b o (hideAll_get _ e nb)
      have fpl : ∀ b ∈ fp, b ∉ l := fun b hb q => by
        rcases List.mem_append.mp q with q | q
        · exact mfp₃ b hb q
        · exact (f.mfp b hb).2 q
      have live₃ : ∀ b ∈ fp, ∃ o, s₃.heap.get? b = some o := fun b hb => let ⟨o, e⟩ := liveFp b hb; ⟨o, kept₃ b o (f.mfp b hb).1 e⟩
      refine ⟨xs.length - (i + 1), by omega, i + 1, hot₄, oa₄, hlt, rfl, F₄', m₄', hW.wk.frame _ _ _ st₃ fun b hb o e => kept₄ b o (fpl b hb) e, fun b hb => ⟨fun q => ?_, (f.mfp b hb).2⟩, F₄.outhot I ⟨f.hI, fpl I I0⟩, f.bI, f.ID, fun j v x hj hv hx => ?_⟩
      · obtain ⟨o, e⟩ := live₃ b hb
        have := (F₄.mutNew b q).1
        rw [show (hid l s₃).heap.get? b = some o from hideAll_get _ e (fpl b hb)] at this; cases this
      · refine Rd.mono (fun b o nb e => ?_) _ _ (item₃ j v x (by omega) hv hx)
        have nl : b ∉ l := fun q => nb (hl b q).1
        have e1 : (hid l s₃).heap.get? b = some o := hideAll_get _ e nl
        refine ⟨F₄.grow.sub b o e1, fun q => ?_⟩
        rcases F₄.hotnew b q with q | q
        · exact nb q.1
        · rw [e1] at q; cases q
    · have hi' : i = xs.length := by omega
      subst hi'
      refine hW.wk.done s₁ _ _ f.st fun h' tk hk => ?_
      have F₂ : Fm W env base out (fun a => hot₁ a ∧ a ∉ [I]) oa₁ (σs xs.length) { s₁ with heap := h', toks := tk } := f.F.touchOff hk fun b hb => by
        rw [List.mem_singleton.mp hb]; exact ⟨f.bI, f.hI, (f.mfp I I0).1⟩
      have nDI : ∀ b, b = D ∨ b ∈ rs → b ∉ [I] := fun b hb q => by
        rw [List.mem_singleton.mp q] at hb
        rcases hb with hb | hb
        · exact f.ID hb
        · exact (f.mfp I I0).2 hb
      have m₂ : MIn env base (σs xs.length) oa₁ (fun a => hot₁ a ∧ a ∉ [I]) { s₁ with heap := h', toks := tk } D rs (Rw xs.length) := f.m.move (fun b o hb e => hk b o (nDI b hb) e) (fun q => f.m.dn q.1) (fun r h => ⟨(f.m.new r h).2.1, nDI r (.inr h)⟩) fun r h => (f.m.new r h).2.2
      exact wpAny_execs_nil (rest.run env he A hA base out _ oa₁ _ Q E F₂ m₂ k)⟩
end
end Mine
open PySem PySem.W PyProof.Rows
set_option Elab.async false
set_option linter.unusedVariables false
set_option maxRecDepth 100000
namespace Mine
section
variable {W : Wo} {n : Nat} {sc : Scope} {σ σ' : Store}
/-- x = [[..] ..]: rows of the frame's own -/
theorem RunsL.rows {x : Str} {p spos : Pos} {elt t iter : PySem.Expr} {ifs : List PySem.Expr} {scope : Scope} {pos : Pos} (ts : List Str) {a : V} {xs : List V} {rows : List (List Int)} {sts : List Stmt} {r : Res}
    (ok : okComp scope sc ts = true) (hi : ∀ (h : Heap) (k : Sub W.B h), Ev (W.at h k) n sc σ iter a) (hx : ∀ (h : Heap) (k : Sub W.B h), IterOk (W.at h k) a xs)
    (hE : ∀ (h : Heap) (k : Sub W.B h), EmitL (W.at h k) n (relabelS scope sc) scope σ t ifs (EmitF true (W.at h k) n (relabelS scope sc) scope σ elt []) xs (ts.map fun x => (x, Slot.unset)) (rows.map fun l => V.list (l.map V.int))) (hz : rows.length ≤ 1000)
    (hg : ∀ e : Env, ∀ c ∈ (⟨t, iter, ifs, 0⟩ : Comprehension) :: [], PlainG e c) (hn : noApp x σ) (hs : ∀ env, env.scope = sc → swapsWith (.ListComp elt [⟨t, iter, ifs, 0⟩] scope pos) (some (.Name x p)) spos.line env = pure true)
    (rest : ∀ D rs, ∃ σ', Put x (.val (.val (.ref D))) σ σ' ∧ RunsML W n sc D rs rows sts σ' r) :
    RunsL W n sc (.Assign [.Name x p] (.ListComp elt [⟨t, iter, ifs, 0⟩] scope pos) spos :: sts) σ r :=
  ⟨fun env he A hA base out hot oa s Q E F k => by
    refine wpAny_execs_cons ?_
    rw [exec_Assign_Name_used _ _ _ _ (hs env he)]
    refine wpAny_bind (wpAny_standAt (wpAny_bind ?_))
    show wpAny _ A (do let _ ← comprehension (PySem.Expr.ListComp elt [⟨t, iter, ifs, 0⟩] scope pos) scope env _ (newList []) false (eval iter env) (some (PySem.assign (PySem.Expr.Name x p) env))) _ _ s
    refine wpAny_bind ?_
    refine comp_core (fl := true) (W := W.at s.heap F.good.base) (Q := fun v s' => wpAny (model W.prog W.w) A (pure ()) (fun _ s => wpAny (model W.prog W.w) A (pure Flow.next) _ E s) E s') ok he hA F.good.at (hi _ _) (hx _ _) (hE _ _) (by rw [List.length_map]; omega) hg fun s' C D g' hC hn' r' hne hD => ?_
    obtain ⟨m, hm⟩ := hn'
    obtain ⟨hDn, items, hpl, hrd, hj⟩ := hD
    obtain ⟨_, j2, j3⟩ := hj rfl
    have aC : ∃ o, s'.heap.get? C = some o := let ⟨o, _, _, e, _⟩ := hm; ⟨o, e⟩
    -- the rows
    obtain ⟨rs, hrs, hnew⟩ : ∃ rs : List Addr, items.toList = rs.map Value.ref ∧ ∀ r ∈ rs, s.heap.get? r = none := by
      have : ∀ l : List Value, (∀ v ∈ l, ∃ a, v = .ref a ∧ s.heap.get? a = none) → ∃ rs : List Addr, l = rs.map Value.ref ∧ ∀ r ∈ rs, s.heap.get? r = none := by
        intro l
        induction l with
        | nil => exact fun _ => ⟨[], rfl, by simp⟩
        | cons v l ih =>
          intro h
          obtain ⟨a, rfl, ha⟩ := h _ (List.mem_cons_self ..)
          obtain ⟨rs, e, hr⟩ := ih fun v hv => h v (List.mem_cons_of_mem _ hv)
          exact ⟨a :: rs, by rw [e]; rfl, fun r hr' => (List.mem_cons.mp hr').elim (fun q => q ▸ ha) fun q => hr r q⟩
      exact this _ j2
    have hitems : items = (rs.map Value.ref).toArray := by rw [← hrs]
    subst hitems
    have nd : rs.Nodup := by
      rw [hrs] at j3
      exact List.Pairwise.of_map Value.ref (fun a b h e => h (by rw [e])) j3
    have hrows : ∀ (rs' : List Addr) (rows' : List (List Int)), Rds s'.heap (fun a => hot a ∨ a = C ∨ a = D) (rows'.map fun l => V.list (l.map V.int)) (rs'.map Value.ref) → rows'.length = rs'.length ∧ ∀ (i : Nat) (r : Addr) (l : List Int), rs'[i]? = some r → rows'[i]? = some l → r ≠ C ∧ r ≠ D ∧ ∃ its, s'.heap.PlainList r its ∧ Rds s'.heap (fun a => hot a ∨ a = C ∨ a = D) (l.map V.int) its.toList := by
      intro rs'
      induction rs' with
      | nil =>
        intro rows' h
        cases rows' with
        | nil => exact ⟨rfl, fun i r l e => by simp at e⟩
        | cons l rows' => simp only [List.map_cons, List.map_nil] at h; unfold Rds at h; obtain ⟨_, _, e, _⟩ := h; cases e
      | cons r rs' ih =>
        intro rows' h
        cases rows' with
        | nil => simp only [List.map_cons, List.map_nil] at h; unfold Rds at h; cases h
        | cons l rows' =>
          simp only [List.map_cons] at h
          unfold Rds at h
          obtain ⟨v, r', e, h1, h2⟩ := h
          cases e
          obtain ⟨a1, its, e, na, hl, hr⟩ := rd_list h1
          cases e
          obtain ⟨i1, i2⟩ := ih rows' h2
          refine ⟨by simp [i1], fun i r l e1 e2 => ?_⟩
          cases i with
          | zero =>
            simp at e1 e2; subst e1; subst e2
            exact ⟨fun q => na (.inr (.inl q)), fun q => na (.inr (.inr q)), its, hl, hr⟩
          | succ i => exact i2 i r l (by simpa using e1) (by simpa using e2)
    obtain ⟨hlen, hrow⟩ := hrows rs rows (by simpa using hrd)
    have hall : ∀ r ∈ rs, r ≠ C ∧ r ≠ D ∧ ∃ o, s'.heap.get? r = some o := fun r hr => by
      obtain ⟨i, hi, e⟩ := List.mem_iff_getElem.mp hr
      obtain ⟨a1, a2, its, ⟨mm, e3⟩, _⟩ := hrow i r (rows[i]'(by rw [hlen]; exact hi)) (by rw [List.getElem?_eq_getElem hi, e]) (List.getElem?_eq_getElem _)
      exact ⟨a1, a2, _, e3⟩
    have wrNew : ∀ b ∈ C :: rs, s.heap.get? b = none := fun b hb => by
      rcases List.mem_cons.mp hb with q | q
      · exact q ▸ hC
      · exact hnew b q
    have wrAl : ∀ b ∈ C :: rs, ∃ o, s'.heap.get? b = some o := fun b hb => by
      rcases List.mem_cons.mp hb with q | q
      · exact q ▸ aC
      · exact (hall b q).2.2
    have F₁ := F.hotter g' (wr := C :: rs) wrNew wrAl
    have notMut : ∀ b, s.heap.get? b = none → b ∉ mutL env σ oa := fun b hb q => by
      obtain ⟨o, e⟩ := F.alive b (F.mutNew b q).2
      rw [hb] at e; cases e
    have notHot : ∀ b, s.heap.get? b = none → ¬ hot b := fun b hb q => by
      obtain ⟨o, e⟩ := F.alive b q
      rw [hb] at e; cases e
    have DnC : D ∉ C :: rs := fun q => by
      rcases List.mem_cons.mp q with q | q
      · exact hne q
      · exact (hall D q).2.1 rfl
    have m₁ : MIn env base σ oa (fun a => hot a ∨ a ∈ C :: rs) s' D rs rows :=
      ⟨hpl, fun q => q.elim (notHot D hDn) DnC, nd, hlen, fun i r l e1 e2 => let ⟨_, _, its, a, b⟩ := hrow i r l e1 e2; ⟨its, a, rds_ints b⟩, fun r hr => ⟨none_of_sub F.grow.sub (hnew r hr), .inr (List.mem_cons_of_mem _ hr), notMut r (hnew r hr)⟩⟩
    obtain ⟨σ', hp, hrest⟩ := rest D rs
    show wpAny _ A (PySem.assign (PySem.Expr.Name x p) env (Value.ref D)) _ E s'
    have Fr := F₁.rebase
    refine wpAny_assign_Name (Fr.store hp mk_val hn fun s₂ F₂ => ?_)
    have m₂ := m₁.keep F₁ F₂
    have Cm := notMut C hC
    have hmC : s₂.heap.Ns C m := hm.at' fun o e => F₂.grow.sub C o (hideAll_get _ e Cm)
    have F₃ : Fm W env base out (fun a => hot a ∨ a ∈ C :: rs) oa σ' s₂ := F₂.debase F₁.grow_hidden F₁.wbase F₁.outMut (fun a ha => F₁.hotnew a ha.1) F₁.outlive
    refine ⟨m, hmC, fun h' hs' => wpAny_pure (wpAny_pure ?_)⟩
    have kp : ∀ b o, b ∉ [C] → s₂.heap.get? b = some o → h'.get? b = some o := fun b o hb e => (hs'.2 b (fun q => hb (List.mem_singleton.mpr q))).trans e
    have F₄ := F₃.touchOff (tk := s₂.toks) (wr := [C]) kp fun b hb => by
      rw [List.mem_singleton.mp hb]
      refine ⟨none_of_sub F.grow.sub hC, .inr (List.mem_cons_self ..), fun q => ?_⟩
      have := (F₂.mutNew C q).1
      obtain ⟨o, e⟩ := aC
      rw [show (hidden env σ oa s').heap.get? C = some o from hideAll_get _ e Cm] at this; cases this
    have nC : ∀ b, b = D ∨ b ∈ rs → b ∉ [C] := fun b hb q => by
      rw [List.mem_singleton.mp q] at hb
      rcases hb with hb | hb
      · exact hne hb.symm
      · exact (hall C hb).1 rfl
    have m₄ := m₂.move (s' := { s₂ with heap := h', toks := s₂.toks }) (hot' := fun a => (hot a ∨ a ∈ C :: rs) ∧ a ∉ [C]) (σ' := σ') (oa' := oa) (fun b o hb e => kp b o (nC b hb) e) (fun q => m₂.dn q.1) (fun r h => ⟨(m₂.new r h).2.1, nC r (.inr h)⟩) fun r h => (m₂.new r h).2.2
    exact hrest.run env he A hA base out _ oa _ Q E F₄ m₄ k⟩
end
end Mine
open PySem PySem.W PyProof.Rows
set_option Elab.async false
set_option linter.unusedVariables false
set_option maxRecDepth 100000
namespace Mine
def hd1 (a : String) : Nat := (L a).headD 0
theorem one_L {a : String} (h : L a = [hd1 a]) : Str.ofString a = St [hd1 a] := by rw [ofString_L, h]
local macro_rules | `(tactic| walk_at "m mem") => `(tactic| (repeat (first | with_reducible exact List.mem_cons_self .. | refine List.mem_cons_of_mem _ ?_)))
local macro_rules | `(tactic| walk_at "m put") => `(tactic| (repeat (first | with_reducible exact Put.here | refine Put.there ?_)))
local macro_rules | `(tactic| walk_at "m app") => `(tactic| (repeat (first | exact noApp.nil | refine noApp.val ?_ | refine noApp.own ?_ | refine noApp.unset ?_ | refine noApp.app (by decide) ?_)))
section
variable {W : Wo} {n : Nat}
theorem rsub_le {l r : List Nat} {c k : Nat} (h : r.length ≤ k) (hk : 1 ≤ k) : (rsub l c r).length ≤ k * l.length := by
  induction l with
  | nil => simp [rsub]
  | cons x l ih =>
    unfold rsub at ih ⊢
    rw [List.flatMap_cons, List.length_append, List.length_cons, Nat.mul_succ]
    have : (if x = c then r else [x]).length ≤ k := by
      split
      · exact h
      · simpa using hk
    omega
/-- two more letters, and how long it may get -/
theorem esc_bound {l z : List Nat} {m : Nat} (hl : l.length ≤ m ∧ m ≤ 1000000) (hz : z.length ≤ 6) : l.length + (l.length + 1) * z.length ≤ 16777216 := by
  have : (l.length + 1) * z.length ≤ (l.length + 1) * 6 := Nat.mul_le_mul_left _ hz
  omega
theorem esc_grow {l : List Nat} {m : Nat} (c : String) (z : List Nat) (k : Nat) (hl : l.length ≤ m) (hz : z.length ≤ k ∧ 1 ≤ k) : (rsub l (hd1 c) z).length ≤ k * m :=
  Nat.le_trans (rsub_le (l := l) (c := hd1 c) hz.1 hz.2) (Nat.mul_le_mul_left _ hl)
local macro_rules | `(tactic| walk_at "m repl") => `(tactic| (refine RunsL.cons (Runs.ifReplace (by walk_at "m mem") (by walk_at "m put") (by walk_at "m app") (one_L (by decide +kernel)) (one_L (by decide +kernel)) (ofString_L _) (by decide +kernel) (esc_bound (by first | assumption | exact ⟨by assumption, by decide⟩) (by decide +kernel)) (by decide +kernel) (fun _ => by rfl) (by rfl) (fun _ => by rfl) (fun _ => by rfl) (by rfl)) ?_))
def rs (l : List Nat) (p : String × String) : List Nat := rsub l (hd1 p.1) (L p.2)
def escTable : Nat → List (String × String)
  | 0 => [("&", "&amp;"), ("<", "&lt;"), (">", "&gt;")]
  | 1 => [("&", "&amp;"), ("<", "&lt;"), (">", "&gt;"), ("\r", "&#xD;")]
  | 2 => [("&", "&amp;"), ("<", "&lt;"), (">", "&gt;"), ("\"", "&quot;"), ("\r", "&#13;"), ("\n", "&#10;"), ("\t", "&#09;")]
  | 3 => [("&", "&amp;"), ("<", "&lt;"), ("\"", "&quot;"), ("\t", "&#x9;"), ("\n", "&#xA;"), ("\r", "&#xD;")]
  | _ => [("&", "&amp;"), (">", "&gt;"), ("\"", "&quot;")]
def escaped (way : Nat) (l : List Nat) : List Nat := (escTable way).foldl rs l
theorem esc_0 {l : List Nat} (hl : l.length ≤ 60) : RunsL W n (fscope (nth pw 20)) (fbody (nth pw 20)) (argStore ["text"] [.str l] []) (.ret (.str (escaped 0 l))) := by
  refine RunsL.one (Runs.try ?_)
  show RunsL W n _ _ [("text", .val (.str l))] _
  have hl := hl
  walk_at "m repl"
  have hl := esc_grow "&" (L "&amp;") 5 hl (by decide +kernel)
  walk_at "m repl"
  have hl := esc_grow "<" (L "&lt;") 4 hl (by decide +kernel)
  walk_at "m repl"
  exact RunsL.ret (Runs.ret (Ev.name (List.mem_cons_self ..) (by decide +kernel)))
theorem esc_1 {l : List Nat} (hl : l.length ≤ 60) : RunsL W n (fscope (nth pw 23)) (fbody (nth pw 23)) (argStore ["text"] [.str l] []) (.ret (.str (escaped 1 l))) := by
  refine RunsL.one (Runs.try ?_)
  show RunsL W n _ _ [("text", .val (.str l))] _
  walk_at "m repl"
  have hl := esc_grow "&" (L "&amp;") 5 hl (by decide +kernel)
  walk_at "m repl"
  have hl := esc_grow "<" (L "&lt;") 4 hl (by decide +kernel)
  walk_at "m repl"
  have hl := esc_grow ">" (L "&gt;") 4 hl (by decide +kernel)
  walk_at "m repl"
  exact RunsL.ret (Runs.ret (Ev.name (List.mem_cons_self ..) (by decide +kernel)))
theorem esc_2 {l : List Nat} (hl : l.length ≤ 60) : RunsL W n (fscope (nth pw 21)) (fbody (nth pw 21)) (argStore ["text"] [.str l] []) (.ret (.str (escaped 2 l))) := by
  refine RunsL.one (Runs.try ?_)
  show RunsL W n _ _ [("text", .val (.str l))] _
  walk_at "m repl"
  have hl := esc_grow "&" (L "&amp;") 5 hl (by decide +kernel)
  walk_at "m repl"
  have hl := esc_grow "<" (L "&lt;") 4 hl (by decide +kernel)
  walk_at "m repl"
  have hl := esc_grow ">" (L "&gt;") 4 hl (by decide +kernel)
  walk_at "m repl"
  have hl := esc_grow "\"" (L "&quot;") 6 hl (by decide +kernel)
  walk_at "m repl"
  have hl := esc_grow "\r" (L "&#13;") 5 hl (by decide +kernel)
  walk_at "m repl"
  have hl := esc_grow "\n" (L "&#10;") 5 hl (by decide +kernel)
  walk_at "m repl"
  exact RunsL.ret (Runs.ret (Ev.name (List.mem_cons_self ..) (by decide +kernel)))
theorem esc_3 {l : List Nat} (hl : l.length ≤ 60) : RunsL W n (fscope (nth pw 24)) (fbody (nth pw 24)) (argStore ["text"] [.str l] []) (.ret (.str (escaped 3 l))) := by
  refine RunsL.one (Runs.try ?_)
  show RunsL W n _ _ [("text", .val (.str l))] _
  walk_at "m repl"
  have hl := esc_grow "&" (L "&amp;") 5 hl (by decide +kernel)
  walk_at "m repl"
  have hl := esc_grow "<" (L "&lt;") 4 hl (by decide +kernel)
  walk_at "m repl"
  have hl := esc_grow "\"" (L "&quot;") 6 hl (by decide +kernel)
  walk_at "m repl"
  have hl := esc_grow "\t" (L "&#x9;") 5 hl (by decide +kernel)
  walk_at "m repl"
  have hl := esc_grow "\n" (L "&#xA;") 5 hl (by decide +kernel)
  walk_at "m repl"
  exact RunsL.ret (Runs.ret (Ev.name (List.mem_cons_self ..) (by decide +kernel)))
theorem esc_4 {l : List Nat} (hl : l.length ≤ 60) : RunsL W n (fscope (nth pw 22)) (fbody (nth pw 22)) (argStore ["text"] [.str l] []) (.ret (.str (escaped 4 l))) := by
  refine RunsL.one (Runs.try ?_)
  show RunsL W n _ _ [("text", .val (.str l))] _
  walk_at "m repl"
  have hl := esc_grow "&" (L "&amp;") 5 hl (by decide +kernel)
  walk_at "m repl"
  have hl := esc_grow ">" (L "&gt;") 4 hl (by decide +kernel)
  walk_at "m repl"
  exact RunsL.ret (Runs.ret (Ev.name (List.mem_cons_self ..) (by decide +kernel)))
end
end Mine
open PySem PySem.W PyProof.Rows
set_option Elab.async false
set_option linter.unusedVariables false
set_option maxRecDepth 100000
namespace Mine
local macro_rules | `(tactic| walk_at "m mem") => `(tactic| (first | with_reducible exact List.mem_cons_self .. | (with_reducible refine InS.own ?_; walk_at "m mem") | (with_reducible refine InS.free ?_ (by decide +kernel); walk_at "m mem") | (with_reducible refine List.mem_cons_of_mem _ ?_; walk_at "m mem")))
local macro_rules | `(tactic| walk_at "m put") => `(tactic| (repeat (first | with_reducible exact Put.here | with_reducible apply Put.there)))
local macro_rules | `(tactic| walk_at "m app") => `(tactic| (repeat (first | exact noApp.nil | refine noApp.val ?_ | refine noApp.own ?_ | refine noApp.unset ?_ | refine noApp.app (by decide) ?_)))
local macro_rules | `(tactic| walk_at "m nm") => `(tactic| (refine Ev.name (by walk_at "m mem") (by decide +kernel)))
local macro_rules | `(tactic| walk_at "m evs") => `(tactic| (repeat (first | exact Evs.nil | refine Evs.cons ?_ ?_ (fun _ => by rfl))))
section
variable {W : Wo} {n : Nat}
def signs1 (letters : List Nat) : List Nat := letters ++ L "&<>\"\r\n\t"
def bit (cell : Int) (k : Nat) : Bool := (cell.fdiv (2 ^ ((0 + (k : Int) * 1) + 1).toNat)).fmod 2 == 1
def memberL (letters : List Nat) (cell : Int) : List (List Nat) := ((List.range (Builtin.Range.rangeSize 0 11 1).toNat).filter (bit cell)).map fun k => [((signs1 letters)[k]?).getD 0]
def members (letters : List Nat) (cell : Int) : List Nat := L ";" ++ joinL (L "") (memberL letters cell)
structure G1 (W : Wo) : Prop where
  range : W.mg "range" = Option.none
  len : W.mg "len" = Option.none
theorem bb_range : bootBuiltins "range" = some (.type "range") := by decide +kernel
theorem bb_len : bootBuiltins "len" = some (.builtin "len") := by decide +kernel
theorem Ev.range1 {sc : Scope} {σ : Store} {e : PySem.Expr} {p pos : Pos} {b : Int} (G : G1 W) (hg : isGlob sc "range" = true) (h : Ev W n sc σ e (.int b)) (hn : ∀ env, starEach [e] env = (false, eval e env) :: starEach [] env) : Ev W n sc σ (.Call (.Name "range" p) [e] [] pos) (.rng 0 b 1) :=
  Ev.call (Ev.builtin hg G.range bb_range) (.cons h .nil hn) (by trivial) CallOk.range_1
theorem Ev.len {sc : Scope} {σ : Store} {e : PySem.Expr} {p pos : Pos} {a : V} {b : Int} (G : G1 W) (hg : isGlob sc "len" = true) (h : Ev W n sc σ e a) (hk : CallOk W n (.builtin "len") [a] (.int b)) (hn : ∀ env, starEach [e] env = (false, eval e env) :: starEach [] env) : Ev W n sc σ (.Call (.Name "len" p) [e] [] pos) (.int b) :=
  Ev.call (Ev.builtin hg G.len bb_len) (.cons h .nil hn) (by trivial) hk
theorem plain1 {c : Comprehension} (h : ∀ e, PlainG e c) : ∀ (e : Env) (c' : Comprehension), c' ∈ [c] → PlainG e c' := fun e c' hc => by
  rcases List.mem_cons.mp hc with q | q
  · exact q ▸ h e
  · exact nomatch q
theorem join_strs {α : Type} {sep : List Nat} {xs : List α} (g : α → List Nat) (B : Nat) (hB : ∀ x ∈ xs, (g x).length ≤ B) (hz : xs.length * B + xs.length * sep.length ≤ 16777216) :
    CallOk W n (.builtin "str.join") [.str sep, .list (xs.map fun x => V.str (g x))] (.str (joinL sep (xs.map g))) := by
  have := CallOk.join (W := W) (n := n) (sep := sep) (ls := xs.map g) B (fun y hy => by
    obtain ⟨x, hx, rfl⟩ := List.mem_map.mp hy
    exact hB x hx) (by rw [List.length_map]; exact hz)
  rwa [List.map_map] at this
theorem flatten_le {m : Nat} : ∀ {ls : List (List Nat)}, (∀ y ∈ ls, y.length ≤ m) → ls.flatten.length ≤ ls.length * m
  | [], _ => by simp
  | y :: ls, h => by
    have h1 := h y (List.mem_cons_self ..)
    have h2 := flatten_le (ls := ls) fun z hz => h z (List.mem_cons_of_mem _ hz)
    rw [List.flatten_cons, List.length_append, List.length_cons, Nat.succ_mul]; omega
theorem memberL_len (letters : List Nat) (cell : Int) : (memberL letters cell).length ≤ 11 := by
  unfold memberL
  rw [List.length_map]
  exact Nat.le_trans (List.length_filter_le _ _) (by rw [List.length_range]; decide +kernel)
theorem members_len (letters : List Nat) (cell : Int) : (members letters cell).length ≤ 12 := by
  unfold members
  have e : L "" = [] := by decide +kernel
  have e1 : (L ";").length = 1 := by decide +kernel
  rw [e, joinL_nil_sep, List.length_append, e1]
  have := flatten_le (m := 1) (ls := memberL letters cell) (fun y hy => by
    unfold memberL at hy
    obtain ⟨x, _, rfl⟩ := List.mem_map.mp hy
    exact Nat.le_refl _)
  have := memberL_len letters cell
  omega
theorem chAt_nat {l : List Nat} {k : Nat} {i : Int} (d : Nat) (hk : k < l.length) (hi : i = k) : chAt l i = some ((l[k]?).getD d) := by
  subst hi
  unfold chAt
  rw [StrLaws.seqIndex_nonneg (by omega) (by exact_mod_cast hk)]
  simp [List.getElem?_eq_getElem hk]
theorem law_members (G : G1 W) {letters : List Nat} {cell : Int} (hl : letters.length = 4) : RunsL W n (fscope (nth pw 27)) (fbody (nth pw 27)) (argStore ["letters", "cell"] [.str letters, .int cell] ["signs"]) (.ret (.str (members letters cell))) := by
  show RunsL W n _ _ [("letters", .val (.str letters)), ("cell", .val (.int cell)), ("signs", .unset)] _
  refine RunsL.cons (Runs.assign (Ev.bin (by walk_at "m nm") Ev.str (BinOk.cat ?_)) (by walk_at "m put") (by walk_at "m app") (fun _ => by rfl)) ?_
  · rw [hl]; decide +kernel
  refine RunsL.ret (Runs.ret (Ev.bin Ev.str (Ev.meth Ev.str (Evs.cons (Ev.comp ["k"] (by decide +kernel) (Ev.range1 G (by decide +kernel) Ev.int (fun _ => by rfl)) (IterOk.rng (by decide) (by decide +kernel))
    (EmitL.one (fun (k : Nat) => V.int (0 + (k : Int) * 1)) (bit cell) (fun k => V.str [((signs1 letters)[k]?).getD 0]) _ (fun k hk => Tests.one ?_) (fun k hk _ => ?_)) ?_ (plain1 fun e => ⟨rfl, fun x => by rfl⟩)) .nil (fun _ => by rfl)) HasType.str meth_join (join_strs _ 1 (fun _ _ => Nat.le_refl _) ?_) (fun _ => by rfl) (by rfl) (by decide)) (BinOk.cat ?_)))
  · rw [List.mem_range] at hk
    have hk' : k < 11 := Nat.lt_of_lt_of_le hk (by decide +kernel)
    have hp : (2 : Int) ^ ((0 + (k : Int) * 1) + 1).toNat ≤ 2 ^ 11 := by
      rw [show ((0 + (k : Int) * 1) + 1).toNat = k + 1 by omega]
      exact_mod_cast Nat.pow_le_pow_right (by decide) (by omega)
    have hp0 : (0 : Int) < 2 ^ ((0 + (k : Int) * 1) + 1).toNat := Int.pow_pos (by decide)
    refine EvT.cmp (Ev.bin (Ev.bin (by walk_at "m nm") (Ev.bin Ev.int (Ev.bin (by walk_at "m nm") Ev.int BinOk.add) (BinOk.pow (by omega) (by omega) (by decide))) (BinOk.fdiv (by omega) ?_)) Ev.int (BinOk.fmod (by decide))) Ev.int CmpOk.eq_int (by rfl)
    have : ((2 : Int) ^ ((0 + (k : Int) * 1) + 1).toNat).natAbs < 2 ^ 12 := by omega
    exact Nat.lt_trans ((Nat.log2_lt (by omega)).mpr this) (by decide)
  · rw [List.mem_range] at hk
    have hk' : k < 11 := Nat.lt_of_lt_of_le hk (by decide +kernel)
    refine Ev.item (by walk_at "m nm") (by walk_at "m nm") (ItemOk.str (by omega) (by omega) ?_) (fun _ _ => by rfl)
    have hs : (signs1 letters).length = 11 := by unfold signs1; rw [List.length_append, hl]; decide +kernel
    exact chAt_nat (l := signs1 letters) _ (by rw [hs]; omega) (by omega)
  · rw [List.length_map]
    exact Nat.le_trans (List.length_filter_le _ _) (by rw [List.length_range]; decide +kernel)
  · have := memberL_len letters cell
    unfold memberL at this
    rw [List.length_map] at this
    have e : (L "").length = 0 := by decide +kernel
    rw [e]; omega
  · have := members_len letters cell
    unfold members at this
    rw [List.length_append] at this
    show (L ";").length + (joinL (L "") (memberL letters cell)).length ≤ _
    omega
end
end Mine
open PySem PySem.W PyProof.Rows
set_option Elab.async false
set_option linter.unusedVariables false
set_option maxRecDepth 100000
namespace Mine
local macro_rules | `(tactic| walk_at "m mem") => `(tactic| (first | with_reducible exact List.mem_cons_self .. | (with_reducible refine InS.own ?_; walk_at "m mem") | (with_reducible refine InS.free ?_ (by decide +kernel); walk_at "m mem") | (with_reducible refine List.mem_cons_of_mem _ ?_; walk_at "m mem")))
local macro_rules | `(tactic| walk_at "m put") => `(tactic| (repeat (first | with_reducible exact Put.here | with_reducible apply Put.there)))
local macro_rules | `(tactic| walk_at "m app") => `(tactic| (repeat (first | exact noApp.nil | refine noApp.val ?_ | refine noApp.own ?_ | refine noApp.unset ?_ | refine noApp.app (by decide) ?_)))
local macro_rules | `(tactic| walk_at "m nm") => `(tactic| (refine Ev.name (by walk_at "m mem") (by decide +kernel)))
section
variable {W : Wo} {n : Nat}
structure G2 (W : Wo) : Prop extends G1 W where
  e0 : Fn W pw 20 "_escape_cdata" ["text"]
  e1 : Fn W pw 23 "_escape_cdata_c14n" ["text"]
  e2 : Fn W pw 21 "_escape_attrib" ["text"]
  e3 : Fn W pw 24 "_escape_attrib_c14n" ["text"]
  e4 : Fn W pw 22 "_escape_attrib_html" ["text"]
theorem law_written (G : G2 W) {way : Nat} (hw : way < 5) {l : List Nat} (hl : l.length ≤ 60) : RunsL W (n + 1) (fscope (nth pw 28)) (fbody (nth pw 28)) (argStore ["way", "text"] [.int way, .str l] []) (.ret (.str (escaped way l))) := by
  show RunsL W (n + 1) _ _ [("way", .val (.int way)), ("text", .val (.str l))] _
  have t (k : Int) (p p' p'' : Pos) (j : Nat) : EvT W (n + 1) (fscope (nth pw 28)) [("way", .val (.int way)), ("text", .val (.str l))] (.Compare (.Name "way" p) [.Eq] [.Constant (.int k) j p'] p'') ((way : Int) == k) :=
    EvT.cmp (by walk_at "m nm") Ev.int CmpOk.eq_int (by rfl)
  have hn : ∀ x : Nat, x < 5 → x = 0 ∨ x = 1 ∨ x = 2 ∨ x = 3 ∨ x = 4 := by omega
  rcases hn way hw with rfl | rfl | rfl | rfl | rfl
  · exact RunsL.ret (Runs.ifT (t 0 ..) (RunsL.ret (Runs.ret (Ev.fn [] G.e0 (by decide +kernel) (Evs.one (by walk_at "m nm") (fun _ => by rfl)) (by decide +kernel) rfl (esc_0 hl)))))
  · refine RunsL.cons (Runs.ifF (t 0 ..) .nil) ?_
    exact RunsL.ret (Runs.ifT (t 1 ..) (RunsL.ret (Runs.ret (Ev.fn [] G.e1 (by decide +kernel) (Evs.one (by walk_at "m nm") (fun _ => by rfl)) (by decide +kernel) rfl (esc_1 hl)))))
  · refine RunsL.cons (Runs.ifF (t 0 ..) .nil) ?_
    refine RunsL.cons (Runs.ifF (t 1 ..) .nil) ?_
    exact RunsL.ret (Runs.ifT (t 2 ..) (RunsL.ret (Runs.ret (Ev.fn [] G.e2 (by decide +kernel) (Evs.one (by walk_at "m nm") (fun _ => by rfl)) (by decide +kernel) rfl (esc_2 hl)))))
  · refine RunsL.cons (Runs.ifF (t 0 ..) .nil) ?_
    refine RunsL.cons (Runs.ifF (t 1 ..) .nil) ?_
    refine RunsL.cons (Runs.ifF (t 2 ..) .nil) ?_
    exact RunsL.ret (Runs.ifT (t 3 ..) (RunsL.ret (Runs.ret (Ev.fn [] G.e3 (by decide +kernel) (Evs.one (by walk_at "m nm") (fun _ => by rfl)) (by decide +kernel) rfl (esc_3 hl)))))
  · refine RunsL.cons (Runs.ifF (t 0 ..) .nil) ?_
    refine RunsL.cons (Runs.ifF (t 1 ..) .nil) ?_
    refine RunsL.cons (Runs.ifF (t 2 ..) .nil) ?_
    refine RunsL.cons (Runs.ifF (t 3 ..) .nil) ?_
    exact RunsL.ret (Runs.ret (Ev.fn [] G.e4 (by decide +kernel) (Evs.one (by walk_at "m nm") (fun _ => by rfl)) (by decide +kernel) rfl (esc_4 hl)))
/-- what stands for a sign -/
def toldT : List (List String) := [["&amp", "<lt", ">gt"], ["&amp", "<lt", ">gt", "\rxD"], ["&amp", "<lt", ">gt", "\"quot", "\r13", "\n10", "\t09"], ["&amp", "<lt", "\"quot", "\rxD", "\nxA", "\tx9"], ["&amp", ">gt", "\"quot"]]
def toldOf (way : Nat) : List (List Nat) := ((toldT[way]?).getD []).map L
def heads (c : Nat) (one : List Nat) : Bool := [(one[0]?).getD 0] == [c]
def spelledL (way : Nat) (c : Nat) : List (List Nat) := (((toldOf way).filter (heads c)).map fun one => sl one (some 1) none none) ++ [[c]]
def spelled (way : Nat) (c : Nat) : List Nat := joinL (L "") (spelledL way c)
theorem toldOf_ok : ∀ way, way < 5 → (toldOf way).length ≤ 7 ∧ ∀ one ∈ toldOf way, 1 ≤ one.length ∧ one.length ≤ 5 := by decide +kernel
theorem law_spelled {way c : Nat} (hw : way < 5) : RunsL W n (fscope (nth pw 29)) (fbody (nth pw 29)) (argStore ["way", "sign"] [.int way, .str [c]] ["told"]) (.ret (.str (spelled way c))) := by
  show RunsL W n _ _ [("way", .val (.int way)), ("sign", .val (.str [c])), ("told", .unset)] _
  refine RunsL.cons (Runs.assign (d := .list ((toldOf way).map V.str)) (Ev.item (Ev.list (ds := toldT.map fun ls => V.list (ls.map fun s => V.str (L s))) ?_ (by decide)) (by walk_at "m nm") (ItemOk.list (by omega) (by omega) ?_) (fun _ _ => by rfl)) (by walk_at "m put") (by walk_at "m app") (fun _ => by rfl)) ?_
  · repeat (first | exact Evs.nil | refine Evs.cons (Ev.list ?_ (by decide)) ?_ (fun _ => by rfl) | refine Evs.cons Ev.str ?_ (fun _ => by rfl))
  · have hn : ∀ x : Nat, x < 5 → x = 0 ∨ x = 1 ∨ x = 2 ∨ x = 3 ∨ x = 4 := by omega
    rcases hn way hw with rfl | rfl | rfl | rfl | rfl <;> rfl
  have hT := toldOf_ok way hw
  refine RunsL.ret (Runs.ret (Ev.meth Ev.str (Evs.one (Ev.bin (Ev.comp ["one"] (by decide +kernel) (by walk_at "m nm") IterOk.list
    (EmitL.one V.str (heads c) (fun one => V.str (sl one (some 1) none none)) _ (fun one ho => Tests.one ?_) (fun one ho _ => ?_)) ?_ (plain1 fun e => ⟨rfl, fun x => by rfl⟩)) (Ev.list (Evs.one (by walk_at "m nm") (fun _ => by rfl)) (by simp)) (BinOk.catL ?_)) (fun _ => by rfl)) HasType.str meth_join ?_ (fun _ => by rfl) (by rfl) (by decide)))
  · have := (hT.2 one ho).1
    exact EvT.cmp (Ev.item (by walk_at "m nm") Ev.int (ItemOk.str (by decide) (by decide) (chAt_nat (k := 0) 0 (by omega) rfl)) (fun _ _ => by rfl)) (by walk_at "m nm") CmpOk.eq_str (by rfl)
  · have := (hT.2 one ho).2
    exact Ev.slice (by walk_at "m nm") (.some Ev.int) .none .none (SliceOk.str (by decide) (by omega)) (fun _ _ => ⟨_, by rfl⟩)
  · rw [List.length_map]; exact Nat.le_trans (List.length_filter_le _ _) (by omega)
  · rw [List.length_map]
    have := List.length_filter_le (heads c) (toldOf way)
    simp only [List.length_cons, List.length_nil]; omega
  · have h := CallOk.join (W := W) (n := n) (sep := L "") (ls := spelledL way c) 5 ?_ ?_
    · unfold spelledL at h
      rw [List.map_append, List.map_map] at h
      exact h
    · intro y hy
      unfold spelledL at hy
      rcases List.mem_append.mp hy with q | q
      · obtain ⟨one, ho, rfl⟩ := List.mem_map.mp q
        have h1 := (hT.2 one (List.mem_filter.mp ho |>.1)).2
        refine Nat.le_trans ?_ h1
        unfold sl
        refine Nat.le_trans (List.length_filterMap_le _ _) ?_
        refine sliceRange_length_le _ _ _ _ (fun hc => ?_) (fun hc => ?_)
        · have h1 := (hT.2 one (List.mem_filter.mp ho |>.1)).1
          unfold sliceBounds; simp; omega
        · exact absurd (show (1 : Int) > 0 by decide) hc
      · rw [List.mem_singleton.mp q]; simp
    · have e : (L "").length = 0 := by decide +kernel
      rw [e]
      have : (spelledL way c).length ≤ 8 := by
        unfold spelledL
        rw [List.length_append, List.length_map]
        have := List.length_filter_le (heads c) (toldOf way)
        simp only [List.length_cons, List.length_nil]; omega
      omega
end
end Mine
open PySem PySem.W PyProof.Rows
set_option Elab.async false
set_option linter.unusedVariables false
set_option maxRecDepth 100000
namespace Mine
def plainS (t : Slot) : Prop := t = .unset ∨ ∃ d, t = .val d
theorem plainS.unset : plainS .unset := .inl rfl
theorem plainS.val {d : V} : plainS (.val d) := .inr ⟨d, rfl⟩
theorem noApp.plain {x y : Str} {t : Slot} {σ : Store} (ht : plainS t) (h : noApp x σ) : noApp x ((y, t) :: σ) := by
  rcases ht with rfl | ⟨d, rfl⟩
  · exact h.unset
  · exact h.val
local macro_rules | `(tactic| walk_at "m mem") => `(tactic| (first | with_reducible exact List.mem_cons_self .. | (with_reducible refine InS.own ?_; walk_at "m mem") | (with_reducible refine InS.free ?_ (by decide +kernel); walk_at "m mem") | (with_reducible refine List.mem_cons_of_mem _ ?_; walk_at "m mem")))
local macro_rules | `(tactic| walk_at "m put") => `(tactic| (repeat (first | with_reducible exact Put.here | with_reducible apply Put.there)))
local macro_rules | `(tactic| walk_at "m app") => `(tactic| (repeat (first | exact noApp.nil | refine noApp.val ?_ | refine noApp.own ?_ | refine noApp.unset ?_ | refine noApp.plain (by assumption) ?_ | refine noApp.app (by decide) ?_)))
local macro_rules | `(tactic| walk_at "m nm") => `(tactic| (refine Ev.name (by walk_at "m mem") (by decide +kernel)))
section
variable {W : Wo} {n : Nat} {sc : Scope} {t : PySem.Expr} {body : List Stmt}
theorem ForL.inv {α : Type} (enc : α → V) {P : List α → Store → Prop} (xs₀ : List α) (step : ∀ done x rest σ, xs₀ = done ++ x :: rest → P done σ → ∃ τ σ', Binds W sc t (enc x) σ τ ∧ RunsL W n sc body τ (.next σ') ∧ P (done ++ [x]) σ') :
    ∀ (xs : List α) (done : List α) σ, xs₀ = done ++ xs → P done σ → ∃ σ', P xs₀ σ' ∧ ForL W n sc t body (xs.map enc) σ (.next σ')
  | [], done, σ, e, h => ⟨σ, by rw [e, List.append_nil]; exact h, .nil⟩
  | x :: xs, done, σ, e, h => by
    obtain ⟨τ, σ', h1, h2, h3⟩ := step done x xs σ e h
    obtain ⟨σ₂, h4, h5⟩ := ForL.inv enc xs₀ step xs (done ++ [x]) σ' (by rw [e, List.append_assoc]; rfl) h3
    exact ⟨σ₂, h4, .next h1 h2 h5⟩
theorem RunsL.forInv {α : Type} {σ : Store} {it : PySem.Expr} {pos : Pos} {a : V} {sts : List Stmt} {r : Res} (enc : α → V) (P : List α → Store → Prop) (xs : List α) (h : Ev W n sc σ it a) (hi : IterOk W a (xs.map enc)) (hs : ∀ env x, foldedSetIterable it env x = pure x) (h0 : P [] σ)
    (step : ∀ done x rest σ, xs = done ++ x :: rest → P done σ → ∃ τ σ', Binds W sc t (enc x) σ τ ∧ RunsL W n sc body τ (.next σ') ∧ P (done ++ [x]) σ') (rest : ∀ σ', P xs σ' → RunsL W n sc sts σ' r) : RunsL W n sc (.For t it body [] pos :: sts) σ r := by
  obtain ⟨σ', h1, h2⟩ := ForL.inv enc xs step xs [] σ rfl h0
  exact RunsL.cons (Runs.for h hi h2 hs) (rest σ' h1)
structure G3 (W : Wo) : Prop extends G2 W where
  members : Fn W pw 27 "_law_members" ["letters", "cell"]
  spelled : Fn W pw 29 "_law_spelled" ["way", "sign"]
def spelledAll (way : Nat) (letters : List Nat) (cell : Int) : List Nat := joinL (L "") ((members letters cell).map (spelled way))
def wayRow (way : Nat) (letters : List Nat) (cell : Int) : List Int := letters.map fun c => if (isIn [c] (spelledAll way letters cell) != (cell.fmod 2 == 1)) then 1 else 0
def wayRows (way : Nat) (letters : List Nat) (cells : List Int) : List V := cells.map fun cell => V.list ((wayRow way letters cell).map V.int)
theorem spelled_len {way : Nat} (hw : way < 5) (c : Nat) : (spelled way c).length ≤ 40 := by
  unfold spelled
  have e : L "" = [] := by decide +kernel
  rw [e, joinL_nil_sep]
  have hT := toldOf_ok way hw
  have h1 : ∀ y ∈ spelledL way c, y.length ≤ 5 := by
    intro y hy
    unfold spelledL at hy
    rcases List.mem_append.mp hy with q | q
    · obtain ⟨one, ho, rfl⟩ := List.mem_map.mp q
      have h1 := (hT.2 one (List.mem_filter.mp ho |>.1)).2
      refine Nat.le_trans ?_ h1
      unfold sl
      refine Nat.le_trans (List.length_filterMap_le _ _) ?_
      refine sliceRange_length_le _ _ _ _ (fun hc => ?_) (fun hc => ?_)
      · have h1 := (hT.2 one (List.mem_filter.mp ho |>.1)).1
        unfold sliceBounds; simp; omega
      · exact absurd (show (1 : Int) > 0 by decide) hc
    · rw [List.mem_singleton.mp q]; simp
  have h2 := flatten_le h1
  have : (spelledL way c).length ≤ 8 := by
    unfold spelledL
    rw [List.length_append, List.length_map]
    have := List.length_filter_le (heads c) (toldOf way)
    simp only [List.length_cons, List.length_nil]; omega
  omega
theorem law_ways (G : G3 W) {way : Nat} {letters : List Nat} {cells : List Int} (hw : way < 5) (hl : letters.length = 4) (hc : cells.length = 4) :
    RunsL W (n + 1) (fscope (nth pw 30)) (fbody (nth pw 30)) (argStore ["way", "letters", "cells"] [.int way, .str letters, .list (cells.map V.int)] ["ways", "cell", "spelled"]) (.ret (.list (wayRows way letters cells))) := by
  show RunsL W (n + 1) _ _ [("way", .val (.int way)), ("letters", .val (.str letters)), ("cells", .val (.list (cells.map V.int))), ("ways", .unset), ("cell", .unset), ("spelled", .unset)] _
  refine RunsL.cons (Runs.assignOwn (EvNew.list Evs.nil (by decide)) (by walk_at "m put") (by walk_at "m app") (fun _ => by rfl)) ?_
  refine RunsL.forInv V.int (fun done σ => ∃ c s, plainS c ∧ plainS s ∧ σ = ([("way", .val (.int way)), ("letters", .val (.str letters)), ("cells", .val (.list (cells.map V.int))), ("ways", .own (wayRows way letters done)), ("cell", c), ("spelled", s)] : Store)) cells (by walk_at "m nm") IterOk.list (fun _ _ => by rfl) ⟨.unset, .unset, .unset, .unset, rfl⟩ ?_ ?_
  rotate_left
  · rintro σ' ⟨c, s, hc', hs', rfl⟩
    refine RunsL.freeze (by walk_at "m mem") (by walk_at "m put") ?_
    exact RunsL.ret (Runs.ret (by walk_at "m nm"))
  · rintro done x rest σ hx ⟨c, s, hc', hs', rfl⟩
    have hw' : wayRows way letters (done ++ [x]) = wayRows way letters done ++ [V.list (letters.map fun c => V.int (if (isIn [c] (spelledAll way letters x) != (x.fmod 2 == 1)) then 1 else 0))] := by
      simp [wayRows, wayRow, Function.comp_def]
    refine ⟨_, _, Binds.name (by walk_at "m put") (by walk_at "m app"), ?_, .val (.int x), .val (.str (spelledAll way letters x)),   .val, .val, by rw [hw']⟩
    refine RunsL.cons (Runs.assign (d := .str (spelledAll way letters x)) (Ev.meth Ev.str (Evs.one (Ev.comp ["sign"] (by decide +kernel) (Ev.fn ["signs"] G.members (by decide +kernel) (.cons (by walk_at "m nm") (Evs.one (by walk_at "m nm") (fun _ => by rfl)) (fun _ => by rfl)) (by decide +kernel) rfl (law_members G.toG1 hl)) IterOk.str
      (EmitL.map (fun c => V.str [c]) (fun c => V.str (spelled way c)) _ (fun c hc => ?_)) ?_ (plain1 fun e => ⟨rfl, fun x => by rfl⟩)) (fun _ => by rfl)) HasType.str meth_join (join_strs _ 40 (fun _ _ => spelled_len hw _) ?_) (fun _ => by rfl) (by rfl) (by decide)) (by walk_at "m put") (by walk_at "m app") (fun _ => by rfl)) ?_
    · exact Ev.fn ["told"] G.spelled (by decide +kernel) (.cons (by walk_at "m nm") (Evs.one (by walk_at "m nm") (fun _ => by rfl)) (fun _ => by rfl)) (by decide +kernel) rfl (law_spelled hw)
    · rw [List.length_map]; have := members_len letters x; omega
    · have e : (L "").length = 0 := by decide +kernel
      have := members_len letters x
      rw [e]; omega
    refine RunsL.cons (Runs.append (by walk_at "m mem") (Ev.comp ["letter"] (by decide +kernel) (by walk_at "m nm") IterOk.str
      (EmitL.map (fun c => V.str [c]) (fun c => V.int (if (isIn [c] (spelledAll way letters x) != (x.fmod 2 == 1)) then 1 else 0)) _ (fun c hc => ?_)) ?_ (plain1 fun e => ⟨rfl, fun x => by rfl⟩)) (by walk_at "m put") ?_ (by rfl) (fun _ => by rfl)) .nil
    · refine Ev.ite (c := (isIn [c] (spelledAll way letters x) != (x.fmod 2 == 1))) (EvT.cmp (Ev.cmp (by walk_at "m nm") (by walk_at "m nm") CmpOk.in_str (by rfl)) (Ev.cmp (Ev.bin (by walk_at "m nm") Ev.int (BinOk.fmod (by decide))) Ev.int CmpOk.eq_int (by rfl)) CmpOk.ne_bool (by rfl)) (fun h => ?_) (fun h => ?_)
      · rw [if_pos h]; exact Ev.int
      · rw [if_neg (by rw [h]; exact Bool.false_ne_true)]; exact Ev.int
    · rw [List.length_map]; omega
    · unfold wayRows
      rw [List.length_map]
      have := congrArg List.length hx
      rw [List.length_append, hc] at this
      omega
end
end Mine
open PySem PySem.W PyProof.Rows
set_option Elab.async false
set_option linter.unusedVariables false
set_option maxRecDepth 100000
namespace Mine
local macro_rules | `(tactic| walk_at "m mem") => `(tactic| (first | with_reducible exact List.mem_cons_self .. | (with_reducible refine InS.own ?_; walk_at "m mem") | (with_reducible refine InS.free ?_ (by decide +kernel); walk_at "m mem") | (with_reducible refine List.mem_cons_of_mem _ ?_; walk_at "m mem")))
local macro_rules | `(tactic| walk_at "m put") => `(tactic| (repeat (first | with_reducible exact Put.here | with_reducible apply Put.there)))
local macro_rules | `(tactic| walk_at "m app") => `(tactic| (repeat (first | exact noApp.nil | refine noApp.val ?_ | refine noApp.own ?_ | refine noApp.unset ?_ | refine noApp.plain (by assumption) ?_ | refine noApp.app (by decide) ?_)))
local macro_rules | `(tactic| walk_at "m nm") => `(tactic| (refine Ev.name (by walk_at "m mem") (by decide +kernel)))
section
variable {W : Wo} {n : Nat}
structure G4 (W : Wo) : Prop extends G3 W where
  worth : Fn W pw 31 "_law_worth" ["table"]
abbrev encR (row : List Int) : V := .list (row.map V.int)
abbrev encT (t : List (List Int)) : V := .list (t.map encR)
def dropAt (k : Nat) (row : List Int) : List Int := row.take k ++ row.drop (k + 1)
def entry (t : List (List Int)) (k : Nat) : Int := ((t.headD [])[k]?).getD 0
def worthFrom (f : List (List Int) → Int) (t : List (List Int)) : List Nat → Int
  | [] => 0
  | k :: ks => (-1) ^ k * entry t k * f ((t.drop 1).map (dropAt k)) + worthFrom f t ks
def worth : Nat → List (List Int) → Int
  | 0, _ => 1
  | m + 1, t => worthFrom (worth m) t (List.range (m + 1))
theorem worthFrom_snoc (f : List (List Int) → Int) (t : List (List Int)) (k : Nat) : ∀ ks, worthFrom f t (ks ++ [k]) = worthFrom f t ks + (-1) ^ k * entry t k * f ((t.drop 1).map (dropAt k))
  | [] => by simp [worthFrom]
  | j :: ks => by
    rw [List.cons_append, worthFrom, worthFrom_snoc f t k ks, worthFrom]; omega
def Small (t : List (List Int)) : Prop := ∀ row ∈ t, ∀ x ∈ row, x.natAbs < 2 ^ 62
def Wide (m : Nat) (t : List (List Int)) : Prop := ∀ row ∈ t, row.length = m
theorem dropAt_len {k : Nat} {row : List Int} (h : k < row.length) : (dropAt k row).length = row.length - 1 := by
  unfold dropAt; rw [List.length_append, List.length_take, List.length_drop]; omega
theorem mem_dropAt {k : Nat} {row : List Int} {x : Int} (h : x ∈ dropAt k row) : x ∈ row := by
  unfold dropAt at h
  rcases List.mem_append.mp h with q | q
  · exact List.mem_of_mem_take q
  · exact List.mem_of_mem_drop q
theorem neg_one_pow (k : Nat) : ((-1 : Int) ^ k = 1) ∨ ((-1 : Int) ^ k = -1) := by
  induction k with
  | zero => exact .inl rfl
  | succ k ih =>
    rw [Int.pow_succ]
    rcases ih with e | e <;> rw [e] <;> decide
theorem law_worth (G : G4 W) : ∀ (m n : Nat) (t : List (List Int)), m ≤ 4 → t.length = m → Wide m t → Small t →
    RunsL W (n + m) (fscope (nth pw 31)) (fbody (nth pw 31)) (argStore ["table"] [encT t] ["total", "k"]) (.ret (.int (worth m t))) := by
  intro m
  induction m with
  | zero =>
    intro n t _ ht _ _
    show RunsL W n _ _ [("table", .val (encT t)), ("total", .unset), ("k", .unset)] _
    have : t = [] := List.length_eq_zero_iff.mp ht
    subst this
    exact RunsL.ret (Runs.ifT (EvT.cmp (c := true) (by walk_at "m nm") (Ev.list Evs.nil (by decide)) (CmpOk.eq_nil (a := ([] : List (List Int)).map encR)) (by rfl)) (RunsL.ret (Runs.ret Ev.int)))
  | succ m ih =>
    intro n t hm ht hw hs
    show RunsL W (n + m + 1) _ _ [("table", .val (encT t)), ("total", .unset), ("k", .unset)] _
    cases t with
    | nil => cases ht
    | cons row rows =>
    have hrow : row.length = m + 1 := hw row (List.mem_cons_self ..)
    have hrows : rows.length = m := by simpa using ht
    refine RunsL.cons (Runs.ifF (EvT.cmp (c := false) (by walk_at "m nm") (Ev.list Evs.nil (by decide)) (CmpOk.eq_nil (a := (row :: rows).map encR)) (by rfl)) .nil) ?_
    refine RunsL.cons (Runs.assign Ev.int (by walk_at "m put") (by walk_at "m app") (fun _ => by rfl)) ?_
    have hlen : ((row :: rows).map encR).length = m + 1 := by simp [hrows]
    have hsm : Builtin.Range.small 0 (m + 1 : Nat) 1 = true := by
      have hn : ∀ x : Nat, x ≤ 3 → x = 0 ∨ x = 1 ∨ x = 2 ∨ x = 3 := by omega
      rcases hn m (by omega) with rfl | rfl | rfl | rfl <;> decide +kernel
    have hsz : (Builtin.Range.rangeSize 0 (m + 1 : Nat) 1).toNat = m + 1 := by
      have hn : ∀ x : Nat, x ≤ 3 → x = 0 ∨ x = 1 ∨ x = 2 ∨ x = 3 := by omega
      rcases hn m (by omega) with rfl | rfl | rfl | rfl <;> decide +kernel
    refine RunsL.forInv (fun (k : Nat) => V.int (0 + (k : Int) * 1)) (fun done σ => ∃ k, plainS k ∧ σ = ([("table", .val (encT (row :: rows))), ("total", .val (.int (worthFrom (worth m) (row :: rows) done))), ("k", k)] : Store)) (List.range (m + 1))
      (Ev.range1 G.toG1 (by decide +kernel) (Ev.len G.toG1 (by decide +kernel) (by walk_at "m nm") (CallOk.len_list (by rw [hlen]; omega)) (fun _ => by rfl)) (fun _ => by rfl)) ?_ (fun _ _ => by rfl) ⟨.unset, .unset, rfl⟩ ?_ ?_
    · have h := IterOk.rng (W := W) (a := 0) (b := (m + 1 : Nat)) (c := 1) (by decide) hsm
      unfold rangeL at h
      rw [hsz] at h
      rw [hlen]
      exact h
    · rintro done k rest σ hx ⟨sk, hk, rfl⟩
      have hkm : k < m + 1 := by
        have : k ∈ List.range (m + 1) := by rw [hx]; simp
        exact List.mem_range.mp this
      have hent : entry (row :: rows) k = row[k]'(by omega) := by
        unfold entry; simp [List.getElem?_eq_getElem (show k < row.length by omega)]
      have hgr : ((row.map V.int)[(0 + (k : Int) * 1).toNat]?) = some (V.int (entry (row :: rows) k)) := by
        rw [show (0 + (k : Int) * 1).toNat = k by omega, List.getElem?_map, hent, List.getElem?_eq_getElem (show k < row.length by omega)]; rfl
      have hsmall : (entry (row :: rows) k).natAbs < 2 ^ 62 := by
        rw [hent]; exact hs row (List.mem_cons_self ..) _ (List.getElem_mem _)
      by_cases h0 : entry (row :: rows) k = 0
      · refine ⟨_, _, Binds.name (by walk_at "m put") (by walk_at "m app"), ?_, .val (.int (0 + (k : Int) * 1)), .val, rfl⟩
        have e : worthFrom (worth m) (row :: rows) (done ++ [k]) = worthFrom (worth m) (row :: rows) done := by
          rw [worthFrom_snoc, h0]; simp
        rw [e]
        refine RunsL.one (Runs.ifF (EvT.cmp (c := false) (b := .int 0) (Ev.item (Ev.item (by walk_at "m nm") Ev.int (ItemOk.list (c := encR row) (by decide) (by decide) rfl) (fun _ _ => by rfl)) (by walk_at "m nm") (ItemOk.list (by omega) (by omega) hgr) (fun _ _ => by rfl)) Ev.int ?_ (by rfl)) .nil)
        have := CmpOk.ne_int (W := W) (a := entry (row :: rows) k) (b := 0)
        rwa [h0] at this ⊢
      · refine ⟨_, _, Binds.name (by walk_at "m put") (by walk_at "m app"), ?_, .val (.int (0 + (k : Int) * 1)), .val, by rw [worthFrom_snoc]⟩
        refine RunsL.one (Runs.ifT (EvT.cmp (c := true) (b := .int 0) (Ev.item (Ev.item (by walk_at "m nm") Ev.int (ItemOk.list (c := encR row) (by decide) (by decide) rfl) (fun _ _ => by rfl)) (by walk_at "m nm") (ItemOk.list (by omega) (by omega) hgr) (fun _ _ => by rfl)) Ev.int ?_ (by rfl)) (RunsL.one ?_))
        · have := CmpOk.ne_int (W := W) (a := entry (row :: rows) k) (b := 0)
          rwa [show (entry (row :: rows) k != 0) = true from bne_iff_ne.mpr h0] at this
        have hpow : (-(1 : Int)) ^ (0 + (k : Int) * 1).toNat = (-1) ^ k := by rw [show (0 + (k : Int) * 1).toNat = k by omega]
        refine Runs.aug (a := .int (worthFrom (worth m) (row :: rows) done)) (by walk_at "m mem") (b := .int ((-1) ^ k * entry (row :: rows) k * worth m (((row :: rows).drop 1).map (dropAt k)))) ?_ InpOk.add (by walk_at "m put") (by walk_at "m app")
        refine Ev.bin (a := .int ((-1) ^ k * entry (row :: rows) k)) (Ev.bin (a := .int ((-1) ^ k)) (Ev.bin (c := .int ((-1) ^ k)) (Ev.un Ev.int UnOk.neg) (by walk_at "m nm") ?_) (Ev.item (Ev.item (by walk_at "m nm") Ev.int (ItemOk.list (c := encR row) (by decide) (by decide) rfl) (fun _ _ => by rfl)) (by walk_at "m nm") (ItemOk.list (by omega) (by omega) hgr) (fun _ _ => by rfl)) (BinOk.mulL ?_))
          (Ev.fn (c := .int (worth m (((row :: rows).drop 1).map (dropAt k)))) ["total", "k"] G.worth (by decide +kernel) (Evs.one ?_ (fun _ => by rfl)) (by decide +kernel) rfl (ih n (rows.map (dropAt k)) (by omega) (by rw [List.length_map]; exact hrows) ?_ ?_)) (BinOk.mulL ?_)
        · have := BinOk.pow (W := W) (a := -1) (b := 0 + (k : Int) * 1) (by omega) (by omega) (by decide)
          rwa [hpow] at this
        · rcases neg_one_pow k with e | e <;> rw [e] <;> decide
        · refine Ev.comp ["row"] (by decide +kernel) (Ev.slice (by walk_at "m nm") (.some Ev.int) .none .none (SliceOk.list (by decide) (by rw [hlen]; omega)) (fun _ _ => ⟨_, by rfl⟩)) IterOk.list ?_ (o := (rows.map (dropAt k)).map encR) ?_ (plain1 fun e => ⟨rfl, fun x => by rfl⟩)
          · have e1 : sl ((row :: rows).map encR) (some 1) none none = rows.map encR := by
              rw [show (some (1 : Int)) = some ((1 : Nat) : Int) from rfl, sl_from _ (by rw [hlen]; omega)]; rfl
            rw [e1, List.map_map]
            refine EmitL.map encR (encR ∘ dropAt k) rows (fun r hr => ?_)
            have hrl : r.length = m + 1 := hw r (List.mem_cons_of_mem _ hr)
            have hk0 : (0 : Int) + (k : Int) * 1 = (k : Nat) := by omega
            refine Ev.bin (a := .list (sl (r.map V.int) none (some (0 + (k : Int) * 1)) none)) (b := .list (sl (r.map V.int) (some (0 + (k : Int) * 1 + 1)) none none)) (Ev.slice (by walk_at "m nm") .none (.some (by walk_at "m nm")) .none (SliceOk.list (by decide) (by rw [List.length_map, hrl]; omega)) (fun _ _ => ⟨_, by rfl⟩))
              (Ev.slice (by walk_at "m nm") (.some (Ev.bin (by walk_at "m nm") Ev.int BinOk.add)) .none .none (SliceOk.list (by decide) (by rw [List.length_map, hrl]; omega)) (fun _ _ => ⟨_, by rfl⟩)) ?_
            have e2 : encR (dropAt k r) = .list (sl (r.map V.int) none (some (0 + (k : Int) * 1)) none ++ sl (r.map V.int) (some (0 + (k : Int) * 1 + 1)) none none) := by
              rw [hk0, show ((k : Nat) : Int) + 1 = ((k + 1 : Nat) : Int) by omega, sl_to _ (by rw [List.length_map, hrl]; omega), sl_from _ (by rw [List.length_map, hrl]; omega)]
              unfold encR dropAt
              rw [List.map_append, List.map_take, List.map_drop]
            show BinOk W .Add _ _ (encR (dropAt k r))
            rw [e2]
            refine BinOk.catL ?_
            have h1 := sl_len (r.map V.int) none (some (0 + (k : Int) * 1))
            have h2 := sl_len (r.map V.int) (some (0 + (k : Int) * 1 + 1)) none
            rw [List.length_map, hrl] at h1 h2
            omega
          · rw [List.length_map, List.length_map, hrows]; omega
        · intro r hr
          obtain ⟨r', hr', rfl⟩ := List.mem_map.mp hr
          have := hw r' (List.mem_cons_of_mem _ hr')
          rw [dropAt_len (by omega), this]; rfl
        · intro r hr x hx
          obtain ⟨r', hr', rfl⟩ := List.mem_map.mp hr
          exact hs r' (List.mem_cons_of_mem _ hr') x (mem_dropAt hx)
        · rcases neg_one_pow k with e | e <;> rw [e] <;> omega
    · rintro σ' ⟨sk, hk, rfl⟩
      have e : worth (m + 1) (row :: rows) = worthFrom (worth m) (row :: rows) (List.range (m + 1)) := rfl
      rw [e]
      exact RunsL.ret (Runs.ret (by walk_at "m nm"))
end
end Mine
open PySem PySem.W PyProof.Rows
set_option Elab.async false
set_option linter.unusedVariables false
set_option maxRecDepth 100000
namespace Mine
local macro_rules | `(tactic| walk_at "m mem") => `(tactic| (first | with_reducible exact List.mem_cons_self .. | (with_reducible refine InS.own ?_; walk_at "m mem") | (with_reducible refine InS.free ?_ (by decide +kernel); walk_at "m mem") | (with_reducible refine List.mem_cons_of_mem _ ?_; walk_at "m mem")))
local macro_rules | `(tactic| walk_at "m put") => `(tactic| (repeat (first | with_reducible exact Put.here | with_reducible apply Put.there)))
local macro_rules | `(tactic| walk_at "m app") => `(tactic| (repeat (first | exact noApp.nil | refine noApp.val ?_ | refine noApp.own ?_ | refine noApp.unset ?_ | refine noApp.plain (by assumption) ?_ | refine noApp.app (by decide) ?_)))
local macro_rules | `(tactic| walk_at "m nm") => `(tactic| (refine Ev.name (by walk_at "m mem") (by decide +kernel)))
local macro_rules | `(tactic| walk_at "m wk") => `(tactic| (repeat (first | exact Wk.nil | with_reducible refine Wk.same ?_ | with_reducible refine Wk.drop ?_)))
section
variable {W : Wo} {n : Nat} {sc scope : Scope} {σ : Store}
theorem EmitL.flat {α : Type} {k : Str} {pos : Pos} {elt : PySem.Expr} {gs : List Comprehension} {τ : Store} (enc : α → V) (f : α → List V) (hn : noApp k τ) : ∀ (xs : List α),
    (∀ x ∈ xs, ∃ τ', Put k (.val (enc x)) τ τ' ∧ Wk τ' τ ∧ Emit W n sc scope σ elt gs τ' (f x)) → EmitL W n sc scope σ (.Name k pos) [] (Emit W n sc scope σ elt gs) (xs.map enc) τ (xs.flatMap f)
  | [], _ => .nil
  | x :: xs, h => by
    obtain ⟨τ', h1, h2, h3⟩ := h x (List.mem_cons_self ..)
    rw [List.map_cons, List.flatMap_cons]
    exact EmitL.yes (Binds.name h1 hn) h2 .nil h3 (EmitL.flat enc f hn xs fun y hy => h y (List.mem_cons_of_mem _ hy))
structure G5 (W : Wo) : Prop extends G4 W where
abbrev encN (l : List Nat) : V := .list (l.map fun k => V.int (k : Nat))
def namesOf (t : List (List Nat)) : List (List Nat) := (t.getD 0 []).flatMap fun a => (t.getD 1 []).flatMap fun b => (t.getD 2 []).flatMap fun c => (t.getD 3 []).flatMap fun d => [[a, b, c, d]]
def farOf (name : List Nat) : List Nat := name.map fun k => name.getD (name.getD k 0) 0
def goodName (name : List Nat) : Bool := ((farOf name).filter fun k => ((name.getD k 0 : Nat) : Int) != (k : Nat)).isEmpty
def fixedOf (name : List Nat) : Nat := ((List.range 4).filter fun (k : Nat) => ((name.getD k 0 : Nat) : Int) == 0 + (k : Int) * 1).length
def countStep (acc : List Int) (name : List Nat) : List Int := if goodName name then acc.set (fixedOf name) (acc.getD (fixedOf name) 0 + 1) else acc
def countsOf (ns : List (List Nat)) : List Int := ns.foldl countStep [0, 0, 0, 0, 0]
theorem countsOf_snoc (ns : List (List Nat)) (x : List Nat) : countsOf (ns ++ [x]) = countStep (countsOf ns) x := by unfold countsOf; rw [List.foldl_append]; rfl
theorem countsOf_len (ns : List (List Nat)) : (countsOf ns).length = 5 := by
  unfold countsOf
  have : ∀ (ns : List (List Nat)) (acc : List Int), acc.length = 5 → (ns.foldl countStep acc).length = 5 := by
    intro ns
    induction ns with
    | nil => intro acc h; exact h
    | cons x ns ih =>
      intro acc h
      refine ih _ ?_
      unfold countStep
      split
      · rw [List.length_set]; exact h
      · exact h
  exact this ns _ rfl
theorem fixedOf_le (name : List Nat) : fixedOf name ≤ 4 := by
  unfold fixedOf
  exact Nat.le_trans (List.length_filter_le _ _) (by simp)
theorem item_nat {l : List Nat} {k : Nat} {i : Int} (hi : i = k) (hk : k < l.length) (hl : l.length < 1000) : ItemOk W (encN l) (.int i) (.int (l.getD k 0 : Nat)) := by
  subst hi
  refine ItemOk.list (by omega) (by omega) ?_
  rw [Int.toNat_natCast, List.getElem?_map, List.getElem?_eq_getElem hk]
  simp [List.getD, List.getElem?_eq_getElem hk]
theorem range4 : rangeL 0 4 1 = (List.range 4).map fun (k : Nat) => V.int (0 + (k : Int) * 1) := by
  unfold rangeL
  rw [show (Builtin.Range.rangeSize 0 4 1).toNat = 4 by decide +kernel]
def NameOk (name : List Nat) : Prop := name.length = 4 ∧ ∀ k ∈ name, k < 4
theorem getD_lt {name : List Nat} (h : NameOk name) {k : Nat} (hk : k < 4) : name.getD k 0 < 4 := by
  have hk' : k < name.length := by rw [h.1]; exact hk
  rw [List.getD_eq_getElem?_getD, List.getElem?_eq_getElem hk']
  exact h.2 _ (List.getElem_mem _)
theorem law_counts (G : G4 W) {t : List (List Nat)} (ht : t.length = 4) (hb : ∀ r ∈ t, r.length ≤ 4 ∧ ∀ k ∈ r, k < 4) :
    RunsL W n (fscope (nth pw 34)) (fbody (nth pw 34)) (argStore ["taken"] [.list (t.map encN)] ["counts", "name", "far"]) (.ret (.list ((countsOf (namesOf t)).map V.int))) := by
  show RunsL W n _ _ [("taken", .val (.list (t.map encN))), ("counts", .unset), ("name", .unset), ("far", .unset)] _
  refine RunsL.cons (Runs.assignOwn (ds := (countsOf []).map V.int) (EvNew.list ?_ (by decide)) (by walk_at "m put") (by walk_at "m app") (fun _ => by rfl)) ?_
  · repeat (first | exact Evs.nil | refine Evs.cons Ev.int ?_ (fun _ => by rfl))
  have item (j : Nat) (hj : j < 4) : ItemOk W (.list (t.map encN)) (.int j) (encN (t.getD j [])) := by
    refine ItemOk.list (by omega) (by omega) ?_
    have : j < t.length := by omega
    rw [Int.toNat_natCast, List.getElem?_map, List.getElem?_eq_getElem this]
    simp [List.getD, List.getElem?_eq_getElem this]
  have rowOk (j : Nat) : (t.getD j []).length ≤ 4 ∧ ∀ k ∈ t.getD j [], k < 4 := by
    rw [List.getD_eq_getElem?_getD]
    cases h : t[j]? with
    | none => simp
    | some r => exact hb r (List.mem_of_getElem? h)
  have nameOk : ∀ name ∈ namesOf t, NameOk name := by
    intro name hn
    unfold namesOf at hn
    simp only [List.mem_flatMap, List.mem_singleton] at hn
    obtain ⟨a, ha, b, hb', c, hc, d, hd, rfl⟩ := hn
    refine ⟨rfl, fun k hk => ?_⟩
    simp only [List.mem_cons, List.not_mem_nil, or_false] at hk
    rcases hk with rfl | rfl | rfl | rfl
    · exact (rowOk 0).2 _ ha
    · exact (rowOk 1).2 _ hb'
    · exact (rowOk 2).2 _ hc
    · exact (rowOk 3).2 _ hd
  have bound : ∀ {α β : Type} (l : List α) (f : α → List β) (m : Nat), (∀ x ∈ l, (f x).length ≤ m) → (l.flatMap f).length ≤ l.length * m := by
    intro α β l f m h
    induction l with
    | nil => simp
    | cons x l ih =>
      have h1 := h x (List.mem_cons_self ..)
      have h2 := ih fun y hy => h y (List.mem_cons_of_mem _ hy)
      rw [List.flatMap_cons, List.length_append, List.length_cons, Nat.succ_mul]; omega
  have bound4 : ∀ {α β : Type} (l : List α) (f : α → List β) (m : Nat), l.length ≤ 4 → (∀ x ∈ l, (f x).length ≤ m) → (l.flatMap f).length ≤ 4 * m := fun l f m h h' => Nat.le_trans (bound l f m h') (Nat.mul_le_mul_right _ h)
  have size : (namesOf t).length ≤ 256 := by
    unfold namesOf
    refine bound4 _ _ 64 (rowOk 0).1 fun a _ => bound4 _ _ 16 (rowOk 1).1 fun b _ => bound4 _ _ 4 (rowOk 2).1 fun c _ => bound4 _ _ 1 (rowOk 3).1 fun d _ => by simp
  have comp : (namesOf t).map encN = (t.getD 0 []).flatMap fun a => (t.getD 1 []).flatMap fun b => (t.getD 2 []).flatMap fun c => (t.getD 3 []).flatMap fun d => [encN [a, b, c, d]] := by
    unfold namesOf
    simp only [List.map_flatMap, List.map_cons, List.map_nil]
  refine RunsL.forInv encN (fun done σ => ∃ k f, plainS k ∧ plainS f ∧ σ = ([("taken", .val (.list (t.map encN))), ("counts", .own ((countsOf done).map V.int)), ("name", k), ("far", f)] : Store)) (namesOf t) (a := .list ((namesOf t).map encN))
    (Ev.comp ["a", "b", "c", "d"] (by decide +kernel) (Ev.item (by walk_at "m nm") Ev.int (item 0 (by decide)) (fun _ _ => by rfl)) IterOk.list ?_ ?_ ?_) IterOk.list (fun _ _ => by rfl) ⟨.unset, .unset, .unset, .unset, rfl⟩ ?_ ?_
  · show EmitL W n _ _ _ _ _ _ _ [("a", .unset), ("b", .unset), ("c", .unset), ("d", .unset)] _
    rw [comp]
    refine EmitL.flat (fun k => V.int (k : Nat)) _ (by walk_at "m app") _ fun a ha => ⟨_, .here, by walk_at "m wk", _, _, Ev.item (by walk_at "m nm") Ev.int (item 1 (by decide)) (fun _ _ => by rfl), IterOk.list, ?_⟩
    refine EmitL.flat (fun k => V.int (k : Nat)) _ (by walk_at "m app") _ fun b hb => ⟨_, .there .here, by walk_at "m wk", _, _, Ev.item (by walk_at "m nm") Ev.int (item 2 (by decide)) (fun _ _ => by rfl), IterOk.list, ?_⟩
    refine EmitL.flat (fun k => V.int (k : Nat)) _ (by walk_at "m app") _ fun c hc => ⟨_, .there (.there .here), by walk_at "m wk", _, _, Ev.item (by walk_at "m nm") Ev.int (item 3 (by decide)) (fun _ _ => by rfl), IterOk.list, ?_⟩
    refine EmitL.flat (fun k => V.int (k : Nat)) _ (by walk_at "m app") _ fun d hd => ⟨_, .there (.there (.there .here)), by walk_at "m wk", _, rfl, Ev.list ?_ (by simp)⟩
    exact .cons (by walk_at "m nm") (.cons (by walk_at "m nm") (.cons (by walk_at "m nm") (Evs.one (by walk_at "m nm") (fun _ => by rfl)) (fun _ => by rfl)) (fun _ => by rfl)) (fun _ => by rfl)
  · rw [List.length_map]; omega
  · intro e c hc
    simp only [List.mem_cons, List.not_mem_nil, or_false] at hc
    rcases hc with rfl | rfl | rfl | rfl <;> exact ⟨rfl, fun x => by rfl⟩
  · rintro done name rest σ hx ⟨k, f, hk, hf, rfl⟩
    have hname : NameOk name := nameOk name (by rw [hx]; simp)
    have hlen : name.length < 1000 := by rw [hname.1]; decide
    refine ⟨_, [("taken", .val (.list (t.map encN))), ("counts", .own ((countsOf (done ++ [name])).map V.int)), ("name", .val (encN name)), ("far", .val (encN (farOf name)))], Binds.name (by walk_at "m put") (by walk_at "m app"), ?_, _, _, .val, .val, rfl⟩
    refine RunsL.cons (Runs.assignComp ["k"] (by decide +kernel) (by walk_at "m nm") IterOk.list (o := (farOf name).map fun k => V.int (k : Nat)) ?_ ?_ (plain1 fun e => ⟨rfl, fun x => by rfl⟩) (by walk_at "m put") (by walk_at "m app")) ?_
    · unfold farOf
      rw [List.map_map]
      refine EmitL.map (fun k => V.int (k : Nat)) _ name fun k hk => ?_
      have h1 := hname.2 k hk
      have h2 := getD_lt hname h1
      exact Ev.item (by walk_at "m nm") (Ev.item (by walk_at "m nm") (by walk_at "m nm") (item_nat rfl (by rw [hname.1]; exact h1) hlen) (fun _ _ => by rfl)) (item_nat rfl (by rw [hname.1]; exact h2) hlen) (fun _ _ => by rfl)
    · rw [List.length_map]; unfold farOf; rw [List.length_map, hname.1]; decide
    have farLt : ∀ k ∈ farOf name, k < 4 := by
      intro k hk
      unfold farOf at hk
      obtain ⟨j, hj, rfl⟩ := List.mem_map.mp hk
      exact getD_lt hname (getD_lt hname (hname.2 j hj))
    have hgood : ((farOf name).filter fun k => ((name.getD k 0 : Nat) : Int) != (k : Nat)).isEmpty = goodName name := rfl
    by_cases hg : goodName name = true
    · have hstep : (countsOf (done ++ [name])).map V.int = ((countsOf done).map V.int).set ((fixedOf name : Nat) : Int).toNat (V.int ((countsOf done).getD (fixedOf name) 0 + 1)) := by
        rw [countsOf_snoc, Int.toNat_natCast]
        unfold countStep
        rw [if_pos hg, List.map_set]
      rw [hstep]
      refine RunsL.one (Runs.ifT (EvT.cmp (c := true) (b := .list []) (Ev.comp ["k"] (by decide +kernel) (by walk_at "m nm") IterOk.list (EmitL.one (fun k => V.int (k : Nat)) (fun k => ((name.getD k 0 : Nat) : Int) != (k : Nat)) (fun k => V.int (k : Nat)) (farOf name) (fun k hk => Tests.one ?_) (fun k hk _ => by walk_at "m nm")) ?_ (plain1 fun e => ⟨rfl, fun x => by rfl⟩)) (Ev.list Evs.nil (by decide)) ?_ (by rfl)) (RunsL.one ?_))
      · exact EvT.cmp (Ev.item (by walk_at "m nm") (by walk_at "m nm") (item_nat rfl (by rw [hname.1]; exact farLt k hk) hlen) (fun _ _ => by rfl)) (by walk_at "m nm") CmpOk.ne_int (by rfl)
      · rw [List.length_map]; refine Nat.le_trans (List.length_filter_le _ _) ?_; unfold farOf; rw [List.length_map, hname.1]; decide
      · have := CmpOk.eq_nil (W := W) (a := ((farOf name).filter fun k => ((name.getD k 0 : Nat) : Int) != (k : Nat)).map fun k => V.int (k : Nat))
        rwa [List.isEmpty_map, hgood, hg] at this
      · have h5 := countsOf_len done
        have hfx := fixedOf_le name
        refine Runs.augItem (i := (fixedOf name : Nat)) (ds := (countsOf done).map V.int) (by walk_at "m mem") (Ev.len G.toG1 (by decide +kernel) (Ev.comp ["k"] (by decide +kernel) (Ev.range1 G.toG1 (by decide +kernel) Ev.int (fun _ => by rfl)) (IterOk.rng (by decide) (by decide +kernel)) (o := ((List.range 4).filter fun (k : Nat) => ((name.getD k 0 : Nat) : Int) == 0 + (k : Int) * 1).map fun (k : Nat) => V.int (0 + (k : Int) * 1)) ?_ ?_ (plain1 fun e => ⟨rfl, fun x => by rfl⟩)) ?_ (fun _ => by rfl)) (by omega) (by omega) (a := .int ((countsOf done).getD (fixedOf name) 0)) ?_ Ev.int InpOk.add (by walk_at "m put") (fun _ _ _ => by rfl)
        · rw [range4]
          refine EmitL.one (fun (k : Nat) => V.int (0 + (k : Int) * 1)) _ _ (List.range 4) (fun k hk => Tests.one ?_) (fun k hk _ => by walk_at "m nm")
          have hk4 := List.mem_range.mp hk
          exact EvT.cmp (Ev.item (by walk_at "m nm") (by walk_at "m nm") (item_nat (k := k) (by omega) (by rw [hname.1]; exact hk4) hlen) (fun _ _ => by rfl)) (by walk_at "m nm") CmpOk.eq_int (by rfl)
        · rw [List.length_map]; exact Nat.le_trans (List.length_filter_le _ _) (by simp)
        · have h := CallOk.len_list (W := W) (n := n) (l := ((List.range 4).filter fun (k : Nat) => ((name.getD k 0 : Nat) : Int) == 0 + (k : Int) * 1).map fun (k : Nat) => V.int (0 + (k : Int) * 1)) (by rw [List.length_map]; exact Nat.le_trans (List.length_filter_le _ _) (by simp))
          rw [List.length_map] at h
          exact h
        · rw [Int.toNat_natCast, List.getElem?_map, List.getElem?_eq_getElem (show fixedOf name < (countsOf done).length by omega)]
          rw [List.getD_eq_getElem?_getD, List.getElem?_eq_getElem (show fixedOf name < (countsOf done).length by omega)]; rfl
    · have hstep : countsOf (done ++ [name]) = countsOf done := by
        rw [countsOf_snoc]
        unfold countStep
        rw [if_neg hg]
      rw [hstep]
      refine RunsL.one (Runs.ifF (EvT.cmp (c := false) (b := .list []) (Ev.comp ["k"] (by decide +kernel) (by walk_at "m nm") IterOk.list (EmitL.one (fun k => V.int (k : Nat)) (fun k => ((name.getD k 0 : Nat) : Int) != (k : Nat)) (fun k => V.int (k : Nat)) (farOf name) (fun k hk => Tests.one ?_) (fun k hk _ => by walk_at "m nm")) ?_ (plain1 fun e => ⟨rfl, fun x => by rfl⟩)) (Ev.list Evs.nil (by decide)) ?_ (by rfl)) .nil)
      · exact EvT.cmp (Ev.item (by walk_at "m nm") (by walk_at "m nm") (item_nat rfl (by rw [hname.1]; exact farLt k hk) hlen) (fun _ _ => by rfl)) (by walk_at "m nm") CmpOk.ne_int (by rfl)
      · rw [List.length_map]; refine Nat.le_trans (List.length_filter_le _ _) ?_; unfold farOf; rw [List.length_map, hname.1]; decide
      · have := CmpOk.eq_nil (W := W) (a := ((farOf name).filter fun k => ((name.getD k 0 : Nat) : Int) != (k : Nat)).map fun k => V.int (k : Nat))
        rwa [List.isEmpty_map, hgood, Bool.eq_false_iff.mpr hg] at this
  · rintro σ' ⟨k, f, hk, hf, rfl⟩
    refine RunsL.freeze (by walk_at "m mem") (by walk_at "m put") ?_
    exact RunsL.ret (Runs.ret (by walk_at "m nm"))
end
end Mine
open PySem PySem.W PyProof.Rows
set_option Elab.async false
set_option linter.unusedVariables false
set_option maxRecDepth 100000
namespace Mine
local macro_rules | `(tactic| walk_at "m mem") => `(tactic| (first | with_reducible exact List.mem_cons_self .. | (with_reducible refine InS.own ?_; walk_at "m mem") | (with_reducible refine InS.free ?_ (by decide +kernel); walk_at "m mem") | (with_reducible refine List.mem_cons_of_mem _ ?_; walk_at "m mem")))
local macro_rules | `(tactic| walk_at "m put") => `(tactic| (repeat (first | with_reducible exact Put.here | with_reducible apply Put.there)))
local macro_rules | `(tactic| walk_at "m app") => `(tactic| (repeat (first | exact noApp.nil | refine noApp.val ?_ | refine noApp.own ?_ | refine noApp.unset ?_ | refine noApp.plain (by assumption) ?_ | refine noApp.app (by decide) ?_)))
local macro_rules | `(tactic| walk_at "m nm") => `(tactic| (refine Ev.name (by walk_at "m mem") (by decide +kernel)))
section
variable {W : Wo} {n : Nat}
def inBracket (letters bracket : List Nat) (k : Nat) : Bool := isIn [letters.getD k 0] bracket != (sl bracket none (some 1) none == L "^")
def takenRow (letters bracket : List Nat) : List Nat := (List.range 4).filter (inBracket letters bracket)
def bracketsOf (e : List Nat) : List (List Nat) := splitL (rsub (sl e (some 5) (some (-4)) none) (hd1 "\\") (L "")) (L "][")
def takenOf (e letters : List Nat) : List (List Nat) := (bracketsOf e).map (takenRow letters)
theorem law_taken (G : G4 W) {e letters : List Nat} (hl : letters.length = 4) (he : e.length ≤ 100000) (hn : (bracketsOf e).length ≤ 1000) (hb : ∀ b ∈ bracketsOf e, b.length ≤ 100000) :
    RunsL W n (fscope (nth pw 33)) (fbody (nth pw 33)) (argStore ["expression", "letters"] [.str e, .str letters] ["taken", "bracket"]) (.ret (.list ((takenOf e letters).map encN))) := by
  show RunsL W n _ _ [("expression", .val (.str e)), ("letters", .val (.str letters)), ("taken", .unset), ("bracket", .unset)] _
  refine RunsL.cons (Runs.assignOwn (EvNew.list Evs.nil (by decide)) (by walk_at "m put") (by walk_at "m app") (fun _ => by rfl)) ?_
  have h1 := sl_len e (some 5) (some (-4))
  have e0 : (L "").length = 0 := by decide +kernel
  have h2 := rsub_le (l := sl e (some 5) (some (-4)) none) (r := L "") (c := hd1 "\\") (k := 1) (by rw [e0]; omega) (by omega)
  refine RunsL.forInv V.str (fun done σ => ∃ b, plainS b ∧ σ = ([("expression", .val (.str e)), ("letters", .val (.str letters)), ("taken", .own ((done.map (takenRow letters)).map encN)), ("bracket", b)] : Store)) (bracketsOf e)
    (Ev.meth (Ev.replaceLit (Ev1.slice (by walk_at "m nm") (.some (Ev.un Ev.int UnOk.neg)) .none (SliceOk.str (by decide) (by omega)) (fun _ _ => ⟨_, by rfl⟩)) (fun _ => by rfl) (by rfl) (one_L (by decide +kernel)) (ofString_L _) (by decide +kernel) (by rw [e0]; omega) (fun _ => by rfl)) (Evs.one Ev.str (fun _ => by rfl)) HasType.str meth_split (CallOk.split (by decide +kernel) (by omega)) (fun _ => by rfl) (by rfl) (by decide)) IterOk.list (fun _ _ => by rfl) ⟨.unset, .unset, rfl⟩ ?_ ?_
  · rintro done b rest σ hx ⟨s, hs, rfl⟩
    have hbl : b.length ≤ 100000 := hb b (by rw [hx]; simp)
    have hd : done.length ≤ 1000 := by
      have := congrArg List.length hx
      rw [List.length_append] at this; omega
    have hsn : ((done ++ [b]).map (takenRow letters)).map encN = (done.map (takenRow letters)).map encN ++ [V.list (((List.range 4).filter (inBracket letters b)).map fun (k : Nat) => V.int (k : Nat))] := by
      rw [List.map_append, List.map_append]; rfl
    refine ⟨_, _, Binds.name (by walk_at "m put") (by walk_at "m app"), ?_, .val (.str b), .val, by rw [hsn]⟩
    refine RunsL.cons (Runs.append (by walk_at "m mem") (Ev.comp ["k"] (by decide +kernel) (Ev.range1 G.toG1 (by decide +kernel) Ev.int (fun _ => by rfl)) (IterOk.rng (by decide) (by decide +kernel)) (o := ((List.range 4).filter (inBracket letters b)).map fun (k : Nat) => V.int (k : Nat)) ?_ ?_ (plain1 fun e => ⟨rfl, fun x => by rfl⟩)) (by walk_at "m put") ?_ (by rfl) (fun _ => by rfl)) .nil
    · rw [range4]
      have e4 : (fun (k : Nat) => V.int (0 + (k : Int) * 1)) = fun (k : Nat) => V.int (k : Nat) := by funext k; congr 1; omega
      rw [e4]
      refine EmitL.one (fun (k : Nat) => V.int (k : Nat)) _ _ (List.range 4) (fun k hk => Tests.one ?_) (fun k hk _ => by walk_at "m nm")
      have hk4 := List.mem_range.mp hk
      have hlk : chAt letters (k : Nat) = some (letters.getD k 0) := by
        rw [chAt_nat 0 (by rw [hl]; exact hk4) rfl, List.getD_eq_getElem?_getD]
      refine EvT.cmp (Ev.cmp (Ev.item (by walk_at "m nm") (by walk_at "m nm") (ItemOk.str (by omega) (by omega) hlk) (fun _ _ => by rfl)) (by walk_at "m nm") CmpOk.in_str (by rfl))
        (Ev.cmp (Ev.slice (by walk_at "m nm") .none (.some Ev.int) .none (SliceOk.str (by decide) (by omega)) (fun _ _ => ⟨_, by rfl⟩)) Ev.str CmpOk.eq_str (by rfl)) CmpOk.ne_bool (by rfl)
    · rw [List.length_map]; exact Nat.le_trans (List.length_filter_le _ _) (by simp)
    · rw [List.length_map, List.length_map]; omega
  · rintro σ' ⟨s, hs, rfl⟩
    have ht : takenOf e letters = (bracketsOf e).map (takenRow letters) := rfl
    rw [ht]
    refine RunsL.freeze (by walk_at "m mem") (by walk_at "m put") ?_
    exact RunsL.ret (Runs.ret (by walk_at "m nm"))
end
end Mine
open PySem PySem.W PyProof.Rows
set_option Elab.async false
set_option linter.unusedVariables false
set_option maxRecDepth 100000
namespace Mine
local macro_rules | `(tactic| walk_at "m mem") => `(tactic| (first | with_reducible exact List.mem_cons_self .. | (with_reducible refine InS.own ?_; walk_at "m mem") | (with_reducible refine InS.free ?_ (by decide +kernel); walk_at "m mem") | (with_reducible refine List.mem_cons_of_mem _ ?_; walk_at "m mem")))
local macro_rules | `(tactic| walk_at "m put") => `(tactic| (repeat (first | with_reducible exact Put.here | with_reducible apply Put.there)))
local macro_rules | `(tactic| walk_at "m app") => `(tactic| (repeat (first | exact noApp.nil | refine noApp.val ?_ | refine noApp.own ?_ | refine noApp.unset ?_ | refine noApp.plain (by assumption) ?_ | refine noApp.app (by decide) ?_)))
local macro_rules | `(tactic| walk_at "m nm") => `(tactic| (refine Ev.name (by walk_at "m mem") (by decide +kernel)))
section
variable {W : Wo} {n : Nat}
structure G6 (W : Wo) : Prop extends G4 W where
  buffer : Fn W pw 12 "_buffer" ["data"]
  truth : Fn W pw 13 "_truth" ["x"]
  b2a : FnKw W pw 15 "b2a_base64" "data" "newline"
  b64 : FnDf W pw 17 "b64encode" ["s", "altchars"] 1 [.none]
  letters : ∃ t, W.mg "_B64" = some (.bytes b64L.toArray t)
  type : W.mg "type" = Option.none
  bytes : W.mg "bytes" = Option.none
  bool : W.mg "bool" = Option.none
theorem bb_type : bootBuiltins "type" = some (.type "type") := by decide +kernel
theorem bb_bytes : bootBuiltins "bytes" = some (.type "bytes") := by decide +kernel
theorem bb_bool : bootBuiltins "bool" = some (.type "bool") := by decide +kernel
theorem fn_buffer (G : G6 W) {l : List UInt8} : RunsL W n (fscope (nth pw 12)) (fbody (nth pw 12)) (argStore ["data"] [.bytes l] ["t"]) (.ret (.bytes l)) := by
  show RunsL W n _ _ [("data", .val (.bytes l)), ("t", .unset)] _
  refine RunsL.cons (Runs.assign (d := .val (.type "bytes")) (Ev.call (Ev.builtin (by decide +kernel) G.type bb_type) (Evs.one (by walk_at "m nm") (fun _ => by rfl)) (by trivial) (CallOk.type_of HasType.bytes (by decide +kernel))) (by walk_at "m put") (by walk_at "m app") (fun _ => by rfl)) ?_
  exact RunsL.ret (Runs.ifT (EvT.cmp (c := true) (by walk_at "m nm") (Ev.builtin (by decide +kernel) G.bytes bb_bytes) CmpOk.is_type (by rfl)) (RunsL.ret (Runs.ret (by walk_at "m nm"))))
theorem fn_truth (G : G6 W) : RunsL W n (fscope (nth pw 13)) (fbody (nth pw 13)) (argStore ["x"] [.bool false] ["t"]) (.ret (.bool false)) := by
  show RunsL W n _ _ [("x", .val (.bool false)), ("t", .unset)] _
  refine RunsL.cons (Runs.assign (d := .val (.type "bool")) (Ev.call (Ev.builtin (by decide +kernel) G.type bb_type) (Evs.one (by walk_at "m nm") (fun _ => by rfl)) (by trivial) (CallOk.type_of HasType.bool (by decide +kernel))) (by walk_at "m put") (by walk_at "m app") (fun _ => by rfl)) ?_
  refine RunsL.ret (Runs.ifT (EvT.or (b := false) (c := true) (EvT.cmp (by walk_at "m nm") Ev.none (CmpOk.is_none rfl) (by rfl)) fun _ => EvT.or (b := true) (c := true) (EvT.cmp (by walk_at "m nm") (Ev.builtin (by decide +kernel) G.bool bb_bool) CmpOk.is_type (by rfl)) fun h => by cases h) (RunsL.ret (Runs.ret ?_)))
  exact Ev.ite (c := false) (EvT.of (by walk_at "m nm") TruOk.bool (fun _ _ => by rfl)) (fun h => by cases h) (fun _ => Ev.bool)
def encO (l : List Nat) : List V := l.map fun k => V.int (k : Nat)
theorem fn_b2a (G : G6 W) {l : List UInt8} (hl : l.length ≤ 1000) (h0 : (feedAll l).bits = 0) : RunsL W (n + 1) (fscope (nth pw 15)) (fbody (nth pw 15)) (argStore ["data", "newline"] [.bytes l, .bool false] ["bin_data", "out", "leftbits", "leftchar", "b"]) (.ret (.bytes ((feedAll l).out.map (·.toUInt8)))) := by
  show RunsL W (n + 1) _ _ [("data", .val (.bytes l)), ("newline", .val (.bool false)), ("bin_data", .unset), ("out", .unset), ("leftbits", .unset), ("leftchar", .unset), ("b", .unset)] _
  refine RunsL.cons (Runs.assign (Ev.fn ["t"] G.buffer (by decide +kernel) (Evs.one (by walk_at "m nm") (fun _ => by rfl)) (by decide +kernel) rfl (fn_buffer G)) (by walk_at "m put") (by walk_at "m app") (fun _ => by rfl)) ?_
  refine RunsL.cons (Runs.assign (Ev.fn ["t"] G.truth (by decide +kernel) (Evs.one (by walk_at "m nm") (fun _ => by rfl)) (by decide +kernel) rfl (fn_truth G)) (by walk_at "m put") (by walk_at "m app") (fun _ => by rfl)) ?_
  refine RunsL.cons (Runs.assignOwn (EvNew.list Evs.nil (by decide)) (by walk_at "m put") (by walk_at "m app") (fun _ => by rfl)) ?_
  refine RunsL.cons (Runs.assign Ev.int (by walk_at "m put") (by walk_at "m app") (fun _ => by rfl)) ?_
  refine RunsL.cons (Runs.assign Ev.int (by walk_at "m put") (by walk_at "m app") (fun _ => by rfl)) ?_
  refine RunsL.forInv (fun (c : UInt8) => V.int (c.toNat : Nat)) (fun done σ => ∃ b, plainS b ∧ σ = ([("data", .val (.bytes l)), ("newline", .val (.bool false)), ("bin_data", .val (.bytes l)), ("out", .own (encO (feedAll done).out)), ("leftbits", .val (.int ((feedAll done).bits : Nat))), ("leftchar", .val (.int ((feedAll done).ch : Nat))), ("b", b)] : Store)) l
    (by walk_at "m nm") IterOk.bytes (fun _ _ => by rfl) ⟨.unset, .unset, rfl⟩ ?_ ?_
  · rintro done c rest σ hx ⟨sb, hb, rfl⟩
    obtain ⟨k1, k2, k3, k4⟩ := feedAll_ok done
    have hdl : done.length ≤ 1000 := by
      have := congrArg List.length hx
      rw [List.length_append] at this; omega
    refine ⟨_, [("data", .val (.bytes l)), ("newline", .val (.bool false)), ("bin_data", .val (.bytes l)), ("out", .own (encO (feedAll (done ++ [c])).out)), ("leftbits", .val (.int ((feedAll (done ++ [c])).bits : Nat))), ("leftchar", .val (.int ((feedAll (done ++ [c])).ch : Nat))), ("b", .val (.int (c.toNat : Nat)))], Binds.name (by walk_at "m put") (by walk_at "m app"), ?_, _, .val, rfl⟩
    rw [feedAll_snoc]
    generalize hst : feedAll done = s at *
    obtain ⟨out, bits, ch⟩ := s
    simp only at k1 k2 k3 k4
    have hc : c.toNat < 2 ^ 8 := c.toNat_lt
    refine RunsL.cons (Runs.assign (d := .int ((ch * 2 ^ 8 + c.toNat) % 2 ^ 16 : Nat)) (Ev.bin (Ev.bin (Ev.bin (by walk_at "m nm") Ev.int (BinOk.shlN 8 rfl (by decide) (by omega))) (by walk_at "m nm") (BinOk.orLow 8 (Nat.mul_mod_left _ _) hc)) Ev.int (BinOk.mask 16 (by decide))) (by walk_at "m put") (by walk_at "m app") (fun _ => by rfl)) ?_
    have hch : (ch * 2 ^ 8 + c.toNat) % 2 ^ 16 < 65536 := Nat.mod_lt _ (by decide)
    refine RunsL.cons (Runs.assign (d := .int (bits + 8 : Nat)) (Ev.bin (by walk_at "m nm") Ev.int (by exact_mod_cast BinOk.add)) (by walk_at "m put") (by walk_at "m app") (fun _ => by rfl)) ?_
    unfold feed
    simp only
    generalize (ch * 2 ^ 8 + c.toNat) % 2 ^ 16 = ch' at *
    have hlen : b64L.length = 64 := by decide +kernel
    have hm : ∀ x : Nat, x % 2 ^ 6 < b64L.length := fun x => by rw [hlen]; exact Nat.mod_lt _ (by decide)
    have snoc : ∀ (o : List Nat) (x : Nat), encO (o ++ [x]) = encO o ++ [V.int (x : Nat)] := fun o x => by unfold encO; rw [List.map_append]; rfl
    have lenO : (encO out).length ≤ 2000 := by unfold encO; rw [List.length_map]; omega
    have lenO1 : ∀ x, (encO out ++ [x]).length ≤ 2001 := fun x => by rw [List.length_append]; simp; exact lenO
    rcases k1 with rfl | rfl | rfl
    · simp only
      rw [snoc]
      refine RunsL.one (Runs.while (m := 1) (WhL.next (EvT.cmp (c := true) (by walk_at "m nm") Ev.int CmpOk.ge_int (by rfl)) (RunsL.cons (Runs.append (by walk_at "m mem")
        (Ev.item (c := .int (b64S (ch' / 2 ^ 2 % 2 ^ 6) : Nat)) (Ev.globBytes (by decide +kernel) G.letters) (Ev.bin (Ev.bin (by walk_at "m nm") (Ev.bin (c := .int (2 : Nat)) (by walk_at "m nm") Ev.int BinOk.sub) (BinOk.shrN 2 rfl)) Ev.int (BinOk.mask 6 (by decide))) (ItemOk.bytes rfl (hm _) (by rw [hlen]; decide)) (fun _ _ => by rfl)) (by walk_at "m put") (by omega) (by rfl) (fun _ => by rfl))
        (RunsL.one (Runs.assign (d := .int (2 : Nat)) (Ev.bin (c := .int (2 : Nat)) (by walk_at "m nm") Ev.int BinOk.sub) (by walk_at "m put") (by walk_at "m app") (fun _ => by rfl)))) (WhL.done (EvT.cmp (c := false) (by walk_at "m nm") Ev.int CmpOk.ge_int (by rfl)))))
    · simp only
      rw [snoc]
      refine RunsL.one (Runs.while (m := 1) (WhL.next (EvT.cmp (c := true) (by walk_at "m nm") Ev.int CmpOk.ge_int (by rfl)) (RunsL.cons (Runs.append (by walk_at "m mem")
        (Ev.item (c := .int (b64S (ch' / 2 ^ 4 % 2 ^ 6) : Nat)) (Ev.globBytes (by decide +kernel) G.letters) (Ev.bin (Ev.bin (by walk_at "m nm") (Ev.bin (c := .int (4 : Nat)) (by walk_at "m nm") Ev.int BinOk.sub) (BinOk.shrN 4 rfl)) Ev.int (BinOk.mask 6 (by decide))) (ItemOk.bytes rfl (hm _) (by rw [hlen]; decide)) (fun _ _ => by rfl)) (by walk_at "m put") (by omega) (by rfl) (fun _ => by rfl))
        (RunsL.one (Runs.assign (d := .int (4 : Nat)) (Ev.bin (c := .int (4 : Nat)) (by walk_at "m nm") Ev.int BinOk.sub) (by walk_at "m put") (by walk_at "m app") (fun _ => by rfl)))) (WhL.done (EvT.cmp (c := false) (by walk_at "m nm") Ev.int CmpOk.ge_int (by rfl)))))
    · simp only
      rw [show out ++ [b64S (ch' / 2 ^ 6 % 2 ^ 6), b64S (ch' / 2 ^ 0 % 2 ^ 6)] = (out ++ [b64S (ch' / 2 ^ 6 % 2 ^ 6)]) ++ [b64S (ch' / 2 ^ 0 % 2 ^ 6)] by simp, snoc, snoc]
      refine RunsL.one (Runs.while (m := 2) (WhL.next (EvT.cmp (c := true) (by walk_at "m nm") Ev.int CmpOk.ge_int (by rfl)) (RunsL.cons (Runs.append (by walk_at "m mem")
        (Ev.item (c := .int (b64S (ch' / 2 ^ 6 % 2 ^ 6) : Nat)) (Ev.globBytes (by decide +kernel) G.letters) (Ev.bin (Ev.bin (by walk_at "m nm") (Ev.bin (c := .int (6 : Nat)) (by walk_at "m nm") Ev.int BinOk.sub) (BinOk.shrN 6 rfl)) Ev.int (BinOk.mask 6 (by decide))) (ItemOk.bytes rfl (hm _) (by rw [hlen]; decide)) (fun _ _ => by rfl)) (by walk_at "m put") (by omega) (by rfl) (fun _ => by rfl))
        (RunsL.one (Runs.assign (d := .int (6 : Nat)) (Ev.bin (c := .int (6 : Nat)) (by walk_at "m nm") Ev.int BinOk.sub) (by walk_at "m put") (by walk_at "m app") (fun _ => by rfl)))) ?_))
      refine WhL.next (EvT.cmp (c := true) (by walk_at "m nm") Ev.int CmpOk.ge_int (by rfl)) (RunsL.cons (Runs.append (by walk_at "m mem")
        (Ev.item (c := .int (b64S (ch' / 2 ^ 0 % 2 ^ 6) : Nat)) (Ev.globBytes (by decide +kernel) G.letters) (Ev.bin (Ev.bin (by walk_at "m nm") (Ev.bin (c := .int (0 : Nat)) (by walk_at "m nm") Ev.int BinOk.sub) (BinOk.shrN 0 rfl)) Ev.int (BinOk.mask 6 (by decide))) (ItemOk.bytes rfl (hm _) (by rw [hlen]; decide)) (fun _ _ => by rfl)) (by walk_at "m put") (by have := lenO1 (V.int (b64S (ch' / 2 ^ 6 % 2 ^ 6) : Nat)); omega) (by rfl) (fun _ => by rfl))
        (RunsL.one (Runs.assign (d := .int (0 : Nat)) (Ev.bin (c := .int (0 : Nat)) (by walk_at "m nm") Ev.int BinOk.sub) (by walk_at "m put") (by walk_at "m app") (fun _ => by rfl)))) (WhL.done (EvT.cmp (c := false) (by walk_at "m nm") Ev.int CmpOk.ge_int (by rfl)))
  · rintro σ' ⟨sb, hb, rfl⟩
    obtain ⟨k1, k2, k3, k4⟩ := feedAll_ok l
    rw [h0]
    refine RunsL.freeze (by walk_at "m mem") (by walk_at "m put") ?_
    refine RunsL.cons (Runs.ifF (EvT.cmp (c := false) (by walk_at "m nm") Ev.int CmpOk.eq_int (by rfl)) (RunsL.one (Runs.ifF (EvT.cmp (c := false) (by walk_at "m nm") Ev.int CmpOk.eq_int (by rfl)) .nil))) ?_
    refine RunsL.cons (Runs.ifF (EvT.of (by walk_at "m nm") TruOk.bool (fun _ _ => by rfl)) .nil) ?_
    have hb := CallOk.bytes (W := W) (n := n + 1) (ns := (feedAll l).out.map fun (k : Nat) => (k : Int)) ?_ (by rw [List.length_map]; omega)
    · have e1 : ((feedAll l).out.map fun (k : Nat) => (k : Int)).map V.int = encO (feedAll l).out := by unfold encO; rw [List.map_map]; rfl
      have e2 : octs ((feedAll l).out.map fun (k : Nat) => (k : Int)) = (feedAll l).out.map (·.toUInt8) := by unfold octs; rw [List.map_map]; rfl
      rw [e1, e2] at hb
      exact RunsL.ret (Runs.ret (Ev.call (Ev.builtin (by decide +kernel) G.bytes bb_bytes) (Evs.one (by walk_at "m nm") (fun _ => by rfl)) (by trivial) hb))
    · intro x hx
      obtain ⟨k, hk, rfl⟩ := List.mem_map.mp hx
      have := k4 k hk
      omega
theorem fn_b64 (G : G6 W) {l : List UInt8} (hl : l.length ≤ 1000) (h0 : (feedAll l).bits = 0) : RunsL W (n + 2) (fscope (nth pw 17)) (fbody (nth pw 17)) (argStore ["s", "altchars"] [.bytes l, .none] ["encoded"]) (.ret (.bytes ((feedAll l).out.map (·.toUInt8)))) := by
  show RunsL W (n + 2) _ _ [("s", .val (.bytes l)), ("altchars", .val .none), ("encoded", .unset)] _
  refine RunsL.cons (Runs.assign (Ev.fnKw ["bin_data", "out", "leftbits", "leftchar", "b"] G.b2a (by decide +kernel) (by walk_at "m nm") Ev.bool (fun _ => by rfl) (by decide +kernel) (fn_b2a G hl h0)) (by walk_at "m put") (by walk_at "m app") (fun _ => by rfl)) ?_
  refine RunsL.cons (Runs.ifF (EvT.cmp (c := false) (by walk_at "m nm") Ev.none (CmpOk.isNot_none rfl) (by rfl)) .nil) ?_
  exact RunsL.ret (Runs.ret (by walk_at "m nm"))
end
end Mine
open PySem PySem.W PyProof.Rows
set_option Elab.async false
set_option linter.unusedVariables false
set_option maxRecDepth 100000
namespace Mine
local macro_rules | `(tactic| walk_at "m mem") => `(tactic| (first | with_reducible exact List.mem_cons_self .. | (with_reducible refine InS.own ?_; walk_at "m mem") | (with_reducible refine InS.free ?_ (by decide +kernel); walk_at "m mem") | (with_reducible refine List.mem_cons_of_mem _ ?_; walk_at "m mem")))
local macro_rules | `(tactic| walk_at "m put") => `(tactic| (repeat (first | with_reducible exact Put.here | with_reducible apply Put.there)))
local macro_rules | `(tactic| walk_at "m app") => `(tactic| (repeat (first | exact noApp.nil | refine noApp.val ?_ | refine noApp.own ?_ | refine noApp.unset ?_ | refine noApp.plain (by assumption) ?_ | refine noApp.app (by decide) ?_)))
local macro_rules | `(tactic| walk_at "m nm") => `(tactic| (refine Ev.name (by walk_at "m mem") (by decide +kernel)))
local macro_rules | `(tactic| walk_at "m wk") => `(tactic| (repeat (first | exact Wk.nil | with_reducible refine Wk.same ?_ | with_reducible refine Wk.drop ?_)))
section
variable {W : Wo} {n : Nat}
theorem fn_joined (G : G6 W) {ls : List (List Nat)} (hn : ls.length ≤ 1000) (hb : ∀ y ∈ ls, y.length ≤ 200) : RunsL W n (fscope (nth pw 10)) (fbody (nth pw 10)) (argStore ["inp", "STAR"] [.list (ls.map V.str), .obj] ["res", "add", "i", "n", "fixed"]) (.ret (.str (L "(?s:" ++ joinL (L "") ls ++ L ")\\Z"))) := by
  show RunsL W n _ _ [("inp", .val (.list (ls.map V.str))), ("STAR", .val .obj), ("res", .unset), ("add", .unset), ("i", .unset), ("n", .unset), ("fixed", .unset)] _
  have hlen : (ls.map V.str).length = ls.length := List.length_map ..
  refine RunsL.cons (Runs.assignOwn (EvNew.list Evs.nil (by decide)) (by walk_at "m put") (by walk_at "m app") (fun _ => by rfl)) ?_
  refine RunsL.cons (Runs.assignApp (by walk_at "m mem") (by walk_at "m put") (by walk_at "m app") (fun _ => by rfl)) ?_
  refine RunsL.cons (Runs.swapped (xs := ["i", "n"]) (ds := [.int 0, .int (ls.length : Nat)]) (Ev.tup (.cons Ev.int (Evs.one (Ev.len G.toG1 (by decide +kernel) (by walk_at "m nm") ?_ (fun _ => by rfl)) (fun _ => by rfl)) (fun _ => by rfl)) (by simp)) (BindsR.cons (by walk_at "m put") (by walk_at "m app") (BindsR.cons (by walk_at "m put") (by walk_at "m app") BindsR.nil)) (fun _ => by rfl) (fun env he => ?_) rfl) ?_
  · have := CallOk.len_list (W := W) (n := n) (l := ls.map V.str) (by rw [hlen]; omega)
    rwa [hlen] at this
  · cases env; cases he; kernel_rfl
  refine RunsL.whileInv (fun i σ => σ = ([("inp", .val (.list (ls.map V.str))), ("STAR", .val .obj), ("res", .own ((ls.take i).map V.str)), ("add", .app "res"), ("i", .val (.int (i : Nat))), ("n", .val (.int (ls.length : Nat))), ("fixed", .unset)] : Store)) ls.length rfl ?_ ?_ ?_
  · rintro i σ hi rfl
    have hit : ItemOk W (.list (ls.map V.str)) (.int (i : Nat)) (.str (ls[i]'hi)) := ItemOk.list (by omega) (by omega) (by rw [Int.toNat_natCast, List.getElem?_map, List.getElem?_eq_getElem hi]; rfl)
    refine ⟨EvT.and (b := true) (c := true) (EvT.cmp (by walk_at "m nm") (by walk_at "m nm") ?_ (by rfl)) fun _ => EvT.and (b := true) (c := true) (EvT.cmp (Ev.item (by walk_at "m nm") (by walk_at "m nm") hit (fun _ _ => by rfl)) (by walk_at "m nm") CmpOk.isNot_obj (by rfl)) fun _ => EvT.and_nil, [("inp", .val (.list (ls.map V.str))), ("STAR", .val .obj), ("res", .own ((ls.take (i + 1)).map V.str)), ("add", .app "res"), ("i", .val (.int (i + 1 : Nat))), ("n", .val (.int (ls.length : Nat))), ("fixed", .unset)], ?_, rfl⟩
    · have := CmpOk.lt_int (W := W) (a := (i : Nat)) (b := (ls.length : Nat))
      rwa [decide_eq_true (by omega)] at this
    · have e : (ls.take (i + 1)).map V.str = (ls.take i).map V.str ++ [V.str (ls[i]'hi)] := by rw [List.take_add_one, List.getElem?_eq_getElem hi, List.map_append]; rfl
      rw [e]
      refine RunsL.cons (Runs.addCall (by walk_at "m mem") (by walk_at "m mem") (Ev.item (by walk_at "m nm") (by walk_at "m nm") hit (fun _ _ => by rfl)) (by walk_at "m put") (by rw [List.length_map, List.length_take]; omega) (fun _ => by rfl)) ?_
      exact RunsL.one (Runs.aug (by walk_at "m mem") Ev.int (c := .int ((i + 1 : Nat) : Int)) InpOk.add (by walk_at "m put") (by walk_at "m app"))
  · rintro σ rfl
    refine EvT.and (b := false) (c := true) (EvT.cmp (by walk_at "m nm") (by walk_at "m nm") ?_ (by rfl)) fun h => by cases h
    have := CmpOk.lt_int (W := W) (a := (ls.length : Nat)) (b := (ls.length : Nat))
    rwa [decide_eq_false (by omega)] at this
  rintro σ rfl
  rw [List.take_length]
  refine RunsL.cons (Runs.while (m := 0) (WhL.done (EvT.cmp (c := false) (by walk_at "m nm") (by walk_at "m nm") ?_ (by rfl)))) ?_
  · have := CmpOk.lt_int (W := W) (a := (ls.length : Nat)) (b := (ls.length : Nat))
    rwa [decide_eq_false (by omega)] at this
  refine RunsL.cons (Runs.assertT (EvT.cmp (c := true) (by walk_at "m nm") (by walk_at "m nm") ?_ (by rfl))) ?_
  · have := CmpOk.eq_int (W := W) (a := (ls.length : Nat)) (b := (ls.length : Nat))
    rwa [beq_self_eq_true] at this
  refine RunsL.forget (σ' := [("inp", .val (.list (ls.map V.str))), ("STAR", .val .obj), ("res", .own (ls.map V.str)), ("add", .unset), ("i", .val (.int (ls.length : Nat))), ("n", .val (.int (ls.length : Nat))), ("fixed", .unset)]) (by walk_at "m wk") ?_
  refine RunsL.freeze (by walk_at "m mem") (by walk_at "m put") ?_
  have e0 : (L "").length = 0 := by decide +kernel
  have hj := CallOk.join (W := W) (n := n) (sep := L "") (ls := ls) 200 hb (by rw [e0]; omega)
  have hz : (joinL (L "") ls).length ≤ 200000 := by
    have e : L "" = [] := by decide +kernel
    rw [e, joinL_nil_sep]
    have := flatten_le hb
    have h2 : ls.length * 200 ≤ 1000 * 200 := Nat.mul_le_mul_right _ hn
    omega
  refine RunsL.cons (Runs.assign (Ev.meth Ev.str (Evs.one (by walk_at "m nm") (fun _ => by rfl)) HasType.str meth_join hj (fun _ => by rfl) (by rfl) (by decide)) (by walk_at "m put") (by walk_at "m app") (fun _ => by rfl)) ?_
  refine RunsL.ret (Runs.ret (Ev.fstr (by walk_at "m nm") ?_))
  have e1 : (L "(?s:").length = 4 := by decide +kernel
  have e2 : (L ")\\Z").length = 3 := by decide +kernel
  rw [e1, e2]; omega
end
end Mine
open PySem PySem.W PyProof.Rows
set_option Elab.async false
set_option linter.unusedVariables false
set_option maxRecDepth 100000
namespace Mine
local macro_rules | `(tactic| walk_at "m mem") => `(tactic| (first | with_reducible exact List.mem_cons_self .. | (with_reducible refine InS.own ?_; walk_at "m mem") | (with_reducible refine InS.free ?_ (by decide +kernel); walk_at "m mem") | (with_reducible refine List.mem_cons_of_mem _ ?_; walk_at "m mem")))
local macro_rules | `(tactic| walk_at "m put") => `(tactic| (repeat (first | with_reducible exact Put.here | with_reducible apply Put.there)))
local macro_rules | `(tactic| walk_at "m app") => `(tactic| (repeat (first | exact noApp.nil | refine noApp.val ?_ | refine noApp.own ?_ | refine noApp.unset ?_ | refine noApp.plain (by assumption) ?_ | refine noApp.app (by decide) ?_)))
local macro_rules | `(tactic| walk_at "m nm") => `(tactic| (refine Ev.name (by walk_at "m mem") (by decide +kernel)))
local macro_rules | `(tactic| walk_at "m wk") => `(tactic| (repeat (first | exact Wk.nil | with_reducible refine Wk.same ?_ | with_reducible refine Wk.drop ?_)))
section
variable {W : Wo} {n : Nat}
def cellStep (cells : List Int) (p : Int × Nat) : List Int := cells.set (p.2 % 5) (cells.getD (p.2 % 5) 0 + p.1.fmod 1000000)
def cells0 : List Int := [38260, 4062, 84, 1042, 2117]
def cellsOf (l : List (Int × Nat)) : List Int := l.foldl cellStep cells0
theorem cellsOf_snoc (l : List (Int × Nat)) (p : Int × Nat) : cellsOf (l ++ [p]) = cellStep (cellsOf l) p := by unfold cellsOf; rw [List.foldl_append]; rfl
theorem cellsOf_ok (l : List (Int × Nat)) : (cellsOf l).length = 5 ∧ ∀ x ∈ cellsOf l, 0 ≤ x ∧ x ≤ 40000 + 1000000 * (l.length : Int) := by
  have : ∀ (l : List (Int × Nat)) (c : List Int) (m : Nat), (c.length = 5 ∧ ∀ x ∈ c, 0 ≤ x ∧ x ≤ 40000 + 1000000 * (m : Int)) → ((l.foldl cellStep c).length = 5 ∧ ∀ x ∈ l.foldl cellStep c, 0 ≤ x ∧ x ≤ 40000 + 1000000 * ((m + l.length : Nat) : Int)) := by
    intro l
    induction l with
    | nil => intro c m h; exact h
    | cons p l ih =>
      intro c m h
      have := ih (cellStep c p) (m + 1) ⟨by unfold cellStep; rw [List.length_set]; exact h.1, fun x hx => by
        unfold cellStep at hx
        have h1 : 0 ≤ p.1.fmod 1000000 := Int.fmod_nonneg_of_pos _ (by decide)
        have h2 : p.1.fmod 1000000 < 1000000 := Int.fmod_lt_of_pos _ (by decide)
        rcases List.mem_or_eq_of_mem_set hx with q | q
        · have := h.2 x q; push_cast; omega
        · have h5 : p.2 % 5 < c.length := by rw [h.1]; exact Nat.mod_lt _ (by decide)
          have hg : c.getD (p.2 % 5) 0 ∈ c := by rw [List.getD_eq_getElem?_getD, List.getElem?_eq_getElem h5]; exact List.getElem_mem _
          have := h.2 _ hg
          rw [q]; push_cast; omega⟩
      rw [List.length_cons, show m + (l.length + 1) = m + 1 + l.length by omega]
      exact this
  have := this l cells0 0 ⟨rfl, by decide⟩
  rwa [Nat.zero_add] at this
structure Dr where
  letters : List Nat
  left : List Nat
  rest : Int
def drStep (d : Dr) (size : Int) : Dr := ⟨d.letters ++ [d.left.getD (d.rest.fmod size).toNat 0], rsub d.left (d.left.getD (d.rest.fmod size).toNat 0) [], d.rest.fdiv size⟩
def dr0 (rest : Int) : Dr := ⟨L "", L "ampltgquo1309xDA", rest⟩
def sizeOf (i : Nat) : Int := 16 + (i : Int) * (-1)
def drAll (rest : Int) (l : List Nat) : Dr := l.foldl (fun d i => drStep d (sizeOf i)) (dr0 rest)
def DrOk (d : Dr) (i : Nat) : Prop := d.left.Nodup ∧ d.left.length + i = 16 ∧ d.letters.length = i
theorem rsub_nil (l : List Nat) (c : Nat) : rsub l c [] = l.filter (fun x => x != c) := by
  unfold rsub
  induction l with
  | nil => rfl
  | cons x l ih =>
    rw [List.flatMap_cons, ih, List.filter_cons]
    by_cases h : x = c
    · simp [h]
    · simp [h]
theorem filter_len {l : List Nat} {c : Nat} (nd : l.Nodup) (hc : c ∈ l) : (l.filter (fun x => x != c)).length + 1 = l.length := by
  induction l with
  | nil => cases hc
  | cons x l ih =>
    rw [List.nodup_cons] at nd
    rw [List.filter_cons]
    by_cases h : x = c
    · subst h
      rw [if_neg (by simp)]
      have : l.filter (fun y => y != x) = l := List.filter_eq_self.mpr fun y hy => by
        rw [bne_iff_ne]; exact fun e => nd.1 (e ▸ hy)
      rw [this]; rfl
    · rw [if_pos (by simp [h])]
      have := ih nd.2 (by rcases List.mem_cons.mp hc with q | q; exact absurd q.symm h; exact q)
      simp only [List.length_cons]; omega
theorem drStep_ok {d : Dr} {i : Nat} (h : DrOk d i) (hi : i < 4) : DrOk (drStep d (sizeOf i)) (i + 1) ∧ 0 ≤ d.rest.fmod (sizeOf i) ∧ (d.rest.fmod (sizeOf i)).toNat < d.left.length := by
  obtain ⟨h1, h2, h3⟩ := h
  have hs : 0 < sizeOf i := by unfold sizeOf; omega
  have a1 := Int.fmod_nonneg_of_pos d.rest hs
  have a2 := Int.fmod_lt_of_pos d.rest hs
  have a3 : (d.rest.fmod (sizeOf i)).toNat < d.left.length := by unfold sizeOf at a2 a1 ⊢; omega
  have hm : d.left.getD (d.rest.fmod (sizeOf i)).toNat 0 ∈ d.left := by rw [List.getD_eq_getElem?_getD, List.getElem?_eq_getElem a3]; exact List.getElem_mem _
  refine ⟨⟨?_, ?_, ?_⟩, a1, a3⟩
  · show (rsub _ _ _).Nodup
    rw [rsub_nil]; exact h1.filter _
  · show (rsub _ _ _).length + (i + 1) = 16
    rw [rsub_nil]
    have := filter_len h1 hm
    omega
  · show (d.letters ++ [_]).length = i + 1
    rw [List.length_append, h3]; rfl
theorem dr0_ok (rest : Int) : DrOk (dr0 rest) 0 := ⟨by show (L "ampltgquo1309xDA").Nodup; decide +kernel, by show (L "ampltgquo1309xDA").length + 0 = 16; decide +kernel, by show (L "").length = 0; decide +kernel⟩
theorem drAll_ok (rest : Int) : ∀ i, i ≤ 4 → DrOk (drAll rest (List.range i)) i
  | 0, _ => dr0_ok rest
  | i + 1, h => by
    have ih := drAll_ok rest i (by omega)
    unfold drAll at ih ⊢
    rw [List.range_succ, List.foldl_append]
    exact (drStep_ok ih (by omega)).1
theorem range_split {m x : Nat} {done rest : List Nat} (h : List.range m = done ++ x :: rest) : x < m ∧ done = List.range x := by
  have hl := congrArg List.length h
  simp at hl
  have hx : (List.range m)[done.length]? = some x := by rw [h]; simp
  rw [List.getElem?_range (by omega)] at hx
  have hxd : done.length = x := Option.some.inj hx
  refine ⟨by omega, ?_⟩
  have h2 : (List.range m).take done.length = done := by rw [h]; simp
  rw [← h2, List.take_range]
  congr 1
  omega
theorem bb_enumerate : bootBuiltins "enumerate" = some (.type "enumerate") := by decide +kernel
theorem RunsL.enumInv {sc : Scope} {σ : Store} {elts : List PySem.Expr} {ek : Nat} {ep p pos cpos : Pos} {body sts : List Stmt} {e : PySem.Expr} {r : Res} (ms : List Int) (P : List (Int × Nat) → Store → Prop) (hg : isGlob sc "enumerate" = true) (hm : W.mg "enumerate" = Option.none) (h : Ev W n sc σ e (.list (ms.map V.int)))
    (hn : ∀ env, starEach [e] env = (false, eval e env) :: starEach [] env) (hs : ∀ env x, foldedSetIterable (.Call (.Name "enumerate" p) [e] [] cpos) env x = pure x) (h0 : P [] σ)
    (step : ∀ done x rest σ, ms.zipIdx = done ++ x :: rest → P done σ → ∃ τ σ', Binds W sc (.Tuple elts ek ep) (V.tup [.int (x.2 : Nat), .int x.1]) σ τ ∧ RunsL W n sc body τ (.next σ') ∧ P (done ++ [x]) σ') (rest : ∀ σ', P ms.zipIdx σ' → RunsL W n sc sts σ' r) :
    RunsL W n sc (.For (.Tuple elts ek ep) (.Call (.Name "enumerate" p) [e] [] cpos) body [] pos :: sts) σ r := by
  obtain ⟨σ', h1, h2⟩ := ForL.inv (fun (x : Int × Nat) => V.tup [.int (x.2 : Nat), .int x.1]) ms.zipIdx step ms.zipIdx [] σ rfl h0
  have e2 : ((ms.map V.int).zipIdx.map fun p => V.tup [.int (p.2 : Nat), p.1]) = ms.zipIdx.map fun p => V.tup [.int (p.2 : Nat), .int p.1] := by
    rw [List.zipIdx_map, List.map_map]; rfl
  exact RunsL.cons (Runs.forEnum hg hm bb_enumerate h hn (by rw [e2]; exact h2) hs) (rest σ' h1)
structure G7 (W : Wo) : Prop extends G6 W where
  enum : W.mg "enumerate" = Option.none
def drawnCells (ns : List Int) : List Int := cellsOf (sl ns none (some 60) none).zipIdx
def drawn (ns : List Int) : Dr := drAll (((drawnCells ns).getD 0 0).fdiv 5) (List.range 4)
def drawnV (ns : List Int) : V := .tup [.int (((drawnCells ns).getD 0 0).fmod 5), .str (drawn ns).letters, .list (((drawnCells ns).drop 1).map V.int)]
theorem law_drawn (G : G7 W) {ns : List Int} (hn : ns.length ≤ 1000) {sd : V} (hsd : SliceOk W sd none (some 60) none (.list ((sl ns none (some 60) none).map V.int))) :
    RunsL W n (fscope (nth pw 26)) (fbody (nth pw 26)) (argStore ["script"] [sd] ["cells", "k", "x", "letters", "left", "rest", "size", "letter"]) (.ret (drawnV ns)) := by
  show RunsL W n _ _ [("script", .val sd), ("cells", .unset), ("k", .unset), ("x", .unset), ("letters", .unset), ("left", .unset), ("rest", .unset), ("size", .unset), ("letter", .unset)] _
  refine RunsL.cons (Runs.assignOwn (ds := cells0.map V.int) (EvNew.list ?_ (by decide)) (by walk_at "m put") (by walk_at "m app") (fun _ => by rfl)) ?_
  · repeat (first | exact Evs.nil | refine Evs.cons Ev.int ?_ (fun _ => by rfl))
  have hsl : (sl ns none (some 60) none).length ≤ ns.length := sl_len ns none (some 60)
  generalize hms : sl ns none (some 60) none = ms at hsl
  have hlen60 : ms.length ≤ 1000 := by omega
  refine RunsL.enumInv ms (fun done σ => ∃ sk sx, plainS sk ∧ plainS sx ∧ σ = ([("script", .val sd), ("cells", .own ((cellsOf done).map V.int)), ("k", sk), ("x", sx), ("letters", .unset), ("left", .unset), ("rest", .unset), ("size", .unset), ("letter", .unset)] : Store)) (by decide +kernel) G.enum ?_ (fun _ => by rfl) (fun _ _ => by rfl) ⟨.unset, .unset, .unset, .unset, rfl⟩ ?_ ?_
  · rw [hms] at hsd
    exact Ev.slice (by walk_at "m nm") .none (.some Ev.int) .none hsd (fun _ _ => ⟨_, by rfl⟩)
  · rintro done p rest σ hx ⟨sk, sx, hsk, hsx, rfl⟩
    obtain ⟨hc1, hc2⟩ := cellsOf_ok done
    have hp2 : p.2 < 1000 := by
      have hmem : p ∈ ms.zipIdx := by rw [hx]; simp
      have := List.snd_lt_of_mem_zipIdx hmem
      omega
    have hmod : ((p.2 : Nat) : Int).fmod 5 = ((p.2 % 5 : Nat) : Int) := by rw [Int.fmod_eq_emod_of_nonneg _ (by decide)]; omega
    have h5 : p.2 % 5 < (cellsOf done).length := by rw [hc1]; exact Nat.mod_lt _ (by decide)
    have hcell : (cellsOf (done ++ [p])).map V.int = ((cellsOf done).map V.int).set (((p.2 % 5 : Nat) : Int)).toNat (V.int ((cellsOf done).getD (p.2 % 5) 0 + p.1.fmod 1000000)) := by
      rw [cellsOf_snoc, Int.toNat_natCast]; unfold cellStep; rw [List.map_set]
    refine ⟨_, _, Binds.tuple (BindsL.cons (by walk_at "m put") (by walk_at "m app") (BindsL.cons (by walk_at "m put") (by walk_at "m app") BindsL.nil)), ?_, .val (.int (p.2 : Nat)), .val (.int p.1), .val, .val, by rw [hcell]⟩
    refine RunsL.one (Runs.augItem (i := ((p.2 % 5 : Nat) : Int)) (by walk_at "m mem") ?_ (by omega) (by omega) (a := .int ((cellsOf done).getD (p.2 % 5) 0)) ?_ (Ev.bin (by walk_at "m nm") Ev.int (BinOk.fmod (by decide))) InpOk.add (by walk_at "m put") (fun _ _ _ => by rfl))
    · refine Ev.bin (by walk_at "m nm") Ev.int ?_
      have := BinOk.fmod (W := W) (a := (p.2 : Nat)) (b := 5) (by decide)
      rwa [hmod] at this
    · rw [Int.toNat_natCast, List.getElem?_map, List.getElem?_eq_getElem h5, List.getD_eq_getElem?_getD, List.getElem?_eq_getElem h5]; rfl
  rintro σ' ⟨sk, sx, hsk, hsx, rfl⟩
  refine RunsL.freeze (by walk_at "m mem") (by walk_at "m put") ?_
  obtain ⟨hc1, hc2⟩ := cellsOf_ok ms.zipIdx
  have hcs : drawnCells ns = cellsOf ms.zipIdx := by unfold drawnCells; rw [hms]
  have hzl : ms.zipIdx.length = ms.length := List.length_zipIdx
  unfold drawnV drawn
  rw [hcs]
  generalize cellsOf ms.zipIdx = cells at *
  obtain ⟨c0, c1, c2, c3, c4, rfl⟩ : ∃ c0 c1 c2 c3 c4, cells = [c0, c1, c2, c3, c4] := by
    match cells, hc1 with
    | [a, b, c, d, e], _ => exact ⟨a, b, c, d, e, rfl⟩
  have hitem : ItemOk W (.list ([c0, c1, c2, c3, c4].map V.int)) (.int 0) (.int c0) := ItemOk.list (by decide) (by decide) rfl
  have hc0 := hc2 c0 (by simp)
  refine RunsL.cons (Runs.swapped (xs := ["letters", "left", "rest"]) (ds := [.str (L ""), .str (L "ampltgquo1309xDA"), .int (c0.fdiv 5)]) (Ev.tup (.cons Ev.str (.cons Ev.str (Evs.one (Ev.bin (Ev.item (by walk_at "m nm") Ev.int hitem (fun _ _ => by rfl)) Ev.int (BinOk.fdiv (by decide) (by decide +kernel))) (fun _ => by rfl)) (fun _ => by rfl)) (fun _ => by rfl)) (by simp)) (BindsR.cons (by walk_at "m put") (by walk_at "m app") (BindsR.cons (by walk_at "m put") (by walk_at "m app") (BindsR.cons (by walk_at "m put") (by walk_at "m app") BindsR.nil))) (fun _ => by rfl) (fun env he => by cases env; cases he; kernel_rfl) rfl) ?_
  show RunsL W n _ _ _ (.ret (.tup [.int (c0.fmod 5), .str (drAll (c0.fdiv 5) (List.range 4)).letters, .list ([c1, c2, c3, c4].map V.int)]))
  generalize hr0 : c0.fdiv 5 = r0
  have hr0' : 0 ≤ r0 ∧ r0 ≤ 40000 + 1000000 * 1000 := by
    rw [← hr0, Int.fdiv_eq_ediv_of_nonneg _ (by decide)]
    omega
  have small : ∀ d : Dr, ∀ i, DrOk d i → i < 4 → d.left.length ≤ 16 ∧ d.letters.length ≤ 4 := fun d i h hi => ⟨by have := h.2.1; omega, by have := h.2.2; omega⟩
  have rng : rangeL 16 12 (-1) = (List.range 4).map fun (i : Nat) => V.int (sizeOf i) := by
    unfold rangeL
    rw [show (Builtin.Range.rangeSize 16 12 (-1)).toNat = 4 by decide +kernel]; rfl
  refine RunsL.forInv (fun (i : Nat) => V.int (sizeOf i)) (fun done σ => ∃ sz, plainS sz ∧ σ = ([("script", .val sd), ("cells", .val (.list ([c0, c1, c2, c3, c4].map V.int))), ("k", sk), ("x", sx), ("letters", .val (.str (drAll r0 done).letters)), ("left", .val (.str (drAll r0 done).left)), ("rest", .val (.int (drAll r0 done).rest)), ("size", sz), ("letter", .unset)] : Store)) (List.range 4)
    (Ev.call (Ev.builtin (by decide +kernel) G.range bb_range) (.cons Ev.int (.cons Ev.int (Evs.one (Ev.un Ev.int UnOk.neg) (fun _ => by rfl)) (fun _ => by rfl)) (fun _ => by rfl)) (by trivial) (CallOk.range_3 (by decide) (by decide +kernel))) (by rw [← rng]; exact IterOk.rng (by decide) (by decide +kernel)) (fun _ _ => by rfl) ⟨.unset, .unset, rfl⟩ ?_ ?_
  · rintro done i rest σ hx ⟨sz, hsz, rfl⟩
    obtain ⟨hi, rfl⟩ := range_split hx
    have hok := drAll_ok r0 i (by omega)
    have hstep : drAll r0 (List.range i ++ [i]) = drStep (drAll r0 (List.range i)) (sizeOf i) := by unfold drAll; rw [List.foldl_append]; rfl
    rw [hstep]
    generalize drAll r0 (List.range i) = d at *
    obtain ⟨⟨_, _, _⟩, b1, b2⟩ := drStep_ok hok hi
    obtain ⟨s1, s2⟩ := small d i hok hi
    have hsz0 : sizeOf i ≠ 0 := by unfold sizeOf; omega
    have hfm : d.rest.fmod (sizeOf i) = ((d.rest.fmod (sizeOf i)).toNat : Int) := by omega
    have hch : chAt d.left (d.rest.fmod (sizeOf i)) = some (d.left.getD (d.rest.fmod (sizeOf i)).toNat 0) := by
      rw [chAt_nat 0 b2 hfm, List.getD_eq_getElem?_getD]
    refine ⟨_, _, Binds.name (by walk_at "m put") (by walk_at "m app"), ?_, .val (.int (sizeOf i)), .val, rfl⟩
    have he : L "" = [] := by decide +kernel
    refine RunsL.draw (c := d.left.getD (d.rest.fmod (sizeOf i)).toNat 0) (EvTk.item (by walk_at "m nm") (by walk_at "m nm") (by walk_at "m nm") hsz0 (by omega) (by omega) hch (fun _ _ => by rfl)) (fun _ => by rfl)
      (σ₁ := fun v => [("script", .val sd), ("cells", .val (.list ([c0, c1, c2, c3, c4].map V.int))), ("k", sk), ("x", sx), ("letters", .val (.str d.letters)), ("left", .val (.str d.left)), ("rest", .val (.int d.rest)), ("size", .val (.int (sizeOf i))), ("letter", .val (.val v))]) (fun v => by walk_at "m put") (by walk_at "m app")
      (σ₂ := fun v => [("script", .val sd), ("cells", .val (.list ([c0, c1, c2, c3, c4].map V.int))), ("k", sk), ("x", sx), ("letters", .val (.str (drStep d (sizeOf i)).letters)), ("left", .val (.str (drStep d (sizeOf i)).left)), ("rest", .val (.int (drStep d (sizeOf i)).rest)), ("size", .val (.int (sizeOf i))), ("letter", .val (.val v))]) ?_ (fun v => by walk_at "m wk")
    intro t ht
    refine RunsN.swapped (xs := ["letters", "left", "rest"]) (ds := [.str (drStep d (sizeOf i)).letters, .str (drStep d (sizeOf i)).left, .int (drStep d (sizeOf i)).rest]) (EvN.tup (.cons (Ev.toN (Ev.bin (by walk_at "m nm") (Ev.as (d := .val (.str (St [d.left.getD (d.rest.fmod (sizeOf i)).toNat 0]) t)) (d' := .str [d.left.getD (d.rest.fmod (sizeOf i)).toNat 0]) (by walk_at "m nm") fun h hot v r => by cases rd_val r; exact mk_str) (BinOk.cat ?_)))
      (.cons (EvN.replaceVar (by walk_at "m mem") (by decide +kernel) (by walk_at "m mem") (by decide +kernel) ht (fun _ => by rfl) (by rfl) (by rw [ofString_L, he]) (by omega) (fun _ => by rfl)) (.cons (Ev.toN (Ev.bin (by walk_at "m nm") (by walk_at "m nm") (BinOk.fdiv hsz0 ?_))) .nil (fun _ => by rfl)) (fun _ => by rfl)) (fun _ => by rfl)) (by simp)) (BindsR.cons (by walk_at "m put") (by walk_at "m app") (BindsR.cons (by walk_at "m put") (by walk_at "m app") (BindsR.cons (by walk_at "m put") (by walk_at "m app") BindsR.nil))) (fun _ => by rfl) (fun env he => by cases env; cases he; kernel_rfl) rfl
    · simp only [List.length_cons, List.length_nil]; omega
    · have : (sizeOf i).natAbs < 2 ^ 5 := by unfold sizeOf; omega
      exact Nat.lt_trans ((Nat.log2_lt (by unfold sizeOf; omega)).mpr this) (by decide)
  · rintro σ' ⟨sz, hsz, rfl⟩
    have hsl1 : SliceOk W (.list ([c0, c1, c2, c3, c4].map V.int)) (some 1) none none (.list ([c1, c2, c3, c4].map V.int)) := by
      have := SliceOk.list (W := W) (l := [c0, c1, c2, c3, c4].map V.int) (lo := some 1) (hi := none) (st := none) (by decide) (by simp)
      rwa [show (some (1 : Int)) = some ((1 : Nat) : Int) from rfl, sl_from _ (by simp)] at this
    exact RunsL.ret (Runs.ret (Ev.tup (.cons (Ev.bin (Ev.item (by walk_at "m nm") Ev.int hitem (fun _ _ => by rfl)) Ev.int (BinOk.fmod (by decide))) (.cons (by walk_at "m nm") (Evs.one (Ev.slice (by walk_at "m nm") (.some Ev.int) .none .none hsl1 (fun _ _ => ⟨_, by rfl⟩)) (fun _ => by rfl)) (fun _ => by rfl)) (fun _ => by rfl)) (by simp)))
end
end Mine
open PySem PySem.W PyProof.Rows
set_option Elab.async false
set_option linter.unusedVariables false
set_option maxRecDepth 100000
namespace Mine
local macro_rules | `(tactic| walk_at "m mem") => `(tactic| (first | with_reducible exact List.mem_cons_self .. | (with_reducible refine InS.own ?_; walk_at "m mem") | (with_reducible refine InS.free ?_ (by decide +kernel); walk_at "m mem") | (with_reducible refine List.mem_cons_of_mem _ ?_; walk_at "m mem")))
local macro_rules | `(tactic| walk_at "m put") => `(tactic| (repeat (first | with_reducible exact Put.here | with_reducible apply Put.there)))
local macro_rules | `(tactic| walk_at "m app") => `(tactic| (repeat (first | exact noApp.nil | refine noApp.val ?_ | refine noApp.own ?_ | refine noApp.unset ?_ | refine noApp.plain (by assumption) ?_ | refine noApp.app (by decide) ?_)))
local macro_rules | `(tactic| walk_at "m nm") => `(tactic| (refine Ev.name (by walk_at "m mem") (by decide +kernel)))
local macro_rules | `(tactic| walk_at "m wk") => `(tactic| (repeat (first | exact Wk.nil | with_reducible refine Wk.same ?_ | with_reducible refine Wk.drop ?_)))
structure Br where
  b : Bool
  w : List Nat
def Br.u (x : Br) : List Nat := (if x.b then [33] else []) ++ 59 :: x.w
def Br.txt (x : Br) : List Nat := 91 :: (x.u ++ [93])
def Br.out (x : Br) : List Nat := 91 :: ((if x.b then [94] else []) ++ 59 :: amp x.w) ++ [93]
def BrOk (x : Br) : Prop := x.w.length ≤ 1000 ∧ ∀ c ∈ x.w, c ≠ 93 ∧ c ≠ 45 ∧ c ≠ 92
def patOf (l : List Br) : List Nat := l.flatMap Br.txt
theorem patOf_at {l : List Br} {k : Nat} (hk : k < l.length) : patOf l = patOf (l.take k) ++ 91 :: ((l[k]).u ++ 93 :: patOf (l.drop (k + 1))) := by
  unfold patOf
  conv => lhs; rw [← List.take_append_drop k l, List.drop_eq_getElem_cons hk]
  rw [List.flatMap_append, List.flatMap_cons]
  simp [Br.txt]
theorem patOf_succ {l : List Br} {k : Nat} (hk : k < l.length) : (patOf (l.take (k + 1))).length = (patOf (l.take k)).length + 1 + (l[k]).u.length + 1 := by
  unfold patOf
  rw [List.take_add_one, List.getElem?_eq_getElem hk, List.flatMap_append]
  simp [Br.txt]; omega
theorem chAt_mid {pre rest : List Nat} {c : Nat} {i : Int} (hi : i = (pre.length : Nat)) : chAt (pre ++ c :: rest) i = some c := by
  rw [chAt_nat (k := pre.length) 0 (by simp) hi]
  simp
theorem chAt_in {pre v post : List Nat} {m c : Nat} {i : Int} (hc : v[m]? = some c) (hi : i = ((pre.length + 1 + m : Nat) : Int)) : chAt (pre ++ 91 :: (v ++ post)) i = some c := by
  have hm : m < v.length := (List.getElem?_eq_some_iff.mp hc).1
  rw [chAt_nat (k := pre.length + 1 + m) 0 (by simp; omega) hi]
  have : (pre ++ 91 :: (v ++ post))[pre.length + 1 + m]? = some c := by
    rw [List.getElem?_append_right (by omega), show pre.length + 1 + m - pre.length = m + 1 by omega, List.getElem?_cons_succ, List.getElem?_append_left hm, hc]
  rw [this]; rfl
theorem u_ok {x : Br} (h : BrOk x) : ∀ c ∈ x.u, c ≠ 93 ∧ c ≠ 45 ∧ c ≠ 92 := by
  intro c hc
  unfold Br.u at hc
  rcases List.mem_append.mp hc with q | q
  · split at q
    · rw [List.mem_singleton] at q; subst q; decide
    · cases q
  · rcases List.mem_cons.mp q with q | q
    · subst q; decide
    · exact h.2 c q
theorem u_len (x : Br) : x.u.length = (if x.b then 1 else 0) + 1 + x.w.length := by
  unfold Br.u; cases x.b <;> simp <;> omega
theorem amp_u (x : Br) : amp x.u = (if x.b then [33] else []) ++ 59 :: amp x.w := by
  unfold Br.u amp
  cases x.b
  · rw [if_neg (by decide), List.nil_append, List.flatMap_cons, if_neg (by decide)]; rfl
  · rw [if_pos rfl]; show List.flatMap _ (33 :: 59 :: x.w) = _
    rw [List.flatMap_cons, if_neg (by decide), List.flatMap_cons, if_neg (by decide)]; rfl
theorem patOf_len (l : List Br) (h : ∀ x ∈ l, BrOk x) : (patOf l).length ≤ 1004 * l.length := by
  unfold patOf
  induction l with
  | nil => simp
  | cons x l ih =>
    rw [List.flatMap_cons, List.length_append, List.length_cons]
    have := ih fun y hy => h y (List.mem_cons_of_mem _ hy)
    have h2 : x.txt.length ≤ 1004 := by
      unfold Br.txt
      have := u_len x
      have h3 := (h x (List.mem_cons_self ..)).1
      simp only [List.length_cons, List.length_append, List.length_nil]
      split at this <;> omega
    omega
theorem CmpOk.eqs {W : Wo} {a b : List Nat} {c : Bool} (h : (a == b) = c) : CmpOk W .Eq (.str a) (.str b) c := h ▸ CmpOk.eq_str
theorem CmpOk.nes {W : Wo} {a b : List Nat} {c : Bool} (h : (a != b) = c) : CmpOk W .NotEq (.str a) (.str b) c := h ▸ CmpOk.ne_str
theorem CmpOk.lts {W : Wo} {a b : Int} {c : Bool} (h : decide (a < b) = c) : CmpOk W .Lt (.int a) (.int b) c := h ▸ CmpOk.lt_int
theorem CmpOk.ges {W : Wo} {a b : Int} {c : Bool} (h : decide (a ≥ b) = c) : CmpOk W .GtE (.int a) (.int b) c := h ▸ CmpOk.ge_int
end Mine
open PySem PySem.W PyProof.Rows
set_option Elab.async false
set_option linter.unusedVariables false
set_option maxRecDepth 100000
namespace Mine
local macro_rules | `(tactic| walk_at "m mem") => `(tactic| (first | with_reducible exact List.mem_cons_self .. | (with_reducible refine InS.own ?_; walk_at "m mem") | (with_reducible refine InS.free ?_ (by decide +kernel); walk_at "m mem") | (with_reducible refine List.mem_cons_of_mem _ ?_; walk_at "m mem")))
local macro_rules | `(tactic| walk_at "m put") => `(tactic| (repeat (first | with_reducible exact Put.here | with_reducible apply Put.there)))
local macro_rules | `(tactic| walk_at "m app") => `(tactic| (repeat (first | exact noApp.nil | refine noApp.val ?_ | refine noApp.own ?_ | refine noApp.unset ?_ | refine noApp.plain (by assumption) ?_ | refine noApp.app (by decide) ?_)))
local macro_rules | `(tactic| walk_at "m nm") => `(tactic| (refine Ev.name (by walk_at "m mem") (by decide +kernel)))
local macro_rules | `(tactic| walk_at "m wk") => `(tactic| (repeat (first | exact Wk.nil | with_reducible refine Wk.same ?_ | with_reducible refine Wk.drop ?_)))
def whileOf : Option Stmt → List Stmt
  | some (.While _ b _ _) => b
  | _ => []
def tbody : List Stmt := whileOf (fbody (nth pw 9))[3]?
def elseOf : List Stmt → List Stmt
  | [.If _ _ b _] => b
  | _ => []
def thenOf : List Stmt → List Stmt
  | [.If _ a _ _] => a
  | _ => []
/-- where the lambda stands -/
def lamPosOf : Option Stmt → Pos
  | some (.Assign _ (.Call _ (.Lambda _ _ _ p :: _) _ _) _) => p
  | _ => default
def lamPos : Pos := lamPosOf (elseOf ((thenOf (elseOf (elseOf (tbody.drop 2)))).drop 4))[2]?
def whileTest : Option Stmt → PySem.Expr
  | some (.While t _ _ _) => t
  | _ => default
def tbodyIf : List Stmt := thenOf (elseOf (elseOf (tbody.drop 2)))
def lamOf : Option Stmt → PySem.Expr × Scope
  | some (.Assign _ (.Call _ (.Lambda _ e sc _ :: _) _ _) _) => (e, sc)
  | _ => default
def lamExpr : PySem.Expr := (lamOf (elseOf (tbodyIf.drop 4))[2]?).1
def lamScope : Scope := (lamOf (elseOf (tbodyIf.drop 4))[2]?).2
theorem RunsTL.one {T : TC} {W : Wo} {n : Nat} {sc : Scope} {σ σ' : Store} {st : Stmt} (h : RunsT T W n sc st σ (.next σ')) : RunsTL T W n sc [st] σ (.next σ') := .cons h .nil
/-- what `_translate` stands on -/
structure G8 (W : Wo) (T : TC) (R : Addr) : Prop extends G6 W where
  tb : TB T W
  tpos : T.pos = lamPos
  here : T.here = true
  re : W.mg "_twin_re_1" = some (.ref R)
  isPat : IsPat W.B R
abbrev tst (pat : List Nat) (ds : List V) (i N : Nat) (c j stuff : Slot) : Store :=
  [("pat", .val (.str pat)), ("STAR", .val .obj), ("QUESTION_MARK", .val (.str (L "."))), ("res", .own ds), ("add", .app "res"), ("i", .val (.int (i : Nat))), ("n", .val (.int (N : Nat))), ("c", c), ("j", j), ("stuff", stuff), ("chunks", .unset), ("k", .unset), ("chunk", .unset)]
section
variable {W : Wo} {n : Nat} {T : TC}
theorem turn {R : Addr} (G : G8 W T R) {pre post pat : List Nat} {x : Br} {ds : List V} {N : Nat} (hpat : pat = pre ++ 91 :: (x.u ++ 93 :: post)) (hx : BrOk x) (hN : pat.length = N) (hz : N ≤ 100000) (hds : ds.length ≤ 1000) :
    RunsTL T W (n + 2) (fscope (nth pw 9)) tbody (tst pat ds pre.length N .unset .unset .unset) (.next (tst pat (ds ++ [.str x.out]) (pre.length + 1 + x.u.length + 1) N .unset .unset .unset)) := by
  have hlen : N = pre.length + 1 + x.u.length + 1 + post.length := by rw [← hN, hpat]; simp; omega
  have c0 : chAt pat ((pre.length : Nat) : Int) = some 91 := by rw [hpat]; exact chAt_mid rfl
  have cIn : ∀ (m c : Nat), (x.u ++ [93])[m]? = some c → chAt pat ((pre.length + 1 + m : Nat) : Int) = some c := fun m c h => by
    rw [hpat, show x.u ++ 93 :: post = (x.u ++ [93]) ++ post by simp]; exact chAt_in h rfl
  refine RunsTL.con (Runs.assign (Ev.item (by walk_at "m nm") (by walk_at "m nm") (ItemOk.str (by omega) (by omega) c0) (fun _ _ => by rfl)) (by walk_at "m put") (by walk_at "m app") (fun _ => by rfl)) ?_
  refine RunsTL.con (Runs.assign (Ev.bin (c := .int ((pre.length + 1 : Nat) : Int)) (by walk_at "m nm") Ev.int BinOk.add) (by walk_at "m put") (by walk_at "m app") (fun _ => by rfl)) ?_
  refine RunsTL.cons (σ' := tst pat (ds ++ [.str x.out]) (pre.length + 1 + x.u.length + 1) N (.val (.str [91])) (.val (.int ((pre.length + 1 + x.u.length : Nat) : Int))) (.val (.str ((if x.b then [94] else []) ++ 59 :: amp x.w)))) ?_ (RunsTL.of (RunsL.forget (σ' := tst pat (ds ++ [.str x.out]) (pre.length + 1 + x.u.length + 1) N .unset .unset .unset) (by walk_at "m wk") RunsL.nil))
  refine RunsT.ifF (EvT.cmp (by walk_at "m nm") Ev.str (CmpOk.eqs (by decide +kernel)) (by rfl)) (RunsTL.one ?_)
  refine RunsT.ifF (EvT.cmp (by walk_at "m nm") Ev.str (CmpOk.eqs (by decide +kernel)) (by rfl)) (RunsTL.one ?_)
  refine RunsT.ifT (EvT.cmp (by walk_at "m nm") Ev.str (CmpOk.eqs (by decide +kernel)) (by rfl)) ?_
  refine RunsTL.con (Runs.assign (by walk_at "m nm") (by walk_at "m put") (by walk_at "m app") (fun _ => by rfl)) ?_
  -- if j < n and pat[j] == '!'
  have hs0 : (x.u ++ [93])[0]? = some (if x.b then 33 else 59) := by unfold Br.u; cases x.b <;> rfl
  have ltT : ∀ (m : Nat), m ≤ x.u.length → CmpOk W .Lt (.int ((pre.length + 1 + m : Nat) : Int)) (.int (N : Nat)) true := fun m hm => CmpOk.lts (decide_eq_true (by omega))
  refine RunsTL.con (σ' := tst pat ds (pre.length + 1) N (.val (.str [91])) (.val (.int ((pre.length + 1 + (if x.b then 1 else 0) : Nat) : Int))) .unset) ?_ ?_
  · cases hb : x.b
    · rw [hb] at hs0
      exact Runs.ifF (EvT.and (b := true) (c := false) (EvT.cmp (by walk_at "m nm") (by walk_at "m nm") (ltT 0 (Nat.zero_le _)) (by rfl)) fun _ => EvT.and (b := false) (c := true) (EvT.cmp (Ev.item (by walk_at "m nm") (by walk_at "m nm") (ItemOk.str (by omega) (by omega) (cIn 0 _ hs0)) (fun _ _ => by rfl)) Ev.str (CmpOk.eqs (by decide +kernel)) (by rfl)) fun h => by cases h) RunsL.nil
    · rw [hb] at hs0
      rw [if_pos rfl]
      refine Runs.ifT (EvT.and (b := true) (c := true) (EvT.cmp (by walk_at "m nm") (by walk_at "m nm") (ltT 0 (Nat.zero_le _)) (by rfl)) fun _ => EvT.and (b := true) (c := true) (EvT.cmp (Ev.item (by walk_at "m nm") (by walk_at "m nm") (ItemOk.str (by omega) (by omega) (cIn 0 _ hs0)) (fun _ _ => by rfl)) Ev.str (CmpOk.eqs (by decide +kernel)) (by rfl)) fun _ => EvT.and_nil) ?_
      exact RunsL.one (Runs.assign (Ev.bin (c := .int ((pre.length + 1 + 1 : Nat) : Int)) (by walk_at "m nm") Ev.int BinOk.add) (by walk_at "m put") (by walk_at "m app") (fun _ => by rfl))
  obtain ⟨s0, hs0e⟩ : ∃ s0, s0 = (if x.b then 1 else 0 : Nat) := ⟨_, rfl⟩
  rw [← hs0e]
  have hul : x.u.length = s0 + 1 + x.w.length := by rw [u_len, hs0e]
  have hs1 : (x.u ++ [93])[s0]? = some 59 := by rw [hs0e]; unfold Br.u; cases x.b <;> rfl
  refine RunsTL.con (Runs.ifF (EvT.and (b := true) (c := false) (EvT.cmp (by walk_at "m nm") (by walk_at "m nm") (ltT s0 (by omega)) (by rfl)) fun _ => EvT.and (b := false) (c := true) (EvT.cmp (Ev.item (by walk_at "m nm") (by walk_at "m nm") (ItemOk.str (by omega) (by omega) (cIn s0 _ hs1)) (fun _ _ => by rfl)) Ev.str (CmpOk.eqs (by decide +kernel)) (by rfl)) fun h => by cases h) RunsL.nil) ?_
  have e93 : L "]" = [93] := by decide +kernel
  refine RunsTL.con (σ' := tst pat ds (pre.length + 1) N (.val (.str [91])) (.val (.int ((pre.length + 1 + x.u.length : Nat) : Int))) .unset) ?_ ?_
  · have hP1 : ∀ (m : Nat) (σ : Store), m < 1 + x.w.length → σ = tst pat ds (pre.length + 1) N (.val (.str [91])) (.val (.int ((pre.length + 1 + (s0 + m) : Nat) : Int))) .unset → EvT W (n + 2) (fscope (nth pw 9)) σ (whileTest (tbodyIf[3]?)) true ∧ ∃ σ', RunsL W (n + 2) (fscope (nth pw 9)) (whileOf (tbodyIf[3]?)) σ (.next σ') ∧ σ' = tst pat ds (pre.length + 1) N (.val (.str [91])) (.val (.int ((pre.length + 1 + (s0 + (m + 1)) : Nat) : Int))) .unset := by
      rintro m σ hm rfl
      have hmu : s0 + m < x.u.length := by omega
      have hg : (x.u ++ [93])[s0 + m]? = some (x.u[s0 + m]'hmu) := by rw [List.getElem?_append_left hmu, List.getElem?_eq_getElem hmu]
      have hne := (u_ok hx _ (List.getElem_mem hmu)).1
      refine ⟨EvT.and (b := true) (c := true) (EvT.cmp (by walk_at "m nm") (by walk_at "m nm") (ltT (s0 + m) (by omega)) (by rfl)) fun _ => EvT.and (b := true) (c := true) (EvT.cmp (Ev.item (by walk_at "m nm") (by walk_at "m nm") (ItemOk.str (by omega) (by omega) (cIn (s0 + m) _ hg)) (fun _ _ => by rfl)) Ev.str (CmpOk.nes (by rw [e93]; simpa using hne)) (by rfl)) fun _ => EvT.and_nil, _, RunsL.one (Runs.assign (Ev.bin (c := .int ((pre.length + 1 + (s0 + (m + 1)) : Nat) : Int)) (by walk_at "m nm") Ev.int BinOk.add) (by walk_at "m put") (by walk_at "m app") (fun _ => by rfl)), rfl⟩
    have hP2 : ∀ σ : Store, σ = tst pat ds (pre.length + 1) N (.val (.str [91])) (.val (.int ((pre.length + 1 + (s0 + (1 + x.w.length)) : Nat) : Int))) .unset → EvT W (n + 2) (fscope (nth pw 9)) σ (whileTest (tbodyIf[3]?)) false := by
      rintro σ rfl
      have hg : (x.u ++ [93])[s0 + (1 + x.w.length)]? = some 93 := by
        rw [show s0 + (1 + x.w.length) = x.u.length by omega, List.getElem?_append_right (Nat.le_refl _)]; simp
      exact EvT.and (b := true) (c := false) (EvT.cmp (by walk_at "m nm") (by walk_at "m nm") (ltT _ (by omega)) (by rfl)) fun _ => EvT.and (b := false) (c := true) (EvT.cmp (Ev.item (by walk_at "m nm") (by walk_at "m nm") (ItemOk.str (by omega) (by omega) (cIn _ _ hg)) (fun _ _ => by rfl)) Ev.str (CmpOk.nes (by rw [e93]; rfl)) (by rfl)) fun h => by cases h
    obtain ⟨σ', rfl, hL⟩ := WhL.inv (fun m σ => σ = tst pat ds (pre.length + 1) N (.val (.str [91])) (.val (.int ((pre.length + 1 + (s0 + m) : Nat) : Int))) .unset) (1 + x.w.length) hP1 hP2 (1 + x.w.length) 0 _ (by omega) rfl
    rw [hul, show s0 + 1 + x.w.length = s0 + (1 + x.w.length) by omega]
    exact Runs.while hL
  refine RunsTL.cons (σ' := tst pat (ds ++ [.str x.out]) (pre.length + 1 + x.u.length + 1) N (.val (.str [91])) (.val (.int ((pre.length + 1 + x.u.length : Nat) : Int))) (.val (.str ((if x.b then [94] else []) ++ 59 :: amp x.w)))) ?_ RunsTL.nil
  refine RunsT.ifF (EvT.cmp (by walk_at "m nm") (by walk_at "m nm") (CmpOk.ges (decide_eq_false (by omega))) (by rfl)) ?_
  -- stuff = pat[i:j]
  have e92 : L "\\" = [92] := by decide +kernel
  have hsl : SliceOk W (.str pat) (some ((pre.length + 1 : Nat) : Int)) (some ((pre.length + 1 + x.u.length : Nat) : Int)) none (.str x.u) := by
    have := SliceOk.str (W := W) (l := pat) (lo := some ((pre.length + 1 : Nat) : Int)) (hi := some ((pre.length + 1 + x.u.length : Nat) : Int)) (st := none) (by decide) (by omega)
    rw [sl_nat pat (by omega) (by omega)] at this
    have e : (pat.drop (pre.length + 1)).take (pre.length + 1 + x.u.length - (pre.length + 1)) = x.u := by
      rw [hpat, List.drop_append, List.drop_eq_nil_of_le (by omega), show pre.length + 1 - pre.length = 1 by omega, List.drop_succ_cons, List.drop_zero, List.nil_append, show pre.length + 1 + x.u.length - (pre.length + 1) = x.u.length by omega, List.take_left]
    rwa [e] at this
  refine RunsTL.con (Runs.assign (Ev.slice (by walk_at "m nm") (.some (by walk_at "m nm")) (.some (by walk_at "m nm")) .none hsl (fun _ _ => ⟨_, by rfl⟩)) (by walk_at "m put") (by walk_at "m app") (fun _ => by rfl)) ?_
  refine RunsTL.con (σ' := tst pat ds (pre.length + 1) N (.val (.str [91])) (.val (.int ((pre.length + 1 + x.u.length : Nat) : Int))) (.val (.str x.u))) ?_ ?_
  · have h45 : CmpOk W .NotIn (.str (L "-")) (.str x.u) true := by
      have := CmpOk.notIn_str (W := W) (a := L "-") (b := x.u)
      rw [show L "-" = [45] by decide +kernel, isIn_one, decide_eq_false fun h => (u_ok hx _ h).2.1 rfl] at this
      exact this
    have h92 : CallOk W (n + 2) (.builtin "str.replace") [.str x.u, .str (L "\\"), .str (L "\\\\")] (.str x.u) := by rw [e92]; exact CallOk.replace_none fun h => (u_ok hx _ h).2.2 rfl
    exact Runs.ifT (EvT.cmp Ev.str (by walk_at "m nm") h45 (by rfl)) (RunsL.one (Runs.assign (Ev.meth (by walk_at "m nm") (.cons Ev.str (Evs.one Ev.str (fun _ => by rfl)) (fun _ => by rfl)) HasType.str meth_replace h92 (fun _ => by rfl) (by rfl) (by decide)) (by walk_at "m put") (by walk_at "m app") (fun _ => by rfl)))
  have hbody : LamBody W n (lamScope) "_m" lamExpr := by
    intro h k m l j c hm hc
    have := BinOk.cat (W := W.at h k) (a := L "\\") (b := [c]) (by rw [e92]; simp)
    rw [e92] at this
    refine Ev.bin Ev.str (Ev.or1 (Ev.group (by walk_at "m mem") (by decide +kernel) hm hc (fun _ => by rfl) (by rfl) (fun _ => by rfl)) (TruOk.str (by simp))) ?_
    rw [e92]; exact this
  refine RunsTL.cons (RunsT.sub G.tpos.symm G.here G.tb (by walk_at "m mem") (by decide +kernel) (by omega) (by decide +kernel) G.re G.isPat (by decide +kernel) hbody (fun _ => by rfl) (fun env he => by cases env; cases he; kernel_rfl) (fun fd h1 h2 h3 v => by cases fd; cases h1; cases h2; cases h3; kernel_rfl) (fun _ => by rfl) (by rfl) (fun _ => by rfl) (by walk_at "m put") (by walk_at "m app") (fun _ => by rfl)) ?_
  have hal : (amp x.u).length ≤ 2 * x.u.length := amp_len _
  have hxl := hx.1
  have hs0' : s0 ≤ 1 := by rw [hs0e]; split <;> omega
  refine RunsTL.con (Runs.assign (Ev.bin (c := .int ((pre.length + 1 + x.u.length + 1 : Nat) : Int)) (by walk_at "m nm") Ev.int BinOk.add) (by walk_at "m put") (by walk_at "m app") (fun _ => by rfl)) ?_
  have hne : (amp x.u).isEmpty = false := by rw [amp_u]; cases x.b <;> rfl
  have h33 : (amp x.u == L "!") = false := by
    rw [show L "!" = [33] by decide +kernel, amp_u]
    cases x.b
    · exact beq_false_of_ne (by intro e; cases e)
    · exact beq_false_of_ne (by intro e; cases e)
  refine RunsTL.of (RunsL.cons (Runs.ifF (EvT.not (b := true) (EvT.of (by walk_at "m nm") ?_ (fun _ _ => by rfl))) ?_) RunsL.nil)
  · have := TruOk.str (W := W) (l := amp x.u) (by omega)
    rwa [hne] at this
  refine RunsL.one (Runs.ifF (EvT.cmp (by walk_at "m nm") Ev.str (CmpOk.eqs h33) (by rfl)) ?_)
  have e33 : L "!" = [33] := by decide +kernel
  have e94 : L "^" = [94] := by decide +kernel
  have e91 : L "[" = [91] := by decide +kernel
  refine RunsL.cons (σ' := tst pat ds (pre.length + 1 + x.u.length + 1) N (.val (.str [91])) (.val (.int ((pre.length + 1 + x.u.length : Nat) : Int))) (.val (.str ((if x.b then [94] else []) ++ 59 :: amp x.w)))) ?_ ?_
  · rw [amp_u] at hal ⊢
    cases hb : x.b
    · rw [hb] at hal
      refine Runs.ifF (EvT.cmp (Ev.item (by walk_at "m nm") Ev.int (ItemOk.str (c := 59) (by decide) (by decide) ?_) (fun _ _ => by rfl)) Ev.str (CmpOk.eqs (by decide +kernel)) (by rfl)) ?_
      · exact chAt_mid (pre := []) rfl
      refine RunsL.one (Runs.ifF (EvT.cmp (c := false) (Ev.item (by walk_at "m nm") Ev.int (ItemOk.str (c := 59) (by decide) (by decide) ?_) (fun _ _ => by rfl)) (Ev.tup (ds := [L "^", L "["].map V.str) (.cons Ev.str (Evs.one Ev.str (fun _ => by rfl)) (fun _ => by rfl)) (by decide)) ?_ (by rfl)) RunsL.nil)
      · exact chAt_mid (pre := []) rfl
      · have := CmpOk.in_tup (W := W) (x := [59]) (ls := [L "^", L "["])
        rwa [show ([L "^", L "["].any (· == [59])) = false by decide +kernel] at this
    · rw [hb] at hal
      rw [if_pos rfl, if_pos rfl]
      refine Runs.ifT (EvT.cmp (Ev.item (by walk_at "m nm") Ev.int (ItemOk.str (c := 33) (by decide) (by decide) ?_) (fun _ _ => by rfl)) Ev.str (CmpOk.eqs (by decide +kernel)) (by rfl)) ?_
      · exact chAt_mid (pre := []) rfl
      refine RunsL.one (Runs.assign (d := .str ([94] ++ 59 :: amp x.w)) (Ev.bin Ev.str (Ev.slice (c := .str (59 :: amp x.w)) (by walk_at "m nm") (.some Ev.int) .none .none ?_ (fun _ _ => ⟨_, by rfl⟩)) ?_) (by walk_at "m put") (by walk_at "m app") (fun _ => by rfl))
      · have := SliceOk.str (W := W) (l := 33 :: 59 :: amp x.w) (lo := some 1) (hi := none) (st := none) (by decide) (by simp at hal ⊢; omega)
        rw [show (some 1 : Option Int) = some ((1 : Nat) : Int) from rfl, sl_from _ (by simp)] at this
        exact this
      · have := BinOk.cat (W := W) (a := L "^") (b := 59 :: amp x.w) (by rw [e94]; simp at hal ⊢; omega)
        rw [e94] at this ⊢
        exact this
  have hout : x.out = L "[" ++ ((if x.b then [94] else []) ++ 59 :: amp x.w) ++ L "]" := by rw [e91, e93]; rfl
  rw [hout]
  refine RunsL.one (Runs.addCall (by walk_at "m mem") (by walk_at "m mem") (Ev.fstr (by walk_at "m nm") ?_) (by walk_at "m put") (by omega) (fun _ => by rfl))
  rw [e91, e93]
  rw [amp_u] at hal
  cases hb : x.b <;> rw [hb] at hal <;> simp at hal ⊢ <;> omega
end
end Mine
open PySem PySem.W PyProof.Rows
set_option Elab.async false
set_option linter.unusedVariables false
set_option maxRecDepth 100000
namespace Mine
local macro_rules | `(tactic| walk_at "m mem") => `(tactic| (first | with_reducible exact List.mem_cons_self .. | (with_reducible refine InS.own ?_; walk_at "m mem") | (with_reducible refine InS.free ?_ (by decide +kernel); walk_at "m mem") | (with_reducible refine List.mem_cons_of_mem _ ?_; walk_at "m mem")))
local macro_rules | `(tactic| walk_at "m put") => `(tactic| (repeat (first | with_reducible exact Put.here | with_reducible apply Put.there)))
local macro_rules | `(tactic| walk_at "m app") => `(tactic| (repeat (first | exact noApp.nil | refine noApp.val ?_ | refine noApp.own ?_ | refine noApp.unset ?_ | refine noApp.plain (by assumption) ?_ | refine noApp.app (by decide) ?_)))
local macro_rules | `(tactic| walk_at "m nm") => `(tactic| (refine Ev.name (by walk_at "m mem") (by decide +kernel)))
local macro_rules | `(tactic| walk_at "m wk") => `(tactic| (repeat (first | exact Wk.nil | with_reducible refine Wk.same ?_ | with_reducible refine Wk.drop ?_)))
section
variable {W : Wo} {n : Nat} {T : TC}
theorem fn__translate {R : Addr} (G : G8 W T R) {brs : List Br} (hb : ∀ x ∈ brs, BrOk x) (hz : brs.length ≤ 20) :
    RunsTL T W (n + 2) (fscope (nth pw 9)) (fbody (nth pw 9)) (argStore ["pat", "STAR", "QUESTION_MARK"] [.str (patOf brs), .obj, .str (L ".")] ["res", "add", "i", "n", "c", "j", "stuff", "chunks", "k", "chunk"]) (.ret (.list (brs.map fun x => .str x.out))) := by
  have hN : (patOf brs).length ≤ 1004 * brs.length := patOf_len brs hb
  show RunsTL T W _ _ _ [("pat", .val (.str (patOf brs))), ("STAR", .val .obj), ("QUESTION_MARK", .val (.str (L "."))), ("res", .unset), ("add", .unset), ("i", .unset), ("n", .unset), ("c", .unset), ("j", .unset), ("stuff", .unset), ("chunks", .unset), ("k", .unset), ("chunk", .unset)] _
  refine RunsTL.con (Runs.assignOwn (EvNew.list Evs.nil (by decide)) (by walk_at "m put") (by walk_at "m app") (fun _ => by rfl)) ?_
  refine RunsTL.con (Runs.assignApp (by walk_at "m mem") (by walk_at "m put") (by walk_at "m app") (fun _ => by rfl)) ?_
  refine RunsTL.con (Runs.swapped (xs := ["i", "n"]) (ds := [.int 0, .int ((patOf brs).length : Nat)]) (Ev.tup (.cons Ev.int (Evs.one (Ev.len G.toG1 (by decide +kernel) (by walk_at "m nm") (CallOk.len_str (by omega)) (fun _ => by rfl)) (fun _ => by rfl)) (fun _ => by rfl)) (by simp)) (BindsR.cons (by walk_at "m put") (by walk_at "m app") (BindsR.cons (by walk_at "m put") (by walk_at "m app") BindsR.nil)) (fun _ => by rfl) (fun env he => by cases env; cases he; kernel_rfl) rfl) ?_
  refine RunsTL.cons (RunsT.while (fun k σ => σ = tst (patOf brs) ((brs.take k).map fun x => .str x.out) (patOf (brs.take k)).length (patOf brs).length .unset .unset .unset) brs.length (tst (patOf brs) (brs.map fun x => .str x.out) (patOf brs).length (patOf brs).length .unset .unset .unset) rfl ?_ ?_) ?_
  · rintro k σ hk rfl
    have hs := patOf_succ hk
    have hat := patOf_at hk
    have hlt : (patOf (brs.take k)).length < (patOf brs).length := by rw [hat]; simp
    refine ⟨EvT.cmp (by walk_at "m nm") (by walk_at "m nm") (CmpOk.lts (decide_eq_true (by omega))) (by rfl), _, turn G hat (hb _ (List.getElem_mem hk)) rfl (by omega) (by rw [List.length_map, List.length_take]; omega), ?_⟩
    rw [hs, List.take_add_one, List.getElem?_eq_getElem hk, List.map_append]; rfl
  · rintro σ rfl
    rw [List.take_length]
    exact ⟨EvT.cmp (by walk_at "m nm") (by walk_at "m nm") (CmpOk.lts (decide_eq_false (by omega))) (by rfl), rfl⟩
  refine RunsTL.con (Runs.assertT (EvT.cmp (c := true) (by walk_at "m nm") (by walk_at "m nm") ?_ (by rfl))) ?_
  · have := CmpOk.eq_int (W := W) (a := (patOf brs).length) (b := (patOf brs).length)
    rwa [beq_self_eq_true] at this
  refine RunsTL.of ?_
  refine RunsL.forget (σ' := [("pat", .unset), ("STAR", .unset), ("QUESTION_MARK", .unset), ("res", .own (brs.map fun x => V.str x.out)), ("add", .unset), ("i", .unset), ("n", .unset), ("c", .unset), ("j", .unset), ("stuff", .unset), ("chunks", .unset), ("k", .unset), ("chunk", .unset)]) (by walk_at "m wk") ?_
  refine RunsL.freeze (by walk_at "m mem") (by walk_at "m put") ?_
  exact RunsL.ret (Runs.ret (by walk_at "m nm"))
def TC.away (T : TC) : TC := { T with here := false }
structure G9 (W : Wo) (T : TC) (R : Addr) : Prop extends G8 W T R where
  object : W.mg "object" = Option.none
  join : Fn W pw 10 "_join_translated_parts" ["inp", "STAR"]
  tr : FnT W T pw 9 "_translate" ["pat", "STAR", "QUESTION_MARK"]
def trOut (brs : List Br) : List Nat := L "(?s:" ++ joinL (L "") (brs.map Br.out) ++ L ")\\Z"
theorem out_len (x : Br) (h : BrOk x) : x.out.length ≤ 2004 := by
  unfold Br.out
  have := amp_len x.w
  have := h.1
  cases x.b <;> simp <;> omega
theorem fn_translate {R : Addr} (G : G9 W T R) {brs : List Br} (hb : ∀ x ∈ brs, BrOk x) (hw : ∀ x ∈ brs, x.w.length ≤ 80) (hz : brs.length ≤ 20) :
    RunsTL T.away W (n + 3) (fscope (nth pw 4)) (fbody (nth pw 4)) (argStore ["pat"] [.str (patOf brs)] ["STAR", "parts"]) (.ret (.str (trOut brs))) := by
  show RunsTL T.away W _ _ _ [("pat", .val (.str (patOf brs))), ("STAR", .unset), ("parts", .unset)] _
  refine RunsTL.con (Runs.assign (Ev.call (Ev.builtin (by decide +kernel) G.object (by kernel_rfl)) Evs.nil (by trivial) CallOk.object) (by walk_at "m put") (by walk_at "m app") (fun _ => by rfl)) ?_
  refine RunsTL.cons (RunsT.callFn (T := T.away) (T' := T) ["res", "add", "i", "n", "c", "j", "stuff", "chunks", "k", "chunk"] rfl rfl rfl G.tr (by decide +kernel) (.cons (by walk_at "m nm") (.cons (by walk_at "m nm") (Evs.one Ev.str (fun _ => by rfl)) (fun _ => by rfl)) (fun _ => by rfl)) (by decide +kernel) rfl (fn__translate G.toG8 hb hz) (by walk_at "m put") (by walk_at "m app") (fun _ => by rfl)) ?_
  refine RunsTL.of (RunsL.ret (Runs.ret ?_))
  have e : (brs.map fun x => V.str x.out) = (brs.map Br.out).map V.str := by rw [List.map_map]; rfl
  rw [e]
  refine Ev.fn ["res", "add", "i", "n", "fixed"] G.join (by decide +kernel) (.cons (by walk_at "m nm") (Evs.one (by walk_at "m nm") (fun _ => by rfl)) (fun _ => by rfl)) (by decide +kernel) rfl (fn_joined G.toG6 (by rw [List.length_map]; omega) ?_)
  intro y hy
  obtain ⟨x, hx, rfl⟩ := List.mem_map.mp hy
  have h1 := hw x hx
  have := amp_len x.w
  unfold Br.out
  cases x.b <;> simp <;> omega
end
end Mine
open PySem PySem.W PyProof.Rows
set_option Elab.async false
set_option linter.unusedVariables false
set_option maxRecDepth 100000
namespace Mine
local macro_rules | `(tactic| walk_at "m mem") => `(tactic| (first | with_reducible exact List.mem_cons_self .. | (with_reducible refine InS.own ?_; walk_at "m mem") | (with_reducible refine InS.free ?_ (by decide +kernel); walk_at "m mem") | (with_reducible refine List.mem_cons_of_mem _ ?_; walk_at "m mem")))
local macro_rules | `(tactic| walk_at "m put") => `(tactic| (repeat (first | with_reducible exact Put.here | with_reducible apply Put.there)))
local macro_rules | `(tactic| walk_at "m app") => `(tactic| (repeat (first | exact noApp.nil | refine noApp.val ?_ | refine noApp.own ?_ | refine noApp.unset ?_ | refine noApp.plain (by assumption) ?_ | refine noApp.app (by decide) ?_)))
local macro_rules | `(tactic| walk_at "m nm") => `(tactic| (refine Ev.name (by walk_at "m mem") (by decide +kernel)))
theorem EmitL.mapG {W : Wo} {n : Nat} {sc scope : Scope} {σ : Store} {α : Type} {k : Str} {pos : Pos} {G : Store → List V → Prop} (enc : α → V) (f : α → V) : ∀ (xs : List α), (∀ x ∈ xs, G [(k, .val (enc x))] [f x]) →
    EmitL W n sc scope σ (.Name k pos) [] G (xs.map enc) [(k, .unset)] (xs.map f)
  | [], _ => .nil
  | x :: xs, hf => EmitL.yes (o := [f x]) (Binds.name .here (noApp.unset .nil)) (.drop .nil) Tests.nil (hf x (List.mem_cons_self ..)) (EmitL.mapG enc f xs fun y hy => hf y (List.mem_cons_of_mem _ hy))
def ent (ways : List (List Int)) (i k : Nat) : Int := ((ways.getD i []).getD k 0)
def diagV (ways : List (List Int)) (k : Nat) : Int := 4096 * ent ways k k + sumI (ways.getD k []) - ent ways k k
def negRows (ways : List (List Int)) : List (List Int) := ways.map fun r => r.map fun x => -x
def diagStep (ways : List (List Int)) (t : List (List Int)) (k : Nat) : List (List Int) := t.set k ((t.getD k []).set k (diagV ways k))
def diagTo (ways : List (List Int)) (i : Nat) : List (List Int) := (List.range i).foldl (diagStep ways) (negRows ways)
theorem diagTo_succ (ways : List (List Int)) (i : Nat) : diagTo ways (i + 1) = diagStep ways (diagTo ways i) i := by
  unfold diagTo; rw [List.range_succ, List.foldl_append]; rfl
def Bits (ways : List (List Int)) : Prop := ways.length = 4 ∧ ∀ r ∈ ways, r.length = 4 ∧ ∀ x ∈ r, x = 0 ∨ x = 1
theorem sumI_bits : ∀ (r : List Int), (∀ x ∈ r, x = 0 ∨ x = 1) → 0 ≤ sumI r ∧ sumI r ≤ r.length
  | [], _ => by simp [sumI]
  | x :: r, h => by
    have := sumI_bits r fun y hy => h y (List.mem_cons_of_mem _ hy)
    have hx := h x (List.mem_cons_self ..)
    simp only [sumI, List.length_cons]
    push_cast
    rcases hx with e | e <;> omega
theorem ent_bits {ways : List (List Int)} (h : Bits ways) (i k : Nat) : ent ways i k = 0 ∨ ent ways i k = 1 := by
  unfold ent
  by_cases hi : i < ways.length
  · rw [List.getD_eq_getElem?_getD (l := ways), List.getElem?_eq_getElem hi]
    have hr := h.2 _ (List.getElem_mem hi)
    simp only [Option.getD_some]
    by_cases hk : k < (ways[i]).length
    · rw [List.getD_eq_getElem?_getD, List.getElem?_eq_getElem hk]; exact hr.2 _ (List.getElem_mem hk)
    · rw [List.getD_eq_getElem?_getD, List.getElem?_eq_none (by omega)]; exact .inl rfl
  · rw [List.getD_eq_getElem?_getD (l := ways), List.getElem?_eq_none (by omega)]; exact .inl (by simp)
theorem diagTo_ok {ways : List (List Int)} (h : Bits ways) : ∀ i, i ≤ 4 → (diagTo ways i).length = 4 ∧ ∀ r ∈ diagTo ways i, r.length = 4 ∧ ∀ x ∈ r, x.natAbs ≤ 10000
  | 0, _ => by
    refine ⟨by show (negRows ways).length = 4; unfold negRows; rw [List.length_map]; exact h.1, fun r hr => ?_⟩
    obtain ⟨r', hr', rfl⟩ := List.mem_map.mp hr
    refine ⟨by rw [List.length_map]; exact (h.2 r' hr').1, fun x hx => ?_⟩
    obtain ⟨y, hy, rfl⟩ := List.mem_map.mp hx
    rcases (h.2 r' hr').2 y hy with e | e <;> subst e <;> decide
  | i + 1, hi => by
    obtain ⟨h1, h2⟩ := diagTo_ok h i (by omega)
    rw [diagTo_succ]
    unfold diagStep
    refine ⟨by rw [List.length_set]; exact h1, fun r hr => ?_⟩
    have hg : (diagTo ways i).getD i [] ∈ diagTo ways i := by
      rw [List.getD_eq_getElem?_getD, List.getElem?_eq_getElem (by omega)]; exact List.getElem_mem _
    rcases List.mem_or_eq_of_mem_set hr with q | q
    · exact h2 r q
    · subst q
      refine ⟨by rw [List.length_set]; exact (h2 _ hg).1, fun x hx => ?_⟩
      rcases List.mem_or_eq_of_mem_set hx with q | q
      · exact (h2 _ hg).2 x q
      · subst q
        unfold diagV
        have he := ent_bits h i i
        have hw : ways.getD i [] ∈ ways := by rw [List.getD_eq_getElem?_getD, List.getElem?_eq_getElem (by rw [h.1]; omega)]; exact List.getElem_mem _
        have hs := sumI_bits _ (h.2 _ hw).2
        rw [(h.2 _ hw).1] at hs
        rcases he with e | e <;> rw [e] <;> omega
def octKs : List Int := [8, 7, 6, 5, 4, 3, 2, 1, 0]
def octetsN (num : Int) : List Int := octKs.map fun k => (num.fdiv (256 ^ k.toNat)).fmod 256
def octetsOf (ways : List (List Int)) : List UInt8 := octs (octetsN (worth 4 (diagTo ways 4)))
structure GA (W : Wo) (T : TC) (R : Addr) : Prop extends G9 W T R where
  sum : W.mg "sum" = Option.none
  enum : W.mg "enumerate" = Option.none
section
variable {W : Wo} {n : Nat} {T : TC}
theorem law_octets {R : Addr} (G : GA W T R) {ways : List (List Int)} (hw : Bits ways) : RunsL W (n + 6) (fscope (nth pw 32)) (fbody (nth pw 32)) (argStore ["ways"] [encT ways] ["table", "k", "number"]) (.ret (.bytes (octetsOf ways))) := by
  show RunsL W (n + 6) _ _ [("ways", .val (encT ways)), ("table", .unset), ("k", .unset), ("number", .unset)] _
  have hwl : (ways.map encR).length = 4 := by rw [List.length_map]; exact hw.1
  refine RunsL.rows ["row"] (a := encT ways) (xs := ways.map encR) (rows := negRows ways) (by decide +kernel) (fun h k => by walk_at "m nm") (fun h k => IterOk.list) (fun h k => ?_) (by unfold negRows; rw [List.length_map, hw.1]; decide) (plain1 fun e => ⟨rfl, fun x => by rfl⟩) (by walk_at "m app") (fun env he => by cases env; cases he; kernel_rfl) ?_
  · have e : (negRows ways).map (fun l => V.list (l.map V.int)) = ways.map fun r => V.list ((r.map fun x => -x).map V.int) := by unfold negRows; rw [List.map_map]; rfl
    rw [e]
    refine EmitL.mapG encR (fun r => V.list ((r.map fun x => -x).map V.int)) ways fun r hr => ⟨_, rfl, _, rfl, ?_⟩
    refine EvNew.comp ["one"] (by decide +kernel) (by walk_at "m nm") IterOk.list (o := (r.map fun x => -x).map V.int) ?_ (by rw [List.length_map, List.length_map, (hw.2 r hr).1]; decide) (plain1 fun e => ⟨rfl, fun x => by rfl⟩)
    rw [List.map_map]
    exact EmitL.map V.int _ r fun x hx => Ev.un (by walk_at "m nm") UnOk.neg
  intro D rs
  refine ⟨[("ways", .val (encT ways)), ("table", .val (.val (.ref D))), ("k", .unset), ("number", .unset)], by walk_at "m put", ?_⟩
  refine RunsML.for (a := .rng 0 4 1) (xs := rangeL 0 4 1) (fun i => [("ways", .val (encT ways)), ("table", .val (.val (.ref D))), ("k", if i = 0 then .unset else .val (.int ((i - 1 : Nat) : Int))), ("number", .unset)]) (fun i => [("ways", .val (encT ways)), ("table", .val (.val (.ref D))), ("k", .val (.int (i : Nat))), ("number", .unset)]) (diagTo ways)
    (Ev.range1 G.toG1 (by decide +kernel) Ev.int (fun _ => by rfl)) (IterOk.rng (by decide) (by decide +kernel)) (fun _ _ => by rfl) ?_ ?_
  · intro i x hx
    have hr : rangeL 0 4 1 = (List.range 4).map fun (i : Nat) => V.int (i : Nat) := by rfl
    rw [hr, List.getElem?_map] at hx
    obtain ⟨j, hj, rfl⟩ := Option.map_eq_some_iff.mp hx
    have hi : i < 4 := by have := (List.getElem?_eq_some_iff.mp hj).1; simpa using this
    have hji : j = i := by rw [List.getElem?_range hi] at hj; exact (Option.some.inj hj).symm
    subst hji
    have hso : plainS (if j = 0 then Slot.unset else .val (.int ((j - 1 : Nat) : Int))) := by
      split
      · exact .inl rfl
      · exact .inr ⟨_, rfl⟩
    have hnext : (if j + 1 = 0 then Slot.unset else .val (.int ((j + 1 - 1 : Nat) : Int))) = .val (.int (j : Nat)) := by rw [if_neg (by omega)]; rfl
    have hwj : j < ways.length := by rw [hw.1]; exact hi
    have hrow := hw.2 _ (List.getElem_mem hwj)
    have eg : ways.getD j [] = ways[j] := by rw [List.getD_eq_getElem?_getD, List.getElem?_eq_getElem hwj]; rfl
    have i1 : (ways.map encR)[((j : Nat) : Int).toNat]? = some (encR (ways.getD j [])) := by rw [Int.toNat_natCast, List.getElem?_map, List.getElem?_eq_getElem hwj, eg]; rfl
    have i2 : ((ways.getD j []).map V.int)[((j : Nat) : Int).toNat]? = some (V.int (ent ways j j)) := by
      unfold ent
      rw [Int.toNat_natCast, List.getElem?_map, List.getD_eq_getElem?_getD (l := ways.getD j []), eg, List.getElem?_eq_getElem (by rw [hrow.1]; exact hi)]; rfl
    refine ⟨Binds.name (by walk_at "m put") (by walk_at "m app"), ?_⟩
    rw [hnext]
    obtain ⟨d1, d2⟩ := diagTo_ok hw j (by omega)
    have hd : (diagTo ways j)[((j : Nat) : Int).toNat]? = some ((diagTo ways j).getD j []) := by rw [Int.toNat_natCast, List.getD_eq_getElem?_getD, List.getElem?_eq_getElem (by omega)]; rfl
    have hdm : (diagTo ways j).getD j [] ∈ diagTo ways j := List.mem_of_getElem? hd
    rw [diagTo_succ]
    have bb_sum : bootBuiltins "sum" = some (.builtin "sum") := by decide +kernel
    refine StepM.set (i := (j : Nat)) (l := (diagTo ways j).getD j []) (c := diagV ways j) (by walk_at "m mem") (by walk_at "m mem") (by decide +kernel) (by decide +kernel) ?_ (by omega) (by omega) hd (by rw [Int.toNat_natCast, (d2 _ hdm).1]; exact hi) (fun _ _ => by rfl) (fun _ => by rfl)
    have it2 : ItemOk W (.list ((ways.getD j []).map V.int)) (.int (j : Nat)) (.int (ent ways j j)) := ItemOk.list (by omega) (by omega) i2
    have it1 : ItemOk W (encT ways) (.int (j : Nat)) (encR (ways.getD j [])) := ItemOk.list (by omega) (by omega) i1
    exact Ev.bin (Ev.bin (Ev.bin Ev.int (Ev.item (Ev.item (by walk_at "m nm") (by walk_at "m nm") it1 (fun _ _ => by rfl)) (by walk_at "m nm") it2 (fun _ _ => by rfl)) (BinOk.mulL (by decide)))
      (Ev.call (Ev.builtin (by decide +kernel) G.sum bb_sum) (Evs.one (Ev.item (by walk_at "m nm") (by walk_at "m nm") it1 (fun _ _ => by rfl)) (fun _ => by rfl)) (by trivial) CallOk.sum) BinOk.add)
      (Ev.item (Ev.item (by walk_at "m nm") (by walk_at "m nm") it1 (fun _ _ => by rfl)) (by walk_at "m nm") it2 (fun _ _ => by rfl)) BinOk.sub
  · obtain ⟨d1, d2⟩ := diagTo_ok hw 4 (Nat.le_refl _)
    show RunsML W (n + 6) _ D rs (diagTo ways 4) _ [("ways", .val (encT ways)), ("table", .val (.val (.ref D))), ("k", .val (.int 3)), ("number", .unset)] _
    refine RunsML.freeze (σ' := [("ways", .val (encT ways)), ("table", .val (encT (diagTo ways 4))), ("k", .val (.int 3)), ("number", .unset)]) (x := "table") (by walk_at "m mem") (by walk_at "m put") ?_
    refine RunsL.cons (Runs.assign (Ev.fn ["total", "k"] G.worth (by decide +kernel) (Evs.one (by walk_at "m nm") (fun _ => by rfl)) (by decide +kernel) rfl (law_worth G.toG4 4 (n + 1) (diagTo ways 4) (by decide) d1 (fun r hr => (d2 r hr).1) (fun r hr x hx => by have := (d2 r hr).2 x hx; omega))) (by walk_at "m put") (by walk_at "m app") (fun _ => by rfl)) ?_
    have hoct : ∀ x ∈ octetsN (worth 4 (diagTo ways 4)), 0 ≤ x ∧ x < 256 := by
      intro x hx
      obtain ⟨k, _, rfl⟩ := List.mem_map.mp hx
      exact ⟨Int.fmod_nonneg_of_pos _ (by decide), Int.fmod_lt_of_pos _ (by decide)⟩
    refine RunsL.ret (Runs.ret (Ev.call (Ev.builtin (by decide +kernel) G.bytes bb_bytes) (Evs.one (Ev.comp ["k"] (a := .rng 8 (-1) (-1)) (xs := octKs.map V.int) (by decide +kernel) ?_ (by rw [show octKs.map V.int = rangeL 8 (-1) (-1) by rfl]; exact IterOk.rng (by decide) (by decide +kernel)) (o := (octetsN (worth 4 (diagTo ways 4))).map V.int) ?_ (by simp [octetsN, octKs]) (plain1 fun e => ⟨rfl, fun x => by rfl⟩)) (fun _ => by rfl)) (by trivial) (CallOk.bytes hoct (by simp [octetsN, octKs]))))
    · exact Ev.call (Ev.builtin (by decide +kernel) G.range bb_range) (.cons Ev.int (.cons (Ev.un Ev.int UnOk.neg) (Evs.one (Ev.un Ev.int UnOk.neg) (fun _ => by rfl)) (fun _ => by rfl)) (fun _ => by rfl)) (by trivial) (CallOk.range_3 (by decide) (by decide +kernel))
    · unfold octetsN
      rw [List.map_map]
      refine EmitL.map V.int _ octKs fun k hk => ?_
      have hk' : 0 ≤ k ∧ k ≤ 1000000 ∧ (256 : Int) ^ k.toNat ≠ 0 ∧ ((256 : Int) ^ k.toNat).natAbs.log2 < 9000 := by
        unfold octKs at hk
        simp only [List.mem_cons, List.not_mem_nil, or_false] at hk
        rcases hk with rfl | rfl | rfl | rfl | rfl | rfl | rfl | rfl | rfl <;> decide +kernel
      exact Ev.bin (Ev.bin (by walk_at "m nm") (Ev.bin Ev.int (by walk_at "m nm") (BinOk.pow hk'.1 hk'.2.1 (by decide))) (BinOk.fdiv hk'.2.2.1 hk'.2.2.2)) Ev.int (BinOk.fmod (by decide))
end
end Mine
open PySem PySem.W PyProof.Rows
set_option Elab.async false
set_option linter.unusedVariables false
set_option maxRecDepth 100000
namespace Mine
theorem escT_append (T : List (String × String)) : ∀ a b : List Nat, T.foldl rs (a ++ b) = T.foldl rs a ++ T.foldl rs b := by
  induction T with
  | nil => exact fun _ _ => rfl
  | cons p T ih =>
    intro a b
    rw [List.foldl_cons, List.foldl_cons, List.foldl_cons, ← ih]
    unfold rs
    rw [rsub_append]
theorem escaped_append (way : Nat) (a b : List Nat) : escaped way (a ++ b) = escaped way a ++ escaped way b := escT_append _ a b
theorem escaped_nil (way : Nat) : escaped way [] = [] := by
  unfold escaped
  induction escTable way with
  | nil => rfl
  | cons p T ih => rw [List.foldl_cons]; exact ih
theorem escaped_flat (way : Nat) : ∀ l : List Nat, escaped way l = l.flatMap fun c => escaped way [c]
  | [] => escaped_nil way
  | c :: l => by rw [show c :: l = [c] ++ l from rfl, escaped_append, escaped_flat way l]; rfl
end Mine
open PySem PySem.W PyProof.Rows
set_option Elab.async false
set_option linter.unusedVariables false
set_option maxRecDepth 100000
namespace Mine
theorem det_form (a00 a01 a02 a03 a10 a11 a12 a13 a20 a21 a22 a23 a30 a31 a32 a33 : Int) :
    worth 4 [[a00, a01, a02, a03], [a10, a11, a12, a13], [a20, a21, a22, a23], [a30, a31, a32, a33]] =
      a00 * (a11 * (a22 * a33 - a23 * a32) - a12 * (a21 * a33 - a23 * a31) + a13 * (a21 * a32 - a22 * a31))
      - a01 * (a10 * (a22 * a33 - a23 * a32) - a12 * (a20 * a33 - a23 * a30) + a13 * (a20 * a32 - a22 * a30))
      + a02 * (a10 * (a21 * a33 - a23 * a31) - a11 * (a20 * a33 - a23 * a30) + a13 * (a20 * a31 - a21 * a30))
      - a03 * (a10 * (a21 * a32 - a22 * a31) - a11 * (a20 * a32 - a22 * a30) + a12 * (a20 * a31 - a21 * a30)) := by
  simp only [worth, worthFrom, List.range, List.range.loop, entry, List.headD_cons, List.drop_succ_cons, List.drop_zero, List.map_cons, List.map_nil, dropAt, List.take_succ_cons, List.take_zero, List.nil_append, List.cons_append, List.getElem?_cons_zero, List.getElem?_cons_succ, Option.getD_some, List.drop_nil]
  grind
end Mine
set_option Elab.async false
set_option maxRecDepth 100000
set_option maxHeartbeats 4000000
namespace Mine
theorem det_forest (K w00 w01 w02 w03 w10 w11 w12 w13 w20 w21 w22 w23 w30 w31 w32 w33 : Int) :
    (K*w00 + (w01 + w02 + w03)) * ((K*w11 + (w10 + w12 + w13)) * ((K*w22 + (w20 + w21 + w23)) * (K*w33 + (w30 + w31 + w32)) - (-w23) * (-w32)) - (-w12) * ((-w21) * (K*w33 + (w30 + w31 + w32)) - (-w23) * (-w31)) + (-w13) * ((-w21) * (-w32) - (K*w22 + (w20 + w21 + w23)) * (-w31)))
      - (-w01) * ((-w10) * ((K*w22 + (w20 + w21 + w23)) * (K*w33 + (w30 + w31 + w32)) - (-w23) * (-w32)) - (-w12) * ((-w20) * (K*w33 + (w30 + w31 + w32)) - (-w23) * (-w30)) + (-w13) * ((-w20) * (-w32) - (K*w22 + (w20 + w21 + w23)) * (-w30)))
      + (-w02) * ((-w10) * ((-w21) * (K*w33 + (w30 + w31 + w32)) - (-w23) * (-w31)) - (K*w11 + (w10 + w12 + w13)) * ((-w20) * (K*w33 + (w30 + w31 + w32)) - (-w23) * (-w30)) + (-w13) * ((-w20) * (-w31) - (-w21) * (-w30)))
      - (-w03) * ((-w10) * ((-w21) * (-w32) - (K*w22 + (w20 + w21 + w23)) * (-w31)) - (K*w11 + (w10 + w12 + w13)) * ((-w20) * (-w32) - (K*w22 + (w20 + w21 + w23)) * (-w30)) + (-w12) * ((-w20) * (-w31) - (-w21) * (-w30))) =
      K*w00*w10*w20*w30 + K*w00*w10*w20*w31 + K*w00*w10*w20*w32 + K*K*w00*w10*w20*w33 + K*w00*w10*w21*w30 + K*w00*w10*w21*w31 + K*w00*w10*w21*w32 + K*K*w00*w10*w21*w33 + K*K*w00*w10*w22*w30 + K*K*w00*w10*w22*w31 + K*K*w00*w10*w22*w32 + K*K*K*w00*w10*w22*w33 + K*w00*w10*w23*w30 + K*w00*w10*w23*w31 + K*K*w00*w10*w23*w33 + K*K*w00*w11*w20*w30 + K*K*w00*w11*w20*w31 + K*K*w00*w11*w20*w32 + K*K*K*w00*w11*w20*w33 + K*K*w00*w11*w21*w30 + K*K*w00*w11*w21*w31 + K*K*w00*w11*w21*w32 + K*K*K*w00*w11*w21*w33 + K*K*K*w00*w11*w22*w30 + K*K*K*w00*w11*w22*w31 + K*K*K*w00*w11*w22*w32 + K*K*K*K*w00*w11*w22*w33 + K*K*w00*w11*w23*w30 + K*K*w00*w11*w23*w31 + K*K*K*w00*w11*w23*w33 + K*w00*w12*w20*w30 + K*w00*w12*w20*w31 + K*w00*w12*w20*w32 + K*K*w00*w12*w20*w33 + K*K*w00*w12*w22*w30 + K*K*w00*w12*w22*w31 + K*K*w00*w12*w22*w32 + K*K*K*w00*w12*w22*w33 + K*w00*w12*w23*w30 + K*K*w00*w12*w23*w33 + K*w00*w13*w20*w30 + K*w00*w13*w20*w32 + K*K*w00*w13*w20*w33 + K*w00*w13*w21*w30 + K*K*w00*w13*w21*w33 + K*K*w00*w13*w22*w30 + K*K*w00*w13*w22*w32 + K*K*K*w00*w13*w22*w33 + K*w00*w13*w23*w30 + K*K*w00*w13*w23*w33 + K*w01*w11*w20*w30 + K*w01*w11*w20*w31 + K*w01*w11*w20*w32 + K*K*w01*w11*w20*w33 + K*w01*w11*w21*w30 + K*w01*w11*w21*w31 + K*w01*w11*w21*w32 + K*K*w01*w11*w21*w33 + K*K*w01*w11*w22*w30 + K*K*w01*w11*w22*w31 + K*K*w01*w11*w22*w32 + K*K*K*w01*w11*w22*w33 + K*w01*w11*w23*w30 + K*w01*w11*w23*w31 + K*K*w01*w11*w23*w33 + K*w01*w12*w22*w30 + K*w01*w12*w22*w31 + K*w01*w12*w22*w32 + K*K*w01*w12*w22*w33 + K*w01*w12*w23*w33 + K*w01*w13*w20*w33 + K*w01*w13*w21*w33 + K*w01*w13*w22*w32 + K*K*w01*w13*w22*w33 + K*w01*w13*w23*w33 + K*w02*w10*w22*w30 + K*w02*w10*w22*w31 + K*w02*w10*w22*w32 + K*K*w02*w10*w22*w33 + K*w02*w10*w23*w33 + K*w02*w11*w21*w30 + K*w02*w11*w21*w31 + K*w02*w11*w21*w32 + K*K*w02*w11*w21*w33 + K*K*w02*w11*w22*w30 + K*K*w02*w11*w22*w31 + K*K*w02*w11*w22*w32 + K*K*K*w02*w11*w22*w33 + K*w02*w11*w23*w31 + K*K*w02*w11*w23*w33 + K*w02*w12*w22*w30 + K*w02*w12*w22*w31 + K*w02*w12*w22*w32 + K*K*w02*w12*w22*w33 + K*w02*w12*w23*w33 + K*w02*w13*w21*w33 + K*w02*w13*w22*w30 + K*w02*w13*w22*w32 + K*K*w02*w13*w22*w33 + K*w02*w13*w23*w33 + K*w03*w10*w20*w33 + K*w03*w10*w21*w33 + K*w03*w10*w22*w32 + K*K*w03*w10*w22*w33 + K*w03*w10*w23*w33 + K*w03*w11*w20*w31 + K*K*w03*w11*w20*w33 + K*w03*w11*w21*w31 + K*w03*w11*w21*w32 + K*K*w03*w11*w21*w33 + K*K*w03*w11*w22*w31 + K*K*w03*w11*w22*w32 + K*K*K*w03*w11*w22*w33 + K*w03*w11*w23*w31 + K*K*w03*w11*w23*w33 + K*w03*w12*w20*w33 + K*w03*w12*w22*w31 + K*w03*w12*w22*w32 + K*K*w03*w12*w22*w33 + K*w03*w12*w23*w33 + K*w03*w13*w20*w33 + K*w03*w13*w21*w33 + K*w03*w13*w22*w32 + K*K*w03*w13*w22*w33 + K*w03*w13*w23*w33 := by
  grind
end Mine
open PySem PySem.W PyProof.Rows
set_option Elab.async false
set_option linter.unusedVariables false
set_option maxRecDepth 100000
namespace Mine
open Builtin Builtin.Str StrLaws
theorem joinL_cons {sep p : List Nat} {ps : List (List Nat)} (h : ps ≠ []) : joinL sep (p :: ps) = p ++ sep ++ joinL sep ps := by
  cases ps with
  | nil => exact absurd rfl h
  | cons q r => rfl
theorem at_mem {x : Str} {c d k : Nat} (h : At x (St [c, d]) x.length k) : x.cps.toList[k]? = some c ∧ x.cps.toList[k + 1]? = some d := by
  have h2 := h.2
  rw [subAt_eq] at h2
  have h3 := eq_of_beq h2
  have e : (St [c, d]).cps.toList = [c, d] := rfl
  have e2 : (St [c, d]).length = 2 := rfl
  rw [e, e2] at h3
  have h4 := congrArg (·[0]?) h3
  have h5 := congrArg (·[1]?) h3
  simp only [List.getElem?_take, List.getElem?_drop] at h4 h5
  exact ⟨by simpa using h4, by simpa using h5⟩
theorem at_of {x : Str} {c d a : Nat} {p t : List Nat} (h : x.cps.toList.drop a = p ++ [c, d] ++ t) : At x (St [c, d]) x.length (a + p.length) := by
  have hl := congrArg List.length h
  simp at hl
  have hn : x.cps.toList.length = x.length := by simp [Str.length]
  have hn2 : x.cps.size = x.length := rfl
  refine ⟨by show a + p.length + 2 ≤ x.length; omega, ?_⟩
  rw [subAt_eq]
  have e : (St [c, d]).cps.toList = [c, d] := rfl
  have e2 : (St [c, d]).length = 2 := rfl
  rw [e, e2, ← List.drop_drop, h]
  simp
theorem parts_join {x : Str} {c d : Nat} : ∀ (parts : List (List Nat)) (a : Nat) (cuts : List Nat) (f : Nat), parts ≠ [] → (∀ p ∈ parts, c ∉ p) → a ≤ x.length → x.cps.toList.drop a = joinL [c, d] parts → ChainG x (St [c, d]) x.length a cuts f → (∀ k, f ≤ k → ¬ At x (St [c, d]) x.length k) →
    partsFrom x 2 a cuts = parts.map St := by
  intro parts
  induction parts with
  | nil => intro a cuts f h; exact absurd rfl h
  | cons p ps ih =>
    intro a cuts f _ hf ha hd hG hn
    have hnl : x.cps.toList.length = x.length := by simp [Str.length]
    have inP : ∀ k, a ≤ k → k < a + p.length → At x (St [c, d]) x.length k → False := by
      intro k h1 h2 hA
      have hp : p <+: x.cps.toList.drop a := by
        rw [hd]
        cases ps with
        | nil => exact List.prefix_rfl
        | cons q r => rw [joinL_cons (by simp), List.append_assoc]; exact List.prefix_append _ _
      have h3 : p[k - a]? = some c := by
        have e1 := (at_mem hA).1
        obtain ⟨t, ht⟩ := hp
        have e2 : (x.cps.toList.drop a)[k - a]? = some c := by rw [List.getElem?_drop, show a + (k - a) = k by omega]; exact e1
        rw [← ht, List.getElem?_append_left (by omega)] at e2
        exact e2
      exact hf p (List.mem_cons_self ..) (List.mem_of_getElem? h3)
    cases ps with
    | nil =>
      have hd' : x.cps.toList.drop a = p := hd
      have hlen : a + p.length = x.length := by
        have := congrArg List.length hd'
        rw [List.length_drop, hnl] at this; omega
      have none : ∀ k, a ≤ k → ¬ At x (St [c, d]) x.length k := fun k h1 hA => by
        by_cases hk : k < a + p.length
        · exact inP k h1 hk hA
        · have := hA.1
          have e2 : (St [c, d]).length = 2 := rfl
          omega
      cases cuts with
      | cons c' r => exact absurd hG.2.1 (none c' hG.1)
      | nil =>
        show [strSub x a x.length] = [St p]
        congr 1
        apply Str.ext'
        apply Array.toList_inj.mp
        rw [strSub_toList, hd']
        rw [List.take_of_length_le (by omega)]
        rfl
    | cons q r =>
      rw [joinL_cons (by simp)] at hd
      have hA := at_of hd
      cases cuts with
      | nil =>
        have ef : f = a := hG
        exact absurd hA (hn _ (by omega))
      | cons c' r' =>
        obtain ⟨g1, g2, g3, g4⟩ := hG
        have hc : c' = a + p.length := by
          rcases Nat.lt_trichotomy c' (a + p.length) with h | h | h
          · exact (inP c' g1 h g2).elim
          · exact h
          · exact absurd hA (g3 _ (by omega) h)
        subst hc
        have e2 : (St [c, d]).length = 2 := rfl
        rw [e2] at g4
        show strSub x a (a + p.length) :: partsFrom x 2 (a + p.length + 2) r' = St p :: (q :: r).map St
        congr 1
        · apply Str.ext'
          apply Array.toList_inj.mp
          rw [strSub_toList, hd, show a + p.length - a = p.length by omega, List.append_assoc, List.take_left]
          rfl
        · refine ih (a + p.length + 2) r' f (by simp) (fun p' hp' => hf p' (List.mem_cons_of_mem _ hp')) ?_ ?_ g4 hn
          · have := hA.1; omega
          · rw [show a + p.length + 2 = a + (p.length + 2) by omega, ← List.drop_drop, hd]
            rw [show p.length + 2 = (p ++ [c, d]).length by simp, List.drop_left]
theorem kind_pos (x : Str) : 1 ≤ Builtin.Str.strKind x := by
  unfold Builtin.Str.strKind
  split
  · decide
  · split <;> decide
theorem splitL_join {c d : Nat} (hc : c < 256) (hd : d < 256) {parts : List (List Nat)} (h2 : parts ≠ []) (hf : ∀ p ∈ parts, c ∉ p) : splitL (joinL [c, d] parts) [c, d] = parts := by
  unfold splitL
  have key : Txt.split (St (joinL [c, d] parts)) (St [c, d]) = parts.map St := by
    obtain ⟨f, hG, hn⟩ := occ_tight (St (joinL [c, d] parts)) (St [c, d]) (show 1 ≤ 2 by decide)
    have hx : (St (joinL [c, d] parts)).cps.toList.drop 0 = joinL [c, d] parts := by simp [St]
    have main := parts_join parts 0 _ f h2 hf (Nat.zero_le _) hx hG hn
    have hkind : Builtin.Str.strKind (St [c, d]) = 1 := by
      unfold Builtin.Str.strKind
      rw [if_pos]
      simp [St, hc, hd]
    have whole : ∀ cuts, partsFrom (St (joinL [c, d] parts)) 2 0 cuts = parts.map St → cuts = [] → [St (joinL [c, d] parts)] = parts.map St := by
      intro cuts e e0
      subst e0
      rw [← e]
      show _ = [strSub _ 0 _]
      rw [sub_whole]
    unfold Txt.split
    split
    · rename_i hq
      have hlen : (St (joinL [c, d] parts)).length < 2 := by
        rw [Bool.or_eq_true, decide_eq_true_eq, decide_eq_true_eq, hkind] at hq
        rcases hq with h | h
        · exact h
        · have := kind_pos (St (joinL [c, d] parts)); omega
      cases parts with
      | nil => exact absurd rfl h2
      | cons p ps =>
        cases ps with
        | nil => rfl
        | cons q r =>
          rw [St_len, joinL_cons (by simp)] at hlen
          simp at hlen
          omega
    · split
      · rename_i he
        exact whole _ main (List.isEmpty_iff.mp he)
      · rw [partsBetween_eq]; exact main
  rw [key, List.map_map]
  have : ((fun x : Str => x.cps.toList) ∘ St) = _root_.id := by funext l; simp [St]
  rw [this, List.map_id]
end Mine
open PySem PySem.W PyProof.Rows
set_option Elab.async false
set_option linter.unusedVariables false
set_option maxRecDepth 100000
namespace Mine
def pool : List Nat := L "ampltgquo1309xDA"
def allSigns : List Nat := pool ++ L "&<>\"\r\n\t"
def picks (letters : List Nat) (cell : Int) : List Nat := (memberL letters cell).flatten
theorem members_cons (letters : List Nat) (cell : Int) : members letters cell = 59 :: picks letters cell := by
  unfold members picks
  rw [show L ";" = [59] by decide +kernel, show L "" = [] by decide +kernel, joinL_nil_sep]; rfl
theorem picks_len (letters : List Nat) (cell : Int) : (picks letters cell).length ≤ 11 := by
  have := members_len letters cell
  rw [members_cons] at this
  simpa using this
theorem picks_mem {letters : List Nat} (hl : letters.length = 4) (hp : ∀ c ∈ letters, c ∈ pool) {cell : Int} {d : Nat} (h : d ∈ picks letters cell) : d ∈ allSigns := by
  unfold picks at h
  obtain ⟨l, h1, h2⟩ := List.mem_flatten.mp h
  unfold memberL at h1
  obtain ⟨k, hk, rfl⟩ := List.mem_map.mp h1
  rw [List.mem_singleton] at h2
  subst h2
  have hk2 := (List.mem_filter.mp hk).1
  rw [List.mem_range] at hk2
  have hk' : k < 11 := Nat.lt_of_lt_of_le hk2 (by decide +kernel)
  have hs : (signs1 letters).length = 11 := by unfold signs1; rw [List.length_append, hl]; decide +kernel
  rw [List.getElem?_eq_getElem (by omega), Option.getD_some]
  have hm : (signs1 letters)[k]'(by omega) ∈ signs1 letters := List.getElem_mem _
  unfold allSigns
  unfold signs1 at hm ⊢
  rcases List.mem_append.mp hm with q | q
  · exact List.mem_append_left _ (hp _ q)
  · exact List.mem_append_right _ q
/-- what an escape makes of one sign -/
theorem esc_sign : ∀ way, way < 5 → ∀ d ∈ allSigns, (escaped way [d]).length ≤ 6 ∧ ∀ c ∈ escaped way [d], c ≠ 93 ∧ c ≠ 45 ∧ c ≠ 92 := by decide +kernel
theorem esc_fix : ∀ way, way < 5 → ∀ d ∈ [91, 93, 33, 59], escaped way [d] = [d] := by decide +kernel
def brOf (way : Nat) (letters : List Nat) (cell : Int) : Br := ⟨cell.fmod 2 == 1, escaped way (picks letters cell)⟩
def patTxt (letters : List Nat) (cell : Int) : List Nat := L "[" ++ rep (L "!") (cell.fmod 2) ++ members letters cell ++ L "]"
def patL (letters : List Nat) (cells : List Int) : List Nat := joinL (L "") (cells.map (patTxt letters))
theorem fmod2 (c : Int) : c.fmod 2 = 0 ∨ c.fmod 2 = 1 := by
  have := Int.fmod_nonneg_of_pos c (show (0 : Int) < 2 by decide)
  have := Int.fmod_lt_of_pos c (show (0 : Int) < 2 by decide)
  omega
theorem escaped_flatten (way : Nat) : ∀ ls : List (List Nat), escaped way ls.flatten = (ls.map (escaped way)).flatten
  | [] => escaped_nil way
  | l :: ls => by rw [List.flatten_cons, escaped_append, escaped_flatten way ls]; rfl
theorem esc_patTxt {way : Nat} (hw : way < 5) (letters : List Nat) (cell : Int) : escaped way (patTxt letters cell) = (brOf way letters cell).txt := by
  unfold patTxt
  have f := esc_fix way hw
  rw [show L "[" = [91] by decide +kernel, show L "]" = [93] by decide +kernel, show L "!" = [33] by decide +kernel, members_cons]
  have e59 : escaped way (59 :: picks letters cell) = 59 :: escaped way (picks letters cell) := by
    rw [show 59 :: picks letters cell = [59] ++ picks letters cell from rfl, escaped_append, f 59 (by decide)]; rfl
  rw [escaped_append, escaped_append, escaped_append, f 91 (by decide), f 93 (by decide), e59]
  unfold Br.txt Br.u brOf
  rcases fmod2 cell with e | e
  · rw [e]
    have : rep [33] 0 = [] := rfl
    rw [this, escaped_nil]; simp
  · rw [e]
    have : rep [33] 1 = [33] := rfl
    rw [this, f 33 (by decide)]; simp
theorem esc_pat {way : Nat} (hw : way < 5) (letters : List Nat) (cells : List Int) : escaped way (patL letters cells) = patOf (cells.map (brOf way letters)) := by
  unfold patL patOf
  rw [show L "" = [] by decide +kernel, joinL_nil_sep, escaped_flatten, List.map_map, List.flatMap_def, List.map_map]
  congr 1
  exact List.map_congr_left fun c _ => esc_patTxt hw letters c
theorem brOf_mem {way : Nat} (hw : way < 5) {letters : List Nat} (hl : letters.length = 4) (hp : ∀ c ∈ letters, c ∈ pool) {cell : Int} {c : Nat} (h : c ∈ (brOf way letters cell).w) : ∃ d ∈ picks letters cell, c ∈ escaped way [d] := by
  have : c ∈ escaped way (picks letters cell) := h
  rw [escaped_flat] at this
  exact List.mem_flatMap.mp this
theorem brOf_len {way : Nat} (hw : way < 5) {letters : List Nat} (hl : letters.length = 4) (hp : ∀ c ∈ letters, c ∈ pool) (cell : Int) : (brOf way letters cell).w.length ≤ 66 := by
  show (escaped way (picks letters cell)).length ≤ 66
  rw [escaped_flat]
  have hb : ∀ l : List Nat, (∀ d ∈ l, (escaped way [d]).length ≤ 6) → (l.flatMap fun c => escaped way [c]).length ≤ 6 * l.length := by
    intro l
    induction l with
    | nil => intro _; simp
    | cons x l ih =>
      intro h
      have h1 := h x (List.mem_cons_self ..)
      have h2 := ih fun y hy => h y (List.mem_cons_of_mem _ hy)
      rw [List.flatMap_cons, List.length_append, List.length_cons]; omega
  have := hb (picks letters cell) fun d hd => (esc_sign way hw d (picks_mem hl hp hd)).1
  have := picks_len letters cell
  omega
theorem brOf_ok {way : Nat} (hw : way < 5) {letters : List Nat} (hl : letters.length = 4) (hp : ∀ c ∈ letters, c ∈ pool) (cell : Int) : BrOk (brOf way letters cell) := by
  refine ⟨by have := brOf_len hw hl hp cell; omega, fun c hc => ?_⟩
  obtain ⟨d, hd, h⟩ := brOf_mem hw hl hp hc
  exact (esc_sign way hw d (picks_mem hl hp hd)).2 c h
theorem patTxt_len {letters : List Nat} (cell : Int) : (patTxt letters cell).length ≤ 15 := by
  unfold patTxt
  have := members_len letters cell
  have h1 : (rep (L "!") (cell.fmod 2)).length ≤ 1 := by
    rw [show L "!" = [33] by decide +kernel]
    rcases fmod2 cell with e | e <;> rw [e] <;> decide
  rw [show L "[" = [91] by decide +kernel, show L "]" = [93] by decide +kernel]
  simp only [List.length_append, List.length_cons, List.length_nil]
  omega
theorem patL_len {letters : List Nat} {cells : List Int} (hc : cells.length = 4) : (patL letters cells).length ≤ 60 := by
  unfold patL
  rw [show L "" = [] by decide +kernel, joinL_nil_sep]
  have := flatten_le (m := 15) (ls := cells.map (patTxt letters)) fun y hy => by
    obtain ⟨x, _, rfl⟩ := List.mem_map.mp hy
    exact patTxt_len x
  rw [List.length_map, hc] at this
  exact this
/-- what `_law_taken` makes of the expression -/
def inner (x : Br) : List Nat := (if x.b then [94] else []) ++ 59 :: x.w
def innerA (x : Br) : List Nat := (if x.b then [94] else []) ++ 59 :: amp x.w
theorem join_out : ∀ (brs : List Br), brs ≠ [] → (brs.map Br.out).flatten = 91 :: (joinL [93, 91] (brs.map innerA) ++ [93])
  | [], h => absurd rfl h
  | [x], _ => by simp [joinL, Br.out, innerA]
  | x :: y :: r, _ => by
    rw [List.map_cons, List.flatten_cons, join_out (y :: r) (by simp), List.map_cons (f := innerA) (a := x), joinL_cons (ps := (y :: r).map innerA) (by simp)]
    simp only [Br.out, innerA, List.cons_append, List.append_assoc, List.nil_append, List.map_cons]
theorem rsub_amp {w : List Nat} (h : 92 ∉ w) : rsub (amp w) 92 [] = w := by
  unfold amp
  induction w with
  | nil => rfl
  | cons c w ih =>
    rw [List.flatMap_cons, rsub_append, ih fun q => h (List.mem_cons_of_mem _ q)]
    have hc : c ≠ 92 := fun q => h (q ▸ List.mem_cons_self ..)
    split
    · simp [rsub, hc]
    · simp [rsub, hc]
theorem rsub_join2 {c a b : Nat} (ha : a ≠ c) (hb : b ≠ c) : ∀ ls : List (List Nat), rsub (joinL [a, b] ls) c [] = joinL [a, b] (ls.map fun l => rsub l c [])
  | [] => rfl
  | [x] => rfl
  | x :: y :: r => by
    rw [joinL_cons (ps := y :: r) (by simp), List.map_cons, joinL_cons (ps := (y :: r).map fun l => rsub l c []) (by simp), rsub_append, rsub_append, rsub_join2 ha hb (y :: r)]
    congr 2
    simp [rsub, ha, hb]
theorem rsub_innerA {x : Br} (h : BrOk x) : rsub (innerA x) 92 [] = inner x := by
  unfold innerA inner
  rw [rsub_append]
  congr 1
  · cases x.b <;> rfl
  · rw [show 59 :: amp x.w = [59] ++ amp x.w from rfl, rsub_append, rsub_amp fun q => (h.2 _ q).2.2 rfl]; rfl
theorem trOut_eq {brs : List Br} (h : brs ≠ []) : trOut brs = [40, 63, 115, 58, 91] ++ joinL [93, 91] (brs.map innerA) ++ [93, 41, 92, 90] := by
  unfold trOut
  rw [show L "(?s:" = [40, 63, 115, 58] by decide +kernel, show L ")\\Z" = [41, 92, 90] by decide +kernel, show L "" = [] by decide +kernel, joinL_nil_sep, join_out brs h]
  simp
theorem trOut_mid {brs : List Br} (h : brs ≠ []) : sl (trOut brs) (some 5) (some (-4)) none = joinL [93, 91] (brs.map innerA) := by
  rw [trOut_eq h, show (some (5 : Int)) = some ((5 : Nat) : Int) from rfl, show (some (-4 : Int)) = some (-((4 : Nat) : Int)) from rfl, sl_less _ (by simp) (by decide)]
  rw [List.append_assoc, show 5 = ([40, 63, 115, 58, 91] : List Nat).length from rfl, List.drop_left]
  simp
theorem trOut_first {brs : List Br} (h : brs ≠ []) : sl (trOut brs) none (some 5) none = [40, 63, 115, 58, 91] := by
  rw [trOut_eq h, show (some (5 : Int)) = some ((5 : Nat) : Int) from rfl, sl_to _ (by simp), List.append_assoc]
  rfl
theorem trOut_last {brs : List Br} (h : brs ≠ []) : sl (trOut brs) (some (-4)) none none = [93, 41, 92, 90] := by
  rw [trOut_eq h, show (some (-4 : Int)) = some (-((4 : Nat) : Int)) from rfl, sl_last _ (by simp) (by decide)]
  simp
theorem brackets_eq {brs : List Br} (h : brs ≠ []) (hb : ∀ x ∈ brs, BrOk x) : bracketsOf (trOut brs) = brs.map inner := by
  unfold bracketsOf
  rw [trOut_mid h, show hd1 "\\" = 92 by decide +kernel, show L "" = [] by decide +kernel, show L "][" = [93, 91] by decide +kernel, rsub_join2 (by decide) (by decide), List.map_map]
  have e : brs.map ((fun l => rsub l 92 []) ∘ innerA) = brs.map inner := List.map_congr_left fun x hx => rsub_innerA (hb x hx)
  rw [e]
  refine splitL_join (by decide) (by decide) (by simpa using h) fun p hp => ?_
  obtain ⟨x, hx, rfl⟩ := List.mem_map.mp hp
  intro q
  unfold inner at q
  rcases List.mem_append.mp q with q | q
  · cases hxb : x.b <;> rw [hxb] at q <;> simp at q
  · rcases List.mem_cons.mp q with q | q
    · cases q
    · exact ((hb x hx).2 _ q).1 rfl
end Mine
open PySem PySem.W PyProof.Rows
set_option Elab.async false
set_option linter.unusedVariables false
set_option maxRecDepth 100000
namespace Mine
open Builtin Builtin._codecs
theorem enc_any : (Str.ofString "ascii").cps.any (fun x => decide (x ≥ 128)) = false := by decide +kernel
theorem enc_nul : (Str.ofString "ascii").cps.contains 0 = false := by decide +kernel
theorem enc_tree (x : Str) (t u : Tok) : Builtin.«str.encode» ⟨[.str x t, .str (Str.ofString "ascii") u], []⟩ = (do ret (← encodeRoad "str.encode" (.str x t) x (Str.ofString "ascii") none)) := by 
  have h : (Builtin.Str.codecArg "str.encode" "encode" "'encoding'" (some (.str (Str.ofString "ascii") u))) = pure (some (Str.ofString "ascii")) := by
    show (if (Str.ofString "ascii").cps.any (fun x => decide (x ≥ 128)) = true then _ else if (Str.ofString "ascii").cps.contains 0 = true then _ else pure (some (Str.ofString "ascii")) : Sem (Option Str)) = _
    rw [enc_any, enc_nul]; rfl
  show ((Builtin.Str.codecArg "str.encode" "encode" "'encoding'" (some (.str (Str.ofString "ascii") u))) >>= fun o => ((Builtin.Str.codecArg "str.encode" "encode" "'errors'" none) >>= fun e => (do ret (← encodeRoad "str.encode" (.str x t) x (o.getD "utf-8") e)) ) : Sem Fin) = _
  rw [h]
  rfl
theorem enc_road (id : String) (self : Value) (x : Str) (errors : Option Str) : encodeRoad id self x (Str.ofString "ascii") errors = (do mkBytes (← encodeNarrow id asciiCodec errors self x)) := by
  first | rfl | (unfold encodeRoad; rfl) | (unfold encodeRoad; simp only []; rfl) | decide
theorem enc_forIn {α β : Type} {f : α → β → Sem (ForInStep β)} {s0 s1 : β} (h0 : ∀ a, f a s0 = pure (.yield s1)) (h1 : ∀ a, f a s1 = pure (.done s1)) (l : List α) (hl : l ≠ []) : forIn l s0 f = pure s1 := by
  cases l with
  | nil => exact absurd rfl hl
  | cons a l =>
    rw [List.forIn_cons, h0]
    show forIn l s1 f = pure s1
    cases l with
    | nil => rfl
    | cons b l => rw [List.forIn_cons, h1]; rfl
theorem enc_fold (l : List Nat) : ∀ acc : Array UInt8, l.foldl (fun acc y => acc ++ (asciiCodec.bytesOf y).toArray) acc = acc ++ (l.map (·.toUInt8)).toArray := by
  induction l with
  | nil => intro acc; simp
  | cons x l ih =>
    intro acc
    rw [List.foldl_cons, ih]
    show (acc ++ [x.toUInt8].toArray) ++ _ = _
    simp
theorem rng_loop {β : Type} {f : Nat → β → Sem (ForInStep β)} {s0 s1 : β} (h0 : ∀ a, f a s0 = pure (.yield s1)) (h1 : ∀ a, f a s1 = pure (.done s1)) (n : Nat) (hn : n ≠ 0) : forIn [0 : n] s0 f = pure s1 := by
  rw [Std.Legacy.Range.forIn_eq_forIn_range']
  refine enc_forIn h0 h1 _ fun e => hn ?_
  have := congrArg List.length e
  simpa [Std.Legacy.Range.size] using this
theorem loop_then {β γ : Type} {f : Nat → β → Sem (ForInStep β)} {s0 s1 : β} {k : β → Sem γ} (h0 : ∀ a, f a s0 = pure (.yield s1)) (h1 : ∀ a, f a s1 = pure (.done s1)) (n : Nat) (hn : n ≠ 0) : (forIn [0 : n] s0 f >>= k) = k s1 := by
  rw [rng_loop h0 h1 n hn]; rfl
theorem loop_zero {β γ : Type} {f : Nat → β → Sem (ForInStep β)} {s0 : β} {k : β → Sem γ} : (forIn [0 : 0] s0 f >>= k) = k s0 := by
  rw [Std.Legacy.Range.forIn_eq_forIn_range']; rfl
theorem enc_none (l : List Nat) (hx : ∀ c ∈ l, c < 128) : Array.findIdx? asciiCodec.bad (l.toArray.extract 0) = none := by
  rw [Array.findIdx?_eq_none_iff]
  intro c hc
  have := hx c (by simpa using hc)
  show decide _ = false
  simpa using this
theorem enc_out (l : List Nat) : ((l.toArray.extract 0).extract 0 (l.toArray.extract 0).size).foldl (fun acc y => acc ++ (asciiCodec.bytesOf y).toArray) #[] = (l.map (·.toUInt8)).toArray := by
  rw [← Array.foldl_toList, enc_fold]
  simp
theorem enc_narrow (id : String) (self : Value) (l : List Nat) (hx : ∀ c ∈ l, c < 128) (hz : l.length ≤ sizeLine) : encodeNarrow id asciiCodec none self (St l) = pure ((l.map (·.toUInt8)).toArray) := by
  cases l with
  | nil => exact loop_zero
  | cons c l =>
    have e0 : asciiCodec.bad c = false := by
      have := hx c (List.mem_cons_self ..)
      show decide _ = false
      simpa using this
    refine loop_then (s0 := (0, (#[] : Array UInt8), ({} : Faults))) (s1 := ((c :: l).length, ((c :: l).map (·.toUInt8)).toArray, ({} : Faults))) (fun a => ?_) (fun a => ?_) (St (c :: l)).length (by rw [St_len]; exact Nat.succ_ne_zero _)
    · dsimp only
      rw [if_neg (by simp [sizeLine])]
      rw [show (St (c :: l)).cps[0]? = some c by simp [St]]
      dsimp only
      rw [if_pos (by rw [e0]; rfl)]
      have e1 : (St (c :: l)).cps = (c :: l).toArray := rfl
      rw [e1, enc_none _ hx, Option.getD_none, Nat.zero_add]
      exact congrArg pure (congrArg ForInStep.yield (Prod.ext (show ((c :: l).toArray.extract 0).size = (c :: l).length by simp) (Prod.ext (enc_out (c :: l)) rfl)))
    · dsimp only
      rw [if_neg (by simpa using hz)]
      rw [show (St (c :: l)).cps[(c :: l).length]? = none by simp [St]]
section
variable {W : Wo} {n : Nat}
theorem gives_encode (x : List Nat) (t u : Tok) (hx : ∀ c ∈ x, c < 128) (hz : x.length ≤ sizeLine) : Gives (Builtin.«str.encode» ⟨[.str (St x) t, .str (Str.ofString "ascii") u], []⟩) (.bytes (x.map (·.toUInt8)).toArray) := by
  rw [enc_tree, enc_road, enc_narrow _ _ _ hx hz]
  exact .of_eq rfl
theorem CallOk.encode {l : List Nat} (hl : ∀ c ∈ l, c < 128) (hz : l.length ≤ 1000000) : CallOk W n (.builtin "str.encode") [.str l, .str (L "ascii")] (.bytes (l.map (·.toUInt8))) := by
  intro A hA s hot vs Q E _ al r k
  unfold Rds at r; obtain ⟨v, r', rfl, h1, h2⟩ := r
  unfold Rds at h2; obtain ⟨v', r'', rfl, h2, h3⟩ := h2; unfold Rds at h3; subst h3
  obtain ⟨t, rfl⟩ := rd_str h1; obtain ⟨u, rfl⟩ := rd_str h2
  rw [← ofString_L]
  refine call_gives F.slot_str_encode (typeIs_str _ _ _) F.entry_str_encode (F.args_str_encode_2 _ _) (gives_encode l t u hl (by rw [sizeLine_eq]; omega)) ⟨?_, k _ _ .tok mk_bytes⟩
  rw [sizeLine_eq, List.size_toArray, List.length_map]; omega
end
end Mine
open PySem PySem.W PyProof.Rows
set_option Elab.async false
set_option linter.unusedVariables false
set_option maxRecDepth 100000
namespace Mine
local macro_rules | `(tactic| walk_at "m mem") => `(tactic| (first | with_reducible exact List.mem_cons_self .. | (with_reducible refine InS.own ?_; walk_at "m mem") | (with_reducible refine InS.free ?_ (by decide +kernel); walk_at "m mem") | (with_reducible refine List.mem_cons_of_mem _ ?_; walk_at "m mem")))
local macro_rules | `(tactic| walk_at "m put") => `(tactic| (repeat (first | with_reducible exact Put.here | with_reducible apply Put.there)))
local macro_rules | `(tactic| walk_at "m app") => `(tactic| (repeat (first | exact noApp.nil | refine noApp.val ?_ | refine noApp.own ?_ | refine noApp.unset ?_ | refine noApp.plain (by assumption) ?_ | refine noApp.app (by decide) ?_)))
local macro_rules | `(tactic| walk_at "m nm") => `(tactic| (refine Ev.name (by walk_at "m mem") (by decide +kernel)))
theorem dr_step_pool {d : Dr} {i : Nat} (ok : DrOk d i) (hi : i < 4) (h1 : ∀ c ∈ d.left, c ∈ pool) (h2 : ∀ c ∈ d.letters, c ∈ pool) : (∀ c ∈ (drStep d (sizeOf i)).left, c ∈ pool) ∧ ∀ c ∈ (drStep d (sizeOf i)).letters, c ∈ pool := by
  refine ⟨fun c hc => ?_, fun c hc => ?_⟩
  · have hc' : c ∈ rsub d.left (d.left.getD (d.rest.fmod (sizeOf i)).toNat 0) [] := hc
    rw [rsub_nil] at hc'
    exact h1 c (List.mem_filter.mp hc').1
  · have hc' : c ∈ d.letters ++ [d.left.getD (d.rest.fmod (sizeOf i)).toNat 0] := hc
    rcases List.mem_append.mp hc' with q | q
    · exact h2 c q
    · rw [List.mem_singleton] at q
      subst q
      have hlt := (drStep_ok ok hi).2.2
      rw [List.getD_eq_getElem?_getD, List.getElem?_eq_getElem hlt]
      exact h1 _ (List.getElem_mem _)
theorem drAll_pool (rest : Int) : ∀ i, i ≤ 4 → (∀ c ∈ (drAll rest (List.range i)).left, c ∈ pool) ∧ ∀ c ∈ (drAll rest (List.range i)).letters, c ∈ pool
  | 0, _ => by
    refine ⟨fun c h => h, fun c h => ?_⟩
    have h' : c ∈ L "" := h
    rw [show L "" = [] by decide +kernel] at h'
    cases h'
  | i + 1, h => by
    have ih := drAll_pool rest i (by omega)
    have ok := drAll_ok rest i (by omega)
    have e : drAll rest (List.range (i + 1)) = drStep (drAll rest (List.range i)) (sizeOf i) := by unfold drAll; rw [List.range_succ, List.foldl_append]; rfl
    rw [e]
    exact dr_step_pool ok (by omega) ih.1 ih.2
theorem drawn_len (ns : List Int) : (drawn ns).letters.length = 4 := (drAll_ok _ 4 (by decide)).2.2
theorem drawn_pool (ns : List Int) : ∀ c ∈ (drawn ns).letters, c ∈ pool := (drAll_pool _ 4 (by decide)).2
def wayN (ns : List Int) : Nat := (((drawnCells ns).getD 0 0).fmod 5).toNat
theorem wayN_lt (ns : List Int) : wayN ns < 5 := by
  unfold wayN
  have h1 := Int.fmod_nonneg_of_pos ((drawnCells ns).getD 0 0) (show (0 : Int) < 5 by decide)
  have h2 := Int.fmod_lt_of_pos ((drawnCells ns).getD 0 0) (show (0 : Int) < 5 by decide)
  omega
theorem wayN_eq (ns : List Int) : ((drawnCells ns).getD 0 0).fmod 5 = ((wayN ns : Nat) : Int) := by
  unfold wayN
  have h1 := Int.fmod_nonneg_of_pos ((drawnCells ns).getD 0 0) (show (0 : Int) < 5 by decide)
  omega
def cellsN (ns : List Int) : List Int := (drawnCells ns).drop 1
theorem cellsN_len (ns : List Int) : (cellsN ns).length = 4 := by
  unfold cellsN drawnCells
  rw [List.length_drop, (cellsOf_ok _).1]
def waysN (way : Nat) (letters : List Nat) (cells : List Int) : List (List Int) := cells.map (wayRow way letters)
theorem waysN_bits (way : Nat) {letters : List Nat} {cells : List Int} (hl : letters.length = 4) (hc : cells.length = 4) : Bits (waysN way letters cells) := by
  refine ⟨by unfold waysN; rw [List.length_map, hc], fun r hr => ?_⟩
  obtain ⟨cell, _, rfl⟩ := List.mem_map.mp hr
  refine ⟨by unfold wayRow; rw [List.length_map, hl], fun x hx => ?_⟩
  obtain ⟨c, _, rfl⟩ := List.mem_map.mp hx
  split
  · exact .inr rfl
  · exact .inl rfl
def b64T : List Nat := L "ABCDEFGHIJKLMNOPQRSTUVWXYZabcdefghijklmnopqrstuvwxyz0123456789+/"
def pairOf (c : Int) : List Nat := [(b64T[(c.fdiv 64).toNat]?).getD 0, (b64T[(c.fmod 64).toNat]?).getD 0]
def dueOf (counts : List Int) : List Nat := L "AA" ++ joinL (L "") (counts.reverse.map pairOf)
theorem countsOf_bound : ∀ (ns : List (List Nat)) (x : Int), x ∈ countsOf ns → 0 ≤ x ∧ x ≤ ns.length := by
  intro ns
  have key : ∀ (ns : List (List Nat)) (acc : List Int) (m : Nat), (∀ x ∈ acc, 0 ≤ x ∧ x ≤ (m : Int)) → ∀ x ∈ ns.foldl countStep acc, 0 ≤ x ∧ x ≤ ((m + ns.length : Nat) : Int) := by
    intro ns
    induction ns with
    | nil => intro acc m h x hx; exact h x hx
    | cons n ns ih =>
      intro acc m h x hx
      rw [List.foldl_cons] at hx
      have := ih (countStep acc n) (m + 1) (fun y hy => ?_) x hx
      · rw [List.length_cons]; omega
      · unfold countStep at hy
        split at hy
        · rcases List.mem_or_eq_of_mem_set hy with q | q
          · have := h y q; omega
          · subst q
            rw [List.getD_eq_getElem?_getD]
            cases hk : acc[fixedOf n]? with
            | none => simp; omega
            | some z =>
              have := h z (List.mem_of_getElem? hk)
              simp; omega
        · have := h y hy; omega
  intro x hx
  have := key ns [0, 0, 0, 0, 0] 0 (by simp) x hx
  simpa using this
theorem flatMap_len {α β : Type} (l : List α) (f : α → List β) (m : Nat) (h4 : l.length ≤ 4) (h : ∀ x ∈ l, (f x).length ≤ m) : (l.flatMap f).length ≤ 4 * m := by
  have : (l.flatMap f).length ≤ l.length * m := by
    clear h4
    induction l with
    | nil => simp
    | cons x l ih =>
      have h1 := h x (List.mem_cons_self ..)
      have h2 := ih fun y hy => h y (List.mem_cons_of_mem _ hy)
      rw [List.flatMap_cons, List.length_append, List.length_cons, Nat.succ_mul]; omega
  exact Nat.le_trans this (Nat.mul_le_mul_right _ h4)
theorem namesOf_len {t : List (List Nat)} (hb : ∀ r ∈ t, r.length ≤ 4) : (namesOf t).length ≤ 256 := by
  have rowOk (j : Nat) : (t.getD j []).length ≤ 4 := by
    rw [List.getD_eq_getElem?_getD]
    cases h : t[j]? with
    | none => simp
    | some r => exact hb r (List.mem_of_getElem? h)
  unfold namesOf
  exact flatMap_len _ _ 64 (rowOk 0) fun a _ => flatMap_len _ _ 16 (rowOk 1) fun b _ => flatMap_len _ _ 4 (rowOk 2) fun c _ => flatMap_len _ _ 1 (rowOk 3) fun d _ => by simp
def brsOf (way : Nat) (letters : List Nat) (cells : List Int) : List Br := cells.map (brOf way letters)
def takenN (way : Nat) (letters : List Nat) (cells : List Int) : List (List Nat) := ((brsOf way letters cells).map inner).map (takenRow letters)
theorem takenRow_ok (letters b : List Nat) : (takenRow letters b).length ≤ 4 ∧ ∀ k ∈ takenRow letters b, k < 4 := by
  unfold takenRow
  refine ⟨Nat.le_trans (List.length_filter_le _ _) (by simp), fun k hk => ?_⟩
  exact List.mem_range.mp (List.mem_filter.mp hk).1
def countsN (way : Nat) (letters : List Nat) (cells : List Int) : List Int := countsOf (namesOf (takenN way letters cells))
theorem countsN_ok (way : Nat) (letters : List Nat) (cells : List Int) : ∀ x ∈ countsN way letters cells, 0 ≤ x ∧ x ≤ 256 := by
  intro x hx
  have h1 := countsOf_bound _ x hx
  have h2 := namesOf_len (t := takenN way letters cells) fun r hr => by
    obtain ⟨b, _, rfl⟩ := List.mem_map.mp hr
    exact (takenRow_ok letters b).1
  omega
def verdict (way : Nat) (letters : List Nat) (cells : List Int) : Bool :=
  (feedAll (octetsOf (waysN way letters cells))).out.map (·.toUInt8) == (dueOf (countsN way letters cells)).map (·.toUInt8)
structure GB (W : Wo) (T : TC) (R : Addr) : Prop extends GA W T R where
  drawn : Fn W pw 26 "_law_drawn" ["script"]
  written : Fn W pw 28 "_law_written" ["way", "text"]
  ways : Fn W pw 30 "_law_ways" ["way", "letters", "cells"]
  octets : Fn W pw 32 "_law_octets" ["ways"]
  taken : Fn W pw 33 "_law_taken" ["expression", "letters"]
  counts : Fn W pw 34 "_law_counts" ["taken"]
  translate : FnT W T.away pw 4 "translate" ["pat"]
theorem octets_len (ways : List (List Int)) : (octetsOf ways).length = 9 := by simp [octetsOf, octs, octetsN, octKs]
section
variable {W : Wo} {n : Nat} {T : TC}
theorem law_main {R : Addr} (G : GB W T R) {ns : List Int} (hn : ns.length ≤ 1000) {sd : V} (hsd : SliceOk W sd none (some 60) none (.list ((sl ns none (some 60) none).map V.int))) (h0 : (feedAll (octetsOf (waysN (wayN ns) (drawn ns).letters (cellsN ns)))).bits = 0) :
    RunsTL T.away W (n + 8) (fscope (nth pw 35)) (fbody (nth pw 35)) (argStore ["script"] [sd] ["way", "letters", "cells", "pattern", "expression", "counts", "signs", "due"]) (.ret (.bool (verdict (wayN ns) (drawn ns).letters (cellsN ns)))) := by
  show RunsTL T.away W (n + 8) _ _ [("script", .val sd), ("way", .unset), ("letters", .unset), ("cells", .unset), ("pattern", .unset), ("expression", .unset), ("counts", .unset), ("signs", .unset), ("due", .unset)] _
  have hl := drawn_len ns
  have hp := drawn_pool ns
  have hw := wayN_lt ns
  have hc := cellsN_len ns
  have hdv : drawnV ns = .tup [.int (wayN ns : Nat), .str (drawn ns).letters, .list ((cellsN ns).map V.int)] := by unfold drawnV cellsN; rw [wayN_eq]
  refine RunsTL.con (Runs.unpack (d := .tup [.int (wayN ns : Nat), .str (drawn ns).letters, .list ((cellsN ns).map V.int)]) ?_ (Binds.tuple (BindsL.cons (by walk_at "m put") (by walk_at "m app") (BindsL.cons (by walk_at "m put") (by walk_at "m app") (BindsL.cons (by walk_at "m put") (by walk_at "m app") BindsL.nil)))) (fun _ => by rfl) (fun env he => by cases env; cases he; kernel_rfl)) ?_
  · have := law_drawn (W := W) (n := n + 7) { G.toG6 with enum := G.enum } hn hsd
    rw [hdv] at this
    exact Ev.fn ["cells", "k", "x", "letters", "left", "rest", "size", "letter"] G.drawn (by decide +kernel) (Evs.one (by walk_at "m nm") (fun _ => by rfl)) (by decide +kernel) rfl this
  generalize (drawn ns).letters = letters at *
  generalize cellsN ns = cells at *
  generalize wayN ns = way at *
  have hlen : (patL letters cells).length ≤ 60 := patL_len hc
  refine RunsTL.con (Runs.assign (d := .str (patL letters cells)) (Ev.meth Ev.str (Evs.one (Ev.comp ["cell"] (by decide +kernel) (by walk_at "m nm") IterOk.list
    (EmitL.map V.int (fun cell => V.str (patTxt letters cell)) cells (fun cell hcell => ?_)) ?_ (plain1 fun e => ⟨rfl, fun x => by rfl⟩)) (fun _ => by rfl)) HasType.str meth_join (join_strs _ 15 (fun _ _ => patTxt_len _) ?_) (fun _ => by rfl) (by rfl) (by decide)) (by walk_at "m put") (by walk_at "m app") (fun _ => by rfl)) ?_
  · have hm := members_len letters cell
    have e1 : (L "[").length = 1 := by decide +kernel
    have e2 : (L "!").length = 1 := by decide +kernel
    have e3 : (L "]").length = 1 := by decide +kernel
    have h1 : (rep (L "!") (cell.fmod 2)).length ≤ 1 := by
      rw [show L "!" = [33] by decide +kernel]
      rcases fmod2 cell with e | e <;> rw [e] <;> decide
    have h2 := fmod2 cell
    refine Ev.bin (Ev.bin (Ev.bin Ev.str (Ev.bin Ev.str (Ev.bin (by walk_at "m nm") Ev.int (BinOk.fmod (by decide))) (BinOk.rep 1 1 (by omega) (by omega) (by omega) (by decide) (by decide))) (BinOk.cat (by omega)))
      (Ev.fn ["signs"] G.members (by decide +kernel) (.cons (by walk_at "m nm") (Evs.one (by walk_at "m nm") (fun _ => by rfl)) (fun _ => by rfl)) (by decide +kernel) rfl (law_members G.toG1 hl)) (BinOk.cat (by rw [List.length_append]; omega))) Ev.str (BinOk.cat (by rw [List.length_append, List.length_append]; omega))
  · rw [List.length_map, hc]; decide
  · rw [hc, show (L "").length = 0 by decide +kernel]; decide
  have hbr : ∀ x ∈ brsOf way letters cells, BrOk x := fun x hx => by
    obtain ⟨cell, _, rfl⟩ := List.mem_map.mp hx
    exact brOf_ok hw hl hp cell
  have hbl : ∀ x ∈ brsOf way letters cells, x.w.length ≤ 80 := fun x hx => by
    obtain ⟨cell, _, rfl⟩ := List.mem_map.mp hx
    have := brOf_len hw hl hp cell
    omega
  have hb4 : (brsOf way letters cells).length = 4 := by unfold brsOf; rw [List.length_map, hc]
  have hbne : brsOf way letters cells ≠ [] := fun q => by rw [q] at hb4; cases hb4
  refine RunsTL.cons (RunsT.callFn (T := T.away) (T' := T.away) (ds := [.str (patOf (brsOf way letters cells))]) ["STAR", "parts"] rfl rfl rfl G.translate (by decide +kernel) (Evs.one ?_ (fun _ => by rfl)) (by decide +kernel) rfl (fn_translate G.toG9 hbr hbl (by omega)) (by walk_at "m put") (by walk_at "m app") (fun _ => by rfl)) ?_
  · have := law_written (W := W) (n := n + 6) G.toG2 hw hlen
    rw [esc_pat hw] at this
    exact Ev.fn [] G.written (by decide +kernel) (.cons (by walk_at "m nm") (Evs.one (by walk_at "m nm") (fun _ => by rfl)) (fun _ => by rfl)) (by decide +kernel) rfl this
  have hel : (trOut (brsOf way letters cells)).length ≤ 100000 := by
    unfold trOut
    rw [List.length_append, List.length_append, show L "" = [] by decide +kernel, joinL_nil_sep]
    have := flatten_le (m := 2004) (ls := (brsOf way letters cells).map Br.out) fun y hy => by
      obtain ⟨x, hx, rfl⟩ := List.mem_map.mp hy
      exact out_len x (hbr x hx)
    rw [List.length_map, hb4] at this
    have e1 : (L "(?s:").length = 4 := by decide +kernel
    have e2 : (L ")\\Z").length = 3 := by decide +kernel
    omega
  refine RunsTL.of ?_
  refine RunsL.cons (Runs.ifF (EvT.cmp (c := false) (Ev.bin (c := .str (L "(?s:[])\\Z")) (Ev.slice (by walk_at "m nm") .none (.some Ev.int) .none (SliceOk.str (by decide) (by omega)) (fun _ _ => ⟨_, by rfl⟩)) (Ev.slice (by walk_at "m nm") (.some (Ev.un Ev.int UnOk.neg)) .none .none (SliceOk.str (by decide) (by omega)) (fun _ _ => ⟨_, by rfl⟩)) ?_) Ev.str (CmpOk.nes ?_) (by rfl)) .nil) ?_
  · have := BinOk.cat (W := W) (a := sl (trOut (brsOf way letters cells)) none (some 5) none) (b := sl (trOut (brsOf way letters cells)) (some (-4)) none none) (by rw [trOut_first hbne, trOut_last hbne]; decide)
    rw [trOut_first hbne, trOut_last hbne] at this
    rw [trOut_first hbne, trOut_last hbne, show L "(?s:[])\\Z" = [40, 63, 115, 58, 91] ++ [93, 41, 92, 90] by decide +kernel]
    exact this
  · rw [bne, beq_self_eq_true]; rfl
  have hbo : bracketsOf (trOut (brsOf way letters cells)) = (brsOf way letters cells).map inner := brackets_eq hbne hbr
  have hto : takenOf (trOut (brsOf way letters cells)) letters = takenN way letters cells := by unfold takenOf takenN; rw [hbo]
  have hil : ∀ b ∈ bracketsOf (trOut (brsOf way letters cells)), b.length ≤ 100000 := fun b hb => by
    rw [hbo] at hb
    obtain ⟨x, hx, rfl⟩ := List.mem_map.mp hb
    have := hbl x hx
    unfold inner
    rw [List.length_append, List.length_cons]
    split <;> simp <;> omega
  have htk := law_taken (W := W) (n := n + 7) G.toG4 hl hel (by rw [hbo, List.length_map]; omega) hil
  rw [hto] at htk
  have ht4 : (takenN way letters cells).length = 4 := by unfold takenN; rw [List.length_map, List.length_map, hb4]
  have htb : ∀ r ∈ takenN way letters cells, r.length ≤ 4 ∧ ∀ k ∈ r, k < 4 := fun r hr => by
    obtain ⟨b, _, rfl⟩ := List.mem_map.mp hr
    exact takenRow_ok letters b
  refine RunsL.cons (Runs.assign (d := .list ((countsN way letters cells).map V.int)) (Ev.fn ["counts", "name", "far"] G.counts (by decide +kernel) (Evs.one (Ev.fn ["taken", "bracket"] G.taken (by decide +kernel) (.cons (by walk_at "m nm") (Evs.one (by walk_at "m nm") (fun _ => by rfl)) (fun _ => by rfl)) (by decide +kernel) rfl htk) (fun _ => by rfl)) (by decide +kernel) rfl (law_counts (n := n + 7) G.toG4 ht4 htb)) (by walk_at "m put") (by walk_at "m app") (fun _ => by rfl)) ?_
  refine RunsL.cons (Runs.assign (d := .str b64T) Ev.str (by walk_at "m put") (by walk_at "m app") (fun _ => by rfl)) ?_
  have hcl : (countsN way letters cells).length = 5 := countsOf_len _
  have hcb := countsN_ok way letters cells
  have h64 : b64T.length = 64 := by decide +kernel
  have hpair : ∀ c : Int, (pairOf c).length ≤ 2 := fun c => Nat.le_refl _
  have hdl : (dueOf (countsN way letters cells)).length ≤ 12 ∧ ∀ c ∈ dueOf (countsN way letters cells), c < 128 := by
    unfold dueOf
    rw [show L "" = [] by decide +kernel, joinL_nil_sep, show L "AA" = [65, 65] by decide +kernel]
    constructor
    · have := flatten_le (m := 2) (ls := (countsN way letters cells).reverse.map pairOf) fun y hy => by
        obtain ⟨x, _, rfl⟩ := List.mem_map.mp hy
        exact hpair x
      rw [List.length_map, List.length_reverse, hcl] at this
      rw [List.length_append]
      simp only [List.length_cons, List.length_nil]
      omega
    · have hb : ∀ i : Nat, (b64T[i]?).getD 0 < 128 := by
        intro i
        cases h : b64T[i]? with
        | none => decide
        | some x =>
          have hm := List.mem_of_getElem? h
          have : ∀ y ∈ b64T, y < 128 := by decide +kernel
          exact this x hm
      intro c hc
      rcases List.mem_append.mp hc with q | q
      · rcases List.mem_cons.mp q with q | q
        · subst q; decide
        · rw [List.mem_singleton] at q; subst q; decide
      · obtain ⟨l, h1, h2⟩ := List.mem_flatten.mp q
        obtain ⟨x, _, rfl⟩ := List.mem_map.mp h1
        unfold pairOf at h2
        rcases List.mem_cons.mp h2 with q | q
        · subst q; exact hb _
        · rw [List.mem_singleton] at q; subst q; exact hb _
  refine RunsL.cons (Runs.assign (d := .str (dueOf (countsN way letters cells))) (Ev.bin Ev.str (Ev.meth Ev.str (Evs.one (Ev.comp ["count"] (by decide +kernel) (a := .list ((countsN way letters cells).reverse.map V.int)) ?_ IterOk.list
    (EmitL.map V.int (fun c => V.str (pairOf c)) (countsN way letters cells).reverse (fun c hc => ?_)) ?_ (plain1 fun e => ⟨rfl, fun x => by rfl⟩)) (fun _ => by rfl)) HasType.str meth_join (join_strs _ 2 (fun _ _ => hpair _) ?_) (fun _ => by rfl) (by rfl) (by decide)) (BinOk.cat ?_)) (by walk_at "m put") (by walk_at "m app") (fun _ => by rfl)) ?_
  · have := SliceOk.list (W := W) (l := (countsN way letters cells).map V.int) (lo := none) (hi := none) (st := some (-1)) (by decide) (by rw [List.length_map, hcl]; decide)
    rw [sl_rev, ← List.map_reverse] at this
    exact Ev.slice (by walk_at "m nm") .none .none (.some (Ev.un Ev.int UnOk.neg)) this (fun _ _ => ⟨_, by rfl⟩)
  · have hcc := hcb c (List.mem_reverse.mp hc)
    have hd : 0 ≤ c.fdiv 64 ∧ c.fdiv 64 ≤ 4 := by rw [Int.fdiv_eq_ediv_of_nonneg _ (by decide)]; omega
    have hm : 0 ≤ c.fmod 64 ∧ c.fmod 64 < 64 := ⟨Int.fmod_nonneg_of_pos _ (by decide), Int.fmod_lt_of_pos _ (by decide)⟩
    have i1 : ItemOk W (.str b64T) (.int (c.fdiv 64)) (.str [(b64T[(c.fdiv 64).toNat]?).getD 0]) := ItemOk.str (by omega) (by omega) (chAt_nat 0 (by rw [h64]; omega) (by omega))
    have i2 : ItemOk W (.str b64T) (.int (c.fmod 64)) (.str [(b64T[(c.fmod 64).toNat]?).getD 0]) := ItemOk.str (by omega) (by omega) (chAt_nat 0 (by rw [h64]; omega) (by omega))
    exact Ev.bin (Ev.item (by walk_at "m nm") (Ev.bin (by walk_at "m nm") Ev.int (BinOk.fdiv (by decide) (by decide +kernel))) i1 (fun _ _ => by rfl)) (Ev.item (by walk_at "m nm") (Ev.bin (by walk_at "m nm") Ev.int (BinOk.fmod (by decide))) i2 (fun _ _ => by rfl)) (BinOk.cat (by show 1 + 1 ≤ 16777216; decide))
  · rw [List.length_map, List.length_reverse, hcl]; decide
  · rw [List.length_reverse, hcl, show (L "").length = 0 by decide +kernel]; decide
  · have := hdl.1
    unfold dueOf at this
    rw [List.length_append] at this
    omega
  have hbits := waysN_bits way (letters := letters) (cells := cells) hl hc
  refine RunsL.ret (Runs.ret (Ev.cmp ?_ (Ev.meth (by walk_at "m nm") (Evs.one Ev.str (fun _ => by rfl)) HasType.str meth_encode (CallOk.encode hdl.2 (by have := hdl.1; omega)) (fun _ => by rfl) (by rfl) (by decide)) CmpOk.eq_bytes (by rfl)))
  have hws : (wayRows way letters cells) = (waysN way letters cells).map encR := by unfold wayRows waysN; rw [List.map_map]; rfl
  have hwy := law_ways (W := W) (n := n + 6) G.toG3 (way := way) (letters := letters) (cells := cells) hw hl hc
  rw [hws] at hwy
  have hoc := law_octets (W := W) (n := n + 1) G.toGA hbits
  have hlo : (octetsOf (waysN way letters cells)).length ≤ 1000 := by rw [octets_len]; decide
  exact Ev.fnDf ["encoded"] G.b64 (es := [.none]) (fun h hot => .cons mk_none .nil) rfl (by decide +kernel) (Evs.one (Ev.fn ["table", "k", "number"] G.octets (by decide +kernel) (Evs.one (Ev.fn ["ways", "cell", "spelled"] G.ways (by decide +kernel) (.cons (by walk_at "m nm") (.cons (by walk_at "m nm") (Evs.one (by walk_at "m nm") (fun _ => by rfl)) (fun _ => by rfl)) (fun _ => by rfl)) (by decide +kernel) rfl hwy) (fun _ => by rfl)) (by decide +kernel) rfl hoc) (fun _ => by rfl)) (by decide +kernel) rfl (fn_b64 (n := n + 5) G.toG6 hlo h0)
end
end Mine
open PySem PySem.W PyProof.Rows
set_option Elab.async false
set_option linter.unusedVariables false
set_option maxRecDepth 100000
namespace Mine
theorem feed3 (o : List Nat) (ch : Nat) (a b c : UInt8) : ∃ ch', feed (feed (feed ⟨o, 0, ch⟩ a) b) c = ⟨o ++ [b64S (a.toNat / 4), b64S (a.toNat % 4 * 16 + b.toNat / 16), b64S (b.toNat % 16 * 4 + c.toNat / 64), b64S (c.toNat % 64)], 0, ch'⟩ := by
  have key (x y : Nat) (hy : y < 256) : (x * 2 ^ 8 + y) % 2 ^ 16 = x % 256 * 256 + y := by omega
  have ha : a.toNat < 256 := a.toNat_lt
  have hb : b.toNat < 256 := b.toNat_lt
  have hc : c.toNat < 256 := c.toNat_lt
  unfold feed
  simp only
  have k1 := key ch _ ha
  have k2 := key ((ch * 2 ^ 8 + a.toNat) % 2 ^ 16) _ hb
  have k3 := key (((ch * 2 ^ 8 + a.toNat) % 2 ^ 16 * 2 ^ 8 + b.toNat) % 2 ^ 16) _ hc
  have m1 (x y : Nat) (hy : y < 256) : (x * 256 + y) % 256 = y := by omega
  rw [k1, m1 _ _ ha] at k2
  rw [k1, k2, m1 _ _ hb] at k3
  rw [k1, k2, k3]
  generalize a.toNat = a' at *
  generalize b.toNat = b' at *
  generalize c.toNat = c' at *
  have e1 : (ch % 256 * 256 + a') / 2 ^ 2 % 2 ^ 6 = a' / 4 := by omega
  have e2 : (a' * 256 + b') / 2 ^ 4 % 2 ^ 6 = a' % 4 * 16 + b' / 16 := by omega
  have e3 : (b' * 256 + c') / 2 ^ 6 % 2 ^ 6 = b' % 16 * 4 + c' / 64 := by omega
  have e4 : (b' * 256 + c') / 2 ^ 0 % 2 ^ 6 = c' % 64 := by omega
  rw [e1, e2, e3, e4]
  exact ⟨b' * 256 + c', by simp only [List.append_assoc, List.cons_append, List.nil_append]⟩
/-- three octets of 24 bits, told by their two halves -/
theorem feed24 (o : List Nat) (ch a b : Nat) (ha : a < 4096) (hb : b < 4096) : ∃ ch', feed (feed (feed ⟨o, 0, ch⟩ ((a * 4096 + b) / 65536).toUInt8) ((a * 4096 + b) / 256 % 256).toUInt8) ((a * 4096 + b) % 256).toUInt8 = ⟨o ++ [b64S (a / 64), b64S (a % 64), b64S (b / 64), b64S (b % 64)], 0, ch'⟩ := by
  obtain ⟨ch', h⟩ := feed3 o ch ((a * 4096 + b) / 65536).toUInt8 ((a * 4096 + b) / 256 % 256).toUInt8 ((a * 4096 + b) % 256).toUInt8
  refine ⟨ch', h.trans ?_⟩
  have t : ∀ x : Nat, x < 256 → x.toUInt8.toNat = x := fun x hx => by
    show (UInt8.ofNat x).toNat = x
    rw [UInt8.toNat_ofNat']; exact Nat.mod_eq_of_lt hx
  rw [t _ (show (a * 4096 + b) / 65536 < 256 by omega), t _ (Nat.mod_lt _ (by decide)), t _ (Nat.mod_lt _ (by decide))]
  have e1 : (a * 4096 + b) / 65536 / 4 = a / 64 := by omega
  have e2 : (a * 4096 + b) / 65536 % 4 * 16 + (a * 4096 + b) / 256 % 256 / 16 = a % 64 := by omega
  have e3 : (a * 4096 + b) / 256 % 256 % 16 * 4 + (a * 4096 + b) % 256 / 64 = b / 64 := by omega
  have e4 : (a * 4096 + b) % 256 % 64 = b % 64 := by omega
  rw [e1, e2, e3, e4]
theorem octets_nat (m : Nat) : octs (octetsN (m : Int)) = [m / 281474976710656 / 65536 % 256, m / 281474976710656 / 256 % 256, m / 281474976710656 % 256, m / 16777216 / 65536 % 256, m / 16777216 / 256 % 256, m / 16777216 % 256, m / 65536 % 256, m / 256 % 256, m % 256].map (·.toUInt8) := by
  have f : ∀ k : Nat, (((m : Int).fdiv (256 ^ k)).fmod 256).toNat = m / 256 ^ k % 256 := by
    intro k
    have h0 : (0 : Int) ≤ 256 ^ k := Int.le_of_lt (Int.pow_pos (by decide))
    rw [Int.fdiv_eq_ediv_of_nonneg _ h0, Int.fmod_eq_emod_of_nonneg _ (by decide)]
    have : ((256 : Int) ^ k) = ((256 ^ k : Nat) : Int) := by push_cast; rfl
    rw [this]
    have h2 : ((m : Int) / ((256 ^ k : Nat) : Int)) % 256 = ((m / 256 ^ k % 256 : Nat) : Int) := by push_cast; rfl
    rw [h2, Int.toNat_natCast]
  unfold octs octetsN octKs
  simp only [List.map_cons, List.map_nil]
  rw [show ((8 : Int)).toNat = 8 from rfl, show ((7 : Int)).toNat = 7 from rfl, show ((6 : Int)).toNat = 6 from rfl, show ((5 : Int)).toNat = 5 from rfl, show ((4 : Int)).toNat = 4 from rfl, show ((3 : Int)).toNat = 3 from rfl, show ((2 : Int)).toNat = 2 from rfl, show ((1 : Int)).toNat = 1 from rfl, show ((0 : Int)).toNat = 0 from rfl]
  simp only [f]
  rw [Nat.div_div_eq_div_mul, Nat.div_div_eq_div_mul, Nat.div_div_eq_div_mul, Nat.div_div_eq_div_mul, show (256 : Nat) ^ 0 = 1 from rfl, Nat.div_one]
theorem octets_split {p q r : Nat} (hp : p < 16777216) (hq : q < 16777216) (hr : r < 16777216) : octs (octetsN (((p * 16777216 + q) * 16777216 + r : Nat) : Int)) = [p / 65536, p / 256 % 256, p % 256, q / 65536, q / 256 % 256, q % 256, r / 65536, r / 256 % 256, r % 256].map (·.toUInt8) := by
  rw [octets_nat]
  have d1 : ((p * 16777216 + q) * 16777216 + r) / 16777216 = p * 16777216 + q := by omega
  have d2 : ((p * 16777216 + q) * 16777216 + r) / 281474976710656 = p := by omega
  have low (x g : Nat) (hg : g < 16777216) : (x * 16777216 + g) / 65536 % 256 = g / 65536 ∧ (x * 16777216 + g) / 256 % 256 = g / 256 % 256 ∧ (x * 16777216 + g) % 256 = g % 256 := by omega
  rw [d1, d2, (low _ _ hq).1, (low _ _ hq).2.1, (low _ _ hq).2.2, (low _ _ hr).1, (low _ _ hr).2.1, (low _ _ hr).2.2, Nat.mod_eq_of_lt (show p / 65536 < 256 by omega)]
theorem feed9 {a5 a4 a3 a2 a1 a0 : Nat} (h5 : a5 < 4096) (h4 : a4 < 4096) (h3 : a3 < 4096) (h2 : a2 < 4096) (h1 : a1 < 4096) (h0 : a0 < 4096) :
    ∃ ch, feedAll (octs (octetsN ((((a5 * 4096 + a4) * 16777216 + (a3 * 4096 + a2)) * 16777216 + (a1 * 4096 + a0) : Nat) : Int))) = Bs.mk ([a5 / 64, a5 % 64, a4 / 64, a4 % 64, a3 / 64, a3 % 64, a2 / 64, a2 % 64, a1 / 64, a1 % 64, a0 / 64, a0 % 64].map b64S) 0 ch := by
  have lt (a b : Nat) (ha : a < 4096) (hb : b < 4096) : a * 4096 + b < 16777216 := by omega
  rw [octets_split (lt _ _ h5 h4) (lt _ _ h3 h2) (lt _ _ h1 h0)]
  obtain ⟨c2, f2⟩ := feed24 [] 0 a5 a4 h5 h4
  obtain ⟨c1, f1⟩ := feed24 ([] ++ [b64S (a5 / 64), b64S (a5 % 64), b64S (a4 / 64), b64S (a4 % 64)]) c2 a3 a2 h3 h2
  obtain ⟨c0, f0⟩ := feed24 (([] ++ [b64S (a5 / 64), b64S (a5 % 64), b64S (a4 / 64), b64S (a4 % 64)]) ++ [b64S (a3 / 64), b64S (a3 % 64), b64S (a2 / 64), b64S (a2 % 64)]) c1 a1 a0 h1 h0
  refine ⟨c0, ?_⟩
  unfold feedAll
  simp only [List.map_cons, List.map_nil, List.foldl_cons, List.foldl_nil]
  rw [f2, f1, f0]
  simp only [List.nil_append, List.cons_append]
theorem b64S_eq : ∀ k, k < 64 → b64S k = (b64T[k]?).getD 0 := by decide +kernel
theorem pair_nat {c : Nat} (hc : c < 4096) : pairOf (c : Int) = [b64S (c / 64), b64S (c % 64)] := by
  unfold pairOf
  rw [b64S_eq _ (by omega), b64S_eq _ (Nat.mod_lt _ (by decide))]
  have e1 : ((c : Int).fdiv 64).toNat = c / 64 := by rw [Int.fdiv_eq_ediv_of_nonneg _ (by decide)]; rfl
  have e2 : ((c : Int).fmod 64).toNat = c % 64 := by rw [Int.fmod_eq_emod_of_nonneg _ (by decide)]; rfl
  rw [e1, e2]
theorem sum_split (c0 c1 c2 c3 c4 : Nat) : c0 + c1 * 4096 + c2 * 4096 ^ 2 + c3 * 4096 ^ 3 + c4 * 4096 ^ 4 = ((0 * 4096 + c4) * 16777216 + (c3 * 4096 + c2)) * 16777216 + (c1 * 4096 + c0) := by omega
/-- the digits of the determinant -/
theorem digits {c0 c1 c2 c3 c4 : Nat} (h0 : c0 < 4096) (h1 : c1 < 4096) (h2 : c2 < 4096) (h3 : c3 < 4096) (h4 : c4 < 4096) :
    (feedAll (octs (octetsN ((c0 + c1 * 4096 + c2 * 4096 ^ 2 + c3 * 4096 ^ 3 + c4 * 4096 ^ 4 : Nat) : Int)))).out = dueOf [(c0 : Int), c1, c2, c3, c4] ∧
    (feedAll (octs (octetsN ((c0 + c1 * 4096 + c2 * 4096 ^ 2 + c3 * 4096 ^ 3 + c4 * 4096 ^ 4 : Nat) : Int)))).bits = 0 := by
  rw [sum_split]
  obtain ⟨ch, h⟩ := feed9 (show 0 < 4096 by decide) h4 h3 h2 h1 h0
  rw [h]
  refine ⟨?_, rfl⟩
  unfold dueOf
  rw [show L "" = [] by decide +kernel, joinL_nil_sep, show L "AA" = [b64S 0, b64S 0] by decide +kernel]
  simp only [List.reverse_cons, List.reverse_nil, List.nil_append, List.cons_append, List.map_cons, List.map_nil, List.flatten_cons, List.flatten_nil]
  rw [pair_nat h0, pair_nat h1, pair_nat h2, pair_nat h3, pair_nat h4]
  rfl
end Mine
open PySem PySem.W PyProof.Rows
set_option Elab.async false
set_option linter.unusedVariables false
set_option maxRecDepth 100000
set_option maxHeartbeats 4000000
namespace Mine
def gv (name : List Nat) : Int := if goodName name then 4096 ^ fixedOf name else 0
def valC (acc : List Int) : Int := acc.getD 0 0 + acc.getD 1 0 * 4096 + acc.getD 2 0 * 4096 ^ 2 + acc.getD 3 0 * 4096 ^ 3 + acc.getD 4 0 * 4096 ^ 4
theorem five {l : List Int} (h : l.length = 5) : ∃ a b c d e, l = [a, b, c, d, e] := by
  cases l with | nil => cases h | cons a l => cases l with | nil => cases h | cons b l => cases l with | nil => cases h | cons c l => cases l with | nil => cases h | cons d l => cases l with | nil => cases h | cons e l => cases l with | nil => exact ⟨a, b, c, d, e, rfl⟩ | cons f l => cases h
theorem val_step {acc : List Int} (h : acc.length = 5) (name : List Nat) : valC (countStep acc name) = valC acc + gv name ∧ (countStep acc name).length = 5 := by
  have hf := fixedOf_le name
  unfold countStep gv
  by_cases hg : goodName name = true
  · rw [if_pos hg, if_pos hg]
    refine ⟨?_, by rw [List.length_set]; exact h⟩
    generalize fixedOf name = f at *
    obtain ⟨a0, a1, a2, a3, a4, rfl⟩ := five h
    have hn : f = 0 ∨ f = 1 ∨ f = 2 ∨ f = 3 ∨ f = 4 := by omega
    rcases hn with rfl | rfl | rfl | rfl | rfl
    · show a0 + 1 + a1 * 4096 + a2 * 4096 ^ 2 + a3 * 4096 ^ 3 + a4 * 4096 ^ 4 = _
      rw [Int.add_right_comm a0 1, Int.add_right_comm _ 1, Int.add_right_comm _ 1, Int.add_right_comm _ 1]; rfl
    · show a0 + (a1 + 1) * 4096 + a2 * 4096 ^ 2 + a3 * 4096 ^ 3 + a4 * 4096 ^ 4 = _
      rw [Int.add_mul, Int.one_mul, ← Int.add_assoc, Int.add_right_comm _ 4096, Int.add_right_comm _ 4096, Int.add_right_comm _ 4096]; rfl
    · show a0 + a1 * 4096 + (a2 + 1) * 4096 ^ 2 + a3 * 4096 ^ 3 + a4 * 4096 ^ 4 = _
      rw [Int.add_mul, Int.one_mul, ← Int.add_assoc, Int.add_right_comm _ (4096 ^ 2), Int.add_right_comm _ (4096 ^ 2)]; rfl
    · show a0 + a1 * 4096 + a2 * 4096 ^ 2 + (a3 + 1) * 4096 ^ 3 + a4 * 4096 ^ 4 = _
      rw [Int.add_mul, Int.one_mul, ← Int.add_assoc, Int.add_right_comm _ (4096 ^ 3)]; rfl
    · show a0 + a1 * 4096 + a2 * 4096 ^ 2 + a3 * 4096 ^ 3 + (a4 + 1) * 4096 ^ 4 = _
      rw [Int.add_mul, Int.one_mul, ← Int.add_assoc]; rfl
  · rw [if_neg hg, if_neg hg]
    exact ⟨by omega, h⟩
theorem val_fold : ∀ (ns : List (List Nat)) (acc : List Int), acc.length = 5 → valC (ns.foldl countStep acc) = valC acc + sumI (ns.map gv)
  | [], acc, h => by simp [sumI]
  | n :: ns, acc, h => by
    obtain ⟨h1, h2⟩ := val_step h n
    rw [List.foldl_cons, val_fold ns _ h2, h1, List.map_cons, sumI]; omega
theorem val_counts (ns : List (List Nat)) : valC (countsOf ns) = sumI (ns.map gv) := by
  unfold countsOf
  rw [val_fold ns _ rfl]
  simp [valC]
theorem sumI_app : ∀ a b : List Int, sumI (a ++ b) = sumI a + sumI b
  | [], b => by simp [sumI]
  | x :: a, b => by rw [List.cons_append, sumI, sumI, sumI_app a b]; omega
theorem sum_flat (f : Nat → List (List Nat)) : ∀ l : List Nat, sumI ((l.flatMap f).map gv) = sumI (l.map fun x => sumI ((f x).map gv))
  | [] => rfl
  | x :: l => by rw [List.flatMap_cons, List.map_append, sumI_app, sum_flat f l]; rfl
def bitRow (r : List Int) : List Nat := (List.range 4).filter fun j => r.getD j 0 == 1
theorem filt_sum (p : Nat → Bool) (F : Nat → Int) : ∀ l : List Nat, sumI ((l.filter p).map F) = sumI (l.map fun j => if p j = true then F j else 0)
  | [] => rfl
  | x :: l => by
    rw [List.filter_cons, List.map_cons, sumI, ← filt_sum p F l]
    cases p x with
    | true => rfl
    | false => exact (Int.zero_add _).symm
theorem bit_mul {a : Int} (h : a = 0 ∨ a = 1) (x : Int) : (if (a == 1) = true then x else 0) = a * x := by
  rcases h with rfl | rfl
  · exact (Int.zero_mul x).symm
  · exact (Int.one_mul x).symm
theorem row_sum (F : Nat → Int) {a b c d : Int} (ha : a = 0 ∨ a = 1) (hb : b = 0 ∨ b = 1) (hc : c = 0 ∨ c = 1) (hd : d = 0 ∨ d = 1) :
    sumI ((bitRow [a, b, c, d]).map F) = a * F 0 + (b * F 1 + (c * F 2 + (d * F 3 + 0))) := by
  unfold bitRow
  rw [filt_sum, ← bit_mul ha, ← bit_mul hb, ← bit_mul hc, ← bit_mul hd]
  rfl
theorem names_sum {w00 w01 w02 w03 w10 w11 w12 w13 w20 w21 w22 w23 w30 w31 w32 w33 : Int} (hb : ∀ r ∈ [[w00, w01, w02, w03], [w10, w11, w12, w13], [w20, w21, w22, w23], [w30, w31, w32, w33]], ∀ x ∈ r, x = 0 ∨ x = 1) :
    sumI ((namesOf ([[w00, w01, w02, w03], [w10, w11, w12, w13], [w20, w21, w22, w23], [w30, w31, w32, w33]].map bitRow)).map gv) = w00 * (w10 * (w20 * (w30 * (4096) + (w31 * (4096) + (w32 * (4096) + (w33 * (16777216) + 0)))) + (w21 * (w30 * (4096) + (w31 * (4096) + (w32 * (4096) + (w33 * (16777216) + 0)))) + (w22 * (w30 * (16777216) + (w31 * (16777216) + (w32 * (16777216) + (w33 * (68719476736) + 0)))) + (w23 * (w30 * (4096) + (w31 * (4096) + (w32 * (0) + (w33 * (16777216) + 0)))) + 0)))) + (w11 * (w20 * (w30 * (16777216) + (w31 * (16777216) + (w32 * (16777216) + (w33 * (68719476736) + 0)))) + (w21 * (w30 * (16777216) + (w31 * (16777216) + (w32 * (16777216) + (w33 * (68719476736) + 0)))) + (w22 * (w30 * (68719476736) + (w31 * (68719476736) + (w32 * (68719476736) + (w33 * (281474976710656) + 0)))) + (w23 * (w30 * (16777216) + (w31 * (16777216) + (w32 * (0) + (w33 * (68719476736) + 0)))) + 0)))) + (w12 * (w20 * (w30 * (4096) + (w31 * (4096) + (w32 * (4096) + (w33 * (16777216) + 0)))) + (w21 * (w30 * (0) + (w31 * (0) + (w32 * (0) + (w33 * (0) + 0)))) + (w22 * (w30 * (16777216) + (w31 * (16777216) + (w32 * (16777216) + (w33 * (68719476736) + 0)))) + (w23 * (w30 * (4096) + (w31 * (0) + (w32 * (0) + (w33 * (16777216) + 0)))) + 0)))) + (w13 * (w20 * (w30 * (4096) + (w31 * (0) + (w32 * (4096) + (w33 * (16777216) + 0)))) + (w21 * (w30 * (4096) + (w31 * (0) + (w32 * (0) + (w33 * (16777216) + 0)))) + (w22 * (w30 * (16777216) + (w31 * (0) + (w32 * (16777216) + (w33 * (68719476736) + 0)))) + (w23 * (w30 * (4096) + (w31 * (0) + (w32 * (0) + (w33 * (16777216) + 0)))) + 0)))) + 0)))) + (w01 * (w10 * (w20 * (w30 * (0) + (w31 * (0) + (w32 * (0) + (w33 * (0) + 0)))) + (w21 * (w30 * (0) + (w31 * (0) + (w32 * (0) + (w33 * (0) + 0)))) + (w22 * (w30 * (0) + (w31 * (0) + (w32 * (0) + (w33 * (0) + 0)))) + (w23 * (w30 * (0) + (w31 * (0) + (w32 * (0) + (w33 * (0) + 0)))) + 0)))) + (w11 * (w20 * (w30 * (4096) + (w31 * (4096) + (w32 * (4096) + (w33 * (16777216) + 0)))) + (w21 * (w30 * (4096) + (w31 * (4096) + (w32 * (4096) + (w33 * (16777216) + 0)))) + (w22 * (w30 * (16777216) + (w31 * (16777216) + (w32 * (16777216) + (w33 * (68719476736) + 0)))) + (w23 * (w30 * (4096) + (w31 * (4096) + (w32 * (0) + (w33 * (16777216) + 0)))) + 0)))) + (w12 * (w20 * (w30 * (0) + (w31 * (0) + (w32 * (0) + (w33 * (0) + 0)))) + (w21 * (w30 * (0) + (w31 * (0) + (w32 * (0) + (w33 * (0) + 0)))) + (w22 * (w30 * (4096) + (w31 * (4096) + (w32 * (4096) + (w33 * (16777216) + 0)))) + (w23 * (w30 * (0) + (w31 * (0) + (w32 * (0) + (w33 * (4096) + 0)))) + 0)))) + (w13 * (w20 * (w30 * (0) + (w31 * (0) + (w32 * (0) + (w33 * (4096) + 0)))) + (w21 * (w30 * (0) + (w31 * (0) + (w32 * (0) + (w33 * (4096) + 0)))) + (w22 * (w30 * (0) + (w31 * (0) + (w32 * (4096) + (w33 * (16777216) + 0)))) + (w23 * (w30 * (0) + (w31 * (0) + (w32 * (0) + (w33 * (4096) + 0)))) + 0)))) + 0)))) + (w02 * (w10 * (w20 * (w30 * (0) + (w31 * (0) + (w32 * (0) + (w33 * (0) + 0)))) + (w21 * (w30 * (0) + (w31 * (0) + (w32 * (0) + (w33 * (0) + 0)))) + (w22 * (w30 * (4096) + (w31 * (4096) + (w32 * (4096) + (w33 * (16777216) + 0)))) + (w23 * (w30 * (0) + (w31 * (0) + (w32 * (0) + (w33 * (4096) + 0)))) + 0)))) + (w11 * (w20 * (w30 * (0) + (w31 * (0) + (w32 * (0) + (w33 * (0) + 0)))) + (w21 * (w30 * (4096) + (w31 * (4096) + (w32 * (4096) + (w33 * (16777216) + 0)))) + (w22 * (w30 * (16777216) + (w31 * (16777216) + (w32 * (16777216) + (w33 * (68719476736) + 0)))) + (w23 * (w30 * (0) + (w31 * (4096) + (w32 * (0) + (w33 * (16777216) + 0)))) + 0)))) + (w12 * (w20 * (w30 * (0) + (w31 * (0) + (w32 * (0) + (w33 * (0) + 0)))) + (w21 * (w30 * (0) + (w31 * (0) + (w32 * (0) + (w33 * (0) + 0)))) + (w22 * (w30 * (4096) + (w31 * (4096) + (w32 * (4096) + (w33 * (16777216) + 0)))) + (w23 * (w30 * (0) + (w31 * (0) + (w32 * (0) + (w33 * (4096) + 0)))) + 0)))) + (w13 * (w20 * (w30 * (0) + (w31 * (0) + (w32 * (0) + (w33 * (0) + 0)))) + (w21 * (w30 * (0) + (w31 * (0) + (w32 * (0) + (w33 * (4096) + 0)))) + (w22 * (w30 * (4096) + (w31 * (0) + (w32 * (4096) + (w33 * (16777216) + 0)))) + (w23 * (w30 * (0) + (w31 * (0) + (w32 * (0) + (w33 * (4096) + 0)))) + 0)))) + 0)))) + (w03 * (w10 * (w20 * (w30 * (0) + (w31 * (0) + (w32 * (0) + (w33 * (4096) + 0)))) + (w21 * (w30 * (0) + (w31 * (0) + (w32 * (0) + (w33 * (4096) + 0)))) + (w22 * (w30 * (0) + (w31 * (0) + (w32 * (4096) + (w33 * (16777216) + 0)))) + (w23 * (w30 * (0) + (w31 * (0) + (w32 * (0) + (w33 * (4096) + 0)))) + 0)))) + (w11 * (w20 * (w30 * (0) + (w31 * (4096) + (w32 * (0) + (w33 * (16777216) + 0)))) + (w21 * (w30 * (0) + (w31 * (4096) + (w32 * (4096) + (w33 * (16777216) + 0)))) + (w22 * (w30 * (0) + (w31 * (16777216) + (w32 * (16777216) + (w33 * (68719476736) + 0)))) + (w23 * (w30 * (0) + (w31 * (4096) + (w32 * (0) + (w33 * (16777216) + 0)))) + 0)))) + (w12 * (w20 * (w30 * (0) + (w31 * (0) + (w32 * (0) + (w33 * (4096) + 0)))) + (w21 * (w30 * (0) + (w31 * (0) + (w32 * (0) + (w33 * (0) + 0)))) + (w22 * (w30 * (0) + (w31 * (4096) + (w32 * (4096) + (w33 * (16777216) + 0)))) + (w23 * (w30 * (0) + (w31 * (0) + (w32 * (0) + (w33 * (4096) + 0)))) + 0)))) + (w13 * (w20 * (w30 * (0) + (w31 * (0) + (w32 * (0) + (w33 * (4096) + 0)))) + (w21 * (w30 * (0) + (w31 * (0) + (w32 * (0) + (w33 * (4096) + 0)))) + (w22 * (w30 * (0) + (w31 * (0) + (w32 * (4096) + (w33 * (16777216) + 0)))) + (w23 * (w30 * (0) + (w31 * (0) + (w32 * (0) + (w33 * (4096) + 0)))) + 0)))) + 0)))) + 0))) := by
  simp only [List.mem_cons, List.not_mem_nil, or_false, forall_eq_or_imp, forall_eq] at hb
  obtain ⟨⟨a0, a1, a2, a3⟩, ⟨b0, b1, b2, b3⟩, ⟨c0, c1, c2, c3⟩, ⟨d0, d1, d2, d3⟩⟩ := hb
  have last (a b c : Nat) : sumI (((bitRow [w30, w31, w32, w33]).map fun d => sumI ([[a, b, c, d]].map gv))) = w30 * (gv [a, b, c, 0] + 0) + (w31 * (gv [a, b, c, 1] + 0) + (w32 * (gv [a, b, c, 2] + 0) + (w33 * (gv [a, b, c, 3] + 0) + 0))) := by
    rw [row_sum _ d0 d1 d2 d3]; rfl
  unfold namesOf
  show sumI (((bitRow [w00, w01, w02, w03]).flatMap fun a => (bitRow [w10, w11, w12, w13]).flatMap fun b => (bitRow [w20, w21, w22, w23]).flatMap fun c => (bitRow [w30, w31, w32, w33]).flatMap fun d => [[a, b, c, d]]).map gv) = _
  rw [sum_flat]
  simp only [sum_flat, last]
  rw [row_sum _ a0 a1 a2 a3]
  simp only [row_sum _ b0 b1 b2 b3, row_sum _ c0 c1 c2 c3, Int.add_zero]
  kernel_rfl
theorem names_forest {w00 w01 w02 w03 w10 w11 w12 w13 w20 w21 w22 w23 w30 w31 w32 w33 : Int} (hb : ∀ r ∈ [[w00, w01, w02, w03], [w10, w11, w12, w13], [w20, w21, w22, w23], [w30, w31, w32, w33]], ∀ x ∈ r, x = 0 ∨ x = 1) :
    sumI ((namesOf ([[w00, w01, w02, w03], [w10, w11, w12, w13], [w20, w21, w22, w23], [w30, w31, w32, w33]].map bitRow)).map gv) = 4096*w00*w10*w20*w30 + 4096*w00*w10*w20*w31 + 4096*w00*w10*w20*w32 + 4096*4096*w00*w10*w20*w33 + 4096*w00*w10*w21*w30 + 4096*w00*w10*w21*w31 + 4096*w00*w10*w21*w32 + 4096*4096*w00*w10*w21*w33 + 4096*4096*w00*w10*w22*w30 + 4096*4096*w00*w10*w22*w31 + 4096*4096*w00*w10*w22*w32 + 4096*4096*4096*w00*w10*w22*w33 + 4096*w00*w10*w23*w30 + 4096*w00*w10*w23*w31 + 4096*4096*w00*w10*w23*w33 + 4096*4096*w00*w11*w20*w30 + 4096*4096*w00*w11*w20*w31 + 4096*4096*w00*w11*w20*w32 + 4096*4096*4096*w00*w11*w20*w33 + 4096*4096*w00*w11*w21*w30 + 4096*4096*w00*w11*w21*w31 + 4096*4096*w00*w11*w21*w32 + 4096*4096*4096*w00*w11*w21*w33 + 4096*4096*4096*w00*w11*w22*w30 + 4096*4096*4096*w00*w11*w22*w31 + 4096*4096*4096*w00*w11*w22*w32 + 4096*4096*4096*4096*w00*w11*w22*w33 + 4096*4096*w00*w11*w23*w30 + 4096*4096*w00*w11*w23*w31 + 4096*4096*4096*w00*w11*w23*w33 + 4096*w00*w12*w20*w30 + 4096*w00*w12*w20*w31 + 4096*w00*w12*w20*w32 + 4096*4096*w00*w12*w20*w33 + 4096*4096*w00*w12*w22*w30 + 4096*4096*w00*w12*w22*w31 + 4096*4096*w00*w12*w22*w32 + 4096*4096*4096*w00*w12*w22*w33 + 4096*w00*w12*w23*w30 + 4096*4096*w00*w12*w23*w33 + 4096*w00*w13*w20*w30 + 4096*w00*w13*w20*w32 + 4096*4096*w00*w13*w20*w33 + 4096*w00*w13*w21*w30 + 4096*4096*w00*w13*w21*w33 + 4096*4096*w00*w13*w22*w30 + 4096*4096*w00*w13*w22*w32 + 4096*4096*4096*w00*w13*w22*w33 + 4096*w00*w13*w23*w30 + 4096*4096*w00*w13*w23*w33 + 4096*w01*w11*w20*w30 + 4096*w01*w11*w20*w31 + 4096*w01*w11*w20*w32 + 4096*4096*w01*w11*w20*w33 + 4096*w01*w11*w21*w30 + 4096*w01*w11*w21*w31 + 4096*w01*w11*w21*w32 + 4096*4096*w01*w11*w21*w33 + 4096*4096*w01*w11*w22*w30 + 4096*4096*w01*w11*w22*w31 + 4096*4096*w01*w11*w22*w32 + 4096*4096*4096*w01*w11*w22*w33 + 4096*w01*w11*w23*w30 + 4096*w01*w11*w23*w31 + 4096*4096*w01*w11*w23*w33 + 4096*w01*w12*w22*w30 + 4096*w01*w12*w22*w31 + 4096*w01*w12*w22*w32 + 4096*4096*w01*w12*w22*w33 + 4096*w01*w12*w23*w33 + 4096*w01*w13*w20*w33 + 4096*w01*w13*w21*w33 + 4096*w01*w13*w22*w32 + 4096*4096*w01*w13*w22*w33 + 4096*w01*w13*w23*w33 + 4096*w02*w10*w22*w30 + 4096*w02*w10*w22*w31 + 4096*w02*w10*w22*w32 + 4096*4096*w02*w10*w22*w33 + 4096*w02*w10*w23*w33 + 4096*w02*w11*w21*w30 + 4096*w02*w11*w21*w31 + 4096*w02*w11*w21*w32 + 4096*4096*w02*w11*w21*w33 + 4096*4096*w02*w11*w22*w30 + 4096*4096*w02*w11*w22*w31 + 4096*4096*w02*w11*w22*w32 + 4096*4096*4096*w02*w11*w22*w33 + 4096*w02*w11*w23*w31 + 4096*4096*w02*w11*w23*w33 + 4096*w02*w12*w22*w30 + 4096*w02*w12*w22*w31 + 4096*w02*w12*w22*w32 + 4096*4096*w02*w12*w22*w33 + 4096*w02*w12*w23*w33 + 4096*w02*w13*w21*w33 + 4096*w02*w13*w22*w30 + 4096*w02*w13*w22*w32 + 4096*4096*w02*w13*w22*w33 + 4096*w02*w13*w23*w33 + 4096*w03*w10*w20*w33 + 4096*w03*w10*w21*w33 + 4096*w03*w10*w22*w32 + 4096*4096*w03*w10*w22*w33 + 4096*w03*w10*w23*w33 + 4096*w03*w11*w20*w31 + 4096*4096*w03*w11*w20*w33 + 4096*w03*w11*w21*w31 + 4096*w03*w11*w21*w32 + 4096*4096*w03*w11*w21*w33 + 4096*4096*w03*w11*w22*w31 + 4096*4096*w03*w11*w22*w32 + 4096*4096*4096*w03*w11*w22*w33 + 4096*w03*w11*w23*w31 + 4096*4096*w03*w11*w23*w33 + 4096*w03*w12*w20*w33 + 4096*w03*w12*w22*w31 + 4096*w03*w12*w22*w32 + 4096*4096*w03*w12*w22*w33 + 4096*w03*w12*w23*w33 + 4096*w03*w13*w20*w33 + 4096*w03*w13*w21*w33 + 4096*w03*w13*w22*w32 + 4096*4096*w03*w13*w22*w33 + 4096*w03*w13*w23*w33 := by
  rw [names_sum hb]
  grind
end Mine
open PySem PySem.W PyProof.Rows
set_option Elab.async false
set_option linter.unusedVariables false
set_option maxRecDepth 100000
set_option maxHeartbeats 4000000
namespace Mine
theorem det_ways (w00 w01 w02 w03 w10 w11 w12 w13 w20 w21 w22 w23 w30 w31 w32 w33 : Int) : worth 4 (diagTo [[w00, w01, w02, w03], [w10, w11, w12, w13], [w20, w21, w22, w23], [w30, w31, w32, w33]] 4) = 4096*w00*w10*w20*w30 + 4096*w00*w10*w20*w31 + 4096*w00*w10*w20*w32 + 4096*4096*w00*w10*w20*w33 + 4096*w00*w10*w21*w30 + 4096*w00*w10*w21*w31 + 4096*w00*w10*w21*w32 + 4096*4096*w00*w10*w21*w33 + 4096*4096*w00*w10*w22*w30 + 4096*4096*w00*w10*w22*w31 + 4096*4096*w00*w10*w22*w32 + 4096*4096*4096*w00*w10*w22*w33 + 4096*w00*w10*w23*w30 + 4096*w00*w10*w23*w31 + 4096*4096*w00*w10*w23*w33 + 4096*4096*w00*w11*w20*w30 + 4096*4096*w00*w11*w20*w31 + 4096*4096*w00*w11*w20*w32 + 4096*4096*4096*w00*w11*w20*w33 + 4096*4096*w00*w11*w21*w30 + 4096*4096*w00*w11*w21*w31 + 4096*4096*w00*w11*w21*w32 + 4096*4096*4096*w00*w11*w21*w33 + 4096*4096*4096*w00*w11*w22*w30 + 4096*4096*4096*w00*w11*w22*w31 + 4096*4096*4096*w00*w11*w22*w32 + 4096*4096*4096*4096*w00*w11*w22*w33 + 4096*4096*w00*w11*w23*w30 + 4096*4096*w00*w11*w23*w31 + 4096*4096*4096*w00*w11*w23*w33 + 4096*w00*w12*w20*w30 + 4096*w00*w12*w20*w31 + 4096*w00*w12*w20*w32 + 4096*4096*w00*w12*w20*w33 + 4096*4096*w00*w12*w22*w30 + 4096*4096*w00*w12*w22*w31 + 4096*4096*w00*w12*w22*w32 + 4096*4096*4096*w00*w12*w22*w33 + 4096*w00*w12*w23*w30 + 4096*4096*w00*w12*w23*w33 + 4096*w00*w13*w20*w30 + 4096*w00*w13*w20*w32 + 4096*4096*w00*w13*w20*w33 + 4096*w00*w13*w21*w30 + 4096*4096*w00*w13*w21*w33 + 4096*4096*w00*w13*w22*w30 + 4096*4096*w00*w13*w22*w32 + 4096*4096*4096*w00*w13*w22*w33 + 4096*w00*w13*w23*w30 + 4096*4096*w00*w13*w23*w33 + 4096*w01*w11*w20*w30 + 4096*w01*w11*w20*w31 + 4096*w01*w11*w20*w32 + 4096*4096*w01*w11*w20*w33 + 4096*w01*w11*w21*w30 + 4096*w01*w11*w21*w31 + 4096*w01*w11*w21*w32 + 4096*4096*w01*w11*w21*w33 + 4096*4096*w01*w11*w22*w30 + 4096*4096*w01*w11*w22*w31 + 4096*4096*w01*w11*w22*w32 + 4096*4096*4096*w01*w11*w22*w33 + 4096*w01*w11*w23*w30 + 4096*w01*w11*w23*w31 + 4096*4096*w01*w11*w23*w33 + 4096*w01*w12*w22*w30 + 4096*w01*w12*w22*w31 + 4096*w01*w12*w22*w32 + 4096*4096*w01*w12*w22*w33 + 4096*w01*w12*w23*w33 + 4096*w01*w13*w20*w33 + 4096*w01*w13*w21*w33 + 4096*w01*w13*w22*w32 + 4096*4096*w01*w13*w22*w33 + 4096*w01*w13*w23*w33 + 4096*w02*w10*w22*w30 + 4096*w02*w10*w22*w31 + 4096*w02*w10*w22*w32 + 4096*4096*w02*w10*w22*w33 + 4096*w02*w10*w23*w33 + 4096*w02*w11*w21*w30 + 4096*w02*w11*w21*w31 + 4096*w02*w11*w21*w32 + 4096*4096*w02*w11*w21*w33 + 4096*4096*w02*w11*w22*w30 + 4096*4096*w02*w11*w22*w31 + 4096*4096*w02*w11*w22*w32 + 4096*4096*4096*w02*w11*w22*w33 + 4096*w02*w11*w23*w31 + 4096*4096*w02*w11*w23*w33 + 4096*w02*w12*w22*w30 + 4096*w02*w12*w22*w31 + 4096*w02*w12*w22*w32 + 4096*4096*w02*w12*w22*w33 + 4096*w02*w12*w23*w33 + 4096*w02*w13*w21*w33 + 4096*w02*w13*w22*w30 + 4096*w02*w13*w22*w32 + 4096*4096*w02*w13*w22*w33 + 4096*w02*w13*w23*w33 + 4096*w03*w10*w20*w33 + 4096*w03*w10*w21*w33 + 4096*w03*w10*w22*w32 + 4096*4096*w03*w10*w22*w33 + 4096*w03*w10*w23*w33 + 4096*w03*w11*w20*w31 + 4096*4096*w03*w11*w20*w33 + 4096*w03*w11*w21*w31 + 4096*w03*w11*w21*w32 + 4096*4096*w03*w11*w21*w33 + 4096*4096*w03*w11*w22*w31 + 4096*4096*w03*w11*w22*w32 + 4096*4096*4096*w03*w11*w22*w33 + 4096*w03*w11*w23*w31 + 4096*4096*w03*w11*w23*w33 + 4096*w03*w12*w20*w33 + 4096*w03*w12*w22*w31 + 4096*w03*w12*w22*w32 + 4096*4096*w03*w12*w22*w33 + 4096*w03*w12*w23*w33 + 4096*w03*w13*w20*w33 + 4096*w03*w13*w21*w33 + 4096*w03*w13*w22*w32 + 4096*4096*w03*w13*w22*w33 + 4096*w03*w13*w23*w33 := by
  have e : diagTo [[w00, w01, w02, w03], [w10, w11, w12, w13], [w20, w21, w22, w23], [w30, w31, w32, w33]] 4 = [[4096 * w00 + (w00 + (w01 + (w02 + (w03 + 0)))) - w00, -w01, -w02, -w03], [-w10, 4096 * w11 + (w10 + (w11 + (w12 + (w13 + 0)))) - w11, -w12, -w13], [-w20, -w21, 4096 * w22 + (w20 + (w21 + (w22 + (w23 + 0)))) - w22, -w23], [-w30, -w31, -w32, 4096 * w33 + (w30 + (w31 + (w32 + (w33 + 0)))) - w33]] := by rfl
  have d0 : 4096 * w00 + (w00 + (w01 + (w02 + (w03 + 0)))) - w00 = 4096 * w00 + (w01 + w02 + w03) := by omega
  have d1 : 4096 * w11 + (w10 + (w11 + (w12 + (w13 + 0)))) - w11 = 4096 * w11 + (w10 + w12 + w13) := by omega
  have d2 : 4096 * w22 + (w20 + (w21 + (w22 + (w23 + 0)))) - w22 = 4096 * w22 + (w20 + w21 + w23) := by omega
  have d3 : 4096 * w33 + (w30 + (w31 + (w32 + (w33 + 0)))) - w33 = 4096 * w33 + (w30 + w31 + w32) := by omega
  rw [e, d0, d1, d2, d3, det_form, det_forest 4096 w00 w01 w02 w03 w10 w11 w12 w13 w20 w21 w22 w23 w30 w31 w32 w33]
theorem four {r : List Int} (h : r.length = 4) : ∃ a b c d, r = [a, b, c, d] := by
  match r, h with
  | [a, b, c, d], _ => exact ⟨a, b, c, d, rfl⟩
theorem det_counts {ways : List (List Int)} (h : Bits ways) : worth 4 (diagTo ways 4) = valC (countsOf (namesOf (ways.map bitRow))) := by
  obtain ⟨h4, hr⟩ := h
  match ways, h4 with
  | [r0, r1, r2, r3], _ =>
    obtain ⟨w00, w01, w02, w03, rfl⟩ := four (hr r0 (by simp)).1
    obtain ⟨w10, w11, w12, w13, rfl⟩ := four (hr r1 (by simp)).1
    obtain ⟨w20, w21, w22, w23, rfl⟩ := four (hr r2 (by simp)).1
    obtain ⟨w30, w31, w32, w33, rfl⟩ := four (hr r3 (by simp)).1
    rw [val_counts, det_ways, names_forest fun r hr' => (hr r hr').2]
/-- what an escape writes and what the law says it writes hold the same letters -/
theorem same_letters : ∀ way, way < 5 → ∀ c ∈ pool, c ≠ 94 ∧ c ≠ 59 ∧ c ∉ spelled way 59 ∧ ∀ d ∈ allSigns, decide (c ∈ escaped way [d]) = decide (c ∈ spelled way d) := by decide +kernel
theorem in_spelled {way : Nat} {letters : List Nat} {cell : Int} {c : Nat} : c ∈ spelledAll way letters cell ↔ ∃ d ∈ members letters cell, c ∈ spelled way d := by
  unfold spelledAll
  rw [show L "" = [] by decide +kernel, joinL_nil_sep, List.mem_flatten]
  constructor
  · rintro ⟨l, h1, h2⟩
    obtain ⟨d, hd, rfl⟩ := List.mem_map.mp h1
    exact ⟨d, hd, h2⟩
  · rintro ⟨d, hd, h⟩
    exact ⟨_, List.mem_map.mpr ⟨d, hd, rfl⟩, h⟩
theorem bracket_same {way : Nat} (hw : way < 5) {letters : List Nat} (hl : letters.length = 4) (hp : ∀ c ∈ letters, c ∈ pool) (cell : Int) {c : Nat} (hc : c ∈ pool) :
    isIn [c] (inner (brOf way letters cell)) = isIn [c] (spelledAll way letters cell) := by
  obtain ⟨h94, h59, hs, hd⟩ := same_letters way hw c hc
  rw [isIn_one, isIn_one]
  apply decide_eq_decide.mpr
  rw [in_spelled, members_cons]
  unfold inner
  rw [List.mem_append]
  have e : c ∈ (brOf way letters cell).w ↔ ∃ d ∈ picks letters cell, c ∈ escaped way [d] := by
    show c ∈ escaped way (picks letters cell) ↔ _
    rw [escaped_flat, List.mem_flatMap]
  constructor
  · rintro (q | q)
    · split at q
      · rw [List.mem_singleton] at q; exact absurd q h94
      · cases q
    · rcases List.mem_cons.mp q with q | q
      · exact absurd q h59
      · obtain ⟨d, h1, h2⟩ := e.mp q
        have := decide_eq_decide.mp (hd d (picks_mem hl hp h1))
        exact ⟨d, List.mem_cons_of_mem _ h1, this.mp h2⟩
  · rintro ⟨d, h1, h2⟩
    rcases List.mem_cons.mp h1 with q | q
    · subst q; exact absurd h2 hs
    · have := decide_eq_decide.mp (hd d (picks_mem hl hp q))
      exact .inr (List.mem_cons_of_mem _ (e.mpr ⟨d, q, this.mpr h2⟩))
theorem inner_first (x : Br) : (sl (inner x) none (some 1) none == L "^") = x.b := by
  rw [sl_one, show L "^" = [94] by decide +kernel]
  unfold inner
  cases x.b <;> rfl
theorem taken_row {way : Nat} (hw : way < 5) {letters : List Nat} (hl : letters.length = 4) (hp : ∀ c ∈ letters, c ∈ pool) (cell : Int) :
    takenRow letters (inner (brOf way letters cell)) = bitRow (wayRow way letters cell) := by
  unfold takenRow bitRow
  apply List.filter_congr
  intro j hj
  have hj4 : j < letters.length := by rw [hl]; exact List.mem_range.mp hj
  have hc : letters.getD j 0 = letters[j] := by rw [List.getD_eq_getElem?_getD, List.getElem?_eq_getElem hj4]; rfl
  unfold inBracket
  rw [hc, inner_first, bracket_same hw hl hp cell (hp _ (List.getElem_mem hj4))]
  have hr : (wayRow way letters cell).getD j 0 = if (isIn [letters[j]] (spelledAll way letters cell) != (cell.fmod 2 == 1)) then 1 else 0 := by
    unfold wayRow
    rw [List.getD_eq_getElem?_getD, List.getElem?_map, List.getElem?_eq_getElem hj4]; rfl
  rw [hr]
  show (isIn [letters[j]] (spelledAll way letters cell) != (cell.fmod 2 == 1)) = _
  cases (isIn [letters[j]] (spelledAll way letters cell) != (cell.fmod 2 == 1)) <;> rfl
theorem taken_ways {way : Nat} (hw : way < 5) {letters : List Nat} (hl : letters.length = 4) (hp : ∀ c ∈ letters, c ∈ pool) (cells : List Int) :
    takenN way letters cells = (waysN way letters cells).map bitRow := by
  unfold takenN brsOf waysN
  rw [List.map_map, List.map_map, List.map_map]
  exact List.map_congr_left fun c _ => taken_row hw hl hp c
theorem the_law {way : Nat} (hw : way < 5) {letters : List Nat} (hl : letters.length = 4) (hp : ∀ c ∈ letters, c ∈ pool) {cells : List Int} (hc : cells.length = 4) :
    verdict way letters cells = true ∧ (feedAll (octetsOf (waysN way letters cells))).bits = 0 := by
  have hd := det_counts (waysN_bits way (letters := letters) (cells := cells) hl hc)
  rw [← taken_ways hw hl hp cells] at hd
  have hcl : (countsN way letters cells).length = 5 := countsOf_len _
  have hcb := countsN_ok way letters cells
  unfold verdict octetsOf
  have hd' : worth 4 (diagTo (waysN way letters cells) 4) = valC (countsN way letters cells) := hd
  rw [hd']
  generalize countsN way letters cells = cs at *
  match cs, hcl with
  | [a0, a1, a2, a3, a4], _ =>
    have h0 := hcb a0 (by simp)
    have h1 := hcb a1 (by simp)
    have h2 := hcb a2 (by simp)
    have h3 := hcb a3 (by simp)
    have h4 := hcb a4 (by simp)
    obtain ⟨c0, rfl⟩ := Int.eq_ofNat_of_zero_le h0.1
    obtain ⟨c1, rfl⟩ := Int.eq_ofNat_of_zero_le h1.1
    obtain ⟨c2, rfl⟩ := Int.eq_ofNat_of_zero_le h2.1
    obtain ⟨c3, rfl⟩ := Int.eq_ofNat_of_zero_le h3.1
    obtain ⟨c4, rfl⟩ := Int.eq_ofNat_of_zero_le h4.1
    have e : valC [(c0 : Int), c1, c2, c3, c4] = ((c0 + c1 * 4096 + c2 * 4096 ^ 2 + c3 * 4096 ^ 3 + c4 * 4096 ^ 4 : Nat) : Int) := by
      show (c0 : Int) + c1 * 4096 + c2 * 4096 ^ 2 + c3 * 4096 ^ 3 + c4 * 4096 ^ 4 = _
      omega
    rw [e]
    obtain ⟨d1, d2⟩ := digits (c0 := c0) (c1 := c1) (c2 := c2) (c3 := c3) (c4 := c4) (by omega) (by omega) (by omega) (by omega) (by omega)
    refine ⟨?_, d2⟩
    rw [d1]
    exact beq_self_eq_true _
end Mine
open PySem PySem.W PyProof.Rows
set_option Elab.async false
set_option linter.unusedVariables false
set_option maxRecDepth 100000
namespace Mine
theorem fd_get {K : Frag} {h : Heap} (X : K.In h) {a : Addr} (e : fdIs K a = true) : ∃ o, h.get? a = some o ∧ o.data = .func (fdOf K a) := by
  unfold fdIs at e
  unfold fdOf
  split at e
  · rename_i c d fd sl hk
    exact ⟨_, X _ _ hk, rfl⟩
  · cases e
theorem code_get {K : Frag} {h : Heap} {P : Addr} (X : K.In h) {fd : FuncData} (e : codeQ K P fd = true) : (hideAll h [P]).CodeRec fd.code fd.qualname := by
  unfold codeQ at e
  split at e
  · rename_i c hc
    rw [Bool.and_eq_true] at e
    obtain ⟨e1, e2⟩ := e
    have hne : c ≠ P := by simpa using e1
    split at e2
    · rename_i cl d vs sl hk
      split at e2
      · rename_i q t hq
        have hqq : q = fd.qualname := eq_of_beq e2
        exact ⟨c, _, vs, t, hc, hideAll_get _ (X _ _ hk) (by simpa using hne), rfl, by rw [hq, hqq]⟩
      · cases e2
    · cases e2
  · cases e
structure DefAt (K : Frag) (P : Addr) (pw : Program) (i : Nat) (x : Str) (a : Addr) : Prop where
  name : nsIn K mainGlobals x = some (some (.ref a))
  is : fdIs K a = true
  ne : (a != P) = true
  code : codeQ K P (fdOf K a) = true
  body : (fdOf K a).body = .stmts (fbody (nth pw i))
  clo : (fdOf K a).closure = []
  globals : (fdOf K a).globals = mainGlobals
  builtins : (fdOf K a).builtins = builtinsNs
  scope : (fdOf K a).scope = fscope (nth pw i)
theorem DefAt.isDef {K : Frag} {h : Heap} {P : Addr} {pw : Program} {i : Nat} {x : Str} {a : Addr} {W : Wo} (d : DefAt K P pw i x a) (X : K.In h) (hB : W.B = hideAll h [P]) : IsDef W a (fdOf K a) (fbody (nth pw i)) where
  get := by
    obtain ⟨o, h1, h2⟩ := fd_get X d.is
    rw [hB]
    exact ⟨o, hideAll_get _ h1 (by have := d.ne; simpa using this), h2⟩
  body := d.body
  code := by rw [hB]; exact code_get X d.code
  clo := d.clo
  globals := d.globals
  builtins := d.builtins
theorem DefAt.fn {K : Frag} {h : Heap} {P : Addr} {pw : Program} {i : Nat} {x : Str} {a : Addr} {W : Wo} {ps : List Str} (d : DefAt K P pw i x a) (X : K.In h) (hB : W.B = hideAll h [P]) (hg : h.Ns mainGlobals W.mg)
    (hb : ∀ vs : List Value, vs.length = ps.length → bindArgs (fdOf K a) ⟨vs, []⟩ = pure (ps.zip vs)) : Fn W pw i x ps :=
  ⟨a, fdOf K a, mg_of X hg d.name, d.isDef X hB, d.scope, hb⟩
theorem bind1 {fd : FuncData} {p : Str} (h : ∀ u, bindArgs fd ⟨[u], []⟩ = pure [(p, u)]) : ∀ vs : List Value, vs.length = [p].length → bindArgs fd ⟨vs, []⟩ = pure ([p].zip vs)
  | [], e => nomatch e
  | [u], _ => h u
  | _ :: _ :: _, e => nomatch e
theorem bind2 {fd : FuncData} {p q : Str} (h : ∀ u v, bindArgs fd ⟨[u, v], []⟩ = pure [(p, u), (q, v)]) : ∀ vs : List Value, vs.length = [p, q].length → bindArgs fd ⟨vs, []⟩ = pure ([p, q].zip vs)
  | [], e => nomatch e
  | [_], e => nomatch e
  | [u, v], _ => h u v
  | _ :: _ :: _ :: _, e => nomatch e
theorem bind3 {fd : FuncData} {p q r : Str} (h : ∀ u v w, bindArgs fd ⟨[u, v, w], []⟩ = pure [(p, u), (q, v), (r, w)]) : ∀ vs : List Value, vs.length = [p, q, r].length → bindArgs fd ⟨vs, []⟩ = pure ([p, q, r].zip vs)
  | [], e => nomatch e
  | [_], e => nomatch e
  | [_, _], e => nomatch e
  | [u, v, w], _ => h u v w
  | _ :: _ :: _ :: _ :: _, e => nomatch e
theorem ns_hide {h : Heap} {a P : Addr} {m : Str → Option Value} (x : h.Ns a m) (hne : a ≠ P) : (hideAll h [P]).Ns a m :=
  let ⟨o, es, ep, e, r⟩ := x; ⟨o, es, ep, hideAll_get _ e (by simpa using hne), r⟩
/-- the script, a list of ints of the base -/
theorem rds_of_ints {h : Heap} {hot : Addr → Prop} : ∀ {vs : List Value} {ns : List Int}, IntsAre vs ns → Rds h hot (ns.map V.int) vs
  | _, _, .nil => .nil
  | _, _, .cons n t r => .cons mk_int (rds_of_ints r)
theorem SliceOk.base {W : Wo} {a : Addr} {items : Array Value} {ns : List Int} {lo hi st : Option Int} (hB : W.B.IsList a items) (hi' : IntsAre items.toList ns) (h0 : st ≠ some 0) (hz : ns.length ≤ 16777216) :
    SliceOk W (.val (.ref a)) lo hi st (.list ((sl ns lo hi st).map V.int)) := by
  intro A hA s hot v₁ sa pl pu pt Q E hb al r1 hsa h1 h2 h3 k
  cases rd_val r1
  have hr : Rds s.heap hot (ns.map V.int) items.toList := rds_of_ints hi'
  have hsz : items.size = (ns.map V.int).length := by rw [← hr.length]; simp
  have hl : s.heap.IsList a items := let ⟨o, ho, r⟩ := hB; ⟨o, hb _ _ ho, r⟩
  refine ⟨"list", _, slot_list_getitem.lookup, hl.typeIs, @wpAny_getItem_list_slice _ _ _ _ _ _ _ _ _ _ _ _ _ _ _ hl ⟨_, hsa, rfl, rfl⟩ (isPart_of h1) (isPart_of h2) (isPart_of h3) h0 (k _ _ ⟨fun b o e => Heap.get?_push_of_some _ e, rfl, fun e => e⟩ ?_) (by rw [hsz, sizeLine_eq, List.length_map]; exact hz)⟩
  have up : Sub s.heap (s.heap.push { cls := .type "list", data := .seq (slicePick items lo hi st) }) := fun b o e => Heap.get?_push_of_some _ e
  rw [← sl_map]
  unfold Rd
  refine ⟨_, slicePick items lo hi st, rfl, newIsHot al, ⟨0, Heap.get?_push_size _ rfl⟩, (hr.sub up).picked hsz⟩
theorem pat_get {K : Frag} {h : Heap} {P R : Addr} (X : K.In h) (e : patIn K P R = true) : IsPat (hideAll h [P]) R := by
  unfold patIn at e
  rw [Bool.and_eq_true] at e
  obtain ⟨e0, e⟩ := e
  have hne : R ≠ P := by simpa using e0
  split at e
  · rename_i fs sl hk
    rw [Bool.and_eq_true, Bool.and_eq_true, Bool.and_eq_true] at e
    obtain ⟨⟨⟨ez, e1⟩, e2⟩, e3⟩ := e
    have hz : sl = #[] := Array.eq_empty_of_size_eq_zero (eq_of_beq ez)
    subst hz
    split at e3
    · rename_i C hC
      rw [Bool.and_eq_true] at e3
      obtain ⟨e4, e5⟩ := e3
      have hne2 : C ≠ P := by simpa using e4
      split at e5
      · rename_i cl d items n sl hk2
        exact ⟨fs, C, items, n, hideAll_get _ (X _ _ hk) (by simpa using hne), eq_of_beq e1, hC, eq_of_beq e2, ⟨_, hideAll_get _ (X _ _ hk2) (by simpa using hne2), rfl⟩, eq_of_beq e5⟩
      · cases e5
    · cases e3
  · cases e
end Mine
open PySem PySem.W PyProof.Rows
set_option Elab.async false
set_option linter.unusedVariables false
set_option maxRecDepth 100000
set_option maxHeartbeats 4000000
namespace Mine
theorem fdQ_is {K : Frag} {a : Addr} {fd : FuncData} (h : fdQ K a = some fd) : fdIs K a = true ∧ fdOf K a = fd := by
  cases hk : K.lookup a with
  | none => simp [fdQ, hk] at h
  | some o =>
    obtain ⟨c, d, data, sl⟩ := o
    cases data <;> simp_all [fdQ, fdIs, fdOf]
theorem Told.name {K : Frag} (T : Told K) {x : Str} {a : Addr} (k : Nat) (h : namesK[k]? = some (x, a)) : nsIn K mainGlobals x = some (some (.ref a)) := by
  have e : (namesK.map fun x => nsIn K mainGlobals x.1) = namesK.map fun x => some (some (.ref x.2)) := congrArg Prod.fst T
  have e2 := congrArg (·[k]?) e
  simp only [List.getElem?_map, h, Option.map_some] at e2
  exact Option.some.inj e2
theorem Told.free {K : Frag} (T : Told K) {x : Str} (k : Nat) (h : freeK[k]? = some x) : nsIn K mainGlobals x = some none := by
  have e : (freeK.map fun x => nsIn K mainGlobals x) = freeK.map fun _ => some none := congrArg (fun x => x.2.1) T
  have e2 := congrArg (·[k]?) e
  simp only [List.getElem?_map, h, Option.map_some] at e2
  exact Option.some.inj e2
theorem Told.letters {K : Frag} (T : Told K) : nsIn K mainGlobals "_B64" = some (some (.bytes b64L.toArray 545)) := congrArg (fun x => x.2.2.1) T
theorem Told.fdq {K : Frag} (T : Told K) {d : DefRow} (k : Nat) (h : defsK[k]? = some d) : fdQ K d.a = some (defData d) := by
  have e : (defsK.map fun d => fdQ K d.a) = defsK.map fun d => some (defData d) := congrArg (fun x => x.2.2.2.1) T
  have e2 := congrArg (·[k]?) e
  simp only [List.getElem?_map, h, Option.map_some] at e2
  exact Option.some.inj e2
theorem Told.fd {K : Frag} (T : Told K) {d : DefRow} (k : Nat) (h : defsK[k]? = some d) : fdOf K d.a = defData d := (fdQ_is (T.fdq k h)).2
theorem Told.flags {K : Frag} (T : Told K) : flagsK K = true := congrArg (fun x => x.2.2.2.2) T
theorem Told.defAt {K : Frag} (T : Told K) {i : Nat} {x : Str} {a : Addr} {c : Addr} {pm dV kV : Value} (k : Nat) (h : defsK[k]? = some ⟨a, i, c, pm, dV, kV⟩) (hn : namesK[k]? = some (x, a)) (hne : (a != 64) = true) : DefAt K 64 pw i x a := by
  have hf := T.flags
  unfold flagsK at hf
  simp only [Bool.and_eq_true] at hf
  obtain ⟨⟨⟨⟨h1, _⟩, _⟩, _⟩, _⟩ := hf
  have hc := List.all_eq_true.mp h1 _ (List.mem_of_getElem? h)
  obtain ⟨e1, e2⟩ := fdQ_is (T.fdq k h)
  refine ⟨T.name k hn, e1, hne, ?_, ?_, ?_, ?_, ?_, ?_⟩
  · show codeQ K 64 (fdOf K a) = true
    rw [show fdOf K a = _ from e2]; exact hc
  all_goals (rw [show fdOf K a = _ from e2]; rfl)
theorem g_translate {K : Frag} (T : Told K) : fdOf K 50 = defData ⟨50, 4, 49, .str (Str.ofString "cpy313.fnmatch") 289, .none, .none⟩ := T.fd (d := ⟨50, 4, 49, .str (Str.ofString "cpy313.fnmatch") 289, .none, .none⟩) 0 (by rfl)
theorem d_translate {K : Frag} (h : Told K) : DefAt K 64 pw 4 "translate" 50 := h.defAt 0 (by rfl) (by rfl) (by decide)
theorem g_tr {K : Frag} (T : Told K) : fdOf K 69 = defData ⟨69, 9, 68, .str (Str.ofString "cpy313.fnmatch") 493, .none, .none⟩ := T.fd (d := ⟨69, 9, 68, .str (Str.ofString "cpy313.fnmatch") 493, .none, .none⟩) 1 (by rfl)
theorem d_tr {K : Frag} (h : Told K) : DefAt K 64 pw 9 "_translate" 69 := h.defAt 1 (by rfl) (by rfl) (by decide)
theorem g_join {K : Frag} (T : Told K) : fdOf K 76 = defData ⟨76, 10, 75, .str (Str.ofString "cpy313.fnmatch") 493, .none, .none⟩ := T.fd (d := ⟨76, 10, 75, .str (Str.ofString "cpy313.fnmatch") 493, .none, .none⟩) 2 (by rfl)
theorem d_join {K : Frag} (h : Told K) : DefAt K 64 pw 10 "_join_translated_parts" 76 := h.defAt 2 (by rfl) (by rfl) (by decide)
theorem g_buffer {K : Frag} (T : Told K) : fdOf K 83 = defData ⟨83, 12, 82, .str (Str.ofString "binascii") 527, .none, .none⟩ := T.fd (d := ⟨83, 12, 82, .str (Str.ofString "binascii") 527, .none, .none⟩) 3 (by rfl)
theorem d_buffer {K : Frag} (h : Told K) : DefAt K 64 pw 12 "_buffer" 83 := h.defAt 3 (by rfl) (by rfl) (by decide)
theorem g_truth {K : Frag} (T : Told K) : fdOf K 90 = defData ⟨90, 13, 89, .str (Str.ofString "binascii") 527, .none, .none⟩ := T.fd (d := ⟨90, 13, 89, .str (Str.ofString "binascii") 527, .none, .none⟩) 4 (by rfl)
theorem d_truth {K : Frag} (h : Told K) : DefAt K 64 pw 13 "_truth" 90 := h.defAt 4 (by rfl) (by rfl) (by decide)
theorem g_b2a {K : Frag} (T : Told K) : fdOf K 98 = defData ⟨98, 15, 97, .str (Str.ofString "binascii") 527, .none, .ref 91⟩ := T.fd (d := ⟨98, 15, 97, .str (Str.ofString "binascii") 527, .none, .ref 91⟩) 5 (by rfl)
theorem d_b2a {K : Frag} (h : Told K) : DefAt K 64 pw 15 "b2a_base64" 98 := h.defAt 5 (by rfl) (by rfl) (by decide)
theorem g_b64 {K : Frag} (T : Told K) : fdOf K 106 = defData ⟨106, 17, 105, .str (Str.ofString "cpy313.base64") 561, .ref 99, .none⟩ := T.fd (d := ⟨106, 17, 105, .str (Str.ofString "cpy313.base64") 561, .ref 99, .none⟩) 6 (by rfl)
theorem d_b64 {K : Frag} (h : Told K) : DefAt K 64 pw 17 "b64encode" 106 := h.defAt 6 (by rfl) (by rfl) (by decide)
theorem g_e0 {K : Frag} (T : Told K) : fdOf K 120 = defData ⟨120, 20, 119, .str (Str.ofString "cpy313.xml.etree.ElementTree") 572, .none, .none⟩ := T.fd (d := ⟨120, 20, 119, .str (Str.ofString "cpy313.xml.etree.ElementTree") 572, .none, .none⟩) 7 (by rfl)
theorem d_e0 {K : Frag} (h : Told K) : DefAt K 64 pw 20 "_escape_cdata" 120 := h.defAt 7 (by rfl) (by rfl) (by decide)
theorem g_e2 {K : Frag} (T : Told K) : fdOf K 127 = defData ⟨127, 21, 126, .str (Str.ofString "cpy313.xml.etree.ElementTree") 572, .none, .none⟩ := T.fd (d := ⟨127, 21, 126, .str (Str.ofString "cpy313.xml.etree.ElementTree") 572, .none, .none⟩) 8 (by rfl)
theorem d_e2 {K : Frag} (h : Told K) : DefAt K 64 pw 21 "_escape_attrib" 127 := h.defAt 8 (by rfl) (by rfl) (by decide)
theorem g_e4 {K : Frag} (T : Told K) : fdOf K 134 = defData ⟨134, 22, 133, .str (Str.ofString "cpy313.xml.etree.ElementTree") 572, .none, .none⟩ := T.fd (d := ⟨134, 22, 133, .str (Str.ofString "cpy313.xml.etree.ElementTree") 572, .none, .none⟩) 9 (by rfl)
theorem d_e4 {K : Frag} (h : Told K) : DefAt K 64 pw 22 "_escape_attrib_html" 134 := h.defAt 9 (by rfl) (by rfl) (by decide)
theorem g_e1 {K : Frag} (T : Told K) : fdOf K 141 = defData ⟨141, 23, 140, .str (Str.ofString "cpy313.xml.etree.ElementTree") 572, .none, .none⟩ := T.fd (d := ⟨141, 23, 140, .str (Str.ofString "cpy313.xml.etree.ElementTree") 572, .none, .none⟩) 10 (by rfl)
theorem d_e1 {K : Frag} (h : Told K) : DefAt K 64 pw 23 "_escape_cdata_c14n" 141 := h.defAt 10 (by rfl) (by rfl) (by decide)
theorem g_e3 {K : Frag} (T : Told K) : fdOf K 148 = defData ⟨148, 24, 147, .str (Str.ofString "cpy313.xml.etree.ElementTree") 572, .none, .none⟩ := T.fd (d := ⟨148, 24, 147, .str (Str.ofString "cpy313.xml.etree.ElementTree") 572, .none, .none⟩) 11 (by rfl)
theorem d_e3 {K : Frag} (h : Told K) : DefAt K 64 pw 24 "_escape_attrib_c14n" 148 := h.defAt 11 (by rfl) (by rfl) (by decide)
theorem g_drawn {K : Frag} (T : Told K) : fdOf K 155 = defData ⟨155, 26, 154, .str (Str.ofString "law_kt0033_01") 616, .none, .none⟩ := T.fd (d := ⟨155, 26, 154, .str (Str.ofString "law_kt0033_01") 616, .none, .none⟩) 12 (by rfl)
theorem d_drawn {K : Frag} (h : Told K) : DefAt K 64 pw 26 "_law_drawn" 155 := h.defAt 12 (by rfl) (by rfl) (by decide)
theorem g_members {K : Frag} (T : Told K) : fdOf K 160 = defData ⟨160, 27, 159, .str (Str.ofString "law_kt0033_01") 616, .none, .none⟩ := T.fd (d := ⟨160, 27, 159, .str (Str.ofString "law_kt0033_01") 616, .none, .none⟩) 13 (by rfl)
theorem d_members {K : Frag} (h : Told K) : DefAt K 64 pw 27 "_law_members" 160 := h.defAt 13 (by rfl) (by rfl) (by decide)
theorem g_written {K : Frag} (T : Told K) : fdOf K 167 = defData ⟨167, 28, 166, .str (Str.ofString "law_kt0033_01") 616, .none, .none⟩ := T.fd (d := ⟨167, 28, 166, .str (Str.ofString "law_kt0033_01") 616, .none, .none⟩) 14 (by rfl)
theorem d_written {K : Frag} (h : Told K) : DefAt K 64 pw 28 "_law_written" 167 := h.defAt 14 (by rfl) (by rfl) (by decide)
theorem g_spelled {K : Frag} (T : Told K) : fdOf K 172 = defData ⟨172, 29, 171, .str (Str.ofString "law_kt0033_01") 616, .none, .none⟩ := T.fd (d := ⟨172, 29, 171, .str (Str.ofString "law_kt0033_01") 616, .none, .none⟩) 15 (by rfl)
theorem d_spelled {K : Frag} (h : Told K) : DefAt K 64 pw 29 "_law_spelled" 172 := h.defAt 15 (by rfl) (by rfl) (by decide)
theorem g_ways {K : Frag} (T : Told K) : fdOf K 177 = defData ⟨177, 30, 176, .str (Str.ofString "law_kt0033_01") 616, .none, .none⟩ := T.fd (d := ⟨177, 30, 176, .str (Str.ofString "law_kt0033_01") 616, .none, .none⟩) 16 (by rfl)
theorem d_ways {K : Frag} (h : Told K) : DefAt K 64 pw 30 "_law_ways" 177 := h.defAt 16 (by rfl) (by rfl) (by decide)
theorem g_worth {K : Frag} (T : Told K) : fdOf K 182 = defData ⟨182, 31, 181, .str (Str.ofString "law_kt0033_01") 616, .none, .none⟩ := T.fd (d := ⟨182, 31, 181, .str (Str.ofString "law_kt0033_01") 616, .none, .none⟩) 17 (by rfl)
theorem d_worth {K : Frag} (h : Told K) : DefAt K 64 pw 31 "_law_worth" 182 := h.defAt 17 (by rfl) (by rfl) (by decide)
theorem g_octets {K : Frag} (T : Told K) : fdOf K 187 = defData ⟨187, 32, 186, .str (Str.ofString "law_kt0033_01") 616, .none, .none⟩ := T.fd (d := ⟨187, 32, 186, .str (Str.ofString "law_kt0033_01") 616, .none, .none⟩) 18 (by rfl)
theorem d_octets {K : Frag} (h : Told K) : DefAt K 64 pw 32 "_law_octets" 187 := h.defAt 18 (by rfl) (by rfl) (by decide)
theorem g_taken {K : Frag} (T : Told K) : fdOf K 192 = defData ⟨192, 33, 191, .str (Str.ofString "law_kt0033_01") 616, .none, .none⟩ := T.fd (d := ⟨192, 33, 191, .str (Str.ofString "law_kt0033_01") 616, .none, .none⟩) 19 (by rfl)
theorem d_taken {K : Frag} (h : Told K) : DefAt K 64 pw 33 "_law_taken" 192 := h.defAt 19 (by rfl) (by rfl) (by decide)
theorem g_counts {K : Frag} (T : Told K) : fdOf K 197 = defData ⟨197, 34, 196, .str (Str.ofString "law_kt0033_01") 616, .none, .none⟩ := T.fd (d := ⟨197, 34, 196, .str (Str.ofString "law_kt0033_01") 616, .none, .none⟩) 20 (by rfl)
theorem d_counts {K : Frag} (h : Told K) : DefAt K 64 pw 34 "_law_counts" 197 := h.defAt 20 (by rfl) (by rfl) (by decide)
theorem g_law {K : Frag} (T : Told K) : fdOf K 202 = defData ⟨202, 35, 201, .str (Str.ofString "law_kt0033_01") 616, .none, .none⟩ := T.fd (d := ⟨202, 35, 201, .str (Str.ofString "law_kt0033_01") 616, .none, .none⟩) 21 (by rfl)
theorem d_law {K : Frag} (h : Told K) : DefAt K 64 pw 35 "law" 202 := h.defAt 21 (by rfl) (by rfl) (by decide)
theorem f_join {W : Wo} {h : Heap} {K : Frag} (T : Told K) (X : K.In h) (hB : W.B = hideAll h [64]) (hg : h.Ns mainGlobals W.mg) : Fn W pw 10 "_join_translated_parts" ["inp", "STAR"] := (d_join T).fn X hB hg (bind2 fun _ _ => by rw [g_join T]; kernel_rfl)
theorem f_buffer {W : Wo} {h : Heap} {K : Frag} (T : Told K) (X : K.In h) (hB : W.B = hideAll h [64]) (hg : h.Ns mainGlobals W.mg) : Fn W pw 12 "_buffer" ["data"] := (d_buffer T).fn X hB hg (bind1 fun _ => by rw [g_buffer T]; kernel_rfl)
theorem f_truth {W : Wo} {h : Heap} {K : Frag} (T : Told K) (X : K.In h) (hB : W.B = hideAll h [64]) (hg : h.Ns mainGlobals W.mg) : Fn W pw 13 "_truth" ["x"] := (d_truth T).fn X hB hg (bind1 fun _ => by rw [g_truth T]; kernel_rfl)
theorem f_e0 {W : Wo} {h : Heap} {K : Frag} (T : Told K) (X : K.In h) (hB : W.B = hideAll h [64]) (hg : h.Ns mainGlobals W.mg) : Fn W pw 20 "_escape_cdata" ["text"] := (d_e0 T).fn X hB hg (bind1 fun _ => by rw [g_e0 T]; kernel_rfl)
theorem f_e2 {W : Wo} {h : Heap} {K : Frag} (T : Told K) (X : K.In h) (hB : W.B = hideAll h [64]) (hg : h.Ns mainGlobals W.mg) : Fn W pw 21 "_escape_attrib" ["text"] := (d_e2 T).fn X hB hg (bind1 fun _ => by rw [g_e2 T]; kernel_rfl)
theorem f_e4 {W : Wo} {h : Heap} {K : Frag} (T : Told K) (X : K.In h) (hB : W.B = hideAll h [64]) (hg : h.Ns mainGlobals W.mg) : Fn W pw 22 "_escape_attrib_html" ["text"] := (d_e4 T).fn X hB hg (bind1 fun _ => by rw [g_e4 T]; kernel_rfl)
theorem f_e1 {W : Wo} {h : Heap} {K : Frag} (T : Told K) (X : K.In h) (hB : W.B = hideAll h [64]) (hg : h.Ns mainGlobals W.mg) : Fn W pw 23 "_escape_cdata_c14n" ["text"] := (d_e1 T).fn X hB hg (bind1 fun _ => by rw [g_e1 T]; kernel_rfl)
theorem f_e3 {W : Wo} {h : Heap} {K : Frag} (T : Told K) (X : K.In h) (hB : W.B = hideAll h [64]) (hg : h.Ns mainGlobals W.mg) : Fn W pw 24 "_escape_attrib_c14n" ["text"] := (d_e3 T).fn X hB hg (bind1 fun _ => by rw [g_e3 T]; kernel_rfl)
theorem f_drawn {W : Wo} {h : Heap} {K : Frag} (T : Told K) (X : K.In h) (hB : W.B = hideAll h [64]) (hg : h.Ns mainGlobals W.mg) : Fn W pw 26 "_law_drawn" ["script"] := (d_drawn T).fn X hB hg (bind1 fun _ => by rw [g_drawn T]; kernel_rfl)
theorem f_members {W : Wo} {h : Heap} {K : Frag} (T : Told K) (X : K.In h) (hB : W.B = hideAll h [64]) (hg : h.Ns mainGlobals W.mg) : Fn W pw 27 "_law_members" ["letters", "cell"] := (d_members T).fn X hB hg (bind2 fun _ _ => by rw [g_members T]; kernel_rfl)
theorem f_written {W : Wo} {h : Heap} {K : Frag} (T : Told K) (X : K.In h) (hB : W.B = hideAll h [64]) (hg : h.Ns mainGlobals W.mg) : Fn W pw 28 "_law_written" ["way", "text"] := (d_written T).fn X hB hg (bind2 fun _ _ => by rw [g_written T]; kernel_rfl)
theorem f_spelled {W : Wo} {h : Heap} {K : Frag} (T : Told K) (X : K.In h) (hB : W.B = hideAll h [64]) (hg : h.Ns mainGlobals W.mg) : Fn W pw 29 "_law_spelled" ["way", "sign"] := (d_spelled T).fn X hB hg (bind2 fun _ _ => by rw [g_spelled T]; kernel_rfl)
theorem f_ways {W : Wo} {h : Heap} {K : Frag} (T : Told K) (X : K.In h) (hB : W.B = hideAll h [64]) (hg : h.Ns mainGlobals W.mg) : Fn W pw 30 "_law_ways" ["way", "letters", "cells"] := (d_ways T).fn X hB hg (bind3 fun _ _ _ => by rw [g_ways T]; kernel_rfl)
theorem f_worth {W : Wo} {h : Heap} {K : Frag} (T : Told K) (X : K.In h) (hB : W.B = hideAll h [64]) (hg : h.Ns mainGlobals W.mg) : Fn W pw 31 "_law_worth" ["table"] := (d_worth T).fn X hB hg (bind1 fun _ => by rw [g_worth T]; kernel_rfl)
theorem f_octets {W : Wo} {h : Heap} {K : Frag} (T : Told K) (X : K.In h) (hB : W.B = hideAll h [64]) (hg : h.Ns mainGlobals W.mg) : Fn W pw 32 "_law_octets" ["ways"] := (d_octets T).fn X hB hg (bind1 fun _ => by rw [g_octets T]; kernel_rfl)
theorem f_taken {W : Wo} {h : Heap} {K : Frag} (T : Told K) (X : K.In h) (hB : W.B = hideAll h [64]) (hg : h.Ns mainGlobals W.mg) : Fn W pw 33 "_law_taken" ["expression", "letters"] := (d_taken T).fn X hB hg (bind2 fun _ _ => by rw [g_taken T]; kernel_rfl)
theorem f_counts {W : Wo} {h : Heap} {K : Frag} (T : Told K) (X : K.In h) (hB : W.B = hideAll h [64]) (hg : h.Ns mainGlobals W.mg) : Fn W pw 34 "_law_counts" ["taken"] := (d_counts T).fn X hB hg (bind1 fun _ => by rw [g_counts T]; kernel_rfl)
end Mine
open PySem PySem.W PyProof.Rows
set_option Elab.async false
set_option linter.unusedVariables false
set_option maxRecDepth 100000
set_option maxHeartbeats 4000000
namespace Mine
section
variable {W : Wo} {h : Heap} {K : Frag}
theorem f_b2a (T : Told K) (X : K.In h) (hB : W.B = hideAll h [64]) (hg : h.Ns mainGlobals W.mg) : FnKw W pw 15 "b2a_base64" "data" "newline" :=
  ⟨98, fdOf K 98, mg_of X hg (d_b2a T).name, (d_b2a T).isDef X hB, (d_b2a T).scope, fun s hs u v => .of_eq (by rw [g_b2a T]; kernel_rfl)⟩
theorem tup_get (T : Told K) (X : K.In h) : ∃ o items n, h.get? 99 = some o ∧ o.data = .seq items n ∧ items = #[.none] := by
  have hf := T.flags
  unfold flagsK at hf
  simp only [Bool.and_eq_true] at hf
  obtain ⟨_, h5⟩ := hf
  split at h5
  · rename_i c d vs n sl hk
    refine ⟨_, vs, n, X _ _ hk, rfl, ?_⟩
    rw [Bool.and_eq_true] at h5
    obtain ⟨h6, h7⟩ := h5
    have hz : vs.size = 1 := eq_of_beq h6
    split at h7
    · rename_i h8
      apply Array.ext (by rw [hz]; rfl)
      intro i h1 h2
      have hi : i = 0 := by omega
      subst hi
      rw [Array.getElem?_eq_getElem h1] at h8
      exact Option.some.inj h8
    · cases h7
  · cases h5
theorem dflt_bind {fd : FuncData} (hp : fd.params = fparams (nth pw 17)) (hk : fd.kwdefaults = .none) (u : Value) : ∃ k, bindArgs fd ⟨[u], []⟩ = (seqItems? fd.defaults >>= k) ∧ k (some #[.none]) = pure (([("s", u), ("altchars", .none)] : List (Str × Value))) := by
  have e : fd = { fd with params := fparams (nth pw 17), kwdefaults := .none } := by rw [← hp, ← hk]
  rw [e]
  exact ⟨_, rfl, by kernel_rfl⟩
theorem f_b64 (T : Told K) (X : K.In h) (hB : W.B = hideAll h [64]) (hg : h.Ns mainGlobals W.mg) : FnDf W pw 17 "b64encode" ["s", "altchars"] 1 [.none] :=
  ⟨106, fdOf K 106, mg_of X hg (d_b64 T).name, (d_b64 T).isDef X hB, (d_b64 T).scope, fun s hs vs hvs => by
    match vs, hvs with
    | [u], _ =>
      obtain ⟨o, items, m, e1, e2, e3⟩ := tup_get T X
      subst e3
      obtain ⟨k, k1, k2⟩ := dflt_bind (fd := fdOf K 106) (by rw [g_b64 T]; rfl) (by rw [g_b64 T]; rfl) u
      exact BindsTo.of_defaults (T := 99) (k := k) (by rw [g_b64 T]; rfl) (hs _ _ (by rw [hB]; exact hideAll_get _ e1 (by decide))) e2 k1 k2⟩
def tc : TC := ⟨true, 68, 64, "_translate.<locals>.", lamPos⟩
theorem f_tr (T : Told K) (X : K.In h) (hB : W.B = hideAll h [64]) (hg : h.Ns mainGlobals W.mg) : FnT W tc pw 9 "_translate" ["pat", "STAR", "QUESTION_MARK"] :=
  ⟨69, fdOf K 69, mg_of X hg (d_tr T).name, (d_tr T).isDef X hB, (d_tr T).scope, bind3 fun _ _ _ => by rw [g_tr T]; kernel_rfl, fun _ => ⟨by rw [g_tr T]; rfl, by rw [g_tr T]; kernel_rfl⟩⟩
theorem f_translate (T : Told K) (X : K.In h) (hB : W.B = hideAll h [64]) (hg : h.Ns mainGlobals W.mg) : FnT W tc.away pw 4 "translate" ["pat"] :=
  ⟨50, fdOf K 50, mg_of X hg (d_translate T).name, (d_translate T).isDef X hB, (d_translate T).scope, bind1 fun _ => by rw [g_translate T]; kernel_rfl, fun q => by cases q⟩
theorem Told.pat (T : Told K) : patIn K 64 43 = true := by
  have hf := T.flags
  unfold flagsK at hf
  simp only [Bool.and_eq_true] at hf
  exact hf.1.1.1.2
theorem Told.code (T : Told K) : codeHdIn K 68 64 = true := by
  have hf := T.flags
  unfold flagsK at hf
  simp only [Bool.and_eq_true] at hf
  exact hf.1.1.2
theorem Told.tab (T : Told K) (X : K.In h) : h.get? 64 = some (tabObj #[]) := by
  have hf := T.flags
  unfold flagsK at hf
  simp only [Bool.and_eq_true] at hf
  have h4 := hf.1.2
  split at h4
  · rename_i vs sl hk
    rw [Bool.and_eq_true] at h4
    have h1 : vs = #[] := Array.eq_empty_of_size_eq_zero (eq_of_beq h4.1)
    have h2 : sl = #[] := Array.eq_empty_of_size_eq_zero (eq_of_beq h4.2)
    subst h1; subst h2
    exact X _ _ hk
  · cases h4
theorem hd_of {c P : Addr} (x : CodeHd h c P) : CodeHd (hideAll h [P]) c P := by
  obtain ⟨o, vs, file, tf, flags, tg, inF, text, tt, e, r1, r2, r3, r4, r5, r6, r7, r8, ne⟩ := x
  exact ⟨o, vs, file, tf, flags, tg, inF, text, tt, hideAll_get _ e (by simpa using ne), r1, r2, r3, r4, r5, r6, r7, r8, ne⟩
/-- what the claim's world is -/
def woOf (prog : Program) (w : World) (h : Heap) (mg mb : Str → Option Value) (hg : h.Ns mainGlobals mg) (hb : h.Ns builtinsNs mb) (hbt : ∀ x : Str, x ≠ "__name__" → mb x = bootBuiltins x) (hnl : h.NoLimit) : Wo :=
  { prog := prog, w := w, B := hideAll h [64], mg := mg, mb := mb, hg := ns_hide hg (by decide), hb := ns_hide hb (by decide), hbt := hbt, hnl := let ⟨mc, a, b⟩ := hnl; ⟨mc, ns_hide a (by decide), b⟩ }
abbrev BmOk (mg : Str → Option Value) (h : Heap) : Prop := ∃ bm ob, mg "__builtins__" = some (.ref bm) ∧ bm ≠ builtinsNs ∧ h.get? bm = some ob ∧ ob.cls = .type "module" ∧ ob.dict = some builtinsNs ∧ ob.data = .plain
theorem gb_of (T : Told K) (X : K.In h) (hB : W.B = hideAll h [64]) (hg : h.Ns mainGlobals W.mg) (hbm : BmOk W.mg h) : GB W tc 43 where
  range := mg_none_of X hg (T.free 0 rfl)
  len := mg_none_of X hg (T.free 1 rfl)
  e0 := f_e0 T X hB hg
  e1 := f_e1 T X hB hg
  e2 := f_e2 T X hB hg
  e3 := f_e3 T X hB hg
  e4 := f_e4 T X hB hg
  members := f_members T X hB hg
  spelled := f_spelled T X hB hg
  worth := f_worth T X hB hg
  buffer := f_buffer T X hB hg
  truth := f_truth T X hB hg
  b2a := f_b2a T X hB hg
  b64 := f_b64 T X hB hg
  letters := ⟨_, mg_of X hg T.letters⟩
  type := mg_none_of X hg (T.free 2 rfl)
  bytes := mg_none_of X hg (T.free 3 rfl)
  bool := mg_none_of X hg (T.free 4 rfl)
  tb := by
    refine ⟨?_, ?_⟩
    · rw [hB]; exact hd_of (codeHd_of_K X T.code)
    · obtain ⟨bm, ob, b1, b2, b3, b4, b5, b6⟩ := hbm
      have hbP : bm ≠ 64 := fun q => by rw [q, T.tab X] at b3; cases b3; cases b4
      have hbG : bm ≠ mainGlobals := fun q => by
        obtain ⟨o, es, ep, e, hd', _⟩ := hg
        rw [q, e] at b3; cases b3; rw [hd'] at b6; cases b6
      refine ⟨bm, ob, b1, b2, hbG, hbP, ?_, b4, b5, b6⟩
      rw [hB]; exact hideAll_get _ b3 (by simpa using hbP)
  tpos := rfl
  here := rfl
  re := mg_of X hg (T.name (x := "_twin_re_1") 22 rfl)
  isPat := by rw [hB]; exact pat_get X T.pat
  object := mg_none_of X hg (T.free 5 rfl)
  join := f_join T X hB hg
  tr := f_tr T X hB hg
  sum := mg_none_of X hg (T.free 6 rfl)
  enum := mg_none_of X hg (T.free 7 rfl)
  drawn := f_drawn T X hB hg
  written := f_written T X hB hg
  ways := f_ways T X hB hg
  octets := f_octets T X hB hg
  taken := f_taken T X hB hg
  counts := f_counts T X hB hg
  translate := f_translate T X hB hg
theorem oldK_of {s s' : Shared} (T : Told K) (X : K.In s.heap) (g : GrowT tc.away s s') (ok : TabOk tc.away s'.heap (· = 64)) : OldK s.heap s'.heap := by
  have hT := T.tab X
  obtain ⟨ps, e2, _⟩ := ok
  have e3 : s'.heap.get? 64 = some (tabObj ps) := e2
  refine ⟨fun b o e => ?_, fun b o e => ?_⟩
  · by_cases q : b = 64
    · subst q
      rw [hT] at e
      cases e
      refine .inr (.inl ⟨?_, rfl, #[], ps, rfl, ?_⟩)
      · obtain ⟨o, vs, file, tf, flags, tg, inF, text, tt, e, r1, r2, r3, _⟩ := codeHd_of_K X T.code
        exact ⟨68, o, vs, e, r1, r2, r3⟩
      · rw [e3]; simp [tabObj]
    · exact .inl (g.sub b o q e)
  · by_cases q : b = 64
    · subst q
      exact ⟨_, e3⟩
    · exact ⟨o, g.sub b o q e⟩
end
theorem final {prog : Program} {w : World} {s₁ : Shared} {K : Frag} {mg mb : Str → Option Value} {fa l : Addr} {items : Array Value} {ns : List Int} {Q E : Value → Shared → Prop} (T : Told K) (X : K.In s₁.heap)
    (hg : s₁.heap.Ns mainGlobals mg) (hb : s₁.heap.Ns builtinsNs mb) (hbt : ∀ x : Str, x ≠ "__name__" → mb x = bootBuiltins x) (hnl : s₁.heap.NoLimit) (hbm : BmOk mg s₁.heap)
    (hmg : mg "law" = some (.ref fa)) (hL : s₁.heap.IsList l items) (hI : IntsAre items.toList ns) (hn : ns.length ≤ 63) (k : ∀ s', GrowT tc.away s₁ s' → TabOk tc.away s'.heap (· = 64) → Q (.bool true) s') :
    wpAny (model prog w) callerA (call (.ref fa) [.ref l]) Q E s₁ := by
  have e := mg_of X hg (d_law T).name
  rw [e] at hmg
  cases hmg
  have hT := T.tab X
  have hW : ∃ W : Wo, W.prog = prog ∧ W.w = w ∧ W.B = hideAll s₁.heap [64] ∧ W.mg = mg := ⟨woOf prog w s₁.heap mg mb hg hb hbt hnl, rfl, rfl, rfl, rfl⟩
  obtain ⟨W, rfl, rfl, hB, rfl⟩ := hW
  have G := gb_of T X hB hg hbm
  have hne : l ≠ 64 := fun q => by
    obtain ⟨o, ho, hc, _⟩ := hL
    rw [q, hT] at ho; cases ho; cases hc
  have hBL : W.B.IsList l items := by
    obtain ⟨o, ho, r⟩ := hL
    rw [hB]
    exact ⟨o, hideAll_get _ ho (by simpa using hne), r⟩
  have hsd := SliceOk.base (W := W) (lo := none) (hi := some 60) (st := none) hBL hI (by decide) (by omega)
  obtain ⟨v1, v2⟩ := the_law (wayN_lt ns) (drawn_len ns) (drawn_pool ns) (cellsN_len ns)
  have run := law_main (n := 0) G (by omega : ns.length ≤ 1000) hsd v2
  rw [v1] at run
  have hsub : Sub W.B s₁.heap := fun b o e => by rw [hB] at e; exact of_hideAll _ e
  have hrs : Rds s₁.heap (· = 64) [V.val (.ref l)] [Value.ref l] := .cons mk_val .nil
  refine wpAny_call (code_fnT (T := tc.away) (T' := tc.away) (n := 8) (c := .bool true) (ls := ["way", "letters", "cells", "pattern", "expression", "counts", "signs", "due"]) (ps := ["script"]) (hot := (· = 64)) rfl rfl rfl (fun q => by cases q) ((d_law T).isDef X hB) ?_ rfl ?_ ⟨rfl, by decide, by decide⟩ hsub (by rw [hB]; exact hideAll_none _ (by simp [tc, TC.away])) rfl ?_ ⟨#[], hT, .inl rfl⟩ hrs (.of_eq ?_) fun v s' g ok r => ?_)
  · rw [(d_law T).scope]; decide +kernel
  · rw [(d_law T).scope]; exact run
  · rintro a rfl; exact ⟨_, hT⟩
  · rw [g_law T]; kernel_rfl
  · cases rd_bool r
    exact k s' g ok
end Mine
open PySem PySem.W PyProof.Rows
set_option Elab.async false
set_option linter.unusedVariables false
set_option maxRecDepth 1000000
set_option maxHeartbeats 8000000
namespace Mine
theorem t : PySem.Challenge.rw_kt0033_01.Holds := by
  w_on
  refine holds_law said fun said' => ?_
  refine holds_open (q := viewP) (loose := looseN) (Xt := xt) (XP := XL viewP []) (Yf := hook.obs) (Ya := hook.val) (YP := hook.says) (N := 5000) left hook.of hook.keeps (fun s e => xl_of s (Bool.and_eq_true_iff.mp e).1) XL.keeps (by rfl) (by rfl) (by rfl) (fun s e => recFacts_of (Bool.and_eq_true_iff.mp e).2) (by rfl) said' fits ⟨rfl, rfl, rfl, rfl, rfl, by decide +kernel⟩ ⟨[.list []], by decide +kernel, by decide +kernel⟩ ?_
  intro w s₀ s₁ mg mb G Y fa o pm cd doc dV kV ho hd hcd hD hmg hg args vals as hpre hlay hrd hwl hlo
  obtain ⟨K, X, TK⟩ := Y
  refine Ground.open G ?_
  intro T B D TE TW
  clear hd hcd hD ho
  wrow_args hpre hlay hrd hwl hlo
  rename_i l items _ hL _ _ _ hI _ hn _
  refine final TK X T.g T.b T.builtins T.nolimit T.bmain hmg hL (by rw [List.toList_toArray]; exact hI) (by omega) fun s' g ok => ?_
  refine ⟨.inl ⟨_, .bool true, [], rfl, fun _ => rfl, .bool _, ?_, fun _ => ⟨List.nodup_nil, fun a ha => nomatch ha⟩⟩, ?_, g.os, g.gens (AllBare.of_eq hg)⟩
  · first | kernel_rfl | wrow_post
  · exact oldK_of TK X g ok
end Mine

theorem PySem.Challenge.cw_kt0033_01_holds : PySem.Challenge.rw_kt0033_01.Holds :=
  Mine.t
