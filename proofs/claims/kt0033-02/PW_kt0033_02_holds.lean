import PyProof.Rows.All
import Wide.All
import OpenK.AllK
import Wide.FinOn
import KE.KFromBytes
import KE.KBytesWalk
import PyProof.WalkInts
import PySem.Challenge.RW_kt0033_02
set_option maxHeartbeats 8000000
open PySem PySem.W PyProof.Rows
set_option Elab.async false
set_option linter.unusedVariables false
set_option maxRecDepth 1000000
set_option tactic.hygienic false
set_option compiler.extract_closed false
namespace Mine.Internal
noncomputable def L (s:String):List Nat:=(Str.ofString s).cps.toList
noncomputable def b64L:List UInt8:=(L "ABCDEFGHIJKLMNOPQRSTUVWXYZabcdefghijklmnopqrstuvwxyz0123456789+/").map (·.toUInt8)
noncomputable def fbody:Stmt→List Stmt
  | .FunctionDef _ _ body _ _ _ _ _ _ _=>body
  | _=>[]
noncomputable def fQ:Stmt→Scope
  | .FunctionDef _ _ _ _ _ _ scope _ _ _=>scope
  | _=>default
noncomputable def nth (p:Program) (i:Nat):Stmt:=(p.main.body[i]?).getD default
noncomputable def rCQ:Array Nat:=#[14,14,4,1,1,9,0,64,0,1342177280,0,0,0,0,0,17,0,13,11,9,0,64,0,1342177280,0,0,0,0,0,17,1,1]
noncomputable def fdOf (K:Frag) (a:Addr):FuncData:=match K.lookup a with
  | some ⟨_,_,.func fd,_⟩=>fd
  | _=>Calls.docDef "" { posonlyargs:=[],args:=[],vararg:=none,kwonlyargs:=[],kw_defaults:=[],kwarg:=none,defaults:=[] } [] default .none .none .none
noncomputable def fdIs (K:Frag) (a:Addr):Bool:=match K.lookup a with
  | some ⟨_,_,.func _,_⟩=>true
  | _=>false
noncomputable def codeQ (K:Frag) (P:Addr) (fd:FuncData):Bool:=match fd.code with
  | .ref c=>c != P && (match K.lookup c with
    | some ⟨_,_,.fields vs,_⟩=>(match (vs[1]? : Option Value) with
      | some (.str q _)=>q == fd.qualname
      | _=>false)
    | _=>false)
  | _=>false
open PySem.Builtin.Re in
noncomputable def patIn (K:Frag) (P R:Addr):Bool:=R != P && (match K.lookup R with
  | some ⟨.type "re.Pattern",none,.fields fs,sl⟩=>sl.size == 0 && reRawNat (fs.getD 2 .none) == 1 && reRawNat (fs.getD 6 .none) == 0 && (match fs.getD 5 .none with
    | .ref C=>C != P && (match K.lookup C with
      | some ⟨_,_,.seq items _,_⟩=>(items.map reRawOf).map (·.toNat) == rCQ
      | _=>false)
    | _=>false)
  | _=>false)
noncomputable abbrev pw:=PySem.Challenge.pw_kt0033_02
noncomputable def looseN:List Str:=["_sre","_wall","_twin_re_1","translate","_special_chars_map","escape","_translate","_join_translated_parts","_buffer","_truth","_B64","b2a_base64","b64encode","_raise_serialization_error","_escape_cdata","_escape_attrib","_escape_attrib_html","_escape_cdata_c14n","_escape_attrib_c14n","_law_drawn","_law_figures","_law_bracket","_law_written","_law_spelled","_law_takes","_law_taken","_law_orders","_law_worth","_law_counted"]
noncomputable def viewP:Program:={ pw with main:={ pw.main with body:=[nth pw 36] } }
noncomputable def asK:List Addr:=[3,42,43,49,50,64,68,69,75,76,82,83,89,90,97,98,99,105,106,119,120,126,127,133,134,140,141,147,148,152,153,157,158,162,163,169,170,174,175,179,180,184,185,189,190,194,195,199,200,204,205]
noncomputable def namesK:List (Str × Addr):=[("translate",50),("_translate",69),("_join_translated_parts",76),("_buffer",83),("_truth",90),("b2a_base64",98),("b64encode",106),("_escape_cdata",120),("_escape_attrib",127),("_escape_attrib_html",134),("_escape_cdata_c14n",141),("_escape_attrib_c14n",148),("_law_drawn",153),("_law_figures",158),("_law_bracket",163),("_law_written",170),("_law_spelled",175),("_law_takes",180),("_law_taken",185),("_law_orders",190),("_law_worth",195),("_law_counted",200),("law",205),("_twin_re_1",43)]
noncomputable def freeK:List Str:=["range","len","type","bytes","bool","chr","enumerate","object","sorted"]
structure DefRow where
  a:Addr
  i:Nat
  c:Addr
  pm:Value
  dV:Value
  kV:Value
noncomputable def defsK:List DefRow:=[⟨50,4,49,.str (Str.ofString "cpy313.fnmatch") 289,.none,.none⟩,
  ⟨69,9,68,.str (Str.ofString "cpy313.fnmatch") 493,.none,.none⟩,
  ⟨76,10,75,.str (Str.ofString "cpy313.fnmatch") 493,.none,.none⟩,
  ⟨83,12,82,.str (Str.ofString "binascii") 527,.none,.none⟩,
  ⟨90,13,89,.str (Str.ofString "binascii") 527,.none,.none⟩,
  ⟨98,15,97,.str (Str.ofString "binascii") 527,.none,.ref 91⟩,
  ⟨106,17,105,.str (Str.ofString "cpy313.base64") 561,.ref 99,.none⟩,
  ⟨120,20,119,.str (Str.ofString "cpy313.xml.etree.ElementTree") 572,.none,.none⟩,
  ⟨127,21,126,.str (Str.ofString "cpy313.xml.etree.ElementTree") 572,.none,.none⟩,
  ⟨134,22,133,.str (Str.ofString "cpy313.xml.etree.ElementTree") 572,.none,.none⟩,
  ⟨141,23,140,.str (Str.ofString "cpy313.xml.etree.ElementTree") 572,.none,.none⟩,
  ⟨148,24,147,.str (Str.ofString "cpy313.xml.etree.ElementTree") 572,.none,.none⟩,
  ⟨153,26,152,.str (Str.ofString "law_kt0033_02") 616,.none,.none⟩,
  ⟨158,27,157,.str (Str.ofString "law_kt0033_02") 616,.none,.none⟩,
  ⟨163,28,162,.str (Str.ofString "law_kt0033_02") 616,.none,.none⟩,
  ⟨170,29,169,.str (Str.ofString "law_kt0033_02") 616,.none,.none⟩,
  ⟨175,30,174,.str (Str.ofString "law_kt0033_02") 616,.none,.none⟩,
  ⟨180,31,179,.str (Str.ofString "law_kt0033_02") 616,.none,.none⟩,
  ⟨185,32,184,.str (Str.ofString "law_kt0033_02") 616,.none,.none⟩,
  ⟨190,33,189,.str (Str.ofString "law_kt0033_02") 616,.none,.none⟩,
  ⟨195,34,194,.str (Str.ofString "law_kt0033_02") 616,.none,.none⟩,
  ⟨200,35,199,.str (Str.ofString "law_kt0033_02") 616,.none,.none⟩,
  ⟨205,36,204,.str (Str.ofString "law_kt0033_02") 616,.none,.none⟩]
noncomputable def fparams:Stmt→Arguments
  | .FunctionDef _ a _ _ _ _ _ _ _ _=>a
  | _=>default
noncomputable def fname:Stmt→Str
  | .FunctionDef n _ _ _ _ _ _ _ _ _=>n
  | _=>default
noncomputable def defData (d:DefRow):FuncData:=
  { Calls.docDef (fname (nth pw d.i)) (fparams (nth pw d.i)) (fbody (nth pw d.i)) (fQ (nth pw d.i)) d.pm (.ref d.c) .none with defaults:=d.dV,kwdefaults:=d.kV }
noncomputable def fdQ (K:Frag) (a:Addr):Option FuncData:=match K.lookup a with
  | some ⟨_,_,.func fd,_⟩=>some fd
  | _=>none
noncomputable def flagsK (K:Frag):Bool:=(defsK.all fun d=>codeQ K 64 (defData d)) && patIn K 64 43 && codeHdIn K 68 64 &&
  (match K.lookup 64 with
    | some ⟨Value.none,Option.none,.fields vs,sl⟩=>vs.size == 0 && sl.size == 0
    | _=>false) &&
  (match K.lookup 99 with
    | some ⟨_,_,.seq vs _,_⟩=>vs.size == 1 && (match (vs[0]? : Option Value) with | some Value.none=>true | _=>false)
    | _=>false)
noncomputable abbrev ViewT:Type:=List (Option (Option Value)) × List (Option (Option Value)) × Option (Option Value) × List (Option FuncData) × Bool
noncomputable def seeK (K:Frag):ViewT:=(namesK.map fun x=>nsIn K mainGlobals x.1,freeK.map fun x=>nsIn K mainGlobals x,nsIn K mainGlobals "_B64",defsK.map fun d=>fdQ K d.a,flagsK K)
noncomputable def dueK:ViewT:=(namesK.map fun x=>some (some (.ref x.2)),freeK.map fun ψ=>some none,some (some (.bytes b64L.toArray 545)),defsK.map fun d=>some (defData d),true)
noncomputable def Told (K:Frag):Prop:=seeK K = dueK
noncomputable def partAt (h:Heap):List Addr→Option Frag
  | []=>some []
  | a :: as=>match h.get? a,partAt h as with
    | some o,some K=>some ((a,o) :: K)
    | _,_=>none
set_option tactic.hygienic true in
theorem partAt_in {h:Heap}:∀ {as:List Addr} {K:Frag},partAt h as = some K→K.In h
  | [],K,e=>by cases e; intro a o q; cases q
  | a :: as,K,e=>by
    unfold partAt at e
    split at e
    · rename_i o K' h1 h2
      cases e
      intro b ob q
      rw [List.lookup_cons] at q
      split at q
      · rename_i hb
        cases q
        rw [eq_of_beq hb]; exact h1
      · exact partAt_in h2 b ob q
    · cases e
noncomputable def hook:Hook where
  α:=Option ViewT
  obs:=fun s=>(partAt s.heap asK).map seeK
  val:=fun ψ=>some dueK
  says:=fun ψ h=>∃ K:Frag,K.In h∧Told K
  of:=fun w s e=>by
    obtain ⟨K,h1,h2⟩:=Option.map_eq_some_iff.mp e
    exact ⟨K,partAt_in h1,h2⟩
  keeps:=fun w h h' x k=>let ⟨K,a,b⟩:=x; ⟨K,a.keeps k,b⟩
noncomputable abbrev lawL:OpenLaw:=PySem.Challenge.rw_kt0033_02
noncomputable def xt:Shared→Bool:=fun s=>xlAt viewP [] s && recOk [] s
noncomputable def LeftAt (w:World):Prop:=(openEnds treeTable lawL.prog w 5000).map (fun s=>(openSeen viewP looseN (importedModules lawL.prog.main.body) xt true s,hook.obs s)) = some (openGood viewP looseN,hook.val w)
theorem left_ff (w:World):LeftAt ((w.withFollow "special-get-raises" false).withFollow "comprehension-iter-twice" false):=by
  unfold LeftAt
  kernel_rfl
theorem left_ft (w:World):LeftAt ((w.withFollow "special-get-raises" true).withFollow "comprehension-iter-twice" false):=by
  unfold LeftAt
  kernel_rfl
theorem left_tf (w:World):LeftAt ((w.withFollow "special-get-raises" false).withFollow "comprehension-iter-twice" true):=by
  unfold LeftAt
  kernel_rfl
theorem left_tt (w:World):LeftAt ((w.withFollow "special-get-raises" true).withFollow "comprehension-iter-twice" true):=by
  unfold LeftAt
  kernel_rfl
theorem left:LeftO lawL.row.prog viewP looseN xt hook.obs hook.val 5000:=
  byRow2 "comprehension-iter-twice" (P:=LeftAt)
    (byRow2 "special-get-raises" (P:=fun w=>LeftAt (w.withFollow "comprehension-iter-twice" false)) left_ff left_ft)
    (byRow2 "special-get-raises" (P:=fun w=>LeftAt (w.withFollow "comprehension-iter-twice" true)) left_tf left_tt)
theorem said:lawL.wellSaid = true:=by kernel_rfl
theorem fits:(chainsOk viewP && opensWell lawL.row.prog && (frees lawL.row.toRowW && lawL.row.within.isEmpty)) = true:=by decide +kernel
theorem o0 {a:Int} (h:((-(2^63)):Int)≤a):¬(a<(-(2^63))):=Int.not_lt_of_ge h
theorem o1 {a:Int} (h:a<(2^63)):¬(a≥(2^63)):=Int.not_le.mpr h
theorem o2 {a:Int} (h:0≤a):(((a.toNat:Nat):Int)-(0:Int))=a:=by lia
theorem o3 {a b:Nat} (h:a<b):(b-(a+1))<(b-a):=Nat.sub_succ_lt_self b a h
theorem o4 {a b:Nat} (h:(a+1)≤b):a≤b:=Nat.le_of_succ_le h
theorem o5 {a b:Nat} (h0:a≤b) (h1:¬(a<b)):a=b:=by lia
theorem o6 {a:Nat} (h:a≤1000000):a≤16777216:=by lia
theorem o7 {a b c:Nat} (h:(a+b)=(a+c)):b=c:=Nat.add_left_cancel h
theorem o8 {a:Nat} (h:a≤999999):a≤16777216:=by lia
theorem o9 {a b:Nat} (h0:a≤b) (h1:0=(b-a)):a=b:=by lia
theorem o10 {a b c:Nat} (h:(a+1)=(b-c)):c<b:=by lia
theorem o11 {a b c:Nat} (h:(a+(b+c))≤1000000):(a+b)≤1000000:=by lia
theorem o12 {a b:Nat}:a≤((a+1)+b):=by lia
theorem o13 {a b c:Nat} (h:(a+(b+c))≤1000000):((a+b)+c)≤1000000:=by lia
theorem o14 {a b c:Nat} (h:((a+1)+b)=((a+1)+c)):b=c:=by lia
theorem o15 {a b:Nat} (h:(a:Int)<(b:Int)):((((((b:Int)-(a:Int))+1)-1)/1)).toNat=(b-a):=by rw [Int.add_sub_cancel,Int.ediv_one]; exact Int.toNat_sub b a
theorem o16 {a b:Nat}:(((a:Int)+(1*(b:Int)))).toNat=(a+b):=by rw [Int.one_mul]; rfl
theorem o17 {c:Nat} {a b:Int} (h0:0≤a) (h1:b≤(c:Int)) (h2:(((((b-a)+1)-1)/1)).toNat=c) (h3:a<b):a=0:=by lia
theorem o18 {c:Nat} {a b:Int} (h0:0≤a) (h1:b≤(c:Int)) (h2:(((((b-a)+1)-1)/1)).toNat=c) (h3:a<b):b=(c:Int):=by lia
theorem o19 {a:Nat} (h:a≤16777216):(a:Int)<(2^63):=by lia
theorem o20 {a:Nat}:1≤(a+1):=Nat.le_add_left 1 a
theorem o21 {a b c:Int}:(a+(b+c))=((a+b)+c):=Eq.symm (Int.add_assoc a b c)
theorem o22 {a:Nat}:((((((a:Int)-1)-(-1))-(-1))-1)).toNat=a:=by rw [show (((((a:Int)-1)-(-1))-(-1))-1) = a by simp]; rfl
theorem o23 {a:Nat} (h:¬(a=0)):0<a:=Nat.zero_lt_of_ne_zero h
theorem o24 {a b:Nat} (h:a<b):((((b:Int)-1)+((-1)*(a:Int)))).toNat=((b-1)-a):=by rw [Int.neg_mul,Int.one_mul,← Int.sub_eq_add_neg,Int.sub_sub,Nat.sub_sub]; exact Int.toNat_sub b (1+a)
theorem o25 {a b:Nat} (h:a<b):((b-1)-a)<b:=Nat.sub_one_sub_lt_of_lt h
theorem o26 {a b:Nat} (h:¬(a<b)):b≤a:=Nat.le_of_not_lt h
theorem o27 {a b c:Nat} (h0:a≤1000000) (h1:b≤(a+1)):(min (b+1) c)≤16777216:=by lia
theorem o28 {a:Nat}:0≤(a:Int):=Int.natCast_nonneg a
theorem o29 {a b:Nat} (h:a<b):(a:Int)<(b:Int):=Int.ofNat_lt.mpr h
theorem o30 {a b c:Nat} (h:(a+(b+1))=c):a<c:=by lia
theorem o31 {a b c:Nat} (h:(a+(b+1))=c):((a+1)+b)=c:=by lia
theorem o32 {a:Nat}:(0+a)=a:=Nat.zero_add a
theorem o33 {a b c:Nat} (h:((a+b)+c)≤1000000):((a+b)+c)≤16777216:=by lia
theorem o34 {a b:Nat} (h:a≤(2*b)):(a+1)≤(2*(b+1)):=by lia
theorem o35 {a b:Nat} (h:a≤(2*b)):(a+2)≤(2*(b+1)):=by lia
theorem o36 {a b:Nat}:(a+(b+1))=((a+1)+b):=Eq.symm (Nat.succ_add_eq_add_succ a b)
theorem o37 {a b:Nat} (h:a<b):(b-(a+1))<(b-a):=Nat.sub_succ_lt_self b a h
theorem o38 {a b:Nat} (h:¬(a≥b)):a<b:=by lia
theorem o39 {a:Nat}:((a+1)-a)=(0+1):=Nat.add_sub_self_left a 1
theorem o40 {a:Nat}:0≤((a:Int)+1):=Int.zero_le_ofNat (a + 1)
theorem o41 {a b:Nat}:((min (a+1) b)-a)≤16777216:=Nat.le_trans (Nat.sub_le_sub_right (Nat.min_le_left _ _) a) (by rw [Nat.add_sub_cancel_left]; decide)
theorem o42 {a b c:Nat} (h0:a≤(2*b)) (h1:c≤2):(c+a)≤(2*(b+1)):=by lia
theorem o43 {a b:Nat} (h0:a≤b) (h1:¬(b=a)):(a+1)≤b:=by lia
theorem o44 {a b c:Nat} (h:((a+1)-b)≤(c+1)):((a+1)-(b+1))≤c:=Nat.pred_le_pred h
theorem o45 {a b:Nat}:a≤(a+b):=Nat.le_add_right a b
theorem o46 {a b c:Nat} (h:a<(b-c)):(c+a)<b:=Nat.add_lt_of_lt_sub' h
theorem o47 {a b c d:Nat} (h0:a≤b) (h1:b<c) (h2:d<(min (b-a) (c-a))):(a+d)<b:=Nat.add_lt_of_lt_sub' (Nat.lt_of_lt_of_le h2 (Nat.min_le_left _ _))
theorem o48 {a b c d:Nat} (h0:a≤b) (h1:b<c) (h2:d<(min (b-a) (c-a))):(a+d)<c:=Nat.add_lt_of_lt_sub' (Nat.lt_of_lt_of_le h2 (Nat.min_le_right _ _))
theorem o49 {a b c:Nat} (h:a≤100000):(min (b-c) (a-c))≤100000:=Nat.le_trans (Nat.min_le_right _ _) (Nat.le_trans (Nat.sub_le _ _) h)
theorem o50 {a:Nat} (h:a≤100000):a≤16777216:=by lia
theorem o51 {a b c:Nat} (h0:a≤100000) (h1:b≤a) (h2:c≤(2*b)):c≤1000000:=by lia
theorem o52 {a b c d:Nat} (h0:(a-b)<(c+1)) (h1:d<a) (h2:b<d):(a-(d+1))<c:=Nat.lt_of_lt_of_le (Nat.sub_lt_sub_left h1 (Nat.lt_succ_self d)) (Nat.le_of_lt_succ (Nat.lt_of_le_of_lt (Nat.sub_le_sub_left (Nat.le_of_lt h2) a) h0))
theorem o53 {a b:Nat} (h:a<b):(a+1)≤b:=Nat.succ_le_of_lt h
theorem o54 {a b c d:Nat} (h0:a≤100000) (h1:b≤(2*c)) (h2:c≤d) (h3:d<a):b≤1000000:=by lia
theorem o55 {a b c d:Nat} (h0:(a-b)<(c+1)) (h1:b≤d) (h2:d<a):(a-(d+1))<c:=Nat.lt_of_lt_of_le (Nat.sub_lt_sub_left h2 (Nat.lt_succ_self d)) (Nat.le_of_lt_succ (Nat.lt_of_le_of_lt (Nat.sub_le_sub_left h1 a) h0))
theorem o56 {a b c:Nat} (h0:a≤(2*b)) (h1:b≤c):(a+(0+1))≤(2*(c+1)):=by lia
theorem o57 {a b:Nat} (h:a≤100000):(a-b)≤16777216:=by lia
theorem o58 {a b c:Nat} (h0:a≤100000) (h1:b≤(2*a)):¬((b+(c*0))>16777216):=by lia
theorem o59 {a:Nat}:(a-0)<(a+1):=by lia
theorem o60 {a b c:Nat} (h:(a+(b+2))=(c+1)):((a+1)+(b+1))=(c+1):=by lia
theorem o61 {a b:Nat} (h:a≤b):(((b+1)-a)-1)=(b-a):=Nat.succ_sub_succ_eq_sub b a
theorem o62 {a:Nat}:((max 0 (a:Int))).toNat=a:=by lia
theorem o63 {a b:Nat} (h:a<b):(b-0)=(a+(1+(b-(a+1)))):=by rw [Nat.sub_zero,← Nat.add_assoc]; exact (Nat.add_sub_cancel' h).symm
theorem o64 {a b c d:Nat} (h0:a≤b) (h1:c≤(d*b)):(a+c)≤((d*b)+b):=by lia
theorem o65 {a:Nat} (h:a<4):((0+((a:Int)*1))).toNat=a:=by lia
theorem o66 {a:Nat}:0≤(0+((a:Int)*1)):=Int.zero_le_ofNat (0 + a * 1)
theorem o67 {a:Nat} (h:a<4):(0+((a:Int)*1))≤1000000:=by lia
theorem o68 {a:Nat} {b c:Int} (h0:(a+2)=b.toNat) (h1:c<b):c.toNat<b.toNat:=by lia
theorem o69 {a b:Nat} (h:a<256):(((((b%256)*256)+a)/(2^2))%(2^6))=(a/4):=by rw [show b%256*256=2^2*(2^6*(b%256)) by rw [← Nat.mul_assoc,Nat.mul_comm],Nat.mul_add_div (by decide),Nat.mul_add_mod]; exact Nat.mod_eq_of_lt (Nat.div_lt_of_lt_mul h)
theorem o70 {a b:Nat} (h:a<256):((((b*256)+a)/(2^4))%(2^6))=(((b%4)*16)+(a/16)):=by rw [show b*256=2^4*(16*b) by rw [← Nat.mul_assoc,Nat.mul_comm],Nat.mul_add_div (by decide),show (2:Nat)^6=16*4 from rfl,Nat.mod_mul,Nat.mul_add_mod,Nat.mul_add_div (by decide),show a/2^4=a/16 from rfl,Nat.mod_eq_of_lt (Nat.div_lt_of_lt_mul (show a<16*16 from h)),Nat.div_eq_of_lt (Nat.div_lt_of_lt_mul (show a<16*16 from h)),Nat.add_zero,Nat.add_comm,Nat.mul_comm]
theorem o71 {a b:Nat}:((((a*256)+b)/(2^0))%(2^6))=(b%64):=by rw [Nat.pow_zero,Nat.div_one,show a*256=2^6*(4*a) by rw [← Nat.mul_assoc,Nat.mul_comm],Nat.mul_add_mod]
theorem o72 {a b:Nat} (h:a<256):(((b*(2^8))+a)%(2^16))=(((b%256)*256)+a):=by rw [show (2:Nat)^16=2^8*2^8 from rfl,Nat.mod_mul,Nat.mul_comm b,Nat.mul_add_mod,Nat.mod_eq_of_lt (show a<2^8 from h),Nat.mul_add_div (by decide),Nat.div_eq_of_lt (show a<2^8 from h),Nat.add_zero,Nat.add_comm,Nat.mul_comm]
theorem o73 {a b:Nat} (h:a<256):(((b*256)+a)%256)=a:=Nat.mul_add_mod_of_lt h
theorem o74 {a b:Nat} (h:a<4096):((((b*4096)+a)/65536)/4)=(b/64):=by rw [Nat.div_div_eq_div_mul,show 65536*4=4096*64 from rfl,← Nat.div_div_eq_div_mul,Nat.mul_comm,Nat.mul_add_div (by decide),Nat.div_eq_of_lt h]; rfl
theorem o75 {a b:Nat} (h0:((((a*4096)+b)/65536)/4)=(a/64)) (h1:((((((a*4096)+b)/65536)%4)*16)+(((((a*4096)+b)/256)%256)/16))=(a%64)):(((((((a*4096)+b)/256)%256)%16)*4)+((((a*4096)+b)%256)/64))=(b/64):=by lia
theorem o76 {a b:Nat}:((((a*4096)+b)%256)%64)=(b%64):=by rw [Nat.mod_mod_of_dvd _ (by decide),show a*4096 = 64*(64*a) by rw [← Nat.mul_assoc,Nat.mul_comm],Nat.mul_add_mod]
theorem o77 {a b c:Nat} (h0:a≤1000) (h1:a=(b+c)):b≤1000:=by lia
theorem o78 {a b:Nat} (h0:a≤1000) (h1:b≤(2*a)):b≤2000:=by lia
theorem o79 {a:Nat} (h:a≤2000):a≤1000000:=by lia
theorem o80 {a:Nat} (h:a≤2001):a≤1000000:=by lia
theorem o81 {a b:Nat} (h0:a<64) (h1:b<64):((a*64)+b)<4096:=by lia
theorem o82 {a b:Nat} (h:a<64):(((b*64)+a)/64)=b:=by rw [Nat.mul_comm,Nat.mul_add_div (by decide),Nat.div_eq_of_lt h]; rfl
theorem o83 {a b:Nat} (h:a<64):(((b*64)+a)%64)=a:=Nat.mul_add_mod_of_lt h
theorem o84 {a:Nat} (h:a<128):a<256:=by lia
theorem o85 {a:Nat}:((-(2^63)):Int)≤(a:Int):=Int.neg_ofNat_le_natCast (2 ^ 63) a
theorem o86 {a b:Nat}:((a+b)-a)=b:=Eq.symm (Nat.eq_sub_of_add_eq' rfl)
theorem o87 {a b c d:Nat}:((64*((64*((64*((64*0)+a))+b))+c))+d)=((((a*64)+b)*4096)+((c*64)+d)):=by lia
theorem o88 {a b c d:Nat} (h0:a<64) (h1:b<64) (h2:c<64) (h3:d<64):((((a*64)+b)*4096)+((c*64)+d))<16777216:=by lia
theorem o89 {a b c:Nat} (h0:a<b) (h1:c=a) (h2:b≤100):c≤100:=by lia
theorem o90 {a b:Nat} (h0:a≤7) (h1:b≤a):(b+(0+1))≤16777216:=by lia
theorem o91 {a b c:Nat} (h0:a≤(b*c)) (h1:(b*c)≤(100*10)):a≤1000:=by lia
theorem o92 {a:Nat} (h:a≤10):a≤1000000:=by lia
theorem o93 {a:Nat} (h:a<16777216):((0≤((a:Int)/65536))∧(((a:Int)/65536)<256)):=by lia
theorem o94 {b c:Nat} {a:Int} (h:a=(((b+c):Nat):Int)):((-(2^63)):Int)≤a:=by lia
theorem o95 {a b d:Nat} {c:Int} (h0:(a+(b+1))≤100) (h1:c=(((a+d):Nat):Int)) (h2:d<(b+1)):c<(2^63):=by lia
theorem o96 {a b:Nat}:(a:Int)<(((a+(b+1)):Nat):Int):=Int.lt.intro rfl
theorem o97 {a:Nat} (h:a≤1):(1+a)≤16777216:=by lia
theorem o98 {a:Nat} (h:a≤1):(1+a)≤16777212:=by lia
theorem o99 {a:Nat} (h:a≤1):(1+a)≤16777211:=by lia
theorem o100 {a:Nat}:((a:Int)+1)=(((a+1):Nat):Int):=Eq.symm (Nat.ToInt.add_congr rfl rfl)
theorem o101 {a b:Nat} (h0:a≤10) (h1:b≤a):((b*1)+(b*0))≤16777216:=by lia
theorem o102 {a:Nat}:(a:Int)=(((a+0):Nat):Int):=Int.ofNat_inj.mpr rfl
theorem o103 {a b:Nat} (h0:a≤10) (h1:b≤a):b≤1000000:=by lia
theorem o104 {a b c:Nat} (h0:a≤10) (h1:b≤1000) (h2:c≤a):(b+c)≤16777216:=by lia
theorem o105 {a b:Nat} (h:a=(a+b)):b=0:=Nat.left_eq_add.mp h
theorem o106 {a:Nat} (h:a≤100):a≤16777216:=by lia
theorem o107 {a:Nat}:¬((a:Int)<(a:Int)):=Int.lt_irrefl ↑a
theorem o108 {a:Int} (h:((-1000000):Int)≤a):((-4000000):Int)≤a:=by lia
theorem o109 {a:Int} (h:a≤1000000):a≤4000000:=by lia
theorem o110 {a b:Nat} (h:a≤(b+1)):(a+1)≤((b+1)+1):=Nat.add_le_add_right h 1
theorem o111 {b:Nat} {a:Int} (h:a=(b:Int)):a.toNat=b:=by lia
theorem o112 {a:Nat} (h:0<a):1≤a:=Nat.one_le_of_lt h
theorem o113 {a:Nat}:0≤a:=by lia
theorem o114 {a b:Nat}:(a-b)≤a:=Nat.sub_le a b
theorem o115 {a b c d e f:Nat} (h0:(a+b)≤1000) (h1:c=(d+e)) (h2:c≤f) (h3:f≤(a+b)):d≤1000:=by lia
theorem o116 {a:Nat} (h:a≤1000):a≤16777216:=by lia
theorem o117 {a:Nat} (h:a≤1000):a≤1000000:=by lia
theorem o118 {a b:Nat} (h:(a+(b+1))≤1000):(a+0)<1000000:=by lia
theorem o119 {a b:Nat} (h:a≤b):(a+2)≤((b+1)+1):=Nat.add_le_add_right h 2
theorem o120 {a b c:Nat} (h0:a≤1000) (h1:b≤c) (h2:c≤a):b≤1000:=by lia
theorem o121 {a b:Nat} (h0:(a+1)≤10) (h1:b≤a):(b+1)≤10:=by lia
theorem o122 {a:Nat}:((-1000000):Int)≤((a:Int)-1):=by lia
theorem o123 {a:Nat} (h:a≤1000):((a:Int)-1)≤1000000:=by lia
theorem o124 {a:Nat}:((((a:Int)-1)-1)).toNat=(a-2):=by rw [Int.sub_sub]; exact Int.toNat_sub a 2
theorem o125 {a b:Nat} (h:a<(b-2)):(a+1)<b:=by omega
theorem o126 {a b:Nat} (h0:a≤1000) (h1:b<(a-2)):(b+1)<1000000:=Nat.lt_of_le_of_lt (Nat.le_trans h1 (Nat.le_trans (Nat.sub_le _ _) h0)) (by decide)
theorem o127 {a:Nat}:((1+(a:Int))-1)=(a:Int):=Int.sub_eq_iff_eq_add'.mpr rfl
theorem o128 {a b:Nat} (h:a<(b-2)):a<b:=by omega
theorem o129 {a b:Nat} (h0:a≤1000) (h1:b<(a-2)):b<1000000:=Nat.lt_of_lt_of_le (Nat.lt_of_lt_of_le h1 (Nat.le_trans (Nat.sub_le _ _) h0)) (by decide)
theorem o130 {a:Nat}:((1+(a:Int))+1)=(((a+2):Nat):Int):=by lia
theorem o131 {a b:Nat} (h:a<(b-2)):(a+2)<b:=Nat.add_lt_of_lt_sub h
theorem o132 {a b:Nat} (h0:a≤1000) (h1:b<(a-2)):(b+2)<1000000:=Nat.lt_of_le_of_lt (Nat.succ_le_succ (Nat.le_trans h1 (Nat.le_trans (Nat.sub_le _ _) h0))) (by decide)
theorem o133 {a:Nat} (h:a≤1000):(a-2)≤1000000:=by omega
theorem o134 {a b:Nat} (h:((3*(a+1))+1)<(((b+1)+1)+1)):((3*a)+1)<b:=by lia
theorem o135 {a:Nat}:((3*(a+1))+1)=(((((3*a)+1)+1)+1)+1):=Nat.add_left_inj.mpr rfl
theorem o136 {a b c:Nat} (h:4≤a):((3*((b+1)/3))+1)<(b+(a+c)):=by lia
theorem o137 {a b:Nat} (h:a=(b+1)):(((-1)+(((b+1):Nat):Int))).toNat=b:=by lia
theorem o138 {a:Nat}:(-(((a+1):Nat):Int))≤(-1):=Rat.intCast_le_intCast.mp rfl
theorem o139 {a b:Nat} (h:((a+1)+1)<(b+1)):(a+1)<b:=Nat.succ_lt_succ_iff.mp h
theorem o140 {a b:Nat}:a≤((a+1)+(1*b)):=by lia
theorem o141 {a b:Nat}:(((a+1)+(1*b))-a)=((1*b)+1):=by lia
theorem o142 {a:Nat} (h:0<a):(a-1)<a:=Nat.sub_one_lt_of_lt h
theorem o143 {a b:Nat}:(a+((b+1)+1))=((a+2)+b):=by lia
theorem o144 {a b:Nat} (h0:1≤a) (h1:a<b):(a-1)<b:=Nat.sub_lt_of_lt h1
theorem o145 {a b:Nat}:(((a+b)+1)-a)=(b+1):=Eq.symm (Nat.eq_sub_of_add_eq' rfl)
theorem o146 {a:Nat}:a≤(a+1):=Nat.le_add_right a 1
theorem o147 {a:Nat}:((a+1)-a)=1:=Eq.symm (Nat.eq_sub_of_add_eq' rfl)
theorem o148 {a b c:Nat}:((a+((b+2)+c))-(a+1))=(b+(1+c)):=by rw [Nat.add_sub_add_left,Nat.add_right_comm,← Nat.add_assoc,Nat.add_right_comm b 1 c]; rfl
theorem o149 {a:Nat} (h:1≤a):((a-1)+1)=a:=Nat.sub_add_cancel h
theorem o150 {a b:Nat}:(((a+b)+1)+1)=((a+b)+2):=by lia
theorem o151 {c:Nat} {a b:Int} (h0:0≤a) (h1:a<1000000) (h2:((0≤b)∧(b≤(200000+(1000000*(c:Int)))))):((0≤(b+a))∧((b+a)≤(200000+(1000000*((c:Int)+1))))):=by lia
theorem o152 {a b:Nat} (h:(a+1)=b):((a+1)+1)=(b+1):=Nat.add_left_inj.mpr h
theorem o153 {a:Nat} (h:a<4):0<(16+((a:Int)*(-1))):=by lia
theorem o154 {a b:Nat} {c:Int} (h0:(a+b)=16) (h1:0≤c) (h2:c<(16+((b:Int)*(-1)))):c.toNat<a:=by lia
theorem o155 {a b c:Nat} (h0:(a+b)=16) (h1:(c+1)=a):(c+(b+1))=16:=by lia
theorem o156 {a:Nat} (h:(a+1)≤4):a≤4:=by lia
theorem o157 {a:Nat} (h:(a+1)≤4):a<4:=by lia
theorem o158 {a b:Nat} (h:a<b):((min a b)+(b-(a+1)))=(b-1):=by lia
theorem o159 {a b c d:Nat} (h0:a=(b+(c+1))) (h1:b=d):(min b a)=d:=by lia
theorem o160 {a:Nat} (h:(a+1)≤4):a≤3:=by lia
theorem o161 {a:Nat} (h:(a+1)≤4):(a+1)≤16777216:=by lia
theorem o162 {a b:Nat} (h:a≤1000):(min b a)≤1000000:=by lia
theorem o163 {a b c d:Nat} (h:a=(b+(c+d))):(b+c)≤a:=by lia
theorem o164 {a b c:Nat} (h0:a=(b+1)) (h1:c<(b+1)):c<a:=by lia
theorem o165 {a b:Nat} (h:a<(b+1)):((0+((a:Int)*1))).toNat=a:=by lia
theorem o166 {a b c d:Nat}:(a+(b+(c+d)))=((a+(b+c))+d):=by lia
theorem o167 {a b:Nat} (h0:a≤1000) (h1:b≤(a*200)):b≤200000:=by lia
theorem o168 {a b:Nat} (h0:(a+1)≤4) (h1:b<(a+1)):(0+((b:Int)*1))<(2^63):=by lia
theorem o169 {a b c d e:Nat} (h0:a=(b+c)) (h1:d=((b+c)+e)):a≤d:=by lia
theorem o170 {a b c d:Nat} (h:a=((b+2)+c)):(d+a)=(((d+b)+2)+c):=by lia
theorem o171 {a b c:Nat}:((((a:Int)+(b:Int))+(c:Int))+1)=((a:Int)+((b:Int)+((c:Int)+1))):=by lia
theorem o172 {a b c:Nat}:¬((((((a+b)+c)+1):Nat):Int)<0):=by lia
theorem o173 {a b:Nat} (h0:(a+1)≤4) (h1:b<(a+1)):(0+((b:Int)*1))≤1000000:=by lia
theorem o174 {a b:Nat} (h:(a+b)≤10000):a≤1000000:=by lia
theorem o175 {a:Nat}:(0+((a:Int)*1))=(a:Int):=by lia
theorem o176 {a:Nat}:0≤(((a%6):Nat):Int):=by lia
theorem o177 {a:Nat}:(((a%6):Nat):Int)<(2^63):=by lia
theorem o178 {a b c d:Nat} (h0:a≤b) (h1:a=((c+2)+d)):b=((b-1)+1):=(Nat.sub_add_cancel (Nat.le_trans (by rw [h1]; exact Nat.le_add_right_of_le (Nat.le_add_left 1 (c+1))) h0)).symm
theorem o179 {a b c:Nat}:(a+(((b+c)+2)+0))=(((a+b)+c)+2):=by lia
theorem o180 {a b c:Nat}:(((a+(((b+c)+2)+0)):Nat):Int)=(((((a+b)+c)+2):Nat):Int):=by lia
theorem o181 {a b:Nat} (h:a<(b+1)):a≤(b+1):=by lia
theorem o182 {a b c d e f g:Nat} (h0:a=(b+c)) (h1:d=((e+2)+f)) (h2:c=(((g+e)+2)+f)) (h3:d=(e+2)):(a-(((b+g)+e)+4))=0:=by lia
theorem o183 {a b:Nat} {c:Int} (h0:a≤1000) (h1:b=a) (h2:((0≤c)∧(c≤(200000+(1000000*(b:Int)))))):((0≤(c/5))∧((c/5)≤(200000+(1000000*1000)))):=by lia
theorem o184 {a b:Nat} (h:a<(b+1)):(a+1)≤(b+1):=by lia
theorem o185 {a b:Nat} (h:(a+b)=16):a≤16:=Nat.le.intro h
theorem o186 {a b:Nat} (h0:a<4) (h1:b=a):b≤4:=by lia
theorem o187 {a b c:Nat} (h:a=(b+2)):(c+1)≤(c+a):=by lia
theorem o188 {a b c:Nat} (h0:(a+1)≤4) (h1:b≤(a+1)) (h2:c≤(a+1)):(b+c)≤16777216:=by lia
theorem o189 {a b:Nat}:((a+2)+(b+1))=((a+3)+b):=Eq.symm (Nat.succ_add_eq_add_succ (a + 2) b)
theorem o190 {a:Nat} (h:(a+1)≤4):a≤1000000:=by lia
theorem o191 {a b c:Nat}:(a+(b+(c+2)))=(((a+b)+c)+2):=by lia
theorem o192 {a b c:Nat} (h0:a<(b+1)) (h1:c=(b+1)):a<c:=by lia
theorem o193 {a b:Nat} (h:(a+(b+1))=16):(16+((b:Int)*(-1)))≠0:=by lia
theorem o194 {a b c d:Nat} (h0:a≤(b+1)) (h1:a=((c+3)+d)):d≤b:=by lia
theorem o195 {a:Int} (h:0≤a):a=((a.toNat:Nat):Int):=Int.eq_natCast_toNat.mpr h
theorem o196 {a b c d:Nat} (h0:(a+b)≤10000) (h1:b=((c+3)+d)):((a+1)+d)≤10000:=by lia
theorem o197 {a:Int} (h:(a).natAbs<(2^62)):((1*a)).natAbs<(2^64):=by lia
theorem o198 {a:Int} (h:(a).natAbs<(2^62)):(((-1)*a)).natAbs<(2^64):=by omega
theorem o199 {a b c d:Nat}:(a+(((b+c)+2)+(d+1)))=((((a+b)+c)+2)+(d+1)):=by lia
theorem o200 {b c d e f g i:Nat} {a:Int} (h0:a=(((((b+c)+d)+1):Nat):Int)) (h1:e=((d+3)+f)) (h2:g≤((i+1)+f)):g≤(i+e):=by lia
theorem o201 {a:Int} (h:0≤a):((-(2^63)):Int)≤a:=by lia
theorem o202 {b:Nat} {a:Int} (h0:a.toNat<b) (h1:b≤16) (h2:a=((a.toNat:Nat):Int)):a<(2^63):=by lia
theorem o203 {a:Nat} (h:a≤16):a≤1000000:=by lia
theorem o204 {a:Nat} (h:a≤4):(a+(0+1))≤16777216:=by lia
theorem o205 {a b:Nat} (h:(a+(b+1))=16):((16+((b:Int)*(-1)))).natAbs<(2^5):=by omega
theorem o206 {a b:Nat} (h:(a+(b+1))=16):((16+((b:Int)*(-1)))).natAbs≠0:=by lia
theorem o207 {a:Int} (h:a<8):a.toNat<8:=by lia
theorem o208 {a:Nat} (h:a<5):(0+((a:Int)*1))≤1000000:=by lia
theorem o209 {a:Nat} (h:a<5):((0+((a:Int)*1))).toNat=a:=by lia
theorem o210 {a:Nat} {b:Int} (h0:a=4) (h1:b<4):b.toNat<a:=by lia
theorem o211 {a b c:Nat}:(((a+0)≤(a+b))∧(((0+1):Nat)≤(c+1))):=by lia
theorem o212 {a b c d e f:Nat} (h:(((a+b)≤c)∧((d+1)≤e))):(((((f-1)+(a-1))+b)≤(f+c))∧((d+1)≤(e+1))):=⟨Nat.le_trans (Nat.add_le_add_right (Nat.add_le_add (Nat.sub_le _ _) (Nat.sub_le _ _)) _) (by rw [Nat.add_assoc]; exact Nat.add_le_add_left h.1 _),Nat.le_succ_of_le h.2⟩
theorem o213 {a b c d e f:Nat} (h:(((a+b)≤c)∧((d+1)≤e))):(((f+(a+b))≤(f+c))∧(((d+1)+1)≤(e+1))):=by lia
theorem o214 {a b c d e f g i:Nat} (h0:((a≤b)∧(c≤d))) (h1:e=(f+b)) (h2:g=(i+d)):(((f+a)≤e)∧((i+c)≤g)):=by lia
theorem o215 {a b:Nat} (h0:0<a) (h1:b=a):((((b:Int)-1)-0)).toNat=(a-1):=by rw [Int.sub_zero]; exact h1 ▸ Int.toNat_sub b 1
theorem o216 {a b c:Nat} (h:a=((b-1)-c)):((b-1)-(c+1))=(a-1):=by subst h; rfl
theorem o217 {a b c d:Nat} (h0:a=b) (h1:c<(b-1)) (h2:d=((b-1)-c)):(((a:Int)-1)+((c:Int)*(-1)))=(d:Int):=by lia
theorem o218 {a b c d:Nat} (h0:a=b) (h1:c<(b-1)) (h2:(((a:Int)-1)+((c:Int)*(-1)))=(d:Int)):1≤d:=by lia
theorem o219 {a b c d:Nat} (h0:a=b) (h1:(((a:Int)-1)+((c:Int)*(-1)))=(d:Int)):d<b:=by lia
theorem o220 {a b c:Nat} (h0:a≤1000) (h1:0<a) (h2:b=((a-1)-c)):(min (b-1) a)=(b-1):=Nat.min_eq_left (h2 ▸ Nat.le_trans (Nat.sub_le _ _) (Nat.le_trans (Nat.sub_le _ _) (Nat.sub_le _ _)))
theorem o221 {a b c d e:Nat} (h0:a≤1000) (h1:((b≤a)∧(c≤d))) (h2:e≤b):e≤1000:=by lia
theorem o222 {a b:Nat} (h:a=(b-1)):(((b:Int)-1)).toNat=(b-1):=Int.toNat_sub b 1
theorem o223 {a b:Nat} (h:a=(b-1)):a≤(b-1):=Nat.le_of_eq h
theorem o224 {a:Nat}:((a:Int)).toNat=a:=Int.toNat_natCast a
theorem o225 {a b:Nat} (h:a=(b-1)):a≤b:=h ▸ Nat.sub_le b 1
theorem o226 {a b c:Nat} (h0:a≤b) (h1:b≤100) (h2:c≤(a+1)):c≤1000:=by lia
theorem o227 {a b c d:Nat} (h0:a≤b) (h1:b≤100) (h2:c≤1) (h3:d≤(2*a)):(c+d)≤1000:=by lia
theorem o228 {a b c d:Nat} (h0:a≤1000) (h1:((b≤c)∧(d≤a))):d≤1000:=by lia
theorem o229 {a b c:Nat} (h0:a=b) (h1:¬(c<a)):b≤c:=by lia
theorem o230 {a b c d:Nat} (h0:a=b) (h1:c<(b-1)) (h2:(((a:Int)-1)+((c:Int)*(-1)))=(d:Int)):(d-(d-1))=1:=Nat.sub_sub_self (o218 h0 h1 h2)
theorem o231 {a b c:Nat}:(a+((b+(c+1))+1))=((((a+1)+b)+1)+c):=by lia
theorem o232 {a:Nat} (h:a≤100):a≤10000:=by lia
theorem o233 {a b c d:Nat} (h0:a=b) (h1:c<(b-1)) (h2:(((a:Int)-1)+((c:Int)*(-1)))=(d:Int)):0≤((d:Int)-1):=Int.sub_nonneg_of_le (Int.ofNat_le.mpr (o218 h0 h1 h2))
theorem o234 {a:Nat}:((-(2^63)):Int)≤(((a+1):Nat):Int):=Int.neg_ofNat_le_natCast (2 ^ 63) (a + 1)
theorem o235 {a b c d:Nat} (h0:a≤1000) (h1:b=a) (h2:(((b:Int)-1)+((c:Int)*(-1)))=(d:Int)):((d:Int)-1)<(2^63):=by lia
theorem o236 {a b c d e:Nat} (h0:a≤100000) (h1:b≤100) (h2:a=((((c+1)+d)+1)+e)):(((c+1):Nat):Int)<(2^63):=by lia
theorem o237 {a b c d e:Nat} (h0:a≤100) (h1:b=((((c+1)+d)+1)+e)):(c+1)<b:=by lia
theorem o238 {a b c d:Nat} (h0:a≤1000) (h1:b=a) (h2:(((b:Int)-1)+((c:Int)*(-1)))=(d:Int)):(d:Int)<(2^63):=by lia
theorem o239 {a b c d e f g:Nat} (h0:a≤100000) (h1:b≤100) (h2:a=((((c+1)+d)+1)+e)) (h3:((c+1)+d)=(f+g)):g≤16777216:=by lia
theorem o240 {a b:Nat} (h0:a≤1000) (h1:b≤1000) (h2:0<b):((a-1)+(b-1))≤16777216:=Nat.le_trans (Nat.add_le_add (Nat.le_trans (Nat.sub_le _ _) h0) (Nat.le_trans (Nat.sub_le _ _) h1)) (by decide)
theorem o241 {a b:Nat} (h0:a≤100) (h1:b≤a):b≤1000000:=by lia
theorem o242 {a b c:Nat} (h:a=(b-1)):((b:Int)-1)<(((a+(c+2)):Nat):Int):=by omega
theorem o243 {a b:Nat} (h:a=(b-1)):(((b:Int)-1)).toNat=a:=h ▸ Int.toNat_sub b 1
theorem o244 {a b:Nat} (h0:a≤2) (h1:b≤2):((a+(0+1))+b)≤6:=by lia
theorem o245 {a b c:Nat} (h0:a≤(6*b)) (h1:c≤6):(c+a)≤(6*(b+1)):=by lia
theorem o246 {a b c:Nat} (h:a=(b-1)):(b:Int)<(((a+(c+2)):Nat):Int):=by omega
theorem o247 {a b c d:Nat} (h0:a≤1000) (h1:b=a) (h2:(((b:Int)-1)+((c:Int)*(-1)))=(d:Int)):(d:Int)<1000000:=by lia
theorem o248 {a b c:Nat} (h0:a≤1000) (h1:(b+(c+2))≤a):(b+(c+2))≤1000000:=by lia
theorem o249 {a b c d e:Nat} (h0:a=b) (h1:c<(b-1)) (h2:(((a:Int)-1)+((c:Int)*(-1)))=(d:Int)) (h3:e=(d-1)):((d:Int)).toNat=(e+1):=by rw [Int.toNat_natCast,h3]; exact (Nat.sub_add_cancel (o218 h0 h1 h2)).symm
theorem o250 {a b c d:Nat} (h0:a≤100000) (h1:a=((((b+1)+c)+1)+d)):(b:Int)<(2^63):=by lia
theorem o251 {a b c d e:Nat} (h0:a≤100) (h1:b≤(6*c)) (h2:c≤d) (h3:d≤a) (h4:e≤1):(e+b)≤1000:=by lia
theorem o252 {a:Nat} (h:a≤1000):(2*a)≤2000:=by lia
theorem o253 {a b:Nat}:(a+((b+1)+1))=(((a+1)+b)+1):=by lia
theorem o254 {a b:Nat} (h:a≤20):(min b a)≤1000:=by lia
theorem o255 {a:Nat}:((-(2^63)):Int)≤((((a+1)+0):Nat):Int):=by lia
theorem o256 {a b c d:Nat} (h0:a≤100000) (h1:a=((((b+1)+c)+1)+d)):((((b+1)+0):Nat):Int)<(2^63):=by lia
theorem o257 {a b c:Nat} (h0:a≤b) (h1:(b-a)=c):(a+c)=b:=by lia
theorem o258 {a b c d e:Nat} (h0:(a+b)=c) (h1:¬(d<(a+b))) (h2:(d+e)≤c) (h3:e=2):False:=by lia
theorem o259 {a b c:Nat} (h:(a+b)=c):b≤(c-a):=by lia
theorem o260 {a b c d:Nat} (h0:a=(b+c)) (h1:d=b):d≤a:=by lia
theorem o261 {a b:Nat}:((-(2^63)):Int)≤((((a+1)+b):Nat):Int):=Int.neg_ofNat_le_natCast (2 ^ 63) (a + 1 + b)
theorem o262 {a b:Nat} (h:a≤(a+b)):((a+b)-a)=b:=Nat.add_sub_self_left a b
theorem o263 {a b c d e f g:Nat} (h0:a≤100000) (h1:a=((((b+1)+c)+1)+d)) (h2:c=(e+f)) (h3:g=e):((((b+1)+g):Nat):Int)<(2^63):=by lia
theorem o264 {a b c d:Nat} (h0:a=2) (h1:((b+c)+a)≤d):((b+c)+2)≤d:=le_of_eq_of_le (congrArg (HAdd.hAdd (b + c)) (id (Eq.symm h0))) h1
theorem o265 {a b c d e:Nat} (h0:a=(b+c)) (h1:d=b) (h2:e<c):(d+e)<a:=by lia
theorem o266 {a b c d e:Nat} (h0:a=(b+c)) (h1:d=b) (h2:e<c):(d+e)≤a:=by lia
theorem o267 {a b c:Nat}:((-(2^63)):Int)≤((((a+1)+(b+c)):Nat):Int):=by lia
theorem o268 {a b c d e f g i:Nat} (h0:a≤100000) (h1:a=((((b+1)+c)+1)+d)) (h2:c=(e+f)) (h3:g=e) (h4:i<f):((((b+1)+(g+i)):Nat):Int)<(2^63):=by lia
theorem o269 {a b c d:Nat} (h0:a=(b+c)) (h1:d=b):(d+c)≤a:=by lia
theorem o270 {a b c d e f g:Nat} (h0:a≤100000) (h1:a=((((b+1)+c)+1)+d)) (h2:c=(e+f)) (h3:g=e):((((b+1)+(g+f)):Nat):Int)<(2^63):=by lia
theorem o271 {a b:Nat} (h0:a=b) (h1:b≤100000):a≤100000:=by lia
theorem o272 {a:Nat} (h:a≤2000):a≤16777216:=by lia
theorem o273 {a b:Nat} (h:(a+b)≤2000):(((0+1)+(0+b))+(0+1))≤1000000:=by lia
theorem o274 {a b:Nat} (h:(a+b)≤2000):(((0+1)+((0+1)+b))+(0+1))≤1000000:=by lia
theorem o275 {a b c d:Nat} (h0:a≤24) (h1:b≤(6*c)) (h2:c≤d) (h3:d≤a):((0+1)+b)≤145:=by lia
theorem o276 {a b c d:Nat} (h0:a≤24) (h1:b≤(6*c)) (h2:c≤d) (h3:d≤a):(0+b)≤145:=by lia
theorem o277 {a b c d:Nat} (h0:a≤20) (h1:b≤(a*200)) (h2:c=4) (h3:d=3):((c+b)+d)≤10000:=by lia
theorem o278 {a b c d e:Nat} (h0:(a+b)=(c+d)) (h1:b=0) (h2:a=e):(c+d)=e:=by lia
theorem o279 {a b c:Nat} (h0:a≤b) (h1:b<c):a<(c+1):=by lia
theorem o280 {a b c:Nat} (h:(a+(b+1))=(c+1)):((a+1)+b)=(c+1):=by lia
theorem o281 {a b:Nat}:((a+1)+b)=(a+(b+1)):=by lia
theorem o282 {a b:Nat} (h:¬(a<b)):b≤(a+1):=by lia
theorem o283 {a:Nat}:(0+((a+1)-0))=(a+1):=by lia
theorem o284 {a b c:Nat} (h0:a≤(4*b)) (h1:c≤4):(c+a)≤(4*(b+1)):=by lia
theorem o285 {a b:Nat} (h:a=5):(min b a)≤5:=by lia
theorem o286 {a:Nat} (h:a<5):((0+(a:Int))).toNat=a:=by lia
theorem o287 {a b:Nat} (h0:a≤1024) (h1:b≤(4*a)):b≤1000000:=by lia
theorem o288 {a b c d e:Nat} (h0:a≤5) (h1:b≤c) (h2:d≤a) (h3:e<(d+1)):(b+e)≤(c+5):=by lia
theorem o289 {a b:Nat}:((a+5)+(5*b))≤(a+(5*(b+1))):=by lia
theorem o290 {a b:Nat} (h0:a≤5) (h1:b≤a):((b:Int)+1)≤1000000:=by lia
theorem o291 {a b:Nat} (h0:a≤3) (h1:b≤a):(b+1)≤16777216:=by lia
theorem o292 {a:Nat} (h:¬(1≤a)):a=0:=by lia
theorem o293 {a:Nat} (h:a≤16):(a-1)≤16:=by omega
theorem o294 {a b:Nat} (h:a≤4):(((b+4)-a)+a)=(b+4):=by lia
theorem o295 {a:Nat} (h:a≤4):a≤1000000:=by lia
theorem o296 {a:Nat}:((((a:Int)+1)-0)).toNat=(a+1):=by lia
theorem o297 {a b c d e:Nat} (h0:a≤5) (h1:b≤3) (h2:c≤a) (h3:d<((((c:Int)+1)-0)).toNat) (h4:e≤(5*b)):(e+d)≤16777216:=by lia
theorem o298 {a:Nat}:(0+(a:Int))=(a:Int):=by lia
theorem o299 {a b c:Nat} (h0:a≤5) (h1:b≤a) (h2:c<((((b:Int)+1)-0)).toNat):(c:Int)≤(5:Int):=by lia
theorem o300 {a b:Nat} (h0:a≤216) (h1:b≤(6*a)):b≤1000000:=by lia
theorem o301 {a:Nat} (h:a≤4):a≤16777216:=by lia
theorem o302 {a:Nat} (h:a≤4):(((a:Int)+1)).toNat=(a+1):=by lia
theorem o303 {a b c d:Nat} (h0:a≤16) (h1:b≤100000) (h2:c<a) (h3:d≤(b+(min c a))):d≤100016:=by lia
theorem o304 {a b c d e:Nat} (h0:a≤16) (h1:b≤(c+(17*d))) (h2:c≤((e+1)+a)):b≤(e+(17*(d+1))):=by lia
theorem o305 {a b c:Nat}:(((a+b)=c)↔(((a:Int)+(b:Int))=(c:Int))):=by lia
theorem o306 {a b:Nat} (h0:a≤100) (h1:b≤a):b≤16777216:=by lia
theorem o307 {a b:Nat} (h0:a≤4) (h1:b≤(5*a)):b≤100:=by lia
theorem o308 {a:Nat} (h:a≤1296):(a-1)≤1296:=by omega
theorem o309 {a b:Nat} (h:a≤1296):(min b a)≤1296:=by lia
theorem o310 {a b:Nat} (h0:a≤(1+(17*b))) (h1:b≤1296):a≤25000:=by lia
theorem o311 {a:Nat} (h:a≤25000):a≤1000000:=by lia
theorem o312 {a b:Nat} (h0:a≤25000) (h1:b≤(a+1)):b≤100000:=by lia
theorem o313 {a b:Int} (h:a≤b):a.toNat≤b.toNat:=by lia
theorem o314 {a:Int} (h:((0≤a)∧(a<64))):a=((a.toNat:Nat):Int):=by lia
theorem o315 {a:Nat} (h:a<4):(0+((a:Int)*1))<(2^63):=by lia
theorem o316 {a b:Nat} (h0:a=4) (h1:b<4):b<a:=by lia
theorem o317 {a:Nat} (h:¬((a%2)=0)):((a+1)%2)=0:=by lia
theorem o318 {a:Nat} {b c:Int} (h:((((a+1)+1)+1)+1)<4):b=c:=by lia
theorem o319 {a:Int} (h:((a=0)∨(a=1))):0≤a:=by lia
theorem o320 {a:Nat} (h:a=5):a≤20:=by lia
theorem o321 {a:Nat}:((a=0)∨(((a=1)∨(((a=2)∨(((a=3)∨(4≤a)))))))):=by lia
theorem o322 {a:Nat} (h:a≤10000):a≤16777216:=by lia
theorem o323 {a b c:Nat} (h0:a<4) (h1:4≤a):b=c:=by lia
theorem o324 {a:Nat} (h:a=4):a≤10:=by lia
theorem o325 {a:Nat} (h:a≤145):a≤1000:=by lia
theorem o326 {a b:Nat} (h0:a≤10000) (h1:b≤a):b≤1000000:=by lia
theorem o327 {a:Nat}:((-(2^63)):Int)≤(0+((a:Int)*1)):=Int.neg_ofNat_le_ofNat (2 ^ 63) (0 + a * 1)
theorem o328 {a b c d:Nat} (h0:a≤4) (h1:b≤4) (h2:c≤4) (h3:d≤4):(a+(b+(c+(d+0))))≤1000000:=by lia
theorem o329 {a:Nat} (h:a=4):a≤4:=by lia
theorem o330 {a:Nat} (h:a=5):a≤5:=by lia
inductive V where
  | none
  | bool (b:Bool)
  | int (i:Int)
  | str (l:List Nat)
  | bytes (l:List UInt8)
  | list (l:List V)
  | tup (l:List V)
  | rng (a b c:Int)
  | val (v:Value)
  | obj
noncomputable def St (l:List Nat):Str:=⟨l.toArray⟩
mutual
noncomputable def Rd (h:Heap) (hot:Addr→Prop):V→Value→Prop
  | .none,v=>v = .none
  | .bool b,v=>v = .bool b
  | .int i,v=>∃ t,v = .int i t
  | .str l,v=>∃ t,v = .str ⟨l.toArray⟩ t
  | .bytes l,v=>∃ t,v = .bytes l.toArray t
  | .list l,v=>∃ a items,v = .ref a∧¬ hot a∧h.PlainList a items∧Rds h hot l items.toList
  | .tup l,v=>∃ a items,v = .ref a∧¬ hot a∧h.IsTuple a items∧Rds h hot l items.toList
  | .rng a b c,v=>∃ r t u x,v = .ref r∧¬ hot r∧IsRange h r a b c t u x
  | .val w,v=>v = w
  | .obj,v=>∃ a,v = .ref a
noncomputable def Rds (h:Heap) (hot:Addr→Prop):List V→List Value→Prop
  | [],vs=>vs = []
  | d :: ds,vs=>∃ v r,vs = v :: r∧Rd h hot d v∧Rds h hot ds r
end
noncomputable abbrev Sub (h h':Heap):Prop:=∀ b o,h.get? b = some o→h'.get? b = some o
mutual
theorem Rd.mono {h h':Heap} {hot hot':Addr→Prop} (k:∀ b o,¬ hot b→h.get? b = some o→h'.get? b = some o∧¬ hot' b):∀ (d:V) (v:Value),Rd h hot d v→Rd h' hot' d v
  | .none,v,x=>by unfold Rd at x ⊢; exact x
  | .bool b,v,x=>by unfold Rd at x ⊢; exact x
  | .int i,v,x=>by unfold Rd at x ⊢; exact x
  | .str l,v,x=>by unfold Rd at x ⊢; exact x
  | .bytes l,v,x=>by unfold Rd at x ⊢; exact x
  | .val w,v,x=>by unfold Rd at x ⊢; exact x
  | .obj,v,x=>by unfold Rd at x ⊢; exact x
  | .rng a b c,v,x=>by
    unfold Rd at x ⊢
    obtain ⟨r,t,u,y,rfl,ha,hr⟩:=x
    exact ⟨r,t,u,y,rfl,(k r _ ha hr).2,(k r _ ha hr).1⟩
  | .list l,v,x=>by
    unfold Rd at x ⊢
    obtain ⟨a,items,rfl,ha,⟨n,hl⟩,hr⟩:=x
    exact ⟨a,items,rfl,(k a _ ha hl).2,⟨n,(k a _ ha hl).1⟩,Rds.mono k l _ hr⟩
  | .tup l,v,x=>by
    unfold Rd at x ⊢
    obtain ⟨a,items,rfl,ha,⟨o,hl,r⟩,hr⟩:=x
    exact ⟨a,items,rfl,(k a _ ha hl).2,⟨o,(k a _ ha hl).1,r⟩,Rds.mono k l _ hr⟩
theorem Rds.mono {h h':Heap} {hot hot':Addr→Prop} (k:∀ b o,¬ hot b→h.get? b = some o→h'.get? b = some o∧¬ hot' b):∀ (d:List V) (v:List Value),Rds h hot d v→Rds h' hot' d v
  | [],v,x=>by unfold Rds at x ⊢; exact x
  | d :: ds,v,x=>by
    unfold Rds at x ⊢
    obtain ⟨v,r,rfl,h1,h2⟩:=x
    exact ⟨v,r,rfl,Rd.mono k d v h1,Rds.mono k ds r h2⟩
end
theorem Rd.sub {h h':Heap} {hot:Addr→Prop} (k:Sub h h') {d:V} {v:Value} (x:Rd h hot d v):Rd h' hot d v:=Rd.mono (fun b o n e=>⟨k b o e,n⟩) d v x
theorem Rds.sub {h h':Heap} {hot:Addr→Prop} (k:Sub h h') {d:List V} {v:List Value} (x:Rds h hot d v):Rds h' hot d v:=Rds.mono (fun b o n e=>⟨k b o e,n⟩) d v x
theorem Rd.less {h:Heap} {hot hot':Addr→Prop} (k:∀ b,hot' b→hot b) {d:V} {v:Value} (x:Rd h hot d v):Rd h hot' d v:=Rd.mono (fun b o n e=>⟨e,fun q=>n (k b q)⟩) d v x
theorem Rds.length {h:Heap} {hot:Addr→Prop}:∀ {ds:List V} {vs:List Value},Rds h hot ds vs→vs.length = ds.length
  | [],vs,x=>by unfold Rds at x; subst x; rfl
  | d :: ds,vs,x=>by unfold Rds at x; obtain ⟨v,r,rfl,h1,h2⟩:=x; simp [Rds.length h2]
theorem Rds.nil {h:Heap} {hot:Addr→Prop}:Rds h hot [] []:=by unfold Rds; rfl
theorem Rds.cons {h:Heap} {hot:Addr→Prop} {d:V} {ds:List V} {v:Value} {vs:List Value} (a:Rd h hot d v) (b:Rds h hot ds vs):Rds h hot (d :: ds) (v :: vs):=by unfold Rds; exact ⟨v,vs,rfl,a,b⟩
theorem Rds.app {h:Heap} {hot:Addr→Prop}:∀ {ds es:List V} {vs ws:List Value},Rds h hot ds vs→Rds h hot es ws→Rds h hot (ds ++ es) (vs ++ ws)
  | [],_,vs,_,x,y=>by unfold Rds at x; subst x; exact y
  | d :: ds,_,vs,_,x,y=>by unfold Rds at x; obtain ⟨v,r,rfl,h1,h2⟩:=x; exact Rds.cons h1 (Rds.app h2 y)
theorem Rds.getElem {h:Heap} {hot:Addr→Prop}:∀ {ds:List V} {vs:List Value} {i:Nat} {d:V},Rds h hot ds vs→ds[i]? = some d→∃ v,vs[i]? = some v∧Rd h hot d v
  | [],_,_,_,x,e=>by simp at e
  | d :: ds,vs,0,_,x,e=>by unfold Rds at x; obtain ⟨v,r,rfl,h1,h2⟩:=x; simp at e; subst e; exact ⟨v,by simp,h1⟩
  | d :: ds,vs,i + 1,_,x,e=>by unfold Rds at x; obtain ⟨v,r,rfl,h1,h2⟩:=x; simp at e; obtain ⟨w,a,b⟩:=Rds.getElem h2 e; exact ⟨w,by simpa using a,b⟩
theorem rd_none {h hot v} (x:Rd h hot .none v):v = .none:=by unfold Rd at x; exact x
theorem rd_bool {h hot b v} (x:Rd h hot (.bool b) v):v = .bool b:=by unfold Rd at x; exact x
theorem rQ {h hot i v} (x:Rd h hot (.int i) v):∃ t,v = .int i t:=by unfold Rd at x; exact x
theorem sQ {h hot i v} (x:Rd h hot (.str i) v):∃ t,v = .str (St i) t:=by unfold Rd at x; exact x
theorem rd_bytes {h hot i v} (x:Rd h hot (.bytes i) v):∃ t,v = .bytes i.toArray t:=by unfold Rd at x; exact x
theorem rd_list {h hot l v} (x:Rd h hot (.list l) v):∃ a items,v = .ref a∧¬ hot a∧h.PlainList a items∧Rds h hot l items.toList:=by unfold Rd at x; exact x
theorem rd_tup {h hot l v} (x:Rd h hot (.tup l) v):∃ a items,v = .ref a∧¬ hot a∧h.IsTuple a items∧Rds h hot l items.toList:=by unfold Rd at x; exact x
theorem rd_rng {h hot a b c v} (x:Rd h hot (.rng a b c) v):∃ r t u y,v = .ref r∧¬ hot r∧IsRange h r a b c t u y:=by unfold Rd at x; exact x
theorem rd_val {h hot w v} (x:Rd h hot (.val w) v):v = w:=by unfold Rd at x; exact x
theorem mk_none {h hot}:Rd h hot .none .none:=by unfold Rd; rfl
theorem mk_bool {h hot b}:Rd h hot (.bool b) (.bool b):=by unfold Rd; rfl
theorem mk_int {h hot i t}:Rd h hot (.int i) (.int i t):=by unfold Rd; exact ⟨t,rfl⟩
theorem mk_str {h hot i t}:Rd h hot (.str i) (.str (St i) t):=by unfold Rd; exact ⟨t,rfl⟩
theorem mk_bytes {h hot i t}:Rd h hot (.bytes i) (.bytes i.toArray t):=by unfold Rd; exact ⟨t,rfl⟩
theorem rd_obj {h hot v} (x:Rd h hot .obj v):∃ a,v = .ref a:=by unfold Rd at x; exact x
theorem mk_obj {h hot a}:Rd h hot .obj (.ref a):=by unfold Rd; exact ⟨a,rfl⟩
theorem mk_val {h hot w}:Rd h hot (.val w) w:=by unfold Rd; rfl
structure Wo where
  prog:Program
  w:World
  B:Heap
  mg:Str→Option Value
  mb:Str→Option Value
  hg:B.Ns mainGlobals mg
  hb:B.Ns builtinsNs mb
  hbt:∀ x:Str,x≠"__name__"→mb x = bootBuiltins x
  hnl:B.NoLimit
structure Grow (s s':Shared):Prop where
  sub:Sub s.heap s'.heap
  os:s'.os = s.os
  gens:AllBare s.gens→AllBare s'.gens
theorem Grow.refl (s:Shared):Grow s s:=⟨fun ψ ψ e=>e,rfl,fun e=>e⟩
theorem Grow.trans {a b c:Shared} (x:Grow a b) (y:Grow b c):Grow a c:=⟨fun p o e=>y.sub p o (x.sub p o e),y.os.trans x.os,fun e=>y.gens (x.gens e)⟩
theorem Grow.mk' {s:Shared} {h:Heap} {t:Nat} (k:Sub s.heap h):Grow s { s with heap:=h,toks:=t }:=⟨k,rfl,fun e=>e⟩
theorem Grow.tok {s:Shared} {t:Nat}:Grow s { s with toks:=t }:=⟨fun ψ ψ e=>e,rfl,fun e=>e⟩
noncomputable def VarIs (env:Env) (h:Heap) (x:Str) (v:Value):Prop:=
  (env.scope.names.lookup x = some .local∧∃ m,h.Ns env.locals m∧m x = some v) ∨
  ((env.scope.names.lookup x = some .cell∨env.scope.names.lookup x = some .free)∧∃ c,env.cells.lookup x = some c∧h.IsCell c (some v))
theorem VarIs.sub {env:Env} {h h':Heap} {x:Str} {v:Value} (k:Sub h h') (y:VarIs env h x v):VarIs env h' x v:=by
  rcases y with ⟨a,m,hn,hm⟩ | ⟨a,c,hc,hv⟩
  · exact .inl ⟨a,m,hn.keeps k,hm⟩
  · exact .inr ⟨a,c,hc,hv.keeps k⟩
inductive Slot where
  | unset
  | val (d:V)
  | own (l:List V)
  | app (x:Str)
noncomputable abbrev Store:=List (Str × Slot)
noncomputable def isVar (sc:Scope) (x:Str):Bool:=!(x == ("__debug__" : Str)) && !(x == ("__classdict__" : Str)) && match sc.names.lookup x with
  | some .local | some .cell | some .free=>true
  | _=>false
theorem isVar_1 {sc x} (h:isVar sc x = true):(x == ("__debug__" : Str)) = false:=by
  unfold isVar at h; simp only [Bool.and_eq_true,Bool.not_eq_true'] at h; exact h.1.1
theorem isVar_2 {sc x} (h:isVar sc x = true):(x == ("__classdict__" : Str)) = false:=by
  unfold isVar at h; simp only [Bool.and_eq_true,Bool.not_eq_true'] at h; exact h.1.2
noncomputable def boundApp (h:Heap) (b a:Addr):Prop:=∃ o,h.get? b = some o∧o.cls = .type "builtin_function_or_method"∧o.data = .fields #[.builtin "list.append",.ref a]
noncomputable def SlotOk (env:Env) (h:Heap) (hot:Addr→Prop) (x:Str):Slot→Prop
  | .unset=>True
  | .val d=>∃ v,VarIs env h x v∧Rd h hot d v
  | .own l=>∃ a items,VarIs env h x (.ref a)∧h.PlainList a items∧Rds h hot l items.toList
  | .app _=>True
structure Good (W:Wo) (env:Env) (σ:Store) (hot:Addr→Prop) (s:Shared):Prop where
  base:Sub W.B s.heap
  kind:env.scope.kind = .function
  globals:env.globals = mainGlobals
  builtins:env.builtins = builtinsNs
  cells:∀ x,(env.scope.names.lookup x = some .cell∨env.scope.names.lookup x = some .free)→(env.cells.lookup x).isSome = true
  vars:∀ p∈σ,isVar env.scope p.1 = true→SlotOk env s.heap hot p.1 p.2
  alive:∀ a,hot a→∃ o,s.heap.get? a = some o
theorem Good.grow {W env σ hot s s'} (g:Good W env σ hot s) (k:Grow s s'):Good W env σ hot s' where
  base:=fun b o e=>k.sub b o (g.base b o e)
  kind:=g.kind
  globals:=g.globals
  builtins:=g.builtins
  cells:=g.cells
  vars:=fun p hp hv=>by
    have:=g.vars p hp hv
    cases h:p.2 with
    | unset=>trivial
    | val d=>rw [h] at this; obtain ⟨v,a,b⟩:=this; exact ⟨v,a.sub k.sub,b.sub k.sub⟩
    | own l=>rw [h] at this; obtain ⟨a,items,x,⟨n,y⟩,z⟩:=this; exact ⟨a,items,x.sub k.sub,⟨n,k.sub _ _ y⟩,z.sub k.sub⟩
    | app l=>trivial
  alive:=fun a ha=>(g.alive a ha).imp fun o e=>k.sub a o e
structure Room (A:Around) (n:Nat):Prop where
  handled:A.handled = none
  depth:A.depth + n < 600
  units:A.units + 20 * n < 5000
theorem Room.in1 {A n} (r:Room A (n + 1)):Room A.in1 n:=⟨r.handled,by have:=r.depth; simp; omega,by have:=r.units; simp; omega⟩
theorem Room.deeper {A n e} (r:Room A (n + 1)):Room (A.deeper e) n:=⟨r.handled,by have:=r.depth; show A.depth + 1 + n < 600; omega,by have:=r.units; simp; omega⟩
theorem Room.less {A n m} (r:Room A n) (h:m≤n):Room A m:=⟨r.handled,by have:=r.depth; omega,by have:=r.units; omega⟩
theorem Room.lim {A n} (r:Room A n):A.depth < recursionLimit:=by have:=r.depth; unfold recursionLimit; omega
theorem Room.line {A n} (r:Room A n):A.units < cLine:=by have:=r.units; unfold cLine; omega
structure Ev (W:Wo) (n:Nat) (sc:Scope) (σ:Store) (e:PySem.Expr) (d:V):Prop where
  run:∀ env,env.scope = sc→∀ A,Room A n→∀ s hot (Q:Value→Shared→Prop) E,Good W env σ hot s →
    (∀ v s',Grow s s'→Rd s'.heap hot d v→Q v s')→wpAny (model W.prog W.w) A (eval e env) Q E s
structure EvT (W:Wo) (n:Nat) (sc:Scope) (σ:Store) (e:PySem.Expr) (b:Bool):Prop where
  run:∀ env,env.scope = sc→∀ A,Room A n→∀ s hot (Q:Bool→Shared→Prop) E,Good W env σ hot s →
    (∀ s',Grow s s'→Q b s')→wpAny (model W.prog W.w) A (isTrue e env (eval e env)) Q E s
section
variable {W:Wo} {n:Nat} {sc:Scope} {σ:Store}
theorem Ev.name {x:Str} {pos:Pos} {d:V} (hm:(x,Slot.val d)∈σ) (hv:isVar sc x = true):Ev W n sc σ (.Name x pos) d:=by
  refine ⟨?_⟩
  intro env he A hA s hot Q E g k
  subst he
  have hd:=isVar_1 hv
  obtain ⟨v,hx,hr⟩:=g.vars _ hm hv
  rcases hx with ⟨a,m,hn,hmx⟩ | ⟨a | a,c,hc,hcv⟩
  · exact wpAny_Name (wpAny_loadName_local g.kind a hn hmx (k v s (.refl s) hr)) hd
  · exact wpAny_Name (wpAny_loadName_cell g.kind a hc hcv (k v s (.refl s) hr)) hd
  · exact wpAny_Name (wpAny_loadName_free g.kind a hc hcv (k v s (.refl s) hr) (isVar_2 hv)) hd
end
noncomputable def OwnOk (env:Env) (base:Shared) (h:Heap) (hot:Addr→Prop) (oa:Str→Addr) (x:Str) (l:List V):Prop:=
  ∃ items,VarIs env h x (.ref (oa x))∧h.PlainList (oa x) items∧Rds h hot l items.toList∧hot (oa x)∧base.heap.get? (oa x) = none∧oa x≠env.locals
noncomputable def SlotF (env:Env) (base:Shared) (h:Heap) (hot:Addr→Prop) (oa:Str→Addr) (x:Str):Slot→Prop
  | .unset=>True
  | .val d=>∃ v,VarIs env h x v∧Rd h hot d v
  | .own l=>OwnOk env base h hot oa x l
  | .app y=>∃ b,VarIs env h x (.ref b)∧boundApp h b (oa y)∧¬ hot b
noncomputable def Slot.isOwn:Slot→Bool
  | .own _=>true
  | _=>false
structure Fm (W:Wo) (env:Env) (base:Shared) (out hot:Addr→Prop) (oa:Str→Addr) (σ:Store) (s:Shared):Prop where
  wbase:Sub W.B base.heap
  grow:Grow base s
  kind:env.scope.kind = .function
  globals:env.globals = mainGlobals
  builtins:env.builtins = builtinsNs
  nodup:(σ.map (·.1)).Nodup
  isv:∀ p∈σ,isVar env.scope p.1 = true
  lc:∀ p∈σ,env.scope.names.lookup p.1 = some .local∨env.scope.names.lookup p.1 = some .cell
  ns:∃ m,s.heap.Ns env.locals m
  nsNew:base.heap.get? env.locals = none
  cells:∀ x,(env.scope.names.lookup x = some .cell∨env.scope.names.lookup x = some .free)→(env.cells.lookup x).isSome = true
  cl:∀ p∈σ,env.scope.names.lookup p.1 = some .cell→∃ c v,env.cells.lookup p.1 = some c∧s.heap.IsCell c v∧base.heap.get? c = none∧c≠env.locals∧hot c
  apart:∀ p∈σ,∀ q∈σ,env.scope.names.lookup p.1 = some .cell→env.scope.names.lookup q.1 = some .cell→∀ c,env.cells.lookup p.1 = some c→env.cells.lookup q.1 = some c→p.1 = q.1
  ownCell:∀ p∈σ,∀ q∈σ,env.scope.names.lookup p.1 = some .cell→q.2.isOwn = true→env.cells.lookup p.1≠some (oa q.1)
  vars:∀ p∈σ,SlotF env base s.heap hot oa p.1 p.2
  alive:∀ a,hot a→∃ o,s.heap.get? a = some o
  outhot:∀ a,out a→hot a
  outlive:∀ a,out a→∃ o,base.heap.get? a = some o
  hotnew:∀ a,hot a→out a∨base.heap.get? a = none
  nshot:hot env.locals
  inj:∀ p∈σ,∀ q∈σ,p.2.isOwn = true→q.2.isOwn = true→oa p.1 = oa q.1→p.1 = q.1
theorem Fm.good {W env base out hot oa σ s} (F:Fm W env base out hot oa σ s):Good W env σ hot s where
  base:=fun b o e=>F.grow.sub b o (F.wbase b o e)
  kind:=F.kind
  globals:=F.globals
  builtins:=F.builtins
  cells:=F.cells
  vars:=fun p hp ψ=>by
    have:=F.vars p hp
    cases h:p.2 with
    | unset=>trivial
    | val d=>rw [h] at this; exact this
    | own l=>rw [h] at this; obtain ⟨items,a,b,c,_⟩:=this; exact ⟨_,items,a,b,c⟩
    | app l=>trivial
  alive:=F.alive
theorem SlotF.sub {env base h h' hot oa x t} (k:Sub h h') (y:SlotF env base h hot oa x t):SlotF env base h' hot oa x t:=by
  cases t with
  | unset=>trivial
  | val d=>obtain ⟨v,a,b⟩:=y; exact ⟨v,a.sub k,b.sub k⟩
  | own l=>obtain ⟨items,a,⟨n,b⟩,c,d⟩:=y; exact ⟨items,a.sub k,⟨n,k _ _ b⟩,c.sub k,d⟩
  | app l=>obtain ⟨b,a,⟨o,b',c⟩,d⟩:=y; exact ⟨b,a.sub k,⟨o,k _ _ b',c⟩,d⟩
theorem Fm.grown {W env base out hot oa σ s s'} (F:Fm W env base out hot oa σ s) (k:Grow s s'):Fm W env base out hot oa σ s':=
  { F with
    grow:=F.grow.trans k
    ns:=F.ns.imp fun m hm=>hm.keeps k.sub
    cl:=fun p hp hc=>let ⟨c,v,a,b,d⟩:=F.cl p hp hc; ⟨c,v,a,b.keeps k.sub,d⟩
    vars:=fun p hp=>(F.vars p hp).sub k.sub
    alive:=fun a ha=>(F.alive a ha).imp fun o e=>k.sub a o e }
inductive Put (x:Str) (t:Slot):Store→Store→Prop
  | here {o r}:Put x t ((x,o) :: r) ((x,t) :: r)
  | there {p r r'}:Put x t r r'→Put x t (p :: r) (p :: r')
theorem Put.names {x t σ σ'} (h:Put x t σ σ'):σ'.map (·.1) = σ.map (·.1):=by
  induction h with
  | here=>rfl
  | there _ ih=>simp [ih]
theorem Put.mem {x t σ σ'} (h:Put x t σ σ'):x∈σ.map (·.1):=by
  induction h with
  | here=>simp
  | there _ ih=>simp only [List.map_cons,List.mem_cons]; exact .inr ih
theorem Put.cases {x t σ σ'} (h:Put x t σ σ') (nd:(σ.map (·.1)).Nodup):∀ p∈σ',p = (x,t)∨(p∈σ∧p.1≠x):=by
  induction h with
  | here=>
    intro p hp
    rcases List.mem_cons.mp hp with e | hp
    · exact .inl e
    · refine .inr ⟨List.mem_cons_of_mem _ hp,fun e=>?_⟩
      simp only [List.map_cons,List.nodup_cons] at nd
      exact nd.1 (e ▸ List.mem_map_of_mem hp)
  | @there q r r' h' ih=>
    intro p hp
    simp only [List.map_cons,List.nodup_cons] at nd
    rcases List.mem_cons.mp hp with e | hp
    · subst e; exact .inr ⟨List.mem_cons_self,fun e=>nd.1 (e ▸ h'.mem)⟩
    · rcases ih nd.2 p hp with e | ⟨a,b⟩
      · exact .inl e
      · exact .inr ⟨List.mem_cons_of_mem _ a,b⟩
theorem Grow.sameBut {base s:Shared} {a:Addr} {h':Heap} {t:Nat} (g:Grow base s) (hn:base.heap.get? a = none) (hs:Heap.SameBut a s.heap h'):Grow base { s with heap:=h',toks:=t } where
  sub:=fun b o e=>(hs.2 b (fun q=>by rw [q,hn] at e; cases e)).trans (g.sub b o e)
  os:=g.os
  gens:=g.gens
theorem alive_same {hot:Addr→Prop} {h h':Heap} {a:Addr} (al:∀ a,hot a→∃ o,h.get? a = some o) (hs:Heap.SameBut a h h') (ha:∃ o,h'.get? a = some o):∀ b,hot b→∃ o,h'.get? b = some o:=fun b hb=>by
  by_cases q:b = a
  · exact q ▸ ha
  · obtain ⟨o,e⟩:=al b hb; exact ⟨o,(hs.2 b q).trans e⟩
section
variable {W:Wo} {env:Env} {base:Shared} {out hot:Addr→Prop} {oa:Str→Addr} {σ σ':Store} {s:Shared} {M:Model} {A:Around} {E:Value→Shared→Prop}
theorem VarIs.same {h h':Heap} {a:Addr} {x:Str} {v:Value} (y:VarIs env h x v) (hs:Heap.SameBut a h h') (h1:env.locals≠a) (h2:env.scope.names.lookup x = some .cell∨env.scope.names.lookup x = some .free→∀ c,env.cells.lookup x = some c→c≠a):VarIs env h' x v:=by
  rcases y with ⟨k,m,hn,hm⟩ | ⟨k,c,hc,hv⟩
  · exact .inl ⟨k,m,hn.sameBut hs h1,hm⟩
  · exact .inr ⟨k,c,hc,hv.sameBut hs (h2 k c hc)⟩
theorem Rd.same {h h':Heap} {a:Addr} {d:V} {v:Value} (x:Rd h hot d v) (ha:hot a) (hs:Heap.SameBut a h h'):Rd h' hot d v:=
  Rd.mono (fun b ψ nb e=>⟨(hs.2 b (fun q=>nb (q ▸ ha))).trans e,nb⟩) d v x
theorem Rds.same {h h':Heap} {a:Addr} {d:List V} {v:List Value} (x:Rds h hot d v) (ha:hot a) (hs:Heap.SameBut a h h'):Rds h' hot d v:=
  Rds.mono (fun b ψ nb e=>⟨(hs.2 b (fun q=>nb (q ▸ ha))).trans e,nb⟩) d v x
theorem ne_hot {a b:Addr} (h:hot a) (n:¬ hot b):b≠a:=fun q=>n (q ▸ h)
theorem VarIs.store_local {h h':Heap} {x y:Str} {v w:Value} {m:Str→Option Value} (z:VarIs env h y w) (hm:h.Ns env.locals m) (hn':h'.Ns env.locals fun z=>if z = x then some v else m z) (hs':Heap.SameBut env.locals h h')
    (hne:y≠x) (cne:∀ c,env.cells.lookup y = some c→(env.scope.names.lookup y = some .cell∨env.scope.names.lookup y = some .free)→c≠env.locals):VarIs env h' y w:=by
  rcases z with ⟨k,m',hm',hmx⟩ | ⟨k,c,hc,hv⟩
  · refine .inl ⟨k,_,hn',?_⟩
    rw [if_neg hne]
    obtain ⟨o1,es,ep,e1,e2,_,e4⟩:=hm
    obtain ⟨o2,es',ep',f1,f2,_,f4⟩:=hm'
    rw [e1] at f1; cases f1; rw [e2] at f2; cases f2
    rw [← e4,f4]; exact hmx
  · exact .inr ⟨k,c,hc,hv.sameBut hs' (cne c hc k)⟩
theorem Put.all {x:Str} {t:Slot} (hp:Put x t σ σ') (nd:(σ.map (·.1)).Nodup) {P:Str→Prop} (h:∀ p∈σ,P p.1):∀ p∈σ',P p.1:=by
  intro p hq
  rcases hp.cases nd p hq with e | ⟨a,_⟩
  · subst e
    obtain ⟨q,a,b⟩:=List.mem_map.mp hp.mem
    exact b ▸ h q a
  · exact h p a
theorem Put.back {x:Str} {t:Slot} (hp:Put x t σ σ') (nd:(σ.map (·.1)).Nodup):∀ p∈σ',∃ q∈σ,q.1 = p.1:=hp.all nd (P:=fun y=>∃ q∈σ,q.1 = y) fun p h=>⟨p,h,rfl⟩
theorem Fm.storeAny {x:Str} {t:Slot} {v:Value} {oa':Str→Addr} {hot':Addr→Prop} {Q:Unit→Shared→Prop} (F:Fm W env base out hot oa σ s) (hp:Put x t σ σ')
    (hh:∀ a,hot a→hot' a) (hhn:∀ a,hot' a→out a∨base.heap.get? a = none) (hal:∀ a,hot' a→∃ o,s.heap.get? a = some o) (hrd:∀ d v,Rd s.heap hot d v→Rd s.heap hot' d v) (hrds:∀ d v,Rds s.heap hot d v→Rds s.heap hot' d v)
    (hoa:∀ y,y≠x→oa' y = oa y) (happ:∀ p∈σ,∀ y,p.2 = .app y→p.1≠x→y≠x∧∀ b,boundApp s.heap b (oa y)→¬ hot b→¬ hot' b)
    (hown:t.isOwn = true→base.heap.get? (oa' x) = none∧oa' x≠env.locals∧(∀ q∈σ,q.2.isOwn = true→q.1≠x→oa q.1≠oa' x)∧(∀ q∈σ,env.scope.names.lookup q.1 = some .cell→env.cells.lookup q.1≠some (oa' x)))
    (ht:∀ h',(∀ b,b≠env.locals→(∀ c,env.scope.names.lookup x = some .cell→env.cells.lookup x = some c→b≠c)→h'.get? b = s.heap.get? b)→VarIs env h' x v→SlotF env base h' hot' oa' x t)
    (h:∀ s',Fm W env base out hot' oa' σ' s'→Q () s'):wpAny M A (storeName env x v) Q E s:=by
  have hx:∃ o,(x,o)∈σ:=by obtain ⟨p,a,b⟩:=List.mem_map.mp hp.mem; exact ⟨p.2,by rw [← b]; exact a⟩
  obtain ⟨o₀,hx⟩:=hx
  have back:=hp.back F.nodup
  have inj':∀ p∈σ',∀ q∈σ',p.2.isOwn = true→q.2.isOwn = true→oa' p.1 = oa' q.1→p.1 = q.1:=by
    intro p hq q hq' hp1 hq1 he
    rcases hp.cases F.nodup p hq with e | ⟨a,na⟩
    · subst e
      rcases hp.cases F.nodup q hq' with e | ⟨b,nb⟩
      · subst e; rfl
      · exact absurd (by rw [hoa _ nb] at he; exact he.symm) ((hown hp1).2.2.1 q b hq1 nb)
    · rcases hp.cases F.nodup q hq' with e | ⟨b,nb⟩
      · subst e; exact absurd (by rw [hoa _ na] at he; exact he) ((hown hq1).2.2.1 p a hp1 na)
      · exact F.inj p a q b hp1 hq1 (by rw [hoa _ na,hoa _ nb] at he; exact he)
  have ownCell':∀ p∈σ',∀ q∈σ',env.scope.names.lookup p.1 = some .cell→q.2.isOwn = true→env.cells.lookup p.1≠some (oa' q.1):=by
    intro p hq q hq' hk hq1
    obtain ⟨p',hp',ep⟩:=back p hq
    rcases hp.cases F.nodup q hq' with e | ⟨b,nb⟩
    · subst e; have:=(hown hq1).2.2.2 p' hp' (by rw [ep]; exact hk); rw [ep] at this; exact this
    · rw [hoa _ nb]; have:=F.ownCell p' hp' q b (by rw [ep]; exact hk) hq1; rw [ep] at this; exact this
  have apart':∀ p∈σ',∀ q∈σ',env.scope.names.lookup p.1 = some .cell→env.scope.names.lookup q.1 = some .cell→∀ c,env.cells.lookup p.1 = some c→env.cells.lookup q.1 = some c→p.1 = q.1:=by
    intro p hq q hq' k1 k2 c h1 h2
    obtain ⟨p',hp',ep⟩:=back p hq
    obtain ⟨q',hq'',eq⟩:=back q hq'
    rw [← ep] at k1 h1 ⊢; rw [← eq] at k2 h2 ⊢
    exact F.apart p' hp' q' hq'' k1 k2 c h1 h2
  have isv':=hp.all F.nodup (P:=fun y=>isVar env.scope y = true) F.isv
  have lc':=hp.all F.nodup (P:=fun y=>env.scope.names.lookup y = some .local∨env.scope.names.lookup y = some .cell) F.lc
  have nd':(σ'.map (·.1)).Nodup:=by rw [hp.names]; exact F.nodup
  rcases F.lc _ hx with hl | hl
  · obtain ⟨m,hm⟩:=F.ns
    refine wpAny_storeName_local hl hm (fun h' hn' hs'=>h _ ?_) (by rw [F.kind]; rfl)
    refine { F with grow:=F.grow.sameBut F.nsNew hs',ns:=⟨_,hn'⟩,nodup:=nd',isv:=isv',lc:=lc',cl:=?_,apart:=apart',ownCell:=ownCell',vars:=?_,alive:=alive_same hal hs' (let ⟨o,_,_,e,_⟩:=hn'; ⟨o,e⟩),outhot:=fun a ha=>hh a (F.outhot a ha),hotnew:=hhn,nshot:=hh _ F.nshot,inj:=inj' }
    · intro p hq hc
      obtain ⟨p',hp',ep⟩:=back p hq
      obtain ⟨c,w,h1,h2,h3,h4,h5⟩:=F.cl p' hp' (by rw [ep]; exact hc)
      rw [ep] at h1
      exact ⟨c,w,h1,h2.sameBut hs' h4,h3,h4,hh _ h5⟩
    · intro p hq
      rcases hp.cases F.nodup p hq with e | ⟨a,hne⟩
      · subst e
        exact ht h' (fun b h1 ψ=>hs'.2 b h1) (.inl ⟨hl,_,hn',by simp⟩)
      · have vi:∀ w,VarIs env s.heap p.1 w→VarIs env h' p.1 w:=fun w y=>y.store_local hm hn' hs' hne fun c hc hk=>by
          rcases F.lc p a with k | k
          · rw [k] at hk; rcases hk with hk | hk <;> cases hk
          · obtain ⟨c',w',h1,_,_,h4,_⟩:=F.cl p a k
            rw [hc] at h1; cases h1; exact h4
        have old:=F.vars p a
        cases ht':p.2 with
        | unset=>trivial
        | val d'=>rw [ht'] at old; obtain ⟨w,y,z⟩:=old; exact ⟨w,vi w y,(hrd _ _ z).same (hh _ F.nshot) hs'⟩
        | own l=>
          rw [ht'] at old; obtain ⟨items,y,⟨n,z⟩,r,h1,h2,h3⟩:=old
          show OwnOk _ _ _ _ _ _ _
          unfold OwnOk
          rw [hoa _ hne]
          exact ⟨items,vi _ y,⟨n,(hs'.2 _ h3).trans z⟩,(hrds _ _ r).same (hh _ F.nshot) hs',hh _ h1,h2,h3⟩
        | app y=>
          rw [ht'] at old; obtain ⟨b,y',z',nb⟩:=old
          obtain ⟨yx,hb⟩:=happ p a y ht' hne
          have nb':=hb b z' nb
          obtain ⟨o,z,r⟩:=z'
          refine ⟨b,vi _ y',?_,nb'⟩
          rw [hoa _ yx]
          exact ⟨o,(hs'.2 _ (ne_hot F.nshot nb)).trans z,r⟩
  · obtain ⟨c,v₀,hc,hv₀,cn,cL,ch⟩:=F.cl _ hx hl
    refine wpAny_storeName_cell F.kind hl hc hv₀ fun h' hv' hs'=>h _ ?_
    refine { F with grow:=F.grow.sameBut cn hs',ns:=F.ns.imp fun m hm=>hm.sameBut hs' (Ne.symm cL),nodup:=nd',isv:=isv',lc:=lc',cl:=?_,apart:=apart',ownCell:=ownCell',vars:=?_,alive:=alive_same hal hs' (let ⟨o,e,_⟩:=hv'; ⟨o,e⟩),outhot:=fun a ha=>hh a (F.outhot a ha),hotnew:=hhn,nshot:=hh _ F.nshot,inj:=inj' }
    · intro p hq hk
      rcases hp.cases F.nodup p hq with e | ⟨a,hne⟩
      · subst e; exact ⟨c,_,hc,hv',cn,cL,hh _ ch⟩
      · obtain ⟨c',w,h1,h2,h3,h4,h5⟩:=F.cl p a hk
        exact ⟨c',w,h1,h2.sameBut hs' (fun e=>hne (F.apart p a _ hx hk hl c' h1 (e ▸ hc))),h3,h4,hh _ h5⟩
    · intro p hq
      rcases hp.cases F.nodup p hq with e | ⟨a,hne⟩
      · subst e
        exact ht h' (fun b ψ h2=>hs'.2 b (h2 c hl hc)) (.inr ⟨.inl hl,c,hc,hv'⟩)
      · have vi:∀ w,VarIs env s.heap p.1 w→VarIs env h' p.1 w:=fun w y=>y.same hs' (Ne.symm cL) fun k' c' hc'=>by
          rcases F.lc p a with k | k
          · rw [k] at k'; rcases k' with k' | k' <;> cases k'
          · exact fun e=>hne (F.apart p a _ hx k hl c' hc' (e ▸ hc))
        have old:=F.vars p a
        cases ht':p.2 with
        | unset=>trivial
        | val d'=>rw [ht'] at old; obtain ⟨w,y,z⟩:=old; exact ⟨w,vi w y,(hrd _ _ z).same (hh _ ch) hs'⟩
        | own l=>
          rw [ht'] at old; obtain ⟨items,y,⟨n,z⟩,r,h1,h2,h3⟩:=old
          show OwnOk _ _ _ _ _ _ _
          unfold OwnOk
          rw [hoa _ hne]
          exact ⟨items,vi _ y,⟨n,(hs'.2 _ (fun q=>F.ownCell (x,o₀) hx p a hl (by rw [ht']; rfl) (hc.trans (congrArg some q.symm)))).trans z⟩,(hrds _ _ r).same (hh _ ch) hs',hh _ h1,h2,h3⟩
        | app y=>
          rw [ht'] at old; obtain ⟨b,y',z',nb⟩:=old
          obtain ⟨yx,hb⟩:=happ p a y ht' hne
          have nb':=hb b z' nb
          obtain ⟨o,z,r⟩:=z'
          refine ⟨b,vi _ y',?_,nb'⟩
          rw [hoa _ yx]
          exact ⟨o,(hs'.2 _ (ne_hot ch nb)).trans z,r⟩
theorem Fm.store {x:Str} {d:V} {v:Value} {Q:Unit→Shared→Prop} (F:Fm W env base out hot oa σ s) (hp:Put x (.val d) σ σ') (hr:Rd s.heap hot d v) (hna:∀ p∈σ,p.2≠.app x)
    (h:∀ s',Fm W env base out hot oa σ' s'→Q () s'):wpAny M A (storeName env x v) Q E s:=by
  have hx:∃ o,(x,o)∈σ:=by obtain ⟨p,a,b⟩:=List.mem_map.mp hp.mem; exact ⟨p.2,by rw [← b]; exact a⟩
  obtain ⟨o₀,hx⟩:=hx
  refine F.storeAny hp (fun ψ e=>e) F.hotnew F.alive (fun ψ ψ e=>e) (fun ψ ψ e=>e) (fun ψ ψ=>rfl) (fun p hp y e ψ=>⟨fun q=>hna p hp (by rw [e,q]),fun ψ ψ e=>e⟩) (fun e=>by cases e) (fun h' hk hv=>⟨v,hv,?_⟩) h
  refine Rd.mono (fun b o nb e=>⟨(hk b (ne_hot F.nshot nb) fun c hl hc q=>?_).trans e,nb⟩) d v hr
  obtain ⟨c',_,h1,_,_,_,h5⟩:=F.cl _ hx hl
  rw [hc] at h1; cases h1
  exact nb (q ▸ h5)
end
theorem ofString_L (s:String):Str.ofString s = St (L s):=by simp [L,St]
noncomputable def BQ (W:Wo) (op:Operator) (a b c:V):Prop:=
  ∀ A,Room A 0→∀ s hot v₁ v₂ (Q:Value→Shared→Prop) E,Sub W.B s.heap→(∀ a,hot a→∃ o,s.heap.get? a = some o)→Rd s.heap hot a v₁→Rd s.heap hot b v₂ →
    (∀ v s',Grow s s'→Rd s'.heap hot c v→Q v s')→wpAny (model W.prog W.w) A (binaryOp op v₁ v₂) Q E s
noncomputable def CQ (W:Wo) (op:CmpOp) (a b:V) (c:Bool):Prop:=
  ∀ A,Room A 0→∀ s hot v₁ v₂ (Q:Value→Shared→Prop) E,Sub W.B s.heap→(∀ a,hot a→∃ o,s.heap.get? a = some o)→Rd s.heap hot a v₁→Rd s.heap hot b v₂ →
    (∀ s',Grow s s'→Q (.bool c) s')→wpAny (model W.prog W.w) A (compareOp op v₁ v₂) Q E s
noncomputable def UnOk (W:Wo) (op:UnaryOp) (a c:V):Prop:=
  ∀ A,Room A 0→∀ s hot v₁ (Q:Value→Shared→Prop) E,Sub W.B s.heap→Rd s.heap hot a v₁ →
    (∀ v s',Grow s s'→Rd s'.heap hot c v→Q v s')→wpAny (model W.prog W.w) A (unaryOp op v₁) Q E s
noncomputable def TruOk (W:Wo) (a:V) (c:Bool):Prop:=
  ∀ A,Room A 0→∀ s hot v₁ (Q:Bool→Shared→Prop) E,Sub W.B s.heap→Rd s.heap hot a v₁ →
    (∀ s',Grow s s'→Q c s')→wpAny (model W.prog W.w) A (truthy v₁) Q E s
noncomputable def IQ (W:Wo) (a i c:V):Prop:=
  ∀ A,Room A 0→∀ s hot v₁ v₂ (Q:Value→Shared→Prop) E,Sub W.B s.heap→(∀ a,hot a→∃ o,s.heap.get? a = some o)→Rd s.heap hot a v₁→Rd s.heap hot i v₂ →
    (∀ v s',Grow s s'→Rd s'.heap hot c v→Q v s')→∃ T id,typeLookup (.type T) "__getitem__" = pure (some (.builtin id))∧s.TypeIs v₁ T∧wpAny (model W.prog W.w) A (getItem v₁ v₂) Q E s
theorem intBits_le {a:Int} (h:a.natAbs < 2 ^ 64):Builtin.Int.intBits a≤64:=by
  unfold Builtin.Int.intBits
  split
  · omega
  · rename_i h0
    have:a.natAbs≠0:=by simpa using h0
    have:=(Nat.log2_lt this).mpr h
    omega
section
variable {W:Wo} {n:Nat} {sc:Scope} {σ:Store}
theorem BQ.add {a b:Int}:BQ W .Add (.int a) (.int b) (.int (a + b)):=by
  intro A hA s hot v₁ v₂ Q E _ _ h1 h2 k
  obtain ⟨t,rfl⟩:=rQ h1; obtain ⟨u,rfl⟩:=rQ h2
  exact @P.add_int _ _ _ _ _ _ _ _ _ _ (k _ _ .tok mk_int)
theorem BQ.sub {a b:Int}:BQ W .Sub (.int a) (.int b) (.int (a - b)):=by
  intro A hA s hot v₁ v₂ Q E _ _ h1 h2 k
  obtain ⟨t,rfl⟩:=rQ h1; obtain ⟨u,rfl⟩:=rQ h2
  exact @P.sub_int _ _ _ _ _ _ _ _ _ _ (k _ _ .tok mk_int)
theorem BQ.mulL {a b:Int} (h:a.natAbs < 2 ^ 64):BQ W .Mult (.int a) (.int b) (.int (a * b)):=by
  intro A hA s hot v₁ v₂ Q E _ _ h1 h2 k
  obtain ⟨t,rfl⟩:=rQ h1; obtain ⟨u,rfl⟩:=rQ h2
  exact @P.mul_int _ _ _ _ _ _ _ _ _ _ (k _ _ .tok mk_int) (.of_left (intBits_le h))
theorem BQ.fdiv {a b:Int} (h0:b≠0) (h:b.natAbs.log2 < 9000):BQ W .FloorDiv (.int a) (.int b) (.int (a.fdiv b)):=by
  intro A hA s hot v₁ v₂ Q E _ _ h1 h2 k
  obtain ⟨t,rfl⟩:=rQ h1; obtain ⟨u,rfl⟩:=rQ h2
  exact @floordiv_int _ _ _ _ _ _ _ _ _ _ h0 (k _ _ .tok mk_int) (.inl (PyProof.noPylong_of_log2 h))
theorem BQ.fmod {a b:Int} (h0:b≠0):BQ W .Mod (.int a) (.int b) (.int (a.fmod b)):=by
  intro A hA s hot v₁ v₂ Q E _ _ h1 h2 k
  obtain ⟨t,rfl⟩:=rQ h1; obtain ⟨u,rfl⟩:=rQ h2
  exact @PyProof.Rows.mod_int _ _ _ _ _ _ _ _ _ _ h0 (k _ _ .tok mk_int)
theorem BQ.pow {a b:Int} (h0:0≤b) (h1:b≤1000000) (ha:a.natAbs < 2 ^ 64):BQ W .Pow (.int a) (.int b) (.int (a ^ b.toNat)):=by
  intro A hA s hot v₁ v₂ Q E _ _ r1 r2 k
  obtain ⟨t,rfl⟩:=rQ r1; obtain ⟨u,rfl⟩:=rQ r2
  exact @pow_int_small _ _ _ _ _ _ _ _ _ _ h0 h1 ha (k _ _ .tok mk_int)
theorem BQ.shl {a b:Int} (h0:0≤b) (h1:b≤1000000) (ha:a.natAbs < 2 ^ 64):BQ W .LShift (.int a) (.int b) (.int (a * 2 ^ b.toNat)):=by
  intro A hA s hot v₁ v₂ Q E _ _ r1 r2 k
  obtain ⟨t,rfl⟩:=rQ r1; obtain ⟨u,rfl⟩:=rQ r2
  exact @lshift_int_small _ _ _ _ _ _ _ _ _ _ h0 h1 ha (k _ _ .tok mk_int)
theorem BQ.shr {a b:Int} (h0:0≤b):BQ W .RShift (.int a) (.int b) (.int (a.fdiv (2 ^ b.toNat))):=by
  intro A hA s hot v₁ v₂ Q E _ _ r1 r2 k
  obtain ⟨t,rfl⟩:=rQ r1; obtain ⟨u,rfl⟩:=rQ r2
  exact @rshift_int _ _ _ _ _ _ _ _ _ _ h0 (k _ _ .tok mk_int)
theorem BQ.and {a b:Int}:BQ W .BitAnd (.int a) (.int b) (.int (Builtin.bitAnd a b)):=by
  intro A hA s hot v₁ v₂ Q E _ _ r1 r2 k
  obtain ⟨t,rfl⟩:=rQ r1; obtain ⟨u,rfl⟩:=rQ r2
  exact @and_int _ _ _ _ _ _ _ _ _ _ (k _ _ .tok mk_int)
theorem BQ.or {a b:Int}:BQ W .BitOr (.int a) (.int b) (.int (Builtin.bitOr a b)):=by
  intro A hA s hot v₁ v₂ Q E _ _ r1 r2 k
  obtain ⟨t,rfl⟩:=rQ r1; obtain ⟨u,rfl⟩:=rQ r2
  exact @or_int _ _ _ _ _ _ _ _ _ _ (k _ _ .tok mk_int)
theorem St_app (a b:List Nat):St a ++ St b = St (a ++ b):=by
  show Str.mk (a.toArray ++ b.toArray) = Str.mk (a ++ b).toArray
  simp
theorem St_len (a:List Nat):(St a).length = a.length:=by simp [St,Str.length]
theorem BQ.cat {a b:List Nat} (h:a.length + b.length≤16777216):BQ W .Add (.str a) (.str b) (.str (a ++ b)):=by
  intro A hA s hot v₁ v₂ Q E _ _ r1 r2 k
  obtain ⟨t,rfl⟩:=sQ r1; obtain ⟨u,rfl⟩:=sQ r2
  refine SB.add (fun t' tk=>?_) (by rw [St_len,St_len,sizeLine_eq]; exact h)
  rw [St_app]
  exact k _ _ .tok mk_str
noncomputable def rep (a:List Nat) (n:Int):List Nat:=(List.replicate n.toNat a).flatten
theorem St_mul (a:List Nat) (n:Int):Txt.mul (St a) n = St (rep a n):=by
  unfold Txt.mul rep
  by_cases h1:n < 1
  · rw [if_pos h1]
    have:n.toNat = 0:=by omega
    rw [this]; rfl
  · rw [if_neg h1]
    by_cases h2:n = 1
    · subst h2; simp
    · by_cases h3:a = []
      · subst h3; simp [St,Str.length]
      · have e:(n == 1 || (St a).length == 0) = false:=by
          simp [St_len,h2,h3]
        rw [if_neg (by rw [e]; exact Bool.false_ne_true)]
        have key:∀ (k:Nat) (acc:Array Nat),(List.replicate k a.toArray).foldl (· ++ ·) acc = acc ++ ((List.replicate k a).flatten).toArray:=by
          intro k
          induction k with
          | zero=>intro acc; simp
          | succ k ih=>intro acc; rw [List.replicate_succ,List.foldl_cons,ih]; simp [List.replicate_succ,Array.append_assoc]
        show Str.mk ((List.replicate n.toNat a.toArray).foldl (· ++ ·) #[]) = _
        rw [key]; simp [St]
theorem BQ.rep {a:List Nat} {m:Int} (l k:Nat) (hl:a.length≤l) (hm:m≤k) (hlo:-1000≤m) (hk:k≤16777216) (h:l * k≤16777216):BQ W .Mult (.str a) (.int m) (.str (Mine.Internal.rep a m)):=by
  intro A hA s hot v₁ v₂ Q E _ _ r1 r2 kk
  obtain ⟨t,rfl⟩:=sQ r1; obtain ⟨u,rfl⟩:=rQ r2
  refine SB.mul (mulOk_of l k (by rw [St_len]; exact hl) hm (by omega) hk h) fun t' tk=>?_
  rw [St_mul]
  exact kk _ _ .tok mk_str
theorem CQ.eq_int {a b:Int}:CQ W .Eq (.int a) (.int b) (a == b):=by
  intro A hA s hot v₁ v₂ Q E _ _ r1 r2 k
  obtain ⟨t,rfl⟩:=rQ r1; obtain ⟨u,rfl⟩:=rQ r2
  exact @P.eq_int _ _ _ _ _ _ _ _ _ _ (k s (.refl s))
theorem CQ.ne_int {a b:Int}:CQ W .NotEq (.int a) (.int b) (a != b):=by
  intro A hA s hot v₁ v₂ Q E _ _ r1 r2 k
  obtain ⟨t,rfl⟩:=rQ r1; obtain ⟨u,rfl⟩:=rQ r2
  exact @P.ne_int _ _ _ _ _ _ _ _ _ _ (k s (.refl s))
theorem CQ.lt_int {a b:Int}:CQ W .Lt (.int a) (.int b) (decide (a < b)):=by
  intro A hA s hot v₁ v₂ Q E _ _ r1 r2 k
  obtain ⟨t,rfl⟩:=rQ r1; obtain ⟨u,rfl⟩:=rQ r2
  exact @P.lt_int _ _ _ _ _ _ _ _ _ _ (k s (.refl s))
theorem CQ.ge_int {a b:Int}:CQ W .GtE (.int a) (.int b) (decide (a ≥ b)):=by
  intro A hA s hot v₁ v₂ Q E _ _ r1 r2 k
  obtain ⟨t,rfl⟩:=rQ r1; obtain ⟨u,rfl⟩:=rQ r2
  exact @P.ge_int _ _ _ _ _ _ _ _ _ _ (k s (.refl s))
theorem CQ.ne_bool {a b:Bool}:CQ W .NotEq (.bool a) (.bool b) (a != b):=by
  intro A hA s hot v₁ v₂ Q E _ _ r1 r2 k
  cases rd_bool r1; cases rd_bool r2
  exact @PyProof.Rows.ne_bool _ _ _ _ _ _ _ _ (k s (.refl s))
theorem CQ.eq_str {a b:List Nat}:CQ W .Eq (.str a) (.str b) (a == b):=by
  intro A hA s hot v₁ v₂ Q E _ _ r1 r2 k
  obtain ⟨t,rfl⟩:=sQ r1; obtain ⟨u,rfl⟩:=sQ r2
  exact @P.eq_str _ _ _ _ _ _ _ _ _ _ (k s (.refl s))
theorem CQ.ne_str {a b:List Nat}:CQ W .NotEq (.str a) (.str b) (a != b):=by
  intro A hA s hot v₁ v₂ Q E _ _ r1 r2 k
  obtain ⟨t,rfl⟩:=sQ r1; obtain ⟨u,rfl⟩:=sQ r2
  exact @P.ne_str _ _ _ _ _ _ _ _ _ _ (k s (.refl s))
theorem CQ.le_str {a b:List Nat}:CQ W .LtE (.str a) (.str b) (!(decide (b < a))):=by
  intro A hA s hot v₁ v₂ Q E _ _ r1 r2 k
  obtain ⟨t,rfl⟩:=sQ r1; obtain ⟨u,rfl⟩:=sQ r2
  exact @P.le_str _ _ _ _ _ _ _ _ _ _ (k s (.refl s))
theorem CQ.gt_str {a b:List Nat}:CQ W .Gt (.str a) (.str b) (decide (b < a)):=by
  intro A hA s hot v₁ v₂ Q E _ _ r1 r2 k
  obtain ⟨t,rfl⟩:=sQ r1; obtain ⟨u,rfl⟩:=sQ r2
  exact @P.gt_str _ _ _ _ _ _ _ _ _ _ (k s (.refl s))
noncomputable def isIn (y x:List Nat):Bool:=Txt.contains (St x) (St y)
theorem CQ.in_str {a b:List Nat}:CQ W .In (.str a) (.str b) (isIn a b):=by
  intro A hA s hot v₁ v₂ Q E _ _ r1 r2 k
  obtain ⟨t,rfl⟩:=sQ r1; obtain ⟨u,rfl⟩:=sQ r2
  exact @SB.contains _ _ _ _ _ _ _ _ _ _ (k s (.refl s))
theorem CQ.notIn_str {a b:List Nat}:CQ W .NotIn (.str a) (.str b) (!(isIn a b)):=by
  intro A hA s hot v₁ v₂ Q E _ _ r1 r2 k
  obtain ⟨t,rfl⟩:=sQ r1; obtain ⟨u,rfl⟩:=sQ r2
  exact @SB.notContains _ _ _ _ _ _ _ _ _ _ (k s (.refl s))
theorem UnOk.neg {a:Int}:UnOk W .USub (.int a) (.int (-a)):=by
  intro A hA s hot v₁ Q E _ r1 k
  obtain ⟨t,rfl⟩:=rQ r1
  exact @P.neg_int _ _ _ _ _ _ _ _ (k _ _ .tok mk_int)
theorem TruOk.bool {b:Bool}:TruOk W (.bool b) b:=by
  intro A hA s hot v₁ Q E _ r1 k
  cases rd_bool r1
  exact wpAny_truthy_bool (k s (.refl s))
end
section
variable {W:Wo} {n:Nat} {sc:Scope} {σ:Store}
theorem Ev.int {i:Int} {j pos}:Ev W n sc σ (.Constant (.int i) j pos) (.int i):=
  ⟨fun env he A hA s hot Q E g k=>wpAny_Constant_int (k _ _ .tok mk_int)⟩
theorem Ev.none {j pos}:Ev W n sc σ (.Constant .none j pos) .none:=
  ⟨fun env he A hA s hot Q E g k=>wpAny_pure (k _ _ (.refl s) mk_none)⟩
theorem Ev.bool {b:Bool} {j pos}:Ev W n sc σ (.Constant (.bool b) j pos) (.bool b):=
  ⟨fun env he A hA s hot Q E g k=>wpAny_pure (k _ _ (.refl s) mk_bool)⟩
theorem Ev.str {x:String} {j pos}:Ev W n sc σ (.Constant (.str (Str.ofString x)) j pos) (.str (L x)):=
  ⟨fun env he A hA s hot Q E g k=>by rw [ofString_L]; exact @wpAny_mkText _ _ _ _ _ _ (k _ _ .tok mk_str)⟩
theorem Ev.bin {l r:PySem.Expr} {op:Operator} {pos} {a b c:V} (hl:Ev W n sc σ l a) (hr:Ev W n sc σ r b) (ho:BQ W op a b c):Ev W n sc σ (.BinOp l op r pos) c:=
  ⟨fun env he A hA s hot Q E g k=>wpAny_BinOp (hl.run env he A hA s hot _ E g fun v₁ s₁ g₁ r₁=>hr.run env he A hA s₁ hot _ E (g.grow g₁) fun v₂ s₂ g₂ r₂=>
    ho A (hA.less (Nat.zero_le _)) s₂ hot v₁ v₂ Q E ((g.grow g₁).grow g₂).base ((g.grow g₁).grow g₂).alive (r₁.sub g₂.sub) r₂ fun v s' g₃ r₃=>k v s' ((g₁.trans g₂).trans g₃) r₃)⟩
theorem Ev.cmp {l r:PySem.Expr} {op:CmpOp} {pos} {a b:V} {c:Bool} (hl:Ev W n sc σ l a) (hr:Ev W n sc σ r b) (ho:CQ W op a b c) (hm:behindInMarks op r = false):Ev W n sc σ (.Compare l [op] [r] pos) (.bool c):=
  ⟨fun env he A hA s hot Q E g k=>wpAny_Compare1 (hl.run env he A hA s hot _ E g fun v₁ s₁ g₁ r₁=>hr.run env he A hA s₁ hot _ E (g.grow g₁) fun v₂ s₂ g₂ r₂=>
    ho A (hA.less (Nat.zero_le _)) s₂ hot v₁ v₂ Q E ((g.grow g₁).grow g₂).base ((g.grow g₁).grow g₂).alive (r₁.sub g₂.sub) r₂ fun s' g₃=>k _ s' ((g₁.trans g₂).trans g₃) mk_bool) hm⟩
theorem EvT.cmp {l r:PySem.Expr} {op:CmpOp} {pos} {a b:V} {c:Bool} (hl:Ev W n sc σ l a) (hr:Ev W n sc σ r b) (ho:CQ W op a b c) (hm:behindInMarks op r = false):EvT W n sc σ (.Compare l [op] [r] pos) c:=
  ⟨fun env he A hA s hot Q E g k=>wpAny_isTrue_Compare1 (hl.run env he A hA s hot _ E g fun v₁ s₁ g₁ r₁=>hr.run env he A hA s₁ hot _ E (g.grow g₁) fun v₂ s₂ g₂ r₂=>
    ho A (hA.less (Nat.zero_le _)) s₂ hot v₁ v₂ _ E ((g.grow g₁).grow g₂).base ((g.grow g₁).grow g₂).alive (r₁.sub g₂.sub) r₂ fun s' g₃=>
      wpAny_truthy_bool (k s' ((g₁.trans g₂).trans g₃))) hm⟩
theorem Ev.un {e:PySem.Expr} {op:UnaryOp} {pos} {a c:V} (h:Ev W n sc σ e a) (ho:UnOk W op a c):Ev W n sc σ (.UnaryOp op e pos) c:=
  ⟨fun env he A hA s hot Q E g k=>by
    show wpAny _ A (do let v ← eval e env; standAt pos; holding [v] (unaryOp op v)) Q E s
    exact wpAny_bind (h.run env he A hA s hot _ E g fun v₁ s₁ g₁ r₁=>wpAny_bind (wpAny_standAt (wpAny_holding
      (ho A (hA.less (Nat.zero_le _)) s₁ hot v₁ Q E (g.grow g₁).base r₁ fun v s' g₃ r₃=>k v s' (g₁.trans g₃) r₃))))⟩
theorem EvT.not {e:PySem.Expr} {pos} {b:Bool} (h:EvT W n sc σ e b):EvT W n sc σ (.UnaryOp .Not e pos) (!b):=
  ⟨fun env he A hA s hot Q E g k=>by
    show wpAny _ A (do return !(← isTrue e env (eval e env))) Q E s
    exact wpAny_bind (h.run env he A hA s hot _ E g fun s₁ g₁=>wpAny_pure (k s₁ g₁))⟩
theorem EvT.and {es:List PySem.Expr} {e:PySem.Expr} {pos} {b c:Bool} (h:EvT W n sc σ e b) (h2:b = true→EvT W n sc σ (.BoolOp .And es pos) c):EvT W n sc σ (.BoolOp .And (e :: es) pos) (b && c):=
  ⟨fun env he A hA s hot Q E g k=>by
    show wpAny _ A (do match BoolOp.And,← isTrue e env (eval e env) with | .And,false=>pure false | .Or,true=>pure true | _,_=>allTrue .And es env) Q E s
    refine wpAny_bind (h.run env he A hA s hot _ E g fun s₁ g₁=>?_)
    cases b with
    | false=>exact wpAny_pure (k s₁ g₁)
    | true=>exact (h2 rfl).run env he A hA s₁ hot Q E (g.grow g₁) fun s₂ g₂=>k s₂ (g₁.trans g₂)⟩
theorem EvT.and_nil {pos}:EvT W n sc σ (.BoolOp .And [] pos) true:=⟨fun env he A hA s hot Q E g k=>wpAny_pure (k s (.refl s))⟩
theorem EvT.or {es:List PySem.Expr} {e:PySem.Expr} {pos} {b c:Bool} (h:EvT W n sc σ e b) (h2:b = false→EvT W n sc σ (.BoolOp .Or es pos) c):EvT W n sc σ (.BoolOp .Or (e :: es) pos) (b || c):=
  ⟨fun env he A hA s hot Q E g k=>by
    show wpAny _ A (do match BoolOp.Or,← isTrue e env (eval e env) with | .And,false=>pure false | .Or,true=>pure true | _,_=>allTrue .Or es env) Q E s
    refine wpAny_bind (h.run env he A hA s hot _ E g fun s₁ g₁=>?_)
    cases b with
    | true=>exact wpAny_pure (k s₁ g₁)
    | false=>exact (h2 rfl).run env he A hA s₁ hot Q E (g.grow g₁) fun s₂ g₂=>k s₂ (g₁.trans g₂)⟩
theorem Ev.ite {t a b:PySem.Expr} {pos} {c:Bool} {d:V} (h:EvT W n sc σ t c) (ha:c = true→Ev W n sc σ a d) (hb:c = false→Ev W n sc σ b d):Ev W n sc σ (.IfExp t a b pos) d:=
  ⟨fun env he A hA s hot Q E g k=>by
    show wpAny _ A (do if ← isTrue t env (eval t env) then eval a env else eval b env) Q E s
    refine wpAny_bind (h.run env he A hA s hot _ E g fun s₁ g₁=>?_)
    cases c with
    | true=>exact (ha rfl).run env he A hA s₁ hot Q E (g.grow g₁) fun v s₂ g₂ r=>k v s₂ (g₁.trans g₂) r
    | false=>exact (hb rfl).run env he A hA s₁ hot Q E (g.grow g₁) fun v s₂ g₂ r=>k v s₂ (g₁.trans g₂) r⟩
theorem Ev.item {e i:PySem.Expr} {pos} {a b c:V} (he:Ev W n sc σ e a) (hi:Ev W n sc σ i b) (ho:IQ W a b c) (hs:∀ o v,subscripted i false o v = operate [o,v] (getItem o v)):Ev W n sc σ (.Subscript e i pos) c:=
  ⟨fun env hq A hA s hot Q E g k=>@Subscript_ _ _ _ _ _ _ _ _ _ (he.run env hq A hA s hot _ E g fun v₁ s₁ g₁ r₁=>hi.run env hq A hA s₁ hot _ E (g.grow g₁) fun v₂ s₂ g₂ r₂=>by
    obtain ⟨T,id,hl,hT,hg⟩:=ho A (hA.less (Nat.zero_le _)) s₂ hot v₁ v₂ Q E ((g.grow g₁).grow g₂).base ((g.grow g₁).grow g₂).alive (r₁.sub g₂.sub) r₂ fun v s' g₃ r₃=>k v s' ((g₁.trans g₂).trans g₃) r₃
    exact tail_any hT hl hg (hs _ _))⟩
structure Evs (W:Wo) (n:Nat) (sc:Scope) (σ:Store) (es:List PySem.Expr) (ds:List V):Prop where
  run:∀ env,env.scope = sc→∀ A,Room A n→∀ s hot (Q:List Value→Shared→Prop) E pos,Good W env σ hot s →
    (∀ vs s',Grow s s'→Rds s'.heap hot ds vs→Q vs s')→wpAny (model W.prog W.w) A (spliced (backTo pos (starEach es env))) Q E s
  plain:∀ env pos,(backTo pos (starEach es env)).any (·.1) = false∧(backTo pos (starEach es env)).all (fun x=>!x.1) = true∧(backTo pos (starEach es env)).length = es.length
theorem Evs.nil:Evs W n sc σ [] []:=⟨fun env he A hA s hot Q E pos g k=>wpAny_pure (k _ s (.refl s) .nil),fun ψ ψ=>⟨rfl,rfl,rfl⟩⟩
theorem Evs.cons {e:PySem.Expr} {es:List PySem.Expr} {d:V} {ds:List V} (h:Ev W n sc σ e d) (hs:Evs W n sc σ es ds) (hn:∀ env,starEach (e :: es) env = (false,eval e env) :: starEach es env):Evs W n sc σ (e :: es) (d :: ds):=
  ⟨fun env he A hA s hot Q E pos g k=>by
    rw [hn]
    exact Calls.spliced_cons (h.run env he A hA s hot _ E g fun v₁ s₁ g₁ r₁=>hs.run env he A hA s₁ hot _ E pos (g.grow g₁) fun vs s₂ g₂ r₂=>k _ _ (g₁.trans g₂) (.cons (r₁.sub g₂.sub) r₂)),
   fun env pos=>by
    rw [hn]
    obtain ⟨a,b,c⟩:=hs.plain env pos
    refine ⟨?_,?_,?_⟩
    · show (false || (backTo pos (starEach es env)).any (·.1)) = false; rw [a]; rfl
    · show (!false && (backTo pos (starEach es env)).all (fun x=>!x.1)) = true; rw [b]; rfl
    · show (backTo pos (starEach es env)).length + 1 = es.length + 1; rw [c]⟩
theorem Rds.le {h:Heap} {hot:Addr→Prop} {ds:List V} {vs:List Value} (x:Rds h hot ds vs) {m:Nat} (k:ds.length≤m):vs.length≤m:=by rw [x.length]; exact k
theorem newIsHot {hot:Addr→Prop} {h:Heap} (al:∀ a,hot a→∃ o,h.get? a = some o):¬ hot h.objs.size:=fun q=>by
  obtain ⟨o,e⟩:=al _ q
  exact absurd (Heap.lt_size e) (Nat.lt_irrefl _)
theorem Ev.list {es:List PySem.Expr} {pos} {ds:List V} (h:Evs W n sc σ es ds) (hs:ds.length≤16777216):Ev W n sc σ (.List es pos) (.list ds):=
  ⟨fun env he A hA s hot Q E g k=>@PyProof.Rows.List_ _ _ _ _ _ _ _ _ (h.run env he A hA s hot _ E pos g fun vs s₁ g₁ r₁=>by
    have hz:vs.toArray.size≤sizeLine:=by rw [List.size_toArray,sizeLine_eq]; exact r₁.le hs
    refine wpAny_newObj_type ?_ hz
    have up:Sub s₁.heap (s₁.heap.push { cls:=.type "list",dict:=Option.none,data:=.seq vs.toArray }):=fun b o e=>Heap.get?_push_of_some _ e
    refine k _ _ (g₁.trans ⟨up,rfl,fun e=>e⟩) ?_
    unfold Rd
    exact ⟨_,vs.toArray,rfl,newIsHot (g.grow g₁).alive,⟨0,Heap.get?_push_size _ rfl⟩,by rw [List.toList_toArray]; exact r₁.sub up⟩)⟩
theorem Ev.tup {es:List PySem.Expr} {j pos} {ds:List V} (h:Evs W n sc σ es ds) (hs:ds.length≤16777216):Ev W n sc σ (.Tuple es j pos) (.tup ds):=
  ⟨fun env he A hA s hot Q E g k=>@PyProof.Rows.Tuple_ _ _ _ _ _ _ _ _ _ (h.run env he A hA s hot _ E pos g fun vs s₁ g₁ r₁=>by
    have hz:vs.toArray.size≤sizeLine:=by rw [List.size_toArray,sizeLine_eq]; exact r₁.le hs
    refine wpAny_newObj_type ?_ hz
    have up:Sub s₁.heap (s₁.heap.push { cls:=.type "tuple",dict:=Option.none,data:=.seq vs.toArray }):=fun b o e=>Heap.get?_push_of_some _ e
    refine k _ _ (g₁.trans ⟨up,rfl,fun e=>e⟩) ?_
    unfold Rd
    exact ⟨_,vs.toArray,rfl,newIsHot (g.grow g₁).alive,⟨_,Heap.get?_push_size _ rfl,rfl,0,rfl⟩,by rw [List.toList_toArray]; exact r₁.sub up⟩)⟩
end
section
variable {W:Wo} {n:Nat} {sc:Scope} {σ:Store}
noncomputable def isGlob (sc:Scope) (x:Str):Bool:=!(x == ("__debug__" : Str)) && !(x == ("__name__" : Str)) && match sc.names.lookup x with
  | some .globalImplicit=>true
  | _=>false
theorem isGlob_1 {sc x} (h:isGlob sc x = true):(x == ("__debug__" : Str)) = false:=by
  unfold isGlob at h; simp only [Bool.and_eq_true,Bool.not_eq_true'] at h; exact h.1.1
theorem isGlob_2 {sc x} (h:isGlob sc x = true):x≠"__name__":=by
  unfold isGlob at h; simp only [Bool.and_eq_true,Bool.not_eq_true'] at h; exact beq_eq_false_iff_ne.mp h.1.2
theorem isGlob_3 {sc x} (h:isGlob sc x = true):sc.names.lookup x = some .globalImplicit:=by
  unfold isGlob at h; simp only [Bool.and_eq_true] at h
  obtain ⟨_,h⟩:=h
  split at h
  · assumption
  · cases h
theorem Ev.glob {x:Str} {pos:Pos} {v:Value} (hv:isGlob sc x = true) (hm:W.mg x = some v):Ev W n sc σ (.Name x pos) (.val v):=
  ⟨fun env he A hA s hot Q E g k=>by
    subst he
    exact Calls.Name_function_global g.kind (isGlob_3 hv) (Calls.loadGlobal_global (by rw [g.globals]; exact W.hg.keeps g.base) hm (k v s (.refl s) mk_val)) (isGlob_1 hv)⟩
theorem Ev.builtin {x:Str} {pos:Pos} {v:Value} (hv:isGlob sc x = true) (hm:W.mg x = Option.none) (hb:bootBuiltins x = some v):Ev W n sc σ (.Name x pos) (.val v):=
  ⟨fun env he A hA s hot Q E g k=>by
    subst he
    exact Calls.Name_function_global g.kind (isGlob_3 hv) (Calls.loadGlobal_builtin (by rw [g.globals]; exact W.hg.keeps g.base) hm (by rw [g.builtins]; exact W.hb.keeps g.base)
      ((W.hbt x (isGlob_2 hv)).trans hb) (k v s (.refl s) mk_val)) (isGlob_1 hv)⟩
noncomputable def KQ (W:Wo) (n:Nat) (f:Value) (ds:List V) (c:V):Prop:=
  ∀ A,Room A n→∀ s hot vs (Q:Value→Shared→Prop) E,Sub W.B s.heap→(∀ a,hot a→∃ o,s.heap.get? a = some o)→Rds s.heap hot ds vs →
    (∀ v s',Grow s s'→Rd s'.heap hot c v→Q v s')→wpAny (model W.prog W.w) A (call f vs) Q E s
noncomputable def Callee (W:Wo):Value→Prop
  | .builtin _=>True
  | .type _=>True
  | .ref a=>∃ o fd,W.B.get? a = some o∧o.data = .func fd
  | _=>False
theorem evalArgs_any {M:Model} {A:Around} {E:Value→Shared→Prop} {s:Shared} {f:Value} {args:List (Bool × Sem Value)} {Q:Args→Shared→Prop} (hp:args.any (·.1) = false)
    (h:wpAny M A (spliced args) (fun vs s'=>Q ⟨vs,[]⟩ s') E s):wpAny M A (evalArgs f true args []) Q E s:=by
  cases args with
  | nil=>
    unfold evalArgs
    show wpAny M A (spliced [] >>= _) Q E s
    exact wpAny_bind (wpAny_mono h (fun vs s' h'=>wpAny_holding (wpAny_bind (wpAny_pure (wpAny_bind (wpAny_pure (wpAny_pure h')))))) fun ψ ψ x=>x)
  | cons x rest=>
    obtain ⟨b,x⟩:=x
    cases b with
    | true=>simp at hp
    | false=>exact Calls.evalArgs_plain h
theorem callWith_any {f:Value} {pos:Pos} {first:List Value} {args:List (Bool × Sem Value)} {A:Around} {E:Value→Shared→Prop} {s:Shared} {Q:Value→Shared→Prop} (hc:Callee W f) (hp:args.any (·.1) = false)
    (h:wpAny (model W.prog W.w) A (spliced args) (fun vs s'=>Sub W.B s'.heap∧wpAny (model W.prog W.w) A (call f (first ++ vs)) Q E s') E s) :
    wpAny (model W.prog W.w) A (callWith pos f first args []) Q E s:=by
  cases f with
  | builtin id=>exact Calls.callWith_builtin hp (evalArgs_any hp (wpAny_mono h (fun ψ ψ x=>x.2) fun ψ ψ x=>x))
  | type T=>exact PyProof.Rows.callWith_type hp (evalArgs_any hp (wpAny_mono h (fun ψ ψ x=>x.2) fun ψ ψ x=>x))
  | ref a=>
    obtain ⟨o,fd,ho,hd⟩:=hc
    exact Calls.callWith_function (o:=o) (fd:=fd) (evalArgs_any hp (wpAny_mono h (fun ψ ψ x=>⟨⟨x.1 _ _ ho,hd⟩,x.2⟩) fun ψ ψ x=>x))
  | _=>exact hc.elim
theorem Ev.call {x:Str} {p pos:Pos} {args:List PySem.Expr} {f:Value} {ds:List V} {c:V} (hf:Ev W n sc σ (.Name x p) (.val f)) (ha:Evs W n sc σ args ds) (hc:Callee W f) (hk:KQ W n f ds c) :
    Ev W n sc σ (.Call (.Name x p) args [] pos) c:=
  ⟨fun env he A hA s hot Q E g k=>by
    refine wpAny_Call_NameR (hf.run env he A hA s hot _ E g fun v s₁ g₁ r₁=>?_)
    cases rd_val r₁
    refine callWith_any hc (ha.plain env pos).1 (ha.run env he A hA s₁ hot _ E pos (g.grow g₁) fun vs s₂ g₂ r₂=>⟨((g.grow g₁).grow g₂).base,?_⟩)
    exact hk A hA s₂ hot vs Q E ((g.grow g₁).grow g₂).base ((g.grow g₁).grow g₂).alive r₂ fun v s₃ g₃ r₃=>k v s₃ ((g₁.trans g₂).trans g₃) r₃⟩
structure Meth (T:String) (name:Str) (id:String):Prop where
  pa:PlainAttrs T
  slot:PySem.Slot T name id
  ty:typeOf (.builtin id) = pure (.type "method_descriptor")
noncomputable def HQ (d:V) (T:String):Prop:=∀ (s:Shared) hot (v:Value),Rd s.heap hot d v→s.TypeIs v T∧∀ a,v = .ref a→∃ ob,s.heap.get? a = some ob∧ob.dict = Option.none
theorem HQ.str {l}:HQ (.str l) "str":=fun s hot v r=>by
  obtain ⟨t,rfl⟩:=sQ r
  exact ⟨typeIs_str _ _ _,fun a e=>nomatch e⟩
theorem HQ.bytes {l}:HQ (.bytes l) "bytes":=fun s hot v r=>by
  obtain ⟨t,rfl⟩:=rd_bytes r
  exact ⟨typeIs_bytes _ _ _,fun a e=>nomatch e⟩
theorem Ev.meth {o:PySem.Expr} {name:Str} {apos pos:Pos} {args:List PySem.Expr} {T id:String} {a:V} {ds:List V} {c:V} (ho:Ev W n sc σ o a) (ha:Evs W n sc σ args ds) (ht:HQ a T) (hm:Meth T name id)
    (hk:KQ W n (.builtin id) (a :: ds) c) (hbase:∀ env,attributeBase o name env (eval o env) = eval o env) (hline:(apos.endLine == pos.line) = true) (hn:args.length < 20) :
    Ev W n sc σ (.Call (.Attribute o name apos) args [] pos) c:=
  ⟨fun env he A hA s hot Q E g k=>by
    refine wpAny_Call_method_lateS (hbase env) ?_ hline (ho.run env he A hA s hot _ E g fun v s₁ g₁ r₁=>?_)
    · rw [(ha.plain env pos).2.1]
      show (true && true && decide (args.length + 0 + 0 < 30)) = true
      simp; omega
    · obtain ⟨h1,h2⟩:=ht s₁ hot v r₁
      refine ⟨T,id,hm.pa,hm.slot,hm.ty,h1,h2,callWith_any (W:=W) trivial (ha.plain env pos).1 (ha.run env he A hA s₁ hot _ E pos (g.grow g₁) fun vs s₂ g₂ r₂=>⟨((g.grow g₁).grow g₂).base,?_⟩)⟩
      exact hk A hA s₂ hot _ Q E ((g.grow g₁).grow g₂).base ((g.grow g₁).grow g₂).alive (.cons (r₁.sub g₂.sub) r₂) fun v s₃ g₃ r₃=>k v s₃ ((g₁.trans g₂).trans g₃) r₃⟩
theorem PlainList.isList {h:Heap} {a:Addr} {items:Array Value} (x:h.PlainList a items):h.IsList a items:=let ⟨n,e⟩:=x; ⟨_,e,rfl,n,rfl⟩
theorem IQ.list {l:List V} {i:Int} {c:V} (h0:0≤i) (h1:i < 2 ^ 63) (h:l[i.toNat]? = some c):IQ W (.list l) (.int i) c:=by
  intro A hA s hot v₁ v₂ Q E hb al r1 r2 k
  obtain ⟨a,items,rfl,_,hl,hr⟩:=rd_list r1; obtain ⟨u,rfl⟩:=rQ r2
  obtain ⟨v,hv,rv⟩:=hr.getElem h
  exact ⟨"list",_,slot_list_getitem.lookup,(PlainList.isList hl).typeIs,@wpAny_getItem_list _ _ _ _ _ _ _ _ _ _ _ (PlainList.isList hl) h0 h1 (by simpa using hv) (k v s (.refl s) rv)⟩
noncomputable def chAt (l:List Nat) (i:Int):Option Nat:=(seqIndex? i l.length).bind (l[·]?)
theorem IQ.str {l:List Nat} {i:Int} {c:Nat} (h0:-(2 ^ 63)≤i) (h1:i < 2 ^ 63) (h:chAt l i = some c):IQ W (.str l) (.int i) (.str [c]):=by
  intro A hA s hot v₁ v₂ Q E hb al r1 r2 k
  obtain ⟨t,rfl⟩:=sQ r1; obtain ⟨u,rfl⟩:=rQ r2
  refine ⟨"str",_,slot_str_getitem.lookup,typeIs_str _ _ _,@PyProof.Rows.getItem_str _ _ _ _ _ _ _ _ _ _ _ ?_ ?_ (k _ _ .tok mk_str)⟩
  · rw [decide_eq_false (by exact o0 h0),decide_eq_false (by exact o1 h1)]; rfl
  · unfold chAt at h
    simpa [St,Str.length] using h
end
section
variable {W:Wo} {env:Env} {base base':Shared} {out out' hot hot':Addr→Prop} {oa:Str→Addr} {σ σ':Store} {s s':Shared}
noncomputable def mutL (env:Env) (σ:Store) (oa:Str→Addr):List Addr:=
  env.locals :: ((σ.filterMap fun p=>if env.scope.names.lookup p.1 = some .cell then env.cells.lookup p.1 else none) ++ σ.filterMap fun p=>if p.2.isOwn = true then some (oa p.1) else none)
theorem mQ {b:Addr}:b∈mutL env σ oa↔b = env.locals∨(∃ p∈σ,env.scope.names.lookup p.1 = some .cell∧env.cells.lookup p.1 = some b)∨∃ p∈σ,p.2.isOwn = true∧b = oa p.1:=by
  unfold mutL
  rw [List.mem_cons,List.mem_append,List.mem_filterMap,List.mem_filterMap]
  constructor
  · rintro (h | ⟨p,hp,h⟩ | ⟨p,hp,h⟩)
    · exact .inl h
    · split at h
      · exact .inr (.inl ⟨p,hp,by assumption,h⟩)
      · cases h
    · split at h
      · cases h; exact .inr (.inr ⟨p,hp,by assumption,rfl⟩)
      · cases h
  · rintro (h | ⟨p,hp,h1,h2⟩ | ⟨p,hp,h1,h2⟩)
    · exact .inl h
    · exact .inr (.inl ⟨p,hp,by rw [if_pos h1]; exact h2⟩)
    · exact .inr (.inr ⟨p,hp,by rw [if_pos h1,h2]⟩)
theorem Fm.mutNew (F:Fm W env base out hot oa σ s):∀ b∈mutL env σ oa,base.heap.get? b = none∧hot b:=fun b hb=>by
  rcases mQ.mp hb with h | ⟨p,hp,h1,h2⟩ | ⟨p,hp,h1,h2⟩
  · subst h; exact ⟨F.nsNew,F.nshot⟩
  · obtain ⟨c,v,h3,_,h4,_,h5⟩:=F.cl p hp h1
    rw [h2] at h3; cases h3; exact ⟨h4,h5⟩
  · subst h2
    have:=F.vars p hp
    cases h:p.2 with
    | own l=>rw [h] at this; obtain ⟨items,_,_,_,a,b,_⟩:=this; exact ⟨b,a⟩
    | _=>rw [h] at h1; cases h1
noncomputable abbrev hidden (env:Env) (σ:Store) (oa:Str→Addr) (s:Shared):Shared:={ s with heap:=hideAll s.heap (mutL env σ oa) }
theorem Fm.grow_hidden (F:Fm W env base out hot oa σ s):Grow base (hidden env σ oa s) where
  sub:=fun b o e=>hideAll_get _ (F.grow.sub b o e) fun hb=>by rw [(F.mutNew b hb).1] at e; cases e
  os:=F.grow.os
  gens:=F.grow.gens
theorem Fm.rebase (F:Fm W env base out hot oa σ s):Fm W env (hidden env σ oa s) (fun a=>hot a∧a ∉ mutL env σ oa) hot oa σ s:=
  { F with
    wbase:=fun b o e=>F.grow_hidden.sub b o (F.wbase b o e)
    grow:=⟨fun b o e=>of_hideAll _ e,rfl,fun e=>e⟩
    nsNew:=hideAll_none _ (mQ.mpr (.inl rfl))
    cl:=fun p hp hk=>by
      obtain ⟨c,v,h1,h2,h3,h4,h5⟩:=F.cl p hp hk
      exact ⟨c,v,h1,h2,hideAll_none _ (mQ.mpr (.inr (.inl ⟨p,hp,hk,h1⟩))),h4,h5⟩
    vars:=fun p hp=>by
      have old:=F.vars p hp
      cases h:p.2 with
      | unset=>trivial
      | val d=>rw [h] at old; exact old
      | own l=>rw [h] at old; obtain ⟨items,a,b,c,d,e,f⟩:=old; exact ⟨items,a,b,c,d,hideAll_none _ (mQ.mpr (.inr (.inr ⟨p,hp,by rw [h]; rfl,rfl⟩))),f⟩
      | app y=>rw [h] at old; exact old
    outhot:=fun a ha=>ha.1
    outlive:=fun a ha=>let ⟨o,e⟩:=F.alive a ha.1; ⟨o,hideAll_get _ e ha.2⟩
    hotnew:=fun a ha=>by
      by_cases q:a∈mutL env σ oa
      · exact .inr (hideAll_none _ q)
      · exact .inl ⟨ha,q⟩ }
theorem Fm.outMut (F:Fm W env base out hot oa σ s):∀ a,out a→hot a∧a ∉ mutL env σ oa:=fun a ha=>⟨F.outhot a ha,fun q=>by
  obtain ⟨o,e⟩:=F.outlive a ha
  rw [(F.mutNew a q).1] at e; cases e⟩
theorem nQ {h h':Heap} {a:Addr} (k:Sub h h') (e:h'.get? a = none):h.get? a = none:=by
  cases q:h.get? a with
  | none=>rfl
  | some o=>rw [k _ _ q] at e; cases e
theorem Fm.debase (F:Fm W env base' out' hot oa σ s) (g:Grow base base') (w:Sub W.B base.heap) (ho:∀ a,out a→out' a) (hn:∀ a,out' a→out a∨base.heap.get? a = none) (hv:∀ a,out a→∃ o,base.heap.get? a = some o):Fm W env base out hot oa σ s:=
  { F with
    wbase:=w
    grow:=g.trans F.grow
    nsNew:=nQ g.sub F.nsNew
    cl:=fun p hp hk=>by
      obtain ⟨c,v,h1,h2,h3,h4,h5⟩:=F.cl p hp hk
      exact ⟨c,v,h1,h2,nQ g.sub h3,h4,h5⟩
    vars:=fun p hp=>by
      have old:=F.vars p hp
      cases h:p.2 with
      | unset=>trivial
      | val d=>rw [h] at old; exact old
      | own l=>rw [h] at old; obtain ⟨items,a,b,c,d,e,f⟩:=old; exact ⟨items,a,b,c,d,nQ g.sub e,f⟩
      | app y=>rw [h] at old; exact old
    outhot:=fun a ha=>F.outhot a (ho a ha)
    outlive:=hv
    hotnew:=fun a ha=>(F.hotnew a ha).elim (hn a) fun q=>.inr (nQ g.sub q) }
theorem Fm.hotter (F:Fm W env base out hot oa σ s) (k:Grow s s') {wr:List Addr} (hn:∀ b∈wr,s.heap.get? b = none) (ha:∀ b∈wr,∃ o,s'.heap.get? b = some o):Fm W env base out (fun a=>hot a∨a∈wr) oa σ s':=by
  have G:=F.grown k
  have up:∀ b o,¬ hot b→s.heap.get? b = some o→s'.heap.get? b = some o∧¬ (hot b∨b∈wr):=fun b o nb e=>⟨k.sub b o e,fun q=>by
    rcases q with q | q
    · exact nb q
    · rw [hn b q] at e; cases e⟩
  exact { G with
    cl:=fun p hp hk=>by obtain ⟨c,v,h1,h2,h3,h4,h5⟩:=G.cl p hp hk; exact ⟨c,v,h1,h2,h3,h4,.inl h5⟩
    vars:=fun p hp=>by
      have old:=F.vars p hp
      have new:=G.vars p hp
      cases h:p.2 with
      | unset=>trivial
      | val d=>rw [h] at old new; obtain ⟨v,a,b⟩:=old; exact ⟨v,a.sub k.sub,Rd.mono up _ _ b⟩
      | own l=>rw [h] at old; obtain ⟨items,a,⟨n,b⟩,c,d,e⟩:=old; exact ⟨items,a.sub k.sub,⟨n,k.sub _ _ b⟩,Rds.mono up _ _ c,.inl d,e⟩
      | app y=>
        rw [h] at old; obtain ⟨b,a,⟨o,e,r⟩,nb⟩:=old
        exact ⟨b,a.sub k.sub,⟨o,(up b o nb e).1,r⟩,(up b o nb e).2⟩
    alive:=fun a q=>by rcases q with q | q; exact G.alive a q; exact ha a q
    outhot:=fun a q=>.inl (G.outhot a q)
    hotnew:=fun a q=>q.elim (G.hotnew a) fun q=>.inr (nQ F.grow.sub (hn a q))
    nshot:=.inl G.nshot }
theorem Fm.touch (F:Fm W env base out hot oa σ s) {wr:List Addr} {h':Heap} {tk:Nat} (hk:∀ b o,b ∉ wr→s.heap.get? b = some o→h'.get? b = some o)
    (hn:∀ b∈wr,base.heap.get? b = none∧hot b∧b ∉ mutL env σ oa∧∃ o,h'.get? b = some o):Fm W env base out hot oa σ { s with heap:=h',toks:=tk }:=by
  have nm:∀ b,b∈mutL env σ oa→b ∉ wr:=fun b hb hw=>(hn b hw).2.2.1 hb
  have ns:env.locals ∉ wr:=nm _ (mQ.mpr (.inl rfl))
  have nc:∀ p∈σ,env.scope.names.lookup p.1 = some .cell→∀ c,env.cells.lookup p.1 = some c→c ∉ wr:=fun p hp hk c hc=>nm c (mQ.mpr (.inr (.inl ⟨p,hp,hk,hc⟩)))
  have up:∀ b o,¬ hot b→s.heap.get? b = some o→h'.get? b = some o∧¬ hot b:=fun b o nb e=>⟨hk b o (fun q=>nb (hn b q).2.1) e,nb⟩
  have vi:∀ p∈σ,∀ v,VarIs env s.heap p.1 v→VarIs env h' p.1 v:=fun p hp v y=>by
    rcases y with ⟨k,m,hm,hx⟩ | ⟨k,c,hc,hv⟩
    · exact .inl ⟨k,m,hm.at' (fun o e=>hk _ o ns e),hx⟩
    · rcases F.lc p hp with q | q
      · rw [q] at k; rcases k with k | k <;> cases k
      · exact .inr ⟨k,c,hc,let ⟨o,a,b⟩:=hv; ⟨o,hk _ _ (nc p hp q c hc) a,b⟩⟩
  exact { F with
    grow:=⟨fun b o e=>hk b o (fun q=>by rw [(hn b q).1] at e; cases e) (F.grow.sub b o e),F.grow.os,F.grow.gens⟩
    ns:=F.ns.imp fun m hm=>hm.at' (fun o e=>hk _ o ns e)
    cl:=fun p hp q=>by
      obtain ⟨c,v,h1,⟨o,e,r⟩,h3⟩:=F.cl p hp q
      exact ⟨c,v,h1,⟨o,hk _ _ (nc p hp q c h1) e,r⟩,h3⟩
    vars:=fun p hp=>by
      have old:=F.vars p hp
      cases h:p.2 with
      | unset=>trivial
      | val d=>rw [h] at old; obtain ⟨v,a,b⟩:=old; exact ⟨v,vi p hp v a,Rd.mono up _ _ b⟩
      | own l=>rw [h] at old; obtain ⟨items,a,⟨n,b⟩,c,d,e⟩:=old; exact ⟨items,vi p hp _ a,⟨n,hk _ _ (nm _ (mQ.mpr (.inr (.inr ⟨p,hp,by rw [h]; rfl,rfl⟩)))) b⟩,Rds.mono up _ _ c,d,e⟩
      | app y=>
        rw [h] at old; obtain ⟨b,a,⟨o,e,r⟩,nb⟩:=old
        exact ⟨b,vi p hp _ a,⟨o,(up b o nb e).1,r⟩,nb⟩
    alive:=fun a q=>by
      by_cases hw:a∈wr
      · exact (hn a hw).2.2.2
      · obtain ⟨o,e⟩:=F.alive a q; exact ⟨o,hk a o hw e⟩ }
theorem Fm.touchOff (F:Fm W env base out hot oa σ s) {wr:List Addr} {h':Heap} {tk:Nat} (hk:∀ b o,b ∉ wr→s.heap.get? b = some o→h'.get? b = some o)
    (hn:∀ b∈wr,base.heap.get? b = none∧hot b∧b ∉ mutL env σ oa):Fm W env base out (fun a=>hot a∧a ∉ wr) oa σ { s with heap:=h',toks:=tk }:=by
  have nm:∀ b,b∈mutL env σ oa→b ∉ wr:=fun b hb hw=>(hn b hw).2.2 hb
  have ns:env.locals ∉ wr:=nm _ (mQ.mpr (.inl rfl))
  have nc:∀ p∈σ,env.scope.names.lookup p.1 = some .cell→∀ c,env.cells.lookup p.1 = some c→c ∉ wr:=fun p hp hk c hc=>nm c (mQ.mpr (.inr (.inl ⟨p,hp,hk,hc⟩)))
  have up:∀ b o,¬ hot b→s.heap.get? b = some o→h'.get? b = some o∧¬ (hot b∧b ∉ wr):=fun b o nb e=>⟨hk b o (fun q=>nb (hn b q).2.1) e,fun q=>nb q.1⟩
  have vi:∀ p∈σ,∀ v,VarIs env s.heap p.1 v→VarIs env h' p.1 v:=fun p hp v y=>by
    rcases y with ⟨k,m,hm,hx⟩ | ⟨k,c,hc,hv⟩
    · exact .inl ⟨k,m,hm.at' (fun o e=>hk _ o ns e),hx⟩
    · rcases F.lc p hp with q | q
      · rw [q] at k; rcases k with k | k <;> cases k
      · exact .inr ⟨k,c,hc,let ⟨o,a,b⟩:=hv; ⟨o,hk _ _ (nc p hp q c hc) a,b⟩⟩
  exact { F with
    grow:=⟨fun b o e=>hk b o (fun q=>by rw [(hn b q).1] at e; cases e) (F.grow.sub b o e),F.grow.os,F.grow.gens⟩
    ns:=F.ns.imp fun m hm=>hm.at' (fun o e=>hk _ o ns e)
    cl:=fun p hp q=>by
      obtain ⟨c,v,h1,⟨o,e,r⟩,h3,h4,h5⟩:=F.cl p hp q
      exact ⟨c,v,h1,⟨o,hk _ _ (nc p hp q c h1) e,r⟩,h3,h4,h5,nc p hp q c h1⟩
    vars:=fun p hp=>by
      have old:=F.vars p hp
      cases h:p.2 with
      | unset=>trivial
      | val d=>rw [h] at old; obtain ⟨v,a,b⟩:=old; exact ⟨v,vi p hp v a,Rd.mono up _ _ b⟩
      | own l=>
        rw [h] at old; obtain ⟨items,a,⟨n,b⟩,c,d,e⟩:=old
        have:=nm _ (mQ.mpr (.inr (.inr ⟨p,hp,by rw [h]; rfl,rfl⟩)))
        exact ⟨items,vi p hp _ a,⟨n,hk _ _ this b⟩,Rds.mono up _ _ c,⟨d,this⟩,e⟩
      | app y=>
        rw [h] at old; obtain ⟨b,a,⟨o,e,r⟩,nb⟩:=old
        exact ⟨b,vi p hp _ a,⟨o,(up b o nb e).1,r⟩,(up b o nb e).2⟩
    alive:=fun a q=>by obtain ⟨o,e⟩:=F.alive a q.1; exact ⟨o,hk a o q.2 e⟩
    outhot:=fun a ha=>⟨F.outhot a ha,fun q=>by obtain ⟨o,e⟩:=F.outlive a ha; rw [(hn a q).1] at e; cases e⟩
    hotnew:=fun a q=>F.hotnew a q.1
    nshot:=⟨F.nshot,ns⟩ }
end
inductive Res where
  | next (σ:Store)
  | cont (σ:Store)
  | brk (σ:Store)
  | ret (d:V)
noncomputable def ResOk (W:Wo) (env:Env) (base:Shared) (out:Addr→Prop):Res→Flow→Shared→Prop
  | .next σ,f,s=>f = .next∧∃ hot oa,Fm W env base out hot oa σ s
  | .cont σ,f,s=>f = .cont∧∃ hot oa,Fm W env base out hot oa σ s
  | .brk σ,f,s=>f = .brk∧∃ hot oa,Fm W env base out hot oa σ s
  | .ret d,f,s=>∃ v,f = .ret v∧Grow base s∧Rd s.heap out d v
structure Runs (W:Wo) (n:Nat) (sc:Scope) (st:Stmt) (σ:Store) (r:Res):Prop where
  run:∀ env,env.scope = sc→∀ A,Room A n→∀ base out hot oa s (Q:Flow→Shared→Prop) E,Fm W env base out hot oa σ s →
    (∀ f s',ResOk W env base out r f s'→Q f s')→wpAny (model W.prog W.w) A (exec st env) Q E s
structure RQ (W:Wo) (n:Nat) (sc:Scope) (sts:List Stmt) (σ:Store) (r:Res):Prop where
  run:∀ env,env.scope = sc→∀ A,Room A n→∀ base out hot oa s (Q:Flow→Shared→Prop) E,Fm W env base out hot oa σ s →
    (∀ f s',ResOk W env base out r f s'→Q f s')→wpAny (model W.prog W.w) A (execs sts env) Q E s
section
variable {W:Wo} {n:Nat} {sc:Scope} {σ σ':Store}
theorem RQ.nil:RQ W n sc [] σ (.next σ):=⟨fun env he A hA base out hot oa s Q E F k=>wpAny_execs_nil (k _ _ ⟨rfl,hot,oa,F⟩)⟩
theorem RQ.cons {st:Stmt} {sts:List Stmt} {r:Res} (h:Runs W n sc st σ (.next σ')) (h2:RQ W n sc sts σ' r):RQ W n sc (st :: sts) σ r:=
  ⟨fun env he A hA base out hot oa s Q E F k=>wpAny_execs_cons (h.run env he A hA base out hot oa s _ E F fun f s' x=>by
    obtain ⟨rfl,hot',oa',F'⟩:=x
    exact h2.run env he A hA base out hot' oa' s' Q E F' k)⟩
theorem RQ.stop {st:Stmt} {sts:List Stmt} {r:Res} (h:Runs W n sc st σ r) (hr:∀ σ',r≠.next σ'):RQ W n sc (st :: sts) σ r:=
  ⟨fun env he A hA base out hot oa s Q E F k=>wpAny_execs_cons (h.run env he A hA base out hot oa s _ E F fun f s' x=>by
    cases r with
    | next σ'=>exact absurd rfl (hr σ')
    | cont σ'=>obtain ⟨rfl,x⟩:=x; exact k _ _ ⟨rfl,x⟩
    | brk σ'=>obtain ⟨rfl,x⟩:=x; exact k _ _ ⟨rfl,x⟩
    | ret d=>obtain ⟨v,rfl,x⟩:=x; exact k _ _ ⟨v,rfl,x⟩)⟩
theorem RQ.ret {st:Stmt} {sts:List Stmt} {d:V} (h:Runs W n sc st σ (.ret d)):RQ W n sc (st :: sts) σ (.ret d):=.stop h fun ψ e=>nomatch e
theorem RQ.brk {st:Stmt} {sts:List Stmt} {σ':Store} (h:Runs W n sc st σ (.brk σ')):RQ W n sc (st :: sts) σ (.brk σ'):=.stop h fun ψ e=>nomatch e
theorem Runs.ret {e:PySem.Expr} {pos} {d:V} (h:Ev W n sc σ e d):Runs W n sc (.Return (some e) pos) σ (.ret d):=
  ⟨fun env he A hA base out hot oa s Q E F k=>wpAny_Return_some (h.run env he A hA s hot _ E F.good fun v s' g r=>k _ _ ⟨v,rfl,F.grow.trans g,r.less F.outhot⟩)⟩
theorem Runs.brk {pos}:Runs W n sc (.Break pos) σ (.brk σ):=
  ⟨fun env he A hA base out hot oa s Q E F k=>by
    show wpAny _ A (do standAt pos; pure .brk) Q E s
    exact wpAny_bind (wpAny_standAt (wpAny_pure (k _ _ ⟨rfl,hot,oa,F⟩)))⟩
theorem Runs.ifT {t:PySem.Expr} {a b:List Stmt} {pos} {r:Res} (h:EvT W n sc σ t true) (ha:RQ W n sc a σ r):Runs W n sc (.If t a b pos) σ r:=
  ⟨fun env he A hA base out hot oa s Q E F k=>wpAny_If (h.run env he A hA s hot _ E F.good fun s' g=>by
    simp only [if_true]
    exact ha.run env he A hA base out hot oa s' Q E (F.grown g) k)⟩
theorem Runs.ifF {t:PySem.Expr} {a b:List Stmt} {pos} {r:Res} (h:EvT W n sc σ t false) (hb:RQ W n sc b σ r):Runs W n sc (.If t a b pos) σ r:=
  ⟨fun env he A hA base out hot oa s Q E F k=>wpAny_If (h.run env he A hA s hot _ E F.good fun s' g=>by
    simp only [Bool.false_eq_true,if_false]
    exact hb.run env he A hA base out hot oa s' Q E (F.grown g) k)⟩
theorem Runs.assertT {t:PySem.Expr} {m:Option PySem.Expr} {pos} (h:EvT W n sc σ t true):Runs W n sc (.Assert t m pos) σ (.next σ):=
  ⟨fun env he A hA base out hot oa s Q E F k=>by
    show wpAny _ A (do standAt pos; if ← isTrue t env (eval t env) then pure .next else assertFails t.pos (evalOpt m env)) Q E s
    refine wpAny_bind (wpAny_standAt (wpAny_bind (h.run env he A hA s hot _ E F.good fun s' g=>?_)))
    simp only [if_true]
    exact wpAny_pure (k _ _ ⟨rfl,hot,oa,F.grown g⟩)⟩
noncomputable def noApp (x:Str) (σ:Store):Prop:=∀ p∈σ,p.2≠.app x
theorem noApp.nil {x}:noApp x []:=fun ψ h=>nomatch h
theorem noApp.val {x y d σ} (h:noApp x σ):noApp x ((y,.val d) :: σ):=fun p hp=>by
  rcases List.mem_cons.mp hp with e | hp
  · subst e; intro q; cases q
  · exact h p hp
theorem noApp.own {x y d σ} (h:noApp x σ):noApp x ((y,.own d) :: σ):=fun p hp=>by
  rcases List.mem_cons.mp hp with e | hp
  · subst e; intro q; cases q
  · exact h p hp
theorem noApp.unset {x y σ} (h:noApp x σ):noApp x ((y,.unset) :: σ):=fun p hp=>by
  rcases List.mem_cons.mp hp with e | hp
  · subst e; intro q; cases q
  · exact h p hp
theorem noApp.app {x y z σ} (hn:z≠x) (h:noApp x σ):noApp x ((y,.app z) :: σ):=fun p hp=>by
  rcases List.mem_cons.mp hp with e | hp
  · subst e; intro q; cases q; exact hn rfl
  · exact h p hp
noncomputable def appFree (x:Str):Slot→Bool
  | .app z=>decide (z≠x)
  | _=>true
theorem noApp.of {x σ} (h:(σ.all fun p=>appFree x p.2) = true):noApp x σ:=fun p hp e=>by
  have:=List.all_eq_true.mp h p hp
  rw [e] at this
  exact of_decide_eq_true this rfl
theorem Runs.assign {x:Str} {p pos:Pos} {e:PySem.Expr} {d:V} (h:Ev W n sc σ e d) (hp:Put x (.val d) σ σ') (hn:noApp x σ) (hs:∀ env,swapsWith e (some (.Name x p)) pos.line env = pure false) :
    Runs W n sc (.Assign [.Name x p] e pos) σ (.next σ'):=
  ⟨fun env he A hA base out hot oa s Q E F k=>wpAny_Assign_Name (h.run env he A hA s hot _ E F.good fun v s₁ g r=>
    (F.grown g).store hp r hn fun s₂ F₂=>k _ _ ⟨rfl,hot,oa,F₂⟩) (hs env)⟩
noncomputable def InpOk (W:Wo) (op:Operator) (a b c:V):Prop:=
  ∀ A,Room A 0→∀ s hot v₁ v₂ (Q:Value→Shared→Prop) E,Sub W.B s.heap→(∀ a,hot a→∃ o,s.heap.get? a = some o)→Rd s.heap hot a v₁→Rd s.heap hot b v₂ →
    (∀ v s',Grow s s'→Rd s'.heap hot c v→Q v s')→wpAny (model W.prog W.w) A (inplaceOp op v₁ v₂) Q E s
theorem InpOk.add {a b:Int}:InpOk W .Add (.int a) (.int b) (.int (a + b)):=by
  intro A hA s hot v₁ v₂ Q E _ _ h1 h2 k
  obtain ⟨t,rfl⟩:=rQ h1; obtain ⟨u,rfl⟩:=rQ h2
  exact @P.iadd_int _ _ _ _ _ _ _ _ _ _ (k _ _ .tok mk_int)
theorem InpOk.cat {a b:List Nat} (h:a.length + b.length≤16777216):InpOk W .Add (.str a) (.str b) (.str (a ++ b)):=by
  intro A hA s hot v₁ v₂ Q E _ _ r1 r2 k
  obtain ⟨t,rfl⟩:=sQ r1; obtain ⟨u,rfl⟩:=sQ r2
  refine SB.iadd (fun t' tk=>?_) (by rw [St_len,St_len,sizeLine_eq]; exact h)
  rw [St_app]
  exact k _ _ .tok mk_str
theorem Fm.var {env:Env} {base s:Shared} {out hot:Addr→Prop} {oa:Str→Addr} (F:Fm W env base out hot oa σ s) {x:Str} {d:V} (hm:(x,Slot.val d)∈σ) {M:Model} {A:Around} {E:Value→Shared→Prop} {Q:Value→Shared→Prop}
    (h:∀ v,Rd s.heap hot d v→Q v s):wpAny M A (loadName env x) Q E s:=by
  obtain ⟨v,hx,hr⟩:=F.vars _ hm
  rcases hx with ⟨a,m,hn,hmx⟩ | ⟨a | a,c,hc,hcv⟩
  · exact wpAny_loadName_local F.kind a hn hmx (h v hr)
  · exact wpAny_loadName_cell F.kind a hc hcv (h v hr)
  · exact wpAny_loadName_free F.kind a hc hcv (h v hr) (isVar_2 (F.isv _ hm))
theorem Runs.aug {x:Str} {p pos:Pos} {e:PySem.Expr} {op:Operator} {a b c:V} (hm:(x,Slot.val a)∈σ) (h:Ev W n sc σ e b) (ho:InpOk W op a b c) (hp:Put x (.val c) σ σ') (hn:noApp x σ) :
    Runs W n sc (.AugAssign (.Name x p) op e pos) σ (.next σ'):=
  ⟨fun env he A hA base out hot oa s Q E F k=>wpAny_AugAssign_Name (F.var hm fun v₁ r₁=>h.run env he A hA s hot _ E F.good fun v₂ s₂ g₂ r₂=>
    ho A (hA.less (Nat.zero_le _)) s₂ hot v₁ v₂ _ E (F.grown g₂).good.base (F.grown g₂).alive (r₁.sub g₂.sub) r₂ fun v₃ s₃ g₃ r₃=>
      (F.grown (g₂.trans g₃)).store hp r₃ hn fun s₄ F₄=>k _ _ ⟨rfl,hot,oa,F₄⟩)⟩
end
noncomputable def quietIter (T:String):Bool:=!(["enumerate","zip","dict_itemiterator","dict_reverseitemiterator","odict_iterator","itertools.zip_longest","itertools.pairwise"].contains T)
structure ItrW (W:Wo) (A:Around) (hot:Addr→Prop) (s₀ s:Shared) (I:Addr) (fp:List Addr) (P:Nat→Value→Prop) (St:Nat→Heap→Prop) (xs:List V):Prop where
  wk:Walks W.prog W.w A I fp [I] xs.length P St
  live:∀ i h,St i h→(∀ b∈fp,∃ o,h.get? b = some o)∧∃ o T,h.get? I = some o∧o.cls = .type T∧quietIter T = true
  st:St 0 s.heap
  apart:∀ b∈fp,b≠I→¬ hot b
  fresh:s₀.heap.get? I = none
  item:∀ i v x,P i v→xs[i]? = some x→Rd s₀.heap hot x v
noncomputable def Itr (W:Wo) (A:Around) (hot:Addr→Prop) (s₀ s:Shared) (it:Value) (xs:List V):Prop:=
  ∃ I fp P St,it = .ref I∧ItrW W A hot s₀ s I fp P St xs
structure JQ (W:Wo) (d:V) (xs:List V):Prop where
  run:∀ A,Room A 0→∀ s hot v (Q:Value→Shared→Prop) E,Sub W.B s.heap→(∀ a,hot a→∃ o,s.heap.get? a = some o)→Rd s.heap hot d v →
    (∀ it s',Grow s s'→Itr W A hot s s' it xs→Q it s')→wpAny (model W.prog W.w) A (pyIter v) Q E s
theorem gNQ (h:Heap):h.get? h.objs.size = none:=by
  cases e:h.get? h.objs.size with
  | none=>rfl
  | some o=>exact absurd (Heap.lt_size e) (Nat.lt_irrefl _)
section
variable {W:Wo} {n:Nat} {sc:Scope} {σ σ':Store}
theorem JQ.list {l:List V}:JQ W (.list l) l:=⟨fun A hA s hot v Q E hb al r k=>by
  obtain ⟨a,items,rfl,ha,hl,hr⟩:=rd_list r
  have hne:a≠s.heap.objs.size:=by obtain ⟨m,e⟩:=hl; exact Nat.ne_of_lt (Heap.lt_size e)
  have up:Sub s.heap (s.heap.push { cls:=.type "list_iterator",data:=.fields #[.ref a,.int 0 0] }):=fun b o e=>Heap.get?_push_of_some _ e
  have hz:items.size = l.length:=by rw [← hr.length]; simp
  refine wpAny_pyIter_list (PlainList.isList hl) (k _ _ ⟨up,rfl,fun e=>e⟩ ⟨s.heap.objs.size,[s.heap.objs.size,a],fun i v=>items[i]? = some v,fun i h=>h.IsListIter s.heap.objs.size a i∧h.IsList a items,rfl,by rw [← hz]; exact Walks.list hA.handled _ a hne items,fun i h st=>?_,⟨⟨_,Heap.get?_push_size _ rfl,rfl,rfl⟩,(PlainList.isList hl).push _⟩,?_,gNQ _,?_⟩)
  · obtain ⟨⟨o,e,c,_⟩,o',e',_⟩:=st
    refine ⟨fun b hb=>?_,o,_,e,c,by decide⟩
    rcases List.mem_cons.mp hb with q | hb
    · exact q ▸ ⟨o,e⟩
    · rw [List.mem_singleton.mp hb]; exact ⟨o',e'⟩
  · intro b hb' hn
    rcases List.mem_cons.mp hb' with e | hb'
    · exact absurd e hn
    · rcases List.mem_cons.mp hb' with e | hb'
      · rw [e]; exact ha
      · cases hb'
  · intro i v x hv hx
    obtain ⟨w,h1,h2⟩:=hr.getElem hx
    rw [show items[i]? = items.toList[i]? by simp,h1] at hv
    cases hv; exact h2⟩
theorem JQ.str {l:List Nat}:JQ W (.str l) (l.map fun c=>.str [c]):=⟨fun A hA s hot v Q E hb al r k=>by
  obtain ⟨t,rfl⟩:=sQ r
  have sz:(St l).cps.size = (l.map fun c=>V.str [c]).length:=by simp [St]
  have val:∀ i v x,SignAt (St l) i v→(l.map fun c=>V.str [c])[i]? = some x→Rd s.heap hot x v:=by
    intro i v x ⟨c,u,h1,h2⟩ hx
    have h1':l[i]? = some c:=by simpa [St] using h1
    rw [List.getElem?_map,h1'] at hx
    simp at hx; subst hx; subst h2
    exact mk_str (i:=[c])
  cases ha:(St l).cps.all (· < 128)
  · refine wpAny_pyIter_wide ha (k _ _ ⟨fun b o e=>Heap.get?_push_of_some _ e,rfl,fun e=>e⟩ ⟨s.heap.objs.size,[s.heap.objs.size],SignAt (St l),fun i h=>h.IsStrIter s.heap.objs.size "str_iterator" (St l) t i,rfl,by rw [← sz]; exact Walks.strWide hA.handled _ _ t,fun i h st=>?_,⟨_,Heap.get?_push_size _ rfl,rfl,rfl⟩,?_,gNQ _,val⟩)
    · obtain ⟨o,e,c,_⟩:=st; exact ⟨fun b hb=>by rw [List.mem_singleton.mp hb]; exact ⟨o,e⟩,o,_,e,c,by decide⟩
    · intro b hb' hn; rcases List.mem_cons.mp hb' with e | hb'; exact absurd e hn; cases hb'
  · refine wpAny_pyIter_ascii ha (k _ _ ⟨fun b o e=>Heap.get?_push_of_some _ e,rfl,fun e=>e⟩ ⟨s.heap.objs.size,[s.heap.objs.size],SignAt (St l),fun i h=>h.IsStrIter s.heap.objs.size "str_ascii_iterator" (St l) t i,rfl,by rw [← sz]; exact Walks.strAscii hA.handled _ _ t,fun i h st=>?_,⟨_,Heap.get?_push_size _ rfl,rfl,rfl⟩,?_,gNQ _,val⟩)
    · obtain ⟨o,e,c,_⟩:=st; exact ⟨fun b hb=>by rw [List.mem_singleton.mp hb]; exact ⟨o,e⟩,o,_,e,c,by decide⟩
    · intro b hb' hn; rcases List.mem_cons.mp hb' with e | hb'; exact absurd e hn; cases hb'⟩
noncomputable def rangeL (a b c:Int):List V:=(List.range (Builtin.Range.rangeSize a b c).toNat).map fun (i:Nat)=>V.int (a + (i:Int) * c)
theorem rangeSize_nonneg (a b c:Int) (hc:c≠0):0≤Builtin.Range.rangeSize a b c:=by
  unfold Builtin.Range.rangeSize
  split
  · split
    · have:0≤(b - a - 1) / c:=Int.ediv_nonneg (by omega) (by omega)
      omega
    · omega
  · split
    · have:0≤(a - b - 1) / (-c):=Int.ediv_nonneg (by omega) (by omega)
      omega
    · omega
theorem JQ.rng {a b c:Int} (hc:c≠0) (hs:Builtin.Range.small a b c = true):JQ W (.rng a b c) (rangeL a b c):=⟨fun A hA s hot v Q E hb al r k=>by
  obtain ⟨r,t,u,y,rfl,ha,hr⟩:=rd_rng r
  have up:Sub s.heap (s.heap.push { cls:=.type "range_iterator",data:=.fields #[rawInt a,rawInt (Builtin.Range.rangeSize a b c),rawInt c] }):=fun b o e=>Heap.get?_push_of_some _ e
  have sz:(rangeL a b c).length = (Builtin.Range.rangeSize a b c).toNat:=by simp [rangeL]
  refine wpAny_pyIter_range hr hs (k _ _ ⟨up,rfl,fun e=>e⟩ ⟨s.heap.objs.size,[s.heap.objs.size],fun i v=>∃ t,v = .int (a + i * c) t,fun i h=>IsRangeIter h s.heap.objs.size (a + (i:Nat) * c) (((Builtin.Range.rangeSize a b c).toNat:Int) - (i:Nat)) c,rfl,by rw [sz]; exact Walks.range hA.handled _ a c _,fun i h st=>⟨fun b hb=>by rw [List.mem_singleton.mp hb]; exact ⟨_,st⟩,_,_,st,rfl,by decide⟩,?_,?_,gNQ _,?_⟩)
  · have e1:a + ((0:Nat):Int) * c = a:=by simp
    have e2:((Builtin.Range.rangeSize a b c).toNat:Int) - ((0:Nat):Int) = Builtin.Range.rangeSize a b c:=by have:=rangeSize_nonneg a b c hc; exact o2 this
    show IsRangeIter _ _ (a + ((0:Nat):Int) * c) (((Builtin.Range.rangeSize a b c).toNat:Int) - ((0:Nat):Int)) c
    rw [e1,e2]
    exact Heap.get?_push_size _ rfl
  · intro b hb' hn; rcases List.mem_cons.mp hb' with e | hb'; exact absurd e hn; cases hb'
  · intro i v x ⟨t,hv⟩ hx
    unfold rangeL at hx
    rw [List.getElem?_map] at hx
    obtain ⟨j,hj,e⟩:=Option.map_eq_some_iff.mp hx
    have:j = i:=by
      rw [List.getElem?_eq_some_iff] at hj
      obtain ⟨h1,h2⟩:=hj
      simpa using h2.symm
    subst this; subst e; subst hv
    exact mk_int⟩
structure Binds (W:Wo) (sc:Scope) (t:PySem.Expr) (d:V) (σ σ':Store):Prop where
  run:∀ env,env.scope = sc→∀ A,Room A 0→∀ base out hot oa s v (Q:Unit→Shared→Prop) E,Fm W env base out hot oa σ s→Rd s.heap hot d v →
    (∀ s',Fm W env base out hot oa σ' s'→Q () s')→wpAny (model W.prog W.w) A (assign t env v) Q E s
theorem Binds.name {x:Str} {p:Pos} {d:V} (hp:Put x (.val d) σ σ') (hn:noApp x σ):Binds W sc (.Name x p) d σ σ':=
  ⟨fun env he A hA base out hot oa s v Q E F r k=>wpAny_assign_Name (F.store hp r hn k)⟩
set_option tactic.hygienic true in
theorem letOwned_quiet {M:Model} {A:Around} {E:Value→Shared→Prop} {s:Shared} {Q:Unit→Shared→Prop} {t:PySem.Expr} {I:Addr} {v:Value} {o:Obj} {T:String} (ho:s.heap.get? I = some o) (hc:o.cls = .type T) (hq:quietIter T = true) (h:Q () s) :
    wpAny M A (letOwnedTupleGo t (.ref I) v) Q E s:=by
  have hT:["enumerate","zip","dict_itemiterator","dict_reverseitemiterator","odict_iterator","itertools.zip_longest","itertools.pairwise"].contains T = false:=by
    unfold quietIter at hq; rwa [Bool.not_eq_true'] at hq
  have go:∀ a,wpAny M A (do
      let o ← load I
      match o.cls,o.data with
      | .type n,.fields vs=>
        if ["enumerate","zip","dict_itemiterator","dict_reverseitemiterator","odict_iterator","itertools.zip_longest","itertools.pairwise"].contains n && vs[0]? == some (rawInt a) then
          rule "for.unpacks-the-owned-tuple"
          updateField I 0 .none
      | _,_=>pure ():Sem Unit) Q E s:=fun a=>by
    refine wpAny_bind (wpAny_load ho ?_)
    rw [hc]
    split
    · rename_i n vs e1 e2
      cases e1
      rw [hT]
      exact wpAny_pure h
    · exact wpAny_pure h
  cases t <;> first
    | exact wpAny_pure h
    | (cases v <;> first | exact wpAny_pure h | exact go _)
inductive ForL (W:Wo) (n:Nat) (sc:Scope) (t:PySem.Expr) (body:List Stmt):List V→Store→Res→Prop
  | nil {σ:Store}:ForL W n sc t body [] σ (.next σ)
  | next {x:V} {xs:List V} {σ τ σ':Store} {r:Res}:Binds W sc t x σ τ→RQ W n sc body τ (.next σ')→ForL W n sc t body xs σ' r→ForL W n sc t body (x :: xs) σ r
  | cont {x:V} {xs:List V} {σ τ σ':Store} {r:Res}:Binds W sc t x σ τ→RQ W n sc body τ (.cont σ')→ForL W n sc t body xs σ' r→ForL W n sc t body (x :: xs) σ r
  | brk {x:V} {xs:List V} {σ τ σ':Store}:Binds W sc t x σ τ→RQ W n sc body τ (.brk σ')→ForL W n sc t body (x :: xs) σ (.next σ')
  | ret {x:V} {xs:List V} {σ τ:Store} {d:V}:Binds W sc t x σ τ→RQ W n sc body τ (.ret d)→ForL W n sc t body (x :: xs) σ (.ret d)
section
variable {env:Env} {A:Around} {t:PySem.Expr} {body:List Stmt} {base:Shared} {out hot:Addr→Prop} {oa:Str→Addr} {s:Shared}
theorem turn_body {x:V} {v:Value} {τ:Store} {r:Res} {Q:Flow→Shared→Prop} {E:Value→Shared→Prop} (he:env.scope = sc) (hA:Room A n) (F:Fm W env base out hot oa σ s) (rv:Rd s.heap hot x v) (hb:Binds W sc t x σ τ) (hr:RQ W n sc body τ r)
    (k:∀ f s',ResOk W env (hidden env σ oa s) (fun a=>hot a∧a ∉ mutL env σ oa) r f s'→Q f s') :
    wpAny (model W.prog W.w) A (assign t env v) (fun ψ s₂=>wpAny (model W.prog W.w) A (execs body env) Q E s₂) E s:=
  hb.run env he A (hA.less (Nat.zero_le _)) _ _ hot oa s v _ _ F.rebase rv fun s₂ F₂=>hr.run env he A hA _ _ hot oa s₂ Q _ F₂ k
noncomputable def ForInv (W:Wo) (n:Nat) (sc:Scope) (env:Env) (t:PySem.Expr) (body:List Stmt) (xs:List V) (r:Res) (base:Shared) (out:Addr→Prop) (I:Addr) (fp:List Addr) (P:Nat→Value→Prop) (St:Nat→Heap→Prop) (m:Nat) (s:Shared):Prop:=
  ∃ i σ hot oa,i≤xs.length∧m = xs.length - i∧ForL W n sc t body (xs.drop i) σ r∧Fm W env base out hot oa σ s∧St i s.heap∧(∀ b∈fp,b ∉ mutL env σ oa)∧hot I∧base.heap.get? I = none ∧
    ∀ j v x,i≤j→P j v→xs[j]? = some x→Rd s.heap hot x v
theorem ForInv.again {xs:List V} {r:Res} {A':Around} {hot₀:Addr→Prop} {s₀ s₁ s':Shared} {I:Addr} {fp:List Addr} {P:Nat→Value→Prop} {St:Nat→Heap→Prop} {i:Nat} {σ₂:Store} {hot₂:Addr→Prop} {oa₂:Str→Addr}
    (hW:ItrW W A' hot₀ s₀ s₁ I fp P St xs) (F:Fm W env base out hot oa σ s) (st:St (i + 1) s.heap) (mfp:∀ b∈fp,b ∉ mutL env σ oa) (hI:hot I) (bI:base.heap.get? I = none) (hi:i < xs.length)
    (item:∀ j v x,i≤j→P j v→xs[j]? = some x→Rd s.heap hot x v)
    (hL:ForL W n sc t body (xs.drop (i + 1)) σ₂ r) (F₂:Fm W env (hidden env σ oa s) (fun a=>hot a∧a ∉ mutL env σ oa) hot₂ oa₂ σ₂ s') :
    ∃ m',m' < xs.length - i∧ForInv W n sc env t body xs r base out I fp P St m' s':=by
  have keep:∀ b∈fp,∀ o,s.heap.get? b = some o→(hidden env σ oa s).heap.get? b = some o:=fun b hb o e=>hideAll_get _ e (mfp b hb)
  refine ⟨xs.length - (i + 1),by exact o3 hi,i + 1,σ₂,hot₂,oa₂,hi,rfl,hL,F₂.debase F.grow_hidden F.wbase F.outMut (fun a ha=>F.hotnew a ha.1) F.outlive,hW.wk.frame _ _ _ st fun b hb o e=>F₂.grow.sub b o (keep b hb o e),fun b hb q=>?_,F₂.outhot I ⟨hI,mfp I (hW.wk.sub I (List.mem_singleton.mpr rfl))⟩,bI,fun j v x hj hv hx=>?_⟩
  · obtain ⟨o,e⟩:=(hW.live _ _ st).1 b hb
    have:=(F₂.mutNew b q).1
    rw [keep b hb o e] at this; cases this
  · have h0:=item j v x (by exact o4 hj) hv hx
    refine Rd.mono (fun b o nb e=>?_) _ _ h0
    have nm:b ∉ mutL env σ oa:=fun q=>nb (F.mutNew b q).2
    have e1:(hidden env σ oa s).heap.get? b = some o:=hideAll_get _ e nm
    refine ⟨F₂.grow.sub b o e1,fun q=>?_⟩
    rcases F₂.hotnew b q with q | q
    · exact nb q.1
    · rw [e1] at q; cases q
theorem for_loop {n:Nat} {σ:Store} {xs:List V} {r:Res} {s₀:Shared} {it:Value} {R:Result→Shared→Prop} (he:env.scope = sc) (hA:Room A n)
    (hL:ForL W n sc t body xs σ r) (F:Fm W env base out hot oa σ s₀) (g:Grow s₀ s) (hI:Itr W A hot s₀ s it xs)
    (k:∀ f s',ResOk W env base out r f s'→R (.ok f) s'):codeAny (model W.prog W.w) A (.forLoop t it body [] env) R s:=by
  obtain ⟨I,fp,P,St,rfl,hW⟩:=hI
  have I0:I∈fp:=hW.wk.sub I (List.mem_singleton.mpr rfl)
  have aI:∃ o,s.heap.get? I = some o:=let ⟨o,_,e,_⟩:=(hW.live _ _ hW.st).2; ⟨o,e⟩
  have mfp:∀ b∈fp,b ∉ mutL env σ oa:=fun b hb q=>by
    by_cases e:b = I
    · obtain ⟨o,e'⟩:=F.alive b (F.mutNew b q).2
      rw [e,hW.fresh] at e'; cases e'
    · exact hW.apart b hb e (F.mutNew b q).2
  have start:ForInv W n sc env t body xs r base out I fp P St xs.length s:=by
    refine ⟨0,σ,_,oa,Nat.zero_le _,rfl,by simpa using hL,F.hotter g (wr:=[I]) (fun b hb=>by rw [List.mem_singleton.mp hb]; exact hW.fresh) (fun b hb=>by rw [List.mem_singleton.mp hb]; exact aI),hW.st,mfp,.inr (List.mem_singleton.mpr rfl),nQ F.grow.sub hW.fresh,fun j v x ψ hv hx=>?_⟩
    refine Rd.mono (fun b o nb e=>⟨g.sub b o e,fun q=>?_⟩) _ _ (hW.item j v x hv hx)
    rcases q with q | q
    · exact nb q
    · rw [List.mem_singleton.mp q,hW.fresh] at e; cases e
  refine codeAny_forLoop_any (ForInv W n sc env t body xs r base out I fp P St) (fun m s₁ inv=>?_) _ start
  obtain ⟨i,σ₁,hot₁,oa₁,hi,rfl,hL₁,F₁,st,mfp₁,hI₁,bI,item⟩:=inv
  by_cases hlt:i < xs.length
  · refine hW.wk.item i s₁ _ _ hlt st fun v h' tk hv st' hk=>?_
    obtain ⟨o,T,ho,hc,hq⟩:=(hW.live _ _ st').2
    have F₂:Fm W env base out hot₁ oa₁ σ₁ { s₁ with heap:=h',toks:=tk }:=F₁.touch hk fun b hb=>by
      rw [List.mem_singleton.mp hb]; exact ⟨bI,hI₁,mfp₁ I I0,o,ho⟩
    have up:∀ b o,¬ hot₁ b→s₁.heap.get? b = some o→h'.get? b = some o∧¬ hot₁ b:=fun b o nb e=>⟨hk b o (fun q=>nb (by rw [List.mem_singleton.mp q]; exact hI₁)) e,nb⟩
    have item':∀ j v x,i≤j→P j v→xs[j]? = some x→Rd h' hot₁ x v:=fun j v x hj hv hx=>Rd.mono up _ _ (item j v x hj hv hx)
    have hx:xs[i]? = some xs[i]:=by simp [hlt]
    have hd:xs.drop i = xs[i] :: xs.drop (i + 1):=List.drop_eq_getElem_cons hlt
    refine letOwned_quiet ho hc hq ?_
    rw [hd] at hL₁
    generalize hxs:xs.drop (i + 1) = rest at hL₁
    cases hL₁ with
    | next hb hr hL₂=>
      refine turn_body he hA F₂ (item' i v _ (Nat.le_refl _) hv hx) hb hr fun f s' ok=>?_
      obtain ⟨rfl,hot',oa',F'⟩:=ok
      exact ForInv.again hW F₂ st' mfp₁ hI₁ bI hlt item' (hxs ▸ hL₂) F'
    | cont hb hr hL₂=>
      refine turn_body he hA F₂ (item' i v _ (Nat.le_refl _) hv hx) hb hr fun f s' ok=>?_
      obtain ⟨rfl,hot',oa',F'⟩:=ok
      exact ForInv.again hW F₂ st' mfp₁ hI₁ bI hlt item' (hxs ▸ hL₂) F'
    | brk hb hr=>
      refine turn_body he hA F₂ (item' i v _ (Nat.le_refl _) hv hx) hb hr fun f s' ok=>?_
      obtain ⟨rfl,hot',oa',F'⟩:=ok
      exact k _ _ ⟨rfl,hot',oa',F'.debase F₂.grow_hidden F₂.wbase F₂.outMut (fun a ha=>F₂.hotnew a ha.1) F₂.outlive⟩
    | ret hb hr=>
      refine turn_body he hA F₂ (item' i v _ (Nat.le_refl _) hv hx) hb hr fun f s' ok=>?_
      obtain ⟨w,rfl,G,rw'⟩:=ok
      exact k _ _ ⟨w,rfl,F₂.grow_hidden.trans G,rw'.less F₂.outMut⟩
  · have hi':i = xs.length:=by exact o5 hi hlt
    refine hW.wk.done s₁ _ _ (hi' ▸ st) fun h' tk hk=>?_
    have e:xs.drop i = []:=by rw [hi']; simp
    rw [e] at hL₁
    cases hL₁
    exact wpAny_execs_nil (k _ _ ⟨rfl,_,oa₁,F₁.touchOff hk fun b hb=>by rw [List.mem_singleton.mp hb]; exact ⟨bI,hI₁,mfp₁ I I0⟩⟩)
theorem Runs.for {n:Nat} {σ:Store} {it:PySem.Expr} {pos:Pos} {a:V} {xs:List V} {r:Res} (h:Ev W n sc σ it a) (hi:JQ W a xs) (hL:ForL W n sc t body xs σ r) (hs:∀ env x,foldedSetIterable it env x = pure x) :
    Runs W n sc (.For t it body [] pos) σ r:=
  ⟨fun env he A hA base out hot oa s Q E F k=>wpAny_For (h.run env he A hA s hot _ E F.good fun v s₁ g₁ r₁=>
    hi.run A (hA.less (Nat.zero_le _)) s₁ hot v _ E (F.grown g₁).good.base (F.grown g₁).alive r₁ fun it' s₂ g₂ hI=>
      for_loop he hA hL (F.grown g₁) g₂ hI fun f s' ok=>k f s' ok) (hs env)⟩
end
end
section
variable {W:Wo} {n:Nat} {sc:Scope} {σ σ':Store}
inductive WhL (W:Wo) (n:Nat) (sc:Scope) (t:PySem.Expr) (body:List Stmt):Nat→Store→Res→Prop
  | done {m:Nat} {σ:Store}:EvT W n sc σ t false→WhL W n sc t body m σ (.next σ)
  | next {m:Nat} {σ σ':Store} {r:Res}:EvT W n sc σ t true→RQ W n sc body σ (.next σ')→WhL W n sc t body m σ' r→WhL W n sc t body (m + 1) σ r
  | cont {m:Nat} {σ σ':Store} {r:Res}:EvT W n sc σ t true→RQ W n sc body σ (.cont σ')→WhL W n sc t body m σ' r→WhL W n sc t body (m + 1) σ r
  | brk {m:Nat} {σ σ':Store}:EvT W n sc σ t true→RQ W n sc body σ (.brk σ')→WhL W n sc t body m σ (.next σ')
  | ret {m:Nat} {σ:Store} {d:V}:EvT W n sc σ t true→RQ W n sc body σ (.ret d)→WhL W n sc t body m σ (.ret d)
theorem Runs.while {t:PySem.Expr} {body:List Stmt} {pos:Pos} {m:Nat} {r:Res} (hL:WhL W n sc t body m σ r):Runs W n sc (.While t body [] pos) σ r:=
  ⟨fun env he A hA base out hot oa s Q E F k=>by
    refine wpAny_While (codeAny_whileLoop (fun m s=>∃ σ hot oa,WhL W n sc t body m σ r∧Fm W env base out hot oa σ s) (fun m s₁ inv=>?_) m ⟨σ,hot,oa,hL,F⟩)
    obtain ⟨σ₁,hot₁,oa₁,hL₁,F₁⟩:=inv
    cases hL₁ with
    | done ht=>
      refine ht.run env he A hA s₁ hot₁ _ _ F₁.good fun s₂ g₂=>?_
      simp only [Bool.false_eq_true,if_false]
      exact wpAny_execs_nil (k _ _ ⟨rfl,hot₁,oa₁,F₁.grown g₂⟩)
    | next ht hb hL₂=>
      refine ht.run env he A hA s₁ hot₁ _ _ F₁.good fun s₂ g₂=>?_
      simp only [if_true]
      refine hb.run env he A hA base out hot₁ oa₁ s₂ _ _ (F₁.grown g₂) fun f s₃ ok=>?_
      obtain ⟨rfl,hot',oa',F'⟩:=ok
      exact ⟨_,Nat.lt_succ_self _,_,hot',oa',hL₂,F'⟩
    | cont ht hb hL₂=>
      refine ht.run env he A hA s₁ hot₁ _ _ F₁.good fun s₂ g₂=>?_
      simp only [if_true]
      refine hb.run env he A hA base out hot₁ oa₁ s₂ _ _ (F₁.grown g₂) fun f s₃ ok=>?_
      obtain ⟨rfl,hot',oa',F'⟩:=ok
      exact ⟨_,Nat.lt_succ_self _,_,hot',oa',hL₂,F'⟩
    | brk ht hb=>
      refine ht.run env he A hA s₁ hot₁ _ _ F₁.good fun s₂ g₂=>?_
      simp only [if_true]
      refine hb.run env he A hA base out hot₁ oa₁ s₂ _ _ (F₁.grown g₂) fun f s₃ ok=>?_
      obtain ⟨rfl,hot',oa',F'⟩:=ok
      exact k _ _ ⟨rfl,hot',oa',F'⟩
    | ret ht hb=>
      refine ht.run env he A hA s₁ hot₁ _ _ F₁.good fun s₂ g₂=>?_
      simp only [if_true]
      refine hb.run env he A hA base out hot₁ oa₁ s₂ _ _ (F₁.grown g₂) fun f s₃ ok=>?_
      obtain ⟨v,rfl,x⟩:=ok
      exact k _ _ ⟨v,rfl,x⟩⟩
structure BindsL (W:Wo) (sc:Scope) (ts:List PySem.Expr) (ds:List V) (σ σ':Store):Prop where
  run:∀ env,env.scope = sc→∀ A,Room A 0→∀ base out hot oa s vs (Q:Unit→Shared→Prop) E,Fm W env base out hot oa σ s→Rds s.heap hot ds vs →
    (∀ s',Fm W env base out hot oa σ' s'→Q () s')→wpAny (model W.prog W.w) A (assignInOrder ((assignEach ts env).map (·.2)) vs) Q E s
  len:∀ env,(assignEach ts env).length = ds.length∧(assignEach ts env).findIdx? (·.1) = none
theorem BindsL.nil:BindsL W sc [] [] σ σ:=⟨fun env he A hA base out hot oa s vs Q E F r k=>by
    unfold Rds at r; subst r
    show wpAny _ A (pure ()) Q E s
    exact wpAny_pure (k s F),fun ψ=>⟨rfl,rfl⟩⟩
theorem BindsL.cons {x:Str} {p:Pos} {ts:List PySem.Expr} {d:V} {ds:List V} {τ:Store} (hp:Put x (.val d) σ τ) (hn:noApp x σ) (h2:BindsL W sc ts ds τ σ') :
    BindsL W sc (.Name x p :: ts) (d :: ds) σ σ':=
  ⟨fun env he A hA base out hot oa s vs Q E F r k=>by
    unfold Rds at r
    obtain ⟨v,rest,rfl,r1,r2⟩:=r
    show wpAny _ A (do holding rest (assign (.Name x p) env v); assignInOrder ((assignEach ts env).map (·.2)) rest) Q E s
    have F1:=F.rebase
    refine wpAny_bind (wpAny_holding (wpAny_assign_Name (F1.store hp r1 hn fun s₁ F₁=>?_)))
    have r2':Rds s₁.heap hot ds rest:=by
      refine Rds.mono (fun b o nb e=>⟨F₁.grow.sub b o (hideAll_get _ e fun q=>nb (F.mutNew b q).2),nb⟩) _ _ r2
    exact h2.run env he A hA base out hot oa s₁ rest Q E (F₁.debase F.grow_hidden F.wbase F.outMut (fun a ha=>F.hotnew a ha.1) F.outlive) r2' k,
   fun env=>by
    obtain ⟨a,b⟩:=h2.len env
    refine ⟨by show (assignEach ts env).length + 1 = _; rw [a]; rfl,?_⟩
    show List.findIdx? (·.1) ((false,assign (.Name x p) env) :: assignEach ts env) = none
    rw [List.findIdx?_cons,b]; rfl⟩
theorem Fm.ext {env:Env} {base s:Shared} {out hot:Addr→Prop} {oa:Str→Addr} {h':Heap} (F:Fm W env base out hot oa σ s) (he:Heap.ExtBut s.heap.objs.size s.heap h'):Fm W env base out hot oa σ { s with heap:=h' }:=
  F.grown ⟨fun b o e=>he b o (Nat.ne_of_lt (Heap.lt_size e)) e,rfl,fun e=>e⟩
theorem Binds.tuple {ts:List PySem.Expr} {j:Nat} {p:Pos} {ds:List V} (h:BindsL W sc ts ds σ σ'):Binds W sc (.Tuple ts j p) (.tup ds) σ σ':=
  ⟨fun env he A hA base out hot oa s v Q E F r k=>by
    obtain ⟨a,items,rfl,ha,hl,hr⟩:=rd_tup r
    have hz:items.size = ds.length:=by rw [← hr.length]; simp
    refine assign_Tuple_tuple hA.handled hl ((h.len env).1.trans hz.symm) (h.len env).2 fun h' he'=>?_
    exact h.run env he A hA base out hot oa _ _ Q E (F.ext he') (Rds.mono (fun b o nb e=>⟨he' b o (Nat.ne_of_lt (Heap.lt_size e)) e,nb⟩) _ _ hr) k⟩
theorem Runs.unpack {ts:List PySem.Expr} {j:Nat} {p pos:Pos} {e:PySem.Expr} {d:V} (h:Ev W n sc σ e d) (hb:Binds W sc (.Tuple ts j p) d σ σ')
    (hs:∀ env,swapsWithSole [.Tuple ts j p] e pos.line env = pure false) (hw:∀ env,env.scope = sc→swappedStores [.Tuple ts j p] e env = pure none) :
    Runs W n sc (.Assign [.Tuple ts j p] e pos) σ (.next σ'):=
  ⟨fun env he A hA base out hot oa s Q E F k=>Assign_Tuple (h.run env he A hA s hot _ E F.good fun v s₁ g r=>
    hb.run env he A (hA.less (Nat.zero_le _)) base out hot oa s₁ v _ E (F.grown g) r fun s₂ F₂=>k _ _ ⟨rfl,hot,oa,F₂⟩) (hs env) (hw env he)⟩
structure BindsR (W:Wo) (sc:Scope) (xs:List Str) (ds:List V) (σ σ':Store):Prop where
  run:∀ env,env.scope = sc→∀ A,Room A 0→∀ base out hot oa s vs (Q:Unit→Shared→Prop) E,Fm W env base out hot oa σ s→Rds s.heap hot ds vs →
    (∀ s',Fm W env base out hot oa σ' s'→Q () s')→wpAny (model W.prog W.w) A (assignInOrder (xs.map fun n=>bindName env n) vs) Q E s
theorem BindsR.nil:BindsR W sc [] [] σ σ:=⟨fun env he A hA base out hot oa s vs Q E F r k=>by
    unfold Rds at r; subst r
    show wpAny _ A (pure ()) Q E s
    exact wpAny_pure (k s F)⟩
theorem BindsR.cons {x:Str} {xs:List Str} {d:V} {ds:List V} {τ:Store} (hp:Put x (.val d) σ τ) (hn:noApp x σ) (h2:BindsR W sc xs ds τ σ'):BindsR W sc (x :: xs) (d :: ds) σ σ':=
  ⟨fun env he A hA base out hot oa s vs Q E F r k=>by
    unfold Rds at r
    obtain ⟨v,rest,rfl,r1,r2⟩:=r
    show wpAny _ A (do holding rest (bindName env x v); assignInOrder (xs.map fun n=>bindName env n) rest) Q E s
    have F1:=F.rebase
    refine wpAny_bind (wpAny_holding (wpAny_bindName (F1.store hp r1 hn fun s₁ F₁=>?_)))
    have r2':Rds s₁.heap hot ds rest:=by
      refine Rds.mono (fun b o nb e=>⟨F₁.grow.sub b o (hideAll_get _ e fun q=>nb (F.mutNew b q).2),nb⟩) _ _ r2
    exact h2.run env he A hA base out hot oa s₁ rest Q E (F₁.debase F.grow_hidden F.wbase F.outMut (fun a ha=>F.hotnew a ha.1) F.outlive) r2' k⟩
theorem Rds.reverse {h:Heap} {hot:Addr→Prop}:∀ {ds:List V} {vs:List Value},Rds h hot ds vs→Rds h hot ds.reverse vs.reverse
  | [],vs,r=>by unfold Rds at r; subst r; exact .nil
  | d :: ds,vs,r=>by
    unfold Rds at r
    obtain ⟨v,rest,rfl,r1,r2⟩:=r
    rw [List.reverse_cons,List.reverse_cons]
    exact r2.reverse.app (.cons r1 .nil)
theorem Runs.swapped {ts:List PySem.Expr} {j:Nat} {p pos:Pos} {e:PySem.Expr} {ds:List V} {xs:List Str} (h:Ev W n sc σ e (.tup ds)) (hb:BindsR W sc xs.reverse ds.reverse σ σ')
    (hs:∀ env,swapsWithSole [.Tuple ts j p] e pos.line env = pure false) (hw:∀ env,env.scope = sc→swappedStores [.Tuple ts j p] e env = pure (some xs)) (hn:xs.length = ds.length) :
    Runs W n sc (.Assign [.Tuple ts j p] e pos) σ (.next σ'):=
  ⟨fun env he A hA base out hot oa s Q E F k=>Assign_Tuple_swapped (h.run env he A hA s hot _ E F.good fun v s₁ g r=>by
    obtain ⟨a,items,rfl,ha,hl,hr⟩:=rd_tup r
    have hz:xs.length = items.size:=by rw [hn,← hr.length]; simp
    rw [hz]
    refine unpackItems_tuple hA.handled hl fun h' he'=>?_
    exact hb.run env he A (hA.less (Nat.zero_le _)) base out hot oa _ _ _ E ((F.grown g).ext he') (Rds.mono (fun b o nb e=>⟨he' b o (Nat.ne_of_lt (Heap.lt_size e)) e,nb⟩) _ _ hr.reverse) fun s₂ F₂=>k _ _ ⟨rfl,hot,oa,F₂⟩) (hs env) (hw env he)⟩
end
section
variable {W:Wo} {n:Nat} {sc:Scope} {σ σ':Store}
structure EvNew (W:Wo) (n:Nat) (sc:Scope) (σ:Store) (e:PySem.Expr) (ds:List V):Prop where
  run:∀ env,env.scope = sc→∀ A,Room A n→∀ s hot (Q:Value→Shared→Prop) E,Good W env σ hot s →
    (∀ a s' items,Grow s s'→s.heap.get? a = none→s'.heap.PlainList a items→Rds s'.heap (fun b=>hot b∨b = a) ds items.toList→¬ hot a→Q (.ref a) s')→wpAny (model W.prog W.w) A (eval e env) Q E s
theorem EvNew.list {es:List PySem.Expr} {pos} {ds:List V} (h:Evs W n sc σ es ds) (hs:ds.length≤16777216):EvNew W n sc σ (.List es pos) ds:=
  ⟨fun env he A hA s hot Q E g k=>@PyProof.Rows.List_ _ _ _ _ _ _ _ _ (h.run env he A hA s hot _ E pos g fun vs s₁ g₁ r₁=>by
    have hz:vs.toArray.size≤sizeLine:=by rw [List.size_toArray,sizeLine_eq]; exact r₁.le hs
    refine wpAny_newObj_type ?_ hz
    have up:Sub s₁.heap (s₁.heap.push { cls:=.type "list",dict:=Option.none,data:=.seq vs.toArray }):=fun b o e=>Heap.get?_push_of_some _ e
    refine k _ _ vs.toArray (g₁.trans ⟨up,rfl,fun e=>e⟩) (nQ g₁.sub (gNQ _)) ⟨0,Heap.get?_push_size _ rfl⟩ ?_ (newIsHot (g.grow g₁).alive)
    rw [List.toList_toArray]
    exact Rds.mono (fun b o nb e=>⟨up b o e,fun q=>by
      rcases q with q | q
      · exact nb q
      · rw [q,gNQ] at e; cases e⟩) _ _ r₁)⟩
theorem Fm.storeOwn {env:Env} {base s:Shared} {out hot:Addr→Prop} {oa:Str→Addr} {M:Model} {A:Around} {E:Value→Shared→Prop} {x:Str} {ds:List V} {a:Addr} {items:Array Value} {Q:Unit→Shared→Prop}
    (F:Fm W env base out hot oa σ s) {s₁:Shared} (g:Grow s s₁) (hp:Put x (.own ds) σ σ') (hn:noApp x σ) (ha:s.heap.get? a = none) (hl:s₁.heap.PlainList a items) (hr:Rds s₁.heap (fun b=>hot b∨b = a) ds items.toList)
    (h:∀ s' hot' oa',Fm W env base out hot' oa' σ' s'→Q () s'):wpAny M A (storeName env x (.ref a)) Q E s₁:=by
  have F₁:=F.hotter g (wr:=[a]) (fun b hb=>by rw [List.mem_singleton.mp hb]; exact ha) (fun b hb=>by rw [List.mem_singleton.mp hb]; obtain ⟨m,e⟩:=hl; exact ⟨_,e⟩)
  have hh:∀ b,(hot b∨b = a)↔(hot b∨b∈[a]):=fun b=>by simp
  have hr':Rds s₁.heap (fun b=>hot b∨b∈[a]) ds items.toList:=Rds.mono (fun b o nb e=>⟨e,fun q=>nb ((hh b).mpr q)⟩) _ _ hr
  have aL:a≠env.locals:=fun q=>by obtain ⟨o,e⟩:=F.alive _ F.nshot; rw [← q,ha] at e; cases e
  have ac:∀ q∈σ,env.scope.names.lookup q.1 = some .cell→env.cells.lookup q.1≠some a:=fun q hq hk e=>by
    obtain ⟨c,v,h1,_,_,_,h5⟩:=F.cl q hq hk
    rw [e] at h1; cases h1
    obtain ⟨o,e'⟩:=F.alive _ h5
    rw [ha] at e'; cases e'
  have ao:∀ q∈σ,q.2.isOwn = true→oa q.1≠a:=fun q hq ho e=>by
    have:=(F.mutNew (oa q.1) (mQ.mpr (.inr (.inr ⟨q,hq,ho,rfl⟩)))).2
    obtain ⟨o,e'⟩:=F.alive _ this
    rw [e,ha] at e'; cases e'
  refine F₁.storeAny (oa':=fun y=>if y = x then a else oa y) hp (fun ψ e=>e) F₁.hotnew F₁.alive (fun ψ ψ e=>e) (fun ψ ψ e=>e) (fun y hy=>if_neg hy) (fun p hp' y e ψ=>⟨fun q=>hn p hp' (by rw [e,q]),fun ψ ψ e=>e⟩)
    (fun ψ=>⟨by rw [if_pos rfl]; exact nQ F.grow.sub ha,by rw [if_pos rfl]; exact aL,fun q hq ho ψ=>by rw [if_pos rfl]; exact ao q hq ho,fun q hq hk=>by rw [if_pos rfl]; exact ac q hq hk⟩)
    (fun h' hk hv=>?_) (fun s' F'=>h s' _ _ F')
  unfold SlotF OwnOk
  dsimp only
  rw [if_pos rfl]
  have keep:∀ b,b≠env.locals→(∀ q∈σ,env.scope.names.lookup q.1 = some .cell→env.cells.lookup q.1≠some b)→h'.get? b = s₁.heap.get? b:=fun b h1 h2=>hk b h1 fun c hl hc q=>by
    obtain ⟨p,hp1,hp2⟩:=List.mem_map.mp hp.mem
    exact h2 p hp1 (by rw [hp2]; exact hl) (by rw [hp2,hc,q])
  obtain ⟨m,e⟩:=hl
  refine ⟨items,hv,⟨m,(keep a aL ac).trans e⟩,?_,.inr (List.mem_singleton.mpr rfl),nQ F.grow.sub ha,aL⟩
  refine Rds.mono (fun b o nb e=>⟨(keep b (ne_hot F₁.nshot nb) fun q hq hk' hc=>?_).trans e,nb⟩) _ _ hr'
  obtain ⟨c,v,h1,_,_,_,h5⟩:=F₁.cl q hq hk'
  rw [hc] at h1; cases h1
  exact nb h5
theorem Runs.assignOwn {x:Str} {p pos:Pos} {e:PySem.Expr} {ds:List V} (h:EvNew W n sc σ e ds) (hp:Put x (.own ds) σ σ') (hn:noApp x σ) (hs:∀ env,swapsWith e (some (.Name x p)) pos.line env = pure false) :
    Runs W n sc (.Assign [.Name x p] e pos) σ (.next σ'):=
  ⟨fun env he A hA base out hot oa s Q E F k=>wpAny_Assign_Name (h.run env he A hA s hot _ E F.good fun a s₁ items g ha hl hr ψ=>
    F.storeOwn g hp hn ha hl hr fun s₂ hot' oa' F₂=>k _ _ ⟨rfl,hot',oa',F₂⟩) (hs env)⟩
theorem Fm.writeOwn {env:Env} {base s:Shared} {out hot:Addr→Prop} {oa:Str→Addr} {x:Str} {ds ds':List V} {h':Heap} {tk:Nat} {items':Array Value}
    (F:Fm W env base out hot oa σ s) (hm:(x,Slot.own ds)∈σ) (hp:Put x (.own ds') σ σ') (hs:Heap.SameBut (oa x) s.heap h') (hl:h'.PlainList (oa x) items') (hr:Rds s.heap hot ds' items'.toList) :
    Fm W env base out hot oa σ' { s with heap:=h',toks:=tk }:=by
  obtain ⟨items,va,_,_,hx,bx,xL⟩:=F.vars _ hm
  have back:=hp.back F.nodup
  have up:∀ b o,¬ hot b→s.heap.get? b = some o→h'.get? b = some o∧¬ hot b:=fun b o nb e=>⟨(hs.2 b (ne_hot hx nb)).trans e,nb⟩
  have vi:∀ p∈σ,∀ v,VarIs env s.heap p.1 v→VarIs env h' p.1 v:=fun p hp' v y=>y.same hs (Ne.symm xL) fun hk c hc q=>by
    rcases F.lc p hp' with k | k
    · rw [k] at hk; rcases hk with hk | hk <;> cases hk
    · exact F.ownCell p hp' _ hm k rfl (by rw [hc,q])
  have al:∀ a,hot a→∃ o,h'.get? a = some o:=alive_same F.alive hs (let ⟨m,e⟩:=hl; ⟨_,e⟩)
  have own':∀ p∈σ',p.2.isOwn = true→∃ q∈σ,q.2.isOwn = true∧q.1 = p.1:=fun p hp' ho=>by
    rcases hp.cases F.nodup p hp' with e | ⟨a,_⟩
    · subst e; exact ⟨_,hm,rfl,rfl⟩
    · exact ⟨p,a,ho,rfl⟩
  exact { F with
    grow:=F.grow.sameBut bx hs
    nodup:=by rw [hp.names]; exact F.nodup
    isv:=hp.all F.nodup (P:=fun y=>isVar env.scope y = true) F.isv
    lc:=hp.all F.nodup (P:=fun y=>env.scope.names.lookup y = some .local∨env.scope.names.lookup y = some .cell) F.lc
    ns:=F.ns.imp fun m hm=>hm.sameBut hs (Ne.symm xL)
    cl:=fun p hp' hk=>by
      obtain ⟨q,hq,e⟩:=back p hp'
      rw [← e] at hk ⊢
      obtain ⟨c,v,h1,h2,h3⟩:=F.cl q hq hk
      exact ⟨c,v,h1,h2.sameBut hs fun q'=>F.ownCell q hq _ hm hk rfl (by rw [h1,q']),h3⟩
    apart:=fun p hp' q hq' k1 k2 c h1 h2=>by
      obtain ⟨p',a,e⟩:=back p hp'
      obtain ⟨q',b,e'⟩:=back q hq'
      rw [← e] at k1 h1 ⊢; rw [← e'] at k2 h2 ⊢
      exact F.apart p' a q' b k1 k2 c h1 h2
    ownCell:=fun p hp' q hq' hk ho=>by
      obtain ⟨p',a,e⟩:=back p hp'
      obtain ⟨q',b,ho',e'⟩:=own' q hq' ho
      rw [← e] at hk ⊢; rw [← e']
      exact F.ownCell p' a q' b hk ho'
    vars:=fun p hp'=>by
      rcases hp.cases F.nodup p hp' with e | ⟨a,hne⟩
      · subst e
        exact ⟨items',vi _ hm _ va,hl,Rds.mono up _ _ hr,hx,bx,xL⟩
      · have old:=F.vars p a
        cases h:p.2 with
        | unset=>trivial
        | val d=>rw [h] at old; obtain ⟨v,y,z⟩:=old; exact ⟨v,vi p a v y,Rd.mono up _ _ z⟩
        | own l=>
          rw [h] at old; obtain ⟨its,y,⟨m,z⟩,r,d⟩:=old
          exact ⟨its,vi p a _ y,⟨m,(hs.2 _ fun q=>hne (F.inj p a _ hm (by rw [h]; rfl) rfl q)).trans z⟩,Rds.mono up _ _ r,d⟩
        | app y=>
          rw [h] at old; obtain ⟨b,y',⟨o,z,r⟩,nb⟩:=old
          exact ⟨b,vi p a _ y',⟨o,(up b o nb z).1,r⟩,nb⟩
    alive:=al
    inj:=fun p hp' q hq' h1 h2 e=>by
      obtain ⟨p',a,ha,e1⟩:=own' p hp' h1
      obtain ⟨q',b,hb,e2⟩:=own' q hq' h2
      rw [← e1,← e2] at e ⊢
      exact F.inj p' a q' b ha hb e }
theorem Fm.ownVar {env:Env} {base s:Shared} {out hot:Addr→Prop} {oa:Str→Addr} (F:Fm W env base out hot oa σ s) {x:Str} {p:Pos} {ds:List V} (hm:(x,Slot.own ds)∈σ) {M:Model} {A:Around} {E:Value→Shared→Prop} {Q:Value→Shared→Prop}
    (h:Q (.ref (oa x)) s):wpAny M A (eval (.Name x p) env) Q E s:=by
  obtain ⟨items,hx,_⟩:=F.vars _ hm
  have hd:=isVar_1 (F.isv _ hm)
  rcases hx with ⟨a,m,hn,hmx⟩ | ⟨a | a,c,hc,hcv⟩
  · exact wpAny_Name (wpAny_loadName_local F.kind a hn hmx h) hd
  · exact wpAny_Name (wpAny_loadName_cell F.kind a hc hcv h) hd
  · exact wpAny_Name (wpAny_loadName_free F.kind a hc hcv h (isVar_2 (F.isv _ hm))) hd
theorem Fm.notInter {env:Env} {base s:Shared} {out hot:Addr→Prop} {oa:Str→Addr} (F:Fm W env base out hot oa σ s):interactive env = false:=by
  unfold interactive; rw [F.kind]; rfl
theorem Runs.append {x:Str} {p apos pos pos':Pos} {e:PySem.Expr} {ds:List V} {d:V} (hm:(x,Slot.own ds)∈σ) (h:Ev W n sc σ e d) (hp:Put x (.own (ds ++ [d])) σ σ') (hz:ds.length≤1000000)
    (hline:(apos.endLine == pos.line) = true) (hn:∀ env,starEach [e] env = [(false,eval e env)]) :
    Runs W n sc (.Expr (.Call (.Attribute (.Name x p) "append" apos) [e] [] pos) pos') σ (.next σ'):=
  ⟨fun env he A hA base out hot oa s Q E F k=>by
    refine wpAny_Expr_any (wpAny_Call_append (by rfl) (by rw [hn]; rfl) hline (by rw [hn]; rfl) (F.ownVar hm ?_)) F.notInter rfl
    obtain ⟨items,_,⟨m,hl⟩,hr,_⟩:=F.vars _ hm
    refine ⟨oa x,items,rfl,⟨_,m,hl,rfl,rfl,rfl⟩,h.run env he A hA s hot _ E F.good fun v s₁ g r=>?_⟩
    have hz':items.size≤sizeLine:=by have:=hr.length; rw [Array.length_toList] at this; rw [this,sizeLine_eq]; exact o6 hz
    refine wpAny_list_append_plain ⟨m,g.sub _ _ hl⟩ (fun h' hpl hs'=>k _ _ ⟨rfl,hot,oa,(F.grown g).writeOwn hm hp hs' hpl ?_⟩) hz'
    rw [Array.toList_push]
    exact (hr.sub g.sub).app (.cons r .nil)⟩
theorem Rds.set {h:Heap} {hot:Addr→Prop}:∀ {ds:List V} {vs:List Value} (i:Nat) {d:V} {v:Value},Rds h hot ds vs→Rd h hot d v→Rds h hot (ds.set i d) (vs.set i v)
  | [],vs,i,d,v,r,_=>by unfold Rds at r; subst r; exact .nil
  | x :: ds,vs,i,d,v,r,q=>by
    unfold Rds at r
    obtain ⟨w,rest,rfl,r1,r2⟩:=r
    cases i with
    | zero=>exact .cons q r2
    | succ i=>exact .cons r1 (r2.set i q)
theorem set_own {env:Env} {base s s₁:Shared} {out hot:Addr→Prop} {oa:Str→Addr} {A:Around} {E:Value→Shared→Prop} {Q:Unit→Shared→Prop} {x:Str} {ds:List V} {i:Int} {t:Tok} {d:V} {v:Value}
    (F:Fm W env base out hot oa σ s) (hm:(x,Slot.own ds)∈σ) (hp:Put x (.own (ds.set i.toNat d)) σ σ') (h0:0≤i) (h1:i < ds.length) (h2:i < 2 ^ 63) (r:Rd s.heap hot d v)
    (h:∀ s',Fm W env base out hot oa σ' s'→Q () s'):wpAny (model W.prog W.w) A (setItem (.ref (oa x)) (.int i t) v) Q E s:=by
  obtain ⟨items,_,⟨m,hl⟩,hr,_⟩:=F.vars _ hm
  have hz:items.size = ds.length:=by rw [← hr.length]; simp
  refine ki_setAt (n:=m) hl h0 h2 (by rw [hz]; exact h1) (h _ (F.writeOwn hm hp (Heap.SameBut.update ..) (items':=items.setIfInBounds i.toNat v) ?_ ?_))
  · obtain ⟨m',e⟩:∃ m',Obj.mapSeq (·.setIfInBounds i.toNat v) { cls:=.type "list",data:=.seq items m } = { cls:=.type "list",data:=.seq (items.setIfInBounds i.toNat v) m' }:=⟨_,rfl⟩
    exact ⟨m',(Heap.get?_update_self _ hl (by rw [e]; rfl)).trans (congrArg some e)⟩
  · rw [Array.toList_setIfInBounds]; exact hr.set _ r
theorem Runs.setItem {x:Str} {p pos' pos:Pos} {ie e:PySem.Expr} {ds:List V} {i:Int} {d:V} (hm:(x,Slot.own ds)∈σ) (h:Ev W n sc σ e d) (hi:Ev W n sc σ ie (.int i)) (hp:Put x (.own (ds.set i.toNat d)) σ σ') (h0:0≤i) (h1:i < ds.length) (h2:i < 2 ^ 63)
    (hs:∀ env,swapsWith e (some (.Subscript (.Name x p) ie pos')) pos.line env = pure false) :
    Runs W n sc (.Assign [.Subscript (.Name x p) ie pos'] e pos) σ (.next σ'):=
  ⟨fun env he A hA base out hot oa s Q E F k=>wpAny_Assign_Subscript (h.run env he A hA s hot _ E F.good fun v s₁ g₁ r₁=>(F.grown g₁).ownVar hm (hi.run env he A hA s₁ hot _ E (F.grown g₁).good fun iv s₂ g₂ r₂=>by
    obtain ⟨t,rfl⟩:=rQ r₂
    exact set_own (F.grown (g₁.trans g₂)) (s₁:=s₂) hm hp h0 h1 h2 (r₁.sub g₂.sub) fun s' F'=>k _ _ ⟨rfl,hot,oa,F'⟩)) (hs env)⟩
theorem Runs.augItem {x:Str} {p pos' pos:Pos} {ie e:PySem.Expr} {op:Operator} {ds:List V} {i:Int} {a b d:V} (hm:(x,Slot.own ds)∈σ) (hi:Ev W n sc σ ie (.int i)) (h0:0≤i) (h2:i < 2 ^ 63) (ha:ds[i.toNat]? = some a)
    (h:Ev W n sc σ e b) (ho:InpOk W op a b d) (hp:Put x (.own (ds.set i.toNat d)) σ σ') (hg:∀ ov iv new,augStore ie ov iv new = (do holding [new,ov,iv] (PySem.setItem ov iv new); release [new,ov,iv] []; pure .next)) :
    Runs W n sc (.AugAssign (.Subscript (.Name x p) ie pos') op e pos) σ (.next σ'):=
  ⟨fun env he A hA base out hot oa s Q E F k=>wpAny_AugAssign_SubscriptAny (F.ownVar hm (hi.run env he A hA s hot _ E F.good fun iv s₁ g₁ r₁=>by
    obtain ⟨t,rfl⟩:=rQ r₁
    have F₁:=F.grown g₁
    obtain ⟨items,_,⟨m,hl⟩,hr,_⟩:=F₁.vars _ hm
    obtain ⟨v,hv,rv⟩:=hr.getElem ha
    have h1:i < ds.length:=by
      have:=(List.getElem?_eq_some_iff.mp ha).1
      omega
    refine @wpAny_getItem_list _ _ _ _ _ _ _ _ _ _ _ (PlainList.isList ⟨m,hl⟩) h0 h2 (by simpa using hv) (h.run env he A hA s₁ hot _ E F₁.good fun w s₂ g₂ r₂=>?_)
    exact ho A (hA.less (Nat.zero_le _)) s₂ hot v w _ E (F₁.grown g₂).good.base (F₁.grown g₂).alive (rv.sub g₂.sub) r₂ fun u s₃ g₃ r₃=>
      set_own (F₁.grown (g₂.trans g₃)) (s₁:=s₃) hm hp h0 h1 h2 r₃ fun s' F'=>k _ _ ⟨rfl,hot,oa,F'⟩)) hg⟩
theorem Fm.freeze {env:Env} {base s:Shared} {out hot:Addr→Prop} {oa:Str→Addr} {x:Str} {ds:List V} (F:Fm W env base out hot oa σ s) (hm:(x,Slot.own ds)∈σ) (hp:Put x (.val (.list ds)) σ σ') :
    Fm W env base out (fun a=>hot a∧a≠oa x) oa σ' s:=by
  obtain ⟨items,va,hl,hr,hx,bx,xL⟩:=F.vars _ hm
  have back:=hp.back F.nodup
  have own':∀ p∈σ',p.2.isOwn = true→p∈σ∧p.1≠x:=fun p hp' ho=>by
    rcases hp.cases F.nodup p hp' with e | a
    · subst e; cases ho
    · exact a
  exact { F with
    nodup:=by rw [hp.names]; exact F.nodup
    isv:=hp.all F.nodup (P:=fun y=>isVar env.scope y = true) F.isv
    lc:=hp.all F.nodup (P:=fun y=>env.scope.names.lookup y = some .local∨env.scope.names.lookup y = some .cell) F.lc
    cl:=fun p hp' hk=>by
      obtain ⟨q,hq,e⟩:=back p hp'
      rw [← e] at hk ⊢
      obtain ⟨c,v,h1,h2,h3,h4,h5⟩:=F.cl q hq hk
      exact ⟨c,v,h1,h2,h3,h4,h5,fun q'=>F.ownCell q hq _ hm hk rfl (by rw [h1,q'])⟩
    apart:=fun p hp' q hq' k1 k2 c h1 h2=>by
      obtain ⟨p',a,e⟩:=back p hp'
      obtain ⟨q',b,e'⟩:=back q hq'
      rw [← e] at k1 h1 ⊢; rw [← e'] at k2 h2 ⊢
      exact F.apart p' a q' b k1 k2 c h1 h2
    ownCell:=fun p hp' q hq' hk ho=>by
      obtain ⟨p',a,e⟩:=back p hp'
      rw [← e] at hk ⊢
      exact F.ownCell p' a q (own' q hq' ho).1 hk ho
    vars:=fun p hp'=>by
      rcases hp.cases F.nodup p hp' with e | ⟨a,hne⟩
      · subst e
        refine ⟨_,va,?_⟩
        unfold Rd
        exact ⟨_,items,rfl,fun q=>q.2 rfl,hl,Rds.mono (fun b o nb e=>⟨e,fun q=>nb q.1⟩) _ _ hr⟩
      · have old:=F.vars p a
        cases h:p.2 with
        | unset=>trivial
        | val d=>rw [h] at old; obtain ⟨v,y,z⟩:=old; exact ⟨v,y,z.less fun b q=>q.1⟩
        | own l=>
          rw [h] at old; obtain ⟨its,y,z,r,d,e⟩:=old
          exact ⟨its,y,z,Rds.mono (fun b o nb e=>⟨e,fun q=>nb q.1⟩) _ _ r,⟨d,fun q=>hne (F.inj p a _ hm (by rw [h]; rfl) rfl q)⟩,e⟩
        | app y=>
          rw [h] at old; obtain ⟨b,y',z,nb⟩:=old
          exact ⟨b,y',z,fun q=>nb q.1⟩
    alive:=fun a q=>F.alive a q.1
    outhot:=fun a ha=>⟨F.outhot a ha,fun q=>by obtain ⟨o,e⟩:=F.outlive a ha; rw [q,bx] at e; cases e⟩
    hotnew:=fun a q=>F.hotnew a q.1
    nshot:=⟨F.nshot,Ne.symm xL⟩
    inj:=fun p hp' q hq' h1 h2 e=>F.inj p (own' p hp' h1).1 q (own' q hq' h2).1 h1 h2 e }
theorem RQ.freeze {x:Str} {ds:List V} {sts:List Stmt} {r:Res} (hm:(x,Slot.own ds)∈σ) (hp:Put x (.val (.list ds)) σ σ') (h:RQ W n sc sts σ' r):RQ W n sc sts σ r:=
  ⟨fun env he A hA base out hot oa s Q E F k=>h.run env he A hA base out _ oa s Q E (F.freeze hm hp) k⟩
end
noncomputable def nodupB:List Str→Bool
  | []=>true
  | x :: r=>!r.contains x && nodupB r
theorem nodupB_ok:∀ {l:List Str},nodupB l = true→l.Nodup
  | [],_=>List.nodup_nil
  | x :: r,h=>by
    unfold nodupB at h
    simp only [Bool.and_eq_true,Bool.not_eq_true'] at h
    refine List.nodup_cons.mpr ⟨fun q=>?_,nodupB_ok h.2⟩
    have h1:=h.1
    rw [List.contains_iff_mem.mpr q] at h1
    exact Bool.noConfusion h1
noncomputable def okNames (sc:Scope) (xs:List Str):Bool:=
  nodupB xs && xs.all (fun x=>isVar sc x && (sc.names.lookup x == some .local || sc.names.lookup x == some .cell)) && sc.names.all (fun p=>p.2 != .free) && sc.kind == .function && !sc.isGenerator && !sc.isCoroutine
structure OkNames (sc:Scope) (xs:List Str):Prop where
  nodup:xs.Nodup
  isv:∀ x∈xs,isVar sc x = true
  lc:∀ x∈xs,sc.names.lookup x = some .local∨sc.names.lookup x = some .cell
  nofree:∀ x,sc.names.lookup x≠some .free
  kind:sc.kind = .function
  gen:sc.isGenerator = false
  co:sc.isCoroutine = false
theorem okNames_ok {sc:Scope} {xs:List Str} (h:okNames sc xs = true):OkNames sc xs:=by
  unfold okNames at h
  simp only [Bool.and_eq_true,Bool.not_eq_true',List.all_eq_true,Bool.or_eq_true,beq_iff_eq,bne_iff_ne] at h
  obtain ⟨⟨⟨⟨⟨h1,h2⟩,h3⟩,h4⟩,h5⟩,h6⟩:=h
  exact ⟨nodupB_ok h1,fun x hx=>(h2 x hx).1,fun x hx=>(h2 x hx).2,fun x e=>h3 _ (mem_of_lookup e) rfl,h4,h5,h6⟩
theorem lookup_cellsFrom:∀ (names:List (Str × NameKind)) (m:Nat) (acc:List (Str × Addr)) (x:Str),names.lookup x = some .cell∨(acc.lookup x).isSome = true→((cellsFrom m names acc).lookup x).isSome = true
  | [],m,acc,x,h=>by
    rcases h with h | h
    · cases h
    · exact h
  | (y,k) :: r,m,acc,x,h=>by
    unfold cellsFrom
    by_cases hk:(k == NameKind.cell) = true
    · rw [if_pos hk]
      refine lookup_cellsFrom r _ _ x ?_
      by_cases hx:(x == y) = true
      · exact .inr (by rw [List.lookup_cons,hx]; rfl)
      · rcases h with h | h
        · rw [List.lookup_cons,show (x == y) = false by simpa using hx] at h; exact .inl h
        · exact .inr (by rw [List.lookup_cons,show (x == y) = false by simpa using hx]; exact h)
    · rw [if_neg hk]
      refine lookup_cellsFrom r _ _ x ?_
      rcases h with h | h
      · by_cases hx:(x == y) = true
        · rw [List.lookup_cons,hx] at h
          cases h; exact absurd rfl hk
        · rw [List.lookup_cons,show (x == y) = false by simpa using hx] at h; exact .inl h
      · exact .inr h
theorem bindL_other (kindOf:Str→Option NameKind):∀ (binds:List (Str × Value)) (m:Str→Option Value) (x:Str),x ∉ binds.map (·.1)→bindL kindOf binds m x = m x
  | [],_,_,_=>rfl
  | (y,v) :: r,m,x,h=>by
    unfold bindL
    rw [bindL_other kindOf r _ x fun q=>h (by simp only [List.map_cons]; exact List.mem_cons_of_mem _ q)]
    have hne:x≠y:=fun e=>h (by simp only [List.map_cons]; exact e ▸ List.mem_cons_self)
    split
    · exact if_neg hne
    · rfl
theorem bindL_at (kindOf:Str→Option NameKind):∀ (binds:List (Str × Value)) (m:Str→Option Value) (x:Str) (v:Value),(binds.map (·.1)).Nodup→(x,v)∈binds→kindOf x = some .local→bindL kindOf binds m x = some v:=by
  intro binds
  induction binds with
  | nil=>intro m x v nd hm hk; cases hm
  | cons p r ih=>
    intro m x v nd hm hk
    obtain ⟨y,w⟩:=p
    unfold bindL
    simp only [List.map_cons,List.nodup_cons] at nd
    rcases List.mem_cons.mp hm with e | hm
    · obtain ⟨rfl,rfl⟩:=Prod.mk.inj e
      rw [bindL_other kindOf r _ _ nd.1,if_pos hk]
      simp
    · exact ih _ x v nd.2 hm hk
theorem bindC_other (kindOf:Str→Option NameKind):∀ (binds:List (Str × Value)) (m:Str→Option Value) (x:Str),x ∉ binds.map (·.1)→bindC kindOf binds m x = m x
  | [],_,_,_=>rfl
  | (y,v) :: r,m,x,h=>by
    unfold bindC
    rw [bindC_other kindOf r _ x fun q=>h (by simp only [List.map_cons]; exact List.mem_cons_of_mem _ q)]
    have hne:x≠y:=fun e=>h (by simp only [List.map_cons]; exact e ▸ List.mem_cons_self)
    split
    · rfl
    · exact if_neg hne
theorem bindC_at (kindOf:Str→Option NameKind):∀ (binds:List (Str × Value)) (m:Str→Option Value) (x:Str) (v:Value),(binds.map (·.1)).Nodup→(x,v)∈binds→kindOf x≠some .local→bindC kindOf binds m x = some v:=by
  intro binds
  induction binds with
  | nil=>intro m x v nd hm hk; cases hm
  | cons p r ih=>
    intro m x v nd hm hk
    obtain ⟨y,w⟩:=p
    unfold bindC
    simp only [List.map_cons,List.nodup_cons] at nd
    rcases List.mem_cons.mp hm with e | hm
    · obtain ⟨rfl,rfl⟩:=Prod.mk.inj e
      rw [bindC_other kindOf r _ _ nd.1,if_neg hk]
      simp
    · exact ih _ x v nd.2 hm hk
noncomputable def aQ (ps:List Str) (ds:List V) (ls:List Str):Store:=(ps.zip ds).map (fun p=>(p.1,Slot.val p.2)) ++ ls.map fun x=>(x,Slot.unset)
section
variable {W:Wo} {n:Nat}
theorem zip_map_fst {α:Type}:∀ {ps:List Str} {ds:List α},ps.length = ds.length→(ps.zip ds).map (·.1) = ps
  | [],[],_=>rfl
  | p :: ps,d :: ds,h=>by simp only [List.zip_cons_cons,List.map_cons]; rw [zip_map_fst (by simpa using h)]
theorem argStore_names {ps:List Str} {ds:List V} {ls:List Str} (h:ps.length = ds.length):(aQ ps ds ls).map (·.1) = ps ++ ls:=by
  unfold aQ
  rw [List.map_append,List.map_map,List.map_map]
  have e1:((fun x:Str × Slot=>x.1) ∘ fun p:Str × V=>(p.1,Slot.val p.2)) = fun p=>p.1:=rfl
  have e2:((fun x:Str × Slot=>x.1) ∘ fun x:Str=>(x,Slot.unset)) = id:=rfl
  rw [e1,e2,List.map_id,zip_map_fst h]
theorem Rds.zip {h:Heap} {hot:Addr→Prop}:∀ {ps:List Str} {ds:List V} {vs:List Value},Rds h hot ds vs→∀ x d,(x,d)∈ps.zip ds→∃ v,(x,v)∈ps.zip vs∧Rd h hot d v
  | [],ds,vs,r,x,d,hm=>by simp at hm
  | p :: ps,[],vs,r,x,d,hm=>by simp at hm
  | p :: ps,e :: ds,vs,r,x,d,hm=>by
    unfold Rds at r
    obtain ⟨v,rest,rfl,r1,r2⟩:=r
    rw [List.zip_cons_cons] at hm ⊢
    rcases List.mem_cons.mp hm with q | hm
    · cases q; exact ⟨v,List.mem_cons_self,r1⟩
    · obtain ⟨w,a,b⟩:=Rds.zip r2 x d hm
      exact ⟨w,List.mem_cons_of_mem _ a,b⟩
theorem Fm.start {s s':Shared} {hot:Addr→Prop} {env:Env} {ps:List Str} {ds:List V} {vs:List Value} {ls:List Str} {sc:Scope}
    (hB:Sub W.B s.heap) (al:∀ a,hot a→∃ o,s.heap.get? a = some o) (hr:Rds s.heap hot ds vs) (hp:ps.length = ds.length) (ok:OkNames sc (ps ++ ls)) (hsc:env.scope = sc) (hg:env.globals = mainGlobals) (hb:env.builtins = builtinsNs)
    (hcells:env.cells = cellsFrom (env.locals + 1) sc.names [])
    (x:InCallC s env.locals (bindL env.kindOf (ps.zip vs) fun ψ=>none) env.cells (bindC env.kindOf (ps.zip vs) fun ψ=>none) s') :
    Fm W env s hot (fun a=>hot a∨a = env.locals∨∃ y,env.cells.lookup y = some a) (fun ψ=>0) (aQ ps ds ls) s':=by
  subst hsc
  have hlen:ps.length = vs.length:=by rw [hp,hr.length]
  have nd:((ps.zip vs).map (·.1)).Nodup:=by rw [zip_map_fst hlen]; exact (List.nodup_append.mp ok.nodup).1
  have names:=argStore_names (ls:=ls) hp
  have inNames:∀ p∈aQ ps ds ls,p.1∈ps ++ ls:=fun p hp'=>names ▸ List.mem_map_of_mem hp'
  have keep:∀ b o,s.heap.get? b = some o→s'.heap.get? b = some o:=x.toInCall.keep
  have newL:s.heap.get? env.locals = none:=by
    cases e:s.heap.get? env.locals with
    | none=>rfl
    | some o=>exact absurd (Heap.lt_size e) (Nat.not_lt.mpr x.toInCall.fresh)
  have newC:∀ y c,env.cells.lookup y = some c→s.heap.get? c = none∧c≠env.locals:=fun y c hc=>by
    have hlt:=x.above y c (mem_of_lookup hc)
    refine ⟨?_,Nat.ne_of_gt hlt⟩
    cases e:s.heap.get? c with
    | none=>rfl
    | some o=>exact absurd (Heap.lt_size e) (Nat.not_lt.mpr (Nat.le_of_lt (Nat.lt_of_le_of_lt x.toInCall.fresh hlt)))
  have cellOk:∀ y,env.scope.names.lookup y = some .cell→∃ c,env.cells.lookup y = some c:=fun y hy=>by
    rw [hcells]
    exact Option.isSome_iff_exists.mp (lookup_cellsFrom _ _ _ _ (.inl hy))
  refine { wbase:=hB,grow:=⟨keep,by obtain ⟨h,t,e⟩:=x.toInCall.same; rw [e],fun q=>by obtain ⟨h,t,e⟩:=x.toInCall.same; rw [e]; exact q⟩,kind:=ok.kind,globals:=hg,builtins:=hb,nodup:=by rw [names]; exact ok.nodup,isv:=fun p hp'=>ok.isv _ (inNames p hp'),lc:=fun p hp'=>ok.lc _ (inNames p hp'),ns:=⟨_,x.toInCall.ns⟩,nsNew:=newL,cells:=?_,cl:=?_,apart:=?_,ownCell:=?_,vars:=?_,alive:=?_,outhot:=fun a ha=>.inl ha,outlive:=al,hotnew:=?_,nshot:=.inr (.inl rfl),inj:=?_ }
  · rintro y (hy | hy)
    · obtain ⟨c,hc⟩:=cellOk y hy; rw [hc]; rfl
    · exact absurd hy (ok.nofree y)
  · intro p hp' hk
    obtain ⟨c,hc⟩:=cellOk p.1 hk
    exact ⟨c,_,hc,x.cell _ c hc,(newC _ c hc).1,(newC _ c hc).2,.inr (.inr ⟨_,hc⟩)⟩
  · intro p hp' q hq' _ _ c h1 h2
    exact name_of_addr x.apart (mem_of_lookup h1) (mem_of_lookup h2)
  · intro p hp' q hq' _ ho
    exfalso
    unfold aQ at hq'
    rcases List.mem_append.mp hq' with q' | q'
    · obtain ⟨z,_,rfl⟩:=List.mem_map.mp q'; cases ho
    · obtain ⟨z,_,rfl⟩:=List.mem_map.mp q'; cases ho
  · intro p hp'
    unfold aQ at hp'
    rcases List.mem_append.mp hp' with q | q
    · obtain ⟨⟨y,d⟩,hz,rfl⟩:=List.mem_map.mp q
      obtain ⟨v,hv,rv⟩:=hr.zip y d hz
      have rv':Rd s'.heap (fun a=>hot a∨a = env.locals∨∃ y,env.cells.lookup y = some a) d v:=Rd.mono (fun b o nb e=>⟨keep b o e,fun q=>by
        rcases q with q | q | ⟨z,q⟩
        · exact nb q
        · rw [q,newL] at e; cases e
        · rw [(newC z b q).1] at e; cases e⟩) _ _ rv
      refine ⟨v,?_,rv'⟩
      rcases ok.lc y (List.mem_append_left _ (by have:=List.of_mem_zip hz; exact this.1)) with k | k
      · exact .inl ⟨k,_,x.toInCall.ns,bindL_at _ _ _ _ _ nd hv k⟩
      · obtain ⟨c,hc⟩:=cellOk y k
        refine .inr ⟨.inl k,c,hc,?_⟩
        have:=x.cell y c hc
        rw [bindC_at _ _ _ _ _ nd hv (by show List.lookup y env.scope.names≠_; rw [k]; decide)] at this
        exact this
    · obtain ⟨z,_,rfl⟩:=List.mem_map.mp q; trivial
  · rintro a (ha | ha | ⟨y,ha⟩)
    · exact (al a ha).imp fun o e=>keep a o e
    · subst ha; obtain ⟨o,_,_,e,_⟩:=x.toInCall.ns; exact ⟨o,e⟩
    · obtain ⟨o,e,_⟩:=x.cell y a ha; exact ⟨o,e⟩
  · rintro a (ha | ha | ⟨y,ha⟩)
    · exact .inl ha
    · subst ha; exact .inr newL
    · exact .inr (newC y a ha).1
  · intro p hp' q hq' ho _ _
    exfalso
    unfold aQ at hp'
    rcases List.mem_append.mp hp' with q' | q'
    · obtain ⟨z,_,rfl⟩:=List.mem_map.mp q'; cases ho
    · obtain ⟨z,_,rfl⟩:=List.mem_map.mp q'; cases ho
structure IsDef (W:Wo) (a:Addr) (fd:FuncData) (body:List Stmt):Prop where
  get:∃ o,W.B.get? a = some o∧o.data = .func fd
  body:fd.body = .stmts body
  code:W.B.CodeRec fd.code fd.qualname
  clo:fd.closure = []
  globals:fd.globals = mainGlobals
  builtins:fd.builtins = builtinsNs
theorem IsDef.callee {a fd body} (h:IsDef W a fd body):Callee W (.ref a):=let ⟨o,h1,h2⟩:=h.get; ⟨o,fd,h1,h2⟩
theorem code_fn {a:Addr} {fd:FuncData} {body:List Stmt} {ps ls:List Str} {ds:List V} {c:V} {kw:List (Str × Value)} {A:Around} {s:Shared} {hot:Addr→Prop} {args vs:List Value} {R:Result→Shared→Prop}
    (hf:IsDef W a fd body) (ok:okNames fd.scope (ps ++ ls) = true) (hp:ps.length = ds.length) (h:RQ W n fd.scope body (aQ ps ds ls) (.ret c))
    (hA:Room A (n + 1)) (hB:Sub W.B s.heap) (al:∀ a,hot a→∃ o,s.heap.get? a = some o) (hr:Rds s.heap hot ds vs) (hbind:BindsTo s fd ⟨args,kw⟩ (ps.zip vs))
    (k:∀ v s',Grow s s'→Rd s'.heap hot c v→R (.ok (.ret v)) s'):codeAny (model W.prog W.w) A (.call (.ref a) ⟨args,kw⟩) R s:=by
  have ok':=okNames_ok ok
  obtain ⟨o,h1,h2⟩:=hf.get
  have hlen:ps.length = vs.length:=by rw [hp,hr.length]
  refine codeAny_call_function hA.lim (hB _ _ h1) h2 ok'.co ok'.gen hf.body (let ⟨c,o,vs,t,a,b,d⟩:=hf.code; ⟨c,o,vs,t,a,hB _ _ b,d⟩) (hbind _ _ _ _ ?_)
  rw [hf.clo]
  refine wpAny_newFunctionEnv_cells ok'.kind (fun x hx=>?_) fun env he s' x=>?_
  · have:=ok'.lc x.1 (List.mem_append_left _ (by have:=List.of_mem_zip (a:=x.1) (b:=x.2) hx; exact this.1))
    rcases this with q | q
    · exact .inl q
    · exact .inr ⟨q,lookup_cellsFrom _ _ _ _ (.inl q)⟩
  · subst he
    refine ⟨(W.hnl.keeps hB).keeps x.toInCall.keep,codeAny_func ?_⟩
    refine h.run _ rfl _ hA.deeper s hot _ _ s' _ _ (Fm.start hB al hr hp ok' rfl hf.globals hf.builtins rfl x) fun f s₂ r=>?_
    obtain ⟨v,rfl,g,rv⟩:=r
    exact k v s₂ g rv
theorem KQ.fn {a:Addr} {fd:FuncData} {body:List Stmt} {ps ls:List Str} {ds:List V} {c:V} (hf:IsDef W a fd body) (ok:okNames fd.scope (ps ++ ls) = true) (hp:ps.length = ds.length)
    (hbind:∀ vs:List Value,vs.length = ps.length→bindArgs fd ⟨vs,[]⟩ = pure (ps.zip vs)) (h:RQ W n fd.scope body (aQ ps ds ls) (.ret c)):KQ W (n + 1) (.ref a) ds c:=by
  intro A hA s hot vs Q E hB al hr k
  refine wpAny_call (code_fn hf ok hp h hA hB al hr (.of_eq (hbind vs (by rw [hr.length,hp]))) fun v s' g r=>?_)
  exact k v s' g r
end
section
variable {prog:Program} {w:World} {A:Around} {E:Value→Shared→Prop} {s:Shared}
theorem wp_compTurn {elt t iter:PySem.Expr} {gens:List Comprehension} {scope:Scope} {pos:Pos} {d:Nat} {it acc:Value} {env:Env} {ifs:List PySem.Expr} {Q:Fin→Shared→Prop} (h:gens[d]? = some ⟨t,iter,ifs,0⟩)
    (hnext:∀ g',gens[d + 1]? = some g'→g'.is_async = 0∧∀ x,foldedSetIterable g'.iter env x = pure x)
    (hq:wpAny (model prog w) A (pyNext it) (fun r s₁=>match r with
      | none=>Q (.done .next) s₁
      | some v=>wpAny (model prog w) A (letOwnedTupleGo t it v) (fun ψ s₂=>wpAny (model prog w) A (assign t env v) (fun ψ s₃=>
          wpAny (model prog w) A (forIn ifs true fun c r=>if r = true then do let ok ← isTrue c env (eval c env); pure (ForInStep.yield ok) else pure (ForInStep.yield r)) (fun ok s₄=>
            if ok = true then (match gens[d + 1]? with
              | some g'=>wpAny (model prog w) A (eval g'.iter env) (fun x s₅=>wpAny (model prog w) A (pyIter x) (fun it' s₆=>
                  codeAny (model prog w) A (.compStart (.ListComp elt gens scope pos) (d + 1) it' acc env) (fun r s'=>match r with | .ok _=>Q (.again (.compLoop (.ListComp elt gens scope pos) d it acc env)) s' | .error e=>cameBackBy (model prog w) A env E e s') s₆) E s₅) E s₄
              | none=>wpAny (model prog w) A (eval elt env) (fun y s₅=>wpAny (model prog w) A (call (.builtin "list.append") [acc,y]) (fun ψ s₆=>Q (.again (.compLoop (.ListComp elt gens scope pos) d it acc env)) s₆) E s₅) E s₄)
            else Q (.again (.compLoop (.ListComp elt gens scope pos) d it acc env)) s₄) E s₃) E s₂) E s₁) E s) :
    wpAny (model prog w) A (compTurn (.ListComp elt gens scope pos) d it acc env) Q E s:=by
  unfold compTurn
  dsimp only
  simp only [h]
  refine wpAny_bind (wpAny_standAt ?_)
  rw [if_neg (by decide)]
  refine wpAny_bind (wpAny_mono hq (fun r s₁ h₁=>?_) fun ψ ψ x=>x)
  cases r with
  | none=>exact wpAny_pure h₁
  | some v=>
    refine wpAny_bind (wpAny_mono h₁ (fun ψ s₂ h₂=>wpAny_bind (wpAny_mono h₂ (fun ψ s₃ h₃=>wpAny_bind (wpAny_mono h₃ (fun ok s₄ h₄=>?_) fun ψ ψ x=>x)) fun ψ ψ x=>x)) fun ψ ψ x=>x)
    cases ok with
    | false=>
      simp only [Bool.false_eq_true,if_false] at h₄ ⊢
      exact wpAny_pure h₄
    | true=>
      simp only [if_true] at h₄ ⊢
      cases hg:gens[d + 1]? with
      | none=>
        rw [hg] at h₄
        exact wpAny_bind (wpAny_bind (wpAny_mono h₄ (fun y s₅ h₅=>wpAny_bind (wpAny_mono h₅ (fun ψ s₆ h₆=>wpAny_pure (wpAny_pure h₆)) fun ψ ψ x=>x)) fun ψ ψ x=>x))
      | some g'=>
        rw [hg] at h₄
        obtain ⟨ha,hf⟩:=hnext g' hg
        refine wpAny_bind (wpAny_mono h₄ (fun x s₅ h₅=>wpAny_bind (wpAny_standAt ?_)) fun ψ ψ x=>x)
        rw [ha,if_neg (by decide)]
        refine wpAny_bind (wpAny_of_eq (hf x) ?_)
        rw [if_neg (by decide)]
        exact wpAny_bind (wpAny_holding (wpAny_mono h₅ (fun it' s₆ h₆=>wpAny_bind (wpAny_runOwn (codeAny_mono h₆ fun r s' hr=>by
          cases r with
          | ok f=>exact wpAny_pure hr
          | error e=>exact hr))) fun ψ ψ x=>x))
theorem code_compStart {elt t iter:PySem.Expr} {gens:List Comprehension} {scope:Scope} {pos:Pos} {d:Nat} {it acc:Value} {env:Env} {ifs:List PySem.Expr} {R:Result→Shared→Prop} (h:gens[d]? = some ⟨t,iter,ifs,0⟩)
    (h0:codeAny (model prog w) A (.compLoop (.ListComp elt gens scope pos) d it acc env) R s)
    (h1:wpAny (model prog w) A (pyIter it) (fun it' s'=>codeAny (model prog w) A (.compLoop (.ListComp elt gens scope pos) d it' acc env) R s') (notedBy (model prog w) A env fun x s'=>R (.error x) s') s) :
    codeAny (model prog w) A (.compStart (.ListComp elt gens scope pos) d it acc env) R s:=by
  refine codeAny_of_tree ?_
  show wpAny _ _ ((compStart (.ListComp elt gens scope pos) d it acc env).onRaise (fun x=>do noteFrame x env; standAt theWindowsPlace)) _ _ s
  refine wpAny_notedAt ?_
  unfold compStart clausesOf
  simp only [h]
  show wpAny _ _ (ask >>= _) _ _ s
  refine wpAny_bind (wpAny_askSetting (wpAny_ite ?_))
  split
  · exact wpAny_bind (wpAny_pure (wpAny_pure (And.intro rfl h0)))
  · exact wpAny_bind (wpAny_rule (wpAny_bind (wpAny_standAt (wpAny_bind (wpAny_mono h1 (fun it' s' h'=>wpAny_pure (And.intro rfl h')) fun ψ ψ x=>x)))))
theorem code_compLoop {elt:PySem.Expr} {gens:List Comprehension} {scope:Scope} {pos:Pos} {d:Nat} {it acc:Value} {env:Env} {R:Result→Shared→Prop}
    (h:wpAny (model prog w) A (compTurn (.ListComp elt gens scope pos) d it acc env) (fun fin s'=>match fin with | .done f=>R (.ok f) s' | .again c'=>c'.quiet = true∧codeAny (model prog w) A c' R s') (notedBy (model prog w) A env fun e s'=>R (.error e) s') s) :
    codeAny (model prog w) A (.compLoop (.ListComp elt gens scope pos) d it acc env) R s:=by
  refine codeAny_of_tree ?_
  show wpAny _ _ ((compTurn (.ListComp elt gens scope pos) d it acc env).onRaise (fun x=>do noteFrame x env; theTreesLotGoes x)) _ _ s
  exact wpAny_noted h
end
section
variable {W:Wo} {env:Env} {base base':Shared} {out out' hot hot':Addr→Prop} {oa:Str→Addr} {σ σ':Store} {s s':Shared}
noncomputable abbrev hid (l:List Addr) (s:Shared):Shared:={ s with heap:=hideAll s.heap l }
theorem Fm.rebaseX (F:Fm W env base out hot oa σ s) {l:List Addr} (hl:∀ b∈mutL env σ oa,b∈l) (hh:∀ b∈l,hot b∧base.heap.get? b = none):Fm W env (hid l s) (fun a=>hot a∧a ∉ l) hot oa σ s:=
  { F with
    wbase:=fun b o e=>hideAll_get _ (F.grow.sub b o (F.wbase b o e)) fun q=>by have:=(hh b q).2; rw [F.wbase b o e] at this; cases this
    grow:=⟨fun b o e=>of_hideAll _ e,rfl,fun e=>e⟩
    nsNew:=hideAll_none _ (hl _ (mQ.mpr (.inl rfl)))
    cl:=fun p hp hk=>by
      obtain ⟨c,v,h1,h2,h3,h4,h5⟩:=F.cl p hp hk
      exact ⟨c,v,h1,h2,hideAll_none _ (hl _ (mQ.mpr (.inr (.inl ⟨p,hp,hk,h1⟩)))),h4,h5⟩
    vars:=fun p hp=>by
      have old:=F.vars p hp
      cases h:p.2 with
      | unset=>trivial
      | val d=>rw [h] at old; exact old
      | own l'=>rw [h] at old; obtain ⟨items,a,b,c,d,e,f⟩:=old; exact ⟨items,a,b,c,d,hideAll_none _ (hl _ (mQ.mpr (.inr (.inr ⟨p,hp,by rw [h]; rfl,rfl⟩)))),f⟩
      | app y=>rw [h] at old; exact old
    outhot:=fun a ha=>ha.1
    outlive:=fun a ha=>let ⟨o,e⟩:=F.alive a ha.1; ⟨o,hideAll_get _ e ha.2⟩
    hotnew:=fun a ha=>by
      by_cases q:a∈l
      · exact .inr (hideAll_none _ q)
      · exact .inl ⟨ha,q⟩ }
theorem grow_hid (F:Fm W env base out hot oa σ s) {l:List Addr} (hh:∀ b∈l,hot b∧base.heap.get? b = none):Grow base (hid l s) where
  sub:=fun b o e=>hideAll_get _ (F.grow.sub b o e) fun hb=>by rw [(hh b hb).2] at e; cases e
  os:=F.grow.os
  gens:=F.grow.gens
theorem out_hid (F:Fm W env base out hot oa σ s) {l:List Addr} (hh:∀ b∈l,hot b∧base.heap.get? b = none):∀ a,out a→hot a∧a ∉ l:=fun a ha=>⟨F.outhot a ha,fun q=>by
  obtain ⟨o,e⟩:=F.outlive a ha
  rw [(hh a q).2] at e; cases e⟩
theorem Fm.cool (F:Fm W env base out hot' oa σ s) (h:∀ a,hot a→hot' a) (ho:∀ a,out a→hot a) (hm:∀ b∈mutL env σ oa,hot b):Fm W env base out hot oa σ s:=
  { F with
    cl:=fun p hp hk=>by
      obtain ⟨c,v,h1,h2,h3,h4,h5⟩:=F.cl p hp hk
      exact ⟨c,v,h1,h2,h3,h4,hm c (mQ.mpr (.inr (.inl ⟨p,hp,hk,h1⟩)))⟩
    vars:=fun p hp=>by
      have old:=F.vars p hp
      cases q:p.2 with
      | unset=>trivial
      | val d=>rw [q] at old; obtain ⟨v,a,b⟩:=old; exact ⟨v,a,b.less h⟩
      | own l=>
        rw [q] at old; obtain ⟨items,a,b,c,d,e⟩:=old
        exact ⟨items,a,b,Rds.mono (fun b o nb e=>⟨e,fun q=>nb (h b q)⟩) _ _ c,hm _ (mQ.mpr (.inr (.inr ⟨p,hp,by rw [q]; rfl,rfl⟩))),e⟩
      | app y=>rw [q] at old; obtain ⟨b,a,c,nb⟩:=old; exact ⟨b,a,c,fun q=>nb (h b q)⟩
    alive:=fun a ha=>F.alive a (h a ha)
    outhot:=ho
    hotnew:=fun a ha=>F.hotnew a (h a ha)
    nshot:=hm _ (mQ.mpr (.inl rfl)) }
inductive Wk:Store→Store→Prop
  | nil:Wk [] []
  | same {p σ τ}:Wk σ τ→Wk (p :: σ) (p :: τ)
  | drop {x t σ τ}:Wk σ τ→Wk ((x,t) :: σ) ((x,.unset) :: τ)
theorem Wk.names {σ τ:Store} (h:Wk σ τ):τ.map (·.1) = σ.map (·.1):=by
  induction h with
  | nil=>rfl
  | same _ ih=>simp [ih]
  | drop _ ih=>simp [ih]
theorem Wk.mem {σ τ:Store} (h:Wk σ τ):∀ p∈τ,p∈σ∨(p.2 = .unset∧∃ q∈σ,q.1 = p.1):=by
  induction h with
  | nil=>intro p hp; cases hp
  | same _ ih=>
    intro p hp
    rcases List.mem_cons.mp hp with e | hp
    · exact .inl (e ▸ List.mem_cons_self)
    · rcases ih p hp with h | ⟨h,q,hq,e⟩
      · exact .inl (List.mem_cons_of_mem _ h)
      · exact .inr ⟨h,q,List.mem_cons_of_mem _ hq,e⟩
  | drop _ ih=>
    intro p hp
    rcases List.mem_cons.mp hp with e | hp
    · subst e; exact .inr ⟨rfl,_,List.mem_cons_self,rfl⟩
    · rcases ih p hp with h | ⟨h,q,hq,e⟩
      · exact .inl (List.mem_cons_of_mem _ h)
      · exact .inr ⟨h,q,List.mem_cons_of_mem _ hq,e⟩
theorem Wk.back {σ τ:Store} (h:Wk σ τ):∀ p∈τ,∃ q∈σ,q.1 = p.1:=fun p hp=>by
  rcases h.mem p hp with h | ⟨_,h⟩
  · exact ⟨p,h,rfl⟩
  · exact h
theorem Wk.own {σ τ:Store} (h:Wk σ τ):∀ p∈τ,p.2.isOwn = true→p∈σ:=fun p hp ho=>by
  rcases h.mem p hp with h | ⟨e,_⟩
  · exact h
  · rw [e] at ho; cases ho
theorem Fm.forget (F:Fm W env base out hot oa σ s) (h:Wk σ σ'):Fm W env base out hot oa σ' s:=
  { F with
    nodup:=by rw [h.names]; exact F.nodup
    isv:=fun p hp=>by obtain ⟨q,hq,e⟩:=h.back p hp; exact e ▸ F.isv q hq
    lc:=fun p hp=>by obtain ⟨q,hq,e⟩:=h.back p hp; exact e ▸ F.lc q hq
    cl:=fun p hp=>by obtain ⟨q,hq,e⟩:=h.back p hp; exact e ▸ F.cl q hq
    apart:=fun p hp q hq=>by
      obtain ⟨p',a,e⟩:=h.back p hp
      obtain ⟨q',b,e'⟩:=h.back q hq
      rw [← e,← e']; exact F.apart p' a q' b
    ownCell:=fun p hp q hq hk ho=>by
      obtain ⟨p',a,e⟩:=h.back p hp
      rw [← e] at hk ⊢
      exact F.ownCell p' a q (h.own q hq ho) hk ho
    vars:=fun p hp=>by
      rcases h.mem p hp with q | ⟨e,_⟩
      · exact F.vars p q
      · rw [e]; trivial
    inj:=fun p hp q hq h1 h2=>F.inj p (h.own p hp h1) q (h.own q hq h2) h1 h2 }
theorem Wk.mutL {σ τ:Store} (h:Wk σ τ) (b:Addr) (hb:b∈mutL env τ oa):b∈Mine.Internal.mutL env σ oa:=by
  rcases mQ.mp hb with e | ⟨p,hp,h1,h2⟩ | ⟨p,hp,h1,h2⟩
  · exact mQ.mpr (.inl e)
  · obtain ⟨q,hq,e⟩:=h.back p hp
    exact mQ.mpr (.inr (.inl ⟨q,hq,by rw [e]; exact h1,by rw [e]; exact h2⟩))
  · exact mQ.mpr (.inr (.inr ⟨p,h.own p hp h1,h1,h2⟩))
end
noncomputable def InS (τ:Store) (scope:Scope) (σ:Store):Store:=τ ++ σ.filter fun p=>scope.names.lookup p.1 == some .free
theorem InS.own {τ σ:Store} {scope:Scope} {p:Str × Slot} (h:p∈τ):p∈InS τ scope σ:=List.mem_append_left _ h
theorem InS.out {τ σ:Store} {scope:Scope} {p:Str × Slot} (h:p∈σ) (hf:(scope.names.lookup p.1 == some .free) = true):p∈InS τ scope σ:=List.mem_append_right _ (List.mem_filter.mpr ⟨h,hf⟩)
section
variable {W:Wo} {n:Nat} {sc:Scope}
structure Tests (W:Wo) (n:Nat) (sc:Scope) (σ:Store) (ifs:List PySem.Expr) (b:Bool):Prop where
  run:∀ env,env.scope = sc→∀ A,Room A n→∀ s hot (Q:Bool→Shared→Prop) E,Good W env σ hot s→(∀ s',Grow s s'→Q b s') →
    wpAny (model W.prog W.w) A (forIn ifs true fun c r=>if r = true then do let ok ← isTrue c env (eval c env); pure (ForInStep.yield ok) else pure (ForInStep.yield r)) Q E s
theorem Tests.nil {σ:Store}:Tests W n sc σ [] true:=⟨fun env he A hA s hot Q E g k=>wpAny_tests_nil (k s (.refl s))⟩
theorem Tests.one {σ:Store} {c:PySem.Expr} {b:Bool} (h:EvT W n sc σ c b):Tests W n sc σ [c] b:=⟨fun env he A hA s hot Q E g k=>wpAny_tests_one (h.run env he A hA s hot Q E g k)⟩
inductive EmitL (W:Wo) (n:Nat) (sc scope:Scope) (σ:Store) (t:PySem.Expr) (ifs:List PySem.Expr) (G:Store→List V→Prop):List V→Store→List V→Prop
  | nil {τ:Store}:EmitL W n sc scope σ t ifs G [] τ []
  | yes {x:V} {xs:List V} {τ τ':Store} {o o':List V}:Binds W sc t x τ τ'→Wk τ' τ→Tests W n sc (InS τ' scope σ) ifs true→G τ' o→EmitL W n sc scope σ t ifs G xs τ o'→EmitL W n sc scope σ t ifs G (x :: xs) τ (o ++ o')
  | no {x:V} {xs:List V} {τ τ':Store} {o':List V}:Binds W sc t x τ τ'→Wk τ' τ→Tests W n sc (InS τ' scope σ) ifs false→EmitL W n sc scope σ t ifs G xs τ o'→EmitL W n sc scope σ t ifs G (x :: xs) τ o'
noncomputable def EvF:Bool→Wo→Nat→Scope→Store→PySem.Expr→V→Prop
  | false,W,n,sc,σ,e,d=>Ev W n sc σ e d
  | true,W,n,sc,σ,e,d=>∃ l,d = .list l∧EvNew W n sc σ e l
theorem EvF.run {fr:Bool} {σ:Store} {e:PySem.Expr} {d:V} (h:EvF fr W n sc σ e d):∀ env,env.scope = sc→∀ A,Room A n→∀ s hot (Q:Value→Shared→Prop) E,Good W env σ hot s →
    (∀ v s',Grow s s'→Rd s'.heap hot d v→(fr = true→∃ a l,v = .ref a∧s.heap.get? a = none∧d = .list l)→Q v s')→wpAny (model W.prog W.w) A (eval e env) Q E s:=by
  intro env he A hA s hot Q E g k
  cases fr with
  | false=>exact Ev.run h env he A hA s hot Q E g fun v s' g' r=>k v s' g' r fun q=>by cases q
  | true=>
    obtain ⟨l,rfl,h⟩:=h
    refine h.run env he A hA s hot Q E g fun a s' items g' e' pl r nh=>k _ s' g' ?_ fun ψ=>⟨a,l,rfl,e',rfl⟩
    unfold Rd
    exact ⟨a,items,rfl,nh,pl,Rds.mono (fun b o nb e=>⟨e,fun q=>nb (.inl q)⟩) _ _ r⟩
noncomputable def EmitF (fr:Bool) (W:Wo) (n:Nat) (sc scope:Scope) (σ:Store) (elt:PySem.Expr):List Comprehension→Store→List V→Prop
  | [],τ,o=>∃ d,o = [d]∧EvF fr W n sc (InS τ scope σ) elt d
  | g :: gs,τ,o=>∃ a xs,Ev W n sc (InS τ scope σ) g.iter a∧JQ W a xs∧EmitL W n sc scope σ g.target g.ifs (EmitF fr W n sc scope σ elt gs) xs τ o
noncomputable abbrev Emit (W:Wo) (n:Nat) (sc scope:Scope) (σ:Store) (elt:PySem.Expr):List Comprehension→Store→List V→Prop:=EmitF false W n sc scope σ elt
noncomputable def JOk (fr:Bool) (W:Wo) (acc:List V) (items:List Value):Prop:=fr = true→(∀ d∈acc,∃ l,d = .list l)∧(∀ v∈items,∃ a,v = .ref a∧W.B.get? a = none)∧items.Nodup
theorem JOk.nil {fr:Bool} {W:Wo}:JOk fr W [] []:=fun ψ=>⟨by simp,by simp,List.nodup_nil⟩
theorem rds_alive {h:Heap} {hot:Addr→Prop}:∀ {acc:List V} {items:List Value},Rds h hot acc items→(∀ d∈acc,∃ l,d = .list l)→∀ v∈items,∃ a o,v = .ref a∧h.get? a = some o
  | [],items,r,_,v,hv=>by unfold Rds at r; subst r; cases hv
  | d :: acc,items,r,hd,v,hv=>by
    unfold Rds at r; obtain ⟨w,r',rfl,h1,h2⟩:=r
    rcases List.mem_cons.mp hv with q | q
    · subst q
      obtain ⟨l,rfl⟩:=hd d (List.mem_cons_self ..)
      obtain ⟨a,its,e,_,⟨m,e2⟩,_⟩:=rd_list h1
      exact ⟨a,_,e,e2⟩
    · exact rds_alive h2 (fun d hd'=>hd d (List.mem_cons_of_mem _ hd')) v q
theorem JOk.push {fr:Bool} {W:Wo} {h:Heap} {hot:Addr→Prop} {acc:List V} {items:List Value} {d:V} {v:Value} (j:JOk fr W acc items) (r:Rds h hot acc items) (hB:Sub W.B h) (hv:fr = true→∃ a l,v = .ref a∧h.get? a = none∧d = .list l):JOk fr W (acc ++ [d]) (items ++ [v]):=fun q=>by
  obtain ⟨j1,j2,j3⟩:=j q
  obtain ⟨a,l,rfl,e,rfl⟩:=hv q
  refine ⟨fun d hd=>?_,fun v hv=>?_,?_⟩
  · rcases List.mem_append.mp hd with h | h
    · exact j1 d h
    · rw [List.mem_singleton.mp h]; exact ⟨l,rfl⟩
  · rcases List.mem_append.mp hv with h | h
    · exact j2 v h
    · rw [List.mem_singleton.mp h]; exact ⟨a,rfl,nQ hB e⟩
  · refine List.nodup_append.mpr ⟨j3,by simp,fun x hx y hy=>?_⟩
    rw [List.mem_singleton.mp hy]
    rintro rfl
    obtain ⟨a',o,e1,e2⟩:=rds_alive r j1 _ hx
    cases e1
    rw [e] at e2; cases e2
noncomputable def OuterOk (cenv:Env) (base:Shared) (out:Addr→Prop) (scope:Scope) (σ:Store):Prop:=∀ p∈σ,(scope.names.lookup p.1 == some .free) = true→isVar cenv.scope p.1 = true→SlotOk cenv base.heap out p.1 p.2
theorem OuterOk.lift {cenv:Env} {base base':Shared} {out out':Addr→Prop} {scope:Scope} {σ:Store} (h:OuterOk cenv base out scope σ) (k:∀ b o,¬ out b→base.heap.get? b = some o→¬ out' b) (g:Sub base.heap base'.heap):OuterOk cenv base' out' scope σ:=fun p hp hf hv=>by
  have old:=h p hp hf hv
  have up:∀ b o,¬ out b→base.heap.get? b = some o→base'.heap.get? b = some o∧¬ out' b:=fun b o nb e=>⟨g b o e,k b o nb e⟩
  cases q:p.2 with
  | unset=>trivial
  | val d=>rw [q] at old; obtain ⟨v,a,b⟩:=old; exact ⟨v,a.sub g,Rd.mono up _ _ b⟩
  | own l=>rw [q] at old; obtain ⟨a,items,x,⟨m,y⟩,z⟩:=old; exact ⟨a,items,x.sub g,⟨m,g _ _ y⟩,Rds.mono up _ _ z⟩
  | app l=>trivial
theorem Fm.goodIn {cenv:Env} {base s:Shared} {out hot:Addr→Prop} {oa:Str→Addr} {τ σ:Store} {scope:Scope} (F:Fm W cenv base out hot oa τ s) (h:OuterOk cenv base out scope σ):Good W cenv (InS τ scope σ) hot s:=
  { F.good with
    vars:=fun p hp hv=>by
      rcases List.mem_append.mp hp with q | q
      · exact F.good.vars p q hv
      · obtain ⟨q1,q2⟩:=List.mem_filter.mp q
        exact h.lift (base':=s) (out':=hot) (fun b o nb e q=>by
          rcases F.hotnew b q with q | q
          · exact nb q
          · rw [q] at e; cases e) F.grow.sub p q1 q2 hv }
structure Acc (fr:Bool) (W:Wo) (cenv:Env) (base:Shared) (hot:Addr→Prop) (oa:Str→Addr) (τ:Store) (D:Addr) (ds:List V) (s:Shared):Prop where
  list:∃ items,s.heap.PlainList D items∧Rds s.heap hot ds items.toList∧JOk fr W ds items.toList
  hot:hot D
  fresh:base.heap.get? D = none
  free:D ∉ mutL cenv τ oa
noncomputable def PlainG (env:Env) (g:Comprehension):Prop:=g.is_async = 0∧∀ x,foldedSetIterable g.iter env x = pure x
variable {σ:Store}
section
variable {fr:Bool} {elt:PySem.Expr} {gens:List Comprehension} {scope:Scope} {pos:Pos} {sc':Scope} {cenv:Env} {A:Around} {D:Addr} {oa:Str→Addr}
noncomputable def BodyOk (fr:Bool) (W:Wo) (n:Nat) (elt:PySem.Expr) (gens:List Comprehension) (scope:Scope) (pos:Pos) (sc':Scope) (cenv:Env) (A:Around) (D:Addr) (oa:Str→Addr) (σ:Store) (gs:List Comprehension) (d:Nat):Prop:=
  ∀ (τ:Store) (o acc:List V),EmitF fr W n sc' scope σ elt gs τ o→acc.length + o.length≤1000000→∀ (base:Shared) (out hot:Addr→Prop) (s:Shared) (Q:Shared→Prop) (E:Value→Shared→Prop),
    Fm W cenv base out hot oa τ s→OuterOk cenv base out scope σ→Acc fr W cenv base hot oa τ D acc s→(∀ s',Fm W cenv base out hot oa τ s'→Acc fr W cenv base hot oa τ D (acc ++ o) s'→Q s') →
    (match gens[d + 1]? with
      | some g'=>wpAny (model W.prog W.w) A (eval g'.iter cenv) (fun x s₅=>wpAny (model W.prog W.w) A (pyIter x) (fun it' s₆=>
          codeAny (model W.prog W.w) A (.compStart (.ListComp elt gens scope pos) (d + 1) it' (.ref D) cenv) (fun r s'=>match r with | .ok _=>Q s' | .error e=>cameBackBy (model W.prog W.w) A cenv E e s') s₆) E s₅) E s
      | none=>wpAny (model W.prog W.w) A (eval elt cenv) (fun y s₅=>wpAny (model W.prog W.w) A (call (.builtin "list.append") [.ref D,y]) (fun ψ s₆=>Q s₆) E s₅) E s)
theorem Acc.grown {base s s':Shared} {hot:Addr→Prop} {τ:Store} {acc:List V} (a:Acc fr W cenv base hot oa τ D acc s) (g:Grow s s'):Acc fr W cenv base hot oa τ D acc s':=
  { a with list:=let ⟨items,⟨m,h⟩,r,j⟩:=a.list; ⟨items,⟨m,g.sub _ _ h⟩,r.sub g.sub,j⟩ }
theorem body_nil {d:Nat} (hsc:cenv.scope = sc') (hA:Room A n) (hd:gens[d + 1]? = none):BodyOk fr W n elt gens scope pos sc' cenv A D oa σ [] d:=by
  intro τ o acc hE hz base out hot s Q E F ho ha k
  rw [hd]
  obtain ⟨d0,rfl,hEv⟩:=hE
  refine hEv.run cenv hsc A hA s hot _ E (F.goodIn ho) fun v s₅ g r hfr=>?_
  have ha':=ha.grown g
  obtain ⟨items,hl,hr,hj⟩:=ha.list
  have hj':=hj.push hr F.good.base hfr
  have hl:s₅.heap.PlainList D items:=let ⟨m,e⟩:=hl; ⟨m,g.sub _ _ e⟩
  have hr:=hr.sub g.sub
  have hz':items.size≤sizeLine:=by have:=hr.length; rw [Array.length_toList] at this; rw [this,sizeLine_eq]; simp at hz; exact o8 hz
  refine wpAny_list_append_plain hl (fun h' hpl hs'=>k _ ((F.grown g).touch (tk:=s₅.toks) (wr:=[D]) (fun b o hb e=>(hs'.2 b (fun q=>hb (List.mem_singleton.mpr q))).trans e) fun b hb=>?_) { ha' with list:=⟨_,hpl,?_,by rw [Array.toList_push]; exact hj'⟩ }) hz'
  · rw [List.mem_singleton.mp hb]
    obtain ⟨m,e⟩:=hpl
    exact ⟨ha.fresh,ha.hot,ha.free,_,e⟩
  · rw [Array.toList_push]
    exact (hr.same ha.hot hs').app (.cons (r.same ha.hot hs') .nil)
theorem loop_of_body (hsc:cenv.scope = sc') (hA:Room A n) (hg:∀ g∈gens,PlainG cenv g) {gs:List Comprehension} {d:Nat} (hB:BodyOk fr W n elt gens scope pos sc' cenv A D oa σ gs d) {t iter:PySem.Expr} {ifs:List PySem.Expr} (hd:gens[d]? = some ⟨t,iter,ifs,0⟩)
    {base:Shared} {out hot:Addr→Prop} {hot₀:Addr→Prop} {A':Around} {sI sJ:Shared} {xs₀:List V} {I:Addr} {fp:List Addr} {P:Nat→Value→Prop} {St:Nat→Heap→Prop} (hW:ItrW W A hot₀ sI sJ I fp P St xs₀) (ho:OuterOk cenv base out scope σ) (hI:hot I) (bI:base.heap.get? I = none) (DI:D ∉ fp)
    {R:Result→Shared→Prop} :
    ∀ (xs:List V) (i:Nat) (τ:Store) (o acc:List V),i≤xs₀.length→xs = xs₀.drop i→EmitL W n sc' scope σ t ifs (EmitF fr W n sc' scope σ elt gs) xs τ o→acc.length + o.length≤1000000 →
    ∀ (s:Shared),Fm W cenv base out hot oa τ s→Acc fr W cenv base hot oa τ D acc s→St i s.heap→(∀ b∈fp,b ∉ mutL cenv τ oa)→(∀ j v x,i≤j→P j v→xs₀[j]? = some x→Rd s.heap hot x v) →
    (∀ s' h' tk,Fm W cenv base out hot oa τ s'→Acc fr W cenv base hot oa τ D (acc ++ o) s'→(∀ b∈fp,b ∉ mutL cenv τ oa)→(∀ b o,b ∉ [I]→s'.heap.get? b = some o→h'.get? b = some o)→R (.ok .next) { s' with heap:=h',toks:=tk }) →
    codeAny (model W.prog W.w) A (.compLoop (.ListComp elt gens scope pos) d (.ref I) (.ref D) cenv) R s:=by
  intro xs
  induction xs with
  | nil=>
    intro i τ o acc hi hx hE hz s F ha st mfp item k
    have hi':i = xs₀.length:=by
      have:=congrArg List.length hx
      rw [List.length_drop] at this
      simp at this; exact o9 hi this
    cases hE
    refine code_compLoop (wp_compTurn hd (fun g' hg'=>hg g' (List.mem_of_getElem? hg')) (hW.wk.done s _ _ (hi' ▸ st) fun h' tk hk=>?_))
    have:=k s h' tk F (by simpa using ha) mfp hk
    exact this
  | cons x xs ih=>
    intro i τ o acc hi hx hE hz s F ha st mfp item k
    have hlt:i < xs₀.length:=by
      have:=congrArg List.length hx
      rw [List.length_drop] at this
      simp at this; exact o10 this
    have hd2:xs₀.drop i = xs₀[i] :: xs₀.drop (i + 1):=List.drop_eq_getElem_cons hlt
    rw [hd2] at hx
    obtain ⟨ex,exs⟩:=List.cons.inj hx
    have hxi:xs₀[i]? = some x:=by rw [ex]; simp [hlt]
    refine code_compLoop (wp_compTurn hd (fun g' hg'=>hg g' (List.mem_of_getElem? hg')) (hW.wk.item i s _ _ hlt st fun v h' tk hv st' hk=>?_))
    obtain ⟨oI,T,hoI,hc,hq⟩:=(hW.live _ _ st').2
    have I0:I∈fp:=hW.wk.sub I (List.mem_singleton.mpr rfl)
    have DnI:D≠I:=fun q=>DI (q ▸ I0)
    have F₂:Fm W cenv base out hot oa τ { s with heap:=h',toks:=tk }:=F.touch hk fun b hb=>by
      rw [List.mem_singleton.mp hb]; exact ⟨bI,hI,mfp I I0,oI,hoI⟩
    have up:∀ b o,¬ hot b→s.heap.get? b = some o→h'.get? b = some o∧¬ hot b:=fun b o nb e=>⟨hk b o (fun q=>nb (by rw [List.mem_singleton.mp q]; exact hI)) e,nb⟩
    have item':∀ j v x,i≤j→P j v→xs₀[j]? = some x→Rd h' hot x v:=fun j v x hj hv hx=>Rd.mono up _ _ (item j v x hj hv hx)
    have ha₂:Acc fr W cenv base hot oa τ D acc { s with heap:=h',toks:=tk }:={ ha with
      list:=by
        obtain ⟨items,⟨m,e⟩,r,j⟩:=ha.list
        exact ⟨items,⟨m,hk _ _ (fun q=>DnI (List.mem_singleton.mp q)) e⟩,Rds.mono up _ _ r,j⟩ }
    refine letOwned_quiet hoI hc hq ?_
    -- the target,over a base that keeps the list and the iterator
    have next:∀ {τ':Store} {Q:Unit→Shared→Prop} {E:Value→Shared→Prop},Binds W sc' t x τ τ'→Wk τ' τ →
        (∀ s₃,Fm W cenv base out hot oa τ' s₃→Acc fr W cenv base hot oa τ' D acc s₃→(∀ b∈fp,b ∉ mutL cenv τ' oa)→(∀ b∈fp,∀ o,h'.get? b = some o→s₃.heap.get? b = some o)→(∀ j v x,i≤j→P j v→xs₀[j]? = some x→Rd s₃.heap hot x v)→Q () s₃) →
        wpAny (model W.prog W.w) A (assign t cenv v) Q E { s with heap:=h',toks:=tk }:=by
      intro τ' Q E hb hw kk
      refine hb.run cenv hsc A (hA.less (Nat.zero_le _)) _ _ hot oa _ v Q E F₂.rebase (item' i v x (Nat.le_refl _) hv hxi) fun s₃ F₃=>?_
      have keep:∀ b o,b ∉ mutL cenv τ oa→h'.get? b = some o→s₃.heap.get? b = some o:=fun b o nb e=>F₃.grow.sub b o (hideAll_get _ e nb)
      have up3:∀ b o,¬ hot b→h'.get? b = some o→s₃.heap.get? b = some o∧¬ hot b:=fun b o nb e=>⟨keep b o (fun q=>nb (F₂.mutNew b q).2) e,nb⟩
      have free':∀ b o,b ∉ mutL cenv τ oa→h'.get? b = some o→b ∉ mutL cenv τ' oa:=fun b o nb e q=>by
        have:=(F₃.mutNew b q).1
        rw [show (hidden cenv τ oa { s with heap:=h',toks:=tk }).heap.get? b = some o from hideAll_get _ e nb] at this; cases this
      refine kk s₃ (F₃.debase F₂.grow_hidden F₂.wbase F₂.outMut (fun a ha=>F₂.hotnew a ha.1) F₂.outlive) { hot:=ha.hot,fresh:=ha.fresh,free:=?_,list:=?_ } (fun b hb'=>?_) (fun b hb' o e=>keep b o (mfp b hb') e) fun j v x hj hv hx=>Rd.mono up3 _ _ (item' j v x hj hv hx)
      · obtain ⟨items,⟨m,e⟩,r,j⟩:=ha₂.list
        exact ⟨items,⟨m,keep _ _ ha.free e⟩,Rds.mono up3 _ _ r,j⟩
      · obtain ⟨items,⟨m,e⟩,r,j⟩:=ha₂.list
        exact free' D _ ha.free e
      · obtain ⟨o,e⟩:=(hW.live _ _ st').1 b hb'
        exact free' b o (mfp b hb') e
    cases hE with
    | @no _ _ _ τ' _ hb hw ht hL=>
      refine next hb hw fun s₃ F₃ ha₃ mfp₃ keep₃ item₃=>ht.run cenv hsc A hA s₃ hot _ _ (F₃.goodIn ho) fun s₄ g₄=>?_
      simp only [Bool.false_eq_true,if_false]
      refine ⟨rfl,ih (i + 1) τ o acc hlt exs hL hz s₄ ((F₃.grown g₄).forget hw) { (ha₃.grown g₄) with free:=fun q=>ha₃.free (hw.mutL D q) } (hW.wk.frame _ _ _ st' fun b hb' o e=>g₄.sub b o (keep₃ b hb' o e)) mfp (fun j v x hj hv hx=>(item₃ j v x (by exact o4 hj) hv hx).sub g₄.sub) k⟩
    | @yes _ _ _ τ' o1 o2 hb hw ht hG hL=>
      refine next hb hw fun s₃ F₃ ha₃ mfp₃ keep₃ item₃=>ht.run cenv hsc A hA s₃ hot _ _ (F₃.goodIn ho) fun s₄ g₄=>?_
      simp only [if_true]
      have F₄:=F₃.grown g₄
      have ha₄:=ha₃.grown g₄
      have hl:∀ b∈D :: mutL cenv τ' oa,hot b∧base.heap.get? b = none:=fun b hb'=>by
        rcases List.mem_cons.mp hb' with q | q
        · rw [q]; exact ⟨ha.hot,ha.fresh⟩
        · exact ⟨(F₄.mutNew b q).2,(F₄.mutNew b q).1⟩
      have F₅:=F₄.rebaseX (l:=D :: mutL cenv τ' oa) (fun b q=>List.mem_cons_of_mem _ q) hl
      have kept:∀ b o,b ∉ D :: mutL cenv τ' oa→s₄.heap.get? b = some o→(hid (D :: mutL cenv τ' oa) s₄).heap.get? b = some o:=fun b o nb e=>hideAll_get _ e nb
      have fpn:∀ b∈fp,b ∉ D :: mutL cenv τ' oa:=fun b hb' q=>by
        rcases List.mem_cons.mp q with q | q
        · exact DI (q ▸ hb')
        · exact mfp₃ b hb' q
      have ho':OuterOk cenv (hid (D :: mutL cenv τ' oa) s₄) (fun a=>hot a∧a ∉ D :: mutL cenv τ' oa) scope σ:=ho.lift (fun b o nb e q=>by
        rcases F₄.hotnew b q.1 with z | z
        · exact nb z
        · rw [z] at e; cases e) (grow_hid F₄ hl).sub
      have hz1:acc.length + o1.length≤1000000:=by simp at hz; exact o11 hz
      refine hB τ' o1 acc hG hz1 _ _ hot s₄ _ _ F₅ ho' { hot:=ha.hot,fresh:=hideAll_none _ List.mem_cons_self,free:=ha₄.free,list:=ha₄.list } fun s₆ F₆ ha₆=>⟨rfl,?_⟩
      have F₇:Fm W cenv base out hot oa τ' s₆:=F₆.debase (grow_hid F₄ hl) F₄.wbase (out_hid F₄ hl) (fun a q=>F₄.hotnew a q.1) F₄.outlive
      have up6:∀ b o,¬ hot b→s₄.heap.get? b = some o→s₆.heap.get? b = some o∧¬ hot b:=fun b o nb e=>⟨F₆.grow.sub b o (kept b o (fun q=>nb (hl b q).1) e),nb⟩
      refine ih (i + 1) τ o2 (acc ++ o1) hlt exs hL (by simp at hz ⊢; exact o13 hz) s₆ (F₇.forget hw) { hot:=ha.hot,fresh:=ha.fresh,free:=ha.free,list:=ha₆.list } (hW.wk.frame _ _ _ st' fun b hb' o e=>F₆.grow.sub b o (kept b o (fpn b hb') (g₄.sub b o (keep₃ b hb' o e)))) mfp (fun j v x hj hv hx=>Rd.mono up6 _ _ ((item₃ j v x (by exact o4 hj) hv hx).sub g₄.sub)) ?_
      rw [List.append_assoc]
      exact k
theorem comp_loop (hsc:cenv.scope = sc') (hA:Room A n) (hg:∀ g∈gens,PlainG cenv g) {gs:List Comprehension} {d:Nat} (hB:BodyOk fr W n elt gens scope pos sc' cenv A D oa σ gs d) {t iter:PySem.Expr} {ifs:List PySem.Expr} (hd:gens[d]? = some ⟨t,iter,ifs,0⟩)
    {xs:List V} {τ:Store} {o acc:List V} (hE:EmitL W n sc' scope σ t ifs (EmitF fr W n sc' scope σ elt gs) xs τ o) (hz:acc.length + o.length≤1000000)
    {base:Shared} {out hot:Addr→Prop} {s₀ s:Shared} {it:Value} {R:Result→Shared→Prop} (F:Fm W cenv base out hot oa τ s₀) (ho:OuterOk cenv base out scope σ) (ha:Acc fr W cenv base hot oa τ D acc s₀) (g:Grow s₀ s) (hI:Itr W A hot s₀ s it xs)
    (k:∀ s',Fm W cenv base out hot oa τ s'→Acc fr W cenv base hot oa τ D (acc ++ o) s'→R (.ok .next) s') :
    codeAny (model W.prog W.w) A (.compLoop (.ListComp elt gens scope pos) d it (.ref D) cenv) R s:=by
  obtain ⟨I,fp,P,St,rfl,hW⟩:=hI
  have I0:I∈fp:=hW.wk.sub I (List.mem_singleton.mpr rfl)
  have aI:∃ o,s.heap.get? I = some o:=let ⟨o,_,e,_⟩:=(hW.live _ _ hW.st).2; ⟨o,e⟩
  have mfp:∀ b∈fp,b ∉ mutL cenv τ oa:=fun b hb q=>by
    by_cases e:b = I
    · obtain ⟨o,e'⟩:=F.alive b (F.mutNew b q).2
      rw [e,hW.fresh] at e'; cases e'
    · exact hW.apart b hb e (F.mutNew b q).2
  obtain ⟨items,⟨m,eD⟩,rD,jD⟩:=ha.list
  have DI:D ∉ fp:=fun q=>by
    by_cases e:D = I
    · rw [e,hW.fresh] at eD; cases eD
    · exact hW.apart D q e ha.hot
  have up:∀ b o,¬ hot b→s₀.heap.get? b = some o→s.heap.get? b = some o∧¬ (hot b∨b∈[I]):=fun b o nb e=>⟨g.sub b o e,fun q=>by
    rcases q with q | q
    · exact nb q
    · rw [List.mem_singleton.mp q,hW.fresh] at e; cases e⟩
  refine loop_of_body hsc hA hg hB hd (A':=A) hW ho (hot:=fun a=>hot a∨a∈[I]) (.inr (List.mem_singleton.mpr rfl)) (nQ F.grow.sub hW.fresh) DI xs 0 τ o acc (Nat.zero_le _) (by simp) hE hz s
    (F.hotter g (fun b hb=>by rw [List.mem_singleton.mp hb]; exact hW.fresh) (fun b hb=>by rw [List.mem_singleton.mp hb]; exact aI)) { hot:=.inl ha.hot,fresh:=ha.fresh,free:=ha.free,list:=⟨items,⟨m,g.sub _ _ eD⟩,Rds.mono up _ _ rD,jD⟩ } hW.st mfp (fun j v x ψ hv hx=>Rd.mono up _ _ (hW.item j v x hv hx)) fun s' h' tk F' ha' mfp' hk=>?_
  have bI:base.heap.get? I = none:=nQ F.grow.sub hW.fresh
  have F'':=F'.touchOff (tk:=tk) hk fun b hb=>by rw [List.mem_singleton.mp hb]; exact ⟨bI,.inr (List.mem_singleton.mpr rfl),mfp' I I0⟩
  have hotI:∀ a,hot a→(hot a∨a∈[I])∧a ∉ [I]:=fun a q=>⟨.inl q,fun z=>by
    obtain ⟨o,e⟩:=F.alive a q
    rw [List.mem_singleton.mp z,hW.fresh] at e; cases e⟩
  have up2:∀ b o,¬ (hot b∨b∈[I])→s'.heap.get? b = some o→h'.get? b = some o∧¬ hot b:=fun b o nb e=>⟨hk b o (fun q=>nb (.inr q)) e,fun q=>nb (.inl q)⟩
  refine k _ (F''.cool hotI F.outhot fun b hb=>(F.mutNew b hb).2) { hot:=ha.hot,fresh:=ha.fresh,free:=ha.free,list:=?_ }
  obtain ⟨items',⟨m',e'⟩,r',j'⟩:=ha'.list
  exact ⟨items',⟨m',hk _ _ (hotI D ha.hot).2 e'⟩,Rds.mono up2 _ _ r',j'⟩
theorem body_cons {d:Nat} {g:Comprehension} {gs:List Comprehension} (hsc:cenv.scope = sc') (hA:Room A n) (hg:∀ g∈gens,PlainG cenv g) (hd:gens[d + 1]? = some g) (hB:BodyOk fr W n elt gens scope pos sc' cenv A D oa σ gs (d + 1)):BodyOk fr W n elt gens scope pos sc' cenv A D oa σ (g :: gs) d:=by
  intro τ o acc hE hz base out hot s Q E F ho ha k
  rw [hd]
  obtain ⟨t,iter,ifs,isA⟩:=g
  have hp:=hg _ (List.mem_of_getElem? hd)
  obtain ⟨h0,hf⟩:=hp
  have h0':isA = 0:=h0
  subst h0'
  obtain ⟨a,xs,hEv,hI,hL⟩:=hE
  refine hEv.run cenv hsc A hA s hot _ E (F.goodIn ho) fun v s₅ g₅ r₅=>?_
  refine hI.run A (hA.less (Nat.zero_le _)) s₅ hot v _ E (F.grown g₅).good.base (F.grown g₅).alive r₅ fun it' s₆ g₆ hIt=>?_
  have run:codeAny (model W.prog W.w) A (.compLoop (.ListComp elt gens scope pos) (d + 1) it' (.ref D) cenv) (fun r s'=>match r with | .ok _=>Q s' | .error e=>cameBackBy (model W.prog W.w) A cenv E e s') s₆:=
    comp_loop hsc hA hg hB hd hL hz (F.grown g₅) ho (ha.grown g₅) g₆ hIt fun s' F' ha'=>k s' F' ha'
  refine code_compStart hd run ?_
  obtain ⟨I,fp,P,St,rfl,hW⟩:=hIt
  exact hW.wk.self 0 _ _ _ hW.st run
theorem body_all (hsc:cenv.scope = sc') (hA:Room A n) (hg:∀ g∈gens,PlainG cenv g):∀ (gs:List Comprehension) (d:Nat),gens.drop (d + 1) = gs→BodyOk fr W n elt gens scope pos sc' cenv A D oa σ gs d
  | [],d,h=>body_nil hsc hA (by rw [List.getElem?_eq_none_iff]; have:=congrArg List.length h; rw [List.length_drop] at this; simp at this; omega)
  | g :: gs,d,h=>by
    have h1:gens[d + 1]? = some g:=by
      have:(gens.drop (d + 1))[0]? = some g:=by rw [h]; rfl
      rw [List.getElem?_drop] at this; simpa using this
    have h2:gens.drop (d + 1 + 1) = gs:=by rw [← List.drop_drop,h]; rfl
    exact body_cons hsc hA hg h1 (body_all hsc hA hg gs (d + 1) h2)
end
end
noncomputable def isCell (k:NameKind):Bool:=k == .cell
noncomputable def cellIdx:List (Str × NameKind)→Str→Nat
  | [],_=>0
  | (y,k) :: r,x=>if x = y then 0 else (if k == .cell then 1 else 0) + cellIdx r x
theorem cf_other:∀ (names:List (Str × NameKind)) (m:Nat) (acc:List (Str × Addr)) (y:Str),(y,NameKind.cell) ∉ names→(cellsFrom m names acc).lookup y = acc.lookup y
  | [],_,_,_,_=>rfl
  | (x,k) :: r,m,acc,y,h=>by
    unfold cellsFrom
    have h':(y,NameKind.cell) ∉ r:=fun q=>h (List.mem_cons_of_mem _ q)
    by_cases hk:(k == NameKind.cell) = true
    · rw [if_pos hk,cf_other r _ _ y h',List.lookup_cons]
      have:(y == x) = false:=beq_eq_false_iff_ne.mpr fun e=>h (by rw [e,← (beq_iff_eq.mp hk)]; exact List.mem_cons_self)
      rw [this]
    · rw [if_neg hk]; exact cf_other r _ _ y h'
theorem cf_cell:∀ (names:List (Str × NameKind)) (m:Nat) (acc:List (Str × Addr)) (x:Str),(names.map (·.1)).Nodup→(x,NameKind.cell)∈names→(cellsFrom m names acc).lookup x = some (m + cellIdx names x):=by
  intro l0
  induction l0 with
  | nil=>intro m acc x nd h; cases h
  | cons p r ih=>
    intro m acc x nd h
    obtain ⟨y,k⟩:=p
    simp only [List.map_cons,List.nodup_cons] at nd
    unfold cellsFrom cellIdx
    rcases List.mem_cons.mp h with e | h
    · have e1:x = y:=(Prod.mk.inj e).1
      have e2:k = NameKind.cell:=((Prod.mk.inj e).2).symm
      subst e1; subst e2
      rw [if_pos rfl,if_pos (by rfl),cf_other r _ _ x (fun q=>nd.1 (List.mem_map_of_mem q)),List.lookup_cons]
      simp
    · have hne:x≠y:=fun e=>nd.1 (e ▸ List.mem_map_of_mem h)
      rw [if_neg hne]
      by_cases hk:(k == NameKind.cell) = true
      · rw [if_pos hk,if_pos hk,ih _ _ x nd.2 h]; congr 1; omega
      · rw [if_neg hk,if_neg hk,ih _ _ x nd.2 h]; congr 1; omega
theorem cellIdx_inj:∀ (names:List (Str × NameKind)) (x y:Str),(names.map (·.1)).Nodup→(x,NameKind.cell)∈names→(y,NameKind.cell)∈names→cellIdx names x = cellIdx names y→x = y:=by
  intro l0
  induction l0 with
  | nil=>intro x y nd hx hy h; cases hx
  | cons p r ih=>
    intro x y nd hx hy h
    obtain ⟨z,k⟩:=p
    have nd:z ∉ r.map (·.1)∧(r.map (·.1)).Nodup:=List.nodup_cons.mp nd
    unfold cellIdx at h
    by_cases ex:x = z
    · by_cases ey:y = z
      · rw [ex,ey]
      · exfalso
        rw [if_pos ex,if_neg ey] at h
        rcases List.mem_cons.mp hx with e | hx
        · cases e
          rw [if_pos (by rfl)] at h; omega
        · exact nd.1 (ex ▸ List.mem_map_of_mem (f:=(·.1)) hx)
    · by_cases ey:y = z
      · exfalso
        rw [if_neg ex,if_pos ey] at h
        rcases List.mem_cons.mp hy with e | hy
        · cases e
          rw [if_pos (by rfl)] at h; omega
        · exact nd.1 (ey ▸ List.mem_map_of_mem (f:=(·.1)) hy)
      · rw [if_neg ex,if_neg ey] at h
        have hx':(x,NameKind.cell)∈r:=by rcases List.mem_cons.mp hx with e | hx; cases e; exact absurd rfl ex; exact hx
        have hy':(y,NameKind.cell)∈r:=by rcases List.mem_cons.mp hy with e | hy; cases e; exact absurd rfl ey; exact hy
        exact ih x y nd.2 hx' hy' (by exact o7 h)
theorem cf_heap:∀ (names:List (Str × NameKind)) (h:Heap) (x:Str),(names.map (·.1)).Nodup→(x,NameKind.cell)∈names→(pushCells h names).IsCell (h.objs.size + cellIdx names x) none:=by
  intro l0
  induction l0 with
  | nil=>intro h x nd hx; cases hx
  | cons p r ih=>
    intro h x nd hx
    obtain ⟨y,k⟩:=p
    have nd:y ∉ r.map (·.1)∧(r.map (·.1)).Nodup:=List.nodup_cons.mp nd
    unfold pushCells cellIdx
    rcases List.mem_cons.mp hx with e | hx
    · cases e
      rw [if_pos rfl,if_pos (by rfl)]
      exact ⟨_,pushCells_keeps r _ _ _ (by simpa using Heap.get?_push_size h rfl),rfl⟩
    · have hne:x≠y:=fun e=>nd.1 (e ▸ List.mem_map_of_mem (f:=(·.1)) hx)
      rw [if_neg hne]
      by_cases hk:(k == NameKind.cell) = true
      · rw [if_pos hk,if_pos hk]
        have:=ih (h.push { cls:=.type "cell",data:=.cell none }) x nd.2 hx
        rw [Heap.size_push] at this
        rw [show h.objs.size + (1 + cellIdx r x) = h.objs.size + 1 + cellIdx r x by omega]
        exact this
      · rw [if_neg hk,if_neg hk]
        have:=ih h x nd.2 hx
        rw [show h.objs.size + (0 + cellIdx r x) = h.objs.size + cellIdx r x by omega]
        exact this
noncomputable def clOf (env:Env):List (Str × NameKind)→List (Str × Addr)→List (Str × Addr)
  | [],acc=>acc
  | (x,k) :: r,acc=>if k == .free then clOf env r ((x,(env.cells.lookup x).getD 0) :: acc) else clOf env r acc
theorem closureFor_is {scope:Scope} {env:Env} (h:∀ x,(x,NameKind.free)∈scope.names→(env.cells.lookup x).isSome = true):closureFor scope env = pure (clOf env scope.names []):=by
  unfold closureFor
  have key:∀ (names:List (Str × NameKind)) (acc:List (Str × Addr)),(∀ x,(x,NameKind.free)∈names→(env.cells.lookup x).isSome = true) →
      (forIn names acc fun (x:Str × NameKind) (cs:List (Str × Addr))=>(match x with
        | (name,kind)=>if (kind == NameKind.free) = true then do let a ← cellOf env name; pure (ForInStep.yield ((name,a) :: cs)) else pure (ForInStep.yield cs):Sem (ForInStep (List (Str × Addr))))) = pure (clOf env names acc):=by
    intro names
    induction names with
    | nil=>intro acc _; rfl
    | cons p r ih=>
      intro acc hp
      obtain ⟨x,k⟩:=p
      rw [List.forIn_cons]
      have hr:∀ x,(x,NameKind.free)∈r→(env.cells.lookup x).isSome = true:=fun x q=>hp x (List.mem_cons_of_mem _ q)
      unfold clOf
      by_cases hk:(k == NameKind.free) = true
      · have hk':k = .free:=beq_iff_eq.mp hk
        obtain ⟨c,hc⟩:=Option.isSome_iff_exists.mp (hp x (by rw [hk']; exact List.mem_cons_self))
        have e:cellOf env x = pure c:=by unfold cellOf; rw [hc]
        simp only [hk,if_true,e,hc,Option.getD_some,pure_bind]
        exact ih _ hr
      · simp only [hk]
        exact ih _ hr
  have:=key scope.names [] h
  simpa using this
theorem clOf_lookup {env:Env}:∀ (names:List (Str × NameKind)) (acc:List (Str × Addr)) (x:Str),(names.map (·.1)).Nodup→(env.cells.lookup x).isSome = true →
    ((x,NameKind.free)∈names∨acc.lookup x = env.cells.lookup x)→x ∉ (names.filter fun p=>p.2 != .free).map (·.1)→(clOf env names acc).lookup x = env.cells.lookup x
  | [],acc,x,_,_,h,_=>by
    rcases h with h | h
    · cases h
    · exact h
  | (y,k) :: r,acc,x,nd,hs,h,hn=>by
    simp only [List.map_cons,List.nodup_cons] at nd
    unfold clOf
    obtain ⟨c,hc⟩:=Option.isSome_iff_exists.mp hs
    by_cases hk:(k == NameKind.free) = true
    · have hk':k = .free:=beq_iff_eq.mp hk
      subst hk'
      rw [if_pos (by rfl)]
      have hn':x ∉ (r.filter fun p=>p.2 != .free).map (·.1):=by simpa using hn
      refine clOf_lookup r _ x nd.2 hs ?_ hn'
      by_cases ex:x = y
      · subst ex
        right
        rw [List.lookup_cons]; simp [hc]
      · rcases h with h | h
        · rcases List.mem_cons.mp h with e | h
          · cases e; exact absurd rfl ex
          · exact .inl h
        · right
          rw [List.lookup_cons,show (x == y) = false from beq_eq_false_iff_ne.mpr ex]; exact h
    · rw [if_neg hk]
      have hkb:(k != NameKind.free) = true:=by simpa using hk
      have hn':x≠y∧x ∉ (r.filter fun p=>p.2 != .free).map (·.1):=by
        rw [List.filter_cons_of_pos (by simpa using hkb)] at hn
        simp only [List.map_cons,List.mem_cons,not_or] at hn
        exact hn
      refine clOf_lookup r _ x nd.2 hs ?_ hn'.2
      rcases h with h | h
      · rcases List.mem_cons.mp h with e | h
        · cases e; exact absurd rfl hn'.1
        · exact .inl h
      · exact .inr h
noncomputable def rSQ (scope sc:Scope):Scope:={ scope with names:=scope.names.map fun p=>if (p.2 == .free && sc.names.lookup p.1 == some .cell) then (p.1,.cell) else p }
theorem relabel_is {scope:Scope} {env:Env} (hk:env.scope.kind = .function):relabel scope env = rSQ scope env.scope:=by
  unfold relabel rSQ
  congr 1
  refine List.map_congr_left fun p ψ=>?_
  obtain ⟨n,k⟩:=p
  show (if (k == NameKind.free && env.scope.kind == ScopeKind.function && env.kindOf n == some NameKind.cell) = true then (n,NameKind.cell) else (n,k)) = _
  rw [hk]
  simp [Env.kindOf]
noncomputable def okComp (scope sc:Scope) (ts:List Str):Bool:=
  nodupB (scope.names.map (·.1)) && nodupB ts && ts.all (fun x=>isVar scope x && (scope.names.lookup x == some .local || scope.names.lookup x == some .cell)) &&
  scope.names.all (fun p=>p.2 != .free || sc.names.lookup p.1 == some .cell || sc.names.lookup p.1 == some .free) && scope.kind == .function
structure OkComp (scope sc:Scope) (ts:List Str):Prop where
  names:(scope.names.map (·.1)).Nodup
  nodup:ts.Nodup
  isv:∀ x∈ts,isVar scope x = true
  lc:∀ x∈ts,scope.names.lookup x = some .local∨scope.names.lookup x = some .cell
  free:∀ x,(x,NameKind.free)∈scope.names→sc.names.lookup x = some .cell∨sc.names.lookup x = some .free
  kind:scope.kind = .function
theorem okComp_ok {scope sc:Scope} {ts:List Str} (h:okComp scope sc ts = true):OkComp scope sc ts:=by
  unfold okComp at h
  simp only [Bool.and_eq_true,List.all_eq_true,Bool.or_eq_true,beq_iff_eq,bne_iff_ne] at h
  obtain ⟨⟨⟨⟨h1,h2⟩,h3⟩,h4⟩,h5⟩:=h
  exact ⟨nodupB_ok h1,nodupB_ok h2,fun x hx=>(h3 x hx).1,fun x hx=>(h3 x hx).2,fun x hx=>by
    rcases h4 _ hx with (q | q) | q
    · exact absurd rfl q
    · exact .inl q
    · exact .inr q,h5⟩
theorem lookup_of_nodup {α:Type}:∀ {l:List (Str × α)} {x:Str} {k:α},(l.map (·.1)).Nodup→(x,k)∈l→l.lookup x = some k
  | (y,j) :: r,x,k,nd,h=>by
    simp only [List.map_cons,List.nodup_cons] at nd
    rw [List.lookup_cons]
    rcases List.mem_cons.mp h with e | h
    · rw [(Prod.mk.inj e).1,(Prod.mk.inj e).2]; simp
    · have hne:x≠y:=fun e=>nd.1 (e ▸ List.mem_map_of_mem h)
      rw [show (x == y) = false from beq_eq_false_iff_ne.mpr hne]
      exact lookup_of_nodup nd.2 h
theorem relabelS_keep {scope sc:Scope} {x:Str} {k:NameKind} (hk:k≠.free) (h:scope.names.lookup x = some k):(rSQ scope sc).names.lookup x = some k:=by
  unfold rSQ
  show (scope.names.map _).lookup x = _
  generalize scope.names = l at h
  induction l with
  | nil=>cases h
  | cons p r ih=>
    obtain ⟨y,j⟩:=p
    rw [List.lookup_cons] at h
    rw [List.map_cons]
    by_cases e:(x == y) = true
    · rw [e] at h
      have hj:j = k:=Option.some.inj h
      subst hj
      have:(j == NameKind.free && sc.names.lookup y == some NameKind.cell) = false:=by
        have:(j == NameKind.free) = false:=beq_eq_false_iff_ne.mpr hk
        rw [this]; rfl
      dsimp only
      rw [this]
      simp [List.lookup_cons,e]
    · have e':(x == y) = false:=by simpa using e
      rw [e'] at h
      have ih':=ih h
      dsimp only
      split
      · rw [List.lookup_cons,e']; exact ih'
      · rw [List.lookup_cons,e']; exact ih'
theorem relabelS_free {scope sc:Scope} {x:Str} (h:scope.names.lookup x = some .free):(rSQ scope sc).names.lookup x = some (if sc.names.lookup x = some .cell then .cell else .free):=by
  unfold rSQ
  show (scope.names.map _).lookup x = _
  generalize scope.names = l at h
  induction l with
  | nil=>cases h
  | cons p r ih=>
    obtain ⟨y,j⟩:=p
    rw [List.lookup_cons] at h
    rw [List.map_cons]
    by_cases e:(x == y) = true
    · rw [e] at h; cases h
      have exy:x = y:=beq_iff_eq.mp e
      subst exy
      dsimp only
      by_cases q:sc.names.lookup x = some .cell
      · rw [if_pos q,if_pos (by rw [q]; rfl)]; simp [List.lookup_cons]
      · rw [if_neg q,if_neg (by simpa using q)]; simp [List.lookup_cons]
    · have e':(x == y) = false:=by simpa using e
      rw [e'] at h
      have ih':=ih h
      dsimp only
      split
      · rw [List.lookup_cons,e']; exact ih'
      · rw [List.lookup_cons,e']; exact ih'
theorem relabelS_names {scope sc:Scope}:(rSQ scope sc).names.map (·.1) = scope.names.map (·.1):=by
  unfold rSQ
  show (scope.names.map _).map _ = _
  rw [List.map_map]
  refine List.map_congr_left fun p ψ=>?_
  dsimp only [Function.comp]
  split <;> rfl
theorem isVar_relabel {scope sc:Scope} {x:Str} (h:isVar scope x = true):isVar (rSQ scope sc) x = true:=by
  unfold isVar at h ⊢
  simp only [Bool.and_eq_true] at h ⊢
  refine ⟨h.1,?_⟩
  have h2:=h.2
  cases q:scope.names.lookup x with
  | none=>rw [q] at h2; cases h2
  | some k=>
    rw [q] at h2
    by_cases hk:k = .free
    · subst hk
      rw [relabelS_free q]
      by_cases z:sc.names.lookup x = some .cell
      · rw [if_pos z]
      · rw [if_neg z]
    · rw [relabelS_keep hk q]; exact h2
theorem wp_newCompEnv {M:Model} {A:Around} {E:Value→Shared→Prop} {s:Shared} {scope:Scope} {globals:Addr} {cl:List (Str × Addr)} {qual:Str} {env:Env} {Q:Env→Shared→Prop}
    (h:Q { scope,locals:=s.heap.objs.size,globals,cells:=cellsFrom (s.heap.objs.size + 1) scope.names cl,qual,func:=none,code:=env.code,frame:=env.frame,builtins:=env.builtins }
      { s with heap:=pushCells (s.heap.push { cls:=.type "dict",data:=.dict #[] }) scope.names }) :
    wpAny M A (newFunctionEnv scope globals cl [] qual none .none (some env)) Q E s:=by
  simp only [newFunctionEnv,Option.isSome_some,if_true]
  refine wpAny_bind (wpAny_alloc ?_)
  refine wpAny_bind (wpAny_layCells _ (fun name kind cells=>by cases hkc:kind == NameKind.cell <;> simp) _ _ _ _ ?_)
  rw [show ({ s with heap:=s.heap.push { cls:=.type "dict",data:=.dict #[] } }:Shared).heap.objs.size = s.heap.objs.size + 1 from Heap.size_push ..]
  exact wpAny_bind (wpAny_pure (wpAny_pure h))
theorem nc1 (C i:Nat):C + 1 + i≠C:=by omega
theorem nc2 (C i:Nat):C≤C + 1 + i:=by exact o12
theorem nc3 {b C i:Nat} (h:b = C + 1 + i):C≤b:=by omega
theorem nc4 {b C D i:Nat} (h:b < D) (k:D < C) (q:b = C + 1 + i):False:=by omega
theorem nc5 {b D:Nat} (h:b < D) (q:b = D):False:=by omega
theorem nc6 {b C D:Nat} (h:b < D) (k:D < C) (q:b = C):False:=by omega
theorem nc7 {b C D:Nat} (h:b < D) (k:D < C) (q:C≤b):False:=by omega
theorem nc8 {C D:Nat} (k:D < C) (q:C≤D):False:=by omega
theorem nc9 {C i j:Nat} (h:C + 1 + i = C + 1 + j):i = j:=by exact o14 h
section
variable {W:Wo} {n:Nat} {sc:Scope} {σ:Store}
theorem comp_core {fl:Bool} {elt t iter:PySem.Expr} {ifs:List PySem.Expr} {gs:List Comprehension} {scope:Scope} {pos p':Pos} {ts:List Str} {a:V} {xs o:List V} {use:Option (Value→Sem Unit)} {Q:Value→Shared→Prop} {E:Value→Shared→Prop} {A:Around} {env:Env} {hot:Addr→Prop} {s:Shared}
    (ok:okComp scope sc ts = true) (he:env.scope = sc) (hA:Room A n) (g:Good W env σ hot s)
    (hi:Ev W n sc σ iter a) (hx:JQ W a xs) (hE:EmitL W n (rSQ scope sc) scope σ t ifs (EmitF fl W n (rSQ scope sc) scope σ elt gs) xs (ts.map fun x=>(x,Slot.unset)) o) (hz:o.length≤1000000)
    (hg:∀ e:Env,∀ c∈(⟨t,iter,ifs,0⟩:Comprehension) :: gs,PlainG e c)
    (k:∀ s' C D,Grow s s'→s.heap.get? C = none→(∃ m,s'.heap.Ns C m)→Rd s'.heap (fun a=>hot a∨a = C) (.list o) (.ref D)→D≠C→(s.heap.get? D = none∧∃ items,s'.heap.PlainList D items∧Rds s'.heap (fun a=>hot a∨a = C∨a = D) o items.toList∧JOk fl W o items.toList)→compPost (model W.prog W.w) A E use Q (.ref D) C (.ok .next) s') :
    wpAny (model W.prog W.w) A (comprehension (.ListComp elt (⟨t,iter,ifs,0⟩ :: gs) scope pos) scope env p' (newList []) false (eval iter env) use) Q E s:=by
  have ok':=okComp_ok ok
  have nok:∀ {y:Str} {j k:NameKind},(y,j)∈scope.names→(y,k)∈scope.names→j = k:=fun h1 h2=>by
    have a1:=lookup_of_nodup ok'.names h1
    rw [lookup_of_nodup ok'.names h2] at a1
    exact (Option.some.inj a1).symm
  have fr:∀ x,(x,NameKind.free)∈scope.names→(env.cells.lookup x).isSome = true:=fun x hx=>g.cells x (by rw [he]; exact ok'.free x hx)
  have hnames:∀ x∈scope.names,x.2 = .local→scope.names.lookup x.1 = some .local:=fun x hx hl=>lookup_of_nodup ok'.names (by rw [← hl]; exact hx)
  refine wpAny_comprehension_free (g:=⟨t,iter,ifs,0⟩) (gs:=gs) (cl:=clOf env scope.names []) rfl (hg env _ List.mem_cons_self).2 (closureFor_is fr) ok'.kind hnames
    (hi.run env he A hA s hot _ E g fun v s₁ g₁ r₁=>hx.run A (hA.less (Nat.zero_le _)) s₁ hot v _ E (g.grow g₁).base (g.grow g₁).alive r₁ fun it s₂ g₂ hI=>?_)
  -- the list,the scope
  have hz0:([]:List Value).toArray.size≤sizeLine:=by simp
  refine wpAny_newObj_type ?_ hz0
  generalize hD:s₂.heap.objs.size = D
  generalize hs₃:({ s₂ with heap:=s₂.heap.push { cls:=.type "list",dict:=Option.none,data:=.seq ([]:List Value).toArray } }:Shared) = s₃
  have up₃:Sub s₂.heap s₃.heap:=by rw [← hs₃]; exact fun b o e=>Heap.get?_push_of_some _ e
  have sz₃:s₃.heap.objs.size = D + 1:=by rw [← hs₃]; show (s₂.heap.push _).objs.size = _; rw [Heap.size_push,hD]
  have plD₃:s₃.heap.PlainList D #[]:=⟨0,by rw [← hs₃,← hD]; exact Heap.get?_push_size _ rfl⟩
  refine wp_newCompEnv ?_
  generalize hC:s₃.heap.objs.size = C
  generalize hs₄:({ s₃ with heap:=pushCells (s₃.heap.push { cls:=.type "dict",data:=.dict #[] }) scope.names }:Shared) = s₄
  have up₄:Sub s₃.heap s₄.heap:=by rw [← hs₄]; exact fun b o e=>pushCells_keeps _ _ b o (Heap.get?_push_of_some _ e)
  have nsC₄:s₄.heap.Ns C fun ψ=>none:=by rw [← hs₄,← hC]; exact (Heap.Ns.new s₃.heap (.type "dict")).keeps (pushCells_keeps _ _)
  have cellH:∀ x,(x,NameKind.cell)∈scope.names→s₄.heap.IsCell (C + 1 + cellIdx scope.names x) none:=fun x hx=>by
    have:=cf_heap scope.names (s₃.heap.push { cls:=.type "dict",data:=.dict #[] }) x ok'.names hx
    rw [Heap.size_push,hC] at this
    rw [← hs₄]; exact this
  -- the environment of the comprehension
  generalize hcenv:({ ({ scope,locals:=C,globals:=env.globals,cells:=cellsFrom (C + 1) scope.names (clOf env scope.names []),qual:=env.qual,func:=none,code:=env.code,frame:=env.frame,builtins:=env.builtins }:Env) with scope:=relabel scope env }:Env) = cenv
  have cL:cenv.locals = C:=by rw [← hcenv]
  have csc:cenv.scope = rSQ scope sc:=by rw [← hcenv,← he]; exact relabel_is g.kind
  have ccl:cenv.cells = cellsFrom (C + 1) scope.names (clOf env scope.names []):=by rw [← hcenv]
  have own:∀ x,(x,NameKind.cell)∈scope.names→cenv.cells.lookup x = some (C + 1 + cellIdx scope.names x):=fun x hx=>by rw [ccl]; exact cf_cell _ _ _ _ ok'.names hx
  have outer:∀ x,(x,NameKind.free)∈scope.names→cenv.cells.lookup x = env.cells.lookup x:=fun x hx=>by
    rw [ccl,cf_other _ _ _ _ fun q=>by have:=nok hx q; cases this]
    refine clOf_lookup _ _ _ ok'.names (fr x hx) (.inl hx) fun q=>?_
    obtain ⟨p,hp,e⟩:=List.mem_map.mp q
    obtain ⟨hp1,hp2⟩:=List.mem_filter.mp hp
    obtain ⟨y,j⟩:=p
    subst e
    have:=nok hx hp1
    subst this; cases hp2
  have new₂:∀ b,s₂.heap.get? b = none→s₁.heap.get? b = none:=fun b e=>nQ g₂.sub e
  have newD₂:s₂.heap.get? D = none:=by rw [← hD]; exact gNQ _
  have newBig:∀ b,C≤b→s₃.heap.get? b = none:=fun b hb=>by
    cases e:s₃.heap.get? b with
    | none=>rfl
    | some o=>exact absurd (Heap.lt_size e) (Nat.not_lt.mpr (hC ▸ hb))
  have newBig₁:∀ b,C≤b→s₁.heap.get? b = none:=fun b hb=>new₂ b (nQ up₃ (newBig b hb))
  obtain ⟨I,fp,P,St,rfl,hW⟩:=hI
  have liveI:=(hW.live _ _ hW.st).2
  have liveF:=(hW.live _ _ hW.st).1
  have DneC:D≠C:=by rw [← hC,sz₃]; exact Nat.ne_of_lt (Nat.lt_succ_self _)
  have ltC:∀ b o,s₂.heap.get? b = some o→b < D:=fun b o e=>hD ▸ Heap.lt_size e
  have gAll:Grow s₁ s₄:=⟨fun b o e=>up₄ b o (up₃ b o (g₂.sub b o e)),by rw [← hs₄,← hs₃]; exact g₂.os,fun q=>by rw [← hs₄,← hs₃]; exact g₂.gens q⟩
  let τ:Store:=ts.map fun x=>(x,Slot.unset)
  let hot₄:Addr→Prop:=fun a=>hot a∨a = I∨a = D∨a = C∨∃ x,(x,NameKind.cell)∈scope.names∧a = C + 1 + cellIdx scope.names x
  have alive₁:=(g.grow g₁).alive
  have tn:τ.map (·.1) = ts:=by show (ts.map _).map _ = _; rw [List.map_map]; exact List.map_id' _
  have inTs:∀ p∈τ,p.1∈ts:=fun p hp=>tn ▸ List.mem_map_of_mem hp
  have unsetτ:∀ p∈τ,p.2 = .unset:=fun p hp=>by obtain ⟨x,_,e⟩:=List.mem_map.mp hp; rw [← e]
  have cellMem:∀ x∈ts,(rSQ scope sc).names.lookup x = some .cell→(x,NameKind.cell)∈scope.names:=fun x hx h=>by
    rcases ok'.lc x hx with q | q
    · rw [relabelS_keep (by decide) q] at h; cases h
    · exact mem_of_lookup q
  have F₄:Fm W cenv s₁ hot hot₄ (fun ψ=>0) τ s₄:={
    wbase:=(g.grow g₁).base
    grow:=gAll
    kind:=by rw [csc]; exact ok'.kind
    globals:=by rw [← hcenv]; exact g.globals
    builtins:=by rw [← hcenv]; exact g.builtins
    nodup:=by rw [tn]; exact ok'.nodup
    isv:=fun p hp=>by rw [csc]; exact isVar_relabel (ok'.isv _ (inTs p hp))
    lc:=fun p hp=>by
      rw [csc]
      rcases ok'.lc _ (inTs p hp) with q | q
      · exact .inl (relabelS_keep (by decide) q)
      · exact .inr (relabelS_keep (by decide) q)
    ns:=⟨_,by rw [cL]; exact nsC₄⟩
    nsNew:=by rw [cL]; exact newBig₁ C (Nat.le_refl _)
    cells:=fun x hx=>by
      rw [csc] at hx
      have hm:x∈(rSQ scope sc).names.map (·.1):=by
        rcases hx with q | q <;> exact List.mem_map_of_mem (mem_of_lookup q)
      rw [relabelS_names] at hm
      obtain ⟨p,hp,e⟩:=List.mem_map.mp hm
      obtain ⟨y,j⟩:=p
      subst e
      by_cases hj:j = .free
      · subst hj; rw [outer y hp]; exact fr y hp
      · have:=relabelS_keep (sc:=sc) hj (lookup_of_nodup ok'.names hp)
        rcases hx with q | q
        · rw [this] at q; cases q; rw [own y hp]; rfl
        · rw [this] at q; cases q; exact absurd rfl hj
    cl:=fun p hp hk=>by
      rw [csc] at hk
      have hm:=cellMem _ (inTs p hp) hk
      exact ⟨C + 1 + cellIdx scope.names p.1,_,own _ hm,cellH _ hm,newBig₁ (C + 1 + cellIdx scope.names p.1) (nc2 _ _),by rw [cL]; exact nc1 _ _,.inr (.inr (.inr (.inr ⟨_,hm,rfl⟩)))⟩
    apart:=fun p hp q hq k1 k2 c h1 h2=>by
      rw [csc] at k1 k2
      have m1:=cellMem _ (inTs p hp) k1
      have m2:=cellMem _ (inTs q hq) k2
      rw [own _ m1] at h1; rw [own _ m2] at h2
      exact cellIdx_inj _ _ _ ok'.names m1 m2 (nc9 ((Option.some.inj h1).trans (Option.some.inj h2).symm))
    ownCell:=fun p hp q hq hk ho=>by rw [unsetτ q hq] at ho; cases ho
    vars:=fun p hp=>by rw [unsetτ p hp]; trivial
    alive:=fun b hb=>by
      rcases hb with hb | hb | hb | hb | ⟨x,hx,hb⟩
      · obtain ⟨o,e⟩:=alive₁ b hb; exact ⟨o,gAll.sub b o e⟩
      · obtain ⟨o,_,e,_⟩:=liveI; exact ⟨o,by rw [hb]; exact up₄ _ _ (up₃ _ _ e)⟩
      · obtain ⟨m,e⟩:=plD₃; exact ⟨_,by rw [hb]; exact up₄ _ _ e⟩
      · obtain ⟨o,_,_,e,_⟩:=nsC₄; exact ⟨o,by rw [hb]; exact e⟩
      · obtain ⟨o,e,_⟩:=cellH x hx; exact ⟨o,by rw [hb]; exact e⟩
    outhot:=fun b hb=>.inl hb
    outlive:=alive₁
    hotnew:=fun b hb=>by
      rcases hb with hb | hb | hb | hb | ⟨x,hx,hb⟩
      · exact .inl hb
      · exact .inr (by rw [hb]; exact hW.fresh)
      · exact .inr (by rw [hb]; exact new₂ _ newD₂)
      · exact .inr (by rw [hb]; exact newBig₁ _ (Nat.le_refl _))
      · exact .inr (newBig₁ b (nc3 hb))
    nshot:=by rw [cL]; exact .inr (.inr (.inr (.inl rfl)))
    inj:=fun p hp q hq ho=>by rw [unsetτ p hp] at ho; cases ho }
  have mutC:∀ b∈mutL cenv τ (fun ψ=>0),C≤b:=fun b hb=>by
    rcases mQ.mp hb with e | ⟨p,hp,h1,h2⟩ | ⟨p,hp,h1,_⟩
    · rw [e,cL]; exact Nat.le_refl _
    · rw [csc] at h1
      rw [own _ (cellMem _ (inTs p hp) h1)] at h2
      exact nc3 (Option.some.inj h2).symm
    · rw [unsetτ p hp] at h1; cases h1
  have DltC:D < C:=by rw [← hC,sz₃]; exact Nat.lt_succ_self _
  have hO:OuterOk cenv s₁ hot scope σ:=fun p hp hf hv=>by
    have hfree:=mem_of_lookup (beq_iff_eq.mp hf)
    have hk:=ok'.free _ hfree
    have hv':isVar env.scope p.1 = true:=by
      unfold isVar at hv ⊢
      simp only [Bool.and_eq_true] at hv ⊢
      refine ⟨hv.1,?_⟩
      rw [he]
      rcases hk with q | q <;> rw [q]
    have old:=(g.grow g₁).vars p hp hv'
    have kin:cenv.scope.names.lookup p.1 = some .cell∨cenv.scope.names.lookup p.1 = some .free:=by
      rw [csc,relabelS_free (beq_iff_eq.mp hf)]
      by_cases q:sc.names.lookup p.1 = some .cell
      · rw [if_pos q]; exact .inl rfl
      · rw [if_neg q]; exact .inr rfl
    have vi:∀ v,VarIs env s₁.heap p.1 v→VarIs cenv s₁.heap p.1 v:=fun v y=>by
      rcases y with ⟨q,_⟩ | ⟨_,c,hc,hv⟩
      · rw [he] at q; rcases hk with hk | hk <;> rw [hk] at q <;> cases q
      · exact .inr ⟨kin,c,by rw [outer _ hfree]; exact hc,hv⟩
    cases q:p.2 with
    | unset=>trivial
    | val d=>rw [q] at old; obtain ⟨v,y,z⟩:=old; exact ⟨v,vi v y,z⟩
    | own l=>rw [q] at old; obtain ⟨x,items,y,z⟩:=old; exact ⟨x,items,vi _ y,z⟩
    | app l=>trivial
  have I0:I∈fp:=hW.wk.sub I (List.mem_singleton.mpr rfl)
  have fpD:∀ b∈fp,b < D:=fun b hb=>let ⟨o,e⟩:=liveF b hb; ltC b o e
  have notHot:∀ b,hot b→b < D:=fun b hb=>let ⟨o,e⟩:=alive₁ b hb; ltC b o (g₂.sub b o e)
  have upR:∀ b o,¬ hot b→s₁.heap.get? b = some o→s₄.heap.get? b = some o∧¬ hot₄ b:=fun b o nb e=>⟨gAll.sub b o e,fun q=>by
    have hb:=ltC b o (g₂.sub b o e)
    rcases q with q | q | q | q | ⟨x,_,q⟩
    · exact nb q
    · rw [q,hW.fresh] at e; cases e
    · exact nc5 hb q
    · exact nc6 hb DltC q
    · exact nc4 hb DltC q⟩
  have acc₄:Acc fl W cenv s₁ hot₄ (fun ψ=>0) τ D [] s₄:={
    list:=let ⟨m,e⟩:=plD₃; ⟨#[],⟨m,up₄ _ _ e⟩,.nil,.nil⟩
    hot:=.inr (.inr (.inl rfl))
    fresh:=new₂ _ newD₂
    free:=fun q=>nc8 DltC (mutC D q) }
  have hgen:∀ c∈(⟨t,iter,ifs,0⟩:Comprehension) :: gs,PlainG cenv c:=hg cenv
  have body:BodyOk fl W n elt (⟨t,iter,ifs,0⟩ :: gs) scope pos (rSQ scope sc) cenv A D (fun ψ=>0) σ gs 0:=body_all csc hA hgen gs 0 rfl
  have run:codeAny (model W.prog W.w) A (.compLoop (.ListComp elt (⟨t,iter,ifs,0⟩ :: gs) scope pos) 0 (.ref I) (.ref D) cenv) (compPost (model W.prog W.w) A E use Q (.ref D) C) s₄:=by
    refine loop_of_body csc hA hgen body rfl (A':=A) hW hO (hot:=hot₄) (.inr (.inl rfl)) hW.fresh (fun q=>Nat.lt_irrefl _ (fpD D q)) xs 0 τ o [] (Nat.zero_le _) (by simp) hE (by simpa using hz) s₄ F₄ acc₄
      (hW.wk.frame _ _ _ hW.st fun b ψ o e=>up₄ b o (up₃ b o e)) (fun b hb q=>nc7 (fpD b hb) DltC (mutC b q)) (fun j v x ψ hv hx=>Rd.mono upR _ _ (hW.item j v x hv hx)) fun s' h' tk F' ha' mfp' hk=>?_
    obtain ⟨items,⟨m,eD⟩,rD,jD⟩:=ha'.list
    have DI:D≠I:=fun q=>Nat.lt_irrefl _ (q ▸ fpD I I0)
    have CI:C≠I:=fun q=>nc6 (fpD I I0) DltC q.symm
    refine k _ C D (g₁.trans ⟨fun b o e=>hk b o (fun q=>by rw [List.mem_singleton.mp q,hW.fresh] at e; cases e) (F'.grow.sub b o e),F'.grow.os,F'.grow.gens⟩) (nQ g₁.sub (newBig₁ C (Nat.le_refl _))) ?_ ?_ DneC ⟨nQ g₁.sub (new₂ _ newD₂),items,⟨m,hk _ _ (fun q=>DI (List.mem_singleton.mp q)) eD⟩,?_,by simpa using jD⟩
    · obtain ⟨mm,hm⟩:=F'.ns
      rw [cL] at hm
      exact ⟨mm,hm.at' fun o e=>hk C o (fun q=>CI (List.mem_singleton.mp q)) e⟩
    · show Rd h' _ (.list o) (.ref D)
      unfold Rd
      refine ⟨D,items,rfl,fun q=>?_,⟨m,hk _ _ (fun q=>DI (List.mem_singleton.mp q)) eD⟩,?_⟩
      · rcases q with q | q
        · exact Nat.lt_irrefl _ (notHot D q)
        · exact DneC q
      · have rD':Rds s'.heap hot₄ o items.toList:=by simpa using rD
        refine Rds.mono (fun b o nb e=>⟨hk b o (fun q=>nb (.inr (.inl (List.mem_singleton.mp q)))) e,fun q=>?_⟩) _ _ rD'
        rcases q with q | q
        · exact nb (.inl q)
        · exact nb (.inr (.inr (.inr (.inl q))))
    · have rD':Rds s'.heap hot₄ o items.toList:=by simpa using rD
      refine Rds.mono (fun b o nb e=>⟨hk b o (fun q=>nb (.inr (.inl (List.mem_singleton.mp q)))) e,fun q=>?_⟩) _ _ rD'
      rcases q with q | q | q
      · exact nb (.inl q)
      · exact nb (.inr (.inr (.inr (.inl q))))
      · exact nb (.inr (.inr (.inl q)))
  refine code_compStart rfl run (hW.wk.self 0 _ _ _ (hW.wk.frame _ _ _ hW.st fun b ψ o e=>up₄ b o (up₃ b o e)) run)
theorem Ev.comp {elt t iter:PySem.Expr} {ifs:List PySem.Expr} {gs:List Comprehension} {scope:Scope} {pos:Pos} (ts:List Str) {a:V} {xs o:List V}
    (ok:okComp scope sc ts = true) (hi:Ev W n sc σ iter a) (hx:JQ W a xs) (hE:EmitL W n (rSQ scope sc) scope σ t ifs (Emit W n (rSQ scope sc) scope σ elt gs) xs (ts.map fun x=>(x,Slot.unset)) o) (hz:o.length≤1000000)
    (hg:∀ e:Env,∀ c∈(⟨t,iter,ifs,0⟩:Comprehension) :: gs,PlainG e c) :
    Ev W n sc σ (.ListComp elt (⟨t,iter,ifs,0⟩ :: gs) scope pos) (.list o):=
  ⟨fun env he A hA s hot Q E g k=>by
    rw [eval_ListComp]
    refine comp_core ok he hA g hi hx hE hz hg fun s' C D g' hC hn r hne ψ=>?_
    obtain ⟨m,hm⟩:=hn
    refine ⟨m,hm,fun h' hs'=>k _ _ ⟨fun b o e=>(hs'.2 b (fun q=>by rw [q,hC] at e; cases e)).trans (g'.sub b o e),g'.os,g'.gens⟩ ?_⟩
    exact Rd.mono (fun b o nb e=>⟨(hs'.2 b (fun q=>nb (.inr q))).trans e,fun q=>nb (.inl q)⟩) _ _ r⟩
theorem Runs.assignComp {x:Str} {p spos:Pos} {elt t iter:PySem.Expr} {ifs:List PySem.Expr} {gs:List Comprehension} {scope:Scope} {pos:Pos} (ts:List Str) {a:V} {xs o:List V} {σ':Store}
    (ok:okComp scope sc ts = true) (hi:Ev W n sc σ iter a) (hx:JQ W a xs) (hE:EmitL W n (rSQ scope sc) scope σ t ifs (Emit W n (rSQ scope sc) scope σ elt gs) xs (ts.map fun x=>(x,Slot.unset)) o) (hz:o.length≤1000000)
    (hg:∀ e:Env,∀ c∈(⟨t,iter,ifs,0⟩:Comprehension) :: gs,PlainG e c) (hp:Put x (.val (.list o)) σ σ') (hn:noApp x σ) :
    Runs W n sc (.Assign [.Name x p] (.ListComp elt (⟨t,iter,ifs,0⟩ :: gs) scope pos) spos) σ (.next σ'):=
  ⟨fun env he A hA base out hot oa s Q E F k=>by
    have hb:∃ b,swapsWith (.ListComp elt (⟨t,iter,ifs,0⟩ :: gs) scope pos) (some (.Name x p)) spos.line env = pure b:=⟨_,rfl⟩
    obtain ⟨b,hb⟩:=hb
    cases b with
    | false=>
      exact wpAny_Assign_Name ((Ev.comp ts ok hi hx hE hz hg).run env he A hA s hot _ E F.good fun v s₁ g r=>(F.grown g).store hp r hn fun s₂ F₂=>k _ _ ⟨rfl,hot,oa,F₂⟩) hb
    | true=>
      rw [exec_Assign_Name_used _ _ _ _ hb]
      refine wpAny_bind (wpAny_standAt (wpAny_bind ?_))
      show wpAny _ A (do let _ ← comprehension (PySem.Expr.ListComp elt (⟨t,iter,ifs,0⟩ :: gs) scope pos) scope env _ (newList []) false (eval iter env) (some (PySem.assign (PySem.Expr.Name x p) env))) _ _ s
      refine wpAny_bind (comp_core (Q:=fun v s'=>wpAny (model W.prog W.w) A (pure ()) (fun ψ s=>wpAny (model W.prog W.w) A (pure Flow.next) Q E s) E s') ok he hA F.good hi hx hE hz hg fun s' C D g' hC hn' r hne ψ=>?_)
      obtain ⟨m,hm⟩:=hn'
      have aC:∃ o,s'.heap.get? C = some o:=let ⟨o,_,_,e,_⟩:=hm; ⟨o,e⟩
      have F₁:=F.hotter g' (wr:=[C]) (fun b hb=>by rw [List.mem_singleton.mp hb]; exact hC) (fun b hb=>by rw [List.mem_singleton.mp hb]; exact aC)
      have r':Rd s'.heap (fun a=>hot a∨a∈[C]) (.list o) (.ref D):=Rd.mono (fun b o nb e=>⟨e,fun q=>nb (by
        rcases q with q | q
        · exact .inl q
        · exact .inr (List.mem_singleton.mp q))⟩) _ _ r
      have Cm:C ∉ mutL env σ oa:=fun q=>by
        obtain ⟨o,e⟩:=F.alive C (F.mutNew C q).2
        rw [hC] at e; cases e
      show wpAny _ A (PySem.assign (PySem.Expr.Name x p) env (Value.ref D)) _ E s'
      have Fr:=F₁.rebase
      refine wpAny_assign_Name (Fr.store hp r' hn fun s₂ F₂=>?_)
      have hmC:s₂.heap.Ns C m:=hm.at' fun o e=>F₂.grow.sub C o (hideAll_get _ e Cm)
      refine ⟨m,hmC,fun h' hs'=>wpAny_pure (wpAny_pure (k _ _ ⟨rfl,(fun a=>(hot a∨a∈[C])∧a ∉ [C]),oa,?_⟩))⟩
      have F₃:Fm W env base out (fun a=>hot a∨a∈[C]) oa σ' s₂:=F₂.debase F₁.grow_hidden F₁.wbase F₁.outMut (fun a ha=>F₁.hotnew a ha.1) F₁.outlive
      refine F₃.touchOff (tk:=s₂.toks) (wr:=[C]) (fun b o hb e=>(hs'.2 b (fun q=>hb (List.mem_singleton.mpr q))).trans e) fun b hb=>?_
      rw [List.mem_singleton.mp hb]
      refine ⟨nQ F.grow.sub hC,.inr (List.mem_singleton.mpr rfl),fun q=>?_⟩
      have:=(F₂.mutNew C q).1
      obtain ⟨o,e⟩:=aC
      rw [show (hidden env σ oa s').heap.get? C = some o from hideAll_get _ e Cm] at this; cases this⟩
end
section
variable {W:Wo} {n:Nat} {sc:Scope} {σ σ':Store}
inductive EvP (W:Wo) (n:Nat) (sc:Scope) (σ:Store):Option PySem.Expr→Option Int→Prop
  | none:EvP W n sc σ Option.none Option.none
  | some {e:PySem.Expr} {i:Int}:Ev W n sc σ e (.int i)→EvP W n sc σ (Option.some e) (Option.some i)
theorem EvP.run {e:Option PySem.Expr} {i:Option Int} (h:EvP W n sc σ e i):∀ env,env.scope = sc→∀ A,Room A n→∀ s hot (Q:Value→Shared→Prop) E,Good W env σ hot s →
    (∀ p s',Grow s s'→p.map (·.1) = i→Q (partValue p) s')→wpAny (model W.prog W.w) A (evalPart e env) Q E s:=by
  intro env he A hA s hot Q E g k
  cases h with
  | none=>exact wpAny_pure (k Option.none s (.refl s) rfl)
  | some h=>
    refine h.run env he A hA s hot _ E g fun v s' g' r=>?_
    obtain ⟨t,ht⟩:=rQ r
    rw [ht]
    exact k (Option.some (_,t)) s' g' rfl
noncomputable def sl {α:Type} (l:List α) (lo hi st:Option Int):List α:=
  (sliceRange (sliceBounds lo hi st l.length).1 (sliceBounds lo hi st l.length).2.1 (sliceBounds lo hi st l.length).2.2).filterMap (l[·]?)
theorem Rds.pick {h:Heap} {hot:Addr→Prop} {ds:List V} {vs:List Value} (r:Rds h hot ds vs):∀ idx:List Nat,Rds h hot (idx.filterMap (ds[·]?)) (idx.filterMap (vs[·]?))
  | []=>.nil
  | i :: idx=>by
    have ih:=Rds.pick r idx
    cases hd:ds[i]? with
    | none=>
      have hv:vs[i]? = none:=by
        rw [List.getElem?_eq_none_iff] at hd ⊢; rw [r.length]; exact hd
      rw [List.filterMap_cons_none hd,List.filterMap_cons_none hv]; exact ih
    | some d=>
      obtain ⟨v,hv,rv⟩:=r.getElem hd
      rw [List.filterMap_cons_some hd,List.filterMap_cons_some hv]; exact .cons rv ih
theorem Rds.picked {h:Heap} {hot:Addr→Prop} {ds:List V} {items:Array Value} {lo hi st:Option Int} (r:Rds h hot ds items.toList) (hsz:items.size = ds.length):Rds h hot (sl ds lo hi st) (slicePick items lo hi st).toList:=by
  have:=r.pick (sliceRange (sliceBounds lo hi st ds.length).1 (sliceBounds lo hi st ds.length).2.1 (sliceBounds lo hi st ds.length).2.2)
  unfold slicePick sl
  rw [hsz,List.toList_toArray]
  simpa using this
noncomputable def SQ (W:Wo) (a:V) (lo hi st:Option Int) (c:V):Prop:=
  ∀ A,Room A 0→∀ s hot v₁ sa l u t (Q:Value→Shared→Prop) E,Sub W.B s.heap→(∀ a,hot a→∃ o,s.heap.get? a = some o)→Rd s.heap hot a v₁ →
    s.heap.get? sa = some { cls:=.type "slice",data:=.fields #[partValue l,partValue u,partValue t] }→l.map (·.1) = lo→u.map (·.1) = hi→t.map (·.1) = st →
    (∀ v s',Grow s s'→Rd s'.heap hot c v→Q v s')→∃ T id,typeLookup (.type T) "__getitem__" = pure (some (.builtin id))∧s.TypeIs v₁ T∧wpAny (model W.prog W.w) A (getItem v₁ (.ref sa)) Q E s
theorem isPart_of {p:Option (Int × Tok)} {i:Option Int} (h:p.map (·.1) = i):IsPart (partValue p) i:=by
  cases p with
  | none=>cases h; exact .none
  | some q=>cases h; exact .int _ _
theorem SQ.list {l:List V} {lo hi st:Option Int} (h0:st≠some 0) (hz:l.length≤16777216):SQ W (.list l) lo hi st (.list (sl l lo hi st)):=by
  intro A hA s hot v₁ sa pl pu pt Q E hb al r1 hsa h1 h2 h3 k
  obtain ⟨a,items,rfl,_,hl,hr⟩:=rd_list r1
  have hsz:items.size = l.length:=by rw [← hr.length]; simp
  refine ⟨"list",_,slot_list_getitem.lookup,(PlainList.isList hl).typeIs,@wpAny_getItem_list_slice _ _ _ _ _ _ _ _ _ _ _ _ _ _ _ (PlainList.isList hl) ⟨_,hsa,rfl,rfl⟩ (isPart_of h1) (isPart_of h2) (isPart_of h3) h0 (k _ _ ⟨fun b o e=>Heap.get?_push_of_some _ e,rfl,fun e=>e⟩ ?_) (by rw [hsz,sizeLine_eq]; exact hz)⟩
  have up:Sub s.heap (s.heap.push { cls:=.type "list",data:=.seq (slicePick items lo hi st) }):=fun b o e=>Heap.get?_push_of_some _ e
  unfold Rd
  refine ⟨_,slicePick items lo hi st,rfl,newIsHot al,⟨0,Heap.get?_push_size _ rfl⟩,(hr.sub up).picked hsz⟩
theorem up_ok (st:Option Int) (hc:st.getD 1 > 0) (lo hi:Option Int) (n:Nat):0≤(sliceBounds lo hi st n).1∧(sliceBounds lo hi st n).2.1≤n:=by
  have up (x:Int):max 0 (min x (n:Int))≤n:=Int.max_le.mpr ⟨Int.natCast_nonneg _,Int.min_le_right ..⟩
  unfold sliceBounds
  dsimp only
  rw [if_pos hc,if_pos hc]
  refine ⟨?_,?_⟩
  · cases lo with
    | none=>exact Int.le_refl _
    | some i=>dsimp only; rw [if_pos hc]; exact Int.le_max_left ..
  · cases hi with
    | none=>exact Int.le_refl _
    | some i=>dsimp only; rw [if_pos hc]; exact up _
theorem down_ok (st:Option Int) (hc:¬ st.getD 1 > 0) (lo hi:Option Int) (n:Nat):(sliceBounds lo hi st n).1≤(n:Int) - 1∧-1≤(sliceBounds lo hi st n).2.1:=by
  have h1:-1≤(n:Int) - 1:=by omega
  have up (x:Int):max (-1) (min x ((n:Int) - 1))≤(n:Int) - 1:=Int.max_le.mpr ⟨h1,Int.min_le_right ..⟩
  unfold sliceBounds
  dsimp only
  rw [if_neg hc,if_neg hc]
  refine ⟨?_,?_⟩
  · cases lo with
    | none=>exact Int.le_refl _
    | some i=>dsimp only; rw [if_neg hc]; exact up _
  · cases hi with
    | none=>exact Int.le_refl _
    | some i=>dsimp only; rw [if_neg hc]; exact Int.le_max_left ..
theorem pick_len {α:Type} (l:List α) (lo hi st:Option Int):(sl l lo hi st).length≤l.length:=by
  unfold sl
  exact Nat.le_trans (List.length_filterMap_le _ _) (sliceRange_length_le _ _ _ _ (fun hc=>up_ok st hc lo hi _) (fun hc=>down_ok st hc lo hi _))
theorem picks1 {α:Type} (l:List α) (a b:Nat) (hb:b≤l.length) (hab:a≤b):(sliceRange (a:Int) (b:Int) 1).filterMap (l[·]?) = (l.drop a).take (b - a):=by
  unfold sliceRange
  simp only [show (1:Int) > 0 by decide,if_true]
  have:=StrLaws.picks l (b - a) a (by omega)
  rw [← this]
  by_cases h:(a:Int) < b
  · rw [if_pos h]
    have e:(((b:Int) - a + 1 - 1) / 1).toNat = b - a:=by exact o15 h
    rw [e]
    congr 1
    apply List.map_congr_left
    intro k _
    exact o16
  · rw [if_neg h]
    have e:b - a = 0:=by omega
    rw [e]; rfl
theorem range_full {a b:Int} {n:Nat} (h1:0≤a) (h2:b≤n) (h:(sliceRange a b 1).length = n):n = 0∨(a = 0∧b = n):=by
  unfold sliceRange at h
  simp only [show (1:Int) > 0 by decide,if_true,List.length_map,List.length_range] at h
  by_cases hl:a < b
  · rw [if_pos hl] at h; exact .inr ⟨by exact o17 h1 h2 h hl,by exact o18 h1 h2 h hl⟩
  · rw [if_neg hl] at h; exact .inl (by omega)
theorem whole_pick {l:List Nat} {lo hi:Option Int} (h:(sliceRange (sliceBounds lo hi (some 1) l.length).1 (sliceBounds lo hi (some 1) l.length).2.1 1).length = l.length):sl l lo hi (some 1) = l:=by
  unfold sl
  have hs:(sliceBounds lo hi (some 1) l.length).2.2 = 1:=by unfold sliceBounds; rfl
  obtain ⟨h1,h2⟩:=up_ok (some 1) (by decide) lo hi l.length
  rw [hs]
  rcases range_full h1 h2 h with q | ⟨q1,q2⟩
  · have:l = []:=List.length_eq_zero_iff.mp q
    subst this
    simp
  · rw [q1,q2]
    exact (picks1 l 0 _ (Nat.le_refl _) (Nat.zero_le _)).trans (by simp)
theorem indices_eq (lo hi:Option Int) (st:Option Int) (n:Nat):Builtin.Str.strSliceIndices lo hi (st.getD 1) n = sliceRange (sliceBounds lo hi st n).1 (sliceBounds lo hi st n).2.1 (sliceBounds lo hi st n).2.2:=rfl
theorem SQ.str {l:List Nat} {lo hi st:Option Int} (h0:st.getD 1≠0) (hz:l.length≤16777216):SQ W (.str l) lo hi st (.str (sl l lo hi st)):=by
  intro A hA s hot v₁ sa pl pu pt Q E hb al r1 hsa h1 h2 h3 k
  obtain ⟨t,rfl⟩:=sQ r1
  refine ⟨"str",_,slot_str_getitem.lookup,typeIs_str _ _ _,@wpAny_getItem_str_slice _ _ _ _ _ _ _ _ _ _ _ _ ⟨_,hsa,rfl,rfl⟩ (by rw [h3]; simpa using h0) ?_⟩
  have hlen:(St l).length = l.length:=St_len l
  unfold sliceMade slicePicked
  rw [h1,h2,h3,hlen]
  by_cases hw:(st.getD 1 == 1 && (Builtin.Str.strSliceIndices lo hi (st.getD 1) l.length).length == l.length) = true
  · rw [if_pos hw]
    rw [Bool.and_eq_true,beq_iff_eq,beq_iff_eq] at hw
    obtain ⟨w1,w2⟩:=hw
    have e:sl l lo hi st = sl l lo hi (some 1):=by
      cases st with
      | none=>rfl
      | some c=>simp at w1; rw [w1]
    have w3:sl l lo hi (some 1) = l:=whole_pick (by rw [w1] at w2; exact w2)
    have:=k (.str (St l) t) s (.refl s) (by rw [e,w3]; exact mk_str)
    exact this
  · rw [if_neg hw]
    have hp:(⟨((Builtin.Str.strSliceIndices lo hi (st.getD 1) l.length).filterMap ((St l).cps[·]?)).toArray⟩:Str) = St (sl l lo hi st):=by
      unfold sl St
      rw [indices_eq]
      simp
    rw [hp]
    refine ⟨?_,k _ _ .tok mk_str⟩
    rw [St_len,sizeLine_eq]
    exact Nat.le_trans (pick_len l lo hi st) hz
theorem Ev.slice {e:PySem.Expr} {lower upper step:Option PySem.Expr} {p pos:Pos} {a c:V} {lo hi st:Option Int} (he:Ev W n sc σ e a) (h1:EvP W n sc σ lower lo) (h2:EvP W n sc σ upper hi) (h3:EvP W n sc σ step st)
    (ho:SQ W a lo hi st c) (hs:∀ o v,∃ ops,subscripted (.Slice lower upper step p) false o v = operate ops (getItem o v)):Ev W n sc σ (.Subscript e (.Slice lower upper step p) pos) c:=
  ⟨fun env hq A hA s hot Q E g k=>@Subscript_ _ _ _ _ _ _ _ _ _ (he.run env hq A hA s hot _ E g fun v₁ s₁ g₁ r₁=>@wpAny_Slice _ _ _ _ _ _ _ _ _ _ (h1.run env hq A hA s₁ hot _ E (g.grow g₁) fun pl s₂ g₂ e₁=>
    h2.run env hq A hA s₂ hot _ E ((g.grow g₁).grow g₂) fun pu s₃ g₃ e₂=>h3.run env hq A hA s₃ hot _ E (((g.grow g₁).grow g₂).grow g₃) fun pt s₄ g₄ e₃=>by
      have G:=(((g.grow g₁).grow g₂).grow g₃).grow g₄
      have up:Sub s₄.heap (s₄.heap.push { cls:=.type "slice",data:=.fields #[partValue pl,partValue pu,partValue pt] }):=fun b o e=>Heap.get?_push_of_some _ e
      have g₅:Grow s₄ { s₄ with heap:=s₄.heap.push { cls:=.type "slice",data:=.fields #[partValue pl,partValue pu,partValue pt] } }:=⟨up,rfl,fun e=>e⟩
      obtain ⟨T,id,hl,hT,hg⟩:=ho A (hA.less (Nat.zero_le _)) _ hot v₁ s₄.heap.objs.size pl pu pt Q E (G.grow g₅).base (G.grow g₅).alive (((((r₁.sub g₂.sub).sub g₃.sub).sub g₄.sub)).sub up) (Heap.get?_push_size _ rfl) e₁ e₂ e₃
        fun v s' g₆ r₆=>k v s' (((((g₁.trans g₂).trans g₃).trans g₄).trans g₅).trans g₆) r₆
      obtain ⟨ops,hop⟩:=hs v₁ (.ref s₄.heap.objs.size)
      exact tail_any hT hl hg hop))⟩
theorem EvT.of {e:PySem.Expr} {a:V} {c:Bool} (h:Ev W n sc σ e a) (ht:TruOk W a c) (hd:∀ env m,isTrue e env m = (do let v ← m; standAt e.pos; holding [v] (truthy v))):EvT W n sc σ e c:=
  ⟨fun env he A hA s hot Q E g k=>by
    rw [hd]
    exact wpAny_bind (h.run env he A hA s hot _ E g fun v s₁ g₁ r₁=>wpAny_bind (wpAny_standAt (wpAny_holding (ht A (hA.less (Nat.zero_le _)) s₁ hot v Q E (g.grow g₁).base r₁ fun s' g₂=>k s' (g₁.trans g₂)))))⟩
theorem TruOk.str {l:List Nat} (hz:l.length≤16777216):TruOk W (.str l) (!l.isEmpty):=by
  intro A hA s hot v₁ Q E _ r1 k
  obtain ⟨t,rfl⟩:=sQ r1
  refine @P.truthy_str _ _ _ _ _ _ _ _ (by rw [St_len]; omega) ?_
  have:(((St l).length:Int) != 0) = !l.isEmpty:=by
    rw [St_len]; cases l <;> simp [bne] <;> omega
  rw [this]
  exact k _ .tok
noncomputable def V.simple:V→Bool
  | .none | .bool _ | .val (.type _)=>true
  | _=>false
theorem CQ.is_none {d:V} {b:Bool} (h:b = match d with | .none=>true | .val v=>v == .none | _=>false):CQ W .Is d .none b:=by
  subst h
  intro A hA s hot v₁ v₂ Q E _ _ r1 r2 k
  cases rd_none r2
  refine PyProof.Rows.is_none_gen ?_
  have:=k s (.refl s)
  cases d with
  | none=>cases rd_none r1; exact this
  | bool b=>cases rd_bool r1; exact this
  | int i=>obtain ⟨t,rfl⟩:=rQ r1; exact this
  | str i=>obtain ⟨t,rfl⟩:=sQ r1; exact this
  | bytes i=>obtain ⟨t,rfl⟩:=rd_bytes r1; exact this
  | list l=>obtain ⟨a,items,rfl,_⟩:=rd_list r1; exact this
  | tup l=>obtain ⟨a,items,rfl,_⟩:=rd_tup r1; exact this
  | rng a b c=>obtain ⟨r,t,u,y,rfl,_⟩:=rd_rng r1; exact this
  | val v=>cases rd_val r1; exact this
  | obj=>obtain ⟨a,rfl⟩:=rd_obj r1; exact this
theorem CQ.isNot_none {d:V} {b:Bool} (h:b = match d with | .none=>false | .val v=>!(v == .none) | _=>true):CQ W .IsNot d .none b:=by
  subst h
  intro A hA s hot v₁ v₂ Q E _ _ r1 r2 k
  cases rd_none r2
  refine PySem.isNot_none ?_
  have:=k s (.refl s)
  cases d with
  | none=>cases rd_none r1; exact this
  | bool b=>cases rd_bool r1; exact this
  | int i=>obtain ⟨t,rfl⟩:=rQ r1; exact this
  | str i=>obtain ⟨t,rfl⟩:=sQ r1; exact this
  | bytes i=>obtain ⟨t,rfl⟩:=rd_bytes r1; exact this
  | list l=>obtain ⟨a,items,rfl,_⟩:=rd_list r1; exact this
  | tup l=>obtain ⟨a,items,rfl,_⟩:=rd_tup r1; exact this
  | rng a b c=>obtain ⟨r,t,u,y,rfl,_⟩:=rd_rng r1; exact this
  | val v=>cases rd_val r1; exact this
  | obj=>obtain ⟨a,rfl⟩:=rd_obj r1; exact this
theorem CQ.is_type {T U:String}:CQ W .Is (.val (.type T)) (.val (.type U)) (Value.type T == Value.type U):=by
  intro A hA s hot v₁ v₂ Q E _ _ r1 r2 k
  cases rd_val r1; cases rd_val r2
  exact wpAny_is_plain rfl (k s (.refl s))
theorem KQ.len_str {l:List Nat} (hz:l.length≤16777216):KQ W n (.builtin "len") [.str l] (.int l.length):=by
  intro A hA s hot vs Q E _ _ r k
  unfold Rds at r; obtain ⟨v,r',rfl,h1,h2⟩:=r; unfold Rds at h2; subst h2
  obtain ⟨t,rfl⟩:=sQ h1
  refine @P.len_str _ _ _ _ _ _ _ _ (by rw [St_len]; omega) ?_
  rw [St_len]
  exact k _ _ .tok mk_int
theorem KQ.len_list {l:List V} (hz:l.length≤16777216):KQ W n (.builtin "len") [.list l] (.int l.length):=by
  intro A hA s hot vs Q E _ _ r k
  unfold Rds at r; obtain ⟨v,r',rfl,h1,h2⟩:=r; unfold Rds at h2; subst h2
  obtain ⟨a,items,rfl,_,hl,hr⟩:=rd_list h1
  have hsz:items.size = l.length:=by rw [← hr.length]; simp
  refine Calls.call_len_list (PlainList.isList hl) (by rw [hsz]; exact o19 hz) ?_
  rw [hsz]
  exact k _ _ .tok mk_int
theorem rng_new {s:Shared} {hot:Addr→Prop} (al:∀ a,hot a→∃ o,s.heap.get? a = some o) {a b c:Int} {t u v:Tok} {tk:Nat} :
    Grow s { s with heap:=s.heap.push { cls:=.type "range",data:=.fields #[.int a t,.int b u,.int c v] },toks:=tk }∧Rd (s.heap.push { cls:=.type "range",data:=.fields #[.int a t,.int b u,.int c v] }) hot (.rng a b c) (.ref s.heap.objs.size):=by
  refine ⟨⟨fun b o e=>Heap.get?_push_of_some _ e,rfl,fun e=>e⟩,?_⟩
  unfold Rd
  exact ⟨_,t,u,v,rfl,newIsHot al,IsRange.new _ _ _ _ _ _ _⟩
theorem KQ.range_1 {b:Int}:KQ W n (.type "range") [.int b] (.rng 0 b 1):=by
  intro A hA s hot vs Q E _ al r k
  unfold Rds at r; obtain ⟨v,r',rfl,h1,h2⟩:=r; unfold Rds at h2; subst h2
  obtain ⟨t,rfl⟩:=rQ h1
  exact @call_range_1 _ _ _ _ _ _ _ _ (k _ _ (rng_new al).1 (rng_new al (tk:=0)).2)
theorem KQ.range_2 {a b:Int}:KQ W n (.type "range") [.int a,.int b] (.rng a b 1):=by
  intro A hA s hot vs Q E _ al r k
  unfold Rds at r; obtain ⟨v,r',rfl,h1,h2⟩:=r
  unfold Rds at h2; obtain ⟨v',r'',rfl,h2,h3⟩:=h2; unfold Rds at h3; subst h3
  obtain ⟨t,rfl⟩:=rQ h1; obtain ⟨u,rfl⟩:=rQ h2
  exact @call_range_2 _ _ _ _ _ _ _ _ _ _ (k _ _ (rng_new al).1 (rng_new al (tk:=0)).2)
theorem KQ.range_3 {a b c:Int} (hc:c≠0) (hp:Builtin.divisionGoesByPylong (b - a) c = false):KQ W n (.type "range") [.int a,.int b,.int c] (.rng a b c):=by
  intro A hA s hot vs Q E _ al r k
  unfold Rds at r; obtain ⟨v,r',rfl,h1,h2⟩:=r
  unfold Rds at h2; obtain ⟨v',r'',rfl,h2,h3⟩:=h2
  unfold Rds at h3; obtain ⟨v'',r3,rfl,h3,h4⟩:=h3; unfold Rds at h4; subst h4
  obtain ⟨t,rfl⟩:=rQ h1; obtain ⟨u,rfl⟩:=rQ h2; obtain ⟨x,rfl⟩:=rQ h3
  exact @call_range_3 _ _ _ _ _ _ _ _ _ _ _ _ hc (k _ _ (rng_new al).1 (rng_new al (tk:=0)).2) (.inl hp)
theorem KQ.type_of {d:V} {T:String} (hT:HQ d T) (hb:(Value.type T == Value.type "builtin_function_or_method") = false):KQ W n (.type "type") [d] (.val (.type T)):=by
  intro A hA s hot vs Q E _ al r k
  unfold Rds at r; obtain ⟨v,r',rfl,h1,h2⟩:=r; unfold Rds at h2; subst h2
  exact @call_type_of _ _ _ _ _ _ _ _ (hT s hot v h1).1 hb (k _ _ (.refl s) mk_val)
end
noncomputable def rsub (l:List Nat) (c:Nat) (r:List Nat):List Nat:=l.flatMap fun x=>if x = c then r else [x]
theorem rsub_free (c:Nat) (r:List Nat):∀ l:List Nat,c ∉ l→rsub l c r = l
  | [],_=>rfl
  | k :: l,h=>by
    have h1:¬ k = c:=fun e=>h (e ▸ List.mem_cons_self ..)
    have h2:=rsub_free c r l fun m=>h (List.mem_cons_of_mem _ m)
    unfold rsub at h2 ⊢
    rw [List.flatMap_cons,if_neg h1,h2]; rfl
theorem rsub_append (c:Nat) (r a b:List Nat):rsub (a ++ b) c r = rsub a c r ++ rsub b c r:=by unfold rsub; rw [List.flatMap_append]
theorem rsub_join (c:Nat) (z:List Nat):∀ parts:List Str,(∀ p∈parts,c ∉ p.cps.toList)→rsub (Str.join ⟨#[c]⟩ parts).cps.toList c z = (Str.join (St z) parts).cps.toList
  | [],_=>rfl
  | [p],h=>rsub_free c z _ (h p (List.mem_singleton.mpr rfl))
  | p :: q :: r,h=>by
    have ih:=rsub_join c z (q :: r) fun a ha=>h a (List.mem_cons_of_mem _ ha)
    show rsub (p ++ ⟨#[c]⟩ ++ Str.join ⟨#[c]⟩ (q :: r)).cps.toList c z = (p ++ St z ++ Str.join (St z) (q :: r)).cps.toList
    simp only [Str.cps_append,Array.toList_append]
    rw [rsub_append,rsub_append,ih,rsub_free c z _ (h p (List.mem_cons_self ..))]
    simp [rsub,St]
theorem replace_St (l z:List Nat) (c:Nat):Txt.replace (St l) (St [c]) (St z) = St (rsub l c z):=by
  have h:Txt.replace (St l) ⟨#[c]⟩ (St z) = Str.join (St z) (Txt.split (St l) ⟨#[c]⟩):=StrLaws.replace_one _ _ _
  show Txt.replace (St l) ⟨#[c]⟩ (St z) = _
  rw [h]
  have h2:=rsub_join c z _ (StrLaws.split_free (St l) c)
  rw [StrLaws.join_split] at h2
  have h3:(St l).cps.toList = l:=by simp [St]
  rw [h3] at h2
  rw [h2]
  simp [St]
theorem isIn_one (l:List Nat) (c:Nat):isIn [c] l = decide (c∈l):=by
  unfold isIn Txt.contains
  have:=StrLaws.found_one (St l) c
  have h3:(St l).cps.toList = l:=by simp [St]
  rw [h3] at this
  exact this
noncomputable def joinL (sep:List Nat):List (List Nat)→List Nat
  | []=>[]
  | [x]=>x
  | x :: y :: r=>x ++ sep ++ joinL sep (y :: r)
theorem join_St (sep:List Nat) (ls:List (List Nat)):Txt.join (St sep) (ls.map St) = St (joinL sep ls):=by
  unfold Txt.join
  rw [StrLaws.glued_eq_join]
  induction ls with
  | nil=>rfl
  | cons x r ih=>
    cases r with
    | nil=>rfl
    | cons y r=>
      show St x ++ St sep ++ Str.join (St sep) ((y :: r).map St) = _
      rw [ih,St_app,St_app]; rfl
theorem jNQ:∀ ls:List (List Nat),joinL [] ls = ls.flatten
  | []=>rfl
  | [x]=>by simp [joinL]
  | x :: y :: r=>by rw [joinL,jNQ (y :: r)]; simp
theorem Put.same {x:Str} {t:Slot} {σ σ':Store} (h:Put x t σ σ'):(x,t)∈σ→(σ.map (·.1)).Nodup→σ' = σ:=by
  induction h with
  | here=>
    intro hm nd
    simp only [List.map_cons,List.nodup_cons] at nd
    rcases List.mem_cons.mp hm with e | hm
    · rw [e]
    · exact absurd (List.mem_map_of_mem (f:=(·.1)) hm) nd.1
  | there h ih=>
    intro hm nd
    simp only [List.map_cons,List.nodup_cons] at nd
    rcases List.mem_cons.mp hm with e | hm
    · have:=h.mem
      rw [← e] at nd
      exact absurd this nd.1
    · rw [ih hm nd.2]
section
variable {W:Wo} {n:Nat} {sc:Scope} {σ σ':Store}
theorem strs_of {h:Heap} {hot:Addr→Prop}:∀ {ls:List (List Nat)} {vs:List Value},Rds h hot (ls.map V.str) vs→∃ l:List (Str × Tok),vs = strValues l∧l.map (·.1) = ls.map St
  | [],vs,r=>by unfold Rds at r; subst r; exact ⟨[],rfl,rfl⟩
  | x :: ls,vs,r=>by
    simp only [List.map_cons] at r
    unfold Rds at r; obtain ⟨v,r',rfl,h1,h2⟩:=r
    obtain ⟨t,rfl⟩:=sQ h1
    obtain ⟨l,rfl,h3⟩:=strs_of h2
    exact ⟨(St x,t) :: l,rfl,by simp [h3]⟩
theorem KQ.join {sep:List Nat} {ls:List (List Nat)} (B:Nat) (hB:∀ y∈ls,y.length≤B) (hz:ls.length * B + ls.length * sep.length≤16777216) :
    KQ W n (.builtin "str.join") [.str sep,.list (ls.map V.str)] (.str (joinL sep ls)):=by
  intro A hA s hot vs Q E _ al r k
  unfold Rds at r; obtain ⟨v,r',rfl,h1,h2⟩:=r
  unfold Rds at h2; obtain ⟨v',r'',rfl,h2,h3⟩:=h2; unfold Rds at h3; subst h3
  obtain ⟨t,rfl⟩:=sQ h1
  obtain ⟨a,items,rfl,_,hl,hr⟩:=rd_list h2
  obtain ⟨l,e1,e2⟩:=strs_of hr
  have e3:items = (strValues l).toArray:=by rw [← e1]
  subst e3
  refine SC.join (PlainList.isList hl) e2 ?_ fun t' k'=>?_
  · unfold JoinOk
    rw [Bool.not_eq_true']
    exact StrLaws.joinFits (B:=B) (fun y hy=>by
      obtain ⟨x,hx,rfl⟩:=List.mem_map.mp hy
      rw [St_len]; exact hB x hx) (by rw [St_len,List.length_map]; exact hz)
  · rw [join_St]; exact k _ _ .tok mk_str
theorem meth_join:Meth "str" "join" "str.join":=⟨F.plainAttrs_str,F.slot_str_join,F.type_str_join⟩
theorem mRQ:Meth "str" "replace" "str.replace":=⟨F.plainAttrs_str,F.slot_str_replace,F.type_str_replace⟩
theorem meth_split:Meth "str" "split" "str.split":=⟨F.plainAttrs_str,F.slot_str_split,F.type_str_split⟩
theorem meth_encode:Meth "str" "encode" "str.encode":=⟨F.plainAttrs_str,F.slot_str_encode,F.type_str_encode⟩
theorem KQ.replace_none {l z:List Nat} {c:Nat} (hc:c ∉ l):KQ W n (.builtin "str.replace") [.str l,.str [c],.str z] (.str l):=by
  intro A hA s hot vs Q E _ al r k
  unfold Rds at r; obtain ⟨v,r',rfl,h1,h2⟩:=r
  unfold Rds at h2; obtain ⟨v',r'',rfl,h2,h3⟩:=h2
  unfold Rds at h3; obtain ⟨v'',r3,rfl,h3,h4⟩:=h3; unfold Rds at h4; subst h4
  obtain ⟨t,rfl⟩:=sQ h1; obtain ⟨u,rfl⟩:=sQ h2; obtain ⟨x,rfl⟩:=sQ h3
  have he:(Builtin.Str.occurrences (St l) (St [c]) 0 (St l).length ((St l).length + 1)).isEmpty = true:=by
    obtain ⟨f,h⟩:=StrLaws.occ_chain (St l) ⟨#[c]⟩ ((St l).length + 1)
    show (Builtin.Str.occurrences (St l) ⟨#[c]⟩ 0 (St l).length ((St l).length + 1)).isEmpty = true
    cases ho:Builtin.Str.occurrences (St l) ⟨#[c]⟩ 0 (St l).length ((St l).length + 1) with
    | nil=>rfl
    | cons i r=>
      rw [ho] at h
      have hm:=(StrLaws.subAt_one (St l) c i).mp h.2.1
      have hin:c∈(St l).cps.toList:=List.mem_of_getElem? hm
      exact absurd (by simpa [St] using hin) hc
  refine call_gives F.slot_str_replace (typeIs_str _ _ _) F.entry_str_replace (F.args_str_replace_3 _ _ _) (gives_str_replace (St l) (St [c]) (St z) t u x fun h=>?_) ?_
  · rw [he] at h; cases h
  · rw [he]
    simp only [Bool.true_or,if_true]
    exact k _ s (.refl s) mk_str
theorem replace_any {o:PySem.Expr} {apos pos p1 p2:Pos} {a b:String} {j1 j2:Nat} {env:Env} {A:Around} {s:Shared} {l z:List Nat} {c:Nat} {Q:Value→Shared→Prop} {E:Value→Shared→Prop}
    (hbase:attributeBase o "replace" env (eval o env) = eval o env) (hline:(apos.endLine == pos.line) = true) (ha:Str.ofString a = St [c]) (hb:Str.ofString b = St z) (hab:z≠[c])
    (hz:l.length + (l.length + 1) * z.length≤16777216)
    (hargs:∀ env,starEach [.Constant (.str (Str.ofString a)) j1 p1,.Constant (.str (Str.ofString b)) j2 p2] env = [(false,eval (.Constant (.str (Str.ofString a)) j1 p1) env),(false,eval (.Constant (.str (Str.ofString b)) j2 p2) env)])
    (h:wpAny (model W.prog W.w) A (eval o env) (fun v s₁=>∃ t,v = .str (St l) t∧1≤s₁.toks∧∀ t' k,Q (.str (St (rsub l c z)) t') { s₁ with toks:=k }) E s) :
    wpAny (model W.prog W.w) A (eval (.Call (.Attribute o "replace" apos) [.Constant (.str (Str.ofString a)) j1 p1,.Constant (.str (Str.ofString b)) j2 p2] [] pos) env) Q E s:=by
  refine wpAny_Call_method_lateS hbase ?_ hline (wpAny_mono h (fun v s₁ h₁=>?_) fun ψ ψ e=>e)
  · rw [hargs]; rfl
  obtain ⟨t,rfl,htk,hq⟩:=h₁
  refine ⟨"str","str.replace",mRQ.pa,mRQ.slot,mRQ.ty,typeIs_str _ _ _,fun ψ e=>(nomatch e),?_⟩
  refine Calls.callWith_builtin (by rw [hargs]; rfl) (evalArgs_any (by rw [hargs]; rfl) ?_)
  rw [hargs]
  refine Calls.spliced_cons ?_
  refine @wpAny_mkText _ _ _ _ _ _ ?_
  refine Calls.spliced_cons ?_
  refine @wpAny_mkText _ _ _ _ _ _ ?_
  refine wpAny_pure ?_
  have hne:((Str.ofString a) == (Str.ofString b)) = false:=by
    rw [ha,hb]
    refine beq_eq_false_iff_ne.mpr fun e=>hab ?_
    have:(St [c]).cps.toList = (St z).cps.toList:=by rw [e]
    simpa [St] using this.symm
  refine SC.replace (show s₁.toks≠0 by omega) (show s₁.toks + 1≠0 by omega) (show s₁.toks≠s₁.toks + 1 by omega) hne (by rw [hb,St_len,St_len]; exact hz) fun t' k=>?_
  rw [ha,hb,replace_St]
  exact hq t' k
theorem Runs.ifReplace {x:Str} {a a' b:String} {j0 j1 j2:Nat} {p0 p1 p2 px px' px'' pc apos cpos spos pos:Pos} {l z:List Nat} {c:Nat} (hm:(x,Slot.val (.str l))∈σ) (hp:Put x (.val (.str (rsub l c z))) σ σ') (hn:noApp x σ)
    (ha':Str.ofString a' = St [c]) (ha:Str.ofString a = St [c]) (hb:Str.ofString b = St z) (hab:z≠[c]) (hz:l.length + (l.length + 1) * z.length≤16777216)
    (hv:isVar sc x = true)
    (hbase:∀ env,attributeBase (.Name x px') "replace" env (eval (.Name x px') env) = eval (.Name x px') env) (hline:(apos.endLine == cpos.line) = true)
    (hargs:∀ env,starEach [.Constant (.str (Str.ofString a)) j1 p1,.Constant (.str (Str.ofString b)) j2 p2] env = [(false,eval (.Constant (.str (Str.ofString a)) j1 p1) env),(false,eval (.Constant (.str (Str.ofString b)) j2 p2) env)])
    (hs:∀ env,swapsWith (.Call (.Attribute (.Name x px') "replace" apos) [.Constant (.str (Str.ofString a)) j1 p1,.Constant (.str (Str.ofString b)) j2 p2] [] cpos) (some (.Name x px'')) spos.line env = pure false)
    (hk:behindInMarks .In (.Name x px) = false) :
    Runs W n sc (.If (.Compare (.Constant (.str (Str.ofString a')) j0 p0) [.In] [.Name x px] pc) [.Assign [.Name x px''] (.Call (.Attribute (.Name x px') "replace" apos) [.Constant (.str (Str.ofString a)) j1 p1,.Constant (.str (Str.ofString b)) j2 p2] [] cpos) spos] [] pos) σ (.next σ'):=
  ⟨fun env he A hA base out hot oa s Q E F k=>by
    refine wpAny_If (wpAny_isTrue_Compare1 (@wpAny_mkText _ _ _ _ _ _ ?_) hk)
    refine wpAny_with_toks (n:=1) (show 1≤s.toks + 1 by exact o20) ?_
    have F₀:Fm W env base out hot oa σ { s with toks:=s.toks + 1 }:=F.grown .tok
    refine (Ev.name hm hv).run env he A hA _ hot _ _ F₀.good fun v s₁ g₁ r₁ htk=>?_
    obtain ⟨t,rfl⟩:=sQ r₁
    refine @SB.contains _ _ _ _ _ _ _ _ _ _ (wpAny_truthy_bool ?_)
    have F₁:=F₀.grown g₁
    have hc:Txt.contains (St l) (Str.ofString a') = decide (c∈l):=by rw [ha']; exact isIn_one l c
    rw [hc]
    by_cases hin:c∈l
    · rw [decide_eq_true hin,if_pos rfl]
      refine wpAny_execs_cons (wpAny_Assign_Name ?_ (hs env))
      refine replace_any (hbase env) hline ha hb hab hz hargs ?_
      refine wpAny_with_toks htk ?_
      refine (Ev.name hm hv).run env he A hA _ hot _ _ F₁.good fun v s₂ g₂ r₂ htk₂=>?_
      obtain ⟨t₂,rfl⟩:=sQ r₂
      refine ⟨t₂,rfl,htk₂,fun t' k'=>?_⟩
      exact ((F₁.grown g₂).grown .tok).store hp (mk_str) hn fun s₃ F₃=>wpAny_execs_nil (k _ _ ⟨rfl,hot,oa,F₃⟩)
    · rw [decide_eq_false hin,if_neg Bool.false_ne_true]
      have e:rsub l c z = l:=rsub_free c z l hin
      refine wpAny_execs_nil (k _ _ ⟨rfl,hot,oa,?_⟩)
      have hσ:σ' = σ:=(e ▸ hp).same (by exact hm) F.nodup
      rw [hσ]; exact F₁⟩
end
section
variable {W:Wo} {n:Nat} {sc:Scope} {σ σ':Store}
theorem Runs.try {body:List Stmt} {h₀:ExceptHandler} {hs:List ExceptHandler} {pos:Pos} {r:Res} (h:RQ W n sc body σ r):Runs W n sc (.Try body (h₀ :: hs) [] [] pos) σ r:=
  ⟨fun env he A hA base out hot oa s Q E F k=>wpAny_Try_except (h.run env he A hA base out hot oa s _ _ F fun f s' x=>by
    cases r with
    | next σ'=>obtain ⟨rfl,x⟩:=x; exact wpAny_execs_nil (k _ _ ⟨rfl,x⟩)
    | cont σ'=>obtain ⟨rfl,x⟩:=x; exact k _ _ ⟨rfl,x⟩
    | brk σ'=>obtain ⟨rfl,x⟩:=x; exact k _ _ ⟨rfl,x⟩
    | ret d=>obtain ⟨v,rfl,x⟩:=x; exact k _ _ ⟨v,rfl,x⟩)⟩
theorem RQ.one {st:Stmt} {r:Res} (h:Runs W n sc st σ r):RQ W n sc [st] σ r:=
  ⟨fun env he A hA base out hot oa s Q E F k=>wpAny_execs_cons (h.run env he A hA base out hot oa s _ E F fun f s' x=>by
    cases r with
    | next σ'=>obtain ⟨rfl,x⟩:=x; exact wpAny_execs_nil (k _ _ ⟨rfl,x⟩)
    | cont σ'=>obtain ⟨rfl,x⟩:=x; exact k _ _ ⟨rfl,x⟩
    | brk σ'=>obtain ⟨rfl,x⟩:=x; exact k _ _ ⟨rfl,x⟩
    | ret d=>obtain ⟨v,rfl,x⟩:=x; exact k _ _ ⟨v,rfl,x⟩)⟩
end
theorem InS.free {τ σ:Store} {scope:Scope} {x:Str} {t:Slot} (h:(x,t)∈σ) (hf:(scope.names.lookup x == some .free) = true):(x,t)∈InS τ scope σ:=InS.out h hf
section
variable {W:Wo} {n:Nat} {sc scope:Scope} {σ σ':Store}
theorem EmitL.one {α:Type} {k:Str} {pos:Pos} {ifs:List PySem.Expr} {elt:PySem.Expr} (enc:α→V) (p:α→Bool) (f:α→V):∀ (xs:List α),
    (∀ x∈xs,Tests W n sc (InS [(k,.val (enc x))] scope σ) ifs (p x))→(∀ x∈xs,p x = true→Ev W n sc (InS [(k,.val (enc x))] scope σ) elt (f x)) →
    EmitL W n sc scope σ (.Name k pos) ifs (Emit W n sc scope σ elt []) (xs.map enc) [(k,.unset)] ((xs.filter p).map f)
  | [],_,_=>.nil
  | x :: xs,hT,hf=>by
    have ih:=EmitL.one (pos:=pos) enc p f xs (fun y hy=>hT y (List.mem_cons_of_mem _ hy)) (fun y hy=>hf y (List.mem_cons_of_mem _ hy))
    have hx:=hT x (List.mem_cons_self ..)
    have hb:Binds W sc (.Name k pos) (enc x) [(k,.unset)] [(k,.val (enc x))]:=Binds.name .here (noApp.unset .nil)
    rw [List.map_cons,List.filter_cons]
    cases hp:p x with
    | true=>
      rw [hp] at hx
      rw [if_pos rfl,List.map_cons]
      exact EmitL.yes (o:=[f x]) hb (.drop .nil) hx ⟨_,rfl,hf x (List.mem_cons_self ..) hp⟩ ih
    | false=>
      rw [hp] at hx
      rw [if_neg Bool.false_ne_true]
      exact EmitL.no hb (.drop .nil) hx ih
theorem EmitL.map {α:Type} {k:Str} {pos:Pos} {elt:PySem.Expr} (enc:α→V) (f:α→V) (xs:List α) (hf:∀ x∈xs,Ev W n sc (InS [(k,.val (enc x))] scope σ) elt (f x)) :
    EmitL W n sc scope σ (.Name k pos) [] (Emit W n sc scope σ elt []) (xs.map enc) [(k,.unset)] (xs.map f):=by
  have:=EmitL.one (k:=k) (pos:=pos) (ifs:=[]) (elt:=elt) enc (fun ψ=>true) f xs (fun x ψ=>Tests.nil) (fun x hx ψ=>hf x hx)
  have e:xs.filter (fun ψ=>true) = xs:=List.filter_eq_self.mpr fun ψ ψ=>rfl
  rwa [e] at this
theorem BQ.catL {a b:List V} (h:a.length + b.length≤16777216):BQ W .Add (.list a) (.list b) (.list (a ++ b)):=by
  intro A hA s hot v₁ v₂ Q E _ al r1 r2 k
  obtain ⟨l,items,rfl,_,hl,hr⟩:=rd_list r1
  obtain ⟨l2,items2,rfl,_,hl2,hr2⟩:=rd_list r2
  have hs1:items.size = a.length:=by rw [← hr.length]; simp
  have hs2:items2.size = b.length:=by rw [← hr2.length]; simp
  obtain ⟨n1,ho⟩:=hl
  obtain ⟨n2,ho2⟩:=hl2
  have hz:items.size + items2.size≤sizeLine:=by rw [hs1,hs2,sizeLine_eq]; exact h
  refine concat_meets ⟨_,ho,rfl⟩ ⟨_,ho2,rfl⟩ noFill_list_add seq_list_add PySem.F.slot_list_add PySem.F.entry_list_add (PySem.F.args_list_add_2 _ _) (PyProof.Rows.list_addW l l2 items items2 n1 n2 _ _ _ _ hz) ⟨ho,ho2,?_⟩
  have up:Sub s.heap (s.heap.push { cls:=.type "list",data:=.seq (items ++ items2) }):=fun b o e=>Heap.get?_push_of_some _ e
  refine k (.ref s.heap.objs.size) _ ⟨up,rfl,fun e=>e⟩ ?_
  unfold Rd
  exact ⟨_,items ++ items2,rfl,newIsHot al,⟨0,Heap.get?_push_size _ rfl⟩,by rw [Array.toList_append]; exact (hr.sub up).app (hr2.sub up)⟩
theorem CQ.eq_nil {a:List V}:CQ W .Eq (.list a) (.list []) a.isEmpty:=by
  intro A hA s hot v₁ v₂ Q E _ al r1 r2 k
  obtain ⟨l,items,rfl,_,hl,hr⟩:=rd_list r1
  obtain ⟨l2,items2,rfl,_,hl2,hr2⟩:=rd_list r2
  have hs1:items.size = a.length:=by rw [← hr.length]; simp
  have hs2:items2.size = 0:=by have:=hr2.length; simpa using this
  have hu:A.units < cLine:=hA.line
  cases a with
  | nil=>
    refine PySem.SeqAt.eq_listAt (e:=fun ψ=>true) (PlainList.isList hl) (PlainList.isList hl2) (by rw [hs1,hs2]; rfl) hu (fun j h1=>?_) ?_
    · rw [hs1] at h1; exact absurd h1 (Nat.not_lt_zero _)
    · rw [hs1]; exact k s (.refl s)
  | cons x a=>
    exact PySem.SeqAt.eq_list_lengthsAt (PlainList.isList hl) (PlainList.isList hl2) (by rw [hs1,hs2]; rfl) hu (k s (.refl s))
theorem str_beq_St (a b:List Nat):(St a == St b) = (a == b):=by
  rw [Bool.eq_iff_iff,beq_iff_eq,beq_iff_eq]
  refine ⟨fun e=>?_,fun e=>by rw [e]⟩
  have:(St a).cps.toList = (St b).cps.toList:=by rw [e]
  simpa [St] using this
theorem CQ.in_tup {x:List Nat} {ls:List (List Nat)}:CQ W .In (.str x) (.tup (ls.map V.str)) (ls.any (· == x)):=by
  intro A hA s hot v₁ v₂ Q E _ al r1 r2 k
  obtain ⟨t,rfl⟩:=sQ r1
  obtain ⟨l2,items2,rfl,_,hl2,hr2⟩:=rd_tup r2
  obtain ⟨l,e1,e2⟩:=strs_of hr2
  have e3:items2 = (strValues l).toArray:=by rw [← e1]
  subst e3
  let e:Value→Bool:=fun v=>match v with | .str y _=>y == St x | _=>false
  refine PySem.SeqAt.in_tupleAt e hl2 (fun y hy=>?_) ?_
  · have:y∈strValues l:=by simpa using hy
    obtain ⟨p,hp,rfl⟩:=List.mem_map.mp this
    exact (PyProof.Rows.eqGives_str p.1 (St x) p.2 t).at _ _
  · have:(strValues l).toArray.any e = ls.any (· == x):=by
      rw [List.any_toArray]
      unfold strValues
      rw [List.any_map]
      have:l.any (e ∘ fun p=>Value.str p.1 p.2) = (l.map (·.1)).any (· == St x):=by rw [List.any_map]; rfl
      rw [this,e2,List.any_map]
      congr 1
      funext z
      exact str_beq_St z x
    rw [this]
    exact k s (.refl s)
theorem ints_of {h:Heap} {hot:Addr→Prop}:∀ {ls:List Int} {vs:List Value},Rds h hot (ls.map V.int) vs→IntsAre vs ls
  | [],vs,r=>by unfold Rds at r; subst r; exact .nil
  | x :: ls,vs,r=>by
    simp only [List.map_cons] at r
    unfold Rds at r; obtain ⟨v,r',rfl,h1,h2⟩:=r
    obtain ⟨t,rfl⟩:=rQ h1
    exact .cons _ _ (ints_of h2)
noncomputable def octs (ns:List Int):List UInt8:=ns.map fun n=>n.toNat.toUInt8
theorem KQ.bytes {ns:List Int} (hr:∀ n∈ns,0≤n∧n < 256) (hz:ns.length≤16777216):KQ W n (.type "bytes") [.list (ns.map V.int)] (.bytes (octs ns)):=by
  intro A hA s hot vs Q E _ al r k
  unfold Rds at r; obtain ⟨v,r',rfl,h1,h2⟩:=r; unfold Rds at h2; subst h2
  obtain ⟨a,items,rfl,_,hl,hr'⟩:=rd_list h1
  refine call_bytes_ints (vs:=items.toList) (PlainList.isList hl) (ints_of hr') hr (by rw [hr'.length,List.length_map,sizeLine_eq]; exact hz) hA.handled fun h' t k' hk=>?_
  exact k _ _ (.mk' hk) mk_bytes
noncomputable def sumI:List Int→Int
  | []=>0
  | x :: xs=>x + sumI xs
end
noncomputable def Fn (W:Wo) (pw:Program) (i:Nat) (x:Str) (ps:List Str):Prop:=
  ∃ a fd,W.mg x = some (.ref a)∧IsDef W a fd (fbody (nth pw i))∧fd.scope = fQ (nth pw i)∧∀ vs:List Value,vs.length = ps.length→bindArgs fd ⟨vs,[]⟩ = pure (ps.zip vs)
section
variable {W:Wo} {n:Nat} {sc scope:Scope} {σ σ':Store} {pw:Program}
theorem Ev.fn {i:Nat} {x:Str} {ps:List Str} (ls:List Str) {args:List PySem.Expr} {p pos:Pos} {ds:List V} {c:V} (h:Fn W pw i x ps) (hg:isGlob sc x = true) (ha:Evs W (n + 1) sc σ args ds)
    (ok:okNames (fQ (nth pw i)) (ps ++ ls) = true) (hp:ps.length = ds.length) (hr:RQ W n (fQ (nth pw i)) (fbody (nth pw i)) (aQ ps ds ls) (.ret c)):Ev W (n + 1) sc σ (.Call (.Name x p) args [] pos) c:=by
  obtain ⟨a,fd,h1,h2,h3,h4⟩:=h
  exact Ev.call (Ev.glob hg h1) ha h2.callee (KQ.fn (ls:=ls) h2 (by rw [h3]; exact ok) hp h4 (by rw [h3]; exact hr))
theorem Evs.one {e:PySem.Expr} {d:V} (h:Ev W n sc σ e d) (hn:∀ env,starEach [e] env = (false,eval e env) :: starEach [] env):Evs W n sc σ [e] [d]:=.cons h .nil hn
end
theorem sl_map {α β:Type} (f:α→β) (l:List α) (lo hi st:Option Int):sl (l.map f) lo hi st = (sl l lo hi st).map f:=by
  unfold sl
  rw [List.length_map,List.map_filterMap]
  congr 1
  funext i
  rw [List.getElem?_map]
theorem clamp {x n:Nat} (h:x≤n):max 0 (min (x:Int) n) = x:=by
  rw [Int.min_eq_left (Int.ofNat_le.mpr h),Int.max_eq_right (Int.natCast_nonneg _)]
theorem neg_lt {b:Nat} (h:0 < b):-(b:Int) < 0:=by omega
theorem neg_add {b n:Nat} (h:b≤n):-(b:Int) + n = (n - b:Nat):=by omega
theorem not_neg (a:Nat):¬ ((a:Int) < 0):=Int.not_lt.mpr (Int.natCast_nonneg _)
theorem sl_nat {α:Type} (l:List α) {a b:Nat} (hab:a≤b) (hb:b≤l.length):sl l (some (a:Int)) (some (b:Int)) none = (l.drop a).take (b - a):=by
  unfold sl sliceBounds
  simp only [Option.getD_none,show (1:Int) > 0 by decide,if_true]
  rw [if_neg (not_neg a),if_neg (not_neg b),clamp (Nat.le_trans hab hb),clamp hb]
  exact picks1 l _ _ hb hab
theorem sl_to {α:Type} (l:List α) {b:Nat} (hb:b≤l.length):sl l none (some (b:Int)) none = l.take b:=by
  unfold sl sliceBounds
  simp only [Option.getD_none,show (1:Int) > 0 by decide,if_true]
  rw [if_neg (not_neg b),clamp hb]
  exact picks1 l 0 _ hb (Nat.zero_le _)
theorem sl_from {α:Type} (l:List α) {a:Nat} (ha:a≤l.length):sl l (some (a:Int)) none none = l.drop a:=by
  unfold sl sliceBounds
  simp only [Option.getD_none,show (1:Int) > 0 by decide,if_true]
  rw [if_neg (not_neg a),clamp ha]
  refine (picks1 l a l.length (Nat.le_refl _) ha).trans (List.take_of_length_le ?_)
  rw [List.length_drop]; exact Nat.le_refl _
theorem sl_less {α:Type} (l:List α) {a b:Nat} (h:a + b≤l.length) (hb:0 < b):sl l (some (a:Int)) (some (-(b:Int))) none = (l.drop a).take (l.length - b - a):=by
  unfold sl sliceBounds
  simp only [Option.getD_none,show (1:Int) > 0 by decide,if_true]
  rw [if_neg (not_neg a),if_pos (neg_lt hb),neg_add (Nat.le_trans (Nat.le_add_left ..) h),clamp (Nat.le_trans (Nat.le_add_right ..) h),clamp (Nat.sub_le ..)]
  exact picks1 l _ _ (Nat.sub_le ..) (Nat.le_sub_of_add_le h)
theorem sl_last {α:Type} (l:List α) {b:Nat} (h:b≤l.length) (hb:0 < b):sl l (some (-(b:Int))) none none = l.drop (l.length - b):=by
  unfold sl sliceBounds
  simp only [Option.getD_none,show (1:Int) > 0 by decide,if_true]
  rw [if_pos (neg_lt hb),neg_add h,clamp (Nat.sub_le ..)]
  refine (picks1 l _ l.length (Nat.le_refl _) (Nat.sub_le ..)).trans (List.take_of_length_le ?_)
  rw [List.length_drop]; exact Nat.le_refl _
theorem sl_len {α:Type} (l:List α) (lo hi:Option Int):(sl l lo hi none).length≤l.length:=pick_len l lo hi none
section
open Builtin Builtin.Str
section
variable {W:Wo} {n:Nat} {sc scope:Scope} {σ σ':Store}
structure Ev1 (W:Wo) (n:Nat) (sc:Scope) (σ:Store) (e:PySem.Expr) (d:V):Prop where
  run:∀ env,env.scope = sc→∀ A,Room A n→∀ s hot (Q:Value→Shared→Prop) E,Good W env σ hot s →
    (∀ v s',Grow s s'→1≤s'.toks→Rd s'.heap hot d v→Q v s')→wpAny (model W.prog W.w) A (eval e env) Q E s
theorem rds_strs {h:Heap} {hot:Addr→Prop}:∀ l:List (Str × Tok),Rds h hot (l.map fun p=>V.str p.1.cps.toList) (strValues l)
  | []=>.nil
  | (x,t) :: l=>by
    refine .cons ?_ (rds_strs l)
    have:x = St x.cps.toList:=by simp [St]
    show Rd h hot (.str x.cps.toList) (.str x t)
    have h:=@mk_str h hot x.cps.toList t
    rwa [← this] at h
noncomputable def splitL (l y:List Nat):List (List Nat):=(Txt.split (St l) (St y)).map fun x=>x.cps.toList
theorem KQ.split {l y:List Nat} (hy:y≠[]) (hz:l.length≤1000000):KQ W n (.builtin "str.split") [.str l,.str y] (.list ((splitL l y).map V.str)):=by
  intro A hA s hot vs Q E _ al r k
  unfold Rds at r; obtain ⟨v,r',rfl,h1,h2⟩:=r
  unfold Rds at h2; obtain ⟨v',r'',rfl,h2,h3⟩:=h2; unfold Rds at h3; subst h3
  obtain ⟨t,rfl⟩:=sQ h1; obtain ⟨u,rfl⟩:=sQ h2
  have hy':((St y).length == 0) = false:=by
    rw [St_len]; cases y with
    | nil=>exact absurd rfl hy
    | cons a y=>rfl
  have fin:∀ (lt:List (Str × Tok)) (tk:Nat),lt.map (·.1) = Txt.split (St l) (St y)→Q (.ref s.heap.objs.size) { s with toks:=tk,heap:=s.heap.push { cls:=.type "list",data:=.seq (strValues lt).toArray } }:=by
    intro lt tk e
    have up:Sub s.heap (s.heap.push { cls:=.type "list",data:=.seq (strValues lt).toArray }):=fun b o e=>Heap.get?_push_of_some _ e
    refine k _ _ (.mk' up) ?_
    have e2:(splitL l y).map V.str = lt.map fun p=>V.str p.1.cps.toList:=by
      unfold splitL
      rw [← e,List.map_map,List.map_map]; rfl
    rw [e2]
    unfold Rd
    exact ⟨_,_,rfl,newIsHot al,⟨0,Heap.get?_push_size _ rfl⟩,by rw [List.toList_toArray]; exact rds_strs lt⟩
  have hsz:(St l).length≤sizeLine:=by rw [St_len,sizeLine_eq]; exact o6 hz
  cases h1:(decide ((St l).length < (St y).length) || decide (strKind (St l) < strKind (St y)))
  · cases hf:(occurrences (St l) (St y) 0 (St l).length ((St l).length + 1)).isEmpty
    · have hsz2:(partsBetween (St l) (occurrences (St l) (St y) 0 (St l).length ((St l).length + 1)) (St y).length).length≤sizeLine:=by
        unfold partsBetween
        rw [List.length_map,List.length_zip,sizeLine_eq]
        have:=StrLaws.occ_length_le (St l) (St y) 0 (St l).length ((St l).length + 1)
        simp only [List.length_cons,List.length_map]
        rw [St_len] at this ⊢
        exact o27 hz this
      refine call_meets F.slot_str_split (typeIs_str _ _ _) F.entry_str_split (F.args_str_split_2 _ _) (meets_str_split_sep (St l) (St y) t u h1 hy' hf hsz hsz2) ?_
      show wants Q E _ { s with toks:=_,heap:=s.heap.push { cls:=.type "list",data:=.seq (strsFrom s.toks (partsBetween (St l) (occurrences (St l) (St y) 0 (St l).length ((St l).length + 1)) (St y).length)).toArray } }
      rw [strsFrom_eq]
      exact fin _ _ ((numbered_texts _ _).trans ((if_neg (ne_true_of_eq_false h1)).trans (if_neg (ne_true_of_eq_false hf))).symm)
    · exact call_meets F.slot_str_split (typeIs_str _ _ _) F.entry_str_split (F.args_str_split_2 _ _) (meets_str_split_not_found (St l) (St y) t u h1 hy' hf)
        (fin [(St l,t)] _ ((if_neg (ne_true_of_eq_false h1)).trans (if_pos hf)).symm)
  · exact call_meets F.slot_str_split (typeIs_str _ _ _) F.entry_str_split (F.args_str_split_2 _ _) (meets_str_split_cannot_occur (St l) (St y) t u h1)
      (fin [(St l,t)] _ (if_pos h1).symm)
end
end
noncomputable def boundObj (a:Addr):Obj:={ cls:=.type "builtin_function_or_method",data:=.fields #[.builtin "list.append",.ref a] }
theorem slot_mget:PySem.Slot "method_descriptor" "__get__" "method_descriptor.__get__":=
  .of (owner:="method_descriptor") (n:="__get__") (by rw [typeLookup_type,builtinLookup_eq_fast]; kernel_rfl) (by kernel_rfl) (by kernel_rfl) (by kernel_rfl)
    (by first | exact .inl (by kernel_rfl) | exact .inr (by kernel_rfl)) (by rw [isSubtype_type]; kernel_rfl)
theorem entry_mget:entryFor table "method_descriptor.__get__" = some Builtin.«method_descriptor.__get__»:=entryFor_of_tree (by kernel_rfl)
theorem args_mget (a b c:Value):argsOk "method_descriptor.__get__" ⟨[a,b,c],[]⟩:=by unfold argsOk; kernel_rfl
theorem sa:Manifest.signature? "list.append" = some ⟨.oneArg,"list.append","append",.self,[⟨"object",.posOnly,true⟩]⟩:=by
  rw [signature?_of (id:="list.append") (n:=['d','n','e','p','p','a']) (o:=['t','s','i','l']) (by kernel_rfl) F.owner_list]; kernel_rfl
theorem bk:builtinKind "list.append" = some .method:=by kernel_rfl
theorem va:Manifest.varargsMethods.contains "list.append" = false:=by kernel_rfl
theorem sl_module:isSubtype (.type "list") (.type "module") = pure false:=by rw [isSubtype_type]; kernel_rfl
theorem wp_check_append {prog:Program} {w:World} {A:Around} {E:Value→Shared→Prop} {s:Shared} {a:Addr} {v:Value} {Q:Unit→Shared→Prop} {xs:Array Value} {k:Nat} (hx:s.heap.get? a = some { cls:=.type "list",data:=.seq xs k }) (h:Q () s) :
    wpAny (model prog w) A (checkBoundCall "list.append" ⟨[.ref a,v],[]⟩) Q E s:=by
  have hT:s.TypeIs (.ref a) "list":=⟨_,hx,rfl⟩
  unfold checkBoundCall
  rw [sa]
  simp only [bk]
  refine KFB.if_not (by decide) ?_
  refine wpAny_bind (wpAny_isInstance (T:="list") (b:=false) hT sl_module ?_)
  rw [va]
  refine KFB.if_not rfl ?_
  refine wpAny_bind (wpAny_bind (m:=isType (.ref a)) ?_)
  show wpAny _ _ (do let o ← loadPart a (some headPart); pure (match o.data with | .cls _=>true | _=>false)) _ _ s
  refine wpAny_bind (AutoSeq1.wpAny_loadPart' hx (wpAny_pure (wpAny_pure ?_)))
  refine KFB.if_not rfl ?_
  refine wpAny_bind (wpAny_typeOf hT ?_)
  exact wpAny_of_eq (a:=()) (by kernel_rfl) h
section
variable {prog:Program} {w:World} {A:Around} {E:Value→Shared→Prop} {s:Shared}
theorem run_mget {a:Addr} {P:Fin→Shared→Prop} (hT:s.TypeIs (.ref a) "list") (h:P (.done (.ret (.ref s.heap.objs.size))) { s with heap:=s.heap.push (boundObj a) }) :
    wpAny (model prog w) A (Builtin.«method_descriptor.__get__» ⟨[.builtin "list.append",.ref a,.type "list"],[]⟩) P E s:=by
  unfold Builtin.«method_descriptor.__get__»
  refine wpAny_bind (wpAny_of_eq (a:=(.builtin "list.append",some (.ref a),some (.type "list"))) (by first | rfl | kernel_rfl) ?_)
  refine KFB.if_not (by kernel_rfl) ?_
  refine wpAny_bind (wpAny_bind (wpAny_of_eq (a:=(Str.ofString "append",Value.type "list")) (by first | rfl | kernel_rfl) ?_)) 
  refine wpAny_bind (wpAny_isInstance (T:="list") (b:=true) hT (by first | exact isSubtype_list_list | (rw [isSubtype_type]; kernel_rfl)) ?_)
  refine KFB.if_not rfl ?_
  refine wpAny_pure ?_
  exact wpAny_bind (wpAny_newObj_type (wpAny_pure h))
theorem lk_set:typeLookup (.type "method_descriptor") "__set__" = pure none:=by rw [typeLookup_type,builtinLookup_eq_fast]; kernel_rfl
theorem lk_del:typeLookup (.type "method_descriptor") "__delete__" = pure none:=by rw [typeLookup_type,builtinLookup_eq_fast]; kernel_rfl
theorem run_getattribute {a:Addr} {xs:Array Value} {k:Nat} {u:Tok} {P:Fin→Shared→Prop} (hx:s.heap.get? a = some { cls:=.type "list",data:=.seq xs k }) (h:P (.done (.ret (.ref s.heap.objs.size))) { s with heap:=s.heap.push (boundObj a) }) :
    wpAny (model prog w) A (Builtin.«object.__getattribute__» ⟨[.ref a,.str "append" u],[]⟩) P E s:=by
  obtain ⟨hp,g,d,tk,os⟩:=s
  have hT:(⟨hp,g,d,tk,os⟩:Shared).TypeIs (.ref a) "list":=⟨_,hx,rfl⟩
  have f1:=F.slot_list_append.lookup
  have f2:=F.type_list_append
  have f3:=slot_mget.lookup
  have f4:=lk_set
  have f5:=lk_del
  unfold Builtin.«object.__getattribute__»
  repeat (any_goals (first | assumption | ((with_reducible show wpAny _ _ (call (Value.builtin "method_descriptor.__get__") _ _) _ _ _); refine wpAny_call_entry slot_mget F.type_list_append entry_mget (run_mget hT ?_) (args_mget _ _ _)) | wp_step))
  refine ⟨_,rfl,wpAny_pure h⟩
theorem getAttr_append {a:Addr} {xs:Array Value} {k:Nat} {Q:Value→Shared→Prop} (hx:s.heap.get? a = some { cls:=.type "list",data:=.seq xs k })
    (h:∀ tk,Q (.ref s.heap.objs.size) { s with heap:=s.heap.push (boundObj a),toks:=tk }):wpAny (model prog w) A (getAttr (.ref a) "append" true) Q E s:=by
  obtain ⟨hp,g,d,tk,os⟩:=s
  have hT:∀ tk',(⟨hp,g,d,tk',os⟩:Shared).TypeIs (.ref a) "list":=fun ψ=>⟨_,hx,rfl⟩
  have f3:=F.slot_list_getattribute.lookup
  have f4:=F.slot_list_getattribute.bind (.ref a)
  have f5:=am_list_getattr_none
  unfold getAttr getAttrBy
  repeat (any_goals (first | assumption | exact hT _ | ((with_reducible show wpAny _ _ (call (Value.builtin "list.__getattribute__") _ _) _ _ _); refine wpAny_call_entry F.slot_list_getattribute (hT _) am_entry_list_getattribute (run_getattribute (xs:=xs) (k:=k) hx ?_) (F.args_list_getattribute_2 _ _)) | wp_step))
  refine ⟨_,rfl,?_⟩
  exact wpAny_pure (h _)
theorem quiet_append {as:Args}:(Code.builtin "list.append" as).quiet = true:=Code.quiet_builtin _ (by kernel_rfl)
theorem call_bound {x a:Addr} {o:Obj} {v:Value} {its:Array Value} {m:Nat} {Q:Value→Shared→Prop} (hx:s.heap.get? x = some o) (hc:o.cls = .type "builtin_function_or_method") (hd:o.data = .fields #[.builtin "list.append",.ref a])
    (ho:s.heap.get? a = some { cls:=.type "list",data:=.seq its m }) (hsz:its.size≤sizeLine)
    (h:∀ h',Heap.SameBut a s.heap h'→h'.get? a = some { cls:=.type "list",data:=.seq (its.push v) (m + 1) }→Q .none { s with heap:=h' }):wpAny (model prog w) A (call (.ref x) [v]) Q E s:=by
  refine wpAny_call (codeAny_of_tree ?_)
  show wpAny _ A.in1 (callAny (.ref x) ⟨[v],[]⟩) _ _ s
  simp only [callAny]
  refine wpAny_bind (wpAny_load hx ?_)
  rw [hd,hc]
  simp only [show (Value.type "builtin_function_or_method" == Value.type "method" || Value.type "builtin_function_or_method" == Value.type "builtin_function_or_method" || Value.type "builtin_function_or_method" == Value.type "method-wrapper") = true by decide,if_true]
  refine KFB.if_so (by decide) ?_
  refine wpAny_bind (wp_check_append ho ?_)
  refine wpAny_bind (wpAny_pure (wpAny_pure ?_))
  refine ⟨quiet_append,codeAny_builtin entry_list_append ?_⟩
  show wpAny _ _ (updateSeq a (·.push v) >>= fun ψ=>ret .none) _ _ s
  refine wpAny_bind ?_
  refine wpAny_updateSeq ho rfl (wpAny_pure (h _ (Heap.SameBut.update ..) ?_))
  rw [Heap.get?_update_self _ ho (by rw [PyProof.Rows.mapSeq_push]; rfl),PyProof.Rows.mapSeq_push]
theorem callWith_bound {pos:Pos} {u:Addr} {o:Obj} {vs:Array Value} {args:List (Bool × Sem Value)} {Q:Value→Shared→Prop} (hplain:args.any (·.1) = false)
    (h:wpAny (model prog w) A (evalArgs (.ref u) true args []) (fun x s₁=>(s₁.heap.get? u = some o∧o.cls = .type "builtin_function_or_method"∧o.data = .fields vs)∧wpAny (model prog w) A (call (.ref u) x.pos x.kw) Q E s₁) E s):wpAny (model prog w) A (callWith pos (.ref u) [] args []) Q E s:=by
  unfold callWith
  refine wpAny_bind (wpAny_holding (wpAny_mono h (fun x s₁ h₁=>wpAny_bind (wpAny_standAt ?_)) fun ψ ψ x=>x))
  obtain ⟨⟨ho,hc,hd⟩,hcall⟩:=h₁
  simp only [hplain,List.any_nil,Bool.or_false]
  refine wpAny_bind (m:=keeperOf (.ref u)) ?_
  unfold keeperOf
  refine wpAny_bind (wpAny_load ho ?_)
  rw [hd,hc]
  simp only [show (Value.type "builtin_function_or_method" != Value.type "method") = true by decide,show (Value.type "builtin_function_or_method" == Value.type "builtin_function_or_method" || Value.type "builtin_function_or_method" == Value.type "method-wrapper") = true by decide,if_true]
  refine wpAny_pure ?_
  exact wpAny_bind (wpAny_mono hcall (fun r s₂ hr=>wpAny_bind (wpAny_holding (wpAny_point (wpAny_pure hr)))) fun ψ ψ x=>x)
end
section
variable {W:Wo} {n:Nat} {sc:Scope} {σ σ':Store}
theorem Runs.assignApp {x y:Str} {p q apos pos:Pos} {ds:List V} (hm:(y,Slot.own ds)∈σ) (hp:Put x (.app y) σ σ') (hn:noApp x σ) (hs:∀ env,swapsWith (.Attribute (.Name y q) "append" apos) (some (.Name x p)) pos.line env = pure false) :
    Runs W n sc (.Assign [.Name x p] (.Attribute (.Name y q) "append" apos) pos) σ (.next σ'):=
  ⟨fun env he A hA base out hot oa s Q E F k=>by
    refine wpAny_Assign_Name ?_ (hs env)
    rw [arm_eval_Attribute]
    obtain ⟨items,_,⟨m,hl⟩,hr,ha,_⟩:=F.vars _ hm
    refine wpAny_bind (m:=attributeBase (.Name y q) "append" env (eval (.Name y q) env)) ?_
    show wpAny _ A (eval (.Name y q) env) _ _ s
    refine F.ownVar hm (wpAny_bind (wpAny_standAt (wpAny_bind (wpAny_holding (getAttr_append hl fun tk=>?_)))))
    refine wpAny_bind (wpAny_pure (wpAny_pure ?_))
    have g:Grow s { s with heap:=s.heap.push (boundObj (oa y)),toks:=tk }:=.mk' fun b o e=>Heap.get?_push_of_some _ e
    have F₁:=F.grown g
    have hb:¬ hot s.heap.objs.size:=newIsHot F.alive
    have eb:(s.heap.push (boundObj (oa y))).get? s.heap.objs.size = some (boundObj (oa y)):=Heap.get?_push_size _ rfl
    refine F₁.storeAny (oa':=oa) (hot':=hot) hp (fun ψ h=>h) F₁.hotnew F₁.alive (fun ψ ψ h=>h) (fun ψ ψ h=>h) (fun ψ ψ=>rfl) (fun p' hp' z hz ψ=>⟨fun e=>hn p' hp' (by rw [hz,e]),fun ψ ψ h=>h⟩) (fun h=>nomatch h) (fun h' hh hv=>?_) fun s' F'=>k _ _ ⟨rfl,hot,oa,F'⟩
    refine ⟨s.heap.objs.size,hv,⟨boundObj (oa y),?_,rfl,rfl⟩,hb⟩
    rw [hh _ (fun e=>hb (by rw [e]; exact F.nshot)) fun c hc hcc e=>hb ?_]
    · exact eb
    · obtain ⟨p',hp',e'⟩:=List.mem_map.mp hp.mem
      obtain ⟨c',_,h1,_,_,_,h5⟩:=F.cl p' hp' (by rw [e']; exact hc)
      rw [e',hcc] at h1
      cases h1
      rw [e]; exact h5⟩
theorem Runs.addCall {x y:Str} {p pos pos':Pos} {e:PySem.Expr} {ds:List V} {d:V} (hx:(x,Slot.app y)∈σ) (hm:(y,Slot.own ds)∈σ) (h:Ev W n sc σ e d) (hp:Put y (.own (ds ++ [d])) σ σ') (hz:ds.length≤1000000)
    (hn:∀ env,starEach [e] env = (false,eval e env) :: starEach [] env) :
    Runs W n sc (.Expr (.Call (.Name x p) [e] [] pos) pos') σ (.next σ'):=
  ⟨fun env he A hA base out hot oa s Q E F k=>by
    have hone:Evs W n sc σ [e] [d]:=Evs.cons h .nil hn
    refine wpAny_Expr_any (wpAny_Call_NameR ?_) F.notInter rfl
    obtain ⟨b,hvb,⟨o,ho,hoc,hod⟩,nb⟩:=F.vars _ hx
    have ev:∀ {Q:Value→Shared→Prop} {E:Value→Shared→Prop},Q (.ref b) s→wpAny (model W.prog W.w) A (eval (.Name x p) env) Q E s:=by
      intro Q E hq
      have hd:=isVar_1 (F.isv _ hx)
      rcases hvb with ⟨a,m,hn,hmx⟩ | ⟨a | a,c,hc,hcv⟩
      · exact wpAny_Name (wpAny_loadName_local F.kind a hn hmx hq) hd
      · exact wpAny_Name (wpAny_loadName_cell F.kind a hc hcv hq) hd
      · exact wpAny_Name (wpAny_loadName_free F.kind a hc hcv hq (isVar_2 (F.isv _ hx))) hd
    refine ev ?_
    refine callWith_bound (o:=o) (vs:=#[.builtin "list.append",.ref (oa y)]) (hone.plain env pos).1 (evalArgs_any (hone.plain env pos).1 (hone.run env he A hA s hot _ E pos F.good fun vs s₁ g r=>?_))
    refine ⟨⟨g.sub _ _ ho,hoc,hod⟩,?_⟩
    unfold Rds at r; obtain ⟨v,r',rfl,hv,hv'⟩:=r; unfold Rds at hv'; subst hv'
    have F₁:=F.grown g
    obtain ⟨items,_,⟨m,hl⟩,hr,_⟩:=F₁.vars _ hm
    have hz':items.size≤sizeLine:=by have:=hr.length; rw [Array.length_toList] at this; rw [this,sizeLine_eq]; exact o6 hz
    refine call_bound (g.sub _ _ ho) hoc hod hl hz' fun h' hs' ho'=>k _ _ ⟨rfl,hot,oa,F₁.writeOwn hm hp hs' ⟨_,ho'⟩ ?_⟩
    rw [Array.toList_push]
    exact hr.app (.cons hv .nil)⟩
end
theorem ob_mro:mroOf (.type "object") = pure [.type "object"]:=by rw [mroOf_type]; kernel_rfl
theorem ob_lookup_new:typeLookup (.type "object") "__new__" = pure (some (.builtin "object.__new__")):=by rw [typeLookup_type,builtinLookup_eq_fast]; kernel_rfl
theorem ob_slot_init:PySem.Slot "object" "__init__" "object.__init__":=
  .of (owner:="object") (n:="__init__") (by rw [typeLookup_type,builtinLookup_eq_fast]; kernel_rfl) (by kernel_rfl) (by kernel_rfl) (by kernel_rfl)
    (by first | exact .inl (by kernel_rfl) | exact .inr (by kernel_rfl)) (by rw [isSubtype_type]; kernel_rfl)
theorem ob_called:TypeCalled "object" "object.__new__" "object.__init__":=
  ⟨by kernel_rfl,by kernel_rfl,⟨_,_,ob_mro⟩,madeBy_type ob_mro ob_lookup_new (by kernel_rfl),by kernel_rfl,by rw [isSubtype_type]; kernel_rfl,ob_slot_init⟩
theorem ob_typeCall:checkTypeCall "object" ⟨[],[]⟩ = pure ():=by kernel_rfl
theorem ob_newCall:checkBuiltinCall "object.__new__" ⟨[.type "object"],[]⟩ = pure ():=by kernel_rfl
theorem ob_initArgs (v:Value):argsOk "object.__init__" ⟨[v],[]⟩:=by
  unfold argsOk; kernel_rfl
theorem ob_init (self:Value):Meets (Builtin.«object.__init__» ⟨[self],[]⟩) (fun ψ R s=>R (.ok (.ret .none)) s):=Meets.of_wp fun prog w A R s hq=>wpAny_pure ⟨_,rfl,hq⟩
theorem ob_new:Meets (Builtin.«object.__new__» ⟨[.type "object"],[]⟩) (fun A R s=>R (.ok (.ret (.ref s.heap.objs.size))) { s with heap:=s.heap.push { cls:=.type "object",data:=.plain } }):=
  Meets.of_wp fun prog w A R s hq=>by
    obtain ⟨hp,g,d,tk,os⟩:=s
    unfold Builtin.«object.__new__»
    refine wpAny_bind (wpAny_of_eq (a:=true) (by first | rfl | kernel_rfl) ?_)
    refine KFB.if_not rfl ?_
    refine KFB.if_not (by kernel_rfl) ?_
    refine wpAny_bind (wpAny_of_eq (a:=()) (by first | rfl | kernel_rfl) ?_)
    refine KFB.if_not rfl ?_
    refine KFB.if_not (c:=typeHasDict (Value.type "object")) (by kernel_rfl) ?_
    refine wpAny_bind (wpAny_pure ?_)
    refine wpAny_bind (wpAny_newObj_type ?_)
    refine KFB.if_not (c:=diesByItsTypesDel "object") (by kernel_rfl) ?_
    exact wpAny_pure ⟨_,rfl,hq⟩
theorem ob_entry:entryFor table "object.__new__" = some Builtin.«object.__new__»:=entryFor_of_tree (by kernel_rfl)
theorem call_object {prog:Program} {w:World} {A:Around} {E:Value→Shared→Prop} {s:Shared} {Q:Value→Shared→Prop}
    (h:Q (.ref s.heap.objs.size) { s with heap:=s.heap.push { cls:=.type "object",data:=.plain } }):wpAny (model prog w) A (call (.type "object") []) Q E s:=
  callType_meets (Q₁:=fun obj s₁=>obj = .ref s.heap.objs.size∧s₁ = { s with heap:=s.heap.push { cls:=.type "object",data:=.plain } }) ob_called ob_typeCall ob_newCall ob_entry F.entry_object_init ob_new ⟨rfl,rfl⟩ fun obj s₁ hq=>by
    obtain ⟨rfl,rfl⟩:=hq
    exact ⟨⟨_,Heap.get?_push_size _ rfl,rfl⟩,ob_initArgs _,_,ob_init _,rfl,h⟩
section
variable {W:Wo} {n:Nat}
theorem KQ.object:KQ W n (.type "object") [] .obj:=by
  intro A hA s hot vs Q E _ al r k
  unfold Rds at r; subst r
  exact call_object (k _ _ ⟨fun b o e=>Heap.get?_push_of_some _ e,rfl,fun e=>e⟩ mk_obj)
theorem CQ.isNot_obj {l:List Nat}:CQ W .IsNot (.str l) .obj true:=by
  intro A hA s hot v₁ v₂ Q E _ _ r1 r2 k
  obtain ⟨t,rfl⟩:=sQ r1
  obtain ⟨a,rfl⟩:=rd_obj r2
  exact wpAny_isNot_other rfl (fun e=>nomatch e) (k s (.refl s))
end
noncomputable def FnKw (W:Wo) (pw:Program) (i:Nat) (x p k:Str):Prop:=
  ∃ a fd,W.mg x = some (.ref a)∧IsDef W a fd (fbody (nth pw i))∧fd.scope = fQ (nth pw i)∧∀ s,Sub W.B s.heap→∀ u v:Value,BindsTo s fd ⟨[u],[(k,v)]⟩ [(p,u),(k,v)]
noncomputable def FnDf (W:Wo) (pw:Program) (i:Nat) (x:Str) (ps:List Str) (m:Nat) (ex:List Value):Prop:=
  ∃ a fd,W.mg x = some (.ref a)∧IsDef W a fd (fbody (nth pw i))∧fd.scope = fQ (nth pw i)∧∀ s,Sub W.B s.heap→∀ vs:List Value,vs.length = m→BindsTo s fd ⟨vs,[]⟩ (ps.zip (vs ++ ex))
section
variable {W:Wo} {n:Nat} {sc scope:Scope} {σ σ':Store} {pw:Program}
theorem Ev.fnKw {i:Nat} {x q k:Str} (ls:List Str) {e e2:PySem.Expr} {p p2 pos:Pos} {d d2:V} {c:V} (h:FnKw W pw i x q k) (hg:isGlob sc x = true) (ha:Ev W (n + 1) sc σ e d) (hb:Ev W (n + 1) sc σ e2 d2)
    (hn:∀ env,starEach [e] env = (false,eval e env) :: starEach [] env)
    (ok:okNames (fQ (nth pw i)) ([q,k] ++ ls) = true) (hr:RQ W n (fQ (nth pw i)) (fbody (nth pw i)) (aQ [q,k] [d,d2] ls) (.ret c)):Ev W (n + 1) sc σ (.Call (.Name x p) [e] [⟨some k,e2,p2⟩] pos) c:=
  ⟨fun env he A hA s hot Q E g kk=>by
    obtain ⟨a,fd,h1,h2,h3,h4⟩:=h
    obtain ⟨o,ho,hd⟩:=h2.get
    refine wpAny_Call_Name_kw ((Ev.glob (W:=W) (n:=n + 1) (σ:=σ) (pos:=p) hg h1).run env he A hA s hot _ E g fun v s₁ g₁ r₁=>?_)
    cases rd_val r₁
    refine callWith_function_kw (o:=o) (fd:=fd) (PyProof.Rows.evalArgs_kw2 (by rfl) ?_ (hn env))
    have hone:Evs W (n + 1) sc σ [e] [d]:=Evs.one ha hn
    refine hone.run env he A hA s₁ hot _ E pos (g.grow g₁) fun vs s₂ g₂ r₂=>?_
    refine PyProof.Rows.kwAll_cons (hb.run env he A hA s₂ hot _ E ((g.grow g₁).grow g₂) fun v s₃ g₃ r₃=>PyProof.Rows.kwAll_nil ?_)
    have G₃:=((g.grow g₁).grow g₂).grow g₃
    refine ⟨⟨G₃.base _ _ ho,hd⟩,?_⟩
    unfold Rds at r₂; obtain ⟨u,r',rfl,hu,hu'⟩:=r₂; unfold Rds at hu'; subst hu'
    show wpAny _ A (PySem.call (Value.ref a) [u] [(k,v)]) Q E s₃
    refine wpAny_call (code_fn h2 (ps:=[q,k]) (ls:=ls) (ds:=[d,d2]) (vs:=[u,v]) (by rw [h3]; exact ok) rfl (by rw [h3]; exact hr) hA G₃.base G₃.alive (.cons (hu.sub g₃.sub) (.cons r₃ .nil)) (h4 s₃ G₃.base u v) fun v' s' g' r'=>?_)
    exact kk v' s' (((g₁.trans g₂).trans g₃).trans g') r'⟩
theorem Ev.fnDf {i:Nat} {x:Str} {ps:List Str} (ls:List Str) {m:Nat} {ex:List Value} {es:List V} {args:List PySem.Expr} {p pos:Pos} {ds:List V} {c:V} (h:FnDf W pw i x ps m ex) (hex:∀ h hot,Rds h hot es ex) (hm:ds.length = m) (hg:isGlob sc x = true) (ha:Evs W (n + 1) sc σ args ds)
    (ok:okNames (fQ (nth pw i)) (ps ++ ls) = true) (hp:ps.length = (ds ++ es).length) (hr:RQ W n (fQ (nth pw i)) (fbody (nth pw i)) (aQ ps (ds ++ es) ls) (.ret c)):Ev W (n + 1) sc σ (.Call (.Name x p) args [] pos) c:=by
  obtain ⟨a,fd,h1,h2,h3,h4⟩:=h
  refine Ev.call (Ev.glob hg h1) ha h2.callee ?_
  intro A hA s hot vs Q E hB al hrd k
  refine wpAny_call (code_fn h2 (ps:=ps) (ls:=ls) (ds:=ds ++ es) (vs:=vs ++ ex) (by rw [h3]; exact ok) hp (by rw [h3]; exact hr) hA hB al (hrd.app (hex _ _)) (h4 s hB vs (by rw [hrd.length,hm])) fun v s' g r=>?_)
  exact k v s' g r
end
section
variable {W:Wo} {n:Nat} {sc scope:Scope} {σ σ':Store}
theorem JQ.bytes {l:List UInt8}:JQ W (.bytes l) (l.map fun c=>.int (c.toNat:Nat)):=⟨fun A hA s hot v Q E hb al r k=>by
  obtain ⟨t,rfl⟩:=rd_bytes r
  have sz:l.toArray.size = (l.map fun c=>V.int (c.toNat:Nat)).length:=by simp
  have val:∀ (i:Nat) (v:Value) (x:V),(∃ (c:UInt8) (u:Tok),l.toArray[i]? = some c∧v = .int (c.toNat:Int) u)→(l.map fun (c:UInt8)=>V.int (c.toNat:Nat))[i]? = some x→Rd s.heap hot x v:=by
    intro i v x ⟨c,u,h1,h2⟩ hx
    have h1':l[i]? = some c:=by simpa using h1
    rw [List.getElem?_map,h1'] at hx
    simp at hx; subst hx; subst h2
    exact mk_int
  refine KBw.pyIter_bytes (k _ _ ⟨fun b o e=>Heap.get?_push_of_some _ e,rfl,fun e=>e⟩ ⟨s.heap.objs.size,[s.heap.objs.size],_,fun i h=>KBw.IsBytesIter h s.heap.objs.size l.toArray t i,rfl,by rw [← sz]; exact KBw.walks hA.handled _ _ t,fun i h st=>?_,⟨_,Heap.get?_push_size _ rfl,rfl,rfl⟩,?_,gNQ _,val⟩)
  · obtain ⟨o,e,c,_⟩:=st; exact ⟨fun b hb=>by rw [List.mem_singleton.mp hb]; exact ⟨o,e⟩,o,_,e,c,by decide⟩
  · intro b hb' hn; rcases List.mem_cons.mp hb' with e | hb'; exact absurd e hn; cases hb'⟩
theorem IQ.bytes {l:List UInt8} {i:Int} {k:Nat} (hi:i = k) (hk:k < l.length) (hz:l.length≤1000000):IQ W (.bytes l) (.int i) (.int ((l.getD k 0).toNat:Nat)):=by
  subst hi
  intro A hA s hot v₁ v₂ Q E hb al r1 r2 kk
  obtain ⟨t,rfl⟩:=rd_bytes r1; obtain ⟨u,rfl⟩:=rQ r2
  exact ⟨"bytes",_,FB.slot_bytes_getitem.lookup,typeIs_bytes _ _ _,getItem_bytes (by omega) (by exact o28) (by exact o29 hk) (kk _ _ .tok (by rw [Int.toNat_natCast]; exact mk_int))⟩
theorem Ev.as {e:PySem.Expr} {d d':V} (h:Ev W n sc σ e d) (hd:∀ h hot v,Rd h hot d v→Rd h hot d' v):Ev W n sc σ e d':=
  ⟨fun env he A hA s hot Q E g k=>h.run env he A hA s hot Q E g fun v s' g' r=>k v s' g' (hd _ _ _ r)⟩
theorem Ev.globBytes {x:Str} {pos:Pos} {l:List UInt8} (hv:isGlob sc x = true) (hm:∃ t,W.mg x = some (.bytes l.toArray t)):Ev W n sc σ (.Name x pos) (.bytes l):=by
  obtain ⟨t,hm⟩:=hm
  exact Ev.as (Ev.glob hv hm) fun h hot v r=>by cases rd_val r; exact mk_bytes
theorem bitOr_nat (a b:Nat):Builtin.bitOr (a:Int) (b:Int) = ((a ||| b:Nat):Int):=by
  rw [bitOr_and,bitAnd_pp (by exact o28) (by exact o28),Int.toNat_natCast,Int.toNat_natCast]
  have:=nat_or_add_and a b
  omega
theorem bitAnd_nat (a b:Nat):Builtin.bitAnd (a:Int) (b:Int) = ((a &&& b:Nat):Int):=by
  rw [bitAnd_pp (by exact o28) (by exact o28),Int.toNat_natCast,Int.toNat_natCast]
theorem BQ.mask {a:Nat} {m:Int} (k:Nat) (hm:m = ((2 ^ k - 1:Nat):Int)):BQ W .BitAnd (.int a) (.int m) (.int (a % 2 ^ k:Nat)):=by
  have:=BQ.and (W:=W) (a:=a) (b:=m)
  subst hm
  rwa [bitAnd_nat,Nat.and_two_pow_sub_one_eq_mod] at this
theorem BQ.orLow {a b:Nat} (k:Nat) (ha:a % 2 ^ k = 0) (hb:b < 2 ^ k):BQ W .BitOr (.int a) (.int b) (.int (a + b:Nat)):=by
  have:=BQ.or (W:=W) (a:=a) (b:=b)
  rw [bitOr_nat] at this
  have e:a ||| b = a + b:=by
    have h:=Nat.shiftLeft_add_eq_or_of_lt hb (a / 2 ^ k)
    rw [Nat.shiftLeft_eq,Nat.div_mul_cancel (Nat.dvd_of_mod_eq_zero ha)] at h
    exact h.symm
  rwa [e] at this
theorem BQ.shlN {a:Nat} {m:Int} (k:Nat) (hm:m = k) (hk:k≤1000000) (ha:a < 2 ^ 64):BQ W .LShift (.int a) (.int m) (.int (a * 2 ^ k:Nat)):=by
  subst hm
  have:=BQ.shl (W:=W) (a:=a) (b:=k) (by exact o28) (by omega) (by simpa using ha)
  rw [Int.toNat_natCast] at this
  have e:((a * 2 ^ k:Nat):Int) = (a:Int) * 2 ^ k:=by push_cast; rfl
  rw [e]; exact this
theorem BQ.shrN {a:Nat} {m:Int} (k:Nat) (hm:m = k):BQ W .RShift (.int a) (.int m) (.int (a / 2 ^ k:Nat)):=by
  subst hm
  have:=BQ.shr (W:=W) (a:=a) (b:=k) (by exact o28)
  rw [Int.toNat_natCast] at this
  have e:((a / 2 ^ k:Nat):Int) = (a:Int).fdiv (2 ^ k):=by
    rw [show ((2:Int) ^ k) = ((2 ^ k:Nat):Int) by push_cast; rfl]
    rw [← Int.ofNat_fdiv]
  rw [e]; exact this
theorem HQ.bool {b:Bool}:HQ (.bool b) "bool":=fun s hot v r=>by
  cases rd_bool r
  exact ⟨rfl,fun a e=>nomatch e⟩
end
noncomputable def b64S (k:Nat):Nat:=(b64L.getD k 0).toNat
structure Bs where
  out:List Nat
  bits:Nat
  ch:Nat
noncomputable def feed (s:Bs) (b:UInt8):Bs:=
  let ch:=(s.ch * 2 ^ 8 + b.toNat) % 2 ^ 16
  match s.bits with
  | 0=>⟨s.out ++ [b64S (ch / 2 ^ 2 % 2 ^ 6)],2,ch⟩
  | 2=>⟨s.out ++ [b64S (ch / 2 ^ 4 % 2 ^ 6)],4,ch⟩
  | _=>⟨s.out ++ [b64S (ch / 2 ^ 6 % 2 ^ 6),b64S (ch / 2 ^ 0 % 2 ^ 6)],0,ch⟩
noncomputable def fAQ (l:List UInt8):Bs:=l.foldl feed ⟨[],0,0⟩
theorem feedAll_snoc (l:List UInt8) (b:UInt8):fAQ (l ++ [b]) = feed (fAQ l) b:=by unfold fAQ; rw [List.foldl_append]; rfl
theorem b64S_lt (k:Nat):b64S k < 256:=(b64L.getD k 0).toNat_lt
noncomputable def BsOk (s:Bs) (m:Nat):Prop:=(s.bits = 0∨s.bits = 2∨s.bits = 4)∧s.ch < 65536∧s.out.length≤2 * m∧∀ k∈s.out,k < 256
theorem feed_ok {s:Bs} {m:Nat} (h:BsOk s m) (b:UInt8):BsOk (feed s b) (m + 1):=by
  obtain ⟨h1,h2,h3,h5⟩:=h
  have h4:∀ x:Nat,x % 2 ^ 16 < 65536:=fun x=>Nat.mod_lt _ (by decide)
  unfold feed
  have h6:∀ (l:List Nat),(∀ k∈l,k < 256)→∀ k∈s.out ++ l,k < 256:=fun l hl k hk=>by
    rcases List.mem_append.mp hk with q | q
    · exact h5 k q
    · exact hl k q
  rcases h1 with e | e | e <;> rw [e] <;> refine ⟨by simp,h4 _,?_,h6 _ ?_⟩ <;> first | (simp; (first | exact o34 h3 | exact o35 h3)) | (intro k hk; simp only [List.mem_cons,List.not_mem_nil,or_false] at hk; first | (rw [hk]; exact b64S_lt _) | (rcases hk with q | q <;> rw [q] <;> exact b64S_lt _))
theorem feedAll_ok:∀ l:List UInt8,BsOk (fAQ l) l.length:=by
  have:∀ (l:List UInt8) (s:Bs) (m:Nat),BsOk s m→BsOk (l.foldl feed s) (m + l.length):=by
    intro l
    induction l with
    | nil=>intro s m h; exact h
    | cons b l ih=>
      intro s m h
      have:=ih (feed s b) (m + 1) (feed_ok h b)
      rw [List.length_cons,show m + (l.length + 1) = m + 1 + l.length by exact o36]
      exact this
  intro l
  have:=this l ⟨[],0,0⟩ 0 ⟨.inl rfl,by decide,by simp,by simp⟩
  rwa [Nat.zero_add] at this
section
variable {W:Wo} {n:Nat} {sc:Scope} {σ σ':Store}
theorem RQ.forget {sts:List Stmt} {r:Res} (hw:Wk σ σ') (h:RQ W n sc sts σ' r):RQ W n sc sts σ r:=
  ⟨fun env he A hA base out hot oa s Q E F k=>h.run env he A hA base out hot oa s Q E (F.forget hw) k⟩
theorem WhL.inv {t:PySem.Expr} {body:List Stmt} (P:Nat→Store→Prop) (N:Nat) (step:∀ i σ,i < N→P i σ→EvT W n sc σ t true∧∃ σ',RQ W n sc body σ (.next σ')∧P (i + 1) σ') (last:∀ σ,P N σ→EvT W n sc σ t false) :
    ∀ (k i:Nat) (σ:Store),i + k = N→P i σ→∃ σ',P N σ'∧WhL W n sc t body k σ (.next σ')
  | 0,i,σ,e,h=>by
    have:i = N:=by omega
    subst this
    exact ⟨σ,h,.done (last σ h)⟩
  | k + 1,i,σ,e,h=>by
    obtain ⟨h1,σ',h2,h3⟩:=step i σ (by exact o30 e) h
    obtain ⟨σ₂,h4,h5⟩:=WhL.inv P N step last k (i + 1) σ' (by exact o31 e) h3
    exact ⟨σ₂,h4,.next h1 h2 h5⟩
theorem RQ.whileInv {t:PySem.Expr} {body:List Stmt} {pos:Pos} {sts:List Stmt} {r:Res} (P:Nat→Store→Prop) (N:Nat) (h0:P 0 σ) (step:∀ i σ,i < N→P i σ→EvT W n sc σ t true∧∃ σ',RQ W n sc body σ (.next σ')∧P (i + 1) σ') (last:∀ σ,P N σ→EvT W n sc σ t false)
    (rest:∀ σ,P N σ→RQ W n sc sts σ r):RQ W n sc (.While t body [] pos :: sts) σ r:=by
  obtain ⟨σ',h1,h2⟩:=WhL.inv P N step last N 0 σ (by exact o32) h0
  exact RQ.cons (Runs.while h2) (rest σ' h1)
theorem Ev.fstr {a b:String} {j1 j2:Nat} {p1 p2 p3 pos:Pos} {e:PySem.Expr} {l:List Nat} (h:Ev W n sc σ e (.str l)) (hz:(L a).length + l.length + (L b).length≤1000000) :
    Ev W n sc σ (.JoinedStr [.Constant (.str (Str.ofString a)) j1 p1,.FormattedValue e (-1) Option.none p2,.Constant (.str (Str.ofString b)) j2 p3] pos) (.str (L a ++ l ++ L b)):=
  ⟨fun env he A hA s hot Q E g k=>by
    refine wpAny_JoinedStr ?_
    show Joins _ _ _ [eval (.Constant (.str (Str.ofString a)) j1 p1) env,eval (.FormattedValue e (-1) Option.none p2) env,eval (.Constant (.str (Str.ofString b)) j2 p3) env] Str.empty _ s
    have ea:Str.empty ++ Str.ofString a = St (L a):=by rw [Str.empty_append,ofString_L]
    have eb:St (L a ++ l) ++ Str.ofString b = St (L a ++ l ++ L b):=by rw [ofString_L b,St_app]
    unfold Joins
    refine @wpAny_mkText _ _ _ _ _ _ ?_
    refine ⟨_,_,rfl,by rw [ea,St_len,sizeLine_eq]; omega,?_⟩
    rw [ea]
    unfold Joins
    have g₁:Grow s { s with toks:=s.toks + 1 }:=.tok
    refine wpAny_FormattedValue_plain (h.run env he A hA _ hot _ E (g.grow g₁) fun v s₂ g₂ r₂=>?_)
    obtain ⟨t,rfl⟩:=sQ r₂
    have fin:∀ s₃:Shared,Grow s₂ s₃→∃ y u,(Value.str (St l) t:Value) = .str y u∧(St (L a) ++ y).length≤sizeLine∧Joins (model W.prog W.w) A E [eval (.Constant (.str (Str.ofString b)) j2 p3) env] (St (L a) ++ y) (fun out s₁=>out.length≤sizeLine∧Q (.str out s₁.toks) { s₁ with toks:=s₁.toks + 1 }) s₃:=by
      intro s₃ g₃
      refine ⟨St l,t,rfl,by rw [St_app,St_len,List.length_append,sizeLine_eq]; omega,?_⟩
      rw [St_app]
      unfold Joins
      refine @wpAny_mkText _ _ _ _ _ _ ?_
      refine ⟨_,_,rfl,by rw [eb,St_len,sizeLine_eq]; simp only [List.length_append]; exact o33 hz,?_⟩
      rw [eb]
      unfold Joins
      exact ⟨by rw [St_len,sizeLine_eq]; simp only [List.length_append]; exact o33 hz,k _ _ ((((g₁.trans g₂).trans g₃).trans .tok).trans .tok) mk_str⟩
    refine wpAny_formatField_str (fin s₂ (.refl _)) ?_ (by rw [St_len,sizeLine_eq]; omega)
    obtain ⟨y,u,e1,e2,e3⟩:=fin { s₂ with toks:=s₂.toks + 1 } .tok
    cases e1
    exact ⟨St l,s₂.toks,rfl,e2,e3⟩⟩
end
theorem mem_two {α:Type} {P:α→Prop} {a b:α} (h1:P a) (h2:P b):∀ x,x∈[a,b]→P x
  | _,.head _=>h1
  | _,.tail _ (.head _)=>h2
theorem mem_three {α:Type} {P:α→Prop} {a b c:α} (h1:P a) (h2:P b) (h3:P c):∀ x,x∈[a,b,c]→P x
  | _,.head _=>h1
  | _,.tail _ (.head _)=>h2
  | _,.tail _ (.tail _ (.head _))=>h3
theorem nat_succ_ne (n:Nat):n + 1≠n:=Nat.succ_ne_self n
theorem nat_lt_ne {a b:Nat} (h:a < b):a≠b:=Nat.ne_of_lt h
structure EnI (W:Wo) (A:Around) (hot:Addr→Prop) (s₀ s:Shared) (e it l:Addr) (items:Array Value) (xs:List V):Prop where
  hei:e≠it
  hle:l≠e
  hli:l≠it
  st:(∃ old,IsEnum s.heap e it 0 old)∧s.heap.IsListIter it l 0∧s.heap.IsList l items
  nl:¬ hot l
  fe:s₀.heap.get? e = none
  fi:s₀.heap.get? it = none
  rd:Rds s₀.heap hot xs items.toList
section
variable {W:Wo} {n:Nat} {sc:Scope} {σ σ':Store} {env:Env} {A:Around} {elts:List PySem.Expr} {ek:Nat} {ep:Pos} {body:List Stmt} {base:Shared} {out hot:Addr→Prop} {oa:Str→Addr} {s:Shared}
noncomputable def enSt (e it l:Addr) (items:Array Value) (i:Nat) (h:Heap):Prop:=(∃ old,IsEnum h e it i old)∧h.IsListIter it l i∧h.IsList l items
noncomputable def EnInv (W:Wo) (n:Nat) (sc:Scope) (env:Env) (t:PySem.Expr) (body:List Stmt) (xs:List V) (r:Res) (base:Shared) (out:Addr→Prop) (e it l:Addr) (items:Array Value) (m:Nat) (s:Shared):Prop:=
  ∃ i σ hot oa,i≤xs.length∧m = xs.length - i∧ForL W n sc t body ((xs.zipIdx.map fun p=>V.tup [.int (p.2:Nat),p.1]).drop i) σ r∧Fm W env base out hot oa σ s∧enSt e it l items i s.heap∧(∀ b∈[e,it,l],b ∉ mutL env σ oa)∧hot e∧hot it∧base.heap.get? e = none∧base.heap.get? it = none ∧
    Rds s.heap hot xs items.toList
theorem enSt.live {e it l:Addr} {items:Array Value} {i:Nat} {h:Heap} (st:enSt e it l items i h):∀ b∈[e,it,l],∃ o,h.get? b = some o:=by
  obtain ⟨⟨old,h1⟩,⟨o,h2,_⟩,⟨o',h3,_⟩⟩:=st
  intro b hb
  simp only [List.mem_cons,List.not_mem_nil,or_false] at hb
  rcases hb with rfl | rfl | rfl
  · exact ⟨_,h1⟩
  · exact ⟨_,h2⟩
  · exact ⟨_,h3⟩
theorem en_loop {n:Nat} {σ:Store} {xs:List V} {r:Res} {s₀:Shared} {e it l:Addr} {items:Array Value} {R:Result→Shared→Prop} (he:env.scope = sc) (hA:Room A n)
    (hL:ForL W n sc (.Tuple elts ek ep) body (xs.zipIdx.map fun p=>V.tup [.int (p.2:Nat),p.1]) σ r) (F:Fm W env base out hot oa σ s₀) (g:Grow s₀ s) (hI:EnI W A hot s₀ s e it l items xs)
    (k:∀ f s',ResOk W env base out r f s'→R (.ok f) s'):codeAny (model W.prog W.w) A (.forLoop (.Tuple elts ek ep) (.ref e) body [] env) R s:=by
  have wk:=WalksT.enumerate (prog:=W.prog) (w:=W.w) hA.handled e it l hI.hei hI.hle hI.hli items
  have hsz:items.size = xs.length:=by rw [← hI.rd.length]; simp
  have st0:enSt e it l items 0 s.heap:=hI.st
  have aE:=st0.live e (by simp)
  have aI:=st0.live it (by simp)
  have dead:∀ b,s₀.heap.get? b = none→b ∉ mutL env σ oa:=fun b hb q=>by
    obtain ⟨o,e'⟩:=F.alive b (F.mutNew b q).2
    rw [hb] at e'; cases e'
  have fresh:∀ b∈[e,it],s₀.heap.get? b = none:=mem_two hI.fe hI.fi
  have mfp:∀ b∈[e,it,l],b ∉ mutL env σ oa:=mem_three (dead e hI.fe) (dead it hI.fi) fun q=>hI.nl (F.mutNew l q).2
  have start:EnInv W n sc env (.Tuple elts ek ep) body xs r base out e it l items xs.length s:=by
    refine ⟨0,σ,_,oa,Nat.zero_le _,rfl,by simpa using hL,F.hotter g (wr:=[e,it]) fresh (mem_two aE aI),hI.st,mfp,.inr (.head _),.inr (.tail _ (.head _)),nQ F.grow.sub hI.fe,nQ F.grow.sub hI.fi,?_⟩
    refine Rds.mono (fun b o nb e'=>⟨g.sub b o e',fun q=>?_⟩) _ _ hI.rd
    rcases q with q | q
    · exact nb q
    · rw [fresh b q] at e'; cases e'
  refine codeAny_forLoop_any (EnInv W n sc env (.Tuple elts ek ep) body xs r base out e it l items) (fun m s₁ inv=>?_) _ start
  obtain ⟨i,σ₁,hot₁,oa₁,hi,rfl,hL₁,F₁,st,mfp₁,hE₁,hI₁,bE,bI,item⟩:=inv
  have hlen:(xs.zipIdx.map fun p=>V.tup [.int (p.2:Nat),p.1]).length = xs.length:=by simp
  by_cases hlt:i < xs.length
  · refine wk.item i s₁ _ _ (by rw [hsz]; exact hlt) st fun T vals h' tk hv hT hTt hMid hk=>?_
    refine wk.go elts ek ep i T _ _ _ hMid fun h₂ st₂ hk₂=>?_
    have hkk:∀ b o,b ∉ [e,it]→s₁.heap.get? b = some o→h₂.get? b = some o:=fun b o hb e'=>hk₂ b o hb (hk b o hb e')
    have live₂:=enSt.live (show enSt e it l items (i + 1) h₂ from st₂)
    have F₂:Fm W env base out hot₁ oa₁ σ₁ { s₁ with heap:=h₂,toks:=tk }:=F₁.touch hkk (mem_two ⟨bE,hE₁,mfp₁ _ (.head _),live₂ _ (.head _)⟩ ⟨bI,hI₁,mfp₁ _ (.tail _ (.head _)),live₂ _ (.tail _ (.head _))⟩)
    have up:∀ b o,¬ hot₁ b→s₁.heap.get? b = some o→h₂.get? b = some o∧¬ hot₁ b:=fun b o nb e'=>⟨hkk b o (fun q=>nb (mem_two hE₁ hI₁ b q)) e',nb⟩
    have item':Rds h₂ hot₁ xs items.toList:=Rds.mono up _ _ item
    have nT:¬ hot₁ T:=fun q=>by
      obtain ⟨o,e'⟩:=F₁.alive T q
      exact absurd (Heap.lt_size e') (Nat.not_lt.mpr hT)
    obtain ⟨t',x,hx,rfl⟩:=hv
    have hxi:xs[i]? = some xs[i]:=by simp [hlt]
    obtain ⟨v,hv1,hv2⟩:=item'.getElem hxi
    have hvx:v = x:=by
      have:items.toList[i]? = some x:=by simpa using hx
      rw [hv1] at this; exact Option.some.inj this
    subst hvx
    have rT:Rd h₂ hot₁ (.tup [.int (i:Nat),xs[i]]) (.ref T):=by
      unfold Rd
      exact ⟨T,_,rfl,nT,hTt.at fun o e'=>hk₂ T o (wk.apart i T h' hMid) e',.cons mk_int (.cons hv2 .nil)⟩
    have hd:(xs.zipIdx.map fun p=>V.tup [.int (p.2:Nat),p.1]).drop i = V.tup [.int (i:Nat),xs[i]] :: (xs.zipIdx.map fun p=>V.tup [.int (p.2:Nat),p.1]).drop (i + 1):=by
      rw [List.drop_eq_getElem_cons (by rw [hlen]; exact hlt)]
      simp
    have again:∀ {σ₂:Store} {hot₂:Addr→Prop} {oa₂:Str→Addr} {s':Shared},ForL W n sc (.Tuple elts ek ep) body ((xs.zipIdx.map fun p=>V.tup [.int (p.2:Nat),p.1]).drop (i + 1)) σ₂ r →
        Fm W env (hidden env σ₁ oa₁ { s₁ with heap:=h₂,toks:=tk }) (fun a=>hot₁ a∧a ∉ mutL env σ₁ oa₁) hot₂ oa₂ σ₂ s'→∃ m',m' < xs.length - i∧EnInv W n sc env (.Tuple elts ek ep) body xs r base out e it l items m' s':=by
      intro σ₂ hot₂ oa₂ s' hL₂ F₃
      have keep:∀ b∈[e,it,l],∀ o,h₂.get? b = some o→(hidden env σ₁ oa₁ { s₁ with heap:=h₂,toks:=tk }).heap.get? b = some o:=fun b hb o e'=>hideAll_get _ e' (mfp₁ b hb)
      refine ⟨xs.length - (i + 1),by exact o37 hlt,i + 1,σ₂,hot₂,oa₂,hlt,rfl,hL₂,F₃.debase F₂.grow_hidden F₂.wbase F₂.outMut (fun a ha=>F₂.hotnew a ha.1) F₂.outlive,wk.frame _ _ _ st₂ fun b hb o e'=>F₃.grow.sub b o (keep b hb o e'),fun b hb q=>?_,F₃.outhot e ⟨hE₁,mfp₁ e (.head _)⟩,F₃.outhot it ⟨hI₁,mfp₁ it (.tail _ (.head _))⟩,bE,bI,?_⟩
      · obtain ⟨o,e'⟩:=live₂ b hb
        have:=(F₃.mutNew b q).1
        rw [keep b hb o e'] at this; cases this
      · refine Rds.mono (fun b o nb e'=>?_) _ _ item'
        have nm:b ∉ mutL env σ₁ oa₁:=fun q=>nb (F₂.mutNew b q).2
        have e1:(hidden env σ₁ oa₁ { s₁ with heap:=h₂,toks:=tk }).heap.get? b = some o:=hideAll_get _ e' nm
        refine ⟨F₃.grow.sub b o e1,fun q=>?_⟩
        rcases F₃.hotnew b q with q | q
        · exact nb q.1
        · rw [e1] at q; cases q
    rw [hd] at hL₁
    generalize hxs:(xs.zipIdx.map fun p=>V.tup [.int (p.2:Nat),p.1]).drop (i + 1) = rest at hL₁
    cases hL₁ with
    | next hb hr hL₂=>
      refine turn_body he hA F₂ rT hb hr fun f s' ok=>?_
      obtain ⟨rfl,hot',oa',F'⟩:=ok
      exact again (hxs ▸ hL₂) F'
    | cont hb hr hL₂=>
      refine turn_body he hA F₂ rT hb hr fun f s' ok=>?_
      obtain ⟨rfl,hot',oa',F'⟩:=ok
      exact again (hxs ▸ hL₂) F'
    | brk hb hr=>
      refine turn_body he hA F₂ rT hb hr fun f s' ok=>?_
      obtain ⟨rfl,hot',oa',F'⟩:=ok
      exact k _ _ ⟨rfl,hot',oa',F'.debase F₂.grow_hidden F₂.wbase F₂.outMut (fun a ha=>F₂.hotnew a ha.1) F₂.outlive⟩
    | ret hb hr=>
      refine turn_body he hA F₂ rT hb hr fun f s' ok=>?_
      obtain ⟨w,rfl,G,rw'⟩:=ok
      exact k _ _ ⟨w,rfl,F₂.grow_hidden.trans G,rw'.less F₂.outMut⟩
  · have hi':i = xs.length:=by exact o5 hi hlt
    refine wk.done s₁ _ _ (by rw [hsz,← hi']; exact st) fun h' tk hk=>?_
    have e':(xs.zipIdx.map fun p=>V.tup [.int (p.2:Nat),p.1]).drop i = []:=by rw [hi',← hlen]; simp
    rw [e'] at hL₁
    cases hL₁
    exact wpAny_execs_nil (k _ _ ⟨rfl,_,oa₁,F₁.touchOff hk (mem_two ⟨bE,hE₁,mfp₁ _ (.head _)⟩ ⟨bI,hI₁,mfp₁ _ (.tail _ (.head _))⟩)⟩)
theorem Runs.forEnum {p pos cpos:Pos} {e:PySem.Expr} {xs:List V} {r:Res} (hg:isGlob sc "enumerate" = true) (hm:W.mg "enumerate" = Option.none) (hbb:bootBuiltins "enumerate" = some (.type "enumerate")) (h:Ev W n sc σ e (.list xs))
    (hn:∀ env,starEach [e] env = (false,eval e env) :: starEach [] env) (hL:ForL W n sc (.Tuple elts ek ep) body (xs.zipIdx.map fun p=>V.tup [.int (p.2:Nat),p.1]) σ r) (hs:∀ env x,foldedSetIterable (.Call (.Name "enumerate" p) [e] [] cpos) env x = pure x) :
    Runs W n sc (.For (.Tuple elts ek ep) (.Call (.Name "enumerate" p) [e] [] cpos) body [] pos) σ r:=
  ⟨fun env he A hA base out hot oa s Q E F k=>by
    have hone:Evs W n sc σ [e] [.list xs]:=Evs.one h hn
    refine wpAny_For (wpAny_Call_NameR ((Ev.builtin (W:=W) (n:=n) (σ:=σ) (pos:=p) hg hm hbb).run env he A hA s hot _ E F.good fun v s₁ g₁ r₁=>?_)) (hs env)
    cases rd_val r₁
    refine callWith_any (W:=W) (by trivial) (hone.plain env cpos).1 (hone.run env he A hA s₁ hot _ E cpos (F.grown g₁).good fun vs s₂ g₂ r₂=>⟨((F.grown g₁).grown g₂).good.base,?_⟩)
    unfold Rds at r₂; obtain ⟨v,r',rfl,hv,hv'⟩:=r₂; unfold Rds at hv'; subst hv'
    obtain ⟨l,items,rfl,nl,hl,hr⟩:=rd_list hv
    refine call_enumerate_list (PlainList.isList hl) fun h' h1 h2 ψ hk=>?_
    refine wpAny_pyIter_enum h1 ?_
    have F₂:=(F.grown g₁).grown g₂
    have g₃:Grow s₂ { s₂ with heap:=h' }:=⟨hk,rfl,fun e=>e⟩
    have hlt:l < s₂.heap.objs.size:=by obtain ⟨m,e'⟩:=hl; exact Heap.lt_size e'
    have big:∀ a:Nat,s₂.heap.objs.size≤a→s₂.heap.get? a = none:=fun a ha=>Heap.get?_none_of_le ha
    refine en_loop (s₀:=s₂) (items:=items) he hA hL F₂ g₃ ⟨nat_succ_ne _,nat_lt_ne (Nat.lt_succ_of_lt hlt),nat_lt_ne hlt,⟨⟨_,h1⟩,h2,PlainList.isList (let ⟨m,e⟩:=hl; ⟨m,hk _ _ e⟩)⟩,nl,big _ (Nat.le_succ _),big _ (Nat.le_refl _),hr⟩ fun f s' ok=>k f s' ok⟩
end
section
variable {W:Wo} {n:Nat} {sc:Scope} {σ σ':Store} {N:Nat}
structure EvN (W:Wo) (N n:Nat) (sc:Scope) (σ:Store) (e:PySem.Expr) (d:V):Prop where
  run:∀ env,env.scope = sc→∀ A,Room A n→∀ s hot (Q:Value→Shared→Prop) E,N≤s.toks→Good W env σ hot s →
    (∀ v s',Grow s s'→N≤s'.toks→Rd s'.heap hot d v→Q v s')→wpAny (model W.prog W.w) A (eval e env) Q E s
theorem Ev.toN {e:PySem.Expr} {d:V} (h:Ev W n sc σ e d):EvN W N n sc σ e d:=
  ⟨fun env he A hA s hot Q E hN g k=>wpAny_with_toks hN (h.run env he A hA s hot _ _ g fun v s' g' r hN'=>k v s' g' hN' r)⟩
structure EvsN (W:Wo) (N n:Nat) (sc:Scope) (σ:Store) (es:List PySem.Expr) (ds:List V):Prop where
  run:∀ env,env.scope = sc→∀ A,Room A n→∀ s hot (Q:List Value→Shared→Prop) E pos,N≤s.toks→Good W env σ hot s →
    (∀ vs s',Grow s s'→Rds s'.heap hot ds vs→Q vs s')→wpAny (model W.prog W.w) A (spliced (backTo pos (starEach es env))) Q E s
theorem EvsN.nil:EvsN W N n sc σ [] []:=⟨fun env he A hA s hot Q E pos hN g k=>wpAny_pure (k _ s (.refl s) .nil)⟩
theorem EvsN.cons {e:PySem.Expr} {es:List PySem.Expr} {d:V} {ds:List V} (h:EvN W N n sc σ e d) (hs:EvsN W N n sc σ es ds) (hn:∀ env,starEach (e :: es) env = (false,eval e env) :: starEach es env):EvsN W N n sc σ (e :: es) (d :: ds):=
  ⟨fun env he A hA s hot Q E pos hN g k=>by
    rw [hn]
    exact Calls.spliced_cons (h.run env he A hA s hot _ E hN g fun v₁ s₁ g₁ hN₁ r₁=>hs.run env he A hA s₁ hot _ E pos hN₁ (g.grow g₁) fun vs s₂ g₂ r₂=>k _ _ (g₁.trans g₂) (.cons (r₁.sub g₂.sub) r₂))⟩
theorem EvN.tup {es:List PySem.Expr} {j pos} {ds:List V} (h:EvsN W N n sc σ es ds) (hs:ds.length≤16777216):EvN W N n sc σ (.Tuple es j pos) (.tup ds):=
  ⟨fun env he A hA s hot Q E hN g k=>wpAny_with_toks hN (@PyProof.Rows.Tuple_ _ _ _ _ _ _ _ _ _ (h.run env he A hA s hot _ _ pos hN g fun vs s₁ g₁ r₁=>by
    have hz:vs.toArray.size≤sizeLine:=by rw [List.size_toArray,sizeLine_eq]; exact r₁.le hs
    refine wpAny_newObj_type (fun hN'=>?_) hz
    have up:Sub s₁.heap (s₁.heap.push { cls:=.type "tuple",dict:=Option.none,data:=.seq vs.toArray }):=fun b o e=>Heap.get?_push_of_some _ e
    refine k _ _ (g₁.trans ⟨up,rfl,fun e=>e⟩) hN' ?_
    unfold Rd
    exact ⟨_,vs.toArray,rfl,newIsHot (g.grow g₁).alive,⟨_,Heap.get?_push_size _ rfl,rfl,0,rfl⟩,by rw [List.toList_toArray]; exact r₁.sub up⟩))⟩
theorem EvN.replaceVar {x y:Str} {p px apos pos p2:Pos} {j2:Nat} {l:List Nat} {c:Nat} {t:Tok} (hx:(x,Slot.val (.val (.str (St [c]) t)))∈σ) (hvx:isVar sc x = true) (hy:(y,Slot.val (.str l))∈σ) (hvy:isVar sc y = true) (ht:1≤t)
    (hbase:∀ env,attributeBase (.Name y p) "replace" env (eval (.Name y p) env) = eval (.Name y p) env) (hline:(apos.endLine == pos.line) = true) (hb:Str.ofString "" = St []) (hz:l.length≤1000000)
    (hargs:∀ env,starEach [.Name x px,.Constant (.str (Str.ofString "")) j2 p2] env = [(false,eval (.Name x px) env),(false,eval (.Constant (.str (Str.ofString "")) j2 p2) env)]) :
    EvN W (t + 1) n sc σ (.Call (.Attribute (.Name y p) "replace" apos) [.Name x px,.Constant (.str (Str.ofString "")) j2 p2] [] pos) (.str (rsub l c [])):=
  ⟨fun env he A hA s hot Q E hN g k=>by
    refine wpAny_with_toks hN ?_
    refine wpAny_Call_method_lateS (hbase env) ?_ hline (wpAny_with_toks hN ((Ev.name hy hvy).run env he A hA s hot _ _ g fun v s₁ g₁ r₁ hN₁=>?_))
    · rw [hargs]; rfl
    obtain ⟨u,rfl⟩:=sQ r₁
    refine ⟨"str","str.replace",mRQ.pa,mRQ.slot,mRQ.ty,typeIs_str _ _ _,fun ψ e=>(nomatch e),?_⟩
    refine Calls.callWith_builtin (by rw [hargs]; rfl) (evalArgs_any (by rw [hargs]; rfl) ?_)
    rw [hargs]
    refine Calls.spliced_cons ?_
    refine wpAny_with_toks hN₁ ?_
    refine (Ev.name hx hvx).run env he A hA s₁ hot _ _ (g.grow g₁) fun v s₂ g₂ r₂ hN₂=>?_
    cases rd_val r₂
    refine Calls.spliced_cons ?_
    refine @wpAny_mkText _ _ _ _ _ _ ?_
    refine wpAny_pure ?_
    have hne:(St [c] == (Str.ofString "")) = false:=by
      rw [hb]; exact beq_eq_false_iff_ne.mpr fun e=>by
        have:(St [c]).cps.toList = (St []).cps.toList:=by rw [e]
        simp [St] at this
    refine SC.replace (Nat.ne_of_gt (show 0 < t from ht)) (Nat.ne_of_gt (Nat.lt_of_le_of_lt (Nat.zero_le t) hN₂)) (Nat.ne_of_lt (show t < s₂.toks from hN₂)) hne (by rw [hb,St_len,St_len]; simp; exact o6 hz) fun t' tk hN₃=>?_
    rw [hb,replace_St]
    exact k _ _ ((g₁.trans g₂).trans .tok) hN₃ mk_str⟩
structure EvTk (W:Wo) (n:Nat) (sc:Scope) (σ:Store) (e:PySem.Expr) (l:List Nat):Prop where
  run:∀ env,env.scope = sc→∀ A,Room A n→∀ s hot (Q:Value→Shared→Prop) E,Good W env σ hot s →
    (∀ t s',Grow s s'→1≤t→t + 1≤s'.toks→Q (.str (St l) t) s')→wpAny (model W.prog W.w) A (eval e env) Q E s
structure RunsN (W:Wo) (N n:Nat) (sc:Scope) (st:Stmt) (σ:Store) (r:Res):Prop where
  run:∀ env,env.scope = sc→∀ A,Room A n→∀ base out hot oa s (Q:Flow→Shared→Prop) E,N≤s.toks→Fm W env base out hot oa σ s →
    (∀ f s',ResOk W env base out r f s'→Q f s')→wpAny (model W.prog W.w) A (exec st env) Q E s
theorem RQ.draw {x:Str} {p pos:Pos} {e:PySem.Expr} {st:Stmt} {c:Nat} {σ₁ σ₂:Value→Store} (h1:EvTk W n sc σ e [c]) (hs:∀ env,swapsWith e (some (.Name x p)) pos.line env = pure false) (hp:∀ v,Put x (.val (.val v)) σ (σ₁ v)) (hn:noApp x σ)
    (h2:∀ t,1≤t→RunsN W (t + 1) n sc st (σ₁ (.str (St [c]) t)) (.next (σ₂ (.str (St [c]) t)))) (hw:∀ v,Wk (σ₂ v) σ'):RQ W n sc [.Assign [.Name x p] e pos,st] σ (.next σ'):=
  ⟨fun env he A hA base out hot oa s Q E F k=>wpAny_execs_cons (wpAny_Assign_Name (h1.run env he A hA s hot _ E F.good fun t s₁ g ht htk=>
    wpAny_with_toks htk ((F.grown g).store (hp _) mk_val hn fun s₂ F₂ htk₂=>wpAny_execs_cons ((h2 t ht).run env he A hA base out hot oa s₂ _ _ htk₂ F₂ fun f s₃ ok=>by
      obtain ⟨rfl,hot',oa',F₃⟩:=ok
      exact wpAny_execs_nil (k _ _ ⟨rfl,hot',oa',F₃.forget (hw _)⟩)))) (hs env))⟩
theorem EvTk.item {o a b:PySem.Expr} {pm pos:Pos} {l:List Nat} {i j:Int} {c:Nat} (ho:Ev W n sc σ o (.str l)) (ha:Ev W n sc σ a (.int i)) (hb:Ev W n sc σ b (.int j)) (hj:j≠0) (h0:-(2 ^ 63)≤i.fmod j) (h1:i.fmod j < 2 ^ 63) (h:chAt l (i.fmod j) = some c)
    (hs:∀ o v,subscripted (.BinOp a .Mod b pm) false o v = operate [o,v] (getItem o v)):EvTk W n sc σ (.Subscript o (.BinOp a .Mod b pm) pos) [c]:=
  ⟨fun env hq A hA s hot Q E g k=>@Subscript_ _ _ _ _ _ _ _ _ _ (ho.run env hq A hA s hot _ E g fun v₁ s₁ g₁ r₁=>wpAny_BinOp (ha.run env hq A hA s₁ hot _ E (g.grow g₁) fun v₂ s₂ g₂ r₂=>hb.run env hq A hA s₂ hot _ E ((g.grow g₁).grow g₂) fun v₃ s₃ g₃ r₃=>by
    obtain ⟨t,rfl⟩:=sQ r₁; obtain ⟨u,rfl⟩:=rQ r₂; obtain ⟨w,rfl⟩:=rQ r₃
    refine @PyProof.Rows.mod_int _ _ _ _ _ _ _ _ _ _ hj ?_
    refine tail_any (typeIs_str _ _ _) slot_str_getitem.lookup (PyProof.Rows.getItem_str (c:=c) ?_ ?_ ?_) (hs _ _)
    · rw [decide_eq_false (by exact o0 h0),decide_eq_false (by exact o1 h1)]; rfl
    · unfold chAt at h
      simpa [St,Str.length] using h
    · exact k _ _ (((g₁.trans g₂).trans g₃).trans .tok) (Nat.succ_le_succ (Nat.zero_le _)) (Nat.le_refl _)))⟩
end
section
open PySem.Sre
noncomputable def sp (c:Nat):Bool:=c == 38 || c == 124 || c == 126
theorem bits_sp (c:Nat) (h:c < 256):(rCQ.getD (5 + (1 + c / 32)) 0).testBit (c % 32) = sp c:=by
  have:∀ c:Fin 256,(rCQ.getD (5 + (1 + c.val / 32)) 0).testBit (c.val % 32) = sp c.val:=by decide +kernel
  exact this ⟨c,h⟩
theorem bits_sp2 (c:Nat) (h:c < 256):(rCQ.getD (19 + (1 + c / 32)) 0).testBit (c % 32) = sp c:=by
  have:∀ c:Fin 256,(rCQ.getD (19 + (1 + c.val / 32)) 0).testBit (c.val % 32) = sp c.val:=by decide +kernel
  exact this ⟨c,h⟩
theorem sp_lt {c:Nat} (h:¬ c < 256):sp c = false:=by
  unfold sp; simp; omega
theorem inSet_5 (c:Nat) (seen:Sre.Seen):∃ seen',inSet rCQ c 32 5 true seen = .ok (sp c,seen'):=by
  have e:inSet rCQ c 32 5 true seen = if (decide (c < 256) && (rCQ.getD (5 + (1 + c / 32)) 0).testBit (c % 32)) = true then .ok (true,seen.add (rCQ.getD (5 + 0) 0)) else inSet rCQ c 31 14 true (seen.add (rCQ.getD (5 + 0) 0)):=by kernel_rfl
  rw [e]
  by_cases hc:c < 256
  · rw [decide_eq_true hc,Bool.true_and,bits_sp c hc]
    cases sp c with
    | true=>exact ⟨_,rfl⟩
    | false=>exact ⟨_,rfl⟩
  · rw [decide_eq_false hc,sp_lt hc]
    exact ⟨_,rfl⟩
theorem inSet_19 (c:Nat) (seen:Sre.Seen):∃ seen',inSet rCQ c 32 19 true seen = .ok (sp c,seen'):=by
  have e:inSet rCQ c 32 19 true seen = if (decide (c < 256) && (rCQ.getD (19 + (1 + c / 32)) 0).testBit (c % 32)) = true then .ok (true,seen.add (rCQ.getD (19 + 0) 0)) else inSet rCQ c 31 28 true (seen.add (rCQ.getD (19 + 0) 0)):=by kernel_rfl
  rw [e]
  by_cases hc:c < 256
  · rw [decide_eq_true hc,Bool.true_and,bits_sp2 c hc]
    cases sp c with
    | true=>exact ⟨_,rfl⟩
    | false=>exact ⟨_,rfl⟩
  · rw [decide_eq_false hc,sp_lt hc]
    exact ⟨_,rfl⟩
noncomputable def nextAt (text:Array Nat):(fuel s:Nat)→Option Nat
  | 0,_=>none
  | fuel + 1,s=>if s ≥ text.size then none else if sp (text.getD s 0) then some s else nextAt text fuel (s + 1)
theorem admitted_eq (m:M) (hc:m.code = rCQ) (hl:m.lim = m.text.size):∀ (fuel s:Nat) (seen:Sre.Seen),∃ seen',M.admitted m fuel s seen = .ok (nextAt m.text fuel s,seen')
  | 0,s,seen=>⟨seen,rfl⟩
  | fuel + 1,s,seen=>by
    unfold M.admitted nextAt
    rw [hl]
    by_cases h:s ≥ m.text.size
    · rw [if_pos h,if_pos h]; exact ⟨_,rfl⟩
    · rw [if_neg h,if_neg h,hc,show rCQ.size = 32 from rfl]
      obtain ⟨seen',e⟩:=inSet_5 (m.text.getD s 0) seen
      rw [e]
      cases hs:sp (m.text.getD s 0) with
      | true=>exact ⟨_,rfl⟩
      | false=>
        simp only [Bool.false_eq_true,if_false]
        exact admitted_eq m hc hl fuel (s + 1) seen'
noncomputable def mAt (text:Array Nat) (j:Nat) (seen:Sre.Seen) (mu:Bool):M:=
  { code:=rCQ,text,lim:=text.size,start:=j,lastStart:=text.size,pc:=15,pos:=j,handed:=j,marks:=#[none,none],mustAdvance:=mu,seen,outermost:=true,
    frames:=[{ wait:=.nextStart,pc:=15,pos:=j,outermost:=true }],weight:=1 }
noncomputable def m00 (text:Array Nat) (d:Nat):M:=
  { code:=rCQ,text,lim:=text.size,start:=d,pc:=15,pos:=d,handed:=d,marks:=#[none,none],mustAdvance:=false,seen:=({}:Sre.Seen).add 14,lastStart:=text.size }
theorem search_from (text:Array Nat) (d:Nat) (hd:d < text.size):forSearch rCQ text 1 d text.size false = (m00 text d).attemptFrom d true:=by
  unfold forSearch
  have h1:(header rCQ).1 = 1:=rfl
  simp only [h1]
  rw [if_neg (by simp; omega)]
  simp only [show ¬ ((1:Nat) > 1) by decide,decide_false,Bool.false_and,Bool.false_eq_true,if_false]
  rfl
theorem search_end (text:Array Nat):(forSearch rCQ text 1 text.size text.size false) = { m00 text text.size with answer:=some false,lastStart:=0 }:=by
  unfold forSearch
  have h1:(header rCQ).1 = 1:=rfl
  simp only [h1]
  rw [if_pos (by simp)]
  rfl
theorem search_eq (text:Array Nat) (d:Nat) (hd:d < text.size):∃ seen,forSearch rCQ text 1 d text.size false = match nextAt text (text.size + 1 - d) d with
    | some j=>mAt text j seen false
    | none=>{ m00 text d with seen,answer:=some false }:=by
  rw [search_from text d hd]
  obtain ⟨seen,e⟩:=admitted_eq (m00 text d) rfl rfl (text.size + 1 - d) d (m00 text d).seen
  refine ⟨seen,?_⟩
  unfold M.attemptFrom
  have hf:(m00 text d).hasFirstSet = true:=rfl
  rw [hf]
  simp only [Bool.not_true,Bool.false_eq_true,if_false]
  have e':M.admitted (m00 text d) ((m00 text d).lim + 1 - d) d (m00 text d).seen = .ok (nextAt text (text.size + 1 - d) d,seen):=e
  rw [e']
  cases nextAt text (text.size + 1 - d) d with
  | none=>rfl
  | some j=>
    simp only
    unfold M.attemptAt M.attempt
    rw [if_neg (by show ¬ (0 + 1 + 0 > 16777216); decide)]
    rfl
theorem run_1 (text:Array Nat) (j:Nat) (seen:Sre.Seen) (hj:j < text.size) (hs:sp (text.getD j 0) = true):∃ seen',(mAt text j seen false).runFor 4 =
    { mAt text j seen' false with pc:=31,pos:=j + 1,handed:=j + 1,marks:=#[some j,some (j + 1)],lastmark:=1,lastindex:=1,answer:=some true }:=by
  have ops17:ops[17]? = some Op.MARK:=rfl
  have ops13:ops[13]? = some Op.IN:=rfl
  have ops1:ops[1]? = some Op.SUCCESS:=rfl
  have s1:(mAt text j seen false).step = { mAt text j (seen.add 17) false with pc:=17,marks:=#[some j,none],lastmark:=0 }:=by
    unfold M.step
    show (if 15 < rCQ.size then M.exec (mAt text j seen false) else M.stick (mAt text j seen false) "code:ran-off") = _
    rw [if_pos (by decide)]
    rfl
  obtain ⟨sn,e2⟩:=inSet_19 (text.getD j 0) ((seen.add 17).add 13)
  rw [hs] at e2
  have s2:M.step { mAt text j (seen.add 17) false with pc:=17,marks:=#[some j,none],lastmark:=0 } = { mAt text j sn false with pc:=29,pos:=j + 1,marks:=#[some j,none],lastmark:=0 }:=by
    unfold M.step
    show (if 17 < rCQ.size then M.exec { mAt text j (seen.add 17) false with pc:=17,marks:=#[some j,none],lastmark:=0 } else M.stick { mAt text j (seen.add 17) false with pc:=17,marks:=#[some j,none],lastmark:=0 } "code:ran-off") = _
    rw [if_pos (by decide)]
    let m':M:={ mAt text j ((seen.add 17).add 13) false with pc:=17,marks:=#[some j,none],lastmark:=0 }
    have acc:accepts rCQ 17 (text.getD j 0) ((seen.add 17).add 13) = .ok (true,sn):=e2
    show (if j ≥ text.size then m'.say false else match accepts rCQ 17 (text.getD j 0) ((seen.add 17).add 13) with
      | .error why=>m'.stick why
      | .ok (false,seen)=>M.say { m' with seen } false
      | .ok (true,seen)=>{ m' with seen,pc:=17 + itemWidth rCQ 17,pos:=j + 1 }) = _
    rw [if_neg (by omega),acc]
    rfl
  have s3:M.step { mAt text j sn false with pc:=29,pos:=j + 1,marks:=#[some j,none],lastmark:=0 } = { mAt text j (sn.add 17) false with pc:=31,pos:=j + 1,marks:=#[some j,some (j + 1)],lastmark:=1,lastindex:=1 }:=by
    unfold M.step
    show (if 29 < rCQ.size then M.exec { mAt text j sn false with pc:=29,pos:=j + 1,marks:=#[some j,none],lastmark:=0 } else M.stick { mAt text j sn false with pc:=29,pos:=j + 1,marks:=#[some j,none],lastmark:=0 } "code:ran-off") = _
    rw [if_pos (by decide)]
    have e:M.exec { mAt text j sn false with pc:=29,pos:=j + 1,marks:=#[some j,none],lastmark:=0 } = M.mark { mAt text j (sn.add 17) false with pc:=29,pos:=j + 1,marks:=#[some j,none],lastmark:=0 } 1:=rfl
    rw [e]
    unfold M.mark
    dsimp only
    rw [if_pos (by show ((1:Nat):Int)≤0 + 1; decide)]
    rfl
  have s4:M.step { mAt text j (sn.add 17) false with pc:=31,pos:=j + 1,marks:=#[some j,some (j + 1)],lastmark:=1,lastindex:=1 } = { mAt text j ((sn.add 17).add 1) false with pc:=31,pos:=j + 1,handed:=j + 1,marks:=#[some j,some (j + 1)],lastmark:=1,lastindex:=1,answer:=some true }:=by
    unfold M.step
    show (if 31 < rCQ.size then M.exec { mAt text j (sn.add 17) false with pc:=31,pos:=j + 1,marks:=#[some j,some (j + 1)],lastmark:=1,lastindex:=1 } else M.stick { mAt text j (sn.add 17) false with pc:=31,pos:=j + 1,marks:=#[some j,some (j + 1)],lastmark:=1,lastindex:=1 } "code:ran-off") = _
    rw [if_pos (by decide)]
    rfl
  refine ⟨(sn.add 17).add 1,?_⟩
  show M.runFor 4 _ = _
  unfold M.runFor
  rw [if_neg (by simp [mAt]),s1]
  unfold M.runFor
  rw [if_neg (by simp [mAt]),s2]
  unfold M.runFor
  rw [if_neg (by simp [mAt]),s3]
  unfold M.runFor
  rw [if_neg (by simp [mAt]),s4]
  rfl
theorem run_2 (text:Array Nat) (j:Nat) (seen:Sre.Seen):M.runFor 4 { mAt text j seen false with pc:=31,pos:=j + 1,handed:=j + 1,marks:=#[some j,some (j + 1)],lastmark:=1,lastindex:=1,answer:=some true } =
    { mAt text j seen false with pc:=15,pos:=j,handed:=j + 1,marks:=#[some j,some (j + 1)],lastmark:=1,lastindex:=1,answer:=some true,frames:=[],weight:=0,outcome:=some .matched }:=rfl
theorem run_3 (text:Array Nat) (d:Nat) (m:M) (h1:m.answer = some false) (h2:m.frames = []) (h3:m.outcome = none):M.runFor 4 m = { m with outcome:=some .failed }:=by
  obtain ⟨code,text,lim,start,lastStart,wholeText,mustAdvance,pc,pos,handed,outermost,marks,lastmark,lastindex,loops,inner,frames,weight,answer,seen,outcome⟩:=m
  simp only at h1 h2 h3
  subst h1 h2 h3
  rfl
end
section
open PySem.Sre PySem.Builtin.Re
section
variable {M':Model} {A:Around} {E:Value→Shared→Prop} {s:Shared}
theorem drive_succ (k:Nat) (m:M):reDrive (k + 1) m = (if (m.runFor 4).outcome.isSome then pure (m.runFor 4) else do rule "sre.turn"; reDrive k (m.runFor 4)):=rfl
theorem for_quiet {l:List Nat} {f:Nat→Unit→Sem (ForInStep Unit)} (hf:∀ i s (Q:ForInStep Unit→Shared→Prop),Q (.yield ()) s→wpAny M' A (f i ()) Q E s):∀ {Q:Unit→Shared→Prop},Q () s→wpAny M' A (forIn l () f) Q E s:=by
  induction l with
  | nil=>intro Q h; exact wpAny_pure h
  | cons i l ih=>
    intro Q h
    rw [List.forIn_cons]
    exact wpAny_bind (hf i s _ (ih h))
theorem big:(2:Nat) ^ 64 = 18446744073709551614 + 1 + 1:=by decide
theorem run_end {m m':M} {o:Sre.Outcome} {Q:Option M→Shared→Prop} (hd:∀ {Q:M→Shared→Prop},Q m' s→wpAny M' A (reDrive (2 ^ 64) m) Q E s) (ho:m'.outcome = some o)
    (h:match o with | .matched=>Q (some m') s | .failed=>Q none s | .stuck _=>False):wpAny M' A (reRunToEnd m) Q E s:=by
  unfold reRunToEnd
  refine wpAny_bind (hd ?_)
  refine wpAny_bind (for_quiet (fun i s Q h=>?_) ?_)
  · cases hc:m'.seen.has i with
    | true=>exact wpAny_bind (wpAny_rule (wpAny_pure h))
    | false=>exact wpAny_pure h
  · rw [ho]
    cases o with
    | matched=>exact wpAny_pure h
    | failed=>exact wpAny_pure h
    | stuck why=>exact h.elim
theorem found_run {text:Array Nat} {j:Nat} {seen:Sre.Seen} (hj:j < text.size) (hs:sp (text.getD j 0) = true) {Q:Option M→Shared→Prop}
    (h:∀ m:M,m.start = j→m.handed = j + 1→m.marks = #[some j,some (j + 1)]→m.lastmark = 1→m.lastindex = 1→Q (some m) s):wpAny M' A (reRunToEnd (mAt text j seen false)) Q E s:=by
  obtain ⟨sn,e⟩:=run_1 text j seen hj hs
  refine run_end (m':={ mAt text j sn false with pc:=15,pos:=j,handed:=j + 1,marks:=#[some j,some (j + 1)],lastmark:=1,lastindex:=1,answer:=some true,frames:=[],weight:=0,outcome:=some .matched }) (o:=.matched) ?_ rfl (h _ rfl rfl rfl rfl rfl)
  intro Q h
  rw [big,drive_succ,e]
  refine KFB.if_not rfl ?_
  refine wpAny_bind (wpAny_rule ?_)
  rw [drive_succ,run_2]
  exact KFB.if_so rfl (wpAny_pure h)
theorem none_run {m:M} (h1:m.answer = some false) (h2:m.frames = []) (h3:m.outcome = none) {Q:Option M→Shared→Prop} (h:Q none s):wpAny M' A (reRunToEnd m) Q E s:=by
  refine run_end (m':={ m with outcome:=some .failed }) (o:=.failed) ?_ rfl h
  intro Q h
  rw [big,drive_succ,run_3 #[] 0 m h1 h2 h3]
  exact KFB.if_so rfl (wpAny_pure h)
theorem next_found {t:ReTarget} {d:Nat} (hc:t.code = rCQ) (hg:t.groups = 1) (hl:t.lim = t.text.size) (hd:d≤t.text.size) {Q:Option M→Shared→Prop}
    (h1:∀ j,nextAt t.text (t.text.size + 1 - d) d = some j→∀ m:M,m.start = j→m.handed = j + 1→m.marks = #[some j,some (j + 1)]→m.lastmark = 1→m.lastindex = 1→Q (some m) s)
    (h2:nextAt t.text (t.text.size + 1 - d) d = none→Q none s):wpAny M' A (reNextFound t d false) Q E s:=by
  unfold reNextFound
  rw [hc,hg,hl]
  by_cases hlt:d < t.text.size
  · obtain ⟨seen,e⟩:=search_eq t.text d hlt
    rw [e]
    cases hn:nextAt t.text (t.text.size + 1 - d) d with
    | none=>exact none_run rfl rfl rfl (h2 hn)
    | some j=>
      have:∀ fuel d,nextAt t.text fuel d = some j→j < t.text.size∧sp (t.text.getD j 0) = true:=by
        intro fuel
        induction fuel with
        | zero=>intro d h; cases h
        | succ fuel ih=>
          intro d h
          unfold nextAt at h
          split at h
          · cases h
          · split at h
            · cases h; exact ⟨by exact o38 (by assumption),by assumption⟩
            · exact ih _ h
      obtain ⟨a,b⟩:=this _ _ hn
      exact found_run a b (h1 j hn)
  · have:d = t.text.size:=by exact o5 hd hlt
    subst this
    rw [search_end]
    refine none_run rfl rfl rfl (h2 ?_)
    rw [show t.text.size + 1 - t.text.size = 0 + 1 by exact o39]
    unfold nextAt
    rw [if_pos (Nat.le_refl _)]
end
end
section
open PySem.Builtin.Re
theorem rm_plain:PlainAttrs "re.Match":=
  ⟨⟨"object.__getattribute__",by rw [typeLookup_type,builtinLookup_eq_fast]; kernel_rfl,by kernel_rfl⟩,by rw [typeLookup_type,builtinLookup_eq_fast]; kernel_rfl⟩
theorem rm_slot:PySem.Slot "re.Match" "group" "re.Match.group":=
  .of (owner:="re.Match") (n:="group") (by rw [typeLookup_type,builtinLookup_eq_fast]; kernel_rfl) (by decide +kernel) (by decide +kernel) (by decide +kernel)
    (by first | exact .inl (by decide +kernel) | exact .inr (by decide +kernel)) (by rw [isSubtype_type]; kernel_rfl)
theorem rm_ty:typeOf (.builtin "re.Match.group") = pure (.type "method_descriptor"):=by show builtinType _ = _; rw [builtinType_eq_fast]; kernel_rfl
theorem rm_entry:entryFor table "re.Match.group" = some Builtin.«re.Match.group»:=entryFor_of_tree (by kernel_rfl)
theorem rm_args (a b:Value):argsOk "re.Match.group" ⟨[a,b],[]⟩:=by unfold argsOk; kernel_rfl
theorem rp_plain:PlainAttrs "re.Pattern":=
  ⟨⟨"object.__getattribute__",by rw [typeLookup_type,builtinLookup_eq_fast]; kernel_rfl,by kernel_rfl⟩,by rw [typeLookup_type,builtinLookup_eq_fast]; kernel_rfl⟩
theorem rp_slot:PySem.Slot "re.Pattern" "sub" "re.Pattern.sub":=
  .of (owner:="re.Pattern") (n:="sub") (by rw [typeLookup_type,builtinLookup_eq_fast]; kernel_rfl) (by decide +kernel) (by decide +kernel) (by decide +kernel)
    (by first | exact .inl (by decide +kernel) | exact .inr (by decide +kernel)) (by rw [isSubtype_type]; kernel_rfl)
theorem rp_ty:typeOf (.builtin "re.Pattern.sub") = pure (.type "method_descriptor"):=by show builtinType _ = _; rw [builtinType_eq_fast]; kernel_rfl
theorem rp_entry:entryFor table "re.Pattern.sub" = some Builtin.«re.Pattern.sub»:=entryFor_of_tree (by kernel_rfl)
theorem rp_entry_loop:entryFor table "re.Pattern.sub.loop" = some Builtin.«re.Pattern.sub.loop»:=by first | exact entryFor_of_fast (by kernel_rfl) | exact entryFor_of_tree (by kernel_rfl)
theorem rp_args (a b c:Value):argsOk "re.Pattern.sub" ⟨[a,b,c],[]⟩:=by unfold argsOk; kernel_rfl
end
section
open PySem.Builtin.Re
noncomputable def IsMatch (h:Heap) (m:Addr) (l:List Nat) (j:Nat):Prop:=
  ∃ t pt sp k,h.get? m = some { cls:=.type "re.Match",data:=.fields #[.str (St l) t,pt,rawInt 0,rawInt l.length,rawInt 1,.ref sp] }∧h.get? sp = some { cls:=.type "tuple",data:=.seq #[rawInt j,rawInt (j + 1:Nat),rawInt j,rawInt (j + 1:Nat)] k }
section
variable {prog:Program} {w:World} {A:Around} {E:Value→Shared→Prop} {s:Shared}
theorem run_group {m:Addr} {l:List Nat} {j:Nat} {u:Tok} {P:Fin→Shared→Prop} (hm:IsMatch s.heap m l j) (h:∀ t,P (.done (.ret (.str ⟨(St l).cps.extract j (j + 1)⟩ t))) { s with toks:=s.toks + 1 }) :
    wpAny (model prog w) A (Builtin.«re.Match.group» ⟨[.ref m,.int 1 u],[]⟩) P E s:=by
  obtain ⟨t,pt,sp,k,h1,h2⟩:=hm
  unfold Builtin.«re.Match.group»
  refine wpAny_bind (wpAny_of_eq (a:=()) (by first | rfl | kernel_rfl) ?_)
  refine wpAny_bind (m:=reFound (.ref m)) ?_
  unfold reFound
  refine wpAny_bind (wpAny_fieldsOf h1 rfl (wpAny_bind (m:=reRawItems (.ref sp)) ?_))
  unfold reRawItems
  refine wpAny_bind (wpAny_seqItems h2 rfl (wpAny_pure (wpAny_pure ?_)))
  have hsp:Array.map reRawOf ((some #[rawInt (j:Int),rawInt ((j + 1:Nat):Int),rawInt (j:Int),rawInt ((j + 1:Nat):Int)]).getD #[]) = #[(j:Int),((j + 1:Nat):Int),(j:Int),((j + 1:Nat):Int)]:=by simp [reRawOf,rawInt]
  rw [hsp]
  let x:ReFound:={ fields:=#[.str (St l) t,pt,rawInt 0,rawInt l.length,rawInt 1,.ref sp],spans:=#[(j:Int),((j + 1:Nat):Int),(j:Int),((j + 1:Nat):Int)] }
  have hx:x.spans.size = 4:=rfl
  show wpAny _ _ (do let t ← reGroupText x (← reGroupNumber x (.int 1 u)) .none; ret t) _ _ _
  refine wpAny_bind (m:=reGroupNumber x (.int 1 u)) ?_
  unfold reGroupNumber
  refine wpAny_bind (wpAny_of_eq (a:=some (1:Int)) (by rfl) ?_)
  refine KFB.if_so rfl ?_
  refine wpAny_bind (wpAny_of_eq (a:=(1:Int)) (by rfl) ?_)
  refine KFB.if_not (by rw [hx]; rfl) ?_
  refine wpAny_pure ?_
  refine wpAny_bind (m:=reGroupText x 1 .none) ?_
  unfold reGroupText
  have b1:x.spans.getD (2 * 1) (-1) = (j:Int):=rfl
  have b2:x.spans.getD (2 * 1 + 1) (-1) = ((j + 1:Nat):Int):=rfl
  simp only [b1,b2]
  refine KFB.if_not (by simp; exact o40) ?_
  refine wpAny_bind (wpAny_of_eq (a:=((St l).cps,0)) (by rfl) ?_)
  show wpAny _ _ (reSlice (St l).cps 0 (j:Int).toNat ((j + 1:Nat):Int).toNat) _ _ _
  rw [Int.toNat_natCast,Int.toNat_natCast]
  show wpAny _ _ (mkStr ⟨(St l).cps.extract j (j + 1)⟩) _ _ _
  refine wpAny_mkStr (wpAny_pure (h _)) ?_
  show ((St l).cps.extract j (j + 1)).size≤sizeLine
  rw [Array.size_extract,sizeLine_eq]
  exact o41
end
end
noncomputable def Wo.at (W:Wo) (h:Heap) (k:Sub W.B h):Wo:=
  { prog:=W.prog,w:=W.w,B:=h,mg:=W.mg,mb:=W.mb,hg:=W.hg.keeps k,hb:=W.hb.keeps k,hbt:=W.hbt,hnl:=W.hnl.keeps k }
section
variable {W:Wo} {n:Nat} {sc:Scope} {σ:Store}
theorem IsMatch.sub {h h':Heap} {m:Addr} {l:List Nat} {j:Nat} (k:Sub h h') (x:IsMatch h m l j):IsMatch h' m l j:=by
  obtain ⟨t,pt,sp,q,h1,h2⟩:=x
  exact ⟨t,pt,sp,q,k _ _ h1,k _ _ h2⟩
theorem Ev.group {x:Str} {p p1 apos pos:Pos} {j1:Nat} {m:Addr} {l:List Nat} {j c:Nat} (hx:(x,Slot.val (.val (.ref m)))∈σ) (hv:isVar sc x = true) (hm:IsMatch W.B m l j) (hc:l[j]? = some c)
    (hbase:∀ env,attributeBase (.Name x p) "group" env (eval (.Name x p) env) = eval (.Name x p) env) (hline:(apos.endLine == pos.line) = true)
    (hn:∀ env,starEach [.Constant (.int 1) j1 p1] env = (false,eval (.Constant (.int 1) j1 p1) env) :: starEach [] env):Ev W n sc σ (.Call (.Attribute (.Name x p) "group" apos) [.Constant (.int 1) j1 p1] [] pos) (.str [c]):=
  ⟨fun env he A hA s hot Q E g k=>by
    have ha:Evs W n sc σ [.Constant (.int 1) j1 p1] [.int 1]:=Evs.one Ev.int hn
    refine wpAny_Call_method_lateS (hbase env) ?_ hline ((Ev.name hx hv).run env he A hA s hot _ E g fun v s₁ g₁ r₁=>?_)
    · rw [hn]; rfl
    cases rd_val r₁
    have hm₁:=hm.sub (g.grow g₁).base
    obtain ⟨t,pt,sp,q,h1,h2⟩:=hm₁
    refine ⟨"re.Match","re.Match.group",rm_plain,rm_slot,rm_ty,⟨_,h1,rfl⟩,fun a e=>by cases e; exact ⟨_,h1,rfl⟩,?_⟩
    refine callWith_any (W:=W) (by trivial) (ha.plain env pos).1 (ha.run env he A hA s₁ hot _ E pos (g.grow g₁) fun vs s₂ g₂ r₂=>⟨((g.grow g₁).grow g₂).base,?_⟩)
    unfold Rds at r₂; obtain ⟨v,r',rfl,hv1,hv2⟩:=r₂; unfold Rds at hv2; subst hv2
    obtain ⟨u,rfl⟩:=rQ hv1
    refine wpAny_call_entry rm_slot (show s₂.TypeIs (.ref m) "re.Match" from ⟨_,g₂.sub _ _ h1,rfl⟩) rm_entry (run_group (l:=l) (j:=j) ⟨t,pt,sp,q,g₂.sub _ _ h1,g₂.sub _ _ h2⟩ fun t'=>?_) (rm_args _ _)
    have e:(⟨(St l).cps.extract j (j + 1)⟩:Str) = St [c]:=by
      unfold St
      congr 1
      apply Array.toList_inj.mp
      rw [Array.toList_extract]
      have hj:j < l.length:=(List.getElem?_eq_some_iff.mp hc).1
      have hcj:l[j] = c:=(List.getElem?_eq_some_iff.mp hc).2
      simp [List.extract,List.drop_eq_getElem_cons hj,hcj]
    rw [e]
    exact ⟨_,rfl,k _ _ ((g₁.trans g₂).trans .tok) mk_str⟩⟩
theorem Ev.or1 {e e2:PySem.Expr} {es:List PySem.Expr} {pos:Pos} {a:V} (h:Ev W n sc σ e a) (ht:TruOk W a true):Ev W n sc σ (.BoolOp .Or (e :: e2 :: es) pos) a:=
  ⟨fun env he A hA s hot Q E g k=>by
    show wpAny _ A (boolOp pos .Or (eval e env :: eval e2 env :: evalEach es env)) Q E s
    unfold boolOp
    refine wpAny_bind (h.run env he A hA s hot _ E g fun v s₁ g₁ r₁=>?_)
    refine wpAny_bind (wpAny_standAt (wpAny_bind (wpAny_holding (ht A (hA.less (Nat.zero_le _)) s₁ hot v _ E (g.grow g₁).base r₁ fun s₂ g₂=>?_))))
    exact wpAny_pure (k v s₂ (g₁.trans g₂) (r₁.sub g₂.sub))⟩
structure IsLam (h:Heap) (f:Addr) (body:PySem.Expr) (sc:Scope) (x:Str):Prop where
  get:∃ o fd,h.get? f = some o∧o.data = .func fd∧fd.body = .expr body∧fd.scope = sc∧h.CodeRec fd.code fd.qualname∧fd.closure = []∧fd.globals = mainGlobals∧fd.builtins = builtinsNs∧∀ v:Value,bindArgs fd ⟨[v],[]⟩ = pure [(x,v)]
theorem IsLam.sub {h h':Heap} {f:Addr} {body:PySem.Expr} {x:Str} (k:Sub h h') (y:IsLam h f body sc x):IsLam h' f body sc x:=by
  obtain ⟨o,fd,h1,h2,h3,h4,h5,r⟩:=y.get
  exact ⟨o,fd,k _ _ h1,h2,h3,h4,(let ⟨c,o,vs,t,a,b,d⟩:=h5; ⟨c,o,vs,t,a,k _ _ b,d⟩),r⟩
theorem lam_call {A:Around} {E:Value→Shared→Prop} {s:Shared} {hot:Addr→Prop} {f:Addr} {body:PySem.Expr} {x:Str} {v:Value} {c:V} {Q:Value→Shared→Prop} (hA:Room A (n + 1)) (hB:Sub W.B s.heap) (al:∀ a,hot a→∃ o,s.heap.get? a = some o)
    (hf:IsLam s.heap f body sc x) (ok:okNames sc [x] = true) (h:Ev (W.at s.heap hB) n sc [(x,.val (.val v))] body c)
    (k:∀ v s',Grow s s'→Rd s'.heap hot c v→Q v s'):wpAny (model W.prog W.w) A (call (.ref f) [v]) Q E s:=by
  obtain ⟨o,fd,h1,h2,h3,rfl,h5,h6,h7,h8,h9⟩:=hf.get
  have ok':=okNames_ok ok
  refine wpAny_call (kla_callFunE hA.lim h1 h2 ok'.co ok'.gen h3 h5 (BindsTo.of_eq (h9 v) _ _ _ _ ?_))
  rw [h6]
  refine wpAny_newFunctionEnv_cells ok'.kind (fun y hy=>?_) fun env he s' y=>?_
  · have hy':=List.mem_singleton.mp hy
    subst hy'
    rcases ok'.lc x (by simp) with q | q
    · exact .inl q
    · exact .inr ⟨q,lookup_cellsFrom _ _ _ _ (.inl q)⟩
  · subst he
    refine ⟨(W.hnl.keeps hB).keeps y.toInCall.keep,kla_codeExpr ?_⟩
    have rv:Rds s.heap hot [V.val v] [v]:=.cons mk_val .nil
    have F:=Fm.start (W:=W.at s.heap hB) (ps:=[x]) (ls:=[]) (fun b o e=>e) al rv rfl ok' rfl h7 h8 rfl y
    exact h.run _ rfl _ hA.deeper s' _ _ _ F.good fun v' s₂ g r=>k v' s₂ (F.grow.trans g) (r.less fun ψ h=>.inl h)
end
section
open PySem.Builtin.Re
noncomputable def amp (l:List Nat):List Nat:=l.flatMap fun c=>if sp c then [92,c] else [c]
theorem amp_free {l:List Nat} (h:∀ c∈l,sp c = false):amp l = l:=by
  unfold amp
  induction l with
  | nil=>rfl
  | cons c l ih=>
    rw [List.flatMap_cons,h c (List.mem_cons_self ..),ih fun x hx=>h x (List.mem_cons_of_mem _ hx)]; rfl
theorem amp_append (a b:List Nat):amp (a ++ b) = amp a ++ amp b:=by unfold amp; rw [List.flatMap_append]
theorem amp_len:∀ l:List Nat,(amp l).length≤2 * l.length
  | []=>by simp [amp]
  | c :: l=>by
    have ih:=amp_len l
    unfold amp at ih ⊢
    rw [List.flatMap_cons,List.length_append,List.length_cons]
    have:(if sp c then [92,c] else [c]).length≤2:=by split <;> simp
    exact o42 ih this
theorem nextAt_some {text:Array Nat}:∀ {fuel s j:Nat},nextAt text fuel s = some j→s≤j∧j < text.size∧sp (text.getD j 0) = true∧∀ i,s≤i→i < j→sp (text.getD i 0) = false
  | 0,s,j,h=>by cases h
  | fuel + 1,s,j,h=>by
    unfold nextAt at h
    split at h
    · cases h
    · split at h
      · cases h; exact ⟨Nat.le_refl _,by exact o38 (by assumption),by assumption,fun i a b=>by omega⟩
      · rename_i h1 h2
        obtain ⟨a,b,c,d⟩:=nextAt_some h
        refine ⟨by exact o4 a,b,c,fun i h3 h4=>?_⟩
        by_cases e:i = s
        · subst e; simpa using h2
        · exact d i (by exact o43 h3 e) h4
theorem nextAt_none {text:Array Nat}:∀ {fuel s:Nat},nextAt text fuel s = none→text.size + 1 - s≤fuel→∀ i,s≤i→i < text.size→sp (text.getD i 0) = false
  | 0,s,h,hf,i,a,b=>by omega
  | fuel + 1,s,h,hf,i,a,b=>by
    unfold nextAt at h
    split at h
    · omega
    · split at h
      · cases h
      · rename_i h1 h2
        by_cases e:i = s
        · subst e; simpa using h2
        · exact nextAt_none h (by exact o44 hf) i (by exact o43 a e) b
theorem amp_none {l:List Nat} {d:Nat} (hd:d≤l.length) (h:∀ i,d≤i→i < l.length→sp (l.getD i 0) = false):amp l = amp (l.take d) ++ l.drop d:=by
  have e:l = l.take d ++ l.drop d:=(List.take_append_drop d l).symm
  have h2:amp (l.drop d) = l.drop d:=amp_free fun c hc=>by
    obtain ⟨i,hi,rfl⟩:=List.mem_iff_getElem.mp hc
    rw [List.length_drop] at hi
    have:=h (d + i) (by exact o45) (by exact o46 hi)
    rw [List.getD_eq_getElem?_getD,List.getElem?_eq_getElem (by exact o46 hi)] at this
    simpa using this
  have e2:amp l = amp (l.take d ++ l.drop d):=by rw [List.take_append_drop]
  rw [e2,amp_append,h2]
theorem amp_some {l:List Nat} {d j c:Nat} (hd:d≤j) (hj:l[j]? = some c) (hs:sp c = true) (h:∀ i,d≤i→i < j→sp (l.getD i 0) = false):amp (l.take (j + 1)) = amp (l.take d) ++ (l.drop d).take (j - d) ++ [92,c]:=by
  have hlt:j < l.length:=(List.getElem?_eq_some_iff.mp hj).1
  have e:l.take (j + 1) = l.take d ++ ((l.drop d).take (j - d) ++ [c]):=by
    rw [List.take_add_one,hj]
    have:l.take j = l.take d ++ (l.drop d).take (j - d):=by
      have:=List.take_add (l:=l) (i:=d) (j:=j - d)
      rwa [Nat.add_sub_cancel' hd] at this
    rw [this,List.append_assoc]; rfl
  have h2:amp ((l.drop d).take (j - d)) = (l.drop d).take (j - d):=amp_free fun x hx=>by
    obtain ⟨i,hi,rfl⟩:=List.mem_iff_getElem.mp hx
    rw [List.length_take,List.length_drop] at hi
    have:=h (d + i) (by exact o45) (by exact o47 hd hlt hi)
    rw [List.getD_eq_getElem?_getD,List.getElem?_eq_getElem (by exact o48 hd hlt hi)] at this
    simpa using this
  rw [e,amp_append,amp_append,h2,List.append_assoc]
  congr 2
  unfold amp
  simp [hs]
noncomputable def IsPat (h:Heap) (P:Addr):Prop:=
  ∃ fs C items k,h.get? P = some { cls:=.type "re.Pattern",data:=.fields fs }∧reRawNat (fs.getD 2 .none) = 1∧fs.getD 5 .none = .ref C∧reRawNat (fs.getD 6 .none) = 0∧(∃ oc,h.get? C = some oc∧oc.data = .seq items k)∧(items.map reRawOf).map (·.toNat) = rCQ
theorem IsPat.sub {h h':Heap} {P:Addr} (k:Sub h h') (x:IsPat h P):IsPat h' P:=by
  obtain ⟨fs,C,items,q,h1,h2,h3,h4,⟨oc,h5,h6⟩,h7⟩:=x
  exact ⟨fs,C,items,q,k _ _ h1,h2,h3,h4,⟨oc,k _ _ h5,h6⟩,h7⟩
section
variable {prog:Program} {w:World} {A:Around} {E:Value→Shared→Prop} {s:Shared}
noncomputable def theT (P:Addr) (l:List Nat) (t:Tok):ReTarget:={ pattern:=.ref P,string:=.str (St l) t,code:=rCQ,text:=(St l).cps,kind:=0,groups:=1,pos:=0,lim:=(St l).cps.size }
theorem whole_target {P:Addr} {l:List Nat} {t:Tok} {Q:ReTarget→Shared→Prop} (hP:IsPat s.heap P) (h:Q (theT P l t) s):wpAny (model prog w) A (reWholeTarget (.ref P) (.str (St l) t)) Q E s:=by
  obtain ⟨fs,C,items,k,h1,h2,h3,h4,⟨oc,h5,h6⟩,h7⟩:=hP
  unfold reWholeTarget
  refine wpAny_bind (wpAny_fieldsOf h1 rfl ?_)
  refine wpAny_bind (wpAny_of_eq (a:=((St l).cps,0)) (by rfl) ?_)
  simp only [h4,h3,h2]
  refine KFB.if_not rfl ?_
  refine KFB.if_not rfl ?_
  refine wpAny_bind (wpAny_of_eq (a:=()) (by rfl) ?_)
  refine wpAny_bind (m:=reRawItems (.ref C)) ?_
  unfold reRawItems
  refine wpAny_bind (wpAny_seqItems h5 h6 (wpAny_pure (wpAny_pure ?_)))
  have e:(Array.map reRawOf ((some items).getD #[])).map (·.toNat) = rCQ:=h7
  rw [e]
  exact h
theorem new_match {P:Addr} {l:List Nat} {t:Tok} {m:Sre.M} {j:Nat} {Q:Value→Shared→Prop} (h1:m.start = j) (h2:m.handed = j + 1) (h3:m.marks = #[some j,some (j + 1)]) (h4:m.lastmark = 1) (h5:m.lastindex = 1)
    (h:∀ M h',Sub s.heap h'→IsMatch h' M l j→Q (.ref M) { s with heap:=h' }):wpAny (model prog w) A (reNewMatch (.ref P) (.str (St l) t) 1 0 l.length m) Q E s:=by
  unfold reNewMatch
  rw [h1,h2,h3,h4,h5]
  refine KFB.if_not (by simp) ?_
  refine wpAny_bind (wpAny_newTuple (items:=[rawInt j,rawInt (j + 1:Nat),rawInt j,rawInt (j + 1:Nat)]) ?_ (by rw [sizeLine_eq]; simp))
  refine wpAny_newObj_type (h _ _ (fun b o e=>Heap.get?_push_of_some _ (Heap.get?_push_of_some _ e)) ?_)
  exact ⟨t,.ref P,s.heap.objs.size,0,Heap.get?_push_size _ rfl,Heap.get?_push_of_some _ (Heap.get?_push_size _ rfl)⟩
end
section
variable {W:Wo} {n:Nat}
theorem plain_loop:plainId "re.Pattern.sub.loop" = true:=by kernel_rfl
noncomputable def LamOk (W:Wo) (n:Nat) (f:Addr) (l:List Nat) (s₀:Shared):Prop:=
  ∀ (A:Around) (s:Shared) (E:Value→Shared→Prop) (Q:Value→Shared→Prop) (m:Addr) (j c:Nat),Room A n→Sub s₀.heap s.heap→IsMatch s.heap m l j→l[j]? = some c→sp c = true →
    (∀ t s',Grow s s'→Q (.str (St [92,c]) t) s')→wpAny (model W.prog W.w) A (call (.ref f) [.ref m]) Q E s
noncomputable def PieceAt (h:Heap) (D:Addr) (lt:List (Str × Tok)):Prop:=∃ k,h.get? D = some { cls:=.type "list",data:=.seq (strValues lt).toArray k }
theorem PieceAt.sub {h h':Heap} {D:Addr} {lt:List (Str × Tok)} (k:Sub h h') (x:PieceAt h D lt):PieceAt h' D lt:=x.imp fun ψ e=>k _ _ e
theorem strSub_St (l:List Nat) (a b:Nat):(⟨(St l).cps.extract a b⟩:Str) = St ((l.drop a).take (b - a)):=by
  unfold St
  congr 1
  apply Array.toList_inj.mp
  simp [List.extract]
theorem push_piece {A:Around} {E:Value→Shared→Prop} {s:Shared} {D:Addr} {lt:List (Str × Tok)} {x:Str} {u:Tok} {Q:Unit→Shared→Prop} (hD:PieceAt s.heap D lt) (hz:lt.length≤1000000)
    (h:∀ h',Heap.SameBut D s.heap h'→PieceAt h' D (lt ++ [(x,u)])→Q () { s with heap:=h' }):wpAny (model W.prog W.w) A (updateSeq D (·.push (.str x u))) Q E s:=by
  obtain ⟨k,hk⟩:=hD
  have hl:(strValues lt).toArray.size = lt.length:=by simp [strValues]
  refine wpAny_updateSeq hk rfl (h _ (Heap.SameBut.update ..) ⟨k + 1,?_⟩) (by rw [hl,sizeLine_eq]; exact o6 hz) (by simp only [Array.size_push]; rw [hl,sizeLine_eq]; omega)
  rw [Heap.get?_update_self _ hk (by rw [PyProof.Rows.mapSeq_push]; rfl),PyProof.Rows.mapSeq_push]
  simp [strValues]
noncomputable def flatL (lt:List (Str × Tok)):List Nat:=(lt.map fun p=>p.1.cps.toList).flatten
theorem flatL_snoc (lt:List (Str × Tok)) (x:List Nat) (u:Tok):flatL (lt ++ [(St x,u)]) = flatL lt ++ x:=by unfold flatL; simp [St]
theorem ite_cases {α:Type} {M:Model} {A:Around} {E:Value→Shared→Prop} {s:Shared} {c:Prop} [Decidable c] {a b:Sem α} {Q:α→Shared→Prop} (ha:c→wpAny M A a Q E s) (hb:¬ c→wpAny M A b Q E s):wpAny M A (if c then a else b) Q E s:=by
  by_cases h:c
  · rw [if_pos h]; exact ha h
  · rw [if_neg h]; exact hb h
theorem sub_loop {f P:Addr} {l:List Nat} {t:Tok} {s₀:Shared} {D:Addr} {R:Result→Shared→Prop} {A:Around} (hl:l.length≤100000) (hA:Room A (n + 1)) (hP:IsPat s₀.heap P) (hf:LamOk W n f l s₀) (hD0:s₀.heap.get? D = none)
    (k:∀ t' s',Grow s₀ s'→R (.ok (.ret (.str (St (amp l)) t'))) s') :
    ∀ (fuel d:Nat) (m:Int) (s:Shared) (lt:List (Str × Tok)),l.length - d < fuel→d≤l.length→Grow s₀ s→PieceAt s.heap D lt→flatL lt = amp (l.take d)→lt.length≤2 * d →
      codeAny (model W.prog W.w) A (.builtin "re.Pattern.sub.loop" ⟨[.ref P,.str (St l) t,.ref f,rawInt 1,rawInt 0,rawInt m,rawInt d,rawInt d,.bool false,.ref D,.bool false],[]⟩) R s:=by
  intro fuel
  induction fuel with
  | zero=>intro d m s lt h; omega
  | succ fuel ih=>
    intro d m s lt hfu hd g hD hfl hlt
    have hsz:(St l).cps.size = l.length:=by simp [St]
    have hgd:∀ i,(St l).cps.getD i 0 = l.getD i 0:=fun i=>by simp [St]
    have samePlus:∀ {h':Heap} {s₁:Shared},Grow s₀ s₁→Heap.SameBut D s₁.heap h'→Grow s₀ { s₁ with heap:=h' }:=fun g₁ hs'=>⟨fun b o e=>(hs'.2 b (fun q=>by rw [q,hD0] at e; cases e)).trans (g₁.sub b o e),g₁.os,g₁.gens⟩
    have sizeS:∀ a b:Nat,((l.drop a).take (b - a)).length≤100000:=fun a b=>by rw [List.length_take,List.length_drop]; exact o49 hl
    refine codeAny_builtin rp_entry_loop ?_
    rw [Around.under_plainId plain_loop _]
    unfold Builtin.«re.Pattern.sub.loop»
    refine wpAny_bind (whole_target (hP.sub g.sub) ?_)
    refine KFB.if_not rfl ?_
    refine wpAny_bind (KFB.if_not rfl ?_)
    rw [Int.toNat_natCast]
    refine next_found (t:=theT P l t) rfl rfl rfl (by show d≤(St l).cps.size; rw [hsz]; exact hd) (fun j hj m₁ h1 h2 h3 h4 h5=>?_) (fun hj=>?_)
    · obtain ⟨a1,a2,a3,a4⟩:=nextAt_some hj
      replace a2:j < l.length:=by rw [← hsz]; exact a2
      have hjc:l[j]? = some (l.getD j 0):=by rw [List.getD_eq_getElem?_getD,List.getElem?_eq_getElem a2]; rfl
      have hsp:sp (l.getD j 0) = true:=by rw [← hgd]; exact a3
      have hamp:=amp_some a1 hjc hsp fun i x y=>by rw [← hgd]; exact a4 i x y
      dsimp only
      rw [h1,h2,show (j + 1 == j) = false by simp]
      refine ite_cases (fun hc=>?_) (fun hc=>?_)
      · refine wpAny_bind (m:=reSlice (St l).cps 0 d j) ?_
        show wpAny _ _ (mkStr ⟨(St l).cps.extract d j⟩) _ _ _
        rw [strSub_St]
        refine wpAny_mkStr ?_ (by rw [St_len,sizeLine_eq]; have:=sizeS d j; exact o50 this)
        refine wpAny_bind (push_piece (lt:=lt) hD (by exact o51 hl hd hlt) fun h' hs' hD₂=>?_)
        have g₂:=samePlus (g.trans .tok) hs'
        have hf₂:flatL (lt ++ [(St ((l.drop d).take (j - d)),s.toks)]) = amp (l.take d) ++ (l.drop d).take (j - d):=by rw [flatL_snoc,hfl]
        have hl₂:(lt ++ [(St ((l.drop d).take (j - d)),s.toks)]).length≤2 * d + 1:=by rw [List.length_append]; simp; exact hlt
        refine KFB.if_not rfl ?_
        refine wpAny_bind (new_match (l:=l) h1 h2 h3 h4 h5 fun M h'' hk hM=>?_)
        have g₃:=g₂.trans (Grow.mk' (t:=s.toks + 1) hk)
        refine wpAny_bind (wpAny_holding (KFB.if_so rfl (hf _ _ _ _ M j _ hA.in1 g₃.sub hM hjc hsp fun t' s' g'=>?_)))
        refine KFB.if_so rfl ?_
        refine wpAny_bind (push_piece (PieceAt.sub g'.sub (PieceAt.sub hk hD₂)) (by omega) fun h₃ hs₃ hD₃=>?_)
        have g₄:=samePlus (g₃.trans g') hs₃
        refine wpAny_pure ⟨plainId_quiet plain_loop _,?_⟩
        exact ih (j + 1) (m + 1) _ _ (by exact o52 hfu a2 hc) (by exact o53 a2) g₄ hD₃ (by rw [flatL_snoc,hf₂,hamp]) (by rw [List.length_append]; simp only [List.length_cons,List.length_nil]; omega)
      · have hdj:d = j:=by exact o5 a1 hc
        have hf₂:flatL lt = amp (l.take d) ++ (l.drop d).take (j - d):=by rw [hfl,hdj]; simp
        refine KFB.if_not rfl ?_
        refine wpAny_bind (new_match (l:=l) h1 h2 h3 h4 h5 fun M h'' hk hM=>?_)
        have g₃:=g.trans (Grow.mk' (t:=s.toks) hk)
        refine wpAny_bind (wpAny_holding (KFB.if_so rfl (hf _ _ _ _ M j _ hA.in1 g₃.sub hM hjc hsp fun t' s' g'=>?_)))
        refine KFB.if_so rfl ?_
        refine wpAny_bind (push_piece (PieceAt.sub g'.sub (PieceAt.sub hk hD)) (by exact o54 hl hlt a1 a2) fun h₃ hs₃ hD₃=>?_)
        have g₄:=samePlus (g₃.trans g') hs₃
        refine wpAny_pure ⟨plainId_quiet plain_loop _,?_⟩
        exact ih (j + 1) (m + 1) _ _ (by exact o55 hfu a1 a2) (by exact o53 a2) g₄ hD₃ (by rw [flatL_snoc,hf₂,hamp]) (by rw [List.length_append]; simp only [List.length_cons,List.length_nil]; exact o56 hlt a1)
    · have hn:=nextAt_none hj (Nat.le_refl _)
      have hamp:=amp_none hd fun i x y=>by rw [← hgd]; exact hn i x (by show i < (St l).cps.size; rw [hsz]; exact y)
      dsimp only
      refine ite_cases (fun hc=>?_) (fun hc=>?_)
      · refine wpAny_bind (m:=reSlice (St l).cps 0 d (St l).cps.size) ?_
        show wpAny _ _ (mkStr ⟨(St l).cps.extract d (St l).cps.size⟩) _ _ _
        rw [strSub_St,hsz]
        have ht:(l.drop d).take (l.length - d) = l.drop d:=List.take_of_length_le (by rw [List.length_drop]; omega)
        rw [ht]
        refine wpAny_mkStr ?_ (by rw [St_len,sizeLine_eq,List.length_drop]; exact o57 hl)
        refine wpAny_bind (push_piece (lt:=lt) hD (by exact o51 hl hd hlt) fun h' hs' hD₂=>?_)
        have g₂:=samePlus (g.trans .tok) hs'
        have hf₂:flatL (lt ++ [(St (l.drop d),s.toks)]) = amp l:=by rw [flatL_snoc,hfl,hamp]
        refine wpAny_bind (m:=reSlice (St l).cps 0 0 0) ?_
        show wpAny _ _ (mkStr ⟨(St l).cps.extract 0 0⟩) _ _ _
        rw [strSub_St]
        refine wpAny_mkStr ?_ (by rw [St_len,sizeLine_eq]; simp)
        obtain ⟨kk,hDk⟩:=hD₂
        refine wpAny_bind (wpAny_seqItems hDk rfl ?_)
        refine ite_cases (fun he=>?_) (fun he=>?_)
        · have hnil:lt ++ [(St (l.drop d),s.toks)] = []:=by
            have:(strValues (lt ++ [(St (l.drop d),s.toks)])).toArray.isEmpty = true:=he
            simpa [strValues] using this
          have hamp0:amp l = []:=by rw [← hf₂,hnil]; rfl
          refine wpAny_bind (wpAny_pure (KFB.if_not rfl (wpAny_pure ?_)))
          have:=k (s.toks + 1) _ (g₂.trans (.tok (t:=(s.toks + 1) + 1)))
          rw [hamp0] at this
          simpa using this
        · have htot:((lt ++ [(St (l.drop d),s.toks)]).map (·.1.length)).sum = (amp l).length:=by
            rw [← hf₂]; unfold flatL
            rw [List.length_flatten,List.map_map]; rfl
          refine wpAny_bind (m:=call (Value.builtin "str.join") [_,Value.ref D]) ?_
          refine SC.join ⟨_,hDk,rfl,_,rfl⟩ rfl ?_ fun t' tk=>?_
          · unfold JoinOk
            rw [StrLaws.joinTotal,Bool.not_eq_true']
            have e1:(((lt ++ [(St (l.drop d),s.toks)]).map (·.1)).map (·.length)).sum = (amp l).length:=by rw [List.map_map]; exact htot
            rw [e1]
            have:=amp_len l
            unfold Builtin.Str.tooLong
            rw [sizeLine_eq,decide_eq_false_iff_not]
            have e2:(St ((l.drop 0).take (0 - 0))).length = 0:=by rw [St_len]; simp
            rw [e2]; exact o58 hl this
          · refine KFB.if_not rfl (wpAny_pure ?_)
            have e3:Txt.join (St ((l.drop 0).take (0 - 0))) ((lt ++ [(St (l.drop d),s.toks)]).map (·.1)) = St (amp l):=by
              have h0:(l.drop 0).take (0 - 0) = []:=by simp
              rw [h0]
              have h1:(lt ++ [(St (l.drop d),s.toks)]).map (·.1) = ((lt ++ [(St (l.drop d),s.toks)]).map fun p=>p.1.cps.toList).map St:=by
                rw [List.map_map]; apply List.map_congr_left; intro p _; simp [St]
              rw [h1,join_St,jNQ,← hf₂]; rfl
            rw [e3]
            exact k _ _ ((g₂.trans .tok).trans .tok)
      · have hf₂:flatL lt = amp l:=by
          have:d = l.length:=by
            have:¬ d < (St l).cps.size:=hc
            rw [hsz] at this; exact o5 hd this
          rw [hfl,hamp,this]; simp
        refine wpAny_bind (m:=reSlice (St l).cps 0 0 0) ?_
        show wpAny _ _ (mkStr ⟨(St l).cps.extract 0 0⟩) _ _ _
        rw [strSub_St]
        refine wpAny_mkStr ?_ (by rw [St_len,sizeLine_eq]; simp)
        obtain ⟨kk,hDk⟩:=hD
        refine wpAny_bind (wpAny_seqItems hDk rfl ?_)
        refine ite_cases (fun he=>?_) (fun he=>?_)
        · have hnil:lt = []:=by
            have:(strValues lt).toArray.isEmpty = true:=he
            simpa [strValues] using this
          have hamp0:amp l = []:=by rw [← hf₂,hnil]; rfl
          refine wpAny_bind (wpAny_pure (KFB.if_not rfl (wpAny_pure ?_)))
          have:=k s.toks _ (g.trans (.tok (t:=s.toks + 1)))
          rw [hamp0] at this
          simpa using this
        · have htot:(lt.map (·.1.length)).sum = (amp l).length:=by
            rw [← hf₂]; unfold flatL
            rw [List.length_flatten,List.map_map]; rfl
          refine wpAny_bind (m:=call (Value.builtin "str.join") [_,Value.ref D]) ?_
          refine SC.join ⟨_,hDk,rfl,_,rfl⟩ rfl ?_ fun t' tk=>?_
          · unfold JoinOk
            rw [StrLaws.joinTotal,Bool.not_eq_true']
            have e1:((lt.map (·.1)).map (·.length)).sum = (amp l).length:=by rw [List.map_map]; exact htot
            rw [e1]
            have:=amp_len l
            unfold Builtin.Str.tooLong
            rw [sizeLine_eq,decide_eq_false_iff_not]
            have e2:(St ((l.drop 0).take (0 - 0))).length = 0:=by rw [St_len]; simp
            rw [e2]; exact o58 hl this
          · refine KFB.if_not rfl (wpAny_pure ?_)
            have e3:Txt.join (St ((l.drop 0).take (0 - 0))) (lt.map (·.1)) = St (amp l):=by
              have h0:(l.drop 0).take (0 - 0) = []:=by simp
              rw [h0]
              have h1:lt.map (·.1) = (lt.map fun p=>p.1.cps.toList).map St:=by
                rw [List.map_map]; apply List.map_congr_left; intro p _; simp [St]
              rw [h1,join_St,jNQ,← hf₂]; rfl
            rw [e3]
            exact k _ _ ((g.trans .tok).trans .tok)
end
end
section
open PySem.Builtin.Re
theorem fn_lookup_call:∃ v,typeLookup (.type "function") "__call__" = pure (some v):=⟨.builtin "function.__call__",by rw [typeLookup_type,builtinLookup_eq_fast]; kernel_rfl⟩
theorem sub_str_ba:isSubtype (.type "str") (.type "bytearray") = pure false:=by rw [isSubtype_type]; kernel_rfl
section
variable {W:Wo} {n:Nat}
theorem run_sub {f P:Addr} {l:List Nat} {t:Tok} {A:Around} {s:Shared} {R:Result→Shared→Prop} (hl:l.length≤100000) (hA:Room A (n + 1)) (hP:IsPat s.heap P) (hf:LamOk W n f l s) (hF:∃ o,s.heap.get? f = some o∧o.cls = .type "function")
    (k:∀ t' s',Grow s s'→R (.ok (.ret (.str (St (amp l)) t'))) s'):wpAny (model W.prog W.w) A.in1 (Builtin.«re.Pattern.sub» ⟨[.ref P,.ref f,.str (St l) t],[]⟩) (fun fin s'=>match fin with | .done f=>R (.ok f) s' | .again c'=>c'.quiet = true∧codeAny (model W.prog W.w) A c' R s') (fun e s'=>R (.error e) s') s:=by
  obtain ⟨o,ho,hoc⟩:=hF
  obtain ⟨v,hv⟩:=fn_lookup_call
  show wpAny _ _ (reSubstitute "re.Pattern.sub" "sub" false ⟨[.ref P,.ref f,.str (St l) t],[]⟩) _ _ _
  unfold reSubstitute
  refine wpAny_bind (wpAny_of_eq (a:=[some (.ref f),some (.str (St l) t),none]) (by first | rfl | kernel_rfl) ?_)
  refine wpAny_bind (wpAny_pure ?_)
  refine wpAny_bind (wpAny_specialOf (T:="function") ⟨o,ho,hoc⟩ hv ?_)
  refine KFB.if_so (c:=(some v).isSome) rfl ?_
  refine wpAny_bind (wpAny_pure ?_)
  refine KFB.if_so (c:=(some v).isSome) rfl ?_
  refine wpAny_bind (wpAny_pure ?_)
  refine wpAny_bind (wpAny_holding (whole_target hP ?_))
  refine KFB.if_so rfl ?_
  refine wpAny_bind (m:=reNotHeld "re.Pattern.sub" (.str (St l) t)) ?_
  unfold reNotHeld
  refine wpAny_bind (wpAny_isInstance (T:="str") (b:=false) (typeIs_str _ _ _) sub_str_ba ?_)
  refine KFB.if_not rfl ?_
  refine wpAny_pure ?_
  refine wpAny_bind (wpAny_newList ?_ (by rw [sizeLine_eq]; simp))
  have up:Sub s.heap (s.heap.push { cls:=.type "list",data:=.seq ([]:List Value).toArray }):=fun b o e=>Heap.get?_push_of_some _ e
  have g:Grow s { s with heap:=s.heap.push { cls:=.type "list",data:=.seq ([]:List Value).toArray } }:=⟨up,rfl,fun e=>e⟩
  refine wpAny_pure ⟨plainId_quiet plain_loop _,?_⟩
  exact sub_loop (s₀:=s) (D:=s.heap.objs.size) hl hA hP hf (gNQ _) k (l.length + 1) 0 0 _ [] (by exact o59) (Nat.zero_le _) g ⟨0,Heap.get?_push_size _ rfl⟩ (by simp [flatL,amp]) (Nat.le_refl _)
theorem call_sub {f P:Addr} {l:List Nat} {t:Tok} {A:Around} {s:Shared} {E:Value→Shared→Prop} {Q:Value→Shared→Prop} (hl:l.length≤100000) (hA:Room A (n + 1)) (hP:IsPat s.heap P) (hf:LamOk W n f l s) (hF:∃ o,s.heap.get? f = some o∧o.cls = .type "function")
    (k:∀ t' s',Grow s s'→Q (.str (St (amp l)) t') s'):wpAny (model W.prog W.w) A (call (.builtin "re.Pattern.sub") [.ref P,.ref f,.str (St l) t]) Q E s:=by
  have hT:s.TypeIs (.ref P) "re.Pattern":=by
    obtain ⟨fs,C,items,q,h1,_⟩:=hP
    exact ⟨_,h1,rfl⟩
  exact wpAny_call (codeAny_call_builtin rp_slot.plain rp_entry (rp_slot.check _ _ _ _ _ _ _ _ hT (rp_args _ _ _) (wpAny_mono (run_sub (R:=fun r s'=>match r with | .ok (.ret v)=>Q v s' | .ok _=>False | .error e=>E e s') hl hA hP hf hF k) (fun fin s' h=>by
    cases fin with
    | done f=>exact h
    | again c=>exact h) fun ψ ψ h=>h)))
end
end
structure TC where
  here:Bool
  c:Addr
  P:Addr
  q:Str
  pos:Pos
noncomputable def TabOk (T:TC) (h:Heap) (hot:Addr→Prop):Prop:=
  ∃ ps,h.get? T.P = some (tabObj ps)∧TriplesOk ps.toList∧(codeAmong T.pos ps.toList = none∨∃ c',codeAmong T.pos ps.toList = some (.ref c')∧h.CodeRec (.ref c') (T.q ++ "<lambda>")∧¬ hot c')
theorem TabOk.mono {T:TC} {h h':Heap} {hot hot':Addr→Prop} (x:TabOk T h hot) (hP:∀ o,h.get? T.P = some o→h'.get? T.P = some o) (k:∀ b o,¬ hot b→h.get? b = some o→h'.get? b = some o∧¬ hot' b):TabOk T h' hot':=by
  obtain ⟨ps,e,tr,r⟩:=x
  refine ⟨ps,hP _ e,tr,?_⟩
  rcases r with r | ⟨c',r1,⟨c,o,vs,t,a,b,d⟩,r3⟩
  · exact .inl r
  · cases a
    exact .inr ⟨c',r1,⟨c',o,vs,t,rfl,(k _ _ r3 b).1,d⟩,(k _ _ r3 b).2⟩
structure TIn (T:TC) (env:Env) (base:Shared) (σ:Store) (oa:Str→Addr) (hot:Addr→Prop) (s:Shared):Prop where
  code:T.here = true→env.code = .ref T.c
  qual:T.here = true→env.qual = T.q
  ok:TabOk T s.heap hot
  new:base.heap.get? T.P = none
  isHot:hot T.P
  off:T.P ∉ mutL env σ oa
section
variable {T:TC} {W:Wo} {n:Nat} {sc:Scope} {σ σ':Store} {env:Env} {base s s':Shared} {out hot hot':Addr→Prop} {oa oa':Str→Addr}
theorem TIn.grow (t:TIn T env base σ oa hot s) (g:Grow s s'):TIn T env base σ oa hot s':=
  { t with ok:=t.ok.mono (fun o e=>g.sub _ _ e) fun b o nb e=>⟨g.sub _ _ e,nb⟩ }
theorem TIn.keepTab (t:TIn T env base σ oa hot s) (F:Fm W env base out hot oa σ s) (g:Grow (hidden env σ oa s) s') {hot':Addr→Prop} (hh:∀ a,hot' a→(hot a∧a ∉ mutL env σ oa)∨(hidden env σ oa s).heap.get? a = none):TabOk T s'.heap hot':=
  t.ok.mono (fun o e=>g.sub _ _ (hideAll_get _ e t.off)) fun b o nb e=>by
    have e':(hidden env σ oa s).heap.get? b = some o:=hideAll_get _ e fun q=>nb (F.mutNew _ q).2
    exact ⟨g.sub _ _ e',fun q=>by
      rcases hh b q with q | q
      · exact nb q.1
      · rw [e'] at q; cases q⟩
theorem TIn.keep (t:TIn T env base σ oa hot s) (F:Fm W env base out hot oa σ s) (F':Fm W env (hidden env σ oa s) (fun a=>hot a∧a ∉ mutL env σ oa) hot' oa' σ' s'):TIn T env base σ' oa' hot' s' where
  code:=t.code
  qual:=t.qual
  ok:=t.keepTab F F'.grow fun a ha=>F'.hotnew a ha
  new:=t.new
  isHot:=F'.outhot _ ⟨t.isHot,t.off⟩
  off:=fun hb=>by
    obtain ⟨ps,e,_⟩:=t.ok
    have:=hideAll_get _ e t.off
    have h2:=(F'.mutNew _ hb).1
    rw [show (hidden env σ oa s).heap.get? T.P = some (tabObj ps) from this] at h2
    cases h2
noncomputable def ResT (T:TC) (W:Wo) (env:Env) (base:Shared) (out:Addr→Prop):Res→Flow→Shared→Prop
  | .next σ,f,s=>f = .next∧∃ hot oa,Fm W env base out hot oa σ s∧TIn T env base σ oa hot s
  | .cont σ,f,s=>f = .cont∧∃ hot oa,Fm W env base out hot oa σ s∧TIn T env base σ oa hot s
  | .brk σ,f,s=>f = .brk∧∃ hot oa,Fm W env base out hot oa σ s∧TIn T env base σ oa hot s
  | .ret d,f,s=>∃ v,f = .ret v∧Grow base s∧Rd s.heap out d v∧TabOk T s.heap out
structure RunsT (T:TC) (W:Wo) (n:Nat) (sc:Scope) (st:Stmt) (σ:Store) (r:Res):Prop where
  run:∀ env,env.scope = sc→∀ A,Room A n→∀ base out hot oa s (Q:Flow→Shared→Prop) E,Fm W env base out hot oa σ s→TIn T env base σ oa hot s →
    (∀ f s',ResT T W env base out r f s'→Q f s')→wpAny (model W.prog W.w) A (exec st env) Q E s
structure TQ (T:TC) (W:Wo) (n:Nat) (sc:Scope) (sts:List Stmt) (σ:Store) (r:Res):Prop where
  run:∀ env,env.scope = sc→∀ A,Room A n→∀ base out hot oa s (Q:Flow→Shared→Prop) E,Fm W env base out hot oa σ s→TIn T env base σ oa hot s →
    (∀ f s',ResT T W env base out r f s'→Q f s')→wpAny (model W.prog W.w) A (execs sts env) Q E s
theorem ResT.of {r:Res} {f:Flow} (t:TIn T env base σ oa hot s) (F:Fm W env base out hot oa σ s) (h:ResOk W env (hidden env σ oa s) (fun a=>hot a∧a ∉ mutL env σ oa) r f s'):ResT T W env base out r f s':=by
  have db:∀ {hot' oa' σ'},Fm W env (hidden env σ oa s) (fun a=>hot a∧a ∉ mutL env σ oa) hot' oa' σ' s'→Fm W env base out hot' oa' σ' s':=fun F'=>F'.debase F.grow_hidden F.wbase F.outMut (fun a ha=>F.hotnew a ha.1) F.outlive
  cases r with
  | next σ'=>obtain ⟨rfl,hot',oa',F'⟩:=h; exact ⟨rfl,hot',oa',db F',t.keep F F'⟩
  | cont σ'=>obtain ⟨rfl,hot',oa',F'⟩:=h; exact ⟨rfl,hot',oa',db F',t.keep F F'⟩
  | brk σ'=>obtain ⟨rfl,hot',oa',F'⟩:=h; exact ⟨rfl,hot',oa',db F',t.keep F F'⟩
  | ret d=>
    obtain ⟨v,rfl,g,rv⟩:=h
    exact ⟨v,rfl,F.grow_hidden.trans g,rv.less F.outMut,t.keepTab F g fun a ha=>.inl (F.outMut a ha)⟩
theorem RunsT.of {st:Stmt} {r:Res} (h:Runs W n sc st σ r):RunsT T W n sc st σ r:=
  ⟨fun env he A hA base out hot oa s Q E F t k=>h.run env he A hA _ _ hot oa s Q E F.rebase fun f s' ok=>k f s' (ResT.of t F ok)⟩
theorem TQ.of {sts:List Stmt} {r:Res} (h:RQ W n sc sts σ r):TQ T W n sc sts σ r:=
  ⟨fun env he A hA base out hot oa s Q E F t k=>h.run env he A hA _ _ hot oa s Q E F.rebase fun f s' ok=>k f s' (ResT.of t F ok)⟩
theorem TQ.nil:TQ T W n sc [] σ (.next σ):=.of .nil
theorem TQ.cons {st:Stmt} {sts:List Stmt} {r:Res} (h:RunsT T W n sc st σ (.next σ')) (h2:TQ T W n sc sts σ' r):TQ T W n sc (st :: sts) σ r:=
  ⟨fun env he A hA base out hot oa s Q E F t k=>wpAny_execs_cons (h.run env he A hA base out hot oa s _ E F t fun f s' x=>by
    obtain ⟨rfl,hot',oa',F',t'⟩:=x
    exact h2.run env he A hA base out hot' oa' s' Q E F' t' k)⟩
theorem TQ.con {st:Stmt} {sts:List Stmt} {r:Res} (h:Runs W n sc st σ (.next σ')) (h2:TQ T W n sc sts σ' r):TQ T W n sc (st :: sts) σ r:=.cons (.of h) h2
theorem RunsT.ifT {t:PySem.Expr} {a b:List Stmt} {pos} {r:Res} (h:EvT W n sc σ t true) (ha:TQ T W n sc a σ r):RunsT T W n sc (.If t a b pos) σ r:=
  ⟨fun env he A hA base out hot oa s Q E F tt k=>wpAny_If (h.run env he A hA s hot _ E F.good fun s' g=>by
    simp only [if_true]
    exact ha.run env he A hA base out hot oa s' Q E (F.grown g) (tt.grow g) k)⟩
theorem RunsT.ifF {t:PySem.Expr} {a b:List Stmt} {pos} {r:Res} (h:EvT W n sc σ t false) (hb:TQ T W n sc b σ r):RunsT T W n sc (.If t a b pos) σ r:=
  ⟨fun env he A hA base out hot oa s Q E F tt k=>wpAny_If (h.run env he A hA s hot _ E F.good fun s' g=>by
    simp only [Bool.false_eq_true,if_false]
    exact hb.run env he A hA base out hot oa s' Q E (F.grown g) (tt.grow g) k)⟩
theorem RunsT.while {t:PySem.Expr} {body:List Stmt} {pos:Pos} (P:Nat→Store→Prop) (N:Nat) (Z:Store) (h0:P 0 σ) (step:∀ i σ,i < N→P i σ→EvT W n sc σ t true∧∃ σ',TQ T W n sc body σ (.next σ')∧P (i + 1) σ')
    (last:∀ σ,P N σ→EvT W n sc σ t false∧σ = Z):RunsT T W n sc (.While t body [] pos) σ (.next Z):=
  ⟨fun env he A hA base out hot oa s Q E F tt k=>by
    refine wpAny_While (codeAny_whileLoop (fun m s=>∃ i σ hot oa,i + m = N∧P i σ∧Fm W env base out hot oa σ s∧TIn T env base σ oa hot s) (fun m s₁ inv=>?_) N ⟨0,σ,hot,oa,by exact o32,h0,F,tt⟩)
    obtain ⟨i,σ₁,hot₁,oa₁,hi,hp,F₁,t₁⟩:=inv
    cases m with
    | zero=>
      have:i = N:=by omega
      subst this
      obtain ⟨h1,rfl⟩:=last σ₁ hp
      refine h1.run env he A hA s₁ hot₁ _ _ F₁.good fun s₂ g₂=>?_
      simp only [Bool.false_eq_true,if_false]
      exact wpAny_execs_nil (k _ _ ⟨rfl,hot₁,oa₁,F₁.grown g₂,t₁.grow g₂⟩)
    | succ m=>
      obtain ⟨h1,σ',h2,h3⟩:=step i σ₁ (by exact o30 hi) hp
      refine h1.run env he A hA s₁ hot₁ _ _ F₁.good fun s₂ g₂=>?_
      simp only [if_true]
      refine h2.run env he A hA base out hot₁ oa₁ s₂ _ _ (F₁.grown g₂) (t₁.grow g₂) fun f s₃ ok=>?_
      obtain ⟨rfl,hot',oa',F',t'⟩:=ok
      exact ⟨m,Nat.lt_succ_self _,i + 1,σ',hot',oa',by exact o31 hi,h3,F',t'⟩⟩
structure TB (T:TC) (W:Wo):Prop where
  hd:CodeHd W.B T.c T.P
  bi:W.B.BuiltinsAt W.mg T.P
theorem TB.ne (b:TB T W) (hP:W.B.get? T.P = none):mainGlobals≠T.P:=fun q=>by
  obtain ⟨o,es,ep,e,_⟩:=W.hg
  rw [q,hP] at e; cases e
theorem make_lam {A:Around} {E:Value→Shared→Prop} {Q:Value→Shared→Prop} {params:Arguments} {body:PySem.Expr} {lsc:Scope} {x:Str} (hh:T.here = true) (B:TB T W) (F:Fm W env base out hot oa σ s) (t:TIn T env base σ oa hot s)
    (hdef:defaultsOf params env = ([],[])) (hcl:closureFor lsc env = pure []) (hb:∀ fd:FuncData,fd.params = params→fd.defaults = .none→fd.kwdefaults = .none→∀ v:Value,bindArgs fd ⟨[v],[]⟩ = pure [(x,v)])
    (k:∀ f s',Fm W env base out hot oa σ s'→TIn T env base σ oa hot s'→(∀ d v,Rd s.heap hot d v→Rd s'.heap hot d v)→IsLam s'.heap f body lsc x→(∃ o,s'.heap.get? f = some o∧o.cls = .type "function")→Q (.ref f) s') :
    wpAny (model W.prog W.w) A (eval (.Lambda params body lsc T.pos) env) Q E s:=by
  have hge0:=F.globals
  have sB:Sub W.B s.heap:=F.good.base
  have hg:s.heap.Ns mainGlobals W.mg:=W.hg.keeps sB
  have nP:W.B.get? T.P = none:=nQ F.wbase t.new
  have C:=B.hd.keeps sB
  have hbi:s.heap.BuiltinsAt W.mg T.P:=let ⟨bm,o,a1,a2,a3,a4,a5,r⟩:=B.bi; ⟨bm,o,a1,a2,a3,a4,sB _ _ a5,r⟩
  obtain ⟨ps,hP,htr,hps⟩:=t.ok
  refine kla_eval hdef ?_
  rw [t.qual hh]
  have fin:∀ (c':Addr) (ctv:Value) (h':Heap) (tk:Nat) (ps':Array Value),(∀ b o,b≠T.P→s.heap.get? b = some o→h'.get? b = some o)→s.heap.objs.size≤h'.objs.size→h'.CodeRec (.ref c') (T.q ++ "<lambda>")→¬ hot c'→h'.get? T.P = some (tabObj ps') →
      TriplesOk ps'.toList→codeAmong T.pos ps'.toList = some (.ref c')→Q (.ref h'.objs.size) { s with heap:=h'.push (kla_obj "<lambda>" (T.q ++ "<lambda>") params body lsc [] ((W.mg "__name__").getD .none) c' ctv),toks:=tk }:=by
    intro c' ctv h' tk ps' hk hsz hrec hnc hP' htr' hps'
    have up:Sub h' (h'.push (kla_obj "<lambda>" (T.q ++ "<lambda>") params body lsc [] ((W.mg "__name__").getD .none) c' ctv)):=fun b o e=>Heap.get?_push_of_some _ e
    have hrec':(h'.push (kla_obj "<lambda>" (T.q ++ "<lambda>") params body lsc [] ((W.mg "__name__").getD .none) c' ctv)).CodeRec (.ref c') (T.q ++ "<lambda>"):=let ⟨c,o,vs,t,a,b,d⟩:=hrec; ⟨c,o,vs,t,a,up _ _ b,d⟩
    have hk':∀ b o,b ∉ [T.P]→s.heap.get? b = some o→(h'.push (kla_obj "<lambda>" (T.q ++ "<lambda>") params body lsc [] ((W.mg "__name__").getD .none) c' ctv)).get? b = some o:=fun b o nb e=>up _ _ (hk b o (by simpa using nb) e)
    refine k _ _ (F.touch (wr:=[T.P]) (tk:=tk) hk' fun b hb=>?_) ⟨t.code,t.qual,⟨ps',up _ _ hP',htr',.inr ⟨c',hps',hrec',hnc⟩⟩,t.new,t.isHot,t.off⟩ (fun d v=>Rd.mono (fun b o nb e=>⟨hk' b o (fun q=>nb (by rw [List.mem_singleton.mp q]; exact t.isHot)) e,nb⟩) d v) ⟨_,_,Heap.get?_push_size _ rfl,rfl,rfl,rfl,hrec',rfl,rfl,rfl,hb _ rfl rfl rfl⟩ ⟨_,Heap.get?_push_size _ rfl,rfl⟩
    obtain rfl:=List.mem_singleton.mp hb
    exact ⟨t.new,t.isHot,t.off,_,up _ _ hP'⟩
  have snoc:∀ c':Addr,(ps ++ #[rawInt T.pos.line,rawInt T.pos.col,Value.ref c']).toList = ps.toList ++ [rawInt T.pos.line,rawInt T.pos.col,Value.ref c']:=fun c'=>by simp
  rcases hps with hnone | ⟨c',hsome,hrec,hnc⟩
  · refine kla_makeFunction hcl hge0 hg (t.code hh) C hP htr hnone (B.ne nP) hbi fun c' ctv h' tk hx hge hlt hrec htb=>?_
    exact fin c' ctv h' tk _ hx (by omega) hrec (fun q=>by obtain ⟨o,e⟩:=F.alive _ q; exact absurd (Heap.lt_size e) (Nat.not_lt.mpr hge)) htb (by rw [snoc]; exact TriplesOk_snoc _ _ _ _ htr) (by rw [snoc]; exact codeAmong_snoc _ htr hnone)
  · refine kla_makeFunctionHit (cv:=.ref c') hcl hge0 hg (t.code hh) C hP htr hsome hbi fun ctv h' tk hk hsz=>?_
    exact fin c' ctv h' tk _ (fun b o ψ e=>hk b o e) hsz (let ⟨c,o,vs,t,a,b,d⟩:=hrec; ⟨c,o,vs,t,a,hk _ _ b,d⟩) hnc (hk _ _ hP) htr hsome
end
section
variable {T:TC} {W:Wo} {n:Nat} {sc:Scope} {σ σ':Store}
noncomputable def LamBody (W:Wo) (n:Nat) (lsc:Scope) (y:Str) (body:PySem.Expr):Prop:=
  ∀ (h:Heap) (k:Sub W.B h) (m:Addr) (l:List Nat) (j c:Nat),IsMatch h m l j→l[j]? = some c→Ev (W.at h k) n lsc [(y,.val (.val (.ref m)))] body (.str [92,c])
theorem RunsT.sub {x y re:Str} {p p0 p1 apos cpos pos:Pos} {params:Arguments} {body:PySem.Expr} {lsc:Scope} {l:List Nat} {P:Addr} {lpos:Pos} (hpos:lpos = T.pos) (hh:T.here = true) (B:TB T W) (hx:(x,Slot.val (.str l))∈σ) (hv:isVar sc x = true) (hl:l.length≤100000)
    (hr:isGlob sc re = true) (hrm:W.mg re = some (.ref P)) (hP:IsPat W.B P) (ok:okNames lsc [y] = true) (hbody:LamBody W n lsc y body)
    (hdef:∀ env,defaultsOf params env = ([],[])) (hcl:∀ env,env.scope = sc→closureFor lsc env = pure []) (hb:∀ fd:FuncData,fd.params = params→fd.defaults = .none→fd.kwdefaults = .none→∀ v:Value,bindArgs fd ⟨[v],[]⟩ = pure [(y,v)])
    (hbase:∀ env,attributeBase (.Name re p0) "sub" env (eval (.Name re p0) env) = eval (.Name re p0) env) (hline:(apos.endLine == cpos.line) = true)
    (hn:∀ env,starEach [.Lambda params body lsc lpos,.Name x p1] env = (false,eval (.Lambda params body lsc lpos) env) :: (false,eval (.Name x p1) env) :: starEach [] env)
    (hp:Put x (.val (.str (amp l))) σ σ') (hna:noApp x σ) (hs:∀ env,swapsWith (.Call (.Attribute (.Name re p0) "sub" apos) [.Lambda params body lsc lpos,.Name x p1] [] cpos) (some (.Name x p)) pos.line env = pure false) :
    RunsT T W (n + 2) sc (.Assign [.Name x p] (.Call (.Attribute (.Name re p0) "sub" apos) [.Lambda params body lsc lpos,.Name x p1] [] cpos) pos) σ (.next σ'):=
  ⟨fun env he A hA base out hot oa s Q E F t k=>by
    subst hpos
    refine wpAny_Assign_Name ?_ (hs env)
    refine wpAny_Call_method_lateS (hbase env) ?_ hline ((Ev.glob (n:=n + 2) hr hrm).run env he A hA s hot _ E F.good fun v s₁ g₁ r₁=>?_)
    · rw [hn]; rfl
    cases rd_val r₁
    have hP₁:=F.good.base
    obtain ⟨fs,C,items,q,hp1,hp2⟩:=hP
    have hP:IsPat W.B P:=⟨fs,C,items,q,hp1,hp2⟩
    refine ⟨"re.Pattern","re.Pattern.sub",rp_plain,rp_slot,rp_ty,⟨_,(F.grown g₁).good.base _ _ hp1,rfl⟩,fun a e=>by cases e; exact ⟨_,(F.grown g₁).good.base _ _ hp1,rfl⟩,?_⟩
    refine callWith_any (W:=W) (by trivial) (by rw [hn]; rfl) ?_
    rw [hn]
    refine Calls.spliced_cons (make_lam hh B (F.grown g₁) (t.grow g₁) (hdef env) (hcl env he) hb fun f s₂ F₂ t₂ keepR hlam hfun=>?_)
    refine Calls.spliced_cons ((Ev.name (n:=n + 2) hx hv).run env he A hA s₂ hot _ E F₂.good fun v s₃ g₃ r₃=>Calls.spliced_nil ⟨(F₂.good.grow g₃).base,?_⟩)
    obtain ⟨u,rfl⟩:=sQ r₃
    have F₃:=F₂.grown g₃
    refine call_sub (W:=W) (n:=n + 1) hl hA (hP.sub F₃.good.base) ?_ (let ⟨o,a,b⟩:=hfun; ⟨o,g₃.sub _ _ a,b⟩) fun t' s₄ g₄=>?_
    · intro A' s' E' Q' m j c hA' hsub hm hj hsp k'
      have hB:Sub W.B s'.heap:=fun b o e=>hsub b o (F₃.good.base b o e)
      refine lam_call (W:=W) (hot:=fun ψ=>False) hA' hB (fun ψ h=>h.elim) (hlam.sub fun b o e=>hsub b o (g₃.sub b o e)) ok (hbody s'.heap hB m l j c hm hj) fun v s'' g'' r''=>?_
      obtain ⟨w,rfl⟩:=sQ r''
      exact k' _ _ g''
    · have F₄:=F₃.grown g₄
      exact F₄.rebase.store hp mk_str hna fun s₅ F₅=>k _ _ (ResT.of ((t₂.grow g₃).grow g₄) F₄ ⟨rfl,hot,oa,F₅⟩)⟩
end
theorem triples_1:∀ l:List Value,TriplesOk l→∀ q t,l[1]?≠some (Value.str q t)
  | [],_,_,_=>fun e=>nomatch e
  | .int _ _ :: .int _ _ :: _ :: _,_,q,t=>fun e=>by simp at e
mutual
theorem Rd.off {h:Heap} {hot hot':Addr→Prop} (k:∀ b o,¬ hot b→h.get? b = some o→o.cls≠.none→¬ hot' b):∀ (d:V) (v:Value),Rd h hot d v→Rd h hot' d v
  | .none,v,x=>by unfold Rd at x ⊢; exact x
  | .bool b,v,x=>by unfold Rd at x ⊢; exact x
  | .int i,v,x=>by unfold Rd at x ⊢; exact x
  | .str l,v,x=>by unfold Rd at x ⊢; exact x
  | .bytes l,v,x=>by unfold Rd at x ⊢; exact x
  | .val w,v,x=>by unfold Rd at x ⊢; exact x
  | .obj,v,x=>by unfold Rd at x ⊢; exact x
  | .rng a b c,v,x=>by
    unfold Rd at x ⊢
    obtain ⟨r,t,u,y,rfl,ha,hr⟩:=x
    exact ⟨r,t,u,y,rfl,k r _ ha hr (by intro e; cases e),hr⟩
  | .list l,v,x=>by
    unfold Rd at x ⊢
    obtain ⟨a,items,rfl,ha,⟨n,hl⟩,hr⟩:=x
    exact ⟨a,items,rfl,k a _ ha hl (by intro e; cases e),⟨n,hl⟩,Rds.off k l _ hr⟩
  | .tup l,v,x=>by
    unfold Rd at x ⊢
    obtain ⟨a,items,rfl,ha,⟨o,hl,r⟩,hr⟩:=x
    exact ⟨a,items,rfl,k a _ ha hl (by rw [r.1]; intro e; cases e),⟨o,hl,r⟩,Rds.off k l _ hr⟩
theorem Rds.off {h:Heap} {hot hot':Addr→Prop} (k:∀ b o,¬ hot b→h.get? b = some o→o.cls≠.none→¬ hot' b):∀ (d:List V) (v:List Value),Rds h hot d v→Rds h hot' d v
  | [],v,x=>by unfold Rds at x ⊢; exact x
  | d :: ds,v,x=>by
    unfold Rds at x ⊢
    obtain ⟨v,r,rfl,h1,h2⟩:=x
    exact ⟨v,r,rfl,Rd.off k d v h1,Rds.off k ds r h2⟩
end
section
variable {T:TC} {W:Wo} {n:Nat} {sc:Scope} {σ σ':Store} {env:Env} {base s s':Shared} {out hot hot':Addr→Prop} {oa oa':Str→Addr}
noncomputable abbrev noTab (T:TC) (s:Shared):Shared:={ s with heap:=hideAll s.heap [T.P] }
theorem noTab_sub (T:TC) (s:Shared):Grow (noTab T s) s:=⟨fun b o e=>of_hideAll _ e,rfl,fun e=>e⟩
structure GrowT (T:TC) (s s':Shared):Prop where
  sub:∀ b o,b≠T.P→s.heap.get? b = some o→s'.heap.get? b = some o
  os:s'.os = s.os
  gens:AllBare s.gens→AllBare s'.gens
theorem GrowT.of {T:TC} (g:Grow (noTab T s) s'):GrowT T s s':=⟨fun b o nb e=>g.sub b o (hideAll_get _ e (by simpa using nb)),g.os,g.gens⟩
theorem Fm.growT (F:Fm W env base out hot oa σ s) (t:TIn T env base σ oa hot s) (g:GrowT T s s') (ok:TabOk T s'.heap hot):Fm W env base out hot oa σ s'∧TIn T env base σ oa hot s':=by
  have ⟨ps,hP,_⟩:=ok
  have F₁:Fm W env base out hot oa σ { s with heap:=s'.heap,toks:=s'.toks }:=F.touch (wr:=[T.P]) (fun b o nb e=>g.sub b o (by simpa using nb) e) fun b hb=>by
    obtain rfl:=List.mem_singleton.mp hb
    exact ⟨t.new,t.isHot,t.off,_,hP⟩
  exact ⟨F₁.grown ⟨fun ψ ψ e=>e,g.os,g.gens⟩,{ t with ok:=ok }⟩
theorem TIn.start {T T':TC} (F:Fm W env s hot hot' oa σ s') (tok:TabOk T s.heap hot) (hP:hot T.P) (eP:T'.P = T.P) (eq:T'.q = T.q) (epos:T'.pos = T.pos) (hc:T'.here = true→env.code = .ref T'.c∧env.qual = T'.q):TIn T' env (noTab T s) σ oa hot' s':=by
  obtain ⟨pz,ePz,hz⟩:=tok
  refine ⟨fun hh=>(hc hh).1,fun hh=>(hc hh).2,?_,by rw [eP]; exact hideAll_none _ (by simp),by rw [eP]; exact F.outhot _ hP,fun hm=>?_⟩
  · have:TabOk T' s.heap hot:=by rw [TabOk,eP,eq,epos]; exact ⟨pz,ePz,hz⟩
    exact this.mono (fun o e=>F.grow.sub _ _ e) fun b o nb e=>⟨F.grow.sub _ _ e,fun q=>by
      rcases F.hotnew b q with q | q
      · exact nb q
      · rw [q] at e; cases e⟩
  · rw [eP] at hm
    rw [(F.mutNew _ hm).1] at ePz; cases ePz
theorem code_fnT {a:Addr} {fd:FuncData} {body:List Stmt} {ps ls:List Str} {ds:List V} {c:V} {kw:List (Str × Value)} {A:Around} {s:Shared} {hot:Addr→Prop} {args vs:List Value} {R:Result→Shared→Prop} {T T':TC} (eP:T'.P = T.P) (eq:T'.q = T.q) (epos:T'.pos = T.pos)
    (hcode:T'.here = true→fd.code = .ref T'.c∧fd.qualname ++ ".<locals>." = T'.q)
    (hf:IsDef W a fd body) (ok:okNames fd.scope (ps ++ ls) = true) (hp:ps.length = ds.length) (h:TQ T' W n fd.scope body (aQ ps ds ls) (.ret c))
    (hA:Room A (n + 1)) (hB:Sub W.B s.heap) (nP:W.B.get? T.P = none) (hP:hot T.P) (al:∀ a,hot a→∃ o,s.heap.get? a = some o) (tok:TabOk T s.heap hot) (hr:Rds s.heap hot ds vs) (hbind:BindsTo s fd ⟨args,kw⟩ (ps.zip vs))
    (k:∀ v s',GrowT T s s'→TabOk T s'.heap hot→Rd s'.heap hot c v→R (.ok (.ret v)) s'):codeAny (model W.prog W.w) A (.call (.ref a) ⟨args,kw⟩) R s:=by
  have ok':=okNames_ok ok
  obtain ⟨o,h1,h2⟩:=hf.get
  have hlen:ps.length = vs.length:=by rw [hp,hr.length]
  refine codeAny_call_function hA.lim (hB _ _ h1) h2 ok'.co ok'.gen hf.body (let ⟨c,o,vs,t,a,b,d⟩:=hf.code; ⟨c,o,vs,t,a,hB _ _ b,d⟩) (hbind _ _ _ _ ?_)
  rw [hf.clo]
  refine wpAny_newFunctionEnv_cells ok'.kind (fun x hx=>?_) fun env he s' x=>?_
  · have:=ok'.lc x.1 (List.mem_append_left _ (by have:=List.of_mem_zip (a:=x.1) (b:=x.2) hx; exact this.1))
    rcases this with q | q
    · exact .inl q
    · exact .inr ⟨q,lookup_cellsFrom _ _ _ _ (.inl q)⟩
  · subst he
    refine ⟨(W.hnl.keeps hB).keeps x.toInCall.keep,codeAny_func ?_⟩
    have F:=Fm.start (ls:=ls) hB al hr hp ok' rfl hf.globals hf.builtins rfl x
    have hBn:∀ b o,W.B.get? b = some o→b≠T.P:=fun b o e q=>by rw [q,nP] at e; cases e
    have F₁:=F.debase (base:=noTab T s) (out:=fun a=>hot a∧a≠T.P) (noTab_sub T s) (fun b o e=>hideAll_get _ (hB b o e) (by simpa using hBn b o e)) (fun a ha=>ha.1)
      (fun a ha=>by
        by_cases q:a = T.P
        · exact .inr (by rw [q]; exact hideAll_none _ (by simp))
        · exact .inl ⟨ha,q⟩) (fun a ha=>by obtain ⟨o,e⟩:=al a ha.1; exact ⟨o,hideAll_get _ e (by simpa using ha.2)⟩)
    have t':=TIn.start (T:=T) (T':=T') F tok hP eP eq epos hcode
    refine h.run _ rfl _ hA.deeper _ _ _ _ s' _ _ F₁ t' fun f s₂ r=>?_
    obtain ⟨v,rfl,g,rv,tk⟩:=r
    have tk':TabOk T s₂.heap (fun a=>hot a∧a≠T.P):=by rw [TabOk,eP,eq,epos] at tk; exact tk
    obtain ⟨p2,eP2,htr2,hz2⟩:=tk'
    refine k v s₂ (.of g) ⟨p2,eP2,htr2,?_⟩ (Rd.off (fun b o nb e hc q=>nb ⟨q,fun q2=>?_⟩) _ _ rv)
    · rcases hz2 with hz2 | ⟨c',r1,r2,r3⟩
      · exact .inl hz2
      · refine .inr ⟨c',r1,r2,fun q=>r3 ⟨q,fun q2=>?_⟩⟩
        obtain ⟨c2,o2,vs2,t2,e1,e2,e3⟩:=r2
        cases e1
        rw [q2,eP2] at e2
        cases e2
        have:(tabObj p2).data = .fields p2:=rfl
        have e4:=e3.1
        rw [this] at e4
        cases e4
        have e5:=e3.2
        exact triples_1 _ htr2 _ _ (by simpa using e5)
    · subst q2
      rw [eP2] at e
      cases e
      exact hc rfl
noncomputable def FnT (W:Wo) (T:TC) (pw:Program) (i:Nat) (x:Str) (ps:List Str):Prop:=
  ∃ a fd,W.mg x = some (.ref a)∧IsDef W a fd (fbody (nth pw i))∧fd.scope = fQ (nth pw i)∧(∀ vs:List Value,vs.length = ps.length→bindArgs fd ⟨vs,[]⟩ = pure (ps.zip vs))∧(T.here = true→fd.code = .ref T.c∧fd.qualname ++ ".<locals>." = T.q)
theorem RunsT.callFn {T T':TC} {pw:Program} {i:Nat} {x y:Str} {ps:List Str} (ls:List Str) {p p0 cpos pos:Pos} {args:List PySem.Expr} {ds:List V} {c:V} (eP:T'.P = T.P) (eq:T'.q = T.q) (epos:T'.pos = T.pos) (hfn:FnT W T' pw i y ps) (hg:isGlob sc y = true)
    (ha:Evs W (n + 1) sc σ args ds) (ok:okNames (fQ (nth pw i)) (ps ++ ls) = true) (hp:ps.length = ds.length) (hr:TQ T' W n (fQ (nth pw i)) (fbody (nth pw i)) (aQ ps ds ls) (.ret c))
    (hput:Put x (.val c) σ σ') (hna:noApp x σ) (hs:∀ env,swapsWith (.Call (.Name y p0) args [] cpos) (some (.Name x p)) pos.line env = pure false) :
    RunsT T W (n + 1) sc (.Assign [.Name x p] (.Call (.Name y p0) args [] cpos) pos) σ (.next σ'):=
  ⟨fun env he A hA base out hot oa s Q E F t k=>by
    obtain ⟨a,fd,h1,h2,h3,h4,h5⟩:=hfn
    refine wpAny_Assign_Name (wpAny_Call_NameR ((Ev.glob (n:=n + 1) hg h1).run env he A hA s hot _ E F.good fun v s₁ g₁ r₁=>?_)) (hs env)
    cases rd_val r₁
    refine callWith_any h2.callee (ha.plain env cpos).1 (ha.run env he A hA s₁ hot _ E cpos (F.grown g₁).good fun vs s₂ g₂ r₂=>⟨((F.grown g₁).grown g₂).good.base,?_⟩)
    have F₂:=(F.grown g₁).grown g₂
    have t₂:=(t.grow g₁).grow g₂
    have nP:W.B.get? T.P = none:=nQ F.wbase t.new
    refine wpAny_call (code_fnT (T:=T) (T':=T') (ls:=ls) eP eq epos h5 h2 (by rw [h3]; exact ok) hp (by rw [h3]; exact hr) hA F₂.good.base nP t.isHot F₂.alive t₂.ok r₂ (.of_eq (h4 vs (by rw [r₂.length,hp]))) fun v s₃ g₃ ok₃ r₃=>?_)
    obtain ⟨F₃,t₃⟩:=F₂.growT t₂ g₃ ok₃
    exact F₃.rebase.store hput r₃ hna fun s₄ F₄=>k _ _ (ResT.of t₃ F₃ ⟨rfl,hot,oa,F₄⟩)⟩
end
theorem codeAmong_other {pos:Pos} {a b:Int} {c:Value} (hne:(a == (pos.line:Int) && b == (pos.col:Int)) = false):∀ l:List Value,TriplesOk l→codeAmong pos (l ++ [rawInt a,rawInt b,c]) = codeAmong pos l
  | [],_=>by
    show codeAmong pos [rawInt a,rawInt b,c] = none
    unfold rawInt
    rw [codeAmong,hne,if_neg (by decide)]
    rfl
  | .int x t :: .int y u :: v :: rest,h=>by
    show codeAmong pos (.int x t :: .int y u :: v :: (rest ++ [rawInt a,rawInt b,c])) = codeAmong pos (.int x t :: .int y u :: v :: rest)
    rw [codeAmong,codeAmong]
    split
    · rfl
    · exact codeAmong_other hne rest h
section
variable {T:TC} {W:Wo} {n:Nat} {sc:Scope} {σ σ':Store} {env:Env} {base s s':Shared} {out hot hot':Addr→Prop} {oa oa':Str→Addr}
theorem gx_code {A:Around} {E:Value→Shared→Prop} {Q:Value→Shared→Prop} {gpos:Pos} {qn:Str} {gsc:Scope} (hh:T.here = true) (B:TB T W) (F:Fm W env base out hot oa σ s) (t:TIn T env base σ oa hot s)
    {D:Addr→Prop} (tD:TabOk T s.heap (fun b=>hot b∨D b)) (hne:((gpos.line:Int) == (T.pos.line:Int) && (gpos.col:Int) == (T.pos.col:Int)) = false)
    (k:∀ code h' tk,(∀ b o,b≠T.P→s.heap.get? b = some o→h'.get? b = some o)→Fm W env base out hot oa σ { s with heap:=h',toks:=tk }→TIn T env base σ oa hot { s with heap:=h',toks:=tk }→TabOk T h' (fun b=>hot b∨D b)→Q code { s with heap:=h',toks:=tk }) :
    wpAny (model W.prog W.w) A (genexprCode env gpos qn gsc) Q E s:=by
  have sB:Sub W.B s.heap:=F.good.base
  have C:=B.hd.keeps sB
  obtain ⟨ps,hP,htr,hps⟩:=t.ok
  cases hf:codeAmong gpos ps.toList with
  | some cv=>exact wpAny_genexprCode_hit (t.code hh) (C.code hP htr) hf (k cv s.heap s.toks (fun b o ψ e=>e) F t tD)
  | none=>
    refine wpAny_genexprCodeX (t.code hh) (C.code hP htr) (C.tab hP) hf fun c' h' tk hx hge hlt ψ hrec htb ψ=>?_
    have hP':h'.get? T.P = some (tabObj (ps ++ #[rawInt gpos.line,rawInt gpos.col,.ref c'])):=htb.2
    have hl:(ps ++ #[rawInt gpos.line,rawInt gpos.col,Value.ref c']).toList = ps.toList ++ [rawInt gpos.line,rawInt gpos.col,Value.ref c']:=by simp
    have keep:∀ b o,b≠T.P→s.heap.get? b = some o→h'.get? b = some o:=fun b o nb e=>hx b o nb e
    have F':Fm W env base out hot oa σ { s with heap:=h',toks:=tk }:=F.touch (wr:=[T.P]) (fun b o nb e=>keep b o (by simpa using nb) e) fun b hb=>by
      obtain rfl:=List.mem_singleton.mp hb
      exact ⟨t.new,t.isHot,t.off,_,hP'⟩
    have up:∀ hot':Addr→Prop,(∀ b,hot b→hot' b)→TabOk T s.heap hot'→TabOk T h' hot':=fun hot' hh' td=>by
      obtain ⟨ps2,hP2,htr2,hps2⟩:=td
      rw [hP] at hP2; cases hP2
      refine ⟨_,hP',by rw [hl]; exact TriplesOk_snoc _ _ _ _ htr,?_⟩
      rw [hl,codeAmong_other hne _ htr]
      rcases hps2 with q | ⟨c2,q1,⟨c3,o,vs,tt,e1,e2,e3⟩,q3⟩
      · exact .inl q
      · cases e1
        refine .inr ⟨c2,q1,⟨c2,o,vs,tt,rfl,keep _ _ (fun e=>q3 (by rw [e]; exact hh' _ t.isHot)) e2,e3⟩,q3⟩
    exact k _ h' tk keep F' ⟨t.code,t.qual,up _ (fun ψ h=>h) t.ok,t.new,t.isHot,t.off⟩ (up _ (fun ψ h=>.inl h) tD)
end
section
open Builtin Builtin.Str
noncomputable def findAt (l:List Nat) (c lo hi:Nat):Option Nat:=(List.range' lo (hi - lo)).find? fun i=>l[i]? == some c
noncomputable def findI (l:List Nat) (c lo hi:Nat):Int:=match findAt l c lo hi with | some i=>(i:Int) | none=>-1
theorem occ_loop (l:List Nat) (c hi:Nat) (hz:hi≤l.length):∀ (r:List Nat) (free:Nat),(∀ i∈r,free≤i) →
    (forIn r ((#[]:Array Nat),free) (StrLaws.occBody (St l) ⟨#[c]⟩ hi 1)).run.fst.toList = match r.find? (fun i=>decide (i < hi) && l[i]? == some c) with | some i=>[i] | none=>[]
  | [],free,_=>rfl
  | a :: r,free,hf=>by
    have ha:free≤a:=hf a (List.mem_cons_self ..)
    have hm:(⟨#[c]⟩:Str).length = 1:=rfl
    have one:=StrLaws.subAt_one (St l) c a
    have hSt:(St l).cps.toList = l:=by simp [St]
    rw [hSt] at one
    rw [List.forIn_cons,List.find?_cons]
    unfold StrLaws.occBody
    by_cases hc:a < hi∧l[a]? = some c
    · have h2:=(one.mpr hc.2).2
      rw [if_pos ⟨⟨⟨by simp,ha⟩,by rw [hm]; omega⟩,h2⟩]
      have e:(decide (a < hi) && l[a]? == some c) = true:=by rw [hc.2]; simp [hc.1]
      rw [e]
      have full:∀ (r:List Nat) (st:Array Nat × Nat),st.fst = #[a]→(forIn r st (StrLaws.occBody (St l) ⟨#[c]⟩ hi 1)).run.fst = #[a]:=by
        intro r
        induction r with
        | nil=>intro st h; exact h
        | cons b r ih=>
          intro st h
          rw [List.forIn_cons]
          unfold StrLaws.occBody
          rw [if_neg (by rw [h]; simp)]
          exact ih _ h
      have:=full r (#[a],a + (⟨#[c]⟩:Str).length) rfl
      exact congrArg Array.toList this
    · have e:(decide (a < hi) && l[a]? == some c) = false:=by
        by_cases h1:a < hi
        · have:l[a]?≠some c:=fun q=>hc ⟨h1,q⟩
          simp [this]
        · simp [h1]
      rw [e,if_neg (fun q=>by
        obtain ⟨⟨⟨_,_⟩,h3⟩,h4⟩:=q
        rw [hm] at h3
        have hl:a + 1≤(St l).length:=by rw [St_len]; omega
        exact hc ⟨by omega,one.mp ⟨hl,h4⟩⟩)]
      exact occ_loop l c hi hz r free fun i hi'=>hf i (List.mem_cons_of_mem _ hi')
theorem find_lt (l:List Nat) (c hi:Nat):∀ (n lo:Nat),lo + n = hi + 1→(List.range' lo n).find? (fun i=>decide (i < hi) && l[i]? == some c) = (List.range' lo (n - 1)).find? fun i=>l[i]? == some c
  | 0,lo,h=>rfl
  | 1,lo,h=>by
    have:lo = hi:=by omega
    subst this
    simp
  | n + 2,lo,h=>by
    have ih:=find_lt l c hi (n + 1) (lo + 1) (by exact o60 h)
    rw [show n + 2 - 1 = n + 1 from rfl,List.range'_succ,List.find?_cons,ih,List.range'_succ (n:=n),List.find?_cons]
    rw [show decide (lo < hi) = true by simp; omega,Bool.true_and]
    rfl
theorem occ_one (l:List Nat) (c lo hi:Nat) (hz:hi≤l.length):occurrences (St l) ⟨#[c]⟩ lo hi 1 = match findAt l c lo hi with | some i=>[i] | none=>[]:=by
  rw [StrLaws.occ_eq,occ_loop l c hi hz _ _ (fun i h=>by rw [List.mem_range'] at h; obtain ⟨j,_,rfl⟩:=h; omega)]
  unfold findAt
  by_cases h:lo≤hi
  · rw [find_lt l c hi _ lo (by omega),show hi + 1 - lo - 1 = hi - lo by exact o61 h]
  · rw [show hi + 1 - lo = 0 by omega,show hi - lo = 0 by omega]; rfl
theorem find4_gives (l:List Nat) (c lo hi:Nat) (t u v w:Tok):Gives («str.find» ⟨[.str (St l) t,.str ⟨#[c]⟩ u,.int lo v,.int hi w],[]⟩) (.int (findI l c lo (min hi l.length))):=by
  show Gives (match occurrences (St l) ⟨#[c]⟩ (max 0 (if (lo:Int) < 0 then (lo:Int) + (St l).length else lo)).toNat (min (max 0 (if (hi:Int) < 0 then (hi:Int) + (St l).length else hi)).toNat (St l).length) 1 with | k :: _=>retInt k | []=>(do rule "str.find.not-found"; retInt (-1))) _
  have e1:(max 0 (if (lo:Int) < 0 then (lo:Int) + (St l).length else lo)).toNat = lo:=by rw [if_neg (by omega)]; exact o62
  have e2:(max 0 (if (hi:Int) < 0 then (hi:Int) + (St l).length else hi)).toNat = hi:=by rw [if_neg (by omega)]; exact o62
  rw [e1,e2,St_len,occ_one l c lo _ (Nat.min_le_right ..)]
  unfold findI
  cases findAt l c lo (min hi l.length) with
  | none=>exact .rule (.of_eq rfl)
  | some k=>exact .of_eq rfl
theorem findAt_idxOf {l:List Nat} {c:Nat} (h:c∈l):findAt l c 0 l.length = some (l.idxOf c):=by
  unfold findAt
  have hi:=List.idxOf_lt_length_of_mem h
  rw [List.find?_eq_some_iff_append]
  refine ⟨?_,List.range' 0 (l.idxOf c),List.range' (l.idxOf c + 1) (l.length - (l.idxOf c + 1)),?_,?_⟩
  · rw [List.getElem?_eq_getElem hi,List.getElem_idxOf hi]; simp
  · rw [show l.length - 0 = l.idxOf c + (1 + (l.length - (l.idxOf c + 1))) by exact o63 hi,← List.range'_append_1,← List.range'_append_1]
    simp [List.range'_succ]
  · intro a ha
    rw [List.mem_range'] at ha
    obtain ⟨j,hj,rfl⟩:=ha
    have hj':0 + 1 * j < l.length:=by omega
    rw [List.getElem?_eq_getElem hj']
    have:=List.not_of_lt_findIdx (p:=(· == c)) (xs:=l) (i:=0 + 1 * j) (by show _ < l.idxOf c; omega)
    simpa using this
theorem meth_index:Meth "str" "index" "str.index":=⟨F.plainAttrs_str,F.slot_str_index,F.type_str_index⟩
theorem meth_find:Meth "str" "find" "str.find":=⟨F.plainAttrs_str,F.slot_str_find,F.type_str_find⟩
section
variable {W:Wo} {n:Nat}
theorem KQ.index {l:List Nat} {c:Nat} (h:c∈l):KQ W n (.builtin "str.index") [.str l,.str [c]] (.int (l.idxOf c:Nat)):=by
  intro A hA s hot vs Q E _ al r k
  unfold Rds at r; obtain ⟨v,r',rfl,h1,h2⟩:=r
  unfold Rds at h2; obtain ⟨v',r'',rfl,h2,h3⟩:=h2; unfold Rds at h3; subst h3
  obtain ⟨t,rfl⟩:=sQ h1; obtain ⟨u,rfl⟩:=sQ h2
  refine call_gives F.slot_str_index (typeIs_str _ _ _) F.entry_str_index (F.args_str_index_2 _ _) (gives_str_index (St l) (St [c]) t u (l.idxOf c) [] ?_) (k _ _ .tok mk_int)
  show occurrences (St l) ⟨#[c]⟩ 0 (St l).length 1 = _
  rw [St_len,occ_one l c 0 _ (Nat.le_refl _),findAt_idxOf h]
theorem KQ.find4 {l:List Nat} {c lo hi:Nat} (h:hi≤l.length):KQ W n (.builtin "str.find") [.str l,.str [c],.int lo,.int hi] (.int (findI l c lo hi)):=by
  intro A hA s hot vs Q E _ al r k
  unfold Rds at r; obtain ⟨v,r',rfl,h1,h2⟩:=r
  unfold Rds at h2; obtain ⟨v',r'',rfl,h2,h3⟩:=h2
  unfold Rds at h3; obtain ⟨v'',r3,rfl,h3,h4⟩:=h3
  unfold Rds at h4; obtain ⟨v4,r4,rfl,h4,h5⟩:=h4; unfold Rds at h5; subst h5
  obtain ⟨t,rfl⟩:=sQ h1; obtain ⟨u,rfl⟩:=sQ h2; obtain ⟨x,rfl⟩:=rQ h3; obtain ⟨y,rfl⟩:=rQ h4
  refine call_gives F.slot_str_find (typeIs_str _ _ _) F.entry_str_find (F.args_str_find_4 _ _ _ _) (find4_gives l c lo hi t u x y) ?_
  rw [Nat.min_eq_left h]
  exact k _ _ .tok mk_int
end
end
section
variable {W:Wo} {n:Nat} {sc:Scope} {σ:Store}
theorem EvT.cmp2 {l r1 r2:PySem.Expr} {op1 op2:CmpOp} {pos:Pos} {a b c:V} {t1 t2:Bool} (hl:Ev W n sc σ l a) (h1:Ev W n sc σ r1 b) (ho1:CQ W op1 a b t1)
    (h2:t1 = true→Ev W n sc σ r2 c) (ho2:t1 = true→CQ W op2 b c t2) (hm:lastMarks [op1,op2] [r1,r2] = false):EvT W n sc σ (.Compare l [op1,op2] [r1,r2] pos) (t1 && t2):=
  ⟨fun env he A hA s hot Q E g k=>isTrue_chain (hl.run env he A hA s hot _ E g fun v₁ s₁ g₁ x₁=>test_link (h1.run env he A hA s₁ hot _ E (g.grow g₁) fun v₂ s₂ g₂ x₂=>
    ho1 A (hA.less (Nat.zero_le _)) s₂ hot v₁ v₂ _ E ((g.grow g₁).grow g₂).base ((g.grow g₁).grow g₂).alive (x₁.sub g₂.sub) x₂ fun s₃ g₃=>wpAny_truthy_bool (by
      cases t1 with
      | false=>exact k s₃ ((g₁.trans g₂).trans g₃)
      | true=>
        refine test_last ((h2 rfl).run env he A hA s₃ hot _ E (((g.grow g₁).grow g₂).grow g₃) fun v₃ s₄ g₄ x₃=>?_)
        exact ho2 rfl A (hA.less (Nat.zero_le _)) s₄ hot v₂ v₃ _ E ((((g.grow g₁).grow g₂).grow g₃).grow g₄).base ((((g.grow g₁).grow g₂).grow g₃).grow g₄).alive ((x₂.sub g₃.sub).sub g₄.sub) x₃ fun s₅ g₅=>
          wpAny_truthy_bool (k s₅ ((((g₁.trans g₂).trans g₃).trans g₄).trans g₅))))) hm⟩
theorem Ev.orB {e1 e2:PySem.Expr} {pos:Pos} {a b:Bool} (h1:Ev W n sc σ e1 (.bool a)) (h2:a = false→Ev W n sc σ e2 (.bool b)):Ev W n sc σ (.BoolOp .Or [e1,e2] pos) (.bool (a || b)):=
  ⟨fun env he A hA s hot Q E g k=>by
    show wpAny _ A (do let v ← eval e1 env; standAt pos; let t ← holding [v] (truthy v); match BoolOp.Or,t with | .And,false | .Or,true=>pure v | _,_=>eval e2 env) Q E s
    refine wpAny_bind (h1.run env he A hA s hot _ E g fun v₁ s₁ g₁ r₁=>wpAny_bind (wpAny_standAt (wpAny_bind (wpAny_holding ?_))))
    cases rd_bool r₁
    refine wpAny_truthy_bool ?_
    cases a with
    | true=>exact wpAny_pure (k _ s₁ g₁ mk_bool)
    | false=>exact (h2 rfl).run env he A hA s₁ hot Q E (g.grow g₁) fun v s₂ g₂ r₂=>k v s₂ (g₁.trans g₂) r₂⟩
theorem CQ.in_list {x:List Nat} {ls:List (List Nat)}:CQ W .In (.str x) (.list (ls.map V.str)) (ls.any (· == x)):=by
  intro A hA s hot v₁ v₂ Q E _ al r1 r2 k
  obtain ⟨t,rfl⟩:=sQ r1
  obtain ⟨l2,items2,rfl,_,hl2,hr2⟩:=rd_list r2
  obtain ⟨l,e1,e2⟩:=strs_of hr2
  have e3:items2 = (strValues l).toArray:=by rw [← e1]
  subst e3
  let e:Value→Bool:=fun v=>match v with | .str y _=>y == St x | _=>false
  refine PySem.SeqAt.in_listAt e (PlainList.isList hl2) (fun y hy=>?_) ?_
  · have:y∈strValues l:=by simpa using hy
    obtain ⟨p,hp,rfl⟩:=List.mem_map.mp this
    exact (PyProof.Rows.eqGives_str p.1 (St x) p.2 t).at _ _
  · have:(strValues l).toArray.any e = ls.any (· == x):=by
      rw [List.any_toArray]
      unfold strValues
      rw [List.any_map]
      have:l.any (e ∘ fun p=>Value.str p.1 p.2) = (l.map (·.1)).any (· == St x):=by rw [List.any_map]; rfl
      rw [this,e2,List.any_map]
      congr 1
      funext z
      exact str_beq_St z x
    rw [this]
    exact k s (.refl s)
theorem CQ.neq_nil {a:List V}:CQ W .NotEq (.list a) (.list []) (!a.isEmpty):=by
  intro A hA s hot v₁ v₂ Q E _ al r1 r2 k
  obtain ⟨l,items,rfl,_,hl,hr⟩:=rd_list r1
  obtain ⟨l2,items2,rfl,_,hl2,hr2⟩:=rd_list r2
  have hs1:items.size = a.length:=by rw [← hr.length]; simp
  have hs2:items2.size = 0:=by have:=hr2.length; simpa using this
  have hu:A.units < cLine:=hA.line
  cases a with
  | nil=>
    have e:(!(List.range items.size).all fun ψ=>true) = false:=by rw [hs1]; rfl
    refine (PySem.SeqAt.RcNeAt.lists (e:=fun ψ=>true) (PlainList.isList hl) (PlainList.isList hl2) (by rw [hs1,hs2]; rfl) hu (fun j h1=>?_)) W.prog W.w E Q ?_
    · rw [hs1] at h1; exact absurd h1 (Nat.not_lt_zero _)
    · rw [e]; exact k s (.refl s)
  | cons x a=>
    exact PySem.SeqAt.RcNeAt.lists_lengths (PlainList.isList hl) (PlainList.isList hl2) (by rw [hs1,hs2]; rfl) hu W.prog W.w E Q (k s (.refl s))
end
noncomputable def pSQ (t:Slot):Prop:=t = .unset∨∃ d,t = .val d
theorem pSQ.unset:pSQ .unset:=.inl rfl
theorem pSQ.val {d:V}:pSQ (.val d):=.inr ⟨d,rfl⟩
theorem noApp.plain {x y:Str} {t:Slot} {σ:Store} (ht:pSQ t) (h:noApp x σ):noApp x ((y,t) :: σ):=by
  rcases ht with rfl | ⟨d,rfl⟩
  · exact h.unset
  · exact h.val
section
variable {W:Wo} {n:Nat}
structure G1 (W:Wo):Prop where
  range:W.mg "range" = Option.none
  len:W.mg "len" = Option.none
theorem bb_range:bootBuiltins "range" = some (.type "range"):=by kernel_rfl
theorem bb_len:bootBuiltins "len" = some (.builtin "len"):=by kernel_rfl
theorem Ev.range1 {sc:Scope} {σ:Store} {e:PySem.Expr} {p pos:Pos} {b:Int} (G:G1 W) (hg:isGlob sc "range" = true) (h:Ev W n sc σ e (.int b)) (hn:∀ env,starEach [e] env = (false,eval e env) :: starEach [] env):Ev W n sc σ (.Call (.Name "range" p) [e] [] pos) (.rng 0 b 1):=
  Ev.call (Ev.builtin hg G.range bb_range) (.cons h .nil hn) (by trivial) KQ.range_1
theorem Ev.len {sc:Scope} {σ:Store} {e:PySem.Expr} {p pos:Pos} {a:V} {b:Int} (G:G1 W) (hg:isGlob sc "len" = true) (h:Ev W n sc σ e a) (hk:KQ W n (.builtin "len") [a] (.int b)) (hn:∀ env,starEach [e] env = (false,eval e env) :: starEach [] env):Ev W n sc σ (.Call (.Name "len" p) [e] [] pos) (.int b):=
  Ev.call (Ev.builtin hg G.len bb_len) (.cons h .nil hn) (by trivial) hk
theorem plain1 {c:Comprehension} (h:∀ e,PlainG e c):∀ (e:Env) (c':Comprehension),c'∈[c]→PlainG e c':=fun e c' hc=>by
  rcases List.mem_cons.mp hc with q | q
  · exact q ▸ h e
  · exact nomatch q
theorem join_strs {α:Type} {sep:List Nat} {xs:List α} (g:α→List Nat) (B:Nat) (hB:∀ x∈xs,(g x).length≤B) (hz:xs.length * B + xs.length * sep.length≤16777216) :
    KQ W n (.builtin "str.join") [.str sep,.list (xs.map fun x=>V.str (g x))] (.str (joinL sep (xs.map g))):=by
  have:=KQ.join (W:=W) (n:=n) (sep:=sep) (ls:=xs.map g) B (fun y hy=>by
    obtain ⟨x,hx,rfl⟩:=List.mem_map.mp hy
    exact hB x hx) (by rw [List.length_map]; exact hz)
  rwa [List.map_map] at this
theorem flatten_le {m:Nat}:∀ {ls:List (List Nat)},(∀ y∈ls,y.length≤m)→ls.flatten.length≤ls.length * m
  | [],_=>by simp
  | y :: ls,h=>by
    have h1:=h y (List.mem_cons_self ..)
    have h2:=flatten_le (ls:=ls) fun z hz=>h z (List.mem_cons_of_mem _ hz)
    rw [List.flatten_cons,List.length_append,List.length_cons,Nat.succ_mul]; exact o64 h1 h2
theorem chAt_nat {l:List Nat} {k:Nat} {i:Int} (d:Nat) (hk:k < l.length) (hi:i = k):chAt l i = some ((l[k]?).getD d):=by
  subst hi
  unfold chAt
  rw [StrLaws.seqIndex_nonneg (by exact o28) (by exact_mod_cast hk)]
  simp [List.getElem?_eq_getElem hk]
end
section
variable {W:Wo} {n:Nat} {sc:Scope} {t:PySem.Expr} {body:List Stmt}
theorem ForL.inv {α:Type} (enc:α→V) {P:List α→Store→Prop} (xs₀:List α) (step:∀ done x rest σ,xs₀ = done ++ x :: rest→P done σ→∃ τ σ',Binds W sc t (enc x) σ τ∧RQ W n sc body τ (.next σ')∧P (done ++ [x]) σ') :
    ∀ (xs:List α) (done:List α) σ,xs₀ = done ++ xs→P done σ→∃ σ',P xs₀ σ'∧ForL W n sc t body (xs.map enc) σ (.next σ')
  | [],done,σ,e,h=>⟨σ,by rw [e,List.append_nil]; exact h,.nil⟩
  | x :: xs,done,σ,e,h=>by
    obtain ⟨τ,σ',h1,h2,h3⟩:=step done x xs σ e h
    obtain ⟨σ₂,h4,h5⟩:=ForL.inv enc xs₀ step xs (done ++ [x]) σ' (by rw [e,List.append_assoc]; rfl) h3
    exact ⟨σ₂,h4,.next h1 h2 h5⟩
theorem RQ.forInv {α:Type} {σ:Store} {it:PySem.Expr} {pos:Pos} {a:V} {sts:List Stmt} {r:Res} (enc:α→V) (P:List α→Store→Prop) (xs:List α) (h:Ev W n sc σ it a) (hi:JQ W a (xs.map enc)) (hs:∀ env x,foldedSetIterable it env x = pure x) (h0:P [] σ)
    (step:∀ done x rest σ,xs = done ++ x :: rest→P done σ→∃ τ σ',Binds W sc t (enc x) σ τ∧RQ W n sc body τ (.next σ')∧P (done ++ [x]) σ') (rest:∀ σ',P xs σ'→RQ W n sc sts σ' r):RQ W n sc (.For t it body [] pos :: sts) σ r:=by
  obtain ⟨σ',h1,h2⟩:=ForL.inv enc xs step xs [] σ rfl h0
  exact RQ.cons (Runs.for h hi h2 hs) (rest σ' h1)
end
theorem Ev.nm {W:Wo} {n:Nat} {sc:Scope} {σ:Store} {x:Str} {pos:Pos} {d:V} (hm:(x,Slot.val d)∈σ:=by first | (with_reducible refine InS.own ?_; (repeat constructor); done) | (with_reducible refine InS.free ?_ (by kernel_rfl); (repeat constructor); done) | (repeat constructor)) (hv:isVar sc x = true:=by kernel_rfl):Ev W n sc σ (.Name x pos) d:=Ev.name hm hv
section
variable {W:Wo} {n:Nat}
noncomputable def aBQ:List Nat:=L "ABCDEFGHIJKLMNOPQRSTUVWXYZabcdefghijklmnopqrstuvwxyz0123456789"
noncomputable def palette (letters:List Nat):List Int:=letters.map (fun c=>((aBQ.idxOf c:Nat):Int)) ++ [62,63]
noncomputable def figK:Int:=6
noncomputable def figAt (letters:List Nat) (cell:Int) (k:Nat):Int:=(palette letters).getD (((cell.fdiv 2).fdiv (figK ^ k)).fmod figK).toNat 0
noncomputable def figures (letters:List Nat) (cell:Int):List Int:=(List.range 4).map (figAt letters cell)
theorem alpha62_len:aBQ.length = 62:=by kernel_rfl
theorem law_figures (G:G1 W) {letters:List Nat} {cell:Int} (hl:letters.length + 2 = figK.toNat) (hs:∀ c∈letters,c∈aBQ) :
    RQ W n (fQ (nth pw 27)) (fbody (nth pw 27)) (aQ ["letters","cell"] [.str letters,.int cell] ["alphabet","palette"]) (.ret (.list ((figures letters cell).map V.int))):=by
  show RQ W n _ _ [("letters",.val (.str letters)),("cell",.val (.int cell)),("alphabet",.unset),("palette",.unset)] _
  have hp:(palette letters).length = figK.toNat:=by unfold palette; rw [List.length_append,List.length_map]; exact hl
  refine RQ.cons (Runs.assign (d:=.str aBQ) Ev.str (by repeat constructor) (by exact noApp.of rfl) (fun ψ=>by rfl)) ?_
  refine RQ.cons (Runs.assign (d:=.list ((palette letters).map V.int)) ?_ (by repeat constructor) (by exact noApp.of rfl) (fun ψ=>by rfl)) ?_
  · unfold palette
    rw [List.map_append,List.map_map]
    refine Ev.bin (Ev.comp ["letter"] (by kernel_rfl) Ev.nm JQ.str (EmitL.map (fun c=>V.str [c]) (fun c=>V.int ((aBQ.idxOf c:Nat):Int)) _ (fun c hc=>?_)) ?_ (plain1 fun e=>⟨rfl,fun x=>by rfl⟩)) (Ev.list (Evs.cons Ev.int (Evs.cons Ev.int .nil (fun ψ=>by rfl)) (fun ψ=>by rfl)) (by decide)) (BQ.catL ?_)
    · exact Ev.meth Ev.nm (Evs.cons Ev.nm .nil (fun ψ=>by rfl)) HQ.str meth_index (KQ.index (hs c hc)) (fun ψ=>by rfl) (by rfl) (by decide)
    · rw [List.length_map]; unfold figK at hl; omega
    · rw [List.length_map]; unfold figK at hl; simp; omega
  refine RQ.ret (Runs.ret ?_)
  unfold figures
  rw [List.map_map]
  refine Ev.comp ["k"] (by kernel_rfl) (Ev.range1 G (by kernel_rfl) Ev.int (fun ψ=>by rfl)) (JQ.rng (by decide) (by kernel_rfl)) (EmitL.map (fun (k:Nat)=>V.int (0 + (k:Int) * 1)) (fun k=>V.int (figAt letters cell k)) (List.range 4) (fun k hk=>?_)) (by rw [List.length_map]; decide) (plain1 fun e=>⟨rfl,fun x=>by rfl⟩)
  have hk':k < 4:=List.mem_range.mp hk
  have hp6:(0:Int) < figK ^ k:=Int.pow_pos (by decide)
  have e0:(0 + (k:Int) * 1).toNat = k:=by exact o65 hk'
  have hlog:(figK ^ k).natAbs.log2 < 9000:=by
    have:∀ k:Fin 4,(figK ^ k.val).natAbs.log2 < 9000:=by decide +kernel
    exact this ⟨k,hk'⟩
  have hf0:=Int.fmod_nonneg_of_pos ((cell.fdiv 2).fdiv (figK ^ k)) (show (0:Int) < figK by decide)
  have hf1:=Int.fmod_lt_of_pos ((cell.fdiv 2).fdiv (figK ^ k)) (show (0:Int) < figK by decide)
  refine Ev.item (b:=.int (((cell.fdiv 2).fdiv (figK ^ k)).fmod figK)) Ev.nm (Ev.bin (Ev.bin (Ev.bin Ev.nm Ev.int (BQ.fdiv (by decide) (by decide +kernel))) (Ev.bin Ev.int Ev.nm ?_) (BQ.fdiv (Int.ne_of_gt hp6) hlog)) Ev.int (BQ.fmod (by decide))) (IQ.list hf0 (Int.lt_trans hf1 (by decide)) ?_) (fun ψ ψ=>by rfl)
  · have:=BQ.pow (W:=W) (a:=figK) (b:=0 + (k:Int) * 1) (by exact o66) (by exact o67 hk') (by decide)
    rw [e0] at this
    exact this
  · rw [List.getElem?_map,List.getElem?_eq_getElem (by rw [hp]; exact o68 hl hf1)]
    show some (V.int _) = some (V.int ((palette letters).getD _ 0))
    rw [List.getD_eq_getElem?_getD,List.getElem?_eq_getElem (by rw [hp]; exact o68 hl hf1)]
    rfl
end
section
open Builtin Builtin._codecs
theorem enc_any:(Str.ofString "ascii").cps.any (fun x=>decide (x ≥ 128)) = false:=by kernel_rfl
theorem enc_nul:(Str.ofString "ascii").cps.contains 0 = false:=by kernel_rfl
theorem enc_tree (x:Str) (t u:Tok):Builtin.«str.encode» ⟨[.str x t,.str (Str.ofString "ascii") u],[]⟩ = (do ret (← encodeRoad "str.encode" (.str x t) x (Str.ofString "ascii") none)):=by 
  have h:(Builtin.Str.codecArg "str.encode" "encode" "'encoding'" (some (.str (Str.ofString "ascii") u))) = pure (some (Str.ofString "ascii")):=by
    show (if (Str.ofString "ascii").cps.any (fun x=>decide (x ≥ 128)) = true then _ else if (Str.ofString "ascii").cps.contains 0 = true then _ else pure (some (Str.ofString "ascii")):Sem (Option Str)) = _
    rw [enc_any,enc_nul]; rfl
  show ((Builtin.Str.codecArg "str.encode" "encode" "'encoding'" (some (.str (Str.ofString "ascii") u))) >>= fun o=>((Builtin.Str.codecArg "str.encode" "encode" "'errors'" none) >>= fun e=>(do ret (← encodeRoad "str.encode" (.str x t) x (o.getD "utf-8") e)) ):Sem Fin) = _
  rw [h]
  rfl
theorem enc_road (id:String) (self:Value) (x:Str) (errors:Option Str):encodeRoad id self x (Str.ofString "ascii") errors = (do mkBytes (← encodeNarrow id asciiCodec errors self x)):=by
  first | rfl | (unfold encodeRoad; rfl) | (unfold encodeRoad; simp only []; rfl) | decide
theorem enc_forIn {α β:Type} {f:α→β→Sem (ForInStep β)} {s0 s1:β} (h0:∀ a,f a s0 = pure (.yield s1)) (h1:∀ a,f a s1 = pure (.done s1)) (l:List α) (hl:l≠[]):forIn l s0 f = pure s1:=by
  cases l with
  | nil=>exact absurd rfl hl
  | cons a l=>
    rw [List.forIn_cons,h0]
    show forIn l s1 f = pure s1
    cases l with
    | nil=>rfl
    | cons b l=>rw [List.forIn_cons,h1]; rfl
theorem enc_fold (l:List Nat):∀ acc:Array UInt8,l.foldl (fun acc y=>acc ++ (asciiCodec.bytesOf y).toArray) acc = acc ++ (l.map (·.toUInt8)).toArray:=by
  induction l with
  | nil=>intro acc; simp
  | cons x l ih=>
    intro acc
    rw [List.foldl_cons,ih]
    show (acc ++ [x.toUInt8].toArray) ++ _ = _
    simp
theorem rng_loop {β:Type} {f:Nat→β→Sem (ForInStep β)} {s0 s1:β} (h0:∀ a,f a s0 = pure (.yield s1)) (h1:∀ a,f a s1 = pure (.done s1)) (n:Nat) (hn:n≠0):forIn [0:n] s0 f = pure s1:=by
  rw [Std.Legacy.Range.forIn_eq_forIn_range']
  refine enc_forIn h0 h1 _ fun e=>hn ?_
  have:=congrArg List.length e
  simpa [Std.Legacy.Range.size] using this
theorem loop_then {β γ:Type} {f:Nat→β→Sem (ForInStep β)} {s0 s1:β} {k:β→Sem γ} (h0:∀ a,f a s0 = pure (.yield s1)) (h1:∀ a,f a s1 = pure (.done s1)) (n:Nat) (hn:n≠0):(forIn [0:n] s0 f >>= k) = k s1:=by
  rw [rng_loop h0 h1 n hn]; rfl
theorem loop_zero {β γ:Type} {f:Nat→β→Sem (ForInStep β)} {s0:β} {k:β→Sem γ}:(forIn [0:0] s0 f >>= k) = k s0:=by
  rw [Std.Legacy.Range.forIn_eq_forIn_range']; rfl
theorem enc_none (l:List Nat) (hx:∀ c∈l,c < 128):Array.findIdx? asciiCodec.bad (l.toArray.extract 0) = none:=by
  rw [Array.findIdx?_eq_none_iff]
  intro c hc
  have:=hx c (by simpa using hc)
  show decide _ = false
  simpa using this
theorem enc_out (l:List Nat):((l.toArray.extract 0).extract 0 (l.toArray.extract 0).size).foldl (fun acc y=>acc ++ (asciiCodec.bytesOf y).toArray) #[] = (l.map (·.toUInt8)).toArray:=by
  rw [← Array.foldl_toList,enc_fold]
  simp
theorem enc_narrow (id:String) (self:Value) (l:List Nat) (hx:∀ c∈l,c < 128) (hz:l.length≤sizeLine):encodeNarrow id asciiCodec none self (St l) = pure ((l.map (·.toUInt8)).toArray):=by
  cases l with
  | nil=>exact loop_zero
  | cons c l=>
    have e0:asciiCodec.bad c = false:=by
      have:=hx c (List.mem_cons_self ..)
      show decide _ = false
      simpa using this
    refine loop_then (s0:=(0,(#[]:Array UInt8),({}:Faults))) (s1:=((c :: l).length,((c :: l).map (·.toUInt8)).toArray,({}:Faults))) (fun a=>?_) (fun a=>?_) (St (c :: l)).length (by rw [St_len]; exact Nat.succ_ne_zero _)
    · dsimp only
      rw [if_neg (by simp [sizeLine])]
      rw [show (St (c :: l)).cps[0]? = some c by simp [St]]
      dsimp only
      rw [if_pos (by rw [e0]; rfl)]
      have e1:(St (c :: l)).cps = (c :: l).toArray:=rfl
      rw [e1,enc_none _ hx,Option.getD_none,Nat.zero_add]
      exact congrArg pure (congrArg ForInStep.yield (Prod.ext (show ((c :: l).toArray.extract 0).size = (c :: l).length by simp) (Prod.ext (enc_out (c :: l)) rfl)))
    · dsimp only
      rw [if_neg (by simpa using hz)]
      rw [show (St (c :: l)).cps[(c :: l).length]? = none by simp [St]]
section
variable {W:Wo} {n:Nat}
theorem gives_encode (x:List Nat) (t u:Tok) (hx:∀ c∈x,c < 128) (hz:x.length≤sizeLine):Gives (Builtin.«str.encode» ⟨[.str (St x) t,.str (Str.ofString "ascii") u],[]⟩) (.bytes (x.map (·.toUInt8)).toArray):=by
  rw [enc_tree,enc_road,enc_narrow _ _ _ hx hz]
  exact .of_eq rfl
theorem KQ.encode {l:List Nat} (hl:∀ c∈l,c < 128) (hz:l.length≤1000000):KQ W n (.builtin "str.encode") [.str l,.str (L "ascii")] (.bytes (l.map (·.toUInt8))):=by
  intro A hA s hot vs Q E _ al r k
  unfold Rds at r; obtain ⟨v,r',rfl,h1,h2⟩:=r
  unfold Rds at h2; obtain ⟨v',r'',rfl,h2,h3⟩:=h2; unfold Rds at h3; subst h3
  obtain ⟨t,rfl⟩:=sQ h1; obtain ⟨u,rfl⟩:=sQ h2
  rw [← ofString_L]
  refine call_gives F.slot_str_encode (typeIs_str _ _ _) F.entry_str_encode (F.args_str_encode_2 _ _) (gives_encode l t u hl (by rw [sizeLine_eq]; exact o6 hz)) ⟨?_,k _ _ .tok mk_bytes⟩
  rw [sizeLine_eq,List.size_toArray,List.length_map]; exact o6 hz
end
end
theorem mk_find:findCls [] (.type "bytes") (.type "type") (Str.ofString "maketrans") = some (.val (.builtin "bytes.maketrans")):=by kernel_rfl
theorem mk_sub:subIn [] (.type "type") (.type "type") = some true:=by kernel_rfl
theorem mk_tga:findIn [] (.type "type") (Str.ofString "__getattribute__") = some (some (.builtin "type.__getattribute__")):=by kernel_rfl
section
variable {prog:Program} {w:World} {A:Around} {E:Value→Shared→Prop} {s:Shared}
theorem getm_static {pl:Sem Bool} {Q:Value × List Value→Shared→Prop} (h:Q (.builtin "bytes.maketrans",[]) { s with toks:=s.toks + 1 }) :
    wpAny (model prog w) A (getMethod (.type "bytes") (Str.ofString "maketrans") pl) Q E s:=by
  have X:Frag.In [] s.heap:=fun a o e=>by cases e
  have hstub:opaqueClassAbove (.type "bytes") = pure none:=by unfold opaqueClassAbove; dsimp only; rw [show Manifest.isStub "bytes" = false by kernel_rfl]; rfl
  have ht:typeOf (.type "bytes") = pure (.type "type"):=by first | rfl | kernel_rfl
  have L0:Looks (model prog w) s.heap (typeOf (.type "bytes")) (.type "type"):=Looks.of_pure ht
  unfold getMethod specialOf
  refine wpAny_bind (wpAny_bind (L0.here ((looks_findIn X mk_tga).here ?_)))
  dsimp only
  rw [if_pos canon_tga]
  refine wpAny_bind (wpAny_mono (Q:=fun v=>Q (v,[])) (E:=E) ?_ (fun ψ ψ z=>wpAny_pure z) fun ψ ψ z=>z)
  have LO:Looks (model prog w) s.heap (opaqueClassAbove (.type "bytes")) none:=Looks.of_pure hstub
  refine cls_open X LO L0 mk_tga (looks_hook X (r:=none) (by rfl)) mk_sub mk_find ?_
  show wpAny _ _ (ret (.builtin "bytes.maketrans")) _ _ _
  exact wpAny_pure (wpAny_pure h)
end
noncomputable def transTab (a b:List UInt8):List UInt8:=((a.zip b).foldl (fun (t:Array UInt8) (p:UInt8 × UInt8)=>t.setIfInBounds p.1.toNat p.2) ((Array.range 256).map (·.toUInt8))).toList
theorem mk_plain:plainId "bytes.maketrans" = true:=by kernel_rfl
theorem mk_entry:entryFor table "bytes.maketrans" = some Builtin.«bytes.maketrans»:=entryFor_of_tree (by kernel_rfl)
theorem mk_check (a b:Value):checkBuiltinCall "bytes.maketrans" ⟨[a,b],[]⟩ = pure ():=by kernel_rfl
theorem transTab_size (a b:List UInt8):(transTab a b).length = 256:=by
  unfold transTab
  rw [Array.length_toList]
  have:∀ (l:List (UInt8 × UInt8)) (t:Array UInt8),(l.foldl (fun (t:Array UInt8) (p:UInt8 × UInt8)=>t.setIfInBounds p.1.toNat p.2) t).size = t.size:=by
    intro l
    induction l with
    | nil=>intro t; rfl
    | cons p l ih=>intro t; rw [List.foldl_cons,ih,Array.size_setIfInBounds]
  rw [this]; simp
theorem mk_gives (a b:List UInt8) (t u:Tok) (h:a.length = b.length):Gives (Builtin.«bytes.maketrans» ⟨[.bytes a.toArray t,.bytes b.toArray u],[]⟩) (.bytes (transTab a b).toArray):=by
  refine .of_wp fun M A E s Q hq=>?_
  show wpAny _ _ (Builtin.Bytes.bytesLike "bytes.maketrans" (.bytes a.toArray t) >>= fun frm=>(Builtin.Bytes.bytesLike "bytes.maketrans" (.bytes b.toArray u) >>= fun to=>_)) _ _ s
  refine wpAny_bind (wpAny_of_eq KBd.like_eq (wpAny_bind (wpAny_of_eq KBd.like_eq ?_)))
  refine KFB.if_not (c:=(a.toArray.size != b.toArray.size)) (by simp [h]) ?_
  refine wpAny_bind (wpAny_mkBytes (wpAny_pure ⟨_,rfl,?_⟩) ?_)
  · have:=hq.2
    unfold transTab at this
    rw [Array.toArray_toList] at this
    simpa using this
  · have:=transTab_size a b
    unfold transTab at this
    rw [Array.length_toList] at this
    rw [sizeLine_eq]
    show Array.size _≤_
    have e:a.toArray.toList.zip b.toArray.toList = a.zip b:=by simp
    rw [e]
    exact Nat.le_trans (Nat.le_of_eq this) (by decide)
theorem call_plain {prog:Program} {w:World} {A:Around} {E:Value→Shared→Prop} {s:Shared} {id:String} {B:Builtin} {args:List Value} {m:Made} {Q:Value→Shared→Prop} (plain:plainId id = true) (entry:entryFor table id = some B)
    (check:checkBuiltinCall id ⟨args,[]⟩ = pure ()) (g:Gives (B ⟨args,[]⟩) m) (h:m.post Q s):wpAny (model prog w) A (call (.builtin id) args) Q E s:=
  wpAny_call (codeAny_call_builtin plain entry (wpAny_of_eq check (g prog w A (fun r s'=>match r with | .ok (.ret v)=>Q v s' | .ok _=>False | .error e=>E e s') s h)))
section
variable {W:Wo} {n:Nat} {sc:Scope} {σ:Store}
theorem KQ.maketrans {a b:List UInt8} (h:a.length = b.length):KQ W n (.builtin "bytes.maketrans") [.bytes a,.bytes b] (.bytes (transTab a b)):=by
  intro A hA s hot vs Q E _ al r k
  unfold Rds at r; obtain ⟨v,r',rfl,h1,h2⟩:=r
  unfold Rds at h2; obtain ⟨v',r'',rfl,h2,h3⟩:=h2; unfold Rds at h3; subst h3
  obtain ⟨t,rfl⟩:=rd_bytes h1; obtain ⟨u,rfl⟩:=rd_bytes h2
  refine call_plain mk_plain mk_entry (mk_check _ _) (mk_gives a b t u h) ⟨?_,k _ _ .tok mk_bytes⟩
  rw [sizeLine_eq,List.size_toArray,transTab_size]; decide
theorem Ev.maketrans {p apos pos:Pos} {args:List PySem.Expr} {a b:List UInt8} (hg:isGlob sc "bytes" = true) (hm:W.mg "bytes" = Option.none) (hb:bootBuiltins "bytes" = some (.type "bytes")) (ha:Evs W n sc σ args [.bytes a,.bytes b]) (h:a.length = b.length)
    (hbase:∀ env,attributeBase (.Name "bytes" p) "maketrans" env (eval (.Name "bytes" p) env) = eval (.Name "bytes" p) env) (hline:(apos.endLine == pos.line) = true) (hn:args.length < 20) :
    Ev W n sc σ (.Call (.Attribute (.Name "bytes" p) "maketrans" apos) args [] pos) (.bytes (transTab a b)):=
  ⟨fun env he A hA s hot Q E g k=>by
    rw [arm_eval_Call,hbase]
    refine wpAny_bind ((Ev.builtin (W:=W) (n:=n) (σ:=σ) (pos:=p) hg hm hb).run env he A hA s hot _ E g fun v s₁ g₁ r₁=>?_)
    cases rd_val r₁
    refine wpAny_bind (wpAny_standAt ?_)
    have hfew:methodCallForm (args.length + ([]:List Keyword).length) (backTo pos (starEach args env)) (backToKw pos (keywordEach [] env)) = true:=by
      show (((backTo pos (starEach args env)).all (fun x=>!x.1) && (backToKw pos (keywordEach [] env)).all (fun x=>x.1.isSome)
      && decide (args.length + ([]:List Keyword).length + (if ([]:List Keyword).isEmpty then 0 else 1) < 30))) = true
      rw [(ha.plain env pos).2.1]
      show (true && true && decide (args.length + 0 + 0 < 30)) = true
      simp; omega
    have hpos:methodCallPos true (.Name "bytes" p) env apos pos = pure pos:=by unfold methodCallPos; simp [hline]
    unfold methodCall
    rw [hfew]
    refine wpAny_bind (wpAny_holding (getm_static ?_))
    refine wpAny_bind (wpAny_of_eq hpos ?_)
    have g₂:Grow s₁ { s₁ with toks:=s₁.toks + 1 }:=.tok
    refine callWith_any (W:=W) trivial (ha.plain env pos).1 (ha.run env he A hA _ hot _ E pos ((g.grow g₁).grow g₂) fun vs s₃ g₃ r₃=>⟨(((g.grow g₁).grow g₂).grow g₃).base,?_⟩)
    exact KQ.maketrans (n:=n) h A hA s₃ hot _ Q E (((g.grow g₁).grow g₂).grow g₃).base (((g.grow g₁).grow g₂).grow g₃).alive r₃ fun v s₄ g₄ r₄=>k v s₄ (((g₁.trans g₂).trans g₃).trans g₄) r₄⟩
end
noncomputable def transL (b t:List UInt8):List UInt8:=b.map fun c=>t.getD c.toNat c
theorem tr_gives (b t:List UInt8) (x y:Tok) (h:t.length = 256) (hz:b.length≤1000000):Gives (Builtin.«bytes.translate» ⟨[.bytes b.toArray x,.bytes t.toArray y],[]⟩) (if transL b t = b then .val (.bytes b.toArray x) else .bytes (transL b t).toArray):=by
  refine .of_wp fun M A E s Q hq=>?_
  unfold Builtin.«bytes.translate» Builtin.Bytes.translateM
  dsimp only
  rw [if_neg (by simp),if_neg (by simp),if_neg (show ¬ ((Value.bytes t.toArray y == Value.none) = true) from Bool.false_ne_true)]
  refine wpAny_bind (wpAny_of_eq KBd.like_eq ?_)
  refine KFB.if_not (c:=(t.toArray.size != 256)) (by simp [h]) ?_
  refine wpAny_bind (wpAny_pure ?_)
  refine wpAny_bind (wpAny_pure ?_)
  refine wpAny_bind (wpAny_of_eq (a:=b.toArray) rfl ?_)
  have e:(b.toArray.filter fun x=>!(#[]:Array UInt8).contains x).map (fun c=>t.toArray.getD c.toNat c) = (transL b t).toArray:=by
    have e1:(b.toArray.filter fun x=>!(#[]:Array UInt8).contains x) = b.toArray:=by simp
    rw [e1]
    simp [transL]
  dsimp only
  rw [e]
  by_cases hc:((transL b t).toArray == b.toArray) = true
  · have hcc:transL b t = b:=by simpa using hc
    rw [if_pos hcc] at hq
    rw [if_pos hc]
    refine wpAny_bind (wpAny_rule (wpAny_bind (wpAny_of_eq (a:=.bytes b.toArray x) (by rfl) (wpAny_pure ⟨.bytes b.toArray x,rfl,hq⟩))))
  · have hcc:¬ transL b t = b:=fun q=>hc (by rw [q]; exact beq_self_eq_true _)
    rw [if_neg hcc] at hq
    rw [if_neg hc]
    exact wpAny_bind (wpAny_mkBytes (wpAny_pure ⟨_,rfl,hq.2⟩) hq.1)
theorem bt_slot:PySem.Slot "bytes" "translate" "bytes.translate":=
  .of (owner:="bytes") (n:="translate") (by rw [typeLookup_type,builtinLookup_eq_fast]; kernel_rfl) (by decide +kernel) (by decide +kernel) (by decide +kernel)
    (by first | exact .inl (by decide +kernel) | exact .inr (by decide +kernel)) (by rw [isSubtype_type]; kernel_rfl)
theorem bt_entry:entryFor table "bytes.translate" = some Builtin.«bytes.translate»:=entryFor_of_tree (by kernel_rfl)
theorem bt_type:typeOf (.builtin "bytes.translate") = pure (.type "method_descriptor"):=by show builtinType _ = _; rw [builtinType_eq_fast]; kernel_rfl
theorem bt_args (a b:Value):argsOk "bytes.translate" ⟨[a,b],[]⟩:=by unfold argsOk; kernel_rfl
theorem meth_translate:Meth "bytes" "translate" "bytes.translate":=⟨PySem.W.FB.plainAttrs_bytes,bt_slot,bt_type⟩
section
variable {W:Wo} {n:Nat} {sc:Scope} {σ:Store}
theorem KQ.translate {b t:List UInt8} (h:t.length = 256) (hz:b.length≤1000000):KQ W n (.builtin "bytes.translate") [.bytes b,.bytes t] (.bytes (transL b t)):=by
  intro A hA s hot vs Q E _ al r k
  unfold Rds at r; obtain ⟨v,r',rfl,h1,h2⟩:=r
  unfold Rds at h2; obtain ⟨v',r'',rfl,h2,h3⟩:=h2; unfold Rds at h3; subst h3
  obtain ⟨x,rfl⟩:=rd_bytes h1; obtain ⟨y,rfl⟩:=rd_bytes h2
  have hs:(transL b t).toArray.size≤sizeLine:=by rw [sizeLine_eq,List.size_toArray]; unfold transL; rw [List.length_map]; exact o6 hz
  refine call_gives bt_slot (typeIs_bytes _ _ _) bt_entry (bt_args _ _) (tr_gives b t x y h hz) ?_
  by_cases e:transL b t = b
  · rw [if_pos e]
    have:=k (.bytes b.toArray x) s (.refl s) (by rw [e]; exact mk_bytes)
    exact this
  · rw [if_neg e]
    exact ⟨hs,k _ _ .tok mk_bytes⟩
theorem KQ.len_bytes {l:List UInt8} (hz:l.length≤1000000):KQ W n (.builtin "len") [.bytes l] (.int (l.length:Nat)):=by
  intro A hA s hot vs Q E _ al r k
  unfold Rds at r; obtain ⟨v,r',rfl,h1,h2⟩:=r; unfold Rds at h2; subst h2
  obtain ⟨x,rfl⟩:=rd_bytes h1
  refine PySem.W.len_bytes (by rw [List.size_toArray]; omega) ?_
  rw [List.size_toArray]
  exact k _ _ .tok mk_int
theorem KQ.chr {i:Nat} (h:i≤0x10FFFF):KQ W n (.builtin "chr") [.int (i:Nat)] (.str [i]):=by
  intro A hA s hot vs Q E _ al r k
  unfold Rds at r; obtain ⟨v,r',rfl,h1,h2⟩:=r; unfold Rds at h2; subst h2
  obtain ⟨x,rfl⟩:=rQ h1
  refine @P.chr_of_int _ _ _ _ _ _ _ _ ?_ ?_
  · simp; omega
  · rw [Int.toNat_natCast]
    exact k _ _ .tok (mk_str (i:=[i]))
end
section
variable {W:Wo} {n:Nat}
structure G6 (W:Wo):Prop extends G1 W where
  buffer:Fn W pw 12 "_buffer" ["data"]
  truth:Fn W pw 13 "_truth" ["x"]
  b2a:FnKw W pw 15 "b2a_base64" "data" "newline"
  b64:FnDf W pw 17 "b64encode" ["s","altchars"] 2 []
  letters:∃ t,W.mg "_B64" = some (.bytes b64L.toArray t)
  type:W.mg "type" = Option.none
  bytes:W.mg "bytes" = Option.none
  bool:W.mg "bool" = Option.none
theorem bb_type:bootBuiltins "type" = some (.type "type"):=by kernel_rfl
theorem bb_bytes:bootBuiltins "bytes" = some (.type "bytes"):=by kernel_rfl
theorem bb_bool:bootBuiltins "bool" = some (.type "bool"):=by kernel_rfl
theorem fn_buffer (G:G6 W) {l:List UInt8}:RQ W n (fQ (nth pw 12)) (fbody (nth pw 12)) (aQ ["data"] [.bytes l] ["t"]) (.ret (.bytes l)):=by
  show RQ W n _ _ [("data",.val (.bytes l)),("t",.unset)] _
  refine RQ.cons (Runs.assign (d:=.val (.type "bytes")) (Ev.call (Ev.builtin (by kernel_rfl) G.type bb_type) (Evs.one Ev.nm (fun ψ=>by rfl)) (by trivial) (KQ.type_of HQ.bytes (by kernel_rfl))) (by repeat constructor) (by exact noApp.of rfl) (fun ψ=>by rfl)) ?_
  exact RQ.ret (Runs.ifT (EvT.cmp (c:=true) Ev.nm (Ev.builtin (by kernel_rfl) G.bytes bb_bytes) CQ.is_type (by rfl)) (RQ.ret (Runs.ret Ev.nm)))
theorem fn_truth (G:G6 W):RQ W n (fQ (nth pw 13)) (fbody (nth pw 13)) (aQ ["x"] [.bool false] ["t"]) (.ret (.bool false)):=by
  show RQ W n _ _ [("x",.val (.bool false)),("t",.unset)] _
  refine RQ.cons (Runs.assign (d:=.val (.type "bool")) (Ev.call (Ev.builtin (by kernel_rfl) G.type bb_type) (Evs.one Ev.nm (fun ψ=>by rfl)) (by trivial) (KQ.type_of HQ.bool (by kernel_rfl))) (by repeat constructor) (by exact noApp.of rfl) (fun ψ=>by rfl)) ?_
  refine RQ.ret (Runs.ifT (EvT.or (b:=false) (c:=true) (EvT.cmp Ev.nm Ev.none (CQ.is_none rfl) (by rfl)) fun ψ=>EvT.or (b:=true) (c:=true) (EvT.cmp Ev.nm (Ev.builtin (by kernel_rfl) G.bool bb_bool) CQ.is_type (by rfl)) fun h=>by cases h) (RQ.ret (Runs.ret ?_)))
  exact Ev.ite (c:=false) (EvT.of Ev.nm TruOk.bool (fun ψ ψ=>by rfl)) (fun h=>by cases h) (fun ψ=>Ev.bool)
noncomputable def encO (l:List Nat):List V:=l.map fun k=>V.int (k:Nat)
theorem fn_b2a (G:G6 W) {l:List UInt8} (hl:l.length≤1000) (h0:(fAQ l).bits = 0):RQ W (n + 1) (fQ (nth pw 15)) (fbody (nth pw 15)) (aQ ["data","newline"] [.bytes l,.bool false] ["bin_data","out","leftbits","leftchar","b"]) (.ret (.bytes ((fAQ l).out.map (·.toUInt8)))):=by
  show RQ W (n + 1) _ _ [("data",.val (.bytes l)),("newline",.val (.bool false)),("bin_data",.unset),("out",.unset),("leftbits",.unset),("leftchar",.unset),("b",.unset)] _
  refine RQ.cons (Runs.assign (Ev.fn ["t"] G.buffer (by kernel_rfl) (Evs.one Ev.nm (fun ψ=>by rfl)) (by kernel_rfl) rfl (fn_buffer G)) (by repeat constructor) (by exact noApp.of rfl) (fun ψ=>by rfl)) ?_
  refine RQ.cons (Runs.assign (Ev.fn ["t"] G.truth (by kernel_rfl) (Evs.one Ev.nm (fun ψ=>by rfl)) (by kernel_rfl) rfl (fn_truth G)) (by repeat constructor) (by exact noApp.of rfl) (fun ψ=>by rfl)) ?_
  refine RQ.cons (Runs.assignOwn (EvNew.list Evs.nil (by decide)) (by repeat constructor) (by exact noApp.of rfl) (fun ψ=>by rfl)) ?_
  refine RQ.cons (Runs.assign Ev.int (by repeat constructor) (by exact noApp.of rfl) (fun ψ=>by rfl)) ?_
  refine RQ.cons (Runs.assign Ev.int (by repeat constructor) (by exact noApp.of rfl) (fun ψ=>by rfl)) ?_
  refine RQ.forInv (fun (c:UInt8)=>V.int (c.toNat:Nat)) (fun done σ=>∃ b,pSQ b∧σ = ([("data",.val (.bytes l)),("newline",.val (.bool false)),("bin_data",.val (.bytes l)),("out",.own (encO (fAQ done).out)),("leftbits",.val (.int ((fAQ done).bits:Nat))),("leftchar",.val (.int ((fAQ done).ch:Nat))),("b",b)]:Store)) l
    Ev.nm JQ.bytes (fun ψ ψ=>by rfl) ⟨.unset,.unset,rfl⟩ ?_ ?_
  · rintro done c rest σ hx ⟨sb,hb,rfl⟩
    obtain ⟨k1,k2,k3,k4⟩:=feedAll_ok done
    have hdl:done.length≤1000:=by
      have:=congrArg List.length hx
      rw [List.length_append] at this; exact o77 hl this
    refine ⟨_,[("data",.val (.bytes l)),("newline",.val (.bool false)),("bin_data",.val (.bytes l)),("out",.own (encO (fAQ (done ++ [c])).out)),("leftbits",.val (.int ((fAQ (done ++ [c])).bits:Nat))),("leftchar",.val (.int ((fAQ (done ++ [c])).ch:Nat))),("b",.val (.int (c.toNat:Nat)))],Binds.name (by repeat constructor) (by repeat first | exact noApp.of rfl | refine noApp.plain (by assumption) ?_ | refine noApp.val ?_ | refine noApp.unset ?_ | refine noApp.own ?_ | refine noApp.app (by decide) ?_),?_,_,.val,rfl⟩
    rw [feedAll_snoc]
    generalize hst:fAQ done = s at *
    obtain ⟨out,bits,ch⟩:=s
    simp only at k1 k2 k3 k4
    have hc:c.toNat < 2 ^ 8:=c.toNat_lt
    refine RQ.cons (Runs.assign (d:=.int ((ch * 2 ^ 8 + c.toNat) % 2 ^ 16:Nat)) (Ev.bin (Ev.bin (Ev.bin Ev.nm Ev.int (BQ.shlN 8 rfl (by decide) (by omega))) Ev.nm (BQ.orLow 8 (Nat.mul_mod_left _ _) hc)) Ev.int (BQ.mask 16 (by decide))) (by repeat constructor) (by exact noApp.of rfl) (fun ψ=>by rfl)) ?_
    have hch:(ch * 2 ^ 8 + c.toNat) % 2 ^ 16 < 65536:=Nat.mod_lt _ (by decide)
    refine RQ.cons (Runs.assign (d:=.int (bits + 8:Nat)) (Ev.bin Ev.nm Ev.int (by exact_mod_cast BQ.add)) (by repeat constructor) (by exact noApp.of rfl) (fun ψ=>by rfl)) ?_
    unfold feed
    simp only
    generalize (ch * 2 ^ 8 + c.toNat) % 2 ^ 16 = ch' at *
    have hlen:b64L.length = 64:=by kernel_rfl
    have hm:∀ x:Nat,x % 2 ^ 6 < b64L.length:=fun x=>by rw [hlen]; exact Nat.mod_lt _ (by decide)
    have snoc:∀ (o:List Nat) (x:Nat),encO (o ++ [x]) = encO o ++ [V.int (x:Nat)]:=fun o x=>by unfold encO; rw [List.map_append]; rfl
    have lenO:(encO out).length≤2000:=by unfold encO; rw [List.length_map]; exact o78 hdl k3
    have lenO1:∀ x,(encO out ++ [x]).length≤2001:=fun x=>by rw [List.length_append]; simp; exact lenO
    rcases k1 with rfl | rfl | rfl
    · simp only
      rw [snoc]
      refine RQ.one (Runs.while (m:=1) (WhL.next (EvT.cmp (c:=true) Ev.nm Ev.int CQ.ge_int (by rfl)) (RQ.cons (Runs.append (by repeat constructor)
        (Ev.item (c:=.int (b64S (ch' / 2 ^ 2 % 2 ^ 6):Nat)) (Ev.globBytes (by kernel_rfl) G.letters) (Ev.bin (Ev.bin Ev.nm (Ev.bin (c:=.int (2:Nat)) Ev.nm Ev.int BQ.sub) (BQ.shrN 2 rfl)) Ev.int (BQ.mask 6 (by decide))) (IQ.bytes rfl (hm _) (by rw [hlen]; decide)) (fun ψ ψ=>by rfl)) (by repeat constructor) (by exact o79 lenO) (by rfl) (fun ψ=>by rfl))
        (RQ.one (Runs.assign (d:=.int (2:Nat)) (Ev.bin (c:=.int (2:Nat)) Ev.nm Ev.int BQ.sub) (by repeat constructor) (by exact noApp.of rfl) (fun ψ=>by rfl)))) (WhL.done (EvT.cmp (c:=false) Ev.nm Ev.int CQ.ge_int (by rfl)))))
    · simp only
      rw [snoc]
      refine RQ.one (Runs.while (m:=1) (WhL.next (EvT.cmp (c:=true) Ev.nm Ev.int CQ.ge_int (by rfl)) (RQ.cons (Runs.append (by repeat constructor)
        (Ev.item (c:=.int (b64S (ch' / 2 ^ 4 % 2 ^ 6):Nat)) (Ev.globBytes (by kernel_rfl) G.letters) (Ev.bin (Ev.bin Ev.nm (Ev.bin (c:=.int (4:Nat)) Ev.nm Ev.int BQ.sub) (BQ.shrN 4 rfl)) Ev.int (BQ.mask 6 (by decide))) (IQ.bytes rfl (hm _) (by rw [hlen]; decide)) (fun ψ ψ=>by rfl)) (by repeat constructor) (by exact o79 lenO) (by rfl) (fun ψ=>by rfl))
        (RQ.one (Runs.assign (d:=.int (4:Nat)) (Ev.bin (c:=.int (4:Nat)) Ev.nm Ev.int BQ.sub) (by repeat constructor) (by exact noApp.of rfl) (fun ψ=>by rfl)))) (WhL.done (EvT.cmp (c:=false) Ev.nm Ev.int CQ.ge_int (by rfl)))))
    · simp only
      rw [show out ++ [b64S (ch' / 2 ^ 6 % 2 ^ 6),b64S (ch' / 2 ^ 0 % 2 ^ 6)] = (out ++ [b64S (ch' / 2 ^ 6 % 2 ^ 6)]) ++ [b64S (ch' / 2 ^ 0 % 2 ^ 6)] by simp,snoc,snoc]
      refine RQ.one (Runs.while (m:=2) (WhL.next (EvT.cmp (c:=true) Ev.nm Ev.int CQ.ge_int (by rfl)) (RQ.cons (Runs.append (by repeat constructor)
        (Ev.item (c:=.int (b64S (ch' / 2 ^ 6 % 2 ^ 6):Nat)) (Ev.globBytes (by kernel_rfl) G.letters) (Ev.bin (Ev.bin Ev.nm (Ev.bin (c:=.int (6:Nat)) Ev.nm Ev.int BQ.sub) (BQ.shrN 6 rfl)) Ev.int (BQ.mask 6 (by decide))) (IQ.bytes rfl (hm _) (by rw [hlen]; decide)) (fun ψ ψ=>by rfl)) (by repeat constructor) (by exact o79 lenO) (by rfl) (fun ψ=>by rfl))
        (RQ.one (Runs.assign (d:=.int (6:Nat)) (Ev.bin (c:=.int (6:Nat)) Ev.nm Ev.int BQ.sub) (by repeat constructor) (by exact noApp.of rfl) (fun ψ=>by rfl)))) ?_))
      refine WhL.next (EvT.cmp (c:=true) Ev.nm Ev.int CQ.ge_int (by rfl)) (RQ.cons (Runs.append (by repeat constructor)
        (Ev.item (c:=.int (b64S (ch' / 2 ^ 0 % 2 ^ 6):Nat)) (Ev.globBytes (by kernel_rfl) G.letters) (Ev.bin (Ev.bin Ev.nm (Ev.bin (c:=.int (0:Nat)) Ev.nm Ev.int BQ.sub) (BQ.shrN 0 rfl)) Ev.int (BQ.mask 6 (by decide))) (IQ.bytes rfl (hm _) (by rw [hlen]; decide)) (fun ψ ψ=>by rfl)) (by repeat constructor) (by have:=lenO1 (V.int (b64S (ch' / 2 ^ 6 % 2 ^ 6):Nat)); exact o80 this) (by rfl) (fun ψ=>by rfl))
        (RQ.one (Runs.assign (d:=.int (0:Nat)) (Ev.bin (c:=.int (0:Nat)) Ev.nm Ev.int BQ.sub) (by repeat constructor) (by exact noApp.of rfl) (fun ψ=>by rfl)))) (WhL.done (EvT.cmp (c:=false) Ev.nm Ev.int CQ.ge_int (by rfl)))
  · rintro σ' ⟨sb,hb,rfl⟩
    obtain ⟨k1,k2,k3,k4⟩:=feedAll_ok l
    rw [h0]
    refine RQ.freeze (by repeat constructor) (by repeat constructor) ?_
    refine RQ.cons (Runs.ifF (EvT.cmp (c:=false) Ev.nm Ev.int CQ.eq_int (by rfl)) (RQ.one (Runs.ifF (EvT.cmp (c:=false) Ev.nm Ev.int CQ.eq_int (by rfl)) .nil))) ?_
    refine RQ.cons (Runs.ifF (EvT.of Ev.nm TruOk.bool (fun ψ ψ=>by rfl)) .nil) ?_
    have hb:=KQ.bytes (W:=W) (n:=n + 1) (ns:=(fAQ l).out.map fun (k:Nat)=>(k:Int)) ?_ (by rw [List.length_map]; omega)
    · have e1:((fAQ l).out.map fun (k:Nat)=>(k:Int)).map V.int = encO (fAQ l).out:=by unfold encO; rw [List.map_map]; rfl
      have e2:octs ((fAQ l).out.map fun (k:Nat)=>(k:Int)) = (fAQ l).out.map (·.toUInt8):=by unfold octs; rw [List.map_map]; rfl
      rw [e1,e2] at hb
      exact RQ.ret (Runs.ret (Ev.call (Ev.builtin (by kernel_rfl) G.bytes bb_bytes) (Evs.one Ev.nm (fun ψ=>by rfl)) (by trivial) hb))
    · intro x hx
      obtain ⟨k,hk,rfl⟩:=List.mem_map.mp hx
      have:=k4 k hk
      omega
theorem Ev.bytesC {sc:Scope} {σ:Store} {x:List UInt8} {j pos}:Ev W n sc σ (.Constant (.bytes x) j pos) (.bytes x):=
  ⟨fun env he A hA s hot Q E g k=>Constant_bytes (k _ _ .tok mk_bytes)⟩
noncomputable def alt64 (l m:List UInt8):List UInt8:=transL ((fAQ l).out.map (·.toUInt8)) (transTab [43,47] m)
theorem fn_b64 (G:G6 W) {l m:List UInt8} (hl:l.length≤1000) (hm:m.length = 2) (h0:(fAQ l).bits = 0):RQ W (n + 2) (fQ (nth pw 17)) (fbody (nth pw 17)) (aQ ["s","altchars"] [.bytes l,.bytes m] ["encoded"]) (.ret (.bytes (alt64 l m))):=by
  show RQ W (n + 2) _ _ [("s",.val (.bytes l)),("altchars",.val (.bytes m)),("encoded",.unset)] _
  obtain ⟨k1,k2,k3,k4⟩:=feedAll_ok l
  refine RQ.cons (Runs.assign (Ev.fnKw ["bin_data","out","leftbits","leftchar","b"] G.b2a (by kernel_rfl) Ev.nm Ev.bool (fun ψ=>by rfl) (by kernel_rfl) (fn_b2a G hl h0)) (by repeat constructor) (by exact noApp.of rfl) (fun ψ=>by rfl)) ?_
  refine RQ.ret (Runs.ifT (EvT.cmp (c:=true) Ev.nm Ev.none (CQ.isNot_none rfl) (by rfl)) ?_)
  refine RQ.cons (Runs.assertT (EvT.cmp (c:=true) (Ev.len G.toG1 (by kernel_rfl) Ev.nm (KQ.len_bytes (by omega)) (fun ψ=>by rfl)) Ev.int ?_ (by rfl))) ?_
  · rw [hm]; exact CQ.eq_int
  exact RQ.ret (Runs.ret (Ev.meth Ev.nm (Evs.one (Ev.maketrans (a:=[43,47]) (b:=m) (by kernel_rfl) G.bytes bb_bytes (Evs.cons Ev.bytesC (Evs.cons Ev.nm .nil (fun ψ=>by rfl)) (fun ψ=>by rfl)) (by rw [hm]; rfl) (fun ψ=>by rfl) (by rfl) (by decide)) (fun ψ=>by rfl)) HQ.bytes meth_translate
    (KQ.translate (transTab_size _ _) (by rw [List.length_map]; omega)) (fun ψ=>by rfl) (by rfl) (by decide)))
end
theorem sh1 {x a:Nat} (h:a < 256):(x % 256 * 256 + a) / 2 ^ 2 % 2 ^ 6 = a / 4:=by exact o69 h
theorem sh2 {a b:Nat} (h:b < 256):(a * 256 + b) / 2 ^ 4 % 2 ^ 6 = a % 4 * 16 + b / 16:=by exact o70 h
theorem sh3 {b c:Nat} (h:c < 256):(b * 256 + c) / 2 ^ 6 % 2 ^ 6 = b % 16 * 4 + c / 64:=by omega
theorem sh4 {b c:Nat}:(b * 256 + c) / 2 ^ 0 % 2 ^ 6 = c % 64:=by exact o71
theorem feed3 (o:List Nat) (ch:Nat) (a b c:UInt8):∃ ch',feed (feed (feed ⟨o,0,ch⟩ a) b) c = ⟨o ++ [b64S (a.toNat / 4),b64S (a.toNat % 4 * 16 + b.toNat / 16),b64S (b.toNat % 16 * 4 + c.toNat / 64),b64S (c.toNat % 64)],0,ch'⟩:=by
  have key (x y:Nat) (hy:y < 256):(x * 2 ^ 8 + y) % 2 ^ 16 = x % 256 * 256 + y:=by exact o72 hy
  have ha:a.toNat < 256:=a.toNat_lt
  have hb:b.toNat < 256:=b.toNat_lt
  have hc:c.toNat < 256:=c.toNat_lt
  unfold feed
  simp only
  have k1:=key ch _ ha
  have k2:=key ((ch * 2 ^ 8 + a.toNat) % 2 ^ 16) _ hb
  have k3:=key (((ch * 2 ^ 8 + a.toNat) % 2 ^ 16 * 2 ^ 8 + b.toNat) % 2 ^ 16) _ hc
  have m1 (x y:Nat) (hy:y < 256):(x * 256 + y) % 256 = y:=by exact o73 hy
  rw [k1,m1 _ _ ha] at k2
  rw [k1,k2,m1 _ _ hb] at k3
  rw [k1,k2,k3]
  generalize a.toNat = a' at *
  generalize b.toNat = b' at *
  generalize c.toNat = c' at *
  have e1:(ch % 256 * 256 + a') / 2 ^ 2 % 2 ^ 6 = a' / 4:=sh1 ha
  have e2:(a' * 256 + b') / 2 ^ 4 % 2 ^ 6 = a' % 4 * 16 + b' / 16:=sh2 hb
  have e3:(b' * 256 + c') / 2 ^ 6 % 2 ^ 6 = b' % 16 * 4 + c' / 64:=sh3 hc
  have e4:(b' * 256 + c') / 2 ^ 0 % 2 ^ 6 = c' % 64:=sh4
  rw [e1,e2,e3,e4]
  exact ⟨b' * 256 + c',by simp only [List.append_assoc,List.cons_append,List.nil_append]⟩
theorem feed24 (o:List Nat) (ch a b:Nat) (ha:a < 4096) (hb:b < 4096):∃ ch',feed (feed (feed ⟨o,0,ch⟩ ((a * 4096 + b) / 65536).toUInt8) ((a * 4096 + b) / 256 % 256).toUInt8) ((a * 4096 + b) % 256).toUInt8 = ⟨o ++ [b64S (a / 64),b64S (a % 64),b64S (b / 64),b64S (b % 64)],0,ch'⟩:=by
  obtain ⟨ch',h⟩:=feed3 o ch ((a * 4096 + b) / 65536).toUInt8 ((a * 4096 + b) / 256 % 256).toUInt8 ((a * 4096 + b) % 256).toUInt8
  refine ⟨ch',h.trans ?_⟩
  have t:∀ x:Nat,x < 256→x.toUInt8.toNat = x:=fun x hx=>by
    show (UInt8.ofNat x).toNat = x
    rw [UInt8.toNat_ofNat']; exact Nat.mod_eq_of_lt hx
  rw [t _ (show (a * 4096 + b) / 65536 < 256 by omega),t _ (Nat.mod_lt _ (by decide)),t _ (Nat.mod_lt _ (by decide))]
  have e1:(a * 4096 + b) / 65536 / 4 = a / 64:=by exact o74 hb
  have e2:(a * 4096 + b) / 65536 % 4 * 16 + (a * 4096 + b) / 256 % 256 / 16 = a % 64:=by omega
  have e3:(a * 4096 + b) / 256 % 256 % 16 * 4 + (a * 4096 + b) % 256 / 64 = b / 64:=by exact o75 e1 e2
  have e4:(a * 4096 + b) % 256 % 64 = b % 64:=by exact o76
  rw [e1,e2,e3,e4]
section
variable {W:Wo} {n:Nat}
noncomputable def signsOf (marks:List Nat):List Nat:=aBQ ++ marks
noncomputable def written (fs:List Nat) (marks:List Nat):List Nat:=fs.map fun f=>(signsOf marks).getD f 0
noncomputable def bracketL (fs:List Nat) (marks:List Nat) (barred:Int):List Nat:=[91] ++ rep [33] barred ++ written fs marks ++ [93]
theorem transTab_get (a b:Nat) (c:UInt8) (ha:a < 256) (hb:b < 256):(transTab [43,47] [a.toUInt8,b.toUInt8]).getD c.toNat c = if c = 47 then b.toUInt8 else if c = 43 then a.toUInt8 else c:=by
  have hc:c.toNat < 256:=c.toNat_lt
  unfold transTab
  simp only [List.zip_cons_cons,List.zip_nil_right,List.foldl_cons,List.foldl_nil,List.getD_eq_getElem?_getD,Array.getElem?_toList]
  rw [Array.getElem?_setIfInBounds,Array.getElem?_setIfInBounds]
  by_cases h1:c = 47
  · subst h1; rw [if_pos rfl,if_pos rfl]; simp
  · rw [if_neg h1,if_neg (fun q=>h1 (UInt8.toNat_inj.mp q).symm)]
    by_cases h2:c = 43
    · subst h2; rw [if_pos rfl,if_pos rfl]; simp
    · rw [if_neg h2,if_neg (fun q=>h2 (UInt8.toNat_inj.mp q).symm)]
      simp [hc]
theorem b64_sign {f:Nat} (hf:f < 64) (a b:Nat):(if (b64S f).toUInt8 = 47 then b else if (b64S f).toUInt8 = 43 then a else b64S f) = (signsOf [a,b]).getD f 0:=by
  have h1:∀ f:Fin 62,(b64S f.val).toUInt8≠47∧(b64S f.val).toUInt8≠43∧aBQ[f.val]? = some (b64S f.val):=by decide +kernel
  by_cases h:f < 62
  · obtain ⟨x,y,z⟩:=h1 ⟨f,h⟩
    rw [if_neg x,if_neg y]
    unfold signsOf
    rw [List.getD_eq_getElem?_getD,List.getElem?_append_left (by rw [alpha62_len]; exact h),z]; rfl
  · have:f = 62∨f = 63:=by omega
    rcases this with rfl | rfl
    · rw [if_neg (by decide),if_pos (by decide)]; rfl
    · rw [if_pos (by decide)]; rfl
theorem octs_num {a b:Nat} (ha:a < 4096) (hb:b < 4096):octs [((a * 4096 + b:Nat):Int).fdiv 65536,(((a * 4096 + b:Nat):Int).fdiv 256).fmod 256,((a * 4096 + b:Nat):Int).fmod 256] = [((a * 4096 + b) / 65536).toUInt8,((a * 4096 + b) / 256 % 256).toUInt8,((a * 4096 + b) % 256).toUInt8]:=by
  generalize a * 4096 + b = m
  unfold octs
  simp only [List.map_cons,List.map_nil]
  rw [Int.fdiv_eq_ediv_of_nonneg _ (by decide),Int.fdiv_eq_ediv_of_nonneg _ (by decide),Int.fmod_eq_emod_of_nonneg _ (by decide),Int.fmod_eq_emod_of_nonneg _ (by decide)]
  rfl
theorem mod_sign {m0 m1:Nat} (c:Nat) (h0:m0 < 256) (h1:m1 < 256) (hc:c < 256):((if c.toUInt8 = 47 then m1.toUInt8 else if c.toUInt8 = 43 then m0.toUInt8 else c.toUInt8):UInt8).toNat = if c.toUInt8 = 47 then m1 else if c.toUInt8 = 43 then m0 else c:=by
  have t:∀ x:Nat,x < 256→x.toUInt8.toNat = x:=fun x hx=>by
    show (UInt8.ofNat x).toNat = x
    rw [UInt8.toNat_ofNat']; exact Nat.mod_eq_of_lt hx
  split
  · exact t _ h1
  · split
    · exact t _ h0
    · exact t _ hc
theorem alt_written {f0 f1 f2 f3 m0 m1:Nat} (h0:f0 < 64) (h1:f1 < 64) (h2:f2 < 64) (h3:f3 < 64) (hm0:m0 < 128) (hm1:m1 < 128) :
    let num:Nat:=(f0 * 64 + f1) * 4096 + (f2 * 64 + f3)
    let l:=octs [(num:Int).fdiv 65536,((num:Int).fdiv 256).fmod 256,(num:Int).fmod 256]
    (fAQ l).bits = 0∧(alt64 l ([m0,m1].map (·.toUInt8))).map (·.toNat) = written [f0,f1,f2,f3] [m0,m1]:=by
  intro num l
  obtain ⟨ch,h⟩:=feed24 [] 0 (f0 * 64 + f1) (f2 * 64 + f3) (by exact o81 h0 h1) (by exact o81 h2 h3)
  have hl:fAQ l = Bs.mk ([] ++ [b64S ((f0 * 64 + f1) / 64),b64S ((f0 * 64 + f1) % 64),b64S ((f2 * 64 + f3) / 64),b64S ((f2 * 64 + f3) % 64)]) 0 ch:=by
    show fAQ (octs _) = _
    rw [octs_num (by exact o81 h0 h1) (by exact o81 h2 h3)]
    exact h
  have d (a b:Nat) (hb:b < 64):(a * 64 + b) / 64 = a:=by exact o82 hb
  have m (a b:Nat) (hb:b < 64):(a * 64 + b) % 64 = b:=by exact o83 hb
  rw [d _ _ h1,m _ _ h1,d _ _ h3,m _ _ h3] at hl
  refine ⟨by rw [hl],?_⟩
  unfold alt64 transL written
  rw [hl]
  have one (f:Nat) (hf:f < 64):((transTab [43,47] [m0.toUInt8,m1.toUInt8]).getD (b64S f).toUInt8.toNat (b64S f).toUInt8).toNat = (signsOf [m0,m1]).getD f 0:=by
    rw [transTab_get _ _ _ (by exact o84 hm0) (by exact o84 hm1),mod_sign _ (show m0 < 256 by exact o84 hm0) (show m1 < 256 by exact o84 hm1) (b64S_lt f),b64_sign hf]
  simp only [List.nil_append,List.map_cons,List.map_nil]
  rw [one _ h0,one _ h1,one _ h2,one _ h3]
structure G7 (W:Wo):Prop extends G6 W where
  chr:W.mg "chr" = Option.none
theorem bb_chr:bootBuiltins "chr" = some (.builtin "chr"):=by kernel_rfl
theorem flat_one {α:Type} (g:α→Nat):∀ l:List α,(l.map fun c=>[g c]).flatten = l.map g
  | []=>rfl
  | x :: l=>by rw [List.map_cons,List.flatten_cons,flat_one g l]; rfl
theorem law_bracket (G:G7 W) {f0 f1 f2 f3 m0 m1:Nat} {barred:Int} (h0:f0 < 64) (h1:f1 < 64) (h2:f2 < 64) (h3:f3 < 64) (hm0:m0 < 128) (hm1:m1 < 128) (hb0:0≤barred) (hb1:barred≤1) :
    RQ W (n + 3) (fQ (nth pw 28)) (fbody (nth pw 28)) (aQ ["figures","marks","barred"] [.list ([f0,f1,f2,f3].map fun k=>V.int (k:Nat)),.str [m0,m1],.int barred] ["number","figure","written"])
      (.ret (.str (bracketL [f0,f1,f2,f3] [m0,m1] barred))):=by
  show RQ W (n + 3) _ _ [("figures",.val (.list ([f0,f1,f2,f3].map fun k=>V.int (k:Nat)))),("marks",.val (.str [m0,m1])),("barred",.val (.int barred)),("number",.unset),("figure",.unset),("written",.unset)] _
  refine RQ.cons (Runs.assign Ev.int (by repeat constructor) (by exact noApp.of rfl) (fun ψ=>by rfl)) ?_
  refine RQ.forInv (fun (k:Nat)=>V.int (k:Nat)) (fun done σ=>∃ b,pSQ b∧σ = ([("figures",.val (.list ([f0,f1,f2,f3].map fun k=>V.int (k:Nat)))),("marks",.val (.str [m0,m1])),("barred",.val (.int barred)),("number",.val (.int (done.foldl (fun (a:Nat) f=>64 * a + f) 0:Nat))),("figure",b),("written",.unset)]:Store)) [f0,f1,f2,f3]
    Ev.nm JQ.list (fun ψ ψ=>by rfl) ⟨.unset,.unset,rfl⟩ ?_ ?_
  · rintro done c rest σ hx ⟨sb,hb,rfl⟩
    refine ⟨_,_,Binds.name (by repeat constructor) (by repeat first | exact noApp.of rfl | refine noApp.plain (by assumption) ?_ | refine noApp.val ?_ | refine noApp.unset ?_ | refine noApp.own ?_ | refine noApp.app (by decide) ?_),RQ.one (Runs.assign (d:=.int (64 * (done.foldl (fun (a:Nat) f=>64 * a + f) 0) + c:Nat)) (Ev.bin (Ev.bin Ev.int Ev.nm (BQ.mulL (by decide))) Ev.nm ?_) (by repeat constructor) (by exact noApp.of rfl) (fun ψ=>by rfl)),.val (.int (c:Nat)),.val,?_⟩
    · exact_mod_cast BQ.add
    · rw [List.foldl_append]; rfl
  · rintro σ' ⟨sb,hb,rfl⟩
    have e:[f0,f1,f2,f3].foldl (fun (a:Nat) f=>64 * a + f) 0 = (f0 * 64 + f1) * 4096 + (f2 * 64 + f3):=by simp only [List.foldl_cons,List.foldl_nil]; exact o87
    rw [e]
    obtain ⟨w1,w2⟩:=alt_written h0 h1 h2 h3 hm0 hm1
    have hlt:(f0 * 64 + f1) * 4096 + (f2 * 64 + f3) < 16777216:=by exact o88 h0 h1 h2 h3
    generalize (f0 * 64 + f1) * 4096 + (f2 * 64 + f3) = num at w1 w2 hlt
    have hlen:=congrArg List.length w2
    rw [List.length_map] at hlen
    have hOl:(octs [(num:Int).fdiv 65536,((num:Int).fdiv 256).fmod 256,(num:Int).fmod 256]).length≤1000:=by unfold octs; simp
    have hO:=KQ.bytes (W:=W) (n:=n + 3) (ns:=[(num:Int).fdiv 65536,((num:Int).fdiv 256).fmod 256,(num:Int).fmod 256]) (by
      intro x hx
      have k1:(0:Int)≤(num:Int).fdiv 65536∧(num:Int).fdiv 65536 < 256:=by rw [Int.fdiv_eq_ediv_of_nonneg _ (by decide)]; exact o93 hlt
      have k2:=Int.fmod_nonneg_of_pos ((num:Int).fdiv 256) (show (0:Int) < 256 by decide)
      have k3:=Int.fmod_lt_of_pos ((num:Int).fdiv 256) (show (0:Int) < 256 by decide)
      have k4:=Int.fmod_nonneg_of_pos (num:Int) (show (0:Int) < 256 by decide)
      have k5:=Int.fmod_lt_of_pos (num:Int) (show (0:Int) < 256 by decide)
      rcases List.mem_cons.mp hx with rfl | hx
      · exact k1
      · rcases List.mem_cons.mp hx with rfl | hx
        · exact ⟨k2,k3⟩
        · rw [List.mem_singleton.mp hx]; exact ⟨k4,k5⟩) (by simp)
    generalize octs [(num:Int).fdiv 65536,((num:Int).fdiv 256).fmod 256,(num:Int).fmod 256] = O at w1 w2 hlen hOl hO
    have hM:∀ c∈[m0,m1],c < 128:=by
      intro c hc
      rcases List.mem_cons.mp hc with rfl | hc
      · exact hm0
      · rw [List.mem_singleton.mp hc]; exact hm1
    have hMl:([m0,m1].map (·.toUInt8)).length = 2:=rfl
    have hE:=KQ.encode (W:=W) (n:=n + 3) hM (by simp)
    generalize [m0,m1].map (·.toUInt8) = MB at w2 hlen hMl hE
    refine RQ.cons (Runs.assign (d:=.bytes (alt64 O MB)) ?_ (by repeat constructor) (by repeat first | exact noApp.of rfl | refine noApp.plain (by assumption) ?_ | refine noApp.val ?_ | refine noApp.unset ?_ | refine noApp.own ?_ | refine noApp.app (by decide) ?_) (fun ψ=>by rfl)) ?_
    · refine Ev.fnDf ["encoded"] (es:=[]) G.b64 (fun ψ ψ=>.nil) rfl (by kernel_rfl) (Evs.cons (d:=.bytes O) ?_ (Evs.cons (d:=.bytes MB) ?_ .nil (fun ψ=>by rfl)) (fun ψ=>by rfl)) (by kernel_rfl) rfl (fn_b64 G.toG6 hOl hMl w1)
      · refine Ev.call (Ev.builtin (by kernel_rfl) G.bytes bb_bytes) (Evs.one (Ev.list (ds:=[(num:Int).fdiv 65536,((num:Int).fdiv 256).fmod 256,(num:Int).fmod 256].map V.int) ?_ (by simp)) (fun ψ=>by rfl)) (by trivial) hO
        exact Evs.cons (Ev.bin Ev.nm Ev.int (BQ.fdiv (by decide) (by decide +kernel))) (Evs.cons (Ev.bin (Ev.bin Ev.nm Ev.int (BQ.fdiv (by decide) (by decide +kernel))) Ev.int (BQ.fmod (by decide))) (Evs.cons (Ev.bin Ev.nm Ev.int (BQ.fmod (by decide))) .nil (fun ψ=>by rfl)) (fun ψ=>by rfl)) (fun ψ=>by rfl)
      · exact Ev.meth Ev.nm (Evs.one Ev.str (fun ψ=>by rfl)) HQ.str meth_encode hE (fun ψ=>by rfl) (by rfl) (by decide)
    · generalize alt64 O MB = X at w2 hlen
      have hlen:X.length = 4:=hlen
      have ej:joinL (L "") (X.map fun c=>[c.toNat]) = written [f0,f1,f2,f3] [m0,m1]:=by
        rw [show L "" = [] by kernel_rfl,jNQ,flat_one]; exact w2
      have hr:(rep [33] barred).length≤1:=by
        unfold rep
        rw [List.length_flatten,List.map_replicate,List.sum_replicate_nat]
        simp; omega
      have hw:(written [f0,f1,f2,f3] [m0,m1]).length = 4:=rfl
      refine RQ.ret (Runs.ret (Ev.bin (Ev.bin (Ev.bin Ev.str (Ev.bin (c:=.str (rep [33] barred)) Ev.str Ev.nm (BQ.rep 1 1 (by decide) hb1 (by omega) (by decide) (by decide))) (BQ.cat ?_)) (b:=.str (written [f0,f1,f2,f3] [m0,m1])) (Ev.meth Ev.str (Evs.one (Ev.comp ["octet"] (by kernel_rfl) Ev.nm JQ.bytes
        (EmitL.map (fun (c:UInt8)=>V.int (c.toNat:Nat)) (fun c=>V.str [c.toNat]) X (fun c hc=>?_)) ?_ (plain1 fun e=>⟨rfl,fun x=>by rfl⟩)) (fun ψ=>by rfl)) HQ.str meth_join (by rw [← ej]; exact join_strs _ 1 (fun ψ ψ=>Nat.le_refl _) (by rw [hlen]; decide +kernel)) (fun ψ=>by rfl) (by rfl) (by decide)) (BQ.cat ?_)) Ev.str (BQ.cat ?_)))
      · rw [show L "[" = [91] by kernel_rfl]; simp; exact o97 hr
      · exact Ev.call (Ev.builtin (by kernel_rfl) G.chr bb_chr) (Evs.one Ev.nm (fun ψ=>by rfl)) (by trivial) (KQ.chr (Nat.le_trans (Nat.le_of_lt c.toNat_lt) (by decide)))
      · rw [List.length_map,hlen]; decide
      · rw [List.length_append,show L "[" = [91] by kernel_rfl,hw]; simp; exact o98 hr
      · rw [List.length_append,List.length_append,show L "[" = [91] by kernel_rfl,hw,show L "]" = [93] by kernel_rfl]; simp; exact o99 hr
end
noncomputable def hd1 (a:String):Nat:=(L a).headD 0
theorem one_L {a:String} (h:L a = [hd1 a]):Str.ofString a = St [hd1 a]:=by rw [ofString_L,h]
section
variable {W:Wo} {n:Nat}
theorem rsub_le {l r:List Nat} {c k:Nat} (h:r.length≤k) (hk:1≤k):(rsub l c r).length≤k * l.length:=by
  induction l with
  | nil=>simp [rsub]
  | cons x l ih=>
    unfold rsub at ih ⊢
    rw [List.flatMap_cons,List.length_append,List.length_cons,Nat.mul_succ]
    have:(if x = c then r else [x]).length≤k:=by
      split
      · exact h
      · simpa using hk
    omega
theorem esc_step {sc:Scope} {a b:String} {j0 j1 j2:Nat} {p0 p1 p2 px px' px'' pc apos cpos spos pos:Pos} {l:List Nat} {m:Nat} {ss:List Stmt} {r:Res} (hl:l.length≤m)
    (ck:L a = [hd1 a]∧L b≠[hd1 a]∧((L b).length≤6∧1≤(L b).length)∧m≤1000000∧isVar sc "text" = true∧(apos.endLine == cpos.line) = true)
    (k:(rsub l (hd1 a) (L b)).length≤(L b).length * m→RQ W n sc ss [("text",.val (.str (rsub l (hd1 a) (L b))))] r) :
    RQ W n sc (.If (.Compare (.Constant (.str (Str.ofString a)) j0 p0) [.In] [.Name "text" px] pc) [.Assign [.Name "text" px''] (.Call (.Attribute (.Name "text" px') "replace" apos) [.Constant (.str (Str.ofString a)) j1 p1,.Constant (.str (Str.ofString b)) j2 p2] [] cpos) spos] [] pos :: ss) [("text",.val (.str l))] r:=by
  obtain ⟨h1,h2,h3,h4,h5,h6⟩:=ck
  have hb:l.length + (l.length + 1) * (L b).length≤16777216:=by
    have:(l.length + 1) * (L b).length≤(l.length + 1) * 6:=Nat.mul_le_mul_left _ h3.1
    omega
  exact RQ.cons (Runs.ifReplace (List.mem_cons_self ..) .here (noApp.val .nil) (one_L h1) (one_L h1) (ofString_L _) h2 hb h5 (fun ψ=>rfl) h6 (fun ψ=>rfl) (fun ψ=>rfl) rfl)
    (k (Nat.le_trans (rsub_le (Nat.le_refl _) h3.2) (Nat.mul_le_mul_left _ hl)))
noncomputable def rs (l:List Nat) (p:String × String):List Nat:=rsub l (hd1 p.1) (L p.2)
noncomputable def escTable:Nat→List (String × String)
  | 0=>[("&","&amp;"),("<","&lt;"),(">","&gt;")]
  | 1=>[("&","&amp;"),("<","&lt;"),(">","&gt;"),("\r","&#xD;")]
  | 2=>[("&","&amp;"),("<","&lt;"),(">","&gt;"),("\"","&quot;"),("\r","&#13;"),("\n","&#10;"),("\t","&#09;")]
  | 3=>[("&","&amp;"),("<","&lt;"),("\"","&quot;"),("\t","&#x9;"),("\n","&#xA;"),("\r","&#xD;")]
  | _=>[("&","&amp;"),(">","&gt;"),("\"","&quot;")]
noncomputable def escaped (way:Nat) (l:List Nat):List Nat:=(escTable way).foldl rs l
theorem esc_0 {l:List Nat} (hl:l.length≤60):RQ W n (fQ (nth pw 20)) (fbody (nth pw 20)) (aQ ["text"] [.str l] []) (.ret (.str (escaped 0 l))):=by
  refine RQ.one (Runs.try ?_)
  exact esc_step hl (by decide +kernel) fun hl=>esc_step hl (by decide +kernel) fun hl=>esc_step hl (by decide +kernel) fun hl=>RQ.ret (Runs.ret (Ev.name (List.mem_cons_self ..) (by kernel_rfl)))
theorem esc_1 {l:List Nat} (hl:l.length≤60):RQ W n (fQ (nth pw 23)) (fbody (nth pw 23)) (aQ ["text"] [.str l] []) (.ret (.str (escaped 1 l))):=by
  refine RQ.one (Runs.try ?_)
  exact esc_step hl (by decide +kernel) fun hl=>esc_step hl (by decide +kernel) fun hl=>esc_step hl (by decide +kernel) fun hl=>esc_step hl (by decide +kernel) fun hl=>RQ.ret (Runs.ret (Ev.name (List.mem_cons_self ..) (by kernel_rfl)))
theorem esc_2 {l:List Nat} (hl:l.length≤60):RQ W n (fQ (nth pw 21)) (fbody (nth pw 21)) (aQ ["text"] [.str l] []) (.ret (.str (escaped 2 l))):=by
  refine RQ.one (Runs.try ?_)
  exact esc_step hl (by decide +kernel) fun hl=>esc_step hl (by decide +kernel) fun hl=>esc_step hl (by decide +kernel) fun hl=>esc_step hl (by decide +kernel) fun hl=>esc_step hl (by decide +kernel) fun hl=>esc_step hl (by decide +kernel) fun hl=>esc_step hl (by decide +kernel) fun hl=>RQ.ret (Runs.ret (Ev.name (List.mem_cons_self ..) (by kernel_rfl)))
theorem esc_3 {l:List Nat} (hl:l.length≤60):RQ W n (fQ (nth pw 24)) (fbody (nth pw 24)) (aQ ["text"] [.str l] []) (.ret (.str (escaped 3 l))):=by
  refine RQ.one (Runs.try ?_)
  exact esc_step hl (by decide +kernel) fun hl=>esc_step hl (by decide +kernel) fun hl=>esc_step hl (by decide +kernel) fun hl=>esc_step hl (by decide +kernel) fun hl=>esc_step hl (by decide +kernel) fun hl=>esc_step hl (by decide +kernel) fun hl=>RQ.ret (Runs.ret (Ev.name (List.mem_cons_self ..) (by kernel_rfl)))
theorem esc_4 {l:List Nat} (hl:l.length≤60):RQ W n (fQ (nth pw 22)) (fbody (nth pw 22)) (aQ ["text"] [.str l] []) (.ret (.str (escaped 4 l))):=by
  refine RQ.one (Runs.try ?_)
  exact esc_step hl (by decide +kernel) fun hl=>esc_step hl (by decide +kernel) fun hl=>esc_step hl (by decide +kernel) fun hl=>RQ.ret (Runs.ret (Ev.name (List.mem_cons_self ..) (by kernel_rfl)))
end
section
variable {W:Wo} {n:Nat}
structure G2 (W:Wo):Prop extends G7 W where
  e0:Fn W pw 20 "_escape_cdata" ["text"]
  e1:Fn W pw 23 "_escape_cdata_c14n" ["text"]
  e2:Fn W pw 21 "_escape_attrib" ["text"]
  e3:Fn W pw 24 "_escape_attrib_c14n" ["text"]
  e4:Fn W pw 22 "_escape_attrib_html" ["text"]
theorem law_written (G:G2 W) {way:Nat} (hw:way < 5) {l:List Nat} (hl:l.length≤60):RQ W (n + 1) (fQ (nth pw 29)) (fbody (nth pw 29)) (aQ ["way","text"] [.int way,.str l] []) (.ret (.str (escaped way l))):=by
  show RQ W (n + 1) _ _ [("way",.val (.int way)),("text",.val (.str l))] _
  have t (k:Int) (p p' p'':Pos) (j:Nat):EvT W (n + 1) (fQ (nth pw 29)) [("way",.val (.int way)),("text",.val (.str l))] (.Compare (.Name "way" p) [.Eq] [.Constant (.int k) j p'] p'') ((way:Int) == k):=
    EvT.cmp Ev.nm Ev.int CQ.eq_int (by rfl)
  have hn:∀ x:Nat,x < 5→x = 0∨x = 1∨x = 2∨x = 3∨x = 4:=by decide
  rcases hn way hw with rfl | rfl | rfl | rfl | rfl
  · exact RQ.ret (Runs.ifT (t 0 ..) (RQ.ret (Runs.ret (Ev.fn [] G.e0 (by kernel_rfl) (Evs.one Ev.nm (fun ψ=>by rfl)) (by kernel_rfl) rfl (esc_0 hl)))))
  · refine RQ.cons (Runs.ifF (t 0 ..) .nil) ?_
    exact RQ.ret (Runs.ifT (t 1 ..) (RQ.ret (Runs.ret (Ev.fn [] G.e1 (by kernel_rfl) (Evs.one Ev.nm (fun ψ=>by rfl)) (by kernel_rfl) rfl (esc_1 hl)))))
  · refine RQ.cons (Runs.ifF (t 0 ..) .nil) ?_
    refine RQ.cons (Runs.ifF (t 1 ..) .nil) ?_
    exact RQ.ret (Runs.ifT (t 2 ..) (RQ.ret (Runs.ret (Ev.fn [] G.e2 (by kernel_rfl) (Evs.one Ev.nm (fun ψ=>by rfl)) (by kernel_rfl) rfl (esc_2 hl)))))
  · refine RQ.cons (Runs.ifF (t 0 ..) .nil) ?_
    refine RQ.cons (Runs.ifF (t 1 ..) .nil) ?_
    refine RQ.cons (Runs.ifF (t 2 ..) .nil) ?_
    exact RQ.ret (Runs.ifT (t 3 ..) (RQ.ret (Runs.ret (Ev.fn [] G.e3 (by kernel_rfl) (Evs.one Ev.nm (fun ψ=>by rfl)) (by kernel_rfl) rfl (esc_3 hl)))))
  · refine RQ.cons (Runs.ifF (t 0 ..) .nil) ?_
    refine RQ.cons (Runs.ifF (t 1 ..) .nil) ?_
    refine RQ.cons (Runs.ifF (t 2 ..) .nil) ?_
    refine RQ.cons (Runs.ifF (t 3 ..) .nil) ?_
    exact RQ.ret (Runs.ret (Ev.fn [] G.e4 (by kernel_rfl) (Evs.one Ev.nm (fun ψ=>by rfl)) (by kernel_rfl) rfl (esc_4 hl)))
end
section
variable {W:Wo} {n:Nat}
noncomputable def toldT:List (List String):=[["&&amp;","<&lt;",">&gt;"],["&&amp;","<&lt;",">&gt;","\r&#xD;"],["&&amp;","<&lt;",">&gt;","\"&quot;","\r&#13;","\n&#10;","\t&#09;"],["&&amp;","<&lt;","\"&quot;","\r&#xD;","\n&#xA;","\t&#x9;"],["&&amp;",">&gt;","\"&quot;"]]
noncomputable def toldOf (way:Nat):List (List Nat):=((toldT[way]?).getD []).map L
noncomputable def heads (c:Nat) (one:List Nat):Bool:=[(one[0]?).getD 0] == [c]
noncomputable def spelledL (way:Nat) (c:Nat):List (List Nat):=(((toldOf way).filter (heads c)).map fun one=>sl one (some 1) none none) ++ [[c]]
noncomputable def sCQ (way:Nat) (c:Nat):List Nat:=(spelledL way c).getD 0 []
noncomputable def spelled (way:Nat) (fs:List Nat) (marks:List Nat):List Nat:=joinL (L "") (fs.map fun f=>sCQ way ((signsOf marks).getD f 0))
theorem toldOf_ok:∀ way,way < 5→(toldOf way).length≤7∧∀ one∈toldOf way,1≤one.length∧one.length≤7:=by decide +kernel
theorem spelledL_pos (way c:Nat):0 < (spelledL way c).length:=by unfold spelledL; rw [List.length_append]; simp
theorem spelledL_len {way:Nat} (hw:way < 5) (c:Nat):∀ y∈spelledL way c,y.length≤7:=by
  intro y hy
  have hT:=toldOf_ok way hw
  unfold spelledL at hy
  rcases List.mem_append.mp hy with q | q
  · obtain ⟨one,ho,rfl⟩:=List.mem_map.mp q
    exact Nat.le_trans (pick_len _ _ _ _) (hT.2 one (List.mem_filter.mp ho |>.1)).2
  · rw [List.mem_singleton.mp q]; show 1≤7; decide
theorem spelledC_mem (way c:Nat):sCQ way c∈spelledL way c:=by
  unfold sCQ
  rw [List.getD_eq_getElem?_getD,List.getElem?_eq_getElem (spelledL_pos way c)]
  exact List.getElem_mem _
theorem law_spelled {way:Nat} {fs:List Nat} {marks:List Nat} (hw:way < 5) (hf:∀ f∈fs,f < 64) (hl:fs.length≤10) (hm:marks.length = 2):RQ W n (fQ (nth pw 30)) (fbody (nth pw 30)) (aQ ["way","figures","marks"] [.int way,.list (fs.map fun k=>V.int (k:Nat)),.str marks] ["told","signs"]) (.ret (.str (spelled way fs marks))):=by
  show RQ W n _ _ [("way",.val (.int way)),("figures",.val (.list (fs.map fun k=>V.int (k:Nat)))),("marks",.val (.str marks)),("told",.unset),("signs",.unset)] _
  obtain ⟨hT1,hT2⟩:=toldOf_ok way hw
  have hS:(signsOf marks).length = 64:=by unfold signsOf; rw [List.length_append,alpha62_len,hm]
  refine RQ.cons (Runs.assign (d:=.list ((toldOf way).map V.str)) (Ev.item (Ev.list (ds:=toldT.map fun ls=>V.list (ls.map fun s=>V.str (L s))) ?_ (by decide)) Ev.nm (IQ.list (by exact o28) (by omega) ?_) (fun ψ ψ=>by rfl)) (by repeat constructor) (by exact noApp.of rfl) (fun ψ=>by rfl)) ?_
  · repeat (first | exact Evs.nil | refine Evs.cons (Ev.list ?_ (by decide)) ?_ (fun ψ=>by rfl) | refine Evs.cons Ev.str ?_ (fun ψ=>by rfl))
  · have hn:∀ x:Nat,x < 5→x = 0∨x = 1∨x = 2∨x = 3∨x = 4:=by decide
    rcases hn way hw with rfl | rfl | rfl | rfl | rfl <;> rfl
  refine RQ.cons (Runs.assign (d:=.str (signsOf marks)) (Ev.bin Ev.str Ev.nm (BQ.cat ?_)) (by repeat constructor) (by exact noApp.of rfl) (fun ψ=>by rfl)) ?_
  · rw [hm]; show aBQ.length + 2≤_; rw [alpha62_len]; decide
  refine RQ.ret (Runs.ret (Ev.meth Ev.str (Evs.one (Ev.comp ["figure"] (by kernel_rfl) Ev.nm JQ.list
    (EmitL.map (fun (k:Nat)=>V.int (k:Nat)) (fun f=>V.str (sCQ way ((signsOf marks).getD f 0))) fs (fun f hf'=>?_)) ?_ (plain1 fun e=>⟨rfl,fun x=>by rfl⟩)) (fun ψ=>by rfl)) HQ.str meth_join (join_strs _ 7 (fun f ψ=>spelledL_len hw _ _ (spelledC_mem _ _)) ?_) (fun ψ=>by rfl) (by rfl) (by decide)))
  · have hsg {sc:Scope} {σ:Store} {p p' pos:Pos} (h1:Ev W n sc σ (.Name "signs" p) (.str (signsOf marks))) (h2:Ev W n sc σ (.Name "figure" p') (.int (f:Nat))):Ev W n sc σ (.Subscript (.Name "signs" p) (.Name "figure" p') pos) (.str [(signsOf marks).getD f 0]):=
      Ev.item h1 h2 (IQ.str (by exact o85) (by have:=hf f hf'; omega) (by
        have:=chAt_nat (l:=signsOf marks) (k:=f) (i:=(f:Int)) 0 (by rw [hS]; exact hf f hf') rfl
        rw [List.getD_eq_getElem?_getD]; exact this)) (fun ψ ψ=>by rfl)
    generalize (signsOf marks).getD f 0 = c at hsg
    refine Ev.item (a:=.list ((spelledL way c).map V.str)) (b:=.int 0) ?_ Ev.int (IQ.list (by decide) (by decide) ?_) (fun ψ ψ=>by rfl)
    · unfold spelledL
      rw [List.map_append,List.map_map]
      refine Ev.bin (Ev.comp ["one"] (by kernel_rfl) Ev.nm JQ.list
        (EmitL.one V.str (heads c) (fun one=>V.str (sl one (some 1) none none)) _ (fun one ho=>Tests.one ?_) (fun one ho ψ=>?_)) ?_ (plain1 fun e=>⟨rfl,fun x=>by rfl⟩)) (Ev.list (Evs.one (hsg Ev.nm Ev.nm) (fun ψ=>by rfl)) (by simp)) (BQ.catL ?_)
      · have:=(hT2 one ho).1
        exact EvT.cmp (Ev.item Ev.nm Ev.int (IQ.str (by decide) (by decide) (chAt_nat (k:=0) 0 (by omega) rfl)) (fun ψ ψ=>by rfl)) (hsg Ev.nm Ev.nm) CQ.eq_str (by rfl)
      · have:=(hT2 one ho).2
        exact Ev.slice Ev.nm (.some Ev.int) .none .none (SQ.str (by decide) (by omega)) (fun ψ ψ=>⟨_,by rfl⟩)
      · rw [List.length_map]; exact Nat.le_trans (List.length_filter_le _ _) (by omega)
      · rw [List.length_map]
        have:=List.length_filter_le (heads c) (toldOf way)
        simp only [List.length_cons,List.length_nil]; exact o90 hT1 this
    · show ((spelledL way c).map V.str)[0]? = some (V.str (sCQ way c))
      rw [List.getElem?_map,List.getElem?_eq_getElem (spelledL_pos way c)]
      unfold sCQ
      rw [List.getD_eq_getElem?_getD,List.getElem?_eq_getElem (spelledL_pos way c)]; rfl
  · rw [List.length_map]; exact o92 hl
  · rw [show (L "").length = 0 by kernel_rfl]; omega
end
inductive Atom where
  | one (c:Nat)
  | rng (a b:Nat)
noncomputable def parse:List Nat→List Atom
  | []=>[]
  | [a]=>[.one a]
  | [a,h]=>[.one a,.one h]
  | a :: h :: b :: r=>if h = 45 then .rng a b :: parse r else .one a :: parse (h :: b :: r)
theorem parse_rng (a b:Nat) (r:List Nat):parse (a :: 45 :: b :: r) = .rng a b :: parse r:=by rw [parse,if_pos rfl]
theorem parse_one {a:Nat}:∀ {r:List Nat},(∀ b r',r≠45 :: b :: r')→parse (a :: r) = .one a :: parse r
  | [],_=>by rw [parse,parse]
  | [h],_=>by rw [parse,parse]
  | h :: b :: r,k=>by rw [parse,if_neg fun q=>k b r (by rw [q])]
noncomputable def takesA (letters:List Nat):Atom→List Nat
  | .one c=>[c]
  | .rng a b=>letters.filter fun x=>decide (a≤x) && decide (x≤b)
noncomputable def takesOf (letters:List Nat) (as:List Atom):List Nat:=as.flatMap (takesA letters)
noncomputable def takesL (letters spelled:List Nat) (barred:Int):List Nat:=letters.filter fun c=>decide (c∈takesOf letters (parse spelled)) != (barred == 1)
theorem le_one (x y:Nat):(!(decide ([y] < [x]))) = decide (x≤y):=by
  have:([y] < [x])↔y < x:=by
    constructor
    · intro h
      cases h with
      | rel h=>exact h
      | cons h=>cases h
    · exact fun h=>.rel h
  by_cases h:y < x
  · rw [decide_eq_true (this.mpr h),decide_eq_false (by omega)]; rfl
  · rw [decide_eq_false (fun q=>h (this.mp q)),decide_eq_true (by exact o26 h)]; rfl
theorem takesA_len (letters:List Nat) (h:1≤letters.length) (a:Atom):(takesA letters a).length≤letters.length:=by
  cases a with
  | one c=>exact h
  | rng a b=>exact List.length_filter_le _ _
theorem takesOf_len (letters:List Nat) (h:1≤letters.length):∀ as:List Atom,(takesOf letters as).length≤as.length * letters.length
  | []=>by simp [takesOf]
  | a :: as=>by
    unfold takesOf
    rw [List.flatMap_cons,List.length_append,List.length_cons,Nat.succ_mul]
    have h1:=takesA_len letters h a
    have h2:=takesOf_len letters h as
    unfold takesOf at h2; exact o64 h1 h2
theorem parse_len:∀ s:List Nat,(parse s).length≤s.length
  | []=>by rw [parse]; simp
  | [a]=>by rw [parse]; simp
  | [a,h]=>by rw [parse]; simp
  | a :: h :: b :: r=>by
    rw [parse]
    split
    · have:=parse_len r; simp only [List.length_cons]; omega
    · have:=parse_len (h :: b :: r); simp only [List.length_cons] at this ⊢; omega
section
variable {W:Wo} {n:Nat}
theorem chAt_app {pre suf:List Nat} {i:Int} {c:Nat} {j:Nat} (h:suf[j]? = some c) (hi:i = (pre.length + j:Nat)):chAt (pre ++ suf) i = some c:=by
  have hj:j < suf.length:=(List.getElem?_eq_some_iff.mp h).1
  rw [chAt_nat (k:=pre.length + j) 0 (by rw [List.length_append]; omega) hi]
  rw [List.getElem?_append_right (by exact o45),show pre.length + j - pre.length = j by exact o86,h]; rfl
theorem EvT.and_f {sc:Scope} {σ:Store} {es:List PySem.Expr} {e:PySem.Expr} {pos:Pos} {b:Bool} (h:EvT W n sc σ e b) (h2:b = true→EvT W n sc σ (.BoolOp .And es pos) false):EvT W n sc σ (.BoolOp .And (e :: es) pos) false:=by
  have:=EvT.and h h2
  rwa [Bool.and_false] at this
theorem range_test {sc:Scope} {σ:Store} {l r1 r2:PySem.Expr} {pos:Pos} {a x b:Nat} (h0:Ev W n sc σ l (.str [a])) (h1:Ev W n sc σ r1 (.str [x])) (h2:Ev W n sc σ r2 (.str [b])) (hm:lastMarks [.LtE,.LtE] [r1,r2] = false) :
    EvT W n sc σ (.Compare l [.LtE,.LtE] [r1,r2] pos) (decide (a≤x) && decide (x≤b)):=by
  rw [← le_one,← le_one]
  exact EvT.cmp2 h0 h1 CQ.le_str (fun ψ=>h2) (fun ψ=>CQ.le_str) hm
structure TkInv (letters s:List Nat) (i:Nat) (k:Nat) (tk:List Nat):Prop where
  split:∃ pre suf done,s = pre ++ suf∧parse s = done ++ parse suf∧done.length = i∧k = pre.length∧tk = takesOf letters done
theorem law_takes (G:G7 W) {letters s:List Nat} {barred:Int} (hl:1≤letters.length) (hl2:letters.length≤10) (hs:s.length≤100) :
    RQ W n (fQ (nth pw 31)) (fbody (nth pw 31)) (aQ ["spelled","barred","letters"] [.str s,.int barred,.str letters] ["takes","k"]) (.ret (.str (takesL letters s barred))):=by
  show RQ W n _ _ [("spelled",.val (.str s)),("barred",.val (.int barred)),("letters",.val (.str letters)),("takes",.unset),("k",.unset)] _
  refine RQ.cons (Runs.unpack (Ev.tup (ds:=[.str (L ""),.int 0]) (.cons Ev.str (Evs.one Ev.int (fun ψ=>by rfl)) (fun ψ=>by rfl)) (by simp)) (Binds.tuple (BindsL.cons (by repeat constructor) (by exact noApp.of rfl) (BindsL.cons (by repeat constructor) (by exact noApp.of rfl) BindsL.nil))) (fun ψ=>by rfl) (fun env he=>by cases env; cases he; kernel_rfl)) ?_
  refine RQ.whileInv (fun i σ=>∃ k tk,TkInv letters s i k tk∧σ = ([("spelled",.val (.str s)),("barred",.val (.int barred)),("letters",.val (.str letters)),("takes",.val (.str tk)),("k",.val (.int (k:Nat)))]:Store)) (parse s).length
    ⟨0,[],⟨[],s,[],rfl,rfl,rfl,rfl,rfl⟩,by rw [show L "" = [] by kernel_rfl]; rfl⟩ ?_ ?_ ?_
  · rintro i σ hi ⟨k,tk,⟨pre,suf,done,rfl,h2,h3,rfl,rfl⟩,rfl⟩
    have hsl:pre.length + suf.length≤100:=by rw [List.length_append] at hs; exact hs
    have hpl:(parse (pre ++ suf)).length≤100:=Nat.le_trans (parse_len _) hs
    have htk:(takesOf letters done).length≤1000:=by
      have:=takesOf_len letters hl done
      have h4:done.length≤100:=by exact o89 hi h3 hpl
      have:done.length * letters.length≤100 * 10:=Nat.mul_le_mul h4 hl2
      exact o91 (by assumption) this
    cases suf with
    | nil=>rw [h2,parse,List.append_nil,h3] at hi; omega
    | cons a r=>
      have hlen {σ:Store} {p p' pos:Pos} (hm:Ev W n (fQ (nth pw 31)) σ (.Name "spelled" p') (.str (pre ++ a :: r))):Ev W n (fQ (nth pw 31)) σ (.Call (.Name "len" p) [.Name "spelled" p'] [] pos) (.int ((pre.length + (r.length + 1):Nat):Int)):=by
        have:=Ev.len (p:=p) (pos:=pos) G.toG1 (by kernel_rfl) hm (KQ.len_str (by rw [List.length_append,List.length_cons]; simp only [List.length_cons] at hsl; omega)) (fun ψ=>by rfl)
        rw [List.length_append,List.length_cons] at this
        exact this
      have hitem {sc:Scope} {σ:Store} {e e2:PySem.Expr} {pos:Pos} {x:Int} {j c:Nat} (hm:Ev W n sc σ e (.str (pre ++ a :: r))) (h2:Ev W n sc σ e2 (.int x)) (hx:x = (pre.length + j:Nat)) (hc:(a :: r)[j]? = some c) (hsub:∀ o v,subscripted e2 false o v = operate [o,v] (getItem o v)):Ev W n sc σ (.Subscript e e2 pos) (.str [c]):=by
        have hj:j < (a :: r).length:=(List.getElem?_eq_some_iff.mp hc).1
        exact Ev.item hm h2 (IQ.str (by exact o94 hx) (by simp only [List.length_cons] at hj hsl; exact o95 hsl hx hj) (chAt_app hc hx)) hsub
      simp only [List.length_cons] at hsl
      refine ⟨EvT.cmp Ev.nm (hlen Ev.nm) (by have:=CQ.lt_int (W:=W) (a:=(pre.length:Int)) (b:=((pre.length + (r.length + 1):Nat):Int)); rwa [decide_eq_true (by exact o96)] at this) (by rfl),?_⟩
      by_cases hr:∃ b r',r = 45 :: b :: r'
      · obtain ⟨b,r',rfl⟩:=hr
        refine ⟨_,RQ.one (Runs.ifT (EvT.and (b:=true) (c:=true) (EvT.cmp (Ev.bin Ev.nm Ev.int BQ.add) (hlen Ev.nm) (by have:=CQ.lt_int (W:=W) (a:=(pre.length:Int) + 2) (b:=((pre.length + ((45 :: b :: r').length + 1):Nat):Int)); rwa [decide_eq_true (by simp only [List.length_cons]; omega)] at this) (by rfl)) fun ψ=>EvT.and (b:=true) (c:=true) (EvT.cmp (hitem (j:=1) Ev.nm (Ev.bin Ev.nm Ev.int BQ.add) (by exact o100) rfl (fun ψ ψ=>by rfl)) Ev.str CQ.eq_str (by rfl)) fun ψ=>EvT.and_nil)
          (RQ.cons (Runs.aug (b:=.str (letters.filter fun x=>decide (a≤x) && decide (x≤b))) (by repeat constructor) ?_ (InpOk.cat ?_) (by repeat constructor) (by exact noApp.of rfl)) (RQ.one (Runs.aug (c:=.int ((pre.length + 3:Nat):Int)) (by repeat constructor) Ev.int (by exact_mod_cast InpOk.add) (by repeat constructor) (by exact noApp.of rfl))))),pre.length + 3,takesOf letters (done ++ [.rng a b]),⟨pre ++ [a,45,b],r',done ++ [.rng a b],by simp,by rw [h2,parse_rng]; simp,by rw [List.length_append,h3]; rfl,by simp,rfl⟩,?_⟩
        · refine Ev.meth Ev.str (Evs.one (Ev.comp ["letter"] (by kernel_rfl) Ev.nm JQ.str
            (EmitL.one (fun x=>V.str [x]) (fun x=>decide (a≤x) && decide (x≤b)) (fun x=>V.str [x]) letters (fun x hx=>Tests.one ?_) (fun x hx ψ=>Ev.nm)) ?_ (plain1 fun e=>⟨rfl,fun x=>by rfl⟩)) (fun ψ=>by rfl)) HQ.str meth_join (by
              have:=join_strs (W:=W) (n:=n) (sep:=L "") (xs:=letters.filter fun x=>decide (a≤x) && decide (x≤b)) (fun x=>[x]) 1 (fun ψ ψ=>Nat.le_refl _) (by
                have:=List.length_filter_le (fun x=>decide (a≤x) && decide (x≤b)) letters
                rw [show (L "").length = 0 by kernel_rfl]; exact o101 hl2 this)
              rw [show joinL (L "") ((letters.filter fun x=>decide (a≤x) && decide (x≤b)).map fun x=>[x]) = letters.filter fun x=>decide (a≤x) && decide (x≤b) by rw [show L "" = [] by kernel_rfl,jNQ,flat_one (fun x=>x),List.map_id']] at this
              exact this) (fun ψ=>by rfl) (by rfl) (by decide)
          · exact range_test (hitem (j:=0) Ev.nm Ev.nm (by exact o102) rfl (fun ψ ψ=>by rfl)) Ev.nm (hitem (j:=2) Ev.nm (Ev.bin Ev.nm Ev.int BQ.add) (by omega) rfl (fun ψ ψ=>by rfl)) (by rfl)
          · rw [List.length_map]
            have:=List.length_filter_le (fun x=>decide (a≤x) && decide (x≤b)) letters
            exact o103 hl2 this
        · have:=List.length_filter_le (fun x=>decide (a≤x) && decide (x≤b)) letters
          exact o104 hl2 htk this
        · unfold takesOf; rw [List.flatMap_append]; simp [takesA]
      · have hnr:∀ b r',r≠45 :: b :: r':=fun b r' q=>hr ⟨b,r',q⟩
        refine ⟨_,RQ.one (Runs.ifF (EvT.and_f (b:=decide (2≤r.length)) (EvT.cmp (Ev.bin Ev.nm Ev.int BQ.add) (hlen Ev.nm) (by
            have:=CQ.lt_int (W:=W) (a:=(pre.length:Int) + 2) (b:=((pre.length + (r.length + 1):Nat):Int))
            rwa [show decide ((pre.length:Int) + 2 < ((pre.length + (r.length + 1):Nat):Int)) = decide (2≤r.length) by rw [decide_eq_decide]; omega] at this) (by rfl)) fun h2r=>?_)
          (RQ.cons (Runs.aug (b:=.str [a]) (by repeat constructor) (hitem (j:=0) Ev.nm Ev.nm (by exact o102) rfl (fun ψ ψ=>by rfl)) (InpOk.cat ?_) (by repeat constructor) (by exact noApp.of rfl)) (RQ.one (Runs.aug (c:=.int ((pre.length + 1:Nat):Int)) (by repeat constructor) Ev.int (by exact_mod_cast InpOk.add) (by repeat constructor) (by exact noApp.of rfl))))),pre.length + 1,takesOf letters (done ++ [.one a]),⟨pre ++ [a],r,done ++ [.one a],by simp,by rw [h2,parse_one hnr]; simp,by rw [List.length_append,h3]; rfl,by simp,rfl⟩,?_⟩
        · have h2r:=of_decide_eq_true h2r
          obtain ⟨h,b,r',rfl⟩:∃ h b r',r = h :: b :: r':=by
            cases r with
            | nil=>simp at h2r
            | cons h r=>cases r with
              | nil=>simp at h2r
              | cons b r'=>exact ⟨h,b,r',rfl⟩
          have hne:h≠45:=fun q=>hnr b r' (by rw [q])
          refine EvT.and (b:=false) (c:=true) (EvT.cmp (hitem (j:=1) (c:=h) Ev.nm (Ev.bin Ev.nm Ev.int BQ.add) (by exact o100) rfl (fun ψ ψ=>by rfl)) Ev.str (by
              have:=CQ.eq_str (W:=W) (a:=[h]) (b:=L "-")
              rwa [show ([h] == L "-") = false by rw [show L "-" = [45] by kernel_rfl]; simpa using hne] at this) (by rfl)) fun q=>by cases q
        · simp; omega
        · unfold takesOf; rw [List.flatMap_append]; simp [takesA]
  · rintro σ ⟨k,tk,⟨pre,suf,done,h1,h2,h3,rfl,rfl⟩,rfl⟩
    have hs0:parse suf = []:=by
      have:=congrArg List.length h2
      rw [List.length_append,h3] at this
      exact List.length_eq_zero_iff.mp (by exact o105 this)
    have hsuf:suf = []:=by
      match suf,hs0 with
      | [],_=>rfl
      | [a],h=>rw [parse] at h; cases h
      | [a,h],h'=>rw [parse] at h'; cases h'
      | a :: h :: b :: r,h'=>rw [parse] at h'; split at h' <;> cases h'
    subst hsuf
    rw [List.append_nil] at h1
    subst h1
    exact EvT.cmp Ev.nm (Ev.len G.toG1 (by kernel_rfl) Ev.nm (KQ.len_str (by exact o106 hs)) (fun ψ=>by rfl)) (by have:=CQ.lt_int (W:=W) (a:=(s.length:Int)) (b:=((s.length:Nat):Int)); rwa [decide_eq_false (by exact o107)] at this) (by rfl)
  · rintro σ ⟨k,tk,⟨pre,suf,done,h1,h2,h3,rfl,rfl⟩,rfl⟩
    have hs0:parse suf = []:=by
      have:=congrArg List.length h2
      rw [List.length_append,h3] at this
      exact List.length_eq_zero_iff.mp (by exact o105 this)
    rw [hs0,List.append_nil] at h2
    subst h2
    refine RQ.ret (Runs.ret (Ev.meth Ev.str (Evs.one (Ev.comp ["letter"] (by kernel_rfl) Ev.nm JQ.str
      (EmitL.one (fun x=>V.str [x]) (fun c=>decide (c∈takesOf letters (parse s)) != (barred == 1)) (fun x=>V.str [x]) letters (fun x hx=>Tests.one ?_) (fun x hx ψ=>Ev.nm)) ?_ (plain1 fun e=>⟨rfl,fun x=>by rfl⟩)) (fun ψ=>by rfl)) HQ.str meth_join ?_ (fun ψ=>by rfl) (by rfl) (by decide)))
    · rw [← isIn_one]
      exact EvT.cmp (Ev.cmp Ev.nm Ev.nm CQ.in_str (by rfl)) (Ev.cmp Ev.nm Ev.int CQ.eq_int (by rfl)) CQ.ne_bool (by rfl)
    · rw [List.length_map]; exact Nat.le_trans (List.length_filter_le _ _) (by exact o92 hl2)
    · have:=join_strs (W:=W) (n:=n) (sep:=L "") (xs:=takesL letters s barred) (fun x=>[x]) 1 (fun ψ ψ=>Nat.le_refl _) (by
        have:=List.length_filter_le (fun c=>decide (c∈takesOf letters (parse s)) != (barred == 1)) letters
        rw [show (L "").length = 0 by kernel_rfl]; unfold takesL; exact o101 hl2 this)
      rw [show joinL (L "") ((takesL letters s barred).map fun x=>[x]) = takesL letters s barred by rw [show L "" = [] by kernel_rfl,jNQ,flat_one (fun x=>x),List.map_id']] at this
      exact this
end
section
variable {W:Wo} {n:Nat} {sc:Scope} {σ σ' τ:Store}
theorem Runs.unpackOwn {x y:Str} {p1 p2 p p' pos:Pos} {j j':Nat} {e1 e2:PySem.Expr} {ds:List V} {i:Int} (h1:EvNew W n sc σ e1 ds) (h2:Ev W n sc σ e2 (.int i)) (hp:Put x (.own ds) σ τ) (hn:noApp x σ) (hp2:Put y (.val (.int i)) τ σ') (hn2:noApp y τ)
    (hx:∀ env,starEach [e1,e2] env = [(false,eval e1 env),(false,eval e2 env)])
    (hs:∀ env,swapsWithSole [.Tuple [.Name x p1,.Name y p2] j p] (.Tuple [e1,e2] j' p') pos.line env = pure false) (hw:∀ env,env.scope = sc→swappedStores [.Tuple [.Name x p1,.Name y p2] j p] (.Tuple [e1,e2] j' p') env = pure none) :
    Runs W n sc (.Assign [.Tuple [.Name x p1,.Name y p2] j p] (.Tuple [e1,e2] j' p') pos) σ (.next σ'):=
  ⟨fun env he A hA base out hot oa s Q E F k=>Assign_Tuple (PyProof.Rows.Tuple_ (by
    rw [hx]
    refine Calls.spliced_cons (h1.run env he A hA s hot _ E F.good fun a s₁ items g₁ ha hl hr nh=>?_)
    refine Calls.spliced_cons (h2.run env he A hA s₁ hot _ E (F.grown g₁).good fun v₂ s₂ g₂ r₂=>?_)
    refine wpAny_pure ?_
    obtain ⟨t,rfl⟩:=rQ r₂
    refine wpAny_newObj_type ?_ (show (2:Nat)≤sizeLine by rw [sizeLine_eq]; decide)
    have up:Sub s₂.heap (s₂.heap.push { cls:=.type "tuple",dict:=Option.none,data:=.seq [Value.ref a,.int i t].toArray }):=fun b o e=>Heap.get?_push_of_some _ e
    refine assign_Tuple_tuple hA.handled ⟨_,Heap.get?_push_size _ rfl,rfl,0,rfl⟩ rfl rfl fun h' he'=>?_
    have old:∀ b o,s₁.heap.get? b = some o→h'.get? b = some o:=fun b o e=>he' b o (Nat.ne_of_lt (Heap.lt_size (up _ _ (g₂.sub _ _ e)))) (up _ _ (g₂.sub _ _ e))
    have g₃:Grow s { s₂ with heap:=h' }:=⟨fun b o e=>old b o (g₁.sub b o e),(g₁.trans g₂).os,(g₁.trans g₂).gens⟩
    show wpAny (model W.prog W.w) A (do holding [Value.int i t] (PySem.assign (PySem.Expr.Name x p1) env (Value.ref a)); do holding [] (PySem.assign (PySem.Expr.Name y p2) env (Value.int i t)); pure ()) _ E _
    refine wpAny_bind (wpAny_holding (wpAny_assign_Name (F.storeOwn g₃ hp hn ha (let ⟨m,e⟩:=hl; ⟨m,old _ _ e⟩) (Rds.mono (fun b o nb e=>⟨old b o e,nb⟩) _ _ hr) fun s₄ hot' oa' F₄=>?_)))
    exact wpAny_bind (wpAny_holding (wpAny_assign_Name (F₄.store hp2 mk_int hn2 fun s₅ F₅=>wpAny_pure (k _ _ ⟨rfl,_,_,F₅⟩))))) ) (hs env) (hw env he)⟩
end
section
variable {W:Wo}
theorem size_up {a b:Int}:(Builtin.Range.rangeSize a b 1).toNat = (b - a).toNat:=by
  unfold Builtin.Range.rangeSize
  rw [if_pos (by decide),Int.ediv_one]
  split
  · rw [Int.sub_add_cancel]
  · rename_i h
    exact (Int.toNat_of_nonpos (Int.sub_nonpos_of_le (Int.not_lt.mp h))).symm
theorem size_down {a b:Int}:(Builtin.Range.rangeSize a b (-1)).toNat = (a - b).toNat:=by
  unfold Builtin.Range.rangeSize
  rw [if_neg (by decide),show -(-1:Int) = 1 by decide,Int.ediv_one]
  split
  · rw [Int.sub_add_cancel]
  · rename_i h
    exact (Int.toNat_of_nonpos (Int.sub_nonpos_of_le (Int.not_lt.mp h))).symm
theorem fitsL {x:Int} (h0:-4000000≤x) (h1:x≤4000000):Builtin.Range.rangeFitsLong x = true:=by
  unfold Builtin.Range.rangeFitsLong
  simp
  omega
theorem JQ.up {a b:Int} (h0:-1000000≤a) (h1:a≤1000000) (h2:-1000000≤b) (h3:b≤1000000):JQ W (.rng a b 1) ((List.range (b - a).toNat).map fun (k:Nat)=>V.int (a + k)):=by
  have hn:=rangeSize_nonneg a b 1 (by decide)
  have hs:=size_up (a:=a) (b:=b)
  have h:=JQ.rng (W:=W) (a:=a) (b:=b) (c:=1) (by decide) (by
    unfold Builtin.Range.small
    rw [fitsL (by exact o108 h0) (by exact o109 h1),fitsL (by exact o108 h2) (by exact o109 h3),fitsL (by decide) (by decide),fitsL (x:=Builtin.Range.rangeSize a b 1) (by omega) (by omega),if_pos (by decide),fitsL (x:=b + (1 - 1)) (by omega) (by omega)]
    simp)
  unfold rangeL at h
  rw [hs] at h
  simpa using h
theorem JQ.down {a b:Int} (h0:-1000000≤a) (h1:a≤1000000) (h2:-1000000≤b) (h3:b≤1000000):JQ W (.rng a b (-1)) ((List.range (a - b).toNat).map fun (k:Nat)=>V.int (a + (k:Int) * (-1))):=by
  have hn:=rangeSize_nonneg a b (-1) (by decide)
  have hs:=size_down (a:=a) (b:=b)
  have h:=JQ.rng (W:=W) (a:=a) (b:=b) (c:=-1) (by decide) (by
    unfold Builtin.Range.small
    rw [fitsL (by exact o108 h0) (by exact o109 h1),fitsL (by exact o108 h2) (by exact o109 h3),fitsL (by decide) (by decide),fitsL (x:=Builtin.Range.rangeSize a b (-1)) (by omega) (by omega),if_neg (by decide),fitsL (x:=b + (-1 + 1)) (by omega) (by omega)]
    simp)
  unfold rangeL at h
  rw [hs] at h
  exact h
end
noncomputable def signOf (c:Nat):List Nat:=if c = 45 then [] else [c]
noncomputable def sIQ:List Nat→List (List Nat)
  | []=>[]
  | [c]=>[signOf c]
  | c :: d :: r=>if c = 92 then [d] :: sIQ r else signOf c :: sIQ (d :: r)
noncomputable def EscOk:List Nat→Prop
  | []=>True
  | [c]=>c≠92
  | c :: d :: r=>if c = 92 then EscOk r else EscOk (d :: r)
theorem signsI_esc (d:Nat) (r:List Nat):sIQ (92 :: d :: r) = [d] :: sIQ r:=by rw [sIQ,if_pos rfl]
theorem signsI_one {c:Nat} (h:c≠92):∀ r,sIQ (c :: r) = signOf c :: sIQ r
  | []=>by rw [sIQ,sIQ]
  | d :: r=>by rw [sIQ,if_neg h]
theorem EscOk.esc {d:Nat} {r:List Nat} (h:EscOk (92 :: d :: r)):EscOk r:=by rw [EscOk,if_pos rfl] at h; exact h
theorem EscOk.one {c:Nat} (h:c≠92):∀ {r},EscOk (c :: r)→EscOk r
  | [],_=>by rw [EscOk]; trivial
  | d :: r,k=>by rw [EscOk,if_neg h] at k; exact k
theorem EscOk.last:¬ EscOk [92]:=by rw [EscOk]; exact fun h=>h rfl
noncomputable def leS (a b:List Nat):Bool:=!(decide (b < a))
noncomputable def spanAt (signs:List (List Nat)) (letter:Nat) (k:Nat):Bool:=(signs.getD (k + 1) [] == []) && (leS (signs.getD k []) [letter] && leS [letter] (signs.getD (k + 2) []))
noncomputable def spansL (signs:List (List Nat)) (letter:Nat):List Nat:=(List.range (signs.length - 2)).filter (spanAt signs letter)
noncomputable def isCaret (inside:List Nat):Bool:=[inside.getD 0 0] == [94]
noncomputable def bodyOf (inside:List Nat):List Nat:=inside.drop (if isCaret inside = true then 1 else 0)
noncomputable def takenC (inside:List Nat) (letter:Nat):Bool:=((sIQ (bodyOf inside)).any (· == [letter]) || !(spansL (sIQ (bodyOf inside)) letter).isEmpty) != isCaret inside
noncomputable def takenI (letters inside:List Nat):List Nat:=letters.filter (takenC inside)
theorem signsI_len:∀ l:List Nat,(sIQ l).length≤l.length
  | []=>by rw [sIQ]; simp
  | [c]=>by rw [sIQ]; simp
  | c :: d :: r=>by
    rw [sIQ]
    split
    · have:=signsI_len r; simp only [List.length_cons]; omega
    · have:=signsI_len (d :: r); simp only [List.length_cons] at this ⊢; exact o110 this
theorem signsI_nil:∀ {l:List Nat},sIQ l = []→l = []
  | [],_=>rfl
  | [c],h=>by rw [sIQ] at h; cases h
  | c :: d :: r,h=>by rw [sIQ] at h; split at h <;> cases h
section
variable {W:Wo} {n:Nat}
theorem Ev.at {sc:Scope} {σ:Store} {pre suf:List Nat} {e e2:PySem.Expr} {pos:Pos} {x:Int} {j c:Nat} (hm:Ev W n sc σ e (.str (pre ++ suf))) (h2:Ev W n sc σ e2 (.int x)) (hx:x = (pre.length + j:Nat)) (hc:suf[j]? = some c) (hz:pre.length + j < 1000000)
    (hsub:∀ o v,subscripted e2 false o v = operate [o,v] (getItem o v)):Ev W n sc σ (.Subscript e e2 pos) (.str [c]):=
  Ev.item hm h2 (IQ.str (by exact o94 hx) (by omega) (chAt_app hc hx)) hsub
theorem Ev.atList {sc:Scope} {σ:Store} {ls:List (List Nat)} {e e2:PySem.Expr} {pos:Pos} {x:Int} {j:Nat} (hm:Ev W n sc σ e (.list (ls.map V.str))) (h2:Ev W n sc σ e2 (.int x)) (hx:x = (j:Nat)) (hj:j < ls.length) (hz:j < 1000000)
    (hsub:∀ o v,subscripted e2 false o v = operate [o,v] (getItem o v)):Ev W n sc σ (.Subscript e e2 pos) (.str (ls.getD j [])):=by
  refine Ev.item hm h2 (IQ.list (by omega) (by omega) ?_) hsub
  rw [show x.toNat = j by exact o111 hx,List.getElem?_map,List.getElem?_eq_getElem hj,List.getD_eq_getElem?_getD,List.getElem?_eq_getElem hj]; rfl
theorem law_taken (G:G7 W) {letters inside:List Nat} (hl2:letters.length≤10) (hs:inside.length≤1000) (h0:inside≠[]) (he:EscOk (bodyOf inside)) :
    RQ W n (fQ (nth pw 32)) (fbody (nth pw 32)) (aQ ["inside","letters"] [.str inside,.str letters] ["signs","k","taken","letter","spans"]) (.ret (.str (takenI letters inside))):=by
  show RQ W n _ _ [("inside",.val (.str inside)),("letters",.val (.str letters)),("signs",.unset),("k",.unset),("taken",.unset),("letter",.unset),("spans",.unset)] _
  have hin:0 < inside.length:=List.length_pos_iff.mpr h0
  have hhd:inside[0]? = some (inside.getD 0 0):=by rw [List.getD_eq_getElem?_getD,List.getElem?_eq_getElem hin]; rfl
  have hat0 {sc:Scope} {σ:Store} {p p1 p2:Pos} {j:Nat} (hm:Ev W n sc σ (.Name "inside" p) (.str inside)):Ev W n sc σ (.Subscript (.Name "inside" p) (.Constant (.int 0) j p1) p2) (.str [inside.getD 0 0]):=
    Ev.item hm Ev.int (IQ.str (by decide) (by decide) (by rw [List.getD_eq_getElem?_getD]; exact chAt_nat (k:=0) 0 hin rfl)) (fun ψ ψ=>by rfl)
  have hcar:CQ W .Eq (.str [inside.getD 0 0]) (.str (L "^")) (isCaret inside):=by
    have:=CQ.eq_str (W:=W) (a:=[inside.getD 0 0]) (b:=L "^")
    rwa [show L "^" = [94] by kernel_rfl] at this ⊢
  have hk0:(if isCaret inside = true then 1 else 0)≤inside.length:=by split <;> (first | exact o112 hin | exact o113)
  refine RQ.cons (Runs.unpackOwn (ds:=[]) (i:=((if isCaret inside = true then 1 else 0:Nat):Int)) (EvNew.list Evs.nil (by decide)) (Ev.ite (EvT.cmp (hat0 Ev.nm) Ev.str hcar (by rfl)) (fun h=>by rw [h]; exact Ev.int) (fun h=>by rw [h]; exact Ev.int)) (by repeat constructor) (by exact noApp.of rfl) (by repeat constructor) (by exact noApp.of rfl) (fun ψ=>by rfl) (fun ψ=>by rfl) (fun env he=>by cases env; cases he; kernel_rfl)) ?_
  refine RQ.whileInv (fun i σ=>∃ pre suf done,inside = pre ++ suf∧sIQ (bodyOf inside) = done ++ sIQ suf∧EscOk suf∧done.length = i∧σ = ([("inside",.val (.str inside)),("letters",.val (.str letters)),("signs",.own (done.map V.str)),("k",.val (.int (pre.length:Nat))),("taken",.unset),("letter",.unset),("spans",.unset)]:Store)) (sIQ (bodyOf inside)).length
    ⟨inside.take (if isCaret inside = true then 1 else 0),bodyOf inside,[],(List.take_append_drop _ _).symm,rfl,he,rfl,by rw [List.length_take,Nat.min_eq_left hk0]; rfl⟩ ?_ ?_ ?_
  · rintro i σ hi ⟨pre,suf,done,rfl,h2,h3,h4,rfl⟩
    have hsl:pre.length + suf.length≤1000:=by rw [List.length_append] at hs; exact hs
    have hdl:(done.map V.str).length≤1000:=by
      have e1:=congrArg List.length h2
      have e2:=signsI_len (bodyOf (pre ++ suf))
      have e3:(bodyOf (pre ++ suf)).length≤(pre ++ suf).length:=by unfold bodyOf; rw [List.length_drop]; exact o114
      rw [List.length_append] at e1 e3
      rw [List.length_map]; exact o115 hsl e1 e2 e3
    cases suf with
    | nil=>rw [h2,sIQ,List.append_nil,h4] at hi; omega
    | cons c r=>
      simp only [List.length_cons] at hsl
      have hlt:CQ W .Lt (.int (pre.length:Nat)) (.int ((pre ++ c :: r).length:Nat)) true:=by
        have:=CQ.lt_int (W:=W) (a:=(pre.length:Int)) (b:=(((pre ++ c :: r).length:Nat):Int))
        rwa [decide_eq_true (by rw [List.length_append,List.length_cons]; exact o96)] at this
      refine ⟨EvT.cmp Ev.nm (Ev.len G.toG1 (by kernel_rfl) Ev.nm (KQ.len_str (by exact o116 hs)) (fun ψ=>by rfl)) hlt (by rfl),?_⟩
      have hbs:CQ W .Eq (.str [c]) (.str (L "\\")) (decide (c = 92)):=by
        have:=CQ.eq_str (W:=W) (a:=[c]) (b:=L "\\")
        rwa [show ([c] == L "\\") = decide (c = 92) by rw [show L "\\" = [92] by kernel_rfl]; by_cases h:c = 92 <;> simp [h]] at this
      by_cases hc:c = 92
      · subst hc
        rw [decide_eq_true rfl] at hbs
        cases r with
        | nil=>exact absurd h3 EscOk.last
        | cons d r=>
          simp only [List.length_cons] at hsl
          refine ⟨_,RQ.cons (Runs.ifT (EvT.cmp (Ev.at (j:=0) Ev.nm Ev.nm (by exact o102) rfl (by omega) (fun ψ ψ=>by rfl)) Ev.str hbs (by rfl))
            (RQ.cons (Runs.aug (c:=.int ((pre.length + 1:Nat):Int)) (by repeat constructor) Ev.int (by exact_mod_cast InpOk.add) (by repeat constructor) (by exact noApp.of rfl))
            (RQ.one (Runs.append (by repeat constructor) (Ev.at (j:=1) (c:=d) Ev.nm Ev.nm (by omega) rfl (by omega) (fun ψ ψ=>by rfl)) (by repeat constructor) (by exact o117 hdl) (by rfl) (fun ψ=>by rfl)))))
            (RQ.one (Runs.aug (c:=.int ((pre.length + 1 + 1:Nat):Int)) (by repeat constructor) Ev.int (by exact_mod_cast InpOk.add) (by repeat constructor) (by exact noApp.of rfl))),
            pre ++ [92,d],r,done ++ [[d]],by simp,by rw [h2,signsI_esc]; simp,h3.esc,by rw [List.length_append,h4]; rfl,?_⟩
          simp
          omega
      · rw [decide_eq_false hc] at hbs
        refine ⟨_,RQ.cons (Runs.ifF (EvT.cmp (Ev.at (j:=0) Ev.nm Ev.nm (by exact o102) rfl (by exact o118 hsl) (fun ψ ψ=>by rfl)) Ev.str hbs (by rfl))
            (RQ.one (Runs.append (d:=.str (signOf c)) (by repeat constructor) (Ev.ite (c:=decide (c = 45)) (EvT.cmp (Ev.at (j:=0) (c:=c) Ev.nm Ev.nm (by exact o102) rfl (by exact o118 hsl) (fun ψ ψ=>by rfl)) Ev.str ?_ (by rfl)) (fun h=>?_) (fun h=>?_)) (by repeat constructor) (by exact o117 hdl) (by rfl) (fun ψ=>by rfl))))
            (RQ.one (Runs.aug (c:=.int ((pre.length + 1:Nat):Int)) (by repeat constructor) Ev.int (by exact_mod_cast InpOk.add) (by repeat constructor) (by exact noApp.of rfl))),
            pre ++ [c],r,done ++ [signOf c],by simp,by rw [h2,signsI_one hc]; simp,h3.one hc,by rw [List.length_append,h4]; rfl,?_⟩
        · have:=CQ.eq_str (W:=W) (a:=[c]) (b:=L "-")
          rwa [show ([c] == L "-") = decide (c = 45) by rw [show L "-" = [45] by kernel_rfl]; by_cases h:c = 45 <;> simp [h]] at this
        · unfold signOf
          rw [if_pos (of_decide_eq_true h),show ([]:List Nat) = L "" by kernel_rfl]
          exact Ev.str
        · unfold signOf
          rw [if_neg (of_decide_eq_false h)]
          exact Ev.at (j:=0) Ev.nm Ev.nm (by exact o102) rfl (by exact o118 hsl) (fun ψ ψ=>by rfl)
        · simp
  · rintro σ ⟨pre,suf,done,rfl,h2,h3,h4,rfl⟩
    have hs0:sIQ suf = []:=by
      have:=congrArg List.length h2
      rw [List.length_append,h4] at this
      exact List.length_eq_zero_iff.mp (by exact o105 this)
    have hsuf:=signsI_nil hs0
    subst hsuf
    have hlt:CQ W .Lt (.int (pre.length:Nat)) (.int ((pre ++ []).length:Nat)) false:=by
      have:=CQ.lt_int (W:=W) (a:=(pre.length:Int)) (b:=(((pre ++ []).length:Nat):Int))
      rwa [decide_eq_false (by rw [List.append_nil]; exact o107)] at this
    exact EvT.cmp Ev.nm (Ev.len G.toG1 (by kernel_rfl) Ev.nm (KQ.len_str (by exact o116 hs)) (fun ψ=>by rfl)) hlt (by rfl)
  · rintro σ ⟨pre,suf,done,h1,h2,h3,h4,rfl⟩
    have hs0:sIQ suf = []:=by
      have:=congrArg List.length h2
      rw [List.length_append,h4] at this
      exact List.length_eq_zero_iff.mp (by exact o105 this)
    rw [hs0,List.append_nil] at h2
    generalize (pre.length:Nat) = kk
    have hT:takenC inside = fun letter=>(done.any (· == [letter]) || !(spansL done letter).isEmpty) != isCaret inside:=by unfold takenC; rw [h2]
    have hdl:done.length≤1000:=by
      have e2:=signsI_len (bodyOf inside)
      have e3:(bodyOf inside).length≤inside.length:=by unfold bodyOf; rw [List.length_drop]; exact o114
      rw [h2] at e2; exact o120 hs e2 e3
    unfold takenI
    rw [hT]
    clear hT h1 h2 h3 h4 hs0
    refine RQ.freeze (by repeat constructor) (by repeat constructor) ?_
    refine RQ.cons (Runs.assign (d:=.str []) (by rw [show ([]:List Nat) = L "" by kernel_rfl]; exact Ev.str) (by repeat constructor) (by exact noApp.of rfl) (fun ψ=>by rfl)) ?_
    refine RQ.forInv (fun c=>V.str [c]) (fun dn σ=>∃ b b2,pSQ b∧pSQ b2∧σ = ([("inside",.val (.str inside)),("letters",.val (.str letters)),("signs",.val (.list (done.map V.str))),("k",.val (.int (kk:Nat))),("taken",.val (.str (dn.filter fun letter=>(done.any (· == [letter]) || !(spansL done letter).isEmpty) != isCaret inside))),("letter",b),("spans",b2)]:Store)) letters
      Ev.nm JQ.str (fun ψ ψ=>by rfl) ⟨.unset,.unset,.unset,.unset,rfl⟩ ?_ ?_
    · rintro dn c rest σ hx ⟨sb,sb2,hb,hb2,rfl⟩
      have hdn:dn.length + 1≤10:=by rw [hx,List.length_append,List.length_cons] at hl2; omega
      have hfl:(dn.filter fun letter=>(done.any (· == [letter]) || !(spansL done letter).isEmpty) != isCaret inside).length + 1≤10:=by
        have:=List.length_filter_le (fun letter=>(done.any (· == [letter]) || !(spansL done letter).isEmpty) != isCaret inside) dn
        exact o121 hdn this
      have hlen1:(done.map V.str).length = done.length:=List.length_map ..
      refine ⟨_,_,Binds.name (by repeat constructor) (by repeat first | exact noApp.of rfl | refine noApp.plain (by assumption) ?_ | refine noApp.val ?_ | refine noApp.unset ?_ | refine noApp.own ?_ | refine noApp.app (by decide) ?_),RQ.cons (Runs.assignComp ["j"] (a:=.rng 1 ((done.length:Int) - 1) 1) (o:=(spansL done c).map fun (k:Nat)=>V.int (1 + (k:Int))) (by kernel_rfl) ?_ (JQ.up (by decide) (by decide) (by exact o122) (by exact o123 hdl)) ?_ ?_ (plain1 fun e=>⟨rfl,fun x=>by rfl⟩) (by repeat constructor) (by repeat first | exact noApp.of rfl | refine noApp.plain (by assumption) ?_ | refine noApp.val ?_ | refine noApp.unset ?_ | refine noApp.own ?_ | refine noApp.app (by decide) ?_)) (RQ.one (?_:Runs W n _ _ _ (.next [("inside",.val (.str inside)),("letters",.val (.str letters)),("signs",.val (.list (done.map V.str))),("k",.val (.int (kk:Nat))),("taken",.val (.str ((dn ++ [c]).filter fun letter=>(done.any (· == [letter]) || !(spansL done letter).isEmpty) != isCaret inside))),("letter",.val (.str [c])),("spans",.val (.list ((spansL done c).map fun (k:Nat)=>V.int (1 + (k:Int)))))]))),.val (.str [c]),_,.val,.val,rfl⟩
      · refine Ev.call (Ev.builtin (by kernel_rfl) G.range bb_range) (Evs.cons Ev.int (Evs.one (Ev.bin (Ev.len (b:=(done.length:Nat)) G.toG1 (by kernel_rfl) Ev.nm (by have:=KQ.len_list (W:=W) (n:=n) (l:=done.map V.str) (by rw [hlen1]; exact o116 hdl); rwa [hlen1] at this) (fun ψ=>by rfl)) Ev.int BQ.sub) (fun ψ=>by rfl)) (fun ψ=>by rfl)) (by trivial) KQ.range_2
      · rw [show ((done.length:Int) - 1 - 1).toNat = done.length - 2 by exact o124]
        refine EmitL.one (fun (k:Nat)=>V.int (1 + (k:Int))) (spanAt done c) (fun (k:Nat)=>V.int (1 + (k:Int))) (List.range (done.length - 2)) (fun k hk=>Tests.one ?_) (fun k hk ψ=>Ev.nm)
        have hk':k < done.length - 2:=List.mem_range.mp hk
        have he0:CQ W .Eq (.str (done.getD (k + 1) [])) (.str (L "")) (done.getD (k + 1) [] == []):=by
          have:=CQ.eq_str (W:=W) (a:=done.getD (k + 1) []) (b:=L "")
          rwa [show L "" = [] by kernel_rfl] at this ⊢
        refine EvT.and (EvT.cmp (Ev.atList (j:=k + 1) Ev.nm Ev.nm (by omega) (by exact o125 hk') (by exact o126 hdl hk') (fun ψ ψ=>by rfl)) Ev.str he0 (by rfl)) fun ψ=>?_
        rw [← Bool.and_true (leS (done.getD k []) [c] && leS [c] (done.getD (k + 2) []))]
        exact EvT.and (EvT.cmp2 (Ev.atList (ls:=done) (j:=k) Ev.nm (Ev.bin Ev.nm Ev.int BQ.sub) (by exact o127) (by exact o128 hk') (by exact o129 hdl hk') (fun ψ ψ=>by rfl)) Ev.nm CQ.le_str (fun ψ=>Ev.atList (ls:=done) (j:=k + 2) Ev.nm (Ev.bin Ev.nm Ev.int BQ.add) (by exact o130) (by exact o131 hk') (by exact o132 hdl hk') (fun ψ ψ=>by rfl)) (fun ψ=>CQ.le_str) (by rfl)) fun ψ=>EvT.and_nil
      · rw [List.length_map]
        unfold spansL
        exact Nat.le_trans (List.length_filter_le _ _) (by rw [List.length_range]; exact o133 hdl)
      · have hne:CQ W .NotEq (.list ((spansL done c).map fun (k:Nat)=>V.int (1 + (k:Int)))) (.list []) (!(spansL done c).isEmpty):=by
          have:=CQ.neq_nil (W:=W) (a:=(spansL done c).map fun (k:Nat)=>V.int (1 + (k:Int)))
          rwa [List.isEmpty_map] at this
        cases hb3:((done.any (· == [c]) || !(spansL done c).isEmpty) != isCaret inside) with
        | true=>
          rw [List.filter_append,List.filter_cons,if_pos hb3,List.filter_nil]
          exact Runs.ifT (hb3 ▸ EvT.cmp (Ev.orB (Ev.cmp Ev.nm Ev.nm CQ.in_list (by rfl)) (fun ψ=>Ev.cmp Ev.nm (Ev.list Evs.nil (by decide)) hne (by rfl))) (Ev.cmp (hat0 Ev.nm) Ev.str hcar (by rfl)) CQ.ne_bool (by rfl)) (RQ.one (Runs.aug (by repeat constructor) Ev.nm (InpOk.cat (Nat.le_trans hfl (by decide))) (by repeat constructor) (by exact noApp.of rfl)))
        | false=>
          rw [List.filter_append,List.filter_cons,if_neg (by rw [hb3]; decide),List.filter_nil,List.append_nil]
          exact Runs.ifF (hb3 ▸ EvT.cmp (Ev.orB (Ev.cmp Ev.nm Ev.nm CQ.in_list (by rfl)) (fun ψ=>Ev.cmp Ev.nm (Ev.list Evs.nil (by decide)) hne (by rfl))) (Ev.cmp (hat0 Ev.nm) Ev.str hcar (by rfl)) CQ.ne_bool (by rfl)) .nil
    · rintro σ ⟨sb,sb2,hb,hb2,rfl⟩
      exact RQ.ret (Runs.ret Ev.nm)
end
/-! the brackets of translate,told by the parts that `parse` finds -/
theorem parse_split {a b:Nat} {r:List Nat}:∀ {xs:List Nat},45 ∉ (xs ++ [a]).tail→parse (xs ++ a :: 45 :: b :: r) = xs.map Atom.one ++ .rng a b :: parse r
  | [],_=>parse_rng a b r
  | x :: xs,h=>by
    have h':45 ∉ xs ++ [a]:=h
    have ih:=parse_split (r:=r) (b:=b) (xs:=xs) fun q=>h' (List.mem_of_mem_tail q)
    rw [List.cons_append,parse_one,ih]
    · rfl
    · intro b' r' e
      cases xs with
      | nil=>rw [List.nil_append,List.cons.injEq] at e; exact h' (by rw [e.1]; simp)
      | cons y ys=>rw [List.cons_append,List.cons.injEq] at e; exact h' (by rw [e.1]; simp)
theorem parse_end:∀ {r:List Nat},45 ∉ r.tail→parse r = r.map Atom.one
  | [],_=>by rw [parse]; rfl
  | x :: r,h=>by
    have h':45 ∉ r:=h
    rw [parse_one,parse_end fun q=>h' (List.mem_of_mem_tail q)]
    · rfl
    · intro b r' e
      exact h' (by rw [e]; simp)
theorem parse_trail {a:Nat}:∀ {xs:List Nat},45 ∉ (xs ++ [a]).tail→parse (xs ++ [a,45]) = (xs ++ [a,45]).map Atom.one
  | [],_=>by rw [List.nil_append,parse]; rfl
  | x :: xs,h=>by
    have h':45 ∉ xs ++ [a]:=h
    have ih:=parse_trail (xs:=xs) fun q=>h' (List.mem_of_mem_tail q)
    rw [List.cons_append,parse_one,ih]
    · rfl
    · intro b' r' e
      cases xs with
      | nil=>rw [List.nil_append,List.cons.injEq] at e; exact h' (by rw [e.1]; simp)
      | cons y ys=>rw [List.cons_append,List.cons.injEq] at e; exact h' (by rw [e.1]; simp)
noncomputable def pre1 (q:List Nat):List (List Nat)→List (List Nat)
  | []=>[q]
  | h :: t=>(q ++ h) :: t
noncomputable def hQ:List Atom→List (List Nat)
  | []=>[[]]
  | .one c :: r=>pre1 [c] (hQ r)
  | .rng a b :: r=>[a] :: pre1 [b] (hQ r)
theorem pre1_pre1 (p q:List Nat) (l:List (List Nat)):pre1 p (pre1 q l) = pre1 (p ++ q) l:=by
  cases l with
  | nil=>rfl
  | cons h t=>show (p ++ (q ++ h)) :: t = (p ++ q ++ h) :: t; rw [List.append_assoc]
theorem chunkA_ne (as:List Atom):hQ as≠[]:=by
  cases as with
  | nil=>exact fun h=>nomatch h
  | cons x r=>cases x with
    | one c=>intro h; unfold hQ at h; cases hc:hQ r <;> rw [hc] at h <;> cases h
    | rng a b=>exact fun h=>nomatch h
theorem chunkA_ones (xs:List Nat) (as:List Atom):hQ (xs.map Atom.one ++ as) = pre1 xs (hQ as):=by
  induction xs with
  | nil=>
    obtain ⟨h,t,e⟩:=List.exists_cons_of_ne_nil (chunkA_ne as)
    rw [List.map_nil,List.nil_append,e]; rfl
  | cons x xs ih=>
    rw [List.map_cons,List.cons_append,hQ,ih,pre1_pre1]; rfl
theorem chunkA_split (xs:List Nat) (a b:Nat) (as:List Atom):hQ (xs.map Atom.one ++ .rng a b :: as) = (xs ++ [a]) :: pre1 [b] (hQ as):=by
  rw [chunkA_ones,hQ]; rfl
theorem chunkA_end (xs:List Nat):hQ (xs.map Atom.one) = [xs]:=by
  have:=chunkA_ones xs []
  rw [List.append_nil] at this
  rw [this,hQ]; show [xs ++ []] = _; rw [List.append_nil]
noncomputable def lastD (l:List Nat):Nat:=l.getLastD 0
noncomputable def remC:List (List Nat)→List (List Nat)
  | []=>[]
  | c :: rest=>match remC rest with
    | []=>[c]
    | d :: t=>if d.headD 0 < lastD c then (c.dropLast ++ d.tail) :: t else c :: d :: t
noncomputable def keepA (as:List Atom):List Atom:=as.filter fun | .one _=>true | .rng a b=>decide (a≤b)
theorem lastD_app (q:List Nat) {h:List Nat} (hh:h≠[]):lastD (q ++ h) = lastD h:=by
  unfold lastD
  rw [List.getLastD_eq_getLast?,List.getLastD_eq_getLast?,List.getLast?_append,List.getLast?_eq_some_getLast hh]; rfl
theorem remC_pre1 (q:List Nat) {h:List Nat} {t:List (List Nat)} (hh:t≠[]→h≠[]):remC (pre1 q (h :: t)) = pre1 q (remC (h :: t)):=by
  show remC ((q ++ h) :: t) = _
  unfold remC
  cases hr:remC t with
  | nil=>rfl
  | cons d r=>
    have ht:t≠[]:=fun e=>by rw [e] at hr; cases hr
    have hne:=hh ht
    dsimp only
    rw [lastD_app q hne,List.dropLast_append_of_ne_nil hne]
    split
    · rw [List.append_assoc]; rfl
    · rfl
theorem chunkA_head:∀ as:List Atom,∃ h t,hQ as = h :: t∧(t≠[]→h≠[])
  | []=>⟨[],[],rfl,fun q=>absurd rfl q⟩
  | .one c :: r=>by
    obtain ⟨h,t,e,_⟩:=chunkA_head r
    exact ⟨c :: h,t,by rw [hQ,e]; rfl,fun ψ q=>nomatch q⟩
  | .rng a b :: r=>⟨[a],pre1 [b] (hQ r),by rw [hQ],fun ψ q=>nomatch q⟩
theorem remC_chunkA:∀ as:List Atom,remC (hQ as) = hQ (keepA as)
  | []=>rfl
  | .one c :: r=>by
    obtain ⟨h,t,e,k⟩:=chunkA_head r
    have ih:=remC_chunkA r
    rw [hQ,e,remC_pre1 _ k,← e,ih]
    show _ = hQ (Atom.one c :: keepA r)
    rw [hQ]
  | .rng a b :: r=>by
    obtain ⟨h,t,e,k⟩:=chunkA_head r
    have ih:=remC_chunkA r
    rw [hQ,remC,e,remC_pre1 _ k,← e,ih]
    obtain ⟨h',t',e',_⟩:=chunkA_head (keepA r)
    rw [e']
    show (if b < a then (([]:List Nat) ++ h') :: t' else [a] :: ([b] ++ h') :: t') = _
    by_cases hab:b < a
    · rw [if_pos hab]
      have:keepA (.rng a b :: r) = keepA r:=by
        unfold keepA
        rw [List.filter_cons,if_neg (by simp; omega)]
      rw [this,e']; rfl
    · rw [if_neg hab]
      have:keepA (.rng a b :: r) = .rng a b :: keepA r:=by
        unfold keepA
        rw [List.filter_cons,if_pos (by simp; exact o26 hab)]
      rw [this,hQ,e']; rfl
theorem remC_front (q:List Nat) (as:List Atom):remC (pre1 q (hQ as)) = pre1 q (hQ (keepA as)):=by
  obtain ⟨h,t,e,k⟩:=chunkA_head as
  rw [e,remC_pre1 q k,← e,remC_chunkA]
noncomputable def escC (c:Nat):List Nat:=if c = 92 then [92,92] else if c = 45 then [92,45] else [c]
noncomputable def escL (l:List Nat):List Nat:=l.flatMap escC
noncomputable def outA:Atom→List Nat
  | .one c=>escC c
  | .rng a b=>escC a ++ [45] ++ escC b
theorem joinL_pre1 (q:List Nat) (l:List (List Nat)) (hl:l≠[]):joinL [45] ((pre1 q l).map escL) = escL q ++ joinL [45] (l.map escL):=by
  obtain ⟨h,t,rfl⟩:=List.exists_cons_of_ne_nil hl
  show joinL [45] (escL (q ++ h) :: t.map escL) = escL q ++ joinL [45] (escL h :: t.map escL)
  have e:escL (q ++ h) = escL q ++ escL h:=List.flatMap_append ..
  rw [e]
  cases ht:t.map escL with
  | nil=>show escL q ++ escL h = escL q ++ escL h; rfl
  | cons y r=>show (escL q ++ escL h) ++ [45] ++ joinL [45] (y :: r) = escL q ++ (escL h ++ [45] ++ joinL [45] (y :: r)); simp only [List.append_assoc]
theorem joinL_cons (x:List Nat) (l:List (List Nat)) (hl:l≠[]):joinL [45] (x :: l) = x ++ [45] ++ joinL [45] l:=by
  obtain ⟨h,t,rfl⟩:=List.exists_cons_of_ne_nil hl
  rfl
theorem escL_one (c:Nat):escL [c] = escC c:=by unfold escL; rw [List.flatMap_cons,List.flatMap_nil,List.append_nil]
theorem join_chunkA:∀ as:List Atom,joinL [45] ((hQ as).map escL) = as.flatMap outA
  | []=>rfl
  | .one c :: r=>by
    rw [hQ,joinL_pre1 _ _ (chunkA_ne r),join_chunkA r,List.flatMap_cons,escL_one]
    rfl
  | .rng a b :: r=>by
    obtain ⟨h,t,e⟩:=List.exists_cons_of_ne_nil (chunkA_ne r)
    have hne:(pre1 [b] (hQ r)).map escL≠[]:=by rw [e]; exact fun q=>nomatch q
    rw [hQ,List.map_cons,joinL_cons _ _ hne,joinL_pre1 _ _ (chunkA_ne r),join_chunkA r,List.flatMap_cons,escL_one,escL_one]
    show escC a ++ [45] ++ (escC b ++ _) = (escC a ++ [45] ++ escC b) ++ _
    simp only [List.append_assoc]
theorem join_front (q:List Nat) (as:List Atom):joinL [45] ((pre1 q (hQ as)).map escL) = escL q ++ as.flatMap outA:=by
  rw [joinL_pre1 _ _ (chunkA_ne as),join_chunkA]
noncomputable def escS (c:Nat):List Nat:=if c = 92∨c = 45∨sp c = true then [92,c] else [c]
noncomputable def outS:Atom→List Nat
  | .one c=>escS c
  | .rng a b=>escS a ++ [45] ++ escS b
theorem amp_app (a b:List Nat):amp (a ++ b) = amp a ++ amp b:=List.flatMap_append ..
theorem amp_esc {c:Nat} (h:c≠92):amp (escC c) = escS c:=by
  unfold escC escS
  rw [if_neg h]
  by_cases h2:c = 45
  · subst h2; decide
  · rw [if_neg h2]
    unfold amp
    rw [List.flatMap_cons,List.flatMap_nil,List.append_nil]
    cases hs:sp c with
    | true=>rw [if_pos rfl,if_pos (.inr (.inr rfl))]
    | false=>rw [if_neg (by decide),if_neg (by simp [h,h2])]
noncomputable def AtomOk:Atom→Prop
  | .one c=>c≠92
  | .rng a b=>a≠92∧b≠92
theorem amp_out:∀ {as:List Atom},(∀ x∈as,AtomOk x)→amp (as.flatMap outA) = as.flatMap outS
  | [],_=>rfl
  | x :: as,h=>by
    rw [List.flatMap_cons,amp_app,amp_out fun y hy=>h y (List.mem_cons_of_mem _ hy),List.flatMap_cons]
    congr 1
    have hx:=h x (List.mem_cons_self ..)
    cases x with
    | one c=>exact amp_esc hx
    | rng a b=>
      show amp (escC a ++ [45] ++ escC b) = escS a ++ [45] ++ escS b
      rw [amp_app,amp_app,amp_esc hx.1,amp_esc hx.2]; rfl
noncomputable def sgA:Atom→List (List Nat)
  | .one c=>[[c]]
  | .rng a b=>[[a],[],[b]]
theorem signsI_esc1 (c:Nat) (r:List Nat):sIQ (escS c ++ r) = [c] :: sIQ r:=by
  unfold escS
  split
  · exact signsI_esc c r
  · rename_i h
    have h1:c≠92:=fun q=>h (.inl q)
    have h2:c≠45:=fun q=>h (.inr (.inl q))
    show sIQ (c :: r) = _
    rw [signsI_one h1]
    unfold signOf
    rw [if_neg h2]
theorem signsI_out:∀ as:List Atom,sIQ (as.flatMap outS) = as.flatMap sgA
  | []=>by rw [List.flatMap_nil,sIQ]; rfl
  | .one c :: r=>by rw [List.flatMap_cons,List.flatMap_cons,← signsI_out r]; exact signsI_esc1 c _
  | .rng a b :: r=>by
    rw [List.flatMap_cons,List.flatMap_cons,← signsI_out r]
    show sIQ ((escS a ++ [45] ++ escS b) ++ r.flatMap outS) = _
    rw [List.append_assoc,List.append_assoc,signsI_esc1,List.singleton_append,signsI_one (by decide),signsI_esc1]
    rfl
theorem EscOk.app1 (c:Nat) {r:List Nat} (h:EscOk r):EscOk (escS c ++ r):=by
  unfold escS
  split
  · show EscOk (92 :: c :: r)
    rw [EscOk,if_pos rfl]; exact h
  · rename_i q
    have h1:c≠92:=fun e=>q (.inl e)
    show EscOk (c :: r)
    cases r with
    | nil=>rw [EscOk]; exact h1
    | cons d r=>rw [EscOk,if_neg h1]; exact h
theorem EscOk.out:∀ as:List Atom,EscOk (as.flatMap outS)
  | []=>by rw [List.flatMap_nil,EscOk]; trivial
  | .one c :: r=>by rw [List.flatMap_cons]; exact EscOk.app1 c (EscOk.out r)
  | .rng a b :: r=>by
    rw [List.flatMap_cons]
    show EscOk ((escS a ++ [45] ++ escS b) ++ r.flatMap outS)
    rw [List.append_assoc,List.append_assoc]
    refine EscOk.app1 a ?_
    have:=EscOk.app1 b (EscOk.out r)
    show EscOk (45 :: (escS b ++ _))
    cases hr:escS b ++ r.flatMap outS with
    | nil=>rw [EscOk]; decide
    | cons d r'=>rw [EscOk,if_neg (by decide),← hr]; exact this
theorem lit_replace {M:Program × World} {A:Around} {E:Value→Shared→Prop} {s:Shared} {env:Env} {Q:Value→Shared→Prop} {o:PySem.Expr} {a b:String} {apos pos p1 p2:Pos} {j1 j2:Nat} {l z:List Nat} {c:Nat} {n0:Nat}
    (ho:wpAny (model M.1 M.2) A (eval o env) (fun v s₁=>∃ t tk,v = .str (St l) t∧s₁ = { s with toks:=tk }∧(n0≤tk)) E s) (ha:L a = [c]) (hb:L b = z) (hz:z≠[c]) (hn0:c∈l→1≤n0) (hl:l.length≤1000) (hzl:z.length≤1000)
    (hbase:attributeBase o "replace" env (eval o env) = eval o env) (hline:(apos.endLine == pos.line) = true)
    (hargs:starEach [.Constant (.str (Str.ofString a)) j1 p1,.Constant (.str (Str.ofString b)) j2 p2] env = [(false,eval (.Constant (.str (Str.ofString a)) j1 p1) env),(false,eval (.Constant (.str (Str.ofString b)) j2 p2) env)])
    (k:∀ t tk,n0 + 2≤tk→Q (.str (St (rsub l c z)) t) { s with toks:=tk }) :
    wpAny (model M.1 M.2) A (eval (.Call (.Attribute o "replace" apos) [.Constant (.str (Str.ofString a)) j1 p1,.Constant (.str (Str.ofString b)) j2 p2] [] pos) env) Q E s:=by
  refine wpAny_Call_method_lateS hbase ?_ hline (wpAny_mono ho (fun v s₁ h=>?_) fun ψ ψ e=>e)
  · rw [hargs]; rfl
  obtain ⟨t,tk,rfl,rfl,hk⟩:=h
  refine ⟨"str","str.replace",mRQ.pa,mRQ.slot,mRQ.ty,typeIs_str _ _ _,fun ψ e=>(nomatch e),?_⟩
  refine Calls.callWith_builtin (by rw [hargs]; rfl) (evalArgs_any (by rw [hargs]; rfl) ?_)
  rw [hargs]
  refine Calls.spliced_cons (@wpAny_mkText _ _ _ _ _ _ ?_)
  refine Calls.spliced_cons (@wpAny_mkText _ _ _ _ _ _ (wpAny_pure ?_))
  rw [ofString_L,ofString_L,ha,hb]
  by_cases hc:c∈l
  · have h1:=hn0 hc
    have hyz:(St [c] == St z) = false:=beq_eq_false_iff_ne.mpr fun e=>hz (by
      have:(St [c]).cps.toList = (St z).cps.toList:=by rw [e]
      simpa [St] using this.symm)
    have hzz:l.length + (l.length + 1) * z.length≤16777216:=by
      have:(l.length + 1) * z.length≤1001 * 1000:=Nat.mul_le_mul (by omega) hzl
      omega
    refine wpAny_with_toks (n:=n0 + 2) (show n0 + 2≤tk + 1 + 1 by exact o119 hk) (SC.replace (Nat.ne_of_gt (Nat.lt_of_lt_of_le h1 hk)) (Nat.succ_ne_zero _) (Nat.ne_of_lt (Nat.lt_succ_self _)) hyz (by rw [St_len,St_len]; exact hzz) fun t' tk' hN=>?_)
    rw [replace_St]
    exact k t' tk' hN
  · have he:(Builtin.Str.occurrences (St l) (St [c]) 0 (St l).length ((St l).length + 1)).isEmpty = true:=by
      obtain ⟨f,h⟩:=StrLaws.occ_chain (St l) ⟨#[c]⟩ ((St l).length + 1)
      show (Builtin.Str.occurrences (St l) ⟨#[c]⟩ 0 (St l).length ((St l).length + 1)).isEmpty = true
      cases ho:Builtin.Str.occurrences (St l) ⟨#[c]⟩ 0 (St l).length ((St l).length + 1) with
      | nil=>rfl
      | cons i r=>
        rw [ho] at h
        have hm:=(StrLaws.subAt_one (St l) c i).mp h.2.1
        have hin:c∈(St l).cps.toList:=List.mem_of_getElem? hm
        exact absurd (by simpa [St] using hin) hc
    refine call_gives F.slot_str_replace (typeIs_str _ _ _) F.entry_str_replace (F.args_str_replace_3 _ _ _) (gives_str_replace (St l) (St [c]) (St z) _ _ _ fun h=>?_) ?_
    · rw [he] at h; cases h
    · rw [he]
      simp only [Bool.true_or,if_true]
      have:=k t (tk + 1 + 1) (by exact o119 hk)
      rw [rsub_free c z l hc] at this
      exact this
theorem rsub_esc {l:List Nat} (h:92 ∉ l):rsub l 45 [92,45] = escL l:=by
  unfold rsub escL
  induction l with
  | nil=>rfl
  | cons x l ih=>
    have hx:x≠92:=fun e=>h (e ▸ List.mem_cons_self ..)
    rw [List.flatMap_cons,List.flatMap_cons,ih fun q=>h (List.mem_cons_of_mem _ q)]
    congr 1
    unfold escC
    rw [if_neg hx]
theorem two_replace {M:Program × World} {A:Around} {E:Value→Shared→Prop} {s:Shared} {env:Env} {Q:Value→Shared→Prop} {o:PySem.Expr} {ap1 cp1 ap2 cp2 p1 p2 p3 p4:Pos} {j1 j2 j3 j4:Nat} {l:List Nat} {t:Tok}
    (ho:∀ Q':Value→Shared→Prop,Q' (.str (St l) t) s→wpAny (model M.1 M.2) A (eval o env) Q' E s) (h92:92 ∉ l) (hl:l.length≤1000)
    (hb1:attributeBase o "replace" env (eval o env) = eval o env) (hl1:(ap1.endLine == cp1.line) = true) (hl2:(ap2.endLine == cp2.line) = true)
    (hb2:attributeBase (.Call (.Attribute o "replace" ap1) [.Constant (.str (Str.ofString "\\")) j1 p1,.Constant (.str (Str.ofString "\\\\")) j2 p2] [] cp1) "replace" env (eval (.Call (.Attribute o "replace" ap1) [.Constant (.str (Str.ofString "\\")) j1 p1,.Constant (.str (Str.ofString "\\\\")) j2 p2] [] cp1) env) = eval (.Call (.Attribute o "replace" ap1) [.Constant (.str (Str.ofString "\\")) j1 p1,.Constant (.str (Str.ofString "\\\\")) j2 p2] [] cp1) env)
    (k:∀ t' tk,Q (.str (St (escL l)) t') { s with toks:=tk }) :
    wpAny (model M.1 M.2) A (eval (.Call (.Attribute (.Call (.Attribute o "replace" ap1) [.Constant (.str (Str.ofString "\\")) j1 p1,.Constant (.str (Str.ofString "\\\\")) j2 p2] [] cp1) "replace" ap2) [.Constant (.str (Str.ofString "-")) j3 p3,.Constant (.str (Str.ofString "\\-")) j4 p4] [] cp2) env) Q E s:=by
  refine lit_replace (M:=M) (n0:=2) (c:=45) (z:=[92,45]) (l:=l) ?_ (by kernel_rfl) (by kernel_rfl) (by decide) (fun ψ=>by decide) hl (by decide) hb2 hl2 (by rfl) fun t' tk ψ=>?_
  · refine lit_replace (M:=M) (n0:=0) (c:=92) (z:=[92,92]) (l:=l) (ho _ ⟨t,s.toks,rfl,rfl,Nat.zero_le _⟩) (by kernel_rfl) (by kernel_rfl) (by decide) (fun q=>absurd q h92) hl (by decide) hb1 hl1 (by rfl) fun t' tk hk=>?_
    rw [rsub_free _ _ _ h92]
    exact ⟨t',tk,rfl,rfl,hk⟩
  · rw [rsub_esc h92]; exact k t' tk
theorem passing_true_all (n:Nat):passing (fun ψ=>true) n 0 = List.range n:=by
  unfold passing
  rw [List.drop_zero]
  exact List.filter_eq_self.mpr fun ψ ψ=>rfl
theorem escL_len (l:List Nat):(escL l).length≤2 * l.length:=by
  unfold escL
  induction l with
  | nil=>exact Nat.le_refl _
  | cons c l ih=>
    rw [List.flatMap_cons,List.length_append,List.length_cons]
    have:(escC c).length≤2:=by
      unfold escC
      split
      · exact Nat.le_refl _
      · split
        · exact Nat.le_refl _
        · exact (by decide:1≤2)
    exact o42 ih this
section
variable {T:TC} {W:Wo} {n:Nat} {sc:Scope} {σ σ':Store}
noncomputable abbrev escElt (z:Str) (p0 ap1 cp1 ap2 cp2 p1 p2 p3 p4:Pos) (j1 j2 j3 j4:Nat):PySem.Expr:=
  .Call (.Attribute (.Call (.Attribute (.Name z p0) "replace" ap1) [.Constant (.str (Str.ofString "\\")) j1 p1,.Constant (.str (Str.ofString "\\\\")) j2 p2] [] cp1) "replace" ap2) [.Constant (.str (Str.ofString "-")) j3 p3,.Constant (.str (Str.ofString "\\-")) j4 p4] [] cp2
theorem RunsT.joinGen {x y z:Str} {p q0 apos cpos pos gpos pz py p0 ap1 cp1 ap2 cp2 p1 p2 p3 p4:Pos} {j0 j1 j2 j3 j4:Nat} {gsc:Scope} {cs:List (List Nat)} (hh:T.here = true) (B:TB T W) (hy:(y,Slot.val (.list (cs.map V.str)))∈σ) (hv:isVar sc y = true)
    (h92:∀ c∈cs,92 ∉ c) (hl:∀ c∈cs,c.length≤1000) (hn:cs.length≤1000) (hne:((gpos.line:Int) == (T.pos.line:Int) && (gpos.col:Int) == (T.pos.col:Int)) = false)
    (hco:gsc.isCoroutine = false) (hcl:∀ env,env.scope = sc→closureFor gsc env = pure []) (hcell:∀ y∈gsc.names,y.2≠.cell) (h0:gsc.names.lookup (".0" : Str) = some NameKind.local) (hz:gsc.names.lookup z = some .local) (hzd:(z == ("__debug__" : Str)) = false) (hkind:gsc.kind = .function)
    (hfold:∀ env x,genFold (.Name y py) env x = pure x) (hline:(apos.endLine == cpos.line) = true) (hl1:(ap1.endLine == cp1.line) = true) (hl2:(ap2.endLine == cp2.line) = true)
    (hb0:∀ env,attributeBase (.Constant (.str (Str.ofString "-")) j0 q0) "join" env (eval (.Constant (.str (Str.ofString "-")) j0 q0) env) = eval (.Constant (.str (Str.ofString "-")) j0 q0) env)
    (hb1:∀ env,attributeBase (.Name z p0) "replace" env (eval (.Name z p0) env) = eval (.Name z p0) env)
    (hb2:∀ env,attributeBase (.Call (.Attribute (.Name z p0) "replace" ap1) [.Constant (.str (Str.ofString "\\")) j1 p1,.Constant (.str (Str.ofString "\\\\")) j2 p2] [] cp1) "replace" env (eval (.Call (.Attribute (.Name z p0) "replace" ap1) [.Constant (.str (Str.ofString "\\")) j1 p1,.Constant (.str (Str.ofString "\\\\")) j2 p2] [] cp1) env) = eval (.Call (.Attribute (.Name z p0) "replace" ap1) [.Constant (.str (Str.ofString "\\")) j1 p1,.Constant (.str (Str.ofString "\\\\")) j2 p2] [] cp1) env)
    (hn0:∀ env,starEach [.GeneratorExp (escElt z p0 ap1 cp1 ap2 cp2 p1 p2 p3 p4 j1 j2 j3 j4) [⟨.Name z pz,.Name y py,[],0⟩] gsc gpos] env = [(false,eval (.GeneratorExp (escElt z p0 ap1 cp1 ap2 cp2 p1 p2 p3 p4 j1 j2 j3 j4) [⟨.Name z pz,.Name y py,[],0⟩] gsc gpos) env)])
    (hp:Put x (.val (.str (joinL [45] (cs.map escL)))) σ σ') (hna:noApp x σ)
    (hs:∀ env,swapsWith (.Call (.Attribute (.Constant (.str (Str.ofString "-")) j0 q0) "join" apos) [.GeneratorExp (escElt z p0 ap1 cp1 ap2 cp2 p1 p2 p3 p4 j1 j2 j3 j4) [⟨.Name z pz,.Name y py,[],0⟩] gsc gpos] [] cpos) (some (.Name x p)) pos.line env = pure false) :
    RunsT T W (n + 2) sc (.Assign [.Name x p] (.Call (.Attribute (.Constant (.str (Str.ofString "-")) j0 q0) "join" apos) [.GeneratorExp (escElt z p0 ap1 cp1 ap2 cp2 p1 p2 p3 p4 j1 j2 j3 j4) [⟨.Name z pz,.Name y py,[],0⟩] gsc gpos] [] cpos) pos) σ (.next σ'):=
  ⟨fun env he A hA base out hot oa s Q E F t k=>by
    refine wpAny_Assign_Name ?_ (hs env)
    refine wpAny_Call_method_lateS (hb0 env) ?_ hline (@wpAny_mkText _ _ _ _ _ _ ?_)
    · rw [hn0]; rfl
    refine ⟨"str","str.join",meth_join.pa,meth_join.slot,meth_join.ty,typeIs_str _ _ _,fun ψ e=>(nomatch e),?_⟩
    refine Calls.callWith_builtin (by rw [hn0]; rfl) (evalArgs_any (by rw [hn0]; rfl) ?_)
    rw [hn0]
    have gt:Grow s { s with toks:=s.toks + 1 }:=.tok
    refine Calls.spliced_cons (wpAny_GeneratorExp_walksQD hA.handled hco (hcl env he) hcell h0 hz hkind hA.lim ?_ (hfold env))
    refine (Ev.name (n:=n + 2) hy hv).run env he A hA _ hot _ E (F.grown gt).good fun v s₁ g₁ r₁=>?_
    obtain ⟨a,items,rfl,ha,hl0,hr⟩:=rd_list r₁
    have F₁:=F.grown (gt.trans g₁)
    have t₁:=t.grow (gt.trans g₁)
    have haI:a≠s₁.heap.objs.size:=by obtain ⟨m,e⟩:=hl0; exact Nat.ne_of_lt (Heap.lt_size e)
    have up:Sub s₁.heap (s₁.heap.push { cls:=.type "list_iterator",data:=.fields #[.ref a,.int 0 0] }):=fun b o e=>Heap.get?_push_of_some _ e
    have gp:Grow s₁ { s₁ with heap:=s₁.heap.push { cls:=.type "list_iterator",data:=.fields #[.ref a,.int 0 0] } }:=⟨up,rfl,fun e=>e⟩
    have hsz:items.size = cs.length:=by rw [← Array.length_toList,hr.length,List.length_map]
    refine wpAny_pyIter_list (PlainList.isList hl0) ?_
    have F₂:=F₁.grown gp
    have t₂:=t₁.grow gp
    refine ⟨W.hnl.keeps F₂.good.base,?_⟩
    have tD:TabOk T (s₁.heap.push { cls:=.type "list_iterator",data:=.fields #[.ref a,.int 0 0] }) (fun b=>hot b∨b = s₁.heap.objs.size):=
      t₁.ok.mono (fun o e=>up _ _ e) fun b o nb e=>⟨up _ _ e,fun q=>by
        rcases q with q | q
        · exact nb q
        · exact absurd (Heap.lt_size e) (by rw [q]; exact Nat.lt_irrefl _)⟩
    refine gx_code hh B F₂ t₂ (D:=fun b=>b = s₁.heap.objs.size) tD hne fun code h₃ tk₃ keep₃ F₃ t₃ tD₃=>?_
    obtain ⟨bm,ob,b1,b2,b3,b4,b5,b6,b7,b8⟩:=B.bi
    refine wpAny_builtinsFor (by rw [F.globals]; exact W.hg.keeps F₃.good.base) b1 b2 (F₃.good.base _ _ b5) b6 b7 b8 ?_
    have hTs:T.P < s₁.heap.objs.size:=by obtain ⟨ps,e,_⟩:=t₁.ok; exact Heap.lt_size e
    have haP:a≠T.P:=fun e=>ha (e ▸ t.isHot)
    have hIP:s₁.heap.objs.size≠T.P:=(Nat.ne_of_lt hTs).symm
    have l3:Heap.PlainList h₃ a items:=by obtain ⟨m,e⟩:=hl0; exact ⟨m,keep₃ _ _ haP (up _ _ e)⟩
    have i3:h₃.get? s₁.heap.objs.size = some { cls:=.type "list_iterator",data:=.fields #[.ref a,.int 0 0] }:=keep₃ _ _ hIP (Heap.get?_push_size _ rfl)
    have hcst:cStatics < s₁.heap.objs.size:=by obtain ⟨_,hn,_⟩:=W.hnl.keeps F₁.good.base; exact hn.lt
    refine ⟨s₁.heap.objs.size,[s₁.heap.objs.size,a],[s₁.heap.objs.size],items.size,fun i v=>items[i]? = some v,fun i h=>h.IsListIter s₁.heap.objs.size a i∧h.IsList a items,fun ψ=>true,fun i v=>∃ c t,cs[i]? = some c∧v = .str (St (escL c)) t,rfl,
      fun A' hA'=>Walks.list hA' _ a haI items,⟨⟨_,i3,rfl,rfl⟩,PlainList.isList l3⟩,?_,W.hnl.keeps F₃.good.base,?_,?_,?_⟩
    · intro b hb
      rcases List.mem_cons.mp hb with e | hb
      · rw [e]; exact Heap.lt_size i3
      · rw [List.mem_singleton.mp hb]; obtain ⟨m,e⟩:=l3; exact Heap.lt_size e
    · intro hm
      rw [List.mem_singleton.mp hm] at hcst
      exact Nat.lt_irrefl _ hcst
    · intro href _
      refine ⟨fun A' E' i v s₂ m₂ ψ ψ ψ ψ ψ ψ ψ=>wpAny_pure ⟨rfl,s₂.heap,s₂.toks,rfl,fun ψ ψ e=>e⟩,fun A' E' i v s₂ m₂ ψ ψ ψ hP ψ hns hmz ψ=>?_⟩
      have hi:i < cs.length:=by rw [← hsz]; exact (Array.getElem?_eq_some_iff.mp hP).1
      obtain ⟨w,w1,w2⟩:=hr.getElem (i:=i) (d:=.str cs[i]) (by rw [List.getElem?_map,List.getElem?_eq_getElem hi]; rfl)
      rw [show items[i]? = items.toList[i]? by simp,w1] at hP
      cases hP
      obtain ⟨u,rfl⟩:=sQ w2
      refine two_replace (M:=(W.prog,W.w)) (l:=cs[i]) (t:=u) (fun Q' h'=>wpAny_Name (wpAny_loadName_local hkind hz hns hmz h') hzd) (h92 _ (List.getElem_mem hi)) (hl _ (List.getElem_mem hi)) (hb1 _) hl1 hl2 (hb2 _) fun t' tk=>?_
      exact ⟨⟨_,_,List.getElem?_eq_getElem hi,rfl⟩,_,_,rfl,fun ψ ψ e=>e⟩
    · intro ag h₅ tk gs hgb hlt hsz₅ keep₅ WS hst
      refine Calls.spliced_nil ?_
      rw [passing_true_all,List.length_range] at WS
      refine SC.joinGen (WalksS.of_in1 (WalksS.of_in1 WS)) (fun i s' st=>st.1.typeIs) hst ?_ (List.mem_cons_self ..) (fun i v hv=>?_) (fun s' l hm hit=>?_) (by rw [hsz]; exact Nat.le_trans hn (by decide))
      · intro b hb
        show b < h₅.objs.size
        rw [hsz₅]
        rcases List.mem_cons.mp hb with e | hb
        · rw [e]; exact Nat.lt_succ_self _
        · rcases List.mem_cons.mp hb with e | hb
          · rw [e]; exact Nat.lt_succ_of_lt hlt
          · exact Nat.lt_succ_of_lt (Nat.lt_trans (List.mem_range.mp hb) hlt)
      · obtain ⟨j,_,c,t,_,h⟩:=hv
        exact ⟨_,_,h⟩
      · have el:l.map (·.1) = (cs.map escL).map St:=by
          refine List.ext_getElem? fun j=>?_
          rw [List.getElem?_map,List.map_map,List.getElem?_map]
          have hsl:l.length = cs.length:=by have:=hit.1; rw [← hsz]; simpa [strValues] using this
          by_cases hj:j < l.length
          · have:=hit.2 j (.str l[j].1 l[j].2) (by simp [strValues,hj])
            obtain ⟨j',e1,c,t,e2,e3⟩:=this
            rw [List.getElem?_eq_some_iff] at e1
            obtain ⟨_,e1⟩:=e1
            simp at e1; subst e1
            rw [e2,List.getElem?_eq_getElem hj]
            injection e3 with e4
            show some l[j].1 = some (St (escL c))
            rw [e4]
          · rw [List.getElem?_eq_none (by exact o26 hj),List.getElem?_eq_none (by exact o229 hsl hj)]; rfl
        rw [el]
        refine ⟨?_,fun t' tk'=>?_⟩
        · unfold JoinOk
          rw [Bool.not_eq_true']
          exact StrLaws.joinFits (B:=2000) (fun y hy=>by
            obtain ⟨x,hx,rfl⟩:=List.mem_map.mp hy
            obtain ⟨c,hc,rfl⟩:=List.mem_map.mp hx
            rw [St_len]
            have:=hl c hc
            have:=escL_len c
            exact o78 (by assumption) this) (by rw [ofString_L,St_len,List.length_map,List.length_map,show L "-" = [45] by kernel_rfl]; simp; omega)
        · rw [ofString_L,show L "-" = [45] by kernel_rfl,join_St]
          have hm':=hm.heap
          have hC:h₃.objs.size≠T.P:=fun e=>by obtain ⟨ps,e2,_⟩:=t₃.ok; have:=Heap.lt_size e2; rw [← e] at this; exact Nat.lt_irrefl _ this
          have from1:∀ b o,b≠T.P→s₁.heap.get? b = some o→s'.heap.get? b = some o:=fun b o nb e=>by
            have e3:=keep₃ _ _ nb (up _ _ e)
            refine hm' _ _ (fun hb=>?_) (keep₅ _ _ e3)
            rcases List.mem_cons.mp hb with q | hb
            · exact absurd (Heap.lt_size e3) (by rw [q]; exact Nat.lt_irrefl _)
            · exact absurd (Heap.lt_size e) (by rw [List.mem_singleton.mp hb]; exact Nat.lt_irrefl _)
          have gT:GrowT T s { s' with toks:=tk' }:=⟨fun b o nb e=>from1 b o nb ((gt.trans g₁).sub _ _ e),hm.os.trans (gt.trans g₁).os,fun e=>AllBare.moved (((gt.trans g₁).gens e).push hgb) hm.gens⟩
          have tokF:TabOk T s'.heap hot:=by
            refine tD₃.mono (fun o e=>hm' _ _ (fun hb=>?_) (keep₅ _ _ e)) fun b o nb e=>⟨hm' _ _ (fun hb=>?_) (keep₅ _ _ e),fun q=>nb (.inl q)⟩
            · rcases List.mem_cons.mp hb with q | hb
              · exact hC q.symm
              · exact hIP (List.mem_singleton.mp hb).symm
            · rcases List.mem_cons.mp hb with q | hb
              · exact absurd (Heap.lt_size e) (by rw [q]; exact Nat.lt_irrefl _)
              · exact nb (.inr (List.mem_singleton.mp hb))
          obtain ⟨F₄,t₄⟩:=F.growT t gT tokF
          exact F₄.rebase.store hp mk_str hna fun s₅ F₅=>k _ _ (ResT.of t₄ F₄ ⟨rfl,hot,oa,F₅⟩)⟩
end
noncomputable def spanE (l:List (List Nat)) (c:Nat):Prop:=∃ k,k + 2 < l.length∧spanAt l c k = true
theorem spansL_iff (l:List (List Nat)) (c:Nat):(!(spansL l c).isEmpty) = true↔spanE l c:=by
  unfold spansL spanE
  rw [Bool.not_eq_true',List.isEmpty_eq_false_iff_exists_mem]
  constructor
  · rintro ⟨k,hk⟩
    obtain ⟨h1,h2⟩:=List.mem_filter.mp hk
    exact ⟨k,by have:=List.mem_range.mp h1; exact o131 this,h2⟩
  · rintro ⟨k,h1,h2⟩
    exact ⟨k,List.mem_filter.mpr ⟨List.mem_range.mpr (by omega),h2⟩⟩
theorem spanAt_succ (x:List Nat) (l:List (List Nat)) (c k:Nat):spanAt (x :: l) c (k + 1) = spanAt l c k:=by
  unfold spanAt
  simp only [List.getD_cons_succ]
theorem spanE_cons (x:List Nat) (l:List (List Nat)) (c:Nat):spanE (x :: l) c↔(2 < (x :: l).length∧spanAt (x :: l) c 0 = true)∨spanE l c:=by
  unfold spanE
  constructor
  · rintro ⟨k,h1,h2⟩
    cases k with
    | zero=>exact .inl ⟨h1,h2⟩
    | succ k=>rw [spanAt_succ] at h2; exact .inr ⟨k,by rw [List.length_cons] at h1; omega,h2⟩
  · rintro (⟨h1,h2⟩ | ⟨k,h1,h2⟩)
    · exact ⟨0,h1,h2⟩
    · exact ⟨k + 1,by rw [List.length_cons]; omega,by rw [spanAt_succ]; exact h2⟩
theorem sg_head:∀ as:List Atom,∀ y r,as.flatMap sgA = y :: r→y≠[]
  | [],y,r,h=>nomatch h
  | .one c :: as,y,r,h=>by
    rw [List.flatMap_cons] at h
    have h:[c] :: as.flatMap sgA = y :: r:=h
    rw [List.cons.injEq] at h; rw [← h.1]; exact fun q=>nomatch q
  | .rng a b :: as,y,r,h=>by
    rw [List.flatMap_cons] at h
    have h:[a] :: ([] :: [b] :: as.flatMap sgA) = y :: r:=h
    rw [List.cons.injEq] at h; rw [← h.1]; exact fun q=>nomatch q
theorem no_span (x:List Nat) (as:List Atom) (c:Nat):¬ (2 < (x :: as.flatMap sgA).length∧spanAt (x :: as.flatMap sgA) c 0 = true):=by
  rintro ⟨h1,h2⟩
  cases hl:as.flatMap sgA with
  | nil=>rw [hl] at h1; simp at h1
  | cons y r=>
    rw [hl] at h2
    unfold spanAt at h2
    simp only [List.getD_cons_succ,List.getD_cons_zero,Bool.and_eq_true,beq_iff_eq] at h2
    exact sg_head as y r hl h2.1
theorem span_one (d:Nat) (as:List Atom) (c:Nat):spanE ((Atom.one d :: as).flatMap sgA) c↔spanE (as.flatMap sgA) c:=by
  rw [List.flatMap_cons]
  show spanE ([d] :: as.flatMap sgA) c↔_
  rw [spanE_cons]
  exact ⟨fun h=>h.resolve_left (no_span _ _ _),.inr⟩
theorem span_rng (a b:Nat) (as:List Atom) (c:Nat):spanE ((Atom.rng a b :: as).flatMap sgA) c↔(a≤c∧c≤b)∨spanE (as.flatMap sgA) c:=by
  rw [List.flatMap_cons]
  show spanE ([a] :: [] :: [b] :: as.flatMap sgA) c↔_
  rw [spanE_cons,spanE_cons,spanE_cons]
  have h1:(2 < ([a] :: [] :: [b] :: as.flatMap sgA).length∧spanAt ([a] :: [] :: [b] :: as.flatMap sgA) c 0 = true)↔(a≤c∧c≤b):=by
    unfold spanAt leS
    simp only [List.getD_cons_succ,List.getD_cons_zero,le_one,Bool.and_eq_true,decide_eq_true_eq,List.length_cons,beq_self_eq_true,true_and]
    exact ⟨fun h=>h.2,fun h=>⟨by omega,h⟩⟩
  have h2:¬ (2 < ([] :: [b] :: as.flatMap sgA).length∧spanAt ([] :: [b] :: as.flatMap sgA) c 0 = true):=by
    rintro ⟨_,h⟩
    unfold spanAt at h
    simp only [List.getD_cons_succ,List.getD_cons_zero,Bool.and_eq_true,beq_iff_eq] at h
    exact nomatch h.1
  rw [h1]
  exact ⟨fun h=>h.elim .inl fun h=>.inr ((h.resolve_left h2).resolve_left (no_span _ _ _)),fun h=>h.elim .inl fun h=>.inr (.inr (.inr h))⟩
noncomputable def takesB (c:Nat):Atom→Prop
  | .one d=>c = d
  | .rng a b=>a≤c∧c≤b
theorem read_iff (c:Nat):∀ as:List Atom,(∀ a b,Atom.rng a b∈as→a≤b)→(([c]∈as.flatMap sgA∨spanE (as.flatMap sgA) c)↔∃ x∈as,takesB c x)
  | [],_=>by
    constructor
    · rintro (h | ⟨k,h,_⟩)
      · exact nomatch h
      · exact absurd h (by simp)
    · rintro ⟨x,h,_⟩; exact nomatch h
  | .one d :: as,hab=>by
    have ih:=read_iff c as fun a b h=>hab a b (List.mem_cons_of_mem _ h)
    rw [span_one,List.flatMap_cons]
    show ([c]∈[d] :: as.flatMap sgA∨_)↔_
    rw [List.mem_cons]
    constructor
    · rintro ((h | h) | h)
      · exact ⟨_,List.mem_cons_self ..,by cases h; rfl⟩
      · obtain ⟨x,h1,h2⟩:=ih.mp (.inl h); exact ⟨x,List.mem_cons_of_mem _ h1,h2⟩
      · obtain ⟨x,h1,h2⟩:=ih.mp (.inr h); exact ⟨x,List.mem_cons_of_mem _ h1,h2⟩
    · rintro ⟨x,h1,h2⟩
      rcases List.mem_cons.mp h1 with rfl | h1
      · exact .inl (.inl (by rw [show c = d from h2]))
      · rcases ih.mpr ⟨x,h1,h2⟩ with h | h
        · exact .inl (.inr h)
        · exact .inr h
  | .rng a b :: as,hab=>by
    have ih:=read_iff c as fun a b h=>hab a b (List.mem_cons_of_mem _ h)
    have hle:=hab a b (List.mem_cons_self ..)
    rw [span_rng,List.flatMap_cons]
    show ([c]∈[a] :: [] :: [b] :: as.flatMap sgA∨_)↔_
    rw [List.mem_cons,List.mem_cons,List.mem_cons]
    constructor
    · rintro ((h | h | h | h) | h | h)
      · exact ⟨_,List.mem_cons_self ..,by cases h; exact ⟨Nat.le_refl _,hle⟩⟩
      · exact nomatch h
      · exact ⟨_,List.mem_cons_self ..,by cases h; exact ⟨hle,Nat.le_refl _⟩⟩
      · obtain ⟨x,h1,h2⟩:=ih.mp (.inl h); exact ⟨x,List.mem_cons_of_mem _ h1,h2⟩
      · exact ⟨_,List.mem_cons_self ..,h⟩
      · obtain ⟨x,h1,h2⟩:=ih.mp (.inr h); exact ⟨x,List.mem_cons_of_mem _ h1,h2⟩
    · rintro ⟨x,h1,h2⟩
      rcases List.mem_cons.mp h1 with rfl | h1
      · exact .inr (.inl h2)
      · rcases ih.mpr ⟨x,h1,h2⟩ with h | h
        · exact .inl (.inr (.inr (.inr h)))
        · exact .inr (.inr h)
theorem takes_iff {letters:List Nat} {c:Nat} (hc:c∈letters) (as:List Atom):c∈takesOf letters as↔∃ x∈as,takesB c x:=by
  unfold takesOf
  rw [List.mem_flatMap]
  constructor
  · rintro ⟨x,h1,h2⟩
    refine ⟨x,h1,?_⟩
    cases x with
    | one d=>exact List.mem_singleton.mp h2
    | rng a b=>
      have:=(List.mem_filter.mp h2).2
      show a≤c∧c≤b
      simpa using this
  · rintro ⟨x,h1,h2⟩
    refine ⟨x,h1,?_⟩
    cases x with
    | one d=>exact List.mem_singleton.mpr h2
    | rng a b=>exact List.mem_filter.mpr ⟨hc,by have h2:a≤c∧c≤b:=h2; simpa using h2⟩
theorem keep_iff (c:Nat) (as:List Atom):(∃ x∈keepA as,takesB c x)↔∃ x∈as,takesB c x:=by
  constructor
  · rintro ⟨x,h1,h2⟩; exact ⟨x,(List.mem_filter.mp h1).1,h2⟩
  · rintro ⟨x,h1,h2⟩
    refine ⟨x,List.mem_filter.mpr ⟨h1,?_⟩,h2⟩
    cases x with
    | one d=>rfl
    | rng a b=>exact decide_eq_true (Nat.le_trans h2.1 h2.2)
theorem keep_le (as:List Atom):∀ a b,Atom.rng a b∈keepA as→a≤b:=fun a b h=>of_decide_eq_true (List.mem_filter.mp h).2
noncomputable def insideOf (barred:Bool) (s:List Nat):List Nat:=(if barred then [94] else []) ++ (keepA (parse s)).flatMap outS
theorem taken_inside {letters s:List Nat} {barred:Bool} {c:Nat} (hc:c∈letters) (h94:((keepA (parse s)).flatMap outS).headD 0≠94):takenC (insideOf barred s) c = (decide (c∈takesOf letters (parse s)) != barred):=by
  have hcar:isCaret (insideOf barred s) = barred:=by
    unfold isCaret insideOf
    cases barred with
    | true=>rfl
    | false=>
      rw [if_neg (by decide),List.nil_append]
      cases hk:(keepA (parse s)).flatMap outS with
      | nil=>rfl
      | cons x r=>rw [hk] at h94; simpa using h94
  have hbody:bodyOf (insideOf barred s) = (keepA (parse s)).flatMap outS:=by
    unfold bodyOf
    rw [hcar]
    unfold insideOf
    cases barred <;> rfl
  unfold takenC
  rw [hbody,hcar,signsI_out]
  congr 1
  rw [Bool.eq_iff_iff,Bool.or_eq_true,spansL_iff,decide_eq_true_eq,takes_iff hc,← keep_iff,← read_iff c _ (keep_le _)]
  rw [List.any_eq_true]
  refine or_congr ⟨fun ⟨x,h1,h2⟩=>?_,fun h=>⟨_,h,beq_self_eq_true _⟩⟩ Iff.rfl
  rw [← eq_of_beq h2]; exact h1
noncomputable def isRng:Atom→Prop
  | .one _=>False
  | .rng _ _=>True
theorem all_rng:∀ s:List Nat,(∀ x∈parse s,isRng x)→s.length % 3 = 0∧∀ j,3 * j + 1 < s.length→s[3 * j + 1]? = some 45
  | [],_=>⟨rfl,fun j h=>absurd h (by simp)⟩
  | [a],h=>by
    rw [parse] at h
    exact (h _ (List.mem_cons_self ..)).elim
  | [a,b],h=>by
    rw [parse] at h
    exact (h _ (List.mem_cons_self ..)).elim
  | a :: y :: b :: r,h=>by
    rw [parse] at h
    by_cases hy:y = 45
    · rw [if_pos hy] at h
      obtain ⟨h1,h2⟩:=all_rng r fun x hx=>h x (List.mem_cons_of_mem _ hx)
      refine ⟨by simp only [List.length_cons]; omega,fun j hj=>?_⟩
      cases j with
      | zero=>rw [hy]; rfl
      | succ j=>
        have:=h2 j (by simp only [List.length_cons] at hj; exact o134 hj)
        rw [show 3 * (j + 1) + 1 = (3 * j + 1) + 1 + 1 + 1 by exact o135,List.getElem?_cons_succ,List.getElem?_cons_succ,List.getElem?_cons_succ]
        exact this
    · rw [if_neg hy] at h
      exact (h _ (List.mem_cons_self ..)).elim
noncomputable def PieceOk (p:List Nat):Prop:=p.length = 1∨(4≤p.length∧45 ∉ p)
theorem all_one:∀ {ps:List (List Nat)},(∀ p∈ps,p.length = 1)→ps.flatten.length = ps.length
  | [],_=>rfl
  | p :: ps,h=>by
    rw [List.flatten_cons,List.length_append,h p (List.mem_cons_self ..),all_one fun q hq=>h q (List.mem_cons_of_mem _ hq),List.length_cons]; omega
theorem keep_ne {ps:List (List Nat)} (h:∀ p∈ps,PieceOk p) (h3:ps.length % 3≠0):keepA (parse ps.flatten)≠[]:=by
  intro he
  have hall:∀ x∈parse ps.flatten,isRng x:=fun x hx=>by
    cases x with
    | one c=>
      have:Atom.one c∈keepA (parse ps.flatten):=List.mem_filter.mpr ⟨hx,rfl⟩
      rw [he] at this; exact nomatch this
    | rng a b=>trivial
  obtain ⟨k1,k2⟩:=all_rng _ hall
  by_cases hone:∀ p∈ps,p.length = 1
  · rw [all_one hone] at k1; exact h3 k1
  · obtain ⟨p,hp,hp1⟩:∃ p∈ps,p.length≠1:=by
      refine Classical.byContradiction fun q=>hone fun p hp=>Classical.byContradiction fun r=>q ⟨p,hp,r⟩
    obtain ⟨p4,p45⟩:=(h p hp).resolve_left hp1
    obtain ⟨pre,post,rfl⟩:=List.append_of_mem hp
    have hs:(pre ++ p :: post).flatten = pre.flatten ++ (p ++ post.flatten):=by rw [List.flatten_append,List.flatten_cons]
    rw [hs] at k2
    generalize pre.flatten = u at k2
    have hj:3 * ((u.length + 1) / 3) + 1 < (u ++ (p ++ post.flatten)).length:=by rw [List.length_append,List.length_append]; exact o136 p4
    have:=k2 _ hj
    rw [List.getElem?_append_right (by omega),List.getElem?_append_left (by omega)] at this
    exact p45 (List.mem_of_getElem? this)
theorem mem_parse:∀ (s:List Nat),(∀ c,Atom.one c∈parse s→c∈s)∧∀ a b,Atom.rng a b∈parse s→a∈s∧b∈s
  | []=>by
    rw [parse]
    refine ⟨fun c h=>?_,fun a b h=>?_⟩ <;> cases h
  | [x]=>by
    rw [parse]
    refine ⟨fun c h=>?_,fun a b h=>?_⟩
    · rcases List.mem_cons.mp h with q | q
      · cases q; exact List.mem_cons_self ..
      · exact nomatch q
    · rcases List.mem_cons.mp h with q | q
      · cases q
      · exact nomatch q
  | [x,y]=>by
    rw [parse]
    refine ⟨fun c h=>?_,fun a b h=>?_⟩
    · rcases List.mem_cons.mp h with q | q
      · cases q; exact List.mem_cons_self ..
      · rcases List.mem_cons.mp q with q | q
        · cases q; exact List.mem_cons_of_mem _ (List.mem_cons_self ..)
        · exact nomatch q
    · rcases List.mem_cons.mp h with q | q
      · cases q
      · rcases List.mem_cons.mp q with q | q
        · cases q
        · exact nomatch q
  | x :: y :: z :: r=>by
    rw [parse]
    split
    · obtain ⟨i1,i2⟩:=mem_parse r
      refine ⟨fun c h=>?_,fun a b h=>?_⟩
      · rcases List.mem_cons.mp h with q | q
        · cases q
        · exact List.mem_cons_of_mem _ (List.mem_cons_of_mem _ (List.mem_cons_of_mem _ (i1 c q)))
      · rcases List.mem_cons.mp h with q | q
        · cases q; exact ⟨List.mem_cons_self ..,List.mem_cons_of_mem _ (List.mem_cons_of_mem _ (List.mem_cons_self ..))⟩
        · obtain ⟨j1,j2⟩:=i2 a b q
          exact ⟨List.mem_cons_of_mem _ (List.mem_cons_of_mem _ (List.mem_cons_of_mem _ j1)),List.mem_cons_of_mem _ (List.mem_cons_of_mem _ (List.mem_cons_of_mem _ j2))⟩
    · obtain ⟨i1,i2⟩:=mem_parse (y :: z :: r)
      refine ⟨fun c h=>?_,fun a b h=>?_⟩
      · rcases List.mem_cons.mp h with q | q
        · cases q; exact List.mem_cons_self ..
        · exact List.mem_cons_of_mem _ (i1 c q)
      · rcases List.mem_cons.mp h with q | q
        · cases q
        · obtain ⟨j1,j2⟩:=i2 a b q
          exact ⟨List.mem_cons_of_mem _ j1,List.mem_cons_of_mem _ j2⟩
theorem out_head {s:List Nat} (h:∀ c∈s,c≠94∧c≠33∧c≠91) (hk:keepA (parse s)≠[]) :
    ∃ d r,(keepA (parse s)).flatMap outS = d :: r∧d≠94∧d≠33∧d≠91:=by
  obtain ⟨x,t,e⟩:=List.exists_cons_of_ne_nil hk
  have hxk:x∈keepA (parse s):=by rw [e]; exact List.mem_cons_self ..
  have hx:x∈parse s:=(List.mem_filter.mp hxk).1
  obtain ⟨m1,m2⟩:=mem_parse s
  have one (c:Nat) (hc:c∈s):∃ d r,escS c = d :: r∧d≠94∧d≠33∧d≠91:=by
    unfold escS
    split
    · exact ⟨92,[c],rfl,by decide,by decide,by decide⟩
    · exact ⟨c,[],rfl,h c hc⟩
  rw [e,List.flatMap_cons]
  cases x with
  | one c=>
    obtain ⟨d,r,e1,q⟩:=one c (m1 c hx)
    exact ⟨d,r ++ t.flatMap outS,by show escS c ++ _ = _; rw [e1]; rfl,q⟩
  | rng a b=>
    obtain ⟨d,r,e1,q⟩:=one a (m2 a b hx).1
    exact ⟨d,r ++ ([45] ++ (escS b ++ t.flatMap outS)),by show (escS a ++ [45] ++ escS b) ++ _ = _; rw [e1]; simp,q⟩
section
variable {W:Wo} {n:Nat} {sc:Scope} {σ σ':Store}
theorem Good.own {env:Env} {hot:Addr→Prop} {s:Shared} (g:Good W env σ hot s) {A:Around} {E:Value→Shared→Prop} {x:Str} {p:Pos} {ds:List V} {Q:Value→Shared→Prop} (hm:(x,Slot.own ds)∈σ) (hv:isVar env.scope x = true)
    (k:∀ a items,s.heap.PlainList a items→Rds s.heap hot ds items.toList→Q (.ref a) s):wpAny (model W.prog W.w) A (eval (.Name x p) env) Q E s:=by
  have hd:=isVar_1 hv
  obtain ⟨a,items,hx,hl,hr⟩:=g.vars _ hm hv
  have k':=k a items hl hr
  rcases hx with ⟨b,m,hn,hmx⟩ | ⟨b | b,c,hc,hcv⟩
  · exact wpAny_Name (wpAny_loadName_local g.kind b hn hmx k') hd
  · exact wpAny_Name (wpAny_loadName_cell g.kind b hc hcv k') hd
  · exact wpAny_Name (wpAny_loadName_free g.kind b hc hcv k' (isVar_2 hv)) hd
theorem Ev.ownItem {x:Str} {p pos:Pos} {ie:PySem.Expr} {ds:List V} {i:Int} {d:V} (hm:(x,Slot.own ds)∈σ) (hv:isVar sc x = true) (hi:Ev W n sc σ ie (.int i)) (h0:0≤i) (h2:i < 2 ^ 63) (hd:ds[i.toNat]? = some d)
    (hs:∀ o v,subscripted ie false o v = operate [o,v] (getItem o v)):Ev W n sc σ (.Subscript (.Name x p) ie pos) d:=
  ⟨fun env hq A hA s hot Q E g k=>@Subscript_ _ _ _ _ _ _ _ _ _ (g.own hm (by rw [hq]; exact hv) fun a items hl hr=>hi.run env hq A hA s hot _ E g fun v₂ s₂ g₂ r₂=>by
    obtain ⟨t,rfl⟩:=rQ r₂
    obtain ⟨v,hv',rv⟩:=hr.getElem hd
    have hl2:s₂.heap.PlainList a items:=let ⟨m,e⟩:=hl; ⟨m,g₂.sub _ _ e⟩
    exact tail_any (PlainList.isList hl2).typeIs slot_list_getitem.lookup (@wpAny_getItem_list _ _ _ _ _ _ _ _ _ _ _ (PlainList.isList hl2) h0 h2 (by simpa using hv') (k v s₂ g₂ (rv.sub g₂.sub))) (hs _ _))⟩
theorem Ev.ownLen {x:Str} {p px pos:Pos} {ds:List V} (G:G1 W) (hg:isGlob sc "len" = true) (hm:(x,Slot.own ds)∈σ) (hv:isVar sc x = true) (hz:ds.length≤1000000)
    (hn:∀ env,starEach [.Name x px] env = [(false,eval (.Name x px) env)]):Ev W n sc σ (.Call (.Name "len" p) [.Name x px] [] pos) (.int (ds.length:Nat)):=
  ⟨fun env he A hA s hot Q E g k=>by
    refine wpAny_Call_NameR ((Ev.builtin (W:=W) (n:=n) (σ:=σ) (pos:=p) hg G.len bb_len).run env he A hA s hot _ E g fun v s₁ g₁ r₁=>?_)
    cases rd_val r₁
    refine callWith_any (W:=W) trivial (by rw [hn]; rfl) ?_
    rw [hn]
    refine Calls.spliced_cons ((g.grow g₁).own hm (by rw [he]; exact hv) fun a items hl hr=>wpAny_pure ⟨(g.grow g₁).base,?_⟩)
    refine KQ.len_list (W:=W) (n:=n) (l:=ds) (Nat.le_trans hz (by decide)) A hA s₁ (fun ψ=>False) _ Q E (g.grow g₁).base (fun ψ h=>h.elim) ?_ fun v s₂ g₂ r₂=>?_
    · refine .cons ?_ .nil
      unfold Rd
      exact ⟨a,items,rfl,fun h=>h,hl,Rds.mono (fun b o ψ e=>⟨e,fun h=>h⟩) _ _ hr⟩
    · obtain ⟨t,rfl⟩:=rQ r₂
      exact k _ s₂ (g₁.trans g₂) mk_int⟩
theorem Rds.erase {h:Heap} {hot:Addr→Prop}:∀ {ds:List V} {vs:List Value} (i:Nat),Rds h hot ds vs→Rds h hot (ds.eraseIdx i) (vs.eraseIdx i)
  | [],vs,i,r=>by unfold Rds at r; subst r; exact .nil
  | x :: ds,vs,i,r=>by
    unfold Rds at r
    obtain ⟨w,rest,rfl,r1,r2⟩:=r
    cases i with
    | zero=>exact r2
    | succ i=>exact .cons r1 (r2.erase i)
theorem Runs.delItem {x:Str} {p pos' pos:Pos} {ie:PySem.Expr} {ds:List V} {i:Int} (hm:(x,Slot.own ds)∈σ) (hi:Ev W n sc σ ie (.int i)) (hp:Put x (.own (ds.eraseIdx i.toNat)) σ σ') (h0:0≤i) (h1:i < ds.length) (h2:i < 1000000) (hz:ds.length≤1000000) :
    Runs W n sc (.Delete [.Subscript (.Name x p) ie pos'] pos) σ (.next σ'):=
  ⟨fun env he A hA base out hot oa s Q E F k=>wpAny_Delete (wpAny_deleteEach_cons (by
    rw [arm_delete_Subscript]
    refine wpAny_bind (F.ownVar hm (wpAny_bind (wpAny_holding (hi.run env he A hA s hot _ E F.good fun v s₁ g₁ r₁=>?_))))
    obtain ⟨t,rfl⟩:=rQ r₁
    have F₁:=F.grown g₁
    obtain ⟨items,_,hl,hr,_⟩:=F₁.vars _ hm
    have hsz:items.size = ds.length:=by rw [← hr.length]; simp
    refine wpAny_bind (wpAny_standAt (wpAny_bind (wpAny_holding (wpAny_delItem_plain (k:=i.toNat) hl ?_ ?_ (fun h' hpl hs'=>wpAny_release' ?_) (by rw [hsz,sizeLine_eq]; exact o6 hz)))))
    · unfold Builtin.List.listFitsIndex
      simp; omega
    · rw [StrLaws.seqIndex_nonneg h0 (by rw [hsz]; exact h1)]
    · refine wpAny_deleteEach_nil (k _ _ ⟨rfl,hot,oa,F₁.writeOwn hm hp hs' hpl ?_⟩)
      rw [Array.toList_eraseIdxIfInBounds]
      exact hr.erase _))⟩
theorem Runs.augLast {x:Str} {p pos' pos:Pos} {ie e:PySem.Expr} {op:Operator} {ds:List V} {m0:Nat} {a b d:V} (hm:(x,Slot.own ds)∈σ) (hi:Ev W n sc σ ie (.int (-1))) (hlen:ds.length = m0 + 1) (ha:ds[m0]? = some a)
    (h:Ev W n sc σ e b) (ho:InpOk W op a b d) (hp:Put x (.own (ds.set m0 d)) σ σ') (hg:∀ ov iv new,augStore ie ov iv new = (do holding [new,ov,iv] (PySem.setItem ov iv new); release [new,ov,iv] []; pure .next)) :
    Runs W n sc (.AugAssign (.Subscript (.Name x p) ie pos') op e pos) σ (.next σ'):=
  ⟨fun env he A hA base out hot oa s Q E F k=>wpAny_AugAssign_SubscriptAny (F.ownVar hm (hi.run env he A hA s hot _ E F.good fun iv s₁ g₁ r₁=>by
    obtain ⟨t,rfl⟩:=rQ r₁
    have F₁:=F.grown g₁
    obtain ⟨items,_,⟨m,hl⟩,hr,_⟩:=F₁.vars _ hm
    obtain ⟨v,hv,rv⟩:=hr.getElem ha
    have hsz:items.size = m0 + 1:=by rw [← hlen,← hr.length]; simp
    have hk:(-1 + (items.size:Int)).toNat = m0:=by rw [hsz]; exact o137 hsz
    refine @wpAny_getItem_list_neg _ _ _ _ _ _ _ _ _ _ _ (PlainList.isList ⟨m,hl⟩) (by decide) (by rw [hsz]; exact o138) (by decide) (by rw [hk]; simpa using hv) (h.run env he A hA s₁ hot _ E F₁.good fun w s₂ g₂ r₂=>?_)
    refine ho A (hA.less (Nat.zero_le _)) s₂ hot v w _ E (F₁.grown g₂).good.base (F₁.grown g₂).alive (rv.sub g₂.sub) r₂ fun u s₃ g₃ r₃=>?_
    have F₃:=F₁.grown (g₂.trans g₃)
    obtain ⟨items3,_,⟨m3,hl3⟩,hr3,_⟩:=F₃.vars _ hm
    have hsz3:items3.size = m0 + 1:=by rw [← hlen,← hr3.length]; simp
    have hk3:(-1 + (items3.size:Int)).toNat = m0:=by rw [hsz3]; exact o137 hsz3
    refine ki_setBack (n:=m3) hl3 (by decide) (by rw [hsz3]; exact o138) (by decide) (k _ _ ⟨rfl,hot,oa,F₃.writeOwn hm hp (Heap.SameBut.update ..) (items':=items3.setIfInBounds m0 u) ?_ ?_⟩)
    · rw [hk3]
      obtain ⟨m',e⟩:∃ m',Obj.mapSeq (·.setIfInBounds m0 u) { cls:=.type "list",data:=.seq items3 m3 } = { cls:=.type "list",data:=.seq (items3.setIfInBounds m0 u) m' }:=⟨_,rfl⟩
      exact ⟨m',(Heap.get?_update_self _ hl3 (by rw [e]; rfl)).trans (congrArg some e)⟩
    · rw [Array.toList_setIfInBounds]; exact hr3.set _ r₃)) hg⟩
end
noncomputable def fin (q r:List Nat):List (List Nat):=pre1 q (hQ (parse r))
theorem fin_cut (q:List Nat) {xs r:List Nat} {a b:Nat} (h:45 ∉ (xs ++ [a]).tail):fin q (xs ++ a :: 45 :: b :: r) = (q ++ (xs ++ [a])) :: fin [b] r:=by
  unfold fin
  rw [parse_split h,chunkA_split]; rfl
theorem fin_trail (q:List Nat) {xs:List Nat} {a:Nat} (h:45 ∉ (xs ++ [a]).tail):fin q (xs ++ a :: 45 :: []) = [q ++ (xs ++ [a]) ++ [45]]:=by
  unfold fin
  rw [show xs ++ a :: 45 :: [] = xs ++ [a,45] from rfl,parse_trail h,chunkA_end]
  show [q ++ (xs ++ [a,45])] = _
  simp
theorem fin_end (q:List Nat) {r:List Nat} (h:45 ∉ r.tail):fin q r = [q ++ r]:=by
  unfold fin
  rw [parse_end h,chunkA_end]; rfl
theorem cut_at:∀ {r:List Nat},45∈r.tail→∃ xs a r2,r = xs ++ a :: 45 :: r2∧45 ∉ (xs ++ [a]).tail
  | [],h=>nomatch h
  | [x],h=>nomatch h
  | x :: y :: r,h=>by
    by_cases hy:y = 45
    · exact ⟨[],x,r,by rw [hy]; rfl,fun q=>nomatch q⟩
    · have h':45∈(y :: r).tail:=by
        rcases List.mem_cons.mp (show 45∈y :: r from h) with q | q
        · exact absurd q.symm hy
        · exact q
      obtain ⟨xs,a,r2,e,k⟩:=cut_at h'
      refine ⟨x :: xs,a,r2,by rw [e]; rfl,?_⟩
      show 45 ∉ xs ++ [a]
      intro q
      cases xs with
      | nil=>
        rw [List.nil_append] at q e
        rw [List.cons.injEq] at e
        exact hy (e.1.trans (List.mem_singleton.mp q).symm)
      | cons z zs=>
        rw [List.cons_append,List.cons.injEq] at e
        rcases List.mem_cons.mp q with q | q
        · exact hy (e.1.trans q.symm)
        · exact k q
theorem find_none {u r v:List Nat} (h:45 ∉ r.tail):findI (u ++ (r ++ v)) 45 (u.length + 1) (u.length + r.length) = -1:=by
  unfold findI findAt
  have:(List.range' (u.length + 1) (u.length + r.length - (u.length + 1))).find? (fun i=>(u ++ (r ++ v))[i]? == some 45) = none:=by
    rw [List.find?_eq_none]
    intro i hi
    rw [List.mem_range'] at hi
    obtain ⟨j,hj,rfl⟩:=hi
    have hjr:1 * j + 1 < r.length:=by omega
    rw [List.getElem?_append_right (by exact o140),List.getElem?_append_left (by omega),show u.length + 1 + 1 * j - u.length = 1 * j + 1 by exact o141]
    intro q
    have q:=eq_of_beq q
    refine h ?_
    cases r with
    | nil=>simp at hjr
    | cons x r=>rw [List.getElem?_cons_succ] at q; exact List.mem_of_getElem? q
  rw [this]
theorem find_some {u xs r2 v:List Nat} {a:Nat} (h:45 ∉ (xs ++ [a]).tail):findI (u ++ ((xs ++ a :: 45 :: r2) ++ v)) 45 (u.length + 1) (u.length + (xs ++ a :: 45 :: r2).length) = ((u.length + xs.length + 1:Nat):Int):=by
  unfold findI findAt
  have hl:(xs ++ a :: 45 :: r2).length = xs.length + 2 + r2.length:=by simp; exact o143
  have:(List.range' (u.length + 1) (u.length + (xs ++ a :: 45 :: r2).length - (u.length + 1))).find? (fun i=>(u ++ ((xs ++ a :: 45 :: r2) ++ v))[i]? == some 45) = some (u.length + xs.length + 1):=by
    rw [List.find?_eq_some_iff_append]
    refine ⟨?_,List.range' (u.length + 1) xs.length,List.range' (u.length + xs.length + 2) r2.length,?_,?_⟩
    · rw [List.getElem?_append_right (by omega),show u.length + xs.length + 1 - u.length = xs.length + 1 by exact o145,List.append_assoc,List.getElem?_append_right (by exact o146),show xs.length + 1 - xs.length = 1 by exact o147]
      rfl
    · rw [hl,show u.length + (xs.length + 2 + r2.length) - (u.length + 1) = xs.length + (1 + r2.length) by exact o148,← List.range'_append_1,← List.range'_append_1]
      rw [show u.length + 1 + xs.length = u.length + xs.length + 1 by omega,show u.length + xs.length + 1 + 1 = u.length + xs.length + 2 by exact o150]
      rfl
    · intro i hi
      rw [List.mem_range'] at hi
      obtain ⟨j,hj,rfl⟩:=hi
      have e:(u ++ ((xs ++ a :: 45 :: r2) ++ v))[u.length + 1 + 1 * j]? = (xs ++ [a])[1 * j + 1]?:=by
        rw [List.getElem?_append_right (by exact o140),show u.length + 1 + 1 * j - u.length = 1 * j + 1 by exact o141,show (xs ++ a :: 45 :: r2) ++ v = (xs ++ [a]) ++ (45 :: r2 ++ v) by simp]
        exact List.getElem?_append_left (by rw [List.length_append]; simp; omega)
      rw [e]
      rw [Bool.not_eq_true',beq_eq_false_iff_ne]
      intro q
      refine h ?_
      cases xs with
      | nil=>simp at hj
      | cons x xs=>rw [List.cons_append,List.getElem?_cons_succ] at q; exact List.mem_of_getElem? q
  rw [this]
theorem remC_step (l:List (List Nat)) (c:List Nat) {d:List Nat} {t:List (List Nat)} (h:remC l = d :: t):remC (c :: l) = if d.headD 0 < lastD c then (c.dropLast ++ d.tail) :: t else c :: d :: t:=by
  rw [remC,h]
theorem chunks_drop:∀ (as:List Atom) (q:List Nat) (k:Nat),1≤k→k < (pre1 q (hQ as)).length→∃ b as',(pre1 q (hQ as)).drop k = pre1 [b] (hQ as')
  | [],q,k,h1,h2=>absurd (show k < 1 from h2) (by omega)
  | .one c :: r,q,k,h1,h2=>by
    rw [hQ,pre1_pre1] at h2 ⊢
    exact chunks_drop r _ k h1 h2
  | .rng a b :: r,q,k,h1,h2=>by
    rw [hQ] at h2 ⊢
    show ∃ b' as',((q ++ [a]) :: pre1 [b] (hQ r)).drop k = _
    obtain ⟨j,rfl⟩:∃ j,k = j + 1:=⟨k - 1,by omega⟩
    rw [List.drop_succ_cons]
    cases j with
    | zero=>exact ⟨b,r,rfl⟩
    | succ j=>
      have h2':j + 1 + 1 < ((q ++ [a]) :: pre1 [b] (hQ r)).length:=h2
      exact chunks_drop r [b] (j + 1) (by exact o20) (by rw [List.length_cons] at h2'; exact o139 h2')
theorem chunks_ne:∀ (as:List Atom) (q:List Nat) (k:Nat) (x:List Nat),k + 1 < (pre1 q (hQ as)).length→(pre1 q (hQ as))[k]? = some x→x≠[]
  | [],q,k,x,h,e=>absurd (show k + 1 < 1 from h) (by omega)
  | .one c :: r,q,k,x,h,e=>by
    rw [hQ,pre1_pre1] at h e
    exact chunks_ne r _ k x h e
  | .rng a b :: r,q,k,x,h,e=>by
    rw [hQ] at h e
    have h:k + 1 < ((q ++ [a]) :: pre1 [b] (hQ r)).length:=h
    have e:((q ++ [a]) :: pre1 [b] (hQ r))[k]? = some x:=e
    cases k with
    | zero=>
      rw [List.getElem?_cons_zero] at e
      cases e
      simp
    | succ k=>
      rw [List.getElem?_cons_succ] at e
      exact chunks_ne r [b] k x (by rw [List.length_cons] at h; exact o139 h) e
noncomputable def halfC (cs:List (List Nat)) (k:Nat):List (List Nat):=cs.take k ++ remC (cs.drop k)
theorem halfC_zero (cs:List (List Nat)):halfC cs 0 = remC cs:=rfl
theorem halfC_last {cs:List (List Nat)} (h:cs≠[]):halfC cs (cs.length - 1) = cs:=by
  have hl:0 < cs.length:=List.length_pos_iff.mpr h
  have:cs.drop (cs.length - 1) = [cs[cs.length - 1]'(by exact o142 hl)]:=by
    rw [List.drop_eq_getElem_cons (by exact o142 hl),List.drop_eq_nil_of_le (by omega)]
  unfold halfC
  rw [this]
  show cs.take _ ++ [_] = cs
  rw [← this,List.take_append_drop]
theorem halfC_step {as:List Atom} {q:List Nat} {k:Nat} (h1:1≤k) (h2:k < (pre1 q (hQ as)).length) :
    ∃ c d t,halfC (pre1 q (hQ as)) k = (pre1 q (hQ as)).take (k - 1) ++ c :: d :: t∧c≠[]∧d≠[] ∧
      halfC (pre1 q (hQ as)) (k - 1) = (pre1 q (hQ as)).take (k - 1) ++ (if d.headD 0 < lastD c then (c.dropLast ++ d.tail) :: t else c :: d :: t):=by
  obtain ⟨b,as',e⟩:=chunks_drop as q k h1 h2
  obtain ⟨c,hc⟩:∃ c,(pre1 q (hQ as))[k - 1]? = some c:=⟨_,List.getElem?_eq_getElem (by exact o144 h1 h2)⟩
  have hne:=chunks_ne as q (k - 1) c (by omega) hc
  generalize pre1 q (hQ as) = cs at h2 e hc
  obtain ⟨h',t',e',_⟩:=chunkA_head (keepA as')
  have hr:remC (cs.drop k) = ([b] ++ h') :: t':=by rw [e,remC_front,e']; rfl
  have hg:cs[k - 1]'(by exact o144 h1 h2) = c:=by rw [List.getElem?_eq_getElem (by exact o144 h1 h2)] at hc; exact Option.some.inj hc
  have hd:cs.drop (k - 1) = c :: cs.drop k:=by
    rw [List.drop_eq_getElem_cons (by exact o144 h1 h2),hg,show k - 1 + 1 = k by exact o149 h1]
  refine ⟨c,[b] ++ h',t',?_,hne,List.cons_ne_nil _ _,?_⟩
  · unfold halfC
    rw [hr]
    have:cs.take k = cs.take (k - 1) ++ [c]:=by
      rw [show cs.take k = cs.take (k - 1 + 1) by rw [show k - 1 + 1 = k by exact o149 h1],List.take_add_one,hc]; rfl
    rw [this,List.append_assoc]; rfl
  · unfold halfC
    rw [hd,remC_step _ _ hr]
noncomputable def insI (x:Int):List Int→List Int
  | []=>[x]
  | y :: l=>if x≤y then x :: y :: l else y :: insI x l
noncomputable def sortI:List Int→List Int
  | []=>[]
  | x :: l=>insI x (sortI l)
theorem insI_perm (x:Int):∀ l,(insI x l).Perm (x :: l)
  | []=>.refl _
  | y :: l=>by
    unfold insI
    split
    · exact .refl _
    · exact ((insI_perm x l).cons y).trans (.swap x y l)
theorem sortI_perm:∀ l,(sortI l).Perm l
  | []=>.refl _
  | x :: l=>(insI_perm x _).trans ((sortI_perm l).cons x)
theorem insI_sorted (x:Int):∀ {l:List Int},l.Pairwise (·≤·)→(insI x l).Pairwise (·≤·)
  | [],_=>by unfold insI; simp
  | y :: l,h=>by
    unfold insI
    rw [List.pairwise_cons] at h
    split
    · rename_i hxy
      exact List.pairwise_cons.mpr ⟨fun z hz=>by
        rcases List.mem_cons.mp hz with rfl | hz
        · exact hxy
        · exact Int.le_trans hxy (h.1 z hz),List.pairwise_cons.mpr h⟩
    · rename_i hxy
      refine List.pairwise_cons.mpr ⟨fun z hz=>?_,insI_sorted x h.2⟩
      rcases List.mem_cons.mp ((insI_perm x l).mem_iff.mp hz) with rfl | hz
      · omega
      · exact h.1 z hz
theorem sortI_sorted:∀ l,(sortI l).Pairwise (·≤·)
  | []=>.nil
  | x :: l=>insI_sorted x (sortI_sorted l)
theorem sorted_eq:∀ {a b:List Int},a.Perm b→a.Pairwise (·≤·)→b.Pairwise (·≤·)→a = b
  | [],b,p,_,_=>p.symm.eq_nil.symm
  | x :: a,[],p,_,_=>(nomatch p.eq_nil)
  | x :: a,y :: b,p,ha,hb=>by
    have ha':=List.pairwise_cons.mp ha
    have hb':=List.pairwise_cons.mp hb
    have e:x = y:=by
      have h1:x∈y :: b:=p.mem_iff.mp (List.mem_cons_self ..)
      have h2:y∈x :: a:=p.mem_iff.mpr (List.mem_cons_self ..)
      rcases List.mem_cons.mp h1 with q | q
      · exact q
      · rcases List.mem_cons.mp h2 with q2 | q2
        · exact q2.symm
        · exact Int.le_antisymm (ha'.1 _ q2) (hb'.1 _ q)
    subst e
    rw [sorted_eq p.cons_inv ha'.2 hb'.2]
section
variable {W:Wo} {n:Nat}
theorem rds_of_intsAre {h:Heap} {hot:Addr→Prop}:∀ {vs:List Value} {ns:List Int},IntsAre vs ns→Rds h hot (ns.map V.int) vs
  | _,_,.nil=>.nil
  | _,_,.cons n t r=>.cons mk_int (rds_of_intsAre r)
theorem KQ.sorted {l:List Int} (hz:l.length < 64):KQ W n (.builtin "sorted") [.list (l.map V.int)] (.list ((sortI l).map V.int)):=by
  intro A hA s hot vs Q E _ al r k
  unfold Rds at r; obtain ⟨v,r',rfl,h1,h2⟩:=r; unfold Rds at h2; subst h2
  obtain ⟨a,items,rfl,_,hl,hr⟩:=rd_list h1
  have hi:=ints_of hr
  have hlen:items.toList.length = l.length:=by rw [hr.length,List.length_map]
  refine sorted_ints (vs:=items.toList) (ns:=l) (by rw [Array.toArray_toList]; exact PlainList.isList hl) hi (by rw [hlen]; exact hz) fun out ns' a1 a2 a3=>?_
  have e:ns' = sortI l:=sorted_eq (a2.trans (sortI_perm l).symm) a3 (sortI_sorted l)
  subst e
  obtain ⟨e,he⟩:=sortedAll_at s.heap items.toList out
  have up:Sub s.heap (sortedAll s.heap items.toList out):=fun b o q=>sortedAll_old q
  refine k _ _ ⟨up,rfl,fun e=>e⟩ ?_
  unfold Rd
  refine ⟨_,out,rfl,fun q=>?_,⟨e,he⟩,rds_of_intsAre a1⟩
  obtain ⟨o,q⟩:=al _ q
  exact absurd (Heap.lt_size q) (Nat.not_lt.mpr (Nat.le_succ _))
end
section
variable {W:Wo} {n:Nat}
noncomputable def cellStep (cells:List Int) (p:Int × Nat):List Int:=cells.set (p.2 % 6) (cells.getD (p.2 % 6) 0 + p.1.fmod 1000000)
noncomputable def cells0:List Int:=[171750,1416,2520,1066,483,2214]
noncomputable def cellsOf (l:List (Int × Nat)):List Int:=l.foldl cellStep cells0
theorem cellsOf_snoc (l:List (Int × Nat)) (p:Int × Nat):cellsOf (l ++ [p]) = cellStep (cellsOf l) p:=by unfold cellsOf; rw [List.foldl_append]; rfl
theorem cellsOf_ok (l:List (Int × Nat)):(cellsOf l).length = 6∧∀ x∈cellsOf l,0≤x∧x≤200000 + 1000000 * (l.length:Int):=by
  have:∀ (l:List (Int × Nat)) (c:List Int) (m:Nat),(c.length = 6∧∀ x∈c,0≤x∧x≤200000 + 1000000 * (m:Int))→((l.foldl cellStep c).length = 6∧∀ x∈l.foldl cellStep c,0≤x∧x≤200000 + 1000000 * ((m + l.length:Nat):Int)):=by
    intro l
    induction l with
    | nil=>intro c m h; exact h
    | cons p l ih=>
      intro c m h
      have:=ih (cellStep c p) (m + 1) ⟨by unfold cellStep; rw [List.length_set]; exact h.1,fun x hx=>by
        unfold cellStep at hx
        have h1:0≤p.1.fmod 1000000:=Int.fmod_nonneg_of_pos _ (by decide)
        have h2:p.1.fmod 1000000 < 1000000:=Int.fmod_lt_of_pos _ (by decide)
        rcases List.mem_or_eq_of_mem_set hx with q | q
        · have:=h.2 x q; push_cast; omega
        · have h5:p.2 % 6 < c.length:=by rw [h.1]; exact Nat.mod_lt _ (by decide)
          have hg:c.getD (p.2 % 6) 0∈c:=by rw [List.getD_eq_getElem?_getD,List.getElem?_eq_getElem h5]; exact List.getElem_mem _
          have:=h.2 _ hg
          rw [q]; push_cast; exact o151 h1 h2 this⟩
      rw [List.length_cons,show m + (l.length + 1) = m + 1 + l.length by exact o36]
      exact this
  have:=this l cells0 0 ⟨rfl,by decide⟩
  rwa [Nat.zero_add] at this
structure Dr where
  letters:List Nat
  left:List Nat
  rest:Int
noncomputable def drStep (d:Dr) (size:Int):Dr:=⟨d.letters ++ [d.left.getD (d.rest.fmod size).toNat 0],rsub d.left (d.left.getD (d.rest.fmod size).toNat 0) [],d.rest.fdiv size⟩
noncomputable def dr0 (rest:Int):Dr:=⟨L "",L "ampltgquo1309xDA",rest⟩
noncomputable def sizeOf (i:Nat):Int:=16 + (i:Int) * (-1)
noncomputable def drAll (rest:Int) (l:List Nat):Dr:=l.foldl (fun d i=>drStep d (sizeOf i)) (dr0 rest)
noncomputable def DrOk (d:Dr) (i:Nat):Prop:=d.left.Nodup∧d.left.length + i = 16∧d.letters.length = i
theorem rsub_nil (l:List Nat) (c:Nat):rsub l c [] = l.filter (fun x=>x != c):=by
  unfold rsub
  induction l with
  | nil=>rfl
  | cons x l ih=>
    rw [List.flatMap_cons,ih,List.filter_cons]
    by_cases h:x = c
    · simp [h]
    · simp [h]
theorem filter_len {l:List Nat} {c:Nat} (nd:l.Nodup) (hc:c∈l):(l.filter (fun x=>x != c)).length + 1 = l.length:=by
  induction l with
  | nil=>cases hc
  | cons x l ih=>
    rw [List.nodup_cons] at nd
    rw [List.filter_cons]
    by_cases h:x = c
    · subst h
      rw [if_neg (by simp)]
      have:l.filter (fun y=>y != x) = l:=List.filter_eq_self.mpr fun y hy=>by
        rw [bne_iff_ne]; exact fun e=>nd.1 (e ▸ hy)
      rw [this]; rfl
    · rw [if_pos (by simp [h])]
      have:=ih nd.2 (by rcases List.mem_cons.mp hc with q | q; exact absurd q.symm h; exact q)
      simp only [List.length_cons]; exact o152 this
theorem drStep_ok {d:Dr} {i:Nat} (h:DrOk d i) (hi:i < 4):DrOk (drStep d (sizeOf i)) (i + 1)∧0≤d.rest.fmod (sizeOf i)∧(d.rest.fmod (sizeOf i)).toNat < d.left.length:=by
  obtain ⟨h1,h2,h3⟩:=h
  have hs:0 < sizeOf i:=by unfold sizeOf; exact o153 hi
  have a1:=Int.fmod_nonneg_of_pos d.rest hs
  have a2:=Int.fmod_lt_of_pos d.rest hs
  have a3:(d.rest.fmod (sizeOf i)).toNat < d.left.length:=by unfold sizeOf at a2 a1 ⊢; exact o154 h2 a1 a2
  have hm:d.left.getD (d.rest.fmod (sizeOf i)).toNat 0∈d.left:=by rw [List.getD_eq_getElem?_getD,List.getElem?_eq_getElem a3]; exact List.getElem_mem _
  refine ⟨⟨?_,?_,?_⟩,a1,a3⟩
  · show (rsub _ _ _).Nodup
    rw [rsub_nil]; exact h1.filter _
  · show (rsub _ _ _).length + (i + 1) = 16
    rw [rsub_nil]
    have:=filter_len h1 hm
    exact o155 h2 this
  · show (d.letters ++ [_]).length = i + 1
    rw [List.length_append,h3]; rfl
theorem dr0_ok (rest:Int):DrOk (dr0 rest) 0:=⟨by show (L "ampltgquo1309xDA").Nodup; decide +kernel,by show (L "ampltgquo1309xDA").length + 0 = 16; kernel_rfl,by show (L "").length = 0; kernel_rfl⟩
theorem drAll_ok (rest:Int):∀ i,i≤4→DrOk (drAll rest (List.range i)) i
  | 0,_=>dr0_ok rest
  | i + 1,h=>by
    have ih:=drAll_ok rest i (by exact o156 h)
    unfold drAll at ih ⊢
    rw [List.range_succ,List.foldl_append]
    exact (drStep_ok ih (by exact o157 h)).1
theorem range_split {m x:Nat} {done rest:List Nat} (h:List.range m = done ++ x :: rest):x < m∧done = List.range x:=by
  have hl:=congrArg List.length h
  simp at hl
  have hx:(List.range m)[done.length]? = some x:=by rw [h]; simp
  rw [List.getElem?_range (by omega)] at hx
  have hxd:done.length = x:=Option.some.inj hx
  refine ⟨by omega,?_⟩
  have h2:(List.range m).take done.length = done:=by rw [h]; simp
  rw [← h2,List.take_range]
  congr 1
  exact o159 hl hxd
theorem bb_enumerate:bootBuiltins "enumerate" = some (.type "enumerate"):=by kernel_rfl
theorem RQ.enumInv {sc:Scope} {σ:Store} {elts:List PySem.Expr} {ek:Nat} {ep p pos cpos:Pos} {body sts:List Stmt} {e:PySem.Expr} {r:Res} (ms:List Int) (P:List (Int × Nat)→Store→Prop) (hg:isGlob sc "enumerate" = true) (hm:W.mg "enumerate" = Option.none) (h:Ev W n sc σ e (.list (ms.map V.int)))
    (hn:∀ env,starEach [e] env = (false,eval e env) :: starEach [] env) (hs:∀ env x,foldedSetIterable (.Call (.Name "enumerate" p) [e] [] cpos) env x = pure x) (h0:P [] σ)
    (step:∀ done x rest σ,ms.zipIdx = done ++ x :: rest→P done σ→∃ τ σ',Binds W sc (.Tuple elts ek ep) (V.tup [.int (x.2:Nat),.int x.1]) σ τ∧RQ W n sc body τ (.next σ')∧P (done ++ [x]) σ') (rest:∀ σ',P ms.zipIdx σ'→RQ W n sc sts σ' r) :
    RQ W n sc (.For (.Tuple elts ek ep) (.Call (.Name "enumerate" p) [e] [] cpos) body [] pos :: sts) σ r:=by
  obtain ⟨σ',h1,h2⟩:=ForL.inv (fun (x:Int × Nat)=>V.tup [.int (x.2:Nat),.int x.1]) ms.zipIdx step ms.zipIdx [] σ rfl h0
  have e2:((ms.map V.int).zipIdx.map fun p=>V.tup [.int (p.2:Nat),p.1]) = ms.zipIdx.map fun p=>V.tup [.int (p.2:Nat),.int p.1]:=by
    rw [List.zipIdx_map,List.map_map]; rfl
  exact RQ.cons (Runs.forEnum hg hm bb_enumerate h hn (by rw [e2]; exact h2) hs) (rest σ' h1)
theorem six {l:List Int} (h:l.length = 6):∃ a b c d e f,l = [a,b,c,d,e,f]:=by
  cases l with | nil=>cases h | cons a l=>cases l with | nil=>cases h | cons b l=>cases l with | nil=>cases h | cons c l=>cases l with | nil=>cases h | cons d l=>cases l with | nil=>cases h | cons e l=>cases l with | nil=>cases h | cons f l=>cases l with | nil=>exact ⟨a,b,c,d,e,f,rfl⟩ | cons g l=>cases h
structure G8 (W:Wo):Prop extends G7 W where
  sorted:W.mg "sorted" = Option.none
  enum:W.mg "enumerate" = Option.none
noncomputable def dcQ (ns:List Int):List Int:=cellsOf (sl ns none (some 60) none).zipIdx
noncomputable def drawn (ns:List Int):Dr:=drAll (((dcQ ns).getD 0 0).fdiv 5) (List.range 4)
noncomputable def markT:List Nat:=L "-&<>\"\t\n\r"
theorem markT_len:markT.length = 8:=by kernel_rfl
noncomputable def marksOf (c:Int):List Nat:=[markT.getD (c.fmod 8).toNat 0,markT.getD ((c.fdiv 8).fmod 8).toNat 0]
noncomputable def pickAt (c:Int) (k:Nat):Int:=((c.fdiv 64).fdiv (4 ^ k)).fmod 4
noncomputable def picksOf (c:Int):List Int:=sortI ((List.range 5).map (pickAt c))
noncomputable def bagOf (letters:List Nat) (c:Int):List Nat:=(picksOf c).map fun p=>letters.getD p.toNat 0
noncomputable def drawnV (ns:List Int):V:=.tup [.int (((dcQ ns).getD 0 0).fmod 5),.str (drawn ns).letters,.str (marksOf ((dcQ ns).getD 1 0)),.str (bagOf (drawn ns).letters ((dcQ ns).getD 1 0)),.list (((dcQ ns).drop 2).map V.int)]
theorem picks_ok (c:Int):(picksOf c).length = 5∧∀ p∈picksOf c,0≤p∧p < 4:=by
  refine ⟨by unfold picksOf; rw [(sortI_perm _).length_eq,List.length_map]; rfl,fun p hp=>?_⟩
  obtain ⟨k,_,rfl⟩:=List.mem_map.mp ((sortI_perm _).mem_iff.mp hp)
  exact ⟨Int.fmod_nonneg_of_pos _ (by decide),Int.fmod_lt_of_pos _ (by decide)⟩
theorem bb_sorted:bootBuiltins "sorted" = some (.builtin "sorted"):=boot_sorted
theorem RunsN.unpack {N:Nat} {sc:Scope} {σ σ':Store} {ts:List PySem.Expr} {j:Nat} {p pos:Pos} {e:PySem.Expr} {d:V} (h:EvN W N n sc σ e d) (hb:Binds W sc (.Tuple ts j p) d σ σ')
    (hs:∀ env,swapsWithSole [.Tuple ts j p] e pos.line env = pure false) (hw:∀ env,env.scope = sc→swappedStores [.Tuple ts j p] e env = pure none) :
    RunsN W N n sc (.Assign [.Tuple ts j p] e pos) σ (.next σ'):=
  ⟨fun env he A hA base out hot oa s Q E hN F k=>Assign_Tuple (h.run env he A hA s hot _ E hN F.good fun v s₁ g ψ r=>
    hb.run env he A (hA.less (Nat.zero_le _)) base out hot oa s₁ v _ E (F.grown g) r fun s₂ F₂=>k _ _ ⟨rfl,hot,oa,F₂⟩) (hs env) (hw env he)⟩
theorem law_drawn (G:G8 W) {ns:List Int} (hn:ns.length≤1000) {sd:V} (hsd:SQ W sd none (some 60) none (.list ((sl ns none (some 60) none).map V.int))) :
    RQ W n (fQ (nth pw 26)) (fbody (nth pw 26)) (aQ ["script"] [sd] ["cells","k","x","letters","left","rest","size","letter","marks","picks"]) (.ret (drawnV ns)):=by
  show RQ W n _ _ [("script",.val sd),("cells",.unset),("k",.unset),("x",.unset),("letters",.unset),("left",.unset),("rest",.unset),("size",.unset),("letter",.unset),("marks",.unset),("picks",.unset)] _
  refine RQ.cons (Runs.assignOwn (ds:=cells0.map V.int) (EvNew.list ?_ (by decide)) (by repeat constructor) (by exact noApp.of rfl) (fun ψ=>by rfl)) ?_
  · repeat (first | exact Evs.nil | refine Evs.cons Ev.int ?_ (fun ψ=>by rfl))
  have hsl:(sl ns none (some 60) none).length≤ns.length:=sl_len ns none (some 60)
  generalize hms:sl ns none (some 60) none = ms at hsl
  have hlen60:ms.length≤1000:=by omega
  refine RQ.enumInv ms (fun done σ=>∃ sk sx,pSQ sk∧pSQ sx∧σ = ([("script",.val sd),("cells",.own ((cellsOf done).map V.int)),("k",sk),("x",sx),("letters",.unset),("left",.unset),("rest",.unset),("size",.unset),("letter",.unset),("marks",.unset),("picks",.unset)]:Store)) (by kernel_rfl) G.enum ?_ (fun ψ=>by rfl) (fun ψ ψ=>by rfl) ⟨.unset,.unset,.unset,.unset,rfl⟩ ?_ ?_
  · rw [hms] at hsd
    exact Ev.slice Ev.nm .none (.some Ev.int) .none hsd (fun ψ ψ=>⟨_,by rfl⟩)
  · rintro done p rest σ hx ⟨sk,sx,hsk,hsx,rfl⟩
    obtain ⟨hc1,hc2⟩:=cellsOf_ok done
    have hp2:p.2 < 1000:=by
      have hmem:p∈ms.zipIdx:=by rw [hx]; simp
      have:=List.snd_lt_of_mem_zipIdx hmem
      omega
    have hmod:((p.2:Nat):Int).fmod 6 = ((p.2 % 6:Nat):Int):=by rw [Int.fmod_eq_emod_of_nonneg _ (by decide)]; omega
    have h5:p.2 % 6 < (cellsOf done).length:=by rw [hc1]; exact Nat.mod_lt _ (by decide)
    have hcell:(cellsOf (done ++ [p])).map V.int = ((cellsOf done).map V.int).set (((p.2 % 6:Nat):Int)).toNat (V.int ((cellsOf done).getD (p.2 % 6) 0 + p.1.fmod 1000000)):=by
      rw [cellsOf_snoc,Int.toNat_natCast]; unfold cellStep; rw [List.map_set]
    refine ⟨_,_,Binds.tuple (BindsL.cons (by repeat constructor) (by repeat first | exact noApp.of rfl | refine noApp.plain (by assumption) ?_ | refine noApp.val ?_ | refine noApp.unset ?_ | refine noApp.own ?_ | refine noApp.app (by decide) ?_) (BindsL.cons (by repeat constructor) (by repeat first | exact noApp.of rfl | refine noApp.plain (by assumption) ?_ | refine noApp.val ?_ | refine noApp.unset ?_ | refine noApp.own ?_ | refine noApp.app (by decide) ?_) BindsL.nil)),?_,.val (.int (p.2:Nat)),.val (.int p.1),.val,.val,by rw [hcell]⟩
    refine RQ.one (Runs.augItem (i:=((p.2 % 6:Nat):Int)) (by repeat constructor) ?_ (by exact o176) (by exact o177) (a:=.int ((cellsOf done).getD (p.2 % 6) 0)) ?_ (Ev.bin Ev.nm Ev.int (BQ.fmod (by decide))) InpOk.add (by repeat constructor) (fun ψ ψ ψ=>by rfl))
    · refine Ev.bin Ev.nm Ev.int ?_
      have:=BQ.fmod (W:=W) (a:=(p.2:Nat)) (b:=6) (by decide)
      rwa [hmod] at this
    · rw [Int.toNat_natCast,List.getElem?_map,List.getElem?_eq_getElem h5,List.getD_eq_getElem?_getD,List.getElem?_eq_getElem h5]; rfl
  rintro σ' ⟨sk,sx,hsk,hsx,rfl⟩
  refine RQ.freeze (by repeat constructor) (by repeat constructor) ?_
  obtain ⟨hc1,hc2⟩:=cellsOf_ok ms.zipIdx
  have hcs:dcQ ns = cellsOf ms.zipIdx:=by unfold dcQ; rw [hms]
  have hzl:ms.zipIdx.length = ms.length:=List.length_zipIdx
  unfold drawnV drawn
  rw [hcs]
  generalize cellsOf ms.zipIdx = cells at *
  obtain ⟨c0,c1,c2,c3,c4,c5,rfl⟩:=six hc1
  have hitem:IQ W (.list ([c0,c1,c2,c3,c4,c5].map V.int)) (.int 0) (.int c0):=IQ.list (by decide) (by decide) rfl
  have hc0:=hc2 c0 (by simp)
  refine RQ.cons (Runs.unpack (Ev.tup (ds:=[.str (L ""),.str (L "ampltgquo1309xDA"),.int (c0.fdiv 5)]) (.cons Ev.str (.cons Ev.str (Evs.one (Ev.bin (Ev.item Ev.nm Ev.int hitem (fun ψ ψ=>by rfl)) Ev.int (BQ.fdiv (by decide) (by decide +kernel))) (fun ψ=>by rfl)) (fun ψ=>by rfl)) (fun ψ=>by rfl)) (by simp)) (Binds.tuple (BindsL.cons (by repeat constructor) (by repeat first | exact noApp.of rfl | refine noApp.plain (by assumption) ?_ | refine noApp.val ?_ | refine noApp.unset ?_ | refine noApp.own ?_ | refine noApp.app (by decide) ?_) (BindsL.cons (by repeat constructor) (by repeat first | exact noApp.of rfl | refine noApp.plain (by assumption) ?_ | refine noApp.val ?_ | refine noApp.unset ?_ | refine noApp.own ?_ | refine noApp.app (by decide) ?_) (BindsL.cons (by repeat constructor) (by repeat first | exact noApp.of rfl | refine noApp.plain (by assumption) ?_ | refine noApp.val ?_ | refine noApp.unset ?_ | refine noApp.own ?_ | refine noApp.app (by decide) ?_) BindsL.nil)))) (fun ψ=>by rfl) (fun env he=>by cases env; cases he; kernel_rfl)) ?_
  show RQ W n _ _ _ (.ret (.tup [.int (c0.fmod 5),.str (drAll (c0.fdiv 5) (List.range 4)).letters,.str (marksOf c1),.str (bagOf (drAll (c0.fdiv 5) (List.range 4)).letters c1),.list ([c2,c3,c4,c5].map V.int)]))
  generalize hr0:c0.fdiv 5 = r0
  have hr0':0≤r0∧r0≤200000 + 1000000 * 1000:=by
    rw [← hr0,Int.fdiv_eq_ediv_of_nonneg _ (by decide)]
    exact o183 hlen60 hzl hc0
  have small:∀ d:Dr,∀ i,DrOk d i→i < 4→d.left.length≤16∧d.letters.length≤4:=fun d i h hi=>⟨by have:=h.2.1; exact o185 this,by have:=h.2.2; exact o186 hi this⟩
  have rng:rangeL 16 12 (-1) = (List.range 4).map fun (i:Nat)=>V.int (sizeOf i):=by
    unfold rangeL
    rw [show (Builtin.Range.rangeSize 16 12 (-1)).toNat = 4 by kernel_rfl]; rfl
  refine RQ.forInv (fun (i:Nat)=>V.int (sizeOf i)) (fun done σ=>∃ sz,pSQ sz∧σ = ([("script",.val sd),("cells",.val (.list ([c0,c1,c2,c3,c4,c5].map V.int))),("k",sk),("x",sx),("letters",.val (.str (drAll r0 done).letters)),("left",.val (.str (drAll r0 done).left)),("rest",.val (.int (drAll r0 done).rest)),("size",sz),("letter",.unset),("marks",.unset),("picks",.unset)]:Store)) (List.range 4)
    (Ev.call (Ev.builtin (by kernel_rfl) G.range bb_range) (.cons Ev.int (.cons Ev.int (Evs.one (Ev.un Ev.int UnOk.neg) (fun ψ=>by rfl)) (fun ψ=>by rfl)) (fun ψ=>by rfl)) (by trivial) (KQ.range_3 (by decide) (by kernel_rfl))) (by rw [← rng]; exact JQ.rng (by decide) (by kernel_rfl)) (fun ψ ψ=>by rfl) ⟨.unset,.unset,rfl⟩ ?_ ?_
  · rintro done i rest σ hx ⟨sz,hsz,rfl⟩
    obtain ⟨hi,rfl⟩:=range_split hx
    have hok:=drAll_ok r0 i (by omega)
    have hstep:drAll r0 (List.range i ++ [i]) = drStep (drAll r0 (List.range i)) (sizeOf i):=by unfold drAll; rw [List.foldl_append]; rfl
    rw [hstep]
    generalize drAll r0 (List.range i) = d at *
    obtain ⟨⟨_,_,_⟩,b1,b2⟩:=drStep_ok hok hi
    obtain ⟨s1,s2⟩:=small d i hok hi
    have hsz0:sizeOf i≠0:=by unfold sizeOf; exact o193 (by assumption)
    have hfm:d.rest.fmod (sizeOf i) = ((d.rest.fmod (sizeOf i)).toNat:Int):=by exact o195 b1
    have hch:chAt d.left (d.rest.fmod (sizeOf i)) = some (d.left.getD (d.rest.fmod (sizeOf i)).toNat 0):=by
      rw [chAt_nat 0 b2 hfm,List.getD_eq_getElem?_getD]
    refine ⟨_,_,Binds.name (by repeat constructor) (by repeat first | exact noApp.of rfl | refine noApp.plain (by assumption) ?_ | refine noApp.val ?_ | refine noApp.unset ?_ | refine noApp.own ?_ | refine noApp.app (by decide) ?_),?_,.val (.int (sizeOf i)),.val,rfl⟩
    have he:L "" = []:=by kernel_rfl
    refine RQ.draw (c:=d.left.getD (d.rest.fmod (sizeOf i)).toNat 0) (EvTk.item Ev.nm Ev.nm Ev.nm hsz0 (by exact o201 b1) (by exact o202 b2 s1 hfm) hch (fun ψ ψ=>by rfl)) (fun ψ=>by rfl)
      (σ₁:=fun v=>[("script",.val sd),("cells",.val (.list ([c0,c1,c2,c3,c4,c5].map V.int))),("k",sk),("x",sx),("letters",.val (.str d.letters)),("left",.val (.str d.left)),("rest",.val (.int d.rest)),("size",.val (.int (sizeOf i))),("letter",.val (.val v)),("marks",.unset),("picks",.unset)]) (fun v=>by repeat constructor) (by repeat first | exact noApp.of rfl | refine noApp.plain (by assumption) ?_ | refine noApp.val ?_ | refine noApp.unset ?_ | refine noApp.own ?_ | refine noApp.app (by decide) ?_)
      (σ₂:=fun v=>[("script",.val sd),("cells",.val (.list ([c0,c1,c2,c3,c4,c5].map V.int))),("k",sk),("x",sx),("letters",.val (.str (drStep d (sizeOf i)).letters)),("left",.val (.str (drStep d (sizeOf i)).left)),("rest",.val (.int (drStep d (sizeOf i)).rest)),("size",.val (.int (sizeOf i))),("letter",.val (.val v)),("marks",.unset),("picks",.unset)]) ?_ (fun v=>by (repeat (first | exact Wk.nil | with_reducible refine Wk.same ?_ | with_reducible refine Wk.drop ?_)))
    intro t ht
    refine RunsN.unpack (EvN.tup (ds:=[.str (drStep d (sizeOf i)).letters,.str (drStep d (sizeOf i)).left,.int (drStep d (sizeOf i)).rest]) (.cons (Ev.toN (Ev.bin Ev.nm (Ev.as (d:=.val (.str (St [d.left.getD (d.rest.fmod (sizeOf i)).toNat 0]) t)) (d':=.str [d.left.getD (d.rest.fmod (sizeOf i)).toNat 0]) Ev.nm fun h hot v r=>by cases rd_val r; exact mk_str) (BQ.cat ?_)))
      (.cons (EvN.replaceVar (by repeat constructor) (by kernel_rfl) (by repeat constructor) (by kernel_rfl) ht (fun ψ=>by rfl) (by rfl) (by rw [ofString_L,he]) (by exact o203 s1) (fun ψ=>by rfl)) (.cons (Ev.toN (Ev.bin Ev.nm Ev.nm (BQ.fdiv hsz0 ?_))) .nil (fun ψ=>by rfl)) (fun ψ=>by rfl)) (fun ψ=>by rfl)) (by simp)) (Binds.tuple (BindsL.cons (by repeat constructor) (by repeat first | exact noApp.of rfl | refine noApp.plain (by assumption) ?_ | refine noApp.val ?_ | refine noApp.unset ?_ | refine noApp.own ?_ | refine noApp.app (by decide) ?_) (BindsL.cons (by repeat constructor) (by repeat first | exact noApp.of rfl | refine noApp.plain (by assumption) ?_ | refine noApp.val ?_ | refine noApp.unset ?_ | refine noApp.own ?_ | refine noApp.app (by decide) ?_) (BindsL.cons (by repeat constructor) (by repeat first | exact noApp.of rfl | refine noApp.plain (by assumption) ?_ | refine noApp.val ?_ | refine noApp.unset ?_ | refine noApp.own ?_ | refine noApp.app (by decide) ?_) BindsL.nil)))) (fun ψ=>by rfl) (fun env he=>by cases env; cases he; kernel_rfl)
    · simp only [List.length_cons,List.length_nil]; exact o204 s2
    · have:(sizeOf i).natAbs < 2 ^ 5:=by unfold sizeOf; exact o205 (by assumption)
      exact Nat.lt_trans ((Nat.log2_lt (by unfold sizeOf; exact o206 (by assumption))).mpr this) (by decide)
  · rintro σ' ⟨sz,hsz,rfl⟩
    have hd:=drAll_ok r0 4 (Nat.le_refl _)
    have hl4:(drAll r0 (List.range 4)).letters.length = 4:=hd.2.2
    generalize (drAll r0 (List.range 4)).letters = letters at hl4
    have hsl1:SQ W (.list ([c0,c1,c2,c3,c4,c5].map V.int)) (some 2) none none (.list ([c2,c3,c4,c5].map V.int)):=by
      have:=SQ.list (W:=W) (l:=[c0,c1,c2,c3,c4,c5].map V.int) (lo:=some 2) (hi:=none) (st:=none) (by decide) (by simp)
      rwa [show (some (2:Int)) = some ((2:Nat):Int) from rfl,sl_from _ (by simp)] at this
    have hit1:IQ W (.list ([c0,c1,c2,c3,c4,c5].map V.int)) (.int 1) (.int c1):=IQ.list (by decide) (by decide) rfl
    have hmk (x:Int):IQ W (.str (L "-&<>\"\t\n\r")) (.int (x.fmod 8)) (.str [markT.getD (x.fmod 8).toNat 0]):=by
      have h0:=Int.fmod_nonneg_of_pos x (show (0:Int) < 8 by decide)
      have h1:=Int.fmod_lt_of_pos x (show (0:Int) < 8 by decide)
      refine IQ.str (Int.le_trans (by decide) h0) (Int.lt_trans h1 (by decide)) ?_
      rw [List.getD_eq_getElem?_getD]
      exact chAt_nat (l:=markT) (k:=(x.fmod 8).toNat) 0 (by rw [markT_len]; exact o207 h1) (by exact o195 h0)
    refine RQ.cons (Runs.assign (d:=.str (marksOf c1)) (Ev.bin (Ev.item Ev.str (Ev.bin (Ev.item Ev.nm Ev.int hit1 (fun ψ ψ=>by rfl)) Ev.int (BQ.fmod (by decide))) (hmk _) (fun ψ ψ=>by rfl)) (Ev.item Ev.str (Ev.bin (Ev.bin (Ev.item Ev.nm Ev.int hit1 (fun ψ ψ=>by rfl)) Ev.int (BQ.fdiv (by decide) (by decide +kernel))) Ev.int (BQ.fmod (by decide))) (hmk _) (fun ψ ψ=>by rfl)) (BQ.cat (by simp))) (by repeat constructor) (by repeat first | exact noApp.of rfl | refine noApp.plain (by assumption) ?_ | refine noApp.val ?_ | refine noApp.unset ?_ | refine noApp.own ?_ | refine noApp.app (by decide) ?_) (fun ψ=>by rfl)) ?_
    refine RQ.cons (Runs.assign (d:=.list ((picksOf c1).map V.int)) (Ev.call (Ev.builtin (by kernel_rfl) G.sorted bb_sorted) (Evs.one (d:=.list (((List.range 5).map (pickAt c1)).map V.int)) ?_ (fun ψ=>by rfl)) (by trivial) (KQ.sorted (by rw [List.length_map]; decide))) (by repeat constructor) (by repeat first | exact noApp.of rfl | refine noApp.plain (by assumption) ?_ | refine noApp.val ?_ | refine noApp.unset ?_ | refine noApp.own ?_ | refine noApp.app (by decide) ?_) (fun ψ=>by rfl)) ?_
    · rw [List.map_map]
      refine Ev.comp ["k"] (by kernel_rfl) (Ev.range1 G.toG1 (by kernel_rfl) Ev.int (fun ψ=>by rfl)) (JQ.rng (by decide) (by kernel_rfl)) (EmitL.map (fun (k:Nat)=>V.int (0 + (k:Int) * 1)) (fun k=>V.int (pickAt c1 k)) (List.range 5) (fun k hk=>?_)) (by rw [List.length_map]; decide) (plain1 fun e=>⟨rfl,fun x=>by rfl⟩)
      have hk':k < 5:=List.mem_range.mp hk
      have hlog:((4:Int) ^ k).natAbs.log2 < 9000:=by
        have:∀ k:Fin 5,((4:Int) ^ k.val).natAbs.log2 < 9000:=by decide +kernel
        exact this ⟨k,hk'⟩
      refine Ev.bin (Ev.bin (Ev.bin (Ev.item Ev.nm Ev.int hit1 (fun ψ ψ=>by rfl)) Ev.int (BQ.fdiv (by decide) (by decide +kernel))) (b:=.int (4 ^ k)) (Ev.bin Ev.int Ev.nm ?_) (BQ.fdiv (Int.ne_of_gt (Int.pow_pos (by decide))) hlog)) Ev.int (BQ.fmod (by decide))
      have:=BQ.pow (W:=W) (a:=4) (b:=0 + (k:Int) * 1) (by exact o66) (by exact o208 hk') (by decide)
      rwa [show (0 + (k:Int) * 1).toNat = k by exact o209 hk'] at this
    · obtain ⟨p1,p2⟩:=picks_ok c1
      refine RQ.ret (Runs.ret (Ev.tup (.cons (Ev.bin (Ev.item Ev.nm Ev.int hitem (fun ψ ψ=>by rfl)) Ev.int (BQ.fmod (by decide))) (.cons Ev.nm (.cons Ev.nm (.cons (d:=.str (bagOf letters c1)) ?_ (Evs.one (Ev.slice Ev.nm (.some Ev.int) .none .none hsl1 (fun ψ ψ=>⟨_,by rfl⟩)) (fun ψ=>by rfl)) (fun ψ=>by rfl)) (fun ψ=>by rfl)) (fun ψ=>by rfl)) (fun ψ=>by rfl)) (by simp)))
      have ej:joinL (L "") ((picksOf c1).map fun p=>[letters.getD p.toNat 0]) = bagOf letters c1:=by
        rw [show L "" = [] by kernel_rfl,jNQ,flat_one]; rfl
      refine Ev.meth Ev.str (Evs.one (Ev.comp ["k"] (by kernel_rfl) Ev.nm JQ.list (EmitL.map V.int (fun p=>V.str [letters.getD p.toNat 0]) (picksOf c1) (fun p hp=>?_)) (by rw [List.length_map,p1]; decide) (plain1 fun e=>⟨rfl,fun x=>by rfl⟩)) (fun ψ=>by rfl)) HQ.str meth_join (by rw [← ej]; exact join_strs _ 1 (fun ψ ψ=>Nat.le_refl _) (by rw [p1]; decide +kernel)) (fun ψ=>by rfl) (by rfl) (by decide)
      obtain ⟨q1,q2⟩:=p2 p hp
      refine Ev.item Ev.nm Ev.nm (IQ.str (by exact o201 q1) (by omega) ?_) (fun ψ ψ=>by rfl)
      rw [List.getD_eq_getElem?_getD]
      exact chAt_nat (k:=p.toNat) 0 (by exact o210 hl4 q2) (by exact o195 q1)
end
section
variable {W:Wo} {n:Nat}
structure G9 (W:Wo):Prop extends G8 W where
  worth:Fn W pw 34 "_law_worth" ["table"]
noncomputable abbrev encR (row:List Int):V:=.list (row.map V.int)
noncomputable abbrev encT (t:List (List Int)):V:=.list (t.map encR)
noncomputable def dropAt (k:Nat) (row:List Int):List Int:=row.take k ++ row.drop (k + 1)
noncomputable def entry (t:List (List Int)) (k:Nat):Int:=((t.headD [])[k]?).getD 0
noncomputable def worthFrom (f:List (List Int)→Int) (t:List (List Int)):List Nat→Int
  | []=>0
  | k :: ks=>(-1) ^ k * entry t k * f ((t.drop 1).map (dropAt k)) + worthFrom f t ks
noncomputable def worth:Nat→List (List Int)→Int
  | 0,_=>1
  | m + 1,t=>worthFrom (worth m) t (List.range (m + 1))
theorem worthFrom_snoc (f:List (List Int)→Int) (t:List (List Int)) (k:Nat):∀ ks,worthFrom f t (ks ++ [k]) = worthFrom f t ks + (-1) ^ k * entry t k * f ((t.drop 1).map (dropAt k))
  | []=>by simp [worthFrom]
  | j :: ks=>by
    rw [List.cons_append,worthFrom,worthFrom_snoc f t k ks,worthFrom]; omega
noncomputable def Small (t:List (List Int)):Prop:=∀ row∈t,∀ x∈row,x.natAbs < 2 ^ 62
noncomputable def Wide (m:Nat) (t:List (List Int)):Prop:=∀ row∈t,row.length = m
theorem dropAt_len {k:Nat} {row:List Int} (h:k < row.length):(dropAt k row).length = row.length - 1:=by
  unfold dropAt; rw [List.length_append,List.length_take,List.length_drop]; exact o158 h
theorem mem_dropAt {k:Nat} {row:List Int} {x:Int} (h:x∈dropAt k row):x∈row:=by
  unfold dropAt at h
  rcases List.mem_append.mp h with q | q
  · exact List.mem_of_mem_take q
  · exact List.mem_of_mem_drop q
theorem neg_one_pow (k:Nat):((-1:Int) ^ k = 1)∨((-1:Int) ^ k = -1):=by
  induction k with
  | zero=>exact .inl rfl
  | succ k ih=>
    rw [Int.pow_succ]
    rcases ih with e | e <;> rw [e] <;> decide
theorem law_worth (G:G9 W):∀ (m n:Nat) (t:List (List Int)),m≤4→t.length = m→Wide m t→Small t →
    RQ W (n + m) (fQ (nth pw 34)) (fbody (nth pw 34)) (aQ ["table"] [encT t] ["total","k"]) (.ret (.int (worth m t))):=by
  intro m
  induction m with
  | zero=>
    intro n t _ ht _ _
    show RQ W n _ _ [("table",.val (encT t)),("total",.unset),("k",.unset)] _
    have:t = []:=List.length_eq_zero_iff.mp ht
    subst this
    exact RQ.ret (Runs.ifT (EvT.cmp (c:=true) Ev.nm (Ev.list Evs.nil (by decide)) (CQ.eq_nil (a:=([]:List (List Int)).map encR)) (by rfl)) (RQ.ret (Runs.ret Ev.int)))
  | succ m ih=>
    intro n t hm ht hw hs
    show RQ W (n + m + 1) _ _ [("table",.val (encT t)),("total",.unset),("k",.unset)] _
    cases t with
    | nil=>cases ht
    | cons row rows=>
    have hrow:row.length = m + 1:=hw row (List.mem_cons_self ..)
    have hrows:rows.length = m:=by simpa using ht
    refine RQ.cons (Runs.ifF (EvT.cmp (c:=false) Ev.nm (Ev.list Evs.nil (by decide)) (CQ.eq_nil (a:=(row :: rows).map encR)) (by rfl)) .nil) ?_
    refine RQ.cons (Runs.assign Ev.int (by repeat constructor) (by exact noApp.of rfl) (fun ψ=>by rfl)) ?_
    have hlen:((row :: rows).map encR).length = m + 1:=by simp [hrows]
    have hsm:Builtin.Range.small 0 (m + 1:Nat) 1 = true:=by
      have hn:∀ x:Nat,x≤3→x = 0∨x = 1∨x = 2∨x = 3:=by omega
      rcases hn m (by exact o160 hm) with rfl | rfl | rfl | rfl <;> kernel_rfl
    have hsz:(Builtin.Range.rangeSize 0 (m + 1:Nat) 1).toNat = m + 1:=by
      have hn:∀ x:Nat,x≤3→x = 0∨x = 1∨x = 2∨x = 3:=by omega
      rcases hn m (by exact o160 hm) with rfl | rfl | rfl | rfl <;> kernel_rfl
    refine RQ.forInv (fun (k:Nat)=>V.int (0 + (k:Int) * 1)) (fun done σ=>∃ k,pSQ k∧σ = ([("table",.val (encT (row :: rows))),("total",.val (.int (worthFrom (worth m) (row :: rows) done))),("k",k)]:Store)) (List.range (m + 1))
      (Ev.range1 G.toG1 (by kernel_rfl) (Ev.len G.toG1 (by kernel_rfl) Ev.nm (KQ.len_list (by rw [hlen]; exact o161 hm)) (fun ψ=>by rfl)) (fun ψ=>by rfl)) ?_ (fun ψ ψ=>by rfl) ⟨.unset,.unset,rfl⟩ ?_ ?_
    · have h:=JQ.rng (W:=W) (a:=0) (b:=(m + 1:Nat)) (c:=1) (by decide) hsm
      unfold rangeL at h
      rw [hsz] at h
      rw [hlen]
      exact h
    · rintro done k rest σ hx ⟨sk,hk,rfl⟩
      have hkm:k < m + 1:=by
        have:k∈List.range (m + 1):=by rw [hx]; simp
        exact List.mem_range.mp this
      have hent:entry (row :: rows) k = row[k]'(by exact o164 hrow hkm):=by
        unfold entry; simp [List.getElem?_eq_getElem (show k < row.length by exact o164 hrow hkm)]
      have hgr:((row.map V.int)[(0 + (k:Int) * 1).toNat]?) = some (V.int (entry (row :: rows) k)):=by
        rw [show (0 + (k:Int) * 1).toNat = k by exact o165 hkm,List.getElem?_map,hent,List.getElem?_eq_getElem (show k < row.length by exact o164 hrow hkm)]; rfl
      have hsmall:(entry (row :: rows) k).natAbs < 2 ^ 62:=by
        rw [hent]; exact hs row (List.mem_cons_self ..) _ (List.getElem_mem _)
      by_cases h0:entry (row :: rows) k = 0
      · refine ⟨_,_,Binds.name (by repeat constructor) (by repeat first | exact noApp.of rfl | refine noApp.plain (by assumption) ?_ | refine noApp.val ?_ | refine noApp.unset ?_ | refine noApp.own ?_ | refine noApp.app (by decide) ?_),?_,.val (.int (0 + (k:Int) * 1)),.val,rfl⟩
        have e:worthFrom (worth m) (row :: rows) (done ++ [k]) = worthFrom (worth m) (row :: rows) done:=by
          rw [worthFrom_snoc,h0]; simp
        rw [e]
        refine RQ.one (Runs.ifF (EvT.cmp (c:=false) (b:=.int 0) (Ev.item (Ev.item Ev.nm Ev.int (IQ.list (c:=encR row) (by decide) (by decide) rfl) (fun ψ ψ=>by rfl)) Ev.nm (IQ.list (by exact o66) (by exact o168 hm hkm) hgr) (fun ψ ψ=>by rfl)) Ev.int ?_ (by rfl)) .nil)
        have:=CQ.ne_int (W:=W) (a:=entry (row :: rows) k) (b:=0)
        rwa [h0] at this ⊢
      · refine ⟨_,_,Binds.name (by repeat constructor) (by repeat first | exact noApp.of rfl | refine noApp.plain (by assumption) ?_ | refine noApp.val ?_ | refine noApp.unset ?_ | refine noApp.own ?_ | refine noApp.app (by decide) ?_),?_,.val (.int (0 + (k:Int) * 1)),.val,by rw [worthFrom_snoc]⟩
        refine RQ.one (Runs.ifT (EvT.cmp (c:=true) (b:=.int 0) (Ev.item (Ev.item Ev.nm Ev.int (IQ.list (c:=encR row) (by decide) (by decide) rfl) (fun ψ ψ=>by rfl)) Ev.nm (IQ.list (by exact o66) (by exact o168 hm hkm) hgr) (fun ψ ψ=>by rfl)) Ev.int ?_ (by rfl)) (RQ.one ?_))
        · have:=CQ.ne_int (W:=W) (a:=entry (row :: rows) k) (b:=0)
          rwa [show (entry (row :: rows) k != 0) = true from bne_iff_ne.mpr h0] at this
        have hpow:(-(1:Int)) ^ (0 + (k:Int) * 1).toNat = (-1) ^ k:=by rw [show (0 + (k:Int) * 1).toNat = k by exact o165 hkm]
        refine Runs.aug (a:=.int (worthFrom (worth m) (row :: rows) done)) (by repeat constructor) (b:=.int ((-1) ^ k * entry (row :: rows) k * worth m (((row :: rows).drop 1).map (dropAt k)))) ?_ InpOk.add (by repeat constructor) (by exact noApp.of rfl)
        refine Ev.bin (a:=.int ((-1) ^ k * entry (row :: rows) k)) (Ev.bin (a:=.int ((-1) ^ k)) (Ev.bin (c:=.int ((-1) ^ k)) (Ev.un Ev.int UnOk.neg) Ev.nm ?_) (Ev.item (Ev.item Ev.nm Ev.int (IQ.list (c:=encR row) (by decide) (by decide) rfl) (fun ψ ψ=>by rfl)) Ev.nm (IQ.list (by exact o66) (by exact o168 hm hkm) hgr) (fun ψ ψ=>by rfl)) (BQ.mulL ?_))
          (Ev.fn (c:=.int (worth m (((row :: rows).drop 1).map (dropAt k)))) ["total","k"] G.worth (by kernel_rfl) (Evs.one ?_ (fun ψ=>by rfl)) (by kernel_rfl) rfl (ih n (rows.map (dropAt k)) (by exact o156 hm) (by rw [List.length_map]; exact hrows) ?_ ?_)) (BQ.mulL ?_)
        · have:=BQ.pow (W:=W) (a:=-1) (b:=0 + (k:Int) * 1) (by exact o66) (by exact o173 hm hkm) (by decide)
          rwa [hpow] at this
        · rcases neg_one_pow k with e | e <;> rw [e] <;> decide
        · refine Ev.comp ["row"] (by kernel_rfl) (Ev.slice Ev.nm (.some Ev.int) .none .none (SQ.list (by decide) (by rw [hlen]; exact o161 hm)) (fun ψ ψ=>⟨_,by rfl⟩)) JQ.list ?_ (o:=(rows.map (dropAt k)).map encR) ?_ (plain1 fun e=>⟨rfl,fun x=>by rfl⟩)
          · have e1:sl ((row :: rows).map encR) (some 1) none none = rows.map encR:=by
              rw [show (some (1:Int)) = some ((1:Nat):Int) from rfl,sl_from _ (by rw [hlen]; exact o20)]; rfl
            rw [e1,List.map_map]
            refine EmitL.map encR (encR ∘ dropAt k) rows (fun r hr=>?_)
            have hrl:r.length = m + 1:=hw r (List.mem_cons_of_mem _ hr)
            have hk0:(0:Int) + (k:Int) * 1 = (k:Nat):=by exact o175
            refine Ev.bin (a:=.list (sl (r.map V.int) none (some (0 + (k:Int) * 1)) none)) (b:=.list (sl (r.map V.int) (some (0 + (k:Int) * 1 + 1)) none none)) (Ev.slice Ev.nm .none (.some Ev.nm) .none (SQ.list (by decide) (by rw [List.length_map,hrl]; exact o161 hm)) (fun ψ ψ=>⟨_,by rfl⟩))
              (Ev.slice Ev.nm (.some (Ev.bin Ev.nm Ev.int BQ.add)) .none .none (SQ.list (by decide) (by rw [List.length_map,hrl]; exact o161 hm)) (fun ψ ψ=>⟨_,by rfl⟩)) ?_
            have e2:encR (dropAt k r) = .list (sl (r.map V.int) none (some (0 + (k:Int) * 1)) none ++ sl (r.map V.int) (some (0 + (k:Int) * 1 + 1)) none none):=by
              rw [hk0,show ((k:Nat):Int) + 1 = ((k + 1:Nat):Int) by exact o100,sl_to _ (by rw [List.length_map,hrl]; exact o181 hkm),sl_from _ (by rw [List.length_map,hrl]; exact o184 hkm)]
              unfold encR dropAt
              rw [List.map_append,List.map_take,List.map_drop]
            show BQ W .Add _ _ (encR (dropAt k r))
            rw [e2]
            refine BQ.catL ?_
            have h1:=sl_len (r.map V.int) none (some (0 + (k:Int) * 1))
            have h2:=sl_len (r.map V.int) (some (0 + (k:Int) * 1 + 1)) none
            rw [List.length_map,hrl] at h1 h2
            exact o188 hm h1 h2
          · rw [List.length_map,List.length_map,hrows]; exact o190 hm
        · intro r hr
          obtain ⟨r',hr',rfl⟩:=List.mem_map.mp hr
          have:=hw r' (List.mem_cons_of_mem _ hr')
          rw [dropAt_len (by exact o192 hkm this),this]; rfl
        · intro r hr x hx
          obtain ⟨r',hr',rfl⟩:=List.mem_map.mp hr
          exact hs r' (List.mem_cons_of_mem _ hr') x (mem_dropAt hx)
        · rcases neg_one_pow k with e | e <;> rw [e] <;> (first | exact o197 hsmall | exact o198 hsmall)
    · rintro σ' ⟨sk,hk,rfl⟩
      have e:worth (m + 1) (row :: rows) = worthFrom (worth m) (row :: rows) (List.range (m + 1)):=rfl
      rw [e]
      exact RQ.ret (Runs.ret Ev.nm)
end
section
variable {W:Wo} {n:Nat}
theorem fn_joined (G:G6 W) {ls:List (List Nat)} (hn:ls.length≤1000) (hb:∀ y∈ls,y.length≤200):RQ W n (fQ (nth pw 10)) (fbody (nth pw 10)) (aQ ["inp","STAR"] [.list (ls.map V.str),.obj] ["res","add","i","n","fixed"]) (.ret (.str (L "(?s:" ++ joinL (L "") ls ++ L ")\\Z"))):=by
  show RQ W n _ _ [("inp",.val (.list (ls.map V.str))),("STAR",.val .obj),("res",.unset),("add",.unset),("i",.unset),("n",.unset),("fixed",.unset)] _
  have hlen:(ls.map V.str).length = ls.length:=List.length_map ..
  refine RQ.cons (Runs.assignOwn (EvNew.list Evs.nil (by decide)) (by repeat constructor) (by exact noApp.of rfl) (fun ψ=>by rfl)) ?_
  refine RQ.cons (Runs.assignApp (by repeat constructor) (by repeat constructor) (by exact noApp.of rfl) (fun ψ=>by rfl)) ?_
  refine RQ.cons (Runs.swapped (xs:=["i","n"]) (ds:=[.int 0,.int (ls.length:Nat)]) (Ev.tup (.cons Ev.int (Evs.one (Ev.len G.toG1 (by kernel_rfl) Ev.nm ?_ (fun ψ=>by rfl)) (fun ψ=>by rfl)) (fun ψ=>by rfl)) (by simp)) (BindsR.cons (by repeat constructor) (by exact noApp.of rfl) (BindsR.cons (by repeat constructor) (by exact noApp.of rfl) BindsR.nil)) (fun ψ=>by rfl) (fun env he=>?_) rfl) ?_
  · have:=KQ.len_list (W:=W) (n:=n) (l:=ls.map V.str) (by rw [hlen]; exact o116 hn)
    rwa [hlen] at this
  · cases env; cases he; kernel_rfl
  refine RQ.whileInv (fun i σ=>σ = ([("inp",.val (.list (ls.map V.str))),("STAR",.val .obj),("res",.own ((ls.take i).map V.str)),("add",.app "res"),("i",.val (.int (i:Nat))),("n",.val (.int (ls.length:Nat))),("fixed",.unset)]:Store)) ls.length rfl ?_ ?_ ?_
  · rintro i σ hi rfl
    have hit:IQ W (.list (ls.map V.str)) (.int (i:Nat)) (.str (ls[i]'hi)):=IQ.list (by exact o28) (by omega) (by rw [Int.toNat_natCast,List.getElem?_map,List.getElem?_eq_getElem hi]; rfl)
    refine ⟨EvT.and (b:=true) (c:=true) (EvT.cmp Ev.nm Ev.nm ?_ (by rfl)) fun ψ=>EvT.and (b:=true) (c:=true) (EvT.cmp (Ev.item Ev.nm Ev.nm hit (fun ψ ψ=>by rfl)) Ev.nm CQ.isNot_obj (by rfl)) fun ψ=>EvT.and_nil,[("inp",.val (.list (ls.map V.str))),("STAR",.val .obj),("res",.own ((ls.take (i + 1)).map V.str)),("add",.app "res"),("i",.val (.int (i + 1:Nat))),("n",.val (.int (ls.length:Nat))),("fixed",.unset)],?_,rfl⟩
    · have:=CQ.lt_int (W:=W) (a:=(i:Nat)) (b:=(ls.length:Nat))
      rwa [decide_eq_true (by exact o29 hi)] at this
    · have e:(ls.take (i + 1)).map V.str = (ls.take i).map V.str ++ [V.str (ls[i]'hi)]:=by rw [List.take_add_one,List.getElem?_eq_getElem hi,List.map_append]; rfl
      rw [e]
      refine RQ.cons (Runs.addCall (by repeat constructor) (by repeat constructor) (Ev.item Ev.nm Ev.nm hit (fun ψ ψ=>by rfl)) (by repeat constructor) (by rw [List.length_map,List.length_take]; exact o162 hn) (fun ψ=>by rfl)) ?_
      exact RQ.one (Runs.aug (by repeat constructor) Ev.int (c:=.int ((i + 1:Nat):Int)) InpOk.add (by repeat constructor) (by exact noApp.of rfl))
  · rintro σ rfl
    refine EvT.and (b:=false) (c:=true) (EvT.cmp Ev.nm Ev.nm ?_ (by rfl)) fun h=>by cases h
    have:=CQ.lt_int (W:=W) (a:=(ls.length:Nat)) (b:=(ls.length:Nat))
    rwa [decide_eq_false (by exact o107)] at this
  rintro σ rfl
  rw [List.take_length]
  refine RQ.cons (Runs.while (m:=0) (WhL.done (EvT.cmp (c:=false) Ev.nm Ev.nm ?_ (by rfl)))) ?_
  · have:=CQ.lt_int (W:=W) (a:=(ls.length:Nat)) (b:=(ls.length:Nat))
    rwa [decide_eq_false (by exact o107)] at this
  refine RQ.cons (Runs.assertT (EvT.cmp (c:=true) Ev.nm Ev.nm ?_ (by rfl))) ?_
  · have:=CQ.eq_int (W:=W) (a:=(ls.length:Nat)) (b:=(ls.length:Nat))
    rwa [beq_self_eq_true] at this
  refine RQ.forget (σ':=[("inp",.val (.list (ls.map V.str))),("STAR",.val .obj),("res",.own (ls.map V.str)),("add",.unset),("i",.val (.int (ls.length:Nat))),("n",.val (.int (ls.length:Nat))),("fixed",.unset)]) (by (repeat (first | exact Wk.nil | with_reducible refine Wk.same ?_ | with_reducible refine Wk.drop ?_))) ?_
  refine RQ.freeze (by repeat constructor) (by repeat constructor) ?_
  have e0:(L "").length = 0:=by kernel_rfl
  have hj:=KQ.join (W:=W) (n:=n) (sep:=L "") (ls:=ls) 200 hb (by rw [e0]; omega)
  have hz:(joinL (L "") ls).length≤200000:=by
    have e:L "" = []:=by kernel_rfl
    rw [e,jNQ]
    have:=flatten_le hb
    have h2:ls.length * 200≤1000 * 200:=Nat.mul_le_mul_right _ hn
    exact o167 hn this
  refine RQ.cons (Runs.assign (Ev.meth Ev.str (Evs.one Ev.nm (fun ψ=>by rfl)) HQ.str meth_join hj (fun ψ=>by rfl) (by rfl) (by decide)) (by repeat constructor) (by exact noApp.of rfl) (fun ψ=>by rfl)) ?_
  refine RQ.ret (Runs.ret (Ev.fstr Ev.nm ?_))
  have e1:(L "(?s:").length = 4:=by kernel_rfl
  have e2:(L ")\\Z").length = 3:=by kernel_rfl
  rw [e1,e2]; omega
end
noncomputable def whileOf:Option Stmt→List Stmt
  | some (.While _ b _ _)=>b
  | _=>[]
noncomputable def tbody:List Stmt:=whileOf (fbody (nth pw 9))[3]?
noncomputable def elseOf:List Stmt→List Stmt
  | [.If _ _ b _]=>b
  | _=>[]
noncomputable def thenOf:List Stmt→List Stmt
  | [.If _ a _ _]=>a
  | _=>[]
noncomputable def lamPosOf:Option Stmt→Pos
  | some (.Assign _ (.Call _ (.Lambda _ _ _ p :: _) _ _) _)=>p
  | _=>default
noncomputable def lamPos:Pos:=lamPosOf (elseOf ((thenOf (elseOf (elseOf (tbody.drop 2)))).drop 4))[2]?
noncomputable def whileTest:Option Stmt→PySem.Expr
  | some (.While t _ _ _)=>t
  | _=>default
noncomputable def tbodyIf:List Stmt:=thenOf (elseOf (elseOf (tbody.drop 2)))
noncomputable def lamOf:Option Stmt→PySem.Expr × Scope
  | some (.Assign _ (.Call _ (.Lambda _ e sc _ :: _) _ _) _)=>(e,sc)
  | _=>default
noncomputable def lamExpr:PySem.Expr:=(lamOf (elseOf (tbodyIf.drop 4))[2]?).1
noncomputable def lamScope:Scope:=(lamOf (elseOf (tbodyIf.drop 4))[2]?).2
noncomputable def hyph:List Stmt:=elseOf [(elseOf (tbodyIf.drop 4))[1]?.getD default]
noncomputable def rhsOf:Option Stmt→PySem.Expr
  | some (.Assign _ e _)=>e
  | _=>default
noncomputable def forBody:Option Stmt→List Stmt
  | some (.For _ _ b _ _)=>b
  | _=>[]
theorem CQ.eqs {W:Wo} {a b:List Nat} {c:Bool} (h:(a == b) = c):CQ W .Eq (.str a) (.str b) c:=h ▸ CQ.eq_str
theorem CQ.nes {W:Wo} {a b:List Nat} {c:Bool} (h:(a != b) = c):CQ W .NotEq (.str a) (.str b) c:=h ▸ CQ.ne_str
theorem CQ.lts {W:Wo} {a b:Int} {c:Bool} (h:decide (a < b) = c):CQ W .Lt (.int a) (.int b) c:=h ▸ CQ.lt_int
theorem CQ.ges {W:Wo} {a b:Int} {c:Bool} (h:decide (a ≥ b) = c):CQ W .GtE (.int a) (.int b) c:=h ▸ CQ.ge_int
noncomputable abbrev hst (pat:List Nat) (ds:List V) (N:Nat) (c stuff:Slot) (i:Int) (j:Nat) (cs:List (List Nat)) (k ch:Slot):Store:=
  [("pat",.val (.str pat)),("STAR",.val .obj),("QUESTION_MARK",.val (.str (L "."))),("res",.own ds),("add",.app "res"),("i",.val (.int i)),("n",.val (.int (N:Nat))),("c",c),("j",.val (.int (j:Nat))),("stuff",stuff),("chunks",.own (cs.map V.str)),("k",k),("chunk",ch)]
section
variable {W:Wo} {n:Nat} {T:TC}
theorem EvT.tt {sc:Scope} {σ:Store} {j:Nat} {pos:Pos}:EvT W n sc σ (.Constant (.bool true) j pos) true:=EvT.of Ev.bool TruOk.bool (fun ψ ψ=>by rfl)
theorem slice_mid {pat U x Z:List Nat} {a b:Int} (h:pat = U ++ (x ++ Z)) (ha:a = (U.length:Nat)) (hb:b = ((U.length + x.length:Nat):Int)) (hz:pat.length≤100000):SQ W (.str pat) (some a) (some b) none (.str x):=by
  have hl:pat.length = U.length + (x.length + Z.length):=by rw [h]; simp
  have:=SQ.str (W:=W) (l:=pat) (lo:=some a) (hi:=some b) (st:=none) (by decide) (by exact o50 hz)
  rw [ha,hb,sl_nat pat (by exact o45) (by exact o163 hl)] at this
  rw [ha,hb]
  have e:(pat.drop U.length).take (U.length + x.length - U.length) = x:=by
    rw [h,List.drop_left,show U.length + x.length - U.length = x.length by exact o86,List.take_left]
  rwa [e] at this
theorem cutting {pat:List Nat} {ds:List V} {N:Nat} {c stuff:Slot} {Z:List Nat} {j:Nat} (hc:pSQ c) (hs:pSQ stuff) (hz:pat.length≤100000):∀ (m:Nat) (U q r:List Nat) (D:List (List Nat)),r.length≤m→D.length + r.length≤10000→q ++ r≠[]→pat = U ++ ((q ++ r) ++ Z)→j = U.length + (q ++ r).length →
    ∃ (U' ch:List Nat) (D':List (List Nat)),WhL W (n + 2) (fQ (nth pw 9)) (whileTest hyph[2]?) (whileOf hyph[2]?) (m + 1) (hst pat ds N c stuff (U.length:Nat) j D (.val (.int ((U.length + q.length + 1:Nat):Int))) .unset) (.next (hst pat ds N c stuff (U'.length:Nat) j D' (.val (.int (-1))) .unset)) ∧
      pat = U' ++ (ch ++ Z)∧j = U'.length + ch.length∧((ch≠[]∧D ++ fin q r = D' ++ [ch])∨(ch = []∧∃ D0 y,D' = D0 ++ [y]∧D ++ fin q r = D0 ++ [y ++ [45]]))∧D'.length≤D.length + r.length:=by
  have e45:L "-" = [45]:=by kernel_rfl
  intro m
  induction m using Nat.strongRecOn with
  | ind m ih=>
  intro U q r D hm hD hne hp hj
  have hpl:pat.length = U.length + (q ++ r).length + Z.length:=by rw [hp]; simp; exact o166
  have hfind:Ev W (n + 2) (fQ (nth pw 9)) (hst pat ds N c stuff (U.length:Nat) j D (.val (.int ((U.length + q.length + 1:Nat):Int))) .unset) (rhsOf (whileOf hyph[2]?)[0]?) (.int (findI pat 45 (U.length + q.length + 1) j)):=by
    refine Ev.meth Ev.nm (.cons Ev.str (.cons Ev.nm (Evs.one Ev.nm (fun ψ=>by rfl)) (fun ψ=>by rfl)) (fun ψ=>by rfl)) HQ.str meth_find ?_ (fun ψ=>by rfl) (by rfl) (by decide)
    rw [e45]
    exact KQ.find4 (by exact o169 hj hpl)
  by_cases h45:45∈r.tail
  · obtain ⟨xs,a,r2,hr,hxs⟩:=cut_at h45
    have hrl:r.length = xs.length + 2 + r2.length:=by rw [hr]; simp; exact o143
    have hf:findI pat 45 (U.length + q.length + 1) j = ((U.length + q.length + xs.length + 1:Nat):Int):=by
      have:=find_some (u:=U ++ q) (xs:=xs) (a:=a) (r2:=r2) (v:=Z) hxs
      rw [← hr,List.length_append] at this
      rw [hp,List.append_assoc q,← List.append_assoc U,hj,List.length_append,← Nat.add_assoc,this]
    rw [hf] at hfind
    have hqr:(q ++ r).length = q.length + xs.length + 2 + r2.length:=by rw [List.length_append]; exact o170 hrl
    have hsl:SQ W (.str pat) (some ((U.length:Nat):Int)) (some ((U.length + q.length + xs.length + 1:Nat):Int)) none (.str (q ++ (xs ++ [a]))):=
      slice_mid (Z:=45 :: r2 ++ Z) (by rw [hp,hr]; simp) rfl (by simp; exact o171) hz
    have turn:∀ i2:Int,i2 = ((U.length + q.length + xs.length + 2:Nat):Int)→∀ k2:Int,k2 = ((U.length + q.length + xs.length + 4:Nat):Int)→RQ W (n + 2) (fQ (nth pw 9)) (whileOf hyph[2]?) (hst pat ds N c stuff (U.length:Nat) j D (.val (.int ((U.length + q.length + 1:Nat):Int))) .unset)
        (.next (hst pat ds N c stuff i2 j (D ++ [q ++ (xs ++ [a])]) (.val (.int k2)) .unset)):=by
      intro i2 hi2 k2 hk2
      refine RQ.cons (Runs.assign hfind (by repeat constructor) (by repeat first | exact noApp.of rfl | refine noApp.plain (by assumption) ?_ | refine noApp.val ?_ | refine noApp.unset ?_ | refine noApp.own ?_ | refine noApp.app (by decide) ?_) (fun ψ=>by rfl)) ?_
      refine RQ.cons (Runs.ifF (EvT.cmp Ev.nm Ev.int (CQ.lts (decide_eq_false (by exact o172))) (by rfl)) RQ.nil) ?_
      refine RQ.cons (σ':=hst pat ds N c stuff (U.length:Nat) j (D ++ [q ++ (xs ++ [a])]) (.val (.int ((U.length + q.length + xs.length + 1:Nat):Int))) .unset) ?_ ?_
      · have e:(D ++ [q ++ (xs ++ [a])]).map V.str = D.map V.str ++ [V.str (q ++ (xs ++ [a]))]:=by rw [List.map_append]; rfl
        unfold hst; rw [e]
        exact Runs.append (by repeat constructor) (Ev.slice Ev.nm (.some Ev.nm) (.some Ev.nm) .none hsl (fun ψ ψ=>⟨_,by rfl⟩)) (by repeat constructor) (by rw [List.length_map]; exact o174 hD) (by rfl) (fun ψ=>by rfl)
      refine RQ.cons (Runs.assign (Ev.bin (c:=.int i2) Ev.nm Ev.int ?_) (by repeat constructor) (by repeat first | exact noApp.of rfl | refine noApp.plain (by assumption) ?_ | refine noApp.val ?_ | refine noApp.unset ?_ | refine noApp.own ?_ | refine noApp.app (by decide) ?_) (fun ψ=>by rfl)) ?_
      · rw [hi2]; exact BQ.add
      refine RQ.one (Runs.assign (Ev.bin (c:=.int k2) Ev.nm Ev.int ?_) (by repeat constructor) (by repeat first | exact noApp.of rfl | refine noApp.plain (by assumption) ?_ | refine noApp.val ?_ | refine noApp.unset ?_ | refine noApp.own ?_ | refine noApp.app (by decide) ?_) (fun ψ=>by rfl))
      · rw [hk2]; exact BQ.add
    obtain ⟨m',rfl⟩:∃ m',m = m' + 1:=⟨m - 1,by exact o178 hm hrl⟩
    cases r2 with
    | nil=>
      have hr2:r.length = xs.length + 2:=by rw [hrl]; rfl
      have ejj:j = U.length + q.length + xs.length + 2:=by rw [hj,hqr,List.length_nil]; exact o179
      refine ⟨U ++ (q ++ r),[],D ++ [q ++ (xs ++ [a])],?_,?_,?_,.inr ⟨rfl,D,q ++ (xs ++ [a]),rfl,?_⟩,?_⟩
      · refine .next EvT.tt (turn ((U ++ (q ++ r)).length:Nat) (by rw [List.length_append,hqr]; simp only [List.length_nil]; exact o180) _ rfl) ?_
        refine .brk EvT.tt ?_
        refine RQ.cons (Runs.assign (d:=.int (-1)) ?_ (by repeat constructor) (by repeat first | exact noApp.of rfl | refine noApp.plain (by assumption) ?_ | refine noApp.val ?_ | refine noApp.unset ?_ | refine noApp.own ?_ | refine noApp.app (by decide) ?_) (fun ψ=>by rfl)) ?_
        · refine Ev.meth Ev.nm (.cons Ev.str (.cons Ev.nm (Evs.one Ev.nm (fun ψ=>by rfl)) (fun ψ=>by rfl)) (fun ψ=>by rfl)) HQ.str meth_find ?_ (fun ψ=>by rfl) (by rfl) (by decide)
          rw [e45]
          have:=KQ.find4 (W:=W) (n:=n + 2) (l:=pat) (c:=45) (lo:=U.length + q.length + xs.length + 4) (hi:=j) (by exact o169 hj hpl)
          have hf2:findI pat 45 (U.length + q.length + xs.length + 4) j = -1:=by
            unfold findI findAt
            rw [show j - (U.length + q.length + xs.length + 4) = 0 by exact o182 hj hrl hqr hr2]; rfl
          rwa [hf2] at this
        exact RQ.brk (Runs.ifT (EvT.cmp Ev.nm Ev.int (CQ.lts (by decide)) (by rfl)) (RQ.brk Runs.brk))
      · rw [hp]; simp
      · rw [hj]; simp
      · rw [hr,fin_trail q hxs]
      · rw [List.length_append]; simp only [List.length_singleton]; exact o187 hr2
    | cons b r3=>
      have hl3:r.length = xs.length + 3 + r3.length:=by rw [hrl,List.length_cons]; exact o189
      have hUl:(U ++ (q ++ (xs ++ [a,45]))).length = U.length + q.length + xs.length + 2:=by simp; exact o191
      obtain ⟨U',ch,D',h1,h2,h3,h4,h5⟩:=ih m' (Nat.lt_succ_self _) (U ++ (q ++ (xs ++ [a,45]))) [b] r3 (D ++ [q ++ (xs ++ [a])]) (by exact o194 hm hl3) (by rw [List.length_append]; simp only [List.length_singleton]; exact o196 hD hl3) (by simp) (by rw [hp,hr]; simp) (by rw [hj,hqr,hUl]; simp; exact o199)
      refine ⟨U',ch,D',.next EvT.tt (turn ((U ++ (q ++ (xs ++ [a,45]))).length:Nat) (by rw [hUl]) (((U ++ (q ++ (xs ++ [a,45]))).length + [b].length + 1:Nat):Int) (by rw [hUl]; rfl)) h1,h2,h3,?_,?_⟩
      · rw [hr,fin_cut q hxs]
        simp only [List.append_assoc,List.cons_append,List.nil_append] at h4 ⊢
        exact h4
      · rw [List.length_append] at h5
        simp only [List.length_singleton] at h5
        exact o200 hf hl3 h5
  · have hf:findI pat 45 (U.length + q.length + 1) j = -1:=by
      have:=find_none (u:=U ++ q) (r:=r) (v:=Z) h45
      rw [List.length_append] at this
      rw [hp,List.append_assoc q,← List.append_assoc U,hj,List.length_append,← Nat.add_assoc,this]
    rw [hf] at hfind
    refine ⟨U,q ++ r,D,.brk EvT.tt ?_,hp,hj,.inl ⟨hne,by rw [fin_end q h45]⟩,by exact o45⟩
    refine RQ.cons (Runs.assign hfind (by repeat constructor) (by repeat first | exact noApp.of rfl | refine noApp.plain (by assumption) ?_ | refine noApp.val ?_ | refine noApp.unset ?_ | refine noApp.own ?_ | refine noApp.app (by decide) ?_) (fun ψ=>by rfl)) ?_
    exact RQ.brk (Runs.ifT (EvT.cmp Ev.nm Ev.int (CQ.lts (by decide)) (by rfl)) (RQ.brk Runs.brk))
end
section
variable {T:TC} {W:Wo} {n:Nat} {sc:Scope} {σ σ':Store} {env:Env} {base s s':Shared} {out hot hot':Addr→Prop} {oa oa':Str→Addr}
theorem TQ.freeze {x:Str} {ds:List V} {sts:List Stmt} {r:Res} (hm:(x,Slot.own ds)∈σ) (hp:Put x (.val (.list ds)) σ σ') (h:TQ T W n sc sts σ' r):TQ T W n sc sts σ r:=
  ⟨fun env he A hA base out hot oa s Q E F t k=>h.run env he A hA base out _ oa s Q E (F.freeze hm hp)
    { t with
      ok:=t.ok.mono (fun o e=>e) fun b o nb e=>⟨e,fun q=>nb q.1⟩
      isHot:=⟨t.isHot,fun e=>t.off (mQ.mpr (.inr (.inr ⟨_,hm,rfl,e⟩)))⟩
      off:=fun hb=>t.off (by
        rcases mQ.mp hb with h1 | ⟨p,hp',h2,h3⟩ | ⟨p,hp',h2,h3⟩
        · exact mQ.mpr (.inl h1)
        · obtain ⟨q,hq,e⟩:=hp.back F.nodup p hp'
          exact mQ.mpr (.inr (.inl ⟨q,hq,by rw [e]; exact h2,by rw [e]; exact h3⟩))
        · rcases hp.cases F.nodup p hp' with e | ⟨a,_⟩
          · subst e; cases h2
          · exact mQ.mpr (.inr (.inr ⟨p,a,h2,h3⟩))) } k⟩
theorem TQ.forget {sts:List Stmt} {r:Res} (hw:Wk σ σ') (h:TQ T W n sc sts σ' r):TQ T W n sc sts σ r:=
  ⟨fun env he A hA base out hot oa s Q E F t k=>h.run env he A hA base out hot oa s Q E (F.forget hw) { t with off:=fun hb=>t.off (hw.mutL _ hb) } k⟩
theorem TQ.one {st:Stmt} (h:RunsT T W n sc st σ (.next σ')):TQ T W n sc [st] σ (.next σ'):=.cons h .nil
theorem Runs.forInv {α:Type} {σ:Store} {t it:PySem.Expr} {body:List Stmt} {pos:Pos} {a:V} (enc:α→V) (P:List α→Store→Prop) (xs:List α) (h:Ev W n sc σ it a) (hi:JQ W a (xs.map enc)) (hs:∀ env x,foldedSetIterable it env x = pure x) (h0:P [] σ)
    (step:∀ done x rest σ,xs = done ++ x :: rest→P done σ→∃ τ σ',Binds W sc t (enc x) σ τ∧RQ W n sc body τ (.next σ')∧P (done ++ [x]) σ'):∃ σ',P xs σ'∧Runs W n sc (.For t it body [] pos) σ (.next σ'):=by
  obtain ⟨σ',h1,h2⟩:=ForL.inv enc xs step xs [] σ rfl h0
  exact ⟨σ',h1,Runs.for h hi h2 hs⟩
end
theorem pre1_flat (q:List Nat) (l:List (List Nat)):(pre1 q l).flatten = q ++ l.flatten:=by
  cases l with
  | nil=>simp [pre1]
  | cons h t=>simp [pre1]
theorem chunkA_len:∀ as:List Atom,(hQ as).flatten.length≤2 * as.length
  | []=>by simp [hQ]
  | .one c :: r=>by rw [hQ,pre1_flat,List.length_append]; have:=chunkA_len r; simp only [List.length_cons,List.length_nil]; omega
  | .rng a b :: r=>by rw [hQ,List.flatten_cons,pre1_flat,List.length_append,List.length_append]; have:=chunkA_len r; simp only [List.length_cons,List.length_nil]; omega
theorem chunk_count (as:List Atom) (q:List Nat):(pre1 q (hQ as)).length≤as.length + 1:=by
  induction as generalizing q with
  | nil=>simp [hQ,pre1]
  | cons x r ih=>
    cases x with
    | one c=>rw [hQ,pre1_pre1]; have:=ih (q ++ [c]); simp only [List.length_cons]; omega
    | rng a b=>rw [hQ]; show (_ :: pre1 [b] (hQ r)).length≤_; have:=ih [b]; simp only [List.length_cons]; exact o110 this
theorem chunk_free {p:Nat→Prop}:∀ {as:List Atom},(∀ x∈as,(match x with | .one c=>p c | .rng a b=>p a∧p b))→∀ c∈(hQ as).flatten,p c
  | [],_,c,h=>by simp [hQ] at h
  | .one d :: r,ha,c,h=>by
    rw [hQ,pre1_flat] at h
    rcases List.mem_append.mp h with h | h
    · rw [List.mem_singleton.mp h]; exact ha _ (List.mem_cons_self ..)
    · exact chunk_free (fun x hx=>ha x (List.mem_cons_of_mem _ hx)) c h
  | .rng d e :: r,ha,c,h=>by
    rw [hQ,List.flatten_cons,pre1_flat] at h
    have hd:=ha _ (List.mem_cons_self ..)
    rcases List.mem_append.mp h with h | h
    · rw [List.mem_singleton.mp h]; exact hd.1
    · rcases List.mem_append.mp h with h | h
      · rw [List.mem_singleton.mp h]; exact hd.2
      · exact chunk_free (fun x hx=>ha x (List.mem_cons_of_mem _ hx)) c h
theorem remC_len:∀ l:List (List Nat),(remC l).flatten.length≤l.flatten.length∧(remC l).length≤l.length
  | []=>by simp [remC]
  | c :: l=>by
    have ih:=remC_len l
    cases h:remC l with
    | nil=>rw [remC,h]; simp only [List.flatten_cons,List.length_append,List.length_cons,List.flatten_nil,List.length_nil]; exact o211
    | cons d t=>
      rw [remC_step l c h]
      rw [h] at ih
      simp only [List.flatten_cons,List.length_append,List.length_cons] at ih ⊢
      split
      · simp only [List.flatten_cons,List.length_append,List.length_cons,List.length_dropLast,List.length_tail]; exact o212 ih
      · simp only [List.flatten_cons,List.length_append,List.length_cons]; exact o213 ih
theorem half_len (l:List (List Nat)) (k:Nat):(halfC l k).flatten.length≤l.flatten.length∧(halfC l k).length≤l.length:=by
  have h:=remC_len (l.drop k)
  have e1:l.flatten.length = (l.take k).flatten.length + (l.drop k).flatten.length:=by
    rw [← List.length_append,← List.flatten_append,List.take_append_drop]
  have e2:l.length = (l.take k).length + (l.drop k).length:=by
    rw [← List.length_append,List.take_append_drop]
  unfold halfC
  rw [List.flatten_append,List.length_append,List.length_append]
  exact o214 h e1 e2
theorem mem_flat {l:List (List Nat)} {x:List Nat} (h:x∈l):x.length≤l.flatten.length:=by
  induction l with
  | nil=>cases h
  | cons y l ih=>
    rw [List.flatten_cons,List.length_append]
    rcases List.mem_cons.mp h with e | h
    · rw [e]; exact o45
    · have:=ih h; omega
theorem sl_init {α:Type} (l:List α) (h:1≤l.length):sl l none (some (-1)) none = l.dropLast:=by
  unfold sl sliceBounds
  simp only [Option.getD_none,show (1:Int) > 0 by decide,if_true]
  rw [show (-1:Int) = -((1:Nat):Int) from rfl,if_pos (neg_lt (by decide)),neg_add h,clamp (Nat.sub_le ..)]
  refine (picks1 l 0 _ (Nat.sub_le ..) (Nat.zero_le _)).trans ?_
  rw [List.drop_zero,Nat.sub_zero,List.dropLast_eq_take]
theorem one_lt (a b:Nat):decide ([a] < [b]) = decide (a < b):=by
  by_cases h:a < b
  · rw [decide_eq_true h,decide_eq_true]; exact List.cons_lt_cons_iff.mpr (.inl h)
  · rw [decide_eq_false h,decide_eq_false]
    intro q
    rcases List.cons_lt_cons_iff.mp q with q | q
    · exact h q
    · exact absurd q.2 (List.not_lt_nil _)
theorem chAt_last {c:List Nat} (h:c≠[]):chAt c (-1) = some (lastD c):=by
  have hl:0 < c.length:=List.length_pos_iff.mpr h
  unfold chAt seqIndex?
  have e:(-1:Int) + (c.length:Int) = ((c.length - 1:Nat):Int):=by omega
  simp only [show ((-1:Int) < 0) from by decide,if_true,e]
  rw [if_pos (by rw [Bool.and_eq_true]; exact ⟨decide_eq_true (by omega),decide_eq_true (by omega)⟩)]
  show c[((c.length - 1:Nat):Int).toNat]? = _
  rw [Int.toNat_natCast,← List.getLast?_eq_getElem?]
  unfold lastD
  rw [List.getLastD_eq_getLast?]
  cases hg:c.getLast? with
  | none=>exact absurd (List.getLast?_eq_none_iff.mp hg) h
  | some x=>rfl
structure GT (W:Wo) (T:TC) (R:Addr):Prop extends G6 W where
  tb:TB T W
  tpos:T.pos = lamPos
  here:T.here = true
  re:W.mg "_twin_re_1" = some (.ref R)
  isPat:IsPat W.B R
section
variable {W:Wo} {n:Nat} {T:TC}
theorem set_mid {α:Type} (l:List α) (x y:α) (r:List α):(l ++ x :: r).set l.length y = l ++ y :: r:=by simp
theorem erase_mid {α:Type} (l:List α) (x y:α) (r:List α):(l ++ x :: y :: r).eraseIdx (l.length + 1) = l ++ x :: r:=by
  rw [List.eraseIdx_append_of_length_le (by exact o146),show l.length + 1 - l.length = 1 by exact o147]; rfl
theorem merging {R:Addr} (G:GT W T R) {pat:List Nat} {ds:List V} {N j:Nat} {c stuff k0 ch:Slot} {i:Int} {q:List Nat} {as:List Atom} (hc:pSQ c) (hs:pSQ stuff) (hk0:pSQ k0) (hch:pSQ ch)
    (hn:(pre1 q (hQ as)).length≤1000) (hL:(pre1 q (hQ as)).flatten.length≤1000) :
    ∃ k,pSQ k∧Runs W (n + 2) (fQ (nth pw 9)) (hyph[5]?.getD default) (hst pat ds N c stuff i j (pre1 q (hQ as)) k0 ch) (.next (hst pat ds N c stuff i j (remC (pre1 q (hQ as))) k ch)):=by
  generalize hcs:pre1 q (hQ as) = cs at *
  have hlen:0 < cs.length:=by
    rw [← hcs]
    have:=chunkA_ne as
    cases h:hQ as with
    | nil=>exact absurd h this
    | cons x l=>exact Nat.succ_pos _
  have hml:(cs.map V.str).length = cs.length:=List.length_map ..
  suffices hR:∃ σ',(∃ k,pSQ k∧σ' = hst pat ds N c stuff i j (halfC cs (cs.length - 1 - (List.range (cs.length - 1)).length)) k ch)∧Runs W (n + 2) (fQ (nth pw 9)) (hyph[5]?.getD default) (hst pat ds N c stuff i j cs k0 ch) (.next σ') by
    obtain ⟨σ',⟨k,hk,rfl⟩,hR⟩:=hR
    rw [List.length_range,Nat.sub_self,halfC_zero] at hR
    exact ⟨k,hk,hR⟩
  refine Runs.forInv (fun (k:Nat)=>V.int (((cs.map V.str).length:Nat) - 1 + (k:Int) * (-1))) (fun done σ=>∃ k,pSQ k∧σ = hst pat ds N c stuff i j (halfC cs (cs.length - 1 - done.length)) k ch) (List.range (cs.length - 1)) (a:=.rng (((cs.map V.str).length:Nat) - 1:Int) 0 (-1))
    (Ev.call (Ev.builtin (by kernel_rfl) G.range bb_range) (.cons (Ev.bin (Ev.ownLen G.toG1 (by kernel_rfl) (by repeat constructor) (by kernel_rfl) (by rw [hml]; exact o117 hn) (fun ψ=>by rfl)) Ev.int BQ.sub) (.cons Ev.int (Evs.one (Ev.un Ev.int UnOk.neg) (fun ψ=>by rfl)) (fun ψ=>by rfl)) (fun ψ=>by rfl)) (by trivial) (KQ.range_3 (by decide) (PyProof.noPylong_small (by decide))))
    ?_ (fun ψ ψ=>by rfl) ⟨k0,hk0,?_⟩ ?_
  · have:=JQ.down (W:=W) (a:=((cs.map V.str).length:Nat) - 1) (b:=0) (by exact o122) (by omega) (by omega) (by omega)
    rw [show (((cs.map V.str).length:Nat) - 1 - 0:Int).toNat = cs.length - 1 by exact o215 hlen hml] at this
    exact this
  · rw [List.length_nil,Nat.sub_zero,halfC_last (List.length_pos_iff.mp hlen)]
  · rintro done x rest' σ hx ⟨k,hk,rfl⟩
    obtain ⟨hxm,rfl⟩:=range_split hx
    rw [List.length_range,List.length_append,List.length_range,List.length_singleton]
    obtain ⟨kk,hkk⟩:∃ kk,kk = cs.length - 1 - x:=⟨_,rfl⟩
    have e2:cs.length - 1 - (x + 1) = kk - 1:=by exact o216 hkk
    rw [e2,← hkk]
    have hki:((cs.map V.str).length:Nat) - 1 + (x:Int) * (-1) = ((kk:Nat):Int):=by exact o217 hml hxm hkk
    rw [hki]
    obtain ⟨c1,d1,t,h1,hc1,hd1,h2⟩:=halfC_step (as:=as) (q:=q) (k:=kk) (by exact o218 hml hxm hki) (by rw [hcs]; exact o219 hml hki)
    rw [hcs] at h1 h2
    have hbig:=half_len cs kk
    rw [h1] at hbig
    have htl:(cs.take (kk - 1)).length = kk - 1:=by rw [List.length_take]; exact o220 hn hlen hkk
    have hc1l:c1.length≤1000:=by have:=mem_flat (l:=cs.take (kk - 1) ++ c1 :: d1 :: t) (x:=c1) (by simp); exact o221 hL hbig this
    have hd1l:d1.length≤1000:=by have:=mem_flat (l:=cs.take (kk - 1) ++ c1 :: d1 :: t) (x:=d1) (by simp); exact o221 hL hbig this
    have hc1p:0 < c1.length:=List.length_pos_iff.mpr hc1
    have hd1p:0 < d1.length:=List.length_pos_iff.mpr hd1
    refine ⟨_,_,Binds.name (by repeat constructor) (by repeat first | exact noApp.of rfl | refine noApp.plain (by assumption) ?_ | refine noApp.val ?_ | refine noApp.unset ?_ | refine noApp.own ?_ | refine noApp.app (by decide) ?_),?_,.val (.int ((kk:Nat):Int)),.val,rfl⟩
    rw [h1,h2]
    obtain ⟨p,hp⟩:∃ p,p = cs.take (kk - 1):=⟨_,rfl⟩
    rw [← hp] at htl hbig ⊢
    have hpl:(p.map V.str).length = kk - 1:=by rw [List.length_map,htl]
    have hown:(p ++ c1 :: d1 :: t).map V.str = p.map V.str ++ V.str c1 :: V.str d1 :: t.map V.str:=by rw [List.map_append]; rfl
    have hn1:p.length + (t.length + 2)≤cs.length:=by
      have:=hbig.2; rw [List.length_append] at this; simp only [List.length_cons] at this; omega
    have g1:(p.map V.str ++ V.str c1 :: V.str d1 :: t.map V.str)[(((kk:Nat):Int) - 1).toNat]? = some (V.str c1):=by
      rw [show (((kk:Nat):Int) - 1).toNat = kk - 1 by exact o222 hpl,List.getElem?_append_right (by exact o223 hpl),hpl,Nat.sub_self]; rfl
    have g2:(p.map V.str ++ V.str c1 :: V.str d1 :: t.map V.str)[((kk:Nat):Int).toNat]? = some (V.str d1):=by
      rw [show ((kk:Nat):Int).toNat = kk by exact o224,List.getElem?_append_right (by exact o225 hpl),hpl,show kk - (kk - 1) = 1 by exact o230 hml hxm hki]; rfl
    have hd0:chAt d1 0 = some (d1.headD 0):=by
      rw [chAt_nat (l:=d1) (k:=0) (i:=0) 0 hd1p rfl]
      cases d1 with
      | nil=>cases hd1p
      | cons y l=>rfl
    have hl1:(p.map V.str ++ V.str c1 :: V.str d1 :: t.map V.str).length = p.length + (t.length + 2):=by simp
    unfold hst
    rw [hown]
    have hcond:CQ W .Gt (.str [lastD c1]) (.str [d1.headD 0]) (decide (d1.headD 0 < lastD c1)):=by
      rw [← one_lt]; exact CQ.gt_str
    by_cases hlt:d1.headD 0 < lastD c1
    · rw [if_pos hlt]
      rw [decide_eq_true hlt] at hcond
      refine RQ.one (Runs.ifT (EvT.cmp (Ev.item (Ev.ownItem (by repeat constructor) (by kernel_rfl) (Ev.bin Ev.nm Ev.int BQ.sub) (by exact o233 hml hxm hki) (by exact o235 hn hml hki) g1 (fun ψ ψ=>by rfl)) (Ev.un Ev.int UnOk.neg) (IQ.str (by decide) (by decide) (chAt_last hc1)) (fun ψ ψ=>by rfl))
        (Ev.item (Ev.ownItem (by repeat constructor) (by kernel_rfl) Ev.nm (by exact o28) (by exact o238 hn hml hki) g2 (fun ψ ψ=>by rfl)) Ev.int (IQ.str (by decide) (by decide) hd0) (fun ψ ψ=>by rfl)) hcond (by rfl)) ?_)
      have hs1:SQ W (.str c1) none (some (-1)) none (.str c1.dropLast):=by
        have:=SQ.str (W:=W) (l:=c1) (lo:=none) (hi:=some (-1)) (st:=none) (by decide) (by exact o116 hc1l)
        rwa [sl_init c1 hc1p] at this
      have hs2:SQ W (.str d1) (some 1) none none (.str d1.tail):=by
        have:=SQ.str (W:=W) (l:=d1) (lo:=some ((1:Nat):Int)) (hi:=none) (st:=none) (by decide) (by exact o116 hd1l)
        rwa [sl_from d1 (by exact o112 hd1p),List.drop_one] at this
      refine RQ.cons (σ':=hst pat ds N c stuff i j (p ++ (c1.dropLast ++ d1.tail) :: d1 :: t) (.val (.int ((kk:Nat):Int))) ch) ?_ ?_
      · refine Runs.setItem (d:=.str (c1.dropLast ++ d1.tail)) (i:=((kk:Nat):Int) - 1) (by repeat constructor) (Ev.bin (Ev.slice (Ev.ownItem (by repeat constructor) (by kernel_rfl) (Ev.bin Ev.nm Ev.int BQ.sub) (by exact o233 hml hxm hki) (by exact o235 hn hml hki) g1 (fun ψ ψ=>by rfl)) .none (.some (Ev.un Ev.int UnOk.neg)) .none hs1 (fun ψ ψ=>⟨_,by rfl⟩))
          (Ev.slice (Ev.ownItem (by repeat constructor) (by kernel_rfl) Ev.nm (by exact o28) (by exact o238 hn hml hki) g2 (fun ψ ψ=>by rfl)) (.some Ev.int) .none .none hs2 (fun ψ ψ=>⟨_,by rfl⟩)) (BQ.cat (by rw [List.length_dropLast,List.length_tail]; exact o240 hc1l hd1l hd1p))) (Ev.bin Ev.nm Ev.int BQ.sub) ?_ (by exact o233 hml hxm hki) (by rw [hl1]; exact o242 htl) (by exact o235 hn hml hki) (fun ψ=>by rfl)
        have e:(p ++ (c1.dropLast ++ d1.tail) :: d1 :: t).map V.str = (p.map V.str ++ V.str c1 :: V.str d1 :: t.map V.str).set (((kk:Nat):Int) - 1).toNat (.str (c1.dropLast ++ d1.tail)):=by
          rw [show (((kk:Nat):Int) - 1).toNat = (p.map V.str).length by exact o243 hpl,set_mid,List.map_append]; rfl
        unfold hst
        rw [e]
        repeat constructor
      · have e0:(p ++ (c1.dropLast ++ d1.tail) :: d1 :: t).map V.str = p.map V.str ++ V.str (c1.dropLast ++ d1.tail) :: V.str d1 :: t.map V.str:=by rw [List.map_append]; rfl
        unfold hst
        rw [e0]
        have hl2:(p.map V.str ++ V.str (c1.dropLast ++ d1.tail) :: V.str d1 :: t.map V.str).length = p.length + (t.length + 2):=by simp
        refine RQ.one (Runs.delItem (i:=((kk:Nat):Int)) (by repeat constructor) Ev.nm ?_ (by exact o28) (by rw [hl2]; exact o246 htl) (by exact o247 hn hml hki) (by rw [hl2]; exact o248 hn hn1))
        have e:(p ++ (c1.dropLast ++ d1.tail) :: t).map V.str = (p.map V.str ++ V.str (c1.dropLast ++ d1.tail) :: V.str d1 :: t.map V.str).eraseIdx ((kk:Nat):Int).toNat:=by
          rw [show ((kk:Nat):Int).toNat = (p.map V.str).length + 1 by exact o249 hml hxm hki hpl,erase_mid,List.map_append]; rfl
        rw [e]
        repeat constructor
    · rw [if_neg hlt]
      rw [decide_eq_false hlt] at hcond
      rw [hown]
      exact RQ.one (Runs.ifF (EvT.cmp (Ev.item (Ev.ownItem (by repeat constructor) (by kernel_rfl) (Ev.bin Ev.nm Ev.int BQ.sub) (by exact o233 hml hxm hki) (by exact o235 hn hml hki) g1 (fun ψ ψ=>by rfl)) (Ev.un Ev.int UnOk.neg) (IQ.str (by decide) (by decide) (chAt_last hc1)) (fun ψ ψ=>by rfl))
        (Ev.item (Ev.ownItem (by repeat constructor) (by kernel_rfl) Ev.nm (by exact o28) (by exact o238 hn hml hki) g2 (fun ψ ψ=>by rfl)) Ev.int (IQ.str (by decide) (by decide) hd0) (fun ψ ψ=>by rfl)) hcond (by rfl)) RQ.nil)
end
structure Br where
  b:Bool
  w:List Nat
noncomputable def Br.q (x:Br):List Nat:=if x.b then [33] else []
noncomputable def Br.u (x:Br):List Nat:=x.q ++ x.w
noncomputable def Br.txt (x:Br):List Nat:=91 :: (x.u ++ [93])
noncomputable def Br.mid (x:Br):List Nat:=x.q ++ (keepA (parse x.w)).flatMap outA
noncomputable def Br.out (x:Br):List Nat:=91 :: insideOf x.b x.w ++ [93]
structure BrOk (x:Br):Prop where
  ne:x.w≠[]
  len:x.w.length≤100
  ch:∀ c∈x.w,c≠93∧c≠92∧c≠33∧c≠91∧c≠94
  keep:keepA (parse x.w)≠[]
noncomputable def patOf (l:List Br):List Nat:=l.flatMap Br.txt
theorem atoms_ok {s:List Nat} {p:Nat→Prop} (h:∀ c∈s,p c):∀ x∈keepA (parse s),(match x with | .one c=>p c | .rng a b=>p a∧p b):=by
  intro x hx
  have hx:x∈parse s:=(List.mem_filter.mp hx).1
  obtain ⟨m1,m2⟩:=mem_parse s
  cases x with
  | one c=>exact h c (m1 c hx)
  | rng a b=>exact ⟨h a (m2 a b hx).1,h b (m2 a b hx).2⟩
theorem BrOk.atoms {x:Br} (h:BrOk x):∀ y∈keepA (parse x.w),AtomOk y:=by
  intro y hy
  have:=atoms_ok (p:=fun c=>c≠92) (fun c hc=>(h.ch c hc).2.1) y hy
  cases y <;> exact this
theorem q_len (x:Br):x.q.length = if x.b then 1 else 0:=by unfold Br.q; cases x.b <;> rfl
theorem u_len (x:Br):x.u.length = (if x.b then 1 else 0) + x.w.length:=by unfold Br.u; rw [List.length_append,q_len]
theorem escL_q (x:Br):escL x.q = x.q:=by unfold Br.q; cases x.b <;> rfl
theorem amp_q (x:Br):amp x.q = x.q:=by unfold Br.q; cases x.b <;> rfl
theorem u_ok {x:Br} (h:BrOk x):∀ c∈x.u,c≠93∧c≠92:=by
  intro c hc
  rcases List.mem_append.mp hc with q | q
  · unfold Br.q at q
    split at q
    · rw [List.mem_singleton.mp q]; decide
    · cases q
  · exact ⟨(h.ch c q).1,(h.ch c q).2.1⟩
theorem end_chunks {x:Br} (h:BrOk x):joinL [45] ((remC (fin x.q x.w)).map escL) = x.mid∧(∀ c∈remC (fin x.q x.w),92 ∉ c)∧(∀ c∈remC (fin x.q x.w),c.length≤1000)∧(remC (fin x.q x.w)).length≤1000∧(fin x.q x.w).length≤1000∧(fin x.q x.w).flatten.length≤1000:=by
  have hp:=parse_len x.w
  have hl:=h.len
  have hq:=q_len x
  have hq1:x.q.length≤1:=by rw [hq]; split <;> decide
  have h1:(fin x.q x.w).length≤1000:=by unfold fin; have:=chunk_count (parse x.w) x.q; exact o226 hp hl this
  have h2:(fin x.q x.w).flatten.length≤1000:=by unfold fin; rw [pre1_flat,List.length_append]; have:=chunkA_len (parse x.w); exact o227 hp hl hq1 this
  have h3:=remC_len (fin x.q x.w)
  have e:remC (fin x.q x.w) = pre1 x.q (hQ (keepA (parse x.w))):=remC_front _ _
  refine ⟨?_,?_,?_,by exact o228 h1 h3,h1,h2⟩
  · rw [e,join_front,escL_q]; rfl
  · intro c hc h92
    rw [e] at hc
    have:92∈(pre1 x.q (hQ (keepA (parse x.w)))).flatten:=List.mem_flatten.mpr ⟨c,hc,h92⟩
    rw [pre1_flat] at this
    rcases List.mem_append.mp this with q | q
    · exact (u_ok h 92 (List.mem_append_left _ q)).2 rfl
    · exact chunk_free (p:=fun c=>c≠92) (atoms_ok (p:=fun c=>c≠92) fun c hc=>(h.ch c hc).2.1) 92 q rfl
  · intro c hc
    have:=mem_flat hc
    exact o221 h2 h3 this
noncomputable abbrev tst (pat:List Nat) (ds:List V) (i:Int) (N:Nat) (c j stuff:Slot):Store:=
  [("pat",.val (.str pat)),("STAR",.val .obj),("QUESTION_MARK",.val (.str (L "."))),("res",.own ds),("add",.app "res"),("i",.val (.int i)),("n",.val (.int (N:Nat))),("c",c),("j",j),("stuff",stuff),("chunks",.unset),("k",.unset),("chunk",.unset)]
section
variable {W:Wo} {n:Nat} {T:TC}
theorem hyphen {R:Addr} (G:GT W T R) {pre post pat:List Nat} {x:Br} {ds:List V} {N:Nat} (hpat:pat = pre ++ 91 :: (x.u ++ 93 :: post)) (hx:BrOk x) (hz:pat.length≤100000) :
    ∃ i:Int,TQ T W (n + 2) (fQ (nth pw 9)) hyph (tst pat ds (pre.length + 1:Nat) N (.val (.str [91])) (.val (.int ((pre.length + 1 + x.u.length:Nat):Int))) (.val (.str x.u))) (.next (tst pat ds i N (.val (.str [91])) (.val (.int ((pre.length + 1 + x.u.length:Nat):Int))) (.val (.str x.mid)))):=by
  have e45:L "-" = [45]:=by kernel_rfl
  obtain ⟨U,hU⟩:∃ U,U = pre ++ [91]:=⟨_,rfl⟩
  have hUl:U.length = pre.length + 1:=by rw [hU]; simp
  have hp:pat = U ++ ((x.q ++ x.w) ++ (93 :: post)):=by rw [hpat,hU]; unfold Br.u; simp
  have hwne:=hx.ne
  have hwl:=hx.len
  obtain ⟨w0,wr,hw⟩:=List.exists_cons_of_ne_nil hwne
  have hul:x.u.length = x.q.length + x.w.length:=by unfold Br.u; rw [List.length_append]
  have hpl:pat.length = pre.length + 1 + x.u.length + 1 + post.length:=by rw [hpat]; simp; exact o231
  obtain ⟨U',ch,D',h1,h2,h3,h4,h5⟩:=cutting (W:=W) (n:=n) (pat:=pat) (ds:=ds) (N:=N) (c:=.val (.str [91])) (stuff:=.val (.str x.u)) (Z:=93 :: post) (j:=pre.length + 1 + x.u.length) .val .val hz x.w.length U x.q x.w [] (Nat.le_refl _) (by simp; exact o232 hwl) (by rw [hw]; simp) hp (by rw [hUl,List.length_append,hul])
  obtain ⟨ec,ef,el,en,ecl,ecf⟩:=end_chunks hx
  obtain ⟨k,hk,hm⟩:=merging (W:=W) (n:=n) G (pat:=pat) (ds:=ds) (N:=N) (j:=pre.length + 1 + x.u.length) (c:=.val (.str [91])) (stuff:=.val (.str x.u)) (k0:=.val (.int (-1))) (ch:=.val (.str ch)) (i:=(U'.length:Nat)) (q:=x.q) (as:=parse x.w) .val .val .val .val ecl ecf
  refine ⟨(U'.length:Nat),?_⟩
  refine TQ.con (Runs.assignOwn (ds:=([]:List (List Nat)).map V.str) (EvNew.list Evs.nil (by decide)) (by repeat constructor) (by exact noApp.of rfl) (fun ψ=>by rfl)) ?_
  refine TQ.con (σ':=hst pat ds N (.val (.str [91])) (.val (.str x.u)) (U.length:Nat) (pre.length + 1 + x.u.length) [] (.val (.int ((U.length + x.q.length + 1:Nat):Int))) .unset) ?_ ?_
  · rw [hUl]
    refine Runs.assign (Ev.ite (c:=x.b) (EvT.cmp (Ev.item Ev.nm Ev.nm (IQ.str (c:=if x.b then 33 else w0) (by exact o234) (by exact o236 hz hwl hpl) ?_) (fun ψ ψ=>by rfl)) Ev.str (CQ.eqs ?_) (by rfl)) (fun h=>Ev.bin Ev.nm Ev.int ?_) (fun h=>Ev.bin Ev.nm Ev.int ?_)) (by repeat constructor) (by exact noApp.of rfl) (fun ψ=>by rfl)
    · rw [chAt_nat (l:=pat) (k:=pre.length + 1) 0 (by exact o237 hwl hpl) rfl,hp,List.getElem?_append_right (by omega),hUl,Nat.sub_self,hw]
      unfold Br.q
      cases x.b <;> rfl
    · have hw0:=(hx.ch w0 (by rw [hw]; exact List.mem_cons_self ..)).2.2.1
      rw [show L "!" = [33] by kernel_rfl]
      cases x.b
      · exact beq_false_of_ne (by intro e; injection e with e _; exact hw0 e)
      · rfl
    · rw [q_len,h,if_pos rfl]; exact BQ.add
    · rw [q_len,h,if_neg (by decide),Nat.add_zero]; exact BQ.add
  refine TQ.con (Runs.while h1) ?_
  refine TQ.con (Runs.assign (Ev.slice Ev.nm (.some Ev.nm) (.some Ev.nm) .none (slice_mid h2 rfl (by rw [h3]) hz) (fun ψ ψ=>⟨_,by rfl⟩)) (by repeat constructor) (by exact noApp.of rfl) (fun ψ=>by rfl)) ?_
  have hchl:ch.length≤16777216:=by exact o239 hz hwl hpl h3
  refine TQ.con (σ':=hst pat ds N (.val (.str [91])) (.val (.str x.u)) (U'.length:Nat) (pre.length + 1 + x.u.length) (fin x.q x.w) (.val (.int (-1))) (.val (.str ch))) ?_ ?_
  · rcases h4 with ⟨hne,he⟩ | ⟨he0,D0,y,he1,he2⟩
    · have ht:=TruOk.str (W:=W) (l:=ch) hchl
      rw [show (!ch.isEmpty) = true by cases ch with | nil=>exact absurd rfl hne | cons a b=>rfl] at ht
      refine Runs.ifT (EvT.of Ev.nm ht (fun ψ ψ=>by rfl)) (RQ.one ?_)
      rw [List.nil_append] at he
      rw [he]
      unfold hst
      rw [show (D' ++ [ch]).map V.str = D'.map V.str ++ [V.str ch] by rw [List.map_append]; rfl]
      exact Runs.append (by repeat constructor) Ev.nm (by repeat constructor) (by rw [List.length_map]; simp at h5; exact o241 hwl h5) (by rfl) (fun ψ=>by rfl)
    · subst he0
      rw [List.nil_append] at he2
      rw [he1,he2]
      refine Runs.ifF (EvT.of Ev.nm (TruOk.str (W:=W) (l:=[]) (by decide)) (fun ψ ψ=>by rfl)) (RQ.one ?_)
      refine Runs.augLast (m0:=D0.length) (a:=.str y) (b:=.str [45]) (d:=.str (y ++ [45])) (by repeat constructor) (Ev.un Ev.int UnOk.neg) (by simp) (by simp) (by rw [← e45]; exact Ev.str) (InpOk.cat ?_) ?_ (fun ψ ψ ψ=>by rfl)
      · have:=mem_flat (l:=fin x.q x.w) (x:=y ++ [45]) (by rw [he2]; simp)
        rw [List.length_append] at this
        exact Nat.le_trans this (Nat.le_trans ecf (by decide))
      · unfold hst
        have e:(D0 ++ [y ++ [45]]).map V.str = ((D0 ++ [y]).map V.str).set D0.length (.str (y ++ [45])):=by
          rw [List.map_append,List.map_append,show D0.length = (D0.map V.str).length by rw [List.length_map]]
          exact (set_mid _ _ _ []).symm
        rw [e]
        repeat constructor
  refine TQ.con hm ?_
  refine TQ.freeze (x:="chunks") (by repeat constructor) (by repeat constructor) ?_
  refine TQ.cons (RunsT.joinGen (cs:=remC (pre1 x.q (hQ (parse x.w)))) G.here G.tb (by repeat constructor) (by kernel_rfl) ef el en (by rw [G.tpos]; kernel_rfl) (by rfl) (fun env he=>by cases env; cases he; kernel_rfl) (by decide +kernel) (by kernel_rfl) (by kernel_rfl) (by kernel_rfl) (by rfl) (fun ψ ψ=>by rfl) (by rfl) (by rfl) (by rfl) (fun ψ=>by rfl) (fun ψ=>by rfl) (fun ψ=>by rfl) (fun ψ=>by rfl) (by repeat constructor) (by repeat first | exact noApp.of rfl | refine noApp.plain (by assumption) ?_ | refine noApp.val ?_ | refine noApp.unset ?_ | refine noApp.own ?_ | refine noApp.app (by decide) ?_) (fun ψ=>by rfl)) ?_
  rw [show joinL [45] ((remC (pre1 x.q (hQ (parse x.w)))).map escL) = x.mid from ec]
  exact TQ.forget (by (repeat (first | exact Wk.nil | with_reducible refine Wk.same ?_ | with_reducible refine Wk.drop ?_))) TQ.nil
end
theorem chAt_mid {pre rest:List Nat} {c:Nat} {i:Int} (hi:i = (pre.length:Nat)):chAt (pre ++ c :: rest) i = some c:=by
  rw [chAt_nat (k:=pre.length) 0 (by simp) hi]
  simp
theorem chAt_in {pre v post:List Nat} {m c:Nat} {i:Int} (hc:v[m]? = some c) (hi:i = ((pre.length + 1 + m:Nat):Int)):chAt (pre ++ 91 :: (v ++ post)) i = some c:=by
  have hm:m < v.length:=(List.getElem?_eq_some_iff.mp hc).1
  rw [chAt_nat (k:=pre.length + 1 + m) 0 (by simp; omega) hi]
  have:(pre ++ 91 :: (v ++ post))[pre.length + 1 + m]? = some c:=by
    rw [List.getElem?_append_right (by exact o12),show pre.length + 1 + m - pre.length = m + 1 by omega,List.getElem?_cons_succ,List.getElem?_append_left hm,hc]
  rw [this]; rfl
theorem outA_len (as:List Atom):(as.flatMap outA).length≤6 * as.length:=by
  induction as with
  | nil=>exact Nat.le_refl _
  | cons x l ih=>
    rw [List.flatMap_cons,List.length_append,List.length_cons]
    have hE:∀ c,(escC c).length≤2:=fun c=>by
      unfold escC
      split
      · exact Nat.le_refl _
      · split
        · exact Nat.le_refl _
        · exact (by decide:1≤2)
    have:(outA x).length≤6:=by
      cases x with
      | one c=>exact Nat.le_trans (hE c) (by decide)
      | rng a b=>have:=hE a; have:=hE b; unfold outA; simp only [List.length_append,List.length_cons,List.length_nil]; exact o244 (by assumption) this
    exact o245 ih this
theorem keep_len (as:List Atom):(keepA as).length≤as.length:=List.length_filter_le ..
theorem amp_mid {x:Br} (h:BrOk x):amp x.mid = x.q ++ (keepA (parse x.w)).flatMap outS:=by
  unfold Br.mid
  rw [amp_app,amp_q,amp_out h.atoms]
theorem mid_plain {x:Br} (h:BrOk x) (h45:45 ∉ x.w):x.mid = x.u:=by
  unfold Br.mid Br.u
  congr 1
  rw [parse_end fun q=>h45 (List.mem_of_mem_tail q)]
  have:∀ l:List Nat,(∀ c∈l,c≠45∧c≠92)→(keepA (l.map Atom.one)).flatMap outA = l:=by
    intro l
    induction l with
    | nil=>intro _; rfl
    | cons c l ih=>
      intro hl
      have e:keepA ((c :: l).map Atom.one) = Atom.one c :: keepA (l.map Atom.one):=rfl
      rw [e,List.flatMap_cons,ih fun d hd=>hl d (List.mem_cons_of_mem _ hd)]
      have hc:=hl c (List.mem_cons_self ..)
      show escC c ++ l = c :: l
      unfold escC
      rw [if_neg hc.2,if_neg hc.1]; rfl
  exact this _ fun c hc=>⟨fun e=>h45 (e ▸ hc),(h.ch c hc).2.1⟩
section
variable {W:Wo} {n:Nat} {T:TC}
theorem turn {R:Addr} (G:GT W T R) {pre post pat:List Nat} {x:Br} {ds:List V} {N:Nat} (hpat:pat = pre ++ 91 :: (x.u ++ 93 :: post)) (hx:BrOk x) (hN:pat.length = N) (hz:N≤100000) (hds:ds.length≤1000) :
    TQ T W (n + 2) (fQ (nth pw 9)) tbody (tst pat ds (pre.length:Nat) N .unset .unset .unset) (.next (tst pat (ds ++ [.str x.out]) (pre.length + 1 + x.u.length + 1:Nat) N .unset .unset .unset)):=by
  have hlen:N = pre.length + 1 + x.u.length + 1 + post.length:=by rw [← hN,hpat]; simp; exact o231
  obtain ⟨w0,wr,hw⟩:=List.exists_cons_of_ne_nil hx.ne
  have hw0:=hx.ch w0 (by rw [hw]; exact List.mem_cons_self ..)
  have hwpos:0 < x.w.length:=by rw [hw]; exact Nat.succ_pos _
  have hwl:=hx.len
  have c0:chAt pat ((pre.length:Nat):Int) = some 91:=by rw [hpat]; exact chAt_mid rfl
  have cIn:∀ (m c:Nat),(x.u ++ [93])[m]? = some c→chAt pat ((pre.length + 1 + m:Nat):Int) = some c:=fun m c h=>by
    rw [hpat,show x.u ++ 93 :: post = (x.u ++ [93]) ++ post by simp]; exact chAt_in h rfl
  refine TQ.con (Runs.assign (Ev.item Ev.nm Ev.nm (IQ.str (by exact o85) (by exact o250 hz hlen) c0) (fun ψ ψ=>by rfl)) (by repeat constructor) (by exact noApp.of rfl) (fun ψ=>by rfl)) ?_
  refine TQ.con (Runs.assign (Ev.bin (c:=.int ((pre.length + 1:Nat):Int)) Ev.nm Ev.int BQ.add) (by repeat constructor) (by exact noApp.of rfl) (fun ψ=>by rfl)) ?_
  have e33:L "!" = [33]:=by kernel_rfl
  have e94:L "^" = [94]:=by kernel_rfl
  have e91:L "[" = [91]:=by kernel_rfl
  have e93:L "]" = [93]:=by kernel_rfl
  have e92:L "\\" = [92]:=by kernel_rfl
  obtain ⟨F,hF⟩:∃ F,F = (keepA (parse x.w)).flatMap outS:=⟨_,rfl⟩
  obtain ⟨d,r,hdr,hd94,hd33,hd91⟩:=out_head (s:=x.w) (fun c hc=>⟨(hx.ch c hc).2.2.2.2,(hx.ch c hc).2.2.1,(hx.ch c hc).2.2.2.1⟩) hx.keep
  rw [← hF] at hdr
  have hin:insideOf x.b x.w = (if x.b then [94] else []) ++ F:=by unfold insideOf; rw [hF]
  have ham:amp x.mid = x.q ++ F:=by rw [amp_mid hx,hF]
  have hmidl:x.mid.length≤1000:=by
    unfold Br.mid
    have h1:=outA_len (keepA (parse x.w)); have h2:=keep_len (parse x.w); have h3:=parse_len x.w
    have hq:=q_len x
    have hq1:x.q.length≤1:=by rw [hq]; split <;> decide
    rw [List.length_append]; exact o251 hwl h1 h2 h3 hq1
  have hal:(amp x.mid).length≤2000:=Nat.le_trans (amp_len _) (by exact o252 hmidl)
  rw [ham] at hal
  refine TQ.cons (σ':=tst pat (ds ++ [.str x.out]) (pre.length + 1 + x.u.length + 1:Nat) N (.val (.str [91])) (.val (.int ((pre.length + 1 + x.u.length:Nat):Int))) (.val (.str (insideOf x.b x.w)))) ?_ (TQ.forget (σ':=tst pat (ds ++ [.str x.out]) (pre.length + 1 + x.u.length + 1:Nat) N .unset .unset .unset) (by (repeat (first | exact Wk.nil | with_reducible refine Wk.same ?_ | with_reducible refine Wk.drop ?_))) TQ.nil)
  refine RunsT.ifF (EvT.cmp Ev.nm Ev.str (CQ.eqs (by kernel_rfl)) (by rfl)) (TQ.one ?_)
  refine RunsT.ifF (EvT.cmp Ev.nm Ev.str (CQ.eqs (by kernel_rfl)) (by rfl)) (TQ.one ?_)
  refine RunsT.ifT (EvT.cmp Ev.nm Ev.str (CQ.eqs (by kernel_rfl)) (by rfl)) ?_
  refine TQ.con (Runs.assign Ev.nm (by repeat constructor) (by exact noApp.of rfl) (fun ψ=>by rfl)) ?_
  -- if j < n and pat[j] == '!'
  have hs0:(x.u ++ [93])[0]? = some (if x.b then 33 else w0):=by unfold Br.u Br.q; rw [hw]; cases x.b <;> rfl
  have ltT:∀ (m:Nat),m≤x.u.length→CQ W .Lt (.int ((pre.length + 1 + m:Nat):Int)) (.int (N:Nat)) true:=fun m hm=>CQ.lts (decide_eq_true (by omega))
  have hul:=u_len x
  refine TQ.con (σ':=tst pat ds (pre.length + 1:Nat) N (.val (.str [91])) (.val (.int ((pre.length + 1 + (if x.b then 1 else 0):Nat):Int))) .unset) ?_ ?_
  · cases hb:x.b
    · rw [hb] at hs0
      refine Runs.ifF (EvT.and (b:=true) (c:=false) (EvT.cmp Ev.nm Ev.nm (ltT 0 (Nat.zero_le _)) (by rfl)) fun ψ=>EvT.and (b:=false) (c:=true) (EvT.cmp (Ev.item Ev.nm Ev.nm (IQ.str (by exact o255) (by exact o256 hz hlen) (cIn 0 _ hs0)) (fun ψ ψ=>by rfl)) Ev.str (CQ.eqs ?_) (by rfl)) fun h=>by cases h) RQ.nil
      rw [e33]
      exact beq_false_of_ne fun e=>hw0.2.2.1 (by injection e)
    · rw [hb] at hs0
      rw [if_pos rfl]
      refine Runs.ifT (EvT.and (b:=true) (c:=true) (EvT.cmp Ev.nm Ev.nm (ltT 0 (Nat.zero_le _)) (by rfl)) fun ψ=>EvT.and (b:=true) (c:=true) (EvT.cmp (Ev.item Ev.nm Ev.nm (IQ.str (by exact o255) (by exact o256 hz hlen) (cIn 0 _ hs0)) (fun ψ ψ=>by rfl)) Ev.str (CQ.eqs (by rw [e33]; rfl)) (by rfl)) fun ψ=>EvT.and_nil) ?_
      exact RQ.one (Runs.assign (Ev.bin (c:=.int ((pre.length + 1 + 1:Nat):Int)) Ev.nm Ev.int BQ.add) (by repeat constructor) (by exact noApp.of rfl) (fun ψ=>by rfl))
  obtain ⟨s0,hs0e⟩:∃ s0,s0 = (if x.b then 1 else 0:Nat):=⟨_,rfl⟩
  rw [← hs0e]
  have hul:x.u.length = s0 + x.w.length:=by rw [u_len,hs0e]
  have hs1:(x.u ++ [93])[s0]? = some w0:=by rw [hs0e]; unfold Br.u Br.q; rw [hw]; cases x.b <;> rfl
  refine TQ.con (Runs.ifF (EvT.and (b:=true) (c:=false) (EvT.cmp Ev.nm Ev.nm (ltT s0 (by exact o260 (by assumption) hs0e)) (by rfl)) fun ψ=>EvT.and (b:=false) (c:=true) (EvT.cmp (Ev.item Ev.nm Ev.nm (IQ.str (by exact o261) (by exact o263 hz hlen (by assumption) hs0e) (cIn s0 _ hs1)) (fun ψ ψ=>by rfl)) Ev.str (CQ.eqs (by rw [e93]; exact beq_false_of_ne fun e=>hw0.1 (by injection e))) (by rfl)) fun h=>by cases h) RQ.nil) ?_
  refine TQ.con (σ':=tst pat ds (pre.length + 1:Nat) N (.val (.str [91])) (.val (.int ((pre.length + 1 + x.u.length:Nat):Int))) .unset) ?_ ?_
  · have hP1:∀ (m:Nat) (σ:Store),m < x.w.length→σ = tst pat ds (pre.length + 1:Nat) N (.val (.str [91])) (.val (.int ((pre.length + 1 + (s0 + m):Nat):Int))) .unset→EvT W (n + 2) (fQ (nth pw 9)) σ (whileTest (tbodyIf[3]?)) true∧∃ σ',RQ W (n + 2) (fQ (nth pw 9)) (whileOf (tbodyIf[3]?)) σ (.next σ')∧σ' = tst pat ds (pre.length + 1:Nat) N (.val (.str [91])) (.val (.int ((pre.length + 1 + (s0 + (m + 1)):Nat):Int))) .unset:=by
      rintro m σ hm rfl
      have hmu:s0 + m < x.u.length:=by exact o265 (by assumption) hs0e hm
      have hg:(x.u ++ [93])[s0 + m]? = some (x.u[s0 + m]'hmu):=by rw [List.getElem?_append_left hmu,List.getElem?_eq_getElem hmu]
      have hne:=(u_ok hx _ (List.getElem_mem hmu)).1
      refine ⟨EvT.and (b:=true) (c:=true) (EvT.cmp Ev.nm Ev.nm (ltT (s0 + m) (by exact o266 (by assumption) hs0e hm)) (by rfl)) fun ψ=>EvT.and (b:=true) (c:=true) (EvT.cmp (Ev.item Ev.nm Ev.nm (IQ.str (by exact o267) (by exact o268 hz hlen (by assumption) hs0e hm) (cIn (s0 + m) _ hg)) (fun ψ ψ=>by rfl)) Ev.str (CQ.nes (by rw [e93]; simpa using hne)) (by rfl)) fun ψ=>EvT.and_nil,_,RQ.one (Runs.assign (Ev.bin (c:=.int ((pre.length + 1 + (s0 + (m + 1)):Nat):Int)) Ev.nm Ev.int BQ.add) (by repeat constructor) (by exact noApp.of rfl) (fun ψ=>by rfl)),rfl⟩
    have hP2:∀ σ:Store,σ = tst pat ds (pre.length + 1:Nat) N (.val (.str [91])) (.val (.int ((pre.length + 1 + (s0 + x.w.length):Nat):Int))) .unset→EvT W (n + 2) (fQ (nth pw 9)) σ (whileTest (tbodyIf[3]?)) false:=by
      rintro σ rfl
      have hg:(x.u ++ [93])[s0 + x.w.length]? = some 93:=by
        rw [← hul,List.getElem?_append_right (Nat.le_refl _)]; simp
      exact EvT.and (b:=true) (c:=false) (EvT.cmp Ev.nm Ev.nm (ltT _ (by exact o269 (by assumption) hs0e)) (by rfl)) fun ψ=>EvT.and (b:=false) (c:=true) (EvT.cmp (Ev.item Ev.nm Ev.nm (IQ.str (by exact o267) (by exact o270 hz hlen (by assumption) hs0e) (cIn _ _ hg)) (fun ψ ψ=>by rfl)) Ev.str (CQ.nes (by rw [e93]; rfl)) (by rfl)) fun h=>by cases h
    obtain ⟨σ',rfl,hL⟩:=WhL.inv (fun m σ=>σ = tst pat ds (pre.length + 1:Nat) N (.val (.str [91])) (.val (.int ((pre.length + 1 + (s0 + m):Nat):Int))) .unset) x.w.length hP1 hP2 x.w.length 0 _ (by exact o32) rfl
    rw [hul]
    exact Runs.while hL
  refine TQ.one ?_
  refine RunsT.ifF (EvT.cmp Ev.nm Ev.nm (CQ.ges (decide_eq_false (by omega))) (by rfl)) ?_
  -- stuff = pat[i:j]
  have hsl:SQ W (.str pat) (some ((pre.length + 1:Nat):Int)) (some ((pre.length + 1 + x.u.length:Nat):Int)) none (.str x.u):=
    slice_mid (U:=pre ++ [91]) (Z:=93 :: post) (by rw [hpat]; simp) (by simp) (by simp) (by exact o271 hN hz)
  refine TQ.con (Runs.assign (Ev.slice Ev.nm (.some Ev.nm) (.some Ev.nm) .none hsl (fun ψ ψ=>⟨_,by rfl⟩)) (by repeat constructor) (by exact noApp.of rfl) (fun ψ=>by rfl)) ?_
  have hin45:CQ W .NotIn (.str (L "-")) (.str x.u) (!decide (45∈x.w)):=by
    have:=CQ.notIn_str (W:=W) (a:=L "-") (b:=x.u)
    rw [show L "-" = [45] by kernel_rfl,isIn_one] at this
    have e:decide (45∈x.u) = decide (45∈x.w):=by
      unfold Br.u Br.q
      cases x.b <;> simp
    rw [e] at this
    rwa [show L "-" = [45] by kernel_rfl]
  obtain ⟨i1,hbr⟩:∃ i1:Int,RunsT T W (n + 2) (fQ (nth pw 9)) ((elseOf (tbodyIf.drop 4))[1]?.getD default) (tst pat ds (pre.length + 1:Nat) N (.val (.str [91])) (.val (.int ((pre.length + 1 + x.u.length:Nat):Int))) (.val (.str x.u))) (.next (tst pat ds i1 N (.val (.str [91])) (.val (.int ((pre.length + 1 + x.u.length:Nat):Int))) (.val (.str x.mid)))):=by
    by_cases h45:45∈x.w
    · obtain ⟨i1,hh⟩:=hyphen (n:=n) G (ds:=ds) (N:=N) hpat hx (by exact o271 hN hz)
      rw [decide_eq_true h45] at hin45
      exact ⟨i1,RunsT.ifF (EvT.cmp Ev.str Ev.nm hin45 (by rfl)) hh⟩
    · rw [decide_eq_false h45] at hin45
      have h92:KQ W (n + 2) (.builtin "str.replace") [.str x.u,.str (L "\\"),.str (L "\\\\")] (.str x.u):=by rw [e92]; exact KQ.replace_none fun h=>(u_ok hx _ h).2 rfl
      refine ⟨(pre.length + 1:Nat),.of (Runs.ifT (EvT.cmp Ev.str Ev.nm hin45 (by rfl)) ?_)⟩
      rw [mid_plain hx h45]
      exact RQ.one (Runs.assign (Ev.meth Ev.nm (.cons Ev.str (Evs.one Ev.str (fun ψ=>by rfl)) (fun ψ=>by rfl)) HQ.str mRQ h92 (fun ψ=>by rfl) (by rfl) (by decide)) (by repeat constructor) (by exact noApp.of rfl) (fun ψ=>by rfl))
  refine TQ.cons hbr ?_
  have hbody:LamBody W n (lamScope) "_m" lamExpr:=by
    intro h k m l j c hm hc
    have:=BQ.cat (W:=W.at h k) (a:=L "\\") (b:=[c]) (by rw [e92]; simp)
    rw [e92] at this
    refine Ev.bin Ev.str (Ev.or1 (Ev.group (by repeat constructor) (by kernel_rfl) hm hc (fun ψ=>by rfl) (by rfl) (fun ψ=>by rfl)) (TruOk.str (by simp))) ?_
    rw [e92]; exact this
  refine TQ.cons (RunsT.sub (l:=x.mid) G.tpos.symm G.here G.tb (by repeat constructor) (by kernel_rfl) (by omega) (by kernel_rfl) G.re G.isPat (by kernel_rfl) hbody (fun ψ=>by rfl) (fun env he=>by cases env; cases he; kernel_rfl) (fun fd h1 h2 h3 v=>by cases fd; cases h1; cases h2; cases h3; kernel_rfl) (fun ψ=>by rfl) (by rfl) (fun ψ=>by rfl) (by repeat constructor) (by exact noApp.of rfl) (fun ψ=>by rfl)) ?_
  rw [ham]
  refine TQ.con (Runs.assign (Ev.bin (c:=.int ((pre.length + 1 + x.u.length + 1:Nat):Int)) Ev.nm Ev.int BQ.add) (by repeat constructor) (by exact noApp.of rfl) (fun ψ=>by rfl)) ?_
  have hne:(x.q ++ F).isEmpty = false:=by rw [hdr]; unfold Br.q; cases x.b <;> rfl
  have h33:(x.q ++ F == L "!") = false:=by
    rw [e33,hdr]
    unfold Br.q
    cases x.b
    · exact beq_false_of_ne (by intro e; injection e with e1 _; exact hd33 e1)
    · exact beq_false_of_ne (by intro e; injection e with _ e2; cases e2)
  refine TQ.of (RQ.cons (Runs.ifF (EvT.not (b:=true) (EvT.of Ev.nm ?_ (fun ψ ψ=>by rfl))) ?_) RQ.nil)
  · have:=TruOk.str (W:=W) (l:=x.q ++ F) (by exact o272 hal)
    rwa [hne] at this
  refine RQ.one (Runs.ifF (EvT.cmp Ev.nm Ev.str (CQ.eqs h33) (by rfl)) ?_)
  refine RQ.cons (σ':=tst pat ds (pre.length + 1 + x.u.length + 1:Nat) N (.val (.str [91])) (.val (.int ((pre.length + 1 + x.u.length:Nat):Int))) (.val (.str (insideOf x.b x.w)))) ?_ ?_
  · rw [hin]
    cases hb:x.b
    · have hq0:x.q = []:=by unfold Br.q; rw [hb]; rfl
      rw [hq0] at hal ⊢
      rw [if_neg (by decide),List.nil_append]
      have hch:chAt F 0 = some d:=by rw [hdr]; exact chAt_mid (pre:=[]) rfl
      rw [List.nil_append] at hal
      refine Runs.ifF (EvT.cmp (Ev.item Ev.nm Ev.int (IQ.str (c:=d) (by decide) (by decide) hch) (fun ψ ψ=>by rfl)) Ev.str (CQ.eqs (by rw [e33]; exact beq_false_of_ne fun e=>hd33 (by injection e))) (by rfl)) ?_
      refine RQ.one (Runs.ifF (EvT.cmp (c:=false) (Ev.item Ev.nm Ev.int (IQ.str (c:=d) (by decide) (by decide) hch) (fun ψ ψ=>by rfl)) (Ev.tup (ds:=[L "^",L "["].map V.str) (.cons Ev.str (Evs.one Ev.str (fun ψ=>by rfl)) (fun ψ=>by rfl)) (by decide)) ?_ (by rfl)) RQ.nil)
      have:=CQ.in_tup (W:=W) (x:=[d]) (ls:=[L "^",L "["])
      rwa [show ([L "^",L "["].any (· == [d])) = false by
        rw [e94,e91,List.any_cons,List.any_cons,List.any_nil,beq_false_of_ne (a:=[94]) (b:=[d]) (fun e=>hd94 (by injection e with e _; exact e.symm)),beq_false_of_ne (a:=[91]) (b:=[d]) (fun e=>hd91 (by injection e with e _; exact e.symm))]; rfl] at this
    · have hq0:x.q = [33]:=by unfold Br.q; rw [hb]; rfl
      rw [hq0] at hal ⊢
      rw [if_pos rfl]
      refine Runs.ifT (EvT.cmp (Ev.item Ev.nm Ev.int (IQ.str (c:=33) (by decide) (by decide) ?_) (fun ψ ψ=>by rfl)) Ev.str (CQ.eqs (by kernel_rfl)) (by rfl)) ?_
      · exact chAt_mid (pre:=[]) rfl
      refine RQ.one (Runs.assign (d:=.str ([94] ++ F)) (Ev.bin Ev.str (Ev.slice (c:=.str F) Ev.nm (.some Ev.int) .none .none ?_ (fun ψ ψ=>⟨_,by rfl⟩)) ?_) (by repeat constructor) (by exact noApp.of rfl) (fun ψ=>by rfl))
      · have:=SQ.str (W:=W) (l:=[33] ++ F) (lo:=some 1) (hi:=none) (st:=none) (by decide) (by exact o272 hal)
        rw [show (some 1:Option Int) = some ((1:Nat):Int) from rfl,sl_from _ (by simp)] at this
        exact this
      · have:=BQ.cat (W:=W) (a:=L "^") (b:=F) (by rw [e94]; rw [List.length_append] at hal; simp only [List.length_cons,List.length_nil] at hal ⊢; omega)
        rw [e94] at this ⊢
        exact this
  have hout:x.out = L "[" ++ insideOf x.b x.w ++ L "]":=by rw [e91,e93]; rfl
  rw [hout]
  refine RQ.one (Runs.addCall (by repeat constructor) (by repeat constructor) (Ev.fstr Ev.nm ?_) (by repeat constructor) (by exact o117 hds) (fun ψ=>by rfl))
  rw [e91,e93,hin]
  rw [List.length_append] at hal
  cases x.b <;> simp only [if_true,Bool.false_eq_true,if_false,List.length_append,List.length_cons,List.length_nil] <;> (first | exact o273 hal | exact o274 hal)
end
theorem patOf_at {l:List Br} {k:Nat} (hk:k < l.length):patOf l = patOf (l.take k) ++ 91 :: ((l[k]).u ++ 93 :: patOf (l.drop (k + 1))):=by
  unfold patOf
  conv=>lhs; rw [← List.take_append_drop k l,List.drop_eq_getElem_cons hk]
  rw [List.flatMap_append,List.flatMap_cons]
  simp [Br.txt]
theorem patOf_succ {l:List Br} {k:Nat} (hk:k < l.length):(patOf (l.take (k + 1))).length = (patOf (l.take k)).length + 1 + (l[k]).u.length + 1:=by
  unfold patOf
  rw [List.take_add_one,List.getElem?_eq_getElem hk,List.flatMap_append]
  simp [Br.txt]; exact o253
theorem patOf_len (l:List Br) (h:∀ x∈l,BrOk x):(patOf l).length≤104 * l.length:=by
  unfold patOf
  induction l with
  | nil=>simp
  | cons x l ih=>
    rw [List.flatMap_cons,List.length_append,List.length_cons]
    have:=ih fun y hy=>h y (List.mem_cons_of_mem _ hy)
    have h2:x.txt.length≤103:=by
      unfold Br.txt
      have:=u_len x
      have h3:=(h x (List.mem_cons_self ..)).len
      simp only [List.length_cons,List.length_append,List.length_nil]
      split at this <;> omega
    omega
section
variable {W:Wo} {n:Nat} {T:TC}
theorem fn__translate {R:Addr} (G:GT W T R) {brs:List Br} (hb:∀ x∈brs,BrOk x) (hz:brs.length≤20) :
    TQ T W (n + 2) (fQ (nth pw 9)) (fbody (nth pw 9)) (aQ ["pat","STAR","QUESTION_MARK"] [.str (patOf brs),.obj,.str (L ".")] ["res","add","i","n","c","j","stuff","chunks","k","chunk"]) (.ret (.list (brs.map fun x=>.str x.out))):=by
  have hN:(patOf brs).length≤104 * brs.length:=patOf_len brs hb
  show TQ T W _ _ _ [("pat",.val (.str (patOf brs))),("STAR",.val .obj),("QUESTION_MARK",.val (.str (L "."))),("res",.unset),("add",.unset),("i",.unset),("n",.unset),("c",.unset),("j",.unset),("stuff",.unset),("chunks",.unset),("k",.unset),("chunk",.unset)] _
  refine TQ.con (Runs.assignOwn (EvNew.list Evs.nil (by decide)) (by repeat constructor) (by exact noApp.of rfl) (fun ψ=>by rfl)) ?_
  refine TQ.con (Runs.assignApp (by repeat constructor) (by repeat constructor) (by exact noApp.of rfl) (fun ψ=>by rfl)) ?_
  refine TQ.con (Runs.swapped (xs:=["i","n"]) (ds:=[.int 0,.int ((patOf brs).length:Nat)]) (Ev.tup (.cons Ev.int (Evs.one (Ev.len G.toG1 (by kernel_rfl) Ev.nm (KQ.len_str (by omega)) (fun ψ=>by rfl)) (fun ψ=>by rfl)) (fun ψ=>by rfl)) (by simp)) (BindsR.cons (by repeat constructor) (by exact noApp.of rfl) (BindsR.cons (by repeat constructor) (by exact noApp.of rfl) BindsR.nil)) (fun ψ=>by rfl) (fun env he=>by cases env; cases he; kernel_rfl) rfl) ?_
  refine TQ.cons (RunsT.while (fun k σ=>σ = tst (patOf brs) ((brs.take k).map fun x=>.str x.out) ((patOf (brs.take k)).length:Nat) (patOf brs).length .unset .unset .unset) brs.length (tst (patOf brs) (brs.map fun x=>.str x.out) ((patOf brs).length:Nat) (patOf brs).length .unset .unset .unset) rfl ?_ ?_) ?_
  · rintro k σ hk rfl
    have hs:=patOf_succ hk
    have hat:=patOf_at hk
    have hlt:(patOf (brs.take k)).length < (patOf brs).length:=by rw [hat]; simp
    refine ⟨EvT.cmp Ev.nm Ev.nm (CQ.lts (decide_eq_true (by exact o29 hlt))) (by rfl),_,turn G hat (hb _ (List.getElem_mem hk)) rfl (by omega) (by rw [List.length_map,List.length_take]; exact o254 hz),?_⟩
    rw [hs,List.take_add_one,List.getElem?_eq_getElem hk,List.map_append]; rfl
  · rintro σ rfl
    rw [List.take_length]
    exact ⟨EvT.cmp Ev.nm Ev.nm (CQ.lts (decide_eq_false (by exact o107))) (by rfl),rfl⟩
  refine TQ.con (Runs.assertT (EvT.cmp (c:=true) Ev.nm Ev.nm ?_ (by rfl))) ?_
  · have:=CQ.eq_int (W:=W) (a:=(patOf brs).length) (b:=(patOf brs).length)
    rwa [beq_self_eq_true] at this
  refine TQ.of ?_
  refine RQ.forget (σ':=[("pat",.unset),("STAR",.unset),("QUESTION_MARK",.unset),("res",.own (brs.map fun x=>V.str x.out)),("add",.unset),("i",.unset),("n",.unset),("c",.unset),("j",.unset),("stuff",.unset),("chunks",.unset),("k",.unset),("chunk",.unset)]) (by (repeat (first | exact Wk.nil | with_reducible refine Wk.same ?_ | with_reducible refine Wk.drop ?_))) ?_
  refine RQ.freeze (by repeat constructor) (by repeat constructor) ?_
  exact RQ.ret (Runs.ret Ev.nm)
noncomputable def TC.away (T:TC):TC:={ T with here:=false }
structure GU (W:Wo) (T:TC) (R:Addr):Prop extends GT W T R where
  object:W.mg "object" = Option.none
  join:Fn W pw 10 "_join_translated_parts" ["inp","STAR"]
  tr:FnT W T pw 9 "_translate" ["pat","STAR","QUESTION_MARK"]
noncomputable def trOut (brs:List Br):List Nat:=L "(?s:" ++ joinL (L "") (brs.map Br.out) ++ L ")\\Z"
theorem fn_translate {R:Addr} (G:GU W T R) {brs:List Br} (hb:∀ x∈brs,BrOk x) (hw:∀ x∈brs,x.out.length≤200) (hz:brs.length≤20) :
    TQ T.away W (n + 3) (fQ (nth pw 4)) (fbody (nth pw 4)) (aQ ["pat"] [.str (patOf brs)] ["STAR","parts"]) (.ret (.str (trOut brs))):=by
  show TQ T.away W _ _ _ [("pat",.val (.str (patOf brs))),("STAR",.unset),("parts",.unset)] _
  refine TQ.con (Runs.assign (Ev.call (Ev.builtin (by kernel_rfl) G.object (by kernel_rfl)) Evs.nil (by trivial) KQ.object) (by repeat constructor) (by exact noApp.of rfl) (fun ψ=>by rfl)) ?_
  refine TQ.cons (RunsT.callFn (T:=T.away) (T':=T) ["res","add","i","n","c","j","stuff","chunks","k","chunk"] rfl rfl rfl G.tr (by kernel_rfl) (.cons Ev.nm (.cons Ev.nm (Evs.one Ev.str (fun ψ=>by rfl)) (fun ψ=>by rfl)) (fun ψ=>by rfl)) (by kernel_rfl) rfl (fn__translate G.toGT hb hz) (by repeat constructor) (by exact noApp.of rfl) (fun ψ=>by rfl)) ?_
  refine TQ.of (RQ.ret (Runs.ret ?_))
  have e:(brs.map fun x=>V.str x.out) = (brs.map Br.out).map V.str:=by rw [List.map_map]; rfl
  rw [e]
  refine Ev.fn ["res","add","i","n","fixed"] G.join (by kernel_rfl) (.cons Ev.nm (Evs.one Ev.nm (fun ψ=>by rfl)) (fun ψ=>by rfl)) (by kernel_rfl) rfl (fn_joined G.toG6 (by rw [List.length_map]; omega) ?_)
  intro y hy
  obtain ⟨x,hx,rfl⟩:=List.mem_map.mp hy
  exact hw x hx
end
section
open Builtin Builtin.Str StrLaws
theorem joinL_cons2 {sep p:List Nat} {ps:List (List Nat)} (h:ps≠[]):joinL sep (p :: ps) = p ++ sep ++ joinL sep ps:=by
  cases ps with
  | nil=>exact absurd rfl h
  | cons q r=>rfl
theorem at_mem {x:Str} {c d k:Nat} (h:At x (St [c,d]) x.length k):x.cps.toList[k]? = some c∧x.cps.toList[k + 1]? = some d:=by
  have h2:=h.2
  rw [subAt_eq] at h2
  have h3:=eq_of_beq h2
  have e:(St [c,d]).cps.toList = [c,d]:=rfl
  have e2:(St [c,d]).length = 2:=rfl
  rw [e,e2] at h3
  have h4:=congrArg (·[0]?) h3
  have h5:=congrArg (·[1]?) h3
  simp only [List.getElem?_take,List.getElem?_drop] at h4 h5
  exact ⟨by simpa using h4,by simpa using h5⟩
theorem at_of {x:Str} {c d a:Nat} {p t:List Nat} (h:x.cps.toList.drop a = p ++ [c,d] ++ t):At x (St [c,d]) x.length (a + p.length):=by
  have hl:=congrArg List.length h
  simp at hl
  have hn:x.cps.toList.length = x.length:=by simp [Str.length]
  have hn2:x.cps.size = x.length:=rfl
  refine ⟨by show a + p.length + 2≤x.length; omega,?_⟩
  rw [subAt_eq]
  have e:(St [c,d]).cps.toList = [c,d]:=rfl
  have e2:(St [c,d]).length = 2:=rfl
  rw [e,e2,← List.drop_drop,h]
  simp
theorem parts_join {x:Str} {c d:Nat}:∀ (parts:List (List Nat)) (a:Nat) (cuts:List Nat) (f:Nat),parts≠[]→(∀ p∈parts,c ∉ p)→a≤x.length→x.cps.toList.drop a = joinL [c,d] parts→ChainG x (St [c,d]) x.length a cuts f→(∀ k,f≤k→¬ At x (St [c,d]) x.length k) →
    partsFrom x 2 a cuts = parts.map St:=by
  intro parts
  induction parts with
  | nil=>intro a cuts f h; exact absurd rfl h
  | cons p ps ih=>
    intro a cuts f _ hf ha hd hG hn
    have hnl:x.cps.toList.length = x.length:=by simp [Str.length]
    have inP:∀ k,a≤k→k < a + p.length→At x (St [c,d]) x.length k→False:=by
      intro k h1 h2 hA
      have hp:p <+: x.cps.toList.drop a:=by
        rw [hd]
        cases ps with
        | nil=>exact List.prefix_rfl
        | cons q r=>rw [joinL_cons2 (by simp),List.append_assoc]; exact List.prefix_append _ _
      have h3:p[k - a]? = some c:=by
        have e1:=(at_mem hA).1
        obtain ⟨t,ht⟩:=hp
        have e2:(x.cps.toList.drop a)[k - a]? = some c:=by rw [List.getElem?_drop,show a + (k - a) = k by omega]; exact e1
        rw [← ht,List.getElem?_append_left (by omega)] at e2
        exact e2
      exact hf p (List.mem_cons_self ..) (List.mem_of_getElem? h3)
    cases ps with
    | nil=>
      have hd':x.cps.toList.drop a = p:=hd
      have hlen:a + p.length = x.length:=by
        have:=congrArg List.length hd'
        rw [List.length_drop,hnl] at this; exact o257 ha this
      have none:∀ k,a≤k→¬ At x (St [c,d]) x.length k:=fun k h1 hA=>by
        by_cases hk:k < a + p.length
        · exact inP k h1 hk hA
        · have:=hA.1
          have e2:(St [c,d]).length = 2:=rfl
          exact o258 hlen hk this e2
      cases cuts with
      | cons c' r=>exact absurd hG.2.1 (none c' hG.1)
      | nil=>
        show [strSub x a x.length] = [St p]
        congr 1
        apply Str.ext'
        apply Array.toList_inj.mp
        rw [strSub_toList,hd']
        rw [List.take_of_length_le (by exact o259 hlen)]
        rfl
    | cons q r=>
      rw [joinL_cons2 (by simp)] at hd
      have hA:=at_of hd
      cases cuts with
      | nil=>
        have ef:f = a:=hG
        exact absurd hA (hn _ (by omega))
      | cons c' r'=>
        obtain ⟨g1,g2,g3,g4⟩:=hG
        have hc:c' = a + p.length:=by
          rcases Nat.lt_trichotomy c' (a + p.length) with h | h | h
          · exact (inP c' g1 h g2).elim
          · exact h
          · exact absurd hA (g3 _ (by exact o45) h)
        subst hc
        have e2:(St [c,d]).length = 2:=rfl
        rw [e2] at g4
        show strSub x a (a + p.length) :: partsFrom x 2 (a + p.length + 2) r' = St p :: (q :: r).map St
        congr 1
        · apply Str.ext'
          apply Array.toList_inj.mp
          rw [strSub_toList,hd,show a + p.length - a = p.length by exact o262 g1,List.append_assoc,List.take_left]
          rfl
        · refine ih (a + p.length + 2) r' f (by simp) (fun p' hp'=>hf p' (List.mem_cons_of_mem _ hp')) ?_ ?_ g4 hn
          · have:=hA.1; exact o264 e2 this
          · rw [show a + p.length + 2 = a + (p.length + 2) by omega,← List.drop_drop,hd]
            rw [show p.length + 2 = (p ++ [c,d]).length by simp,List.drop_left]
theorem kind_pos (x:Str):1≤Builtin.Str.strKind x:=by
  unfold Builtin.Str.strKind
  split
  · decide
  · split <;> decide
theorem splitL_join {c d:Nat} (hc:c < 256) (hd:d < 256) {parts:List (List Nat)} (h2:parts≠[]) (hf:∀ p∈parts,c ∉ p):splitL (joinL [c,d] parts) [c,d] = parts:=by
  unfold splitL
  have key:Txt.split (St (joinL [c,d] parts)) (St [c,d]) = parts.map St:=by
    obtain ⟨f,hG,hn⟩:=occ_tight (St (joinL [c,d] parts)) (St [c,d]) (show 1≤2 by decide)
    have hx:(St (joinL [c,d] parts)).cps.toList.drop 0 = joinL [c,d] parts:=by simp [St]
    have main:=parts_join parts 0 _ f h2 hf (Nat.zero_le _) hx hG hn
    have hkind:Builtin.Str.strKind (St [c,d]) = 1:=by
      unfold Builtin.Str.strKind
      rw [if_pos]
      simp [St,hc,hd]
    have whole:∀ cuts,partsFrom (St (joinL [c,d] parts)) 2 0 cuts = parts.map St→cuts = []→[St (joinL [c,d] parts)] = parts.map St:=by
      intro cuts e e0
      subst e0
      rw [← e]
      show _ = [strSub _ 0 _]
      rw [sub_whole]
    unfold Txt.split
    split
    · rename_i hq
      have hlen:(St (joinL [c,d] parts)).length < 2:=by
        rw [Bool.or_eq_true,decide_eq_true_eq,decide_eq_true_eq,hkind] at hq
        rcases hq with h | h
        · exact h
        · have:=kind_pos (St (joinL [c,d] parts)); omega
      cases parts with
      | nil=>exact absurd rfl h2
      | cons p ps=>
        cases ps with
        | nil=>rfl
        | cons q r=>
          rw [St_len,joinL_cons2 (by simp)] at hlen
          simp at hlen
          omega
    · split
      · rename_i he
        exact whole _ main (List.isEmpty_iff.mp he)
      · rw [partsBetween_eq]; exact main
  rw [key,List.map_map]
  have:((fun x:Str=>x.cps.toList) ∘ St) = _root_.id:=by funext l; simp [St]
  rw [this,List.map_id]
end
theorem escT_append (T:List (String × String)):∀ a b:List Nat,T.foldl rs (a ++ b) = T.foldl rs a ++ T.foldl rs b:=by
  induction T with
  | nil=>exact fun ψ ψ=>rfl
  | cons p T ih=>
    intro a b
    rw [List.foldl_cons,List.foldl_cons,List.foldl_cons,← ih]
    unfold rs
    rw [rsub_append]
theorem escaped_append (way:Nat) (a b:List Nat):escaped way (a ++ b) = escaped way a ++ escaped way b:=escT_append _ a b
theorem escaped_nil (way:Nat):escaped way [] = []:=by
  unfold escaped
  induction escTable way with
  | nil=>rfl
  | cons p T ih=>rw [List.foldl_cons]; exact ih
theorem escaped_flatten (way:Nat):∀ ls:List (List Nat),escaped way ls.flatten = (ls.map (escaped way)).flatten
  | []=>escaped_nil way
  | l :: ls=>by rw [List.flatten_cons,escaped_append,escaped_flatten way ls]; rfl
theorem escaped_map {α:Type} (way:Nat) (g:α→Nat):∀ fs:List α,escaped way (fs.map g) = (fs.map fun f=>escaped way [g f]).flatten
  | []=>escaped_nil way
  | f :: fs=>by rw [List.map_cons,List.map_cons,List.flatten_cons,← escaped_map way g fs,← escaped_append]; rfl
noncomputable def signU:List Nat:=aBQ ++ markT
noncomputable def signB (way d:Nat):Bool:=escaped way [d] == sCQ way d && ((sCQ way d).length == 1 || (decide (4≤(sCQ way d).length) && !(sCQ way d).contains 45)) && decide ((sCQ way d).length≤6) && (sCQ way d).all fun c=>c != 93 && c != 92 && c != 33 && c != 91 && c != 94
theorem signs_all:(List.range 5).all (fun way=>signU.all (signB way)) = true:=by kernel_rfl
structure SignOk (way d:Nat):Prop where
  esc:escaped way [d] = sCQ way d
  piece:PieceOk (sCQ way d)
  len:(sCQ way d).length≤6
  ch:∀ c∈sCQ way d,c≠93∧c≠92∧c≠33∧c≠91∧c≠94
theorem sign_ok {way d:Nat} (hw:way < 5) (hd:d∈signU):SignOk way d:=by
  have h:=List.all_eq_true.mp (List.all_eq_true.mp signs_all way (List.mem_range.mpr hw)) d hd
  unfold signB at h
  simp only [Bool.and_eq_true,Bool.or_eq_true,beq_iff_eq,decide_eq_true_eq,List.all_eq_true,bne_iff_ne,Bool.not_eq_true',List.contains_eq_mem,decide_eq_false_iff_not] at h
  obtain ⟨⟨⟨h1,h2⟩,h3⟩,h4⟩:=h
  exact ⟨h1,h2,h3,fun c hc=>⟨(h4 c hc).1.1.1.1,(h4 c hc).1.1.1.2,(h4 c hc).1.1.2,(h4 c hc).1.2,(h4 c hc).2⟩⟩
theorem esc_fix:∀ way,way < 5→∀ d∈[91,93,33],escaped way [d] = [d]:=by decide +kernel
structure FigOk (fs marks:List Nat):Prop where
  four:fs.length = 4
  lt:∀ f∈fs,f < 64
  two:marks.length = 2
  mark:∀ m∈marks,m∈markT
theorem FigOk.sign {fs marks:List Nat} (h:FigOk fs marks) {f:Nat} (hf:f∈fs):(signsOf marks).getD f 0∈signU:=by
  have hl:f < (signsOf marks).length:=by unfold signsOf; rw [List.length_append,alpha62_len,h.two]; exact h.lt f hf
  have hm:(signsOf marks).getD f 0∈signsOf marks:=by rw [List.getD_eq_getElem?_getD,List.getElem?_eq_getElem hl]; exact List.getElem_mem _
  unfold signsOf at hm
  unfold signU
  rcases List.mem_append.mp hm with q | q
  · exact List.mem_append_left _ q
  · exact List.mem_append_right _ (h.mark _ q)
noncomputable def pieces (way:Nat) (fs marks:List Nat):List (List Nat):=fs.map fun f=>sCQ way ((signsOf marks).getD f 0)
theorem spelled_eq (way:Nat) (fs marks:List Nat):spelled way fs marks = (pieces way fs marks).flatten:=by
  unfold spelled
  rw [show L "" = [] by kernel_rfl,jNQ]; rfl
theorem esc_written {way:Nat} (hw:way < 5) {fs marks:List Nat} (h:FigOk fs marks):escaped way (written fs marks) = spelled way fs marks:=by
  rw [spelled_eq]
  unfold written pieces
  rw [escaped_map]
  congr 1
  exact List.map_congr_left fun f hf=>(sign_ok hw (h.sign hf)).esc
noncomputable def brOf (way:Nat) (marks fs:List Nat) (cell:Int):Br:=⟨cell.fmod 2 == 1,spelled way fs marks⟩
theorem fmod2 (c:Int):c.fmod 2 = 0∨c.fmod 2 = 1:=by
  have:=Int.fmod_nonneg_of_pos c (show (0:Int) < 2 by decide)
  have:=Int.fmod_lt_of_pos c (show (0:Int) < 2 by decide)
  omega
theorem esc_bracket {way:Nat} (hw:way < 5) {fs marks:List Nat} (h:FigOk fs marks) (cell:Int):escaped way (bracketL fs marks (cell.fmod 2)) = (brOf way marks fs cell).txt:=by
  have f:=esc_fix way hw
  unfold bracketL
  rw [escaped_append,escaped_append,escaped_append,f 91 (by decide),f 93 (by decide),esc_written hw h]
  unfold Br.txt Br.u Br.q brOf
  rcases fmod2 cell with e | e
  · rw [e]
    have:rep [33] 0 = []:=rfl
    rw [this,escaped_nil]; simp
  · rw [e]
    have:rep [33] 1 = [33]:=rfl
    rw [this,f 33 (by decide)]; simp
theorem bracket_len {fs marks:List Nat} (h:FigOk fs marks) (cell:Int):(bracketL fs marks (cell.fmod 2)).length≤7:=by
  unfold bracketL written
  have h1:(rep [33] (cell.fmod 2)).length≤1:=by rcases fmod2 cell with e | e <;> rw [e] <;> decide
  have:=h.four
  simp only [List.length_append,List.length_cons,List.length_nil,List.length_map]; omega
theorem flat_len {m:Nat}:∀ {ls:List (List Nat)},(∀ y∈ls,y.length≤m)→ls.flatten.length≤ls.length * m:=flatten_le
theorem brOf_ok {way:Nat} (hw:way < 5) {fs marks:List Nat} (h:FigOk fs marks) (cell:Int):BrOk (brOf way marks fs cell):=by
  have hp:∀ p∈pieces way fs marks,∃ d∈signU,p = sCQ way d:=fun p hp=>by
    obtain ⟨f,hf,rfl⟩:=List.mem_map.mp hp
    exact ⟨_,h.sign hf,rfl⟩
  have hpl:(pieces way fs marks).length = 4:=by unfold pieces; rw [List.length_map,h.four]
  have hk:keepA (parse (pieces way fs marks).flatten)≠[]:=keep_ne (fun p hp'=>by
    obtain ⟨d,hd,rfl⟩:=hp p hp'
    exact (sign_ok hw hd).piece) (by rw [hpl]; decide)
  refine ⟨?_,?_,?_,?_⟩
  · show spelled way fs marks≠[]
    rw [spelled_eq]
    intro e
    rw [e] at hk
    exact hk (by rw [parse]; rfl)
  · show (spelled way fs marks).length≤100
    rw [spelled_eq]
    have:=flat_len (m:=6) (ls:=pieces way fs marks) fun p hp'=>by
      obtain ⟨d,hd,rfl⟩:=hp p hp'
      exact (sign_ok hw hd).len
    omega
  · intro c hc
    have hc:c∈spelled way fs marks:=hc
    rw [spelled_eq] at hc
    obtain ⟨p,h1,h2⟩:=List.mem_flatten.mp hc
    obtain ⟨d,hd,rfl⟩:=hp p h1
    exact (sign_ok hw hd).ch c h2
  · show keepA (parse (spelled way fs marks))≠[]
    rw [spelled_eq]; exact hk
theorem brOf_w {way:Nat} (hw:way < 5) {fs marks:List Nat} (h:FigOk fs marks) (cell:Int):(brOf way marks fs cell).w.length≤24:=by
  show (spelled way fs marks).length≤24
  rw [spelled_eq]
  have:=flat_len (m:=6) (ls:=pieces way fs marks) fun p hp'=>by
    obtain ⟨f,hf,rfl⟩:=List.mem_map.mp hp'
    exact (sign_ok hw (h.sign hf)).len
  unfold pieces at this ⊢
  rw [List.length_map,h.four] at this
  exact this
noncomputable def ins (x:Br):List Nat:=insideOf x.b x.w
theorem outS_len (as:List Atom):(as.flatMap outS).length≤6 * as.length:=by
  induction as with
  | nil=>exact Nat.le_refl _
  | cons x l ih=>
    rw [List.flatMap_cons,List.length_append,List.length_cons]
    have hE:∀ c,(escS c).length≤2:=fun c=>by
      unfold escS
      split
      · exact Nat.le_refl _
      · exact (by decide:1≤2)
    have:(outS x).length≤6:=by
      cases x with
      | one c=>exact Nat.le_trans (hE c) (by decide)
      | rng a b=>have:=hE a; have:=hE b; unfold outS; simp only [List.length_append,List.length_cons,List.length_nil]; exact o244 (by assumption) this
    exact o245 ih this
theorem ins_len {x:Br} (h:x.w.length≤24):(ins x).length≤145:=by
  unfold ins insideOf
  have h1:=outS_len (keepA (parse x.w)); have h2:=keep_len (parse x.w); have h3:=parse_len x.w
  rw [List.length_append]
  split <;> simp only [List.length_cons,List.length_nil] <;> (first | exact o275 h h1 h2 h3 | exact o276 h h1 h2 h3)
theorem out_len {x:Br} (h:x.w.length≤24):x.out.length≤200:=by
  have:=ins_len h
  unfold ins at this
  unfold Br.out
  rw [List.length_append,List.length_cons]
  simp only [List.length_cons,List.length_nil]; omega
theorem ins_head {x:Br} (h:BrOk x):∃ d r,(keepA (parse x.w)).flatMap outS = d :: r∧d≠94∧d≠33∧d≠91:=out_head (fun c hc=>⟨(h.ch c hc).2.2.2.2,(h.ch c hc).2.2.1,(h.ch c hc).2.2.2.1⟩) h.keep
theorem ins_ne {x:Br} (h:BrOk x):ins x≠[]:=by
  obtain ⟨d,r,e,_⟩:=ins_head h
  unfold ins insideOf
  rw [e]
  intro q
  have:=congrArg List.length q
  rw [List.length_append,List.length_cons,List.length_nil] at this
  omega
theorem ins_body {x:Br} (h:BrOk x):EscOk (bodyOf (ins x)):=by
  obtain ⟨d,r,e,h94,_⟩:=ins_head h
  have:bodyOf (ins x) = (keepA (parse x.w)).flatMap outS:=by
    unfold ins insideOf
    cases x.b
    · have h0:isCaret ((if false = true then [94] else []) ++ (keepA (parse x.w)).flatMap outS) = false:=by
        rw [e]
        exact beq_false_of_ne (by intro q; injection q with q _; exact h94 q)
      unfold bodyOf
      rw [h0]; rfl
    · rfl
  rw [this]
  exact EscOk.out _
theorem escS_ch {c e:Nat} (h:e∈escS c):e = 92∨e = c:=by
  unfold escS at h
  split at h
  · rcases List.mem_cons.mp h with q | q
    · exact .inl q
    · exact .inr (List.mem_singleton.mp q)
  · exact .inr (List.mem_singleton.mp h)
theorem ins_ch {x:Br} (h:BrOk x):93 ∉ ins x:=by
  intro q
  unfold ins insideOf at q
  rcases List.mem_append.mp q with q | q
  · split at q
    · exact absurd (List.mem_singleton.mp q) (by decide)
    · cases q
  · obtain ⟨a,ha,q⟩:=List.mem_flatMap.mp q
    have hat:=atoms_ok (p:=fun c=>c≠93) (fun c hc=>(h.ch c hc).1) a ha
    cases a with
    | one c=>
      rcases escS_ch q with e | e
      · cases e
      · exact hat e.symm
    | rng a b=>
      unfold outS at q
      rcases List.mem_append.mp q with q | q
      · rcases List.mem_append.mp q with q | q
        · rcases escS_ch q with e | e
          · cases e
          · exact hat.1 e.symm
        · exact absurd (List.mem_singleton.mp q) (by decide)
      · rcases escS_ch q with e | e
        · cases e
        · exact hat.2 e.symm
theorem join_out:∀ (brs:List Br),brs≠[]→(brs.map Br.out).flatten = 91 :: (joinL [93,91] (brs.map ins) ++ [93])
  | [],h=>absurd rfl h
  | [x],_=>by simp [joinL,Br.out,ins]
  | x :: y :: r,_=>by
    rw [List.map_cons,List.flatten_cons,join_out (y :: r) (by simp),List.map_cons (f:=ins) (a:=x),joinL_cons2 (ps:=(y :: r).map ins) (by simp)]
    simp only [Br.out,ins,List.cons_append,List.append_assoc,List.nil_append,List.map_cons]
theorem trOut_eq {brs:List Br} (h:brs≠[]):trOut brs = [40,63,115,58,91] ++ joinL [93,91] (brs.map ins) ++ [93,41,92,90]:=by
  unfold trOut
  rw [show L "(?s:" = [40,63,115,58] by kernel_rfl,show L ")\\Z" = [41,92,90] by kernel_rfl,show L "" = [] by kernel_rfl,jNQ,join_out brs h]
  simp
theorem trOut_mid {brs:List Br} (h:brs≠[]):sl (trOut brs) (some 5) (some (-4)) none = joinL [93,91] (brs.map ins):=by
  rw [trOut_eq h,show (some (5:Int)) = some ((5:Nat):Int) from rfl,show (some (-4:Int)) = some (-((4:Nat):Int)) from rfl,sl_less _ (by simp) (by decide)]
  rw [List.append_assoc,show 5 = ([40,63,115,58,91]:List Nat).length from rfl,List.drop_left]
  simp
theorem trOut_first {brs:List Br} (h:brs≠[]):sl (trOut brs) none (some 5) none = [40,63,115,58,91]:=by
  rw [trOut_eq h,show (some (5:Int)) = some ((5:Nat):Int) from rfl,sl_to _ (by simp),List.append_assoc]
  rfl
theorem trOut_last {brs:List Br} (h:brs≠[]):sl (trOut brs) (some (-4)) none none = [93,41,92,90]:=by
  rw [trOut_eq h,show (some (-4:Int)) = some (-((4:Nat):Int)) from rfl,sl_last _ (by simp) (by decide)]
  simp
theorem split_eq {brs:List Br} (h:brs≠[]) (hb:∀ x∈brs,BrOk x):splitL (sl (trOut brs) (some 5) (some (-4)) none) (L "][") = brs.map ins:=by
  rw [trOut_mid h,show L "][" = [93,91] by kernel_rfl]
  refine splitL_join (by decide) (by decide) (by simpa using h) fun p hp=>?_
  obtain ⟨x,hx,rfl⟩:=List.mem_map.mp hp
  exact ins_ch (hb x hx)
theorem trOut_len {brs:List Br} (hw:∀ x∈brs,x.w.length≤24) (hl:brs.length≤20):(trOut brs).length≤10000:=by
  unfold trOut
  rw [List.length_append,List.length_append,show L "" = [] by kernel_rfl,jNQ]
  have:=flatten_le (m:=200) (ls:=brs.map Br.out) fun y hy=>by
    obtain ⟨x,hx,rfl⟩:=List.mem_map.mp hy
    exact out_len (hw x hx)
  rw [List.length_map] at this
  have e1:(L "(?s:").length = 4:=by kernel_rfl
  have e2:(L ")\\Z").length = 3:=by kernel_rfl
  exact o277 hl this e1 e2
theorem taken_ins {x:Br} (h:BrOk x) {letters:List Nat} {c:Nat} (hc:c∈letters):takenC (ins x) c = (decide (c∈takesOf letters (parse x.w)) != x.b):=by
  obtain ⟨d,r,e,h94,_⟩:=ins_head h
  exact taken_inside hc (by rw [e]; exact h94)
structure XIn (ds:List Addr) (P:Heap→Prop) (env:Env) (base:Shared) (σ:Store) (oa:Str→Addr) (hot:Addr→Prop) (s:Shared):Prop where
  p:P s.heap
  live:∀ b∈ds,∃ o,s.heap.get? b = some o
  new:∀ b∈ds,base.heap.get? b = none∧hot b∧b ∉ mutL env σ oa
  tk:1≤s.toks
noncomputable def Loc (ds:List Addr) (P:Heap→Prop):Prop:=∀ h h':Heap,(∀ b∈ds,∀ o,h.get? b = some o→h'.get? b = some o)→P h→P h'
section
variable {W:Wo} {n:Nat} {sc:Scope} {σ σ':Store} {env:Env} {base s s':Shared} {out hot hot':Addr→Prop} {oa oa':Str→Addr} {ds:List Addr} {P P' P'':Heap→Prop}
theorem XIn.move (L:Loc ds P) (m:XIn ds P env base σ oa hot s) (hk:∀ b∈ds,∀ o,s.heap.get? b = some o→s'.heap.get? b = some o) (hr:∀ b∈ds,hot' b) (hm:∀ b∈ds,b ∉ mutL env σ' oa') (ht:1≤s'.toks):XIn ds P env base σ' oa' hot' s' where
  p:=L _ _ hk m.p
  live:=fun b hb=>let ⟨o,e⟩:=m.live b hb; ⟨o,hk b hb o e⟩
  new:=fun b hb=>⟨(m.new b hb).1,hr b hb,hm b hb⟩
  tk:=ht
theorem XIn.grow (L:Loc ds P) (m:XIn ds P env base σ oa hot s) (g:Grow s s') (ht:1≤s'.toks):XIn ds P env base σ oa hot s':=m.move L (fun b ψ o e=>g.sub b o e) (fun b hb=>(m.new b hb).2.1) (fun b hb=>(m.new b hb).2.2) ht
theorem XIn.keep (L:Loc ds P) (m:XIn ds P env base σ oa hot s) (F:Fm W env base out hot oa σ s) (F':Fm W env (hidden env σ oa s) (fun a=>hot a∧a ∉ mutL env σ oa) hot' oa' σ' s') (ht:1≤s'.toks):XIn ds P env base σ' oa' hot' s':=by
  have hid:∀ b∈ds,∀ o,s.heap.get? b = some o→(hidden env σ oa s).heap.get? b = some o:=fun b hb o e=>hideAll_get _ e (m.new b hb).2.2
  refine m.move L (fun b hb o e=>F'.grow.sub b o (hid b hb o e)) (fun b hb=>F'.outhot _ (m.new b hb).2) (fun b hb q=>?_) ht
  obtain ⟨o,e⟩:=m.live b hb
  have:=(F'.mutNew b q).1
  rw [hid b hb o e] at this; cases this
structure StX (W:Wo) (n:Nat) (sc:Scope) (ds:List Addr) (P P':Heap→Prop) (st:Stmt) (σ σ':Store):Prop where
  run:∀ env,env.scope = sc→∀ A,Room A n→∀ base out hot oa s (Q:Flow→Shared→Prop) E,Fm W env base out hot oa σ s→XIn ds P env base σ oa hot s →
    (∀ hot' oa' s',Fm W env base out hot' oa' σ' s'→XIn ds P' env base σ' oa' hot' s'→Q .next s')→wpAny (model W.prog W.w) A (exec st env) Q E s
structure StepX (W:Wo) (n:Nat) (sc:Scope) (ds:List Addr) (P P':Heap→Prop) (sts:List Stmt) (σ σ':Store):Prop where
  run:∀ env,env.scope = sc→∀ A,Room A n→∀ base out hot oa s (Q:Flow→Shared→Prop) E,Fm W env base out hot oa σ s→XIn ds P env base σ oa hot s →
    (∀ hot' oa' s',Fm W env base out hot' oa' σ' s'→XIn ds P' env base σ' oa' hot' s'→Q .next s')→wpAny (model W.prog W.w) A (execs sts env) Q E s
structure RunsXL (W:Wo) (n:Nat) (sc:Scope) (ds:List Addr) (P:Heap→Prop) (sts:List Stmt) (σ:Store) (r:Res):Prop where
  run:∀ env,env.scope = sc→∀ A,Room A n→∀ base out hot oa s (Q:Flow→Shared→Prop) E,Fm W env base out hot oa σ s→XIn ds P env base σ oa hot s →
    (∀ f s',ResOk W env base out r f s'→Q f s')→wpAny (model W.prog W.w) A (execs sts env) Q E s
theorem StepX.nil:StepX W n sc ds P P [] σ σ:=⟨fun env he A hA base out hot oa s Q E F m k=>wpAny_execs_nil (k hot oa s F m)⟩
theorem StepX.cons {st:Stmt} {sts:List Stmt} {σ₁:Store} (h:StX W n sc ds P P' st σ σ₁) (h2:StepX W n sc ds P' P'' sts σ₁ σ'):StepX W n sc ds P P'' (st :: sts) σ σ':=
  ⟨fun env he A hA base out hot oa s Q E F m k=>wpAny_execs_cons (h.run env he A hA base out hot oa s _ E F m fun hot' oa' s' F' m'=>h2.run env he A hA base out hot' oa' s' Q E F' m' k)⟩
theorem StepX.one {st:Stmt} (h:StX W n sc ds P P' st σ σ'):StepX W n sc ds P P' [st] σ σ':=.cons h .nil
theorem StepX.forget {sts:List Stmt} {σ₁:Store} (hw:Wk σ σ₁) (h:StepX W n sc ds P P' sts σ₁ σ'):StepX W n sc ds P P' sts σ σ':=
  ⟨fun env he A hA base out hot oa s Q E F m k=>h.run env he A hA base out hot oa s Q E (F.forget hw) { m with new:=fun b hb=>⟨(m.new b hb).1,(m.new b hb).2.1,fun q=>(m.new b hb).2.2 (hw.mutL _ q)⟩ } k⟩
theorem RunsXL.cons {st:Stmt} {sts:List Stmt} {σ₁:Store} {r:Res} (h:StX W n sc ds P P' st σ σ₁) (h2:RunsXL W n sc ds P' sts σ₁ r):RunsXL W n sc ds P (st :: sts) σ r:=
  ⟨fun env he A hA base out hot oa s Q E F m k=>wpAny_execs_cons (h.run env he A hA base out hot oa s _ E F m fun hot' oa' s' F' m'=>h2.run env he A hA base out hot' oa' s' Q E F' m' k)⟩
theorem StX.of {st:Stmt} (L:Loc ds P) (h:Runs W n sc st σ (.next σ')):StX W n sc ds P P st σ σ':=
  ⟨fun env he A hA base out hot oa s Q E F m k=>wpAny_with_toks m.tk (h.run env he A hA _ _ hot oa s _ _ F.rebase fun f s' ok ht=>by
    obtain ⟨rfl,hot',oa',F'⟩:=ok
    exact k hot' oa' s' (F'.debase F.grow_hidden F.wbase F.outMut (fun a ha=>F.hotnew a ha.1) F.outlive) (m.keep L F F' ht))⟩
theorem StX.ofN {st:Stmt} (L:Loc ds P) (h:RunsN W 1 n sc st σ (.next σ')):StX W n sc ds P P st σ σ':=
  ⟨fun env he A hA base out hot oa s Q E F m k=>wpAny_with_toks m.tk (h.run env he A hA _ _ hot oa s _ _ m.tk F.rebase fun f s' ok ht=>by
    obtain ⟨rfl,hot',oa',F'⟩:=ok
    exact k hot' oa' s' (F'.debase F.grow_hidden F.wbase F.outMut (fun a ha=>F.hotnew a ha.1) F.outlive) (m.keep L F F' ht))⟩
theorem StX.ifT {t:PySem.Expr} {a b:List Stmt} {pos:Pos} (L:Loc ds P) (h:EvT W n sc σ t true) (ha:StepX W n sc ds P P' a σ σ'):StX W n sc ds P P' (.If t a b pos) σ σ':=
  ⟨fun env he A hA base out hot oa s Q E F m k=>wpAny_If (wpAny_with_toks m.tk (h.run env he A hA s hot _ _ F.good fun s' g ht=>by
    simp only [if_true]
    exact ha.run env he A hA base out hot oa s' Q E (F.grown g) (m.grow L g ht) k))⟩
theorem StX.ifF {t:PySem.Expr} {a b:List Stmt} {pos:Pos} (L:Loc ds P) (h:EvT W n sc σ t false) (hb:StepX W n sc ds P P' b σ σ'):StX W n sc ds P P' (.If t a b pos) σ σ':=
  ⟨fun env he A hA base out hot oa s Q E F m k=>wpAny_If (wpAny_with_toks m.tk (h.run env he A hA s hot _ _ F.good fun s' g ht=>by
    simp only [Bool.false_eq_true,if_false]
    exact hb.run env he A hA base out hot oa s' Q E (F.grown g) (m.grow L g ht) k))⟩
structure ForX (W:Wo) (env:Env) (base:Shared) (out:Addr→Prop) (ds:List Addr) (xs:List V) (I:Addr) (fp:List Addr) (Pi:Nat→Value→Prop) (St:Nat→Heap→Prop) (hot:Addr→Prop) (oa:Str→Addr) (σ:Store) (P:Heap→Prop) (i:Nat) (s:Shared):Prop where
  F:Fm W env base out hot oa σ s
  m:XIn ds P env base σ oa hot s
  st:St i s.heap
  mfp:∀ b∈fp,b ∉ mutL env σ oa∧b ∉ ds
  hI:hot I
  bI:base.heap.get? I = none
  item:∀ j v x,i≤j→Pi j v→xs[j]? = some x→Rd s.heap hot x v
theorem forX_core {t:PySem.Expr} {body:List Stmt} {xs:List V} {A:Around} {it':Value} {s₁ s₂:Shared} {R:Result→Shared→Prop} (σs τs:Nat→Store) (Ps:Nat→Heap→Prop) (Ls:∀ i,Loc ds (Ps i)) (he:env.scope = sc) (hA:Room A n)
    (step:∀ i x,xs[i]? = some x→Binds W sc t x (σs i) (τs i)∧StepX W n sc ds (Ps i) (Ps (i + 1)) body (τs i) (σs (i + 1)))
    (F₁:Fm W env base out hot oa (σs 0) s₁) (m₁:XIn ds (Ps 0) env base (σs 0) oa hot s₁) (g₂:Grow s₁ s₂) (ht₂:1≤s₂.toks) (hI:Itr W A hot s₁ s₂ it' xs)
    (k:∀ hot' oa' s',Fm W env base out hot' oa' (σs xs.length) s'→XIn ds (Ps xs.length) env base (σs xs.length) oa' hot' s'→R (.ok .next) s'):codeAny (model W.prog W.w) A (.forLoop t it' body [] env) R s₂:=by
    obtain ⟨I,fp,P,St,rfl,hW⟩:=hI
    have I0:I∈fp:=hW.wk.sub I (List.mem_singleton.mpr rfl)
    have aI:∃ o,s₂.heap.get? I = some o:=let ⟨o,_,e,_⟩:=(hW.live _ _ hW.st).2; ⟨o,e⟩
    have nI:∀ b,hot b→b≠I:=fun b hb q=>by
      obtain ⟨o,e⟩:=F₁.alive b hb
      rw [q,hW.fresh] at e; cases e
    have notfp:∀ b∈fp,hot b→False:=fun b hb q=>by
      by_cases e:b = I
      · exact nI b q e
      · exact hW.apart b hb e q
    have start:ForX W env base out ds xs I fp P St (fun a=>hot a∨a∈[I]) oa (σs 0) (Ps 0) 0 s₂:=by
      have F₂:=F₁.hotter g₂ (wr:=[I]) (fun b hb=>by rw [List.mem_singleton.mp hb]; exact hW.fresh) (fun b hb=>by rw [List.mem_singleton.mp hb]; exact aI)
      refine ⟨F₂,m₁.move (Ls 0) (fun b ψ o e=>g₂.sub b o e) (fun b h=>.inl (m₁.new b h).2.1) (fun b h=>(m₁.new b h).2.2) ht₂,hW.st,fun b hb=>⟨fun q=>notfp b hb (F₁.mutNew b q).2,fun q=>notfp b hb (m₁.new b q).2.1⟩,.inr (List.mem_singleton.mpr rfl),nQ F₁.grow.sub hW.fresh,fun j v x ψ hv hx=>?_⟩
      refine Rd.mono (fun b o nb e=>⟨g₂.sub b o e,fun q=>?_⟩) _ _ (hW.item j v x hv hx)
      rcases q with q | q
      · exact nb q
      · rw [List.mem_singleton.mp q,hW.fresh] at e; cases e
    refine codeAny_forLoop_any (fun c s=>∃ i hot oa,i≤xs.length∧c = xs.length - i∧ForX W env base out ds xs I fp P St hot oa (σs i) (Ps i) i s) (fun c s₁ inv=>?_) _ ⟨0,_,oa,Nat.zero_le _,rfl,start⟩
    obtain ⟨i,hot₁,oa₁,hi,rfl,f⟩:=inv
    have mut_hot:∀ b∈mutL env (σs i) oa₁,hot₁ b:=fun b hb=>(f.F.mutNew b hb).2
    have nds:∀ b∈ds,b ∉ [I]:=fun b hb q=>by
      rw [List.mem_singleton.mp q] at hb
      exact (f.mfp I I0).2 hb
    by_cases hlt:i < xs.length
    · refine wpAny_with_toks f.m.tk (hW.wk.item i s₁ _ _ hlt f.st fun v h' tk hv st' hk htk=>?_)
      obtain ⟨o,T,ho,hc,hq⟩:=(hW.live _ _ st').2
      have F₂:Fm W env base out hot₁ oa₁ (σs i) { s₁ with heap:=h',toks:=tk }:=f.F.touch hk fun b hb=>by
        rw [List.mem_singleton.mp hb]; exact ⟨f.bI,f.hI,(f.mfp I I0).1,o,ho⟩
      have m₂:XIn ds (Ps i) env base (σs i) oa₁ hot₁ { s₁ with heap:=h',toks:=tk }:=f.m.move (Ls i) (fun b hb o e=>hk b o (nds b hb) e) (fun b h=>(f.m.new b h).2.1) (fun b h=>(f.m.new b h).2.2) htk
      have up:∀ b o,¬ hot₁ b→s₁.heap.get? b = some o→h'.get? b = some o∧¬ hot₁ b:=fun b o nb e=>⟨hk b o (fun q=>nb (by rw [List.mem_singleton.mp q]; exact f.hI)) e,nb⟩
      have item':∀ j v x,i≤j→P j v→xs[j]? = some x→Rd h' hot₁ x v:=fun j v x hj hv hx=>Rd.mono up _ _ (f.item j v x hj hv hx)
      have hx:xs[i]? = some xs[i]:=by simp [hlt]
      obtain ⟨hb,hst⟩:=step i _ hx
      refine letOwned_quiet ho hc hq ?_
      -- the target
      refine wpAny_with_toks (show 1≤({ s₁ with heap:=h',toks:=tk }:Shared).toks from htk) (hb.run env he A (hA.less (Nat.zero_le _)) _ _ hot₁ oa₁ _ v _ _ F₂.rebase (item' i v _ (Nat.le_refl _) hv hx) fun s₃ F₃ ht₃=>?_)
      have m₃:=m₂.keep (Ls i) F₂ F₃ ht₃
      have liveFp:∀ b∈fp,∃ o,h'.get? b = some o:=fun b hb=>(hW.live _ _ st').1 b hb
      have kept₃:∀ b o,b ∉ mutL env (σs i) oa₁→h'.get? b = some o→s₃.heap.get? b = some o:=fun b o nb e=>F₃.grow.sub b o (hideAll_get _ e nb)
      have st₃:St (i + 1) s₃.heap:=hW.wk.frame _ _ _ st' fun b hb o e=>kept₃ b o (f.mfp b hb).1 e
      have mfp₃:∀ b∈fp,b ∉ mutL env (τs i) oa₁:=fun b hb q=>by
        obtain ⟨o,e⟩:=liveFp b hb
        have:=(F₃.mutNew b q).1
        rw [show (hidden env (σs i) oa₁ { s₁ with heap:=h',toks:=tk }).heap.get? b = some o from hideAll_get _ e (f.mfp b hb).1] at this; cases this
      have item₃:∀ j v x,i≤j→P j v→xs[j]? = some x→Rd s₃.heap hot₁ x v:=fun j v x hj hv hx=>Rd.mono (fun b o nb e=>⟨kept₃ b o (fun q=>nb (mut_hot b q)) e,nb⟩) _ _ (item' j v x hj hv hx)
      have F₃':Fm W env base out hot₁ oa₁ (τs i) s₃:=F₃.debase F₂.grow_hidden F₂.wbase F₂.outMut (fun a ha=>F₂.hotnew a ha.1) F₂.outlive
      -- the body
      let l:=mutL env (τs i) oa₁ ++ ds
      have hl:∀ b∈l,hot₁ b∧base.heap.get? b = none:=fun b hb=>by
        rcases List.mem_append.mp hb with q | q
        · exact ⟨(F₃'.mutNew b q).2,(F₃'.mutNew b q).1⟩
        · exact ⟨(m₃.new b q).2.1,(m₃.new b q).1⟩
      have m₃':XIn ds (Ps i) env (hid l s₃) (τs i) oa₁ hot₁ s₃:={ m₃ with new:=fun b h=>⟨hideAll_none _ (List.mem_append_right _ h),(m₃.new b h).2⟩ }
      refine hst.run env he A hA _ _ hot₁ oa₁ s₃ _ _ (F₃'.rebaseX (l:=l) (fun b hb=>List.mem_append_left _ hb) hl) m₃' fun hot₄ oa₄ s₄ F₄ m₄=>?_
      have F₄':Fm W env base out hot₄ oa₄ (σs (i + 1)) s₄:=F₄.debase (grow_hid F₃' hl) F₃'.wbase (out_hid F₃' hl) (fun a ha=>F₃'.hotnew a ha.1) F₃'.outlive
      have m₄':XIn ds (Ps (i + 1)) env base (σs (i + 1)) oa₄ hot₄ s₄:={ m₄ with new:=fun b h=>⟨(m₃.new b h).1,(m₄.new b h).2⟩ }
      have kept₄:∀ b o,b ∉ l→s₃.heap.get? b = some o→s₄.heap.get? b = some o:=fun b o nb e=>F₄.grow.sub b o (hideAll_get _ e nb)
      have fpl:∀ b∈fp,b ∉ l:=fun b hb q=>by
        rcases List.mem_append.mp q with q | q
        · exact mfp₃ b hb q
        · exact (f.mfp b hb).2 q
      have live₃:∀ b∈fp,∃ o,s₃.heap.get? b = some o:=fun b hb=>let ⟨o,e⟩:=liveFp b hb; ⟨o,kept₃ b o (f.mfp b hb).1 e⟩
      refine ⟨xs.length - (i + 1),by exact o3 hlt,i + 1,hot₄,oa₄,hlt,rfl,F₄',m₄',hW.wk.frame _ _ _ st₃ fun b hb o e=>kept₄ b o (fpl b hb) e,fun b hb=>⟨fun q=>?_,(f.mfp b hb).2⟩,F₄.outhot I ⟨f.hI,fpl I I0⟩,f.bI,fun j v x hj hv hx=>?_⟩
      · obtain ⟨o,e⟩:=live₃ b hb
        have:=(F₄.mutNew b q).1
        rw [show (hid l s₃).heap.get? b = some o from hideAll_get _ e (fpl b hb)] at this; cases this
      · refine Rd.mono (fun b o nb e=>?_) _ _ (item₃ j v x (by exact o4 hj) hv hx)
        have nl:b ∉ l:=fun q=>nb (hl b q).1
        have e1:(hid l s₃).heap.get? b = some o:=hideAll_get _ e nl
        refine ⟨F₄.grow.sub b o e1,fun q=>?_⟩
        rcases F₄.hotnew b q with q | q
        · exact nb q.1
        · rw [e1] at q; cases q
    · have hi':i = xs.length:=by exact o5 hi hlt
      subst hi'
      refine wpAny_with_toks f.m.tk (hW.wk.done s₁ _ _ f.st fun h' tk hk htk=>?_)
      have F₂:Fm W env base out (fun a=>hot₁ a∧a ∉ [I]) oa₁ (σs xs.length) { s₁ with heap:=h',toks:=tk }:=f.F.touchOff hk fun b hb=>by
        rw [List.mem_singleton.mp hb]; exact ⟨f.bI,f.hI,(f.mfp I I0).1⟩
      have m₂:XIn ds (Ps xs.length) env base (σs xs.length) oa₁ (fun a=>hot₁ a∧a ∉ [I]) { s₁ with heap:=h',toks:=tk }:=f.m.move (Ls _) (fun b hb o e=>hk b o (nds b hb) e) (fun b h=>⟨(f.m.new b h).2.1,nds b h⟩) (fun b h=>(f.m.new b h).2.2) htk
      exact wpAny_execs_nil (k _ _ _ F₂ m₂)
theorem StX.for {t it:PySem.Expr} {body:List Stmt} {pos:Pos} {a:V} {xs:List V} (σs τs:Nat→Store) (Ps:Nat→Heap→Prop) (Ls:∀ i,Loc ds (Ps i)) (h:Ev W n sc (σs 0) it a) (hi:JQ W a xs) (hs:∀ env x,foldedSetIterable it env x = pure x)
    (step:∀ i x,xs[i]? = some x→Binds W sc t x (σs i) (τs i)∧StepX W n sc ds (Ps i) (Ps (i + 1)) body (τs i) (σs (i + 1))):StX W n sc ds (Ps 0) (Ps xs.length) (.For t it body [] pos) (σs 0) (σs xs.length):=
  ⟨fun env he A hA base out hot oa s Q E F m k=>wpAny_For (wpAny_with_toks m.tk (h.run env he A hA s hot _ _ F.good fun v s₁ g₁ r₁ ht₁=>wpAny_with_toks ht₁ (hi.run A (hA.less (Nat.zero_le _)) s₁ hot v _ _ (F.grown g₁).good.base (F.grown g₁).alive r₁ fun it' s₂ g₂ hI ht₂=>
    forX_core σs τs Ps Ls he hA step (F.grown g₁) (m.grow (Ls 0) g₁ ht₁) g₂ ht₂ hI fun hot' oa' s' F' m'=>k hot' oa' s' F' m'))) (hs env)⟩
structure EvK (W:Wo) (n:Nat) (sc:Scope) (σ:Store) (e:PySem.Expr) (d:V):Prop where
  run:∀ env,env.scope = sc→∀ A,Room A n→∀ s hot (Q:Value→Shared→Prop) E,Good W env σ hot s →
    (∀ v s',Grow s s'→1≤s'.toks→Rd s'.heap hot d v→Q v s')→wpAny (model W.prog W.w) A (eval e env) Q E s
theorem EvK.range1 {p pos p1:Pos} {j1:Nat} {b:Int} (G:G1 W) (hg:isGlob sc "range" = true):EvK W n sc σ (.Call (.Name "range" p) [.Constant (.int b) j1 p1] [] pos) (.rng 0 b 1):=
  ⟨fun env he A hA s hot Q E g k=>by
    refine wpAny_Call_NameR ((Ev.builtin (W:=W) (n:=n) (σ:=σ) (pos:=p) hg G.range bb_range).run env he A hA s hot _ E g fun v s₁ g₁ r₁=>?_)
    cases rd_val r₁
    refine callWith_any (W:=W) trivial (by rfl) ?_
    rw [show backTo pos (starEach [PySem.Expr.Constant (.int b) j1 p1] env) = [(false,eval (.Constant (.int b) j1 p1) env)] from by rfl]
    refine Calls.spliced_cons (@wpAny_Constant_int _ _ _ _ _ _ _ _ _ (Calls.spliced_nil ⟨(g.grow g₁).base,?_⟩))
    refine wpAny_with_toks (show 1≤({ s₁ with toks:=s₁.toks + 1 }:Shared).toks from Nat.succ_le_succ (Nat.zero_le _)) (KQ.range_1 (W:=W) (n:=n) (b:=b) A hA _ hot _ _ _ (g.grow g₁).base (g.grow g₁).alive (.cons mk_int .nil) fun v s₂ g₂ r₂ ht=>?_)
    exact k v s₂ ((g₁.trans .tok).trans g₂) ht r₂⟩
theorem RQ.forK {t it:PySem.Expr} {body sts:List Stmt} {pos:Pos} {a:V} {xs:List V} {r:Res} (σs τs:Nat→Store) (h:EvK W n sc (σs 0) it a) (hi:JQ W a xs) (hs:∀ env x,foldedSetIterable it env x = pure x)
    (step:∀ i x,xs[i]? = some x→Binds W sc t x (σs i) (τs i)∧StepX W n sc [] (fun ψ=>True) (fun ψ=>True) body (τs i) (σs (i + 1))) (rest:RQ W n sc sts (σs xs.length) r):RQ W n sc (.For t it body [] pos :: sts) (σs 0) r:=
  ⟨fun env he A hA base out hot oa s Q E F k=>wpAny_execs_cons (wpAny_For (h.run env he A hA s hot _ _ F.good fun v s₁ g₁ ht₁ r₁=>wpAny_with_toks ht₁ (hi.run A (hA.less (Nat.zero_le _)) s₁ hot v _ _ (F.grown g₁).good.base (F.grown g₁).alive r₁ fun it' s₂ g₂ hI ht₂=>
    forX_core (ds:=[]) σs τs (fun ψ ψ=>True) (fun ψ ψ ψ ψ ψ=>trivial) he hA step (F.grown g₁) ⟨trivial,fun b hb=>(nomatch hb),fun b hb=>(nomatch hb),ht₁⟩ g₂ ht₂ hI fun hot' oa' s' F' m'=>rest.run env he A hA base out hot' oa' s' Q E F' k)) (hs env))⟩
end
inductive ItemT:Bool→Nat→List Nat→V→Nat→Prop
  | plain {N:Nat} {l:List Nat}:ItemT false N l (.str l) N
  | tok {N:Nat} {l:List Nat} {u:Tok}:N≤u→ItemT true N l (.val (.str (St l) u)) (u + 1)
structure ItrT (W:Wo) (A:Around) (hot:Addr→Prop) (s₀ s:Shared) (I:Addr) (fp:List Addr) (St':Nat→Heap→Prop) (ls:List (List Nat)) (tk:Bool):Prop where
  I0:I∈fp
  frame:∀ i h h',St' i h→(∀ b∈fp,∀ o,h.get? b = some o→h'.get? b = some o)→St' i h'
  item:∀ i N (s:Shared) l (Q:Option Value→Shared→Prop) (E:Value→Shared→Prop),N≤s.toks→ls[i]? = some l→St' i s.heap →
    (∀ v x N' h' k,ItemT tk N l x N'→(∀ h hot,Rd h hot x v)→N≤N'→N'≤k→St' (i + 1) h'→(∀ b o,b ∉ [I]→s.heap.get? b = some o→h'.get? b = some o)→Q (some v) { s with heap:=h',toks:=k })→wpAny (model W.prog W.w) A (pyNext (.ref I)) Q E s
  done:∀ (s:Shared) (Q:Option Value→Shared→Prop) (E:Value→Shared→Prop),St' ls.length s.heap →
    (∀ h' k,(∀ b o,b ∉ [I]→s.heap.get? b = some o→h'.get? b = some o)→Q none { s with heap:=h',toks:=k })→wpAny (model W.prog W.w) A (pyNext (.ref I)) Q E s
  self:∀ i (s:Shared) (Q:Value→Shared→Prop) (E:Value→Shared→Prop),St' i s.heap→Q (.ref I) s→wpAny (model W.prog W.w) A (pyIter (.ref I)) Q E s
  live:∀ i h,St' i h→(∀ b∈fp,∃ o,h.get? b = some o)∧∃ o T,h.get? I = some o∧o.cls = .type T∧quietIter T = true
  st:St' 0 s.heap
  apart:∀ b∈fp,b≠I→¬ hot b
  fresh:s₀.heap.get? I = none
noncomputable def ItT (W:Wo) (A:Around) (hot:Addr→Prop) (s₀ s:Shared) (it:Value) (ls:List (List Nat)) (tk:Bool):Prop:=
  ∃ I fp St',it = .ref I∧ItrT W A hot s₀ s I fp St' ls tk
structure IterT (W:Wo) (d:V) (tk:Bool) (ls:List (List Nat)):Prop where
  run:∀ A,Room A 0→∀ s hot v (Q:Value→Shared→Prop) E,Sub W.B s.heap→(∀ a,hot a→∃ o,s.heap.get? a = some o)→Rd s.heap hot d v →
    (∀ it s',Grow s s'→ItT W A hot s s' it ls tk→Q it s')→wpAny (model W.prog W.w) A (pyIter v) Q E s
theorem IterT.of {W:Wo} {d:V} {ls:List (List Nat)} (h:JQ W d (ls.map V.str)):IterT W d false ls:=
  ⟨fun A hA s hot v Q E hb al r k=>h.run A hA s hot v Q E hb al r fun it s' g ⟨I,fp,P,St',e,hW⟩=>k it s' g ⟨I,fp,St',e,{
    I0:=hW.wk.sub I (List.mem_singleton.mpr rfl)
    frame:=hW.wk.frame
    item:=fun i N s l Q E hN hl st hQ=>by
      have hi:i < (ls.map V.str).length:=by rw [List.length_map]; exact (List.getElem?_eq_some_iff.mp hl).1
      refine wpAny_with_toks hN (hW.wk.item i s _ _ hi st fun v h' tk hv st' hk hNk=>?_)
      have hx:(ls.map V.str)[i]? = some (.str l):=by rw [List.getElem?_map,hl]; rfl
      obtain ⟨t,rfl⟩:=sQ (hW.item i v _ hv hx)
      exact hQ _ _ N h' tk .plain (fun ψ ψ=>mk_str) (Nat.le_refl _) hNk st' hk
    done:=fun s Q E st hQ=>hW.wk.done s Q E (by rw [List.length_map]; exact st) hQ
    self:=hW.wk.self
    live:=hW.live
    st:=hW.st
    apart:=hW.apart
    fresh:=hW.fresh }⟩⟩
theorem IterT.str {W:Wo} {l:List Nat}:IterT W (.str l) true (l.map fun c=>[c]):=⟨fun A hA s hot v Q E hb al r k=>by
  obtain ⟨t,rfl⟩:=sQ r
  have sz:(St l).cps.size = (l.map fun c=>[c]).length:=by simp [St]
  have at':∀ (i:Nat) (x:List Nat),(l.map fun c=>[c])[i]? = some x→∃ c,x = [c]∧(St l).cps[i]? = some c:=fun i x h=>by
    rw [List.getElem?_map] at h
    cases hc:l[i]? with
    | none=>rw [hc] at h; cases h
    | some c=>rw [hc] at h; cases h; exact ⟨c,rfl,by simpa [St] using hc⟩
  cases ha:(St l).cps.all (· < 128)
  · have wk:=Walks.strWide (prog:=W.prog) (w:=W.w) hA.handled s.heap.objs.size (St l) t
    refine wpAny_pyIter_wide ha (k _ _ ⟨fun b o e=>Heap.get?_push_of_some _ e,rfl,fun e=>e⟩ ⟨s.heap.objs.size,[s.heap.objs.size],fun i h=>h.IsStrIter s.heap.objs.size "str_iterator" (St l) t i,rfl,List.mem_singleton.mpr rfl,wk.frame,fun i N s' x Q E hN hx st hQ=>?_,fun s' Q E st hQ=>wk.done s' Q E (by rw [sz]; exact st) hQ,wk.self,fun i h st=>?_,⟨_,Heap.get?_push_size _ rfl,rfl,rfl⟩,?_,gNQ _⟩)
    · obtain ⟨c,rfl,hc⟩:=at' i x hx
      exact wpAny_pyNext_wide_item st hc fun h' hit' hs'=>hQ _ _ _ h' (s'.toks + 1) (.tok hN) (fun ψ ψ=>mk_val) (Nat.le_succ_of_le hN) (Nat.le_refl _) hit' fun b o hb e=>hs'.extBut b o (fun h=>hb (by simp [h])) e
    · obtain ⟨o,e,c,_⟩:=st; exact ⟨fun b hb=>by rw [List.mem_singleton.mp hb]; exact ⟨o,e⟩,o,_,e,c,by decide⟩
    · intro b hb' hn; rcases List.mem_cons.mp hb' with e | hb'; exact absurd e hn; cases hb'
  · have wk:=Walks.strAscii (prog:=W.prog) (w:=W.w) hA.handled s.heap.objs.size (St l) t
    refine wpAny_pyIter_ascii ha (k _ _ ⟨fun b o e=>Heap.get?_push_of_some _ e,rfl,fun e=>e⟩ ⟨s.heap.objs.size,[s.heap.objs.size],fun i h=>h.IsStrIter s.heap.objs.size "str_ascii_iterator" (St l) t i,rfl,List.mem_singleton.mpr rfl,wk.frame,fun i N s' x Q E hN hx st hQ=>?_,fun s' Q E st hQ=>wk.done s' Q E (by rw [sz]; exact st) hQ,wk.self,fun i h st=>?_,⟨_,Heap.get?_push_size _ rfl,rfl,rfl⟩,?_,gNQ _⟩)
    · obtain ⟨c,rfl,hc⟩:=at' i x hx
      exact wpAny_pyNext_ascii_item st hc fun h' hit' hs'=>hQ _ _ _ h' (s'.toks + 1) (.tok hN) (fun ψ ψ=>mk_val) (Nat.le_succ_of_le hN) (Nat.le_refl _) hit' fun b o hb e=>hs'.extBut b o (fun h=>hb (by simp [h])) e
    · obtain ⟨o,e,c,_⟩:=st; exact ⟨fun b hb=>by rw [List.mem_singleton.mp hb]; exact ⟨o,e⟩,o,_,e,c,by decide⟩
    · intro b hb' hn; rcases List.mem_cons.mp hb' with e | hb'; exact absurd e hn; cases hb'⟩
inductive EmitT (W:Wo) (n:Nat) (sc scope:Scope) (σ:Store) (t:PySem.Expr) (ifs:List PySem.Expr) (tk:Bool) (G:Nat→Store→List V→Prop) (N:Nat):List (List Nat)→Store→List V→Prop
  | nil {τ:Store}:EmitT W n sc scope σ t ifs tk G N [] τ []
  | yes {l:List Nat} {ls:List (List Nat)} {τ:Store} {o o':List V}:(∀ x N',ItemT tk N l x N'→∃ τ',Binds W sc t x τ τ'∧Wk τ' τ∧Tests W n sc (InS τ' scope σ) ifs true∧G N' τ' o)→EmitT W n sc scope σ t ifs tk G N ls τ o'→EmitT W n sc scope σ t ifs tk G N (l :: ls) τ (o ++ o')
  | no {l:List Nat} {ls:List (List Nat)} {τ:Store} {o':List V}:(∀ x N',ItemT tk N l x N'→∃ τ',Binds W sc t x τ τ'∧Wk τ' τ∧Tests W n sc (InS τ' scope σ) ifs false)→EmitT W n sc scope σ t ifs tk G N ls τ o'→EmitT W n sc scope σ t ifs tk G N (l :: ls) τ o'
section
variable {W:Wo} {n:Nat} {sc:Scope} {σ:Store}
section
variable {elt:PySem.Expr} {gens:List Comprehension} {scope:Scope} {pos:Pos} {sc':Scope} {cenv:Env} {A:Around} {D:Addr} {oa:Str→Addr}
noncomputable def BodyT (W:Wo) (G:Nat→Store→List V→Prop) (elt:PySem.Expr) (gens:List Comprehension) (scope:Scope) (pos:Pos) (cenv:Env) (A:Around) (D:Addr) (oa:Str→Addr) (σ:Store) (d:Nat):Prop:=
  ∀ (N:Nat) (τ:Store) (o acc:List V),G N τ o→acc.length + o.length≤1000000→∀ (base:Shared) (out hot:Addr→Prop) (s:Shared) (Q:Shared→Prop) (E:Value→Shared→Prop),N≤s.toks →
    Fm W cenv base out hot oa τ s→OuterOk cenv base out scope σ→Acc false W cenv base hot oa τ D acc s→(∀ s',N≤s'.toks→Fm W cenv base out hot oa τ s'→Acc false W cenv base hot oa τ D (acc ++ o) s'→Q s') →
    (match gens[d + 1]? with
      | some g'=>wpAny (model W.prog W.w) A (eval g'.iter cenv) (fun x s₅=>wpAny (model W.prog W.w) A (pyIter x) (fun it' s₆=>
          codeAny (model W.prog W.w) A (.compStart (.ListComp elt gens scope pos) (d + 1) it' (.ref D) cenv) (fun r s'=>match r with | .ok _=>Q s' | .error e=>cameBackBy (model W.prog W.w) A cenv E e s') s₆) E s₅) E s
      | none=>wpAny (model W.prog W.w) A (eval elt cenv) (fun y s₅=>wpAny (model W.prog W.w) A (call (.builtin "list.append") [.ref D,y]) (fun ψ s₆=>Q s₆) E s₅) E s)
theorem body_nilT {d:Nat} (hsc:cenv.scope = sc') (hA:Room A n) (hd:gens[d + 1]? = none):BodyT W (fun N τ o=>∃ d,o = [d]∧EvN W N n sc' (InS τ scope σ) elt d) elt gens scope pos cenv A D oa σ d:=by
  intro N τ o acc hE hz base out hot s Q E hN F ho ha k
  rw [hd]
  obtain ⟨d0,rfl,hEv⟩:=hE
  refine hEv.run cenv hsc A hA s hot _ E hN (F.goodIn ho) fun v s₅ g hN₅ r=>?_
  have ha':=ha.grown g
  obtain ⟨items,hl,hr,hj⟩:=ha.list
  have hl:s₅.heap.PlainList D items:=let ⟨m,e⟩:=hl; ⟨m,g.sub _ _ e⟩
  have hr:=hr.sub g.sub
  have hz':items.size≤sizeLine:=by have:=hr.length; rw [Array.length_toList] at this; rw [this,sizeLine_eq]; simp at hz; exact o8 hz
  refine wpAny_list_append_plain hl (fun h' hpl hs'=>k _ hN₅ ((F.grown g).touch (tk:=s₅.toks) (wr:=[D]) (fun b o hb e=>(hs'.2 b (fun q=>hb (List.mem_singleton.mpr q))).trans e) fun b hb=>?_) { ha' with list:=⟨_,hpl,?_,fun q=>by cases q⟩ }) hz'
  · rw [List.mem_singleton.mp hb]
    obtain ⟨m,e⟩:=hpl
    exact ⟨ha.fresh,ha.hot,ha.free,_,e⟩
  · rw [Array.toList_push]
    exact (hr.same ha.hot hs').app (.cons (r.same ha.hot hs') .nil)
theorem loop_T {tk:Bool} {G:Nat→Store→List V→Prop} (hsc:cenv.scope = sc') (hA:Room A n) (hg:∀ g∈gens,PlainG cenv g) {d:Nat} (hB:BodyT W G elt gens scope pos cenv A D oa σ d) {t iter:PySem.Expr} {ifs:List PySem.Expr} (hd:gens[d]? = some ⟨t,iter,ifs,0⟩)
    {base:Shared} {out hot:Addr→Prop} {hot₀:Addr→Prop} {A':Around} {sI sJ:Shared} {ls₀:List (List Nat)} {I:Addr} {fp:List Addr} {St':Nat→Heap→Prop} (hW:ItrT W A hot₀ sI sJ I fp St' ls₀ tk) (ho:OuterOk cenv base out scope σ) (hI:hot I) (bI:base.heap.get? I = none) (DI:D ∉ fp)
    {N:Nat} {R:Result→Shared→Prop} :
    ∀ (xs:List (List Nat)) (i:Nat) (τ:Store) (o acc:List V),i≤ls₀.length→xs = ls₀.drop i→EmitT W n sc' scope σ t ifs tk G N xs τ o→acc.length + o.length≤1000000 →
    ∀ (s:Shared),N≤s.toks→Fm W cenv base out hot oa τ s→Acc false W cenv base hot oa τ D acc s→St' i s.heap→(∀ b∈fp,b ∉ mutL cenv τ oa) →
    (∀ s' h' tk,N≤tk→Fm W cenv base out hot oa τ s'→Acc false W cenv base hot oa τ D (acc ++ o) s'→(∀ b∈fp,b ∉ mutL cenv τ oa)→(∀ b o,b ∉ [I]→s'.heap.get? b = some o→h'.get? b = some o)→R (.ok .next) { s' with heap:=h',toks:=tk }) →
    codeAny (model W.prog W.w) A (.compLoop (.ListComp elt gens scope pos) d (.ref I) (.ref D) cenv) R s:=by
  intro xs
  induction xs with
  | nil=>
    intro i τ o acc hi hx hE hz s hN F ha st mfp k
    have hi':i = ls₀.length:=by
      have:=congrArg List.length hx
      rw [List.length_drop] at this
      simp at this; exact o9 hi this
    cases hE
    refine code_compLoop (wp_compTurn hd (fun g' hg'=>hg g' (List.mem_of_getElem? hg')) (wpAny_with_toks hN (hW.done s _ _ (hi' ▸ st) fun h' tk hk hNk=>?_)))
    have:=k s h' tk hNk F (by simpa using ha) mfp hk
    exact this
  | cons x xs ih=>
    intro i τ o acc hi hx hE hz s hN F ha st mfp k
    have hlt:i < ls₀.length:=by
      have:=congrArg List.length hx
      rw [List.length_drop] at this
      simp at this; exact o10 this
    have hd2:ls₀.drop i = ls₀[i] :: ls₀.drop (i + 1):=List.drop_eq_getElem_cons hlt
    rw [hd2] at hx
    obtain ⟨ex,exs⟩:=List.cons.inj hx
    have hxi:ls₀[i]? = some x:=by rw [ex]; simp [hlt]
    refine code_compLoop (wp_compTurn hd (fun g' hg'=>hg g' (List.mem_of_getElem? hg')) (hW.item i N s x _ _ hN hxi st fun v xv N' h' tk hIt hRd hNN hNk st' hk=>?_))
    obtain ⟨oI,T,hoI,hc,hq⟩:=(hW.live _ _ st').2
    have I0:I∈fp:=hW.I0
    have DnI:D≠I:=fun q=>DI (q ▸ I0)
    have F₂:Fm W cenv base out hot oa τ { s with heap:=h',toks:=tk }:=F.touch hk fun b hb=>by
      rw [List.mem_singleton.mp hb]; exact ⟨bI,hI,mfp I I0,oI,hoI⟩
    have up:∀ b o,¬ hot b→s.heap.get? b = some o→h'.get? b = some o∧¬ hot b:=fun b o nb e=>⟨hk b o (fun q=>nb (by rw [List.mem_singleton.mp q]; exact hI)) e,nb⟩
    have ha₂:Acc false W cenv base hot oa τ D acc { s with heap:=h',toks:=tk }:={ ha with
      list:=by
        obtain ⟨items,⟨m,e⟩,r,j⟩:=ha.list
        exact ⟨items,⟨m,hk _ _ (fun q=>DnI (List.mem_singleton.mp q)) e⟩,Rds.mono up _ _ r,j⟩ }
    refine letOwned_quiet hoI hc hq ?_
    -- the target,over a base that keeps the list and the iterator
    have next:∀ {τ':Store} {Q:Unit→Shared→Prop} {E:Value→Shared→Prop},Binds W sc' t xv τ τ'→Wk τ' τ →
        (∀ s₃,N'≤s₃.toks→Fm W cenv base out hot oa τ' s₃→Acc false W cenv base hot oa τ' D acc s₃→(∀ b∈fp,b ∉ mutL cenv τ' oa)→(∀ b∈fp,∀ o,h'.get? b = some o→s₃.heap.get? b = some o)→Q () s₃) →
        wpAny (model W.prog W.w) A (assign t cenv v) Q E { s with heap:=h',toks:=tk }:=by
      intro τ' Q E hb hw kk
      refine wpAny_with_toks (n:=N') hNk (hb.run cenv hsc A (hA.less (Nat.zero_le _)) _ _ hot oa _ v _ _ F₂.rebase (hRd _ _) fun s₃ F₃ hN₃=>?_)
      have keep:∀ b o,b ∉ mutL cenv τ oa→h'.get? b = some o→s₃.heap.get? b = some o:=fun b o nb e=>F₃.grow.sub b o (hideAll_get _ e nb)
      have up3:∀ b o,¬ hot b→h'.get? b = some o→s₃.heap.get? b = some o∧¬ hot b:=fun b o nb e=>⟨keep b o (fun q=>nb (F₂.mutNew b q).2) e,nb⟩
      have free':∀ b o,b ∉ mutL cenv τ oa→h'.get? b = some o→b ∉ mutL cenv τ' oa:=fun b o nb e q=>by
        have:=(F₃.mutNew b q).1
        rw [show (hidden cenv τ oa { s with heap:=h',toks:=tk }).heap.get? b = some o from hideAll_get _ e nb] at this; cases this
      refine kk s₃ hN₃ (F₃.debase F₂.grow_hidden F₂.wbase F₂.outMut (fun a ha=>F₂.hotnew a ha.1) F₂.outlive) { hot:=ha.hot,fresh:=ha.fresh,free:=?_,list:=?_ } (fun b hb'=>?_) (fun b hb' o e=>keep b o (mfp b hb') e)
      · obtain ⟨items,⟨m,e⟩,r,j⟩:=ha₂.list
        exact ⟨items,⟨m,keep _ _ ha.free e⟩,Rds.mono up3 _ _ r,j⟩
      · obtain ⟨items,⟨m,e⟩,r,j⟩:=ha₂.list
        exact free' D _ ha.free e
      · obtain ⟨o,e⟩:=(hW.live _ _ st').1 b hb'
        exact free' b o (mfp b hb') e
    cases hE with
    | @no _ _ _ _ hh hL=>
      obtain ⟨τ',hb,hw,ht⟩:=hh _ _ hIt
      refine next hb hw fun s₃ hN₃ F₃ ha₃ mfp₃ keep₃=>wpAny_with_toks hN₃ (ht.run cenv hsc A hA s₃ hot _ _ (F₃.goodIn ho) fun s₄ g₄ hN₄=>?_)
      simp only [Bool.false_eq_true,if_false]
      refine ⟨rfl,ih (i + 1) τ o acc hlt exs hL hz s₄ (Nat.le_trans hNN hN₄) ((F₃.grown g₄).forget hw) { (ha₃.grown g₄) with free:=fun q=>ha₃.free (hw.mutL D q) } (hW.frame _ _ _ st' fun b hb' o e=>g₄.sub b o (keep₃ b hb' o e)) mfp k⟩
    | @yes _ _ _ o1 o2 hh hL=>
      obtain ⟨τ',hb,hw,ht,hG⟩:=hh _ _ hIt
      refine next hb hw fun s₃ hN₃ F₃ ha₃ mfp₃ keep₃=>wpAny_with_toks hN₃ (ht.run cenv hsc A hA s₃ hot _ _ (F₃.goodIn ho) fun s₄ g₄ hN₄=>?_)
      simp only [if_true]
      have F₄:=F₃.grown g₄
      have ha₄:=ha₃.grown g₄
      have hl:∀ b∈D :: mutL cenv τ' oa,hot b∧base.heap.get? b = none:=fun b hb'=>by
        rcases List.mem_cons.mp hb' with q | q
        · rw [q]; exact ⟨ha.hot,ha.fresh⟩
        · exact ⟨(F₄.mutNew b q).2,(F₄.mutNew b q).1⟩
      have F₅:=F₄.rebaseX (l:=D :: mutL cenv τ' oa) (fun b q=>List.mem_cons_of_mem _ q) hl
      have kept:∀ b o,b ∉ D :: mutL cenv τ' oa→s₄.heap.get? b = some o→(hid (D :: mutL cenv τ' oa) s₄).heap.get? b = some o:=fun b o nb e=>hideAll_get _ e nb
      have fpn:∀ b∈fp,b ∉ D :: mutL cenv τ' oa:=fun b hb' q=>by
        rcases List.mem_cons.mp q with q | q
        · exact DI (q ▸ hb')
        · exact mfp₃ b hb' q
      have ho':OuterOk cenv (hid (D :: mutL cenv τ' oa) s₄) (fun a=>hot a∧a ∉ D :: mutL cenv τ' oa) scope σ:=ho.lift (fun b o nb e q=>by
        rcases F₄.hotnew b q.1 with z | z
        · exact nb z
        · rw [z] at e; cases e) (grow_hid F₄ hl).sub
      have hz1:acc.length + o1.length≤1000000:=by simp at hz; exact o11 hz
      refine hB N' τ' o1 acc hG hz1 _ _ hot s₄ _ _ hN₄ F₅ ho' { hot:=ha.hot,fresh:=hideAll_none _ List.mem_cons_self,free:=ha₄.free,list:=ha₄.list } fun s₆ hN₆ F₆ ha₆=>⟨rfl,?_⟩
      have F₇:Fm W cenv base out hot oa τ' s₆:=F₆.debase (grow_hid F₄ hl) F₄.wbase (out_hid F₄ hl) (fun a q=>F₄.hotnew a q.1) F₄.outlive
      refine ih (i + 1) τ o2 (acc ++ o1) hlt exs hL (by simp at hz ⊢; exact o13 hz) s₆ (Nat.le_trans hNN hN₆) (F₇.forget hw) { hot:=ha.hot,fresh:=ha.fresh,free:=ha.free,list:=ha₆.list } (hW.frame _ _ _ st' fun b hb' o e=>F₆.grow.sub b o (kept b o (fpn b hb') (g₄.sub b o (keep₃ b hb' o e)))) mfp ?_
      rw [List.append_assoc]
      exact k
theorem comp_loopT {tk:Bool} {N:Nat} {G:Nat→Store→List V→Prop} (hsc:cenv.scope = sc') (hA:Room A n) (hg:∀ g∈gens,PlainG cenv g) {d:Nat} (hB:BodyT W G elt gens scope pos cenv A D oa σ d) {t iter:PySem.Expr} {ifs:List PySem.Expr} (hd:gens[d]? = some ⟨t,iter,ifs,0⟩)
    {ls:List (List Nat)} {τ:Store} {o acc:List V} (hE:EmitT W n sc' scope σ t ifs tk G N ls τ o) (hz:acc.length + o.length≤1000000)
    {base:Shared} {out hot:Addr→Prop} {s₀ s:Shared} {it:Value} {R:Result→Shared→Prop} (F:Fm W cenv base out hot oa τ s₀) (ho:OuterOk cenv base out scope σ) (ha:Acc false W cenv base hot oa τ D acc s₀) (g:Grow s₀ s) (hI:ItT W A hot s₀ s it ls tk) (hN:N≤s.toks)
    (k:∀ s',N≤s'.toks→Fm W cenv base out hot oa τ s'→Acc false W cenv base hot oa τ D (acc ++ o) s'→R (.ok .next) s') :
    codeAny (model W.prog W.w) A (.compLoop (.ListComp elt gens scope pos) d it (.ref D) cenv) R s:=by
  obtain ⟨I,fp,St',rfl,hW⟩:=hI
  have I0:I∈fp:=hW.I0
  have aI:∃ o,s.heap.get? I = some o:=let ⟨o,_,e,_⟩:=(hW.live _ _ hW.st).2; ⟨o,e⟩
  have mfp:∀ b∈fp,b ∉ mutL cenv τ oa:=fun b hb q=>by
    by_cases e:b = I
    · obtain ⟨o,e'⟩:=F.alive b (F.mutNew b q).2
      rw [e,hW.fresh] at e'; cases e'
    · exact hW.apart b hb e (F.mutNew b q).2
  obtain ⟨items,⟨m,eD⟩,rD,jD⟩:=ha.list
  have DI:D ∉ fp:=fun q=>by
    by_cases e:D = I
    · rw [e,hW.fresh] at eD; cases eD
    · exact hW.apart D q e ha.hot
  have up:∀ b o,¬ hot b→s₀.heap.get? b = some o→s.heap.get? b = some o∧¬ (hot b∨b∈[I]):=fun b o nb e=>⟨g.sub b o e,fun q=>by
    rcases q with q | q
    · exact nb q
    · rw [List.mem_singleton.mp q,hW.fresh] at e; cases e⟩
  refine loop_T hsc hA hg hB hd (A':=A) hW ho (hot:=fun a=>hot a∨a∈[I]) (.inr (List.mem_singleton.mpr rfl)) (nQ F.grow.sub hW.fresh) DI ls 0 τ o acc (Nat.zero_le _) (by simp) hE hz s hN
    (F.hotter g (fun b hb=>by rw [List.mem_singleton.mp hb]; exact hW.fresh) (fun b hb=>by rw [List.mem_singleton.mp hb]; exact aI)) { hot:=.inl ha.hot,fresh:=ha.fresh,free:=ha.free,list:=⟨items,⟨m,g.sub _ _ eD⟩,Rds.mono up _ _ rD,jD⟩ } hW.st mfp fun s' h' tk hNk F' ha' mfp' hk=>?_
  have bI:base.heap.get? I = none:=nQ F.grow.sub hW.fresh
  have F'':=F'.touchOff (tk:=tk) hk fun b hb=>by rw [List.mem_singleton.mp hb]; exact ⟨bI,.inr (List.mem_singleton.mpr rfl),mfp' I I0⟩
  have hotI:∀ a,hot a→(hot a∨a∈[I])∧a ∉ [I]:=fun a q=>⟨.inl q,fun z=>by
    obtain ⟨o,e⟩:=F.alive a q
    rw [List.mem_singleton.mp z,hW.fresh] at e; cases e⟩
  have up2:∀ b o,¬ (hot b∨b∈[I])→s'.heap.get? b = some o→h'.get? b = some o∧¬ hot b:=fun b o nb e=>⟨hk b o (fun q=>nb (.inr q)) e,fun q=>nb (.inl q)⟩
  refine k _ hNk (F''.cool hotI F.outhot fun b hb=>(F.mutNew b hb).2) { hot:=ha.hot,fresh:=ha.fresh,free:=ha.free,list:=?_ }
  obtain ⟨items',⟨m',e'⟩,r',j'⟩:=ha'.list
  exact ⟨items',⟨m',hk _ _ (hotI D ha.hot).2 e'⟩,Rds.mono up2 _ _ r',j'⟩
theorem body_consT {tk:Bool} {G:Nat→Store→List V→Prop} {d:Nat} {t iter:PySem.Expr} {ifs:List PySem.Expr} (hsc:cenv.scope = sc') (hA:Room A n) (hg:∀ g∈gens,PlainG cenv g) (hd:gens[d + 1]? = some ⟨t,iter,ifs,0⟩) (hB:BodyT W G elt gens scope pos cenv A D oa σ (d + 1)) :
    BodyT W (fun N τ o=>∃ a ls,Ev W n sc' (InS τ scope σ) iter a∧IterT W a tk ls∧EmitT W n sc' scope σ t ifs tk G N ls τ o) elt gens scope pos cenv A D oa σ d:=by
  intro N τ o acc hE hz base out hot s Q E hN F ho ha k
  rw [hd]
  obtain ⟨a,ls,hEv,hI,hL⟩:=hE
  refine wpAny_with_toks hN (hEv.run cenv hsc A hA s hot _ _ (F.goodIn ho) fun v s₅ g₅ r₅ hN₅=>?_)
  refine wpAny_with_toks hN₅ (hI.run A (hA.less (Nat.zero_le _)) s₅ hot v _ _ (F.grown g₅).good.base (F.grown g₅).alive r₅ fun it' s₆ g₆ hIt hN₆=>?_)
  have run:codeAny (model W.prog W.w) A (.compLoop (.ListComp elt gens scope pos) (d + 1) it' (.ref D) cenv) (fun r s'=>match r with | .ok _=>Q s' | .error e=>cameBackBy (model W.prog W.w) A cenv E e s') s₆:=
    comp_loopT hsc hA hg hB hd hL hz (F.grown g₅) ho (ha.grown g₅) g₆ hIt hN₆ fun s' hN' F' ha'=>k s' hN' F' ha'
  refine code_compStart hd run ?_
  obtain ⟨I,fp,St',rfl,hW⟩:=hIt
  exact hW.self 0 _ _ _ hW.st run
end
theorem comp_coreT {tk:Bool} {N:Nat} {G:Nat→Store→List V→Prop} {elt t iter:PySem.Expr} {ifs:List PySem.Expr} {gs:List Comprehension} {scope:Scope} {pos p':Pos} {ts:List Str} {a:V} {ls:List (List Nat)} {o:List V} {use:Option (Value→Sem Unit)} {Q:Value→Shared→Prop} {E:Value→Shared→Prop} {A:Around} {env:Env} {hot:Addr→Prop} {s:Shared}
    (ok:okComp scope sc ts = true) (he:env.scope = sc) (hA:Room A n) (g:Good W env σ hot s)
    (hN:N≤s.toks) (hi:Ev W n sc σ iter a) (hx:IterT W a tk ls) (hE:EmitT W n (rSQ scope sc) scope σ t ifs tk G N ls (ts.map fun x=>(x,Slot.unset)) o)
    (hG:∀ cenv D A,cenv.scope = rSQ scope sc→Room A n→BodyT W G elt (⟨t,iter,ifs,0⟩ :: gs) scope pos cenv A D (fun ψ=>0) σ 0) (hz:o.length≤1000000)
    (hg:∀ e:Env,∀ c∈(⟨t,iter,ifs,0⟩:Comprehension) :: gs,PlainG e c)
    (k:∀ s' C D,Grow s s'→s.heap.get? C = none→(∃ m,s'.heap.Ns C m)→Rd s'.heap (fun a=>hot a∨a = C) (.list o) (.ref D)→D≠C→(s.heap.get? D = none∧∃ items,s'.heap.PlainList D items∧Rds s'.heap (fun a=>hot a∨a = C∨a = D) o items.toList∧JOk false W o items.toList)→compPost (model W.prog W.w) A E use Q (.ref D) C (.ok .next) s') :
    wpAny (model W.prog W.w) A (comprehension (.ListComp elt (⟨t,iter,ifs,0⟩ :: gs) scope pos) scope env p' (newList []) false (eval iter env) use) Q E s:=by
  have ok':=okComp_ok ok
  have nok:∀ {y:Str} {j k:NameKind},(y,j)∈scope.names→(y,k)∈scope.names→j = k:=fun h1 h2=>by
    have a1:=lookup_of_nodup ok'.names h1
    rw [lookup_of_nodup ok'.names h2] at a1
    exact (Option.some.inj a1).symm
  have fr:∀ x,(x,NameKind.free)∈scope.names→(env.cells.lookup x).isSome = true:=fun x hx=>g.cells x (by rw [he]; exact ok'.free x hx)
  have hnames:∀ x∈scope.names,x.2 = .local→scope.names.lookup x.1 = some .local:=fun x hx hl=>lookup_of_nodup ok'.names (by rw [← hl]; exact hx)
  refine wpAny_comprehension_free (g:=⟨t,iter,ifs,0⟩) (gs:=gs) (cl:=clOf env scope.names []) rfl (hg env _ List.mem_cons_self).2 (closureFor_is fr) ok'.kind hnames
    (wpAny_with_toks hN (hi.run env he A hA s hot _ _ g fun v s₁ g₁ r₁ hN₁=>wpAny_with_toks hN₁ (hx.run A (hA.less (Nat.zero_le _)) s₁ hot v _ _ (g.grow g₁).base (g.grow g₁).alive r₁ fun it s₂ g₂ hI hN₂=>?_)))
  -- the list,the scope
  have hz0:([]:List Value).toArray.size≤sizeLine:=by simp
  refine wpAny_newObj_type ?_ hz0
  generalize hD:s₂.heap.objs.size = D
  generalize hs₃:({ s₂ with heap:=s₂.heap.push { cls:=.type "list",dict:=Option.none,data:=.seq ([]:List Value).toArray } }:Shared) = s₃
  have up₃:Sub s₂.heap s₃.heap:=by rw [← hs₃]; exact fun b o e=>Heap.get?_push_of_some _ e
  have sz₃:s₃.heap.objs.size = D + 1:=by rw [← hs₃]; show (s₂.heap.push _).objs.size = _; rw [Heap.size_push,hD]
  have plD₃:s₃.heap.PlainList D #[]:=⟨0,by rw [← hs₃,← hD]; exact Heap.get?_push_size _ rfl⟩
  refine wp_newCompEnv ?_
  generalize hC:s₃.heap.objs.size = C
  generalize hs₄:({ s₃ with heap:=pushCells (s₃.heap.push { cls:=.type "dict",data:=.dict #[] }) scope.names }:Shared) = s₄
  have up₄:Sub s₃.heap s₄.heap:=by rw [← hs₄]; exact fun b o e=>pushCells_keeps _ _ b o (Heap.get?_push_of_some _ e)
  have nsC₄:s₄.heap.Ns C fun ψ=>none:=by rw [← hs₄,← hC]; exact (Heap.Ns.new s₃.heap (.type "dict")).keeps (pushCells_keeps _ _)
  have cellH:∀ x,(x,NameKind.cell)∈scope.names→s₄.heap.IsCell (C + 1 + cellIdx scope.names x) none:=fun x hx=>by
    have:=cf_heap scope.names (s₃.heap.push { cls:=.type "dict",data:=.dict #[] }) x ok'.names hx
    rw [Heap.size_push,hC] at this
    rw [← hs₄]; exact this
  -- the environment of the comprehension
  generalize hcenv:({ ({ scope,locals:=C,globals:=env.globals,cells:=cellsFrom (C + 1) scope.names (clOf env scope.names []),qual:=env.qual,func:=none,code:=env.code,frame:=env.frame,builtins:=env.builtins }:Env) with scope:=relabel scope env }:Env) = cenv
  have cL:cenv.locals = C:=by rw [← hcenv]
  have csc:cenv.scope = rSQ scope sc:=by rw [← hcenv,← he]; exact relabel_is g.kind
  have ccl:cenv.cells = cellsFrom (C + 1) scope.names (clOf env scope.names []):=by rw [← hcenv]
  have own:∀ x,(x,NameKind.cell)∈scope.names→cenv.cells.lookup x = some (C + 1 + cellIdx scope.names x):=fun x hx=>by rw [ccl]; exact cf_cell _ _ _ _ ok'.names hx
  have outer:∀ x,(x,NameKind.free)∈scope.names→cenv.cells.lookup x = env.cells.lookup x:=fun x hx=>by
    rw [ccl,cf_other _ _ _ _ fun q=>by have:=nok hx q; cases this]
    refine clOf_lookup _ _ _ ok'.names (fr x hx) (.inl hx) fun q=>?_
    obtain ⟨p,hp,e⟩:=List.mem_map.mp q
    obtain ⟨hp1,hp2⟩:=List.mem_filter.mp hp
    obtain ⟨y,j⟩:=p
    subst e
    have:=nok hx hp1
    subst this; cases hp2
  have new₂:∀ b,s₂.heap.get? b = none→s₁.heap.get? b = none:=fun b e=>nQ g₂.sub e
  have newD₂:s₂.heap.get? D = none:=by rw [← hD]; exact gNQ _
  have newBig:∀ b,C≤b→s₃.heap.get? b = none:=fun b hb=>by
    cases e:s₃.heap.get? b with
    | none=>rfl
    | some o=>exact absurd (Heap.lt_size e) (Nat.not_lt.mpr (hC ▸ hb))
  have newBig₁:∀ b,C≤b→s₁.heap.get? b = none:=fun b hb=>new₂ b (nQ up₃ (newBig b hb))
  obtain ⟨I,fp,St',rfl,hW⟩:=hI
  have hN₄:N≤s₄.toks:=by
    rw [← hs₄]; show N≤s₃.toks; rw [← hs₃]; exact hN₂
  have liveI:=(hW.live _ _ hW.st).2
  have liveF:=(hW.live _ _ hW.st).1
  have DneC:D≠C:=by rw [← hC,sz₃]; exact Nat.ne_of_lt (Nat.lt_succ_self _)
  have ltC:∀ b o,s₂.heap.get? b = some o→b < D:=fun b o e=>hD ▸ Heap.lt_size e
  have gAll:Grow s₁ s₄:=⟨fun b o e=>up₄ b o (up₃ b o (g₂.sub b o e)),by rw [← hs₄,← hs₃]; exact g₂.os,fun q=>by rw [← hs₄,← hs₃]; exact g₂.gens q⟩
  let τ:Store:=ts.map fun x=>(x,Slot.unset)
  let hot₄:Addr→Prop:=fun a=>hot a∨a = I∨a = D∨a = C∨∃ x,(x,NameKind.cell)∈scope.names∧a = C + 1 + cellIdx scope.names x
  have alive₁:=(g.grow g₁).alive
  have tn:τ.map (·.1) = ts:=by show (ts.map _).map _ = _; rw [List.map_map]; exact List.map_id' _
  have inTs:∀ p∈τ,p.1∈ts:=fun p hp=>tn ▸ List.mem_map_of_mem hp
  have unsetτ:∀ p∈τ,p.2 = .unset:=fun p hp=>by obtain ⟨x,_,e⟩:=List.mem_map.mp hp; rw [← e]
  have cellMem:∀ x∈ts,(rSQ scope sc).names.lookup x = some .cell→(x,NameKind.cell)∈scope.names:=fun x hx h=>by
    rcases ok'.lc x hx with q | q
    · rw [relabelS_keep (by decide) q] at h; cases h
    · exact mem_of_lookup q
  have F₄:Fm W cenv s₁ hot hot₄ (fun ψ=>0) τ s₄:={
    wbase:=(g.grow g₁).base
    grow:=gAll
    kind:=by rw [csc]; exact ok'.kind
    globals:=by rw [← hcenv]; exact g.globals
    builtins:=by rw [← hcenv]; exact g.builtins
    nodup:=by rw [tn]; exact ok'.nodup
    isv:=fun p hp=>by rw [csc]; exact isVar_relabel (ok'.isv _ (inTs p hp))
    lc:=fun p hp=>by
      rw [csc]
      rcases ok'.lc _ (inTs p hp) with q | q
      · exact .inl (relabelS_keep (by decide) q)
      · exact .inr (relabelS_keep (by decide) q)
    ns:=⟨_,by rw [cL]; exact nsC₄⟩
    nsNew:=by rw [cL]; exact newBig₁ C (Nat.le_refl _)
    cells:=fun x hx=>by
      rw [csc] at hx
      have hm:x∈(rSQ scope sc).names.map (·.1):=by
        rcases hx with q | q <;> exact List.mem_map_of_mem (mem_of_lookup q)
      rw [relabelS_names] at hm
      obtain ⟨p,hp,e⟩:=List.mem_map.mp hm
      obtain ⟨y,j⟩:=p
      subst e
      by_cases hj:j = .free
      · subst hj; rw [outer y hp]; exact fr y hp
      · have:=relabelS_keep (sc:=sc) hj (lookup_of_nodup ok'.names hp)
        rcases hx with q | q
        · rw [this] at q; cases q; rw [own y hp]; rfl
        · rw [this] at q; cases q; exact absurd rfl hj
    cl:=fun p hp hk=>by
      rw [csc] at hk
      have hm:=cellMem _ (inTs p hp) hk
      exact ⟨C + 1 + cellIdx scope.names p.1,_,own _ hm,cellH _ hm,newBig₁ (C + 1 + cellIdx scope.names p.1) (nc2 _ _),by rw [cL]; exact nc1 _ _,.inr (.inr (.inr (.inr ⟨_,hm,rfl⟩)))⟩
    apart:=fun p hp q hq k1 k2 c h1 h2=>by
      rw [csc] at k1 k2
      have m1:=cellMem _ (inTs p hp) k1
      have m2:=cellMem _ (inTs q hq) k2
      rw [own _ m1] at h1; rw [own _ m2] at h2
      exact cellIdx_inj _ _ _ ok'.names m1 m2 (nc9 ((Option.some.inj h1).trans (Option.some.inj h2).symm))
    ownCell:=fun p hp q hq hk ho=>by rw [unsetτ q hq] at ho; cases ho
    vars:=fun p hp=>by rw [unsetτ p hp]; trivial
    alive:=fun b hb=>by
      rcases hb with hb | hb | hb | hb | ⟨x,hx,hb⟩
      · obtain ⟨o,e⟩:=alive₁ b hb; exact ⟨o,gAll.sub b o e⟩
      · obtain ⟨o,_,e,_⟩:=liveI; exact ⟨o,by rw [hb]; exact up₄ _ _ (up₃ _ _ e)⟩
      · obtain ⟨m,e⟩:=plD₃; exact ⟨_,by rw [hb]; exact up₄ _ _ e⟩
      · obtain ⟨o,_,_,e,_⟩:=nsC₄; exact ⟨o,by rw [hb]; exact e⟩
      · obtain ⟨o,e,_⟩:=cellH x hx; exact ⟨o,by rw [hb]; exact e⟩
    outhot:=fun b hb=>.inl hb
    outlive:=alive₁
    hotnew:=fun b hb=>by
      rcases hb with hb | hb | hb | hb | ⟨x,hx,hb⟩
      · exact .inl hb
      · exact .inr (by rw [hb]; exact hW.fresh)
      · exact .inr (by rw [hb]; exact new₂ _ newD₂)
      · exact .inr (by rw [hb]; exact newBig₁ _ (Nat.le_refl _))
      · exact .inr (newBig₁ b (nc3 hb))
    nshot:=by rw [cL]; exact .inr (.inr (.inr (.inl rfl)))
    inj:=fun p hp q hq ho=>by rw [unsetτ p hp] at ho; cases ho }
  have mutC:∀ b∈mutL cenv τ (fun ψ=>0),C≤b:=fun b hb=>by
    rcases mQ.mp hb with e | ⟨p,hp,h1,h2⟩ | ⟨p,hp,h1,_⟩
    · rw [e,cL]; exact Nat.le_refl _
    · rw [csc] at h1
      rw [own _ (cellMem _ (inTs p hp) h1)] at h2
      exact nc3 (Option.some.inj h2).symm
    · rw [unsetτ p hp] at h1; cases h1
  have DltC:D < C:=by rw [← hC,sz₃]; exact Nat.lt_succ_self _
  have hO:OuterOk cenv s₁ hot scope σ:=fun p hp hf hv=>by
    have hfree:=mem_of_lookup (beq_iff_eq.mp hf)
    have hk:=ok'.free _ hfree
    have hv':isVar env.scope p.1 = true:=by
      unfold isVar at hv ⊢
      simp only [Bool.and_eq_true] at hv ⊢
      refine ⟨hv.1,?_⟩
      rw [he]
      rcases hk with q | q <;> rw [q]
    have old:=(g.grow g₁).vars p hp hv'
    have kin:cenv.scope.names.lookup p.1 = some .cell∨cenv.scope.names.lookup p.1 = some .free:=by
      rw [csc,relabelS_free (beq_iff_eq.mp hf)]
      by_cases q:sc.names.lookup p.1 = some .cell
      · rw [if_pos q]; exact .inl rfl
      · rw [if_neg q]; exact .inr rfl
    have vi:∀ v,VarIs env s₁.heap p.1 v→VarIs cenv s₁.heap p.1 v:=fun v y=>by
      rcases y with ⟨q,_⟩ | ⟨_,c,hc,hv⟩
      · rw [he] at q; rcases hk with hk | hk <;> rw [hk] at q <;> cases q
      · exact .inr ⟨kin,c,by rw [outer _ hfree]; exact hc,hv⟩
    cases q:p.2 with
    | unset=>trivial
    | val d=>rw [q] at old; obtain ⟨v,y,z⟩:=old; exact ⟨v,vi v y,z⟩
    | own l=>rw [q] at old; obtain ⟨x,items,y,z⟩:=old; exact ⟨x,items,vi _ y,z⟩
    | app l=>trivial
  have I0:I∈fp:=hW.I0
  have fpD:∀ b∈fp,b < D:=fun b hb=>let ⟨o,e⟩:=liveF b hb; ltC b o e
  have notHot:∀ b,hot b→b < D:=fun b hb=>let ⟨o,e⟩:=alive₁ b hb; ltC b o (g₂.sub b o e)
  have acc₄:Acc false W cenv s₁ hot₄ (fun ψ=>0) τ D [] s₄:={
    list:=let ⟨m,e⟩:=plD₃; ⟨#[],⟨m,up₄ _ _ e⟩,.nil,.nil⟩
    hot:=.inr (.inr (.inl rfl))
    fresh:=new₂ _ newD₂
    free:=fun q=>nc8 DltC (mutC D q) }
  have hgen:∀ c∈(⟨t,iter,ifs,0⟩:Comprehension) :: gs,PlainG cenv c:=hg cenv
  have run:codeAny (model W.prog W.w) A (.compLoop (.ListComp elt (⟨t,iter,ifs,0⟩ :: gs) scope pos) 0 (.ref I) (.ref D) cenv) (compPost (model W.prog W.w) A E use Q (.ref D) C) s₄:=by
    refine loop_T csc hA hgen (hG cenv D A csc hA) rfl (A':=A) hW hO (hot:=hot₄) (.inr (.inl rfl)) hW.fresh (fun q=>Nat.lt_irrefl _ (fpD D q)) ls 0 τ o [] (Nat.zero_le _) (by simp) hE (by simpa using hz) s₄ hN₄ F₄ acc₄
      (hW.frame _ _ _ hW.st fun b ψ o e=>up₄ b o (up₃ b o e)) (fun b hb q=>nc7 (fpD b hb) DltC (mutC b q)) fun s' h' tk hNk F' ha' mfp' hk=>?_
    obtain ⟨items,⟨m,eD⟩,rD,jD⟩:=ha'.list
    have DI:D≠I:=fun q=>Nat.lt_irrefl _ (q ▸ fpD I I0)
    have CI:C≠I:=fun q=>nc6 (fpD I I0) DltC q.symm
    refine k _ C D (g₁.trans ⟨fun b o e=>hk b o (fun q=>by rw [List.mem_singleton.mp q,hW.fresh] at e; cases e) (F'.grow.sub b o e),F'.grow.os,F'.grow.gens⟩) (nQ g₁.sub (newBig₁ C (Nat.le_refl _))) ?_ ?_ DneC ⟨nQ g₁.sub (new₂ _ newD₂),items,⟨m,hk _ _ (fun q=>DI (List.mem_singleton.mp q)) eD⟩,?_,by simpa using jD⟩
    · obtain ⟨mm,hm⟩:=F'.ns
      rw [cL] at hm
      exact ⟨mm,hm.at' fun o e=>hk C o (fun q=>CI (List.mem_singleton.mp q)) e⟩
    · show Rd h' _ (.list o) (.ref D)
      unfold Rd
      refine ⟨D,items,rfl,fun q=>?_,⟨m,hk _ _ (fun q=>DI (List.mem_singleton.mp q)) eD⟩,?_⟩
      · rcases q with q | q
        · exact Nat.lt_irrefl _ (notHot D q)
        · exact DneC q
      · have rD':Rds s'.heap hot₄ o items.toList:=by simpa using rD
        refine Rds.mono (fun b o nb e=>⟨hk b o (fun q=>nb (.inr (.inl (List.mem_singleton.mp q)))) e,fun q=>?_⟩) _ _ rD'
        rcases q with q | q
        · exact nb (.inl q)
        · exact nb (.inr (.inr (.inr (.inl q))))
    · have rD':Rds s'.heap hot₄ o items.toList:=by simpa using rD
      refine Rds.mono (fun b o nb e=>⟨hk b o (fun q=>nb (.inr (.inl (List.mem_singleton.mp q)))) e,fun q=>?_⟩) _ _ rD'
      rcases q with q | q | q
      · exact nb (.inl q)
      · exact nb (.inr (.inr (.inr (.inl q))))
      · exact nb (.inr (.inr (.inl q)))
  refine code_compStart rfl run (hW.self 0 _ _ _ (hW.frame _ _ _ hW.st fun b ψ o e=>up₄ b o (up₃ b o e)) run)
theorem RunsN.assignComp {tk:Bool} {N:Nat} {G:Nat→Store→List V→Prop} {x:Str} {p spos:Pos} {elt t iter:PySem.Expr} {ifs:List PySem.Expr} {gs:List Comprehension} {scope:Scope} {pos:Pos} (ts:List Str) {a:V} {ls:List (List Nat)} {o:List V} {σ':Store}
    (ok:okComp scope sc ts = true) (hi:Ev W n sc σ iter a) (hx:IterT W a tk ls) (hE:EmitT W n (rSQ scope sc) scope σ t ifs tk G N ls (ts.map fun x=>(x,Slot.unset)) o)
    (hG:∀ cenv D A,cenv.scope = rSQ scope sc→Room A n→BodyT W G elt (⟨t,iter,ifs,0⟩ :: gs) scope pos cenv A D (fun ψ=>0) σ 0) (hz:o.length≤1000000)
    (hg:∀ e:Env,∀ c∈(⟨t,iter,ifs,0⟩:Comprehension) :: gs,PlainG e c) (hp:Put x (.val (.list o)) σ σ') (hn:noApp x σ) :
    RunsN W N n sc (.Assign [.Name x p] (.ListComp elt (⟨t,iter,ifs,0⟩ :: gs) scope pos) spos) σ (.next σ'):=
  ⟨fun env he A hA base out hot oa s Q E hN F k=>by
    have hb:∃ b,swapsWith (.ListComp elt (⟨t,iter,ifs,0⟩ :: gs) scope pos) (some (.Name x p)) spos.line env = pure b:=⟨_,rfl⟩
    obtain ⟨b,hb⟩:=hb
    cases b with
    | false=>
      refine wpAny_Assign_Name ?_ hb
      rw [eval_ListComp]
      refine comp_coreT ok he hA F.good hN hi hx hE hG hz hg fun s' C D g' hC hm r hne ψ=>?_
      obtain ⟨m,hm⟩:=hm
      have up:∀ h',Heap.SameBut C s'.heap h'→Grow s { s' with heap:=h' }:=fun h' hs'=>⟨fun b o e=>(hs'.2 b (fun q=>by rw [q,hC] at e; cases e)).trans (g'.sub b o e),g'.os,g'.gens⟩
      refine ⟨m,hm,fun h' hs'=>(F.grown (up h' hs')).store hp (Rd.mono (fun b o nb e=>⟨(hs'.2 b (fun q=>nb (.inr q))).trans e,fun q=>nb (.inl q)⟩) _ _ r) hn fun s₂ F₂=>k _ _ ⟨rfl,hot,oa,F₂⟩⟩
    | true=>
      rw [exec_Assign_Name_used _ _ _ _ hb]
      refine wpAny_bind (wpAny_standAt (wpAny_bind ?_))
      show wpAny _ A (do let _ ← comprehension (PySem.Expr.ListComp elt (⟨t,iter,ifs,0⟩ :: gs) scope pos) scope env _ (newList []) false (eval iter env) (some (PySem.assign (PySem.Expr.Name x p) env))) _ _ s
      refine wpAny_bind (comp_coreT (Q:=fun v s'=>wpAny (model W.prog W.w) A (pure ()) (fun ψ s=>wpAny (model W.prog W.w) A (pure Flow.next) Q E s) E s') ok he hA F.good hN hi hx hE hG hz hg fun s' C D g' hC hn' r hne ψ=>?_)
      obtain ⟨m,hm⟩:=hn'
      have aC:∃ o,s'.heap.get? C = some o:=let ⟨o,_,_,e,_⟩:=hm; ⟨o,e⟩
      have F₁:=F.hotter g' (wr:=[C]) (fun b hb=>by rw [List.mem_singleton.mp hb]; exact hC) (fun b hb=>by rw [List.mem_singleton.mp hb]; exact aC)
      have r':Rd s'.heap (fun a=>hot a∨a∈[C]) (.list o) (.ref D):=Rd.mono (fun b o nb e=>⟨e,fun q=>nb (by
        rcases q with q | q
        · exact .inl q
        · exact .inr (List.mem_singleton.mp q))⟩) _ _ r
      have Cm:C ∉ mutL env σ oa:=fun q=>by
        obtain ⟨o,e⟩:=F.alive C (F.mutNew C q).2
        rw [hC] at e; cases e
      show wpAny _ A (PySem.assign (PySem.Expr.Name x p) env (Value.ref D)) _ E s'
      have Fr:=F₁.rebase
      refine wpAny_assign_Name (Fr.store hp r' hn fun s₂ F₂=>?_)
      have hmC:s₂.heap.Ns C m:=hm.at' fun o e=>F₂.grow.sub C o (hideAll_get _ e Cm)
      refine ⟨m,hmC,fun h' hs'=>wpAny_pure (wpAny_pure (k _ _ ⟨rfl,(fun a=>(hot a∨a∈[C])∧a ∉ [C]),oa,?_⟩))⟩
      have F₃:Fm W env base out (fun a=>hot a∨a∈[C]) oa σ' s₂:=F₂.debase F₁.grow_hidden F₁.wbase F₁.outMut (fun a ha=>F₁.hotnew a ha.1) F₁.outlive
      refine F₃.touchOff (tk:=s₂.toks) (wr:=[C]) (fun b o hb e=>(hs'.2 b (fun q=>hb (List.mem_singleton.mpr q))).trans e) fun b hb=>?_
      rw [List.mem_singleton.mp hb]
      refine ⟨nQ F.grow.sub hC,.inr (List.mem_singleton.mpr rfl),fun q=>?_⟩
      have:=(F₂.mutNew C q).1
      obtain ⟨o,e⟩:=aC
      rw [show (hidden env σ oa s').heap.get? C = some o from hideAll_get _ e Cm] at this; cases this⟩
end
section
section
open Builtin Builtin.Str
theorem gives_replace1 (x y z:Str) (t u v w:Tok) (h0:(u == 0 || v == 0) = false) (huv:(u == v) = false) (hyz:(y == z) = false) (hn:(y.length == 0 && z.length == 0) = false) (hl:tooLong (x.length + (occurrences x y 0 x.length 1).length * z.length) = false) :
    Gives («str.replace» ⟨[.str x t,.str y u,.str z v,.int 1 w],[]⟩) (if (occurrences x y 0 x.length 1).isEmpty = true then .val (.str x t) else .str (glued z (partsBetween x (occurrences x y 0 x.length 1) y.length))):=by
  show Gives (if ((occurrences x y 0 x.length 1).isEmpty || (y.length == 0 && z.length == 0)) = true then (do rule "str.replace.nothing"; ret (.str x t)) else
          (do let same ← isSame (.str y u) (.str z v)
              if same = true then (do rule "str.replace.old-is-new"; ret (.str x t)) else
              if tooLong (x.length + (occurrences x y 0 x.length 1).length * z.length) = true then unsupported "str.replace:memory" else
              retStr (glued z (partsBetween x (occurrences x y 0 x.length 1) y.length)))) _
  rw [hn,Bool.or_false]
  cases hc:(occurrences x y 0 x.length 1).isEmpty
  · rw [isSame_str_other y z u v h0 huv hyz,hl]
    exact .of_eq rfl
  · exact .rule (.of_eq rfl)
theorem erase_at {c:Nat}:∀ (l:List Nat) (i:Nat),l[i]? = some c→(∀ k,k < i→l[k]?≠some c)→l.take i ++ l.drop (i + 1) = l.erase c
  | [],i,h,_=>by simp at h
  | x :: l,0,h,_=>by
    simp at h
    subst h; simp
  | x :: l,i + 1,h,hk=>by
    have hx:x≠c:=fun e=>hk 0 (Nat.succ_pos _) (by simp [e])
    rw [List.erase_cons_tail (by simpa using hx),← erase_at l i (by simpa using h) fun k q=>by simpa using hk (k + 1) (Nat.succ_lt_succ q)]
    rfl
theorem occ1 (l:List Nat) (c:Nat):(occurrences (St l) ⟨#[c]⟩ 0 (St l).length 1 = []∧c ∉ l)∨∃ i,occurrences (St l) ⟨#[c]⟩ 0 (St l).length 1 = [i]∧l[i]? = some c∧∀ k,k < i→l[k]?≠some c:=by
  have h3:(St l).cps.toList = l:=by simp [St]
  have at':∀ i,StrLaws.At (St l) ⟨#[c]⟩ (St l).length i↔l[i]? = some c:=fun i=>by
    have:=StrLaws.subAt_one (St l) c i
    rw [h3] at this; exact this
  rcases StrLaws.occ_head (St l) ⟨#[c]⟩ 1 (Nat.le_refl _) with ⟨h1,h2⟩ | ⟨i,r,h1,h2,h3'⟩
  · refine .inl ⟨h1,fun hm=>?_⟩
    obtain ⟨i,hi⟩:=List.mem_iff_getElem?.mp hm
    exact h2 i ((at' i).mpr hi)
  · have hlen:=StrLaws.occ_length_le (St l) ⟨#[c]⟩ 0 (St l).length 1
    rw [h1] at hlen
    have hr:r = []:=by cases r with
      | nil=>rfl
      | cons a b=>simp at hlen
    subst hr
    exact .inr ⟨i,h1,(at' i).mp h2,fun k hk e=>h3' k hk ((at' k).mpr e)⟩
theorem replace1_St (l:List Nat) (c:Nat):(if (occurrences (St l) ⟨#[c]⟩ 0 (St l).length 1).isEmpty = true then St l else glued (St []) (partsBetween (St l) (occurrences (St l) ⟨#[c]⟩ 0 (St l).length 1) 1)) = St (l.erase c):=by
  rcases occ1 l c with ⟨h1,h2⟩ | ⟨i,h1,h2,h3⟩
  · rw [h1,List.erase_of_not_mem h2]; rfl
  · rw [h1,← erase_at l i h2 h3]
    have hi:i < l.length:=(List.getElem?_eq_some_iff.mp h2).1
    simp [partsBetween,glued,strSub,St,Str.length]
    congr 1
    exact List.take_of_length_le (by simp)
end
section
variable {W:Wo} {n:Nat} {sc:Scope} {σ σ':Store} {env:Env} {base:Shared} {out hot:Addr→Prop} {oa:Str→Addr}
theorem EvN.replace1 {x y:Str} {p px apos pos p2 p3:Pos} {j2 j3:Nat} {l:List Nat} {c N:Nat} {t:Tok} (hx:(x,Slot.val (.val (.str (St [c]) t)))∈σ) (hvx:isVar sc x = true) (hy:(y,Slot.val (.str l))∈σ) (hvy:isVar sc y = true) (ht:1≤t) (hN:t + 1≤N)
    (hbase:∀ env,attributeBase (.Name y p) "replace" env (eval (.Name y p) env) = eval (.Name y p) env) (hline:(apos.endLine == pos.line) = true) (hb:Str.ofString "" = St []) (hz:l.length≤1000000)
    (hargs:∀ env,starEach [.Name x px,.Constant (.str (Str.ofString "")) j2 p2,.Constant (.int 1) j3 p3] env = [(false,eval (.Name x px) env),(false,eval (.Constant (.str (Str.ofString "")) j2 p2) env),(false,eval (.Constant (.int 1) j3 p3) env)]) :
    EvN W N n sc σ (.Call (.Attribute (.Name y p) "replace" apos) [.Name x px,.Constant (.str (Str.ofString "")) j2 p2,.Constant (.int 1) j3 p3] [] pos) (.str (l.erase c)):=
  ⟨fun env he A hA s hot Q E hN' g k=>by
    refine wpAny_with_toks hN' ?_
    have hN0:t + 1≤s.toks:=Nat.le_trans hN hN'
    refine wpAny_Call_method_lateS (hbase env) ?_ hline (wpAny_with_toks hN0 ((Ev.name hy hvy).run env he A hA s hot _ _ g fun v s₁ g₁ r₁ hN₁=>?_))
    · rw [hargs]; rfl
    obtain ⟨u,rfl⟩:=sQ r₁
    refine ⟨"str","str.replace",mRQ.pa,mRQ.slot,mRQ.ty,typeIs_str _ _ _,fun ψ e=>(nomatch e),?_⟩
    refine Calls.callWith_builtin (by rw [hargs]; rfl) (evalArgs_any (by rw [hargs]; rfl) ?_)
    rw [hargs]
    refine Calls.spliced_cons ?_
    refine wpAny_with_toks hN₁ ?_
    refine (Ev.name hx hvx).run env he A hA s₁ hot _ _ (g.grow g₁) fun v s₂ g₂ r₂ hN₂=>?_
    cases rd_val r₂
    refine Calls.spliced_cons ?_
    refine @wpAny_mkText _ _ _ _ _ _ ?_
    refine Calls.spliced_cons ?_
    refine @wpAny_Constant_int (model W.prog W.w) A _ _ env 1 j3 p3 _ ?_
    refine Calls.spliced_nil ?_
    have hne:(St [c] == (Str.ofString "")) = false:=by
      rw [hb]; exact beq_eq_false_iff_ne.mpr fun e=>by
        have:(St [c]).cps.toList = (St []).cps.toList:=by rw [e]
        simp [St] at this
    have hlen:=StrLaws.occ_length_le (St l) ⟨#[c]⟩ 0 (St l).length 1
    refine call_gives F.slot_str_replace (typeIs_str _ _ _) F.entry_str_replace (F.args_str_replace_4 _ _ _ _)
      (gives_replace1 (St l) (St [c]) (Str.ofString "") u t s₂.toks _ (by
        have h1:t≠0:=Nat.ne_of_gt ht
        have h2:s₂.toks≠0:=Nat.ne_of_gt (Nat.lt_of_le_of_lt (Nat.zero_le t) hN₂)
        simp [h1,h2]) (by
        have h3:t≠s₂.toks:=Nat.ne_of_lt hN₂
        simp [h3]) hne (by rfl) (by
        rw [hb]
        show Builtin.Str.tooLong ((St l).length + _ * 0) = false
        unfold Builtin.Str.tooLong sizeLine
        rw [St_len]
        exact decide_eq_false (by omega))) ?_
    have hr:=replace1_St l c
    have done:∀ t' tk',N≤tk'→Q (.str (St (l.erase c)) t') { s₂ with toks:=tk' }:=fun t' tk' hk=>k _ _ ((g₁.trans g₂).trans .tok) hk mk_str
    have hlen2:(l.erase c).length≤16777216:=Nat.le_trans (List.length_erase_le ..) (by exact o6 hz)
    rw [hb]
    have hr':(if (Builtin.Str.occurrences (St l) (St [c]) 0 (St l).length 1).isEmpty = true then St l else Builtin.Str.glued (St []) (Builtin.Str.partsBetween (St l) (Builtin.Str.occurrences (St l) (St [c]) 0 (St l).length 1) (St [c]).length)) = St (l.erase c):=hr
    cases he':(Builtin.Str.occurrences (St l) (St [c]) 0 (St l).length 1).isEmpty
    · rw [he'] at hr'
      simp only [Bool.false_eq_true,if_false] at hr' ⊢
      refine ⟨?_,fun hk=>?_⟩
      · rw [hr',St_len,sizeLine_eq]
        exact Nat.le_trans hlen2 (by decide)
      · refine k _ _ ((((g₁.trans g₂).trans .tok).trans .tok).trans .tok) hk ?_
        rw [hr']
        exact mk_str
    · rw [he'] at hr'
      simp only [if_true] at hr' ⊢
      intro hk
      refine k _ _ (((g₁.trans g₂).trans .tok).trans .tok) hk ?_
      rw [hr']
      exact mk_str⟩
end
end
section
variable {W:Wo} {n:Nat} {sc:Scope} {σ σ':Store} {env:Env} {base:Shared} {out hot:Addr→Prop} {oa:Str→Addr}
structure ForT (W:Wo) (env:Env) (base:Shared) (out:Addr→Prop) (I:Addr) (fp:List Addr) (St':Nat→Heap→Prop) (N:Nat) (hot:Addr→Prop) (oa:Str→Addr) (σ:Store) (i:Nat) (s:Shared):Prop where
  F:Fm W env base out hot oa σ s
  tk:N≤s.toks
  st:St' i s.heap
  mfp:∀ b∈fp,b ∉ mutL env σ oa
  hI:hot I
  bI:base.heap.get? I = none
theorem forT_core {tk:Bool} {N:Nat} {t:PySem.Expr} {st:Stmt} {ls:List (List Nat)} {A:Around} {it':Value} {s₁ s₂:Shared} {R:Result→Shared→Prop} (σs:Nat→Store) (he:env.scope = sc) (hA:Room A n)
    (step:∀ i l x N',ls[i]? = some l→ItemT tk N l x N'→N≤N'∧∃ τ τ',Binds W sc t x (σs i) τ∧RunsN W N' n sc st τ (.next τ')∧Wk τ' (σs (i + 1)))
    (F₁:Fm W env base out hot oa (σs 0) s₁) (g₂:Grow s₁ s₂) (ht₂:N≤s₂.toks) (hI:ItT W A hot s₁ s₂ it' ls tk)
    (k:∀ hot' oa' s',N≤s'.toks→Fm W env base out hot' oa' (σs ls.length) s'→R (.ok .next) s'):codeAny (model W.prog W.w) A (.forLoop t it' [st] [] env) R s₂:=by
    obtain ⟨I,fp,St',rfl,hW⟩:=hI
    have I0:I∈fp:=hW.I0
    have aI:∃ o,s₂.heap.get? I = some o:=let ⟨o,_,e,_⟩:=(hW.live _ _ hW.st).2; ⟨o,e⟩
    have nI:∀ b,hot b→b≠I:=fun b hb q=>by
      obtain ⟨o,e⟩:=F₁.alive b hb
      rw [q,hW.fresh] at e; cases e
    have notfp:∀ b∈fp,hot b→False:=fun b hb q=>by
      by_cases e:b = I
      · exact nI b q e
      · exact hW.apart b hb e q
    have start:ForT W env base out I fp St' N (fun a=>hot a∨a∈[I]) oa (σs 0) 0 s₂:=by
      have F₂:=F₁.hotter g₂ (wr:=[I]) (fun b hb=>by rw [List.mem_singleton.mp hb]; exact hW.fresh) (fun b hb=>by rw [List.mem_singleton.mp hb]; exact aI)
      exact ⟨F₂,ht₂,hW.st,fun b hb q=>notfp b hb (F₁.mutNew b q).2,.inr (List.mem_singleton.mpr rfl),nQ F₁.grow.sub hW.fresh⟩
    refine codeAny_forLoop_any (fun c s=>∃ i hot oa,i≤ls.length∧c = ls.length - i∧ForT W env base out I fp St' N hot oa (σs i) i s) (fun c s₁ inv=>?_) _ ⟨0,_,oa,Nat.zero_le _,rfl,start⟩
    obtain ⟨i,hot₁,oa₁,hi,rfl,f⟩:=inv
    by_cases hlt:i < ls.length
    · have hx:ls[i]? = some ls[i]:=by simp [hlt]
      refine hW.item i N s₁ ls[i] _ _ f.tk hx f.st fun v x N' h' tk' hIt hRd hNN hNk st' hk=>?_
      obtain ⟨o,T,ho,hc,hq⟩:=(hW.live _ _ st').2
      have F₂:Fm W env base out hot₁ oa₁ (σs i) { s₁ with heap:=h',toks:=tk' }:=f.F.touch hk fun b hb=>by
        rw [List.mem_singleton.mp hb]; exact ⟨f.bI,f.hI,f.mfp I I0,o,ho⟩
      obtain ⟨_,τ,τ',hb,hst,hw⟩:=step i _ x N' hx hIt
      refine letOwned_quiet ho hc hq ?_
      refine wpAny_with_toks (n:=N') (show N'≤({ s₁ with heap:=h',toks:=tk' }:Shared).toks from hNk) (hb.run env he A (hA.less (Nat.zero_le _)) _ _ hot₁ oa₁ _ v _ _ F₂.rebase (hRd _ _) fun s₃ F₃ ht₃=>?_)
      have liveFp:∀ b∈fp,∃ o,h'.get? b = some o:=fun b hb=>(hW.live _ _ st').1 b hb
      have kept₃:∀ b o,b ∉ mutL env (σs i) oa₁→h'.get? b = some o→s₃.heap.get? b = some o:=fun b o nb e=>F₃.grow.sub b o (hideAll_get _ e nb)
      have st₃:St' (i + 1) s₃.heap:=hW.frame _ _ _ st' fun b hb o e=>kept₃ b o (f.mfp b hb) e
      have mfp₃:∀ b∈fp,b ∉ mutL env τ oa₁:=fun b hb q=>by
        obtain ⟨o,e⟩:=liveFp b hb
        have:=(F₃.mutNew b q).1
        rw [show (hidden env (σs i) oa₁ { s₁ with heap:=h',toks:=tk' }).heap.get? b = some o from hideAll_get _ e (f.mfp b hb)] at this; cases this
      have F₃':Fm W env base out hot₁ oa₁ τ s₃:=F₃.debase F₂.grow_hidden F₂.wbase F₂.outMut (fun a ha=>F₂.hotnew a ha.1) F₂.outlive
      -- the body
      refine wpAny_execs_cons (wpAny_with_toks ht₃ (hst.run env he A hA _ _ hot₁ oa₁ s₃ _ _ ht₃ F₃'.rebase fun fl s₄ ok ht₄=>?_))
      obtain ⟨rfl,hot₄,oa₄,F₄⟩:=ok
      have F₄':Fm W env base out hot₄ oa₄ τ' s₄:=F₄.debase F₃'.grow_hidden F₃'.wbase F₃'.outMut (fun a ha=>F₃'.hotnew a ha.1) F₃'.outlive
      have live₃:∀ b∈fp,∃ o,s₃.heap.get? b = some o:=fun b hb=>let ⟨o,e⟩:=liveFp b hb; ⟨o,kept₃ b o (f.mfp b hb) e⟩
      refine wpAny_execs_nil ⟨ls.length - (i + 1),by exact o3 hlt,i + 1,hot₄,oa₄,hlt,rfl,F₄'.forget hw,Nat.le_trans hNN ht₄,hW.frame _ _ _ st₃ fun b hb o e=>F₄.grow.sub b o (hideAll_get _ e (mfp₃ b hb)),fun b hb q=>?_,F₄.outhot I ⟨f.hI,mfp₃ I I0⟩,f.bI⟩
      obtain ⟨o,e⟩:=live₃ b hb
      have:=(F₄.mutNew b (hw.mutL b q)).1
      rw [show (hidden env τ oa₁ s₃).heap.get? b = some o from hideAll_get _ e (mfp₃ b hb)] at this; cases this
    · have hi':i = ls.length:=by exact o5 hi hlt
      subst hi'
      refine wpAny_with_toks f.tk (hW.done s₁ _ _ f.st fun h' tk hk htk=>?_)
      have F₂:Fm W env base out (fun a=>hot₁ a∧a ∉ [I]) oa₁ (σs ls.length) { s₁ with heap:=h',toks:=tk }:=f.F.touchOff hk fun b hb=>by
        rw [List.mem_singleton.mp hb]; exact ⟨f.bI,f.hI,f.mfp I I0⟩
      exact wpAny_execs_nil (k _ _ _ htk F₂)
theorem RunsN.forT {tk:Bool} {N:Nat} {t it:PySem.Expr} {st:Stmt} {pos:Pos} {a:V} {ls:List (List Nat)} (σs:Nat→Store) (h:Ev W n sc (σs 0) it a) (hi:IterT W a tk ls) (hs:∀ env x,foldedSetIterable it env x = pure x)
    (step:∀ i l x N',ls[i]? = some l→ItemT tk N l x N'→N≤N'∧∃ τ τ',Binds W sc t x (σs i) τ∧RunsN W N' n sc st τ (.next τ')∧Wk τ' (σs (i + 1))):RunsN W N n sc (.For t it [st] [] pos) (σs 0) (.next (σs ls.length)):=
  ⟨fun env he A hA base out hot oa s Q E hN F k=>wpAny_For (wpAny_with_toks hN (h.run env he A hA s hot _ _ F.good fun v s₁ g₁ r₁ ht₁=>wpAny_with_toks ht₁ (hi.run A (hA.less (Nat.zero_le _)) s₁ hot v _ _ (F.grown g₁).good.base (F.grown g₁).alive r₁ fun it' s₂ g₂ hI ht₂=>
    forT_core σs he hA step (F.grown g₁) g₂ ht₂ hI fun hot' oa' s' ψ F'=>k _ s' ⟨rfl,hot',oa',F'⟩))) (hs env)⟩
theorem RunsN.assign {x:Str} {p pos:Pos} {e:PySem.Expr} {d:V} {N:Nat} (h:EvN W N n sc σ e d) (hp:Put x (.val d) σ σ') (hn:noApp x σ) (hs:∀ env,swapsWith e (some (.Name x p)) pos.line env = pure false):RunsN W N n sc (.Assign [.Name x p] e pos) σ (.next σ'):=
  ⟨fun env he A hA base out hot oa s Q E hN F k=>wpAny_Assign_Name (h.run env he A hA s hot _ E hN F.good fun v s₁ g hN' r=>(F.grown g).store hp r hn fun s₂ F₂=>k _ _ ⟨rfl,hot,oa,F₂⟩) (hs env)⟩
end
theorem St_inj {a b:List Nat} (h:St a = St b):a = b:=by
  have:(St a).cps.toList = (St b).cps.toList:=by rw [h]
  simpa [St] using this
inductive IntPairs:List (Str × Value)→List (List Nat × Int)→Prop
  | nil:IntPairs [] []
  | cons {l:List Nat} {i:Int} {t:Tok} {kvs:List (Str × Value)} {m:List (List Nat × Int)}:IntPairs kvs m→IntPairs ((St l,.int i t) :: kvs) ((l,i) :: m)
noncomputable def getI (m:List (List Nat × Int)) (l:List Nat):Option Int:=(m.find? fun e=>decide (e.1 = l)).map (·.2)
noncomputable def setI (m:List (List Nat × Int)) (l:List Nat) (i:Int):List (List Nat × Int):=
  if m.any (fun e=>decide (e.1 = l)) then m.map (fun e=>if e.1 = l then (e.1,i) else e) else m ++ [(l,i)]
theorem IntPairs.length {kvs:List (Str × Value)} {m:List (List Nat × Int)} (h:IntPairs kvs m):kvs.length = m.length:=by
  induction h with
  | nil=>rfl
  | cons _ ih=>simp [ih]
theorem IntPairs.get {kvs:List (Str × Value)} {m:List (List Nat × Int)} (h:IntPairs kvs m) {l:List Nat} {i:Int} (hg:getI m l = some i):∃ t,valueAt kvs (St l) = some (.int i t):=by
  induction h with
  | nil=>cases hg
  | @cons l' i' t kvs m h ih=>
    unfold getI at hg
    rw [List.find?_cons] at hg
    unfold valueAt
    rw [List.find?_cons]
    by_cases e:l' = l
    · subst e
      simp only [decide_true] at hg ⊢
      cases hg
      exact ⟨t,rfl⟩
    · rw [decide_eq_false e] at hg
      rw [decide_eq_false fun q=>e (St_inj q)]
      exact ih hg
theorem IntPairs.any {kvs:List (Str × Value)} {m:List (List Nat × Int)} (h:IntPairs kvs m) (l:List Nat):kvs.any (fun kv=>decide (kv.1 = St l)) = m.any (fun e=>decide (e.1 = l)):=by
  induction h with
  | nil=>rfl
  | @cons l' i' t kvs m h ih=>
    rw [List.any_cons,List.any_cons,ih]
    by_cases e:l' = l
    · subst e; simp
    · rw [decide_eq_false e,decide_eq_false fun q=>e (St_inj q)]
theorem IntPairs.map {kvs:List (Str × Value)} {m:List (List Nat × Int)} (h:IntPairs kvs m) (l:List Nat) (i:Int) (t:Tok):IntPairs (kvs.map fun kv=>if kv.1 = St l then (kv.1,.int i t) else kv) (m.map fun e=>if e.1 = l then (e.1,i) else e):=by
  induction h with
  | nil=>exact .nil
  | @cons l' i' t' kvs m h ih=>
    rw [List.map_cons,List.map_cons]
    by_cases e:l' = l
    · rw [if_pos e,if_pos (congrArg St e)]; exact .cons ih
    · rw [if_neg e,if_neg fun q=>e (St_inj q)]; exact .cons ih
theorem IntPairs.app {kvs:List (Str × Value)} {m:List (List Nat × Int)} (h:IntPairs kvs m) (l:List Nat) (i:Int) (t:Tok):IntPairs (kvs ++ [(St l,.int i t)]) (m ++ [(l,i)]):=by
  induction h with
  | nil=>exact .cons .nil
  | cons h ih=>exact .cons ih
theorem IntPairs.set {kvs:List (Str × Value)} {m:List (List Nat × Int)} (h:IntPairs kvs m) (l:List Nat) (i:Int) (t:Tok):IntPairs (stored kvs (St l) (.int i t)) (setI m l i):=by
  unfold stored setI
  rw [h.any l]
  split
  · exact h.map l i t
  · exact h.app l i t
noncomputable def CD (W:Wo) (d:Addr) (m:List (List Nat × Int)) (h:Heap):Prop:=∃ kvs,h.DictOf (strKind W.prog W.w) d kvs∧IntPairs kvs m
theorem CD.loc {W:Wo} {d:Addr} {m:List (List Nat × Int)}:Loc [d] (CD W d m):=fun h h' hk ⟨kvs,⟨o,es,ep,ho,r⟩,hp⟩=>⟨kvs,⟨o,es,ep,hk d List.mem_cons_self o ho,r⟩,hp⟩
section
variable {W:Wo} {n:Nat} {sc:Scope} {σ σ':Store}
theorem Good.atB {env:Env} {s:Shared} {hot:Addr→Prop} (g:Good W env σ hot s):Good (W.at s.heap g.base) env σ hot s:=
  { base:=fun b o e=>e,kind:=g.kind,globals:=g.globals,builtins:=g.builtins,cells:=g.cells,vars:=g.vars,alive:=g.alive }
theorem IQ.dictB {d:Addr} {m:List (List Nat × Int)} {l:List Nat} {c:Int} (hB:CD W d m W.B) (hg:getI m l = some c):IQ W (.val (.ref d)) (.str l) (.int c):=by
  intro A hA s hot v₁ v₂ Q E hb al r1 r2 k
  cases rd_val r1; obtain ⟨u,rfl⟩:=sQ r2
  obtain ⟨kvs,hd,hp⟩:=CD.loc W.B s.heap (fun b ψ o e=>hb b o e) hB
  obtain ⟨t,ht⟩:=hp.get hg
  exact ⟨"dict",_,slot_dict_getitem.lookup,hd.typeIs,wpAny_getItem_of (strKind_is _ _ _ _) hd.mapOf ht (k _ _ .tok mk_int)⟩
variable {d:Addr} {m:List (List Nat × Int)}
theorem XIn.put {env:Env} {base s:Shared} {out hot:Addr→Prop} {oa:Str→Addr} {m':List (List Nat × Int)} {h':Heap} {tk:Nat} (x:XIn [d] (CD W d m) env base σ oa hot s) (F:Fm W env base out hot oa σ s) (hd:CD W d m' h') (hs:Heap.SameBut d s.heap h') (ht:1≤tk) :
    Fm W env base out hot oa σ { s with heap:=h',toks:=tk }∧XIn [d] (CD W d m') env base σ oa hot { s with heap:=h',toks:=tk }:=by
  obtain ⟨a1,a2,a3⟩:=x.new d List.mem_cons_self
  have al:∃ o,h'.get? d = some o:=let ⟨_,⟨o,_,_,e,_⟩,_⟩:=hd; ⟨o,e⟩
  refine ⟨F.touch (wr:=[d]) (fun b o nb e=>(hs.2 b (by simpa using nb)).trans e) fun b hb=>?_,hd,fun b hb=>?_,x.new,ht⟩
  · obtain rfl:=List.mem_singleton.mp hb
    exact ⟨a1,a2,a3,al⟩
  · obtain rfl:=List.mem_singleton.mp hb
    exact al
theorem StX.dictSet {x:Str} {p1 pos2 pos:Pos} {ke e:PySem.Expr} {l:List Nat} {i:Int} (hm:(x,Slot.val (.val (.ref d)))∈σ) (hx:isVar sc x = true) (hk:Ev W n sc σ ke (.str l)) (h:Ev W n sc σ e (.int i)) (hz:m.length≤1000000)
    (hs:∀ env,swapsWith e (some (.Subscript (.Name x p1) ke pos2)) pos.line env = pure false) :
    StX W n sc [d] (CD W d m) (CD W d (setI m l i)) (.Assign [.Subscript (.Name x p1) ke pos2] e pos) σ σ:=
  ⟨fun env he A hA base out hot oa s Q E F X k=>wpAny_with_toks X.tk (wpAny_Assign_Subscript (h.run env he A hA s hot _ _ F.good fun v s₁ g₁ r₁=>by
    refine (Ev.name (W:=W) (n:=n) hm hx).run env he A hA s₁ hot _ _ (F.grown g₁).good fun ov s₂ g₂ r₂=>?_
    cases rd_val r₂
    refine hk.run env he A hA s₂ hot _ _ ((F.grown g₁).grown g₂).good fun iv s₃ g₃ r₃=>?_
    obtain ⟨t,rfl⟩:=sQ r₃
    obtain ⟨u,rfl⟩:=rQ r₁
    have g:=(g₁.trans g₂).trans g₃
    obtain ⟨kvs,hd,hp⟩:=CD.loc s.heap s₃.heap (fun b ψ o e=>g.sub b o e) X.p
    refine wpAny_setItem_pairs (strKind_is _ _ _ _) hd (fun h' hd' hs' ht=>?_) (by rw [hp.length,sizeLine_eq]; exact o6 hz)
    have X₃:XIn [d] (CD W d m) env base σ oa hot { s₃ with toks:=s₃.toks + 1 }:=X.move CD.loc (fun b ψ o e=>g.sub b o e) (fun b hb=>(X.new b hb).2.1) (fun b hb=>(X.new b hb).2.2) ht
    obtain ⟨F',X'⟩:=X₃.put (F.grown (g.trans .tok)) ⟨_,hd',hp.set l i u⟩ hs' ht
    exact k hot oa _ F' X') (hs env))⟩
theorem StX.dictAug {x:Str} {p1 pos2 pos:Pos} {ke e:PySem.Expr} {l:List Nat} {i j:Int} (hm:(x,Slot.val (.val (.ref d)))∈σ) (hx:isVar sc x = true) (hk:Ev W n sc σ ke (.str l)) (hg:getI m l = some j) (h:∀ W':Wo,W'.prog = W.prog→W'.w = W.w→CD W' d m W'.B→Ev W' n sc σ e (.int i)) (hz:m.length≤1000000)
    (ha:∀ ov iv new,augStore ke ov iv new = (do holding [new,ov,iv] (PySem.setItem ov iv new); release [new,ov,iv] []; pure .next)) :
    StX W n sc [d] (CD W d m) (CD W d (setI m l (j + i))) (.AugAssign (.Subscript (.Name x p1) ke pos2) .Add e pos) σ σ:=
  ⟨fun env he A hA base out hot oa s Q E F X k=>wpAny_with_toks X.tk (wpAny_AugAssign_SubscriptAny ((Ev.name (W:=W) (n:=n) hm hx).run env he A hA s hot _ _ F.good fun ov s₁ g₁ r₁=>by
    cases rd_val r₁
    refine hk.run env he A hA s₁ hot _ _ (F.grown g₁).good fun iv s₂ g₂ r₂=>?_
    obtain ⟨t,rfl⟩:=sQ r₂
    have g:=g₁.trans g₂
    obtain ⟨kvs,hd,hp⟩:=CD.loc s.heap s₂.heap (fun b ψ o e=>g.sub b o e) X.p
    obtain ⟨u,hu⟩:=hp.get hg
    refine wpAny_getItem_of (strKind_is _ _ _ _) hd.mapOf hu ?_
    have F₃:Fm W env base out hot oa σ { s₂ with toks:=s₂.toks + 1 }:=F.grown (g.trans .tok)
    have hcd:CD W d m s₂.heap:=⟨kvs,hd,hp⟩
    refine (h (W.at s₂.heap F₃.good.base) rfl rfl hcd).run env he A hA _ hot _ _ F₃.good.atB fun v s₄ g₄ r₄=>?_
    have F₄:=F₃.grown g₄
    refine (InpOk.add (W:=W) (a:=j) (b:=i)) A (hA.less (Nat.zero_le _)) s₄ hot _ v _ _ F₄.good.base F₄.alive mk_int r₄ fun w s₅ g₅ r₅=>?_
    obtain ⟨u',rfl⟩:=rQ r₅
    have g':Grow s s₅:=(((g.trans (.tok (t:=s₂.toks + 1))).trans g₄).trans g₅)
    obtain ⟨kvs',hd',hp'⟩:=CD.loc s.heap s₅.heap (fun b ψ o e=>g'.sub b o e) X.p
    refine wpAny_setItem_pairs (strKind_is _ _ _ _) hd' (fun h' hd'' hs' ht=>?_) (by rw [hp'.length,sizeLine_eq]; exact o6 hz)
    have X₃:XIn [d] (CD W d m) env base σ oa hot { s₅ with toks:=s₅.toks + 1 }:=X.move CD.loc (fun b ψ o e=>g'.sub b o e) (fun b hb=>(X.new b hb).2.1) (fun b hb=>(X.new b hb).2.2) ht
    obtain ⟨F',X'⟩:=X₃.put (F.grown (g'.trans .tok)) ⟨_,hd'',hp'.set l (j + i) u'⟩ hs' ht
    exact k hot oa _ F' X') ha)⟩
theorem RunsXL.retDict {e:PySem.Expr} {pos:Pos} {i:Int} (h:∀ W':Wo,W'.prog = W.prog→W'.w = W.w→CD W' d m W'.B→Ev W' n sc σ e (.int i)):RunsXL W n sc [d] (CD W d m) [.Return (some e) pos] σ (.ret (.int i)):=
  ⟨fun env he A hA base out hot oa s Q E F X k=>by
    have hcd:CD W d m s.heap:=X.p
    refine wpAny_execs_cons (wpAny_Return_some ((h (W.at s.heap F.good.base) rfl rfl hcd).run env he A hA s hot _ _ F.good.atB fun v s₁ g₁ r₁=>?_))
    exact k _ _ ⟨v,rfl,F.grow.trans g₁,r₁.less F.outhot⟩⟩
end
section
variable {W:Wo} {n:Nat} {sc:Scope} {σ σ':Store}
theorem wp_dict1 {pos p1 p2:Pos} {j1 j2:Nat} {i:Int} {env:Env} {A:Around} {s:Shared} {Q:Value→Shared→Prop} {E:Value→Shared→Prop} (hb:Str.ofString "" = St [])
    (h:∀ h' tk,1≤tk→(∀ b o,s.heap.get? b = some o→h'.get? b = some o)→CD W s.heap.objs.size [([],i)] h'→Q (.ref s.heap.objs.size) { s with heap:=h',toks:=tk }) :
    wpAny (model W.prog W.w) A (eval (.Dict [some (.Constant (.str (Str.ofString "")) j1 p1)] [.Constant (.int i) j2 p2] pos) env) Q E s:=by
  refine wpAny_Dict_pairs (knd:=strKind W.prog W.w) (pairs:=[(eval (.Constant (.str (Str.ofString "")) j1 p1) env,(do let x ← eval (.Constant (.int i) j2 p2) env; standAt pos; pure x))]) (by rfl) (by simp) (by simp) ?_
  refine evalPairs_cons ?_
  refine @wpAny_mkText _ _ _ _ _ _ ?_
  refine wpAny_bind (@wpAny_Constant_int (model W.prog W.w) A _ _ env i j2 p2 _ ?_)
  refine wpAny_bind (wpAny_standAt (wpAny_pure (evalPairs_nil ?_)))
  refine ⟨[(St [],.int i _)],⟨by rw [hb]; exact strKind_is _ _ _ _,rfl,trivial⟩,Heap.DictOf.new _,fun h' hd' hs'=>?_⟩
  refine h h' _ (Nat.succ_le_succ (Nat.zero_le _)) (fun b o e=>(hs'.2 b (fun q=>by rw [q,gNQ] at e; cases e)).trans (Heap.get?_push_of_some _ e)) ⟨_,hd',?_⟩
  exact IntPairs.cons .nil
theorem RQ.dict1 {x:Str} {p spos pos p1 p2:Pos} {j1 j2:Nat} {i:Int} {sts:List Stmt} {σ₁:Addr→Store} {r:Res} (hp:∀ d,Put x (.val (.val (.ref d))) σ (σ₁ d)) (hn:noApp x σ) (hb:Str.ofString "" = St [])
    (hs:∀ env,swapsWith (.Dict [some (.Constant (.str (Str.ofString "")) j1 p1)] [.Constant (.int i) j2 p2] pos) (some (.Name x p)) spos.line env = pure false)
    (h:∀ d,RunsXL W n sc [d] (CD W d [([],i)]) sts (σ₁ d) r):RQ W n sc (.Assign [.Name x p] (.Dict [some (.Constant (.str (Str.ofString "")) j1 p1)] [.Constant (.int i) j2 p2] pos) spos :: sts) σ r:=
  ⟨fun env he A hA base out hot oa s Q E F k=>by
    refine wpAny_execs_cons ?_
    refine wpAny_Assign_Name ?_ (hs env)
    refine wp_dict1 (W:=W) (pos:=pos) (p1:=p1) (p2:=p2) (j1:=j1) (j2:=j2) (i:=i) (env:=env) (A:=A) (s:=s) (E:=E) hb ?_
    intro h' tk ht up hcd
    generalize hD:s.heap.objs.size = D at hcd
    have hDn:s.heap.get? D = none:=by rw [← hD]; exact gNQ _
    have aD:∃ o,h'.get? D = some o:=let ⟨_,⟨o,_,_,e,_⟩,_⟩:=hcd; ⟨o,e⟩
    have g₁:Grow s { s with heap:=h',toks:=tk }:=⟨up,rfl,fun e=>e⟩
    have F₁:=F.hotter g₁ (wr:=[D]) (fun b hb=>by rw [List.mem_singleton.mp hb]; exact hDn) (fun b hb=>by rw [List.mem_singleton.mp hb]; exact aD)
    have Dm:D ∉ mutL env σ oa:=fun q=>by
      obtain ⟨o,e⟩:=F.alive D (F.mutNew D q).2
      rw [hDn] at e; cases e
    have X₁:XIn [D] (CD W D [([],i)]) env base σ oa (fun a=>hot a∨a∈[D]) { s with heap:=h',toks:=tk }:=
      ⟨hcd,fun b hb=>by rw [List.mem_singleton.mp hb]; exact aD,fun b hb=>by rw [List.mem_singleton.mp hb]; exact ⟨nQ F.grow.sub hDn,.inr List.mem_cons_self,Dm⟩,ht⟩
    refine wpAny_with_toks X₁.tk (F₁.rebase.store (hp D) mk_val hn fun s₂ F₂ ht₂=>?_)
    have F₃:=F₂.debase F₁.grow_hidden F₁.wbase F₁.outMut (fun a ha=>F₁.hotnew a ha.1) F₁.outlive
    exact (h D).run env he A hA base out _ oa s₂ Q E F₃ (X₁.keep CD.loc F₁ F₂ ht₂) k⟩
end
section
variable {W:Wo} {n:Nat} {sc:Scope} {σ:Store}
end
section
variable {W:Wo} {n:Nat} {sc scope:Scope} {σ σ':Store}
theorem EmitL.gen {α:Type} {t:PySem.Expr} {ifs:List PySem.Expr} {G:Store→List V→Prop} {τ:Store} (enc:α→V) (p:α→Bool) (f:α→List V):∀ (xs:List α),
    (∀ x∈xs,∃ τ',Binds W sc t (enc x) τ τ'∧Wk τ' τ∧Tests W n sc (InS τ' scope σ) ifs (p x)∧(p x = true→G τ' (f x)))→EmitL W n sc scope σ t ifs G (xs.map enc) τ ((xs.filter p).flatMap f)
  | [],_=>.nil
  | x :: xs,h=>by
    obtain ⟨τ',h1,h2,h3,h4⟩:=h x (List.mem_cons_self ..)
    have ih:=EmitL.gen enc p f xs fun y hy=>h y (List.mem_cons_of_mem _ hy)
    rw [List.map_cons,List.filter_cons]
    cases hp:p x with
    | true=>
      rw [hp] at h3
      rw [if_pos rfl,List.flatMap_cons]
      exact EmitL.yes h1 h2 h3 (h4 hp) ih
    | false=>
      rw [hp] at h3
      rw [if_neg Bool.false_ne_true]
      exact EmitL.no h1 h2 h3 ih
noncomputable def Flat (t:Slot):Prop:=t = .unset∨∃ i,t = .val (.int i)
end
theorem occ_count (l:List Nat) (c:Nat):∀ (m a:Nat) (st:Array Nat × Nat),st.2≤a→st.1.size≤a→a + m = l.length + 1 →
    (forIn (List.range' a m) st (StrLaws.occBody (St l) ⟨#[c]⟩ l.length (l.length + 1))).run.fst.size = st.1.size + (l.drop a).count c
  | 0,a,st,_,_,h=>by
    rw [List.drop_eq_nil_of_le (by omega)]; rfl
  | m + 1,a,st,h1,h2,h=>by
    have one:=StrLaws.subAt_one (St l) c a
    have hSt:(St l).cps.toList = l:=by simp [St]
    rw [hSt,St_len] at one
    rw [List.range'_succ,List.forIn_cons]
    unfold StrLaws.occBody
    by_cases hc:l[a]? = some c
    · have ha:a < l.length:=(List.getElem?_eq_some_iff.mp hc).1
      rw [if_pos ⟨⟨⟨by exact o279 h2 ha,h1⟩,(one.mpr hc).1⟩,(one.mpr hc).2⟩]
      have ih:=occ_count l c m (a + 1) (st.1.push a,a + (⟨#[c]⟩:Str).length) (Nat.le_refl _) (by simp; omega) (by exact o280 h)
      refine ih.trans ?_
      rw [List.drop_eq_getElem_cons ha,List.count_cons]
      have:l[a] = c:=by rw [List.getElem?_eq_getElem ha] at hc; exact Option.some.inj hc
      rw [this]
      simp; exact o281
    · rw [if_neg (fun q=>hc (one.mp ⟨q.1.2,q.2⟩))]
      have ih:=occ_count l c m (a + 1) (st.1,st.2) (Nat.le_succ_of_le h1) (Nat.le_succ_of_le h2) (by exact o280 h)
      refine ih.trans ?_
      by_cases ha:a < l.length
      · rw [List.drop_eq_getElem_cons ha,List.count_cons]
        have:(l[a] == c) = false:=by
          rw [List.getElem?_eq_getElem ha] at hc
          exact beq_eq_false_iff_ne.mpr fun e=>hc (congrArg some e)
        rw [this]; rfl
      · rw [List.drop_eq_nil_of_le (by exact o282 ha),List.drop_eq_nil_of_le (show l.length≤a by exact o26 ha)]
theorem occ_cnt (l:List Nat) (c:Nat):(Builtin.Str.occurrences (St l) (St [c]) 0 (St l).length ((St l).length + 1)).length = l.count c:=by
  show (Builtin.Str.occurrences (St l) ⟨#[c]⟩ 0 (St l).length ((St l).length + 1)).length = l.count c
  rw [StrLaws.occ_eq,St_len,Array.length_toList]
  have:=occ_count l c (l.length + 1 - 0) 0 (#[],0) (Nat.le_refl _) (Nat.le_refl _) (by exact o283)
  rw [this,List.drop_zero]
  simp
theorem meth_count:Meth "str" "count" "str.count":=⟨F.plainAttrs_str,F.slot_str_count,F.type_str_count⟩
section
variable {W:Wo} {n:Nat} {sc scope:Scope} {σ σ':Store}
theorem KQ.count {l:List Nat} {c:Nat}:KQ W n (.builtin "str.count") [.str l,.str [c]] (.int (l.count c:Nat)):=by
  intro A hA s hot vs Q E _ al r k
  unfold Rds at r; obtain ⟨v,r',rfl,h1,h2⟩:=r
  unfold Rds at h2; obtain ⟨v',r'',rfl,h2,h3⟩:=h2; unfold Rds at h3; subst h3
  obtain ⟨t,rfl⟩:=sQ h1; obtain ⟨u,rfl⟩:=sQ h2
  refine call_gives F.slot_str_count (typeIs_str _ _ _) F.entry_str_count (F.args_str_count_2 _ _) (gives_str_count (St l) (St [c]) t u) ?_
  rw [occ_cnt]
  exact k _ _ .tok mk_int
theorem Ev.strVal {e:PySem.Expr} {l:List Nat} {t:Tok} (h:Ev W n sc σ e (.val (.str (St l) t))):Ev W n sc σ e (.str l):=
  ⟨fun env he A hA s hot Q E g k=>h.run env he A hA s hot Q E g fun v s' g' r=>k v s' g' (by cases rd_val r; exact mk_str)⟩
theorem EmitT.flat {t:PySem.Expr} {tk:Bool} {N:Nat} {G:Nat→Store→List V→Prop} {τ:Store} (f:List Nat→List V):∀ ls:List (List Nat),
    (∀ l∈ls,∀ x N',ItemT tk N l x N'→∃ τ',Binds W sc t x τ τ'∧Wk τ' τ∧G N' τ' (f l))→EmitT W n sc scope σ t [] tk G N ls τ (ls.flatMap f)
  | [],_=>.nil
  | l :: ls,h=>by
    rw [List.flatMap_cons]
    exact .yes (fun x N' hx=>let ⟨τ',a,b,c⟩:=h l (List.mem_cons_self ..) x N' hx; ⟨τ',a,b,Tests.nil,c⟩) (EmitT.flat f ls fun y hy=>h y (List.mem_cons_of_mem _ hy))
theorem EmitT.filt {t:PySem.Expr} {ifs:List PySem.Expr} {tk:Bool} {N:Nat} {G:Nat→Store→List V→Prop} {τ:Store} (p:List Nat→Bool) (f:List Nat→V):∀ ls:List (List Nat),
    (∀ l∈ls,∀ x N',ItemT tk N l x N'→∃ τ',Binds W sc t x τ τ'∧Wk τ' τ∧Tests W n sc (InS τ' scope σ) ifs (p l)∧(p l = true→G N' τ' [f l]))→EmitT W n sc scope σ t ifs tk G N ls τ ((ls.filter p).map f)
  | [],_=>.nil
  | l :: ls,h=>by
    have ih:=EmitT.filt p f ls fun y hy=>h y (List.mem_cons_of_mem _ hy)
    have h0:=h l (List.mem_cons_self ..)
    rw [List.filter_cons]
    cases hp:p l with
    | true=>
      rw [hp] at h0
      rw [if_pos rfl,List.map_cons]
      exact .yes (o:=[f l]) (fun x N' hx=>let ⟨τ',a,b,c,d⟩:=h0 x N' hx; ⟨τ',a,b,c,d rfl⟩) ih
    | false=>
      rw [hp] at h0
      rw [if_neg (by simp)]
      exact .no (fun x N' hx=>let ⟨τ',a,b,c,d⟩:=h0 x N' hx; ⟨τ',a,b,c⟩) ih
end
noncomputable def ordTest (r tk:List Nat) (c:Nat):Bool:=decide (c∈r) && decide (c∈tk)
noncomputable def ordRow (letters tk r:List Nat):List (List Nat):=(letters.filter (ordTest r tk)).map fun c=>r.erase c
noncomputable def ordStep (letters tk:List Nat) (os:List (List Nat)):List (List Nat):=os.flatMap (ordRow letters tk)
noncomputable def ordersOf (letters bag:List Nat) (taken:List (List Nat)):List (List Nat):=taken.foldl (fun os tk=>ordStep letters tk os) [bag]
theorem ordRow_len {letters:List Nat} (hl:letters.length≤4) (tk r:List Nat):(ordRow letters tk r).length≤4:=by
  unfold ordRow
  rw [List.length_map]
  exact Nat.le_trans (List.length_filter_le _ _) hl
theorem ordStep_len {letters:List Nat} (hl:letters.length≤4) (tk:List Nat):∀ os:List (List Nat),(ordStep letters tk os).length≤4 * os.length
  | []=>Nat.le_refl _
  | r :: os=>by
    have h1:=ordStep_len hl tk os
    have h2:=ordRow_len hl tk r
    unfold ordStep at h1 ⊢
    rw [List.flatMap_cons,List.length_append,List.length_cons]; exact o284 h1 h2
theorem ordStep_mem {letters tk:List Nat} {os:List (List Nat)} (h:∀ r∈os,r.length≤5):∀ r∈ordStep letters tk os,r.length≤5:=fun r hr=>by
  obtain ⟨x,hx,hr⟩:=List.mem_flatMap.mp hr
  obtain ⟨c,_,rfl⟩:=List.mem_map.mp hr
  exact Nat.le_trans (List.length_erase_le ..) (h x hx)
theorem ordersOf_ok {letters bag:List Nat} (hl:letters.length≤4) (hb:bag.length≤5):∀ taken:List (List Nat),(ordersOf letters bag taken).length≤4 ^ taken.length∧∀ r∈ordersOf letters bag taken,r.length≤5:=by
  have key:∀ (taken os:List (List Nat)),(∀ r∈os,r.length≤5)→(taken.foldl (fun os tk=>ordStep letters tk os) os).length≤4 ^ taken.length * os.length∧∀ r∈taken.foldl (fun os tk=>ordStep letters tk os) os,r.length≤5:=by
    intro taken
    induction taken with
    | nil=>intro os h; exact ⟨by simp,h⟩
    | cons tk taken ih=>
      intro os h
      obtain ⟨h1,h2⟩:=ih (ordStep letters tk os) (ordStep_mem h)
      refine ⟨Nat.le_trans h1 ?_,h2⟩
      rw [List.length_cons,Nat.pow_succ,Nat.mul_assoc]
      exact Nat.mul_le_mul_left _ (ordStep_len hl tk os)
  intro taken
  have:=key taken [bag] (fun r hr=>by rw [List.mem_singleton.mp hr]; exact hb)
  rw [List.length_singleton,Nat.mul_one] at this
  exact this
noncomputable def oSt (letters bag:List Nat) (taken os:List (List Nat)) (pl:Slot):Store:=
  [("taken",.val (.list (taken.map V.str))),("letters",.val (.str letters)),("bag",.val (.str bag)),("orders",.val (.list (os.map V.str))),("place",pl)]
noncomputable def plc:Nat→Slot
  | 0=>.unset
  | i + 1=>.val (.int (0 + (i:Nat)))
theorem plc_plain:∀ i,pSQ (plc i)
  | 0=>.unset
  | i + 1=>.val
section
variable {W:Wo} {n:Nat}
theorem law_orders (G:G1 W) {letters bag:List Nat} {taken:List (List Nat)} (ht:taken.length = 5) (hl:letters.length≤4) (hb:bag.length≤5) :
    RQ W n (fQ (nth pw 33)) (fbody (nth pw 33)) (aQ ["taken","letters","bag"] [.list (taken.map V.str),.str letters,.str bag] ["orders","place"]) (.ret (.int (ordersOf letters bag taken).length)):=by
  show RQ W n _ _ [("taken",.val (.list (taken.map V.str))),("letters",.val (.str letters)),("bag",.val (.str bag)),("orders",.unset),("place",.unset)] _
  refine RQ.cons (Runs.assign (d:=.list ([bag].map V.str)) (Ev.list (Evs.one Ev.nm (fun ψ=>by rfl)) (by simp)) (by repeat constructor) (by exact noApp.of rfl) (fun ψ=>by rfl)) ?_
  refine RQ.forK (fun i=>oSt letters bag taken (ordersOf letters bag (taken.take i)) (plc i)) (fun i=>oSt letters bag taken (ordersOf letters bag (taken.take i)) (plc (i + 1)))
    (EvK.range1 G (by kernel_rfl)) (JQ.up (by decide) (by decide) (by decide) (by decide)) (fun ψ ψ=>by rfl) (fun i x hx=>?_) ?_
  · have hi:i < 5:=by
      have:=(List.getElem?_eq_some_iff.mp hx).1
      simpa using this
    have hxv:x = .int (0 + (i:Nat)):=by
      rw [List.getElem?_map,List.getElem?_range (show i < (5 - 0:Int).toNat from hi)] at hx
      exact (Option.some.inj hx).symm
    subst hxv
    have hp:=plc_plain i
    obtain ⟨os,hos⟩:∃ os,os = ordersOf letters bag (taken.take i):=⟨_,rfl⟩
    obtain ⟨tk,htk⟩:∃ tk,taken[i]? = some tk:=⟨_,List.getElem?_eq_getElem (by omega)⟩
    obtain ⟨ho1,ho2⟩:=ordersOf_ok hl hb (taken.take i)
    have hnext:ordersOf letters bag (taken.take (i + 1)) = ordStep letters tk os:=by
      rw [List.take_add_one,htk,hos]
      unfold ordersOf
      rw [List.foldl_append]; rfl
    rw [hnext,← hos]
    rw [← hos] at ho1 ho2
    have ho3:os.length≤1024:=Nat.le_trans ho1 (Nat.le_trans (Nat.pow_le_pow_right (by decide) (show _≤5 by rw [List.length_take]; exact o285 ht)) (by decide))
    have hstep:=ordStep_len hl tk os
    refine ⟨Binds.name (by unfold oSt plc; repeat constructor) (by unfold oSt; repeat first | exact noApp.of rfl | refine noApp.plain (by assumption) ?_ | refine noApp.val ?_ | refine noApp.unset ?_ | refine noApp.own ?_ | refine noApp.app (by decide) ?_),StepX.one (StX.ofN (fun ψ ψ ψ ψ=>trivial) ?_)⟩
    have hmap:(ordStep letters tk os).map V.str = os.flatMap fun r=>(ordRow letters tk r).map V.str:=by unfold ordStep; rw [List.map_flatMap]
    unfold oSt
    rw [hmap]
    refine RunsN.assignComp (tk:=false) (N:=1) (ls:=os) ["rest","letter"] (by kernel_rfl) Ev.nm (IterT.of JQ.list) (EmitT.flat (fun r=>(ordRow letters tk r).map V.str) os fun r hr x N' hx=>?_)
      (fun cenv D A hsc hA=>body_consT (tk:=true) hsc hA (fun c hc=>?_) rfl (body_nilT hsc hA rfl)) ?_ (fun e c hc=>?_) (by repeat constructor) (by exact noApp.of rfl)
    · cases hx
      refine ⟨[("rest",.val (.str r)),("letter",.unset)],Binds.name .here (noApp.unset (noApp.unset .nil)),.drop (.same .nil),.str letters,letters.map fun c=>[c],Ev.nm,IterT.str,?_⟩
      have e:(ordRow letters tk r).map V.str = ((letters.map fun c=>[c]).filter fun l=>ordTest r tk (l.headD 0)).map fun l=>V.str (r.erase (l.headD 0)):=by
        unfold ordRow
        rw [List.filter_map,List.map_map,List.map_map]; rfl
      rw [e]
      refine EmitT.filt (fun l=>ordTest r tk (l.headD 0)) (fun l=>V.str (r.erase (l.headD 0))) _ fun l hl' x N' hx=>?_
      obtain ⟨c,hc,rfl⟩:=List.mem_map.mp hl'
      cases hx with
      | @tok _ _ u hu=>
      refine ⟨[("rest",.val (.str r)),("letter",.val (.val (.str (St [c]) u)))],Binds.name (.there .here) (noApp.val (noApp.unset .nil)),.same (.drop .nil),Tests.one ?_,fun ψ=>⟨.str (r.erase c),rfl,?_⟩⟩
      · have h1:ordTest r tk c = (isIn [c] r && (isIn [c] tk && true)):=by unfold ordTest; rw [isIn_one,isIn_one,Bool.and_true]
        show EvT _ _ _ _ _ (ordTest r tk c)
        rw [h1]
        refine EvT.and (EvT.cmp (Ev.strVal Ev.nm) Ev.nm CQ.in_str (by rfl)) fun ψ=>EvT.and (EvT.cmp (Ev.strVal Ev.nm) (Ev.item Ev.nm (by unfold plc; exact Ev.nm) (IQ.list (c:=.str tk) (by omega) (by omega) ?_) (fun ψ ψ=>by rfl)) CQ.in_str (by rfl)) fun ψ=>EvT.and_nil
        rw [show (0 + (i:Int)).toNat = i by exact o286 hi,List.getElem?_map,htk]; rfl
      · exact EvN.replace1 (by repeat constructor) (by kernel_rfl) (by repeat constructor) (by kernel_rfl) hu (Nat.le_refl _) (fun ψ=>by rfl) (by rfl) (ofString_L "") (Nat.le_trans (ho2 r hr) (by decide)) (fun ψ=>by rfl)
    · rcases List.mem_cons.mp hc with rfl | hc
      · exact ⟨rfl,fun x=>by rfl⟩
      · rw [List.mem_singleton.mp hc]; exact ⟨rfl,fun x=>by rfl⟩
    · rw [← hmap,List.length_map]; exact o287 ho3 hstep
    · rcases List.mem_cons.mp hc with rfl | hc
      · exact ⟨rfl,fun x=>by rfl⟩
      · rw [List.mem_singleton.mp hc]; exact ⟨rfl,fun x=>by rfl⟩
  · have e:ordersOf letters bag (taken.take ((List.range (5 - 0:Int).toNat).map fun (k:Nat)=>V.int (0 + k)).length) = ordersOf letters bag taken:=by
      rw [List.length_map,List.length_range,List.take_of_length_le (by rw [ht]; decide)]
    show RQ W n _ _ (oSt letters bag taken (ordersOf letters bag (taken.take ((List.range (5 - 0:Int).toNat).map fun (k:Nat)=>V.int (0 + k)).length)) (plc 5)) _
    rw [e]
    obtain ⟨os,hos⟩:∃ os,os = ordersOf letters bag taken:=⟨_,rfl⟩
    rw [← hos]
    have h3:=(ordersOf_ok hl hb taken).1
    rw [← hos,ht] at h3
    rw [show os.length = (os.map V.str).length from (List.length_map ..).symm]
    exact RQ.ret (Runs.ret (Ev.len G (by kernel_rfl) (by unfold oSt; exact Ev.nm) (KQ.len_list (by rw [List.length_map]; exact Nat.le_trans h3 (by decide))) (fun ψ=>by rfl)))
end
noncomputable def setStep (bag:List Nat) (s:List (List Nat)) (c:Nat):List (List Nat):=if c∈bag then s ++ s.map (· ++ [c]) else s
noncomputable def bagRow (bag:List Nat) (c:Nat) (w:List Nat):List (List Nat):=(List.range (bag.count c + 1)).map fun (k:Nat)=>w ++ rep [c] (k:Nat)
noncomputable def bagStep (bag:List Nat) (b:List (List Nat)) (c:Nat):List (List Nat):=if c∈bag then b.flatMap (bagRow bag c) else b
noncomputable def setsOf (letters bag:List Nat):List (List Nat):=letters.foldl (setStep bag) [[]]
noncomputable def bagsOf (letters bag:List Nat):List (List Nat):=letters.foldl (bagStep bag) [[]]
noncomputable def cellOf1 (pairs:List (List Nat)) (a b:Nat):Int:=if pairs.any (· == [a,b]) then 1 else 0
noncomputable def tableOf (pairs:List (List Nat)) (some:List Nat):List (List Int):=some.map fun a=>some.map (cellOf1 pairs a)
noncomputable def worthOf (pairs:List (List Nat)) (some:List Nat):Int:=worth some.length (tableOf pairs some)
noncomputable def termOf (pairs:List (List Nat)) (some:List Nat):List Nat × Int:=(some,worthOf pairs some * (-1) ^ (some.length + 1))
noncomputable def termsOf (pairs:List (List Nat)) (sets:List (List Nat)):List (List Nat × Int):=(sets.filter fun s=>worthOf pairs s != 0).map (termOf pairs)
theorem rep_len (c:Nat) (k:Nat):(rep [c] (k:Nat)).length = k:=by
  unfold rep
  rw [List.length_flatten,Int.toNat_natCast,List.map_replicate,List.sum_replicate_nat]; simp
theorem setStep_len (bag:List Nat) (s:List (List Nat)) (c:Nat):(setStep bag s c).length≤2 * s.length:=by
  unfold setStep
  split
  · rw [List.length_append,List.length_map]; omega
  · omega
theorem bagRow_len {bag:List Nat} (hb:bag.length≤5) (c:Nat) (w:List Nat):(bagRow bag c w).length≤6:=by
  unfold bagRow
  rw [List.length_map,List.length_range]
  have:=List.count_le_length (a:=c) (l:=bag)
  omega
theorem bagFlat_len {bag:List Nat} (hb:bag.length≤5) (c:Nat):∀ b:List (List Nat),(b.flatMap (bagRow bag c)).length≤6 * b.length
  | []=>Nat.le_refl _
  | w :: b=>by
    have h1:=bagFlat_len hb c b
    have h2:=bagRow_len hb c w
    rw [List.flatMap_cons,List.length_append,List.length_cons]; exact o245 h1 h2
theorem bagStep_len {bag:List Nat} (hb:bag.length≤5) (b:List (List Nat)) (c:Nat):(bagStep bag b c).length≤6 * b.length:=by
  unfold bagStep
  split
  · exact bagFlat_len hb c b
  · omega
theorem setStep_mem {bag:List Nat} {s:List (List Nat)} {c m:Nat} (h:∀ w∈s,w.length≤m):∀ w∈setStep bag s c,w.length≤m + 1:=fun w hw=>by
  unfold setStep at hw
  split at hw
  · rcases List.mem_append.mp hw with q | q
    · exact Nat.le_succ_of_le (h w q)
    · obtain ⟨x,hx,rfl⟩:=List.mem_map.mp q
      have:=h x hx
      rw [List.length_append,List.length_singleton]; omega
  · exact Nat.le_succ_of_le (h w hw)
theorem bagStep_mem {bag:List Nat} (hb:bag.length≤5) {b:List (List Nat)} {c m:Nat} (h:∀ w∈b,w.length≤m):∀ w∈bagStep bag b c,w.length≤m + 5:=fun w hw=>by
  unfold bagStep at hw
  split at hw
  · obtain ⟨x,hx,q⟩:=List.mem_flatMap.mp hw
    obtain ⟨k,hk,rfl⟩:=List.mem_map.mp q
    have:=h x hx
    have hc:=List.count_le_length (a:=c) (l:=bag)
    have hk:=List.mem_range.mp hk
    rw [List.length_append,rep_len]; exact o288 hb this hc hk
  · exact Nat.le_trans (h w hw) (Nat.le_add_right _ _)
theorem setsOf_ok (bag:List Nat):∀ letters:List Nat,(setsOf letters bag).length≤2 ^ letters.length∧∀ w∈setsOf letters bag,w.length≤letters.length:=by
  have key:∀ (letters:List Nat) (s:List (List Nat)) (m:Nat),(∀ w∈s,w.length≤m)→(letters.foldl (setStep bag) s).length≤2 ^ letters.length * s.length∧∀ w∈letters.foldl (setStep bag) s,w.length≤m + letters.length:=by
    intro letters
    induction letters with
    | nil=>intro s m h; exact ⟨by simp,h⟩
    | cons c letters ih=>
      intro s m h
      obtain ⟨h1,h2⟩:=ih (setStep bag s c) (m + 1) (setStep_mem h)
      refine ⟨Nat.le_trans h1 ?_,fun w hw=>Nat.le_trans (h2 w hw) (by rw [List.length_cons]; omega)⟩
      rw [List.length_cons,Nat.pow_succ,Nat.mul_assoc]
      exact Nat.mul_le_mul_left _ (setStep_len bag s c)
  intro letters
  have:=key letters [[]] 0 (fun r hr=>by rw [List.mem_singleton.mp hr]; exact Nat.le_refl _)
  rw [List.length_singleton,Nat.mul_one,Nat.zero_add] at this
  exact this
theorem bagsOf_ok {bag:List Nat} (hb:bag.length≤5):∀ letters:List Nat,(bagsOf letters bag).length≤6 ^ letters.length∧∀ w∈bagsOf letters bag,w.length≤5 * letters.length:=by
  have key:∀ (letters:List Nat) (s:List (List Nat)) (m:Nat),(∀ w∈s,w.length≤m)→(letters.foldl (bagStep bag) s).length≤6 ^ letters.length * s.length∧∀ w∈letters.foldl (bagStep bag) s,w.length≤m + 5 * letters.length:=by
    intro letters
    induction letters with
    | nil=>intro s m h; exact ⟨by simp,h⟩
    | cons c letters ih=>
      intro s m h
      obtain ⟨h1,h2⟩:=ih (bagStep bag s c) (m + 5) (bagStep_mem hb h)
      refine ⟨Nat.le_trans h1 ?_,fun w hw=>Nat.le_trans (h2 w hw) (by rw [List.length_cons]; exact o289)⟩
      rw [List.length_cons,Nat.pow_succ,Nat.mul_assoc]
      exact Nat.mul_le_mul_left _ (bagStep_len hb s c)
  intro letters
  have:=key letters [[]] 0 (fun r hr=>by rw [List.mem_singleton.mp hr]; exact Nat.zero_le _)
  rw [List.length_singleton,Nat.mul_one,Nat.zero_add] at this
  exact this
theorem cell_small (pairs:List (List Nat)) (a b:Nat):(cellOf1 pairs a b).natAbs≤1:=by
  unfold cellOf1
  split <;> decide
theorem worthFrom_le {f:List (List Int)→Int} {t:List (List Int)} {B:Nat} (hf:∀ k,(f ((t.drop 1).map (dropAt k))).natAbs≤B) (he:∀ k,(entry t k).natAbs≤1):∀ ks:List Nat,(worthFrom f t ks).natAbs≤ks.length * B
  | []=>Nat.zero_le _
  | k :: ks=>by
    have ih:=worthFrom_le hf he ks
    rw [worthFrom,List.length_cons]
    have h1:((-1) ^ k * entry t k * f ((t.drop 1).map (dropAt k))).natAbs≤B:=by
      rw [Int.natAbs_mul,Int.natAbs_mul]
      have h2:((-1:Int) ^ k).natAbs = 1:=by rcases neg_one_pow k with e | e <;> rw [e] <;> rfl
      rw [h2,Nat.one_mul]
      exact Nat.le_trans (Nat.mul_le_mul (he k) (hf k)) (by omega)
    have:=Int.natAbs_add_le ((-1) ^ k * entry t k * f ((t.drop 1).map (dropAt k))) (worthFrom f t ks)
    rw [Nat.add_mul]; omega
theorem worth_le:∀ (m:Nat) (t:List (List Int)),(∀ row∈t,∀ x∈row,x.natAbs≤1)→(worth m t).natAbs≤m ^ m
  | 0,t,_=>Nat.le_refl _
  | m + 1,t,h=>by
    have he:∀ k,(entry t k).natAbs≤1:=fun k=>by
      unfold entry
      cases t with
      | nil=>simp
      | cons row t=>
        cases e:((row :: t).headD [])[k]? with
        | none=>simp
        | some x=>exact h row (List.mem_cons_self ..) x (List.mem_of_getElem? e)
    have:=worthFrom_le (t:=t) (f:=worth m) (B:=m ^ m) (fun k=>worth_le m _ fun row hr x hx=>by
      obtain ⟨r,hr',rfl⟩:=List.mem_map.mp hr
      exact h r (List.mem_of_mem_drop hr') x (mem_dropAt hx)) he (List.range (m + 1))
    rw [List.length_range] at this
    refine Nat.le_trans this ?_
    rw [Nat.pow_succ,Nat.mul_comm]
    exact Nat.mul_le_mul_right _ (Nat.pow_le_pow_left (Nat.le_succ m) m)
theorem worthOf_le (pairs:List (List Nat)) {some:List Nat} (h:some.length≤4):(worthOf pairs some).natAbs≤256:=by
  refine Nat.le_trans (worth_le _ _ fun row hr x hx=>?_) ?_
  · obtain ⟨a,_,rfl⟩:=List.mem_map.mp hr
    obtain ⟨b,_,rfl⟩:=List.mem_map.mp hx
    exact cell_small ..
  · have hn:∀ m:Nat,m≤4→m ^ m≤256:=by decide +kernel
    exact hn _ h
noncomputable def cst (letters bag:List Nat) (pairs:List (List Nat)) (sets bags lt terms sm wo co ch re:Slot):Store:=
  [("letters",.val (.str letters)),("bag",.val (.str bag)),("pairs",.val (.list (pairs.map V.str))),("sets",sets),("bags",bags),("letter",lt),("terms",terms),("some",sm),("worth",wo),("counts",co),("chosen",ch),("rest",re)]
noncomputable abbrev strsV (l:List (List Nat)):V:=.list (l.map V.str)
theorem setsOf_snoc (bag done:List Nat) (c:Nat):setsOf (done ++ [c]) bag = setStep bag (setsOf done bag) c:=by unfold setsOf; rw [List.foldl_append]; rfl
theorem bagsOf_snoc (bag done:List Nat) (c:Nat):bagsOf (done ++ [c]) bag = bagStep bag (bagsOf done bag) c:=by unfold bagsOf; rw [List.foldl_append]; rfl
theorem flat_single {α β:Type} (g:α→β) (xs:List α):(xs.filter fun ψ=>true).flatMap (fun x=>[g x]) = xs.map g:=by
  rw [List.filter_eq_self.mpr fun ψ ψ=>rfl]
  induction xs with
  | nil=>rfl
  | cons x xs ih=>rw [List.flatMap_cons,ih]; rfl
section
variable {W:Wo} {n:Nat}
theorem counted_sets (G:G9 W) {letters bag:List Nat} {pairs:List (List Nat)} {sts:List Stmt} {r:Res} (hl:letters.length≤4) (hb:bag.length≤5) (hsts:sts = (fbody (nth pw 35)).drop 2)
    (rest:∀ lt,pSQ lt→RQ W n (fQ (nth pw 35)) sts (cst letters bag pairs (.val (strsV (setsOf letters bag))) (.val (strsV (bagsOf letters bag))) lt .unset .unset .unset .unset .unset .unset) r) :
    RQ W n (fQ (nth pw 35)) (fbody (nth pw 35)) (aQ ["letters","bag","pairs"] [.str letters,.str bag,strsV pairs] ["sets","bags","letter","terms","some","worth","counts","chosen","rest"]) r:=by
  show RQ W n _ _ [("letters",.val (.str letters)),("bag",.val (.str bag)),("pairs",.val (.list (pairs.map V.str))),("sets",.unset),("bags",.unset),("letter",.unset),("terms",.unset),("some",.unset),("worth",.unset),("counts",.unset),("chosen",.unset),("rest",.unset)] _
  refine RQ.cons (Runs.swapped (xs:=["sets","bags"]) (ds:=[.list [V.str (L "")],.list [V.str (L "")]]) (Ev.tup (.cons (Ev.list (ds:=[V.str (L "")]) (Evs.one Ev.str (fun ψ=>by rfl)) (by decide)) (Evs.one (Ev.list (ds:=[V.str (L "")]) (Evs.one Ev.str (fun ψ=>by rfl)) (by decide)) (fun ψ=>by rfl)) (fun ψ=>by rfl)) (by decide)) (BindsR.cons (by repeat constructor) (by exact noApp.of rfl) (BindsR.cons (by repeat constructor) (by exact noApp.of rfl) BindsR.nil)) (fun ψ=>by rfl) (fun env he=>by cases env; cases he; kernel_rfl) rfl) ?_
  refine RQ.forInv (fun (c:Nat)=>V.str [c]) (fun done σ=>∃ lt,pSQ lt∧σ = cst letters bag pairs (.val (strsV (setsOf done bag))) (.val (strsV (bagsOf done bag))) lt .unset .unset .unset .unset .unset .unset) letters
    Ev.nm JQ.str (fun ψ ψ=>by rfl) ⟨.unset,.unset,rfl⟩ ?_ ?_
  · rintro done c rest' σ hx ⟨lt,hlt,rfl⟩
    have hdl:done.length≤3:=by rw [hx,List.length_append,List.length_cons] at hl; omega
    obtain ⟨hs1,hs2⟩:=setsOf_ok bag done
    obtain ⟨hb1,hb2⟩:=bagsOf_ok hb done
    have hs3:(setsOf done bag).length≤8:=Nat.le_trans hs1 (Nat.le_trans (Nat.pow_le_pow_right (by decide) hdl) (by decide))
    have hb3:(bagsOf done bag).length≤216:=Nat.le_trans hb1 (Nat.le_trans (Nat.pow_le_pow_right (by decide) hdl) (by decide))
    have hcnt:=List.count_le_length (a:=c) (l:=bag)
    refine ⟨cst letters bag pairs (.val (strsV (setsOf done bag))) (.val (strsV (bagsOf done bag))) (.val (.str [c])) .unset .unset .unset .unset .unset .unset,cst letters bag pairs (.val (strsV (setsOf (done ++ [c]) bag))) (.val (strsV (bagsOf (done ++ [c]) bag))) (.val (.str [c])) .unset .unset .unset .unset .unset .unset,Binds.name (by unfold cst; repeat constructor) (by unfold cst; repeat first | exact noApp.of rfl | refine noApp.plain (by assumption) ?_ | refine noApp.val ?_ | refine noApp.unset ?_ | refine noApp.own ?_ | refine noApp.app (by decide) ?_),?_,_,.val,rfl⟩
    rw [setsOf_snoc,bagsOf_snoc]
    unfold setStep bagStep
    have ht:EvT W n (fQ (nth pw 35)) (cst letters bag pairs (.val (strsV (setsOf done bag))) (.val (strsV (bagsOf done bag))) (.val (.str [c])) .unset .unset .unset .unset .unset .unset) (.Compare (.Name "letter" default) [.In] [.Name "bag" default] default) (decide (c∈bag)):=by
      rw [← isIn_one]
      unfold cst
      exact EvT.cmp Ev.nm Ev.nm CQ.in_str (by rfl)
    by_cases hc:c∈bag
    · rw [if_pos hc,if_pos hc]
      rw [decide_eq_true hc] at ht
      have hmap:(setsOf done bag ++ (setsOf done bag).map (· ++ [c])).map V.str = (setsOf done bag).map V.str ++ (setsOf done bag).map fun w=>V.str (w ++ [c]):=by rw [List.map_append,List.map_map]; rfl
      have hflat:((bagsOf done bag).flatMap (bagRow bag c)).map V.str = ((bagsOf done bag).filter fun ψ=>true).flatMap fun w=>(bagRow bag c w).map V.str:=by rw [List.map_flatMap,List.filter_eq_self.mpr fun ψ ψ=>rfl]
      unfold strsV
      rw [hmap,hflat]
      unfold cst
      refine RQ.one (Runs.ifT (by
        rw [show true = isIn [c] bag by rw [isIn_one,decide_eq_true hc]]
        exact EvT.cmp Ev.nm Ev.nm CQ.in_str (by rfl)) (RQ.cons (Runs.assign (Ev.bin Ev.nm (Ev.comp ["some"] (by kernel_rfl) Ev.nm JQ.list (EmitL.map V.str (fun w=>V.str (w ++ [c])) (setsOf done bag) fun w hw=>Ev.bin Ev.nm Ev.nm (BQ.cat ?_)) ?_ (plain1 fun e=>⟨rfl,fun x=>by rfl⟩)) (BQ.catL ?_)) (by repeat constructor) (by exact noApp.of rfl) (fun ψ=>by rfl))
        (RQ.one (Runs.assignComp ["some","k"] (by kernel_rfl) Ev.nm JQ.list (EmitL.gen V.str (fun ψ=>true) (fun w=>(bagRow bag c w).map V.str) (bagsOf done bag) fun w hw=>⟨[("some",.val (.str w)),("k",.unset)],Binds.name .here (noApp.unset (noApp.unset .nil)),.drop (.same .nil),Tests.nil,fun ψ=>⟨.rng 0 ((bag.count c:Nat) + 1) 1,_,?_,JQ.up (by decide) (by decide) (by omega) (by exact o290 hb hcnt),?_⟩⟩) ?_ (fun e g hg=>?_) (by repeat constructor) (by exact noApp.of rfl)))))
      · have:=hs2 w hw; rw [List.length_singleton]; exact o291 hdl this
      · rw [List.length_map]; omega
      · rw [List.length_map,List.length_map]; omega
      · exact Ev.call (Ev.builtin (by kernel_rfl) G.range bb_range) (Evs.one (Ev.bin (Ev.meth Ev.nm (Evs.one Ev.nm (fun ψ=>by rfl)) HQ.str meth_count KQ.count (fun ψ=>by rfl) (by rfl) (by decide)) Ev.int BQ.add) (fun ψ=>by rfl)) (by trivial) KQ.range_1
      · have e:(bagRow bag c w).map V.str = ((List.range (((bag.count c:Nat):Int) + 1 - 0).toNat).filter fun ψ=>true).flatMap fun (k:Nat)=>[V.str (w ++ rep [c] (k:Nat))]:=by
          unfold bagRow
          rw [flat_single,List.map_map,show (((bag.count c:Nat):Int) + 1 - 0).toNat = bag.count c + 1 by exact o296]; rfl
        rw [e]
        refine EmitL.gen (fun (k:Nat)=>V.int (0 + k)) (fun ψ=>true) (fun (k:Nat)=>[V.str (w ++ rep [c] (k:Nat))]) _ fun k hk=>⟨[("some",.val (.str w)),("k",.val (.int (0 + (k:Nat))))],Binds.name (.there .here) (noApp.val (noApp.unset .nil)),.same (.drop .nil),Tests.nil,fun ψ=>⟨_,rfl,?_⟩⟩
        have hk:=List.mem_range.mp hk
        have hw5:=hb2 w hw
        refine Ev.bin (b:=.str (rep [c] (k:Nat))) Ev.nm (Ev.bin Ev.nm Ev.nm ?_) (BQ.cat (by rw [rep_len]; exact o297 hb hdl hcnt hk hw5))
        rw [show (0:Int) + (k:Nat) = (k:Nat) by exact o298]
        exact BQ.rep 1 5 (Nat.le_refl _) (by exact o299 hb hcnt hk) (by omega) (by decide) (by decide)
      · rw [← hflat,List.length_map]
        have:=bagFlat_len hb c (bagsOf done bag)
        exact o300 hb3 this
      · rcases List.mem_cons.mp hg with rfl | hg
        · exact ⟨rfl,fun x=>by rfl⟩
        · rw [List.mem_singleton.mp hg]; exact ⟨rfl,fun x=>by rfl⟩
    · rw [if_neg hc,if_neg hc]
      unfold cst
      refine RQ.one (Runs.ifF (by
        rw [show false = isIn [c] bag by rw [isIn_one,decide_eq_false hc]]
        exact EvT.cmp Ev.nm Ev.nm CQ.in_str (by rfl)) RQ.nil)
  · rintro σ ⟨lt,hlt,rfl⟩
    have:=rest lt hlt
    rw [hsts] at this
    exact this
end
noncomputable abbrev termV (t:List Nat × Int):V:=.tup [.str t.1,.int t.2]
theorem termsOf_snoc (pairs done:List (List Nat)) (s:List Nat):termsOf pairs (done ++ [s]) = termsOf pairs done ++ (if worthOf pairs s != 0 then [termOf pairs s] else []):=by
  unfold termsOf
  rw [List.filter_append,List.map_append]
  congr 1
  rw [List.filter_cons]
  split <;> rfl
theorem termsOf_len (pairs sets:List (List Nat)):(termsOf pairs sets).length≤sets.length:=by
  unfold termsOf
  rw [List.length_map]
  exact List.length_filter_le _ _
section
variable {W:Wo} {n:Nat}
theorem counted_terms (G:G9 W) {letters bag:List Nat} {pairs sets bags:List (List Nat)} {lt:Slot} {sts:List Stmt} {r:Res} (hlt:pSQ lt) (hs1:sets.length≤16) (hs2:∀ s∈sets,s.length≤4) (hsts:sts = (fbody (nth pw 35)).drop 4)
    (rest:∀ sm wo,pSQ sm→pSQ wo→RQ W (n + 5) (fQ (nth pw 35)) sts (cst letters bag pairs (.val (strsV sets)) (.val (strsV bags)) lt (.val (.list ((termsOf pairs (sets.drop 1)).map termV))) sm wo .unset .unset .unset) r) :
    RQ W (n + 5) (fQ (nth pw 35)) ((fbody (nth pw 35)).drop 2) (cst letters bag pairs (.val (strsV sets)) (.val (strsV bags)) lt .unset .unset .unset .unset .unset .unset) r:=by
  unfold cst
  refine RQ.cons (Runs.assignOwn (ds:=(termsOf pairs []).map termV) (EvNew.list Evs.nil (by exact Nat.zero_le _)) (by repeat constructor) (by repeat first | exact noApp.of rfl | refine noApp.plain (by assumption) ?_ | refine noApp.val ?_ | refine noApp.unset ?_ | refine noApp.own ?_ | refine noApp.app (by decide) ?_) (fun ψ=>by rfl)) ?_
  refine RQ.forInv V.str (fun done σ=>∃ sm wo,pSQ sm∧pSQ wo∧σ = cst letters bag pairs (.val (strsV sets)) (.val (strsV bags)) lt (.own ((termsOf pairs done).map termV)) sm wo .unset .unset .unset) (sets.drop 1) (a:=.list ((sets.drop 1).map V.str))
    ?_ JQ.list (fun ψ ψ=>by rfl) ⟨.unset,.unset,.unset,.unset,rfl⟩ ?_ ?_
  · have e:(sets.drop 1).map V.str = sl (sets.map V.str) (some ((1:Nat):Int)) none none:=by
      by_cases h1:1≤sets.length
      · rw [sl_from _ (by rw [List.length_map]; exact h1),List.map_drop]
      · have:sets = []:=List.length_eq_zero_iff.mp (by exact o292 h1)
        rw [this]; rfl
    rw [e]
    exact Ev.slice Ev.nm (.some Ev.int) .none .none (SQ.list (by decide) (by rw [List.length_map]; omega)) (fun ψ ψ=>⟨_,by rfl⟩)
  · rintro done s rest' σ hx ⟨sm,wo,h1,h2,rfl⟩
    have hsm:s∈sets:=List.mem_of_mem_drop (by rw [hx]; simp:s∈sets.drop 1)
    have hsl:=hs2 s hsm
    have hdl:done.length≤16:=by
      have:(sets.drop 1).length≤16:=by rw [List.length_drop]; exact o293 hs1
      rw [hx,List.length_append] at this; omega
    have htl:=termsOf_len pairs done
    have hw:=worthOf_le pairs hsl
    refine ⟨cst letters bag pairs (.val (strsV sets)) (.val (strsV bags)) lt (.own ((termsOf pairs done).map termV)) (.val (.str s)) wo .unset .unset .unset,cst letters bag pairs (.val (strsV sets)) (.val (strsV bags)) lt (.own ((termsOf pairs (done ++ [s])).map termV)) (.val (.str s)) (.val (.int (worthOf pairs s))) .unset .unset .unset,Binds.name (by unfold cst; repeat constructor) (by unfold cst; repeat first | exact noApp.of rfl | refine noApp.plain (by assumption) ?_ | refine noApp.val ?_ | refine noApp.unset ?_ | refine noApp.own ?_ | refine noApp.app (by decide) ?_),?_,_,_,.val,.val,rfl⟩
    have hcall:RQ W (n + 4) (fQ (nth pw 34)) (fbody (nth pw 34)) (aQ ["table"] [encT (tableOf pairs s)] ["total","k"]) (.ret (.int (worthOf pairs s))):=by
      have:=law_worth G s.length (n + 4 - s.length) (tableOf pairs s) hsl (by unfold tableOf; rw [List.length_map]) (fun row hr=>by
        obtain ⟨a,_,rfl⟩:=List.mem_map.mp hr
        rw [List.length_map]) (fun row hr x hx=>by
        obtain ⟨a,_,rfl⟩:=List.mem_map.mp hr
        obtain ⟨b,_,rfl⟩:=List.mem_map.mp hx
        exact Nat.lt_of_le_of_lt (cell_small pairs a b) (by decide))
      rwa [show n + 4 - s.length + s.length = n + 4 by exact o294 hsl] at this
    rw [termsOf_snoc]
    unfold cst
    refine RQ.cons (σ':=cst letters bag pairs (.val (strsV sets)) (.val (strsV bags)) lt (.own ((termsOf pairs done).map termV)) (.val (.str s)) (.val (.int (worthOf pairs s))) .unset .unset .unset) (Runs.assign (d:=.int (worthOf pairs s)) (Ev.fn ["total","k"] G.worth (by kernel_rfl) (Evs.one (d:=encT (tableOf pairs s)) ?_ (fun ψ=>by rfl)) (by kernel_rfl) rfl hcall) (by unfold cst; repeat constructor) (by repeat first | exact noApp.of rfl | refine noApp.plain (by assumption) ?_ | refine noApp.val ?_ | refine noApp.unset ?_ | refine noApp.own ?_ | refine noApp.app (by decide) ?_) (fun ψ=>by rfl)) ?_
    · have e:encT (tableOf pairs s) = .list (s.map fun a=>encR (s.map (cellOf1 pairs a))):=by
        show V.list _ = _
        unfold tableOf
        rw [List.map_map]; rfl
      rw [e]
      refine Ev.comp ["one"] (by kernel_rfl) Ev.nm JQ.str (EmitL.map (fun c=>V.str [c]) (fun a=>encR (s.map (cellOf1 pairs a))) s fun a ha=>?_) (by rw [List.length_map]; exact o295 hsl) (plain1 fun e=>⟨rfl,fun x=>by rfl⟩)
      have e2:encR (s.map (cellOf1 pairs a)) = .list (s.map fun b=>V.int (cellOf1 pairs a b)):=by
        show V.list _ = _
        rw [List.map_map]; rfl
      rw [e2]
      refine Ev.comp ["two"] (by kernel_rfl) Ev.nm JQ.str (EmitL.map (fun c=>V.str [c]) (fun b=>V.int (cellOf1 pairs a b)) s fun b hb=>?_) (by rw [List.length_map]; exact o295 hsl) (plain1 fun e=>⟨rfl,fun x=>by rfl⟩)
      unfold cellOf1
      refine Ev.ite (c:=pairs.any (· == [a,b])) (EvT.cmp (Ev.bin (c:=.str ([a] ++ [b])) Ev.nm Ev.nm (BQ.cat (by simp))) Ev.nm CQ.in_list (by rfl)) (fun h=>?_) (fun h=>?_)
      · rw [h]; exact Ev.int
      · rw [h]; exact Ev.int
    · unfold cst
      by_cases h0:worthOf pairs s = 0
      · have hb:(worthOf pairs s != 0) = false:=by rw [h0]; rfl
        rw [hb,if_neg (by simp),List.append_nil]
        refine RQ.one (Runs.ifF (EvT.cmp (c:=false) (b:=.int 0) Ev.nm Ev.int ?_ (by rfl)) .nil)
        have:=CQ.ne_int (W:=W) (a:=worthOf pairs s) (b:=0)
        rwa [hb] at this
      · have hb:(worthOf pairs s != 0) = true:=bne_iff_ne.mpr h0
        rw [hb,if_pos rfl,List.map_append,show [termOf pairs s].map termV = [V.tup [.str s,.int (worthOf pairs s * (-1) ^ (s.length + 1))]] from rfl]
        refine RQ.one (Runs.ifT (EvT.cmp (c:=true) (b:=.int 0) Ev.nm Ev.int ?_ (by rfl)) (RQ.one (Runs.append (by repeat constructor) (Ev.tup (ds:=[.str s,.int (worthOf pairs s * (-1) ^ (s.length + 1))]) (.cons Ev.nm (Evs.one (Ev.bin (b:=.int ((-1) ^ (s.length + 1))) Ev.nm (Ev.bin (b:=.int ((s.length:Nat) + 1)) (Ev.un Ev.int UnOk.neg) (Ev.bin (Ev.len G.toG1 (by kernel_rfl) Ev.nm (KQ.len_str (by exact o301 hsl)) (fun ψ=>by rfl)) Ev.int BQ.add) ?_) (BQ.mulL (by omega))) (fun ψ=>by rfl)) (fun ψ=>by rfl)) (by simp)) (by repeat constructor) (by rw [List.length_map]; omega) (by rfl) (fun ψ=>by rfl))))
        · have:=CQ.ne_int (W:=W) (a:=worthOf pairs s) (b:=0)
          rwa [hb] at this
        · have:=BQ.pow (W:=W) (a:=-1) (b:=(s.length:Nat) + 1) (by exact o40) (by omega) (by decide)
          rwa [show (((s.length:Nat):Int) + 1).toNat = s.length + 1 by exact o302 hsl] at this
  · rintro σ ⟨sm,wo,h1,h2,rfl⟩
    unfold cst
    refine RQ.freeze (x:="terms") (by repeat constructor) (by repeat constructor) ?_
    have:=rest sm wo h1 h2
    rw [hsts] at this
    exact this
end
noncomputable def erases (b ch:List Nat):List Nat:=ch.foldl (fun r c=>r.erase c) b
noncomputable def cStep (b:List Nat) (m:List (List Nat × Int)) (t:List Nat × Int):List (List Nat × Int):=
  if (erases b t.1).length + t.1.length = b.length then setI m b ((getI m b).getD 0 + t.2 * (getI m (erases b t.1)).getD 0) else m
noncomputable def cBag (terms:List (List Nat × Int)) (m:List (List Nat × Int)) (b:List Nat):List (List Nat × Int):=terms.foldl (cStep b) (setI m b 0)
noncomputable def cAll (terms:List (List Nat × Int)) (bags:List (List Nat)):List (List Nat × Int):=bags.foldl (cBag terms) [([],1)]
theorem getI_map (l:List Nat) (i:Int) (r:List Nat):∀ m:List (List Nat × Int),getI (m.map fun e=>if e.1 = l then (e.1,i) else e) r = if r = l then (getI m r).map (fun ψ=>i) else getI m r
  | []=>by split <;> rfl
  | e :: m=>by
    have ih:=getI_map l i r m
    unfold getI at ih ⊢
    rw [List.map_cons,List.find?_cons,List.find?_cons]
    by_cases h1:e.1 = l
    · rw [if_pos h1]
      by_cases h2:e.1 = r
      · have h3:r = l:=h2 ▸ h1
        rw [if_pos h3]
        simp [h2]
      · have h3:decide (e.1 = r) = false:=decide_eq_false h2
        rw [h3]; exact ih
    · rw [if_neg h1]
      by_cases h2:e.1 = r
      · have h3:¬ r = l:=h2 ▸ h1
        rw [if_neg h3]
        simp [h2]
      · have h3:decide (e.1 = r) = false:=decide_eq_false h2
        rw [h3]; exact ih
theorem any_getI (l:List Nat):∀ m:List (List Nat × Int),m.any (fun e=>decide (e.1 = l)) = (getI m l).isSome
  | []=>rfl
  | e :: m=>by
    have ih:=any_getI l m
    unfold getI at ih ⊢
    rw [List.any_cons,List.find?_cons]
    by_cases h:e.1 = l
    · simp [h]
    · simp [h]; simpa using ih
theorem getI_setI (m:List (List Nat × Int)) (l:List Nat) (i:Int) (r:List Nat):getI (setI m l i) r = if r = l then some i else getI m r:=by
  unfold setI
  rw [any_getI]
  cases h:getI m l with
  | some x=>
    rw [if_pos (show (some x).isSome = true from rfl),getI_map]
    by_cases e:r = l
    · rw [if_pos e,if_pos e,e,h]; rfl
    · rw [if_neg e,if_neg e]
  | none=>
    rw [if_neg (by simp)]
    unfold getI at h ⊢
    rw [List.find?_append]
    by_cases e:r = l
    · subst e
      rw [if_pos rfl]
      cases h2:m.find? fun e=>decide (e.1 = r) with
      | none=>simp
      | some x=>rw [h2] at h; cases h
    · have e':¬ l = r:=fun q=>e q.symm
      rw [if_neg e]
      cases h2:m.find? fun e=>decide (e.1 = r) with
      | none=>simp [e']
      | some x=>rfl
theorem has_setI {m:List (List Nat × Int)} {l:List Nat} {i:Int} {r:List Nat} (h:(getI m r).isSome = true∨r = l):(getI (setI m l i) r).isSome = true:=by
  rw [getI_setI]
  split
  · rfl
  · rename_i q
    exact h.resolve_right q
theorem setI_len (m:List (List Nat × Int)) (l:List Nat) (i:Int):(setI m l i).length≤m.length + 1:=by
  unfold setI
  split
  · rw [List.length_map]; exact o146
  · rw [List.length_append,List.length_singleton]; omega
theorem has_cStep {m:List (List Nat × Int)} {b:List Nat} {t:List Nat × Int} {r:List Nat} (h:(getI m r).isSome = true):(getI (cStep b m t) r).isSome = true:=by
  unfold cStep
  split
  · exact has_setI (.inl h)
  · exact h
theorem has_cFold {b:List Nat} {r:List Nat}:∀ (terms:List (List Nat × Int)) (m:List (List Nat × Int)),(getI m r).isSome = true→(getI (terms.foldl (cStep b) m) r).isSome = true
  | [],m,h=>h
  | t :: terms,m,h=>by rw [List.foldl_cons]; exact has_cFold terms _ (has_cStep h)
theorem has_cBag {terms m:List (List Nat × Int)} {b r:List Nat} (h:(getI m r).isSome = true∨r = b):(getI (cBag terms m b) r).isSome = true:=has_cFold terms _ (has_setI h)
theorem has_cAll (terms:List (List Nat × Int)) {r:List Nat}:∀ (bags:List (List Nat)) (m:List (List Nat × Int)),((getI m r).isSome = true∨r∈bags)→(getI (bags.foldl (cBag terms) m) r).isSome = true
  | [],m,h=>h.resolve_right (fun q=>nomatch q)
  | b :: bags,m,h=>by
    rw [List.foldl_cons]
    refine has_cAll terms bags _ ?_
    rcases h with h | h
    · exact .inl (has_cBag (.inl h))
    · rcases List.mem_cons.mp h with e | h
      · exact .inl (has_cBag (.inr e))
      · exact .inr h
theorem cStep_len {b:List Nat} (m:List (List Nat × Int)) (t:List Nat × Int):(cStep b m t).length≤m.length + 1:=by
  unfold cStep
  split
  · exact setI_len ..
  · exact o146
theorem cFold_len {b:List Nat}:∀ (terms m:List (List Nat × Int)),(terms.foldl (cStep b) m).length≤m.length + terms.length
  | [],m=>Nat.le_refl _
  | t :: terms,m=>by
    rw [List.foldl_cons,List.length_cons]
    have:=cFold_len (b:=b) terms (cStep b m t)
    have:=cStep_len (b:=b) m t
    omega
theorem cBag_len (terms m:List (List Nat × Int)) (b:List Nat):(cBag terms m b).length≤m.length + 1 + terms.length:=by
  unfold cBag
  have:=cFold_len (b:=b) terms (setI m b 0)
  have:=setI_len m b 0
  omega
theorem cAll_len {terms:List (List Nat × Int)} (ht:terms.length≤16):∀ (bags:List (List Nat)) (m:List (List Nat × Int)),(bags.foldl (cBag terms) m).length≤m.length + 17 * bags.length
  | [],m=>by simp
  | b :: bags,m=>by
    rw [List.foldl_cons,List.length_cons]
    have:=cAll_len ht bags (cBag terms m b)
    have:=cBag_len terms m b
    exact o304 ht (by assumption) this
theorem erases_len (b:List Nat):∀ (ch:List Nat),(erases b ch).length≤b.length:=by
  have key:∀ (ch b:List Nat),(ch.foldl (fun r c=>r.erase c) b).length≤b.length:=by
    intro ch
    induction ch with
    | nil=>intro b; exact Nat.le_refl _
    | cons c ch ih=>intro b; rw [List.foldl_cons]; exact Nat.le_trans (ih _) (List.length_erase_le ..)
  exact fun ch=>key ch b
theorem erases_snoc (b ch:List Nat) (c:Nat):erases b (ch ++ [c]) = (erases b ch).erase c:=by unfold erases; rw [List.foldl_append]; rfl
noncomputable def outerB:List Stmt:=match (fbody (nth pw 35))[5]? with
  | some (Stmt.For _ _ body _ _)=>body
  | _=>[]
noncomputable def innerS:Stmt:=(outerB[1]?).getD default
section
variable {W:Wo} {n:Nat}
noncomputable def dst (letters bag:List Nat) (pairs sets bags:List (List Nat)) (terms:List (List Nat × Int)) (d:Addr) (lt sm wo ch re:Slot):Store:=
  cst letters bag pairs (.val (strsV sets)) (.val (strsV bags)) lt (.val (.list (terms.map termV))) sm wo (.val (.val (.ref d))) ch re
theorem terms_loop (G:G1 W) {letters bag:List Nat} {pairs sets bags:List (List Nat)} {terms:List (List Nat × Int)} {d:Addr} {b:List Nat} {m:List (List Nat × Int)}
    (hb:b.length≤100) (ht1:terms.length≤16) (ht:∀ t∈terms,t.1.length≤4∧t.2.natAbs < 2 ^ 64) (hm:m.length≤100000) (hbm:(getI m b).isSome = true)
    (hk:∀ t∈terms,(erases b t.1).length + t.1.length = b.length→(getI m (erases b t.1)).isSome = true) :
    StX W n (fQ (nth pw 35)) [d] (CD W d m) (CD W d (terms.foldl (cStep b) m)) innerS (dst letters bag pairs sets bags terms d .unset (.val (.str b)) .unset .unset .unset) (dst letters bag pairs sets bags terms d .unset (.val (.str b)) .unset .unset .unset):=by
  have hlen:(terms.map termV).length = terms.length:=List.length_map ..
  have eP:terms.foldl (cStep b) m = (terms.take (terms.map termV).length).foldl (cStep b) m:=by rw [hlen,List.take_length]
  rw [eP]
  refine StX.for (xs:=terms.map termV) (a:=.list (terms.map termV)) (fun ψ=>dst letters bag pairs sets bags terms d .unset (.val (.str b)) .unset .unset .unset)
    (fun i=>dst letters bag pairs sets bags terms d .unset (.val (.str b)) (.val (.int (terms.getD i default).2)) (.val (.str (terms.getD i default).1)) .unset)
    (fun i=>CD W d ((terms.take i).foldl (cStep b) m)) (fun ψ=>CD.loc) (by unfold dst cst; exact Ev.nm) JQ.list (fun ψ ψ=>by rfl) fun i x hx=>?_
  have hi:i < terms.length:=by rw [← hlen]; exact (List.getElem?_eq_some_iff.mp hx).1
  have hti:terms[i]? = some (terms.getD i default):=by rw [List.getD_eq_getElem?_getD,List.getElem?_eq_getElem hi]; rfl
  obtain ⟨t,ht'⟩:∃ t,t = terms.getD i default:=⟨_,rfl⟩
  rw [← ht'] at hti
  have hxv:x = termV t:=by
    rw [List.getElem?_map,hti] at hx
    exact (Option.some.inj hx).symm
  subst hxv
  obtain ⟨h4,h64⟩:=ht t (List.mem_of_getElem? hti)
  obtain ⟨mi,hmi⟩:∃ mi,mi = (terms.take i).foldl (cStep b) m:=⟨_,rfl⟩
  have hnext:(terms.take (i + 1)).foldl (cStep b) m = cStep b mi t:=by
    rw [List.take_add_one,hti,List.foldl_append,← hmi]; rfl
  have hml:mi.length≤100016:=by
    have:=cFold_len (b:=b) (terms.take i) m
    rw [← hmi,List.length_take] at this; exact o303 ht1 hm hi this
  have hbi:(getI mi b).isSome = true:=by rw [hmi]; exact has_cFold _ _ hbm
  have hki:(erases b t.1).length + t.1.length = b.length→(getI mi (erases b t.1)).isSome = true:=fun h=>by rw [hmi]; exact has_cFold _ _ (hk t (List.mem_of_getElem? hti) h)
  show _∧StepX W n _ [d] (CD W d ((terms.take i).foldl (cStep b) m)) (CD W d ((terms.take (i + 1)).foldl (cStep b) m)) _ _ _
  rw [hnext,← hmi,← ht']
  refine ⟨Binds.tuple (BindsL.cons (by unfold dst cst; repeat constructor) (by unfold dst cst; exact noApp.of rfl) (BindsL.cons (by unfold dst cst; repeat constructor) (by exact noApp.of rfl) BindsL.nil)),?_⟩
  have hel:=erases_len b t.1
  refine StepX.cons (σ₁:=dst letters bag pairs sets bags terms d .unset (.val (.str b)) (.val (.int t.2)) (.val (.str t.1)) (.val (.str (erases b [])))) (StX.of CD.loc (Runs.assign (d:=.str (erases b [])) (by unfold dst cst; exact Ev.name (d:=.str b) (by repeat constructor) (by kernel_rfl)) (by unfold dst cst; repeat constructor) (by unfold dst cst; exact noApp.of rfl) (fun ψ=>by rfl))) ?_
  refine StepX.cons (σ₁:=dst letters bag pairs sets bags terms d .unset (.val (.str b)) (.val (.int t.2)) (.val (.str t.1)) (.val (.str (erases b (t.1.take (t.1.map fun c=>[c]).length))))) (StX.ofN CD.loc (RunsN.forT (tk:=true) (N:=1) (ls:=t.1.map fun c=>[c]) (a:=.str t.1) (fun j=>dst letters bag pairs sets bags terms d .unset (.val (.str b)) (.val (.int t.2)) (.val (.str t.1)) (.val (.str (erases b (t.1.take j))))) (by unfold dst cst; exact Ev.nm) IterT.str (fun ψ ψ=>by rfl) fun j l x N' hl hx=>?_)) ?_
  · rw [List.getElem?_map] at hl
    obtain ⟨c,hc,rfl⟩:=Option.map_eq_some_iff.mp hl
    cases hx with
    | @tok _ _ u hu=>
    refine ⟨Nat.le_succ_of_le hu,dst letters bag pairs sets bags terms d (.val (.val (.str (St [c]) u))) (.val (.str b)) (.val (.int t.2)) (.val (.str t.1)) (.val (.str (erases b (t.1.take j)))),dst letters bag pairs sets bags terms d (.val (.val (.str (St [c]) u))) (.val (.str b)) (.val (.int t.2)) (.val (.str t.1)) (.val (.str (erases b (t.1.take (j + 1))))),Binds.name (by unfold dst cst; repeat constructor) (by unfold dst cst; exact noApp.of rfl),?_,by unfold dst cst; (repeat (first | exact Wk.nil | with_reducible refine Wk.same ?_ | with_reducible refine Wk.drop ?_))⟩
    have e:erases b (t.1.take (j + 1)) = (erases b (t.1.take j)).erase c:=by
      rw [List.take_add_one,hc]; exact erases_snoc ..
    have hlj:=erases_len b (t.1.take j)
    rw [e]
    unfold dst cst
    exact RunsN.assign (EvN.replace1 (by repeat constructor) (by kernel_rfl) (by repeat constructor) (by kernel_rfl) hu (Nat.le_refl _) (fun ψ=>by rfl) (by rfl) (ofString_L "") (by exact o241 hb hlj) (fun ψ=>by rfl)) (by repeat constructor) (by exact noApp.of rfl) (fun ψ=>by rfl)
  rw [List.length_map,List.take_length]
  have hcmp:∀ {σ:Store} {p1 p2 p3 p4 p5 p6 p7 p8 p9 p10 p11:Pos},(("rest" : Str),Slot.val (.str (erases b t.1)))∈σ→(("chosen" : Str),Slot.val (.str t.1))∈σ→(("some" : Str),Slot.val (.str b))∈σ →
      EvT W n (fQ (nth pw 35)) σ (.Compare (.BinOp (.Call (.Name "len" p1) [.Name "rest" p2] [] p3) .Add (.Call (.Name "len" p4) [.Name "chosen" p5] [] p6) p7) [.Eq] [.Call (.Name "len" p8) [.Name "some" p9] [] p10] p11) (decide ((erases b t.1).length + t.1.length = b.length)):=by
    intro σ p1 p2 p3 p4 p5 p6 p7 p8 p9 p10 p11 h1 h2 h3
    have e:decide ((erases b t.1).length + t.1.length = b.length) = (((erases b t.1).length:Nat) + ((t.1.length:Nat):Int) == ((b.length:Nat):Int)):=by
      rw [Bool.eq_iff_iff,decide_eq_true_eq,beq_iff_eq]; exact o305
    rw [e]
    exact EvT.cmp (Ev.bin (Ev.len G (by kernel_rfl) (Ev.name h1 (by kernel_rfl)) (KQ.len_str (by exact o306 hb hel)) (fun ψ=>by rfl)) (Ev.len G (by kernel_rfl) (Ev.name h2 (by kernel_rfl)) (KQ.len_str (by exact o301 h4)) (fun ψ=>by rfl)) BQ.add) (Ev.len G (by kernel_rfl) (Ev.name h3 (by kernel_rfl)) (KQ.len_str (by exact o106 hb)) (fun ψ=>by rfl)) CQ.eq_int (by rfl)
  have drop:Wk (dst letters bag pairs sets bags terms d .unset (.val (.str b)) (.val (.int t.2)) (.val (.str t.1)) (.val (.str (erases b t.1)))) (dst letters bag pairs sets bags terms d .unset (.val (.str b)) .unset .unset .unset):=by unfold dst cst; (repeat (first | exact Wk.nil | with_reducible refine Wk.same ?_ | with_reducible refine Wk.drop ?_))
  unfold cStep
  by_cases hc:(erases b t.1).length + t.1.length = b.length
  · rw [if_pos hc]
    have hT:=fun {σ}=>@hcmp σ
    rw [decide_eq_true hc] at hT
    obtain ⟨v0,hv0⟩:=Option.isSome_iff_exists.mp hbi
    obtain ⟨v1,hv1⟩:=Option.isSome_iff_exists.mp (hki hc)
    rw [hv0,hv1]
    refine StepX.cons (StX.ifT CD.loc (by unfold dst cst; exact hT (by repeat constructor) (by repeat constructor) (by repeat constructor)) (StepX.one (StX.dictAug (l:=b) (i:=t.2 * v1) (j:=v0) (by unfold dst cst; repeat constructor) (by kernel_rfl) (by unfold dst cst; exact Ev.nm) hv0 (fun W' e1 e2 hB=>?_) (by omega) (fun ψ ψ ψ=>by rfl)))) (StepX.forget drop .nil)
    unfold dst cst
    exact Ev.bin Ev.nm (Ev.item Ev.nm Ev.nm (IQ.dictB hB hv1) (fun ψ ψ=>by rfl)) (BQ.mulL h64)
  · rw [if_neg hc]
    have hT:=fun {σ}=>@hcmp σ
    rw [decide_eq_false hc] at hT
    exact StepX.cons (StX.ifF CD.loc (by unfold dst cst; exact hT (by repeat constructor) (by repeat constructor) (by repeat constructor)) StepX.nil) (StepX.forget drop .nil)
end
noncomputable def counted (letters bag:List Nat) (pairs:List (List Nat)):Int:=(getI (cAll (termsOf pairs ((setsOf letters bag).drop 1)) ((bagsOf letters bag).drop 1)) bag).getD 0
section
variable {W:Wo} {n:Nat}
theorem law_counted (G:G9 W) {letters bag:List Nat} {pairs:List (List Nat)} (hl:letters.length≤4) (hb:bag.length≤5)
    (hkeys:∀ i b,((bagsOf letters bag).drop 1)[i]? = some b→∀ t∈termsOf pairs ((setsOf letters bag).drop 1),(erases b t.1).length + t.1.length = b.length→erases b t.1∈[] :: ((bagsOf letters bag).drop 1).take i)
    (hbag:bag∈[] :: (bagsOf letters bag).drop 1) :
    RQ W (n + 5) (fQ (nth pw 35)) (fbody (nth pw 35)) (aQ ["letters","bag","pairs"] [.str letters,.str bag,strsV pairs] ["sets","bags","letter","terms","some","worth","counts","chosen","rest"]) (.ret (.int (counted letters bag pairs))):=by
  obtain ⟨hs1,hs2⟩:=setsOf_ok bag letters
  obtain ⟨hb1,hb2⟩:=bagsOf_ok hb letters
  have hs3:(setsOf letters bag).length≤16:=Nat.le_trans hs1 (Nat.le_trans (Nat.pow_le_pow_right (by decide) hl) (by decide))
  have hb3:(bagsOf letters bag).length≤1296:=Nat.le_trans hb1 (Nat.le_trans (Nat.pow_le_pow_right (by decide) hl) (by decide))
  have hs4:∀ s∈setsOf letters bag,s.length≤4:=fun s h=>Nat.le_trans (hs2 s h) hl
  obtain ⟨sets,hsets⟩:∃ sets,sets = setsOf letters bag:=⟨_,rfl⟩
  obtain ⟨bags,hbags⟩:∃ bags,bags = bagsOf letters bag:=⟨_,rfl⟩
  refine counted_sets G hl hb rfl fun lt hlt=>?_
  rw [← hsets] at hs3 hs4 ⊢
  rw [← hbags] at hb3 hb2 ⊢
  refine counted_terms G hlt hs3 hs4 rfl fun sm wo hsm hwo=>?_
  unfold counted
  rw [← hsets,← hbags] at hkeys ⊢
  rw [← hbags] at hbag
  obtain ⟨terms,hterms⟩:∃ terms,terms = termsOf pairs (sets.drop 1):=⟨_,rfl⟩
  rw [← hterms] at hkeys ⊢
  have ht1:terms.length≤16:=by
    rw [hterms]
    refine Nat.le_trans (termsOf_len _ _) ?_
    rw [List.length_drop]; exact o293 hs3
  have ht2:∀ t∈terms,t.1.length≤4∧t.2.natAbs < 2 ^ 64:=fun t ht=>by
    rw [hterms] at ht
    obtain ⟨s,hs,rfl⟩:=List.mem_map.mp ht
    have hs':=hs4 s (List.mem_of_mem_drop (List.mem_filter.mp hs).1)
    refine ⟨hs',?_⟩
    show (worthOf pairs s * (-1) ^ (s.length + 1)).natAbs < _
    rw [Int.natAbs_mul,show ((-1:Int) ^ (s.length + 1)).natAbs = 1 by rcases neg_one_pow (s.length + 1) with e | e <;> rw [e] <;> rfl,Nat.mul_one]
    exact Nat.lt_of_le_of_lt (worthOf_le pairs hs') (by decide)
  have hbl:∀ b∈bags,b.length≤100:=fun b h=>by have:=hb2 b h; exact o307 hl this
  obtain ⟨bs,hbs⟩:∃ bs,bs = bags.drop 1:=⟨_,rfl⟩
  rw [← hbs] at hkeys hbag ⊢
  have hbs3:bs.length≤1296:=by rw [hbs,List.length_drop]; exact o308 hb3
  have hall:∀ i,(cAll terms (bs.take i)).length≤25000:=fun i=>by
    have:=cAll_len ht1 (bs.take i) [([],1)]
    have h2:(bs.take i).length≤1296:=by rw [List.length_take]; exact o309 hbs3
    rw [List.length_singleton] at this
    unfold cAll; exact o310 this h2
  have hhas:∀ i r,r∈[] :: bs.take i→(getI (cAll terms (bs.take i)) r).isSome = true:=fun i r hr=>by
    refine has_cAll terms (bs.take i) [([],1)] ?_
    rcases List.mem_cons.mp hr with e | h
    · rw [e]; exact .inl rfl
    · exact .inr h
  refine RQ.forget (σ':=cst letters bag pairs (.val (strsV sets)) (.val (strsV bags)) .unset (.val (.list (terms.map termV))) .unset .unset .unset .unset .unset) ?_ ?_
  · unfold cst
    (repeat (first | exact Wk.nil | with_reducible refine Wk.same ?_ | with_reducible refine Wk.drop ?_))
  unfold cst
  refine RQ.dict1 (i:=1) (σ₁:=fun d=>dst letters bag pairs sets bags terms d .unset .unset .unset .unset .unset) (fun d=>by unfold dst cst; repeat constructor) (by exact noApp.of rfl) (ofString_L "") (fun ψ=>by rfl) fun d=>?_
  refine RunsXL.cons (P':=CD W d (cAll terms bs)) (σ₁:=dst letters bag pairs sets bags terms d .unset .unset .unset .unset .unset) ?_ (RunsXL.retDict fun W' e1 e2 hB=>?_)
  · have eP:cAll terms bs = cAll terms (bs.take (bs.map V.str).length):=by rw [List.length_map,List.take_length]
    rw [eP]
    refine StX.for (xs:=bs.map V.str) (a:=.list (bs.map V.str)) (fun ψ=>dst letters bag pairs sets bags terms d .unset .unset .unset .unset .unset) (fun i=>dst letters bag pairs sets bags terms d .unset (.val (.str (bs.getD i []))) .unset .unset .unset)
      (fun i=>CD W d (cAll terms (bs.take i))) (fun ψ=>CD.loc) ?_ JQ.list (fun ψ ψ=>by rfl) fun i x hx=>?_
    · have e:bs.map V.str = sl (bags.map V.str) (some ((1:Nat):Int)) none none:=by
        rw [hbs]
        by_cases h1:1≤bags.length
        · rw [sl_from _ (by rw [List.length_map]; exact h1),List.map_drop]
        · have:bags = []:=List.length_eq_zero_iff.mp (by exact o292 h1)
          rw [this]; rfl
      rw [e]
      unfold dst cst
      exact Ev.slice Ev.nm (.some Ev.int) .none .none (SQ.list (by decide) (by rw [List.length_map]; omega)) (fun ψ ψ=>⟨_,by rfl⟩)
    · have hi:i < bs.length:=by
        have:=(List.getElem?_eq_some_iff.mp hx).1
        rwa [List.length_map] at this
      have hbi:bs[i]? = some (bs.getD i []):=by rw [List.getD_eq_getElem?_getD,List.getElem?_eq_getElem hi]; rfl
      obtain ⟨b,hb'⟩:∃ b,b = bs.getD i []:=⟨_,rfl⟩
      rw [← hb'] at hbi
      have hxv:x = V.str b:=by
        rw [List.getElem?_map,hbi] at hx
        exact (Option.some.inj hx).symm
      subst hxv
      have hnext:cAll terms (bs.take (i + 1)) = cBag terms (cAll terms (bs.take i)) b:=by
        unfold cAll
        rw [List.take_add_one,hbi,List.foldl_append]; rfl
      have hbL:b.length≤100:=hbl b (List.mem_of_mem_drop (hbs ▸ List.mem_of_getElem? hbi))
      show _∧StepX W (n + 5) _ [d] (CD W d (cAll terms (bs.take i))) (CD W d (cAll terms (bs.take (i + 1)))) _ _ _
      rw [hnext,← hb']
      have hi':=hall i
      have hh:=hhas i
      obtain ⟨m,hm⟩:∃ m,m = cAll terms (bs.take i):=⟨_,rfl⟩
      rw [← hm] at hi' hh ⊢
      refine ⟨Binds.name (by unfold dst cst; repeat constructor) (by unfold dst cst; exact noApp.of rfl),?_⟩
      have hsl:=setI_len m b 0
      refine StepX.cons (P':=CD W d (setI m b 0)) (σ₁:=dst letters bag pairs sets bags terms d .unset (.val (.str b)) .unset .unset .unset) (StX.dictSet (by unfold dst cst; repeat constructor) (by kernel_rfl) (by unfold dst cst; exact Ev.nm) Ev.int (by exact o311 hi') (fun ψ=>by rfl)) ?_
      refine StepX.cons (P':=CD W d (cBag terms m b)) (terms_loop G.toG1 hbL ht1 ht2 (by exact o312 hi' hsl) (has_setI (.inr rfl)) fun t ht hc=>has_setI (.inl (hh _ (hkeys i b hbi t ht hc)))) (StepX.forget (by unfold dst cst; (repeat (first | exact Wk.nil | with_reducible refine Wk.same ?_ | with_reducible refine Wk.drop ?_))) .nil)
  · have hg:=hhas bs.length bag (by rw [List.take_length]; exact hbag)
    rw [List.take_length] at hg
    obtain ⟨v,hv⟩:=Option.isSome_iff_exists.mp hg
    rw [hv]
    unfold dst cst
    exact Ev.item Ev.nm Ev.nm (IQ.dictB hB hv) (fun ψ ψ=>by rfl)
end
theorem pool_sub:∀ c∈L "ampltgquo1309xDA",c∈aBQ:=by decide +kernel
theorem dr_step_pool {d:Dr} {i:Nat} (ok:DrOk d i) (hi:i < 4) (h1:∀ c∈d.left,c∈aBQ) (h2:∀ c∈d.letters,c∈aBQ):(∀ c∈(drStep d (sizeOf i)).left,c∈aBQ)∧∀ c∈(drStep d (sizeOf i)).letters,c∈aBQ:=by
  refine ⟨fun c hc=>?_,fun c hc=>?_⟩
  · have hc':c∈rsub d.left (d.left.getD (d.rest.fmod (sizeOf i)).toNat 0) []:=hc
    rw [rsub_nil] at hc'
    exact h1 c (List.mem_filter.mp hc').1
  · have hc':c∈d.letters ++ [d.left.getD (d.rest.fmod (sizeOf i)).toNat 0]:=hc
    rcases List.mem_append.mp hc' with q | q
    · exact h2 c q
    · rw [List.mem_singleton] at q
      subst q
      have hlt:=(drStep_ok ok hi).2.2
      rw [List.getD_eq_getElem?_getD,List.getElem?_eq_getElem hlt]
      exact h1 _ (List.getElem_mem _)
theorem drAll_pool (rest:Int):∀ i,i≤4→(∀ c∈(drAll rest (List.range i)).left,c∈aBQ)∧∀ c∈(drAll rest (List.range i)).letters,c∈aBQ
  | 0,_=>by
    refine ⟨pool_sub,fun c h=>?_⟩
    have h':c∈L "":=h
    rw [show L "" = [] by kernel_rfl] at h'
    cases h'
  | i + 1,h=>by
    have ih:=drAll_pool rest i (by exact o156 h)
    have ok:=drAll_ok rest i (by exact o156 h)
    have e:drAll rest (List.range (i + 1)) = drStep (drAll rest (List.range i)) (sizeOf i):=by unfold drAll; rw [List.range_succ,List.foldl_append]; rfl
    rw [e]
    exact dr_step_pool ok (by exact o157 h) ih.1 ih.2
theorem drawn_len (ns:List Int):(drawn ns).letters.length = 4:=(drAll_ok _ 4 (by decide)).2.2
theorem drawn_pool (ns:List Int):∀ c∈(drawn ns).letters,c∈aBQ:=(drAll_pool _ 4 (by decide)).2
noncomputable def wayN (ns:List Int):Nat:=(((dcQ ns).getD 0 0).fmod 5).toNat
theorem wayN_eq (ns:List Int):((dcQ ns).getD 0 0).fmod 5 = ((wayN ns:Nat):Int):=by
  unfold wayN
  have h1:=Int.fmod_nonneg_of_pos ((dcQ ns).getD 0 0) (show (0:Int) < 5 by decide)
  exact o195 h1
theorem wayN_lt (ns:List Int):wayN ns < 5:=by
  have h2:=Int.fmod_lt_of_pos ((dcQ ns).getD 0 0) (show (0:Int) < 5 by decide)
  have:=wayN_eq ns
  omega
noncomputable def cellsN (ns:List Int):List Int:=(dcQ ns).drop 2
theorem cellsN_len (ns:List Int):(cellsN ns).length = 4:=by
  unfold cellsN dcQ
  rw [List.length_drop,(cellsOf_ok _).1]
theorem dr_step_nodup {d:Dr} {i:Nat} (ok:DrOk d i) (hi:i < 4) (h1:d.letters.Nodup) (h2:∀ c∈d.letters,c ∉ d.left):(drStep d (sizeOf i)).letters.Nodup∧∀ c∈(drStep d (sizeOf i)).letters,c ∉ (drStep d (sizeOf i)).left:=by
  have hlt:=(drStep_ok ok hi).2.2
  have hin:d.left.getD (d.rest.fmod (sizeOf i)).toNat 0∈d.left:=by
    rw [List.getD_eq_getElem?_getD,List.getElem?_eq_getElem hlt]
    exact List.getElem_mem _
  show (d.letters ++ [d.left.getD (d.rest.fmod (sizeOf i)).toNat 0]).Nodup∧∀ c∈d.letters ++ [d.left.getD (d.rest.fmod (sizeOf i)).toNat 0],c ∉ rsub d.left (d.left.getD (d.rest.fmod (sizeOf i)).toNat 0) []
  generalize d.left.getD (d.rest.fmod (sizeOf i)).toNat 0 = x at hin
  rw [rsub_nil]
  refine ⟨?_,fun c hc hm=>?_⟩
  · rw [List.nodup_append]
    refine ⟨h1,by simp,fun a ha b hb=>?_⟩
    rw [List.mem_singleton.mp hb]
    exact fun e=>h2 a ha (e ▸ hin)
  · obtain ⟨m1,m2⟩:=List.mem_filter.mp hm
    rcases List.mem_append.mp hc with q | q
    · exact h2 c q m1
    · rw [List.mem_singleton.mp q] at m2
      simp at m2
theorem drAll_nodup (rest:Int):∀ i,i≤4→(drAll rest (List.range i)).letters.Nodup∧∀ c∈(drAll rest (List.range i)).letters,c ∉ (drAll rest (List.range i)).left
  | 0,_=>by
    show (L "").Nodup∧∀ c∈L "",_
    rw [show L "" = [] by kernel_rfl]
    exact ⟨.nil,fun c h=>nomatch h⟩
  | i + 1,h=>by
    have ih:=drAll_nodup rest i (by exact o156 h)
    have ok:=drAll_ok rest i (by exact o156 h)
    have e:drAll rest (List.range (i + 1)) = drStep (drAll rest (List.range i)) (sizeOf i):=by unfold drAll; rw [List.range_succ,List.foldl_append]; rfl
    rw [e]
    exact dr_step_nodup ok (by exact o157 h) ih.1 ih.2
theorem drawn_nodup (ns:List Int):(drawn ns).letters.Nodup:=(drAll_nodup _ 4 (by decide)).1
noncomputable def picksN (ns:List Int):List Nat:=(picksOf ((dcQ ns).getD 1 0)).map Int.toNat
theorem sorted_nat {l:List Int} (h:l.Pairwise (·≤·)):(l.map Int.toNat).Pairwise (·≤·):=by
  rw [List.pairwise_map]
  exact h.imp fun {a b} hab=>by exact o313 hab
theorem picksN_ok (ns:List Int):(picksN ns).length = 5∧(∀ p∈picksN ns,p < 4)∧(picksN ns).Pairwise (·≤·):=by
  obtain ⟨h1,h2⟩:=picks_ok ((dcQ ns).getD 1 0)
  refine ⟨by unfold picksN; rw [List.length_map,h1],fun p hp=>?_,sorted_nat (sortI_sorted _)⟩
  obtain ⟨x,hx,rfl⟩:=List.mem_map.mp hp
  have:=h2 x hx
  omega
theorem bag_eq (ns:List Int) (letters:List Nat):bagOf letters ((dcQ ns).getD 1 0) = (picksN ns).map fun i=>letters.getD i 0:=by
  unfold bagOf picksN
  rw [List.map_map]; rfl
theorem marks_ok (c:Int):(marksOf c).length = 2∧∀ m∈marksOf c,m∈markT:=by
  have key:∀ x:Int,markT.getD (x.fmod 8).toNat 0∈markT:=fun x=>by
    have h1:=Int.fmod_nonneg_of_pos x (show (0:Int) < 8 by decide)
    have h2:=Int.fmod_lt_of_pos x (show (0:Int) < 8 by decide)
    rw [List.getD_eq_getElem?_getD,List.getElem?_eq_getElem (by rw [markT_len]; exact o207 h2)]
    exact List.getElem_mem _
  refine ⟨rfl,fun m hm=>?_⟩
  unfold marksOf at hm
  rcases List.mem_cons.mp hm with q | q
  · rw [q]; exact key _
  · rw [List.mem_singleton.mp q]; exact key _
noncomputable def figsN (letters:List Nat) (cell:Int):List Nat:=(figures letters cell).map Int.toNat
theorem pal_ok {letters:List Nat} (hs:∀ c∈letters,c∈aBQ):∀ x∈palette letters,0≤x∧x < 64:=by
  intro x hx
  unfold palette at hx
  rcases List.mem_append.mp hx with q | q
  · obtain ⟨c,hc,rfl⟩:=List.mem_map.mp q
    have:=List.idxOf_lt_length_iff.mpr (hs c hc)
    rw [alpha62_len] at this
    omega
  · rcases List.mem_cons.mp q with q | q
    · rw [q]; decide
    · rw [List.mem_singleton.mp q]; decide
theorem fig_ok {letters:List Nat} (hs:∀ c∈letters,c∈aBQ) (cell:Int) (k:Nat):0≤figAt letters cell k∧figAt letters cell k < 64:=by
  unfold figAt
  rw [List.getD_eq_getElem?_getD]
  cases h:(palette letters)[(((cell.fdiv 2).fdiv (figK ^ k)).fmod figK).toNat]? with
  | none=>exact ⟨Int.le_refl _,by decide⟩
  | some x=>exact pal_ok hs x (List.mem_of_getElem? h)
theorem figs_eq {letters:List Nat} (hs:∀ c∈letters,c∈aBQ) (cell:Int):(figures letters cell).map V.int = (figsN letters cell).map fun (k:Nat)=>V.int (k:Nat):=by
  unfold figsN
  rw [List.map_map]
  refine List.map_congr_left fun x hx=>?_
  unfold figures at hx
  obtain ⟨k,_,rfl⟩:=List.mem_map.mp hx
  have:=fig_ok hs cell k
  show V.int _ = V.int _
  congr 1
  exact o314 this
theorem figs_ok {letters:List Nat} (hs:∀ c∈letters,c∈aBQ) (cell:Int) {marks:List Nat} (h2:marks.length = 2) (hm:∀ m∈marks,m∈markT):FigOk (figsN letters cell) marks:=by
  refine ⟨by unfold figsN figures; rw [List.length_map,List.length_map]; rfl,fun f hf=>?_,h2,hm⟩
  unfold figsN figures at hf
  obtain ⟨x,hx,rfl⟩:=List.mem_map.mp hf
  obtain ⟨k,_,rfl⟩:=List.mem_map.mp hx
  have:=fig_ok hs cell k
  omega
noncomputable def brs (way:Nat) (letters marks:List Nat) (cells:List Int):List Br:=cells.map fun cell=>brOf way marks (figsN letters cell) cell
noncomputable def tkC (way:Nat) (letters marks:List Nat) (cell:Int):List Nat:=takesL letters (spelled way (figsN letters cell) marks) (cell.fmod 2)
noncomputable def patL (letters marks:List Nat) (cells:List Int):List Nat:=(cells.map fun cell=>bracketL (figsN letters cell) marks (cell.fmod 2)).flatten
noncomputable def pairsOf (letters:List Nat) (tk:Nat→List Nat):List (List Nat):=(List.range 4).flatMap fun k=>(tk k).map fun c=>[letters.getD k 0,c]
structure GL (W:Wo) (T:TC) (R:Addr):Prop extends GU W T R,G2 W,G9 W where
  drawn:Fn W pw 26 "_law_drawn" ["script"]
  figures:Fn W pw 27 "_law_figures" ["letters","cell"]
  bracket:Fn W pw 28 "_law_bracket" ["figures","marks","barred"]
  written:Fn W pw 29 "_law_written" ["way","text"]
  spelled:Fn W pw 30 "_law_spelled" ["way","figures","marks"]
  takes:Fn W pw 31 "_law_takes" ["spelled","barred","letters"]
  taken:Fn W pw 32 "_law_taken" ["inside","letters"]
  orders:Fn W pw 33 "_law_orders" ["taken","letters","bag"]
  counted:Fn W pw 35 "_law_counted" ["letters","bag","pairs"]
  translate:FnT W T.away pw 4 "translate" ["pat"]
section
variable {way:Nat} {letters marks:List Nat} {cells:List Int}
theorem esc_pat (hw:way < 5) (hs:∀ c∈letters,c∈aBQ) (h2:marks.length = 2) (hm:∀ m∈marks,m∈markT):escaped way (patL letters marks cells) = patOf (brs way letters marks cells):=by
  unfold patL patOf brs
  rw [escaped_flatten,List.map_map,List.flatMap_def,List.map_map]
  congr 1
  exact List.map_congr_left fun c ψ=>esc_bracket hw (figs_ok hs c h2 hm) c
theorem brs_ok (hw:way < 5) (hs:∀ c∈letters,c∈aBQ) (h2:marks.length = 2) (hm:∀ m∈marks,m∈markT):∀ x∈brs way letters marks cells,BrOk x∧x.w.length≤24:=fun x hx=>by
  obtain ⟨c,_,rfl⟩:=List.mem_map.mp hx
  exact ⟨brOf_ok hw (figs_ok hs c h2 hm) c,brOf_w hw (figs_ok hs c h2 hm) c⟩
theorem pat_len (hs:∀ c∈letters,c∈aBQ) (h2:marks.length = 2) (hm:∀ m∈marks,m∈markT) (hc:cells.length = 5):(patL letters marks cells).length≤60:=by
  unfold patL
  have:=flatten_le (m:=7) (ls:=cells.map fun cell=>bracketL (figsN letters cell) marks (cell.fmod 2)) fun y hy=>by
    obtain ⟨x,_,rfl⟩:=List.mem_map.mp hy
    exact bracket_len (figs_ok hs x h2 hm) x
  rw [List.length_map,hc] at this
  omega
theorem taken_takes (hw:way < 5) (hs:∀ c∈letters,c∈aBQ) (h2:marks.length = 2) (hm:∀ m∈marks,m∈markT):((brs way letters marks cells).map ins).map (takenI letters) = cells.map (tkC way letters marks):=by
  unfold brs
  rw [List.map_map,List.map_map]
  refine List.map_congr_left fun c ψ=>?_
  show takenI letters (ins (brOf way marks (figsN letters c) c)) = takesL letters (spelled way (figsN letters c) marks) (c.fmod 2)
  unfold takenI takesL
  refine List.filter_congr fun k hk=>?_
  exact taken_ins (brOf_ok hw (figs_ok hs c h2 hm) c) hk
end
section
variable {W:Wo} {n:Nat} {T:TC}
noncomputable def Plain2:Prop:=∀ (letters:List Nat) (pk:List Nat) (p:Nat→Nat→Bool),letters.length = 4→letters.Nodup→pk.length = 5→(∀ i∈pk,i < 4)→pk.Pairwise (·≤·) →
  let bag:=pk.map fun i=>letters.getD i 0
  let tk:=fun k=>letters.filter (p k)
  let pairs:=pairsOf letters tk
  (((ordersOf letters bag (pk.map tk)).length:Nat):Int) = counted letters bag pairs∧bag∈[] :: (bagsOf letters bag).drop 1 ∧
  ∀ i b,((bagsOf letters bag).drop 1)[i]? = some b→∀ t∈termsOf pairs ((setsOf letters bag).drop 1),(erases b t.1).length + t.1.length = b.length→erases b t.1∈[] :: ((bagsOf letters bag).drop 1).take i
theorem idx_getD {letters:List Nat} (hn:letters.Nodup) {i:Nat} (hi:i < letters.length):letters.idxOf (letters.getD i 0) = i:=by
  rw [List.getD_eq_getElem?_getD,List.getElem?_eq_getElem hi]
  exact hn.idxOf_getElem i hi
theorem law_main {R:Addr} (G:GL W T R) {ns:List Int} (hn:ns.length≤1000) {sd:V} (hsd:SQ W sd none (some 60) none (.list ((sl ns none (some 60) none).map V.int)))
    (hF:Plain2) :
    TQ T.away W (n + 8) (fQ (nth pw 36)) (fbody (nth pw 36)) (aQ ["script"] [sd] ["way","letters","marks","bag","cells","figures","brackets","expression","taken","takes","pairs"]) (.ret (.bool true)):=by
  show TQ T.away W (n + 8) _ _ [("script",.val sd),("way",.unset),("letters",.unset),("marks",.unset),("bag",.unset),("cells",.unset),("figures",.unset),("brackets",.unset),("expression",.unset),("taken",.unset),("takes",.unset),("pairs",.unset)] _
  have hl:=drawn_len ns
  have hs:=drawn_pool ns
  have hnd:=drawn_nodup ns
  have hw:=wayN_lt ns
  have hc:=cellsN_len ns
  obtain ⟨h2,hm⟩:=marks_ok ((dcQ ns).getD 1 0)
  obtain ⟨hp1,hp2,hp3⟩:=picksN_ok ns
  have hdv:drawnV ns = .tup [.int (wayN ns:Nat),.str (drawn ns).letters,.str (marksOf ((dcQ ns).getD 1 0)),.str ((picksN ns).map fun i=>(drawn ns).letters.getD i 0),.list ((cellsN ns).map V.int)]:=by unfold drawnV cellsN; rw [wayN_eq,bag_eq]
  refine TQ.con (Runs.unpack (d:=.tup [.int (wayN ns:Nat),.str (drawn ns).letters,.str (marksOf ((dcQ ns).getD 1 0)),.str ((picksN ns).map fun i=>(drawn ns).letters.getD i 0),.list ((cellsN ns).map V.int)]) ?_ (Binds.tuple (BindsL.cons (by repeat constructor) (by exact noApp.of rfl) (BindsL.cons (by repeat constructor) (by exact noApp.of rfl) (BindsL.cons (by repeat constructor) (by exact noApp.of rfl) (BindsL.cons (by repeat constructor) (by exact noApp.of rfl) (BindsL.cons (by repeat constructor) (by exact noApp.of rfl) BindsL.nil)))))) (fun ψ=>by rfl) (fun env he=>by cases env; cases he; kernel_rfl)) ?_
  · have:=law_drawn (W:=W) (n:=n + 7) G.toG8 hn hsd
    rw [hdv] at this
    exact Ev.fn ["cells","k","x","letters","left","rest","size","letter","marks","picks"] G.drawn (by kernel_rfl) (Evs.one Ev.nm (fun ψ=>by rfl)) (by kernel_rfl) rfl this
  generalize (drawn ns).letters = letters at *
  generalize cellsN ns = cells at *
  generalize wayN ns = way at *
  generalize picksN ns = pk at *
  generalize marksOf ((dcQ ns).getD 1 0) = marks at *
  obtain ⟨m0,m1,rfl⟩:∃ m0 m1,marks = [m0,m1]:=by
    cases marks with | nil=>cases h2 | cons a l=>cases l with | nil=>cases h2 | cons b l=>cases l with | nil=>exact ⟨a,b,rfl⟩ | cons c l=>cases h2
  have hmb:∀ m∈[m0,m1],m < 128:=fun m hm'=>(by decide +kernel:∀ m∈markT,m < 128) m (hm m hm')
  have fok:∀ c,FigOk (figsN letters c) [m0,m1]:=fun c=>figs_ok hs c h2 hm
  have hfig (c:Int):(figures letters c).map V.int = (figsN letters c).map fun (k:Nat)=>V.int (k:Nat):=figs_eq hs c
  obtain ⟨bag,hbag⟩:∃ bag,bag = pk.map fun i=>letters.getD i 0:=⟨_,rfl⟩
  rw [← hbag]
  have hbl:bag.length = 5:=by rw [hbag,List.length_map,hp1]
  -- figures
  refine TQ.con (Runs.assignComp ["cell"] (by kernel_rfl) Ev.nm JQ.list (o:=cells.map fun c=>V.list ((figsN letters c).map fun (k:Nat)=>V.int (k:Nat)))
    (EmitL.map V.int (fun c=>V.list ((figsN letters c).map fun (k:Nat)=>V.int (k:Nat))) cells (fun c hcm=>?_)) (by rw [List.length_map,hc]; decide) (plain1 fun e=>⟨rfl,fun x=>by rfl⟩) (by repeat constructor) (by exact noApp.of rfl)) ?_
  · have:=law_figures (W:=W) (n:=n + 7) G.toG1 (letters:=letters) (cell:=c) (by rw [hl]; rfl) hs
    rw [hfig] at this
    exact Ev.fn ["alphabet","palette"] G.figures (by kernel_rfl) (.cons Ev.nm (Evs.one Ev.nm (fun ψ=>by rfl)) (fun ψ=>by rfl)) (by kernel_rfl) rfl this
  have cAt (k:Nat) (hk:k < 4):IQ W (.list (cells.map V.int)) (.int (0 + (k:Int) * 1)) (.int (cells.getD k 0)):=by
    refine IQ.list (by exact o66) (by exact o315 hk) ?_
    rw [show (0 + (k:Int) * 1).toNat = k by exact o65 hk,List.getElem?_map,List.getD_eq_getElem?_getD,List.getElem?_eq_getElem (by exact o316 hc hk)]; rfl
  have fAt (k:Nat) (hk:k < 4):IQ W (.list (cells.map fun c=>V.list ((figsN letters c).map fun (k:Nat)=>V.int (k:Nat)))) (.int (0 + (k:Int) * 1)) (.list ((figsN letters (cells.getD k 0)).map fun (k:Nat)=>V.int (k:Nat))):=by
    refine IQ.list (by exact o66) (by exact o315 hk) ?_
    rw [show (0 + (k:Int) * 1).toNat = k by exact o65 hk,List.getElem?_map,List.getD_eq_getElem?_getD,List.getElem?_eq_getElem (by exact o316 hc hk)]; rfl
  have f2 (c:Int):=fmod2 c
  -- brackets
  refine TQ.con (Runs.assignComp ["k"] (by kernel_rfl) (Ev.range1 G.toG1 (by kernel_rfl) Ev.int (fun ψ=>by rfl)) (JQ.rng (by decide) (by kernel_rfl)) (o:=(List.range 4).map fun k=>V.str (bracketL (figsN letters (cells.getD k 0)) [m0,m1] ((cells.getD k 0).fmod 2)))
    (EmitL.map (fun (k:Nat)=>V.int (0 + (k:Int) * 1)) (fun k=>V.str (bracketL (figsN letters (cells.getD k 0)) [m0,m1] ((cells.getD k 0).fmod 2))) (List.range 4) (fun k hk=>?_)) (by rw [List.length_map]; decide) (plain1 fun e=>⟨rfl,fun x=>by rfl⟩) (by repeat constructor) (by exact noApp.of rfl)) ?_
  · have hk4:k < 4:=List.mem_range.mp hk
    have fk:=fok (cells.getD k 0)
    obtain ⟨f0,f1,f2',f3,hf⟩:∃ f0 f1 f2' f3,figsN letters (cells.getD k 0) = [f0,f1,f2',f3]:=by
      have:=fk.four
      generalize figsN letters (cells.getD k 0) = l at this
      cases l with | nil=>cases this | cons a l=>cases l with | nil=>cases this | cons b l=>cases l with | nil=>cases this | cons c l=>cases l with | nil=>cases this | cons d l=>cases l with | nil=>exact ⟨a,b,c,d,rfl⟩ | cons e l=>cases this
    have hlt:=fk.lt
    have fA:=fAt k hk4
    rw [hf] at hlt fA ⊢
    have:=f2 (cells.getD k 0)
    exact Ev.fn ["number","figure","written"] G.bracket (by kernel_rfl) (.cons (Ev.item Ev.nm Ev.nm fA (fun ψ ψ=>by rfl)) (.cons Ev.nm (Evs.one (Ev.bin (Ev.item Ev.nm Ev.nm (cAt k hk4) (fun ψ ψ=>by rfl)) Ev.int (BQ.fmod (by decide))) (fun ψ=>by rfl)) (fun ψ=>by rfl)) (fun ψ=>by rfl)) (by kernel_rfl) rfl
      (law_bracket (n:=n + 4) G.toG7 (hlt f0 (by simp)) (hlt f1 (by simp)) (hlt f2' (by simp)) (hlt f3 (by simp)) (hmb m0 (by simp)) (hmb m1 (by simp)) (by exact o319 this) (by omega))
  -- the cells of the bag's letters
  obtain ⟨cb,hcb⟩:∃ cb,cb = pk.map fun i=>cells.getD i 0:=⟨_,rfl⟩
  have hcb5:cb.length = 5:=by rw [hcb,List.length_map,hp1]
  have hlen:=pat_len (letters:=letters) (marks:=[m0,m1]) (cells:=cb) hs h2 hm hcb5
  have hbr:=brs_ok (way:=way) (letters:=letters) (marks:=[m0,m1]) (cells:=cb) hw hs h2 hm
  have hb5:(brs way letters [m0,m1] cb).length = 5:=by unfold brs; rw [List.length_map,hcb5]
  have hbne:brs way letters [m0,m1] cb≠[]:=fun q=>by rw [q] at hb5; cases hb5
  have ej:joinL (L "") (bag.map fun c=>bracketL (figsN letters (cells.getD (letters.idxOf c) 0)) [m0,m1] ((cells.getD (letters.idxOf c) 0).fmod 2)) = patL letters [m0,m1] cb:=by
    rw [show L "" = [] by kernel_rfl,jNQ]
    unfold patL
    congr 1
    rw [hbag,hcb,List.map_map,List.map_map]
    refine List.map_congr_left fun i hi=>?_
    show bracketL (figsN letters (cells.getD (letters.idxOf (letters.getD i 0)) 0)) [m0,m1] ((cells.getD (letters.idxOf (letters.getD i 0)) 0).fmod 2) = _
    rw [idx_getD hnd (by rw [hl]; exact hp2 i hi)]; rfl
  refine TQ.cons (RunsT.callFn (T:=T.away) (T':=T.away) (ds:=[.str (patOf (brs way letters [m0,m1] cb))]) ["STAR","parts"] rfl rfl rfl G.translate (by kernel_rfl) (Evs.one ?_ (fun ψ=>by rfl)) (by kernel_rfl) rfl (fn_translate G.toGU (fun x hx=>(hbr x hx).1) (fun x hx=>out_len (hbr x hx).2) (by exact o320 hb5)) (by repeat constructor) (by exact noApp.of rfl) (fun ψ=>by rfl)) ?_
  · have:=law_written (W:=W) (n:=n + 6) G.toG2 hw hlen
    rw [esc_pat hw hs h2 hm] at this
    refine Ev.fn [] G.written (by kernel_rfl) (.cons Ev.nm (Evs.one (d:=.str (patL letters [m0,m1] cb)) ?_ (fun ψ=>by rfl)) (fun ψ=>by rfl)) (by kernel_rfl) rfl this
    refine Ev.meth Ev.str (Evs.one (Ev.comp ["letter"] (by kernel_rfl) (a:=.str bag) Ev.nm JQ.str (EmitL.map (fun (c:Nat)=>V.str [c]) (fun c=>V.str (bracketL (figsN letters (cells.getD (letters.idxOf c) 0)) [m0,m1] ((cells.getD (letters.idxOf c) 0).fmod 2))) bag (fun c hcm=>?_)) (by rw [List.length_map,hbl]; decide) (plain1 fun e=>⟨rfl,fun x=>by rfl⟩)) (fun ψ=>by rfl)) HQ.str meth_join (by rw [← ej]; exact join_strs _ 7 (fun k ψ=>bracket_len (fok _) _) (by rw [hbl]; decide +kernel)) (fun ψ=>by rfl) (by rfl) (by decide)
    have hcl:c∈letters:=by
      rw [hbag] at hcm
      obtain ⟨i,hi,rfl⟩:=List.mem_map.mp hcm
      rw [List.getD_eq_getElem?_getD,List.getElem?_eq_getElem (by rw [hl]; exact hp2 i hi)]
      exact List.getElem_mem _
    have hix:letters.idxOf c < 4:=by rw [← hl]; exact List.idxOf_lt_length_iff.mpr hcl
    refine Ev.item Ev.nm (Ev.meth Ev.nm (Evs.one Ev.nm (fun ψ=>by rfl)) HQ.str meth_index (KQ.index hcl) (fun ψ=>by rfl) (by rfl) (by decide)) (IQ.list (by exact o28) (by omega) ?_) (fun ψ ψ=>by rfl)
    rw [Int.toNat_natCast,List.getElem?_map,List.getElem?_range hix]; rfl
  have hel:=trOut_len (brs:=brs way letters [m0,m1] cb) (fun x hx=>(hbr x hx).2) (by exact o320 hb5)
  refine TQ.of ?_
  have e5:=trOut_first hbne
  have e4:=trOut_last hbne
  refine RQ.cons (Runs.ifF (EvT.cmp (c:=false) (Ev.bin (c:=.str (L "(?s:[])\\Z")) (Ev.slice Ev.nm .none (.some Ev.int) .none (SQ.str (by decide) (by exact o322 hel)) (fun ψ ψ=>⟨_,by rfl⟩)) (Ev.slice Ev.nm (.some (Ev.un Ev.int UnOk.neg)) .none .none (SQ.str (by decide) (by exact o322 hel)) (fun ψ ψ=>⟨_,by rfl⟩)) ?_) Ev.str (CQ.nes ?_) (by rfl)) .nil) ?_
  · have:=BQ.cat (W:=W) (a:=sl (trOut (brs way letters [m0,m1] cb)) none (some 5) none) (b:=sl (trOut (brs way letters [m0,m1] cb)) (some (-4)) none none) (by rw [e5,e4]; decide)
    rw [e5,e4] at this
    rw [e5,e4,show L "(?s:[])\\Z" = [40,63,115,58,91] ++ [93,41,92,90] by kernel_rfl]
    exact this
  · rw [bne,beq_self_eq_true]; rfl
  have hsp:=split_eq hbne fun x hx=>(hbr x hx).1
  have htt:=taken_takes (way:=way) (letters:=letters) (marks:=[m0,m1]) (cells:=cb) hw hs h2 hm
  obtain ⟨tk,htk⟩:∃ tk:Nat→List Nat,tk = fun k=>tkC way letters [m0,m1] (cells.getD k 0):=⟨_,rfl⟩
  have hcbt:cb.map (tkC way letters [m0,m1]) = pk.map tk:=by rw [hcb,List.map_map,htk]; rfl
  have htkl:∀ k,(tk k).length≤4:=fun k=>by rw [htk,← hl]; exact List.length_filter_le _ _
  have hplain:=hF letters pk (fun k c=>decide (c∈takesOf letters (parse (spelled way (figsN letters (cells.getD k 0)) [m0,m1]))) != ((cells.getD k 0).fmod 2 == 1)) hl hnd hp1 hp2 hp3
  simp only [] at hplain
  rw [show (fun k=>letters.filter fun c=>decide (c∈takesOf letters (parse (spelled way (figsN letters (cells.getD k 0)) [m0,m1]))) != ((cells.getD k 0).fmod 2 == 1)) = tk from htk.symm,← hbag] at hplain
  obtain ⟨q1,q2,q3⟩:=hplain
  -- taken
  have hmm:(((brs way letters [m0,m1] cb).map ins).map fun i=>V.str (takenI letters i)) = (pk.map tk).map V.str:=by
    rw [← hcbt,← htt,List.map_map (f:=takenI letters)]; rfl
  refine RQ.cons (Runs.assignComp ["inside"] (by kernel_rfl) (a:=.list (((brs way letters [m0,m1] cb).map ins).map V.str)) ?_ JQ.list (o:=(pk.map tk).map V.str) (by rw [← hmm]; exact EmitL.map V.str (fun i=>V.str (takenI letters i)) ((brs way letters [m0,m1] cb).map ins) (fun i hi=>by
      obtain ⟨x,hx,rfl⟩:=List.mem_map.mp hi
      have hil:=ins_len (hbr x hx).2
      exact Ev.fn ["signs","k","taken","letter","spans"] G.taken (by kernel_rfl) (.cons Ev.nm (Evs.one Ev.nm (fun ψ=>by rfl)) (fun ψ=>by rfl)) (by kernel_rfl) rfl (law_taken (n:=n + 7) G.toG7 (by exact o324 hl) (by exact o325 hil) (ins_ne (hbr x hx).1) (ins_body (hbr x hx).1)))) (by rw [List.length_map,List.length_map,hp1]; decide) (plain1 fun e=>⟨rfl,fun x=>by rfl⟩) (by repeat constructor) (by exact noApp.of rfl)) ?_
  · refine Ev.meth (Ev.slice Ev.nm (.some Ev.int) (.some (Ev.un Ev.int UnOk.neg)) .none (SQ.str (by decide) (by exact o322 hel)) (fun ψ ψ=>⟨_,by rfl⟩)) (Evs.one Ev.str (fun ψ=>by rfl)) HQ.str meth_split ?_ (fun ψ=>by rfl) (by rfl) (by decide)
    have:=KQ.split (W:=W) (n:=n + 8) (l:=sl (trOut (brs way letters [m0,m1] cb)) (some 5) (some (-4)) none) (y:=L "][") (by decide +kernel) (by have:=sl_len (trOut (brs way letters [m0,m1] cb)) (some 5) (some (-4)); exact o326 hel this)
    rwa [hsp] at this
  -- takes
  have hT:(List.range 4).map (fun k=>V.str (takesL letters (spelled way (figsN letters (cells.getD k 0)) [m0,m1]) ((cells.getD k 0).fmod 2))) = ((List.range 4).map tk).map V.str:=by rw [List.map_map,htk]; rfl
  refine RQ.cons (Runs.assignComp ["k"] (by kernel_rfl) (Ev.range1 G.toG1 (by kernel_rfl) Ev.int (fun ψ=>by rfl)) (JQ.rng (by decide) (by kernel_rfl)) (o:=((List.range 4).map tk).map V.str) (by rw [← hT]; exact EmitL.map (fun (k:Nat)=>V.int (0 + (k:Int) * 1)) (fun k=>V.str (takesL letters (spelled way (figsN letters (cells.getD k 0)) [m0,m1]) ((cells.getD k 0).fmod 2))) (List.range 4) (fun k hk=>by
      have hk4:k < 4:=List.mem_range.mp hk
      have fk:=fok (cells.getD k 0)
      have hwl:(spelled way (figsN letters (cells.getD k 0)) [m0,m1]).length≤100:=Nat.le_trans (brOf_w hw fk 0) (by decide)
      exact Ev.fn ["takes","k"] G.takes (by kernel_rfl) (.cons (Ev.fn ["told","signs"] G.spelled (by kernel_rfl) (.cons Ev.nm (.cons (Ev.item Ev.nm Ev.nm (fAt k hk4) (fun ψ ψ=>by rfl)) (Evs.one Ev.nm (fun ψ=>by rfl)) (fun ψ=>by rfl)) (fun ψ=>by rfl)) (by kernel_rfl) rfl (law_spelled (n:=n + 7) hw fk.lt (by rw [fk.four]; decide) h2))
        (.cons (Ev.bin (Ev.item Ev.nm Ev.nm (cAt k hk4) (fun ψ ψ=>by rfl)) Ev.int (BQ.fmod (by decide))) (Evs.one Ev.nm (fun ψ=>by rfl)) (fun ψ=>by rfl)) (fun ψ=>by rfl)) (by kernel_rfl) rfl (law_takes (n:=n + 7) G.toG7 (by omega) (by exact o324 hl) hwl))) (by rw [List.length_map,List.length_map]; decide) (plain1 fun e=>⟨rfl,fun x=>by rfl⟩) (by repeat constructor) (by exact noApp.of rfl)) ?_
  -- pairs
  have hPf:(pairsOf letters tk).map V.str = ((List.range 4).filter fun ψ=>true).flatMap fun k=>(tk k).map fun c=>V.str [letters.getD k 0,c]:=by
    unfold pairsOf
    rw [List.map_flatMap,List.filter_eq_self.mpr fun ψ ψ=>rfl]
    congr 1
    funext k
    rw [List.map_map]; rfl
  refine RQ.cons (Runs.assignComp ["k","letter"] (by kernel_rfl) (Ev.range1 G.toG1 (by kernel_rfl) Ev.int (fun ψ=>by rfl)) (JQ.rng (by decide) (by kernel_rfl)) (o:=(pairsOf letters tk).map V.str) (by
      rw [hPf]
      refine EmitL.gen (fun (k:Nat)=>V.int (0 + (k:Int) * 1)) (fun ψ=>true) (fun k=>(tk k).map fun c=>V.str [letters.getD k 0,c]) (List.range 4) fun k hk=>⟨[("k",.val (.int (0 + (k:Int) * 1))),("letter",.unset)],Binds.name .here (noApp.unset (noApp.unset .nil)),.drop (.same .nil),Tests.nil,fun ψ=>⟨.str (tk k),_,?_,JQ.str,?_⟩⟩
      · have hk4:k < 4:=List.mem_range.mp hk
        refine Ev.item Ev.nm Ev.nm (IQ.list (by exact o66) (by exact o315 hk4) ?_) (fun ψ ψ=>by rfl)
        rw [show (0 + (k:Int) * 1).toNat = k by exact o65 hk4,List.getElem?_map,List.getElem?_map,List.getElem?_range hk4]; rfl
      · have hk4:k < 4:=List.mem_range.mp hk
        have e1:((tk k).map fun c=>V.str [letters.getD k 0,c]) = ((tk k).filter fun ψ=>true).flatMap fun c=>[V.str [letters.getD k 0,c]]:=(flat_single _ _).symm
        rw [e1]
        refine EmitL.gen (fun (c:Nat)=>V.str [c]) (fun ψ=>true) (fun c=>[V.str [letters.getD k 0,c]]) (tk k) fun c hcm=>⟨[("k",.val (.int (0 + (k:Int) * 1))),("letter",.val (.str [c]))],Binds.name (.there .here) (noApp.val (noApp.unset .nil)),.same (.drop .nil),Tests.nil,fun ψ=>⟨_,rfl,?_⟩⟩
        refine Ev.bin (a:=.str [letters.getD k 0]) (b:=.str [c]) (c:=.str [letters.getD k 0,c]) (Ev.item Ev.nm Ev.nm (IQ.str (by exact o327) (by exact o315 hk4) ?_) (fun ψ ψ=>by rfl)) Ev.nm (BQ.cat (by simp))
        rw [List.getD_eq_getElem?_getD]
        exact chAt_nat (k:=k) 0 (by exact o316 hl hk4) (by exact o175)) (by
      unfold pairsOf
      rw [List.length_map,List.length_flatMap]
      have:=htkl 0; have:=htkl 1; have:=htkl 2; have:=htkl 3
      simp only [show List.range 4 = [0,1,2,3] from rfl,List.map_cons,List.map_nil,List.length_map,List.sum_cons,List.sum_nil]
      exact o328 (by assumption) (by assumption) (by assumption) this) (fun e c hc=>by
      simp only [List.mem_cons,List.not_mem_nil,or_false] at hc
      rcases hc with rfl | rfl <;> exact ⟨rfl,fun x=>by rfl⟩) (by repeat constructor) (by exact noApp.of rfl)) ?_
  refine RQ.ret (Runs.ret (Ev.cmp (Ev.fn ["orders","place"] G.orders (by kernel_rfl) (.cons Ev.nm (.cons Ev.nm (Evs.one Ev.nm (fun ψ=>by rfl)) (fun ψ=>by rfl)) (fun ψ=>by rfl)) (by kernel_rfl) rfl (law_orders (n:=n + 7) G.toG1 (by rw [List.length_map,hp1]) (by exact o329 hl) (by exact o330 hbl)))
    (Ev.fn ["sets","bags","letter","terms","some","worth","counts","chosen","rest"] G.counted (by kernel_rfl) (.cons Ev.nm (.cons Ev.nm (Evs.one Ev.nm (fun ψ=>by rfl)) (fun ψ=>by rfl)) (fun ψ=>by rfl)) (by kernel_rfl) rfl (law_counted (n:=n + 2) G.toG9 (by exact o329 hl) (by exact o330 hbl) q3 q2)) ?_ (by rfl)))
  have:=CQ.eq_int (W:=W) (a:=(((ordersOf letters bag (pk.map tk)).length:Nat):Int)) (b:=counted letters bag (pairsOf letters tk))
  rwa [show ((((ordersOf letters bag (pk.map tk)).length:Nat):Int) == counted letters bag (pairsOf letters tk)) = true by rw [q1,beq_self_eq_true]] at this
end
section
open Lean.Grind.CommRing
structure Ops (R:Type) where
  zero:R
  one:R
  add:R→R→R
  mul:R→R→R
  sgn:Nat→R→R
noncomputable def intOps:Ops Int:=⟨0,1,(· + ·),(· * ·),fun k x=>(-1) ^ k * x⟩
noncomputable def polyOps:Ops Poly:=⟨.num 0,.num 1,Poly.combine,Poly.mul,fun k p=>Poly.mulConst (if k % 2 = 0 then 1 else -1) p⟩
section
variable {R:Type} (o:Ops R)
noncomputable def entryG (t:List (List R)) (k:Nat):R:=((t.headD [])[k]?).getD o.zero
noncomputable def dropG (k:Nat) (row:List R):List R:=row.take k ++ row.drop (k + 1)
noncomputable def worthFromG (f:List (List R)→R) (t:List (List R)):List Nat→R
  | []=>o.zero
  | k :: ks=>o.add (o.mul (o.sgn k (entryG o t k)) (f ((t.drop 1).map (dropG k)))) (worthFromG f t ks)
noncomputable def worthG:Nat→List (List R)→R
  | 0,_=>o.one
  | m + 1,t=>worthFromG o (worthG m) t (List.range (m + 1))
noncomputable def termG (A:Nat→Nat→R) (s:List Nat):List Nat × R:=(s,o.sgn (s.length + 1) (worthG o s.length (s.map fun a=>s.map (A a))))
noncomputable def getG (m:List (List Nat × R)) (l:List Nat):Option R:=(m.find? fun e=>decide (e.1 = l)).map (·.2)
noncomputable def setG (m:List (List Nat × R)) (l:List Nat) (i:R):List (List Nat × R):=
  if m.any (fun e=>decide (e.1 = l)) then m.map (fun e=>if e.1 = l then (e.1,i) else e) else m ++ [(l,i)]
noncomputable def stepG (b:List Nat) (m:List (List Nat × R)) (t:List Nat × R):List (List Nat × R):=
  if (erases b t.1).length + t.1.length = b.length then setG m b (o.add ((getG m b).getD o.zero) (o.mul t.2 ((getG m (erases b t.1)).getD o.zero))) else m
noncomputable def bagG (terms m:List (List Nat × R)) (b:List Nat):List (List Nat × R):=terms.foldl (stepG o b) (setG m b o.zero)
noncomputable def allG (terms:List (List Nat × R)) (bags:List (List Nat)):List (List Nat × R):=bags.foldl (bagG o terms) [([],o.one)]
noncomputable def I4:List Nat:=[0,1,2,3]
noncomputable def countG (A:Nat→Nat→R) (pk:List Nat):R:=(getG (allG o (((setsOf I4 pk).drop 1).map (termG o A)) ((bagsOf I4 pk).drop 1)) pk).getD o.zero
noncomputable def sumG:List R→R
  | []=>o.zero
  | x :: l=>o.add x (sumG l)
noncomputable def ordG (A:Nat→Nat→R):List Nat→List Nat→R
  | [],_=>o.one
  | i :: pl,r=>sumG o ((I4.filter fun c=>decide (c∈r)).map fun c=>o.mul (A i c) (ordG A pl (r.erase c)))
end
noncomputable def varP (a b:Nat):Poly:=Poly.ofVar (4 * a + b)
noncomputable def polyOk (pk:List Nat):Bool:=ordG polyOps varP pk pk == countG polyOps varP pk
noncomputable def keysOk (pk:List Nat):Bool:=
  let bs:=(bagsOf I4 pk).drop 1
  ([] :: bs).any (fun x=>decide (x = pk)) && ((List.range bs.length).all fun i=>((setsOf I4 pk).drop 1).all fun t=>
    decide ((erases (bs.getD i []) t).length + t.length = (bs.getD i []).length→erases (bs.getD i []) t∈[] :: bs.take i))
noncomputable def sortedB:List Nat→Bool
  | a :: b :: l=>decide (a≤b) && sortedB (b :: l)
  | _=>true
noncomputable def okB (pk:List Nat):Bool:=!sortedB pk || (polyOk pk && keysOk pk)
noncomputable def firsts (a:Nat):Bool:=I4.all fun b=>I4.all fun c=>I4.all fun d=>I4.all fun e=>okB [a,b,c,d,e]
theorem firsts0:firsts 0 = true:=by kernel_rfl
theorem firsts1:firsts 1 = true:=by kernel_rfl
theorem firsts2:firsts 2 = true:=by kernel_rfl
theorem firsts3:firsts 3 = true:=by kernel_rfl
end
section
open Lean.Grind.CommRing
structure HomO {R S:Type} (o:Ops R) (o':Ops S) (f:R→S):Prop where
  zero:f o.zero = o'.zero
  one:f o.one = o'.one
  add:∀ a b,f (o.add a b) = o'.add (f a) (f b)
  mul:∀ a b,f (o.mul a b) = o'.mul (f a) (f b)
  sgn:∀ k a,f (o.sgn k a) = o'.sgn k (f a)
section
variable {R S:Type} {o:Ops R} {o':Ops S} {f:R→S}
theorem hom_entry (h:HomO o o' f) (t:List (List R)) (k:Nat):f (entryG o t k) = entryG o' (t.map (List.map f)) k:=by
  unfold entryG
  cases t with
  | nil=>exact h.zero
  | cons row t=>
    show f ((row[k]?).getD o.zero) = ((row.map f)[k]?).getD o'.zero
    rw [List.getElem?_map]
    cases row[k]? with
    | none=>exact h.zero
    | some x=>rfl
theorem drop_map (k:Nat) (row:List R):(dropG k row).map f = dropG k (row.map f):=by
  unfold dropG
  rw [List.map_append,List.map_take,List.map_drop]
theorem hom_from (h:HomO o o' f) {g:List (List R)→R} {g':List (List S)→S} (hg:∀ t,f (g t) = g' (t.map (List.map f))) (t:List (List R)):∀ ks,f (worthFromG o g t ks) = worthFromG o' g' (t.map (List.map f)) ks
  | []=>h.zero
  | k :: ks=>by
    rw [worthFromG,worthFromG,h.add,h.mul,h.sgn,hom_entry h,hg,hom_from h hg t ks]
    congr 3
    rw [List.map_map,← List.map_drop,List.map_map]
    refine List.map_congr_left fun row ψ=>drop_map k row
theorem hom_worth (h:HomO o o' f):∀ (m:Nat) (t:List (List R)),f (worthG o m t) = worthG o' m (t.map (List.map f))
  | 0,_=>h.one
  | m + 1,t=>hom_from h (hom_worth h m) t _
noncomputable def mapD (f:R→S) (m:List (List Nat × R)):List (List Nat × S):=m.map fun e=>(e.1,f e.2)
theorem get_mapD (l:List Nat):∀ m:List (List Nat × R),getG (mapD f m) l = (getG m l).map f
  | []=>rfl
  | e :: m=>by
    have ih:=get_mapD l m
    unfold getG mapD at ih ⊢
    rw [List.map_cons,List.find?_cons,List.find?_cons]
    by_cases h:e.1 = l
    · simp [h]
    · simp only [decide_eq_false h]
      exact ih
theorem any_mapD (l:List Nat) (m:List (List Nat × R)):(mapD f m).any (fun e=>decide (e.1 = l)) = m.any (fun e=>decide (e.1 = l)):=by
  unfold mapD; rw [List.any_map]; rfl
theorem set_mapD (m:List (List Nat × R)) (l:List Nat) (i:R):setG (mapD f m) l (f i) = mapD f (setG m l i):=by
  unfold setG
  rw [any_mapD]
  split
  · unfold mapD
    rw [List.map_map,List.map_map]
    refine List.map_congr_left fun e ψ=>?_
    show (if e.1 = l then (e.1,f i) else (e.1,f e.2)) = _
    show _ = ((if e.1 = l then (e.1,i) else e).1,f (if e.1 = l then (e.1,i) else e).2)
    split <;> rfl
  · unfold mapD; rw [List.map_append]; rfl
theorem hom_getD (h:HomO o o' f) (m:List (List Nat × R)) (l:List Nat):f ((getG m l).getD o.zero) = (getG (mapD f m) l).getD o'.zero:=by
  rw [get_mapD]
  cases getG m l with
  | none=>exact h.zero
  | some x=>rfl
theorem hom_step (h:HomO o o' f) (b:List Nat) (m:List (List Nat × R)) (t:List Nat × R):mapD f (stepG o b m t) = stepG o' b (mapD f m) (t.1,f t.2):=by
  unfold stepG
  by_cases hc:(erases b t.1).length + t.1.length = b.length
  · rw [if_pos hc,if_pos hc,← set_mapD,h.add,h.mul,hom_getD h,hom_getD h]
  · rw [if_neg hc,if_neg hc]
theorem hom_fold (h:HomO o o' f) (b:List Nat):∀ (ts m:List (List Nat × R)),mapD f (ts.foldl (stepG o b) m) = (mapD f ts).foldl (stepG o' b) (mapD f m)
  | [],m=>rfl
  | t :: ts,m=>by
    rw [List.foldl_cons,hom_fold h b ts,hom_step h]; rfl
theorem hom_bag (h:HomO o o' f) (ts m:List (List Nat × R)) (b:List Nat):mapD f (bagG o ts m b) = bagG o' (mapD f ts) (mapD f m) b:=by
  unfold bagG
  rw [hom_fold h,← set_mapD,h.zero]
theorem hom_all (h:HomO o o' f) (ts:List (List Nat × R)) (bags:List (List Nat)):mapD f (allG o ts bags) = allG o' (mapD f ts) bags:=by
  have key:∀ (bags:List (List Nat)) (m:List (List Nat × R)),mapD f (bags.foldl (bagG o ts) m) = bags.foldl (bagG o' (mapD f ts)) (mapD f m):=by
    intro bags
    induction bags with
    | nil=>intro m; rfl
    | cons b bags ih=>intro m; rw [List.foldl_cons,List.foldl_cons,ih,hom_bag h]
  unfold allG
  rw [key]
  show _ = List.foldl _ [([],o'.one)] bags
  rw [← h.one]; rfl
theorem hom_term (h:HomO o o' f) (A:Nat→Nat→R) (s:List Nat):((termG o A s).1,f (termG o A s).2) = termG o' (fun a b=>f (A a b)) s:=by
  unfold termG
  show (s,f (o.sgn _ _)) = (s,o'.sgn _ _)
  rw [h.sgn,hom_worth h,List.map_map]
  congr 4
  funext a
  show (s.map (A a)).map f = _
  rw [List.map_map]; rfl
theorem hom_count (h:HomO o o' f) (A:Nat→Nat→R) (pk:List Nat):f (countG o A pk) = countG o' (fun a b=>f (A a b)) pk:=by
  unfold countG
  rw [hom_getD h,hom_all h]
  congr 4
  unfold mapD
  rw [List.map_map]
  exact List.map_congr_left fun s ψ=>hom_term h A s
theorem hom_sum (h:HomO o o' f):∀ l:List R,f (sumG o l) = sumG o' (l.map f)
  | []=>h.zero
  | x :: l=>by rw [sumG,h.add,hom_sum h l]; rfl
theorem hom_ord (h:HomO o o' f) (A:Nat→Nat→R):∀ (pl r:List Nat),f (ordG o A pl r) = ordG o' (fun a b=>f (A a b)) pl r
  | [],_=>h.one
  | i :: pl,r=>by
    rw [ordG,ordG,hom_sum h,List.map_map]
    congr 1
    refine List.map_congr_left fun c ψ=>?_
    show f (o.mul _ _) = _
    rw [h.mul,hom_ord h A pl]
end
theorem sign_pow (k:Nat):(if k % 2 = 0 then (1:Int) else -1) = (-1) ^ k:=by
  induction k with
  | zero=>rfl
  | succ k ih=>
    rw [Int.pow_succ,← ih]
    by_cases h:k % 2 = 0
    · rw [if_pos h,if_neg (by omega)]; rfl
    · rw [if_neg h,if_pos (by exact o317 h)]; rfl
theorem poly_hom (ctx:Context Int):HomO polyOps intOps (Poly.denote ctx) where
  zero:=by show Poly.denote ctx (.num 0) = (0:Int); simp [Poly.denote]
  one:=by show Poly.denote ctx (.num 1) = (1:Int); simp [Poly.denote]
  add:=fun a b=>Poly.denote_combine ctx a b
  mul:=fun a b=>Poly.denote_mul ctx a b
  sgn:=fun k a=>by
    show Poly.denote ctx (Poly.mulConst (if k % 2 = 0 then 1 else -1) a) = (-1) ^ k * Poly.denote ctx a
    rw [Poly.denote_mulConst,sign_pow]; rfl
noncomputable def ctx16 (A:Nat→Nat→Int):Context Int:=
  .branch 8 (.branch 4 (.branch 2 (.branch 1 (.leaf (A 0 0)) (.leaf (A 0 1))) (.branch 3 (.leaf (A 0 2)) (.leaf (A 0 3)))) (.branch 6 (.branch 5 (.leaf (A 1 0)) (.leaf (A 1 1))) (.branch 7 (.leaf (A 1 2)) (.leaf (A 1 3)))))
    (.branch 12 (.branch 10 (.branch 9 (.leaf (A 2 0)) (.leaf (A 2 1))) (.branch 11 (.leaf (A 2 2)) (.leaf (A 2 3)))) (.branch 14 (.branch 13 (.leaf (A 3 0)) (.leaf (A 3 1))) (.branch 15 (.leaf (A 3 2)) (.leaf (A 3 3)))))
theorem var_ctx (A:Nat→Nat→Int) {a b:Nat} (ha:a < 4) (hb:b < 4):Poly.denote (ctx16 A) (varP a b) = A a b:=by
  unfold varP
  rw [Poly.denote_ofVar]
  rcases a with _ | _ | _ | _ | a <;> rcases b with _ | _ | _ | _ | b <;> first | rfl | (first | exact o318 hb | exact o318 ha)
end
section
open Lean.Grind.CommRing
theorem worthFrom_G (g:List (List Int)→Int) (t:List (List Int)):∀ ks,worthFrom g t ks = worthFromG intOps g t ks
  | []=>rfl
  | k :: ks=>by rw [worthFrom,worthFrom_G g t ks]; rfl
theorem worth_G:∀ (m:Nat) (t:List (List Int)),worth m t = worthG intOps m t
  | 0,_=>rfl
  | m + 1,t=>by
    have e:worth m = worthG intOps m:=funext (worth_G m)
    show worthFrom (worth m) t (List.range (m + 1)) = worthFromG intOps (worthG intOps m) t (List.range (m + 1))
    rw [e,worthFrom_G]
section
variable {φ:Nat→Nat} (hφ:∀ a b,φ a = φ b→a = b)
include hφ
theorem map_inj:∀ {l l':List Nat},l.map φ = l'.map φ→l = l'
  | [],[],_=>rfl
  | [],_ :: _,h=>by cases h
  | _ :: _,[],h=>by cases h
  | a :: l,b :: l',h=>by
    rw [List.map_cons,List.map_cons] at h
    obtain ⟨h1,h2⟩:=List.cons.inj h
    rw [hφ a b h1,map_inj h2]
theorem mem_phi {c:Nat} {l:List Nat}:φ c∈l.map φ↔c∈l:=by
  constructor
  · intro h
    obtain ⟨x,hx,e⟩:=List.mem_map.mp h
    exact hφ x c e ▸ hx
  · exact List.mem_map_of_mem
theorem erase_phi (c:Nat):∀ l:List Nat,(l.map φ).erase (φ c) = (l.erase c).map φ
  | []=>rfl
  | x :: l=>by
    rw [List.map_cons,List.erase_cons,List.erase_cons]
    by_cases h:x = c
    · simp [h]
    · have h1:¬ φ x = φ c:=fun e=>h (hφ x c e)
      simp [h,h1,erase_phi c l]
theorem erases_phi:∀ (t b:List Nat),erases (b.map φ) (t.map φ) = (erases b t).map φ
  | [],b=>rfl
  | c :: t,b=>by
    show erases ((b.map φ).erase (φ c)) (t.map φ) = (erases (b.erase c) t).map φ
    rw [erase_phi hφ,erases_phi t]
theorem count_phi (c:Nat):∀ l:List Nat,(l.map φ).count (φ c) = l.count c
  | []=>rfl
  | x :: l=>by
    rw [List.map_cons,List.count_cons,List.count_cons,count_phi c l]
    by_cases h:x = c
    · simp [h]
    · have h1:¬ φ x = φ c:=fun e=>h (hφ x c e)
      simp [h,h1]
theorem rep_phi (c:Nat) (k:Nat):rep [φ c] (k:Nat) = (rep [c] (k:Nat)).map φ:=by
  unfold rep
  rw [List.map_flatten,List.map_replicate]; rfl
theorem sets_phi (B:List Nat):∀ (l:List Nat),setsOf (l.map φ) (B.map φ) = (setsOf l B).map (List.map φ):=by
  have key:∀ (l:List Nat) (s:List (List Nat)),(l.map φ).foldl (setStep (B.map φ)) (s.map (List.map φ)) = (l.foldl (setStep B) s).map (List.map φ):=by
    intro l
    induction l with
    | nil=>intro s; rfl
    | cons c l ih=>
      intro s
      rw [List.map_cons,List.foldl_cons,List.foldl_cons,← ih]
      congr 1
      unfold setStep
      by_cases h:c∈B
      · rw [if_pos h,if_pos ((mem_phi hφ).mpr h),List.map_append,List.map_map,List.map_map]
        congr 1
        refine List.map_congr_left fun w ψ=>?_
        show w.map φ ++ [φ c] = (w ++ [c]).map φ
        rw [List.map_append]; rfl
      · rw [if_neg h,if_neg fun q=>h ((mem_phi hφ).mp q)]
  exact fun l=>key l [[]]
theorem bags_phi (B:List Nat):∀ (l:List Nat),bagsOf (l.map φ) (B.map φ) = (bagsOf l B).map (List.map φ):=by
  have key:∀ (l:List Nat) (s:List (List Nat)),(l.map φ).foldl (bagStep (B.map φ)) (s.map (List.map φ)) = (l.foldl (bagStep B) s).map (List.map φ):=by
    intro l
    induction l with
    | nil=>intro s; rfl
    | cons c l ih=>
      intro s
      rw [List.map_cons,List.foldl_cons,List.foldl_cons,← ih]
      congr 1
      unfold bagStep
      by_cases h:c∈B
      · rw [if_pos h,if_pos ((mem_phi hφ).mpr h),List.map_flatMap,List.flatMap_map]
        congr 1
        funext w
        unfold bagRow
        rw [count_phi hφ,List.map_map]
        refine List.map_congr_left fun k ψ=>?_
        show w.map φ ++ rep [φ c] (k:Nat) = (w ++ rep [c] (k:Nat)).map φ
        rw [List.map_append,rep_phi hφ]
      · rw [if_neg h,if_neg fun q=>h ((mem_phi hφ).mp q)]
  exact fun l=>key l [[]]
noncomputable def Rel (φ:Nat→Nat) (m m':List (List Nat × Int)):Prop:=∀ r,getI m (r.map φ) = getI m' r
theorem rel_init:Rel φ [([],1)] [([],1)]:=fun r=>by
  cases r <;> rfl
theorem rel_set {m m':List (List Nat × Int)} (h:Rel φ m m') (b:List Nat) (i:Int):Rel φ (setI m (b.map φ) i) (setI m' b i):=fun r=>by
  rw [getI_setI,getI_setI]
  by_cases e:r = b
  · rw [if_pos e,if_pos (e ▸ rfl)]
  · rw [if_neg e,if_neg fun q=>e (map_inj hφ q),h r]
theorem rel_step {m m':List (List Nat × Int)} (h:Rel φ m m') (b t:List Nat) (x:Int):Rel φ (cStep (b.map φ) m (t.map φ,x)) (cStep b m' (t,x)):=by
  unfold cStep
  simp only [erases_phi hφ,List.length_map]
  by_cases hc:(erases b t).length + t.length = b.length
  · rw [if_pos hc,if_pos hc,h b,h (erases b t)]
    exact rel_set hφ h _ _
  · rw [if_neg hc,if_neg hc]; exact h
omit hφ in
theorem skip_step {m':List (List Nat × Int)} {b:List Nat} (hb:(getI m' b).isSome = true) (t r:List Nat):getI (cStep b m' (t,0)) r = getI m' r:=by
  unfold cStep
  dsimp only
  split
  · rw [getI_setI]
    split
    · rename_i e
      obtain ⟨v,hv⟩:=Option.isSome_iff_exists.mp hb
      rw [e,hv,Int.zero_mul,Int.add_zero]; rfl
    · rfl
  · rfl
variable {pairs:List (List Nat)} {A:Nat→Nat→Int} (hA:∀ a b,a < 4→b < 4→cellOf1 pairs (φ a) (φ b) = A a b)
include hA
omit hφ in
theorem worth_phi {s:List Nat} (hs:∀ x∈s,x < 4):worthOf pairs (s.map φ) = worthG intOps s.length (s.map fun a=>s.map (A a)):=by
  unfold worthOf tableOf
  rw [List.length_map,worth_G,List.map_map]
  congr 1
  refine List.map_congr_left fun a ha=>?_
  show (s.map φ).map (cellOf1 pairs (φ a)) = _
  rw [List.map_map]
  exact List.map_congr_left fun b hb=>hA a b (hs a ha) (hs b hb)
theorem fold_rel {b:List Nat}:∀ (ss:List (List Nat)) (m m':List (List Nat × Int)),(∀ s∈ss,∀ x∈s,x < 4)→Rel φ m m'→(getI m' b).isSome = true →
    Rel φ ((termsOf pairs (ss.map (List.map φ))).foldl (cStep (b.map φ)) m) ((ss.map (termG intOps A)).foldl (cStep b) m')
  | [],m,m',_,h,_=>h
  | s :: ss,m,m',hs,h,hb=>by
    have hw:=worth_phi hA (hs s (List.mem_cons_self ..))
    have ht:∀ x∈ss,∀ y∈x,y < 4:=fun x hx=>hs x (List.mem_cons_of_mem _ hx)
    rw [List.map_cons,List.map_cons,List.foldl_cons]
    have hterm:termG intOps A s = (s,(-1) ^ (s.length + 1) * worthG intOps s.length (s.map fun a=>s.map (A a))):=rfl
    unfold termsOf
    rw [List.filter_cons]
    by_cases h0:worthOf pairs (s.map φ) = 0
    · rw [if_neg (by rw [h0]; decide)]
      rw [hterm,← hw,h0,Int.mul_zero]
      exact fold_rel ss m _ ht (fun r=>(h r).trans (skip_step hb s r).symm) (has_cStep hb)
    · rw [if_pos (bne_iff_ne.mpr h0),List.map_cons,List.foldl_cons]
      have e:termOf pairs (s.map φ) = (s.map φ,(-1) ^ (s.length + 1) * worthG intOps s.length (s.map fun a=>s.map (A a))):=by
        unfold termOf
        rw [hw,List.length_map,Int.mul_comm]
      rw [e,hterm]
      exact fold_rel ss _ _ ht (rel_step hφ h b s _) (has_cStep hb)
theorem all_rel {ss:List (List Nat)} (hs:∀ s∈ss,∀ x∈s,x < 4):∀ (bs:List (List Nat)) (m m':List (List Nat × Int)),Rel φ m m' →
    Rel φ ((bs.map (List.map φ)).foldl (cBag (termsOf pairs (ss.map (List.map φ)))) m) (bs.foldl (cBag (ss.map (termG intOps A))) m')
  | [],m,m',h=>h
  | b :: bs,m,m',h=>by
    rw [List.map_cons,List.foldl_cons,List.foldl_cons]
    refine all_rel hs bs _ _ ?_
    unfold cBag
    exact fold_rel hφ hA ss _ _ hs (rel_set hφ h b 0) (has_setI (.inr rfl))
omit hφ hA in
theorem sets_mem (B:List Nat):∀ (l:List Nat),∀ s∈setsOf l B,∀ x∈s,x∈l:=by
  have key:∀ (l:List Nat) (L:List Nat) (s0:List (List Nat)),(∀ c∈l,c∈L)→(∀ s∈s0,∀ x∈s,x∈L)→∀ s∈l.foldl (setStep B) s0,∀ x∈s,x∈L:=by
    intro l
    induction l with
    | nil=>intro L s0 _ h; exact h
    | cons c l ih=>
      intro L s0 hl h
      rw [List.foldl_cons]
      refine ih L _ (fun x hx=>hl x (List.mem_cons_of_mem _ hx)) fun s hs x hx=>?_
      unfold setStep at hs
      split at hs
      · rcases List.mem_append.mp hs with q | q
        · exact h s q x hx
        · obtain ⟨w,hw,rfl⟩:=List.mem_map.mp q
          rcases List.mem_append.mp hx with z | z
          · exact h w hw x z
          · rw [List.mem_singleton.mp z]; exact hl c (List.mem_cons_self ..)
      · exact h s hs x hx
  exact fun l=>key l l [[]] (fun ψ h=>h) fun s hs x hx=>by rw [List.mem_singleton.mp hs] at hx; cases hx
theorem counted_phi (pk:List Nat):counted (I4.map φ) (pk.map φ) pairs = countG intOps A pk:=by
  have hlt:∀ s∈(setsOf I4 pk).drop 1,∀ x∈s,x < 4:=fun s hs x hx=>by
    have:=sets_mem pk I4 s (List.mem_of_mem_drop hs) x hx
    exact (by decide:∀ x∈I4,x < 4) x this
  have h:=all_rel hφ hA hlt ((bagsOf I4 pk).drop 1) _ _ (rel_init (φ:=φ) hφ) pk
  unfold counted countG
  rw [sets_phi hφ,bags_phi hφ,← List.map_drop,← List.map_drop]
  show (getI (cAll _ _) (pk.map φ)).getD 0 = (getI (cAll (((setsOf I4 pk).drop 1).map (termG intOps A)) ((bagsOf I4 pk).drop 1)) pk).getD 0
  unfold cAll
  rw [h]
end
end
section
open Lean.Grind.CommRing
noncomputable def ordN (letters:List Nat) (tks:List (List Nat)) (os:List (List Nat)):Nat:=(tks.foldl (fun os tk=>ordStep letters tk os) os).length
theorem ordN_append (letters:List Nat):∀ (tks a b:List (List Nat)),ordN letters tks (a ++ b) = ordN letters tks a + ordN letters tks b
  | [],a,b=>List.length_append ..
  | tk :: tks,a,b=>by
    have e:ordStep letters tk (a ++ b) = ordStep letters tk a ++ ordStep letters tk b:=List.flatMap_append ..
    show ordN letters tks (ordStep letters tk (a ++ b)) = _
    rw [e,ordN_append letters tks]; rfl
theorem ordN_cons (letters:List Nat) (tks:List (List Nat)) (x:List Nat) (l:List (List Nat)):ordN letters tks (x :: l) = ordN letters tks [x] + ordN letters tks l:=ordN_append letters tks [x] l
theorem ordN_nil (letters:List Nat):∀ tks:List (List Nat),ordN letters tks [] = 0
  | []=>rfl
  | tk :: tks=>ordN_nil letters tks
section
variable {φ:Nat→Nat} (hφ:∀ a b,φ a = φ b→a = b) {tk:Nat→List Nat} {A:Nat→Nat→Int}
include hφ
theorem ord_phi (pl r:List Nat) (hT:∀ i∈pl,∀ c,c < 4→A i c = if φ c∈tk i then 1 else 0):((ordN (I4.map φ) (pl.map tk) [r.map φ]:Nat):Int) = ordG intOps A pl r:=by
  induction pl generalizing r with
  | nil=>rfl
  | cons i pl ih=>
    have ih':=fun r=>ih r fun j hj=>hT j (List.mem_cons_of_mem _ hj)
    have hi:=hT i (List.mem_cons_self ..)
    have e1:ordN (I4.map φ) ((i :: pl).map tk) [r.map φ] = ordN (I4.map φ) (pl.map tk) (ordRow (I4.map φ) (tk i) (r.map φ)):=by
      show ordN _ _ (ordStep _ _ [r.map φ]) = _
      unfold ordStep
      rw [List.flatMap_cons,List.flatMap_nil,List.append_nil]
    rw [e1,ordG]
    unfold ordRow
    have key:∀ l:List Nat,(∀ c∈l,c < 4)→((ordN (I4.map φ) (pl.map tk) (((l.map φ).filter (ordTest (r.map φ) (tk i))).map fun c=>(r.map φ).erase c):Nat):Int) = sumG intOps ((l.filter fun c=>decide (c∈r)).map fun c=>intOps.mul (A i c) (ordG intOps A pl (r.erase c))):=by
      intro l
      induction l with
      | nil=>intro _; rw [List.map_nil,List.filter_nil,List.map_nil,ordN_nil]; rfl
      | cons c l ihl=>
        intro hl
        have hc:=hl c (List.mem_cons_self ..)
        have ihl:=ihl fun x hx=>hl x (List.mem_cons_of_mem _ hx)
        rw [List.map_cons,List.filter_cons,List.filter_cons]
        have et:ordTest (r.map φ) (tk i) (φ c) = (decide (c∈r) && decide (φ c∈tk i)):=by
          unfold ordTest
          rw [Bool.eq_iff_iff,Bool.and_eq_true,Bool.and_eq_true,decide_eq_true_eq,decide_eq_true_eq,decide_eq_true_eq,mem_phi hφ]
        rw [et]
        by_cases h1:c∈r
        · rw [decide_eq_true h1,Bool.true_and,if_pos rfl,List.map_cons,sumG]
          by_cases h2:φ c∈tk i
          · rw [decide_eq_true h2,if_pos rfl,List.map_cons,ordN_cons,erase_phi hφ,Int.natCast_add,ihl,ih',hi c hc,if_pos h2]
            show _ = 1 * _ + _
            rw [Int.one_mul]
          · rw [decide_eq_false h2,if_neg Bool.false_ne_true,ihl,hi c hc,if_neg h2]
            show _ = 0 * _ + _
            rw [Int.zero_mul,Int.zero_add]
        · rw [decide_eq_false h1,Bool.false_and,if_neg Bool.false_ne_true,if_neg Bool.false_ne_true]
          exact ihl
    exact key I4 (by decide)
end
theorem sorted_b:∀ l:List Nat,l.Pairwise (·≤·)→sortedB l = true
  | [],_=>rfl
  | [a],_=>rfl
  | a :: b :: l,h=>by
    obtain ⟨h1,h2⟩:=List.pairwise_cons.mp h
    rw [sortedB,sorted_b (b :: l) h2,decide_eq_true (h1 b (List.mem_cons_self ..))]; rfl
theorem first_ok {a:Nat} (h:a < 4):firsts a = true:=by
  rcases a with _ | _ | _ | _ | a
  · exact firsts0
  · exact firsts1
  · exact firsts2
  · exact firsts3
  · omega
theorem pk_ok {pk:List Nat} (h5:pk.length = 5) (h4:∀ i∈pk,i < 4) (hs:pk.Pairwise (·≤·)):polyOk pk = true∧keysOk pk = true:=by
  have hsb:=sorted_b pk hs
  have hin:∀ x:Nat,x < 4→x∈I4:=by decide
  obtain ⟨a,b,c,d,e,rfl⟩:∃ a b c d e,pk = [a,b,c,d,e]:=by
    match pk,h5 with
    | [a,b,c,d,e],_=>exact ⟨a,b,c,d,e,rfl⟩
  have hf:=first_ok (h4 a (by simp))
  unfold firsts at hf
  have h1:=List.all_eq_true.mp (List.all_eq_true.mp (List.all_eq_true.mp (List.all_eq_true.mp hf b (hin b (h4 b (by simp)))) c (hin c (h4 c (by simp)))) d (hin d (h4 d (by simp)))) e (hin e (h4 e (by simp)))
  unfold okB at h1
  rw [hsb] at h1
  simpa using h1
theorem poly_id (A:Nat→Nat→Int) {pk:List Nat} (h:polyOk pk = true):ordG intOps (fun a b=>Poly.denote (ctx16 A) (varP a b)) pk pk = countG intOps (fun a b=>Poly.denote (ctx16 A) (varP a b)) pk:=by
  have e:ordG polyOps varP pk pk = countG polyOps varP pk:=eq_of_beq h
  rw [← hom_ord (poly_hom _),← hom_count (poly_hom _),e]
theorem plain2:Plain2:=by
  intro letters pk p hl hnd h5 h4 hs
  obtain ⟨l0,l1,l2,l3,rfl⟩:∃ a b c d,letters = [a,b,c,d]:=by
    match letters,hl with
    | [a,b,c,d],_=>exact ⟨a,b,c,d,rfl⟩
  obtain ⟨hpoly,hkeys⟩:=pk_ok h5 h4 hs
  obtain ⟨φ,hφd⟩:∃ φ:Nat→Nat,φ = fun i=>if i = 0 then l0 else if i = 1 then l1 else if i = 2 then l2 else if i = 3 then l3 else l0 + l1 + l2 + l3 + i:=⟨_,rfl⟩
  have p0:φ 0 = l0:=by rw [hφd]; rfl
  have p1:φ 1 = l1:=by rw [hφd]; rfl
  have p2:φ 2 = l2:=by rw [hφd]; rfl
  have p3:φ 3 = l3:=by rw [hφd]; rfl
  have p4:∀ i,4≤i→φ i = l0 + l1 + l2 + l3 + i:=fun i hi=>by rw [hφd]; simp only []; rw [if_neg (by omega),if_neg (by omega),if_neg (by omega),if_neg (by omega)]
  have hnd':l0≠l1∧l0≠l2∧l0≠l3∧l1≠l2∧l1≠l3∧l2≠l3:=by
    simp only [List.nodup_cons,List.mem_cons,List.not_mem_nil,or_false,not_or] at hnd
    obtain ⟨⟨a,b,c⟩,⟨d,e⟩,f,_⟩:=hnd
    exact ⟨a,b,c,d,e,f⟩
  have cases4:∀ i:Nat,i = 0∨i = 1∨i = 2∨i = 3∨4≤i:=fun i=>by exact o321
  have hφ:∀ a b,φ a = φ b→a = b:=by
    intro a b h
    obtain ⟨n1,n2,n3,n4,n5,n6⟩:=hnd'
    rcases cases4 a with rfl | rfl | rfl | rfl | ha <;> rcases cases4 b with rfl | rfl | rfl | rfl | hb <;>
      (try simp only [p0,p1,p2,p3] at h) <;> first | rfl | (exact absurd h (by assumption)) | (exact absurd h.symm (by assumption)) | (first | rw [p4 _ ha] at h | skip) <;> (first | rw [p4 _ hb] at h | skip) <;> omega
  have hL:[l0,l1,l2,l3] = I4.map φ:=by
    show _ = [φ 0,φ 1,φ 2,φ 3]
    rw [p0,p1,p2,p3]
  have hget:∀ i,i < 4→[l0,l1,l2,l3].getD i 0 = φ i:=by
    intro i hi
    rcases cases4 i with rfl | rfl | rfl | rfl | h
    · exact p0.symm
    · exact p1.symm
    · exact p2.symm
    · exact p3.symm
    · exact o323 hi h
  have hbag:(pk.map fun i=>[l0,l1,l2,l3].getD i 0) = pk.map φ:=List.map_congr_left fun i hi=>hget i (h4 i hi)
  simp only [hbag]
  obtain ⟨tk,htk⟩:∃ tk:Nat→List Nat,tk = fun k=>[l0,l1,l2,l3].filter (p k):=⟨_,rfl⟩
  rw [← htk]
  obtain ⟨pairs,hpairs⟩:∃ pairs,pairs = pairsOf [l0,l1,l2,l3] tk:=⟨_,rfl⟩
  rw [← hpairs,hL]
  obtain ⟨A,hAd⟩:∃ A:Nat→Nat→Int,A = fun a b=>Poly.denote (ctx16 fun a b=>cellOf1 pairs (φ a) (φ b)) (varP a b):=⟨_,rfl⟩
  have hA:∀ a b,a < 4→b < 4→cellOf1 pairs (φ a) (φ b) = A a b:=fun a b ha hb=>by rw [hAd]; exact (var_ctx (fun a b=>cellOf1 pairs (φ a) (φ b)) ha hb).symm
  have hpair:∀ i c,i < 4→c < 4→(pairs.any (· == [φ i,φ c]) = true↔φ c∈tk i):=fun i c hi hc=>by
    rw [List.any_eq_true,hpairs]
    unfold pairsOf
    constructor
    · rintro ⟨x,hx,he⟩
      obtain ⟨k,hk,hx⟩:=List.mem_flatMap.mp hx
      obtain ⟨y,hy,rfl⟩:=List.mem_map.mp hx
      have hk4:=List.mem_range.mp hk
      have e:=eq_of_beq he
      obtain ⟨e1,e2⟩:=List.cons.inj e
      rw [hget k hk4] at e1
      rw [← hφ k i e1,← (List.cons.inj e2).1]
      exact hy
    · intro h
      exact ⟨[φ i,φ c],List.mem_flatMap.mpr ⟨i,List.mem_range.mpr hi,List.mem_map.mpr ⟨φ c,h,by rw [hget i hi]⟩⟩,beq_self_eq_true _⟩
  have hT:∀ i∈pk,∀ c,c < 4→A i c = if φ c∈tk i then 1 else 0:=fun i hi c hc=>by
    rw [← hA i c (h4 i hi) hc]
    unfold cellOf1
    have:=hpair i c (h4 i hi) hc
    by_cases q:φ c∈tk i
    · rw [if_pos q,if_pos (this.mpr q)]
    · rw [if_neg q,if_neg fun z=>q (this.mp z)]
  refine ⟨?_,?_,?_⟩
  · have h1:=ord_phi hφ pk pk hT
    have h2:=counted_phi hφ hA pk
    have h3:=poly_id (fun a b=>cellOf1 pairs (φ a) (φ b)) hpoly
    rw [← hAd] at h3
    rw [h2,← h3,← h1]; rfl
  · unfold keysOk at hkeys
    have hk:=(Bool.and_eq_true_iff.mp hkeys).1
    obtain ⟨x,hx,e⟩:=List.any_eq_true.mp hk
    rw [of_decide_eq_true e] at hx
    rw [bags_phi hφ,← List.map_drop]
    exact List.mem_map_of_mem (f:=List.map φ) hx
  · intro i b hb t ht hc
    unfold keysOk at hkeys
    have hk:=List.all_eq_true.mp (Bool.and_eq_true_iff.mp hkeys).2
    rw [bags_phi hφ,← List.map_drop] at hb ⊢
    rw [sets_phi hφ,← List.map_drop] at ht
    rw [List.getElem?_map] at hb
    obtain ⟨b',hb',rfl⟩:=Option.map_eq_some_iff.mp hb
    obtain ⟨s,hs',rfl⟩:=List.mem_map.mp ht
    obtain ⟨s',hs'',rfl⟩:=List.mem_map.mp (List.mem_filter.mp hs').1
    have hi:i < ((bagsOf I4 pk).drop 1).length:=(List.getElem?_eq_some_iff.mp hb').1
    have h1:=List.all_eq_true.mp (hk i (List.mem_range.mpr hi)) s' hs''
    have hgd:((bagsOf I4 pk).drop 1).getD i [] = b':=by rw [List.getD_eq_getElem?_getD,hb']; rfl
    rw [hgd] at h1
    have h1:=of_decide_eq_true h1
    have hc':(erases (b'.map φ) (s'.map φ)).length + (s'.map φ).length = (b'.map φ).length:=hc
    rw [erases_phi hφ,List.length_map,List.length_map,List.length_map] at hc'
    have h2:=h1 hc'
    show erases (b'.map φ) (s'.map φ)∈_
    rw [erases_phi hφ,← List.map_take]
    exact List.mem_map_of_mem (f:=List.map φ) h2
end
set_option tactic.hygienic true in
theorem fd_get {K:Frag} {h:Heap} (X:K.In h) {a:Addr} (e:fdIs K a = true):∃ o,h.get? a = some o∧o.data = .func (fdOf K a):=by
  unfold fdIs at e
  unfold fdOf
  split at e
  · rename_i c d fd sl hk
    exact ⟨_,X _ _ hk,rfl⟩
  · cases e
set_option tactic.hygienic true in
theorem code_get {K:Frag} {h:Heap} {P:Addr} (X:K.In h) {fd:FuncData} (e:codeQ K P fd = true):(hideAll h [P]).CodeRec fd.code fd.qualname:=by
  unfold codeQ at e
  split at e
  · rename_i c hc
    rw [Bool.and_eq_true] at e
    obtain ⟨e1,e2⟩:=e
    have hne:c≠P:=by simpa using e1
    split at e2
    · rename_i cl d vs sl hk
      split at e2
      · rename_i q t hq
        have hqq:q = fd.qualname:=eq_of_beq e2
        exact ⟨c,_,vs,t,hc,hideAll_get _ (X _ _ hk) (by simpa using hne),rfl,by rw [hq,hqq]⟩
      · cases e2
    · cases e2
  · cases e
structure DefAt (K:Frag) (P:Addr) (pw:Program) (i:Nat) (x:Str) (a:Addr):Prop where
  name:nsIn K mainGlobals x = some (some (.ref a))
  is:fdIs K a = true
  ne:(a != P) = true
  code:codeQ K P (fdOf K a) = true
  body:(fdOf K a).body = .stmts (fbody (nth pw i))
  clo:(fdOf K a).closure = []
  globals:(fdOf K a).globals = mainGlobals
  builtins:(fdOf K a).builtins = builtinsNs
  scope:(fdOf K a).scope = fQ (nth pw i)
theorem DefAt.isDef {K:Frag} {h:Heap} {P:Addr} {pw:Program} {i:Nat} {x:Str} {a:Addr} {W:Wo} (d:DefAt K P pw i x a) (X:K.In h) (hB:W.B = hideAll h [P]):IsDef W a (fdOf K a) (fbody (nth pw i)) where
  get:=by
    obtain ⟨o,h1,h2⟩:=fd_get X d.is
    rw [hB]
    exact ⟨o,hideAll_get _ h1 (by have:=d.ne; simpa using this),h2⟩
  body:=d.body
  code:=by rw [hB]; exact code_get X d.code
  clo:=d.clo
  globals:=d.globals
  builtins:=d.builtins
theorem DefAt.fn {K:Frag} {h:Heap} {P:Addr} {pw:Program} {i:Nat} {x:Str} {a:Addr} {W:Wo} {ps:List Str} (d:DefAt K P pw i x a) (X:K.In h) (hB:W.B = hideAll h [P]) (hg:h.Ns mainGlobals W.mg)
    (hb:∀ vs:List Value,vs.length = ps.length→bindArgs (fdOf K a) ⟨vs,[]⟩ = pure (ps.zip vs)):Fn W pw i x ps:=
  ⟨a,fdOf K a,mg_of X hg d.name,d.isDef X hB,d.scope,hb⟩
theorem bind1 {fd:FuncData} {p:Str} (h:∀ u,bindArgs fd ⟨[u],[]⟩ = pure [(p,u)]):∀ vs:List Value,vs.length = [p].length→bindArgs fd ⟨vs,[]⟩ = pure ([p].zip vs)
  | [],e=>nomatch e
  | [u],_=>h u
  | _ :: _ :: _,e=>nomatch e
theorem bind2 {fd:FuncData} {p q:Str} (h:∀ u v,bindArgs fd ⟨[u,v],[]⟩ = pure [(p,u),(q,v)]):∀ vs:List Value,vs.length = [p,q].length→bindArgs fd ⟨vs,[]⟩ = pure ([p,q].zip vs)
  | [],e=>nomatch e
  | [_],e=>nomatch e
  | [u,v],_=>h u v
  | _ :: _ :: _ :: _,e=>nomatch e
theorem bind3 {fd:FuncData} {p q r:Str} (h:∀ u v w,bindArgs fd ⟨[u,v,w],[]⟩ = pure [(p,u),(q,v),(r,w)]):∀ vs:List Value,vs.length = [p,q,r].length→bindArgs fd ⟨vs,[]⟩ = pure ([p,q,r].zip vs)
  | [],e=>nomatch e
  | [_],e=>nomatch e
  | [_,_],e=>nomatch e
  | [u,v,w],_=>h u v w
  | _ :: _ :: _ :: _ :: _,e=>nomatch e
theorem ns_hide {h:Heap} {a P:Addr} {m:Str→Option Value} (x:h.Ns a m) (hne:a≠P):(hideAll h [P]).Ns a m:=
  let ⟨o,es,ep,e,r⟩:=x; ⟨o,es,ep,hideAll_get _ e (by simpa using hne),r⟩
theorem rds_of_ints {h:Heap} {hot:Addr→Prop}:∀ {vs:List Value} {ns:List Int},IntsAre vs ns→Rds h hot (ns.map V.int) vs
  | _,_,.nil=>.nil
  | _,_,.cons n t r=>.cons mk_int (rds_of_ints r)
theorem SQ.base {W:Wo} {a:Addr} {items:Array Value} {ns:List Int} {lo hi st:Option Int} (hB:W.B.IsList a items) (hi':IntsAre items.toList ns) (h0:st≠some 0) (hz:ns.length≤16777216) :
    SQ W (.val (.ref a)) lo hi st (.list ((sl ns lo hi st).map V.int)):=by
  intro A hA s hot v₁ sa pl pu pt Q E hb al r1 hsa h1 h2 h3 k
  cases rd_val r1
  have hr:Rds s.heap hot (ns.map V.int) items.toList:=rds_of_ints hi'
  have hsz:items.size = (ns.map V.int).length:=by rw [← hr.length]; simp
  have hl:s.heap.IsList a items:=let ⟨o,ho,r⟩:=hB; ⟨o,hb _ _ ho,r⟩
  refine ⟨"list",_,slot_list_getitem.lookup,hl.typeIs,@wpAny_getItem_list_slice _ _ _ _ _ _ _ _ _ _ _ _ _ _ _ hl ⟨_,hsa,rfl,rfl⟩ (isPart_of h1) (isPart_of h2) (isPart_of h3) h0 (k _ _ ⟨fun b o e=>Heap.get?_push_of_some _ e,rfl,fun e=>e⟩ ?_) (by rw [hsz,sizeLine_eq,List.length_map]; exact hz)⟩
  have up:Sub s.heap (s.heap.push { cls:=.type "list",data:=.seq (slicePick items lo hi st) }):=fun b o e=>Heap.get?_push_of_some _ e
  rw [← sl_map]
  unfold Rd
  refine ⟨_,slicePick items lo hi st,rfl,newIsHot al,⟨0,Heap.get?_push_size _ rfl⟩,(hr.sub up).picked hsz⟩
set_option tactic.hygienic true in
theorem pat_get {K:Frag} {h:Heap} {P R:Addr} (X:K.In h) (e:patIn K P R = true):IsPat (hideAll h [P]) R:=by
  unfold patIn at e
  rw [Bool.and_eq_true] at e
  obtain ⟨e0,e⟩:=e
  have hne:R≠P:=by simpa using e0
  split at e
  · rename_i fs sl hk
    rw [Bool.and_eq_true,Bool.and_eq_true,Bool.and_eq_true] at e
    obtain ⟨⟨⟨ez,e1⟩,e2⟩,e3⟩:=e
    have hz:sl = #[]:=Array.eq_empty_of_size_eq_zero (eq_of_beq ez)
    subst hz
    split at e3
    · rename_i C hC
      rw [Bool.and_eq_true] at e3
      obtain ⟨e4,e5⟩:=e3
      have hne2:C≠P:=by simpa using e4
      split at e5
      · rename_i cl d items n sl hk2
        exact ⟨fs,C,items,n,hideAll_get _ (X _ _ hk) (by simpa using hne),eq_of_beq e1,hC,eq_of_beq e2,⟨_,hideAll_get _ (X _ _ hk2) (by simpa using hne2),rfl⟩,eq_of_beq e5⟩
      · cases e5
    · cases e3
  · cases e
theorem fdQ_is {K:Frag} {a:Addr} {fd:FuncData} (h:fdQ K a = some fd):fdIs K a = true∧fdOf K a = fd:=by
  cases hk:K.lookup a with
  | none=>simp [fdQ,hk] at h
  | some o=>
    obtain ⟨c,d,data,sl⟩:=o
    cases data <;> simp_all [fdQ,fdIs,fdOf]
theorem Told.name {K:Frag} (T:Told K) {x:Str} {a:Addr} (k:Nat) (h:namesK[k]? = some (x,a)):nsIn K mainGlobals x = some (some (.ref a)):=by
  have e:(namesK.map fun x=>nsIn K mainGlobals x.1) = namesK.map fun x=>some (some (.ref x.2)):=congrArg Prod.fst T
  have e2:=congrArg (·[k]?) e
  simp only [List.getElem?_map,h,Option.map_some] at e2
  exact Option.some.inj e2
theorem Told.free {K:Frag} (T:Told K) {x:Str} (k:Nat) (h:freeK[k]? = some x):nsIn K mainGlobals x = some none:=by
  have e:(freeK.map fun x=>nsIn K mainGlobals x) = freeK.map fun ψ=>some none:=congrArg (fun x=>x.2.1) T
  have e2:=congrArg (·[k]?) e
  simp only [List.getElem?_map,h,Option.map_some] at e2
  exact Option.some.inj e2
theorem Told.letters {K:Frag} (T:Told K):nsIn K mainGlobals "_B64" = some (some (.bytes b64L.toArray 545)):=congrArg (fun x=>x.2.2.1) T
theorem Told.fdq {K:Frag} (T:Told K) {d:DefRow} (k:Nat) (h:defsK[k]? = some d):fdQ K d.a = some (defData d):=by
  have e:(defsK.map fun d=>fdQ K d.a) = defsK.map fun d=>some (defData d):=congrArg (fun x=>x.2.2.2.1) T
  have e2:=congrArg (·[k]?) e
  simp only [List.getElem?_map,h,Option.map_some] at e2
  exact Option.some.inj e2
theorem Told.fd {K:Frag} (T:Told K) {d:DefRow} (k:Nat) (h:defsK[k]? = some d):fdOf K d.a = defData d:=(fdQ_is (T.fdq k h)).2
theorem Told.flags {K:Frag} (T:Told K):flagsK K = true:=congrArg (fun x=>x.2.2.2.2) T
theorem Told.defAt {K:Frag} (T:Told K) {i:Nat} {x:Str} {a:Addr} {c:Addr} {pm dV kV:Value} (k:Nat) (h:defsK[k]? = some ⟨a,i,c,pm,dV,kV⟩) (hn:namesK[k]? = some (x,a)) (hne:(a != 64) = true):DefAt K 64 pw i x a:=by
  have hf:=T.flags
  unfold flagsK at hf
  simp only [Bool.and_eq_true] at hf
  obtain ⟨⟨⟨⟨h1,_⟩,_⟩,_⟩,_⟩:=hf
  have hc:=List.all_eq_true.mp h1 _ (List.mem_of_getElem? h)
  obtain ⟨e1,e2⟩:=fdQ_is (T.fdq k h)
  refine ⟨T.name k hn,e1,hne,?_,?_,?_,?_,?_,?_⟩
  · show codeQ K 64 (fdOf K a) = true
    rw [show fdOf K a = _ from e2]; exact hc
  all_goals (rw [show fdOf K a = _ from e2]; rfl)
theorem g_translate {K:Frag} (T:Told K):fdOf K 50 = defData ⟨50,4,49,.str (Str.ofString "cpy313.fnmatch") 289,.none,.none⟩:=T.fd (d:=⟨50,4,49,.str (Str.ofString "cpy313.fnmatch") 289,.none,.none⟩) 0 (by rfl)
theorem d_translate {K:Frag} (h:Told K):DefAt K 64 pw 4 "translate" 50:=h.defAt 0 (by rfl) (by rfl) (by decide)
theorem g_tr {K:Frag} (T:Told K):fdOf K 69 = defData ⟨69,9,68,.str (Str.ofString "cpy313.fnmatch") 493,.none,.none⟩:=T.fd (d:=⟨69,9,68,.str (Str.ofString "cpy313.fnmatch") 493,.none,.none⟩) 1 (by rfl)
theorem d_tr {K:Frag} (h:Told K):DefAt K 64 pw 9 "_translate" 69:=h.defAt 1 (by rfl) (by rfl) (by decide)
theorem g_join {K:Frag} (T:Told K):fdOf K 76 = defData ⟨76,10,75,.str (Str.ofString "cpy313.fnmatch") 493,.none,.none⟩:=T.fd (d:=⟨76,10,75,.str (Str.ofString "cpy313.fnmatch") 493,.none,.none⟩) 2 (by rfl)
theorem d_join {K:Frag} (h:Told K):DefAt K 64 pw 10 "_join_translated_parts" 76:=h.defAt 2 (by rfl) (by rfl) (by decide)
theorem g_buffer {K:Frag} (T:Told K):fdOf K 83 = defData ⟨83,12,82,.str (Str.ofString "binascii") 527,.none,.none⟩:=T.fd (d:=⟨83,12,82,.str (Str.ofString "binascii") 527,.none,.none⟩) 3 (by rfl)
theorem d_buffer {K:Frag} (h:Told K):DefAt K 64 pw 12 "_buffer" 83:=h.defAt 3 (by rfl) (by rfl) (by decide)
theorem g_truth {K:Frag} (T:Told K):fdOf K 90 = defData ⟨90,13,89,.str (Str.ofString "binascii") 527,.none,.none⟩:=T.fd (d:=⟨90,13,89,.str (Str.ofString "binascii") 527,.none,.none⟩) 4 (by rfl)
theorem d_truth {K:Frag} (h:Told K):DefAt K 64 pw 13 "_truth" 90:=h.defAt 4 (by rfl) (by rfl) (by decide)
theorem g_b2a {K:Frag} (T:Told K):fdOf K 98 = defData ⟨98,15,97,.str (Str.ofString "binascii") 527,.none,.ref 91⟩:=T.fd (d:=⟨98,15,97,.str (Str.ofString "binascii") 527,.none,.ref 91⟩) 5 (by rfl)
theorem d_b2a {K:Frag} (h:Told K):DefAt K 64 pw 15 "b2a_base64" 98:=h.defAt 5 (by rfl) (by rfl) (by decide)
theorem g_b64 {K:Frag} (T:Told K):fdOf K 106 = defData ⟨106,17,105,.str (Str.ofString "cpy313.base64") 561,.ref 99,.none⟩:=T.fd (d:=⟨106,17,105,.str (Str.ofString "cpy313.base64") 561,.ref 99,.none⟩) 6 (by rfl)
theorem d_b64 {K:Frag} (h:Told K):DefAt K 64 pw 17 "b64encode" 106:=h.defAt 6 (by rfl) (by rfl) (by decide)
theorem g_e0 {K:Frag} (T:Told K):fdOf K 120 = defData ⟨120,20,119,.str (Str.ofString "cpy313.xml.etree.ElementTree") 572,.none,.none⟩:=T.fd (d:=⟨120,20,119,.str (Str.ofString "cpy313.xml.etree.ElementTree") 572,.none,.none⟩) 7 (by rfl)
theorem d_e0 {K:Frag} (h:Told K):DefAt K 64 pw 20 "_escape_cdata" 120:=h.defAt 7 (by rfl) (by rfl) (by decide)
theorem g_e2 {K:Frag} (T:Told K):fdOf K 127 = defData ⟨127,21,126,.str (Str.ofString "cpy313.xml.etree.ElementTree") 572,.none,.none⟩:=T.fd (d:=⟨127,21,126,.str (Str.ofString "cpy313.xml.etree.ElementTree") 572,.none,.none⟩) 8 (by rfl)
theorem d_e2 {K:Frag} (h:Told K):DefAt K 64 pw 21 "_escape_attrib" 127:=h.defAt 8 (by rfl) (by rfl) (by decide)
theorem g_e4 {K:Frag} (T:Told K):fdOf K 134 = defData ⟨134,22,133,.str (Str.ofString "cpy313.xml.etree.ElementTree") 572,.none,.none⟩:=T.fd (d:=⟨134,22,133,.str (Str.ofString "cpy313.xml.etree.ElementTree") 572,.none,.none⟩) 9 (by rfl)
theorem d_e4 {K:Frag} (h:Told K):DefAt K 64 pw 22 "_escape_attrib_html" 134:=h.defAt 9 (by rfl) (by rfl) (by decide)
theorem g_e1 {K:Frag} (T:Told K):fdOf K 141 = defData ⟨141,23,140,.str (Str.ofString "cpy313.xml.etree.ElementTree") 572,.none,.none⟩:=T.fd (d:=⟨141,23,140,.str (Str.ofString "cpy313.xml.etree.ElementTree") 572,.none,.none⟩) 10 (by rfl)
theorem d_e1 {K:Frag} (h:Told K):DefAt K 64 pw 23 "_escape_cdata_c14n" 141:=h.defAt 10 (by rfl) (by rfl) (by decide)
theorem g_e3 {K:Frag} (T:Told K):fdOf K 148 = defData ⟨148,24,147,.str (Str.ofString "cpy313.xml.etree.ElementTree") 572,.none,.none⟩:=T.fd (d:=⟨148,24,147,.str (Str.ofString "cpy313.xml.etree.ElementTree") 572,.none,.none⟩) 11 (by rfl)
theorem d_e3 {K:Frag} (h:Told K):DefAt K 64 pw 24 "_escape_attrib_c14n" 148:=h.defAt 11 (by rfl) (by rfl) (by decide)
theorem g_drawn {K:Frag} (T:Told K):fdOf K 153 = defData ⟨153,26,152,.str (Str.ofString "law_kt0033_02") 616,.none,.none⟩:=T.fd (d:=⟨153,26,152,.str (Str.ofString "law_kt0033_02") 616,.none,.none⟩) 12 (by rfl)
theorem d_drawn {K:Frag} (h:Told K):DefAt K 64 pw 26 "_law_drawn" 153:=h.defAt 12 (by rfl) (by rfl) (by decide)
theorem g_figures {K:Frag} (T:Told K):fdOf K 158 = defData ⟨158,27,157,.str (Str.ofString "law_kt0033_02") 616,.none,.none⟩:=T.fd (d:=⟨158,27,157,.str (Str.ofString "law_kt0033_02") 616,.none,.none⟩) 13 (by rfl)
theorem d_figures {K:Frag} (h:Told K):DefAt K 64 pw 27 "_law_figures" 158:=h.defAt 13 (by rfl) (by rfl) (by decide)
theorem g_bracket {K:Frag} (T:Told K):fdOf K 163 = defData ⟨163,28,162,.str (Str.ofString "law_kt0033_02") 616,.none,.none⟩:=T.fd (d:=⟨163,28,162,.str (Str.ofString "law_kt0033_02") 616,.none,.none⟩) 14 (by rfl)
theorem d_bracket {K:Frag} (h:Told K):DefAt K 64 pw 28 "_law_bracket" 163:=h.defAt 14 (by rfl) (by rfl) (by decide)
theorem g_written {K:Frag} (T:Told K):fdOf K 170 = defData ⟨170,29,169,.str (Str.ofString "law_kt0033_02") 616,.none,.none⟩:=T.fd (d:=⟨170,29,169,.str (Str.ofString "law_kt0033_02") 616,.none,.none⟩) 15 (by rfl)
theorem d_written {K:Frag} (h:Told K):DefAt K 64 pw 29 "_law_written" 170:=h.defAt 15 (by rfl) (by rfl) (by decide)
theorem g_spelled {K:Frag} (T:Told K):fdOf K 175 = defData ⟨175,30,174,.str (Str.ofString "law_kt0033_02") 616,.none,.none⟩:=T.fd (d:=⟨175,30,174,.str (Str.ofString "law_kt0033_02") 616,.none,.none⟩) 16 (by rfl)
theorem d_spelled {K:Frag} (h:Told K):DefAt K 64 pw 30 "_law_spelled" 175:=h.defAt 16 (by rfl) (by rfl) (by decide)
theorem g_takes {K:Frag} (T:Told K):fdOf K 180 = defData ⟨180,31,179,.str (Str.ofString "law_kt0033_02") 616,.none,.none⟩:=T.fd (d:=⟨180,31,179,.str (Str.ofString "law_kt0033_02") 616,.none,.none⟩) 17 (by rfl)
theorem d_takes {K:Frag} (h:Told K):DefAt K 64 pw 31 "_law_takes" 180:=h.defAt 17 (by rfl) (by rfl) (by decide)
theorem g_taken {K:Frag} (T:Told K):fdOf K 185 = defData ⟨185,32,184,.str (Str.ofString "law_kt0033_02") 616,.none,.none⟩:=T.fd (d:=⟨185,32,184,.str (Str.ofString "law_kt0033_02") 616,.none,.none⟩) 18 (by rfl)
theorem d_taken {K:Frag} (h:Told K):DefAt K 64 pw 32 "_law_taken" 185:=h.defAt 18 (by rfl) (by rfl) (by decide)
theorem g_orders {K:Frag} (T:Told K):fdOf K 190 = defData ⟨190,33,189,.str (Str.ofString "law_kt0033_02") 616,.none,.none⟩:=T.fd (d:=⟨190,33,189,.str (Str.ofString "law_kt0033_02") 616,.none,.none⟩) 19 (by rfl)
theorem d_orders {K:Frag} (h:Told K):DefAt K 64 pw 33 "_law_orders" 190:=h.defAt 19 (by rfl) (by rfl) (by decide)
theorem g_worth {K:Frag} (T:Told K):fdOf K 195 = defData ⟨195,34,194,.str (Str.ofString "law_kt0033_02") 616,.none,.none⟩:=T.fd (d:=⟨195,34,194,.str (Str.ofString "law_kt0033_02") 616,.none,.none⟩) 20 (by rfl)
theorem d_worth {K:Frag} (h:Told K):DefAt K 64 pw 34 "_law_worth" 195:=h.defAt 20 (by rfl) (by rfl) (by decide)
theorem g_counted {K:Frag} (T:Told K):fdOf K 200 = defData ⟨200,35,199,.str (Str.ofString "law_kt0033_02") 616,.none,.none⟩:=T.fd (d:=⟨200,35,199,.str (Str.ofString "law_kt0033_02") 616,.none,.none⟩) 21 (by rfl)
theorem d_counted {K:Frag} (h:Told K):DefAt K 64 pw 35 "_law_counted" 200:=h.defAt 21 (by rfl) (by rfl) (by decide)
theorem g_law {K:Frag} (T:Told K):fdOf K 205 = defData ⟨205,36,204,.str (Str.ofString "law_kt0033_02") 616,.none,.none⟩:=T.fd (d:=⟨205,36,204,.str (Str.ofString "law_kt0033_02") 616,.none,.none⟩) 22 (by rfl)
theorem d_law {K:Frag} (h:Told K):DefAt K 64 pw 36 "law" 205:=h.defAt 22 (by rfl) (by rfl) (by decide)
theorem f_join {W:Wo} {h:Heap} {K:Frag} (T:Told K) (X:K.In h) (hB:W.B = hideAll h [64]) (hg:h.Ns mainGlobals W.mg):Fn W pw 10 "_join_translated_parts" ["inp","STAR"]:=(d_join T).fn X hB hg (bind2 fun ψ ψ=>by rw [g_join T]; kernel_rfl)
theorem f_buffer {W:Wo} {h:Heap} {K:Frag} (T:Told K) (X:K.In h) (hB:W.B = hideAll h [64]) (hg:h.Ns mainGlobals W.mg):Fn W pw 12 "_buffer" ["data"]:=(d_buffer T).fn X hB hg (bind1 fun ψ=>by rw [g_buffer T]; kernel_rfl)
theorem f_truth {W:Wo} {h:Heap} {K:Frag} (T:Told K) (X:K.In h) (hB:W.B = hideAll h [64]) (hg:h.Ns mainGlobals W.mg):Fn W pw 13 "_truth" ["x"]:=(d_truth T).fn X hB hg (bind1 fun ψ=>by rw [g_truth T]; kernel_rfl)
theorem f_e0 {W:Wo} {h:Heap} {K:Frag} (T:Told K) (X:K.In h) (hB:W.B = hideAll h [64]) (hg:h.Ns mainGlobals W.mg):Fn W pw 20 "_escape_cdata" ["text"]:=(d_e0 T).fn X hB hg (bind1 fun ψ=>by rw [g_e0 T]; kernel_rfl)
theorem f_e2 {W:Wo} {h:Heap} {K:Frag} (T:Told K) (X:K.In h) (hB:W.B = hideAll h [64]) (hg:h.Ns mainGlobals W.mg):Fn W pw 21 "_escape_attrib" ["text"]:=(d_e2 T).fn X hB hg (bind1 fun ψ=>by rw [g_e2 T]; kernel_rfl)
theorem f_e4 {W:Wo} {h:Heap} {K:Frag} (T:Told K) (X:K.In h) (hB:W.B = hideAll h [64]) (hg:h.Ns mainGlobals W.mg):Fn W pw 22 "_escape_attrib_html" ["text"]:=(d_e4 T).fn X hB hg (bind1 fun ψ=>by rw [g_e4 T]; kernel_rfl)
theorem f_e1 {W:Wo} {h:Heap} {K:Frag} (T:Told K) (X:K.In h) (hB:W.B = hideAll h [64]) (hg:h.Ns mainGlobals W.mg):Fn W pw 23 "_escape_cdata_c14n" ["text"]:=(d_e1 T).fn X hB hg (bind1 fun ψ=>by rw [g_e1 T]; kernel_rfl)
theorem f_e3 {W:Wo} {h:Heap} {K:Frag} (T:Told K) (X:K.In h) (hB:W.B = hideAll h [64]) (hg:h.Ns mainGlobals W.mg):Fn W pw 24 "_escape_attrib_c14n" ["text"]:=(d_e3 T).fn X hB hg (bind1 fun ψ=>by rw [g_e3 T]; kernel_rfl)
theorem f_drawn {W:Wo} {h:Heap} {K:Frag} (T:Told K) (X:K.In h) (hB:W.B = hideAll h [64]) (hg:h.Ns mainGlobals W.mg):Fn W pw 26 "_law_drawn" ["script"]:=(d_drawn T).fn X hB hg (bind1 fun ψ=>by rw [g_drawn T]; kernel_rfl)
theorem f_figures {W:Wo} {h:Heap} {K:Frag} (T:Told K) (X:K.In h) (hB:W.B = hideAll h [64]) (hg:h.Ns mainGlobals W.mg):Fn W pw 27 "_law_figures" ["letters","cell"]:=(d_figures T).fn X hB hg (bind2 fun ψ ψ=>by rw [g_figures T]; kernel_rfl)
theorem f_bracket {W:Wo} {h:Heap} {K:Frag} (T:Told K) (X:K.In h) (hB:W.B = hideAll h [64]) (hg:h.Ns mainGlobals W.mg):Fn W pw 28 "_law_bracket" ["figures","marks","barred"]:=(d_bracket T).fn X hB hg (bind3 fun ψ ψ ψ=>by rw [g_bracket T]; kernel_rfl)
theorem f_written {W:Wo} {h:Heap} {K:Frag} (T:Told K) (X:K.In h) (hB:W.B = hideAll h [64]) (hg:h.Ns mainGlobals W.mg):Fn W pw 29 "_law_written" ["way","text"]:=(d_written T).fn X hB hg (bind2 fun ψ ψ=>by rw [g_written T]; kernel_rfl)
theorem f_spelled {W:Wo} {h:Heap} {K:Frag} (T:Told K) (X:K.In h) (hB:W.B = hideAll h [64]) (hg:h.Ns mainGlobals W.mg):Fn W pw 30 "_law_spelled" ["way","figures","marks"]:=(d_spelled T).fn X hB hg (bind3 fun ψ ψ ψ=>by rw [g_spelled T]; kernel_rfl)
theorem f_takes {W:Wo} {h:Heap} {K:Frag} (T:Told K) (X:K.In h) (hB:W.B = hideAll h [64]) (hg:h.Ns mainGlobals W.mg):Fn W pw 31 "_law_takes" ["spelled","barred","letters"]:=(d_takes T).fn X hB hg (bind3 fun ψ ψ ψ=>by rw [g_takes T]; kernel_rfl)
theorem f_taken {W:Wo} {h:Heap} {K:Frag} (T:Told K) (X:K.In h) (hB:W.B = hideAll h [64]) (hg:h.Ns mainGlobals W.mg):Fn W pw 32 "_law_taken" ["inside","letters"]:=(d_taken T).fn X hB hg (bind2 fun ψ ψ=>by rw [g_taken T]; kernel_rfl)
theorem f_orders {W:Wo} {h:Heap} {K:Frag} (T:Told K) (X:K.In h) (hB:W.B = hideAll h [64]) (hg:h.Ns mainGlobals W.mg):Fn W pw 33 "_law_orders" ["taken","letters","bag"]:=(d_orders T).fn X hB hg (bind3 fun ψ ψ ψ=>by rw [g_orders T]; kernel_rfl)
theorem f_worth {W:Wo} {h:Heap} {K:Frag} (T:Told K) (X:K.In h) (hB:W.B = hideAll h [64]) (hg:h.Ns mainGlobals W.mg):Fn W pw 34 "_law_worth" ["table"]:=(d_worth T).fn X hB hg (bind1 fun ψ=>by rw [g_worth T]; kernel_rfl)
theorem f_counted {W:Wo} {h:Heap} {K:Frag} (T:Told K) (X:K.In h) (hB:W.B = hideAll h [64]) (hg:h.Ns mainGlobals W.mg):Fn W pw 35 "_law_counted" ["letters","bag","pairs"]:=(d_counted T).fn X hB hg (bind3 fun ψ ψ ψ=>by rw [g_counted T]; kernel_rfl)
section
variable {W:Wo} {h:Heap} {K:Frag}
theorem f_b2a (T:Told K) (X:K.In h) (hB:W.B = hideAll h [64]) (hg:h.Ns mainGlobals W.mg):FnKw W pw 15 "b2a_base64" "data" "newline":=
  ⟨98,fdOf K 98,mg_of X hg (d_b2a T).name,(d_b2a T).isDef X hB,(d_b2a T).scope,fun s hs u v=>.of_eq (by rw [g_b2a T]; kernel_rfl)⟩
set_option tactic.hygienic true in
theorem tup_get (T:Told K) (X:K.In h):∃ o items n,h.get? 99 = some o∧o.data = .seq items n∧items = #[.none]:=by
  have hf:=T.flags
  unfold flagsK at hf
  simp only [Bool.and_eq_true] at hf
  obtain ⟨_,h5⟩:=hf
  split at h5
  · rename_i c d vs n sl hk
    refine ⟨_,vs,n,X _ _ hk,rfl,?_⟩
    rw [Bool.and_eq_true] at h5
    obtain ⟨h6,h7⟩:=h5
    have hz:vs.size = 1:=eq_of_beq h6
    split at h7
    · rename_i h8
      apply Array.ext (by rw [hz]; rfl)
      intro i h1 h2
      have hi:i = 0:=by omega
      subst hi
      rw [Array.getElem?_eq_getElem h1] at h8
      exact Option.some.inj h8
    · cases h7
  · cases h5
theorem dflt_bind {fd:FuncData} (hp:fd.params = fparams (nth pw 17)) (hk:fd.kwdefaults = .none) (u v:Value):∃ k,bindArgs fd ⟨[u,v],[]⟩ = (seqItems? fd.defaults >>= k)∧k (some #[.none]) = pure (([("s",u),("altchars",v)]:List (Str × Value))):=by
  have e:fd = { fd with params:=fparams (nth pw 17),kwdefaults:=.none }:=by rw [← hp,← hk]
  rw [e]
  exact ⟨_,rfl,by kernel_rfl⟩
theorem f_b64 (T:Told K) (X:K.In h) (hB:W.B = hideAll h [64]) (hg:h.Ns mainGlobals W.mg):FnDf W pw 17 "b64encode" ["s","altchars"] 2 []:=
  ⟨106,fdOf K 106,mg_of X hg (d_b64 T).name,(d_b64 T).isDef X hB,(d_b64 T).scope,fun s hs vs hvs=>by
    match vs,hvs with
    | [u,v],_=>
      obtain ⟨o,items,m,e1,e2,e3⟩:=tup_get T X
      subst e3
      obtain ⟨k,k1,k2⟩:=dflt_bind (fd:=fdOf K 106) (by rw [g_b64 T]; rfl) (by rw [g_b64 T]; rfl) u v
      exact BindsTo.of_defaults (T:=99) (k:=k) (by rw [g_b64 T]; rfl) (hs _ _ (by rw [hB]; exact hideAll_get _ e1 (by decide))) e2 k1 k2⟩
noncomputable def tc:TC:=⟨true,68,64,"_translate.<locals>.",lamPos⟩
theorem f_tr (T:Told K) (X:K.In h) (hB:W.B = hideAll h [64]) (hg:h.Ns mainGlobals W.mg):FnT W tc pw 9 "_translate" ["pat","STAR","QUESTION_MARK"]:=
  ⟨69,fdOf K 69,mg_of X hg (d_tr T).name,(d_tr T).isDef X hB,(d_tr T).scope,bind3 fun ψ ψ ψ=>by rw [g_tr T]; kernel_rfl,fun ψ=>⟨by rw [g_tr T]; rfl,by rw [g_tr T]; kernel_rfl⟩⟩
theorem f_translate (T:Told K) (X:K.In h) (hB:W.B = hideAll h [64]) (hg:h.Ns mainGlobals W.mg):FnT W tc.away pw 4 "translate" ["pat"]:=
  ⟨50,fdOf K 50,mg_of X hg (d_translate T).name,(d_translate T).isDef X hB,(d_translate T).scope,bind1 fun ψ=>by rw [g_translate T]; kernel_rfl,fun q=>by cases q⟩
theorem Told.pat (T:Told K):patIn K 64 43 = true:=by
  have hf:=T.flags
  unfold flagsK at hf
  simp only [Bool.and_eq_true] at hf
  exact hf.1.1.1.2
theorem Told.code (T:Told K):codeHdIn K 68 64 = true:=by
  have hf:=T.flags
  unfold flagsK at hf
  simp only [Bool.and_eq_true] at hf
  exact hf.1.1.2
set_option tactic.hygienic true in
theorem Told.tab (T:Told K) (X:K.In h):h.get? 64 = some (tabObj #[]):=by
  have hf:=T.flags
  unfold flagsK at hf
  simp only [Bool.and_eq_true] at hf
  have h4:=hf.1.2
  split at h4
  · rename_i vs sl hk
    rw [Bool.and_eq_true] at h4
    have h1:vs = #[]:=Array.eq_empty_of_size_eq_zero (eq_of_beq h4.1)
    have h2:sl = #[]:=Array.eq_empty_of_size_eq_zero (eq_of_beq h4.2)
    subst h1; subst h2
    exact X _ _ hk
  · cases h4
theorem hd_of {c P:Addr} (x:CodeHd h c P):CodeHd (hideAll h [P]) c P:=by
  obtain ⟨o,vs,file,tf,flags,tg,inF,text,tt,e,r1,r2,r3,r4,r5,r6,r7,r8,ne⟩:=x
  exact ⟨o,vs,file,tf,flags,tg,inF,text,tt,hideAll_get _ e (by simpa using ne),r1,r2,r3,r4,r5,r6,r7,r8,ne⟩
noncomputable def woOf (prog:Program) (w:World) (h:Heap) (mg mb:Str→Option Value) (hg:h.Ns mainGlobals mg) (hb:h.Ns builtinsNs mb) (hbt:∀ x:Str,x≠"__name__"→mb x = bootBuiltins x) (hnl:h.NoLimit):Wo:=
  { prog:=prog,w:=w,B:=hideAll h [64],mg:=mg,mb:=mb,hg:=ns_hide hg (by decide),hb:=ns_hide hb (by decide),hbt:=hbt,hnl:=let ⟨mc,a,b⟩:=hnl; ⟨mc,ns_hide a (by decide),b⟩ }
noncomputable abbrev BmOk (mg:Str→Option Value) (h:Heap):Prop:=∃ bm ob,mg "__builtins__" = some (.ref bm)∧bm≠builtinsNs∧h.get? bm = some ob∧ob.cls = .type "module"∧ob.dict = some builtinsNs∧ob.data = .plain
theorem gb_of (T:Told K) (X:K.In h) (hB:W.B = hideAll h [64]) (hg:h.Ns mainGlobals W.mg) (hbm:BmOk W.mg h):GL W tc 43 where
  range:=mg_none_of X hg (T.free 0 rfl)
  len:=mg_none_of X hg (T.free 1 rfl)
  type:=mg_none_of X hg (T.free 2 rfl)
  bytes:=mg_none_of X hg (T.free 3 rfl)
  bool:=mg_none_of X hg (T.free 4 rfl)
  chr:=mg_none_of X hg (T.free 5 rfl)
  enum:=mg_none_of X hg (T.free 6 rfl)
  object:=mg_none_of X hg (T.free 7 rfl)
  sorted:=mg_none_of X hg (T.free 8 rfl)
  translate:=f_translate T X hB hg
  tr:=f_tr T X hB hg
  join:=f_join T X hB hg
  buffer:=f_buffer T X hB hg
  truth:=f_truth T X hB hg
  b2a:=f_b2a T X hB hg
  b64:=f_b64 T X hB hg
  e0:=f_e0 T X hB hg
  e2:=f_e2 T X hB hg
  e4:=f_e4 T X hB hg
  e1:=f_e1 T X hB hg
  e3:=f_e3 T X hB hg
  drawn:=f_drawn T X hB hg
  figures:=f_figures T X hB hg
  bracket:=f_bracket T X hB hg
  written:=f_written T X hB hg
  spelled:=f_spelled T X hB hg
  takes:=f_takes T X hB hg
  taken:=f_taken T X hB hg
  orders:=f_orders T X hB hg
  worth:=f_worth T X hB hg
  counted:=f_counted T X hB hg
  letters:=⟨_,mg_of X hg T.letters⟩
  tb:=by
    refine ⟨?_,?_⟩
    · rw [hB]; exact hd_of (codeHd_of_K X T.code)
    · obtain ⟨bm,ob,b1,b2,b3,b4,b5,b6⟩:=hbm
      have hbP:bm≠64:=fun q=>by rw [q,T.tab X] at b3; cases b3; cases b4
      have hbG:bm≠mainGlobals:=fun q=>by
        obtain ⟨o,es,ep,e,hd',_⟩:=hg
        rw [q,e] at b3; cases b3; rw [hd'] at b6; cases b6
      refine ⟨bm,ob,b1,b2,hbG,hbP,?_,b4,b5,b6⟩
      rw [hB]; exact hideAll_get _ b3 (by simpa using hbP)
  tpos:=rfl
  here:=rfl
  re:=mg_of X hg (T.name (x:="_twin_re_1") 23 rfl)
  isPat:=by rw [hB]; exact pat_get X T.pat
theorem oldK_of {s s':Shared} (T:Told K) (X:K.In s.heap) (g:GrowT tc.away s s') (ok:TabOk tc.away s'.heap (· = 64)):OldK s.heap s'.heap:=by
  have hT:=T.tab X
  obtain ⟨ps,e2,_⟩:=ok
  have e3:s'.heap.get? 64 = some (tabObj ps):=e2
  refine ⟨fun b o e=>?_,fun b o e=>?_⟩
  · by_cases q:b = 64
    · subst q
      rw [hT] at e
      cases e
      refine .inr (.inl ⟨?_,rfl,#[],ps,rfl,?_⟩)
      · obtain ⟨o,vs,file,tf,flags,tg,inF,text,tt,e,r1,r2,r3,_⟩:=codeHd_of_K X T.code
        exact ⟨68,o,vs,e,r1,r2,r3⟩
      · rw [e3]; simp [tabObj]
    · exact .inl (g.sub b o q e)
  · by_cases q:b = 64
    · subst q
      exact ⟨_,e3⟩
    · exact ⟨o,g.sub b o q e⟩
end
theorem final {prog:Program} {w:World} {s₁:Shared} {K:Frag} {mg mb:Str→Option Value} {fa l:Addr} {items:Array Value} {ns:List Int} {Q E:Value→Shared→Prop} (T:Told K) (X:K.In s₁.heap)
    (hg:s₁.heap.Ns mainGlobals mg) (hb:s₁.heap.Ns builtinsNs mb) (hbt:∀ x:Str,x≠"__name__"→mb x = bootBuiltins x) (hnl:s₁.heap.NoLimit) (hbm:BmOk mg s₁.heap)
    (hmg:mg "law" = some (.ref fa)) (hL:s₁.heap.IsList l items) (hI:IntsAre items.toList ns) (hn:ns.length≤63) (k:∀ s',GrowT tc.away s₁ s'→TabOk tc.away s'.heap (· = 64)→Q (.bool true) s') :
    wpAny (model prog w) callerA (call (.ref fa) [.ref l]) Q E s₁:=by
  have e:=mg_of X hg (d_law T).name
  rw [e] at hmg
  cases hmg
  have hT:=T.tab X
  have hW:∃ W:Wo,W.prog = prog∧W.w = w∧W.B = hideAll s₁.heap [64]∧W.mg = mg:=⟨woOf prog w s₁.heap mg mb hg hb hbt hnl,rfl,rfl,rfl,rfl⟩
  obtain ⟨W,rfl,rfl,hB,rfl⟩:=hW
  have G:=gb_of T X hB hg hbm
  have hne:l≠64:=fun q=>by
    obtain ⟨o,ho,hc,_⟩:=hL
    rw [q,hT] at ho; cases ho; cases hc
  have hBL:W.B.IsList l items:=by
    obtain ⟨o,ho,r⟩:=hL
    rw [hB]
    exact ⟨o,hideAll_get _ ho (by simpa using hne),r⟩
  have hsd:=SQ.base (W:=W) (lo:=none) (hi:=some 60) (st:=none) hBL hI (by decide) (by omega)
  have run:=law_main (n:=0) G (by omega:ns.length≤1000) hsd plain2
  have hsub:Sub W.B s₁.heap:=fun b o e=>by rw [hB] at e; exact of_hideAll _ e
  have hrs:Rds s₁.heap (· = 64) [V.val (.ref l)] [Value.ref l]:=.cons mk_val .nil
  refine wpAny_call (code_fnT (T:=tc.away) (T':=tc.away) (n:=8) (c:=.bool true) (ls:=["way","letters","marks","bag","cells","figures","brackets","expression","taken","takes","pairs"]) (ps:=["script"]) (hot:=(· = 64)) rfl rfl rfl (fun q=>by cases q) ((d_law T).isDef X hB) ?_ rfl ?_ ⟨rfl,by decide,by decide⟩ hsub (by rw [hB]; exact hideAll_none _ (by simp [tc,TC.away])) rfl ?_ ⟨#[],hT,trivial,.inl rfl⟩ hrs (.of_eq ?_) fun v s' g ok r=>?_)
  · rw [(d_law T).scope]; kernel_rfl
  · rw [(d_law T).scope]; exact run
  · rintro a rfl; exact ⟨_,hT⟩
  · rw [g_law T]; kernel_rfl
  · cases rd_bool r
    exact k s' g ok
theorem t:PySem.Challenge.rw_kt0033_02.Holds:=by
  w_on
  refine holds_law said fun said'=>?_
  refine holds_open (q:=viewP) (loose:=looseN) (Xt:=xt) (XP:=XL viewP []) (Yf:=hook.obs) (Ya:=hook.val) (YP:=hook.says) (N:=5000) left hook.of hook.keeps (fun s e=>xl_of s (Bool.and_eq_true_iff.mp e).1) XL.keeps (by rfl) (by rfl) (by rfl) (fun s e=>recFacts_of (Bool.and_eq_true_iff.mp e).2) (by rfl) said' fits ⟨rfl,rfl,rfl,rfl,rfl,by kernel_rfl⟩ ⟨[.list []],by kernel_rfl,by kernel_rfl⟩ ?_
  intro w s₀ s₁ mg mb G Y fa o pm cd doc dV kV ho hd hcd hD hmg hg args vals as hpre hlay hrd hwl hlo
  obtain ⟨K,X,TK⟩:=Y
  refine Ground.open G ?_
  intro T B D TE TW
  clear hd hcd hD ho
  wrow_args hpre hlay hrd hwl hlo
  rename_i l items _ hL _ _ _ hI _ hn _
  refine final TK X T.g T.b T.builtins T.nolimit T.bmain hmg hL (by rw [List.toList_toArray]; exact hI) (by omega) fun s' g ok=>?_
  refine ⟨.inl ⟨_,.bool true,[],rfl,fun ψ=>rfl,.bool _,?_,fun ψ=>⟨List.nodup_nil,fun a ha=>nomatch ha⟩⟩,?_,g.os,g.gens (AllBare.of_eq hg)⟩
  · first | kernel_rfl | wrow_post
  · exact oldK_of TK X g ok
end Mine.Internal
theorem PySem.Challenge.cw_kt0033_02_holds : PySem.Challenge.rw_kt0033_02.Holds :=
  Mine.Internal.t
