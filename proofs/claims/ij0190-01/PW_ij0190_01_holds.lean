import PyProof.Rows.All
import Wide.All
import OpenK.AllK
import Wide.FinOn
import KE.KSortAsk
import KE.KPar
import KE.KDictLaws
import KE.KPop
import KE.KDictList
import PyProof.TupleOfSeq
import PyProof.AttrMissHeap
import KE.KFromBytes
import PyProof.IsiH_set
import PyProof.MeetsDictList
import PyProof.ZipIter
import PyProof.ListRange
import KE.KSuperObj
import Lean
import PySem.Challenge.RW_ij0190_01
set_option bootstrap.genMatcherCode false
set_option linter.all false
section
open PySem PySem.W PySem.W.X PyProof.Rows
set_option maxRecDepth 100000
set_option linter.unusedVariables false
namespace Mine
noncomputable abbrev pw:Program:=PySem.Challenge.pw_ij0190_01
noncomputable def anyQ {α:Type} (as:Array α) (p:α→Bool) (start:Nat) (stop:Nat):Bool:=
 match Nat.beq start 0 && Nat.beq stop as.toList.length with
 | true=>as.toList.any p
 | false=>Array.any as p start stop
theorem any_eq:@Array.any.{0}=@anyQ:=by
 funext α as p start stop
 unfold anyQ
 split
 ·rename_i h
  simp only [Bool.and_eq_true]at h
  have h1:=Nat.eq_of_beq_eq_true h.1
  have h2:=Nat.eq_of_beq_eq_true h.2
  subst h1 h2
  rw [Array.any_toList]
  rfl
 ·rfl
noncomputable def tabOf (b:Builtin) (id:String):Option Builtin:=if id="type.__new__" then some b else treeTable id
theorem tab_eq:treeTable=tabOf Builtin.«type.__new__»:=by
 funext id
 unfold tabOf
 split
 ·rename_i h
  subst h
  kernel_rfl
 ·rfl
noncomputable def topRunT (tb:String→Option Builtin) (p:Program) (w:World) (n₀:Nat) (ann:Option Value):Nat→SharedT→Thread→Option SharedT
 | 0,_,_=>none
 | n+1,s,t=>match through t with
  | true=>some s
  | false=>match stepOk n₀ ann t with
   | false=>none
   | true=>match stepT (denote tb) p w s t with
    | some (s',t')=>topRunT tb p w n₀ ann n s' t'
    | none=>none
theorem topRunT_s {tb:String→Option Builtin}{p:Program}{w:World}{n₀:Nat}{ann:Option Value}{n:Nat}{s:SharedT}{t:Thread}:topRunT tb p w n₀ ann (n+1) s t=match through t with
  | true=>some s
  | false=>match stepOk n₀ ann t with
   | false=>none
   | true=>match stepT (denote tb) p w s t with
    | some (s',t')=>topRunT tb p w n₀ ann n s' t'
    | none=>none:=rfl
theorem topRun_s {tb:String→Option Builtin}{p:Program}{w:World}{n₀:Nat}{ann:Option Value}{n:Nat}{s:Shared}{t:Thread}:topRun tb p w n₀ ann (n+1) s t=match through t with
  | true=>some s
  | false=>match stepOk n₀ ann t with
   | false=>none
   | true=>match step (denote tb) p w s t with
    | .go s' t'=>topRun tb p w n₀ ann n s' t'
    | .halt _ _=>none:=rfl
theorem topRun_of {tb:String→Option Builtin}{p:Program}{w:World}{n₀:Nat}{ann:Option Value}{n:Nat}:∀ {s s':SharedT}{t:Thread},
  topRunT tb p w n₀ ann n s t=some s'→topRun tb p w n₀ ann n s.abs t=some s'.abs:=by
 induction n with
 | zero=>exact fun h=>nomatch h
 | succ n ih=>
  intro s s' t h
  refine topRun_s.trans ?_
  have h:=topRunT_s.symm.trans h
  generalize through t=b at h ⊢
  cases b with
  | true=>exact congrArg (Option.map SharedT.abs) h
  | false=>
   generalize stepOk n₀ ann t=b at h ⊢
   cases b with
   | false=>exact nomatch (show none=some s' from h)
   | true=>
    cases hs:stepT (denote tb) p w s t with
    | none=>exact nomatch (show none=some s' from (congrArg (fun r:Option (SharedT×Thread)=>match r with | some (s',t')=>topRunT tb p w n₀ ann n s' t' | none=>none) hs).symm.trans h)
    | some r=>
     have h:=(congrArg (fun r:Option (SharedT×Thread)=>match r with | some (s',t')=>topRunT tb p w n₀ ann n s' t' | none=>none) hs).symm.trans h
     exact(congrArg (fun r:Step=>match r with | .go s' t'=>topRun tb p w n₀ ann n s' t' | .halt _ _=>none) (stepT_spec hs)).trans (ih h)
noncomputable def treeOf (l:List Obj):BT:=(l.foldl (fun(q:BT×Nat) o=>(q.1.ins q.2 o,q.2+1)) (BT.nil,0)).1
noncomputable def bootT (P:Params):BT:=treeOf (boot_heap P).objs.toList
theorem boot_abs (P:Params):absHeap (bootT P) 11 (boot_heap P).life=boot_heap P:=by kernel_rfl
noncomputable def startT (w:World) (os:OsState):SharedT:=⟨bootT w.params,11,(boot_heap w.params).life,#[],boot_drawn,boot_toks,os⟩
theorem startT_abs (w:World) (os:OsState):(startT w os).abs=⟨boot_heap w.params,#[],boot_drawn,boot_toks,os⟩:=by
 unfold SharedT.abs startT
 rw [boot_abs]
noncomputable def noArgs:Arguments:={ posonlyargs:=[],args:=[],vararg:=none,kwonlyargs:=[],kw_defaults:=[],kwarg:=none,defaults:=[] }
noncomputable def noScope:Scope:={ kind:=.function,names:=[],isGenerator:=false,isCoroutine:=false,more:=[] }
noncomputable def st1 (i:Nat):Option Stmt:=pw.main.body[i]?
set_option backward.match.sparseCases false in
noncomputable def sb2 (b:List Stmt) (i j:Nat):Option Stmt:=match b[i]? with
 | some (.ClassDef _ _ _ b _ _ _ _ _ _ _)=>b[j]?
 | _=>none
set_option backward.match.sparseCases false in
noncomputable def clB (i:Nat):List Stmt:=match pw.main.body[i]? with
 | some (.ClassDef _ _ _ b _ _ _ _ _ _ _)=>b
 | _=>[]
noncomputable def st2 (i j:Nat):Option Stmt:=sb2 pw.main.body i j
set_option backward.match.sparseCases false in
noncomputable def fnP (s:Option Stmt):Arguments:=match s with | some (.FunctionDef _ a _ _ _ _ _ _ _ _)=>a | _=>noArgs
set_option backward.match.sparseCases false in
noncomputable def fnB (s:Option Stmt):List Stmt:=match s with | some (.FunctionDef _ _ b _ _ _ _ _ _ _)=>b | _=>[]
set_option backward.match.sparseCases false in
noncomputable def fnS (s:Option Stmt):Scope:=match s with | some (.FunctionDef _ _ _ _ _ _ sc _ _ _)=>sc | _=>noScope
noncomputable def fnDoc (s:Option Stmt):Str:=(docOf (fnB s)).getD Str.empty
set_option backward.match.sparseCases false in
noncomputable def cbDoc (b:List Stmt) (i:Nat):Str:=match b[i]? with
 | some (.ClassDef _ _ _ b _ _ _ _ _ _ _)=>(docOf b).getD Str.empty
 | _=>Str.empty
noncomputable def nth (d:List (List Nat)) (i:Nat):List Nat:=@List.rec (List Nat) (fun _=>Nat→List Nat) (fun _=>[]) (fun x _ ih i=>@Nat.rec (fun _=>List Nat) x (fun k _=>ih k) i) d i
noncomputable def chars (l:List Nat):List Char:=@List.rec Nat (fun _=>List Char) [] (fun c _ r=>Char.ofNat c :: r) l
noncomputable def SL:List String:=letI d0:String:=_;letI d1:String:=_;letI d2:String:=_;letI d3:String:=_;letI d4:String:=_;letI d5:String:=_;letI d6:String:=_;letI d7:String:=_;letI d8:String:=_;letI d9:String:=_;letI d10:String:=_;letI d11:String:=_;letI d12:String:=_;letI d13:String:=_;haveI:docOf (clB 3)=some (Str.ofString d0):=rfl;haveI:docOf (fnB (st2 3 4))=some (Str.ofString d1):=rfl;haveI:docOf (fnB (st2 3 5))=some (Str.ofString d2):=rfl;haveI:docOf (fnB (st2 3 6))=some (Str.ofString d3):=rfl;haveI:docOf (fnB (st2 3 8))=some (Str.ofString d4):=rfl;haveI:docOf (fnB (st2 3 10))=some (Str.ofString d5):=rfl;haveI:docOf (clB 5)=some (Str.ofString d6):=rfl;haveI:docOf (fnB (st2 5 1))=some (Str.ofString d7):=rfl;haveI:docOf (fnB (st2 5 2))=some (Str.ofString d8):=rfl;haveI:docOf (fnB (st2 5 3))=some (Str.ofString d9):=rfl;haveI:docOf (fnB (st2 5 4))=some (Str.ofString d10):=rfl;haveI:docOf (fnB (st2 5 6))=some (Str.ofString d11):=rfl;haveI:docOf (fnB (st2 5 7))=some (Str.ofString d12):=rfl;haveI:docOf (fnB (st2 5 10))=some (Str.ofString d13):=rfl;["_wall","k","__name__","cpy313.difflib","_tuplegetter","__init__","self","index","doc","__doc__","__get__","obj","objtype","issubclass","type","tuple","__getitem__","__set__","value","AttributeError","can't set attribute","__delete__","can't delete attribute","Match",d0,"__slots__","_fields","a","b","size","_field_defaults","__new__","_cls",d1,"_make","cls","iterable",d2,"result","len","TypeError","Expected 3 arguments, got ","classmethod","_replace","kwds",d3,"__class__","__len__","pop","map","Got unexpected field names: ","list","__replace__","__repr__",d4,"(a=%r, b=%r, size=%r)","_asdict","__getnewargs__",d5,"__match_args__","Alias for field number 0","Alias for field number 1","Alias for field number 2","_calculate_ratio","matches","length","SequenceMatcher",d6,"isjunk","autojunk","",d7,"set_seqs",d8,"set_seq1","set_seq2",d9,"matching_blocks","opcodes",d10,"fullbcount","_SequenceMatcher__chain_b","__chain_b","b2j","i","elt","enumerate","indices","setdefault","append","bjunk","junk","set","keys","add","bpopular","popular","n","ntest","idxs","items","find_longest_match","alo","ahi","blo","bhi",d11,"isbjunk","__contains__","besti","bestj","bestsize","j2len","nothing","range","j2lenget","get","newj2len","j","get_matching_blocks",d12,"la","lb","queue","x","sort","i1","j1","k1","non_adjacent","i2","j2","k2","get_opcodes","get_grouped_opcodes","ratio",d13,"sum","triple",".0","quick_ratio","real_quick_ratio","sep","/","os.path","_kind","name","t","str","NoneType","bool","int","float","dict","_c_path","cname","argname","args","kwargs",": path should be string, bytes or os.PathLike, not ","_shelf_fresh","s","_splitroot","p","empty","_normpath","path","dot",".","dotdot","..","_","initial_slashes","comps","split","new_comps","comp","join","normpath","_path_normpath","cpy313.trace","_Ignore","modules","dirs","_mods","_dirs","d","_ignore","<string>","fast","names","filename","modulename","mod","startswith","law_ij0190_01","_law_asker","reader","asked","call","-","f","_law_unlike","calls","_law_junk","first","a.b","_law_best","one","two","window","c","y","_law_blocks","ahead","_law_due","due","law","script","numbers","ab"," f"," -","twos","told","matcher","/claim/cut.py","__package__","__loader__","__spec__","__annotations__","__builtins__","__file__","__cached__","Match.__new__","Match._make","__module__","__firstlineno__","__static_attributes__","SequenceMatcher.__init__","SequenceMatcher.set_seqs","SequenceMatcher.set_seq1","SequenceMatcher.set_seq2","SequenceMatcher.__chain_b","SequenceMatcher.find_longest_match","SequenceMatcher.get_matching_blocks","__dict__","__weakref__","_Ignore.__init__","_Ignore.names"]
noncomputable def dec (n:Nat):List Nat:=@Nat.rec (fun _=>Nat→List Nat→List Nat) (fun n r=>bif Nat.beq n 0 then r else n :: r) (fun k ih n r=>bif Nat.beq n 0 then r else ih (n % 65536 ^ 2 ^ k) (ih (n / 65536 ^ 2 ^ k) r)) 13 n []
noncomputable def HLC:List Nat:=letI l:List Nat:=_;haveI:SL.map (fun s=>(s.toList.map Char.toNat).foldr (fun c r=>c+65536 * r) 0)=l:=(by(refine Eq.trans ?_ (Eq.refl _));rotate_left;(conv=>lhs;delta SL;simp));l
noncomputable def LN:List (List Nat):=HLC.map dec
noncomputable def tabA (i:Nat):Str:=Str.ofString (String.ofList (chars (nth LN i)))
noncomputable def tabB (i:Nat):Str:=⟨⟨nth LN i⟩⟩
noncomputable def tabS (i:Nat):String:=@List.rec String (fun _=>Nat→String) (fun _=>"") (fun x _ ih i=>@Nat.rec (fun _=>String) x (fun k _=>ih k) i) ["dict","__main__.__loader__#opaque","module","code","function","classmethod","type","tuple","object","staticmethod","object.__new__"] i
theorem chars_nat:∀ {l:List Nat},l.all (fun c=>Nat.blt c 55296)=true→(chars l).map Char.toNat=l
 | [],_=>rfl
 | c :: l,h=>by
  have h1:=(Bool.and_eq_true_iff.mp h).1
  have h2:=chars_nat (Bool.and_eq_true_iff.mp h).2
  have e:(Char.ofNat c).toNat=c:=by
   have:c.isValidChar:=.inl (by simpa using h1)
   simp [Char.ofNat,this,Char.toNat,Char.ofNatAux]
  show(Char.ofNat c).toNat :: (chars l).map Char.toNat=_
  rw [e,h2]
theorem nth_all {p:List Nat→Bool} (h0:p []=true):∀ {d:List (List Nat)}{i:Nat},d.all p=true→p (nth d i)=true
 | [],_,_=>h0
 | x :: d,0,h=>(Bool.and_eq_true_iff.mp h).1
 | x :: d,i+1,h=>nth_all (d:=d) (i:=i) h0 (Bool.and_eq_true_iff.mp h).2
theorem tabs_eq:tabA=tabB:=by
 funext i
 refine(PySem.W.Fast.ofString_ofList _).trans ?_
 rw [chars_nat (nth_all (p:=fun l=>l.all (fun c=>Nat.blt c 55296)) rfl (d:=LN) (by kernel_rfl))]
 rfl
noncomputable def q2 (t:Nat→Str) (u:Nat→String) (b:List Stmt) (P:Params):Obj:=⟨.none,none,(.dict [].toArray 0),[].toArray⟩
noncomputable def q3 (t:Nat→Str) (u:Nat→String) (b:List Stmt) (P:Params):Obj:=⟨(.type (u 0)),none,(.dict [⟨PyData.keyHash P (t 2),(.str (t 2) 165),(.str (t 195) 682)⟩,⟨PyData.keyHash P (t 9),(.str (t 9) 166),.none⟩,⟨PyData.keyHash P (t 227),(.str (t 227) 167),.none⟩,⟨PyData.keyHash P (t 228),(.str (t 228) 168),(.builtin (u 1))⟩,⟨PyData.keyHash P (t 229),(.str (t 229) 169),.none⟩,⟨PyData.keyHash P (t 230),(.str (t 230) 170),(.ref 6)⟩,⟨PyData.keyHash P (t 231),(.str (t 231) 171),(.ref 4)⟩,⟨PyData.keyHash P (t 232),(.str (t 232) 173),(.str (t 226) 172)⟩,⟨PyData.keyHash P (t 233),(.str (t 233) 174),.none⟩,⟨PyData.keyHash P (t 0),(.str (t 0) 193),(.ref 21)⟩,⟨PyData.keyHash P (t 4),(.str (t 4) 252),(.ref 60)⟩,⟨PyData.keyHash P (t 23),(.str (t 23) 380),(.ref 135)⟩,⟨PyData.keyHash P (t 63),(.str (t 63) 388),(.ref 145)⟩,⟨PyData.keyHash P (t 66),(.str (t 66) 574),(.ref 242)⟩,⟨PyData.keyHash P (t 142),(.str (t 142) 576),(.str (t 143) 575)⟩,⟨PyData.keyHash P (t 145),(.str (t 145) 587),(.ref 253)⟩,⟨PyData.keyHash P (t 154),(.str (t 154) 600),(.ref 260)⟩,⟨PyData.keyHash P (t 160),(.str (t 160) 607),(.ref 267)⟩,⟨PyData.keyHash P (t 162),(.str (t 162) 616),(.ref 274)⟩,⟨PyData.keyHash P (t 165),(.str (t 165) 631),(.ref 281)⟩,⟨PyData.keyHash P (t 178),(.str (t 178) 639),(.ref 288)⟩,⟨PyData.keyHash P (t 181),(.str (t 181) 681),(.ref 311)⟩,⟨PyData.keyHash P (t 196),(.str (t 196) 693),(.ref 322)⟩,⟨PyData.keyHash P (t 202),(.str (t 202) 699),(.ref 327)⟩,⟨PyData.keyHash P (t 204),(.str (t 204) 705),(.ref 332)⟩,⟨PyData.keyHash P (t 207),(.str (t 207) 725),(.ref 339)⟩,⟨PyData.keyHash P (t 213),(.str (t 213) 739),(.ref 346)⟩,⟨PyData.keyHash P (t 215),(.str (t 215) 752),(.ref 353)⟩,⟨PyData.keyHash P (t 217),(.str (t 217) 758),(.ref 358)⟩].toArray 29),[].toArray⟩
noncomputable def q4 (t:Nat→Str) (u:Nat→String) (b:List Stmt) (P:Params):Obj:=⟨(.type (u 2)),(some 0),.plain,[].toArray⟩
noncomputable def q81 (t:Nat→Str) (u:Nat→String) (b:List Stmt) (P:Params):Obj:=⟨(.type (u 3)),none,(.fields [(.str (t 31) 274),(.str (t 234) 275),(.str (t 226) 276),(.int (29) 0),(.int (4) 0),(.int (0) 0),(.int (0) 0),(.int (3) 0),(.ref 76),(.bool true),(.int (181) 0),(.ref 77),.none,(.ref 78),(.ref 79),(.ref 80),(.int (281) 0),(.int (29) 0),(.str (t 226) 282)].toArray),[].toArray⟩
noncomputable def q82 (t:Nat→Str) (u:Nat→String) (b:List Stmt) (P:Params):Obj:=⟨(.type (u 4)),none,(.func { name:=(t 31),qualname:=(t 234),params:=fnP (sb2 b 3 4),body:=.stmts (fnB (sb2 b 3 4)),scope:=fnS (sb2 b 3 4),globals:=3,closure:=[],defaults:=.none,kwdefaults:=.none,doc:=(.str (fnDoc (sb2 b 3 4)) 283),pyModule:=(.str (t 3) 194),annotations:=none,code:=(.ref 81),closureTuple:=.none,builtins:=0 }),[].toArray⟩
noncomputable def q88 (t:Nat→Str) (u:Nat→String) (b:List Stmt) (P:Params):Obj:=⟨(.type (u 3)),none,(.fields [(.str (t 34) 285),(.str (t 235) 286),(.str (t 226) 287),(.int (33) 0),(.int (2) 0),(.int (0) 0),(.int (0) 0),(.int (3) 0),(.ref 83),(.bool true),(.int (181) 0),(.ref 84),.none,(.ref 85),(.ref 86),(.ref 87),(.int (291) 0),(.int (33) 0),(.str (t 226) 292)].toArray),[].toArray⟩
noncomputable def q89 (t:Nat→Str) (u:Nat→String) (b:List Stmt) (P:Params):Obj:=⟨(.type (u 4)),none,(.func { name:=(t 34),qualname:=(t 235),params:=fnP (sb2 b 3 5),body:=.stmts (fnB (sb2 b 3 5)),scope:=fnS (sb2 b 3 5),globals:=3,closure:=[],defaults:=.none,kwdefaults:=.none,doc:=(.str (fnDoc (sb2 b 3 5)) 293),pyModule:=(.str (t 3) 194),annotations:=(some 92),code:=(.ref 88),closureTuple:=.none,builtins:=0 }),[].toArray⟩
noncomputable def q91 (t:Nat→Str) (u:Nat→String) (b:List Stmt) (P:Params):Obj:=⟨(.type (u 5)),(some 90),(.fields [(.ref 89),(.bool false)].toArray),[].toArray⟩
noncomputable def q134 (t:Nat→Str) (u:Nat→String) (b:List Stmt) (P:Params):Obj:=⟨(.type (u 0)),none,(.dict [⟨PyData.keyHash P (t 236),(.str (t 236) 260),(.str (t 3) 194)⟩,⟨PyData.keyHash P (t 237),(.str (t 237) 264),(.int (23) 263)⟩,⟨PyData.keyHash P (t 9),(.str (t 9) 266),(.str (t 24) 265)⟩,⟨PyData.keyHash P (t 25),(.str (t 25) 268),(.ref 73)⟩,⟨PyData.keyHash P (t 26),(.str (t 26) 272),(.ref 74)⟩,⟨PyData.keyHash P (t 30),(.str (t 30) 273),(.ref 75)⟩,⟨PyData.keyHash P (t 31),(.str (t 31) 284),(.ref 136)⟩,⟨PyData.keyHash P (t 34),(.str (t 34) 306),(.ref 91)⟩,⟨PyData.keyHash P (t 43),(.str (t 43) 317),(.ref 100)⟩,⟨PyData.keyHash P (t 52),(.str (t 52) 318),(.ref 100)⟩,⟨PyData.keyHash P (t 53),(.str (t 53) 326),(.ref 107)⟩,⟨PyData.keyHash P (t 56),(.str (t 56) 333),(.ref 114)⟩,⟨PyData.keyHash P (t 57),(.str (t 57) 341),(.ref 121)⟩,⟨PyData.keyHash P (t 59),(.str (t 59) 345),(.ref 122)⟩,⟨PyData.keyHash P (t 27),(.str (t 27) 355),(.ref 124)⟩,⟨PyData.keyHash P (t 28),(.str (t 28) 365),(.ref 127)⟩,⟨PyData.keyHash P (t 29),(.str (t 29) 375),(.ref 130)⟩,⟨PyData.keyHash P (t 238),(.str (t 238) 376),(.ref 132)⟩].toArray 2),[].toArray⟩
noncomputable def q135 (t:Nat→Str) (u:Nat→String) (b:List Stmt) (P:Params):Obj:=⟨(.type (u 6)),none,(.cls { name:=(t 23),bases:=[(.type (u 7))],mro:=[(.ref 135),(.type (u 7)),(.type (u 8))],ns:=134,qualname:=(t 23),hasDict:=false,slotNames:=[],subclasses:=[],abstract:=false,collection:=none,hasDel:=false }),[(some (.ref 65)),none,(some (.str (t 23) 253)),(some (.str (t 23) 261)),(some .none),(some (.bool false))].toArray⟩
noncomputable def q136 (t:Nat→Str) (u:Nat→String) (b:List Stmt) (P:Params):Obj:=⟨(.type (u 9)),none,(.fields [(.ref 82)].toArray),[].toArray⟩
noncomputable def q153 (t:Nat→Str) (u:Nat→String) (b:List Stmt) (P:Params):Obj:=⟨(.type (u 7)),none,(.seq [.none,(.str (t 70) 404),(.str (t 70) 405),(.bool true)].toArray 0),[].toArray⟩
noncomputable def q159 (t:Nat→Str) (u:Nat→String) (b:List Stmt) (P:Params):Obj:=⟨(.type (u 3)),none,(.fields [(.str (t 5) 406),(.str (t 239) 407),(.str (t 226) 408),(.int (145) 0),(.int (5) 0),(.int (0) 0),(.int (0) 0),(.int (3) 0),(.ref 154),(.bool true),(.int (181) 0),(.ref 155),.none,(.ref 156),(.ref 157),(.ref 158),(.int (414) 0),(.int (145) 0),(.str (t 226) 415)].toArray),[].toArray⟩
noncomputable def q160 (t:Nat→Str) (u:Nat→String) (b:List Stmt) (P:Params):Obj:=⟨(.type (u 4)),none,(.func { name:=(t 5),qualname:=(t 239),params:=fnP (sb2 b 5 1),body:=.stmts (fnB (sb2 b 5 1)),scope:=fnS (sb2 b 5 1),globals:=3,closure:=[],defaults:=(.ref 153),kwdefaults:=.none,doc:=(.str (fnDoc (sb2 b 5 1)) 416),pyModule:=(.str (t 3) 194),annotations:=none,code:=(.ref 159),closureTuple:=.none,builtins:=0 }),[].toArray⟩
noncomputable def q166 (t:Nat→Str) (u:Nat→String) (b:List Stmt) (P:Params):Obj:=⟨(.type (u 3)),none,(.fields [(.str (t 72) 418),(.str (t 240) 419),(.str (t 226) 420),(.int (173) 0),(.int (3) 0),(.int (0) 0),(.int (0) 0),(.int (3) 0),(.ref 161),(.bool true),(.int (181) 0),(.ref 162),.none,(.ref 163),(.ref 164),(.ref 165),(.int (424) 0),(.int (173) 0),(.str (t 226) 425)].toArray),[].toArray⟩
noncomputable def q167 (t:Nat→Str) (u:Nat→String) (b:List Stmt) (P:Params):Obj:=⟨(.type (u 4)),none,(.func { name:=(t 72),qualname:=(t 240),params:=fnP (sb2 b 5 2),body:=.stmts (fnB (sb2 b 5 2)),scope:=fnS (sb2 b 5 2),globals:=3,closure:=[],defaults:=.none,kwdefaults:=.none,doc:=(.str (fnDoc (sb2 b 5 2)) 426),pyModule:=(.str (t 3) 194),annotations:=none,code:=(.ref 166),closureTuple:=.none,builtins:=0 }),[].toArray⟩
noncomputable def q173 (t:Nat→Str) (u:Nat→String) (b:List Stmt) (P:Params):Obj:=⟨(.type (u 3)),none,(.fields [(.str (t 74) 428),(.str (t 241) 429),(.str (t 226) 430),(.int (184) 0),(.int (2) 0),(.int (0) 0),(.int (0) 0),(.int (3) 0),(.ref 168),(.bool true),(.int (181) 0),(.ref 169),.none,(.ref 170),(.ref 171),(.ref 172),(.int (433) 0),(.int (184) 0),(.str (t 226) 434)].toArray),[].toArray⟩
noncomputable def q174 (t:Nat→Str) (u:Nat→String) (b:List Stmt) (P:Params):Obj:=⟨(.type (u 4)),none,(.func { name:=(t 74),qualname:=(t 241),params:=fnP (sb2 b 5 3),body:=.stmts (fnB (sb2 b 5 3)),scope:=fnS (sb2 b 5 3),globals:=3,closure:=[],defaults:=.none,kwdefaults:=.none,doc:=(.str (fnDoc (sb2 b 5 3)) 435),pyModule:=(.str (t 3) 194),annotations:=none,code:=(.ref 173),closureTuple:=.none,builtins:=0 }),[].toArray⟩
noncomputable def q180 (t:Nat→Str) (u:Nat→String) (b:List Stmt) (P:Params):Obj:=⟨(.type (u 3)),none,(.fields [(.str (t 75) 437),(.str (t 242) 438),(.str (t 226) 439),(.int (209) 0),(.int (2) 0),(.int (0) 0),(.int (0) 0),(.int (3) 0),(.ref 175),(.bool true),(.int (181) 0),(.ref 176),.none,(.ref 177),(.ref 178),(.ref 179),(.int (442) 0),(.int (209) 0),(.str (t 226) 443)].toArray),[].toArray⟩
noncomputable def q181 (t:Nat→Str) (u:Nat→String) (b:List Stmt) (P:Params):Obj:=⟨(.type (u 4)),none,(.func { name:=(t 75),qualname:=(t 242),params:=fnP (sb2 b 5 4),body:=.stmts (fnB (sb2 b 5 4)),scope:=fnS (sb2 b 5 4),globals:=3,closure:=[],defaults:=.none,kwdefaults:=.none,doc:=(.str (fnDoc (sb2 b 5 4)) 444),pyModule:=(.str (t 3) 194),annotations:=none,code:=(.ref 180),closureTuple:=.none,builtins:=0 }),[].toArray⟩
noncomputable def q187 (t:Nat→Str) (u:Nat→String) (b:List Stmt) (P:Params):Obj:=⟨(.type (u 3)),none,(.fields [(.str (t 82) 446),(.str (t 243) 447),(.str (t 226) 448),(.int (236) 0),(.int (1) 0),(.int (0) 0),(.int (0) 0),(.int (3) 0),(.ref 182),(.bool true),(.int (181) 0),(.ref 183),.none,(.ref 184),(.ref 185),(.ref 186),(.int (461) 0),(.int (236) 0),(.str (t 226) 462)].toArray),[].toArray⟩
noncomputable def q188 (t:Nat→Str) (u:Nat→String) (b:List Stmt) (P:Params):Obj:=⟨(.type (u 4)),none,(.func { name:=(t 82),qualname:=(t 243),params:=fnP (sb2 b 5 5),body:=.stmts (fnB (sb2 b 5 5)),scope:=fnS (sb2 b 5 5),globals:=3,closure:=[],defaults:=.none,kwdefaults:=.none,doc:=.none,pyModule:=(.str (t 3) 194),annotations:=none,code:=(.ref 187),closureTuple:=.none,builtins:=0 }),[].toArray⟩
noncomputable def q189 (t:Nat→Str) (u:Nat→String) (b:List Stmt) (P:Params):Obj:=⟨(.type (u 7)),none,(.seq [(.int (0) 464),.none,(.int (0) 465),.none].toArray 0),[].toArray⟩
noncomputable def q195 (t:Nat→Str) (u:Nat→String) (b:List Stmt) (P:Params):Obj:=⟨(.type (u 3)),none,(.fields [(.str (t 101) 466),(.str (t 244) 467),(.str (t 226) 468),(.int (260) 0),(.int (5) 0),(.int (0) 0),(.int (0) 0),(.int (3) 0),(.ref 190),(.bool true),(.int (181) 0),(.ref 191),.none,(.ref 192),(.ref 193),(.ref 194),(.int (488) 0),(.int (260) 0),(.str (t 226) 489)].toArray),[].toArray⟩
noncomputable def q196 (t:Nat→Str) (u:Nat→String) (b:List Stmt) (P:Params):Obj:=⟨(.type (u 4)),none,(.func { name:=(t 101),qualname:=(t 244),params:=fnP (sb2 b 5 6),body:=.stmts (fnB (sb2 b 5 6)),scope:=fnS (sb2 b 5 6),globals:=3,closure:=[],defaults:=(.ref 189),kwdefaults:=.none,doc:=(.str (fnDoc (sb2 b 5 6)) 490),pyModule:=(.str (t 3) 194),annotations:=none,code:=(.ref 195),closureTuple:=.none,builtins:=0 }),[].toArray⟩
noncomputable def q202 (t:Nat→Str) (u:Nat→String) (b:List Stmt) (P:Params):Obj:=⟨(.type (u 3)),none,(.fields [(.str (t 119) 492),(.str (t 245) 493),(.str (t 226) 494),(.int (335) 0),(.int (1) 0),(.int (0) 0),(.int (0) 0),(.int (3) 0),(.ref 197),(.bool true),(.int (181) 0),(.ref 198),.none,(.ref 199),(.ref 200),(.ref 201),(.int (515) 0),(.int (335) 0),(.str (t 226) 516)].toArray),[].toArray⟩
noncomputable def q203 (t:Nat→Str) (u:Nat→String) (b:List Stmt) (P:Params):Obj:=⟨(.type (u 4)),none,(.func { name:=(t 119),qualname:=(t 245),params:=fnP (sb2 b 5 7),body:=.stmts (fnB (sb2 b 5 7)),scope:=fnS (sb2 b 5 7),globals:=3,closure:=[],defaults:=.none,kwdefaults:=.none,doc:=(.str (fnDoc (sb2 b 5 7)) 517),pyModule:=(.str (t 3) 194),annotations:=none,code:=(.ref 202),closureTuple:=.none,builtins:=0 }),[].toArray⟩
noncomputable def q241 (t:Nat→Str) (u:Nat→String) (b:List Stmt) (P:Params):Obj:=⟨(.type (u 0)),none,(.dict [⟨PyData.keyHash P (t 236),(.str (t 236) 396),(.str (t 3) 194)⟩,⟨PyData.keyHash P (t 237),(.str (t 237) 400),(.int (70) 399)⟩,⟨PyData.keyHash P (t 9),(.str (t 9) 402),(.str (cbDoc b 5) 401)⟩,⟨PyData.keyHash P (t 5),(.str (t 5) 417),(.ref 160)⟩,⟨PyData.keyHash P (t 72),(.str (t 72) 427),(.ref 167)⟩,⟨PyData.keyHash P (t 74),(.str (t 74) 436),(.ref 174)⟩,⟨PyData.keyHash P (t 75),(.str (t 75) 445),(.ref 181)⟩,⟨PyData.keyHash P (t 81),(.str (t 81) 463),(.ref 188)⟩,⟨PyData.keyHash P (t 101),(.str (t 101) 491),(.ref 196)⟩,⟨PyData.keyHash P (t 119),(.str (t 119) 518),(.ref 203)⟩,⟨PyData.keyHash P (t 133),(.str (t 133) 525),(.ref 210)⟩,⟨PyData.keyHash P (t 134),(.str (t 134) 534),(.ref 218)⟩,⟨PyData.keyHash P (t 135),(.str (t 135) 543),(.ref 225)⟩,⟨PyData.keyHash P (t 140),(.str (t 140) 550),(.ref 232)⟩,⟨PyData.keyHash P (t 141),(.str (t 141) 557),(.ref 239)⟩,⟨PyData.keyHash P (t 238),(.str (t 238) 568),(.ref 240)⟩,⟨PyData.keyHash P (t 246),(.str (t 246) 570),(.ref 243)⟩,⟨PyData.keyHash P (t 247),(.str (t 247) 572),(.ref 244)⟩].toArray 3),[].toArray⟩
noncomputable def q242 (t:Nat→Str) (u:Nat→String) (b:List Stmt) (P:Params):Obj:=⟨(.type (u 6)),none,(.cls { name:=(t 66),bases:=[(.type (u 8))],mro:=[(.ref 242),(.type (u 8))],ns:=241,qualname:=(t 66),hasDict:=true,slotNames:=[],subclasses:=[],abstract:=false,collection:=none,hasDel:=false }),[none,none,(some (.str (t 66) 389)),(some (.str (t 66) 397)),(some (.builtin (u 10))),(some (.bool true))].toArray⟩
noncomputable def q296 (t:Nat→Str) (u:Nat→String) (b:List Stmt) (P:Params):Obj:=⟨(.type (u 7)),none,(.seq [.none,.none].toArray 0),[].toArray⟩
noncomputable def q300 (t:Nat→Str) (u:Nat→String) (b:List Stmt) (P:Params):Obj:=⟨(.type (u 3)),none,(.fields [(.str (t 5) 654),(.str (t 248) 655),(.str (t 226) 656),(.int (489) 0),(.int (3) 0),(.int (0) 0),(.int (0) 0),(.int (3) 0),(.ref 297),(.bool true),(.int (181) 0),(.ref 298),.none,.none,.none,(.ref 299),(.int (657) 0),(.int (489) 0),(.str (t 226) 658)].toArray),[].toArray⟩
noncomputable def q301 (t:Nat→Str) (u:Nat→String) (b:List Stmt) (P:Params):Obj:=⟨(.type (u 4)),none,(.func { name:=(t 5),qualname:=(t 248),params:=fnP (sb2 b 15 0),body:=.stmts (fnB (sb2 b 15 0)),scope:=fnS (sb2 b 15 0),globals:=3,closure:=[],defaults:=(.ref 296),kwdefaults:=.none,doc:=.none,pyModule:=(.str (t 180) 640),annotations:=none,code:=(.ref 300),closureTuple:=.none,builtins:=0 }),[].toArray⟩
noncomputable def q307 (t:Nat→Str) (u:Nat→String) (b:List Stmt) (P:Params):Obj:=⟨(.type (u 3)),none,(.fields [(.str (t 190) 660),(.str (t 249) 661),(.str (t 226) 662),(.int (494) 0),(.int (3) 0),(.int (0) 0),(.int (0) 0),(.int (3) 0),(.ref 302),(.bool true),(.int (181) 0),(.ref 303),.none,(.ref 304),(.ref 305),(.ref 306),(.int (668) 0),(.int (494) 0),(.str (t 226) 669)].toArray),[].toArray⟩
noncomputable def q308 (t:Nat→Str) (u:Nat→String) (b:List Stmt) (P:Params):Obj:=⟨(.type (u 4)),none,(.func { name:=(t 190),qualname:=(t 249),params:=fnP (sb2 b 15 1),body:=.stmts (fnB (sb2 b 15 1)),scope:=fnS (sb2 b 15 1),globals:=3,closure:=[],defaults:=.none,kwdefaults:=.none,doc:=.none,pyModule:=(.str (t 180) 640),annotations:=none,code:=(.ref 307),closureTuple:=.none,builtins:=0 }),[].toArray⟩
noncomputable def q310 (t:Nat→Str) (u:Nat→String) (b:List Stmt) (P:Params):Obj:=⟨(.type (u 0)),none,(.dict [⟨PyData.keyHash P (t 236),(.str (t 236) 649),(.str (t 180) 640)⟩,⟨PyData.keyHash P (t 237),(.str (t 237) 653),(.int (487) 652)⟩,⟨PyData.keyHash P (t 5),(.str (t 5) 659),(.ref 301)⟩,⟨PyData.keyHash P (t 190),(.str (t 190) 670),(.ref 308)⟩,⟨PyData.keyHash P (t 238),(.str (t 238) 674),(.ref 309)⟩,⟨PyData.keyHash P (t 246),(.str (t 246) 676),(.ref 312)⟩,⟨PyData.keyHash P (t 247),(.str (t 247) 678),(.ref 313)⟩,⟨PyData.keyHash P (t 9),(.str (t 9) 679),.none⟩].toArray 4),[].toArray⟩
noncomputable def q311 (t:Nat→Str) (u:Nat→String) (b:List Stmt) (P:Params):Obj:=⟨(.type (u 6)),none,(.cls { name:=(t 181),bases:=[(.type (u 8))],mro:=[(.ref 311),(.type (u 8))],ns:=310,qualname:=(t 181),hasDict:=true,slotNames:=[],subclasses:=[],abstract:=false,collection:=none,hasDel:=false }),[none,none,(some (.str (t 181) 642)),(some (.str (t 181) 650)),(some (.builtin (u 10))),(some (.bool true))].toArray⟩
noncomputable def q317 (t:Nat→Str) (u:Nat→String) (b:List Stmt) (P:Params):Obj:=⟨.none,none,(.fields [].toArray),[].toArray⟩
noncomputable def q318 (t:Nat→Str) (u:Nat→String) (b:List Stmt) (P:Params):Obj:=⟨(.type (u 7)),none,(.seq [(.str (t 197) 687),(.str (t 198) 688)].toArray 0),[].toArray⟩
noncomputable def q319 (t:Nat→Str) (u:Nat→String) (b:List Stmt) (P:Params):Obj:=⟨(.type (u 7)),none,(.seq [(.str (t 197) 689),(.str (t 198) 690)].toArray 0),[].toArray⟩
noncomputable def q320 (t:Nat→Str) (u:Nat→String) (b:List Stmt) (P:Params):Obj:=⟨.none,none,(.func { name:=(t 196),qualname:=(t 196),params:=fnP (b[17]?),body:=.stmts (fnB (b[17]?)),scope:=fnS (b[17]?),globals:=0,closure:=[],defaults:=.none,kwdefaults:=.none,doc:=.none,pyModule:=.none,annotations:=none,code:=.none,closureTuple:=.none,builtins:=0 }),[].toArray⟩
noncomputable def q321 (t:Nat→Str) (u:Nat→String) (b:List Stmt) (P:Params):Obj:=⟨(.type (u 3)),none,(.fields [(.str (t 196) 684),(.str (t 196) 685),(.str (t 226) 686),(.int (514) 0),(.int (2) 0),(.int (0) 0),(.int (0) 0),(.int (3) 0),(.ref 316),(.bool true),(.int (181) 0),(.ref 317),.none,(.ref 318),(.ref 319),(.ref 320),(.int (691) 0),(.int (514) 0),(.str (t 226) 692)].toArray),[].toArray⟩
noncomputable def q322 (t:Nat→Str) (u:Nat→String) (b:List Stmt) (P:Params):Obj:=⟨(.type (u 4)),none,(.func { name:=(t 196),qualname:=(t 196),params:=fnP (b[17]?),body:=.stmts (fnB (b[17]?)),scope:=fnS (b[17]?),globals:=3,closure:=[],defaults:=.none,kwdefaults:=.none,doc:=.none,pyModule:=(.str (t 195) 682),annotations:=none,code:=(.ref 321),closureTuple:=.none,builtins:=0 }),[].toArray⟩
noncomputable def q326 (t:Nat→Str) (u:Nat→String) (b:List Stmt) (P:Params):Obj:=⟨(.type (u 3)),none,(.fields [(.str (t 202) 694),(.str (t 202) 695),(.str (t 226) 696),(.int (516) 0),(.int (1) 0),(.int (0) 0),(.int (0) 0),(.int (3) 0),(.ref 323),(.bool true),(.int (181) 0),(.ref 324),.none,.none,.none,(.ref 325),(.int (697) 0),(.int (516) 0),(.str (t 226) 698)].toArray),[].toArray⟩
noncomputable def q327 (t:Nat→Str) (u:Nat→String) (b:List Stmt) (P:Params):Obj:=⟨(.type (u 4)),none,(.func { name:=(t 202),qualname:=(t 202),params:=fnP (b[18]?),body:=.stmts (fnB (b[18]?)),scope:=fnS (b[18]?),globals:=3,closure:=[],defaults:=.none,kwdefaults:=.none,doc:=.none,pyModule:=(.str (t 195) 682),annotations:=none,code:=(.ref 326),closureTuple:=.none,builtins:=0 }),[].toArray⟩
noncomputable def q331 (t:Nat→Str) (u:Nat→String) (b:List Stmt) (P:Params):Obj:=⟨(.type (u 3)),none,(.fields [(.str (t 204) 700),(.str (t 204) 701),(.str (t 226) 702),(.int (518) 0),(.int (1) 0),(.int (0) 0),(.int (0) 0),(.int (3) 0),(.ref 328),(.bool true),(.int (181) 0),(.ref 329),.none,.none,.none,(.ref 330),(.int (703) 0),(.int (518) 0),(.str (t 226) 704)].toArray),[].toArray⟩
noncomputable def q332 (t:Nat→Str) (u:Nat→String) (b:List Stmt) (P:Params):Obj:=⟨(.type (u 4)),none,(.func { name:=(t 204),qualname:=(t 204),params:=fnP (b[19]?),body:=.stmts (fnB (b[19]?)),scope:=fnS (b[19]?),globals:=3,closure:=[],defaults:=.none,kwdefaults:=.none,doc:=.none,pyModule:=(.str (t 195) 682),annotations:=none,code:=(.ref 331),closureTuple:=.none,builtins:=0 }),[].toArray⟩
noncomputable def q338 (t:Nat→Str) (u:Nat→String) (b:List Stmt) (P:Params):Obj:=⟨(.type (u 3)),none,(.fields [(.str (t 207) 706),(.str (t 207) 707),(.str (t 226) 708),(.int (524) 0),(.int (4) 0),(.int (0) 0),(.int (0) 0),(.int (3) 0),(.ref 333),(.bool true),(.int (181) 0),(.ref 334),.none,(.ref 335),(.ref 336),(.ref 337),(.int (723) 0),(.int (524) 0),(.str (t 226) 724)].toArray),[].toArray⟩
noncomputable def q339 (t:Nat→Str) (u:Nat→String) (b:List Stmt) (P:Params):Obj:=⟨(.type (u 4)),none,(.func { name:=(t 207),qualname:=(t 207),params:=fnP (b[20]?),body:=.stmts (fnB (b[20]?)),scope:=fnS (b[20]?),globals:=3,closure:=[],defaults:=.none,kwdefaults:=.none,doc:=.none,pyModule:=(.str (t 195) 682),annotations:=none,code:=(.ref 338),closureTuple:=.none,builtins:=0 }),[].toArray⟩
noncomputable def q345 (t:Nat→Str) (u:Nat→String) (b:List Stmt) (P:Params):Obj:=⟨(.type (u 3)),none,(.fields [(.str (t 213) 726),(.str (t 213) 727),(.str (t 226) 728),(.int (539) 0),(.int (4) 0),(.int (0) 0),(.int (0) 0),(.int (3) 0),(.ref 340),(.bool true),(.int (181) 0),(.ref 341),.none,(.ref 342),(.ref 343),(.ref 344),(.int (737) 0),(.int (539) 0),(.str (t 226) 738)].toArray),[].toArray⟩
noncomputable def q346 (t:Nat→Str) (u:Nat→String) (b:List Stmt) (P:Params):Obj:=⟨(.type (u 4)),none,(.func { name:=(t 213),qualname:=(t 213),params:=fnP (b[21]?),body:=.stmts (fnB (b[21]?)),scope:=fnS (b[21]?),globals:=3,closure:=[],defaults:=.none,kwdefaults:=.none,doc:=.none,pyModule:=(.str (t 195) 682),annotations:=none,code:=(.ref 345),closureTuple:=.none,builtins:=0 }),[].toArray⟩
noncomputable def q352 (t:Nat→Str) (u:Nat→String) (b:List Stmt) (P:Params):Obj:=⟨(.type (u 3)),none,(.fields [(.str (t 215) 740),(.str (t 215) 741),(.str (t 226) 742),(.int (545) 0),(.int (3) 0),(.int (0) 0),(.int (0) 0),(.int (3) 0),(.ref 347),(.bool true),(.int (181) 0),(.ref 348),.none,(.ref 349),(.ref 350),(.ref 351),(.int (750) 0),(.int (545) 0),(.str (t 226) 751)].toArray),[].toArray⟩
noncomputable def q353 (t:Nat→Str) (u:Nat→String) (b:List Stmt) (P:Params):Obj:=⟨(.type (u 4)),none,(.func { name:=(t 215),qualname:=(t 215),params:=fnP (b[22]?),body:=.stmts (fnB (b[22]?)),scope:=fnS (b[22]?),globals:=3,closure:=[],defaults:=.none,kwdefaults:=.none,doc:=.none,pyModule:=(.str (t 195) 682),annotations:=none,code:=(.ref 352),closureTuple:=.none,builtins:=0 }),[].toArray⟩
noncomputable def q357 (t:Nat→Str) (u:Nat→String) (b:List Stmt) (P:Params):Obj:=⟨(.type (u 3)),none,(.fields [(.str (t 217) 753),(.str (t 217) 754),(.str (t 226) 755),(.int (553) 0),(.int (1) 0),(.int (0) 0),(.int (0) 0),(.int (3) 0),(.ref 354),(.bool true),(.int (181) 0),(.ref 355),.none,.none,.none,(.ref 356),(.int (756) 0),(.int (553) 0),(.str (t 226) 757)].toArray),[].toArray⟩
noncomputable def q358 (t:Nat→Str) (u:Nat→String) (b:List Stmt) (P:Params):Obj:=⟨(.type (u 4)),none,(.func { name:=(t 217),qualname:=(t 217),params:=fnP (b[23]?),body:=.stmts (fnB (b[23]?)),scope:=fnS (b[23]?),globals:=3,closure:=[],defaults:=.none,kwdefaults:=.none,doc:=.none,pyModule:=(.str (t 195) 682),annotations:=none,code:=(.ref 357),closureTuple:=.none,builtins:=0 }),[].toArray⟩
noncomputable def o2 (P:Params):Obj:=q2 tabA tabS pw.main.body P
noncomputable def o3 (P:Params):Obj:=q3 tabA tabS pw.main.body P
noncomputable def o4 (P:Params):Obj:=q4 tabA tabS pw.main.body P
noncomputable def o81 (P:Params):Obj:=q81 tabA tabS pw.main.body P
noncomputable def o82 (P:Params):Obj:=q82 tabA tabS pw.main.body P
noncomputable def o88 (P:Params):Obj:=q88 tabA tabS pw.main.body P
noncomputable def o89 (P:Params):Obj:=q89 tabA tabS pw.main.body P
noncomputable def o91 (P:Params):Obj:=q91 tabA tabS pw.main.body P
noncomputable def o134 (P:Params):Obj:=q134 tabA tabS pw.main.body P
noncomputable def o135 (P:Params):Obj:=q135 tabA tabS pw.main.body P
noncomputable def o136 (P:Params):Obj:=q136 tabA tabS pw.main.body P
noncomputable def o153 (P:Params):Obj:=q153 tabA tabS pw.main.body P
noncomputable def o159 (P:Params):Obj:=q159 tabA tabS pw.main.body P
noncomputable def o160 (P:Params):Obj:=q160 tabA tabS pw.main.body P
noncomputable def o166 (P:Params):Obj:=q166 tabA tabS pw.main.body P
noncomputable def o167 (P:Params):Obj:=q167 tabA tabS pw.main.body P
noncomputable def o173 (P:Params):Obj:=q173 tabA tabS pw.main.body P
noncomputable def o174 (P:Params):Obj:=q174 tabA tabS pw.main.body P
noncomputable def o180 (P:Params):Obj:=q180 tabA tabS pw.main.body P
noncomputable def o181 (P:Params):Obj:=q181 tabA tabS pw.main.body P
noncomputable def o187 (P:Params):Obj:=q187 tabA tabS pw.main.body P
noncomputable def o188 (P:Params):Obj:=q188 tabA tabS pw.main.body P
noncomputable def o189 (P:Params):Obj:=q189 tabA tabS pw.main.body P
noncomputable def o195 (P:Params):Obj:=q195 tabA tabS pw.main.body P
noncomputable def o196 (P:Params):Obj:=q196 tabA tabS pw.main.body P
noncomputable def o202 (P:Params):Obj:=q202 tabA tabS pw.main.body P
noncomputable def o203 (P:Params):Obj:=q203 tabA tabS pw.main.body P
noncomputable def o241 (P:Params):Obj:=q241 tabA tabS pw.main.body P
noncomputable def o242 (P:Params):Obj:=q242 tabA tabS pw.main.body P
noncomputable def o296 (P:Params):Obj:=q296 tabA tabS pw.main.body P
noncomputable def o300 (P:Params):Obj:=q300 tabA tabS pw.main.body P
noncomputable def o301 (P:Params):Obj:=q301 tabA tabS pw.main.body P
noncomputable def o307 (P:Params):Obj:=q307 tabA tabS pw.main.body P
noncomputable def o308 (P:Params):Obj:=q308 tabA tabS pw.main.body P
noncomputable def o310 (P:Params):Obj:=q310 tabA tabS pw.main.body P
noncomputable def o311 (P:Params):Obj:=q311 tabA tabS pw.main.body P
noncomputable def o317 (P:Params):Obj:=q317 tabA tabS pw.main.body P
noncomputable def o318 (P:Params):Obj:=q318 tabA tabS pw.main.body P
noncomputable def o319 (P:Params):Obj:=q319 tabA tabS pw.main.body P
noncomputable def o320 (P:Params):Obj:=q320 tabA tabS pw.main.body P
noncomputable def o321 (P:Params):Obj:=q321 tabA tabS pw.main.body P
noncomputable def o322 (P:Params):Obj:=q322 tabA tabS pw.main.body P
noncomputable def o326 (P:Params):Obj:=q326 tabA tabS pw.main.body P
noncomputable def o327 (P:Params):Obj:=q327 tabA tabS pw.main.body P
noncomputable def o331 (P:Params):Obj:=q331 tabA tabS pw.main.body P
noncomputable def o332 (P:Params):Obj:=q332 tabA tabS pw.main.body P
noncomputable def o338 (P:Params):Obj:=q338 tabA tabS pw.main.body P
noncomputable def o339 (P:Params):Obj:=q339 tabA tabS pw.main.body P
noncomputable def o345 (P:Params):Obj:=q345 tabA tabS pw.main.body P
noncomputable def o346 (P:Params):Obj:=q346 tabA tabS pw.main.body P
noncomputable def o352 (P:Params):Obj:=q352 tabA tabS pw.main.body P
noncomputable def o353 (P:Params):Obj:=q353 tabA tabS pw.main.body P
noncomputable def o357 (P:Params):Obj:=q357 tabA tabS pw.main.body P
noncomputable def o358 (P:Params):Obj:=q358 tabA tabS pw.main.body P
noncomputable def K00 (t:Nat→Str) (u:Nat→String) (b:List Stmt) (P:Params):List (Nat×Obj):=[(2,q2 t u b P),(3,q3 t u b P),(4,q4 t u b P),(81,q81 t u b P),(82,q82 t u b P),(88,q88 t u b P),(89,q89 t u b P),(91,q91 t u b P),(134,q134 t u b P),(135,q135 t u b P),(136,q136 t u b P),(153,q153 t u b P),(159,q159 t u b P),(160,q160 t u b P),(166,q166 t u b P),(167,q167 t u b P),(173,q173 t u b P),(174,q174 t u b P),(180,q180 t u b P),(181,q181 t u b P),(187,q187 t u b P),(188,q188 t u b P),(189,q189 t u b P),(195,q195 t u b P),(196,q196 t u b P),(202,q202 t u b P),(203,q203 t u b P),(241,q241 t u b P),(242,q242 t u b P),(296,q296 t u b P),(300,q300 t u b P),(301,q301 t u b P),(307,q307 t u b P),(308,q308 t u b P),(310,q310 t u b P),(311,q311 t u b P),(317,q317 t u b P),(318,q318 t u b P),(319,q319 t u b P),(320,q320 t u b P),(321,q321 t u b P),(322,q322 t u b P),(326,q326 t u b P),(327,q327 t u b P),(331,q331 t u b P),(332,q332 t u b P),(338,q338 t u b P),(339,q339 t u b P),(345,q345 t u b P),(346,q346 t u b P),(352,q352 t u b P),(353,q353 t u b P),(357,q357 t u b P),(358,q358 t u b P)]
noncomputable def K0 (P:Params):List (Nat×Obj):=K00 tabA tabS pw.main.body P
noncomputable def kAddrs:List Addr:=[2,3,4,81,82,88,89,91,134,135,136,153,159,160,166,167,173,174,180,181,187,188,189,195,196,202,203,241,242,296,300,301,307,308,310,311,317,318,319,320,321,322,326,327,331,332,338,339,345,346,352,353,357,358]
noncomputable def PF (t:Nat→Str):Program:=letI p:Program:=_;haveI:(∀ p∈SL.zipIdx,Str.ofString p.1=t p.2)→pw=p:=fun h=>(by(delta SL at h);(simp only [List.zipIdx_cons,List.zipIdx_nil,List.forall_mem_cons,Nat.zero_add,Nat.reduceAdd]at h);delta pw PySem.Challenge.pw_ij0190_01;(refine Eq.trans ?_ (Eq.refl _));rotate_left;(conv=>lhs;simp only [h]));p
theorem pw_PF:PySem.Challenge.pw_ij0190_01=PF tabA:=by kernel_rfl
theorem pw_twin:PySem.Challenge.pw_ij0190_01=PF tabB:=pw_PF.trans (congrArg PF tabs_eq)
noncomputable def prep.tw13521590690718186463:Program:=PF tabB
theorem prep.te13521590690718186463:PySem.Challenge.pw_ij0190_01=prep.tw13521590690718186463:=pw_twin
noncomputable def prep.tw944731043466594361:Nat→Str:=tabB
theorem prep.te944731043466594361:tabA=prep.tw944731043466594361:=tabs_eq
noncomputable def qv:Program:=view pw [23]
noncomputable def loose:List Str:=["_wall","_tuplegetter","Match","_calculate_ratio","SequenceMatcher","sep","_kind","_c_path","_shelf_fresh","_splitroot","_normpath","normpath","_Ignore","_law_asker","_law_unlike","_law_junk","_law_best","_law_blocks","_law_due"]
noncomputable def RUNf (b:Builtin) (w:World) (os:OsState):=
 (topRunT (tabOf b) pw w 11 (some (.ref 6)) 2900 (startT w os) (topStub pw)).map fun s=>
  ((staticsOk (importedModules pw.main.body) (boot_heap w.params) s.abs.heap && namesBound pw s.abs.heap && gensDone s.abs && laidKept (boot_heap w.params) s.abs.heap),
   openSeen qv loose (importedModules pw.main.body) (fun _=>true) true s.abs,obsZ kAddrs s.abs)
noncomputable def K (P:Params):Frag:=K0 P
noncomputable def EXPf (w:World):=some (true,openGood qv loose,((K0 w.params).map fun p=>some p.2,359,759))
set_option maxHeartbeats 0 in
theorem prep:(Function.const _ true RUNf && Function.const _ true EXPf)=true:=by k_qdec
set_option maxHeartbeats 0 in
theorem run_ok (w:World) (os:OsState):RUNf Builtin.«type.__new__» w os=EXPf w:=by
 rw [prep.te18249494720553354210,prep.te1110630439260589023,PySem.W.Fast.te4202317264376624991]
 delta PySem.W.Fast.tw4202317264376624991
 rw [any_eq]
 kernel_rfl
end Mine
end
section
open PySem PySem.W PySem.W.X PyProof.Rows
set_option maxRecDepth 100000
namespace Mine
theorem op1:opening pw=plainProg pw.main.scope.names:=by kernel_rfl
theorem fm1 (s:Shared):fenceModules? pw s=some s:=by kernel_rfl
theorem size_ok:∀ w:World,((boot_heap w.params).isNs mainGlobals && (#[]:Array GenState).size == 0,(boot_heap w.params).objs.size,(boot_heap w.params).nsMap mainGlobals "__annotations__")=(true,11,some (.ref 6)):=by
 intro w
 kernel_rfl
theorem open_ok (w:World):(fencedOpening treeTable pw w 2900).map (fun s=>(s.heap,s.gens,s.drawn,s.toks))=some (boot_heap w.params,Array.mk [],boot_drawn,boot_toks):=boot_open (p:=pw) (N:=2900) op1 (by decide) fm1 w
theorem ran (w:World) (os:OsState):∃ s':Shared,topRun treeTable pw w 11 (some (.ref 6)) 2900 ⟨boot_heap w.params,#[],boot_drawn,boot_toks,os⟩ (topStub pw)=some s'∧
  (staticsOk (importedModules pw.main.body) (boot_heap w.params) s'.heap && namesBound pw s'.heap && gensDone s' && laidKept (boot_heap w.params) s'.heap)=true∧
  openSeen qv loose (importedModules pw.main.body) (fun _=>true) true s'=openGood qv loose∧obsZ kAddrs s'=valZ K 359 759 w:=by
 have r:=run_ok w os
 unfold RUNf EXPf at r
 obtain⟨s',r1,r2⟩:=Option.map_eq_some_iff.mp r
 have r3:=topRun_of r1
 rw [←tab_eq,startT_abs]at r3
 injection r2 with l1 r4
 injection r4 with l2 l3
 exact⟨s'.abs,r3,l1,l2,l3⟩
theorem left_of {p q:Program}{loose:List Str}{Xt:Shared→Bool}{α:Type}{Yf:Shared→α}{Ya:World→α}{N m₀:Nat}{ann:Option Value}{H₀:Params→Heap}{d₀:Drawn}{k₀:Nat}
  (open_:∀ w:World,(fencedOpening treeTable p w N).map (fun s=>(s.heap,s.gens,s.drawn,s.toks))=some (H₀ w.params,#[],d₀,k₀))
  (size:∀ w:World,((H₀ w.params).isNs mainGlobals && (#[]:Array GenState).size == 0,(H₀ w.params).objs.size,(H₀ w.params).nsMap mainGlobals "__annotations__")=(true,m₀,ann))
  (ran:∀ (w:World) (os:OsState),∃ s':Shared,topRun treeTable p w m₀ ann N ⟨H₀ w.params,#[],d₀,k₀,os⟩ (topStub p)=some s'∧
   (staticsOk (importedModules p.main.body) (H₀ w.params) s'.heap && namesBound p s'.heap && gensDone s' && laidKept (H₀ w.params) s'.heap)=true∧
   openSeen q loose (importedModules p.main.body) Xt true s'=openGood q loose∧Yf s'=Ya w):LeftO p q loose Xt Yf Ya N true:=fun w=>by
 obtain⟨⟨h,gs,d,k,os⟩,e,e'⟩:=Option.map_eq_some_iff.mp (open_ w)
 obtain⟨rfl,rfl,rfl,rfl⟩:h=H₀ w.params∧gs=#[]∧d=d₀∧k=k₀:=by simpa using e'
 obtain⟨z1,z2,z3⟩:_∧_∧_:=by simpa only [Prod.mk.injEq] using size w
 obtain⟨s',r3,l1,l2,l3⟩:=ran w os
 have t:topFrom treeTable p w N ⟨H₀ w.params,#[],d,k,os⟩=some s':=by
  unfold topFrom
  dsimp only
  rw [z1,z2,z3,r3]
  show(match staticsOk (importedModules p.main.body) (H₀ w.params) s'.heap && namesBound p s'.heap && gensDone s' && laidKept (H₀ w.params) s'.heap with | true=>_ | false=>_)=_
  rw [l1]
 unfold openEnds
 rw [e]
 show(topFrom treeTable p w N _).map _=_
 rw [t]
 exact congrArg some (Prod.ext l2 l3)
theorem left:LeftO pw qv loose (fun _=>true) (obsZ kAddrs) (valZ K 359 759) 2900 true:=left_of open_ok size_ok ran
theorem kAddrs_eq:∀ P,kAddrs=(K P).map (·.1):=fun P=>by kernel_rfl
end Mine
end
section
open PySem PySem.W PySem.W.X PyProof.Rows
set_option maxRecDepth 100000
namespace Mine
noncomputable def LawOk:Prop:=∀ (w:World) (s:Shared) (mg mb:Str→Option Value) (mean:ExcName→Option Value) (ns:List Int) (vs:List Value),(K w.params).In s.heap→
 Top qv (looseW qv loose) mean mg mb s.heap→s.heap.objs.size=360→s.gens=#[]→s.heap.IsList 359 vs.toArray→IntsAre vs ns→(PyData.list (ns.map PyData.int)).layable0=true→ns.length≤63→
 wpAny (model pw w) callerA (PySem.call (.ref 358) [.ref 359]) (fun v s'=>v=.bool true∧OldK s.heap s'.heap∧s'.os=s.os∧s'.gens=#[]) (fun _ _=>False) s
noncomputable def hold_if.tw13521590690718186463:Program:=PF tabB
theorem hold_if.te13521590690718186463:PySem.Challenge.pw_ij0190_01=hold_if.tw13521590690718186463:=pw_twin
set_option maxHeartbeats 0 in
theorem hold_if (h:LawOk):PySem.Challenge.rw_ij0190_01.Holds:=by
 w_on;o_law
 refine holds_openX (q:=qv) (loose:=loose) (Xt:=fun _=>true) (XP:=fun _ _=>True) (Yf:=obsZ kAddrs) (Ya:=valZ K 359 759) (N:=2900) ?hl (fun _ _=>trivial) (fun _ _ _ _ _=>trivial) (by rfl) (by rfl) (by rfl) (fun s _=>recFacts_nil rfl) (by rfl) (by assumption) (by decide +kernel) ⟨rfl,rfl,rfl,rfl,rfl,by decide +kernel⟩ ?hw ?hc
 case hl=>exact left
 case hw=>w_witness2
 intro w s₀ s₁ mg mb G y fa o pm cd doc dV kV ho hd hcd hD hmg hg args vals as L hpre hlay hrd hwl hlo
 clear hd hD
 obtain⟨ZA,ZI,ZN,ZT⟩:=z_facts kAddrs_eq y
 have ZK:=InK.keeps (K:=K) w s₀.heap s₁.heap ZI L.keeps
 refine Ground.open G ?_
 intro T B D TE TW
 wrow_args hpre hlay hrd hwl hlo
 obtain⟨hat,hsz⟩:=script_at L
 have htk:=script_toks L ZT
 rw [ZN]at hat hsz
 subst hat
 have hfa:mg (Str.ofString "law")=some (.ref fa):=hmg
 clear B D TE TW G hcd ho hmg y
 obtain rfl:fa=358:=by
  have:=hfa.symm.trans (mg_of (K:=K w.params) ZK T.g (n:=Str.ofString "law") (v:=.ref 358) (by kernel_rfl))
  simpa using this
 refine wpAny_mono (h w s₁ mg mb _ _ _ ZK T hsz hg (by assumption) (by assumption) (by assumption) (by lia)) ?_ (fun _ _ x=>x.elim)
 rintro v s' ⟨rfl,hold,hos,hge⟩
 exact⟨.inl ⟨_,_,[],rfl,fun _=>rfl,ReadsW.bool true,by first | kernel_rfl | wrow_post,fun _=>⟨List.nodup_nil,fun _ hm=>(nomatch hm)⟩⟩,hold,hos,hge ▸ AllBare.empty⟩
end Mine
end
section
open PySem
set_option linter.unusedVariables false
set_option genSizeOf false
set_option backward.match.sparseCases false
namespace Mine
inductive AV where
 | none | bool (b:Bool) | int (i:Int) | str (s:Str) | loc (n:Nat) | cst (v:Value)
 deriving DecidableEq
set_option genInjectivity false
inductive LK where
 | dict (es:List (AV×AV)) | set (xs:List Str)
inductive AO where
 | list (xs:List AV) | tup (c:Value) (xs:List AV) | dict (es:List (AV×AV)) | locked (k:LK) | set (xs:List Str)
 | inst (c:Addr) (d:Nat) | fields (fs:List (Str×AV)) | bm (id:String) (self:Nat) | cell (v:Option AV)
 | clos (cells:List (Nat×Nat)) (k:Nat) | code | fix (o:Obj) (xs:List AV) | range (a b:Int) | keys (d:Nat) | tab (fresh:Bool)
noncomputable abbrev Sto:=List AO
noncomputable abbrev Rho:=Nat→Option AV
set_option genCtorIdx false in
inductive E where
 | bad | none | bool (b:Bool) | int (i:Int) | str (s:Str) | var (x:Nat) | cvar (x:Nat) | glob (v:AV)
 | bin (op:Operator) (l r:E) | cmp (op:CmpOp) (l r:E) | bop (op:BoolOp) (es:List E) | not (e:E) | neg (e:E) | ite (t a b:E)
 | attr (e:E) (n:Str) | item (e i:E) | slice (e:E) (lo hi st:List E)
 | call (f:E) (args:List E) | meth (o:E) (n:Str) (args:List E) | mkAll (e:E)
 | list (es:List E) | tuple (es:List E) | dict0 | dict1 (a:Str) (b:Int)
 | comp (cap:List (Nat×Nat)) (elt:E) (gens:List E) | gen (t it:E) (ifs:List E)
set_option genCtorIdx false in
inductive S where
 | bad | doc | expr (e:E) | assign (ts:List E) (e:E) | assignC (i:Nat) (e:E) | tupAssign (rev:Bool) (xs:List Nat) (es:List E) | aug (x:Nat) (e:E)
 | ite (t:E) (a b:List S) | while (t:E) (b:List S) | for (t:E) (it:E) (b:List S) | forRange (t a c:E) (b:List S) | forEnum (ts:List E) (it:E) (b:List S) | delAll (x s d:Nat)
 | ret (e:E) | ret0 | cont | brk
inductive Fl where
 | next | brk | cont | ret (v:AV)
structure Fun where
 params:Nat
 cells:List Nat
 defaults:List AV
 arity:Nat
 body:List S
noncomputable def globs:List (Str×AV):=[("Match",.cst (.ref 135)),("SequenceMatcher",.cst (.ref 242)),("_Ignore",.cst (.ref 311)),("_law_asker",.cst (.ref 322)),("_law_unlike",.cst (.ref 327)),
 ("_law_junk",.cst (.ref 332)),("_law_best",.cst (.ref 339)),("_law_blocks",.cst (.ref 346)),("_law_due",.cst (.ref 353)),("sep",.str "/"),
 ("len",.cst (.builtin "len")),("range",.cst (.type "range")),("set",.cst (.type "set")),("tuple",.cst (.type "tuple")),("enumerate",.cst (.type "enumerate")),("list",.cst (.type "list")),("map",.cst (.type "map"))]
noncomputable def idx (sc:Scope) (x:Str):Option (Nat×NameKind):=go 0 sc.names
where
 go:Nat→List (Str×NameKind)→Option (Nat×NameKind)
  | _,[]=>none
  | n,(y,k) :: r=>if y == x then some (n,k)else go (n+1) r
noncomputable def capOf (outer inner:Scope):List (Nat×Nat):=inner.names.zipIdx.filterMap fun((x,k),i)=>if k == .free then (idx outer x).map fun(j,_)=>(i,j)else none
noncomputable def compOk (sc sc2:Scope) (gens:List Comprehension):Bool:=
 sc2.kind == .function && sc2.names.all (fun p=>p.2 != .cell) && decide ((sc2.names.map (·.1)).Nodup) &&
  sc2.names.all (fun p=>p.2 != .free || (match idx sc p.1 with | some (_,.cell)=>true | some (_,.free)=>true | _=>false)) && gens.all (fun g=>g.is_async == 0)
noncomputable def isGl:Option (Nat×NameKind)→Bool
 | some (_,.globalImplicit)=>true
 | _=>false
noncomputable def fieldNames:List Str:=["isjunk","a","b","autojunk","b2j","bjunk","bpopular","matching_blocks","opcodes","fullbcount","_mods","_dirs","_ignore"]
noncomputable def notComp:Expr→Bool
 | .ListComp .. | .SetComp .. | .DictComp ..=>false
 | _=>true
noncomputable def baseOk:Expr→Bool
 | .Call ..=>false
 | _=>true
noncomputable def okName (x:Str):Bool:=x != "__debug__" && x != "__classdict__"
noncomputable def plainE:Expr→Bool
 | .Constant ..=>true | .Name ..=>true | .BinOp ..=>true | .Compare ..=>true | .BoolOp ..=>true | .UnaryOp ..=>true | .IfExp ..=>true | .Attribute ..=>true | .Subscript ..=>true | .Call ..=>true
 | .List ..=>true | .Tuple ..=>true | .Dict ..=>true | .ListComp ..=>true | .Lambda ..=>true | _=>false
noncomputable def plainT:Expr→Bool
 | .UnaryOp .Not .. | .BoolOp .. | .IfExp .. | .Compare ..=>false
 | _=>true
noncomputable def all2 {β γ:Type} (f:β→γ→Bool):List β→List γ→Bool
 | [],[]=>true
 | x :: xs,y :: ys=>f x y && all2 f xs ys
 | _,_=>false
noncomputable def dEnv (sc:Scope):Env:={ scope:=sc,locals:=0,globals:=0,cells:=[] }
noncomputable def pureOf {β:Type} (m:Sem β):Option β:=match m with
 | .pure a=>some a
 | _=>none
noncomputable def isPure {β:Type} (m:Sem β) (f:β→Bool):Bool:=match pureOf m with
 | some a=>f a
 | none=>false
noncomputable def notAttr:Expr→Bool
 | .Attribute ..=>false
 | _=>true
structure EI where
 ks:List Expr
 nm:Str
 k:Nat
 gs:List Comprehension
 sc:Scope
 p:Pos
noncomputable def dE:Expr:=.Constant .none 0 ⟨0,0,0,0⟩
noncomputable def strC (c:Const):Str:=match c with
 | .str s=>s
 | _=>""
noncomputable def ei (e:Expr):EI:=match e with
 | .BoolOp _ vs p=>⟨vs,"",0,[],noScope,p⟩
 | .BinOp l _ r p=>⟨[l,r],"",0,[],noScope,p⟩
 | .UnaryOp _ x p=>⟨[x],"",0,[],noScope,p⟩
 | .IfExp t a b p=>⟨[t,a,b],"",0,[],noScope,p⟩
 | .Dict ks vs p=>⟨(ks.filterMap id)++vs,"",0,[],noScope,p⟩
 | .ListComp x gs sc p=>⟨[x],"",0,gs,sc,p⟩
 | .Compare l _ rs p=>⟨l :: rs,"",0,[],noScope,p⟩
 | .Call g as _ p=>⟨g :: as,"",0,[],noScope,p⟩
 | .Constant c k p=>⟨[],strC c,k,[],noScope,p⟩
 | .Attribute o n p=>⟨[o],n,0,[],noScope,p⟩
 | .Subscript o i p=>⟨[o,i],"",0,[],noScope,p⟩
 | .Name x p=>⟨[],x,0,[],noScope,p⟩
 | .List es p=>⟨es,"",0,[],noScope,p⟩
 | .Tuple es k p=>⟨es,"",k,[],noScope,p⟩
 | .Lambda _ b sc p=>⟨[b],"",0,[],sc,p⟩
 | .Slice a b c p=>⟨[a.getD dE,b.getD dE,c.getD dE],"",0,[],noScope,p⟩
 | _=>⟨[],"",0,[],noScope,⟨0,0,0,0⟩⟩
noncomputable def k0 (x:Expr):Expr:=(ei x).ks.headD dE
noncomputable def k1 (x:Expr):Expr:=(ei x).ks.tail.headD dE
noncomputable def k2 (x:Expr):Expr:=(ei x).ks.tail.tail.headD dE
noncomputable def zipE {β γ:Type} (d:γ) (F:β→γ→γ):List β→List γ→List γ
 | [],_=>[]
 | E :: Es,xs=>F E (xs.headD d) :: zipE d F Es xs.tail
noncomputable def allZ {β γ:Type} (d:γ) (F:β→γ→Bool):List β→List γ→Bool
 | [],_=>true
 | E :: Es,xs=>F E (xs.headD d) && allZ d F Es xs.tail
noncomputable def dC:Comprehension:=⟨dE,dE,[],0⟩
noncomputable def zipC (F:E→Expr→Expr) (G:E) (g:Comprehension):Comprehension:=match G with
 | .gen t it ifs=>⟨F t g.target,F it g.iter,zipE dE F ifs g.ifs,0⟩
 | _=>g
noncomputable def partE (F:E→Expr→Expr) (e:List E) (x:Expr):Option Expr:=match e with
 | []=>none
 | e :: _=>some (F e x)
noncomputable def embE (F:E→Expr→Expr) (e:E) (x:Expr):Expr:=match e with
 | .bad=>x
 | .none=>.Constant .none (ei x).k (ei x).p
 | .bool b=>.Constant (.bool b) (ei x).k (ei x).p
 | .int i=>.Constant (.int i) (ei x).k (ei x).p
 | .str s=>.Constant (.str s) (ei x).k (ei x).p
 | .var _=>.Name (ei x).nm (ei x).p
 | .cvar _=>.Name (ei x).nm (ei x).p
 | .glob _=>.Name (ei x).nm (ei x).p
 | .bin op l r=>.BinOp (F l (k0 x)) op (F r (k1 x)) (ei x).p
 | .cmp op l r=>.Compare (F l (k0 x)) [op] [F r (k1 x)] (ei x).p
 | .bop op es=>.BoolOp op (zipE dE F es (ei x).ks) (ei x).p
 | .not e=>.UnaryOp .Not (F e (k0 x)) (ei x).p
 | .neg e=>.UnaryOp .USub (F e (k0 x)) (ei x).p
 | .ite t a b=>.IfExp (F t (k0 x)) (F a (k1 x)) (F b (k2 x)) (ei x).p
 | .attr o n=>.Attribute (F o (k0 x)) n (ei x).p
 | .item o i=>.Subscript (F o (k0 x)) (F i (k1 x)) (ei x).p
 | .slice o a b c=>.Subscript (F o (k0 x)) (.Slice (partE F a (k0 (k1 x))) (partE F b (k1 (k1 x))) (partE F c (k2 (k1 x))) (ei (k1 x)).p) (ei x).p
 | .call g as=>.Call (F g (k0 x)) (zipE dE F as (ei x).ks.tail) [] (ei x).p
 | .meth o n as=>.Call (.Attribute (F o (k0 (k0 x))) n (ei (k0 x)).p) (zipE dE F as (ei x).ks.tail) [] (ei x).p
 | .mkAll e=>.Call (.Name "list" (ei (k0 x)).p) [.Call (.Name "map" (ei (k0 (k1 x))).p) [.Attribute (.Name "Match" (ei (k0 (k1 (k1 x)))).p) "_make" (ei (k1 (k1 x))).p,F e (k2 (k1 x))] [] (ei (k1 x)).p] [] (ei x).p
 | .list es=>.List (zipE dE F es (ei x).ks) (ei x).p
 | .tuple es=>.Tuple (zipE dE F es (ei x).ks) (ei x).k (ei x).p
 | .dict0=>.Dict [] [] (ei x).p
 | .dict1 a b=>.Dict [some (.Constant (.str a) (ei (k0 x)).k (ei (k0 x)).p)] [.Constant (.int b) (ei (k1 x)).k (ei (k1 x)).p] (ei x).p
 | .comp _ elt gens=>.ListComp (F elt (k0 x)) (zipE dC (zipC F) gens (ei x).gs) (ei x).sc (ei x).p
 | .gen ..=>dE
noncomputable def emE:Nat→E→Expr→Expr
 | 0=>fun _ x=>x
 | k+1=>embE (emE k)
structure Ok where
 e:Scope→E→Expr→Bool
 g:Scope→E→Expr→Bool
noncomputable def partOk (C:Ok) (sc:Scope) (e:List E) (x:Expr):Bool:=match e with
 | []=>true
 | e :: _=>C.e sc e x
noncomputable def okGens (C:Ok) (sc2:Scope):Scope→List E→List Comprehension→Bool
 | _,[],_=>true
 | sc,.gen t it ifs :: Gs,gs=>C.g sc2 t (gs.headD dC).target && (C.e sc it (gs.headD dC).iter && (allZ dE (C.e sc2) ifs (gs.headD dC).ifs && okGens C sc2 sc2 Gs gs.tail))
 | _,_,_=>false
noncomputable def okE1 (F:E→Expr→Expr) (C:Ok) (sc:Scope) (e:E) (x:Expr):Bool:=match e with
 | .bad=>plainE x
 | .var i=>okName (ei x).nm && decide (idx sc (ei x).nm=some (i,.local))
 | .cvar i=>okName (ei x).nm && (decide (idx sc (ei x).nm=some (i,.cell)) || decide (idx sc (ei x).nm=some (i,.free)))
 | .glob v=>okName (ei x).nm && (isGl (idx sc (ei x).nm) && decide (globs.lookup (ei x).nm=some v))
 | .bin _ l r=>C.e sc l (k0 x) && C.e sc r (k1 x)
 | .cmp _ l r=>C.e sc l (k0 x) && C.e sc r (k1 x)
 | .bop _ es=>allZ dE (C.e sc) es (ei x).ks
 | .not e=>C.e sc e (k0 x)
 | .neg e=>C.e sc e (k0 x)
 | .ite t a b=>C.e sc t (k0 x) && (C.e sc a (k1 x) && C.e sc b (k2 x))
 | .attr o _=>baseOk (F o (k0 x)) && C.e sc o (k0 x)
 | .item o i=>C.e sc o (k0 x) && C.e sc i (k1 x)
 | .slice o a b c=>C.e sc o (k0 x) && (partOk C sc a (k0 (k1 x)) && (partOk C sc b (k1 (k1 x)) && partOk C sc c (k2 (k1 x))))
 | .call g as=>notAttr (F g (k0 x)) && (C.e sc g (k0 x) && allZ dE (C.e sc) as (ei x).ks.tail)
 | .meth o _ as=>baseOk (F o (k0 (k0 x))) && ((ei (k0 x)).p.endLine == (ei x).p.line && (decide (as.length<20) && (C.e sc o (k0 (k0 x)) && allZ dE (C.e sc) as (ei x).ks.tail)))
 | .mkAll e=>isGl (idx sc "list") && (isGl (idx sc "map") && (isGl (idx sc "Match") && C.e sc e (k2 (k1 x))))
 | .list es=>allZ dE (C.e sc) es (ei x).ks
 | .tuple es=>allZ dE (C.e sc) es (ei x).ks
 | .comp cap elt gens=>compOk sc (ei x).sc (zipE dC (zipC F) gens (ei x).gs) && (decide (cap=capOf sc (ei x).sc) && (okGens C (ei x).sc sc gens (ei x).gs && C.e (ei x).sc elt (k0 x)))
 | .gen ..=>false
 | _=>true
noncomputable def okG1 (C:Ok) (sc:Scope) (e:E) (x:Expr):Bool:=match e with
 | .var i=>decide (idx sc (ei x).nm=some (i,.local))
 | .cvar i=>decide (idx sc (ei x).nm=some (i,.cell))
 | .attr o _=>C.e sc o (k0 x)
 | .item o i=>C.e sc o (k0 x) && C.e sc i (k1 x)
 | .tuple es=>allZ dE (C.g sc) es (ei x).ks
 | _=>false
noncomputable def ok:Nat→Ok
 | 0=>⟨fun _ _ _=>false,fun _ _ _=>false⟩
 | k+1=>⟨okE1 (emE k) (ok k),okG1 (ok k)⟩
structure SI where
 ts:List Expr
 e:Expr
 a:List Stmt
 b:List Stmt
 p:Pos
noncomputable def si (s:Stmt):SI:=match s with
 | .Expr e p=>⟨[],e,[],[],p⟩
 | .Assign ts e p=>⟨ts,e,[],[],p⟩
 | .AugAssign t _ e p=>⟨[t],e,[],[],p⟩
 | .If t a b p=>⟨[],t,a,b,p⟩
 | .While t a b p=>⟨[],t,a,b,p⟩
 | .For t i a b p=>⟨[t],i,a,b,p⟩
 | .Delete ts p=>⟨ts,dE,[],[],p⟩
 | .Return e p=>⟨[],e.getD dE,[],[],p⟩
 | .Continue p=>⟨[],dE,[],[],p⟩
 | .Break p=>⟨[],dE,[],[],p⟩
 | _=>⟨[],dE,[],[],⟨0,0,0,0⟩⟩
noncomputable def dS:Stmt:=.Pass ⟨0,0,0,0⟩
noncomputable def t0 (s:Stmt):Expr:=(si s).ts.headD dE
noncomputable def embS (F:E→Expr→Expr) (G:S→Stmt→Stmt) (c:S) (s:Stmt):Stmt:=match c with
 | .bad=>s
 | .doc=>.Expr (.Constant (.str (ei (si s).e).nm) (ei (si s).e).k (ei (si s).e).p) (si s).p
 | .expr e=>.Expr (F e (si s).e) (si s).p
 | .assign ts e=>.Assign (zipE dE F ts (si s).ts) (F e (si s).e) (si s).p
 | .assignC _ e=>.Assign [.Name (ei (t0 s)).nm (ei (t0 s)).p] (F e (si s).e) (si s).p
 | .tupAssign _ xs es=>.Assign [.Tuple (zipE dE F (xs.map .var) (ei (t0 s)).ks) (ei (t0 s)).k (ei (t0 s)).p] (.Tuple (zipE dE F es (ei (si s).e).ks) (ei (si s).e).k (ei (si s).e).p) (si s).p
 | .aug _ e=>.AugAssign (.Name (ei (t0 s)).nm (ei (t0 s)).p) .Add (F e (si s).e) (si s).p
 | .ite t a b=>.If (F t (si s).e) (zipE dS G a (si s).a) (zipE dS G b (si s).b) (si s).p
 | .while t b=>.While (F t (si s).e) (zipE dS G b (si s).a) [] (si s).p
 | .for t it b=>.For (F t (t0 s)) (F it (si s).e) (zipE dS G b (si s).a) [] (si s).p
 | .forRange t a c b=>.For (F t (t0 s)) (.Call (.Name "range" (ei (k0 (si s).e)).p) [F a (k1 (si s).e),F c (k2 (si s).e)] [] (ei (si s).e).p) (zipE dS G b (si s).a) [] (si s).p
 | .forEnum ts it b=>.For (.Tuple (zipE dE F ts (ei (t0 s)).ks) (ei (t0 s)).k (ei (t0 s)).p) (.Call (.Name "enumerate" (ei (k0 (si s).e)).p) [F it (k1 (si s).e)] [] (ei (si s).e).p) (zipE dS G b (si s).a) [] (si s).p
 | .delAll _ _ _=>.For (.Name (ei (t0 s)).nm (ei (t0 s)).p) (.Name (ei (si s).e).nm (ei (si s).e).p) [.Delete [.Subscript (.Name (ei (k0 (t0 ((si s).a.headD dS)))).nm (ei (k0 (t0 ((si s).a.headD dS)))).p) (.Name (ei (t0 s)).nm (ei (k1 (t0 ((si s).a.headD dS)))).p) (ei (t0 ((si s).a.headD dS))).p] (si ((si s).a.headD dS)).p] [] (si s).p
 | .ret e=>.Return (some (F e (si s).e)) (si s).p
 | .ret0=>.Return none (si s).p
 | .cont=>.Continue (si s).p
 | .brk=>.Break (si s).p
noncomputable def emS:Nat→S→Stmt→Stmt
 | 0=>fun _ s=>s
 | k+1=>embS (emE 40) (emS k)
noncomputable def okS1 (C:Scope→S→Stmt→Bool) (sc:Scope) (c:S) (s:Stmt):Bool:=match c with
 | .expr e=>isPure (swapsWith (emE 40 e (si s).e) none (si s).p.line (dEnv sc)) (!·) && (ok 40).e sc e (si s).e
 | .assign ts e=>isPure (swapsWithSole (zipE dE (emE 40) ts (si s).ts) (emE 40 e (si s).e) (si s).p.line (dEnv sc)) (!·) && (isPure (swappedStores (zipE dE (emE 40) ts (si s).ts) (emE 40 e (si s).e) (dEnv sc)) (·.isNone) && (allZ dE ((ok 40).g sc) ts (si s).ts && (ok 40).e sc e (si s).e))
 | .assignC i e=>isPure (swapsWith (emE 40 e (si s).e) (some (.Name (ei (t0 s)).nm (ei (t0 s)).p)) (si s).p.line (dEnv sc)) id && (decide (idx sc (ei (t0 s)).nm=some (i,.local)) && (ok 40).e sc e (si s).e)
 | .tupAssign rev xs es=>isPure (swappedStores [.Tuple (zipE dE (emE 40) (xs.map .var) (ei (t0 s)).ks) (ei (t0 s)).k (ei (t0 s)).p] (.Tuple (zipE dE (emE 40) es (ei (si s).e).ks) (ei (si s).e).k (ei (si s).e).p) (dEnv sc)) (fun o=>match o with
   | none=>!rev
   | some ns=>rev && decide (ns.map (idx sc)=xs.map fun i=>some (i,.local))) && (allZ dE ((ok 40).g sc) (xs.map .var) (ei (t0 s)).ks && allZ dE ((ok 40).e sc) es (ei (si s).e).ks)
 | .aug i e=>decide (idx sc (ei (t0 s)).nm=some (i,.local)) && (ok 40).e sc e (si s).e
 | .ite t a b=>(ok 40).e sc t (si s).e && (allZ dS (C sc) a (si s).a && allZ dS (C sc) b (si s).b)
 | .while t b=>(ok 40).e sc t (si s).e && allZ dS (C sc) b (si s).a
 | .for t it b=>(ok 40).g sc t (t0 s) && ((ok 40).e sc it (si s).e && allZ dS (C sc) b (si s).a)
 | .forRange t a c b=>isGl (idx sc "range") && ((ok 40).g sc t (t0 s) && ((ok 40).e sc a (k1 (si s).e) && ((ok 40).e sc c (k2 (si s).e) && allZ dS (C sc) b (si s).a)))
 | .forEnum ts it b=>isGl (idx sc "enumerate") && (allZ dE ((ok 40).g sc) ts (ei (t0 s)).ks && ((ok 40).e sc it (k1 (si s).e) && allZ dS (C sc) b (si s).a))
 | .delAll x i d=>okName (ei (t0 s)).nm && (okName (ei (si s).e).nm && (okName (ei (k0 (t0 ((si s).a.headD dS)))).nm && (decide (idx sc (ei (t0 s)).nm=some (x,.local)) && (decide (idx sc (ei (si s).e).nm=some (i,.local)) && (decide (idx sc (ei (k0 (t0 ((si s).a.headD dS)))).nm=some (d,.local)) && decide (x≠d))))))
 | .ret e=>(ok 40).e sc e (si s).e
 | _=>true
noncomputable def okS:Nat→Scope→S→Stmt→Bool
 | 0=>fun _ _ _=>false
 | k+1=>okS1 (okS k)
noncomputable def upd (ρ:Rho) (x:Nat) (v:AV):Rho:=fun y=>if y=x then some v else ρ y
noncomputable def setF (n:Str) (v:AV):List (Str×AV)→List (Str×AV)
 | []=>[(n,v)]
 | (m,u) :: r=>if m=n then (n,v) :: r else (m,u) :: setF n v r
noncomputable def asInt (a:AV):Option Int:=match a with | .int i=>some i | _=>none
noncomputable def isS (a:AV):Bool:=match a with | .str _=>true | _=>false
noncomputable def isI (a:AV):Bool:=match a with | .int _=>true | _=>false
noncomputable def allStr (xs:List AV):Bool:=xs.all isS
noncomputable def asStr (a:AV):Option Str:=match a with | .str i=>some i | _=>none
noncomputable def asLoc (a:AV):Option Nat:=match a with | .loc i=>some i | _=>none
noncomputable def asList (a:AO):Option (List AV):=match a with | .list i=>some i | _=>none
noncomputable def dput (k v:AV):List (AV×AV)→List (AV×AV)
 | []=>[(k,v)]
 | (m,u) :: r=>if m=k then (m,v) :: r else (m,u) :: dput k v r
noncomputable def truthO (x:AO):Option Bool:=match x with
 | .list xs=>if xs.length≤900 then some (!xs.isEmpty)else none
 | .clos _ _=>some true
 | _=>none
noncomputable def truth (σ:Sto) (v:AV):Option Bool:=match v with
 | .none=>some false
 | .bool b=>some b
 | .int i=>some (i != 0)
 | .str s=>if s.length≤900 then some ((s.length:Int) != 0)else none
 | .loc l=>(σ[l]?).bind truthO
 | .cst _=>none
noncomputable def allM (f:AV→AV→Option Bool):List AV→List AV→Option Bool
 | [],_=>some true
 | x :: xs,ys=>match ys with
  | []=>some true
  | y :: ys=>(f x y).bind fun b=>(allM f xs ys).bind fun c=>some (b && c)
noncomputable def int3 (xs:List AV):Option (Int×Int×Int):=match xs with
 | [a,b,c]=>(asInt a).bind fun a=>(asInt b).bind fun b=>(asInt c).bind fun c=>some (a,b,c)
 | _=>none
noncomputable def eqO (eq:AV→AV→Option Bool) (x y:AO):Option Bool:=match x with
 | .list xs=>match y with
  | .list ys=>if xs.length=ys.length then allM eq xs ys else some false
  | _=>none
 | .tup t xs=>match y with
  | .tup u ys=>if t=.ref 135∧u=.type "tuple" then (int3 xs).bind fun a=>(int3 ys).bind fun b=>some (decide (a.1=b.1) && (decide (a.2.1=b.2.1) && decide (a.2.2=b.2.2)))else none
  | _=>none
 | _=>none
noncomputable def eqv:Nat→Sto→AV→AV→Option Bool
 | 0,_,_,_=>none
 | n+1,σ,a,b=>match a with
  | .int i=>(asInt b).bind fun j=>some (decide (i=j))
  | .str s=>(asStr b).bind fun t=>some (decide (s=t))
  | .loc l=>(asLoc b).bind fun m=>(σ[l]?).bind fun x=>(σ[m]?).bind fun y=>eqO (eqv n σ) x y
  | _=>none
noncomputable def strK (es:List (AV×AV)):Bool:=es.all fun p=>isS p.1
noncomputable def intK (es:List (AV×AV)):Bool:=es.all fun p=>isI p.1
noncomputable def goodKey (k:AV) (es:List (AV×AV)):Bool:=match k with
 | .str _=>strK es
 | .int _=>intK es
 | _=>false
noncomputable def addV (a b:AV) (σ:Sto):Option (AV×Sto):=match a with
 | .int i=>(asInt b).bind fun j=>some (.int (i+j),σ)
 | .str s=>(asStr b).bind fun t=>if s.cps.size+t.cps.size≤900 then some (.str (s++t),σ)else none
 | .loc l=>(σ[l]?).bind fun x=>(asList x).bind fun xs=>(asLoc b).bind fun m=>(σ[m]?).bind fun y=>(asList y).bind fun ys=>if xs.length+ys.length≤900 then some (.loc σ.length,σ++[.list (xs++ys)])else none
 | _=>none
noncomputable def binop (op:Operator) (a b:AV) (σ:Sto):Option (AV×Sto):=match op with
 | .Add=>addV a b σ
 | .Sub=>(asInt a).bind fun i=>(asInt b).bind fun j=>some (.int (i - j),σ)
 | .Mod=>(asInt a).bind fun i=>(asInt b).bind fun j=>if 0<j∧j<100 then some (.int (i.fmod j),σ)else none
 | .FloorDiv=>(asInt a).bind fun i=>(asInt b).bind fun j=>if 0<j∧j<100 then some (.int (i.fdiv j),σ)else none
 | _=>none
noncomputable def cmpI (f:Int→Int→Bool) (a b:AV):Option Bool:=(asInt a).bind fun i=>(asInt b).bind fun j=>some (f i j)
noncomputable def isSm (σ:Sto) (a b:AV):Option Bool:=match b with
 | .none=>match a with
  | .none=>some true
  | .int _=>some false
  | .str _=>some false
  | .loc _=>some false
  | _=>none
 | .str _=>(asLoc a).bind fun _=>some false
 | .loc m=>(asLoc a).bind fun l=>(σ[l]?).bind fun x=>(asList x).bind fun _=>some (decide (l=m))
 | _=>none
noncomputable def isIn (σ:Sto) (a b:AV):Option Bool:=(asStr a).bind fun s=>(asLoc b).bind fun l=>(σ[l]?).bind fun x=>match x with
 | .list xs=>if allStr xs then some (xs.contains (.str s))else none
 | .set xs=>some (xs.contains s)
 | .dict es=>if goodKey (.str s) es then some ((es.map (·.1)).contains (.str s))else none
 | _=>none
noncomputable def cmpop (op:CmpOp) (a b:AV) (σ:Sto):Option Bool:=match op with
 | .Eq=>eqv 5 σ a b
 | .NotEq=>match a with
  | .int i=>(asInt b).bind fun j=>some (decide (i≠j))
  | .loc l=>(asLoc b).bind fun m=>(σ[l]?).bind fun x=>(asList x).bind fun xs=>(σ[m]?).bind fun y=>(asList y).bind fun ys=>if ys=[]then some (!xs.isEmpty)else none
  | _=>none
 | .Lt=>cmpI (fun i j=>decide (i<j)) a b
 | .LtE=>cmpI (fun i j=>decide (i≤j)) a b
 | .Gt=>cmpI (fun i j=>decide (j<i)) a b
 | .GtE=>cmpI (fun i j=>decide (j≤i)) a b
 | .Is=>isSm σ a b
 | .IsNot=>(isSm σ a b).map (!·)
 | .In=>isIn σ a b
 | .NotIn=>(isIn σ a b).map (!·)
noncomputable def at_ {α:Type} (xs:List α) (i:Int):Option α:=if xs.length≤900 then if 0≤i then xs[i.toNat]? else if 0≤i+xs.length then xs[(i+xs.length).toNat]? else none else none
inductive ItemR (σ:Sto):AV→AV→AV→Prop
 | list {l:Nat}{xs:List AV}{i:Int}{v:AV} (h:σ[l]? = some (.list xs)) (e:at_ xs i=some v):ItemR σ (.loc l) (.int i) v
 | tup {l:Nat}{xs:List AV}{i:Int}{v:AV} (h:σ[l]? = some (.tup (.type "tuple") xs)) (e:at_ xs i=some v):ItemR σ (.loc l) (.int i) v
 | dict {l:Nat}{es:List (AV×AV)}{s:Str}{v:AV} (h:σ[l]? = some (.dict es)) (g:strK es=true) (e:es.lookup (.str s)=some v):ItemR σ (.loc l) (.str s) v
 | str {s:Str}{i:Int}{c:Nat} (e:at_ s.cps.toList i=some c):ItemR σ (.str s) (.int i) (.str ⟨#[c]⟩)
inductive PartR:AV→Option Int→Prop
 | none:PartR .none none
 | int (i:Int):PartR (.int i) (some i)
noncomputable def pickL {α:Type} (xs:List α) (lo hi st:Option Int):List α:=
 (sliceRange (sliceBounds lo hi st xs.length).1 (sliceBounds lo hi st xs.length).2.1 (sliceBounds lo hi st xs.length).2.2).filterMap (xs[·]?)
noncomputable def pickS (x:Str) (lo hi st:Option Int):Str:=
 if (st.getD 1 == 1 && (PySem.Builtin.Str.strSliceIndices lo hi (st.getD 1) x.length).length == x.length)=true then x else ⟨((PySem.Builtin.Str.strSliceIndices lo hi (st.getD 1) x.length).filterMap (x.cps[·]?)).toArray⟩
inductive SliceR (σ:Sto) (lo hi st:Option Int):AV→AV→Sto→Prop
 | list {l:Nat}{xs:List AV} (h:σ[l]? = some (.list xs)) (z:xs.length≤900):SliceR σ lo hi st (.loc l) (.loc σ.length) (σ++[.list (pickL xs lo hi st)])
 | fix {l:Nat}{p:Obj}{xs:List AV} (h:σ[l]? = some (.fix p xs)) (z:xs.length≤900):SliceR σ lo hi st (.loc l) (.loc σ.length) (σ++[.list (pickL xs lo hi st)])
 | str {x:Str} (z:(pickS x lo hi st).length≤900):SliceR σ lo hi st (.str x) (.str (pickS x lo hi st)) σ
noncomputable def Slice (a x y z:AV) (σ:Sto) (v:AV) (σ':Sto):Prop:=∃ lo hi st,PartR x lo∧PartR y hi∧PartR z st∧st≠some 0∧SliceR σ lo hi st a v σ'
noncomputable def tlt (a b:Int×Int×Int):Bool:=if a.1=b.1 then (if a.2.1=b.2.1 then decide (a.2.2<b.2.2)else decide (a.2.1<b.2.1))else decide (a.1<b.1)
noncomputable def runT {β:Type} (f:Nat→Nat→Option Bool):PySem.W.KasT β→Option β
 | .ret a=>some a
 | .ask i j k=>(f i j).bind fun c=>runT f (k c)
noncomputable def askF (ts:List (Int×Int×Int)) (i j:Nat):Option Bool:=(ts[i]?).bind fun x=>(ts[j]?).map fun y=>tlt x y
noncomputable def sortT (ts:List (Int×Int×Int)):Option (List Nat):=if ts.length<2 then some (List.range ts.length)else (runT (askF ts) (PySem.W.kas_sort ts.length)).map Array.toList
noncomputable def smallR (a b:Int):Bool:=-900≤a && a≤900 && -900≤b && b≤900
inductive ItemsR (σ:Sto):AV→List (List AV)→Prop
 | list {l:Nat}{xs:List AV} (h:σ[l]? = some (.list xs)):ItemsR σ (.loc l) (xs.map fun x=>[x])
 | range {l:Nat}{a b:Int} (h:σ[l]? = some (.range a b)) (z:smallR a b=true):ItemsR σ (.loc l) ((List.range (b - a).toNat).map fun(i:Nat)=>[.int (a+(i:Int))])
inductive LockR (σ:Sto):AV→Nat→LK→List (List AV)→Prop
 | keys {l d:Nat}{es:List (AV×AV)} (h:σ[l]? = some (.keys d)) (k:σ[d]? = some (.dict es)) (g:strK es=true) (z:es.length≤900):LockR σ (.loc l) d (.dict es) (es.map fun e=>[e.1])
 | set {l:Nat}{xs:List Str} (h:σ[l]? = some (.set xs)) (z:xs.length≤1):LockR σ (.loc l) l (.set xs) (xs.map fun x=>[.str x])
noncomputable def lkO (k:LK):AO:=match k with | .dict es=>.dict es | .set xs=>.set xs
noncomputable def Locked (σ:Sto) (d:Nat):Prop:=∃ k,σ[d]? = some (.locked k)
noncomputable def Unlock (σ:Sto) (d:Nat) (σ':Sto):Prop:=∃ k,σ[d]? = some (.locked k)∧σ'=σ.set d (lkO k)
noncomputable def Same (σ:Sto) (v:AV) (σ':Sto):Prop:=∀ l xs,v=.loc l→σ[l]? = some (.list xs)→σ'[l]? = some (.list xs)
inductive ItemsE (σ:Sto):AV→List (List AV)→Prop
 | list {m:Nat}{xs:List AV} (h:σ[m]? = some (.list xs)):ItemsE σ (.loc m) (xs.zipIdx.map fun(x,i)=>[.int (i:Int),x])
 | str {s:Str} (h:s.cps.toList=[]):ItemsE σ (.str s) []
noncomputable def mtds:List (Addr×List (Str×Addr)):=[(242,[("__init__",160),("set_seqs",167),("set_seq1",174),("set_seq2",181),("_SequenceMatcher__chain_b",188),("find_longest_match",196),("get_matching_blocks",203)]),(311,[("__init__",301),("names",308)])]
inductive PutR (σ:Sto):AV→AV→AV→Sto→Prop
 | dict {l:Nat}{es:List (AV×AV)}{b v:AV} (h:σ[l]? = some (.dict es)) (z:es.length<900) (g:goodKey b es=true):PutR σ (.loc l) b v (σ.set l (.dict (dput b v es)))
 | list {l:Nat}{xs:List AV}{k:Int}{v:AV} (h:σ[l]? = some (.list xs)) (h0:k<0) (h1:0≤k+xs.length) (z:xs.length≤900):PutR σ (.loc l) (.int k) v (σ.set l (.list (xs.set (k+xs.length).toNat v)))
noncomputable def newCells (args:List AV):List Nat→(Nat→Option Nat)→Sto→(Nat→Option Nat)×Sto
 | [],f,σ=>(f,σ)
 | x :: r,f,σ=>newCells args r (fun y=>if y=x then some σ.length else f y) (σ++[.cell args[x]?])
noncomputable def IsM (σ:Sto) (v:AV):Prop:=∃ l xs,v=.loc l∧σ[l]? = some (.tup (.ref 135) xs)
end Mine
end
section
open PySem
set_option maxRecDepth 100000
set_option linter.unusedVariables false
namespace Mine
noncomputable def G82:Fun:={ params:=4,cells:=[],defaults:=[],arity:=4,body:=[.doc,.ret (.meth (.glob (.cst (.type "tuple"))) "__new__" [.var 0,.tuple [.var 1,.var 2,.var 3]])] }
noncomputable def G89:Fun:={ params:=2,cells:=[],defaults:=[],arity:=2,body:=[.doc,.assign [.var 2] (.meth (.glob (.cst (.type "tuple"))) "__new__" [.var 0,.var 1]),.ite (.cmp .NotEq (.call (.glob (.cst (.builtin "len"))) [.var 2]) (.int 3)) [.bad] [],.ret (.var 2)] }
noncomputable def G160:Fun:={ params:=5,cells:=[],defaults:=[.none,(.str ""),(.str ""),(.bool true)],arity:=2,body:=[.doc,.assign [.attr (.var 0) "isjunk"] (.var 1),.assign [.attr (.var 0) "a",.attr (.var 0) "b"] .none,.assign [.attr (.var 0) "autojunk"] (.var 4),.expr (.meth (.var 0) "set_seqs" [.var 2,.var 3])] }
noncomputable def G167:Fun:={ params:=3,cells:=[],defaults:=[],arity:=3,body:=[.doc,.expr (.meth (.var 0) "set_seq1" [.var 1]),.expr (.meth (.var 0) "set_seq2" [.var 2])] }
noncomputable def G174:Fun:={ params:=2,cells:=[],defaults:=[],arity:=2,body:=[.doc,.ite (.cmp .Is (.var 1) (.attr (.var 0) "a")) [.ret0] [],.assign [.attr (.var 0) "a"] (.var 1),.assign [.attr (.var 0) "matching_blocks",.attr (.var 0) "opcodes"] .none] }
noncomputable def G181:Fun:={ params:=2,cells:=[],defaults:=[],arity:=2,body:=[.doc,.ite (.cmp .Is (.var 1) (.attr (.var 0) "b")) [.ret0] [],.assign [.attr (.var 0) "b"] (.var 1),.assign [.attr (.var 0) "matching_blocks",.attr (.var 0) "opcodes"] .none,.assign [.attr (.var 0) "fullbcount"] .none,.expr (.meth (.var 0) "_SequenceMatcher__chain_b" [])] }
noncomputable def G188:Fun:={ params:=1,cells:=[],defaults:=[],arity:=1,body:=[.assign [.var 1] (.attr (.var 0) "b"),.assign [.attr (.var 0) "b2j",.var 2] .dict0,.forEnum [.var 3,.var 4] (.var 1) [.assign [.var 5] (.meth (.var 2) "setdefault" [.var 4,.list []]),.expr (.meth (.var 5) "append" [.var 3])],.assign [.attr (.var 0) "bjunk",.var 6] (.call (.glob (.cst (.type "set"))) []),.assign [.var 7] (.attr (.var 0) "isjunk"),.ite (.var 7) [.for (.var 4) (.meth (.var 2) "keys" []) [.ite (.call (.var 7) [.var 4]) [.expr (.meth (.var 6) "add" [.var 4])] []],.delAll 4 6 2] [],.assign [.attr (.var 0) "bpopular",.var 8] (.call (.glob (.cst (.type "set"))) []),.assign [.var 9] (.call (.glob (.cst (.builtin "len"))) [.var 1]),.ite (.bop .And [.attr (.var 0) "autojunk",.cmp .GtE (.var 9) (.int 200)]) [.bad,.bad,.bad] []] }
noncomputable def G196:Fun:={ params:=5,cells:=[],defaults:=[(.int 0),.none,(.int 0),.none],arity:=5,body:=[.doc,.tupAssign false [5,6,7,8] [.attr (.var 0) "a",.attr (.var 0) "b",.attr (.var 0) "b2j",.attr (.attr (.var 0) "bjunk") "__contains__"],.ite (.cmp .Is (.var 2) .none) [.assign [.var 2] (.call (.glob (.cst (.builtin "len"))) [.var 5])] [],.ite (.cmp .Is (.var 4) .none) [.assign [.var 4] (.call (.glob (.cst (.builtin "len"))) [.var 6])] [],.tupAssign true [9,10,11] [.var 1,.var 3,.int 0],.assign [.var 12] .dict0,.assign [.var 13] (.list []),.forRange (.var 14) (.var 1) (.var 2) [.assign [.var 15] (.attr (.var 12) "get"),.assign [.var 16] .dict0,.for (.var 17) (.meth (.var 7) "get" [.item (.var 5) (.var 14),.var 13]) [.ite (.cmp .Lt (.var 17) (.var 3)) [.cont] [],.ite (.cmp .GtE (.var 17) (.var 4)) [.brk] [],.assign [.var 18,.item (.var 16) (.var 17)] (.bin .Add (.call (.var 15) [.bin .Sub (.var 17) (.int 1),.int 0]) (.int 1)),.ite (.cmp .Gt (.var 18) (.var 11)) [.tupAssign true [9,10,11] [.bin .Add (.bin .Sub (.var 14) (.var 18)) (.int 1),.bin .Add (.bin .Sub (.var 17) (.var 18)) (.int 1),.var 18]] []],.assign [.var 12] (.var 16)],.while (.bop .And [.cmp .Gt (.var 9) (.var 1),.cmp .Gt (.var 10) (.var 3),.not (.call (.var 8) [.item (.var 6) (.bin .Sub (.var 10) (.int 1))]),.cmp .Eq (.item (.var 5) (.bin .Sub (.var 9) (.int 1))) (.item (.var 6) (.bin .Sub (.var 10) (.int 1)))]) [.tupAssign true [9,10,11] [.bin .Sub (.var 9) (.int 1),.bin .Sub (.var 10) (.int 1),.bin .Add (.var 11) (.int 1)]],.while (.bop .And [.cmp .Lt (.bin .Add (.var 9) (.var 11)) (.var 2),.cmp .Lt (.bin .Add (.var 10) (.var 11)) (.var 4),.not (.call (.var 8) [.item (.var 6) (.bin .Add (.var 10) (.var 11))]),.cmp .Eq (.item (.var 5) (.bin .Add (.var 9) (.var 11))) (.item (.var 6) (.bin .Add (.var 10) (.var 11)))]) [.aug 11 (.int 1)],.while (.bop .And [.cmp .Gt (.var 9) (.var 1),.cmp .Gt (.var 10) (.var 3),.call (.var 8) [.item (.var 6) (.bin .Sub (.var 10) (.int 1))],.cmp .Eq (.item (.var 5) (.bin .Sub (.var 9) (.int 1))) (.item (.var 6) (.bin .Sub (.var 10) (.int 1)))]) [.tupAssign true [9,10,11] [.bin .Sub (.var 9) (.int 1),.bin .Sub (.var 10) (.int 1),.bin .Add (.var 11) (.int 1)]],.while (.bop .And [.cmp .Lt (.bin .Add (.var 9) (.var 11)) (.var 2),.cmp .Lt (.bin .Add (.var 10) (.var 11)) (.var 4),.call (.var 8) [.item (.var 6) (.bin .Add (.var 10) (.var 11))],.cmp .Eq (.item (.var 5) (.bin .Add (.var 9) (.var 11))) (.item (.var 6) (.bin .Add (.var 10) (.var 11)))]) [.assign [.var 11] (.bin .Add (.var 11) (.int 1))],.ret (.call (.glob (.cst (.ref 135))) [.var 9,.var 10,.var 11])] }
noncomputable def G203:Fun:={ params:=1,cells:=[],defaults:=[],arity:=1,body:=[.doc,.ite (.cmp .IsNot (.attr (.var 0) "matching_blocks") .none) [.ret (.attr (.var 0) "matching_blocks")] [],.tupAssign true [1,2] [.call (.glob (.cst (.builtin "len"))) [.attr (.var 0) "a"],.call (.glob (.cst (.builtin "len"))) [.attr (.var 0) "b"]],.assign [.var 3] (.list [.tuple [.int 0,.var 1,.int 0,.var 2]]),.assign [.var 4] (.list []),.while (.var 3) [.assign [.tuple [.var 5,.var 6,.var 7,.var 8]] (.meth (.var 3) "pop" []),.assign [.tuple [.var 9,.var 10,.var 11],.var 12] (.meth (.var 0) "find_longest_match" [.var 5,.var 6,.var 7,.var 8]),.ite (.var 11) [.expr (.meth (.var 4) "append" [.var 12]),.ite (.bop .And [.cmp .Lt (.var 5) (.var 9),.cmp .Lt (.var 7) (.var 10)]) [.expr (.meth (.var 3) "append" [.tuple [.var 5,.var 9,.var 7,.var 10]])] [],.ite (.bop .And [.cmp .Lt (.bin .Add (.var 9) (.var 11)) (.var 6),.cmp .Lt (.bin .Add (.var 10) (.var 11)) (.var 8)]) [.expr (.meth (.var 3) "append" [.tuple [.bin .Add (.var 9) (.var 11),.var 6,.bin .Add (.var 10) (.var 11),.var 8]])] []] []],.expr (.meth (.var 4) "sort" []),.assign [.var 13,.var 14,.var 15] (.int 0),.assign [.var 16] (.list []),.for (.tuple [.var 17,.var 18,.var 19]) (.var 4) [.ite (.bop .And [.cmp .Eq (.bin .Add (.var 13) (.var 15)) (.var 17),.cmp .Eq (.bin .Add (.var 14) (.var 15)) (.var 18)]) [.aug 15 (.var 19)] [.ite (.var 15) [.expr (.meth (.var 16) "append" [.tuple [.var 13,.var 14,.var 15]])] [],.tupAssign true [13,14,15] [.var 17,.var 18,.var 19]]],.ite (.var 15) [.expr (.meth (.var 16) "append" [.tuple [.var 13,.var 14,.var 15]])] [],.expr (.meth (.var 16) "append" [.tuple [.var 1,.var 2,.int 0]]),.assign [.attr (.var 0) "matching_blocks"] (.mkAll (.var 16)),.ret (.attr (.var 0) "matching_blocks")] }
noncomputable def G301:Fun:={ params:=3,cells:=[],defaults:=[.none,.none],arity:=2,body:=[.assign [.attr (.var 0) "_mods"] (.ite (.not (.var 1)) (.call (.glob (.cst (.type "set"))) []) (.call (.glob (.cst (.type "set"))) [.var 1])),.assign [.attr (.var 0) "_dirs"] (.ite (.not (.var 2)) (.list []) .bad),.assign [.attr (.var 0) "_ignore"] (.dict1 "<string>" 1)] }
noncomputable def G308:Fun:={ params:=3,cells:=[],defaults:=[],arity:=3,body:=[.ite (.cmp .In (.var 2) (.attr (.var 0) "_ignore")) [.ret (.item (.attr (.var 0) "_ignore") (.var 2))] [],.ite (.cmp .In (.var 2) (.attr (.var 0) "_mods")) [.assign [.item (.attr (.var 0) "_ignore") (.var 2)] (.int 1),.ret (.int 1)] [],.for (.var 3) (.attr (.var 0) "_mods") [.ite (.meth (.var 2) "startswith" [.bin .Add (.var 3) (.str ".")]) [.assign [.item (.attr (.var 0) "_ignore") (.var 2)] (.int 1),.ret (.int 1)] []],.ite (.cmp .Is (.var 1) .none) [.assign [.item (.attr (.var 0) "_ignore") (.var 2)] (.int 1),.ret (.int 1)] [],.for (.var 4) (.attr (.var 0) "_dirs") [.ite (.meth (.var 1) "startswith" [.bin .Add (.var 4) (.glob (.str "/"))]) [.assign [.item (.attr (.var 0) "_ignore") (.var 2)] (.int 1),.ret (.int 1)] []],.assign [.item (.attr (.var 0) "_ignore") (.var 2)] (.int 0),.ret (.int 0)] }
noncomputable def G327:Fun:={ params:=1,cells:=[0],defaults:=[],arity:=1,body:=[.ret (.comp [(2,0)] (.item (.cvar 2) (.var 1)) [.gen (.var 1) (.call (.glob (.cst (.type "range"))) [.call (.glob (.cst (.builtin "len"))) [.cvar 0]]) [.cmp .NotIn (.item (.cvar 2) (.var 1)) (.slice (.cvar 2) [] [.var 1] [])]])] }
noncomputable def G332:Fun:={ params:=1,cells:=[1],defaults:=[],arity:=1,body:=[.assign [.cvar 1] .dict0,.for (.var 2) (.var 0) [.ite (.cmp .NotIn (.slice (.var 2) [] [.neg (.int 2)] []) (.cvar 1)) [.assign [.item (.cvar 1) (.slice (.var 2) [] [.neg (.int 2)] [])] (.bop .Or [.cmp .In (.slice (.var 2) [] [.neg (.int 2)] []) (.list [.str "a",.str "a.b"]),.cmp .Eq (.item (.var 2) (.neg (.int 1))) (.str "-")])] []],.ret (.comp [(2,1)] (.var 1) [.gen (.var 1) (.var 0) [.item (.cvar 2) (.slice (.var 1) [] [.neg (.int 2)] [])]])] }
noncomputable def G339:Fun:={ params:=4,cells:=[],defaults:=[],arity:=4,body:=[.assign [.tuple [.var 4,.var 5,.var 6,.var 7]] (.var 3),.tupAssign true [8,9,10] [.var 4,.var 6,.int 0],.forRange (.var 11) (.var 4) (.var 5) [.forRange (.var 12) (.var 6) (.var 7) [.assign [.var 13] (.int 0),.while (.bop .And [.cmp .Lt (.bin .Add (.var 11) (.var 13)) (.var 5),.cmp .Lt (.bin .Add (.var 12) (.var 13)) (.var 7),.cmp .Eq (.item (.var 0) (.bin .Add (.var 11) (.var 13))) (.item (.var 1) (.bin .Add (.var 12) (.var 13))),.cmp .NotIn (.item (.var 1) (.bin .Add (.var 12) (.var 13))) (.var 2)]) [.assign [.var 13] (.bin .Add (.var 13) (.int 1))],.ite (.cmp .Gt (.var 13) (.var 10)) [.tupAssign true [8,9,10] [.var 11,.var 12,.var 13]] []]],.while (.bop .And [.cmp .Gt (.var 8) (.var 4),.cmp .Gt (.var 9) (.var 6),.cmp .Eq (.item (.var 0) (.bin .Sub (.var 8) (.int 1))) (.item (.var 1) (.bin .Sub (.var 9) (.int 1))),.cmp .In (.item (.var 1) (.bin .Sub (.var 9) (.int 1))) (.var 2)]) [.tupAssign true [8,9,10] [.bin .Sub (.var 8) (.int 1),.bin .Sub (.var 9) (.int 1),.bin .Add (.var 10) (.int 1)]],.while (.bop .And [.cmp .Lt (.bin .Add (.var 8) (.var 10)) (.var 5),.cmp .Lt (.bin .Add (.var 9) (.var 10)) (.var 7),.cmp .Eq (.item (.var 0) (.bin .Add (.var 8) (.var 10))) (.item (.var 1) (.bin .Add (.var 9) (.var 10))),.cmp .In (.item (.var 1) (.bin .Add (.var 9) (.var 10))) (.var 2)]) [.assign [.var 10] (.bin .Add (.var 10) (.int 1))],.ret (.tuple [.var 8,.var 9,.var 10])] }
noncomputable def G346:Fun:={ params:=4,cells:=[],defaults:=[],arity:=4,body:=[.assign [.tuple [.var 4,.var 5,.var 6]] (.call (.glob (.cst (.ref 339))) [.var 0,.var 1,.var 2,.var 3]),.ite (.cmp .Eq (.var 6) (.int 0)) [.ret (.list [])] [],.assign [.var 7] (.call (.glob (.cst (.ref 346))) [.var 0,.var 1,.var 2,.tuple [.item (.var 3) (.int 0),.var 4,.item (.var 3) (.int 2),.var 5]]),.ret (.bin .Add (.bin .Add (.var 7) (.list [.tuple [.var 4,.var 5,.var 6]])) (.call (.glob (.cst (.ref 346))) [.var 0,.var 1,.var 2,.tuple [.bin .Add (.var 4) (.var 6),.item (.var 3) (.int 1),.bin .Add (.var 5) (.var 6),.item (.var 3) (.int 3)]]))] }
noncomputable def G353:Fun:={ params:=3,cells:=[],defaults:=[],arity:=3,body:=[.assign [.var 3] (.list []),.for (.tuple [.var 4,.var 5,.var 6]) (.call (.glob (.cst (.ref 346))) [.var 0,.var 1,.var 2,.tuple [.int 0,.call (.glob (.cst (.builtin "len"))) [.var 0],.int 0,.call (.glob (.cst (.builtin "len"))) [.var 1]]]) [.ite (.bop .And [.cmp .NotEq (.var 3) (.list []),.cmp .Eq (.bin .Add (.item (.item (.var 3) (.neg (.int 1))) (.int 0)) (.item (.item (.var 3) (.neg (.int 1))) (.int 2))) (.var 4),.cmp .Eq (.bin .Add (.item (.item (.var 3) (.neg (.int 1))) (.int 1)) (.item (.item (.var 3) (.neg (.int 1))) (.int 2))) (.var 5)]) [.assign [.item (.var 3) (.neg (.int 1))] (.tuple [.item (.item (.var 3) (.neg (.int 1))) (.int 0),.item (.item (.var 3) (.neg (.int 1))) (.int 1),.bin .Add (.item (.item (.var 3) (.neg (.int 1))) (.int 2)) (.var 6)])] [.expr (.meth (.var 3) "append" [.tuple [.var 4,.var 5,.var 6]])]],.ret (.bin .Add (.var 3) (.list [.tuple [.call (.glob (.cst (.builtin "len"))) [.var 0],.call (.glob (.cst (.builtin "len"))) [.var 1],.int 0]]))] }
noncomputable def G358:Fun:={ params:=1,cells:=[],defaults:=[],arity:=1,body:=[.assign [.var 1] (.bin .Add (.list [.int 0,.int 5,.int 1,.int 0,.int 2,.int 0,.int 6,.int 5,.int 1,.int 2,.int 0,.int 6,.int 6,.int 1,.int 2,.int 3]) (.slice (.var 0) [] [.int 8] [])),.assignC 2 (.comp [] (.bin .Add (.item (.list [.str "a",.str "b",.str "ab",.str "a.b"]) (.bin .Mod (.var 1) (.int 4))) (.item (.list [.str " f",.str " -"]) (.bin .Mod (.bin .FloorDiv (.var 1) (.int 4)) (.int 2)))) [.gen (.var 1) (.var 1) []]),.tupAssign false [3,4,5,6,7] [.slice (.var 2) [.int 0] [] [.int 4],.list [.slice (.var 2) [.int 1] [] [.int 4],.slice (.var 2) [.int 2] [] [.int 4],.slice (.var 2) [.int 3] [] [.int 4]],.list [],.list [],.list []],.assign [.var 8] (.call (.glob (.cst (.ref 242))) [.call (.glob (.cst (.ref 322))) [.call (.glob (.cst (.ref 311))) [.list [.str "a"]],.var 5]]),.expr (.meth (.var 8) "set_seq1" [.var 3]),.for (.var 9) (.var 4) [.expr (.meth (.var 8) "set_seq2" [.var 9]),.expr (.meth (.var 7) "append" [.meth (.var 8) "get_matching_blocks" []]),.expr (.meth (.var 6) "append" [.call (.glob (.cst (.ref 353))) [.var 3,.var 9,.call (.glob (.cst (.ref 332))) [.var 5]]])],.ret (.bop .And [.cmp .Eq (.var 7) (.var 6),.cmp .Eq (.var 5) (.comp [] (.var 2) [.gen (.var 1) (.var 4) [],.gen (.var 2) (.call (.glob (.cst (.ref 327))) [.var 1]) []])])] }
noncomputable def gLam:E:=.bop .Or [.meth (.cvar 1) "append" [.var 0],.meth (.cvar 2) "names" [.ite (.cmp .Eq (.item (.var 0) (.neg (.int 1))) (.str "-")) .none (.str "f"),.slice (.var 0) [] [.neg (.int 2)] []]]
end Mine
end
section
open PySem
set_option maxRecDepth 100000
set_option linter.unusedVariables false
set_option autoImplicit false
namespace Mine
theorem and1 {a b:Bool} (h:(a && b)=true):a=true:=by cases a;exact h;rfl
theorem and2 {a b:Bool} (h:(a && b)=true):b=true:=by cases a;cases h;exact h
theorem or12 {a b:Bool} (h:(a || b)=true):a=true∨b=true:=by cases a;exact .inr h;exact .inl rfl
theorem dec1 {p:Prop} [Decidable p] (h:decide p=true):p:=of_decide_eq_true h
theorem isGl_spec {q:Option (Nat×NameKind)} (h:isGl q=true):∃ i,q=some (i,.globalImplicit):=by
 cases q with
 | none=>cases h
 | some q=>cases q with
  | mk i k=>cases k <;> first | exact⟨i,rfl⟩ | cases h
theorem byG {C:Prop} (h:∀ G:Prop,(C→G)→G):C:=h C id
theorem xE02 {P Q:Prop}{G:Prop} (h:P∧Q) (k:P→Q→G):G:=h.elim k
theorem xE03 {P Q R:Prop}{G:Prop} (h:P∧Q∧R) (k:P→Q→R→G):G:=h.elim fun p q=>xE02 q (k p)
theorem xE04 {P Q R S:Prop}{G:Prop} (h:P∧Q∧R∧S) (k:P→Q→R→S→G):G:=h.elim fun p q=>xE03 q (k p)
theorem xE05 {P Q R S T:Prop}{G:Prop} (h:P∧Q∧R∧S∧T) (k:P→Q→R→S→T→G):G:=h.elim fun p q=>xE04 q (k p)
theorem xE06 {P Q R S T U:Prop}{G:Prop} (h:P∧Q∧R∧S∧T∧U) (k:P→Q→R→S→T→U→G):G:=h.elim fun p q=>xE05 q (k p)
theorem xE07 {P Q R S T U V:Prop}{G:Prop} (h:P∧Q∧R∧S∧T∧U∧V) (k:P→Q→R→S→T→U→V→G):G:=h.elim fun p q=>xE06 q (k p)
theorem xE08 {P Q R S T U V W:Prop}{G:Prop} (h:P∧Q∧R∧S∧T∧U∧V∧W) (k:P→Q→R→S→T→U→V→W→G):G:=h.elim fun p q=>xE07 q (k p)
theorem xE11 {α:Sort _}{P:α→Prop}{G:Prop} (h:∃ a,P a) (k:∀ a,P a→G):G:=h.elim k
theorem xE12 {α:Sort _}{P Q:α→Prop}{G:Prop} (h:∃ a,P a∧Q a) (k:∀ a,P a→Q a→G):G:=h.elim fun x q=>xE02 q (k x)
theorem xE13 {α:Sort _}{P Q R:α→Prop}{G:Prop} (h:∃ a,P a∧Q a∧R a) (k:∀ a,P a→Q a→R a→G):G:=h.elim fun x q=>xE03 q (k x)
theorem xE14 {α:Sort _}{P Q R S:α→Prop}{G:Prop} (h:∃ a,P a∧Q a∧R a∧S a) (k:∀ a,P a→Q a→R a→S a→G):G:=h.elim fun x q=>xE04 q (k x)
theorem xE15 {α:Sort _}{P Q R S T:α→Prop}{G:Prop} (h:∃ a,P a∧Q a∧R a∧S a∧T a) (k:∀ a,P a→Q a→R a→S a→T a→G):G:=h.elim fun x q=>xE05 q (k x)
theorem xE16 {α:Sort _}{P Q R S T U:α→Prop}{G:Prop} (h:∃ a,P a∧Q a∧R a∧S a∧T a∧U a) (k:∀ a,P a→Q a→R a→S a→T a→U a→G):G:=h.elim fun x q=>xE06 q (k x)
theorem xE17 {α:Sort _}{P Q R S T U V:α→Prop}{G:Prop} (h:∃ a,P a∧Q a∧R a∧S a∧T a∧U a∧V a) (k:∀ a,P a→Q a→R a→S a→T a→U a→V a→G):G:=h.elim fun x q=>xE07 q (k x)
theorem xE18 {α:Sort _}{P Q R S T U V W:α→Prop}{G:Prop} (h:∃ a,P a∧Q a∧R a∧S a∧T a∧U a∧V a∧W a) (k:∀ a,P a→Q a→R a→S a→T a→U a→V a→W a→G):G:=h.elim fun x q=>xE08 q (k x)
theorem xE21 {α β:Sort _}{P:α→β→Prop}{G:Prop} (h:∃ a b,P a b) (k:∀ a b,P a b→G):G:=h.elim fun x q=>xE11 q (k x)
theorem xE22 {α β:Sort _}{P Q:α→β→Prop}{G:Prop} (h:∃ a b,P a b∧Q a b) (k:∀ a b,P a b→Q a b→G):G:=h.elim fun x q=>xE12 q (k x)
theorem xE23 {α β:Sort _}{P Q R:α→β→Prop}{G:Prop} (h:∃ a b,P a b∧Q a b∧R a b) (k:∀ a b,P a b→Q a b→R a b→G):G:=h.elim fun x q=>xE13 q (k x)
theorem xE24 {α β:Sort _}{P Q R S:α→β→Prop}{G:Prop} (h:∃ a b,P a b∧Q a b∧R a b∧S a b) (k:∀ a b,P a b→Q a b→R a b→S a b→G):G:=h.elim fun x q=>xE14 q (k x)
theorem xE25 {α β:Sort _}{P Q R S T:α→β→Prop}{G:Prop} (h:∃ a b,P a b∧Q a b∧R a b∧S a b∧T a b) (k:∀ a b,P a b→Q a b→R a b→S a b→T a b→G):G:=h.elim fun x q=>xE15 q (k x)
theorem xE26 {α β:Sort _}{P Q R S T U:α→β→Prop}{G:Prop} (h:∃ a b,P a b∧Q a b∧R a b∧S a b∧T a b∧U a b) (k:∀ a b,P a b→Q a b→R a b→S a b→T a b→U a b→G):G:=h.elim fun x q=>xE16 q (k x)
theorem xE27 {α β:Sort _}{P Q R S T U V:α→β→Prop}{G:Prop} (h:∃ a b,P a b∧Q a b∧R a b∧S a b∧T a b∧U a b∧V a b) (k:∀ a b,P a b→Q a b→R a b→S a b→T a b→U a b→V a b→G):G:=h.elim fun x q=>xE17 q (k x)
theorem xE28 {α β:Sort _}{P Q R S T U V W:α→β→Prop}{G:Prop} (h:∃ a b,P a b∧Q a b∧R a b∧S a b∧T a b∧U a b∧V a b∧W a b) (k:∀ a b,P a b→Q a b→R a b→S a b→T a b→U a b→V a b→W a b→G):G:=h.elim fun x q=>xE18 q (k x)
theorem xE31 {α β γ:Sort _}{P:α→β→γ→Prop}{G:Prop} (h:∃ a b c,P a b c) (k:∀ a b c,P a b c→G):G:=h.elim fun x q=>xE21 q (k x)
theorem xE32 {α β γ:Sort _}{P Q:α→β→γ→Prop}{G:Prop} (h:∃ a b c,P a b c∧Q a b c) (k:∀ a b c,P a b c→Q a b c→G):G:=h.elim fun x q=>xE22 q (k x)
theorem xE33 {α β γ:Sort _}{P Q R:α→β→γ→Prop}{G:Prop} (h:∃ a b c,P a b c∧Q a b c∧R a b c) (k:∀ a b c,P a b c→Q a b c→R a b c→G):G:=h.elim fun x q=>xE23 q (k x)
theorem xE34 {α β γ:Sort _}{P Q R S:α→β→γ→Prop}{G:Prop} (h:∃ a b c,P a b c∧Q a b c∧R a b c∧S a b c) (k:∀ a b c,P a b c→Q a b c→R a b c→S a b c→G):G:=h.elim fun x q=>xE24 q (k x)
theorem xE35 {α β γ:Sort _}{P Q R S T:α→β→γ→Prop}{G:Prop} (h:∃ a b c,P a b c∧Q a b c∧R a b c∧S a b c∧T a b c) (k:∀ a b c,P a b c→Q a b c→R a b c→S a b c→T a b c→G):G:=h.elim fun x q=>xE25 q (k x)
theorem xE36 {α β γ:Sort _}{P Q R S T U:α→β→γ→Prop}{G:Prop} (h:∃ a b c,P a b c∧Q a b c∧R a b c∧S a b c∧T a b c∧U a b c) (k:∀ a b c,P a b c→Q a b c→R a b c→S a b c→T a b c→U a b c→G):G:=h.elim fun x q=>xE26 q (k x)
theorem xE37 {α β γ:Sort _}{P Q R S T U V:α→β→γ→Prop}{G:Prop} (h:∃ a b c,P a b c∧Q a b c∧R a b c∧S a b c∧T a b c∧U a b c∧V a b c) (k:∀ a b c,P a b c→Q a b c→R a b c→S a b c→T a b c→U a b c→V a b c→G):G:=h.elim fun x q=>xE27 q (k x)
theorem xE38 {α β γ:Sort _}{P Q R S T U V W:α→β→γ→Prop}{G:Prop} (h:∃ a b c,P a b c∧Q a b c∧R a b c∧S a b c∧T a b c∧U a b c∧V a b c∧W a b c) (k:∀ a b c,P a b c→Q a b c→R a b c→S a b c→T a b c→U a b c→V a b c→W a b c→G):G:=h.elim fun x q=>xE28 q (k x)
theorem xE41 {α β γ δ:Sort _}{P:α→β→γ→δ→Prop}{G:Prop} (h:∃ a b c d,P a b c d) (k:∀ a b c d,P a b c d→G):G:=h.elim fun x q=>xE31 q (k x)
theorem xE43 {α β γ δ:Sort _}{P Q R:α→β→γ→δ→Prop}{G:Prop} (h:∃ a b c d,P a b c d∧Q a b c d∧R a b c d) (k:∀ a b c d,P a b c d→Q a b c d→R a b c d→G):G:=h.elim fun x q=>xE33 q (k x)
theorem xE44 {α β γ δ:Sort _}{P Q R S:α→β→γ→δ→Prop}{G:Prop} (h:∃ a b c d,P a b c d∧Q a b c d∧R a b c d∧S a b c d) (k:∀ a b c d,P a b c d→Q a b c d→R a b c d→S a b c d→G):G:=h.elim fun x q=>xE34 q (k x)
theorem xE45 {α β γ δ:Sort _}{P Q R S T:α→β→γ→δ→Prop}{G:Prop} (h:∃ a b c d,P a b c d∧Q a b c d∧R a b c d∧S a b c d∧T a b c d) (k:∀ a b c d,P a b c d→Q a b c d→R a b c d→S a b c d→T a b c d→G):G:=h.elim fun x q=>xE35 q (k x)
theorem xE46 {α β γ δ:Sort _}{P Q R S T U:α→β→γ→δ→Prop}{G:Prop} (h:∃ a b c d,P a b c d∧Q a b c d∧R a b c d∧S a b c d∧T a b c d∧U a b c d) (k:∀ a b c d,P a b c d→Q a b c d→R a b c d→S a b c d→T a b c d→U a b c d→G):G:=h.elim fun x q=>xE36 q (k x)
theorem xE47 {α β γ δ:Sort _}{P Q R S T U V:α→β→γ→δ→Prop}{G:Prop} (h:∃ a b c d,P a b c d∧Q a b c d∧R a b c d∧S a b c d∧T a b c d∧U a b c d∧V a b c d) (k:∀ a b c d,P a b c d→Q a b c d→R a b c d→S a b c d→T a b c d→U a b c d→V a b c d→G):G:=h.elim fun x q=>xE37 q (k x)
theorem xE53 {α β γ δ ε:Sort _}{P Q R:α→β→γ→δ→ε→Prop}{G:Prop} (h:∃ a b c d e,P a b c d e∧Q a b c d e∧R a b c d e) (k:∀ a b c d e,P a b c d e→Q a b c d e→R a b c d e→G):G:=h.elim fun x q=>xE43 q (k x)
theorem nn {β:Type}{r:β}{C:Prop} (h:none=some r):C:=nomatch h
section
variable {β:Type}{G:Prop}{r:β}{a:AV}{x:AO}{σ:Sto}
theorem int_e {F:Int→Option β} (h:(asInt a).bind F=some r) (k:∀ i,a=.int i→F i=some r→G):G:=by
 cases a with
 | int i=>exact k i rfl h
 | _=>exact nn h
theorem str_e {F:Str→Option β} (h:(asStr a).bind F=some r) (k:∀ i,a=.str i→F i=some r→G):G:=by
 cases a with
 | str i=>exact k i rfl h
 | _=>exact nn h
theorem loc_e {F:Nat→Option β} (h:(asLoc a).bind F=some r) (k:∀ i,a=.loc i→F i=some r→G):G:=by
 cases a with
 | loc i=>exact k i rfl h
 | _=>exact nn h
theorem list_e {F:List AV→Option β} (h:(asList x).bind F=some r) (k:∀ i,x=.list i→F i=some r→G):G:=by
 cases x with
 | list i=>exact k i rfl h
 | _=>exact nn h
theorem list_e' {l:Nat}{F:List AV→Option β} (h:((σ[l]?).bind fun x=>(asList x).bind F)=some r) (k:∀ i,σ[l]? = some (.list i)→F i=some r→G):G:=by
 obtain⟨x,e,h⟩:=Option.bind_eq_some_iff.mp h
 exact list_e h fun i q h=>k i (q ▸ e) h
end
theorem bnd {β γ:Type}{x:Option β}{g:β→Option γ}{r:γ} (h:x.bind g=some r):∃ a,x=some a∧g a=some r:=Option.bind_eq_some_iff.mp h
theorem iteS {β:Type}{p:Prop} [Decidable p]{a b:β} (h:(if p then some a else none)=some b):p∧a=b:=by
 by_cases q:p
 ·rw [if_pos q]at h;exact⟨q,Option.some.inj h⟩
 ·rw [if_neg q]at h;cases h
theorem iteO {β:Type}{p:Prop} [Decidable p]{a:Option β}{b:β} (h:(if p then a else none)=some b):p∧a=some b:=by
 by_cases q:p
 ·rw [if_pos q]at h;exact⟨q,h⟩
 ·rw [if_neg q]at h;cases h
end Mine
end
section
open PySem PySem.W PyProof.Rows PySem.Calls
set_option maxRecDepth 100000
set_option linter.unusedVariables false
set_option autoImplicit false
namespace Mine
inductive VR (α:List Addr):AV→Value→Prop
 | none:VR α .none .none
 | bool (b:Bool):VR α (.bool b) (.bool b)
 | int (i:Int) (t:Tok):VR α (.int i) (.int i t)
 | str (s:Str) (t:Tok):VR α (.str s) (.str s t)
 | loc {n:Nat}{a:Addr} (h:α[n]? = some a):VR α (.loc n) (.ref a)
 | cst (v:Value):VR α (.cst v) v
inductive VRs (α:List Addr):List AV→List Value→Prop
 | nil:VRs α [] []
 | cons {v:AV}{x:Value}{vs:List AV}{xs:List Value} (h:VR α v x) (r:VRs α vs xs):VRs α (v :: vs) (x :: xs)
theorem getElem?_pre {β:Type}{l l':List β} (h:l <+: l'){n:Nat}{a:β} (e:l[n]? = some a):l'[n]? = some a:=by
 obtain⟨t,rfl⟩:=h
 rw [List.getElem?_append_left (by
  rcases Nat.lt_or_ge n l.length with q | q
  ·exact q
  ·rw [List.getElem?_eq_none q]at e;cases e)]
 exact e
theorem VR.mono {α α':List Addr} (h:α <+: α'){v:AV}{x:Value} (r:VR α v x):VR α' v x:=by
 cases r with
 | none=>exact .none
 | bool b=>exact .bool b
 | int i t=>exact .int i t
 | str s t=>exact .str s t
 | loc e=>exact .loc (getElem?_pre h e)
 | cst=>exact .cst _
theorem VRs.mono {α α':List Addr} (h:α <+: α'){vs:List AV}{xs:List Value} (r:VRs α vs xs):VRs α' vs xs:=by
 induction r with
 | nil=>exact .nil
 | cons a _ ih=>exact .cons (a.mono h) ih
theorem VRs.length {α:List Addr}{vs:List AV}{xs:List Value} (r:VRs α vs xs):vs.length=xs.length:=by
 induction r with
 | nil=>rfl
 | cons _ _ ih=>simp [ih]
theorem VRs.get {α:List Addr}{vs:List AV}{xs:List Value} (r:VRs α vs xs):∀ {i:Nat}{v:AV},vs[i]? = some v→∃ x,xs[i]? = some x∧VR α v x:=by
 induction r with
 | nil=>intro i v e;simp at e
 | cons a _ ih=>
  intro i v e
  cases i with
  | zero=>simp only [List.getElem?_cons_zero,Option.some.injEq]at e;subst e;exact⟨_,rfl,a⟩
  | succ i=>simpa using ih (by simpa using e)
theorem VRs.append {α:List Addr}{vs vs':List AV}{xs xs':List Value} (r:VRs α vs xs) (r':VRs α vs' xs'):VRs α (vs++vs') (xs++xs'):=by
 induction r with
 | nil=>exact r'
 | cons a _ ih=>exact .cons a ih
noncomputable def IsD {K:Type} [DecidableEq K]{prog:Program}{w:World} (knd:KeyKind prog w K) (o:Obj) (kvs:List (K×Value)):Prop:=
 o.ExactDict∧∃ es ep,o.data=.dict es ep∧KeysOf knd es∧Pairs knd es.toList kvs∧(kvs.map (·.1)).Nodup
theorem IsD.at {K:Type} [DecidableEq K]{prog:Program}{w:World}{knd:KeyKind prog w K}{o:Obj}{kvs:List (K×Value)} (x:IsD knd o kvs){h:Heap}{a:Addr} (e:h.get? a=some o):h.DictOf knd a kvs:=
 let ⟨q,es,ep,r⟩:=x
 ⟨o,es,ep,e,q,r⟩
theorem IsD.of {K:Type} [DecidableEq K]{prog:Program}{w:World}{knd:KeyKind prog w K}{h:Heap}{a:Addr}{kvs:List (K×Value)} (x:h.DictOf knd a kvs):∃ o,h.get? a=some o∧IsD knd o kvs:=
 let ⟨o,es,ep,e,q,r⟩:=x
 ⟨o,e,q,es,ep,r⟩
noncomputable def DR {K:Type} [DecidableEq K]{w:World} (knd:KeyKind pw w K) (mk:K→AV) (α:List Addr) (es:List (AV×AV)) (o:Obj):Prop:=
 ∀ ks:List (K×AV),es=ks.map (fun p=>(mk p.1,p.2))→∃ kvs:List (K×Value),IsD knd o kvs∧kvs.map (·.1)=ks.map (·.1)∧VRs α (ks.map (·.2)) (kvs.map (·.2))
noncomputable def SetR (w:World) (xs:List Str) (o:Obj):Prop:=
 o.ExactSet∧∃ es ep t,o.data=.set es ep t∧ElemsOf (strKind pw w) es.toList∧(∀ k,xs.contains k=true↔∃ e∈es.toList,(strKind pw w).is k e.2=true)∧es.size<scanBound∧t.fits es.size=true∧es.size=xs.length∧
  (t.led=true∨w.params.followText "set-order"=true)∧(t.plain=false∨es.size=0)
inductive FR (α:List Addr):List (Str×AV)→List DictEntry→Prop
 | nil:FR α [] []
 | cons {x:Str}{v:AV}{e:DictEntry}{fs:List (Str×AV)}{es:List DictEntry} (t:Tok) (hk:e.key=.str x t) (hv:VR α v e.val) (r:FR α fs es):FR α ((x,v) :: fs) (e :: es)
theorem FR.mono {α α':List Addr} (h:α <+: α'){fs:List (Str×AV)}{es:List DictEntry} (r:FR α fs es):FR α' fs es:=by
 induction r with
 | nil=>exact .nil
 | cons t hk hv _ ih=>exact .cons t hk (hv.mono h) ih
noncomputable def lamE:Expr:=(si ((fnB (st1 17)).headD dS)).e
noncomputable def lamSc:Scope:=(ei lamE).sc
noncomputable def lamBody:Expr:=k0 lamE
noncomputable def lamArgs:Arguments:=match lamE with
 | .Lambda a _ _ _=>a
 | _=>noArgs
noncomputable def LamObj (cl:List (Str×Addr)) (c:Addr) (o:Obj):Prop:=
 ∃ ct pm,o={ cls:=.type "function",data:=.func { name:="<lambda>",qualname:="_law_asker.<locals>.<lambda>",params:=lamArgs,body:=.expr lamBody,scope:=lamSc,globals:=mainGlobals,closure:=cl,defaults:=.none,kwdefaults:=.none,doc:=.none,pyModule:=pm,annotations:=none,code:=.ref c,closureTuple:=ct,builtins:=builtinsNs } }
noncomputable def CR (w:World) (α:List Addr):AO→Obj→Prop
 | .list xs,o=>∃ items n,o={ cls:=.type "list",dict:=none,data:=.seq items n,slots:=#[] }∧VRs α xs items.toList
 | .fix p xs,o=>o=p∧o.cls=.type "list"∧∃ items n,o.data=.seq items n∧VRs α xs items.toList
 | .tup c xs,o=>∃ items n dd,o={ cls:=c,dict:=dd,data:=.seq items n,slots:=#[] }∧VRs α xs items.toList∧(c=.type "tuple"→dd=none)
 | .dict es,o=>DR (strKind pw w) .str α es o∧DR (intKind pw w) .int α es o
 | .locked (.dict es),o=>DR (strKind pw w) .str α es o∧DR (intKind pw w) .int α es o
 | .locked (.set xs),o=>SetR w xs o
 | .set xs,o=>SetR w xs o
 | .inst c d,o=>∃ dx,α[d]? = some dx∧o=⟨.ref c,some dx,.plain,#[]⟩
 | .fields fs,o=>∃ es n,o=dictOf es n∧FR α fs es
 | .bm id self,o=>∃ a,α[self]? = some a∧o={ cls:=.type "builtin_function_or_method",data:=.fields #[.builtin id,.ref a] }
 | .cell v,o=>∃ y,o.data=.cell y∧(match v,y with | some v,some y=>VR α v y | none,none=>True | _,_=>False)
 | .code,o=>∃ vs t,o.data=.fields vs∧vs[1]? = some (.str "_law_asker.<locals>.<lambda>" t)
 | .clos cs k,o=>∃ c cl,α[k]? = some c∧LamObj cl c o∧∀ i x,lamSc.names[i]? = some (x,.free)→∀ l,cs.lookup i=some l→∃ a,cl.lookup x=some a∧α[l]? = some a
 | .range a b,o=>∃ t u v,o={ cls:=.type "range",data:=.fields #[.int a t,.int b u,.int 1 v] }
 | .keys d,o=>∃ a,α[d]? = some a∧o.cls=.type "dict_keys"∧o.data=.fields #[.ref a]
 | .tab fresh,o=>α[1]? = some 317∧∃ vs,o={ cls:=.none,data:=.fields vs }∧(fresh=true→vs=#[])
end Mine
namespace Mine
theorem nodup_inj {β:Type}{l:List β} (hn:l.Nodup){i j:Nat}{a:β} (hi:l[i]? = some a) (hj:l[j]? = some a):i=j:=
 (List.getElem?_inj (List.getElem?_eq_some_iff.mp hi).1 hn).mp (hi.trans hj.symm)
theorem CR.mono {w:World}{α α':List Addr} (h:α <+: α'){ao:AO}{o:Obj} (r:CR w α ao o):CR w α' ao o:=by
 cases ao with
 | list xs=>obtain⟨it,n,b,c⟩:=r;exact⟨it,n,b,c.mono h⟩
 | tup t xs=>obtain⟨it,n,dd,b,c,d⟩:=r;exact⟨it,n,dd,b,c.mono h,d⟩
 | dict es=>exact⟨fun ks e=>let ⟨kvs,a,b,c⟩:=r.1 ks e;⟨kvs,a,b,c.mono h⟩,fun ks e=>let ⟨kvs,a,b,c⟩:=r.2 ks e;⟨kvs,a,b,c.mono h⟩⟩
 | locked k=>
  cases k with
  | set xs=>exact r
  | dict es=>exact⟨fun ks e=>let ⟨kvs,a,b,c⟩:=r.1 ks e;⟨kvs,a,b,c.mono h⟩,fun ks e=>let ⟨kvs,a,b,c⟩:=r.2 ks e;⟨kvs,a,b,c.mono h⟩⟩
 | set xs=>exact r
 | inst c d=>obtain⟨dx,a,b⟩:=r;exact⟨dx,getElem?_pre h a,b⟩
 | fields fs=>
  refine xE22 r fun es n a b=>?_
  exact⟨es,n,a,b.mono h⟩
 | bm id self=>obtain⟨a,b,c⟩:=r;exact⟨a,getElem?_pre h b,c⟩
 | cell v=>
  refine xE12 r fun y b c=>?_
  refine⟨y,b,?_⟩
  cases v <;> cases y <;> first | exact c | exact VR.mono h c
 | fix p xs=>obtain⟨e,ec,it,n,b,c⟩:=r;exact⟨e,ec,it,n,b,c.mono h⟩
 | code=>exact r
 | clos cs k=>obtain⟨c,cl,a,b,d⟩:=r;exact⟨c,cl,getElem?_pre h a,b,fun i x e l g=>let ⟨a',p,q⟩:=d i x e l g;⟨a',p,getElem?_pre h q⟩⟩
 | range a b=>exact r
 | keys d=>obtain⟨a,b,c⟩:=r;exact⟨a,getElem?_pre h b,c⟩
 | tab b=>exact⟨getElem?_pre h r.1,r.2⟩
structure Base where
 obj:Addr→Option Obj
 lk:Addr→Prop
noncomputable instance:CoeFun Base fun _=>Addr→Option Obj:=⟨Base.obj⟩
structure Sub (B B':Base):Prop where
 keep:∀ b o,B b=some o→B' b=some o
 lk:∀ a,B'.lk a→B a=none∨B.lk a
theorem Sub.none {B B':Base} (h:Sub B B'){a:Addr} (e:B' a=none):B a=none:=by
 cases x:B a with
 | none=>rfl
 | some o=>rw [h.keep a o x]at e;cases e
theorem Sub.refl (B:Base):Sub B B:=⟨fun _ _ e=>e,fun _ e=>.inr e⟩
theorem Sub.trans {B₁ B₂ B₃:Base} (h:Sub B₁ B₂) (k:Sub B₂ B₃):Sub B₁ B₃:=⟨fun b o e=>k.keep b o (h.keep b o e),fun a e=>(k.lk a e).elim (fun e=>.inl (h.none e)) (h.lk a)⟩
structure Rel (w:World) (B:Base) (env:Env) (f:Nat→Option Nat) (α:List Addr) (ρ:Rho) (σ:Sto) (h:Heap):Prop where
 len:α.length=σ.length
 keep:∀ b o,B b=some o→h.get? b=some o
 loc:∃ m,h.Ns env.locals m∧∀ i x v,env.scope.names[i]? = some (x,.local)→ρ i=some v→∃ y,m x=some y∧VR α v y
 cel:∀ i x k,env.scope.names[i]? = some (x,k)→(k=.cell∨k=.free)→∀ l,f i=some l→∃ a,env.cells.lookup x=some a∧α[l]? = some a
 obj:∀ (i:Nat) (ao:AO),σ[i]? = some ao→∃ a o,α[i]? = some a∧h.get? a=some o∧CR w α ao o
 off:∀ a∈α,a≠env.locals
 offB:∀ (i:Nat) (a:Addr),α[i]? = some a→B a=none∨(∃ es,σ[i]? = some (.locked es))∧B.lk a
 offL:B env.locals=none
 nd:α.Nodup
 big:300<env.locals∧∀ a∈α,100<a
theorem base_size {B:Base}{h:Heap} (k:∀ b o,B b=some o→h.get? b=some o):B h.objs.size=none:=by
 cases e:B h.objs.size with
 | none=>rfl
 | some o'=>exact absurd (Heap.lt_size (k _ _ e)) (Nat.lt_irrefl _)
section
variable {w:World}{B B':Base}{env:Env}{f:Nat→Option Nat}{α:List Addr}{ρ:Rho}{σ:Sto}{h h':Heap}
theorem Rel.lt (R:Rel w B env f α ρ σ h){a:Addr} (ha:a∈α):a<h.objs.size:=by
 obtain⟨i,hi,rfl⟩:=List.getElem_of_mem ha
 have hs:i<σ.length:=R.len ▸ hi
 refine xE23 (R.obj i σ[i] (by simp [hs])) fun a o e1 e2 _=>?_
 have:α[i]=a:=by simpa [hi] using e1
 rw [this];exact Heap.lt_size e2
theorem Rel.ltL (R:Rel w B env f α ρ σ h):env.locals<h.objs.size:=by
 refine xE12 R.loc fun m F _=>?_
 exact F.lt
theorem Rel.same (R:Rel w B env f α ρ σ h) (hk:∀ b o,(B b=some o∨b=env.locals∨b∈α)→h.get? b=some o→h'.get? b=some o):Rel w B env f α ρ σ h':=by
 refine⟨R.len,fun b o e=>hk b o (.inl e) (R.keep b o e),?_,R.cel,?_,R.off,R.offB,R.offL,R.nd,R.big⟩
 ·refine xE12 R.loc fun m F q=>?_
  exact⟨m,F.at' fun o e=>hk _ o (.inr (.inl rfl)) e,q⟩
 ·intro i ao e
  refine xE23 (R.obj i ao e) fun a o e1 e2 e3=>?_
  exact⟨a,o,e1,hk a o (.inr (.inr (List.mem_of_getElem? e1))) e2,e3⟩
theorem Rel.keeps (R:Rel w B env f α ρ σ h) (hk:∀ b o,h.get? b=some o→h'.get? b=some o):Rel w B env f α ρ σ h':=R.same fun b o _ e=>hk b o e
theorem Rel.push (R:Rel w B env f α ρ σ h) (o:Obj):Rel w B env f α ρ σ (h.push o):=R.keeps fun _ _ e=>Heap.get?_push_of_some _ e
theorem Rel.weaken (R:Rel w B' env f α ρ σ h) (hb:Sub B B'):Rel w B env f α ρ σ h:=by
 refine⟨R.len,fun b o e=>R.keep b o (hb.keep b o e),R.loc,R.cel,R.obj,R.off,fun i a e=>?_,hb.none R.offL,R.nd,R.big⟩
 rcases R.offB i a e with q | ⟨q,r⟩
 ·exact .inl (hb.none q)
 ·exact(hb.lk a r).imp id fun r=>⟨q,r⟩
open Classical in
noncomputable def mask (h:Heap) (α:List Addr) (σ:Sto) (L:Addr):Base where
 obj b:=if (∃ i:Nat,α[i]? = some b∧∀ es,σ[i]?≠some (AO.locked es))∨b=L then none else h.get? b
 lk a:=∃ (i:Nat) (k:LK),α[i]? = some a∧σ[i]? = some (.locked k)
open Classical in
theorem mask_of {h:Heap}{α:List Addr}{σ:Sto}{L b:Addr} (h1:∀ i:Nat,α[i]? = some b→∃ k,σ[i]? = some (.locked k)) (h2:b≠L):Mine.mask h α σ L b=h.get? b:=by
 show(if (∃ i:Nat,α[i]? = some b∧∀ es,σ[i]?≠some (AO.locked es))∨b=L then none else h.get? b)=_
 rw [if_neg]
 rintro(⟨i,e,hn⟩ | e)
 ·obtain⟨k,q⟩:=h1 i e
  exact hn k q
 ·exact h2 e
open Classical in
theorem Rel.mask (R:Rel w B env f α ρ σ h):Rel w (mask h α σ env.locals) env f α ρ σ h:=by
 refine⟨R.len,fun b o e=>?_,R.loc,R.cel,R.obj,R.off,fun i a e=>?_,?_,R.nd,R.big⟩
 ·have e:(if (∃ i:Nat,α[i]? = some b∧∀ es,σ[i]?≠some (AO.locked es))∨b=env.locals then none else h.get? b)=some o:=e
  split at e
  ·cases e
  ·exact e
 ·by_cases q:∃ es,σ[i]? = some (.locked es)
  ·exact .inr ⟨q,i,q.choose,e,q.choose_spec⟩
  ·left
   show(if (∃ i:Nat,α[i]? = some a∧∀ es,σ[i]?≠some (AO.locked es))∨a=env.locals then none else h.get? a)=none
   rw [if_pos (.inl ⟨i,e,fun es h=>q ⟨es,h⟩⟩)]
 ·show(if (∃ i:Nat,α[i]? = some env.locals∧∀ es,σ[i]?≠some (AO.locked es))∨env.locals=env.locals then none else h.get? env.locals)=none
  rw [if_pos (.inr rfl)]
theorem Rel.base_mask (R:Rel w B env f α ρ σ h):Sub B (Mine.mask h α σ env.locals):=by
 refine⟨fun b o e=>?_,fun a ⟨i,k,hi,hk⟩=>(R.offB i a hi).imp id fun q=>q.2⟩
 rw [mask_of]
 ·exact R.keep b o e
 ·intro i hi
  rcases R.offB i b hi with q | ⟨q,_⟩
  ·rw [q]at e;cases e
  ·exact q
 ·rintro rfl
  rw [R.offL]at e;cases e
theorem Rel.alloc (R:Rel w B env f α ρ σ h){a:Addr}{o:Obj}{ao:AO} (hn:∀ b o,B b=some o→b≠a) (ha:a∉α) (hL:a≠env.locals) (hbig:100<a) (ho:h.get? a=some o) (hc:CR w (α++[a]) ao o) :
  Rel w B env f (α++[a]) ρ (σ++[ao]) h:=by
 have hp:α <+: α++[a]:=⟨_,rfl⟩
 refine⟨by simp [R.len],R.keep,?_,?_,?_,?_,?_,R.offL,?_,R.big.1,fun b hb'=>(List.mem_append.mp hb').elim (R.big.2 b) fun e=>by rw [List.mem_singleton]at e;exact e ▸ hbig⟩
 ·refine xE12 R.loc fun m F q=>?_
  exact⟨m,F,fun i x v e1 e2=>let ⟨y,p1,p2⟩:=q i x v e1 e2;⟨y,p1,p2.mono hp⟩⟩
 ·intro i x k e1 e2 l e3
  refine xE12 (R.cel i x k e1 e2 l e3) fun a p1 p2=>?_
  exact⟨a,p1,getElem?_pre hp p2⟩
 ·intro i ao' e
  rcases Nat.lt_trichotomy i σ.length with q | q | q
  ·rw [List.getElem?_append_left q]at e
   refine xE23 (R.obj i ao' e) fun a o' e1 e2 e3=>?_
   exact⟨a,o',getElem?_pre hp e1,e2,e3.mono hp⟩
  ·subst q
   simp only [List.getElem?_concat_length,Option.some.injEq]at e
   subst e
   refine⟨a,o,?_,ho,hc⟩
   rw [←R.len];simp
  ·rw [List.getElem?_eq_none (by simp;lia)]at e;cases e
 ·intro b hb
  rcases List.mem_append.mp hb with hb | hb
  ·exact R.off b hb
  ·rw [List.mem_singleton]at hb
   subst hb
   exact hL
 ·intro i b e
  rcases Nat.lt_trichotomy i α.length with q | q | q
  ·rw [List.getElem?_append_left q]at e
   rw [List.getElem?_append_left (R.len ▸ q)]
   exact R.offB i b e
  ·subst q
   simp only [List.getElem?_concat_length,Option.some.injEq]at e
   subst e
   left
   cases e:B a with
   | none=>rfl
   | some o'=>exact absurd rfl (hn _ _ e)
  ·rw [List.getElem?_eq_none (by simp;lia)]at e;cases e
 ·rw [List.nodup_append]
  exact⟨R.nd,by simp,fun b hb c hc e=>by
   rw [List.mem_singleton]at hc
   subst hc;subst e;exact ha hb⟩
theorem Rel.allocPush (R:Rel w B env f α ρ σ h){o:Obj}{ao:AO} (hf:o.isFreed=false) (hc:CR w (α++[h.objs.size]) ao o) :
  Rel w B env f (α++[h.objs.size]) ρ (σ++[ao]) (h.push o):=
 (R.push o).alloc (fun b o' e=>Nat.ne_of_lt (Heap.lt_size (R.keep b o' e))) (fun hm=>Nat.lt_irrefl _ (R.lt hm)) (Nat.ne_of_gt R.ltL) (Nat.lt_trans (Nat.lt_trans (by decide) R.big.1) R.ltL) (Heap.get?_push_size _ hf) hc
theorem Rel.set (R:Rel w B env f α ρ σ h){i:Nat}{a:Addr}{o:Obj}{ao:AO} (hi:α[i]? = some a) (hnl:∀ es,σ[i]?≠some (.locked es)) (hs:Heap.ExtBut a h h') (ho:h'.get? a=some o) (hc:CR w α ao o) :
  Rel w B env f α ρ (σ.set i ao) h':=by
 have hm:=List.mem_of_getElem? hi
 have hB:B a=none:=(R.offB i a hi).elim id fun⟨⟨es,q⟩,_⟩=>absurd q (hnl es)
 refine⟨by simp [R.len],fun b o e=>hs b o (fun q=>?_) (R.keep b o e),?_,R.cel,?_,R.off,fun j b e=>?_,R.offL,R.nd,R.big⟩
 ·subst q;rw [hB]at e;cases e
 ·refine xE12 R.loc fun m F q=>?_
  exact⟨m,F.at' fun o e=>hs _ o (Ne.symm (R.off a hm)) e,q⟩
 rotate_left
 ·by_cases q:i=j
  ·subst q;rw [hi]at e;cases e;exact .inl hB
  ·rw [List.getElem?_set_ne q];exact R.offB j b e
 ·intro j ao' e
  by_cases q:i=j
  ·subst q
   have hl:i<σ.length:=by rw [←R.len];exact(List.getElem?_eq_some_iff.mp hi).1
   rw [List.getElem?_set_self hl]at e
   cases e
   exact⟨a,o,hi,ho,hc⟩
  ·rw [List.getElem?_set_ne q]at e
   refine xE23 (R.obj j ao' e) fun b o' e1 e2 e3=>?_
   refine⟨b,o',e1,hs b o' ?_ e2,e3⟩
   rintro rfl
   exact q (nodup_inj R.nd hi e1)
theorem Rel.setNs (R:Rel w B env f α ρ σ h){i:Nat}{a:Addr}{o:Obj}{ao:AO} (hi:α[i]? = some a) (hnl:∀ es,σ[i]?≠some (.locked es)) (hs:∀ m,h.Ns env.locals m→h'.Ns env.locals m∧(∀ b o,b≠a→b≠env.locals→h.get? b=some o→h'.get? b=some o)) (ho:h'.get? a=some o) (hc:CR w α ao o) :
  Rel w B env f α ρ (σ.set i ao) h':=by
 have hm:=List.mem_of_getElem? hi
 refine xE12 R.loc fun m F q=>?_
 refine xE02 (hs m F) fun F' hs=>?_
 have hB:B a=none:=(R.offB i a hi).elim id fun⟨⟨es,q⟩,_⟩=>absurd q (hnl es)
 refine⟨by simp [R.len],fun b o e=>hs b o ?_ ?_ (R.keep b o e),⟨m,F',q⟩,R.cel,?_,R.off,fun j b e=>?_,R.offL,R.nd,R.big⟩
 rotate_right
 ·by_cases q:i=j
  ·subst q;rw [hi]at e;cases e;exact .inl hB
  ·rw [List.getElem?_set_ne q];exact R.offB j b e
 ·rintro rfl;rw [hB]at e;cases e
 ·rintro rfl;rw [R.offL]at e;cases e
 ·intro j ao' e
  by_cases q:i=j
  ·subst q
   have hl:i<σ.length:=by rw [←R.len];exact(List.getElem?_eq_some_iff.mp hi).1
   rw [List.getElem?_set_self hl]at e
   cases e
   exact⟨a,o,hi,ho,hc⟩
  ·rw [List.getElem?_set_ne q]at e
   refine xE23 (R.obj j ao' e) fun b o' e1 e2 e3=>?_
   refine⟨b,o',e1,hs b o' ?_ (R.off b (List.mem_of_getElem? e1)) e2,e3⟩
   rintro rfl
   exact q (nodup_inj R.nd hi e1)
theorem Rel.see (R:Rel w B env f α ρ σ h){i:Nat}{a:Addr}{ao:AO} (hi:α[i]? = some a) (hB:B a=none) (hc:∀ o,h.get? a=some o→CR w α ao o):Rel w B env f α ρ (σ.set i ao) h:=by
 refine⟨by simp [R.len],R.keep,R.loc,R.cel,?_,R.off,fun j b e=>?_,R.offL,R.nd,R.big⟩
 rotate_left
 ·by_cases q:i=j
  ·subst q;rw [hi]at e;cases e;exact .inl hB
  ·rw [List.getElem?_set_ne q];exact R.offB j b e
 ·intro j ao' e
  by_cases q:i=j
  ·subst q
   have hl:i<σ.length:=by rw [←R.len];exact(List.getElem?_eq_some_iff.mp hi).1
   rw [List.getElem?_set_self hl]at e
   cases e
   refine xE23 (R.obj i σ[i] (by simp [hl])) fun a' o e1 e2 _=>?_
   rw [hi]at e1;cases e1
   exact⟨a,o,hi,e2,hc o e2⟩
  ·rw [List.getElem?_set_ne q]at e
   exact R.obj j ao' e
theorem Rel.store (R:Rel w B env f α ρ σ h) (hn:(env.scope.names.map (·.1)).Nodup){i:Nat}{x:Str}{v:AV}{y:Value} (hx:env.scope.names[i]? = some (x,.local)) (hv:VR α v y)
  (hh:∀ m,h.Ns env.locals m→h'.Ns env.locals (fun z=>if z=x then some y else m z)) (hs:Heap.SameBut env.locals h h'):Rel w B env f α (upd ρ i v) σ h':=by
 refine⟨R.len,fun b o e=>(hs.2 b (fun q=>?_)).trans (R.keep b o e),?_,R.cel,?_,R.off,R.offB,R.offL,R.nd,R.big⟩
 ·subst q;rw [R.offL]at e;cases e
 ·refine xE12 R.loc fun m F q=>?_
  refine⟨_,hh m F,fun j z u e1 e2=>?_⟩
  unfold upd at e2
  by_cases hj:j=i
  ·subst hj
   rw [if_pos rfl]at e2
   rw [hx]at e1
   cases e1;cases e2
   exact⟨y,by simp,hv⟩
  ·rw [if_neg hj]at e2
   have hz:z≠x:=by
    rintro rfl
    exact hj (nodup_inj hn (a:=z) (by simp [e1]) (by simp [hx]))
   refine xE12 (q j z u e1 e2) fun u' p1 p2=>?_
   exact⟨u',by simp [hz,p1],p2⟩
 ·intro j ao e
  refine xE23 (R.obj j ao e) fun a o e1 e2 e3=>?_
  exact⟨a,o,e1,(hs.2 a (R.off a (List.mem_of_getElem? e1))).trans e2,e3⟩
end
end Mine
end
section
open PySem PySem.W PyProof.Rows PySem.Calls
set_option maxRecDepth 100000
set_option linter.unusedVariables false
set_option autoImplicit false
namespace Mine
structure St (w:World) (B:Base) (env:Env) (f:Nat→Option Nat) (α:List Addr) (ρ:Rho) (σ:Sto) (os:OsState) (s:Shared):Prop where
 rel:Rel w B env f α ρ σ s.heap
 gens:s.gens=#[]
 os:s.os=os
noncomputable abbrev Ef:Value→Shared→Prop:=fun _ _=>False
structure Room (A:Around) (n:Nat):Prop where
 handled:A.handled=none
 depth:A.depth+8 * n<900
 units:A.units+40 * n<9000
structure EnvOk (env:Env):Prop where
 kind:env.scope.kind=.function
 globals:env.globals=mainGlobals
 builtins:env.builtins=builtinsNs
 nodup:(env.scope.names.map (·.1)).Nodup
noncomputable def KK (P:Params):Frag:=(K P).filter fun p=>p.1 != 317
structure Gd (w:World) (B:Base):Prop where
 K:∀ h:Heap,(∀ b o,B b=some o→h.get? b=some o)→(KK w.params).In h
 T:∃ mg mb,(∀ h:Heap,(∀ b o,B b=some o→h.get? b=some o)→TopRead qv (looseW qv loose) mg mb h)∧
  ∃ bm ob,mg "__builtins__"=some (.ref bm)∧bm≠builtinsNs∧B bm=some ob∧ob.cls=.type "module"∧ob.dict=some builtinsNs∧ob.data=.plain
theorem Gd.mono {w:World}{B B':Base} (G:Gd w B) (hb:Sub B B'):Gd w B':=
 ⟨fun h k=>G.K h fun b o e=>k b o (hb.keep b o e),let ⟨mg,mb,T,bm,ob,h1,h2,h3,h4⟩:=G.T;⟨mg,mb,fun h k=>T h fun b o e=>k b o (hb.keep b o e),bm,ob,h1,h2,hb.keep _ _ h3,h4⟩⟩
noncomputable def EvOk (w:World) (A:Around) (B:Base) (env:Env) (f:Nat→Option Nat) (t:Sem Value) (ρ:Rho) (σ:Sto) (v:AV) (σ':Sto):Prop:=
 ∀ (α:List Addr) (os:OsState) (s:Shared) (Q:Value→Shared→Prop),St w B env f α ρ σ os s→
  (∀ α' x s',α <+: α'→St w B env f α' ρ σ' os s'→VR α' v x→Q x s')→wpAny (model pw w) A t Q Ef s
noncomputable def TsOk (w:World) (A:Around) (B:Base) (env:Env) (f:Nat→Option Nat) (t:Sem Bool) (ρ:Rho) (σ:Sto) (c:Bool) (σ':Sto):Prop:=
 ∀ (α:List Addr) (os:OsState) (s:Shared) (Q:Bool→Shared→Prop),St w B env f α ρ σ os s→
  (∀ α' s',α <+: α'→St w B env f α' ρ σ' os s'→Q c s')→wpAny (model pw w) A t Q Ef s
section
variable {w:World}{A:Around}{B:Base}{env:Env}{f:Nat→Option Nat}{α:List Addr}{ρ:Rho}{σ σ':Sto}{os:OsState}{s:Shared}
theorem St.toks (S:St w B env f α ρ σ os s) (t:Nat):St w B env f α ρ σ os { s with toks:=t }:=⟨S.rel,S.gens,S.os⟩
theorem St.heap (S:St w B env f α ρ σ os s){h':Heap}{t:Nat} (R:Rel w B env f α ρ σ h'):St w B env f α ρ σ os { s with heap:=h',toks:=t }:=⟨R,S.gens,S.os⟩
theorem pre_refl {β:Type} (l:List β):l <+: l:=⟨[],List.append_nil l⟩
theorem pre_trans {β:Type}{a b c:List β} (h:a <+: b) (k:b <+: c):a <+: c:=h.trans k
theorem idx_go {sc:List (Str×NameKind)}{x:Str}:∀ {n:Nat}{r:Nat×NameKind},idx.go x n sc=some r→n≤r.1∧sc[r.1 - n]? = some (x,r.2)∧sc.lookup x=some r.2:=by
 induction sc with
 | nil=>intro n r e;cases e
 | cons p l ih=>
  intro n r e
  obtain⟨y,k⟩:=p
  unfold idx.go at e
  by_cases h:y=x
  ·subst h
   simp only [beq_self_eq_true,if_true,Option.some.injEq]at e
   subst e
   simp
  ·have hb:(y == x)=false:=by simpa using h
   have hb':(x == y)=false:=by simpa using fun e=>h e.symm
   rw [hb]at e
   simp only [Bool.false_eq_true,if_false]at e
   refine xE03 (ih e) fun h1 h2 h3=>?_
   refine⟨by lia,?_,?_⟩
   ·rw [show r.1 - n=(r.1 - (n+1))+1 by lia,List.getElem?_cons_succ];exact h2
   ·rw [List.lookup_cons,hb'];exact h3
theorem idx_spec {sc:Scope}{x:Str}{i:Nat}{k:NameKind} (e:idx sc x=some (i,k)):sc.names[i]? = some (x,k)∧sc.names.lookup x=some k:=by
 refine xE03 (idx_go e) fun _ h2 h3=>?_
 exact⟨by simpa using h2,h3⟩
theorem debug_ne {x:Str} (h:x≠("__debug__":Str)):(x == ("__debug__":Str))=false:=by simpa using h
theorem ev_var {x:Str}{pos:Pos}{i:Nat}{v:AV} (O:EnvOk env) (hd:(x == ("__debug__":Str))=false) (e:idx env.scope x=some (i,.local)) (hv:ρ i=some v) :
  EvOk w A B env f (eval (.Name x pos) env) ρ σ v σ:=by
 intro α os s Q S k
 refine xE02 (idx_spec e) fun h1 h2=>?_
 refine xE12 S.rel.loc fun m F q=>?_
 refine xE12 (q i x v h1 hv) fun y e1 r=>?_
 exact wpAny_Name (wpAny_loadName_local O.kind h2 F e1 (k α y s (pre_refl α) S r)) hd
theorem ev_none {c:Nat}{pos:Pos}:EvOk w A B env f (eval (.Constant .none c pos) env) ρ σ .none σ:=fun α os s Q S k=>wpAny_Constant_none (k α _ s (pre_refl α) S .none)
theorem ev_bool {b:Bool}{c:Nat}{pos:Pos}:EvOk w A B env f (eval (.Constant (.bool b) c pos) env) ρ σ (.bool b) σ:=fun α os s Q S k=>wpAny_Constant_bool (k α _ s (pre_refl α) S (.bool b))
theorem ev_int {i:Int}{c:Nat}{pos:Pos}:EvOk w A B env f (eval (.Constant (.int i) c pos) env) ρ σ (.int i) σ:=fun α os s Q S k=>wpAny_Constant_int (k α _ _ (pre_refl α) (S.toks _) (.int i _))
theorem ev_str {x:Str}{c:Nat}{pos:Pos}:EvOk w A B env f (eval (.Constant (.str x) c pos) env) ρ σ (.str x) σ:=fun α os s Q S k=>wpAny_Constant_str (k α _ _ (pre_refl α) (S.toks _) (.str x _))
theorem ev_bin {l r:Expr}{op:Operator}{pos:Pos}{a b v:AV}{σ₁ σ₂ σ₃:Sto} (h1:EvOk w A B env f (eval l env) ρ σ a σ₁) (h2:EvOk w A B env f (eval r env) ρ σ₁ b σ₂)
  (h3:∀ (α:List Addr) (os:OsState) (s:Shared) (Q:Value→Shared→Prop) (x y:Value),St w B env f α ρ σ₂ os s→VR α a x→VR α b y→
   (∀ α' z s',α <+: α'→St w B env f α' ρ σ₃ os s'→VR α' v z→Q z s')→wpAny (model pw w) A (binaryOp op x y) Q Ef s) :
  EvOk w A B env f (eval (.BinOp l op r pos) env) ρ σ v σ₃:=by
 intro α os s Q S k
 refine wpAny_BinOp (h1 α os s _ S fun α₁ x s₁ p1 S1 r1=>h2 α₁ os s₁ _ S1 fun α₂ y s₂ p2 S2 r2=>?_)
 exact h3 α₂ os s₂ Q x y S2 (r1.mono p2) r2 fun α₃ z s₃ p3 S3 r3=>k α₃ z s₃ ((p1.trans p2).trans p3) S3 r3
theorem ev_cmp {l r:Expr}{op:CmpOp}{pos:Pos}{a b:AV}{c:Bool}{σ₁ σ₂:Sto} (hm:behindInMarks op r=false) (h1:EvOk w A B env f (eval l env) ρ σ a σ₁) (h2:EvOk w A B env f (eval r env) ρ σ₁ b σ₂)
  (h3:∀ (α:List Addr) (os:OsState) (s:Shared) (Q:Value→Shared→Prop) (x y:Value),St w B env f α ρ σ₂ os s→VR α a x→VR α b y→
   (∀ s',St w B env f α ρ σ₂ os s'→Q (.bool c) s')→wpAny (model pw w) A (compareOp op x y) Q Ef s) :
  EvOk w A B env f (eval (.Compare l [op] [r] pos) env) ρ σ (.bool c) σ₂:=by
 intro α os s Q S k
 refine wpAny_Compare1 (hm:=hm) (h1 α os s _ S fun α₁ x s₁ p1 S1 r1=>h2 α₁ os s₁ _ S1 fun α₂ y s₂ p2 S2 r2=>?_)
 exact h3 α₂ os s₂ _ x y S2 (r1.mono p2) r2 fun s₃ S3=>k α₂ _ s₃ (p1.trans p2) S3 (.bool c)
end
end Mine
end
section
open PySem PySem.W PyProof.Rows PySem.Calls
set_option maxRecDepth 100000
set_option linter.unusedVariables false
set_option autoImplicit false
namespace Mine
section
variable {w:World}{A:Around}{B:Base}{env:Env}{f:Nat→Option Nat}{α:List Addr}{ρ:Rho}{σ σ':Sto}{os:OsState}{s:Shared}
theorem size_line {n:Nat} (h:n≤1000000):n≤sizeLine:=by rw [sizeLine_eq];lia
theorem St.at (S:St w B env f α ρ σ os s){l:Nat}{a:Addr}{ao:AO} (h:VR α (.loc l) (.ref a)) (e:σ[l]? = some ao):∃ o,s.heap.get? a=some o∧CR w α ao o∧α[l]? = some a:=by
 cases h with
 | loc h=>exact xE23 (S.rel.obj l ao e) fun a' o e1 e2 e3=>Option.some.inj (e1.symm.trans h) ▸ ⟨o,e2,e3,e1⟩
theorem VR.ref_of {l:Nat}{x:Value} (h:VR α (.loc l) x):∃ a,x=.ref a∧VR α (.loc l) (.ref a):=by
 cases h with
 | loc h=>exact⟨_,rfl,.loc h⟩
theorem VR.int_of {i:Int}{x:Value} (h:VR α (.int i) x):∃ t,x=.int i t:=by cases h;exact⟨_,rfl⟩
theorem VR.str_of {i:Str}{x:Value} (h:VR α (.str i) x):∃ t,x=.str i t:=by cases h;exact⟨_,rfl⟩
theorem VR.bool_of {i:Bool}{x:Value} (h:VR α (.bool i) x):x=.bool i:=by cases h;rfl
theorem VR.none_of {x:Value} (h:VR α .none x):x=.none:=by cases h;rfl
theorem VR.cst_of {v x:Value} (h:VR α (.cst v) x):x=v:=by cases h;rfl
theorem St.alloc (S:St w B env f α ρ σ os s){o:Obj}{ao:AO} (hf:o.isFreed=false) (hc:CR w (α++[s.heap.objs.size]) ao o){t:Nat} :
  St w B env f (α++[s.heap.objs.size]) ρ (σ++[ao]) os { s with heap:=s.heap.push o,toks:=t }∧VR (α++[s.heap.objs.size]) (.loc σ.length) (.ref s.heap.objs.size):=
 ⟨⟨S.rel.allocPush hf hc,S.gens,S.os⟩,.loc (by rw [←S.rel.len];simp)⟩
theorem St.push (S:St w B env f α ρ σ os s) (o:Obj){t:Nat}:St w B env f α ρ σ os { s with heap:=s.heap.push o,toks:=t }:=⟨S.rel.push o,S.gens,S.os⟩
@[elab_as_elim] theorem VR.refE {P:Value→Prop}{l:Nat}{x:Value} (h:VR α (.loc l) x) (k:∀ a,VR α (.loc l) (.ref a)→P (.ref a)):P x:=by
 cases h with
 | loc h=>exact k _ (.loc h)
@[elab_as_elim] theorem VR.intE {P:Value→Prop}{i:Int}{x:Value} (h:VR α (.int i) x) (k:∀ t,P (.int i t)):P x:=by cases h;exact k _
@[elab_as_elim] theorem VR.strE {P:Value→Prop}{i:Str}{x:Value} (h:VR α (.str i) x) (k:∀ t,P (.str i t)):P x:=by cases h;exact k _
@[elab_as_elim] theorem VR.boolE {P:Value→Prop}{i:Bool}{x:Value} (h:VR α (.bool i) x) (k:P (.bool i)):P x:=by cases h;exact k
@[elab_as_elim] theorem VR.noneE {P:Value→Prop}{x:Value} (h:VR α .none x) (k:P .none):P x:=by cases h;exact k
@[elab_as_elim] theorem VR.cstE {P:Value→Prop}{v x:Value} (h:VR α (.cst v) x) (k:P v):P x:=by cases h;exact k
theorem listAt {h:Heap}{l:Nat}{a:Addr}{xs:List AV}{G:Prop} (H:∃ o,h.get? a=some o∧CR w α (.list xs) o∧α[l]? = some a)
  (k:∀ it n,h.get? a=some { cls:=.type "list",dict:=none,data:=.seq it n,slots:=#[] }→VRs α xs it.toList→xs.length=it.size→α[l]? = some a→G):G:=
 let ⟨_,g,⟨it,n,e,r⟩,m⟩:=H
 k it n (e ▸ g) r r.length m
section
variable {P:Value→Prop}{β:Type}{r:β}{b:AV}{y:Value}
@[elab_as_elim] theorem int_v {F:Int→Option β} (h:(asInt b).bind F=some r) (hb:VR α b y) (k:∀ j t,F j=some r→P (.int j t)):P y:=by
 cases hb with
 | int j t=>exact k j t h
 | _=>exact nn h
@[elab_as_elim] theorem str_v {F:Str→Option β} (h:(asStr b).bind F=some r) (hb:VR α b y) (k:∀ j t,F j=some r→P (.str j t)):P y:=by
 cases hb with
 | str j t=>exact k j t h
 | _=>exact nn h
@[elab_as_elim] theorem loc_v {F:Nat→Option β} (h:(asLoc b).bind F=some r) (hb:VR α b y) (k:∀ l a,VR α (.loc l) (.ref a)→F l=some r→P (.ref a)):P y:=by
 cases hb with
 | loc e=>exact k _ _ (.loc e) h
 | _=>exact nn h
end
noncomputable def BinPost (w:World) (B:Base) (env:Env) (f:Nat→Option Nat) (α:List Addr) (ρ:Rho) (σ':Sto) (os:OsState) (v:AV) (Q:Value→Shared→Prop):Prop:=
 ∀ α' z s',α <+: α'→St w B env f α' ρ σ' os s'→VR α' v z→Q z s'
theorem bin_ok {op:Operator}{a b v:AV}{x y:Value}{Q:Value→Shared→Prop} (e:binop op a b σ=some (v,σ')) (S:St w B env f α ρ σ os s) (ha:VR α a x) (hb:VR α b y)
  (k:BinPost w B env f α ρ σ' os v Q):wpAny (model pw w) A (binaryOp op x y) Q Ef s:=by
 have k {v':AV}{τ:Sto} (e:(v',τ)=(v,σ')):BinPost w B env f α ρ τ os v' Q:=by cases e;exact k
 cases op with
 | Add=>
  cases ha with
  | int i t=>exact int_v e hb fun j u e=>add_int (k (Option.some.inj e) α _ _ (pre_refl α) (S.toks _) (.int _ _))
  | str p t=>exact str_v e hb fun j u e=>xE02 (iteS e) fun hq e=>SB.add (fun t' k'=>k e α _ _ (pre_refl α) (S.toks _) (.str _ _)) (size_line (Nat.le_trans hq (by decide)))
  | loc ha=>
   refine list_e' e fun xs e1 h1=>loc_v h1 hb fun m am hb h2=>list_e' h2 fun ys e2 h3=>xE02 (iteS h3) fun hz e=>?_
   refine listAt (S.at (.loc ha) e1) fun it1 n1 g1 r1 z1 _=>listAt (S.at hb e2) fun it2 n2 g2 r2 z2 _=>?_
   have hp:α <+: α++[s.heap.objs.size]:=⟨_,rfl⟩
   refine P.add_list (items:=it1) (items2:=it2) g1 g2 ?_ (size_line (z1 ▸ z2 ▸ Nat.le_trans hz (by decide)))
   refine xE02 (S.alloc (o:={ cls:=.type "list",data:=.seq (it1++it2) }) (ao:=.list (xs++ys)) (t:=s.toks) rfl ⟨it1++it2,0,rfl,by
    rw [Array.toList_append];exact(r1.mono hp).append (r2.mono hp)⟩) fun S' r=>?_
   exact k e _ _ _ hp S' r
  | _=>exact nn e
 | Sub=>exact int_v e ha fun i t e=>int_v e hb fun j u e=>sub_int (k (Option.some.inj e) α _ _ (pre_refl α) (S.toks _) (.int _ _))
 | Mod=>exact int_v e ha fun i t e=>int_v e hb fun j u e=>xE02 (iteS e) fun hj e=>mod_int' (by lia) (k e α _ _ (pre_refl α) (S.toks _) (.int _ _))
 | FloorDiv=>exact int_v e ha fun i t e=>int_v e hb fun j u e=>xE02 (iteS e) fun hj e=>floordiv_int (by lia) (k e α _ _ (pre_refl α) (S.toks _) (.int _ _)) (hp:=.inl (PyProof.noPylong_small (by lia)))
 | _=>exact nn e
end
end Mine
end
section
open PySem PySem.W PyProof.Rows PySem.Calls PySem.SeqAt
set_option maxRecDepth 100000
set_option linter.unusedVariables false
set_option autoImplicit false
namespace Mine
theorem kk_eq (P:Params):findIn (KK P) (.ref 135) "__eq__"=some (some (.builtin "tuple.__eq__")):=by kernel_rfl
theorem kk_lt (P:Params):findIn (KK P) (.ref 135) "__lt__"=some (some (.builtin "tuple.__lt__")):=by kernel_rfl
theorem kk_sub (P:Params):mroIn (KK P) 135 (.type "tuple")=some true:=by kernel_rfl
theorem tup_sub:isSubtype (.type "tuple") (.ref 135)=pure false:=by kernel_rfl
noncomputable abbrev MObj (items:Array Value) (n:Nat) (dd:Option Addr):Obj:={ cls:=.ref 135,dict:=dd,data:=.seq items n,slots:=#[] }
section
variable {prog:Program}{w:World}{P:Params}{A:Around}{E:Value→Shared→Prop}{s:Shared}{l b:Addr}{items items2:Array Value}{n n2:Nat}{dd dd2:Option Addr}
theorem m_typeOf {M:Model}{Q:Value→Shared→Prop} (hm:s.heap.get? l=some (MObj items n dd)) (h:Q (.ref 135) s):wpAny M A (typeOf (.ref l)) Q E s:=
 wpAny_bind (wpAny_loadPart hm (wpAny_pure h))
theorem m_inst {M:Model}{Q:Bool→Shared→Prop} (X:(KK P).In s.heap) (hm:s.heap.get? l=some (MObj items n dd)) (h:Q true s):wpAny M A (isInstance (.ref l) (.type "tuple")) Q E s:=by
 simp only [isInstance]
 exact wpAny_bind (m_typeOf hm ((looks_mroIn X (kk_sub P)).at h))
theorem m_call {id m:String}{f:Builtin}{rest:List Value}{Q:Value→Shared→Prop} (X:(KK P).In s.heap) (hm:s.heap.get? l=some (MObj items n dd))
  (hk:builtinKind id=some .slot) (hsplit:splitId id=some ("tuple",m)) (hq:plainId id=true) (he:entryFor table id=some f) (ha:argsOk id ⟨.ref l :: rest,[]⟩)
  (h:wpAny (model prog w) A.in1 (f ⟨.ref l :: rest,[]⟩) (fun fin s'=>∃ v,fin=.done (.ret v)∧Q v s') E s):wpAny (model prog w) A (call (.builtin id) (.ref l :: rest)) Q E s:=by
 refine wpAny_call (codeAny_call_builtin hq he ?_)
 simp only [checkBuiltinCall,hk,hsplit]
 refine wpAny_bind (m_inst X hm ?_)
 simp only [Bool.not_true,Bool.false_eq_true,if_false]
 have fin:=wpAny_mono (Q':=fun fin s'=>match fin with | .done (.ret v)=>Q v s' | _=>False) (E':=E) h (fun fin s' h'=>by obtain⟨v,rfl,hv⟩:=h';exact hv) fun _ _ h'=>h'
 cases hsig:Manifest.signature? id with
 | none=>
  refine wpAny_pure (wpAny_mono h (fun fin s' h'=>?_) fun _ _ h'=>h')
  obtain⟨v,rfl,hv⟩:=h';exact hv
 | some sig=>
  simp only [argsOk,hsig]at ha
  have h2:Bind.checkArgs id sig ⟨.ref l :: rest,[]⟩=pure ():=ha
  show wpAny _ _ (Bind.checkArgs id sig ⟨.ref l :: rest,[]⟩) _ _ s
  rw [h2]
  refine wpAny_pure (wpAny_mono h (fun fin s' h'=>?_) fun _ _ h'=>h')
  obtain⟨v,rfl,hv⟩:=h';exact hv
theorem m_tryCompare {id m:String}{name:Str}{f:Builtin}{x:Value}{Q:Option Value→Shared→Prop} (X:(KK P).In s.heap) (hm:s.heap.get? l=some (MObj items n dd))
  (hf:findIn (KK P) (.ref 135) name=some (some (.builtin id))) (hb:∀ self,bindSpecial (.builtin id) self=pure (.builtin id,[self])) (hk:builtinKind id=some .slot) (hsplit:splitId id=some ("tuple",m))
  (hq:plainId id=true) (he:entryFor table id=some f) (ha:argsOk id ⟨[.ref l,x],[]⟩)
  (h:wpAny (model prog w) A.in1 (f ⟨[.ref l,x],[]⟩) (fun fin s'=>∃ v,fin=.done (.ret v)∧v≠.notImplemented∧Q (some v) s') E s):wpAny (model prog w) A (tryCompare (.ref l) name x) Q E s:=by
 simp only [tryCompare]
 refine wpAny_bind ?_
 simp only [callSpecialIfBound?,bindSpecialIfBound?]
 refine wpAny_holding (wpAny_bind (wpAny_bind ?_))
 show wpAny _ _ (typeOf (.ref l) >>= fun t=>typeLookup t name) _ _ _
 refine wpAny_bind (m_typeOf hm ((looks_findIn X hf).at ?_))
 simp only [hb]
 have fin:wpAny (model prog w) A (call (.builtin id) ([.ref l]++[x]) >>= fun v=>pure (some v)) (fun r s'=>wpAny (model prog w) A (match r with | some .notImplemented | none=>pure none | some v=>pure (some v)) Q E s') E s:=by
  refine wpAny_bind (m_call X hm hk hsplit hq he ha (wpAny_mono h (fun fin s' h'=>?_) fun _ _ h'=>h'))
  obtain⟨v,rfl,hv,hq⟩:=h'
  refine⟨v,rfl,wpAny_pure ?_⟩
  cases v <;> first | exact absurd rfl hv | exact wpAny_pure hq
 refine wpAny_bind (wpAny_askSetting (wpAny_ite ?_))
 split
 ·exact wpAny_bind (wpAny_pure (wpAny_pure fin))
 ·exact wpAny_tryCatch (wpAny_bind (wpAny_pure (wpAny_pure fin)))
end
theorem kind_tuple_eq:builtinKind "tuple.__eq__"=some .slot:=by kernel_rfl
theorem kind_tuple_lt:builtinKind "tuple.__lt__"=some .slot:=by kernel_rfl
section
variable {prog:Program}{w:World}{P:Params}{A:Around}{E:Value→Shared→Prop}{s:Shared}{l b:Addr}{n n2:Nat}{dd dd2:Option Addr}
theorem m_eq_run {a1 b1 c1 a2 b2 c2:Int}{t1 t2 t3 u1 u2 u3:Tok} (hm:s.heap.get? l=some (MObj #[.int a1 t1,.int b1 t2,.int c1 t3] n dd))
  (hb:s.heap.get? b=some { cls:=.type "tuple",dict:=none,data:=.seq #[.int a2 u1,.int b2 u2,.int c2 u3] n2,slots:=#[] }){Q:Value→Shared→Prop} (h:Q (.bool (decide (a1=a2) && (decide (b1=b2) && decide (c1=c2)))) s) :
  wpAny (model prog w) A (Builtin.«tuple.__eq__» ⟨[.ref l,.ref b],[]⟩) (fun fin s'=>∃ v,fin=.done (.ret v)∧Q v s') E s:=by
 obtain⟨hp,g,d,tk,os⟩:=s
 have f2:=AutoSeq1.sub_tuple_tuple
 wp_walk using AutoSeq1.wpAny_loadPart' hm,AutoSeq1.wpAny_loadPart' hb,wpAny_eqBool_int
 by_cases e1:a1=a2
 case neg=>
  rw [show(a1 == a2)=false by simpa using e1]
  rw [show decide (a1=a2)=false by simpa using e1]at h
  wp_walk
  exact⟨_,rfl,h⟩
 subst e1
 rw [beq_self_eq_true]
 wp_walk using wpAny_eqBool_int
 by_cases e2:b1=b2
 case neg=>
  rw [show(b1 == b2)=false by simpa using e2]
  rw [show decide (b1=b2)=false by simpa using e2]at h
  wp_walk
  exact⟨_,rfl,by simpa using h⟩
 subst e2
 rw [beq_self_eq_true]
 wp_walk using wpAny_eqBool_int
 by_cases e3:c1=c2
 case neg=>
  rw [show(c1 == c2)=false by simpa using e3]
  rw [show decide (c1=c2)=false by simpa using e3]at h
  wp_walk
  exact⟨_,rfl,by simpa using h⟩
 subst e3
 rw [beq_self_eq_true]
 wp_walk using wpAny_eqBool_int
 exact⟨_,rfl,by simpa [Builtin.Tuple.tupleCompareSizes] using h⟩
theorem m_eq {a1 b1 c1 a2 b2 c2:Int}{t1 t2 t3 u1 u2 u3:Tok} (X:(KK P).In s.heap) (hm:s.heap.get? l=some (MObj #[.int a1 t1,.int b1 t2,.int c1 t3] n dd)) (hu:A.units<cLine)
  (hb:s.heap.get? b=some { cls:=.type "tuple",dict:=none,data:=.seq #[.int a2 u1,.int b2 u2,.int c2 u3] n2,slots:=#[] }){Q:Value→Shared→Prop} (h:Q (.bool (decide (a1=a2) && (decide (b1=b2) && decide (c1=c2)))) s) :
  wpAny (model prog w) A (richCompare .Eq (.ref l) (.ref b)) Q E s:=by
 simp only [richCompare,cmpInfo]
 refine wpAny_holding ?_
 refine wpAny_bind (wpAny_cRoomFor_or (.inr hu) ?_)
 rw [show oneThing? .Eq (.ref l) (.ref b)=none from rfl]
 refine wpAny_bind (m_typeOf hm (wpAny_bind (wpAny_bind (wpAny_loadPart hb (wpAny_pure ?_)))))
 simp only [tup_sub]
 refine wpAny_bind (wpAny_pure ?_)
 ·simp only [Bool.false_eq_true,if_false]
  refine wpAny_bind (m_tryCompare X hm (kk_eq _) F.slot_tuple_eq.bind kind_tuple_eq (m:="__eq__") (by decide +kernel) F.slot_tuple_eq.plain F.entry_tuple_eq (F.args_tuple_eq_2 _ _) ?_)
  refine wpAny_mono (m_eq_run hm hb (Q:=fun v s'=>v≠.notImplemented∧Q v s') ⟨(fun e=>nomatch e),h⟩) (fun fin s' h'=>?_) fun _ _ h'=>h'
  refine xE13 h' fun v q4_ hv hq=>?_
  subst q4_
  exact⟨v,rfl,hv,wpAny_pure hq⟩
end
section
variable {w:World}{A:Around}{α:List Addr}{σ:Sto}{s:Shared}
theorem VRs.three {a b c:Int}{xs:List Value} (r:VRs α [.int a,.int b,.int c] xs):∃ t u v,xs=[.int a t,.int b u,.int c v]:=by
 cases r with
 | cons p1 r=>cases r with
  | cons p2 r=>cases r with
   | cons p3 r=>cases r;cases p1;cases p2;cases p3;exact⟨_,_,_,rfl⟩
noncomputable def Obs (w:World) (α:List Addr) (σ:Sto) (h:Heap):Prop:=∀ (i:Nat) (ao:AO),σ[i]? = some ao→∃ a o,α[i]? = some a∧h.get? a=some o∧CR w α ao o
theorem Obs.at {h:Heap} (S:Obs w α σ h){l:Nat}{a:Addr}{ao:AO} (hv:VR α (.loc l) (.ref a)) (e:σ[l]? = some ao):∃ o,h.get? a=some o∧CR w α ao o∧α[l]? = some a:=by
 cases hv with
 | loc hv=>exact xE23 (S l ao e) fun a' o e1 e2 e3=>Option.some.inj (e1.symm.trans hv) ▸ ⟨o,e2,e3,e1⟩
theorem allM_some {f:AV→AV→Option Bool}:∀ {xs ys:List AV}{c:Bool},xs.length=ys.length→allM f xs ys=some c→
  ∃ e:Nat→Bool,(∀ i x y,xs[i]? = some x→ys[i]? = some y→f x y=some (e i))∧c=(List.range xs.length).all e:=by
 intro xs
 induction xs with
 | nil=>exact fun _ h=>⟨fun _=>true,fun i x y e=>nn (List.getElem?_nil.symm.trans e),(Option.some.inj h).symm⟩
 | cons x xs ih=>
  intro ys c hl h
  cases ys with
  | nil=>exact nomatch hl
  | cons y ys=>
   refine byG fun G4 k4=>?_
   refine xE12 (bnd h) fun b h1 h=>xE12 (bnd h) fun c' h2 h=>xE12 (ih (Nat.succ.inj hl) h2) fun e he q=>?_
   refine k4 ?_
   refine⟨fun i=>Nat.rec b (fun i _=>e i) i,fun i x' y' hx hy=>?_,?_⟩
   ·cases i with
    | zero=>exact Option.some.inj hx ▸ Option.some.inj hy ▸ h1
    | succ i=>exact he i x' y' hx hy
   ·rw [←Option.some.inj h,q,List.length_cons,List.range_succ_eq_map,List.all_cons,List.all_map]
    rfl
theorem int3_e {xs:List AV}{β:Type}{F:Int×Int×Int→Option β}{r:β}{C:Prop} (h:(int3 xs).bind F=some r) (k:∀ a b c,xs=[.int a,.int b,.int c]→F (a,b,c)=some r→C):C:=by
 refine xE12 (bnd h) fun q e h=>?_
 rcases xs with _ | ⟨x,_ | ⟨y,_ | ⟨z,_ | ⟨u,xs⟩⟩⟩⟩
 case cons.cons.cons.nil=>
  refine int_e e fun a p h1=>int_e h1 fun b p2 h2=>int_e h2 fun c p3 h3=>?_
  clear e h1 h2
  cases p;cases p2;cases p3;cases h3
  exact k a b c rfl h
 all_goals cases e
theorem eqO_e {eq:AV→AV→Option Bool}{x y:AO}{c:Bool}{C:Prop} (h:eqO eq x y=some c) (k1:∀ xs ys,x=.list xs→y=.list ys→(if xs.length=ys.length then allM eq xs ys else some false)=some c→C)
  (k2:∀ a b d a' b' d',x=.tup (.ref 135) [.int a,.int b,.int d]→y=.tup (.type "tuple") [.int a',.int b',.int d']→(decide (a=a') && (decide (b=b') && decide (d=d')))=c→C):C:=by
 cases x with
 | list xs=>
  cases y with
  | list ys=>exact k1 xs ys rfl rfl h
  | _=>exact nn h
 | tup t xs=>
  cases y with
  | tup u ys=>
   obtain⟨⟨rfl,rfl⟩,h⟩:=iteO h
   refine int3_e h fun a b d p h1=>int3_e h1 fun a' b' d' q h2=>?_
   cases p;cases q
   exact k2 _ _ _ _ _ _ rfl rfl (Option.some.inj h2)
  | _=>exact nn h
 | _=>exact nn h
theorem eqv_self:∀ (n:Nat) (σ:Sto) (a:AV) (c:Bool),eqv n σ a a=some c→c=true:=by
 intro n
 induction n with
 | zero=>intro σ a c h;cases h
 | succ n ih=>
  intro σ a c h
  cases a with
  | int i=>exact(Option.some.inj h).symm.trans (decide_eq_true rfl)
  | str i=>exact(Option.some.inj h).symm.trans (decide_eq_true rfl)
  | loc l=>
   refine xE12 (bnd (x:=σ[l]?) h) fun x e1 h=>?_
   refine xE12 (bnd h) fun y e2 h=>?_
   cases e1.symm.trans e2
   refine eqO_e h (fun xs ys q1 q2 h=>?_) (fun a b d a' b' d' q1 q2 h=>?_)
   ·cases q1.symm.trans q2
    rw [if_pos rfl]at h
    refine xE12 (allM_some rfl h) fun e he q7_=>?_
    subst q7_
    simp only [List.all_eq_true,List.mem_range]
    intro i hi
    exact ih σ xs[i] _ (he i xs[i] xs[i] (by simp [hi]) (by simp [hi]))
   ·cases q1.symm.trans q2
  | _=>exact nn h
theorem eqv_ok {P:Params}:∀ (n:Nat){σ:Sto}{a b:AV}{x y:Value}{c:Bool}{A:Around}{s:Shared},eqv n σ a b=some c→(KK P).In s.heap→Obs w α σ s.heap→α.Nodup→VR α a x→VR α b y→A.units+n<cLine→
  RcAt A s x y c∧EqAt A s x y c:=by
 intro n
 induction n with
 | zero=>intro σ a b x y c A s h;cases h
 | succ n ih=>
  intro σ a b x y c A s h X S hn ha hb hu
  cases ha with
  | int i t=>exact int_v h hb fun j u e=>have e:(i == j)=c:=Option.some.inj e;⟨fun prog w E Q hq=>eq_int (e ▸ hq),fun prog w E Q hq=>wpAny_eqBool_int (e ▸ hq)⟩
  | str i t=>exact str_v h hb fun j u e=>have e':(i == j)=c:=Option.some.inj e;have e:decide (i=j)=c:=Option.some.inj e;⟨fun prog w E Q hq=>PyProof.Rows.eq_str (e' ▸ hq),fun prog w E Q hq=>wpAny_eqBool_str (e ▸ hq)⟩
  | @loc l a' hl=>
   cases hb with
   | @loc m b' hm=>
    have h1:((σ[l]?).bind fun x=>(σ[m]?).bind fun y=>eqO (eqv n σ) x y)=some c:=h
    have key:RcAt A s (.ref a') (.ref b') c:=by
     refine xE12 (bnd h1) fun x e1 h=>?_
     refine xE12 (bnd h) fun y e2 h=>?_
     refine eqO_e h (fun xs ys q1 q2 h3=>?_) (fun a b d a' b' d' q1 q2 h3=>?_)
     ·refine listAt (S.at (.loc hl) (q1 ▸ e1)) fun it1 n1 g1 r1 z1 _=>listAt (S.at (.loc hm) (q2 ▸ e2)) fun it2 n2 g2 r2 z2 _=>?_
      by_cases hlen:xs.length=ys.length
      ·rw [if_pos hlen]at h3
       refine xE12 (allM_some hlen h3) fun e he q10_=>?_
       subst q10_
       rw [z1]
       refine RcAt.lists ⟨_,g1,rfl,n1,rfl⟩ ⟨_,g2,rfl,n2,rfl⟩ (by lia) (by lia) fun j h1 h2=>?_
       have hx:xs[j]? = some (xs[j]'(by lia)):=by simp
       have hy:ys[j]? = some (ys[j]'(by lia)):=by simp
       refine xE12 (r1.get hx) fun x' p1 q1=>?_
       refine xE12 (r2.get hy) fun y' p2 q2=>?_
       have e1':x'=it1[j]:=by simpa [h1] using p1.symm
       have e2':y'=it2[j]:=by simpa [h2] using p2.symm
       subst e1' e2'
       exact(ih (he j _ _ hx hy) X S hn q1 q2 (by show A.units+1+n<cLine;lia)).2
      ·rw [if_neg hlen]at h3
       cases h3
       exact RcAt.lists_lengths ⟨_,g1,rfl,n1,rfl⟩ ⟨_,g2,rfl,n2,rfl⟩ (by simp;lia) (by lia)
     ·subst q1 q2 h3
      refine xE13 (S.at (.loc hl) e1) fun o1 g1 q11_ _=>?_
      refine xE33 q11_ fun it1 n1 dd1 q21_ r1 _=>?_
      subst q21_
      refine xE13 (S.at (.loc hm) e2) fun o2 g2 q12_ _=>?_
      refine xE33 q12_ fun it2 n2 dd2 q22_ r2 hd=>?_
      subst q22_
      cases hd rfl
      obtain⟨l1⟩:=it1
      obtain⟨l2⟩:=it2
      refine xE31 (VRs.three r1) fun t1 t2 t3 q13_=>?_
      subst q13_
      refine xE31 (VRs.three r2) fun u1 u2 u3 q14_=>?_
      subst q14_
      exact fun prog w E Q hq=>m_eq X g1 (by lia) g2 hq
    refine⟨key,?_⟩
    by_cases hab:a'=b'
    ·subst hab
     refine byG fun G8 k8=>?_
     have:l=m:=nodup_inj hn hl hm
     subst this
     refine k8 ?_
     rw [eqv_self _ _ _ _ h]
     exact EqAt.same _
    ·exact EqAt.of_refs hab key
   | _=>exact nn h
  | _=>exact nn h
end
end Mine
end
section
open PySem PySem.W PyProof.Rows PySem.Calls PySem.SeqAt
set_option maxRecDepth 100000
set_option linter.unusedVariables false
set_option autoImplicit false
namespace Mine
section
variable {K:Type} [DecidableEq K]
theorem lookup_map {mk:K→AV} (hi:∀ a b,mk a=mk b→a=b) (ks:List (K×AV)) (k:K):(ks.map fun p=>(mk p.1,p.2)).lookup (mk k)=ks.lookup k:=by
 induction ks with
 | nil=>rfl
 | cons p r ih=>
  rw [List.map_cons,List.lookup_cons,List.lookup_cons,ih]
  by_cases h:k=p.1
  ·simp [h]
  ·have:mk k≠mk p.1:=fun e=>h (hi _ _ e)
   rw [beq_false_of_ne h,beq_false_of_ne this]
theorem contains_fst {β γ:Type} [DecidableEq β] (es:List (β×γ)) (k:β):(es.map (·.1)).contains k=(es.lookup k).isSome:=by
 induction es with
 | nil=>rfl
 | cons p r ih=>
  rw [List.map_cons,List.contains_cons,List.lookup_cons,ih]
  by_cases h:k=p.1
  ·subst h;simp
  ·rw [beq_false_of_ne h];rfl
theorem valueAt_rel {α:List Addr}{ks:List (K×AV)}{kvs:List (K×Value)} (h1:kvs.map (·.1)=ks.map (·.1)) (h2:VRs α (ks.map (·.2)) (kvs.map (·.2))) (k:K) :
  (∀ v,ks.lookup k=some v→∃ y,valueAt kvs k=some y∧VR α v y)∧(ks.lookup k=none→valueAt kvs k=none):=by
 induction ks generalizing kvs with
 | nil=>cases kvs with
  | nil=>simp [valueAt]
  | cons=>simp at h1
 | cons p r ih=>cases kvs with
  | nil=>simp at h1
  | cons q l=>
   simp only [List.map_cons,List.cons.injEq]at h1 h2
   cases h2 with
   | cons hv hr=>
    have:=ih h1.2 hr
    unfold valueAt at this ⊢
    rw [List.lookup_cons,List.find?_cons]
    by_cases h:k=p.1
    ·subst h;simp [h1.1];exact hv
    ·have h':¬ q.1=k:=fun e=>h (by rw [←e,h1.1])
     rw [beq_false_of_ne h,decide_eq_false h']
     exact this
end
theorem isS_of {a:AV} (h:isS a=true):∃ s,a=.str s:=by
 cases a with
 | str s=>exact⟨s,rfl⟩
 | _=>exact Bool.noConfusion h
theorem isI_of {a:AV} (h:isI a=true):∃ s,a=.int s:=by
 cases a with
 | int s=>exact⟨s,rfl⟩
 | _=>exact Bool.noConfusion h
theorem allK {β:Type}{c:β→AV}{t:AV→Bool} (k:∀ {a:AV},t a=true→∃ s,a=c s){es:List (AV×AV)}:(es.all fun p=>t p.1)=true→∃ ks:List (β×AV),es=ks.map fun p=>(c p.1,p.2):=by
 induction es with
 | nil=>exact fun _=>⟨[],rfl⟩
 | cons p r ih=>exact fun(h:(t p.1 && r.all fun p=>t p.1)=true)=>(k (and1 h)).elim fun s e=>(ih (and2 h)).elim fun ks e'=>⟨(s,p.2) :: ks,(congrArg (fun a=>(a,p.2) :: r) e).trans (congrArg ((c s,p.2) :: ·) e')⟩
theorem str_inj:∀ a b:Str,AV.str a=AV.str b→a=b:=fun _ _ e=>AV.str.inj e
theorem int_inj:∀ a b:Int,AV.int a=AV.int b→a=b:=fun _ _ e=>AV.int.inj e
theorem strK_of {es:List (AV×AV)} (h:strK es=true):∃ ks:List (Str×AV),es=ks.map fun p=>(AV.str p.1,p.2):=allK isS_of h
theorem intK_of {es:List (AV×AV)} (h:intK es=true):∃ ks:List (Int×AV),es=ks.map fun p=>(AV.int p.1,p.2):=allK isI_of h
theorem strsAre {α:List Addr}{xs:List AV}{items:List Value} (r:VRs α xs items) (h:allStr xs=true):∃ ys,StrsAre items ys∧xs=ys.map AV.str:=by
 induction r with
 | nil=>exact⟨[],.nil,rfl⟩
 | cons a _ ih=>
  have h:(isS _ && allStr _)=true:=h
  refine xE12 (ih (and2 h)) fun ys h1 h2=>?_
  cases a with
  | str s t=>exact⟨s :: ys,.cons s t h1,congrArg (.str s :: ·) h2⟩
  | _=>exact Bool.noConfusion (and1 h)
theorem contains_str (ys:List Str) (s:Str):(ys.map AV.str).contains (.str s)=ys.any (· == s):=by
 induction ys with
 | nil=>rfl
 | cons y r ih=>
  rw [List.map_cons,List.contains_cons,List.any_cons,ih]
  congr 1
  by_cases h:s=y
  ·subst h;simp
  ·rw [beq_false_of_ne (fun e=>h (AV.str.inj e)),beq_false_of_ne (fun e=>h e.symm)]
section
variable {w:World}{A:Around}{B:Base}{env:Env}{f:Nat→Option Nat}{α:List Addr}{ρ:Rho}{σ σ':Sto}{os:OsState}{s:Shared}
theorem not_sys (R:Rel w B env f α ρ σ s.heap){l:Nat}{a:Addr} (h:α[l]? = some a):(a == sysModules)=false:=by
 have h1:=R.big.2 a (List.mem_of_getElem? h)
 have h2:a≠1:=by rintro rfl;exact absurd h1 (by decide)
 exact beq_false_of_ne h2
theorem SetR.of {h:Heap}{a:Addr}{o:Obj}{xs:List Str} (x:SetR w xs o) (e:h.get? a=some o):h.SetOf (strKind pw w) a (fun k=>xs.contains k) xs.length:=by
 refine xE02 x fun h1 q3_=>?_
 refine xE37 q3_ fun es ep t h2 h3 h4 h5 h6 h7 _=>?_
 exact⟨o,es,ep,t,e,h1,h2,h3,h4,h5,h6,h7⟩
theorem isStrOf_self (q:Str) (t:Tok):(strKind pw w).is q (.str q t)=true:=by
 show Value.isStrOf q (.str q t)=true
 simp [Value.isStrOf]
theorem St.obs (S:St w B env f α ρ σ os s):Obs w α σ s.heap:=S.rel.obj
theorem Gd.kk (G:Gd w B) (S:St w B env f α ρ σ os s):(KK w.params).In s.heap:=G.K _ S.rel.keep
theorem isIn_ok {a b:AV}{x y:Value}{c neg:Bool}{Q:Value→Shared→Prop} (e:isIn σ a b=some c) (S:St w B env f α ρ σ os s) (ha:VR α a x) (hb:VR α b y)
  (k:∀ s',St w B env f α ρ σ os s'→Q (.bool (if neg then !c else c)) s'):wpAny (model pw w) A (compareOp (if neg then .NotIn else .In) x y) Q Ef s:=by
 refine str_v e ha fun q t h1=>?_
 refine loc_v h1 hb fun l m hb h2=>?_
 refine xE12 (bnd h2) fun o e1 e=>?_
 cases o with
 | list xs=>
  refine xE02 (iteS e) fun hs e=>?_
  refine listAt (S.at hb e1) fun it1 n1 g1 r1 _ _=>?_
  refine xE12 (strsAre r1 hs) fun ys h1 q7_=>?_
  subst q7_
  rw [←e,contains_str]at k
  have hl:s.heap.IsList m it1.toList.toArray:=⟨_,g1,rfl,n1,rfl⟩
  cases neg
  ·exact in_list_strs hl h1 (k _ S)
  ·exact notin_list_strs hl h1 (k _ S)
 | set xs=>
  rw [←Option.some.inj e]at k
  refine xE13 (S.at hb e1) fun o1 g1 r1 _=>?_
  cases neg
  ·exact wpAny_inSet_of (isStrOf_self ..) rfl (SetR.of r1 g1) (k _ (S.toks _))
  ·exact wpAny_notInSet_of (isStrOf_self ..) rfl (SetR.of r1 g1) (k _ (S.toks _))
 | dict es=>
  refine xE02 (iteS e) fun hg e=>?_
  refine xE13 (S.at hb e1) fun o1 g1 r1 hm=>?_
  refine xE11 (strK_of hg) fun ks q8_=>?_
  subst q8_
  refine xE13 (r1.1 ks rfl) fun kvs hd h1 h2=>?_
  have hv:=valueAt_rel h1 h2 q
  have hc:(List.map (fun x=>x.1) (List.map (fun p:Str×AV=>(AV.str p.1,p.2)) ks)).contains (.str q)=(valueAt kvs q).isSome:=by
   rw [contains_fst,lookup_map str_inj]
   cases hk:ks.lookup q with
   | none=>rw [hv.2 hk];rfl
   | some v=>exact xE12 (hv.1 v hk) fun y hy _=>hy ▸ rfl
  rw [←e,hc]at k
  cases neg
  ·exact wpAny_in_of (isStrOf_self ..) (not_sys S.rel hm) (hd.at g1).mapOf (k _ (S.toks _))
  ·exact wpAny_notIn_of (isStrOf_self ..) (not_sys S.rel hm) (hd.at g1).mapOf (k _ (S.toks _))
 | _=>exact nn e
theorem is_ok {a b:AV}{x y:Value}{c neg:Bool}{Q:Value→Shared→Prop} (e:isSm σ a b=some c) (S:St w B env f α ρ σ os s) (ha:VR α a x) (hb:VR α b y)
  (k:Q (.bool (if neg then !c else c)) s):wpAny (model pw w) A (compareOp (if neg then .IsNot else .Is) x y) Q Ef s:=by
 have plain {x y:Value} (h1:plainIs x y=true) (h2:(x == y)=c):wpAny (model pw w) A (compareOp (if neg then .IsNot else .Is) x y) Q Ef s:=by
  subst h2
  cases neg
  ·exact wpAny_is_plain h1 k
  ·exact wpAny_isNot_plain h1 k
 cases hb with
 | none=>
  cases ha with
  | none=>exact plain rfl (Option.some.inj e)
  | int=>exact plain rfl (Eq.trans (beq_false_of_ne fun q=>nomatch q) (Option.some.inj e))
  | str=>exact plain rfl (Eq.trans (beq_false_of_ne fun q=>nomatch q) (Option.some.inj e))
  | loc=>exact plain rfl (Eq.trans (beq_false_of_ne fun q=>nomatch q) (Option.some.inj e))
  | _=>exact nn e
 | str=>exact loc_v e ha fun l p _ e=>plain rfl (Eq.trans (beq_false_of_ne fun q=>nomatch q) (Option.some.inj e))
 | @loc m b' hm=>
  refine loc_v e ha fun l a' ha h1=>?_
  refine list_e' h1 fun xs e1 h2=>?_
  refine listAt (S.at ha e1) fun it1 n1 g1 r1 _ hl=>?_
  have h2:decide (l=m)=c:=Option.some.inj h2
  by_cases h:l=m
  ·subst h
   cases hl.symm.trans hm
   rw [←h2,decide_eq_true rfl]at k
   cases neg
   ·exact wpAny_is_ref_self k
   ·exact wpAny_isNot_ref_self k
  ·rw [←h2,decide_eq_false h]at k
   have hne:a'≠b':=fun e=>h (nodup_inj S.rel.nd hl (e ▸ hm))
   have hlt:m<σ.length:=by rw [←S.rel.len];exact(List.getElem?_eq_some_iff.mp hm).1
   refine xE23 (S.rel.obj m σ[m] (by simp [hlt])) fun b2 o2 f1 f2 _=>?_
   rw [hm]at f1;cases f1
   cases neg
   ·exact wpAny_is_ref_other hne g1 f2 (by intro q;injection q with q;exact absurd q (by decide)) k
   ·exact wpAny_isNot_ref_other hne g1 f2 (by intro q;injection q with q;exact absurd q (by decide)) k
 | _=>exact nn e
theorem cmpI_ok {g:Int→Int→Bool}{P:Value→Value→Prop}{a b:AV}{x y:Value}{c:Bool} (e:cmpI g a b=some c) (ha:VR α a x) (hb:VR α b y) (k:∀ i j t u,g i j=c→P (.int i t) (.int j u)):P x y:=
 int_v e ha fun i t e=>int_v e hb fun j u e=>k i j t u (Option.some.inj e)
theorem cmp_ok {op:CmpOp}{a b:AV}{x y:Value}{c:Bool}{Q:Value→Shared→Prop} (e:cmpop op a b σ=some c) (G:Gd w B) (hu:A.units+10<cLine) (S:St w B env f α ρ σ os s) (ha:VR α a x) (hb:VR α b y)
  (k:∀ s',St w B env f α ρ σ os s'→Q (.bool c) s'):wpAny (model pw w) A (compareOp op x y) Q Ef s:=by
 cases op with
 | Eq=>exact(eqv_ok 5 e (G.kk S) S.obs S.rel.nd ha hb (by lia)).1 pw w Ef Q (k s S)
 | NotEq=>
  cases ha with
  | int i t=>
   refine int_v e hb fun j u e=>ne_int ?_
   have:(i != j)=decide (i≠j):=by by_cases q:i=j <;> simp [q]
   rw [this.trans (Option.some.inj e)];exact k s S
  | loc ha=>
   refine loc_v e hb fun m b' hb h1=>list_e' h1 fun xs e1 h2=>list_e' h2 fun ys e2 h3=>xE02 (iteS h3) fun hy e=>?_
   refine listAt (S.at (.loc ha) e1) fun it1 n1 g1 r1 z1 _=>listAt (S.at hb (hy ▸ e2)) fun it2 n2 g2 r2 z2 _=>?_
   rw [←e]at k
   cases xs with
   | nil=>exact RcNeAt.lists (e:=fun _=>true) ⟨_,g1,rfl,n1,rfl⟩ ⟨_,g2,rfl,n2,rfl⟩ (z1.symm.trans z2) (by lia) (fun j h1 h2=>absurd h1 (by rw [←z1];exact Nat.not_lt_zero _)) pw w Ef Q (by rw [←z1];exact k s S)
   | cons x xs=>exact RcNeAt.lists_lengths ⟨_,g1,rfl,n1,rfl⟩ ⟨_,g2,rfl,n2,rfl⟩ (by simp only [List.length_cons,List.length_nil]at z1 z2;simp;lia) (by lia) pw w Ef Q (k s S)
  | _=>exact nn e
 | Lt=>exact cmpI_ok (P:=fun x y=>wpAny (model pw w) A (compareOp .Lt x y) Q Ef s) e ha hb fun i j t u h=>PyProof.Rows.lt_int (h ▸ k s S)
 | LtE=>exact cmpI_ok (P:=fun x y=>wpAny (model pw w) A (compareOp .LtE x y) Q Ef s) e ha hb fun i j t u h=>PyProof.Rows.le_int (h ▸ k s S)
 | Gt=>exact cmpI_ok (P:=fun x y=>wpAny (model pw w) A (compareOp .Gt x y) Q Ef s) e ha hb fun i j t u h=>PyProof.Rows.gt_int (h ▸ k s S)
 | GtE=>exact cmpI_ok (P:=fun x y=>wpAny (model pw w) A (compareOp .GtE x y) Q Ef s) e ha hb fun i j t u h=>PyProof.Rows.ge_int (h ▸ k s S)
 | Is=>exact is_ok (neg:=false) e S ha hb (k s S)
 | IsNot=>
  exact xE12 (Option.map_eq_some_iff.mp e) fun c' e' q=>is_ok (neg:=true) e' S ha hb (q ▸ k s S)
 | In=>exact isIn_ok (neg:=false) e S ha hb k
 | NotIn=>
  exact xE12 (Option.map_eq_some_iff.mp e) fun c' e' q=>isIn_ok (neg:=true) e' S ha hb (q ▸ k)
end
end Mine
end
section
open PySem PySem.W PyProof.Rows PySem.Calls PySem.SeqAt
set_option maxRecDepth 100000
set_option linter.unusedVariables false
set_option autoImplicit false
namespace Mine
theorem lookup_mem' {β γ:Type} [DecidableEq β]{k:β}{v:γ}:∀ {l:List (β×γ)},l.lookup k=some v→(k,v)∈l:=by
 intro l
 induction l with
 | nil=>intro h;cases h
 | cons p r ih=>
  intro h
  rw [List.lookup_cons]at h
  by_cases e:k=p.1
  ·subst e;simp at h;subst h;simp
  ·rw [beq_false_of_ne e]at h;exact List.mem_cons_of_mem _ (ih h)
noncomputable def GlobAt (P:Params) (x:Str) (v:AV):Prop:=
 (∀ α,∃ y,VR α v y∧nsIn (KK P) mainGlobals x=some (some y))∨(nsIn (KK P) mainGlobals x=some none∧x≠"__name__"∧∀ α,∃ y,bootBuiltins x=some y∧VR α v y)
theorem glob_at (P:Params){x:Str}{v:AV} (h:globs.lookup x=some v):GlobAt P x v:=by
 have:=lookup_mem' h
 simp only [globs,List.mem_cons,Prod.mk.injEq,List.not_mem_nil,or_false]at this
 rcases this with ⟨rfl,rfl⟩ | ⟨rfl,rfl⟩ | ⟨rfl,rfl⟩ | ⟨rfl,rfl⟩ | ⟨rfl,rfl⟩ | ⟨rfl,rfl⟩ | ⟨rfl,rfl⟩ | ⟨rfl,rfl⟩ | ⟨rfl,rfl⟩ | ⟨rfl,rfl⟩ | ⟨rfl,rfl⟩ | ⟨rfl,rfl⟩ | ⟨rfl,rfl⟩ | ⟨rfl,rfl⟩ | ⟨rfl,rfl⟩ | ⟨rfl,rfl⟩ | ⟨rfl,rfl⟩
 ·exact .inl fun α=>⟨_,.cst _,by kernel_rfl⟩
 ·exact .inl fun α=>⟨_,.cst _,by kernel_rfl⟩
 ·exact .inl fun α=>⟨_,.cst _,by kernel_rfl⟩
 ·exact .inl fun α=>⟨_,.cst _,by kernel_rfl⟩
 ·exact .inl fun α=>⟨_,.cst _,by kernel_rfl⟩
 ·exact .inl fun α=>⟨_,.cst _,by kernel_rfl⟩
 ·exact .inl fun α=>⟨_,.cst _,by kernel_rfl⟩
 ·exact .inl fun α=>⟨_,.cst _,by kernel_rfl⟩
 ·exact .inl fun α=>⟨_,.cst _,by kernel_rfl⟩
 ·exact .inl fun α=>⟨.str "/" 575,.str _ _,by kernel_rfl⟩
 ·exact .inr ⟨by kernel_rfl,by decide,fun α=>⟨_,by kernel_rfl,.cst _⟩⟩
 ·exact .inr ⟨by kernel_rfl,by decide,fun α=>⟨_,by kernel_rfl,.cst _⟩⟩
 ·exact .inr ⟨by kernel_rfl,by decide,fun α=>⟨_,by kernel_rfl,.cst _⟩⟩
 ·exact .inr ⟨by kernel_rfl,by decide,fun α=>⟨_,by kernel_rfl,.cst _⟩⟩
 ·exact .inr ⟨by kernel_rfl,by decide,fun α=>⟨_,by kernel_rfl,.cst _⟩⟩
 ·exact .inr ⟨by kernel_rfl,by decide,fun α=>⟨_,by kernel_rfl,.cst _⟩⟩
 ·exact .inr ⟨by kernel_rfl,by decide,fun α=>⟨_,by kernel_rfl,.cst _⟩⟩
noncomputable def notStar:Expr→Bool
 | .Starred _ _=>false
 | _=>true
theorem starEach_cons {e:Expr}{rest:List Expr}{env:Env} (h:notStar e=true):starEach (e :: rest) env=(false,eval e env) :: starEach rest env:=by
 cases e <;> first | rfl | cases h
theorem pl_star {e:Expr} (h:plainE e=true):notStar e=true:=by cases e <;> first | rfl | exact Bool.noConfusion h
theorem pl_mark {e:Expr}{op:CmpOp} (h:plainE e=true):behindInMarks op e=false:=by cases e <;> first | rfl | exact Bool.noConfusion h
section
variable {w:World}{A:Around}{B:Base}{env:Env}{f:Nat→Option Nat}{α:List Addr}{ρ ρ':Rho}{σ σ' σ₁ σ₂:Sto}{os:OsState}{s:Shared}
theorem ev_cvar {x:Str}{pos:Pos}{i l:Nat}{v:AV}{k:NameKind} (O:EnvOk env) (hd:(x == ("__debug__":Str))=false) (hd2:(x == ("__classdict__":Str))=false) (hk:k=.cell∨k=.free)
  (e:idx env.scope x=some (i,k)) (hl:f i=some l) (hv:σ[l]? = some (.cell (some v))):EvOk w A B env f (eval (.Name x pos) env) ρ σ v σ:=by
 intro α os s Q S q
 refine byG fun G3 k3=>?_
 refine xE02 (idx_spec e) fun h1 h2=>?_
 refine xE12 (S.rel.cel i x k h1 hk l hl) fun a c1 c2=>?_
 refine xE13 (S.at (.loc c2) hv) fun o g1 q1_ _=>?_
 refine xE12 q1_ fun y hy r=>?_
 refine k3 ?_
 cases y with
 | none=>cases r
 | some y=>
  have hc:s.heap.IsCell a (some y):=⟨o,g1,hy⟩
  rcases hk with rfl | rfl
  ·exact wpAny_Name (wpAny_loadName_cell O.kind h2 c1 hc (q α y s (pre_refl α) S r)) hd
  ·exact wpAny_Name (wpAny_loadName_free O.kind h2 c1 hc (q α y s (pre_refl α) S r) hd2) hd
theorem ev_glob {x:Str}{pos:Pos}{i:Nat}{v:AV} (O:EnvOk env) (G:Gd w B) (hd:(x == ("__debug__":Str))=false) (e:idx env.scope x=some (i,.globalImplicit)) (hv:globs.lookup x=some v) :
  EvOk w A B env f (eval (.Name x pos) env) ρ σ v σ:=by
 intro α os s Q S q
 refine xE02 (idx_spec e) fun h1 h2=>?_
 have X:=G.kk S
 refine xE22 G.T fun mg mb T _=>?_
 have T:=T s.heap S.rel.keep
 refine Name_function_global O.kind h2 ?_ hd
 rcases glob_at w.params hv with h | ⟨h,hn,h'⟩
 ·refine xE12 (h α) fun y r hy=>?_
  exact loadGlobal_global (O.globals ▸ T.g) (mg_of X T.g hy) (q α y s (pre_refl α) S r)
 ·refine xE12 (h' α) fun y hy r=>?_
  exact loadGlobal_builtin (O.globals ▸ T.g) (mg_none_of X T.g h) (O.builtins ▸ T.b) ((T.builtins x hn).trans hy) (q α y s (pre_refl α) S r)
noncomputable def EvsOk (w:World) (A:Around) (B:Base) (env:Env) (f:Nat→Option Nat) (es:List Expr) (ρ:Rho) (σ:Sto) (vs:List AV) (σ':Sto):Prop:=
 ∀ (pos:Pos) (α:List Addr) (os:OsState) (s:Shared) (Q:List Value→Shared→Prop),St w B env f α ρ σ os s→
  (∀ α' xs s',α <+: α'→St w B env f α' ρ σ' os s'→VRs α' vs xs→Q xs s')→wpAny (model pw w) A (spliced (backTo pos (starEach es env))) Q Ef s
theorem evs_nil:EvsOk w A B env f [] ρ σ [] σ:=fun pos α os s Q S k=>wpAny_items_nil (k α [] s (pre_refl α) S .nil)
theorem evs_cons {e:Expr}{es:List Expr}{v:AV}{vs:List AV} (hn:notStar e=true) (h1:EvOk w A B env f (eval e env) ρ σ v σ₁) (h2:EvsOk w A B env f es ρ σ₁ vs σ₂):EvsOk w A B env f (e :: es) ρ σ (v :: vs) σ₂:=by
 intro pos α os s Q S k
 refine wpAny_items_cons (h1 α os s _ S fun α₁ x s₁ p1 S1 r1=>h2 pos α₁ os s₁ _ S1 fun α₂ xs s₂ p2 S2 r2=>?_) (starEach_cons hn)
 exact k α₂ _ s₂ (p1.trans p2) S2 (.cons (r1.mono p2) r2)
theorem ev_list {es:List Expr}{pos:Pos}{vs:List AV} (h:EvsOk w A B env f es ρ σ vs σ₁) (hl:vs.length≤900):EvOk w A B env f (eval (.List es pos) env) ρ σ (.loc σ₁.length) (σ₁++[.list vs]):=by
 intro α os s Q S k
 refine wpAny_List (h pos α os s _ S fun α₁ xs s₁ p1 S1 r1=>⟨size_line (by rw [←r1.length];lia),?_⟩)
 have hp:α₁ <+: α₁++[s₁.heap.objs.size]:=⟨_,rfl⟩
 refine xE02 (S1.alloc (o:={ cls:=.type "list",data:=.seq xs.toArray }) (ao:=.list vs) (t:=s₁.toks) rfl ⟨xs.toArray,0,rfl,r1.mono hp⟩) fun S' r=>?_
 exact k _ _ _ (p1.trans hp) S' r
theorem ev_tuple {es:List Expr}{k:Nat}{pos:Pos}{vs:List AV} (h:EvsOk w A B env f es ρ σ vs σ₁) (hl:vs.length≤900):EvOk w A B env f (eval (.Tuple es k pos) env) ρ σ (.loc σ₁.length) (σ₁++[.tup (.type "tuple") vs]):=by
 intro α os s Q S k
 refine wpAny_Tuple (h pos α os s _ S fun α₁ xs s₁ p1 S1 r1=>⟨size_line (by rw [←r1.length];lia),?_⟩)
 have hp:α₁ <+: α₁++[s₁.heap.objs.size]:=⟨_,rfl⟩
 refine xE02 (S1.alloc (o:={ cls:=.type "tuple",data:=.seq xs.toArray }) (ao:=.tup (.type "tuple") vs) (t:=s₁.toks) rfl ⟨xs.toArray,0,none,rfl,r1.mono hp,fun _=>rfl⟩) fun S' r=>?_
 exact k _ _ _ (p1.trans hp) S' r
theorem ev_ite {t a b:Expr}{pos:Pos}{c:Bool}{v:AV} (h1:TsOk w A B env f (isTrue t env (eval t env)) ρ σ c σ₁) (h2:EvOk w A B env f (eval (if c then a else b) env) ρ σ₁ v σ₂) :
  EvOk w A B env f (eval (.IfExp t a b pos) env) ρ σ v σ₂:=by
 intro α os s Q S k
 refine wpAny_IfExp (h1 α os s _ S fun α₁ s₁ p1 S1=>?_)
 cases c
 ·exact h2 α₁ os s₁ _ S1 fun α₂ x s₂ p2 S2 r2=>k α₂ x s₂ (p1.trans p2) S2 r2
 ·exact h2 α₁ os s₁ _ S1 fun α₂ x s₂ p2 S2 r2=>k α₂ x s₂ (p1.trans p2) S2 r2
end
end Mine
end
section
open PySem PySem.W PyProof.Rows PySem.Calls PySem.SeqAt
set_option maxRecDepth 100000
set_option linter.unusedVariables false
set_option autoImplicit false
namespace Mine
theorem noBool_fn:typeLookup (.type "function") "__bool__"=pure none:=by rw [typeLookup_type,builtinLookup_eq_fast];kernel_rfl
theorem noLen_fn:typeLookup (.type "function") "__len__"=pure none:=by rw [typeLookup_type,builtinLookup_eq_fast];kernel_rfl
theorem truthy_fn {M:Model}{A:Around}{E:Value→Shared→Prop}{s:Shared}{a:Addr}{Q:Bool→Shared→Prop} (hT:s.TypeIs (.ref a) "function") (h:Q true s):wpAny M A (truthy (.ref a)) Q E s:=by
 unfold truthy
 first
  | refine wpAny_bind (wpAny_callSpecial?_none (name:=Str.ofString "__bool__") hT noBool_fn ?_)
  | refine wpAny_bind (wpAny_pure (wpAny_bind (wpAny_callSpecial?_none (name:=Str.ofString "__bool__") hT noBool_fn ?_)))
 first
  | refine wpAny_bind (wpAny_specialOf (name:=Str.ofString "__len__") hT noLen_fn ?_)
  | refine wpAny_bind (wpAny_pure (wpAny_bind (wpAny_specialOf (name:=Str.ofString "__len__") hT noLen_fn ?_)))
 first
  | exact wpAny_pure h
  | exact wpAny_bind (wpAny_pure (wpAny_pure h))
section
variable {w:World}{A:Around}{B:Base}{env:Env}{f:Nat→Option Nat}{α:List Addr}{ρ ρ':Rho}{σ σ' σ₁ σ₂:Sto}{os:OsState}{s:Shared}
theorem truth_ok {v:AV}{x:Value}{c:Bool}{Q:Bool→Shared→Prop} (e:truth σ v=some c) (S:St w B env f α ρ σ os s) (r:VR α v x) (k:∀ s',St w B env f α ρ σ os s'→Q c s') :
  wpAny (model pw w) A (truthy x) Q Ef s:=by
 cases r with
 | none=>exact truthy_none (Option.some.inj e ▸ k s S)
 | bool b=>exact wpAny_truthy_bool (Option.some.inj e ▸ k s S)
 | int i t=>exact P.truthy_int (Option.some.inj e ▸ k s S)
 | str q t=>exact xE02 (iteS e) fun hl q=>P.truthy_str (by lia) (q ▸ k _ (S.toks _))
 | cst v=>exact nn e
 | loc r=>
  refine xE12 (bnd e) fun o e1 e2=>?_
  cases o with
  | list xs=>
   refine byG fun G k'=>?_
   refine xE02 (iteS e2) fun hl q=>?_
   refine listAt (S.at (.loc r) e1) fun it1 n1 g1 r1 _ _=>?_
   refine k' ?_
   have z:=r1.length
   simp only [Array.length_toList]at z
   refine wpAny_truthy_list (items:=it1) ⟨_,g1,rfl,n1,rfl⟩ (by lia) ?_
   have:(!it1.isEmpty)=(!xs.isEmpty):=by
    congr 1
    cases xs with
    | nil=>simp only [List.length_nil]at z;simp [Array.isEmpty,←z]
    | cons x xs=>simp only [List.length_cons]at z;simp [Array.isEmpty,←z]
   exact this.trans q ▸ k _ (S.toks _)
  | clos cl kk=>
   refine byG fun G5 k5=>?_
   refine xE13 (S.at (.loc r) e1) fun o1 g1 q3_ _=>?_
   refine xE23 q3_ fun c cl h1 q9_ _=>?_
   refine xE21 q9_ fun ct pm q14_=>?_
   subst q14_
   refine k5 ?_
   exact truthy_fn ⟨_,g1,rfl⟩ (Option.some.inj e2 ▸ k s S)
  | _=>exact nn e2
theorem isTrue_plain {e:Expr}{env:Env}{whole:Sem Value} (h:plainT e=true):isTrue e env whole=(do let v ←whole;standAt e.pos;holding [v] (truthy v)):=by
 cases e <;> first | rfl | (cases h;done) | skip
 all_goals (rename_i op _ _;cases op <;> first | rfl | cases h)
theorem ts_val {e:Expr}{v:AV}{c:Bool} (hp:plainT e=true) (h:EvOk w A B env f (eval e env) ρ σ v σ₁) (ht:truth σ₁ v=some c):TsOk w A B env f (isTrue e env (eval e env)) ρ σ c σ₁:=by
 intro α os s Q S k
 refine wpAny_isTrue_value (h α os s _ S fun α₁ x s₁ p1 S1 r1=>?_) (isTrue_plain hp)
 exact truth_ok ht S1 r1 fun s' S'=>k α₁ s' p1 S'
theorem ts_not {e:Expr}{pos:Pos}{wh:Sem Value}{c:Bool} (h:TsOk w A B env f (isTrue e env (eval e env)) ρ σ c σ₁):TsOk w A B env f (isTrue (.UnaryOp .Not e pos) env wh) ρ σ (!c) σ₁:=by
 intro α os s Q S k
 exact wpAny_isTrue_Not (h α os s _ S fun α₁ s₁ p1 S1=>k α₁ s₁ p1 S1)
theorem ts_cmp {l r:Expr}{op:CmpOp}{pos:Pos}{wh:Sem Value}{a b:AV}{c:Bool} (G:Gd w B) (hu:A.units+10<cLine) (hm:behindInMarks op r=false) (h1:EvOk w A B env f (eval l env) ρ σ a σ₁) (h2:EvOk w A B env f (eval r env) ρ σ₁ b σ₂)
  (h3:cmpop op a b σ₂=some c):TsOk w A B env f (isTrue (.Compare l [op] [r] pos) env wh) ρ σ c σ₂:=by
 intro α os s Q S k
 refine wpAny_isTrue_Compare1 (h1 α os s _ S fun α₁ x s₁ p1 S1 r1=>h2 α₁ os s₁ _ S1 fun α₂ y s₂ p2 S2 r2=>?_) hm
 exact cmp_ok h3 G hu S2 (r1.mono p2) r2 fun s₃ S3=>wpAny_truthy_bool (k α₂ s₃ (p1.trans p2) S3)
theorem ev_cmp' {l r:Expr}{op:CmpOp}{pos:Pos}{a b:AV}{c:Bool} (G:Gd w B) (hu:A.units+10<cLine) (hm:behindInMarks op r=false) (h1:EvOk w A B env f (eval l env) ρ σ a σ₁) (h2:EvOk w A B env f (eval r env) ρ σ₁ b σ₂)
  (h3:cmpop op a b σ₂=some c):EvOk w A B env f (eval (.Compare l [op] [r] pos) env) ρ σ (.bool c) σ₂:=
 ev_cmp hm h1 h2 fun α os s Q x y S ra rb k=>cmp_ok h3 G hu S ra rb k
noncomputable def AllOk (w:World) (A:Around) (B:Base) (env:Env) (f:Nat→Option Nat) (op:BoolOp) (es:List Expr) (ρ:Rho) (σ:Sto) (c:Bool) (σ':Sto):Prop:=TsOk w A B env f (allTrue op es env) ρ σ c σ'
theorem all_nil {op:BoolOp}:AllOk w A B env f op [] ρ σ (op == .And) σ:=by
 intro α os s Q S k
 exact wpAny_pure (k α s (pre_refl α) S)
theorem all_cons {op:BoolOp}{e:Expr}{es:List Expr}{b c:Bool} (h1:TsOk w A B env f (isTrue e env (eval e env)) ρ σ b σ₁)
  (h2:(if b=(op == .And)then AllOk w A B env f op es ρ σ₁ c σ₂ else c=b∧σ₂=σ₁)):AllOk w A B env f op (e :: es) ρ σ c σ₂:=by
 intro α os s Q S k
 cases op
 ·refine wpAny_allTrue_And_cons (h1 α os s _ S fun α₁ s₁ p1 S1=>?_)
  cases b
  ·obtain⟨rfl,rfl⟩:=h2;exact k α₁ s₁ p1 S1
  ·exact h2 α₁ os s₁ _ S1 fun α₂ s₂ p2 S2=>k α₂ s₂ (p1.trans p2) S2
 ·refine wpAny_allTrue_Or_cons (h1 α os s _ S fun α₁ s₁ p1 S1=>?_)
  cases b
  ·exact h2 α₁ os s₁ _ S1 fun α₂ s₂ p2 S2=>k α₂ s₂ (p1.trans p2) S2
  ·obtain⟨rfl,rfl⟩:=h2;exact k α₁ s₁ p1 S1
theorem ts_all {op:BoolOp}{es:List Expr}{pos:Pos}{wh:Sem Value}{c:Bool} (h:AllOk w A B env f op es ρ σ c σ₁):TsOk w A B env f (isTrue (.BoolOp op es pos) env wh) ρ σ c σ₁:=by
 intro α os s Q S k
 exact wpAny_isTrue_BoolOp (h α os s Q S k)
end
end Mine
end
section
open PySem PySem.W PyProof.Rows PySem.Calls PySem.SeqAt
set_option maxRecDepth 100000
set_option linter.unusedVariables false
set_option autoImplicit false
namespace Mine
section
variable {w:World}{A:Around}{B:Base}{env:Env}{f:Nat→Option Nat}{α:List Addr}{ρ ρ':Rho}{σ σ' σ₁ σ₂ σ₃ σ₄:Sto}{os:OsState}{s:Shared}
theorem ev_neg {e:Expr}{pos:Pos}{i:Int} (h:EvOk w A B env f (eval e env) ρ σ (.int i) σ₁):EvOk w A B env f (eval (.UnaryOp .USub e pos) env) ρ σ (.int (-i)) σ₁:=by
 intro α os s Q S k
 refine wpAny_UnaryOp (h α os s _ S fun α₁ x s₁ p1 S1 r1=>?_)
 refine VR.intE r1 fun t=>?_
 exact P.neg_int (k α₁ _ _ p1 (S1.toks _) (.int _ _))
noncomputable def BopOk (w:World) (A:Around) (B:Base) (env:Env) (f:Nat→Option Nat) (op:BoolOp) (es:List Expr) (ρ:Rho) (σ:Sto) (v:AV) (σ':Sto):Prop:=∀ pos,EvOk w A B env f (boolOp pos op (evalEach es env)) ρ σ v σ'
theorem bop_one {op:BoolOp}{e:Expr}{v:AV} (h:EvOk w A B env f (eval e env) ρ σ v σ₁):BopOk w A B env f op [e] ρ σ v σ₁:=fun _=>h
theorem bop_cons {op:BoolOp}{e e₂:Expr}{es:List Expr}{v u:AV}{c:Bool} (h1:EvOk w A B env f (eval e env) ρ σ v σ₁) (ht:truth σ₁ v=some c)
  (h2:if c=(op == .And)then BopOk w A B env f op (e₂ :: es) ρ σ₁ u σ₂ else u=v∧σ₂=σ₁):BopOk w A B env f op (e :: e₂ :: es) ρ σ u σ₂:=by
 intro pos α os s Q S k
 show wpAny _ _ (do
  let v ←eval e env
  standAt pos
  let t ←holding [v] (truthy v)
  match op,t with
  | .And,false | .Or,true=>pure v
  | _,_=>boolOp pos op (evalEach (e₂ :: es) env)) _ _ _
 refine wpAny_bind (h1 α os s _ S fun α₁ x s₁ p1 S1 r1=>wpAny_bind (wpAny_standAt (wpAny_bind (wpAny_holding (truth_ok ht S1 r1 fun s₂ S2=>?_)))))
 cases op <;> cases c
 ·obtain⟨rfl,rfl⟩:=h2;exact wpAny_pure (k α₁ x s₂ p1 S2 r1)
 ·exact h2 pos α₁ os s₂ _ S2 fun α₂ y s₃ p2 S3 r2=>k α₂ y s₃ (p1.trans p2) S3 r2
 ·exact h2 pos α₁ os s₂ _ S2 fun α₂ y s₃ p2 S3 r2=>k α₂ y s₃ (p1.trans p2) S3 r2
 ·obtain⟨rfl,rfl⟩:=h2;exact wpAny_pure (k α₁ x s₂ p1 S2 r1)
theorem ev_bop {op:BoolOp}{es:List Expr}{pos:Pos}{v:AV} (h:BopOk w A B env f op es ρ σ v σ₁):EvOk w A B env f (eval (.BoolOp op es pos) env) ρ σ v σ₁:=h pos
theorem at_spec {β:Type}{xs:List β}{i:Int}{x:β} (e:at_ xs i=some x):xs.length≤900∧((0≤i∧xs[i.toNat]? = some x)∨(i<0∧0≤i+xs.length∧xs[(i+xs.length).toNat]? = some x)):=by
 unfold at_ at e
 split at e
 ·rename_i h
  refine⟨h,?_⟩
  split at e
  ·rename_i h0;exact .inl ⟨h0,e⟩
  ·rename_i h0
   split at e
   ·rename_i h1;exact .inr ⟨by lia,h1,e⟩
   ·exact nn e
 ·exact nn e
theorem at_seq {β:Type}{xs:List β}{i:Int}{x:β} (e:at_ xs i=some x):∃ k,seqIndex? i xs.length=some k∧xs[k]? = some x∧-900≤i∧i<900:=by
 obtain⟨hl,⟨h0,h1⟩ | ⟨h0,h1,h2⟩⟩:=at_spec e
 ·have hk:i.toNat<xs.length:=(List.getElem?_eq_some_iff.mp h1).1
  refine⟨i.toNat,?_,h1,by lia,by lia⟩
  have h2:¬ i<0:=by lia
  have h3:i<(xs.length:Int):=by lia
  simp [seqIndex?,h2,h0,h3]
 ·refine⟨(i+xs.length).toNat,?_,h2,by lia,by lia⟩
  have h3:i+(xs.length:Int)<(xs.length:Int):=by lia
  simp only [seqIndex?,h0,if_true]
  rw [if_pos (by simp only [Bool.and_eq_true,decide_eq_true_eq];exact⟨h1,h3⟩)]
theorem sub_ops {slice:Expr}{o i:Value}:∃ ops,subscripted slice false o i=operate ops (getItem o i):=by
 cases slice <;> first | exact⟨_,rfl⟩ | skip
 rename_i a b c d
 cases c <;> exact⟨_,rfl⟩
theorem sub_tail {value slice:Expr}{o i:Value}{T id:String}{Q:Value→Shared→Prop} (hT:s.TypeIs o T) (hl:typeLookup (.type T) "__getitem__"=pure (some (.builtin id)))
  (h:wpAny (model pw w) A (getItem o i) Q Ef s):wpAny (model pw w) A (subscriptTail value slice o i) Q Ef s:=by
 unfold subscriptTail
 refine wpAny_bind ?_
 rw [getitemInPython_of_ne hT.not_modules]
 refine wpAny_bind (wpAny_specialOf hT hl ?_)
 have fin:wpAny (model pw w) A (subscripted slice false o i) (fun r s₃=>wpAny (model pw w) A (letTemporaryGo value o r >>= fun _=>pure r) Q Ef s₃) Ef s:=by
  refine xE11 (@sub_ops slice o i) fun ops hs=>?_
  rw [hs]
  exact wpAny_operating (wpAny_mono h (fun r s₃ h₃=>wpAny_bind (wpAny_letTemporaryGo (wpAny_pure h₃))) fun _ _ x=>x)
 first
  | exact wpAny_pure (wpAny_bind fin)
  | exact wpAny_bind (wpAny_pure (wpAny_bind fin))
  | exact wpAny_bind fin
theorem item_ok {a b v:AV}{x y:Value}{value slice:Expr}{Q:Value→Shared→Prop} (e:ItemR σ a b v) (S:St w B env f α ρ σ os s) (ha:VR α a x) (hb:VR α b y)
  (k:∀ z s',St w B env f α ρ σ os s'→VR α v z→Q z s'):wpAny (model pw w) A (subscriptTail value slice x y) Q Ef s:=by
 cases e with
 | list e1 e=>
  refine VR.refE ha fun m ha=>?_
  refine VR.intE hb fun t=>?_
  refine listAt (S.at ha e1) fun it1 n1 g1 r1 z _=>?_
  have hL:s.heap.IsList m it1:=⟨_,g1,rfl,n1,rfl⟩
  refine sub_tail hL.typeIs list_getitem_lookup ?_
  obtain⟨hl,⟨h0,h1⟩ | ⟨h0,h1,h2⟩⟩:=at_spec e
  ·refine xE12 (r1.get h1) fun z' p q=>?_
   exact wpAny_getItem_list hL h0 (by have:=(List.getElem?_eq_some_iff.mp h1).1;lia) (by simpa using p) (k z' s S q)
  ·refine xE12 (r1.get h2) fun z' p q=>?_
   exact wpAny_getItem_list_neg hL h0 (by lia) (by lia) (by rw [←z];simpa using p) (k z' s S q)
 | tup e1 e=>
  refine VR.refE ha fun m ha=>?_
  refine VR.intE hb fun t=>?_
  refine byG fun G k'=>?_
  refine xE13 (S.at ha e1) fun o1 g1 q9_ _=>?_
  refine xE33 q9_ fun it1 n1 dd q29_ r1 hd=>?_
  subst q29_
  cases hd rfl
  refine xE14 (at_seq e) fun j h1 h2 h3 h4=>?_
  refine xE12 (r1.get h2) fun z' p q=>?_
  refine k' ?_
  have z:=r1.length
  simp only [Array.length_toList]at z
  exact sub_tail (s:=s) ⟨_,g1,rfl⟩ F.slot_tuple_getitem.lookup (P.getItem_tuple g1 (by lia) (by lia) (by rw [←z];exact h1) (by simpa using p) (k z' s S q))
 | @dict _ _ q _ e1 hg e=>
  refine VR.refE ha fun m ha=>?_
  refine VR.strE hb fun t=>?_
  refine byG fun G20 k20=>?_
  refine xE13 (S.at ha e1) fun o1 g1 r1 hm=>?_
  refine xE11 (strK_of hg) fun ks q12_=>?_
  subst q12_
  refine xE13 (r1.1 ks rfl) fun kvs hd h1 h2=>?_
  have hv:=valueAt_rel h1 h2 q
  rw [lookup_map str_inj]at e
  refine xE12 (hv.1 v e) fun y hy r=>?_
  refine k20 ?_
  exact sub_tail (s:=s) (hd.at g1).typeIs slot_dict_getitem.lookup (wpAny_getItem_of (isStrOf_self ..) (hd.at g1).mapOf hy (k y _ (S.toks _) r))
 | @str q _ c e=>
  refine VR.strE ha fun t=>?_
  refine VR.intE hb fun u=>?_
  refine xE14 (at_seq e) fun j h1 h2 h3 h4=>?_
  refine sub_tail (typeIs_str s q t) F.slot_str_getitem.lookup (PySem.P.getItem_str (c:=c) ?_ ?_ (k _ _ (S.toks _) (.str _ _)))
  ·simp;lia
  ·rw [show q.length=q.cps.toList.length by simp [Str.length],h1]
   simpa using h2
theorem ev_item {value slice:Expr}{pos:Pos}{a b v:AV} (h1:EvOk w A B env f (eval value env) ρ σ a σ₁) (h2:EvOk w A B env f (eval slice env) ρ σ₁ b σ₂) (h3:ItemR σ₂ a b v) :
  EvOk w A B env f (eval (.Subscript value slice pos) env) ρ σ v σ₂:=by
 intro α os s Q S k
 refine Subscript_ (h1 α os s _ S fun α₁ x s₁ p1 S1 r1=>h2 α₁ os s₁ _ S1 fun α₂ y s₂ p2 S2 r2=>?_)
 exact item_ok h3 S2 (r1.mono p2) r2 fun z s' S' r=>k α₂ z s' (p1.trans p2) S' r
noncomputable def PartOk (w:World) (A:Around) (B:Base) (env:Env) (f:Nat→Option Nat) (e:Option Expr) (ρ:Rho) (σ:Sto) (v:AV) (σ':Sto):Prop:=EvOk w A B env f (evalPart e env) ρ σ v σ'
theorem part_none:PartOk w A B env f none ρ σ .none σ:=fun α os s Q S k=>wpAny_pure (k α .none s (pre_refl α) S .none)
theorem part_some {e:Expr}{v:AV} (h:EvOk w A B env f (eval e env) ρ σ v σ₁):PartOk w A B env f (some e) ρ σ v σ₁:=h
theorem part_is {v:AV}{x:Value}{o:Option Int} (r:VR α v x) (e:PartR v o):IsPart x o:=by
 cases e with
 | none=>exact VR.noneE r .none
 | int i=>exact VR.intE r fun t=>.int _ _
theorem part_val {x:Value}{o:Option Int} (h:IsPart x o):∃ p:Option (Int×Tok),x=partValue p∧p.map (·.1)=o:=by
 cases h with
 | none=>exact⟨none,rfl,rfl⟩
 | int i t=>exact⟨some (i,t),rfl,rfl⟩
theorem pick_rel {xs:List AV}{its:Array Value} (r:VRs α xs its.toList) (lo hi st:Option Int):VRs α (pickL xs lo hi st) (slicePick its lo hi st).toList:=by
 unfold pickL slicePick
 have z:=r.length
 simp only [Array.length_toList]at z
 rw [z]
 generalize sliceRange _ _ _=ks
 induction ks with
 | nil=>exact .nil
 | cons j ks ih=>
  simp only [List.filterMap_cons]at ih ⊢
  cases hx:xs[j]? with
  | none=>
   have:its[j]? = none:=by
    rw [Array.getElem?_eq_none_iff]
    rw [List.getElem?_eq_none_iff]at hx
    lia
   rw [this];exact ih
  | some v=>
   refine xE12 (r.get hx) fun y p q=>?_
   have:its[j]? = some y:=by simpa using p
   rw [this];exact .cons q ih
theorem slice_ok {a x1 x2 x3 v:AV}{x y1 y2 y3:Value}{value sl:Expr}{Q:Value→Shared→Prop} (e:Slice a x1 x2 x3 σ v σ') (S:St w B env f α ρ σ os s) (ha:VR α a x) (h1:VR α x1 y1) (h2:VR α x2 y2) (h3:VR α x3 y3)
  (k:∀ α' z s',α <+: α'→St w B env f α' ρ σ' os s'→VR α' v z→Q z s') :
  wpAny (model pw w) A (subscriptTail value sl x (.ref s.heap.objs.size)) Q Ef { s with heap:=s.heap.push { cls:=.type "slice",data:=.fields #[y1,y2,y3] } }:=by
 have S1:St w B env f α ρ σ os { s with heap:=s.heap.push { cls:=.type "slice",data:=.fields #[y1,y2,y3] } }:=S.push _
 have hS:Heap.IsSliceOf { s with heap:=s.heap.push { cls:=.type "slice",data:=.fields #[y1,y2,y3] } }.heap s.heap.objs.size y1 y2 y3:=Heap.IsSliceOf.new ..
 have hG:{ s with heap:=s.heap.push { cls:=.type "slice",data:=.fields #[y1,y2,y3] } }.heap.get? s.heap.objs.size=some { cls:=.type "slice",data:=.fields #[y1,y2,y3] }:=Heap.get?_push_size _ rfl
 revert S1 hS hG
 generalize { s with heap:=s.heap.push { cls:=.type "slice",data:=.fields #[y1,y2,y3] } }=s1
 intro S1 hS hG
 refine xE35 e fun lo hi st p1 p2 p3 hst e=>?_
 have q1:=part_is h1 p1
 have q2:=part_is h2 p2
 have q3:=part_is h3 p3
 have fin:∀ (m:Addr) (xs:List AV) (it1:Array Value),v=.loc σ.length→σ'=σ++[.list (pickL xs lo hi st)]→s1.heap.IsList m it1→VRs α xs it1.toList→xs.length≤900→
   wpAny (model pw w) A (subscriptTail value sl (.ref m) (.ref s.heap.objs.size)) Q Ef s1:=by
  intro m xs it1 e1 e2 hL r1 hlen
  have z:=r1.length
  simp only [Array.length_toList]at z
  refine sub_tail hL.typeIs list_getitem_lookup (wpAny_getItem_list_slice hL hS q1 q2 q3 hst ?_ (size_line (by lia)))
  have hp:α <+: α++[s1.heap.objs.size]:=⟨_,rfl⟩
  refine xE02 (S1.alloc (o:={ cls:=.type "list",data:=.seq (slicePick it1 lo hi st) }) (ao:=.list (pickL xs lo hi st)) (t:=s1.toks) rfl ⟨_,0,rfl,pick_rel (r1.mono hp) lo hi st⟩) fun S' r=>?_
  exact k _ _ _ hp (e2 ▸ S') (e1 ▸ r)
 cases e with
 | list e1 hlen=>
  refine VR.refE ha fun m ha=>?_
  exact listAt (S1.at ha e1) fun it1 n1 g1 r1 z _=>fin m _ it1 rfl rfl ⟨_,g1,rfl,n1,rfl⟩ r1 hlen
 | fix e1 hlen=>
  refine VR.refE ha fun m ha=>?_
  refine xE13 (S1.at ha e1) fun o1 g1 q18_ _=>?_
  refine xE03 q18_ fun _ hc1 q31_=>?_
  exact xE22 q31_ fun it1 n1 hd1 r1=>fin m _ it1 rfl rfl ⟨_,g1,hc1,n1,hd1⟩ r1 hlen
 | @str q hlen=>
  refine VR.strE ha fun t=>?_
  refine byG fun G15 k15=>?_
  refine xE12 (part_val q1) fun p1 q20_ hp1=>?_
  subst q20_
  refine xE12 (part_val q2) fun p2 q21_ hp2=>?_
  subst q21_
  refine xE12 (part_val q3) fun p3 q22_ hp3=>?_
  subst q22_
  refine k15 ?_
  refine sub_tail (typeIs_str s1 q t) F.slot_str_getitem.lookup (wpAny_getItem_str_slice (l:=p1) (u:=p2) (st:=p3) ⟨_,hG,rfl,rfl⟩ ?_ ?_)
  ·rw [hp3]
   cases st with
   | none=>rfl
   | some i=>simpa using fun h:i=0=>hst (by rw [h])
  ·unfold sliceMade slicePicked
   rw [hp1,hp2,hp3]
   unfold pickS at hlen k
   split
   ·rename_i hc
    rw [if_pos hc]at k
    exact k α _ _ (pre_refl α) S1 (.str _ _)
   ·rename_i hc
    rw [if_neg hc]at k hlen
    exact⟨size_line (by lia),k α _ _ (pre_refl α) (S1.toks _) (.str _ _)⟩
theorem ev_slice {value:Expr}{lo hi st:Option Expr}{p pos:Pos}{a x1 x2 x3 v:AV} (h:EvOk w A B env f (eval value env) ρ σ a σ₁) (h1:PartOk w A B env f lo ρ σ₁ x1 σ₂) (h2:PartOk w A B env f hi ρ σ₂ x2 σ₃) (h3:PartOk w A B env f st ρ σ₃ x3 σ₄)
  (e:Slice a x1 x2 x3 σ₄ v σ'):EvOk w A B env f (eval (.Subscript value (.Slice lo hi st p) pos) env) ρ σ v σ':=by
 intro α os s Q S k
 refine Subscript_ (h α os s _ S fun α₁ x s₁ p1 S1 r1=>wpAny_Slice ?_)
 refine h1 α₁ os s₁ _ S1 fun α₂ y1 s₂ p2 S2 r2=>h2 α₂ os s₂ _ S2 fun α₃ y2 s₃ p3 S3 r3=>h3 α₃ os s₃ _ S3 fun α₄ y3 s₄ p4 S4 r4=>?_
 exact slice_ok e S4 (((r1.mono p2).mono p3).mono p4) ((r2.mono p3).mono p4) (r3.mono p4) r4 fun α₅ z s₅ p5 S5 r5=>k α₅ z s₅ ((((p1.trans p2).trans p3).trans p4).trans p5) S5 r5
end
end Mine
end
section
open PySem PySem.W PyProof.Rows PySem.Calls PySem.SeqAt
set_option maxRecDepth 100000
set_option linter.unusedVariables false
set_option autoImplicit false
namespace Mine
section
variable {α:List Addr}
theorem FR.noRef {fs:List (Str×AV)}{es:List DictEntry} (r:FR α fs es):es.any (·.refKey)=false:=by
 induction r with
 | nil=>rfl
 | cons t hk hv _ ih=>rw [List.any_cons,ih,DictEntry.refKey,hk];rfl
theorem FR.length {fs:List (Str×AV)}{es:List DictEntry} (r:FR α fs es):fs.length=es.length:=by
 induction r with
 | nil=>rfl
 | cons t hk hv _ ih=>simp [ih]
theorem FR.find {fs:List (Str×AV)}{es:List DictEntry} (r:FR α fs es) (x:Str):(∀ v,fs.lookup x=some v→∃ e,es.find? (·.key.isStr x)=some e∧VR α v e.val)∧(fs.lookup x=none→es.find? (·.key.isStr x)=none):=by
 induction r with
 | nil=>simp
 | @cons y v e fs es t hk hv _ ih=>
  rw [List.lookup_cons,List.find?_cons]
  by_cases h:x=y
  ·subst h
   have:e.key.isStr x=true:=by rw [hk];simp [Value.isStr]
   simp only [beq_self_eq_true,this,Option.some.injEq,forall_eq',reduceCtorEq,false_imp_iff,and_true]
   exact⟨e,rfl,hv⟩
  ·have:e.key.isStr x=false:=by rw [hk];simp [Value.isStr];exact fun q=>h q.symm
   rw [beq_false_of_ne h,this]
   exact ih
theorem FR.get {fs:List (Str×AV)}{es:List DictEntry} (r:FR α fs es) (x:Str):(∀ v,fs.lookup x=some v→∃ y,getL x es=some (some y)∧VR α v y)∧(fs.lookup x=none→getL x es=some none):=by
 refine xE02 (r.find x) fun h1 h2=>?_
 refine⟨fun v e=>?_,fun e=>?_⟩
 ·refine xE12 (h1 v e) fun en p q=>?_
  exact⟨en.val,by unfold getL;rw [p],q⟩
 ·unfold getL;rw [h2 e,r.noRef];rfl
theorem FR.put {fs:List (Str×AV)}{es:List DictEntry} (r:FR α fs es) (x:Str) (hsh:Int) (t:Tok){v:AV}{y:Value} (hv:VR α v y):FR α (setF x v fs) (putL x hsh (.str x t) y es):=by
 induction r with
 | nil=>exact .cons t rfl hv .nil
 | @cons z u e fs es t' hk hu hr ih=>
  unfold setF putL
  by_cases h:z=x
  ·subst h
   have:e.key.isStr z=true:=by rw [hk];simp [Value.isStr]
   rw [if_pos rfl,if_pos this]
   exact .cons t' hk hv hr
  ·have:¬ e.key.isStr x=true:=by rw [hk];simp [Value.isStr];exact h
   rw [if_neg h,if_neg this]
   exact .cons t' hk hu ih
end
end Mine
end
section
open PySem PySem.W PyProof.Rows PySem.Calls PySem.SeqAt
set_option maxRecDepth 100000
set_option linter.unusedVariables false
set_option autoImplicit false
namespace Mine
structure FieldAt (P:Params) (C:Addr) (n:Str):Prop where
 find:findIn (KK P) (.ref C) n=some none
structure ClsAt (P:Params) (C:Addr):Prop where
 get:plainGet (KK P) C ""=true
 dict:hasDictIn (KK P) C=true
 set:findIn (KK P) (.ref C) "__setattr__"=some (some (.builtin "object.__setattr__"))
 plain:plainOver (KK P) C=true
theorem cls_242 (P:Params):ClsAt P 242:=⟨by kernel_rfl,by kernel_rfl,by kernel_rfl,by kernel_rfl⟩
theorem cls_311 (P:Params):ClsAt P 311:=⟨by kernel_rfl,by kernel_rfl,by kernel_rfl,by kernel_rfl⟩
theorem cls_at (P:Params){C:Addr} (h:C=242∨C=311):ClsAt P C:=by
 rcases h with rfl | rfl
 ·exact cls_242 P
 ·exact cls_311 P
theorem field_at (P:Params){C:Addr}{n:Str} (h:C=242∨C=311) (hn:fieldNames.contains n=true):findIn (KK P) (.ref C) n=some none:=by
 simp only [fieldNames,List.contains_iff_mem,List.mem_cons,List.not_mem_nil,or_false]at hn
 rcases h with rfl | rfl <;> rcases hn with rfl | rfl | rfl | rfl | rfl | rfl | rfl | rfl | rfl | rfl | rfl | rfl | rfl <;> kernel_rfl
theorem base_eq {o:Expr}{attr:Str}{env:Env}{wh:Sem Value} (h:baseOk o=true):attributeBase o attr env wh=wh:=by
 cases o <;> first | rfl | cases h
theorem Attribute_my {w:World}{A:Around}{E:Value→Shared→Prop}{s:Shared}{env:Env}{value:Expr}{attr:Str}{pos:Pos}{Q:Value→Shared→Prop} (hb:baseOk value=true)
  (h:wpAny (model pw w) A (eval value env) (fun o s₁=>wpAny (model pw w) A (getAttr o attr true) Q E s₁) E s):wpAny (model pw w) A (eval (.Attribute value attr pos) env) Q E s:=by
 rw [arm_eval_Attribute,base_eq hb]
 refine wpAny_bind (wpAny_mono h (fun o s₁ h₁=>wpAny_bind (wpAny_standAt (wpAny_bind (wpAny_holding (wpAny_mono h₁ (fun r s₂ h₂=>?_) fun _ _ y=>y))))) fun _ _ y=>y)
 exact wpAny_bind (wpAny_letTemporaryGo (wpAny_pure h₂))
section
variable {w:World}{A:Around}{B:Base}{env:Env}{f:Nat→Option Nat}{α:List Addr}{ρ ρ':Rho}{σ σ' σ₁ σ₂ σ₃ σ₄:Sto}{os:OsState}{s:Shared}
theorem inst_at (S:St w B env f α ρ σ os s){l d:Nat}{a:Addr}{c:Addr}{fs:List (Str×AV)} (h:VR α (.loc l) (.ref a)) (e1:σ[l]? = some (.inst c d)) (e2:σ[d]? = some (.fields fs)) :
  ∃ dx es n,α[d]? = some dx∧s.heap.get? a=some ⟨.ref c,some dx,.plain,#[]⟩∧s.heap.get? dx=some (dictOf es n)∧FR α fs es∧InstAt s.heap a ⟨.ref c,some dx,.plain,#[]⟩ c (some (dictOf es n)):=by
 refine byG fun G2 k2=>?_
 refine xE13 (S.at h e1) fun o g1 q1_ _=>?_
 refine xE12 q1_ fun dx h1 q5_=>?_
 subst q5_
 refine xE13 (S.at (.loc h1) e2) fun o2 g2 q2_ _=>?_
 refine xE22 q2_ fun es n q6_ r=>?_
 subst q6_
 refine k2 ?_
 exact⟨dx,es,n,h1,g1,g2,r,⟨g1,rfl,rfl,g2⟩⟩
theorem ev_field {value:Expr}{n:Str}{pos:Pos}{l d:Nat}{c:Addr}{fs:List (Str×AV)}{v:AV} (G:Gd w B) (hb:baseOk value=true) (h1:EvOk w A B env f (eval value env) ρ σ (.loc l) σ₁) (e1:σ₁[l]? = some (.inst c d)) (e2:σ₁[d]? = some (.fields fs))
  (hc:c=242∨c=311) (hn:fieldNames.contains n=true) (hv:fs.lookup n=some v) (hcst:∀ x,v≠.cst x):EvOk w A B env f (eval (.Attribute value n pos) env) ρ σ v σ₁:=by
 intro α os s Q S k
 refine Attribute_my hb (h1 α os s _ S fun α₁ x s₁ p1 S1 r1=>?_)
 refine VR.refE r1 fun a r1=>?_
 refine xE35 (inst_at S1 r1 e1 e2) fun dx es n' h1 h2 h3 h4 I=>?_
 refine xE12 ((h4.get n).1 v hv) fun y hy ry=>?_
 have C:=cls_at w.params hc
 refine get_value (G.kk S1) I (plainGet_of C.get).1 (findObj_own C.dict (field_at w.params hc hn) rfl hy) ?_ (k α₁ y _ p1 (S1.toks _) ry)
 cases ry <;> first | rfl | exact absurd rfl (hcst _)
theorem setF_len (n:Str) (v:AV):∀ fs:List (Str×AV),(setF n v fs).length≤fs.length+1
 | []=>by simp [setF]
 | p :: r=>by
  have:=setF_len n v r
  obtain⟨m,u⟩:=p
  unfold setF
  split <;> simp
  lia
theorem ns_unique {h:Heap}{L:Addr}{m m':Str→Option Value} (a:h.Ns L m) (b:h.Ns L m'):m=m':=by
 refine byG fun G5 k5=>?_
 refine xE34 a fun o es ep h1 h2 _ h3=>?_
 refine xE34 b fun o' es' ep' g1 g2 _ g3=>?_
 rw [h1]at g1;cases g1
 rw [h2]at g2;cases g2
 refine k5 ?_
 funext x
 rw [←h3,←g3]
noncomputable def allBut (h:Heap) (L dx:Addr):List (Addr×Obj):=(List.range h.objs.size).filterMap fun a=>if a=L∨a=dx then none else (h.get? a).map (a,·)
theorem mem_allBut {h:Heap}{L dx b:Addr}{o:Obj} (e:h.get? b=some o) (h1:b≠L) (h2:b≠dx):(b,o)∈allBut h L dx:=by
 unfold allBut
 rw [List.mem_filterMap]
 exact⟨b,List.mem_range.mpr (Heap.lt_size e),by rw [if_neg (by rintro(h | h) <;> contradiction),e];rfl⟩
theorem allBut_spec {h:Heap}{L dx:Addr}{p:Addr×Obj} (hp:p∈allBut h L dx):h.get? p.1=some p.2∧p.1≠L∧p.1≠dx:=by
 unfold allBut at hp
 rw [List.mem_filterMap]at hp
 refine xE12 hp fun a _ e=>?_
 split at e
 ·exact nn e
 ·rename_i hn
  refine xE12 (Option.map_eq_some_iff.mp e) fun o h1 q4_=>?_
  subst q4_
  exact⟨h1,fun q=>hn (.inl q),fun q=>hn (.inr q)⟩
theorem set_field {n:Str}{l d:Nat}{c:Addr}{fs:List (Str×AV)}{v:AV}{a:Addr}{y:Value}{Q:Unit→Shared→Prop} (G:Gd w B) (S:St w B env f α ρ σ os s) (ha:VR α (.loc l) (.ref a)) (hv:VR α v y) (e1:σ[l]? = some (.inst c d))
  (e2:σ[d]? = some (.fields fs)) (hc:c=242∨c=311) (hn:fieldNames.contains n=true) (hl:fs.length<100) (k:∀ s',St w B env f α ρ (σ.set d (.fields (setF n v fs))) os s'→Q () s') :
  wpAny (model pw w) A (setAttr (.ref a) n y) Q Ef s:=by
 refine xE35 (inst_at S ha e1 e2) fun dx es n' h1 h2 h3 h4 I=>?_
 have C:=cls_at w.params hc
 refine xE12 S.rel.loc fun m hm hq=>?_
 have hL:dx≠env.locals:=S.rel.off dx (List.mem_of_getElem? h1)
 have F:Fr ⟨#[],s.heap.life⟩ env.locals s.heap m:=⟨hm,fun b o e=>by simp [Heap.get?]at e,Nat.zero_le _⟩
 have N:News ⟨#[],s.heap.life⟩ env.locals s.heap (allBut s.heap env.locals dx++(dx,dictOf es n') :: []):=by
  intro p hp
  rcases List.mem_append.mp hp with hp | hp
  ·refine xE03 (allBut_spec hp) fun q1 q2 _=>?_
   exact⟨q1,q2,by simp [Heap.get?]⟩
  ·rw [List.mem_singleton]at hp
   subst hp
   exact⟨h3,hL,by simp [Heap.get?]⟩
 have X:=G.kk S
 have ht:takerIn (KK w.params) c n=some none:=by unfold takerIn;rw [field_at w.params hc hn];rfl
 have hg:(getL n es).isSome=true:=by
  cases e:fs.lookup n with
  | none=>rw [(h4.get n).2 e];rfl
  | some u=>obtain⟨z,hz,_⟩:=(h4.get n).1 u e;rw [hz];rfl
 have hp:=h4.put n (PyData.keyHash w.params n) (s.toks+1) hv
 have hlen:=setF_len n v fs
 refine set_plain X I C.set (osa_dict (s:={ s with toks:=s.toks+1 }) F N X I rfl C.plain ht C.dict hg (fun p hp=>(allBut_spec hp).2.2) (fun p hp=>nomatch hp) (by rw [putName_dict]) rfl (by rw [←hp.length];lia) fun h' F' N'=>?_)
 refine k _ ⟨S.rel.setNs h1 (fun es h=>by rw [e2]at h;cases h) (fun m' hm'=>⟨ns_unique hm hm' ▸ F'.ns,fun b o q1 q2 q3=>(N' (b,o) (List.mem_append_left _ (mem_allBut q3 q2 q1))).1⟩) (N' (dx,_) (List.mem_append_right _ (List.mem_singleton.mpr rfl))).1 ⟨_,_,rfl,hp⟩,S.gens,S.os⟩
end
end Mine
end
section
open PySem PySem.W PyProof.Rows PySem.Calls PySem.SeqAt
set_option maxRecDepth 100000
set_option linter.unusedVariables false
set_option autoImplicit false
namespace Mine
section
variable {K:Type} [DecidableEq K]
noncomputable def sto (ks:List (K×AV)) (k:K) (v:AV):List (K×AV):=if ks.any (fun p=>p.1=k)then ks.map (fun p=>if p.1=k then (p.1,v)else p)else ks++[(k,v)]
theorem dput_map {mk:K→AV} (hi:∀ a b,mk a=mk b→a=b){ks:List (K×AV)} (hn:(ks.map (·.1)).Nodup) (k:K) (v:AV) :
  dput (mk k) v (ks.map fun p=>(mk p.1,p.2))=(sto ks k v).map (fun p=>(mk p.1,p.2)):=by
 induction ks with
 | nil=>simp [dput,sto]
 | cons p r ih=>
  rw [List.map_cons,List.nodup_cons]at hn
  have ih:=ih hn.2
  by_cases e:p.1=k
  ·subst e
   have hr:∀ x∈r,¬ x.1=p.1:=fun x hx q=>hn.1 (List.mem_map.mpr ⟨x,hx,q⟩)
   have hm:r.map (fun q=>if q.1=p.1 then (q.1,v)else q)=r:=by
    rw [List.map_congr_left (g:=id)]
    ·simp
    ·intro x hx;rw [if_neg (hr x hx)];rfl
   simp only [sto,List.any_cons,decide_true,Bool.true_or,if_true,List.map_cons,hm,dput]
  ·simp only [List.map_cons,dput]
   rw [if_neg (fun q=>e (hi _ _ q)),ih]
   simp only [sto,List.any_cons,e,decide_false,Bool.false_or,List.map_cons,if_false]
   split <;> simp
theorem stored_rel {α:List Addr}{ks:List (K×AV)}{kvs:List (K×Value)} (h1:kvs.map (·.1)=ks.map (·.1)) (h2:VRs α (ks.map (·.2)) (kvs.map (·.2))) (k:K){v:AV}{y:Value} (r:VR α v y) :
  (stored kvs k y).map (·.1)=(sto ks k v).map (·.1)∧VRs α ((sto ks k v).map (·.2)) ((stored kvs k y).map (·.2)):=by
 have hany:kvs.any (fun q=>q.1=k)=ks.any (fun p=>p.1=k):=by
  have e1:kvs.any (fun q=>decide (q.1=k))=(kvs.map (·.1)).any (fun z=>decide (z=k)):=by rw [List.any_map];rfl
  have e2:ks.any (fun q=>decide (q.1=k))=(ks.map (·.1)).any (fun z=>decide (z=k)):=by rw [List.any_map];rfl
  rw [e1,e2,h1]
 unfold stored sto
 rw [hany]
 split
 ·rename_i hz
  clear hany hz
  induction ks generalizing kvs with
  | nil=>cases kvs with
   | nil=>exact⟨rfl,.nil⟩
   | cons=>simp at h1
  | cons p l ih=>cases kvs with
   | nil=>simp at h1
   | cons q m=>
    simp only [List.map_cons,List.cons.injEq]at h1 h2
    cases h2 with
    | cons hv hr=>
     have:=ih h1.2 hr
     by_cases e:p.1=k
     ·have e':q.1=k:=h1.1.trans e
      simp only [List.map_cons,if_pos e,if_pos e',List.cons.injEq]
      exact⟨⟨h1.1,this.1⟩,.cons r this.2⟩
     ·have e':¬ q.1=k:=fun z=>e (h1.1 ▸ z)
      simp only [List.map_cons,if_neg e,if_neg e',List.cons.injEq]
      exact⟨⟨h1.1,this.1⟩,.cons hv this.2⟩
 ·refine⟨by simp [h1],?_⟩
  rw [List.map_append,List.map_append]
  exact h2.append (.cons r .nil)
theorem map_inj {mk:K→AV} (hi:∀ a b,mk a=mk b→a=b):∀ {ks ls:List (K×AV)},ks.map (fun p=>(mk p.1,p.2))=ls.map (fun p=>(mk p.1,p.2))→ks=ls:=by
 intro ks
 induction ks with
 | nil=>intro ls h;cases ls <;> simp at h;rfl
 | cons p r ih=>
  intro ls h
  cases ls with
  | nil=>simp at h
  | cons q l=>
   simp only [List.map_cons,List.cons.injEq,Prod.mk.injEq]at h
   rw [ih h.2]
   obtain⟨a,b⟩:=p
   obtain⟨c,d⟩:=q
   have h1:a=c:=hi _ _ h.1.1
   have h2:b=d:=h.1.2
   rw [h1,h2]
theorem DR.of {w:World}{knd:KeyKind pw w K}{mk:K→AV} (hi:∀ a b,mk a=mk b→a=b){α:List Addr}{ks:List (K×AV)}{kvs:List (K×Value)}{o:Obj} (hd:IsD knd o kvs) (h1:kvs.map (·.1)=ks.map (·.1)) (h2:VRs α (ks.map (·.2)) (kvs.map (·.2))) :
  DR knd mk α (ks.map fun p=>(mk p.1,p.2)) o:=fun ls e=>by
 obtain rfl:=map_inj hi e
 exact⟨kvs,hd,h1,h2⟩
theorem DR.vac {w:World}{knd:KeyKind pw w K}{mk:K→AV}{α:List Addr}{es:List (AV×AV)}{o:Obj} (h:∃ p∈es,∀ k,p.1≠mk k):DR knd mk α es o:=fun ls e=>by
 refine byG fun G5 k5=>?_
 refine xE12 h fun p hp hn=>?_
 rw [e]at hp
 refine xE12 (List.mem_map.mp hp) fun q _ q1_=>?_
 subst q1_
 refine k5 ?_
 exact absurd rfl (hn q.1)
theorem sto_mem (ks:List (K×AV)) (k:K) (v:AV):∃ p∈sto ks k v,p.1=k:=by
 unfold sto
 split
 ·rename_i h
  refine xE12 (List.any_eq_true.mp h) fun x hx e=>?_
  have e:x.1=k:=by simpa using e
  exact⟨(x.1,v),List.mem_map.mpr ⟨x,hx,by rw [if_pos e]⟩,e⟩
 ·exact⟨(k,v),by simp,rfl⟩
end
theorem str_ne_int (a:Str):∀ k:Int,AV.str a≠AV.int k:=fun _ e=>by cases e
theorem int_ne_str (a:Int):∀ k:Str,AV.int a≠AV.str k:=fun _ e=>by cases e
section
variable {w:World}{A:Around}{B:Base}{env:Env}{f:Nat→Option Nat}{α:List Addr}{ρ ρ':Rho}{σ σ' σ₁ σ₂ σ₃ σ₄:Sto}{os:OsState}{s:Shared}
theorem isInt_self (q:Int) (t:Tok):(intKind pw w).is q (.int q t)=true:=by
 show Value.isInt q (.int q t)=true
 simp [Value.isInt]
noncomputable def TgOk (w:World) (A:Around) (B:Base) (env:Env) (f:Nat→Option Nat) (t:Expr) (v:AV) (ρ:Rho) (σ:Sto) (ρ':Rho) (σ':Sto):Prop:=
 ∀ (α:List Addr) (os:OsState) (s:Shared) (x:Value) (Q:Unit→Shared→Prop),St w B env f α ρ σ os s→VR α v x→
  (∀ α' s',α <+: α'→St w B env f α' ρ' σ' os s'→Q () s')→wpAny (model pw w) A (assign t env x) Q Ef s
theorem tg_var {x:Str}{pos:Pos}{i:Nat}{v:AV} (O:EnvOk env) (e:idx env.scope x=some (i,.local)):TgOk w A B env f (.Name x pos) v ρ σ (upd ρ i v) σ:=by
 intro α os s y Q S r k
 refine xE02 (idx_spec e) fun h1 h2=>?_
 refine xE12 S.rel.loc fun m F q=>?_
 refine wpAny_assign_Name (wpAny_storeName_local h2 F (fun h' hn hs=>?_) (by rw [O.kind];rfl))
 exact k α _ (pre_refl α) ⟨S.rel.store O.nodup h1 r (fun m' hm'=>ns_unique F hm' ▸ hn) hs,S.gens,S.os⟩
theorem tg_cvar {x:Str}{pos:Pos}{i l:Nat}{v:AV}{u:Option AV} (O:EnvOk env) (e:idx env.scope x=some (i,.cell)) (hl:f i=some l) (hu:σ[l]? = some (.cell u)):TgOk w A B env f (.Name x pos) v ρ σ ρ (σ.set l (.cell (some v))):=by
 intro α os s y Q S r k
 refine byG fun G8 k8=>?_
 refine xE02 (idx_spec e) fun h1 h2=>?_
 refine xE12 (S.rel.cel i x .cell h1 (.inl rfl) l hl) fun a c1 c2=>?_
 refine xE13 (S.at (.loc c2) hu) fun o g1 q2_ _=>?_
 refine xE12 q2_ fun y' hy _=>?_
 refine k8 ?_
 refine wpAny_assign_Name (wpAny_storeName_cell O.kind h2 c1 ⟨o,g1,hy⟩ fun h' hv hs=>?_)
 refine xE12 hv fun o' g2 hd=>?_
 exact k α _ (pre_refl α) ⟨S.rel.set c2 (fun es h=>by rw [hu]at h;cases h) hs.extBut g2 ⟨some y,hd,r⟩,S.gens,S.os⟩
theorem tg_attr {o:Expr}{n:Str}{pos:Pos}{l d:Nat}{c:Addr}{fs:List (Str×AV)}{v:AV} (G:Gd w B) (h1:EvOk w A B env f (eval o env) ρ σ (.loc l) σ₁) (e1:σ₁[l]? = some (.inst c d)) (e2:σ₁[d]? = some (.fields fs))
  (hc:c=242∨c=311) (hn:fieldNames.contains n=true) (hl:fs.length<100):TgOk w A B env f (.Attribute o n pos) v ρ σ ρ (σ₁.set d (.fields (setF n v fs))):=by
 intro α os s y Q S r k
 rw [arm_assign_Attribute]
 refine wpAny_bind (wpAny_holding (h1 α os s _ S fun α₁ x s₁ p1 S1 r1=>wpAny_bind (wpAny_standAt (wpAny_bind (wpAny_holding ?_)))))
 refine VR.refE r1 fun a r1=>?_
 exact set_field G S1 r1 (r.mono p1) e1 e2 hc hn hl fun s' S'=>wpAny_release (k α₁ s' p1 S')
theorem setKey_ok {l:Nat}{m:Addr}{es:List (AV×AV)}{a v:AV}{x y:Value}{Q:Unit→Shared→Prop} (S:St w B env f α ρ σ os s) (hl:VR α (.loc l) (.ref m)) (ha:VR α a x) (hv:VR α v y) (e1:σ[l]? = some (.dict es)) (hlen:es.length<900) (hg:goodKey a es=true)
  (k:∀ s',St w B env f α ρ (σ.set l (.dict (dput a v es))) os s'→Q () s'):wpAny (model pw w) A (setItem (.ref m) x y) Q Ef s:=by
 refine xE13 (S.at hl e1) fun o1 g1 r1 hm=>?_
 cases a with
 | str q=>
  refine VR.strE ha fun t=>?_
  refine xE11 (strK_of hg) fun ks q5_=>?_
  subst q5_
  refine xE13 (r1.1 ks rfl) fun kvs hd h1 h2=>?_
  have hn:(ks.map (·.1)).Nodup:=by obtain⟨_,es,ep,_,_,_,n⟩:=hd;rw [←h1];exact n
  have hz:kvs.length≤900:=by
   have z1:=congrArg List.length h1
   simp at z1 hlen;lia
  refine wpAny_setItem_pairs (isStrOf_self ..) (hd.at g1) (fun h' hD hs=>?_) (size_line (by lia))
  refine xE12 (IsD.of hD) fun o' g2 hd'=>?_
  refine xE02 (stored_rel h1 h2 q hv) fun q1 q2=>?_
  refine k _ ⟨S.rel.set hm (fun es h=>by rw [e1]at h;cases h) hs.extBut g2 ?_,S.gens,S.os⟩
  rw [dput_map str_inj hn]
  refine xE12 (sto_mem ks q v) fun p hp he=>?_
  exact⟨DR.of str_inj hd' q1 q2,DR.vac ⟨_,List.mem_map.mpr ⟨p,hp,rfl⟩,fun _=>str_ne_int _ _⟩⟩
 | int q=>
  refine VR.intE ha fun t=>?_
  refine xE11 (intK_of hg) fun ks q7_=>?_
  subst q7_
  refine xE13 (r1.2 ks rfl) fun kvs hd h1 h2=>?_
  have hn:(ks.map (·.1)).Nodup:=by obtain⟨_,es,ep,_,_,_,n⟩:=hd;rw [←h1];exact n
  have hz:kvs.length≤900:=by
   have z1:=congrArg List.length h1
   simp at z1 hlen;lia
  refine wpAny_setItem_pairs (isInt_self ..) (hd.at g1) (fun h' hD hs=>?_) (size_line (by lia))
  refine xE12 (IsD.of hD) fun o' g2 hd'=>?_
  refine xE02 (stored_rel h1 h2 q hv) fun q1 q2=>?_
  refine k _ ⟨S.rel.set hm (fun es h=>by rw [e1]at h;cases h) hs.extBut g2 ?_,S.gens,S.os⟩
  rw [dput_map int_inj hn]
  refine xE12 (sto_mem ks q v) fun p hp he=>?_
  exact⟨DR.vac ⟨_,List.mem_map.mpr ⟨p,hp,rfl⟩,fun _=>int_ne_str _ _⟩,DR.of int_inj hd' q1 q2⟩
 | _=>exact Bool.noConfusion hg
end
end Mine
end
section
open PySem PySem.W PyProof.Rows PySem.Calls PySem.SeqAt
set_option maxRecDepth 100000
set_option linter.unusedVariables false
set_option autoImplicit false
namespace Mine
noncomputable abbrev LObj (items:Array Value) (n:Nat):Obj:={ cls:=.type "list",dict:=none,data:=.seq items n,slots:=#[] }
theorem mapSeq_L (items:Array Value) (n:Nat) (g:Array Value→Array Value):∃ n',Obj.mapSeq g (LObj items n)=LObj (g items) n':=by
 exact⟨_,rfl⟩
section
variable {w:World}{A:Around}{B:Base}{env:Env}{f:Nat→Option Nat}{α:List Addr}{ρ ρ':Rho}{σ σ' σ₁ σ₂ σ₃ σ₄:Sto}{os:OsState}{s:Shared}
theorem setItem_neg {l:Addr}{items:Array Value}{n:Nat}{k:Int}{t:Tok}{v:Value}{Q:Unit→Shared→Prop} (ho:s.heap.get? l=some (LObj items n)) (h0:k<0) (h1:-(items.size:Int)≤k) (hfit:-(2 ^ 63)≤k)
  (hQ:∀ h' n',h'.get? l=some (LObj (items.setIfInBounds (k+items.size).toNat v) n')→Heap.SameBut l s.heap h'→Q () { s with heap:=h' }):wpAny (model pw w) A (setItem (.ref l) (.int k t) v) Q Ef s:=by
 have hl:s.heap.IsList l items:=⟨_,ho,rfl,n,rfl⟩
 unfold setItem
 try with_reducible refine wpAny_holding ?_
 first | refine wpAny_bind (wpAny_pure ?_) | skip
 refine wpAny_bind (wpAny_sequenceKey hl.typeIs (by decide) ?_)
 refine wpAny_bind (wpAny_callSpecial?_slot (name:=Str.ofString "__setitem__") hl.typeIs slot_list_setitem
  (wpAny_call_entry slot_list_setitem hl.typeIs entry_list_setitem ?_ (args_list_setitem _ _ _)))
 show wpAny _ _ (Builtin.List.listSubscript? (.int k t) >>= _) _ _ s
 refine wpAny_bind (wpAny_listSubscript_int (fitsIndex_neg h0 hfit) ?_)
 have hidx:=seqIndex_neg h0 h1
 have hj:(k+items.size).toNat<items.size:=by lia
 have hx':items[(k+items.size).toNat]? = some items[(k+items.size).toNat]:=Array.getElem?_eq_getElem hj
 clear hfit
 obtain⟨j,rfl⟩:∃ j:Nat,k=Int.negSucc j:=by
  cases k with
  | ofNat n=>exact absurd h0 (Int.not_lt.mpr (Int.natCast_nonneg n))
  | negSucc n=>exact⟨n,rfl⟩
 show wpAny _ _ ((Builtin.List.listItems (.ref l) >>= fun xs=>pure ((seqIndex? (Int.negSucc j) xs.size).bind fun i=>xs[i]?.map (i,·))) >>= _) _ _ s
 refine wpAny_bind (wpAny_bind ?_)
 show wpAny _ _ (seqItems? (.ref l) >>= _) _ _ s
 refine wpAny_bind (wpAny_seqItems ho rfl (wpAny_pure (wpAny_pure ?_)))
 rw [hidx]
 simp only [Option.bind_some,hx',Option.map_some]
 refine xE11 (mapSeq_L items n (·.setIfInBounds (Int.negSucc j+items.size).toNat v)) fun n' hn'=>?_
 have hfin:(s.heap.update l (Obj.mapSeq (·.setIfInBounds (Int.negSucc j+items.size).toNat v))).get? l=some (LObj (items.setIfInBounds (Int.negSucc j+items.size).toNat v) n'):=by
  have:=Heap.get?_update_self (f:=Obj.mapSeq (·.setIfInBounds (Int.negSucc j+items.size).toNat v)) ho (by rw [hn'];rfl)
  rw [this,hn']
 refine wpAny_bind (wpAny_setSeqItemAt ho rfl ?_)
 first
  | exact wpAny_bind (wpAny_pure (wpAny_pure ⟨.none,rfl,wpAny_pure (hQ _ _ hfin (Heap.SameBut.update ..))⟩))
  | exact wpAny_pure ⟨.none,rfl,wpAny_pure (hQ _ _ hfin (Heap.SameBut.update ..))⟩
theorem VRs.set {xs:List AV}{ys:List Value} (r:VRs α xs ys) (j:Nat){v:AV}{y:Value} (h:VR α v y):VRs α (xs.set j v) (ys.set j y):=by
 induction r generalizing j with
 | nil=>exact .nil
 | cons a b ih=>cases j with
  | zero=>exact .cons h b
  | succ j=>exact .cons a (ih j)
theorem setAt_ok {a b v:AV}{x1 x2 y:Value}{Q:Unit→Shared→Prop} (e:PutR σ a b v σ') (S:St w B env f α ρ σ os s) (ha:VR α a x1) (hb:VR α b x2) (hv:VR α v y) (k:∀ s',St w B env f α ρ σ' os s'→Q () s') :
  wpAny (model pw w) A (setItem x1 x2 y) Q Ef s:=by
 cases e with
 | dict e1 z g=>exact VR.refE ha fun m ha=>setKey_ok S ha hb hv e1 z g k
 | list e1 h0 h1 hz=>
  refine VR.refE ha fun m ha=>?_
  refine VR.intE hb fun t=>?_
  refine listAt (S.at ha e1) fun it1 n1 g1 r1 z hm=>?_
  refine setItem_neg g1 h0 (by lia) (by lia) fun h' n' g2 hs=>k _ ⟨S.rel.set hm (fun es h=>nomatch (e1.symm.trans h)) hs.extBut g2 ⟨_,n',rfl,?_⟩,S.gens,S.os⟩
  rw [Array.toList_setIfInBounds,←z]
  exact r1.set _ hv
theorem tg_item {o i:Expr}{pos:Pos}{a b v:AV} (h1:EvOk w A B env f (eval o env) ρ σ a σ₁) (h2:EvOk w A B env f (eval i env) ρ σ₁ b σ₂) (e:PutR σ₂ a b v σ₃):TgOk w A B env f (.Subscript o i pos) v ρ σ ρ σ₃:=by
 intro α os s y Q S r k
 rw [arm_assign_Subscript]
 refine wpAny_bind (wpAny_holding (h1 α os s _ S fun α₁ x1 s₁ p1 S1 r1=>wpAny_bind (wpAny_holding (h2 α₁ os s₁ _ S1 fun α₂ x2 s₂ p2 S2 r2=>wpAny_bind (wpAny_standAt (wpAny_bind (wpAny_holding ?_)))))))
 exact setAt_ok e S2 (r1.mono p2) r2 (r.mono (p1.trans p2)) fun s' S'=>wpAny_release (k α₂ s' (p1.trans p2) S')
end
end Mine
end
section
open PySem PySem.W PyProof.Rows PySem.Calls PySem.SeqAt
set_option maxRecDepth 100000
set_option linter.unusedVariables false
set_option autoImplicit false
namespace Mine
theorem kk_iter (P:Params):findIn (KK P) (.ref 135) "__iter__"=some (some (.builtin "tuple.__iter__")):=by kernel_rfl
theorem kind_tuple_iter:builtinKind "tuple.__iter__"=some .slot:=by kernel_rfl
section
variable {prog:Program}{w:World}{P:Params}{A:Around}{E:Value→Shared→Prop}{s:Shared}{l:Addr}{items:Array Value}{n:Nat}{dd:Option Addr}
theorem m_special {name:Str}{v:Value}{Q:Option Value→Shared→Prop} (X:(KK P).In s.heap) (hm:s.heap.get? l=some (MObj items n dd)) (hf:findIn (KK P) (.ref 135) name=some (some v)) (h:Q (some v) s) :
  wpAny (model prog w) A (specialOf (.ref l) name) Q E s:=by
 show wpAny _ _ (typeOf (.ref l) >>= fun t=>typeLookup t name) _ _ _
 exact wpAny_bind (m_typeOf hm ((looks_findIn X hf).at h))
theorem m_pyIter {Q:Value→Shared→Prop} (X:(KK P).In s.heap) (hm:s.heap.get? l=some (MObj items n dd))
  (h:Q (.ref s.heap.objs.size) { s with heap:=s.heap.push { cls:=.type "tuple_iterator",data:=.fields #[.ref l,.int 0 0] } }):wpAny (model prog w) A (pyIter (.ref l)) Q E s:=by
 unfold pyIter
 refine wpAny_bind (m_special X hm (kk_iter P) ?_)
 refine wpAny_bind ?_
 unfold callSpecialIfBoundUnlessNone? bindSpecialIfBound?
 refine wpAny_holding (wpAny_bind (wpAny_bind (m_special X hm (kk_iter P) ?_)))
 simp only [F.slot_tuple_iter.bind]
 refine wpAny_bind (wpAny_askSetting (wpAny_ite ?_))
 have fin:∀ (R:Option Value→Shared→Prop),R (some (.ref s.heap.objs.size)) { s with heap:=s.heap.push { cls:=.type "tuple_iterator",data:=.fields #[.ref l,.int 0 0] } }→
   wpAny (model prog w) A (call (.builtin "tuple.__iter__") [.ref l] >>= fun v=>pure (some v)) R E s:=fun R hR=>by
  refine wpAny_bind (m_call X hm kind_tuple_iter (m:="__iter__") (by decide +kernel) F.slot_tuple_iter.plain F.entry_tuple_iter (F.args_tuple_iter_1 _) ?_)
  show wpAny _ _ (do ret (←newFields "tuple_iterator" [.ref l,rawInt 0])) _ _ s
  exact wpAny_bind (wpAny_newObj_type (wpAny_pure ⟨_,rfl,wpAny_pure hR⟩))
 have tail:wpAny (model prog w) A (specialOf (.ref s.heap.objs.size) "__next__" >>= fun r=>match r with
   | none=>(do rule "iter.non-iterator";raiseError "TypeError" s!"iter() returned non-iterator of type '{← typeNameOf (.ref s.heap.objs.size)}'")
   | some _=>pure (.ref s.heap.objs.size)) Q E { s with heap:=s.heap.push { cls:=.type "tuple_iterator",data:=.fields #[.ref l,.int 0 0] } }:=
  wpAny_bind (wpAny_specialOf (T:="tuple_iterator") ⟨_,Heap.get?_push_size _ rfl,rfl⟩ F.slot_tuple_iterator_next.lookup (wpAny_pure h))
 split
 ·exact wpAny_bind (wpAny_pure (wpAny_pure (fin _ tail)))
 ·exact wpAny_tryCatch (wpAny_bind (wpAny_pure (wpAny_pure (fin _ tail))))
theorem m_next {it:Addr}{i:Nat}{x:Value}{Q:Option Value→Shared→Prop} (hit:s.heap.IsTupleIter it l i) (hm:s.heap.get? l=some (MObj items n dd)) (hx:items[i]? = some x)
  (hQ:∀ h',h'.IsTupleIter it l (i+1)→Heap.SameBut it s.heap h'→Q (some x) { s with heap:=h' }):wpAny (model prog w) A (pyNext (.ref it)) Q E s:=by
 refine xE13 (id hit) fun o ho hc hd=>?_
 unfold pyNext
 refine wpAny_bind (wpAny_attempt (wpAny_callSpecial?_slot (name:=Str.ofString "__next__") hit.typeIs F.slot_tuple_iterator_next
  (wpAny_call_entry F.slot_tuple_iterator_next hit.typeIs F.entry_tuple_iterator_next ?_ (F.args_tuple_iterator_next_1 _))))
 show wpAny _ _ (field (.ref it) 0 >>= _) _ _ s
 refine wpAny_bind (wpAny_field ho hd (x:=.ref l) rfl ?_)
 show wpAny _ _ (if (Value.ref l == Value.none)=true then _ else _) _ _ s
 rw [if_neg (show ¬ ((Value.ref l == Value.none)=true)from Bool.false_ne_true)]
 show wpAny _ _ (field (.ref it) 1 >>= _) _ _ s
 refine wpAny_bind (wpAny_field ho hd (x:=.int i 0) rfl ?_)
 show wpAny _ _ (seqItems? (.ref l) >>= _) _ _ s
 refine wpAny_bind (wpAny_seqItems hm rfl ?_)
 simp only [Int.toNat_natCast,hx]
 refine wpAny_bind (wpAny_setField ho hd (by simp) (wpAny_pure ⟨x,rfl,wpAny_pure (hQ _ ?_ (Heap.SameBut.update ..))⟩))
 exact⟨_,Heap.get?_update_self _ ho (Obj.isFreed_of_fields (Obj.data_mapFields hd _)),(Obj.cls_mapFields ..).trans hc,by
  rw [Obj.data_mapFields hd];simp [rawInt]⟩
theorem m_end {it:Addr}{i:Nat}{Q:Option Value→Shared→Prop} (hh:A.handled=none) (hit:s.heap.IsTupleIter it l i) (hm:s.heap.get? l=some (MObj items n dd)) (hx:items[i]? = none)
  (hQ:∀ h',Heap.ExtBut it s.heap h'→Q none { s with heap:=h' }):wpAny (model prog w) A (pyNext (.ref it)) Q E s:=by
 refine xE13 (id hit) fun o ho hc hd=>?_
 unfold pyNext
 refine wpAny_bind (wpAny_attempt (wpAny_callSpecial?_slot (name:=Str.ofString "__next__") hit.typeIs F.slot_tuple_iterator_next
  (wpAny_call_entry F.slot_tuple_iterator_next hit.typeIs F.entry_tuple_iterator_next ?_ (F.args_tuple_iterator_next_1 _))))
 show wpAny _ _ (field (.ref it) 0 >>= _) _ _ s
 refine wpAny_bind (wpAny_field ho hd (x:=.ref l) rfl ?_)
 show wpAny _ _ (if (Value.ref l == Value.none)=true then _ else _) _ _ s
 rw [if_neg (show ¬ ((Value.ref l == Value.none)=true)from Bool.false_ne_true)]
 show wpAny _ _ (field (.ref it) 1 >>= _) _ _ s
 refine wpAny_bind (wpAny_field ho hd (x:=.int i 0) rfl ?_)
 show wpAny _ _ (seqItems? (.ref l) >>= _) _ _ s
 refine wpAny_bind (wpAny_seqItems hm rfl ?_)
 simp only [Int.toNat_natCast,hx]
 refine wpAny_bind (wpAny_rule (wpAny_bind (wpAny_setField ho hd (by simp) ?_)))
 show wpAny _ _ (newExc (.type "StopIteration") [] >>= _) _ _ _
 refine wpAny_bind ?_
 unfold newExc newTuple
 refine wpAny_bind (wpAny_newObj_type ?_ (by size_fits))
 refine wpAny_bind (m:=firstArgMember _ _) (wpAny_of_eq (a:=Value.none) (by first | rfl | (simp only [firstArgMember];rfl)) ?_)
 refine wpAny_newObj_type ?_ (by size_fits)
 unfold raiseNew
 refine wpAny_bind (wpAny_handled ?_)
 first | rw [show A.in1.handled=none from hh] | rw [hh]
 refine wpAny_bind (wpAny_pure (wpAny_throw ?_))
 refine wpAny_bind (wpAny_isInstance (T:="StopIteration") (b:=true) ⟨_,Heap.get?_push_size _ rfl,rfl⟩ isSubtype_stop ?_)
 exact wpAny_pure (hQ _ (((Heap.SameBut.update ..).extBut.push _).push _))
theorem m_draw {it:Addr} (hne:l≠it):∀ (k i:Nat) (s:Shared) (Q:List Value→Shared→Prop),s.heap.IsTupleIter it l i→s.heap.get? l=some (MObj items n dd)→i+k≤items.size→
  (∀ h',h'.IsTupleIter it l (i+k)→Heap.SameBut it s.heap h'→Q ((items.toList.drop i).take k) { s with heap:=h' })→wpAny (model prog w) A (draw (.ref it) k) Q E s
 | 0,i,s,Q,hit,_,_,hQ=>by
  show wpAny _ _ (pure []) Q E s
  exact wpAny_pure (by simpa using hQ s.heap hit (Heap.SameBut.refl ..))
 | k+1,i,s,Q,hit,hm,hle,hQ=>by
  have hlt:i<items.size:=by lia
  show wpAny _ _ (pyNext (.ref it) >>= _) Q E s
  refine wpAny_bind (m_next hit hm (x:=items[i]) (by simp [hlt]) fun h₁ hit₁ hs₁=>?_)
  refine wpAny_bind (wpAny_holding (m_draw hne k (i+1) _ _ hit₁ (hs₁.extBut _ _ hne hm) (by lia) fun h₂ hit₂ hs₂=>wpAny_pure ?_))
  have hd:items.toList.drop i=items[i] :: items.toList.drop (i+1):=by simp [List.drop_eq_getElem_cons,hlt]
  have:=hQ h₂ (by rw [show i+(k+1)=i+1+k by lia];exact hit₂) (hs₁.trans hs₂)
  rw [hd,List.take_succ_cons]at this
  exact this
theorem m_unpackItems {Q:List Value→Shared→Prop} (X:(KK P).In s.heap) (hh:A.handled=none) (hm:s.heap.get? l=some (MObj items n dd))
  (hQ:∀ h',Heap.ExtBut s.heap.objs.size s.heap h'→Q items.toList { s with heap:=h' }):wpAny (model prog w) A (unpackItems (.ref l) items.size none) Q E s:=by
 have hlt:l≠s.heap.objs.size:=Nat.ne_of_lt (Heap.lt_size hm)
 unfold unpackItems
 refine wpAny_bind ?_
 unfold notIterableAtAll
 refine wpAny_bind (m_special X hm (kk_iter P) ?_)
 refine wpAny_pure ?_
 simp only [Bool.false_eq_true,if_false]
 refine wpAny_bind (wpAny_holding (m_pyIter X hm ?_))
 refine wpAny_bind (wpAny_holding (m_draw hlt items.size 0 _ _ ⟨_,Heap.get?_push_size _ rfl,rfl,rfl⟩ (Heap.get?_push_of_some _ hm) (by lia) fun h₁ hit₁ hs₁=>?_))
 have hall:List.take items.size (List.drop 0 items.toList)=items.toList:=by
  rw [List.drop_zero];exact List.take_of_length_le (by simp)
 rw [hall]
 rw [if_neg (by simp)]
 have hm₁:h₁.get? l=some (MObj items n dd):=hs₁.extBut _ _ hlt (Heap.get?_push_of_some _ hm)
 refine wpAny_bind (wpAny_holding (m_end hh hit₁ hm₁ (by simp) fun h₂ he₂=>?_))
 simp only [Option.isSome_none,Bool.false_eq_true,if_false]
 refine wpAny_pure (hQ h₂ fun b o hb e=>he₂ b o hb (hs₁.extBut b o hb (Heap.get?_push_of_some _ e)))
end
end Mine
end
section
open PySem PySem.W PyProof.Rows PySem.Calls PySem.SeqAt
set_option maxRecDepth 100000
set_option linter.unusedVariables false
set_option autoImplicit false
namespace Mine
theorem assignEach_cons {t:Expr}{rest:List Expr}{env:Env} (h:notStar t=true):assignEach (t :: rest) env=(false,assign t env) :: assignEach rest env:=by
 cases t <;> first | rfl | cases h
theorem assignEach_spec {env:Env}:∀ {ts:List Expr},ts.all notStar=true→(assignEach ts env).length=ts.length∧(assignEach ts env).findIdx? (·.1)=none
 | [],_=>⟨rfl,rfl⟩
 | t :: r,h=>by
  rw [List.all_cons,Bool.and_eq_true]at h
  refine xE02 (assignEach_spec (env:=env) h.2) fun h1 h2=>?_
  rw [assignEach_cons h.1]
  refine⟨by simp [h1],?_⟩
  rw [List.findIdx?_cons]
  simp [h2]
section
variable {w:World}{A:Around}{B:Base}{env:Env}{f:Nat→Option Nat}{α:List Addr}{ρ ρ' ρ₁ ρ₂:Rho}{σ σ' σ₁ σ₂ σ₃ σ₄:Sto}{os:OsState}{s:Shared}
noncomputable def TgsOk (w:World) (A:Around) (B:Base) (env:Env) (f:Nat→Option Nat) (ts:List Expr) (vs:List AV) (ρ:Rho) (σ:Sto) (ρ':Rho) (σ':Sto):Prop:=
 ∀ (α:List Addr) (os:OsState) (s:Shared) (xs:List Value) (Q:Unit→Shared→Prop),St w B env f α ρ σ os s→VRs α vs xs→
  (∀ α' s',α <+: α'→St w B env f α' ρ' σ' os s'→Q () s')→wpAny (model pw w) A (assignInOrder ((assignEach ts env).map (·.2)) xs) Q Ef s
theorem tgs_nil {vs:List AV}:TgsOk w A B env f [] vs ρ σ ρ σ:=fun α os s xs Q S r k=>wpAny_pure (k α s (pre_refl α) S)
theorem tgs_cons {t:Expr}{ts:List Expr}{v:AV}{vs:List AV} (hn:notStar t=true) (h1:TgOk w A B env f t v ρ σ ρ₁ σ₁) (h2:TgsOk w A B env f ts vs ρ₁ σ₁ ρ₂ σ₂):TgsOk w A B env f (t :: ts) (v :: vs) ρ σ ρ₂ σ₂:=by
 intro α os s xs Q S r k
 cases r with
 | cons hv hr=>
  rw [assignEach_cons hn]
  refine wpAny_bind (wpAny_holding (h1 α os s _ _ S hv fun α₁ s₁ p1 S1=>h2 α₁ os s₁ _ _ S1 (hr.mono p1) fun α₂ s₂ p2 S2=>k α₂ s₂ (p1.trans p2) S2))
theorem St.ext {h':Heap} (S:St w B env f α ρ σ os s) (he:Heap.ExtBut s.heap.objs.size s.heap h'):St w B env f α ρ σ os { s with heap:=h' }:=
 ⟨S.rel.keeps fun b o e=>he b o (Nat.ne_of_lt (Heap.lt_size e)) e,S.gens,S.os⟩
theorem tg_tup {ts:List Expr}{x1:Nat}{pos:Pos}{l:Nat}{c:Value}{xs:List AV} (hh:A.handled=none) (G:Gd w B) (hn:ts.all notStar=true) (e:σ[l]? = some (.tup c xs)) (hc:c=.type "tuple"∨c=.ref 135) (hl:xs.length=ts.length)
  (h:TgsOk w A B env f ts xs ρ σ ρ' σ'):TgOk w A B env f (.Tuple ts x1 pos) (.loc l) ρ σ ρ' σ':=by
 intro α os s y Q S r k
 refine byG fun G2 k2=>?_
 refine xE12 r.ref_of fun a q1_ r=>?_
 subst q1_
 refine xE13 (S.at r e) fun o1 g1 q2_ _=>?_
 refine xE33 q2_ fun it1 n1 dd q3_ r1 hd=>?_
 subst q3_
 refine xE02 (assignEach_spec (env:=env) hn) fun q1 q2=>?_
 have z:=r1.length
 simp only [Array.length_toList]at z
 refine k2 ?_
 rw [arm_assign_Tuple]
 refine wpAny_bind (wpAny_standAt ?_)
 rcases hc with rfl | rfl
 ·refine wpAny_unpack_tuple hh ⟨_,g1,rfl,n1,rfl⟩ (by lia) q2 fun h' he=>?_
  exact h α os _ _ Q (S.ext he) r1 k
 ·unfold unpack
  rw [q1,q2,show ts.length=it1.size by lia]
  exact wpAny_bind (wpAny_holding (m_unpackItems (G.kk S) hh g1 fun h' he=>h α os _ _ Q (S.ext he) r1 k))
end
end Mine
end
section
open PySem PySem.W PyProof.Rows PySem.Calls PySem.SeqAt
set_option maxRecDepth 100000
set_option linter.unusedVariables false
set_option autoImplicit false
namespace Mine
inductive FlRel (α:List Addr):Fl→Flow→Prop
 | next:FlRel α .next .next
 | brk:FlRel α .brk .brk
 | cont:FlRel α .cont .cont
 | ret {v:AV}{x:Value} (h:VR α v x):FlRel α (.ret v) (.ret x)
theorem no_swap {e:Expr}{t:Option Expr}{n:Nat}{env:Env} (h:notComp e=true):swapsWith e t n env=pure false:=by
 cases e <;> first | rfl | cases h
section
variable {w:World}{A:Around}{B:Base}{env:Env}{f:Nat→Option Nat}{α:List Addr}{ρ ρ' ρ₁ ρ₂:Rho}{σ σ' σ₁ σ₂ σ₃ σ₄:Sto}{os:OsState}{s:Shared}
noncomputable def ExOk (w:World) (A:Around) (B:Base) (env:Env) (f:Nat→Option Nat) (m:Sem Flow) (ρ:Rho) (σ:Sto) (fl:Fl) (ρ':Rho) (σ':Sto):Prop:=
 ∀ (α:List Addr) (os:OsState) (s:Shared) (Q:Flow→Shared→Prop),St w B env f α ρ σ os s→
  (∀ α' x s',α <+: α'→St w B env f α' ρ' σ' os s'→FlRel α' fl x→Q x s')→wpAny (model pw w) A m Q Ef s
theorem ex_expr {e:Expr}{pos:Pos}{v:AV} (hi:interactive env=false) (hc:notComp e=true) (h:EvOk w A B env f (eval e env) ρ σ v σ₁):ExOk w A B env f (exec (.Expr e pos) env) ρ σ .next ρ σ₁:=by
 intro α os s Q S k
 exact wpAny_Expr_any (h α os s _ S fun α₁ x s₁ p1 S1 r1=>k α₁ _ s₁ p1 S1 .next) hi (no_swap hc)
theorem ex_ret {e:Expr}{pos:Pos}{v:AV} (h:EvOk w A B env f (eval e env) ρ σ v σ₁):ExOk w A B env f (exec (.Return (some e) pos) env) ρ σ (.ret v) ρ σ₁:=by
 intro α os s Q S k
 exact wpAny_Return_some (h α os s _ S fun α₁ x s₁ p1 S1 r1=>k α₁ _ s₁ p1 S1 (.ret r1))
theorem ex_ret_none {pos:Pos}:ExOk w A B env f (exec (.Return none pos) env) ρ σ (.ret .none) ρ σ:=fun α os s Q S k=>wpAny_Return_none (k α _ s (pre_refl α) S (.ret .none))
theorem ex_brk {pos:Pos}:ExOk w A B env f (exec (.Break pos) env) ρ σ .brk ρ σ:=fun α os s Q S k=>wpAny_bind (wpAny_standAt (wpAny_pure (k α _ s (pre_refl α) S .brk)))
theorem ex_cont {pos:Pos}:ExOk w A B env f (exec (.Continue pos) env) ρ σ .cont ρ σ:=fun α os s Q S k=>wpAny_bind (wpAny_standAt (wpAny_pure (k α _ s (pre_refl α) S .cont)))
theorem exs_nil:ExOk w A B env f (PySem.execs [] env) ρ σ .next ρ σ:=fun α os s Q S k=>wpAny_execs_nil (k α _ s (pre_refl α) S .next)
theorem exs_cons {st:Stmt}{rest:List Stmt}{fl:Fl} (h1:ExOk w A B env f (exec st env) ρ σ .next ρ₁ σ₁) (h2:ExOk w A B env f (PySem.execs rest env) ρ₁ σ₁ fl ρ₂ σ₂):ExOk w A B env f (PySem.execs (st :: rest) env) ρ σ fl ρ₂ σ₂:=by
 intro α os s Q S k
 refine wpAny_execs_cons (h1 α os s _ S fun α₁ x s₁ p1 S1 r1=>?_)
 cases r1
 exact h2 α₁ os s₁ _ S1 fun α₂ x s₂ p2 S2 r2=>k α₂ x s₂ (p1.trans p2) S2 r2
theorem exs_stop {st:Stmt}{rest:List Stmt}{fl:Fl} (hf:fl≠.next) (h1:ExOk w A B env f (exec st env) ρ σ fl ρ₁ σ₁):ExOk w A B env f (PySem.execs (st :: rest) env) ρ σ fl ρ₁ σ₁:=by
 intro α os s Q S k
 refine wpAny_execs_cons (h1 α os s _ S fun α₁ x s₁ p1 S1 r1=>?_)
 cases r1 with
 | next=>exact absurd rfl hf
 | brk=>exact k α₁ _ s₁ p1 S1 .brk
 | cont=>exact k α₁ _ s₁ p1 S1 .cont
 | ret h=>exact k α₁ _ s₁ p1 S1 (.ret h)
theorem ex_if {t:Expr}{a b:List Stmt}{pos:Pos}{c:Bool}{fl:Fl} (h1:TsOk w A B env f (isTrue t env (eval t env)) ρ σ c σ₁) (h2:ExOk w A B env f (PySem.execs (if c then a else b) env) ρ σ₁ fl ρ₂ σ₂) :
  ExOk w A B env f (exec (.If t a b pos) env) ρ σ fl ρ₂ σ₂:=by
 intro α os s Q S k
 refine wpAny_If (h1 α os s _ S fun α₁ s₁ p1 S1=>?_)
 cases c
 ·exact h2 α₁ os s₁ _ S1 fun α₂ x s₂ p2 S2 r2=>k α₂ x s₂ (p1.trans p2) S2 r2
 ·exact h2 α₁ os s₁ _ S1 fun α₂ x s₂ p2 S2 r2=>k α₂ x s₂ (p1.trans p2) S2 r2
noncomputable def TsgOk (w:World) (A:Around) (B:Base) (env:Env) (f:Nat→Option Nat) (ts:List Expr) (v:AV) (ρ:Rho) (σ:Sto) (ρ':Rho) (σ':Sto):Prop:=
 ∀ (α:List Addr) (os:OsState) (s:Shared) (x:Value) (Q:Unit→Shared→Prop),St w B env f α ρ σ os s→VR α v x→
  (∀ α' s',α <+: α'→St w B env f α' ρ' σ' os s'→Q () s')→wpAny (model pw w) A (assignAll x ((assignEach ts env).map (·.2))) Q Ef s
theorem tsg_one {t:Expr}{v:AV} (hn:notStar t=true) (h:TgOk w A B env f t v ρ σ ρ₁ σ₁):TsgOk w A B env f [t] v ρ σ ρ₁ σ₁:=by
 intro α os s x Q S r k
 rw [assignEach_cons hn]
 exact h α os s x Q S r k
theorem tsg_cons {t t₂:Expr}{ts:List Expr}{v:AV} (hn:notStar t=true) (hn2:notStar t₂=true) (h1:TgOk w A B env f t v ρ σ ρ₁ σ₁) (h2:TsgOk w A B env f (t₂ :: ts) v ρ₁ σ₁ ρ₂ σ₂):TsgOk w A B env f (t :: t₂ :: ts) v ρ σ ρ₂ σ₂:=by
 intro α os s x Q S r k
 rw [assignEach_cons hn]
 have e:assignEach (t₂ :: ts) env=(false,assign t₂ env) :: assignEach ts env:=assignEach_cons hn2
 rw [e]
 refine wpAny_bind (wpAny_holding (h1 α os s x _ S r fun α₁ s₁ p1 S1=>?_))
 have:=h2 α₁ os s₁ x Q S1 (r.mono p1) fun α₂ s₂ p2 S2=>k α₂ s₂ (p1.trans p2) S2
 rw [e]at this
 exact this
theorem ex_assign {ts:List Expr}{e:Expr}{pos:Pos}{v:AV} (hs:swapsWithSole ts e pos.line env=pure false) (hw:swappedStores ts e env=pure none) (h1:EvOk w A B env f (eval e env) ρ σ v σ₁) (h2:TsgOk w A B env f ts v ρ σ₁ ρ₂ σ₂) :
  ExOk w A B env f (exec (.Assign ts e pos) env) ρ σ .next ρ₂ σ₂:=by
 intro α os s Q S k
 refine wpAny_Assign_stores (h1 α os s _ S fun α₁ x s₁ p1 S1 r1=>?_) hs hw
 exact h2 α₁ os s₁ x _ S1 r1 fun α₂ s₂ p2 S2=>k α₂ _ s₂ (p1.trans p2) S2 .next
end
end Mine
end
section
open PySem PySem.W PyProof.Rows PySem.Calls PySem.SeqAt
set_option maxRecDepth 100000
set_option linter.unusedVariables false
set_option autoImplicit false
namespace Mine
section
variable {w:World}{A:Around}{B:Base}{env:Env}{f:Nat→Option Nat}{α:List Addr}{ρ ρ' ρ₁ ρ₂:Rho}{σ σ' σ₁ σ₂ σ₃ σ₄:Sto}{os:OsState}{s:Shared}
theorem ex_aug {x:Str}{p pos:Pos}{e:Expr}{i:Nat}{a b:Int} (O:EnvOk env) (hx:idx env.scope x=some (i,.local)) (ha:ρ i=some (.int a)) (h:EvOk w A B env f (eval e env) ρ σ (.int b) σ₁) :
  ExOk w A B env f (exec (.AugAssign (.Name x p) .Add e pos) env) ρ σ .next (upd ρ i (.int (a+b))) σ₁:=by
 intro α os s Q S k
 refine byG fun G1 k1=>?_
 refine xE02 (idx_spec hx) fun h1 h2=>?_
 refine xE12 S.rel.loc fun m F q=>?_
 refine xE12 (q i x _ h1 ha) fun y e1 r=>?_
 refine xE11 r.int_of fun t q1_=>?_
 subst q1_
 refine k1 ?_
 refine wpAny_AugAssign_Name (wpAny_loadName_local O.kind h2 F e1 (h α os s _ S fun α₁ z s₁ p1 S1 r1=>?_))
 refine VR.intE r1 fun u=>?_
 refine PyProof.Rows.iadd_int ?_
 refine xE12 S1.rel.loc fun m F q=>?_
 refine wpAny_storeName_local h2 (s:={ s₁ with toks:=s₁.toks+1 }) F (fun h' hn hs=>?_) (by rw [O.kind];rfl)
 exact k α₁ _ _ p1 ⟨S1.rel.store O.nodup h1 (.int _ _) (fun m' hm'=>ns_unique F hm' ▸ hn) hs,S1.gens,S1.os⟩ .next
inductive Wh (T:Rho→Sto→Bool→Sto→Prop) (Bd:Rho→Sto→Rho→Sto→Prop):Nat→Rho→Sto→Rho→Sto→Prop
 | done {n:Nat}{ρ:Rho}{σ σ':Sto}:T ρ σ false σ'→Wh T Bd n ρ σ ρ σ'
 | step {n:Nat}{ρ ρ₂ ρ':Rho}{σ σ₁ σ₂ σ':Sto}:T ρ σ true σ₁→Bd ρ σ₁ ρ₂ σ₂→Wh T Bd n ρ₂ σ₂ ρ' σ'→Wh T Bd (n+1) ρ σ ρ' σ'
theorem TsOk.run {E:Value→Shared→Prop}{t:Sem Bool}{c:Bool} (H:TsOk w A B env f t ρ σ c σ') (S:St w B env f α ρ σ os s){Q:Bool→Shared→Prop} (k:∀ α' s',α <+: α'→St w B env f α' ρ σ' os s'→Q c s'):wpAny (model pw w) A t Q E s:=
 wpAny_mono (H α os s Q S k) (fun _ _ q=>q) fun _ _ x=>x.elim
theorem EvOk.run {E:Value→Shared→Prop}{t:Sem Value}{v:AV} (H:EvOk w A B env f t ρ σ v σ') (S:St w B env f α ρ σ os s){Q:Value→Shared→Prop} (k:∀ α' x s',α <+: α'→St w B env f α' ρ σ' os s'→VR α' v x→Q x s'):wpAny (model pw w) A t Q E s:=
 wpAny_mono (H α os s Q S k) (fun _ _ q=>q) fun _ _ x=>x.elim
theorem ExOk.run {E:Value→Shared→Prop}{t:Sem Flow}{fl:Fl} (H:ExOk w A B env f t ρ σ fl ρ' σ') (S:St w B env f α ρ σ os s){Q:Flow→Shared→Prop} (k:∀ α' x s',α <+: α'→St w B env f α' ρ' σ' os s'→FlRel α' fl x→Q x s'):wpAny (model pw w) A t Q E s:=
 wpAny_mono (H α os s Q S k) (fun _ _ q=>q) fun _ _ x=>x.elim
theorem ex_while {T:Rho→Sto→Bool→Sto→Prop}{Bd:Rho→Sto→Rho→Sto→Prop}{t:Expr}{b:List Stmt}{pos:Pos}{n:Nat}
  (hT:∀ (ρ:Rho) (σ σ':Sto) (c:Bool),T ρ σ c σ'→TsOk w A B env f (isTrue t env (eval t env)) ρ σ c σ')
  (hB:∀ (ρ:Rho) (σ:Sto) (ρ':Rho) (σ':Sto),Bd ρ σ ρ' σ'→ExOk w A B env f (PySem.execs b env) ρ σ .next ρ' σ')
  (h:Wh T Bd n ρ σ ρ' σ'):ExOk w A B env f (exec (.While t b [] pos) env) ρ σ .next ρ' σ':=by
 intro α os s Q S k
 refine wpAny_While (codeAny_whileLoop (I:=fun n s=>∃ α₁ ρ₁ σ₁,α <+: α₁∧St w B env f α₁ ρ₁ σ₁ os s∧Wh T Bd n ρ₁ σ₁ ρ' σ') ?_ n ⟨α,ρ,σ,pre_refl α,S,h⟩)
 rintro n s₁ ⟨α₁,ρ₁,σ₁,p1,S1,h1⟩
 cases h1 with
 | done e=>exact(hT _ _ _ _ e).run S1 fun α₂ s₂ p2 S2=>wpAny_execs_nil (k α₂ _ s₂ (p1.trans p2) S2 .next)
 | step e e2 r=>
  refine(hT _ _ _ _ e).run S1 fun α₂ s₂ p2 S2=>(hB _ _ _ _ e2).run S2 fun α₃ x s₃ p3 S3 r3=>?_
  cases r3
  exact⟨_,Nat.lt_succ_self _,α₃,_,_,(p1.trans p2).trans p3,S3,r⟩
end
end Mine
end
section
open PySem PySem.W PyProof.Rows PySem.Calls PySem.SeqAt
set_option maxRecDepth 100000
set_option linter.unusedVariables false
set_option autoImplicit false
namespace Mine
section
variable {w:World}{A:Around}{B B':Base}{env:Env}{f:Nat→Option Nat}{α α':List Addr}{ρ ρ' ρ₁ ρ₂:Rho}{σ σ' σ₁ σ₂ σ₃ σ₄:Sto}{os:OsState}{s:Shared}{I:Addr}
theorem St.weaken (S:St w B' env f α ρ σ os s) (h:Sub B B'):St w B env f α ρ σ os s:=⟨S.rel.weaken h,S.gens,S.os⟩
theorem St.mask (S:St w B env f α ρ σ os s):St w (Mine.mask s.heap α σ env.locals) env f α ρ σ os s:=⟨S.rel.mask,S.gens,S.os⟩
theorem St.sub (S:St w B env f α ρ σ os s):Sub B (Mine.mask s.heap α σ env.locals):=S.rel.base_mask
end
end Mine
end
section
open PySem PySem.W PyProof.Rows PySem.Calls PySem.SeqAt
set_option maxRecDepth 100000
set_option linter.unusedVariables false
set_option autoImplicit false
namespace Mine
structure Hide (B:Base) (L:Addr) (α:List Addr) (h:Heap) (I:Addr) (o:Obj):Prop where
 there:h.get? I=some o
 place:I∉α
 loc:I≠L
 base:B I=none
section
variable {w:World}{A:Around}{B B':Base}{env:Env}{f:Nat→Option Nat}{α α':List Addr}{ρ ρ' ρ₁ ρ₂:Rho}{σ σ' σ₁ σ₂ σ₃ σ₄:Sto}{os:OsState}{s:Shared}{I:Addr}{h h':Heap}{o:Obj}
theorem Hide.keep (H:Hide B env.locals α h I o) (R:Rel w (Mine.mask h α σ env.locals) env f α' ρ' σ' h'):Hide B env.locals α' h' I o:=by
 have hm:Mine.mask h α σ env.locals I=some o:=(mask_of (fun i e=>absurd (List.mem_of_getElem? e) H.place) H.loc).trans H.there
 refine⟨R.keep _ _ hm,fun hp=>?_,H.loc,H.base⟩
 obtain⟨i,hi,e⟩:=List.getElem_of_mem hp
 rcases R.offB i I (by rw [List.getElem?_eq_getElem hi,e])with q | ⟨_,j,k,q,_⟩
 ·rw [hm]at q;cases q
 ·exact H.place (List.mem_of_getElem? q)
theorem Hide.turn (H:Hide B env.locals α s.heap I o) (S:St w B env f α ρ σ os s) (hs:Heap.ExtBut I s.heap h'){t:Nat}:St w B env f α ρ σ os { s with heap:=h',toks:=t }:=
 ⟨S.rel.same fun b o' q e=>hs b o' (by
  rintro rfl
  rcases q with q | q | q
  ·rw [H.base]at q;cases q
  ·exact H.loc q
  ·exact H.place q) e,S.gens,S.os⟩
theorem Hide.put (H:Hide B env.locals α h I o){o':Obj} (e:h'.get? I=some o'):Hide B env.locals α h' I o':=⟨e,H.place,H.loc,H.base⟩
theorem Hide.new (S:St w B env f α ρ σ os s){o:Obj} (hf:o.isFreed=false):Hide B env.locals α (s.heap.push o) s.heap.objs.size o:=
 ⟨Heap.get?_push_size _ hf,fun hm=>Nat.lt_irrefl _ (S.rel.lt hm),Nat.ne_of_gt S.rel.ltL,base_size S.rel.keep⟩
noncomputable def IR (α:List Addr) (x:List AV) (v:Value) (h:Heap):Prop:=match x with
 | [a]=>VR α a v
 | [a,b]=>∃ T p q,v=.ref T∧h.IsTuple T #[p,q]∧VR α a p∧VR α b q
 | _=>False
structure Iter (w:World) (A:Around) (B:Base) (env:Env) (I:Addr) (t:Expr) (xs:List (List AV)) (again:Sto→Prop) (J:Nat→List Addr→Sto→Heap→Prop):Prop where
 step:∀ {f:Nat→Option Nat}{α:List Addr}{ρ:Rho}{σ:Sto}{os:OsState}{s:Shared}{i:Nat}{x:List AV}{Q:Value→Shared→Prop},St w B env f α ρ σ os s→J i α σ s.heap→xs[i]? = some x→
  (∀ v s',St w B env f α ρ σ os s'→J (i+1) α σ s'.heap→IR α x v s'.heap→Q v s')→
  wpAny (model pw w) A (pyNext (.ref I)) (fun r s₁=>∃ v,r=some v∧wpAny (model pw w) A (letOwnedTupleGo t (.ref I) v) (fun _ s₂=>Q v s₂) Ef s₁) Ef s
 done:∀ {f:Nat→Option Nat}{α:List Addr}{ρ:Rho}{σ:Sto}{os:OsState}{s:Shared}{i:Nat}{Q:Shared→Prop},St w B env f α ρ σ os s→J i α σ s.heap→xs[i]? = none→(∀ s',St w B env f α ρ σ os s'→Q s')→
  wpAny (model pw w) A (pyNext (.ref I)) (fun r s₁=>r=none∧Q s₁) Ef s
 keep:∀ {f:Nat→Option Nat}{α α':List Addr}{ρ':Rho}{σ σ':Sto}{h h':Heap}{i:Nat},J i α σ h→Rel w (Mine.mask h α σ env.locals) env f α' ρ' σ' h'→α <+: α'→again σ'→J i α' σ' h'
noncomputable def TiOk (w:World) (A:Around) (B:Base) (env:Env) (f:Nat→Option Nat) (t:Expr) (x:List AV) (ρ:Rho) (σ:Sto) (ρ':Rho) (σ':Sto):Prop:=
 ∀ (α:List Addr) (os:OsState) (s:Shared) (v:Value) (Q:Unit→Shared→Prop),St w B env f α ρ σ os s→IR α x v s.heap→
  (∀ α' s',α <+: α'→St w B env f α' ρ' σ' os s'→Q () s')→wpAny (model pw w) A (assign t env v) Q Ef s
theorem ti_one {t:Expr}{a:AV} (h:TgOk w A B env f t a ρ σ ρ' σ'):TiOk w A B env f t [a] ρ σ ρ' σ':=fun α os s v Q S r k=>h α os s v Q S r k
theorem ti_two {ts:List Expr}{x1:Nat}{pos:Pos}{a b:AV} (hh:A.handled=none) (hn:ts.all notStar=true) (hl:ts.length=2) (h:TgsOk w A B env f ts [a,b] ρ σ ρ' σ'):TiOk w A B env f (.Tuple ts x1 pos) [a,b] ρ σ ρ' σ':=by
 intro α os s v Q S r k
 refine xE34 r fun T p q q1_ hT ra rb=>?_
 subst q1_
 refine xE02 (assignEach_spec (env:=env) hn) fun q1 q2=>?_
 rw [arm_assign_Tuple]
 refine wpAny_bind (wpAny_standAt ?_)
 refine wpAny_unpack_tuple hh hT (by rw [q1,hl];rfl) q2 fun h' he=>?_
 exact h α os _ _ Q (S.ext he) (.cons ra (.cons rb .nil)) k
theorem TiOk.run {E:Value→Shared→Prop}{t:Expr}{x:List AV} (H:TiOk w A B env f t x ρ σ ρ' σ') (S:St w B env f α ρ σ os s){v:Value} (r:IR α x v s.heap){Q:Unit→Shared→Prop} (k:∀ α' s',α <+: α'→St w B env f α' ρ' σ' os s'→Q () s'):wpAny (model pw w) A (assign t env v) Q E s:=
 wpAny_mono (H α os s v Q S r k) (fun _ _ q=>q) fun _ _ x=>x.elim
inductive Turn (ti:List AV→Rho→Sto→Rho→Sto→Prop) (bd:Rho→Sto→Fl→Rho→Sto→Prop) (again:Sto→Prop) (x:List AV) (ρ:Rho) (σ:Sto) (N:Rho→Sto→Prop) (fl:Fl) (ρ':Rho) (σ':Sto):Prop
 | step {ρ₁ ρ₂:Rho}{σ₁ σ₂:Sto}{fl₁:Fl}:ti x ρ σ ρ₁ σ₁→bd ρ₁ σ₁ fl₁ ρ₂ σ₂→(fl₁=.next∨fl₁=.cont)→again σ₂→N ρ₂ σ₂→Turn ti bd again x ρ σ N fl ρ' σ'
 | brk {ρ₁:Rho}{σ₁:Sto}:ti x ρ σ ρ₁ σ₁→bd ρ₁ σ₁ .brk ρ' σ'→fl=.next→Turn ti bd again x ρ σ N fl ρ' σ'
 | ret {ρ₁:Rho}{σ₁:Sto}{v:AV}:ti x ρ σ ρ₁ σ₁→bd ρ₁ σ₁ (.ret v) ρ' σ'→fl=.ret v→Turn ti bd again x ρ σ N fl ρ' σ'
noncomputable def ForR (ti:List AV→Rho→Sto→Rho→Sto→Prop) (bd:Rho→Sto→Fl→Rho→Sto→Prop) (again:Sto→Prop) (fl:Fl) (ρ':Rho) (σ':Sto):List (List AV)→Rho→Sto→Prop
 | [],ρ,σ=>fl=.next∧ρ'=ρ∧σ'=σ
 | x :: r,ρ,σ=>Turn ti bd again x ρ σ (ForR ti bd again fl ρ' σ' r) fl ρ' σ'
structure ForI (w:World) (B:Base) (env:Env) (f:Nat→Option Nat) (os:OsState) (xs:List (List AV)) (J:Nat→List Addr→Sto→Heap→Prop) (N:List (List AV)→Rho→Sto→Prop) (α:List Addr) (n:Nat) (s:Shared):Prop where
 it:∃ i α₁ ρ₁ σ₁,n=xs.length - i∧i≤xs.length∧α <+: α₁∧St w B env f α₁ ρ₁ σ₁ os s∧J i α₁ σ₁ s.heap∧N (xs.drop i) ρ₁ σ₁
theorem drop_cons {β:Type}{xs:List β}{i:Nat}{x:β} (h:xs[i]? = some x):xs.drop i=x :: xs.drop (i+1):=by
 refine xE11 (List.getElem?_eq_some_iff.mp h) fun h1 h2=>?_
 rw [List.drop_eq_getElem_cons h1,h2]
theorem for_ok {ti:List AV→Rho→Sto→Rho→Sto→Prop}{bd:Rho→Sto→Fl→Rho→Sto→Prop}{t:Expr}{b:List Stmt}{again:Sto→Prop}{xs:List (List AV)}{J:Nat→List Addr→Sto→Heap→Prop}{fl:Fl}{R:Result→Shared→Prop}
  (Z:Iter w A B env I t xs again J) (G:Gd w B)
  (hT:∀ (B':Base) (ρ:Rho) (σ:Sto) (x:List AV) (ρ':Rho) (σ':Sto),Gd w B'→ti x ρ σ ρ' σ'→TiOk w A B' env f t x ρ σ ρ' σ')
  (hB:∀ (B':Base) (ρ:Rho) (σ:Sto) (fl:Fl) (ρ':Rho) (σ':Sto),Gd w B'→bd ρ σ fl ρ' σ'→ExOk w A B' env f (PySem.execs b env) ρ σ fl ρ' σ')
  (h:ForR ti bd (fun σ=>again σ) fl ρ' σ' xs ρ σ) (S:St w B env f α ρ σ os s) (j:J 0 α σ s.heap)
  (k:∀ α' x s',α <+: α'→St w B env f α' ρ' σ' os s'→FlRel α' fl x→R (.ok x) s'):codeAny (model pw w) A (.forLoop t (.ref I) b [] env) R s:=by
 refine codeAny_forLoop_any (I:=ForI w B env f os xs J (ForR ti bd (fun σ=>again σ) fl ρ' σ') α) (fun n s₁ H=>byG fun C kC=>?_) xs.length ⟨0,α,ρ,σ,rfl,Nat.zero_le _,pre_refl α,S,j,h⟩
 refine xE46 H.it fun i α₁ ρ₁ σ₁ hn hi p1 S1 j1 h1=>?_
 cases hx:xs[i]? with
 | none=>
  refine byG fun G4 k4=>?_
  rw [List.drop_eq_nil_of_le (List.getElem?_eq_none_iff.mp hx)]at h1
  refine xE03 h1 fun q1 q2 q3=>?_
  refine k4 ?_
  refine kC (wpAny_mono (Z.done (Q:=fun s₂=>St w B env f α₁ ρ₁ σ₁ os s₂) S1 j1 hx fun s' S'=>S') (fun r s₂ q=>?_) fun _ _ x=>x.elim)
  rw [q.1]
  exact wpAny_execs_nil (k α₁ _ s₂ p1 (q2 ▸ q3 ▸ q.2) (q1 ▸ .next))
 | some x=>
  rw [drop_cons hx]at h1
  have main:∀ {ρ₂ ρ₃:Rho}{σ₂ σ₃:Sto}{fl₂:Fl},ti x ρ₁ σ₁ ρ₂ σ₂→bd ρ₂ σ₂ fl₂ ρ₃ σ₃→(∀ α₃ x s₅,α <+: α₃→St w B env f α₃ ρ₃ σ₃ os s₅→(again σ₃→J (i+1) α₃ σ₃ s₅.heap)→FlRel α₃ fl₂ x→match x with
     | .next | .cont=>∃ m,m<n∧ForI w B env f os xs J (ForR ti bd (fun σ=>again σ) fl ρ' σ') α m s₅
     | .brk=>R (.ok .next) s₅
     | .ret v=>R (.ok (.ret v)) s₅)→C:=fun {ρ₂ ρ₃ σ₂ σ₃ fl₂} e1 e2 fin=>by
   refine kC (wpAny_mono (Z.step (Q:=fun v s₂=>St w B env f α₁ ρ₁ σ₁ os s₂∧J (i+1) α₁ σ₁ s₂.heap∧IR α₁ x v s₂.heap) S1 j1 hx fun v s' a b c=>⟨a,b,c⟩) (fun r s₂ q=>?_) fun _ _ x=>x.elim)
   refine xE12 q fun v hr hw=>?_
   rw [hr]
   refine wpAny_mono hw (fun _ s₃ q=>?_) fun _ _ x=>x.elim
   have S3:=q.1
   have G3:=G.mono S3.sub
   refine(hT _ _ _ _ _ _ G3 e1).run S3.mask q.2.2 fun α₂ s₄ p2 S4=>(hB _ _ _ _ _ _ G3 e2).run S4 fun α₃ x s₅ p3 S5 r5=>?_
   have:=fin α₃ x s₅ ((p1.trans p2).trans p3) (S5.weaken S3.sub) (fun ha=>Z.keep q.2.1 S5.rel (p2.trans p3) ha) r5
   cases x <;> exact this
  cases h1 with
  | step e1 e2 hf ha h2=>
   refine main e1 e2 fun α₃ y s₅ p S5 j5 r5=>?_
   have F:∃ m,m<n∧ForI w B env f os xs J (ForR ti bd (fun σ=>again σ) fl ρ' σ') α m s₅:=
    ⟨xs.length - (i+1),hn ▸ Nat.sub_succ_lt_self xs.length i (List.getElem?_eq_some_iff.mp hx).1,i+1,α₃,_,_,rfl,(List.getElem?_eq_some_iff.mp hx).1,p,S5,j5 ha,h2⟩
   rcases hf with rfl | rfl <;> cases r5 <;> exact F
  | brk e1 e2 hf=>exact main e1 e2 fun α₃ y s₅ p S5 j5 r5=>by cases r5;exact k α₃ _ s₅ p S5 (hf ▸ .next)
  | ret e1 e2 hf=>exact main e1 e2 fun α₃ y s₅ p S5 j5 r5=>by cases r5 with | ret r=>exact k α₃ _ s₅ p S5 (hf ▸ .ret r)
end
end Mine
end
section
open PySem PySem.W PyProof.Rows PySem.Calls PySem.SeqAt
set_option maxRecDepth 100000
set_option linter.unusedVariables false
set_option autoImplicit false
namespace Mine
noncomputable def goNames:List String:=["enumerate","zip","dict_itemiterator","dict_reverseitemiterator","odict_iterator","itertools.zip_longest","itertools.pairwise"]
section
variable {w:World}{A:Around}{B B':Base}{env:Env}{f:Nat→Option Nat}{α α':List Addr}{ρ ρ' ρ₁ ρ₂:Rho}{σ σ' σ₁ σ₂ σ₃ σ₄:Sto}{os:OsState}{s:Shared}{I:Addr}{h h':Heap}{o:Obj}
theorem go_plain {t:Expr}{v:Value}{n:String}{Q:Unit→Shared→Prop} (ho:s.heap.get? I=some o) (hc:o.cls=.type n) (hn:goNames.contains n=false) (hQ:Q () s):wpAny (model pw w) A (letOwnedTupleGo t (.ref I) v) Q Ef s:=by
 have main:wpAny (model pw w) A (letOwnedTupleGo (.List [] ⟨0,0,0,0⟩) (.ref I) v) Q Ef s:=by
  cases v with
  | ref a=>
   refine wpAny_bind (wpAny_load ho ?_)
   obtain⟨c,dd,dt,sl⟩:=o
   cases show c=.type n from hc
   cases dt with
   | fields vs=>exact wpAny_of_eq (a:=()) (if_neg fun h=>nomatch hn.symm.trans (and1 h)) hQ
   | _=>exact wpAny_pure hQ
  | _=>exact wpAny_pure hQ
 cases t with
 | Tuple=>exact main
 | List=>exact main
 | _=>exact wpAny_pure hQ
theorem iter_list (hh:A.handled=none){l:Nat}{t:Expr}{ys:List AV}{again:Sto→Prop} (hag:∀ σ',again σ'→σ'[l]? = some (.list ys)):Iter w A B env I t (ys.map fun x=>[x]) again
  (fun i α σ h=>∃ o a,Hide B env.locals α h I o∧o.cls=.type "list_iterator"∧o.data=.fields #[.ref a,.int i 0]∧α[l]? = some a∧σ[l]? = some (.list ys)):=by
 refine⟨?_,?_,?_⟩
 ·rintro f α ρ σ os s i x Q S ⟨o,a,H,hc,hd,ha,hl⟩ hx k
  refine byG fun G2 k2=>?_
  refine listAt (S.at (.loc ha) hl) fun it n g2 r _ _=>?_
  have hL:s.heap.IsList a it:=⟨_,g2,rfl,n,rfl⟩
  rw [List.getElem?_map]at hx
  refine k2 ?_
  cases hy:ys[i]? with
  | none=>rw [hy]at hx;cases hx
  | some y=>
   refine byG fun G5 k5=>?_
   rw [hy]at hx;cases hx
   refine xE12 (r.get hy) fun v hv rv=>?_
   refine k5 ?_
   refine wpAny_pyNext_list_item (x:=v) ⟨o,H.there,hc,hd⟩ hL (by simpa using hv) fun h' hit hs=>⟨v,rfl,?_⟩
   refine xE13 hit fun o' g' c' d'=>?_
   refine go_plain (n:="list_iterator") g' c' (by decide) (k v _ (H.turn S hs.extBut) ⟨o',a,H.put g',c',d',ha,hl⟩ rv)
 ·rintro f α ρ σ os s i Q S ⟨o,a,H,hc,hd,ha,hl⟩ hx k
  refine byG fun G8 k8=>?_
  refine listAt (S.at (.loc ha) hl) fun it n g2 r _ _=>?_
  refine k8 ?_
  have hL:s.heap.IsList a it:=⟨_,g2,rfl,n,rfl⟩
  refine wpAny_pyNext_list_end hh ⟨o,H.there,hc,hd⟩ hL ?_ fun h' hs=>⟨rfl,k _ (H.turn S hs)⟩
  have z:=r.length
  simp only [Array.length_toList]at z
  rw [List.getElem?_map]at hx
  simp only [Option.map_eq_none_iff,List.getElem?_eq_none_iff]at hx
  rw [Array.getElem?_eq_none_iff];lia
 ·rintro f α α' ρ' σ σ' h h' i ⟨o,a,H,hc,hd,ha,hl⟩ R p hg
  exact⟨o,a,H.keep R,hc,hd,getElem?_pre p ha,hag _ hg⟩
theorem same_list {l:Nat}{ys:List AV} (e:σ[l]? = some (.list ys)):∀ σ',Same σ (.loc l) σ'→σ'[l]? = some (.list ys):=fun _ h=>h l ys rfl e
theorem iter_range (hh:A.handled=none){t:Expr}{a b:Int}{again:Sto→Prop}:Iter w A B env I t ((List.range (b - a).toNat).map fun(i:Nat)=>[.int (a+(i:Int))]) again
  (fun i α σ h=>∃ o,Hide B env.locals α h I o∧o={ cls:=.type "range_iterator",dict:=none,data:=.fields #[rawInt (a+(i:Int)),rawInt (((b - a).toNat:Int) - i),rawInt 1],slots:=#[] }):=by
 refine⟨?_,?_,?_⟩
 ·rintro f α ρ σ os s i x Q S ⟨o,H,rfl⟩ hx k
  refine byG fun G4 k4=>?_
  rw [List.getElem?_map]at hx
  have hi:i<(b - a).toNat:=by
   rcases Nat.lt_or_ge i (b - a).toNat with q | q
   ·exact q
   ·rw [List.getElem?_eq_none (by simpa using q)]at hx;cases hx
  rw [List.getElem?_range hi]at hx
  cases hx
  refine k4 ?_
  refine wpAny_pyNext_range_item (x:=a+(i:Int)) (left:=((b - a).toNat:Int) - i) (step:=1) H.there (by lia) fun h' hit hs=>⟨_,rfl,?_⟩
  refine go_plain (n:="range_iterator") hit rfl (by decide) (k _ _ (H.turn S hs.extBut) ⟨_,H.put hit,?_⟩ (.int _ _))
  have e1:a+(i:Int)+1=a+((i+1:Nat):Int):=by push_cast;lia
  have e2:((b - a).toNat:Int) - i - 1=((b - a).toNat:Int) - ((i+1:Nat):Int):=by push_cast;lia
  rw [e1,e2]
 ·rintro f α ρ σ os s i Q S ⟨o,H,rfl⟩ hx k
  simp only [List.getElem?_map,Option.map_eq_none_iff,List.getElem?_eq_none_iff,List.length_range]at hx
  exact wpAny_pyNext_range_end hh H.there (by lia) fun h' hs=>⟨rfl,k _ (H.turn S hs)⟩
 ·rintro f α α' ρ' σ σ' h h' i ⟨o,H,e⟩ R p hg
  exact⟨o,H.keep R,e⟩
end
end Mine
end
section
open PySem PySem.W PyProof.Rows PySem.Calls PySem.SeqAt
set_option maxRecDepth 100000
set_option linter.unusedVariables false
set_option autoImplicit false
namespace Mine
section
variable {w:World}{A:Around}{B B':Base}{env:Env}{f:Nat→Option Nat}{α α':List Addr}{ρ ρ' ρ₁ ρ₂:Rho}{σ σ' σ₁ σ₂ σ₃ σ₄:Sto}{os:OsState}{s:Shared}{I:Addr}{h h':Heap}{o:Obj}
theorem iter_keys (hh:A.handled=none){d:Nat}{t:Expr}{ks:List (Str×AV)}{kvs:List (Str×Value)}{ep:Nat}{da:Addr}{od:Obj} (hk:kvs.map (·.1)=ks.map (·.1))
  (hD:∀ h:Heap,h.get? da=some od→h.DictAt (strKind pw w) da kvs ep):Iter w A B env I t (ks.map fun p=>[.str p.1]) (fun σ=>Locked σ d)
  (fun i α σ h=>∃ o,Hide B env.locals α h I o∧o.cls=.type "dict_keyiterator"∧o.data=.fields #[.ref da,.int i 0,.int kvs.length 0,.int ep 0]∧α[d]? = some da∧h.get? da=some od∧Locked σ d∧da≠env.locals∧(da∈α→∀ j:Nat,α[j]? = some da→Locked σ j)):=by
 refine⟨?_,?_,?_⟩
 ·rintro f α ρ σ os s i x Q S ⟨o,H,hc,hd,ha,g,hl,hL,hj⟩ hx k
  have hx':(ks.map (·.1))[i]?.map (fun k=>[AV.str k])=some x:=by rw [←hx];simp only [List.getElem?_map,Option.map_map];rfl
  rw [←hk,List.getElem?_map]at hx'
  cases hy:kvs[i]? with
  | none=>rw [hy]at hx';cases hx'
  | some p=>
   rw [hy]at hx'
   simp only [Option.map_some,Option.some.injEq]at hx'
   subst hx'
   obtain⟨k1,v1⟩:=p
   refine wpAny_pyNext_dict_item (k:=k1) (v:=v1) ⟨o,H.there,hc,hd⟩ (hD _ g) hy fun key h' hkey hit hs=>⟨key,rfl,?_⟩
   refine xE13 hit fun o' g' c' d'=>?_
   have hne:da≠I:=by
    rintro rfl
    exact H.place (List.mem_of_getElem? ha)
   refine go_plain (n:="dict_keyiterator") g' c' (by decide) (k key _ (H.turn S hs.extBut) ⟨o',H.put g',c',d',ha,hs.extBut _ _ hne g,hl,hL,hj⟩ ?_)
   obtain⟨t',rfl⟩:∃ t',key=.str k1 t':=by
    have:Value.isStrOf k1 key=true:=hkey
    cases key <;> simp [Value.isStrOf]at this
    subst this;exact⟨_,rfl⟩
   exact .str _ _
 ·rintro f α ρ σ os s i Q S ⟨o,H,hc,hd,ha,g,hl,hL,hj⟩ hx k
  refine wpAny_pyNext_dict_end hh ⟨o,H.there,hc,hd⟩ (hD _ g) ?_ fun h' hs=>⟨rfl,k _ (H.turn S hs)⟩
  have z:=congrArg List.length hk
  simp only [List.length_map]at z
  simp only [List.getElem?_map,Option.map_eq_none_iff,List.getElem?_eq_none_iff]at hx
  rw [List.getElem?_eq_none_iff];lia
 ·rintro f α α' ρ' σ σ' h h' i ⟨o,H,hc,hd,ha,g,hl,hL,hj⟩ R p hg
  have hm:Mine.mask h α σ env.locals da=some od:=(mask_of (fun j e=>hj (List.mem_of_getElem? e) j e) hL).trans g
  refine⟨o,H.keep R,hc,hd,getElem?_pre p ha,R.keep _ _ hm,hg,hL,fun _ j e=>?_⟩
  have:j=d:=nodup_inj R.nd e (getElem?_pre p ha)
  subst this;exact hg
theorem iter_enum (hh:A.handled=none){l x1:Nat}{ts:List Expr}{pos:Pos}{ys:List AV}{again:Sto→Prop} (hag:∀ σ',again σ'→σ'[l]? = some (.list ys)):Iter w A B env I (.Tuple ts x1 pos) (ys.zipIdx.map fun(x,i)=>[.int (i:Int),x]) again
  (fun i α σ h=>∃ o oi it a old,Hide B env.locals α h I o∧Hide B env.locals α h it oi∧I≠it∧o={ cls:=.type "enumerate",dict:=none,data:=.fields #[.none,.bool false,.ref it,rawInt (i:Int),.none,old],slots:=#[] }∧
   oi.cls=.type "list_iterator"∧oi.data=.fields #[.ref a,.int i 0]∧α[l]? = some a∧σ[l]? = some (.list ys)):=by
 refine⟨?_,?_,?_⟩
 ·rintro f α ρ σ os s i x Q S ⟨o,oi,it,a,old,H,Hi,hne,rfl,hc,hd,ha,hl⟩ hx k
  refine listAt (S.at (.loc ha) hl) fun its n g2 r _ _=>?_
  have hL:s.heap.IsList a its:=⟨_,g2,rfl,n,rfl⟩
  rw [List.getElem?_map,List.getElem?_zipIdx]at hx
  cases hy:ys[i]? with
  | none=>rw [hy]at hx;cases hx
  | some y=>
   rw [hy]at hx
   simp only [Option.map_some,Option.some.injEq,Nat.zero_add]at hx
   subst hx
   refine xE12 (r.get hy) fun v hv rv=>?_
   refine wpAny_pyNext_enum_item (x:=v) H.there ⟨oi,Hi.there,hc,hd⟩ hL (by simpa using hv) hne fun h₁ heo hit ht hz hk=>⟨_,rfl,?_⟩
   refine wpAny_letOwnedTupleGo_enum heo fun h₂ he₂ hs₂=>?_
   have hk2:∀ b o,b≠I→b≠it→s.heap.get? b=some o→h₂.get? b=some o:=fun b o h1 h2 e=>hs₂.extBut b o h1 (hk b o h1 h2 e)
   have hlt:I<s.heap.objs.size:=Heap.lt_size H.there
   refine xE13 hit fun oi' gi' ci' di'=>?_
   refine k _ _ ⟨S.rel.same fun b o' q e=>hk2 b o' (by
    rintro rfl
    rcases q with q | q | q
    ·rw [H.base]at q;cases q
    ·exact H.loc q
    ·exact H.place q) (by
    rintro rfl
    rcases q with q | q | q
    ·rw [Hi.base]at q;cases q
    ·exact Hi.loc q
    ·exact Hi.place q) e,S.gens,S.os⟩ ⟨_,oi',it,a,v,H.put he₂,Hi.put (hs₂.extBut _ _ (Ne.symm hne) gi'),hne,?_,ci',di',ha,hl⟩ ⟨_,_,_,rfl,⟨_,hs₂.extBut _ _ (Nat.ne_of_gt hlt) ht,rfl,_,rfl⟩,.int _ _,rv⟩
   have:((i+1:Nat):Int)=(i:Int)+1:=by push_cast;rfl
   rw [this]
 ·rintro f α ρ σ os s i Q S ⟨o,oi,it,a,old,H,Hi,hne,rfl,hc,hd,ha,hl⟩ hx k
  refine byG fun G8 k8=>?_
  refine listAt (S.at (.loc ha) hl) fun its n g2 r _ _=>?_
  have hL:s.heap.IsList a its:=⟨_,g2,rfl,n,rfl⟩
  have z:=r.length
  simp only [Array.length_toList]at z
  simp only [List.getElem?_map,List.getElem?_zipIdx,Option.map_eq_none_iff,List.getElem?_eq_none_iff]at hx
  refine k8 ?_
  exact wpAny_pyNext_enum_end hh H.there ⟨oi,Hi.there,hc,hd⟩ hL (by rw [Array.getElem?_eq_none_iff];lia) fun h' hs=>⟨rfl,k _ (Hi.turn S hs)⟩
 ·rintro f α α' ρ' σ σ' h h' i ⟨o,oi,it,a,old,H,Hi,hne,he,hc,hd,ha,hl⟩ R p hg
  exact⟨o,oi,it,a,old,H.keep R,Hi.keep R,hne,he,hc,hd,getElem?_pre p ha,hag _ hg⟩
theorem iter_enum_nil (hh:A.handled=none){t:Expr}{x:Str}{tk:Tok} (hx:x.cps.size=0){again:Sto→Prop}:Iter w A B env I t [] again
  (fun i α σ h=>i=0∧∃ o oi it old,Hide B env.locals α h I o∧Hide B env.locals α h it oi∧o={ cls:=.type "enumerate",dict:=none,data:=.fields #[.none,.bool false,.ref it,rawInt 0,.none,old],slots:=#[] }∧
   oi.cls=.type "str_ascii_iterator"∧oi.data=.fields #[.str x tk,.int 0 0]):=by
 refine⟨?_,?_,?_⟩
 ·rintro f α ρ σ os s i x Q S _ hx;simp at hx
 ·rintro f α ρ σ os s i Q S ⟨rfl,o,oi,it,old,H,Hi,rfl,hc,hd⟩ _ k
  refine wpAny_pyNext_enum_endD (Draws.strAscii (A:=A.in1) hh it x tk) H.there (by rw [hx];exact⟨oi,Hi.there,hc,hd⟩) fun h' hs=>⟨rfl,k _ (Hi.turn S hs)⟩
 ·rintro f α α' ρ' σ σ' h h' i ⟨e,o,oi,it,old,H,Hi,he,hc,hd⟩ R p hg
  exact⟨e,o,oi,it,old,H.keep R,Hi.keep R,he,hc,hd⟩
end
end Mine
end
section
open PySem PySem.W PyProof.Rows PySem.Calls PySem.SeqAt
set_option maxRecDepth 100000
set_option linter.unusedVariables false
set_option autoImplicit false
namespace Mine
structure RelS (w:World) (B:Base) (α:List Addr) (σ:Sto) (h:Heap):Prop where
 len:α.length=σ.length
 keep:∀ b o,B b=some o→h.get? b=some o
 obj:∀ (i:Nat) (ao:AO),σ[i]? = some ao→∃ a o,α[i]? = some a∧h.get? a=some o∧CR w α ao o
 offB:∀ (i:Nat) (a:Addr),α[i]? = some a→B a=none∨(∃ es,σ[i]? = some (.locked es))∧B.lk a
 nd:α.Nodup
 big:∀ a∈α,100<a
 top:300<h.objs.size
structure StS (w:World) (B:Base) (α:List Addr) (σ:Sto) (os:OsState) (s:Shared):Prop where
 rel:RelS w B α σ s.heap
 gens:s.gens=#[]
 os:s.os=os
open Classical in
noncomputable def maskS (h:Heap) (α:List Addr) (σ:Sto):Base where
 obj b:=if ∃ i:Nat,α[i]? = some b∧∀ es,σ[i]?≠some (AO.locked es)then none else h.get? b
 lk a:=∃ (i:Nat) (k:LK),α[i]? = some a∧σ[i]? = some (.locked k)
open Classical in
theorem maskS_of {h:Heap}{α:List Addr}{σ:Sto}{b:Addr} (h1:∀ i:Nat,α[i]? = some b→∃ k,σ[i]? = some (.locked k)):maskS h α σ b=h.get? b:=by
 show(if ∃ i:Nat,α[i]? = some b∧∀ es,σ[i]?≠some (AO.locked es)then none else h.get? b)=_
 rw [if_neg]
 rintro⟨i,e,hn⟩
 obtain⟨k,q⟩:=h1 i e
 exact hn k q
section
variable {w:World}{A:Around}{B B':Base}{env:Env}{f:Nat→Option Nat}{α α':List Addr}{ρ ρ' ρ₁ ρ₂:Rho}{σ σ' σ₁ σ₂ σ₃ σ₄:Sto}{os:OsState}{s s':Shared}{I:Addr}{h h':Heap}{o:Obj}
theorem Rel.toS (R:Rel w B env f α ρ σ h):RelS w B α σ h:=⟨R.len,R.keep,R.obj,R.offB,R.nd,R.big.2,Nat.lt_trans R.big.1 R.ltL⟩
theorem St.toS (S:St w B env f α ρ σ os s):StS w B α σ os s:=⟨S.rel.toS,S.gens,S.os⟩
theorem RelS.lt (R:RelS w B α σ h){a:Addr} (ha:a∈α):a<h.objs.size:=by
 obtain⟨i,hi,rfl⟩:=List.getElem_of_mem ha
 have hs:i<σ.length:=R.len ▸ hi
 refine xE23 (R.obj i σ[i] (by simp [hs])) fun a o e1 e2 _=>?_
 have:α[i]=a:=by simpa [hi] using e1
 rw [this];exact Heap.lt_size e2
open Classical in
theorem RelS.mask (R:RelS w B α σ h):RelS w (maskS h α σ) α σ h:=by
 refine⟨R.len,fun b o e=>?_,R.obj,fun i a e=>?_,R.nd,R.big,R.top⟩
 ·have e:(if ∃ i:Nat,α[i]? = some b∧∀ es,σ[i]?≠some (AO.locked es)then none else h.get? b)=some o:=e
  split at e
  ·exact nn e
  ·exact e
 ·by_cases q:∃ es,σ[i]? = some (.locked es)
  ·exact .inr ⟨q,i,q.choose,e,q.choose_spec⟩
  ·left
   show(if ∃ i:Nat,α[i]? = some a∧∀ es,σ[i]?≠some (AO.locked es)then none else h.get? a)=none
   rw [if_pos ⟨i,e,fun es h=>q ⟨es,h⟩⟩]
theorem RelS.sub (R:RelS w B α σ h):Sub B (maskS h α σ):=by
 refine⟨fun b o e=>?_,fun a ⟨i,k,hi,hk⟩=>(R.offB i a hi).imp id fun q=>q.2⟩
 rw [maskS_of]
 ·exact R.keep b o e
 ·intro i hi
  rcases R.offB i b hi with q | ⟨q,_⟩
  ·rw [q]at e;cases e
  ·exact q
theorem RelS.weaken (R:RelS w B' α σ h) (hb:Sub B B'):RelS w B α σ h:=by
 refine⟨R.len,fun b o e=>R.keep b o (hb.keep b o e),R.obj,fun i a e=>?_,R.nd,R.big,R.top⟩
 rcases R.offB i a e with q | ⟨q,r⟩
 ·exact .inl (hb.none q)
 ·exact(hb.lk a r).imp id fun r=>⟨q,r⟩
theorem StS.mask (S:StS w B α σ os s):StS w (maskS s.heap α σ) α σ os s:=⟨S.rel.mask,S.gens,S.os⟩
theorem StS.weaken (S:StS w B' α σ os s) (hb:Sub B B'):StS w B α σ os s:=⟨S.rel.weaken hb,S.gens,S.os⟩
theorem RelS.kept (R':RelS w (maskS h α σ) α' σ' h'){a:Addr}{o:Obj} (ha:a∉α) (e:h.get? a=some o):h'.get? a=some o∧a∉α':=by
 have hm:maskS h α σ a=some o:=(maskS_of fun i e=>absurd (List.mem_of_getElem? e) ha).trans e
 refine⟨R'.keep _ _ hm,fun hp=>?_⟩
 obtain⟨i,hi,e⟩:=List.getElem_of_mem hp
 rcases R'.offB i a (by rw [List.getElem?_eq_getElem hi,e])with q | ⟨_,j,k,q,_⟩
 ·rw [hm]at q;cases q
 ·exact ha (List.mem_of_getElem? q)
theorem Rel.back (R:Rel w B env f α ρ σ h) (R':RelS w (maskS h α σ) α' σ' h') (p:α <+: α'):Rel w B env f α' ρ σ' h':=by
 have R2:=R'.weaken R.toS.sub
 have hL:env.locals∉α:=fun hm=>R.off _ hm rfl
 refine byG fun GG4 kk4=>?_
 refine xE12 R.loc fun m F q=>?_
 refine xE32 (id F) fun o es ep ho r=>?_
 refine xE02 (R'.kept hL ho) fun k1 k2=>?_
 refine kk4 ?_
 refine⟨R2.len,R2.keep,⟨m,F.at' fun o' e=>?_,fun i x v e1 e2=>let ⟨y,p1,p2⟩:=q i x v e1 e2;⟨y,p1,p2.mono p⟩⟩,fun i x k e1 e2 l e3=>let ⟨a,p1,p2⟩:=R.cel i x k e1 e2 l e3;⟨a,p1,getElem?_pre p p2⟩,R2.obj,fun a ha e=>k2 (e ▸ ha),R2.offB,R.offL,R2.nd,R.big.1,R2.big⟩
 exact(R'.kept hL e).1
theorem St.back (S:St w B env f α ρ σ os s) (S':StS w (maskS s.heap α σ) α' σ' os s') (p:α <+: α'):St w B env f α' ρ σ' os s':=⟨S.rel.back S'.rel p,S'.gens,S'.os⟩
theorem StS.back (S:StS w B α σ os s) (S':StS w (maskS s.heap α σ) α' σ' os s'):StS w B α' σ' os s':=S'.weaken S.rel.sub
noncomputable def CallOk (w:World) (A:Around) (g:AV) (vs:List AV) (σ:Sto) (v:AV) (σ':Sto):Prop:=
 ∀ (B:Base) (α:List Addr) (os:OsState) (s:Shared) (gv:Value) (xs:List Value) (Q:Value→Shared→Prop),Gd w B→StS w B α σ os s→VR α g gv→VRs α vs xs→
  (∀ α' x s',α <+: α'→StS w B α' σ' os s'→VR α' v x→Q x s')→wpAny (model pw w) A (call gv xs) Q Ef s
noncomputable def CodeOk (w:World) (A:Around) (g:AV) (vs:List AV) (σ:Sto) (v:AV) (σ':Sto):Prop:=
 ∀ (B:Base) (α:List Addr) (os:OsState) (s:Shared) (gv:Value) (xs:List Value) (R:Result→Shared→Prop),Gd w B→StS w B α σ os s→VR α g gv→VRs α vs xs→
  (∀ α' x s',α <+: α'→StS w B α' σ' os s'→VR α' v x→R (.ok (.ret x)) s')→codeAny (model pw w) A (.call gv ⟨xs,[]⟩) R s
theorem CodeOk.call {g v:AV}{vs:List AV} (C:CodeOk w A g vs σ v σ'):CallOk w A g vs σ v σ':=fun B α os s gv xs Q G S rg rs k=>
 wpAny_call (C B α os s gv xs _ G S rg rs fun α' x s' p S' r=>k α' x s' p S' r)
theorem RelS.alloc (R:RelS w B α σ h){o:Obj}{ao:AO} (hf:o.isFreed=false) (hc:CR w (α++[h.objs.size]) ao o):RelS w B (α++[h.objs.size]) (σ++[ao]) (h.push o):=by
 have hp:α <+: α++[h.objs.size]:=⟨_,rfl⟩
 have hB:B h.objs.size=none:=base_size R.keep
 refine⟨by simp [R.len],fun b o' e=>Heap.get?_push_of_some _ (R.keep b o' e),?_,?_,?_,?_,by rw [Heap.size_push];exact Nat.lt_succ_of_lt R.top⟩
 ·intro i ao' e
  rcases Nat.lt_trichotomy i σ.length with q | q | q
  ·rw [List.getElem?_append_left q]at e
   refine xE23 (R.obj i ao' e) fun a o' e1 e2 e3=>?_
   exact⟨a,o',getElem?_pre hp e1,Heap.get?_push_of_some _ e2,e3.mono hp⟩
  ·subst q
   simp only [List.getElem?_concat_length,Option.some.injEq]at e
   subst e
   refine⟨h.objs.size,o,?_,Heap.get?_push_size _ hf,hc⟩
   rw [←R.len];simp
  ·rw [List.getElem?_eq_none (by simp;lia)]at e;cases e
 ·intro i b e
  rcases Nat.lt_trichotomy i α.length with q | q | q
  ·rw [List.getElem?_append_left q]at e
   rw [List.getElem?_append_left (R.len ▸ q)]
   exact R.offB i b e
  ·subst q
   simp only [List.getElem?_concat_length,Option.some.injEq]at e
   subst e
   exact .inl hB
  ·rw [List.getElem?_eq_none (by simp;lia)]at e;cases e
 ·rw [List.nodup_append]
  exact⟨R.nd,by simp,fun b hb c hc e=>by
   rw [List.mem_singleton]at hc
   subst hc;subst e;exact Nat.lt_irrefl _ (R.lt hb)⟩
 ·intro b hb
  rcases List.mem_append.mp hb with hb | hb
  ·exact R.big b hb
  ·rw [List.mem_singleton]at hb;subst hb;exact Nat.lt_trans (by decide) R.top
theorem StS.alloc (S:StS w B α σ os s){o:Obj}{ao:AO} (hf:o.isFreed=false) (hc:CR w (α++[s.heap.objs.size]) ao o){t:Nat} :
  StS w B (α++[s.heap.objs.size]) (σ++[ao]) os { s with heap:=s.heap.push o,toks:=t }∧VR (α++[s.heap.objs.size]) (.loc σ.length) (.ref s.heap.objs.size):=
 ⟨⟨S.rel.alloc hf hc,S.gens,S.os⟩,.loc (by rw [←S.rel.len];simp)⟩
theorem StS.at (S:StS w B α σ os s){l:Nat}{a:Addr}{ao:AO} (h:VR α (.loc l) (.ref a)) (e:σ[l]? = some ao):∃ o,s.heap.get? a=some o∧CR w α ao o∧α[l]? = some a:=by
 cases h with
 | loc h=>
  refine byG fun G5 k5=>?_
  refine xE23 (S.rel.obj l ao e) fun a' o e1 e2 e3=>?_
  rw [h]at e1
  cases e1
  refine k5 ?_
  exact⟨o,e2,e3,h⟩
theorem StS.toks (S:StS w B α σ os s) (t:Nat):StS w B α σ os { s with toks:=t }:=⟨S.rel,S.gens,S.os⟩
theorem StS.hid (S:StS w B α σ os s){h':Heap} (hk:∀ b o,s.heap.get? b=some o→h'.get? b=some o) (hs:s.heap.objs.size≤h'.objs.size){t:Nat}:StS w B α σ os { s with heap:=h',toks:=t }:=
 ⟨⟨S.rel.len,fun b o e=>hk b o (S.rel.keep b o e),fun i ao e=>let ⟨a,o,e1,e2,e3⟩:=S.rel.obj i ao e;⟨a,o,e1,hk a o e2,e3⟩,S.rel.offB,S.rel.nd,S.rel.big,Nat.lt_of_lt_of_le S.rel.top hs⟩,S.gens,S.os⟩
theorem RelS.set (R:RelS w B α σ h){i:Nat}{a:Addr}{o:Obj}{ao:AO} (hi:α[i]? = some a) (hnl:∀ es,σ[i]?≠some (.locked es)) (hs:Heap.ExtBut a h h') (hz:300<h'.objs.size) (ho:h'.get? a=some o) (hc:CR w α ao o) :
  RelS w B α (σ.set i ao) h':=by
 have hB:B a=none:=(R.offB i a hi).elim id fun⟨⟨es,q⟩,_⟩=>absurd q (hnl es)
 refine⟨by simp [R.len],fun b o e=>hs b o (fun q=>?_) (R.keep b o e),?_,fun j b e=>?_,R.nd,R.big,hz⟩
 ·subst q;rw [hB]at e;cases e
 rotate_left
 ·by_cases q:i=j
  ·subst q;rw [hi]at e;cases e;exact .inl hB
  ·rw [List.getElem?_set_ne q];exact R.offB j b e
 ·intro j ao' e
  by_cases q:i=j
  ·subst q
   have hl:i<σ.length:=by rw [←R.len];exact(List.getElem?_eq_some_iff.mp hi).1
   rw [List.getElem?_set_self hl]at e
   cases e
   exact⟨a,o,hi,ho,hc⟩
  ·rw [List.getElem?_set_ne q]at e
   refine xE23 (R.obj j ao' e) fun b o' e1 e2 e3=>?_
   refine⟨b,o',e1,hs b o' ?_ e2,e3⟩
   rintro rfl
   exact q (nodup_inj R.nd hi e1)
theorem StS.set (S:StS w B α σ os s){i:Nat}{a:Addr}{o:Obj}{ao:AO} (hi:α[i]? = some a) (hnl:∀ es,σ[i]?≠some (.locked es)) (hs:Heap.SameBut a s.heap h') (ho:h'.get? a=some o) (hc:CR w α ao o){t:Nat} :
  StS w B α (σ.set i ao) os { s with heap:=h',toks:=t }:=⟨S.rel.set hi hnl hs.extBut (by rw [hs.1];exact S.rel.top) ho hc,S.gens,S.os⟩
theorem Gd.ks (G:Gd w B) (S:StS w B α σ os s):(KK w.params).In s.heap:=G.K _ S.rel.keep
theorem kk_358 (P:Params):(KK P).lookup 358=some (o358 P):=by kernel_rfl
theorem StS.over (G:Gd w B) (S:StS w B α σ os s){h':Heap} (hk:∀ b o,s.heap.get? b=some o→h'.get? b=some o){t:Nat}:StS w B α σ os { s with heap:=h',toks:=t }:=
 ⟨⟨S.rel.len,fun b o e=>hk b o (S.rel.keep b o e),fun i ao e=>let ⟨a,o,e1,e2,e3⟩:=S.rel.obj i ao e;⟨a,o,e1,hk a o e2,e3⟩,S.rel.offB,S.rel.nd,S.rel.big,
  Nat.lt_trans (by decide:300<358) (Heap.lt_size (hk _ _ ((G.ks S) _ _ (kk_358 _))))⟩,S.gens,S.os⟩
theorem call_in {g v:AV}{vs:List AV}{gv:Value}{xs:List Value}{Q:Value→Shared→Prop} (C:CallOk w A g vs σ v σ') (G:Gd w B) (S:St w B env f α ρ σ os s) (rg:VR α g gv) (rs:VRs α vs xs)
  (k:∀ α' x s',α <+: α'→St w B env f α' ρ σ' os s'→VR α' v x→Q x s'):wpAny (model pw w) A (call gv xs) Q Ef s:=
 C _ α os s gv xs Q (G.mono S.rel.toS.sub) S.toS.mask rg rs fun α' x s' p S' r=>k α' x s' p (S.back S' p) r
theorem evalArgs_star {fv:Value}{es:List Expr}{pos:Pos}{Q:Args→Shared→Prop} (hn:es.all notStar=true) (h0:es=[]→Q ⟨[],[]⟩ s) (h:wpAny (model pw w) A (spliced (backTo pos (starEach es env))) (fun vs s'=>Q ⟨vs,[]⟩ s') Ef s) :
  wpAny (model pw w) A (evalArgs fv true (backTo pos (starEach es env)) []) Q Ef s:=by
 cases es with
 | nil=>exact evalArgs_nil3 (h0 rfl)
 | cons e es=>
  rw [List.all_cons,Bool.and_eq_true]at hn
  rw [starEach_cons hn.1]at h ⊢
  exact evalArgs_plain h
theorem plain_star {es:List Expr}{pos:Pos} (hn:es.all notStar=true):(backTo pos (starEach es env)).any (·.1)=false:=by
 induction es with
 | nil=>rfl
 | cons e es ih=>
  rw [List.all_cons,Bool.and_eq_true]at hn
  rw [starEach_cons hn.1]
  exact ih hn.2
noncomputable def Keeps (M:Model) (fv:Value) (h:Heap):Prop:=∃ k,(k=Keeper.frame∨k=Keeper.machine∨k=Keeper.boundFrame)∧Looks M h (keeperOf fv) k
theorem with_ok {fv:Value}{first:List Value}{es:List Expr}{pos:Pos}{vs:List AV}{Q:Value→Shared→Prop} (hn:es.all notStar=true) (S:St w B env f α ρ σ os s) (h:EvsOk w A B env f es ρ σ vs σ₁) (h0:es=[]→vs=[]∧σ₁=σ)
  (k:∀ α' xs s',α <+: α'→St w B env f α' ρ σ₁ os s'→VRs α' vs xs→Keeps (model pw w) fv s'.heap∧wpAny (model pw w) A (call fv (first++xs)) Q Ef s') :
  wpAny (model pw w) A (callWith pos fv first (backTo pos (starEach es env)) []) Q Ef s:=by
 refine callWith_of (P:=Keeps (model pw w) fv) (by rw [plain_star hn];rfl) (fun h q=>q) (evalArgs_star hn (fun e=>?_) ?_)
 ·obtain⟨rfl,rfl⟩:=h0 e
  exact k α [] s (pre_refl α) S .nil
 ·exact h pos α os s _ S fun α' xs s' p S' r=>k α' xs s' p S' r
theorem eval_Call {func:Expr}{args:List Expr}{pos:Pos} (h:notAttr func=true):eval (.Call func args [] pos) env=(do callWith pos (←eval func env) [] (backTo pos (starEach args env)) (backToKw pos (keywordEach [] env))):=by
 cases func <;> first | rfl | cases h
theorem ev_call {func:Expr}{args:List Expr}{pos:Pos}{g v:AV}{vs:List AV} (ha:notAttr func=true) (hn:args.all notStar=true) (G:Gd w B) (h1:EvOk w A B env f (eval func env) ρ σ g σ₁) (h2:EvsOk w A B env f args ρ σ₁ vs σ₂)
  (h0:args=[]→vs=[]∧σ₂=σ₁) (hk:∀ (α:List Addr) (s:Shared) (gv:Value),St w B env f α ρ σ₂ s.os s→VR α g gv→Keeps (model pw w) gv s.heap) (C:CallOk w A g vs σ₂ v σ₃) :
  EvOk w A B env f (eval (.Call func args [] pos) env) ρ σ v σ₃:=by
 intro α os s Q S k
 rw [eval_Call ha]
 refine wpAny_bind (h1 α os s _ S fun α₁ gv s₁ p1 S1 r1=>?_)
 refine with_ok hn S1 h2 h0 fun α₂ xs s₂ p2 S2 r2=>⟨hk α₂ s₂ gv ⟨S2.rel,S2.gens,rfl⟩ (r1.mono p2),?_⟩
 exact call_in C G S2 (r1.mono p2) r2 fun α₃ x s₃ p3 S3 r3=>k α₃ x s₃ ((p1.trans p2).trans p3) S3 r3
end
end Mine
end
section
open PySem PySem.W PyProof.Rows PySem.Calls PySem.SeqAt
set_option maxRecDepth 100000
set_option linter.unusedVariables false
set_option autoImplicit false
namespace Mine
theorem bindL_skip {kind:Str→Option NameKind}{x:Str}:∀ {ns:List Str}{xs:List Value}{m:Str→Option Value},x∉ns→bindL kind (ns.zip xs) m x=m x
 | [],_,_,_=>rfl
 | n :: ns,[],_,_=>rfl
 | n :: ns,y :: xs,m,h=>by
  rw [List.zip_cons_cons]
  unfold bindL
  rw [bindL_skip (fun q=>h (List.mem_cons_of_mem _ q))]
  split
  ·exact if_neg (fun e=>h (by rw [e];exact List.mem_cons_self))
  ·rfl
theorem bindC_skip {kind:Str→Option NameKind}{x:Str}:∀ {ns:List Str}{xs:List Value}{m:Str→Option Value},x∉ns→bindC kind (ns.zip xs) m x=m x
 | [],_,_,_=>rfl
 | n :: ns,[],_,_=>rfl
 | n :: ns,y :: xs,m,h=>by
  rw [List.zip_cons_cons]
  unfold bindC
  rw [bindC_skip (fun q=>h (List.mem_cons_of_mem _ q))]
  split
  ·rfl
  ·exact if_neg (fun e=>h (by rw [e];exact List.mem_cons_self))
theorem bindL_at {kind:Str→Option NameKind}{x:Str} (hk:kind x=some .local):∀ {ns:List Str}{xs:List Value}{m:Str→Option Value}{i:Nat}{y:Value},ns.Nodup→ns[i]? = some x→xs[i]? = some y→bindL kind (ns.zip xs) m x=some y
 | [],_,_,_,_,_,h,_=>by simp at h
 | n :: ns,[],_,_,_,_,_,h=>by simp at h
 | n :: ns,z :: xs,m,0,y,hn,h1,h2=>by
  simp only [List.getElem?_cons_zero,Option.some.injEq]at h1 h2
  subst h1;subst h2
  rw [List.zip_cons_cons]
  unfold bindL
  rw [bindL_skip (List.nodup_cons.mp hn).1,if_pos hk,if_pos rfl]
 | n :: ns,z :: xs,m,i+1,y,hn,h1,h2=>by
  simp only [List.getElem?_cons_succ]at h1 h2
  rw [List.zip_cons_cons]
  unfold bindL
  exact bindL_at hk (List.nodup_cons.mp hn).2 h1 h2
theorem bindC_at {kind:Str→Option NameKind}{x:Str} (hk:kind x≠some .local):∀ {ns:List Str}{xs:List Value}{m:Str→Option Value}{i:Nat}{y:Value},ns.Nodup→ns[i]? = some x→xs[i]? = some y→bindC kind (ns.zip xs) m x=some y
 | [],_,_,_,_,_,h,_=>by simp at h
 | n :: ns,[],_,_,_,_,_,h=>by simp at h
 | n :: ns,z :: xs,m,0,y,hn,h1,h2=>by
  simp only [List.getElem?_cons_zero,Option.some.injEq]at h1 h2
  subst h1;subst h2
  rw [List.zip_cons_cons]
  unfold bindC
  rw [bindC_skip (List.nodup_cons.mp hn).1,if_neg hk,if_pos rfl]
 | n :: ns,z :: xs,m,i+1,y,hn,h1,h2=>by
  simp only [List.getElem?_cons_succ]at h1 h2
  rw [List.zip_cons_cons]
  unfold bindC
  exact bindC_at hk (List.nodup_cons.mp hn).2 h1 h2
theorem cellsFrom_acc:∀ {names:List (Str×NameKind)}{n:Nat}{acc:List (Str×Addr)}{x:Str},(acc.lookup x).isSome=true→((cellsFrom n names acc).lookup x).isSome=true
 | [],_,_,_,h=>h
 | (m,k) :: r,n,acc,x,h=>by
  unfold cellsFrom
  split
  ·refine cellsFrom_acc ?_
   rw [List.lookup_cons]
   split
   ·rfl
   ·exact h
  ·exact cellsFrom_acc h
theorem cellsFrom_has:∀ {names:List (Str×NameKind)}{n:Nat}{acc:List (Str×Addr)}{x:Str},(x,NameKind.cell)∈names→((cellsFrom n names acc).lookup x).isSome=true
 | [],_,_,_,h=>by cases h
 | (m,k) :: r,n,acc,x,h=>by
  unfold cellsFrom
  rcases List.mem_cons.mp h with e | h
  ·cases e
   rw [if_pos (by rfl)]
   refine cellsFrom_acc ?_
   rw [List.lookup_cons];simp
  ·split
   ·exact cellsFrom_has h
   ·exact cellsFrom_has h
theorem lookup_nodup {β:Type}:∀ {l:List (Str×β)}{i:Nat}{x:Str}{k:β},(l.map (·.1)).Nodup→l[i]? = some (x,k)→l.lookup x=some k
 | [],_,_,_,_,h=>by simp at h
 | p :: l,0,x,k,hn,h=>by
  simp only [List.getElem?_cons_zero,Option.some.injEq]at h
  subst h
  rw [List.lookup_cons];simp
 | p :: l,i+1,x,k,hn,h=>by
  simp only [List.getElem?_cons_succ]at h
  rw [List.map_cons,List.nodup_cons]at hn
  rw [List.lookup_cons]
  have:x≠p.1:=by
   rintro rfl
   exact hn.1 (List.mem_map.mpr ⟨_,List.mem_of_getElem? h,rfl⟩)
  rw [beq_false_of_ne this]
  exact lookup_nodup hn.2 h
noncomputable def CV (α:List Addr) (v:Option AV) (y:Option Value):Prop:=match v,y with | some v,some y=>VR α v y | none,none=>True | _,_=>False
structure FunOk (P:Params) (a:Addr) (F:Fun) (fd:FuncData) (bd:List Stmt) (ns:List Str) (ds:List Value) (da:List AV):Prop where
 there:∃ o,(KK P).lookup a=some o∧o.data=.func fd
 body:fd.body=.stmts bd
 emb:zipE dS (emS 40) F.body bd=bd
 ok:allZ dS (okS 40 fd.scope) F.body bd=true
 clo:fd.closure=[]
 globals:fd.globals=mainGlobals
 builtins:fd.builtins=builtinsNs
 co:fd.scope.isCoroutine=false
 gen:fd.scope.isGenerator=false
 kind:fd.scope.kind=.function
 code:codeIn (KK P) fd.code fd.qualname=true
 binds:∀ xs:List Value,xs.length=F.arity→∀ S,peek (KK P) S (bindArgs fd ⟨xs,[]⟩)=some (ns.zip (xs++ds))
 dflt:F.defaults.drop (F.arity+F.defaults.length - F.params)=da∧∀ α,VRs α da ds
 names:(fd.scope.names.map (·.1)).Nodup
 params:(fd.scope.names.take ns.length).map (·.1)=ns
 count:F.arity+ds.length=ns.length
 cells:F.cells=fd.scope.names.zipIdx.filterMap fun((_,k),i)=>if k == .cell then some i else none
 pk:(fd.scope.names.take ns.length).all (fun p=>p.2 == .local || p.2 == .cell)=true
section
variable {w:World}{A:Around}{B B':Base}{env:Env}{f:Nat→Option Nat}{α α':List Addr}{ρ ρ' ρ₁ ρ₂:Rho}{σ σ' σ₁ σ₂ σ₃ σ₄:Sto}{os:OsState}{s s':Shared}{I:Addr}{h h':Heap}{o:Obj}
theorem Rel.cell (R:Rel w B env f α ρ σ h){x:Nat}{n:Str}{k:NameKind}{c:Addr}{v:Option AV} (hn:env.scope.names[x]? = some (n,k)) (hc:env.cells.lookup n=some c) (hb:B c=none) (ha:c∉α) (hL:c≠env.locals) (hbig:100<c)
  {y:Option Value} (hy:h.IsCell c y) (hv:CV α v y) :
  Rel w B env (fun z=>if z=x then some σ.length else f z) (α++[c]) ρ (σ++[.cell v]) h:=by
 refine xE12 hy fun o ho hd=>?_
 have hp:α <+: α++[c]:=⟨_,rfl⟩
 have R':=R.alloc (a:=c) (o:=o) (ao:=.cell v) (fun b o e=>by rintro rfl;rw [hb]at e;cases e) ha hL hbig ho ⟨y,hd,by
  cases v <;> cases y <;> first | exact hv | exact VR.mono hp hv⟩
 refine⟨R'.len,R'.keep,R'.loc,fun i m k' e1 e2 l e3=>?_,R'.obj,R'.off,R'.offB,R'.offL,R'.nd,R'.big⟩
 by_cases q:i=x
 ·subst q
  refine byG fun G9 k9=>?_
  rw [if_pos rfl]at e3
  cases e3
  rw [hn]at e1;cases e1
  refine k9 ?_
  exact⟨c,hc,by rw [←R.len];simp⟩
 ·rw [if_neg q]at e3
  exact R'.cel i m k' e1 e2 l e3
theorem Rel.cells {args:List AV}{cm:Str→Option Value}:∀ {cs:List Nat}{f:Nat→Option Nat}{α:List Addr}{σ:Sto},Rel w B env f α ρ σ h→
  (∀ x∈cs,∃ n k c,env.scope.names[x]? = some (n,k)∧env.cells.lookup n=some c∧B c=none∧c∉α∧c≠env.locals∧100<c∧h.IsCell c (cm n)∧CV α args[x]? (cm n))→
  (env.scope.names.map (·.1)).Nodup→(env.cells.Pairwise fun x y=>x.2≠y.2)→cs.Nodup→∃ α',α <+: α'∧Rel w B env (newCells args cs f σ).1 α' ρ (newCells args cs f σ).2 h
 | [],f,α,σ,R,_,_,_,_=>⟨α,pre_refl α,R⟩
 | x :: cs,f,α,σ,R,hx,hn,hap,hcs=>by
  refine byG fun GG2 kk2=>?_
  refine xE38 (hx x List.mem_cons_self) fun n k c e1 e2 e3 e4 e5 e6 e7 e8=>?_
  refine kk2 ?_
  have R':=R.cell e1 e2 e3 e4 e5 e6 e7 e8
  have hp:α <+: α++[c]:=⟨_,rfl⟩
  rw [List.nodup_cons]at hcs
  refine xE12 (R'.cells (args:=args) (cm:=cm) (cs:=cs) (fun y hy=>by
   refine xE38 (hx y (List.mem_cons_of_mem _ hy)) fun n' k' c' g1 g2 g3 g4 g5 g6 g7 g8=>?_
   refine⟨n',k',c',g1,g2,g3,fun hm=>?_,g5,g6,g7,?_⟩
   ·rcases List.mem_append.mp hm with hm | hm
    ·exact g4 hm
    ·rw [List.mem_singleton]at hm
     subst hm
     have hnn:n'=n:=name_of_addr hap (mem_of_lookup g2) (mem_of_lookup e2)
     subst hnn
     have:y=x:=nodup_inj hn (a:=n') (by simp [g1]) (by simp [e1])
     exact hcs.1 (this ▸ hy)
   ·revert g8
    cases args[y]? <;> cases cm n' <;> first | exact id | exact VR.mono hp) hn hap hcs.2) fun α' p R''=>?_
  refine⟨α',hp.trans p,?_⟩
  unfold newCells
  exact R''
end
end Mine
end
section
open PySem PySem.W PyProof.Rows PySem.Calls PySem.SeqAt
set_option maxRecDepth 100000
set_option linter.unusedVariables false
set_option autoImplicit false
namespace Mine
section
variable {w:World}{A:Around}{B B':Base}{env:Env}{f:Nat→Option Nat}{α α':List Addr}{ρ ρ' ρ₁ ρ₂:Rho}{σ σ' σ₁ σ₂ σ₃ σ₄:Sto}{os:OsState}{s s':Shared}{I:Addr}{h h':Heap}{o:Obj}
theorem mem_filter_zip {names:List (Str×NameKind)}{x:Nat}:x∈(names.zipIdx.filterMap fun((_,k),i)=>if k == .cell then some i else none)↔∃ n,names[x]? = some (n,.cell):=by
 simp only [List.mem_filterMap,List.mem_zipIdx_iff_getElem?]
 constructor
 ·rintro⟨⟨⟨n,k⟩,i⟩,h1,h2⟩
  simp only at h1 h2
  split at h2
  ·rename_i hk
   cases h2
   rw [beq_iff_eq]at hk
   subst hk
   exact⟨n,h1⟩
  ·exact nn h2
 ·rintro⟨n,h⟩
  exact⟨⟨⟨n,.cell⟩,x⟩,h,by simp⟩
theorem filter_nodup {names:List (Str×NameKind)}:(names.zipIdx.filterMap fun((_,k),i)=>if k == NameKind.cell then some i else none).Nodup:=by
 refine List.Pairwise.filterMap _ (R:=fun a b=>a.2≠b.2) ?_ ?_
 ·rintro⟨⟨n,k⟩,i⟩ ⟨⟨n',k'⟩,i'⟩ h b hb b' hb'
  simp only at hb hb' h
  split at hb
  ·split at hb'
   ·cases hb;cases hb';exact h
   ·cases hb'
  ·exact nn hb
 ·have:(names.zipIdx.map (·.2)).Nodup:=by
   rw [List.zipIdx_map_snd]
   exact List.nodup_range'
  exact List.pairwise_map.mp this
theorem frame_rel {a:Addr}{F:Fun}{fd:FuncData}{bd:List Stmt}{ns:List Str}{ds:List Value}{da:List AV} (X:FunOk w.params a F fd bd ns ds da){vs:List AV}{xs:List Value} (S:StS w B α σ os s) (rs:VRs α vs xs)
  (hk:vs.length=F.arity) (x:InCallC s (callEnvC fd s.heap.objs.size a).locals (bindL (callEnvC fd s.heap.objs.size a).kindOf (ns.zip (xs++ds)) fun _=>none) (callEnvC fd s.heap.objs.size a).cells (bindC (callEnvC fd s.heap.objs.size a).kindOf (ns.zip (xs++ds)) fun _=>none) s') :
  ∃ α',α <+: α'∧St w B (callEnvC fd s.heap.objs.size a) (newCells (vs++da) F.cells (fun _=>none) σ).1 α' (fun x=>if F.cells.contains x then none else (vs++da)[x]?) (newCells (vs++da) F.cells (fun _=>none) σ).2 os s':=by
 refine byG fun G2 k2=>?_
 have hr:VRs α (vs++da) (xs++ds):=rs.append ((X.dflt).2 α)
 have hlen:(vs++da).length=ns.length:=by
  have h1:=((X.dflt).2 α).length
  have h2:=X.count
  simp only [List.length_append];lia
 have hnsn:ns.Nodup:=by
  rw [←X.params,List.map_take]
  exact(List.take_sublist _ _).nodup X.names
 have hns:∀ i n k',fd.scope.names[i]? = some (n,k')→i<ns.length→ns[i]? = some n:=fun i n k' e hi=>by
  rw [←X.params,List.getElem?_map,List.getElem?_take_of_lt hi,e];rfl
 have hnot:∀ i n k',fd.scope.names[i]? = some (n,k')→¬ i<ns.length→n∉ns:=fun i n k' e hi hm=>by
  obtain⟨j,hj,e'⟩:=List.getElem_of_mem hm
  have hj':ns[j]? = some n:=by rw [List.getElem?_eq_getElem hj,e']
  rw [←X.params]at hj'
  rw [List.getElem?_map,List.getElem?_take_of_lt hj]at hj'
  cases q:fd.scope.names[j]? with
  | none=>rw [q]at hj';cases hj'
  | some p=>
   rw [q]at hj'
   simp only [Option.map_some,Option.some.injEq]at hj'
   have:j=i:=nodup_inj X.names (a:=n) (by simp [q,hj']) (by simp [e])
   lia
 have R0:Rel w B (callEnvC fd s.heap.objs.size a) (fun _=>none) α (fun x=>if F.cells.contains x then none else (vs++da)[x]?) σ s'.heap:=by
  refine⟨S.rel.len,fun b o e=>x.toInCall.keep b o (S.rel.keep b o e),⟨_,x.toInCall.ns,fun i n v e1 e2=>?_⟩,fun i n k' _ _ l e=>(by cases e),fun i ao e=>?_,fun b hb=>Nat.ne_of_lt (S.rel.lt hb),S.rel.offB,base_size S.rel.keep,S.rel.nd,S.rel.top,S.rel.big⟩
  ·split at e2
   ·exact nn e2
   ·have hi:i<ns.length:=by rw [←hlen];exact(List.getElem?_eq_some_iff.mp e2).1
    refine xE12 (hr.get e2) fun y hy r=>?_
    exact⟨y,bindL_at (lookup_nodup X.names e1) hnsn (hns i n _ e1 hi) hy,r⟩
  ·refine xE23 (S.rel.obj i ao e) fun b o e1 e2 e3=>?_
   exact⟨b,o,e1,x.toInCall.keep b o e2,e3⟩
 refine xE12 (R0.cells (args:=vs++da) (cm:=bindC (callEnvC fd s.heap.objs.size a).kindOf (ns.zip (xs++ds)) fun _=>none) (cs:=F.cells) (fun i hi=>by
  rw [X.cells]at hi
  obtain⟨n,e⟩:=mem_filter_zip.mp hi
  obtain⟨c,hc⟩:=Option.isSome_iff_exists.mp (cellsFrom_has (n:=s.heap.objs.size+1) (acc:=[]) (List.mem_of_getElem? e))
  have hab:s.heap.objs.size<c:=x.above n c (mem_of_lookup hc)
  have hkd:(callEnvC fd s.heap.objs.size a).kindOf n≠some .local:=by
   show fd.scope.names.lookup n≠_
   rw [lookup_nodup X.names e];decide
  refine⟨n,.cell,c,e,hc,?_,fun hm=>Nat.lt_asymm hab (S.rel.lt hm),Nat.ne_of_gt hab,Nat.lt_trans (Nat.lt_trans (by decide) S.rel.top) hab,x.cell n c hc,?_⟩
  ·cases q:B c with
   | none=>rfl
   | some o=>exact absurd (Heap.lt_size (S.rel.keep _ _ q)) (Nat.lt_asymm hab)
  ·by_cases hi:i<ns.length
   ·have hv:(vs++da)[i]? = some (vs++da)[i]:=List.getElem?_eq_getElem (hlen ▸ hi)
    refine xE12 (hr.get hv) fun y hy r=>?_
    rw [hv,bindC_at hkd hnsn (hns i n _ e hi) hy]
    exact r
   ·rw [List.getElem?_eq_none (by lia),bindC_skip (hnot i n _ e hi)]
    trivial) X.names x.apart (by rw [X.cells];exact filter_nodup)) fun α' p R'=>?_
 obtain⟨⟨h₁,tk,hs⟩,_,_,_⟩:=x.toInCall
 refine k2 ?_
 exact⟨α',p,R',by rw [hs];exact S.gens,by rw [hs];exact S.os⟩
structure RunR (bd:(Nat→Option Nat)→Rho→Sto→Fl→Rho→Sto→Prop) (F:Fun) (da:List AV) (vs:List AV) (σ:Sto) (v:AV) (σ':Sto):Prop where
 len:vs.length=F.arity
 run:∃ fl ρ',bd (newCells (vs++da) F.cells (fun _=>none) σ).1 (fun x=>if F.cells.contains x then none else (vs++da)[x]?) (newCells (vs++da) F.cells (fun _=>none) σ).2 fl ρ' σ'∧(fl=.ret v∨(fl=.next∧v=.none))
theorem fun_ok {bdr:(Nat→Option Nat)→Rho→Sto→Fl→Rho→Sto→Prop}{a:Addr}{F:Fun}{fd:FuncData}{bd:List Stmt}{ns:List Str}{ds:List Value}{da:List AV} (X:FunOk w.params a F fd bd ns ds da) (hA:A.depth<recursionLimit){vs:List AV}{v:AV}
  (hB:∀ (B:Base) (env:Env) (f:Nat→Option Nat) (ρ:Rho) (σ:Sto) (fl:Fl) (ρ':Rho) (σ':Sto),Gd w B→EnvOk env→env.scope=fd.scope→env.code=fd.code→env.qual=fd.qualname++Str.ofString ".<locals>."→bdr f ρ σ fl ρ' σ'→ExOk w (A.deeper env) B env f (PySem.execs bd env) ρ σ fl ρ' σ')
  (h:RunR bdr F da vs σ v σ'):CodeOk w A (.cst (.ref a)) vs σ v σ':=by
 intro B α os s gv xs R G S rg rs q
 rw [rg.cst_of]
 have K:=G.K _ S.rel.keep
 refine xE22 G.T fun mg mb T _=>?_
 have T:=T s.heap S.rel.keep
 refine xE12 X.there fun o ho hd=>?_
 have hxs:xs.length=F.arity:=rs.length ▸ h.len
 refine codeAny_call_function hA (K _ _ ho) hd X.co X.gen X.body (codeRec_of K X.code) (kp_binds K (X.binds xs hxs) _ _ _ _ ?_)
 rw [X.clo]
 refine wpAny_newFunctionEnv_cells X.kind (fun y hy=>?_) fun env he s' x=>?_
 ·have hy:=(List.of_mem_zip hy).1
  rw [←X.params]at hy
  refine xE12 (List.mem_map.mp hy) fun p hp e=>?_
  have hm:p∈fd.scope.names:=List.mem_of_mem_take hp
  obtain⟨i,hi,e'⟩:=List.getElem_of_mem hm
  have hl:fd.scope.names.lookup y.1=some p.2:=by
   rw [←e]
   exact lookup_nodup X.names (i:=i) (by rw [List.getElem?_eq_getElem hi,e'])
  rcases or12 (List.all_eq_true.mp X.pk p hp)with z | z
  ·exact .inl (hl.trans (congrArg some (eq_of_beq z)))
  ·exact .inr ⟨hl.trans (congrArg some (eq_of_beq z)),cellsFrom_has (by rw [←e,←eq_of_beq z];exact hm)⟩
 ·subst he
  refine xE12 (frame_rel X S rs h.len x) fun α₁ p1 S1=>?_
  refine⟨T.nolimit.keeps x.toInCall.keep,codeAny_func ?_⟩
  refine xE22 h.run fun fl ρ₃ e hf=>?_
  refine(hB B _ _ _ _ _ _ _ G ⟨X.kind,X.globals,X.builtins,X.names⟩ rfl rfl rfl e).run S1 fun α₂ x s'' p2 S2 r=>?_
  rcases hf with rfl | ⟨rfl,rfl⟩
  ·cases r with | ret r=>exact q α₂ _ s'' (p1.trans p2) S2.toS r
  ·cases r;exact q α₂ _ s'' (p1.trans p2) S2.toS .none
end
end Mine
end
section
open PySem PySem.W PyProof.Rows PySem.Calls PySem.SeqAt
set_option maxRecDepth 100000
set_option linter.unusedVariables false
set_option autoImplicit false
namespace Mine
theorem len1 {β:Type}{l:List β} (h:l.length=1):∃ a,l=[a]:=by cases l with | nil=>cases h | cons a l=>cases l with | nil=>exact⟨a,rfl⟩ | cons=>simp at h
theorem len2 {β:Type}{l:List β} (h:l.length=2):∃ a b,l=[a,b]:=by cases l with | nil=>cases h | cons a l=>obtain⟨b,rfl⟩:=len1 (l:=l) (by simpa using h);exact⟨a,b,rfl⟩
theorem len3 {β:Type}{l:List β} (h:l.length=3):∃ a b c,l=[a,b,c]:=by cases l with | nil=>cases h | cons a l=>obtain⟨b,c,rfl⟩:=len2 (l:=l) (by simpa using h);exact⟨a,b,c,rfl⟩
theorem len4 {β:Type}{l:List β} (h:l.length=4):∃ a b c d,l=[a,b,c,d]:=by cases l with | nil=>cases h | cons a l=>obtain⟨b,c,d,rfl⟩:=len3 (l:=l) (by simpa using h);exact⟨a,b,c,d,rfl⟩
theorem len5 {β:Type}{l:List β} (h:l.length=5):∃ a b c d e,l=[a,b,c,d,e]:=by cases l with | nil=>cases h | cons a l=>obtain⟨b,c,d,e,rfl⟩:=len4 (l:=l) (by simpa using h);exact⟨a,b,c,d,e,rfl⟩
noncomputable def fd0:FuncData:={ name:="",qualname:="",params:=noArgs,body:=.stmts [],scope:=noScope,globals:=0,closure:=[],defaults:=.none,kwdefaults:=.none,doc:=.none,pyModule:=.none,annotations:=none,code:=.none,closureTuple:=.none,builtins:=0 }
noncomputable def fdO (o:Obj):FuncData:=match o.data with
 | .func fd=>fd
 | _=>fd0
theorem f82 (P:Params):FunOk P 82 G82 (fdO (o82 P)) (fnB (st2 3 4)) ((fnP (st2 3 4)).args.map (·.arg)) [] []:=
 ⟨⟨o82 P,by kernel_rfl,by kernel_rfl⟩,by kernel_rfl,by kernel_rfl,by kernel_rfl,by kernel_rfl,by kernel_rfl,by kernel_rfl,by kernel_rfl,by kernel_rfl,by kernel_rfl,by kernel_rfl,fun xs hx S=>by obtain⟨a,b,c,d,rfl⟩:=len4 hx;kernel_rfl,⟨by kernel_rfl,fun α=>.nil⟩,by show((fnS (st2 3 4)).names.map (·.1)).Nodup;decide +kernel,by kernel_rfl,by kernel_rfl,by kernel_rfl,by show((fnS (st2 3 4)).names.take _).all _=true;kernel_rfl⟩
theorem f89 (P:Params):FunOk P 89 G89 (fdO (o89 P)) (fnB (st2 3 5)) ((fnP (st2 3 5)).args.map (·.arg)) [] []:=
 ⟨⟨o89 P,by kernel_rfl,by kernel_rfl⟩,by kernel_rfl,by kernel_rfl,by kernel_rfl,by kernel_rfl,by kernel_rfl,by kernel_rfl,by kernel_rfl,by kernel_rfl,by kernel_rfl,by kernel_rfl,fun xs hx S=>by obtain⟨a,b,rfl⟩:=len2 hx;kernel_rfl,⟨by kernel_rfl,fun α=>.nil⟩,by show((fnS (st2 3 5)).names.map (·.1)).Nodup;decide +kernel,by kernel_rfl,by kernel_rfl,by kernel_rfl,by show((fnS (st2 3 5)).names.take _).all _=true;kernel_rfl⟩
theorem f160 (P:Params):FunOk P 160 G160 (fdO (o160 P)) (fnB (st2 5 1)) ((fnP (st2 5 1)).args.map (·.arg)) [.str "" 404,.str "" 405,.bool true] [.str "",.str "",.bool true]:=
 ⟨⟨o160 P,by kernel_rfl,by kernel_rfl⟩,by kernel_rfl,by kernel_rfl,by kernel_rfl,by kernel_rfl,by kernel_rfl,by kernel_rfl,by kernel_rfl,by kernel_rfl,by kernel_rfl,by kernel_rfl,fun xs hx S=>by obtain⟨a,b,rfl⟩:=len2 hx;kernel_rfl,⟨by kernel_rfl,fun α=>.cons (.str _ _) (.cons (.str _ _) (.cons (.bool _) .nil))⟩,by show((fnS (st2 5 1)).names.map (·.1)).Nodup;decide +kernel,by kernel_rfl,by kernel_rfl,by kernel_rfl,by show((fnS (st2 5 1)).names.take _).all _=true;kernel_rfl⟩
theorem f167 (P:Params):FunOk P 167 G167 (fdO (o167 P)) (fnB (st2 5 2)) ((fnP (st2 5 2)).args.map (·.arg)) [] []:=
 ⟨⟨o167 P,by kernel_rfl,by kernel_rfl⟩,by kernel_rfl,by kernel_rfl,by kernel_rfl,by kernel_rfl,by kernel_rfl,by kernel_rfl,by kernel_rfl,by kernel_rfl,by kernel_rfl,by kernel_rfl,fun xs hx S=>by obtain⟨a,b,c,rfl⟩:=len3 hx;kernel_rfl,⟨by kernel_rfl,fun α=>.nil⟩,by show((fnS (st2 5 2)).names.map (·.1)).Nodup;decide +kernel,by kernel_rfl,by kernel_rfl,by kernel_rfl,by show((fnS (st2 5 2)).names.take _).all _=true;kernel_rfl⟩
theorem f174 (P:Params):FunOk P 174 G174 (fdO (o174 P)) (fnB (st2 5 3)) ((fnP (st2 5 3)).args.map (·.arg)) [] []:=
 ⟨⟨o174 P,by kernel_rfl,by kernel_rfl⟩,by kernel_rfl,by kernel_rfl,by kernel_rfl,by kernel_rfl,by kernel_rfl,by kernel_rfl,by kernel_rfl,by kernel_rfl,by kernel_rfl,by kernel_rfl,fun xs hx S=>by obtain⟨a,b,rfl⟩:=len2 hx;kernel_rfl,⟨by kernel_rfl,fun α=>.nil⟩,by show((fnS (st2 5 3)).names.map (·.1)).Nodup;decide +kernel,by kernel_rfl,by kernel_rfl,by kernel_rfl,by show((fnS (st2 5 3)).names.take _).all _=true;kernel_rfl⟩
theorem f181 (P:Params):FunOk P 181 G181 (fdO (o181 P)) (fnB (st2 5 4)) ((fnP (st2 5 4)).args.map (·.arg)) [] []:=
 ⟨⟨o181 P,by kernel_rfl,by kernel_rfl⟩,by kernel_rfl,by kernel_rfl,by kernel_rfl,by kernel_rfl,by kernel_rfl,by kernel_rfl,by kernel_rfl,by kernel_rfl,by kernel_rfl,by kernel_rfl,fun xs hx S=>by obtain⟨a,b,rfl⟩:=len2 hx;kernel_rfl,⟨by kernel_rfl,fun α=>.nil⟩,by show((fnS (st2 5 4)).names.map (·.1)).Nodup;decide +kernel,by kernel_rfl,by kernel_rfl,by kernel_rfl,by show((fnS (st2 5 4)).names.take _).all _=true;kernel_rfl⟩
theorem f188 (P:Params):FunOk P 188 G188 (fdO (o188 P)) (fnB (st2 5 5)) ((fnP (st2 5 5)).args.map (·.arg)) [] []:=
 ⟨⟨o188 P,by kernel_rfl,by kernel_rfl⟩,by kernel_rfl,by kernel_rfl,by kernel_rfl,by kernel_rfl,by kernel_rfl,by kernel_rfl,by kernel_rfl,by kernel_rfl,by kernel_rfl,by kernel_rfl,fun xs hx S=>by obtain⟨a,rfl⟩:=len1 hx;kernel_rfl,⟨by kernel_rfl,fun α=>.nil⟩,by show((fnS (st2 5 5)).names.map (·.1)).Nodup;decide +kernel,by kernel_rfl,by kernel_rfl,by kernel_rfl,by show((fnS (st2 5 5)).names.take _).all _=true;kernel_rfl⟩
theorem f196 (P:Params):FunOk P 196 G196 (fdO (o196 P)) (fnB (st2 5 6)) ((fnP (st2 5 6)).args.map (·.arg)) [] []:=
 ⟨⟨o196 P,by kernel_rfl,by kernel_rfl⟩,by kernel_rfl,by kernel_rfl,by kernel_rfl,by kernel_rfl,by kernel_rfl,by kernel_rfl,by kernel_rfl,by kernel_rfl,by kernel_rfl,by kernel_rfl,fun xs hx S=>by obtain⟨a,b,c,d,e,rfl⟩:=len5 hx;kernel_rfl,⟨by kernel_rfl,fun α=>.nil⟩,by show((fnS (st2 5 6)).names.map (·.1)).Nodup;decide +kernel,by kernel_rfl,by kernel_rfl,by kernel_rfl,by show((fnS (st2 5 6)).names.take _).all _=true;kernel_rfl⟩
theorem f203 (P:Params):FunOk P 203 G203 (fdO (o203 P)) (fnB (st2 5 7)) ((fnP (st2 5 7)).args.map (·.arg)) [] []:=
 ⟨⟨o203 P,by kernel_rfl,by kernel_rfl⟩,by kernel_rfl,by kernel_rfl,by kernel_rfl,by kernel_rfl,by kernel_rfl,by kernel_rfl,by kernel_rfl,by kernel_rfl,by kernel_rfl,by kernel_rfl,fun xs hx S=>by obtain⟨a,rfl⟩:=len1 hx;kernel_rfl,⟨by kernel_rfl,fun α=>.nil⟩,by show((fnS (st2 5 7)).names.map (·.1)).Nodup;decide +kernel,by kernel_rfl,by kernel_rfl,by kernel_rfl,by show((fnS (st2 5 7)).names.take _).all _=true;kernel_rfl⟩
theorem f301 (P:Params):FunOk P 301 G301 (fdO (o301 P)) (fnB (st2 15 0)) ((fnP (st2 15 0)).args.map (·.arg)) [.none] [.none]:=
 ⟨⟨o301 P,by kernel_rfl,by kernel_rfl⟩,by kernel_rfl,by kernel_rfl,by kernel_rfl,by kernel_rfl,by kernel_rfl,by kernel_rfl,by kernel_rfl,by kernel_rfl,by kernel_rfl,by kernel_rfl,fun xs hx S=>by obtain⟨a,b,rfl⟩:=len2 hx;kernel_rfl,⟨by kernel_rfl,fun α=>.cons .none .nil⟩,by show((fnS (st2 15 0)).names.map (·.1)).Nodup;decide +kernel,by kernel_rfl,by kernel_rfl,by kernel_rfl,by show((fnS (st2 15 0)).names.take _).all _=true;kernel_rfl⟩
theorem f308 (P:Params):FunOk P 308 G308 (fdO (o308 P)) (fnB (st2 15 1)) ((fnP (st2 15 1)).args.map (·.arg)) [] []:=
 ⟨⟨o308 P,by kernel_rfl,by kernel_rfl⟩,by kernel_rfl,by kernel_rfl,by kernel_rfl,by kernel_rfl,by kernel_rfl,by kernel_rfl,by kernel_rfl,by kernel_rfl,by kernel_rfl,by kernel_rfl,fun xs hx S=>by obtain⟨a,b,c,rfl⟩:=len3 hx;kernel_rfl,⟨by kernel_rfl,fun α=>.nil⟩,by show((fnS (st2 15 1)).names.map (·.1)).Nodup;decide +kernel,by kernel_rfl,by kernel_rfl,by kernel_rfl,by show((fnS (st2 15 1)).names.take _).all _=true;kernel_rfl⟩
theorem f327 (P:Params):FunOk P 327 G327 (fdO (o327 P)) (fnB (st1 18)) ((fnP (st1 18)).args.map (·.arg)) [] []:=
 ⟨⟨o327 P,by kernel_rfl,by kernel_rfl⟩,by kernel_rfl,by kernel_rfl,by kernel_rfl,by kernel_rfl,by kernel_rfl,by kernel_rfl,by kernel_rfl,by kernel_rfl,by kernel_rfl,by kernel_rfl,fun xs hx S=>by obtain⟨a,rfl⟩:=len1 hx;kernel_rfl,⟨by kernel_rfl,fun α=>.nil⟩,by show((fnS (st1 18)).names.map (·.1)).Nodup;decide +kernel,by kernel_rfl,by kernel_rfl,by kernel_rfl,by show((fnS (st1 18)).names.take _).all _=true;kernel_rfl⟩
theorem f332 (P:Params):FunOk P 332 G332 (fdO (o332 P)) (fnB (st1 19)) ((fnP (st1 19)).args.map (·.arg)) [] []:=
 ⟨⟨o332 P,by kernel_rfl,by kernel_rfl⟩,by kernel_rfl,by kernel_rfl,by kernel_rfl,by kernel_rfl,by kernel_rfl,by kernel_rfl,by kernel_rfl,by kernel_rfl,by kernel_rfl,by kernel_rfl,fun xs hx S=>by obtain⟨a,rfl⟩:=len1 hx;kernel_rfl,⟨by kernel_rfl,fun α=>.nil⟩,by show((fnS (st1 19)).names.map (·.1)).Nodup;decide +kernel,by kernel_rfl,by kernel_rfl,by kernel_rfl,by show((fnS (st1 19)).names.take _).all _=true;kernel_rfl⟩
theorem f339 (P:Params):FunOk P 339 G339 (fdO (o339 P)) (fnB (st1 20)) ((fnP (st1 20)).args.map (·.arg)) [] []:=
 ⟨⟨o339 P,by kernel_rfl,by kernel_rfl⟩,by kernel_rfl,by kernel_rfl,by kernel_rfl,by kernel_rfl,by kernel_rfl,by kernel_rfl,by kernel_rfl,by kernel_rfl,by kernel_rfl,by kernel_rfl,fun xs hx S=>by obtain⟨a,b,c,d,rfl⟩:=len4 hx;kernel_rfl,⟨by kernel_rfl,fun α=>.nil⟩,by show((fnS (st1 20)).names.map (·.1)).Nodup;decide +kernel,by kernel_rfl,by kernel_rfl,by kernel_rfl,by show((fnS (st1 20)).names.take _).all _=true;kernel_rfl⟩
theorem f346 (P:Params):FunOk P 346 G346 (fdO (o346 P)) (fnB (st1 21)) ((fnP (st1 21)).args.map (·.arg)) [] []:=
 ⟨⟨o346 P,by kernel_rfl,by kernel_rfl⟩,by kernel_rfl,by kernel_rfl,by kernel_rfl,by kernel_rfl,by kernel_rfl,by kernel_rfl,by kernel_rfl,by kernel_rfl,by kernel_rfl,by kernel_rfl,fun xs hx S=>by obtain⟨a,b,c,d,rfl⟩:=len4 hx;kernel_rfl,⟨by kernel_rfl,fun α=>.nil⟩,by show((fnS (st1 21)).names.map (·.1)).Nodup;decide +kernel,by kernel_rfl,by kernel_rfl,by kernel_rfl,by show((fnS (st1 21)).names.take _).all _=true;kernel_rfl⟩
theorem f353 (P:Params):FunOk P 353 G353 (fdO (o353 P)) (fnB (st1 22)) ((fnP (st1 22)).args.map (·.arg)) [] []:=
 ⟨⟨o353 P,by kernel_rfl,by kernel_rfl⟩,by kernel_rfl,by kernel_rfl,by kernel_rfl,by kernel_rfl,by kernel_rfl,by kernel_rfl,by kernel_rfl,by kernel_rfl,by kernel_rfl,by kernel_rfl,fun xs hx S=>by obtain⟨a,b,c,rfl⟩:=len3 hx;kernel_rfl,⟨by kernel_rfl,fun α=>.nil⟩,by show((fnS (st1 22)).names.map (·.1)).Nodup;decide +kernel,by kernel_rfl,by kernel_rfl,by kernel_rfl,by show((fnS (st1 22)).names.take _).all _=true;kernel_rfl⟩
theorem f358 (P:Params):FunOk P 358 G358 (fdO (o358 P)) (fnB (st1 23)) ((fnP (st1 23)).args.map (·.arg)) [] []:=
 ⟨⟨o358 P,by kernel_rfl,by kernel_rfl⟩,by kernel_rfl,by kernel_rfl,by kernel_rfl,by kernel_rfl,by kernel_rfl,by kernel_rfl,by kernel_rfl,by kernel_rfl,by kernel_rfl,by kernel_rfl,fun xs hx S=>by obtain⟨a,rfl⟩:=len1 hx;kernel_rfl,⟨by kernel_rfl,fun α=>.nil⟩,by show((fnS (st1 23)).names.map (·.1)).Nodup;decide +kernel,by kernel_rfl,by kernel_rfl,by kernel_rfl,by show((fnS (st1 23)).names.take _).all _=true;kernel_rfl⟩
end Mine
end
section
open PySem PySem.W PyProof.Rows PySem.Calls PySem.SeqAt
set_option maxRecDepth 100000
set_option linter.unusedVariables false
set_option autoImplicit false
namespace Mine
section
variable {w:World}{A:Around}{B B':Base}{env:Env}{f:Nat→Option Nat}{α α':List Addr}{ρ ρ' ρ₁ ρ₂:Rho}{σ σ' σ₁ σ₂ σ₃ σ₄:Sto}{os:OsState}{s s':Shared}{I:Addr}{h h':Heap}{o:Obj}
noncomputable def Post (w:World) (B:Base) (α:List Addr) (σ':Sto) (os:OsState) (v:AV) (Q:Value→Shared→Prop):Prop:=∀ α' x s',α <+: α'→StS w B α' σ' os s'→VR α' v x→Q x s'
theorem RelS.not_sys (R:RelS w B α σ h){l:Nat}{a:Addr} (e:α[l]? = some a):(a == sysModules)=false:=by
 have h1:=R.big a (List.mem_of_getElem? e)
 have h2:a≠1:=by rintro rfl;exact absurd h1 (by decide)
 exact beq_false_of_ne h2
theorem dput_none {k v:AV}:∀ {es:List (AV×AV)},es.lookup k=none→dput k v es=es++[(k,v)]
 | [],_=>rfl
 | p :: r,h=>by
  rw [List.lookup_cons]at h
  by_cases q:k=p.1
  ·subst q;simp at h
  ·rw [beq_false_of_ne q]at h
   show(if p.1=k then _ else _)=_
   rw [if_neg (fun e=>q e.symm)]
   show _ :: dput k v r=_
   rw [dput_none h];rfl
section
variable {K:Type} [DecidableEq K]{knd:KeyKind pw w K}{mk:K→AV}{q:K}{x:Value}{kvs:List (K×Value)}{ks:List (K×AV)}{a:Addr}{l:Nat}{v:AV}{y:Value}
theorem getDef_ok {Q:Value→Shared→Prop} (hx:knd.is q x=true) (g:s.heap.get? a=some o) (hd:IsD knd o kvs) (hs:(a == sysModules)=false) (h1:kvs.map (·.1)=ks.map (·.1)) (h2:VRs α (ks.map (·.2)) (kvs.map (·.2))) (hv:VR α v y)
  (k:∀ y' s',VR α ((ks.lookup q).getD v) y'→s'={ s with toks:=s.toks+1 }→Q y' s'):wpAny (model pw w) A (call (.builtin "dict.get") [.ref a,x,y]) Q Ef s:=by
 have hD:=hd.at g
 refine call_meetsIn F.slot_dict_get hD.mapOf.typeIs F.entry_dict_get (F.args_dict_get_3 _ _ _) (meets_dict_get_default knd a hx hs y) ⟨_,hD.mapOf,k _ _ ?_ rfl⟩
 have:=valueAt_rel h1 h2 q
 cases e:ks.lookup q with
 | none=>rw [this.2 e];exact hv
 | some u=>
  refine xE12 (this.1 u e) fun z hz r=>?_
  rw [hz];exact r
theorem setDef_ok {Q:Value→Shared→Prop} (hx:knd.is q x=true) (g:s.heap.get? a=some o) (hd:IsD knd o kvs) (hs:(a == sysModules)=false) (h1:kvs.map (·.1)=ks.map (·.1)) (h2:VRs α (ks.map (·.2)) (kvs.map (·.2))) (hv:VR α v y) (hz:ks.length≤900)
  (k1:∀ u y',ks.lookup q=some u→VR α u y'→Q y' { s with toks:=s.toks+1 })
  (k2:ks.lookup q=none→∀ h' o',h'.get? a=some o'→IsD knd o' (stored kvs q y)→Heap.SameBut a s.heap h'→Q y { s with heap:=h',toks:=s.toks+1 }):wpAny (model pw w) A (call (.builtin "dict.setdefault") [.ref a,x,y]) Q Ef s:=by
 have hD:=hd.at g
 have hl:kvs.length≤sizeLine:=size_line (by
  have:=congrArg List.length h1
  simp at this;lia)
 have hva:=valueAt_rel h1 h2 q
 refine call_meetsIn F.slot_dict_setdefault hD.mapOf.typeIs F.entry_dict_setdefault (F.args_dict_setdefault_3 _ _ _) (kt_meets_setdefault knd a hx hs y) ⟨_,hD,hl,fun y' hy'=>?_,fun hn h' hD' hs'=>?_⟩
 ·cases e:ks.lookup q with
  | none=>rw [hva.2 e]at hy';cases hy'
  | some u=>
   refine byG fun G3 k3=>?_
   refine xE12 (hva.1 u e) fun z hz' r=>?_
   rw [hz']at hy';cases hy'
   refine k3 ?_
   exact k1 u _ e r
 ·cases e:ks.lookup q with
  | some u=>
   refine xE12 (hva.1 u e) fun z hz' r=>?_
   rw [hz']at hn;cases hn
  | none=>
   refine xE12 (IsD.of hD') fun o' g' hd'=>?_
   exact k2 e h' o' g' hd' hs'
end
theorem isStr_self (q:Str) (t:Tok):(strKind pw w).is q (.str q t)=true:=isStrOf_self ..
noncomputable def MethOk (w:World) (A:Around) (id:String) (l:Nat) (vs:List AV) (σ:Sto) (v:AV) (σ':Sto):Prop:=
 ∀ (B:Base) (α:List Addr) (os:OsState) (s:Shared) (a:Addr) (xs:List Value) (Q:Value→Shared→Prop),Gd w B→StS w B α σ os s→VR α (.loc l) (.ref a)→VRs α vs xs→Post w B α σ' os v Q→wpAny (model pw w) A (call (.builtin id) (.ref a :: xs)) Q Ef s
theorem get_meth {l:Nat}{q:Str}{dv:AV}{ks:List (Str×AV)} (he:σ[l]? = some (.dict (ks.map fun p=>(.str p.1,p.2)))):MethOk w A "dict.get" l [.str q,dv] σ ((ks.lookup q).getD dv) σ:=by
 intro B α os s a xs Q G S hl rs k
 refine xE13 (S.at hl he) fun o1 g1 r1 hm=>?_
 refine xE13 (r1.1 ks rfl) fun kvs hd h1 h2=>?_
 cases rs with
 | cons rk rs=>cases rs with
  | cons rd rs=>
   cases rs
   refine VR.strE rk fun t=>?_
   exact getDef_ok (isStr_self ..) g1 hd (S.rel.not_sys hm) h1 h2 rd fun y' s' r' hs'=>hs' ▸ k α _ _ (pre_refl α) (S.toks _) r'
theorem setdef_meth {l:Nat}{q:Str}{dv:AV}{ks:List (Str×AV)} (he:σ[l]? = some (.dict (ks.map fun p=>(.str p.1,p.2)))) (hz:ks.length≤900) :
  MethOk w A "dict.setdefault" l [.str q,dv] σ ((ks.lookup q).getD dv) (match ks.lookup q with | some _=>σ | none=>σ.set l (.dict (dput (.str q) dv (ks.map fun p=>(.str p.1,p.2))))):=by
 intro B α os s a xs Q G S hl rs k
 refine xE13 (S.at hl he) fun o1 g1 r1 hm=>?_
 refine xE13 (r1.1 ks rfl) fun kvs hd h1 h2=>?_
 cases rs with
 | cons rk rs=>cases rs with
  | cons rd rs=>
   cases rs
   refine VR.strE rk fun t=>?_
   refine setDef_ok (isStr_self ..) g1 hd (S.rel.not_sys hm) h1 h2 rd hz (fun u y' hu ru=>?_) (fun hu h' o' g' hd' hs'=>?_)
   ·rw [hu]at k
    exact k α _ _ (pre_refl α) (S.toks _) ru
   ·rw [hu]at k
    have hnd:(ks.map (·.1)).Nodup:=by obtain⟨_,es,ep,_,_,_,n⟩:=hd;rw [←h1];exact n
    refine xE02 (stored_rel h1 h2 q rd) fun q1 q2=>?_
    refine k α _ _ (pre_refl α) (S.set hm (fun es h=>by rw [he]at h;cases h) hs' g' ?_) rd
    rw [dput_map str_inj hnd]
    refine xE12 (sto_mem ks q dv) fun p hp hpe=>?_
    exact⟨DR.of str_inj hd' q1 q2,DR.vac ⟨_,List.mem_map.mpr ⟨p,hp,rfl⟩,fun _=>str_ne_int _ _⟩⟩
theorem keys_meth {l:Nat}{es:List (AV×AV)}{a:Addr}{Q:Value→Shared→Prop} (he:σ[l]? = some (.dict es)) (hz:strK es=true)
  (S:StS w B α σ os s) (hl:VR α (.loc l) (.ref a)) (k:Post w B α (σ++[.keys l]) os (.loc σ.length) Q):wpAny (model pw w) A (call (.builtin "dict.keys") [.ref a]) Q Ef s:=by
 refine byG fun G6 k6=>?_
 refine xE13 (S.at hl he) fun o1 g1 r1 hm=>?_
 refine xE11 (strK_of hz) fun ks q3_=>?_
 subst q3_
 refine xE13 (r1.1 ks rfl) fun kvs hd h1 h2=>?_
 have hsys:=S.rel.not_sys hm
 have hp:α <+: α++[s.heap.objs.size]:=⟨_,rfl⟩
 refine xE02 (S.alloc (o:={ cls:=.type "dict_keys",data:=.fields #[.ref a] }) (ao:=.keys l) (t:=s.toks) rfl ⟨a,getElem?_pre hp hm,rfl,rfl⟩) fun S' r'=>?_
 refine k6 ?_
 exact call_meetsIn F.slot_dict_keys (hd.at g1).mapOf.typeIs F.entry_dict_keys (F.args_dict_keys_1 _) (kdl_meets_keys (strKind pw w) a hsys) ⟨⟨kvs,hd.at g1⟩,k _ _ _ hp S' r'⟩
theorem append_meth {l:Nat}{xs:List AV}{v:AV}{y:Value}{a:Addr}{Q:Value→Shared→Prop} (he:σ[l]? = some (.list xs)) (hz:xs.length<900) (S:StS w B α σ os s) (hl:VR α (.loc l) (.ref a)) (rv:VR α v y)
  (k:Post w B α (σ.set l (.list (xs++[v]))) os .none Q):wpAny (model pw w) A (call (.builtin "list.append") [.ref a,y]) Q Ef s:=by
 refine byG fun GG8 kk8=>?_
 refine xE13 (S.at hl he) fun o1 g1 q4_ hm=>?_
 refine xE22 q4_ fun it n q12_ r1=>?_
 subst q12_
 refine kk8 ?_
 have z:=r1.length
 simp only [Array.length_toList]at z
 refine wpAny_list_append_plain (items:=it) ⟨n,g1⟩ (fun h' hl' hs'=>?_) (size_line (by lia))
 refine xE11 hl' fun n' g'=>?_
 refine k α _ _ (pre_refl α) (S.set (ao:=.list (xs++[v])) hm (fun es h=>by rw [he]at h;cases h) hs' g' ⟨_,n',rfl,?_⟩) .none
 rw [Array.toList_push]
 exact r1.append (.cons rv .nil)
theorem VRs.dropLast {xs:List AV}{ys:List Value} (r:VRs α xs ys):VRs α xs.dropLast ys.dropLast:=by
 induction r with
 | nil=>exact .nil
 | cons a b ih=>cases b with
  | nil=>exact .nil
  | cons c d=>exact .cons a ih
theorem VRs.last {xs:List AV}{ys:List Value} (r:VRs α xs ys){v:AV} (h:xs.getLast? = some v):∃ y,ys.getLast? = some y∧VR α v y:=by
 rw [List.getLast?_eq_getElem?]at h ⊢
 have:=r.length
 rw [←this]
 exact r.get h
theorem pop_meth {l:Nat}{xs:List AV}{v:AV}{a:Addr}{Q:Value→Shared→Prop} (he:σ[l]? = some (.list xs)) (hz:xs.length≤900) (hv:xs.getLast? = some v) (S:StS w B α σ os s) (hl:VR α (.loc l) (.ref a))
  (k:Post w B α (σ.set l (.list xs.dropLast)) os v Q):wpAny (model pw w) A (call (.builtin "list.pop") [.ref a]) Q Ef s:=by
 refine listAt (S.at hl he) fun it n g1 r1 z hm=>?_
 refine xE12 (r1.last hv) fun y hy ry=>?_
 rw [List.getLast?_eq_getElem?,Array.length_toList,Array.getElem?_toList]at hy
 have hpos:0<it.size:=by
  rcases Nat.eq_zero_or_pos it.size with q | q
  ·rw [Array.getElem?_eq_none (by lia)]at hy;cases hy
  ·exact q
 have hT:s.TypeIs (.ref a) "list":=⟨_,g1,rfl⟩
 refine call_meets PySem.F.slot_list_pop hT PySem.F.entry_list_pop (PySem.F.args_list_pop_1 _) (PySem.MeetsSeq.list_pop_last a it n y hy (size_line (by lia))) ⟨g1,?_⟩
 refine xE11 (mapSeq_L it n (fun xs=>xs.eraseIdxIfInBounds (it.size - 1))) fun n' hn'=>?_
 have hg:=Heap.get?_update_self (f:=Obj.mapSeq (fun xs=>xs.eraseIdxIfInBounds (it.size - 1))) g1 (by rw [hn'];rfl)
 rw [hn']at hg
 refine k α _ _ (pre_refl α) (S.set (ao:=.list xs.dropLast) hm (fun es h=>by rw [he]at h;cases h) (Heap.SameBut.update ..) hg ⟨_,n',rfl,?_⟩) ry
 have:(it.eraseIdxIfInBounds (it.size - 1)).toList=it.toList.dropLast:=by
  unfold Array.eraseIdxIfInBounds
  rw [dif_pos (by lia),Array.toList_eraseIdx,←Array.length_toList]
  exact List.eraseIdx_length_sub_one
 rw [this]
 exact r1.dropLast
theorem starts_meth {x y:Str}{t u:Tok}{Q:Value→Shared→Prop} (S:StS w B α σ os s) (k:Post w B α σ os (.bool (Txt.startswith x y)) Q):wpAny (model pw w) A (call (.builtin "str.startswith") [.str x t,.str y u]) Q Ef s:=
 SC.startswith (k α _ s (pre_refl α) S (.bool _))
theorem len_ok {l:Nat}{xs:List AV} (he:σ[l]? = some (.list xs)) (hz:xs.length≤900):CallOk w A (.cst (.builtin "len")) [.loc l] σ (.int xs.length) σ:=by
 intro B α os s gv ys Q G S rg rs k
 refine VR.cstE rg ?_
 cases rs with
 | cons ra rs=>cases rs with
  | nil=>
   refine byG fun GG13 kk13=>?_
   refine xE12 ra.ref_of fun a q6_ ra=>?_
   subst q6_
   refine listAt (S.at ra he) fun it n g1 r1 _ hm=>?_
   refine kk13 ?_
   have z:=r1.length
   simp only [Array.length_toList]at z
   refine call_len_list (items:=it) ⟨_,g1,rfl,n,rfl⟩ (by lia) ?_
   rw [←z]
   exact k α _ _ (pre_refl α) (S.toks _) (.int _ _)
theorem len_str_ok {x:Str} (hz:x.length≤900):CallOk w A (.cst (.builtin "len")) [.str x] σ (.int x.length) σ:=by
 intro B α os s gv ys Q G S rg rs k
 refine VR.cstE rg ?_
 cases rs with
 | cons ra rs=>cases rs with
  | nil=>
   refine VR.strE ra fun t=>?_
   exact len_str (by lia) (k α _ _ (pre_refl α) (S.toks _) (.int _ _))
theorem range1_ok {b:Int}:CallOk w A (.cst (.type "range")) [.int b] σ (.loc σ.length) (σ++[.range 0 b]):=by
 intro B α os s gv ys Q G S rg rs k
 refine VR.cstE rg ?_
 cases rs with
 | cons ra rs=>cases rs with
  | nil=>
   refine VR.intE ra fun t=>?_
   have hp:α <+: α++[s.heap.objs.size]:=⟨_,rfl⟩
   refine xE02 (S.alloc (o:={ cls:=.type "range",data:=.fields #[.int 0 s.toks,.int b t,.int 1 (s.toks+1)] }) (ao:=.range 0 b) (t:=s.toks+1+1) rfl ⟨_,_,_,rfl⟩) fun S' r'=>?_
   exact call_range_1 (k _ _ _ hp S' r')
theorem range2_ok {a b:Int}:CallOk w A (.cst (.type "range")) [.int a,.int b] σ (.loc σ.length) (σ++[.range a b]):=by
 intro B α os s gv ys Q G S rg rs k
 refine VR.cstE rg ?_
 cases rs with
 | cons ra rs=>cases rs with
  | cons rb rs=>cases rs with
   | nil=>
    refine VR.intE ra fun t=>?_
    refine VR.intE rb fun u=>?_
    have hp:α <+: α++[s.heap.objs.size]:=⟨_,rfl⟩
    refine xE02 (S.alloc (o:={ cls:=.type "range",data:=.fields #[.int a t,.int b u,.int 1 s.toks] }) (ao:=.range a b) (t:=s.toks+1) rfl ⟨_,_,_,rfl⟩) fun S' r'=>?_
    exact call_range_2 (k _ _ _ hp S' r')
end
end Mine
end
section
open PySem PySem.W PyProof.Rows PySem.Calls PySem.SeqAt
set_option maxRecDepth 100000
set_option linter.unusedVariables false
set_option autoImplicit false
namespace Mine
structure MakeAt (P:Params) (C fI:Addr):Prop where
 makes:makesIn (KK P) C=true
 init:findIn (KK P) (.ref C) "__init__"=some (some (.ref fI))
 fn:typeIn (KK P) (.ref fI)=some (.type "function")
theorem make_242 (P:Params):MakeAt P 242 160:=⟨by kernel_rfl,by kernel_rfl,by kernel_rfl⟩
theorem make_311 (P:Params):MakeAt P 311 301:=⟨by kernel_rfl,by kernel_rfl,by kernel_rfl⟩
theorem weight_cls (C:Addr) (args:List Value):(Code.builtin "type.__call__" ⟨.ref C :: args,[]⟩).weight=1:=by kernel_rfl
theorem units_cls (C:Addr) (args:List Value):(Code.builtin "type.__call__" ⟨.ref C :: args,[]⟩).cUnits=1:=by kernel_rfl
theorem Room.le {A A':Around}{n m:Nat} (h:Room A n) (h1:A'.handled=A.handled) (h2:A'.depth≤A.depth+4) (h3:A'.units≤A.units+20) (hm:m+1≤n):Room A' m:=
 ⟨h1.trans h.handled,by have:=h.depth;lia,by have:=h.units;lia⟩
theorem Room.cls {A:Around}{n:Nat} (h:Room A (n+1)) (C:Addr) (args:List Value):Room (A.under (.builtin "type.__call__" ⟨.ref C :: args,[]⟩)) n:=
 h.le rfl (by show A.depth+_≤_;rw [weight_cls];lia) (by show A.units+_≤_;rw [units_cls];lia) (Nat.le_refl _)
structure MethAt (P:Params) (C:Addr) (n:Str) (a:Addr):Prop where
 find:findIn (KK P) (.ref C) n=some (some (.ref a))
 fn:typeIn (KK P) (.ref a)=some (.type "function")
theorem meth_at (P:Params){C a:Addr}{n:Str} (h:((mtds.lookup C).bind fun fns=>fns.lookup n)=some a):(C=242∨C=311)∧MethAt P C n a:=by
 cases e:mtds.lookup C with
 | none=>rw [e]at h;cases h
 | some fns=>
  rw [e]at h
  have h:fns.lookup n=some a:=h
  have hm:=lookup_mem' h
  have hc:=lookup_mem' e
  simp only [mtds,List.mem_cons,Prod.mk.injEq,List.not_mem_nil,or_false]at hc
  rcases hc with ⟨rfl,rfl⟩ | ⟨rfl,rfl⟩
  ·refine⟨.inl rfl,?_⟩
   simp only [List.mem_cons,Prod.mk.injEq,List.not_mem_nil,or_false]at hm
   rcases hm with ⟨rfl,rfl⟩ | ⟨rfl,rfl⟩ | ⟨rfl,rfl⟩ | ⟨rfl,rfl⟩ | ⟨rfl,rfl⟩ | ⟨rfl,rfl⟩ | ⟨rfl,rfl⟩ <;> exact⟨by kernel_rfl,by kernel_rfl⟩
  ·refine⟨.inr rfl,?_⟩
   simp only [List.mem_cons,Prod.mk.injEq,List.not_mem_nil,or_false]at hm
   rcases hm with ⟨rfl,rfl⟩ | ⟨rfl,rfl⟩ <;> exact⟨by kernel_rfl,by kernel_rfl⟩
section
variable {w:World}{A:Around}{B B':Base}{env:Env}{f:Nat→Option Nat}{α α':List Addr}{ρ ρ' ρ₁ ρ₂:Rho}{σ σ' σ₁ σ₂ σ₃ σ₄:Sto}{os:OsState}{s s':Shared}{I:Addr}{h h':Heap}{o:Obj}
theorem VRs.cons' {v:AV}{x:Value}{vs:List AV}{xs:List Value} (a:VR α v x) (b:VRs α vs xs):VRs α (v :: vs) (x :: xs):=.cons a b
theorem cls_ok {C init:Addr} (M:∀ P,MakeAt P C init){vs:List AV} (hI:∀ xs:List Value,CodeOk w (A.under (.builtin "type.__call__" ⟨.ref C :: xs,[]⟩)) (.cst (.ref init)) (.loc (σ.length+1) :: vs) (σ++[.fields [],.inst C σ.length]) .none σ'):CallOk w A (.cst (.ref C)) vs σ (.loc (σ.length+1)) σ':=by
 intro B α os s gv xs Q G S rg rs k
 refine VR.cstE rg ?_
 have X:=G.ks S
 obtain⟨hh,g,d,t,os'⟩:=s
 refine xE02 (S.alloc (o:=emptyDict) (ao:=.fields []) (t:=t) rfl ⟨[],0,rfl,.nil⟩) fun S1 r1=>?_
 have hp1:α <+: α++[hh.objs.size]:=⟨_,rfl⟩
 have hz:(hh.push emptyDict).objs.size=hh.objs.size+1:=Heap.size_push ..
 refine xE02 (S1.alloc (o:=instObj C hh.objs.size) (ao:=.inst C σ.length) (t:=t) rfl ⟨hh.objs.size,by
  cases r1 with
  | loc h=>exact getElem?_pre ⟨_,rfl⟩ h,rfl⟩) fun S2 r2=>?_
 have hp2:α++[hh.objs.size] <+: α++[hh.objs.size]++[(hh.push emptyDict).objs.size]:=⟨_,rfl⟩
 have hl:(σ++[AO.fields []]).length=σ.length+1:=by simp
 rw [hl]at r2
 have hs:σ++[AO.fields []]++[AO.inst C σ.length]=σ++[.fields [],.inst C σ.length]:=by simp
 rw [hs]at S2
 have r2':VR (α++[hh.objs.size]++[(hh.push emptyDict).objs.size]) (.loc (σ.length+1)) (.ref (hh.objs.size+1)):=by rw [←hz];exact r2
 refine wpAny_call (make_core (makes_of X (M _).makes) (looks_findIn X (M _).init) (fun self=>bind_fn X self (M _).fn) (.inl rfl) ?_)
 refine hI xs B _ os _ (.ref init) (.ref (hh.objs.size+1) :: xs) _ G S2 (.cst _) (.cons r2' (rs.mono (hp1.trans hp2))) fun α' x s' p S' r=>?_
 refine VR.noneE r ?_
 exact⟨rfl,k α' _ s' ((hp1.trans hp2).trans p) S' (r2'.mono p)⟩
theorem starEach_form {es:List Expr}{pos:Pos} (hn:es.all notStar=true) (hl:es.length<20):methodCallForm es.length (backTo pos (starEach es env)) (backToKw pos (keywordEach [] env))=true:=by
 have h1:(backTo pos (starEach es env)).all (!·.1)=true:=by
  clear hl
  induction es with
  | nil=>rfl
  | cons e es ih=>
   rw [List.all_cons,Bool.and_eq_true]at hn
   rw [starEach_cons hn.1]
   exact ih hn.2
 unfold methodCallForm
 rw [h1]
 have h2:(backToKw pos (keywordEach [] env))=[]:=rfl
 rw [h2]
 have:es.length<30:=by lia
 simp [this]
theorem ev_meth {o:Expr}{n:Str}{apos pos:Pos}{args:List Expr}{a v:AV}{vs:List AV} (hb:baseOk o=true) (hline:(apos.endLine == pos.line)=true) (hn:args.all notStar=true) (hl:args.length<20) (G:Gd w B)
  (h1:EvOk w A B env f (eval o env) ρ σ a σ₁) (h2:EvsOk w A B env f args ρ σ₁ vs σ₂) (h0:args=[]→vs=[]∧σ₂=σ₁)
  (hm:∀ (α:List Addr) (s:Shared) (x:Value),St w B env f α ρ σ₁ s.os s→VR α a x→∃ fv first,(∀ (pl:Sem Bool) (Q:Value×List Value→Shared→Prop),Q (fv,first) s→wpAny (model pw w) A (getMethod x n pl) Q Ef s)∧
   ∀ (α':List Addr) (xs:List Value) (s':Shared) (Q:Value→Shared→Prop),α <+: α'→St w B env f α' ρ σ₂ s'.os s'→s'.os=s.os→VRs α' vs xs→(∀ α'' y s'',α' <+: α''→St w B env f α'' ρ σ₃ s.os s''→VR α'' v y→Q y s'')→
    Keeps (model pw w) fv s'.heap∧wpAny (model pw w) A (call fv (first++xs)) Q Ef s') :
  EvOk w A B env f (eval (.Call (.Attribute o n apos) args [] pos) env) ρ σ v σ₃:=by
 intro α os s Q S k
 rw [arm_eval_Call,base_eq hb]
 refine wpAny_bind (h1 α os s _ S fun α₁ x s₁ p1 S1 r1=>wpAny_bind (wpAny_standAt ?_))
 obtain rfl:=S1.os
 refine xE22 (hm α₁ s₁ x S1 r1) fun fv first hg hc=>?_
 have hpos:methodCallPos true o env apos pos=pure pos:=by unfold methodCallPos;simp [hline]
 unfold methodCall
 rw [show args.length+([]:List Keyword).length=args.length from rfl,starEach_form hn hl]
 refine wpAny_bind (wpAny_holding (hg _ _ ?_))
 refine wpAny_bind (wpAny_of_eq hpos ?_)
 refine with_ok hn S1 h2 h0 fun α₂ xs s₂ p2 S2 r2=>?_
 exact hc α₂ xs s₂ Q p2 ⟨S2.rel,S2.gens,rfl⟩ S2.os r2 fun α₃ y s₃ p3 S3 r3=>k α₃ y s₃ ((p1.trans p2).trans p3) S3 r3
theorem keeps_kk (G:Gd w B) (S:St w B env f α ρ σ os s){fv:Value} (hk:keepIn (KK w.params) fv=true):Keeps (model pw w) fv s.heap:=keeps_K hk _ (G.kk S)
theorem keep_fn (P:Params){a:Addr}{F:Fun}{fd:FuncData}{bd:List Stmt}{ns:List Str}{ds:List Value}{da:List AV} (X:FunOk P a F fd bd ns ds da):keepIn (KK P) (.ref a)=true:=by
 refine xE12 X.there fun o ho hd=>?_
 obtain⟨c,dd,dt,sl⟩:=o
 have hd:dt=.func fd:=hd
 subst hd
 unfold keepIn
 simp only [ho]
theorem keeps_machine {M:Model}{h:Heap}{id:String}:Keeps M (.builtin id) h:=⟨.machine,.inr (.inl rfl),Looks.of_pure rfl⟩
theorem keeps_type {M:Model}{h:Heap}{id:String}:Keeps M (.type id) h:=⟨.machine,.inr (.inl rfl),Looks.of_pure rfl⟩
theorem meth_inst {o:Expr}{n:Str}{apos pos:Pos}{args:List Expr}{l d:Nat}{c a:Addr}{fs:List (Str×AV)}{v:AV}{vs:List AV} (hb:baseOk o=true) (hline:(apos.endLine == pos.line)=true) (hn:args.all notStar=true) (hl:args.length<20) (G:Gd w B)
  (h1:EvOk w A B env f (eval o env) ρ σ (.loc l) σ₁) (h2:EvsOk w A B env f args ρ σ₁ vs σ₂) (h0:args=[]→vs=[]∧σ₂=σ₁) (e1:σ₁[l]? = some (.inst c d)) (e2:σ₁[d]? = some (.fields fs)) (e3:fs.lookup n=none)
  (e4:((mtds.lookup c).bind fun fns=>fns.lookup n)=some a) (hk:keepIn (KK w.params) (.ref a)=true) (C:CallOk w A (.cst (.ref a)) (.loc l :: vs) σ₂ v σ₃) :
  EvOk w A B env f (eval (.Call (.Attribute o n apos) args [] pos) env) ρ σ v σ₃:=by
 refine ev_meth hb hline hn hl G h1 h2 h0 fun α s x S r=>?_
 refine VR.refE r fun m r=>?_
 refine xE35 (inst_at S r e1 e2) fun dx es n' g1 g2 g3 g4 I=>?_
 refine xE02 (meth_at w.params e4) fun hc MA=>?_
 have CA:=cls_at w.params hc
 refine⟨.ref a,[.ref m],fun pl Q hQ=>method_fn (G.kk S) I (plainGet_of CA.get).1 (plainGet_of CA.get).2 MA.find MA.fn ?_ hQ,fun α' xs s' Q p S' ho rx k=>⟨keeps_kk G S' hk,?_⟩⟩
 ·show(lookIn n (dictOf es n')).map (·.isSome)=some false
  rw [lookIn_dict,(g4.get n).2 e3];rfl
 ·exact call_in C G (os:=s'.os) S' (.cst _) (.cons (r.mono p) rx) fun α'' y s'' p' S'' r''=>k α'' y s'' p' (ho ▸ S'') r''
end
end Mine
end
section
open PySem PySem.W PyProof.Rows PySem.Calls PySem.SeqAt
set_option maxRecDepth 100000
set_option linter.unusedVariables false
set_option autoImplicit false
namespace Mine
theorem kk_tnew (P:Params):findCls (KK P) (.type "tuple") (.type "type") "__new__"=some (.val (.builtin "tuple.__new__")):=by kernel_rfl
theorem tup_stub:opaqueClassAbove (.type "tuple")=pure none:=by unfold opaqueClassAbove;dsimp only;rw [show Manifest.isStub "tuple"=false by decide +kernel];rfl
section
variable {w:World}{A:Around}{B B':Base}{env:Env}{f:Nat→Option Nat}{α α':List Addr}{ρ ρ' ρ₁ ρ₂:Rho}{σ σ' σ₁ σ₂ σ₃ σ₄:Sto}{os:OsState}{s s':Shared}{I:Addr}{h h':Heap}{o:Obj}{P:Params}
theorem getm_new {E:Value→Shared→Prop}{pl:Sem Bool}{Q:Value×List Value→Shared→Prop} (X:(KK P).In s.heap) (hq:Q (.builtin "tuple.__new__",[]) { s with toks:=s.toks+1 }):wpAny (model pw w) A (getMethod (.type "tuple") "__new__" pl) Q E s:=by
 have ht:typeOf (.type "tuple")=pure (.type "type"):=by first | rfl | kernel_rfl
 have L0:Looks (model pw w) s.heap (typeOf (.type "tuple")) (.type "type"):=Looks.of_pure ht
 have hg:findIn (KK P) (.type "type") "__getattribute__"=some (some (.builtin "type.__getattribute__")):=type_tga
 unfold getMethod specialOf
 refine wpAny_bind (wpAny_bind (L0.here ((looks_findIn X hg).here ?_)))
 dsimp only
 rw [if_pos canon_tga]
 refine wpAny_bind (wpAny_mono (Q:=fun v=>Q (v,[])) (E:=E) ?_ (fun _ _ z=>wpAny_pure z) fun _ _ z=>z)
 refine cls_open X (Looks.of_pure tup_stub) L0 hg (looks_hook X (r:=none) (by rfl)) (by show subIn (KK P) _ _=_;rfl) (kk_tnew P) ?_
 exact wpAny_pure (handed_on (by rfl) hq)
theorem chk_new (P:Params) (S:Setting) (a:Value):peek (KK P) S (checkBuiltinCall "tuple.__new__" ⟨[.ref 135,a],[]⟩)=some ():=by kernel_rfl
theorem pk_isType (P:Params) (S:Setting):peek (KK P) S (isType (.ref 135))=some true:=by kernel_rfl
theorem pk_sub (P:Params) (S:Setting):peek (KK P) S (isSubtype (.ref 135) (.type "tuple"))=some true:=by kernel_rfl
theorem pk_made (P:Params) (S:Setting):peek (KK P) S (Bind.madeHere "tuple.__new__" (.ref 135))=some ():=by kernel_rfl
theorem pk_init (P:Params) (S:Setting):peek (KK P) S (typeLookup (.ref 135) "__init__")=some (some (.builtin "object.__init__")):=by kernel_rfl
theorem pk_del (P:Params) (S:Setting):peek (KK P) S (classHasDel 135)=some false:=by kernel_rfl
theorem call_tnew {t:Addr}{it:Array Value}{n:Nat}{Q:Value→Shared→Prop} (X:(KK P).In s.heap) (ht:s.heap.get? t=some { cls:=.type "tuple",dict:=none,data:=.seq it n,slots:=#[] }) (hz:it.size≤sizeLine)
  (hq:∀ h':Heap,(∀ b o,s.heap.get? b=some o→h'.get? b=some o)→Q (.ref (h'.objs.size+1)) { s with heap:=(h'.push emptyDict).push (MObj it 0 (some h'.objs.size)) }) :
  wpAny (model pw w) A (call (.builtin "tuple.__new__") [.ref 135,.ref t]) Q Ef s:=by
 refine wpAny_call (codeAny_call_builtin_code (Code.quiet_builtin _ (by decide +kernel)) ((Looks.of_peek (M:=model pw w) X (chk_new P _ _)).here (codeAny_builtin F.entry_tuple_new ?_)))
 have l1:Looks (model pw w) s.heap (isType (.ref 135)) true:=Looks.of_peek X (pk_isType P _)
 have l2:Looks (model pw w) s.heap (isSubtype (.ref 135) (.type "tuple")) true:=Looks.of_peek X (pk_sub P _)
 have l3:Looks (model pw w) s.heap (Bind.madeHere "tuple.__new__" (.ref 135)) ():=Looks.of_peek X (pk_made P _)
 have l4:Looks (model pw w) s.heap (typeLookup (.ref 135) "__init__") (some (.builtin "object.__init__")):=Looks.of_peek X (pk_init P _)
 unfold Builtin.«tuple.__new__»
 obtain⟨hp,g,d,tk,os⟩:=s
 generalize hC:collect=C
 repeat (first | simp only [Bool.not_true,Bool.false_eq_true,if_false] | lk)
 subst hC
 refine wpAny_collect_seq t (T:="tuple") (.inr rfl) ht rfl rfl (fun h' hk=>?_) hz
 refine wpAny_bind (wpAny_pure ?_)
 refine wpAny_bind (wpAny_alloc ?_)
 have hc:((KK P).lookup 135).isSome=true:=by kernel_rfl
 refine wpAny_bind ?_
 unfold newObj
 dsimp only
 rw [if_neg (by simpa using hz)]
 unfold newObjAsIs
 refine wpAny_bind (wpAny_alloc ?_)
 dsimp only
 have hk2:∀ b o,hp.get? b=some o→((h'.push emptyDict).push { cls:=.ref 135,dict:=some h'.objs.size,data:=.seq it.toList.toArray }).get? b=some o:=fun b o e=>Heap.get?_push_of_some _ (Heap.get?_push_of_some _ (hk b o e))
 refine wpAny_bind ((Looks.of_peek (M:=model pw w) (X.keeps hk2) (pk_del P _)).here ?_)
 simp only [Bool.false_eq_true,if_false]
 refine wpAny_pure (wpAny_pure ?_)
 have e:it.toList.toArray=it:=by simp
 have:=hq h' hk
 rw [Heap.size_push,e]
 exact this
theorem kk_mcall (P:Params):specialIn (KK P) (.ref 135) "__call__"=some (some (.builtin "type.__call__")):=by kernel_rfl
theorem pk_mro (P:Params) (S:Setting):peek (KK P) S (mroOf (.ref 135))=some [.ref 135,.type "tuple",.type "object"]:=by kernel_rfl
theorem pk_madeBy (P:Params) (S:Setting):peek (KK P) S (Bind.madeBy (.ref 135))=some none:=by kernel_rfl
theorem kk_mnew (P:Params):findCls (KK P) (.ref 135) (.type "type") "__new__"=some (.get (.builtin "staticmethod.__get__") (.ref 136) .none (.ref 135)):=by kernel_rfl
theorem kk_msm (P:Params):recIn (KK P) 136 "staticmethod"=some [.ref 82]:=by kernel_rfl
theorem kk_mreads (P:Params):readsIn (KK P) 135 (.type "type")=true:=by kernel_rfl
theorem kk_minst (P:Params):instIn (KK P) (.ref 135) (.type "type")=some true:=by kernel_rfl
theorem pk_self (P:Params) (S:Setting):peek (KK P) S (isSubtype (.ref 135) (.ref 135))=some true:=by kernel_rfl
theorem pk_obj (P:Params) (S:Setting):peek (KK P) S (isSubtype (.ref 135) (.type "object"))=some true:=by kernel_rfl
theorem match_core {rest:List Value}{R:Result→Shared→Prop}{h:Heap}{g:Array GenState}{d:Drawn}{t:Nat}{os:OsState} (X:(KK P).In h) (hrest:rest.isEmpty=false)
  (hq:codeAny (model pw w) (A.under (.builtin "type.__call__" ⟨.ref 135 :: rest,[]⟩)) (.call (.ref 82) ⟨.ref 135 :: rest,[]⟩) (fun r s'=>∃ l it n dd,r=.ok (.ret (.ref l))∧s'.heap.get? l=some (MObj it n dd)∧(KK P).In s'.heap∧R (.ok (.ret (.ref l))) s') ⟨h,g,d,t+1,os⟩) :
  codeAny (model pw w) A (.call (.ref 135) ⟨rest,[]⟩) R ⟨h,g,d,t,os⟩:=by
 have hC:h.get? 135=some (o135 P):=X _ _ (by kernel_rfl)
 have call:Looks (model pw w) h (specialOf (.ref 135) "__call__") (some (.builtin "type.__call__")):=looks_specialIn X (kk_mcall P)
 have typ:Looks (model pw w) h (isInstance (.ref 135) (.type "type")) true:=looks_instIn X (kk_minst P)
 refine codeAny_of_tree ?_
 show wpAny _ _ (callAny (.ref 135) _) _ _ _
 refine nd_load hC ?_
 show wpAny _ _ (callAny.viaDunder (.ref 135) _) _ _ _
 unfold callAny.viaDunder
 refine wpAny_bind (call.at ?_)
 dsimp only
 rw [tc_bind]
 refine wpAny_bind (wpAny_pure (wpAny_bind (wpAny_pure ?_)))
 refine wpAny_pure (a:=Fin.again (.call (.builtin "type.__call__") ⟨.ref 135 :: rest,[]⟩)) (And.intro rfl ?_)
 refine codeAny_call_builtin_at (Code.quiet_builtin _ (by decide +kernel)) entry_typeCall (check_slot tc_kind tc_split typ (tc_args _ _ _) ?_)
 unfold Builtin.«type.__call__»
 have hm:Looks (model pw w) h (mroOf (.ref 135)) [.ref 135,.type "tuple",.type "object"]:=Looks.of_peek X (pk_mro P _)
 have hmb:Looks (model pw w) h (Bind.madeBy (.ref 135)) none:=Looks.of_peek X (pk_madeBy P _)
 generalize hG:@getAttr=G
 repeat (first | simp only [List.isEmpty_cons,Bool.false_eq_true,if_false] | lk)
 subst hG
 refine cls_bind X (kk_mreads P) (kk_mnew P) (wpAny_call (sm_get (s:=⟨h,g,d,t+1,os⟩) X (kk_msm P) (handed_on rfl ?_)))
 refine wpAny_bind (wpAny_holding (wpAny_call (codeAny_mono hq fun r s' z=>?_)))
 refine byG fun G4 k4=>?_
 obtain⟨l,it,n,dd,rfl,gl,X',z⟩:=z
 refine k4 ?_
 dsimp only
 unfold isInstance
 refine wpAny_bind (wpAny_bind (m_typeOf gl ((Looks.of_peek (M:=model pw w) X' (pk_self P _)).here ?_)))
 simp only [Bool.not_true,Bool.false_eq_true,if_false]
 refine wpAny_bind (wpAny_holding ?_)
 unfold callSpecial?
 refine wpAny_bind ?_
 unfold specialOf
 refine wpAny_bind (m_typeOf gl ((Looks.of_peek (M:=model pw w) X' (pk_init P _)).here ?_))
 dsimp only
 refine wpAny_holding ?_
 rw [oi_bind]
 refine wpAny_bind (wpAny_pure ?_)
 refine wpAny_bind (wpAny_call ?_)
 refine codeAny_call_builtin oi_plain entry_oi (@check_slot (model pw w) _ _ _ "object.__init__" "object" "__init__" (.ref l) rest [] _ oi_kind oi_split ?_ ?_ ?_)
 ·have t1:Looks (model pw w) s'.heap (typeOf (.ref l)) (.ref 135):=(Looks.ld gl).andThen .now
  exact t1.andThen (Looks.of_peek X' (pk_obj P _))
 ·unfold argsOk;kernel_rfl
 ·unfold Builtin.«object.__init__»
  dsimp only
  show wpAny _ _ (if (!rest.isEmpty || !([]:List (Str×Value)).isEmpty)=true then _ else _) _ _ _
  rw [if_pos (by rw [hrest];rfl)]
  refine wpAny_bind (m_typeOf gl ?_)
  refine wpAny_bind ((Looks.of_peek (M:=model pw w) X' (pk_init P _)).here ?_)
  refine wpAny_bind ((Looks.of_peek (M:=model pw w) X' (pk_madeBy P _)).here ?_)
  rw [if_neg (by decide),if_neg (by decide)]
  exact wpAny_pure (wpAny_pure (wpAny_pure z))
end
end Mine
end
section
open PySem PySem.W PyProof.Rows PySem.Calls PySem.SeqAt
set_option maxRecDepth 100000
set_option linter.unusedVariables false
set_option autoImplicit false
namespace Mine
noncomputable abbrev BmObj (id:String) (a:Addr):Obj:={ cls:=.type "builtin_function_or_method",data:=.fields #[.builtin id,.ref a] }
theorem md_get:typeLookup (.type "method_descriptor") "__get__"=pure (some (.builtin "method_descriptor.__get__")):=by rw [typeLookup_type,builtinLookup_eq_fast];kernel_rfl
theorem md_set:typeLookup (.type "method_descriptor") "__set__"=pure none:=by rw [typeLookup_type,builtinLookup_eq_fast];kernel_rfl
theorem md_del:typeLookup (.type "method_descriptor") "__delete__"=pure none:=by rw [typeLookup_type,builtinLookup_eq_fast];kernel_rfl
theorem slot_mdget:Slot "method_descriptor" "__get__" "method_descriptor.__get__":=
 .of (owner:="method_descriptor") (n:="__get__") (by rw [typeLookup_type,builtinLookup_eq_fast];kernel_rfl) (by decide +kernel) (by decide +kernel) (by decide +kernel)
  (by first | exact .inl (by decide +kernel) | exact .inr (by decide +kernel)) (by rw [isSubtype_type];kernel_rfl)
theorem args_mdget (a b c:Value):argsOk "method_descriptor.__get__" ⟨[a,b,c],[]⟩:=by unfold argsOk;kernel_rfl
theorem entry_mdget:entryFor table "method_descriptor.__get__"=some Builtin.«method_descriptor.__get__»:=entryFor_of_tree (by kernel_rfl)
theorem is_md {id:String} (h:typeOf (.builtin id)=pure (.type "method_descriptor")):isInstance (.builtin id) (.type "method_descriptor")=pure true:=by
 unfold isInstance
 rw [h]
 show isSubtype (.type "method_descriptor") (.type "method_descriptor")=_
 rw [isSubtype_type];kernel_rfl
section
variable {w:World}{A:Around}{E:Value→Shared→Prop}{s:Shared}
theorem code_mdget {id T:String}{a:Addr}{R:Result→Shared→Prop} (hn:∃ n,(kfb_private% "nameAndClass") (.builtin id)=pure (n,Value.type T)) (hsub:isSubtype (.type T) (.type T)=pure true) (hid:typeOf (.builtin id)=pure (.type "method_descriptor")) (ht:Manifest.toldItsClass.contains id=false) (hT:s.TypeIs (.ref a) T)
  (hq:R (.ok (.ret (.ref s.heap.objs.size))) { s with heap:=s.heap.push (BmObj id a) }):codeAny (model pw w) A (.call (.builtin "method_descriptor.__get__") ⟨[.builtin id,.ref a,.type T],[]⟩) R s:=by
 refine codeAny_call_builtin slot_mdget.plain entry_mdget (slot_mdget.check _ _ _ _ _ _ _ _ hid (args_mdget _ _ _) ?_)
 unfold Builtin.«method_descriptor.__get__»
 refine xE11 hn fun n hn=>?_
 refine wpAny_bind (wpAny_of_eq (a:=(Value.builtin id,some (Value.ref a),some (Value.type T))) (by rfl) ?_)
 dsimp only
 rw [ht,if_neg (by decide)]
 show wpAny _ _ (_ >>= fun _=>newFields "builtin_function_or_method" [.builtin id,.ref a] >>= fun v=>ret v) _ _ _
 refine wpAny_bind ?_
 show wpAny _ _ ((kfb_private% "nameAndClass") (.builtin id) >>= _) _ _ _
 rw [hn]
 refine wpAny_bind (wpAny_pure ?_)
 refine wpAny_bind (wpAny_isInstance hT hsub ?_)
 simp only [Bool.not_true,Bool.false_eq_true,if_false]
 exact wpAny_pure (wpAny_bind (wpAny_newObj_type (wpAny_pure hq)))
theorem nac_dget:∃ n,(kfb_private% "nameAndClass") (.builtin "dict.get")=pure (n,Value.type "dict"):=⟨"get",by kernel_rfl⟩
theorem nac_scon:∃ n,(kfb_private% "nameAndClass") (.builtin "set.__contains__")=pure (n,Value.type "set"):=⟨"__contains__",by kernel_rfl⟩
theorem sub_dict:isSubtype (.type "dict") (.type "dict")=pure true:=by rw [isSubtype_type];kernel_rfl
theorem sub_set:isSubtype (.type "set") (.type "set")=pure true:=by rw [isSubtype_type];kernel_rfl
set_option maxHeartbeats 4000000 in
theorem ga_dict_get {hp:Heap}{g:Array GenState}{d:Drawn}{tk:Nat}{os:OsState}{a:Addr}{es:Array DictEntry}{k:Nat}{Q:Value→Shared→Prop} (hx:hp.get? a=some { cls:=.type "dict",dict:=none,data:=.dict es k,slots:=#[] })
  (h:Q (.ref hp.objs.size) ⟨hp.push (BmObj "dict.get" a),g,d,tk+1,os⟩):wpAny (model pw w) A (getAttr (.ref a) "get" true) Q Ef ⟨hp,g,d,tk,os⟩:=by
 have hT:∀ tk',(⟨hp,g,d,tk',os⟩:Shared).TypeIs (.ref a) "dict":=fun _=>⟨_,hx,rfl⟩
 have f3:=F.slot_dict_getattribute.lookup
 have f4:=F.slot_dict_getattribute.bind (.ref a)
 have f5:=am_dict_getattr_none
 have f6:=F.slot_dict_get.lookup
 have f7:=F.type_dict_get
 have f8:=md_get
 have f9:=md_set
 have f10:=md_del
 unfold getAttr getAttrBy
 repeat (any_goals (first | assumption | exact hT _ | wp_step))
 refine codeAny_call_builtin F.slot_dict_getattribute.plain am_entry_dict_getattribute (F.slot_dict_getattribute.check _ _ _ _ _ _ _ _ (hT _) (F.args_dict_getattribute_2 _ _) ?_)
 unfold Builtin.«object.__getattribute__»
 repeat (any_goals (first | assumption | exact hT _ | wp_step))
 refine code_mdget nac_dget sub_dict F.type_dict_get (by decide +kernel) (hT _) ?_
 exact wpAny_pure (handed_on rfl h)
set_option maxHeartbeats 4000000 in
theorem ga_set_con {hp:Heap}{g:Array GenState}{d:Drawn}{tk:Nat}{os:OsState}{a:Addr}{es:Array (Int×Value)}{k:Nat}{t:SetTable}{Q:Value→Shared→Prop} (hx:hp.get? a=some { cls:=.type "set",dict:=none,data:=.set es k t,slots:=#[] })
  (h:Q (.ref hp.objs.size) ⟨hp.push (BmObj "set.__contains__" a),g,d,tk+1,os⟩):wpAny (model pw w) A (getAttr (.ref a) "__contains__" true) Q Ef ⟨hp,g,d,tk,os⟩:=by
 have hT:∀ tk',(⟨hp,g,d,tk',os⟩:Shared).TypeIs (.ref a) "set":=fun _=>⟨_,hx,rfl⟩
 have f3:=F.slot_set_getattribute.lookup
 have f4:=F.slot_set_getattribute.bind (.ref a)
 have f6:=F.slot_set_contains.lookup
 have f7:=F.type_set_contains
 have f8:=md_get
 have f9:=md_set
 have f10:=md_del
 unfold getAttr getAttrBy
 repeat (any_goals (first | assumption | exact hT _ | wp_step))
 refine codeAny_call_builtin F.slot_set_getattribute.plain F.entry_set_ga (F.slot_set_getattribute.check _ _ _ _ _ _ _ _ (hT _) (F.args_set_getattribute_2 _ _) ?_)
 unfold Builtin.«object.__getattribute__»
 repeat (any_goals (first | assumption | exact hT _ | wp_step))
 refine code_mdget nac_scon sub_set F.type_set_contains (by decide +kernel) (hT _) ?_
 exact wpAny_pure (handed_on rfl h)
end
end Mine
end
section
open PySem PySem.W PyProof.Rows PySem.Calls PySem.SeqAt
set_option maxRecDepth 100000
set_option linter.unusedVariables false
set_option autoImplicit false
namespace Mine
theorem sig_dget:Manifest.signature? "dict.get"=some ⟨.positional,"dict.get","get",.self,[⟨"key",.posOnly,true⟩,⟨"default",.posOnly,false⟩]⟩:=by kernel_rfl
theorem sig_scon:Manifest.signature? "set.__contains__"=some ⟨.oneArg,"set.__contains__","__contains__",.self,[⟨"object",.posOnly,true⟩]⟩:=by kernel_rfl
theorem sub_dict_mod:isSubtype (.type "dict") (.type "module")=pure false:=by rw [isSubtype_type];kernel_rfl
theorem sub_set_mod:isSubtype (.type "set") (.type "module")=pure false:=by rw [isSubtype_type];kernel_rfl
theorem kd_dget:builtinKind "dict.get"=some .method:=by kernel_rfl
theorem kd_scon:builtinKind "set.__contains__"=some .method:=by kernel_rfl
theorem va_dget:Manifest.varargsMethods.contains "dict.get"=false:=by decide +kernel
theorem va_scon:Manifest.varargsMethods.contains "set.__contains__"=false:=by decide +kernel
theorem ca_dget (a x y:Value):Bind.checkArgs "dict.get" ⟨.positional,s!"{Bind.lastOf "dict"}.{Bind.lastOf "dict.get"}","get",.self,[⟨"key",.posOnly,true⟩,⟨"default",.posOnly,false⟩]⟩ ⟨[a,x,y],[]⟩=pure ():=by kernel_rfl
theorem ca_scon (a x:Value):Bind.checkArgs "set.__contains__" ⟨.oneArg,s!"{Bind.lastOf "set"}.{Bind.lastOf "set.__contains__"}","__contains__",.self,[⟨"object",.posOnly,true⟩]⟩ ⟨[a,x],[]⟩=pure ():=by kernel_rfl
section
variable {w:World}{A:Around}{s:Shared}
theorem chk_dget {M:Model}{E:Value→Shared→Prop}{a:Addr}{x y:Value}{es:Array DictEntry}{k:Nat}{Q:Unit→Shared→Prop} (ho:s.heap.get? a=some { cls:=.type "dict",dict:=none,data:=.dict es k,slots:=#[] }) (h:Q () s):wpAny M A (checkBoundCall "dict.get" ⟨[.ref a,x,y],[]⟩) Q E s:=by
 have hT:s.TypeIs (.ref a) "dict":=⟨_,ho,rfl⟩
 unfold checkBoundCall
 rw [sig_dget,kd_dget]
 dsimp only
 rw [if_neg (by decide)]
 refine wpAny_bind (wpAny_isInstance hT sub_dict_mod ?_)
 rw [va_dget,Bool.false_or,if_neg (by decide)]
 refine wpAny_bind ?_
 unfold isType
 refine wpAny_bind (wpAny_loadPart ho ?_)
 refine wpAny_pure ?_
 simp only [Bool.false_eq_true,if_false]
 refine wpAny_bind (wpAny_typeOf hT ?_)
 dsimp only
 rw [ca_dget]
 exact wpAny_pure h
theorem chk_scon {M:Model}{E:Value→Shared→Prop}{a:Addr}{x:Value}{es:Array (Int×Value)}{k:Nat}{t:SetTable}{Q:Unit→Shared→Prop} (ho:s.heap.get? a=some { cls:=.type "set",dict:=none,data:=.set es k t,slots:=#[] }) (h:Q () s):wpAny M A (checkBoundCall "set.__contains__" ⟨[.ref a,x],[]⟩) Q E s:=by
 have hT:s.TypeIs (.ref a) "set":=⟨_,ho,rfl⟩
 unfold checkBoundCall
 rw [sig_scon,kd_scon]
 dsimp only
 rw [if_neg (by decide)]
 refine wpAny_bind (wpAny_isInstance hT sub_set_mod ?_)
 rw [va_scon,Bool.false_or,if_neg (by decide)]
 refine wpAny_bind ?_
 unfold isType
 refine wpAny_bind (wpAny_loadPart ho ?_)
 refine wpAny_pure ?_
 simp only [Bool.false_eq_true,if_false]
 refine wpAny_bind (wpAny_typeOf hT ?_)
 dsimp only
 rw [ca_scon]
 exact wpAny_pure h
theorem call_bm {id:String}{u a:Addr}{xs:List Value}{f:Builtin}{Q:Value→Shared→Prop} (hu:s.heap.get? u=some (BmObj id a)) (he:entryFor table id=some f) (hq:plainId id=true)
  (hc:∀ {E:Value→Shared→Prop}{Q:Unit→Shared→Prop},Q () s→wpAny (model pw w) A.in1 (checkBoundCall id ⟨.ref a :: xs,[]⟩) Q E s)
  (h:wpAny (model pw w) A.in1 (f ⟨.ref a :: xs,[]⟩) (fun fin s'=>∃ v,fin=.done (.ret v)∧Q v s') Ef s):wpAny (model pw w) A (call (.ref u) xs) Q Ef s:=by
 refine wpAny_call (codeAny_of_tree ?_)
 show wpAny _ A.in1 (callAny (.ref u) ⟨xs,[]⟩) _ _ s
 unfold callAny
 refine wpAny_bind (wpAny_load hu ?_)
 simp only [show(Value.type "builtin_function_or_method" == Value.type "method" || Value.type "builtin_function_or_method" == Value.type "builtin_function_or_method" || Value.type "builtin_function_or_method" == Value.type "method-wrapper")=true by decide,if_true]
 show wpAny _ _ (if (Value.type "builtin_function_or_method" != Value.type "method")=true then _ else _) _ _ _
 rw [if_pos (by decide)]
 refine wpAny_bind (hc ?_)
 refine wpAny_bind (wpAny_pure (wpAny_pure ?_))
 refine And.intro (plainId_quiet hq _) (codeAny_builtin he ?_)
 rw [Around.under_plainId hq]
 refine wpAny_mono h (fun fin s' h'=>?_) fun _ _ x=>x
 refine xE12 h' fun v q1_ hv=>?_
 subst q1_
 exact hv
theorem call_bmM {id:String}{u a:Addr}{xs:List Value}{f:Builtin}{Sp:PySem.Spec}{Q:Value→Shared→Prop} (hu:s.heap.get? u=some (BmObj id a)) (he:entryFor table id=some f) (hq:plainId id=true)
  (hc:∀ {E:Value→Shared→Prop}{Q:Unit→Shared→Prop},Q () s→wpAny (model pw w) A.in1 (checkBoundCall id ⟨.ref a :: xs,[]⟩) Q E s)
  (g:MeetsIn pw w (f ⟨.ref a :: xs,[]⟩) Sp) (h:Sp A (wants Q Ef) s):wpAny (model pw w) A (call (.ref u) xs) Q Ef s:=by
 refine wpAny_call (codeAny_of_tree ?_)
 show wpAny _ A.in1 (callAny (.ref u) ⟨xs,[]⟩) _ _ s
 unfold callAny
 refine wpAny_bind (wpAny_load hu ?_)
 simp only [show(Value.type "builtin_function_or_method" == Value.type "method" || Value.type "builtin_function_or_method" == Value.type "builtin_function_or_method" || Value.type "builtin_function_or_method" == Value.type "method-wrapper")=true by decide,if_true]
 show wpAny _ _ (if (Value.type "builtin_function_or_method" != Value.type "method")=true then _ else _) _ _ _
 rw [if_pos (by decide)]
 refine wpAny_bind (hc ?_)
 refine wpAny_bind (wpAny_pure (wpAny_pure ?_))
 refine And.intro (plainId_quiet hq _) (codeAny_builtin he ?_)
 rw [Around.under_plainId hq]
 exact g A (wants Q Ef) s h
end
section
variable {w:World}{A:Around}{B B':Base}{env:Env}{f:Nat→Option Nat}{α α':List Addr}{ρ ρ' ρ₁ ρ₂:Rho}{σ σ' σ₁ σ₂ σ₃ σ₄:Sto}{os:OsState}{s s':Shared}{I:Addr}{h h':Heap}{o:Obj}
theorem bm_get_ok {l m:Nat}{es:List (AV×AV)}{k d v:AV} (h1:σ[l]? = some (.bm "dict.get" m)) (h2:σ[m]? = some (.dict es)) (hg:goodKey k es=true) (hz:es.length<900) (hv:v=(es.lookup k).getD d) :
  CallOk w A (.loc l) [k,d] σ v σ:=by
 intro B α os s gv xs Q G S rg rs q
 refine xE12 rg.ref_of fun u q2_ rg=>?_
 subst q2_
 refine xE13 (S.at rg h1) fun o1 g1 q3_ _=>?_
 refine xE12 q3_ fun a ha q19_=>?_
 subst q19_
 refine xE13 (S.at (.loc ha) h2) fun o2 g2 r2 hm=>?_
 have hsys:=S.rel.not_sys hm
 cases rs with
 | cons rk rs=>cases rs with
  | cons rd rs=>cases rs with
   | nil=>
    rename_i kx dx
    have go:∀ {K:Type} [DecidableEq K] (knd:KeyKind pw w K) (mk:K→AV) (qk:K) (ks:List (K×AV)) (kvs:List (K×Value)),knd.is qk kx=true→IsD knd o2 kvs→kvs.map (·.1)=ks.map (·.1)→VRs α (ks.map (·.2)) (kvs.map (·.2))→v=(ks.lookup qk).getD d→
      wpAny (model pw w) A (call (.ref u) [kx,dx]) Q Ef s:=by
     intro K _ knd mk qk ks kvs hk hd e1 e2 ev
     have hD:=hd.at g2
     refine byG fun GG3 kk3=>?_
     refine xE02 (id hd) fun c q4_=>?_
     obtain⟨es',ep,hdat,_⟩:=q4_
     obtain⟨oc,od,odt,osl⟩:=o2
     refine xE03 c fun hc1 hc2 hc3=>?_
     refine kk3 ?_
     simp only at hc1 hc2 hc3 hdat
     subst hc1;subst hc2;subst hc3;subst hdat
     refine call_bmM g1 F.entry_dict_get (by decide +kernel) (fun hq=>chk_dget g2 hq) (meets_dict_get_default knd a hk hsys dx) ⟨_,hD.mapOf,?_⟩
     have:=valueAt_rel e1 e2 qk
     subst ev
     cases e:ks.lookup qk with
     | none=>rw [this.2 e];rw [e]at q;exact q α _ _ (pre_refl α) (S.toks _) rd
     | some z=>
      refine xE12 (this.1 z e) fun zv hz' r=>?_
      rw [hz'];rw [e]at q;exact q α _ _ (pre_refl α) (S.toks _) r
    cases k with
    | str p=>
     refine xE11 rk.str_of fun t q5_=>?_
     subst q5_
     refine xE11 (strK_of hg) fun ks q6_=>?_
     subst q6_
     refine xE13 (r2.1 ks rfl) fun kvs hd e1 e2=>?_
     exact go (strKind pw w) .str p ks kvs (isStr_self ..) hd e1 e2 (by rw [hv,lookup_map str_inj])
    | int p=>
     refine xE11 rk.int_of fun t q7_=>?_
     subst q7_
     refine xE11 (intK_of hg) fun ks q8_=>?_
     subst q8_
     refine xE13 (r2.2 ks rfl) fun kvs hd e1 e2=>?_
     exact go (intKind pw w) .int p ks kvs (isInt_self ..) hd e1 e2 (by rw [hv,lookup_map int_inj])
    | _=>exact Bool.noConfusion hg
theorem bm_con_ok {l m:Nat}{ys:List Str}{x:Str} (h1:σ[l]? = some (.bm "set.__contains__" m)) (h2:σ[m]? = some (.set ys)):CallOk w A (.loc l) [.str x] σ (.bool (ys.contains x)) σ:=by
 intro B α os s gv xs Q G S rg rs q
 refine xE12 rg.ref_of fun u q9_ rg=>?_
 subst q9_
 refine xE13 (S.at rg h1) fun o1 g1 q10_ _=>?_
 refine xE12 q10_ fun a ha q20_=>?_
 subst q20_
 refine xE13 (S.at (.loc ha) h2) fun o2 g2 r2 hm=>?_
 cases rs with
 | cons rk rs=>cases rs with
  | nil=>
   refine byG fun GG7 kk7=>?_
   refine xE11 rk.str_of fun t q11_=>?_
   subst q11_
   have hS:=SetR.of r2 g2
   refine xE02 (id r2) fun c q12_=>?_
   obtain⟨es',ep,tb,hdat,_⟩:=q12_
   obtain⟨oc,od,odt,osl⟩:=o2
   refine xE03 c fun hc1 hc2 hc3=>?_
   refine kk7 ?_
   simp only at hc1 hc2 hc3 hdat
   subst hc1;subst hc2;subst hc3;subst hdat
   refine call_bm g1 entry_set_contains (by decide +kernel) (fun hq=>chk_scon g2 hq) ?_
   unfold Builtin.«frozenset.__contains__» Builtin.Frozenset.oneOther
   simp only [List.isEmpty_nil,bind_assoc]
   unfold Builtin.Frozenset.addrOf Builtin.Frozenset.withSetAsKey setContains
   refine wpAny_bind (wpAny_pure ?_)
   try dsimp only
   refine wpAny_bind (wpAny_pure ?_)
   try dsimp only
   refine wpAny_bind (wpAny_tryCatch ?_)
   refine wpAny_holding ?_
   refine wpAny_bind ((strKind pw w).pyHash (isStr_self x t) ?_)
   refine wpAny_bind (wpAny_setFind_of (knd:=strKind pw w) (s:={ s with toks:=s.toks+1 }) (isStr_self x t) rfl hS fun r hr=>?_)
   refine wpAny_pure ?_
   show wpAny _ _ (ret (Value.bool r.isSome)) _ _ _
   rw [hr]
   exact wpAny_pure ⟨_,rfl,q α _ _ (pre_refl α) (S.toks _) (.bool _)⟩
theorem ev_bget {value:Expr}{pos:Pos}{l:Nat}{es:List (AV×AV)} (hb:baseOk value=true) (h1:EvOk w A B env f (eval value env) ρ σ (.loc l) σ₁) (e1:σ₁[l]? = some (.dict es)) (hz:(∃ ks:List (Str×AV),es=ks.map fun p=>(.str p.1,p.2))∨∃ ks:List (Int×AV),es=ks.map fun p=>(.int p.1,p.2)) :
  EvOk w A B env f (eval (.Attribute value "get" pos) env) ρ σ (.loc σ₁.length) (σ₁++[.bm "dict.get" l]):=by
 intro α os s Q S k
 refine Attribute_my hb (h1 α os s _ S fun α₁ x s₁ p1 S1 r1=>?_)
 refine VR.refE r1 fun a r1=>?_
 refine xE13 (S1.at r1 e1) fun o2 g2 r2 hm=>?_
 have hd:∃ es' ep,o2={ cls:=.type "dict",dict:=none,data:=.dict es' ep,slots:=#[] }:=by
  obtain⟨oc,od,odt,osl⟩:=o2
  rcases hz with ⟨ks,rfl⟩ | ⟨ks,rfl⟩
  ·refine xE12 (r2.1 ks rfl) fun kvs q14_ _=>?_
   obtain⟨⟨hc1,hc2,hc3⟩,es',ep,hdat,_⟩:=q14_
   simp only at hc1 hc2 hc3 hdat
   subst hc1;subst hc2;subst hc3;subst hdat
   exact⟨es',ep,rfl⟩
  ·refine xE12 (r2.2 ks rfl) fun kvs q15_ _=>?_
   obtain⟨⟨hc1,hc2,hc3⟩,es',ep,hdat,_⟩:=q15_
   simp only at hc1 hc2 hc3 hdat
   subst hc1;subst hc2;subst hc3;subst hdat
   exact⟨es',ep,rfl⟩
 refine xE21 hd fun es' ep q16_=>?_
 subst q16_
 have hp:α₁ <+: α₁++[s₁.heap.objs.size]:=⟨_,rfl⟩
 refine xE02 (S1.alloc (o:=BmObj "dict.get" a) (ao:=.bm "dict.get" l) (t:=s₁.toks+1) rfl ⟨a,getElem?_pre hp hm,rfl⟩) fun S' r'=>?_
 obtain⟨hh,g,d,t,os'⟩:=s₁
 exact ga_dict_get g2 (k _ _ _ (p1.trans hp) S' r')
theorem ev_bcon {value:Expr}{pos:Pos}{l:Nat}{ys:List Str} (hb:baseOk value=true) (h1:EvOk w A B env f (eval value env) ρ σ (.loc l) σ₁) (e1:σ₁[l]? = some (.set ys)) :
  EvOk w A B env f (eval (.Attribute value "__contains__" pos) env) ρ σ (.loc σ₁.length) (σ₁++[.bm "set.__contains__" l]):=by
 intro α os s Q S k
 refine Attribute_my hb (h1 α os s _ S fun α₁ x s₁ p1 S1 r1=>?_)
 refine VR.refE r1 fun a r1=>?_
 refine byG fun G5 k5=>?_
 refine xE13 (S1.at r1 e1) fun o2 g2 r2 hm=>?_
 refine xE02 (id r2) fun c q18_=>?_
 obtain⟨es',ep,tb,hdat,_⟩:=q18_
 obtain⟨oc,od,odt,osl⟩:=o2
 refine xE03 c fun hc1 hc2 hc3=>?_
 refine k5 ?_
 simp only at hc1 hc2 hc3 hdat
 subst hc1;subst hc2;subst hc3;subst hdat
 have hp:α₁ <+: α₁++[s₁.heap.objs.size]:=⟨_,rfl⟩
 refine xE02 (S1.alloc (o:=BmObj "set.__contains__" a) (ao:=.bm "set.__contains__" l) (t:=s₁.toks+1) rfl ⟨a,getElem?_pre hp hm,rfl⟩) fun S' r'=>?_
 obtain⟨hh,g,d,t,os'⟩:=s₁
 exact ga_set_con g2 (k _ _ _ (p1.trans hp) S' r')
theorem DR.nil {K:Type} [DecidableEq K]{knd:KeyKind pw w K}{mk:K→AV}:DR knd mk α [] { cls:=.type "dict",data:=.dict #[] }:=fun ks e=>by
 cases ks with
 | nil=>
  exact⟨[],⟨⟨rfl,rfl,rfl⟩,#[],0,rfl,fun _ he=>by simp at he,.nil,List.nodup_nil⟩,rfl,.nil⟩
 | cons=>cases e
theorem ev_dict0 {pos:Pos}:EvOk w A B env f (eval (.Dict [] [] pos) env) ρ σ (.loc σ.length) (σ++[.dict []]):=by
 intro α os s Q S k
 have hp:α <+: α++[s.heap.objs.size]:=⟨_,rfl⟩
 obtain⟨S',r'⟩:=S.alloc (o:={ cls:=.type "dict",data:=.dict #[] }) (ao:=.dict []) (t:=s.toks) rfl ⟨DR.nil,DR.nil⟩
 exact wpAny_Dict_empty (k _ _ _ hp S' r')
theorem ev_dict1 {a:Str}{b:Int}{k1 k2:Nat}{p1 p2 pos:Pos}:EvOk w A B env f (eval (.Dict [some (.Constant (.str a) k1 p1)] [.Constant (.int b) k2 p2] pos) env) ρ σ (.loc σ.length) (σ++[.dict [(.str a,.int b)]]):=by
 intro α os s Q S k
 refine wpAny_Dict_walk (knd:=strKind pw w) rfl rfl (by simp) (by simp) (pairTrees_cons_walk (wpAny_Constant_str (wpAny_Constant_int (pairTrees_nil_walk ?_))))
 refine⟨[(a,.int b _)],⟨isStr_self ..,rfl,trivial⟩,?_,fun h' hD hs=>?_⟩
 ·exact Heap.DictOf.new _
 ·have hs:Heap.SameBut s.heap.objs.size (s.heap.push { cls:=.type "dict",data:=.dict #[] }) h':=hs
  have hp:α <+: α++[s.heap.objs.size]:=⟨_,rfl⟩
  refine xE12 (IsD.of hD) fun o' g' hd'=>?_
  have R:=(S.rel.keeps (h':=h') fun b o e=>hs.extBut b o (Nat.ne_of_lt (Heap.lt_size e)) (Heap.get?_push_of_some _ e)).alloc (a:=s.heap.objs.size) (o:=o') (ao:=.dict [(.str a,.int b)])
   (fun b o' e=>Nat.ne_of_lt (Heap.lt_size (S.rel.keep b o' e))) (fun hm=>Nat.lt_irrefl _ (S.rel.lt hm)) (Nat.ne_of_gt S.rel.ltL) (Nat.lt_trans (Nat.lt_trans (by decide) S.rel.big.1) S.rel.ltL) g'
   ⟨fun ks e=>by
    obtain rfl:ks=[(a,.int b)]:=map_inj (ls:=[(a,AV.int b)]) str_inj e.symm
    exact⟨_,hd',rfl,.cons (.int _ _) .nil⟩,DR.vac ⟨_,List.mem_singleton.mpr rfl,fun _=>str_ne_int _ _⟩⟩
  exact k _ _ _ hp ⟨R,S.gens,S.os⟩ (.loc (by rw [←S.rel.len];simp))
end
end Mine
end
section
open PySem PySem.W PyProof.Rows PySem.Calls PySem.SeqAt
set_option maxRecDepth 100000
set_option linter.unusedVariables false
set_option autoImplicit false
namespace Mine
noncomputable def emitAt (e elt:Expr) (gens:List Comprehension) (d:Nat) (acc:Value) (env:Env):Sem Unit:=match gens[d]? with
 | some g'=>do
  let x ←eval g'.iter env
  standAt g'.iter.pos
  let x ←if g'.is_async != 0 then foldedIterable g'.iter x else foldedSetIterable g'.iter env x
  let _ ←runOwn (.compStart e d (←holding [x] (if g'.is_async != 0 then asyncIter x else pyIter x)) acc env) env
 | none=>do let _ ←call (.builtin "list.append") [acc,←eval elt env]
noncomputable def testsOf (ifs:List Expr) (env:Env) (ok:Bool):Sem Bool:=forIn ifs ok fun c r=>if r=true then do let ok ←isTrue c env (eval c env);pure (ForInStep.yield ok)else pure (ForInStep.yield r)
theorem compTurn_at {elt:Expr}{gens:List Comprehension}{scope:Scope}{pos:Pos}{d:Nat}{it acc:Value}{env:Env}{t i:Expr}{ifs:List Expr} (hg:gens[d]? = some ⟨t,i,ifs,0⟩) :
  compTurn (.ListComp elt gens scope pos) d it acc env=(standAt i.pos >>= fun _=>pyNext it >>= fun r=>match r with
   | none=>pure (.done .next)
   | some v=>letOwnedTupleGo t it v >>= fun _=>assign t env v >>= fun _=>testsOf ifs env true >>= fun ok=>
     if ok=true then emitAt (.ListComp elt gens scope pos) elt gens (d+1) acc env >>= fun _=>again (.compLoop (.ListComp elt gens scope pos) d it acc env)
     else again (.compLoop (.ListComp elt gens scope pos) d it acc env)):=by
 unfold compTurn emitAt testsOf
 simp only [hg]
 show(standAt i.pos >>= fun _=>pyNext it >>= _)=_
 congr 1;funext _
 congr 1;funext r
 cases r with
 | none=>rfl
 | some v=>
  show(letOwnedTupleGo t it v >>= fun _=>assign t env v >>= fun _=>_)=_
  congr 1;funext _
  congr 1;funext _
  congr 1
  funext ok
  cases ok with
  | false=>rfl
  | true=>
   show(match gens[d+1]? with | some g'=>_ | none=>_)=_
   cases gens[d+1]? with
   | none=>simp only [if_true]
   | some g'=>
    by_cases q:(g'.is_async != 0)=true
    ·simp only [if_true,bind_assoc,q,pure_bind]
    ·simp only [if_true,bind_assoc,q,pure_bind,if_false,Bool.false_eq_true]
section
variable {w:World}{A:Around}{B B':Base}{env:Env}{f:Nat→Option Nat}{α α':List Addr}{ρ ρ' ρ₁ ρ₂:Rho}{σ σ' σ₁ σ₂ σ₃ σ₄:Sto}{os:OsState}{s s':Shared}{I:Addr}{h h':Heap}{o:Obj}
theorem tests_false {ifs:List Expr}{Q:Bool→Shared→Prop} (hq:Q false s):wpAny (model pw w) A (testsOf ifs env false) Q Ef s:=by
 unfold testsOf
 induction ifs with
 | nil=>rw [List.forIn_nil];exact wpAny_pure hq
 | cons c r ih=>rw [List.forIn_cons];exact wpAny_bind (wpAny_pure ih)
theorem tests_nil:TsOk w A B env f (testsOf [] env true) ρ σ true σ:=by
 intro α os s Q S k
 unfold testsOf
 rw [List.forIn_nil]
 exact wpAny_pure (k α s (pre_refl α) S)
theorem tests_one {e:Expr}{c:Bool} (h:TsOk w A B env f (isTrue e env (eval e env)) ρ σ c σ'):TsOk w A B env f (testsOf [e] env true) ρ σ c σ':=by
 intro α os s Q S k
 unfold testsOf
 rw [List.forIn_cons]
 refine wpAny_bind ?_
 rw [if_pos rfl]
 refine wpAny_bind (h.run S fun α₁ s₁ p1 S1=>wpAny_pure ?_)
 exact wpAny_of_eq (List.forIn_nil ..) (k α₁ s₁ p1 S1)
noncomputable def EmOk (w:World) (A:Around) (env:Env) (f:Nat→Option Nat) (acc:Nat) (D:Addr) (m:Sem Unit) (em:Rho→Sto→Rho→Sto→Prop):Prop:=
 ∀ (B:Base) (ρ:Rho) (σ:Sto) (ρ':Rho) (σ':Sto) (α:List Addr) (os:OsState) (s:Shared) (Q:Unit→Shared→Prop),Gd w B→em ρ σ ρ' σ'→St w B env f α ρ σ os s→α[acc]? = some D→
  (∀ α' s',α <+: α'→St w B env f α' ρ' σ' os s'→Q () s')→wpAny (model pw w) A m Q Ef s
inductive GTurn (ti:List AV→Rho→Sto→Rho→Sto→Prop) (tst:Rho→Sto→Bool→Sto→Prop) (em:Rho→Sto→Rho→Sto→Prop) (again:Sto→Prop) (x:List AV) (ρ:Rho) (σ:Sto) (N:Rho→Sto→Prop):Prop
 | skip {ρ₁:Rho}{σ₁ σ₂:Sto}:ti x ρ σ ρ₁ σ₁→tst ρ₁ σ₁ false σ₂→again σ₂→N ρ₁ σ₂→GTurn ti tst em again x ρ σ N
 | emit {ρ₁ ρ₃:Rho}{σ₁ σ₂ σ₃:Sto}:ti x ρ σ ρ₁ σ₁→tst ρ₁ σ₁ true σ₂→em ρ₁ σ₂ ρ₃ σ₃→again σ₃→N ρ₃ σ₃→GTurn ti tst em again x ρ σ N
noncomputable def GenR (ti:List AV→Rho→Sto→Rho→Sto→Prop) (tst:Rho→Sto→Bool→Sto→Prop) (em:Rho→Sto→Rho→Sto→Prop) (again:Sto→Prop) (ρ':Rho) (σ':Sto):List (List AV)→Rho→Sto→Prop
 | [],ρ,σ=>ρ'=ρ∧σ'=σ
 | x :: r,ρ,σ=>GTurn ti tst em again x ρ σ (GenR ti tst em again ρ' σ' r)
theorem gen_ok {elt:Expr}{gens:List Comprehension}{scope:Scope}{pos:Pos}{d:Nat}{t it:Expr}{ifs:List Expr}{again:Sto→Prop}{xs:List (List AV)}{J:Nat→List Addr→Sto→Heap→Prop}{R:Result→Shared→Prop}
  {ti:List AV→Rho→Sto→Rho→Sto→Prop}{tst:Rho→Sto→Bool→Sto→Prop}{em:Rho→Sto→Rho→Sto→Prop}{acc:Nat}{D:Addr} (hg:gens[d]? = some ⟨t,it,ifs,0⟩) (Z:Iter w A B env I t xs again J) (G:Gd w B)
  (hT:∀ (B':Base) (ρ:Rho) (σ:Sto) (x:List AV) (ρ':Rho) (σ':Sto),Gd w B'→ti x ρ σ ρ' σ'→TiOk w A B' env f t x ρ σ ρ' σ')
  (hI:∀ (B':Base) (ρ:Rho) (σ σ':Sto) (c:Bool),Gd w B'→tst ρ σ c σ'→TsOk w A B' env f (testsOf ifs env true) ρ σ c σ')
  (hE:EmOk w A env f acc D (emitAt (.ListComp elt gens scope pos) elt gens (d+1) (.ref D) env) em)
  (h:GenR ti tst em (fun σ=>again σ) ρ' σ' xs ρ σ) (S:St w B env f α ρ σ os s) (j:J 0 α σ s.heap) (hD:α[acc]? = some D)
  (k:∀ α' s',α <+: α'→St w B env f α' ρ' σ' os s'→R (.ok .next) s'):codeAny (model pw w) A (.compLoop (.ListComp elt gens scope pos) d (.ref I) (.ref D) env) R s:=by
 refine codeAny_loop rfl (I:=ForI w B env f os xs J (GenR ti tst em (fun σ=>again σ) ρ' σ') α) (fun n s₁ H=>?_) xs.length ⟨0,α,ρ,σ,rfl,Nat.zero_le _,pre_refl α,S,j,h⟩
 show wpAny _ A ((compTurn (.ListComp elt gens scope pos) d (.ref I) (.ref D) env).onRaise (fun x=>do noteFrame x env;theTreesLotGoes x)) _ _ s₁
 refine wpAny_noted ?_
 rw [compTurn_at hg]
 refine wpAny_bind (wpAny_standAt (wpAny_bind (byG fun C kC=>?_)))
 refine xE46 H.it fun i α₁ ρ₁ σ₁ hn hi p1 S1 j1 h1=>?_
 cases hx:xs[i]? with
 | none=>
  rw [List.drop_eq_nil_of_le (List.getElem?_eq_none_iff.mp hx)]at h1
  refine xE02 h1 fun q1 q2=>?_
  refine kC (wpAny_mono (Z.done (Q:=fun s₂=>St w B env f α₁ ρ₁ σ₁ os s₂) S1 j1 hx fun s' S'=>S') (fun r s₂ q=>?_) fun _ _ x=>x.elim)
  rw [q.1]
  exact wpAny_pure (k α₁ s₂ p1 (q1 ▸ q2 ▸ q.2))
 | some x=>
  rw [drop_cons hx]at h1
  have fin:∀ {α₃:List Addr}{ρ₃:Rho}{σ₃:Sto}{s₅:Shared},α <+: α₃→St w B env f α₃ ρ₃ σ₃ os s₅→J (i+1) α₃ σ₃ s₅.heap→GenR ti tst em (fun σ=>again σ) ρ' σ' (xs.drop (i+1)) ρ₃ σ₃→
    ∃ m,m<n∧ForI w B env f os xs J (GenR ti tst em (fun σ=>again σ) ρ' σ') α m s₅:=fun p S5 j5 h2=>
   ⟨xs.length - (i+1),hn ▸ Nat.sub_succ_lt_self xs.length i (List.getElem?_eq_some_iff.mp hx).1,i+1,_,_,_,rfl,(List.getElem?_eq_some_iff.mp hx).1,p,S5,j5,h2⟩
  have main:∀ {ρ₂:Rho}{σ₂ σ₃:Sto}{c:Bool},ti x ρ₁ σ₁ ρ₂ σ₂→tst ρ₂ σ₂ c σ₃→(∀ (B':Base) α₃ s₅,Gd w B'→α₁ <+: α₃→St w B' env f α₃ ρ₂ σ₃ os s₅→(∀ {α₄:List Addr}{ρ₄:Rho}{σ₄:Sto}{s₆:Shared},α₃ <+: α₄→St w B' env f α₄ ρ₄ σ₄ os s₆→again σ₄→St w B env f α₄ ρ₄ σ₄ os s₆∧J (i+1) α₄ σ₄ s₆.heap)→
    wpAny (model pw w) A (if c=true then emitAt (.ListComp elt gens scope pos) elt gens (d+1) (.ref D) env >>= fun _=>PySem.again (.compLoop (.ListComp elt gens scope pos) d (.ref I) (.ref D) env)else PySem.again (.compLoop (.ListComp elt gens scope pos) d (.ref I) (.ref D) env)) (fun fin s'=>match fin with
     | .done fl=>R (.ok fl) s'
     | .again c'=>c'=.compLoop (.ListComp elt gens scope pos) d (.ref I) (.ref D) env∧∃ m,m<n∧ForI w B env f os xs J (GenR ti tst em (fun σ=>again σ) ρ' σ') α m s') (notedBy (model pw w) A env fun e s'=>R (.error e) s') s₅)→C:=fun {ρ₂ σ₂ σ₃ c} e1 e2 fin=>by
   refine kC (wpAny_mono (Z.step (Q:=fun v s₂=>St w B env f α₁ ρ₁ σ₁ os s₂∧J (i+1) α₁ σ₁ s₂.heap∧IR α₁ x v s₂.heap) S1 j1 hx fun v s' a b c=>⟨a,b,c⟩) (fun r s₂ q=>?_) fun _ _ x=>x.elim)
   refine xE12 q fun v hr hw=>?_
   rw [hr]
   refine wpAny_bind (wpAny_mono hw (fun _ s₃ q=>?_) fun _ _ x=>x.elim)
   have S3:=q.1
   have G3:=G.mono S3.sub
   exact wpAny_bind ((hT _ _ _ _ _ _ G3 e1).run S3.mask q.2.2 fun α₂ s₄ p2 S4=>wpAny_bind ((hI _ _ _ _ _ G3 e2).run S4 fun α₃ s₅ p3 S5=>
    fin _ α₃ s₅ G3 (p2.trans p3) S5 fun p4 S6 ha=>⟨S6.weaken S3.sub,Z.keep q.2.1 S6.rel ((p2.trans p3).trans p4) ha⟩))
  cases h1 with
  | skip e1 e2 ha h2=>
   exact main e1 e2 fun B' α₃ s₅ G5 p5 S5 kk=>by
    refine xE02 (kk (pre_refl _) S5 ha) fun S6 j6=>?_
    exact wpAny_pure ⟨rfl,fin (p1.trans p5) S6 j6 h2⟩
  | emit e1 e2 e3 ha h2=>
   exact main e1 e2 fun B' α₃ s₅ G5 p5 S5 kk=>wpAny_bind (wpAny_mono (hE _ _ _ _ _ α₃ os s₅ (fun _ s₆=>∃ α₄,α₃ <+: α₄∧St w B' env f α₄ _ _ os s₆) G5 e3 S5 (getElem?_pre (p1.trans p5) hD) fun α₄ s₆ p4 S6=>⟨α₄,p4,S6⟩) (fun _ s₆ ⟨α₄,p4,S6⟩=>by
    refine xE02 (kk p4 S6 ha) fun S7 j7=>?_
    exact wpAny_pure ⟨rfl,fin ((p1.trans p5).trans p4) S7 j7 h2⟩) fun _ _ x=>x.elim)
end
end Mine
end
section
open PySem PySem.W PyProof.Rows PySem.Calls PySem.SeqAt
set_option maxRecDepth 100000
set_option linter.unusedVariables false
set_option autoImplicit false
namespace Mine
theorem pl_fold {e:Expr}{env:Env} (h:plainE e=true):∀ x,foldedSetIterable e env x=pure x:=by
 intro x
 cases e <;> first | rfl | exact Bool.noConfusion h
section
variable {w:World}{A:Around}{B B':Base}{env:Env}{f:Nat→Option Nat}{α α':List Addr}{ρ ρ' ρ₁ ρ₂:Rho}{σ σ' σ₁ σ₂ σ₃ σ₄:Sto}{os:OsState}{s s':Shared}{I:Addr}{h h':Heap}{o:Obj}
theorem St.run {m:Sem Value}{v:AV}{Q:Value→Shared→Prop} (C:∀ (B:Base) (Q:Value→Shared→Prop),Gd w B→StS w B α σ os s→Post w B α σ' os v Q→wpAny (model pw w) A m Q Ef s) (G:Gd w B) (S:St w B env f α ρ σ os s)
  (k:∀ α' x s',α <+: α'→St w B env f α' ρ σ' os s'→VR α' v x→Q x s'):wpAny (model pw w) A m Q Ef s:=
 C _ Q (G.mono S.rel.toS.sub) S.toS.mask fun α' x s' p S' r=>k α' x s' p (S.back S' p) r
noncomputable def Begun (w:World) (A:Around) (B:Base) (env:Env) (f:Nat→Option Nat) (α:List Addr) (ρ:Rho) (σ:Sto) (os:OsState) (v:AV) (t:Expr) (xs:List (List AV)) (it:Value) (s':Shared):Prop:=
 ∃ I o,it=.ref I∧St w B env f α ρ σ os s'∧Hide B env.locals α s'.heap I o∧
  (∀ (B':Base) (env':Env) (α':List Addr) (σ':Sto) (h':Heap),Hide B' env'.locals α' h' I o→α <+: α'→Same σ v σ'→∃ J,Iter w A B' env' I t xs (Same σ v) J∧J 0 α' σ' h')∧
  ∀ (s'':Shared) (Q:Value→Shared→Prop),s''.heap.get? I=some o→Q it s''→wpAny (model pw w) A (pyIter it) Q Ef s''
theorem same_self {v:AV}:Same σ v σ:=fun _ _ _ h=>h
theorem small_of {a b:Int} (h:smallR a b=true):Builtin.Range.small a b 1=true∧Builtin.Range.rangeSize a b 1=((b - a).toNat:Int):=by
 unfold smallR at h
 refine byG fun G1 k1=>?_
 simp only [Bool.and_eq_true,decide_eq_true_eq]at h
 obtain⟨⟨⟨h1,h2⟩,h3⟩,h4⟩:=h
 refine k1 ?_
 have hs:Builtin.Range.rangeSize a b 1=((b - a).toNat:Int):=by
  rw [rangeSize_one]
  split <;> lia
 refine⟨?_,hs⟩
 unfold Builtin.Range.small Builtin.Range.rangeFitsLong
 rw [hs]
 simp only [Bool.and_eq_true,decide_eq_true_eq,Bool.or_eq_true]
 refine⟨⟨⟨⟨by lia,by lia⟩,by lia⟩,by lia⟩,.inr ?_⟩
 rw [if_pos (by decide)]
 simp only [Bool.and_eq_true,decide_eq_true_eq]
 lia
theorem start_items {v:AV}{x:Value}{t:Expr}{xs:List (List AV)} (hh:A.handled=none) (e:ItemsR σ v xs) (S:St w B env f α ρ σ os s) (r:VR α v x) :
  wpAny (model pw w) A (pyIter x) (fun it s'=>Begun w A B env f α ρ σ os v t xs it s') Ef s:=by
 cases e with
 | list hl=>
  refine VR.refE r fun a r=>?_
  refine listAt (S.at r hl) fun it n g1 r1 z hm=>?_
  refine wpAny_pyIter_list (items:=it) ⟨_,g1,rfl,n,rfl⟩ ?_
  refine⟨_,_,rfl,S.push _,Hide.new S rfl,fun B' env' α' σ' h' H p hsm=>⟨_,iter_list hh (same_list hl),⟨_,a,H,rfl,rfl,getElem?_pre p hm,same_list hl _ hsm⟩⟩,fun s'' Q g hQ=>?_⟩
  exact wpAny_pyIter_listiter (l:=a) (i:=0) ⟨_,g,rfl,rfl⟩ hQ
 | @range _ p q hl hs=>
  refine VR.refE r fun a r=>?_
  refine byG fun GG4 kk4=>?_
  refine xE13 (S.at r hl) fun o1 g1 q4_ hm=>?_
  refine xE31 q4_ fun t1 t2 t3 q8_=>?_
  subst q8_
  refine xE02 (small_of hs) fun h1 h2=>?_
  refine kk4 ?_
  refine wpAny_pyIter_range g1 h1 ?_
  rw [h2]
  refine⟨_,_,rfl,S.push _,Hide.new S rfl,fun B' env' α' σ' h' H pp hsm=>⟨_,iter_range (a:=p) (b:=q) hh,⟨_,H,?_⟩⟩,fun s'' Q g hQ=>?_⟩
  ·simp
  ·exact wpAny_pyIter_rangeiter g hQ
theorem compStart_at {elt:Expr}{gens:List Comprehension}{scope:Scope}{pos:Pos}{d:Nat}{it acc:Value}{t i:Expr}{ifs:List Expr}{R:Result→Shared→Prop} (hg:gens[d]? = some ⟨t,i,ifs,0⟩)
  (h0:codeAny (model pw w) A (.compLoop (.ListComp elt gens scope pos) d it acc env) R s) (hi:∀ Q:Value→Shared→Prop,Q it s→wpAny (model pw w) A (pyIter it) Q Ef s):codeAny (model pw w) A (.compStart (.ListComp elt gens scope pos) d it acc env) R s:=by
 refine codeAny_of_tree ?_
 show wpAny _ A ((compStart (.ListComp elt gens scope pos) d it acc env).onRaise (fun x=>do noteFrame x env;standAt theWindowsPlace)) _ _ s
 refine wpAny_notedAt ?_
 unfold compStart clausesOf
 simp only [hg]
 show wpAny _ _ (ask >>= _) _ _ s
 refine wpAny_bind (wpAny_askSetting (wpAny_ite ?_))
 split
 ·first
   | exact wpAny_bind (wpAny_pure (wpAny_pure (And.intro rfl h0)))
   | exact wpAny_pure (And.intro rfl h0)
 ·refine wpAny_bind (wpAny_rule ?_)
  refine wpAny_bind (wpAny_standAt ?_)
  refine wpAny_bind (wpAny_mono (hi (fun x s'=>x=it∧s'=s) ⟨rfl,rfl⟩) ?_ fun _ _ x=>x.elim)
  rintro _ _ ⟨rfl,rfl⟩
  exact wpAny_pure (And.intro rfl h0)
noncomputable def LeafR (ev:Rho→Sto→AV→Sto→Prop) (acc:Nat) (ρ:Rho) (σ:Sto) (ρ':Rho) (σ':Sto):Prop:=∃ v σ₁ ys,ev ρ σ v σ₁∧σ₁[acc]? = some (.list ys)∧ys.length<900∧ρ'=ρ∧σ'=σ₁.set acc (.list (ys++[v]))
theorem em_leaf {ev:Rho→Sto→AV→Sto→Prop}{eltE:Expr}{e:Expr}{gens:List Comprehension}{d acc:Nat}{D:Addr} (hg:gens[d]? = none) (hv:∀ (B:Base) (ρ:Rho) (σ:Sto) (v:AV) (σ':Sto),Gd w B→ev ρ σ v σ'→EvOk w A B env f (eval eltE env) ρ σ v σ') :
  EmOk w A env f acc D (emitAt e eltE gens d (.ref D) env) (LeafR ev acc):=by
 intro B ρ σ ρ' σ' α os s Q G ⟨v,σ₁,ys,he,hl,hlen,e1,e2⟩ S hD k
 unfold emitAt
 rw [hg]
 exact wpAny_bind (hv _ _ _ _ _ G he α os s _ S fun α₁ y s₁ p1 S1 r1=>wpAny_bind (St.run (v:=.none) (σ':=σ₁.set acc (.list (ys++[v]))) (fun B Q G S k=>append_meth hl hlen S (.loc (getElem?_pre p1 hD)) r1 k) G S1 fun α₂ z s₂ p2 S2 r2=>
  wpAny_pure (k α₂ s₂ (p1.trans p2) (e1 ▸ e2 ▸ S2))))
noncomputable def NestR (it:Rho→Sto→AV→Sto→Prop) (ti:List AV→Rho→Sto→Rho→Sto→Prop) (tst:Rho→Sto→Bool→Sto→Prop) (em:Rho→Sto→Rho→Sto→Prop) (ρ:Rho) (σ:Sto) (ρ':Rho) (σ':Sto):Prop:=
 ∃ v σ₁ xs,it ρ σ v σ₁∧ItemsR σ₁ v xs∧GenR ti tst em (fun σ=>Same σ₁ v σ) ρ' σ' xs ρ σ₁
theorem em_nest {itr:Rho→Sto→AV→Sto→Prop}{ti:List AV→Rho→Sto→Rho→Sto→Prop}{tst:Rho→Sto→Bool→Sto→Prop}{em:Rho→Sto→Rho→Sto→Prop}{eltE:Expr}{gens:List Comprehension}{scope:Scope}{pos:Pos}{d acc:Nat}{D:Addr}{t it:Expr}{ifs:List Expr} (hh:A.handled=none) (hg:gens[d]? = some ⟨t,it,ifs,0⟩)
  (hf:∀ x,foldedSetIterable it env x=pure x) (hv:∀ (B:Base) (ρ:Rho) (σ:Sto) (v:AV) (σ':Sto),Gd w B→itr ρ σ v σ'→EvOk w A B env f (eval it env) ρ σ v σ')
  (hT:∀ (B':Base) (ρ:Rho) (σ:Sto) (x:List AV) (ρ':Rho) (σ':Sto),Gd w B'→ti x ρ σ ρ' σ'→TiOk w A B' env f t x ρ σ ρ' σ')
  (hI:∀ (B':Base) (ρ:Rho) (σ σ':Sto) (c:Bool),Gd w B'→tst ρ σ c σ'→TsOk w A B' env f (testsOf ifs env true) ρ σ c σ')
  (hE:EmOk w A env f acc D (emitAt (.ListComp eltE gens scope pos) eltE gens (d+1) (.ref D) env) em) :
  EmOk w A env f acc D (emitAt (.ListComp eltE gens scope pos) eltE gens d (.ref D) env) (NestR itr ti tst em):=by
 intro B ρ σ ρ' σ' α os s Q G ⟨v,σ₁,xs,he,hx,h⟩ S hD k
 unfold emitAt
 rw [hg]
 refine wpAny_bind (hv _ _ _ _ _ G he α os s _ S fun α₁ y s₁ p1 S1 r1=>wpAny_bind (wpAny_standAt ?_))
 refine wpAny_bind (wpAny_of_eq (hf y) (wpAny_bind (wpAny_holding (wpAny_mono (start_items (t:=t) hh hx S1 r1) (fun it' s₂ q=>?_) fun _ _ x=>x.elim))))
 refine byG fun GG5 kk5=>?_
 refine xE25 q fun I o q5_ S2 H hit hself=>?_
 subst q5_
 refine xE12 (hit B env α₁ σ₁ s₂.heap H (pre_refl _) same_self) fun J Z j=>?_
 refine kk5 ?_
 exact wpAny_bind (wpAny_runOwn (compStart_at hg (gen_ok hg Z G hT hI hE h S2 j (getElem?_pre p1 hD) fun α₂ s₃ p2 S3=>wpAny_pure (k α₂ s₃ (p1.trans p2) S3)) fun Q hQ=>hself _ _ H.there hQ))
end
end Mine
end
section
open PySem PySem.W PyProof.Rows PySem.Calls PySem.SeqAt
set_option maxRecDepth 100000
set_option linter.unusedVariables false
set_option autoImplicit false
namespace Mine
noncomputable def maskX (h:Heap) (α:List Addr) (σ:Sto) (X:List Addr):Base where
 obj b:=if b∈X then none else maskS h α σ b
 lk:=(maskS h α σ).lk
noncomputable def ScOk (sc:Scope) (env:Env):Prop:=∀ (x:Str) (i:Nat) (k:NameKind),idx sc x=some (i,k)→∃ k',idx env.scope x=some (i,k')∧(k'=k∨(k=.free∧k'=.cell))
theorem ScOk.refl (env:Env):ScOk env.scope env:=fun x i k h=>⟨k,h,.inl rfl⟩
noncomputable def closOf (env:Env):List (Str×NameKind)→List (Str×Addr)→List (Str×Addr)
 | [],acc=>acc
 | (x,k) :: r,acc=>if k == .free then closOf env r ((x,(env.cells.lookup x).getD 0) :: acc)else closOf env r acc
theorem closure_go {env:Env}:∀ {names:List (Str×NameKind)}{acc:List (Str×Addr)},(∀ x,(x,NameKind.free)∈names→(env.cells.lookup x).isSome=true)→
  (forIn names acc fun(p:Str×NameKind) r=>(match p with | (name,kind)=>if kind == .free then (do let a ←cellOf env name;pure (ForInStep.yield ((name,a) :: r)))else pure (ForInStep.yield r):Sem (ForInStep (List (Str×Addr)))))=pure (closOf env names acc)
 | [],acc,_=>by rw [List.forIn_nil];rfl
 | (x,k) :: r,acc,h=>by
  rw [List.forIn_cons]
  unfold closOf
  have hr:∀ y,(y,NameKind.free)∈r→(env.cells.lookup y).isSome=true:=fun y hy=>h y (List.mem_cons_of_mem _ hy)
  by_cases q:(k == NameKind.free)=true
  ·have hk:k=.free:=beq_iff_eq.mp q
   subst hk
   obtain⟨a,ha⟩:=Option.isSome_iff_exists.mp (h x List.mem_cons_self)
   simp only [q,if_true]
   have:cellOf env x=pure a:=by unfold cellOf;rw [ha]
   rw [this,ha]
   simp only [pure_bind,Option.getD_some]
   exact closure_go hr
  ·simp only [q,if_false,pure_bind,Bool.false_eq_true]
   exact closure_go hr
theorem closure_ok {scope:Scope}{env:Env} (h:∀ x,(x,NameKind.free)∈scope.names→(env.cells.lookup x).isSome=true):closureFor scope env=pure (closOf env scope.names []):=by
 unfold closureFor
 have:=closure_go (acc:=[]) h
 exact congrArg (fun m:Sem (List (Str×Addr))=>m >>= fun cs=>pure cs) this
theorem closOf_acc {env:Env}:∀ {names:List (Str×NameKind)}{acc:List (Str×Addr)}{x:Str},(x,NameKind.free)∉names→(closOf env names acc).lookup x=acc.lookup x
 | [],_,_,_=>rfl
 | (y,k) :: r,acc,x,h=>by
  have hr:(x,NameKind.free)∉r:=fun q=>h (List.mem_cons_of_mem _ q)
  unfold closOf
  split
  ·rename_i q
   rw [closOf_acc hr,List.lookup_cons]
   have:x≠y:=by
    rintro rfl
    rw [beq_iff_eq]at q;subst q
    exact h List.mem_cons_self
   rw [beq_false_of_ne this]
  ·exact closOf_acc hr
theorem closOf_spec {env:Env}:∀ {names:List (Str×NameKind)}{acc:List (Str×Addr)}{x:Str},(names.map (·.1)).Nodup→(x,NameKind.free)∈names→(env.cells.lookup x).isSome=true→(closOf env names acc).lookup x=env.cells.lookup x
 | [],_,_,_,h,_=>by cases h
 | (y,k) :: r,acc,x,hn,h,hs=>by
  rw [List.map_cons,List.nodup_cons]at hn
  unfold closOf
  rcases List.mem_cons.mp h with e | h
  ·cases e
   rw [if_pos (by rfl),closOf_acc (fun q=>hn.1 (List.mem_map.mpr ⟨_,q,rfl⟩)),List.lookup_cons]
   obtain⟨a,ha⟩:=Option.isSome_iff_exists.mp hs
   simp [ha]
  ·split
   ·exact closOf_spec hn.2 h hs
   ·exact closOf_spec hn.2 h hs
section
variable {w:World}{A:Around}{B B':Base}{env:Env}{f:Nat→Option Nat}{α α':List Addr}{ρ ρ' ρ₁ ρ₂:Rho}{σ σ' σ₁ σ₂ σ₃ σ₄:Sto}{os:OsState}{s s':Shared}{I:Addr}{h h':Heap}{o:Obj}{X:List Addr}
theorem maskX_in {b:Addr} (hb:b∈X):maskX h α σ X b=none:=by
 show(if b∈X then none else maskS h α σ b)=none
 rw [if_pos hb]
theorem maskX_out {b:Addr} (hb:b∉X):maskX h α σ X b=maskS h α σ b:=by
 show(if b∈X then none else maskS h α σ b)=_
 rw [if_neg hb]
theorem RelS.maskX (R:RelS w B α σ h) (X:List Addr):RelS w (Mine.maskX h α σ X) α σ h:=R.mask.weaken ⟨fun b o e=>by
 by_cases q:b∈X
 ·rw [maskX_in q]at e;cases e
 ·rw [maskX_out q]at e;exact e,fun a e=>.inr e⟩
theorem RelS.subX (R:RelS w B α σ h) (hX:∀ a∈X,B a=none):Sub B (Mine.maskX h α σ X):=⟨fun b o e=>by
 rw [maskX_out (fun q=>by rw [hX b q]at e;cases e)]
 exact R.sub.keep b o e,R.sub.lk⟩
theorem RelS.keptX (R':RelS w (Mine.maskX h α σ X) α' σ' h'){a:Addr}{o:Obj} (ha:a∉α) (hx:a∉X) (e:h.get? a=some o):h'.get? a=some o∧a∉α':=by
 have hm:Mine.maskX h α σ X a=some o:=(maskX_out hx).trans ((maskS_of fun i e=>absurd (List.mem_of_getElem? e) ha).trans e)
 refine⟨R'.keep _ _ hm,fun hp=>?_⟩
 obtain⟨i,hi,e⟩:=List.getElem_of_mem hp
 rcases R'.offB i a (by rw [List.getElem?_eq_getElem hi,e])with q | ⟨_,j,k,q,_⟩
 ·rw [hm]at q;cases q
 ·exact ha (List.mem_of_getElem? q)
theorem Rel.backX (R:Rel w B env f α ρ σ h) (hX:∀ a∈X,B a=none) (hL:env.locals∉X) (R':RelS w (Mine.maskX h α σ X) α' σ' h') (p:α <+: α'):Rel w B env f α' ρ σ' h':=by
 refine byG fun G5 k5=>?_
 have R2:=R'.weaken (R.toS.subX hX)
 have hLa:env.locals∉α:=fun hm=>R.off _ hm rfl
 refine xE12 R.loc fun m F q=>?_
 refine xE32 (id F) fun o es ep ho r=>?_
 refine xE02 (R'.keptX hLa hL ho) fun k1 k2=>?_
 refine k5 ?_
 refine⟨R2.len,R2.keep,⟨m,F.at' fun o' e=>?_,fun i x v e1 e2=>let ⟨y,p1,p2⟩:=q i x v e1 e2;⟨y,p1,p2.mono p⟩⟩,fun i x k e1 e2 l e3=>let ⟨a,p1,p2⟩:=R.cel i x k e1 e2 l e3;⟨a,p1,getElem?_pre p p2⟩,R2.obj,fun a ha e=>k2 (e ▸ ha),R2.offB,R.offL,R2.nd,R.big.1,R2.big⟩
 exact(R'.keptX hLa hL e).1
theorem same_append {v:AV}{l:Sto}:Same σ v (σ++l):=fun _ _ _ h=>(List.getElem?_append_left (List.getElem?_eq_some_iff.mp h).1).trans h
theorem capOf_at {sc sc2:Scope}{i j:Nat} (h:(capOf sc sc2).lookup i=some j):∃ x k,sc2.names[i]? = some (x,.free)∧idx sc x=some (j,k):=by
 have hm:=lookup_mem' h
 unfold capOf at hm
 simp only [List.mem_filterMap,List.mem_zipIdx_iff_getElem?]at hm
 refine byG fun GG5 kk5=>?_
 obtain⟨⟨⟨x,k⟩,i'⟩,h1,h2⟩:=hm
 refine kk5 ?_
 simp only at h1 h2
 split at h2
 ·rename_i hk
  rw [beq_iff_eq]at hk
  subst hk
  cases e:idx sc x with
  | none=>rw [e]at h2;cases h2
  | some p=>
   rw [e]at h2
   simp only [Option.map_some,Option.some.injEq,Prod.mk.injEq]at h2
   obtain⟨rfl,rfl⟩:=h2
   exact⟨x,p.2,h1,e⟩
 ·exact nn h2
theorem capOf_mem {sc sc2:Scope}{i:Nat}{x:Str}{j:Nat}{k:NameKind} (h:sc2.names[i]? = some (x,.free)) (e:idx sc x=some (j,k)):(i,j)∈capOf sc sc2:=by
 unfold capOf
 simp only [List.mem_filterMap,List.mem_zipIdx_iff_getElem?]
 exact⟨((x,.free),i),h,by simp [e]⟩
theorem compOk_spec {sc sc2:Scope}{gens:List Comprehension} (h:compOk sc sc2 gens=true):sc2.kind=.function∧(∀ p∈sc2.names,p.2≠.cell)∧(sc2.names.map (·.1)).Nodup∧
  (∀ x,(x,NameKind.free)∈sc2.names→∃ j k,idx sc x=some (j,k)∧(k=.cell∨k=.free))∧∀ g∈gens,g.is_async=0:=by
 unfold compOk at h
 simp only [Bool.and_eq_true,decide_eq_true_eq,List.all_eq_true,bne_iff_ne,beq_iff_eq,Bool.or_eq_true]at h
 refine byG fun GG7 kk7=>?_
 obtain⟨⟨⟨⟨h1,h2⟩,h3⟩,h4⟩,h5⟩:=h
 refine kk7 ?_
 refine⟨h1,h2,h3,fun x hx=>?_,h5⟩
 rcases h4 _ hx with q | q
 ·exact absurd rfl q
 ·simp only at q
  split at q
  ·rename_i j e;exact⟨j,_,e,.inl rfl⟩
  ·rename_i j e;exact⟨j,_,e,.inr rfl⟩
  ·cases q
theorem relabel_at {scope:Scope}{env:Env}{i:Nat}{x:Str}{k:NameKind} (h:(relabel scope env).names[i]? = some (x,k)):∃ k0,scope.names[i]? = some (x,k0)∧(k=k0∨(k0=.free∧k=.cell)):=by
 unfold relabel at h
 simp only [List.getElem?_map]at h
 cases e:scope.names[i]? with
 | none=>rw [e]at h;cases h
 | some p=>
  obtain⟨n,k0⟩:=p
  rw [e]at h
  simp only [Option.map_some,Option.some.injEq]at h
  split at h
  ·rename_i hc
   cases h
   simp only [Bool.and_eq_true,beq_iff_eq]at hc
   exact⟨k0,rfl,.inr ⟨hc.1.1,rfl⟩⟩
  ·cases h;exact⟨_,rfl,.inl rfl⟩
theorem comp_rel {sc scope:Scope}{gens:List Comprehension}{cenv:Env} (hsc:ScOk sc env) (hok:compOk sc scope gens=true) (hcap:(capOf sc scope).all (fun p=>(f p.2).isSome)=true) (R:Rel w B env f α ρ σ h)
  (hc1:cenv.scope=relabel scope env) (hc2:cenv.cells=closOf env scope.names []) (hc3:cenv.locals=h.objs.size) (hns:h'.Ns h.objs.size fun _=>none) (hs:∀ b o,h.get? b=some o→h'.get? b=some o) :
  Rel w (Mine.maskX h α σ X) cenv (fun i=>((capOf sc scope).lookup i).bind f) α (fun _=>none) σ h':=by
 refine xE05 (compOk_spec hok) fun o1 o2 o3 o4 o5=>?_
 have R2:=R.toS.maskX X
 refine⟨R.len,fun b o e=>hs b o (R2.keep b o e),⟨_,hc3 ▸ hns,fun i x v e1 e2=>(by cases e2)⟩,fun i x k e1 e2 l e3=>?_,fun i ao e=>let ⟨a,o,q1,q2,q3⟩:=R.obj i ao e;⟨a,o,q1,hs a o q2,q3⟩,fun a ha=>by rw [hc3];exact Nat.ne_of_lt (R.lt ha),R2.offB,by
  rw [hc3];exact base_size R2.keep,R.nd,?_,R.big.2⟩
 ·cases e4:(capOf sc scope).lookup i with
  | none=>rw [e4]at e3;cases e3
  | some j=>
   refine byG fun G15 k15=>?_
   rw [e4]at e3
   have e3:f j=some l:=e3
   refine xE22 (capOf_at e4) fun y k1 q1 q2=>?_
   rw [hc1]at e1
   refine xE12 (relabel_at e1) fun k0 q3 q4=>?_
   rw [q1]at q3
   simp only [Option.some.injEq,Prod.mk.injEq]at q3
   refine xE02 q3 fun q5_ q6_=>?_
   subst q5_
   subst q6_
   refine xE22 (o4 y (List.mem_of_getElem? q1)) fun j' k2 q5 q6=>?_
   rw [q2]at q5
   simp only [Option.some.injEq,Prod.mk.injEq]at q5
   refine xE02 q5 fun q7_ q8_=>?_
   subst q7_
   subst q8_
   refine xE12 (hsc _ _ _ q2) fun k3 q7 q8=>?_
   have hk3:k3=.cell∨k3=.free:=by
    rcases q8 with rfl | ⟨_,rfl⟩
    ·exact q6
    ·exact .inl rfl
   refine xE12 (R.cel j y k3 (idx_spec q7).1 hk3 l e3) fun a r1 r2=>?_
   refine k15 ?_
   refine⟨a,?_,r2⟩
   rw [hc2,closOf_spec o3 (List.mem_of_getElem? q1) (by rw [r1];rfl),r1]
 ·rw [hc3];exact Nat.lt_trans R.big.1 R.ltL
theorem comp_clos {sc scope:Scope}{gens:List Comprehension} (hsc:ScOk sc env) (hok:compOk sc scope gens=true) (hcap:(capOf sc scope).all (fun p=>(f p.2).isSome)=true) (R:Rel w B env f α ρ σ h) :
  ∀ x,(x,NameKind.free)∈scope.names→(env.cells.lookup x).isSome=true:=by
 intro x hx
 refine byG fun G10 k10=>?_
 refine xE05 (compOk_spec hok) fun o1 o2 o3 o4 o5=>?_
 refine xE22 (o4 x hx) fun j k q1 q2=>?_
 obtain⟨i,hi,e⟩:=List.getElem_of_mem hx
 have:=List.all_eq_true.mp hcap _ (capOf_mem (sc:=sc) (by rw [List.getElem?_eq_getElem hi,e]) q1)
 obtain⟨l,hl⟩:=Option.isSome_iff_exists.mp this
 refine xE12 (hsc _ _ _ q1) fun k3 q7 q8=>?_
 have hk3:k3=.cell∨k3=.free:=by
  rcases q8 with rfl | ⟨_,rfl⟩
  ·exact q2
  ·exact .inl rfl
 refine xE12 (R.cel j x k3 (idx_spec q7).1 hk3 l hl) fun a r1 _=>?_
 refine k10 ?_
 rw [r1];rfl
structure InOk (w:World) (A:Around) (scope:Scope) (env:Env) (f2:Nat→Option Nat) (acc:Nat) (elt:Expr) (gens:List Comprehension) (pos:Pos) (t:Expr) (ifs:List Expr) (ti:List AV→Rho→Sto→Rho→Sto→Prop) (tst:Rho→Sto→Bool→Sto→Prop) (em:Rho→Sto→Rho→Sto→Prop) (cenv:Env):Prop where
 tgt:∀ (B':Base) (ρ:Rho) (σ:Sto) (x:List AV) (ρ':Rho) (σ':Sto),Gd w B'→ti x ρ σ ρ' σ'→TiOk w A B' cenv f2 t x ρ σ ρ' σ'
 tst:∀ (B':Base) (ρ:Rho) (σ σ':Sto) (c:Bool),Gd w B'→tst ρ σ c σ'→TsOk w A B' cenv f2 (testsOf ifs cenv true) ρ σ c σ'
 emit:∀ D:Addr,EmOk w A cenv f2 acc D (emitAt (.ListComp elt gens scope pos) elt gens 1 (.ref D) cenv) em
theorem comp_core {ti:List AV→Rho→Sto→Rho→Sto→Prop}{tst:Rho→Sto→Bool→Sto→Prop}{em:Rho→Sto→Rho→Sto→Prop}{sc scope:Scope}{elt it t:Expr}{ifs:List Expr}{rest:List Comprehension}{pos pos':Pos}{v:AV}{xs:List (List AV)}{ρe:Rho}{use:Option (Value→Sem Unit)}{Q:Value→Shared→Prop}
  (hh:A.handled=none) (O:EnvOk env) (G:Gd w B) (hsc:ScOk sc env) (hok:compOk sc scope (⟨t,it,ifs,0⟩ :: rest)=true) (hcap:(capOf sc scope).all (fun p=>(f p.2).isSome)=true) (hf:∀ x,foldedSetIterable it env x=pure x)
  (h1:EvOk w A B env f (eval it env) ρ σ v σ₁) (hx:ItemsR σ₁ v xs) (hI:∀ cenv:Env,EnvOk cenv→cenv.scope=relabel scope env→InOk w A scope env (fun i=>((capOf sc scope).lookup i).bind f) σ₁.length elt (⟨t,it,ifs,0⟩ :: rest) pos t ifs ti tst em cenv)
  (h2:GenR ti tst em (fun σ=>Same σ₁ v σ) ρe σ₂ xs (fun _=>none) (σ₁++[.list []])) (S:St w B env f α ρ σ os s)
  (k:∀ α' s' D C,α <+: α'→St w B env f α' ρ σ₂ os s'→VR α' (.loc σ₁.length) (.ref D)→(∃ m,s'.heap.Ns C m)→C∉α'→C≠env.locals→B C=none→compPost (model pw w) A Ef use Q (.ref D) C (.ok .next) s') :
  wpAny (model pw w) A (comprehension (.ListComp elt (⟨t,it,ifs,0⟩ :: rest) scope pos) scope env pos' (newList []) false (eval it env) use) Q Ef s:=by
 refine xE05 (compOk_spec hok) fun o1 o2 o3 o4 o5=>?_
 refine wpAny_comprehension_free rfl hf (closure_ok (comp_clos hsc hok hcap S.rel)) o1 (fun x hx hl=>?_) (h1 α os s _ S fun α₁ x s₁ p1 S1 r1=>wpAny_mono (start_items (t:=t) hh hx S1 r1) ?_ fun _ _ x=>x.elim)
 ·obtain⟨i,hi,e⟩:=List.getElem_of_mem hx
  have e':scope.names[i]? = some (x.1,.local):=by rw [List.getElem?_eq_getElem hi,e,←hl]
  exact lookup_nodup o3 e'
 rintro it' s₂ ⟨I,o,rfl,S2,H,hit,hself⟩
 have hp2:α₁ <+: α₁++[s₂.heap.objs.size]:=⟨_,rfl⟩
 refine wpAny_newObj_type ?_
 refine xE02 (S2.alloc (o:={ cls:=.type "list",data:=.seq ([]:List Value).toArray }) (ao:=.list []) (t:=s₂.toks) rfl ⟨#[],0,rfl,.nil⟩) fun S3 r3=>?_
 have hIlt:I<s₂.heap.objs.size:=Heap.lt_size H.there
 have hgI:(s₂.heap.push { cls:=.type "list",data:=.seq ([]:List Value).toArray }).get? I=some o:=Heap.get?_push_of_some _ H.there
 generalize hH3:s₂.heap.push { cls:=.type "list",data:=.seq ([]:List Value).toArray }=H3 at S3 hgI ⊢
 have hz3:H3.objs.size=s₂.heap.objs.size+1:=by rw [←hH3,Heap.size_push]
 refine wpAny_newFunctionEnv o2 (by intro y hy;simp at hy) (fun h₁ hns hsb=>?_) o1
 have hold:∀ b o,H3.get? b=some o→h₁.get? b=some o:=fun b o e=>hsb.extBut b o (Nat.ne_of_lt (Heap.lt_size e)) (Heap.get?_push_of_some _ e)
 have hIl:I<H3.objs.size:=by rw [hz3];exact Nat.lt_succ_of_lt hIlt
 have hIa:I∉α₁++[s₂.heap.objs.size]:=fun hm=>by
  rcases List.mem_append.mp hm with hm | hm
  ·exact H.place hm
  ·rw [List.mem_singleton]at hm;exact absurd hm (Nat.ne_of_lt hIlt)
 have hXI:∀ a∈[I],B a=none:=fun a ha=>by rw [List.mem_singleton]at ha;subst ha;exact H.base
 let cenv:Env:={ (newEnv scope H3.objs.size env.globals (closOf env scope.names []) env.qual none .none (some env) builtinsNs)with scope:=relabel scope env }
 have hnod:((relabel scope env).names.map (·.1)).Nodup:=by
  have:(relabel scope env).names.map (·.1)=scope.names.map (·.1):=by
   unfold relabel
   simp only [List.map_map]
   refine List.map_congr_left fun p _=>?_
   obtain⟨n,k⟩:=p
   simp only [Function.comp]
   split <;> rfl
  rw [this];exact o3
 have Oc:EnvOk cenv:=⟨o1,O.globals,O.builtins,hnod⟩
 have P:=hI cenv Oc rfl
 have Rc:=comp_rel (X:=[I]) (cenv:=cenv) hsc hok hcap S3.rel rfl rfl rfl hns hold
 have Sc:St w (Mine.maskX H3 (α₁++[s₂.heap.objs.size]) (σ₁++[.list []]) [I]) cenv (fun i=>((capOf sc scope).lookup i).bind f) (α₁++[s₂.heap.objs.size]) (fun _=>none) (σ₁++[.list []]) os { s₂ with heap:=h₁,toks:=s₂.toks+([]:List (Str×Value)).length }:=⟨Rc,S3.gens,S3.os⟩
 have Hc:Hide (Mine.maskX H3 (α₁++[s₂.heap.objs.size]) (σ₁++[.list []]) [I]) cenv.locals (α₁++[s₂.heap.objs.size]) h₁ I o:=⟨hold _ _ hgI,hIa,Nat.ne_of_lt hIl,maskX_in (by simp)⟩
 obtain⟨J,Z,j⟩:=hit _ cenv _ _ h₁ Hc hp2 same_append
 have G':Gd w (Mine.maskX H3 (α₁++[s₂.heap.objs.size]) (σ₁++[.list []]) [I]):=G.mono (S3.rel.toS.subX hXI)
 have hD:(α₁++[s₂.heap.objs.size])[σ₁.length]? = some s₂.heap.objs.size:=by cases r3 with | loc h=>exact h
 refine compStart_at (by rfl) ?_ (fun Q hQ=>hself _ _ (hold _ _ hgI) hQ)
 refine gen_ok (by rfl) Z G' P.tgt P.tst (P.emit _) h2 Sc j hD fun α₃ s₅ p3 S5=>?_
 have hL:env.locals∉[I]:=fun hm=>by rw [List.mem_singleton]at hm;exact H.loc hm.symm
 have Sb:St w B env f α₃ ρ σ₂ os s₅:=⟨S3.rel.backX hXI hL S5.rel.toS p3,S5.gens,S5.os⟩
 refine xE12 S5.rel.loc fun m F _=>?_
 exact k α₃ s₅ _ _ (p1.trans (hp2.trans p3)) Sb (r3.mono p3) ⟨m,F⟩ (fun hm=>S5.rel.off _ hm rfl) (Nat.ne_of_gt S3.rel.ltL) (base_size S3.rel.keep)
theorem St.letC (S:St w B env f α ρ σ os s){C:Addr} (h1:C∉α) (h2:C≠env.locals) (h3:B C=none){h':Heap} (hs:Heap.SameBut C s.heap h'):St w B env f α ρ σ os { s with heap:=h' }:=
 ⟨S.rel.same fun b o q e=>hs.extBut b o (by
  rintro rfl
  rcases q with q | q | q
  ·rw [h3]at q;cases q
  ·exact h2 q
  ·exact h1 q) e,S.gens,S.os⟩
theorem ev_comp {ti:List AV→Rho→Sto→Rho→Sto→Prop}{tst:Rho→Sto→Bool→Sto→Prop}{em:Rho→Sto→Rho→Sto→Prop}{sc scope:Scope}{elt it t:Expr}{ifs:List Expr}{rest:List Comprehension}{pos:Pos}{v:AV}{xs:List (List AV)}{ρe:Rho}
  (hh:A.handled=none) (O:EnvOk env) (G:Gd w B) (hsc:ScOk sc env) (hok:compOk sc scope (⟨t,it,ifs,0⟩ :: rest)=true) (hcap:(capOf sc scope).all (fun p=>(f p.2).isSome)=true) (hf:∀ x,foldedSetIterable it env x=pure x)
  (h1:EvOk w A B env f (eval it env) ρ σ v σ₁) (hx:ItemsR σ₁ v xs) (hI:∀ cenv:Env,EnvOk cenv→cenv.scope=relabel scope env→InOk w A scope env (fun i=>((capOf sc scope).lookup i).bind f) σ₁.length elt (⟨t,it,ifs,0⟩ :: rest) pos t ifs ti tst em cenv)
  (h2:GenR ti tst em (fun σ=>Same σ₁ v σ) ρe σ₂ xs (fun _=>none) (σ₁++[.list []])) :
  EvOk w A B env f (eval (.ListComp elt (⟨t,it,ifs,0⟩ :: rest) scope pos) env) ρ σ (.loc σ₁.length) σ₂:=by
 intro α os s Q S k
 rw [eval_ListComp]
 refine comp_core (use:=none) hh O G hsc hok hcap hf h1 hx hI h2 S fun α' s' D C p S' r ⟨m,F⟩ hC hCL hB=>?_
 exact⟨m,F,fun h' hs=>k α' _ _ p (S'.letC hC hCL hB hs) r⟩
theorem ex_comp {ti:List AV→Rho→Sto→Rho→Sto→Prop}{tst:Rho→Sto→Bool→Sto→Prop}{em:Rho→Sto→Rho→Sto→Prop}{sc scope:Scope}{elt it t:Expr}{ifs:List Expr}{rest:List Comprehension}{pos spos py:Pos}{y:Str}{v:AV}{xs:List (List AV)}{ρe:Rho}
  (hh:A.handled=none) (O:EnvOk env) (G:Gd w B) (hsc:ScOk sc env) (hok:compOk sc scope (⟨t,it,ifs,0⟩ :: rest)=true) (hcap:(capOf sc scope).all (fun p=>(f p.2).isSome)=true) (hf:∀ x,foldedSetIterable it env x=pure x)
  (hsw:swapsWith (.ListComp elt (⟨t,it,ifs,0⟩ :: rest) scope pos) (some (.Name y py)) spos.line env=pure true)
  (h1:EvOk w A B env f (eval it env) ρ σ v σ₁) (hx:ItemsR σ₁ v xs) (hI:∀ cenv:Env,EnvOk cenv→cenv.scope=relabel scope env→InOk w A scope env (fun i=>((capOf sc scope).lookup i).bind f) σ₁.length elt (⟨t,it,ifs,0⟩ :: rest) pos t ifs ti tst em cenv)
  (h2:GenR ti tst em (fun σ=>Same σ₁ v σ) ρe σ₂ xs (fun _=>none) (σ₁++[.list []]))
  (hT:∀ B':Base,Gd w B'→TgOk w A B' env f (.Name y py) (.loc σ₁.length) ρ σ₂ ρ' σ₃) :
  ExOk w A B env f (exec (.Assign [.Name y py] (.ListComp elt (⟨t,it,ifs,0⟩ :: rest) scope pos) spos) env) ρ σ .next ρ' σ₃:=by
 intro α os s Q S k
 rw [exec_Assign_Name_used _ _ _ _ hsw]
 refine wpAny_bind (wpAny_standAt (wpAny_bind ?_))
 show wpAny _ A (do let _ ←comprehension (.ListComp elt (⟨t,it,ifs,0⟩ :: rest) scope pos) scope env _ (newList []) false (eval it env) (some (assign (.Name y py) env))) _ _ s
 refine wpAny_bind (wpAny_mono (comp_core (use:=some (assign (.Name y py) env)) (Q:=fun _ s'=>Q .next s') hh O G hsc hok hcap hf h1 hx hI h2 S fun α' s' D C p S' r ⟨m,F⟩ hC hCL hB=>?_) (fun _ s' hq=>wpAny_pure (wpAny_pure hq)) fun _ _ e=>e)
 refine byG fun GG20 kk20=>?_
 refine xE32 (id F) fun oC es ep gC rC=>?_
 refine kk20 ?_
 refine hT _ (G.mono S'.sub) α' os s' _ _ S'.mask r fun α₂ s₂ p2 S2=>?_
 have hm:Mine.mask s'.heap α' σ₂ env.locals C=some oC:=(mask_of (fun i e=>absurd (List.mem_of_getElem? e) hC) hCL).trans gC
 have g2:=S2.rel.keep _ _ hm
 have hC2:C∉α₂:=fun hp=>by
  obtain⟨i,hi,e⟩:=List.getElem_of_mem hp
  rcases S2.rel.offB i C (by rw [List.getElem?_eq_getElem hi,e])with q | ⟨_,j,kk,q,_⟩
  ·rw [hm]at q;cases q
  ·exact hC (List.mem_of_getElem? q)
 exact⟨m,⟨oC,es,ep,g2,rC⟩,fun h' hs=>k α₂ _ _ (p.trans p2) ((S2.weaken S'.sub).letC hC2 hCL hB hs) .next⟩
end
end Mine
end
section
open PySem PySem.W PyProof.Rows PySem.Calls PySem.SeqAt
set_option maxRecDepth 100000
set_option linter.unusedVariables false
set_option autoImplicit false
namespace Mine
theorem entry_set_iter:entryFor table "set.__iter__"=some Builtin.«frozenset.__iter__»:=
 entryFor_alias (id':="frozenset.__iter__") (by kernel_rfl) rfl (by decide +kernel) (by kernel_rfl)
theorem slot_si_next:Slot "set_iterator" "__next__" "set_iterator.__next__":=
 .of (owner:="set_iterator") (n:="__next__") (by rw [typeLookup_type,builtinLookup_eq_fast];kernel_rfl) (by decide +kernel) (by decide +kernel) (by decide +kernel)
  (by first | exact .inl (by decide +kernel) | exact .inr (by decide +kernel)) (by rw [isSubtype_type];kernel_rfl)
theorem entry_si_next:entryFor table "set_iterator.__next__"=some Builtin.«set_iterator.__next__»:=entryFor_of_tree (by kernel_rfl)
theorem args_si_next (a:Value):argsOk "set_iterator.__next__" ⟨[a],[]⟩:=by unfold argsOk;kernel_rfl
noncomputable def byTx (w:World):Bool:=w.params.followText "set-order"
structure SetO (w:World) (a:Addr) (o:Obj) (es:Array (Int×Value)) (ep:Nat) (t:SetTable):Prop where
 cls:o.cls=.type "set"
 data:o.data=.set es ep t
 fits:t.fits es.size=true
 led:t.led=true∨byTx w=true
 plain:t.plain=false∨es.size=0
noncomputable abbrev SiObj (first:Value) (i:Nat) (a:Addr) (n ep:Nat):Obj:={ cls:=.type "set_iterator",data:=.fields #[first,.int i 0,.ref a,.int n 0,.int ep 0] }
noncomputable abbrev TpObj (ps:List Nat):Obj:={ cls:=.type "tuple",data:=.seq (ps.map fun(i:Nat)=>rawInt i).toArray }
inductive SetIt (w:World) (a:Addr) (es:Array (Int×Value)) (ep:Nat) (t:SetTable):List Value→Nat→Obj→List (Addr×Obj)→Prop
 | text {i:Nat} (z:Int) (hb:byTx w=true):SetIt w a es ep t ((pickOrder (w.params.setOrder a ep) es).toList.map (·.2)) i (SiObj (.int z 0) i a es.size ep) []
 | drawn {i:Nat}{T:Addr}{ps:List Nat} (hb:byTx w=false) (hp:t.plain=false) (hn:1<es.size) (hps:∀ p∈ps,p<es.size):SetIt w a es ep t (ps.map fun p=>((es[p]?).map (·.2)).getD .none) i (SiObj (.ref T) i a es.size ep) [(T,TpObj ps)]
 | few {i:Nat} (z:Nat) (hb:byTx w=false) (hn:es.size≤1) (hl:t.led=true) (hz:(i=0∧z=0)∨(i=1∧∃ j,t.place[0]? = some j∧z=j+1)):SetIt w a es ep t (es.toList.map (·.2)) i (SiObj (.int z 0) i a es.size ep) []
section
variable {w:World}{A:Around}{E:Value→Shared→Prop}{s:Shared}{a I:Addr}{o:Obj}{es:Array (Int×Value)}{ep:Nat}{t:SetTable}{vals:List Value}{i:Nat}{oI:Obj}{hid:List (Addr×Obj)}{c:Bool}
theorem byText_of {M:Model}{Q:Bool→Shared→Prop} (hb:M.w.params.followText "set-order"=c) (h:Q c s):wpAny M A setsByText Q E s:=
 wpAny_bind (wpAny_askSetting (wpAny_pure (hb ▸ h)))
theorem setEntries_of {Q:Array (Int×Value)→Shared→Prop} (ho:s.heap.get? a=some o) (X:SetO w a o es ep t) (h:Q es s):wpAny (model pw w) A (setEntries a) Q E s:=
 wpAny_bind (wpAny_setState_of ho X.data X.fits (wpAny_pure h))
theorem setNext_text {slot:Nat}{Q:Option (Value×Nat)→Shared→Prop} (ho:s.heap.get? a=some o) (X:SetO w a o es ep t) (hb:byTx w=true)
  (h:Q (((pickOrder (w.params.setOrder a ep) es)[i]?).map fun e=>(e.2,slot)) s):wpAny (model pw w) A (setNext a slot i ep) Q E s:=by
 unfold setNext
 refine wpAny_bind (wpAny_setState_of ho X.data X.fits ?_)
 dsimp only
 refine wpAny_bind (byText_of (M:=model pw w) (c:=true) hb ?_)
 rw [if_pos rfl,if_neg (by simp)]
 refine wpAny_bind ?_
 unfold setWalk
 refine wpAny_bind (wpAny_setState_of ho X.data X.fits ?_)
 dsimp only
 refine wpAny_bind (byText_of (M:=model pw w) (c:=true) hb ?_)
 rw [if_pos rfl]
 exact wpAny_bind (wpAny_askSetting (wpAny_pure (wpAny_pure h)))
theorem setNext_few {slot:Nat}{Q:Option (Value×Nat)→Shared→Prop} (ho:s.heap.get? a=some o) (X:SetO w a o es ep t) (hb:byTx w=false) (hn:es.size≤1) (hl:t.led=true)
  (h:Q (match es[SetTable.below t.place slot]?,t.place[SetTable.below t.place slot]? with | some (_,x),some j=>some (x,j+1) | _,_=>none) s):wpAny (model pw w) A (setNext a slot i ep) Q E s:=by
 unfold setNext
 refine wpAny_bind (wpAny_setState_of ho X.data X.fits ?_)
 dsimp only
 refine wpAny_bind (byText_of (M:=model pw w) (c:=false) hb ?_)
 rw [if_neg (by decide)]
 show wpAny _ _ (if (!t.plain && decide (es.size > 1))=true then _ else _) _ _ _
 rw [if_neg (by simp;intro _;exact hn)]
 refine wpAny_bind ?_
 show wpAny _ _ (if (!t.led && !es.isEmpty)=true then _ else _) _ _ _
 rw [if_neg (by rw [hl];simp)]
 exact wpAny_pure (wpAny_pure h)
theorem si_put {first:Value}{nxt:Nat}{n:Nat}{x:Value}{P:Fin→Shared→Prop} (hI:s.heap.get? I=some (SiObj first i a n ep))
  (h:∀ h',h'.get? I=some (SiObj (.int nxt 0) (i+1) a n ep)→Heap.SameBut I s.heap h'→P (.done (.ret x)) { s with heap:=h' }) :
  wpAny (model pw w) A (setField (.ref I) 0 (rawInt (nxt:Int)) >>= fun _=>setField (.ref I) 1 (rawInt ((i:Int)+1)) >>= fun _=>ret x) P E s:=by
 refine wpAny_bind (wpAny_setField_rec hI (by simp) fun h₁ g₁ k₁=>?_)
 refine wpAny_bind (wpAny_setField_rec (s:={ s with heap:=h₁ }) g₁ (by simp) fun h₂ g₂ k₂=>?_)
 refine wpAny_pure (h h₂ ?_ (k₁.trans k₂))
 have e:((i:Int)+1)=((i+1:Nat):Int):=by push_cast;rfl
 rw [e]at g₂
 exact g₂
theorem si_next {Q:Option Value→Shared→Prop}{x:Value} (ho:s.heap.get? a=some o) (X:SetO w a o es ep t) (hI:s.heap.get? I=some oI) (hh:∀ p∈hid,s.heap.get? p.1=some p.2) (Z:SetIt w a es ep t vals i oI hid) (hx:vals[i]? = some x)
  (hQ:∀ h' oI',SetIt w a es ep t vals (i+1) oI' hid→h'.get? I=some oI'→Heap.SameBut I s.heap h'→Q (some x) { s with heap:=h' }):wpAny (model pw w) A (pyNext (.ref I)) Q E s:=by
 have hT:s.TypeIs (.ref I) "set_iterator":=⟨_,hI,by cases Z <;> rfl⟩
 unfold pyNext
 refine wpAny_bind (wpAny_attempt (wpAny_callSpecial?_slot (name:=Str.ofString "__next__") hT slot_si_next (wpAny_call_entry slot_si_next hT entry_si_next ?_ (args_si_next _))))
 unfold Builtin.«set_iterator.__next__»
 refine wpAny_bind (wpAny_pure ?_)
 cases Z with
 | text z hb=>
  refine wpAny_bind (wpAny_fieldsOf hI rfl ?_)
  dsimp only
  refine wpAny_bind (setEntries_of ho X ?_)
  rw [if_neg (by simp)]
  rw [List.getElem?_map]at hx
  simp only [Int.toNat_natCast]
  refine wpAny_bind (setNext_text ho X hb ?_)
  rw [←Array.getElem?_toList]
  cases e:(pickOrder (w.params.setOrder a ep) es).toList[i]? with
  | none=>rw [e]at hx;cases hx
  | some p=>
   rw [e]at hx
   simp only [Option.map_some,Option.some.injEq]at hx
   subst hx
   exact si_put (n:=es.size) hI fun h' g k=>⟨_,rfl,wpAny_pure (hQ h' _ (.text _ hb) g k)⟩
 | few z hb hn hl hz=>
  refine wpAny_bind (wpAny_fieldsOf hI rfl ?_)
  dsimp only
  refine wpAny_bind (setEntries_of ho X ?_)
  rw [if_neg (by simp)]
  simp only [Int.toNat_natCast]
  refine wpAny_bind (setNext_few ho X hb hn hl ?_)
  have hsz:t.place.size=es.size:=by have:=X.fits;unfold SetTable.fits at this;simp only [Bool.and_eq_true,beq_iff_eq]at this;exact this.1
  have hlt:i<es.toList.length:=by
   rcases Nat.lt_or_ge i es.toList.length with q | q
   ·exact q
   ·rw [List.getElem?_eq_none (by simpa using q)]at hx;cases hx
  simp only [Array.length_toList]at hlt
  have h1:es.size=1:=by lia
  obtain⟨rfl,rfl⟩:i=0∧z=0:=by rcases hz with q | q <;> lia
  obtain⟨p,hp⟩:=len1 (l:=es.toList) (by simpa using h1)
  obtain⟨j,hj⟩:=len1 (l:=t.place.toList) (by simpa using hsz.trans h1)
  have e1:es=#[p]:=by rw [←Array.toArray_toList (xs:=es),hp]
  have e2:t.place=#[j]:=by rw [←Array.toArray_toList (xs:=t.place),hj]
  have hb0:SetTable.below t.place 0=0:=by rw [e2];rfl
  rw [hb0,e2]
  rw [hp]at hx
  simp only [List.map_cons,List.map_nil,List.getElem?_cons_zero,Option.some.injEq]at hx
  subst hx
  have e3:es[0]? = some p:=by rw [e1];rfl
  rw [e3]
  exact si_put (n:=es.size) (nxt:=j+1) hI fun h' g k=>⟨_,rfl,wpAny_pure (hQ h' _ (.few (j+1) hb hn hl (.inr ⟨rfl,j,by rw [e2];rfl,rfl⟩)) g k)⟩
 | drawn hb hp hn hps=>
  rename_i T ps
  refine wpAny_bind (wpAny_fieldsOf hI rfl ?_)
  dsimp only
  refine wpAny_bind (setEntries_of ho X ?_)
  rw [if_neg (by simp)]
  rw [List.getElem?_map]at hx
  have hTg:=hh _ (List.mem_singleton.mpr rfl)
  refine wpAny_bind (wpAny_seqItems hTg rfl ?_)
  cases e:ps[i]? with
  | none=>rw [e]at hx;cases hx
  | some p=>
   rw [e]at hx
   simp only [Option.map_some,Option.some.injEq]at hx
   have hpl:p<es.size:=hps p (List.mem_of_getElem? e)
   have e1:(ps.map fun(i:Nat)=>rawInt i).toArray[(i:Int).toNat]? = some (rawInt (p:Int)):=by simp [e]
   dsimp only
   rw [e1]
   dsimp only [rawInt]
   have e2:es[p]? = some es[p]:=Array.getElem?_eq_getElem hpl
   rw [e2]at hx
   simp only [Option.map_some,Option.getD_some]at hx
   subst hx
   refine wpAny_bind ?_
   unfold setNextDrawn
   refine wpAny_bind (wpAny_setState_of ho X.data X.fits ?_)
   simp only [Int.toNat_natCast]
   rw [if_neg (by simp),e2]
   refine wpAny_pure (wpAny_bind (wpAny_setField_rec hI (by simp) fun h₁ g₁ k₁=>wpAny_pure ⟨_,rfl,wpAny_pure (hQ h₁ _ (.drawn (T:=T) (ps:=ps) hb hp hn hps) ?_ k₁)⟩))
   have e:((i:Int)+1)=((i+1:Nat):Int):=by push_cast;rfl
   rw [e]at g₁
   exact g₁
theorem si_stop {i':Nat}{first:Value}{n:Nat}{Q:Option Value→Shared→Prop} (hA:A.handled=none) (hT:s.TypeIs (.ref I) "set_iterator") (hI:s.heap.get? I=some (SiObj first i' a n ep))
  (hQ:∀ h',Heap.ExtBut I s.heap h'→Q none { s with heap:=h' }) :
  wpAny (model pw w) A.in1 (setField (.ref I) 2 Value.none >>= fun _=>newExc (.type "StopIteration") [] >>= fun e=>raiseNew e) (fun fin s'=>∃ v,fin=Fin.done (Flow.ret v)∧wpAny (model pw w) A (pure (some v)) Q E s')
   (fun e s'=>wpAny (model pw w) A (do if (←isInstance e (.type "StopIteration"))=true then pure none else throw e) Q E s') s:=by
 refine wpAny_bind (wpAny_setField_rec hI (by simp) fun h₁ g₁ k₁=>?_)
 show wpAny _ _ (newExc (.type "StopIteration") [] >>= _) _ _ _
 refine wpAny_bind ?_
 unfold newExc newTuple
 refine wpAny_bind (wpAny_newObj_type ?_ (by size_fits))
 refine wpAny_bind (m:=firstArgMember _ _) (wpAny_of_eq (a:=Value.none) (by first | rfl | (simp only [firstArgMember];rfl)) ?_)
 refine wpAny_newObj_type ?_ (by size_fits)
 unfold raiseNew
 refine wpAny_bind (wpAny_handled ?_)
 rw [show A.in1.handled=none from hA]
 refine wpAny_bind (wpAny_pure (wpAny_throw ?_))
 refine wpAny_bind (wpAny_isInstance (T:="StopIteration") (b:=true) ⟨_,Heap.get?_push_size _ rfl,rfl⟩ isSubtype_stop ?_)
 exact wpAny_pure (hQ _ ((k₁.extBut.push _).push _))
theorem si_end {Q:Option Value→Shared→Prop} (hA:A.handled=none) (ho:s.heap.get? a=some o) (X:SetO w a o es ep t) (hI:s.heap.get? I=some oI) (hh:∀ p∈hid,s.heap.get? p.1=some p.2) (Z:SetIt w a es ep t vals i oI hid) (hx:vals[i]? = none)
  (hQ:∀ h',Heap.ExtBut I s.heap h'→Q none { s with heap:=h' }):wpAny (model pw w) A (pyNext (.ref I)) Q E s:=by
 have hT:s.TypeIs (.ref I) "set_iterator":=⟨_,hI,by cases Z <;> rfl⟩
 unfold pyNext
 refine wpAny_bind (wpAny_attempt (wpAny_callSpecial?_slot (name:=Str.ofString "__next__") hT slot_si_next (wpAny_call_entry slot_si_next hT entry_si_next ?_ (args_si_next _))))
 unfold Builtin.«set_iterator.__next__»
 refine wpAny_bind (wpAny_pure ?_)
 cases Z with
 | text z hb=>
  refine wpAny_bind (wpAny_fieldsOf hI rfl ?_)
  dsimp only
  refine wpAny_bind (setEntries_of ho X ?_)
  rw [if_neg (by simp)]
  rw [List.getElem?_map]at hx
  simp only [Int.toNat_natCast]
  refine wpAny_bind (setNext_text ho X hb ?_)
  rw [←Array.getElem?_toList]
  cases e:(pickOrder (w.params.setOrder a ep) es).toList[i]? with
  | some p=>rw [e]at hx;cases hx
  | none=>exact si_stop hA hT hI hQ
 | few z hb hn hl hz=>
  refine wpAny_bind (wpAny_fieldsOf hI rfl ?_)
  dsimp only
  refine wpAny_bind (setEntries_of ho X ?_)
  rw [if_neg (by simp)]
  simp only [Int.toNat_natCast]
  refine wpAny_bind (setNext_few ho X hb hn hl ?_)
  have hsz:t.place.size=es.size:=by have:=X.fits;unfold SetTable.fits at this;simp only [Bool.and_eq_true,beq_iff_eq]at this;exact this.1
  have hge:es.size≤i:=by simpa using hx
  have key:es[SetTable.below t.place z]? = none:=by
   rcases Nat.eq_zero_or_pos es.size with q | q
   ·rw [Array.getElem?_eq_none (by lia)]
   ·have h1:es.size=1:=by lia
    obtain⟨j,hj⟩:=len1 (l:=t.place.toList) (by simpa using hsz.trans h1)
    have e2:t.place=#[j]:=by rw [←Array.toArray_toList (xs:=t.place),hj]
    rcases hz with ⟨q1,q2⟩ | ⟨q1,j',q2,q3⟩
    ·lia
    ·rw [e2]at q2
     have q2:some j=some j':=q2
     cases q2
     subst q3
     have:SetTable.below t.place (j+1)=1:=by
      rw [e2]
      rw [show SetTable.below #[j] (j+1)=if j<j+1 then 1 else 0 from by kernel_rfl,if_pos (Nat.lt_succ_self j)]
     rw [this,Array.getElem?_eq_none (by lia)]
  rw [key]
  exact si_stop hA hT hI hQ
 | drawn hb hp hn hps=>
  rename_i T ps
  refine wpAny_bind (wpAny_fieldsOf hI rfl ?_)
  dsimp only
  refine wpAny_bind (setEntries_of ho X ?_)
  rw [if_neg (by simp)]
  have hTg:=hh _ (List.mem_singleton.mpr rfl)
  refine wpAny_bind (wpAny_seqItems hTg rfl ?_)
  have hge:ps.length≤i:=by simpa using hx
  have e1:(ps.map fun(i:Nat)=>rawInt i).toArray[(i:Int).toNat]? = none:=by simp [hge]
  dsimp only
  rw [e1]
  dsimp only
  refine wpAny_bind (wpAny_setField_rec hI (by simp) fun h₁ g₁ k₁=>?_)
  exact si_stop (s:={ s with heap:=h₁ }) (first:=.int 0 0) hA ⟨_,g₁,rfl⟩ g₁ fun h' hk=>hQ h' fun b o hb e=>hk b o hb (k₁.extBut b o hb e)
end
end Mine
end
section
open PySem PySem.W PyProof.Rows PySem.Calls PySem.SeqAt
set_option maxRecDepth 100000
set_option linter.unusedVariables false
set_option autoImplicit false
namespace Mine
theorem cons_erase {β:Type}:∀ {l:List β}{i:Nat} (h:i<l.length),(l[i] :: l.eraseIdx i).Perm l
 | [],_,h=>by simp at h
 | x :: l,0,h=>.refl _
 | x :: l,i+1,h=>by
  have h':i<l.length:=by simpa using h
  have:=cons_erase (l:=l) (i:=i) h'
  simp only [List.getElem_cons_succ,List.eraseIdx_cons_succ]
  exact(List.Perm.swap x l[i] _).trans (this.cons x)
theorem pick_go {β:Type}{next:Nat→Nat}:∀ (n k:Nat) (left:List β) (out:Array β),n=left.length→(pickOrder.go next n k left out).toList.Perm (out.toList++left)
 | 0,k,left,out,h=>by
  have:left=[]:=List.eq_nil_of_length_eq_zero h.symm
  subst this
  rw [List.append_nil]
  exact .refl _
 | n+1,k,left,out,h=>by
  have hlt:next k % left.length<left.length:=Nat.mod_lt _ (h ▸ Nat.succ_pos n)
  rw [show pickOrder.go next (n+1) k left out=(left[next k % left.length]?).elim out fun x=>pickOrder.go next n (k+1) (left.eraseIdx (next k % left.length)) (out.push x)from by kernel_rfl,List.getElem?_eq_getElem hlt]
  refine(pick_go n (k+1) _ _ (by rw [List.length_eraseIdx_of_lt hlt];lia)).trans ?_
  rw [Array.toList_push,List.append_assoc]
  exact List.Perm.append_left _ (cons_erase hlt)
theorem pick_perm {β:Type}{next:Nat→Nat} (xs:Array β):(pickOrder next xs).toList.Perm xs.toList:=by
 have:=pick_go (next:=next) xs.size 0 xs.toList #[] (by simp)
 exact this
section
variable {w:World}{A:Around}{E:Value→Shared→Prop}{s:Shared}{a I:Addr}{o:Obj}{es:Array (Int×Value)}{ep:Nat}{t:SetTable}{vals:List Value}{i:Nat}{oI:Obj}{hid:List (Addr×Obj)}{c:Bool}
theorem wpAny_choose {M:Model}{src:Source}{n:Nat}{Q:Nat→Shared→Prop} (hn:n≠0) (h:∀ i d,i<n→Q i { s with drawn:=d }):wpAny M A (choose src n) Q E s:=fun Γ p hΓ=>
 ⟨hn,h _ _ (Nat.mod_lt _ (Nat.pos_of_ne_zero hn))⟩
theorem draw_ok {M:Model}{β:Type}:∀ (n:Nat) (xs:List β) (s:Shared) (Q:List β→Shared→Prop),xs.length≤n→(∀ ys d,ys.Perm xs→Q ys { s with drawn:=d })→wpAny M A (drawOrder n xs) Q E s
 | 0,xs,s,Q,h,k=>by
  have:xs=[]:=List.eq_nil_of_length_eq_zero (by lia)
  subst this
  exact wpAny_pure (k [] s.drawn (.refl _))
 | n+1,[],s,Q,h,k=>wpAny_pure (k [] s.drawn (.refl _))
 | n+1,x :: xs,s,Q,h,k=>by
  refine wpAny_bind (m:=choose .order (x :: xs).length) (wpAny_choose (by simp) fun i d hi=>?_)
  rw [List.getElem?_eq_getElem hi]
  dsimp only
  refine wpAny_bind (draw_ok n _ _ _ (by rw [List.length_eraseIdx_of_lt hi];lia) fun ys d' hp=>?_)
  exact wpAny_pure (k _ d' ((hp.cons _).trans (cons_erase hi)))
theorem si_start {Q:Value→Shared→Prop} (ho:s.heap.get? a=some o) (X:SetO w a o es ep t) (hz:es.size≤900)
  (hQ:∀ h' d I vals oI hid,SetIt w a es ep t vals 0 oI hid→vals.Perm (es.toList.map (·.2))→h'.get? I=some oI→s.heap.objs.size≤I→(∀ p∈hid,h'.get? p.1=some p.2∧s.heap.objs.size≤p.1∧p.1≠I)→(∀ b o,s.heap.get? b=some o→h'.get? b=some o)→
   Q (.ref I) { s with heap:=h',drawn:=d }):wpAny (model pw w) A (pyIter (.ref a)) Q E s:=by
 have hT:s.TypeIs (.ref a) "set":=⟨_,ho,X.cls⟩
 refine wpAny_pyIter_slot hT F.slot_set_iter (wpAny_call_entry F.slot_set_iter hT entry_set_iter ?_ (F.args_set_iter_1 _))
 unfold Builtin.«frozenset.__iter__»
 refine wpAny_bind (wpAny_pure ?_)
 refine wpAny_bind ?_
 unfold Builtin.Frozenset.sizeOf
 refine wpAny_bind (setEntries_of ho X (wpAny_pure ?_))
 refine wpAny_bind ?_
 unfold setDrawn
 refine wpAny_bind (wpAny_setState_of ho X.data X.fits ?_)
 dsimp only
 have tl:∀ {d:Drawn}{h₂:Heap}{first:Value}{vals:List Value}{hid:List (Addr×Obj)},SetIt w a es ep t vals 0 (SiObj first 0 a es.size ep) hid→vals.Perm (es.toList.map (·.2))→(∀ b o,s.heap.get? b=some o→h₂.get? b=some o)→s.heap.objs.size≤h₂.objs.size→
   (∀ p∈hid,h₂.get? p.1=some p.2∧s.heap.objs.size≤p.1∧p.1<h₂.objs.size)→
   wpAny (model pw w) A.in1 (setEpoch a >>= fun e=>newFields "set_iterator" [first,rawInt 0,.ref a,rawInt (es.size:Int),rawInt (e:Int)] >>= fun v=>ret v) (fun fin s'=>∃ v,fin=Fin.done (Flow.ret v)∧(∃ T' r,s'.TypeIs v T'∧typeLookup (.type T') "__next__"=pure (some r)∧Q v s')) E { s with heap:=h₂,drawn:=d }:=by
  intro d h₂ first vals hid Z hp hk hsz hh
  refine wpAny_bind (wpAny_setEpoch_of (hk _ _ ho) X.data X.fits ?_)
  refine wpAny_bind (wpAny_newObj_type (wpAny_pure ⟨_,rfl,"set_iterator",_,⟨_,Heap.get?_push_size _ rfl,rfl⟩,slot_si_next.lookup,?_⟩))
  exact hQ _ d _ vals _ hid Z hp (Heap.get?_push_size _ rfl) hsz (fun p hp'=>⟨Heap.get?_push_of_some _ (hh p hp').1,(hh p hp').2.1,Nat.ne_of_lt (hh p hp').2.2⟩) fun b o e=>Heap.get?_push_of_some _ (hk b o e)
 refine wpAny_bind ?_
 cases hb:byTx w with
 | true=>
  refine byText_of (M:=model pw w) (c:=true) hb (wpAny_pure ?_)
  rw [if_neg (by simp)]
  refine wpAny_bind (wpAny_pure ?_)
  exact tl (d:=s.drawn) (h₂:=s.heap) (.text 0 hb) ((pick_perm es).map _) (fun _ _ e=>e) (Nat.le_refl _) (fun p hp=>by cases hp)
 | false=>
  refine byText_of (M:=model pw w) (c:=false) hb (wpAny_pure ?_)
  show wpAny _ _ (if (!false && (!t.plain && decide (es.size > 1)))=true then _ else _) _ _ _
  by_cases hn:es.size≤1
  ·rw [if_neg (by simp;intro _;exact hn)]
   refine wpAny_bind (wpAny_pure ?_)
   have hl:t.led=true:=X.led.elim id fun q=>by rw [hb]at q;cases q
   exact tl (d:=s.drawn) (h₂:=s.heap) (.few 0 hb hn hl (.inl ⟨rfl,rfl⟩)) (.refl _) (fun _ _ e=>e) (Nat.le_refl _) (fun p hp=>by cases hp)
  ·have hp:t.plain=false:=X.plain.elim id fun q=>by lia
   rw [if_pos (by rw [hp];simp;lia)]
   refine wpAny_bind (draw_ok es.size (List.range es.size) _ _ (by simp) fun ps d hperm=>?_)
   unfold newTuple
   have hlen:ps.length=es.size:=by have:=hperm.length_eq;simpa using this
   refine wpAny_bind (wpAny_newObj_type ?_ (size_line (by simp;lia)))
   have hmem:∀ p∈ps,p<es.size:=fun p hp=>List.mem_range.mp (hperm.mem_iff.mp hp)
   refine tl (d:=d) (vals:=ps.map fun p=>((es[p]?).map (·.2)).getD .none) (hid:=[(s.heap.objs.size,TpObj ps)]) (.drawn hb hp (by lia) hmem) ?_ (fun b o e=>Heap.get?_push_of_some _ e) (by rw [Heap.size_push];exact Nat.le_succ _) (fun p hp=>?_)
   ·refine(hperm.map _).trans ?_
    have:(List.range es.size).map (fun p=>((es[p]?).map (·.2)).getD .none)=es.toList.map (·.2):=by
     apply List.ext_getElem
     ·simp
     ·intro i h1 h2
      have hi:i<es.size:=by simpa using h1
      simp [Array.getElem?_eq_getElem hi]
    rw [this]
   ·rw [List.mem_singleton]at hp
    subst hp
    exact⟨Heap.get?_push_size _ rfl,Nat.le_refl _,by rw [Heap.size_push];exact Nat.lt_succ_self _⟩
end
end Mine
end
section
open PySem PySem.W PyProof.Rows PySem.Calls PySem.SeqAt
set_option maxRecDepth 100000
set_option linter.unusedVariables false
set_option autoImplicit false
namespace Mine
section
variable {w:World}{A:Around}{B B':Base}{env:Env}{f:Nat→Option Nat}{α α':List Addr}{ρ ρ' ρ₁ ρ₂:Rho}{σ σ' σ₁ σ₂ σ₃ σ₄:Sto}{os:OsState}{s s':Shared}{I:Addr}{h h':Heap}{o:Obj}
structure Stay (env:Env) (α:List Addr) (σ:Sto) (h:Heap) (d:Nat) (a:Addr) (o:Obj):Prop where
 at_:α[d]? = some a
 there:h.get? a=some o
 lock:Locked σ d
 loc:a≠env.locals
 only:∀ j:Nat,α[j]? = some a→Locked σ j
theorem Stay.keep {d:Nat}{a:Addr} (X:Stay env α σ h d a o) (R:Rel w (Mine.mask h α σ env.locals) env f α' ρ' σ' h') (p:α <+: α') (hg:Locked σ' d):Stay env α' σ' h' d a o:=by
 have hm:Mine.mask h α σ env.locals a=some o:=(mask_of (fun j e=>X.only j e) X.loc).trans X.there
 refine⟨getElem?_pre p X.at_,R.keep _ _ hm,hg,X.loc,fun j e=>?_⟩
 have:j=d:=nodup_inj R.nd e (getElem?_pre p X.at_)
 subst this;exact hg
theorem Hide.turn' {H:List (Addr×Obj)} (S:St w B env f α ρ σ os s){oI:Obj} (HI:Hide B env.locals α s.heap I oI) (hs:Heap.ExtBut I s.heap h'){p:Addr×Obj} (Hp:Hide B env.locals α s.heap p.1 p.2) (hne:p.1≠I):Hide B env.locals α h' p.1 p.2:=⟨hs _ _ hne Hp.there,Hp.place,Hp.loc,Hp.base⟩
theorem iter_set (hh:A.handled=none){d:Nat}{t:Expr}{xs:List Str}{a:Addr}{es:Array (Int×Value)}{ep:Nat}{tb:SetTable}{vals:List Value}{hid:List (Addr×Obj)} (X:SetO w a o es ep tb) (hl:vals.length=xs.length)
  (hv:∀ (i:Nat) (x:Str),xs[i]? = some x→∃ tk,vals[i]? = some (.str x tk)) :
  Iter w A B env I t (xs.map fun x=>[.str x]) (fun σ=>Locked σ d)
   (fun i α σ h=>∃ oI,SetIt w a es ep tb vals i oI hid∧Hide B env.locals α h I oI∧(∀ p∈hid,Hide B env.locals α h p.1 p.2∧p.1≠I)∧Stay env α σ h d a o):=by
 refine⟨?_,?_,?_⟩
 ·rintro f α ρ σ os s i x Q S ⟨oI,Z,H,Hh,Y⟩ hx k
  rw [List.getElem?_map]at hx
  cases hy:xs[i]? with
  | none=>rw [hy]at hx;cases hx
  | some y=>
   rw [hy]at hx;cases hx
   obtain⟨tk,hvi⟩:=hv i y hy
   refine si_next Y.there X H.there (fun p hp=>(Hh p hp).1.there) Z hvi fun h' oI' Z' g' hs=>⟨_,rfl,?_⟩
   have hne:a≠I:=by rintro rfl;exact H.place (List.mem_of_getElem? Y.at_)
   refine go_plain (n:="set_iterator") g' (by cases Z' <;> rfl) (by decide) (k _ _ (H.turn S hs.extBut) ⟨oI',Z',H.put g',fun p hp=>⟨Hide.turn' (H:=hid) S H hs.extBut (Hh p hp).1 (Hh p hp).2,(Hh p hp).2⟩,Y.at_,hs.extBut _ _ hne Y.there,Y.lock,Y.loc,Y.only⟩ (.str _ _))
 ·rintro f α ρ σ os s i Q S ⟨oI,Z,H,Hh,Y⟩ hx k
  refine si_end hh Y.there X H.there (fun p hp=>(Hh p hp).1.there) Z ?_ fun h' hs=>⟨rfl,k _ (H.turn S hs)⟩
  simp only [List.getElem?_map,Option.map_eq_none_iff,List.getElem?_eq_none_iff]at hx
  rw [List.getElem?_eq_none_iff];lia
 ·rintro f α α' ρ' σ σ' h h' i ⟨oI,Z,H,Hh,Y⟩ R p hg
  exact⟨oI,Z,H.keep R,fun q hq=>⟨(Hh q hq).1.keep R,(Hh q hq).2⟩,Y.keep R p hg⟩
theorem SetR.setO {xs:List Str}{a:Addr} (r:SetR w xs o):∃ es ep t,SetO w a o es ep t∧ElemsOf (strKind pw w) es.toList∧(∀ k,xs.contains k=true↔∃ e∈es.toList,(strKind pw w).is k e.2=true)∧es.size=xs.length∧es.size<scanBound:=by
 refine byG fun GG2 kk2=>?_
 refine xE02 r fun h1 q15_=>?_
 refine xE38 q15_ fun es ep t h2 h3 h4 h5 h6 h7 h8 h9=>?_
 refine kk2 ?_
 exact⟨es,ep,t,⟨h1.1,h2,h6,h8,h9⟩,h3,h4,h7,h5⟩
theorem is_str {k:Str}{v:Value} (h:(strKind pw w).is k v=true):∃ t,v=.str k t:=Value.isStrOf_shape h
theorem locked_set {d:Nat}{k:LK} (hd:d<σ.length):Locked (σ.set d (.locked k)) d:=⟨k,List.getElem?_set_self hd⟩
theorem start_lock {v:AV}{x:Value}{t:Expr}{d:Nat}{k:LK}{xs:List (List AV)} (hh:A.handled=none) (e:LockR σ v d (k) (xs)) (S:St w B env f α ρ σ os s) (r:VR α v x) :
  wpAny (model pw w) A (pyIter x) (fun it s'=>∃ I J,it=.ref I∧St w B env f α ρ (σ.set d (.locked k)) os s'∧Iter w A B env I t xs (fun σ=>Locked σ d) J∧J 0 α (σ.set d (.locked k)) s'.heap∧∃ a,α[d]? = some a∧B a=none) Ef s:=by
 cases e with
 | @keys _ _ es hl hd hes0 hes1=>
     refine VR.refE r fun av r=>?_
     refine byG fun GG4 kk4=>?_
     refine xE13 (S.at r hl) fun o1 g1 q6_ hm=>?_
     refine xE13 q6_ fun da hda hc1 hd1=>?_
     refine xE13 (S.at (.loc hda) hd) fun od gd rd _=>?_
     refine xE11 (strK_of hes0) fun ks q7_=>?_
     subst q7_
     refine xE13 (rd.1 ks rfl) fun kvs hD e1 e2=>?_
     refine xE02 (id hD) fun hex q8_=>?_
     refine xE24 q8_ fun es' ep hdat hk hpr hn=>?_
     refine kk4 ?_
     have hDA:∀ h:Heap,h.get? da=some od→h.DictAt (strKind pw w) da kvs ep:=fun h g=>⟨od,es',g,hex,hdat,hk,hpr,hn⟩
     have hBa:B da=none:=(S.rel.offB d da hda).elim id fun⟨⟨es,q⟩,_⟩=>by rw [hd]at q;cases q
     have hdl:d<σ.length:=(List.getElem?_eq_some_iff.mp hd).1
     refine kdl_pyIter_keys ⟨o1,g1,hc1,hd1⟩ (hDA _ gd) ?_
     have S1:=S.push { cls:=.type "dict_keyiterator",data:=.fields #[.ref da,.int 0 0,.int kvs.length 0,.int ep 0] } (t:=s.toks)
     have R2:=S1.rel.see (ao:=.locked (.dict (ks.map fun p=>(.str p.1,p.2)))) hda hBa (fun o ho=>by
      have:o=od:=by have q:=Heap.get?_push_of_some { cls:=.type "dict_keyiterator",data:=.fields #[.ref da,.int 0 0,.int kvs.length 0,.int ep 0] } gd;rw [q]at ho;exact(Option.some.inj ho).symm
      subst this;exact rd)
     have hxs:(ks.map fun p=>(AV.str p.1,p.2)).map (fun e=>[e.1])=ks.map fun p=>[AV.str p.1]:=by simp [List.map_map,Function.comp_def]
     rw [hxs]
     have H0:Hide B env.locals α (s.heap.push { cls:=.type "dict_keyiterator",data:=.fields #[.ref da,.int 0 0,.int kvs.length 0,.int ep 0] }) s.heap.objs.size { cls:=.type "dict_keyiterator",data:=.fields #[.ref da,.int 0 0,.int kvs.length 0,.int ep 0] }:=Hide.new S rfl
     refine⟨_,_,rfl,⟨R2,S.gens,S.os⟩,iter_keys hh e1 hDA,⟨_,H0,rfl,rfl,hda,Heap.get?_push_of_some _ gd,locked_set hdl,S.rel.off _ (List.mem_of_getElem? hda),fun _ j ej=>?_⟩,da,hda,hBa⟩
     have:j=d:=nodup_inj S.rel.nd ej hda
     subst this;exact locked_set hdl
 | @set _ ys hl hys=>
    refine VR.refE r fun av r=>?_
    refine byG fun GG5 kk5=>?_
    refine xE13 (S.at r hl) fun o1 g1 r1 hm=>?_
    refine xE35 (SetR.setO (a:=av) r1) fun es ep tb X hel hmem hsz hbd=>?_
    refine kk5 ?_
    have hBa:B av=none:=(S.rel.offB d av hm).elim id fun⟨⟨es,q⟩,_⟩=>by rw [hl]at q;cases q
    have hdl:d<σ.length:=(List.getElem?_eq_some_iff.mp hl).1
    refine si_start g1 X (by lia) fun h' dr I vals oI hid Z hp gI hI hhid hk=>?_
    have hvl:vals.length=ys.length:=by rw [hp.length_eq];simp [hsz]
    have hv:∀ (i:Nat) (x:Str),ys[i]? = some x→∃ tk,vals[i]? = some (.str x tk):=by
     intro i x hx
     have hlt:i<ys.length:=(List.getElem?_eq_some_iff.mp hx).1
     obtain rfl:i=0:=by lia
     refine xE11 (len1 (l:=ys) (by lia)) fun y q12_=>?_
     subst q12_
     simp only [List.getElem?_cons_zero,Option.some.injEq]at hx
     subst hx
     refine xE11 (len1 (l:=vals) (by simpa using hvl)) fun u q13_=>?_
     subst q13_
     refine xE12 ((hmem y).mp (by simp)) fun e he hi=>?_
     refine xE11 (is_str hi) fun tk he2=>?_
     have:e.2∈[u]:=hp.mem_iff.mpr (List.mem_map.mpr ⟨e,he,rfl⟩)
     rw [List.mem_singleton]at this
     exact⟨tk,by rw [←this,he2];rfl⟩
    have S1:St w B env f α ρ σ os { s with heap:=h',drawn:=dr }:=⟨S.rel.keeps hk,S.gens,S.os⟩
    have R2:=S1.rel.see (ao:=.locked (.set ys)) hm hBa (fun o ho=>by
      have:o=o1:=by have q:=hk _ _ g1;rw [q]at ho;exact(Option.some.inj ho).symm
      subst this;exact r1)
    have fresh:∀ {b:Addr}{ob:Obj},h'.get? b=some ob→s.heap.objs.size≤b→Hide B env.locals α h' b ob:=fun {b ob} gb hb=>
     ⟨gb,fun hm=>absurd (S.rel.lt hm) (Nat.not_lt.mpr hb),fun e=>absurd S.rel.ltL (by rw [←e];exact Nat.not_lt.mpr hb),by
      cases q:B b with
      | none=>rfl
      | some ob=>exact absurd (Heap.lt_size (S.rel.keep _ _ q)) (Nat.not_lt.mpr hb)⟩
    refine⟨I,_,rfl,⟨R2,S.gens,S.os⟩,iter_set hh (a:=av) X hvl hv,⟨oI,Z,fresh gI hI,fun p hp'=>⟨fresh (hhid p hp').1 (hhid p hp').2.1,(hhid p hp').2.2⟩,hm,hk _ _ g1,locked_set hdl,S.rel.off _ (List.mem_of_getElem? hm),fun j ej=>?_⟩,av,hm,hBa⟩
    have:j=d:=nodup_inj S.rel.nd ej hm
    subst this;exact locked_set hdl
end
end Mine
end
section
open PySem PySem.W PyProof.Rows PySem.Calls PySem.SeqAt
set_option maxRecDepth 100000
set_option linter.unusedVariables false
set_option autoImplicit false
namespace Mine
section
variable {w:World}{A:Around}{B B':Base}{env:Env}{f:Nat→Option Nat}{α α':List Addr}{ρ ρ' ρ₁ ρ₂:Rho}{σ σ' σ₁ σ₂ σ₃ σ₄:Sto}{os:OsState}{s s':Shared}{I:Addr}{h h':Heap}{o:Obj}
theorem ex_for {ti:List AV→Rho→Sto→Rho→Sto→Prop}{bd:Rho→Sto→Fl→Rho→Sto→Prop}{t it:Expr}{b:List Stmt}{pos:Pos}{v:AV}{xs:List (List AV)}{fl:Fl} (hh:A.handled=none) (G:Gd w B) (hf:∀ x,foldedSetIterable it env x=pure x) (h1:EvOk w A B env f (eval it env) ρ σ v σ₁) (hx:ItemsR σ₁ v xs)
  (hT:∀ (B':Base) (ρ:Rho) (σ:Sto) (x:List AV) (ρ':Rho) (σ':Sto),Gd w B'→ti x ρ σ ρ' σ'→TiOk w A B' env f t x ρ σ ρ' σ')
  (hB:∀ (B':Base) (ρ:Rho) (σ:Sto) (fl:Fl) (ρ':Rho) (σ':Sto),Gd w B'→bd ρ σ fl ρ' σ'→ExOk w A B' env f (PySem.execs b env) ρ σ fl ρ' σ')
  (h:ForR ti bd (fun σ=>Same σ₁ v σ) fl ρ' σ' xs ρ σ₁):ExOk w A B env f (exec (.For t it b [] pos) env) ρ σ fl ρ' σ':=by
 intro α os s Q S k
 refine wpAny_For (h1 α os s _ S fun α₁ x s₁ p1 S1 r1=>wpAny_mono (start_items (t:=t) hh hx S1 r1) ?_ fun _ _ x=>x.elim) hf
 rintro it' s₂ ⟨I,o,rfl,S2,H,hit,_⟩
 refine xE12 (hit B env α₁ σ₁ s₂.heap H (pre_refl _) same_self) fun J Z j=>?_
 exact for_ok Z G hT hB h S2 j fun α₂ x s₃ p2 S3 r3=>k α₂ x s₃ (p1.trans p2) S3 r3
theorem Rel.unlock {d:Nat}{a:Addr} (R:Rel w B env f α ρ σ h) (ha:α[d]? = some a) (hB:B a=none) (hu:Unlock σ d σ'):Rel w B env f α ρ σ' h:=by
 refine xE12 hu fun k e q=>q ▸ R.see ha hB fun o ho=>xE23 (R.obj d _ e) fun a' o' e1 e2 e3=>?_
 cases e1.symm.trans ha
 cases e2.symm.trans ho
 cases k <;> exact e3
theorem ex_for_lock {ti:List AV→Rho→Sto→Rho→Sto→Prop}{bd:Rho→Sto→Fl→Rho→Sto→Prop}{t it:Expr}{b:List Stmt}{pos:Pos}{v:AV}{d:Nat}{lk:LK}{xs:List (List AV)}{fl:Fl} (hh:A.handled=none) (G:Gd w B) (hf:∀ x,foldedSetIterable it env x=pure x) (h1:EvOk w A B env f (eval it env) ρ σ v σ₁)
  (hx:LockR σ₁ v d (lk) (xs))
  (hT:∀ (B':Base) (ρ:Rho) (σ:Sto) (x:List AV) (ρ':Rho) (σ':Sto),Gd w B'→ti x ρ σ ρ' σ'→TiOk w A B' env f t x ρ σ ρ' σ')
  (hB:∀ (B':Base) (ρ:Rho) (σ:Sto) (fl:Fl) (ρ':Rho) (σ':Sto),Gd w B'→bd ρ σ fl ρ' σ'→ExOk w A B' env f (PySem.execs b env) ρ σ fl ρ' σ')
  (h:ForR ti bd (fun σ=>Locked σ d) fl ρ' σ₂ xs ρ (σ₁.set d (.locked lk))) (hu:Unlock σ₂ d σ₃):ExOk w A B env f (exec (.For t it b [] pos) env) ρ σ fl ρ' σ₃:=by
 intro α os s Q S k
 refine wpAny_For (h1 α os s _ S fun α₁ x s₁ p1 S1 r1=>wpAny_mono (start_lock (t:=t) hh hx S1 r1) ?_ fun _ _ x=>x.elim) hf
 rintro it' s₂ ⟨I,J,rfl,S2,Z,j,a,ha,hBa⟩
 exact for_ok Z G hT hB h S2 j fun α₂ x s₃ p2 S3 r3=>k α₂ x s₃ (p1.trans p2) ⟨S3.rel.unlock (getElem?_pre p2 ha) hBa hu,S3.gens,S3.os⟩ r3
theorem ex_enum {ti:List AV→Rho→Sto→Rho→Sto→Prop}{bd:Rho→Sto→Fl→Rho→Sto→Prop}{ts:List Expr}{k1:Nat}{pt pe pc pos:Pos}{it:Expr}{b:List Stmt}{v:AV}{xs:List (List AV)}{fl:Fl} (hh:A.handled=none) (O:EnvOk env) (G:Gd w B) (hn:notStar it=true)
  (hg:EvOk w A B env f (eval (.Name "enumerate" pe) env) ρ σ (.cst (.type "enumerate")) σ) (h1:EvOk w A B env f (eval it env) ρ σ v σ₁) (hx:ItemsE σ₁ v xs)
  (hT:∀ (B':Base) (ρ:Rho) (σ:Sto) (x:List AV) (ρ':Rho) (σ':Sto),Gd w B'→ti x ρ σ ρ' σ'→TiOk w A B' env f (.Tuple ts k1 pt) x ρ σ ρ' σ')
  (hB:∀ (B':Base) (ρ:Rho) (σ:Sto) (fl:Fl) (ρ':Rho) (σ':Sto),Gd w B'→bd ρ σ fl ρ' σ'→ExOk w A B' env f (PySem.execs b env) ρ σ fl ρ' σ')
  (h:ForR ti bd (fun σ=>Same σ₁ v σ) fl ρ' σ' xs ρ σ₁):ExOk w A B env f (exec (.For (.Tuple ts k1 pt) (.Call (.Name "enumerate" pe) [it] [] pc) b [] pos) env) ρ σ fl ρ' σ':=by
 intro α os s Q S k
 refine wpAny_For ?_ (fun _=>rfl)
 rw [eval_Call rfl]
 refine wpAny_bind (hg α os s _ S fun α₀ gv s₀ p0 S0 r0=>?_)
 obtain rfl:=r0.cst_of
 refine with_ok (σ₁:=σ₁) (vs:=[v]) (by simp [hn]) S0 (evs_cons hn h1 evs_nil) (fun e=>by cases e) fun α₁ ys s₁ p1 S1 r1=>⟨keeps_type,?_⟩
 cases r1 with
 | cons rv rn=>cases rn with
  | nil=>
   cases hx with
   | list hl=>
     refine VR.refE rv fun a rv=>?_
     refine listAt (S1.at rv hl) fun its n g1 r1 _ hm=>?_
     refine call_enumerate_list (items:=its) ⟨_,g1,rfl,n,rfl⟩ fun h' he hit hz hk=>?_
     refine wpAny_pyIter_enum he ?_
     have S2:St w B env f α₁ ρ σ₁ os { s₁ with heap:=h' }:=⟨S1.rel.keeps hk,S1.gens,S1.os⟩
     have fresh:∀ {b:Addr}{ob:Obj},h'.get? b=some ob→s₁.heap.objs.size≤b→Hide B env.locals α₁ h' b ob:=fun {b ob} gb hb=>
      ⟨gb,fun hm=>absurd (S1.rel.lt hm) (Nat.not_lt.mpr hb),fun e=>absurd S1.rel.ltL (by rw [←e];exact Nat.not_lt.mpr hb),by
       cases q:B b with
       | none=>rfl
       | some ob=>exact absurd (Heap.lt_size (S1.rel.keep _ _ q)) (Nat.not_lt.mpr hb)⟩
     refine byG fun GG6 kk6=>?_
     refine xE13 hit fun oi gi ci di=>?_
     refine kk6 ?_
     exact for_ok (iter_enum (ts:=ts) (x1:=k1) (pos:=pt) hh (same_list hl)) G hT hB h S2 ⟨_,oi,_,a,_,fresh he (Nat.le_succ _),fresh gi (Nat.le_refl _),Nat.succ_ne_self _,rfl,ci,di,hm,hl⟩ fun α₂ x s₃ p2 S3 r3=>k α₂ x s₃ ((p0.trans p1).trans p2) S3 r3
   | @str x hz=>
     refine VR.strE rv fun tk=>?_
     have hsz:x.cps.size=0:=by rw [←Array.length_toList,hz];rfl
     refine call_enumerate_str fun h' he hit hz' hk=>?_
     refine wpAny_pyIter_enum he ?_
     have S2:St w B env f α₁ ρ σ₁ os { s₁ with heap:=h' }:=⟨S1.rel.keeps hk,S1.gens,S1.os⟩
     have fresh:∀ {b:Addr}{ob:Obj},h'.get? b=some ob→s₁.heap.objs.size≤b→Hide B env.locals α₁ h' b ob:=fun {b ob} gb hb=>
      ⟨gb,fun hm=>absurd (S1.rel.lt hm) (Nat.not_lt.mpr hb),fun e=>absurd S1.rel.ltL (by rw [←e];exact Nat.not_lt.mpr hb),by
       cases q:B b with
       | none=>rfl
       | some ob=>exact absurd (Heap.lt_size (S1.rel.keep _ _ q)) (Nat.not_lt.mpr hb)⟩
     refine xE13 hit fun oi gi ci di=>?_
     have hty:strIterType x="str_ascii_iterator":=by
      unfold strIterType
      have:x.cps=#[]:=Array.eq_empty_of_size_eq_zero hsz
      rw [this];simp
     rw [hty]at ci
     exact for_ok (iter_enum_nil (tk:=tk) hh hsz) G hT hB h S2 ⟨rfl,_,oi,_,_,fresh he (Nat.le_succ _),fresh gi (Nat.le_refl _),rfl,ci,di⟩ fun α₂ x s₃ p2 S3 r3=>k α₂ x s₃ ((p0.trans p1).trans p2) S3 r3
theorem ex_forRange {ti:List AV→Rho→Sto→Rho→Sto→Prop}{bd:Rho→Sto→Fl→Rho→Sto→Prop}{t ea eb:Expr}{b:List Stmt}{pe pc pos:Pos}{p q:Int}{fl:Fl} (hh:A.handled=none) (G:Gd w B) (n1:notStar ea=true) (n2:notStar eb=true)
  (hg:EvOk w A B env f (eval (.Name "range" pe) env) ρ σ (.cst (.type "range")) σ) (h1:EvOk w A B env f (eval ea env) ρ σ (.int p) σ₁) (h2:EvOk w A B env f (eval eb env) ρ σ₁ (.int q) σ₂) (hs:smallR p q=true)
  (hT:∀ (B':Base) (ρ:Rho) (σ:Sto) (x:List AV) (ρ':Rho) (σ':Sto),Gd w B'→ti x ρ σ ρ' σ'→TiOk w A B' env f t x ρ σ ρ' σ')
  (hB:∀ (B':Base) (ρ:Rho) (σ:Sto) (fl:Fl) (ρ':Rho) (σ':Sto),Gd w B'→bd ρ σ fl ρ' σ'→ExOk w A B' env f (PySem.execs b env) ρ σ fl ρ' σ')
  (h:ForR ti bd (fun _=>true=true) fl ρ' σ' ((List.range (q - p).toNat).map fun(i:Nat)=>[.int (p+(i:Int))]) ρ σ₂):ExOk w A B env f (exec (.For t (.Call (.Name "range" pe) [ea,eb] [] pc) b [] pos) env) ρ σ fl ρ' σ':=by
 intro α os s Q S k
 refine wpAny_For ?_ (fun _=>rfl)
 rw [eval_Call rfl]
 refine wpAny_bind (hg α os s _ S fun α₀ gv s₀ p0 S0 r0=>?_)
 rw [r0.cst_of]
 refine with_ok (σ₁:=σ₂) (vs:=[.int p,.int q]) (by simp [n1,n2]) S0 (evs_cons n1 h1 (evs_cons n2 h2 evs_nil)) (fun e=>by cases e) fun α₁ ys s₁ p1 S1 r1=>⟨keeps_type,?_⟩
 cases r1 with
 | cons ra rs=>cases rs with
  | cons rb rs=>
   cases rs
   refine VR.intE ra fun t1=>?_
   refine VR.intE rb fun t2=>?_
   refine xE02 (small_of hs) fun z1 z2=>?_
   refine call_range_2 (wpAny_pyIter_range (Heap.get?_push_size _ rfl) z1 ?_)
   rw [z2]
   have S2:St w B env f α₁ ρ σ₂ os { s₁ with heap:=s₁.heap.push { cls:=.type "range",data:=.fields #[.int p t1,.int q t2,.int 1 s₁.toks] },toks:=s₁.toks+1 }:=S1.push _
   exact for_ok (iter_range (a:=p) (b:=q) hh) G hT hB h (S2.push _ (t:=s₁.toks+1)) ⟨_,Hide.new S2 rfl,by simp⟩ fun α₂ x s₃ p2 S3 r3=>k α₂ x s₃ ((p0.trans p1).trans p2) S3 r3
end
end Mine
end
section
open PySem PySem.W PyProof.Rows PySem.Calls PySem.SeqAt
set_option maxRecDepth 100000
set_option linter.unusedVariables false
set_option autoImplicit false
namespace Mine
noncomputable def drop (es:List (AV×AV)) (ds:List AV):List (AV×AV):=es.filter fun e=>!ds.contains e.1
section
variable {w:World}{A:Around}{B B':Base}{env:Env}{f:Nat→Option Nat}{α α':List Addr}{ρ ρ' ρ₁ ρ₂:Rho}{σ σ' σ₁ σ₂ σ₃ σ₄:Sto}{os:OsState}{s s':Shared}{I:Addr}{h h':Heap}{o:Obj}
theorem without_rel {K:Type} [DecidableEq K]{ks:List (K×AV)}{kvs:List (K×Value)} (h1:kvs.map (·.1)=ks.map (·.1)) (h2:VRs α (ks.map (·.2)) (kvs.map (·.2))) (k:K) :
  (without kvs k).map (·.1)=(ks.filter fun p=>decide (p.1≠k)).map (·.1)∧VRs α ((ks.filter fun p=>decide (p.1≠k)).map (·.2)) ((without kvs k).map (·.2)):=by
 unfold without
 induction ks generalizing kvs with
 | nil=>cases kvs with
  | nil=>exact⟨rfl,.nil⟩
  | cons=>simp at h1
 | cons p r ih=>cases kvs with
  | nil=>simp at h1
  | cons q l=>
   simp only [List.map_cons,List.cons.injEq]at h1 h2
   cases h2 with
   | cons hv hr=>
    have:=ih h1.2 hr
    by_cases e:p.1=k
    ·have e':q.1=k:=h1.1.trans e
     rw [List.filter_cons_of_neg (by simp [e']),List.filter_cons_of_neg (by simp [e])]
     exact this
    ·have e':¬ q.1=k:=fun z=>e (h1.1 ▸ z)
     rw [List.filter_cons_of_pos (by simp [e']),List.filter_cons_of_pos (by simp [e])]
     simp only [List.map_cons,List.cons.injEq]
     exact⟨⟨h1.1,this.1⟩,.cons hv this.2⟩
theorem valueAt_some {K:Type} [DecidableEq K]{kvs:List (K×Value)}{k:K} (h:k∈kvs.map (·.1)):(valueAt kvs k).isSome=true:=by
 refine byG fun G2 k2=>?_
 refine xE12 (List.mem_map.mp h) fun p hp e=>?_
 refine k2 ?_
 unfold valueAt
 rw [Option.isSome_map,List.find?_isSome]
 exact⟨p,hp,by simp [e]⟩
theorem DR.drop_int {ks:List (Str×AV)}{o:Obj} (ho:∃ es ep,o={ cls:=.type "dict",data:=.dict es ep }∧(ks=[]→es=#[])):DR (intKind pw w) .int α (ks.map fun p=>(AV.str p.1,p.2)) o:=by
 cases ks with
 | cons p r=>exact DR.vac ⟨_,List.mem_cons_self,fun _=>str_ne_int _ _⟩
 | nil=>
  obtain⟨es,ep,rfl,he⟩:=ho
  obtain rfl:=he rfl
  intro ls e
  cases ls with
  | cons=>cases e
  | nil=>exact⟨[],⟨⟨rfl,rfl,rfl⟩,#[],ep,rfl,fun _ he=>by simp at he,.nil,List.nodup_nil⟩,rfl,.nil⟩
theorem del_key {E:Value→Shared→Prop}{l:Nat}{m:Addr}{ks:List (Str×AV)}{q:Str}{t:Tok}{Q:Unit→Shared→Prop} (S:St w B env f α ρ σ os s) (hl:VR α (.loc l) (.ref m)) (e1:σ[l]? = some (.dict (ks.map fun p=>(.str p.1,p.2)))) (hlen:ks.length≤900) (hq:q∈ks.map (·.1))
  (k:∀ h' t',St w B env f α ρ (σ.set l (.dict ((ks.filter fun p=>decide (p.1≠q)).map fun p=>(.str p.1,p.2)))) os { s with heap:=h',toks:=t' }→Heap.SameBut m s.heap h'→Q () { s with heap:=h',toks:=t' }):wpAny (model pw w) A (delItem (.ref m) (.str q t)) Q E s:=by
 refine xE13 (S.at hl e1) fun o1 g1 r1 hm=>?_
 refine xE13 (r1.1 ks rfl) fun kvs hd h1 h2=>?_
 have hD:=hd.at g1
 have hz:kvs.length≤sizeLine:=size_line (by have z:=congrArg List.length h1;simp at z;lia)
 unfold delItem
 try with_reducible refine wpAny_holding ?_
 refine wpAny_bind (wpAny_sequenceKey hD.mapOf.typeIs (by decide) ?_)
 refine wpAny_bind (wpAny_callSpecial?_slot (name:=Str.ofString "__delitem__") hD.mapOf.typeIs PySem.F.slot_dict_delitem
  (call_meetsIn PySem.F.slot_dict_delitem hD.mapOf.typeIs PySem.F.entry_dict_delitem (PySem.F.args_dict_delitem_2 _ _) (meets_dict_delitem_pairs (strKind pw w) m (isStr_self q t)) ⟨kvs,hD,hz,valueAt_some (h1 ▸ hq),fun h' hmm hs=>?_⟩))
 refine byG fun G7 k7=>?_
 refine xE12 (IsD.of hmm) fun o' g' hd'=>?_
 refine xE02 (without_rel h1 h2 q) fun q1 q2=>?_
 refine k7 ?_
 refine wpAny_pure (k h' _ ⟨S.rel.set hm (fun es h=>by rw [e1]at h;cases h) hs.extBut g' ⟨DR.of str_inj hd' q1 q2,DR.drop_int ?_⟩,S.gens,S.os⟩ hs)
 refine xE02 hd' fun q3_ q2_=>?_
 obtain⟨c1,c2,c3⟩:=q3_
 obtain⟨es,ep,hdat,_,hp,_⟩:=q2_
 obtain⟨oc,od,odt,osl⟩:=o'
 simp only at c1 c2 c3 hdat
 subst c1;subst c2;subst c3;subst hdat
 refine⟨es,ep,rfl,fun hn=>?_⟩
 rw [hn]at q1
 have:without kvs q=[]:=List.map_eq_nil_iff.mp q1
 rw [this]at hp
 have hl:=hp.length
 simp at hl
 exact hl
theorem perm_of {β:Type} [DecidableEq β]:∀ {xs ys:List β},xs.Nodup→(∀ x∈xs,x∈ys)→ys.length=xs.length→ys.Perm xs
 | [],ys,_,_,h=>by
  have:ys=[]:=List.eq_nil_of_length_eq_zero h
  subst this;exact .refl _
 | x :: xs,ys,hn,hs,hl=>by
  rw [List.nodup_cons]at hn
  have hx:x∈ys:=hs x List.mem_cons_self
  have hp:=List.perm_cons_erase hx
  refine hp.trans (List.Perm.cons x (perm_of hn.2 (fun z hz=>?_) ?_))
  ·have:=hp.mem_iff.mp (hs z (List.mem_cons_of_mem _ hz))
   rcases List.mem_cons.mp this with rfl | h
   ·exact absurd hz hn.1
   ·exact h
  ·have:=hp.length_eq
   simp only [List.length_cons]at this hl
   lia
theorem filter_more {ks:List (Str×AV)}{ds:List Str}{q:Str}:(ks.filter fun p=>!ds.contains p.1).filter (fun p=>decide (p.1≠q))=ks.filter fun p=>!(ds++[q]).contains p.1:=by
 rw [List.filter_filter]
 refine List.filter_congr fun p _=>?_
 by_cases h:p.1=q <;> simp [h]
theorem Rel.forget (R:Rel w B env f α ρ σ h) (hr:∀ y v,ρ' y=some v→ρ y=some v):Rel w B env f α ρ' σ h:=
 ⟨R.len,R.keep,let ⟨m,F,q⟩:=R.loc;⟨m,F,fun i x v e1 e2=>q i x v e1 (hr _ _ e2)⟩,R.cel,R.obj,R.off,R.offB,R.offL,R.nd,R.big⟩
theorem ex_delAll {x sN dN:Str}{px px2 ps pd psub pdel pos:Pos}{i j k:Nat}{ls ld:Nat}{xs:List Str}{ks:List (Str×AV)} (hh:A.handled=none) (O:EnvOk env) (hx:idx env.scope x=some (i,.local)) (hs:idx env.scope sN=some (j,.local)) (hd:idx env.scope dN=some (k,.local))
  (hik:i≠k) (d1:(x == ("__debug__":Str))=false) (d2:(sN == ("__debug__":Str))=false) (d3:(dN == ("__debug__":Str))=false) (r1:ρ j=some (.loc ls)) (r2:ρ k=some (.loc ld)) (e1:σ[ls]? = some (.set xs)) (e2:σ[ld]? = some (.dict (ks.map fun p=>(.str p.1,p.2))))
  (hall:∀ x∈xs,x∈ks.map (·.1)) (hlen:ks.length≤900) (hxl:xs.length≤900) (hnd:xs.Nodup) :
  ExOk w A B env f (exec (.For (.Name x px) (.Name sN ps) [.Delete [.Subscript (.Name dN pd) (.Name x px2) psub] pdel] [] pos) env) ρ σ .next (fun y=>if y=i then none else ρ y) (σ.set ld (.dict ((ks.filter fun p=>!xs.contains p.1).map fun p=>(.str p.1,p.2)))):=by
 intro α os s Q S K
 refine wpAny_For (ev_var O d2 hs r1 α os s _ S fun α₁ sv s₁ p1 S1 rv=>?_) (fun _=>rfl)
 refine VR.refE rv fun a rv=>?_
 refine xE13 (S1.at rv e1) fun o1 g1 r3 hm=>?_
 refine xE35 (SetR.setO (a:=a) r3) fun es ep tb X hel hmem hsz hbd=>?_
 refine si_start g1 X (by lia) fun h' dr I vals oI hid Z hp gI hI hhid hk=>?_
 refine byG fun G kG=>?_
 -- the keys,in the order of the walk
 have hstr:∀ v∈vals,∃ q tk,v=.str q tk∧q∈xs:=by
  intro v hv
  refine xE12 (List.mem_map.mp (hp.mem_iff.mp hv)) fun e he q5_=>?_
  subst q5_
  obtain⟨⟨q,hq,_⟩,_⟩:=hel e he
  obtain⟨tk,hq2⟩:=is_str hq
  have:=(hmem q).mpr ⟨e,he,hq⟩
  exact⟨q,tk,hq2,by simpa using this⟩
 obtain⟨ys,hys⟩:∃ ys:List Str,ys=vals.map fun v=>match v with | .str q _=>q | _=>"":=⟨_,rfl⟩
 have hyl:ys.length=vals.length:=by rw [hys];simp
 have hyi:∀ (n:Nat) (v:Value),vals[n]? = some v→∃ q tk,v=.str q tk∧ys[n]? = some q∧q∈xs:=by
  intro n v hv
  refine xE22 (hstr v (List.mem_of_getElem? hv)) fun q tk q7_ hq=>?_
  subst q7_
  exact⟨q,tk,rfl,by rw [hys,List.getElem?_map,hv];rfl,hq⟩
 have hperm:ys.Perm xs:=by
  refine perm_of hnd (fun q hq=>?_) (by rw [hyl,hp.length_eq];simp [hsz])
  refine xE12 ((hmem q).mp (by simpa using hq)) fun e he hi=>?_
  obtain⟨tk,he2⟩:=is_str hi
  have hv:e.2∈vals:=hp.mem_iff.mpr (List.mem_map.mpr ⟨e,he,rfl⟩)
  rw [hys]
  exact List.mem_map.mpr ⟨e.2,hv,by rw [he2]⟩
 have hynd:ys.Nodup:=hperm.nodup_iff.mpr hnd
 obtain⟨da,hda⟩:∃ da,α₁[ld]? = some da:=by
  refine xE22 (S1.rel.obj ld _ e2) fun da _ q _=>?_
  exact⟨da,q⟩
 have hne:a≠da:=by
  rintro rfl
  have:ls=ld:=nodup_inj S1.rel.nd hm hda
  subst this
  rw [e1]at e2;cases e2
 have haL:a≠env.locals:=S1.rel.off _ (List.mem_of_getElem? hm)
 have hdL:da≠env.locals:=S1.rel.off _ (List.mem_of_getElem? hda)
 have fresh:∀ b,s₁.heap.objs.size≤b→b∉α₁∧b≠env.locals∧B b=none:=fun b hb=>
  ⟨fun hm=>absurd (S1.rel.lt hm) (Nat.not_lt.mpr hb),fun e=>absurd S1.rel.ltL (by rw [←e];exact Nat.not_lt.mpr hb),by
   cases q:B b with
   | none=>rfl
   | some ob=>exact absurd (Heap.lt_size (S1.rel.keep _ _ q)) (Nat.not_lt.mpr hb)⟩
 refine kG (codeAny_forLoop_any (I:=fun n s=>∃ m oI,n=vals.length - m∧m≤vals.length∧St w B env f α₁ (fun y=>if y=i then none else ρ y) (σ.set ld (.dict ((ks.filter fun p=>!(ys.take m).contains p.1).map fun p=>(.str p.1,p.2)))) os s∧
  s.heap.get? a=some o1∧SetIt w a es ep tb vals m oI hid∧s.heap.get? I=some oI∧∀ p∈hid,s.heap.get? p.1=some p.2) ?_ vals.length ⟨0,oI,by simp,Nat.zero_le _,?_,hk _ _ g1,Z,gI,fun p hp=>(hhid p hp).1⟩)
 ·intro n s₂ H
  refine byG fun G kG=>?_
  obtain⟨m,oI,rfl,hmn,S2,g2,Z2,gI2,hh2⟩:=H
  cases hv:vals[m]? with
  | none=>
   refine kG (si_end hh g2 X gI2 hh2 Z2 hv fun h₃ hs₃=>wpAny_execs_nil ?_)
   refine byG fun G12 k12=>?_
   have:ys.take m=ys:=List.take_of_length_le (by rw [hyl];simpa using hv)
   rw [this]at S2
   have hf:(ks.filter fun p=>!ys.contains p.1)=ks.filter fun p=>!xs.contains p.1:=List.filter_congr fun p _=>by
    have:ys.contains p.1=xs.contains p.1:=by
     rw [Bool.eq_iff_iff,List.contains_iff_mem,List.contains_iff_mem];exact hperm.mem_iff
    rw [this]
   rw [hf]at S2
   obtain⟨f1,f2,f3⟩:=fresh I hI
   refine k12 ?_
   refine K α₁ _ _ p1 ⟨S2.rel.same fun b o' q e=>hs₃ b o' ?_ e,S2.gens,S2.os⟩ .next
   rintro rfl
   rcases q with q | q | q
   ·rw [f3]at q;cases q
   ·exact f2 q
   ·exact f1 q
  | some v=>
   refine xE23 (hyi m v hv) fun q tk q9_ hyq hqx=>?_
   subst q9_
   refine kG (si_next g2 X gI2 hh2 Z2 hv fun h₃ oI' Z3 gI3 hs₃=>?_)
   refine byG fun G kG=>?_
   refine xE03 (fresh I hI) fun f1 f2 f3=>?_
   have S3:St w B env f α₁ (fun y=>if y=i then none else ρ y) (σ.set ld (.dict ((ks.filter fun p=>!(ys.take m).contains p.1).map fun p=>(.str p.1,p.2)))) os { s₂ with heap:=h₃ }:=⟨S2.rel.same fun b o' q e=>hs₃.extBut b o' (by
    rintro rfl
    rcases q with q | q | q
    ·rw [f3]at q;cases q
    ·exact f2 q
    ·exact f1 q) e,S2.gens,S2.os⟩
   have haI:a≠I:=fun e=>f1 (e ▸ List.mem_of_getElem? hm)
   have hdI:da≠I:=fun e=>f1 (e ▸ List.mem_of_getElem? hda)
   obtain⟨x1,x2⟩:=idx_spec hx
   refine xE12 S3.rel.loc fun mm F qq=>?_
   refine kG (wpAny_of_eq (a:=()) rfl (wpAny_assign_Name (wpAny_storeName_local x2 F (fun h₄ hn₄ hs₄=>?_) (by rw [O.kind];rfl))))
   refine byG fun G kG=>?_
   have hs₄:Heap.SameBut env.locals h₃ h₄:=hs₄
   have S4:St w B env f α₁ (upd (fun y=>if y=i then none else ρ y) i (.str q)) (σ.set ld (.dict ((ks.filter fun p=>!(ys.take m).contains p.1).map fun p=>(.str p.1,p.2)))) os { s₂ with heap:=h₄ }:=
    ⟨S3.rel.store O.nodup x1 (.str q tk) (fun m' hm'=>ns_unique F hm' ▸ hn₄) hs₄,S3.gens,S3.os⟩
   have hld:ld<σ.length:=(List.getElem?_eq_some_iff.mp e2).1
   refine xE02 (idx_spec hd) fun y1 y2=>?_
   refine xE12 S4.rel.loc fun m4 F4 q4=>?_
   refine xE12 (q4 k dN (.loc ld) y1 (by
    show(if k=i then some (AV.str q)else (if k=i then none else ρ k))=_
    rw [if_neg (Ne.symm hik),if_neg (Ne.symm hik)];exact r2)) fun dv ed rd=>?_
   refine xE12 (q4 i x (.str q) x1 (by
    show(if i=i then some (AV.str q)else _)=_
    rw [if_pos rfl])) fun xv exv rx=>?_
   obtain⟨tk',rfl⟩:=rx.str_of
   refine kG (wpAny_execs_cons (wpAny_Delete (wpAny_deleteEach_cons (wpAny_delete_Subscript (wpAny_Name (wpAny_loadName_local O.kind y2 F4 ed (wpAny_Name (wpAny_loadName_local O.kind x2 F4 exv ?_) d1)) d3)))))
   refine byG fun G kG=>?_
   refine xE12 rd.ref_of fun dm q11_ rd=>?_
   subst q11_
   have hdm:dm=da:=by cases rd with | loc h=>rw [hda]at h;exact(Option.some.inj h).symm
   subst hdm
   have hqk:q∈(ks.filter fun p=>!(ys.take m).contains p.1).map (·.1):=by
    refine xE12 (List.mem_map.mp (hall q hqx)) fun p hp1 hp2=>?_
    refine List.mem_map.mpr ⟨p,List.mem_filter.mpr ⟨hp1,?_⟩,hp2⟩
    rw [hp2]
    simp only [Bool.not_eq_true',List.contains_eq_mem,decide_eq_false_iff_not]
    intro hq
    obtain⟨n,hn,e⟩:=List.getElem_of_mem hq
    rw [List.getElem_take]at e
    have hn':n<m:=by simp at hn;lia
    have:n=m:=nodup_inj hynd (by rw [List.getElem?_eq_getElem (by simp at hn;lia),e]) hyq
    lia
   refine kG (del_key (S4.toks _) rd (by rw [List.getElem?_set_self hld]) (Nat.le_trans (List.length_filter_le _ _) hlen) hqk fun h₅ t₅ S5 hs₅=>wpAny_deleteEach_nil (wpAny_execs_nil ?_))
   have hmm:m<vals.length:=(List.getElem?_eq_some_iff.mp hv).1
   have ht:ys.take (m+1)=ys.take m++[q]:=by rw [List.take_add_one,hyq];rfl
   rw [List.set_set,filter_more,←ht]at S5
   have hs₅:Heap.SameBut dm h₄ h₅:=hs₅
   have keep:∀ b o,b≠I→b≠env.locals→b≠dm→s₂.heap.get? b=some o→h₅.get? b=some o:=fun b o n1 n2 n3 e=>hs₅.extBut b o n3 (hs₄.extBut b o n2 (hs₃.extBut b o n1 e))
   have keep3:∀ b o,b≠env.locals→b≠dm→h₃.get? b=some o→h₅.get? b=some o:=fun b o n2 n3 e=>hs₅.extBut b o n3 (hs₄.extBut b o n2 e)
   refine⟨vals.length - (m+1),by lia,m+1,oI',rfl,hmm,⟨S5.rel.forget fun y v e=>?_,S5.gens,S5.os⟩,keep _ _ haI haL hne g2,Z3,keep3 _ _ f2 (Ne.symm hdI) gI3,fun p hp=>?_⟩
   ·split at e
    ·exact nn e
    ·rename_i hy
     show(if y=i then some (AV.str q)else (if y=i then none else ρ y))=_
     rw [if_neg hy,if_neg hy];exact e
   ·refine xE03 (hhid p hp) fun z1 z2 z3=>?_
    refine xE03 (fresh p.1 z2) fun w1 w2 w3=>?_
    exact keep _ _ z3 w2 (fun e=>w1 (e ▸ List.mem_of_getElem? hda)) (hh2 p hp)
 ·have e3:σ.set ld (.dict ((ks.filter fun p=>!((ys.take 0).contains p.1)).map fun p=>(AV.str p.1,p.2)))=σ:=by
   have:(ks.filter fun p=>!((ys.take 0).contains p.1))=ks:=by simp
   rw [this]
   apply List.ext_getElem?
   intro n
   by_cases hn:ld=n
   ·subst hn
    rw [List.getElem?_set_self (List.getElem?_eq_some_iff.mp e2).1,e2]
   ·rw [List.getElem?_set_ne hn]
  rw [e3]
  refine⟨(S1.rel.keeps (h':=h') hk).forget fun y v e=>?_,S1.gens,S1.os⟩
  split at e
  ·exact nn e
  ·exact e
end
end Mine
end
section
open PySem PySem.W PyProof.Rows PySem.Calls PySem.SeqAt
set_option maxRecDepth 100000
set_option linter.unusedVariables false
set_option autoImplicit false
namespace Mine
theorem pure_e {β:Type}{m:Sem β}{f:β→Bool} (h:isPure m f=true):∃ a,m=pure a∧f a=true:=by
 cases m <;> first | exact⟨_,rfl,h⟩ | exact Bool.noConfusion h
theorem sw_env {ts:List Expr}{e:Expr}{env:Env}:swappedStores ts e env=swappedStores ts e (dEnv env.scope):=rfl
theorem so_env {ts:List Expr}{e:Expr}{n:Nat}{env:Env}:swapsWithSole ts e n env=swapsWithSole ts e n (dEnv env.scope):=match ts with
 | []=>rfl
 | [_]=>rfl
 | _ :: _ :: _=>rfl
theorem si_env {t:Option Expr}{e:Expr}{n:Nat}{env:Env}:swapsWith e t n env=swapsWith e t n (dEnv env.scope):=rfl
section
variable {w:World}{A:Around}{B B':Base}{env:Env}{f:Nat→Option Nat}{α α':List Addr}{ρ ρ' ρ₁ ρ₂:Rho}{σ σ' σ₁ σ₂ σ₃ σ₄:Sto}{os:OsState}{s s':Shared}{I:Addr}{h h':Heap}{o:Obj}
theorem bind_ok {x:Str}{v:AV}{y:Value}{i:Nat}{Q:Unit→Shared→Prop} (O:EnvOk env) (hx:idx env.scope x=some (i,.local)) (S:St w B env f α ρ σ os s) (r:VR α v y) (k:∀ s',St w B env f α (upd ρ i v) σ os s'→Q () s'):wpAny (model pw w) A (bindName env x y) Q Ef s:=by
 refine xE02 (idx_spec hx) fun h1 h2=>?_
 refine xE12 S.rel.loc fun m F q=>?_
 refine wpAny_bindName (wpAny_storeName_local h2 F (fun h' hn hs=>?_) (by rw [O.kind];rfl))
 exact k _ ⟨S.rel.store O.nodup h1 r (fun m' hm'=>ns_unique F hm' ▸ hn) hs,S.gens,S.os⟩
noncomputable def updL:List Nat→List AV→Rho→Rho
 | x :: xs,v :: vs,ρ=>updL xs vs (upd ρ x v)
 | _,_,ρ=>ρ
theorem binds_ok (O:EnvOk env):∀ {names:List Str}{xs:List Nat}{vs:List AV}{ys:List Value}{ρ:Rho}{s:Shared}{Q:Unit→Shared→Prop},names.map (idx env.scope)=xs.map (fun i=>some (i,.local))→
  vs.length=xs.length→St w B env f α ρ σ os s→VRs α vs ys→(∀ s',St w B env f α (updL xs vs ρ) σ os s'→Q () s')→wpAny (model pw w) A (assignInOrder (names.map fun n=>bindName env n) ys) Q Ef s
 | [],[],vs,ys,ρ,s,Q,h,hl,S,r,k=>wpAny_pure (k s S)
 | n :: ns,x :: xs,vs,ys,ρ,s,Q,h,hl,S,r,k=>by
  refine xE02 (List.cons.inj h) fun h1 h2=>?_
  cases r with
  | nil=>cases hl
  | cons rv rr=>exact wpAny_bind (wpAny_holding (bind_ok O h1 S rv fun s' S'=>binds_ok O h2 (Nat.succ.inj hl) S' rr k))
 | [],_ :: _,_,_,_,_,_,h,_,_,_,_=>nomatch h
 | _ :: _,[],_,_,_,_,_,h,_,_,_,_=>nomatch h
theorem VRs.reverse {vs:List AV}{ys:List Value} (r:VRs α vs ys):VRs α vs.reverse ys.reverse:=by
 induction r with
 | nil=>exact .nil
 | cons h _ ih=>simp only [List.reverse_cons];exact ih.append (.cons h .nil)
theorem tup_new {es:List Expr}{k:Nat}{pos:Pos}{vs:List AV}{E:Value→Shared→Prop}{Q:Value→Shared→Prop} (h:EvsOk w A B env f es ρ σ vs σ₁) (hl:vs.length≤900) (S:St w B env f α ρ σ os s)
  (q:∀ α' (ys:Array Value) s' t,α <+: α'→St w B env f α' ρ σ₁ os s'→VRs α' vs ys.toList→s'.heap.IsTuple t ys→Q (.ref t) s'):wpAny (model pw w) A (eval (.Tuple es k pos) env) Q E s:=
 wpAny_mono (wpAny_Tuple (E:=Ef) (h pos α os s _ S fun α₁ xs s₁ p1 S1 r1=>⟨size_line (by rw [←r1.length];lia),q α₁ xs.toArray _ _ p1 (S1.push _ (t:=s₁.toks)) r1 ⟨_,Heap.get?_push_size _ rfl,rfl,0,rfl⟩⟩)) (fun _ _ q=>q) fun _ _ x=>x.elim
theorem ex_tupFwd {ts es:List Expr}{k k2:Nat}{tp ep pos:Pos}{vs:List AV} (hh:A.handled=none) (hw:swappedStores [.Tuple ts k tp] (.Tuple es k2 ep) env=pure none) (hn:ts.all notStar=true)
  (h1:EvsOk w A B env f es ρ σ vs σ₁) (hl:vs.length≤900) (hl2:vs.length=ts.length) (h2:TgsOk w A B env f ts vs ρ σ₁ ρ' σ') :
  ExOk w A B env f (exec (.Assign [.Tuple ts k tp] (.Tuple es k2 ep) pos) env) ρ σ .next ρ' σ':=by
 intro α os s Q S q
 refine wpAny_Assign_stores (tup_new h1 hl S fun α₁ ys s₁ t p1 S1 r1 hT=>?_) rfl hw
 rw [assignEach_cons rfl]
 show wpAny _ _ (assign (.Tuple ts k tp) env (.ref t)) _ _ _
 rw [arm_assign_Tuple]
 refine xE02 (assignEach_spec (env:=env) hn) fun q1 q2=>?_
 exact wpAny_bind (wpAny_standAt (wpAny_unpack_tuple hh hT (q1.trans (hl2.symm.trans r1.length)) q2 fun h' he=>h2 α₁ os _ _ _ (S1.ext he) r1 fun α₂ s₂ p2 S2=>q α₂ _ s₂ (p1.trans p2) S2 .next))
theorem ex_tupRev {ts es:List Expr}{k k2:Nat}{tp ep pos:Pos}{vs:List AV}{names:List Str}{xs:List Nat} (hh:A.handled=none) (O:EnvOk env) (hw:swappedStores [.Tuple ts k tp] (.Tuple es k2 ep) env=pure (some names))
  (hN:names.map (idx env.scope)=xs.map fun i=>some (i,.local)) (h1:EvsOk w A B env f es ρ σ vs σ₁) (hl:vs.length≤900) (hl2:vs.length=xs.length) :
  ExOk w A B env f (exec (.Assign [.Tuple ts k tp] (.Tuple es k2 ep) pos) env) ρ σ .next (updL xs.reverse vs.reverse ρ) σ₁:=by
 intro α os s Q S q
 refine Assign_Tuple_swapped (tup_new h1 hl S fun α₁ ys s₁ t p1 S1 r1 hT=>?_) rfl hw
 have hz:names.length=ys.size:=by
  have z:=congrArg List.length hN
  rw [List.length_map,List.length_map]at z
  exact z.trans (hl2.symm.trans r1.length)
 rw [hz]
 refine wpAny_unpackItems_tuple hh hT fun h' he=>?_
 refine binds_ok O (xs:=xs.reverse) (by rw [List.map_reverse,hN,List.map_reverse]) (by rw [List.length_reverse,List.length_reverse,hl2]) (S1.ext he) r1.reverse fun s' S'=>q α₁ _ s' p1 S' .next
end
end Mine
end
section
open PySem PySem.W PyProof.Rows PySem.Calls PySem.SeqAt
set_option maxRecDepth 100000
set_option linter.unusedVariables false
set_option autoImplicit false
namespace Mine
theorem put_led (t:SetTable) (j:Nat):(t.put j).1.led=t.led:=by unfold SetTable.put;(repeat' split) <;> rfl
theorem orStandIn_led (t:SetTable) (n:Nat):(t.orStandIn n).led=t.led:=by unfold SetTable.orStandIn SetTable.standIn;split <;> rfl
theorem layNew_led (t:SetTable) (es:Array (Int×Value)) (h:Int) (x:Value):(layNew t es h x).2.1.led=t.led:=by
 unfold layNew
 split
 ·dsimp only
  rw [orStandIn_led,put_led]
 ·rfl
theorem relaid_led {t t':SetTable}{hs:Array Int}{n:Nat}{ord:Array Nat} (h:t.relaid hs n=some (t',ord)):t'.led=t.led∧t'.plain=t.plain:=by
 unfold SetTable.relaid SetTable.laid at h
 refine byG fun G1 k1=>?_
 simp only [Option.bind_eq_bind,Option.pure_def,Option.bind_eq_some_iff]at h
 obtain⟨l,hl,h⟩:=h
 cases h
 refine k1 ?_
 exact⟨rfl,rfl⟩
theorem relayAll_led (t:SetTable) (es:Array (Int×Value)) (n:Nat):(relayAll t es n).2.1.led=t.led∧(t.plain=false→(relayAll t es n).2.1.plain=false):=by
 unfold relayAll
 split
 ·rename_i t' ord e
  obtain⟨h1,h2⟩:=relaid_led e
  dsimp only
  split
  ·exact⟨h1,fun h=>h2.trans h⟩
  ·exact⟨rfl,fun _=>rfl⟩
 ·exact⟨rfl,fun _=>rfl⟩
section
variable {w:World}{A:Around}{E:Value→Shared→Prop}{s:Shared}{a I:Addr}{o:Obj}{xs:List Str}{q:Str}{tk:Tok}
theorem set_add_core {Q:Bool→Shared→Prop} (ho:s.heap.get? a=some o) (r:SetR w xs o) (hz:xs.length<900)
  (hQ:∀ h' o' b,Heap.SameBut a s.heap h'→h'.get? a=some o'→SetR w (if xs.contains q then xs else xs++[q]) o'→Q b { s with heap:=h' }) :
  wpAny (model pw w) A (setAddHashed a (.str q tk) ((strKind pw w).hash q)) Q E s:=by
 have r0:=r
 refine byG fun GG3 kk3=>?_
 refine xE02 r fun hex q1_=>?_
 refine xE38 q1_ fun es ep t hd hel hmem hb hf hn hled hpl=>?_
 refine kk3 ?_
 have hkey:=isStr_self (w:=w) q tk
 have hb1:es.size+1<scanBound:=by rw [hn];unfold scanBound;lia
 unfold setAddHashed setAddHashedIn
 refine wpAny_holding (wpAny_bind (wpAny_setState_of ho hd hf ?_))
 dsimp only
 rw [byScan_of (knd:=strKind pw w) rfl hb hel]
 simp only [↓reduceIte]
 unfold setAddByScan
 refine wpAny_bind ?_
 refine wpAny_bind (wpAny_rule ?_)
 refine wpAny_bind (wpAny_setScan_of (knd:=strKind pw w) hkey ho hd hf hel ?_)
 cases hr:List.findIdx? (fun e=>(strKind pw w).is q e.2) es.toList with
 | some j=>
  dsimp only
  refine xE12 (List.findIdx?_eq_some_iff_getElem.mp hr) fun hj hpj _=>?_
  have hSk:xs.contains q=true:=(hmem q).mpr ⟨es.toList[j],List.getElem_mem hj,hpj⟩
  refine wpAny_pure (wpAny_pure ?_)
  exact hQ s.heap o _ (Heap.SameBut.refl ..) ho (by rw [if_pos hSk];exact r0)
 | none=>
  dsimp only
  have hSk:xs.contains q=false:=by
   cases hk:xs.contains q with
   | false=>rfl
   | true=>obtain⟨e,he,hp⟩:=(hmem q).mp hk;have:=List.findIdx?_eq_none_iff.mp hr e he;rw [hp]at this;exact Bool.noConfusion this
  rw [hSk]at hQ
  simp only [Bool.false_eq_true,if_false]at hQ
  have hgw:∀ (b:Bool){s₁:Shared}{Q':Unit→Shared→Prop},Q' () s₁→wpAny (model pw w) A (match b with | true=>rule "set.scan.the-table-gave-way" | false=>pure ()) Q' E s₁:=
   fun b s₁ Q' hq=>by cases b <;> first | exact wpAny_pure hq | exact wpAny_rule hq
  have hperm:=layNew_perm t es ((strKind pw w).hash q) (.str q tk)
  have hfits:=layNew_fits t es ((strKind pw w).hash q) (.str q tk)
  have hld1:=layNew_led t es ((strKind pw w).hash q) (.str q tk)
  generalize hL:layNew t es ((strKind pw w).hash q) (.str q tk)=L at hperm hfits hld1 ⊢
  obtain⟨es1,t1,wasDummy,gave⟩:=L
  dsimp only at hperm hfits hld1 ⊢
  rw [Array.toList_push]at hperm
  have hel1:ElemsOf (strKind pw w) es1.toList:=(hel.push hkey rfl).perm hperm
  have hmem1:∀ k',(xs.contains k' || decide (k'=q))=true↔∃ e∈es1.toList,(strKind pw w).is k' e.2=true:=mem_push_iff hkey hmem hperm
  have hsz1:es1.size=es.size+1:=by rw [←Array.length_toList,hperm.length_eq,List.length_append,Array.length_toList];rfl
  refine wpAny_bind (hgw _ ?_)
  -- what is stored at last
  have fin:∀ (es2:Array (Int×Value)) (t2:SetTable) (ep2:Nat),es2.toList.Perm es1.toList→t2.fits es2.size=true→t2.led=t.led→t2.plain=false→SetR w (xs++[q]) { o with data:=.set es2 ep2 t2 }:=by
   intro es2 t2 ep2 hp2 hf2 hl2 hpl2
   have hsz2:es2.size=es1.size:=by rw [←Array.length_toList,hp2.length_eq,Array.length_toList]
   refine⟨hex,es2,ep2,t2,rfl,hel1.perm hp2,fun k=>?_,by rw [hsz2,hsz1];exact hb1,hf2,by rw [hsz2,hsz1,hn];simp,by rw [hl2];exact hled,.inl hpl2⟩
   have e1:(xs++[q]).contains k=(xs.contains k || decide (k=q)):=by
    rw [Bool.eq_iff_iff];simp
   rw [e1,hmem1 k]
   exact⟨fun⟨e,he,z⟩=>⟨e,hp2.mem_iff.mpr he,z⟩,fun⟨e,he,z⟩=>⟨e,hp2.mem_iff.mp he,z⟩⟩
  have hb1':es1.size≤sizeLine:=size_line (by rw [hsz1,hn];lia)
  have store:∀ (t2:SetTable),t2.fits es1.size=true→t2.led=t.led→t2.plain=false→
    wpAny (model pw w) A (do
     storeSet a es1 t2
     if (!wasDummy && t2.tooFull)=true then do
       (match (relayAll t2 es1 (SetTable.grown es1.size)).2.2 with | true=>rule "set.scan.the-table-gave-way" | false=>pure ():Sem Unit)
       storeSet a (relayAll t2 es1 (SetTable.grown es1.size)).1 (relayAll t2 es1 (SetTable.grown es1.size)).2.1
       pure (some true)
      else pure (some true)) (fun r s'=>wpAny (model pw w) A (match r with | some added=>pure added | none=>setAddHashedIn a (.str q tk) ((strKind pw w).hash q) 99999) Q E s') E s:=by
   intro t2 hf2 hl2 hpl2
   refine wpAny_bind (wpAny_storeSet_of ho hd ?_ hb1')
   have hg1:(s.heap.update a (Obj.putSet es1 t2)).get? a=some { o with data:=.set es1 (ep+1) t2 }:=by
    have:=Heap.get?_update_self (Obj.putSet es1 t2) ho (by rw [putSet_of es1 t2 hd];rfl)
    rw [putSet_of es1 t2 hd]at this;exact this
   have hsb1:=Heap.SameBut.update s.heap a (Obj.putSet es1 t2)
   split
   ·have hp:=relayAll_perm t2 es1 (SetTable.grown es1.size)
    have hfr:=relayAll_fits t2 es1 (SetTable.grown es1.size)
    have hlr:=relayAll_led t2 es1 (SetTable.grown es1.size)
    have hsz2:(relayAll t2 es1 (SetTable.grown es1.size)).1.size=es1.size:=by rw [←Array.length_toList,hp.length_eq,Array.length_toList]
    refine wpAny_bind (hgw _ ?_)
    refine wpAny_bind (wpAny_storeSet_of hg1 rfl ?_ (by rw [hsz2];exact hb1'))
    have hg2:=Heap.get?_update_self (Obj.putSet (relayAll t2 es1 (SetTable.grown es1.size)).1 (relayAll t2 es1 (SetTable.grown es1.size)).2.1) hg1 (by rw [putSet_of _ _ rfl];rfl)
    rw [putSet_of _ _ rfl]at hg2
    exact wpAny_pure (wpAny_pure (hQ _ _ _ (hsb1.trans (Heap.SameBut.update _ a _)) hg2 (fin _ _ _ hp hfr (hlr.1.trans hl2) (hlr.2 hpl2))))
   ·exact wpAny_pure (wpAny_pure (hQ _ _ _ hsb1 hg1 (fin _ _ _ (.refl _) hf2 hl2 hpl2)))
  split
  ·refine wpAny_bind ?_
   rw [hashByValue_scannable 8 (x:=.str q tk) rfl]
   refine wpAny_pure ?_
   exact store _ (SetTable.fits_plain_off hfits) hld1 rfl
  ·rename_i hp1
   refine wpAny_bind (wpAny_pure ?_)
   simp only [↓reduceIte]
   exact store _ hfits hld1 (by simpa using hp1)
theorem add_meth {B:Base}{α:List Addr}{σ:Sto}{os:OsState}{l:Nat}{Q:Value→Shared→Prop} (he:σ[l]? = some (.set xs)) (hz:xs.length<900) (S:StS w B α σ os s) (hl:VR α (.loc l) (.ref a))
  (k:Post w B α (σ.set l (.set (if xs.contains q then xs else xs++[q]))) os .none Q):wpAny (model pw w) A (call (.builtin "set.add") [.ref a,.str q tk]) Q Ef s:=by
 refine byG fun GG6 kk6=>?_
 refine xE13 (S.at hl he) fun o1 g1 r1 hm=>?_
 refine kk6 ?_
 have hS:=SetR.of r1 g1
 refine wpAny_call_entry F.slot_set_add hS.typeIs F.entry_set_add ?_ (F.args_set_add_2 _ _)
 unfold Builtin.«set.add» Builtin.Frozenset.oneOther
 simp only [List.isEmpty_nil,bind_assoc]
 unfold Builtin.Frozenset.addrOf setAdd
 refine wpAny_bind (wpAny_pure ?_)
 try dsimp only
 refine wpAny_bind (wpAny_pure ?_)
 try dsimp only
 refine wpAny_bind ?_
 refine wpAny_holding ?_
 refine wpAny_bind ((strKind pw w).pyHash (isStr_self q tk) ?_)
 refine set_add_core (s:={ s with toks:=s.toks+1 }) g1 r1 hz fun h' o' b hsb g' r'=>?_
 show wpAny _ _ (ret Value.none) _ _ _
 exact wpAny_pure ⟨_,rfl,k α _ _ (pre_refl α) (S.set (ao:=.set _) hm (fun es h=>by rw [he]at h;cases h) hsb g' r') .none⟩
theorem set_code_new {args:List Value}{Q₁:Value→Shared→Prop} (hc:checkBuiltinCall "set.__new__" ⟨.type "set" :: args,[]⟩=pure ())
  (h:Q₁ (.ref s.heap.objs.size) { s with heap:=s.heap.push { cls:=.type "set",dict:=none,data:=.set #[] 0 (.fresh 0 0 (!byTx w)) } }) :
  codeAny (model pw w) A (.call (.builtin "set.__new__") ⟨.type "set" :: args,[]⟩) (wants Q₁ E) s:=by
 refine codeAny_of_tree ?_
 show wpAny _ A.in1 (do checkBuiltinCall "set.__new__" ⟨.type "set" :: args,[]⟩;again (.builtin "set.__new__" ⟨.type "set" :: args,[]⟩)) _ _ s
 refine wpAny_bind (wpAny_of_eq hc (wpAny_pure ⟨plainId_quiet F.plain_set_new _,codeAny_builtin F.entry_set_new ?_⟩))
 rw [Around.under_plainId F.plain_set_new _]
 unfold Builtin.«set.__new__» Builtin.Frozenset.newClass
 have hsub:=sub_set_self
 obtain⟨hp,g,d,tk,os⟩:=s
 dsimp only
 wp_walk
 refine wpAny_askSetting (wpAny_pure ?_)
 dsimp only
 simp only [newObj]
 refine wpAny_bind (wpAny_alloc (wpAny_pure ?_))
 exact wpAny_pure h
theorem setR_new:SetR w [] { cls:=.type "set",dict:=none,data:=.set #[] 0 (.fresh 0 0 (!byTx w)) }:=
 ⟨⟨rfl,rfl,rfl⟩,#[],0,_,rfl,fun e he=>by simp at he,fun k=>by simp,by unfold scanBound;decide,by rfl,rfl,by
  cases h:byTx w with
  | true=>exact .inr h
  | false=>exact .inl rfl,.inr rfl⟩
set_option maxHeartbeats 1000000 in
theorem set0_ok {σ:Sto}:CallOk w A (.cst (.type "set")) [] σ (.loc σ.length) (σ++[.set []]):=by
 intro B α os s gv ys Q G S rg rs k
 refine VR.cstE rg ?_
 cases rs with
 | nil=>
  have hp:α <+: α++[s.heap.objs.size]:=⟨_,rfl⟩
  obtain⟨S',r'⟩:=S.alloc (o:={ cls:=.type "set",dict:=none,data:=.set #[] 0 (.fresh 0 0 (!byTx w)) }) (ao:=.set []) (t:=s.toks) rfl setR_new
  have fin:=k _ _ _ hp S' r'
  refine xE21 F.called_set.mro fun c tl hmro=>?_
  have hmade:=F.called_set.made
  have hsub:=F.called_set.sub
  refine wpAny_call (codeAny_of_tree ?_)
  show wpAny _ _ (callAny (.type "set") _) _ _ _
  refine wpAny_pure ⟨Code.quiet_builtin _ (by decide +kernel),codeAny_builtin F.entry_type_call ?_⟩
  rw [Around.under_plain (weight_type_call_type "set" [] []) rfl]
  have h1:=F.called_set.notType
  have h2:=F.called_set.canCreate
  have hct:=F.typeCall_set_0
  repeat (any_goals (first | assumption | wp_step))
  refine codeAny_mono (set_code_new (E:=Ef) (args:=[]) F.newCall_set_0 (Q₁:=fun obj s₁=>obj=.ref s.heap.objs.size∧s₁={ s with heap:=s.heap.push { cls:=.type "set",dict:=none,data:=.set #[] 0 (.fresh 0 0 (!byTx w)) } }) ⟨rfl,rfl⟩) fun r s₁ hr=>?_
  cases r with
  | error e=>exact hr
  | ok fl=>
   cases fl with
   | ret obj=>
    obtain⟨rfl,rfl⟩:=hr
    have hS:(s.heap.push { cls:=.type "set",dict:=none,data:=.set #[] 0 (.fresh 0 0 (!byTx w)) }).get? s.heap.objs.size=some { cls:=.type "set",dict:=none,data:=.set #[] 0 (.fresh 0 0 (!byTx w)) }:=Heap.get?_push_size _ rfl
    have hT:Shared.TypeIs { s with heap:=s.heap.push { cls:=.type "set",dict:=none,data:=.set #[] 0 (.fresh 0 0 (!byTx w)) } } (.ref s.heap.objs.size) "set":=⟨_,hS,rfl⟩
    have hli:=F.called_set.init.lookup
    have hbi:=F.called_set.init.bind (.ref s.heap.objs.size)
    repeat (any_goals (first | assumption | wp_step))
    refine codeAny_mono (codeAny_call_builtin (R:=wants (fun r s₂=>r=.none∧Q (.ref s.heap.objs.size) s₂) Ef) F.called_set.init.plain F.entry_set_init (check_set_init hT ?_)) fun r₂ s₂ hr₂=>?_
    ·unfold Builtin.«set.__init__» noKeywords
     wp_walk
     exact⟨rfl,fin⟩
    ·cases r₂ with
     | error e=>exact hr₂
     | ok fl₂=>
      cases fl₂ with
      | ret r=>
       obtain⟨rfl,hq⟩:=hr₂
       repeat (any_goals (first | assumption | wp_step))
      | _=>exact hr₂.elim
   | _=>exact hr.elim
end
end Mine
end
section
open PySem PySem.W PyProof.Rows PySem.Calls PySem.SeqAt
set_option maxRecDepth 100000
set_option linter.unusedVariables false
set_option autoImplicit false
namespace Mine
section
variable {w:World}{A:Around}{E:Value→Shared→Prop}{s:Shared}{a I:Addr}{o:Obj}{xs:List Str}{q:Str}{tk:Tok}
theorem RelS.allocAt {B:Base}{α:List Addr}{σ:Sto}{h:Heap} (R:RelS w B α σ h){a:Addr}{o:Obj}{ao:AO} (ha:a∉α) (hB:B a=none) (hbig:100<a) (ho:h.get? a=some o) (hc:CR w (α++[a]) ao o):RelS w B (α++[a]) (σ++[ao]) h:=by
 have hp:α <+: α++[a]:=⟨_,rfl⟩
 refine⟨by simp [R.len],R.keep,?_,?_,?_,?_,R.top⟩
 ·intro i ao' e
  rcases Nat.lt_trichotomy i σ.length with q | q | q
  ·rw [List.getElem?_append_left q]at e
   refine xE23 (R.obj i ao' e) fun a o' e1 e2 e3=>?_
   exact⟨a,o',getElem?_pre hp e1,e2,e3.mono hp⟩
  ·subst q
   simp only [List.getElem?_concat_length,Option.some.injEq]at e
   subst e
   refine⟨a,o,?_,ho,hc⟩
   rw [←R.len];simp
  ·rw [List.getElem?_eq_none (by simp;lia)]at e;cases e
 ·intro i b e
  rcases Nat.lt_trichotomy i α.length with q | q | q
  ·rw [List.getElem?_append_left q]at e
   rw [List.getElem?_append_left (R.len ▸ q)]
   exact R.offB i b e
  ·subst q
   simp only [List.getElem?_concat_length,Option.some.injEq]at e
   subst e
   exact .inl hB
  ·rw [List.getElem?_eq_none (by simp;lia)]at e;cases e
 ·rw [List.nodup_append]
  exact⟨R.nd,by simp,fun b hb c hc e=>by
   rw [List.mem_singleton]at hc
   subst hc;subst e;exact ha hb⟩
 ·intro b hb
  rcases List.mem_append.mp hb with hb | hb
  ·exact R.big b hb
  ·rw [List.mem_singleton]at hb;subst hb;exact hbig
theorem loop_one {R:Result→Shared→Prop}{Sa l It:Addr} (hh:A.handled=none) (hS:s.heap.get? Sa=some o) (r:SetR w [] o) (hl:s.heap.IsList l #[.str q tk]) (hit:s.heap.IsListIter It l 0) (n1:Sa≠l) (n2:Sa≠It) (n3:l≠It)
  (hR:∀ h' o' t',h'.get? Sa=some o'→SetR w [q] o'→(∀ b o,b≠Sa→b≠It→s.heap.get? b=some o→h'.get? b=some o)→R (.ok (.ret .none)) { s with heap:=h',toks:=t' }) :
  codeAny (model pw w) A (.builtin "set.update.loop" ⟨[.ref Sa,.ref It],[]⟩) R s:=by
 have hh1:A.in1.handled=none:=hh
 refine codeAny_builtin F.entry_set_update_loop ?_
 rw [Around.under_plainId F.plain_set_update_loop _]
 unfold Builtin.«set.update.loop»
 refine wpAny_bind (wpAny_pyNext_list_item hit hl (x:=.str q tk) rfl fun h₁ hit₁ hs₁=>?_)
 dsimp only
 refine wpAny_bind (wpAny_holding ?_)
 unfold setAdd
 refine wpAny_holding ?_
 refine wpAny_bind ((strKind pw w).pyHash (isStr_self q tk) ?_)
 refine set_add_core (xs:=[]) (s:={ s with heap:=h₁,toks:=s.toks+1 }) (hs₁.extBut _ _ n2 hS) r (by simp) fun h₂ o₂ b hs₂ g₂ r₂=>?_
 have hs₂:Heap.SameBut Sa h₁ h₂:=hs₂
 refine wpAny_pure ⟨plainId_quiet F.plain_set_update_loop _,codeAny_builtin F.entry_set_update_loop ?_⟩
 rw [Around.under_plainId F.plain_set_update_loop _]
 unfold Builtin.«set.update.loop»
 refine wpAny_bind (wpAny_pyNext_list_end (items:=#[.str q tk]) hh1 (hit₁.extBut hs₂.extBut (Ne.symm n2)) ((hl.extBut hs₁.extBut n3).extBut hs₂.extBut (Ne.symm n1)) rfl fun h₃ hs₃=>?_)
 dsimp only
 exact wpAny_pure (hR h₃ o₂ _ (hs₃ _ _ n2 g₂) r₂ fun b o hb1 hb2 e=>hs₃ b o hb2 (hs₂.extBut b o hb1 (hs₁.extBut b o hb2 e)))
set_option maxHeartbeats 3200000 in
theorem set1_ok {σ:Sto}{l:Nat} (he:σ[l]? = some (.list [.str q])) (hh:A.handled=none):CallOk w A (.cst (.type "set")) [.loc l] σ (.loc σ.length) (σ++[.set [q]]):=by
 intro B α os s gv ys Q G S rg rs k
 refine VR.cstE rg ?_
 cases rs with
 | cons ra rs=>cases rs with
  | nil=>
   refine byG fun GG3 kk3=>?_
   refine xE12 ra.ref_of fun la q1_ ra=>?_
   subst q1_
   refine xE13 (S.at ra he) fun o1 g1 q2_ hm=>?_
   obtain⟨it,n,rfl,r1⟩:=q2_
   obtain⟨itl⟩:=it
   refine kk3 ?_
   cases r1 with
   | cons rq rn=>cases rn with
    | nil=>
     obtain⟨tk,rfl⟩:=rq.str_of
     have hlS:la<s.heap.objs.size:=Heap.lt_size g1
     -- what is to be shown of the end
     have fin:∀ h' o' t',h'.get? s.heap.objs.size=some o'→SetR w [q] o'→(∀ b o,b<s.heap.objs.size→s.heap.get? b=some o→h'.get? b=some o)→Q (.ref s.heap.objs.size) { s with heap:=h',toks:=t' }:=by
      intro h' o' t' g' r' hk
      have hp:α <+: α++[s.heap.objs.size]:=⟨_,rfl⟩
      have S0:StS w B α σ os { s with heap:=h',toks:=t' }:=S.over G (h':=h') (t:=t') fun b o e=>hk b o (Heap.lt_size e) e
      exact k _ _ _ hp ⟨S0.rel.allocAt (fun hm=>absurd (S.rel.lt hm) (Nat.lt_irrefl _)) (base_size S.rel.keep) (Nat.lt_trans (by decide) S.rel.top) g' r',S0.gens,S0.os⟩ (.loc (by rw [←S.rel.len];simp))
     refine xE21 F.called_set.mro fun c tl hmro=>?_
     have hmade:=F.called_set.made
     have hsub:=F.called_set.sub
     refine wpAny_call (codeAny_of_tree ?_)
     show wpAny _ _ (callAny (.type "set") _) _ _ _
     refine wpAny_pure ⟨Code.quiet_builtin _ (by decide +kernel),codeAny_builtin F.entry_type_call ?_⟩
     rw [Around.under_plain (weight_type_call_type "set" [.ref la] []) rfl]
     have h1:=F.called_set.notType
     have h2:=F.called_set.canCreate
     have hct:=F.typeCall_set_1 (.ref la)
     repeat (any_goals (first | assumption | wp_step))
     refine codeAny_mono (set_code_new (E:=Ef) (args:=[.ref la]) (F.newCall_set_1 _) (Q₁:=fun obj s₁=>obj=.ref s.heap.objs.size∧s₁={ s with heap:=s.heap.push { cls:=.type "set",dict:=none,data:=.set #[] 0 (.fresh 0 0 (!byTx w)) } }) ⟨rfl,rfl⟩) fun r s₁ hr=>?_
     cases r with
     | error e=>exact hr
     | ok fl=>
      cases fl with
      | ret obj=>
       obtain⟨rfl,rfl⟩:=hr
       have hS:(s.heap.push { cls:=.type "set",dict:=none,data:=.set #[] 0 (.fresh 0 0 (!byTx w)) }).get? s.heap.objs.size=some { cls:=.type "set",dict:=none,data:=.set #[] 0 (.fresh 0 0 (!byTx w)) }:=Heap.get?_push_size _ rfl
       have hT:Shared.TypeIs { s with heap:=s.heap.push { cls:=.type "set",dict:=none,data:=.set #[] 0 (.fresh 0 0 (!byTx w)) } } (.ref s.heap.objs.size) "set":=⟨_,hS,rfl⟩
       have hli:=F.called_set.init.lookup
       have hbi:=F.called_set.init.bind (.ref s.heap.objs.size)
       repeat (any_goals (first | assumption | wp_step))
       refine codeAny_mono (codeAny_call_builtin (R:=wants (fun r s₂=>r=.none∧Q (.ref s.heap.objs.size) s₂) Ef) F.called_set.init.plain F.entry_set_init (check_set_init_1 hT ?_)) fun r₂ s₂ hr₂=>?_
       ·have hol':(s.heap.push { cls:=.type "set",dict:=none,data:=.set #[] 0 (.fresh 0 0 (!byTx w)) }).get? la=some { cls:=.type "list",dict:=none,data:=.seq #[.str q tk] n,slots:=#[] }:=Heap.get?_push_of_some _ g1
        have hsls:=F.sub_list_set
        have hslf:=F.sub_list_frozenset
        have hne:(Value.type "list" == Value.type "dict")=false:=by decide
        have hl1:(s.heap.push { cls:=.type "set",dict:=none,data:=.set #[] 0 (.fresh 0 0 (!byTx w)) }).IsList la #[.str q tk]:=⟨_,hol',rfl,n,rfl⟩
        unfold Builtin.«set.__init__» noKeywords Builtin.Frozenset.updateFrom
        generalize hPI:pyIter=PI
        wp_walk
        subst hPI
        refine wpAny_pyIter_list hl1 ?_
        refine wpAny_bind (wpAny_runValue ?_)
        have hzz:(s.heap.push { cls:=.type "set",dict:=none,data:=.set #[] 0 (.fresh 0 0 (!byTx w)) }).objs.size=s.heap.objs.size+1:=Heap.size_push ..
        refine loop_one (o:={ cls:=.type "set",dict:=none,data:=.set #[] 0 (.fresh 0 0 (!byTx w)) }) (l:=la) (by simp [hh]) (Heap.get?_push_of_some _ hS) setR_new (hl1.push _) ⟨_,Heap.get?_push_size _ rfl,rfl,rfl⟩ (Nat.ne_of_gt hlS) (by rw [hzz];exact Nat.ne_of_lt (Nat.lt_succ_self _)) (by rw [hzz];exact Nat.ne_of_lt (Nat.lt_succ_of_lt hlS)) fun h' o' t' g' r' hk=>?_
        refine wpAny_pure (wpAny_pure ⟨rfl,fin h' o' t' g' r' fun b o hb e=>hk b o (Nat.ne_of_lt hb) (by rw [hzz];exact Nat.ne_of_lt (Nat.lt_succ_of_lt hb)) (Heap.get?_push_of_some _ (Heap.get?_push_of_some _ e))⟩)
       ·cases r₂ with
        | error e=>exact hr₂
        | ok fl₂=>
         cases fl₂ with
         | ret r=>
          obtain⟨rfl,hq⟩:=hr₂
          repeat (any_goals (first | assumption | wp_step))
         | _=>exact hr₂.elim
      | _=>exact hr.elim
end
end Mine
end
section
open PySem PySem.W PyProof.Rows PySem.Calls PySem.SeqAt
set_option maxRecDepth 100000
set_option linter.unusedVariables false
set_option autoImplicit false
namespace Mine
section
variable {prog:Program}{w:World}{P:Params}{A:Around}{E:Value→Shared→Prop}{s:Shared}{l b:Addr}{items items2:Array Value}{n n2:Nat}{dd dd2:Option Addr}
theorem rich_lt_int {a b:Int}{t u:Tok}{Q:Value→Shared→Prop} (h:Q (.bool (decide (a<b))) s):wpAny (model prog w) A (richCompare .Lt (.int a t) (.int b u)) Q E s:=wpAny_lt_int h
theorem m_lt_run {a1 b1 c1 a2 b2 c2:Int}{t1 t2 t3 u1 u2 u3:Tok} (X:(KK P).In s.heap) (hm:s.heap.get? l=some (MObj #[.int a1 t1,.int b1 t2,.int c1 t3] n dd))
  (hb:s.heap.get? b=some (MObj #[.int a2 u1,.int b2 u2,.int c2 u3] n2 dd2)){Q:Value→Shared→Prop} (h:Q (.bool (tlt (a1,b1,c1) (a2,b2,c2))) s) :
  wpAny (model prog w) A (Builtin.«tuple.__lt__» ⟨[.ref l,.ref b],[]⟩) (fun fin s'=>∃ v,fin=.done (.ret v)∧Q v s') E s:=by
 obtain⟨hp,g,d,tk,os⟩:=s
 simp only [tlt]at h
 wp_walk
 refine(looks_mroIn X (kk_sub P)).at ?_
 simp only [Bool.not_true,Bool.false_eq_true,if_false]
 wp_walk using AutoSeq1.wpAny_loadPart' hm,AutoSeq1.wpAny_loadPart' hb,wpAny_eqBool_int
 by_cases e1:a1=a2
 case neg=>
  rw [show(a1 == a2)=false by simpa using e1]
  rw [if_neg e1]at h
  wp_walk using rich_lt_int
  exact⟨_,rfl,h⟩
 subst e1
 rw [if_pos rfl]at h
 rw [beq_self_eq_true]
 wp_walk using wpAny_eqBool_int
 by_cases e2:b1=b2
 case neg=>
  rw [show(b1 == b2)=false by simpa using e2]
  rw [if_neg e2]at h
  wp_walk using rich_lt_int
  exact⟨_,rfl,h⟩
 subst e2
 rw [if_pos rfl]at h
 rw [beq_self_eq_true]
 wp_walk using wpAny_eqBool_int
 by_cases e3:c1=c2
 case neg=>
  rw [show(c1 == c2)=false by simpa using e3]
  wp_walk using rich_lt_int
  exact⟨_,rfl,h⟩
 subst e3
 rw [beq_self_eq_true]
 wp_walk using wpAny_eqBool_int
 exact⟨_,rfl,by simpa [Builtin.Tuple.tupleCompareSizes] using h⟩
theorem m_ifBound {id m:String}{name:Str}{f:Builtin}{x:Value}{Q:Option Value→Shared→Prop} (X:(KK P).In s.heap) (hm:s.heap.get? l=some (MObj items n dd))
  (hf:findIn (KK P) (.ref 135) name=some (some (.builtin id))) (hb:∀ self,bindSpecial (.builtin id) self=pure (.builtin id,[self])) (hk:builtinKind id=some .slot) (hsplit:splitId id=some ("tuple",m))
  (hq:plainId id=true) (he:entryFor table id=some f) (ha:argsOk id ⟨[.ref l,x],[]⟩)
  (h:wpAny (model prog w) A.in1 (f ⟨[.ref l,x],[]⟩) (fun fin s'=>∃ v,fin=.done (.ret v)∧Q (some v) s') E s):wpAny (model prog w) A (callSpecialIfBound? (.ref l) name [x]) Q E s:=by
 unfold callSpecialIfBound? bindSpecialIfBound?
 refine wpAny_holding (wpAny_bind (wpAny_bind ?_))
 show wpAny _ _ (typeOf (.ref l) >>= fun t=>typeLookup t name) _ _ _
 refine wpAny_bind (m_typeOf hm ((looks_findIn X hf).at ?_))
 simp only [hb]
 have fin:wpAny (model prog w) A (call (.builtin id) ([.ref l]++[x]) >>= fun v=>pure (some v)) Q E s:=by
  refine wpAny_bind (m_call X hm hk hsplit hq he ha (wpAny_mono h (fun fin s' h'=>?_) fun _ _ h'=>h'))
  obtain⟨v,rfl,hv⟩:=h'
  exact⟨v,rfl,wpAny_pure hv⟩
 refine wpAny_bind (wpAny_askSetting (wpAny_ite ?_))
 split
 ·exact wpAny_bind (wpAny_pure (wpAny_pure fin))
 ·exact wpAny_tryCatch (wpAny_bind (wpAny_pure (wpAny_pure fin)))
theorem m_keyLt {a1 b1 c1 a2 b2 c2:Int}{t1 t2 t3 u1 u2 u3:Tok} (hu:A.units<cLine) (X:(KK P).In s.heap) (hm:s.heap.get? l=some (MObj #[.int a1 t1,.int b1 t2,.int c1 t3] n dd))
  (hb:s.heap.get? b=some (MObj #[.int a2 u1,.int b2 u2,.int c2 u3] n2 dd2)){Q:Bool→Shared→Prop} (h:Q (tlt (a1,b1,c1) (a2,b2,c2)) s) :
  wpAny (model prog w) A (keyLt' oneType' (.ref l) (.ref b)) Q E s:=by
 rw [keyLt'_oneType,oneLt'_eq]
 simp only [if_true]
 refine wpAny_bind (wpAny_cRoomFor hu ?_)
 refine wpAny_bind (m_ifBound X hm (kk_lt _) F.slot_tuple_lt.bind kind_tuple_lt (m:="__lt__") (by decide +kernel) F.slot_tuple_lt.plain F.entry_tuple_lt (F.args_tuple_lt_2 _ _) ?_)
 refine wpAny_mono (m_lt_run X hm hb (Q:=fun v s'=>v=.bool (tlt (a1,b1,c1) (a2,b2,c2))∧s'=s) ⟨rfl,rfl⟩) (fun fin s' h'=>?_) fun _ _ h'=>h'
 obtain⟨v,rfl,rfl,rfl⟩:=h'
 exact⟨_,rfl,wpAny_truthy_bool h⟩
theorem runT_wp {β:Type}{cmp:Nat→Nat→(Bool→Shared→Prop)→Shared→Prop}{f:Nat→Nat→Option Bool}{Q:β→Shared→Prop}{s:Shared} (hc:∀ i j c,f i j=some c→∀ C:Bool→Shared→Prop,C c s→cmp i j C s) :
  ∀ {t:KasT β}{b:β},runT f t=some b→Q b s→t.kasWp cmp Q s
 | .ret a,b,h,q=>Option.some.inj h ▸ q
 | .ask i j k,b,h,q=>xE12 (bnd (x:=f i j) (g:=fun c=>runT f (k c)) h) fun c e h=>hc i j c e _ (runT_wp hc h q)
noncomputable def TripAt (σ:Sto) (xs:List AV) (ts:List (Int×Int×Int)):Prop:=ts.length=xs.length∧∀ (i:Nat) (x:Int×Int×Int),ts[i]? = some x→∃ m,xs[i]? = some (AV.loc m)∧σ[m]? = some (AO.tup (.ref 135) [.int x.1,.int x.2.1,.int x.2.2])
theorem VRs.getD {α:List Addr}{xs:List AV}{ys:List Value} (r:VRs α xs ys) (i:Nat):VR α (xs.getD i .none) (ys.getD i .none):=by
 rw [List.getD_eq_getElem?_getD,List.getD_eq_getElem?_getD]
 cases e:xs[i]? with
 | none=>
  have:ys[i]? = none:=by
   rw [List.getElem?_eq_none_iff]at e ⊢
   rw [←r.length];exact e
  rw [this];exact .none
 | some v=>
  refine xE12 (r.get e) fun y hy q=>?_
  rw [hy];exact q
theorem VRs.pick {α:List Addr}{xs:List AV}{ys:List Value} (r:VRs α xs ys):∀ p:List Nat,VRs α (p.map fun i=>xs.getD i .none) (p.map fun i=>ys.getD i .none)
 | []=>.nil
 | i :: p=>.cons (r.getD i) (r.pick p)
theorem range_getD {β:Type} (d:β) (xs:List β):(List.range xs.length).map (fun i=>xs.getD i d)=xs:=by
 refine List.ext_getElem? fun i=>?_
 rw [List.getElem?_map]
 rcases Nat.lt_or_ge i xs.length with h | h
 ·rw [List.getElem?_range h]
  simp [h]
 ·rw [List.getElem?_eq_none (by simpa using h),List.getElem?_eq_none (by simpa using h)];rfl
end
section
variable {w:World}{A:Around}{B B':Base}{α α':List Addr}{σ σ':Sto}{os:OsState}{s s':Shared}{h h':Heap}{o:Obj}
theorem sort_meth {l:Nat}{xs:List AV}{ts:List (Int×Int×Int)}{p:List Nat}{a:Addr}{Q:Value→Shared→Prop} (he:σ[l]? = some (.list xs)) (hz:xs.length≤60) (hu:A.units<cLine) (hu1:A.in1.units<cLine) (ht:TripAt σ xs ts) (hp:sortT ts=some p)
  (G:Gd w B) (S:StS w B α σ os s) (hl:VR α (.loc l) (.ref a)) (k:Post w B α (σ.set l (.list (p.map fun i=>xs.getD i .none))) os .none Q):wpAny (model pw w) A (call (.builtin "list.sort") [.ref a]) Q Ef s:=by
 refine byG fun Z kZ=>?_
 refine xE13 (S.at hl he) fun o1 ho q5_ hm=>?_
 obtain⟨it,n,rfl,r1⟩:=q5_
 obtain⟨vs,rfl⟩:∃ vs:List Value,it=vs.toArray:=⟨it.toList,rfl⟩
 have r1:VRs α xs vs:=r1
 have z:=r1.length
 obtain⟨hlen,hget⟩:=ht
 have hnl:∀ es,σ[l]?≠some (.locked es):=fun es q=>by rw [he]at q;cases q
 have hB:B a=none:=(S.rel.offB l a hm).elim id fun⟨⟨es,q⟩,_⟩=>absurd q (hnl es)
 have ha:a<s.heap.objs.size:=Heap.lt_size ho
 have s1:=Heap.SameBut.update s.heap a (Obj.mapSeq fun _=>(#[]:Array Value))
 obtain⟨e1,ho1⟩:∃ e1,(s.heap.update a (Obj.mapSeq fun _=>(#[]:Array Value))).get? a=some (seqObj "list" #[] e1):=⟨_,get?_update_seq ho fun _=>#[]⟩
 have hext:Heap.ExtBut a s.heap (((s.heap.update a (Obj.mapSeq fun _=>(#[]:Array Value))).push (seqObj "tuple" vs.toArray 0)).push (seqObj "list" #[] 0)):=fun b o hb e=>Heap.get?_push_of_some _ (Heap.get?_push_of_some _ (s1.extBut b o hb e))
 have ho3:(((s.heap.update a (Obj.mapSeq fun _=>(#[]:Array Value))).push (seqObj "tuple" vs.toArray 0)).push (seqObj "list" #[] 0)).get? a=some (seqObj "list" #[] e1):=Heap.get?_push_of_some _ (Heap.get?_push_of_some _ ho1)
 have hsz3:300<(((s.heap.update a (Obj.mapSeq fun _=>(#[]:Array Value))).push (seqObj "tuple" vs.toArray 0)).push (seqObj "list" #[] 0)).objs.size:=by
  rw [Heap.size_push,Heap.size_push,Heap.size_update]
  exact Nat.lt_succ_of_lt (Nat.lt_succ_of_lt S.rel.top)
 have X3:(KK w.params).In (((s.heap.update a (Obj.mapSeq fun _=>(#[]:Array Value))).push (seqObj "tuple" vs.toArray 0)).push (seqObj "list" #[] 0)):=G.K _ fun b o e=>hext b o (by rintro rfl;rw [hB]at e;cases e) (S.rel.keep b o e)
 generalize hH:((s.heap.update a (Obj.mapSeq fun _=>(#[]:Array Value))).push (seqObj "tuple" vs.toArray 0)).push (seqObj "list" #[] 0)=H3 at hext ho3 X3 hsz3
 have hpz:p.length=vs.length→(List.toArray (p.map fun i=>vs.getD i Value.none)).size≤sizeLine+1:=fun e=>by rw [List.size_toArray,List.length_map,e,sizeLine_eq];lia
 have done:p.length=vs.length→∀ c2,(H3.update a (Obj.mapSeq fun _=>List.toArray (p.map fun i=>vs.getD i Value.none))).get? a=some (seqObj "list" (List.toArray (p.map fun i=>vs.getD i Value.none)) c2)→
   Q .none { s with heap:=H3.update a (Obj.mapSeq fun _=>List.toArray (p.map fun i=>vs.getD i Value.none)) }:=fun _ c2 hc2=>
  k α .none _ (pre_refl α) ⟨S.rel.set hm hnl (fun b o hb e=>(Heap.SameBut.update H3 a _).extBut b o hb (hext b o hb e)) (by rw [Heap.size_update];exact hsz3) hc2 ⟨_,c2,rfl,r1.pick p⟩,S.gens,S.os⟩ .none
 refine kZ (wpAny_call_entry PySem.F.slot_list_sort ⟨_,ho,rfl⟩ PySem.F.entry_list_sort ?_ (PySem.F.args_list_sort_1 _))
 rw [list_sort_plain]
 refine wpAny_bind (listItems_at ho rfl ?_)
 refine wpAny_bind (listUpdate_at ho rfl ?_ (by rw [List.size_toArray,sizeLine_eq];lia) (Nat.zero_le _))
 refine wpAny_bind (seqEpoch_at ho1 rfl ?_)
 refine wpAny_bind (wpAny_newTuple ?_ (by show vs.length≤_;rw [sizeLine_eq];lia))
 refine wpAny_bind (wpAny_newList ?_ (Nat.zero_le _))
 refine wpAny_holding ?_
 show wpAny (model pw w) A.in1 _ _ Ef { s with heap:=((s.heap.update a (Obj.mapSeq fun _=>(#[]:Array Value))).push (seqObj "tuple" vs.toArray 0)).push (seqObj "list" #[] 0) }
 rw [hH]
 dsimp only
 by_cases hn2:vs.toArray.size<2
 ·have hn2':ts.length<2:=by rw [List.size_toArray]at hn2;lia
  have hpr:p=List.range vs.length:=by
   unfold sortT at hp
   rw [if_pos hn2']at hp
   cases hp
   rw [hlen,z]
  rw [if_pos hn2,if_pos hn2]
  refine wpAny_bind (wpAny_pure ?_)
  rw [StateT.run_pure]
  refine wpAny_bind (wpAny_pure ?_)
  dsimp only
  refine byG fun G7 k7=>?_
  have hout:((vs.toArray.zip vs.toArray).map (·.2))=List.toArray (p.map fun i=>vs.getD i Value.none):=by
   rw [hpr,range_getD]
   apply Array.toList_inj.mp
   rw [Array.toList_map,Array.toList_zip]
   simp [List.map_snd_zip]
  have hpl:p.length=vs.length:=by rw [hpr,List.length_range]
  obtain⟨c2,hc2⟩:∃ c2,(H3.update a (Obj.mapSeq fun _=>List.toArray (p.map fun i=>vs.getD i Value.none))).get? a=some (seqObj "list" (List.toArray (p.map fun i=>vs.getD i Value.none)) c2):=⟨_,get?_update_seq ho3 fun _=>List.toArray (p.map fun i=>vs.getD i Value.none)⟩
  refine k7 ?_
  refine wpAny_bind (seqEpoch_at ho3 rfl ?_)
  show wpAny _ _ (Builtin.List.listUpdate (.ref a) (fun _=>((vs.toArray.zip vs.toArray).map (·.2))) >>= _) _ _ _
  rw [hout]
  refine wpAny_bind (listUpdate_at ho3 rfl ?_ (Nat.zero_le _) (hpz hpl))
  simp only [bne_self_eq_false,Bool.false_eq_true,if_false]
  exact wpAny_pure ⟨_,rfl,done hpl c2 hc2⟩
 ·rw [if_neg hn2,if_neg hn2]
  have h2:2≤vs.length:=by rw [List.size_toArray]at hn2;lia
  unfold sortT at hp
  rw [if_neg (by lia)]at hp
  refine xE12 (Option.map_eq_some_iff.mp hp) fun pa hpa q6_=>?_
  subst q6_
  rw [show ts.length=vs.length by lia]at hpa
  have at3:∀ i x,ts[i]? = some x→∃ b n dd t1 t2 t3,vs.getD i Value.none=.ref b∧H3.get? b=some (MObj #[.int x.1 t1,.int x.2.1 t2,.int x.2.2 t3] n dd):=fun i x e=>by
   refine byG fun GG8 kk8=>?_
   refine xE12 (hget i x e) fun m hv hmm=>?_
   refine xE12 (r1.get hv) fun y hy ry=>?_
   refine xE12 ry.ref_of fun b q8_ rb=>?_
   subst q8_
   refine xE13 (S.at rb hmm) fun o2 g2 q9_ hm2=>?_
   refine xE33 q9_ fun it2 n2 dd q16_ r2 _=>?_
   subst q16_
   refine xE31 r2.three fun t1 t2 t3 e3=>?_
   refine kk8 ?_
   have:it2=#[.int x.1 t1,.int x.2.1 t2,.int x.2.2 t3]:=by rw [←Array.toArray_toList (xs:=it2),e3]
   subst this
   refine⟨b,n2,dd,t1,t2,t3,by rw [List.getD_eq_getElem?_getD,hy];rfl,hext b _ ?_ g2⟩
   rintro rfl
   have:=nodup_inj S.rel.nd hm hm2
   subst this
   rw [he]at hmm;cases hmm
  have ask:(kas_sort vs.length).kasWp (kas_ask pw w A.in1 oneType' vs) (fun p' s'=>p'=pa∧s'={ s with heap:=H3 }) { s with heap:=H3 }:=by
   refine runT_wp (fun i j c hc C hC=>?_) hpa ⟨rfl,rfl⟩
   refine xE12 (bnd hc) fun x hx hc=>xE12 (Option.map_eq_some_iff.mp hc) fun y hy q=>?_
   refine byG fun GG9 kk9=>?_
   obtain⟨b1,m1,d1,t1,t2,t3,e1,g1⟩:=at3 i x hx
   obtain⟨b2,m2,d2,u1,u2,u3,e2,g2⟩:=at3 j y hy
   refine kk9 ?_
   unfold kas_ask
   rw [e1,e2]
   exact m_keyLt hu1 X3 g1 g2 (q ▸ hC)
  rw [kas_ask_eq]at ask
  have hT:∀ v∈vs,Looks (model pw w) H3 (typeOf v) (.ref 135):=fun v hv=>by
   refine byG fun GG10 kk10=>?_
   obtain⟨i,hi,rfl⟩:=List.getElem_of_mem hv
   have hi':i<ts.length:=by lia
   obtain⟨b,m,d,t1,t2,t3,e1,g1⟩:=at3 i ts[i] (List.getElem?_eq_getElem hi')
   refine kk10 ?_
   have:vs[i]=.ref b:=by rw [←e1,List.getD_eq_getElem?_getD,List.getElem?_eq_getElem hi];rfl
   rw [this]
   exact(Looks.ld g1).andThen .now
  refine wpAny_bind (kas_kind h2 hT rfl rfl ?_)
  have est:SortSt.mk' oneType' (vs.toArray.zip vs.toArray) #[] 7 none=kas_st oneType' (pairsOf vs) (List.toArray (List.range vs.length)):=by
   have e:=kas_range (pairsOf vs)
   rw [pairsOf_size]at e
   show SortSt.mk' oneType' (pairsOf vs) #[] 7 none=SortSt.mk' oneType' ((List.toArray (List.range vs.length)).map (kas_item (pairsOf vs))) #[] 7 none
   rw [e]
  have run:=kas_runs (E:=Ef) (Q:=fun _ st' s'=>arrOf st'=pa.map (kas_item (pairsOf vs))∧failedOf st'=none∧pa.size=vs.length∧s'={ s with heap:=H3 })
   h2 (by lia) (fun p' st' s' a1 a2 a3 a4=>by obtain⟨rfl,rfl⟩:=a4;exact⟨a2,a3,a1,rfl⟩) ask
  rw [←est]at run
  refine wpAny_bind (wpAny_mono run ?_ fun _ _ e=>e)
  rintro⟨⟨⟩,st'⟩ s' ⟨har,hf,hps,rfl⟩
  dsimp only
  have hout:(arrOf st').map (·.2)=List.toArray (pa.toList.map fun i=>vs.getD i Value.none):=by
   apply Array.toList_inj.mp
   rw [har,Array.map_map,Array.toList_map]
   exact List.map_congr_left fun i _=>by show(kas_item (pairsOf vs) i).2=_;rw [kas_item_eq]
  have hpl:pa.toList.length=vs.length:=by rw [Array.length_toList,hps]
  obtain⟨c2,hc2⟩:∃ c2,(H3.update a (Obj.mapSeq fun _=>List.toArray (pa.toList.map fun i=>vs.getD i Value.none))).get? a=some (seqObj "list" (List.toArray (pa.toList.map fun i=>vs.getD i Value.none)) c2):=⟨_,get?_update_seq ho3 fun _=>List.toArray (pa.toList.map fun i=>vs.getD i Value.none)⟩
  refine wpAny_bind (seqEpoch_at ho3 rfl ?_)
  rw [hout]
  refine wpAny_bind (listUpdate_at ho3 rfl ?_ (Nat.zero_le _) (hpz hpl))
  rw [hf]
  simp only [bne_self_eq_false,Bool.false_eq_true,if_false]
  exact wpAny_pure ⟨_,rfl,done hpl c2 hc2⟩
end
end Mine
end
section
open PySem PySem.W PyProof.Rows PySem.Calls PySem.SeqAt
set_option maxRecDepth 100000
set_option linter.unusedVariables false
set_option autoImplicit false
namespace Mine
noncomputable def G322:Fun:={ params:=2,cells:=[0,1],defaults:=[],arity:=2,body:=[.ret .bad] }
theorem f322 (P:Params):FunOk P 322 G322 (fdO (o322 P)) (fnB (st1 17)) ((fnP (st1 17)).args.map (·.arg)) [] []:=
 ⟨⟨o322 P,by kernel_rfl,by kernel_rfl⟩,by kernel_rfl,by kernel_rfl,by kernel_rfl,by kernel_rfl,by kernel_rfl,by kernel_rfl,by kernel_rfl,by kernel_rfl,by kernel_rfl,by kernel_rfl,fun xs hx S=>by obtain⟨a,b,rfl⟩:=len2 hx;kernel_rfl,⟨by kernel_rfl,fun α=>.nil⟩,by show((fnS (st1 17)).names.map (·.1)).Nodup;decide +kernel,by kernel_rfl,by kernel_rfl,by kernel_rfl,by show((fnS (st1 17)).names.take _).all _=true;kernel_rfl⟩
noncomputable def lamPos:Pos:=(ei lamE).p
noncomputable def lamRet:Pos:=(si ((fnB (st1 17)).headD dS)).p
theorem lam_body:fnB (st1 17)=[.Return (some (.Lambda lamArgs lamBody lamSc lamPos)) lamRet]:=by kernel_rfl
theorem lam_names:lamSc.names=[(("call":Str),NameKind.local),("asked",NameKind.free),("reader",NameKind.free)]:=by decide +kernel
theorem asker_names:(fnS (st1 17)).names=[(("reader":Str),NameKind.cell),("asked",NameKind.cell)]:=by decide +kernel
noncomputable def recV (o:Obj):Array Value:=match o.data with
 | .fields vs=>vs
 | _=>#[]
noncomputable def strV:Value→Str×Tok
 | .str a b=>(a,b)
 | _=>("",0)
noncomputable def intV:Value→Int×Tok
 | .int a b=>(a,b)
 | _=>(0,0)
noncomputable def boolV:Value→Bool
 | .bool b=>b
 | _=>false
theorem kk_321 (P:Params):∃ o vs file tf flags tg inF text tt,(KK P).lookup 321=some o∧o.cls=.type "code"∧o.data=.fields vs∧vs[11]? = some (.ref 317)∧vs.getD 11 Value.none=.ref 317∧vs.getD 18 Value.none=.str file tf∧vs.getD 7 Value.none=.int flags tg∧
  vs.getD 9 Value.none=.bool inF∧vs.getD 10 Value.none=.int text tt:=by
 refine⟨o321 P,recV (o321 P),(strV ((recV (o321 P)).getD 18 Value.none)).1,(strV ((recV (o321 P)).getD 18 Value.none)).2,(intV ((recV (o321 P)).getD 7 Value.none)).1,(intV ((recV (o321 P)).getD 7 Value.none)).2,boolV ((recV (o321 P)).getD 9 Value.none),
  (intV ((recV (o321 P)).getD 10 Value.none)).1,(intV ((recV (o321 P)).getD 10 Value.none)).2,?_,?_,?_,?_,?_,?_,?_,?_,?_⟩
 all_goals kernel_rfl
section
variable {w:World}{A:Around}{B B':Base}{env:Env}{f:Nat→Option Nat}{α α':List Addr}{ρ ρ':Rho}{σ σ':Sto}{os:OsState}{s s':Shared}{h h':Heap}{o:Obj}
theorem codeHd_321 {P:Params}{h:Heap} (K:(KK P).In h):CodeHd h 321 317:=by
 refine byG fun GG1 kk1=>?_
 obtain⟨o,vs,file,tf,flags,tg,inF,text,tt,e,a,b,c,d,e1,e2,e3,e4⟩:=kk_321 P
 refine kk1 ?_
 exact⟨o,vs,file,tf,flags,tg,inF,text,tt,K _ _ e,a,b,c,d,e1,e2,e3,e4,by decide⟩
theorem clo_lam {env:Env}{cr ca:Addr} (h1:env.cells.lookup (Str.ofString "reader")=some cr) (h2:env.cells.lookup (Str.ofString "asked")=some ca):closureFor lamSc env=pure [(Str.ofString "reader",cr),(Str.ofString "asked",ca)]:=by
 unfold closureFor
 rw [lam_names]
 simp [cellOf,h1,h2]
theorem ev_lambda {c0 c1:Nat} (he:EnvOk env) (hs:env.scope=fnS (st1 17)) (hcode:env.code=.ref 321) (hq:env.qual="_law_asker.<locals>.") (h0:f 0=some c0) (h1:f 1=some c1) (ht:σ[1]? = some (.tab true)) (G:Gd w B) :
  EvOk w A B env f (eval (.Lambda lamArgs lamBody lamSc lamPos) env) ρ σ (.loc (σ.length+1)) (σ.set 1 (.tab false)++[.code,.clos [(2,c0),(1,c1)] σ.length]):=by
 intro α os s Q S k
 refine byG fun GG2 kk2=>?_
 refine xE22 G.T fun mg mb T q1_=>?_
 refine xE26 q1_ fun bm ob b1 b2 b3 b4 b5 b6=>?_
 have T:=T s.heap S.rel.keep
 have K:=G.K _ S.rel.keep
 refine xE24 (S.rel.obj 1 _ ht) fun a1 o1 e1 g1 p1 q2_=>?_
 refine xE12 q2_ fun vs q6_ p2=>?_
 subst q6_
 refine kk2 ?_
 refine byG fun G1 k1=>?_
 rw [e1]at p1;cases p1
 obtain rfl:=p2 rfl
 refine xE12 (S.rel.cel 0 "reader" .cell (by rw [hs,asker_names];rfl) (.inl rfl) c0 h0) fun cr hr ar=>?_
 refine xE12 (S.rel.cel 1 "asked" .cell (by rw [hs,asker_names];rfl) (.inl rfl) c1 h1) fun ca hc ac=>?_
 refine k1 ?_
 have hB:B 317=none:=(S.rel.offB 1 317 e1).elim id fun⟨⟨es,q⟩,_⟩=>by rw [ht]at q;cases q
 have hbm:s.heap.get? bm=some ob:=S.rel.keep _ _ b3
 refine kla_eval (by rfl) (kla_makeFunction (clo_lam hr hc) he.globals T.g hcode (codeHd_321 K) g1 trivial rfl (by decide) ⟨bm,ob,b1,b2,?_,?_,hbm,b4,b5,b6⟩ ?_)
 ·rintro rfl
  refine xE33 T.g fun o es ep g d _=>?_
  rw [hbm]at g;cases g
  rw [b6]at d;cases d
 ·rintro rfl;rw [hB]at b3;cases b3
 ·intro c' ctv h' tk hx hge hlt hrec htb
  refine byG fun GG5 kk5=>?_
  refine xE44 hrec fun cc oc vs tq hc' hoc hdc hqc=>?_
  refine kk5 ?_
  cases hc'
  have hH:Heap.ExtBut 317 s.heap (h'.push (kla_obj "<lambda>" (env.qual++"<lambda>") lamArgs lamBody lamSc [(Str.ofString "reader",cr),(Str.ofString "asked",ca)] ((mg "__name__").getD .none) c' ctv)):=fun b o hb e=>Heap.get?_push_of_some _ (hx b o hb e)
  have hl1:1<σ.length:=(List.getElem?_eq_some_iff.mp ht).1
  have R1:=S.rel.set (ao:=.tab false) e1 (fun es q=>by rw [ht]at q;cases q) hH (Heap.get?_push_of_some _ htb) ⟨e1,_,rfl,fun q=>by cases q⟩
  have hsz:s.heap.objs.size≤h'.objs.size:=Nat.le_trans hge (Nat.le_of_lt hlt)
  have hbig:100<s.heap.objs.size:=Nat.lt_trans (Nat.lt_trans (by decide) S.rel.big.1) S.rel.ltL
  have hp1:α <+: α++[c']:=⟨_,rfl⟩
  have R2:=R1.alloc (a:=c') (o:=oc) (ao:=.code) (fun b o e=>Nat.ne_of_lt (Nat.lt_of_lt_of_le (Heap.lt_size (S.rel.keep b o e)) hge)) (fun hm=>Nat.lt_irrefl _ (Nat.lt_of_lt_of_le (S.rel.lt hm) hge)) (Nat.ne_of_gt (Nat.lt_of_lt_of_le S.rel.ltL hge)) (Nat.lt_of_lt_of_le hbig hge)
   (Heap.get?_push_of_some _ hoc) ⟨vs,tq,hdc,by rw [hqc,hq];rfl⟩
  have hp2:α++[c'] <+: α++[c']++[h'.objs.size]:=⟨_,rfl⟩
  have hlen:(α++[c'])[σ.length]? = some c':=by rw [←S.rel.len];simp
  have R3:=R2.alloc (a:=h'.objs.size) (ao:=.clos [(2,c0),(1,c1)] σ.length) (fun b o e=>Nat.ne_of_lt (Nat.lt_of_lt_of_le (Heap.lt_size (S.rel.keep b o e)) hsz)) (fun hm=>by
    rcases List.mem_append.mp hm with hm | hm
    ·exact Nat.lt_irrefl _ (Nat.lt_of_lt_of_le (S.rel.lt hm) hsz)
    ·rw [List.mem_singleton]at hm;exact Nat.ne_of_gt hlt hm) (Nat.ne_of_gt (Nat.lt_of_lt_of_le S.rel.ltL hsz)) (Nat.lt_of_lt_of_le hbig hsz)
   (Heap.get?_push_size _ rfl) ⟨c',[(Str.ofString "reader",cr),(Str.ofString "asked",ca)],getElem?_pre hp2 hlen,⟨ctv,_,by rw [hq];rfl⟩,fun i x ei l el=>by
    rw [lam_names]at ei
    match i,ei with
    | 0,ei=>simp at ei
    | 1,ei=>
     simp only [List.getElem?_cons_succ,List.getElem?_cons_zero,Option.some.injEq,Prod.mk.injEq,and_true]at ei
     subst ei
     have:c1=l:=Option.some.inj (show some c1=some l from el)
     subst this
     exact⟨ca,rfl,getElem?_pre (hp1.trans hp2) ac⟩
    | 2,ei=>
     simp only [List.getElem?_cons_succ,List.getElem?_cons_zero,Option.some.injEq,Prod.mk.injEq,and_true]at ei
     subst ei
     have:c0=l:=Option.some.inj (show some c0=some l from el)
     subst this
     exact⟨cr,rfl,getElem?_pre (hp1.trans hp2) ar⟩
    | i+3,ei=>simp at ei⟩
  refine k (α++[c']++[h'.objs.size]) _ _ (hp1.trans hp2) ⟨?_,S.gens,S.os⟩ (.loc ?_)
  ·rw [show σ.set 1 (.tab false)++[AO.code,AO.clos [(2,c0),(1,c1)] σ.length]=σ.set 1 (.tab false)++[AO.code]++[AO.clos [(2,c0),(1,c1)] σ.length] by simp]
   exact R3
  ·rw [←S.rel.len];simp
noncomputable def AskR (f:Nat→Option Nat) (ρ:Rho) (σ:Sto) (fl:Fl) (ρ':Rho) (σ':Sto):Prop:=∃ c0 c1,f 0=some c0∧f 1=some c1∧σ[(1:Nat)]? = some (.tab true)∧fl=.ret (.loc (σ.length+1))∧ρ'=ρ∧σ'=σ.set 1 (.tab false)++[.code,.clos [(2,c0),(1,c1)] σ.length]
theorem clos_make {r a:AV} (hA:A.depth<recursionLimit) (ht:σ[(1:Nat)]? = some (.tab true)):CodeOk w A (.cst (.ref 322)) [r,a] σ (.loc (σ.length+3)) (σ.set 1 (.tab false)++[.cell (some r),.cell (some a),.code,.clos [(2,σ.length),(1,σ.length+1)] (σ.length+2)]):=by
 refine xE11 (List.getElem?_eq_some_iff.mp ht) fun h1 h2=>?_
 refine fun_ok (bdr:=AskR) (f322 w.params) hA (fun B env f ρ σ fl ρ' σ' G he hs hcode hq ⟨c0,c1,e0,e1,ht,e2,e3,e4⟩=>?_) ⟨rfl,.ret (.loc (σ.length+3)),_,⟨σ.length,σ.length+1,rfl,?_,?_,?_,rfl,?_⟩,.inl rfl⟩
 ·rw [lam_body,e2,e3,e4]
  exact exs_stop (by simp) (ex_ret (ev_lambda he hs (hcode.trans (by kernel_rfl)) (hq.trans (by kernel_rfl)) e0 e1 ht G))
 ·show some (σ++[AO.cell (some r)]).length=_
  simp
 ·show((σ++[AO.cell (some r)])++[AO.cell (some a)])[1]? = _
  simp [h1,h2]
 ·show Fl.ret (.loc (σ.length+3))=.ret (.loc (((σ++[AO.cell (some r)])++[AO.cell (some a)]).length+1))
  simp
 ·show _=((σ++[AO.cell (some r)])++[AO.cell (some a)]).set 1 (.tab false)++[.code,.clos [(2,σ.length),(1,σ.length+1)] ((σ++[AO.cell (some r)])++[AO.cell (some a)]).length]
  simp [h1]
theorem lam_kind:lamSc.kind=.function:=by decide +kernel
theorem lam_nodup:(lamSc.names.map (·.1)).Nodup:=by decide +kernel
theorem clos_call {evr:(Nat→Option Nat)→Rho→Sto→AV→Sto→Prop}{l k:Nat}{cs:List (Nat×Nat)}{v u:AV} (hA:A.depth<recursionLimit) (he:σ[l]? = some (.clos cs k)) (hk:σ[k]? = some .code)
  (hB:∀ (B:Base) (env:Env) (f:Nat→Option Nat) (ρ:Rho) (σ:Sto) (v:AV) (σ':Sto),Gd w B→EnvOk env→env.scope=lamSc→evr f ρ σ v σ'→EvOk w (A.deeper env) B env f (eval lamBody env) ρ σ v σ')
  (h:evr (fun i=>cs.lookup i) (fun x=>if x=0 then some v else none) σ u σ'):CodeOk w A (.loc l) [v] σ u σ':=by
 intro B α os s gv xs R G S rg rs q
 cases rs with
 | cons rv rs=>cases rs with
  | nil=>
   rename_i x
   refine byG fun GG7 kk7=>?_
   refine xE12 rg.ref_of fun a q3_ ra=>?_
   subst q3_
   refine xE13 (S.at ra he) fun o g1 q4_ hm=>?_
   refine xE23 q4_ fun c cl hc q7_ hcl=>?_
   obtain⟨ct,pm,rfl⟩:=q7_
   refine xE23 (S.rel.obj k _ hk) fun c' oc hc' gc q5_=>?_
   refine xE22 q5_ fun vs tq dc hq=>?_
   refine kk7 ?_
   refine byG fun G3 k3=>?_
   rw [hc]at hc';cases hc'
   refine xE22 G.T fun mg mb T _=>?_
   refine k3 ?_
   have T:=T s.heap S.rel.keep
   refine kla_callFunE hA g1 rfl (by kernel_rfl) (by kernel_rfl) rfl ⟨c,oc,vs,tq,rfl,gc,dc,hq⟩ ?_
   have hbind:bindArgs { name:="<lambda>",qualname:="_law_asker.<locals>.<lambda>",params:=lamArgs,body:=.expr lamBody,scope:=lamSc,globals:=mainGlobals,closure:=cl,defaults:=.none,kwdefaults:=.none,doc:=.none,pyModule:=pm,annotations:=none,code:=.ref c,closureTuple:=ct,builtins:=builtinsNs } ⟨[x],[]⟩=pure [(Str.ofString "call",x)]:=by kernel_rfl
   rw [hbind]
   refine wpAny_pure (wpAny_newFunctionEnv (fun y hy=>?_) (fun y hy=>?_) (fun h₁ hns hsb=>⟨(T.nolimit).fresh _ hsb,?_⟩) lam_kind)
   ·rw [lam_names]at hy
    simp only [List.mem_cons,List.not_mem_nil,or_false]at hy
    rcases hy with rfl | rfl | rfl <;> decide
   ·rw [List.mem_singleton]at hy
    subst hy
    rw [lam_names];rfl
   ·have hk₁:∀ b o,s.heap.get? b=some o→h₁.get? b=some o:=fun b o e=>hsb.extBut b o (Nat.ne_of_lt (Heap.lt_size e)) (Heap.get?_push_of_some _ e)
    have S1:St w B (newEnv lamSc s.heap.objs.size mainGlobals cl ((Str.ofString "_law_asker.<locals>.<lambda>")++(Str.ofString ".<locals>.")) (some a) (.ref c) none builtinsNs) (fun i=>cs.lookup i) α (fun y=>if y=0 then some v else none) σ os { s with heap:=h₁,toks:=s.toks+1 }:=by
     refine⟨⟨S.rel.len,fun b o e=>hk₁ b o (S.rel.keep b o e),⟨_,hns,fun i y z e1 e2=>?_⟩,fun i y kd e1 e2 l' e3=>?_,fun i ao e=>?_,fun b hb=>Nat.ne_of_lt (S.rel.lt hb),S.rel.offB,base_size S.rel.keep,S.rel.nd,S.rel.top,S.rel.big⟩,S.gens,S.os⟩
     ·split at e2
      ·rename_i hi
       subst hi
       cases e2
       have e1:lamSc.names[0]? = some (y,.local):=e1
       rw [lam_names]at e1
       simp only [List.getElem?_cons_zero,Option.some.injEq,Prod.mk.injEq,and_true]at e1
       subst e1
       exact⟨x,by simp [List.lookup],rv⟩
      ·exact nn e2
     ·have e1:lamSc.names[i]? = some (y,kd):=e1
      rcases e2 with rfl | rfl
      ·have:=List.mem_of_getElem? e1
       rw [lam_names]at this
       simp at this
      ·exact hcl i y e1 l' e3
     ·refine xE23 (S.rel.obj i ao e) fun b o e1 e2 e3=>?_
      exact⟨b,o,e1,hk₁ b o e2,e3⟩
    exact kla_codeExpr (wpAny_mono (hB B _ _ _ _ _ _ G ⟨lam_kind,rfl,rfl,lam_nodup⟩ rfl h α os _ (fun y s'=>R (.ok (.ret y)) s') S1 fun α' y s' p S' r=>q α' y s' p S'.toS r) (fun _ _ z=>z) fun _ _ z=>z.elim)
end
end Mine
end
section
open PySem PySem.W PyProof.Rows PySem.Calls PySem.SeqAt
set_option maxRecDepth 100000
set_option linter.unusedVariables false
set_option autoImplicit false
namespace Mine
theorem owner_map:Manifest.owners.lookup (String.ofList ['p','a','m'].reverse)=some Manifest.sig_map:=by kernel_rfl
theorem slot_map_init:Slot "map" "__init__" "object.__init__":=
 .of (owner:="object") (n:="__init__") (by rw [typeLookup_type,builtinLookup_eq_fast];kernel_rfl) (by decide +kernel) (by decide +kernel) (by decide +kernel)
  (by first | exact .inl (by decide +kernel) | exact .inr (by decide +kernel)) (by rw [isSubtype_type];kernel_rfl)
theorem slot_map_iter:Slot "map" "__iter__" "map.__iter__":=
 .of (owner:="map") (n:="__iter__") (by rw [typeLookup_type,builtinLookup_eq_fast];kernel_rfl) (by decide +kernel) (by decide +kernel) (by decide +kernel)
  (by first | exact .inl (by decide +kernel) | exact .inr (by decide +kernel)) (by rw [isSubtype_type];kernel_rfl)
theorem slot_map_next:Slot "map" "__next__" "map.__next__":=
 .of (owner:="map") (n:="__next__") (by rw [typeLookup_type,builtinLookup_eq_fast];kernel_rfl) (by decide +kernel) (by decide +kernel) (by decide +kernel)
  (by first | exact .inl (by decide +kernel) | exact .inr (by decide +kernel)) (by rw [isSubtype_type];kernel_rfl)
theorem args_map_iter_1 (a:Value):argsOk "map.__iter__" ⟨[a],[]⟩:=by
 unfold argsOk;rw [signature?_of (id:="map.__iter__") (n:=['_','_','r','e','t','i','_','_']) (o:=['p','a','m']) (by kernel_rfl) owner_map];kernel_rfl
theorem args_map_next_1 (a:Value):argsOk "map.__next__" ⟨[a],[]⟩:=by
 unfold argsOk;rw [signature?_of (id:="map.__next__") (n:=['_','_','t','x','e','n','_','_']) (o:=['p','a','m']) (by kernel_rfl) owner_map];kernel_rfl
theorem entry_map_next:entryFor table "map.__next__"=some Builtin.«map.__next__»:=entryFor_of_tree (by kernel_rfl)
theorem entry_map_new:entryFor table "map.__new__"=some Builtin.«map.__new__»:=entryFor_of_tree (by kernel_rfl)
theorem entry_map_iter:entryFor table "map.__iter__"=some Builtin.«dict_keyiterator.__iter__»:=
 entryFor_alias (id':="dict_keyiterator.__iter__") (by kernel_rfl) (by first | rfl | decide +kernel | (unfold String.splitOn;simp +decide [String.splitOnAux])) (by decide +kernel) (by kernel_rfl)
theorem mro_map:mroOf (.type "map")=pure [.type "map",.type "object"]:=by rw [mroOf_type];kernel_rfl
theorem lookup_map_new:typeLookup (.type "map") "__new__"=pure (some (.builtin "map.__new__")):=by rw [typeLookup_type,builtinLookup_eq_fast];kernel_rfl
theorem called_map:TypeCalled "map" "map.__new__" "object.__init__":=
 ⟨by decide +kernel,by decide +kernel,⟨_,_,mro_map⟩,madeBy_type mro_map lookup_map_new (by decide +kernel),by decide +kernel,by rw [isSubtype_type];kernel_rfl,slot_map_init⟩
theorem typeCall_map_2 (a b:Value):checkTypeCall "map" ⟨[a,b],[]⟩=pure ():=by kernel_rfl
theorem newCall_map_2 (a b:Value):checkBuiltinCall "map.__new__" ⟨[.type "map",a,b],[]⟩=pure ():=by kernel_rfl
theorem sub_map:isSubtype (.type "map") (.type "map")=pure true:=by rw [isSubtype_type];kernel_rfl
noncomputable abbrev IsMap (h:Heap) (z T:Addr) (f:Value):Prop:=h.get? z=some { cls:=.type "map",dict:=none,data:=.fields #[.ref T,f],slots:=#[] }
noncomputable abbrev IsOne (h:Heap) (T:Addr) (a:Value):Prop:=h.get? T=some { cls:=.type "tuple",data:=.seq #[a] }
noncomputable abbrev mapH1 (h:Heap) (l:Addr):Heap:=h.push { cls:=.type "list_iterator",data:=.fields #[.ref l,.int 0 0] }
noncomputable abbrev mapH2 (h:Heap) (l:Addr):Heap:=(mapH1 h l).push { cls:=.type "tuple",data:=.seq #[.ref h.objs.size] }
noncomputable abbrev mapH3 (h:Heap) (f:Value) (l:Addr):Heap:=(mapH2 h l).push { cls:=.type "map",data:=.fields #[.ref (mapH1 h l).objs.size,f] }
theorem meets_map_new (f:Value) (l:Addr) (xs:Array Value) :
  Meets (Builtin.«map.__new__» ⟨[.type "map",f,.ref l],[]⟩) (fun _ R s=>s.heap.IsList l xs∧R (.ok (.ret (.ref (mapH2 s.heap l).objs.size))) { s with heap:=mapH3 s.heap f l }):=
 .of_wp fun prog w A R s h=>by
  obtain⟨hp,g,d,tk,os⟩:=s;obtain⟨hl,h⟩:=h
  have hsub:=sub_map
  have hL1:Heap.IsList (Shared.heap ⟨hp,g,d,tk,os⟩) l xs:=hl
  wp_walk using wpAny_pyIter_list hL1
  exact⟨_,rfl,h⟩
section
variable {prog:Program}{w:World}{A:Around}{E:Value→Shared→Prop}{s:Shared}
theorem call_map_2 {f:Value}{l:Addr}{xs:Array Value}{Q:Value→Shared→Prop} (hl:s.heap.IsList l xs)
  (h:∀ h',IsMap h' (s.heap.objs.size+2) (s.heap.objs.size+1) f→IsOne h' (s.heap.objs.size+1) (.ref s.heap.objs.size)→h'.IsListIter s.heap.objs.size l 0→h'.objs.size=s.heap.objs.size+3→
   (∀ c o,s.heap.get? c=some o→h'.get? c=some o)→Q (.ref (s.heap.objs.size+2)) { s with heap:=h' }) :
  wpAny (model prog w) A (call (.type "map") [f,.ref l]) Q E s:=by
 refine callType_new called_map (by decide) (typeCall_map_2 _ _) (newCall_map_2 _ _) (fun obj=>F.args_object_init_3 obj _ _) entry_map_new (meets_map_new f l xs) ⟨hl,?_⟩
 have z1:(mapH1 s.heap l).objs.size=s.heap.objs.size+1:=Heap.size_push ..
 have z2:(mapH2 s.heap l).objs.size=s.heap.objs.size+2:=by rw [Heap.size_push,z1]
 have z3:(mapH3 s.heap f l).objs.size=s.heap.objs.size+3:=by rw [Heap.size_push,z2]
 have g3:(mapH3 s.heap f l).get? (mapH2 s.heap l).objs.size=some _:=Heap.get?_push_size _ rfl
 have g2:(mapH3 s.heap f l).get? (mapH1 s.heap l).objs.size=some _:=Heap.get?_push_of_some _ (Heap.get?_push_size _ rfl)
 have g1:(mapH3 s.heap f l).get? s.heap.objs.size=some _:=Heap.get?_push_of_some _ (Heap.get?_push_of_some _ (Heap.get?_push_size _ rfl))
 show _∧_
 rw [z1,z2]at g3
 rw [z1]at g2
 have e2:(mapH2 s.heap l).objs.size=s.heap.objs.size+2:=z2
 rw [e2]
 exact⟨⟨_,g3,rfl⟩,h _ g3 g2 ⟨_,g1,rfl,rfl⟩ z3 fun c o e=>Heap.get?_push_of_some _ (Heap.get?_push_of_some _ (Heap.get?_push_of_some _ e))⟩
theorem pyIter_map {z T:Addr}{f:Value}{Q:Value→Shared→Prop} (hz:IsMap s.heap z T f) (h:Q (.ref z) s):wpAny (model prog w) A (pyIter (.ref z)) Q E s:=by
 have hT:s.TypeIs (.ref z) "map":=⟨_,hz,rfl⟩
 refine wpAny_pyIter_slot hT slot_map_iter (wpAny_call_entry slot_map_iter hT entry_map_iter ?_ (args_map_iter_1 _))
 show wpAny _ _ (ret (.ref z)) _ _ s
 exact wpAny_pure ⟨_,rfl,"map",_,hT,slot_map_next.lookup,h⟩
theorem map_next_item {z T i l:Addr}{k:Nat}{xs:Array Value}{x f:Value}{Q:Value→Shared→Prop} (hz:IsMap s.heap z T f) (hT:IsOne s.heap T (.ref i)) (h1:s.heap.IsListIter i l k) (hl:s.heap.IsList l xs) (hx:xs[k]? = some x) (n1:z≠i)
  (hQ:∀ h',h'.IsListIter i l (k+1)→Heap.SameBut i s.heap h'→wpAny (model prog w) A (call f [x]) Q E { s with heap:=h' }) :
  wpAny (model prog w) A (Builtin.«map.__next__» ⟨[.ref z],[]⟩) (fun fin s'=>∃ v,fin=.done (.ret v)∧Q v s') E s:=by
 show wpAny _ _ (field (.ref z) 0 >>= _) _ _ _
 refine wpAny_bind (wpAny_field hz rfl (x:=.ref T) rfl ?_)
 refine wpAny_bind (wpAny_seqItems hT rfl ?_)
 refine wpAny_bind ?_
 rw [←Array.forIn_toList]
 simp only [List.forIn_cons,List.forIn_nil]
 refine wpAny_bind (wpAny_bind (wpAny_holding (wpAny_nextOf_list_item h1 hl hx fun h₂ h2 hs₂=>wpAny_pure (wpAny_pure ?_))))
 refine wpAny_bind (wpAny_field (hs₂.extBut _ _ n1 hz) rfl (x:=f) rfl ?_)
 refine wpAny_bind (wpAny_holding (wpAny_mono (hQ h₂ h2 hs₂) (fun v s' hv=>?_) fun _ _ z=>z))
 refine wpAny_bind (wpAny_letGo ?_)
 exact wpAny_pure ⟨v,rfl,hv⟩
theorem map_next_end {z T i l:Addr}{k:Nat}{xs:Array Value}{f:Value}{Q:PySem.Fin→Shared→Prop} (hh:A.handled=none) (hz:IsMap s.heap z T f) (hT:IsOne s.heap T (.ref i)) (h1:s.heap.IsListIter i l k) (hl:s.heap.IsList l xs) (hx:xs[k]? = none)
  (hE:∀ h' e,(∀ c o,c≠i→s.heap.get? c=some o→h'.get? c=some o)→(∃ o,h'.get? e=some o∧o.cls=.type "StopIteration")→E (.ref e) { s with heap:=h' }) :
  wpAny (model prog w) A (Builtin.«map.__next__» ⟨[.ref z],[]⟩) Q E s:=by
 show wpAny _ _ (field (.ref z) 0 >>= _) _ _ _
 refine wpAny_bind (wpAny_field hz rfl (x:=.ref T) rfl ?_)
 refine wpAny_bind (wpAny_seqItems hT rfl ?_)
 refine wpAny_bind ?_
 rw [←Array.forIn_toList]
 simp only [List.forIn_cons,List.forIn_nil]
 exact wpAny_bind (wpAny_bind (wpAny_holding (wpAny_nextOf_list_end hh h1 hl hx fun h₂ e hs₂ he=>hE h₂ e hs₂ he)))
theorem pyNext_map_item {z T i l:Addr}{k:Nat}{xs:Array Value}{x f:Value}{Q:Option Value→Shared→Prop} (hz:IsMap s.heap z T f) (hT:IsOne s.heap T (.ref i)) (h1:s.heap.IsListIter i l k) (hl:s.heap.IsList l xs) (hx:xs[k]? = some x) (n1:z≠i)
  (hQ:∀ h',h'.IsListIter i l (k+1)→Heap.SameBut i s.heap h'→wpAny (model prog w) A.in1 (call f [x]) (fun v s'=>Q (some v) s') Ef { s with heap:=h' }) :
  wpAny (model prog w) A (pyNext (.ref z)) Q E s:=by
 have hT':s.TypeIs (.ref z) "map":=⟨_,hz,rfl⟩
 unfold pyNext
 refine wpAny_bind (wpAny_attempt (wpAny_callSpecial?_slot (name:=Str.ofString "__next__") hT' slot_map_next
  (wpAny_call_entry slot_map_next hT' entry_map_next (map_next_item hz hT h1 hl hx n1 fun h' a1 a2=>wpAny_mono (hQ h' a1 a2) (fun v s' hv=>wpAny_pure hv) fun _ _ z=>z.elim) (args_map_next_1 _))))
theorem pyNext_map_end {z T i l:Addr}{k:Nat}{xs:Array Value}{f:Value}{Q:Option Value→Shared→Prop} (hh:A.handled=none) (hz:IsMap s.heap z T f) (hT:IsOne s.heap T (.ref i)) (h1:s.heap.IsListIter i l k) (hl:s.heap.IsList l xs) (hx:xs[k]? = none)
  (hQ:∀ h',(∀ c o,c≠i→s.heap.get? c=some o→h'.get? c=some o)→Q none { s with heap:=h' }):wpAny (model prog w) A (pyNext (.ref z)) Q E s:=by
 have hT':s.TypeIs (.ref z) "map":=⟨_,hz,rfl⟩
 unfold pyNext
 refine wpAny_bind (wpAny_attempt (wpAny_callSpecial?_slot (name:=Str.ofString "__next__") hT' slot_map_next
  (wpAny_call_entry slot_map_next hT' entry_map_next (map_next_end hh hz hT h1 hl hx fun h' e hk he=>?_) (args_map_next_1 _))))
 refine xE12 he fun o ho hc=>?_
 refine wpAny_bind (wpAny_isInstance (T:="StopIteration") (b:=true) ⟨o,ho,hc⟩ isSubtype_stop ?_)
 exact wpAny_pure (hQ _ hk)
end
section
variable {w:World}{A:Around}{B B':Base}{env:Env}{f:Nat→Option Nat}{α α':List Addr}{ρ ρ':Rho}{σ σ' σ₁ σ₂:Sto}{os:OsState}{s s':Shared}{h h':Heap}{o:Obj}
theorem kk_make (P:Params):findCls (KK P) (.ref 135) (.type "type") "_make"=some (.get (.builtin "classmethod.__get__") (.ref 91) .none (.ref 135)):=by kernel_rfl
theorem kk_cm (P:Params):recIn (KK P) 91 "classmethod"=some [.ref 89,.bool false]:=by kernel_rfl
theorem ga_make {P:Params}{expr:Bool}{E:Value→Shared→Prop}{Q:Value→Shared→Prop} (X:(KK P).In s.heap) (h:Q (.ref s.heap.objs.size) { s with heap:=s.heap.push (methodObj (.ref 89) (.ref 135)),toks:=s.toks+1 }):wpAny (model pw w) A (getAttr (.ref 135) "_make" expr) Q E s:=
 cls_bind X (kk_mreads P) (kk_make P) (wpAny_call (cm_get (s:={ s with toks:=s.toks+1 }) X (kk_cm P) (handed_on rfl h)))
noncomputable def MapR (g:AV→Sto→AV→Sto→Prop) (again:Sto→Prop) (σ':Sto):List AV→List AV→Sto→Prop
 | [],us,σ=>us=[]∧σ'=σ
 | v :: r,us,σ=>∃ u σ₁ us',g v σ u σ₁∧again σ₁∧MapR g again σ' r us' σ₁∧us=u :: us'
theorem StS.hide (S:StS w B α σ os s){I:Addr}{h':Heap} (hs:∀ b o,b≠I→s.heap.get? b=some o→h'.get? b=some o) (hz:300<h'.objs.size) (hB:B I=none) (hI:I∉α){t:Nat}:StS w B α σ os { s with heap:=h',toks:=t }:=by
 refine⟨⟨S.rel.len,fun b o e=>hs b o (fun q=>by subst q;rw [hB]at e;cases e) (S.rel.keep b o e),fun i ao e=>?_,S.rel.offB,S.rel.nd,S.rel.big,hz⟩,S.gens,S.os⟩
 refine xE23 (S.rel.obj i ao e) fun a o e1 e2 e3=>?_
 exact⟨a,o,e1,hs a o (fun q=>hI (q ▸ List.mem_of_getElem? e1)) e2,e3⟩
theorem same_at {l:Nat}{xs:List AV} (h0:σ[l]? = some (.list xs)) (h:Same σ (.loc l) σ'):σ'[l]? = some (.list xs):=h l xs rfl h0
structure MapSt (s:Shared) (α:List Addr) (B:Base) (z T i mo Sl la:Addr) (k:Nat) (acc:Array Value):Prop where
 map:IsMap s.heap z T (.ref mo)
 one:IsOne s.heap T (.ref i)
 mob:s.heap.get? mo=some (methodObj (.ref 89) (.ref 135))
 it:s.heap.IsListIter i la k
 out:∃ c,s.heap.get? Sl=some { cls:=.type "list",dict:=none,data:=.seq acc c,slots:=#[] }
 zα:z∉α
 Tα:T∉α
 moα:mo∉α
 iα:i∉α
 Sα:Sl∉α
 Bi:B i=none
 BS:B Sl=none
 big:300<z
structure MapAp (z T i mo Sl:Addr):Prop where
 zi:z≠i
 Ti:T≠i
 moi:mo≠i
 Si:Sl≠i
 zS:z≠Sl
 TS:T≠Sl
 moS:mo≠Sl
theorem map_loop {g:AV→Sto→AV→Sto→Prop}{l:Nat}{xs:List AV}{σ0:Sto}{Sl z T i la mo:Addr}{R:Result→Shared→Prop} (hh:A.handled=none) (he0:σ0[l]? = some (.list xs)) (hz:xs.length≤900) (D:MapAp z T i mo Sl) (G:Gd w B)
  (hF:∀ v u σ σ',g v σ u σ'→CodeOk w A.in1.in1 (.cst (.ref 89)) [.cst (.ref 135),v] σ u σ') :
  ∀ (rest:List AV) (k:Nat) (α:List Addr) (σ:Sto) (s:Shared) (acc:Array Value) (outs us:List AV),rest=xs.drop k→StS w B α σ os s→α[l]? = some la→Same σ0 (.loc l) σ→MapSt s α B z T i mo Sl la k acc→VRs α outs acc.toList→outs.length=k→
   MapR g (fun σ=>Same σ0 (.loc l) σ) σ' rest us σ→
   (∀ α' s' acc',α <+: α'→StS w B α' σ' os s'→Sl∉α'→(∃ c,s'.heap.get? Sl=some { cls:=.type "list",dict:=none,data:=.seq acc' c,slots:=#[] })→VRs α' (outs++us) acc'.toList→R (.ok (.ret .none)) s')→
   codeAny (model pw w) A (.builtin "list.extend.loop" ⟨[.ref Sl,.ref z,.none],[]⟩) R s:=by
 intro rest
 induction rest with
 | nil=>
  intro k α σ s acc outs us hd S hla hsm M r hk hm hR
  refine byG fun G6 k6=>?_
  refine xE02 hm fun q1_ q2_=>?_
  subst q1_
  subst q2_
  have hl:=same_at he0 hsm
  refine listAt (S.at (.loc hla) hl) fun it n g1 r1 _ hm=>?_
  refine k6 ?_
  have hx:it[k]? = none:=by
   have h1:xs.length≤k:=by
    have:=congrArg List.length hd
    simp at this;lia
   have hl1:it.toList[k]? = none:=List.getElem?_eq_none (by rw [←r1.length];exact h1)
   rwa [Array.getElem?_toList]at hl1
  refine codeAny_builtin PySem.F.entry_extend_loop ?_
  rw [Around.under_plainId PySem.F.plain_extend_loop _]
  show wpAny _ A.in1 (pyNext (.ref z) >>= _) _ _ s
  refine wpAny_bind (pyNext_map_end hh M.map M.one M.it ⟨_,g1,rfl,n,rfl⟩ hx fun h' hk'=>?_)
  refine xE11 M.out fun c hc=>?_
  exact wpAny_pure (hR α _ acc (pre_refl α) (S.hide (t:=s.toks) (fun b o hb e=>hk' b o hb e) (Nat.lt_trans M.big (Heap.lt_size (hk' _ _ D.zi M.map))) M.Bi M.iα) M.Sα ⟨c,hk' _ _ D.Si hc⟩ (by rw [List.append_nil];exact r))
 | cons v rest ih=>
  intro k α σ s acc outs us hd S hla hsm M r hk hm hR
  refine byG fun GG6 kk6=>?_
  refine xE34 hm fun u σ₁ us' e1 e2 e3 q4_=>?_
  subst q4_
  have hl:=same_at he0 hsm
  refine listAt (S.at (.loc hla) hl) fun it n g1 r1 _ hm1=>?_
  have hxv:xs[k]? = some v:=by rw [←List.head?_drop,←hd];rfl
  have hkl:k<xs.length:=(List.getElem?_eq_some_iff.mp hxv).1
  refine xE12 (r1.get hxv) fun x hx rx=>?_
  refine kk6 ?_
  rw [Array.getElem?_toList]at hx
  refine codeAny_builtin PySem.F.entry_extend_loop ?_
  rw [Around.under_plainId PySem.F.plain_extend_loop _]
  show wpAny _ A.in1 (pyNext (.ref z) >>= _) _ _ s
  refine wpAny_bind (pyNext_map_item M.map M.one M.it ⟨_,g1,rfl,n,rfl⟩ hx D.zi fun h' hit' hs'=>?_)
  refine xE11 M.out fun c hc=>?_
  have S1:StS w B α σ os { s with heap:=h' }:=S.hide (t:=s.toks) (fun b o hb e=>hs'.extBut b o hb e) (by rw [hs'.1];exact S.rel.top) M.Bi M.iα
  have G1:Gd w (maskS h' α σ):=G.mono S1.rel.sub
  refine wpAny_call (ks_codeAny_call_bound (hs'.extBut _ _ D.moi M.mob) ?_)
  refine hF v u σ σ₁ e1 _ α os _ (.ref 89) [.ref 135,x] _ G1 S1.mask (.cst _) (.cons (.cst _) (.cons rx .nil)) fun α₁ y s₁ p1 S2 ry=>?_
  have kept:∀ {a:Addr}{o:Obj},a∉α→h'.get? a=some o→s₁.heap.get? a=some o∧a∉α₁:=fun ha e=>S2.rel.kept ha e
  have S3:=S1.back S2
  have k1:=kept M.zα (hs'.extBut _ _ D.zi M.map)
  have k2:=kept M.Tα (hs'.extBut _ _ D.Ti M.one)
  have k3:=kept M.moα (hs'.extBut _ _ D.moi M.mob)
  have k4:=kept M.Sα (hs'.extBut _ _ D.Si hc)
  refine xE13 hit' fun oi hoi hci hdi=>?_
  have k5:=kept M.iα hoi
  show wpAny _ A.in1 (updateSeq Sl (·.push y) >>= _) _ _ _
  refine wpAny_bind ?_
  have hacc:acc.size=k:=by
   have:=r.length
   rw [hk]at this
   simpa using this.symm
  refine wpAny_updateSeq k4.1 rfl (wpAny_pure ⟨plainId_quiet PySem.F.plain_extend_loop _,?_⟩) (by rw [hacc];exact size_line (by lia)) (by show(acc.push y).size≤sizeLine+1;rw [Array.size_push,hacc];exact Nat.succ_le_succ (size_line (by lia)))
  have oth:∀ b o,b≠Sl→s₁.heap.get? b=some o→(s₁.heap.update Sl (Obj.mapSeq (·.push y))).get? b=some o:=fun b o hb e=>(Heap.get?_update_other _ _ (Ne.symm hb)).trans e
  refine ih (k+1) α₁ σ₁ _ (acc.push y) (outs++[u]) us' (by rw [←List.tail_drop,←hd];rfl) (S3.hide (t:=s₁.toks) oth (by rw [Heap.size_update];exact S3.rel.top) M.BS k4.2) (getElem?_pre p1 hla) e2
   ⟨oth _ _ D.zS k1.1,oth _ _ D.TS k2.1,oth _ _ D.moS k3.1,⟨oi,oth _ _ (Ne.symm D.Si) k5.1,hci,hdi⟩,⟨_,Heap.get?_update_self _ k4.1 rfl⟩,k1.2,k2.2,k3.2,k5.2,k4.2,M.Bi,M.BS,M.big⟩
   (by rw [Array.toList_push];exact(r.mono p1).append (.cons ry .nil)) (by simp [hk]) e3 fun α' s' acc' p' S' hS' hc' r'=>hR α' s' acc' (p1.trans p') S' hS' hc' (by simpa using r')
theorem map_no_len:typeLookup (.type "map") "__len__"=pure none:=by rw [typeLookup_type,builtinLookup_eq_fast];kernel_rfl
theorem map_no_hint:typeLookup (.type "map") "__length_hint__"=pure none:=by rw [typeLookup_type,builtinLookup_eq_fast];kernel_rfl
theorem list_map {g:AV→Sto→AV→Sto→Prop}{l:Nat}{xs us:List AV}{z T i la mo:Addr}{Q:Value→Shared→Prop} (hh:A.handled=none) (he:σ[l]? = some (.list xs)) (hz:xs.length≤900) (G:Gd w B)
  (hF:∀ v u σ σ',g v σ u σ'→CodeOk w A.in1.in1.in1 (.cst (.ref 89)) [.cst (.ref 135),v] σ u σ')
  (S:StS w B α σ os s) (hla:α[l]? = some la) (h1:IsMap s.heap z T (.ref mo)) (h2:IsOne s.heap T (.ref i)) (h3:s.heap.get? mo=some (methodObj (.ref 89) (.ref 135))) (h4:s.heap.IsListIter i la 0)
  (a1:z∉α) (a2:T∉α) (a3:mo∉α) (a4:i∉α) (d1:z≠i) (d2:T≠i) (d3:mo≠i) (b1:B i=none) (b2:300<z)
  (hm:MapR g (fun σ'=>Same σ (.loc l) σ') σ' xs us σ)
  (k:∀ α' x s',α <+: α'→StS w B α' (σ'++[.list us]) os s'→VR α' (.loc σ'.length) x→Q x s'):wpAny (model pw w) A (call (.type "list") [.ref z]) Q Ef s:=by
 refine callType_codes (Q₁:=fun obj s₁=>obj=.ref s.heap.objs.size∧s₁={ s with heap:=s.heap.push { cls:=.type "list",data:=.seq #[] } }) PySem.F.called_list (PySem.F.typeCall_list_1 _) PySem.F.entry_list_init
  (code_list_new _ ⟨rfl,rfl⟩) fun obj s₁ h₁=>?_
 obtain⟨rfl,rfl⟩:=h₁
 generalize hSl:s.heap.objs.size=Sl
 have hS:(s.heap.push { cls:=.type "list",data:=.seq #[] }).get? Sl=some { cls:=.type "list",data:=.seq #[] }:=by rw [←hSl];exact Heap.get?_push_size _ rfl
 refine⟨⟨_,hS,rfl⟩,PySem.F.args_list_init_2 _ _,?_⟩
 have lt:∀ {b:Addr}{o:Obj},s.heap.get? b=some o→b≠Sl:=fun e=>by rw [←hSl];exact Nat.ne_of_lt (Heap.lt_size e)
 have hSα:Sl∉α:=fun hm=>absurd (S.rel.lt hm) (by rw [hSl];exact Nat.lt_irrefl _)
 have hBS:B Sl=none:=by rw [←hSl];exact base_size S.rel.keep
 show wpAny _ _ (do let old ←Builtin.List.listItems (.ref Sl);Builtin.List.listUpdate (.ref Sl) (fun _=>#[]);letGo old.toList.reverse;Builtin.List.listExtendWith (.ref Sl) (.ref z) .none) _ _ _
 refine wpAny_bind ?_
 unfold Builtin.List.listItems
 refine wpAny_bind (wpAny_seqItems hS rfl (wpAny_pure ?_))
 show wpAny _ _ (updateSeq Sl (fun _=>#[]) >>= fun _=>letGo (#[]:Array Value).toList.reverse >>= fun _=>Builtin.List.listExtendWith (.ref Sl) (.ref z) .none) _ _ _
 refine wpAny_bind (wpAny_updateSeq hS rfl ?_)
 have hS₂:=Heap.get?_update_self (Obj.mapSeq (fun _=>(#[]:Array Value))) hS rfl
 refine wpAny_bind (wpAny_letGo ?_)
 have oth:∀ b o,s.heap.get? b=some o→((s.heap.push { cls:=.type "list",data:=.seq #[] }).update Sl (Obj.mapSeq (fun _=>(#[]:Array Value)))).get? b=some o:=
  fun b o e=>(Heap.get?_update_other _ _ (Ne.symm (lt e))).trans (Heap.get?_push_of_some _ e)
 generalize hH:(s.heap.push { cls:=.type "list",data:=.seq #[] }).update Sl (Obj.mapSeq (fun _=>(#[]:Array Value)))=H at hS₂ oth
 unfold Builtin.List.listExtendWith
 have hT:Shared.TypeIs { s with heap:=H } (.ref z) "map":=⟨_,oth _ _ h1,rfl⟩
 refine wpAny_bind (wpAny_typeOf hT ?_)
 have q1:Builtin.List.listSameRef (.ref Sl) (.ref z)=false:=by simp [Builtin.List.listSameRef,Ne.symm (lt h1)]
 have q2:(Value.type "map" == Value.type "list")=false:=by decide
 have q3:(Value.type "map" == Value.type "tuple")=false:=by decide
 simp only [q1,q2,q3,Bool.or_false,Bool.false_eq_true,if_false]
 refine wpAny_bind (pyIter_map (oth _ _ h1) ?_)
 refine wpAny_bind (wpAny_holding ?_)
 unfold Builtin.List.listLengthHint
 refine wpAny_bind (wpAny_specialOf hT map_no_len ?_)
 show wpAny _ _ (specialOf (Value.ref z) (Str.ofString "__length_hint__") >>= _) _ _ _
 refine wpAny_bind (wpAny_specialOf hT map_no_hint ?_)
 refine wpAny_pure ?_
 show wpAny _ _ (rule "list.extend.makes-room" >>= fun _=>Builtin.List.listTouch (.ref Sl) >>= fun _=>again (.builtin "list.extend.loop" ⟨[.ref Sl,.ref z,.none],[]⟩)) _ _ _
 refine wpAny_bind (wpAny_rule ?_)
 refine wpAny_bind ?_
 show wpAny _ _ (updateSeq Sl (·.push .none) >>= fun _=>updateSeq Sl (·.pop)) _ _ _
 refine wpAny_bind (wpAny_updateSeq hS₂ rfl ?_)
 have hS₃:=Heap.get?_update_self (Obj.mapSeq (·.push Value.none)) hS₂ rfl
 refine wpAny_updateSeq (hz:=by seq_fits) hS₃ rfl ?_
 have hS₄:=Heap.get?_update_self (Obj.mapSeq (·.pop)) hS₃ rfl
 have oth2:∀ b o,s.heap.get? b=some o→((H.update Sl (Obj.mapSeq (·.push Value.none))).update Sl (Obj.mapSeq (·.pop))).get? b=some o:=
  fun b o e=>(Heap.get?_update_other _ _ (Ne.symm (lt e))).trans ((Heap.get?_update_other _ _ (Ne.symm (lt e))).trans (oth b o e))
 have S1:StS w B α σ os { s with heap:=(H.update Sl (Obj.mapSeq (·.push Value.none))).update Sl (Obj.mapSeq (·.pop)) }:=S.over G (t:=s.toks) oth2
 refine byG fun GG9 kk9=>?_
 refine xE13 h4 fun oi hoi hci hdi=>?_
 refine kk9 ?_
 refine wpAny_pure ⟨plainId_quiet PySem.F.plain_extend_loop _,map_loop (g:=g) (σ0:=σ) (la:=la) (A:=A.in1) hh he hz ⟨d1,d2,d3,Ne.symm (lt hoi),lt h1,lt h2,lt h3⟩ G hF xs 0 α σ _ #[] [] us (by simp) S1 hla ?_
  ⟨oth2 _ _ h1,oth2 _ _ h2,oth2 _ _ h3,⟨oi,oth2 _ _ hoi,hci,hdi⟩,⟨_,hS₄⟩,a1,a2,a3,a4,hSα,b1,hBS,b2⟩ .nil rfl hm fun α' s' acc' p S' hS' hc r=>⟨rfl,?_⟩⟩
 ·exact fun _ _ _ h=>h
 ·refine xE11 hc fun c hc=>?_
  have hp:α' <+: α'++[Sl]:=⟨_,rfl⟩
  exact k _ _ _ (p.trans hp) ⟨S'.rel.allocAt hS' hBS (by rw [←hSl];exact Nat.lt_trans (by decide) S.rel.top) hc ⟨_,_,rfl,by simpa using r.mono hp⟩,S'.gens,S'.os⟩ (.loc (by rw [←S'.rel.len];simp))
end
end Mine
end
section
open PySem PySem.W PyProof.Rows PySem.Calls PySem.SeqAt
set_option maxRecDepth 100000
set_option linter.unusedVariables false
set_option autoImplicit false
namespace Mine
theorem kk_len (P:Params):findIn (KK P) (.ref 135) "__len__"=some (some (.builtin "tuple.__len__")):=by kernel_rfl
theorem kind_tuple_len:builtinKind "tuple.__len__"=some .slot:=by kernel_rfl
section
variable {w:World}{A:Around}{B B':Base}{env:Env}{f:Nat→Option Nat}{α α':List Addr}{ρ ρ':Rho}{σ σ' σ₁ σ₂ σ₃:Sto}{os:OsState}{s s':Shared}{h h':Heap}{o:Obj}
theorem m_callSpecial {prog:Program}{P:Params}{E:Value→Shared→Prop}{l:Addr}{items:Array Value}{n:Nat}{dd:Option Addr}{id m:String}{name:Str}{b:Builtin}{Q:Option Value→Shared→Prop} (X:(KK P).In s.heap) (hm:s.heap.get? l=some (MObj items n dd))
  (hf:findIn (KK P) (.ref 135) name=some (some (.builtin id))) (hb:∀ self,bindSpecial (.builtin id) self=pure (.builtin id,[self])) (hk:builtinKind id=some .slot) (hsplit:splitId id=some ("tuple",m))
  (hq:plainId id=true) (he:entryFor table id=some b) (ha:argsOk id ⟨[.ref l],[]⟩)
  (h:wpAny (model prog w) A.in1 (b ⟨[.ref l],[]⟩) (fun fin s'=>∃ v,fin=.done (.ret v)∧Q (some v) s') E s):wpAny (model prog w) A (callSpecial? (.ref l) name) Q E s:=by
 unfold callSpecial?
 refine wpAny_bind ?_
 show wpAny _ _ (typeOf (.ref l) >>= fun t=>typeLookup t name) _ _ _
 refine wpAny_bind (m_typeOf hm ((looks_findIn X hf).at ?_))
 simp only [hb]
 refine wpAny_holding (wpAny_bind (wpAny_pure (wpAny_bind (m_call X hm hk hsplit hq he ha (wpAny_mono h (fun fin s' h'=>?_) fun _ _ h'=>h')))))
 refine xE12 h' fun v q1_ hv=>?_
 subst q1_
 exact⟨v,rfl,wpAny_pure hv⟩
theorem len_match_ok {l:Nat}{xs:List AV} (he:σ[l]? = some (.tup (.ref 135) xs)) (hz:xs.length≤900):CallOk w A (.cst (.builtin "len")) [.loc l] σ (.int xs.length) σ:=by
 intro B α os s gv ys Q G S rg rs k
 refine VR.cstE rg ?_
 cases rs with
 | cons ra rs=>cases rs with
  | nil=>
   refine VR.refE ra fun a ra=>?_
   refine byG fun G2 k2=>?_
   refine xE13 (S.at ra he) fun o1 g1 q3_ hm=>?_
   refine xE33 q3_ fun it n dd q8_ r1 _=>?_
   subst q8_
   have z:=r1.length
   simp only [Array.length_toList]at z
   refine k2 ?_
   refine Calls.call_function_entry PySem.kind_len PySem.plain_len PySem.entry_len (PySem.args_len1 _) ?_
   unfold Builtin.«len»
   refine wpAny_bind (m:=oneArg "len" _) (wpAny_pure ?_)
   have X:=G.ks S
   refine wpAny_bind (m:=callSpecial? (.ref a) (Str.ofString "__len__")) (m_callSpecial X g1 (kk_len _) PySem.F.slot_tuple_len.bind kind_tuple_len (m:="__len__") (by decide +kernel) PySem.F.slot_tuple_len.plain PySem.F.entry_tuple_len (PySem.F.args_tuple_len_1 _) ?_)
   show wpAny _ _ (Builtin.Tuple.tupleItemsOf (.ref a) >>= fun xs=>retInt xs.size) _ _ _
   refine wpAny_bind ?_
   unfold Builtin.Tuple.tupleItemsOf
   refine wpAny_bind (wpAny_seqItems g1 rfl (wpAny_pure ?_))
   refine wpAny_bind (wpAny_mkInt (wpAny_pure ⟨_,rfl,?_⟩))
   show wpAny _ _ _ _ _ { s with toks:=s.toks+1 }
   refine wpAny_bind (wpAny_holding (wpAny_pure ?_))
   refine wpAny_bind (wpAny_letGo ?_)
   show wpAny _ _ (if (it.size:Int)<0 then _ else _) _ _ _
   rw [if_neg (by lia)]
   show wpAny _ _ (if (it.size:Int)≥2 ^ 63 then _ else _) _ _ _
   rw [if_neg (by lia)]
   refine wpAny_bind (wpAny_mkInt (wpAny_pure ⟨_,rfl,?_⟩))
   rw [←z]
   exact k α _ _ (pre_refl α) (S.toks _) (.int _ _)
theorem match_ok {vs:List AV}{r:AV} (hvs:vs≠[]) (hm:IsM σ' r) (hC:∀ xs:List Value,CodeOk w (A.under (.builtin "type.__call__" ⟨.ref 135 :: xs,[]⟩)) (.cst (.ref 82)) (.cst (.ref 135) :: vs) σ r σ'):CallOk w A (.cst (.ref 135)) vs σ r σ':=by
 intro B α os s gv xs Q G S rg rs k
 refine VR.cstE rg ?_
 have hx:xs.isEmpty=false:=by
  cases rs with
  | nil=>exact absurd rfl hvs
  | cons=>rfl
 refine wpAny_call ?_
 obtain⟨hp,g,d,tk,os'⟩:=s
 refine match_core (G.ks S) hx ?_
 refine hC xs B α os _ (.ref 82) (.ref 135 :: xs) _ G (S.toks (tk+1)) (.cst _) (.cons (.cst _) rs) fun α' x s' p S' r'=>?_
 refine xE22 hm fun l ys q1_ e=>?_
 subst q1_
 refine VR.refE r' fun a ra=>?_
 refine byG fun G9 k9=>?_
 refine xE13 (S'.at ra e) fun o1 g1 q5_ hm=>?_
 refine xE33 q5_ fun it n dd q9_ r1 _=>?_
 subst q9_
 refine k9 ?_
 exact⟨a,it,n,dd,rfl,g1,G.ks S',k α' _ s' p S' ra⟩
theorem ev_methT {o:Expr}{n:Str}{apos pos:Pos}{args:List Expr}{a v:AV}{vs:List AV} (hb:baseOk o=true) (hline:(apos.endLine == pos.line)=true) (hn:args.all notStar=true) (hl:args.length<20) (G:Gd w B)
  (h1:EvOk w A B env f (eval o env) ρ σ a σ₁) (h2:EvsOk w A B env f args ρ σ₁ vs σ₂) (h0:args=[]→vs=[]∧σ₂=σ₁)
  (hm:∀ (α:List Addr) (s:Shared) (x:Value),St w B env f α ρ σ₁ s.os s→VR α a x→∃ fv first t,(∀ (pl:Sem Bool) (Q:Value×List Value→Shared→Prop),Q (fv,first) { s with toks:=t }→wpAny (model pw w) A (getMethod x n pl) Q Ef s)∧
   ∀ (α':List Addr) (xs:List Value) (s':Shared) (Q:Value→Shared→Prop),α <+: α'→St w B env f α' ρ σ₂ s'.os s'→s'.os=s.os→VRs α' vs xs→(∀ α'' y s'',α' <+: α''→St w B env f α'' ρ σ₃ s.os s''→VR α'' v y→Q y s'')→
    Keeps (model pw w) fv s'.heap∧wpAny (model pw w) A (call fv (first++xs)) Q Ef s') :
  EvOk w A B env f (eval (.Call (.Attribute o n apos) args [] pos) env) ρ σ v σ₃:=by
 intro α os s Q S k
 rw [arm_eval_Call,base_eq hb]
 refine wpAny_bind (h1 α os s _ S fun α₁ x s₁ p1 S1 r1=>wpAny_bind (wpAny_standAt ?_))
 refine byG fun G4 k4=>?_
 obtain rfl:=S1.os
 refine xE32 (hm α₁ s₁ x S1 r1) fun fv first t hg hc=>?_
 refine k4 ?_
 have hpos:methodCallPos true o env apos pos=pure pos:=by unfold methodCallPos;simp [hline]
 unfold methodCall
 rw [show args.length+([]:List Keyword).length=args.length from rfl,starEach_form hn hl]
 refine wpAny_bind (wpAny_holding (hg _ _ ?_))
 refine wpAny_bind (wpAny_of_eq hpos ?_)
 refine with_ok hn (S1.toks t) h2 h0 fun α₂ xs s₂ p2 S2 r2=>?_
 exact hc α₂ xs s₂ Q p2 ⟨S2.rel,S2.gens,rfl⟩ S2.os r2 fun α₃ y s₃ p3 S3 r3=>k α₃ y s₃ ((p1.trans p2).trans p3) S3 r3
theorem meth_new {o:Expr}{apos pos:Pos}{args:List Expr}{l:Nat}{xs:List AV} (hb:baseOk o=true) (hline:(apos.endLine == pos.line)=true) (hn:args.all notStar=true) (hl:args.length<20) (G:Gd w B)
  (h1:EvOk w A B env f (eval o env) ρ σ (.cst (.type "tuple")) σ₁) (h2:EvsOk w A B env f args ρ σ₁ [.cst (.ref 135),.loc l] σ₂) (h0:args≠[]) (e1:σ₂[l]? = some (.tup (.type "tuple") xs)) (hz:xs.length≤900) :
  EvOk w A B env f (eval (.Call (.Attribute o "__new__" apos) args [] pos) env) ρ σ (.loc σ₂.length) (σ₂++[.tup (.ref 135) xs]):=by
 refine ev_methT hb hline hn hl G h1 h2 (fun e=>absurd e h0) fun α s x S r=>?_
 refine VR.cstE r ?_
 refine⟨.builtin "tuple.__new__",[],s.toks+1,fun pl Q hQ=>getm_new (G.kk S) hQ,fun α' ys s' Q p S' ho rx k=>⟨keeps_machine,?_⟩⟩
 cases rx with
 | cons r1 rx=>cases rx with
  | cons r2 rx=>cases rx with
   | nil=>
    refine VR.cstE r1 ?_
    refine VR.refE r2 fun a ra=>?_
    refine byG fun G5 k5=>?_
    refine xE13 (S'.at ra e1) fun o1 g1 q7_ hm=>?_
    refine xE33 q7_ fun it n dd q10_ r3 hd=>?_
    subst q10_
    obtain rfl:=hd rfl
    have z:=r3.length
    simp only [Array.length_toList]at z
    refine k5 ?_
    refine call_tnew (G.kk S') g1 (by rw [←z];exact size_line (by lia)) fun h' hk=>?_
    have R1:=(S'.rel.keeps hk).push emptyDict
    have hp:α' <+: α'++[(h'.push emptyDict).objs.size]:=⟨_,rfl⟩
    have R2:=R1.allocPush (o:=MObj it 0 (some h'.objs.size)) (ao:=.tup (.ref 135) xs) rfl ⟨it,0,_,rfl,r3.mono hp,fun e=>nomatch e⟩
    have hsz:(h'.push emptyDict).objs.size=h'.objs.size+1:=Heap.size_push ..
    refine k _ _ _ hp ⟨R2,S'.gens,ho⟩ ?_
    rw [←hsz]
    exact .loc (by rw [←S'.rel.len];simp)
end
end Mine
end
section
open PySem PySem.W PyProof.Rows PySem.Calls PySem.SeqAt
set_option maxRecDepth 100000
set_option linter.unusedVariables false
set_option autoImplicit false
namespace Mine
section
variable {w:World}{A:Around}{B B':Base}{env:Env}{f:Nat→Option Nat}{α α':List Addr}{ρ ρ':Rho}{σ σ' σ₁ σ₂ σ₃:Sto}{os:OsState}{s s':Shared}{h h':Heap}{o:Obj}
theorem app_m {l:Nat}{xs:List AV}{v:AV} (he:σ[l]? = some (.list xs)) (hz:xs.length<900):MethOk w A "list.append" l [v] σ .none (σ.set l (.list (xs++[v]))):=fun B α os s a ys Q G S hl rs k=>by
 cases rs with
 | cons ru rs=>cases rs;exact append_meth he hz S hl ru k
theorem pop_m {l:Nat}{xs:List AV}{v:AV} (he:σ[l]? = some (.list xs)) (hz:xs.length≤900) (hv:xs.getLast? = some v):MethOk w A "list.pop" l [] σ v (σ.set l (.list xs.dropLast)):=fun B α os s a ys Q G S hl rs k=>by
 cases rs;exact pop_meth he hz hv S hl k
theorem sort_m {l:Nat}{xs:List AV}{ts:List (Int×Int×Int)}{p:List Nat} (he:σ[l]? = some (.list xs)) (hz:xs.length≤60) (hu:A.units<cLine) (hu1:A.in1.units<cLine) (ht:TripAt σ xs ts) (hp:sortT ts=some p) :
  MethOk w A "list.sort" l [] σ .none (σ.set l (.list (p.map fun i=>xs.getD i .none))):=fun B α os s a ys Q G S hl rs k=>by
 cases rs;exact sort_meth he hz hu hu1 ht hp G S hl k
theorem keys_m {l:Nat}{es:List (AV×AV)} (he:σ[l]? = some (.dict es)) (hz:strK es=true):MethOk w A "dict.keys" l [] σ (.loc σ.length) (σ++[.keys l]):=fun B α os s a ys Q G S hl rs k=>by
 cases rs;exact keys_meth he hz S hl k
theorem add_m {l:Nat}{ys:List Str}{x:Str} (he:σ[l]? = some (.set ys)) (hz:ys.length<900):MethOk w A "set.add" l [.str x] σ .none (σ.set l (.set (if ys.contains x then ys else ys++[x]))):=fun B α os s a xs Q G S hl rs k=>by
 cases rs with
 | cons ru rs=>
  cases rs
  refine VR.strE ru fun t=>?_
  exact add_meth he hz S hl k
theorem meth_at_loc {o:Expr}{n:Str}{T id:String}{apos pos:Pos}{args:List Expr}{l:Nat}{v:AV}{vs:List AV} (hb:baseOk o=true) (hline:(apos.endLine == pos.line)=true) (hn:args.all notStar=true) (hl:args.length<20) (G:Gd w B)
  (h1:EvOk w A B env f (eval o env) ρ σ (.loc l) σ₁) (h2:EvsOk w A B env f args ρ σ₁ vs σ₂) (h0:args=[]→vs=[]∧σ₂=σ₁)
  (hT:∀ (α:List Addr) (s:Shared) (a:Addr),St w B env f α ρ σ₁ s.os s→VR α (.loc l) (.ref a)→∃ o,s.heap.get? a=some o∧o.cls=.type T∧o.dict=none)
  (pa:PlainAttrs T) (slot:Slot T n id) (hty:typeOf (.builtin id)=pure (.type "method_descriptor")) (M:MethOk w A id l vs σ₂ v σ₃) :
  EvOk w A B env f (eval (.Call (.Attribute o n apos) args [] pos) env) ρ σ v σ₃:=by
 refine ev_meth hb hline hn hl G h1 h2 h0 fun α s x S r=>?_
 refine VR.refE r fun a ra=>?_
 refine xE13 (hT α s a S ra) fun o1 g1 c1 d1=>?_
 refine⟨.builtin id,[.ref a],fun pl Q hQ=>getMethod_builtin ⟨o1,g1,c1⟩ pa slot hty (fun b hb=>by cases hb;exact⟨o1,g1,d1⟩) hQ,fun α' ys s' Q p S' ho rx k=>⟨keeps_machine,?_⟩⟩
 exact St.run (fun B Q G S k=>M B α' s'.os s' a ys Q G S (ra.mono p) rx k) G S' fun α'' y s'' p' S'' r'=>k α'' y s'' p' (ho ▸ S'') r'
theorem gm_starts2 {M:Model}{A:Around}{E:Value→Shared→Prop}{s:Shared}{v:Value} (h1:s.TypeIs v "str") (hd:∀ a,v=.ref a→∃ o,s.heap.get? a=some o∧o.dict=none){pl:Sem Bool}{Q:Value×List Value→Shared→Prop} (hQ:Q (.builtin "str.startswith",[v]) s):wpAny M A (getMethod v "startswith" pl) Q E s:=
 getMethod_builtin h1 PySem.F.plainAttrs_str PySem.F.slot_str_startswith PySem.F.type_str_startswith hd hQ
theorem gm_starts {M:Model}{A:Around}{E:Value→Shared→Prop}{s:Shared}{x:Str}{t:Tok}{pl:Sem Bool}{Q:Value×List Value→Shared→Prop} (hQ:Q (.builtin "str.startswith",[.str x t]) s):wpAny M A (getMethod (.str x t) "startswith" pl) Q E s:=by
 have hd:∀ a,Value.str x t=.ref a→∃ o,s.heap.get? a=some o∧o.dict=none:=fun b hb=>by simp at hb
 have h1:s.TypeIs (.str x t) "str":=typeIs_str s x t
 generalize Value.str x t=v at *
 exact gm_starts2 h1 hd hQ
theorem meth_str {o:Expr}{apos pos:Pos}{args:List Expr}{x y:Str} (hb:baseOk o=true) (hline:(apos.endLine == pos.line)=true) (hn:args.all notStar=true) (hl:args.length<20) (G:Gd w B)
  (h1:EvOk w A B env f (eval o env) ρ σ (.str x) σ₁) (h2:EvsOk w A B env f args ρ σ₁ [.str y] σ₂) (h0:args≠[]) :
  EvOk w A B env f (eval (.Call (.Attribute o "startswith" apos) args [] pos) env) ρ σ (.bool (Txt.startswith x y)) σ₂:=by
 refine ev_meth hb hline hn hl G h1 h2 (fun e=>absurd e h0) fun α s z S r=>?_
 refine VR.strE r fun t=>?_
 refine⟨.builtin "str.startswith",[.str x t],fun pl Q hQ=>gm_starts hQ,fun α' ys s' Q p S' ho rx k=>⟨keeps_machine,?_⟩⟩
 cases rx with
 | cons ry rx=>
  cases rx
  refine VR.strE ry fun u=>?_
  exact SC.startswith (k α' _ s' (pre_refl α') (ho ▸ S') (.bool _))
end
end Mine
end
section
open PySem PySem.W PyProof.Rows PySem.Calls PySem.SeqAt
set_option maxRecDepth 100000
set_option linter.unusedVariables false
set_option autoImplicit false
namespace Mine
section
variable {w:World}{A:Around}{B B':Base}{env:Env}{f:Nat→Option Nat}{α α':List Addr}{ρ ρ':Rho}{σ σ' σ₁ σ₂ σ₃:Sto}{os:OsState}{s s':Shared}{h h':Heap}{o:Obj}
theorem ev_mkAll {g:AV→Sto→AV→Sto→Prop}{e:Expr}{pf pg pm pa p2 pos:Pos}{l:Nat}{xs us:List AV} (hh:A.handled=none) (hne:notStar e=true) (G:Gd w B)
  (g1:∀ B',Gd w B'→∀ σ,EvOk w A B' env f (eval (.Name "list" pf) env) ρ σ (.cst (.type "list")) σ) (g2:∀ B',Gd w B'→∀ σ,EvOk w A B' env f (eval (.Name "map" pg) env) ρ σ (.cst (.type "map")) σ)
  (g3:∀ B',Gd w B'→∀ σ,EvOk w A B' env f (eval (.Name "Match" pm) env) ρ σ (.cst (.ref 135)) σ) (hE:∀ B',Gd w B'→EvOk w A B' env f (eval e env) ρ σ (.loc l) σ₁) (he:σ₁[l]? = some (.list xs)) (hz:xs.length≤900)
  (hF:∀ v u σ σ',g v σ u σ'→CodeOk w A.in1.in1.in1 (.cst (.ref 89)) [.cst (.ref 135),v] σ u σ')
  (hm:MapR g (fun σ=>Same σ₁ (.loc l) σ) σ₂ xs us σ₁) :
  EvOk w A B env f (eval (.Call (.Name "list" pf) [.Call (.Name "map" pg) [.Attribute (.Name "Match" pm) "_make" pa,e] [] p2] [] pos) env) ρ σ (.loc σ₂.length) (σ₂++[.list us]):=by
 intro α os s Q S k
 rw [eval_Call rfl]
 refine wpAny_bind (g1 B G σ α os s _ S fun α₁ x s₁ p1 S1 r1=>?_)
 refine VR.cstE r1 ?_
 have hn1:[Expr.Call (.Name "map" pg) [.Attribute (.Name "Match" pm) "_make" pa,e] [] p2].all notStar=true:=rfl
 have hn2:[Expr.Attribute (.Name "Match" pm) "_make" pa,e].all notStar=true:=by show(true && (notStar e && true))=true;rw [hne];rfl
 refine callWith_of (P:=Keeps (model pw w) (.type "list")) (by rw [plain_star hn1];rfl) (fun h q=>q) (evalArgs_star hn1 (fun e=>by cases e) ?_)
 refine wpAny_items_cons ?_ (starEach_cons rfl)
 rw [eval_Call rfl]
 refine wpAny_bind (g2 B G σ α₁ os s₁ _ S1 fun α₂ x s₂ p2 S2 r2=>?_)
 refine VR.cstE r2 ?_
 refine callWith_of (P:=Keeps (model pw w) (.type "map")) (by rw [plain_star hn2];rfl) (fun h q=>q) (evalArgs_star hn2 (fun e=>by cases e) ?_)
 refine wpAny_items_cons ?_ (starEach_cons rfl)
 refine Attribute_my rfl (g3 B G σ α₂ os s₂ _ S2 fun α₃ x s₃ p3 S3 r3=>?_)
 refine VR.cstE r3 ?_
 refine ga_make (G.kk S3) ?_
 have H:=Hide.new S3 (o:=methodObj (.ref 89) (.ref 135)) rfl
 have S4:St w B env f α₃ ρ σ os { s₃ with heap:=s₃.heap.push (methodObj (.ref 89) (.ref 135)),toks:=s₃.toks+1 }:=⟨S3.rel.push _,S3.gens,S3.os⟩
 refine wpAny_items_cons ?_ (starEach_cons hne)
 refine hE _ (G.mono S4.sub) α₃ os _ _ S4.mask fun α₅ x s₅ p5 S5' r5=>?_
 refine byG fun G4 k4=>?_
 have H5:=H.keep S5'.rel
 have S5:=S5'.weaken S4.sub
 refine xE12 r5.ref_of fun la q1_ ra=>?_
 subst q1_
 refine listAt (S5.at ra he) fun it n q1 rr _ hla=>?_
 refine k4 ?_
 refine wpAny_items_nil ⟨keeps_type,?_⟩
 refine call_map_2 ⟨_,q1,rfl,n,rfl⟩ fun h' m1 m2 m3 hsz hk=>?_
 refine wpAny_items_nil ⟨keeps_type,?_⟩
 have S5m:=S5.toS.mask
 have G1:Gd w (maskS s₅.heap α₅ σ₁):=G.mono S5.toS.rel.sub
 have S6:StS w (maskS s₅.heap α₅ σ₁) α₅ σ₁ os { s₅ with heap:=h' }:=S5m.over G1 (t:=s₅.toks) hk
 have out:∀ {b:Addr},s₅.heap.objs.size≤b→b∉α₅:=fun hb hm=>absurd (S5.rel.lt hm) (Nat.not_lt_of_le hb)
 have hmo:s₃.heap.objs.size<s₅.heap.objs.size:=Heap.lt_size H5.there
 refine list_map (g:=g) hh he hz G1 hF S6 hla m1 m2 (hk _ _ H5.there) m3 (out (Nat.le_add_right _ _)) (out (Nat.le_add_right _ _)) H5.place (out (Nat.le_refl _)) (Nat.ne_of_gt (Nat.lt_add_of_pos_right (by decide))) (Nat.ne_of_gt (Nat.lt_add_of_pos_right (by decide))) (Nat.ne_of_lt hmo) (base_size S5m.rel.keep) (Nat.lt_of_lt_of_le S5m.rel.top (Nat.le_add_right _ _)) hm
  fun α' x s' p S' r=>k α' x s' ((((p1.trans p2).trans p3).trans p5).trans p) (S5.back S' p) r
end
end Mine
end
section
open PySem PySem.W PyProof.Rows PySem.Calls PySem.SeqAt
set_option maxRecDepth 100000
set_option linter.unusedVariables false
set_option autoImplicit false
namespace Mine
structure Cx (n:Nat) (w:World) (A:Around) (B:Base) (env:Env):Prop where
 r:Room A (n+1)
 G:Gd w B
 O:EnvOk env
noncomputable def KeepOk (w:World) (g:AV) (σ:Sto):Prop:=∀ (B:Base) (α:List Addr) (os:OsState) (s:Shared) (gv:Value),Gd w B→StS w B α σ os s→VR α g gv→Keeps (model pw w) gv s.heap
theorem Room.down {A:Around}{n:Nat} (h:Room A (n+1)):Room A n:=⟨h.handled,by have:=h.depth;lia,by have:=h.units;lia⟩
theorem Room.cl {A:Around}{n:Nat} (h:Room A (n+1)):A.units+10<cLine:=by have:=h.units;unfold cLine;lia
theorem okName_dbg {x:Str} (h:okName x=true):(x == ("__debug__":Str))=false∧(x == ("__classdict__":Str))=false:=
 ⟨Bool.eq_false_iff.mpr (bne_iff_ne.mp (and1 h) ∘ eq_of_beq),Bool.eq_false_iff.mpr (bne_iff_ne.mp (and2 h) ∘ eq_of_beq)⟩
theorem ok_plain {k:Nat}{sc:Scope}{E:Mine.E}{x:Expr} (h:(ok k).e sc E x=true):plainE (emE k E x)=true:=by
 cases k with
 | zero=>cases h
 | succ k=>cases E <;> first | rfl | exact h | cases h
theorem ok_star {k:Nat}{sc:Scope}{E:Mine.E}{x:Expr} (h:(ok k).e sc E x=true):notStar (emE k E x)=true:=pl_star (ok_plain h)
theorem okg_star {k:Nat}{sc:Scope}{E:Mine.E}{x:Expr} (h:(ok k).g sc E x=true):notStar (emE k E x)=true:=by
 cases k with
 | zero=>cases h
 | succ k=>cases E <;> first | rfl | cases h
theorem oks_star {k:Nat}{sc:Scope}:∀ {Es:List Mine.E}{xs:List Expr},allZ dE ((ok k).e sc) Es xs=true→(zipE dE (emE k) Es xs).all notStar=true
 | [],_,_=>rfl
 | E :: Es,xs,h=>by
  show(notStar _ && _)=true
  rw [ok_star (and1 h),oks_star (and2 h)];rfl
theorem okgs_star {k:Nat}{sc:Scope}:∀ {Es:List Mine.E}{xs:List Expr},allZ dE ((ok k).g sc) Es xs=true→(zipE dE (emE k) Es xs).all notStar=true
 | [],_,_=>rfl
 | E :: Es,xs,h=>by
  show(notStar _ && _)=true
  rw [okg_star (and1 h),okgs_star (and2 h)];rfl
theorem zip_len {β γ:Type}{d:γ}{F:β→γ→γ}:∀ {Es:List β}{xs:List γ},(zipE d F Es xs).length=Es.length
 | [],_=>rfl
 | _ :: _,_=>congrArg (·+1) zip_len
theorem ScOk.loc {sc:Scope}{env:Env} (h:ScOk sc env){x:Str}{i:Nat}{k:NameKind} (hk:k≠.free) (e:idx sc x=some (i,k)):idx env.scope x=some (i,k):=by
 refine xE12 (h x i _ e) fun k' e1 e2=>?_
 exact e2.elim (fun q=>q ▸ e1) fun q=>absurd q.1 hk
theorem ScOk.cap {sc:Scope}{env:Env} (h:ScOk sc env){x:Str}{i:Nat}{k:NameKind} (hk:k=.cell∨k=.free) (e:idx sc x=some (i,k)):∃ k',(k'=.cell∨k'=.free)∧idx env.scope x=some (i,k'):=by
 refine xE12 (h x i _ e) fun k' e1 e2=>?_
 exact e2.elim (fun q=>⟨k',q ▸ hk,e1⟩) fun q=>⟨k',.inl q.2,e1⟩
structure Ev (n:Nat) (f:Nat→Option Nat) (E:Mine.E) (ρ:Rho) (σ:Sto) (v:AV) (σ':Sto):Prop where
 intro ::
 run:∀ {w:World}{A:Around}{B:Base}{env:Env}{sc:Scope}{k:Nat}{x:Expr},Cx n w A B env→ScOk sc env→(ok k).e sc E x=true→EvOk w A B env f (eval (emE k E x) env) ρ σ v σ'
structure Ts (n:Nat) (f:Nat→Option Nat) (E:Mine.E) (ρ:Rho) (σ:Sto) (c:Bool) (σ':Sto):Prop where
 intro ::
 run:∀ {w:World}{A:Around}{B:Base}{env:Env}{sc:Scope}{k:Nat}{x:Expr},Cx n w A B env→ScOk sc env→(ok k).e sc E x=true→TsOk w A B env f (isTrue (emE k E x) env (eval (emE k E x) env)) ρ σ c σ'
structure Asg (n:Nat) (f:Nat→Option Nat) (E:Mine.E) (v:AV) (ρ:Rho) (σ:Sto) (ρ':Rho) (σ':Sto):Prop where
 intro ::
 run:∀ {w:World}{A:Around}{B:Base}{env:Env}{sc:Scope}{k:Nat}{x:Expr},Cx n w A B env→ScOk sc env→(ok k).g sc E x=true→TgOk w A B env f (emE k E x) v ρ σ ρ' σ'
structure Evs (n:Nat) (f:Nat→Option Nat) (Es:List Mine.E) (ρ:Rho) (σ:Sto) (vs:List AV) (σ':Sto):Prop where
 intro ::
 pre:Es=[]→vs=[]∧σ'=σ
 run:∀ {w:World}{A:Around}{B:Base}{env:Env}{sc:Scope}{k:Nat}{xs:List Expr},Cx n w A B env→ScOk sc env→allZ dE ((ok k).e sc) Es xs=true→EvsOk w A B env f (zipE dE (emE k) Es xs) ρ σ vs σ'
structure Asgs (n:Nat) (f:Nat→Option Nat) (Es:List Mine.E) (vs:List AV) (ρ:Rho) (σ:Sto) (ρ':Rho) (σ':Sto):Prop where
 intro ::
 pre:vs.length=Es.length
 run:∀ {w:World}{A:Around}{B:Base}{env:Env}{sc:Scope}{k:Nat}{xs:List Expr},Cx n w A B env→ScOk sc env→allZ dE ((ok k).g sc) Es xs=true→TgsOk w A B env f (zipE dE (emE k) Es xs) vs ρ σ ρ' σ'
structure AsgA (n:Nat) (f:Nat→Option Nat) (Es:List Mine.E) (v:AV) (ρ:Rho) (σ:Sto) (ρ':Rho) (σ':Sto):Prop where
 intro ::
 run:∀ {w:World}{A:Around}{B:Base}{env:Env}{sc:Scope}{k:Nat}{xs:List Expr},Cx n w A B env→ScOk sc env→allZ dE ((ok k).g sc) Es xs=true→TsgOk w A B env f (zipE dE (emE k) Es xs) v ρ σ ρ' σ'
structure TsL (n:Nat) (f:Nat→Option Nat) (op:BoolOp) (Es:List Mine.E) (ρ:Rho) (σ:Sto) (c:Bool) (σ':Sto):Prop where
 intro ::
 run:∀ {w:World}{A:Around}{B:Base}{env:Env}{sc:Scope}{k:Nat}{xs:List Expr},Cx n w A B env→ScOk sc env→allZ dE ((ok k).e sc) Es xs=true→AllOk w A B env f op (zipE dE (emE k) Es xs) ρ σ c σ'
structure Ex (n:Nat) (f:Nat→Option Nat) (S:Mine.S) (ρ:Rho) (σ:Sto) (fl:Fl) (ρ':Rho) (σ':Sto):Prop where
 intro ::
 run:∀ {w:World}{A:Around}{B:Base}{env:Env}{k:Nat}{x:Stmt},Cx n w A B env→okS k env.scope S x=true→ExOk w A B env f (exec (emS k S x) env) ρ σ fl ρ' σ'
structure Exs (n:Nat) (f:Nat→Option Nat) (Ss:List Mine.S) (ρ:Rho) (σ:Sto) (fl:Fl) (ρ':Rho) (σ':Sto):Prop where
 intro ::
 run:∀ {w:World}{A:Around}{B:Base}{env:Env}{k:Nat}{xs:List Stmt},Cx n w A B env→allZ dS (okS k env.scope) Ss xs=true→ExOk w A B env f (execs (zipE dS (emS k) Ss xs) env) ρ σ fl ρ' σ'
structure Call (n:Nat) (g:AV) (vs:List AV) (σ:Sto) (v:AV) (σ':Sto):Prop where
 intro ::
 run:∀ {w:World}{A:Around},Room A (n+1)→CallOk w A g vs σ v σ'∧KeepOk w g σ
section
variable {n:Nat}{f:Nat→Option Nat}{ρ ρ' ρ₁ ρ₂:Rho}{σ σ' σ₁ σ₂ σ₃ σ₄:Sto}{v u a b:AV}{c:Bool}{E E₁ E₂ E₃:Mine.E}{Es:List Mine.E}{vs:List AV}{fl:Fl}
theorem Ev.mk (H:∀ {w:World}{A:Around}{B:Base}{env:Env}{sc:Scope}{k:Nat}{x:Expr},Cx n w A B env→ScOk sc env→okE1 (emE k) (ok k) sc E x=true→EvOk w A B env f (eval (embE (emE k) E x) env) ρ σ v σ'):Ev n f E ρ σ v σ':=
 .intro fun {w A B env sc k x} c hs h=>match k,h with | _+1,h=>H c hs h
theorem Ts.mk (H:∀ {w:World}{A:Around}{B:Base}{env:Env}{sc:Scope}{k:Nat}{x:Expr},Cx n w A B env→ScOk sc env→okE1 (emE k) (ok k) sc E x=true→TsOk w A B env f (isTrue (embE (emE k) E x) env (eval (embE (emE k) E x) env)) ρ σ c σ'):Ts n f E ρ σ c σ':=
 .intro fun {w A B env sc k x} c hs h=>match k,h with | _+1,h=>H c hs h
theorem Asg.mk (H:∀ {w:World}{A:Around}{B:Base}{env:Env}{sc:Scope}{k:Nat}{x:Expr},Cx n w A B env→ScOk sc env→okG1 (ok k) sc E x=true→TgOk w A B env f (embE (emE k) E x) v ρ σ ρ' σ'):Asg n f E v ρ σ ρ' σ':=
 .intro fun {w A B env sc k x} c hs h=>match k,h with | _+1,h=>H c hs h
theorem Ex.mk {S:Mine.S} (H:∀ {w:World}{A:Around}{B:Base}{env:Env}{k:Nat}{x:Stmt},Cx n w A B env→okS1 (okS k) env.scope S x=true→ExOk w A B env f (exec (embS (emE 40) (emS k) S x) env) ρ σ fl ρ' σ'):Ex n f S ρ σ fl ρ' σ':=
 .intro fun {w A B env k x} c h=>match k,h with | _+1,h=>H c h
theorem Ev.none:Ev n f .none ρ σ .none σ:=Ev.mk fun _ _ _=>ev_none
theorem Ev.bool {b:Bool}:Ev n f (.bool b) ρ σ (.bool b) σ:=Ev.mk fun _ _ _=>ev_bool
theorem Ev.int {i:Int}:Ev n f (.int i) ρ σ (.int i) σ:=Ev.mk fun _ _ _=>ev_int
theorem Ev.str {s:Str}:Ev n f (.str s) ρ σ (.str s) σ:=Ev.mk fun _ _ _=>ev_str
theorem Ev.var {i:Nat} (h:ρ i=some v):Ev n f (.var i) ρ σ v σ:=Ev.mk fun c hs q=>ev_var c.O (okName_dbg (and1 q)).1 (hs.loc (by decide) (dec1 (and2 q))) h
theorem Ev.cvar {i l:Nat} (h1:f i=some l) (h2:σ[l]? = some (.cell (some v))):Ev n f (.cvar i) ρ σ v σ:=Ev.mk fun c hs q=>
 let ⟨_,e1,e2⟩:=(or12 (and2 q)).elim (fun z=>hs.cap (.inl rfl) (dec1 z)) fun z=>hs.cap (.inr rfl) (dec1 z)
 ev_cvar c.O (okName_dbg (and1 q)).1 (okName_dbg (and1 q)).2 e1 e2 h1 h2
theorem Ev.glob:Ev n f (.glob v) ρ σ v σ:=Ev.mk fun c hs q=>
 let ⟨_,e⟩:=isGl_spec (and1 (and2 q))
 ev_glob c.O c.G (okName_dbg (and1 q)).1 (hs.loc (by decide) e) (dec1 (and2 (and2 q)))
theorem Ev.bin {op:Operator} (h1:Ev n f E₁ ρ σ a σ₁) (h2:Ev n f E₂ ρ σ₁ b σ₂) (h:binop op a b σ₂=some (v,σ')):Ev n f (.bin op E₁ E₂) ρ σ v σ':=Ev.mk fun c hs q=>
 ev_bin (h1.run c hs (and1 q)) (h2.run c hs (and2 q)) fun α os s Q x y S ra rb k=>bin_ok h S ra rb k
theorem Ev.cmp {op:CmpOp} (h1:Ev n f E₁ ρ σ a σ₁) (h2:Ev n f E₂ ρ σ₁ b σ₂) (h:cmpop op a b σ₂=some c):Ev n f (.cmp op E₁ E₂) ρ σ (.bool c) σ₂:=Ev.mk fun c hs q=>
 ev_cmp' c.G c.r.cl (pl_mark (ok_plain (and2 q))) (h1.run c hs (and1 q)) (h2.run c hs (and2 q)) h
theorem Ev.stop {op:BoolOp} (h1:Ev n f E₁ ρ σ v σ₁) (ht:truth σ₁ v=some c) (hc:c=(op == .Or)):Ev n f (.bop op (E₁ :: E₂ :: Es)) ρ σ v σ₁:=Ev.mk fun c hs q=>
 ev_bop (bop_cons (h1.run c hs (and1 q)) ht (by rw [hc];cases op <;> exact⟨rfl,rfl⟩))
theorem Ev.go {op:BoolOp} (h1:Ev n f E₁ ρ σ u σ₁) (ht:truth σ₁ u=some c) (hc:c=(op == .And)) (h2:Ev n f E₂ ρ σ₁ v σ₂):Ev n f (.bop op [E₁,E₂]) ρ σ v σ₂:=Ev.mk fun c hs q=>
 ev_bop (bop_cons (h1.run c hs (and1 q)) ht (by rw [if_pos hc];exact bop_one (h2.run c hs (and1 (and2 q)))))
theorem Ev.neg {i:Int} (h:Ev n f E ρ σ (.int i) σ₁):Ev n f (.neg E) ρ σ (.int (-i)) σ₁:=Ev.mk fun c hs q=>ev_neg (h.run c hs q)
theorem Ev.ite (h1:Ts n f E₁ ρ σ c σ₁) (h2:Ev n f (bif c then E₂ else E₃) ρ σ₁ v σ₂):Ev n f (.ite E₁ E₂ E₃) ρ σ v σ₂:=Ev.mk fun c' hs q=>ev_ite (h1.run c' hs (and1 q)) (by
 cases c
 ·exact h2.run c' hs (and2 (and2 q))
 ·exact h2.run c' hs (and1 (and2 q)))
theorem Ev.attr {m:Str}{l d:Nat}{c:Addr}{fs:List (Str×AV)} (h:Ev n f E ρ σ (.loc l) σ₁) (e1:σ₁[l]? = some (.inst c d)) (e2:σ₁[d]? = some (.fields fs)) (hc:c=242∨c=311) (hn:fieldNames.contains m=true) (hv:fs.lookup m=some v) (hk:∀ x,v≠.cst x):Ev n f (.attr E m) ρ σ v σ₁:=Ev.mk fun c hs q=>
 ev_field c.G (and1 q) (h.run c hs (and2 q)) e1 e2 hc hn hv hk
theorem strKeys_form {es:List (AV×AV)} (h:strK es=true):∃ ks:List (Str×AV),es=ks.map fun p=>(.str p.1,p.2):=strK_of h
theorem intKeys_form {es:List (AV×AV)} (h:intK es=true):∃ ks:List (Int×AV),es=ks.map fun p=>(.int p.1,p.2):=intK_of h
theorem Ev.bget {l:Nat}{es:List (AV×AV)} (h:Ev n f E ρ σ (.loc l) σ₁) (e:σ₁[l]? = some (.dict es)) (hz:intK es=true):Ev n f (.attr E "get") ρ σ (.loc σ₁.length) (σ₁++[.bm "dict.get" l]):=Ev.mk fun c hs q=>
 ev_bget (and1 q) (h.run c hs (and2 q)) e (.inr (intKeys_form hz))
theorem Ev.bcon {l:Nat}{ys:List Str} (h:Ev n f E ρ σ (.loc l) σ₁) (e:σ₁[l]? = some (.set ys)):Ev n f (.attr E "__contains__") ρ σ (.loc σ₁.length) (σ₁++[.bm "set.__contains__" l]):=Ev.mk fun c hs q=>
 ev_bcon (and1 q) (h.run c hs (and2 q)) e
theorem Ev.item (h1:Ev n f E₁ ρ σ a σ₁) (h2:Ev n f E₂ ρ σ₁ b σ₂) (h:ItemR σ₂ a b v):Ev n f (.item E₁ E₂) ρ σ v σ₂:=Ev.mk fun c hs q=>ev_item (h1.run c hs (and1 q)) (h2.run c hs (and2 q)) h
inductive Prt (n:Nat) (f:Nat→Option Nat):List Mine.E→Rho→Sto→AV→Sto→Prop
 | no {ρ:Rho}{σ:Sto}:Prt n f [] ρ σ .none σ
 | yes {E:Mine.E}{ρ:Rho}{σ σ':Sto}{v:AV}:Ev n f E ρ σ v σ'→Prt n f [E] ρ σ v σ'
theorem Prt.ok (h:Prt n f Es ρ σ v σ'){w:World}{A:Around}{B:Base}{env:Env}{sc:Scope}{k:Nat}{x:Expr} (c:Cx n w A B env) (hs:ScOk sc env) (q:partOk (Mine.ok k) sc Es x=true):PartOk w A B env f (partE (emE k) Es x) ρ σ v σ':=by
 cases h with
 | no=>exact part_none
 | yes h=>exact part_some (h.run c hs q)
theorem Ev.slice {F G H:List Mine.E}{x y z:AV} (h:Ev n f E ρ σ a σ₁) (h1:Prt n f F ρ σ₁ x σ₂) (h2:Prt n f G ρ σ₂ y σ₃) (h3:Prt n f H ρ σ₃ z σ₄) (e:Slice a x y z σ₄ (v) (σ')):Ev n f (.slice E F G H) ρ σ v σ':=Ev.mk fun c hs q=>
 ev_slice (h.run c hs (and1 q)) (h1.ok c hs (and1 (and2 q))) (h2.ok c hs (and1 (and2 (and2 q)))) (h3.ok c hs (and2 (and2 (and2 q)))) e
theorem Evs.nil:Evs n f [] ρ σ [] σ:=⟨fun _=>⟨rfl,rfl⟩,fun _ _ _=>evs_nil⟩
theorem Evs.cons (h1:Ev n f E ρ σ v σ₁) (h2:Evs n f Es ρ σ₁ vs σ₂):Evs n f (E :: Es) ρ σ (v :: vs) σ₂:=⟨fun e=>(nomatch e),fun c hs q=>evs_cons (ok_star (and1 q)) (h1.run c hs (and1 q)) (h2.run c hs (and2 q))⟩
theorem Evs.nil' (h:Evs n f Es ρ σ vs σ'){k:Nat}{xs:List Expr} (e:zipE dE (emE k) Es xs=[]):vs=[]∧σ'=σ:=h.pre (by cases Es with | nil=>rfl | cons=>cases e)
theorem Ev.list (h:Evs n f Es ρ σ vs σ₁) (hl:vs.length≤900):Ev n f (.list Es) ρ σ (.loc σ₁.length) (σ₁++[.list vs]):=Ev.mk fun c hs q=>ev_list (h.run c hs q) hl
theorem Ev.tuple (h:Evs n f Es ρ σ vs σ₁) (hl:vs.length≤900):Ev n f (.tuple Es) ρ σ (.loc σ₁.length) (σ₁++[.tup (.type "tuple") vs]):=Ev.mk fun c hs q=>ev_tuple (h.run c hs q) hl
theorem Ev.dict0:Ev n f .dict0 ρ σ (.loc σ.length) (σ++[.dict []]):=Ev.mk fun _ _ _=>ev_dict0
theorem Ev.dict1 {a:Str}{b:Int}:Ev n f (.dict1 a b) ρ σ (.loc σ.length) (σ++[.dict [(.str a,.int b)]]):=Ev.mk fun _ _ _=>ev_dict1
theorem Ev.call {g:AV} (h1:Ev n f E ρ σ g σ₁) (h2:Evs n f Es ρ σ₁ vs σ₂) (C:Call n g vs σ₂ v σ₃):Ev n f (.call E Es) ρ σ v σ₃:=Ev.mk fun c hs q=>
 ev_call (and1 q) (oks_star (and2 (and2 q))) c.G (h1.run c hs (and1 (and2 q))) (h2.run c hs (and2 (and2 q))) h2.nil' (fun α s gv S rg=>(C.run c.r).2 _ α s.os s gv c.G S.toS rg) (C.run c.r).1
theorem Ev.minst {m:Str}{l d:Nat}{c a:Addr}{fs:List (Str×AV)} (h1:Ev n f E ρ σ (.loc l) σ₁) (h2:Evs n f Es ρ σ₁ vs σ₂) (e1:σ₁[l]? = some (.inst c d)) (e2:σ₁[d]? = some (.fields fs)) (e3:fs.lookup m=.none)
  (e4:((mtds.lookup c).bind fun fns=>fns.lookup m)=some a) (hk:∀ P,keepIn (KK P) (.ref a)=true) (C:Call n (.cst (.ref a)) (.loc l :: vs) σ₂ v σ₃):Ev n f (.meth E m Es) ρ σ v σ₃:=Ev.mk fun c hs q=>
 meth_inst (and1 q) (and1 (and2 q)) (oks_star (and2 (and2 (and2 (and2 q))))) (by rw [zip_len];exact dec1 (and1 (and2 (and2 q)))) c.G (h1.run c hs (and1 (and2 (and2 (and2 q))))) (h2.run c hs (and2 (and2 (and2 (and2 q))))) h2.nil' e1 e2 e3 e4 (hk _) (C.run c.r).1
theorem Ev.mloc {m:Str}{T id:String}{l:Nat}{ao:AO} (h1:Ev n f E ρ σ (.loc l) σ₁) (h2:Evs n f Es ρ σ₁ vs σ₂) (e1:σ₁[l]? = some ao) (hT:∀ {w:World}{α:List Addr}{o:Obj},CR w α ao o→o.cls=.type T∧o.dict=.none)
  (pa:PlainAttrs T) (slot:Slot T m id) (hty:typeOf (.builtin id)=pure (.type "method_descriptor")) (M:∀ {w:World}{A:Around},Room A (n+1)→MethOk w A id l vs σ₂ v σ₃):Ev n f (.meth E m Es) ρ σ v σ₃:=Ev.mk fun c hs q=>
 meth_at_loc (and1 q) (and1 (and2 q)) (oks_star (and2 (and2 (and2 (and2 q))))) (by rw [zip_len];exact dec1 (and1 (and2 (and2 q)))) c.G (h1.run c hs (and1 (and2 (and2 (and2 q))))) (h2.run c hs (and2 (and2 (and2 (and2 q))))) h2.nil'
  (fun α s a S ra=>let ⟨o,g,r,_⟩:=S.at ra e1;⟨o,g,hT r⟩) pa slot hty (M c.r)
theorem cr_list {w:World}{α:List Addr}{o:Obj}{xs:List AV} (h:CR w α (.list xs) o):o.cls=.type "list"∧o.dict=.none:=let ⟨_,_,e,_⟩:=h;e ▸ ⟨rfl,rfl⟩
theorem cr_dict {w:World}{α:List Addr}{o:Obj}{ks:List (Str×AV)} (h:CR w α (.dict (ks.map fun p=>(.str p.1,p.2))) o):o.cls=.type "dict"∧o.dict=.none:=let ⟨_,hd,_⟩:=h.1 ks rfl;⟨hd.1.1,hd.1.2.1⟩
theorem cr_set {w:World}{α:List Addr}{o:Obj}{ys:List Str} (h:CR w α (.set ys) o):o.cls=.type "set"∧o.dict=.none:=⟨h.1.1,h.1.2.1⟩
theorem Ev.append {l:Nat}{xs xs':List AV} (h1:Ev n f E ρ σ (.loc l) σ₁) (h2:Evs n f Es ρ σ₁ [v] σ₂) (e1:σ₁[l]? = some (.list xs')) (e2:σ₂[l]? = some (.list xs)) (hz:xs.length<900):Ev n f (.meth E "append" Es) ρ σ .none (σ₂.set l (.list (xs++[v]))):=
 Ev.mloc h1 h2 e1 cr_list PySem.F.plainAttrs_list PySem.F.slot_list_append PySem.F.type_list_append fun _=>app_m e2 hz
theorem Ev.pop {l:Nat}{xs:List AV} (h1:Ev n f E ρ σ (.loc l) σ₁) (e:σ₁[l]? = some (.list (xs++[v]))) (hz:xs.length<900):Ev n f (.meth E "pop" []) ρ σ v (σ₁.set l (.list xs)):=
 Ev.mloc h1 Evs.nil e cr_list PySem.F.plainAttrs_list PySem.F.slot_list_pop PySem.F.type_list_pop fun {w A} _=>by
  have h:=pop_m (w:=w) (A:=A) e (Nat.le_trans (Nat.le_of_eq List.length_append) hz) (List.getLast?_concat (a:=v))
  rwa [List.dropLast_concat]at h
theorem Room.u1 {A:Around} (h:Room A (n+1)):A.units<cLine∧A.in1.units<cLine:=by
 have:=h.units
 refine⟨?_,?_⟩
 ·unfold cLine;lia
 ·show A.units+_<_
  unfold cLine;lia
theorem Ev.sort {l:Nat}{xs:List AV}{ts:List (Int×Int×Int)}{p:List Nat} (h1:Ev n f E ρ σ (.loc l) σ₁) (e:σ₁[l]? = some (.list xs)) (hz:xs.length≤60) (ht:TripAt σ₁ xs ts) (hp:sortT ts=some p):Ev n f (.meth E "sort" []) ρ σ .none (σ₁.set l (.list (p.map fun i=>xs.getD i .none))):=
 Ev.mloc h1 Evs.nil e cr_list PySem.F.plainAttrs_list PySem.F.slot_list_sort PySem.F.type_list_sort fun r=>sort_m e hz r.u1.1 r.u1.2 ht hp
theorem Ev.dget {l:Nat}{q:Str}{dv:AV}{ks ks':List (Str×AV)} (h1:Ev n f E ρ σ (.loc l) σ₁) (h2:Evs n f Es ρ σ₁ [.str q,dv] σ₂) (e1:σ₁[l]? = some (.dict (ks'.map fun p=>(.str p.1,p.2)))) (e2:σ₂[l]? = some (.dict (ks.map fun p=>(.str p.1,p.2)))):Ev n f (.meth E "get" Es) ρ σ ((ks.lookup q).getD dv) σ₂:=
 Ev.mloc h1 h2 e1 cr_dict PySem.F.plainAttrs_dict PySem.F.slot_dict_get PySem.F.type_dict_get fun _=>get_meth e2
theorem Ev.setdef {l:Nat}{q:Str}{dv:AV}{ks ks':List (Str×AV)} (h1:Ev n f E ρ σ (.loc l) σ₁) (h2:Evs n f Es ρ σ₁ [.str q,dv] σ₂) (e1:σ₁[l]? = some (.dict (ks'.map fun p=>(.str p.1,p.2)))) (e2:σ₂[l]? = some (.dict (ks.map fun p=>(.str p.1,p.2)))) (hz:ks.length≤900) :
  Ev n f (.meth E "setdefault" Es) ρ σ ((ks.lookup q).getD dv) (match ks.lookup q with | some _=>σ₂ | .none=>σ₂.set l (.dict (dput (.str q) dv (ks.map fun p=>(.str p.1,p.2))))):=
 Ev.mloc h1 h2 e1 cr_dict PySem.F.plainAttrs_dict PySem.F.slot_dict_setdefault PySem.F.type_dict_setdefault fun _=>setdef_meth e2 hz
theorem Ev.keys {l:Nat}{ks:List (Str×AV)} (h1:Ev n f E ρ σ (.loc l) σ₁) (e:σ₁[l]? = some (.dict (ks.map fun p=>(.str p.1,p.2)))) (hz:strK (ks.map fun p=>(AV.str p.1,p.2))=true):Ev n f (.meth E "keys" []) ρ σ (.loc σ₁.length) (σ₁++[.keys l]):=
 Ev.mloc h1 Evs.nil e cr_dict PySem.F.plainAttrs_dict PySem.F.slot_dict_keys PySem.F.type_dict_keys fun _=>keys_m e hz
theorem Ev.add {l:Nat}{ys ys':List Str}{x:Str} (h1:Ev n f E ρ σ (.loc l) σ₁) (h2:Evs n f Es ρ σ₁ [.str x] σ₂) (e1:σ₁[l]? = some (.set ys')) (e2:σ₂[l]? = some (.set ys)) (hz:ys.length<900):Ev n f (.meth E "add" Es) ρ σ .none (σ₂.set l (.set (if ys.contains x then ys else ys++[x]))):=
 Ev.mloc h1 h2 e1 cr_set PySem.F.plainAttrs_set PySem.F.slot_set_add PySem.F.type_set_add fun _=>add_m e2 hz
theorem zip_ne {k:Nat}{x:AV} (h:Evs n f Es ρ σ (x :: vs) σ'){xs:List Expr}:zipE dE (emE k) Es xs≠[]:=fun e=>nomatch (h.nil' e).1
theorem Ev.starts {x y:Str} (h1:Ev n f E ρ σ (.str x) σ₁) (h2:Evs n f Es ρ σ₁ [.str y] σ₂):Ev n f (.meth E "startswith" Es) ρ σ (.bool (Txt.startswith x y)) σ₂:=Ev.mk fun c hs q=>
 meth_str (and1 q) (and1 (and2 q)) (oks_star (and2 (and2 (and2 (and2 q))))) (by rw [zip_len];exact dec1 (and1 (and2 (and2 q)))) c.G (h1.run c hs (and1 (and2 (and2 (and2 q))))) (h2.run c hs (and2 (and2 (and2 (and2 q))))) (zip_ne h2)
theorem Ev.tnew {l:Nat}{xs:List AV} (h1:Ev n f E ρ σ (.cst (.type "tuple")) σ₁) (h2:Evs n f Es ρ σ₁ [.cst (.ref 135),.loc l] σ₂) (e:σ₂[l]? = some (.tup (.type "tuple") xs)) (hz:xs.length≤900):Ev n f (.meth E "__new__" Es) ρ σ (.loc σ₂.length) (σ₂++[.tup (.ref 135) xs]):=Ev.mk fun c hs q=>
 meth_new (and1 q) (and1 (and2 q)) (oks_star (and2 (and2 (and2 (and2 q))))) (by rw [zip_len];exact dec1 (and1 (and2 (and2 q)))) c.G (h1.run c hs (and1 (and2 (and2 (and2 q))))) (h2.run c hs (and2 (and2 (and2 (and2 q))))) (zip_ne h2) e hz
noncomputable def isVal:Mine.E→Bool
 | .not _=>false
 | .bop ..=>false
 | .ite ..=>false
 | .cmp ..=>false
 | .bad=>false
 | _=>true
theorem val_plain {F:Mine.E→Expr→Expr}{x:Expr} (h:isVal E=true):plainT (embE F E x)=true:=by cases E <;> first | rfl | cases h
theorem Ts.val (hp:isVal E=true) (h:Ev n f E ρ σ v σ₁) (ht:truth σ₁ v=some c):Ts n f E ρ σ c σ₁:=Ts.mk fun {w A B env sc k x} c hs q=>ts_val (val_plain hp) (h.run (k:=k+1) c hs q) ht
theorem Ts.not (h:Ts n f E ρ σ c σ₁):Ts n f (.not E) ρ σ (!c) σ₁:=Ts.mk fun c hs q=>ts_not (h.run c hs q)
theorem Ts.cmp {op:CmpOp} (h1:Ev n f E₁ ρ σ a σ₁) (h2:Ev n f E₂ ρ σ₁ b σ₂) (h:cmpop op a b σ₂=some c):Ts n f (.cmp op E₁ E₂) ρ σ c σ₂:=Ts.mk fun c hs q=>
 ts_cmp c.G c.r.cl (pl_mark (ok_plain (and2 q))) (h1.run c hs (and1 q)) (h2.run c hs (and2 q)) h
theorem Ts.all {op:BoolOp} (h:TsL n f op Es ρ σ c σ₁):Ts n f (.bop op Es) ρ σ c σ₁:=Ts.mk fun c hs q=>ts_all (h.run c hs q)
theorem TsL.nil {op:BoolOp}:TsL n f op [] ρ σ (op == .And) σ:=.intro fun _ _ _=>all_nil
theorem TsL.go {op:BoolOp} (h1:Ts n f E ρ σ (op == .And) σ₁) (h2:TsL n f op Es ρ σ₁ c σ₂):TsL n f op (E :: Es) ρ σ c σ₂:=.intro fun c hs q=>all_cons (h1.run c hs (and1 q)) (by rw [if_pos rfl];exact h2.run c hs (and2 q))
theorem TsL.stop {op:BoolOp} (h1:Ts n f E ρ σ (op == .Or) σ₁):TsL n f op (E :: Es) ρ σ (op == .Or) σ₁:=.intro fun c hs q=>all_cons (h1.run c hs (and1 q)) (by cases op <;> exact⟨rfl,rfl⟩)
theorem TsL.and {d:Bool} (h1:Ts n f E ρ σ c σ) (h2:c=true→TsL n f .And Es ρ σ d σ):TsL n f .And (E :: Es) ρ σ (c && d) σ:=by
 cases c
 ·exact TsL.stop h1
 ·exact TsL.go h1 (h2 rfl)
theorem Asg.var {i:Nat}:Asg n f (.var i) v ρ σ (upd ρ i v) σ:=Asg.mk fun c hs q=>tg_var c.O (hs.loc (by decide) (dec1 q))
theorem Asg.cvar {i l:Nat}{u:Option AV} (h1:f i=some l) (h2:σ[l]? = some (.cell u)):Asg n f (.cvar i) v ρ σ ρ (σ.set l (.cell (some v))):=Asg.mk fun c hs q=>tg_cvar c.O (hs.loc (by decide) (dec1 q)) h1 h2
theorem Asg.attr {m:Str}{l d:Nat}{c:Addr}{fs:List (Str×AV)} (h:Ev n f E ρ σ (.loc l) σ₁) (e1:σ₁[l]? = some (.inst c d)) (e2:σ₁[d]? = some (.fields fs)) (hc:c=242∨c=311) (hn:fieldNames.contains m=true) (hl:fs.length<100):Asg n f (.attr E m) v ρ σ ρ (σ₁.set d (.fields (setF m v fs))):=Asg.mk fun c hs q=>
 tg_attr c.G (h.run c hs q) e1 e2 hc hn hl
theorem Asg.item (h1:Ev n f E₁ ρ σ a σ₁) (h2:Ev n f E₂ ρ σ₁ b σ₂) (e:PutR σ₂ a b v σ₃):Asg n f (.item E₁ E₂) v ρ σ ρ σ₃:=Asg.mk fun c hs q=>tg_item (h1.run c hs (and1 q)) (h2.run c hs (and2 q)) e
theorem Asgs.nil:Asgs n f [] [] ρ σ ρ σ:=⟨rfl,fun _ _ _=>tgs_nil⟩
theorem Asgs.cons (h1:Asg n f E v ρ σ ρ₁ σ₁) (h2:Asgs n f Es vs ρ₁ σ₁ ρ₂ σ₂):Asgs n f (E :: Es) (v :: vs) ρ σ ρ₂ σ₂:=⟨congrArg (·+1) h2.pre,fun c hs q=>tgs_cons (okg_star (and1 q)) (h1.run c hs (and1 q)) (h2.run c hs (and2 q))⟩
theorem Asgs.vars:∀ {xs:List Nat}{vs:List AV}{ρ:Rho},vs.length=xs.length→Asgs n f (xs.map .var) vs ρ σ (updL xs vs ρ) σ
 | [],[],_,_=>Asgs.nil
 | x :: xs,v :: vs,_,h=>Asgs.cons Asg.var (Asgs.vars (Nat.succ.inj h))
 | [],_ :: _,_,h=>nomatch h
 | _ :: _,[],_,h=>nomatch h
theorem Asg.tuple {l:Nat}{c:Value}{xs:List AV} (e:σ[l]? = some (.tup c xs)) (hc:c=.type "tuple"∨c=.ref 135) (h:Asgs n f Es xs ρ σ ρ' σ'):Asg n f (.tuple Es) (.loc l) ρ σ ρ' σ':=Asg.mk fun c hs q=>
 tg_tup c.r.handled c.G (okgs_star q) e hc (by rw [zip_len];exact h.pre) (h.run c hs q)
theorem AsgA.one (h:Asg n f E v ρ σ ρ₁ σ₁):AsgA n f [E] v ρ σ ρ₁ σ₁:=.intro fun c hs q=>tsg_one (okg_star (and1 q)) (h.run c hs (and1 q))
theorem AsgA.cons (h1:Asg n f E₁ v ρ σ ρ₁ σ₁) (h2:AsgA n f (E₂ :: Es) v ρ₁ σ₁ ρ₂ σ₂):AsgA n f (E₁ :: E₂ :: Es) v ρ σ ρ₂ σ₂:=.intro fun c hs q=>tsg_cons (okg_star (and1 q)) (okg_star (and1 (and2 q))) (h1.run c hs (and1 q)) (h2.run c hs (and2 q))
end
end Mine
end
section
open PySem PySem.W PyProof.Rows PySem.Calls PySem.SeqAt
set_option maxRecDepth 100000
set_option linter.unusedVariables false
set_option autoImplicit false
namespace Mine
theorem cx_mono {n:Nat}{w:World}{A:Around}{B B':Base}{env:Env} (c:Cx n w A B env) (G:Gd w B'):Cx n w A B' env:=⟨c.r,G,c.O⟩
theorem swap_of {β:Type}{m m':Sem β}{f:β→Bool}{b:β} (e:m=m') (h:isPure m' f=true) (hb:∀ a,f a=true→a=b):m=pure b:=
 let ⟨a,h1,h2⟩:=pure_e h
 e.trans (h1.trans (congrArg pure (hb a h2)))
theorem bnot_e (a:Bool) (h:(!a)=true):a=false:=by cases a;rfl;cases h
theorem none_e {β:Type} (a:Option β) (h:a.isNone=true):a=none:=Option.isNone_iff_eq_none.mp h
section
variable {n:Nat}{f:Nat→Option Nat}{ρ ρ' ρ₁ ρ₂:Rho}{σ σ' σ₁ σ₂ σ₃ σ₄:Sto}{v u a b:AV}{c:Bool}{E E₁ E₂ E₃:Mine.E}{Es:List Mine.E}{vs:List AV}{fl:Fl}{Bd Bd':List Mine.S}
theorem not_interactive {env:Env} (O:EnvOk env):interactive env=false:=by
 unfold interactive
 rw [O.kind];rfl
theorem ex_expr' {w:World}{A:Around}{B:Base}{env:Env}{e:Expr}{pos:Pos} (O:EnvOk env) (hs:swapsWith e none pos.line env=pure false) (h:EvOk w A B env f (eval e env) ρ σ v σ₁):ExOk w A B env f (exec (.Expr e pos) env) ρ σ .next ρ σ₁:=
 fun α os s Q S k=>wpAny_Expr_any (h α os s _ S fun α₁ x s₁ p1 S1 r1=>k α₁ _ s₁ p1 S1 .next) (not_interactive O) hs
theorem Ex.doc:Ex n f .doc ρ σ .next ρ σ:=Ex.mk fun c _=>ex_expr' c.O rfl ev_str
theorem Ex.expr (h:Ev n f E ρ σ v σ₁):Ex n f (.expr E) ρ σ .next ρ σ₁:=Ex.mk fun {w A B env k x} c q=>ex_expr' c.O (swap_of si_env (and1 q) bnot_e) (h.run c (ScOk.refl env) (and2 q))
theorem Ex.assign (h1:Ev n f E ρ σ v σ₁) (h2:AsgA n f Es v ρ σ₁ ρ₂ σ₂):Ex n f (.assign Es E) ρ σ .next ρ₂ σ₂:=Ex.mk fun {w A B env k x} c q=>
 ex_assign (swap_of so_env (and1 q) bnot_e) (swap_of sw_env (and1 (and2 q)) none_e) (h1.run c (ScOk.refl env) (and2 (and2 (and2 q)))) (h2.run c (ScOk.refl env) (and1 (and2 (and2 q))))
theorem Ex.set {i:Nat} (h:Ev n f E ρ σ v σ₁):Ex n f (.assign [.var i] E) ρ σ .next (upd ρ i v) σ₁:=Ex.assign h (AsgA.one Asg.var)
theorem Ex.tupF {xs:List Nat} (h:Evs n f Es ρ σ vs σ₁) (hl:vs.length≤900) (hx:vs.length=xs.length):Ex n f (.tupAssign false xs Es) ρ σ .next (updL xs vs ρ) σ₁:=Ex.mk fun {w A B env k x} c q=>by
 refine xE12 (pure_e (and1 q)) fun o h1 h2=>?_
 cases o with
 | some=>cases h2
 | none=>exact ex_tupFwd c.r.handled (sw_env.trans h1) (okgs_star (and1 (and2 q))) (h.run c (ScOk.refl env) (and2 (and2 q))) hl (by rw [zip_len,List.length_map];exact hx) ((Asgs.vars hx).run c (ScOk.refl env) (and1 (and2 q)))
theorem Ex.tupR {xs:List Nat} (h:Evs n f Es ρ σ vs σ₁) (hl:vs.length≤900) (hx:vs.length=xs.length):Ex n f (.tupAssign true xs Es) ρ σ .next (updL xs.reverse vs.reverse ρ) σ₁:=Ex.mk fun {w A B env k x} c q=>by
 refine xE12 (pure_e (and1 q)) fun o h1 h2=>?_
 cases o with
 | none=>cases h2
 | some ns=>exact ex_tupRev c.r.handled c.O (sw_env.trans h1) (dec1 h2) (h.run c (ScOk.refl env) (and2 (and2 q))) hl hx
theorem Ex.aug {i:Nat}{p q:Int} (h:ρ i=some (.int p)) (h1:Ev n f E ρ σ (.int q) σ₁):Ex n f (.aug i E) ρ σ .next (upd ρ i (.int (p+q))) σ₁:=Ex.mk fun {w A B env k x} c q=>ex_aug c.O (dec1 (and1 q)) h (h1.run c (ScOk.refl env) (and2 q))
theorem Ex.ite (h1:Ts n f E ρ σ c σ₁) (h2:Exs n f (bif c then Bd else Bd') ρ σ₁ fl ρ₂ σ₂):Ex n f (.ite E Bd Bd') ρ σ fl ρ₂ σ₂:=Ex.mk fun {w A B env k x} c' q=>ex_if (h1.run c' (ScOk.refl env) (and1 q)) (by
 cases c
 ·exact h2.run c' (and2 (and2 q))
 ·exact h2.run c' (and1 (and2 q)))
theorem Exs.nil:Exs n f [] ρ σ .next ρ σ:=.intro fun _ _=>exs_nil
theorem Exs.cons {S:Mine.S} (h1:Ex n f S ρ σ .next ρ₁ σ₁) (h2:Exs n f Bd ρ₁ σ₁ fl ρ₂ σ₂):Exs n f (S :: Bd) ρ σ fl ρ₂ σ₂:=.intro fun c q=>exs_cons (h1.run c (and1 q)) (h2.run c (and2 q))
theorem Exs.stop {S:Mine.S} (hf:fl≠.next) (h1:Ex n f S ρ σ fl ρ₁ σ₁):Exs n f (S :: Bd) ρ σ fl ρ₁ σ₁:=.intro fun c q=>exs_stop hf (h1.run c (and1 q))
theorem Exs.one {S:Mine.S} (h1:Ex n f S ρ σ .next ρ₁ σ₁):Exs n f [S] ρ σ .next ρ₁ σ₁:=Exs.cons h1 Exs.nil
theorem Ex.skip (h1:Ts n f E ρ σ false σ₁):Ex n f (.ite E Bd []) ρ σ .next ρ σ₁:=Ex.ite h1 Exs.nil
theorem Ex.ret (h:Ev n f E ρ σ v σ₁):Ex n f (.ret E) ρ σ (.ret v) ρ σ₁:=Ex.mk fun {w A B env k x} c q=>ex_ret (h.run c (ScOk.refl env) q)
theorem Ex.ret0:Ex n f .ret0 ρ σ (.ret .none) ρ σ:=Ex.mk fun _ _=>ex_ret_none
theorem Ex.cont:Ex n f .cont ρ σ .cont ρ σ:=Ex.mk fun _ _=>ex_cont
theorem Ex.brk:Ex n f .brk ρ σ .brk ρ σ:=Ex.mk fun _ _=>ex_brk
noncomputable abbrev While (n:Nat) (f:Nat→Option Nat) (E:Mine.E) (Bd:List Mine.S):Nat→Rho→Sto→Rho→Sto→Prop:=Wh (Ts n f E) (fun ρ σ=>Exs n f Bd ρ σ .next)
theorem Ex.while {m:Nat} (h:While n f E Bd m ρ σ ρ' σ'):Ex n f (.while E Bd) ρ σ .next ρ' σ':=Ex.mk fun {w A B env k x} c q=>
 ex_while (fun ρ σ σ' b e=>e.run c (ScOk.refl env) (and1 q)) (fun ρ σ ρ' σ' e=>e.run c (and2 q)) h
inductive Ti (n:Nat) (f:Nat→Option Nat) (E:Mine.E):List AV→Rho→Sto→Rho→Sto→Prop
 | one {v:AV}{ρ ρ':Rho}{σ σ':Sto}:Asg n f E v ρ σ ρ' σ'→Ti n f E [v] ρ σ ρ' σ'
theorem Ti.ok {w:World}{A:Around}{B:Base}{env:Env}{sc:Scope}{k:Nat}{x:Expr}{vs:List AV} (h:Ti n f E vs ρ σ ρ' σ') (c:Cx n w A B env) (hs:ScOk sc env) (q:(ok k).g sc E x=true):TiOk w A B env f (emE k E x) vs ρ σ ρ' σ':=by
 cases h with | one h=>exact ti_one (h.run c hs q)
noncomputable abbrev For (n:Nat) (f:Nat→Option Nat) (E:Mine.E) (Bd:List Mine.S) (again:Sto→Prop) (fl:Fl) (ρ':Rho) (σ':Sto):List (List AV)→Rho→Sto→Prop:=ForR (Ti n f E) (Exs n f Bd) again fl ρ' σ'
theorem Ex.for {xs:List (List AV)} (h1:Ev n f E₁ ρ σ v σ₁) (hx:ItemsR σ₁ v xs) (h:For n f E Bd (fun σ=>Same σ₁ v σ) fl ρ' σ' xs ρ σ₁):Ex n f (.for E E₁ Bd) ρ σ fl ρ' σ':=Ex.mk fun {w A B env k x} c q=>
 ex_for c.r.handled c.G (pl_fold (ok_plain (and1 (and2 q)))) (h1.run c (ScOk.refl env) (and1 (and2 q))) hx (fun B' ρ σ x ρ' σ' G e=>e.ok (cx_mono c G) (ScOk.refl env) (and1 q)) (fun B' ρ σ fl ρ' σ' G e=>e.run (cx_mono c G) (and2 (and2 q))) h
theorem Ex.forLock {d:Nat}{lk:LK}{xs:List (List AV)} (h1:Ev n f E₁ ρ σ v σ₁) (hx:LockR σ₁ v d (lk) (xs)) (h:For n f E Bd (fun σ=>Locked σ d) fl ρ' σ₂ xs ρ (σ₁.set d (.locked lk))) (hu:Unlock σ₂ d σ₃):Ex n f (.for E E₁ Bd) ρ σ fl ρ' σ₃:=Ex.mk fun {w A B env k x} c q=>
 ex_for_lock c.r.handled c.G (pl_fold (ok_plain (and1 (and2 q)))) (h1.run c (ScOk.refl env) (and1 (and2 q))) hx (fun B' ρ σ x ρ' σ' G e=>e.ok (cx_mono c G) (ScOk.refl env) (and1 q)) (fun B' ρ σ fl ρ' σ' G e=>e.run (cx_mono c G) (and2 (and2 q))) h hu
theorem Ex.forRange {p q:Int} (h1:Ev n f E₁ ρ σ (.int p) σ₁) (h2:Ev n f E₂ ρ σ₁ (.int q) σ₂) (hs:smallR p q=true) (h:For n f E Bd (fun _=>true=true) fl ρ' σ' ((List.range (q - p).toNat).map fun(i:Nat)=>[.int (p+(i:Int))]) ρ σ₂):Ex n f (.forRange E E₁ E₂ Bd) ρ σ fl ρ' σ':=Ex.mk fun {w A B env k x} c z=>
 let ⟨_,e⟩:=isGl_spec (and1 z)
 ex_forRange c.r.handled c.G (ok_star (and1 (and2 (and2 z)))) (ok_star (and1 (and2 (and2 (and2 z))))) (ev_glob c.O c.G (by decide) e (by decide)) (h1.run c (ScOk.refl env) (and1 (and2 (and2 z)))) (h2.run c (ScOk.refl env) (and1 (and2 (and2 (and2 z))))) hs
  (fun B' ρ σ x ρ' σ' G e=>e.ok (cx_mono c G) (ScOk.refl env) (and1 (and2 z))) (fun B' ρ σ fl ρ' σ' G e=>e.run (cx_mono c G) (and2 (and2 (and2 (and2 z))))) h
inductive Ti2 (n:Nat) (f:Nat→Option Nat) (Es:List Mine.E):List AV→Rho→Sto→Rho→Sto→Prop
 | two {v u:AV}{ρ ρ':Rho}{σ σ':Sto}:Asgs n f Es [v,u] ρ σ ρ' σ'→Ti2 n f Es [v,u] ρ σ ρ' σ'
theorem Ti2.ok {w:World}{A:Around}{B:Base}{env:Env}{sc:Scope}{k:Nat}{xs:List Expr}{p:Pos}{m:Nat}{vs:List AV} (h:Ti2 n f Es vs ρ σ ρ' σ') (c:Cx n w A B env) (hs:ScOk sc env) (q:allZ dE ((ok k).g sc) Es xs=true):TiOk w A B env f (.Tuple (zipE dE (emE k) Es xs) m p) vs ρ σ ρ' σ':=by
 cases h with | two h=>exact ti_two c.r.handled (okgs_star q) (by rw [zip_len,←h.pre];rfl) (h.run c hs q)
theorem Ex.forEnum {xs:List (List AV)} (h1:Ev n f E₁ ρ σ v σ₁) (hx:ItemsE σ₁ v xs) (h:ForR (Ti2 n f Es) (Exs n f Bd) (fun σ=>Same σ₁ v σ) fl ρ' σ' xs ρ σ₁):Ex n f (.forEnum Es E₁ Bd) ρ σ fl ρ' σ':=Ex.mk fun {w A B env k x} c z=>
 let ⟨_,e⟩:=isGl_spec (and1 z)
 ex_enum c.r.handled c.O c.G (ok_star (and1 (and2 (and2 z)))) (ev_glob c.O c.G (by decide) e (by decide)) (h1.run c (ScOk.refl env) (and1 (and2 (and2 z)))) hx (fun B' ρ σ x ρ' σ' G e=>e.ok (cx_mono c G) (ScOk.refl env) (and1 (and2 z))) (fun B' ρ σ fl ρ' σ' G e=>e.run (cx_mono c G) (and2 (and2 (and2 z)))) h
theorem Ex.delAll {x i d ls ld:Nat}{xs:List Str}{ks:List (Str×AV)} (r1:ρ i=some (.loc ls)) (r2:ρ d=some (.loc ld)) (e1:σ[ls]? = some (.set xs)) (e2:σ[ld]? = some (.dict (ks.map fun p=>(.str p.1,p.2))))
  (hall:∀ x∈xs,x∈ks.map (·.1)) (hlen:ks.length≤900) (hxl:xs.length≤900) (hnd:xs.Nodup):Ex n f (.delAll x i d) ρ σ .next (fun y=>if y=x then none else ρ y) (σ.set ld (.dict ((ks.filter fun p=>!xs.contains p.1).map fun p=>(.str p.1,p.2)))):=Ex.mk fun {w A B env k st} c z=>
 ex_delAll c.r.handled c.O (dec1 (and1 (and2 (and2 (and2 z))))) (dec1 (and1 (and2 (and2 (and2 (and2 z)))))) (dec1 (and1 (and2 (and2 (and2 (and2 (and2 z))))))) (dec1 (and2 (and2 (and2 (and2 (and2 (and2 z)))))))
  (okName_dbg (and1 z)).1 (okName_dbg (and1 (and2 z))).1 (okName_dbg (and1 (and2 (and2 z)))).1 r1 r2 e1 e2 hall hlen hxl hnd
inductive Ifs (n:Nat) (f:Nat→Option Nat):List Mine.E→Rho→Sto→Bool→Sto→Prop
 | no {ρ:Rho}{σ:Sto}:Ifs n f [] ρ σ true σ
 | yes {E:Mine.E}{ρ:Rho}{σ σ':Sto}{c:Bool}:Ts n f E ρ σ c σ'→Ifs n f [E] ρ σ c σ'
theorem Ifs.ok {w:World}{A:Around}{B:Base}{env:Env}{sc:Scope}{k:Nat}{xs:List Expr} (h:Ifs n f Es ρ σ c σ') (cx:Cx n w A B env) (hs:ScOk sc env) (q:allZ dE ((Mine.ok k).e sc) Es xs=true):TsOk w A B env f (testsOf (zipE dE (emE k) Es xs) env true) ρ σ c σ':=by
 cases h with
 | no=>exact tests_nil
 | yes h=>exact tests_one (h.run cx hs (and1 q))
noncomputable def Em (n:Nat) (f:Nat→Option Nat) (acc:Nat) (Elt:Mine.E):List Mine.E→Rho→Sto→Rho→Sto→Prop
 | []=>LeafR (Ev n f Elt) acc
 | .gen T It Is :: Gs=>NestR (Ev n f It) (Ti n f T) (Ifs n f Is) (Em n f acc Elt Gs)
 | _=>fun _ _ _ _=>False
noncomputable abbrev Gen (n:Nat) (f:Nat→Option Nat) (acc:Nat) (Elt T:Mine.E) (Is Gs:List Mine.E) (again:Sto→Prop) (ρ':Rho) (σ':Sto):List (List AV)→Rho→Sto→Prop:=GenR (Ti n f T) (Ifs n f Is) (Em n f acc Elt Gs) again ρ' σ'
theorem em_ok {w:World}{A:Around}{env:Env}{B:Base}{sc2:Scope}{k acc:Nat}{D:Addr}{Elt:Mine.E}{eltE:Expr}{gens:List Comprehension}{pos:Pos} (c:Cx n w A B env) (hs:ScOk sc2 env) (he:(ok k).e sc2 Elt eltE=true) :
  ∀ {Gs:List Mine.E}{d:Nat}{gs:List Comprehension},okGens (ok k) sc2 sc2 Gs gs=true→gens.drop d=zipE dC (zipC (emE k)) Gs gs→EmOk w A env f acc D (emitAt (.ListComp (emE k Elt eltE) gens sc2 pos) (emE k Elt eltE) gens d (.ref D) env) (Em n f acc Elt Gs):=by
 intro Gs
 induction Gs with
 | nil=>
  intro d gs h hd
  exact em_leaf (ev:=Ev n f Elt) (by rw [←List.head?_drop,hd];rfl) fun B ρ σ v σ' G e=>e.run (cx_mono c G) hs he
 | cons G Gs ih=>
  intro d gs h hd
  cases G with
  | gen T It Is=>
   show EmOk _ _ _ _ _ _ _ (NestR (Ev n f It) (Ti n f T) (Ifs n f Is) (Em n f acc Elt Gs))
   exact em_nest c.r.handled (by rw [←List.head?_drop,hd];rfl) (pl_fold (ok_plain (and1 (and2 h)))) (fun B ρ σ v σ' G e=>e.run (cx_mono c G) hs (and1 (and2 h))) (fun B' ρ σ x ρ' σ' G e=>e.ok (cx_mono c G) hs (and1 h))
    (fun B' ρ σ σ' b G e=>e.ok (cx_mono c G) hs (and1 (and2 (and2 h)))) (ih (d:=d+1) (gs:=gs.tail) (and2 (and2 (and2 h))) (by rw [←List.tail_drop,hd];rfl))
  | _=>exact absurd h Bool.false_ne_true
end
end Mine
end
section
open PySem PySem.W PyProof.Rows PySem.Calls PySem.SeqAt
set_option maxRecDepth 100000
set_option linter.unusedVariables false
set_option autoImplicit false
namespace Mine
theorem idx_map {g:Str×NameKind→Str×NameKind} (hg:∀ p,(g p).1=p.1){x:Str}:∀ {names:List (Str×NameKind)}{m i:Nat}{k:NameKind},idx.go x m names=some (i,k)→idx.go x m (names.map g)=some (i,(g (x,k)).2)
 | [],_,_,_,h=>nomatch h
 | p :: r,m,i,k,h=>by
  show(if (g p).1 == x then some (m,(g p).2)else idx.go x (m+1) (r.map g))=_
  have h:(if p.1 == x then some (m,p.2)else idx.go x (m+1) r)=some (i,k):=h
  rw [hg p]
  by_cases q:(p.1 == x)=true
  ·rw [if_pos q]at h ⊢
   have e:=Prod.mk.inj (Option.some.inj h)
   rw [←eq_of_beq q,←e.1,←e.2]
  ·rw [if_neg q]at h ⊢
   exact idx_map hg h
theorem relabel_sc {scope:Scope}{env cenv:Env} (h:cenv.scope=relabel scope env):ScOk scope cenv:=by
 intro x i k e
 rw [h]
 refine⟨_,idx_map (g:=fun(p:Str×NameKind)=>match p with | (n,k)=>if (k == .free && env.scope.kind == .function && env.kindOf n == some .cell)then (n,.cell)else (n,k)) (fun p=>by obtain⟨a,b⟩:=p;dsimp only;split <;> rfl) e,?_⟩
 dsimp only
 split
 ·rename_i hc
  exact .inr ⟨eq_of_beq (and1 (and1 hc)),rfl⟩
 ·exact .inl rfl
section
variable {n:Nat}{f:Nat→Option Nat}{ρ ρ' ρ₁ ρ₂ ρe:Rho}{σ σ' σ₁ σ₂ σ₃ σ₄:Sto}{v u a b r:AV}{c:Bool}{E E₁ E₂ E₃ Elt T It:Mine.E}{Es Is Gs:List Mine.E}{vs:List AV}{fl:Fl}{Bd Bd':List Mine.S}{xs:List (List AV)}{cap:List (Nat×Nat)}
theorem comp_in {w:World}{A:Around}{B:Base}{env:Env}{sc sc2:Scope}{k acc:Nat}{eltE:Expr}{gs:List Comprehension}{pos:Pos}{f2:Nat→Option Nat} (c:Cx n w A B env) (h:okGens (ok k) sc2 sc (.gen T It Is :: Gs) gs=true) (he:(ok k).e sc2 Elt eltE=true) (cenv:Env) (O:EnvOk cenv) (hc:cenv.scope=relabel sc2 env) :
  InOk w A sc2 env f2 acc (emE k Elt eltE) (zipE dC (zipC (emE k)) (.gen T It Is :: Gs) gs) pos (emE k T (gs.headD dC).target) (zipE dE (emE k) Is (gs.headD dC).ifs) (Ti n f2 T) (Ifs n f2 Is) (Em n f2 acc Elt Gs) cenv:=by
 have hs:=relabel_sc hc
 have c':∀ {B'},Gd w B'→Cx n w A B' cenv:=fun G=>⟨c.r,G,O⟩
 exact⟨fun B' ρ σ x ρ' σ' G e=>e.ok (c' G) hs (and1 h),fun B' ρ σ σ' b G e=>e.ok (c' G) hs (and1 (and2 (and2 h))),fun D=>em_ok (c' c.G) hs he (gs:=gs.tail) (and2 (and2 (and2 h))) rfl⟩
theorem Ev.comp (h1:Ev n f It ρ σ v σ₁) (hx:ItemsR σ₁ v xs) (hcap:cap.all (fun p=>(f p.2).isSome)=true) (h:Gen n (fun i=>(cap.lookup i).bind f) σ₁.length Elt T Is Gs (fun σ=>Same σ₁ v σ) ρe σ₂ xs (fun _=>Option.none) (σ₁++[.list []])) :
  Ev n f (.comp cap Elt (.gen T It Is :: Gs)) ρ σ (.loc σ₁.length) σ₂:=Ev.mk fun {w A B env sc k x} c hs q=>by
 obtain rfl:=dec1 (and1 (and2 q))
 have g:=and1 (and2 (and2 q))
 exact ev_comp c.r.handled c.O c.G hs (and1 q) hcap (pl_fold (ok_plain (and1 (and2 g)))) (h1.run c hs (and1 (and2 g))) hx (comp_in c g (and2 (and2 (and2 q)))) h
theorem Ex.assignC {i:Nat} (h1:Ev n f It ρ σ v σ₁) (hx:ItemsR σ₁ v xs) (hcap:cap.all (fun p=>(f p.2).isSome)=true) (h:Gen n (fun i=>(cap.lookup i).bind f) σ₁.length Elt T Is Gs (fun σ=>Same σ₁ v σ) ρe σ₂ xs (fun _=>none) (σ₁++[.list []])) :
  Ex n f (.assignC i (.comp cap Elt (.gen T It Is :: Gs))) ρ σ .next (upd ρ i (.loc σ₁.length)) σ₂:=Ex.mk fun {w A B env k x} c z=>by
 have q:=and2 (and2 z)
 have hs:=ScOk.refl env
 obtain rfl:=dec1 (and1 (and2 q))
 have g:=and1 (and2 (and2 q))
 exact ex_comp c.r.handled c.O c.G hs (and1 q) hcap (pl_fold (ok_plain (and1 (and2 g)))) (swap_of (b:=true) si_env (and1 z) (fun _ e=>e)) (h1.run c hs (and1 (and2 g))) hx (comp_in c g (and2 (and2 (and2 q)))) h fun B' G=>tg_var c.O (dec1 (and1 (and2 z)))
theorem keep_kk {w:World}{v:Value} (h:keepIn (KK w.params) v=true):KeepOk w (.cst v) σ:=fun B α os s gv G S r=>by
 rw [r.cst_of]
 exact keeps_K h _ (G.ks S)
theorem keep_ty {w:World}{id:String}:KeepOk w (.cst (.type id)) σ:=fun B α os s gv G S r=>by rw [r.cst_of];exact keeps_type
theorem keep_bi {w:World}{id:String}:KeepOk w (.cst (.builtin id)) σ:=fun B α os s gv G S r=>by rw [r.cst_of];exact keeps_machine
theorem keep_bm {w:World}{l m:Nat}{id:String} (q:σ[l]? = some (.bm id m)):KeepOk w (.loc l) σ:=fun B α os s gv G S r=>by
 refine xE12 r.ref_of fun a q1_ ra=>?_
 subst q1_
 refine xE13 (S.at ra q) fun o1 g1 q2_ _=>?_
 refine xE12 q2_ fun b hb q7_=>?_
 subst q7_
 exact⟨.machine,.inr (.inl rfl),(Looks.ld g1).andThen .now⟩
theorem keep_clos {w:World}{l k:Nat}{cs:List (Nat×Nat)} (q:σ[l]? = some (.clos cs k)):KeepOk w (.loc l) σ:=fun B α os s gv G S r=>by
 refine xE12 r.ref_of fun a q3_ ra=>?_
 subst q3_
 refine xE13 (S.at ra q) fun o1 g1 q4_ _=>?_
 refine xE23 q4_ fun c cl hc q6_ _=>?_
 refine xE21 q6_ fun ct pm q8_=>?_
 subst q8_
 exact⟨.frame,.inl rfl,(Looks.ld g1).andThen .now⟩
theorem Call.len {l:Nat}{xs:List AV} (he:σ[l]? = some (.list xs)) (hz:xs.length≤900):Call n (.cst (.builtin "len")) [.loc l] σ (.int xs.length) σ:=.intro fun _=>⟨len_ok he hz,keep_bi⟩
theorem Call.lenM {l:Nat}{xs:List AV} (he:σ[l]? = some (.tup (.ref 135) xs)) (hz:xs.length≤900):Call n (.cst (.builtin "len")) [.loc l] σ (.int xs.length) σ:=.intro fun _=>⟨len_match_ok he hz,keep_bi⟩
theorem Call.lenS {x:Str} (hz:x.length≤900):Call n (.cst (.builtin "len")) [.str x] σ (.int x.length) σ:=.intro fun _=>⟨len_str_ok hz,keep_bi⟩
theorem Call.range {b:Int}:Call n (.cst (.type "range")) [.int b] σ (.loc σ.length) (σ++[.range 0 b]):=.intro fun _=>⟨range1_ok,keep_ty⟩
theorem Call.set0:Call n (.cst (.type "set")) [] σ (.loc σ.length) (σ++[.set []]):=.intro fun _=>⟨set0_ok,keep_ty⟩
theorem Call.set1 {l:Nat}{q:Str} (he:σ[l]? = some (.list [.str q])):Call n (.cst (.type "set")) [.loc l] σ (.loc σ.length) (σ++[.set [q]]):=.intro fun r=>⟨set1_ok he r.handled,keep_ty⟩
theorem Call.bget {l m:Nat}{es:List (AV×AV)}{k d:AV} (h1:σ[l]? = some (.bm "dict.get" m)) (h2:σ[m]? = some (.dict es)) (hg:goodKey k es=true) (hz:es.length<900):Call n (.loc l) [k,d] σ ((es.lookup k).getD d) σ:=.intro fun _=>⟨bm_get_ok h1 h2 hg hz rfl,keep_bm h1⟩
theorem Call.bcon {l m:Nat}{ys:List Str}{x:Str} (h1:σ[l]? = some (.bm "set.__contains__" m)) (h2:σ[m]? = some (.set ys)):Call n (.loc l) [.str x] σ (.bool (ys.contains x)) σ:=.intro fun _=>⟨bm_con_ok h1 h2,keep_bm h1⟩
noncomputable abbrev Run (n:Nat) (F:Fun) (da:List AV):List AV→Sto→AV→Sto→Prop:=RunR (fun f ρ σ fl ρ' σ'=>Exs n f F.body ρ σ fl ρ' σ') F da
theorem code_fn {w:World}{A:Around}{aa:Addr}{F:Fun}{fd:FuncData}{bd:List Stmt}{ns:List Str}{ds:List Value}{da:List AV} (X:FunOk w.params aa F fd bd ns ds da) (h1:A.depth<recursionLimit) (h2:∀ env,Room (A.deeper env) (n+1)) (h:Run n F da vs σ v σ'):CodeOk w A (.cst (.ref aa)) vs σ v σ':=
 fun_ok X h1 (fun B env f ρ σ fl ρ' σ' G O hs _ _ e=>X.emb ▸ e.run (xs:=bd) (k:=40) ⟨h2 env,G,O⟩ (hs ▸ X.ok)) h
theorem Room.fn {A:Around} (r:Room A (n+1)):A.depth<recursionLimit∧∀ env,Room (A.deeper env) n:=by
 refine⟨by have:=r.depth;unfold recursionLimit;lia,fun env=>r.le rfl ?_ ?_ (Nat.le_refl _)⟩
 ·show A.depth+1≤_;lia
 ·show A.units+_≤_;lia
theorem Room.under {A:Around} (r:Room A (n+1)) (C:Addr) (xs:List Value):(A.under (.builtin "type.__call__" ⟨.ref C :: xs,[]⟩)).depth<recursionLimit∧∀ env,Room ((A.under (.builtin "type.__call__" ⟨.ref C :: xs,[]⟩)).deeper env) n:=by
 refine⟨?_,fun env=>r.le rfl ?_ ?_ (Nat.le_refl _)⟩
 ·have:=r.depth
  show A.depth+_<_
  rw [weight_cls];unfold recursionLimit;lia
 ·show A.depth+_+1≤_
  rw [weight_cls];lia
 ·show A.units+_+_≤_
  rw [units_cls];lia
theorem Call.fn {aa:Addr}{F:Fun}{fd:Params→FuncData}{bd:List Stmt}{ns:List Str}{ds:List Value}{da:List AV} (X:∀ P,FunOk P aa F (fd P) bd ns ds da) (h:Run n F da vs σ v σ'):Call (n+1) (.cst (.ref aa)) vs σ v σ':=
 .intro fun {w A} r=>⟨(code_fn (X _) r.fn.1 r.fn.2 h).call,keep_kk (keep_fn _ (X _))⟩
theorem Call.cls {C aa:Addr}{F:Fun}{fd:Params→FuncData}{bd:List Stmt}{ns:List Str}{ds:List Value}{da:List AV} (M:∀ P,MakeAt P C aa) (hk:∀ P,keepIn (KK P) (.ref C)=true) (X:∀ P,FunOk P aa F (fd P) bd ns ds da) (h:Run n F da (.loc (σ.length+1) :: vs) (σ++[.fields [],.inst C σ.length]) .none σ') :
  Call (n+1) (.cst (.ref C)) vs σ (.loc (σ.length+1)) σ':=.intro fun {w A} r=>⟨cls_ok M fun xs=>code_fn (X _) (r.under C xs).1 (r.under C xs).2 h,keep_kk (hk _)⟩
theorem Call.match (hv:vs≠[]) (hm:IsM σ' r) (h:Run n G82 [] (.cst (.ref 135) :: vs) σ r σ'):Call (n+1) (.cst (.ref 135)) vs σ r σ':=
 .intro fun {w A} q=>⟨match_ok hv hm fun xs=>code_fn (f82 _) (q.under 135 xs).1 (q.under 135 xs).2 h,keep_kk (by kernel_rfl)⟩
theorem Call.asker (ht:σ[(1:Nat)]? = some (.tab true)):Call (n+1) (.cst (.ref 322)) [r,a] σ (.loc (σ.length+3)) (σ.set 1 (.tab false)++[.cell (some r),.cell (some a),.code,.clos [(2,σ.length),(1,σ.length+1)] (σ.length+2)]):=
 .intro fun {w A} q=>⟨(clos_make q.fn.1 ht).call,keep_kk (by kernel_rfl)⟩
theorem lam_ok:(ok 40).e lamSc gLam lamBody=true:=by kernel_rfl
theorem lam_em:emE 40 gLam lamBody=lamBody:=by kernel_rfl
theorem Call.clos {l k:Nat}{cs:List (Nat×Nat)} (he:σ[l]? = some (.clos cs k)) (hk:σ[k]? = some .code) (h:Ev n (fun i=>cs.lookup i) gLam (fun x=>if x=0 then some v else none) σ u σ'):Call (n+1) (.loc l) [v] σ u σ':=
 .intro fun {w A} q=>⟨(clos_call (evr:=fun f ρ σ v σ'=>Ev n f gLam ρ σ v σ') q.fn.1 he hk (fun B env f ρ σ v σ' G O hs e=>lam_em ▸ e.run ⟨q.fn.2 env,G,O⟩ (hs ▸ ScOk.refl env) lam_ok) h).call,keep_clos he⟩
theorem Ev.mkAll {l:Nat}{xs us:List AV} (h1:Ev (n+1) f E ρ σ (.loc l) σ₁) (he:σ₁[l]? = some (.list xs)) (hz:xs.length≤900) (h:MapR (fun v σ u σ'=>Run n G89 [] [.cst (.ref 135),v] σ u σ') (fun σ=>Same σ₁ (.loc l) σ) σ₂ xs us σ₁) :
  Ev (n+1) f (.mkAll E) ρ σ (.loc σ₂.length) (σ₂++[.list us]):=Ev.mk fun {w A B env sc k x} c hs q=>by
 refine byG fun G5 k5=>?_
 refine xE11 (isGl_spec (and1 q)) fun _ i1=>?_
 refine xE11 (isGl_spec (and1 (and2 q))) fun _ i2=>?_
 refine xE11 (isGl_spec (and1 (and2 (and2 q)))) fun _ i3=>?_
 refine k5 ?_
 have h':=and2 (and2 (and2 q))
 refine ev_mkAll c.r.handled (ok_star h') c.G (fun B' G' σ=>ev_glob c.O G' (by decide) (hs.loc (by decide) i1) (by decide)) (fun B' G' σ=>ev_glob c.O G' (by decide) (hs.loc (by decide) i2) (by decide)) (fun B' G' σ=>ev_glob c.O G' (by decide) (hs.loc (by decide) i3) (by decide))
  (fun B' G'=>h1.run (cx_mono c G') hs h') he hz (fun v u σ σ' e=>code_fn (f89 _) ?_ (fun env=>c.r.le rfl ?_ ?_ (Nat.le_refl _)) e) h
 ·have:=c.r.depth
  show A.depth<_
  unfold recursionLimit;lia
 ·show A.depth+1≤_;lia
 ·show A.units+_+_+_+_≤_;lia
end
end Mine
end
section
open PySem
set_option maxRecDepth 100000
set_option linter.unusedVariables false
set_option autoImplicit false
namespace Mine
noncomputable def env (l:List (Option AV)):Rho:=fun x=>l.getD x none
theorem upd_env {l:List (Option AV)}{i:Nat}{v:AV} (h:Nat.blt i l.length=true):upd (env l) i v=env (l.set i (some v)):=by
 funext x
 show(if x=i then some v else l.getD x none)=(l.set i (some v)).getD x none
 have h:=Nat.le_of_ble_eq_true h
 by_cases q:x=i
 ·subst q;simp [show x<l.length from h]
 ·simp [q,List.getElem?_set_ne (Ne.symm q),List.getD]
noncomputable def setL:List Nat→List AV→List (Option AV)→List (Option AV)
 | x :: xs,v :: vs,l=>setL xs vs (l.set x (some v))
 | _,_,l=>l
theorem updL_env:∀ {xs:List Nat}{vs:List AV}{l:List (Option AV)},xs.all (fun i=>Nat.blt i l.length)=true→updL xs vs (env l)=env (setL xs vs l)
 | [],_,_,_=>rfl
 | _ :: _,[],_,_=>rfl
 | x :: xs,v :: vs,l,h=>by
  show updL xs vs (upd (env l) x v)=env (setL xs vs (l.set x (some v)))
  rw [upd_env (and1 h)]
  exact updL_env (by rw [List.length_set];exact and2 h)
noncomputable def pbin (op:Operator) (a b:AV):Option AV:=(asInt a).bind fun i=>(asInt b).bind fun j=>match op with
 | .Add=>some (.int (i+j))
 | .Sub=>some (.int (i - j))
 | _=>none
noncomputable def pv:Nat→E→Rho→Option AV
 | 0,_,_=>none
 | k+1,e,ρ=>match e with
  | .var i=>ρ i
  | .int i=>some (.int i)
  | .none=>some .none
  | .str s=>some (.str s)
  | .glob v=>some v
  | .bin op l r=>(pv k l ρ).bind fun a=>(pv k r ρ).bind fun b=>pbin op a b
  | .neg e=>(pv k e ρ).bind fun a=>(asInt a).bind fun i=>some (.int (-i))
  | _=>none
theorem pbin_ok {op:Operator}{a b v:AV}{σ:Sto} (h:pbin op a b=some v):binop op a b σ=some (v,σ):=
 int_e h fun i p h=>int_e h fun j q h=>by
  rw [p,q]
  cases op <;> first | exact nn h | exact congrArg (Option.map fun v=>(v,σ)) h
section
variable {n:Nat}{f:Nat→Option Nat}{ρ ρ' ρ₁ ρ₂:Rho}{σ σ' σ₁ σ₂:Sto}{l:List (Option AV)}{v:AV}{vs:List AV}{E:Mine.E}{Es:List Mine.E}{Bd:List Mine.S}{fl:Fl}
theorem pv_ok (k:Nat):∀ {E:Mine.E}{v:AV},pv k E ρ=some v→Ev n f E ρ σ v σ:=by
 induction k with
 | zero=>intro E v h;exact nn h
 | succ k ih=>
  intro E v h
  cases E with
  | var i=>exact .var h
  | int i=>cases h;exact .int
  | none=>cases h;exact .none
  | str s=>cases h;exact .str
  | glob v=>cases h;exact .glob
  | bin op l r=>
   refine xE12 (bnd h) fun a h1 h=>?_
   refine xE12 (bnd h) fun b h2 h=>?_
   exact .bin (ih h1) (ih h2) (pbin_ok h)
  | neg e=>
   refine xE12 (bnd h) fun a h1 h=>?_
   exact int_e h fun i q h=>by cases h;exact .neg (q ▸ ih h1)
  | _=>exact nn h
theorem Ev.p (h:pv 3 E ρ=some v):Ev n f E ρ σ v σ:=pv_ok 3 h
theorem Ex.setE {i:Nat} (h:Ev n f E (env l) σ v σ₁) (hi:Nat.blt i l.length=true):Ex n f (.assign [.var i] E) (env l) σ .next (env (l.set i (some v))) σ₁:=upd_env hi ▸ Ex.set h
theorem Asg.varE {i:Nat} (hi:Nat.blt i l.length=true):Asg n f (.var i) v (env l) σ (env (l.set i (some v))) σ:=upd_env hi ▸ Asg.var
theorem Asgs.varsE {xs:List Nat} (hl:vs.length=xs.length) (h:xs.all (fun i=>Nat.blt i l.length)=true):Asgs n f (xs.map .var) vs (env l) σ (env (setL xs vs l)) σ:=updL_env h ▸ Asgs.vars hl
theorem Ex.tupRE {xs:List Nat} (h:Evs n f Es (env l) σ vs σ₁) (hl:Nat.ble vs.length 900=true) (hx:vs.length=xs.length) (hi:xs.reverse.all (fun i=>Nat.blt i l.length)=true):Ex n f (.tupAssign true xs Es) (env l) σ .next (env (setL xs.reverse vs.reverse l)) σ₁:=
 updL_env hi ▸ Ex.tupR h (Nat.le_of_ble_eq_true hl) hx
theorem Ex.tupFE {xs:List Nat} (h:Evs n f Es (env l) σ vs σ₁) (hl:Nat.ble vs.length 900=true) (hx:vs.length=xs.length) (hi:xs.all (fun i=>Nat.blt i l.length)=true):Ex n f (.tupAssign false xs Es) (env l) σ .next (env (setL xs vs l)) σ₁:=
 updL_env hi ▸ Ex.tupF h (Nat.le_of_ble_eq_true hl) hx
theorem args_env {as:List AV} (k:Nat):(fun x:Nat=>if ([]:List Nat).contains x then none else as[x]?)=env (as.map some++List.replicate k none):=by
 funext x
 show as[x]? = (as.map some++List.replicate k none).getD x none
 rw [List.getD_eq_getElem?_getD]
 rcases Nat.lt_or_ge x as.length with h | h
 ·rw [List.getElem?_append_left (by rw [List.length_map];exact h),List.getElem?_map,List.getElem?_eq_getElem h];rfl
 ·rw [List.getElem?_append_right (by rw [List.length_map];exact h),List.getElem?_eq_none h,List.getElem?_replicate]
  split <;> rfl
theorem run0 {F:Fun}{da:List AV} (k:Nat) (hc:F.cells=[]) (hl:vs.length=F.arity) (hf:fl=.ret v∨(fl=.next∧v=.none)) (h:Exs n (fun _=>none) F.body (env ((vs++da).map some++List.replicate k none)) σ fl ρ' σ'):Run n F da vs σ v σ':=
 ⟨hl,fl,ρ',by rw [hc];exact(args_env k).symm ▸ h,hf⟩
end
theorem app_l {σ τ:Sto}{l:Nat} (h:l<σ.length):(σ++τ)[l]? = σ[l]?:=List.getElem?_append_left h
theorem lt_of {σ:Sto}{l:Nat}{a:AO} (h:σ[l]? = some a):l<σ.length:=(List.getElem?_eq_some_iff.mp h).1
theorem app_z {σ τ:Sto}:(σ++τ)[σ.length]? = τ[0]?:=by rw [List.getElem?_append_right (Nat.le_refl _),Nat.sub_self]
theorem app_k {σ τ:Sto}{k:Nat}:(σ++τ)[σ.length+k]? = τ[k]?:=by rw [List.getElem?_append_right (Nat.le_add_right _ _),Nat.add_sub_cancel_left]
noncomputable def Strs (σ:Sto) (l:Nat) (xs:List Str):Prop:=σ[l]? = some (.list (xs.map .str))∧xs.length≤900
theorem at_nat {xs:List AV}{i:Nat}{v:AV} (hi:xs[i]? = some v) (hz:xs.length≤900):at_ xs (i:Int)=some v:=(if_pos hz).trans ((if_pos (Int.natCast_nonneg i)).trans hi)
theorem item_strs {σ:Sto}{l:Nat}{xs:List Str} (h:Strs σ l xs){i:Nat}{s:Str} (hi:xs[i]? = some s):ItemR σ (.loc l) (.int (i:Int)) (.str s):=
 .list h.1 (at_nat (by rw [List.getElem?_map,hi];rfl) (by rw [List.length_map];exact h.2))
theorem has_str {xs:List Str}{s:Str}:(xs.map AV.str).contains (.str s)=xs.contains s:=by
 rw [Bool.eq_iff_iff];simp
theorem allStr_map {xs:List Str}:allStr (xs.map .str)=true:=by
 induction xs with
 | nil=>rfl
 | cons x xs ih=>exact ih
theorem in_strs {σ:Sto}{l:Nat}{xs:List Str} (h:Strs σ l xs){s:Str}:cmpop .In (.str s) (.loc l) σ=some (xs.contains s):=by
 show(σ[l]?).bind _=_
 rw [h.1]
 exact(if_pos allStr_map).trans (congrArg some has_str)
theorem notin_strs {σ:Sto}{l:Nat}{xs:List Str} (h:Strs σ l xs){s:Str}:cmpop .NotIn (.str s) (.loc l) σ=some (!xs.contains s):=congrArg (Option.map (!·)) (in_strs h)
theorem lt_ints {σ:Sto}{i j:Nat}:cmpop .Lt (.int (i:Int)) (.int (j:Int)) σ=some (decide (i<j)):=congrArg some (decide_eq_decide.mpr Int.ofNat_lt)
theorem gt_ints {σ:Sto}{i j:Nat}:cmpop .Gt (.int (i:Int)) (.int (j:Int)) σ=some (decide (j<i)):=congrArg some (decide_eq_decide.mpr Int.ofNat_lt)
theorem ge_ints {σ:Sto}{i j:Nat}:cmpop .GtE (.int (i:Int)) (.int (j:Int)) σ=some (decide (j≤i)):=congrArg some (decide_eq_decide.mpr Int.ofNat_le)
theorem eq_ints {σ:Sto}{i j:Nat}:cmpop .Eq (.int (i:Int)) (.int (j:Int)) σ=some (decide (i=j)):=congrArg some (decide_eq_decide.mpr Int.ofNat_inj)
section
variable {n:Nat}{f:Nat→Option Nat}{ρ:Rho}{σ:Sto}{one two junk:List Str}{o t jk i j x y:Nat}{E₁ E₂ E₃ E₄:Mine.E}{u v:Str}
theorem get_some {β:Type}{xs:List β}{i:Nat} (h:i<xs.length):∃ u,xs[i]? = some u:=⟨_,List.getElem?_eq_getElem h⟩
theorem Ev.itemS (H:Strs σ o one) (h1:Ev n f E₁ ρ σ (.loc o) σ) (h2:Ev n f E₂ ρ σ (.int (i:Int)) σ) (hi:one[i]? = some u):Ev n f (.item E₁ E₂) ρ σ (.str u) σ:=.item h1 h2 (item_strs H hi)
theorem Ts.ltI (h1:Ev n f E₁ ρ σ (.int (i:Int)) σ) (h2:Ev n f E₂ ρ σ (.int (j:Int)) σ):Ts n f (.cmp .Lt E₁ E₂) ρ σ (decide (i<j)) σ:=.cmp h1 h2 lt_ints
theorem Ts.gtI (h1:Ev n f E₁ ρ σ (.int (i:Int)) σ) (h2:Ev n f E₂ ρ σ (.int (j:Int)) σ):Ts n f (.cmp .Gt E₁ E₂) ρ σ (decide (j<i)) σ:=.cmp h1 h2 gt_ints
theorem Ts.eqI (h1:Ev n f E₁ ρ σ (.int (i:Int)) σ) (h2:Ev n f E₂ ρ σ (.int (j:Int)) σ):Ts n f (.cmp .Eq E₁ E₂) ρ σ (decide (i=j)) σ:=.cmp h1 h2 eq_ints
theorem Ts.eqS (Ho:Strs σ o one) (Ht:Strs σ t two) (h1:Ev n f E₁ ρ σ (.loc o) σ) (h2:Ev n f E₂ ρ σ (.int (i:Int)) σ) (h3:Ev n f E₃ ρ σ (.loc t) σ) (h4:Ev n f E₄ ρ σ (.int (j:Int)) σ) (hi:i<one.length) (hj:j<two.length) :
  Ts n f (.cmp .Eq (.item E₁ E₂) (.item E₃ E₄)) ρ σ (decide (one[i]? = two[j]?)) σ:=by
 refine xE11 (get_some hi) fun u hu=>?_
 refine xE11 (get_some hj) fun v hv=>?_
 rw [hu,hv]
 exact .cmp (.itemS Ho h1 h2 hu) (.itemS Ht h3 h4 hv) (congrArg some (decide_eq_decide.mpr Option.some_inj.symm))
theorem Ts.inS (Ht:Strs σ t two) (Hj:Strs σ jk junk) (h1:Ev n f E₁ ρ σ (.loc t) σ) (h2:Ev n f E₂ ρ σ (.int (j:Int)) σ) (h3:Ev n f E₃ ρ σ (.loc jk) σ) (hj:j<two.length):Ts n f (.cmp .In (.item E₁ E₂) E₃) ρ σ (two[j]?.all fun v=>junk.contains v) σ:=by
 refine xE11 (get_some hj) fun v hv=>?_
 rw [hv]
 exact .cmp (.itemS Ht h1 h2 hv) h3 (in_strs Hj)
theorem Ts.notinS (Ht:Strs σ t two) (Hj:Strs σ jk junk) (h1:Ev n f E₁ ρ σ (.loc t) σ) (h2:Ev n f E₂ ρ σ (.int (j:Int)) σ) (h3:Ev n f E₃ ρ σ (.loc jk) σ) (hj:j<two.length):Ts n f (.cmp .NotIn (.item E₁ E₂) E₃) ρ σ (two[j]?.all fun v=>!junk.contains v) σ:=by
 refine xE11 (get_some hj) fun v hv=>?_
 rw [hv]
 exact .cmp (.itemS Ht h1 h2 hv) h3 (notin_strs Hj)
theorem Ts.and4 {p q r:Prop} [Decidable p] [Decidable q] [Decidable r]{c:Bool} (h1:Ts n f E₁ ρ σ (decide p) σ) (h2:p→Ts n f E₂ ρ σ (decide q) σ) (h3:p→q→Ts n f E₃ ρ σ (decide r) σ) (h4:p→q→r→Ts n f E₄ ρ σ c σ) :
  Ts n f (.bop .And [E₁,E₂,E₃,E₄]) ρ σ (decide (p∧q∧r∧c=true)) σ:=by
 have h:=Ts.all (TsL.and h1 fun a=>TsL.and (h2 (of_decide_eq_true a)) fun b=>TsL.and (h3 (of_decide_eq_true a) (of_decide_eq_true b)) fun d=>TsL.and (h4 (of_decide_eq_true a) (of_decide_eq_true b) (of_decide_eq_true d)) fun _=>TsL.nil)
 have e:(decide p && (decide q && (decide r && (c && (BoolOp.And == BoolOp.And)))))=decide (p∧q∧r∧c=true):=by simp
 exact e ▸ h
end
end Mine
end
section
open PySem
set_option maxRecDepth 100000
set_option linter.unusedVariables false
set_option autoImplicit false
namespace Mine
noncomputable abbrev Tri:=Nat×Nat×Nat
structure BK where
 o:Nat
 t:Nat
 jk:Nat
 wn:Nat
 a:Nat
 b:Nat
 c:Nat
 d:Nat
noncomputable abbrev In (i:Nat):Option AV:=some (.int (i:Int))
noncomputable def LB (K:BK) (q:Tri) (x y k:Option AV):List (Option AV):=[some (.loc K.o),some (.loc K.t),some (.loc K.jk),some (.loc K.wn),In K.a,In K.b,In K.c,In K.d,In q.1,In q.2.1,In q.2.2,x,y,k]
structure BO (K:BK) (σ:Sto) (one two junk:List Str):Prop where
 ho:Strs σ K.o one
 ht:Strs σ K.t two
 hj:Strs σ K.jk junk
 hw:σ[K.wn]? = some (.tup (.type "tuple") [.int (K.a:Int),.int (K.b:Int),.int (K.c:Int),.int (K.d:Int)])
 hb:K.b≤one.length
 hd:K.d≤two.length
 hb2:K.b≤90
 hd2:K.d≤90
 hab:K.a≤K.b
 hcd:K.c≤K.d
noncomputable def pre (one two junk:List Str) (b d:Nat):Nat→Nat→Nat→Nat
 | 0,_,_=>0
 | m+1,x,y=>if x<b∧y<d∧one[x]? = two[y]?∧(two[y]?.all fun v=>!junk.contains v)then pre one two junk b d m (x+1) (y+1)+1 else 0
noncomputable def stepB (one two junk:List Str) (b d x y:Nat) (q:Tri):Tri:=if q.2.2<pre one two junk b d (b - x) x y then (x,y,pre one two junk b d (b - x) x y)else q
noncomputable def foldB (one two junk:List Str) (b d x:Nat):Nat→Nat→Tri→Tri
 | _,0,q=>q
 | y,m+1,q=>foldB one two junk b d x (y+1) m (stepB one two junk b d x y q)
noncomputable def foldC (one two junk:List Str) (b c d:Nat):Nat→Nat→Tri→Tri
 | _,0,q=>q
 | x,m+1,q=>foldC one two junk b c d (x+1) m (foldB one two junk b d x c (d - c) q)
noncomputable abbrev okL (one two junk:List Str) (a c:Nat) (q:Tri):Prop:=a<q.1∧c<q.2.1∧one[q.1 - 1]? = two[q.2.1 - 1]?∧(two[q.2.1 - 1]?.all fun v=>junk.contains v)=true
noncomputable abbrev okR (one two junk:List Str) (b d:Nat) (q:Tri):Prop:=q.1+q.2.2<b∧q.2.1+q.2.2<d∧one[q.1+q.2.2]? = two[q.2.1+q.2.2]?∧(two[q.2.1+q.2.2]?.all fun v=>junk.contains v)=true
noncomputable def extL (one two junk:List Str) (a c:Nat):Nat→Tri→Tri
 | 0,q=>q
 | m+1,q=>if okL one two junk a c q then extL one two junk a c m (q.1 - 1,q.2.1 - 1,q.2.2+1)else q
noncomputable def extR (one two junk:List Str) (b d:Nat):Nat→Tri→Tri
 | 0,q=>q
 | m+1,q=>if okR one two junk b d q then extR one two junk b d m (q.1,q.2.1,q.2.2+1)else q
noncomputable def lawBest (one two junk:List Str) (a b c d:Nat):Tri:=extR one two junk b d b (extL one two junk a c (foldC one two junk b c d a (b - a) (a,c,0)).1 (foldC one two junk b c d a (b - a) (a,c,0)))
noncomputable def condA:E:=.bop .And [.cmp .Lt (.bin .Add (.var 11) (.var 13)) (.var 5),.cmp .Lt (.bin .Add (.var 12) (.var 13)) (.var 7),.cmp .Eq (.item (.var 0) (.bin .Add (.var 11) (.var 13))) (.item (.var 1) (.bin .Add (.var 12) (.var 13))),.cmp .NotIn (.item (.var 1) (.bin .Add (.var 12) (.var 13))) (.var 2)]
noncomputable def bodyA:List S:=[.assign [.var 13] (.bin .Add (.var 13) (.int 1))]
noncomputable def bodyB:List S:=[.assign [.var 13] (.int 0),.while condA bodyA,.ite (.cmp .Gt (.var 13) (.var 10)) [.tupAssign true [8,9,10] [.var 11,.var 12,.var 13]] []]
noncomputable def condL:E:=.bop .And [.cmp .Gt (.var 8) (.var 4),.cmp .Gt (.var 9) (.var 6),.cmp .Eq (.item (.var 0) (.bin .Sub (.var 8) (.int 1))) (.item (.var 1) (.bin .Sub (.var 9) (.int 1))),.cmp .In (.item (.var 1) (.bin .Sub (.var 9) (.int 1))) (.var 2)]
noncomputable def condR:E:=.bop .And [.cmp .Lt (.bin .Add (.var 8) (.var 10)) (.var 5),.cmp .Lt (.bin .Add (.var 9) (.var 10)) (.var 7),.cmp .Eq (.item (.var 0) (.bin .Add (.var 8) (.var 10))) (.item (.var 1) (.bin .Add (.var 9) (.var 10))),.cmp .In (.item (.var 1) (.bin .Add (.var 9) (.var 10))) (.var 2)]
noncomputable def bodyL:List S:=[.tupAssign true [8,9,10] [.bin .Sub (.var 8) (.int 1),.bin .Sub (.var 9) (.int 1),.bin .Add (.var 10) (.int 1)]]
noncomputable def bodyR:List S:=[.assign [.var 10] (.bin .Add (.var 10) (.int 1))]
section
variable {n:Nat}{f:Nat→Option Nat}{ρ ρ':Rho}{σ σ':Sto}{E:Mine.E}{one two junk:List Str}{K:BK}{q:Tri}{x y k:Nat}{u v w:Option AV}
theorem Ts.yes {p:Prop} [Decidable p] (h:Ts n f E ρ σ (decide p) σ') (hp:p):Ts n f E ρ σ true σ':=decide_eq_true hp ▸ h
theorem Ts.no {p:Prop} [Decidable p] (h:Ts n f E ρ σ (decide p) σ') (hp:¬ p):Ts n f E ρ σ false σ':=decide_eq_false hp ▸ h
theorem Ts.of {p:Prop} [Decidable p]{c:Bool} (h:Ts n f E ρ σ c σ') (hp:c=decide p):Ts n f E ρ σ (decide p) σ':=hp ▸ h
theorem condA_run (H:BO K σ one two junk):Ts n f condA (env (LB K q (In x) (In y) (In k))) σ (decide (x+k<K.b∧y+k<K.d∧one[x+k]? = two[y+k]?∧(two[y+k]?.all fun v=>!junk.contains v)=true)) σ:=
 .and4 (.ltI (.p rfl) (.p rfl)) (fun _=>.ltI (.p rfl) (.p rfl)) (fun h1 h2=>.eqS H.ho H.ht (.p rfl) (.p rfl) (.p rfl) (.p rfl) (Nat.lt_of_lt_of_le h1 H.hb) (Nat.lt_of_lt_of_le h2 H.hd))
  fun h1 h2 _=>.notinS H.ht H.hj (.p rfl) (.p rfl) (.p rfl) (Nat.lt_of_lt_of_le h2 H.hd)
theorem whileA (H:BO K σ one two junk):∀ {m k:Nat},K.b≤x+k+m→While n f condA bodyA m (env (LB K q (In x) (In y) (In k))) σ (env (LB K q (In x) (In y) (In (k+pre one two junk K.b K.d m (x+k) (y+k))))) σ
 | 0,k,h=>.done ((condA_run H).no fun c=>Nat.not_lt.mpr h c.1)
 | m+1,k,h=>by
  by_cases hc:x+k<K.b∧y+k<K.d∧one[x+k]? = two[y+k]?∧(two[y+k]?.all fun v=>!junk.contains v)=true
  ·rw [show k+pre one two junk K.b K.d (m+1) (x+k) (y+k)=k+1+pre one two junk K.b K.d m (x+(k+1)) (y+(k+1))from (congrArg (k+·) (if_pos hc)).trans (Nat.succ_add_eq_add_succ k _).symm]
   exact .step ((condA_run H).yes hc) (.one (Ex.setE (.p rfl) rfl)) (whileA H (m:=m) (k:=k+1) (by rw [←Nat.add_assoc,Nat.add_right_comm];exact h))
  ·rw [show pre one two junk K.b K.d (m+1) (x+k) (y+k)=0 from if_neg hc]
   exact .done ((condA_run H).no hc)
noncomputable def rng (a:Nat):Nat→List (List AV)
 | 0=>[]
 | m+1=>[.int (a:Int)] :: rng (a+1) m
theorem rng_eq:∀ (m a:Nat),((List.range m).map fun(i:Nat)=>[AV.int ((a:Int)+(i:Int))])=rng a m
 | 0,_=>rfl
 | m+1,a=>by
  rw [List.range_succ_eq_map,List.map_cons,List.map_map,rng,←rng_eq m (a+1)]
  exact congrArg (_ :: ·) (List.map_congr_left fun i _=>congrArg (fun z=>[AV.int z]) (congrArg Int.ofNat (Nat.succ_add_eq_add_succ a i).symm))
theorem smallR_n {a b:Nat} (ha:a≤900) (hb:b≤900):smallR (a:Int) (b:Int)=true:=by
 unfold smallR
 simp only [Bool.and_eq_true,decide_eq_true_eq]
 lia
theorem Ex.rng {E₁ E₂:Mine.E}{Bd:List Mine.S}{a b:Nat}{fl:Fl} (h1:Ev n f E₁ ρ σ (.int (a:Int)) σ) (h2:Ev n f E₂ ρ σ (.int (b:Int)) σ) (ha:a≤900) (hb:b≤900) (h:For n f E Bd (fun _=>true=true) fl ρ' σ' (rng a (b - a)) ρ σ):Ex n f (.forRange E E₁ E₂ Bd) ρ σ fl ρ' σ':=
 .forRange h1 h2 (smallR_n ha hb) (by rw [show((b:Int) - (a:Int)).toNat=b - a by lia,rng_eq];exact h)
theorem whileA0 (H:BO K σ one two junk):While n f condA bodyA (K.b - x) (env (LB K q (In x) (In y) (In 0))) σ (env (LB K q (In x) (In y) (In (pre one two junk K.b K.d (K.b - x) x y)))) σ:=
 Nat.zero_add (pre one two junk K.b K.d (K.b - x) x y) ▸ whileA H (k:=0) (Nat.sub_le_iff_le_add'.mp (Nat.le_refl _))
theorem bodyB_run (H:BO K σ one two junk):∃ w',Exs n f bodyB (env (LB K q (In x) (In y) w)) σ .next (env (LB K (stepB one two junk K.b K.d x y q) (In x) (In y) w')) σ:=
 ⟨In (pre one two junk K.b K.d (K.b - x) x y),.cons (Ex.setE (.p rfl) rfl) (.cons (.while (whileA0 H)) (by
  have t:=Ts.gtI (n:=n) (f:=f) (ρ:=env (LB K q (In x) (In y) (In (pre one two junk K.b K.d (K.b - x) x y)))) (σ:=σ) (E₁:=.var 13) (E₂:=.var 10) (.p rfl) (.p rfl)
  by_cases hk:q.2.2<pre one two junk K.b K.d (K.b - x) x y
  ·rw [show stepB one two junk K.b K.d x y q=_ from if_pos hk]
   exact .one (.ite (t.yes hk) (.one (Ex.tupRE (.cons (.p rfl) (.cons (.p rfl) (.cons (.p rfl) .nil))) rfl rfl rfl)))
  ·rw [show stepB one two junk K.b K.d x y q=q from if_neg hk]
   exact .one (.skip (t.no hk))))⟩
theorem forB (H:BO K σ one two junk):∀ {m y:Nat}{q:Tri}{v w:Option AV},∃ v' w',For n f (.var 12) bodyB (fun _=>true=true) .next (env (LB K (foldB one two junk K.b K.d x y m q) (In x) v' w')) σ (rng y m) (env (LB K q (In x) v w)) σ
 | 0,y,q,v,w=>⟨v,w,rfl,rfl,rfl⟩
 | m+1,y,q,v,w=>
  let ⟨_,e1⟩:=bodyB_run H
  let ⟨v',w',e2⟩:=forB H (m:=m) (y:=y+1)
  ⟨v',w',.step (.one (Asg.varE rfl)) e1 (.inl rfl) rfl e2⟩
noncomputable def bodyC:List S:=[.forRange (.var 12) (.var 6) (.var 7) bodyB]
theorem forC (H:BO K σ one two junk):∀ {m x:Nat}{q:Tri}{u v w:Option AV},∃ u' v' w',For n f (.var 11) bodyC (fun _=>true=true) .next (env (LB K (foldC one two junk K.b K.c K.d x m q) u' v' w')) σ (rng x m) (env (LB K q u v w)) σ
 | 0,x,q,u,v,w=>⟨u,v,w,rfl,rfl,rfl⟩
 | m+1,x,q,u,v,w=>
  let ⟨_,_,e1⟩:=forB H (m:=K.d - K.c) (y:=K.c)
  let ⟨u',v',w',e2⟩:=forC H (m:=m) (x:=x+1)
  ⟨u',v',w',.step (.one (Asg.varE rfl)) (.one (.rng (.p rfl) (.p rfl) (Nat.le_trans (Nat.le_trans H.hcd H.hd2) (by decide)) (Nat.le_trans H.hd2 (by decide)) e1)) (.inl rfl) rfl e2⟩
theorem sub_ints {i:Nat} (h:0<i):(i:Int) - 1=((i - 1:Nat):Int):=by lia
theorem Ev.sub1 {i:Nat}{j:Nat} (h:ρ j=some (.int (i:Int))) (hi:0<i):Ev n f (.bin .Sub (.var j) (.int 1)) ρ σ (.int ((i - 1:Nat):Int)) σ:=sub_ints hi ▸ Ev.bin (.var h) .int rfl
theorem condL_run (H:BO K σ one two junk) (h1:q.1≤one.length) (h2:q.2.1≤two.length):Ts n f condL (env (LB K q u v w)) σ (decide (okL one two junk K.a K.c q)) σ:=
 .and4 (.gtI (.p rfl) (.p rfl)) (fun _=>.gtI (.p rfl) (.p rfl)) (fun p1 p2=>.eqS H.ho H.ht (.p rfl) (.sub1 rfl (Nat.zero_lt_of_lt p1)) (.p rfl) (.sub1 rfl (Nat.zero_lt_of_lt p2)) (by lia) (by lia))
  fun p1 p2 _=>.inS H.ht H.hj (.p rfl) (.sub1 rfl (Nat.zero_lt_of_lt p2)) (.p rfl) (by lia)
theorem condR_run (H:BO K σ one two junk):Ts n f condR (env (LB K q u v w)) σ (decide (okR one two junk K.b K.d q)) σ:=
 .and4 (.ltI (.p rfl) (.p rfl)) (fun _=>.ltI (.p rfl) (.p rfl)) (fun h1 h2=>.eqS H.ho H.ht (.p rfl) (.p rfl) (.p rfl) (.p rfl) (Nat.lt_of_lt_of_le h1 H.hb) (Nat.lt_of_lt_of_le h2 H.hd))
  fun h1 h2 _=>.inS H.ht H.hj (.p rfl) (.p rfl) (.p rfl) (Nat.lt_of_lt_of_le h2 H.hd)
theorem whileL (H:BO K σ one two junk):∀ {m:Nat}{q:Tri},q.1≤one.length→q.2.1≤two.length→q.1≤K.a+m→While n f condL bodyL m (env (LB K q u v w)) σ (env (LB K (extL one two junk K.a K.c m q) u v w)) σ
 | 0,q,h1,h2,h=>.done ((condL_run H h1 h2).no fun c=>Nat.not_lt.mpr h c.1)
 | m+1,q,h1,h2,h=>by
  by_cases hc:okL one two junk K.a K.c q
  ·rw [show extL one two junk K.a K.c (m+1) q=_ from if_pos hc]
   exact .step ((condL_run H h1 h2).yes hc) (.one (Ex.tupRE (.cons (.sub1 rfl (Nat.zero_lt_of_lt hc.1)) (.cons (.sub1 rfl (Nat.zero_lt_of_lt hc.2.1)) (.cons (.p rfl) .nil))) rfl rfl rfl))
    (whileL H (q:=(q.1 - 1,q.2.1 - 1,q.2.2+1)) (Nat.le_trans (Nat.sub_le _ _) h1) (Nat.le_trans (Nat.sub_le _ _) h2) (Nat.sub_le_of_le_add h))
  ·rw [show extL one two junk K.a K.c (m+1) q=q from if_neg hc]
   exact .done ((condL_run H h1 h2).no hc)
theorem whileR (H:BO K σ one two junk):∀ {m:Nat}{q:Tri},K.b≤q.1+q.2.2+m→While n f condR bodyR m (env (LB K q u v w)) σ (env (LB K (extR one two junk K.b K.d m q) u v w)) σ
 | 0,q,h=>.done ((condR_run H).no fun c=>Nat.not_lt.mpr h c.1)
 | m+1,q,h=>by
  by_cases hc:okR one two junk K.b K.d q
  ·rw [show extR one two junk K.b K.d (m+1) q=_ from if_pos hc]
   exact .step ((condR_run H).yes hc) (.one (Ex.setE (.p rfl) rfl)) (whileR H (q:=(q.1,q.2.1,q.2.2+1)) (by show _≤q.1+(q.2.2+1)+m;lia))
  ·rw [show extR one two junk K.b K.d (m+1) q=q from if_neg hc]
   exact .done ((condR_run H).no hc)
end
end Mine
end
section
open PySem
set_option maxRecDepth 100000
set_option linter.unusedVariables false
set_option autoImplicit false
namespace Mine
noncomputable def Inside (a b c d:Nat) (q:Tri):Prop:=a≤q.1∧q.1+q.2.2≤b∧c≤q.2.1∧q.2.1+q.2.2≤d
theorem pre_le {one two junk:List Str}{b d:Nat}:∀ {m x y:Nat},x≤b→y≤d→x+pre one two junk b d m x y≤b∧y+pre one two junk b d m x y≤d
 | 0,_,_,hx,hy=>⟨hx,hy⟩
 | m+1,x,y,hx,hy=>by
  by_cases h:x<b∧y<d∧one[x]? = two[y]?∧(two[y]?.all fun v=>!junk.contains v)=true
  ·rw [show pre one two junk b d (m+1) x y=_ from if_pos h]
   have:=pre_le (one:=one) (two:=two) (junk:=junk) (m:=m) h.1 h.2.1
   exact⟨Nat.succ_add_eq_add_succ x _ ▸ this.1,Nat.succ_add_eq_add_succ y _ ▸ this.2⟩
  ·rw [show pre one two junk b d (m+1) x y=0 from if_neg h]
   exact⟨hx,hy⟩
theorem stepB_in {one two junk:List Str}{a b c d x y:Nat}{q:Tri} (h:Inside a b c d q) (hx:a≤x) (hx2:x≤b) (hy:c≤y) (hy2:y≤d):Inside a b c d (stepB one two junk b d x y q):=
 iteInduction (motive:=Inside a b c d) (fun _=>⟨hx,(pre_le hx2 hy2).1,hy,(pre_le hx2 hy2).2⟩) fun _=>h
theorem foldB_in {one two junk:List Str}{a b c d x:Nat} (hx:a≤x) (hx2:x≤b):∀ {m y:Nat}{q:Tri},Inside a b c d q→c≤y→y+m≤d→Inside a b c d (foldB one two junk b d x y m q)
 | 0,_,_,h,_,_=>h
 | m+1,y,q,h,hy,hm=>foldB_in hx hx2 (m:=m) (y:=y+1) (stepB_in h hx hx2 hy (Nat.le_trans (Nat.le_add_right _ _) hm)) (Nat.le_succ_of_le hy) (Nat.succ_add_eq_add_succ y m ▸ hm)
theorem foldC_in {one two junk:List Str}{a b c d:Nat} (hcd:c≤d):∀ {m x:Nat}{q:Tri},Inside a b c d q→a≤x→x+m≤b→Inside a b c d (foldC one two junk b c d x m q)
 | 0,_,_,h,_,_=>h
 | m+1,x,q,h,hx,hm=>foldC_in hcd (m:=m) (x:=x+1) (foldB_in hx (Nat.le_trans (Nat.le_add_right _ _) hm) h (Nat.le_refl _) (Nat.le_of_eq (Nat.add_sub_cancel' hcd))) (Nat.le_succ_of_le hx) (Nat.succ_add_eq_add_succ x m ▸ hm)
theorem sub1_add {z k e:Nat} (h:e<z):z - 1+(k+1)=z+k:=match z,h with
 | z+1,_=>(Nat.succ_add_eq_add_succ z k).symm
theorem extL_in {one two junk:List Str}{a b c d:Nat}:∀ {m:Nat}{q:Tri},Inside a b c d q→Inside a b c d (extL one two junk a c m q)
 | 0,_,h=>h
 | m+1,q,h=>iteInduction (motive:=Inside a b c d) (fun hc=>extL_in ⟨Nat.le_sub_one_of_lt hc.1,(sub1_add hc.1).symm ▸ h.2.1,Nat.le_sub_one_of_lt hc.2.1,(sub1_add hc.2.1).symm ▸ h.2.2.2⟩) fun _=>h
theorem extR_in {one two junk:List Str}{a b c d:Nat}:∀ {m:Nat}{q:Tri},Inside a b c d q→Inside a b c d (extR one two junk b d m q)
 | 0,_,h=>h
 | m+1,q,h=>iteInduction (motive:=Inside a b c d) (fun hc=>extR_in ⟨h.1,hc.1,h.2.2.1,hc.2.1⟩) fun _=>h
theorem fold_in {one two junk:List Str}{a b c d:Nat} (hab:a≤b) (hcd:c≤d):Inside a b c d (foldC one two junk b c d a (b - a) (a,c,0)):=foldC_in hcd ⟨Nat.le_refl _,hab,Nat.le_refl _,hcd⟩ (Nat.le_refl _) (Nat.le_of_eq (Nat.add_sub_cancel' hab))
theorem lawBest_in {one two junk:List Str}{a b c d:Nat} (hab:a≤b) (hcd:c≤d):Inside a b c d (lawBest one two junk a b c d):=extR_in (extL_in (fold_in hab hcd))
noncomputable abbrev tri (c:Value) (q:Tri):AO:=.tup c [.int (q.1:Int),.int (q.2.1:Int),.int (q.2.2:Int)]
section
variable {n:Nat}{σ:Sto}{one two junk:List Str}{K:BK}
theorem best_run (H:BO K σ one two junk):Call (n+1) (.cst (.ref 339)) [.loc K.o,.loc K.t,.loc K.jk,.loc K.wn] σ (.loc σ.length) (σ++[tri (.type "tuple") (lawBest one two junk K.a K.b K.c K.d)]):=by
 refine xE31 (forC (n:=n) (f:=fun _=>none) H (m:=K.b - K.a) (x:=K.a) (q:=(K.a,K.c,0)) (u:=none) (v:=none) (w:=none)) fun u v w e3=>?_
 have I:=fold_in (one:=one) (two:=two) (junk:=junk) H.hab H.hcd
 have h1:=Nat.le_trans (Nat.le_trans (Nat.le_add_right _ _) I.2.1) H.hb
 have h2:=Nat.le_trans (Nat.le_trans (Nat.le_add_right _ _) I.2.2.2) H.hd
 exact .fn f339 (run0 10 rfl rfl (.inl rfl) (.cons (.assign (.p rfl) (.one (.tuple H.hw (.inl rfl) (Asgs.varsE (xs:=[4,5,6,7]) rfl rfl))))
  (.cons (Ex.tupRE (.cons (.p rfl) (.cons (.p rfl) (.cons (.p rfl) .nil))) rfl rfl rfl)
  (.cons (.rng (.p rfl) (.p rfl) (Nat.le_trans (Nat.le_trans H.hab H.hb2) (by decide)) (Nat.le_trans H.hb2 (by decide)) e3)
  (.cons (.while (whileL H h1 h2 (Nat.le_add_left _ _)))
  (.cons (.while (whileR H (m:=K.b) (Nat.le_add_left _ _)))
  (.stop (fun e=>nomatch e) (.ret (.tuple (.cons (.p rfl) (.cons (.p rfl) (.cons (.p rfl) .nil))) (Nat.le_of_ble_eq_true rfl))))))))))
end
end Mine
end
section
open PySem
set_option maxRecDepth 100000
set_option linter.unusedVariables false
set_option autoImplicit false
namespace Mine
theorem pre_app {σ τ:Sto}:σ <+: σ++τ:=⟨τ,rfl⟩
theorem pre_len {σ σ':Sto} (h:σ <+: σ'):σ.length≤σ'.length:=h.length_le
theorem Strs.mono {σ σ':Sto}{l:Nat}{xs:List Str} (h:Strs σ l xs) (p:σ <+: σ'):Strs σ' l xs:=⟨getElem?_pre p h.1,h.2⟩
noncomputable def At (σ:Sto) (ls:List Nat) (os:List AO):Prop:=ls.map (fun l=>σ[l]?)=os.map some
theorem At.len {σ:Sto}{ls:List Nat}{os:List AO} (h:At σ ls os):ls.length=os.length:=by
 have:=congrArg List.length h
 rwa [List.length_map,List.length_map]at this
theorem At.mono {σ σ':Sto} (p:∀ {l:Nat}{o:AO},σ[l]? = some o→σ'[l]? = some o):∀ {ls:List Nat}{os:List AO},At σ ls os→At σ' ls os
 | [],[],_=>rfl
 | l :: ls,o :: os,h=>by
  obtain⟨h1,h2⟩:=List.cons.inj h
  exact congr (congrArg List.cons (p h1)) (At.mono p (ls:=ls) h2)
 | [],_ :: _,h=>nomatch h
 | _ :: _,[],h=>nomatch h
theorem At.app {σ:Sto}{ls ls':List Nat}{os os':List AO} (h:At σ ls os) (h':At σ ls' os'):At σ (ls++ls') (os++os'):=by
 unfold At;rw [List.map_append,List.map_append,h,h']
theorem At.one {σ:Sto}{l:Nat}{o:AO} (h:σ[l]? = some o):At σ [l] [o]:=congrArg (fun x=>[x]) h
noncomputable def Trips (c:Value) (σ:Sto) (r:Nat) (qs:List Tri):Prop:=∃ ls:List Nat,σ[r]? = some (.list (ls.map .loc))∧At σ ls (qs.map (tri c))
noncomputable def lawBlocks (one two junk:List Str):Nat→Nat→Nat→Nat→Nat→List Tri
 | 0,_,_,_,_=>[]
 | m+1,a,b,c,d=>if (lawBest one two junk a b c d).2.2=0 then []else
   lawBlocks one two junk m a (lawBest one two junk a b c d).1 c (lawBest one two junk a b c d).2.1++[lawBest one two junk a b c d]++
    lawBlocks one two junk m ((lawBest one two junk a b c d).1+(lawBest one two junk a b c d).2.2) b ((lawBest one two junk a b c d).2.1+(lawBest one two junk a b c d).2.2) d
theorem ar_len {a i k b x y:Nat} (h1:a≤i) (h2:i+k≤b) (hk:¬ k=0) (l1:x≤i - a) (l2:y≤b - (i+k)):x+1+y≤b - a:=by
 refine xE11 (Nat.exists_eq_add_of_le h1) fun d q1_=>?_
 subst q1_
 obtain⟨e,rfl⟩:=Nat.exists_eq_add_of_le h2
 rw [Nat.add_sub_cancel_left]at l1 l2
 rw [Nat.add_assoc x,Nat.add_assoc (a+d) k e,Nat.add_assoc a,Nat.add_sub_cancel_left]
 exact Nat.add_le_add l1 (Nat.add_le_add (Nat.pos_of_ne_zero hk) l2)
theorem ar_lt {a i k b m:Nat} (h1:a≤i) (h2:i+k≤b) (hk:¬ k=0) (h:b - a<m+1):i - a<m∧b - (i+k)<m:=by
 have l:=ar_len h1 h2 hk (Nat.le_refl _) (Nat.le_refl _)
 have z:=Nat.le_trans l (Nat.le_of_lt_succ h)
 exact⟨Nat.lt_of_lt_of_le (Nat.lt_succ_self _) (Nat.le_trans (Nat.le_add_right _ _) z),Nat.lt_of_lt_of_le (Nat.lt_add_of_pos_left (Nat.succ_pos _)) z⟩
theorem lawBlocks_len {one two junk:List Str}:∀ {m a b c d:Nat},a≤b→c≤d→(lawBlocks one two junk m a b c d).length≤b - a
 | 0,_,_,_,_,_,_=>Nat.zero_le _
 | m+1,a,b,c,d,hab,hcd=>iteInduction (motive:=fun l=>List.length l≤b - a) (fun _=>Nat.zero_le _) fun hs=>by
  refine xE04 (lawBest_in (one:=one) (two:=two) (junk:=junk) hab hcd) fun h1 h2 h3 h4=>?_
  have l1:=lawBlocks_len (one:=one) (two:=two) (junk:=junk) (m:=m) h1 h3
  have l2:=lawBlocks_len (one:=one) (two:=two) (junk:=junk) (m:=m) h2 h4
  rw [List.length_append,List.length_append]
  exact ar_len h1 h2 hs l1 l2
section
variable {n:Nat}{f:Nat→Option Nat}{ρ ρ':Rho}{σ σ' σ₁ σ₂:Sto}{E₁ E₂:Mine.E}{v:AV}{vs xs ys:List AV}{l m:Nat}
theorem item_tup {xs:List AV} (h:σ[l]? = some (.tup (.type "tuple") xs)){i:Nat} (hi:xs[i]? = some v) (hz:Nat.ble xs.length 900=true):ItemR σ (.loc l) (.int (i:Int)) v:=
 .tup h (at_nat hi (Nat.le_of_ble_eq_true hz))
theorem items_m {β:Type}{h:β→AV}{ys:List β} (e:σ[l]? = some (.list (ys.map h))):ItemsR σ (.loc l) (ys.map fun y=>[h y]):=by
 have r:=ItemsR.list e
 rw [List.map_map]at r
 exact r
theorem Ev.itemT (i:Nat) (h:Ev n f E₁ ρ σ (.loc l) σ) (e:σ[l]? = some (.tup (.type "tuple") xs)) (hi:xs[i]? = some v) (hz:Nat.ble xs.length 900=true):Ev n f (.item E₁ (.int (i:Int))) ρ σ v σ:=.item h .int (item_tup e hi hz)
theorem Ev.addL (h1:Ev n f E₁ ρ σ (.loc l) σ₁) (h2:Ev n f E₂ ρ σ₁ (.loc m) σ₂) (e1:σ₂[l]? = some (.list xs)) (e2:σ₂[m]? = some (.list ys)) (h3:xs.length+ys.length≤900):Ev n f (.bin .Add E₁ E₂) ρ σ (.loc σ₂.length) (σ₂++[.list (xs++ys)]):=.bin h1 h2 (by
 show(σ₂[l]?).bind _=_
 rw [e1]
 show(σ₂[m]?).bind _=_
 rw [e2]
 exact if_pos h3)
end
section
variable {one two junk:List Str}
theorem blocks_run:∀ {m n:Nat}{K:BK}{σ:Sto},BO K σ one two junk→K.b - K.a<m→∃ r σ',Call (n+m+1) (.cst (.ref 346)) [.loc K.o,.loc K.t,.loc K.jk,.loc K.wn] σ (.loc r) σ'∧σ <+: σ'∧Trips (.type "tuple") σ' r (lawBlocks one two junk m K.a K.b K.c K.d)∧σ.length≤r
 | 0,n,K,σ,H,hm=>absurd hm (Nat.not_lt_zero _)
 | m+1,n,K,σ,H,hm=>by
  have b:=best_run (n:=n+m) H
  have I:=lawBest_in (one:=one) (two:=two) (junk:=junk) H.hab H.hcd
  show ∃ r σ',_∧_∧Trips _ σ' r (if (lawBest one two junk K.a K.b K.c K.d).2.2=0 then _ else _)∧_
  generalize lawBest one two junk K.a K.b K.c K.d=q at b I ⊢
  have p1:σ <+: σ++[tri (.type "tuple") q]:=pre_app
  have s1:Ex (n+(m+1)) (fun _=>none) (.assign [.tuple [.var 4,.var 5,.var 6]] (.call (.glob (.cst (.ref 339))) [.var 0,.var 1,.var 2,.var 3])) (env [some (.loc K.o),some (.loc K.t),some (.loc K.jk),some (.loc K.wn),none,none,none,none]) σ .next
    (env [some (.loc K.o),some (.loc K.t),some (.loc K.jk),some (.loc K.wn),In q.1,In q.2.1,In q.2.2,none]) (σ++[tri (.type "tuple") q]):=
   .assign (.call .glob (.cons (.p rfl) (.cons (.p rfl) (.cons (.p rfl) (.cons (.p rfl) .nil)))) b) (.one (.tuple app_z (.inl rfl) (Asgs.varsE (xs:=[4,5,6]) rfl rfl)))
  by_cases hz:q.2.2=0
  ·rw [if_pos hz]
   refine⟨_,_,.fn f346 (run0 4 rfl rfl (.inl rfl) (.cons s1 (.stop (fun e=>nomatch e) (.ite (.yes (.eqI (j:=0) (.p rfl) (.p rfl)) hz) (.stop (fun e=>nomatch e) (.ret (.list .nil (Nat.zero_le _)))))))),p1.trans pre_app,⟨[],app_z,rfl⟩,pre_len p1⟩
  ·rw [if_neg hz]
   refine byG fun G4 k4=>?_
   have q1:q.1≤K.b:=Nat.le_trans (Nat.le_add_right _ _) I.2.1
   have q2:q.2.1≤K.d:=Nat.le_trans (Nat.le_add_right _ _) I.2.2.2
   have p2:=p1.trans (pre_app (τ:=[.tup (.type "tuple") [.int (K.a:Int),.int (q.1:Int),.int (K.c:Int),.int (q.2.1:Int)]]))
   refine xE24 (blocks_run (m:=m) (n:=n) (K:=⟨K.o,K.t,K.jk,_,K.a,q.1,K.c,q.2.1⟩) ⟨H.ho.mono p2,H.ht.mono p2,H.hj.mono p2,app_z,Nat.le_trans q1 H.hb,Nat.le_trans q2 H.hd,Nat.le_trans q1 H.hb2,Nat.le_trans q2 H.hd2,I.1,I.2.2.1⟩
    (ar_lt I.1 I.2.1 hz hm).1) fun r3 σ3 c3 p3 q3_ _=>?_
   refine xE12 q3_ fun ls3 g3 T3=>?_
   have hw3:=getElem?_pre (p2.trans p3) H.hw
   have pa:σ3 <+: σ3++[tri (.type "tuple") q]++[.list [.loc σ3.length]]:=pre_app.trans pre_app
   have pb:=pa.trans (pre_app (τ:=[.list (ls3.map .loc++[.loc σ3.length])]))
   have pc:=pb.trans (pre_app (τ:=[.tup (.type "tuple") [.int ((q.1+q.2.2:Nat):Int),.int (K.b:Int),.int ((q.2.1+q.2.2:Nat):Int),.int (K.d:Int)]]))
   have p5:=(p2.trans p3).trans pc
   refine xE24 (blocks_run (m:=m) (n:=n) (K:=⟨K.o,K.t,K.jk,_,q.1+q.2.2,K.b,q.2.1+q.2.2,K.d⟩) ⟨H.ho.mono p5,H.ht.mono p5,H.hj.mono p5,app_z,H.hb,H.hd,H.hb2,H.hd2,I.2.1,I.2.2.2⟩
    (ar_lt I.1 I.2.1 hz hm).2) fun r6 σ6 c6 p6 q4_ _=>?_
   refine xE12 q4_ fun ls6 g6 T6=>?_
   refine k4 ?_
   have l3:=(T3.len.trans (List.length_map ..)) ▸ lawBlocks_len (one:=one) (two:=two) (junk:=junk) (m:=m) I.1 I.2.2.1
   have l6:=(T6.len.trans (List.length_map ..)) ▸ lawBlocks_len (one:=one) (two:=two) (junk:=junk) (m:=m) I.2.1 I.2.2.2
   have t4:=getElem?_pre (pre_app (τ:=[.list [.loc σ3.length]])) (app_z (σ:=σ3) (τ:=[tri (.type "tuple") q]))
   refine⟨_,_,.fn f346 (run0 4 rfl rfl (.inl rfl) (.cons s1 (.cons (.skip (.no (.eqI (j:=0) (.p rfl) (.p rfl)) hz))
    (.cons (Ex.setE (.call .glob (.cons (.p rfl) (.cons (.p rfl) (.cons (.p rfl) (.cons (.tuple (.cons (.itemT 0 (.p rfl) (getElem?_pre p1 H.hw) rfl rfl) (.cons (.p rfl) (.cons (.itemT 2 (.p rfl) (getElem?_pre p1 H.hw) rfl rfl) (.cons (.p rfl) .nil)))) (Nat.le_of_ble_eq_true rfl)) .nil)))) c3) rfl)
    (.stop (fun e=>nomatch e) (.ret (.addL (.addL (.p rfl) (.list (.cons (.tuple (.cons (.p rfl) (.cons (.p rfl) (.cons (.p rfl) .nil))) (Nat.le_of_ble_eq_true rfl)) .nil) (Nat.le_of_ble_eq_true rfl)) (getElem?_pre pa g3) app_z ?_)
     (.call .glob (.cons (.p rfl) (.cons (.p rfl) (.cons (.p rfl) (.cons (.tuple (.cons (.p rfl) (.cons (.itemT 1 (.p rfl) (getElem?_pre pb hw3) rfl rfl) (.cons (.p rfl) (.cons (.itemT 3 (.p rfl) (getElem?_pre pb hw3) rfl rfl) .nil)))) (Nat.le_of_ble_eq_true rfl)) .nil)))) c6)
     (getElem?_pre p6 (getElem?_pre pre_app app_z)) g6 ?_))))))),(p5.trans p6).trans pre_app,⟨ls3++[σ3.length]++ls6,?_,?_⟩,pre_len (p5.trans p6)⟩
   ·rw [List.length_map]
    exact Nat.le_trans (Nat.add_le_add_right (Nat.le_trans l3 (Nat.le_trans (Nat.sub_le _ _) (Nat.le_trans q1 H.hb2))) 1) (by decide)
   ·rw [List.length_append,List.length_map,List.length_map]
    exact Nat.le_trans (ar_len I.1 I.2.1 hz l3 l6) (Nat.le_trans (Nat.sub_le _ _) (Nat.le_trans H.hb2 (by decide)))
   ·rw [app_z,List.map_append,List.map_append];rfl
   ·rw [List.map_append,List.map_append]
    have p7:=p6.trans (pre_app (τ:=[.list (ls3.map .loc++[.loc σ3.length]++ls6.map .loc)]))
    exact((T3.mono (getElem?_pre (pc.trans p7))).app (.one (getElem?_pre ((pre_app.trans pre_app).trans p7) t4))).app (T6.mono (getElem?_pre pre_app))
end
end Mine
end
section
open PySem
set_option maxRecDepth 100000
set_option linter.unusedVariables false
set_option autoImplicit false
namespace Mine
noncomputable def Fx (P:Nat→Prop) (σ σ':Sto):Prop:=∀ (i:Nat) (o:AO),¬ P i→σ[i]? = some o→σ'[i]? = some o
section
variable {P:Nat→Prop}{σ σ' σ'' τ:Sto}{l d r:Nat}{a:AO}{c:Value}{ls:List Nat}{qs:List Tri}{q p:Tri}{os:List AO}
theorem Fx.trans (h:Fx P σ σ') (k:Fx P σ' σ''):Fx P σ σ'':=fun i o n e=>k i o n (h i o n e)
theorem Fx.pre (h:σ <+: σ'):Fx P σ σ':=fun _ _ _=>getElem?_pre h
theorem Fx.set (h:P l):Fx P σ (σ.set l a):=fun i _ n e=>(List.getElem?_set_ne fun(q:l=i)=>n (q ▸ h)).trans e
theorem pre_of (h:∀ {i:Nat}{o:AO},σ[i]? = some o→σ'[i]? = some o):σ <+: σ':=List.prefix_iff_getElem?.mpr fun i hi=>h (List.getElem?_eq_getElem hi)
theorem Fx.out (h:σ <+: σ') (k:Fx P σ' σ'') (hp:∀ {i:Nat},P i→σ.length≤i):σ <+: σ'':=pre_of fun {i o} e=>k i o (fun p=>Nat.not_lt.mpr (hp p) (lt_of e)) (getElem?_pre h e)
theorem At.fx' {β:Type}{T:β→AO} (F:Fx P σ σ') (hP:∀ {i:Nat},P i→∃ o,σ[i]? = some o∧∀ b,T b≠o):∀ {ls:List Nat}{qs:List β},At σ ls (qs.map T)→At σ' ls (qs.map T)
 | [],[],_=>rfl
 | l :: ls,q :: qs,h=>
  let ⟨h1,h2⟩:=List.cons.inj h
  congr (congrArg List.cons (F _ _ (fun p=>let ⟨_,e,n⟩:=hP p;n q (Option.some.inj (h1.symm.trans e))) h1)) (At.fx' F hP (ls:=ls) h2)
 | [],_ :: _,h=>nomatch h
 | _ :: _,[],h=>nomatch h
theorem At.fx {β:Type}{T:β→AO} (F:Fx P σ σ') (hP:∀ {i:Nat},P i→∃ xs,σ[i]? = some (.list xs)) (hT:∀ b xs,T b≠.list xs){ls:List Nat}{qs:List β}:At σ ls (qs.map T)→At σ' ls (qs.map T):=
 At.fx' F fun p=>let ⟨_,e⟩:=hP p;⟨_,e,fun b=>hT b _⟩
theorem tri_nl (q:Tri) (xs:List AV):tri c q≠.list xs:=fun e=>(nomatch e)
theorem At.snoc {o:AO} (h:At σ ls (os++[o])):∃ ls' l,ls=ls'++[l]∧At σ ls' os∧σ[l]? = some o:=by
 unfold At at h
 refine byG fun G1 k1=>?_
 rw [List.map_append]at h
 refine xE23 (List.map_eq_append_iff.mp h) fun l1 l2 e h1 h2=>?_
 refine xE12 (List.map_eq_singleton_iff.mp h2) fun l q1_ h3=>?_
 subst q1_
 refine k1 ?_
 exact⟨l1,l,e,h1,h3⟩
end
noncomputable def dueStep (acc:List Tri) (q:Tri):List Tri:=match acc.getLast? with
 | some p=>if p.1+p.2.2=q.1∧p.2.1+p.2.2=q.2.1 then acc.dropLast++[(p.1,p.2.1,p.2.2+q.2.2)]else acc++[q]
 | none=>acc++[q]
theorem dueStep_snoc (acc:List Tri) (p q:Tri):dueStep (acc++[p]) q=if p.1+p.2.2=q.1∧p.2.1+p.2.2=q.2.1 then acc++[(p.1,p.2.1,p.2.2+q.2.2)]else acc++[p]++[q]:=by
 unfold dueStep
 rw [List.getLast?_concat,List.dropLast_concat]
theorem dueStep_len (acc:List Tri) (q:Tri):(dueStep acc q).length≤acc.length+1:=by
 rcases List.eq_nil_or_concat acc with rfl | ⟨acc',p,rfl⟩
 ·exact Nat.le_refl _
 ·rw [List.concat_eq_append,dueStep_snoc]
  refine iteInduction (motive:=fun l=>List.length l≤_) (fun _=>?_) fun _=>?_
  ·rw [List.length_append,List.length_append];exact Nat.le_succ _
  ·rw [List.length_append];exact Nat.le_refl _
theorem foldl_due_len:∀ {qs acc:List Tri},(qs.foldl dueStep acc).length≤acc.length+qs.length
 | [],_=>Nat.le_refl _
 | q :: qs,acc=>Nat.le_trans (foldl_due_len (qs:=qs)) (Nat.le_trans (Nat.add_le_add_right (dueStep_len acc q) _) (Nat.le_of_eq (Nat.succ_add_eq_add_succ _ _)))
noncomputable def lastE (i:Int):E:=.item (.item (.var 3) (.neg (.int 1))) (.int i)
noncomputable def bodyD:List S:=[.ite (.bop .And [.cmp .NotEq (.var 3) (.list []),.cmp .Eq (.bin .Add (lastE 0) (lastE 2)) (.var 4),.cmp .Eq (.bin .Add (lastE 1) (lastE 2)) (.var 5)]) [.assign [.item (.var 3) (.neg (.int 1))] (.tuple [lastE 0,lastE 1,.bin .Add (lastE 2) (.var 6)])] [.expr (.meth (.var 3) "append" [.tuple [.var 4,.var 5,.var 6]])]]
theorem snoc_len {xs:List AV}{y:AV} (hz:xs.length<900):(xs++[y]).length≤900:=by rw [List.length_append];exact hz
theorem back_one {xs:List AV}{y:AV}:(-1:Int)+((xs++[y]).length:Int)=(xs.length:Int):=by
 rw [List.length_append]
 show(-1:Int)+((xs.length:Int)+1)=_
 rw [Int.add_comm,Int.add_neg_cancel_right]
theorem at_last {xs:List AV}{y:AV} (hz:xs.length<900):at_ (xs++[y]) (-1)=some y:=by
 unfold at_
 rw [if_pos (snoc_len hz),if_neg (by decide),back_one,if_pos (Int.natCast_nonneg _),Int.toNat_natCast,List.getElem?_concat_length]
theorem item_last {σ:Sto}{l:Nat}{xs:List AV}{y:AV} (h:σ[l]? = some (.list (xs++[y]))) (hz:xs.length<900):ItemR σ (.loc l) (.int (-1)) y:=.list h (at_last hz)
theorem set_last {xs:List AV}{y v:AV}:(xs++[y]).set xs.length v=xs++[v]:=by rw [List.set_append_right _ _ (Nat.le_refl _),Nat.sub_self];rfl
theorem setAt_last {σ:Sto}{l:Nat}{xs:List AV}{y v:AV} (h:σ[l]? = some (.list (xs++[y]))) (hz:xs.length<900):PutR σ (.loc l) (.int (-1)) v (σ.set l (.list (xs++[v]))):=by
 have r:=PutR.list (v:=v) h (k:=-1) (by decide) (by rw [back_one];exact Int.natCast_nonneg _) (snoc_len hz)
 rwa [back_one,Int.toNat_natCast,set_last]at r
section
variable {n:Nat}{f:Nat→Option Nat}{ρ ρ':Rho}{σ σ' σ₁ σ₂:Sto}{E₁ E₂:Mine.E}{v:AV}{vs xs ys:List AV}{l m dl:Nat}{acc:List Tri}{p q:Tri}
theorem Trips.new {c:Value} (g:σ[l]? = some (.list xs)){ls:List Nat} (hx:xs=ls.map .loc) (h:At σ ls (acc.map (tri c))):Trips c σ l acc:=⟨ls,hx ▸ g,h⟩
noncomputable abbrev LD (o t jk dl:Nat) (x y z:Option AV):List (Option AV):=[some (.loc o),some (.loc t),some (.loc jk),some (.loc dl),x,y,z]
theorem Ev.last (i:Nat){zs:List AV} (h:ρ 3=some (.loc dl)) (e:σ[dl]? = some (.list (xs++[.loc l]))) (hz:xs.length<900) (e2:σ[l]? = some (.tup (.type "tuple") zs)) (hi:zs[i]? = some v) (hl:Nat.ble zs.length 900=true):Ev n f (lastE (i:Int)) ρ σ v σ:=
 .itemT i (.item (.var h) (.p rfl) (item_last e hz)) e2 hi hl
theorem addT {b:AO}{ds:List Nat}{σ:Sto} (g:σ[dl]? = some b) (hb:∃ xs,b=.list xs) (T:At σ ds (acc.map (tri (.type "tuple")))):Fx (·=dl) σ ((σ++[tri (.type "tuple") q]).set dl (.list (ds.map .loc++[.loc σ.length])))∧Trips (.type "tuple") ((σ++[tri (.type "tuple") q]).set dl (.list (ds.map .loc++[.loc σ.length]))) dl (acc++[q]):=by
 have F:Fx (·=dl) (σ++[tri (.type "tuple") q]) ((σ++[tri (.type "tuple") q]).set dl (.list (ds.map .loc++[.loc σ.length]))):=Fx.set rfl
 have g':=getElem?_pre (pre_app (τ:=[tri (.type "tuple") q])) g
 refine⟨Fx.trans (Fx.pre pre_app) F,Trips.new (List.getElem?_set_self (lt_of g')) (ls:=ds++[σ.length]) (List.map_append (l₂:=[_])).symm ?_⟩
 rw [List.map_append]
 refine xE11 hb fun xs q2_=>?_
 subst q2_
 have k:=At.fx (T:=tri (.type "tuple")) F (fun e=>⟨xs,e ▸ g'⟩) tri_nl (ls:=ds++[σ.length]) (qs:=acc++[q]) (by
  rw [List.map_append]
  exact(T.mono (getElem?_pre pre_app)).app (.one app_z))
 rwa [List.map_append]at k
theorem bodyD_run {o t jk:Nat} (D:Trips (.type "tuple") σ dl acc) (hz:acc.length<800):∃ σ',Exs n f bodyD (env (LD o t jk dl (In q.1) (In q.2.1) (In q.2.2))) σ .next (env (LD o t jk dl (In q.1) (In q.2.1) (In q.2.2))) σ'∧Fx (·=dl) σ σ'∧Trips (.type "tuple") σ' dl (dueStep acc q):=by
 refine xE12 D fun ds g T=>?_
 have hl:ds.length=acc.length:=T.len.trans (List.length_map ..)
 have g1:=getElem?_pre (pre_app (τ:=[AO.list []])) g
 have T1:=T.mono (getElem?_pre (pre_app (τ:=[AO.list []])))
 have t1 {c:Bool} (hc:(!(ds.map AV.loc).isEmpty)=c):Ts n f (.cmp .NotEq (.var 3) (.list [])) (env (LD o t jk dl (In q.1) (In q.2.1) (In q.2.2))) σ c (σ++[.list []]):=.cmp (.p rfl) (.list .nil (Nat.zero_le _)) (by
  show((σ++[AO.list []])[dl]?).bind _=_
  rw [g1]
  show((σ++[AO.list []])[σ.length]?).bind _=_
  rw [app_z]
  exact congrArg some hc)
 have app (hd:dueStep acc q=acc++[q]) (hT:Ts n f (.bop .And [.cmp .NotEq (.var 3) (.list []),.cmp .Eq (.bin .Add (lastE 0) (lastE 2)) (.var 4),.cmp .Eq (.bin .Add (lastE 1) (lastE 2)) (.var 5)]) (env (LD o t jk dl (In q.1) (In q.2.1) (In q.2.2))) σ false (σ++[.list []])) :
   ∃ σ',Exs n f bodyD (env (LD o t jk dl (In q.1) (In q.2.1) (In q.2.2))) σ .next (env (LD o t jk dl (In q.1) (In q.2.1) (In q.2.2))) σ'∧Fx (·=dl) σ σ'∧Trips (.type "tuple") σ' dl (dueStep acc q):=by
  have k:=addT (q:=q) g1 ⟨_,rfl⟩ T1
  exact⟨_,.one (.ite hT (.one (.expr (.append (.p rfl) (.cons (.tuple (.cons (.p rfl) (.cons (.p rfl) (.cons (.p rfl) .nil))) (Nat.le_of_ble_eq_true rfl)) .nil) g1 (getElem?_pre pre_app g1) (by rw [List.length_map,hl];exact Nat.lt_of_lt_of_le hz (by decide)))))),Fx.trans (Fx.pre pre_app) k.1,hd ▸ k.2⟩
 rcases List.eq_nil_or_concat acc with rfl | ⟨acc',p,rfl⟩
 ·cases ds with
  | cons=>nomatch hl
  | nil=>exact app rfl (.all (.stop (op:=.And) (t1 rfl)))
 ·rw [List.concat_eq_append]at *
  rw [List.map_append]at T1
  refine xE23 T1.snoc fun ds' lp q3_ Ta Tp=>?_
  subst q3_
  have hl':=Ta.len.trans (List.length_map ..)
  have hz':(ds'.map AV.loc).length<900:=by rw [List.length_map,hl'];exact Nat.lt_of_le_of_lt (Nat.le_succ _) (Nat.lt_of_lt_of_le (List.length_append ▸ hz) (by decide))
  rw [List.map_append]at g1
  have tc:Ts n f (.bop .And [.cmp .NotEq (.var 3) (.list []),.cmp .Eq (.bin .Add (lastE 0) (lastE 2)) (.var 4),.cmp .Eq (.bin .Add (lastE 1) (lastE 2)) (.var 5)]) (env (LD o t jk dl (In q.1) (In q.2.1) (In q.2.2))) σ (decide (p.1+p.2.2=q.1) && (decide (p.2.1+p.2.2=q.2.1) && true)) (σ++[.list []]):=
   .all (.go (op:=.And) (t1 (by rw [List.map_append];cases ds' <;> rfl)) (.and (.eqI (i:=p.1+p.2.2) (.bin (.last 0 rfl g1 hz' Tp rfl rfl) (.last 2 rfl g1 hz' Tp rfl rfl) rfl) (.p rfl))
    fun _=>.and (.eqI (i:=p.2.1+p.2.2) (.bin (.last 1 rfl g1 hz' Tp rfl rfl) (.last 2 rfl g1 hz' Tp rfl rfl) rfl) (.p rfl)) fun _=>.nil))
  by_cases hc:p.1+p.2.2=q.1∧p.2.1+p.2.2=q.2.1
  ·rw [dueStep_snoc,if_pos hc]
   rw [decide_eq_true hc.1,decide_eq_true hc.2]at tc
   have k:=addT (q:=(p.1,p.2.1,p.2.2+q.2.2)) g1 ⟨_,rfl⟩ Ta
   exact⟨_,.one (.ite tc (.one (.assign (.tuple (.cons (.last 0 rfl g1 hz' Tp rfl rfl) (.cons (.last 1 rfl g1 hz' Tp rfl rfl) (.cons (.bin (.last 2 rfl g1 hz' Tp rfl rfl) (.p rfl) rfl) .nil))) (Nat.le_of_ble_eq_true rfl))
    (.one (.item (.p rfl) (.p rfl) (setAt_last (getElem?_pre pre_app g1) hz')))))),Fx.trans (Fx.pre pre_app) k.1,k.2⟩
  ·have e:(decide (p.1+p.2.2=q.1) && (decide (p.2.1+p.2.2=q.2.1) && true))=false:=by
    rw [Bool.and_true,←Bool.decide_and];exact decide_eq_false hc
   exact app ((dueStep_snoc acc' p q).trans (if_neg hc)) (e ▸ tc)
theorem same_l {r:Nat} (h:σ[r]? = some (.list xs)) (h':σ'[r]? = some (.list xs)):Same σ (.loc r) σ':=fun _ _ e k=>AV.loc.inj e ▸ (h'.trans (h.symm.trans ((congrArg (fun i=>σ[i]?) (AV.loc.inj e)).trans k)))
theorem forD {o t jk r:Nat}{σ0:Sto} (h0:σ0[r]? = some (.list xs)) (hrd:r≠dl):∀ {ls:List Nat}{qs acc:List Tri}{σ:Sto}{x y z:Option AV},At σ ls (qs.map (tri (.type "tuple")))→σ[r]? = some (.list xs)→Trips (.type "tuple") σ dl acc→acc.length+qs.length≤800→
  ∃ x' y' z' σ',For n f (.tuple [.var 4,.var 5,.var 6]) bodyD (fun σ=>Same σ0 (.loc r) σ) .next (env (LD o t jk dl x' y' z')) σ' (ls.map fun l=>[AV.loc l]) (env (LD o t jk dl x y z)) σ∧Fx (·=dl) σ σ'∧Trips (.type "tuple") σ' dl (qs.foldl dueStep acc)
 | [],[],acc,σ,x,y,z,_,_,D,_=>⟨x,y,z,σ,⟨rfl,rfl,rfl⟩,fun _ _ _ e=>e,D⟩
 | [],_ :: _,_,_,_,_,_,h,_,_,_=>nomatch h
 | _ :: _,[],_,_,_,_,_,h,_,_,_=>nomatch h
 | l :: ls,q :: qs,acc,σ,x,y,z,h,hr,D,hz=>by
  refine byG fun G4 k4=>?_
  refine xE02 (List.cons.inj h) fun h1 h2=>?_
  have hz':acc.length+1+qs.length≤800:=Nat.le_trans (Nat.le_of_eq (Nat.succ_add_eq_add_succ _ _)) hz
  refine xE13 (bodyD_run (n:=n) (f:=f) (o:=o) (t:=t) (jk:=jk) (q:=q) D (Nat.le_trans (Nat.le_add_right _ _) hz')) fun σ1 e1 F1 D1=>?_
  have hr1:=F1 r _ hrd hr
  refine xE43 (forD (o:=o) (t:=t) (jk:=jk) (ls:=ls) (x:=In q.1) (y:=In q.2.1) (z:=In q.2.2) h0 hrd (At.fx F1 (fun e=>let ⟨_,g,_⟩:=D;⟨_,e ▸ g⟩) tri_nl h2) hr1 D1 (Nat.le_trans (Nat.add_le_add_right (dueStep_len acc q) _) hz')) fun x' y' z' σ2 e2 F2 D2=>?_
  refine k4 ?_
  exact⟨x',y',z',σ2,.step (.one (.tuple h1 (.inl rfl) (Asgs.varsE (xs:=[4,5,6]) rfl rfl))) e1 (.inl rfl) (same_l h0 hr1) e2,F1.trans F2,D2⟩
end
noncomputable def lawDue (one two junk:List Str):List Tri:=(lawBlocks one two junk (one.length+1) 0 one.length 0 two.length).foldl dueStep []++[(one.length,two.length,0)]
section
variable {n:Nat}{f:Nat→Option Nat}{ρ:Rho}{σ:Sto}{l:Nat}{one two junk xs:List Str}{E:Mine.E}
theorem Ev.lenS (H:Strs σ l xs) (h:Ev n f E ρ σ (.loc l) σ):Ev n f (.call (.glob (.cst (.builtin "len"))) [E]) ρ σ (.int (xs.length:Int)) σ:=List.length_map AV.str ▸ .call .glob (.cons h .nil) (.len H.1 ((List.length_map _).symm ▸ H.2))
theorem due_run {o t jk:Nat} (ho:Strs σ o one) (ht:Strs σ t two) (hj:Strs σ jk junk) (h1:one.length≤8) (h2:two.length≤8) :
  ∃ r σ',Call (n+(one.length+1)+2) (.cst (.ref 353)) [.loc o,.loc t,.loc jk] σ (.loc r) σ'∧σ <+: σ'∧Trips (.type "tuple") σ' r (lawDue one two junk)∧σ.length≤r:=by
 refine byG fun G5 k5=>?_
 have b1:one.length≤90:=Nat.le_trans h1 (by decide)
 have b2:two.length≤90:=Nat.le_trans h2 (by decide)
 have p1:σ <+: σ++[.list []]:=pre_app
 have p2:=p1.trans (pre_app (τ:=[.tup (.type "tuple") [.int ((0:Nat):Int),.int (one.length:Int),.int ((0:Nat):Int),.int (two.length:Int)]]))
 refine xE24 (blocks_run (m:=one.length+1) (n:=n) (one:=one) (two:=two) (junk:=junk) (K:=⟨o,t,jk,_,0,one.length,0,two.length⟩) ⟨ho.mono p2,ht.mono p2,hj.mono p2,app_z,Nat.le_refl _,Nat.le_refl _,b1,b2,Nat.zero_le _,Nat.zero_le _⟩ (Nat.lt_succ_self _)) fun r3 σ3 c3 p3 q4_ hr3=>?_
 refine xE12 q4_ fun ls g3 T3=>?_
 have hn:(lawBlocks one two junk (one.length+1) 0 one.length 0 two.length).length≤8:=Nat.le_trans (lawBlocks_len (Nat.zero_le _) (Nat.zero_le _)) h1
 have gd:σ3[σ.length]? = some (.list []):=getElem?_pre p3 (getElem?_pre pre_app app_z)
 refine xE43 (forD (n:=n+(one.length+1)+1) (f:=fun _=>none) (o:=o) (t:=t) (jk:=jk) (acc:=[]) (x:=none) (y:=none) (z:=none) g3 (fun e=>Nat.not_lt.mpr hr3 (e ▸ lt_of (getElem?_pre pre_app (app_z (σ:=σ) (τ:=[.list []]))))) T3 g3 ⟨[],gd,rfl⟩ (Nat.le_trans (Nat.add_le_add_left hn 0) (by decide))) fun x y z σ4 e4 F4 q5_=>?_
 refine xE12 q5_ fun ds g4 T4=>?_
 refine k5 ?_
 have p4:σ <+: σ4:=Fx.out (p2.trans p3) F4 fun e=>Nat.le_of_eq e.symm
 have lD:=foldl_due_len (qs:=lawBlocks one two junk (one.length+1) 0 one.length 0 two.length) (acc:=[])
 have p6:σ4 <+: σ4++[tri (.type "tuple") (one.length,two.length,0)]++[.list [.loc σ4.length]]:=pre_app.trans pre_app
 refine⟨_,_,.fn f353 (run0 4 rfl rfl (.inl rfl) (.cons (Ex.setE (.list .nil (Nat.zero_le _)) rfl)
  (.cons (.for (.call .glob (.cons (.p rfl) (.cons (.p rfl) (.cons (.p rfl) (.cons (.tuple (.cons (.p rfl) (.cons (.lenS (ho.mono p1) (.p rfl)) (.cons (.p rfl) (.cons (.lenS (ht.mono p1) (.p rfl)) .nil)))) (Nat.le_of_ble_eq_true rfl)) .nil)))) c3) ?_ e4)
  (.stop (fun e=>nomatch e) (.ret (.addL (.p rfl) (.list (.cons (.tuple (.cons (.lenS (ho.mono p4) (.p rfl)) (.cons (.lenS (ht.mono p4) (.p rfl)) (.cons (.p rfl) .nil))) (Nat.le_of_ble_eq_true rfl)) .nil) (Nat.le_of_ble_eq_true rfl)) (getElem?_pre p6 g4) app_z ?_)))))),(p4.trans p6).trans pre_app,
  Trips.new app_z (ls:=ds++[σ4.length]) (List.map_append (l₂:=[_])).symm ?_,pre_len (p4.trans p6)⟩
 ·exact items_m g3
 ·have l4:=T4.len.trans (List.length_map ..)
  rw [List.length_map,l4]
  exact Nat.le_trans (Nat.add_le_add_right (Nat.le_trans lD (Nat.add_le_add_left hn 0)) 1) (by decide)
 ·unfold lawDue
  rw [List.map_append]
  exact(T4.mono (getElem?_pre (p6.trans pre_app))).app (.one (getElem?_pre (pre_app.trans pre_app) app_z))
end
end Mine
end
section
open PySem
set_option maxRecDepth 100000
set_option linter.unusedVariables false
set_option autoImplicit false
namespace Mine
theorem look_same {k v:AV}{es:List (AV×AV)}:((k,v) :: es).lookup k=some v:=by rw [List.lookup_cons,beq_self_eq_true]
theorem look_ne {k m v:AV}{es:List (AV×AV)} (h:k≠m):((m,v) :: es).lookup k=es.lookup k:=by rw [List.lookup_cons,beq_false_of_ne h]
theorem dput_at {k v:AV}:∀ {es:List (AV×AV)},(dput k v es).lookup k=some v
 | []=>look_same
 | (m,u) :: r=>iteInduction (motive:=fun l=>List.lookup k l=some v) (fun h=>h ▸ look_same) fun h=>(look_ne (Ne.symm h)).trans dput_at
theorem dput_ne {k v k':AV} (hk:k'≠k):∀ {es:List (AV×AV)},(dput k v es).lookup k'=es.lookup k'
 | []=>look_ne hk
 | (m,u) :: r=>iteInduction (motive:=fun l=>List.lookup k' l=List.lookup k' ((m,u) :: r)) (fun h=>(look_ne (h ▸ hk)).trans (look_ne (h ▸ hk)).symm) fun h=>by
  rw [List.lookup_cons,List.lookup_cons,dput_ne hk]
theorem dput_length {k v:AV}:∀ {es:List (AV×AV)},(dput k v es).length≤es.length+1
 | []=>Nat.le_refl _
 | (m,u) :: r=>iteInduction (motive:=fun l=>List.length l≤r.length+1+1) (fun _=>Nat.le_succ _) fun _=>Nat.succ_le_succ dput_length
theorem intKeys_put {j:Int}{v:AV}:∀ {es:List (AV×AV)},intK es=true→intK (dput (.int j) v es)=true
 | [],_=>rfl
 | (m,u) :: r,(h:(isI m && intK r)=true)=>iteInduction (motive:=fun l=>intK l=true) (fun e=>show(isI m && intK r)=true from h) fun _=>show(isI m && intK (dput (.int j) v r))=true from Bool.and_eq_true_iff.mpr ⟨and1 h,intKeys_put (and2 h)⟩
noncomputable def DictI (σ:Sto) (p:Nat) (g:Int→Nat) (c:Nat):Prop:=∃ es,σ[p]? = some (.dict es)∧intK es=true∧es.length≤c∧∀ z:Int,(es.lookup (.int z)).getD (.int 0)=.int (g z:Int)
section
variable {P:Nat→Prop}{n:Nat}{f:Nat→Option Nat}{ρ:Rho}{σ σ':Sto}{bm pw nw p i j c c2 d:Nat}{prev g:Int→Nat}{q:Tri}
theorem DictI.fx (h:Fx P σ σ') (hp:¬ P p) (k:DictI σ p g c):DictI σ' p g c:=let ⟨es,h1,h2⟩:=k;⟨es,h _ _ hp h1,h2⟩
theorem DictI.le (k:DictI σ p g c) (h:c≤d):DictI σ p g d:=let ⟨es,h1,h2,h3,h4⟩:=k;⟨es,h1,h2,Nat.le_trans h3 h,h4⟩
theorem DictI.new (h:σ[p]? = some (.dict [])):DictI σ p (fun _=>0) 0:=⟨[],h,rfl,Nat.le_refl _,fun _=>rfl⟩
theorem Call.geti {j:Int} (hb:σ[bm]? = some (.bm "dict.get" p)) (h:DictI σ p prev c) (hc:c<900):Call n (.loc bm) [.int j,.int 0] σ (.int (prev j:Int)) σ:=
 let ⟨_,h1,h2,h3,h4⟩:=h
 h4 j ▸ .bget hb h1 h2 (Nat.lt_of_le_of_lt h3 hc)
noncomputable def putG (g:Int→Nat) (j:Int) (k:Nat):Int→Nat:=fun z=>if z=j then k else g z
theorem put_i {j:Int}{k:Nat} (h:DictI σ nw g c2) (hc:c2<900):∃ a,PutR σ (.loc nw) (.int j) (.int (k:Int)) (σ.set nw a)∧DictI (σ.set nw a) nw (putG g j k) (c2+1):=by
 refine xE14 h fun es h1 h2 h3 h4=>?_
 refine⟨.dict (dput (.int j) (.int (k:Int)) es),?_,_,List.getElem?_set_self (lt_of h1),intKeys_put h2,Nat.le_trans dput_length (Nat.succ_le_succ h3),fun z=>?_⟩
 ·exact .dict h1 (Nat.lt_of_le_of_lt h3 hc) h2
 ·by_cases hz:z=j
  ·rw [hz,dput_at]
   exact congrArg (fun x:Nat=>AV.int x) (if_pos rfl).symm
  ·rw [dput_ne fun e=>hz (AV.int.inj e),h4 z]
   exact congrArg (fun x:Nat=>AV.int x) (if_neg hz).symm
end
noncomputable def rowStep (prev:Int→Nat) (i j:Nat) (s:Tri×(Int→Nat)):Tri×(Int→Nat):=
 (if s.1.2.2<prev ((j:Int) - 1)+1 then (i - prev ((j:Int) - 1),j - prev ((j:Int) - 1),prev ((j:Int) - 1)+1)else s.1,putG s.2 j (prev ((j:Int) - 1)+1))
noncomputable def rowF (prev:Int→Nat) (blo bhi i:Nat):List Nat→Tri×(Int→Nat)→Tri×(Int→Nat)
 | [],s=>s
 | j :: js,s=>if j<blo then rowF prev blo bhi i js s else if bhi≤j then s else rowF prev blo bhi i js (rowStep prev i j s)
noncomputable def PrevOk (prev:Int→Nat) (i:Nat):Prop:=∀ j:Nat,prev ((j:Int) - 1)≤j∧prev ((j:Int) - 1)≤i
noncomputable def bodyE:List S:=[.ite (.cmp .Lt (.var 17) (.var 3)) [.cont] [],.ite (.cmp .GtE (.var 17) (.var 4)) [.brk] [],.assign [.var 18,.item (.var 16) (.var 17)] (.bin .Add (.call (.var 15) [.bin .Sub (.var 17) (.int 1),.int 0]) (.int 1)),.ite (.cmp .Gt (.var 18) (.var 11)) [.tupAssign true [9,10,11] [.bin .Add (.bin .Sub (.var 14) (.var 18)) (.int 1),.bin .Add (.bin .Sub (.var 17) (.var 18)) (.int 1),.var 18]] []]
structure FK where
 m:Nat
 o:Nat
 t:Nat
 bd:Nat
 bc:Nat
 nt:Nat
 al:Nat
 ah:Nat
 bl:Nat
 bh:Nat
noncomputable def LF (K:FK) (q:Tri) (u v w x y z:Option AV):List (Option AV):=[some (.loc K.m),In K.al,In K.ah,In K.bl,In K.bh,some (.loc K.o),some (.loc K.t),some (.loc K.bd),some (.loc K.bc),In q.1,In q.2.1,In q.2.2,u,some (.loc K.nt),v,w,x,y,z]
section
variable {P:Nat→Prop}{n:Nat}{f:Nat→Option Nat}{ρ:Rho}{σ σ':Sto}{bm pv nw p i j c c2 d:Nat}{prev g:Int→Nat}{q:Tri}{K:FK}{E₁ E₂:Mine.E}
theorem Ts.geI (h1:Ev n f E₁ ρ σ (.int (i:Int)) σ) (h2:Ev n f E₂ ρ σ (.int (j:Int)) σ):Ts n f (.cmp .GtE E₁ E₂) ρ σ (decide (j≤i)) σ:=.cmp h1 h2 ge_ints
theorem back_k {i p:Nat} (h:p≤i):(i:Int) - ((p+1:Nat):Int)+1=((i - p:Nat):Int):=by lia
theorem Ev.pI {E:Mine.E}{a b:Int} (h:Mine.pv 3 E ρ=some (.int a)) (e:a=b):Ev n f E ρ σ (.int b) σ:=e ▸ .p h
theorem rowE (hb:σ[bm]? = some (.bm "dict.get" pv)) (hp:DictI σ pv prev 100) (hg:DictI σ nw g c2) (hc2:c2<900) (P:PrevOk prev i){u z:Option AV} (h1:¬ j<K.bl) (h2:¬ K.bh≤j) :
  ∃ σ',Exs n f bodyE (env (LF K q u (In i) (some (.loc bm)) (some (.loc nw)) (In j) z)) σ .next (env (LF K (rowStep prev i j (q,g)).1 u (In i) (some (.loc bm)) (some (.loc nw)) (In j) (In (prev ((j:Int) - 1)+1)))) σ'∧Fx (·=nw) σ σ'∧DictI σ' nw (rowStep prev i j (q,g)).2 (c2+1):=by
 refine xE12 (put_i (j:=(j:Int)) (k:=prev ((j:Int) - 1)+1) hg hc2) fun a e D=>?_
 refine⟨_,.cons (.skip (.no (.ltI (.p rfl) (.p rfl)) h1)) (.cons (.skip (.no (.geI (.p rfl) (.p rfl)) h2))
  (.cons (.assign (.bin (.call (.p rfl) (.cons (.p rfl) (.cons (.p rfl) .nil)) (.geti hb hp (by decide))) (.p rfl) rfl) (.cons (Asg.varE rfl) (.one (.item (.p rfl) (.p rfl) e)))) (.one ?_))),Fx.set rfl,D⟩
 have t:=Ts.gtI (n:=n) (f:=f) (ρ:=env (LF K q u (In i) (some (.loc bm)) (some (.loc nw)) (In j) (In (prev ((j:Int) - 1)+1)))) (σ:=σ.set nw a) (E₁:=.var 18) (E₂:=.var 11) (.p rfl) (.p rfl)
 by_cases hk:q.2.2<prev ((j:Int) - 1)+1
 ·rw [show(rowStep prev i j (q,g)).1=_ from if_pos hk]
  exact .ite (t.yes hk) (.one (Ex.tupRE (.cons (.pI rfl (back_k (P j).2)) (.cons (.pI rfl (back_k (P j).1)) (.cons (.p rfl) .nil))) rfl rfl rfl))
 ·rw [show(rowStep prev i j (q,g)).1=q from if_neg hk]
  exact .skip (t.no hk)
noncomputable def IntsAt (σ:Sto) (l:Nat) (js:List Nat):Prop:=σ[l]? = some (.list (js.map fun(j:Nat)=>AV.int (j:Int)))
theorem rowRun {σ0:Sto}{l:Nat}{xs:List AV} (h0:σ0[l]? = some (.list xs)) (n1:l≠nw) (n2:bm≠nw) (n3:pv≠nw) (P:PrevOk prev i){u:Option AV}:∀ {js:List Nat}{q:Tri}{g:Int→Nat}{c2:Nat}{σ:Sto}{y z:Option AV},c2+js.length≤100→σ[l]? = some (.list xs)→σ[bm]? = some (.bm "dict.get" pv)→DictI σ pv prev 100→DictI σ nw g c2→
  ∃ y' z' σ',For n f (.var 17) bodyE (fun σ=>Same σ0 (.loc l) σ) .next (env (LF K (rowF prev K.bl K.bh i js (q,g)).1 u (In i) (some (.loc bm)) (some (.loc nw)) y' z')) σ' (js.map fun(j:Nat)=>[AV.int (j:Int)]) (env (LF K q u (In i) (some (.loc bm)) (some (.loc nw)) y z)) σ∧Fx (·=nw) σ σ'∧DictI σ' nw (rowF prev K.bl K.bh i js (q,g)).2 100
 | [],q,g,c2,σ,y,z,hz,hl,hb,hp,hg=>⟨y,z,σ,⟨rfl,rfl,rfl⟩,fun _ _ _ e=>e,hg.le hz⟩
 | j :: js,q,g,c2,σ,y,z,hz,hl,hb,hp,hg=>by
  have hz':c2+1+js.length≤100:=Nat.le_trans (Nat.le_of_eq (Nat.succ_add_eq_add_succ _ _)) hz
  by_cases h1:j<K.bl
  ·rw [show rowF prev K.bl K.bh i (j :: js) (q,g)=_ from if_pos h1]
   refine byG fun G3 k3=>?_
   obtain⟨y',z',σ',e,F,D⟩:=rowRun (js:=js) (q:=q) (y:=In j) (z:=z) h0 n1 n2 n3 P (Nat.le_trans (Nat.le_succ _) hz) hl hb hp hg
   refine k3 ?_
   exact⟨y',z',σ',.step (fl₁:=.cont) (.one (Asg.varE rfl)) (.stop (fun e=>nomatch e) (.ite (.yes (.ltI (.p rfl) (.p rfl)) h1) (.stop (fun e=>nomatch e) .cont))) (.inr rfl) (same_l h0 hl) e,F,D⟩
  ·rw [show rowF prev K.bl K.bh i (j :: js) (q,g)=_ from if_neg h1]
   by_cases h2:K.bh≤j
   ·rw [if_pos h2]
    exact⟨_,_,σ,.brk (.one (Asg.varE rfl)) (.cons (.skip (.no (.ltI (.p rfl) (.p rfl)) h1)) (.stop (fun e=>nomatch e) (.ite (.yes (.geI (.p rfl) (.p rfl)) h2) (.stop (fun e=>nomatch e) .brk)))) rfl,fun _ _ _ e=>e,hg.le (Nat.le_trans (Nat.le_add_right _ _) hz)⟩
   ·rw [if_neg h2]
    refine byG fun G5 k5=>?_
    refine xE13 (rowE (n:=n) (f:=f) (K:=K) (q:=q) (u:=u) (z:=z) hb hp hg (Nat.lt_of_lt_of_le (Nat.lt_succ_of_le (Nat.le_trans (Nat.le_add_right _ _) hz)) (by decide)) P h1 h2) fun σ1 e1 F1 D1=>?_
    have hl1:=F1 _ _ n1 hl
    obtain⟨y',z',σ',e,F,D⟩:=rowRun (js:=js) (q:=(rowStep prev i j (q,g)).1) (y:=In j) (z:=In (prev ((j:Int) - 1)+1)) h0 n1 n2 n3 P hz' hl1 (F1 _ _ n2 hb) (hp.fx F1 n3) D1
    refine k5 ?_
    exact⟨y',z',σ',.step (.one (Asg.varE rfl)) e1 (.inl rfl) (same_l h0 hl1) e,F1.trans F,D⟩
noncomputable def B2J (σ:Sto) (p:Nat) (J:Str→List Nat):Prop:=∃ ks:List (Str×AV),σ[p]? = some (.dict (ks.map fun p=>(.str p.1,p.2)))∧ks.length<900∧∀ x:Str,(∃ l,ks.lookup x=some (.loc l)∧IntsAt σ l (J x))∨(ks.lookup x=none∧J x=[])
theorem B2J.mono {J:Str→List Nat} (h:B2J σ p J) (k:σ <+: σ'):B2J σ' p J:=
 let ⟨ks,h1,h2,h3⟩:=h
 ⟨ks,getElem?_pre k h1,h2,fun x=>(h3 x).elim (fun⟨l,a,b⟩=>.inl ⟨l,a,getElem?_pre k b⟩) .inr⟩
noncomputable def bodyG:List S:=[.assign [.var 15] (.attr (.var 12) "get"),.assign [.var 16] .dict0,.for (.var 17) (.meth (.var 7) "get" [.item (.var 5) (.var 14),.var 13]) bodyE,.assign [.var 12] (.var 16)]
noncomputable def rowsF (one:List Str) (J:Str→List Nat) (blo bhi:Nat):Nat→Nat→Tri×(Int→Nat)→Tri×(Int→Nat)
 | _,0,s=>s
 | i,m+1,s=>rowsF one J blo bhi (i+1) m (rowF s.2 blo bhi i (one[i]?.elim [] J) (s.1,fun _=>0))
theorem rowStep_ok {prev:Int→Nat}{s:Tri×(Int→Nat)} (P:PrevOk prev i) (Q:PrevOk s.2 (i+1)):PrevOk (rowStep prev i j s).2 (i+1):=fun z=>
 iteInduction (motive:=fun x:Nat=>x≤z∧x≤i+1) (fun e=>by
  have:=P j
  exact⟨by lia,Nat.succ_le_succ this.2⟩) fun _=>Q z
theorem rowF_ok {prev:Int→Nat}{blo bhi:Nat} (P:PrevOk prev i):∀ {js:List Nat}{s:Tri×(Int→Nat)},PrevOk s.2 (i+1)→PrevOk (rowF prev blo bhi i js s).2 (i+1)
 | [],_,h=>h
 | j :: js,s,h=>iteInduction (motive:=fun r:Tri×(Int→Nat)=>PrevOk r.2 (i+1)) (fun _=>rowF_ok P h) fun _=>iteInduction (motive:=fun r:Tri×(Int→Nat)=>PrevOk r.2 (i+1)) (fun _=>h) fun _=>rowF_ok P (rowStep_ok P h)
theorem items_l {l:Nat}{xs:List AV} (h:σ[l]? = some (.list xs)):ItemsR σ (.loc l) (xs.map fun x=>[x]):=.list h
theorem rowsRun {one:List Str}{J:Str→List Nat} (hJ:∀ x,(J x).length≤90):∀ {m i:Nat}{q:Tri}{prev:Int→Nat}{pv:Nat}{σ:Sto}{v w x y z:Option AV},i+m≤one.length→Strs σ K.o one→B2J σ K.bd J→σ[K.nt]? = some (.list [])→DictI σ pv prev 100→PrevOk prev i→
  ∃ u' v' w' x' y' z' σ',For n f (.var 14) bodyG (fun _=>true=true) .next (env (LF K (rowsF one J K.bl K.bh i m (q,prev)).1 u' v' w' x' y' z')) σ' (rng i m) (env (LF K q (some (.loc pv)) v w x y z)) σ∧σ <+: σ'
 | 0,i,q,prev,pv,σ,v,w,x,y,z,_,_,_,_,_,_=>⟨_,v,w,x,y,z,σ,⟨rfl,rfl,rfl⟩,List.prefix_refl _⟩
 | m+1,i,q,prev,pv,σ,v,w,x,y,z,hi,ho,hb,hn,hp,P=>by
  have hi':i+1+m≤one.length:=Nat.le_trans (Nat.le_of_eq (Nat.succ_add_eq_add_succ _ _)) hi
  obtain⟨s,hs⟩:=get_some (Nat.lt_of_lt_of_le (Nat.lt_add_of_pos_right (Nat.succ_pos m)) hi)
  show ∃ u' v' w' x' y' z' σ',For n f (.var 14) bodyG (fun _=>true=true) .next (env (LF K (rowsF one J K.bl K.bh (i+1) m (rowF prev K.bl K.bh i (one[i]?.elim [] J) (q,fun _=>0))).1 u' v' w' x' y' z')) σ' _ _ _∧_
  rw [hs]
  refine byG fun G6 k6=>?_
  have p1:σ <+: σ++[.bm "dict.get" pv]:=pre_app
  have p2:=p1.trans (pre_app (τ:=[.dict []]))
  have ho2:=ho.mono p2
  have hl (l:Nat) (r:AO) (h:σ[l]? = some r):l≠(σ++[AO.bm "dict.get" pv]).length:=fun e=>Nat.lt_irrefl _ (e ▸ lt_of (getElem?_pre p1 h))
  obtain⟨l,hv,hl2⟩:∃ l,(∀ ρ,ρ 7=some (.loc K.bd)→ρ 5=some (.loc K.o)→ρ 14=some (.int (i:Int))→ρ 13=some (.loc K.nt)→Ev n f (.meth (.var 7) "get" [.item (.var 5) (.var 14),.var 13]) ρ (σ++[.bm "dict.get" pv]++[.dict []]) (.loc l) (σ++[.bm "dict.get" pv]++[.dict []]))∧IntsAt σ l (J s):=by
   refine xE13 hb fun ks h1 h2 h3=>?_
   have h1':=getElem?_pre p2 h1
   have ev (ρ:Rho) (r7:ρ 7=some (.loc K.bd)) (r5:ρ 5=some (.loc K.o)) (r14:ρ 14=some (.int (i:Int))) (r13:ρ 13=some (.loc K.nt)):Ev n f (.meth (.var 7) "get" [.item (.var 5) (.var 14),.var 13]) ρ (σ++[.bm "dict.get" pv]++[.dict []]) ((ks.lookup s).getD (.loc K.nt)) (σ++[.bm "dict.get" pv]++[.dict []]):=
    .dget (.var r7) (.cons (.itemS ho2 (.var r5) (.var r14) hs) (.cons (.var r13) .nil)) h1' h1'
   rcases h3 s with ⟨l,a,b⟩ | ⟨a,b⟩
   ·rw [a]at ev;exact⟨l,ev,b⟩
   ·rw [a]at ev;exact⟨K.nt,ev,by rw [b];exact hn⟩
  have gb:(σ++[AO.bm "dict.get" pv]++[AO.dict []])[σ.length]? = some (.bm "dict.get" pv):=getElem?_pre pre_app app_z
  have hp2:=hp.fx (Fx.pre (P:=fun _=>False) p2) id
  have hl3:=getElem?_pre p2 hl2
  refine xE33 (rowRun (n:=n) (f:=f) (K:=K) (i:=i) (q:=q) (u:=some (.loc pv)) (y:=y) (z:=z) hl3 (hl _ _ hl2) (fun e=>by rw [List.length_append]at e;exact Nat.lt_irrefl _ (Nat.lt_of_lt_of_eq (Nat.lt_succ_self _) e.symm)) (let ⟨_,h1,_⟩:=hp;hl _ _ h1) P (Nat.le_trans (Nat.add_le_add_left (hJ s) 0) (by decide)) hl3 gb hp2 (DictI.new app_z)) fun y' z' σ' e F D=>?_
  have p3:σ <+: σ':=Fx.out p1 (Fx.trans (Fx.pre pre_app) F) fun e=>e.symm ▸ pre_len p1
  obtain⟨u2,v2,w2,x2,y2,z2,σ2,e2,p4⟩:=rowsRun (q:=(rowF prev K.bl K.bh i (J s) (q,fun _=>0)).1) (v:=In i) (w:=some (.loc σ.length)) (x:=some (.loc (σ++[AO.bm "dict.get" pv]).length)) (y:=y') (z:=z') hJ hi' (ho.mono p3) (hb.mono p3) (getElem?_pre p3 hn) D (rowF_ok P fun z=>⟨Nat.zero_le _,Nat.zero_le _⟩)
  refine k6 ?_
  exact⟨u2,v2,w2,x2,y2,z2,σ2,.step (.one (Asg.varE rfl)) (.cons (Ex.setE (let ⟨_,h1,h2,_⟩:=hp;.bget (.p rfl) h1 h2) rfl) (.cons (Ex.setE .dict0 rfl) (.cons (.for (hv _ rfl rfl rfl rfl) (items_m hl3) e) (.one (Ex.setE (.p rfl) rfl))))) (.inl rfl) rfl e2,p3.trans p4⟩
end
end Mine
end
section
open PySem
set_option maxRecDepth 100000
set_option linter.unusedVariables false
set_option autoImplicit false
namespace Mine
noncomputable def tst (neg:Bool) (e:E):E:=if neg then .not (.call (.var 8) [e])else .call (.var 8) [e]
noncomputable abbrev okP (one two bj:List Str) (al bl:Nat) (neg:Bool) (q:Tri):Prop:=al<q.1∧bl<q.2.1∧(two[q.2.1 - 1]?.all fun v=>bj.contains v != neg)=true∧one[q.1 - 1]? = two[q.2.1 - 1]?
noncomputable abbrev okN (one two bj:List Str) (ah bh:Nat) (neg:Bool) (q:Tri):Prop:=q.1+q.2.2<ah∧q.2.1+q.2.2<bh∧(two[q.2.1+q.2.2]?.all fun v=>bj.contains v != neg)=true∧one[q.1+q.2.2]? = two[q.2.1+q.2.2]?
noncomputable def extP (one two bj:List Str) (al bl:Nat) (neg:Bool):Nat→Tri→Tri
 | 0,q=>q
 | m+1,q=>if okP one two bj al bl neg q then extP one two bj al bl neg m (q.1 - 1,q.2.1 - 1,q.2.2+1)else q
noncomputable def extN (one two bj:List Str) (ah bh:Nat) (neg:Bool):Nat→Tri→Tri
 | 0,q=>q
 | m+1,q=>if okN one two bj ah bh neg q then extN one two bj ah bh neg m (q.1,q.2.1,q.2.2+1)else q
noncomputable def condP (neg:Bool):E:=.bop .And [.cmp .Gt (.var 9) (.var 1),.cmp .Gt (.var 10) (.var 3),tst neg (.item (.var 6) (.bin .Sub (.var 10) (.int 1))),.cmp .Eq (.item (.var 5) (.bin .Sub (.var 9) (.int 1))) (.item (.var 6) (.bin .Sub (.var 10) (.int 1)))]
noncomputable def condN (neg:Bool):E:=.bop .And [.cmp .Lt (.bin .Add (.var 9) (.var 11)) (.var 2),.cmp .Lt (.bin .Add (.var 10) (.var 11)) (.var 4),tst neg (.item (.var 6) (.bin .Add (.var 10) (.var 11))),.cmp .Eq (.item (.var 5) (.bin .Add (.var 9) (.var 11))) (.item (.var 6) (.bin .Add (.var 10) (.var 11)))]
noncomputable def bodyP:List S:=[.tupAssign true [9,10,11] [.bin .Sub (.var 9) (.int 1),.bin .Sub (.var 10) (.int 1),.bin .Add (.var 11) (.int 1)]]
noncomputable def bodyN (neg:Bool):List S:=if neg then [.aug 11 (.int 1)]else [.assign [.var 11] (.bin .Add (.var 11) (.int 1))]
structure FO (K:FK) (σ:Sto) (bs:Nat) (one two bj:List Str):Prop where
 ho:Strs σ K.o one
 ht:Strs σ K.t two
 hc:σ[K.bc]? = some (.bm "set.__contains__" bs)
 hs:σ[bs]? = some (.set bj)
 ha:K.ah≤one.length
 hb:K.bh≤two.length
section
variable {n:Nat}{f:Nat→Option Nat}{ρ:Rho}{σ σ':Sto}{K:FK}{bs i j:Nat}{one two bj:List Str}{q:Tri}{u v w x y z:Option AV}{neg:Bool}{E E₁ E₂ E₃ E₄:Mine.E}
theorem and4' {p q r:Prop} [Decidable p] [Decidable q] [Decidable r]{c:Bool} (h1:Ts n f E₁ ρ σ (decide p) σ) (h2:p→Ts n f E₂ ρ σ (decide q) σ) (h3:p→q→Ts n f E₃ ρ σ c σ) (h4:p→q→Ts n f E₄ ρ σ (decide r) σ) :
  Ts n f (.bop .And [E₁,E₂,E₃,E₄]) ρ σ (decide (p∧q∧c=true∧r)) σ:=by
 have h:=Ts.all (TsL.and h1 fun a=>TsL.and (h2 (of_decide_eq_true a)) fun b=>TsL.and (h3 (of_decide_eq_true a) (of_decide_eq_true b)) fun _=>TsL.and (h4 (of_decide_eq_true a) (of_decide_eq_true b)) fun _=>TsL.nil)
 have e:(decide p && (decide q && (c && (decide r && (BoolOp.And == BoolOp.And)))))=decide (p∧q∧c=true∧r):=by simp
 exact e ▸ h
theorem Ts.cast {c c':Bool} (h:Ts n f E ρ σ c σ') (e:c=c'):Ts n f E ρ σ c' σ':=e ▸ h
theorem tst_run (H:FO K σ bs one two bj) (h8:ρ 8=some (.loc K.bc)) (h1:Ev n f E₁ ρ σ (.loc K.t) σ) (h2:Ev n f E₂ ρ σ (.int (i:Int)) σ) (hi:i<two.length):Ts n f (tst neg (.item E₁ E₂)) ρ σ (two[i]?.all fun v=>bj.contains v != neg) σ:=by
 refine xE11 (get_some hi) fun s hs=>?_
 rw [hs]
 have t:Ts n f (.call (.var 8) [.item E₁ E₂]) ρ σ (bj.contains s) σ:=.val rfl (.call (.var h8) (.cons (.itemS H.ht h1 h2 hs) .nil) (.bcon H.hc H.hs)) rfl
 cases neg with
 | false=>exact t.cast (Bool.bne_false _).symm
 | true=>exact t.not.cast (Bool.bne_true _).symm
theorem lt_sub {a x l:Nat} (h:a<x) (hx:x≤l):x - 1<l:=Nat.lt_of_lt_of_le (Nat.sub_lt (Nat.zero_lt_of_lt h) Nat.one_pos) hx
theorem condP_run (H:FO K σ bs one two bj) (h1:q.1≤one.length) (h2:q.2.1≤two.length):Ts n f (condP neg) (env (LF K q u v w x y z)) σ (decide (okP one two bj K.al K.bl neg q)) σ:=
 and4' (.gtI (.p rfl) (.p rfl)) (fun _=>.gtI (.p rfl) (.p rfl)) (fun p1 p2=>tst_run H rfl (.p rfl) (.sub1 rfl (Nat.zero_lt_of_lt p2)) (lt_sub p2 h2))
  fun p1 p2=>.eqS H.ho H.ht (.p rfl) (.sub1 rfl (Nat.zero_lt_of_lt p1)) (.p rfl) (.sub1 rfl (Nat.zero_lt_of_lt p2)) (lt_sub p1 h1) (lt_sub p2 h2)
theorem condN_run (H:FO K σ bs one two bj):Ts n f (condN neg) (env (LF K q u v w x y z)) σ (decide (okN one two bj K.ah K.bh neg q)) σ:=
 and4' (.ltI (.p rfl) (.p rfl)) (fun _=>.ltI (.p rfl) (.p rfl)) (fun h1 h2=>tst_run H rfl (.p rfl) (.p rfl) (Nat.lt_of_lt_of_le h2 H.hb))
  fun h1 h2=>.eqS H.ho H.ht (.p rfl) (.p rfl) (.p rfl) (.p rfl) (Nat.lt_of_lt_of_le h1 H.ha) (Nat.lt_of_lt_of_le h2 H.hb)
theorem whileP (H:FO K σ bs one two bj):∀ {m:Nat}{q:Tri},q.1≤one.length→q.2.1≤two.length→q.1≤K.al+m→While n f (condP neg) bodyP m (env (LF K q u v w x y z)) σ (env (LF K (extP one two bj K.al K.bl neg m q) u v w x y z)) σ
 | 0,q,h1,h2,h=>.done ((condP_run H h1 h2).no fun c=>Nat.not_lt.mpr h c.1)
 | m+1,q,h1,h2,h=>by
  by_cases hc:okP one two bj K.al K.bl neg q
  ·rw [show extP one two bj K.al K.bl neg (m+1) q=_ from if_pos hc]
   exact .step ((condP_run H h1 h2).yes hc) (.one (Ex.tupRE (.cons (.sub1 rfl (Nat.zero_lt_of_lt hc.1)) (.cons (.sub1 rfl (Nat.zero_lt_of_lt hc.2.1)) (.cons (.p rfl) .nil))) rfl rfl rfl))
    (whileP H (q:=(q.1 - 1,q.2.1 - 1,q.2.2+1)) (Nat.le_trans (Nat.sub_le _ _) h1) (Nat.le_trans (Nat.sub_le _ _) h2) (Nat.sub_le_of_le_add h))
  ·rw [show extP one two bj K.al K.bl neg (m+1) q=q from if_neg hc]
   exact .done ((condP_run H h1 h2).no hc)
theorem bodyN_run:∀ {neg:Bool},Exs n f (bodyN neg) (env (LF K q u v w x y z)) σ .next (env (LF K (q.1,q.2.1,q.2.2+1) u v w x y z)) σ
 | true=>.one (upd_env (l:=LF K q u v w x y z) (i:=11) (v:=.int ((q.2.2:Int)+1)) rfl ▸ Ex.aug rfl (.p rfl))
 | false=>.one (Ex.setE (.p rfl) rfl)
theorem whileN (H:FO K σ bs one two bj):∀ {m:Nat}{q:Tri},K.ah≤q.1+q.2.2+m→While n f (condN neg) (bodyN neg) m (env (LF K q u v w x y z)) σ (env (LF K (extN one two bj K.ah K.bh neg m q) u v w x y z)) σ
 | 0,q,h=>.done ((condN_run H).no fun c=>Nat.not_lt.mpr h c.1)
 | m+1,q,h=>by
  by_cases hc:okN one two bj K.ah K.bh neg q
  ·rw [show extN one two bj K.ah K.bh neg (m+1) q=_ from if_pos hc]
   exact .step ((condN_run H).yes hc) bodyN_run (whileN H (q:=(q.1,q.2.1,q.2.2+1)) (Nat.le_trans h (Nat.le_of_eq (Nat.succ_add_eq_add_succ _ _).symm)))
  ·rw [show extN one two bj K.ah K.bh neg (m+1) q=q from if_neg hc]
   exact .done ((condN_run H).no hc)
theorem match_run {a b c:AV}:Call (n+1) (.cst (.ref 135)) [a,b,c] σ (.loc (σ++[AO.tup (.type "tuple") [a,b,c]]).length) (σ++[.tup (.type "tuple") [a,b,c]]++[.tup (.ref 135) [a,b,c]]):=
 .match (fun e=>nomatch e) ⟨_,_,rfl,app_z⟩ (run0 0 rfl rfl (.inl rfl) (.cons .doc (.stop (fun e=>nomatch e) (.ret (.tnew .glob (.cons (.p rfl) (.cons (.tuple (.cons (.p rfl) (.cons (.p rfl) (.cons (.p rfl) .nil))) (Nat.le_of_ble_eq_true rfl)) .nil)) app_z (Nat.le_of_ble_eq_true rfl))))))
end
noncomputable def PrevIn (prev:Int→Nat) (al bl i:Nat):Prop:=∀ j:Nat,bl≤j→bl+prev ((j:Int) - 1)≤j∧al+prev ((j:Int) - 1)≤i
section
variable {al ah bl bh i j:Nat}{prev:Int→Nat}{one two bj:List Str}{J:Str→List Nat}{neg:Bool}
theorem cut_in {a b p x:Nat} (h:a+p≤x) (hx:x<b):a≤x - p∧x - p+(p+1)≤b:=by lia
theorem rowStep_in {s:Tri×(Int→Nat)} (P:PrevIn prev al bl i) (Q:PrevIn s.2 al bl (i+1)) (I:Inside al ah bl bh s.1) (hi:i<ah) (h1:bl≤j) (h2:j<bh):PrevIn (rowStep prev i j s).2 al bl (i+1)∧Inside al ah bl bh (rowStep prev i j s).1:=by
 have p:=P j h1
 refine⟨fun z hz=>iteInduction (motive:=fun x:Nat=>bl+x≤z∧al+x≤i+1) (fun e=>⟨by lia,Nat.succ_le_succ p.2⟩) fun _=>Q z hz,iteInduction (motive:=Inside al ah bl bh) (fun _=>?_) fun _=>I⟩
 have a:=cut_in p.1 h2
 have b:=cut_in p.2 hi
 exact⟨b.1,b.2,a.1,a.2⟩
theorem rowF_in (P:PrevIn prev al bl i) (hi:i<ah):∀ {js:List Nat}{s:Tri×(Int→Nat)},PrevIn s.2 al bl (i+1)→Inside al ah bl bh s.1→PrevIn (rowF prev bl bh i js s).2 al bl (i+1)∧Inside al ah bl bh (rowF prev bl bh i js s).1
 | [],_,h,k=>⟨h,k⟩
 | j :: js,s,h,k=>iteInduction (motive:=fun r:Tri×(Int→Nat)=>PrevIn r.2 al bl (i+1)∧Inside al ah bl bh r.1) (fun _=>rowF_in P hi h k) fun c1=>iteInduction (motive:=fun r:Tri×(Int→Nat)=>PrevIn r.2 al bl (i+1)∧Inside al ah bl bh r.1) (fun _=>⟨h,k⟩) fun c2=>
  let r:=rowStep_in P h k hi (Nat.le_of_not_lt c1) (Nat.lt_of_not_le c2)
  rowF_in P hi r.1 r.2
theorem prev0 {al bl i:Nat} (h:al≤i):PrevIn (fun _=>0) al bl i:=fun _ hz=>⟨hz,h⟩
theorem rowsF_in:∀ {m i:Nat}{s:Tri×(Int→Nat)},al≤i→i+m≤ah→PrevIn s.2 al bl i→Inside al ah bl bh s.1→Inside al ah bl bh (rowsF one J bl bh i m s).1
 | 0,_,_,_,_,_,k=>k
 | m+1,i,s,hi,hm,h,k=>
  let r:=rowF_in (ah:=ah) (bh:=bh) (js:=one[i]?.elim [] J) (s:=(s.1,fun _=>0)) h (Nat.lt_of_lt_of_le (Nat.lt_add_of_pos_right (Nat.succ_pos m)) hm) (prev0 (Nat.le_succ_of_le hi)) k
  rowsF_in (m:=m) (i:=i+1) (Nat.le_succ_of_le hi) (Nat.le_trans (Nat.le_of_eq (Nat.succ_add_eq_add_succ _ _)) hm) r.1 r.2
theorem extP_in:∀ {m:Nat}{q:Tri},Inside al ah bl bh q→Inside al ah bl bh (extP one two bj al bl neg m q)
 | 0,_,h=>h
 | m+1,q,h=>iteInduction (motive:=Inside al ah bl bh) (fun hc=>extP_in ⟨Nat.le_sub_one_of_lt hc.1,(sub1_add hc.1).symm ▸ h.2.1,Nat.le_sub_one_of_lt hc.2.1,(sub1_add hc.2.1).symm ▸ h.2.2.2⟩) fun _=>h
theorem extN_in:∀ {m:Nat}{q:Tri},Inside al ah bl bh q→Inside al ah bl bh (extN one two bj ah bh neg m q)
 | 0,_,h=>h
 | m+1,q,h=>iteInduction (motive:=Inside al ah bl bh) (fun hc=>extN_in ⟨h.1,hc.1,h.2.2.1,hc.2.1⟩) fun _=>h
end
noncomputable def flm1 (one:List Str) (J:Str→List Nat) (al ah bl bh:Nat):Tri:=(rowsF one J bl bh al (ah - al) ((al,bl,0),fun _=>0)).1
noncomputable def flm (one two bj:List Str) (J:Str→List Nat) (al ah bl bh:Nat):Tri:=
 extN one two bj ah bh false ah (extP one two bj al bl false ah (extN one two bj ah bh true ah (extP one two bj al bl true ah (flm1 one J al ah bl bh))))
section
variable {al ah bl bh:Nat}{one two bj:List Str}{J:Str→List Nat}
theorem flm1_in (h1:al≤ah) (h2:bl≤bh):Inside al ah bl bh (flm1 one J al ah bl bh):=rowsF_in (Nat.le_refl _) (Nat.le_of_eq (Nat.add_sub_cancel' h1)) (prev0 (Nat.le_refl _)) ⟨Nat.le_refl _,h1,Nat.le_refl _,h2⟩
theorem flm_in (h1:al≤ah) (h2:bl≤bh):Inside al ah bl bh (flm one two bj J al ah bl bh):=extN_in (extP_in (extN_in (extP_in (flm1_in h1 h2))))
end
theorem le_one {x k b l:Nat} (h:x+k≤b) (hb:b≤l):x≤l:=Nat.le_trans (Nat.le_add_right _ _) (Nat.le_trans h hb)
theorem le_two {x k b a:Nat} (h:x+k≤b):x≤a+b:=Nat.le_trans (Nat.le_trans (Nat.le_add_right _ _) h) (Nat.le_add_left _ _)
structure SM (σ:Sto) (m d o t bd bs:Nat) (fs:List (Str×AV)) (one two bj:List Str) (J:Str→List Nat):Prop where
 hm:σ[m]? = some (.inst 242 d)
 hd:σ[d]? = some (.fields fs)
 ha:fs.lookup ("a":Str)=some (.loc o)
 hb:fs.lookup ("b":Str)=some (.loc t)
 h2:fs.lookup ("b2j":Str)=some (.loc bd)
 hj:fs.lookup ("bjunk":Str)=some (.loc bs)
 ho:Strs σ o one
 ht:Strs σ t two
 hJ:B2J σ bd J
 hs:σ[bs]? = some (.set bj)
theorem SM.mono {σ σ':Sto}{m d o t bd bs:Nat}{fs:List (Str×AV)}{one two bj:List Str}{J:Str→List Nat} (h:SM σ m d o t bd bs fs one two bj J) (p:σ <+: σ'):SM σ' m d o t bd bs fs one two bj J:=
 ⟨getElem?_pre p h.hm,getElem?_pre p h.hd,h.ha,h.hb,h.h2,h.hj,h.ho.mono p,h.ht.mono p,h.hJ.mono p,getElem?_pre p h.hs⟩
section
variable {n:Nat}{f:Nat→Option Nat}{ρ:Rho}{σ:Sto}{m d o t bd bs al ah bl bh:Nat}{fs:List (Str×AV)}{one two bj:List Str}{J:Str→List Nat}{E:Mine.E}{x:Str}
theorem Ev.fld {l:Nat} (h:Ev n f E ρ σ (.loc m) σ) (hm:σ[m]? = some (.inst 242 d)) (hd:σ[d]? = some (.fields fs)) (hv:fs.lookup x=some (.loc l)) (hn:fieldNames.contains x=true):Ev n f (.attr E x) ρ σ (.loc l) σ:=.attr h hm hd (.inl rfl) hn hv fun _ e=>nomatch e
theorem flm_run (H:SM σ m d o t bd bs fs one two bj J) (hJ:∀ x,(J x).length≤90) (a1:al≤ah) (a2:ah≤one.length) (a3:ah≤90) (b1:bl≤bh) (b2:bh≤two.length) :
  ∃ r σ',Call (n+2) (.cst (.ref 196)) [.loc m,.int (al:Int),.int (ah:Int),.int (bl:Int),.int (bh:Int)] σ (.loc r) σ'∧σ <+: σ'∧σ'[r]? = some (tri (.ref 135) (flm one two bj J al ah bl bh)):=by
 refine byG fun G2 k2=>?_
 have p1:σ <+: σ++[.bm "set.__contains__" bs]:=pre_app
 have p2:=p1.trans (pre_app (τ:=[.dict []]))
 have p3:=p2.trans (pre_app (τ:=[.list []]))
 obtain⟨u,v,w,x,y,z,σ4,e4,p4⟩:=rowsRun (n:=n+1) (f:=fun _=>none) (one:=one) (K:=⟨m,o,t,bd,σ.length,(σ++[AO.bm "set.__contains__" bs]++[AO.dict []]).length,al,ah,bl,bh⟩) (m:=ah - al) (i:=al) (q:=(al,bl,0)) (v:=none) (w:=none) (x:=none) (y:=none) (z:=none) hJ (Nat.le_trans (Nat.le_of_eq (Nat.add_sub_cancel' a1)) a2) (H.ho.mono p3) (H.hJ.mono p3) app_z
  ((DictI.new (getElem?_pre pre_app app_z)).le (Nat.zero_le _)) fun _=>⟨Nat.zero_le _,Nat.zero_le _⟩
 refine k2 ?_
 have p5:=p3.trans p4
 have I1:=flm1_in (one:=one) (J:=J) a1 b1
 have I2:=extP_in (one:=one) (two:=two) (bj:=bj) (neg:=true) (m:=ah) I1
 have I3:=extN_in (one:=one) (two:=two) (bj:=bj) (neg:=true) (m:=ah) I2
 have H':FO ⟨m,o,t,bd,σ.length,(σ++[AO.bm "set.__contains__" bs]++[AO.dict []]).length,al,ah,bl,bh⟩ σ4 bs one two bj:=⟨H.ho.mono p5,H.ht.mono p5,getElem?_pre p4 (getElem?_pre pre_app (getElem?_pre pre_app app_z)),getElem?_pre p5 H.hs,a2,b2⟩
 exact⟨_,_,.fn f196 (run0 14 rfl rfl (.inl rfl) (.cons .doc (.cons (Ex.tupFE (.cons (.fld (.p rfl) H.hm H.hd H.ha rfl) (.cons (.fld (.p rfl) H.hm H.hd H.hb rfl) (.cons (.fld (.p rfl) H.hm H.hd H.h2 rfl) (.cons (.bcon (.fld (.p rfl) H.hm H.hd H.hj rfl) H.hs) .nil)))) rfl rfl rfl)
  (.cons (.skip (.cmp (.p rfl) (.p rfl) rfl)) (.cons (.skip (.cmp (.p rfl) (.p rfl) rfl)) (.cons (Ex.tupRE (.cons (.p rfl) (.cons (.p rfl) (.cons (.p rfl) .nil))) rfl rfl rfl)
  (.cons (Ex.setE .dict0 rfl) (.cons (Ex.setE (.list .nil (Nat.zero_le _)) rfl) (.cons (.rng (.p rfl) (.p rfl) (Nat.le_trans (Nat.le_trans a1 a3) (by decide)) (Nat.le_trans a3 (by decide)) e4)
  (.cons (.while (whileP H' (neg:=true) (m:=ah) (le_one I1.2.1 a2) (le_one I1.2.2.2 b2) (le_two I1.2.1)))
  (.cons (.while (whileN H' (neg:=true) (m:=ah) (Nat.le_add_left _ _)))
  (.cons (.while (whileP H' (neg:=false) (m:=ah) (le_one I3.2.1 a2) (le_one I3.2.2.2 b2) (le_two I3.2.1)))
  (.cons (.while (whileN H' (neg:=false) (m:=ah) (Nat.le_add_left _ _)))
  (.stop (fun e=>nomatch e) (.ret (.call .glob (.cons (.p rfl) (.cons (.p rfl) (.cons (.p rfl) .nil))) match_run)))))))))))))))),(p5.trans pre_app).trans pre_app,app_z⟩
end
end Mine
end
section
open PySem
set_option maxRecDepth 100000
set_option linter.unusedVariables false
set_option autoImplicit false
namespace Mine
noncomputable abbrev Win:=Nat×Nat×Nat×Nat
noncomputable abbrev win (w:Win):AO:=.tup (.type "tuple") [.int (w.1:Int),.int (w.2.1:Int),.int (w.2.2.1:Int),.int (w.2.2.2:Int)]
theorem win_nl (w:Win) (xs:List AV):win w≠.list xs:=fun e=>(nomatch e)
noncomputable abbrev InW (w:Win) (q:Tri):Prop:=Inside w.1 w.2.1 w.2.2.1 w.2.2.2 q
noncomputable def push1 (w:Win) (q:Tri) (st:List Win):List Win:=if w.1<q.1∧w.2.2.1<q.2.1 then (w.1,q.1,w.2.2.1,q.2.1) :: st else st
noncomputable def push2 (w:Win) (q:Tri) (st:List Win):List Win:=if q.1+q.2.2<w.2.1∧q.2.1+q.2.2<w.2.2.2 then (q.1+q.2.2,w.2.1,q.2.1+q.2.2,w.2.2.2) :: st else st
noncomputable def gLoop (F:Win→Tri):Nat→List Win→List Tri→List Tri
 | _,[],acc=>acc
 | 0,_ :: _,acc=>acc
 | m+1,w :: st,acc=>if (F w).2.2=0 then gLoop F m st acc else gLoop F m (push2 w (F w) (push1 w (F w) st)) (acc++[F w])
noncomputable def wsum:List Win→Nat
 | []=>0
 | w :: st=>2 * (w.2.1 - w.1)+1+wsum st
noncomputable def WinsOk (a b:Nat):List Win→Prop
 | []=>True
 | w :: st=>(w.1≤w.2.1∧w.2.1≤a∧w.2.2.1≤w.2.2.2∧w.2.2.2≤b)∧WinsOk a b st
section
variable {w:Win}{q:Tri}{st:List Win}{a b:Nat}
theorem push1_sum:wsum (push1 w q st)≤2 * (q.1 - w.1)+1+wsum st:=iteInduction (motive:=fun l=>wsum l≤2 * (q.1 - w.1)+1+wsum st) (fun _=>Nat.le_refl _) fun _=>Nat.le_add_left _ _
theorem push2_sum:wsum (push2 w q st)≤2 * (w.2.1 - (q.1+q.2.2))+1+wsum st:=iteInduction (motive:=fun l=>wsum l≤2 * (w.2.1 - (q.1+q.2.2))+1+wsum st) (fun _=>Nat.le_refl _) fun _=>Nat.le_add_left _ _
theorem push_sum (I:InW w q) (hk:¬ q.2.2=0):wsum (push2 w q (push1 w q st))<wsum (w :: st):=by
 have h1:=push1_sum (w:=w) (q:=q) (st:=st)
 have h2:=push2_sum (w:=w) (q:=q) (st:=push1 w q st)
 have h3:=ar_len I.1 I.2.1 hk (Nat.le_refl _) (Nat.le_refl _)
 show _<2 * (w.2.1 - w.1)+1+wsum st
 lia
theorem push_ok (I:InW w q) (h:WinsOk a b (w :: st)):WinsOk a b (push2 w q (push1 w q st)):=by
 have q1:q.1≤w.2.1:=Nat.le_trans (Nat.le_add_right _ _) I.2.1
 have q2:q.2.1≤w.2.2.2:=Nat.le_trans (Nat.le_add_right _ _) I.2.2.2
 have p:WinsOk a b (push1 w q st):=iteInduction (motive:=WinsOk a b) (fun _=>⟨⟨I.1,Nat.le_trans q1 h.1.2.1,I.2.2.1,Nat.le_trans q2 h.1.2.2.2⟩,h.2⟩) fun _=>h.2
 exact iteInduction (motive:=WinsOk a b) (fun _=>⟨⟨I.2.1,h.1.2.1,I.2.2.2,h.1.2.2.2⟩,p⟩) fun _=>p
theorem wsum_len:∀ {st:List Win},st.length≤wsum st
 | []=>Nat.le_refl _
 | w :: st=>by
  show st.length+1≤2 * (w.2.1 - w.1)+1+wsum st
  rw [Nat.add_right_comm]
  exact Nat.succ_le_succ (Nat.le_trans wsum_len (Nat.le_add_left _ _))
end
structure GS (σ0 σ:Sto) (sl al:Nat) (st:List Win) (acc:List Tri):Prop where
 pre:σ0 <+: σ
 ne:sl≠al
 h1:σ0.length≤sl
 h2:σ0.length≤al
 st:∃ ls:List Nat,σ[sl]? = some (.list (ls.reverse.map .loc))∧At σ ls (st.map win)
 ac:Trips (.ref 135) σ al acc
section
variable {n:Nat}{f:Nat→Option Nat}{ρ:Rho}{σ σ0 σ':Sto}{sl al l r:Nat}{st:List Win}{acc:List Tri}{w:Win}{q:Tri}{es:List E}{t1 t2:E}{c:Value}
theorem Trips.mono (h:Trips c σ l acc) (p:σ <+: σ'):Trips c σ' l acc:=let ⟨ls,h1,h2⟩:=h;⟨ls,getElem?_pre p h1,h2.mono (getElem?_pre p)⟩
theorem GS.mono (G:GS σ0 σ sl al st acc) (p:σ <+: σ'):GS σ0 σ' sl al st acc:=
 let ⟨ls,a,b⟩:=G.st
 ⟨G.pre.trans p,G.ne,G.h1,G.h2,⟨ls,getElem?_pre p a,b.mono (getElem?_pre p)⟩,G.ac.mono p⟩
theorem pre_set {a:AO} (p:σ0 <+: σ) (h:σ0.length≤l):σ0 <+: σ.set l a:=Fx.out (P:=(·=l)) p (Fx.set rfl) fun e=>e ▸ h
theorem GS.queue (G:GS σ0 σ sl al st acc){ls:List Nat}{st':List Win} (h:At σ ls (st'.map win)):GS σ0 (σ.set sl (.list (ls.reverse.map .loc))) sl al st' acc:=by
 refine xE12 G.st fun ks a b=>?_
 refine xE12 G.ac fun rs c d=>?_
 have F:Fx (·=sl) σ (σ.set sl (.list (ls.reverse.map .loc))):=Fx.set rfl
 have hP:∀ {i:Nat},i=sl→∃ xs,σ[i]? = some (.list xs):=fun e=>⟨_,e ▸ a⟩
 exact⟨pre_set G.pre G.h1,G.ne,G.h1,G.h2,⟨ls,List.getElem?_set_self (lt_of a),h.fx F hP win_nl⟩,rs,F _ _ G.ne.symm c,d.fx F hP tri_nl⟩
theorem GS.found (G:GS σ0 σ sl al st acc) (hz:acc.length<800) (h4:ρ 4=some (.loc al)) (h12:ρ 12=some (.loc r)) (hr:σ[r]? = some (tri (.ref 135) q)):∃ σ',Ex n f (.expr (.meth (.var 4) "append" [.var 12])) ρ σ .next ρ σ'∧GS σ0 σ' sl al st (acc++[q]):=by
 refine xE12 G.st fun ks a b=>?_
 refine xE12 G.ac fun rs c d=>?_
 have F:Fx (·=al) σ (σ.set al (.list (rs.map .loc++[.loc r]))):=Fx.set rfl
 have hP:∀ {i:Nat},i=al→∃ xs,σ[i]? = some (.list xs):=fun e=>⟨_,e ▸ c⟩
 have d':=At.fx (ls:=rs++[r]) (qs:=acc++[q]) F hP tri_nl (by rw [List.map_append];exact d.app (.one hr))
 exact⟨_,.expr (.append (.var h4) (.cons (.var h12) .nil) c c (by rw [List.length_map,d.len,List.length_map];exact Nat.lt_of_lt_of_le hz (by decide))),pre_set G.pre G.h2,G.ne,G.h1,G.h2,⟨ks,F _ _ G.ne a,b.fx F hP win_nl⟩,rs++[r],(List.map_append (l₂:=[r])).symm ▸ List.getElem?_set_self (lt_of c),d'⟩
theorem Ts.and2 {p q:Prop} [Decidable p] [Decidable q] (h1:Ts n f t1 ρ σ (decide p) σ) (h2:Ts n f t2 ρ σ (decide q) σ):Ts n f (.bop .And [t1,t2]) ρ σ (decide (p∧q)) σ:=by
 have h:=Ts.all (TsL.and h1 fun _=>TsL.and h2 fun _=>TsL.nil)
 have e:(decide p && (decide q && (BoolOp.And == BoolOp.And)))=decide (p∧q):=by rw [Bool.decide_and];exact congrArg (_ && ·) (Bool.and_true _)
 exact e ▸ h
theorem GS.push {c1 c2:Prop} [Decidable c1] [Decidable c2] (G:GS σ0 σ sl al st acc) (hz:st.length<800) (k1:Ts n f t1 ρ σ (decide c1) σ) (k2:Ts n f t2 ρ σ (decide c2) σ) (h3:ρ 3=some (.loc sl)) (he:Evs n f es ρ σ [.int (w.1:Int),.int (w.2.1:Int),.int (w.2.2.1:Int),.int (w.2.2.2:Int)] σ) :
  ∃ σ',Ex n f (.ite (.bop .And [t1,t2]) [.expr (.meth (.var 3) "append" [.tuple es])] []) ρ σ .next ρ σ'∧GS σ0 σ' sl al (if c1∧c2 then w :: st else st) acc:=by
 by_cases h:c1∧c2
 ·rw [if_pos h]
  refine xE12 G.st fun ls a b=>?_
  have G':=(G.mono (pre_app (τ:=[win w]))).queue (ls:=σ.length :: ls) (st':=w :: st) (congr (congrArg List.cons app_z) (b.mono (getElem?_pre pre_app)))
  rw [List.reverse_cons,List.map_append]at G'
  exact⟨_,.ite ((Ts.and2 k1 k2).yes h) (.one (.expr (.append (.var h3) (.cons (.tuple he (Nat.le_of_ble_eq_true rfl)) .nil) a (getElem?_pre pre_app a) (by rw [List.length_map,List.length_reverse,b.len,List.length_map];exact Nat.lt_of_lt_of_le hz (by decide))))),G'⟩
 ·rw [if_neg h]
  exact⟨_,.skip ((Ts.and2 k1 k2).no h),G⟩
end
noncomputable def bodyQ:List S:=[.assign [.tuple [.var 5,.var 6,.var 7,.var 8]] (.meth (.var 3) "pop" []),.assign [.tuple [.var 9,.var 10,.var 11],.var 12] (.meth (.var 0) "find_longest_match" [.var 5,.var 6,.var 7,.var 8]),.ite (.var 11) [.expr (.meth (.var 4) "append" [.var 12]),.ite (.bop .And [.cmp .Lt (.var 5) (.var 9),.cmp .Lt (.var 7) (.var 10)]) [.expr (.meth (.var 3) "append" [.tuple [.var 5,.var 9,.var 7,.var 10]])] [],.ite (.bop .And [.cmp .Lt (.bin .Add (.var 9) (.var 11)) (.var 6),.cmp .Lt (.bin .Add (.var 10) (.var 11)) (.var 8)]) [.expr (.meth (.var 3) "append" [.tuple [.bin .Add (.var 9) (.var 11),.var 6,.bin .Add (.var 10) (.var 11),.var 8]])] []] []]
structure Q8 where
 x5:Option AV
 x6:Option AV
 x7:Option AV
 x8:Option AV
 x9:Option AV
 x10:Option AV
 x11:Option AV
 x12:Option AV
noncomputable def LQ (m a b sl al:Nat) (X:Q8):List (Option AV):=[some (.loc m),In a,In b,some (.loc sl),some (.loc al),X.x5,X.x6,X.x7,X.x8,X.x9,X.x10,X.x11,X.x12,none,none,none,none,none,none,none]
noncomputable def flmW (one two bj:List Str) (J:Str→List Nat) (w:Win):Tri:=flm one two bj J w.1 w.2.1 w.2.2.1 w.2.2.2
section
variable {n:Nat}{f:Nat→Option Nat}{ρ:Rho}{σ σ0 σ':Sto}{m d o t bd bs sl al:Nat}{fs:List (Str×AV)}{one two bj:List Str}{J:Str→List Nat}{st:List Win}{acc:List Tri}{X:Q8}{xs:List AV}{E:Mine.E}{l:Nat}
theorem Ts.lst (h:Ev n f E ρ σ (.loc l) σ) (hp:isVal E=true) (e:σ[l]? = some (.list xs)) (hz:xs.length≤900):Ts n f E ρ σ (!xs.isEmpty) σ:=.val hp h ((congrArg (Option.bind · truthO) e).trans (if_pos hz))
theorem not_z {i:Nat} (h:¬ i=0):((i:Int) != 0)=true:=bne_iff_ne.mpr fun e=>h (Int.ofNat.inj e)
theorem gl_run (M:SM σ0 m d o t bd bs fs one two bj J) (hJ:∀ x,(J x).length≤90) (hf:fs.lookup ("find_longest_match":Str)=none) (l1:one.length≤90):∀ {mm:Nat}{st:List Win}{acc:List Tri}{σ:Sto}{X:Q8},GS σ0 σ sl al st acc→WinsOk one.length two.length st→wsum st≤mm→acc.length+mm≤500→
  ∃ X' σ',While (n+2) f (.var 3) bodyQ mm (env (LQ m one.length two.length sl al X)) σ (env (LQ m one.length two.length sl al X')) σ'∧GS σ0 σ' sl al [] (gLoop (flmW one two bj J) mm st acc):=by
 intro mm
 induction mm with
 | zero=>
  intro st acc σ X G hw hs hz
  cases st with
  | nil=>
   refine byG fun G4 k4=>?_
   refine xE12 G.st fun ls a b=>?_
   refine k4 ?_
   cases ls with
   | nil=>exact⟨X,σ,.done (.lst (.p rfl) rfl a (Nat.zero_le _)),G⟩
   | cons=>exact nomatch b
  | cons w st=>exact absurd (Nat.le_trans (Nat.le_add_right _ _) hs) (Nat.not_succ_le_zero _)
 | succ mm ih=>
  intro st acc σ X G hw hs hz
  refine xE12 (id G.st) fun ls a b=>?_
  cases st with
  | nil=>
   cases ls with
   | nil=>exact⟨X,σ,.done (.lst (.p rfl) rfl a (Nat.zero_le _)),G⟩
   | cons=>exact nomatch b
  | cons w st=>
   cases ls with
   | nil=>exact nomatch b
   | cons l ls=>
   refine byG fun G6 k6=>?_
   rw [List.reverse_cons,List.map_append]at a
   refine xE02 (List.cons.inj b) fun b1 b2=>?_
   have ol:=Nat.lt_of_le_of_lt (Nat.le_trans wsum_len (Nat.le_trans hs (Nat.le_trans (Nat.le_add_left _ _) hz))) (show 500<800 by decide)
   have hl:(ls.reverse.map AV.loc).length<900:=by
    rw [List.length_map,List.length_reverse,At.len b2,List.length_map]
    exact Nat.lt_trans (Nat.lt_trans (Nat.lt_succ_self _) ol) (by decide)
   have tc:Ts (n+2) f (.var 3) (env (LQ m one.length two.length sl al X)) σ true σ:=(Ts.lst (.p rfl) rfl a (snoc_len hl)).cast (by cases ls.reverse <;> rfl)
   have ok:=hw.1
   have I:InW w (flmW one two bj J w):=flm_in ok.1 ok.2.2.1
   have G1:=G.queue b2
   have w1:=(Fx.set (P:=(·=sl)) (a:=.list (ls.reverse.map .loc)) rfl) _ _ (fun e=>win_nl w _ (Option.some.inj (b1.symm.trans ((congrArg (fun i=>σ[i]?) e).trans a)))) b1
   have M1:=M.mono G1.pre
   refine xE23 (flm_run (n:=n) M1 hJ ok.1 ok.2.1 (Nat.le_trans ok.2.1 l1) ok.2.2.1 ok.2.2.2) fun r σ2 e2 p2 T2=>?_
   refine k6 ?_
   have G2:=G1.mono p2
   have T2:σ2[r]? = some (tri (.ref 135) (flmW one two bj J w)):=T2
   show ∃ X' σ',_∧GS σ0 σ' sl al [] (if (flmW one two bj J w).2.2=0 then _ else _)
   generalize flmW one two bj J w=q at I T2 ⊢
   have s1:Ex (n+2) f (.assign [.tuple [.var 5,.var 6,.var 7,.var 8]] (.meth (.var 3) "pop" [])) (env (LQ m one.length two.length sl al X)) σ .next (env (LQ m one.length two.length sl al ⟨In w.1,In w.2.1,In w.2.2.1,In w.2.2.2,X.x9,X.x10,X.x11,X.x12⟩)) _:=
    .assign (.pop (.p rfl) a hl) (.one (.tuple w1 (.inl rfl) (Asgs.varsE (xs:=[5,6,7,8]) rfl rfl)))
   have s2:Ex (n+2) f (.assign [.tuple [.var 9,.var 10,.var 11],.var 12] (.meth (.var 0) "find_longest_match" [.var 5,.var 6,.var 7,.var 8])) (env (LQ m one.length two.length sl al ⟨In w.1,In w.2.1,In w.2.2.1,In w.2.2.2,X.x9,X.x10,X.x11,X.x12⟩)) _ .next (env (LQ m one.length two.length sl al ⟨In w.1,In w.2.1,In w.2.2.1,In w.2.2.2,In q.1,In q.2.1,In q.2.2,some (.loc r)⟩)) σ2:=
    .assign (.minst (.p rfl) (.cons (.p rfl) (.cons (.p rfl) (.cons (.p rfl) (.cons (.p rfl) .nil)))) M1.hm M1.hd hf rfl (fun P=>by kernel_rfl) e2) (.cons (.tuple T2 (.inr rfl) (Asgs.varsE (xs:=[9,10,11]) rfl rfl)) (.one (Asg.varE rfl)))
   by_cases hq:q.2.2=0
   ·rw [if_pos hq]
    refine xE22 (ih (X:=⟨In w.1,In w.2.1,In w.2.2.1,In w.2.2.2,In q.1,In q.2.1,In q.2.2,some (.loc r)⟩) G2 hw.2 (Nat.le_of_succ_le_succ (Nat.le_trans (by rw [wsum,Nat.add_right_comm];exact Nat.succ_le_succ (Nat.le_add_left _ _)) hs)) (Nat.le_trans (Nat.le_succ _) hz)) fun X' σ' e G'=>?_
    exact⟨X',σ',.step tc (.cons s1 (.cons s2 (.one (.skip (.val rfl (.p rfl) (congrArg (fun i:Nat=>some ((i:Int) != 0)) hq)))))) e,G'⟩
   ·rw [if_neg hq]
    refine xE12 (G2.found (n:=n+2) (f:=f) (ρ:=env (LQ m one.length two.length sl al ⟨In w.1,In w.2.1,In w.2.2.1,In w.2.2.2,In q.1,In q.2.1,In q.2.2,some (.loc r)⟩)) (Nat.lt_of_le_of_lt (Nat.le_trans (Nat.le_add_right _ _) hz) (by decide)) rfl rfl T2) fun σ3 e3 G3=>?_
    refine xE12 (G3.push (n:=n+2) (f:=f) (ρ:=env (LQ m one.length two.length sl al ⟨In w.1,In w.2.1,In w.2.2.1,In w.2.2.2,In q.1,In q.2.1,In q.2.2,some (.loc r)⟩)) (t1:=.cmp .Lt (.var 5) (.var 9)) (t2:=.cmp .Lt (.var 7) (.var 10)) (es:=[.var 5,.var 9,.var 7,.var 10]) (w:=(w.1,q.1,w.2.2.1,q.2.1)) (Nat.lt_trans (Nat.lt_succ_self _) ol) (.ltI (.p rfl) (.p rfl)) (.ltI (.p rfl) (.p rfl)) rfl (.cons (.p rfl) (.cons (.p rfl) (.cons (.p rfl) (.cons (.p rfl) .nil))))) fun σ4 e4 G4=>?_
    refine xE12 (G4.push (n:=n+2) (f:=f) (ρ:=env (LQ m one.length two.length sl al ⟨In w.1,In w.2.1,In w.2.2.1,In w.2.2.2,In q.1,In q.2.1,In q.2.2,some (.loc r)⟩)) (t1:=.cmp .Lt (.bin .Add (.var 9) (.var 11)) (.var 6)) (t2:=.cmp .Lt (.bin .Add (.var 10) (.var 11)) (.var 8)) (es:=[.bin .Add (.var 9) (.var 11),.var 6,.bin .Add (.var 10) (.var 11),.var 8]) (w:=(q.1+q.2.2,w.2.1,q.2.1+q.2.2,w.2.2.2)) (Nat.lt_of_le_of_lt (iteInduction (motive:=fun l:List Win=>l.length≤st.length+1) (fun _=>Nat.le_refl _) fun _=>Nat.le_succ _) ol) (.ltI (.p rfl) (.p rfl)) (.ltI (.p rfl) (.p rfl)) rfl (.cons (.p rfl) (.cons (.p rfl) (.cons (.p rfl) (.cons (.p rfl) .nil))))) fun σ5 e5 G5=>?_
    refine xE22 (ih (X:=⟨In w.1,In w.2.1,In w.2.2.1,In w.2.2.2,In q.1,In q.2.1,In q.2.2,some (.loc r)⟩) G5 (push_ok I hw) (Nat.le_of_lt_succ (Nat.lt_of_lt_of_le (push_sum I hq) hs)) (by rw [List.length_append];exact Nat.le_trans (Nat.le_of_eq (Nat.succ_add_eq_add_succ _ _)) hz)) fun X' σ' e G'=>?_
    exact⟨X',σ',.step tc (.cons s1 (.cons s2 (.one (.ite (.val rfl (.p rfl) (congrArg some (not_z hq))) (.cons e3 (.cons e4 (.one e5))))))) e,G'⟩
end
end Mine
end
section
open PySem
set_option maxRecDepth 100000
set_option linter.unusedVariables false
set_option autoImplicit false
namespace Mine
noncomputable def ins (x:Nat):List Nat→List (List Nat)
 | []=>[[x]]
 | y :: ys=>(x :: y :: ys) :: (ins x ys).map (y :: ·)
noncomputable def perms:Nat→List (List Nat)
 | 0=>[[]]
 | n+1=>(perms n).flatMap (ins n)
noncomputable def chkF (p:List Nat) (i j:Nat):Option Bool:=p[i]?.bind fun x=>p[j]?.map fun y=>Nat.blt x y
noncomputable def chk (n:Nat) (p:List Nat):Bool:=(if n<2 then some (List.range n)else (runT (chkF p) (PySem.W.kas_sort n)).map Array.toList).any fun a=>a.all (fun i=>Nat.blt i n) && a.map (fun i=>p.getD i 99) == List.range n
theorem chk6:(List.range 7).all (fun n=>(perms n).all (chk n))=true:=by kernel_rfl
theorem ins_mem {x:Nat}:∀ {s t:List Nat},(s++x :: t)∈ins x (s++t)
 | [],[]=>.head _
 | [],y :: t=>.head _
 | z :: s,t=>.tail _ (List.mem_map_of_mem ins_mem)
theorem perms_mem:∀ {n:Nat}{p:List Nat},p.Perm (List.range n)→p∈perms n
 | 0,p,h=>List.perm_nil.mp h ▸ .head _
 | n+1,p,h=>by
  rw [List.range_succ]at h
  refine xE21 (List.append_of_mem (h.mem_iff.mpr (List.mem_append_right _ (.head _)))) fun s t q1_=>?_
  subst q1_
  exact List.mem_flatMap.mpr ⟨_,perms_mem (List.Perm.cons_inv (List.perm_middle.symm.trans (h.trans (List.perm_append_singleton n _)))),ins_mem⟩
theorem chk_all {n:Nat} (h6:n≤6){p:List Nat} (h:p.Perm (List.range n)):chk n p=true:=
 List.all_eq_true.mp (List.all_eq_true.mp chk6 n (List.mem_range.mpr (Nat.lt_succ_of_le h6))) p (perms_mem h)
theorem perm_map {α β:Type}{g:α→β}:∀ {a b:List β},a.Perm b→∀ {l:List α},l.map g=b→∃ p:List α,p.Perm l∧a=p.map g:=by
 intro a b h
 induction h with
 | nil=>exact fun hl=>⟨_,.refl _,hl.symm⟩
 | cons x _ ih=>
  intro l hl
  refine xE23 (List.map_eq_cons_iff.mp hl) fun y l' q2_ q3_ h2=>?_
  subst q2_
  subst q3_
  refine xE12 (ih h2) fun p q1 q4_=>?_
  subst q4_
  exact⟨y :: p,.cons y q1,rfl⟩
 | swap x y r=>
  intro l hl
  refine xE23 (List.map_eq_cons_iff.mp hl) fun a l' q5_ q6_ h2=>?_
  subst q5_
  subst q6_
  refine xE23 (List.map_eq_cons_iff.mp h2) fun b l'' q7_ q8_ h3=>?_
  subst q7_
  subst q8_
  exact⟨b :: a :: l'',.swap a b l'',h3 ▸ rfl⟩
 | trans _ _ ih1 ih2=>
  intro l hl
  refine xE12 (ih2 hl) fun p q1 q2=>?_
  refine xE12 (ih1 q2.symm) fun p' q3 q4=>?_
  exact⟨p',q3.trans q1,q4⟩
theorem any_some {β:Type}{f:β→Bool}:∀ {o:Option β},o.any f=true→∃ a,o=some a∧f a=true
 | some a,h=>⟨a,rfl,h⟩
noncomputable def toI (q:Tri):Int×Int×Int:=((q.1:Int),(q.2.1:Int),(q.2.2:Int))
noncomputable def Asc (L:List Tri):Prop:=∀ i j:Nat,∀ p q:Tri,i<j→L[i]? = some p→L[j]? = some q→p.1<q.1
theorem tlt_ne {p q:Tri} (h:p.1≠q.1):tlt (toI p) (toI q)=decide (p.1<q.1):=(if_neg fun e=>h (Int.ofNat.inj e)).trans (decide_eq_decide.mpr Int.ofNat_lt)
theorem tlt_self (p:Tri):tlt (toI p) (toI p)=false:=(if_pos rfl).trans ((if_pos rfl).trans (decide_eq_false (Int.lt_irrefl _)))
theorem blt_dec (x y:Nat):Nat.blt x y=decide (x<y):=by rw [Bool.eq_iff_iff,Nat.blt_eq,decide_eq_true_iff]
theorem get_range {L:List Tri}:(List.range L.length).map (fun i=>L.getD i (0,0,0))=L:=by
 apply List.ext_getElem?
 intro i
 rw [List.getElem?_map]
 rcases Nat.lt_or_ge i L.length with hi | hi
 ·rw [List.getElem?_range hi,List.getElem?_eq_getElem hi]
  exact congrArg some ((List.getD_eq_getElem?_getD ..).trans (congrArg (·.getD (0,0,0)) (List.getElem?_eq_getElem hi)))
 ·rw [List.getElem?_eq_none hi,List.getElem?_eq_none (List.length_range.symm ▸ hi)];rfl
theorem sort_pure {L acc:List Tri} (hA:Asc L) (hP:acc.Perm L) (h6:L.length≤6):∃ p:List Nat,sortT (acc.map toI)=some p∧(∀ i∈p,i<acc.length)∧p.map (fun i=>acc.getD i (0,0,0))=L:=by
 refine xE12 (perm_map hP get_range) fun π h1 q9_=>?_
 subst q9_
 have hπ:π.length=L.length:=h1.length_eq.trans List.length_range
 have hc:=chk_all h6 h1
 have hf:askF ((π.map fun i=>L.getD i (0,0,0)).map toI)=chkF π:=by
  funext i j
  show((_:List (Int×Int×Int))[i]?).bind (fun x=>((_:List (Int×Int×Int))[j]?).map fun y=>tlt x y)=_
  rw [List.map_map,List.getElem?_map,List.getElem?_map]
  unfold chkF
  cases a:π[i]? with
  | none=>rfl
  | some x=>
   cases b:π[j]? with
   | none=>rfl
   | some y=>
    have at_ {i x:Nat} (h:π[i]? = some x):L[x]? = some (L.getD x (0,0,0)):=by
     have hx:=List.mem_range.mp (h1.mem_iff.mp (List.mem_of_getElem? h))
     rw [List.getD_eq_getElem?_getD,List.getElem?_eq_getElem hx];rfl
    show some (tlt (toI (L.getD x (0,0,0))) (toI (L.getD y (0,0,0))))=some (Nat.blt x y)
    rw [blt_dec]
    rcases Nat.lt_trichotomy x y with h | h | h
    ·have l:=hA x y _ _ h (at_ a) (at_ b)
     rw [tlt_ne (Nat.ne_of_lt l),decide_eq_true l,decide_eq_true h]
    ·rw [h,tlt_self,decide_eq_false (Nat.lt_irrefl _)]
    ·have l:=hA y x _ _ h (at_ b) (at_ a)
     rw [tlt_ne (Nat.ne_of_gt l),decide_eq_false (Nat.lt_asymm l),decide_eq_false (Nat.lt_asymm h)]
 rw [show sortT ((π.map fun i=>L.getD i (0,0,0)).map toI)=if ((π.map fun i=>L.getD i (0,0,0)).map toI).length<2 then _ else (runT (askF _) _).map Array.toList from rfl,hf,List.length_map,List.length_map,hπ]
 refine xE12 (any_some hc) fun p e h=>?_
 have h2:=eq_of_beq (and2 h)
 have hp (i:Nat) (hi:i∈p):i<π.length:=hπ ▸ Nat.le_of_ble_eq_true (List.all_eq_true.mp (and1 h) i hi)
 refine⟨p,e,fun i hi=>hπ ▸ hp i hi,?_⟩
 have k:p.map (fun i=>(π.map fun i=>L.getD i (0,0,0)).getD i (0,0,0))=(p.map fun i=>π.getD i 99).map fun i=>L.getD i (0,0,0):=by
  rw [List.map_map]
  refine List.map_congr_left fun i hi=>?_
  show _=L.getD (π.getD i 99) (0,0,0)
  rw [List.getD_eq_getElem?_getD,List.getElem?_map,List.getD_eq_getElem?_getD (l:=π),List.getElem?_eq_getElem (hp i hi)]
  rfl
 rw [k,h2,get_range]
section
variable {n:Nat}{f:Nat→Option Nat}{ρ:Rho}{σ σ₁:Sto}{al:Nat}{ks:List Nat}{acc L:List Tri}{E:Mine.E}
theorem trips_at {ks:List Nat}{acc:List Tri} (h:At σ ks (acc.map (tri (.ref 135)))):TripAt σ (ks.map AV.loc) (acc.map toI):=⟨by rw [List.length_map,List.length_map,h.len,List.length_map],fun i x e=>by
 rw [List.getElem?_map]at e
 refine xE12 (Option.map_eq_some_iff.mp e) fun q e2 q'=>?_
 subst q'
 have h:(ks.map fun l=>σ[l]?)[i]? = ((acc.map (tri (.ref 135))).map some)[i]?:=congrArg (·[i]?) h
 rw [List.getElem?_map,List.getElem?_map,List.getElem?_map,e2]at h
 exact xE12 (Option.map_eq_some_iff.mp h) fun m h1 h2=>⟨m,by rw [List.getElem?_map,h1];rfl,h2⟩⟩
theorem sort_run (h1:Ev n f E ρ σ (.loc al) σ₁) (T:Trips (.ref 135) σ₁ al acc) (hA:Asc L) (hP:acc.Perm L) (h6:L.length≤6):∃ ks:List Nat,Ev n f (.meth E "sort" []) ρ σ .none (σ₁.set al (.list (ks.map .loc)))∧At σ₁ ks (L.map (tri (.ref 135))):=by
 refine xE12 T fun ks h hB=>?_
 refine xE13 (sort_pure hA hP h6) fun p e hp hL=>?_
 have hl:ks.length=acc.length:=hB.len.trans (List.length_map ..)
 have gk (i:Nat) (hi:i∈p):ks[i]? = some (ks.getD i 0):=by
  rw [List.getD_eq_getElem?_getD,List.getElem?_eq_getElem (hl ▸ hp i hi)];rfl
 refine⟨p.map fun i=>ks.getD i 0,?_,?_⟩
 ·have r:=Ev.sort h1 h (by rw [List.length_map,hl,hP.length_eq];exact Nat.le_trans h6 (by decide)) (trips_at hB) e
  rw [show p.map (fun i=>(ks.map AV.loc).getD i .none)=(p.map fun i=>ks.getD i 0).map .loc from ?_]at r
  ·exact r
  ·rw [List.map_map]
   refine List.map_congr_left fun i hi=>?_
   rw [List.getD_eq_getElem?_getD,List.getElem?_map,gk i hi]
   rfl
 ·show(p.map fun i=>ks.getD i 0).map _=_
  rw [←hL,List.map_map,List.map_map,List.map_map]
  refine List.map_congr_left fun i hi=>?_
  have hh:=congrArg (·[i]?) hB
  simp only [List.getElem?_map,gk i hi]at hh
  rw [List.getElem?_eq_getElem (hp i hi)]at hh
  show σ₁[ks.getD i 0]? = some (tri (.ref 135) (acc.getD i (0,0,0)))
  rw [List.getD_eq_getElem?_getD (l:=acc),List.getElem?_eq_getElem (hp i hi)]
  exact Option.some.inj hh
end
end Mine
end
section
open PySem
set_option maxRecDepth 100000
set_option linter.unusedVariables false
set_option autoImplicit false
namespace Mine
noncomputable def flush (acc:List Tri) (cur:Tri):List Tri:=if cur.2.2=0 then acc else acc++[cur]
noncomputable def mStep (s:List Tri×Tri) (q:Tri):List Tri×Tri:=if s.2.1+s.2.2.2=q.1∧s.2.2.1+s.2.2.2=q.2.1 then (s.1,(s.2.1,s.2.2.1,s.2.2.2+q.2.2))else (flush s.1 s.2,q)
noncomputable def mFin (L:List Tri) (a b:Nat):List Tri:=flush (L.foldl mStep ([],(0,0,0))).1 (L.foldl mStep ([],(0,0,0))).2++[(a,b,0)]
theorem flush_len {acc:List Tri}{cur:Tri}:(flush acc cur).length≤acc.length+1:=iteInduction (motive:=fun l:List Tri=>l.length≤acc.length+1) (fun _=>Nat.le_succ _) fun _=>Nat.le_of_eq (List.length_append ..)
theorem mStep_len {s:List Tri×Tri}{q:Tri}:(mStep s q).1.length≤s.1.length+1:=iteInduction (motive:=fun r:List Tri×Tri=>r.1.length≤s.1.length+1) (fun _=>Nat.le_succ _) fun _=>flush_len
theorem merge_len:∀ {qs:List Tri}{s:List Tri×Tri},(qs.foldl mStep s).1.length≤s.1.length+qs.length
 | [],_=>Nat.le_refl _
 | q :: qs,s=>Nat.le_trans (merge_len (qs:=qs)) (Nat.le_trans (Nat.add_le_add_right mStep_len _) (Nat.le_of_eq (Nat.succ_add_eq_add_succ _ _)))
theorem due_go {acc:List Tri}{p q:Tri} (k:p.1+p.2.2=q.1∧p.2.1+p.2.2=q.2.1):dueStep (acc++[p]) q=acc++[(p.1,p.2.1,p.2.2+q.2.2)]:=(dueStep_snoc acc p q).trans (if_pos k)
theorem due_no {acc:List Tri}{p q:Tri} (k:¬ (p.1+p.2.2=q.1∧p.2.1+p.2.2=q.2.1)):dueStep (acc++[p]) q=acc++[p]++[q]:=(dueStep_snoc acc p q).trans (if_neg k)
theorem merge_due:∀ {qs acc:List Tri}{cur:Tri},cur.2.2≠0→(∀ q∈qs,q.2.2≠0)→flush (qs.foldl mStep (acc,cur)).1 (qs.foldl mStep (acc,cur)).2=qs.foldl dueStep (acc++[cur])
 | [],acc,cur,hc,_=>if_neg hc
 | q :: qs,acc,cur,hc,h=>by
  rw [List.foldl_cons,List.foldl_cons]
  have h':∀ q∈qs,q.2.2≠0:=fun p hp=>h p (.tail _ hp)
  by_cases k:cur.1+cur.2.2=q.1∧cur.2.1+cur.2.2=q.2.1
  ·rw [show mStep (acc,cur) q=_ from if_pos k,due_go k]
   exact merge_due (fun e=>hc (Nat.eq_zero_of_add_eq_zero_right e)) h'
  ·rw [show mStep (acc,cur) q=_ from if_neg k,due_no k]
   show flush (qs.foldl mStep (flush acc cur,q)).1 (qs.foldl mStep (flush acc cur,q)).2=_
   rw [show flush acc cur=_ from if_neg hc]
   exact merge_due (h q (.head _)) h'
theorem merge_eq {qs:List Tri}{a b:Nat} (h:∀ q∈qs,q.2.2≠0):mFin qs a b=qs.foldl dueStep []++[(a,b,0)]:=by
 refine congrArg (·++[(a,b,0)]) ?_
 cases qs with
 | nil=>rfl
 | cons q qs=>
  have e1:mStep ([],(0,0,0)) q=([],q):=iteInduction (motive:=fun r=>r=([],q)) (fun k=>Prod.ext rfl (Prod.ext k.1 (Prod.ext k.2 (Nat.zero_add _)))) fun _=>rfl
  rw [List.foldl_cons,List.foldl_cons,e1]
  exact merge_due (h q (.head _)) fun p hp=>h p (.tail _ hp)
noncomputable def LM (m a b sl al:Nat) (X:Q8) (cur:Tri) (na:Nat) (x y z:Option AV):List (Option AV):=[some (.loc m),In a,In b,some (.loc sl),some (.loc al),X.x5,X.x6,X.x7,X.x8,X.x9,X.x10,X.x11,X.x12,In cur.1,In cur.2.1,In cur.2.2,some (.loc na),x,y,z]
noncomputable def flushS:S:=.ite (.var 15) [.expr (.meth (.var 16) "append" [.tuple [.var 13,.var 14,.var 15]])] []
noncomputable def bodyM:List S:=[.ite (.bop .And [.cmp .Eq (.bin .Add (.var 13) (.var 15)) (.var 17),.cmp .Eq (.bin .Add (.var 14) (.var 15)) (.var 18)]) [.aug 15 (.var 19)] [flushS,.tupAssign true [13,14,15] [.var 17,.var 18,.var 19]]]
section
variable {n:Nat}{f:Nat→Option Nat}{ρ:Rho}{σ σ₁:Sto}{m a b sl al na l:Nat}{X:Q8}{acc:List Tri}{cur q:Tri}{x y z:Option AV}{xs:List AV}{E:Mine.E}{es:List Mine.E}
theorem pushT (T:Trips (.type "tuple") σ na acc) (h:Ev n f E ρ σ (.loc na) σ) (he:Evs n f es ρ σ [.int (q.1:Int),.int (q.2.1:Int),.int (q.2.2:Int)] σ) (hz:acc.length<800) :
  ∃ σ',Ex n f (.expr (.meth E "append" [.tuple es])) ρ σ .next ρ σ'∧Fx (·=na) σ σ'∧Trips (.type "tuple") σ' na (acc++[q]):=
 let ⟨ls,g,T⟩:=T
 let k:=addT (q:=q) g ⟨_,rfl⟩ T
 ⟨_,.expr (.append h (.cons (.tuple he (Nat.le_of_ble_eq_true rfl)) .nil) g (getElem?_pre pre_app g) (by rw [List.length_map,T.len,List.length_map];exact Nat.lt_of_lt_of_le hz (by decide))),k⟩
theorem flush_run (T:Trips (.type "tuple") σ na acc) (hz:acc.length<800):∃ σ',Ex n f flushS (env (LM m a b sl al X cur na x y z)) σ .next (env (LM m a b sl al X cur na x y z)) σ'∧Fx (·=na) σ σ'∧Trips (.type "tuple") σ' na (flush acc cur):=by
 by_cases h:cur.2.2=0
 ·rw [show flush acc cur=acc from if_pos h]
  exact⟨σ,.skip (.val rfl (.p rfl) (congrArg (fun i:Nat=>some ((i:Int) != 0)) h)),fun _ _ _ e=>e,T⟩
 ·rw [show flush acc cur=_ from if_neg h]
  refine xE12 (pushT (n:=n) (f:=f) (ρ:=env (LM m a b sl al X cur na x y z)) (E:=.var 16) (es:=[.var 13,.var 14,.var 15]) (q:=cur) T (.p rfl) (.cons (.p rfl) (.cons (.p rfl) (.cons (.p rfl) .nil))) hz) fun σ' e k=>?_
  exact⟨σ',.ite (.val rfl (.p rfl) (congrArg some (not_z h))) (.one e),k⟩
theorem bodyM_run (T:Trips (.type "tuple") σ na acc) (hz:acc.length<800):∃ σ',Exs n f bodyM (env (LM m a b sl al X cur na (In q.1) (In q.2.1) (In q.2.2))) σ .next (env (LM m a b sl al X (mStep (acc,cur) q).2 na (In q.1) (In q.2.1) (In q.2.2))) σ'∧Fx (·=na) σ σ'∧Trips (.type "tuple") σ' na (mStep (acc,cur) q).1:=by
 have t:=Ts.and2 (Ts.eqI (n:=n) (f:=f) (ρ:=env (LM m a b sl al X cur na (In q.1) (In q.2.1) (In q.2.2))) (σ:=σ) (i:=cur.1+cur.2.2) (E₁:=.bin .Add (.var 13) (.var 15)) (E₂:=.var 17) (.p rfl) (.p rfl)) (.eqI (i:=cur.2.1+cur.2.2) (E₁:=.bin .Add (.var 14) (.var 15)) (E₂:=.var 18) (.p rfl) (.p rfl))
 by_cases k:cur.1+cur.2.2=q.1∧cur.2.1+cur.2.2=q.2.1
 ·rw [show mStep (acc,cur) q=_ from if_pos k]
  exact⟨σ,.one (.ite (t.yes k) (.one (upd_env (l:=LM m a b sl al X cur na (In q.1) (In q.2.1) (In q.2.2)) (i:=15) (v:=.int ((cur.2.2:Int)+(q.2.2:Int))) rfl ▸ Ex.aug rfl (.p rfl)))),fun _ _ _ e=>e,T⟩
 ·rw [show mStep (acc,cur) q=_ from if_neg k]
  refine xE12 (flush_run (n:=n) (f:=f) (m:=m) (a:=a) (b:=b) (sl:=sl) (al:=al) (X:=X) (cur:=cur) (x:=In q.1) (y:=In q.2.1) (z:=In q.2.2) T hz) fun σ' e k'=>?_
  exact⟨σ',.one (.ite (t.no k) (.cons e (.one (Ex.tupRE (.cons (.p rfl) (.cons (.p rfl) (.cons (.p rfl) .nil))) rfl rfl rfl)))),k'⟩
theorem forM {r:Nat}{σ0:Sto} (h0:σ0[r]? = some (.list xs)) (hrd:r≠na):∀ {ls:List Nat}{qs acc:List Tri}{cur:Tri}{σ:Sto}{x y z:Option AV},At σ ls (qs.map (tri (.ref 135)))→σ[r]? = some (.list xs)→Trips (.type "tuple") σ na acc→acc.length+qs.length≤700→
  ∃ x' y' z' σ',For n f (.tuple [.var 17,.var 18,.var 19]) bodyM (fun σ=>Same σ0 (.loc r) σ) .next (env (LM m a b sl al X (qs.foldl mStep (acc,cur)).2 na x' y' z')) σ' (ls.map fun l=>[AV.loc l]) (env (LM m a b sl al X cur na x y z)) σ∧Fx (·=na) σ σ'∧Trips (.type "tuple") σ' na (qs.foldl mStep (acc,cur)).1
 | [],[],acc,cur,σ,x,y,z,_,_,T,_=>⟨x,y,z,σ,⟨rfl,rfl,rfl⟩,fun _ _ _ e=>e,T⟩
 | [],_ :: _,_,_,_,_,_,_,h,_,_,_=>nomatch h
 | _ :: _,[],_,_,_,_,_,_,h,_,_,_=>nomatch h
 | l :: ls,q :: qs,acc,cur,σ,x,y,z,h,hr,T,hz=>by
  refine byG fun G3 k3=>?_
  refine xE02 (List.cons.inj h) fun h1 h2=>?_
  have hz':acc.length+1+qs.length≤700:=Nat.le_trans (Nat.le_of_eq (Nat.succ_add_eq_add_succ _ _)) hz
  refine xE13 (bodyM_run (n:=n) (f:=f) (m:=m) (a:=a) (b:=b) (sl:=sl) (al:=al) (X:=X) (cur:=cur) (q:=q) T (Nat.lt_of_le_of_lt (Nat.le_trans (Nat.le_add_right _ _) hz) (by decide))) fun σ1 e1 F1 T1=>?_
  have hr1:=F1 r _ hrd hr
  refine xE43 (forM (cur:=(mStep (acc,cur) q).2) (x:=In q.1) (y:=In q.2.1) (z:=In q.2.2) h0 hrd (At.fx F1 (fun e=>let ⟨_,g,_⟩:=T;⟨_,e ▸ g⟩) tri_nl h2) hr1 T1 (Nat.le_trans (Nat.add_le_add_right mStep_len _) hz')) fun x' y' z' σ2 e2 F2 T2=>?_
  refine k3 ?_
  exact⟨x',y',z',σ2,.step (.one (.tuple h1 (.inr rfl) (Asgs.varsE (xs:=[17,18,19]) rfl rfl))) e1 (.inl rfl) (same_l h0 hr1) e2,F1.trans F2,T2⟩
theorem make_run (h:σ[l]? = some (tri (.type "tuple") q)):Run n G89 [] [.cst (.ref 135),.loc l] σ (.loc σ.length) (σ++[tri (.ref 135) q]):=
 run0 1 rfl rfl (.inl rfl) (.cons .doc (.cons (Ex.setE (.tnew .glob (.cons (.p rfl) (.cons (.p rfl) .nil)) h (Nat.le_of_ble_eq_true rfl)) rfl) (.cons (.skip (.cmp (.call .glob (.cons (.p rfl) .nil) (.lenM app_z (Nat.le_of_ble_eq_true rfl))) (.p rfl) rfl)) (.stop (fun e=>nomatch e) (.ret (.p rfl))))))
theorem map_run {σ0:Sto}{r:Nat} (h0:σ0[r]? = some (.list xs)):∀ {ls:List Nat}{qs:List Tri}{σ:Sto},At σ ls (qs.map (tri (.type "tuple")))→σ[r]? = some (.list xs)→
  ∃ rs σ',MapR (fun v σ u σ'=>Run n G89 [] [.cst (.ref 135),v] σ u σ') (fun σ=>Same σ0 (.loc r) σ) σ' (ls.map AV.loc) (rs.map AV.loc) σ∧σ <+: σ'∧At σ' rs (qs.map (tri (.ref 135)))
 | [],[],σ,_,_=>⟨[],σ,⟨rfl,rfl⟩,List.prefix_refl _,rfl⟩
 | l :: ls,q :: qs,σ,h,hr=>by
  refine xE02 (List.cons.inj h) fun h1 h2=>?_
  have p:σ <+: σ++[tri (.ref 135) q]:=pre_app
  refine xE23 (map_run h0 (At.mono (getElem?_pre p) h2) (getElem?_pre p hr)) fun rs σ' e p' k=>?_
  exact⟨σ.length :: rs,σ',⟨_,_,_,make_run h1,same_l h0 (getElem?_pre p hr),e,rfl⟩,p.trans p',congr (congrArg List.cons (getElem?_pre p' app_z)) k⟩
 | [],_ :: _,_,h,_=>nomatch h
 | _ :: _,[],_,h,_=>nomatch h
theorem setF_get {nm:Str}{v:AV}:∀ {fs:List (Str×AV)},(setF nm v fs).lookup nm=some v
 | []=>by rw [setF,List.lookup_cons,beq_self_eq_true]
 | (m,u) :: r=>iteInduction (motive:=fun l:List (Str×AV)=>l.lookup nm=some v) (fun h=>by rw [List.lookup_cons,beq_self_eq_true]) fun h=>by rw [List.lookup_cons,beq_false_of_ne (Ne.symm h)];exact setF_get
theorem fld_tri {c:Value}{fs:List (Str×AV)} (b:Tri):tri c b≠.fields fs:=fun e=>(nomatch e)
theorem not_inst {σ:Sto}{l d:Nat}{c:Addr}{o:AO} (h:σ[l]? = some (.inst c d)) (hd:σ[d]? = some o) (hn:∀ c d,o≠.inst c d):l≠d:=fun e=>hn c d (Option.some.inj (hd.symm.trans ((congrArg (fun i=>σ[i]?) e).symm.trans h)))
end
section
variable {n:Nat}{σ:Sto}{m d o t bd bs:Nat}{fs:List (Str×AV)}{one two bj:List Str}{J:Str→List Nat}{L:List Tri}
theorem gmb_run (M:SM σ m d o t bd bs fs one two bj J) (hJ:∀ x,(J x).length≤90) (hf:fs.lookup ("find_longest_match":Str)=none) (hm:fs.lookup ("matching_blocks":Str)=some .none) (hfl:fs.length<100) (l1:one.length≤9)
  (hP:(gLoop (flmW one two bj J) 30 [(0,one.length,0,two.length)] []).Perm L) (hA:Asc L) (h6:L.length≤6) :
  ∃ r σ',Call (n+3) (.cst (.ref 203)) [.loc m] σ (.loc r) σ'∧Fx (·=d) σ σ'∧σ'[d]? = some (.fields (setF "matching_blocks" (.loc r) fs))∧Trips (.ref 135) σ' r (mFin L one.length two.length)∧σ.length≤r:=by
 refine byG fun G5 k5=>?_
 have p1:σ <+: σ++[win (0,one.length,0,two.length)]:=pre_app
 have p2:=p1.trans (pre_app (τ:=[.list [.loc σ.length]]))
 have p3:=p2.trans (pre_app (τ:=[.list []]))
 have hsl:=pre_len p1
 have hal:=pre_len p2
 have G3:GS σ _ (σ++[win (0,one.length,0,two.length)]).length (σ++[win (0,one.length,0,two.length)]++[AO.list [.loc σ.length]]).length [(0,one.length,0,two.length)] []:=⟨p3,by rw [List.length_append (as:=σ++_)];exact Nat.ne_of_lt (Nat.lt_succ_self _),hsl,hal,⟨[σ.length],getElem?_pre pre_app app_z,At.one (getElem?_pre (pre_app.trans pre_app) app_z)⟩,[],app_z,rfl⟩
 refine xE22 (gl_run (n:=n) (f:=fun _=>none) (mm:=30) (X:=⟨none,none,none,none,none,none,none,none⟩) M hJ hf (Nat.le_trans l1 (by decide)) G3 ⟨⟨Nat.zero_le _,Nat.le_refl _,Nat.zero_le _,Nat.le_refl _⟩,trivial⟩ (Nat.le_trans (Nat.succ_le_succ (Nat.mul_le_mul_left 2 l1)) (by decide)) (by decide)) fun X σ4 e4 G4=>?_
 refine xE12 (sort_run (n:=n+2) (f:=fun _=>none) (ρ:=env (LQ m one.length two.length (σ++[win (0,one.length,0,two.length)]).length (σ++[win (0,one.length,0,two.length)]++[AO.list [.loc σ.length]]).length X)) (E:=.var 4) (.p rfl) G4.ac hA hP h6) fun ks e5 A5=>?_
 refine xE12 G4.ac fun ks0 g4 _=>?_
 have p5:=pre_set (a:=.list (ks.map .loc)) G4.pre hal
 have g5:=List.getElem?_set_self (a:=AO.list (ks.map .loc)) (lt_of g4)
 have A6:=(At.fx (P:=(·=(σ++[win (0,one.length,0,two.length)]++[AO.list [.loc σ.length]]).length)) (Fx.set (a:=.list (ks.map .loc)) rfl) (fun e=>⟨_,e ▸ g4⟩) tri_nl A5).mono (getElem?_pre (pre_app (τ:=[.list []])))
 have g6:=getElem?_pre (pre_app (τ:=[.list []])) g5
 have p6:=p5.trans (pre_app (τ:=[.list []]))
 refine xE43 (forM (n:=n+2) (f:=fun _=>none) (m:=m) (a:=one.length) (b:=two.length) (sl:=(σ++[win (0,one.length,0,two.length)]).length) (al:=(σ++[win (0,one.length,0,two.length)]++[AO.list [.loc σ.length]]).length) (X:=X) (acc:=[]) (cur:=(0,0,0)) (x:=none) (y:=none) (z:=none) g6 (Nat.ne_of_lt (lt_of g5)) A6 g6 ⟨[],app_z,rfl⟩ (Nat.le_trans (Nat.add_le_add_left h6 0) (by decide))) fun x y z σ7 e7 F7 T7=>?_
 have l7:=Nat.le_trans (merge_len (qs:=L) (s:=([],(0,0,0)))) (Nat.add_le_add_left h6 0)
 refine xE13 (flush_run (n:=n+2) (f:=fun _=>none) (m:=m) (a:=one.length) (b:=two.length) (sl:=(σ++[win (0,one.length,0,two.length)]).length) (al:=(σ++[win (0,one.length,0,two.length)]++[AO.list [.loc σ.length]]).length) (X:=X) (cur:=(L.foldl mStep ([],(0,0,0))).2) (x:=x) (y:=y) (z:=z) T7 (Nat.lt_of_le_of_lt l7 (by decide))) fun σ8 e8 F8 T8=>?_
 have l8:=Nat.le_trans (flush_len (acc:=(L.foldl mStep ([],(0,0,0))).1) (cur:=(L.foldl mStep ([],(0,0,0))).2)) (Nat.succ_le_succ l7)
 refine xE13 (pushT (n:=n+2) (f:=fun _=>none) (E:=.var 16) (es:=[.var 1,.var 2,.int 0]) (ρ:=env (LM m one.length two.length (σ++[win (0,one.length,0,two.length)]).length (σ++[win (0,one.length,0,two.length)]++[AO.list [.loc σ.length]]).length X (L.foldl mStep ([],(0,0,0))).2 _ x y z)) (q:=(one.length,two.length,0)) T8 (.p rfl) (.cons (.p rfl) (.cons (.p rfl) (.cons (.p rfl) .nil))) (Nat.lt_of_le_of_lt l8 (by decide))) fun σ9 e9 F9 q1_=>?_
 refine xE12 q1_ fun ls g9 A9=>?_
 have p9:=Fx.out p6 ((F7.trans F8).trans F9) fun e=>e ▸ pre_len p5
 refine xE23 (map_run (n:=n+1) g9 A9 g9) fun rs σ10 e10 p10 A10=>?_
 refine k5 ?_
 have p11:=(p9.trans p10).trans (pre_app (τ:=[.list (rs.map .loc)]))
 have hm11:=getElem?_pre p11 M.hm
 have hd11:=getElem?_pre p11 M.hd
 have F12:Fx (·=d) (σ10++[AO.list (rs.map .loc)]) ((σ10++[AO.list (rs.map .loc)]).set d (.fields (setF "matching_blocks" (.loc σ10.length) fs))):=Fx.set rfl
 have hd12:=List.getElem?_set_self (a:=AO.fields (setF "matching_blocks" (.loc σ10.length) fs)) (lt_of hd11)
 have l9:ls.length≤900:=by
  rw [A9.len,List.length_map,List.length_append]
  exact Nat.le_trans (Nat.succ_le_succ l8) (by decide)
 have fin:=Fx.trans (Fx.pre p11) F12
 refine⟨_,_,.fn f203 (run0 19 rfl rfl (.inl rfl) (.cons .doc (.cons (.skip (.cmp (.attr (.p rfl) M.hm M.hd (.inl rfl) rfl hm fun _ e=>nomatch e) (.p rfl) rfl))
  (.cons (Ex.tupRE (.cons (.lenS M.ho (.fld (.p rfl) M.hm M.hd M.ha rfl)) (.cons (.lenS M.ht (.fld (.p rfl) M.hm M.hd M.hb rfl)) .nil)) rfl rfl rfl)
  (.cons (Ex.setE (.list (.cons (.tuple (.cons (.p rfl) (.cons (.p rfl) (.cons (.p rfl) (.cons (.p rfl) .nil)))) (Nat.le_of_ble_eq_true rfl)) .nil) (Nat.le_of_ble_eq_true rfl)) rfl)
  (.cons (Ex.setE (.list .nil (Nat.zero_le _)) rfl) (.cons (.while e4) (.cons (.expr e5)
  (.cons (.assign (.p rfl) (.cons (Asg.varE rfl) (.cons (Asg.varE rfl) (.one (Asg.varE rfl)))))
  (.cons (Ex.setE (.list .nil (Nat.zero_le _)) rfl) (.cons (.for (.p rfl) (items_m g6) e7) (.cons e8 (.cons e9
  (.cons (.assign (.mkAll (.p rfl) g9 (by rw [List.length_map];exact l9) e10) (.one (.attr (.p rfl) hm11 hd11 (.inl rfl) rfl hfl)))
  (.stop (fun e=>nomatch e) (.ret (.attr (.p rfl) (F12 _ _ (not_inst hm11 hd11 fun _ _ e=>nomatch e) hm11) hd12 (.inl rfl) rfl setF_get fun _ e=>nomatch e))))))))))))))))),
  fin,hd12,⟨rs,F12 _ _ (Nat.ne_of_gt (Nat.lt_of_lt_of_le (lt_of M.hd) (pre_len (p9.trans p10)))) app_z,At.fx' F12 (fun e=>⟨_,e ▸ hd11,fld_tri⟩) (A10.mono (getElem?_pre pre_app))⟩,pre_len (p9.trans p10)⟩
end
end Mine
end
section
open PySem
set_option maxRecDepth 100000
set_option linter.unusedVariables false
set_option autoImplicit false
namespace Mine
noncomputable abbrev Dct:=List (Str×Int)
noncomputable def enc {β:Type} (g:β→AV) (D:List (Str×β)):List (AV×AV):=D.map fun p=>(AV.str p.1,g p.2)
noncomputable abbrev encD:Dct→List (AV×AV):=enc .int
theorem str_beq (x y:Str):(AV.str x == AV.str y)=(x == y):=by
 rw [Bool.eq_iff_iff,beq_iff_eq,beq_iff_eq]
 exact AV.str.injEq .. ▸ Iff.rfl
section
variable {β:Type}{g:β→AV}{x:Str}{v:β}
theorem enc_keys {D:List (Str×β)}:strK (enc g D)=true:=by
 induction D with
 | nil=>rfl
 | cons p D ih=>exact ih
theorem enc_look:∀ {D:List (Str×β)},(enc g D).lookup (.str x)=(D.lookup x).map g
 | []=>rfl
 | (a,b) :: D=>by
  show List.lookup (AV.str x) ((AV.str a,g b) :: enc g D)=_
  rw [List.lookup_cons,List.lookup_cons,str_beq]
  cases x == a with
  | true=>rfl
  | false=>exact enc_look
theorem enc_has:∀ {D:List (Str×β)},((enc g D).map (·.1)).contains (.str x)=(D.lookup x).isSome
 | []=>rfl
 | (a,b) :: D=>by
  show((AV.str a) :: (enc g D).map (·.1)).contains (AV.str x)=_
  rw [List.contains_cons,List.lookup_cons,str_beq,enc_has]
  cases x == a <;> rfl
theorem look_cons_none {a:Str}{b:β}{D:List (Str×β)} (h:((a,b) :: D).lookup x=none):x≠a∧D.lookup x=none:=by
 rw [List.lookup_cons]at h
 have ha:¬ x=a:=fun e=>by rw [e,beq_self_eq_true]at h;exact nomatch h
 rw [beq_false_of_ne ha]at h
 exact⟨ha,h⟩
theorem enc_put:∀ {D:List (Str×β)},D.lookup x=none→dput (.str x) (g v) (enc g D)=enc g (D++[(x,v)])
 | [],_=>rfl
 | (a,b) :: D,h=>
  let ⟨ha,h⟩:=look_cons_none h
  (if_neg fun e:AV.str a=AV.str x=>ha (AV.str.inj e).symm).trans (congrArg ((AV.str a,g b) :: ·) (enc_put h))
end
noncomputable def FI (ms ds ig:Nat):List (Str×AV):=[("_mods",.loc ms),("_dirs",.loc ds),("_ignore",.loc ig)]
structure RD (σ:Sto) (rd rf ms ds ig:Nat) (D:Dct):Prop where
 hr:σ[rd]? = some (.inst 311 rf)
 hf:σ[rf]? = some (.fields (FI ms ds ig))
 hm:σ[ms]? = some (.set ["a"])
 hd:σ[ds]? = some (.list [])
 hi:σ[ig]? = some (.dict (encD D))
noncomputable def nk (file:AV) (x:Str):Int:=if x="a"∨Txt.startswith x (("a":Str)++".")=true∨file=.none then 1 else 0
noncomputable def nv (D:Dct) (file:AV) (x:Str):Int:=(D.lookup x).getD (nk file x)
noncomputable def nD (D:Dct) (file:AV) (x:Str):Dct:=(D.lookup x).elim (D++[(x,nk file x)]) fun _=>D
noncomputable def putS (k:Int):List S:=[.assign [.item (.attr (.var 0) "_ignore") (.var 2)] (.int k),.ret (.int k)]
noncomputable abbrev LI (rd:Nat) (file:AV) (x:Str) (u v:Option AV):List (Option AV):=[some (.loc rd),some file,some (.str x),u,v]
theorem set_self {σ:Sto}{l:Nat}{a:AO} (h:σ[l]? = some a):σ.set l a=σ:=by
 apply List.ext_getElem?
 intro i
 by_cases hi:i=l
 ·rw [hi,List.getElem?_set_self (lt_of h),h]
 ·rw [List.getElem?_set_ne (Ne.symm hi)]
theorem sets_eq {σ:Sto}{l:Nat}{a b:AO} (h:σ[l]? = some a):(σ.set l b).set l a=σ:=(List.set_set ..).trans (set_self h)
theorem ne_of {σ:Sto}{i j:Nat}{a b:AO} (h:σ[i]? = some a) (k:σ[j]? = some b) (n:a≠b):i≠j:=fun e=>n (Option.some.inj (h.symm.trans ((congrArg (fun i=>σ[i]?) e).trans k)))
section
variable {n:Nat}{f:Nat→Option Nat}{ρ:Rho}{σ:Sto}{rd rf ms ds ig l:Nat}{D:Dct}{x y:Str}{file:AV}{u v:Option AV}{E:Mine.E}
theorem Ev.fldI {l:Nat} (h:ρ 0=some (.loc rd)) (hr:σ[rd]? = some (.inst 311 rf)) (hf:σ[rf]? = some (.fields (FI ms ds ig))) (hv:(FI ms ds ig).lookup y=some (.loc l)) (hn:fieldNames.contains y=true):Ev n f (.attr (.var 0) y) ρ σ (.loc l) σ:=.attr (.var h) hr hf (.inr rfl) hn hv fun _ e=>nomatch e
theorem is_dict {β:Type}{g:β→AV}{D:List (Str×β)} (hi:σ[l]? = some (.dict (enc g D))):cmpop .In (.str x) (.loc l) σ=some (D.lookup x).isSome:=by
 show(σ[l]?).bind _=_
 rw [hi]
 exact(if_pos enc_keys).trans (congrArg some enc_has)
theorem item_dict {β:Type}{g:β→AV}{D:List (Str×β)}{v:β} (hi:σ[l]? = some (.dict (enc g D))) (hx:D.lookup x=some v):ItemR σ (.loc l) (.str x) (g v):=.dict hi enc_keys (enc_look.trans (congrArg (Option.map g) hx))
theorem put_dict {β:Type}{g:β→AV}{D:List (Str×β)}{v:β} (hi:σ[l]? = some (.dict (enc g D))) (hz:D.length<900) (hx:D.lookup x=none):PutR σ (.loc l) (.str x) (g v) (σ.set l (.dict (enc g (D++[(x,v)])))):=
 enc_put (v:=v) (g:=g) hx ▸ .dict hi (by unfold enc;rw [List.length_map];exact hz) enc_keys
theorem putS_run (hr:σ[rd]? = some (.inst 311 rf)) (hf:σ[rf]? = some (.fields (FI ms ds ig))) (hi:σ[ig]? = some (.dict (encD D))) (hx:D.lookup x=none) (hz:D.length<900) (k:Int) :
  Exs n f (putS k) (env (LI rd file x u v)) σ (.ret (.int k)) (env (LI rd file x u v)) (σ.set ig (.dict (encD (D++[(x,k)])))):=
 .cons (.assign (.p rfl) (.one (.item (.fldI rfl hr hf rfl rfl) (.p rfl) (put_dict hi hz hx)))) (.stop (fun e=>nomatch e) (.ret .int))
theorem is_set {xs:List Str} (hi:σ[l]? = some (.set xs)):cmpop .In (.str x) (.loc l) σ=some (xs.contains x):=by
 show(σ[l]?).bind _=_
 rw [hi]
 rfl
theorem unlock_at {xs:List Str} (h:σ[l]? = some (.locked (.set xs))){σ':Sto} (e:σ.set l (.set xs)=σ'):Unlock σ l σ':=⟨_,h,e.symm⟩
theorem locked_at {k:LK} (h:σ[l]? = some (.locked k)):Locked σ l:=⟨k,h⟩
noncomputable def bodyN2:List S:=[.ite (.meth (.var 2) "startswith" [.bin .Add (.var 3) (.str ".")]) (putS 1) []]
theorem mods_run {fl:Fl}{σ₂ σ₃:Sto} (R:RD σ rd rf ms ds ig D) (h:For n f (.var 3) bodyN2 (fun σ=>Locked σ ms) fl (env (LI rd file x (some (.str "a")) none)) σ₂ [[.str "a"]] (env (LI rd file x none none)) (σ.set ms (.locked (.set ["a"])))) (hu:Unlock σ₂ ms σ₃) :
  Ex n f (.for (.var 3) (.attr (.var 0) "_mods") bodyN2) (env (LI rd file x none none)) σ fl (env (LI rd file x (some (.str "a")) none)) σ₃:=
 .forLock (.fldI rfl R.hr R.hf rfl rfl) (.set R.hm (Nat.le_refl _)) h hu
theorem starts_run:Ts n f (.meth (.var 2) "startswith" [.bin .Add (.var 3) (.str ".")]) (env (LI rd file x (some (.str "a")) none)) σ (Txt.startswith x (("a":Str)++".")) σ:=.val rfl (.starts (.p rfl) (.cons (.bin (.p rfl) (.p rfl) rfl) .nil)) rfl
theorem names_run (R:RD σ rd rf ms ds ig D) (hz:D.length<900) (hfile:file=.none∨file=.str "f") :
  Call (n+1) (.cst (.ref 308)) [.loc rd,file,.str x] σ (.int (nv D file x)) (σ.set ig (.dict (encD (nD D file x)))):=by
 have t1:Ts n (fun _=>none) (.cmp .In (.var 2) (.attr (.var 0) "_ignore")) (env (LI rd file x none none)) σ (D.lookup x).isSome σ:=.cmp (.p rfl) (.fldI rfl R.hr R.hf rfl rfl) (is_dict R.hi)
 unfold nv nD
 cases hx:D.lookup x with
 | some v=>
  refine byG fun G2 k2=>?_
  rw [hx]at t1
  refine k2 ?_
  show Call _ _ _ _ (.int v) (σ.set ig (.dict (encD D)))
  rw [set_self R.hi]
  exact .fn f308 (run0 2 rfl rfl (.inl rfl) (.stop (fun e=>nomatch e) (.ite t1 (.stop (fun e=>nomatch e) (.ret (.item (.fldI rfl R.hr R.hf rfl rfl) (.p rfl) (item_dict R.hi hx)))))))
 | none=>
  rw [hx]at t1
  show Call _ _ _ _ (.int (nk file x)) (σ.set ig (.dict (encD (D++[(x,nk file x)]))))
  have t2:Ts n (fun _=>none) (.cmp .In (.var 2) (.attr (.var 0) "_mods")) (env (LI rd file x none none)) σ ([("a":Str)].contains x) σ:=.cmp (.p rfl) (.fldI rfl R.hr R.hf rfl rfl) (is_set R.hm)
  have hr:=fun k=>putS_run (n:=n) (f:=fun _=>none) (file:=file) (u:=none) (v:=none) R.hr R.hf R.hi hx hz k
  by_cases h1:x="a"
  ·rw [show nk file x=1 from if_pos (.inl h1)]
   exact .fn f308 (run0 2 rfl rfl (.inl rfl) (.cons (.skip t1) (.stop (fun e=>nomatch e) (.ite (t2.cast (c':=true) (by rw [h1];rfl)) (hr 1)))))
  have t2':=t2.cast (c':=false) (by rw [List.contains_cons,beq_false_of_ne h1];rfl)
  have hL:=List.getElem?_set_self (a:=AO.locked (.set ["a"])) (lt_of R.hm)
  have n1:=ne_of R.hm R.hi fun e=>nomatch e
  by_cases h2:Txt.startswith x (("a":Str)++".")=true
  ·rw [show nk file x=1 from if_pos (.inr (.inl h2))]
   have e3:=putS_run (n:=n) (f:=fun _=>none) (σ:=σ.set ms (.locked (.set ["a"]))) (file:=file) (u:=some (.str "a")) (v:=none) ((List.getElem?_set_ne (ne_of R.hm R.hr fun e=>nomatch e)).trans R.hr) ((List.getElem?_set_ne (ne_of R.hm R.hf fun e=>nomatch e)).trans R.hf) ((List.getElem?_set_ne n1).trans R.hi) hx hz 1
   exact .fn f308 (run0 2 rfl rfl (.inl rfl) (.cons (.skip t1) (.cons (.skip t2') (.stop (fun e=>nomatch e) (mods_run R (.ret (.one (Asg.varE rfl)) (.stop (fun e=>nomatch e) (.ite (starts_run.cast h2) e3)) rfl)
    (unlock_at ((List.getElem?_set_ne n1.symm).trans hL) ((List.set_comm _ _ n1.symm).trans (congrArg (List.set · ig _) (sets_eq R.hm)))))))))
  have s3:=mods_run (n:=n) (f:=fun _=>none) (file:=file) (x:=x) R (.step (.one (Asg.varE rfl)) (.one (.skip (starts_run.cast (Bool.not_eq_true _ ▸ h2)))) (.inl rfl) (locked_at hL) ⟨rfl,rfl,rfl⟩) (unlock_at hL (sets_eq R.hm))
  rcases hfile with rfl | rfl
  ·rw [show nk .none x=1 from if_pos (.inr (.inr rfl))]
   exact .fn f308 (run0 2 rfl rfl (.inl rfl) (.cons (.skip t1) (.cons (.skip t2') (.cons s3 (.stop (fun e=>nomatch e) (.ite (.cmp (.p rfl) (.p rfl) rfl) (putS_run R.hr R.hf R.hi hx hz 1)))))))
  ·rw [show nk (.str "f") x=0 from if_neg fun h=>h.elim h1 fun h=>h.elim h2 fun e=>nomatch e]
   exact .fn f308 (run0 2 rfl rfl (.inl rfl) (.cons (.skip t1) (.cons (.skip t2') (.cons s3 (.cons (.skip (.cmp (.p rfl) (.p rfl) rfl)) (.cons (.for (.fldI rfl R.hr R.hf rfl rfl) (items_l R.hd) ⟨rfl,rfl,rfl⟩) (putS_run R.hr R.hf R.hi hx hz 0)))))))
end
end Mine
end
section
open PySem
set_option maxRecDepth 100000
set_option linter.unusedVariables false
set_option autoImplicit false
namespace Mine
noncomputable def C8:List Str:=["a f","b f","ab f","a.b f","a -","b -","ab -","a.b -"]
noncomputable def modOf (x:Str):Str:=pickS x none (some (-2)) none
noncomputable def lastOf (x:Str):Str:=(at_ x.cps.toList (-1)).elim "" fun c=>⟨#[c]⟩
noncomputable def fileOf (x:Str):AV:=if lastOf x="-" then .none else .str "f"
theorem c8_ok:C8.all (fun x=>Nat.ble (modOf x).length 900 && (at_ x.cps.toList (-1)).isSome)=true:=by kernel_rfl
theorem slice_mod {x:Str} (h:x∈C8){σ:Sto}:Slice (.str x) .none (.int (-2)) .none σ (.str (modOf x)) σ:=
 ⟨_,_,_,.none,.int _,.none,(fun e=>nomatch e),.str (Nat.le_of_ble_eq_true (and1 (List.all_eq_true.mp c8_ok x h)))⟩
theorem item_end {x:Str} (h:x∈C8){σ:Sto}:ItemR σ (.str x) (.int (-1)) (.str (lastOf x)):=
 (Option.isSome_iff_exists.mp (and2 (List.all_eq_true.mp c8_ok x h))).elim fun c e=>(congrArg (fun o:Option Nat=>AV.str (o.elim "" fun c=>⟨#[c]⟩)) e:AV.str (lastOf x)=_) ▸ .str e
noncomputable def parts (as b:Nat) (D:Dct):List AO:=[.fields (FI (b+2) (b+3) (b+4)),.inst 311 b,.set ["a"],.list [],.dict (encD D),.cell (some (.loc (b+1))),.cell (some (.loc as)),.code,.clos [(2,b+5),(1,b+6)] (b+7)]
noncomputable def Lie (σ:Sto) (b:Nat) (os:List AO):Prop:=∀ (j:Nat) (o:AO),os[j]? = some o→σ[b+j]? = some o
structure AS (σ:Sto) (as b:Nat) (xs:List Str) (D:Dct):Prop where
 lt:as<b
 ha:σ[as]? = some (.list (xs.map .str))
 p:Lie σ b (parts as b D)
noncomputable abbrev Up (b:Nat):Nat→Prop:=fun i=>b+9≤i
section
variable {n:Nat}{f:Nat→Option Nat}{ρ:Rho}{σ σ':Sto}{as b:Nat}{D:Dct}{x:Str}{xs:List Str}{E₁ E₂:Mine.E}{u v:Str}
theorem AS.fx (S:AS σ as b xs D) (F:Fx (Up b) σ σ'):AS σ' as b xs D:=
 ⟨S.lt,F _ _ (Nat.not_le.mpr (Nat.lt_of_lt_of_le S.lt (Nat.le_add_right _ _))) S.ha,fun j o h=>F _ _ (Nat.not_le.mpr (Nat.add_lt_add_left (List.getElem?_eq_some_iff.mp h).1 _)) (S.p j o h)⟩
theorem AS.mono (S:AS σ as b xs D) (p:σ <+: σ'):AS σ' as b xs D:=S.fx (Fx.pre p)
theorem fileOf_or:fileOf x=.none∨fileOf x=.str "f":=iteInduction (motive:=fun v:AV=>v=.none∨v=.str "f") (fun _=>.inl rfl) fun _=>.inr rfl
theorem Ts.eqStr (h1:Ev n f E₁ ρ σ (.str u) σ) (h2:Ev n f E₂ ρ σ (.str v) σ):Ts n f (.cmp .Eq E₁ E₂) ρ σ (decide (u=v)) σ:=.cmp h1 h2 rfl
noncomputable def asked (σ:Sto) (as b:Nat) (xs:List Str) (D:Dct) (x:Str):Sto:=(σ.set as (.list (xs.map .str++[.str x]))).set (b+4) (.dict (encD (nD D (fileOf x) (modOf x))))
theorem asked_fx:Fx (fun i=>i=as∨i=b+4) σ (asked σ as b xs D x):=Fx.trans (Fx.set (.inl rfl)) (Fx.set (.inr rfl))
theorem asked_as (S:AS σ as b xs D):AS (asked σ as b xs D x) as b (xs++[x]) (nD D (fileOf x) (modOf x)):=by
 refine⟨S.lt,?_,fun j o h=>?_⟩
 ·refine(List.getElem?_set_ne (Nat.ne_of_gt (Nat.lt_of_lt_of_le S.lt (Nat.le_add_right _ _)))).trans ((List.getElem?_set_self (lt_of S.ha)).trans ?_)
  rw [List.map_append];rfl
 ·have ne (i:Nat):as≠b+i:=Nat.ne_of_lt (Nat.lt_of_lt_of_le S.lt (Nat.le_add_right _ _))
  by_cases e:j=4
  ·subst e
   exact(List.getElem?_set_self (lt_of ((List.getElem?_set_ne (ne 4)).trans (S.p 4 _ rfl)))).trans h
  ·have h':(parts as b D)[j]? = some o:=(List.getElem?_set_ne (l:=parts as b D) (a:=.dict (encD (nD D (fileOf x) (modOf x)))) (Ne.symm e)).symm.trans h
   exact(List.getElem?_set_ne fun q=>e (Nat.add_left_cancel q).symm).trans ((List.getElem?_set_ne (ne j)).trans (S.p j o h'))
theorem ask_run (S:AS σ as b xs D) (hz:xs.length<900) (hD:D.length<900) (hx:x∈C8):Call (n+2) (.loc (b+8)) [.str x] σ (.int (nv D (fileOf x) (modOf x))) (asked σ as b xs D x):=by
 have ne (i:Nat):as≠b+i:=Nat.ne_of_lt (Nat.lt_of_lt_of_le S.lt (Nat.le_add_right _ _))
 have g (i:Nat) (o:AO) (h:(parts as b D)[i]? = some o):(σ.set as (.list (xs.map .str++[.str x])))[b+i]? = some o:=(List.getElem?_set_ne (ne i)).trans (S.p i o h)
 have R:RD (σ.set as (.list (xs.map .str++[.str x]))) (b+1) b (b+2) (b+3) (b+4) D:=⟨g 1 _ rfl,g 0 _ rfl,g 2 _ rfl,g 3 _ rfl,g 4 _ rfl⟩
 refine .clos (S.p 8 _ rfl) (S.p 7 _ rfl) (.go (.append (.cvar rfl (S.p 6 _ rfl)) (.cons (.var rfl) .nil) S.ha S.ha (by rw [List.length_map];exact hz)) rfl rfl
  (.minst (.cvar rfl (g 5 _ rfl)) (.cons ?_ (.cons (.slice (.var rfl) .no (.yes (.p rfl)) .no (slice_mod hx)) .nil)) R.hr R.hf rfl rfl (fun P=>by kernel_rfl) (names_run R hD fileOf_or)))
 have t:=Ts.eqStr (n:=n+1) (f:=fun i=>List.lookup i [(2,b+5),(1,b+6)]) (ρ:=fun i=>if i=0 then some (.str x)else none) (σ:=σ.set as (.list (xs.map .str++[.str x]))) (E₁:=.item (.var 0) (.neg (.int 1))) (E₂:=.str "-") (.item (.var rfl) (.p rfl) (item_end hx)) .str
 by_cases h:lastOf x="-"
 ·rw [show fileOf x=.none from if_pos h]
  exact .ite (t.yes h) .none
 ·rw [show fileOf x=.str "f" from if_neg h]
  exact .ite (t.no h) .str
end
structure AJ where
 xs:List Str
 D:Dct
 js:List Str
noncomputable def addS (js:List Str) (x:Str):List Str:=if js.contains x then js else js++[x]
noncomputable def aStep (s:AJ) (x:Str):AJ:=⟨s.xs++[x],nD s.D (fileOf x) (modOf x),if nv s.D (fileOf x) (modOf x)=0 then s.js else addS s.js x⟩
theorem nD_len {D:Dct}{fl:AV}{m:Str}:(nD D fl m).length≤D.length+1:=by
 unfold nD
 cases D.lookup m with
 | none=>exact Nat.le_of_eq (List.length_append ..)
 | some _=>exact Nat.le_succ _
theorem addS_len {js:List Str}{x:Str}:(addS js x).length≤js.length+1:=iteInduction (motive:=fun l:List Str=>l.length≤js.length+1) (fun _=>Nat.le_succ _) fun _=>Nat.le_of_eq (List.length_append ..)
theorem aStep_len {s:AJ}{x:Str}:(aStep s x).js.length≤s.js.length+1:=iteInduction (motive:=fun l:List Str=>l.length≤s.js.length+1) (fun _=>Nat.le_succ _) fun _=>addS_len
noncomputable def bodyK:List S:=[.ite (.call (.var 7) [.var 4]) [.expr (.meth (.var 6) "add" [.var 4])] []]
noncomputable abbrev LC (m:Nat) (u v:AV) (w x y z p q r:Option AV):List (Option AV):=[some (.loc m),some u,some v,w,x,y,z,p,q,r]
section
variable {n:Nat}{f:Nat→Option Nat}{as b bs bd m:Nat}{u:AV}{w y q r:Option AV}{es:List (AV×AV)}
theorem keysRun (hB:b+9≤bs) (hne:bs≠bd) (hB2:b+9≤bd):∀ {ks:List Str}{s:AJ}{σ:Sto}{x:Option AV},AS σ as b s.xs s.D→σ[bs]? = some (.set s.js)→σ[bd]? = some (.locked (.dict es))→ks.all (C8.contains ·)=true→s.xs.length+ks.length≤800→s.D.length+ks.length≤800→s.js.length+ks.length≤800→
  ∃ x' σ',For (n+2) f (.var 4) bodyK (fun σ=>Locked σ bd) .next (env (LC m u (.loc bd) w x' y (some (.loc bs)) (some (.loc (b+8))) q r)) σ' (ks.map fun x=>[AV.str x]) (env (LC m u (.loc bd) w x y (some (.loc bs)) (some (.loc (b+8))) q r)) σ∧Fx (fun i=>(i=as∨i=b+4)∨i=bs) σ σ'∧AS σ' as b (ks.foldl aStep s).xs (ks.foldl aStep s).D∧σ'[bs]? = some (.set (ks.foldl aStep s).js)
 | [],s,σ,x,S,hs,hd,hc,h1,h2,h3=>⟨x,σ,⟨rfl,rfl,rfl⟩,fun _ _ _ e=>e,S,hs⟩
 | k :: ks,s,σ,x,S,hs,hd,hc,h1,h2,h3=>by
  have ad {a:Nat}:a+(ks.length+1)=a+1+ks.length:=(Nat.succ_add_eq_add_succ _ _).symm
  have ok {i:Nat} (h:b+9≤i):¬ (i=as∨i=b+4):=fun e=>e.elim (fun e=>Nat.lt_irrefl _ (Nat.lt_of_lt_of_le (Nat.lt_of_lt_of_le S.lt (Nat.le_add_right b 9)) (e ▸ h))) fun e=>absurd (Nat.le_of_add_le_add_left (e ▸ h)) (by decide)
  have S1:=asked_as (x:=k) S
  have c:=ask_run (n:=n) S (Nat.lt_of_le_of_lt (Nat.le_trans (Nat.le_add_right _ _) h1) (by decide)) (Nat.lt_of_le_of_lt (Nat.le_trans (Nat.le_add_right _ _) h2) (by decide)) (List.contains_iff_mem.mp (and1 hc))
  have hs1:=asked_fx (x:=k) (D:=s.D) (xs:=s.xs) _ _ (ok hB) hs
  have hd1:=asked_fx (x:=k) (D:=s.D) (xs:=s.xs) _ _ (ok hB2) hd
  have F1:Fx (fun i=>(i=as∨i=b+4)∨i=bs) σ (asked σ as b s.xs s.D k):=fun i o h e=>asked_fx i o (fun q=>h (.inl q)) e
  have l1:(s.xs++[k]).length+ks.length≤800:=by rw [List.length_append];exact Nat.le_trans (Nat.le_of_eq ad.symm) h1
  have l2:(nD s.D (fileOf k) (modOf k)).length+ks.length≤800:=Nat.le_trans (Nat.add_le_add_right nD_len _) (Nat.le_trans (Nat.le_of_eq ad.symm) h2)
  have l3:(aStep s k).js.length+ks.length≤800:=Nat.le_trans (Nat.add_le_add_right aStep_len _) (Nat.le_trans (Nat.le_of_eq ad.symm) h3)
  have t:Ts (n+2) f (.call (.var 7) [.var 4]) (env (LC m u (.loc bd) w (some (.str k)) y (some (.loc bs)) (some (.loc (b+8))) q r)) σ (nv s.D (fileOf k) (modOf k) != 0) (asked σ as b s.xs s.D k):=.val rfl (.call (.p rfl) (.cons (.p rfl) .nil) c) rfl
  show ∃ x' σ',_∧_∧AS σ' as b (ks.foldl aStep (aStep s k)).xs (ks.foldl aStep (aStep s k)).D∧σ'[bs]? = some (.set (ks.foldl aStep (aStep s k)).js)
  by_cases hv:nv s.D (fileOf k) (modOf k)=0
  ·refine xE24 (keysRun hB hne hB2 (s:=aStep s k) (x:=some (.str k)) S1 (by rw [show(aStep s k).js=s.js from if_pos hv];exact hs1) hd1 (and2 hc) l1 l2 l3) fun x' σ' e F S' g=>?_
   exact⟨x',σ',.step (.one (Asg.varE rfl)) (.one (.skip (t.cast (by rw [hv];rfl)))) (.inl rfl) (locked_at hd1) e,F1.trans F,S',g⟩
  ·have F2:Fx (Up b) (asked σ as b s.xs s.D k) ((asked σ as b s.xs s.D k).set bs (.set (addS s.js k))):=Fx.set hB
   have hd2:=(List.getElem?_set_ne (a:=AO.set (addS s.js k)) hne).trans hd1
   refine xE24 (keysRun hB hne hB2 (s:=aStep s k) (x:=some (.str k)) (S1.fx F2) (by rw [show(aStep s k).js=addS s.js k from if_neg hv];exact List.getElem?_set_self (lt_of hs1)) hd2 (and2 hc) l1 l2 l3) fun x' σ' e F S' g=>?_
   exact⟨x',σ',.step (.one (Asg.varE rfl)) (.one (.ite (t.cast (c':=true) (bne_iff_ne.mpr hv)) (.one (.expr (.add (.p rfl) (.cons (.p rfl) .nil) hs1 hs1 (Nat.lt_of_le_of_lt (Nat.le_trans (Nat.le_add_right _ _) h3) (by decide))))))) (.inl rfl) (locked_at hd2) e,F1.trans (Fx.trans (Fx.set (.inr rfl)) F),S',g⟩
end
end Mine
end
section
open PySem
set_option maxRecDepth 100000
set_option linter.unusedVariables false
set_option autoImplicit false
namespace Mine
noncomputable def places (x:Str) (l:List Str):List Nat:=(List.range l.length).filter fun i=>l[i]? == some x
noncomputable def uqs (acc:List Str) (y:Str):List Str:=if acc.contains y then acc else acc++[y]
noncomputable def uq (l:List Str):List Str:=l.foldl uqs []
theorem places_snoc (x y:Str) (l:List Str):places x (l++[y])=places x l++(if y=x then [l.length]else []):=by
 unfold places
 rw [List.length_append,List.length_singleton,List.range_succ,List.filter_append]
 refine congr (congrArg (·++·) (List.filter_congr fun i hi=>by rw [List.getElem?_append_left (List.mem_range.mp hi)])) ?_
 rw [List.filter_cons,List.getElem?_concat_length,List.filter_nil]
 by_cases h:y=x
 ·rw [if_pos h,h,if_pos (beq_self_eq_true _)]
 ·rw [if_neg h,if_neg fun e=>h (Option.some.inj (eq_of_beq e))]
theorem places_len (x:Str) (l:List Str):(places x l).length≤l.length:=Nat.le_trans (List.length_filter_le _ _) (Nat.le_of_eq List.length_range)
theorem uq_snoc (y:Str) (l:List Str):uq (l++[y])=uqs (uq l) y:=List.foldl_append
theorem uqs_mem {x y:Str}{acc:List Str}:x∈uqs acc y↔x∈acc∨x=y:=
 iteInduction (motive:=fun l=>x∈l↔x∈acc∨x=y) (fun h=>⟨.inl,fun q=>q.elim id fun e=>e ▸ List.contains_iff_mem.mp h⟩) fun _=>List.mem_append.trans (or_congr_right List.mem_singleton)
theorem uq_fold {x:Str}:∀ {l acc:List Str},x∈l.foldl uqs acc↔x∈acc∨x∈l
 | [],acc=>⟨.inl,fun q=>q.elim id fun q=>nomatch q⟩
 | y :: l,acc=>(uq_fold (l:=l)).trans ((or_congr_left uqs_mem).trans (or_assoc.trans (or_congr_right List.mem_cons.symm)))
theorem uq_mem {x:Str}{l:List Str}:x∈uq l↔x∈l:=uq_fold.trans ⟨fun q=>q.elim (fun q=>nomatch q) id,.inr⟩
theorem snoc_nodup {y:Str}{acc:List Str} (h:acc.Nodup) (hc:¬ y∈acc):(acc++[y]).Nodup:=
 List.nodup_append.mpr ⟨h,.cons (fun _ q=>nomatch q) .nil,fun a ha b hb e=>hc (List.mem_singleton.mp hb ▸ e ▸ ha)⟩
theorem uqs_nodup {y:Str}{acc:List Str} (h:acc.Nodup):(uqs acc y).Nodup:=iteInduction (motive:=List.Nodup) (fun _=>h) fun hc=>snoc_nodup h fun q=>hc (List.contains_iff_mem.mpr q)
theorem uq_nodup_fold:∀ {l acc:List Str},acc.Nodup→(l.foldl uqs acc).Nodup
 | [],_,h=>h
 | _ :: l,_,h=>uq_nodup_fold (l:=l) (uqs_nodup h)
theorem uq_nodup {l:List Str}:(uq l).Nodup:=uq_nodup_fold .nil
theorem uqs_len {y:Str}{acc:List Str}:(uqs acc y).length≤acc.length+1:=iteInduction (motive:=fun l:List Str=>l.length≤acc.length+1) (fun _=>Nat.le_succ _) fun _=>Nat.le_of_eq (List.length_append ..)
theorem uq_len_fold:∀ {l acc:List Str},(l.foldl uqs acc).length≤acc.length+l.length
 | [],_=>Nat.le_refl _
 | y :: l,acc=>Nat.le_trans (uq_len_fold (l:=l)) (Nat.le_trans (Nat.add_le_add_right uqs_len _) (Nat.le_of_eq (Nat.succ_add_eq_add_succ _ _)))
theorem uq_len {l:List Str}:(uq l).length≤l.length:=Nat.le_trans uq_len_fold (Nat.le_of_eq (Nat.zero_add _))
theorem places_nil {x:Str}{l:List Str} (h:x∉l):places x l=[]:=List.filter_eq_nil_iff.mpr fun i _ e=>h (List.mem_of_getElem? (eq_of_beq e))
theorem look_mem {β:Type}{x:Str}:∀ {ks:List (Str×β)},x∈ks.map (·.1)→∃ v,ks.lookup x=some v
 | (a,b) :: ks,h=>by
  rw [List.lookup_cons]
  cases e:x == a with
  | true=>exact⟨b,rfl⟩
  | false=>exact look_mem ((List.mem_cons.mp h).resolve_left (ne_of_beq_false e))
theorem mem_look {β:Type}{x:Str}{v:β}:∀ {ks:List (Str×β)},ks.lookup x=some v→x∈ks.map (·.1)
 | (a,b) :: ks,h=>by
  rw [List.lookup_cons]at h
  cases e:x == a with
  | true=>exact eq_of_beq e ▸ .head _
  | false=>rw [e]at h;exact .tail _ (mem_look h)
theorem look_snoc {β:Type}{x y:Str}{v u:β}{ks:List (Str×β)} (h:(ks++[(x,v)]).lookup y=some u):ks.lookup y=some u∨y=x∧u=v:=by
 rw [List.lookup_append]at h
 cases e:ks.lookup y with
 | some w=>rw [e]at h;exact .inl h
 | none=>
  rw [e]at h
  have h:(match y == x with | true=>some v | false=>none)=some u:=h
  cases e:y == x with
  | true=>rw [e]at h;exact .inr ⟨eq_of_beq e,(Option.some.inj h).symm⟩
  | false=>rw [e]at h;exact nomatch h
structure BJ (N:Nat) (σ:Sto) (bd:Nat) (p:List Str) (ks:List (Str×AV)):Prop where
 hN:N≤bd
 hd:σ[bd]? = some (.dict (enc id ks))
 hk:ks.map (·.1)=uq p
 at_:∀ x v,ks.lookup x=some v→∃ l,v=.loc l∧N≤l∧IntsAt σ l (places x p)
 inj:∀ x y l,ks.lookup x=some (.loc l)→ks.lookup y=some (.loc l)→x=y
noncomputable def bodyJ:List S:=[.assign [.var 5] (.meth (.var 2) "setdefault" [.var 4,.list []]),.expr (.meth (.var 5) "append" [.var 3])]
section
variable {N n:Nat}{f:Nat→Option Nat}{σ:Sto}{m bd:Nat}{u:AV}{y z q r s:Option AV}{p ws:List Str}{x:Str}{ks:List (Str×AV)}
theorem BJ.len (h:BJ N σ bd p ks):ks.length≤p.length:=List.length_map (as:=ks) (·.1) ▸ h.hk ▸ uq_len
theorem bodyJ_run (h:BJ N σ bd p ks) (hz:p.length<800):∃ y' σ' ks',Exs n f bodyJ (env (LC m u (.loc bd) (In p.length) (some (.str x)) y z q r s)) σ .next (env (LC m u (.loc bd) (In p.length) (some (.str x)) y' z q r s)) σ'∧Fx (N≤·) σ σ'∧BJ N σ' bd (p++[x]) ks':=by
 have p1:σ <+: σ++[.list []]:=pre_app
 have g1:=getElem?_pre p1 h.hd
 have e1:=Ev.setdef (n:=n) (f:=f) (ρ:=env (LC m u (.loc bd) (In p.length) (some (.str x)) y z q r s)) (E:=.var 2) (Es:=[.var 4,.list []]) (.p rfl) (.cons (.p rfl) (.cons (.list .nil (Nat.zero_le _)) .nil)) h.hd g1 (Nat.le_trans h.len (Nat.le_of_lt (Nat.lt_trans hz (by decide))))
 have nl {l:Nat}{xs:List Nat} (hl:IntsAt σ l xs):bd≠l:=ne_of h.hd hl fun e=>nomatch e
 cases hx:ks.lookup x with
 | some v=>
  refine byG fun G3 k3=>?_
  rw [hx]at e1
  refine xE13 (h.at_ x v hx) fun l q1_ hl hi=>?_
  subst q1_
  refine k3 ?_
  have hi1:=getElem?_pre p1 hi
  have hxm:x∈uq p:=h.hk ▸ mem_look hx
  have F2:Fx (N≤·) _ ((σ++[AO.list []]).set l (.list ((places x p).map (fun(j:Nat)=>AV.int (j:Int))++[.int (p.length:Int)]))):=Fx.set hl
  refine⟨_,_,ks,.cons (Ex.setE e1 rfl) (.one (.expr (.append (.p rfl) (.cons (.p rfl) .nil) hi1 hi1 (by rw [List.length_map];exact Nat.lt_of_le_of_lt (places_len _ _) (Nat.lt_trans hz (by decide)))))),(Fx.pre p1).trans F2,h.hN,(List.getElem?_set_ne (nl hi).symm).trans g1,?_,fun y v hy=>?_,h.inj⟩
  ·rw [h.hk,uq_snoc];exact(if_pos (List.contains_iff_mem.mpr hxm)).symm
  ·refine xE13 (h.at_ y v hy) fun l' q2_ q1 q2=>?_
   subst q2_
   refine⟨l',rfl,q1,?_⟩
   unfold IntsAt
   rw [places_snoc]
   by_cases hxy:x=y
   ·subst hxy
    have hl':l=l':=AV.loc.inj (Option.some.inj (hx.symm.trans hy))
    rw [if_pos rfl,List.map_append,←hl']
    exact List.getElem?_set_self (lt_of hi1)
   ·rw [if_neg hxy,List.append_nil]
    exact(List.getElem?_set_ne fun e:l=l'=>hxy (h.inj x y l hx (e ▸ hy))).trans (getElem?_pre p1 q2)
 | none=>
  rw [hx]at e1
  have hxm:¬ x∈uq p:=fun q=>let ⟨_,e⟩:=look_mem (h.hk.symm ▸ q);nomatch hx.symm.trans e
  have nb:bd≠σ.length:=Nat.ne_of_lt (lt_of h.hd)
  have hd2:dput (.str x) (.loc σ.length) (enc id ks)=enc id (ks++[(x,.loc σ.length)]):=enc_put (g:=id) (v:=AV.loc σ.length) hx
  have e1:Ev n f (.meth (.var 2) "setdefault" [.var 4,.list []]) _ σ (.loc σ.length) ((σ++[AO.list []]).set bd (.dict (dput (.str x) (.loc σ.length) (enc id ks)))):=e1
  rw [hd2]at e1
  have gL:((σ++[AO.list []]).set bd (.dict (enc id (ks++[(x,.loc σ.length)]))))[σ.length]? = some (.list []):=(List.getElem?_set_ne nb).trans app_z
  have F2:Fx (N≤·) (σ++[AO.list []]) ((σ++[AO.list []]).set bd (.dict (enc id (ks++[(x,.loc σ.length)])))):=Fx.set h.hN
  have F3:Fx (N≤·) _ (((σ++[AO.list []]).set bd (.dict (enc id (ks++[(x,.loc σ.length)])))).set σ.length (.list ([]++[.int (p.length:Int)]))):=Fx.set (Nat.le_trans h.hN (Nat.le_of_lt (lt_of h.hd)))
  refine⟨_,_,ks++[(x,.loc σ.length)],.cons (Ex.setE e1 rfl) (.one (.expr (.append (.p rfl) (.cons (.p rfl) .nil) gL gL (by decide)))),((Fx.pre p1).trans F2).trans F3,h.hN,(List.getElem?_set_ne nb.symm).trans (List.getElem?_set_self (lt_of g1)),?_,fun y v hy=>?_,fun y z l h1 h2=>?_⟩
  ·rw [List.map_append,h.hk,uq_snoc];exact(if_neg fun q=>hxm (List.contains_iff_mem.mp q)).symm
  ·rcases look_snoc hy with hy | ⟨rfl,rfl⟩
   ·refine xE13 (h.at_ y v hy) fun l' q3_ q1 q2=>?_
    subst q3_
    refine⟨l',rfl,q1,?_⟩
    unfold IntsAt
    rw [show places y (p++[x])=places y p from (places_snoc y x p).trans ((congrArg (places y p++·) (if_neg fun e:x=y=>nomatch (e ▸ hx).symm.trans hy)).trans (List.append_nil _))]
    exact(List.getElem?_set_ne (Nat.ne_of_gt (lt_of q2))).trans ((List.getElem?_set_ne (nl q2)).trans (getElem?_pre p1 q2))
   ·refine⟨σ.length,rfl,Nat.le_trans h.hN (Nat.le_of_lt (lt_of h.hd)),?_⟩
    unfold IntsAt
    rw [places_snoc,if_pos rfl,places_nil fun q=>hxm (uq_mem.mpr q)]
    exact List.getElem?_set_self (lt_of gL)
  ·have old {y:Str} (k:ks.lookup y=some (.loc σ.length)):False:=let ⟨l,e,_,q⟩:=h.at_ y _ k;Nat.lt_irrefl _ (AV.loc.inj e ▸ lt_of q)
   rcases look_snoc h1 with k1 | ⟨rfl,e4⟩
   ·rcases look_snoc h2 with k2 | ⟨rfl,e3⟩
    ·exact h.inj y z l k1 k2
    ·exact(old (e3 ▸ k1)).elim
   ·rcases look_snoc h2 with k2 | ⟨rfl,_⟩
    ·exact(old (e4 ▸ k2)).elim
    ·rfl
theorem enumRun {again:Sto→Prop}:∀ {ws p:List Str}{σ:Sto}{ks:List (Str×AV)}{w x y:Option AV},BJ N σ bd p ks→(∀ σ',Fx (N≤·) σ σ'→again σ')→p.length+ws.length≤800→
  ∃ w' x' y' σ' ks',ForR (Ti2 n f [.var 3,.var 4]) (Exs n f bodyJ) again .next (env (LC m u (.loc bd) w' x' y' z q r s)) σ' ((ws.zipIdx p.length).map fun q=>[AV.int (q.2:Int),.str q.1]) (env (LC m u (.loc bd) w x y z q r s)) σ∧Fx (N≤·) σ σ'∧BJ N σ' bd (p++ws) ks'
 | [],p,σ,ks,w,x,y,h,ha,hz=>⟨w,x,y,σ,ks,⟨rfl,rfl,rfl⟩,fun _ _ _ e=>e,(List.append_nil p).symm ▸ h⟩
 | k :: ws,p,σ,ks,w,x,y,h,ha,hz=>by
  have hz':p.length+1+ws.length≤800:=Nat.le_trans (Nat.le_of_eq (Nat.succ_add_eq_add_succ _ _)) hz
  refine xE33 (bodyJ_run (n:=n) (f:=f) (m:=m) (u:=u) (x:=k) (y:=y) (z:=z) (q:=q) (r:=r) (s:=s) h (Nat.le_trans (Nat.le_add_right _ _) hz')) fun y1 σ1 ks1 e1 F1 B1=>?_
  refine xE53 (enumRun (again:=again) (ws:=ws) (w:=In p.length) (x:=some (.str k)) (y:=y1) B1 (fun σ' F=>ha σ' (F1.trans F)) (by rw [List.length_append];exact hz')) fun w' x' y' σ' ks' e F B'=>?_
  rw [List.length_append]at e
  exact⟨w',x',y',σ',ks',.step (.two (Asgs.varsE (xs:=[3,4]) rfl rfl)) e1 (.inl rfl) (ha _ F1) e,F1.trans F,List.append_cons .. ▸ B'⟩
end
end Mine
end
section
open PySem
set_option maxRecDepth 100000
set_option linter.unusedVariables false
set_option autoImplicit false
namespace Mine
theorem setF_ne {k x:Str}{v:AV} (h:x≠k):∀ {fs:List (Str×AV)},(setF k v fs).lookup x=fs.lookup x
 | []=>by rw [setF,List.lookup_cons,beq_false_of_ne h]
 | (m,u) :: r=>iteInduction (motive:=fun l:List (Str×AV)=>l.lookup x=((m,u) :: r).lookup x) (fun e=>by rw [List.lookup_cons,List.lookup_cons,beq_false_of_ne h,e,beq_false_of_ne h]) fun _=>by rw [List.lookup_cons,List.lookup_cons,setF_ne h]
noncomputable def BV (σ:Sto) (bv:AV) (two:List Str):Prop:=(∃ t,bv=.loc t∧Strs σ t two)∨(bv=.str ""∧two=[])
section
variable {n:Nat}{f:Nat→Option Nat}{ρ:Rho}{σ σ' σ'':Sto}{P Q:Nat→Prop}{bv:AV}{two:List Str}{E:Mine.E}{N l i:Nat}{L:List (Option AV)}
theorem BV.items (h:BV σ bv two):ItemsE σ bv ((two.zipIdx 0).map fun q=>[AV.int (q.2:Int),.str q.1]):=by
 rcases h with ⟨t,rfl,h⟩ | ⟨rfl,rfl⟩
 ·have r:=ItemsE.list h.1
  rw [List.zipIdx_map,List.map_map]at r
  exact r
 ·exact .str rfl
theorem BV.len (h:BV σ bv two) (he:Ev n f E ρ σ bv σ):Ev n f (.call (.glob (.cst (.builtin "len"))) [E]) ρ σ (.int (two.length:Int)) σ:=by
 rcases h with ⟨t,rfl,h⟩ | ⟨rfl,rfl⟩
 ·exact .lenS h he
 ·exact .call .glob (.cons he .nil) (.lenS (by decide))
theorem BV.fx (h:BV σ bv two) (F:Fx P σ σ') (k:∀ t,bv=.loc t→¬ P t):BV σ' bv two:=
 h.elim (fun⟨t,e,h⟩=>.inl ⟨t,e,F _ _ (k t e) h.1,h.2⟩) .inr
theorem BV.at (h:BV σ bv two) (t:Nat) (e:bv=.loc t):σ[t]? = some (.list (two.map .str)):=
 h.elim (fun⟨_,q,h⟩=>AV.loc.inj (q.symm.trans e) ▸ h.1) fun⟨q,_⟩=>nomatch q.symm.trans e
theorem BV.same (h:BV σ bv two) (k:BV σ' bv two):Same σ bv σ':=fun l xs e q=>(k.at l e).trans ((h.at l e).symm.trans q)
theorem BV.not_cst (h:BV σ bv two) (k:Value):bv≠.cst k:=h.elim (fun⟨_,e,_⟩ q=>nomatch e.symm.trans q) fun⟨e,_⟩ q=>nomatch e.symm.trans q
theorem Fx.weak (F:Fx P σ σ') (h:∀ {i:Nat},P i→Q i):Fx Q σ σ':=fun i o n e=>F i o (fun p=>n (h p)) e
theorem Fx.old (F:Fx (fun i=>Q i∨N≤i) σ σ') (h:σ.length≤N):Fx Q σ σ':=fun i o n e=>F i o (fun p=>p.elim n fun p=>Nat.lt_irrefl _ (Nat.lt_of_lt_of_le (Nat.lt_of_lt_of_le (lt_of e) h) p)) e
theorem Ts.clos {cs:List (Nat×Nat)}{k:Nat} (hp:isVal E=true) (h:Ev n f E ρ σ (.loc l) σ) (e:σ[l]? = some (.clos cs k)):Ts n f E ρ σ true σ:=.val hp h (congrArg (Option.bind · truthO) e)
theorem del_env {L:List (Option AV)}{i:Nat} (h:Nat.blt i L.length=true):(fun y=>if y=i then none else env L y)=env (L.set i none):=by
 funext x
 show(if x=i then none else L.getD x none)=(L.set i none).getD x none
 have h:=Nat.le_of_ble_eq_true h
 by_cases q:x=i
 ·subst q;simp [show x<L.length from h]
 ·simp [q,List.getElem?_set_ne (Ne.symm q),List.getD]
end
theorem lock_keys {σ:Sto}{l d:Nat}{ks:List (Str×AV)} (h:σ[l]? = some (.keys d)) (k:σ[d]? = some (.dict (enc id ks))) (hz:ks.length≤900):LockR σ (.loc l) d (.dict (enc id ks)) ((ks.map (·.1)).map fun x=>[AV.str x]):=by
 have r:=LockR.keys h k enc_keys (by unfold enc;rw [List.length_map];exact hz)
 have e:(enc id ks).map (fun e=>[e.1])=(ks.map (·.1)).map fun x=>[AV.str x]:=by unfold enc;rw [List.map_map,List.map_map];rfl
 exact e ▸ r
theorem unlock_dict {σ:Sto}{l:Nat}{es:List (AV×AV)} (h:σ[l]? = some (.locked (.dict es))):Unlock σ l (σ.set l (.dict es)):=⟨_,h,rfl⟩
theorem filter_look {q:Str→Bool}{k:Str}:∀ {ks:List (Str×AV)},(ks.filter fun e=>!q e.1).lookup k=if q k then none else ks.lookup k
 | []=>(ite_self _).symm
 | (a,b) :: ks=>by
  rw [List.filter_cons,List.lookup_cons]
  by_cases hk:k=a
  ·rw [←hk,beq_self_eq_true]
   cases e:q k with
   | true=>exact(filter_look (ks:=ks)).trans (if_pos e)
   | false=>exact(List.lookup_cons ..).trans (by rw [beq_self_eq_true];rfl)
  ·rw [beq_false_of_ne hk]
   cases e:q a with
   | true=>exact filter_look
   | false=>exact(List.lookup_cons ..).trans (by rw [beq_false_of_ne hk];exact filter_look)
theorem aStep_facts:∀ {ks:List Str}{s:AJ},s.js.Nodup→(ks.foldl aStep s).js.Nodup∧(∀ x∈(ks.foldl aStep s).js,x∈s.js∨x∈ks)∧(ks.foldl aStep s).xs=s.xs++ks∧(ks.foldl aStep s).js.length≤s.js.length+ks.length∧(ks.foldl aStep s).D.length≤s.D.length+ks.length
 | [],s,h=>⟨h,fun x hx=>.inl hx,(List.append_nil _).symm,Nat.le_refl _,Nat.le_refl _⟩
 | k :: ks,s,h=>by
  have m (x:Str) (q:x∈(aStep s k).js):x∈s.js∨x=k:=iteInduction (motive:=fun l:List Str=>x∈l→x∈s.js∨x=k) (fun _=>.inl) (fun _=>uqs_mem.mp) q
  refine xE05 (aStep_facts (ks:=ks) (s:=aStep s k) (iteInduction (motive:=List.Nodup) (fun _=>h) fun _=>uqs_nodup h)) fun a1 a2 a3 a4 a5=>?_
  exact⟨a1,fun x hx=>(a2 x hx).elim (fun q=>(m x q).elim .inl fun e=>.inr (e ▸ .head _)) fun q=>.inr (.tail _ q),a3.trans (List.append_assoc ..),Nat.le_trans a4 (Nat.le_trans (Nat.add_le_add_right aStep_len _) (Nat.le_of_eq (Nat.succ_add_eq_add_succ _ _))),Nat.le_trans a5 (Nat.le_trans (Nat.add_le_add_right nD_len _) (Nat.le_of_eq (Nat.succ_add_eq_add_succ _ _)))⟩
end Mine
end
section
open PySem
set_option maxRecDepth 100000
set_option linter.unusedVariables false
set_option autoImplicit false
namespace Mine
noncomputable def chainF (bd bs bp:Nat) (fs:List (Str×AV)):List (Str×AV):=setF "bpopular" (.loc bp) (setF "bjunk" (.loc bs) (setF "b2j" (.loc bd) fs))
structure CE (σ':Sto) (as b d:Nat) (fs:List (Str×AV)) (two:List Str) (s:AJ) (bd bs bp:Nat):Prop where
 S:AS σ' as b s.xs s.D
 hd:σ'[d]? = some (.fields (chainF bd bs bp fs))
 hs:σ'[bs]? = some (.set s.js)
 hb:B2J σ' bd (fun x=>if s.js.contains x then []else places x two)
structure CB (σ:Sto) (as b m d:Nat) (fs:List (Str×AV)) (bv:AV) (two xs:List Str) (D:Dct):Prop where
 S:AS σ as b xs D
 hm:σ[m]? = some (.inst 242 d)
 hd:σ[d]? = some (.fields fs)
 hB:b+9≤d
 hb:fs.lookup ("b":Str)=some bv
 hi:fs.lookup ("isjunk":Str)=some (.loc (b+8))
 ha:fs.lookup ("autojunk":Str)=some (.bool true)
 hv:BV σ bv two
 has:bv≠.loc as
 hc:two.all (C8.contains ·)=true
 h2:two.length≤90
 hx:xs.length≤600
 hD:D.length≤600
noncomputable abbrev Ch3 (as b d bs bd:Nat) (i:Nat):Prop:=(i=d∨i=as∨i=b+4)∨(i=bs∨i=bd)
noncomputable abbrev ChP (as b d N:Nat) (i:Nat):Prop:=(i=d∨i=as∨i=b+4)∨N≤i
section
variable {n:Nat}{f:Nat→Option Nat}{σ:Sto}{as b m d:Nat}{fs:List (Str×AV)}{bv:AV}{two xs:List Str}{D:Dct}
theorem chain_run (H:CB σ as b m d fs bv two xs D) (hfl:fs.length<90):∃ σ' bd bs bp,Call (n+3) (.cst (.ref 188)) [.loc m] σ .none σ'∧Fx (fun i=>i=d∨i=as∨i=b+4) σ σ'∧CE σ' as b d fs two ((uq two).foldl aStep ⟨xs,D,[]⟩) bd bs bp:=by
 obtain⟨S,hm,hd,hB,hb,hi,ha,hv,has,hc,h2,hx,hD⟩:=H
 have nmd:=not_inst hm hd fun _ _ e=>nomatch e
 have nN:b+9≤σ.length:=lt_of (S.p 8 _ rfl)
 have nd:=lt_of hd
 have nt (t:Nat) (e:bv=.loc t):¬ ChP as b d σ.length t:=fun q=>q.elim (fun q=>q.elim (ne_of (hv.at t e) hd fun e=>nomatch e) fun q=>q.elim (fun q=>has (q ▸ e)) (ne_of (hv.at t e) (S.p 4 _ rfl) fun e=>nomatch e)) (Nat.not_le.mpr (lt_of (hv.at t e)))
 have nm:¬ ChP as b d σ.length m:=fun q=>q.elim (fun q=>q.elim nmd fun q=>q.elim (ne_of hm S.ha fun e=>nomatch e) (ne_of hm (S.p 4 _ rfl) fun e=>nomatch e)) (Nat.not_le.mpr (lt_of hm))
 have lf1:=setF_len "b2j" (.loc σ.length) fs
 -- b2j
 have p1:σ <+: σ++[.dict []]:=pre_app
 have d1:=getElem?_pre p1 hd
 have F2:Fx (·=d) (σ++[AO.dict []]) ((σ++[AO.dict []]).set d (.fields (setF "b2j" (.loc σ.length) fs))):=Fx.set rfl
 have d2:=List.getElem?_set_self (a:=AO.fields (setF "b2j" (.loc σ.length) fs)) (lt_of d1)
 have F02:Fx (ChP as b d σ.length) σ _:=Fx.trans (Fx.pre p1) (F2.weak fun e=>.inl (.inl e))
 have S2:=S.fx (Fx.trans (Fx.pre p1) (F2.weak fun e=>e ▸ hB))
 have J2:BJ σ.length _ σ.length [] []:=⟨Nat.le_refl _,F2 σ.length _ (Nat.ne_of_gt nd) app_z,rfl,fun _ _ e=>(nomatch e),fun _ _ _ e=>(nomatch e)⟩
 have v2:=hv.fx F02 nt
 refine xE53 (enumRun (n:=n+2) (f:=fun _=>none) (m:=m) (u:=bv) (again:=fun σ'=>Same _ bv σ') (w:=none) (x:=none) (y:=none) (z:=none) (q:=none) (r:=none) (s:=none) J2 (fun σ' F=>v2.same (v2.fx F fun t e h=>nt t e (.inr h))) (Nat.le_trans (Nat.add_le_add_left h2 0) (by decide))) fun w x y σ3 ks e3 F3 J3=>?_
 have J3:BJ σ.length σ3 σ.length two ks:=J3
 have F03:=F02.trans (F3.weak .inr)
 have S3:=S2.fx (F3.weak fun h=>Nat.le_trans nN h)
 have d3:=F3 _ _ (Nat.not_le.mpr nd) d2
 have l3:=Nat.le_of_lt (lt_of J3.hd)
 -- bjunk
 have p4:σ3 <+: σ3++[.set []]:=pre_app
 have d4:=getElem?_pre p4 d3
 have F5:Fx (·=d) (σ3++[AO.set []]) ((σ3++[AO.set []]).set d (.fields (setF "bjunk" (.loc σ3.length) (setF "b2j" (.loc σ.length) fs)))):=Fx.set rfl
 have d5:=List.getElem?_set_self (a:=AO.fields (setF "bjunk" (.loc σ3.length) (setF "b2j" (.loc σ.length) fs))) (lt_of d4)
 have F35:Fx (Ch3 as b d σ3.length σ.length) σ3 _:=Fx.trans (Fx.pre p4) (F5.weak fun e=>.inl (.inl e))
 have S5:=S3.fx (Fx.trans (Fx.pre p4) (F5.weak fun e=>e ▸ hB))
 have g5:=F5 _ _ (Nat.ne_of_gt nd) (getElem?_pre p4 J3.hd)
 have t5:=F5 _ _ (Nat.ne_of_gt (Nat.lt_of_lt_of_le nd l3)) (app_z (σ:=σ3) (τ:=[.set []]))
 have i5:(setF "bjunk" (.loc σ3.length) (setF "b2j" (.loc σ.length) fs)).lookup ("isjunk":Str)=some (.loc (b+8)):=(setF_ne (by decide)).trans ((setF_ne (by decide)).trans hi)
 have a5:(setF "bpopular" (.loc 0) (setF "bjunk" (.loc σ3.length) (setF "b2j" (.loc σ.length) fs))).lookup ("autojunk":Str)=some (.bool true):=(setF_ne (by decide)).trans ((setF_ne (by decide)).trans ((setF_ne (by decide)).trans ha))
 have lf2:=setF_len "bjunk" (.loc σ3.length) (setF "b2j" (.loc σ.length) fs)
 have F05:=F03.trans (F35.weak (Q:=ChP as b d σ.length) fun h=>h.elim .inl fun h=>.inr (h.elim (fun e=>e ▸ l3) fun e=>Nat.le_of_eq e.symm))
 have m5:=F05 _ _ nm hm
 -- the junk
 have p6:_ <+: (σ3++[AO.set []]).set d (.fields (setF "bjunk" (.loc σ3.length) (setF "b2j" (.loc σ.length) fs)))++[AO.keys σ.length]:=pre_app
 have F7:Fx (·=σ.length) _ (((σ3++[AO.set []]).set d (.fields (setF "bjunk" (.loc σ3.length) (setF "b2j" (.loc σ.length) fs)))++[AO.keys σ.length]).set σ.length (.locked (.dict (enc id ks)))):=Fx.set rfl
 have lk:ks.length≤90:=Nat.le_trans J3.len h2
 have S7:=S5.fx (Fx.trans (Fx.pre p6) (F7.weak fun e=>e ▸ nN))
 have b7:=List.getElem?_set_self (a:=AO.locked (.dict (enc id ks))) (lt_of (getElem?_pre p6 g5))
 have nbs:σ3.length≠σ.length:=Nat.ne_of_gt (lt_of J3.hd)
 have t7:=F7 _ _ nbs (getElem?_pre p6 t5)
 have lu:=Nat.le_trans (uq_len (l:=two)) h2
 refine xE24 (keysRun (n:=n) (f:=fun _=>none) (m:=m) (u:=bv) (w:=w) (y:=y) (q:=none) (r:=none) (x:=x) (Nat.le_trans nN l3) nbs nN (s:=⟨xs,D,[]⟩) (ks:=uq two) S7 t7 b7 (List.all_eq_true.mpr fun x h=>List.all_eq_true.mp hc x (uq_mem.mp h)) (Nat.le_trans (Nat.add_le_add hx lu) (by decide)) (Nat.le_trans (Nat.add_le_add hD lu) (by decide)) (Nat.le_trans (Nat.add_le_add (Nat.zero_le 0) lu) (by decide))) fun x' σ8 e8 F8 S8 t8=>?_
 refine xE05 (aStep_facts (ks:=uq two) (s:=⟨xs,D,[]⟩) .nil) fun jn jm _ jl _=>?_
 generalize (uq two).foldl aStep ⟨xs,D,[]⟩=J at e8 S8 t8 jn jm jl ⊢
 have b8:=F8 _ _ (fun e=>e.elim (fun e=>e.elim (fun e=>Nat.lt_irrefl _ (Nat.lt_of_lt_of_le (Nat.lt_of_lt_of_le S.lt (Nat.le_add_right b 9)) (e ▸ nN))) fun e=>absurd (Nat.le_of_add_le_add_left (e ▸ nN)) (by decide)) nbs.symm) b7
 have F9:Fx (·=σ.length) σ8 (σ8.set σ.length (.dict (enc id ks))):=Fx.set rfl
 have b9:=List.getElem?_set_self (a:=AO.dict (enc id ks)) (lt_of b8)
 have t9:=F9 _ _ nbs t8
 have F10:Fx (·=σ.length) (σ8.set σ.length (.dict (enc id ks))) ((σ8.set σ.length (.dict (enc id ks))).set σ.length (.dict ((ks.filter fun p=>!J.js.contains p.1).map fun p=>(.str p.1,p.2)))):=Fx.set rfl
 have F510:=(Fx.trans (Fx.pre (P:=fun i=>(i=as∨i=b+4)∨(i=σ3.length∨i=σ.length)) p6) (F7.weak fun e=>.inr (.inr e))).trans ((F8.weak fun e=>e.elim .inl fun e=>.inr (.inl e)).trans ((F9.trans F10).weak fun e=>.inr (.inr e)))
 have dne:¬ ((d=as∨d=b+4)∨(d=σ3.length∨d=σ.length)):=fun e=>e.elim (fun e=>e.elim (fun e=>Nat.lt_irrefl _ (Nat.lt_of_lt_of_le (Nat.lt_of_lt_of_le S.lt (Nat.le_add_right b 9)) (e ▸ hB))) fun e=>absurd (Nat.le_of_add_le_add_left (e ▸ hB)) (by decide)) fun e=>e.elim (Nat.ne_of_lt (Nat.lt_of_lt_of_le nd l3)) (Nat.ne_of_lt nd)
 have d10:=F510 _ _ dne d5
 have b10:=List.getElem?_set_self (a:=AO.dict ((ks.filter fun p=>!J.js.contains p.1).map fun p=>(.str p.1,p.2))) (lt_of b9)
 have t10:=F10 _ _ nbs t9
 -- bpopular
 have p11:_ <+: (σ8.set σ.length (.dict (enc id ks))).set σ.length (.dict ((ks.filter fun p=>!J.js.contains p.1).map fun p=>(.str p.1,p.2)))++[AO.set []]:=pre_app
 have F310:=F35.trans (F510.weak (Q:=Ch3 as b d σ3.length σ.length) fun e=>e.elim (fun e=>.inl (.inr e)) .inr)
 have S10:=S8.fx ((F9.trans F10).weak fun e=>e ▸ nN)
 have s6:Ex (n+2) (fun _=>none) (.ite (.var 7) [.for (.var 4) (.meth (.var 2) "keys" []) bodyK,.delAll 4 6 2] []) (env (LC m bv (.loc σ.length) w x y (some (.loc σ3.length)) (some (.loc (b+8))) none none)) _ .next (env (LC m bv (.loc σ.length) w none y (some (.loc σ3.length)) (some (.loc (b+8))) none none)) _:=
  .ite (.clos rfl (.p rfl) (S5.p 8 _ rfl)) (.cons (.forLock (.keys (.p rfl) g5 (enc_keys (g:=id) (D:=ks))) (lock_keys app_z (getElem?_pre p6 g5) (Nat.le_trans lk (by decide))) (J3.hk.symm ▸ e8) (unlock_dict b8))
   (.one (del_env (L:=LC m bv (.loc σ.length) w x' y (some (.loc σ3.length)) (some (.loc (b+8))) none none) (i:=4) rfl ▸ Ex.delAll rfl rfl t9 b9 (fun x h=>J3.hk.symm ▸ (jm x h).resolve_left fun q=>nomatch q) (Nat.le_trans lk (by decide)) (Nat.le_trans jl (Nat.le_trans (Nat.add_le_add (Nat.zero_le 0) lu) (by decide))) jn)))
 generalize (σ8.set σ.length (.dict (enc id ks))).set σ.length (.dict ((ks.filter fun p=>!J.js.contains p.1).map fun p=>(.str p.1,p.2)))=σ10 at *
 have d11:=getElem?_pre p11 d10
 have F12:Fx (·=d) (σ10++[AO.set []]) ((σ10++[AO.set []]).set d (.fields (chainF σ.length σ3.length σ10.length fs))):=Fx.set rfl
 have F312:=F310.trans (Fx.trans (Fx.pre p11) (F12.weak fun e=>.inl (.inl e)))
 have w3 {i:Nat} (h:Ch3 as b d σ3.length σ.length i):ChP as b d σ.length i:=h.elim .inl fun h=>.inr (h.elim (fun e=>e ▸ l3) fun e=>Nat.le_of_eq e.symm)
 have F012:=F03.trans (F312.weak w3)
 have d12:=List.getElem?_set_self (a:=AO.fields (chainF σ.length σ3.length σ10.length fs)) (lt_of d11)
 have CEnd:CE ((σ10++[AO.set []]).set d (.fields (chainF σ.length σ3.length σ10.length fs))) as b d fs two J σ.length σ3.length σ10.length:=by
  refine⟨S10.fx (Fx.trans (Fx.pre p11) (F12.weak fun e=>e ▸ hB)),d12,F12 _ _ (Nat.ne_of_gt (Nat.lt_of_lt_of_le nd l3)) (getElem?_pre p11 t10),ks.filter fun p=>!J.js.contains p.1,F12 _ _ (Nat.ne_of_gt nd) (getElem?_pre p11 b10),Nat.lt_of_le_of_lt (Nat.le_trans (List.length_filter_le _ _) lk) (by decide),fun x=>?_⟩
  rw [filter_look (q:=fun x=>J.js.contains x)]
  show(∃ l,_∧IntsAt _ l (if J.js.contains x=true then []else places x two))∨_∧(if J.js.contains x=true then []else places x two)=[]
  by_cases hj:J.js.contains x=true
  ·rw [if_pos hj,if_pos hj];exact .inr ⟨rfl,rfl⟩
  ·rw [if_neg hj,if_neg hj]
   cases e:ks.lookup x with
   | none=>exact .inr ⟨rfl,places_nil fun q=>let ⟨_,q⟩:=look_mem (J3.hk.symm ▸ uq_mem.mpr q);nomatch e.symm.trans q⟩
   | some v=>
    refine xE13 (J3.at_ x v e) fun l q1_ hl hi3=>?_
    subst q1_
    exact .inl ⟨l,rfl,F312 _ _ (fun q=>q.elim (fun q=>q.elim (fun q=>Nat.not_le.mpr nd (q ▸ hl)) fun q=>q.elim (fun q=>Nat.not_le.mpr (lt_of S.ha) (q ▸ hl)) fun q=>Nat.not_le.mpr (lt_of (S.p 4 _ rfl)) (q ▸ hl)) fun q=>q.elim (Nat.ne_of_lt (lt_of hi3)) (ne_of hi3 J3.hd fun e=>nomatch e)) hi3⟩
 have v12:=hv.fx F012 nt
 have m12:=F012 _ _ nm hm
 have hn:=v12.len (n:=n+2) (f:=fun _=>none) (ρ:=env (LC m bv (.loc σ.length) w none y (some (.loc σ3.length)) (some (.loc (b+8))) (some (.loc σ10.length)) none)) (E:=.var 1) (.p rfl)
 exact⟨_,_,_,_,.fn f188 (run0 9 rfl rfl (.inr ⟨rfl,rfl⟩) (.cons (Ex.setE (.attr (.p rfl) hm hd (.inl rfl) rfl hb hv.not_cst) rfl)
  (.cons (.assign .dict0 (.cons (.attr (.p rfl) (getElem?_pre p1 hm) d1 (.inl rfl) rfl (Nat.lt_trans hfl (by decide))) (.one (Asg.varE rfl))))
  (.cons (.forEnum (.p rfl) v2.items e3)
  (.cons (.assign (.call .glob .nil .set0) (.cons (.attr (.p rfl) (getElem?_pre p4 (F03 _ _ nm hm)) d4 (.inl rfl) rfl (Nat.lt_of_le_of_lt lf1 (Nat.lt_trans (Nat.succ_lt_succ hfl) (by decide)))) (.one (Asg.varE rfl))))
  (.cons (Ex.setE (.fld (.p rfl) m5 d5 i5 rfl) rfl)
  (.cons s6
  (.cons (.assign (.call .glob .nil .set0) (.cons (.attr (.p rfl) (getElem?_pre p11 ((F03.trans (F310.weak w3)) _ _ nm hm)) d11 (.inl rfl) rfl (Nat.lt_of_le_of_lt (Nat.le_trans lf2 (Nat.succ_le_succ lf1)) (Nat.lt_trans (Nat.succ_lt_succ (Nat.succ_lt_succ hfl)) (by decide)))) (.one (Asg.varE rfl))))
  (.cons (Ex.setE hn rfl)
  (.one (.skip (.all (.go (op:=.And) (.val rfl (.attr (.p rfl) m12 d12 (.inl rfl) rfl ((setF_ne (by decide)).trans ((setF_ne (by decide)).trans ((setF_ne (by decide)).trans ha))) fun _ e=>nomatch e) rfl) (.stop (op:=.And) ((Ts.geI (i:=two.length) (j:=200) (.p rfl) (.p rfl)).no fun h=>absurd (Nat.le_trans h h2) (by decide)))))))))))))))),F012.old (Nat.le_refl _),CEnd⟩
end
end Mine
end
section
open PySem
set_option maxRecDepth 100000
set_option linter.unusedVariables false
set_option autoImplicit false
namespace Mine
noncomputable def seq1F (av:AV) (fs:List (Str×AV)):List (Str×AV):=setF "opcodes" .none (setF "matching_blocks" .none (setF "a" av fs))
noncomputable def seq2F (bv:AV) (fs:List (Str×AV)):List (Str×AV):=setF "fullbcount" .none (setF "opcodes" .none (setF "matching_blocks" .none (setF "b" bv fs)))
section
variable {n:Nat}{f:Nat→Option Nat}{ρ:Rho}{σ:Sto}{as b m d:Nat}{fs:List (Str×AV)}{av bv ob v:AV}{two xs:List Str}{D:Dct}{nm:Str}
theorem fa (r0:ρ 0=some (.loc m)) (hm:σ[m]? = some (.inst 242 d)) (hd:σ[d]? = some (.fields fs)) (hn:fieldNames.contains nm=true) (hl:fs.length<90) (v:AV) :
  ∃ σ',Asg n f (.attr (.var 0) nm) v ρ σ ρ σ'∧σ'[m]? = some (.inst 242 d)∧σ'[d]? = some (.fields (setF nm v fs))∧Fx (·=d) σ σ'∧(setF nm v fs).length≤fs.length+1:=
 ⟨_,.attr (.var r0) hm hd (.inl rfl) hn (Nat.lt_trans hl (by decide)),(List.getElem?_set_ne (not_inst hm hd fun _ _ e=>nomatch e).symm).trans hm,List.getElem?_set_self (lt_of hd),Fx.set rfl,setF_len ..⟩
theorem lt_up {a b c:Nat} (h:a≤b+1) (k:b<c):a<c+1:=Nat.lt_succ_of_le (Nat.le_trans h k)
theorem seq1_run (hm:σ[m]? = some (.inst 242 d)) (hd:σ[d]? = some (.fields fs)) (hl:fs.length<80) (ho:fs.lookup ("a":Str)=some ob) (hoc:∀ k,ob≠.cst k) (hIs:cmpop .Is av ob σ=some false) :
  ∃ σ',Call (n+1) (.cst (.ref 174)) [.loc m,av] σ .none σ'∧Fx (·=d) σ σ'∧σ'[d]? = some (.fields (seq1F av fs)):=by
 refine xE15 (fa (n:=n) (f:=fun _=>none) (nm:="a") (ρ:=env ([.loc m,av].map some++List.replicate 0 none)) rfl hm hd rfl (Nat.lt_trans hl (by decide)) av) fun σ1 a1 m1 d1 F1 l1=>?_
 have k1:=lt_up l1 hl
 refine xE15 (fa (n:=n) (f:=fun _=>none) (nm:="matching_blocks") (ρ:=env ([.loc m,av].map some++List.replicate 0 none)) rfl m1 d1 rfl (Nat.lt_trans k1 (by decide)) .none) fun σ2 a2 m2 d2 F2 l2=>?_
 have k2:=lt_up l2 k1
 refine xE15 (fa (n:=n) (f:=fun _=>none) (nm:="opcodes") (ρ:=env ([.loc m,av].map some++List.replicate 0 none)) rfl m2 d2 rfl (Nat.lt_trans k2 (by decide)) .none) fun σ3 a3 m3 d3 F3 l3=>?_
 exact⟨_,.fn f174 (run0 0 rfl rfl (.inr ⟨rfl,rfl⟩) (.cons .doc (.cons (.skip (.cmp (.p rfl) (.attr (.p rfl) hm hd (.inl rfl) rfl ho hoc) hIs)) (.cons (.assign (.p rfl) (.one a1)) (.one (.assign .none (.cons a2 (.one a3)))))))),
  F1.trans (F2.trans F3),d3⟩
theorem seq2_look {bv:AV}{fs:List (Str×AV)}{x:Str} (h1:x≠"fullbcount") (h2:x≠"opcodes") (h3:x≠"matching_blocks") (h4:x≠"b"):(seq2F bv fs).lookup x=fs.lookup x:=
 (setF_ne h1).trans ((setF_ne h2).trans ((setF_ne h3).trans (setF_ne h4)))
structure CA (σ:Sto) (as b m d:Nat) (fs:List (Str×AV)) (bv:AV) (two xs:List Str) (D:Dct):Prop where
 S:AS σ as b xs D
 hm:σ[m]? = some (.inst 242 d)
 hd:σ[d]? = some (.fields fs)
 hB:b+9≤d
 hi:fs.lookup ("isjunk":Str)=some (.loc (b+8))
 ha:fs.lookup ("autojunk":Str)=some (.bool true)
 hch:fs.lookup ("_SequenceMatcher__chain_b":Str)=none
 hl:fs.length<80
 hv:BV σ bv two
 has:bv≠.loc as
 hc:two.all (C8.contains ·)=true
 h2:two.length≤90
 hx:xs.length≤600
 hD:D.length≤600
theorem seq2_run (H:CA σ as b m d fs bv two xs D) (ho:fs.lookup ("b":Str)=some ob) (hoc:∀ k,ob≠.cst k) (hIs:cmpop .Is bv ob σ=some false) :
  ∃ σ' bd bs bp,Call (n+4) (.cst (.ref 181)) [.loc m,bv] σ .none σ'∧Fx (fun i=>i=d∨i=as∨i=b+4) σ σ'∧CE σ' as b d (seq2F bv fs) two ((uq two).foldl aStep ⟨xs,D,[]⟩) bd bs bp:=by
 refine xE15 (fa (n:=n+3) (f:=fun _=>none) (nm:="b") (ρ:=env ([.loc m,bv].map some++List.replicate 0 none)) rfl H.hm H.hd rfl (Nat.lt_trans H.hl (by decide)) bv) fun σ1 a1 m1 d1 F1 l1=>?_
 have k1:=lt_up l1 H.hl
 refine xE15 (fa (n:=n+3) (f:=fun _=>none) (nm:="matching_blocks") (ρ:=env ([.loc m,bv].map some++List.replicate 0 none)) rfl m1 d1 rfl (Nat.lt_trans k1 (by decide)) .none) fun σ2 a2 m2 d2 F2 l2=>?_
 have k2:=lt_up l2 k1
 refine xE15 (fa (n:=n+3) (f:=fun _=>none) (nm:="opcodes") (ρ:=env ([.loc m,bv].map some++List.replicate 0 none)) rfl m2 d2 rfl (Nat.lt_trans k2 (by decide)) .none) fun σ3 a3 m3 d3 F3 l3=>?_
 have k3:=lt_up l3 k2
 refine xE15 (fa (n:=n+3) (f:=fun _=>none) (nm:="fullbcount") (ρ:=env ([.loc m,bv].map some++List.replicate 0 none)) rfl m3 d3 rfl (Nat.lt_trans k3 (by decide)) .none) fun σ4 a4 m4 d4 F4 l4=>?_
 have k4:=lt_up l4 k3
 have F4:=F1.trans (F2.trans (F3.trans F4))
 refine xE43 (chain_run (n:=n) (fs:=seq2F bv fs) (σ:=σ4) ⟨H.S.fx (F4.weak fun e=>e ▸ H.hB),m4,d4,H.hB,(setF_ne (by decide)).trans ((setF_ne (by decide)).trans ((setF_ne (by decide)).trans setF_get)),
  (seq2_look (by decide) (by decide) (by decide) (by decide)).trans H.hi,(seq2_look (by decide) (by decide) (by decide) (by decide)).trans H.ha,H.hv.fx F4 fun t e q=>ne_of (H.hv.at t e) H.hd (fun e=>nomatch e) q,H.has,H.hc,H.h2,H.hx,H.hD⟩ (Nat.lt_trans k4 (by decide))) fun σ' bd bs bp c F C=>?_
 exact⟨σ',bd,bs,bp,.fn f181 (run0 0 rfl rfl (.inr ⟨rfl,rfl⟩) (.cons .doc (.cons (.skip (.cmp (.p rfl) (.attr (.p rfl) H.hm H.hd (.inl rfl) rfl ho hoc) hIs)) (.cons (.assign (.p rfl) (.one a1)) (.cons (.assign .none (.cons a2 (.one a3))) (.cons (.assign .none (.one a4))
  (.one (.expr (.minst (.p rfl) .nil m4 d4 ((seq2_look (by decide) (by decide) (by decide) (by decide)).trans H.hch) rfl (fun P=>by kernel_rfl) c))))))))),(F4.weak .inl).trans F,C⟩
noncomputable def FS (ij a b mb b2j bj bp:AV):List (Str×AV):=[("isjunk",ij),("a",a),("b",b),("autojunk",.bool true),("matching_blocks",mb),("opcodes",.none),("fullbcount",.none),("b2j",b2j),("bjunk",bj),("bpopular",bp)]
theorem ctor_run (S:AS σ as b xs D) (hx:xs.length≤600) (hD:D.length≤600) :
  ∃ σ' bd bs bp,Call (n+6) (.cst (.ref 242)) [.loc (b+8)] σ (.loc (σ.length+1)) σ'∧Fx (fun i=>i=as∨i=b+4) σ σ'∧AS σ' as b xs D∧σ'[σ.length+1]? = some (.inst 242 σ.length)∧σ'[σ.length]? = some (.fields (FS (.loc (b+8)) (.str "") (.str "") .none (.loc bd) (.loc bs) (.loc bp))):=by
 refine byG fun G3 k3=>?_
 have p0:σ <+: σ++[AO.fields [],.inst 242 σ.length]:=pre_app
 have nN:b+9≤σ.length:=lt_of (S.p 8 _ rfl)
 refine xE15 (fa (n:=n+5) (f:=fun _=>none) (nm:="isjunk") (m:=σ.length+1) (d:=σ.length) (ρ:=env [some (.loc (σ.length+1)),some (.loc (b+8)),some (.str ""),some (.str ""),some (.bool true)]) rfl (app_k (σ:=σ) (τ:=[AO.fields [],.inst 242 σ.length])) app_z rfl (by decide) (.loc (b+8))) fun σ1 a1 m1 d1 F1 _=>?_
 refine xE15 (fa (n:=n+5) (f:=fun _=>none) (nm:="a") (ρ:=env [some (.loc (σ.length+1)),some (.loc (b+8)),some (.str ""),some (.str ""),some (.bool true)]) rfl m1 d1 rfl (Nat.le_of_ble_eq_true rfl) .none) fun σ2 a2 m2 d2 F2 _=>?_
 refine xE15 (fa (n:=n+5) (f:=fun _=>none) (nm:="b") (ρ:=env [some (.loc (σ.length+1)),some (.loc (b+8)),some (.str ""),some (.str ""),some (.bool true)]) rfl m2 d2 rfl (Nat.le_of_ble_eq_true rfl) .none) fun σ3 a3 m3 d3 F3 _=>?_
 refine xE15 (fa (n:=n+5) (f:=fun _=>none) (nm:="autojunk") (ρ:=env [some (.loc (σ.length+1)),some (.loc (b+8)),some (.str ""),some (.str ""),some (.bool true)]) rfl m3 d3 rfl (Nat.le_of_ble_eq_true rfl) (.bool true)) fun σ4 a4 m4 d4 F4 _=>?_
 refine xE13 (seq1_run (n:=n+3) (av:=.str "") m4 d4 (Nat.le_of_ble_eq_true rfl) (ob:=.none) rfl (fun _ e=>nomatch e) rfl) fun σ5 c5 F5 d5=>?_
 have m5:=F5 _ _ (Nat.succ_ne_self _) m4
 have F05:=Fx.trans (Fx.pre p0) (F1.trans (F2.trans (F3.trans (F4.trans F5))))
 have S5:=S.fx (F05.weak fun e=>e ▸ nN)
 refine xE43 (seq2_run (n:=n) (bv:=.str "") (two:=[]) ⟨S5,m5,d5,nN,rfl,rfl,rfl,Nat.le_of_ble_eq_true rfl,.inr ⟨rfl,rfl⟩,fun e=>(nomatch e),rfl,Nat.zero_le _,hx,hD⟩ (ob:=.none) rfl (fun _ e=>nomatch e) rfl) fun σ6 bd bs bp c6 F6 C6=>?_
 refine k3 ?_
 have nm:¬ (σ.length+1=σ.length∨σ.length+1=as∨σ.length+1=b+4):=fun e=>e.elim (Nat.succ_ne_self _) fun e=>e.elim (fun e=>Nat.not_succ_le_self _ (Nat.le_of_succ_le (e ▸ lt_of S.ha))) fun e=>Nat.not_succ_le_self _ (Nat.le_of_succ_le (e ▸ lt_of (S.p 4 _ rfl)))
 exact⟨σ6,bd,bs,bp,.cls make_242 (fun P=>by kernel_rfl) f160 (run0 0 rfl rfl (.inr ⟨rfl,rfl⟩) (.cons .doc (.cons (.assign (.p rfl) (.one a1)) (.cons (.assign .none (.cons a2 (.one a3))) (.cons (.assign (.p rfl) (.one a4))
  (.one (.expr (.minst (.p rfl) (.cons (.p rfl) (.cons (.p rfl) .nil)) m4 d4 rfl rfl (fun P=>by kernel_rfl)
   (.fn f167 (run0 0 rfl rfl (.inr ⟨rfl,rfl⟩) (.cons .doc (.cons (.expr (.minst (.p rfl) (.cons (.p rfl) .nil) m4 d4 rfl rfl (fun P=>by kernel_rfl) c5)) (.one (.expr (.minst (.p rfl) (.cons (.p rfl) .nil) m5 d5 rfl rfl (fun P=>by kernel_rfl) c6))))))))))))))),
  Fx.old (N:=σ.length) ((F05.weak fun e=>.inr (Nat.le_of_eq e.symm)).trans (F6.weak fun e=>e.elim (fun e=>.inr (Nat.le_of_eq e.symm)) .inl)) (Nat.le_refl _),C6.S,F6 _ _ nm m5,C6.hd⟩
theorem rstep {E:Mine.E}{t:List AO}{o:AO} (r0:ρ 0=some (.loc (σ.length+1))) (hn:fieldNames.contains nm=true) (hl:fs.length<100)
  (h:Ev n f E ρ (σ++AO.fields fs :: .inst 311 σ.length :: t) (.loc (σ++AO.fields fs :: .inst 311 σ.length :: t).length) ((σ++AO.fields fs :: .inst 311 σ.length :: t)++[o])) :
  Ex n f (.assign [.attr (.var 0) nm] E) ρ (σ++AO.fields fs :: .inst 311 σ.length :: t) .next ρ (σ++AO.fields (setF nm (.loc (σ.length+(t.length+2))) fs) :: .inst 311 σ.length :: (t++[o])):=by
 have e:=Ex.assign h (.one (.attr (.var r0) (getElem?_pre pre_app app_k) (getElem?_pre pre_app app_z) (.inr rfl) hn hl))
 rw [List.append_assoc,List.set_append_right _ _ (Nat.le_refl _),Nat.sub_self,List.length_append]at e
 exact e
theorem reader_run {l:Nat} (h:σ[l]? = some (.list [.str "a"])):Call (n+1) (.cst (.ref 311)) [.loc l] σ (.loc (σ.length+1)) (σ++[AO.fields (FI (σ.length+2) (σ.length+3) (σ.length+4)),.inst 311 σ.length,.set ["a"],.list [],.dict (encD [("<string>",1)])]):=by
 have h0:=getElem?_pre (pre_app (τ:=[AO.fields [],.inst 311 σ.length])) h
 have t:Ts n (fun _=>none) (.var 1) (env [some (.loc (σ.length+1)),some (.loc l),some .none]) (σ++[AO.fields [],.inst 311 σ.length]) true (σ++[AO.fields [],.inst 311 σ.length]):=.lst (.p rfl) rfl h0 (by decide)
 exact .cls make_311 (fun P=>by kernel_rfl) f301 (run0 0 rfl rfl (.inr ⟨rfl,rfl⟩) (.cons (rstep rfl rfl (Nat.le_of_ble_eq_true rfl) (.ite t.not (.call .glob (.cons (.p rfl) .nil) (.set1 h0))))
  (.cons (rstep rfl rfl (Nat.le_of_ble_eq_true rfl) (.ite (Ts.val rfl (.p rfl) rfl).not (.list .nil (Nat.zero_le _)))) (.one (rstep rfl rfl (Nat.le_of_ble_eq_true rfl) .dict1)))))
end
end Mine
end
section
open PySem
set_option maxRecDepth 100000
set_option linter.unusedVariables false
set_option autoImplicit false
namespace Mine
theorem range_one (k:Nat):sliceRange 0 (k:Int) 1=List.range k:=by
 unfold sliceRange
 simp only [Int.zero_add,Int.one_mul,Int.toNat_natCast]
 have:(if (1:Int) > 0 then if 0<(k:Int)then ((k:Int) - 0+1 - 1) / 1 else 0 else if 0 > (k:Int)then (0 - (k:Int) - 1 - 1) / -1 else 0).toNat=k:=by
  rw [if_pos (by decide)]
  split
  ·simp
  ·lia
 rw [this]
 exact List.map_id' _
theorem pick_range {α:Type}{xs:List α}:∀ {k:Nat},k≤xs.length→(List.range k).filterMap (xs[·]?)=xs.take k
 | 0,_=>rfl
 | k+1,h=>by
  rw [List.range_succ,List.filterMap_append,pick_range (Nat.le_of_succ_le h),List.take_add_one,List.filterMap_cons,List.getElem?_eq_getElem h]
  rfl
theorem bounds_hi (k N:Nat):sliceBounds none (some (k:Int)) none N=(0,((min k N:Nat):Int),1):=by
 have h1:¬ ((k:Int)<0):=by lia
 unfold sliceBounds
 simp [h1]
 lia
theorem pick_take {α:Type} (xs:List α) (k:Nat):pickL xs none (some (k:Int)) none=xs.take k:=by
 unfold pickL
 rw [bounds_hi]
 show(sliceRange 0 ((min k xs.length:Nat):Int) 1).filterMap _=_
 rw [range_one,pick_range (Nat.min_le_right _ _),←List.take_eq_take_min]
noncomputable def ifU:E:=.cmp .NotIn (.item (.cvar 2) (.var 1)) (.slice (.cvar 2) [] [.var 1] [])
section
variable {n:Nat}{f:Nat→Option Nat}{ρ ρ':Rho}{σ σ':Sto}{t cc acc l:Nat}{xs ys:List Str}{x:Str}{v:AV}{fl:Fl}
theorem runC {F:Fun}{vs:List AV} (c:Nat) (hc:F.cells=[c]) (hl:vs.length=F.arity) (hf:fl=.ret v∨(fl=.next∧v=.none)) (h:Exs n (fun y=>if y=c then some σ.length else none) F.body (fun x=>if [c].contains x then none else vs[x]?) (σ++[.cell vs[c]?]) fl ρ' σ'):Run n F [] vs σ v σ':=
 ⟨hl,fl,ρ',by rw [hc,List.append_nil];exact h,hf⟩
theorem slice_to (h:Strs σ t xs) (i:Nat):Slice (.loc t) .none (.int (i:Int)) .none σ (.loc σ.length) (σ++[.list ((xs.take i).map .str)]):=by
 have r:=SliceR.list (lo:=none) (hi:=some (i:Int)) (st:=none) h.1 (by rw [List.length_map];exact h.2)
 rw [pick_take,←List.map_take]at r
 exact⟨_,_,_,.none,.int _,.none,(fun e=>nomatch e),r⟩
theorem same_rng {a b:Int} (h:σ[l]? = some (.range a b)):Same σ (.loc l) σ':=fun _ _ e k=>nomatch h.symm.trans ((congrArg (fun i=>σ[i]?) (AV.loc.inj e)).trans k)
theorem items_rng {k:Nat} (h:σ[l]? = some (.range 0 (k:Int))) (hk:k≤900):ItemsR σ (.loc l) (rng 0 k):=by
 have r:=ItemsR.range h (smallR_n (a:=0) (Nat.zero_le _) hk)
 rw [Int.sub_zero,Int.toNat_natCast]at r
 exact rng_eq k 0 ▸ r
theorem emit {Elt:E}{zs:List AV} (he:Ev n f Elt ρ σ v σ) (ha:σ[acc]? = some (.list zs)) (hz:zs.length<900):Em n f acc Elt [] ρ σ ρ (σ.set acc (.list (zs++[v]))):=⟨v,σ,zs,he,ha,hz,rfl,rfl⟩
theorem unlikeL {again:Sto→Prop} (hg:∀ σ,again σ) (hf:f 2=some cc) (n1:cc≠acc) (n2:t≠acc) (hz:xs.length<900):∀ {m i:Nat}{ρ:Rho}{σ:Sto},σ[cc]? = some (.cell (some (.loc t)))→Strs σ t xs→i+m=xs.length→σ[acc]? = some (.list ((uq (xs.take i)).map .str))→
  ∃ ρ' σ',Gen n f acc (.item (.cvar 2) (.var 1)) (.var 1) [ifU] [] again ρ' σ' (rng i m) ρ σ∧Fx (·=acc) σ σ'∧σ'[acc]? = some (.list ((uq xs).map .str))
 | 0,i,ρ,σ,hc,hs,hi,ha=>⟨ρ,σ,⟨rfl,rfl⟩,fun _ _ _ e=>e,by rw [List.take_of_length_le (i:=i) (Nat.le_of_eq hi.symm)]at ha;exact ha⟩
 | m+1,i,ρ,σ,hc,hs,hi,ha=>by
  have hi':i+1+m=xs.length:=(Nat.succ_add_eq_add_succ _ _).trans hi
  refine xE11 (get_some (Nat.lt_of_lt_of_eq (Nat.lt_add_of_pos_right (Nat.succ_pos m)) hi)) fun x hx=>?_
  have p1:σ <+: σ++[.list ((xs.take i).map .str)]:=pre_app
  have hc1:=getElem?_pre p1 hc
  have hs1:=hs.mono p1
  have ha1:=getElem?_pre p1 ha
  have tl:(xs.take i).length≤900:=Nat.le_trans (List.length_take_le' ..) hs.2
  have hit {τ:Sto} (h1:τ[cc]? = some (.cell (some (.loc t)))) (h2:Strs τ t xs):Ev n f (.item (.cvar 2) (.var 1)) (upd ρ 1 (.int (i:Int))) τ (.str x) τ:=.itemS h2 (.cvar hf h1) (.var rfl) hx
  have t1:Ts n f ifU (upd ρ 1 (.int (i:Int))) σ (!(xs.take i).contains x) (σ++[.list ((xs.take i).map .str)]):=
   .cmp (hit hc hs) (.slice (.cvar hf hc) .no (.yes (.var rfl)) .no (slice_to hs i)) (notin_strs ⟨app_z,tl⟩)
  have htk:uq (xs.take (i+1))=uqs (uq (xs.take i)) x:=by rw [List.take_add_one,hx];exact uq_snoc ..
  by_cases hm:x∈xs.take i
  ·refine xE23 (unlikeL hg hf n1 n2 hz (i:=i+1) (ρ:=upd ρ 1 (.int (i:Int))) hc1 hs1 hi' (by rw [htk,show uqs (uq (xs.take i)) x=_ from if_pos (List.contains_iff_mem.mpr (uq_mem.mpr hm))];exact ha1)) fun ρ' σ' e F h=>?_
   exact⟨ρ',σ',.skip (.one .var) (.yes (t1.cast (c':=false) (by rw [List.contains_iff_mem.mpr hm];rfl))) (hg _) e,Fx.trans (Fx.pre p1) F,h⟩
  ·have F2:Fx (·=acc) (σ++[AO.list ((xs.take i).map .str)]) ((σ++[AO.list ((xs.take i).map .str)]).set acc (.list ((uq (xs.take i)).map .str++[.str x]))):=Fx.set rfl
   refine xE23 (unlikeL hg hf n1 n2 hz (i:=i+1) (ρ:=upd ρ 1 (.int (i:Int))) (F2 _ _ n1 hc1) ⟨F2 _ _ n2 hs1.1,hs1.2⟩ hi' (by
    rw [htk,show uqs (uq (xs.take i)) x=_ from if_neg fun q=>hm (uq_mem.mp (List.contains_iff_mem.mp q)),List.map_append]
    exact List.getElem?_set_self (lt_of ha1))) fun ρ' σ' e F h=>?_
   exact⟨ρ',σ',.emit (.one .var) (.yes (t1.cast (c':=true) (by rw [Bool.eq_false_iff.mpr fun q=>hm (List.contains_iff_mem.mp q)];rfl))) (emit (hit hc1 hs1) ha1 (Nat.lt_of_le_of_lt (Nat.le_of_eq (List.length_map _)) (Nat.lt_of_le_of_lt (Nat.le_trans uq_len (List.length_take_le' ..)) hz))) (hg _) e,Fx.trans (Fx.pre p1) (F2.trans F),h⟩
theorem unlike_run (h:Strs σ t xs) (hz:xs.length<900):∃ r σ',Call (n+1) (.cst (.ref 327)) [.loc t] σ (.loc r) σ'∧σ <+: σ'∧Strs σ' r (uq xs)∧σ.length≤r:=by
 have p1:σ <+: σ++[.cell (some (.loc t))]:=pre_app
 have p2:=p1.trans (pre_app (τ:=[.range 0 (xs.length:Int)]))
 have p3:=p2.trans (pre_app (τ:=[.list []]))
 have lr:=pre_len p2
 have lt:=lt_of h.1
 refine xE23 (unlikeL (n:=n) (f:=fun i=>([(2,0)].lookup i).bind fun y=>if y=0 then some σ.length else none) (xs:=xs) (t:=t) (again:=fun σ'=>Same (σ++[AO.cell (some (.loc t))]++[AO.range 0 (xs.length:Int)]) (.loc (σ++[AO.cell (some (.loc t))]).length) σ') (fun σ'=>same_rng app_z) rfl (Nat.ne_of_lt (Nat.lt_of_lt_of_le (lt_of (app_z (σ:=σ) (τ:=[AO.cell (some (.loc t))]))) (pre_len pre_app))) (Nat.ne_of_lt (Nat.lt_of_lt_of_le lt lr)) hz (m:=xs.length) (i:=0) (ρ:=fun _=>none) (getElem?_pre (pre_app.trans pre_app) app_z) (h.mono p3) (Nat.zero_add _) app_z) fun ρ' σ' e F g=>?_
 exact⟨_,σ',.fn f327 (runC 0 rfl rfl (.inl rfl) (.stop (fun e=>nomatch e) (.ret (.comp (.call .glob (.cons (.lenS (h.mono p1) (.cvar rfl app_z)) .nil) .range) (items_rng app_z (Nat.le_of_lt hz)) rfl e)))),Fx.out p3 F fun e=>e ▸ lr,⟨g,Nat.le_trans uq_len h.2⟩,lr⟩
end
end Mine
end
section
open PySem
set_option maxRecDepth 100000
set_option linter.unusedVariables false
set_option autoImplicit false
namespace Mine
noncomputable abbrev Dcb:=List (Str×Bool)
noncomputable abbrev encB:Dcb→List (AV×AV):=enc .bool
noncomputable def fval (x:Str):Bool:=[("a":Str),"a.b"].contains (modOf x) || decide (lastOf x="-")
noncomputable def fStep (D:Dcb) (x:Str):Dcb:=(D.lookup (modOf x)).elim (D++[(modOf x,fval x)]) fun _=>D
noncomputable def fD (xs:List Str):Dcb:=xs.foldl fStep []
noncomputable def lawJunk (xs:List Str):List Str:=xs.filter fun x=>(fD xs).lookup (modOf x) == some true
theorem fStep_some {D:Dcb}{x:Str}{v:Bool} (h:D.lookup (modOf x)=some v):fStep D x=D:=by unfold fStep;rw [h];rfl
theorem fStep_none {D:Dcb}{x:Str} (h:D.lookup (modOf x)=none):fStep D x=D++[(modOf x,fval x)]:=by unfold fStep;rw [h];rfl
theorem fStep_len {D:Dcb}{x:Str}:(fStep D x).length≤D.length+1:=by
 cases h:D.lookup (modOf x)with
 | some v=>rw [fStep_some h];exact Nat.le_succ _
 | none=>rw [fStep_none h];exact Nat.le_of_eq (List.length_append ..)
theorem fStep_keep {D:Dcb}{x y:Str} (h:(D.lookup y).isSome=true):((fStep D x).lookup y).isSome=true:=by
 cases e:D.lookup (modOf x)with
 | some v=>rw [fStep_some e];exact h
 | none=>
  rw [fStep_none e,List.lookup_append]
  cases e:D.lookup y with
  | none=>rw [e]at h;exact nomatch h
  | some v=>rfl
theorem fStep_new {D:Dcb}{x:Str}:((fStep D x).lookup (modOf x)).isSome=true:=by
 cases e:D.lookup (modOf x)with
 | some v=>rw [fStep_some e,e];rfl
 | none=>rw [fStep_none e,List.lookup_append,e,List.lookup_cons,beq_self_eq_true];rfl
theorem fD_has:∀ {xs:List Str}{D:Dcb},(∀ y,(D.lookup y).isSome=true→((xs.foldl fStep D).lookup y).isSome=true)∧∀ x∈xs,((xs.foldl fStep D).lookup (modOf x)).isSome=true
 | [],D=>⟨fun y h=>h,fun x h=>nomatch h⟩
 | z :: xs,D=>
  let h:=fD_has (xs:=xs) (D:=fStep D z)
  ⟨fun y k=>h.1 y (fStep_keep k),fun x hx=>(List.mem_cons.mp hx).elim (fun e=>e ▸ h.1 _ fStep_new) (h.2 x)⟩
noncomputable def bodyF:List S:=[.ite (.cmp .NotIn (.slice (.var 2) [] [.neg (.int 2)] []) (.cvar 1)) [.assign [.item (.cvar 1) (.slice (.var 2) [] [.neg (.int 2)] [])] (.bop .Or [.cmp .In (.slice (.var 2) [] [.neg (.int 2)] []) (.list [.str "a",.str "a.b"]),.cmp .Eq (.item (.var 2) (.neg (.int 1))) (.str "-")])] []]
noncomputable def ifJ:E:=.item (.cvar 2) (.slice (.var 1) [] [.neg (.int 2)] [])
section
variable {n:Nat}{f:Nat→Option Nat}{ρ ρ':Rho}{σ σ' σ0:Sto}{t cc dl acc i:Nat}{xs ys zs:List Str}{x:Str}{D:Dcb}{vs:List AV}
theorem Ev.mod (h:ρ i=some (.str x)) (hx:x∈C8):Ev n f (.slice (.var i) [] [.neg (.int 2)] []) ρ σ (.str (modOf x)) σ:=.slice (.var h) .no (.yes (.p rfl)) .no (slice_mod hx)
theorem bodyF_run (hf:f 1=some cc) (hc:σ[cc]? = some (.cell (some (.loc dl)))) (hd:σ[dl]? = some (.dict (encB D))) (r2:ρ 2=some (.str x)) (hx:x∈C8) (hz:D.length<900):∃ σ',Exs n f bodyF ρ σ .next ρ σ'∧Fx (·=dl) σ σ'∧σ'[dl]? = some (.dict (encB (fStep D x))):=by
 have t1:Ts n f (.cmp .NotIn (.slice (.var 2) [] [.neg (.int 2)] []) (.cvar 1)) ρ σ (!(D.lookup (modOf x)).isSome) σ:=.cmp (.mod r2 hx) (.cvar hf hc) (congrArg (Option.map (!·)) (is_dict hd))
 cases hl:D.lookup (modOf x)with
 | some v=>
  rw [hl]at t1
  exact⟨σ,.one (.skip t1),fun _ _ _ e=>e,by rw [fStep_some hl];exact hd⟩
 | none=>
  rw [hl]at t1
  have p1:σ <+: σ++[.list [.str "a",.str "a.b"]]:=pre_app
  have hc1:=getElem?_pre p1 hc
  have hd1:=getElem?_pre p1 hd
  have b1:Ev n f (.cmp .In (.slice (.var 2) [] [.neg (.int 2)] []) (.list [.str "a",.str "a.b"])) ρ σ (.bool ([("a":Str),"a.b"].contains (modOf x))) (σ++[.list [.str "a",.str "a.b"]]):=.cmp (.mod r2 hx) (.list (.cons .str (.cons .str .nil)) (by decide)) (in_strs (xs:=["a","a.b"]) ⟨app_z,by decide⟩)
  have b2:Ev n f (.bop .Or [.cmp .In (.slice (.var 2) [] [.neg (.int 2)] []) (.list [.str "a",.str "a.b"]),.cmp .Eq (.item (.var 2) (.neg (.int 1))) (.str "-")]) ρ σ (.bool (fval x)) (σ++[.list [.str "a",.str "a.b"]]):=by
   unfold fval
   cases h:[("a":Str),"a.b"].contains (modOf x)with
   | true=>rw [h]at b1;exact .stop b1 rfl rfl
   | false=>rw [h]at b1;exact .go b1 rfl rfl (.cmp (.item (.var r2) (.p rfl) (item_end hx)) .str rfl)
  have hs:=put_dict (g:=AV.bool) (v:=fval x) hd1 hz hl
  exact⟨_,.one (.ite t1 (.one (.assign b2 (.one (.item (.cvar hf hc1) (.mod r2 hx) hs))))),Fx.trans (Fx.pre p1) (Fx.set rfl),by rw [fStep_none hl];exact List.getElem?_set_self (lt_of hd1)⟩
theorem forF (hf:f 1=some cc) (h0:σ0[t]? = some (.list vs)) (n1:t≠dl) (n2:cc≠dl):∀ {xs:List Str}{D:Dcb}{ρ:Rho}{σ:Sto},σ[t]? = some (.list vs)→σ[cc]? = some (.cell (some (.loc dl)))→σ[dl]? = some (.dict (encB D))→(∀ x∈xs,x∈C8)→D.length+xs.length≤800→ρ 0=some (.loc t)→
  ∃ ρ' σ',For n f (.var 2) bodyF (fun σ=>Same σ0 (.loc t) σ) .next ρ' σ' (xs.map fun x=>[AV.str x]) ρ σ∧Fx (·=dl) σ σ'∧σ'[dl]? = some (.dict (encB (xs.foldl fStep D)))∧ρ' 0=some (.loc t)
 | [],D,ρ,σ,h1,h2,h3,h4,h5,h6=>⟨ρ,σ,⟨rfl,rfl,rfl⟩,fun _ _ _ e=>e,h3,h6⟩
 | x :: xs,D,ρ,σ,h1,h2,h3,h4,h5,h6=>by
  have h5':D.length+1+xs.length≤800:=Nat.le_trans (Nat.le_of_eq (Nat.succ_add_eq_add_succ _ _)) h5
  refine xE13 (bodyF_run (n:=n) (ρ:=upd ρ 2 (.str x)) hf h2 h3 rfl (h4 x (.head _)) (Nat.lt_of_le_of_lt (Nat.le_trans (Nat.le_add_right _ _) h5) (by decide))) fun σ1 e1 F1 g1=>?_
  have t1:=F1 _ _ n1 h1
  refine xE24 (forF hf h0 n1 n2 (xs:=xs) (ρ:=upd ρ 2 (.str x)) t1 (F1 _ _ n2 h2) g1 (fun y hy=>h4 y (.tail _ hy)) (Nat.le_trans (Nat.add_le_add_right fStep_len _) h5') h6) fun ρ2 σ2 e2 F2 g2 k2=>?_
  exact⟨ρ2,σ2,.step (.one .var) e1 (.inl rfl) (same_l h0 t1) e2,F1.trans F2,g2,k2⟩
theorem genJ (hf:f 2=some cc) (h0:σ0[t]? = some (.list vs)) (n1:t≠acc) (n2:cc≠acc) (n3:dl≠acc):∀ {xs zs:List Str}{ρ:Rho}{σ:Sto},σ[t]? = some (.list vs)→σ[cc]? = some (.cell (some (.loc dl)))→σ[dl]? = some (.dict (encB D))→(∀ x∈xs,x∈C8)→(∀ x∈xs,(D.lookup (modOf x)).isSome=true)→zs.length+xs.length≤800→σ[acc]? = some (.list (zs.map .str))→
  ∃ ρ' σ',Gen n f acc (.var 1) (.var 1) [ifJ] [] (fun σ=>Same σ0 (.loc t) σ) ρ' σ' (xs.map fun x=>[AV.str x]) ρ σ∧Fx (·=acc) σ σ'∧σ'[acc]? = some (.list ((zs++xs.filter fun x=>D.lookup (modOf x) == some true).map .str))
 | [],zs,ρ,σ,h1,h2,h3,h4,h5,h7,h6=>⟨ρ,σ,⟨rfl,rfl⟩,fun _ _ _ e=>e,(List.append_nil zs).symm ▸ h6⟩
 | x :: xs,zs,ρ,σ,h1,h2,h3,h4,h5,h7,h6=>by
  have h7':zs.length+1+xs.length≤800:=Nat.le_trans (Nat.le_of_eq (Nat.succ_add_eq_add_succ _ _)) h7
  refine xE11 (Option.isSome_iff_exists.mp (h5 x (.head _))) fun b hb=>?_
  have t1:Ts n f ifJ (upd ρ 1 (.str x)) σ b σ:=.val rfl (.item (.cvar hf h2) (.mod rfl (h4 x (.head _))) (item_dict (g:=AV.bool) h3 hb)) rfl
  cases b with
  | false=>
   refine byG fun G5 k5=>?_
   refine xE23 (genJ hf h0 n1 n2 n3 (xs:=xs) (ρ:=upd ρ 1 (.str x)) h1 h2 h3 (fun y hy=>h4 y (.tail _ hy)) (fun y hy=>h5 y (.tail _ hy)) (Nat.le_trans (Nat.le_succ _) h7) h6) fun ρ' σ' e F h=>?_
   refine k5 ?_
   exact⟨ρ',σ',.skip (.one .var) (.yes t1) (same_l h0 h1) e,F,by rw [List.filter_cons,hb];exact h⟩
  | true=>
   have F2:Fx (·=acc) σ (σ.set acc (.list (zs.map .str++[.str x]))):=Fx.set rfl
   have t2:=F2 _ _ n1 h1
   refine xE23 (genJ hf h0 n1 n2 n3 (xs:=xs) (zs:=zs++[x]) (ρ:=upd ρ 1 (.str x)) t2 (F2 _ _ n2 h2) (F2 _ _ n3 h3) (fun y hy=>h4 y (.tail _ hy)) (fun y hy=>h5 y (.tail _ hy)) (by rw [List.length_append];exact h7') (by rw [List.map_append];exact List.getElem?_set_self (lt_of h6))) fun ρ' σ' e F h=>?_
   exact⟨ρ',σ',.emit (.one .var) (.yes t1) (emit (.var rfl) h6 (by rw [List.length_map];exact Nat.lt_of_le_of_lt (Nat.le_trans (Nat.le_add_right _ _) h7) (by decide))) (same_l h0 t2) e,F2.trans F,by rw [List.filter_cons,hb];rw [List.append_assoc]at h;exact h⟩
theorem junk_run (h:Strs σ t xs) (hc:∀ x∈xs,x∈C8) (hz:xs.length≤800):∃ r σ',Call (n+1) (.cst (.ref 332)) [.loc t] σ (.loc r) σ'∧σ <+: σ'∧Strs σ' r (lawJunk xs)∧σ.length≤r:=by
 have p1:σ <+: σ++[.cell none]:=pre_app
 have p2:=p1.trans (pre_app (τ:=[.dict (encB [])]))
 have lt:=lt_of h.1
 have nc:σ.length≠(σ++[AO.cell none]).length:=Nat.ne_of_lt (lt_of (app_z (σ:=σ) (τ:=[AO.cell none])))
 have g2:(σ++[AO.cell none]++[AO.dict (encB [])])[σ.length]? = some (.cell none):=getElem?_pre pre_app app_z
 have F3:Fx (·=σ.length) (σ++[AO.cell none]++[AO.dict (encB [])]) ((σ++[AO.cell none]++[AO.dict (encB [])]).set σ.length (.cell (some (.loc (σ++[AO.cell none]).length)))):=Fx.set rfl
 have p3:=Fx.out p2 F3 fun e=>Nat.le_of_eq e.symm
 have c3:=List.getElem?_set_self (a:=AO.cell (some (.loc (σ++[AO.cell none]).length))) (lt_of g2)
 have t3:=getElem?_pre p3 h.1
 refine xE24 (forF (n:=n) (f:=fun y=>if y=1 then some σ.length else none) (D:=[]) (ρ:=fun x=>if [1].contains x then none else [AV.loc t][x]?) rfl t3 (Nat.ne_of_lt (Nat.lt_of_lt_of_le lt (pre_len p1))) nc t3 c3 (F3 _ _ nc.symm app_z) hc (by rw [List.length_nil,Nat.zero_add];exact hz) rfl) fun ρ4 σ4 e4 F4 d4 k4=>?_
 have p4:=Fx.out p3 F4 fun e=>e ▸ pre_len p1
 have p5:σ4 <+: σ4++[.list []]:=pre_app
 have t4:=getElem?_pre p4 h.1
 have c4:=F4 _ _ nc c3
 refine xE23 (genJ (n:=n) (f:=fun i=>([(2,1)].lookup i).bind fun y=>if y=1 then some σ.length else none) (D:=fD xs) (acc:=σ4.length) rfl t4 (Nat.ne_of_lt (lt_of t4)) (Nat.ne_of_lt (lt_of c4)) (Nat.ne_of_lt (lt_of d4)) (xs:=xs) (zs:=[]) (ρ:=fun _=>none) (getElem?_pre p5 t4) (getElem?_pre p5 c4) (getElem?_pre p5 d4) hc fD_has.2 (by rw [List.length_nil,Nat.zero_add];exact hz) app_z) fun ρ6 σ6 e6 F6 a6=>?_
 have lr:=pre_len p4
 exact⟨_,σ6,.fn f332 (runC 1 rfl rfl (.inl rfl) (.cons (.assign .dict0 (.one (.cvar rfl g2))) (.cons (.for (.var rfl) (items_m t3) e4) (.stop (fun e=>nomatch e) (.ret (.comp (.var k4) (items_m t4) rfl e6)))))),
  Fx.out (p4.trans p5) F6 fun e=>e ▸ lr,⟨a6,Nat.le_trans (List.length_filter_le ..) h.2⟩,lr⟩
end
end Mine
end
section
open PySem
set_option maxRecDepth 100000
set_option linter.unusedVariables false
set_option autoImplicit false
namespace Mine
noncomputable def mods:List Str:=["a","b","ab","a.b"]
noncomputable def sufs:List Str:=[" f"," -"]
noncomputable def modAt (x:Int):Str:=mods.getD (x.fmod 4).toNat ""
noncomputable def sufAt (x:Int):Str:=sufs.getD ((x.fdiv 4).fmod 2).toNat ""
noncomputable def callOf (x:Int):Str:=modAt x++sufAt x
noncomputable def eltC:E:=.bin .Add (.item (.list [.str "a",.str "b",.str "ab",.str "a.b"]) (.bin .Mod (.var 1) (.int 4))) (.item (.list [.str " f",.str " -"]) (.bin .Mod (.bin .FloorDiv (.var 1) (.int 4)) (.int 2)))
theorem ok8:mods.all (fun s=>sufs.all fun t=>C8.contains (s++t) && Nat.ble (s.cps.size+t.cps.size) 900)=true:=by kernel_rfl
theorem get_at {xs:List Str}{i:Nat} (h:i<xs.length):xs[i]? = some (xs.getD i ""):=by rw [List.getD_eq_getElem?_getD,List.getElem?_eq_getElem h];rfl
theorem mod_at (x:Int):mods[(x.fmod 4).toNat]? = some (modAt x):=get_at ((Int.toNat_lt (Int.fmod_nonneg_of_pos x (by decide))).mpr (Int.fmod_lt_of_pos x (by decide)))
theorem suf_at (x:Int):sufs[((x.fdiv 4).fmod 2).toNat]? = some (sufAt x):=get_at ((Int.toNat_lt (Int.fmod_nonneg_of_pos _ (by decide))).mpr (Int.fmod_lt_of_pos _ (by decide)))
theorem call_ok (x:Int):callOf x∈C8∧(modAt x).cps.size+(sufAt x).cps.size≤900:=
 let h:=List.all_eq_true.mp (List.all_eq_true.mp ok8 _ (List.mem_of_getElem? (mod_at x))) _ (List.mem_of_getElem? (suf_at x))
 ⟨List.contains_iff_mem.mp (and1 h),Nat.le_of_ble_eq_true (and2 h)⟩
section
variable {n:Nat}{f:Nat→Option Nat}{ρ:Rho}{σ σ0:Sto}{acc t:Nat}{x:Int}{vs:List AV}{E:Mine.E}
theorem Ev.nat {i:Int} (hi:0≤i) (h:Ev n f E ρ σ (.int i) σ):Ev n f E ρ σ (.int (i.toNat:Int)) σ:=(Int.toNat_of_nonneg hi).symm ▸ h
theorem elt_run (h:ρ 1=some (.int x)):Ev n f eltC ρ σ (.str (callOf x)) (σ++[.list (mods.map .str)]++[.list (sufs.map .str)]):=
 .bin (.item (.list (.cons .str (.cons .str (.cons .str (.cons .str .nil)))) (by decide)) (.nat (Int.fmod_nonneg_of_pos x (by decide)) (.bin (.var h) .int rfl)) (item_strs (xs:=mods) ⟨app_z,by decide⟩ (mod_at x)))
  (.item (.list (.cons .str (.cons .str .nil)) (by decide)) (.nat (Int.fmod_nonneg_of_pos _ (by decide)) (.bin (.bin (.var h) .int rfl) .int rfl)) (item_strs (xs:=sufs) ⟨app_z,by decide⟩ (suf_at x))) (if_pos (call_ok x).2)
theorem callsL (h0:σ0[t]? = some (.list vs)) (n1:t≠acc):∀ {xs:List Int}{zs:List Str}{ρ:Rho}{σ:Sto},σ[t]? = some (.list vs)→zs.length+xs.length≤800→σ[acc]? = some (.list (zs.map .str))→
  ∃ ρ' σ',Gen n f acc eltC (.var 1) [] [] (fun σ=>Same σ0 (.loc t) σ) ρ' σ' (xs.map fun x=>[AV.int x]) ρ σ∧Fx (·=acc) σ σ'∧σ'[acc]? = some (.list ((zs++xs.map callOf).map .str))
 | [],zs,ρ,σ,h1,h7,h6=>⟨ρ,σ,⟨rfl,rfl⟩,fun _ _ _ e=>e,(List.append_nil zs).symm ▸ h6⟩
 | x :: xs,zs,ρ,σ,h1,h7,h6=>by
  have h7':zs.length+1+xs.length≤800:=Nat.le_trans (Nat.le_of_eq (Nat.succ_add_eq_add_succ _ _)) h7
  have p1:σ <+: σ++[.list (mods.map .str)]++[.list (sufs.map .str)]:=pre_app.trans pre_app
  have a1:=getElem?_pre p1 h6
  have F2:Fx (·=acc) σ ((σ++[AO.list (mods.map .str)]++[AO.list (sufs.map .str)]).set acc (.list (zs.map .str++[.str (callOf x)]))):=Fx.trans (Fx.pre p1) (Fx.set rfl)
  have t2:=F2 _ _ n1 h1
  refine xE23 (callsL h0 n1 (xs:=xs) (zs:=zs++[callOf x]) (ρ:=upd ρ 1 (.int x)) t2 (by rw [List.length_append];exact h7') (by rw [List.map_append];exact List.getElem?_set_self (lt_of a1))) fun ρ' σ' e F h=>?_
  exact⟨ρ',σ',.emit (.one .var) .no ⟨_,_,zs.map .str,elt_run rfl,a1,Nat.lt_of_le_of_lt (Nat.le_of_eq (List.length_map _)) (Nat.lt_of_le_of_lt (Nat.le_trans (Nat.le_add_right _ _) h7) (by decide)),rfl,rfl⟩ (same_l h0 t2) e,F2.trans F,by rw [List.append_assoc]at h;exact h⟩
end
theorem pick_map {α β:Type} (g:α→β) (xs:List α) (lo hi st:Option Int):pickL (xs.map g) lo hi st=(pickL xs lo hi st).map g:=by
 unfold pickL
 rw [List.length_map,List.map_filterMap]
 exact congrArg (fun f=>List.filterMap f _) (funext fun i=>List.getElem?_map ..)
theorem pick_mem {α:Type}{xs:List α}{lo hi st:Option Int}{a:α} (h:a∈pickL xs lo hi st):a∈xs:=let ⟨_,_,hi⟩:=List.mem_filterMap.mp h;List.mem_of_getElem? hi
noncomputable def every (k:Nat) (xs:List Str):List Str:=pickL xs (some (k:Int)) none (some 4)
noncomputable def evI (k N:Nat):List Nat:=sliceRange (sliceBounds (some (k:Int)) none (some 4) N).1 (sliceBounds (some (k:Int)) none (some 4) N).2.1 (sliceBounds (some (k:Int)) none (some 4) N).2.2
theorem ev_ok:(List.range 4).all (fun k=>(List.range 9).all fun N=>Nat.ble (evI k (16+N)).length 6)=true:=by kernel_rfl
theorem ev_one:(List.range 9).all (fun N=>(evI 1 (16+N)).take 4 == [1,5,9,13])=true:=by kernel_rfl
theorem every_len {k N:Nat}{xs:List Str} (hN:N≤8) (h:xs.length=16+N) (hk:k<4):(every k xs).length≤6:=
 Nat.le_trans (List.length_filterMap_le _ _) (h ▸ Nat.le_of_ble_eq_true (List.all_eq_true.mp (List.all_eq_true.mp ev_ok k (List.mem_range.mpr hk)) N (List.mem_range.mpr (Nat.lt_succ_of_le hN))))
theorem every_one {N:Nat}{xs:List Str} (hN:N≤8) (h:xs.length=16+N){a b c d:Str} (ha:xs[1]? = some a) (hb:xs[5]? = some b) (hc:xs[9]? = some c) (hd:xs[13]? = some d):∃ r,every 1 xs=a :: b :: c :: d :: r:=by
 have hk:=eq_of_beq (List.all_eq_true.mp ev_one N (List.mem_range.mpr (Nat.lt_succ_of_le hN)))
 have e:every 1 xs=(evI 1 (16+N)).filterMap (xs[·]?):=by rw [←h];rfl
 rw [←List.take_append_drop 4 (evI 1 (16+N)),hk,List.filterMap_append,List.filterMap_cons,ha,List.filterMap_cons,hb,List.filterMap_cons,hc,List.filterMap_cons,hd]at e
 exact⟨_,e⟩
end Mine
end
section
open PySem
set_option maxRecDepth 100000
set_option linter.unusedVariables false
set_option autoImplicit false
namespace Mine
noncomputable def isJ (x:Str):Bool:=!(decide (modOf x="ab"))
theorem look_put {β:Type}{k m:Str}{v:β}{L:List (Str×β)} (hk:L.lookup k=none):(L++[(k,v)]).lookup m=if m=k then some v else L.lookup m:=by
 rw [List.lookup_append,List.lookup_cons]
 by_cases h:m=k
 ·rw [if_pos h,h,hk,beq_self_eq_true];rfl
 ·rw [if_neg h,beq_false_of_ne h]
  exact Option.or_none
noncomputable def stepG {β:Type} (df:Str→β) (L:List (Str×β)) (x:Str):List (Str×β):=(L.lookup (modOf x)).elim (L++[(modOf x,df x)]) fun _=>L
noncomputable def getG {β:Type} (df:Str→β) (L:List (Str×β)) (x:Str):β:=(L.lookup (modOf x)).getD (df x)
noncomputable def InvG {β:Type} (df:Str→β) (Q:Str→β→Prop) (L:List (Str×β)):Prop:=∀ y∈C8,Q y (getG df L y)
section
variable {β:Type}{df:Str→β}{Q:Str→β→Prop}{L:List (Str×β)}{x:Str}
theorem InvG.step (hQ:∀ {x y v},modOf x=modOf y→Q x v→Q y v) (h:InvG df Q L) (hx:x∈C8):InvG df Q (stepG df L x):=by
 unfold stepG
 cases e:L.lookup (modOf x)with
 | some v=>exact h
 | none=>
  intro y hy
  show Q y (((L++[(modOf x,df x)]).lookup (modOf y)).getD (df y))
  rw [look_put e]
  by_cases m:modOf y=modOf x
  ·rw [if_pos m]
   have h0:=h x hx
   unfold getG at h0
   rw [e]at h0
   exact hQ m.symm h0
  ·rw [if_neg m]
   exact h y hy
theorem InvG.steps (hQ:∀ {x y v},modOf x=modOf y→Q x v→Q y v):∀ {ks:List Str}{L:List (Str×β)},(∀ x∈ks,x∈C8)→InvG df Q L→InvG df Q (ks.foldl (stepG df) L)
 | [],_,_,h=>h
 | k :: ks,_,hc,h=>InvG.steps hQ (ks:=ks) (fun x hx=>hc x (.tail _ hx)) (h.step hQ (hc k (.head _)))
end
noncomputable abbrev nkx (x:Str):Int:=nk (fileOf x) (modOf x)
noncomputable def SD (D:Dct):Prop:=InvG nkx (fun x v=>decide (v=0)=!isJ x) D
noncomputable def SF (F:Dcb):Prop:=InvG fval (fun x v=>v=isJ x) F
theorem isJ_mod {x y:Str} (h:modOf x=modOf y):isJ x=isJ y:=congrArg (fun m:Str=>!(decide (m="ab"))) h
theorem SD.step {D:Dct}{x:Str} (h:SD D) (hx:x∈C8):SD (nD D (fileOf x) (modOf x)):=InvG.step (df:=nkx) (fun m q=>isJ_mod m ▸ q) h hx
theorem SF.steps {F:Dcb}{ks:List Str} (hc:∀ x∈ks,x∈C8) (h:SF F):SF (ks.foldl fStep F):=InvG.steps (df:=fval) (fun m q=>isJ_mod m ▸ q) hc h
theorem fold_js:∀ {ks:List Str}{s:AJ},(∀ x∈ks,x∈C8)→SD s.D→SD (ks.foldl aStep s).D∧∀ y,y∈(ks.foldl aStep s).js↔y∈s.js∨(y∈ks∧isJ y=true)
 | [],s,_,h=>⟨h,fun y=>⟨.inl,fun q=>q.elim id fun q=>nomatch q.1⟩⟩
 | k :: ks,s,hc,h=>by
  have hk:=hc k (.head _)
  refine xE02 (fold_js (ks:=ks) (s:=aStep s k) (fun x hx=>hc x (.tail _ hx)) (h.step hk)) fun h1 h2=>?_
  have hq:decide (nv s.D (fileOf k) (modOf k)=0)=!isJ k:=h k hk
  have hjs (y:Str):y∈(aStep s k).js↔y∈s.js∨(y=k∧isJ k=true):=by
   by_cases q:nv s.D (fileOf k) (modOf k)=0
   ·rw [show(aStep s k).js=s.js from if_pos q]
    rw [decide_eq_true q]at hq
    exact⟨.inl,fun z=>z.elim id fun z=>by rw [z.2]at hq;exact nomatch hq⟩
   ·rw [show(aStep s k).js=addS s.js k from if_neg q]
    rw [decide_eq_false q]at hq
    have hj:isJ k=true:=by rw [←Bool.not_not (isJ k),←hq];rfl
    exact uqs_mem.trans (or_congr_right ⟨fun e=>⟨e,hj⟩,And.left⟩)
  refine⟨h1,fun y=>(h2 y).trans ⟨fun q=>q.elim (fun q=>((hjs y).mp q).elim .inl fun q=>.inr ⟨q.1 ▸ .head _,q.1 ▸ q.2⟩) fun q=>.inr ⟨.tail _ q.1,q.2⟩,fun q=>q.elim (fun q=>.inl ((hjs y).mpr (.inl q))) fun q=>(List.mem_cons.mp q.1).elim (fun e=>.inl ((hjs y).mpr (.inr ⟨e,e ▸ q.2⟩))) fun m=>.inr ⟨m,q.2⟩⟩⟩
structure Settled (two:List Str) (s:AJ):Prop where
 d:SD s.D
 f:SF (fD s.xs)
 c:∀ x∈s.xs,x∈C8
 j:∀ x∈two,s.js.contains x=isJ x
 l:∀ x∈two,(lawJunk s.xs).contains x=isJ x
theorem law_has {xs:List Str} (h:SF (fD xs)){x:Str} (hx:x∈xs) (hc:x∈C8):(lawJunk xs).contains x=isJ x:=by
 have h2:((fD xs).lookup (modOf x)).getD (fval x)=isJ x:=h x hc
 obtain⟨v,hv⟩:∃ v,(fD xs).lookup (modOf x)=some v:=Option.isSome_iff_exists.mp (fD_has.2 x hx)
 rw [hv]at h2
 rw [←show v=isJ x from h2,Bool.eq_iff_iff]
 unfold lawJunk
 rw [List.contains_iff_mem,List.mem_filter,hv]
 exact⟨fun q=>Option.some.inj (eq_of_beq q.2),fun q=>⟨hx,by rw [q];rfl⟩⟩
theorem fD_app {xs ks:List Str}:fD (xs++ks)=ks.foldl fStep (fD xs):=List.foldl_append
theorem settled_of {two:List Str}{s:AJ} (hd:SD s.D) (hf:SF (fD s.xs)) (hc:∀ x∈s.xs,x∈C8) (hx:∀ x∈two,x∈s.xs) (hj:∀ x∈two,s.js.contains x=isJ x):Settled two s:=
 ⟨hd,hf,hc,hj,fun x h=>law_has hf (hx x h) (hc x (hx x h))⟩
theorem turn_settled {xs two:List Str}{D:Dct} (h1:SD D) (h2:SF (fD xs)) (hx:∀ x∈xs,x∈C8) (hc:∀ x∈two,x∈C8):Settled two ((uq two).foldl aStep ⟨xs,D,[]⟩):=by
 have hu:∀ x∈uq two,x∈C8:=fun x h=>hc x (uq_mem.mp h)
 refine xE02 (fold_js (s:=⟨xs,D,[]⟩) hu h1) fun a1 a2=>?_
 refine xE05 (aStep_facts (ks:=uq two) (s:=⟨xs,D,[]⟩) .nil) fun _ _ a3 _ _=>?_
 have a3:((uq two).foldl aStep ⟨xs,D,[]⟩).xs=xs++uq two:=a3
 refine settled_of a1 (by rw [a3,fD_app];exact SF.steps hu h2) (by rw [a3];exact fun x h=>(List.mem_append.mp h).elim (hx x) (hu x)) (fun x h=>by rw [a3];exact List.mem_append_right _ (uq_mem.mpr h)) fun x h=>?_
 rw [Bool.eq_iff_iff,List.contains_iff_mem,a2]
 exact⟨fun q=>q.elim (fun q=>nomatch q) And.right,fun q=>.inr ⟨uq_mem.mpr h,q⟩⟩
theorem uq_pre:∀ {l acc:List Str},∃ r,l.foldl uqs acc=acc++r
 | [],acc=>⟨[],(List.append_nil _).symm⟩
 | y :: l,acc=>by
  rw [List.foldl_cons]
  refine xE11 (uq_pre (l:=l) (acc:=uqs acc y)) fun r h=>?_
  rw [h]
  exact iteInduction (motive:=fun a:List Str=>∃ s,a++r=acc++s) (fun _=>⟨r,rfl⟩) fun _=>⟨y :: r,List.append_assoc ..⟩
noncomputable def D0:Dct:=[("<string>",1)]
noncomputable def s3:AJ:=([("b -":Str),"a f","ab f"]).foldl aStep ⟨[],D0,[]⟩
theorem s3_ok:C8.all (fun x=>decide (getG nkx s3.D x=0) == !isJ x)=true∧C8.all (fun x=>getG fval (fD [("b -":Str),"a f","ab f"]) x == isJ x)=true∧([("b -":Str),"a f","ab f"].all fun x=>s3.js.contains x == isJ x)=true∧s3.js.all isJ=true:=⟨by kernel_rfl,by kernel_rfl,by kernel_rfl,by kernel_rfl⟩
theorem turn_first {two r:List Str} (ht:two=("b -":Str) :: "a f" :: "ab f" :: r) (hc:∀ x∈two,x∈C8):Settled two ((uq two).foldl aStep ⟨[],D0,[]⟩):=by
 refine byG fun G6 k6=>?_
 have hu:∀ x∈uq two,x∈C8:=fun x h=>hc x (uq_mem.mp h)
 obtain⟨u,e⟩:∃ u,uq two=[("b -":Str),"a f","ab f"]++u:=by
  refine xE11 (uq_pre (l:=r) (acc:=["b -","a f","ab f"])) fun u e=>?_
  exact⟨u,ht ▸ e⟩
 have huu:∀ x∈u,x∈C8:=fun x h=>hu x (e ▸ List.mem_append_right _ h)
 refine xE02 (fold_js (s:=s3) huu fun x h=>eq_of_beq (List.all_eq_true.mp s3_ok.1 x h)) fun a1 a2=>?_
 refine xE05 (aStep_facts (ks:=uq two) (s:=⟨[],D0,[]⟩) .nil) fun _ _ a3 _ _=>?_
 refine k6 ?_
 have a3:((uq two).foldl aStep ⟨[],D0,[]⟩).xs=uq two:=a3
 have hfold:(uq two).foldl aStep ⟨[],D0,[]⟩=u.foldl aStep s3:=by rw [e];exact List.foldl_append
 refine settled_of (hfold ▸ a1) ?_ (by rw [a3];exact hu) (fun x h=>by rw [a3];exact uq_mem.mpr h) fun x h=>?_
 ·rw [a3,e,fD_app]
  exact SF.steps huu fun x h=>eq_of_beq (List.all_eq_true.mp s3_ok.2.1 x h)
 ·rw [Bool.eq_iff_iff,List.contains_iff_mem,hfold,a2]
  refine⟨fun q=>q.elim (fun q=>List.all_eq_true.mp s3_ok.2.2.2 x q) And.right,fun q=>?_⟩
  have hx:=uq_mem.mpr h
  rw [e]at hx
  exact(List.mem_append.mp hx).elim (fun m=>.inl (List.contains_iff_mem.mp ((eq_of_beq (List.all_eq_true.mp s3_ok.2.2.1 x m)).trans q))) fun m=>.inr ⟨m,q⟩
end Mine
end
section
open PySem
set_option maxRecDepth 100000
set_option linter.unusedVariables false
set_option linter.unusedSimpArgs false
set_option autoImplicit false
namespace Mine
noncomputable def EE (one two junk:List Str) (i j:Nat):Prop:=one[i]? = two[j]?∧(two[j]?.all fun v=>!junk.contains v)=true
noncomputable instance {one two junk:List Str}{i j:Nat}:Decidable (EE one two junk i j):=by unfold EE;infer_instance
noncomputable def Blk (E:Nat→Nat→Prop) (b d x y k:Nat):Prop:=x+k≤b∧y+k≤d∧∀ t,t<k→E (x+t) (y+t)
section
variable {E:Nat→Nat→Prop}{a b c d x y k u v:Nat}{q q':Tri}{H H':Nat→Nat→Nat→Prop}
theorem Blk.cons (h:E x y) (B:Blk E b d (x+1) (y+1) k):Blk E b d x y (k+1):=
 ⟨Nat.le_trans (Nat.le_of_eq (Nat.add_right_comm x k 1)) B.1,Nat.le_trans (Nat.le_of_eq (Nat.add_right_comm y k 1)) B.2.1,fun t ht=>by
  cases t with
  | zero=>exact h
  | succ t=>exact(Nat.add_right_comm x 1 t ▸ Nat.add_right_comm y 1 t ▸ B.2.2 t (Nat.lt_of_succ_lt_succ ht):E (x+t+1) (y+t+1))⟩
theorem Blk.tail (B:Blk E b d x y (k+1)):Blk E b d (x+1) (y+1) k:=
 ⟨Nat.le_trans (Nat.le_of_eq (Nat.add_right_comm x 1 k)) B.1,Nat.le_trans (Nat.le_of_eq (Nat.add_right_comm y 1 k)) B.2.1,fun t ht=>Nat.add_right_comm x t 1 ▸ Nat.add_right_comm y t 1 ▸ B.2.2 (t+1) (Nat.succ_lt_succ ht)⟩
theorem Blk.head (B:Blk E b d x y (k+1)):x<b∧y<d∧E x y:=⟨Nat.lt_of_lt_of_le (Nat.lt_add_of_pos_right (Nat.succ_pos k)) B.1,Nat.lt_of_lt_of_le (Nat.lt_add_of_pos_right (Nat.succ_pos k)) B.2.1,B.2.2 0 (Nat.succ_pos k)⟩
noncomputable def lex (u v x y:Nat):Prop:=u<x∨(u=x∧v≤y)
theorem lex_anti (h:lex u v x y) (k:lex x y u v):u=x∧v=y:=
 h.elim (fun h=>k.elim (fun k=>absurd h (Nat.lt_asymm k)) fun k=>absurd h (k.1 ▸ Nat.lt_irrefl _)) fun h=>k.elim (fun k=>absurd k (h.1 ▸ Nat.lt_irrefl _)) fun k=>⟨h.1,Nat.le_antisymm h.2 k.2⟩
structure Fnd (E:Nat→Nat→Prop) (a b c d:Nat) (H:Nat→Nat→Nat→Prop) (q:Tri):Prop where
 z:q.2.2=0→q=(a,c,0)
 l1:a≤q.1
 l2:c≤q.2.1
 blk:Blk E b d q.1 q.2.1 q.2.2
 here:0<q.2.2→H q.1 q.2.1 q.2.2
 max:∀ x y k,a≤x→c≤y→0<k→Blk E b d x y k→H x y k→k≤q.2.2∧(k=q.2.2→lex q.1 q.2.1 x y)
theorem Fnd.mono (h:Fnd E a b c d H q) (h1:∀ {x y k},H x y k→H' x y k) (h2:∀ {x y k},c≤y→0<k→Blk E b d x y k→H' x y k→H x y k):Fnd E a b c d H' q:=
 ⟨h.z,h.l1,h.l2,h.blk,fun e=>h1 (h.here e),fun x y k g1 g2 g3 g4 g5=>h.max x y k g1 g2 g3 g4 (h2 g2 g3 g4 g5)⟩
theorem Fnd.step (h:Fnd E a b c d H q){p:Tri} (l1:a≤p.1) (l2:c≤p.2.1) (blk:Blk E b d p.1 p.2.1 p.2.2) (hs:∀ {x y k},H x y k→H' x y k) (hp:H' p.1 p.2.1 p.2.2)
  (hn:∀ {x y k},a≤x→c≤y→0<k→Blk E b d x y k→H' x y k→H x y k∨(k≤p.2.2∧(k=p.2.2→lex p.1 p.2.1 x y)∧∀ {u v},H u v k→lex u v x y)):Fnd E a b c d H' (if q.2.2<p.2.2 then p else q):=by
 by_cases hc:q.2.2<p.2.2
 ·rw [if_pos hc]
  exact⟨fun e=>absurd hc (e ▸ Nat.not_lt_zero _),l1,l2,blk,fun _=>hp,fun x y k g1 g2 g3 g4 g5=>(hn g1 g2 g3 g4 g5).elim
   (fun g=>have r:=Nat.lt_of_le_of_lt (h.max x y k g1 g2 g3 g4 g).1 hc;⟨Nat.le_of_lt r,fun e=>absurd r (e ▸ Nat.lt_irrefl _)⟩) fun g=>⟨g.1,g.2.1⟩⟩
 ·rw [if_neg hc]
  exact⟨h.z,h.l1,h.l2,h.blk,fun e=>hs (h.here e),fun x y k g1 g2 g3 g4 g5=>(hn g1 g2 g3 g4 g5).elim (h.max x y k g1 g2 g3 g4)
   fun g=>⟨Nat.le_trans g.1 (Nat.le_of_not_lt hc),fun e=>g.2.2 (e ▸ h.here (e ▸ g3))⟩⟩
theorem Fnd.none (hab:a≤b) (hcd:c≤d) (h:∀ {x y k},a≤x→c≤y→0<k→¬ H x y k):Fnd E a b c d H (a,c,0):=
 ⟨fun _=>rfl,Nat.le_refl _,Nat.le_refl _,⟨hab,hcd,fun t ht=>absurd ht (Nat.not_lt_zero _)⟩,fun h=>absurd h (Nat.lt_irrefl _),fun x y k h1 h2 h3 _ h5=>absurd h5 (h h1 h2 h3)⟩
noncomputable abbrev Best (E:Nat→Nat→Prop) (a b c d:Nat) (q:Tri):Prop:=Fnd E a b c d (fun _ _ _=>True) q
theorem Best.le (h:Best E a b c d q) (h':Best E a b c d q'):q'.2.2≤q.2.2:=
 (Nat.eq_zero_or_pos q'.2.2).elim (fun e=>e ▸ Nat.zero_le _) fun e=>(h.max _ _ _ h'.l1 h'.l2 e h'.blk trivial).1
theorem Best.uniq (h:Best E a b c d q) (h':Best E a b c d q'):q=q':=by
 have e:=Nat.le_antisymm (Best.le h' h) (Best.le h h')
 refine(Nat.eq_zero_or_pos q.2.2).elim (fun hz=>(h.z hz).trans (h'.z (e ▸ hz)).symm) fun hz=>?_
 have r:=lex_anti ((h.max _ _ _ h'.l1 h'.l2 (e ▸ hz) h'.blk trivial).2 e.symm) ((h'.max _ _ _ h.l1 h.l2 hz h.blk trivial).2 e)
 exact Prod.ext r.1 (Prod.ext r.2 e)
end
section
variable {one two junk:List Str}{a b c d:Nat}
theorem pre_spec {m:Nat}:∀ {x y:Nat},x≤b→y≤d→b≤x+m→Blk (EE one two junk) b d x y (pre one two junk b d m x y)∧∀ {k},Blk (EE one two junk) b d x y k→k≤pre one two junk b d m x y:=by
 induction m with
 | zero=>exact fun hx hy hm=>⟨⟨hx,hy,fun t ht=>absurd ht (Nat.not_lt_zero _)⟩,fun hk=>Nat.le_of_add_le_add_left (Nat.le_trans hk.1 hm)⟩
 | succ m ih=>
  intro x y hx hy hm
  by_cases hc:x<b∧y<d∧EE one two junk x y
  ·rw [show pre one two junk b d (m+1) x y=_ from if_pos hc]
   have i:=ih hc.1 hc.2.1 (Nat.le_trans hm (Nat.le_of_eq (Nat.add_right_comm x m 1)))
   refine⟨i.1.cons hc.2.2,fun {k} hk=>?_⟩
   cases k with
   | zero=>exact Nat.zero_le _
   | succ k=>exact Nat.succ_le_succ (i.2 hk.tail)
  ·rw [show pre one two junk b d (m+1) x y=0 from if_neg hc]
   refine⟨⟨hx,hy,fun t ht=>absurd ht (Nat.not_lt_zero _)⟩,fun {k} hk=>?_⟩
   cases k with
   | zero=>exact Nat.zero_le _
   | succ k=>exact absurd hk.head hc
noncomputable abbrev Scan (E:Nat→Nat→Prop) (a b c d x0 y0:Nat) (q:Tri):Prop:=Fnd E a b c d (fun x y _=>x<x0∨(x=x0∧y<y0)) q
theorem stepB_scan {x y:Nat}{q:Tri} (h:Scan (EE one two junk) a b c d x y q) (hx:a≤x) (hx2:x<b) (hy:c≤y) (hy2:y<d):Scan (EE one two junk) a b c d x (y+1) (stepB one two junk b d x y q):=
 have s:=pre_spec (one:=one) (two:=two) (junk:=junk) (m:=b - x) (Nat.le_of_lt hx2) (Nat.le_of_lt hy2) (Nat.le_of_eq (Nat.add_sub_cancel' (Nat.le_of_lt hx2)).symm)
 Fnd.step h (p:=(x,y,pre one two junk b d (b - x) x y)) hx hy s.1 (fun g=>g.imp_right (And.imp_right Nat.lt_succ_of_lt)) (.inr ⟨rfl,Nat.lt_succ_self _⟩) fun _ _ _ B g=>g.elim (fun g=>.inl (.inl g)) fun⟨e,l⟩=>(Nat.lt_succ_iff_lt_or_eq.mp l).elim (fun l=>.inl (.inr ⟨e,l⟩))
  fun e'=>.inr (by rw [e,e']at B ⊢;exact⟨s.2 B,fun _=>.inr ⟨rfl,Nat.le_refl _⟩,fun g=>g.imp_right (And.imp_right Nat.le_of_lt)⟩)
theorem foldB_scan {x:Nat} (hx:a≤x) (hx2:x<b){m:Nat}:∀ {y:Nat}{q:Tri},Scan (EE one two junk) a b c d x y q→c≤y→y+m=d→Scan (EE one two junk) a b c d x d (foldB one two junk b d x y m q):=by
 induction m with
 | zero=>exact fun h _ e=>e ▸ h
 | succ m ih=>exact fun h hy e=>ih (stepB_scan h hx hx2 hy (e ▸ Nat.lt_add_of_pos_right (Nat.succ_pos m))) (Nat.le_succ_of_le hy) ((Nat.add_right_comm _ 1 m).trans e)
theorem foldC_scan (hcd:c≤d){m:Nat}:∀ {x:Nat}{q:Tri},Scan (EE one two junk) a b c d x c q→a≤x→x+m=b→Scan (EE one two junk) a b c d b c (foldC one two junk b c d x m q):=by
 induction m with
 | zero=>exact fun h _ e=>e ▸ h
 | succ m ih=>exact fun h hx e=>ih ((foldB_scan hx (e ▸ Nat.lt_add_of_pos_right (Nat.succ_pos m)) h (Nat.le_refl _) (Nat.add_sub_cancel' hcd)).mono (fun g=>.inl (g.elim Nat.lt_succ_of_lt fun g=>g.1 ▸ Nat.lt_succ_self _))
   fun h2 h3 B g=>g.elim (fun g=>(Nat.lt_succ_iff_lt_or_eq.mp g).imp_right fun e=>⟨e,Nat.lt_of_lt_of_le (Nat.lt_add_of_pos_right h3) B.2.1⟩) fun g=>absurd g.2 (Nat.not_lt.mpr h2)) (Nat.le_succ_of_le hx) ((Nat.add_right_comm _ 1 m).trans e)
theorem foldC_best (hab:a≤b) (hcd:c≤d):Best (EE one two junk) a b c d (foldC one two junk b c d a (b - a) (a,c,0)):=
 (foldC_scan hcd (Fnd.none hab hcd fun h1 h2 _ g=>g.elim (Nat.not_lt.mpr h1) fun g=>Nat.not_lt.mpr h2 g.2) (Nat.le_refl _) (Nat.add_sub_cancel' hab)).mono (fun _=>trivial) fun _ h3 B _=>.inl (Nat.lt_of_lt_of_le (Nat.lt_add_of_pos_right h3) B.1)
end
noncomputable def suf (E:Nat→Nat→Prop) [∀ i j,Decidable (E i j)] (a c:Nat):Nat→Nat→Nat
 | i+1,j+1=>if a≤i∧c≤j∧E i j then suf E a c i j+1 else 0
 | _,_=>0
section
variable {E:Nat→Nat→Prop} [∀ i j,Decidable (E i j)]{a c:Nat}
theorem suf_run:∀ {i j:Nat},a≤i→c≤j→∃ x y,a≤x∧c≤y∧x+suf E a c i j=i∧y+suf E a c i j=j∧∀ t,t<suf E a c i j→E (x+t) (y+t)
 | 0,j,hi,hj=>⟨0,j,hi,hj,rfl,rfl,fun t ht=>absurd ht (Nat.not_lt_zero _)⟩
 | i+1,0,hi,hj=>⟨i+1,0,hi,hj,rfl,rfl,fun t ht=>absurd ht (Nat.not_lt_zero _)⟩
 | i+1,j+1,hi,hj=>by
  by_cases hc:a≤i∧c≤j∧E i j
  ·rw [show suf E a c (i+1) (j+1)=_ from if_pos hc]
   refine xE25 (suf_run hc.1 hc.2.1) fun x y h1 h2 h3 h4 h5=>⟨x,y,h1,h2,congrArg Nat.succ h3,congrArg Nat.succ h4,fun t ht=>(Nat.lt_succ_iff_lt_or_eq.mp ht).elim (h5 t) fun e=>?_⟩
   rw [e,h3,h4]
   exact hc.2.2
  ·rw [show suf E a c (i+1) (j+1)=0 from if_neg hc]
   exact⟨i+1,j+1,hi,hj,rfl,rfl,fun t ht=>absurd ht (Nat.not_lt_zero _)⟩
theorem suf_max {x y k:Nat} (hx:a≤x) (hy:c≤y) (h:∀ t,t<k→E (x+t) (y+t)):k≤suf E a c (x+k) (y+k):=by
 induction k with
 | zero=>exact Nat.zero_le _
 | succ k ih=>
  rw [show suf E a c (x+(k+1)) (y+(k+1))=_ from if_pos ⟨Nat.le_trans hx (Nat.le_add_right ..),Nat.le_trans hy (Nat.le_add_right ..),h k (Nat.lt_succ_self k)⟩]
  exact Nat.succ_le_succ (ih fun t ht=>h t (Nat.lt_succ_of_lt ht))
theorem suf_none {i j:Nat} (h:¬ E i j):suf E a c (i+1) (j+1)=0:=if_neg fun q=>h q.2.2
theorem suf_c:∀ {i c:Nat},suf E a c i c=0
 | 0,_=>rfl
 | _+1,0=>rfl
 | _+1,c+1=>if_neg fun h=>Nat.not_succ_le_self c h.2.1
theorem suf_a:∀ {a j:Nat},suf E a c a j=0
 | 0,_=>rfl
 | _+1,0=>rfl
 | a+1,_+1=>if_neg fun h=>Nat.not_succ_le_self a h.1
end
end Mine
end
section
open PySem
set_option maxRecDepth 100000
set_option linter.unusedVariables false
set_option linter.unusedSimpArgs false
set_option linter.unusedSectionVars false
set_option autoImplicit false
namespace Mine
noncomputable abbrev RowI (E:Nat→Nat→Prop) (a b c d i j0:Nat) (q:Tri):Prop:=Fnd E a b c d (fun x y k=>x+k≤i∨(x+k=i+1∧y+k≤j0)) q
noncomputable def PrevS (E:Nat→Nat→Prop) [∀ i j,Decidable (E i j)] (a c d i:Nat) (prev:Int→Nat):Prop:=∀ j:Nat,c≤j→j≤d→prev ((j:Int) - 1)=suf E a c i j
noncomputable def NewS (E:Nat→Nat→Prop) [∀ i j,Decidable (E i j)] (a c d i j0:Nat) (new:Int→Nat):Prop:=∀ j:Nat,c≤j→j≤d→new ((j:Int) - 1)=if j≤j0 then suf E a c (i+1) j else 0
section
variable {E:Nat→Nat→Prop} [∀ i j,Decidable (E i j)]{a b c d i j0 j1:Nat}{q:Tri}{prev new:Int→Nat}
theorem RowI.go (h:RowI E a b c d i j0 q) (hle:j0≤j1) (hn:∀ p,j0≤p→p<j1→c≤p→¬ E i p):RowI E a b c d i j1 q:=
 h.mono (fun g=>g.imp_right (And.imp_right fun l=>Nat.le_trans l hle)) fun {x y k} h2 h3 B g=>g.imp_right fun⟨g1,g2⟩=>⟨g1,Nat.le_of_not_lt fun n=>by
  cases k with
  | zero=>exact absurd h3 (Nat.lt_irrefl _)
  | succ k=>exact hn (y+k) (Nat.le_of_lt_succ n) g2 (Nat.le_trans h2 (Nat.le_add_right ..)) (Nat.succ.inj g1 ▸ B.2.2 k (Nat.lt_succ_self k))⟩
theorem NewS.go (h:NewS E a c d i j0 new) (hle:j0≤j1) (hn:∀ p,j0≤p→p<j1→c≤p→¬ E i p):NewS E a c d i j1 new:=by
 intro j h1 h2
 rw [h j h1 h2]
 by_cases k1:j≤j0
 ·rw [if_pos k1,if_pos (Nat.le_trans k1 hle)]
 ·rw [if_neg k1]
  by_cases k2:j≤j1
  ·rw [if_pos k2]
   refine(Nat.lt_or_eq_of_le h1).elim (fun l=>?_) fun e=>e ▸ suf_c.symm
   cases j with
   | zero=>exact absurd l (Nat.not_lt_zero _)
   | succ p=>exact(suf_none (hn p (Nat.le_of_lt_succ (Nat.lt_of_not_le k1)) k2 (Nat.le_of_lt_succ l))).symm
  ·rw [if_neg k2]
theorem row_step {j:Nat}{s:Tri×(Int→Nat)} (P:PrevS E a c d i prev) (R:RowI E a b c d i j s.1) (N:NewS E a c d i j s.2) (hi:a≤i) (hib:i<b) (hj:c≤j) (hjd:j<d) (he:E i j):RowI E a b c d i (j+1) (rowStep prev i j s).1∧NewS E a c d i (j+1) (rowStep prev i j s).2:=by
 have hp:=P j hj (Nat.le_of_lt hjd)
 have hs:suf E a c (i+1) (j+1)=suf E a c i j+1:=if_pos ⟨hi,hj,he⟩
 refine xE25 (suf_run (E:=E) hi hj) fun x0 y0 x1 x2 x3 x4 x5=>⟨?_,fun z h1 h2=>?_⟩
 ·show RowI E a b c d i (j+1) (if s.1.2.2<prev ((j:Int) - 1)+1 then (i - prev ((j:Int) - 1),j - prev ((j:Int) - 1),prev ((j:Int) - 1)+1)else s.1)
  rw [hp,Nat.sub_eq_of_eq_add x3.symm,Nat.sub_eq_of_eq_add x4.symm]
  refine Fnd.step R (p:=(x0,y0,suf E a c i j+1)) x1 x2 ⟨Nat.le_trans (Nat.le_of_eq (congrArg Nat.succ x3)) hib,Nat.le_trans (Nat.le_of_eq (congrArg Nat.succ x4)) hjd,fun t ht=>(Nat.lt_succ_iff_lt_or_eq.mp ht).elim (x5 t) fun e=>?_⟩
   (fun g=>g.imp_right (And.imp_right Nat.le_succ_of_le)) (.inr ⟨congrArg Nat.succ x3,Nat.le_of_eq (congrArg Nat.succ x4)⟩) fun {x y k} h1 h2 h3 B g=>g.elim (fun g=>.inl (.inl g)) fun⟨g1,g2⟩=>(Nat.lt_or_eq_of_le g2).elim (fun l=>.inl (.inr ⟨g1,Nat.le_of_lt_succ l⟩)) fun g3=>.inr ?_
  ·rw [e,x3,x4]
   exact he
  ·cases k with
   | zero=>exact absurd h3 (Nat.lt_irrefl _)
   | succ k=>
    have e1:x+k=i:=Nat.succ.inj g1
    have e2:y+k=j:=Nat.succ.inj g3
    have m:=suf_max (E:=E) h1 h2 fun t ht=>B.2.2 t (Nat.lt_succ_of_lt ht)
    rw [e1,e2]at m
    refine⟨Nat.succ_le_succ m,fun e=>.inr ⟨?_,?_⟩,fun g=>?_⟩
    ·exact Nat.add_right_cancel (x3.trans (e1.symm.trans (congrArg (x+·) (Nat.succ.inj e))))
    ·exact Nat.le_of_eq (Nat.add_right_cancel (x4.trans (e2.symm.trans (congrArg (y+·) (Nat.succ.inj e)))))
    ·exact g.elim (fun g=>.inl (Nat.lt_of_add_lt_add_right (Nat.lt_of_lt_of_eq (Nat.lt_succ_of_le g) g1.symm))) fun⟨u1,u2⟩=>.inr ⟨Nat.add_right_cancel (u1.trans g1.symm),Nat.le_of_add_le_add_right (Nat.le_trans u2 (Nat.le_of_succ_le (Nat.le_of_eq g3.symm)))⟩
 ·show(if (z:Int) - 1=(j:Int)then prev ((j:Int) - 1)+1 else s.2 ((z:Int) - 1))=_
  by_cases hz:z=j+1
  ·subst hz
   rw [if_pos (by lia),if_pos (Nat.le_refl _),hs,hp]
  ·rw [if_neg (by lia),N z h1 h2]
   by_cases k1:z≤j
   ·rw [if_pos k1,if_pos (Nat.le_succ_of_le k1)]
   ·rw [if_neg k1,if_neg fun l=>(Nat.lt_or_eq_of_le l).elim (fun l=>k1 (Nat.le_of_lt_succ l)) hz]
theorem row_best (P:PrevS E a c d i prev) (hi:a≤i) (hib:i<b){js:List Nat}:∀ {s:Tri×(Int→Nat)}{j0:Nat},RowI E a b c d i j0 s.1→NewS E a c d i j0 s.2→c≤j0→j0≤d→js.Pairwise (·<·)→(∀ j∈js,E i j)→(∀ j∈js,j<c∨j0≤j)→(∀ j,j0≤j→j<d→E i j→j∈js)→
  RowI E a b c d i d (rowF prev c d i js s).1∧NewS E a c d i d (rowF prev c d i js s).2:=by
 induction js with
 | nil=>exact fun R N h1 h2 h3 h4 h5 h6=>have hn:=fun p p1 p2 _ p3=>(nomatch h6 p p1 p2 p3);⟨R.go h2 hn,N.go h2 hn⟩
 | cons j js ih=>
  intro s j0 R N h1 h2 h3 h4 h5 h6
  rw [List.pairwise_cons]at h3
  have tl:∀ x∈js,x∈j :: js:=fun x hx=>.tail _ hx
  -- what is behind j and alike lies behind it in the list
  have beh {p:Nat} (p1:j0≤p) (p2:p<d) (p3:E i p) (n:p≠j):p∈js:=(List.mem_cons.mp (h6 p p1 p2 p3)).resolve_left n
  by_cases k1:j<c
  ·rw [show rowF prev c d i (j :: js) s=_ from if_pos k1]
   exact ih R N h1 h2 h3.2 (fun x hx=>h4 x (tl x hx)) (fun x hx=>h5 x (tl x hx)) fun x x1 x2 x3=>beh x1 x2 x3 fun e=>absurd (Nat.le_trans h1 x1) (e ▸ Nat.not_le.mpr k1)
  ·have hj0:j0≤j:=(h5 j (.head _)).resolve_left k1
   have hn {m:Nat} (hm:m≤j) (hd:m≤d) (p:Nat) (p1:j0≤p) (p2:p<m) (_:c≤p) (p3:E i p):False:=
    have l:=Nat.lt_of_lt_of_le p2 hm
    absurd (h3.1 p (beh p1 (Nat.lt_of_lt_of_le p2 hd) p3 (Nat.ne_of_lt l))) (Nat.lt_asymm l)
   by_cases k2:d≤j
   ·rw [show rowF prev c d i (j :: js) s=s from (if_neg k1).trans (if_pos k2)]
    exact⟨R.go h2 (hn k2 (Nat.le_refl _)),N.go h2 (hn k2 (Nat.le_refl _))⟩
   ·rw [show rowF prev c d i (j :: js) s=_ from (if_neg k1).trans (if_neg k2)]
    have hjd:=Nat.lt_of_not_le k2
    have r:=row_step P (R.go hj0 (hn (Nat.le_refl _) (Nat.le_of_lt hjd))) (N.go hj0 (hn (Nat.le_refl _) (Nat.le_of_lt hjd))) hi hib (Nat.le_of_not_lt k1) hjd (h4 j (.head _))
    exact ih r.1 r.2 (Nat.le_succ_of_le (Nat.le_of_not_lt k1)) hjd h3.2 (fun x hx=>h4 x (tl x hx)) (fun x hx=>.inr (h3.1 x hx)) fun x x1 x2 x3=>beh (Nat.le_trans hj0 (Nat.le_of_succ_le x1)) x2 x3 fun e=>absurd x1 (e ▸ Nat.not_succ_le_self _)
end
section
variable {one two junk bj:List Str}{J:Str→List Nat}{a b c d:Nat}
noncomputable def JOk (one two junk:List Str) (J:Str→List Nat):Prop:=∀ (i:Nat) (x:Str),one[i]? = some x→(J x).Pairwise (·<·)∧∀ j,j∈J x↔(j<two.length∧EE one two junk i j)
theorem rows_best (HJ:JOk one two junk J) (hb:b≤one.length) (hd:d≤two.length) (hcd:c≤d){m:Nat}:∀ {i:Nat}{s:Tri×(Int→Nat)},PrevS (EE one two junk) a c d i s.2→RowI (EE one two junk) a b c d i c s.1→a≤i→i+m=b→RowI (EE one two junk) a b c d b c (rowsF one J c d i m s).1:=by
 induction m with
 | zero=>exact fun P R hi hm=>hm ▸ R
 | succ m ih=>
  intro i s P R hi hm
  have hib:i<b:=hm ▸ Nat.lt_add_of_pos_right (Nat.succ_pos m)
  refine xE11 (get_some (Nat.lt_of_lt_of_le hib hb)) fun x hx=>xE02 (HJ i x hx) fun j1 j2=>?_
  show RowI (EE one two junk) a b c d b c (rowsF one J c d (i+1) m (rowF s.2 c d i (one[i]?.elim [] J) (s.1,fun _=>0))).1
  rw [hx]
  have N0:NewS (EE one two junk) a c d i c (fun _=>0):=fun j h1 h2=>by
   by_cases h:j≤c
   ·rw [if_pos h,Nat.le_antisymm h h1];exact suf_c.symm
   ·rw [if_neg h]
  have r:=row_best (b:=b) P hi hib (js:=J x) (s:=(s.1,fun _=>0)) R N0 (Nat.le_refl _) hcd j1 (fun j hj=>((j2 j).mp hj).2) (fun j hj=>Nat.lt_or_ge j c) fun j h1 h2 h3=>(j2 j).mpr ⟨Nat.lt_of_lt_of_le h2 hd,h3⟩
  exact ih (fun j h1 h2=>(r.2 j h1 h2).trans (if_pos h2)) (r.1.mono (fun g=>.inl (g.elim Nat.le_succ_of_le fun g=>Nat.le_of_eq g.1)) fun h2 h3 B g=>g.elim (fun g=>(Nat.lt_or_eq_of_le g).imp Nat.le_of_lt_succ fun e=>⟨e,B.2.1⟩)
   fun g=>absurd g.2 (Nat.not_le.mpr (Nat.lt_of_le_of_lt h2 (Nat.lt_add_of_pos_right h3)))) (Nat.le_succ_of_le hi) ((Nat.add_right_comm i 1 m).trans hm)
theorem flm1_best (HJ:JOk one two junk J) (hab:a≤b) (hb:b≤one.length) (hd:d≤two.length) (hcd:c≤d):Best (EE one two junk) a b c d (flm1 one J a b c d):=
 (rows_best (a:=a) (s:=((a,c,0),fun _=>0)) HJ hb hd hcd (fun j _ _=>suf_a.symm) (Fnd.none hab hcd fun h1 h2 h3 g=>g.elim (Nat.not_le.mpr (Nat.lt_of_le_of_lt h1 (Nat.lt_add_of_pos_right h3))) fun g=>Nat.not_le.mpr (Nat.lt_of_le_of_lt h2 (Nat.lt_add_of_pos_right h3)) g.2) (Nat.le_refl _) (Nat.add_sub_cancel' hab)).mono
  (fun _=>trivial) fun _ h3 B _=>.inl B.1
theorem all_eq {bj junk:List Str}{o:Option Str} (H:∀ x,o=some x→bj.contains x=junk.contains x):(o.all fun v=>bj.contains v != true)=(o.all fun v=>!junk.contains v)∧(o.all fun v=>bj.contains v != false)=(o.all fun v=>junk.contains v):=by
 cases o with
 | none=>exact⟨rfl,rfl⟩
 | some x=>
  simp only [Option.all_some,H x rfl]
  cases junk.contains x <;> exact⟨rfl,rfl⟩
theorem extL_fuel {m:Nat}:∀ {m':Nat}{q:Tri},q.1≤m→q.1≤m'→extL one two junk a c m q=extL one two junk a c m' q:=by
 have no {q:Tri} (h:q.1≤0):¬ okL one two junk a c q:=fun k=>absurd (Nat.lt_of_lt_of_le k.1 h) (Nat.not_lt_zero _)
 induction m with
 | zero=>
  intro m' q h h'
  cases m' with
  | zero=>rfl
  | succ m'=>exact(if_neg (no h)).symm
 | succ m ih=>
  intro m' q h h'
  cases m' with
  | zero=>exact if_neg (no h')
  | succ m'=>
   by_cases k:okL one two junk a c q
   ·exact(if_pos k).trans ((ih (Nat.sub_le_of_le_add h) (Nat.sub_le_of_le_add h')).trans (if_pos k).symm)
   ·exact(if_neg k).trans (if_neg k).symm
theorem extP_L (H:∀ x∈two,bj.contains x=junk.contains x){m:Nat}:∀ {q:Tri},extP one two bj a c false m q=extL one two junk a c m q:=by
 induction m with
 | zero=>exact rfl
 | succ m ih=>
  intro q
  have e:=(all_eq (bj:=bj) (junk:=junk) (o:=two[q.2.1 - 1]?) (fun x hx=>H x (List.mem_of_getElem? hx))).2
  by_cases k:okL one two junk a c q
  ·exact(if_pos ⟨k.1,k.2.1,e ▸ k.2.2.2,k.2.2.1⟩).trans (ih.trans (if_pos k).symm)
  ·exact(if_neg fun z:okP one two bj a c false q=>k ⟨z.1,z.2.1,z.2.2.2,e ▸ z.2.2.1⟩).trans (if_neg k).symm
theorem extN_R (H:∀ x∈two,bj.contains x=junk.contains x){m:Nat}:∀ {q:Tri},extN one two bj b d false m q=extR one two junk b d m q:=by
 induction m with
 | zero=>exact rfl
 | succ m ih=>
  intro q
  have e:=(all_eq (bj:=bj) (junk:=junk) (o:=two[q.2.1+q.2.2]?) (fun x hx=>H x (List.mem_of_getElem? hx))).2
  by_cases k:okR one two junk b d q
  ·exact(if_pos ⟨k.1,k.2.1,e ▸ k.2.2.2,k.2.2.1⟩).trans (ih.trans (if_pos k).symm)
  ·exact(if_neg fun z:okN one two bj b d false q=>k ⟨z.1,z.2.1,z.2.2.2,e ▸ z.2.2.1⟩).trans (if_neg k).symm
theorem extP_stay (H:∀ x∈two,bj.contains x=junk.contains x){q:Tri} (B:Best (EE one two junk) a b c d q){m:Nat}:extP one two bj a c true m q=q:=by
 cases m with
 | zero=>rfl
 | succ m=>
  refine if_neg fun⟨h1,h2,h3,h4⟩=>?_
  rw [(all_eq (bj:=bj) (junk:=junk) (o:=two[q.2.1 - 1]?) (fun x hx=>H x (List.mem_of_getElem? hx))).1]at h3
  have p1:q.1 - 1+1=q.1:=Nat.sub_add_cancel (Nat.lt_of_le_of_lt (Nat.zero_le _) h1)
  have p2:q.2.1 - 1+1=q.2.1:=Nat.sub_add_cancel (Nat.lt_of_le_of_lt (Nat.zero_le _) h2)
  exact absurd (B.max _ _ _ (Nat.le_sub_one_of_lt h1) (Nat.le_sub_one_of_lt h2) (Nat.succ_pos _) (Blk.cons ⟨h4,h3⟩ (p1.symm ▸ p2.symm ▸ B.blk)) trivial).1 (Nat.not_succ_le_self _)
theorem extN_stay (H:∀ x∈two,bj.contains x=junk.contains x){q:Tri} (B:Best (EE one two junk) a b c d q){m:Nat}:extN one two bj b d true m q=q:=by
 cases m with
 | zero=>rfl
 | succ m=>
  refine if_neg fun⟨h1,h2,h3,h4⟩=>?_
  rw [(all_eq (bj:=bj) (junk:=junk) (o:=two[q.2.1+q.2.2]?) (fun x hx=>H x (List.mem_of_getElem? hx))).1]at h3
  exact absurd (B.max _ _ _ B.l1 B.l2 (Nat.succ_pos _) ⟨h1,h2,fun t ht=>(Nat.lt_succ_iff_lt_or_eq.mp ht).elim (B.blk.2.2 t) fun e=>e ▸ ⟨h4,h3⟩⟩ trivial).1 (Nat.not_succ_le_self _)
theorem flm_law (HJ:JOk one two junk J) (H:∀ x∈two,bj.contains x=junk.contains x) (hab:a≤b) (hb:b≤one.length) (hd:d≤two.length) (hcd:c≤d):flm one two bj J a b c d=lawBest one two junk a b c d:=by
 have B:=flm1_best HJ hab hb hd hcd
 have e1:=B.uniq (foldC_best (one:=one) (two:=two) (junk:=junk) hab hcd)
 have I:=flm1_in (one:=one) (J:=J) hab hcd
 unfold flm
 rw [extP_stay H B,extN_stay H B,extN_R H,extP_L H,extL_fuel (m:=b) (m':=(flm1 one J a b c d).1) (Nat.le_trans (Nat.le_add_right _ _) I.2.1) (Nat.le_refl _),e1]
 rfl
end
end Mine
end
section
open PySem
set_option maxRecDepth 100000
set_option linter.unusedVariables false
set_option linter.unusedSimpArgs false
set_option autoImplicit false
namespace Mine
section
variable {one two junk bj:List Str}{J:Str→List Nat}{a b c d:Nat}
theorem lb_empty {m:Nat} (hab:a≤b) (hcd:c≤d) (h:a=b∨c=d):lawBlocks one two junk m a b c d=[]:=by
 cases m with
 | zero=>rfl
 | succ m=>
  have I:=lawBest_in (one:=one) (two:=two) (junk:=junk) hab hcd
  exact if_pos (h.elim (fun e=>Nat.le_zero.mp (Nat.le_of_add_le_add_left (Nat.le_trans I.2.1 (e ▸ I.1)))) fun e=>Nat.le_zero.mp (Nat.le_of_add_le_add_left (Nat.le_trans I.2.2.2 (e ▸ I.2.2.1))))
theorem sub_in {q:Tri} (I:Inside a b c d q) (hz:¬ q.2.2=0):q.1 - a<b - a∧b - (q.1+q.2.2)<b - a:=
 have l:q.1<q.1+q.2.2:=Nat.lt_add_of_pos_right (Nat.pos_of_ne_zero hz)
 ⟨Nat.sub_lt_sub_right I.1 (Nat.lt_of_lt_of_le l I.2.1),Nat.sub_lt_sub_left (Nat.lt_of_lt_of_le (Nat.lt_of_le_of_lt I.1 l) I.2.1) (Nat.lt_of_le_of_lt I.1 l)⟩
theorem lb_up {m:Nat}:∀ {a b c d:Nat},a≤b→c≤d→b - a<m→lawBlocks one two junk m a b c d=lawBlocks one two junk (m+1) a b c d:=by
 induction m with
 | zero=>exact fun _ _ h=>absurd h (Nat.not_lt_zero _)
 | succ m ih=>
  intro a b c d hab hcd h
  have I:=lawBest_in (one:=one) (two:=two) (junk:=junk) hab hcd
  by_cases hz:(lawBest one two junk a b c d).2.2=0
  ·exact(if_pos hz).trans (if_pos hz).symm
  ·have s:=sub_in I hz
   refine(if_neg hz).trans (Eq.trans ?_ (if_neg hz).symm)
   rw [ih I.1 I.2.2.1 (Nat.lt_of_lt_of_le s.1 (Nat.le_of_lt_succ h)),ih I.2.1 I.2.2.2 (Nat.lt_of_lt_of_le s.2 (Nat.le_of_lt_succ h))]
noncomputable def Seg (b:Nat):Nat→List Tri→Prop
 | _,[]=>True
 | a,q :: L=>a≤q.1∧q.2.2≠0∧q.1+q.2.2≤b∧Seg b (q.1+q.2.2) L
theorem Seg.app {i:Nat} (hib:i≤b){L L':List Tri} (k:Seg b i L'):∀ {a:Nat},Seg i a L→a≤i→Seg b a (L++L'):=by
 induction L with
 | nil=>
  intro a _ l
  cases L' with
  | nil=>trivial
  | cons q L'=>exact⟨Nat.le_trans l k.1,k.2⟩
 | cons q L ih=>exact fun h l=>⟨h.1,h.2.1,Nat.le_trans h.2.2.1 hib,ih h.2.2.2 h.2.2.1⟩
theorem Seg.mem {L:List Tri}{q:Tri}:∀ {a:Nat},Seg b a L→q∈L→a≤q.1∧q.2.2≠0:=by
 induction L with
 | nil=>exact fun _ m=>nomatch m
 | cons p L ih=>exact fun h m=>(List.mem_cons.mp m).elim (fun e=>e ▸ ⟨h.1,h.2.1⟩) fun m=>have r:=ih h.2.2.2 m;⟨Nat.le_trans h.1 (Nat.le_trans (Nat.le_add_right ..) r.1),r.2⟩
theorem Seg.asc {L:List Tri}:∀ {a:Nat},Seg b a L→Asc L:=by
 induction L with
 | nil=>exact fun _ i j p q _ hp _=>nn (List.getElem?_nil.symm.trans hp)
 | cons r L ih=>
  intro a h i j p q l hp hq
  cases j with
  | zero=>exact absurd l (Nat.not_lt_zero _)
  | succ j=>
   cases i with
   | zero=>exact Option.some.inj hp ▸ Nat.lt_of_lt_of_le (Nat.lt_add_of_pos_right (Nat.pos_of_ne_zero h.2.1)) (Seg.mem h.2.2.2 (List.mem_of_getElem? (show L[j]? = some q from hq))).1
   | succ i=>exact ih h.2.2.2 i j p q (Nat.lt_of_succ_lt_succ l) hp hq
theorem lb_seg {m:Nat}:∀ {a b c d:Nat},a≤b→c≤d→Seg b a (lawBlocks one two junk m a b c d):=by
 induction m with
 | zero=>exact fun _ _=>trivial
 | succ m ih=>
  intro a b c d hab hcd
  have I:=lawBest_in (one:=one) (two:=two) (junk:=junk) hab hcd
  refine iteInduction (motive:=Seg b a) (fun _=>trivial) fun hz=>?_
  exact Seg.app I.2.1 (ih I.2.1 I.2.2.2) (Seg.app (Nat.le_add_right ..) (show Seg _ (lawBest one two junk a b c d).1 [lawBest one two junk a b c d]from ⟨Nat.le_refl _,hz,Nat.le_refl _,trivial⟩) (ih I.1 I.2.2.1) I.1) (Nat.le_trans I.1 (Nat.le_add_right ..))
noncomputable abbrev WinOk (one two:List Str) (w:Win):Prop:=w.1≤w.2.1∧w.2.1≤one.length∧w.2.2.1≤w.2.2.2∧w.2.2.2≤two.length
noncomputable def WB (one two junk:List Str) (w:Win):List Tri:=lawBlocks one two junk (one.length+1) w.1 w.2.1 w.2.2.1 w.2.2.2
theorem LB_eq {w:Win} (ok:WinOk one two w){q:Tri} (e:lawBest one two junk w.1 w.2.1 w.2.2.1 w.2.2.2=q):WB one two junk w=if q.2.2=0 then []else WB one two junk (w.1,q.1,w.2.2.1,q.2.1)++[q]++WB one two junk (q.1+q.2.2,w.2.1,q.2.1+q.2.2,w.2.2.2):=by
 have I:InW w q:=e ▸ lawBest_in ok.1 ok.2.2.1
 by_cases hz:q.2.2=0
 ·exact(if_pos (e.symm ▸ hz)).trans (if_pos hz).symm
 ·have s:=sub_in I hz
  have l:=Nat.le_trans (Nat.sub_le _ w.1) ok.2.1
  refine(if_neg (e.symm ▸ hz)).trans (Eq.trans ?_ (if_neg hz).symm)
  rw [e,lb_up I.1 I.2.2.1 (Nat.lt_of_lt_of_le s.1 l),lb_up I.2.1 I.2.2.2 (Nat.lt_of_lt_of_le s.2 l)]
  rfl
theorem eq_or {i j:Nat} (h1:a≤i) (h2:c≤j) (h:¬ (a<i∧c<j)):a=i∨c=j:=(Nat.lt_or_eq_of_le h1).elim (fun l=>.inr ((Nat.lt_or_eq_of_le h2).resolve_left fun l'=>h ⟨l,l'⟩)) .inl
theorem gLoop_perm {F:Win→Tri} (hF:∀ w,WinOk one two w→F w=lawBest one two junk w.1 w.2.1 w.2.2.1 w.2.2.2){m:Nat}:∀ {stk:List Win}{acc:List Tri},WinsOk one.length two.length stk→wsum stk≤m→(gLoop F m stk acc).Perm (acc++stk.flatMap (WB one two junk)):=by
 induction m with
 | zero=>
  intro stk acc hw hs
  cases stk with
  | nil=>exact(List.append_nil acc).symm ▸ .refl acc
  | cons w st=>exact absurd (Nat.le_trans wsum_len hs) (Nat.not_succ_le_zero _)
 | succ m ih=>
  intro stk acc hw hs
  cases stk with
  | nil=>exact(List.append_nil acc).symm ▸ .refl acc
  | cons w st=>
   have ok:=hw.1
   have I:InW w (lawBest one two junk w.1 w.2.1 w.2.2.1 w.2.2.2):=lawBest_in ok.1 ok.2.2.1
   show(if (F w).2.2=0 then gLoop F m st acc else gLoop F m (push2 w (F w) (push1 w (F w) st)) (acc++[F w])).Perm (acc++(WB one two junk w++st.flatMap (WB one two junk)))
   rw [hF w ok,LB_eq (junk:=junk) ok rfl]
   generalize lawBest one two junk w.1 w.2.1 w.2.2.1 w.2.2.2=q at I ⊢
   by_cases hz:q.2.2=0
   ·rw [if_pos hz,if_pos hz]
    exact ih hw.2 (Nat.le_of_lt_succ (Nat.lt_of_lt_of_le (Nat.lt_add_of_pos_left (Nat.succ_pos _)) hs))
   ·rw [if_neg hz,if_neg hz]
    refine(ih (push_ok I hw) (Nat.le_of_lt_succ (Nat.lt_of_lt_of_le (push_sum I hz) hs))).trans ?_
    have e1:(push1 w q st).flatMap (WB one two junk)=WB one two junk (w.1,q.1,w.2.2.1,q.2.1)++st.flatMap (WB one two junk):=iteInduction (motive:=fun l:List Win=>l.flatMap (WB one two junk)=WB one two junk (w.1,q.1,w.2.2.1,q.2.1)++st.flatMap (WB one two junk)) (fun _=>rfl)
     fun hc=>(congrArg (·++st.flatMap (WB one two junk)) (lb_empty (m:=one.length+1) I.1 I.2.2.1 (eq_or I.1 I.2.2.1 hc))).symm
    have e2:(push2 w q (push1 w q st)).flatMap (WB one two junk)=WB one two junk (q.1+q.2.2,w.2.1,q.2.1+q.2.2,w.2.2.2)++(push1 w q st).flatMap (WB one two junk):=iteInduction (motive:=fun l:List Win=>l.flatMap (WB one two junk)=WB one two junk (q.1+q.2.2,w.2.1,q.2.1+q.2.2,w.2.2.2)++(push1 w q st).flatMap (WB one two junk)) (fun _=>rfl)
     fun hc=>(congrArg (·++(push1 w q st).flatMap (WB one two junk)) (lb_empty (m:=one.length+1) I.2.1 I.2.2.2 (eq_or I.2.1 I.2.2.2 hc))).symm
    rw [e2,e1,List.append_assoc]
    generalize WB one two junk (q.1+q.2.2,w.2.1,q.2.1+q.2.2,w.2.2.2)=R
    generalize WB one two junk (w.1,q.1,w.2.2.1,q.2.1)=L
    generalize st.flatMap (WB one two junk)=T
    refine List.Perm.append_left acc ?_
    -- [q]++(R++(L++T)) ~ (L++[q]++R)++T
    rw [List.append_assoc,List.append_assoc]
    exact((List.append_assoc R L T ▸ List.append_assoc L R T ▸ List.Perm.append_right T List.perm_append_comm:(R++(L++T)).Perm (L++(R++T))).cons q).trans List.perm_middle.symm
theorem places_ok {x:Str}:(places x two).Pairwise (·<·)∧∀ j,j∈places x two↔(j<two.length∧two[j]? = some x):=by
 unfold places
 refine⟨List.Pairwise.filter _ List.pairwise_lt_range,fun j=>?_⟩
 rw [List.mem_filter,List.mem_range]
 simp
theorem j_ok {js:List Str} (H:∀ x∈two,js.contains x=junk.contains x):JOk one two junk (fun x=>if js.contains x then []else places x two):=by
 intro i x hx
 obtain⟨p1,p2⟩:=places_ok (two:=two) (x:=x)
 by_cases hj:js.contains x=true
 ·simp only [if_pos hj]
  refine⟨.nil,fun j=>⟨fun h=>by simp at h,fun⟨h1,h2,h3⟩=>?_⟩⟩
  rw [←h2,hx]at h3
  have hm:x∈two:=List.mem_of_getElem? (h2.symm.trans hx)
  rw [Option.all_some,←H x hm,hj]at h3
  cases h3
 ·simp only [if_neg hj]
  refine⟨p1,fun j=>?_⟩
  rw [p2]
  unfold EE
  constructor
  ·rintro⟨h1,h2⟩
   refine⟨h1,by rw [hx,h2],?_⟩
   have hm:x∈two:=List.mem_of_getElem? h2
   rw [h2,Option.all_some,←H x hm]
   simpa using hj
  ·rintro⟨h1,h2,_⟩
   exact⟨h1,by rw [←h2,hx]⟩
theorem places_few {js:List Str} (x:Str) (h:two.length≤90):((fun x=>if js.contains x then []else places x two) x).length≤90:=
 iteInduction (motive:=fun l:List Nat=>l.length≤90) (fun _=>Nat.zero_le _) fun _=>Nat.le_trans (places_len x two) h
theorem blocks_due {js:List Str} (H:∀ x∈two,js.contains x=junk.contains x) (h1:one.length≤6):∃ L,(gLoop (flmW one two js (fun x=>if js.contains x then []else places x two)) 30 [(0,one.length,0,two.length)] []).Perm L∧Asc L∧L.length≤6∧mFin L one.length two.length=lawDue one two junk:=by
 have hin:=lb_seg (one:=one) (two:=two) (junk:=junk) (m:=one.length+1) (Nat.zero_le one.length) (Nat.zero_le two.length)
 refine⟨_,?_,hin.asc,Nat.le_trans (lawBlocks_len (Nat.zero_le one.length) (Nat.zero_le two.length)) h1,merge_eq (fun q hq=>(hin.mem hq).2)⟩
 have h:=gLoop_perm (one:=one) (two:=two) (junk:=junk) (F:=flmW one two js (fun x=>if js.contains x then []else places x two)) (fun w ok=>flm_law (j_ok H) H ok.1 ok.2.1 ok.2.2.2 ok.2.2.1) (m:=30) (stk:=[(0,one.length,0,two.length)]) (acc:=[]) ⟨⟨Nat.zero_le _,Nat.le_refl _,Nat.zero_le _,Nat.le_refl _⟩,trivial⟩ (Nat.succ_le_succ (Nat.le_trans (Nat.mul_le_mul_left 2 h1) (by decide)))
 exact h.trans (.of_eq (List.append_nil (WB one two junk (0,one.length,0,two.length))))
end
end Mine
end
section
open PySem
set_option maxRecDepth 100000
set_option linter.unusedVariables false
set_option autoImplicit false
namespace Mine
theorem Call.up {n:Nat}{g v:AV}{vs:List AV}{σ σ':Sto} (h:Call n g vs σ v σ'):Call (n+1) g vs σ v σ':=.intro fun r=>h.run r.down
theorem Call.le {n:Nat}{g v:AV}{vs:List AV}{σ σ':Sto} (h:Call n g vs σ v σ'):∀ {m:Nat},n≤m→Call m g vs σ v σ'
 | 0,k=>Nat.le_zero.mp k ▸ h
 | m+1,k=>(Nat.lt_or_eq_of_le k).elim (fun l=>(h.le (Nat.le_of_lt_succ l)).up) fun e=>e ▸ h
noncomputable def bodyT:List S:=[.expr (.meth (.var 8) "set_seq2" [.var 9]),.expr (.meth (.var 7) "append" [.meth (.var 8) "get_matching_blocks" []]),.expr (.meth (.var 6) "append" [.call (.glob (.cst (.ref 353))) [.var 3,.var 9,.call (.glob (.cst (.ref 332))) [.var 5]]])]
noncomputable def Like (b:Nat) (σ:Sto) (r q:Nat):Prop:=∃ T,Trips (.ref 135) σ r T∧Trips (.type "tuple") σ q T∧b+9≤r∧b+9≤q
noncomputable def Likes (b:Nat) (σ:Sto):List Nat→List Nat→Prop
 | [],[]=>True
 | r :: rs,q :: qs=>Like b σ r q∧Likes b σ rs qs
 | _,_=>False
structure LA where
 as:Nat
 b:Nat
 m:Nat
 d:Nat
 o:Nat
 tl:Nat
 dl:Nat
structure TS (A:LA) (σ:Sto) (one xs:List Str) (D:Dct) (ob:AV) (rs qs:List Nat):Prop where
 S:AS σ A.as A.b xs D
 hm:σ[A.m]? = some (.inst 242 A.d)
 hd:∃ mb x y z,σ[A.d]? = some (.fields (FS (.loc (A.b+8)) (.loc A.o) ob mb x y z))
 hB:A.b+9≤A.d
 hM:A.b+9≤A.m
 ho:Strs σ A.o one
 ht:σ[A.tl]? = some (.list (rs.map .loc))
 hl:σ[A.dl]? = some (.list (qs.map .loc))
 lo:A.o<A.b
 lt:A.tl<A.b
 ll:A.dl<A.b
 no:A.o≠A.as∧A.o≠A.tl∧A.o≠A.dl
 nt:A.tl≠A.as∧A.tl≠A.dl
 nl:A.dl≠A.as
 like:Likes A.b σ rs qs
noncomputable abbrev T1 (A:LA) (i:Nat):Prop:=i=A.d∨i=A.as∨i=A.b+4
noncomputable abbrev TX (A:LA) (i:Nat):Prop:=T1 A i∨i=A.tl∨i=A.dl
section
variable {A:LA}{P:Nat→Prop}{f:Nat→Option Nat}{σ σ':Sto}{one two xs:List Str}{D:Dct}{ob:AV}{rs qs:List Nat}{t l x1 x2 tw r q:Nat}{c:Value}{T:List Tri}
theorem nT1 (h:l<A.b) (n:l≠A.as) (hB:A.b+9≤A.d):¬ T1 A l:=fun e=>e.elim (Nat.ne_of_lt (Nat.lt_of_lt_of_le h (Nat.le_trans (Nat.le_add_right _ _) hB))) fun e=>e.elim n (Nat.ne_of_lt (Nat.lt_of_lt_of_le h (Nat.le_add_right _ _)))
theorem Trips.fx (h:Trips c σ r T) (F:Fx P σ σ') (hP:∀ {i:Nat},P i→∃ o,σ[i]? = some o∧∀ b,tri c b≠o) (hr:¬ P r):Trips c σ' r T:=let ⟨l,a1,a2⟩:=h;⟨l,F _ _ hr a1,At.fx' F hP a2⟩
theorem AS.fx' {as b:Nat} (S:AS σ as b xs D) (F:Fx P σ σ') (h1:¬ P as) (h2:∀ j,¬ P (b+j)):AS σ' as b xs D:=⟨S.lt,F _ _ h1 S.ha,fun j o h=>F _ _ (h2 j) (S.p j o h)⟩
theorem not_list {c:Value}{xs:List AV} (b:Tri):tri c b≠.list xs:=fun e=>(nomatch e)
theorem not_dict {c:Value}{es:List (AV×AV)} (b:Tri):tri c b≠.dict es:=fun e=>(nomatch e)
theorem Likes.snoc {b:Nat} (h:Like b σ r q):∀ {rs qs:List Nat},Likes b σ rs qs→Likes b σ (rs++[r]) (qs++[q])
 | [],[],_=>⟨h,trivial⟩
 | _ :: _,_ :: _,k=>⟨k.1,Likes.snoc h k.2⟩
theorem Likes.fx {b:Nat} (F:Fx P σ σ') (hP:∀ {i:Nat}{c:Value},P i→∃ o,σ[i]? = some o∧∀ b,tri c b≠o) (hr:∀ l ys,b+9≤l→σ[l]? = some (.list ys)→¬ P l):∀ {rs qs:List Nat},Likes b σ rs qs→Likes b σ' rs qs
 | [],[],_=>trivial
 | _ :: _,_ :: _,⟨⟨T,t1,t2,l1,l2⟩,k⟩=>⟨⟨T,t1.fx F hP (let ⟨_,g,_⟩:=t1;hr _ _ l1 g),t2.fx F hP (let ⟨_,g,_⟩:=t2;hr _ _ l2 g),l1,l2⟩,Likes.fx F hP hr k⟩
noncomputable abbrev LT (A:LA) (x1 x2 tw:Nat) (t:Option AV):List (Option AV):=[some (.loc 0),some (.loc x1),some (.loc x2),some (.loc A.o),some (.loc tw),some (.loc A.as),some (.loc A.dl),some (.loc A.tl),some (.loc A.m),t]
theorem lawDue_len {one two junk:List Str}:(lawDue one two junk).length≤one.length+1:=by
 unfold lawDue
 rw [List.length_append]
 exact Nat.succ_le_succ (Nat.le_trans foldl_due_len (Nat.le_trans (Nat.le_of_eq (Nat.zero_add _)) (lawBlocks_len (Nat.zero_le _) (Nat.zero_le _))))
theorem turn_run (H:TS A σ one xs D ob rs qs) (ht:Strs σ t two) (lt:t<A.b) (nt:t≠A.as∧t≠A.tl∧t≠A.dl) (hob:∀ k,ob≠.cst k) (hIs:cmpop .Is (.loc t) ob σ=some false) (hc:two.all (C8.contains ·)=true)
  (hs:Settled two ((uq two).foldl aStep ⟨xs,D,[]⟩)) (l1:one.length≤6) (l2:two.length≤6) (l3:xs.length≤100) (l4:D.length≤100) (l5:rs.length≤100) (l6:qs.length≤100) :
  ∃ σ' r q,Exs 20 f bodyT (env (LT A x1 x2 tw (some (.loc t)))) σ .next (env (LT A x1 x2 tw (some (.loc t)))) σ'∧Fx (TX A) σ σ'∧TS A σ' one ((uq two).foldl aStep ⟨xs,D,[]⟩).xs ((uq two).foldl aStep ⟨xs,D,[]⟩).D (.loc t) (rs++[r]) (qs++[q]):=by
 refine byG fun G1 k1=>?_
 refine xE41 H.hd fun mb x y z hd=>?_
 have S:=H.S
 refine xE05 (aStep_facts (ks:=uq two) (s:=⟨xs,D,[]⟩) .nil) fun _ _ a3 _ _=>?_
 have lx:((uq two).foldl aStep ⟨xs,D,[]⟩).xs.length≤200:=by
  rw [a3,List.length_append]
  exact Nat.le_trans (Nat.add_le_add l3 (Nat.le_trans uq_len l2)) (by decide)
 refine xE43 (seq2_run (n:=16) (two:=two) ⟨S,H.hm,hd,H.hB,rfl,rfl,rfl,Nat.le_of_ble_eq_true rfl,.inl ⟨t,rfl,ht⟩,fun e=>nt.1 (AV.loc.inj e),hc,Nat.le_trans l2 (by decide),Nat.le_trans l3 (by decide),Nat.le_trans l4 (by decide)⟩ rfl hob hIs) fun σ1 bd bs bp c1 F1 C1=>?_
 refine k1 ?_
 generalize (uq two).foldl aStep ⟨xs,D,[]⟩=J at hs lx C1 ⊢
 refine byG fun G2 k2=>?_
 have d1:σ1[A.d]? = some (.fields (FS (.loc (A.b+8)) (.loc A.o) (.loc t) .none (.loc bd) (.loc bs) (.loc bp))):=C1.hd
 have nm:¬ T1 A A.m:=fun e=>e.elim (not_inst H.hm hd fun _ _ e=>nomatch e) fun e=>e.elim (ne_of H.hm S.ha fun e=>nomatch e) (ne_of H.hm (S.p 4 _ rfl) fun e=>nomatch e)
 have m1:=F1 _ _ nm H.hm
 have nto:=nT1 H.lo H.no.1 H.hB
 have ntt:=nT1 lt nt.1 H.hB
 have o1:Strs σ1 A.o one:=⟨F1 _ _ nto H.ho.1,H.ho.2⟩
 have t1:Strs σ1 t two:=⟨F1 _ _ ntt ht.1,ht.2⟩
 have tl1:=F1 _ _ (nT1 H.lt H.nt.1 H.hB) H.ht
 have dl1:=F1 _ _ (nT1 H.ll H.nl H.hB) H.hl
 refine xE14 (blocks_due (one:=one) (junk:=lawJunk J.xs) (fun x hx=>(hs.j x hx).trans (hs.l x hx).symm) l1) fun L hP hA h6 hM=>?_
 refine xE25 (gmb_run (n:=17) ⟨m1,d1,rfl,rfl,rfl,rfl,o1,t1,C1.hb,C1.hs⟩ (fun x=>places_few x (Nat.le_trans l2 (by decide))) rfl rfl (Nat.le_of_ble_eq_true rfl) (Nat.le_trans l1 (by decide)) hP hA h6) fun r σ2 c2 F2 d2 T2 hr2=>?_
 rw [hM]at T2
 have nd {l:Nat} (h:l<A.b):¬ l=A.d:=Nat.ne_of_lt (Nat.lt_of_lt_of_le h (Nat.le_trans (Nat.le_add_right _ _) H.hB))
 have tl2:=F2 _ _ (nd H.lt) tl1
 have F3:Fx (·=A.tl) σ2 (σ2.set A.tl (.list (rs.map .loc++[.loc r]))):=Fx.set rfl
 have tl3:=List.getElem?_set_self (a:=AO.list (rs.map .loc++[.loc r])) (lt_of tl2)
 have S3:=(C1.S.fx (F2.weak fun e=>e ▸ H.hB)).fx' F3 H.nt.1.symm fun j=>Nat.ne_of_gt (Nat.lt_of_lt_of_le H.lt (Nat.le_add_right _ _))
 have o3:Strs _ A.o one:=⟨F3 _ _ H.no.2.1 (F2 _ _ (nd H.lo) o1.1),o1.2⟩
 have t3:Strs _ t two:=⟨F3 _ _ nt.2.1 (F2 _ _ (nd lt) t1.1),t1.2⟩
 have dl3:=F3 _ _ H.nt.2.symm (F2 _ _ (nd H.ll) dl1)
 refine xE24 (junk_run (n:=19) ⟨S3.ha,Nat.le_trans lx (by decide)⟩ hs.c (Nat.le_trans lx (by decide))) fun jr σ4 c4 p4 j4 _=>?_
 refine xE24 (due_run (n:=0) (o3.mono p4) (t3.mono p4) j4 (Nat.le_trans l1 (by decide)) (Nat.le_trans l2 (by decide))) fun q σ5 c5 p5 T5 hq5=>?_
 refine k2 ?_
 have p45:=p4.trans p5
 have dl5:=getElem?_pre p45 dl3
 have F6:Fx (·=A.dl) σ5 (σ5.set A.dl (.list (qs.map .loc++[.loc q]))):=Fx.set rfl
 have G:Fx (TX A) σ _:=Fx.trans (F1.weak .inl) (Fx.trans (F2.weak fun e=>.inl (.inl e)) (Fx.trans (F3.weak fun e=>.inr (.inl e)) (Fx.trans (Fx.pre p45) (F6.weak fun e=>.inr (.inr e)))))
 have lr:A.b+9≤r:=Nat.le_trans (Nat.le_trans H.hB (Nat.le_of_lt (lt_of d1))) hr2
 have gl:σ2.length≤σ4.length:=Nat.le_trans (Nat.le_of_eq List.length_set.symm) (pre_len p4)
 have lq:A.b+9≤q:=Nat.le_trans (Nat.le_trans H.hB (Nat.le_of_lt (lt_of d2))) (Nat.le_trans gl hq5)
 have big {l k:Nat} (h:A.b+9≤k) (h':l<A.b):¬ k=l:=Nat.ne_of_gt (Nat.lt_of_lt_of_le h' (Nat.le_trans (Nat.le_add_right _ _) h))
 have k2 {i:Nat}{c:Value} (e:i=A.tl):∃ o,σ2[i]? = some o∧∀ b,tri c b≠o:=⟨_,e ▸ tl2,not_list⟩
 have k5 {i:Nat}{c:Value} (e:i=A.dl):∃ o,σ5[i]? = some o∧∀ b,tri c b≠o:=⟨_,e ▸ dl5,not_list⟩
 have new:Like A.b _ r q:=⟨_,((T2.fx F3 k2 (big lr H.lt)).mono p45).fx F6 k5 (big lr H.ll),T5.fx F6 k5 (big lq H.ll),lr,lq⟩
 have old:=Likes.fx (b:=A.b) G (fun {i c} e=>e.elim (fun e=>e.elim (fun e=>⟨_,e ▸ hd,fld_tri⟩) fun e=>e.elim (fun e=>⟨_,e ▸ S.ha,not_list⟩) fun e=>⟨_,e ▸ S.p 4 _ rfl,not_dict⟩) fun e=>e.elim (fun e=>⟨_,e ▸ H.ht,not_list⟩) fun e=>⟨_,e ▸ H.hl,not_list⟩)
  (fun l ys h1 h2 e=>e.elim (fun e=>e.elim (ne_of h2 hd fun e=>nomatch e) fun e=>e.elim (big h1 S.lt) (ne_of h2 (S.p 4 _ rfl) fun e=>nomatch e)) fun e=>e.elim (big h1 H.lt) (big h1 H.ll)) H.like
 have keep {k:Nat}{o:AO} (h1:A.b+9≤k) (e:σ2[k]? = some o):=F6 _ _ (big h1 H.ll) (getElem?_pre p45 (F3 _ _ (big h1 H.lt) e))
 exact⟨_,r,q,.cons (.expr (.minst (.p rfl) (.cons (.p rfl) .nil) H.hm hd rfl rfl (fun P=>by kernel_rfl) c1))
  (.cons (.expr (.append (.p rfl) (.cons (.minst (.p rfl) .nil m1 d1 rfl rfl (fun P=>by kernel_rfl) c2) .nil) tl1 tl2 (by rw [List.length_map];exact Nat.lt_of_le_of_lt l5 (by decide))))
  (.one (.expr (.append (.p rfl) (.cons (.call .glob (.cons (.p rfl) (.cons (.p rfl) (.cons (.call .glob (.cons (.p rfl) .nil) c4) .nil))) (c5.le (Nat.le_trans (Nat.add_le_add_right (Nat.add_le_add_left (Nat.succ_le_succ l1) 0) 2) (by decide)))) .nil) dl3 dl5 (by rw [List.length_map];exact Nat.lt_of_le_of_lt l6 (by decide)))))),G,
  ⟨(S3.mono p45).fx' F6 H.nl.symm fun j=>Nat.ne_of_gt (Nat.lt_of_lt_of_le H.ll (Nat.le_add_right _ _)),keep H.hM (F2 _ _ (not_inst m1 d1 fun _ _ e=>nomatch e) m1),⟨_,_,_,_,keep H.hB d2⟩,H.hB,H.hM,⟨F6 _ _ H.no.2.2 (getElem?_pre p45 o3.1),o3.2⟩,by rw [List.map_append];exact F6 _ _ H.nt.2 (getElem?_pre p45 tl3),by rw [List.map_append];exact List.getElem?_set_self (lt_of dl5),H.lo,H.lt,H.ll,H.no,H.nt,H.nl,old.snoc new⟩⟩
end
end Mine
end
section
open PySem
set_option maxRecDepth 100000
set_option linter.unusedVariables false
set_option autoImplicit false
namespace Mine
section
variable {n b:Nat}{σ:Sto}{i j:Nat}{xs ys:List AV}
theorem eqv_l (h1:σ[i]? = some (.list xs)) (h2:σ[j]? = some (.list ys)) (hl:xs.length=ys.length) (h:allM (eqv n σ) xs ys=some true):eqv (n+1) σ (.loc i) (.loc j)=some true:=by
 show(σ[i]?).bind (fun x=>(σ[j]?).bind fun y=>eqO (eqv n σ) x y)=_
 rw [h1,h2]
 exact(if_pos hl).trans h
theorem allM_cons {f:AV→AV→Option Bool}{x y:AV} (h:f x y=some true) (k:allM f xs ys=some true):allM f (x :: xs) (y :: ys)=some true:=by
 show(f x y).bind _=_
 rw [h]
 show(allM f xs ys).bind _=_
 rw [k]
 rfl
theorem eqv_tri {q:Tri} (h1:σ[i]? = some (tri (.ref 135) q)) (h2:σ[j]? = some (tri (.type "tuple") q)):eqv (n+1) σ (.loc i) (.loc j)=some true:=by
 show(σ[i]?).bind (fun x=>(σ[j]?).bind fun y=>eqO (eqv n σ) x y)=_
 rw [h1,h2]
 refine(if_pos (e:=none) (c:=Value.ref 135=.ref 135∧Value.type "tuple"=.type "tuple") ⟨rfl,rfl⟩).trans ?_
 show some (decide _ && (decide _ && decide _))=_
 rw [decide_eq_true rfl,decide_eq_true rfl,decide_eq_true rfl]
 rfl
theorem allM_tri:∀ {ls ks:List Nat}{T:List Tri},At σ ls (T.map (tri (.ref 135)))→At σ ks (T.map (tri (.type "tuple")))→allM (eqv (n+1) σ) (ls.map .loc) (ks.map .loc)=some true
 | [],[],[],_,_=>rfl
 | l :: ls,k :: ks,q :: T,h1,h2=>
  let ⟨a1,a2⟩:=List.cons.inj h1
  let ⟨b1,b2⟩:=List.cons.inj h2
  allM_cons (eqv_tri a1 b1) (allM_tri a2 b2)
 | _ :: _,_,[],h,_=>nomatch h
 | [],_,_ :: _,h,_=>nomatch h
 | _,_ :: _,[],_,h=>nomatch h
 | _,[],_ :: _,_,h=>nomatch h
theorem Likes.all:∀ {rs qs:List Nat},Likes b σ rs qs→rs.length=qs.length∧allM (eqv (n+2) σ) (rs.map .loc) (qs.map .loc)=some true
 | [],[],_=>⟨rfl,rfl⟩
 | r :: rs,q :: qs,⟨⟨T,⟨ls,g1,a1⟩,⟨ks,g2,a2⟩,_,_⟩,k⟩=>
  let ⟨l,e⟩:=Likes.all k
  ⟨congrArg (·+1) l,allM_cons (eqv_l g1 g2 (by rw [List.length_map,List.length_map,a1.len,a2.len,List.length_map,List.length_map]) (allM_tri a1 a2)) e⟩
theorem told_due {rs qs:List Nat} (h1:σ[i]? = some (.list (rs.map .loc))) (h2:σ[j]? = some (.list (qs.map .loc))) (h:Likes b σ rs qs):cmpop .Eq (.loc i) (.loc j) σ=some true:=
 eqv_l (n:=4) h1 h2 (by rw [List.length_map,List.length_map,(Likes.all (n:=2) h).1]) h.all.2
theorem allM_strs:∀ {xs:List Str},allM (eqv (n+1) σ) (xs.map .str) (xs.map .str)=some true
 | []=>rfl
 | x :: xs=>allM_cons (congrArg some (decide_eq_true rfl)) allM_strs
theorem asked_eq {xs:List Str} (h1:σ[i]? = some (.list (xs.map .str))) (h2:σ[j]? = some (.list (xs.map .str))):cmpop .Eq (.loc i) (.loc j) σ=some true:=eqv_l (n:=4) h1 h2 rfl allM_strs
end
section
variable {n:Nat}{f:Nat→Option Nat}{σ0:Sto}{acc r tw:Nat}{vs:List AV}
theorem copyL (h0:σ0[r]? = some (.list vs)) (n1:r≠acc):∀ {ys zs:List Str}{ρ:Rho}{σ:Sto},σ[r]? = some (.list vs)→σ[acc]? = some (.list (zs.map .str))→zs.length+ys.length≤800→
  ∃ ρ' σ',Gen n f acc (.var 2) (.var 2) [] [] (fun σ=>Same σ0 (.loc r) σ) ρ' σ' (ys.map fun x=>[AV.str x]) ρ σ∧Fx (·=acc) σ σ'∧σ'[acc]? = some (.list ((zs++ys).map .str))
 | [],zs,ρ,σ,h1,h2,h3=>⟨ρ,σ,⟨rfl,rfl⟩,fun _ _ _ e=>e,(List.append_nil zs).symm ▸ h2⟩
 | y :: ys,zs,ρ,σ,h1,h2,h3=>by
  have h3':zs.length+1+ys.length≤800:=Nat.le_trans (Nat.le_of_eq (Nat.succ_add_eq_add_succ _ _)) h3
  have F1:Fx (·=acc) σ (σ.set acc (.list (zs.map .str++[.str y]))):=Fx.set rfl
  have r1:=F1 _ _ n1 h1
  refine xE23 (copyL h0 n1 (ys:=ys) (zs:=zs++[y]) (ρ:=upd ρ 2 (.str y)) r1 (by rw [List.map_append];exact List.getElem?_set_self (lt_of h2)) (by rw [List.length_append];exact h3')) fun ρ' σ' e F h=>?_
  exact⟨ρ',σ',.emit (.one .var) .no (emit (.var rfl) h2 (by rw [List.length_map];exact Nat.lt_of_le_of_lt (Nat.le_trans (Nat.le_add_right _ _) h3) (by decide))) (same_l h0 r1) e,F1.trans F,by rw [List.append_assoc]at h;exact h⟩
noncomputable def StrsL (acc:Nat) (σ:Sto):List (Nat×List Str)→Prop
 | []=>True
 | p :: ts=>(Strs σ p.1 p.2∧p.1≠acc∧p.2.length≤20)∧StrsL acc σ ts
theorem StrsL.fx {σ σ':Sto} (F:Fx (·=acc) σ σ'):∀ {ts:List (Nat×List Str)},StrsL acc σ ts→StrsL acc σ' ts
 | [],_=>trivial
 | _ :: _,⟨⟨h1,h2,h3⟩,k⟩=>⟨⟨⟨F _ _ h2 h1.1,h1.2⟩,h2,h3⟩,StrsL.fx F k⟩
theorem allL (h0:σ0[tw]? = some (.list vs)) (n1:tw≠acc):∀ {ts:List (Nat×List Str)}{zs:List Str}{ρ:Rho}{σ:Sto},σ[tw]? = some (.list vs)→StrsL acc σ ts→σ[acc]? = some (.list (zs.map .str))→zs.length+20 * ts.length≤800→
  ∃ ρ' σ',Gen (n+1) f acc (.var 2) (.var 1) [] [.gen (.var 2) (.call (.glob (.cst (.ref 327))) [.var 1]) []] (fun σ=>Same σ0 (.loc tw) σ) ρ' σ' (ts.map fun p=>[AV.loc p.1]) ρ σ∧Fx (·=acc) σ σ'∧σ'[acc]? = some (.list ((zs++ts.flatMap fun p=>uq p.2).map .str))
 | [],zs,ρ,σ,h1,h2,h3,h4=>⟨ρ,σ,⟨rfl,rfl⟩,fun _ _ _ e=>e,(List.append_nil zs).symm ▸ h3⟩
 | p :: ts,zs,ρ,σ,h1,⟨⟨p1,p2,p3⟩,k⟩,h3,h4=>by
  refine byG fun G2 k2=>?_
  have h4':zs.length+20+20 * ts.length≤800:=by rw [List.length_cons,Nat.mul_succ,Nat.add_comm (20 * ts.length),←Nat.add_assoc]at h4;exact h4
  refine xE24 (unlike_run (n:=n) p1 (Nat.lt_of_le_of_lt p3 (by decide))) fun r σ1 e1 q1 s1 hr=>?_
  have ul:=Nat.le_trans (uq_len (l:=p.2)) p3
  refine xE23 (copyL (n:=n+1) (f:=f) (ρ:=upd ρ 1 (.loc p.1)) s1.1 (Nat.ne_of_gt (Nat.lt_of_lt_of_le (lt_of h3) hr)) s1.1 (getElem?_pre q1 h3) (Nat.le_trans (Nat.add_le_add_left ul _) (Nat.le_trans (Nat.le_add_right _ _) h4'))) fun ρ2 σ2 e2 F2 a2=>?_
  have F12:=Fx.trans (Fx.pre q1) F2
  have t2:=F12 _ _ n1 h1
  refine xE23 (allL h0 n1 (ts:=ts) (ρ:=ρ2) t2 (k.fx F12) a2 (by rw [List.length_append];exact Nat.le_trans (Nat.add_le_add_right (Nat.add_le_add_left ul _) _) h4')) fun ρ' σ' e F h=>?_
  refine k2 ?_
  exact⟨ρ',σ',.emit (.one .var) .no ⟨_,_,_,.call .glob (.cons (.var rfl) .nil) e1,items_m s1.1,e2⟩ (same_l h0 t2) e,F12.trans F,by rw [List.append_assoc]at h;exact h⟩
end
end Mine
end
section
open PySem
set_option maxRecDepth 100000
set_option linter.unusedVariables false
set_option autoImplicit false
namespace Mine
theorem is_lists {σ:Sto}{l m:Nat}{xs:List AV} (h:σ[l]? = some (.list xs)) (n:l≠m):cmpop .Is (.loc l) (.loc m) σ=some false:=by
 show(σ[l]?).bind _=some false
 rw [h,←decide_eq_false n]
 rfl
structure CL (A:LA) (σ:Sto) (t:Nat) (two:List Str):Prop where
 s:Strs σ t two
 c:∀ x∈two,x∈C8
 l:two.length≤6
 lt:t<A.b
 nt:t≠A.as∧t≠A.tl∧t≠A.dl
section
variable {A:LA}{f:Nat→Option Nat}{σ σ':Sto}{one two xs:List Str}{D:Dct}{ob:AV}{rs qs:List Nat}{t x1 x2 tw:Nat}{vs:List AV}
theorem CL.fx (h:CL A σ t two) (F:Fx (TX A) σ σ') (hB:A.b+9≤A.d):CL A σ' t two:=
 ⟨⟨F _ _ (fun e=>e.elim (nT1 h.lt h.nt.1 hB) fun e=>e.elim h.nt.2.1 h.nt.2.2) h.s.1,h.s.2⟩,h.c,h.l,h.lt,h.nt⟩
theorem turn (H:TS A σ one xs D ob rs qs) (C:CL A σ t two) (hob:∀ k,ob≠.cst k) (hIs:cmpop .Is (.loc t) ob σ=some false)
  (hs:Settled two ((uq two).foldl aStep ⟨xs,D,[]⟩)) (l1:one.length≤6){k:Nat} (lk:k≤80) (l3:xs.length≤k) (l4:D.length≤k+1) (l5:rs.length≤100) (l6:qs.length≤100) :
  ∃ σ' r q J,Exs 20 f bodyT (env (LT A x1 x2 tw (some (.loc t)))) σ .next (env (LT A x1 x2 tw (some (.loc t)))) σ'∧Fx (TX A) σ σ'∧TS A σ' one J.xs J.D (.loc t) (rs++[r]) (qs++[q])∧J.xs=xs++uq two∧J.xs.length≤k+6∧J.D.length≤k+6+1∧Settled two J:=by
 refine xE33 (turn_run (f:=f) (x1:=x1) (x2:=x2) (tw:=tw) H C.s C.lt C.nt hob hIs (List.all_eq_true.mpr fun x h=>List.contains_iff_mem.mpr (C.c x h)) hs l1 C.l (Nat.le_trans l3 (Nat.le_trans lk (by decide))) (Nat.le_trans l4 (Nat.le_trans (Nat.succ_le_succ lk) (by decide))) l5 l6) fun σ' r q e F T=>?_
 refine xE05 (aStep_facts (ks:=uq two) (s:=⟨xs,D,[]⟩) .nil) fun _ _ a3 _ a5=>?_
 have u:=Nat.le_trans (uq_len (l:=two)) C.l
 exact⟨σ',r,q,_,e,F,T,a3,by rw [a3,List.length_append];exact Nat.add_le_add l3 u,Nat.le_trans a5 (Nat.le_trans (Nat.add_le_add l4 u) (Nat.le_of_eq (Nat.succ_add k 6))),hs⟩
theorem loop_run {t1 t2 t3:Nat}{two1 two2 two3 r0:List Str} (hw:σ[tw]? = some (.list vs)) (ntw:¬ TX A tw) (H:TS A σ one [] D0 (.str "") [] []) (C1:CL A σ t1 two1) (C2:CL A σ t2 two2) (C3:CL A σ t3 two3) (h1:two1=("b -":Str) :: "a f" :: "ab f" :: r0) (n12:t2≠t1) (n23:t3≠t2) (l1:one.length≤6) :
  ∃ t' σ' D' ob rs qs,For 20 f (.var 9) bodyT (fun σ'=>Same σ (.loc tw) σ') .next (env (LT A x1 x2 tw t')) σ' [[.loc t1],[.loc t2],[.loc t3]] (env (LT A x1 x2 tw none)) σ∧Fx (TX A) σ σ'∧TS A σ' one (uq two1++uq two2++uq two3) D' ob rs qs:=by
 have hB:=H.hB
 refine xE47 (turn (f:=f) (x1:=x1) (x2:=x2) (tw:=tw) H C1 (fun _ e=>nomatch e) rfl (turn_first h1 C1.c) l1 (k:=0) (Nat.zero_le _) (Nat.le_refl _) (Nat.le_refl _) (Nat.zero_le _) (Nat.zero_le _)) fun σ1 ra qa J1 e1 F1 T1 x1' k1 d1 s1=>?_
 have w1:=F1 _ _ ntw hw
 have C2':=C2.fx F1 hB
 refine xE47 (turn (f:=f) (x1:=x1) (x2:=x2) (tw:=tw) T1 C2' (fun _ e=>nomatch e) (is_lists C2'.s.1 n12) (turn_settled s1.d s1.f s1.c C2.c) l1 (by decide) k1 d1 (Nat.le_of_ble_eq_true rfl) (Nat.le_of_ble_eq_true rfl)) fun σ2 rb qb J2 e2 F2 T2 x2' k2 d2 s2=>?_
 have w2:=F2 _ _ ntw w1
 have C3':=(C3.fx F1 hB).fx F2 hB
 refine xE47 (turn (f:=f) (x1:=x1) (x2:=x2) (tw:=tw) T2 C3' (fun _ e=>nomatch e) (is_lists C3'.s.1 n23) (turn_settled s2.d s2.f s2.c C3.c) l1 (by decide) k2 d2 (Nat.le_of_ble_eq_true rfl) (Nat.le_of_ble_eq_true rfl)) fun σ3 rc qc J3 e3 F3 T3 x3' k3 d3 s3=>?_
 have w3:=F3 _ _ ntw w2
 rw [x3',x2',x1']at T3
 exact⟨_,σ3,_,_,_,_,.step (.one (Asg.varE rfl)) e1 (.inl rfl) (same_l hw w1) (.step (.one (Asg.varE rfl)) e2 (.inl rfl) (same_l hw w2) (.step (.one (Asg.varE rfl)) e3 (.inl rfl) (same_l hw w3) ⟨rfl,rfl,rfl⟩)),F1.trans (F2.trans F3),T3⟩
end
noncomputable def fixN:List Int:=[0,5,1,0,2,0,6,5,1,2,0,6,6,1,2,3]
noncomputable def nums (ns:List Int):List Int:=fixN++ns.take 8
noncomputable def calls (ns:List Int):List Str:=(nums ns).map callOf
theorem calls_len (ns:List Int):∃ N,N≤8∧(calls ns).length=16+N:=⟨(ns.take 8).length,List.length_take_le ..,by unfold calls nums;rw [List.length_map,List.length_append];rfl⟩
theorem calls_mem {ns:List Int}{x:Str} (h:x∈calls ns):x∈C8:=let ⟨y,_,e⟩:=List.mem_map.mp h;e ▸ (call_ok y).1
theorem every_fst (ns:List Int):∃ r,every 1 (calls ns)=("b -":Str) :: "a f" :: "ab f" :: r:=by
 refine xE12 (calls_len ns) fun N h1 h2=>?_
 have at_ {i:Nat}{a:Str} (h:(fixN.map callOf)[i]? = some a):(calls ns)[i]? = some a:=by
  unfold calls nums
  rw [List.map_append]
  exact getElem?_pre (List.prefix_append _ _) h
 refine xE11 (every_one h1 h2 (a:=callOf 5) (b:=callOf 0) (c:=callOf 2) (d:=callOf 1) (at_ rfl) (at_ rfl) (at_ rfl) (at_ rfl)) fun r e=>?_
 exact⟨_,e.trans (show [callOf 5,callOf 0,callOf 2]++(callOf 1 :: r)=[("b -":Str),"a f","ab f"]++(callOf 1 :: r)from congrArg (·++_) (by kernel_rfl))⟩
end Mine
end
section
open PySem
set_option maxRecDepth 100000
set_option linter.unusedVariables false
set_option autoImplicit false
namespace Mine
section
variable {n:Nat}{f:Nat→Option Nat}{ρ:Rho}{σ τ:Sto}{p:Obj}{ns:List Int}{cs:List Str}{t:Nat}{o:AO}{E:Mine.E}{τs:List AO}
theorem Evs.ints:∀ {l:List Int},Evs n f (l.map .int) ρ σ (l.map .int) σ
 | []=>.nil
 | _ :: _=>.cons .int Evs.ints
theorem slice_fix (h:σ[t]? = some (.fix p (ns.map .int))) (hn:ns.length≤63):Slice (.loc t) .none (.int 8) .none σ (.loc σ.length) (σ++[.list ((ns.take 8).map .int)]):=by
 have r:=SliceR.fix (lo:=none) (hi:=some ((8:Nat):Int)) (st:=none) h (by rw [List.length_map];exact Nat.le_trans hn (by decide))
 rw [pick_take,←List.map_take]at r
 exact⟨_,_,_,.none,.int _,.none,(fun e=>nomatch e),r⟩
theorem slice_every (h:Strs σ t cs) (k:Nat):Slice (.loc t) (.int (k:Int)) .none (.int 4) σ (.loc σ.length) (σ++[.list ((every k cs).map .str)]):=by
 have r:=SliceR.list (lo:=some (k:Int)) (hi:=none) (st:=some 4) h.1 (by rw [List.length_map];exact h.2)
 rw [pick_map]at r
 exact⟨_,_,_,.int _,.none,.int _,(fun e=>nomatch e),r⟩
theorem Ev.at {σi:Sto} (h:Ev n f E ρ σi (.loc (σ++τ).length) (σ++τ++[o])):Ev n f E ρ σi (.loc (σ.length+τ.length)) (σ++(τ++[o])):=List.length_append (as:=σ) (bs:=τ) ▸ List.append_assoc σ τ [o] ▸ h
theorem Ev.every (r2:ρ 2=some (.loc t)) (h:Strs σ t cs) (k:Nat) (τ:Sto):Ev n f (.slice (.var 2) [.int (k:Int)] [] [.int 4]) ρ (σ++τ) (.loc (σ.length+τ.length)) (σ++(τ++[.list ((every k cs).map .str)])):=
 .at (.slice (.var r2) (.yes .int) .no (.yes .int) (slice_every (h.mono pre_app) k))
noncomputable def tail8 (l:Nat) (cs:List Str):Sto:=[.list ((every 0 cs).map .str),.list ((every 1 cs).map .str),.list ((every 2 cs).map .str),.list ((every 3 cs).map .str),.list [.loc (l+1),.loc (l+2),.loc (l+3)],.list [],.list [],.list []]
theorem s3_run (r2:ρ 2=some (.loc t)) (h:Strs σ t cs):Evs n f [.slice (.var 2) [.int 0] [] [.int 4],.list [.slice (.var 2) [.int 1] [] [.int 4],.slice (.var 2) [.int 2] [] [.int 4],.slice (.var 2) [.int 3] [] [.int 4]],.list [],.list [],.list []] ρ σ
  [.loc σ.length,.loc (σ.length+4),.loc (σ.length+5),.loc (σ.length+6),.loc (σ.length+7)] (σ++tail8 σ.length cs):=by
 have e0:=Ev.every (n:=n) (f:=f) r2 h 0 []
 rw [List.append_nil]at e0
 exact .cons e0 (.cons (.at (τ:=[_,_,_,_]) (.list (.cons (.every r2 h 1 [_]) (.cons (.every r2 h 2 [_,_]) (.cons (.every r2 h 3 [_,_,_]) .nil))) (Nat.le_of_ble_eq_true rfl)))
  (.cons (.at (τ:=[_,_,_,_,_]) (.list .nil (Nat.zero_le _))) (.cons (.at (τ:=[_,_,_,_,_,_]) (.list .nil (Nat.zero_le _))) (.cons (.at (τ:=[_,_,_,_,_,_,_]) (.list .nil (Nat.zero_le _))) .nil))))
end
end Mine
end
section
open PySem
set_option maxRecDepth 100000
set_option linter.unusedVariables false
set_option autoImplicit false
namespace Mine
noncomputable def S1:S:=.assign [.var 1] (.bin .Add (.list [.int 0,.int 5,.int 1,.int 0,.int 2,.int 0,.int 6,.int 5,.int 1,.int 2,.int 0,.int 6,.int 6,.int 1,.int 2,.int 3]) (.slice (.var 0) [] [.int 8] []))
noncomputable def S2:S:=.assignC 2 (.comp [] eltC [.gen (.var 1) (.var 1) []])
noncomputable abbrev Lw (x1 x2 x3 x4 x5 x6 x7 x8 x9:Option AV):List (Option AV):=[some (.loc 0),x1,x2,x3,x4,x5,x6,x7,x8,x9]
section
variable {n:Nat}{f:Nat→Option Nat}{ρ:Rho}{σ:Sto}{p:Obj}{ns:List Int}{as l1:Nat}
theorem s1_run (h:σ[(0:Nat)]? = some (.fix p (ns.map .int))) (hn:ns.length≤63):∃ σ' l,Ex n f S1 (env (Lw none none none none none none none none none)) σ .next (env (Lw (some (.loc l)) none none none none none none none none)) σ'∧σ <+: σ'∧σ'[l]? = some (.list ((nums ns).map .int)):=
 ⟨_,_,Ex.setE (.addL (.list (Evs.ints (l:=fixN)) (by decide)) (.slice (.p rfl) .no (.yes .int) .no (slice_fix (getElem?_pre pre_app h) hn)) (getElem?_pre pre_app app_z) app_z (by rw [List.length_map,List.length_map];exact Nat.le_trans (Nat.add_le_add_left (List.length_take_le ..) 16) (by decide))) rfl,(pre_app.trans pre_app).trans pre_app,app_z.trans (congrArg (fun l=>some (AO.list l)) (List.map_append ..).symm)⟩
theorem s2_run (h:σ[l1]? = some (.list ((nums ns).map .int))):∃ σ',Ex n f S2 (env (Lw (some (.loc l1)) none none none none none none none none)) σ .next (env (Lw (some (.loc l1)) (some (.loc σ.length)) none none none none none none none)) σ'∧σ <+: σ'∧Strs σ' σ.length (calls ns):=by
 refine xE12 (calls_len ns) fun N hN hl=>?_
 have hl':(calls ns).length≤800:=hl ▸ Nat.le_trans (Nat.add_le_add_left hN 16) (by decide)
 have p1:σ <+: σ++[.list []]:=pre_app
 refine xE23 (callsL (n:=n) (f:=fun i=>(([]:List (Nat×Nat)).lookup i).bind f) (acc:=σ.length) (ρ:=fun _=>none) h (Nat.ne_of_lt (lt_of h)) (xs:=nums ns) (zs:=[]) (getElem?_pre p1 h) (by rw [List.length_nil,Nat.zero_add];exact List.length_map (as:=nums ns) callOf ▸ hl') app_z) fun ρ' σ' e F g=>?_
 exact⟨σ',upd_env (l:=Lw (some (.loc l1)) none none none none none none none none) (i:=2) rfl ▸ Ex.assignC (.p rfl) (items_m h) rfl e,Fx.out p1 F fun e=>Nat.le_of_eq e.symm,g,Nat.le_trans hl' (by decide)⟩
theorem s4_run (r5:ρ 5=some (.loc as)) (h1:σ[(1:Nat)]? = some (.tab true)) (ha:σ[as]? = some (.list [])):∃ σ' b m d x y z,Ev (n+6) f (.call (.glob (.cst (.ref 242))) [.call (.glob (.cst (.ref 322))) [.call (.glob (.cst (.ref 311))) [.list [.str "a"]],.var 5]]) ρ σ (.loc m) σ'∧Fx (fun i=>i=1∨i=as) σ σ'∧(∃ c,σ'[(1:Nat)]? = some (.tab c))∧AS σ' as b [] D0∧σ.length≤b∧b+9≤d∧b+9≤m∧σ'[m]? = some (.inst 242 d)∧σ'[d]? = some (.fields (FS (.loc (b+8)) (.str "") (.str "") .none x y z)):=by
 have p1:σ <+: σ++[.list [.str "a"]]:=pre_app
 have c1:=reader_run (n:=n+5) (σ:=σ++[.list [.str "a"]]) (l:=σ.length) app_z
 have lb:=pre_len p1
 have ab:=Nat.lt_of_lt_of_le (lt_of ha) lb
 have ob:=Nat.lt_of_lt_of_le (lt_of h1) lb
 have p2:=p1.trans (pre_app (τ:=[AO.fields (FI ((σ++[AO.list [.str "a"]]).length+2) ((σ++[AO.list [.str "a"]]).length+3) ((σ++[AO.list [.str "a"]]).length+4)),.inst 311 (σ++[AO.list [.str "a"]]).length,.set ["a"],.list [],.dict (encD [("<string>",1)])]))
 have hr (j:Nat):((σ++[AO.list [.str "a"]])++[AO.fields (FI ((σ++[AO.list [.str "a"]]).length+2) ((σ++[AO.list [.str "a"]]).length+3) ((σ++[AO.list [.str "a"]]).length+4)),.inst 311 (σ++[AO.list [.str "a"]]).length,.set ["a"],.list [],.dict (encD [("<string>",1)])])[(σ++[AO.list [.str "a"]]).length+j]? = _:=app_k
 have hL:=List.length_append (as:=σ++[AO.list [.str "a"]]) (bs:=[AO.fields (FI ((σ++[AO.list [.str "a"]]).length+2) ((σ++[AO.list [.str "a"]]).length+3) ((σ++[AO.list [.str "a"]]).length+4)),.inst 311 (σ++[AO.list [.str "a"]]).length,.set ["a"],.list [],.dict (encD [("<string>",1)])])
 generalize (σ++[AO.list [.str "a"]])++_=σ2 at c1 p2 hr hL
 generalize (σ++[AO.list [.str "a"]]).length=b at *
 have hL:σ2.length=b+5:=hL
 have c2:=Call.asker (n:=n+5) (r:=.loc (b+1)) (a:=.loc as) (getElem?_pre p2 h1)
 have F2:Fx (·=1) σ2 (σ2.set 1 (.tab false)):=Fx.set rfl
 have F3:Fx (·=1) σ2 (σ2.set 1 (.tab false)++[.cell (some (.loc (b+1))),.cell (some (.loc as)),.code,.clos [(2,σ2.length),(1,σ2.length+1)] (σ2.length+2)]):=F2.trans (Fx.pre pre_app)
 have S3:AS (σ2.set 1 (.tab false)++[.cell (some (.loc (b+1))),.cell (some (.loc as)),.code,.clos [(2,σ2.length),(1,σ2.length+1)] (σ2.length+2)]) as b [] D0:=by
  refine⟨ab,F3 _ _ (ne_of ha h1 fun e=>nomatch e) (getElem?_pre p2 ha),fun j o h=>?_⟩
  rcases Nat.lt_or_ge j 5 with l | l
  ·refine F3 _ _ (Nat.ne_of_gt (Nat.lt_of_lt_of_le ob (Nat.le_add_right _ _))) ((hr j).trans ?_)
   exact(List.getElem?_append_left (l₁:=(parts as b D0).take 5) (l₂:=(parts as b D0).drop 5) l).symm.trans h
  ·refine xE11 (Nat.exists_eq_add_of_le l) fun k q1_=>?_
   subst q1_
   have e:(σ2.set 1 (.tab false)).length=b+5:=List.length_set.trans hL
   rw [←Nat.add_assoc,←e,app_k,hL]
   exact(List.getElem?_append_right (l₁:=(parts as b D0).take 5) (l₂:=(parts as b D0).drop 5) l).symm.trans h |> fun q=>(show((parts as b D0).drop 5)[k]? = some o from (Nat.add_sub_cancel_left (n:=5) (m:=k)) ▸ q)
 have t3:=getElem?_pre (pre_app (τ:=[.cell (some (.loc (b+1))),.cell (some (.loc as)),.code,.clos [(2,σ2.length),(1,σ2.length+1)] (σ2.length+2)])) (List.getElem?_set_self (a:=AO.tab false) (lt_of (getElem?_pre p2 h1)))
 refine xE45 (ctor_run (n:=n) S3 (Nat.zero_le _) (by decide)) fun σ4 bd bs bp c4 F4 S4 m4 d4=>?_
 have nb:b+9≤(σ2.set 1 (.tab false)++[AO.cell (some (.loc (b+1))),.cell (some (.loc as)),.code,.clos [(2,σ2.length),(1,σ2.length+1)] (σ2.length+2)]).length:=lt_of (S3.p 8 _ rfl)
 refine⟨σ4,b,_,_,_,_,_,.call .glob (.cons (.call .glob (.cons (.call .glob (.cons (.list (.cons .str .nil) (by decide)) .nil) c1) (.cons (.var r5) .nil)) c2) .nil) ?_,?_,⟨false,F4 _ _ (fun e=>e.elim (ne_of h1 ha fun e=>nomatch e) fun e=>Nat.ne_of_lt (Nat.lt_of_lt_of_le ob (Nat.le_add_right _ _)) e) t3⟩,S4,lb,nb,Nat.le_succ_of_le nb,m4,d4⟩
 ·rw [show σ2.length+3=b+8 from congrArg (·+3) hL];exact c4
 ·exact fun i o h e=>F4 i o (fun q=>q.elim (fun q=>h (.inr q)) fun q=>Nat.lt_irrefl _ (Nat.lt_of_lt_of_le (Nat.lt_of_lt_of_le (lt_of e) lb) (q ▸ Nat.le_add_right b 4))) (F3 i o (fun q=>h (.inl q)) (getElem?_pre p2 e))
end
end Mine
end
section
open PySem
set_option maxRecDepth 100000
set_option linter.unusedVariables false
set_option autoImplicit false
namespace Mine
noncomputable def PlainLaw:Prop:=∀ (p:Obj) (ns:List Int),ns.length≤63→∃ σ',Call 21 (.cst (.ref 358)) [.loc 0] [.fix p (ns.map .int),.tab true] (.bool true) σ'∧σ'[(0:Nat)]? = some (.fix p (ns.map .int))∧∃ b,σ'[(1:Nat)]? = some (.tab b)
theorem plain_law:PlainLaw:=by
 intro p ns hn
 refine byG fun G1 k1=>?_
 refine xE12 (calls_len ns) fun N hN hl=>?_
 refine xE23 (s1_run (n:=20) (f:=fun _=>none) (σ:=[.fix p (ns.map .int),.tab true]) rfl hn) fun σ1 l1 q1 p1 g1=>?_
 refine xE13 (s2_run (n:=20) (f:=fun _=>none) g1) fun σ2 q2 p2 g2=>?_
 refine k1 ?_
 have e3:=s3_run (n:=20) (f:=fun _=>none) (ρ:=env (Lw (some (.loc l1)) (some (.loc σ1.length)) none none none none none none none)) rfl g2
 have p3:σ2 <+: σ2++tail8 σ2.length (calls ns):=pre_app
 have p03:=(p1.trans p2).trans p3
 have t3 (k:Nat):(σ2++tail8 σ2.length (calls ns))[σ2.length+k]? = (tail8 σ2.length (calls ns))[k]?:=app_k
 have l3:(σ2++tail8 σ2.length (calls ns)).length=σ2.length+8:=List.length_append ..
 have hL:=pre_len (p1.trans p2)
 have q3:=Ex.tupFE (xs:=[3,4,5,6,7]) e3 rfl rfl rfl
 generalize σ2++tail8 σ2.length (calls ns)=σ3 at q3 p03 t3 l3
 generalize σ2.length=L at *
 refine byG fun G2 k2=>?_
 obtain⟨σ4,b,m,d,x,y,z,e4,F4,⟨c,tb⟩,S4,lb,hd,hm,m4,d4⟩:=s4_run (n:=14) (f:=fun _=>none) (as:=L+5) (ρ:=env [some (.loc 0),some (.loc l1),some (.loc σ1.length),some (.loc L),some (.loc (L+4)),some (.loc (L+5)),some (.loc (L+6)),some (.loc (L+7)),none,none]) rfl (getElem?_pre p03 rfl) (t3 5)
 have lt (k:Nat) (h:k<8):L+k<b:=Nat.lt_of_lt_of_le (Nat.add_lt_add_left h L) (l3 ▸ lb)
 have n1 (k:Nat) (o:AO) (h:(tail8 L (calls ns))[k]? = some o) (hk:k≠5) (ho:∀ b,o≠.tab b):σ4[L+k]? = some o:=F4 _ _ (fun e=>e.elim (ne_of ((t3 k).trans h) (getElem?_pre p03 (show([AO.fix p (ns.map .int),.tab true])[(1:Nat)]? = some (.tab true)from rfl)) (ho true)) fun e=>hk (Nat.add_left_cancel e)) ((t3 k).trans h)
 refine xE13 (seq1_run (n:=19) (av:=.loc L) m4 d4 (Nat.le_of_ble_eq_true rfl) (ob:=.str "") rfl (fun _ e=>nomatch e) rfl) fun σ5 c5 F5 d5=>?_
 have n5 (k:Nat) (o:AO) (h:(tail8 L (calls ns))[k]? = some o) (hk:k≠5) (ho:∀ b,o≠.tab b) (k8:k<8):σ5[L+k]? = some o:=F5 _ _ (Nat.ne_of_lt (Nat.lt_of_lt_of_le (lt k k8) (Nat.le_trans (Nat.le_add_right _ _) hd))) (n1 k o h hk ho)
 have el (k:Nat) (hk:k<4):(every k (calls ns)).length≤6:=every_len hN hl hk
 have st (k:Nat) (h:(tail8 L (calls ns))[k]? = some (.list ((every k (calls ns)).map .str))) (hk:k<4):Strs σ5 (L+k) (every k (calls ns)):=⟨n5 k _ h (Nat.ne_of_lt (Nat.lt_trans hk (by decide))) (fun _ e=>nomatch e) (Nat.lt_trans hk (by decide)),Nat.le_trans (el k hk) (by decide)⟩
 have ne {i j:Nat} (h:i≠j):L+i≠L+j:=fun e=>h (Nat.add_left_cancel e)
 have T5:TS ⟨L+5,b,m,d,L,L+7,L+6⟩ σ5 (every 0 (calls ns)) [] D0 (.str "") [] []:=
  ⟨S4.fx (F5.weak fun e=>e ▸ hd),F5 _ _ (not_inst m4 d4 fun _ _ e=>nomatch e) m4,⟨_,_,_,_,d5⟩,hd,hm,st 0 rfl (by decide),n5 7 _ rfl (by decide) (fun _ e=>nomatch e) (by decide),n5 6 _ rfl (by decide) (fun _ e=>nomatch e) (by decide),lt 0 (by decide),lt 7 (by decide),lt 6 (by decide),
   ⟨ne (i:=0) (by decide),ne (i:=0) (by decide),ne (i:=0) (by decide)⟩,⟨ne (by decide),ne (by decide)⟩,ne (by decide),trivial⟩
 have cl (k:Nat) (h:(tail8 L (calls ns))[k]? = some (.list ((every k (calls ns)).map .str))) (hk:k<4):CL ⟨L+5,b,m,d,L,L+7,L+6⟩ σ5 (L+k) (every k (calls ns)):=
  ⟨st k h hk,fun x hx=>calls_mem (pick_mem hx),el k hk,lt k (Nat.lt_trans hk (by decide)),ne (Nat.ne_of_lt (Nat.lt_trans hk (by decide))),ne (Nat.ne_of_lt (Nat.lt_trans hk (by decide))),ne (Nat.ne_of_lt (Nat.lt_trans hk (by decide)))⟩
 have ntw:¬ TX ⟨L+5,b,m,d,L,L+7,L+6⟩ (L+4):=fun e=>e.elim (nT1 (lt 4 (by decide)) (ne (by decide)) hd) fun e=>e.elim (ne (by decide)) (ne (by decide))
 have w5:=n5 4 _ rfl (by decide) (fun _ e=>nomatch e) (by decide)
 obtain⟨r0,hf⟩:=every_fst ns
 obtain⟨t',σ6,D',ob,rs,qs,e6,F6,T6⟩:=loop_run (f:=fun _=>none) (x1:=l1) (x2:=σ1.length) w5 ntw T5 (cl 1 rfl (by decide)) (cl 2 rfl (by decide)) (cl 3 rfl (by decide)) hf (ne (by decide)) (ne (by decide)) (el 0 (by decide))
 have w6:=F6 _ _ ntw w5
 have p7:σ6 <+: σ6++[.list []]:=pre_app
 have c6 (k:Nat) (h:(tail8 L (calls ns))[k]? = some (.list ((every k (calls ns)).map .str))) (hk:k<4):Strs (σ6++[.list []]) (L+k) (every k (calls ns))∧L+k≠σ6.length∧(every k (calls ns)).length≤20:=
  let c:=(cl k h hk).fx F6 hd
  ⟨c.s.mono p7,Nat.ne_of_lt (lt_of c.s.1),Nat.le_trans c.l (by decide)⟩
 refine xE23 (allL (n:=19) (f:=fun i=>(([]:List (Nat×Nat)).lookup i).bind fun _=>none) (acc:=σ6.length) (zs:=[]) (ρ:=fun _=>none) w6 (Nat.ne_of_lt (lt_of w6)) (ts:=[(L+1,every 1 (calls ns)),(L+2,every 2 (calls ns)),(L+3,every 3 (calls ns))]) (getElem?_pre p7 w6) ⟨c6 1 rfl (by decide),c6 2 rfl (by decide),c6 3 rfl (by decide),trivial⟩ app_z (Nat.le_of_ble_eq_true rfl)) fun ρ8 σ8 e8 F8 g8=>?_
 refine k2 ?_
 rw [show []++([(L+1,every 1 (calls ns)),(L+2,every 2 (calls ns)),(L+3,every 3 (calls ns))]:List (Nat×List Str)).flatMap (fun p=>uq p.2)=uq (every 1 (calls ns))++uq (every 2 (calls ns))++uq (every 3 (calls ns))from (congrArg (fun l=>uq (every 1 (calls ns))++(uq (every 2 (calls ns))++l)) (List.append_nil _)).trans (List.append_assoc ..).symm]at g8
 have F68 {i:Nat}{o:AO} (h:σ6[i]? = some o):σ8[i]? = some o:=F8 _ _ (Nat.ne_of_lt (lt_of h)) (getElem?_pre p7 h)
 have nI {i:Nat} (h:i<L):¬ TX ⟨L+5,b,m,d,L,L+7,L+6⟩ i:=fun e=>e.elim (nT1 (Nat.lt_trans h (lt 0 (by decide))) (Nat.ne_of_lt (Nat.lt_of_lt_of_le h (Nat.le_add_right _ _))) hd) fun e=>e.elim (Nat.ne_of_lt (Nat.lt_of_lt_of_le h (Nat.le_add_right _ _))) (Nat.ne_of_lt (Nat.lt_of_lt_of_le h (Nat.le_add_right _ _)))
 have out {i:Nat}{o:AO} (hi:i<L) (h:σ4[i]? = some o):σ8[i]? = some o:=F68 (F6 _ _ (nI hi) (F5 _ _ (Nat.ne_of_lt (Nat.lt_of_lt_of_le (Nat.lt_trans hi (lt 0 (by decide))) (Nat.le_trans (Nat.le_add_right _ _) hd))) h))
 have L0:0<L:=Nat.lt_of_lt_of_le (Nat.le_of_ble_eq_true rfl) hL
 exact⟨σ8,.fn f358 (run0 9 rfl rfl (.inl rfl) (.cons q1 (.cons q2 (.cons q3 (.cons (Ex.setE e4 rfl) (.cons (.expr (.minst (.p rfl) (.cons (.p rfl) .nil) m4 d4 rfl rfl (fun P=>by kernel_rfl) c5))
  (.cons (.for (.p rfl) (items_l w5) e6) (.stop (fun e=>nomatch e) (.ret (.go (op:=.And) (.cmp (.p rfl) (.p rfl) (told_due T6.ht T6.hl T6.like)) rfl rfl (.cmp (.p rfl) (.comp (.p rfl) (items_l w6) rfl e8) (asked_eq (F68 T6.S.ha) g8)))))))))))),
  out L0 (F4 _ _ (fun e=>e.elim (fun e=>nomatch e) (Nat.ne_of_lt (Nat.lt_of_lt_of_le L0 (Nat.le_add_right _ _)))) (getElem?_pre p03 rfl)),c,out (Nat.lt_of_lt_of_le (Nat.le_of_ble_eq_true rfl) hL) tb⟩
end Mine
end
section
open PySem PySem.W PyProof.Rows PySem.Calls PySem.SeqAt
set_option maxRecDepth 100000
set_option linter.unusedVariables false
set_option autoImplicit false
namespace Mine
noncomputable def base0 (h:Heap):Base:=⟨fun b=>if b=317∨b=359 then none else h.get? b,fun _=>False⟩
theorem base0_at {h:Heap}{b:Addr} (h1:b≠317) (h2:b≠359):base0 h b=h.get? b:=by
 show(if b=317∨b=359 then none else h.get? b)=_
 rw [if_neg (by rintro(q | q) <;> contradiction)]
theorem ints_vr {vs:List Value}{ns:List Int} (h:IntsAre vs ns):∀ α,VRs α (ns.map .int) vs:=by
 induction h with
 | nil=>exact fun α=>.nil
 | cons n t _ ih=>exact fun α=>.cons (.int n t) (ih α)
theorem k_lt (P:Params):((K P).map (·.1)).all (fun a=>a != 359)=true:=by kernel_rfl
theorem lookup_filter {β:Type}{q:Addr→Bool}:∀ {l:List (Addr×β)}{a:Addr}{o:β},(l.filter fun p=>q p.1).lookup a=some o→l.lookup a=some o∧q a=true
 | [],a,o,h=>by simp at h
 | p :: l,a,o,h=>by
  rw [List.filter_cons]at h
  rw [List.lookup_cons]
  by_cases hq:q p.1=true
  ·rw [if_pos hq,List.lookup_cons]at h
   by_cases ha:a=p.1
   ·subst ha
    simp only [beq_self_eq_true]at h ⊢
    exact⟨h,hq⟩
   ·rw [beq_false_of_ne ha]at h ⊢
    exact lookup_filter h
  ·rw [if_neg hq]at h
   refine xE02 (lookup_filter h) fun h1 h2=>?_
   have ha:a≠p.1:=by rintro rfl;exact hq h2
   rw [beq_false_of_ne ha]
   exact⟨h1,h2⟩
theorem kk_of_k {P:Params}{a:Addr}{o:Obj} (h:(KK P).lookup a=some o):(K P).lookup a=some o∧a≠317∧a≠359:=by
 refine xE02 (lookup_filter (q:=fun a=>a != 317) h) fun h1 h2=>?_
 refine⟨h1,by simpa using h2,?_⟩
 have hm:=lookup_mem' h1
 have:=List.all_eq_true.mp (k_lt P) a (List.mem_map.mpr ⟨_,hm,rfl⟩)
 simpa using this
theorem k_317 (P:Params):(K P).lookup 317=some { cls:=.none,data:=.fields #[] }:=by kernel_rfl
theorem law_of (H:PlainLaw):LawOk:=by
 intro w s mg mb mean ns vs KI T hsz hg hl hi hlay hlen
 refine byG fun G3 k3=>?_
 refine xE13 hl fun o9 g9 c9 q1_=>?_
 obtain⟨n9,d9⟩:=q1_
 refine xE13 (H o9 ns hlen) fun σ' hr f0 q2_=>?_
 obtain⟨tb,f1⟩:=q2_
 have G:Gd w (base0 s.heap):=by
  refine⟨fun h hk a o e=>?_,mg,mb,fun h hk=>⟨?_,?_,?_,T.builtins,T.free⟩,?_⟩
  ·refine xE03 (kk_of_k e) fun e1 e2 e3=>?_
   exact hk a o ((base0_at e2 e3).trans (KI a o e1))
  ·refine xE32 T.g fun o es ep g r=>?_
   exact⟨o,es,ep,hk _ _ ((base0_at (by decide) (by decide)).trans g),r⟩
  ·refine xE32 T.b fun o es ep g r=>?_
   exact⟨o,es,ep,hk _ _ ((base0_at (by decide) (by decide)).trans g),r⟩
  ·refine xE12 T.nolimit fun mc q3_ q=>?_
   refine xE32 q3_ fun o es ep g r=>?_
   exact⟨mc,⟨o,es,ep,hk _ _ ((base0_at (by decide) (by decide)).trans g),r⟩,q⟩
  ·refine xE26 T.bmain fun bm ob h1 h2 h3 h4 h5 h6=>?_
   refine⟨bm,ob,h1,h2,(base0_at ?_ ?_).trans h3,h4,h5,h6⟩
   ·rintro rfl
    rw [KI _ _ (k_317 _)]at h3
    cases h3
    cases h4
   ·rintro rfl
    rw [g9]at h3
    cases h3
    rw [d9]at h6
    cases h6
 have g7:s.heap.get? 317=some { cls:=.none,data:=.fields #[] }:=KI _ _ (k_317 _)
 have S:StS w (base0 s.heap) [359,317] [.fix o9 (ns.map .int),.tab true] s.os s:=by
  refine⟨⟨rfl,fun b o e=>?_,fun i ao e=>?_,fun i a e=>?_,by decide,by decide,by rw [hsz];decide⟩,hg,rfl⟩
  ·have e:(if b=317∨b=359 then none else s.heap.get? b)=some o:=e
   split at e
   ·exact nn e
   ·exact e
  ·match i,e with
   | 0,e=>
    cases e
    refine⟨359,o9,rfl,g9,rfl,c9,_,n9,d9,?_⟩
    rw [List.toList_toArray]
    exact ints_vr hi _
   | 1,e=>
    cases e
    exact⟨317,_,rfl,g7,rfl,#[],rfl,fun _=>rfl⟩
   | i+2,e=>simp at e
  ·match i,e with
   | 0,e=>cases e;exact .inl rfl
   | 1,e=>cases e;exact .inl rfl
   | i+2,e=>simp at e
 have r:Room callerA 22:=⟨rfl,by show 1+claimMargin+8 * 22<900;unfold claimMargin;decide,by show 4+40 * 22<9000;decide⟩
 obtain⟨C,_⟩:=hr.run (w:=w) r
 refine k3 ?_
 refine C (base0 s.heap) [359,317] s.os s (.ref 358) [.ref 359] _ G S (.cst _) (.cons (.loc rfl) .nil) fun α' x s' p S' rx=>?_
 cases rx
 refine⟨rfl,⟨fun b o e=>?_,fun b o e=>?_⟩,S'.os,S'.gens⟩
 ·by_cases h1:b=317
  ·subst h1
   refine byG fun G7 k7=>?_
   rw [g7]at e
   cases e
   refine xE24 (S'.rel.obj 1 _ f1) fun a o' q1 q2 q3 q4_=>?_
   obtain⟨vs',rfl,_⟩:=q4_
   have:a=317:=Option.some.inj (q1.symm.trans (getElem?_pre p (show [359,317][1]? = some 317 from rfl)))
   subst this
   obtain⟨oc,vc,file,tf,flags,tg,inF,text,tt,z1,z2,z3,z4,_⟩:=kk_321 w.params
   refine k7 ?_
   have g21:s.heap.get? 321=some oc:=KI _ _ (kk_of_k z1).1
   refine .inr (.inl ⟨Heap.TableAt.isCodeTable (c:=321) (ps:=#[]) ⟨⟨oc,vc,g21,z2,z3,z4⟩,g7⟩,rfl,#[],vs',rfl,?_⟩)
   rw [q2];simp
  ·by_cases h2:b=359
   ·subst h2
    rw [g9]at e
    cases e
    refine xE24 (S'.rel.obj 0 _ f0) fun a o' q1 q2 q5_ _=>?_
    subst q5_
    have:a=359:=Option.some.inj (q1.symm.trans (getElem?_pre p (show [359,317][0]? = some 359 from rfl)))
    subst this
    exact .inl q2
   ·exact .inl (S'.rel.keep b o ((base0_at h1 h2).trans e))
 ·by_cases h1:b=317
  ·subst h1
   refine byG fun G9 k9=>?_
   refine xE23 (S'.rel.obj 1 _ f1) fun a o' q1 q2 _=>?_
   have:a=317:=Option.some.inj (q1.symm.trans (getElem?_pre p (show [359,317][1]? = some 317 from rfl)))
   subst this
   refine k9 ?_
   exact⟨o',q2⟩
  ·by_cases h2:b=359
   ·subst h2
    refine xE23 (S'.rel.obj 0 _ f0) fun a o' q1 q2 _=>?_
    have:a=359:=Option.some.inj (q1.symm.trans (getElem?_pre p (show [359,317][0]? = some 359 from rfl)))
    subst this
    exact⟨o',q2⟩
   ·exact⟨o,S'.rel.keep b o ((base0_at h1 h2).trans e)⟩
end Mine
end
theorem PySem.Challenge.cw_ij0190_01_holds : PySem.Challenge.rw_ij0190_01.Holds :=
 Mine.hold_if (Mine.law_of Mine.plain_law)
