import PyProof.Rows.All
import Wide.All
import OpenK.AllK
import Wide.FinOn
import OpenK.KMake
import Open.Tops
import PySem.Challenge.RW_ku0041_01
open PySem
set_option Elab.async false
set_option maxRecDepth 100000
set_option maxHeartbeats 0
set_option linter.all false
set_option bootstrap.genMatcherCode false
set_option genSizeOf false
set_option genInjectivity false
noncomputable section
namespace Mine
section
open PySem.W PyProof.Rows PySem.Calls PySem.Spec
def aa:=@Nat.le_of_ble_eq_true
def ae:=@wpAny_bind
def ag:=@Nat.le_trans
def ah:=@wpAny_pure
def ai:=@List.length_map
def aj:=@of_decide_eq_true
def ak:=@Nat.le_refl
def ao:=@List.forall_mem_cons
def aq:=@List.getElem?_eq_getElem
def ar:=@List.mem_append_right
def au:=@Bool.false_ne_true
def aw:=@List.prefix_rfl
def ax:=@List.append_assoc
def ay:=@List.size_toArray
def az:=@List.getElem?_eq_some_iff
def aB:=@List.getD_eq_getElem?_getD
def aC:=@List.mem_append_left
def aD:=@Heap.get?_push_of_some
def aF:=@List.all_eq_true
def aG:=@List.mem_map
def aH:=@Nat.lt_trans
def aI:=@List.length_append
def aJ:=@Nat.lt_of_le_of_lt
def aK:=@Nat.le_succ
def aL:=@List.mem_cons
def aM:=@wpAny_holding
def aN:=@List.mem_singleton
def aO:=@List.getElem?_map
def aP:=@Nat.lt_of_lt_of_le
def aQ:=@Nat.le_add_right
def aR:=@decide_eq_true
def aU:=@Int.natCast_nonneg
def aW:=@Nat.ne_of_lt
def a0:=@List.mem_of_getElem?
def a7:=@List.nodup_append
def a8:=@Heap.get?_push_size
def a9:=@of_decide_eq_false
def ba:=@Heap.lt_size
def bb:=@List.getElem?_toArray
def bl:=@Heap.SameBut.update
def bo:=@List.mem_append
abbrev Ol(l a b:Nat):Pos:=⟨l,a,l,b⟩
abbrev Om(l a m b:Nat):Pos:=⟨l,a,m,b⟩
end
theorem i9 {M:Model} {Γ:Ctx} {p:Pos} {t:Sem Fin} {fs:List Frame} {s s':Shared} {e:End} (h:Runs M Γ p t fs s e s'):s.toks<=s'.toks:=by
 induction h with
 |fresh _ ih=>exact ag (aK _) ih
 |done|raise|yield=>exact ak _
 |call _ _ ih1 ih2=>exact ag ih1 ih2
 |resumeFresh _ _ _ _ ih1 ih2=>exact ag ih1 ih2
 |resumeSuspended _ _ _ _ ih1 ih2=>exact ag ih1 ih2
 |segRet _ _ ih1 ih2=>exact ag ih1 ih2
 |segGen _ _ ih1 ih2=>exact ag ih1 ih2
 |segSuspGen _ _ _ _ ih1 ih2=>exact ag ih1 ih2
 |_=>assumption
theorem vK {M:Model} {Γ:Ctx} {p:Pos} {g:Nat} {r:Resume} {s s':Shared} {res:GenResult} (h:Wakes M Γ p g r s res s'):s.toks<=s'.toks:=by
 unfold Wakes at h
 split at h
 ·exact h.elim
 ·split at h
  ·obtain⟨e,s1,hr,_,_,rfl⟩:=h
   have:=i9 hr
   exact this
  ·obtain⟨_,rfl⟩:=h;exact ak _
  ·obtain⟨_,rfl⟩:=h;exact ak _
 ·obtain⟨e,s1,hr,_,_,rfl⟩:=h
  have:=i9 hr
  exact this
 ·obtain⟨_,rfl⟩:=h;exact ak _
 ·obtain⟨_,rfl⟩:=h;exact ak _
theorem ER {α:Type} (M:Model) (Γ:Ctx) (t:Sem α) {Q:α->Pos->Shared->Prop} {E:Value->Pos->Shared->Prop} (p:Pos) (s:Shared) (n:Nat) (hn:n<=s.toks)
  (h:Sem.wp M Γ t (λa p' s'=>n<=s'.toks->Q a p' s') (λe p' s'=>n<=s'.toks->E e p' s') p s):Sem.wp M Γ t Q E p s:=by
 induction t generalizing p s with
 |pure x=>exact h hn
 |raise v=>exact h hn
 |unsupported|finish|yield|fork|await|register=>exact h
 |fresh k ih=>exact ih _ _ _ (ag hn (aK _)) h
 |rule _ k ih|«at» _ k ih|alloc _ k ih|loadIfAlive _ k ih|point _ k ih|ask k ih|os _ _ k ih|handled _ k ih|newGen _ k ih|stack k ih|thread k ih=>exact ih _ _ _ hn h
 |load a _ k ih|genState a k ih=>obtain⟨o,ho,h⟩:=h;exact⟨o,ho,ih _ _ _ hn h⟩
 |update a _ f k ih|choose _ _ k ih=>obtain⟨ha,h⟩:=h;exact⟨ha,ih _ _ _ hn h⟩
 |call c h' g l k ih=>
  obtain⟨r,s',hr,h⟩:=h
  exact⟨r,s',hr,ih r p s' (ag hn (i9 hr)) h⟩
 |resume g r l k ih=>
  obtain⟨res,s',hw,h⟩:=h
  exact⟨res,s',hw,ih _ _ _ (ag hn (vK hw)) h⟩
theorem c9 {α:Type} {M:Model} {A:Around} {t:Sem α} {Q:α->Shared->Prop} {E:Value->Shared->Prop} {s:Shared} (h:wpAny M A t (λa s'=>s.toks<=s'.toks->Q a s') (λe s'=>s.toks<=s'.toks->E e s') s):wpAny M A t Q E s:=
 λΓ p hΓ=>ER M Γ t p s s.toks (ak _) (h Γ p hΓ)
theorem Iv {M:Model} {A:Around} {c:Code} {R:Result->Shared->Prop} {s:Shared} (h:codeAny M A c (λr s'=>s.toks<=s'.toks->R r s') s):codeAny M A c R s:=
 λΓ p h1 h2=>by obtain⟨r,s',hr,h⟩:=h Γ p h1 h2;exact⟨r,s',hr,h (i9 hr)⟩
open PySem.W PyProof.Rows
abbrev pw:=PySem.Challenge.pw_ku0041_01
noncomputable def sa (i:Nat):Stmt:=(pw.main.body[i]?).getD (.Pass default)
noncomputable def sb (i j:Nat):Stmt:=match sa i with
 | .ClassDef _ _ _ b _ _ _ _ _ _ _=>(b[j]?).getD (.Pass default)
 |s=>s
noncomputable abbrev gC:Stmt:=sa 10
noncomputable def B4 (b:List Stmt):Str:=match b with
 | .Expr (.Constant (.str s) _ _) _::_=>s
 |_=>""
noncomputable def docOf:Str:=match gC with
 | .ClassDef _ _ _ b _ _ _ _ _ _ _=>B4 b
 |_=>""
noncomputable def Bs:{l:List Char//docOf=Str.ofString (String.ofList l)}:=⟨_,rfl⟩
noncomputable def xq:List Nat:=Bs.1.map Char.toNat
abbrev vN:Value:=.none
noncomputable def vr (n:Nat):Value:=.ref n
noncomputable def vi (n:Int):Value:=.int n 0
noncomputable def vs (s:String) (t:Nat):Value:=.str (Str.ofString s) t
noncomputable def vt (s:String):Value:=.type s
noncomputable def vb (s:String):Value:=.builtin s
noncomputable def oE:Obj:=⟨vt "tuple",none,.seq ⟨[]⟩ 0,⟨[]⟩⟩
noncomputable def oZ:Obj:=⟨vN,none,.fields ⟨[]⟩,⟨[]⟩⟩
noncomputable def oL:Obj:=⟨vt "list",none,.seq ⟨[]⟩ 0,⟨[]⟩⟩
noncomputable def oM (d:Nat):Obj:=⟨vt "module",some d,.plain,⟨[]⟩⟩
noncomputable def oI (c d:Nat):Obj:=⟨vr c,some d,.plain,⟨[]⟩⟩
noncomputable def oR (c l:Nat) (m:Value):Obj:=⟨vt "frame",none,.plain,⟨[some (vr c),some (vr 3),some (vr l),none,some m,none,some (vr 0)]⟩⟩
noncomputable def fO (l:List Value):Obj:=⟨vt "tuple",none,.seq ⟨l⟩ 0,⟨[]⟩⟩
noncomputable def oQ (l:List Value) (n:Nat):Obj:=⟨vN,none,.seq ⟨l⟩ n,⟨[]⟩⟩
noncomputable def KO:List String->Nat->List Value
 |[],_=>[]
 |s::r,t=>vs s t::KO r (t+1)
noncomputable def oN (l:List String) (t:Nat):Obj:=fO (KO l t)
noncomputable def oF (c:Value) (l:List Value):Obj:=⟨c,none,.fields ⟨l⟩,⟨[]⟩⟩
noncomputable def oG (c t:Nat):Obj:=oF (vt "getset_descriptor") [vs "__dict__" t,vr c,vb "function.__dict__",vb "function.__dict__#set"]
noncomputable def oW (c t:Nat):Obj:=oF (vt "getset_descriptor") [vs "__weakref__" t,vr c,vb "ExceptionGroup.__weakref__",vN]
noncomputable def oS (c:Nat):Obj:=oF (vt "super") [vr c,vr c,vr c]
noncomputable def cX (nm q:String) (t l na kw ko fl p t':Nat) (b:Bool) (x y z:Value):Obj:=oF (vt "code") [vs nm t,vs q (t+1),vs "/claim/cut.py" (t+2),vi l,vi na,vi kw,vi ko,vi fl,vr p,.bool b,vi 361,vr (p+1),vN,x,y,z,vi t',vi l,vs "/claim/cut.py" (t'+1)]
noncomputable def cA (nm q:String) (t l na kw ko fl p t':Nat):Obj:=cX nm q t l na kw ko fl p t' true (vr (p+2)) (vr (p+3)) (vr (p+4))
noncomputable def cB (nm q:String) (t l na kw ko fl p t':Nat):Obj:=cX nm q t l na kw ko fl p t' true vN vN (vr (p+2))
noncomputable def cC (nm:String) (t l p t':Nat):Obj:=cX nm nm t l 0 0 0 0 p t' false vN vN vN
noncomputable def fX (s:Stmt) (q:Str->Str) (c:Value) (g:Nat) (cl:List (Str×Addr)) (d k:Value) (dt:Option Nat) (m:Value) (an:Option Addr) (co ct:Value):Obj:=match s with
 | .FunctionDef n a b _ _ _ sc _ _ _=>⟨c,none,.func ⟨n,q n,a,.stmts b,sc,g,cl,d,k,(match dt with|some t=>.str (B4 b) t|none=>.none),m,an,co,ct,0⟩,⟨[]⟩⟩
 |_=>default
noncomputable def fP (s:Stmt) (q:String:=""):Obj:=fX s (match q with|""=>id|q=>λ_=>Str.ofString q) vN 0 [] vN vN none vN none vN vN
noncomputable def fU (s:Stmt) (q:String) (cl:List (Str×Addr)) (d k:Value) (dt:Option Nat) (m:String) (t:Nat) (an:Option Addr) (co:Nat) (ct:Value):Obj:=fX s (λ_=>Str.ofString q) (vt "function") 3 cl d k dt (vs m t) an (vr co) ct
noncomputable def fA (s:Stmt) (q:String) (dt:Option Nat) (m:String) (t co:Nat):Obj:=fU s q [] vN vN dt m t none co vN
noncomputable def fB (s:Stmt) (dt:Option Nat) (m:String) (t co:Nat):Obj:=fX s id (vt "function") 3 [] vN vN dt (vs m t) none (vr co) vN
noncomputable def oC (n:String) (b m:List Value) (ns:Nat) (hd:Bool) (sub:List Value) (sl:Array (Option Value)):Obj:=⟨vt "type",none,.cls {name:=Str.ofString n,bases:=b,mro:=m,ns:=ns,qualname:=Str.ofString n,hasDict:=hd,subclasses:=sub},sl⟩
noncomputable def KL (P:Params):List (String×Nat×Value)->List DictEntry
 |[]=>[]
 |(s,t,v)::r=>⟨PyData.keyHash P (Str.ofString s),vs s t,v⟩::KL P r
noncomputable def oD (P:Params) (c:Value) (l:List (String×Nat×Value)) (n:Nat):Obj:=⟨c,none,.dict ⟨KL P l⟩ n,⟨[]⟩⟩
noncomputable def m3 (P:Params) (k:Nat) (s:String) (t:Nat):Obj:=oD P (vt "dict") (("__name__",165,vs s t)::[("__doc__",166,vN),("__package__",167,vN),("__loader__",168,vb "__main__.__loader__#opaque"),("__spec__",169,vN),("__annotations__",170,vr 6),("__builtins__",171,vr 4),("__file__",173,vs "/claim/cut.py" 172),("__cached__",174,vN),("bisect_left",307,vb "_bisect.bisect_left"),("bisect_right_bisect",310,vb "_bisect.bisect_right"),("heapify",357,vb "_heapq.heapify"),("heapreplace",360,vb "_heapq.heapreplace"),("_wall",373,vr 57),("StatisticsError",393,vr 67),("median_grouped",410,vr 78),("_tuplegetter",469,vr 117),("Match",597,vr 192),("_calculate_ratio",605,vr 202),("SequenceMatcher",801,vr 299),("nlargest",809,vr 309),("get_close_matches",820,vr 315),("insort_right",836,vr 324),("bisect_right",851,vr 333),("bisect_right_bisect2",852,vr 333),("_law_cells",864,vr 340),("_law_text",870,vr 345),("_law_near",876,vr 350),("_law_points",887,vr 357),("_law_best",893,vr 362),("law",899,vr 367)].take (k-1)) k
noncomputable def KN (k:Nat):Obj:=oF vN ([vi 3,vi 0,vr 56,vi 7,vi 0,vr 63,vi 9,vi 0,vr 77,vi 69,vi 0,vr 84,vi 87,vi 0,vr 128,vi 130,vi 0,vr 201,vi 134,vi 0,vr 208,vi 509,vi 0,vr 308,vi 555,vi 0,vr 314,vi 597,vi 0,vr 323,vi 612,vi 0,vr 332,vi 645,vi 0,vr 339,vi 650,vi 0,vr 344,vi 655,vi 0,vr 349,vi 666,vi 0,vr 356,vi 674,vi 0,vr 361,vi 685,vi 0,vr 366].take k)
noncomputable def kE:Obj:=oQ [vi 15,vs "\x06Â\n__module__\x06À\x1a_frozen_\x69mportlib_external\x06Ã\x0f__firstlineno__\x04Á\x00ϩ\x06Ä\x07__doc__\t;_frozen_\x69mportlib_external._LoaderBasics.__doc__:str#opaque\x06Å\nis_package\t:_frozen_\x69mportlib_external._LoaderBasics.is_package#opaque\x06Æ\x0dcreate_module\t=_frozen_\x69mportlib_external._LoaderBasics.create_module#opaque\x06Ç\x0bexec_module\t;_frozen_\x69mportlib_external._LoaderBasics.exec_module#opaque\x06È\x0bload_module\t;_frozen_\x69mportlib_external._LoaderBasics.load_module#opaque\x06É\x15__static_attributes__\x04\x00\x00\x11\x06Ë\x08__dict__\x04\x00\x00\x12\x06Í\x0b__weakref__\x04\x00\x00\x13" 0,.bool true,.bool true,vs "" 206,vi 21,vs "\x06Õ\n__module__\x06Ñ\x1a_frozen_\x69mportlib_external\x06Ö\x0f__firstlineno__\x04Ò\x00Ҙ\x06×\x07__doc__\t8_frozen_\x69mportlib_external.FileLoader.__doc__:str#opaque\x06Ø\x08__init__\t5_frozen_\x69mportlib_external.FileLoader.__init__#opaque\x06Ù\x06__eq__\t3_frozen_\x69mportlib_external.FileLoader.__eq__#opaque\x06Ú\x08__hash__\t5_frozen_\x69mportlib_external.FileLoader.__hash__#opaque\x06Û\x0bload_module\t8_frozen_\x69mportlib_external.FileLoader.load_module#opaque\x06Ü\x0cget_filename\t9_frozen_\x69mportlib_external.FileLoader.get_filename#opaque\x06Ý\x08get_data\t5_frozen_\x69mportlib_external.FileLoader.get_data#opaque\x06Þ\x13get_resource_reader\t@_frozen_\x69mportlib_external.FileLoader.get_resource_reader#opaque\x06ß\x15__static_attributes__\x04\x00\x00\x17\x06á\x08__dict__\x04\x00\x00\x18\x06ã\x0b__weakref__\x04\x00\x00\x19" 0,.bool true,.bool true,vs "" 228,vi 26,vs "\x06ê\n__module__\x06æ\x1a_frozen_\x69mportlib_external\x06ë\x0f__firstlineno__\x04ç\x00Ԑ\x06ì\x07__doc__\tA_frozen_\x69mportlib_external.ExtensionFileLoader.__doc__:str#opaque\x06í\x08__init__\t>_frozen_\x69mportlib_external.ExtensionFileLoader.__init__#opaque\x06î\x06__eq__\t<_frozen_\x69mportlib_external.ExtensionFileLoader.__eq__#opaque\x06ï\x08__hash__\t>_frozen_\x69mportlib_external.ExtensionFileLoader.__hash__#opaque\x06ð\x0dcreate_module\tC_frozen_\x69mportlib_external.ExtensionFileLoader.create_module#opaque\x06ñ\x0bexec_module\tA_frozen_\x69mportlib_external.ExtensionFileLoader.exec_module#opaque\x06ò\nis_package\t@_frozen_\x69mportlib_external.ExtensionFileLoader.is_package#opaque\x06ó\x08get_code\t>_frozen_\x69mportlib_external.ExtensionFileLoader.get_code#opaque\x06ô\nget_source\t@_frozen_\x69mportlib_external.ExtensionFileLoader.get_source#opaque\x06õ\x0cget_filename\tB_frozen_\x69mportlib_external.ExtensionFileLoader.get_filename#opaque\x06ö\x15__static_attributes__\x04\x00\x00\x1c" 0,.bool true,.bool true,vs "" 247,vi 32,vs "\x06Č\n__module__\x06Ă\x11_frozen_\x69mportlib\x06č\x0f__firstlineno__\x04ă\x00Ȳ\x06Ď\x07__doc__\t/_frozen_\x69mportlib.ModuleSpec.__doc__:str#opaque\x06ď\x08__init__\t,_frozen_\x69mportlib.ModuleSpec.__init__#opaque\x06Đ\x08__repr__\t,_frozen_\x69mportlib.ModuleSpec.__repr__#opaque\x06đ\x06__eq__\t*_frozen_\x69mportlib.ModuleSpec.__eq__#opaque\x06Ē\x06cached\t*_frozen_\x69mportlib.ModuleSpec.cached#opaque\x06ē\x06parent\t*_frozen_\x69mportlib.ModuleSpec.parent#opaque\x06Ĕ\x0chas_location\t0_frozen_\x69mportlib.ModuleSpec.has_location#opaque\x06ĕ\x15__static_attributes__\x04\x00\x00\"\x06ė\x08__dict__\x04\x00\x00#\x06ę\x0b__weakref__\x04\x00\x00$\x06Ě\x08__hash__\x00" 0,.bool true,.bool true,vs "" 283] 3
noncomputable def objs (P:Params):List Obj:=[
PySem.W.boot_o_0 P,
oD P (vt "dict") [("builtins",162,vr 4),("__main__",163,vr 5),("_bisect",285,vr 13),("_heapq",331,vr 41)] 4,
oD P vN [("\x69mport.loaded._bisect",186,.bool true),("class._frozen_\x69mportlib_external._LoaderBasics",191,vr 16),("watched.\x69mport",207,vr 20),("class._frozen_\x69mportlib_external.FileLoader",208,vr 22),("class._frozen_\x69mportlib_external.ExtensionFileLoader",229,vr 27),("class._frozen_\x69mportlib.ModuleSpec",257,vr 33),("sys.modules.booked-epoch",286,vi 4),("\x69mport.later-laid._bisect",299,.bool true),("watched.library",301,vr 38),("watched.library-objects",0,vs "\x0d)" 0),("\x69mport.loaded._heapq",316,.bool true),("\x69mport.later-laid._heapq",350,.bool true)] 12,
m3 P 31 "law_ku0041_01" 853,
oM 0,
oM 3,
oD P (vt "dict") [] 0,
oE,
oZ,
oF (vt "code") [vs "<module>" 176,vs "<module>" 177,vs "/claim/cut.py" 178,vi 1,vi 0,vi 0,vi 0,vi 0,vr 7,.bool false,vi 175,vr 8,vN,vN,vN,vN,vi 179,vi 1,vs "/claim/cut.py" 180],
oR 9 3 (vs "__main__" 164),
oN ["bisect_left","bisect_right"] 182,
oD P (vt "dict") [("__name__",288,vs "_bisect" 287),("__doc__",289,vb "off-the-table:_bisect.__doc__:shared#opaque"),("__package__",291,vs "" 290),("__loader__",292,vb "off-the-table:_bisect.__loader__:shared#opaque"),("__spec__",293,vb "off-the-table:_bisect.__spec__:shared#opaque"),("bisect_right",294,vb "_bisect.bisect_right"),("insort_right",295,vb "_bisect.insort_right"),("bisect_left",296,vb "_bisect.bisect_left"),("insort_left",297,vb "_bisect.insort_left"),("__file__",298,vs "/nix/store/wj1f56qky4pmjc7l0r6b6l7whnnw7hp6-python3-3.13.15/lib/python3.13/lib-dynload/_bisect.cpython-313-x86_64-linux-gnu.so" 187)] 10,
oM 12,
oD P (vt "dict") [("name",189,vs "_bisect" 188),("path",190,vs "/nix/store/wj1f56qky4pmjc7l0r6b6l7whnnw7hp6-python3-3.13.15/lib/python3.13/lib-dynload/_bisect.cpython-313-x86_64-linux-gnu.so" 187)] 2,
oD P (vt "dict") [("__module__",194,vs "_frozen_\x69mportlib_external" 192),("__firstlineno__",195,.int 1001 193),("__doc__",196,vb "_frozen_\x69mportlib_external._LoaderBasics.__doc__:str#opaque"),("is_package",197,vb "_frozen_\x69mportlib_external._LoaderBasics.is_package#opaque"),("create_module",198,vb "_frozen_\x69mportlib_external._LoaderBasics.create_module#opaque"),("exec_module",199,vb "_frozen_\x69mportlib_external._LoaderBasics.exec_module#opaque"),("load_module",200,vb "_frozen_\x69mportlib_external._LoaderBasics.load_module#opaque"),("__static_attributes__",201,vr 17),("__dict__",203,vr 18),("__weakref__",205,vr 19)] 10,
oC "_LoaderBasics" [vt "object"] [vr 16,vt "object"] 15 true [vr 27] #[],
oE,
oG 16 202,
oW 16 204,
kE,
oD P (vt "dict") [("__module__",213,vs "_frozen_\x69mportlib_external" 209),("__firstlineno__",214,.int 1176 210),("__doc__",215,vb "_frozen_\x69mportlib_external.FileLoader.__doc__:str#opaque"),("__init__",216,vb "_frozen_\x69mportlib_external.FileLoader.__init__#opaque"),("__eq__",217,vb "_frozen_\x69mportlib_external.FileLoader.__eq__#opaque"),("__hash__",218,vb "_frozen_\x69mportlib_external.FileLoader.__hash__#opaque"),("load_module",219,vb "_frozen_\x69mportlib_external.FileLoader.load_module#opaque"),("get_filename",220,vb "_frozen_\x69mportlib_external.FileLoader.get_filename#opaque"),("get_data",221,vb "_frozen_\x69mportlib_external.FileLoader.get_data#opaque"),("get_resource_reader",222,vb "_frozen_\x69mportlib_external.FileLoader.get_resource_reader#opaque"),("__static_attributes__",223,vr 23),("__dict__",225,vr 24),("__weakref__",227,vr 25)] 13,
oC "FileLoader" [vt "object"] [vr 22,vt "object"] 21 true [vr 27] #[],
oN ["name","path"] 211,
oG 22 224,
oW 22 226,
oD P (vt "dict") [("__module__",234,vs "_frozen_\x69mportlib_external" 230),("__firstlineno__",235,.int 1296 231),("__doc__",236,vb "_frozen_\x69mportlib_external.ExtensionFileLoader.__doc__:str#opaque"),("__init__",237,vb "_frozen_\x69mportlib_external.ExtensionFileLoader.__init__#opaque"),("__eq__",238,vb "_frozen_\x69mportlib_external.ExtensionFileLoader.__eq__#opaque"),("__hash__",239,vb "_frozen_\x69mportlib_external.ExtensionFileLoader.__hash__#opaque"),("create_module",240,vb "_frozen_\x69mportlib_external.ExtensionFileLoader.create_module#opaque"),("exec_module",241,vb "_frozen_\x69mportlib_external.ExtensionFileLoader.exec_module#opaque"),("is_package",242,vb "_frozen_\x69mportlib_external.ExtensionFileLoader.is_package#opaque"),("get_code",243,vb "_frozen_\x69mportlib_external.ExtensionFileLoader.get_code#opaque"),("get_source",244,vb "_frozen_\x69mportlib_external.ExtensionFileLoader.get_source#opaque"),("get_filename",245,vb "_frozen_\x69mportlib_external.ExtensionFileLoader.get_filename#opaque"),("__static_attributes__",246,vr 28)] 13,
oC "ExtensionFileLoader" [vr 22,vr 16] [vr 27,vr 22,vr 16,vt "object"] 26 true [] #[],
oN ["name","path"] 232,
oI 27 14,
oL,
oD P (vt "dict") [("name",249,vs "_bisect" 248),("loader",250,vr 29),("origin",251,vs "/nix/store/wj1f56qky4pmjc7l0r6b6l7whnnw7hp6-python3-3.13.15/lib/python3.13/lib-dynload/_bisect.cpython-313-x86_64-linux-gnu.so" 187),("loader_state",252,vN),("submodule_search_locations",253,vN),("_uninitialized_submodules",254,vr 30),("_set_fileattr",255,.bool true),("_cached",256,vN),("_initializing",284,.bool false)] 9,
oD P (vt "dict") [("__module__",268,vs "_frozen_\x69mportlib" 258),("__firstlineno__",269,.int 562 259),("__doc__",270,vb "_frozen_\x69mportlib.ModuleSpec.__doc__:str#opaque"),("__init__",271,vb "_frozen_\x69mportlib.ModuleSpec.__init__#opaque"),("__repr__",272,vb "_frozen_\x69mportlib.ModuleSpec.__repr__#opaque"),("__eq__",273,vb "_frozen_\x69mportlib.ModuleSpec.__eq__#opaque"),("cached",274,vb "_frozen_\x69mportlib.ModuleSpec.cached#opaque"),("parent",275,vb "_frozen_\x69mportlib.ModuleSpec.parent#opaque"),("has_location",276,vb "_frozen_\x69mportlib.ModuleSpec.has_location#opaque"),("__static_attributes__",277,vr 34),("__dict__",279,vr 35),("__weakref__",281,vr 36),("__hash__",282,vN)] 13,
oC "ModuleSpec" [vt "object"] [vr 33,vt "object"] 32 true [] #[],
oN ["_cached","_set_fileattr","_uninitialized_submodules","loader","loader_state","name","origin","submodule_search_locations"] 260,
oG 33 278,
oW 33 280,
oI 33 31,
oQ [vi 12,vs "\x06Ġ\x08__name__\x06ğ\x07_bisect\x06ġ\x07__doc__\t\x1a_bisect.__doc__:str#opaque\x06ģ\x0b__package__\x06Ģ\x00\x06Ĥ\n__loader__\x04\x00\x00\x1d\x06ĥ\x08__spec__\x04\x00\x00%\x06Ħ\x0cbisect_right\t\x14_bisect.bisect_right\x06ħ\x0cinsort_right\t\x14_bisect.insort_right\x06Ĩ\x0bbisect_left\t\x13_bisect.bisect_left\x06ĩ\x0binsort_left\t\x13_bisect.insort_left\x06Ī\x08__file__\x06»~/nix/store/wj1f56qky4pmjc7l0r6b6l7whnnw7hp6-python3-3.13.15/lib/python3.13/lib-dynload/_bisect.cpython-313-x86_64-linux-gnu.so" 0,.bool true,.bool false,vs "_bisect" 300,vi 40,vs "\x06Ŏ\x08__name__\x06ō\x06_heapq\x06ŏ\x07__doc__\t\x19_heapq.__doc__:str#opaque\x06ő\x0b__package__\x06Ő\x00\x06Œ\n__loader__\x04\x00\x00+\x06œ\x08__spec__\x04\x00\x00.\x06Ŕ\x08heappush\t\x0f_heapq.heappush\x06ŕ\x0bheappushpop\t\x12_heapq.heappushpop\x06Ŗ\x07heappop\t\x0e_heapq.heappop\x06ŗ\x0bheapreplace\t\x12_heapq.heapreplace\x06Ř\x07heapify\t\x0e_heapq.heapify\x06ř\x0c_heappop_max\t\x13_heapq._heappop_max\x06Ś\x0c_heapify_max\t\x13_heapq._heapify_max\x06ś\x10_heapreplace_max\t\x17_heapq._heapreplace_max\x06Ŝ\x08__file__\x06Ľ}/nix/store/wj1f56qky4pmjc7l0r6b6l7whnnw7hp6-python3-3.13.15/lib/python3.13/lib-dynload/_heapq.cpython-313-x86_64-linux-gnu.so\x06ŝ\t__about__\t\x1b_heapq.__about__:str#opaque" 0,.bool true,.bool false,vs "_heapq" 351] 1,
oN ["heapify","heapreplace"] 312,
oD P (vt "dict") [("__name__",334,vs "_heapq" 333),("__doc__",335,vb "off-the-table:_heapq.__doc__:shared#opaque"),("__package__",337,vs "" 336),("__loader__",338,vb "off-the-table:_heapq.__loader__:shared#opaque"),("__spec__",339,vb "off-the-table:_heapq.__spec__:shared#opaque"),("heappush",340,vb "_heapq.heappush"),("heappushpop",341,vb "_heapq.heappushpop"),("heappop",342,vb "_heapq.heappop"),("heapreplace",343,vb "_heapq.heapreplace"),("heapify",344,vb "_heapq.heapify"),("_heappop_max",345,vb "_heapq._heappop_max"),("_heapify_max",346,vb "_heapq._heapify_max"),("_heapreplace_max",347,vb "_heapq._heapreplace_max"),("__file__",348,vs "/nix/store/wj1f56qky4pmjc7l0r6b6l7whnnw7hp6-python3-3.13.15/lib/python3.13/lib-dynload/_heapq.cpython-313-x86_64-linux-gnu.so" 317),("__about__",349,vb "off-the-table:_heapq.__about__:shared#opaque")] 15,
oM 40,
oD P (vt "dict") [("name",319,vs "_heapq" 318),("path",320,vs "/nix/store/wj1f56qky4pmjc7l0r6b6l7whnnw7hp6-python3-3.13.15/lib/python3.13/lib-dynload/_heapq.cpython-313-x86_64-linux-gnu.so" 317)] 2,
oI 27 42,
oL,
oD P (vt "dict") [("name",322,vs "_heapq" 321),("loader",323,vr 43),("origin",324,vs "/nix/store/wj1f56qky4pmjc7l0r6b6l7whnnw7hp6-python3-3.13.15/lib/python3.13/lib-dynload/_heapq.cpython-313-x86_64-linux-gnu.so" 317),("loader_state",325,vN),("submodule_search_locations",326,vN),("_uninitialized_submodules",327,vr 44),("_set_fileattr",328,.bool true),("_cached",329,vN),("_initializing",330,.bool false)] 9,
oI 33 45,
oE,
KN 51,
oF (vt "code") [vs "<module>" 362,vs "<module>" 363,vs "/claim/cut.py" 364,vi 1,vi 0,vi 0,vi 0,vi 0,vr 47,.bool false,vi 361,vr 48,vN,vN,vN,vN,vi 365,vi 1,vs "/claim/cut.py" 366],
oR 49 3 (vs "__main__" 164),
oE,
oZ,
oN ["k"] 370,
oE,
fP (sa 2),
cA "_wall" "_wall" 367 3 1 0 0 3 51 371,
fB (sa 2) none "__main__" 164 56,
fO [vt "ValueError"],
oF (vt "builtin_function_or_method") [vb "type.__prepare__",vt "type"],
oD P (vt "dict") [("__module__",383,vs "cpy313.statistics" 374),("__qualname__",385,vs "StatisticsError" 384),("__firstlineno__",387,.int 7 386),("__static_attributes__",388,vr 65)] 4,
oE,
oZ,
cC "StatisticsError" 378 7 61 381,
oR 63 60 (vs "cpy313.statistics" 374),
oE,
oD P (vt "dict") [("__module__",383,vs "cpy313.statistics" 374),("__firstlineno__",387,.int 7 386),("__static_attributes__",388,vr 65),("__weakref__",390,vr 68),("__doc__",391,vN)] 3,
oC "StatisticsError" [vt "ValueError"] [vr 67,vt "ValueError",vt "Exception",vt "BaseException",vt "object"] 66 true [] #[some (vr 58),none,some (vs "StatisticsError" 376),some (vs "StatisticsError" 384),some (vb "ValueError.__new__"),some (.bool true)],
oW 67 389,
oS 67,
oF (vt "builtin_function_or_method") [vb "object.__init_subclass__",vr 67],
fO [.float 4607182418800017408 394],
oE,
oZ,
oN ["data","interval","n","x","i","j","L","cf","f"] 398,
oE,
fP (sa 5),
cA "median_grouped" "median_grouped" 395 9 2 0 0 3 72 407,
fU (sa 5) "median_grouped" [] (vr 71) vN (some 409) "cpy313.statistics" 374 none 77 vN,
oE,
oF (vt "builtin_function_or_method") [vb "type.__prepare__",vt "type"],
oD P (vt "dict") [("__module__",420,vs "cpy313.difflib" 411),("__qualname__",422,vs "_tuplegetter" 421),("__firstlineno__",424,.int 69 423),("__init__",433,vr 92),("__get__",442,vr 100),("__set__",451,vr 107),("__delete__",459,vr 114),("__static_attributes__",462,vr 115)] 8,
oE,
oF vN [vi 71,vi 4,vr 91,vi 75,vi 4,vr 99,vi 82,vi 4,vr 106,vi 85,vi 4,vr 113],
cC "_tuplegetter" 415 69 82 418,
oR 84 81 (vs "cpy313.difflib" 411),
oE,
oZ,
oN ["self","index","doc"] 428,
oE,
fP (sb 7 0) "_tuplegetter.__init__",
cA "__init__" "_tuplegetter.__init__" 425 71 3 0 0 3 86 431,
fA (sb 7 0) "_tuplegetter.__init__" none "cpy313.difflib" 411 91,
fO [vN],
oE,
oZ,
oN ["self","obj","objtype"] 437,
oE,
fP (sb 7 1) "_tuplegetter.__get__",
cA "__get__" "_tuplegetter.__get__" 434 75 3 0 0 3 94 440,
fU (sb 7 1) "_tuplegetter.__get__" [] (vr 93) vN none "cpy313.difflib" 411 none 99 vN,
oE,
oZ,
oN ["self","obj","value"] 446,
oE,
fP (sb 7 2) "_tuplegetter.__set__",
cA "__set__" "_tuplegetter.__set__" 443 82 3 0 0 3 101 449,
fA (sb 7 2) "_tuplegetter.__set__" none "cpy313.difflib" 411 106,
oE,
oZ,
oN ["self","obj"] 455,
oE,
fP (sb 7 3) "_tuplegetter.__delete__",
cA "__delete__" "_tuplegetter.__delete__" 452 85 2 0 0 3 108 457,
fA (sb 7 3) "_tuplegetter.__delete__" none "cpy313.difflib" 411 113,
oN ["__doc__","index"] 460,
oD P (vt "dict") [("__module__",420,vs "cpy313.difflib" 411),("__firstlineno__",424,.int 69 423),("__init__",433,vr 92),("__get__",442,vr 100),("__set__",451,vr 107),("__delete__",459,vr 114),("__static_attributes__",462,vr 115),("__dict__",464,vr 118),("__weakref__",466,vr 119),("__doc__",467,vN)] 4,
oC "_tuplegetter" [vt "object"] [vr 117,vt "object"] 116 true [] #[none,none,some (vs "_tuplegetter" 413),some (vs "_tuplegetter" 421),some (vb "object.__new__"),some (.bool true)],
oG 117 463,
oW 117 465,
oS 117,
oF (vt "builtin_function_or_method") [vb "object.__init_subclass__",vr 117],
fO [vt "tuple"],
oF (vt "builtin_function_or_method") [vb "type.__prepare__",vt "type"],
oD P (vt "dict") [("__module__",477,vs "cpy313.difflib" 411),("__qualname__",479,vs "Match" 478),("__firstlineno__",481,.int 87 480),("__doc__",483,vs "Match(a, b, size)" 482),("__slots__",485,vr 130),("_fields",489,vr 131),("_field_defaults",490,vr 132),("__new__",501,vr 139),("_make",523,vr 148),("_replace",534,vr 157),("__replace__",535,vr 157),("__repr__",543,vr 164),("_asdict",550,vr 171),("__getnewargs__",558,vr 178),("__match_args__",562,vr 179),("a",572,vr 181),("b",582,vr 184),("size",592,vr 187),("__static_attributes__",593,vr 189),("__classcell__",594,vr 125)] 20,
⟨vt "cell",none,.cell (some (vr 192)),#[]⟩,
oE,
oF vN [vi 93,vi 4,vr 138,vi 98,vi 4,vr 145,vi 105,vi 4,vr 156,vi 116,vi 4,vr 163,vi 120,vi 4,vr 170,vi 123,vi 4,vr 177],
cC "Match" 472 87 126 475,
oR 128 124 (vs "cpy313.difflib" 411),
oE,
oN ["a","b","size"] 486,
oD P (vt "dict") [] 0,
oE,
oZ,
oN ["_cls","a","b","size"] 494,
oE,
fP (sb 8 4) "Match.__new__",
cA "__new__" "Match.__new__" 491 93 4 0 0 3 133 498,
fA (sb 8 4) "Match.__new__" (some 500) "cpy313.difflib" 411 138,
oE,
oZ,
oN ["cls","iterable","result"] 505,
oE,
fP (sb 8 5) "Match._make",
cA "_make" "Match._make" 502 97 2 0 0 3 140 508,
fU (sb 8 5) "Match._make" [] vN vN (some 510) "cpy313.difflib" 411 (some 149) 145 vN,
oD P (vt "dict") [("__module__",512,vs "cpy313.difflib" 411),("__name__",515,vs "_make" 514),("__qualname__",518,vs "Match._make" 517),("__doc__",520,vs "Make a new Match object from a sequence or iterable" 510),("__annotations__",522,vr 149)] 5,
⟨vt "classmethod",some 147,.fields ⟨[vr 146,.bool false]⟩,#[]⟩,
oD P (vt "dict") [] 0,
fO [vr 125],
oN ["__class__"] 527,
oZ,
oN ["self","kwds","result"] 528,
oE,
fP (sb 8 6) "Match._replace",
cA "_replace" "Match._replace" 524 105 1 1 0 11 151 531,
fU (sb 8 6) "Match._replace" [(Str.ofString "__class__",125)] vN vN (some 533) "cpy313.difflib" 411 none 156 (vr 150),
oE,
oZ,
oN ["self"] 539,
oE,
fP (sb 8 8) "Match.__repr__",
cA "__repr__" "Match.__repr__" 536 116 1 0 0 3 158 540,
fA (sb 8 8) "Match.__repr__" (some 542) "cpy313.difflib" 411 163,
oE,
oZ,
oN ["self"] 547,
oE,
fP (sb 8 9) "Match._asdict",
cA "_asdict" "Match._asdict" 544 120 1 0 0 3 165 548,
fA (sb 8 9) "Match._asdict" none "cpy313.difflib" 411 170,
oE,
oZ,
oN ["self"] 554,
oE,
fP (sb 8 10) "Match.__getnewargs__",
cA "__getnewargs__" "Match.__getnewargs__" 551 123 1 0 0 3 172 555,
fA (sb 8 10) "Match.__getnewargs__" (some 557) "cpy313.difflib" 411 177,
oN ["a","b","size"] 559,
oD P (vt "dict") [("index",569,.int 0 563),("__doc__",571,vs "Alias for field number 0" 564)] 2,
oI 117 180,
oD P (vt "frame") [("self",565,vr 181),("index",566,.int 0 563),("doc",567,vs "Alias for field number 0" 564)] 3,
oD P (vt "dict") [("index",579,.int 1 573),("__doc__",581,vs "Alias for field number 1" 574)] 2,
oI 117 183,
oD P (vt "frame") [("self",575,vr 184),("index",576,.int 1 573),("doc",577,vs "Alias for field number 1" 574)] 3,
oD P (vt "dict") [("index",589,.int 2 583),("__doc__",591,vs "Alias for field number 2" 584)] 2,
oI 117 186,
oD P (vt "frame") [("self",585,vr 187),("index",586,.int 2 583),("doc",587,vs "Alias for field number 2" 584)] 3,
oE,
oL,
oD P (vt "dict") [("__module__",477,vs "cpy313.difflib" 411),("__firstlineno__",481,.int 87 480),("__doc__",483,vs "Match(a, b, size)" 482),("__slots__",485,vr 130),("_fields",489,vr 131),("_field_defaults",490,vr 132),("__new__",501,vr 193),("_make",523,vr 148),("_replace",534,vr 157),("__replace__",535,vr 157),("__repr__",543,vr 164),("_asdict",550,vr 171),("__getnewargs__",558,vr 178),("__match_args__",562,vr 179),("a",572,vr 181),("b",582,vr 184),("size",592,vr 187),("__static_attributes__",593,vr 189)] 2,
oC "Match" [vt "tuple"] [vr 192,vt "tuple",vt "object"] 191 false [] #[some (vr 122),none,some (vs "Match" 470),some (vs "Match" 478),some vN,some (.bool false)],
oF (vt "staticmethod") [vr 139],
oS 192,
oF (vt "builtin_function_or_method") [vb "object.__init_subclass__",vr 192],
oE,
oZ,
oN ["matches","length"] 601,
oE,
fP (sa 9),
cA "_calculate_ratio" "_calculate_ratio" 598 130 2 0 0 3 196 603,
fB (sa 9) none "cpy313.difflib" 411 201,
oE,
oF (vt "builtin_function_or_method") [vb "type.__prepare__",vt "type"],
oD P (vt "dict") [("__module__",613,vs "cpy313.difflib" 411),("__qualname__",615,vs "SequenceMatcher" 614),("__firstlineno__",617,.int 134 616),("__doc__",619,.str ⟨⟨xq⟩⟩ 618),("__init__",634,vr 217),("set_seqs",644,vr 224),("set_seq1",653,vr 231),("set_seq2",662,vr 238),("_SequenceMatcher__chain_b",680,vr 245),("find_longest_match",708,vr 253),("get_matching_blocks",735,vr 260),("get_opcodes",742,vr 267),("get_grouped_opcodes",751,vr 275),("ratio",760,vr 282),("quick_ratio",774,vr 289),("real_quick_ratio",784,vr 296),("__static_attributes__",795,vr 297)] 17,
oE,
oF vN [vi 209,vi 4,vr 216,vi 237,vi 4,vr 223,vi 248,vi 4,vr 230,vi 273,vi 4,vr 237,vi 300,vi 4,vr 244,vi 324,vi 4,vr 252,vi 399,vi 4,vr 259,vi 447,vi 4,vr 266,vi 450,vi 4,vr 274,vi 453,vi 4,vr 281,vi 477,vi 4,vr 288,vi 500,vi 4,vr 295],
cC "SequenceMatcher" 608 134 206 611,
oR 208 205 (vs "cpy313.difflib" 411),
fO [vN,vs "" 621,vs "" 622,.bool true],
oE,
oZ,
oN ["self","isjunk","a","b","autojunk"] 626,
oE,
fP (sb 10 1) "SequenceMatcher.__init__",
cA "__init__" "SequenceMatcher.__init__" 623 209 5 0 0 3 211 631,
fU (sb 10 1) "SequenceMatcher.__init__" [] (vr 210) vN (some 633) "cpy313.difflib" 411 none 216 vN,
oE,
oZ,
oN ["self","a","b"] 638,
oE,
fP (sb 10 2) "SequenceMatcher.set_seqs",
cA "set_seqs" "SequenceMatcher.set_seqs" 635 237 3 0 0 3 218 641,
fA (sb 10 2) "SequenceMatcher.set_seqs" (some 643) "cpy313.difflib" 411 223,
oE,
oZ,
oN ["self","a"] 648,
oE,
fP (sb 10 3) "SequenceMatcher.set_seq1",
cA "set_seq1" "SequenceMatcher.set_seq1" 645 248 2 0 0 3 225 650,
fA (sb 10 3) "SequenceMatcher.set_seq1" (some 652) "cpy313.difflib" 411 230,
oE,
oZ,
oN ["self","b"] 657,
oE,
fP (sb 10 4) "SequenceMatcher.set_seq2",
cA "set_seq2" "SequenceMatcher.set_seq2" 654 273 2 0 0 3 232 659,
fA (sb 10 4) "SequenceMatcher.set_seq2" (some 661) "cpy313.difflib" 411 237,
oE,
oZ,
oN ["self","b","b2j","i","elt","indices","junk","isjunk","popular","n","ntest","idxs"] 666,
oE,
fP (sb 10 5) "SequenceMatcher.__chain_b",
cA "__chain_b" "SequenceMatcher.__chain_b" 663 300 1 0 0 3 239 678,
fA (sb 10 5) "SequenceMatcher.__chain_b" none "cpy313.difflib" 411 244,
fO [.int 0 681,vN,.int 0 682,vN],
oE,
oZ,
oN ["self","alo","ahi","blo","bhi","a","b","b2j","isbjunk","besti","bestj","bestsize","j2len","nothing","i","j2lenget","newj2len","j","k"] 686,
oE,
fP (sb 10 6) "SequenceMatcher.find_longest_match",
cA "find_longest_match" "SequenceMatcher.find_longest_match" 683 324 5 0 0 3 247 705,
fU (sb 10 6) "SequenceMatcher.find_longest_match" [] (vr 246) vN (some 707) "cpy313.difflib" 411 none 252 vN,
oE,
oZ,
oN ["self","la","lb","queue","matching_blocks","alo","ahi","blo","bhi","i","j","k","x","i1","j1","k1","non_adjacent","i2","j2","k2"] 712,
oE,
fP (sb 10 7) "SequenceMatcher.get_matching_blocks",
cA "get_matching_blocks" "SequenceMatcher.get_matching_blocks" 709 399 1 0 0 3 254 732,
fA (sb 10 7) "SequenceMatcher.get_matching_blocks" (some 734) "cpy313.difflib" 411 259,
oE,
oZ,
oN ["self"] 739,
oE,
fP (sb 10 8) "SequenceMatcher.get_opcodes",
cA "get_opcodes" "SequenceMatcher.get_opcodes" 736 447 1 0 0 3 261 740,
fA (sb 10 8) "SequenceMatcher.get_opcodes" none "cpy313.difflib" 411 266,
fO [.int 3 743],
oE,
oZ,
oN ["self","n"] 747,
oE,
fP (sb 10 9) "SequenceMatcher.get_grouped_opcodes",
cA "get_grouped_opcodes" "SequenceMatcher.get_grouped_opcodes" 744 450 2 0 0 3 269 749,
fU (sb 10 9) "SequenceMatcher.get_grouped_opcodes" [] (vr 268) vN none "cpy313.difflib" 411 none 274 vN,
oE,
oZ,
oN ["self","matches"] 755,
oE,
fP (sb 10 10) "SequenceMatcher.ratio",
cA "ratio" "SequenceMatcher.ratio" 752 453 1 0 0 3 276 757,
fA (sb 10 10) "SequenceMatcher.ratio" (some 759) "cpy313.difflib" 411 281,
oE,
oZ,
oN ["self","fullbcount","elt","avail","availhas","matches","numb"] 764,
oE,
fP (sb 10 11) "SequenceMatcher.quick_ratio",
cA "quick_ratio" "SequenceMatcher.quick_ratio" 761 477 1 0 0 3 283 771,
fA (sb 10 11) "SequenceMatcher.quick_ratio" (some 773) "cpy313.difflib" 411 288,
oE,
oZ,
oN ["self","la","lb"] 778,
oE,
fP (sb 10 12) "SequenceMatcher.real_quick_ratio",
cA "real_quick_ratio" "SequenceMatcher.real_quick_ratio" 775 500 1 0 0 3 290 781,
fA (sb 10 12) "SequenceMatcher.real_quick_ratio" (some 783) "cpy313.difflib" 411 295,
oN ["a","autojunk","b","b2j","bjunk","bpopular","fullbcount","isjunk","matching_blocks","opcodes"] 785,
oD P (vt "dict") [("__module__",613,vs "cpy313.difflib" 411),("__firstlineno__",617,.int 134 616),("__doc__",619,.str ⟨⟨xq⟩⟩ 618),("__init__",634,vr 217),("set_seqs",644,vr 224),("set_seq1",653,vr 231),("set_seq2",662,vr 238),("_SequenceMatcher__chain_b",680,vr 245),("find_longest_match",708,vr 253),("get_matching_blocks",735,vr 260),("get_opcodes",742,vr 267),("get_grouped_opcodes",751,vr 275),("ratio",760,vr 282),("quick_ratio",774,vr 289),("real_quick_ratio",784,vr 296),("__static_attributes__",795,vr 297),("__dict__",797,vr 300),("__weakref__",799,vr 301)] 3,
oC "SequenceMatcher" [vt "object"] [vr 299,vt "object"] 298 true [] #[none,none,some (vs "SequenceMatcher" 606),some (vs "SequenceMatcher" 614),some (vb "object.__new__"),some (.bool true)],
oG 299 796,
oW 299 798,
oS 299,
oF (vt "builtin_function_or_method") [vb "object.__init_subclass__",vr 299],
fO [vN],
oE,
oZ,
fP (sa 12),
cB "nlargest" "nlargest" 804 509 3 0 0 3 305 807,
fU (sa 12) "nlargest" [] (vr 304) vN none "heapq" 802 none 308 vN,
fO [.int 3 812,.float 4603579539098121011 813],
oE,
oZ,
fP (sa 14),
cB "get_close_matches" "get_close_matches" 814 555 4 0 0 3 311 817,
fU (sa 14) "get_close_matches" [] (vr 310) vN (some 819) "cpy313.difflib" 810 none 314 vN,
fO [.int 0 823,vN],
oD P (vt "dict") [("key",824,vN)] 1,
oE,
oZ,
oN ["a","x","lo","hi","key"] 828,
oE,
fP (sa 16),
cA "insort_right" "insort_right" 825 597 4 0 1 3 318 833,
fU (sa 16) "insort_right" [] (vr 316) (vr 317) (some 835) "cpy313.bisect" 821 none 323 vN,
fO [.int 0 837,vN],
oD P (vt "dict") [("key",838,vN)] 1,
oE,
oZ,
oN ["a","x","lo","hi","key","mid"] 842,
oE,
fP (sa 17),
cA "bisect_right" "bisect_right" 839 612 4 0 1 3 327 848,
fU (sa 17) "bisect_right" [] (vr 325) (vr 326) (some 850) "cpy313.bisect" 821 none 332 vN,
oE,
oZ,
oN ["script","cells","place","number"] 858,
oE,
fP (sa 20),
cA "_law_cells" "_law_cells" 855 645 1 0 0 3 334 862,
fB (sa 20) none "law_ku0041_01" 853 339,
oE,
oZ,
fP (sa 21),
cB "_law_text" "_law_text" 865 650 2 0 0 3 341 868,
fB (sa 21) none "law_ku0041_01" 853 344,
oE,
oZ,
fP (sa 22),
cB "_law_near" "_law_near" 871 655 4 0 0 3 346 874,
fB (sa 22) none "law_ku0041_01" 853 349,
oE,
oZ,
oN ["goods","named","points","good","more"] 880,
oE,
fP (sa 23),
cA "_law_points" "_law_points" 877 666 2 0 0 3 351 885,
fB (sa 23) none "law_ku0041_01" 853 356,
oE,
oZ,
fP (sa 24),
cB "_law_best" "_law_best" 888 674 2 0 0 3 358 891,
fB (sa 24) none "law_ku0041_01" 853 361,
oE,
oZ,
fP (sa 25),
cB "law" "law" 894 685 1 0 0 3 363 897,
fB (sa 25) none "law_ku0041_01" 853 366]
noncomputable def ev:List Obj->List Obj
 |x::_::r=>x::ev r
 |l=>l
noncomputable def br:Nat->List Obj->BT
 |n+1,x::r=>.node x (br n (ev r)) (br n (ev r.tail))
 |_,_=>.nil
noncomputable def Bm (p:Nat->Bool) (l:List Nat):Bool:=@List.rec Nat (λ_=>Bool) false (λa _ ih=>cond (p a) true ih) l
theorem DS (s:Array Nat) (p:Nat->Bool):s.any p=Bm p s.toList:=by
 rw[<-Array.any_toList]
 generalize s.toList=l
 induction l with
 |nil=>rfl
 |cons a l ih=>
  show(p a||l.any p)=cond (p a) true (Bm p l)
  rw[<-ih]
  cases p a<;>rfl
noncomputable def Hr (as:Array Nat) (p:Nat->Bool) (st sp:Nat):Bool:=cond (Nat.beq st 0) (cond (Nat.beq sp as.size) (Bm p as.toList) (as.any p st sp)) (as.any p st sp)
theorem Ep:@Array.any Nat=Hr:=by
 funext as p st sp
 unfold Hr
 cases h1:Nat.beq st 0 with
 |false=>rfl
 |true=>
  cases h2:Nat.beq sp as.size with
  |false=>rfl
  |true=>
   have e1:=Nat.eq_of_beq_eq_true h1
   have e2:=Nat.eq_of_beq_eq_true h2
   subst e1 e2
   exact DS as p
noncomputable def Ie (x:Builtin) (id:String):Option Builtin:=cond (PySem.W.S.eqLit 29827186395103491166823348853 id) (some x) (PySem.W.Fast.tw14364793385576792824 id)
noncomputable def yW (d:Str):Stmt->Stmt
 | .ClassDef n bs ks (.Expr (.Constant (.str _) k q) r::b) ds tps sc ts bd sa pos=>.ClassDef n bs ks (.Expr (.Constant (.str d) k q) r::b) ds tps sc ts bd sa pos
 |s=>s
noncomputable def rV:Stmt:=yW ⟨⟨xq⟩⟩ gC
theorem Av:docOf=⟨⟨xq⟩⟩:=Bs.2.trans (PySem.W.Fast.ofString_ofList Bs.1)
theorem GS:gC=rV:=(show gC=yW docOf gC by kernel_rfl).trans (by rw[Av];rfl)
noncomputable def fE:Env:={scope:=pw.main.scope,locals:=mainNs,globals:=mainNs,cells:=[],code:=.ref 49,frame:=some 50}
abbrev gh:Pos:=(Ol 0 0 0)
abbrev gK:Option Value:=some (.ref 6)
abbrev jq:List Stmt:=behindTheImports pw
noncomputable abbrev gf:Code:=.body jq fE
noncomputable def tr (P:Params) (n k:Nat) (s:String) (t c:Nat):BT:=(br 9 (((objs P).take n).modify 3 λ_=>m3 P k s t)).set 48 λ_=>KN c
noncomputable def zK (P:Params):BT:=tr P 51 13 "__main__" 164 0
noncomputable def xi (P:Params):BT:=tr P 203 19 "cpy313.difflib" 411 18
noncomputable def xm (P:Params):BT:=tr P 304 20 "cpy313.difflib" 411 21
noncomputable def gO (P:Params):BT:=br 9 (objs P)
noncomputable def Iu:List Stmt:=jq.take (jq.length-16)
noncomputable def Io:List Stmt:=(pw.main.body).drop 11
theorem MT (w:World) (p:Program) (b:List Stmt) (os:OsState):
  PySem.W.Fast.tw10110043849684766642 PySem.W.Fast.tw14364793385576792824 p w 47 gK 1 1673 ⟨zK w.params,51,{},⟨[]⟩,{},367,os⟩
   (piecesOf Iu fE (Code.body b fE) gh [topFrame gh])=
  some (.next,⟨xi w.params,203,{},⟨[]⟩,{},606,os⟩,Code.body b fE,(Om 130 0 133 14)):=by
 kernel_rfl
theorem cls (w:World) (p:Program) (b:List Stmt) (os:OsState):
  PySem.W.Fast.tw10110043849684766642 (Ie PySem.W.Fast.tw4202317264376624991) p w 47 gK 1 659 ⟨xi w.params,203,{},⟨[]⟩,{},606,os⟩
   (piecesOf [rV] fE (Code.body b fE) (Om 130 0 133 14) [topFrame gh])=
  some (.next,⟨xm w.params,304,{},⟨[]⟩,{},802,os⟩,Code.body b fE,(Om 134 0 507 53)):=by
 delta PySem.W.Fast.tw4202317264376624991
 rw[Ep]
 kernel_rfl
theorem ME (w:World) (p:Program) (b:List Stmt) (os:OsState):
  PySem.W.Fast.tw10110043849684766642 PySem.W.Fast.tw14364793385576792824 p w 47 gK 1 356 ⟨xm w.params,304,{},⟨[]⟩,{},802,os⟩
   (piecesOf Io fE (Code.body b fE) (Om 134 0 507 53) [topFrame gh])=
  some (.next,⟨gO w.params,368,{},⟨[]⟩,{},900,os⟩,Code.body b fE,(Om 685 0 717 58)):=by
 kernel_rfl
noncomputable def BZ (P:Params):BT:=br 6 (((objs P).take 47).modify 3 λ_=>m3 P 13 "__main__" 164)
def Mv (a b:Str):Bool:=a==b
noncomputable def u7 (l:List (Str×Value)) (o:Obj):Obj:=match o with
 |⟨c,d,.dict es n,sl⟩=>⟨c,d,.dict (es.toList.map λe=>match e.key with
   | .str x _=>(match l.find? λp=>Mv x p.1 with|some p=>{e with val:=p.2}|none=>e)
   |_=>e).toArray n,sl⟩
 |o=>o
noncomputable def hU (o:Obj) (i:Nat):Str:=match o.data with
 | .seq vs _=>(match vs.toList[i]? with|some (.str s _)=>s|_=>⟨⟨[]⟩⟩)
 |_=>⟨⟨[]⟩⟩
noncomputable def Ij:{l:List Char//hU kE 1=Str.ofString (String.ofList l)}:=⟨_,rfl⟩
noncomputable def H3:{l:List Char//hU kE 6=Str.ofString (String.ofList l)}:=⟨_,rfl⟩
noncomputable def BN:{l:List Char//hU kE 11=Str.ofString (String.ofList l)}:=⟨_,rfl⟩
noncomputable def By:{l:List Char//hU kE 16=Str.ofString (String.ofList l)}:=⟨_,rfl⟩
noncomputable def g6 (l:List Char):Str:=⟨⟨l.map Char.toNat⟩⟩
noncomputable def zj (a b c d:Str):Nat->List Value->List Value
 |_,[]=>[]
 |i,v::r=>(match v,i with
  | .str _ t,1=>.str a t
  | .str _ t,6=>.str b t
  | .str _ t,11=>.str c t
  | .str _ t,16=>.str d t
  |v,_=>v)::zj a b c d (i+1) r
noncomputable def FC (a b c d:Str) (o:Obj):Obj:=match o with
 |⟨c',d',.seq vs n,sl⟩=>⟨c',d',.seq (zj a b c d 0 vs.toList).toArray n,sl⟩
 |o=>o
noncomputable def HZ:Obj:=FC (g6 Ij.1) (g6 H3.1) (g6 BN.1) (g6 By.1) kE
theorem Gs:HZ=kE:=by
 unfold HZ
 rw[show g6 Ij.1=hU kE 1 from(Ij.2.trans (PySem.W.Fast.ofString_ofList _)).symm,show g6 H3.1=hU kE 6 from(H3.2.trans (PySem.W.Fast.ofString_ofList _)).symm,
  show g6 BN.1=hU kE 11 from(BN.2.trans (PySem.W.Fast.ofString_ofList _)).symm,show g6 By.1=hU kE 16 from(By.2.trans (PySem.W.Fast.ofString_ofList _)).symm]
 kernel_rfl
noncomputable def treeE (x:Obj) (P:Params):BT:=(((BZ P).set 40 (u7 [("__doc__",vb "_heapq.__doc__:str#opaque"),("__loader__",vr 43),("__spec__",vr 46),("__about__",vb "_heapq.__about__:str#opaque")])).set 12 (u7 [("__doc__",vb "_bisect.__doc__:str#opaque"),("__loader__",vr 29),("__spec__",vr 37)])).set 20 λ_=>x
noncomputable def qY (tb:String->Option Builtin) (p:Program) (w:World):Nat->SharedT->Thread->Option SharedT
 |0,_,_=>none
 |n+1,s,t=>match PySem.W.Fast.tw3805553451399329143 t with
  |some []=>some s
  |some (_::_)=>none
  |none=>match PySem.W.Fast.tw10156331382660048174 (PySem.W.Fast.tw11892475500146522536 tb) p w s t with
   |some (s',t')=>qY tb p w n s' t'
   |none=>none
theorem sq {tb:String->Option Builtin} {p:Program} {w:World}:∀{n:Nat} {s s':SharedT} {t:Thread},qY tb p w n s t=some s'->importEnds tb p w n s.abs t=some s'.abs
 |0,_,_,_,h=>by cases h
 |n+1,s,s',t,h=>by
  unfold qY at h
  rw[<-PySem.W.Fast.te3805553451399329143,<-PySem.W.Fast.te10156331382660048174,<-PySem.W.Fast.te11892475500146522536] at h
  unfold importEnds
  cases he:t.atExitBegin with
  |some x=>rw[he] at h;cases x with
   |nil=>cases h;rfl
   |cons _ _=>cases h
  |none=>
   rw[he] at h
   cases hs:stepT (denote tb) p w s t with
   |none=>rw[hs] at h;cases h
   |some r=>obtain⟨s₂,t₂⟩:=r;rw[hs] at h;dsimp only;rw[stepT_spec hs];exact sq h
theorem N7 (w:World):qY PySem.W.Fast.tw14364793385576792824 (opening pw) w 1337 ⟨.nil,0,{},⟨[]⟩,{},1,(start (opening pw)).1.os⟩ (PySem.W.Fast.tw1435165496053646825 (opening pw)).2=
  some ⟨treeE HZ w.params,47,{},⟨[]⟩,{},361,(start (opening pw)).1.os⟩:=by
 kernel_rfl
noncomputable def H0 (P:Params):Heap:=absHeap (BZ P) 47 {}
noncomputable def He (P:Params):Heap:=absHeap (treeE kE P) 47 {}
theorem Ap (w:World):(λos=>(PySem.W.Fast.tw14289696077712309145 pw ⟨He w.params,⟨[]⟩,{},361,os⟩).map (λs=>(s.heap,s.gens,s.drawn,s.toks)))=λ_=>some (H0 w.params,⟨[]⟩,{},361):=by
 kernel_rfl
theorem FG (w:World):importEnds treeTable (opening pw) w 1337 (start (opening pw)).1 (start (opening pw)).2=some ⟨He w.params,⟨[]⟩,{},361,(start (opening pw)).1.os⟩:=by
 have h:=sq (N7 w)
 rw[<-PySem.W.Fast.te14364793385576792824,<-PySem.W.Fast.te1435165496053646825,Gs] at h
 exact h
theorem E9:∀w:World,(fencedOpening treeTable pw w 5496).map (λs=>(s.heap,s.gens,s.drawn,s.toks))=some (H0 w.params,⟨[]⟩,{},361):=
 open_cut FG (by decide) (λw=>by rw[PySem.W.Fast.te14289696077712309145];exact Ap w)
theorem Fg (w:World):((H0 w.params).isNs mainGlobals&&(⟨[]⟩:Array GenState).size==0,(H0 w.params).objs.size,(H0 w.params).nsMap mainGlobals "__annotations__")=(true,47,some (.ref 6)):=by
 kernel_rfl
theorem Hp (w:World) (os:OsState):topRun treeTable pw w 47 gK 2 ⟨absHeap (gO w.params) 368 {},⟨[]⟩,{},900,os⟩ (restOf [] fE gf (Om 685 0 717 58) [topFrame gh])=
  some ⟨absHeap (gO w.params) 368 {},⟨[]⟩,{},900,os⟩:=by
 kernel_rfl
theorem FQ (w:World) (os:OsState):PySem.W.Fast.tw15667345088766844465 PySem.W.Fast.tw14364793385576792824 pw w 47 gK 12 ⟨H0 w.params,⟨[]⟩,{},361,os⟩ (topStub pw)=
  some (⟨absHeap (zK w.params) 51 {},⟨[]⟩,{},367,os⟩,⟨PySem.W.Fast.tw11892475500146522536 PySem.W.Fast.tw14364793385576792824 gf,gf,gh,[topFrame gh]⟩):=by
 kernel_rfl
theorem Am (w:World) (os:OsState):segRun treeTable pw w 47 gK 1 1 ⟨absHeap (zK w.params) 51 {},⟨[]⟩,{},367,os⟩ (blockOf jq fE gf gh [topFrame gh])=
  some (.next,⟨absHeap (zK w.params) 51 {},⟨[]⟩,{},367,os⟩,gf,gh):=by
 kernel_rfl
theorem Hl:treeTable=Ie PySem.W.Fast.tw4202317264376624991:=by
 funext id
 unfold Ie
 cases h:PySem.W.S.eqLit 29827186395103491166823348853 id with
 |false=>
  show treeTable id=PySem.W.Fast.tw14364793385576792824 id
  rw[<-PySem.W.Fast.te14364793385576792824]
 |true=>
  have e:id="type.__new__":=by
   have h2:=congrFun (PySem.W.S.eqLit_eq "type.__new__" 29827186395103491166823348853 (by kernel_rfl)) id
   rw[h] at h2
   exact beq_iff_eq.mp h2
  subst e
  show treeTable "type.__new__"=some PySem.W.Fast.tw4202317264376624991
  rw[<-PySem.W.Fast.te4202317264376624991]
  kernel_rfl
theorem Ej (w:World) (os:OsState):segRun treeTable pw w 47 gK 1 1673 ⟨absHeap (zK w.params) 51 {},⟨[]⟩,{},367,os⟩ (piecesOf Iu fE gf gh [topFrame gh])=
  some (.next,⟨absHeap (xi w.params) 203 {},⟨[]⟩,{},606,os⟩,gf,(Om 130 0 133 14)):=by
 have h:=segRun_of (tb:=treeTable) (p:=pw) (w:=w) (n₀:=47) (ann:=gK) (b:=1) (n:=1673) (by
  have h:=MT w pw jq os
  rw[<-PySem.W.Fast.te14364793385576792824,<-PySem.W.Fast.te10110043849684766642] at h
  exact h)
 exact h
theorem Bk (w:World) (os:OsState):segRun treeTable pw w 47 gK 1 659 ⟨absHeap (xi w.params) 203 {},⟨[]⟩,{},606,os⟩ (piecesOf [gC] fE gf (Om 130 0 133 14) [topFrame gh])=
  some (.next,⟨absHeap (xm w.params) 304 {},⟨[]⟩,{},802,os⟩,gf,(Om 134 0 507 53)):=by
 have h:=segRun_of (tb:=treeTable) (p:=pw) (w:=w) (n₀:=47) (ann:=gK) (b:=1) (n:=659) (by
  have h:=cls w pw jq os
  rw[<-Hl,<-PySem.W.Fast.te10110043849684766642,<-GS] at h
  exact h)
 exact h
theorem C8 (w:World) (os:OsState):segRun treeTable pw w 47 gK 1 356 ⟨absHeap (xm w.params) 304 {},⟨[]⟩,{},802,os⟩ (piecesOf Io fE gf (Om 134 0 507 53) [topFrame gh])=
  some (.next,⟨absHeap (gO w.params) 368 {},⟨[]⟩,{},900,os⟩,gf,(Om 685 0 717 58)):=by
 have h:=segRun_of (tb:=treeTable) (p:=pw) (w:=w) (n₀:=47) (ann:=gK) (b:=1) (n:=356) (by
  have h:=ME w pw jq os
  rw[<-PySem.W.Fast.te14364793385576792824,<-PySem.W.Fast.te10110043849684766642] at h
  exact h)
 exact h
theorem DU:jq=Iu++([gC]++(Io++[])):=by kernel_rfl
theorem Gv (w:World) (os:OsState):topRun treeTable pw w 47 gK (Nat.add 12 (Nat.add 1 (Nat.add 1673 (Nat.add 659 (Nat.add 356 2))))) ⟨H0 w.params,⟨[]⟩,{},361,os⟩ (topStub pw)=
  some ⟨absHeap (gO w.params) 368 {},⟨[]⟩,{},900,os⟩:=by
 have k3:=piece_app (Ej w os) (piece_app (Bk w os) (piece_app (C8 w os) (Hp w os)))
 have hp:=FQ w os
 rw[<-PySem.W.Fast.te14364793385576792824,<-PySem.W.Fast.te11892475500146522536,<-PySem.W.Fast.te15667345088766844465] at hp
 rw[<-DU] at k3
 exact go_top hp (piece_block (Am w os) k3)
def qv:Program:=view pw [0,1,2,4,7,8,9,10,18,20,21,22,23,24,25]
def lo:List Str:=["median_grouped","_tuplegetter","Match","SequenceMatcher","nlargest","get_close_matches","insort_right","bisect_right","bisect_right_bisect2"]
noncomputable def H1 (P:Params):Heap:=absHeap (gO P) 368 {}
def H5 (s:Shared):Bool:=xlAt qv [] s&&recOk [] s
theorem Iy (w:World):(λos=>(staticsOk (importedModules pw.main.body) (H0 w.params) (H1 w.params)&&namesBound pw (H1 w.params)&&gensDone ⟨H1 w.params,⟨[]⟩,{},900,os⟩&&laidKept (H0 w.params) (H1 w.params)))=λ(_:OsState)=>true:=by
 kernel_rfl
theorem J9 (w:World):(λos=>PySem.W.Fast.tw4187177175401517315 qv lo (importedModules pw.main.body) H5 true ⟨H1 w.params,⟨[]⟩,{},900,os⟩)=λ(_:OsState)=>openGood qv lo:=by
 kernel_rfl
def Il:List Addr:=[2,3,4,51,53,54,56,57,58,65,66,67,68,71,72,74,75,77,78,86,88,89,91,92,93,94,96,97,99,100,101,103,104,106,107,108,110,111,113,114,115,116,117,118,119,122,125,130,131,132,133,135,136,138,139,140,142,143,145,146,147,148,149,150,151,153,154,156,157,158,160,161,163,164,165,167,168,170,171,172,174,175,177,178,179,180,181,183,184,186,187,189,191,192,193,196,198,199,201,202,210,211,213,214,216,217,218,220,221,223,224,225,227,228,230,231,232,234,235,237,238,239,241,242,244,245,246,247,249,250,252,253,254,256,257,259,260,261,263,264,266,267,268,269,271,272,274,275,276,278,279,281,282,283,285,286,288,289,290,292,293,295,296,297,298,299,300,301,304,305,308,309,310,311,314,315,316,317,318,320,321,323,324,325,326,327,329,330,332,333,334,336,337,339,340,341,344,345,346,349,350,351,353,354,356,357,358,361,362,363,366,367]
noncomputable def KM (P:Params):Frag:=Il.map λa=>(a,((objs P)[a]?).getD default)
theorem wz (P:Params):Il=(KM P).map (·.1):=by kernel_rfl
theorem IU (P:Params):Il.map (λa=>(gO P).get a)=(KM P).map (λp=>some p.2):=by kernel_rfl
theorem AD (P:Params):((KM P).all λp=>(match alive p.2 with|some _=>true|none=>false)&&Nat.blt p.1 368)=true:=by kernel_rfl
section
open PySem.Calls PySem.Spec
section
open PySem.W.X
noncomputable abbrev pJ (α:Type):=α->List Obj->Shared->Prop
noncomputable def cv (prog:Program) (w:World) (tb:String->Option Builtin) (stop:Code->Bool):Nat->(∀α:Type,Around->Sem α->pJ α->pJ Value->List Obj->Shared->Prop)×(Around->Code->pJ Result->List Obj->Shared->Prop)
 |0=>(λ_ _ _ _ _ _ _=>False,λ_ _ _ _ _=>False)
 |n+1=>(λ_ A t Q E os s=>match t with
   | .pure a=>Q a os s
   | .raise e=>E e os s
   | .rule _ k=>(cv prog w tb stop n).1 _ A (k ()) Q E os s
   | .at _ k=>(cv prog w tb stop n).1 _ A (k ()) Q E os s
   | .point _ k=>(cv prog w tb stop n).1 _ A (k ()) Q E os s
   | .ask k=>(cv prog w tb stop n).1 _ A (k ⟨prog,w.params⟩) Q E os s
   | .fresh k=>(cv prog w tb stop n).1 _ A (k s.toks) Q E os {s with toks:=s.toks+1}
   | .handled own k=>match own with
    |false=>(cv prog w tb stop n).1 _ A (k A.handled) Q E os s
    |true=>False
   | .load a _ k=>match os with
    |o::os=>s.heap.get? a=some o/\(cv prog w tb stop n).1 _ A (k o) Q E os s
    |[]=>False
   | .update a _ f k=>match os with
    |o::os=>s.heap.get? a=some o/\(cv prog w tb stop n).1 _ A (k ()) Q E os {s with heap:=s.heap.update a f}
    |[]=>False
   | .alloc o k=>(cv prog w tb stop n).1 _ A (k s.heap.objs.size) Q E os {s with heap:=s.heap.push o}
   | .stack k=>∀st,Lies A st->(cv prog w tb stop n).1 _ A (k st) Q E os s
   | .call c hd _ _ k=>cond (okMark hd) ((cv prog w tb stop n).2 (A.mark hd) c (λr os s=>(cv prog w tb stop n).1 _ A (k r) Q E os s) os s) False
   |_=>False,
  λA c R os s=>match stop c with
   |true=>codeAny (model prog w) A c (λr s'=>R r [] s') s
   |false=>(cv prog w tb stop n).1 _ (A.under c) (denote tb c) (λfin os s=>match fin with
    | .done f=>R (.ok f) os s
    | .again c'=>cond c'.quiet ((cv prog w tb stop n).2 A c' R os s) False) (λe os s=>R (.error e) os s) os s)
theorem xR {hd:Option Value} (h:okMark hd=true):hd≠some byPass:=by
 rintro rfl
 simp[okMark] at h
theorem cond_true {b:Bool} {P C:Prop} (h:cond b P False) (k:b=true->P->C):C:=by
 cases b
 ·exact h.elim
 ·exact k rfl h
theorem pU (prog:Program) (w:World) (tb:String->Option Builtin) (htb:tb=table) (stop:Code->Bool) (n:Nat):
  (∀(α:Type) (A:Around) (t:Sem α) (Q:pJ α) (E:pJ Value) (os:List Obj) (s:Shared),(cv prog w tb stop n).1 α A t Q E os s->wpAny (model prog w) A t (λa s'=>∃os',Q a os' s') (λe s'=>∃os',E e os' s') s)/\
  (∀(A:Around) (c:Code) (R:pJ Result) (os:List Obj) (s:Shared),(cv prog w tb stop n).2 A c R os s->codeAny (model prog w) A c (λr s'=>∃os',R r os' s') s):=by
 subst htb
 induction n with
 |zero=>exact⟨λ_ _ _ _ _ _ _ h=>h.elim,λ_ _ _ _ _ h=>h.elim⟩
 |succ n ih=>
  obtain⟨ih1,ih2⟩:=ih
  refine⟨λα A t Q E os s h=>?_,λA c R os s h=>?_⟩
  ·cases t with
   |pure a=>exact ah ⟨os,h⟩
   |raise e=>exact wpAny_throw ⟨os,h⟩
   |rule _ k=>exact x_rule (ih1 _ _ _ _ _ _ _ h)
   |«at» _ k=>exact x_at (ih1 _ _ _ _ _ _ _ h)
   |point _ k=>exact x_point (ih1 _ _ _ _ _ _ _ h)
   |ask k=>exact x_ask (ih1 _ _ _ _ _ _ _ h)
   |fresh k=>exact x_fresh (ih1 _ _ _ _ _ _ _ h)
   |handled own k=>
    cases own with
    |false=>exact x_handled (ih1 _ _ _ _ _ _ _ h)
    |true=>exact h.elim
   |load a q k=>
    cases os with
    |nil=>exact h.elim
    |cons o os=>exact x_load h.1 (ih1 _ _ _ _ _ _ _ h.2)
   |update a q f k=>
    cases os with
    |nil=>exact h.elim
    |cons o os=>exact ae (m:=updatePart a q f) (f:=k) (wpAny_updatePart h.1 (ih1 _ _ _ _ _ _ _ h.2))
   |alloc o k=>exact ae (m:=alloc o) (f:=k) (wpAny_alloc (ih1 _ _ _ _ _ _ _ h))
   |stack k=>exactλΓ p hΓ=>ih1 _ _ _ _ _ _ _ (h ((Γ.code,p)::Γ.below) (lies_of hΓ)) Γ p hΓ
   |call c hd g l k=>exact cond_true (b:=okMark hd) h λhb h=>x_call (codeAny_mono (ih2 _ _ _ _ _ h) λr s' hr=>hr.elim λos' hr=>ih1 _ _ _ _ _ _ _ hr) (xR hb)
   |_=>exact h.elim
  ·replace h:(match stop c with
    |true=>codeAny (model prog w) A c (λr s'=>R r [] s') s
    |false=>(cv prog w table stop n).1 _ (A.under c) (denote table c) (λfin os s=>match fin with
     | .done f=>R (.ok f) os s
     | .again c'=>cond c'.quiet ((cv prog w table stop n).2 A c' R os s) False) (λe os s=>R (.error e) os s) os s):=h
   cases hst:stop c with
   |true=>rw[hst] at h;exact codeAny_mono h λr s' q=>⟨[],q⟩
   |false=>
   rw[hst] at h
   refine x_code (wpAny_mono (ih1 _ _ _ _ _ _ _ h) (λfin s' hf=>hf.elim λos' hf=>?_) λe s' he=>he)
   cases fin with
   |done f=>exact⟨os',hf⟩
   |again c'=>exact cond_true hf λhq hf=>⟨hq,ih2 _ _ _ _ _ hf⟩
theorem gA {prog:Program} {w:World} {α:Type} {A:Around} {t:Sem α} {Q:α->Shared->Prop} {E:Value->Shared->Prop} {s:Shared} (stop:Code->Bool) (n:Nat) (os:List Obj)
  (h:(cv prog w treeTable stop n).1 α A t (λa _ s'=>Q a s') (λe _ s'=>E e s') os s):wpAny (model prog w) A t Q E s:=
 wpAny_mono ((pU prog w treeTable table_eq_tree.symm stop n).1 α A t _ _ os s h) (λ_ _ ⟨_,q⟩=>q) λ_ _ ⟨_,q⟩=>q
theorem jZ {prog:Program} {w:World} {A:Around} {c:Code} {R:Result->Shared->Prop} {s:Shared} (stop:Code->Bool) (n:Nat) (os:List Obj)
  (h:(cv prog w treeTable stop n).2 A c (λr _ s'=>R r s') os s):codeAny (model prog w) A c R s:=
 codeAny_mono ((pU prog w treeTable table_eq_tree.symm stop n).2 A c _ os s h) λ_ _ ⟨_,q⟩=>q
end
abbrev hV:=PySem.Challenge.rw_ku0041_01
noncomputable def n8 (w:World):Prop:=∀(s₀ s₁:Shared) (mg mb:Str->Option Value),Ground qv lo [] (XL qv []) w s₀ mg mb s₁.heap->(∀b o,(H1 w.params).get? b=some o->s₁.heap.get? b=some o)->900<=s₁.toks->s₁.gens=#[]->
 ∀(args:List WData) (vals:List Value) (as:List Addr),hV.row.toRowW.claim.pre args=true->WData.layableAll args=true->Laid [] w s₀ s₁ args vals as->
  wpAny (model pw w) callerA (PySem.call (.ref 367) vals) (λv s'=>GoodWG hV.row.toRowW.claim (classAt s₀.heap) (ExcName.means s₀.heap) args s₁ (.ok (.ret v)) s')
   (λe s'=>GoodWG hV.row.toRowW.claim (classAt s₀.heap) (ExcName.means s₀.heap) args s₁ (.error e) s') s₁
@[irreducible] noncomputable def W0:World:=@Classical.epsilon World ⟨{draws:=λ_ _=>0,params:={strHash:=λ_=>0,shareClass:=λ_=>0,mergeTok:=λt=>t,idOf:=λ_=>0,idOfShared:=λ_ _=>0,followText:=λ_=>false,idOfImm:=λ_=>0}}⟩ λw=>¬n8 w
theorem DG (h:n8 W0) (w:World):n8 w:=Classical.byContradiction λhn=>by
 unfold W0 at h
 exact Classical.epsilon_spec (p:=λw=>¬n8 w) ⟨w,hn⟩ h
noncomputable def K0:Frag:=KM W0.params
noncomputable abbrev MM:Model:=model pw W0
noncomputable def tx (g:List Nat):Str:=⟨g.toArray⟩
inductive AV where
 |none|bool (b:Bool)|int (i:Int)|flt (x:UInt64) (k:Option Tok)|str (g:List Nat) (k:Option Tok)
 |ref (i:Nat)|val (v:Value)|tup (c:Value) (vs:List AV)|ilst (vs:List AV)|rng (a b c:Int)
structure pL where
 params:Arguments
 body:Expr
 scope:Scope
noncomputable abbrev GP:=Addr->Obj->Prop
noncomputable def jo (G:GP) (cd:Value) (q:Str):Prop:=∃(c:Addr) (o:Obj) (vs:Array Value) (t:Tok),cd=.ref c/\G c o/\o.data=.fields vs/\vs[1]? =some (.str q t)
noncomputable def ow (G:GP) (o:Obj) (y:Str) (a:Addr) (d:pL):Prop:=o.cls=.type "function"/\∃fd,o.data=.func fd/\fd.params=d.params/\fd.body=.expr d.body/\fd.scope=d.scope/\fd.globals=mainGlobals/\fd.builtins=builtinsNs/\fd.closure=[(y,a)]/\fd.defaults=.none/\fd.kwdefaults=.none/\jo G fd.code fd.qualname
noncomputable def k9 (G:GP) (q:Option (Pos×Str)) (o:Obj):Prop:=match q with
 |none=>o={cls:=.none,data:=.fields #[]}
 |some p=>∃c:Addr,o={cls:=.none,data:=.fields #[.int p.1.line 0,.int p.1.col 0,.ref c]}/\jo G (.ref c) p.2
section
variable {G G':GP} (hG:∀a o,G a o->G' a o)
include hG
theorem jo.mono {cd:Value} {q:Str} (h:jo G cd q):jo G' cd q:=
 h.imp λ_ h=>h.imp λ_ h=>h.imp λ_ h=>h.imp λ_ h=>h.imp_right (And.imp_left (hG _ _))
theorem ow.mono {o:Obj} {y:Str} {a:Addr} {d:pL} (h:ow G o y a d):ow G' o y a d:=
 h.imp_right λh=>h.imp λ_ h=>h.imp_right (.imp_right (.imp_right (.imp_right (.imp_right (.imp_right (.imp_right (.imp_right (.imp_right (jo.mono hG)))))))))
theorem k9.mono {q:Option (Pos×Str)} {o:Obj}:k9 G q o->k9 G' q o:=
 q.casesOn (λh=>h) λ_ h=>Exists.imp (λ_=>And.imp_right (jo.mono hG)) h
end
inductive AO where
 |list (vs:List AV)
 |dictS (kvs:List (List Nat×AV))
 |dictI (kvs:List (Int×AV))
 |idict (kvs:List (Str×AV))
 |set0
 |inst (c:Addr) (d:Nat)
 |bound (id:String) (self:AV)
 |cell (v:Option AV)
 |liter (l:Nat) (pos:Nat)
 |clo (c:Nat) (y:Str) (d:pL)
 |raw (o:Obj)
structure St where
 loc:List (Option AV)
 hp:List AO
 tk:Nat
noncomputable abbrev dW (c:Value) (xs:Array Value) (n:Nat) (dx:Option Addr:=none):Obj:={cls:=c,dict:=dx,data:=.seq xs n}
mutual
inductive aY (G:GP):List Addr->AV->Value->Prop
 |none {ρ:List Addr}:aY G ρ .none .none
 |bool {ρ:List Addr} (b:Bool):aY G ρ (.bool b) (.bool b)
 |int {ρ:List Addr} (i:Int) (t:Tok):aY G ρ (.int i) (.int i t)
 |flt {ρ:List Addr} (x:UInt64) (t:Tok) (k:Option Tok):(∀u,k=some u->t=u)->aY G ρ (.flt x k) (.float x t)
 |str {ρ:List Addr} (g:List Nat) (t:Tok) (k:Option Tok):(∀u,k=some u->t=u)->aY G ρ (.str g k) (.str (tx g) t)
 |ref {ρ:List Addr} (i:Nat) (a:Addr):ρ[i]? =some a->aY G ρ (.ref i) (.ref a)
 |val {ρ:List Addr} (v:Value):aY G ρ (.val v) v
 |tup {ρ:List Addr} (c:Value) (vs:List AV) (a:Addr) (xs:List Value) (n:Nat) (dx:Option Addr):G a (dW c xs.toArray n dx)->aT G [] vs xs->aY G ρ (.tup c vs) (.ref a)
 |rng {ρ:List Addr} (a b c:Int) (t u v:Tok) (x:Addr):G x {cls:=.type "range",data:=.fields #[.int a t,.int b u,.int c v]}->aY G ρ (.rng a b c) (.ref x)
 |ilst {ρ:List Addr} (vs:List AV) (a:Addr) (xs:List Value) (n:Nat):G a (listOf xs.toArray n)->aT G [] vs xs->aY G ρ (.ilst vs) (.ref a)
inductive aT (G:GP):List Addr->List AV->List Value->Prop
 |nil {ρ:List Addr}:aT G ρ [] []
 |cons {ρ:List Addr} {v:AV} {x:Value} {vs:List AV} {xs:List Value}:aY G ρ v x->aT G ρ vs xs->aT G ρ (v::vs) (x::xs)
end
section
variable {G G':GP} {ρ ρ':List Addr} {v w:AV} {vs ws:List AV} {u:Value} {us xs ys:List Value}
theorem aV {α:Type} {l l':List α} (h:l<+:l') {i:Nat} {a:α} (e:l[i]? =some a):l'[i]? =some a:=by
 obtain⟨t,rfl⟩:=h
 exact(List.getElem?_append_left (az.mp e).1).trans e
theorem aY.mono (hG:∀a o,G a o->G' a o) (d:aY G ρ v u) (h:ρ<+:ρ'):aY G' ρ' v u:=
 aY.rec (motive_1:=λρ v x _=>∀ρ',ρ<+:ρ'->aY G' ρ' v x) (motive_2:=λρ vs xs _=>∀ρ',ρ<+:ρ'->aT G' ρ' vs xs) (λ_ _=>.none) (λb _ _=>.bool b) (λi t _ _=>.int i t) (λx t k h _ _=>.flt x t k h) (λg t k h _ _=>.str g t k h)
  (λi a e _ h=>.ref i a (aV h e)) (λv _ _=>.val v) (λc vs a xs n dx g _ ih _ _=>.tup c vs a xs n dx (hG _ _ g) (ih _ aw)) (λa b c t u v x g _ _=>.rng a b c t u v x (hG _ _ g)) (λvs a xs n g _ ih _ _=>.ilst vs a xs n (hG _ _ g) (ih _ aw)) (λ_ _=>.nil) (λ_ _ i j _ h=>.cons (i _ h) (j _ h)) d ρ' h
@[elab_as_elim] theorem aT.ind {M:(vs:List AV)->(xs:List Value)->Prop} (n:M [] []) (c:∀v x vs xs,aY G ρ v x->M vs xs->M (v::vs) (x::xs)) (d:aT G ρ vs us):M vs us:=
 aT.rec (motive_1:=λ_ _ _ _=>True) (motive_2:=λr vs xs _=>r=ρ->M vs xs) trivial (λ_=>trivial) (λ_ _=>trivial) (λ_ _ _ _=>trivial) (λ_ _ _ _=>trivial) (λ_ _ _=>trivial) (λ_=>trivial) (λ_ _ _ _ _ _ _ _ _=>trivial) (λ_ _ _ _ _ _ _ _=>trivial) (λ_ _ _ _ _ _ _=>trivial) (λ_=>n)
  (λd _ _ ih e=>c _ _ _ _ (e▸d) (ih e)) d rfl
noncomputable def HL (G:GP) (ρ:List Addr) (v:AV) (x:Value):Prop:=match v with
 | .none=>x=.none
 | .bool b=>x=.bool b
 | .int i=>∃t,x=.int i t
 | .flt y k=>∃t,x=.float y t/\∀u,k=some u->t=u
 | .str g k=>∃t,x=.str (tx g) t/\∀u,k=some u->t=u
 | .ref i=>∃a,x=.ref a/\ρ[i]? =some a
 | .val u=>x=u
 | .tup c vs=>∃a xs n dx,x=.ref a/\G a (dW c (List.toArray xs) n dx)/\aT G [] vs xs
 | .rng a b c=>∃t u v y,x=.ref y/\G y {cls:=.type "range",data:=.fields #[.int a t,.int b u,.int c v]}
 | .ilst vs=>∃a xs n,x=.ref a/\G a (listOf (List.toArray xs) n)/\aT G [] vs xs
theorem aY.inv (d:aY G ρ v u):HL G ρ v u:=
 aY.casesOn (motive_1:=λρ v u _=>HL G ρ v u) d rfl (λ_=>rfl) (λ_ t=>⟨t,rfl⟩) (λ_ t _ h=>⟨t,rfl,h⟩) (λ_ t _ h=>⟨t,rfl,h⟩) (λ_ a e=>⟨a,rfl,e⟩) (λ_=>rfl) (λ_ _ a xs n dx g d=>⟨a,xs,n,dx,rfl,g,d⟩) (λ_ _ _ t u v y g=>⟨t,u,v,y,rfl,g⟩) (λ_ a xs n g d=>⟨a,xs,n,rfl,g,d⟩)
noncomputable def BP (G:GP) (ρ:List Addr) (vs:List AV) (us:List Value):Prop:=match vs with
 |[]=>us=[]
 |v::vs=>∃x xs,us=x::xs/\aY G ρ v x/\aT G ρ vs xs
theorem aT.inv (d:aT G ρ vs us):BP G ρ vs us:=
 aT.casesOn (motive_2:=λρ vs us _=>BP G ρ vs us) d rfl λd ds=>⟨_,_,rfl,d,ds⟩
@[elab_as_elim] theorem aY.boolE {b:Bool} (d:aY G ρ (.bool b) u) {X:Value->Prop} (k:X (.bool b)):X u:=d.inv.symm▸k
@[elab_as_elim] theorem aY.noneE (d:aY G ρ .none u) {X:Value->Prop} (k:X .none):X u:=d.inv.symm▸k
@[elab_as_elim] theorem aY.valE {z:Value} (d:aY G ρ (.val z) u) {X:Value->Prop} (k:X z):X u:=d.inv.symm▸k
@[elab_as_elim] theorem aY.intE {i:Int} (d:aY G ρ (.int i) u) {X:Value->Prop} (k:∀t,X (.int i t)):X u:=d.inv.elim λt e=>e.symm▸k t
@[elab_as_elim] theorem aY.fltE {x:UInt64} {q:Option Tok} (d:aY G ρ (.flt x q) u) {X:Value->Prop} (k:∀t,(∀u,q=some u->t=u)->X (.float x t)):X u:=d.inv.elim λt e=>e.1.symm▸k t e.2
@[elab_as_elim] theorem aY.strE {g:List Nat} {q:Option Tok} (d:aY G ρ (.str g q) u) {X:Value->Prop} (k:∀t,(∀u,q=some u->t=u)->X (.str (tx g) t)):X u:=d.inv.elim λt e=>e.1.symm▸k t e.2
@[elab_as_elim] theorem aY.refE {i:Nat} (d:aY G ρ (.ref i) u) {X:Value->Prop} (k:∀a,ρ[i]? =some a->X (.ref a)):X u:=d.inv.elim λt e=>e.1.symm▸k t e.2
@[elab_as_elim] theorem aY.tupE {c:Value} (d:aY G ρ (.tup c vs) u) {X:Value->Prop} (k:∀a xs n dx,G a (dW c (List.toArray xs) n dx)->aT G [] vs xs->X (.ref a)):X u:=d.inv.elim λa e=>e.elim λxs e=>e.elim λn e=>e.elim λdx e=>e.1.symm▸k a xs n dx e.2.1 e.2.2
@[elab_as_elim] theorem aY.ilstE (d:aY G ρ (.ilst vs) u) {X:Value->Prop} (k:∀a xs n,G a (listOf (List.toArray xs) n)->aT G [] vs xs->X (.ref a)):X u:=d.inv.elim λa e=>e.elim λxs e=>e.elim λn e=>e.1.symm▸k a xs n e.2.1 e.2.2
@[elab_as_elim] theorem aY.rngE {a b c:Int} (d:aY G ρ (.rng a b c) u) {X:Value->Prop} (k:∀t u v x,G x {cls:=.type "range",data:=.fields #[.int a t,.int b u,.int c v]}->X (.ref x)):X u:=d.inv.elim λt e=>e.elim λu e=>e.elim λv e=>e.elim λx e=>e.1.symm▸k t u v x e.2
@[elab_as_elim] theorem aT.nilE (d:aT G ρ [] us) {X:List Value->Prop} (k:X []):X us:=d.inv.symm▸k
@[elab_as_elim] theorem aT.consE (d:aT G ρ (v::vs) us) {X:List Value->Prop} (k:∀x xs,aY G ρ v x->aT G ρ vs xs->X (x::xs)):X us:=d.inv.elim λx e=>e.elim λxs e=>e.1.symm▸k x xs e.2.1 e.2.2
@[elab_as_elim] theorem aT.one (d:aT G ρ [v] us) {X:List Value->Prop} (k:∀x,aY G ρ v x->X [x]):X us:=d.consE λx _ d ds=>ds.nilE (k x d)
@[elab_as_elim] theorem aT.two {v2:AV} (d:aT G ρ [v,v2] us) {X:List Value->Prop} (k:∀x y,aY G ρ v x->aY G ρ v2 y->X [x,y]):X us:=d.consE λx _ d ds=>ds.one λy e=>k x y d e
@[elab_as_elim] theorem aT.three {v2 v3:AV} (d:aT G ρ [v,v2,v3] us) {X:List Value->Prop} (k:∀x y z,aY G ρ v x->aY G ρ v2 y->aY G ρ v3 z->X [x,y,z]):X us:=d.consE λx _ d ds=>ds.two λy z e f=>k x y z d e f
theorem aT.mono (hG:∀a o,G a o->G' a o) (d:aT G ρ vs xs) (h:ρ<+:ρ'):aT G' ρ' vs xs:=
 d.ind .nil λ_ _ _ _ d ih=>.cons (d.mono hG h) ih
theorem aT.length (d:aT G ρ vs xs):vs.length=xs.length:=d.ind rfl λ_ _ _ _ _ ih=>congrArg Nat.succ ih
theorem aT.get (d:aT G ρ vs xs):∀{i:Nat} {v:AV},vs[i]? =some v->∃x,xs[i]? =some x/\aY G ρ v x:=by
 refine d.ind (M:=λvs xs=>∀{i:Nat} {v:AV},vs[i]? =some v->∃x,xs[i]? =some x/\aY G ρ v x) (λh=>nomatch h) λ_ x _ _ d ih i _ h=>?_
 cases i with
 |zero=>exact⟨x,rfl,Option.some.inj h▸d⟩
 |succ i=>exact ih h
theorem aT.append (d:aT G ρ vs xs) (e:aT G ρ ws ys):aT G ρ (vs++ws) (xs++ys):=d.ind e λ_ _ _ _ d ih=>.cons d ih
theorem aT.set (d:aT G ρ vs xs) (e:aY G ρ v u):∀{i:Nat},aT G ρ (vs.set i v) (xs.set i u):=by
 induction vs generalizing xs with
 |nil=>exact d.nilE .nil
 |cons _ _ ih=>exactλ{i}=>d.consE λ_ _ d ds=>i.casesOn (.cons e ds) λ_=>.cons d (ih ds)
theorem aT.take (d:aT G ρ vs xs):∀n,aT G ρ (vs.take n) (xs.take n):=
 d.ind (λn=>by rw[List.take_nil,List.take_nil];exact .nil) λ_ _ _ _ d ih n=>n.casesOn .nil λn=>.cons d (ih n)
theorem aT.drop (d:aT G ρ vs xs):∀n,aT G ρ (vs.drop n) (xs.drop n):=by
 induction vs generalizing xs with
 |nil=>exactλn=>d.nilE (by rw[List.drop_nil,List.drop_nil];exact .nil)
 |cons _ _ ih=>exactλn=>d.consE λ_ _ d ds=>n.casesOn (.cons d ds) λn=>ih ds n
theorem aT.reverse (d:aT G ρ vs xs):aT G ρ vs.reverse xs.reverse:=
 d.ind .nil λ_ _ _ _ d ih=>by rw[List.reverse_cons,List.reverse_cons];exact ih.append (.cons d .nil)
theorem aT.isEmpty (d:aT G ρ vs xs):vs.isEmpty=xs.isEmpty:=d.ind rfl λ_ _ _ _ _ _=>rfl
noncomputable def AV.wf (n:Nat):AV->Prop
 | .ref i=>i<n
 |_=>True
theorem j3 {α:Type} {l:List α} {n i:Nat} {a:α} (h:i<n) (e:l[i]? =some a):(l.take n)[i]? =some a:=(List.getElem?_take_of_lt h).trans e
theorem aY.cut {n:Nat} (d:aY G ρ v u):v.wf n->aY G (ρ.take n) v u:=
 aY.casesOn (motive_1:=λρ v u _=>v.wf n->aY G (ρ.take n) v u) d (λ_=>.none) (λb _=>.bool b) (λi t _=>.int i t) (λx t k h _=>.flt x t k h) (λg t k h _=>.str g t k h) (λi a e h=>.ref i a (j3 h e)) (λv _=>.val v)
  (λc vs a xs n dx g d _=>.tup c vs a xs n dx g d) (λa b c t u v x g _=>.rng a b c t u v x g) (λvs a xs n g d _=>.ilst vs a xs n g d)
noncomputable def AV.pure:AV->Bool
 | .ref _=>false
 |_=>true
theorem aY.pure (d:aY G ρ v u):v.pure=true->aY G [] v u:=
 aY.casesOn (motive_1:=λ_ v u _=>v.pure=true->aY G [] v u) d (λ_=>.none) (λb _=>.bool b) (λi t _=>.int i t) (λx t k h _=>.flt x t k h) (λg t k h _=>.str g t k h) (λ_ _ _ h=>absurd h au) (λv _=>.val v)
  (λc vs a xs n dx g d _=>.tup c vs a xs n dx g d) (λa b c t u v x g _=>.rng a b c t u v x g) (λvs a xs n g d _=>.ilst vs a xs n g d)
noncomputable def cz (l:List AV):Bool:=l.all AV.pure
theorem aT.pure (d:aT G ρ vs xs):cz vs=true->aT G [] vs xs:=
 d.ind (λ_=>.nil) λ_ _ _ _ d ih h=>.cons (d.pure (Bool.and_eq_true_iff.mp h).1) (ih (Bool.and_eq_true_iff.mp h).2)
theorem aT.cut {n:Nat} (d:aT G ρ vs xs):(∀v∈vs,v.wf n)->aT G (ρ.take n) vs xs:=
 d.ind (λ_=>.nil) λ_ _ _ _ d ih h=>.cons (d.cut (h _ (.head _))) (ih λv hv=>h v (.tail _ hv))
end
section
variable {κ κ':Type} (f:κ->κ') (G:GP) (ρ:List Addr)
inductive bL:List (κ×AV)->List (κ'×Value)->Prop
 |nil:bL [] []
 |cons {k:κ} {v:AV} {x:Value} {kvs:List (κ×AV)} {xs:List (κ'×Value)}:aY G ρ v x->bL kvs xs->bL ((k,v)::kvs) ((f k,x)::xs)
inductive dM:List (Str×AV)->List DictEntry->Prop
 |nil:dM [] []
 |cons {k:Str} {h:Int} {t:Tok} {v:AV} {x:Value} {kvs:List (Str×AV)} {es:List DictEntry}:aY G ρ v x->dM kvs es->dM ((k,v)::kvs) (⟨h,.str k t,x⟩::es)
end
noncomputable abbrev fa (led:Bool):Obj:={cls:=.type "set",dict:=none,data:=.set #[] 0 (.fresh 0 0 led)}
noncomputable abbrev b7 (id:String) (self:Value):Obj:={cls:=.type "builtin_function_or_method",dict:=none,data:=.fields #[.builtin id,self]}
noncomputable abbrev bz (l:Addr) (pos:Nat):Obj:={cls:=.type "list_iterator",data:=.fields #[.ref l,.int pos 0]}
noncomputable def cP (G:GP) (ρ:List Addr) (v:AO) (o:Obj):Prop:=match v with
 | .list vs=>∃xs n,o=listOf (List.toArray xs) n/\aT G ρ vs xs
 | .dictS kvs=>∃xs,o.IsDictOf (strKind pw W0) xs/\bL tx G ρ kvs xs
 | .dictI kvs=>∃xs,o.IsDictOf (intKind pw W0) xs/\bL id G ρ kvs xs
 | .idict kvs=>∃es n,o=dictOf es n/\dM G ρ kvs es
 | .set0=>∃led,o=fa led
 | .inst c d=>∃a,o=instObj c a/\ρ[d]? =some a
 | .bound id v=>∃x,o=b7 id x/\aY G ρ v x
 | .cell v=>match v with
  |none=>o.data=.cell none
  |some v=>∃x,o.data=.cell (some x)/\aY G ρ v x
 | .liter l pos=>∃a,o=bz a pos/\ρ[l]? =some a
 | .clo c y d=>∃a,ρ[c]? =some a/\ow G o y a d
 | .raw x=>o=x
noncomputable def AO.wf (n:Nat):AO->Prop
 | .list vs=>∀v∈vs,v.wf n
 | .dictS kvs=>∀p∈kvs,p.2.wf n
 | .dictI kvs=>∀p∈kvs,p.2.wf n
 | .idict kvs=>∀p∈kvs,p.2.wf n
 | .inst c d=>d<n
 | .bound id v=>v.wf n
 | .cell v=>∀u,v=some u->u.wf n
 | .liter l p=>l<n
 | .clo c _ _=>c<n
 |_=>True
section
variable {κ κ':Type} {f:κ->κ'} {G G':GP} {ρ ρ':List Addr} {kvs:List (κ×AV)} {xs:List (κ'×Value)} {v:AO} {o:Obj} {kvs':List (Str×AV)} {es:List DictEntry}
theorem bL.imp (d:bL f G ρ kvs xs):(∀p∈kvs,∀u,aY G ρ p.2 u->aY G' ρ' p.2 u)->bL f G' ρ' kvs xs:=by
 induction d with
 |nil=>exactλ_=>.nil
 |cons d _ ih=>exactλh=>.cons (h _ (.head _) _ d) (ih λp hp=>h p (.tail _ hp))
theorem dM.imp (d:dM G ρ kvs' es):(∀p∈kvs',∀u,aY G ρ p.2 u->aY G' ρ' p.2 u)->dM G' ρ' kvs' es:=by
 induction d with
 |nil=>exactλ_=>.nil
 |cons d _ ih=>exactλh=>.cons (h _ (.head _) _ d) (ih λp hp=>h p (.tail _ hp))
theorem bL.mono (hG:∀a o,G a o->G' a o) (h:ρ<+:ρ') (d:bL f G ρ kvs xs):bL f G' ρ' kvs xs:=d.imp λ_ _ _ d=>d.mono hG h
theorem cP.mono (hG:∀a o,G a o->G' a o) (hρ:ρ<+:ρ') (d:cP G ρ v o):cP G' ρ' v o:=by
 cases v with
 |list=>exact d.imp λ_ d=>d.imp λ_ d=>d.imp_right λd=>d.mono hG hρ
 |dictS=>exact d.imp λ_ d=>d.imp_right λd=>d.mono hG hρ
 |dictI=>exact d.imp λ_ d=>d.imp_right λd=>d.mono hG hρ
 |idict=>exact d.imp λ_ d=>d.imp λ_ d=>d.imp_right λd=>d.imp λ_ _ _ d=>d.mono hG hρ
 |set0=>exact d
 |inst=>exact d.imp λ_ d=>d.imp_right (aV hρ)
 |bound=>exact d.imp λ_ d=>d.imp_right λd=>d.mono hG hρ
 |cell v=>cases v with
  |none=>exact d
  |some=>exact d.imp λ_ d=>d.imp_right λd=>d.mono hG hρ
 |liter=>exact d.imp λ_ d=>d.imp_right (aV hρ)
 |clo=>exact d.imp λ_ d=>d.imp (aV hρ) (ow.mono hG)
 |raw=>exact d
theorem cP.cut {n:Nat} (d:cP G ρ v o) (h:v.wf n):cP G (ρ.take n) v o:=by
 cases v with
 |list=>exact d.imp λ_ d=>d.imp λ_ d=>d.imp_right λd=>d.cut h
 |dictS=>exact d.imp λ_ d=>d.imp_right λd=>d.imp λp hp _ d=>d.cut (h p hp)
 |dictI=>exact d.imp λ_ d=>d.imp_right λd=>d.imp λp hp _ d=>d.cut (h p hp)
 |idict=>exact d.imp λ_ d=>d.imp λ_ d=>d.imp_right λd=>d.imp λp hp _ d=>d.cut (h p hp)
 |set0=>exact d
 |inst=>exact d.imp λ_ d=>d.imp_right (j3 h)
 |bound=>exact d.imp λ_ d=>d.imp_right λd=>d.cut h
 |cell v=>cases v with
  |none=>exact d
  |some=>exact d.imp λ_ d=>d.imp_right λd=>d.cut (h _ rfl)
 |liter=>exact d.imp λ_ d=>d.imp_right (j3 h)
 |clo=>exact d.imp λ_ d=>d.imp_left (j3 h)
 |raw=>exact d
theorem bL.names {kvs:List (Str×AV)} {xs:List (Str×Value)} (d:bL (λx=>x) G ρ kvs xs):xs.map (·.1)=kvs.map (·.1):=by
 induction d with
 |nil=>rfl
 |cons _ _ ih=>exact congrArg (_::·) ih
@[elab_as_elim] theorem bL.nilE (d:bL f G ρ [] xs) {X:List (κ'×Value)->Prop} (k:X []):X xs:=
 (bL.casesOn (motive:=λkvs xs _=>kvs=[]->xs=[]) d (λ_=>rfl) (λ_ _ e=>nomatch e) rfl:xs=[]).symm▸k
inductive cq (G:GP) (ρ:List Addr):List AO->List (Addr×Obj)->Prop
 |nil:cq G ρ [] []
 |cons {v:AO} {p:Addr×Obj} {vs:List AO} {T:List (Addr×Obj)}:cP G ρ v p.2->cq G ρ vs T->cq G ρ (v::vs) (p::T)
variable {vs us:List AO} {T U:List (Addr×Obj)} {p:Addr×Obj}
theorem cq.mono (hG:∀a o,G a o->G' a o) (hρ:ρ<+:ρ') (h:cq G ρ vs T):cq G' ρ' vs T:=by
 induction h with
 |nil=>exact .nil
 |cons d _ ih=>exact .cons (d.mono hG hρ) ih
theorem cq.length (h:cq G ρ vs T):vs.length=T.length:=by
 induction h with
 |nil=>rfl
 |cons _ _ ih=>exact congrArg Nat.succ ih
theorem cq.get (h:cq G ρ vs T):∀{i:Nat},vs[i]? =some v->∃p,T[i]? =some p/\cP G ρ v p.2:=by
 induction h with
 |nil=>exactλh=>nomatch h
 |cons d _ ih=>
  intro i h
  cases i with
  |zero=>exact⟨_,rfl,Option.some.inj h▸d⟩
  |succ i=>exact ih h
theorem cq.set (h:cq G ρ vs T) (d:cP G ρ v p.2):∀{i:Nat},cq G ρ (vs.set i v) (T.set i p):=by
 induction h with
 |nil=>exact .nil
 |cons e es ih=>exactλ{i}=>i.casesOn (.cons d es) λ_=>.cons e ih
theorem cq.append (h:cq G ρ vs T) (e:cq G ρ us U):cq G ρ (vs++us) (T++U):=by
 induction h with
 |nil=>exact e
 |cons d _ ih=>exact .cons d ih
theorem cq.cut (h:cq G ρ vs T) {n:Nat}:∀{k:Nat},(∀o∈vs.take k,o.wf n)->cq G (ρ.take n) (vs.take k) (T.take k):=by
 induction h with
 |nil=>exactλ{k} _=>by rw[List.take_nil,List.take_nil];exact .nil
 |cons d _ ih=>exactλ{k}=>k.casesOn (λ_=>.nil) λk h=>.cons (d.cut (h _ (.head _))) (ih λo ho=>h o (.tail _ ho))
end
structure Cx where
 env:Env
 A:Around
 h₀:Heap
 B:GP
 nms:List Str
 cls:List (Str×Nat)
 os:OsState
noncomputable abbrev GI (C:Cx) (I:List (Addr×Obj)):GP:=λa o=>C.B a o∨(a,o)∈I
noncomputable abbrev bg (T:List (Addr×Obj)):List Addr:=T.map (·.1)
noncomputable def nY (c:Addr):Str:=match K0.lookup c with
 |some o=>(match o.data with
  | .fields vs=>(match vs.toList with
   |_::v::_=>(match v with| .str n _=>n++".<locals>."|_=>"")
   |_=>"")
  |_=>"")
 |_=>""
noncomputable def cQ (a:Addr):Pos:=cond (Nat.beq a 277) (Ol 474 22 75) (Ol 701 39 56)
noncomputable def pg:Str:=nY 366++"<lambda>"
noncomputable def gg (G:GP) (a:Addr) (o:Obj):Prop:=∃q:Option (Pos×Str),(∀p,q=some p->p.1=cQ a/\(a=364->p.2=pg))/\k9 G q o
theorem gg.mono {G G':GP} (hG:∀a o,G a o->G' a o) {a:Addr} {o:Obj} (h:gg G a o):gg G' a o:=h.imp λ_ h=>h.imp_right (k9.mono hG)
structure RS (C:Cx) (st:St) where
 m:Str->Option Value
 T:List (Addr×Obj)
 I:List (Addr×Obj)
 V:List (Addr×Obj)
 J:List (Addr×Obj)
 s:Shared
 fr:Fr C.h₀ C.env.locals s.heap m
 nw:News C.h₀ C.env.locals s.heap (T++(I++(V++J)))
 nd:(bg (T++(I++(V++J)))).Nodup
 va:bg V=[277,364]
 vo:∀p∈V,gg (GI C I) p.1 p.2
 bk:∀a o,C.B a o->C.h₀.get? a=some o
 loc:∀(i:Nat) (x:Str) (v:AV),C.nms[i]? =some x->st.loc[i]? =some (some v)->∃u,m x=some u/\aY (GI C I) (bg T) v u
 cel:∀(x:Str) (i:Nat),(x,i)∈C.cls->∃a,(bg T)[i]? =some a/\C.env.cells.lookup x=some a
 hp:cq (GI C I) (bg T) st.hp T
 gb:AllBare s.gens
 os:s.os=C.os
 tk:st.tk<=s.toks
theorem bh {T X:List (Addr×Obj)}:bg (T++X)=bg T++bg X:=List.map_append
theorem bA {l:List (Addr×Obj)} {p:Addr×Obj} (h:p∈l):p.1∈bg l:=List.mem_map_of_mem h
theorem cK {T I V J:List (Addr×Obj)} (h:(bg (T++(I++(V++J)))).Nodup):(bg (T++(I++V))).Nodup/\(bg J).Nodup/\∀b∈bg J,b∉bg (T++(I++V)):=by
 rw[<-ax I,<-ax T,bh] at h
 have z:=a7.mp h
 exact⟨z.1,z.2.1,λb hb h=>z.2.2 b h b hb rfl⟩
section
variable {C:Cx} {st st':St}
noncomputable abbrev RS.X (r:RS C st):List (Addr×Obj):=r.I++(r.V++r.J)
noncomputable abbrev RS.L (r:RS C st):List (Addr×Obj):=r.T++r.X
noncomputable abbrev RS.G (r:RS C st):GP:=GI C r.I
noncomputable abbrev RS.ρ (r:RS C st):List Addr:=bg r.T
noncomputable abbrev RS.D (r:RS C st):AV->Value->Prop:=aY r.G r.ρ
noncomputable abbrev RS.Ds (r:RS C st):List AV->List Value->Prop:=aT r.G r.ρ
structure Le (r:RS C st) (r':RS C st'):Prop where
 pre:r.ρ<+:r'.ρ
 sub:∀p∈r.I,p∈r'.I
 jn:r'.J=r.J
theorem Le.rf {r:RS C st}:Le r r:=⟨aw,λ_ h=>h,rfl⟩
theorem Le.trans {st2:St} {r:RS C st} {r':RS C st'} {r2:RS C st2} (h:Le r r') (k:Le r' r2):Le r r2:=⟨h.pre.trans k.pre,λp hp=>k.sub p (h.sub p hp),k.jn.trans h.jn⟩
theorem Le.G {r:RS C st} {r':RS C st'} (h:Le r r') (a:Addr) (o:Obj) (g:r.G a o):r'.G a o:=g.imp_right (h.sub _)
theorem aY.le {r:RS C st} {r':RS C st'} {v:AV} {u:Value} (d:r.D v u) (h:Le r r'):r'.D v u:=d.mono h.G h.pre
theorem aT.le {r:RS C st} {r':RS C st'} {v:List AV} {u:List Value} (d:r.Ds v u) (h:Le r r'):r'.Ds v u:=d.mono h.G h.pre
variable (r:RS C st)
theorem RS.lt {p:Addr×Obj} (h:p∈r.L):p.1<r.s.heap.objs.size:=ba (r.nw p h).1
theorem RS.gGet {a:Addr} {o:Obj} (g:r.G a o):r.s.heap.get? a=some o:=
 g.elim (λg=>r.fr.keep _ _ (r.bk _ _ g)) λg=>(r.nw _ (ar _ (aC _ g))).1
theorem RS.tAt {i:Nat} {p:Addr×Obj} (h:r.T[i]? =some p):p∈r.L:=aC _ (a0 h)
theorem RS.get {i:Nat} {a:Addr} {o:Obj} (h:r.T[i]? =some (a,o)):r.s.heap.get? a=some o:=(r.nw _ (r.tAt h)).1
theorem bF {T:List (Addr×Obj)} {i:Nat} {p:Addr×Obj} (h:T[i]? =some p):(bg T)[i]? =some p.1:=(aO ..).trans (congrArg _ h)
theorem RS.hlen:st.hp.length=r.T.length:=r.hp.length
theorem RS.atE {i:Nat} {v:AO} (e:st.hp[i]? =some v) {X:Prop} (k:∀a o,r.T[i]? =some (a,o)->cP r.G r.ρ v o->X):X:=(r.hp.get e).elim λp h=>k p.1 p.2 h.1 h.2
theorem RS.refE {i:Nat} {v:AO} {u:Value} (d:r.D (.ref i) u) (e:st.hp[i]? =some v) {X:Value->Prop} (k:∀a o,r.T[i]? =some (a,o)->cP r.G r.ρ v o->X (.ref a)):X u:=
 d.refE λ_ ea=>r.atE e λa o h d=>Option.some.inj ((bF h).symm.trans ea)▸k a o h d
theorem RS.listE {i:Nat} {vs:List AV} {u:Value} (d:r.D (.ref i) u) (e:st.hp[i]? =some (.list vs)) {X:Value->Prop} (k:∀a xs n,r.T[i]? =some (a,listOf (List.toArray xs) n)->r.Ds vs xs->X (.ref a)):X u:=
 r.refE d e λa _ h d=>d.elim λxs d=>d.elim λn d=>k a xs n (d.1▸h) d.2
theorem RS.isList {i:Nat} {a:Addr} {xs:List Value} {n:Nat} (h:r.T[i]? =some (a,listOf xs.toArray n)):r.s.heap.IsList a xs.toArray:=⟨_,r.get h,rfl,n,rfl⟩
@[reducible] noncomputable def RS.re {h':Heap} (F:Fr C.h₀ C.env.locals h' r.m) (N:News C.h₀ C.env.locals h' r.L) (t:Nat) (ht:r.s.toks<=t):RS C st:=
 {r with s:={r.s with heap:=h',toks:=t},fr:=F,nw:=N,tk:=ag r.tk ht}
@[reducible] noncomputable def RS.toks (t:Nat) (ht:r.s.toks<=t):RS C st:=r.re r.fr r.nw t ht
noncomputable abbrev RS.tick:RS C st:=r.toks (r.s.toks+1) (aK _)
@[reducible] noncomputable def RS.tkUp {t:Nat} (h:t<=r.s.toks):RS C {st with tk:=t}:={r with tk:=h}
theorem Fr.keeps {h₀ h h':Heap} {L:Addr} {m:Str->Option Value} (F:Fr h₀ L h m) (k:∀b o,h.get? b=some o->h'.get? b=some o):Fr h₀ L h' m:=⟨F.ns.keeps k,λb o e=>k _ _ (F.keep b o e),F.above⟩
theorem News.keeps {h₀ h h':Heap} {L:Addr} {T:List (Addr×Obj)} (N:News h₀ L h T) (k:∀b o,h.get? b=some o->h'.get? b=some o):News h₀ L h' T:=λp hp=>⟨k _ _ (N p hp).1,(N p hp).2⟩
@[reducible] noncomputable def RS.keeps {h':Heap} (k:∀b o,r.s.heap.get? b=some o->h'.get? b=some o) (t:Nat) (ht:r.s.toks<=t):RS C st:=r.re (Fr.keeps r.fr k) (News.keeps r.nw k) t ht
theorem gy {q:Addr×Obj} {l l':List (Addr×Obj)} (hp:l'.Perm (q::l)) (hn:(bg l).Nodup) (hq:∀p∈l,p.1≠q.1):(bg l').Nodup:=
 ((hp.map _).nodup_iff).mpr (List.nodup_cons.mpr ⟨λh=>(aG.mp h).elim λp h=>hq p h.1 h.2,hn⟩)
theorem iG {h₀ h:Heap} {L:Addr} {q:Addr×Obj} {l l':List (Addr×Obj)} (hp:l'.Perm (q::l)) (N:News h₀ L h (q::l)):News h₀ L h l':=λp h=>N p (hp.mem_iff.mp h)
theorem q7 {q:Addr×Obj} {T X:List (Addr×Obj)}:((T++[q])++X).Perm (q::(T++X)):=by rw[ax];exact List.perm_middle
theorem qZ {q:Addr×Obj} {T I J:List (Addr×Obj)}:(T++(q::I++J)).Perm (q::(T++(I++J))):=List.perm_middle
theorem qO {q:Addr×Obj} {T I V J:List (Addr×Obj)}:(T++(I++(V++q::J))).Perm (q::(T++(I++(V++J)))):=(List.Perm.append_left T ((List.Perm.append_left I List.perm_middle).trans List.perm_middle)).trans List.perm_middle
theorem RS.old {a:Addr} (ha:r.s.heap.objs.size<=a):∀p∈r.L,p.1≠a:=λ_ hp=>aW (aP (r.lt hp) ha)
theorem cI {T:List (Addr×Obj)} {q:Addr×Obj}:bg T<+:bg (T++[q]):=⟨[q.1],(bh (X:=[q])).symm⟩
noncomputable def RS.new {h':Heap} {a:Addr} {o:Obj} {v:AO} (F:Fr C.h₀ C.env.locals h' r.m) (N:News C.h₀ C.env.locals h' ((a,o)::r.L)) (ha:r.s.heap.objs.size<=a) (d:cP r.G (bg (r.T++[(a,o)])) v o) (t:Nat) (ht:r.s.toks<=t):RS C {st with hp:=st.hp++[v]}:=
 {m:=r.m,T:=r.T++[(a,o)],I:=r.I,V:=r.V,va:=r.va,vo:=r.vo,J:=r.J,s:={r.s with heap:=h',toks:=t},fr:=F,nw:=iG q7 N,nd:=gy q7 r.nd (r.old ha),bk:=r.bk,loc:=λi x v hx hv=>(r.loc i x v hx hv).imp λ_ h=>h.imp_right λd=>d.mono (λ_ _ g=>g) cI
  cel:=λx i h=>(r.cel x i h).imp λ_ h=>h.imp_left (aV cI),hp:=(r.hp.mono (λ_ _ g=>g) cI).append (.cons d .nil),gb:=r.gb,os:=r.os,tk:=ag r.tk ht}
noncomputable def RS.imm {h':Heap} {a:Addr} {o:Obj} (F:Fr C.h₀ C.env.locals h' r.m) (N:News C.h₀ C.env.locals h' ((a,o)::r.L)) (ha:r.s.heap.objs.size<=a) (t:Nat) (ht:r.s.toks<=t):RS C st:=
 {m:=r.m,T:=r.T,I:=(a,o)::r.I,V:=r.V,va:=r.va,vo:=λp h=>(r.vo p h).mono λ_ _ g=>g.imp_right (.tail _),J:=r.J,s:={r.s with heap:=h',toks:=t},fr:=F,nw:=iG qZ N,nd:=gy qZ r.nd (r.old ha),bk:=r.bk,loc:=λi x v hx hv=>(r.loc i x v hx hv).imp λ_ h=>h.imp_right λd=>d.mono (λ_ _ g=>g.imp_right (.tail _)) aw
  cel:=r.cel,hp:=r.hp.mono (λ_ _ g=>g.imp_right (.tail _)) aw,gb:=r.gb,os:=r.os,tk:=ag r.tk ht}
noncomputable def RS.addJ {h':Heap} {a:Addr} {o:Obj} (F:Fr C.h₀ C.env.locals h' r.m) (N:News C.h₀ C.env.locals h' ((a,o)::r.L)) (ha:r.s.heap.objs.size<=a) (t:Nat) (ht:r.s.toks<=t):RS C st:=
 {r with J:=(a,o)::r.J,s:={r.s with heap:=h',toks:=t},fr:=F,nw:=iG qO N,nd:=gy qO r.nd (r.old ha),tk:=ag r.tk ht}
theorem RS.new_le {h':Heap} {a:Addr} {o:Obj} {v:AO} {F:Fr C.h₀ C.env.locals h' r.m} {N:News C.h₀ C.env.locals h' ((a,o)::r.L)} {ha:r.s.heap.objs.size<=a} {d:cP r.G (bg (r.T++[(a,o)])) v o} {t:Nat} {ht:r.s.toks<=t}:Le r (r.new F N ha d t ht):=⟨cI,λ_ h=>h,rfl⟩
theorem RS.new_den {h':Heap} {a:Addr} {o:Obj} {v:AO} {F:Fr C.h₀ C.env.locals h' r.m} {N:News C.h₀ C.env.locals h' ((a,o)::r.L)} {ha:r.s.heap.objs.size<=a} {d:cP r.G (bg (r.T++[(a,o)])) v o} {t:Nat} {ht:r.s.toks<=t}:(r.new F N ha d t ht).D (.ref st.hp.length) (.ref a):=
 .ref _ _ (by rw[r.hlen];exact bF (T:=r.T++[(a,o)]) (p:=(a,o)) List.getElem?_concat_length)
theorem RS.imm_le {h':Heap} {a:Addr} {o:Obj} {F:Fr C.h₀ C.env.locals h' r.m} {N:News C.h₀ C.env.locals h' ((a,o)::r.L)} {ha:r.s.heap.objs.size<=a} {t:Nat} {ht:r.s.toks<=t}:Le r (r.imm F N ha t ht):=⟨aw,λ_ h=>.tail _ h,rfl⟩
theorem gB {T:List (Addr×Obj)} {i:Nat} {a:Addr} {o o':Obj} (e:T[i]? =some (a,o)):bg (T.set i (a,o'))=bg T:=by
 show(T.set i (a,o')).map (·.1)=_
 rw[List.map_set]
 refine List.ext_getElem? λj=>?_
 by_cases h:i=j
 ·subst h;rw[List.getElem?_set_self (az.mp (bF e)).1];exact(bF e).symm
 ·rw[List.getElem?_set_ne h]
noncomputable def RS.upd {i:Nat} {a:Addr} {o o':Obj} {v:AO} {h':Heap} (e:r.T[i]? =some (a,o)) (F:Fr C.h₀ C.env.locals h' r.m) (N:News C.h₀ C.env.locals h' (r.T.set i (a,o')++r.X)) (d:cP r.G r.ρ v o') (t:Nat) (ht:r.s.toks<=t):RS C {st with hp:=st.hp.set i v}:=
 {m:=r.m,T:=r.T.set i (a,o'),I:=r.I,V:=r.V,va:=r.va,vo:=r.vo,J:=r.J,s:={r.s with heap:=h',toks:=t},fr:=F,nw:=N,nd:=by rw[bh,gB e,<-bh];exact r.nd
  bk:=r.bk,loc:=by rw[gB e];exact r.loc
  cel:=by rw[gB e];exact r.cel
  hp:=by rw[gB e];exact r.hp.set d
  gb:=r.gb,os:=r.os,tk:=ag r.tk ht}
theorem RS.upd_le {i:Nat} {a:Addr} {o o':Obj} {v:AO} {h':Heap} {e:r.T[i]? =some (a,o)} {F:Fr C.h₀ C.env.locals h' r.m} {N:News C.h₀ C.env.locals h' (r.T.set i (a,o')++r.X)} {d:cP r.G r.ρ v o'} {t:Nat} {ht:r.s.toks<=t}:Le r (r.upd e F N d t ht):=⟨by show _<+:bg (r.T.set i (a,o'));rw[gB e];exact aw,λ_ h=>h,rfl⟩
theorem Ga {T X:List (Addr×Obj)} {a:Addr} {o o':Obj}:∀{i:Nat},(bg (T++X)).Nodup->T[i]? =some (a,o)->Upd a o o' (T++X) (T.set i (a,o')++X):=by
 induction T with
 |nil=>exactλ_ h=>nomatch h
 |cons p T ih=>
  intro i hn h
  have hn:=List.nodup_cons.mp hn
  cases i with
  |zero=>
   cases Option.some.inj h
   exact .head λq hq e=>hn.1 (aG.mpr ⟨q,hq,e⟩)
  |succ i=>
   have hm:a∈bg (T++X):=bA (p:=(a,o)) (aC _ (a0 h))
   exact .tail (λ(e:p.1=a)=>hn.1 (show p.1∈bg (T++X) from e.symm▸hm)) (ih hn.2 h)
theorem RS.updL {i:Nat} {a:Addr} {o o':Obj} (e:r.T[i]? =some (a,o)):Upd a o o' r.L (r.T.set i (a,o')++r.X):=Ga r.nd e
theorem RS.sameFr {a:Addr} {o:Obj} {h':Heap} (hm:(a,o)∈r.L) (hs:Heap.SameBut a r.s.heap h'):Fr C.h₀ C.env.locals h' r.m:=
 ⟨r.fr.ns.sameBut hs (Ne.symm (r.nw _ hm).2.1),λb x h=>(hs.2 b λe=>by rw[e,(r.nw _ hm).2.2] at h;cases h).trans (r.fr.keep b x h),r.fr.above⟩
theorem RS.setNews {i:Nat} {a:Addr} {o o':Obj} {h':Heap} (e:r.T[i]? =some (a,o)) (hs:Heap.SameBut a r.s.heap h') (ho:h'.get? a=some o'):News C.h₀ C.env.locals h' (r.T.set i (a,o')++r.X):=by
 have hn:=r.nd
 have N:=r.nw
 revert hn N
 show(bg (r.T++r.X)).Nodup->News _ _ _ (r.T++r.X)->_
 generalize r.X=X
 generalize r.T=T at e
 induction T generalizing i with
 |nil=>cases e
 |cons p T ih=>
  intro hn N
  have hn:=List.nodup_cons.mp hn
  cases i with
  |zero=>
   cases Option.some.inj e
   exactλq hq=>(aL.mp hq).elim (λe=>e▸⟨ho,(N _ (.head _)).2⟩) λhq=>⟨(hs.2 _ λe=>hn.1 (aG.mpr ⟨q,hq,e⟩)).trans (N _ (.tail _ hq)).1,(N _ (.tail _ hq)).2⟩
  |succ i=>
   have z:=ih (i:=i) e hn.2 λq hq=>N q (.tail _ hq)
   have hm:a∈bg (T++X):=bA (p:=(a,o)) (aC _ (a0 e))
   exactλq hq=>(aL.mp hq).elim (λe'=>e'▸⟨(hs.2 _ λ(e2:p.1=a)=>hn.1 (show p.1∈bg (T++X) from e2.symm▸hm)).trans (N _ (.head _)).1,(N _ (.head _)).2⟩) λhq=>z q hq
noncomputable def RS.store {i:Nat} {x:Str} {v:AV} {u:Value} {h':Heap} (hx:C.nms[i]? =some x) (hnd:C.nms.Nodup) (hs:Heap.SameBut C.env.locals r.s.heap h') (hn:h'.Ns C.env.locals λy=>if y=x then some u else r.m y) (d:r.D v u) (t:Nat) (ht:r.s.toks<=t):RS C {st with loc:=st.loc.set i (some v)}:=
 {m:=λy=>if y=x then some u else r.m y,T:=r.T,I:=r.I,V:=r.V,va:=r.va,vo:=r.vo,J:=r.J,s:={r.s with heap:=h',toks:=t},fr:=r.fr.set hn hs,nw:=r.nw.set hs,nd:=r.nd,bk:=r.bk
  loc:=λj y z hy hz=>by
   dsimp only at hz
   rw[List.getElem?_set] at hz
   split at hz
   ·rename_i e
    subst e
    split at hz
    ·cases hz
     exact⟨u,if_pos (Option.some.inj (hy.symm.trans hx)),d⟩
    ·cases hz
   ·rename_i hj
    exact(r.loc j y z hy hz).imp λu' h=>⟨(if_neg λ(e:y=x)=>hj ((List.getElem?_inj (az.mp hx).1 hnd).mp (hx.trans (e▸hy.symm)))).trans h.1,h.2⟩
  cel:=r.cel,hp:=r.hp,gb:=r.gb,os:=r.os,tk:=ag r.tk ht}
variable {r}
noncomputable def RS.reJ {js:List (Addr×Obj)} {W:List Addr} (hW:∀b∈W,b∈bg r.J) {h':Heap} (hk:∀b o,b∉W->r.s.heap.get? b=some o->h'.get? b=some o) (hj:∀p∈js,h'.get? p.1=some p.2/\p.1∈bg r.J) (hn:(bg js).Nodup) (t:Nat) (ht:r.s.toks<=t):RS C st:=
 have hd:∀b∈bg r.J,b≠C.env.locals/\C.h₀.get? b=none/\b∉bg (r.T++(r.I++r.V)):=λb hb=>by
  obtain⟨p,hp,rfl⟩:=aG.mp hb
  have z:=r.nw p (ar _ (ar _ (ar _ hp)))
  exact⟨z.2.1,z.2.2,(cK r.nd).2.2 _ hb⟩
 {r with
  J:=js,s:={r.s with heap:=h',toks:=t}
  fr:=⟨r.fr.ns.at' λo e=>hk _ o (λh=>(hd _ (hW _ h)).1 rfl) e,λb o e=>hk b o (λh=>by rw[(hd _ (hW _ h)).2.1] at e;cases e) (r.fr.keep b o e),r.fr.above⟩
  nw:=λp hp=>by
   rw[<-ax r.I,<-ax r.T] at hp
   rcases bo.mp hp with hp|hp
   ·have z:=r.nw p (by show p∈r.T++(r.I++(r.V++r.J));rw[<-ax r.I,<-ax r.T];exact aC _ hp)
    exact⟨hk _ _ (λh=>(hd _ (hW _ h)).2.2 (List.mem_map_of_mem hp)) z.1,z.2⟩
   ·have q:=hj p hp
    exact⟨q.1,(hd _ q.2).1,(hd _ q.2).2.1⟩
  nd:=by
   rw[<-ax r.I,<-ax r.T,bh]
   exact a7.mpr ⟨(cK r.nd).1,hn,λa ha b hb e=>by
    obtain⟨q,hq,rfl⟩:=aG.mp hb
    exact(hd _ (hj q hq).2).2.2 (e▸ha)⟩
  tk:=ag r.tk ht}
theorem RS.jGet {p:Addr×Obj} (h:p∈r.J):r.s.heap.get? p.1=some p.2:=(r.nw p (ar _ (ar _ (ar _ h)))).1
theorem RS.jnd:(bg r.J).Nodup:=(cK r.nd).2.1
end
structure Sx where
 nms:List Str
 cls:List (Str×Nat)
 gls:List (Str×Value)
 cod:Addr
inductive PA where
 |loc (i:Nat) (p:Pos)
 |cel (i:Nat) (p:Pos)
 |glb (i:Nat) (p:Pos)
 |cst (c:Const) (k:Nat) (p:Pos)
 |dic0 (ii:Bool) (p:Pos)
 |rawC (elt:Expr) (gs:List Comprehension) (sc:Scope) (p:Pos)
 |rawL (a:Arguments) (b:Expr) (sc:Scope) (p:Pos)
 |rawA (f:Expr) (as:List Expr) (ks:List Keyword) (p:Pos)
 |nil
inductive PU where
 |neg (p:Pos)
 |nt (p:Pos)
 |boo (op:BoolOp) (p:Pos)
 |att (x:Str) (p:Pos)
 |tup (k:Nat) (p:Pos)
 |lst (p:Pos)
inductive PB where
 |bin (op:Operator) (p:Pos)
 |cmp (op:CmpOp) (p:Pos)
 |sub (p:Pos)
 |cons
 |kw (x:Str) (p:Pos)
inductive PC where
 |ifx (p:Pos)
 |cmp2 (op op2:CmpOp) (p:Pos)
 |slc (sp p:Pos)
 |call (p:Pos)
 |meth (x:Str) (ap p:Pos)
inductive PE where
 |a (k:PA)
 |u (k:PU) (e:PE)
 |b (k:PB) (l r:PE)
 |c (k:PC) (l m r:PE)
namespace PE
noncomputable abbrev loc (i:Nat) (p:Pos):PE:=.a (.loc i p)
noncomputable abbrev cel (i:Nat) (p:Pos):PE:=.a (.cel i p)
noncomputable abbrev glb (i:Nat) (p:Pos):PE:=.a (.glb i p)
noncomputable abbrev cst (c:Const) (k:Nat) (p:Pos):PE:=.a (.cst c k p)
noncomputable abbrev dic0 (i:Bool) (p:Pos):PE:=.a (.dic0 i p)
noncomputable abbrev rawC (elt:Expr) (gs:List Comprehension) (sc:Scope) (p:Pos):PE:=.a (.rawC elt gs sc p)
noncomputable abbrev rawL (a:Arguments) (b:Expr) (sc:Scope) (p:Pos):PE:=.a (.rawL a b sc p)
noncomputable abbrev rawA (f:Expr) (as:List Expr) (ks:List Keyword) (p:Pos):PE:=.a (.rawA f as ks p)
noncomputable abbrev nil:PE:=.a .nil
noncomputable abbrev neg (e:PE) (p:Pos):PE:=.u (.neg p) e
noncomputable abbrev nt (e:PE) (p:Pos):PE:=.u (.nt p) e
noncomputable abbrev boo (op:BoolOp) (es:PE) (p:Pos):PE:=.u (.boo op p) es
noncomputable abbrev att (o:PE) (x:Str) (p:Pos):PE:=.u (.att x p) o
noncomputable abbrev tup (es:PE) (k:Nat) (p:Pos):PE:=.u (.tup k p) es
noncomputable abbrev lst (es:PE) (p:Pos):PE:=.u (.lst p) es
noncomputable abbrev bin (l:PE) (op:Operator) (r:PE) (p:Pos):PE:=.b (.bin op p) l r
noncomputable abbrev cmp (l:PE) (op:CmpOp) (r:PE) (p:Pos):PE:=.b (.cmp op p) l r
noncomputable abbrev sub (o i:PE) (p:Pos):PE:=.b (.sub p) o i
noncomputable abbrev cons (e es:PE):PE:=.b .cons e es
noncomputable abbrev kw (x:Str) (e:PE) (p:Pos) (es:PE):PE:=.b (.kw x p) e es
noncomputable abbrev ifx (t b o:PE) (p:Pos):PE:=.c (.ifx p) t b o
noncomputable abbrev cmp2 (l:PE) (op:CmpOp) (m:PE) (op2:CmpOp) (r:PE) (p:Pos):PE:=.c (.cmp2 op op2 p) l m r
noncomputable abbrev slc (o lo hi:PE) (sp p:Pos):PE:=.c (.slc sp p) o lo hi
noncomputable abbrev call (f args kws:PE) (p:Pos):PE:=.c (.call p) f args kws
noncomputable abbrev meth (o:PE) (x:Str) (ap:Pos) (args kws:PE) (p:Pos):PE:=.c (.meth x ap p) o args kws
end PE
inductive SA where
 |doc (s:Stmt)
 |dead (s:Stmt)
 |raw (s:Stmt)
 |pass (p:Pos)
 |brk (p:Pos)
 |cont (p:Pos)
 |ret0 (p:Pos)
inductive SE where
 |expr (p:Pos)
 |ret (p:Pos)
 |asg (p:Pos)
 |aug (op:Operator) (p:Pos)
 |tas (kt:Nat) (pt:Pos) (ke:Nat) (pe p:Pos)
 |swp (ts:List (Nat×Pos)) (kt:Nat) (pt:Pos) (ke:Nat) (pe p:Pos)
inductive PS where
 |a (k:SA)
 |e (k:SE) (t e:PE)
 |ite (t:PE) (b o:PS) (p:Pos)
 |whl (t:PE) (b:PS) (p:Pos)
 |fer (t it:PE) (b:PS) (p:Pos)
 |fen (ts:PE) (k:Nat) (tp:Pos) (g:Nat) (gp cp:Pos) (it:PE) (b:PS) (p:Pos)
 |nil
 |cons (s ss:PS)
namespace PS
noncomputable abbrev doc (s:Stmt):PS:=.a (.doc s)
noncomputable abbrev dead (s:Stmt):PS:=.a (.dead s)
noncomputable abbrev raw (s:Stmt):PS:=.a (.raw s)
noncomputable abbrev pass (p:Pos):PS:=.a (.pass p)
noncomputable abbrev brk (p:Pos):PS:=.a (.brk p)
noncomputable abbrev cont (p:Pos):PS:=.a (.cont p)
noncomputable abbrev ret0 (p:Pos):PS:=.a (.ret0 p)
noncomputable abbrev expr (x:PE) (p:Pos):PS:=.e (.expr p) .nil x
noncomputable abbrev ret (x:PE) (p:Pos):PS:=.e (.ret p) .nil x
noncomputable abbrev asg (ts x:PE) (p:Pos):PS:=.e (.asg p) ts x
noncomputable abbrev aug (t:PE) (op:Operator) (x:PE) (p:Pos):PS:=.e (.aug op p) t x
noncomputable abbrev tas (ts:PE) (kt:Nat) (pt:Pos) (es:PE) (ke:Nat) (pe p:Pos):PS:=.e (.tas kt pt ke pe p) ts es
noncomputable abbrev swp (ts:List (Nat×Pos)) (kt:Nat) (pt:Pos) (es:PE) (ke:Nat) (pe p:Pos):PS:=.e (.swp ts kt pt ke pe p) .nil es
end PS
def bu (l:List Str) (i:Nat):Str:=l.getD i ⟨#[]⟩
noncomputable def PA.toM (x:Sx):PA->Expr
 | .loc i p=>.Name (bu x.nms i) p
 | .cel i p=>.Name (bu (x.cls.map (·.1)) i) p
 | .glb i p=>.Name (bu (x.gls.map (·.1)) i) p
 | .cst c k p=>.Constant c k p
 | .dic0 _ p=>.Dict [] [] p
 | .rawC elt gs sc p=>.ListComp elt gs sc p
 | .rawL a b sc p=>.Lambda a b sc p
 | .rawA f as ks p=>.Call f as ks p
 | .nil=>.Constant .none 0 (Ol 0 0 0)
structure M3 where
 e:Expr
 es:List Expr
 ks:List Keyword
 o:Option Expr
noncomputable def M3.of (e:Expr):M3:=⟨e,[],[],some e⟩
noncomputable def PE.M (x:Sx):PE->M3
 | .a k=>(match k with| .nil=>⟨k.toM x,[],[],none⟩|k=>.of (k.toM x))
 | .u k e=>.of (match k with
  | .neg p=>.UnaryOp .USub (e.M x).e p
  | .nt p=>.UnaryOp .Not (e.M x).e p
  | .boo op p=>.BoolOp op (e.M x).es p
  | .att y p=>.Attribute (e.M x).e y p
  | .tup k p=>.Tuple (e.M x).es k p
  | .lst p=>.List (e.M x).es p)
 | .b k l r=>(match k with
  | .bin op p=>.of (.BinOp (l.M x).e op (r.M x).e p)
  | .cmp op p=>.of (.Compare (l.M x).e [op] [(r.M x).e] p)
  | .sub p=>.of (.Subscript (l.M x).e (r.M x).e p)
  | .cons=>⟨.Constant .none 0 (Ol 0 0 0),(l.M x).e::(r.M x).es,[],none⟩
  | .kw y p=>⟨.Constant .none 0 (Ol 0 0 0),[],⟨some y,(l.M x).e,p⟩::(r.M x).ks,none⟩)
 | .c k l m r=>.of (match k with
  | .ifx p=>.IfExp (l.M x).e (m.M x).e (r.M x).e p
  | .cmp2 op op2 p=>.Compare (l.M x).e [op,op2] [(m.M x).e,(r.M x).e] p
  | .slc sp p=>.Subscript (l.M x).e (.Slice (m.M x).o (r.M x).o none sp) p
  | .call p=>.Call (l.M x).e (m.M x).es (r.M x).ks p
  | .meth y ap p=>.Call (.Attribute (l.M x).e y ap) (m.M x).es (r.M x).ks p)
noncomputable abbrev PE.toM (x:Sx) (e:PE):Expr:=(e.M x).e
noncomputable abbrev PE.toMs (x:Sx) (e:PE):List Expr:=(e.M x).es
noncomputable abbrev PE.toMk (x:Sx) (e:PE):List Keyword:=(e.M x).ks
noncomputable abbrev PE.toMo (x:Sx) (e:PE):Option Expr:=(e.M x).o
structure M2 where
 s:Stmt
 ss:List Stmt
noncomputable def M2.of (s:Stmt):M2:=⟨s,[]⟩
noncomputable def SA.toM:SA->Stmt
 | .doc s=>s
 | .dead s=>s
 | .raw s=>s
 | .pass p=>.Pass p
 | .brk p=>.Break p
 | .cont p=>.Continue p
 | .ret0 p=>.Return none p
noncomputable def SE.toM (x:Sx) (k:SE) (t e:PE):Stmt:=match k with
 | .expr p=>.Expr (e.toM x) p
 | .ret p=>.Return (some (e.toM x)) p
 | .asg p=>.Assign (t.toMs x) (e.toM x) p
 | .aug op p=>.AugAssign (t.toM x) op (e.toM x) p
 | .tas kt pt ke pe p=>.Assign [.Tuple (t.toMs x) kt pt] (.Tuple (e.toMs x) ke pe) p
 | .swp ts kt pt ke pe p=>.Assign [.Tuple (ts.map λq=>.Name (bu x.nms q.1) q.2) kt pt] (.Tuple (e.toMs x) ke pe) p
noncomputable def PS.M (x:Sx):PS->M2
 | .a k=>.of k.toM
 | .e k t y=>.of (k.toM x t y)
 | .ite t b o p=>.of (.If (t.toM x) (b.M x).ss (o.M x).ss p)
 | .whl t b p=>.of (.While (t.toM x) (b.M x).ss [] p)
 | .fer t it b p=>.of (.For (t.toM x) (it.toM x) (b.M x).ss [] p)
 | .fen ts k tp g gp cp it b p=>.of (.For (.Tuple (ts.toMs x) k tp) (.Call (.Name (bu (x.gls.map (·.1)) g) gp) [it.toM x] [] cp) (b.M x).ss [] p)
 | .nil=>.of (.Pass (Ol 0 0 0))
 | .cons s ss=>⟨.Pass (Ol 0 0 0),(s.M x).s::(ss.M x).ss⟩
noncomputable abbrev PS.toM (x:Sx) (e:PS):Stmt:=(e.M x).s
noncomputable abbrev PS.toMs (x:Sx) (e:PS):List Stmt:=(e.M x).ss
noncomputable def PE.kd:PE->Nat
 | .a k=>(match k with| .rawA ..=>1| .rawC ..=>3|_=>0)
 | .u k _=>(match k with| .att ..=>2| .tup ..=>4|_=>0)
 | .b _ _ _=>0
 | .c k _ _ _=>(match k with| .call _=>1| .slc ..=>5|_=>0)
noncomputable def PE.ok (x:Sx):PE->Bool
 | .a k=>(match k with| .loc i _=>Nat.blt i x.nms.length|_=>true)
 | .u k e=>(match k with| .att ..=>!(e.kd==1)&&e.ok x|_=>e.ok x)
 | .b _ l r=>l.ok x&&r.ok x
 | .c k l m r=>(match k with
  | .call _=>!(l.kd==2)&&l.ok x&&m.ok x&&r.ok x
  | .meth _ ap p=>!(l.kd==1)&&l.ok x&&m.ok x&&r.ok x&&Nat.blt ((m.toMs x).length+(r.toMk x).length) 20&&(ap.endLine==p.line)
  |_=>l.ok x&&m.ok x&&r.ok x)
noncomputable def v7 (x:Sx) (ts:List (Nat×Pos)) (es:PE):Bool:=
 (ts.length==2||ts.length==3)&&(es.toMs x).length==ts.length&&ts.all (λq=>decide (q.1<x.nms.length)&&q.2.line==((ts.head?.map (·.2.line)).getD 0))&&decide (ts.map (·.1)).Nodup&&
  !(es.toMs x).all (foldedForSure 8)&&!(es.toMs x).all (constantsAlone 8)
noncomputable def SE.ok (x:Sx) (k:SE) (t e:PE):Bool:=match k with
 | .expr _=>!(e.kd==3)&&e.ok x
 | .ret _=>e.ok x
 | .asg _=>!(e.kd==3)&&!(e.kd==4)&&e.ok x&&t.ok x
 | .aug _ _=>t.ok x&&e.ok x&&(match t with| .b _ _ i=>!(i.kd==5)|_=>true)
 | .tas ..=>!((t.toMs x).length==2)&&!((t.toMs x).length==3)&&e.ok x&&t.ok x
 | .swp ts ..=>e.ok x&&v7 x ts e
noncomputable def PS.ok (x:Sx):PS->Bool
 | .a _=>true
 | .e k t y=>k.ok x t y
 | .ite t b o _=>t.ok x&&b.ok x&&o.ok x
 | .whl t b _=>t.ok x&&b.ok x
 | .fer t it b _=>it.ok x&&t.ok x&&b.ok x
 | .fen ts _ _ _ _ _ it b _=>it.ok x&&ts.ok x&&b.ok x
 | .nil=>true
 | .cons s ss=>s.ok x&&ss.ok x
inductive AF where
 |next|brk|cont
 |ret (v:AV)
noncomputable abbrev PV:=AV->St->Prop
noncomputable abbrev WB:=St->(AF->St->Prop)->Prop
noncomputable abbrev St.at (st:St) (i:Nat):Option AO:=st.hp[i]?
noncomputable abbrev St.put (st:St) (i:Nat) (v:AO):St:={st with hp:=st.hp.set i v}
noncomputable abbrev St.add (st:St) (v:AO):St:={st with hp:=st.hp++[v]}
noncomputable abbrev St.new (st:St):Nat:=st.hp.length
noncomputable abbrev St.var (st:St) (i:Nat) (v:AV):St:={st with loc:=st.loc.set i (some v)}
noncomputable def St.vars:List Nat->List AV->St->St
 |i::is,v::vs,st=>St.vars is vs (st.var i v)
 |_,_,st=>st
structure CxB (D:Nat) (C:Cx):Prop where
 kin:K0.In C.h₀
 top:∃p loose mg mb,TopRead p loose mg mb C.h₀
 hh:C.A.handled=none
 sm:∃o,C.h₀.get? sysModules=some o
 nb:NoneBooked C.h₀
 dep:C.A.depth+D<recursionLimit
 un:C.A.units+20*D+50<cLine
noncomputable def rt (y:Str) (v:Value):Prop:=nsIn K0 mainGlobals y=some (some v)∨(nsIn K0 mainGlobals y=some none/\bootBuiltins y=some v/\y≠"__name__")
structure bJ (D:Nat) (C:Cx) (x:Sx):Prop extends CxB D C where
 un2:C.A.units+20*D+67<cLine
 kind:C.env.scope.kind=.function
 glob:C.env.globals=mainGlobals
 bi:C.env.builtins=builtinsNs
 nms:C.nms=x.nms
 nd:x.nms.Nodup
 lc:∀y∈x.nms,C.env.kindOf y=some .local/\(y==("__debug__":Str))=false
 cls:C.cls=x.cls
 cc:∀p∈x.cls,C.env.kindOf p.1=some .cell/\(p.1==("__debug__":Str))=false
 gl:∀p∈x.gls,C.env.kindOf p.1=some .globalImplicit/\(p.1==("__debug__":Str))=false/\rt p.1 p.2
 cod:x.cod≠0->C.env.code=.ref x.cod
 qual:x.cod≠0->C.env.qual=nY x.cod
noncomputable abbrev b9:Value->Shared->Prop:=λ_ _=>False
noncomputable abbrev WP {α:Type} (C:Cx) (t:Sem α) (Q:α->Shared->Prop) (s:Shared):Prop:=wpAny MM C.A t Q b9 s
inductive ki (G:GP) (ρ:List Addr):AF->Flow->Prop
 |next:ki G ρ .next .next
 |brk:ki G ρ .brk .brk
 |cont:ki G ρ .cont .cont
 |ret {v:AV} {u:Value}:aY G ρ v u->ki G ρ (.ret v) (.ret u)
section
variable {C:Cx} {st:St} (r:RS C st)
noncomputable abbrev RS.Dk (r:RS C st):List (Str×AV)->List (Str×Value)->Prop:=bL (λx=>x) r.G r.ρ
noncomputable def Kt (P:PV) (Q:Value->Shared->Prop):Prop:=∀{st':St} (r':RS C st') (av:AV) (v:Value),Le r r'->P av st'->r'.D av v->Q v r'.s
noncomputable def ju (P:St->Prop) (Q:Unit->Shared->Prop):Prop:=∀{st':St} (r':RS C st'),Le r r'->P st'->Q () r'.s
noncomputable def tU (P:Bool->St->Prop) (Q:Bool->Shared->Prop):Prop:=∀{st':St} (r':RS C st') (b:Bool),Le r r'->P b st'->Q b r'.s
noncomputable def NB (P:List AV->St->Prop) (Q:List Value->Shared->Prop):Prop:=∀{st':St} (r':RS C st') (vs:List AV) (us:List Value),Le r r'->P vs st'->r'.Ds vs us->Q us r'.s
noncomputable def N5 (ns:List Str) (P:List (Str×AV)->St->Prop) (Q:List Value->Shared->Prop):Prop:=∀{st':St} (r':RS C st') (vs:List (Str×AV)) (us:List Value),Le r r'->P vs st'->r'.Dk vs (ns.zip us)->Q us r'.s
noncomputable def jN (P:AF->St->Prop) (Q:Flow->Shared->Prop):Prop:=∀{st':St} (r':RS C st') (f:AF) (fl:Flow),Le r r'->P f st'->ki r'.G r'.ρ f fl->Q fl r'.s
variable {r} {st':St} {r':RS C st'} {P:PV} {Q:Value->Shared->Prop}
theorem Kt.le (k:Kt r P Q) (h:Le r r'):Kt r' P Q:=λr2 av v l=>k r2 av v (h.trans l)
theorem ju.le {P:St->Prop} {Q:Unit->Shared->Prop} (k:ju r P Q) (h:Le r r'):ju r' P Q:=λr2 l=>k r2 (h.trans l)
theorem tU.le {P:Bool->St->Prop} {Q:Bool->Shared->Prop} (k:tU r P Q) (h:Le r r'):tU r' P Q:=λr2 b l=>k r2 b (h.trans l)
theorem jN.le {P:AF->St->Prop} {Q:Flow->Shared->Prop} (k:jN r P Q) (h:Le r r'):jN r' P Q:=λr2 b f l=>k r2 b f (h.trans l)
theorem Kt.int (k:Kt r P Q) {i:Int} (h:P (.int i) st) {u:Tok} (t:Nat) (ht:r.s.toks<=t):Q (.int i u) {r.s with toks:=t}:=k (r.toks t ht) _ _ ⟨aw,λ_ h=>h,rfl⟩ h (.int _ _)
theorem Kt.flt (k:Kt r P Q) {x:UInt64} (h:P (.flt x none) st) {u:Tok} (t:Nat) (ht:r.s.toks<=t):Q (.float x u) {r.s with toks:=t}:=k (r.toks t ht) _ _ ⟨aw,λ_ h=>h,rfl⟩ h (.flt _ _ _ λ_ h=>nomatch h)
theorem Kt.str (k:Kt r P Q) {g:List Nat} (h:P (.str g none) st) {u:Tok} (t:Nat) (ht:r.s.toks<=t):Q (.str (tx g) u) {r.s with toks:=t}:=k (r.toks t ht) _ _ ⟨aw,λ_ h=>h,rfl⟩ h (.str _ _ _ λ_ h=>nomatch h)
theorem Kt.bool (k:Kt r P Q) {b:Bool} (h:P (.bool b) st):Q (.bool b) r.s:=k r _ _ .rf h (.bool _)
theorem Kt.none (k:Kt r P Q) (h:P .none st):Q .none r.s:=k r _ _ .rf h .none
end
noncomputable def small (n:Int):Prop:=n.natAbs<1000000000000
structure ML (f:Value->Sem Value) (a:AV) (st:St) (P:PV):Prop where of::
 run:∀{D:Nat} {C:Cx} (H:CxB D C) (r:RS C st) {u:Value} {Q:Value->Shared->Prop},r.D a u->Kt r P Q->WP C (f u) Q r.s
structure BA (f:Value->Value->Sem Value) (a b:AV) (st:St) (P:PV):Prop where of::
 run:∀{D:Nat} {C:Cx} (H:CxB D C) (r:RS C st) {u v:Value} {Q:Value->Shared->Prop},r.D a u->r.D b v->Kt r P Q->WP C (f u v) Q r.s
structure pD (op:CmpOp) (a b:AV) (st:St) (P:Bool->Prop):Prop where of::
 run:∀{D:Nat} {C:Cx} (H:CxB D C) (r:RS C st) {u v:Value} {Q:Value->Shared->Prop},r.D a u->r.D b v->(∀(r':RS C st) b,Le r r'->P b->Q (.bool b) r'.s)->WP C (compareOp op u v) Q r.s
noncomputable def Ct (op:Operator) (a b:Int) (st:St) (P:PV):Prop:=match op with
 | .Add=>P (.int (a+b)) st
 | .Sub=>P (.int (a-b)) st
 | .Mult=>(small a∨small b)/\P (.int (a*b)) st
 | .FloorDiv=>b≠0/\small b/\P (.int (a.fdiv b)) st
 | .Mod=>b≠0/\P (.int (a.fmod b)) st
 | .Pow=>0<=b/\b<1000/\small a/\P (.int (a^b.toNat)) st
 | .Div=>b≠0/\Float64.isInf (Float64.ofFrac (decide (a<0)!=decide (b<0)) a.natAbs b.natAbs)=false/\P (.flt (Float64.ofFrac (decide (a<0)!=decide (b<0)) a.natAbs b.natAbs) none) st
 | .RShift=>0<=b/\P (.int (a.fdiv (2^b.toNat))) st
 | .BitAnd=>P (.int (Builtin.bitAnd a b)) st
 |_=>False
noncomputable def Co (op:Operator) (a b:UInt64) (st:St) (P:PV):Prop:=match op with
 | .Add=>P (.flt (Float64.add a b) none) st
 | .Sub=>P (.flt (Float64.sub a b) none) st
 | .Mult=>P (.flt (Float64.mul a b) none) st
 | .Div=>Float64.isZero b=false/\P (.flt (Float64.div a b) none) st
 |_=>False
noncomputable def y8 (op:Operator) (a:UInt64) (b:Int) (st:St) (P:PV):Prop:=match op with
 | .Mult=>small b/\P (.flt (Float64.mul a (Float64.ofInt b)) none) st
 | .Div=>small b/\b≠0/\∀t,st.tk<=t->P (.flt (Float64.div a (Float64.ofInt b)) (some t)) {st with tk:=t+1}
 | .Sub=>small b/\P (.flt (Float64.sub a (Float64.ofInt b)) none) st
 |_=>False
noncomputable def y7 (op:Operator) (a:Int) (b:UInt64) (st:St) (P:PV):Prop:=match op with
 | .Mult=>small a/\P (.flt (Float64.mul (Float64.ofInt a) b) none) st
 | .Sub=>small a/\P (.flt (Float64.sub (Float64.ofInt a) b) none) st
 |_=>False
noncomputable def pC (op:Operator) (a b:AV) (st:St) (P:PV):Prop:=match a with
 | .int a=>(match b with
  | .int b=>Ct op a b st P
  | .flt b _=>y7 op a b st P
  |_=>False)
 | .flt a _=>(match b with
  | .int b=>y8 op a b st P
  | .flt b _=>Co op a b st P
  |_=>False)
 |a=>BA (binaryOp op) a b st P
noncomputable def wZ (op:Operator) (a b:AV) (st:St) (P:PV):Prop:=match a with
 | .int a=>(match b with
  | .int b=>(match op with
   | .Add=>P (.int (a+b)) st
   | .Sub=>P (.int (a-b)) st
   |_=>False)
  |_=>False)
 |_=>False
noncomputable def Cf (op:CmpOp) (a b:Int) (P:Bool->Prop):Prop:=match op with
 | .Lt=>P (decide (a<b))
 | .LtE=>P (decide (a<=b))
 | .Gt=>P (decide (b<a))
 | .GtE=>P (decide (b<=a))
 | .Eq=>P (decide (a=b))
 | .NotEq=>P (!decide (a=b))
 |_=>False
noncomputable def AV.isRef:AV->Bool
 | .ref _=>true
 | .int _=>true
 | .str _ _=>true
 | .tup _ _=>true
 | .ilst _=>true
 |_=>false
noncomputable def Jd (op:CmpOp) (a:AV) (P:Bool->Prop):Prop:=match op with
 | .Is=>(a=.none/\P true)∨(a.isRef=true/\P false)
 | .IsNot=>(a=.none/\P false)∨(a.isRef=true/\P true)
 |_=>False
noncomputable def gL (op:CmpOp) (a b:AV) (st:St) (P:Bool->Prop):Prop:=match b with
 | .none=>Jd op a P
 | .int b=>(match a with
  | .int a=>Cf op a b P
  |a=>pD op a (.int b) st P)
 |b=>pD op a b st P
structure uD (v:AV) (st:St) (P:Bool->Prop):Prop where of::
 run:∀{D:Nat} {C:Cx} (H:CxB D C) (r:RS C st) {u:Value} {Q:Bool->Shared->Prop},r.D v u->(∀(r':RS C st) b,Le r r'->P b->Q b r'.s)->WP C (truthy u) Q r.s
noncomputable def nV (v:AV) (st:St) (P:Bool->Prop):Prop:=match v with
 | .bool b=>P b
 | .int i=>P (!decide (i=0))
 | .none=>P false
 | .str g _=>g.length<1000/\P (!g.isEmpty)
 |v=>uD v st P
noncomputable def Hx (v:AV) (st:St) (P:PV):Prop:=match v with
 | .int i=>P (.int (-i)) st
 |_=>False
noncomputable def HM (c:Const) (st:St) (P:PV):Prop:=match c with
 | .int i=>P (.int i) st
 | .none=>P .none st
 | .bool b=>P (.bool b) st
 | .float x=>P (.flt x none) st
 | .str x=>∃g,x=tx g/\∀t,st.tk<=t->P (.str g (some t)) {st with tk:=t+1}
 |_=>False
noncomputable abbrev om (v:AV) (y:Str):St->PV->Prop:=ML (λu=>getAttr u y true) v
structure sJ (o:AV) (y:Str) (v:AV) (st:St) (P:St->Prop):Prop where of::
 run:∀{D:Nat} {C:Cx} (H:CxB D C) (r:RS C st) {uo u:Value} {Q:Unit->Shared->Prop},r.D o uo->r.D v u->ju r P Q->WP C (setAttr uo y u) Q r.s
structure iJ (o i v:AV) (st:St) (P:St->Prop):Prop where of::
 run:∀{D:Nat} {C:Cx} (H:CxB D C) (r:RS C st) {uo ui u:Value} {Q:Unit->Shared->Prop},r.D o uo->r.D i ui->r.D v u->ju r P Q->WP C (setItem uo ui u) Q r.s
structure fz (a b:AV) (st:St) (P:PV):Prop where of::
 run:∀{value slice:Expr},(∀o i,subscripted slice false o i=operate [o,i] (getItem o i))->BA (subscriptTail value slice) a b st P
noncomputable abbrev yQ:AV->AV->St->PV->Prop:=BA getItem
noncomputable abbrev zx (ul uh:Value):Obj:={cls:=.type "slice",data:=.fields #[ul,uh,.none]}
structure ti (o lo hi:AV) (st:St) (P:PV):Prop where of::
 run:∀{D:Nat} {C:Cx} (H:CxB D C) (r:RS C st) {uo ul uh:Value} {a:Addr} {value slice:Expr} {Q:Value->Shared->Prop},r.D o uo->r.D lo ul->r.D hi uh->r.s.heap.get? a=some (zx ul uh)->
 (∀o i,subscripted slice false o i=operate [i,o] (getItem o i))->Kt r P Q->WP C (subscriptTail value slice uo (.ref a)) Q r.s
noncomputable def jg (u:Value) (h:Heap):Prop:=K0.In h/\(match u with
 | .builtin _=>True
 | .type _=>True
 | .ref a=>keepIn K0 (.ref a)=true∨∃id v,h.get? a=some (b7 id v)
 |_=>False)
structure cj (u:Value) (args:List AV) (kws:List (Str×AV)) (st:St) (P:PV):Prop where of::
 run:∀{D:Nat} {C:Cx} (H:CxB D C) (r:RS C st) {us:List Value} {ku:List (Str×Value)} {Q:Value->Shared->Prop},r.Ds args us->r.Dk kws ku->Kt r P Q->WP C (call u us ku) Q r.s
structure lh (id:String) (v:AV) (args:List AV) (st:St) (P:PV):Prop where of::
 run:∀{D:Nat} {C:Cx} (H:CxB D C) (r:RS C st) {q:Addr} {u:Value} {us:List Value} {Q:Value->Shared->Prop},r.s.heap.get? q=some (b7 id u)->r.D v u->r.Ds args us->Kt r P Q->WP C (call (.ref q) us []) Q r.s
noncomputable abbrev xa (Q:Value->Shared->Prop):Result->Shared->Prop:=λr s'=>match r with| .ok (.ret v)=>Q v s'| .ok _=>False| .error e=>b9 e s'
structure bw (D:Nat) (f:Addr) (args:List AV) (kws:List (Str×AV)) (st:St) (P:PV):Prop where of::
 keep:keepIn K0 (.ref f)=true
 run:∀{C:Cx} (H:CxB D C) (r:RS C st) {us:List Value} {ku:List (Str×Value)} {Q:Value->Shared->Prop},r.Ds args us->r.Dk kws ku->Kt r P Q->codeAny MM C.A (.call (.ref f) ⟨us,ku⟩) (xa Q) r.s
noncomputable def Ft (i:Nat) (args:List AV) (st:St) (P:PV):Prop:=∃id v,st.at i=some (.bound id v)/\lh id v args st P
noncomputable def wA (D:Nat) (f:AV) (args:List AV) (kws:List (Str×AV)) (st:St) (P:PV):Prop:=match f with
 | .val u=>(match u with
  | .builtin id=>cj (.builtin id) args kws st P
  | .type n=>cj (.type n) args kws st P
  | .ref a=>bw D a args kws st P
  |_=>False)
 | .ref i=>kws=[]/\Ft i args st P
 |_=>False
inductive MK where
 |fn (f:Addr) (v:AV)
 |bi (id:String) (v:AV)
 |un (id:String)
inductive px (G:GP) (ρ:List Addr):MK->Value×List Value->Prop
 |fn {f:Addr} {v:AV} {u:Value}:aY G ρ v u->px G ρ (.fn f v) (.ref f,[u])
 |bi {id:String} {v:AV} {u:Value}:aY G ρ v u->px G ρ (.bi id v) (.builtin id,[u])
 |un {id:String}:px G ρ (.un id) (.builtin id,[])
structure lP (v:AV) (y:Str) (st:St) (P:MK->Prop):Prop where of::
 run:∀{D:Nat} {C:Cx} (H:CxB D C) (r:RS C st) {u:Value} {pl:Sem Bool} {Q:Value×List Value->Shared->Prop},r.D v u->(∀mk fx t,r.s.toks<=t->P mk->px r.G r.ρ mk fx->Q fx {r.s with toks:=t})->WP C (getMethod u y pl) Q r.s
noncomputable def tA (D:Nat) (mk:MK) (args:List AV) (kws:List (Str×AV)) (st:St) (P:PV):Prop:=match mk with
 | .fn f v=>bw D f (v::args) kws st P
 | .bi id v=>cj (.builtin id) (v::args) kws st P
 | .un id=>cj (.builtin id) args kws st P
structure mH (v:AV) (st:St) (P:List AV->Prop):Prop where of::
 run:∀{D:Nat} {C:Cx} (H:CxB D C) (r:RS C st) {u:Value} {n:Nat} {Q:List Value->Shared->Prop},r.D v u->(∀vs,P vs->vs.length=n)->(∀(r':RS C st) vs us,Le r r'->P vs->r'.Ds vs us->Q us r'.s)->WP C (unpackItems u n none) Q r.s
noncomputable def zb:Value->Bool
 | .type n=>n=="tuple"
 |_=>false
noncomputable def o4 (v:AV) (st:St) (P:List AV->Prop):Prop:=match v with
 | .tup (.type "tuple") vs=>P vs
 |v=>mH v st P
structure Lw {C C':Cx} {st st':St} (r:RS C st) (r':RS C' st'):Prop where
 pre:r.ρ<+:r'.ρ
 sub:∀p∈r.I,p∈r'.I
section
variable {C C':Cx} {st st':St} {r:RS C st} {r':RS C st'} {q:RS C' st'}
theorem Lw.rf:Lw r r:=⟨aw,λ_ h=>h⟩
theorem Lw.trans {C2:Cx} {st2:St} {r2:RS C2 st2} (h:Lw r q) (k:Lw q r2):Lw r r2:=⟨h.pre.trans k.pre,λp hp=>k.sub p (h.sub p hp)⟩
theorem Le.w (h:Le r r'):Lw r r':=⟨h.pre,h.sub⟩
theorem Lw.le (h:Lw r r') (e:r'.J=r.J):Le r r':=⟨h.pre,h.sub,e⟩
theorem Lw.G (h:Lw r r') (a:Addr) (o:Obj) (g:r.G a o):r'.G a o:=g.imp_right (h.sub _)
theorem aY.lw {v:AV} {u:Value} (d:r.D v u) (h:Lw r r'):r'.D v u:=d.mono h.G h.pre
theorem aY.lwB {v:AV} {u:Value} (d:r.D v u) (hB:C'.B=C.B) (h:Lw r q):q.D v u:=d.mono (λa o g=>g.imp (λg=>by rw[hB];exact g) (h.sub _)) h.pre
end
noncomputable abbrev JS:=List (Addr×Obj)
structure It (C:Cx) {st₀:St} (r₀:RS C st₀) (I:Addr) (S:Nat->JS->Prop) (items:List AV) (chk:St->Prop):Prop where
 item:∀{C':Cx} {st:St} (r:RS C' st) {J:JS} {i:Nat} {js:JS} {v:AV} {Q:Option Value->Shared->Prop},C'.A=C.A->C'.B=C.B->Lw r₀ r->r.J=js++J->chk st->S i js->items[i]? =some v->
  (∀(r':RS C' st) u js',Lw r r'->r'.D v u->S (i+1) js'->r'.J=js'++J->Q (some u) r'.s)->WP C' (pyNext (.ref I)) Q r.s
 done:∀{C':Cx} {st:St} (r:RS C' st) {J js:JS} {Q:Option Value->Shared->Prop},C'.A=C.A->C'.B=C.B->Lw r₀ r->r.J=js++J->chk st->S items.length js->(∀r':RS C' st,Lw r r'->r'.J=J->Q none r'.s)->WP C' (pyNext (.ref I)) Q r.s
 go:∀(t:PE) (x:Sx) (s:Shared) (js:JS) (i:Nat) (v:Value) (Q:Unit->Shared->Prop),(∀p∈js,s.heap.get? p.1=some p.2)->S i js->Q () s->WP C (letOwnedTupleGo (t.toM x) (.ref I) v) Q s
 self:∀(s:Shared) (js:JS) (Q:Value->Shared->Prop),(∀p∈js,s.heap.get? p.1=some p.2)->S 0 js->Q (.ref I) s->WP C (pyIter (.ref I)) Q s
structure iw (v:AV) (st:St) (K:List AV->(St->Prop)->Prop):Prop where of::
 run:∀{D:Nat} {C:Cx} (H:CxB D C) (r:RS C st) {u:Value} {Q:Value->Shared->Prop},r.D v u->
 (∀I items chk S js (r':RS C st),K items chk->Lw r r'->r'.J=js++r.J->S 0 js->It C r' I S items chk->Q (.ref I) r'.s)->WP C (pyIter u) Q r.s
noncomputable def pG (W:WB) (P:AF->St->Prop):AF->St->Prop:=λf st=>match f with
 | .next=>W st P
 | .cont=>W st P
 | .brk=>P .next st
 | .ret r=>P (.ret r) st
noncomputable def H6 (bd W:WB) (P:AF->St->Prop):St->Prop:=λst=>bd st (pG W P)
noncomputable def bD (chk:St->Prop) (tg:AV->St->(St->Prop)->Prop) (bd:WB):List AV->WB
 |[],st,P=>chk st/\P .next st
 |v::vs,st,P=>chk st/\tg v st (H6 bd (bD chk tg bd vs) P)
noncomputable def wx (v:AV) (K:List AV->Prop):Prop:=match v with
 | .str g _=>g.length<=1000/\K (g.map λc=>.str [c] none)
 | .ilst vs=>K vs
 |_=>False
noncomputable def numbered:Nat->List AV->List AV
 |_,[]=>[]
 |n,v::vs=>.tup (.type "tuple") [.int n,v]::numbered (n+1) vs
noncomputable def ji (tg:List AV->St->(St->Prop)->Prop) (v:AV) (st:St) (P:St->Prop):Prop:=match v with
 | .tup _ vs=>tg vs st P
 |_=>False
noncomputable def Nr (bd W:WB) (P:AF->St->Prop):Bool->St->Prop:=λb st=>(b=true->bd st (pG W P))/\(b=false->P .next st)
noncomputable def iQ (ts:St->(Bool->St->Prop)->Prop) (bd:WB):Nat->WB
 |0,_,_=>False
 |n+1,st,P=>ts st (Nr bd (iQ ts bd n) P)
section
variable (P:PV) (PB:Bool->St->Prop) (PL:List AV->St->Prop) (PK:List (Str×AV)->St->Prop) (PU:St->Prop) (PF:AF->St->Prop)
noncomputable def kB (st:St):Bool->Prop:=λb=>PB b st
noncomputable def NV (st:St):Bool->Prop:=λb=>P (.bool b) st
noncomputable def Nz (st:St):Bool->Prop:=λb=>P (.bool (!b)) st
noncomputable def MS:PV:=λv st=>nV v st (kB PB st)
noncomputable def L8:PV:=λv st=>Hx v st P
noncomputable def NR:PV:=λv st=>nV v st (Nz P st)
noncomputable def Li:Bool->St->Prop:=λb st=>PB (!b) st
noncomputable def MC (y:Str):PV:=λv st=>om v y st P
noncomputable def JF (y:Str) (v:AV):PV:=λu st=>sJ u y v st PU
noncomputable def LY:List AV->St->Prop:=λvs st=>vs.length<=100/\cz vs=true/\P (.tup (.type "tuple") vs) st
noncomputable def MR (n:Nat) (as:List AV->St->(St->Prop)->Prop) (st:St):List AV->Prop:=λvs=>vs.length=n/\as vs st PU
noncomputable def Lx:List AV->St->Prop:=λvs st=>vs.length<=100/\P (.ref st.new) (st.add (.list vs))
noncomputable def JD (op:Operator) (a:AV):PV:=λb st=>pC op a b st P
noncomputable def Md (op:Operator) (re:St->PV->Prop):PV:=λa st=>re st (JD P op a)
noncomputable def Kf (op:CmpOp) (a:AV):PV:=λb st=>gL op a b st (NV P st)
noncomputable def Ld (op:CmpOp) (re:St->PV->Prop):PV:=λa st=>re st (Kf P op a)
noncomputable def Gr (op:CmpOp) (a:AV):PV:=λb st=>gL op a b st (kB PB st)
noncomputable def I9 (op:CmpOp) (re:St->PV->Prop):PV:=λa st=>re st (Gr PB op a)
noncomputable def IT (v:AV):PV:=λk st=>fz v k st P
noncomputable def K9 (re:St->PV->Prop):PV:=λv st=>re st (IT P v)
noncomputable def Hn (u v:AV):PV:=λk st=>iJ u k v st PU
noncomputable def ID (v:AV) (re:St->PV->Prop):PV:=λu st=>re st (Hn PU u v)
noncomputable def K8 (W:St->(Bool->St->Prop)->Prop):Bool->St->Prop:=λb st=>(b=false->PB false st)/\(b=true->W st PB)
noncomputable def Nt (W:St->(Bool->St->Prop)->Prop):Bool->St->Prop:=λb st=>(b=true->PB true st)/\(b=false->W st PB)
noncomputable def MO (v:AV):List AV->St->Prop:=λvs st=>PL (v::vs) st
noncomputable def Nl (W:St->(List AV->St->Prop)->Prop):PV:=λv st=>W st (MO PL v)
noncomputable def kW (W:St->(St->Prop)->Prop):St->Prop:=λst=>W st PU
noncomputable def LV (y:Str) (v:AV):List (Str×AV)->St->Prop:=λvs st=>PK ((y,v)::vs) st
noncomputable def NQ (y:Str) (W:St->(List (Str×AV)->St->Prop)->Prop):PV:=λv st=>W st (LV PK y v)
noncomputable def Nw (A B:St->PV->Prop):Bool->St->Prop:=λc st=>(c=true->A st P)/\(c=false->B st P)
noncomputable def M9 (A B:St->(Bool->St->Prop)->Prop):Bool->St->Prop:=λc st=>(c=true->A st PB)/\(c=false->B st PB)
noncomputable def Oi (st:St):Bool->Prop:=λc=>PB c st
noncomputable def Oe (op2:CmpOp) (b:AV):PV:=λd st=>gL op2 b d st (kB PB st)
noncomputable def Ny (op2:CmpOp) (b:AV) (re:St->PV->Prop) (st:St):Bool->Prop:=λc=>(c=false->PB false st)/\(c=true->re st (Oe PB op2 b))
noncomputable def Np (op op2:CmpOp) (a:AV) (re:St->PV->Prop):PV:=λb st=>gL op a b st (Ny PB op2 b re st)
noncomputable def Nk (op op2:CmpOp) (me re:St->PV->Prop):PV:=λa st=>me st (Np PB op op2 a re)
noncomputable def Lf (v a:AV):PV:=λb st=>ti v a b st P
noncomputable def MJ (v:AV) (ro:St->PV->Prop):PV:=λa st=>ro st (Lf P v a)
noncomputable def Nm (mo ro:St->PV->Prop):PV:=λv st=>mo st (MJ P v ro)
noncomputable def M5 (D:Nat) (g:AV) (as:List AV):List (Str×AV)->St->Prop:=λks st=>wA D g as ks st P
noncomputable def LG (D:Nat) (g:AV) (W:St->(List (Str×AV)->St->Prop)->Prop):List AV->St->Prop:=λas st=>W st (M5 P D g as)
noncomputable def N9 (D:Nat) (V:St->(List AV->St->Prop)->Prop) (W:St->(List (Str×AV)->St->Prop)->Prop):PV:=λg st=>V st (LG P D g W)
noncomputable def Mn (D:Nat) (mk:MK) (as:List AV):List (Str×AV)->St->Prop:=λks st=>tA D mk as ks st P
noncomputable def K2 (D:Nat) (mk:MK) (W:St->(List (Str×AV)->St->Prop)->Prop):List AV->St->Prop:=λas st=>W st (Mn P D mk as)
noncomputable def Mj (D:Nat) (V:St->(List AV->St->Prop)->Prop) (W:St->(List (Str×AV)->St->Prop)->Prop) (st:St):MK->Prop:=λmk=>V st (K2 P D mk W)
noncomputable def NL (D:Nat) (y:Str) (V:St->(List AV->St->Prop)->Prop) (W:St->(List (Str×AV)->St->Prop)->Prop):PV:=λv st=>lP v y st (Mj P D V W st)
noncomputable def kN:St->Prop:=λst=>PF .next st
noncomputable def Nx:PV:=λ_ st=>PF .next st
noncomputable def KP:PV:=λv st=>PF (.ret v) st
noncomputable def LK (W:AV->St->(St->Prop)->Prop):PV:=λv st=>W v st (kN PF)
noncomputable def Ms (i:Nat):PV:=λr st=>i<st.loc.length/\PF .next (st.var i r)
noncomputable def N6 (i:Nat) (op:Operator) (old:AV):PV:=λv st=>wZ op old v st (Ms PF i)
noncomputable def MF (ov iv:AV):PV:=λr st=>iJ ov iv r st (kN PF)
noncomputable def Mi (op:Operator) (ov iv old:AV):PV:=λv st=>wZ op old v st (MF PF ov iv)
noncomputable def M1 (op:Operator) (ov iv:AV) (E:St->PV->Prop):PV:=λold st=>E st (Mi PF op ov iv old)
noncomputable def Mg (op:Operator) (ov:AV) (E:St->PV->Prop):PV:=λiv st=>yQ ov iv st (M1 PF op ov iv E)
noncomputable def MV (op:Operator) (I E:St->PV->Prop):PV:=λov st=>I st (Mg PF op ov E)
noncomputable def MW (n:Nat) (W:List AV->St->(St->Prop)->Prop):List AV->St->Prop:=λvs st=>vs.length<=100/\vs.length=n/\W vs st (kN PF)
noncomputable def Lj (ts:List Nat) (n:Nat):List AV->St->Prop:=λvs st=>vs.length<=100/\vs.length=n/\PF .next (St.vars ts.reverse vs.reverse st)
noncomputable def Mw (A B:WB):Bool->St->Prop:=λc st=>(c=true->A st PF)/\(c=false->B st PF)
noncomputable def Iw (ta:AV->St->(St->Prop)->Prop) (bd:WB) (st:St):List AV->(St->Prop)->Prop:=λitems chk=>bD chk ta bd items st PF
noncomputable def MH (ta:AV->St->(St->Prop)->Prop) (bd:WB):PV:=λv st=>iw v st (Iw PF ta bd st)
noncomputable def LC (ta:AV->St->(St->Prop)->Prop) (bd:WB) (st:St):List AV->Prop:=λitems=>bD (λ_=>True) ta bd (numbered 0 items) st PF
noncomputable def Lz (ta:AV->St->(St->Prop)->Prop) (bd:WB):PV:=λv st=>wx v (LC PF ta bd st)
noncomputable def BK (W:WB):AF->St->Prop:=λf st=>match f with
 | .next=>W st PF
 |f=>PF f st
end
noncomputable def DocOk (s:Stmt):Prop:=∃c k p q,s=.Expr (.Constant (.str c) k p) q
structure ql (D:Nat) (x:Sx) (e:Expr) (st:St) (P:PV):Prop where of::
 run:∀{C:Cx} (H:bJ D C x) (r:RS C st) {Q:Value->Shared->Prop},Kt r P Q->WP C (eval e C.env) Q r.s
structure zA (D:Nat) (x:Sx) (s:Stmt) (st:St) (P:AF->St->Prop):Prop where of::
 run:∀{C:Cx} (H:bJ D C x) (r:RS C st) {Q:Flow->Shared->Prop},jN r P Q->WP C (exec s C.env) Q r.s
structure W8 where
 e:St->PV->Prop
 t:St->(Bool->St->Prop)->Prop
 al:BoolOp->St->(Bool->St->Prop)->Prop
 es:St->(List AV->St->Prop)->Prop
 ks:St->(List (Str×AV)->St->Prop)->Prop
 o:St->PV->Prop
 a:AV->St->(St->Prop)->Prop
 as:List AV->St->(St->Prop)->Prop
noncomputable def vv:AV->St->(St->Prop)->Prop:=λ_ _ _=>False
noncomputable def W8.of (e:St->PV->Prop) (a:AV->St->(St->Prop)->Prop:=vv):W8:=⟨e,λst P=>e st (MS P),λ_ _ _=>False,λ_ _=>False,λ_ _=>False,e,a,λ_ _ _=>False⟩
noncomputable def W8.ofT (e:St->PV->Prop) (t:St->(Bool->St->Prop)->Prop):W8:=⟨e,t,λ_ _ _=>False,λ_ _=>False,λ_ _=>False,e,vv,λ_ _ _=>False⟩
noncomputable def mQ (i:Nat) (st:St) (P:PV):Prop:=match st.loc[i]? with
 |some (some v)=>P v st
 |_=>False
noncomputable def cE (x:Sx) (i:Nat) (st:St) (P:PV):Prop:=match x.cls[i]? with
 |some p=>(match st.at p.2 with
  |some (.cell (some v))=>P v st
  |_=>False)
 |none=>False
noncomputable def ix (x:Sx) (i:Nat) (v:AV) (st:St) (P:St->Prop):Prop:=match x.cls[i]? with
 |some p=>(match st.at p.2 with
  |some (.cell _)=>P (st.put p.2 (.cell (some v)))
  |_=>False)
 |none=>False
noncomputable def pj (x:Sx) (i:Nat) (st:St) (P:PV):Prop:=match x.gls[i]? with
 |some p=>P (.val p.2) st
 |none=>False
noncomputable def Kz (D:Nat) (x:Sx) (k:PA):W8:=match k with
 | .loc i _=>.of (mQ i) λv st P=>i<st.loc.length/\P (st.var i v)
 | .cel i _=>.of (cE x i) (ix x i)
 | .glb i _=>.of (pj x i)
 | .cst c _ _=>.of (HM c)
 | .dic0 b _=>.of λst P=>P (.ref st.new) (st.add (cond b (.dictI []) (.dictS [])))
 | .rawC elt gs sc p=>.of (ql D x (.ListComp elt gs sc p))
 | .rawL a b sc p=>.of (ql D x (.Lambda a b sc p))
 | .rawA f as ks p=>.of (ql D x (.Call f as ks p))
 | .nil=>⟨λ_ _=>False,λ_ _=>False,λop st P=>(match op with| .And=>P true st| .Or=>P false st),λst P=>P [] st,λst P=>P [] st,λst P=>P .none st,vv,λvs st P=>(match vs with|[]=>P st|_=>False)⟩
noncomputable def KQ (k:PU) (l:W8) (n:Nat):W8:=match k with
 | .neg _=>.of λst P=>l.e st (L8 P)
 | .nt _=>.ofT (λst P=>l.e st (NR P)) λst P=>l.t st (Li P)
 | .boo op _=>.ofT (λ_ _=>False) (l.al op)
 | .att y _=>.of (λst P=>l.e st (MC P y)) λv st P=>l.e st (JF P y v)
 | .tup _ _=>.of (λst P=>l.es st (LY P)) λv st P=>o4 v st (MR P n l.as st)
 | .lst _=>.of λst P=>l.es st (Lx P)
noncomputable def CW (k:PB) (l r:W8):W8:=match k with
 | .bin op _=>.of λst P=>l.e st (Md P op r.e)
 | .cmp op _=>.ofT (λst P=>l.e st (Ld P op r.e)) λst P=>l.e st (I9 P op r.e)
 | .sub _=>.of (λst P=>l.e st (K9 P r.e)) λv st P=>l.e st (ID P v r.e)
 | .cons=>⟨λ_ _=>False,λ_ _=>False,λop st P=>(match op with
   | .And=>l.t st (K8 P (r.al .And))
   | .Or=>l.t st (Nt P (r.al .Or))),
  λst P=>l.e st (Nl P r.es),λ_ _=>False,λ_ _=>False,vv,λvs st P=>(match vs with|v::vs=>l.a v st (kW P (r.as vs))|_=>False)⟩
 | .kw y _=>⟨λ_ _=>False,λ_ _=>False,λ_ _ _=>False,λ_ _=>False,λst P=>l.e st (NQ P y r.ks),λ_ _=>False,vv,λ_ _ _=>False⟩
noncomputable def KA (D:Nat) (k:PC) (l m r:W8):W8:=match k with
 | .ifx _=>.ofT (λst P=>l.t st (Nw P m.e r.e)) λst P=>l.t st (M9 P m.t r.t)
 | .cmp2 op op2 _=>.ofT (λ_ _=>False) λst P=>l.e st (Nk P op op2 m.e r.e)
 | .slc _ _=>.of λst P=>l.e st (Nm P m.o r.o)
 | .call _=>.of λst P=>l.e st (N9 P D m.es r.ks)
 | .meth y _ _=>.of λst P=>l.e st (NL P D y m.es r.ks)
noncomputable def wW (D:Nat) (x:Sx):PE->W8
 | .a k=>Kz D x k
 | .u k e=>KQ k (wW D x e) (e.toMs x).length
 | .b k l r=>CW k (wW D x l) (wW D x r)
 | .c k l m r=>KA D k (wW D x l) (wW D x m) (wW D x r)
noncomputable def oq (D:Nat) (x:Sx):PE->AV->St->(St->Prop)->Prop
 | .b .cons t ts,v,st,P=>(wW D x t).a v st (kW P (oq D x ts v))
 |_,_,st,P=>P st
noncomputable def KX (D:Nat) (x:Sx) (k:SA) (st:St) (P:AF->St->Prop):Prop:=match k with
 | .doc s=>DocOk s/\P .next st
 | .dead _=>False
 | .raw s=>zA D x s st P
 | .pass _=>P .next st
 | .brk _=>P .brk st
 | .cont _=>P .cont st
 | .ret0 _=>P (.ret .none) st
noncomputable def Bo (D:Nat) (x:Sx) (op:Operator) (t e:PE) (st:St) (P:AF->St->Prop):Prop:=match t with
 | .a k=>(match k with
  | .loc i _=>(match st.loc[i]? with
   |some (some old)=>(wW D x e).e st (N6 P i op old)
   |_=>False)
  |_=>False)
 | .b k o i=>(match k with
  | .sub _=>(wW D x o).e st (MV P op (wW D x i).e (wW D x e).e)
  |_=>False)
 |_=>False
noncomputable def CX (D:Nat) (x:Sx) (k:SE) (t e:PE) (st:St) (P:AF->St->Prop):Prop:=match k with
 | .expr _=>(wW D x e).e st (Nx P)
 | .ret _=>(wW D x e).e st (KP P)
 | .asg _=>(wW D x e).e st (LK P (oq D x t))
 | .aug op _=>Bo D x op t e st P
 | .tas ..=>(wW D x e).es st (MW P (t.toMs x).length (wW D x t).as)
 | .swp ts ..=>(wW D x e).es st (Lj P (ts.map (·.1)) ts.length)
structure W2 where
 s:WB
 ss:WB
noncomputable def W2.of (s:WB):W2:=⟨s,λ_ _=>False⟩
noncomputable def wS (D:Nat) (x:Sx):PS->W2
 | .a k=>.of (KX D x k)
 | .e k t y=>.of (CX D x k t y)
 | .ite t b o _=>.of λst P=>(wW D x t).t st (Mw P (wS D x b).ss (wS D x o).ss)
 | .whl t b _=>.of λst P=>∃n,iQ (wW D x t).t (wS D x b).ss n st P
 | .fer t it b _=>.of λst P=>(wW D x it).e st (MH P (wW D x t).a (wS D x b).ss)
 | .fen ts _ _ g _ _ it b _=>.of λst P=>(∃y,x.gls[g]? =some (y,.type "enumerate"))/\(ts.toMs x).length=2/\(wW D x it).e st (Lz P (ji (wW D x ts).as) (wS D x b).ss)
 | .nil=>⟨λ_ _=>False,λst P=>P .next st⟩
 | .cons s ss=>⟨λ_ _=>False,λst P=>(wS D x s).s st (BK P (wS D x ss).ss)⟩
noncomputable abbrev bB (D:Nat) (x:Sx) (b:PS):WB:=(wS D x b).ss
theorem iq {n:Int} (h:small n):Builtin.Int.intBits n<=64:=by
 unfold Builtin.Int.intBits
 unfold small at h
 have hb:n.natAbs<2^64:=aH h (by decide)
 by_cases h0:n.natAbs=0
 ·simp only[h0];have:Nat.log2 0=0:=by decide+kernel
  rw[this];split<;>omega
 ·have:=(Nat.log2_lt (n:=n.natAbs) (k:=64) h0).mpr hb
  split<;>omega
theorem fc {n:Int} (h:small n):n.natAbs<2^1024-2^970:=
 aP h (by decide+kernel)
theorem vS {n:Int} (h:small n):¬PySem.Flt.Over n:=Nat.not_le.mpr (fc h)
theorem qh {a b:Int} (h:small b):Builtin.divisionGoesByPylong a b=false:=by
 have hb:=iq h
 unfold Builtin.divisionGoesByPylong
 unfold small at h
 by_cases h0:b=0
 ·subst h0;rfl
 ·have h1:b.natAbs.log2<64:=(Nat.log2_lt (by omega)).mpr (by omega)
  have h2:(b==0)=false:=by simp[h0]
  simp only[h2,Bool.false_eq_true,if_false,Bool.and_eq_false_iff,decide_eq_false_iff_not]
  left;omega
theorem yh (x y:List Nat):tx x++tx y=tx (x++y):=by
 show(Str.mk _:Str)=_
 simp[tx]
theorem nP {x y:List Nat}:tx x=tx y↔x=y:=⟨λh=>by unfold tx at h;simpa using h,λh=>h▸rfl⟩
section
variable {D:Nat} {C:Cx} {st:St} {r:RS C st} {P:PV} {Q:Value->Shared->Prop} {va vb:Value}
theorem Eo {a b:Int} (h0:0<=b) (h1:b<1000) (h:small a):((Builtin.Int.intBits a:Nat):Int)*b<=64*1000:=
 Int.mul_le_mul (c:=64) (d:=1000) (Int.ofNat_le.mpr (iq h)) (Int.le_of_lt h1) h0 (by decide)
theorem Jl {op:Operator} {a b:Int} (da:r.D (.int a) va) (db:r.D (.int b) vb) (h:Ct op a b st P) (k:Kt r P Q):WP C (binaryOp op va vb) Q r.s:=
 da.intE λt=>db.intE λu=>by
  cases op with
  |Add=>exact PyProof.Rows.add_int (k.int h _ (aK _))
  |Sub=>exact sub_int (k.int h _ (aK _))
  |Mult=>exact mul_int (k.int h.2 _ (aK _)) (h.1.elim (λh=>IntMulOk.of_left (iq h)) λh=>IntMulOk.of_right (iq h))
  |FloorDiv=>exact floordiv_int h.1 (k.int h.2.2 _ (aK _)) (.inl (qh h.2.1))
  |Mod=>exact mod_int' h.1 (k.int h.2 _ (aK _))
  |Pow=>exact pow_int h.1 (Int.le_trans (Eo h.1 h.2.1 h.2.2.1) (by decide)) (k.int h.2.2.2 _ (aK _))
  |Div=>exact PySem.AutoIntOps.truediv_2 (λe=>h.1 (eq_of_beq e)) (by rw[h.2.1];exact au) (by exact k.flt h.2.2 _ (aK _))
  |RShift=>exact rshift_int h.1 (k.int h.2 _ (aK _))
  |BitAnd=>exact and_int (k.int h _ (aK _))
  |_=>exact False.elim h
theorem Ja (hh:C.A.handled=none) {op:Operator} {a b:UInt64} {ka kb:Option Tok} (da:r.D (.flt a ka) va) (db:r.D (.flt b kb) vb) (h:Co op a b st P) (k:Kt r P Q):WP C (binaryOp op va vb) Q r.s:=
 da.fltE λt _=>db.fltE λu _=>by
  cases op with
  |Add=>exact add_float (k.flt h _ (aK _))
  |Sub=>exact sub_float (k.flt h _ (aK _))
  |Mult=>exact mul_float (k.flt h _ (aK _))
  |Div=>exact truediv_float_or hh (λz=>by rw[h.1] at z;cases z) λ_=>k.flt h.2 _ (aK _)
  |_=>exact False.elim h
theorem Kt.fltT (k:Kt r P Q) {x:UInt64} (h:∀t,st.tk<=t->P (.flt x (some t)) {st with tk:=t+1}):Q (.float x r.s.toks) {r.s with toks:=r.s.toks+1}:=
 k (RS.tkUp r.tick (t:=r.s.toks+1) (ak _)) _ _ ⟨aw,λ_ h=>h,rfl⟩ (h _ r.tk) (.flt _ _ _ λ_ h=>Option.some.inj h)
theorem FP (hh:C.A.handled=none) {op:Operator} {a:UInt64} {b:Int} {ka:Option Tok} (da:r.D (.flt a ka) va) (db:r.D (.int b) vb) (h:y8 op a b st P) (k:Kt r P Q):WP C (binaryOp op va vb) Q r.s:=
 da.fltE λt _=>db.intE λu=>by
  cases op with
  |Mult=>exact mul_fi_sharp hh (λz=>absurd (fc h.1) (Nat.not_lt.mpr z)) λ_=>k.flt h.2 _ (aK _)
  |Div=>exact PySem.Flt.truediv_fi hh (λz=>absurd z (vS h.1)) (λz=>absurd z h.2.1) λ_ _=>k.fltT h.2.2
  |Sub=>exact sub_fi_sharp hh (λz=>absurd (fc h.1) (Nat.not_lt.mpr z)) λ_=>k.flt h.2 _ (aK _)
  |_=>exact False.elim h
theorem G5 (hh:C.A.handled=none) {op:Operator} {a:Int} {b:UInt64} {kb:Option Tok} (da:r.D (.int a) va) (db:r.D (.flt b kb) vb) (h:y7 op a b st P) (k:Kt r P Q):WP C (binaryOp op va vb) Q r.s:=
 da.intE λt=>db.fltE λu _=>by
  cases op with
  |Mult=>exact mul_if_sharp hh (λz=>absurd (fc h.1) (Nat.not_lt.mpr z)) λ_=>k.flt h.2 _ (aK _)
  |Sub=>exact sub_if_sharp hh (λz=>absurd (fc h.1) (Nat.not_lt.mpr z)) λ_=>k.flt h.2 _ (aK _)
  |_=>exact False.elim h
theorem MY (H:CxB D C) {op:Operator} {a b:AV} (da:r.D a va) (db:r.D b vb) (h:pC op a b st P) (k:Kt r P Q):WP C (binaryOp op va vb) Q r.s:=by
 cases a with
 |int a=>
  cases b with
  |int b=>exact Jl da db h k
  |flt b=>exact G5 H.hh da db h k
  |_=>exact False.elim h
 |flt a=>
  cases b with
  |int b=>exact FP H.hh da db h k
  |flt b=>exact Ja H.hh da db h k
  |_=>exact False.elim h
 |_=>exact h.run H r da db k
theorem HK {op:Operator} {a b:AV} (da:r.D a va) (db:r.D b vb) (h:wZ op a b st P) (k:Kt r P Q):WP C (inplaceOp op va vb) Q r.s:=by
 cases a with
 |int a=>
  cases b with
  |int b=>
   exact da.intE λt=>db.intE λu=>by
    cases op with
    |Add=>exact iadd_int (k.int h _ (aK _))
    |Sub=>exact isub_int (k.int h _ (aK _))
    |_=>exact False.elim h
  |_=>exact False.elim h
 |_=>exact False.elim h
theorem oV {a b:Int}:(a==b)=decide (a=b):=rfl
theorem jH {a b:List Nat}:(tx a==tx b)=decide (a=b):=by
 by_cases e:a=b
 ·subst e;simp
 ·have:tx a≠tx b:=λh=>e (nP.mp h)
  simp[e,this]
theorem Oa {a:AV} {P:Bool->Prop} (da:r.D a va) (h:(a=.none/\P true)∨(a.isRef=true/\P false)) (k:∀b,P b->Q (.bool b) r.s):WP C (compareOp .Is va .none) Q r.s:=by
 rcases h with⟨rfl,h⟩|⟨e,h⟩
 ·exact da.noneE (is_none_gen (k _ h))
 ·cases a with
  |int=>exact da.intE λ_=>is_int_none (k _ h)
  |str=>exact da.strE λ_ _=>is_str_none (k _ h)
  |ref=>exact da.refE λ_ _=>is_ref_none (k _ h)
  |tup=>exact da.tupE λ_ _ _ _ _ _=>is_ref_none (k _ h)
  |ilst=>exact da.ilstE λ_ _ _ _ _=>is_ref_none (k _ h)
  |_=>exact absurd e au
theorem Gm {a:AV} {P:Bool->Prop} (da:r.D a va) (h:(a=.none/\P false)∨(a.isRef=true/\P true)) (k:∀b,P b->Q (.bool b) r.s):WP C (compareOp .IsNot va .none) Q r.s:=by
 rcases h with⟨rfl,h⟩|⟨e,h⟩
 ·exact da.noneE (isnot_none_gen (k _ h))
 ·cases a with
  |int=>exact da.intE λ_=>isnot_int_none (k _ h)
  |str=>exact da.strE λ_ _=>isnot_str_none (k _ h)
  |ref=>exact da.refE λ_ _=>isnot_ref_none (k _ h)
  |tup=>exact da.tupE λ_ _ _ _ _ _=>isnot_ref_none (k _ h)
  |ilst=>exact da.ilstE λ_ _ _ _ _=>isnot_ref_none (k _ h)
  |_=>exact absurd e au
theorem J1 {op:CmpOp} {a b:Int} {P:Bool->Prop} (da:r.D (.int a) va) (db:r.D (.int b) vb) (h:Cf op a b P) (k:∀b,P b->Q (.bool b) r.s):WP C (compareOp op va vb) Q r.s:=
 da.intE λt=>db.intE λu=>by
  cases op with
  |Lt=>exact PyProof.Rows.lt_int (k _ h)
  |LtE=>exact PyProof.Rows.le_int (k _ h)
  |Gt=>exact PyProof.Rows.gt_int (k _ h)
  |GtE=>exact PyProof.Rows.ge_int (k _ h)
  |Eq=>exact PyProof.Rows.eq_int (k _ h)
  |NotEq=>exact PyProof.Rows.ne_int (k _ h)
  |_=>exact False.elim h
theorem xg (H:CxB D C) {op:CmpOp} {a b:AV} {P:Bool->Prop} (da:r.D a va) (db:r.D b vb) (h:gL op a b st P) (k:∀(r':RS C st) b,Le r r'->P b->Q (.bool b) r'.s):WP C (compareOp op va vb) Q r.s:=by
 cases b with
 |none=>
  exact db.noneE (by
   cases op with
   |Is=>exact Oa da h λb=>k r b .rf
   |IsNot=>exact Gm da h λb=>k r b .rf
   |_=>exact False.elim h)
 |int b=>
  cases a with
  |int a=>exact J1 da db h λb=>k r b .rf
  |_=>exact h.run H r da db k
 |_=>exact h.run H r da db k
theorem yS {g:List Nat} (h:g.length<100000):¬(((tx g).length:Nat):Int)≥2^63:=Int.not_le.mpr (Int.lt_of_lt_of_le (Int.ofNat_lt.mpr (show(tx g).length<100000 from h)) (by decide))
theorem FZ {g:List Nat}:((((tx g).length:Nat):Int)!=0)= !g.isEmpty:=by
 cases g<;>rfl
theorem RS.toks_le {t:Nat} {ht:r.s.toks<=t}:Le r (r.toks t ht):=⟨aw,λ_ h=>h,rfl⟩
theorem zu (H:CxB D C) {v:AV} {P:Bool->Prop} {Q:Bool->Shared->Prop} (d:r.D v va) (h:nV v st P) (k:∀(r':RS C st) b,Le r r'->P b->Q b r'.s):WP C (truthy va) Q r.s:=by
 cases v with
 |bool b=>exact d.boolE (ah (k r _ .rf h))
 |int i=>exact d.intE λ_=>PyProof.Rows.truthy_int (k r _ .rf h)
 |none=>exact d.noneE (truthy_none (k r _ .rf h))
 |str g=>exact d.strE λ_ _=>PySem.P.truthy_str (yS (aH h.1 (by decide))) (by rw[FZ];exact k (r.toks _ (aQ _ 2)) _ RS.toks_le h.2)
 |_=>exact h.run H r d k
theorem LR {v:AV} (d:r.D v va) (h:Hx v st P) (k:Kt r P Q):WP C (unaryOp .USub va) Q r.s:=by
 cases v with
 |int i=>exact d.intE λ_=>neg_int (k.int h _ (aK _))
 |_=>exact False.elim h
theorem Kt.strT (k:Kt r P Q) {g:List Nat} (h:∀t,st.tk<=t->P (.str g (some t)) {st with tk:=t+1}):Q (.str (tx g) r.s.toks) {r.s with toks:=r.s.toks+1}:=
 k (RS.tkUp r.tick (t:=r.s.toks+1) (ak _)) _ _ ⟨aw,λ_ h=>h,rfl⟩ (h _ r.tk) (.str _ _ _ λ_ h=>Option.some.inj h)
theorem KZ {c:Const} {kk:Nat} {p:Pos} (h:HM c st P) (k:Kt r P Q):WP C (eval (.Constant c kk p) C.env) Q r.s:=by
 cases c with
 |int=>exact wpAny_Constant_int (k.int h _ (aK _))
 |none=>exact wpAny_Constant_none (k.none h)
 |bool=>exact Constant_bool (k.bool h)
 |float=>exact wpAny_Constant_float (k.flt h _ (aK _))
 |str=>exact h.elim λg h=>h.1▸wpAny_Constant_str (k.strT h.2)
 |_=>exact False.elim h
theorem cD {l:List Str} {i:Nat} {y:Str} (h:l[i]? =some y):bu l i=y:=by unfold bu;rw[aB,h];rfl
theorem Kq {i:Nat} (h:mQ i st P):∃v,st.loc[i]? =some (some v)/\P v st:=by
 unfold mQ at h
 revert h
 cases e:st.loc[i]? with
 |none=>exact False.elim
 |some o=>cases o with
  |none=>exact False.elim
  |some v=>exactλh=>⟨v,rfl,h⟩
theorem xn {x:Sx} (H:bJ D C x) {i:Nat} {p:Pos} (hi:i<x.nms.length) (h:mQ i st P) (k:Kt r P Q):WP C (eval (.Name (bu x.nms i) p) C.env) Q r.s:=by
 have hy:=aq hi
 rw[cD hy]
 have h2:=H.lc _ (List.getElem_mem hi)
 refine(Kq h).elim λv e=>(r.loc i _ v (by rw[H.nms];exact hy) e.1).elim λu z=>?_
 exact wpAny_Name (wpAny_loadName_local H.kind h2.1 r.fr.ns z.1 (k r _ _ .rf e.2 z.2)) h2.2
theorem Hw {x:Sx} (H:bJ D C x) {i:Nat} {q:Str×Nat} {v:Option AV} (e:x.cls[i]? =some q) (e':st.at q.2=some (.cell v)):bu (x.cls.map (·.1)) i=q.1/\C.env.kindOf q.1=some .cell/\(q.1==("__debug__":Str))=false/\∃a o,r.T[q.2]? =some (a,o)/\C.env.cells.lookup q.1=some a/\cP r.G r.ρ (.cell v) o:=by
 have hm:(q.1,q.2)∈x.cls:=a0 e
 have h1:=H.cc _ hm
 refine⟨cD (by rw[aO,e];rfl),h1.1,h1.2,r.atE e' λa o h d=>⟨a,o,h,?_,d⟩⟩
 refine(r.cel q.1 q.2 (by rw[H.cls];exact hm)).elim λb z=>?_
 exact z.2.trans (z.1.symm.trans (bF h))
theorem LL {x:Sx} (H:bJ D C x) {i:Nat} {p:Pos} (h:cE x i st P) (k:Kt r P Q):WP C (eval (.Name (bu (x.cls.map (·.1)) i) p) C.env) Q r.s:=by
 unfold cE at h
 revert h
 cases e:x.cls[i]? with
 |none=>exact False.elim
 |some q=>
  dsimp only
  cases e':st.at q.2 with
  |none=>exact False.elim
  |some o=>cases o with
   |cell v=>cases v with
    |none=>exact False.elim
    |some v=>
     intro h
     obtain⟨h0,h1,h2,a,o,ha,hc,d⟩:=Hw (r:=r) H e e'
     rw[h0]
     exact d.elim λu d=>wpAny_Name (wpAny_loadName_cell H.kind h1 hc ⟨_,r.get ha,d.1⟩ (k r _ _ .rf h d.2)) h2
   |_=>exact False.elim
theorem w4 {x:Sx} (H:bJ D C x) {i:Nat} {p:Pos} (h:pj x i st P) (k:Kt r P Q):WP C (eval (.Name (bu (x.gls.map (·.1)) i) p) C.env) Q r.s:=by
 unfold pj at h
 revert h
 cases e:x.gls[i]? with
 |none=>exact False.elim
 |some q=>
  intro h
  rw[cD (by rw[aO,e];rfl)]
  obtain⟨h1,h2,h3⟩:=H.gl _ (a0 e)
  obtain⟨_,_,_,_,T⟩:=H.top
  rcases h3 with h3|⟨h3,h4,h5⟩
  ·exact nameG_K r.fr H.kin T h3 (k r _ _ .rf h (.val _)) H.glob H.kind h1 h2
  ·exact Name_function_global H.kind h1 (loadGlobal_builtin (env:=C.env) (by rw[H.glob];exact T.g.keeps r.fr.keep) (mg_none_of H.kin T.g h3) (by rw[H.bi];exact T.b.keeps r.fr.keep) ((T.builtins _ h5).trans h4) (k r _ _ .rf h (.val _))) h2
theorem ja {x:Sx} (H:bJ D C x) {i:Nat} {v:AV} {u:Value} {P:St->Prop} {Q:Unit->Shared->Prop} (hi:i<x.nms.length) (d:r.D v u) (h:P (st.var i v)) (k:ju r P Q):WP C (storeName C.env (bu x.nms i) u) Q r.s:=by
 have hy:=aq hi
 rw[cD hy]
 exact wpAny_storeName_local (H.lc _ (List.getElem_mem hi)).1 r.fr.ns (λh' hn hs=>k (r.store (i:=i) (by rw[H.nms];exact hy) (by rw[H.nms];exact H.nd) hs hn d _ (aK _)) ⟨aw,λ_ h=>h,rfl⟩ h) (by rw[H.kind];rfl)
theorem yG {x:Sx} (H:bJ D C x) {i:Nat} {v:AV} {u:Value} {P:St->Prop} {Q:Unit->Shared->Prop} (d:r.D v u) (h:ix x i v st P) (k:ju r P Q):WP C (storeName C.env (bu (x.cls.map (·.1)) i) u) Q r.s:=by
 unfold ix at h
 revert h
 cases e:x.cls[i]? with
 |none=>exact False.elim
 |some q=>
  dsimp only
  cases e':st.at q.2 with
  |none=>exact False.elim
  |some o=>cases o with
   |cell w=>
    intro h
    obtain⟨h0,h1,h2,a,o,ha,hc,d'⟩:=Hw (r:=r) H e e'
    rw[h0]
    have ho:∃z,o.data=.cell z:=by cases w with|none=>exact⟨_,d'⟩|some w=>exact d'.elim λz d=>⟨_,d.1⟩
    obtain⟨z,hz⟩:=ho
    exact wpAny_storeName_cell H.kind h1 hc ⟨_,r.get ha,hz⟩ λh' hv hs=>hv.elim λo' ho=>k (r.upd (v:=.cell (some v)) ha (r.sameFr (r.tAt ha) hs) (r.setNews ha hs ho.1) ⟨_,ho.2,d⟩ _ (ak _)) r.upd_le h
   |_=>exact False.elim
theorem D4 (H:CxB D C) {v:AV} {u:Value} {n:Nat} {P:List AV->Prop} {Q:List Value->Shared->Prop} (d:r.D v u) (h:o4 v st P) (hn:∀vs,P vs->vs.length=n) (k:∀(r':RS C st) vs us,Le r r'->P vs->r'.Ds vs us->Q us r'.s):WP C (unpackItems u n none) Q r.s:=by
 have key:∀{vs:List AV},r.D (.tup (.type "tuple") vs) u->P vs->WP C (unpackItems u n none) Q r.s:=λ{vs} d h=>d.tupE λa xs nn dx g d=>by
  have hl:n=xs.toArray.size:=by rw[ay,<-d.length,hn vs h]
  rw[hl]
  exact wpAny_unpackItems_tuple H.hh ⟨_,r.gGet g,rfl,nn,rfl⟩ λh' he=>k (r.keeps (λb o e=>he b o (aW (ba e)) e) _ (ak _)) vs xs ⟨aw,λ_ h=>h,rfl⟩ h (d.mono (λ_ _ g=>g) List.nil_prefix)
 unfold o4 at h
 split at h
 ·exact key d h
 ·exact h.run H r d hn k
end
theorem ug {M:Model} {u:Value} (h:Heap) (X:jg u h):∃k,(k=Keeper.frame∨k=Keeper.machine∨k=Keeper.boundFrame)/\Looks M h (keeperOf u) k:=by
 cases u with
 |builtin=>exact⟨.machine,.inr (.inl rfl),Looks.of_pure rfl⟩
 |type=>exact⟨.machine,.inr (.inl rfl),Looks.of_pure rfl⟩
 |ref a=>exact X.2.elim (λh1=>keeps_K h1 h X.1) λh1=>h1.elim λ_ h1=>h1.elim λ_ h1=>⟨.machine,.inr (.inl rfl),(Looks.ld (part:=none) h1).andThen (Looks.of_pure rfl)⟩
 |_=>exact X.2.elim
theorem jw {M:Model} {A:Around} {E:Value->Shared->Prop} {s:Shared} {f:Value} {args:List (Bool×Sem Value)} {keywords:List (Option Str×Sem Value)} {Q:Args->Shared->Prop} (hs:∀p∈args,p.1=false) (hall:keywords.all (·.1.isSome)=true)
  (h:wpAny M A (spliced args) (λvs s₁=>wpAny M A (evalAll (keywords.map (·.2))) (λkvs s₂=>Q ⟨vs,(keywords.filterMap (·.1)).zip kvs⟩ s₂) E s₁) E s):wpAny M A (evalArgs f true args keywords) Q E s:=by
 have e:evalArgs f true args keywords=(spliced args>>=λpos=>holding (pos++[]) (do
   if keywords.all (·.1.isSome) then
    let kw:=(keywords.filterMap (·.1)).zip (<-evalAll (keywords.map (·.2)))
    return ⟨<-pure pos,kw⟩
   let d<-mergedKeywords f keywords
   let pos<-pure pos
   return ⟨pos,<-holding (.ref d::pos) (keywordsIn f d)⟩)):=by
  match args,hs with
  |[],_=>rfl
  |(true,y)::r,hs=>exact absurd (hs _ (.head _)) (by simp)
  |(false,y)::r,_=>rfl
 rw[e]
 refine ae (wpAny_mono h (λvs s' h'=>?_) λ_ _ z=>z)
 refine aM ?_
 rw[if_pos hall]
 exact ae (wpAny_mono h' (λkvs s₂ h₂=>ae (ah (ah h₂))) λ_ _ z=>z)
theorem cS {α:Type} {M:Model} {A:Around} {t:Sem α} {Q:α->Shared->Prop} {s:Shared} {E:Value->Shared->Prop} (h:wpAny M A t Q b9 s):wpAny M A t Q E s:=wpAny_mono h (λ_ _ z=>z) λ_ _ z=>z.elim
structure Pl (kd:Nat) (e:Expr):Prop where
 star:∀(l:List Expr) (env:Env),starEach (e::l) env=(false,eval e env)::starEach l env
 asn:∀(l:List Expr) (env:Env),assignEach (e::l) env=(false,assign e env)::assignEach l env
 sub:∀o i,subscripted e false o i=operate [o,i] (getItem o i)
 mks:∀op,behindInMarks op e=false
 fold:∀env x,foldedSetIterable e env x=pure x
 base:(kd==1)=false->∀y env whole,attributeBase e y env whole=whole
 call:(kd==2)=false->∀as ks p env,eval (.Call e as ks p) env=(do callWith p (<-eval e env) [] (backTo p (starEach as env)) (backToKw p (keywordEach ks env)))
 comp:(kd==3)=false->∀t l env,swapsWith e t l env=pure false
 tup:(kd==4)=false->∀ts k p env,swappedStores [.Tuple ts k p] e env=pure none/\swappedStores [.List ts p] e env=pure none
 sw:∀y l e' env,swappedStores (e::y::l) e' env=pure none
 store:(kd==5)=false->∀a b c,augStore e a b c=(do
  holding [c,a,b] (setItem a b c)
  release [c,a,b] []
  pure .next)
theorem PE.pl (x:Sx) (e:PE):Pl e.kd (e.toM x):=by
 cases e with
 |a k=>cases k<;>exact⟨λ_ _=>rfl,λ_ _=>rfl,λ_ _=>rfl,λ_=>rfl,λ_ _=>rfl,λh=>by first|exact absurd h.symm au|exactλ_ _ _=>rfl,λ_=>by exactλ_ _ _ _=>rfl,λh=>by first|exact absurd h.symm au|exactλ_ _ _=>rfl,λ_=>by exactλ_ _ _ _=>⟨rfl,rfl⟩,λ_ _ _ _=>rfl,λ_=>by exactλ_ _ _=>rfl⟩
 |u k e=>cases k<;>exact⟨λ_ _=>rfl,λ_ _=>rfl,λ_ _=>rfl,λ_=>rfl,λ_ _=>rfl,λ_=>by exactλ_ _ _=>rfl,λh=>by first|exact absurd h.symm au|exactλ_ _ _ _=>rfl,λ_=>by exactλ_ _ _=>rfl,λh=>by first|exact absurd h.symm au|exactλ_ _ _ _=>⟨rfl,rfl⟩,λ_ _ _ _=>rfl,λ_=>by exactλ_ _ _=>rfl⟩
 |b k l r=>cases k<;>exact⟨λ_ _=>rfl,λ_ _=>rfl,λ_ _=>rfl,λ_=>rfl,λ_ _=>rfl,λ_=>by exactλ_ _ _=>rfl,λ_=>by exactλ_ _ _ _=>rfl,λ_=>by exactλ_ _ _=>rfl,λ_=>by exactλ_ _ _ _=>⟨rfl,rfl⟩,λ_ _ _ _=>rfl,λ_=>by exactλ_ _ _=>rfl⟩
 |c k l m r=>cases k<;>exact⟨λ_ _=>rfl,λ_ _=>rfl,λ_ _=>rfl,λ_=>rfl,λ_ _=>rfl,λh=>by first|exact absurd h.symm au|exactλ_ _ _=>rfl,λ_=>by exactλ_ _ _ _=>rfl,λ_=>by exactλ_ _ _=>rfl,λ_=>by exactλ_ _ _ _=>⟨rfl,rfl⟩,λ_ _ _ _=>rfl,λh=>by first|exact absurd h.symm au|exactλ_ _ _=>rfl⟩
noncomputable def pb (l:List Keyword):List Str:=l.filterMap (·.arg)
structure Sl (env:Env) (m:M3):Prop where
 kn:∀pos,(backToKw pos (keywordEach m.ks env)).filterMap (·.1)=pb m.ks
 ka:∀pos,(backToKw pos (keywordEach m.ks env)).all (·.1.isSome)=true
 sn:∀pos,∀p∈backTo pos (starEach m.es env),p.1=false
 al:(assignEach m.es env).length=m.es.length
 an:(assignEach m.es env).findIdx? (·.1)=none
structure fw (C:Cx) (m:M3) (w:W8):Prop where
 l:Sl C.env m
 e:∀{st:St} {P:PV} {Q:Value->Shared->Prop} (r:RS C st),w.e st P->Kt r P Q->WP C (eval m.e C.env) Q r.s
 t:∀{st:St} {P:Bool->St->Prop} {Q:Bool->Shared->Prop} (r:RS C st),w.t st P->tU r P Q->WP C (PySem.isTrue m.e C.env (eval m.e C.env)) Q r.s
 al:∀{op:BoolOp} {st:St} {P:Bool->St->Prop} {Q:Bool->Shared->Prop} (r:RS C st),w.al op st P->tU r P Q->WP C (allTrue op m.es C.env) Q r.s
 es:∀{pos:Pos} {st:St} {P:List AV->St->Prop} {Q:List Value->Shared->Prop} (r:RS C st),w.es st P->NB r P Q->WP C (spliced (backTo pos (starEach m.es C.env))) Q r.s
 ks:∀{pos:Pos} {st:St} {P:List (Str×AV)->St->Prop} {Q:List Value->Shared->Prop} (r:RS C st),w.ks st P->N5 r (pb m.ks) P Q->WP C (evalAll ((backToKw pos (keywordEach m.ks C.env)).map (·.2))) Q r.s
 o:∀{st:St} {P:PV} {Q:Value->Shared->Prop} (r:RS C st),w.o st P->Kt r P Q->WP C (evalPart m.o C.env) Q r.s
 a:∀{st:St} {v:AV} {u:Value} {P:St->Prop} {Q:Unit->Shared->Prop} (r:RS C st),r.D v u->w.a v st P->ju r P Q->WP C (assign m.e C.env u) Q r.s
 as:∀{st:St} {vs:List AV} {us:List Value} {P:St->Prop} {Q:Unit->Shared->Prop} (r:RS C st),r.Ds vs us->w.as vs st P->ju r P Q->WP C (assignInOrder ((assignEach m.es C.env).map (·.2)) us) Q r.s
theorem k6 {env:Env} {e:Expr} {o:Option Expr}:Sl env ⟨e,[],[],o⟩:=⟨λ_=>rfl,λ_=>rfl,λ_ _ h=>(nomatch h),rfl,rfl⟩
section
variable {D:Nat} {C:Cx} {x:Sx}
abbrev Kw (C:Cx) (ex:Expr) (e:St->PV->Prop):Prop:=∀{st:St} {P:PV} {Q:Value->Shared->Prop} (r:RS C st),e st P->Kt r P Q->WP C (eval ex C.env) Q r.s
abbrev Ip (C:Cx) (ex:Expr) (a:AV->St->(St->Prop)->Prop):Prop:=∀{st:St} {v:AV} {u:Value} {P:St->Prop} {Q:Unit->Shared->Prop} (r:RS C st),r.D v u->a v st P->ju r P Q->WP C (assign ex C.env u) Q r.s
abbrev Kv (C:Cx) (ex:Expr) (t:St->(Bool->St->Prop)->Prop):Prop:=∀{st:St} {P:Bool->St->Prop} {Q:Bool->Shared->Prop} (r:RS C st),t st P->tU r P Q->WP C (PySem.isTrue ex C.env (eval ex C.env)) Q r.s
theorem e9 {ex:Expr}:Ip C ex vv:=λ_ _ h=>h.elim
theorem fw.of (H:CxB D C) {ex:Expr} {e:St->PV->Prop} {a:AV->St->(St->Prop)->Prop} (h:Kw C ex e) (hp:∀whole:Sem Value,PySem.isTrue ex C.env whole=(do let v<-whole;standAt ex.pos;holding [v] (truthy v))) (ha:Ip C ex a):fw C (.of ex) (.of e a):=
 ⟨k6,h,λr w k=>isTrue_plain (h r w λr1 _ _ l1 h1 d1=>zu H d1 h1 λr2 _ l2 hb=>k r2 _ (l1.trans l2) hb) (hp _),λ_ h=>h.elim,λ_ h=>h.elim,λ_ h=>h.elim,h,ha,λ_ _ h=>h.elim⟩
theorem fw.ofT {ex:Expr} {e:St->PV->Prop} {t:St->(Bool->St->Prop)->Prop} (h:Kw C ex e) (ht:Kv C ex t):fw C (.of ex) (.ofT e t):=
 ⟨k6,h,ht,λ_ h=>h.elim,λ_ h=>h.elim,λ_ h=>h.elim,h,e9,λ_ _ h=>h.elim⟩
theorem aE {a b:Bool} (h:(a&&b)=true):a=true:=(Bool.and_eq_true_iff.mp h).1
theorem aA {a b:Bool} (h:(a&&b)=true):b=true:=(Bool.and_eq_true_iff.mp h).2
theorem cO {b:Bool} (h:(!b)=true):b=false:=by cases b with|false=>rfl|true=>exact h.symm
theorem nE {K':Type} [DecidableEq K'] {knd:PySem.KeyKind pw W0 K'}:({cls:=.type "dict",data:=.dict #[]}:Obj).IsDictOf knd []:=
 ⟨#[],0,⟨rfl,rfl,rfl⟩,rfl,(λe h=>by simp at h),.nil,List.nodup_nil⟩
def RS.push {st:St} (r:RS C st) (o:Obj) {v:AO} (d:∀ρ,r.ρ<+:ρ->cP r.G ρ v o) (hf:o.isFreed=false):RS C (st.add v):=
 r.new (a:=r.s.heap.objs.size) (o:=o) (r.fr.push o) (News.push r.fr r.nw o hf) (ak _) (d _ cI) r.s.toks (ak _)
theorem RS.push_k {st:St} {r:RS C st} {o:Obj} {v:AO} {d:∀ρ,r.ρ<+:ρ->cP r.G ρ v o} {hf:o.isFreed=false} {P:PV} {Q:Value->Shared->Prop} (k:Kt r P Q) (h:P (.ref st.new) (st.add v)):Q (.ref r.s.heap.objs.size) {r.s with heap:=r.s.heap.push o}:=
 k (r.push o d hf) _ _ r.new_le h r.new_den
theorem Kj (H:bJ D C x) (k:PA) (ok:(PE.a k).ok x=true):fw C ((PE.a k).M x) (Kz D x k):=by
 cases k with
 |loc i p=>
  have hi:=aa ok
  exact .of H.toCxB (λr h k=>xn H hi h k) (λ_=>rfl) λr d h k=>wpAny_assign_Name (ja H hi d h.2 k)
 |cel i p=>exact .of H.toCxB (λr h k=>LL H h k) (λ_=>rfl) λr d h k=>wpAny_assign_Name (yG H d h k)
 |glb i p=>exact .of H.toCxB (λr h k=>w4 H h k) (λ_=>rfl) e9
 |cst c kk p=>exact .of H.toCxB (λr h k=>KZ h k) (λ_=>rfl) e9
 |dic0 b p=>
  refine .of H.toCxB (λr h k=>wpAny_Dict_empty ?_) (λ_=>rfl) e9
  cases b with
  |true=>exact RS.push_k (v:=.dictI []) (d:=λ_ _=>⟨[],nE,.nil⟩) (hf:=rfl) k h
  |false=>exact RS.push_k (v:=.dictS []) (d:=λ_ _=>⟨[],nE,.nil⟩) (hf:=rfl) k h
 |rawC=>exact .of H.toCxB (λr h k=>h.run H r k) (λ_=>rfl) e9
 |rawL=>exact .of H.toCxB (λr h k=>h.run H r k) (λ_=>rfl) e9
 |rawA=>exact .of H.toCxB (λr h k=>h.run H r k) (λ_=>rfl) e9
 |nil=>exact⟨k6,λ_ h=>h.elim,λ_ h=>h.elim,λ{op _ _ _} r h k=>(by cases op<;>exact ah (k r _ .rf h)),λr h k=>ah (k r [] [] .rf h .nil),λr h k=>kws_nil (k r [] [] .rf h .nil),λr h k=>ah (k r _ _ .rf h .none),e9,λ{_ vs _ _ _} r d h k=>(by
   cases vs with
   |nil=>exact d.nilE (ah (k r .rf h))
   |cons=>exact h.elim)⟩
theorem lE {G:GP} {ρ:List Addr} {vs:List AV} {us:List Value} (d:aT G ρ vs us) (h:vs.length<=100):us.length<=sizeLine:=by rw[sizeLine_eq,<-d.length];exact ag h (by decide)
theorem jx {M:Model} {A:Around} {E:Value->Shared->Prop} {s:Shared} {vs:List Value} {Q:Value->Shared->Prop} (hl:vs.length<=sizeLine) (h:Q (.ref s.heap.objs.size) {s with heap:=s.heap.push (dW (.type "tuple") vs.toArray 0)}):wpAny M A (newTuple vs) Q E s:=by
 unfold newTuple
 exact wpAny_newObj_type h (by show vs.toArray.size<=sizeLine;rw[ay];exact hl)
theorem nH {M:Model} {A:Around} {E:Value->Shared->Prop} {s:Shared} {vs:List Value} {Q:Value->Shared->Prop} (hl:vs.length<=sizeLine) (h:Q (.ref s.heap.objs.size) {s with heap:=s.heap.push (listOf vs.toArray 0)}):wpAny M A (newList vs) Q E s:=by
 unfold newList
 exact wpAny_newObj_type h (by show vs.toArray.size<=sizeLine;rw[ay];exact hl)
theorem t8 {M:Model} {A:Around} {E:Value->Shared->Prop} {s:Shared} {env:Env} {elts:List Expr} {pos:Pos} {Q:Value->Shared->Prop} (h:wpAny M A (spliced (backTo pos (starEach elts env))) (λvs s₁=>wpAny M A (newList vs) Q E s₁) E s):wpAny M A (eval (.List elts pos) env) Q E s:=by
 show wpAny M A (do standAt pos;newList (<-spliced (backTo pos (starEach elts env)))) Q E s
 exact ae (wpAny_standAt (ae h))
def RS.pushI {st:St} (r:RS C st) (o:Obj) (hf:o.isFreed=false):RS C st:=r.imm (a:=r.s.heap.objs.size) (o:=o) (r.fr.push o) (News.push r.fr r.nw o hf) (ak _) r.s.toks (ak _)
theorem RS.tup_k {st:St} {r:RS C st} {vs:List AV} {us:List Value} {P:PV} {Q:Value->Shared->Prop} (k:Kt r P Q) (d:r.Ds vs us) (hp:cz vs=true) (h:P (.tup (.type "tuple") vs) st):Q (.ref r.s.heap.objs.size) {r.s with heap:=r.s.heap.push (dW (.type "tuple") us.toArray 0)}:=
 k (r.pushI (dW (.type "tuple") us.toArray 0) rfl) _ _ r.imm_le h (.tup _ _ _ us 0 none (.inr (.head _)) ((d.pure hp).mono r.imm_le.G aw))
theorem Le.a {st st' st2:St} {r:RS C st} {r':RS C st'} {r2:RS C st2} (h:Le r r') (k:Le r' r2):Le r r2:=h.trans k
theorem JM (H:bJ D C x) (k:PU) (e:PE) (ok:(PE.u k e).ok x=true) (ih:e.ok x=true->fw C (e.M x) (wW D x e)):fw C ((PE.u k e).M x) (KQ k (wW D x e) (e.toMs x).length):=by
 cases k with
 |neg p=>
  have z:=ih ok
  exact .of H.toCxB (λr h k=>wpAny_UnaryOp (z.e r h λr1 _ _ l1 h1 d1=>LR d1 h1 (k.le l1))) (λ_=>rfl) e9
 |nt p=>
  have z:=ih ok
  exact .ofT (λr h k=>wpAny_UnaryOp (z.e r h λr1 _ _ l1 h1 d1=>not_of (zu H.toCxB d1 h1 λr2 _ l2 hb=>k r2 _ _ (l1.trans l2) hb (.bool _)))) λr h k=>isTrue_not (z.t r h λr1 _ l1 h1=>k r1 _ l1 h1)
 |boo op p=>
  have z:=ih ok
  exact .ofT (λ_ h=>h.elim) λr h k=>z.al r h k
 |att y p=>
  have z:=ih (aA ok)
  refine .of H.toCxB (λr h k=>Attribute_any_ (z.e r h λr1 _ _ l1 h1 d1=>h1.run H.toCxB r1 d1 (k.le l1)) (by
   show(do let o'<-attributeBase (e.toM x) y C.env (eval (e.toM x) C.env);_)=_
   rw[(e.pl x).base (cO (aE ok))])) (λ_=>rfl) λ{_ _ u _ _} r d h k=>?_
  show wpAny _ _ (do let ov<-holding [u] (eval (e.toM x) C.env);standAt p.atName;holding [u,ov] (setAttr ov y u);release [u,ov] []) _ _ _
  exact ae (aM (z.e r h λr1 _ _ l1 h1 d1=>ae (wpAny_standAt (ae (aM (h1.run H.toCxB r1 d1 (d.le l1) λr2 l2 h2=>wpAny_release (k r2 (l1.trans l2) h2)))))))
 |tup kk p=>
  have z:=ih ok
  refine .of H.toCxB (λr h k=>Tuple_ (z.es r h λr1 _ _ l1 h1 d1=>jx (lE d1 h1.1) (RS.tup_k (k.le l1) d1 h1.2.1 h1.2.2))) (λ_=>rfl) λ{_ _ u _ _} r d h k=>?_
  show wpAny _ _ (do standAt p;unpack u (assignEach (e.toMs x) C.env)) _ _ _
  refine ae (wpAny_standAt ?_)
  unfold unpack
  rw[z.l.an]
  exact ae (aM (D4 H.toCxB d h (λvs hv=>by rw[z.l.al];exact hv.1) λr1 _ _ l1 hv ds=>z.as r1 ds hv.2 (k.le l1)))
 |lst p=>
  have z:=ih ok
  exact .of H.toCxB (λr h k=>t8 (z.es r h λr1 vs us l1 h1 d1=>nH (lE d1 h1.1) (RS.push_k (v:=.list vs) (d:=λ_ p=>⟨us,0,rfl,d1.mono (λ_ _ g=>g) p⟩) (hf:=rfl) (k.le l1) h1.2))) (λ_=>rfl) e9
end
section
variable {D:Nat} {C:Cx} {x:Sx}
theorem uw {env:Env} {e:PE} {m:M3} {e0:Expr} (z:Sl env m):Sl env ⟨e0,e.toM x::m.es,[],none⟩:=by
 have hs:=(e.pl x).star m.es env
 have ha:=(e.pl x).asn m.es env
 refine⟨λ_=>rfl,λ_=>rfl,λpos p h=>?_,?_,?_⟩
 ·have h':p∈backTo pos (starEach (e.toM x::m.es) env):=h
  rw[hs] at h'
  exact(aL.mp h').elim (λe=>e▸rfl) (z.sn pos p)
 ·show(assignEach (e.toM x::m.es) env).length=_
  rw[ha];exact congrArg Nat.succ z.al
 ·show(assignEach (e.toM x::m.es) env).findIdx? _=_
  rw[ha,List.findIdx?_cons,z.an];rfl
theorem Ki {env:Env} {e:Expr} {m:M3} {e0:Expr} {y:Str} {p:Pos} (z:Sl env m):Sl env ⟨e0,[],⟨some y,e,p⟩::m.ks,none⟩:=
 ⟨λpos=>congrArg (y::·) (z.kn pos),λpos=>z.ka pos,λ_ _ h=>(nomatch h),rfl,rfl⟩
theorem Le.ds {st st':St} {r:RS C st} {r':RS C st'} {vs:List AV} {us:List Value} (l:Le r r') (d:r.Ds vs us):r'.Ds vs us:=d.le l
theorem bL.le {st st':St} {r:RS C st} {r':RS C st'} {vs:List (Str×AV)} {us:List (Str×Value)} (d:r.Dk vs us) (l:Le r r'):r'.Dk vs us:=d.mono l.G l.pre
theorem Bi {el er:PE} {wl wr:W8} (zl:fw C (el.M x) wl) (zr:fw C (er.M x) wr):fw C ((PE.cons el er).M x) (CW .cons wl wr):=
 ⟨uw zr.l,λ_ h=>h.elim,λ_ h=>h.elim,λ{op _ _ _} r h k=>(by
  cases op with
  |And=>exact ae (zl.t r h λr1 c l1 h1=>(by
    cases c with
    |true=>exact zr.al r1 (h1.2 rfl) (k.le l1)
    |false=>exact ah (k _ _ l1 (h1.1 rfl))))
  |Or=>exact ae (zl.t r h λr1 c l1 h1=>(by
    cases c with
    |true=>exact ah (k _ _ l1 (h1.1 rfl))
    |false=>exact zr.al r1 (h1.2 rfl) (k.le l1)))),
 λr h k=>args_cons (zl.e r h λr1 _ _ l1 h1 d1=>zr.es r1 h1 λr2 _ _ l2 h2 d2=>k r2 _ _ (l1.trans l2) h2 (.cons (d1.le l2) d2)) ((el.pl x).star _ _),λ_ h=>h.elim,λ_ h=>h.elim,e9,λ{_ vs us _ _} r d h k=>(by
  cases vs with
  |nil=>exact h.elim
  |cons v vs=>
   show WP C (assignInOrder ((assignEach (el.toM x::er.toMs x) C.env).map (·.2)) us) _ _
   rw[(el.pl x).asn]
   exact d.consE λu us d ds=>assignInOrder_cons (zl.a r d h λr1 l1 h1=>zr.as r1 (ds.le l1) h1 λr2 l2 h2=>k r2 (l1.trans l2) h2))⟩
theorem FN {el er:PE} {wl wr:W8} {y:Str} {p:Pos} (zl:fw C (el.M x) wl) (zr:fw C (er.M x) wr):fw C ((PE.kw y el p er).M x) (CW (.kw y p) wl wr):=
 ⟨Ki zr.l,λ_ h=>h.elim,λ_ h=>h.elim,λ_ h=>h.elim,λ_ h=>h.elim,λr h k=>kws_cons (zl.e r h λr1 _ _ l1 h1 d1=>zr.ks r1 h1 λr2 _ _ l2 h2 d2=>k r2 _ _ (l1.trans l2) h2 (.cons (d1.le l2) d2)),λ_ h=>h.elim,e9,λ_ _ h=>h.elim⟩
theorem II (H:bJ D C x) (k:PB) (el er:PE) (ok:(PE.b k el er).ok x=true) (il:el.ok x=true->fw C (el.M x) (wW D x el)) (ir:er.ok x=true->fw C (er.M x) (wW D x er)):fw C ((PE.b k el er).M x) (CW k (wW D x el) (wW D x er)):=by
 have zl:=il (aE ok)
 have zr:=ir (aA ok)
 cases k with
 |bin op p=>exact .of H.toCxB (λr h k=>wpAny_BinOp (zl.e r h λr1 _ _ l1 h1 d1=>zr.e r1 h1 λr2 _ _ l2 h2 d2=>MY H.toCxB (d1.le l2) d2 h2 (k.le (l1.trans l2)))) (λ_=>rfl) e9
 |cmp op p=>
  exact .ofT (λr h k=>wpAny_Compare1 (zl.e r h λr1 _ _ l1 h1 d1=>zr.e r1 h1 λr2 _ _ l2 h2 d2=>xg H.toCxB (d1.le l2) d2 h2 λr3 _ l3 hc=>k r3 _ _ ((l1.trans l2).trans l3) hc (.bool _)) ((er.pl x).mks _))
   λr h k=>wpAny_isTrue_Compare1 (zl.e r h λr1 _ _ l1 h1 d1=>zr.e r1 h1 λr2 _ _ l2 h2 d2=>xg H.toCxB (d1.le l2) d2 h2 λr3 _ l3 hc=>ah (k r3 _ ((l1.trans l2).trans l3) hc)) ((er.pl x).mks _)
 |sub p=>
  refine .of H.toCxB (λr h k=>Subscript_ (zl.e r h λr1 _ _ l1 h1 d1=>zr.e r1 h1 λr2 _ _ l2 h2 d2=>(h2.run (er.pl x).sub).run H.toCxB r2 (d1.le l2) d2 (k.le (l1.trans l2)))) (λ_=>rfl) λ{_ _ u _ _} r d h k=>?_
  show wpAny _ _ (do
   let ov<-holding [u] (eval (el.toM x) C.env)
   let iv<-holding [u,ov] (eval (er.toM x) C.env)
   standAt p
   holding [u,ov,iv] (setItem ov iv u)
   release (match er.toM x with| .Slice _ _ none _=>[iv,u,ov]|_=>[u,ov,iv]) []) _ _ _
  exact ae (aM (zl.e r h λr1 _ _ l1 h1 d1=>ae (aM (zr.e r1 h1 λr2 _ _ l2 h2 d2=>ae (wpAny_standAt (ae (aM
   (h2.run H.toCxB r2 (d1.le l2) d2 ((d.le l1).le l2) λr3 l3 h3=>wpAny_release (k r3 ((l1.trans l2).trans l3) h3)))))))))
 |cons=>exact Bi zl zr
 |kw y p=>exact FN zl zr
theorem fJ {pos:Pos} {f:Value} {first:List Value} {m1 m2:M3} {st:St} {r:RS C st} {Q:Value->Shared->Prop} (l1:Sl C.env m1) (l2:Sl C.env m2) (h:WP C (spliced (backTo pos (starEach m1.es C.env))) (λvs s₁=>WP C (evalAll ((backToKw pos (keywordEach m2.ks C.env)).map (·.2)))
   (λks s₂=>jg f s₂.heap/\WP C (call f (first++vs) ((pb m2.ks).zip ks)) Q s₂) s₁) r.s):
  WP C (callWith pos f first (backTo pos (starEach m1.es C.env)) (backToKw pos (keywordEach m2.ks C.env))) Q r.s:=by
 have h1:(backTo pos (starEach m1.es C.env)).any (·.1)=false:=List.any_eq_false.mpr λp hp=>by rw[l1.sn pos p hp];exact au
 have h2:(backToKw pos (keywordEach m2.ks C.env)).any (·.1.isNone)=false:=List.any_eq_false.mpr λp hp=>by
  have:=aF.mp (l2.ka pos) p hp
  revert this
  cases p.1 with
  |none=>exactλh=>absurd h au
  |some _=>exactλ_=>au
 refine callWith_of (P:=jg f) (by rw[h1,h2];rfl) ug (jw (l1.sn pos) (l2.ka pos) ?_)
 rw[l2.kn]
 exact h
theorem RS.kin {st:St} (r:RS C st) (H:CxB D C):K0.In r.s.heap:=H.kin.keeps r.fr.keep
theorem JZ (H:CxB D C) {f:AV} {u:Value} {args:List AV} {kws:List (Str×AV)} {us:List Value} {ku:List (Str×Value)} {st:St} (r:RS C st) {P:PV} {Q:Value->Shared->Prop} (d:r.D f u) (ds:r.Ds args us) (dk:r.Dk kws ku) (h:wA D f args kws st P) (k:Kt r P Q):jg u r.s.heap/\WP C (call u us ku) Q r.s:=by
 cases f with
 |val v=>
  refine d.valE ?_
  cases v with
  |builtin=>exact⟨⟨r.kin H,trivial⟩,h.run H r ds dk k⟩
  |type=>exact⟨⟨r.kin H,trivial⟩,h.run H r ds dk k⟩
  |ref a=>exact⟨⟨r.kin H,.inl h.1⟩,wpAny_call (h.2 H r ds dk k)⟩
  |_=>exact h.elim
 |ref i=>
  obtain⟨rfl,id,v,e,h⟩:=h
  refine dk.nilE ?_
  refine RS.refE r (X:=λu=>jg u r.s.heap/\WP C (call u us []) Q r.s) d e λa o ho d=>d.elim λu d=>?_
  have ho:=r.get ho
  rw[d.1] at ho
  exact⟨⟨r.kin H,.inr ⟨_,_,ho⟩⟩,h.run H r ho d.2 ds k⟩
 |_=>exact h.elim
theorem FF (H:CxB D C) {mk:MK} {fx:Value×List Value} {st st':St} {r:RS C st} (r':RS C st') {as:List AV} {ks:List (Str×AV)} {us:List Value} {ku:List (Str×Value)} {P:PV} {Q:Value->Shared->Prop} (dm:px r.G r.ρ mk fx) (l:Le r r') (ds:r'.Ds as us) (dk:r'.Dk ks ku) (h:tA D mk as ks st' P) (k:Kt r' P Q):
  jg fx.1 r'.s.heap/\WP C (call fx.1 (fx.2++us) ku) Q r'.s:=
 px.casesOn (motive:=λmk fx _=>tA D mk as ks st' P->jg fx.1 r'.s.heap/\WP C (call fx.1 (fx.2++us) ku) Q r'.s) dm (λd h=>⟨⟨r'.kin H,.inl h.1⟩,wpAny_call (h.2 H r' (.cons (d.le l) ds) dk k)⟩) (λd h=>⟨⟨r'.kin H,trivial⟩,h.run H r' (.cons (d.le l) ds) dk k⟩) (λh=>⟨⟨r'.kin H,trivial⟩,h.run H r' ds dk k⟩) h
theorem Dw {o args kws:PE} {y:Str} {ap p:Pos} {env:Env} (l1:Sl env (args.M x)) (l2:Sl env (kws.M x)) (h1:(o.kd==1)=false) (h5:(args.toMs x).length+(kws.toMk x).length<20) (h6:(ap.endLine==p.line)=true):eval ((PE.meth o y ap args kws p).toM x) env=(do
   let ov<-eval (o.toM x) env
   standAt ap.atName
   let fx<-holding [ov] (getMethod ov y (do return (<-importBound (o.toM x) env).getD true))
   callWith p fx.1 fx.2 (backTo p (starEach (args.toMs x) env)) (backToKw p (keywordEach (kws.toMk x) env))):=by
 show(do
  let ov<-attributeBase (o.toM x) y env (eval (o.toM x) env)
  standAt ap.atName
  methodCall (o.toM x) y ap p env ov ((args.toMs x).length+(kws.toMk x).length) (backTo p (starEach (args.toMs x) env)) (backToKw p (keywordEach (kws.toMk x) env)))=_
 rw[(o.pl x).base h1]
 have hf:methodCallForm ((args.toMs x).length+(kws.toMk x).length) (backTo p (starEach (args.toMs x) env)) (backToKw p (keywordEach (kws.toMk x) env))=true:=by
  unfold methodCallForm
  rw[l2.ka]
  have:(backTo p (starEach (args.toMs x) env)).all (!·.1)=true:=aF.mpr λq hq=>by rw[l1.sn p q hq];rfl
  rw[this]
  simp only[Bool.true_and,decide_eq_true_eq]
  split<;>omega
 unfold methodCall calleeOf methodCallPos
 rw[hf]
 simp only[h6,Bool.not_true,Bool.false_or,if_true]
 rfl
theorem G7 {p:Pos} {op op2:CmpOp} {v:Value} {r1 r2:Sem Value}:testChain p v [op,op2] [r1,r2]=(do
  let rv<-holding [v] r1
  standAt p
  let c<-holding [v,rv] (compareOp op v rv)
  release [v,rv] [c]
  if<-holding [c,rv] (truthy c) then(do
   let rw<-holding [rv] r2
   standAt p
   let c<-operate [rv,rw] (compareOp op2 rv rw)
   holding [c] (truthy c)) else pure false):=rfl
theorem IE (H:bJ D C x) (k:PC) (el em er:PE) (ok:(PE.c k el em er).ok x=true) (il:el.ok x=true->fw C (el.M x) (wW D x el)) (im:em.ok x=true->fw C (em.M x) (wW D x em)) (ir:er.ok x=true->fw C (er.M x) (wW D x er)):fw C ((PE.c k el em er).M x) (KA D k (wW D x el) (wW D x em) (wW D x er)):=by
 cases k with
 |ifx p=>
  have zl:=il (aE (aE ok));have zm:=im (aA (aE ok));have zr:=ir (aA ok)
  refine .ofT (λr h k=>wpAny_IfExp (zl.t r h λr1 c l1 h1=>?_)) λr h k=>isTrue_IfExp (zl.t r h λr1 c l1 h1=>?_)
  ·cases c with
   |true=>exact zm.e r1 (h1.1 rfl) (k.le l1)
   |false=>exact zr.e r1 (h1.2 rfl) (k.le l1)
  ·cases c with
   |true=>exact zm.t r1 (h1.1 rfl) (k.le l1)
   |false=>exact zr.t r1 (h1.2 rfl) (k.le l1)
 |cmp2 op op2 p=>
  have zl:=il (aE (aE ok));have zm:=im (aA (aE ok));have zr:=ir (aA ok)
  refine .ofT (λ_ h=>h.elim) λr h k=>isTrue_chain (rs:=[]) (ops:=[]) (zl.e r h λr1 _ _ l1 h1 d1=>?_) ((er.pl x).mks _)
  show wpAny _ _ (testChain p _ [op,op2] [eval (em.toM x) C.env,eval (er.toM x) C.env]) _ _ _
  rw[G7]
  refine ae (aM (zm.e r1 h1 λr2 _ _ l2 h2 d2=>ae (wpAny_standAt (ae (aM (xg H.toCxB (d1.le l2) d2 h2 λr3 c l3 hc=>
   ae (wpAny_release (ae (aM (ah ?_))))))))))
  have l:=(l1.trans l2).trans l3
  cases c with
  |false=>exact ah (k r3 _ l (hc.1 rfl))
  |true=>exact ae (aM (zr.e r3 (hc.2 rfl) λr4 _ _ l4 h4 d4=>ae (wpAny_standAt (ae (wpAny_operate' (xg H.toCxB ((d2.le l3).le l4) d4 h4 λr5 _ l5 hc2=>aM (ah (k r5 _ ((l.trans l4).trans l5) hc2))))))))
 |slc sp p=>
  have zl:=il (aE (aE ok));have zm:=im (aA (aE ok));have zr:=ir (aA ok)
  exact .of H.toCxB (λr h k=>Subscript_ (zl.e r h λr1 _ _ l1 h1 d1=>wpAny_Slice (zm.o r1 h1 λr2 _ _ l2 h2 d2=>zr.o r2 h2 λr3 _ _ l3 h3 d3=>by
   have e1:=(d1.le l2).le l3
   have e2:=d2.le l3
   exact ah (h3.run H.toCxB (r3.keeps (λ_ _ e=>aD _ e) r3.s.toks (ak _)) e1 e2 d3 (a8 _ rfl) (λ_ _=>rfl) λr4 _ _ l4=>k r4 _ _ (((l1.trans l2).trans l3).trans ⟨l4.pre,l4.sub,l4.jn⟩))))) (λ_=>rfl) e9
 |call p=>
  have zl:=il (aA (aE (aE ok)));have zm:=im (aA (aE ok));have zr:=ir (aA ok)
  refine .of H.toCxB (λr h k=>?_) (λ_=>rfl) e9
  show WP C (eval (.Call (el.toM x) (em.toMs x) (er.toMk x) p) C.env) _ _
  rw[(el.pl x).call (cO (aE (aE (aE ok))))]
  exact ae (zl.e r h λr1 _ _ l1 h1 d1=>fJ zm.l zr.l (zm.es r1 h1 λr2 _ _ l2 h2 d2=>zr.ks r2 h2 λr3 _ _ l3 h3 d3=>JZ H.toCxB r3 ((d1.le l2).le l3) (d2.le l3) d3 h3 (k.le ((l1.trans l2).trans l3))))
 |meth y ap p=>
  have zl:=il (aA (aE (aE (aE (aE ok)))));have zm:=im (aA (aE (aE (aE ok))));have zr:=ir (aA (aE (aE ok)))
  refine .of H.toCxB (λr h k=>?_) (λ_=>rfl) e9
  show WP C (eval ((PE.meth el y ap em er p).toM x) C.env) _ _
  rw[Dw zm.l zr.l (cO (aE (aE (aE (aE (aE ok)))))) (aa (aA (aE ok))) (aA ok)]
  exact ae (zl.e r h λr1 _ _ l1 h1 d1=>ae (wpAny_standAt (ae (aM (h1.run H.toCxB r1 d1 λ_ _ t1 ht1 h2 dm=>
   fJ (r:=r1.toks t1 ht1) zm.l zr.l (zm.es (r1.toks t1 ht1) h2 λr2 _ _ l2 h3 d2=>zr.ks r2 h3 λr3 _ _ l3 h4 d3=>FF (r:=r1.toks t1 ht1) H.toCxB r3 dm (l2.trans l3) (d2.le l3) d3 h4 (k.le ((l1.trans ⟨l2.pre,l2.sub,l2.jn⟩).trans l3))))))))
theorem snd (H:bJ D C x) (e:PE):e.ok x=true->fw C (e.M x) (wW D x e):=by
 induction e with
 |a k=>exact Kj H k
 |u k e ih=>exactλok=>JM H k e ok ih
 |b k l r il ir=>exactλok=>II H k l r ok il ir
 |c k l m r il im ir=>exactλok=>IE H k l m r ok il im ir
end
section
variable {D:Nat} {C:Cx} {x:Sx}
structure Ic (C:Cx) (m:M2) (w:W2):Prop where
 s:∀{st:St} {P:AF->St->Prop} {Q:Flow->Shared->Prop} (r:RS C st),w.s st P->jN r P Q->WP C (exec m.s C.env) Q r.s
 ss:∀{st:St} {P:AF->St->Prop} {Q:Flow->Shared->Prop} (r:RS C st),w.ss st P->jN r P Q->WP C (execs m.ss C.env) Q r.s
abbrev SB (C:Cx) (s:Stmt) (b:WB):Prop:=∀{st:St} {P:AF->St->Prop} {Q:Flow->Shared->Prop} (r:RS C st),b st P->jN r P Q->WP C (exec s C.env) Q r.s
theorem Ic.of {s:Stmt} {b:WB} (h:SB C s b):Ic C (.of s) (.of b):=⟨h,λ_ h=>h.elim⟩
theorem sE (H:bJ D C x):interactive C.env=false:=by unfold interactive;rw[H.kind];rfl
theorem Kn (H:bJ D C x) (k:SA):SB C k.toM (KX D x k):=by
 cases k with
 |doc s=>
  intro st P Q r h k
  obtain⟨⟨c,kk,p,q,rfl⟩,h⟩:=h
  exact wpAny_Expr_any (Constant_str (k r.tick _ _ RS.toks_le h .next)) (sE H) rfl
 |dead s=>exactλ_ h=>h.elim
 |raw s=>exactλr h k=>h.run H r k
 |pass p=>exactλr h k=>ae (wpAny_standAt (ah (k r _ _ .rf h .next)))
 |brk p=>exactλr h k=>ae (wpAny_standAt (ah (k r _ _ .rf h .brk)))
 |cont p=>exactλr h k=>ae (wpAny_standAt (ah (k r _ _ .rf h .cont)))
 |ret0 p=>exactλr h k=>wpAny_Return_none (k r _ _ .rf h (.ret .none))
theorem z4 {e:PE} (h:(e.kd==4)=false):∀t:PE,swappedStores [t.toM x] (e.toM x) C.env=pure none:=by
 intro t
 cases t with
 |a k=>cases k<;>rfl
 |u k t=>cases k with
  |tup k p=>exact((e.pl x).tup h _ k p _).1
  |lst p=>exact((e.pl x).tup h _ 0 p _).2
  |_=>rfl
 |b k l r=>cases k<;>rfl
 |c k l m r=>cases k<;>rfl
theorem Ex {e:PE} (h:(e.kd==4)=false) (ts:PE):swappedStores (ts.toMs x) (e.toM x) C.env=pure none:=by
 cases ts with
 |b k t ts=>cases k with
  |cons=>
   show swappedStores (t.toM x::ts.toMs x) _ _=_
   cases ts.toMs x with
   |nil=>exact z4 h t
   |cons y l=>exact(t.pl x).sw _ _ _ _
  |_=>rfl
 |a k=>cases k<;>rfl
 |u k t=>rfl
 |c k l m r=>rfl
theorem Em {e:PE} (h:(e.kd==3)=false) (ts:List Expr) (l:Nat):swapsWithSole ts (e.toM x) l C.env=pure false:=by
 unfold swapsWithSole
 split
 ·exact(e.pl x).comp h _ _ _
 ·rfl
theorem F0 {ts e:PE} {p:Pos} (h1:(e.kd==3)=false) (h2:(e.kd==4)=false):exec (.Assign (ts.toMs x) (e.toM x) p) C.env=(do
  standAt p
  let v<-eval (e.toM x) C.env
  assignAll v ((assignEach (ts.toMs x) C.env).map (·.2))
  pure .next):=by
 rw[exec_Assign,Em h1,Ex h2]
 rfl
theorem B0 (H:bJ D C x) (ts:PE):ts.ok x=true->∀{st:St} {v:AV} {u:Value} {P:St->Prop} {Q:Unit->Shared->Prop} (r:RS C st),r.D v u->oq D x ts v st P->ju r P Q->WP C (assignAll u ((assignEach (ts.toMs x) C.env).map (·.2))) Q r.s:=by
 induction ts with
 |b k t ts _ ih=>
  intro ok st v u P Q r d h kk
  cases k with
  |cons=>
   show WP C (assignAll u ((assignEach (t.toM x::ts.toMs x) C.env).map (·.2))) Q r.s
   rw[(t.pl x).asn]
   have one:ts.toMs x=[]->(∀{st1:St},oq D x ts v st1 P->P st1)->WP C (assignAll u ((false,assign (t.toM x) C.env)::assignEach (ts.toMs x) C.env|>.map (·.2))) Q r.s:=λe f=>by
    rw[e]
    exact(snd H t (aE ok)).a r d h λr1 l1 h1=>kk r1 l1 (f h1)
   cases ts with
   |b k2 t2 ts2=>cases k2 with
    |cons=>
     have key:∀{st1:St} (r1:RS C st1),Le r r1->oq D x (.cons t2 ts2) v st1 P->WP C (assignAll u ((assignEach (t2.toM x::ts2.toMs x) C.env).map (·.2))) Q r1.s:=λr1 l1 h1=>ih (aA ok) r1 (d.le l1) h1 (kk.le l1)
     show WP C (assignAll u ((false,assign (t.toM x) C.env)::assignEach (t2.toM x::ts2.toMs x) C.env|>.map (·.2))) Q r.s
     rw[(t2.pl x).asn] at key⊢
     exact ae (aM ((snd H t (aE ok)).a r d h key))
    |_=>exact one rfl id
   |a k=>cases k<;>exact one rfl id
   |_=>exact one rfl id
  |_=>exact ah (kk r .rf h)
 |a k=>intro _ st v u P Q r d h kk;cases k<;>exact ah (kk r .rf h)
 |_=>exactλ_ _ _ _ _ _ r d h kk=>ah (kk r .rf h)
end
section
variable {D:Nat} {C:Cx} {x:Sx}
theorem GH (H:bJ D C x) {is:List Nat}:∀{st:St} {vs:List AV} {us:List Value} {P:St->Prop} {Q:Unit->Shared->Prop} (r:RS C st),(∀i∈is,i<x.nms.length)->r.Ds vs us->vs.length=is.length->P (St.vars is vs st)->ju r P Q->
  WP C (assignInOrder (is.map λi=>bindName C.env (bu x.nms i)) us) Q r.s:=by
 induction is with
 |nil=>
  intro st vs us P Q r _ d hl h k
  cases List.length_eq_zero_iff.mp hl
  exact d.nilE (ah (k r .rf h))
 |cons i is ih=>
  intro st vs us P Q r hi d hl h k
  cases vs with
  |nil=>cases hl
  |cons v vs=>
   exact d.consE λu us d ds=>assignInOrder_cons (bindName_ (ja (P:=λst1=>P (St.vars is _ st1)) H (hi i (.head _)) d h λr1 l1 h1=>ih r1 (λj hj=>hi j (.tail _ hj)) (ds.le l1) (Nat.succ.inj hl) h1 (k.le l1)))
theorem mA {α:Type} {l:List α} {n:Nat} (h:l.length=n+1):∃a t,l=a::t/\t.length=n:=by
 cases l with
 |nil=>cases h
 |cons a t=>exact⟨a,t,rfl,Nat.succ.inj h⟩
theorem pE {α:Type} {l:List α} (h:l.length=1):∃a,l=[a]:=
 (mA h).imp λa ⟨t,e,h⟩=>by rw[e,List.length_eq_zero_iff.mp h]
theorem tP {α:Type} {l:List α} (h:l.length=2):∃a b,l=[a,b]:=
 (mA h).imp λa ⟨t,e,h⟩=>(pE h).imp λb h=>by rw[e,h]
theorem Bw {α:Type} {l:List α} (h:l.length=3):∃a b c,l=[a,b,c]:=
 (mA h).imp λa ⟨t,e,h⟩=>(tP h).imp λb h=>h.imp λc h=>by rw[e,h]
theorem vD {α:Type} [BEq α] [LawfulBEq α] {l:List α} (h:l.Nodup) (hl:(l.length==2||l.length==3)=true):l.eraseDups.length=l.length:=by
 rcases Bool.or_eq_true_iff.mp hl with h1|h1
 ·obtain⟨a,b,rfl⟩:=tP (eq_of_beq h1)
  have hab:a≠b:=by simpa using h
  simp[List.eraseDups_cons,hab.symm]
 ·obtain⟨a,b,c,rfl⟩:=Bw (eq_of_beq h1)
  have hab:(a≠b/\a≠c)/\b≠c:=by simpa using h
  simp[List.eraseDups_cons,hab.1.1.symm,hab.1.2.symm,hab.2.symm]
theorem ym {α β:Type} {f:α->β} {l:List α} (hf:∀a∈l,∀b∈l,f a=f b->a=b) (h:l.Nodup):(l.map f).Nodup:=by
 induction l with
 |nil=>exact .nil
 |cons a l ih=>
  have z:=List.nodup_cons.mp h
  exact List.nodup_cons.mpr ⟨λhm=>(aG.mp hm).elim λb hb=>z.1 (hf b (.tail _ hb.1) a (.head _) hb.2▸hb.1),ih (λa ha b hb=>hf a (.tail _ ha) b (.tail _ hb)) z.2⟩
theorem rD {f:Nat×Pos->Str} {env:Env} {ln:Nat} {F:Expr->Option Str} (hF:∀id pos,F (.Name id pos)=if env.kindOf id==some .local&&pos.line==ln then some id else none) {ts:List (Nat×Pos)} (h:∀q∈ts,(env.kindOf (f q)==some .local&&q.2.line==ln)=true):(ts.map λq=>(Expr.Name (f q) q.2)).filterMap F=ts.map f:=by
 induction ts with
 |nil=>rfl
 |cons q ts ih=>rw[List.map_cons,List.filterMap_cons,hF,if_pos (h q (.head _)),List.map_cons,ih λr hr=>h r (.tail _ hr)]
theorem Hk {F:Expr->Bool} (hF:∀e:PE,F (e.toM x)=false) (e:PE):(e.toMs x).any F=false:=by
 induction e with
 |b k l r _ ih=>cases k with
  |cons=>show(F (l.toM x)||(r.toMs x).any F)=false;rw[ih,hF];rfl
  |_=>rfl
 |a k=>cases k<;>rfl
 |_=>rfl
theorem Me (H:bJ D C x) {ts:List (Nat×Pos)} {es:PE} {kt ke:Nat} {pt pe:Pos} (h:v7 x ts es=true):
  swappedStores [.Tuple (ts.map λq=>.Name (bu x.nms q.1) q.2) kt pt] (.Tuple (es.toMs x) ke pe) C.env=pure (some (ts.map λq=>bu x.nms q.1)):=by
 have h6:=aA h;have h:=aE h
 have h5:=aA h;have h:=aE h
 have h4:=aj (aA h);have h:=aE h
 have h3:=aF.mp (aA h);have h:=aE h
 have h2:=eq_of_beq (aA h);have h1:=aE h
 have hk:C.env.blockKind=.function:=by
  unfold Env.blockKind ScopeKind.isAnnotationScope
  rw[H.kind];rfl
 have hi:∀q∈ts,q.1<x.nms.length:=λq hq=>aj (aE (h3 q hq))
 have hnd:(ts.map λq=>bu x.nms q.1).Nodup:=by
  have:=ym (f:=bu x.nms) (l:=ts.map (·.1)) (λa ha b hb e=>by
   obtain⟨p,hp,rfl⟩:=aG.mp ha
   obtain⟨q,hq,rfl⟩:=aG.mp hb
   have ep:=aq (hi p hp)
   have eq:=aq (hi q hq)
   rw[cD ep,cD eq] at e
   exact(List.getElem?_inj (hi p hp) H.nd).mp (by rw[ep,eq,e])) h4
  rwa [List.map_map] at this
 have hnames:∀F:Expr->Option Str,(∀id pos,F (.Name id pos)=if C.env.kindOf id==some .local&&pos.line==(((ts.map λq=>(Expr.Name (bu x.nms q.1) q.2)).head?.map (·.pos.line)).getD 0) then some id else none)->
   (ts.map λq=>(Expr.Name (bu x.nms q.1) q.2)).filterMap F=ts.map λq=>bu x.nms q.1:=by
  intro F hF
  have hline:((ts.map λq=>(Expr.Name (bu x.nms q.1) q.2)).head?.map (·.pos.line)).getD 0=(ts.head?.map (·.2.line)).getD 0:=by cases ts<;>rfl
  rw[hline] at hF
  have hloc:∀q∈ts,(C.env.kindOf (bu x.nms q.1)==some .local&&q.2.line==((ts.head?.map (·.2.line)).getD 0))=true:=λq hq=>by
   rw[cD (aq (hi q hq)),(H.lc _ (List.getElem_mem (hi q hq))).1];exact aA (h3 q hq)
  exact rD hF hloc
 unfold swappedStores
 dsimp only
 rw[hnames _ λ_ _=>rfl]
 have c1:(!((ts.map λq=>(Expr.Name (bu x.nms q.1) q.2)).length==2||(ts.map λq=>(Expr.Name (bu x.nms q.1) q.2)).length==3)||(es.toMs x).length !=(ts.map λq=>(Expr.Name (bu x.nms q.1) q.2)).length||C.env.blockKind !=.function)=false:=by
  rw[hk,h2,ai,h1,bne_self_eq_false];rfl
 have c2:((ts.map λq=>bu x.nms q.1).length !=(ts.map λq=>(Expr.Name (bu x.nms q.1) q.2)).length||(ts.map λq=>bu x.nms q.1).eraseDups.length !=(ts.map λq=>bu x.nms q.1).length)=false:=by
  rw[vD hnd (by rw[ai];exact h1),ai,ai,bne_self_eq_false];rfl
 rw[c1,c2,cO h5,cO h6,Hk λe=>by
  cases e with
  |a k=>cases k<;>rfl
  |u k _=>cases k<;>rfl
  |b k _ _=>cases k<;>rfl
  |c k _ _ _=>cases k<;>rfl]
 rfl
theorem DN (H:bJ D C x) {ts:List (Nat×Pos)} {kt ke:Nat} {pt pe p:Pos} {e:PE} (ok:e.ok x=true) (ok2:v7 x ts e=true):SB C (.Assign [.Tuple (ts.map λq=>.Name (bu x.nms q.1) q.2) kt pt] (.Tuple (e.toMs x) ke pe) p) (CX D x (.swp ts kt pt ke pe p) .nil e):=λr h k=>by
 rw[exec_Assign,Me H ok2]
 refine ae (wpAny_standAt (ae (ah (ae ?_))))
 refine Tuple_ ((snd H e ok).es r h λr1 vs us l1 h1 d1=>?_)
 refine jx (lE d1 h1.1) (ae (ah ?_))
 unfold assignStores
 dsimp only
 rw[show(ts.map λq=>bu x.nms q.1).length=us.toArray.size by rw[ay,<-d1.length,ai];exact h1.2.1.symm]
 have e0:((ts.map λq=>bu x.nms q.1).reverse.map λn=>bindName C.env n)=((ts.map (·.1)).reverse.map λi=>bindName C.env (bu x.nms i)):=by
  rw[<-List.map_reverse,<-List.map_reverse,List.map_map,List.map_map];rfl
 have hi:∀i∈(ts.map (·.1)).reverse,i<x.nms.length:=λi hi=>by
  obtain⟨q,hq,rfl⟩:=aG.mp (List.mem_reverse.mp hi)
  exact aj (aE (aF.mp (aA (aE (aE (aE ok2)))) q hq))
 refine ae (wpAny_rule (ae (wpAny_unpackItems_tuple H.hh ⟨_,a8 _ rfl,rfl,0,rfl⟩ λh' he=>ae ?_)))
 rw[e0]
 exact GH H (r1.keeps (h':=h') (λb o e=>he b o (aW (ba (aD _ e))) (aD _ e)) _ (ak _)) hi d1.reverse (by rw[List.length_reverse,List.length_reverse,ai];exact h1.2.1) h1.2.2 λr2 l2 h2=>ah (k r2 _ _ (l1.trans ⟨l2.pre,l2.sub,l2.jn⟩) h2 .next)
theorem F3 {ts e:PE} {kt:Nat} {pt:Pos} {ke:Nat} {pe p:Pos} (h1:((ts.toMs x).length==2)=false) (h2:((ts.toMs x).length==3)=false):exec (.Assign [.Tuple (ts.toMs x) kt pt] (.Tuple (e.toMs x) ke pe) p) C.env=(do
  standAt p
  let v<-eval (.Tuple (e.toMs x) ke pe) C.env
  standAt pt
  unpack v (assignEach (ts.toMs x) C.env)
  pure .next):=by
 rw[exec_Assign]
 have z:swappedStores [.Tuple (ts.toMs x) kt pt] (.Tuple (e.toMs x) ke pe) C.env=pure none:=by
  show(if(!((ts.toMs x).length==2||(ts.toMs x).length==3)||_||_)=true then pure none else _)=_
  rw[h1,h2];rfl
 rw[z];rfl
theorem Fj (H:bJ D C x) {ts e:PE} {kt ke:Nat} {pt pe p:Pos} (h1:((ts.toMs x).length==2)=false) (h2:((ts.toMs x).length==3)=false) (ok:e.ok x=true) (ok2:ts.ok x=true):SB C (.Assign [.Tuple (ts.toMs x) kt pt] (.Tuple (e.toMs x) ke pe) p) (CX D x (.tas kt pt ke pe p) ts e):=λr h k=>by
 rw[F3 h1 h2]
 have zt:=snd H ts ok2
 refine ae (wpAny_standAt (ae (Tuple_ ((snd H e ok).es r h λr1 _ us l1 h1 d1=>jx (lE d1 h1.1) (ae (wpAny_standAt ?_))))))
 unfold unpack
 rw[zt.l.an,zt.l.al,show(ts.toMs x).length=us.toArray.size by rw[ay,<-d1.length];exact h1.2.1.symm]
 exact ae (ae (aM (wpAny_unpackItems_tuple H.hh ⟨_,a8 _ rfl,rfl,0,rfl⟩ λh' he=>zt.as (r1.keeps (h':=h') (λb o e=>he b o (aW (ba (aD _ e))) (aD _ e)) _ (ak _)) d1 h1.2.2 λr2 l2 h2=>ah (k r2 _ _ (l1.trans ⟨l2.pre,l2.sub,l2.jn⟩) h2 .next))))
theorem Aj (H:bJ D C x) {i:Nat} {np p:Pos} {op:Operator} {e:PE} (hi:i<x.nms.length) (ok:e.ok x=true):SB C (.AugAssign (.Name (bu x.nms i) np) op (e.toM x) p) (Bo D x op (.loc i np) e):=λ{st P Q} r h k=>by
 have hy:=aq hi
 have h1:=H.lc _ (List.getElem_mem hi)
 have key:∃old,st.loc[i]? =some (some old)/\(wW D x e).e st λv st1=>wZ op old v st1 λr st2=>i<st2.loc.length/\P .next (st2.var i r):=by
  revert h
  show(match st.loc[i]? with|some (some old)=>_|_=>False)->_
  cases e1:st.loc[i]? with
  |none=>exact False.elim
  |some o=>cases o with
   |none=>exact False.elim
   |some old=>exactλh=>⟨old,rfl,h⟩
 obtain⟨old,e1,h⟩:=key
 obtain⟨u,hu,d⟩:=r.loc i _ old (by rw[H.nms];exact hy) e1
 refine wpAny_AugAssign_Name (x:=bu x.nms i) (pos':=np) ?_
 have st2:∀{st1:St} (r2:RS C st1) {v:AV} {w:Value},Le r r2->r2.D v w->P .next (st1.var i v)->WP C (storeName C.env (bu x.nms i) w) (λ_=>Q .next) r2.s:=λr2 _ _ l d2 h=>ja H hi d2 h λr3 l3 h3=>k r3 _ _ (l.trans l3) h3 .next
 rw[cD hy] at st2⊢
 exact wpAny_loadName_local H.kind h1.1 r.fr.ns hu ((snd H e ok).e r h λr1 _ _ l1 h1 d1=>HK (d.le l1) d1 h1 λr2 _ _ l2 h2 d2=>st2 r2 (l1.trans l2) d2 h2.2)
theorem AY (H:bJ D C x) {o i e:PE} {sp p:Pos} {op:Operator} (oo:o.ok x=true) (oi:i.ok x=true) (oe:e.ok x=true) (hs:(i.kd==5)=false):SB C (.AugAssign (.Subscript (o.toM x) (i.toM x) sp) op (e.toM x) p) (Bo D x op (.sub o i sp) e):=λ{st P Q} r h k=>by
 show wpAny _ _ (do
  standAt p
  let ov<-eval (o.toM x) C.env
  let iv<-holding [ov] (eval (i.toM x) C.env)
  let new<-holding [ov,iv] do
   standAt sp
   let old<-getItem ov iv
   let v<-holding [old] (eval (e.toM x) C.env)
   standAt p
   operate [old,v] (inplaceOp op old v)
  standAt sp
  augStore (i.toM x) ov iv new) _ _ _
 exact ae (wpAny_standAt (ae ((snd H o oo).e r h λr1 _ _ l1 h1 d1=>ae (aM ((snd H i oi).e r1 h1 λr2 _ _ l2 h2 d2=>ae (aM (ae (wpAny_standAt (ae
  (h2.run H.toCxB r2 (d1.le l2) d2 λr3 _ _ l3 h3 d3=>ae (aM ((snd H e oe).e r3 h3 λr4 _ _ l4 h4 d4=>ae (wpAny_standAt (wpAny_operate' (HK (d3.le l4) d4 h4 λr5 _ _ l5 h5 d5=>ae (wpAny_standAt (by
   have l:=(l3.trans l4).trans l5
   rw[(i.pl x).store hs]
   exact ae (aM (h5.run H.toCxB r5 (d1.le (l2.trans l)) (d2.le l) d5 λr6 l6 h6=>ae (wpAny_release (ah (k r6 _ _ ((l1.trans (l2.trans l)).trans l6) h6 .next))))))))))))))))))))))
theorem IW (H:bJ D C x) (k:SE) (t e:PE) (ok:k.ok x t e=true):SB C (k.toM x t e) (CX D x k t e):=by
 cases k with
 |expr p=>exactλr h k=>wpAny_Expr_any ((snd H e (aA ok)).e r h λr1 _ _ l1 h1 _=>k r1 _ _ l1 h1 .next) (sE H) ((e.pl x).comp (cO (aE ok)) _ _ _)
 |ret p=>exactλr h k=>wpAny_Return_some ((snd H e ok).e r h λr1 _ _ l1 h1 d1=>k r1 _ _ l1 h1 (.ret d1))
 |asg p=>
  exactλ{st P Q} r h k=>by
   show WP C (exec (.Assign (t.toMs x) (e.toM x) p) C.env) Q r.s
   rw[F0 (cO (aE (aE (aE ok)))) (cO (aA (aE (aE ok))))]
   exact ae (wpAny_standAt (ae ((snd H e (aA (aE ok))).e r h λr1 _ _ l1 h1 d1=>ae (B0 H t (aA ok) r1 d1 h1 λr2 l2 h2=>ah (k r2 _ _ (l1.trans l2) h2 .next)))))
 |aug op p=>
  cases t with
  |a kk=>cases kk with
   |loc i np=>exact Aj H (aa (aE (aE ok))) (aA (aE ok))
   |_=>exactλ_ h=>h.elim
  |b kk o i=>cases kk with
   |sub sp=>exact AY H (aE (aE (aE ok))) (aA (aE (aE ok))) (aA (aE ok)) (cO (aA ok))
   |_=>exactλ_ h=>h.elim
  |_=>exactλ_ h=>h.elim
 |tas kt pt ke pe p=>exact Fj H (cO (aE (aE (aE ok)))) (cO (aA (aE (aE ok)))) (aA (aE ok)) (aA ok)
 |swp ts kt pt ke pe p=>exact DN H (aE ok) (aA ok)
end
section
variable {D:Nat} {C:Cx} {x:Sx}
theorem FI {t:PE} {b:PS} {p:Pos} {ts:St->(Bool->St->Prop)->Prop} {bd:WB} {P:AF->St->Prop} {Q:Flow->Shared->Prop} {n:Nat} (ht:Kv C (t.toM x) ts)
  (hb:∀{st:St} {P:AF->St->Prop} {Q:Flow->Shared->Prop} (r:RS C st),bd st P->jN r P Q->WP C (execs (b.toMs x) C.env) Q r.s) {st:St} (r:RS C st) (h:iQ ts bd n st P) (k:jN r P Q):WP C (exec (.While (t.toM x) (b.toMs x) [] p) C.env) Q r.s:=by
 refine wpAny_While (codeAny_whileLoop (λn s=>∃(st':St) (r':RS C st'),r'.s=s/\Le r r'/\iQ ts bd n st' P) ?_ n ⟨st,r,rfl,.rf,h⟩)
 rintro n _ ⟨st1,r1,rfl,l1,h1⟩
 cases n with
 |zero=>exact h1.elim
 |succ n=>
  refine cS (ht r1 h1 λr2 c l2 h2=>?_)
  cases c with
  |true=>
   rw[if_pos rfl]
   refine cS (hb r2 (h2.1 rfl) λr3 f fl l3 h3 d3=>?_)
   have l:=(l1.trans l2).trans l3
   cases d3 with
   |next=>exact⟨n,Nat.lt_succ_self _,_,r3,rfl,l,h3⟩
   |cont=>exact⟨n,Nat.lt_succ_self _,_,r3,rfl,l,h3⟩
   |brk=>exact k r3 _ _ l h3 .next
   |ret d=>exact k r3 _ _ l h3 (.ret d)
  |false=>
   rw[if_neg au]
   exact ah (k r2 _ _ (l1.trans l2) (h2.2 rfl) .next)
noncomputable def B1 (N:Shared->Prop) (R:Result->Shared->Prop) (f:Flow) (s:Shared):Prop:=match f with
 | .next=>N s
 | .cont=>N s
 | .brk=>R (.ok .next) s
 | .ret v=>R (.ok (.ret v)) s
theorem mx {R:Result->Shared->Prop} {target:Expr} {it:Value} {body orelse:List Stmt} {env:Env} {A:Around} (I:Nat->Shared->Prop)
  (turn:∀n s,I n s->wpAny MM A (pyNext it) (λr s₁=>match r with
   |none=>wpAny MM A (execs orelse env) (λf s₃=>R (.ok f) s₃) (notedBy MM A env λe s'=>R (.error e) s') s₁
   |some v=>wpAny MM A (letOwnedTupleGo target it v) (λ_ s₁=>wpAny MM A (assign target env v) (λ_ s₂=>wpAny MM A (execs body env) (B1 (λs₃=>∃m,m<n/\I m s₃) R) (notedBy MM A env λe s'=>R (.error e) s') s₂) (notedBy MM A env λe s'=>R (.error e) s') s₁) (notedBy MM A env λe s'=>R (.error e) s') s₁) (notedBy MM A env λe s'=>R (.error e) s') s)
  {s:Shared} (n:Nat) (h:I n s):codeAny MM A (.forLoop target it body orelse env) R s:=by
 refine codeAny_loop' rfl I (λn s hI=>?_) n h
 show wpAny _ _ ((forTurn target it body orelse env).onRaise (λx=>do noteFrame x env;theTreesLotGoes x)) _ _ s
 refine wpAny_noted ?_
 simp only[forTurn]
 refine ae (wpAny_standAt (ae (wpAny_onRaise (wpAny_mono (turn n s hI) (λr s₁ h₁=>?_) λ_ _ h'=>wpAny_standAt h'))))
 cases r with
 |none=>exact ah (.inr ⟨rfl,codeAny_block h₁⟩)
 |some v=>
  refine ae (wpAny_mono h₁ (λ_ s₁ h₁=>?_) λ_ _ h'=>h')
  refine ae (wpAny_mono h₁ (λ_ s₂ h₂=>ae (wpAny_mono h₂ (λf s₃ h₃=>?_) λ_ _ h'=>h')) λ_ _ h'=>h')
  cases f with
  |next=>exact ah (.inl ⟨rfl,h₃⟩)
  |cont=>exact ah (.inl ⟨rfl,h₃⟩)
  |brk=>exact ah h₃
  |ret v=>exact ah h₃
def RS.dropJ {st:St} (r:RS C st) {js J:JS} (h:r.J=js++J):RS C st:=
 r.reJ (js:=J) (W:=[]) (λ_ h=>nomatch h) (h':=r.s.heap) (λ_ _ _ e=>e) (λp hp=>have hm:p∈r.J:=h▸ar _ hp;⟨RS.jGet hm,bA hm⟩)
  (by have:=RS.jnd (r:=r);rw[h,bh] at this;exact(a7.mp this).2.1) r.s.toks (ak _)
theorem lW {chk:St->Prop} {tg:AV->St->(St->Prop)->Prop} {bd:WB} {items:List AV} {i:Nat} {v:AV} {st:St} {P:AF->St->Prop} (e:items[i]? =some v) (h:bD chk tg bd (items.drop i) st P):chk st/\tg v st (H6 bd (bD chk tg bd (items.drop (i+1))) P):=by
 have he:=az.mp e
 rw[List.drop_eq_getElem_cons he.1,he.2] at h
 exact h
theorem nL {chk:St->Prop} {tg:AV->St->(St->Prop)->Prop} {bd:WB} {items:List AV} {st:St} {P:AF->St->Prop} (h:bD chk tg bd (items.drop items.length) st P):chk st/\P .next st:=by rw[List.drop_length] at h;exact h
theorem RS.drop_le {st st':St} {r:RS C st} {r':RS C st'} {js J:JS} {h:r'.J=js++J} (l:Lw r r'):Lw r (r'.dropJ h):=⟨l.pre,l.sub⟩
theorem sS {N:Shared->Prop} {R':Result->Shared->Prop} {W:WB} {st st4:St} {r:RS C st} {r4:RS C st4} {P:AF->St->Prop} {js:JS} {J:JS} {f:AF} {fl:Flow}
  (k:∀{st':St} (r':RS C st') (f:AF) (fl:Flow),Lw r r'->r'.J=J->P f st'->ki r'.G r'.ρ f fl->R' (.ok fl) r'.s) (l:Lw r r4) (ej:r4.J=js++J) (h:pG W P f st4) (d:ki r4.G r4.ρ f fl) (key:W st4 P->N r4.s):B1 N R' fl r4.s:=by
 cases d with
 |next=>exact key h
 |cont=>exact key h
 |brk=>exact k (r4.dropJ ej) _ .next (RS.drop_le l) rfl h .next
 |ret d=>exact k (r4.dropJ ej) _ (.ret _) (RS.drop_le l) rfl h (.ret d)
theorem Mp {t:PE} {b:PS} {chk:St->Prop} {tg:AV->St->(St->Prop)->Prop} {bd:WB} {P:AF->St->Prop} {R':Result->Shared->Prop} {I:Addr} {S:Nat->JS->Prop} {items:List AV} {js J:JS} (ha:Ip C (t.toM x) tg)
  (hb:∀{st:St} {P:AF->St->Prop} {Q:Flow->Shared->Prop} (r:RS C st),bd st P->jN r P Q->WP C (execs (b.toMs x) C.env) Q r.s) {st:St} (r:RS C st) (Z:It C r I S items chk) (hj:r.J=js++J) (hS:S 0 js) (h:bD chk tg bd items st P)
  (k:∀{st':St} (r':RS C st') (f:AF) (fl:Flow),Lw r r'->r'.J=J->P f st'->ki r'.G r'.ρ f fl->R' (.ok fl) r'.s):codeAny MM C.A (.forLoop (t.toM x) (.ref I) (b.toMs x) [] C.env) R' r.s:=by
 let X:Nat->Shared->Prop:=λn s=>∃(i:Nat) (js:JS) (st':St) (r':RS C st'),r'.s=s/\n=items.length-i/\i<=items.length/\Lw r r'/\r'.J=js++J/\S i js/\bD chk tg bd (items.drop i) st' P
 refine mx X ?_ items.length ⟨0,js,st,r,rfl,rfl,Nat.zero_le _,.rf,hj,hS,h⟩
 rintro n _ ⟨i,js1,st1,r1,rfl,rfl,hi,l1,ej,hS1,h1⟩
 cases e:items[i]? with
 |some v=>
  have h1:=lW e h1
  have hlt:=(az.mp e).1
  refine cS (Z.item r1 rfl rfl l1 ej h1.1 hS1 e λr2 u js2 l2 d2 hS2 ej2=>?_)
  refine cS (Z.go t x _ js2 _ u _ (λp hp=>RS.jGet (r:=r2) (ej2▸aC _ hp)) hS2 (cS (ha r2 d2 h1.2 λr3 l3 h3=>cS (hb r3 h3 λr4 f fl l4 h4 d4=>?_))))
  have l:=(l1.trans l2).trans (l3.w.trans l4.w)
  have ej4:=l4.jn.trans (l3.jn.trans ej2)
  exact sS (N:=λs=>∃m,m<items.length-i/\X m s) k l ej4 h4 d4 λh4=>⟨items.length-(i+1),Nat.sub_lt_sub_left hlt (Nat.lt_succ_self _),i+1,js2,_,r4,rfl,rfl,hlt,l,ej4,hS2,h4⟩
 |none=>
  have hie:i=items.length:=Nat.le_antisymm hi (List.getElem?_eq_none_iff.mp e)
  subst hie
  have h1:=nL h1
  exact cS (Z.done r1 rfl rfl l1 ej h1.1 hS1 λr2 l2 ej2=>ah (k r2 _ _ (l1.trans l2) ej2 h1.2 .next))
theorem kJ:∀(n:Nat) (vs:List AV),(numbered n vs).length=vs.length
 |_,[]=>rfl
 |n,v::vs=>congrArg Nat.succ (kJ (n+1) vs)
theorem rF {vs:List AV}:∀{n i:Nat} {v:AV},vs[i]? =some v->(numbered n vs)[i]? =some (.tup (.type "tuple") [.int ((n+i:Nat):Int),v]):=by
 induction vs with
 |nil=>exactλh=>nomatch h
 |cons w vs ih=>
  intro n i v h
  cases i with
  |zero=>cases h;rfl
  |succ i=>exact(ih (n:=n+1) h).trans (by rw[Nat.succ_add_eq_add_succ])
structure vp (C:Cx) {st₀:St} (r₀:RS C st₀) (J0:JS) (I:Addr) (S:Nat->JS->Prop) (items:List AV):Prop where
 item:∀{st:St} {i:Nat} {js:JS} {v:AV} {ts:List Expr} {k:Nat} {tp:Pos} {Q:Option Value->Shared->Prop} (r:RS C st),Lw r₀ r->r.J=js++J0->S i js->items[i]? =some v->
  (∀T s',(∀(Q':Unit->Shared->Prop),(∀t u js' h'' tk,aY r.G r.ρ v u->S (i+1) js'->h''.IsTuple T #[.int i t,u]->(∀h3:Heap,(∀b y,b≠T->h''.get? b=some y->h3.get? b=some y)->∃r3:RS C st,r3.s={r.s with heap:=h3,toks:=tk}/\Lw r r3/\r3.J=js'++J0)->Q' () {r.s with heap:=h'',toks:=tk})->WP C (letOwnedTupleGo (.Tuple ts k tp) (.ref I) (.ref T)) Q' s')->Q (some (.ref T)) s')->
  WP C (pyNext (.ref I)) Q r.s
 done:∀{st:St} {js:JS} {Q:Option Value->Shared->Prop} (r:RS C st),Lw r₀ r->r.J=js++J0->S items.length js->(∀r':RS C st,Lw r r'->r'.J=J0->Q none r'.s)->WP C (pyNext (.ref I)) Q r.s
theorem Lp (H:bJ D C x) {ts:PE} {b:PS} {k:Nat} {tp:Pos} {bd:WB} {P:AF->St->Prop} {R':Result->Shared->Prop} {I:Addr} {S:Nat->JS->Prop} {items:List AV} {js J:JS} (ok:ts.ok x=true) (h2:(ts.toMs x).length=2)
  (hb:∀{st:St} {P:AF->St->Prop} {Q:Flow->Shared->Prop} (r:RS C st),bd st P->jN r P Q->WP C (execs (b.toMs x) C.env) Q r.s) {st:St} (r:RS C st) (Z:vp C r J I S items) (hj:r.J=js++J) (hS:S 0 js) (h:bD (λ_=>True) (ji (wW D x ts).as) bd (numbered 0 items) st P)
  (kk:∀{st':St} (r':RS C st') (f:AF) (fl:Flow),Lw r r'->r'.J=J->P f st'->ki r'.G r'.ρ f fl->R' (.ok fl) r'.s):codeAny MM C.A (.forLoop (.Tuple (ts.toMs x) k tp) (.ref I) (b.toMs x) [] C.env) R' r.s:=by
 have zt:=snd H ts ok
 let X:Nat->Shared->Prop:=λn s=>∃(i:Nat) (js:JS) (st':St) (r':RS C st'),r'.s=s/\n=items.length-i/\i<=items.length/\Lw r r'/\r'.J=js++J/\S i js/\bD (λ_=>True) (ji (wW D x ts).as) bd ((numbered 0 items).drop i) st' P
 refine mx X ?_ items.length ⟨0,js,st,r,rfl,rfl,Nat.zero_le _,.rf,hj,hS,h⟩
 rintro n _ ⟨i,js1,st1,r1,rfl,rfl,hi,l1,ej,hS1,h1⟩
 cases e:items[i]? with
 |some v=>
  have hlt:=(az.mp e).1
  have h1:=(lW (rF (n:=0) e) h1).2
  rw[Nat.zero_add] at h1
  refine cS (Z.item (ts:=ts.toMs x) (k:=k) (tp:=tp) r1 l1 ej hS1 e λT s' go=>?_)
  refine cS (go _ λt u js2 h'' tk d2 hS2 hT hR=>cS ?_)
  show wpAny _ _ (do standAt tp;unpack _ (assignEach (ts.toMs x) C.env)) _ _ _
  refine ae (wpAny_standAt ?_)
  unfold unpack
  rw[zt.l.an,zt.l.al,show(ts.toMs x).length=(#[Value.int i t,u]:Array Value).size from h2]
  refine ae (aM (wpAny_unpackItems_tuple H.hh hT λh3 he=>?_))
  obtain⟨r3,e3,l3,ej3⟩:=hR h3 λb y _ e=>he b y (aW (ba e)) e
  rw[<-e3]
  refine zt.as r3 (.cons (.int _ _) (.cons (d2.mono l3.G l3.pre) .nil)) h1 λr4 l4 h4=>cS (hb r4 h4 λr5 f fl l5 h5 d5=>?_)
  have l:=(l1.trans l3).trans (l4.w.trans l5.w)
  have ej5:=l5.jn.trans (l4.jn.trans ej3)
  exact sS (N:=λs=>∃m,m<items.length-i/\X m s) kk l ej5 h5 d5 λh5=>⟨items.length-(i+1),Nat.sub_lt_sub_left hlt (Nat.lt_succ_self _),i+1,js2,_,r5,rfl,rfl,hlt,l,ej5,hS2,h5⟩
 |none=>
  have hie:i=items.length:=Nat.le_antisymm hi (List.getElem?_eq_none_iff.mp e)
  subst hie
  rw[<-kJ 0 items] at h1
  have h1:=nL h1
  exact cS (Z.done r1 l1 ej hS1 λr2 l2 ej2=>ah (kk r2 _ _ (l1.trans l2) ej2 h1.2 .next))
end
section
variable {D:Nat} {C:Cx} {x:Sx}
noncomputable def RS.jk2 {st:St} (r:RS C st) {h':Heap} {I J:Addr} {o q:Obj} (hI:r.s.heap.objs.size<=I) (hJ:r.s.heap.objs.size<=J) (hne:I≠J) (hk:∀b x,r.s.heap.get? b=some x->h'.get? b=some x) (e1:h'.get? I=some o) (e2:h'.get? J=some q):RS C st:=
 have F:∀{X:Addr},r.s.heap.objs.size<=X->X≠C.env.locals/\C.h₀.get? X=none:=λ{X} hX=>⟨λe=>Nat.lt_irrefl _ (aP (e▸r.fr.ns.lt) hX),by
  cases e:C.h₀.get? X with
  |none=>rfl
  |some y=>exact absurd (ba (r.fr.keep _ _ e)) (Nat.not_lt.mpr hX)⟩
 have p2:(r.T++(r.I++(r.V++(J,q)::(I,o)::r.J))).Perm ((J,q)::(I,o)::r.L):=qO.trans (List.Perm.cons _ qO)
 {r with
  J:=(J,q)::(I,o)::r.J,s:={r.s with heap:=h'},fr:=Fr.keeps r.fr hk,nw:=iG p2 λp hp=>(aL.mp hp).elim (λe=>e▸⟨e2,F hJ⟩) λhp=>(aL.mp hp).elim (λe=>e▸⟨e1,F hI⟩) λhp=>News.keeps r.nw hk p hp
  nd:=gy p2 (gy (List.Perm.refl _) r.nd (r.old hI)) λp hp=>(aL.mp hp).elim (λe=>e▸hne) λhp=>r.old hJ p hp}
theorem uU {p q z:Addr×Obj} {J0:JS} (hn:(bg (q::p::J0)).Nodup) (hz:z∈J0):z.1∉[p.1,q.1]:=λhb=>by
 have hm:z.1∈bg J0:=bA hz
 have n1:=List.nodup_cons.mp hn
 rcases aL.mp hb with e|hb
 ·rw[e] at hm;exact(List.nodup_cons.mp n1.2).1 hm
 ·rw[aN.mp hb] at hm;exact n1.1 (.tail _ hm)
noncomputable def RS.re2 {st:St} (r:RS C st) {p q:Addr×Obj} {o' q':Obj} {J0:JS} (ej:r.J=q::p::J0) {h':Heap} (hk:∀b o,b∉[p.1,q.1]->r.s.heap.get? b=some o->h'.get? b=some o) (h1:h'.get? p.1=some o') (h2:h'.get? q.1=some q') (t:Nat) (ht:r.s.toks<=t):RS C st:=
 have hn:(bg (q::p::J0)).Nodup:=ej▸RS.jnd
 r.reJ (js:=(q.1,q')::(p.1,o')::J0) (W:=[p.1,q.1]) (λb hb=>by rw[ej];exact(aL.mp hb).elim (λe=>e▸.tail _ (.head _)) λhb=>aN.mp hb▸.head _) hk
  (λz hz=>(aL.mp hz).elim (λe=>e▸⟨h2,by rw[ej];exact .head _⟩) λhz=>(aL.mp hz).elim (λe=>e▸⟨h1,by rw[ej];exact .tail _ (.head _)⟩) λhz=>⟨hk _ _ (uU hn hz) (RS.jGet (by rw[ej];exact .tail _ (.tail _ hz))),by rw[ej];exact .tail _ (.tail _ (bA hz))⟩) hn t ht
noncomputable def RS.out2 {st:St} (r:RS C st) {p q:Addr×Obj} {J0:JS} (ej:r.J=q::p::J0) {h':Heap} (hk:∀b o,b∉[p.1,q.1]->r.s.heap.get? b=some o->h'.get? b=some o) (t:Nat) (ht:r.s.toks<=t):RS C st:=
 have hn:(bg (q::p::J0)).Nodup:=ej▸RS.jnd
 r.reJ (js:=J0) (W:=[p.1,q.1]) (λb hb=>by rw[ej];exact(aL.mp hb).elim (λe=>e▸.tail _ (.head _)) λhb=>aN.mp hb▸.head _) hk
  (λz hz=>⟨hk _ _ (uU hn hz) (RS.jGet (by rw[ej];exact .tail _ (.tail _ hz))),by rw[ej];exact .tail _ (.tail _ (bA hz))⟩) ((List.nodup_cons.mp (List.nodup_cons.mp hn).2).2) t ht
theorem RS.off2 {st:St} (r:RS C st) {p q:Addr×Obj} {J0:JS} (ej:r.J=q::p::J0):r.s.heap.get? p.1=some p.2/\r.s.heap.get? q.1=some q.2:=⟨RS.jGet (r:=r) (by rw[ej];exact .tail _ (.head _)),RS.jGet (r:=r) (by rw[ej];exact .head _)⟩
theorem vp.of {st:St} {r:RS C st} {J0:JS} {I J:Addr} {fp:List Addr} {n:Nat} {Pt:Nat->Array Value->Prop} {St':Nat->Heap->Prop} {Mid:Nat->Addr->Heap->Prop} {items:List AV} (W:WalksT pw W0 C.A I fp [I,J] n Pt St' Mid) (K1:Heap->Prop)
  (hK:∀{st':St} (r':RS C st'),Lw r r'->K1 r'.s.heap) (hL:∀i h,St' i h->(∃o,h.get? I=some o)/\∃o,h.get? J=some o)
  (hS:∀i h h',St' i h->K1 h'->h'.get? I=h.get? I->h'.get? J=h.get? J->St' i h') (hn:items.length=n)
  (hP:∀i v vals,items[i]? =some v->Pt i vals->∃t u,vals=#[.int i t,u]/\aY r.G [] v u):vp C r J0 I (λi js=>∃o q,js=[(J,q),(I,o)]/\∀h:Heap,K1 h->h.get? I=some o->h.get? J=some q->St' i h) items where
 item:=λ{st' i js v ts k tp Q} r1 le ej hs hv kk=>by
  obtain⟨o,q,rfl,hs⟩:=hs
  have hi:i<n:=hn▸(az.mp hv).1
  obtain⟨e1,e2⟩:=r1.off2 ej
  refine c9 (W.item i r1.s _ _ hi (hs _ (hK r1 le) e1 e2) λT vals h' tk hPt hsz hT hMid hk ht=>?_)
  refine kk T {r1.s with heap:=h',toks:=tk} λQ' k2=>?_
  refine W.go ts k tp i T _ Q' b9 hMid λh'' hst hk2=>?_
  obtain⟨t,u,rfl,d⟩:=hP i v vals hv hPt
  obtain⟨⟨o',ho'⟩,q',hq'⟩:=hL _ _ hst
  obtain⟨to,ht1,ht2⟩:=hT
  have lt:∀{b:Addr} {y:Obj},r1.s.heap.get? b=some y->b≠T:=λe=>aW (aP (ba e) hsz)
  refine k2 t u [(J,q'),(I,o')] h'' tk (d.mono le.G List.nil_prefix) ⟨o',q',rfl,λh a b c=>hS _ _ _ hst a (b.trans ho'.symm) (c.trans hq'.symm)⟩ ⟨to,hk2 T to (W.apart _ _ _ hMid) ht1,ht2⟩ λh3 hk3=>?_
  exact⟨r1.re2 (p:=(I,o)) (q:=(J,q)) ej (h':=h3) (λb x hb e=>hk3 b x (lt e) (hk2 b x hb (hk b x hb e))) (hk3 _ _ (lt e1) ho') (hk3 _ _ (lt e2) hq') tk ht,rfl,⟨aw,λ_ h=>h⟩,rfl⟩
 done:=λ{st' js Q} r1 le ej hs kk=>by
  obtain⟨o,q,rfl,hs⟩:=hs
  obtain⟨e1,e2⟩:=r1.off2 ej
  rw[hn] at hs
  exact c9 (W.done r1.s _ _ (hs _ (hK r1 le) e1 e2) λh' tk hk ht=>kk (r1.out2 (p:=(I,o)) (q:=(J,q)) ej hk tk ht) ⟨aw,λ_ h=>h⟩ rfl)
theorem yB {A:Around} (hh:A.handled=none) (it:Addr) (x:Str) (t:Tok):Draws pw W0 A it [it] x.cps.size (λi v=>∃c u,x.cps[i]? =some c/\v=.str ⟨#[c]⟩ u) (λi h=>h.IsStrIter it (strIterType x) x t i):=by
 unfold strIterType
 split
 ·exact Draws.strAscii hh it x t
 ·exact Draws.strWide hh it x t
theorem JL (hh:C.A.handled=none) {v:AV} {u:Value} {st:St} (r:RS C st) (d:r.D v u) {KK:List AV->Prop} (h:wx v KK) {Q:Value->Shared->Prop}
  (k:∀I J items S js (r':RS C st),KK items->vp C r' r.J I S items->S 0 js->IsEnum r'.s.heap I J 0 .none->r'.J=js++r.J->Lw r r'->Q (.ref I) r'.s):WP C (call (.type "enumerate") [u]) Q r.s:=by
 have hh':C.A.in1.handled=none:=hh
 have n1:r.s.heap.objs.size+1≠r.s.heap.objs.size:=Nat.succ_ne_self _
 cases v with
 |str g q=>
  refine d.strE λt _=>call_enumerate_str λh' he hs _ hk=>?_
  obtain⟨q,hq,hr⟩:=id hs
  have W:=WalksT.enumerateD (yB hh' r.s.heap.objs.size (tx g) t) (r.s.heap.objs.size+1) n1 (by simp) (by simp)
  refine k _ _ _ _ [(r.s.heap.objs.size,q),(r.s.heap.objs.size+1,_)] (r.jk2 (aK _) (ak _) n1 hk he hq) h.2 (vp.of W (λ_=>True) (λ_ _=>trivial) (λi h ⟨⟨_,a⟩,b,c,_⟩=>⟨⟨_,a⟩,b,c⟩) (λi h h2 ⟨⟨old,a⟩,b,c,r⟩ _ e1 e2=>⟨⟨old,e1.trans a⟩,b,e2.trans c,r⟩) (ai ..) λi v vals hv ⟨t',x',⟨c,u',hc,e1⟩,e2⟩=>?_) ⟨_,_,rfl,λh3 _ a b=>⟨⟨.none,a⟩,q,b,hr⟩⟩ he rfl ⟨aw,λ_ h=>h⟩
  subst e1 e2
  have hc':g[i]? =some c:=(Array.getElem?_toList ..).trans hc
  rw[aO,hc'] at hv
  cases hv
  exact⟨t',_,rfl,.str [c] u' none λ_ h=>nomatch h⟩
 |ilst vs=>
  refine d.ilstE λa xs n g d=>?_
  have hg:=r.gGet g
  have hlt:a<r.s.heap.objs.size:=ba hg
  refine call_enumerate_list (items:=xs.toArray) ⟨_,hg,rfl,n,rfl⟩ λh' he hs _ hk=>?_
  obtain⟨q,hq,hr⟩:=id hs
  have W:=WalksT.enumerateD (Draws.list (prog:=pw) (w:=W0) hh' r.s.heap.objs.size a (aW hlt) xs.toArray) (r.s.heap.objs.size+1) n1 (by intro hm;simp at hm;exact Nat.lt_irrefl _ (aH (hm▸hlt) (Nat.lt_succ_self _))) (by simp)
  refine k _ _ _ _ [(r.s.heap.objs.size,q),(r.s.heap.objs.size+1,_)] (r.jk2 (aK _) (ak _) n1 hk he hq) h (vp.of W (λh=>h.get? a=some (listOf xs.toArray n)) (λr' le=>r'.gGet (le.G _ _ g)) (λi h ⟨⟨_,a⟩,⟨b,c,_⟩,_⟩=>⟨⟨_,a⟩,b,c⟩) (λi h h2 ⟨⟨old,a⟩,⟨b,c,r⟩,_⟩ kk e1 e2=>⟨⟨old,e1.trans a⟩,⟨b,e2.trans c,r⟩,⟨_,kk,rfl,n,rfl⟩⟩) (d.length.trans ay.symm) λi v vals hv ⟨t',x',hx,e2⟩=>?_) ⟨_,_,rfl,λh3 kk a' b=>⟨⟨.none,a'⟩,⟨q,b,hr⟩,⟨_,kk,rfl,n,rfl⟩⟩⟩ he rfl ⟨aw,λ_ h=>h⟩
  obtain⟨y,hy,dy⟩:=d.get hv
  have hx':xs[i]? =some x':=by rw[<-hx];exact bb.symm
  exact⟨t',_,e2,Option.some.inj (hy.symm.trans hx')▸dy⟩
 |_=>exact h.elim
theorem Ei (H:bJ D C x) {t it:PE} {b:PS} {p:Pos} {w:WB} (ot:t.ok x=true) (oi:it.ok x=true) (hb:∀{st:St} {P:AF->St->Prop} {Q:Flow->Shared->Prop} (r:RS C st),w st P->jN r P Q->WP C (execs (b.toMs x) C.env) Q r.s):SB C (.For (t.toM x) (it.toM x) (b.toMs x) [] p) λst P=>(wW D x it).e st λv st1=>iw v st1 λitems chk=>bD chk (wW D x t).a w items st1 P:=λ{st P Q} r h k=>
 wpAny_For ((snd H it oi).e r h λr1 _ _ l1 h1 d1=>h1.run H.toCxB r1 d1 λI items chk S js r2 hw l2 ej hS Z=>Mp (R':=λr s'=>match r with| .ok f=>Q f s'| .error e=>cameBackBy MM C.A C.env b9 e s') (snd H t ot).a hb r2 Z ej hS hw λr3 f fl l3 ej3=>k r3 f fl (l1.trans ((l2.trans l3).le ej3))) ((it.pl x).fold _)
theorem EU (H:bJ D C x) {ts it:PE} {b:PS} {k:Nat} {g:Nat} {tp gp cp p:Pos} {w:WB} (ot:ts.ok x=true) (oi:it.ok x=true) (hb:∀{st:St} {P:AF->St->Prop} {Q:Flow->Shared->Prop} (r:RS C st),w st P->jN r P Q->WP C (execs (b.toMs x) C.env) Q r.s):SB C (.For (.Tuple (ts.toMs x) k tp) (.Call (.Name (bu (x.gls.map (·.1)) g) gp) [it.toM x] [] cp) (b.toMs x) [] p) λst P=>(∃y,x.gls[g]? =some (y,.type "enumerate"))/\(ts.toMs x).length=2/\(wW D x it).e st λv st1=>wx v λitems=>bD (λ_=>True) (ji (wW D x ts).as) w (numbered 0 items) st1 P:=λ{st P Q} r h k=>by
 obtain⟨⟨y,hg⟩,h2,h⟩:=h
 refine wpAny_For (hs:=λu=>rfl) ?_
 show wpAny _ _ (do callWith cp (<-eval ((PE.glb g gp).toM x) C.env) [] (backTo cp (starEach ((PE.cons it .nil).toMs x) C.env)) (backToKw cp (keywordEach (PE.nil.toMk x) C.env))) _ _ _
 refine ae (w4 (r:=r) H (P:=λv st'=>v=.val (.type "enumerate")/\st'=st) (by unfold pj;rw[hg];exact⟨rfl,rfl⟩) λ{st0} r0 gv va l0 h0 d0=>?_)
 obtain⟨rfl,rfl⟩:=h0
 refine d0.valE ?_
 refine fJ (m1:=(PE.cons it .nil).M x) (m2:=PE.nil.M x) (r:=r0) (uw k6) k6 (args_cons ((snd H it oi).e r0 h λr2 _ _ l2 h2' d2=>?_) ((it.pl x).star _ _))
 refine spliced_nil (kws_nil ⟨⟨r2.kin H.toCxB,trivial⟩,JL H.hh r2 d2 h2' λI J items S js r3 hw Z hS he ej l3=>wpAny_pyIter_enum he ?_⟩)
 exact Lp (R':=λr s'=>match r with| .ok f=>Q f s'| .error e=>cameBackBy MM C.A C.env b9 e s') H ot h2 hb r3 Z ej hS hw λr4 f fl l4 ej4=>k r4 f fl ((l0.trans l2).trans ((l3.trans l4).le ej4))
theorem C7 (H:bJ D C x) (e:PS):e.ok x=true->Ic C (e.M x) (wS D x e):=by
 induction e with
 |a k=>exactλ_=>.of (Kn H k)
 |e k t y=>exactλok=>.of (IW H k t y ok)
 |ite t b o p ib io=>
  exactλok=>.of λr h k=>wpAny_If ((snd H t (aE (aE ok))).t r h λr1 c l1 h1=>by
   cases c with
   |true=>exact(ib (aA (aE ok))).ss r1 (h1.1 rfl) (k.le l1)
   |false=>exact(io (aA ok)).ss r1 (h1.2 rfl) (k.le l1))
 |whl t b p ib=>exactλok=>.of λr h k=>h.elim λn h=>FI (snd H t (aE ok)).t (ib (aA ok)).ss r h k
 |fer t it b p ib=>exactλok=>.of (Ei H (aA (aE ok)) (aE (aE ok)) (ib (aA ok)).ss)
 |fen ts k tp g gp cp it b p ib=>exactλok=>.of (EU H (aA (aE ok)) (aE (aE ok)) (ib (aA ok)).ss)
 |nil=>exactλ_=>⟨λr h k=>ae (wpAny_standAt (ah (k r _ _ .rf h.elim .next))),λr h k=>wpAny_execs_nil (k r _ _ .rf h .next)⟩
 |cons s ss is iss=>
  exactλok=>⟨λ_ h=>h.elim,λr h k=>wpAny_execs_cons ((is (aE ok)).s r h λr1 f fl l1 h1 d1=>by
   cases d1 with
   |next=>exact(iss (aA ok)).ss r1 h1 (k.le l1)
   |cont=>exact k r1 _ _ l1 h1 .cont
   |brk=>exact k r1 _ _ l1 h1 .brk
   |ret d=>exact k r1 _ _ l1 h1 (.ret d))⟩
end
noncomputable def fdOf (K:Frag) (f:Addr):FuncData:=match K.lookup f with
 |some o=>(match o.data with| .func fd=>fd|_=>default)
 |_=>default
noncomputable def wq (K:Frag) (f:Addr):Bool:=match K.lookup f with
 |some o=>(match o.data with| .func _=>true|_=>false)
 |_=>false
noncomputable def s6 (K:Frag) (y:Str) (v:Value):Bool:=match nsIn K mainGlobals y with
 |some (some u)=>u==v
 |some none=>bootBuiltins y==some v&&!(y=="__name__")
 |none=>false
noncomputable def Ci (c:Addr) (v:Value):Bool:=match c with
 |0=>true
 |n+1=>v==.ref (n+1)
noncomputable def gP (K:Frag) (f:Addr) (x:Sx) (b:PS):Bool:=
 wq K f&&((fdOf K f).globals==mainGlobals&&((fdOf K f).builtins==builtinsNs&&((fdOf K f).closure.isEmpty&&(codeIn K (fdOf K f).code (fdOf K f).qualname&&(keepIn K (.ref f)&&((fdOf K f).scope.kind==.function&&(!(fdOf K f).scope.isCoroutine&&(!(fdOf K f).scope.isGenerator&&
  (x.nms.all (λy=>(fdOf K f).scope.names.lookup y==some .local&&!(y==("__debug__":Str)))&&(x.gls.all (λp=>(fdOf K f).scope.names.lookup p.1==some .globalImplicit&&(!(p.1==("__debug__":Str))&&s6 K p.1 p.2))&&
  (x.cls.all (λp=>(fdOf K f).scope.names.lookup p.1==some .cell&&!(p.1==("__debug__":Str)))&&((cellsFrom 0 (fdOf K f).scope.names []).map (·.1)==x.cls.map (·.1)&&(b.ok x&&(Ci x.cod (fdOf K f).code&&(decide x.nms.Nodup&&decide (x.cls.map (·.1)).Nodup)))))))))))))))
structure lR (f:Addr) (x:Sx) (b:PS) (fd:FuncData):Prop where
 look:∃oc od osl,K0.lookup f=some ⟨oc,od,.func fd,osl⟩
 glob:fd.globals=mainGlobals
 bi:fd.builtins=builtinsNs
 clos:fd.closure=[]
 code:codeIn K0 fd.code fd.qualname=true
 keep:keepIn K0 (.ref f)=true
 kind:fd.scope.kind=.function
 co:fd.scope.isCoroutine=false
 gen:fd.scope.isGenerator=false
 lc:∀y∈x.nms,fd.scope.names.lookup y=some .local/\(y==("__debug__":Str))=false
 gl:∀p∈x.gls,fd.scope.names.lookup p.1=some .globalImplicit/\(p.1==("__debug__":Str))=false/\rt p.1 p.2
 cc:∀p∈x.cls,fd.scope.names.lookup p.1=some .cell/\(p.1==("__debug__":Str))=false
 cls:(cellsFrom 0 fd.scope.names []).map (·.1)=x.cls.map (·.1)
 ok:b.ok x=true
 cod:x.cod≠0->fd.code=.ref x.cod
 nd:x.nms.Nodup
 cnd:(x.cls.map (·.1)).Nodup
 body:fd.body=.stmts (b.toMs x)
theorem vP {K:Frag} {f:Addr} (h:wq K f=true):∃oc od osl,K.lookup f=some ⟨oc,od,.func (fdOf K f),osl⟩:=by
 unfold wq at h
 unfold fdOf
 cases e:K.lookup f with
 |none=>rw[e] at h;exact absurd h au
 |some o=>
  rw[e] at h
  obtain⟨oc,od,dt,osl⟩:=o
  cases dt with
  |func fd=>exact⟨oc,od,osl,rfl⟩
  |_=>exact absurd h au
theorem xB {y:Str} {v:Value} (h:s6 K0 y v=true):rt y v:=by
 unfold s6 at h
 unfold rt
 cases e:nsIn K0 mainGlobals y with
 |none=>rw[e] at h;exact absurd h au
 |some u=>
  rw[e] at h
  cases u with
  |some u=>exact .inl (congrArg (λz=>some (some z)) (eq_of_beq h))
  |none=>exact .inr ⟨rfl,eq_of_beq (aE h),λe=>absurd (beq_iff_eq.mpr e) (by rw[cO (aA h)];exact au)⟩
theorem Bb {c:Addr} {v:Value} (h:Ci c v=true) (h0:c≠0):v=.ref c:=by
 cases c with
 |zero=>exact absurd rfl h0
 |succ n=>exact eq_of_beq h
theorem cg {α:Type} {l:List α} {p:α->Bool} (h:l.all p=true):∀a∈l,p a=true:=aF.mp h
theorem defAt {f:Addr} {x:Sx} {b:PS} (h:gP K0 f x b=true) (hb:(fdOf K0 f).body=.stmts (b.toMs x)):lR f x b (fdOf K0 f):=by
 have h1:=aE h;have h:=aA h
 have h2:=aE h;have h:=aA h
 have h3:=aE h;have h:=aA h
 have h4:=aE h;have h:=aA h
 have h5:=aE h;have h:=aA h
 have h6:=aE h;have h:=aA h
 have h7:=aE h;have h:=aA h
 have h8:=aE h;have h:=aA h
 have h9:=aE h;have h:=aA h
 have h10:=aE h;have h:=aA h
 have h11:=aE h;have h:=aA h
 have h12:=aE h;have h:=aA h
 have h13:=aE h;have h:=aA h
 have h14:=aE h;have h:=aA h
 have h15:=aE h;have h:=aA h
 exact⟨vP h1,eq_of_beq h2,eq_of_beq h3,List.isEmpty_iff.mp h4,h5,h6,eq_of_beq h7,cO h8,cO h9,λy hy=>⟨eq_of_beq (aE (cg h10 y hy)),cO (aA (cg h10 y hy))⟩,λp hp=>⟨eq_of_beq (aE (cg h11 p hp)),cO (aE (aA (cg h11 p hp))),xB (aA (aA (cg h11 p hp)))⟩,
  λp hp=>⟨eq_of_beq (aE (cg h12 p hp)),cO (aA (cg h12 p hp))⟩,eq_of_beq h13,h14,Bb h15,aj (aE h),aj (aA h),hb⟩
theorem yx {c:Addr} {q:Str} (h:codeIn K0 (.ref c) q=true):nY c=q++".<locals>.":=by
 unfold codeIn at h
 unfold nY
 dsimp only at h
 cases e1:K0.lookup c with
 |none=>rw[e1] at h;cases h
 |some o=>
  rw[e1] at h
  obtain⟨oc,od,dt,sl⟩:=o
  cases dt with
  |fields vs=>
   dsimp only at h⊢
   cases e2:vs.toList with
   |nil=>rw[e2] at h;cases h
   |cons a l=>cases l with
    |nil=>rw[e2] at h;cases h
    |cons v l=>
     rw[e2] at h
     cases v with
     |str n t=>
      have hq:n=q:=eq_of_beq (show(n==q)=true from h)
      rw[<-hq]
     |_=>cases h
  |_=>cases h
section
variable {k:Str->Option NameKind}
theorem pQ {y:Str}:∀{ns:List Str} {us:List Value} {m:Str->Option Value},y∉ns->bindL k (ns.zip us) m y=m y
 |[],us,m,_=>rfl
 |n::ns,[],m,_=>rfl
 |n::ns,u::us,m,h=>by
  rw[List.zip_cons_cons]
  unfold bindL
  rw[pQ λhm=>h (.tail _ hm)]
  split
  ·exact if_neg (λ(e:y=n)=>h (e▸.head _))
  ·rfl
theorem kV {y:Str}:∀{ns:List Str} {us:List Value} {m:Str->Option Value},y∉ns->bindC k (ns.zip us) m y=m y
 |[],us,m,_=>rfl
 |n::ns,[],m,_=>rfl
 |n::ns,u::us,m,h=>by
  rw[List.zip_cons_cons]
  unfold bindC
  rw[kV λhm=>h (.tail _ hm)]
  split
  ·rfl
  ·exact if_neg (λ(e:y=n)=>h (e▸.head _))
theorem xN {y:Str} {u:Value} (hk:k y=some .local) {ns:List Str}:∀{us:List Value} {m:Str->Option Value} {j:Nat},ns.Nodup->ns[j]? =some y->us[j]? =some u->bindL k (ns.zip us) m y=some u:=by
 induction ns with
 |nil=>exactλ_ h=>nomatch h
 |cons n ns ih=>
  intro us m j hn h1 h2
  cases us with
  |nil=>cases h2
  |cons u' us=>
   rw[List.zip_cons_cons]
   unfold bindL
   cases j with
   |zero=>cases h1;cases h2;rw[pQ (List.nodup_cons.mp hn).1,if_pos hk];exact if_pos rfl
   |succ j=>exact ih (List.nodup_cons.mp hn).2 h1 h2
theorem yE {y:Str} {u:Value} (hk:k y≠some .local) {ns:List Str}:∀{us:List Value} {m:Str->Option Value} {j:Nat},ns.Nodup->ns[j]? =some y->us[j]? =some u->bindC k (ns.zip us) m y=some u:=by
 induction ns with
 |nil=>exactλ_ h=>nomatch h
 |cons n ns ih=>
  intro us m j hn h1 h2
  cases us with
  |nil=>cases h2
  |cons u' us=>
   rw[List.zip_cons_cons]
   unfold bindC
   cases j with
   |zero=>cases h1;cases h2;rw[kV (List.nodup_cons.mp hn).1,if_neg hk];exact if_pos rfl
   |succ j=>exact ih (List.nodup_cons.mp hn).2 h1 h2
end
noncomputable def nR:List Str->List Str->List (Option Nat)->Bool
 |[],_,[]=>true
 |y::ys,ns,j::js=>(match j with|some j=>ns[j]? ==some y|none=>!(ns.any λz=>z==y))&&nR ys ns js
 |_,_,_=>false
theorem nO {ys ns:List Str}:∀{js:List (Option Nat)},nR ys ns js=true->∀(i:Nat) (y:Str),ys[i]? =some y->∃j,js[i]? =some j/\(match j with|some j=>ns[j]? =some y|none=>y∉ns):=by
 induction ys with
 |nil=>exactλ_ _ _ h=>nomatch h
 |cons y ys ih=>
  intro js h i z e
  cases js with
  |nil=>cases h
  |cons j js=>
   cases i with
   |zero=>
    cases e
    refine⟨j,rfl,?_⟩
    have h:=aE h
    cases j with
    |some j=>exact eq_of_beq h
    |none=>exactλhm=>absurd (show(ns.any λz=>z==y)=true from List.any_eq_true.mpr ⟨y,hm,beq_self_eq_true y⟩) (by rw[cO h];exact au)
   |succ i=>exact ih (aA h) i z e
noncomputable def bP (args:List AV) (js:List (Option Nat)):List (Option AV):=js.map λo=>o.bind λj=>args[j]?
noncomputable def iX (K:Frag) (f:Addr) (x:Sx) (ns:List Str) (jl jc:List (Option Nat)):Bool:=
 ns.all (λy=>(fdOf K f).scope.names.lookup y==some .local||((fdOf K f).scope.names.lookup y==some .cell&&x.cls.any λq=>q.1==y))&&(decide ns.Nodup&&(nR x.nms ns jl&&nR (x.cls.map (·.1)) ns jc))
noncomputable def Binds (f:Addr) (ns:List Str) (args:List AV) (kws:List (Str×AV)) (as:List AV):Prop:=
 ∀(s:Shared) (us:List Value) (ku:List (Str×Value)),K0.In s.heap->us.length=args.length->ku.map (·.1)=kws.map (·.1)->∃us',BindsTo s (fdOf K0 f) ⟨us,ku⟩ (ns.zip us')/\∀G ρ,aT G ρ args us->bL (λx=>x) G ρ kws ku->aT G ρ as us'
theorem A2 {f:Addr} {x:Sx} {b:PS} (A:lR f x b (fdOf K0 f)) {ns:List Str} {jl jc:List (Option Nat)} (hc:iX K0 f x ns jl jc=true) {as:List AV} {us:List Value} {G:GP} {ρ:List Addr} (d:aT G ρ as us) {i:Nat} {y:Str} {v:AV} (hy:x.nms[i]? =some y) (hv:(bP as jl)[i]? =some (some v)):∃u,bindL (λy=>(fdOf K0 f).scope.names.lookup y) (ns.zip us) (λ_=>none) y=some u/\aY G ρ v u:=by
 obtain⟨j,q1,q2⟩:=nO (aE (aA (aA hc))) i y hy
 unfold bP at hv
 rw[aO,q1] at hv
 cases j with
 |none=>cases hv
 |some j=>
  obtain⟨u,q3,d⟩:=d.get (show as[j]? =some v from Option.some.inj hv)
  exact⟨u,xN (A.lc y (a0 hy)).1 (aj (aE (aA hc))) q2 q3,d⟩
noncomputable def xk (G:GP) (ρ:List Addr) (v:Option AV) (u:Option Value):Prop:=match v with
 |none=>u=none
 |some v=>∃x,u=some x/\aY G ρ v x
theorem Be {f:Addr} {x:Sx} {b:PS} (A:lR f x b (fdOf K0 f)) {ns:List Str} {jl jc:List (Option Nat)} (hc:iX K0 f x ns jl jc=true) {as:List AV} {us:List Value} {G:GP} {ρ:List Addr} (hl:as.length=ns.length) (d:aT G ρ as us) {i:Nat} {y:Str} (hy:(x.cls.map (·.1))[i]? =some y):xk G ρ ((bP as jc).getD i none) (bindC (λy=>(fdOf K0 f).scope.names.lookup y) (ns.zip us) (λ_=>none) y):=by
 obtain⟨j,q1,q2⟩:=nO (aA (aA (aA hc))) i y hy
 unfold bP
 rw[aB,aO,q1]
 obtain⟨q,hq,rfl⟩:=aG.mp (a0 hy)
 have hk:=(A.cc q hq).1
 cases j with
 |none=>exact kV q2
 |some j=>
  have hj:j<as.length:=by rw[hl];exact(az.mp q2).1
  obtain⟨u,q3,d⟩:=d.get (aq hj)
  show xk G ρ (as[j]?) _
  rw[aq hj]
  exact⟨u,yE (by rw[hk];nofun) (aj (aE (aA hc))) q2 q3,d⟩
theorem nG {cs:List (Str×Addr)} (hn:(cs.map (·.1)).Nodup) {i:Nat} {y:Str} (h:(cs.map (·.1))[i]? =some y):∃a,cs.lookup y=some a/\(cs.map (·.2))[i]? =some a:=by
 rw[aO] at h⊢
 cases e:cs[i]? with
 |none=>rw[e] at h;cases h
 |some p=>rw[e] at h;cases h;exact⟨p.2,lookup_of_mem_nodup hn (a0 e),rfl⟩
theorem xO {G:GP} {ρ:List Addr} {cm:Str->Option Value} {cs:List (Str×Addr)} {cells:List (Addr×Obj)} (h:CellsAre cm cs cells):∀{cinit:List (Option AV)},cinit.length=cs.length->(∀(i:Nat) (y:Str),(cs.map (·.1))[i]? =some y->xk G ρ (cinit.getD i none) (cm y))->
  bg cells=cs.map (·.2)/\cq G ρ (cinit.map AO.cell) cells:=by
 induction h with
 |nil=>
  intro cinit hl _
  cases List.length_eq_zero_iff.mp hl
  exact⟨rfl,.nil⟩
 |@cons n c o cs cells ho _ ih=>
  intro cinit hl hd
  cases cinit with
  |nil=>cases hl
  |cons v cinit=>
   have z:=ih (Nat.succ.inj hl) λi y hy=>hd (i+1) y hy
   refine⟨congrArg (c::·) z.1,.cons ?_ z.2⟩
   have h0:xk G ρ v (cm n):=hd 0 n rfl
   cases v with
   |none=>exact ho.trans (congrArg _ h0)
   |some v=>exact h0.imp λu h=>h.imp_left λe=>ho.trans (congrArg _ e)
noncomputable def cH (Q:AV->St->Prop) (f:AF) (st:St):Prop:=match f with
 | .ret r=>Q r st
 | .next=>Q .none st
 |_=>False
theorem wQ {D:Nat} {f:Addr} {x:Sx} {b:PS} (A:lR f x b (fdOf K0 f)) {ns:List Str} {jl jc:List (Option Nat)} (hc:iX K0 f x ns jl jc=true) {args as:List AV} {kws:List (Str×AV)} (hb:Binds f ns args kws as) (hal:as.length=ns.length) (hcl:jc.length=x.cls.length)
  {A0:Around} {s:Shared} {h0:Heap} {B:GP} {T I V:List (Addr×Obj)} {hp:List AO} {tk:Nat} {us:List Value} {ku:List (Str×Value)} {Q:Value->Shared->Prop} {R:AV->St->Prop}
  (num:x.cls.map (·.2)=List.range' hp.length x.cls.length) (kin:K0.In h0) (top:∃p loose mg mb,TopRead p loose mg mb h0) (sm:∃o,h0.get? sysModules=some o) (nb:NoneBooked h0) (hh:A0.handled=none) (dep:A0.depth+(D+1)<recursionLimit) (un:A0.units+20*(D+1)+50<cLine)
  (h0e:∀b o,h0.get? b=some o->s.heap.get? b=some o) (h0s:h0.objs.size=s.heap.objs.size) (nw:∀p∈T++(I++V),s.heap.get? p.1=some p.2/\h0.get? p.1=none) (nd:(bg (T++(I++V))).Nodup) (bk:∀a o,B a o->h0.get? a=some o) (va:bg V=[277,364]) (vo:∀p∈V,gg (λa o=>B a o∨(a,o)∈I) p.1 p.2)
  (dn:cq (λa o=>B a o∨(a,o)∈I) (bg T) hp T) (gb:AllBare s.gens) (ds:aT (λa o=>B a o∨(a,o)∈I) (bg T) args us) (dk:bL (λx=>x) (λa o=>B a o∨(a,o)∈I) (bg T) kws ku) (htk:tk<=s.toks)
  (hw:bB D x b ⟨bP as jl,hp++(bP as jc).map AO.cell,tk⟩ (cH R))
  (k:∀{C:Cx} {st1:St} (r1:RS C st1) (v:AV) (u:Value),C.h₀=h0->C.B=B->C.os=s.os->bg T<+:r1.ρ->(∀p∈I,p∈r1.I)->r1.J=[]->R v st1->r1.D v u->Q u r1.s):codeAny MM A0 (.call (.ref f) ⟨us,ku⟩) (xa Q) s:=by
 have Xs:=kin.keeps h0e
 obtain⟨oc,od,osl,ho⟩:=A.look
 obtain⟨us',hB,hval⟩:=hb s us ku Xs ds.length.symm dk.names
 have hv:=hval _ _ ds dk
 have hcn:∀n,(cellsFrom n (fdOf K0 f).scope.names []).map (·.1)=x.cls.map (·.1):=λn=>(cellsFrom_names (fdOf K0 f).scope.names n 0 [] [] rfl).trans A.cls
 refine codeAny_call_function (aJ (aQ _ _) dep) (Xs _ _ ho) rfl A.co A.gen A.body (codeRec_of Xs A.code) (hB _ _ _ _ ?_)
 rw[A.clos]
 refine(c9 (wpAny_newFunctionEnv_cells A.kind (λy hy=>?_) λenv he s' N ht0=>?_))
 ·rcases Bool.or_eq_true_iff.mp (cg (aE hc) _ (List.of_mem_zip hy).1) with h|h
  ·exact .inl (eq_of_beq h)
  ·refine .inr ⟨eq_of_beq (aE h),?_⟩
   obtain⟨q,hq,e⟩:=List.any_eq_true.mp (aA h)
   obtain⟨i,hi⟩:=List.getElem?_of_mem (List.mem_map_of_mem (f:=(·.1)) hq)
   rw[<-hcn (s.heap.objs.size+1)] at hi
   obtain⟨a,ha,_⟩:=nG (by rw[hcn];exact A.cnd) hi
   rw[<-eq_of_beq e,ha];rfl
 obtain⟨h₁,t₁,rfl,hk₁⟩:=N.done
 have hns:=N.toInCall.ns
 subst he
 obtain⟨p',loose,mg,mb,TR⟩:=top
 refine⟨TR.nolimit.keeps λb o e=>hk₁ b o (h0e b o e),codeAny_func ?_⟩
 let env:=newEnv (fdOf K0 f).scope s.heap.objs.size (fdOf K0 f).globals (cellsFrom (s.heap.objs.size+1) (fdOf K0 f).scope.names []) ((fdOf K0 f).qualname++".<locals>.") (some f) (fdOf K0 f).code none (fdOf K0 f).builtins
 let C':Cx:={env:=env,A:=A0.deeper env,h₀:=h0,B:=B,nms:=x.nms,cls:=x.cls,os:=s.os}
 have H':bJ D C' x:={
  kin:=kin,top:=⟨p',loose,mg,mb,TR⟩,hh:=hh,sm:=sm,nb:=nb
  dep:=by show A0.depth+1+D<recursionLimit;rw[Nat.add_assoc,Nat.add_comm 1];exact dep
  un:=by show A0.units+3+20*D+50<cLine;omega
  un2:=by show A0.units+3+20*D+67<cLine;omega
  kind:=A.kind,glob:=A.glob,bi:=A.bi,nms:=rfl,nd:=A.nd,lc:=A.lc,cls:=rfl,cc:=A.cc,gl:=A.gl,cod:=A.cod
  qual:=λh0=>by have h1:=A.code;rw[A.cod h0] at h1;exact(yx h1).symm}
 have hnc:((cellsFrom (s.heap.objs.size+1) (fdOf K0 f).scope.names []).map (·.1)).Nodup:=by rw[hcn];exact A.cnd
 obtain⟨cells,NC,Y⟩:=Cl.news (h₀:=s.heap) (ak _) (cs:=cellsFrom (s.heap.objs.size+1) (fdOf K0 f).scope.names []) λn c hm=>⟨N.cell n c (lookup_of_mem_nodup hnc hm),N.above n c hm⟩
 have hlen:(bP as jc).length=(cellsFrom (s.heap.objs.size+1) (fdOf K0 f).scope.names []).length:=by
  have:=congrArg List.length (hcn (s.heap.objs.size+1))
  rw[ai,ai] at this
  unfold bP
  rw[ai,hcl,this]
 obtain⟨e1,Dc⟩:=xO (G:=λa o=>B a o∨(a,o)∈I) (ρ:=bg T) Y hlen λi y hy=>Be A hc hal hv (by rw[<-hcn];exact hy)
 have hge:∀p∈cells,s.heap.objs.size<p.1:=λp hp=>by
  have h1:p.1∈bg cells:=bA hp
  rw[e1] at h1
  obtain⟨q,hq,e⟩:=aG.mp h1
  rw[<-e];exact N.above q.1 q.2 hq
 have old:∀p∈T++(I++V),p.1<s.heap.objs.size:=λp hp=>ba (nw p hp).1
 have pm:((T++cells)++(I++(V++[]))).Perm (cells++(T++(I++V))):=by
  rw[List.append_nil,<-ax cells]
  exact List.Perm.append_right _ List.perm_append_comm
 let r:RS C' ⟨bP as jl,hp++(bP as jc).map AO.cell,tk⟩:={
  m:=bindL env.kindOf (ns.zip us') λ_=>none,T:=T++cells,I:=I,V:=V,J:=[],s:={s with heap:=h₁,toks:=t₁}
  fr:=⟨hns,λb o e=>hk₁ b o (h0e b o e),Nat.le_of_eq h0s⟩
  nw:=λp hp=>by
   rcases bo.mp (pm.mem_iff.mp hp) with hp|hp
   ·refine⟨(NC p hp).1,(NC p hp).2.1,?_⟩
    cases q:h0.get? p.1 with
    |none=>rfl
    |some o=>exact absurd (ba (h0e _ _ q)) (Nat.not_lt.mpr (Nat.le_of_lt (hge p hp)))
   ·exact⟨hk₁ _ _ (nw p hp).1,aW (old p hp),(nw p hp).2⟩
  nd:=(pm.map _).nodup_iff.mpr (by
   rw[show List.map (λx:Addr×Obj=>x.1) (cells++(T++(I++V)))=bg cells++bg (T++(I++V)) from bh]
   refine a7.mpr ⟨by rw[e1];exact List.pairwise_map.mpr N.apart,nd,λa ha b hb e=>?_⟩
   obtain⟨p,hp,rfl⟩:=aG.mp ha
   obtain⟨q,hq,rfl⟩:=aG.mp hb
   exact absurd (old q hq) (Nat.not_lt.mpr (Nat.le_of_lt (e▸hge p hp))))
  va:=va,vo:=vo,bk:=bk
  loc:=λi y v hy hv'=>(A2 A hc hv hy hv').imp λu z=>z.imp_right λd=>d.mono (λ_ _ g=>g) (by rw[bh];exact List.prefix_append ..)
  cel:=λy j hy=>by
   obtain⟨i,hi⟩:=List.getElem?_of_mem hy
   have hil:i<x.cls.length:=(az.mp hi).1
   have h2:(x.cls.map (·.2))[i]? =some j:=by rw[aO,hi];rfl
   rw[num,List.getElem?_range' hil,Nat.one_mul] at h2
   have h3:(x.cls.map (·.1))[i]? =some y:=by rw[aO,hi];rfl
   rw[<-hcn (s.heap.objs.size+1)] at h3
   obtain⟨a,h4,h5⟩:=nG hnc h3
   refine⟨a,?_,h4⟩
   cases h2
   rw[bh,dn.length,<-ai (f:=λp:Addr×Obj=>p.1),List.getElem?_append_right (aQ ..),Nat.add_sub_cancel_left,e1];exact h5
  hp:=(dn.mono (λ_ _ g=>g) (by rw[bh];exact List.prefix_append ..)).append (Dc.mono (λ_ _ g=>g) (by rw[bh];exact List.prefix_append ..))
  gb:=gb,os:=rfl,tk:=ag htk ht0}
 refine cS ((C7 H' b A.ok).ss r hw λr1 af fl l hpost df=>?_)
 have pre:bg T<+:r1.ρ:=List.IsPrefix.trans (by rw[show r.ρ=bg T++bg cells from bh];exact List.prefix_append ..) l.pre
 cases df with
 |next=>exact k r1 _ _ rfl rfl rfl pre l.sub l.jn hpost .none
 |brk=>exact hpost.elim
 |cont=>exact hpost.elim
 |ret d=>exact k r1 _ _ rfl rfl rfl pre l.sub l.jn hpost d
section
variable {D:Nat} {C:Cx} {st:St}
noncomputable def RS.after (r:RS C st) {T I V:List (Addr×Obj)} {s:Shared} {hp:List AO} {tk:Nat} (hL:∀o,r.s.heap.get? C.env.locals=some o->s.heap.get? C.env.locals=some o) (hk:∀b o,C.h₀.get? b=some o->s.heap.get? b=some o) (hJ:∀p∈r.J,s.heap.get? p.1=some p.2)
  (nw:∀p∈T++(I++V),s.heap.get? p.1=some p.2/\p.1≠C.env.locals/\C.h₀.get? p.1=none) (nd:(bg (T++(I++V))).Nodup) (nj:∀p∈T++(I++V),p.1∉bg r.J) (va:bg V=[277,364]) (vo:∀p∈V,gg (GI C I) p.1 p.2) (pre:r.ρ<+:bg T) (sub:∀p∈r.I,p∈I)
  (dn:cq (GI C I) (bg T) hp T) (gb:AllBare s.gens) (os:s.os=C.os) (htk:tk<=s.toks):RS C ⟨st.loc,hp,tk⟩:=
 {m:=r.m,T:=T,I:=I,V:=V,J:=r.J,s:=s,fr:=⟨r.fr.ns.at' hL,hk,r.fr.above⟩
  nw:=λp hp=>by
   rw[<-ax I,<-ax T] at hp
   rcases bo.mp hp with hp|hp
   ·exact nw p hp
   ·exact⟨hJ p hp,(r.nw p (ar _ (ar _ (ar _ hp)))).2⟩
  nd:=by
   rw[<-ax I,<-ax T,bh]
   exact a7.mpr ⟨nd,RS.jnd,λa ha b hb e=>by
    obtain⟨p,hp,rfl⟩:=aG.mp ha
    exact nj p hp (e▸hb)⟩
  va:=va,vo:=vo,bk:=r.bk
  loc:=λi x v hx hv=>(r.loc i x v hx hv).imp λ_ h=>h.imp_right λd=>d.mono (λ_ _ g=>g.imp_right (sub _)) pre
  cel:=λx i h=>(r.cel x i h).imp λ_ h=>h.imp_left (aV pre)
  hp:=dn,gb:=gb,os:=os,tk:=htk}
theorem RS.mJ (r:RS C st) {p:Addr×Obj} (h:p∈r.J):p∈r.L:=ar _ (ar _ (ar _ h))
theorem RS.mV (r:RS C st) {p:Addr×Obj} (h:p∈r.V):p∈r.L:=ar _ (ar _ (aC _ h))
theorem RS.mTIV (r:RS C st) {p:Addr×Obj} (h:p∈r.T++(r.I++r.V)):p∈r.L:=by
 show p∈r.T++(r.I++(r.V++r.J))
 rw[<-ax r.I,<-ax r.T];exact aC _ h
theorem kK {T X Y:List (Addr×Obj)} (h:T<+:X) (hn:(bg (X++Y)).Nodup):(bg (T++Y)).Nodup:=by
 obtain⟨t,rfl⟩:=h
 rw[bh] at hn⊢
 rw[bh] at hn
 exact a7.mpr ⟨(a7.mp (a7.mp hn).1).1,(a7.mp hn).2.1,λa ha b hb=>(a7.mp hn).2.2 a (aC _ ha) b hb⟩
noncomputable def dj (st:St) (P:PV) (v:AV) (st':St):Prop:=P v ⟨st.loc,st'.hp,st'.tk⟩∨∃n tk,st.hp.length<=n/\v.wf n/\(∀o∈st'.hp.take n,o.wf n)/\tk<=st'.tk/\P v ⟨st.loc,st'.hp.take n,tk⟩
theorem iD {f:Addr} {x:Sx} {b:PS} (A:lR f x b (fdOf K0 f)) {ns:List Str} {jl jc:List (Option Nat)} (hc:iX K0 f x ns jl jc=true) {args as:List AV} {kws:List (Str×AV)} (hb:Binds f ns args kws as) (hal:as.length=ns.length) (hcl:jc.length=x.cls.length) {P:PV} (num:x.cls.map (·.2)=List.range' st.hp.length x.cls.length)
  (hw:bB D x b ⟨bP as jl,st.hp++(bP as jc).map AO.cell,st.tk⟩ (cH (dj st P))):bw (D+1) f args kws st P:=by
 refine⟨A.keep,λ{C} H r {us ku Q} ds dk k=>?_⟩
 have hid:∀{b:Addr} {o:Obj},C.h₀.get? b=some o->b∉bg (r.T++(r.I++r.V)):=λe hm=>by
  obtain⟨p,hp,rfl⟩:=aG.mp hm
  have:=(r.nw p (r.mTIV hp)).2.2
  rw[e] at this;cases this
 have hG:∀b o,C.h₀.get? b=some o->(hideAll r.s.heap (bg (r.T++(r.I++r.V)))).get? b=some o:=λb o e=>hideAll_get _ (r.fr.keep _ _ e) (hid e)
 obtain⟨p',loose,mg,mb,TR⟩:=H.top
 refine wQ A hc hb hal hcl num (λa o e=>hG _ _ (H.kin a o e)) ⟨p',loose,mg,mb,TR.keeps hG⟩ (H.sm.imp λ_ e=>hG _ _ e) (H.nb.imp λ_ h=>h.imp (λe=>e.keeps hG) id) H.hh H.dep H.un (λ_ _ e=>of_hideAll _ e) (hideAll_size _ _) (λp hp=>⟨(r.nw p (r.mTIV hp)).1,hideAll_none _ (bA hp)⟩) (cK (V:=r.V) r.nd).1 (λa o g=>hG _ _ (r.bk a o g)) r.va r.vo r.hp r.gb ds dk r.tk hw λ{C'} {st1} r1 v u e0 eB eo pre sub ej hR d=>?_
 have hJ1:r1.L=r1.T++(r1.I++(r1.V++[])):=by rw[<-ej]
 have new:∀p∈r1.T++(r1.I++r1.V),r1.s.heap.get? p.1=some p.2/\(hideAll r.s.heap (bg (r.T++(r.I++r.V)))).get? p.1=none:=λp hp=>by
  have z:=r1.nw p (r1.mTIV hp)
  rw[e0] at z
  exact⟨z.1,z.2.2⟩
 have kept:∀b o,r.s.heap.get? b=some o->b∉bg (r.T++(r.I++r.V))->r1.s.heap.get? b=some o:=λb o e hn=>r1.fr.keep b o (by rw[e0];exact hideAll_get _ e hn)
 have offL:C.env.locals∉bg (r.T++(r.I++r.V)):=λhm=>by
  obtain⟨p,hp,e⟩:=aG.mp hm
  exact(r.nw p (r.mTIV hp)).2.1 e
 have offJ:∀p∈r.J,p.1∉bg (r.T++(r.I++r.V)):=λp hp=>(cK r.nd).2.2 _ (bA hp)
 have hB:GI C' r1.I=GI C r1.I:=by unfold GI;rw[eB]
 have key:∀{T:List (Addr×Obj)} {hp:List AO} {tk:Nat},T<+:r1.T->bg r.T<+:bg T->cq (GI C r1.I) (bg T) hp T->tk<=st1.tk->aY (GI C r1.I) (bg T) v u->P v ⟨st.loc,hp,tk⟩->Q u r1.s:=λ{T hp tk} hT pre dn ht d h=>by
  have mT:∀p∈T++(r1.I++r1.V),p∈r1.T++(r1.I++r1.V):=λp hp=>(bo.mp hp).elim (λh=>aC _ (hT.subset h)) λh=>ar _ h
  refine k (r.after (T:=T) (I:=r1.I) (V:=r1.V) (s:=r1.s) (hp:=hp) (tk:=tk) (λo e=>kept _ o e offL) (λb o e=>kept b o (r.fr.keep _ _ e) (hid e)) (λp hp=>kept _ _ (r.nw p (r.mJ hp)).1 (offJ p hp)) (λp hp=>?_) (kK hT (cK (V:=r1.V) r1.nd).1) (λp hp hm=>?_) r1.va (by rw[<-hB];exact r1.vo) pre sub dn r1.gb (r1.os.trans (eo.trans r.os)) (ag ht r1.tk)) v u ⟨pre,sub,rfl⟩ h d
  ·have z:=new p (mT p hp)
   refine⟨z.1,λe=>?_,?_⟩
   ·obtain⟨oL,_,_,hL,_⟩:=r.fr.ns
    rw[e,hideAll_get _ hL offL] at z;cases z.2
   ·cases q:C.h₀.get? p.1 with
    |none=>rfl
    |some o=>rw[hG _ _ q] at z;cases z.2
  ·obtain⟨q,hq,e⟩:=aG.mp hm
   have z:=(new p (mT p hp)).2
   rw[<-e,hideAll_get _ (r.nw q (r.mJ hq)).1 (offJ q hq)] at z;cases z
 have d:aY (GI C r1.I) (bg r1.T) v u:=hB▸d
 have dh:cq (GI C r1.I) (bg r1.T) st1.hp r1.T:=hB▸r1.hp
 rcases hR with h|⟨n,tk,h1,h2,h3,h4,h5⟩
 ·exact key aw pre dh (ak _) d h
 ·have et:bg (r1.T.take n)=(bg r1.T).take n:=List.map_take
  have d2:=d.cut h2
  have dh2:=dh.cut (n:=n) h3
  rw[<-et] at d2 dh2
  exact key (List.take_prefix ..) (by rw[et];exact List.prefix_take_iff.mpr ⟨pre,by rw[ai,<-r.hlen];exact h1⟩) dh2 h4 d2 h5
end
noncomputable def AV.scal0:AV->Bool
 | .ref _=>false
 | .tup _ _=>false
 | .ilst _=>false
 | .rng _ _ _=>false
 |_=>true
noncomputable def AV.scal:AV->Bool
 | .tup c vs=>zb c&&vs.all AV.scal0
 |v=>v.scal0
section
variable {G G':GP} {ρ ρ':List Addr} {v:AV} {u:Value} {vs:List AV} {xs:List Value}
theorem aY.scal0 (d:aY G ρ v u):v.scal0=true->aY G' ρ' v u:=
 aY.casesOn (motive_1:=λ_ v u _=>v.scal0=true->aY G' ρ' v u) d (λ_=>.none) (λb _=>.bool b) (λi t _=>.int i t) (λx t k h _=>.flt x t k h) (λg t k h _=>.str g t k h) (λ_ _ _ h=>absurd h au) (λv _=>.val v)
  (λ_ _ _ _ _ _ _ _ h=>absurd h au) (λ_ _ _ _ _ _ _ _ h=>absurd h au) (λ_ _ _ _ _ _ h=>absurd h au)
theorem aT.scal0 (d:aT G ρ vs xs):vs.all AV.scal0=true->aT G' ρ' vs xs:=d.ind (λ_=>.nil) λ_ _ _ _ d ih h=>.cons (d.scal0 (aE h)) (ih (aA h))
theorem yz {c:Value} (h:zb c=true):c=.type "tuple":=by
 cases c with
 |type n=>exact congrArg _ (eq_of_beq h)
 |_=>exact absurd h au
theorem aY.scal (hG:∀a o,o.cls=.type "tuple"->G a o->G' a o) (d:aY G ρ v u) (h:v.scal=true):aY G' ρ' v u:=by
 cases v with
 |tup c vs=>exact d.tupE λa xs n dx g d=>.tup c vs a xs n dx (hG _ _ (yz (aE h)) g) (d.scal0 (aA h))
 |_=>exact d.scal0 h
theorem aT.scal (hG:∀a o,o.cls=.type "tuple"->G a o->G' a o) (d:aT G ρ vs xs):vs.all AV.scal=true->aT G' ρ' vs xs:=d.ind (λ_=>.nil) λ_ _ _ _ d ih h=>.cons (d.scal hG (aE h)) (ih (aA h))
end
inductive md (st:St):List AV->List AV->Prop
 |nil:md st [] []
 |val {v:AV} {vs ws:List AV}:v.pure=true->md st vs ws->md st (v::vs) (v::ws)
 |lst {i:Nat} {us vs ws:List AV}:st.at i=some (.list us)->cz us=true->md st vs ws->md st (.ref i::vs) (.ilst us::ws)
noncomputable def m8 (st:St) (P:PV) (v:AV) (st':St):Prop:=∃tk,tk<=st'.tk/\((v.scal=true/\P v ⟨st.loc,st.hp,tk⟩)∨∃n vs,v=.ref n/\st'.hp[n]? =some (.list vs)/\vs.all AV.scal=true/\P (.ref st.hp.length) ⟨st.loc,st.hp++[.list vs],tk⟩)
section
variable {D:Nat} {C:Cx} {st:St}
noncomputable abbrev RS.OB (r:RS C st):GP:=λa o=>r.G a o∨((a,o)∈r.T/\∃xs n,o=listOf xs n)
theorem md.dens {args as:List AV} (h:md st args as) (r:RS C st) {G:GP} (hG:∀a o,r.OB a o->G a o):∀{us:List Value},r.Ds args us->aT G [] as us:=by
 induction h with
 |nil=>exactλd=>d.nilE .nil
 |val hv _ ih=>exactλd=>d.consE λ_ _ d ds=>.cons ((d.pure hv).mono (λa o g=>hG a o (.inl g)) aw) (ih ds)
 |lst e hp _ ih=>exactλd=>d.consE λx _ d ds=>.cons (RS.listE r (X:=λx=>aY G [] _ x) d e λa xs n ht dx=>.ilst _ a xs n (hG _ _ (.inr ⟨a0 ht,_,_,rfl⟩)) ((dx.pure hp).mono (λa o g=>hG a o (.inl g)) aw)) (ih ds)
theorem pd {f:Addr} {x:Sx} {b:PS} (A:lR f x b (fdOf K0 f)) {ns:List Str} {jl jc:List (Option Nat)} (hc:iX K0 f x ns jl jc=true) {args args' as:List AV} (ho:md st args args') (hb:Binds f ns args' [] as) (hal:as.length=ns.length) (hcl:jc.length=x.cls.length) {P:PV} (num:x.cls.map (·.2)=List.range' 0 x.cls.length)
  (hw:bB D x b ⟨bP as jl,(bP as jc).map AO.cell,st.tk⟩ (cH (m8 st P))):bw (D+1) f args [] st P:=by
 refine⟨A.keep,λ{C} H r {us ku Q} ds dk k=>dk.nilE ?_⟩
 have hid:∀{b:Addr} {o:Obj},C.h₀.get? b=some o->b∉bg r.V:=λe hm=>by
  obtain⟨p,hp,rfl⟩:=aG.mp hm
  have:=(r.nw p (r.mV hp)).2.2
  rw[e] at this;cases this
 have hG:∀b o,C.h₀.get? b=some o->(hideAll r.s.heap (bg r.V)).get? b=some o:=λb o e=>hideAll_get _ (r.fr.keep _ _ e) (hid e)
 have ndTIV:=(cK (V:=r.V) r.nd).1
 have offTI:∀p∈r.T++r.I,(hideAll r.s.heap (bg r.V)).get? p.1=some p.2:=λp hp=>by
  rw[<-ax,bh] at ndTIV
  exact hideAll_get _ (r.nw p ((bo.mp hp).elim (aC _) λh=>ar _ (aC _ h))).1 λhm=>(a7.mp ndTIV).2.2 _ (bA hp) _ hm rfl
 have offJ:∀p∈r.J,(hideAll r.s.heap (bg r.V)).get? p.1=some p.2:=λp hp=>hideAll_get _ (r.nw p (r.mJ hp)).1 λhm=>(cK r.nd).2.2 _ (bA hp) (by rw[bh,bh];exact ar _ (ar _ hm))
 have offL:∀o,r.s.heap.get? C.env.locals=some o->(hideAll r.s.heap (bg r.V)).get? C.env.locals=some o:=λo e=>hideAll_get _ e λhm=>by
  obtain⟨p,hp,e⟩:=aG.mp hm
  exact(r.nw p (r.mV hp)).2.1 e
 have hB:∀a o,r.OB a o->(hideAll r.s.heap (bg r.V)).get? a=some o:=λa o g=>g.elim (λg=>g.elim (λg=>hG _ _ (r.bk a o g)) λg=>offTI _ (ar _ g)) λg=>offTI _ (aC _ g.1)
 obtain⟨p',loose,mg,mb,TR⟩:=H.top
 have ndV:(bg r.V).Nodup:=by rw[r.va];decide
 refine wQ (T:=[]) (I:=[]) (hp:=[]) A hc hb hal hcl num (λa o e=>hG _ _ (H.kin a o e)) ⟨p',loose,mg,mb,TR.keeps hG⟩ (H.sm.imp λ_ e=>hG _ _ e) (H.nb.imp λ_ h=>h.imp (λe=>e.keeps hG) id) H.hh H.dep H.un (λ_ _ e=>of_hideAll _ e) (hideAll_size _ _) (λp hp=>⟨(r.nw p (r.mV hp)).1,hideAll_none _ (bA hp)⟩) ndV hB r.va (λp hp=>(r.vo p hp).mono λa o g=>.inl (.inl g)) .nil r.gb (ho.dens r (λ_ _ g=>.inl g) ds) .nil r.tk hw λ{C'} {st1} r1 v u e0 eB eo pre sub ej hR d=>?_
 have new:∀p∈r1.T++(r1.I++r1.V),r1.s.heap.get? p.1=some p.2/\(hideAll r.s.heap (bg r.V)).get? p.1=none:=λp hp=>by
  have z:=r1.nw p (r1.mTIV hp)
  rw[e0] at z
  exact⟨z.1,z.2.2⟩
 have kept:∀b o,(hideAll r.s.heap (bg r.V)).get? b=some o->r1.s.heap.get? b=some o:=λb o e=>r1.fr.keep b o (by rw[e0];exact e)
 have conv:∀a o,(o.cls=.type "tuple"∨∃vs,o.data=.fields vs)->r1.G a o->GI C (r.I++r1.I) a o:=λa o hc g=>by
  have g:C'.B a o∨(a,o)∈r1.I:=g
  rw[eB] at g
  rcases g with(g|⟨_,xs,n,e⟩)|g
  ·exact g.imp_right (aC _)
  ·rw[e] at hc
   rcases hc with hc|⟨vs,hc⟩
   ·exact absurd (Value.type.inj hc) (by decide)
   ·cases hc
  ·exact .inr (ar _ g)
 have key:∀{tn:List (Addr×Obj)} {hn:List AO} {tk:Nat} {v:AV} {u:Value},(∀p∈tn,p∈r1.T)->(bg (tn++(r1.I++r1.V))).Nodup->cq (GI C (r.I++r1.I)) (bg (r.T++tn)) hn tn->tk<=st1.tk->aY (GI C (r.I++r1.I)) (bg (r.T++tn)) v u->P v ⟨st.loc,st.hp++hn,tk⟩->Q u r1.s:=λ{tn hn tk v u} hT nd1 dn ht d h=>by
  have pm:((r.T++tn)++((r.I++r1.I)++r1.V)).Perm ((r.T++r.I)++(tn++(r1.I++r1.V))):=by
   rw[ax r.T,ax r.I,ax r.T]
   exact List.Perm.append_left _ (List.perm_append_comm_assoc _ _ _)
  have mN:∀p∈tn++(r1.I++r1.V),p∈r1.T++(r1.I++r1.V):=λp hp=>(bo.mp hp).elim (λh=>aC _ (hT p h)) λh=>ar _ h
  have pre:r.ρ<+:bg (r.T++tn):=by rw[bh];exact List.prefix_append ..
  refine k (r.after (T:=r.T++tn) (I:=r.I++r1.I) (V:=r1.V) (s:=r1.s) (hp:=st.hp++hn) (tk:=tk) (λo e=>kept _ o (offL o e)) (λb o e=>kept b o (hG _ _ e)) (λp hp=>kept _ _ (offJ p hp)) (λp hp=>?_) ((pm.map _).nodup_iff.mpr ?_) (λp hp hm=>?_) r1.va (λp hp=>(r1.vo p hp).imp λq z=>z.imp_right λz=>?_) pre (λp hp=>aC _ hp) ((r.hp.mono (λ_ _ g=>g.imp_right (aC _)) pre).append dn) r1.gb (r1.os.trans (eo.trans r.os)) (ag ht r1.tk)) v u ⟨pre,λp hp=>aC _ hp,rfl⟩ h d
  ·rcases bo.mp (pm.mem_iff.mp hp) with hp|hp
   ·exact⟨kept _ _ (offTI p hp),(r.nw p ((bo.mp hp).elim (aC _) λh=>ar _ (aC _ h))).2⟩
   ·have z:=new p (mN p hp)
    refine⟨z.1,λe=>?_,?_⟩
    ·obtain⟨oL,_,_,hL,_⟩:=r.fr.ns
     rw[e,offL _ hL] at z;cases z.2
    ·cases q:C.h₀.get? p.1 with
     |none=>rfl
     |some o=>rw[hG _ _ q] at z;cases z.2
  ·rw[show List.map (λx:Addr×Obj=>x.1) ((r.T++r.I)++(tn++(r1.I++r1.V)))=bg (r.T++r.I)++bg (tn++(r1.I++r1.V)) from bh]
   rw[<-ax,bh] at ndTIV
   refine a7.mpr ⟨(a7.mp ndTIV).1,nd1,λa ha b hb e=>?_⟩
   obtain⟨p,hp,rfl⟩:=aG.mp ha
   obtain⟨q,hq,rfl⟩:=aG.mp hb
   have z:=(new q (mN q hq)).2
   rw[<-e,offTI p hp] at z;cases z
  ·obtain⟨q,hq,e⟩:=aG.mp hm
   rcases bo.mp (pm.mem_iff.mp hp) with hp|hp
   ·rw[bh] at ndTIV
    have hq':=(cK r.nd).2.2 _ (bA hq)
    exact hq' (by
     have e:q.1=p.1:=e
     rw[e,<-ax,bh];exact aC _ (bA hp))
   ·have z:=(new p (mN p hp)).2
    have e:q.1=p.1:=e
    rw[<-e,offJ q hq] at z;cases z
  ·cases q with
   |none=>exact z
   |some q=>exact z.imp λc z=>z.imp_right λz=>z.imp λc z=>z.imp λo z=>z.imp λvs z=>z.imp λt z=>⟨z.1,conv _ _ (.inr ⟨_,z.2.2.1⟩) z.2.1,z.2.2⟩
 obtain⟨tk,ht,h⟩:=hR
 rcases h with⟨hs,h⟩|⟨n,vs,rfl,e,hs,h⟩
 ·exact key (tn:=[]) (hn:=[]) (λ_ h=>nomatch h) (kK List.nil_prefix (cK (V:=r1.V) r1.nd).1) .nil ht (d.scal (λa o h=>conv a o (.inl h)) hs) (by rw[List.append_nil];exact h)
 ·refine RS.listE r1 (X:=λu=>Q u r1.s) d e λa xs m ht' dx=>?_
  have hm:=a0 ht'
  have hp:[(a,listOf xs.toArray m)].Sublist r1.T:=List.singleton_sublist.mpr hm
  refine key (tn:=[(a,listOf xs.toArray m)]) (hn:=[.list vs]) (λp hp=>aN.mp hp▸hm) ?_ (.cons ⟨xs,m,rfl,dx.scal (λa o h=>conv a o (.inl h)) hs⟩ .nil) ht (.ref _ _ ?_) h
  ·exact List.Nodup.sublist ((hp.append (List.Sublist.refl _)).map _) (cK (V:=r1.V) r1.nd).1
  ·rw[r.hlen];exact bF (T:=r.T++[(a,listOf xs.toArray m)]) (p:=(a,_)) List.getElem?_concat_length
end
section
open PySem.W.X
noncomputable abbrev TT:=PySem.W.Fast.tw14364793385576792824
abbrev bO (es:Array DictEntry) (n:Nat):Obj:=⟨.type "dict",none,.dict es n,#[]⟩
noncomputable def u9 (id:String):Code->Bool
 | .builtin i _=>i==id
 |_=>false
section
variable (w:World) (prog:Program) (A:Around) (q k e:Addr) (x:Str) (t u:Tok) (i j:Int) (led:Bool) (es:Array DictEntry) (n:Nat) (Q:Value->Shared->Prop) (E:Value->Shared->Prop) (R:Result->Shared->Prop) (h:Heap) (g:Array GenState) (d:Drawn) (tk:Nat) (os:OsState)
theorem kH:(cv prog w TT (λ_=>false) 200).1 Value A (getAttr (.ref k) "__contains__" true) (λa _ s'=>Q a s') (λe _ s'=>E e s') (List.replicate 6 (fa led)) ⟨h,g,d,tk,os⟩=
  (h.get? k=some (fa led)/\h.get? k=some (fa led)/\h.get? k=some (fa led)/\h.get? k=some (fa led)/\h.get? k=some (fa led)/\h.get? k=some (fa led)/\
   Q (.ref h.objs.size) ⟨h.push (b7 "set.__contains__" (.ref k)),g,d,tk+1,os⟩):=by kernel_rfl
theorem nh:(cv prog w TT (λ_=>false) 200).1 Value A (getAttr (.ref k) "get" true) (λa _ s'=>Q a s') (λe _ s'=>E e s') (List.replicate 6 (bO es n)) ⟨h,g,d,tk,os⟩=
  (h.get? k=some (bO es n)/\h.get? k=some (bO es n)/\h.get? k=some (bO es n)/\h.get? k=some (bO es n)/\h.get? k=some (bO es n)/\h.get? k=some (bO es n)/\
   Q (.ref h.objs.size) ⟨h.push (b7 "dict.get" (.ref k)),g,d,tk+1,os⟩):=by kernel_rfl
theorem jQ:(cv prog w TT (λ_=>false) 200).1 Value A (getAttr (.ref k) "__contains__" true) (λa _ s'=>Q a s') (λe _ s'=>E e s') (List.replicate 6 (bO es n)) ⟨h,g,d,tk,os⟩=
  (h.get? k=some (bO es n)/\h.get? k=some (bO es n)/\h.get? k=some (bO es n)/\h.get? k=some (bO es n)/\h.get? k=some (bO es n)/\h.get? k=some (bO es n)/\
   Q (.ref h.objs.size) ⟨h.push (b7 "dict.__contains__" (.ref k)),g,d,tk+1,os⟩):=by kernel_rfl
theorem qI:(cv prog w TT (u9 "dict.get") 100).2 A (.call (.ref q) ⟨[.int i t,.int j u],[]⟩) (λr _ s'=>R r s') (b7 "dict.get" (.ref k)::List.replicate 3 (bO es n)) ⟨h,g,d,tk,os⟩=
  (h.get? q=some (b7 "dict.get" (.ref k))/\h.get? k=some (bO es n)/\h.get? k=some (bO es n)/\h.get? k=some (bO es n)/\
   codeAny (model prog w) A (.builtin "dict.get" ⟨[.ref k,.int i t,.int j u],[]⟩) R ⟨h,g,d,tk,os⟩):=by kernel_rfl
theorem jP:(cv prog w TT (u9 "dict.__contains__") 100).2 A (.call (.ref q) ⟨[.str x t],[]⟩) (λr _ s'=>R r s') (b7 "dict.__contains__" (.ref k)::List.replicate 3 (bO es n)) ⟨h,g,d,tk,os⟩=
  (h.get? q=some (b7 "dict.__contains__" (.ref k))/\h.get? k=some (bO es n)/\h.get? k=some (bO es n)/\h.get? k=some (bO es n)/\
   codeAny (model prog w) A (.builtin "dict.__contains__" ⟨[.ref k,.str x t],[]⟩) R ⟨h,g,d,tk,os⟩):=by kernel_rfl
theorem kI:(cv prog w TT (u9 "set.__contains__") 100).2 A (.call (.ref q) ⟨[.str x t],[]⟩) (λr _ s'=>R r s') (b7 "set.__contains__" (.ref k)::List.replicate 3 (fa led)) ⟨h,g,d,tk,os⟩=
  (h.get? q=some (b7 "set.__contains__" (.ref k))/\h.get? k=some (fa led)/\h.get? k=some (fa led)/\h.get? k=some (fa led)/\
   codeAny (model prog w) A (.builtin "set.__contains__" ⟨[.ref k,.str x t],[]⟩) R ⟨h,g,d,tk,os⟩):=by kernel_rfl
end
end
section
variable {D:Nat} {C:Cx} {st:St} {P:PV} {Q:Value->Shared->Prop}
theorem gj {n:Nat} (h:n<=100000):n<=sizeLine:=by rw[sizeLine_eq];exact ag h (by decide)
theorem Kt.same {r:RS C st} (k:Kt r P Q) {v:AV} {u:Value} (h:P v st) (d:r.D v u) {t:Nat} (ht:r.s.toks<=t):Q u {r.s with toks:=t}:=k (r.toks t ht) v u RS.toks_le h d
theorem RS.one {v:AV} {us:List Value} {r:RS C st} (d:r.Ds [v] us) {X:List Value->Prop} (k:∀x,r.D v x->X [x]):X us:=d.one k
theorem Kt.upd {r:RS C st} (k:Kt r P Q) {i:Nat} {a:Addr} {o o':Obj} {v:AO} {h':Heap} {t:Nat} {w:AV} {u:Value} (h:P w (st.put i v)) (e:r.T[i]? =some (a,o)) (F:Fr C.h₀ C.env.locals h' r.m) (N:News C.h₀ C.env.locals h' (r.T.set i (a,o')++r.X)) (d:cP r.G r.ρ v o') (ht:r.s.toks<=t) (dw:r.D w u):Q u {r.s with heap:=h',toks:=t}:=
 k (r.upd e F N d t ht) w u r.upd_le h (dw.le (r':=r.upd e F N d t ht) r.upd_le)
theorem ju.upd {P:St->Prop} {Q:Unit->Shared->Prop} {r:RS C st} (k:ju r P Q) {i:Nat} {a:Addr} {o o':Obj} {v:AO} {h':Heap} {t:Nat} (h:P (st.put i v)) (e:r.T[i]? =some (a,o)) (hs:Heap.SameBut a r.s.heap h') (ho:h'.get? a=some o') (d:cP r.G r.ρ v o') (ht:r.s.toks<=t):Q () {r.s with heap:=h',toks:=t}:=
 k (r.upd e (r.sameFr (r.tAt e) hs) (r.setNews e hs ho) d t ht) r.upd_le h
structure dE (c:Addr) (x:Str):Prop where
 get:plainGet K0 c x=true
 dict:hasDictIn K0 c=true
 find:findIn K0 (.ref c) x=some none
 set:findIn K0 (.ref c) "__setattr__"=some (some (.builtin "object.__setattr__"))
 over:plainOver K0 c=true
 taker:takerIn K0 c x=some none
section
variable {κ:Type} [BEq κ]
noncomputable def bf (l:List (κ×AV)) (k:κ) (v:AV):List (κ×AV):=match l with
 |[]=>[(k,v)]
 |p::r=>if p.1==k then(p.1,v)::r else p::bf r k v
end
section
variable {G:GP} {ρ:List Addr} {x:Str} {kvs:List (Str×AV)} {es:List DictEntry}
theorem kU {k:Str} {hs:Int} {t:Tok} {u:Value}:getL x (⟨hs,.str k t,u⟩::es)=if(k==x)=true then some (some u) else getL x es:=by
 unfold getL
 rw[List.find?_cons,List.any_cons,show(⟨hs,.str k t,u⟩:DictEntry).refKey=false from rfl,Bool.false_or,show(⟨hs,.str k t,u⟩:DictEntry).key.isStr x=(k==x) from rfl]
 cases k==x<;>rfl
theorem dM.get (h:dM G ρ kvs es):∀{v:AV},kvs.lookup x=some v->∃u,getL x es=some (some u)/\aY G ρ v u:=by
 induction h with
 |nil=>exactλh=>nomatch h
 |@cons k hs t v u kvs es d _ ih=>
  intro v' h
  rw[kU]
  rw[List.lookup_cons] at h
  by_cases e:x=k
  ·subst e
   rw[beq_self_eq_true] at h⊢
   cases h
   exact⟨u,rfl,d⟩
  ·rw[beq_eq_false_iff_ne.mpr e] at h
   rw[beq_eq_false_iff_ne.mpr (Ne.symm e)]
   exact ih h
theorem dM.getNone (h:dM G ρ kvs es):kvs.lookup x=none->getL x es=some none:=by
 induction h with
 |nil=>exactλ_=>rfl
 |@cons k hs t v u kvs es d _ ih=>
  intro h
  rw[kU]
  rw[List.lookup_cons] at h
  by_cases e:x=k
  ·subst e
   rw[beq_self_eq_true] at h;cases h
  ·rw[beq_eq_false_iff_ne.mpr e] at h
   rw[beq_eq_false_iff_ne.mpr (Ne.symm e)]
   exact ih h
theorem dM.some (h:dM G ρ kvs es):(getL x es).isSome=true:=by
 induction h with
 |nil=>rfl
 |cons _ _ ih=>
  rw[kU]
  split
  ·rfl
  ·exact ih
theorem dM.put {hsh:Int} {t:Tok} {v:AV} {u:Value} (h:dM G ρ kvs es) (d:aY G ρ v u):dM G ρ (bf kvs x v) (putL x hsh (.str x t) u es):=by
 induction h with
 |nil=>exact .cons d .nil
 |@cons k hs t' v' u' kvs es d' ds ih=>
  unfold bf putL
  show dM G ρ (if(k==x)=true then _ else _) (if(k==x)=true then _ else _)
  split
  ·exact .cons d ds
  ·exact .cons d' ih
theorem dM.length (h:dM G ρ kvs es):kvs.length=es.length:=by
 induction h with
 |nil=>rfl
 |cons d _ ih=>exact congrArg Nat.succ ih
theorem sM {hsh:Int} {key v:Value}:∀{es:List DictEntry},(putL x hsh key v es).length<=es.length+1
 |[]=>ak _
 |e::r=>by
  unfold putL
  split
  ·exact aK _
  ·exact Nat.succ_le_succ sM
end
theorem RS.inst (r:RS C st) {i d:Nat} {c:Addr} {u:Value} {kvs:List (Str×AV)} (du:r.D (.ref i) u) (e:st.at i=some (.inst c d)) (e':st.at d=some (.idict kvs)) {X:Value->Prop} (k:∀a b es n,r.T[d]? =some (b,dictOf es n)->dM r.G r.ρ kvs es->W.InstAt r.s.heap a (instObj c b) c (some (dictOf es n))->X (.ref a)):X u:=
 r.refE du e λa o h d1=>r.atE e' λb o' h' d2=>d2.elim λes z=>z.elim λn z=>d1.elim λb2 y=>by
  have eb:b2=b:=Option.some.inj (y.2.symm.trans (bF h'))
  subst eb
  have h:=r.tAt h
  have h2:=r.tAt h'
  rw[y.1] at h
  rw[z.1] at h2 h'
  exact k a b2 es n h' z.2 (W.InstAt.of_news r.nw h h2)
noncomputable def AV.plain:AV->Bool
 | .val _=>false
 |_=>true
theorem xX {G:GP} {ρ:List Addr} {v:AV} {u:Value} (d:aY G ρ v u):v.plain=true->handedIn u=true:=
 aY.casesOn (motive_1:=λ_ v u _=>v.plain=true->handedIn u=true) d (λ_=>rfl) (λ_ _=>rfl) (λ_ _ _=>rfl) (λ_ _ _ _ _=>rfl) (λ_ _ _ _ _=>rfl) (λ_ _ _ _=>rfl) (λ_ h=>absurd h au)
  (λ_ _ _ _ _ _ _ _ _=>rfl) (λ_ _ _ _ _ _ _ _ _=>rfl) (λ_ _ _ _ _ _ _=>rfl)
theorem bK {n c d:Nat} {y:Str} {v:AV} {kvs:List (Str×AV)} (ha:dE c y) (hv:kvs.lookup y=some v) (e1:st.at n=some (.inst c d)) (e2:st.at d=some (.idict kvs)) (hp:v.plain=true) (h:P v st):om (.ref n) y st P:=⟨λ{D C} H r {u Q} du k=>
 r.inst (X:=λu=>WP C (getAttr u y true) Q r.s) du e1 e2 λa b es n _ dd I=>(dd.get hv).elim λu z=>get_own r.fr H.kin I ha.get ha.dict ha.find rfl z.1 (xX z.2 hp) (k.same h z.2 (aK _))⟩
theorem bR {n c d:Nat} {y:Str} {v:AV} {kvs:List (Str×AV)} {P:St->Prop} (ha:dE c y) (hl:kvs.length<100) (e1:st.at n=some (.inst c d)) (e2:st.at d=some (.idict kvs)) (h:P (st.put d (.idict (bf kvs y v)))):sJ (.ref n) y v st P:=⟨λ{D C} H r {uo u Q} du dv k=>
 r.inst (X:=λuo=>WP C (setAttr uo y u) Q r.s) du e1 e2 λa b es n eb dd I=>
  set_dict r.fr H.kin r.nw I rfl ha.set ha.over ha.taker ha.dict dd.some rfl (r.updL eb) (Nat.le_of_lt (aJ (ag sM (Nat.succ_le_succ (Nat.le_of_eq dd.length.symm))) (aH (Nat.succ_lt_succ hl) (by decide)))) λh' F' N'=>k (r.upd (v:=.idict (bf kvs y v)) eb F' N' ⟨_,_,rfl,dd.put dv⟩ _ (aQ _ 2)) r.upd_le h⟩
end
section
variable {D:Nat} {C:Cx} {st:St} {P:PV} {Q:Value->Shared->Prop} {i j n:Nat} {y:Str}
theorem KY {G:GP} {ρ:List Addr} {o:Obj} (d:cP G ρ .set0 o):∃led,o=fa led:=d
theorem jX {κ:Type} [DecidableEq κ] {knd:KeyKind pw W0 κ} {h:Heap} {a:Addr} {xs:List (κ×Value)} (hD:h.DictOf knd a xs):∃es n,h.get? a=some (bO es n)/\KeysOf knd es/\∀y,findBy knd.is es y=valueAt xs y:=by
 obtain⟨o,ho,hd⟩:=Heap.dictOf_iff.mp hD
 obtain⟨es,ep,⟨h1,h2,h3⟩,h4,h5,h6,_⟩:=hd
 obtain⟨c,d,dt,sl⟩:=o
 cases h1;cases h2;cases h3;cases h4
 refine⟨es,ep,ho,h5,λy=>?_⟩
 rw[<-h6.find y]
 obtain⟨l⟩:=es
 simp[findBy]
theorem Kt.bnd {r:RS C st} (k:Kt r P Q) {id:String} {a:Addr} {o:Obj} (e:r.T[n]? =some (a,o)) (h:P (.ref st.new) (st.add (.bound id (.ref n)))):Q (.ref r.s.heap.objs.size) {r.s with heap:=r.s.heap.push (b7 id (.ref a)),toks:=r.s.toks+1}:=
 k (RS.new r (a:=r.s.heap.objs.size) (o:=b7 id (.ref a)) (v:=.bound id (.ref n)) (r.fr.push _) (News.push r.fr r.nw _ rfl) (ak _) ⟨.ref a,rfl,.ref _ _ (aV cI (bF e))⟩ _ (aK _)) _ _ r.new_le h r.new_den
theorem lB:treeTable=TT:=PySem.W.Fast.te14364793385576792824
theorem Jh (e1:st.at n=some .set0) (h:P (.ref st.new) (st.add (.bound "set.__contains__" (.ref n)))):om (.ref n) "__contains__" st P:=⟨λ{D C} H r {u Q} du k=>
 r.refE (X:=λu=>WP C (getAttr u "__contains__" true) Q r.s) du e1 λa o e d=>d.elim λled eo=>by
  have q:=k.bnd e h
  have ho:=r.get e
  rw[eo] at ho
  refine gA (λ_=>false) 200 (List.replicate 6 (fa led)) ?_
  rw[lB]
  generalize r.s=s at*
  obtain⟨hp,g,dr,tk,os⟩:=s
  rw[kH]
  exact⟨ho,ho,ho,ho,ho,ho,q⟩⟩
theorem Jt {kv:List (Int×AV)} (e1:st.at n=some (.dictI kv)) (h:P (.ref st.new) (st.add (.bound "dict.get" (.ref n)))):om (.ref n) "get" st P:=⟨λ{D C} H r {u Q} du k=>
 r.refE (X:=λu=>WP C (getAttr u "get" true) Q r.s) du e1 λa o e d=>d.elim λxs dd=>by
  have q:=k.bnd e h
  obtain⟨es,ep,ho,_⟩:=jX (Heap.dictOf_iff.mpr ⟨o,r.get e,dd.1⟩)
  refine gA (λ_=>false) 200 (List.replicate 6 (bO es ep)) ?_
  rw[lB]
  generalize r.s=s at*
  obtain⟨hp,g,dr,tk,os⟩:=s
  rw[nh]
  exact⟨ho,ho,ho,ho,ho,ho,q⟩⟩
theorem IQ {kv:List (List Nat×AV)} (e1:st.at n=some (.dictS kv)) (h:P (.ref st.new) (st.add (.bound "dict.__contains__" (.ref n)))):om (.ref n) "__contains__" st P:=⟨λ{D C} H r {u Q} du k=>
 r.refE (X:=λu=>WP C (getAttr u "__contains__" true) Q r.s) du e1 λa o e d=>d.elim λxs dd=>by
  have q:=k.bnd e h
  obtain⟨es,ep,ho,_⟩:=jX (Heap.dictOf_iff.mpr ⟨o,r.get e,dd.1⟩)
  refine gA (λ_=>false) 200 (List.replicate 6 (bO es ep)) ?_
  rw[lB]
  generalize r.s=s at*
  obtain⟨hp,g,dr,tk,os⟩:=s
  rw[jQ]
  exact⟨ho,ho,ho,ho,ho,ho,q⟩⟩
structure fq (c:Addr) (y:Str) (f:Addr):Prop where
 get:plainGet K0 c y=true
 find:findIn K0 (.ref c) y=some (some (.ref f))
 fn:isFn K0 (.ref f)=true
theorem e7 {c d f:Addr} {kvs:List (Str×AV)} {K:MK->Prop} (hn:kvs.lookup y=none) (hm:fq c y f) (e1:st.at n=some (.inst c d)) (e2:st.at d=some (.idict kvs)) (k:K (.fn f (.ref n))):lP (.ref n) y st K:=⟨λ{D C} H r {u pl Q} du q=>
 r.inst (X:=λu=>r.D (.ref n) u->WP C (getMethod u y pl) Q r.s) du e1 e2 (λa b es m _ dd I du=>method_inst r.fr H.kin I hm.get hm.find hm.fn (dd.getNone hn) (q _ _ _ (ak _) k (.fn du))) du⟩
structure BM (T:String) (y:Str) (id:String):Prop where
 pa:PlainAttrs T
 slot:Slot T y id
 ty:typeOf (.builtin id)=pure (.type "method_descriptor")
theorem de:BM "list" "append" "list.append":=⟨PySem.F.plainAttrs_list,PySem.F.slot_list_append,PySem.F.type_list_append⟩
theorem JC:BM "list" "pop" "list.pop":=⟨PySem.F.plainAttrs_list,PySem.F.slot_list_pop,PySem.F.type_list_pop⟩
theorem Af:BM "list" "insert" "list.insert":=⟨PySem.F.plainAttrs_list,PySem.F.slot_list_insert,PySem.F.type_list_insert⟩
theorem AH:BM "list" "extend" "list.extend":=⟨PySem.F.plainAttrs_list,PySem.F.slot_list_extend,PySem.F.type_list_extend⟩
theorem yX:BM "list" "sort" "list.sort":=⟨PySem.F.plainAttrs_list,PySem.F.slot_list_sort,PySem.F.type_list_sort⟩
theorem EY:BM "list" "index" "list.index":=⟨PySem.F.plainAttrs_list,PySem.F.slot_list_index,PySem.F.type_list_index⟩
theorem wK:BM "dict" "get" "dict.get":=⟨PySem.F.plainAttrs_dict,PySem.F.slot_dict_get,PySem.F.type_dict_get⟩
theorem Kk:BM "dict" "setdefault" "dict.setdefault":=⟨PySem.F.plainAttrs_dict,PySem.F.slot_dict_setdefault,PySem.F.type_dict_setdefault⟩
noncomputable def bq (st:St) (v:AV) (vs:List AV):Prop:=match v with
 | .ref i=>st.at i=some (.list vs)
 | .ilst us=>us=vs
 |_=>False
theorem bq.e {r:RS C st} {v:AV} {vs:List AV} (h:bq st v vs) {u:Value} (d:r.D v u) {X:Value->Prop} (k:∀a xs n,r.s.heap.get? a=some (listOf (List.toArray xs) n)->r.Ds vs xs->X (.ref a)):X u:=by
 cases v with
 |ref i=>exact RS.listE r d h λa xs n ht dx=>k a xs n (r.get ht) dx
 |ilst us=>cases h;exact d.ilstE λa xs n g dx=>k a xs n (r.gGet g) (dx.mono (λ_ _ g=>g) List.nil_prefix)
 |_=>exact h.elim
theorem dz {id:String} {v:AV} {vs:List AV} {K:MK->Prop} (b:BM "list" y id) (e:bq st v vs) (k:K (.bi id v)):lP v y st K:=⟨λ{D C} H r {u pl Q} du q=>
 e.e (X:=λu=>r.D v u->WP C (getMethod u y pl) Q r.s) du (λa xs m ho _ du=>getMethod_builtin ⟨_,ho,rfl⟩ b.pa b.slot b.ty (λb e=>by cases e;exact⟨_,ho,rfl⟩) (q _ _ _ (ak _) k (.bi du))) du⟩
theorem nU {kv:List (List Nat×AV)} {id:String} {K:MK->Prop} (b:BM "dict" y id) (e:st.at n=some (.dictS kv)) (k:K (.bi id (.ref n))):lP (.ref n) y st K:=⟨λ{D C} H r {u pl Q} du q=>
 r.refE (X:=λu=>r.D (.ref n) u->WP C (getMethod u y pl) Q r.s) du e (λa o e d du=>d.elim λxs dd=>by
  have ho:=r.get e
  obtain⟨es,ep,⟨c1,c2,c3⟩,_⟩:=dd.1
  exact getMethod_builtin ⟨_,ho,c1⟩ b.pa b.slot b.ty (λb e=>by cases e;exact⟨_,ho,c2⟩) (q _ _ _ (ak _) k (.bi du))) du⟩
theorem EM:findCls K0 (.type "tuple") (.type "type") "__new__"=some (.val (.builtin "tuple.__new__")):=by kernel_rfl
theorem DH:typeOf (.type "tuple")=pure (.type "type"):=by kernel_rfl
theorem D9:handedIn (.builtin "tuple.__new__")=true:=by decide+kernel
theorem Fi:Manifest.isStub "tuple"=false:=by decide+kernel
theorem Hu {K:MK->Prop} (k:K (.un "tuple.__new__")):lP (.val (.type "tuple")) "__new__" st K:=⟨λ{D C} H r {u pl Q} du q=>
 du.valE (method_type (T:="tuple") (name:="__new__") (v:=.builtin "tuple.__new__") r.fr H.kin DH Fi EM D9 (q (.un "tuple.__new__") (.builtin "tuple.__new__",[]) _ (aK _) k .un))⟩
theorem JN {g:List Nat} {q:Option Tok} {K:MK->Prop} (k:K (.bi "str.join" (.str g q))):lP (.str g q) "join" st K:=⟨λ{D C} H r {u pl Q} du q=>
 du.strE (X:=λu=>r.D _ u->WP C (getMethod u "join" pl) Q r.s) (λt _ du=>getMethod_builtin (typeIs_str _ _ _) PySem.F.plainAttrs_str PySem.F.slot_str_join PySem.F.type_str_join (λb e=>by cases e) (q _ _ _ (ak _) k (.bi du))) du⟩
end
section
variable {κ κ':Type} [DecidableEq κ] [DecidableEq κ'] {f:κ->κ'} {G:GP} {ρ:List Addr} {kvs:List (κ×AV)} {xs:List (κ'×Value)} {k:κ} {v:AV} {u:Value}
noncomputable def b8 (kvs:List (κ×AV)) (k:κ):Option AV:=(kvs.find? λp=>p.1=k).map (·.2)
noncomputable def jb (kvs:List (κ×AV)) (k:κ) (v:AV):List (κ×AV):=if kvs.any (λp=>p.1=k) then kvs.map (λp=>if p.1=k then(p.1,v) else p) else kvs++[(k,v)]
theorem uQ (hf:∀a b,f a=f b->a=b) (a b:κ):decide (f a=f b)=decide (a=b):=decide_eq_decide.mpr ⟨hf a b,congrArg f⟩
theorem bL.at (hf:∀a b,f a=f b->a=b) (d:bL f G ρ kvs xs) (k:κ):match b8 kvs k with
  |none=>valueAt xs (f k)=none
  |some v=>∃u,valueAt xs (f k)=some u/\aY G ρ v u:=by
 unfold b8 valueAt
 induction d with
 |nil=>rfl
 |@cons k' v x kvs xs dv _ ih=>
  rw[List.find?_cons,List.find?_cons,uQ hf]
  cases decide (k'=k) with
  |true=>exact⟨_,rfl,dv⟩
  |false=>exact ih
theorem bL.getNone (hf:∀a b,f a=f b->a=b) (d:bL f G ρ kvs xs) (h:b8 kvs k=none):valueAt xs (f k)=none:=by have:=d.at hf k;rwa [h] at this
theorem bL.getSome (hf:∀a b,f a=f b->a=b) (d:bL f G ρ kvs xs) (h:b8 kvs k=some v):∃u,valueAt xs (f k)=some u/\aY G ρ v u:=by have:=d.at hf k;rwa [h] at this
theorem bL.getD (hf:∀a b,f a=f b->a=b) (d:bL f G ρ kvs xs) (k:κ) (dv:aY G ρ v u):aY G ρ ((b8 kvs k).getD v) ((valueAt xs (f k)).getD u):=by
 have:=d.at hf k
 revert this
 cases b8 kvs k with
 |none=>exactλh=>by rw[h];exact dv
 |some v'=>exactλ⟨u',h1,h2⟩=>by rw[h1];exact h2
theorem bL.isSome (hf:∀a b,f a=f b->a=b) (d:bL f G ρ kvs xs) (k:κ):(b8 kvs k).isSome=(valueAt xs (f k)).isSome:=by
 have:=d.at hf k
 revert this
 cases b8 kvs k with
 |none=>exactλh=>by rw[h];rfl
 |some v'=>exactλ⟨u',h1,h2⟩=>by rw[h1];rfl
theorem bL.any (hf:∀a b,f a=f b->a=b) (d:bL f G ρ kvs xs) (k:κ):(xs.any λp=>p.1=f k)=kvs.any λp=>p.1=k:=by
 induction d with
 |nil=>rfl
 |cons _ _ ih=>rw[List.any_cons,List.any_cons,ih,uQ hf]
theorem bL.snoc (d:bL f G ρ kvs xs) (dv:aY G ρ v u):bL f G ρ (kvs++[(k,v)]) (xs++[(f k,u)]):=by
 induction d with
 |nil=>exact .cons dv .nil
 |cons d _ ih=>exact .cons d ih
theorem bL.repl (hf:∀a b,f a=f b->a=b) (d:bL f G ρ kvs xs) (dv:aY G ρ v u):bL f G ρ (kvs.map λp=>if p.1=k then(p.1,v) else p) (xs.map λp=>if p.1=f k then(p.1,u) else p):=by
 induction d with
 |nil=>exact .nil
 |@cons k' v' x kvs xs d _ ih=>
  rw[List.map_cons,List.map_cons]
  by_cases e:k'=k
  ·rw[if_pos e,if_pos (congrArg f e)];exact .cons dv ih
  ·rw[if_neg e,if_neg λh=>e (hf _ _ h)];exact .cons d ih
theorem bL.stored (hf:∀a b,f a=f b->a=b) (d:bL f G ρ kvs xs) (dv:aY G ρ v u):bL f G ρ (jb kvs k v) (PySem.stored xs (f k) u):=by
 unfold jb PySem.stored
 rw[d.any hf k]
 split
 ·exact d.repl hf dv
 ·exact d.snoc dv
theorem bL.length (d:bL f G ρ kvs xs):kvs.length=xs.length:=by
 induction d with
 |nil=>rfl
 |cons _ _ ih=>exact congrArg Nat.succ ih
theorem t9 {xs:List (κ×Value)} {k:κ} {u:Value} (hn:valueAt xs k=none):PySem.stored xs k u=xs++[(k,u)]:=by
 unfold PySem.stored
 refine if_neg λhany=>?_
 obtain⟨p,hp,hpe⟩:=List.any_eq_true.mp hany
 unfold valueAt at hn
 exact List.find?_eq_none.mp (Option.map_eq_none_iff.mp hn) p hp hpe
end
theorem zI (a b:List Nat) (h:tx a=tx b):a=b:=nP.mp h
theorem KH (a b:Int) (h:id a=id b):a=b:=h
theorem ng (g:List Nat) (t:Tok):(strKind pw W0).is (tx g) (.str (tx g) t)=true:=strKind_is _ _ _ _
theorem HD (i:Int) (t:Tok):(intKind pw W0).is (id i) (.int i t)=true:=intKind_is _ _ _ _
section
variable {D:Nat} {C:Cx} {st:St} {P:PV} {Q:Value->Shared->Prop} {i j:Nat}
theorem RS.notSys (r:RS C st) (H:CxB D C) {a:Addr} {o:Obj} (e:r.T[i]? =some (a,o)):(a==sysModules)=false:=beq_eq_false_iff_ne.mpr λea=>H.sm.elim λo' ho=>by
 have:=(r.nw _ (r.tAt e)).2.2
 rw[show(a,o).1=sysModules from ea,ho] at this;cases this
theorem RS.dS {r:RS C st} {a:Addr} {o:Obj} {xs:List (Str×Value)} (e:r.T[i]? =some (a,o)) (d:o.IsDictOf (strKind pw W0) xs):r.s.heap.DictOf (strKind pw W0) a xs:=Heap.dictOf_iff.mpr ⟨o,r.get e,d⟩
theorem RS.dI {r:RS C st} {a:Addr} {o:Obj} {xs:List (Int×Value)} (e:r.T[i]? =some (a,o)) (d:o.IsDictOf (intKind pw W0) xs):r.s.heap.DictOf (intKind pw W0) a xs:=Heap.dictOf_iff.mpr ⟨o,r.get e,d⟩
theorem A9 {x y:List Nat} {kx ky:Option Tok} (hl:x.length+y.length<=1000) (h1:x=[]->P (.str y ky) st) (h2:x≠[]->y=[]->P (.str x kx) st) (h3:x≠[]->y≠[]->∀t,st.tk<=t->P (.str (x++y) (some t)) {st with tk:=t+1}):pC .Add (.str x kx) (.str y ky) st P:=⟨λ{D C} H r {u v Q} da db k=>
 da.strE (X:=λu=>r.D (.str x kx) u->WP C (binaryOp .Add u v) Q r.s) (λt _ da=>db.strE (X:=λv=>r.D (.str y ky) v->WP C (binaryOp .Add (.str (tx x) t) v) Q r.s) (λt2 _ db=>by
  refine PySem.P.add_str ?_
  cases x with
  |nil=>exact k r _ _ .rf (h1 rfl) db
  |cons c x=>
   cases y with
   |nil=>exact k r _ _ .rf (h2 (by nofun) rfl) da
   |cons e y=>
    rw[if_neg (by simp[tx,Str.length]),if_neg (by simp[tx,Str.length]),yh]
    refine⟨?_,k.strT (h3 (by nofun) (by nofun))⟩
    show((c::x)++(e::y)).toArray.size<=_
    rw[ay,aI]
    exact gj (ag hl (by decide))) db) da⟩
theorem zf {x y:List Nat} {kx ky:Option Tok} {P:Bool->Prop} (h:P (decide (x=y))):gL .Eq (.str x kx) (.str y ky) st P:=⟨λ{D C} H r {u v Q} da db k=>da.strE λ_ _=>db.strE λ_ _=>eq_str (by rw[jH];exact k r _ .rf h)⟩
theorem zg {x:Int} {n:Nat} (h0:0<=x) (hi:x.toNat<n):seqIndex? x n=some x.toNat:=by
 unfold seqIndex?
 rw[if_neg (Int.not_lt.mpr h0)]
 exact if_pos (Bool.and_eq_true_iff.mpr ⟨aR h0,aR ((Int.toNat_lt h0).mp hi)⟩)
theorem Hi {g:List Nat} {x:Int} (h0:0<=x) (hi:x.toNat<g.length):seqIndex? x (tx g).length=some x.toNat:=zg h0 (n:=(tx g).length) hi
theorem uC {s:Shared} {g:List Nat} {x:Int} {c:Nat} {t u:Tok} {A:Around} {E:Value->Shared->Prop} (h0:0<=x) (hl:g.length<1000) (hc:g[x.toNat]? =some c) (h:Q (.str (tx [c]) s.toks) {s with toks:=s.toks+1}):wpAny MM A (getItem (.str (tx g) t) (.int x u)) Q E s:=by
 have hi:=(az.mp hc).1
 refine P.getItem_str (c:=c) ?_ ?_ h
 ·simp only[Bool.or_eq_false_iff,decide_eq_false_iff_not];omega
 ·rw[Hi h0 hi]
  exact(Array.getElem?_toList ..).symm.trans hc
theorem cL {g:List Nat} {q:Option Tok} {x:Int} (h0:0<=x) (hl:g.length<1000) (c:Nat) (hc:g[x.toNat]? =some c) (h:P (.str [c] none) st):fz (.str g q) (.int x) st P:=⟨λhs=>⟨λH r _ _ _ da db k=>da.strE λ_ _=>db.intE λ_=>tail_any (typeIs_str _ _ _) F.slot_str_getitem.lookup (uC h0 hl hc (k.str h _ (aK _))) (hs _ _)⟩⟩
theorem pW {g:List Nat} {q:Option Tok} {x:Int} (h0:0<=x) (hl:g.length<1000) (c:Nat) (hc:g[x.toNat]? =some c) (h:∀t,st.tk<=t->P (.str [c] (some t)) {st with tk:=t+1}):fz (.str g q) (.int x) st P:=⟨λhs=>⟨λH r _ _ _ da db k=>da.strE λ_ _=>db.intE λ_=>tail_any (typeIs_str _ _ _) F.slot_str_getitem.lookup (uC h0 hl hc (k.strT h)) (hs _ _)⟩⟩
theorem cW {g:List Nat} {q:Option Tok} (hl:g.length<100000) (h:P (.int g.length) st):cj (.builtin "len") [.str g q] [] st P:=⟨λH r _ _ _ d dk k=>dk.nilE (d.one λ_ d=>d.strE λ_ _=>PySem.P.len_str (yS hl) (k.int h _ (aQ _ 2)))⟩
theorem qV (H:CxB D C) (r:RS C st):NoneBooked r.s.heap:=H.nb.imp λ_ h=>h.imp (λe=>e.keeps r.fr.keep) id
theorem zw {x y:List Nat} {t u:Tok} {P:Bool->Prop} (h1:t≠0) (h2:u≠0) (h:(x≠y/\t≠u/\P false)∨∀c,P c):gL .Is (.str x (some t)) (.str y (some u)) st P:=⟨λ{D C} H r {_ _ Q} da db k=>da.strE λt' ht=>db.strE λu' hu=>by
 have h0:(t'==0||u'==0)=false:=by rw[ht _ rfl,hu _ rfl,beq_eq_false_iff_ne.mpr h1,beq_eq_false_iff_ne.mpr h2];rfl
 show wpAny _ _ (isSame (.str (tx _) t') (.str (tx _) u')>>=λr=>pure (Value.bool r)) _ _ _
 rcases h with⟨hab,htu,h⟩|h
 ·rw[isSame_str_other _ _ t' u' h0 (by rw[ht _ rfl,hu _ rfl];simpa using htu) (by simpa usingλe=>hab (nP.mp e))]
  exact ah (k r _ .rf h)
 ·exact ae (wpAny_isSame_str h0 (qV H r) λc=>ah (k r _ .rf (h c)))⟩
theorem aT.texts {G:GP} {ρ:List Addr} {gs:List (List Nat×Option Tok)}:∀{us:List Value},aT G ρ (gs.map λp=>.str p.1 p.2) us->∃l:List (Str×Tok),us=l.map (λp=>.str p.1 p.2)/\l.map (·.1)=gs.map λp=>tx p.1:=by
 induction gs with
 |nil=>exactλd=>d.nilE ⟨[],rfl,rfl⟩
 |cons p gs ih=>exactλd=>d.consE λx xs d ds=>d.strE λt _=>(ih ds).elim λl h=>⟨(tx p.1,t)::l,congrArg _ h.1,congrArg _ h.2⟩
theorem z6 (gs:List (List Nat)):Builtin.Str.glued (tx []) (gs.map tx)=tx gs.flatten:=by
 cases gs with
 |nil=>rfl
 |cons g gs=>
  unfold Builtin.Str.glued
  rw[List.map_cons,List.drop_succ_cons,List.drop_zero,List.headD_cons,List.flatten_cons]
  show(Str.mk ((gs.map tx).foldl _ g.toArray))=_
  induction gs generalizing g with
  |nil=>simp[tx]
  |cons h gs ih=>
   rw[List.map_cons,List.foldl_cons,show g.toArray++(tx []).cps++(tx h).cps=(g++h).toArray by simp[tx],ih,List.flatten_cons,ax]
theorem zU {l:List Str} (h:l.length<=100) (hb:∀x∈l,x.length<=100):Builtin.Str.tooLong (l.toArray.foldl (·+·.length+(tx []).length) 0)=false:=by
 have key:∀(l:List Str) (n:Nat),(∀x∈l,x.length<=100)->l.foldl (·+·.length+(tx []).length) n<=n+100*l.length:=by
  intro l
  induction l with
  |nil=>exactλn _=>ak _
  |cons x l ih=>
   intro n hx
   have h1:=ih (n+x.length+0) λy hy=>hx y (.tail _ hy)
   have h2:=hx x (.head _)
   rw[List.foldl_cons,List.length_cons]
   exact ag h1 (by omega)
 unfold Builtin.Str.tooLong
 rw[List.foldl_toArray]
 exact decide_eq_false (Nat.not_lt.mpr (gj (ag (key l 0 hb) (by omega))))
theorem AN {gs:List (List Nat×Option Tok)} (hg:∀p∈gs,p.1.length<=100):(gs.map (·.1)).flatten.length<=100*gs.length:=by
 induction gs with
 |nil=>exact ak _
 |cons p gs ih=>
  have h1:=ih λq hq=>hg q (.tail _ hq)
  have h2:=hg p (.head _)
  rw[List.map_cons,List.flatten_cons,aI,List.length_cons]
  omega
theorem Jy {q:Option Tok} {v:AV} (gs:List (List Nat×Option Tok)) (e:bq st v (gs.map λp=>.str p.1 p.2)) (hl:gs.length<=100) (hg:∀p∈gs,p.1.length<=100) (h1:∀p,gs=[p]->P (.str p.1 p.2) st) (h2:gs.length≠1->∀t,st.tk<=t->P (.str (gs.map (·.1)).flatten (some t)) {st with tk:=t+1}):cj (.builtin "str.join") [.str [] q,v] [] st P:=⟨λ{D C} H r {us ku Q} d dk k=>
 dk.nilE (d.two λ_ y d d2=>d.strE λt _=>e.e (X:=λy=>WP C (call (.builtin "str.join") [.str (tx []) t,y]) Q r.s) d2 λa xs n ho dx=>by
  obtain⟨l,rfl,hlt⟩:=aT.texts dx
  have hlen:l.length=gs.length:=by have:=congrArg List.length hlt;rwa [ai,ai] at this
  refine call_meets F.slot_str_join (typeIs_str _ _ _) F.entry_str_join (F.args_str_join_2 _ _) (meets_str_join_list (tx []) t a l (zU (by rw[ai,hlen];exact hl) ?_)) ⟨⟨_,ho,rfl,n,rfl⟩,?_⟩
  ·rw[hlt]
   exactλx hx=>(aG.mp hx).elim λp hp=>hp.2▸hg p hp.1
  ·by_cases h3:gs.length=1
   ·obtain⟨p,rfl⟩:=pE h3
    obtain⟨q,rfl⟩:=pE (hlen.trans h3)
    exact dx.one (X:=λxs=>xs=[Value.str q.1 q.2]->Q (.str q.1 q.2) r.s) (λx d e=>by cases e;exact k r _ _ .rf (h1 p rfl) d) rfl
   ·have hjm:joinMade (tx []) l=.str (Builtin.Str.glued (tx []) (l.map (·.1))):=by
     cases l with
     |nil=>rfl
     |cons q l=>cases l with
      |nil=>exact absurd hlen.symm h3
      |cons _ _=>rfl
    rw[hjm,hlt,show(gs.map λp=>tx p.1)=(gs.map (·.1)).map tx by rw[List.map_map];rfl,z6]
    refine⟨?_,k.strT (h2 h3)⟩
    show(gs.map (·.1)).flatten.toArray.size<=_
    rw[ay]
    exact gj (ag (AN hg) (by omega)))⟩
end
section
variable {D:Nat} {C:Cx} {st:St} {P:PV} {Q:Value->Shared->Prop} {i j:Nat}
theorem bG {h:Heap} {a:Addr} {xs:List Value} {n:Nat} (e:h.get? a=some (listOf xs.toArray n)):h.IsList a xs.toArray:=⟨_,e,rfl,n,rfl⟩
theorem mX {G:GP} {ρ:List Addr} {vs:List AV} {xs:List Value} (d:aT G ρ vs xs) (h:vs.length<=100000):xs.toArray.size<=sizeLine:=by rw[ay,<-d.length];exact gj h
theorem tL {xs:List Value} {n:Nat} {x:Value} (h:xs[n]? =some x):xs.toArray[n]? =some x:=bb.trans h
theorem xo {x:Int} (hl:x<100000):x<2^63:=Int.lt_trans hl (by decide)
theorem wG {G:GP} {ρ:List Addr} {vs:List AV} {xs:List Value} (d:aT G ρ vs xs) (h:vs.length<=100000):((xs.toArray.size:Nat):Int)<2^63:=by rw[ay,<-d.length];omega
theorem Oh {G:GP} {ρ:List Addr} {vs:List AV} {xs:List Value} {x:Int} (d:aT G ρ vs xs) (h0:0<=x) (h:x<vs.length):x<(xs.toArray.size:Nat):=by rw[ay,<-d.length];exact h
theorem cf {v:AV} {vs:List AV} {x:Int} (e:bq st v vs) (h0:0<=x) (hl:x<100000) (w:AV) (hw:vs[x.toNat]? =some w) (h:P w st):fz v (.int x) st P:=⟨λ{value slice} hs=>⟨λ{D C} H r {u k Q} da db kk=>
 db.intE λ_=>e.e (X:=λu=>WP C (subscriptTail value slice u (.int x _)) Q r.s) da λa xs n ho dx=>(dx.get hw).elim λz hz=>
  tail_any (bG ho).typeIs slot_list_getitem.lookup (wpAny_getItem_list (bG ho) h0 (xo hl) (tL hz.1) (kk r _ _ .rf h hz.2)) (hs _ _)⟩⟩
theorem GF {v:AV} {vs:List AV} {x:Int} (e:bq st v vs) (h0:0<=x) (hl:x<100000) (w:AV) (hw:vs[x.toNat]? =some w) (h:P w st):yQ v (.int x) st P:=⟨λ{D C} H r {u k Q} da db kk=>
 db.intE λ_=>e.e (X:=λu=>WP C (getItem u (.int x _)) Q r.s) da λa xs n ho dx=>(dx.get hw).elim λz hz=>wpAny_getItem_list (bG ho) h0 (xo hl) (tL hz.1) (kk r _ _ .rf h hz.2)⟩
theorem nu {xs:List Value} {n i:Nat} {u:Value}:Obj.mapSeq (·.setIfInBounds i u) (listOf xs.toArray n)=listOf (xs.set i u).toArray n:=by
 simp[Obj.mapSeq]
theorem xu {x:Int} {v:AV} {P:St->Prop} (vs:List AV) (e:st.at j=some (.list vs)) (h0:0<=x) (h1:x<vs.length) (h2:vs.length<=100000) (h:P (st.put j (.list (vs.set x.toNat v)))):iJ (.ref j) (.int x) v st P:=⟨λ{D C} H r {uo ui u Q} do' di d k=>
 di.intE λt=>RS.listE r (X:=λuo=>WP C (setItem uo (.int x t) u) Q r.s) do' e λa xs n ht dx=>by
  have ho:=r.get ht
  refine ki_setAt ho h0 (by omega) (by rw[ay,<-dx.length];omega) ?_
  exact k.upd (v:=.list (vs.set x.toNat v)) h ht (bl ..) (by rw[Heap.get?_update_self _ ho (by rw[nu];rfl),nu]) ⟨_,_,rfl,dx.set d⟩ (ak _)⟩
theorem gn {v:AV} (vs:List AV) (e:bq st v vs) (hl:vs.length<=100000) (h:P (.int vs.length) st):cj (.builtin "len") [v] [] st P:=⟨λ{D C} H r {us ku Q} d dk k=>
 dk.nilE (d.one λx d=>e.e (X:=λx=>WP C (call (.builtin "len") [x]) Q r.s) d λa xs n ho dx=>len_list (bG ho) (wG dx hl) (by rw[ay,<-dx.length];exact k.int h _ (aQ _ 2)))⟩
theorem Jv {a b:Int} (h:P (.int (if b<a then b else a)) st):cj (.builtin "min") [.int a,.int b] [] st P:=⟨λ{D C} H r {us ku Q} d dk k=>
 dk.nilE (d.two λx y d1 d2=>d1.intE λ_=>d2.intE λ_=>c9 (min_two_N H.hh r.fr r.nw λh' tk F' N' ht=>k (r.re F' N' tk ht) _ _ ⟨aw,λ_ h=>h,rfl⟩ h (.int _ _)))⟩
theorem dD {v:AV} (vs:List AV) (e:st.at i=some (.list vs)) (hl:vs.length<=100000) (h:P .none (st.put i (.list (vs++[v])))):cj (.builtin "list.append") [.ref i,v] [] st P:=⟨λ{D C} H r {us ku Q} d dk k=>
 dk.nilE (d.two λx y d1 d2=>RS.listE r (X:=λx=>WP C (call (.builtin "list.append") [x,y]) Q r.s) d1 e λa xs n ht dx=>
  append_K r.fr r.nw (r.updL ht) (λh' F' N'=>k.upd (v:=.list (vs++[v])) h ht F' N' ⟨xs++[y],_,by rw[List.push_toArray],dx.append (.cons d2 .nil)⟩ (ak _) .none) (mX dx hl))⟩
theorem aT.snocInv {G:GP} {ρ:List Addr} {vs:List AV} {v:AV}:∀{xs:List Value},aT G ρ (vs++[v]) xs->∃ys u,xs=ys++[u]/\aT G ρ vs ys/\aY G ρ v u:=by
 induction vs with
 |nil=>exactλd=>d.one λu d=>⟨[],u,rfl,.nil,d⟩
 |cons w vs ih=>exactλd=>d.consE λx xs d ds=>(ih ds).elim λys z=>z.elim λu z=>⟨x::ys,u,congrArg _ z.1,.cons d z.2.1,z.2.2⟩
theorem rI (p:List Value) (y:Value):kl_last (p++[y])=some (p,y):=by
 induction p with
 |nil=>rfl
 |cons a p ih=>
  rw[List.cons_append]
  unfold kl_last
  rw[ih]
theorem LU (vs:List AV) (v:AV) (e:st.at i=some (.list (vs++[v]))) (hl:vs.length<100000) (h:P v (st.put i (.list vs))):cj (.builtin "list.pop") [.ref i] [] st P:=⟨λ{D C} H r {us ku Q} d dk k=>
 dk.nilE (d.one λx d1=>RS.listE r (X:=λx=>WP C (call (.builtin "list.pop") [x]) Q r.s) d1 e λa xs n ht dx=>by
  obtain⟨ys,u,rfl,e1,e2⟩:=dx.snocInv
  exact kl_pop r.fr r.nw (p:=ys) (y:=u) (rI ys u) (r.updL ht) (by rw[aI,<-e1.length];exact gj hl) λh' F' N'=>k.upd (v:=.list vs) h ht F' N' ⟨_,_,rfl,e1⟩ (ak _) e2)⟩
theorem Er {x:Int} {v:AV} (vs:List AV) (e:st.at i=some (.list vs)) (h0:0<=x) (hx:x<=vs.length) (hl:vs.length<=100000) (h:P .none (st.put i (.list (vs.take x.toNat++v::vs.drop x.toNat)))):cj (.builtin "list.insert") [.ref i,.int x,v] [] st P:=⟨λ{D C} H r {us ku Q} d dk k=>
 dk.nilE (d.three λx1 x2 u3 d1 d2 d3=>d2.intE λt=>RS.listE r (X:=λx1=>WP C (call (.builtin "list.insert") [x1,.int x t,u3]) Q r.s) d1 e λa xs n ht dx=>by
  have hlen:=dx.length
  have hk:kl_ins xs x u3=xs.take x.toNat++u3::xs.drop x.toNat:=by
   unfold kl_ins
   rw[if_neg (Int.not_lt.mpr h0),Nat.min_eq_left (by omega)]
  exact kl_insert r.fr r.nw (by unfold Builtin.List.listFitsIndex;simp;omega) (e:=hk) (r.updL ht) (by show xs.length<=_;rw[<-hlen];exact gj hl) λh' F' N'=>k.upd (v:=.list (vs.take x.toNat++v::vs.drop x.toNat)) h ht F' N' ⟨_,_,rfl,(dx.take _).append (.cons d3 (dx.drop _))⟩ (ak _) .none)⟩
theorem E7 (vs us:List AV) (e:st.at i=some (.list vs)) (e':st.at j=some (.list us)) (hne:us≠[]) (hl:vs.length+us.length<=1000) (h:P .none (st.put i (.list (vs++us)))):cj (.builtin "list.extend") [.ref i,.ref j] [] st P:=⟨λ{D C} H r {zs ku Q} d dk k=>
 dk.nilE (d.two λx y d1 d2=>RS.listE r (X:=λx=>WP C (call (.builtin "list.extend") [x,y]) Q r.s) d1 e λa xs n ht dx=>RS.listE r (X:=λy=>WP C (call (.builtin "list.extend") [.ref a,y]) Q r.s) d2 e' λb ys n2 ht2 dy=>by
  have l1:=dx.length
  have l2:=dy.length
  have l3:us.length≠0:=λh=>hne (List.length_eq_zero_iff.mp h)
  have hf:xs.length+ys.length<=sizeLine:=gj (by omega)
  refine kl_extend r.fr r.nw (r.tAt ht2) rfl (by show ys.length≠0;rw[<-l2];exact l3) (r.updL ht) ?_ (ag (aQ ..) hf) (by rw[ay,ay];exact Nat.le_succ_of_le hf) λh' F' N'=>k.upd (v:=.list (vs++us)) h ht F' N' ⟨_,_,rfl,dx.append dy⟩ (ak _) .none
  rw[ay,ay]
  unfold Builtin.List.listTooLong
  rw[show decide (xs.length+ys.length>sizeLine)=false from decide_eq_false (Nat.not_lt.mpr hf),Bool.and_false];exact au)⟩
theorem su (xs ys:List AV) (e1:st.at i=some (.list xs)) (e2:st.at j=some (.list ys)) (hl:xs.length+ys.length<=100000) (h:P (.ref st.new) (st.add (.list (xs++ys)))):pC .Add (.ref i) (.ref j) st P:=⟨λ{D C} H r {u v Q} da db k=>
 RS.listE r (X:=λu=>WP C (binaryOp .Add u v) Q r.s) da e1 λa us n1 ht dx=>RS.listE r (X:=λv=>WP C (binaryOp .Add (.ref a) v) Q r.s) db e2 λb zs n2 ht2 dy=>
  add_arrays r.fr r.nw (r.isList ht) (r.isList ht2) (λh' F' N'=>k (r.new (v:=.list (xs++ys)) F' N' (ak _) ⟨us++zs,0,rfl,(dx.append dy).mono (λ_ _ g=>g) cI⟩ r.s.toks (ak _)) _ _ r.new_le h r.new_den) (by rw[ay,ay,<-dx.length,<-dy.length];exact gj hl)⟩
theorem kQ {g:List Nat} {q:Option Tok} {v:AV} (kvs:List (List Nat×AV)) (e:st.at i=some (.dictS kvs)) (h:P ((b8 kvs g).getD v) st):cj (.builtin "dict.get") [.ref i,.str g q,v] [] st P:=⟨λ{D C} H r {us ku Q} d dk k=>
 dk.nilE (d.three λx1 x2 x3 d1 d2 d3=>d2.strE λt _=>r.refE (X:=λx1=>WP C (call (.builtin "dict.get") [x1,.str (tx g) t,x3]) Q r.s) d1 e λa o ht dd=>dd.elim λxs dd=>by
  have hD:=RS.dS ht dd.1
  exact call_meetsIn PySem.F.slot_dict_get hD.typeIs PySem.F.entry_dict_get (PySem.F.args_dict_get_3 _ _ _) (meets_dict_get_default (strKind pw W0) a (ng _ t) (r.notSys H ht) _) ⟨_,hD.mapOf,k.same h (dd.2.getD zI _ d3) (aK _)⟩)⟩
theorem Ed {g:List Nat} {q:Option Tok} (kvs:List (List Nat×AV)) (v:AV) (e:st.at i=some (.dictS kvs)) (hv:b8 kvs g=some v) (h:P v st):fz (.ref i) (.str g q) st P:=⟨λ{value slice} hs=>⟨λ{D C} H r {u w Q} da db k=>
 db.strE λt _=>r.refE (X:=λu=>WP C (subscriptTail value slice u (.str (tx g) t)) Q r.s) da e λa o ht dd=>dd.elim λxs dd=>(dd.2.getSome zI hv).elim λz hz=>by
  have hD:=RS.dS ht dd.1
  exact tail_any hD.typeIs slot_dict_getitem.lookup (wpAny_getItem_of (ng _ t) hD.mapOf hz.1 (k.same h hz.2 (aK _))) (hs _ _)⟩⟩
theorem yD {x:Int} {v:AV} {P:St->Prop} (kvs:List (Int×AV)) (e:st.at j=some (.dictI kvs)) (hl:kvs.length<=100000) (h:P (st.put j (.dictI (jb kvs x v)))):iJ (.ref j) (.int x) v st P:=⟨λ{D C} H r {uo ui u Q} do' di d k=>
 di.intE λt=>r.refE (X:=λuo=>WP C (setItem uo (.int x t) u) Q r.s) do' e λa o ht dd=>dd.elim λxs dd=>
  wpAny_setItem_pairs (hsz:=ag (Nat.le_of_eq dd.2.length.symm) (gj hl)) (HD _ t) (RS.dI ht dd.1) λh' hmm hs=>(Heap.dictOf_iff.mp hmm).elim λo' ho'=>k.upd (v:=.dictI (jb kvs x v)) h ht hs ho'.1 ⟨_,ho'.2,dd.2.stored KH d⟩ (aK _)⟩
theorem qg {g:List Nat} {q:Option Tok} {v:AV} {P:St->Prop} (kvs:List (List Nat×AV)) (e:st.at j=some (.dictS kvs)) (hl:kvs.length<=100000) (h:P (st.put j (.dictS (jb kvs g v)))):iJ (.ref j) (.str g q) v st P:=⟨λ{D C} H r {uo ui u Q} do' di d k=>
 di.strE λt _=>r.refE (X:=λuo=>WP C (setItem uo (.str (tx g) t) u) Q r.s) do' e λa o ht dd=>dd.elim λxs dd=>
  wpAny_setItem_pairs (hsz:=ag (Nat.le_of_eq dd.2.length.symm) (gj hl)) (ng _ t) (RS.dS ht dd.1) λh' hmm hs=>(Heap.dictOf_iff.mp hmm).elim λo' ho'=>k.upd (v:=.dictS (jb kvs g v)) h ht hs ho'.1 ⟨_,ho'.2,dd.2.stored zI d⟩ (aK _)⟩
theorem tW {g:List Nat} {q:Option Tok} {v:AV} (kvs:List (List Nat×AV)) (e:st.at i=some (.dictS kvs)) (hl:kvs.length<=100000) (hn:b8 kvs g=none) (h:P v (st.put i (.dictS (kvs++[(g,v)])))):cj (.builtin "dict.setdefault") [.ref i,.str g q,v] [] st P:=⟨λ{D C} H r {us ku Q} d dk k=>
 dk.nilE (d.three λx1 x2 x3 d1 d2 d3=>d2.strE λt _=>r.refE (X:=λx1=>WP C (call (.builtin "dict.setdefault") [x1,.str (tx g) t,x3]) Q r.s) d1 e λa o ht dd=>dd.elim λxs dd=>by
  have hD:=RS.dS ht dd.1
  have hn':=dd.2.getNone zI hn
  refine call_meetsIn PySem.F.slot_dict_setdefault hD.typeIs PySem.F.entry_dict_setdefault (PySem.F.args_dict_setdefault_3 _ _ _) (kt_meets_setdefault (strKind pw W0) a (ng _ t) (r.notSys H ht) _)
   ⟨xs,hD,ag (Nat.le_of_eq dd.2.length.symm) (gj hl),(λv hv'=>by rw[hn'] at hv';cases hv'),λ_ h' hmm hs=>(Heap.dictOf_iff.mp hmm).elim λo' ho'=>?_⟩
  have hd':=ho'.2
  rw[t9 hn'] at hd'
  exact k.upd (v:=.dictS (kvs++[(g,v)])) h ht (r.sameFr (r.tAt ht) hs) (r.setNews ht hs ho'.1) ⟨_,hd',dd.2.snoc d3⟩ (aK _) d3)⟩
theorem Kd {x y:Int} (kvs:List (Int×AV)) (e:st.at i=some (.dictI kvs)) (h:P ((b8 kvs x).getD (.int y)) st):lh "dict.get" (.ref i) [.int x,.int y] st P:=⟨λ{D C} H r {q u us Q} hq d ds k=>
 r.refE (X:=λu=>r.s.heap.get? q=some (b7 "dict.get" u)->WP C (call (.ref q) us []) Q r.s) d e (λa o ht dd hq=>ds.two λ_ _ d1 d2=>d1.intE λt=>d2.intE λt2=>dd.elim λxs dd=>by
  have hv:=dd.2.getD KH x (aY.int (G:=r.G) (ρ:=r.ρ) y t2)
  obtain⟨es,n,ho,hk,hf⟩:=jX (RS.dI ht dd.1)
  have hf':=hf (id x)
  rw[<-hf'] at hv
  have hs:=r.notSys H ht
  have q2:=k.same h hv (aK r.s.toks)
  refine wpAny_call (jZ (u9 "dict.get") 100 (b7 "dict.get" (.ref a)::List.replicate 3 (bO es n)) ?_)
  rw[lB]
  generalize r.s=s at*
  obtain⟨hp,g,dr,tk,os⟩:=s
  rw[qI]
  refine⟨hq,ho,ho,ho,codeAny_builtin F.entry_dict_get ?_⟩
  rw[Around.under_plainId (by decide+kernel)]
  exact meets_dict_get_default (intKind pw W0) a (k:=x) (key:=.int x t) (HD x t) hs (.int y t2) C.A (xa Q) ⟨hp,g,dr,tk,os⟩ ⟨_,⟨_,es,n,ho,⟨rfl,rfl,rfl⟩,rfl,hk,λ_=>rfl⟩,q2⟩) hq⟩
theorem yk {x:List Nat} {qx:Option Tok} (kvs:List (List Nat×AV)) (e:st.at i=some (.dictS kvs)) (h:P (.bool (b8 kvs x).isSome) st):lh "dict.__contains__" (.ref i) [.str x qx] st P:=⟨λ{D C} H r {q u us Q} hq d ds k=>
 r.refE (X:=λu=>r.s.heap.get? q=some (b7 "dict.__contains__" u)->WP C (call (.ref q) us []) Q r.s) d e (λa o ht dd hq=>ds.one λ_ d1=>d1.strE λt _=>dd.elim λxs dd=>by
  obtain⟨es,n,ho,hk,hf⟩:=jX (RS.dS ht dd.1)
  have hs:=r.notSys H ht
  rw[dd.2.isSome zI x,<-hf] at h
  have q2:=k.same h (.bool _) (aK r.s.toks)
  refine wpAny_call (jZ (u9 "dict.__contains__") 100 (b7 "dict.__contains__" (.ref a)::List.replicate 3 (bO es n)) ?_)
  rw[lB]
  generalize r.s=s at*
  obtain⟨hp,g,dr,tk,os⟩:=s
  rw[jP]
  refine⟨hq,ho,ho,ho,codeAny_builtin F.entry_dict_contains ?_⟩
  rw[Around.under_plainId (by decide+kernel)]
  exact meets_dict_contains (strKind pw W0) a (k:=tx x) (key:=.str (tx x) t) (ng _ t) hs C.A (xa Q) ⟨hp,g,dr,tk,os⟩ ⟨_,⟨_,es,n,ho,⟨rfl,rfl,rfl⟩,rfl,hk,λ_=>rfl⟩,q2⟩) hq⟩
theorem E3 {k:Addr} {led:Bool} {h:Heap} (ho:h.get? k=some (fa led)):h.SetOf (strKind pw W0) k (λ_=>false) 0:=
 ⟨_,#[],0,_,ho,⟨rfl,rfl,rfl⟩,rfl,(λ_ h=>nomatch h),(λ_=>⟨(λh=>nomatch h),λh=>by obtain⟨_,h,_⟩:=h;exact absurd h List.not_mem_nil⟩),by decide,by cases led<;>decide,rfl⟩
theorem jU {x:List Nat} {qx:Option Tok} (e:st.at i=some .set0) (h:P (.bool false) st):lh "set.__contains__" (.ref i) [.str x qx] st P:=⟨λ{D C} H r {q u us Q} hq d ds k=>
 r.refE (X:=λu=>r.s.heap.get? q=some (b7 "set.__contains__" u)->WP C (call (.ref q) us []) Q r.s) d e (λa o ht dd hq=>ds.one λ_ d1=>d1.strE λt _=>dd.elim λled eo=>by
  have ho:=r.get ht
  rw[eo] at ho
  have hQ:=k.same h (.bool _) (aK r.s.toks)
  refine wpAny_call (jZ (u9 "set.__contains__") 100 (b7 "set.__contains__" (.ref a)::List.replicate 3 (fa led)) ?_)
  rw[lB]
  generalize r.s=s at*
  obtain⟨hp,g,dr,tk,os⟩:=s
  rw[kI]
  refine⟨hq,ho,ho,ho,codeAny_builtin entry_set_contains ?_⟩
  unfold Builtin.«frozenset.__contains__» Builtin.Frozenset.oneOther
  simp only[List.isEmpty_nil,bind_assoc]
  unfold Builtin.Frozenset.addrOf Builtin.Frozenset.withSetAsKey setContains
  refine ae (ah ?_)
  try dsimp only
  refine ae (ah ?_)
  try dsimp only
  refine ae (wpAny_tryCatch ?_)
  refine aM ?_
  refine ae ((strKind pw W0).pyHash (ng x t) ?_)
  refine ae (wpAny_setFind_of (s:={(⟨hp,g,dr,tk,os⟩:Shared) with toks:=tk+1}) (knd:=strKind pw W0) (k:=tx x) (ng x t) rfl (E3 (led:=led) ho) λr hr=>?_)
  refine ah ?_
  show wpAny _ _ (ret (Value.bool r.isSome)) _ _ _
  rw[hr]
  exact ah hQ) hq⟩
theorem uJ (h:P (.ref st.new) (st.add .set0)):cj (.type "set") [] [] st P:=⟨λ{D C} H r {us ku Q} d dk k=>
 dk.nilE (d.nilE (call_set_0 λled=>RS.push_k (v:=.set0) (d:=λ_ _=>⟨led,rfl⟩) (hf:=rfl) k h))⟩
theorem RS.rng_k {r:RS C st} (k:Kt r P Q) {a b c:Int} {t u v:Tok} (h:P (.rng a b c) st) (n:Nat) (hn:r.s.toks<=n):Q (.ref r.s.heap.objs.size) {r.s with heap:=r.s.heap.push {cls:=.type "range",data:=.fields #[.int a t,.int b u,.int c v]},toks:=n}:=
 k (r.imm (a:=r.s.heap.objs.size) (r.fr.push _) (News.push r.fr r.nw _ rfl) (ak _) n hn) _ _ r.imm_le h (.rng _ _ _ _ _ _ _ (.inr (.head _)))
theorem dC {n:Int} (h:P (.rng 0 n 1) st):cj (.type "range") [.int n] [] st P:=⟨λ{D C} H r {us ku Q} d dk k=>dk.nilE (d.one λ_ d=>d.intE λ_=>call_range_1 (RS.rng_k k h _ (aQ _ 2)))⟩
theorem zc {a b:Int} (h:P (.rng a b 1) st):cj (.type "range") [.int a,.int b] [] st P:=⟨λ{D C} H r {us ku Q} d dk k=>dk.nilE (d.two λ_ _ d e=>d.intE λ_=>e.intE λ_=>call_range_2 (RS.rng_k k h _ (aK _)))⟩
theorem jK {as:List AV} {id:String} {v:AV} (e:st.at i=some (.bound id v)) (h:lh id v as st P):wA D (.ref i) as [] st P:=⟨rfl,id,v,e,h⟩
theorem o8 {v:AV} {P:Bool->Prop} {vs:List AV} (e1:bq st v vs) (hl:vs.length<=100000) (h:P (!vs.isEmpty)):uD v st P:=⟨λ{D C} H r {u Q} d k=>
 e1.e (X:=λu=>WP C (truthy u) Q r.s) d λa xs n ho dx=>wpAny_truthy_list (bG ho) (wG dx hl) (by rw[List.isEmpty_toArray,<-dx.isEmpty];exact k (r.toks _ (aQ _ 2)) _ RS.toks_le h)⟩
end
noncomputable def HB (k:Ordering) (a b:Int):Bool:=match k with
 | .eq=>decide (a=b)
 | .lt=>decide (a<b)
 | .gt=>decide (b<a)
noncomputable def Hv (k:Ordering) (a b:List Nat):Bool:=match k with
 | .eq=>decide (a=b)
 | .lt=>decide (a<b)
 | .gt=>decide (b<a)
noncomputable def JA (k:Ordering):CmpOp:=match k with
 | .eq=>.Eq
 | .lt=>.Lt
 | .gt=>.Gt
noncomputable def gH (k:Ordering) (e g:AV->AV->Bool):List AV->List AV->Bool
 |[],ys=>(match ys with|[]=>k==.eq|_::_=>k==.lt)
 |x::xs,ys=>(match ys with|[]=>k==.gt|y::ys=>if e x y=true then gH k e g xs ys else g x y)
noncomputable def ia (f:AV->AV->Prop):List AV->List AV->Prop
 |x::xs,y::ys=>f x y/\ia f xs ys
 |_,_=>True
noncomputable def lT (a:UInt64):Prop:=Float64.cmp a a=some .eq
noncomputable def cZ (O:Ordering->AV->AV->Bool) (k:Ordering) (x y:AV):Bool:=match x with
 | .int a=>(match y with| .int b=>HB k a b|_=>false)
 | .str a _=>(match y with| .str b _=>Hv k a b|_=>false)
 | .flt a _=>(match y with| .flt b _=>Float64.cmp a b==some k|_=>false)
 | .tup _ xs=>(match y with| .tup _ ys=>gH k (O .eq) (O k) xs ys|_=>false)
 |_=>false
noncomputable def jO:Nat->Ordering->AV->AV->Bool
 |0=>cZ λ_ _ _=>false
 |d+1=>cZ (jO d)
noncomputable abbrev lu (d:Nat):AV->AV->Bool:=jO d .eq
noncomputable abbrev bp (d:Nat):AV->AV->Bool:=jO d .lt
noncomputable abbrev eR (d:Nat):AV->AV->Bool:=jO d .gt
noncomputable def fk (E:AV->AV->Prop) (x y:AV):Prop:=match x with
 | .int _=>(match y with| .int _=>True|_=>False)
 | .str _ _=>(match y with| .str _ _=>True|_=>False)
 | .flt a ka=>(match y with
  | .flt b kb=>(match ka with
   |some i=>(match kb with
    |some j=>lT a/\lT b/\i≠0/\j≠0/\(i=j->a=b)
    |none=>False)
   |none=>False)
  |_=>False)
 | .tup c xs=>(match y with| .tup e ys=>c=.type "tuple"/\e=.type "tuple"/\ia E xs ys/\ia E xs xs/\ia E ys ys|_=>False)
 |_=>False
noncomputable def dK:Nat->AV->AV->Prop
 |0=>fk λ_ _=>False
 |d+1=>fk (dK d)
section
variable {G:GP} {E:AV->AV->Prop} {x y:AV} {u v:Value}
@[elab_as_elim] theorem CT {X:AV->AV->Value->Value->Prop} (h:fk E x y) (d1:aY G [] x u) (d2:aY G [] y v)
  (hi:∀a b t t',X (.int a) (.int b) (.int a t) (.int b t'))
  (hs:∀a b i j t t',X (.str a i) (.str b j) (.str (tx a) t) (.str (tx b) t'))
  (hf:∀a b i j,lT a->lT b->i≠0->j≠0->(i=j->a=b)->X (.flt a (some i)) (.flt b (some j)) (.float a i) (.float b j))
  (ht:∀xs ys a b us vs n m dx dy,G a (dW (.type "tuple") (List.toArray us) n dx)->G b (dW (.type "tuple") (List.toArray vs) m dy)->aT G [] xs us->aT G [] ys vs->ia E xs ys->ia E xs xs->ia E ys ys->X (.tup (.type "tuple") xs) (.tup (.type "tuple") ys) (.ref a) (.ref b)):X x y u v:=by
 cases x with
 |int a=>cases y with
  |int b=>exact d1.intE λt=>d2.intE λt'=>hi a b t t'
  |_=>exact h.elim
 |str a i=>cases y with
  |str b j=>exact d1.strE λt _=>d2.strE λt' _=>hs a b i j t t'
  |_=>exact h.elim
 |flt a ka=>cases y with
  |flt b kb=>cases ka with
   |none=>exact h.elim
   |some i=>cases kb with
    |none=>exact h.elim
    |some j=>
     refine d1.fltE λt e=>d2.fltE λt' e'=>?_
     cases e i rfl
     cases e' j rfl
     exact hf a b _ _ h.1 h.2.1 h.2.2.1 h.2.2.2.1 h.2.2.2.2
  |_=>exact h.elim
 |tup c xs=>cases y with
  |tup e ys=>
   cases h.1
   cases h.2.1
   exact d1.tupE λa us n dx g du=>d2.tupE λb vs m dy g' dv=>ht xs ys a b us vs n m dx dy g g' du dv h.2.2.1 h.2.2.2.1 h.2.2.2.2
  |_=>exact h.elim
 |_=>exact h.elim
noncomputable def qj (A:Around) (s:Shared) (u v:Value) (b:Bool):Prop:=∀{E:Value->Shared->Prop} {Q:Bool->Shared->Prop},Q b s->wpAny MM A (eqBool u v) Q E s
noncomputable def jv (A:Around) (s:Shared) (k:Ordering) (u v:Value) (b:Bool):Prop:=∀{E:Value->Shared->Prop} {Q:Value->Shared->Prop},Q (.bool b) s->wpAny MM A (richCompare (JA k) u v) Q E s
noncomputable def HH (k:Ordering) (a b:Value):Sem PySem.Fin:=match k with
 | .eq=>Builtin.«tuple.__eq__» ⟨[a,b],[]⟩
 | .lt=>Builtin.«tuple.__lt__» ⟨[a,b],[]⟩
 | .gt=>Builtin.«tuple.__gt__» ⟨[a,b],[]⟩
theorem kT {k:Ordering} {e g:AV->AV->Bool} {x y:AV} {xs ys:List AV}:gH k e g (x::xs) (y::ys)=if e x y=true then gH k e g xs ys else g x y:=rfl
noncomputable def xb (k:Ordering) (m n:Nat):Bool:=match k with
 | .eq=>m==n
 | .lt=>decide (m<n)
 | .gt=>decide (m>n)
theorem yg {k:Ordering} {m n:Nat}:xb k (m+1) (n+1)=xb k m n:=by
 cases k
 ·exact decide_eq_decide.mpr Nat.succ_lt_succ_iff
 ·exact decide_eq_decide.mpr Nat.succ_inj
 ·exact decide_eq_decide.mpr Nat.succ_lt_succ_iff
section
variable {A:Around} {s:Shared} {E':Value->Shared->Prop} {k:Ordering} {e g:AV->AV->Bool} {vs us:List AV} {xs ys:List Value}
theorem IY {β:Type} {f:Value×Value->β->Sem (ForInStep β)} {b0:β} {fin:Bool->β} {Q:β->Shared->Prop}
  (hf:∀x y u v,E x y->aY G [] x u->aY G [] y v->∀Q:ForInStep β->Shared->Prop,(e x y=true->Q (.yield b0) s)->(e x y=false->Q (.done (fin (g x y))) s)->wpAny MM A (f (u,v) b0) Q E' s):
  ∀{us:List AV} {xs ys:List Value},aT G [] vs xs->aT G [] us ys->ia E vs us->(gH k e g vs us=xb k vs.length us.length->Q b0 s)->Q (fin (gH k e g vs us)) s->wpAny MM A (forIn (xs.zip ys) b0 f) Q E' s:=by
 induction vs with
 |nil=>exactλ{us xs ys} dx dy _ h1 _=>dx.nilE (ah (h1 (by cases us<;>cases k<;>rfl)))
 |cons x vs ih=>
  intro us xs ys dx dy ck h1 h2
  refine dx.consE λu xs du dx=>?_
  cases us with
  |nil=>exact dy.nilE (ah (h1 (by cases k<;>rfl)))
  |cons y us=>
   refine dy.consE λv ys dv dy=>?_
   rw[kT] at h1 h2
   rw[List.zip_cons_cons,List.forIn_cons]
   refine ae (hf x y u v ck.1 du dv _ (λh=>?_) λh=>?_)
   ·rw[if_pos h] at h1 h2
    exact ih dx dy ck.2 (λh=>h1 (h.trans yg.symm)) h2
   ·rw[h,if_neg au] at h2
    exact ah h2
theorem kX {β:Type} {f:Value×Value->β->Sem (ForInStep β)} {b0:β} {fin:Bool->β} {z:Array Value->Array Value->β->Sem PySem.Fin} {t:Sem PySem.Fin} {c:Bool->Sem PySem.Fin} {a b:Addr} {n m:Nat} {oa ob:Obj} {P:PySem.Fin->Shared->Prop}
  (hi:∀Q:Bool->Shared->Prop,Q true s->wpAny MM A (isInstance (.ref b) (.type "tuple")) Q E' s) (ha:s.heap.get? a=some oa) (da:oa.data=.seq xs.toArray n) (hb:s.heap.get? b=some ob) (db:ob.data=.seq ys.toArray m) (dx:aT G [] vs xs) (dy:aT G [] us ys) (ck:ia E vs us) (h:P (.done (.ret (.bool (gH k e g vs us)))) s)
  (ht:t=(isInstance (.ref b) (.type "tuple")>>=c)) (hc:c true=(Builtin.Tuple.tupleItemsOf (.ref a)>>=λxs=>Builtin.Tuple.tupleItemsOf (.ref b)>>=λys=>forIn (xs.toList.zip ys.toList) b0 f>>=z xs ys))
  (hz:∀xs ys,z xs ys b0=ret (.bool (xb k xs.size ys.size))) (hy:∀xs ys v,z xs ys (fin v)=ret (.bool v))
  (hf:∀x y u v,E x y->aY G [] x u->aY G [] y v->∀Q:ForInStep β->Shared->Prop,(e x y=true->Q (.yield b0) s)->(e x y=false->Q (.done (fin (g x y))) s)->wpAny MM A (f (u,v) b0) Q E' s):wpAny MM A t P E' s:=by
 rw[ht]
 refine ae (hi _ ?_)
 rw[hc]
 refine ae (wpAny_tupleItemsOf ha da ?_)
 refine ae (wpAny_tupleItemsOf hb db ?_)
 refine ae (IY (k:=k) hf dx dy ck (λh'=>?_) (by rw[hy];exact ah h))
 rw[hz,ay,ay,<-dx.length,<-dy.length,<-h']
 exact ah h
theorem u0 {a b:Addr} {n m:Nat} {oa ob:Obj} {P:PySem.Fin->Shared->Prop} (hi:∀Q:Bool->Shared->Prop,Q true s->wpAny MM A (isInstance (.ref b) (.type "tuple")) Q E' s) (ha:s.heap.get? a=some oa) (da:oa.data=.seq xs.toArray n) (hb:s.heap.get? b=some ob) (db:ob.data=.seq ys.toArray m) (dx:aT G [] vs xs) (dy:aT G [] us ys) (ck:ia E vs us)
  (he:∀x y u v,E x y->aY G [] x u->aY G [] y v->qj A s u v (e x y)) (hk:k=.eq->e=g) (hg:k≠.eq->∀x y u v,E x y->aY G [] x u->aY G [] y v->jv A s k u v (g x y)) (h:P (.done (.ret (.bool (gH k e g vs us)))) s):wpAny MM A (HH k (.ref a) (.ref b)) P E' s:=by
 cases k with
 |eq=>
  refine kX (fin:=λb=>⟨some (.done (.ret (.bool b))),⟨⟩⟩) hi ha da hb db dx dy ck h rfl rfl (λ_ _=>rfl) (λ_ _ _=>rfl) λx y u v c du dv Q h1 h2=>ae (he x y u v c du dv ?_)
  cases hc:e x y with
  |true=>exact ah (h1 hc)
  |false=>
   have h2:=h2 hc
   rw[<-hk rfl,hc] at h2
   exact ae (ah (ah h2))
 |lt=>
  refine kX (fin:=λb=>⟨some (.done (.ret (.bool b))),⟨⟩⟩) hi ha da hb db dx dy ck h rfl rfl (λ_ _=>rfl) (λ_ _ _=>rfl) λx y u v c du dv Q h1 h2=>ae (he x y u v c du dv ?_)
  cases hc:e x y with
  |true=>exact ah (h1 hc)
  |false=>exact ae (wpAny_rule (ae (hg (λh=>nomatch h) x y u v c du dv (ae (ah (ah (h2 hc)))))))
 |gt=>
  refine kX (fin:=λb=>⟨some (.done (.ret (.bool b))),⟨⟩⟩) hi ha da hb db dx dy ck h rfl rfl (λ_ _=>rfl) (λ_ _ _=>rfl) λx y u v c du dv Q h1 h2=>ae (he x y u v c du dv ?_)
  cases hc:e x y with
  |true=>exact ah (h1 hc)
  |false=>exact ae (wpAny_rule (ae (hg (λh=>nomatch h) x y u v c du dv (ae (ah (ah (h2 hc)))))))
theorem ft {a:Addr} {xs:Array Value} {n:Nat} {dx:Option Addr} (h:s.heap.get? a=some (dW (.type "tuple") xs n dx)):s.TypeIs (.ref a) "tuple":=⟨_,h,rfl⟩
theorem AX {a b:UInt64} {i j:Tok} {Q:Bool->Shared->Prop} (hb:NoneBooked s.heap) (hi:i≠0) (hj:j≠0) (e:i=j->a=b) (h1:a=b->∀c,Q c s) (h2:a≠b->Q false s):wpAny MM A (isSame (.float a i) (.float b j)) Q E' s:=by
 show wpAny MM A (isSame.created (a==b&&!Float64.isNaN a) i j) Q E' s
 unfold isSame.created
 refine wpAny_ite ?_
 rw[if_neg (by rw[beq_eq_false_iff_ne.mpr hi,beq_eq_false_iff_ne.mpr hj];exact au)]
 refine wpAny_ite ?_
 by_cases ht:i=j
 ·rw[if_pos (beq_iff_eq.mpr ht)]
  exact ah (h1 (e ht) _)
 rw[if_neg λh=>ht (beq_iff_eq.mp h)]
 by_cases hab:a=b
 ·refine wpAny_ite ?_
  split
  ·exact ah (h1 hab _)
  refine ae (wpAny_sharingNotTold_none hb ?_)
  rw[if_neg au]
  refine ae (wpAny_sharingNotTold_none hb ?_)
  rw[if_neg au]
  exact ae (wpAny_rule (ae (wpAny_askSetting (ah (h1 hab _)))))
 ·rw[beq_eq_false_iff_ne.mpr hab,Bool.false_and]
  exact ah (h2 hab)
theorem E4 {a b:UInt64} {i j:Tok} (hb:NoneBooked s.heap) (h:lT a) (hi:i≠0) (hj:j≠0) (e:i=j->a=b):qj A s (.float a i) (.float b j) (Float64.cmp a b==some .eq):=λ{E Q} hq=>by
 have h1:a=b->Q true s:=λab=>by
  subst ab
  rwa [show Float64.cmp a a=some .eq from h] at hq
 unfold eqBool
 try with_reducible refine aM ?_
 show wpAny _ _ (if(Value.float a i==Value.float b j)=true then _ else _) Q E s
 by_cases hab:(Value.float a i==Value.float b j)=true
 ·rw[if_pos hab]
  exact ae (wpAny_rule (ah (h1 (by have:=eq_of_beq hab;injection this))))
 ·rw[if_neg hab]
  refine ae (AX hb hi hj e (λe c=>?_) λe=>ae (PySem.AutoFloatOps.eq_0 (wpAny_truthy_bool hq)))
  cases c with
  |true=>exact ah (h1 e)
  |false=>exact ae (PySem.AutoFloatOps.eq_0 (wpAny_truthy_bool hq))
theorem Fd {a b:Int} {t u:Tok}:jv A s k (.int a t) (.int b u) (HB k a b):=λ{E Q} h=>by
 cases k
 ·exact PyProof.Rows.lt_int h
 ·exact PyProof.Rows.eq_int (by rw[oV];exact h)
 ·exact PyProof.Rows.gt_int h
theorem Fe {a b:List Nat} {t u:Tok}:jv A s k (.str (tx a) t) (.str (tx b) u) (Hv k a b):=λ{E Q} h=>by
 cases k
 ·exact PyProof.Rows.lt_str h
 ·exact PyProof.Rows.eq_str (by rw[jH];exact h)
 ·exact PySem.P.gt_str h
theorem DP {a b:UInt64} {t u:Tok}:jv A s k (.float a t) (.float b u) (Float64.cmp a b==some k):=λ{E Q} h=>by
 cases k
 ·exact PySem.AutoFloatOps.lt_0 h
 ·exact PySem.AutoFloatOps.eq_0 h
 ·exact PySem.AutoFloatOps.gt_0 h
theorem Di {a b:Addr} {n m:Nat} {dx' dy':Option Addr} (hu:A.units<cLine) (ha:s.heap.get? a=some (dW (.type "tuple") xs.toArray n dx')) (hb:s.heap.get? b=some (dW (.type "tuple") ys.toArray m dy')) (dx:aT G [] vs xs) (dy:aT G [] us ys) (ck:ia E vs us)
  (he:∀x y u v,E x y->aY G [] x u->aY G [] y v->qj A.in1 s u v (e x y)) (hk:k=.eq->e=g) (hg:k≠.eq->∀x y u v,E x y->aY G [] x u->aY G [] y v->jv A.in1 s k u v (g x y)):jv A s k (.ref a) (.ref b) (gH k e g vs us):=λ{E' Q} h=>by
 have z:wpAny MM A.in1 (HH k (.ref a) (.ref b)) (λfin s'=>∃v,fin=.done (.ret v)/\v≠.notImplemented/\Q v s') E' s:=
  u0 (λQ hq=>wpAny_isInstance (ft hb) isSubtype_tuple_tuple hq) ha rfl hb rfl dx dy ck he hk hg ⟨_,rfl,(λe=>nomatch e),h⟩
 cases k
 ·exact wpAny_richCompare_same_room (op:=.Lt) (ft ha) (ft hb) F.slot_tuple_lt (wpAny_call_entry F.slot_tuple_lt (ft ha) F.entry_tuple_lt z (F.args_tuple_lt_2 _ _)) hu
 ·exact wpAny_richCompare_same_room (op:=.Eq) (ft ha) (ft hb) F.slot_tuple_eq (wpAny_call_entry F.slot_tuple_eq (ft ha) F.entry_tuple_eq z (F.args_tuple_eq_2 _ _)) hu
 ·exact wpAny_richCompare_same_room (op:=.Gt) (ft ha) (ft hb) F.slot_tuple_gt (wpAny_call_entry F.slot_tuple_gt (ft ha) F.entry_tuple_gt z (F.args_tuple_gt_2 _ _)) hu
theorem D0 {a b:Addr} {c:Bool} (h1:a=b->c=true) (h:jv A s .eq (.ref a) (.ref b) c):qj A s (.ref a) (.ref b) c:=λ{E Q} hq=>by
 unfold eqBool
 try with_reducible refine aM ?_
 show wpAny _ _ (if(Value.ref a==Value.ref b)=true then _ else _) Q E s
 by_cases hab:(Value.ref a==Value.ref b)=true
 ·rw[if_pos hab]
  rw[h1 (by have:=eq_of_beq hab;injection this)] at hq
  exact ae (wpAny_rule (ah hq))
 ·rw[if_neg hab]
  exact ae (h (wpAny_truthy_bool hq))
end
theorem yj {F:AV->AV->Prop} {O:AV->AV->Bool} (hO:∀x y u,F x y->aY G [] x u->aY G [] y u->O x y=true):∀{xs ys:List AV} {us:List Value},ia F xs ys->aT G [] xs us->aT G [] ys us->gH .eq O O xs ys=true:=by
 intro xs
 induction xs with
 |nil=>exactλ{ys us} _ d k=>d.nilE (X:=λus=>aT G [] ys us->_) (λk=>by cases ys with|nil=>rfl|cons _ _=>exact absurd k.length (Nat.succ_ne_zero _)) k
 |cons x xs ih=>
  intro ys us e d k
  cases ys with
  |nil=>exact absurd (k.length.trans d.length.symm) (Nat.succ_ne_zero _∘Eq.symm)
  |cons y ys=>
   obtain⟨u,us,rfl,d,ds⟩:=d.inv
   obtain⟨_,_,e2,k,ks⟩:=k.inv
   cases e2
   rw[kT,if_pos (hO x y u e.1 d k)]
   exact ih e.2 ds ks
section
variable {F:AV->AV->Prop} {O:Ordering->AV->AV->Bool}
theorem step_same {h:Heap} (hG:∀a o,G a o->h.get? a=some o) (same:∀x y u,F x y->aY G [] x u->aY G [] y u->O .eq x y=true) (x y:AV) (u:Value) (c:fk F x y) (d1:aY G [] x u) (d2:aY G [] y u):cZ O .eq x y=true:=by
 refine CT (X:=λx y u v=>u=v->cZ O .eq x y=true) c d1 d2 ?_ ?_ ?_ ?_ rfl
 ·intro a b t t' e;injection e with e;exact aR e
 ·intro a b i j t t' e;injection e with e;exact aR (nP.mp e)
 ·intro a b i j h1 _ _ _ _ e
  injection e with e
  subst e
  show(Float64.cmp a a==some .eq)=true
  rw[show Float64.cmp a a=some .eq from h1];rfl
 ·intro xs ys a b us vs n m dx dy g g' du dv c1 _ _ e
  injection e with e
  subst e
  have e:=(hG _ _ g).symm.trans (hG _ _ g')
  injection e with e
  injection e with _ _ e
  injection e with e
  have e3:us=vs:=by simpa using e
  subst e3
  exact yj same c1 du dv
variable {A:Around} {s:Shared}
theorem sC (hb:NoneBooked s.heap) (hG:∀a o,G a o->s.heap.get? a=some o) (hu:A.units<cLine) (same:∀x y u,F x y->aY G [] x u->aY G [] y u->O .eq x y=true)
  (ih:∀x y u v,F x y->aY G [] x u->aY G [] y v->(∀k,jv A.in1 s k u v (O k x y))/\qj A.in1 s u v (O .eq x y)) {x y:AV} {u v:Value} (c:fk F x y) (d1:aY G [] x u) (d2:aY G [] y v):(∀k,jv A s k u v (cZ O k x y))/\qj A s u v (cZ O .eq x y):=by
 refine CT c d1 d2 ?_ ?_ ?_ ?_
 ·exactλa b t t'=>⟨λk=>Fd,λ{E Q} hq=>wpAny_eqBool_int (by rw[oV];exact hq)⟩
 ·exactλa b i j t t'=>⟨λk=>Fe,λ{E Q} hq=>eqBool_str (by rw[jH];exact hq)⟩
 ·exactλa b i j h1 h2 h3 h4 h5=>⟨λk=>DP,E4 hb h1 h3 h4 h5⟩
 ·intro xs ys a b us vs n m dx dy g g' du dv c1 c2 c3
  have z:∀k,jv A s k (.ref a) (.ref b) (gH k (O .eq) (O k) xs ys):=λk=>Di hu (hG _ _ g) (hG _ _ g') du dv c1 (λx y u v c d1 d2=>(ih x y u v c d1 d2).2) (λe=>e▸rfl) λ_ x y u v c d1 d2=>(ih x y u v c d1 d2).1 k
  refine⟨z,D0 (λe=>?_) (z .eq)⟩
  subst e
  exact step_same hG same (.tup (.type "tuple") xs) (.tup (.type "tuple") ys) (.ref a) ⟨rfl,rfl,c1,c2,c3⟩ (.tup _ _ _ _ _ _ g du) (.tup _ _ _ _ _ _ g' dv)
theorem AU {h:Heap} (hG:∀a o,G a o->h.get? a=some o) (d:Nat):∀(x y:AV) (u:Value),dK d x y->aY G [] x u->aY G [] y u->jO d .eq x y=true:=by
 induction d with
 |zero=>exact step_same hG λ_ _ _ h=>h.elim
 |succ d ih=>exact step_same hG ih
theorem jC (hb:NoneBooked s.heap) (hG:∀a o,G a o->s.heap.get? a=some o) (d:Nat):∀{A:Around},A.units+d<cLine->∀(x y:AV) (u v:Value),dK d x y->aY G [] x u->aY G [] y v->(∀k,jv A s k u v (jO d k x y))/\qj A s u v (jO d .eq x y):=by
 induction d with
 |zero=>exactλhu x y u v=>sC hb hG hu (λ_ _ _ h=>h.elim) λ_ _ _ _ h=>h.elim
 |succ d ih=>exactλ{A} hu x y u v=>sC hb hG (aJ (aQ ..) hu) (AU hG d) (ih (A:=A.in1) (by show A.units+_+d<_;omega))
end
end
structure Hs (K:Frag):Prop where
 iter:findIn K (.ref 192) "__iter__"=some (some (.builtin "tuple.__iter__"))
 item:findIn K (.ref 192) "__getitem__"=some (some (.builtin "tuple.__getitem__"))
 lt:findIn K (.ref 192) "__lt__"=some (some (.builtin "tuple.__lt__"))
 len:findIn K (.ref 192) "__len__"=some (some (.builtin "tuple.__len__"))
 sub:subIn K (.ref 192) (.type "tuple")=some true
 deq:subIn K (.ref 192) (.type "collections.deque")=some false
 init:findIn K (.ref 192) "__init__"=some (some (.builtin "object.__init__"))
 made:∀S,peek K S (Bind.madeHere "tuple.__new__" (.ref 192))=some ()
 typ:∀S,peek K S (isType (.ref 192))=some true
 check:∀S (b:Value),peek K S (checkBuiltinCall "tuple.__new__" ⟨[.ref 192,b],[]⟩)=some ()
 del:∀S,peek K S (classHasDel 192)=some false
theorem LA (P:Params):Hs (KM P):=⟨by kernel_rfl,by kernel_rfl,by kernel_rfl,by kernel_rfl,by kernel_rfl,by kernel_rfl,by kernel_rfl,λ_=>by kernel_rfl,λ_=>by kernel_rfl,λ_ _=>by kernel_rfl,λ_=>by kernel_rfl⟩
theorem iZ:Hs K0:=LA _
section
variable {A:Around} {E:Value->Shared->Prop} {s:Shared}
noncomputable def SeqAt (h:Heap) (t:Addr) (items:Array Value):Prop:=∃o n,h.get? t=some o/\o.data=.seq items n
theorem SeqAt.keep {h h':Heap} {t:Addr} {items:Array Value} (x:SeqAt h t items) (k:∀o,h.get? t=some o->h'.get? t=some o):SeqAt h' t items:=x.imp λo x=>x.imp λn x=>⟨k o x.1,x.2⟩
theorem lG {α:Type} {P:α->Shared->Prop} (hh:A.handled=none) (h:∀e h',(∀b o,s.heap.get? b=some o->h'.get? b=some o)->(∃o,h'.get? e=some o/\o.cls=.type "StopIteration")->E (.ref e) {s with heap:=h'}):wpAny MM A (do raiseNew (<-newExc (.type "StopIteration") [])) P E s:=by
 refine ae ?_
 simp only[newExc,newTuple]
 refine ae (wpAny_newObj_type ?_ (by size_fits))
 refine ae (m:=firstArgMember _ _) (wpAny_of_eq (a:=Value.none) (by first|rfl|(simp only[firstArgMember];rfl)) ?_)
 refine wpAny_newObj_type ?_ (by size_fits)
 simp only[raiseNew]
 refine ae (wpAny_handled ?_)
 rw[hh]
 exact ae (ah (wpAny_throw (h _ _ (λb o e=>aD _ (aD _ e)) ⟨_,a8 _ rfl,rfl⟩)))
theorem kM {e:Addr} {s':Shared} {Q:Option Value->Shared->Prop} {o:Obj} (ho:s'.heap.get? e=some o) (hc:o.cls=.type "StopIteration") (h:Q none s'):wpAny MM A (do let b<-isInstance (.ref e) (.type "StopIteration");if b then pure none else throw (.ref e)) Q E s':=
 ae (wpAny_isInstance (T:="StopIteration") (b:=true) ⟨_,ho,hc⟩ isSubtype_stop (ah h))
noncomputable abbrev j8 (t:Addr) (i:Nat):Obj:={cls:=.type "tuple_iterator",data:=.fields #[.ref t,.int i 0]}
theorem uH {it t:Addr} {i:Nat} {items:Array Value} {Q:Option Value->Shared->Prop} (hh:A.handled=none) (hit:s.heap.get? it=some (j8 t i)) (ht:SeqAt s.heap t items)
  (h1:∀x,items[i]? =some x->∀h',h'.get? it=some (j8 t (i+1))->Heap.SameBut it s.heap h'->Q (some x) {s with heap:=h'}) (h2:items[i]? =none->∀h',Heap.ExtBut it s.heap h'->Q none {s with heap:=h'}):wpAny MM A (pyNext (.ref it)) Q E s:=by
 have ty:s.TypeIs (.ref it) "tuple_iterator":=⟨_,hit,rfl⟩
 obtain⟨ol,nl,hol,hdl⟩:=ht
 unfold pyNext
 refine ae (wpAny_attempt (wpAny_callSpecial?_slot (name:=Str.ofString "__next__") ty F.slot_tuple_iterator_next (wpAny_call_entry F.slot_tuple_iterator_next ty F.entry_tuple_iterator_next ?_ (F.args_tuple_iterator_next_1 _))))
 show wpAny _ _ (field (.ref it) 0>>=_) _ _ s
 refine ae (wpAny_field hit rfl (x:=.ref t) rfl ?_)
 rw[if_neg (show¬((Value.ref t==Value.none)=true) from au)]
 show wpAny _ _ (field (.ref it) 1>>=_) _ _ s
 refine ae (wpAny_field hit rfl (x:=.int i 0) rfl ?_)
 show wpAny _ _ (seqItems? (.ref t)>>=_) _ _ s
 refine ae (m:=seqItems? (.ref t)) (wpAny_seqItems hol hdl ?_)
 simp only[Int.toNat_natCast]
 cases hx:items[i]? with
 |some x=>exact ae (wpAny_setField hit rfl (Nat.lt_succ_self 1) (ah ⟨x,rfl,ah (h1 x hx _ (Heap.get?_update_self _ hit rfl) (bl ..))⟩))
 |none=>
  refine ae (wpAny_rule (ae (wpAny_setField hit rfl Nat.zero_lt_two ?_)))
  refine lG (A:=A.in1) hh λe h' hk ho=>ho.elim λo ho=>kM ho.1 ho.2 (h2 hx _ λb o hb e=>hk _ _ (((bl ..).2 b hb).trans e))
theorem uv {it t:Addr} {items:Array Value} (hh:A.handled=none) (hne:t≠it):∀(n i:Nat) (s:Shared) (Q:List Value->Shared->Prop),s.heap.get? it=some (j8 t i)->SeqAt s.heap t items->i+n<=items.size->
  (∀h',h'.get? it=some (j8 t (i+n))->Heap.SameBut it s.heap h'->Q ((items.toList.drop i).take n) {s with heap:=h'})->wpAny MM A (draw (.ref it) n) Q E s
 |0,i,s,Q,hit,_,_,hQ=>ah (hQ s.heap hit (Heap.SameBut.refl ..))
 |n+1,i,s,Q,hit,ht,hle,hQ=>by
  have hlt:i<items.size:=aP (Nat.lt_add_of_pos_right (Nat.succ_pos n)) hle
  refine ae (m:=pyNext (.ref it)) (uH hh hit ht (λx hx h₁ hit₁ hs₁=>?_) λhx=>absurd hx (by rw[Array.getElem?_eq_getElem hlt];exactλh=>nomatch h))
  rw[Array.getElem?_eq_getElem hlt] at hx
  cases hx
  refine ae (aM (uv hh hne n (i+1) _ _ hit₁ (ht.keep λo e=>hs₁.extBut t o hne e) (by rw[Nat.add_right_comm];exact hle) λh₂ hit₂ hs₂=>ah ?_))
  have:=hQ h₂ (by rw[Nat.add_right_comm] at hit₂;exact hit₂) (hs₁.trans hs₂)
  rwa [List.drop_eq_getElem_cons (l:=items.toList) (i:=i) hlt,List.take_succ_cons] at this
section
variable (X:K0.In s.heap) {a:Addr} {o:Obj} (ho:s.heap.get? a=some o) (hc:o.cls=.ref 192)
include X ho hc
theorem eZ {M:Model} {n:Str} {r:Option Value} (e:findIn K0 (.ref 192) n=some r):Looks M s.heap (specialOf (.ref a) n) r:=by
 unfold specialOf
 refine((Looks.ld (part:=none) ho).andThen .now).andThen ?_
 rw[hc];exact looks_findIn X e
theorem jD {M:Model}:Looks M s.heap (isInstance (.ref a) (.type "tuple")) true:=by
 unfold isInstance
 refine((Looks.ld (part:=none) ho).andThen .now).andThen ?_
 rw[hc];exact looks_subIn X iZ.sub
end
theorem lH {id n:String} {b:Builtin} {a:Addr} {rest:List Value} {Q:Value->Shared->Prop} (hs:Slot "tuple" (Str.ofString n) id) (he:entryFor table id=some b) (hk:builtinKind id=some .slot) (hsp:splitId id=some ("tuple",n)) (hi:Looks MM s.heap (isInstance (.ref a) (.type "tuple")) true) (ha:argsOk id ⟨.ref a::rest,[]⟩) (h:wpAny MM A.in1 (b ⟨.ref a::rest,[]⟩) (λfin s'=>∃v,fin=.done (.ret v)/\Q v s') E s):wpAny MM A (call (.builtin id) (.ref a::rest)) Q E s:=
 wpAny_call (codeAny_call_builtin hs.plain he (check_slot hk hsp hi ha (wpAny_mono h (λfin s' h=>by obtain⟨v,rfl,h⟩:=h;exact h) λ_ _ h=>h)))
theorem qf {id:String} {n:Str} {a:Addr} {rest:List Value} {Q:Option Value->Shared->Prop} (hs:Slot "tuple" n id) (sp:Looks MM s.heap (specialOf (.ref a) n) (some (.builtin id))) (h:wpAny MM A (call (.builtin id) (.ref a::rest)) (λv s'=>Q (some v) s') E s):wpAny MM A (callSpecial? (.ref a) n rest) Q E s:=by
 simp only[callSpecial?]
 refine ae (sp.here ?_)
 refine aM ?_
 simp only[hs.bind]
 refine ae (ah ?_)
 exact ae (wpAny_mono h (λv s' h=>ah h) λ_ _ h=>h)
theorem FY (a:Addr):Builtin.«tuple.__iter__» ⟨[.ref a],[]⟩=(do ret (<-newFields "tuple_iterator" [.ref a,rawInt 0])):=rfl
theorem Ek (X:K0.In s.heap) {a:Addr} {o:Obj} (ho:s.heap.get? a=some o) (hc:o.cls=.ref 192) {Q:Value->Shared->Prop} (h:Q (.ref s.heap.objs.size) {s with heap:=s.heap.push (j8 a 0)}):wpAny MM A (pyIter (.ref a)) Q E s:=by
 have sp:=eZ X ho hc (M:=MM) iZ.iter
 have hi:=jD X ho hc (M:=MM)
 have run:∀Q',Q' (.ref s.heap.objs.size) {s with heap:=s.heap.push (j8 a 0)}->wpAny MM A (call (.builtin "tuple.__iter__") [.ref a]) Q' E s:=λQ' hq=>
  lH F.slot_tuple_iter F.entry_tuple_iter (by decide+kernel) (by decide+kernel) hi (F.args_tuple_iter_1 _) (by rw[FY];exact ae (wpAny_newObj_type (ah ⟨_,rfl,hq⟩)))
 have nx:(⟨s.heap.push (j8 a 0),s.gens,s.drawn,s.toks,s.os⟩:Shared).TypeIs (.ref s.heap.objs.size) "tuple_iterator":=⟨_,a8 _ rfl,rfl⟩
 unfold pyIter
 refine ae (sp.here ?_)
 show wpAny _ _ (callSpecialIfBoundUnlessNone? (.ref a) "__iter__" _>>=_) _ _ _
 simp only[callSpecialIfBoundUnlessNone?,bindSpecialIfBound?]
 refine ae (aM (ae (ae (sp.here ?_))))
 simp only[F.slot_tuple_iter.bind]
 refine ae (wpAny_askSetting (wpAny_ite ?_))
 split
 ·refine ae (ah (ah ?_))
  simp only[builtin_beq_none,Bool.false_eq_true,if_false]
  exact ae (run _ (ah (ae (wpAny_specialOf nx F.slot_tuple_iterator_next.lookup (ah h)))))
 ·refine wpAny_tryCatch (ae (ah (ah ?_)))
  simp only[builtin_beq_none,Bool.false_eq_true,if_false]
  exact ae (run _ (ah (ae (wpAny_specialOf nx F.slot_tuple_iterator_next.lookup (ah h)))))
end
section
variable {D:Nat} {C:Cx} {st:St} {P:PV} {Q:Value->Shared->Prop}
theorem fD {r:RS C st} {h':Heap} {k:∀b o,r.s.heap.get? b=some o->h'.get? b=some o} {t:Nat} {ht:r.s.toks<=t}:Le r (r.keeps k t ht):=⟨aw,λ_ h=>h,rfl⟩
theorem RS.k0 (r:RS C st) (H:CxB D C):K0.In r.s.heap:=H.kin.keeps r.fr.keep
theorem sP {vs:List AV} {P:List AV->Prop} (h:P vs):mH (.tup (.ref 192) vs) st P:=⟨λ{D C} H r {u n Q} d hn k=>d.tupE λa xs nn dx g d=>by
 have ho:=r.gGet g
 have X:=r.k0 H
 have hl:xs.length=n:=by rw[<-d.length];exact hn vs h
 have hlt:a≠r.s.heap.objs.size:=aW (ba ho)
 unfold unpackItems notIterableAtAll
 refine ae (ae ((eZ X ho rfl iZ.iter).here (ah ?_)))
 simp only[Bool.false_eq_true,if_false]
 refine ae (aM (Ek X ho rfl ?_))
 refine ae (aM (uv H.hh hlt n 0 _ _ (a8 _ rfl) ⟨_,_,aD _ ho,rfl⟩ (by rw[Nat.zero_add,ay,hl];exact ak _) λh₁ hit₁ hs₁=>?_))
 have hall:List.take n (List.drop 0 xs.toArray.toList)=xs:=by rw[<-hl,List.drop_zero];exact List.take_length
 rw[hall,if_neg (by rw[hl];exact Nat.lt_irrefl _)]
 refine ae (aM (uH H.hh hit₁ ⟨_,_,hs₁.extBut a _ hlt (aD _ ho),rfl⟩ (λx hx=>?_) λ_ h₂ he₂=>?_))
 ·rw[Nat.zero_add,bb,List.getElem?_eq_none (Nat.le_of_eq hl)] at hx;cases hx
 ·simp only[Option.isSome_none,Bool.false_eq_true,if_false]
  refine ah (k (r.keeps (h':=h₂) (λb o e=>?_) r.s.toks (ak _)) vs xs fD h (d.mono (λ_ _ g=>g) List.nil_prefix))
  have hbn:b≠r.s.heap.objs.size:=aW (ba e)
  exact he₂ b o hbn (hs₁.extBut b o hbn (aD _ e))⟩
theorem u6 {vs:List AV} (hl:vs.length<=100) (h:P (.tup (.ref 192) vs) st):cj (.builtin "tuple.__new__") [.val (.ref 192),.tup (.type "tuple") vs] [] st P:=⟨λ{D C} H r {us ku Q} d dk k=>
 dk.nilE (d.two λx y d1 d2=>d1.valE (d2.tupE λa xs nn dx g dxs=>by
  have ho:=r.gGet g
  have X:=r.k0 H
  have hs:xs.toArray.size<=sizeLine:=mX dxs (ag hl (by decide))
  refine wpAny_call (codeAny_call_builtin (by decide+kernel) F.entry_tuple_new ((Looks.of_peek X (iZ.check _ (.ref a))).here ?_))
  unfold Builtin.«tuple.__new__»
  refine ae ((Looks.of_peek X (iZ.typ _)).here ?_)
  simp only[Bool.not_true,Bool.false_eq_true,if_false]
  refine ae ((looks_subIn X iZ.sub).here ?_)
  simp only[Bool.not_true,Bool.false_eq_true,if_false]
  refine ae ((Looks.of_peek X (iZ.made _)).here ?_)
  refine ae ((looks_findIn X iZ.init).here ?_)
  rw[if_pos (by decide+kernel)]
  refine ae (m:=noKeywords _ _) (ah (ae (m:=checkCount _ _ _ _) (ah ?_)))
  rw[if_neg (by decide)]
  refine ae (wpAny_collect_seq a (.inr rfl) ho rfl rfl (λh' hk'=>ae (ah (ae (wpAny_alloc ?_)))) hs)
  refine ae ?_
  unfold newObj
  dsimp only
  rw[if_neg (Nat.not_lt.mpr hs)]
  unfold newObjAsIs
  refine ae (wpAny_alloc ?_)
  dsimp only
  have k2:∀b o,r.s.heap.get? b=some o->(h'.push {cls:=.type "dict",data:=.dict #[]}).get? b=some o:=λb o e=>aD _ (hk' b o e)
  refine ae ((Looks.of_peek ((X.keeps k2).keeps λb o e=>aD _ e) (iZ.del _)).here ?_)
  simp only[Bool.false_eq_true,if_false]
  exact ah (ah (k ((r.keeps k2 r.s.toks (ak _)).pushI (dW (.ref 192) xs.toArray 0 (some h'.objs.size)) rfl) _ _ ((fD (k:=k2) (ht:=ak _)).trans (RS.imm_le _)) h (.tup _ _ _ xs 0 (some h'.objs.size) (.inr (.head _)) (dxs.mono (λ_ _ g=>g.imp_right (.tail _)) aw))))))⟩
theorem J4 {vs:List AV} (hl:vs.length<=100000) (h:P (.int vs.length) st):cj (.builtin "len") [.tup (.ref 192) vs] [] st P:=⟨λ{D C} H r {us ku Q} d dk k=>
 dk.nilE (d.one λx d=>d.tupE λa xs nn dx g dxs=>by
  have ho:=r.gGet g
  have X:=r.k0 H
  refine call_function_entry kind_len plain_len entry_len (args_len1 _) ?_
  unfold Builtin.«len»
  refine ae (m:=oneArg "len" _) (ah ?_)
  refine ae (m:=callSpecial? (.ref a) (Str.ofString "__len__")) (qf F.slot_tuple_len (eZ X ho rfl iZ.len) (lH F.slot_tuple_len F.entry_tuple_len (by decide+kernel) (by decide+kernel) (jD X ho rfl) (F.args_tuple_len_1 _) ?_))
  show wpAny _ _ (do retInt (<-Builtin.Tuple.tupleItemsOf (.ref a)).size) _ _ _
  refine ae (wpAny_tupleItemsOf ho rfl ?_)
  refine ae (wpAny_mkInt (ah ⟨_,rfl,?_⟩))
  refine ae (aM (ah ?_))
  refine ae (wpAny_letGo ?_)
  rw[if_neg (Int.not_lt.mpr (aU _)),if_neg (Int.not_le.mpr (wG dxs hl))]
  refine ae (wpAny_mkInt (ah ?_))
  rw[ay,<-dxs.length]
  exact⟨_,rfl,k.int h _ (aQ _ 2)⟩)⟩
theorem DY {s:Shared} {A:Around} {E:Value->Shared->Prop} (X:K0.In s.heap) {a:Addr} {x0 x1 x2:Value} {n:Nat} {dx:Option Addr} (ho:s.heap.get? a=some (dW (.ref 192) #[x0,x1,x2] n dx)) {t:Tok} {y:Str} {p:Pos} {slice:Expr} (hs:subscripted slice false (.ref a) (.int (-1) t)=operate [.ref a,.int (-1) t] (getItem (.ref a) (.int (-1) t)))
  (h:Q x2 s):wpAny MM A (subscriptTail (.Name y p) slice (.ref a) (.int (-1) t)) Q E s:=by
 have sp:=eZ X ho rfl (M:=MM) iZ.item
 unfold subscriptTail getitemInPython
 refine ae (ae (sp.here (ah ?_)))
 rw[hs]
 refine ae (wpAny_operating (wpAny_mono (Q:=λv s'=>v=x2/\s'=s) ?_ (λr s₃ h₃=>?_) λ_ _ x=>x))
 ·unfold getItem
  refine aM ?_
  have L0:Looks MM s.heap (typeOf (.ref a)) (.ref 192):=(Looks.ld (part:=none) ho).andThen .now
  refine ae ?_
  unfold sequenceKey
  refine ae (L0.here ?_)
  refine ae ((anyM_none X (C:=192) (l:=seqItemTypes) (by show(subIn K0 (.ref 192) (.type "collections.deque")==some false&&true)=true;rw[iZ.deq];rfl)).here ?_)
  refine ah ?_
  refine ae (qf F.slot_tuple_getitem sp (lH F.slot_tuple_getitem F.entry_tuple_getitem (by decide+kernel) (by decide+kernel) (jD X ho rfl) (F.args_tuple_getitem_2 _ _) ?_))
  unfold Builtin.«tuple.__getitem__»
  show wpAny _ _ (Builtin.Tuple.tupleItemsOf (.ref a)>>=_) _ _ s
  refine ae (m:=Builtin.Tuple.tupleItemsOf (.ref a)) (wpAny_tupleItemsOf ho rfl ?_)
  refine ae (m:=typeOf (.int (-1) t)) (wpAny_typeOf (typeIs_int s (-1) t) ?_)
  rw[if_neg (by decide)]
  refine ae (wpAny_specialOf (name:=Str.ofString "__index__") (typeIs_int s (-1) t) F.slot_int_index.lookup ?_)
  exact ah ⟨_,rfl,ah ⟨rfl,rfl⟩⟩
 ·obtain⟨rfl,rfl⟩:=h₃
  exact ae (ah (ah h))
end
noncomputable def mY {α:Type} (lt:Nat->Nat->Bool):KasT α->α
 | .ret a=>a
 | .ask i j k=>mY lt (k (lt i j))
noncomputable def zN {α:Type} (n:Nat):KasT α->Bool
 | .ret _=>true
 | .ask i j k=>(Nat.blt i n&&Nat.blt j n)&&(zN n (k true)&&zN n (k false))
theorem Dl {α:Type} {cmp:Nat->Nat->(Bool->Shared->Prop)->Shared->Prop} {lt:Nat->Nat->Bool} {n:Nat} {Q:α->Shared->Prop} {s:Shared} (hc:∀i j,i<n->j<n->∀C:Bool->Shared->Prop,C (lt i j) s->cmp i j C s) (t:KasT α):zN n t=true->Q (mY lt t) s->t.kasWp cmp Q s:=by
 induction t with
 |ret a=>exactλ_ h=>h
 |ask i j k ih=>
  intro e h
  have e1:=Bool.and_eq_true_iff.mp (aE e)
  refine hc i j (aa e1.1) (aa e1.2) _ (ih (lt i j) ?_ h)
  cases lt i j
  ·exact aA (aA e)
  ·exact aE (aA e)
noncomputable def pz (lt:AV->AV->Bool) (as:List AV):List AV:=if as.length<2 then as else(mY (λi j=>lt (as.getD i .none) (as.getD j .none)) (kas_sort as.length)).toList.map λi=>as.getD i .none
noncomputable def cR (b:Bool) (lt:AV->AV->Bool) (as:List AV):List AV:=katRev b (pz lt (katRev b as))
noncomputable def lQ (a:Addr) (b:Bool):Sem PySem.Fin:=Builtin.«list.sort» ⟨[.ref a],[(Str.ofString "reverse",.bool b)]⟩
theorem GY (a:Addr):Builtin.«list.sort» ⟨[.ref a],[]⟩=lQ a false:=(list_sort_plain a).trans (list_sort_rev a false).symm
theorem FJ (a:Addr) (b:Bool):Builtin.«list.sort» ⟨[.ref a],[(Str.ofString "key",.none),(Str.ofString "reverse",.bool b)]⟩=lQ a b:=by rfl
section
variable {G:GP} {ρ:List Addr} {vs as:List AV} {xs:List Value} {b:Bool}
theorem aT.getD (d:aT G ρ vs xs):∀i,aY G ρ (vs.getD i .none) (xs.getD i .none):=
 d.ind (λ_=>.none) λ_ _ _ _ d ih i=>i.casesOn d ih
theorem aT.map (d:aT G ρ vs xs) (l:List Nat):aT G ρ (l.map λi=>vs.getD i .none) (l.map λi=>xs.getD i .none):=by
 induction l with
 |nil=>exact .nil
 |cons i l ih=>exact .cons (d.getD i) ih
theorem aT.katRev (d:aT G ρ vs xs):aT G ρ (katRev b vs) (katRev b xs):=b.casesOn d d.reverse
theorem getD_mem {i:Nat} (h:i<as.length):as.getD i .none∈as:=by
 rw[aB,aq h];exact List.getElem_mem h
theorem nJ {α:Type} {l:List α} {x:α}:x∈katRev b l↔x∈l:=by cases b;exact Iff.rfl;exact List.mem_reverse
theorem vT {α:Type} (l:List α):katRev b (katRev b l)=l:=by cases b;rfl;exact List.reverse_reverse l
theorem yw {lt:AV->AV->Bool} (h:as.length<2):cR b lt as=as:=by
 unfold cR pz
 rw[if_pos (by rw[kat_len];exact h),vT]
theorem uK {xs:Array Value}:(xs.zip xs).map (·.2)=xs:=Array.toList_inj.mp (by rw[Array.toList_map,Array.toList_zip];exact List.map_snd_zip (ak _))
theorem Bf:(if b=true then((arrOf (SortSt.mk' general' (if b=true then(xs.toArray.zip xs.toArray).reverse else xs.toArray.zip xs.toArray) #[] 7 none)).map (·.2)).reverse else(arrOf (SortSt.mk' general' (if b=true then(xs.toArray.zip xs.toArray).reverse else xs.toArray.zip xs.toArray) #[] 7 none)).map (·.2))=xs.toArray:=by
 cases b with
 |false=>exact uK
 |true=>
  show(((xs.toArray.zip xs.toArray).reverse).map (·.2)).reverse=_
  rw[Array.map_reverse,Array.reverse_reverse];exact uK
end
section
variable {D:Nat} {C:Cx} {st:St} {P:PV} {Q:Value->Shared->Prop} {i:Nat} {a:Addr} {A:Around} {E:Value->Shared->Prop} {b:Bool} {lt:AV->AV->Bool} {as:List AV} {xs:List Value} {n:Nat}
theorem ur {u v:AO}:(st.put i u).put i v=st.put i v:=by unfold St.put;rw[List.set_set]
theorem CI {r:RS C st} {κ:SortKind} {P:PySem.Fin->Shared->Prop} (e:r.T[i]? =some (a,listOf xs.toArray n)) (dx:r.Ds as xs) (hl:as.length<64) (hin:zN as.length (kas_sort as.length)=true)
  (hk:2<=as.length->∀r1:RS C (st.put i (.list [])),Le r r1->∀Q:SortKind->Shared->Prop,Q κ r1.s->wpAny MM A (keyKind' xs.toArray) Q b9 r1.s)
  (hc:2<=as.length->∀r1:RS C (st.put i (.list [])),Le r r1->∀x y u v,x∈as->y∈as->r1.D x u->r1.D y v->∀Q:Bool->Shared->Prop,Q (lt x y) r1.s->wpAny MM A (keyLt' κ u v) Q b9 r1.s)
  (h:∀{st':St} (r':RS C st'),st'=st.put i (.list (cR b lt as))->Le r r'->P (.done (.ret .none)) r'.s):wpAny MM A (lQ a b) P E r.s:=by
 have ho:=r.get e
 have hlen:=dx.length
 have hfit:xs.toArray.size<=sizeLine:=mX dx (Nat.le_of_lt (aH hl (by decide)))
 obtain⟨e1,ho1⟩:∃e1,(r.s.heap.update a (Obj.mapSeq λ_=>(#[]:Array Value))).get? a=some (listOf #[] e1):=⟨_,get?_update_seq ho λ_=>#[]⟩
 have s1:=bl r.s.heap a (Obj.mapSeq λ_=>(#[]:Array Value))
 have r1:(r1:RS C (st.put i (.list [])))×' (r1.s={r.s with heap:=((r.s.heap.update a (Obj.mapSeq λ_=>(#[]:Array Value))).push (seqObj "tuple" xs.toArray 0)).push (seqObj "list" #[] 0)}/\Le r r1/\r1.T[i]? =some (a,listOf #[] e1)):=
  ⟨(r.upd (v:=.list []) e (r.sameFr (r.tAt e) s1) (r.setNews e s1 ho1) ⟨[],e1,rfl,.nil⟩ r.s.toks (ak _)).keeps (h':=((r.s.heap.update a (Obj.mapSeq λ_=>(#[]:Array Value))).push (seqObj "tuple" xs.toArray 0)).push (seqObj "list" #[] 0)) (λ_ _ e=>aD _ (aD _ e)) r.s.toks (ak _),rfl,
   (RS.upd_le _).trans fD,List.getElem?_set_self (az.mp e).1⟩
 obtain⟨r1,hs1,l1,t1⟩:=r1
 have ho3:=r1.get t1
 have fin:∀out:List Value,r.Ds (cR b lt as) out->P (.done (.ret .none)) {r1.s with heap:=r1.s.heap.update a (Obj.mapSeq λ_=>List.toArray out)}:=λout d=>by
  obtain⟨c2,hc2⟩:∃c2,(r1.s.heap.update a (Obj.mapSeq λ_=>List.toArray out)).get? a=some (listOf (List.toArray out) c2):=⟨_,get?_update_seq ho3 λ_=>List.toArray out⟩
  have s2:=bl r1.s.heap a (Obj.mapSeq λ_=>List.toArray out)
  exact h (r1.upd (v:=.list (cR b lt as)) t1 (r1.sameFr (r1.tAt t1) s2) (r1.setNews t1 s2 hc2) ⟨out,c2,rfl,d.le l1⟩ r1.s.toks (ak _)) ur (l1.trans (RS.upd_le _))
 have step:∀{t:Sem PySem.Fin} {s':Shared},wpAny MM A t P E s'->wpAny MM A (if b=true then(do let _<-rule "list.sort.reverse";t) else t) P E s':=by
  intro t s' ht
  cases b
  ·exact ht
  ·exact ae (wpAny_rule ht)
 unfold lQ
 rw[list_sort_rev]
 refine ae (listItems_at ho rfl ?_)
 refine ae (listUpdate_at ho rfl ?_ hfit (Nat.zero_le _))
 refine ae (seqEpoch_at ho1 rfl ?_)
 refine ae (wpAny_newTuple ?_ (by rw[ay] at hfit;exact hfit))
 refine ae (wpAny_newList ?_ (Nat.zero_le _))
 refine aM ?_
 show wpAny MM A _ P E {r.s with heap:=((r.s.heap.update a (Obj.mapSeq λ_=>(#[]:Array Value))).push (seqObj "tuple" xs.toArray 0)).push (seqObj "list" #[] 0)}
 rw[<-hs1]
 dsimp only
 refine step ?_
 by_cases h2:as.length<2
 ·have hn2:xs.toArray.size<2:=by rw[ay,<-hlen];exact h2
  rw[if_pos hn2,if_pos hn2]
  refine ae (ah ?_)
  rw[StateT.run_pure]
  refine ae (ah ?_)
  dsimp only
  refine ae (seqEpoch_at ho3 rfl ?_)
  rw[yw h2] at fin
  rw[Bf]
  refine ae (listUpdate_at ho3 rfl ?_ (Nat.zero_le _) (Nat.le_succ_of_le hfit))
  simp only[bne_self_eq_false,Bool.false_eq_true,if_false]
  exact ah (fin xs dx)
 ·have h2':=Nat.not_lt.mp h2
  have hn2:¬xs.toArray.size<2:=by rw[ay,<-hlen];exact h2
  rw[if_neg hn2,if_neg hn2]
  refine ae (wpAny_mono (hk h2' r1 l1 (λκ' s'=>κ'=κ/\s'=r1.s) ⟨rfl,rfl⟩) (λκ' s' hk'=>?_) λ_ _ x=>x.elim)
  obtain⟨rfl,rfl⟩:=hk'
  rw[kat_pairs b rfl]
  have dk:=(dx.le l1).katRev (b:=b)
  have hzl:(katRev b xs).length=as.length:=by rw[kat_len,hlen]
  refine ae (wpAny_mono (kat_run (prog:=pw) (w:=W0) (A:=A) (E:=E) (κ:=κ') (ks:=katRev b xs) (vs:=katRev b xs) (s:=r1.s)
   (Q:=λst' s'=>∃p:Array Nat,p.size=(katRev b xs).length/\arrOf st'=p.map (kas_item ((List.toArray (katRev b xs)).zip (List.toArray (katRev b xs))))/\failedOf st'=none/\p=mY (λi j=>lt ((katRev b as).getD i .none) ((katRev b as).getD j .none)) (kas_sort as.length)/\s'=r1.s)
   (G:=λp s'=>p=mY (λi j=>lt ((katRev b as).getD i .none) ((katRev b as).getD j .none)) (kas_sort as.length)/\s'=r1.s)
   rfl (by rw[hzl];exact h2') (by rw[hzl];exact hl) (λp' st' s' a1 a2 a3 a4=>⟨p',a1,a2,a3,a4⟩) (by
    rw[hzl]
    exact Dl (λi j hi hj Cc hcc=>hc h2' r1 l1 _ _ _ _ (nJ.mp (getD_mem (by rw[kat_len];exact hi))) (nJ.mp (getD_mem (by rw[kat_len];exact hj))) (dk.getD i) (dk.getD j) _ hcc) _ hin ⟨rfl,rfl⟩)) ?_ λ_ _ x=>x)
  rintro⟨⟨⟩,st'⟩ s' ⟨p,hp,har,hf,hpe,rfl⟩
  dsimp only
  refine ae (seqEpoch_at ho3 rfl ?_)
  rw[kat_snds rfl har,kat_outs]
  have hsz:(List.toArray (katRev b (p.toList.map λi=>(katRev b xs).getD i Value.none))).size=as.length:=by
   rw[ay,kat_len,ai,Array.length_toList,hp,hzl]
  refine ae (listUpdate_at ho3 rfl ?_ (Nat.zero_le _) (by rw[hsz,hlen,<-ay];exact Nat.le_succ_of_le hfit))
  rw[hf]
  simp only[bne_self_eq_false,Bool.false_eq_true,if_false]
  refine ah (fin _ ?_)
  unfold cR pz
  rw[if_neg (by rw[kat_len];exact h2),kat_len,<-hpe]
  exact((dx.katRev (b:=b)).map _).katRev
end
noncomputable def lj (as:List AV) (lt:AV->AV->Bool):Prop:=as.length<6/\(2<=as.length->∃κ:SortKind,∀{D:Nat} {C:Cx} (H:CxB D C) {st:St} (r:RS C st) {A:Around},A.units+20<cLine->
 (∀xs,r.Ds as xs->∀Q:SortKind->Shared->Prop,Q κ r.s->wpAny MM A (keyKind' xs.toArray) Q b9 r.s)/\
 (∀x y u v,x∈as->y∈as->r.D x u->r.D y v->∀Q:Bool->Shared->Prop,Q (lt x y) r.s->wpAny MM A (keyLt' κ u v) Q b9 r.s))
theorem xt:∀n,n<6->zN n (kas_sort n)=true:=by decide+kernel
noncomputable def tF (kws:List (Str×AV)) (b:Bool):Prop:=(kws=[]/\b=false)∨kws=[(Str.ofString "reverse",AV.bool b)]∨kws=[(Str.ofString "key",AV.none),(Str.ofString "reverse",AV.bool b)]
@[elab_as_elim] theorem bL.consE {κ κ':Type} {f:κ->κ'} {G:GP} {ρ:List Addr} {k:κ} {v:AV} {kvs:List (κ×AV)} {xs:List (κ'×Value)} (d:bL f G ρ ((k,v)::kvs) xs) {X:List (κ'×Value)->Prop} (h:∀u xs,aY G ρ v u->bL f G ρ kvs xs->X ((f k,u)::xs)):X xs:=by
 cases d with
 |cons d ds=>exact h _ _ d ds
section
variable {D:Nat} {C:Cx} {st:St} {P:PV} {Q:Value->Shared->Prop} {i:Nat} {a:Addr} {A:Around} {b:Bool} {lt:AV->AV->Bool} {as:List AV} {xs:List Value} {n:Nat}
theorem uW {G:GP} {ρ:List Addr} {kws:List (Str×AV)} {ku:List (Str×Value)} (h:tF kws b) (d:bL (λx=>x) G ρ kws ku):(∀a:Addr,Builtin.«list.sort» ⟨[.ref a],ku⟩=lQ a b)/\(∀a:Value,argsOk "list.sort" ⟨[a],ku⟩)/\(∀a:Value,argsOk "sorted" ⟨[a],ku⟩):=by
 rcases h with⟨rfl,rfl⟩|rfl|rfl
 ·exact d.nilE ⟨GY,args_list_sort,args_sorted1⟩
 ·exact d.consE λu xs d ds=>ds.nilE (d.boolE ⟨λa=>rfl,λa=>args_list_sort_rev a _,λa=>args_sorted_rev a _⟩)
 ·exact d.consE λu xs d ds=>ds.consE λu2 xs d2 ds=>ds.nilE (d.noneE (d2.boolE ⟨λa=>FJ a b,λa=>ksk_l2 a _ _,λa=>ksk_s2 a _ _⟩))
theorem uI {r:RS C st} {E:Value->Shared->Prop} {P:PySem.Fin->Shared->Prop} (H:CxB D C) (hu:A.units+20<cLine) (e:r.T[i]? =some (a,listOf xs.toArray n)) (dx:r.Ds as xs) (ok:lj as lt) (h:∀{st':St} (r':RS C st'),st'=st.put i (.list (cR b lt as))->Le r r'->P (.done (.ret .none)) r'.s):wpAny MM A (lQ a b) P E r.s:=by
 have hl:as.length<64:=aH ok.1 (by decide)
 have hi:=xt _ ok.1
 by_cases h2:2<=as.length
 ·obtain⟨κ,hκ⟩:=ok.2 h2
  exact CI (κ:=κ) e dx hl hi (λ_ r1 l1=>(hκ H r1 hu).1 xs (dx.le l1)) (λ_ r1 l1=>(hκ H r1 hu).2) h
 ·exact CI (κ:=general') e dx hl hi (λh=>absurd h h2) (λh=>absurd h h2) h
theorem gu (H:CxB D C) {k:Nat} (h:k<50):C.A.units+k<cLine:=aP (Nat.add_lt_add_left h _) (ag (Nat.add_le_add_right (aQ ..) _) (Nat.le_of_lt H.un))
theorem Cs (as:List AV) (lt:AV->AV->Bool) (b:Bool) {kws:List (Str×AV)} (e:st.at i=some (.list as)) (hk:tF kws b) (ok:lj as lt) (h:P .none (st.put i (.list (cR b lt as)))):cj (.builtin "list.sort") [.ref i] kws st P:=⟨λ{D C} H r {us ku Q} d dk k=>
 d.one λx d=>RS.listE r (X:=λx=>WP C (call (.builtin "list.sort") [x] ku) Q r.s) d e λa xs n ht dx=>by
  obtain⟨h1,h2,h3⟩:=uW hk dk
  refine wpAny_call_entry_kw slot_list_sort ⟨_,r.get ht,rfl⟩ entry_list_sort ?_ (h2 _)
  rw[h1]
  exact uI H (gu H (k:=21) (by decide)) ht dx ok λr' e l=>⟨_,rfl,k r' _ _ l (e▸h) .none⟩⟩
theorem o9 (as:List AV) (lt:AV->AV->Bool) (b:Bool) {v:AV} {kws:List (Str×AV)} (e:bq st v as) (hk:tF kws b) (ok:lj as lt) (h:P (.ref st.new) (st.add (.list (cR b lt as)))):cj (.builtin "sorted") [v] kws st P:=⟨λ{D C} H r {us ku Q} d dk k=>
 d.one λx d=>e.e (X:=λx=>WP C (call (.builtin "sorted") [x] ku) Q r.s) d λa xs n ho dx=>by
  obtain⟨h1,h2,h3⟩:=uW hk dk
  have hfit:xs.toArray.size<=sizeLine:=mX dx (Nat.le_of_lt (aH ok.1 (by decide)))
  refine call_function_entry_kw kind_sorted plain_sorted entry_sorted (h3 _) ?_
  unfold Builtin.«sorted»
  refine ae (m:=checkCount "sorted" 1 1 _) (ah ?_)
  refine ae (collect_list (bG ho) ?_ hfit)
  refine ae (wpAny_newList ?_ (by rw[ay] at hfit;exact hfit))
  have keep:∀b o,r.s.heap.get? b=some o->((r.s.heap.push (seqObj "list" #[] 0)).update r.s.heap.objs.size (Obj.mapSeq (·++xs.toArray))).get? b=some o:=λb o q=>by
   have hlt:b≠r.s.heap.objs.size:=aW (ba q)
   rw[Heap.get?_update_ne _ _ _ _ hlt,Heap.get?_push_ne _ _ _ hlt]
   exact q
  have r2:(r2:RS C (st.add (.list as)))×' (r2.s={r.s with heap:=((r.s.heap.push (seqObj "list" #[] 0)).update r.s.heap.objs.size (Obj.mapSeq (·++xs.toArray))).push (listOf xs.toArray 0)}/\Le r r2/\r2.Ds as xs/\
    r2.T[st.new]? =some (((r.s.heap.push (seqObj "list" #[] 0)).update r.s.heap.objs.size (Obj.mapSeq (·++xs.toArray))).objs.size,listOf xs.toArray 0)):=
   ⟨(r.keeps keep r.s.toks (ak _)).push (listOf xs.toArray 0) (v:=.list as) (λρ p=>⟨xs,0,rfl,dx.mono (λ_ _ g=>g) p⟩) rfl,rfl,(fD (k:=keep) (ht:=ak _)).trans (RS.new_le _),dx.mono (λ_ _ g=>g) cI,by unfold St.new;rw[r.hlen];exact List.getElem?_concat_length⟩
  obtain⟨r2,hs2,l2,d2,t2⟩:=r2
  have hoL:=r2.get t2
  have hz:∀{st':St},st'=(st.add (.list as)).put st.new (.list (cR b lt as))->st'=st.add (.list (cR b lt as)):=λe=>e.trans (by unfold St.put St.add St.new;rw[List.set_append_right _ _ (ak _),Nat.sub_self];rfl)
  show wpAny _ _ _ _ _ {r.s with heap:=((r.s.heap.push (seqObj "list" #[] 0)).update r.s.heap.objs.size (Obj.mapSeq (·++xs.toArray))).push (listOf xs.toArray 0)}
  rw[<-hs2]
  refine ae (aM (wpAny_call_entry_kw slot_list_sort ⟨_,hoL,rfl⟩ entry_list_sort ?_ (h2 _)))
  show wpAny MM _ (Builtin.«list.sort» ⟨[.ref _],ku⟩) _ _ _
  rw[h1]
  refine uI H (gu H (k:=22) (by decide)) t2 d2 ok λr' e l=>⟨_,rfl,ah ⟨_,rfl,k r' _ _ (l2.trans l) (hz e▸h) ?_⟩⟩
  exact .ref _ _ (aV l.pre (bF t2))⟩
end
section
variable {A:Around} {s:Shared} {G:GP} {E:Value->Shared->Prop}
theorem JH (X:K0.In s.heap) (hb:NoneBooked s.heap) (hu:A.units+10<cLine) (hG:∀a o,G a o->s.heap.get? a=some o) {xs ys:List AV} {u v:Value} {ρ:List Addr} (d1:aY G ρ (.tup (.ref 192) xs) u) (d2:aY G ρ (.tup (.ref 192) ys) v) (ck:ia (dK 0) xs ys)
  {Q:Bool->Shared->Prop} (h:Q (bp 1 (.tup (.ref 192) xs) (.tup (.ref 192) ys)) s):wpAny MM A (keyLt' oneType' u v) Q E s:=
 d1.tupE λa us n dx g du=>d2.tupE λb vs k dy g' dv=>by
 have ho:=hG _ _ g
 have ho':=hG _ _ g'
 have sp:=eZ X ho rfl (M:=MM) iZ.lt
 have run:∀{A':Around} {E':Value->Shared->Prop} (Q':Value->Shared->Prop),A'.units+9<cLine->Q' (.bool (bp 1 (.tup (.ref 192) xs) (.tup (.ref 192) ys))) s->wpAny MM A' (call (.builtin "tuple.__lt__") [.ref a,.ref b]) Q' E' s:=λ{A' E'} Q' hu hq=>
  lH F.slot_tuple_lt F.entry_tuple_lt (by decide+kernel) (by decide+kernel) (jD X ho rfl) (F.args_tuple_lt_2 _ _) (by
   have z:=jC hb hG 0 (A:=A'.in1) (by show A'.units+_+0<_;omega)
   exact u0 (k:=.lt) (e:=jO 0 .eq) (g:=jO 0 .lt) (λQ hq=>(jD X ho' rfl).here hq) ho rfl ho' rfl du dv ck (λx y u v c d1 d2=>(z x y u v c d1 d2).2) (λe=>nomatch e) (λ_ x y u v c d1 d2=>(z x y u v c d1 d2).1 .lt) ⟨_,rfl,hq⟩)
 rw[keyLt'_oneType,oneLt'_eq,if_pos rfl]
 refine ae (wpAny_cRoomFor (aJ (aQ _ _) hu) ?_)
 simp only[callSpecialIfBound?,bindSpecialIfBound?]
 refine ae (aM (ae (ae (sp.here ?_))))
 simp only[F.slot_tuple_lt.bind]
 refine ae (wpAny_askSetting (wpAny_ite ?_))
 split
 ·refine ae (ah (ah ?_))
  exact ae (run _ (by omega) (ah (wpAny_truthy_bool h)))
 ·refine wpAny_tryCatch (ae (ah (ah ?_)))
  exact ae (run _ (by omega) (ah (wpAny_truthy_bool h)))
theorem sV {M:Model} {a:Addr} {o:Obj} (ho:s.heap.get? a=some o):Looks M s.heap (typeOf (.ref a)) o.cls:=(Looks.ld ho).andThen .now
theorem aT.all {ρ:List Addr} {vs:List AV} {xs:List Value} (d:aT G ρ vs xs) {P:Value->Prop}:(∀v∈vs,∀u,aY G ρ v u->P u)->∀u∈xs,P u:=
 d.ind (λ_ u hu=>nomatch hu) λv x vs xs d ih h u hu=>(aL.mp hu).elim (λe=>e▸h _ (.head _) _ d) (ih (λv hv=>h v (.tail _ hv)) u)
theorem yy {as:List AV} (h:∀x∈as,∃i j k:Int,x=.tup (.ref 192) [.int i,.int j,.int k]) (hl:as.length<6):lj as (bp 1):=by
 refine⟨hl,λh2=>⟨oneType',λ{D C} H {st} r {A} hu=>⟨λxs d Q hq=>?_,λx y u v hx hy dx dy Q hq=>?_⟩⟩⟩
 ·refine kas_kind (T:=.ref 192) (by rw[<-d.length];exact h2) (d.all λv hv u du=>?_) (by decide+kernel) (by decide+kernel) hq
  obtain⟨i,j,k,rfl⟩:=h v hv
  exact du.tupE λa us n dd g _=>sV (r.gGet g)
 ·obtain⟨i,j,k,rfl⟩:=h x hx
  obtain⟨i',j',k',rfl⟩:=h y hy
  exact JH (r.k0 H) (qV H r) (aJ (Nat.add_le_add_left (by decide) _) hu) (λa o g=>r.gGet g) dx dy ⟨trivial,trivial,trivial,trivial⟩ hq
noncomputable def mS (v:AV):String:=match v with
 | .int _=>"int"
 | .str _ _=>"str"
 | .flt _ _=>"float"
 | .tup c _=>(match c with| .type c=>c|_=>"")
 |_=>""
theorem xC {a b:UInt64} {t u:Tok} {Q:Bool->Shared->Prop} (h:Q (Float64.cmp a b==some .lt) s):wpAny MM A (oneLt' true (.float a t) (.float b u)) Q E s:=by
 rw[oneLt'_eq,if_pos rfl]
 refine ae (wpAny_cRoomFor_byValue rfl ?_)
 refine ae (wpAny_callSpecialIfBound?_slot (PySem.AutoFloatOps.typeIs_float s a t) F.slot_float_lt (call_gives F.slot_float_lt (PySem.AutoFloatOps.typeIs_float s a t) F.entry_float_lt (F.args_float_lt_2 _ _) (AutoFloatG5.float___lt___float_float_0 a t b u) ?_))
 exact wpAny_truthy_bool h
variable {F:AV->AV->Prop} {O:Ordering->AV->AV->Bool} {x y:AV} {u v:Value}
theorem K3 (c:fk F x y) (ht:mS x≠"tuple") (d1:aY G [] x u) (d2:aY G [] y v) {Q:Bool->Shared->Prop} (h:Q (cZ O .lt x y) s):wpAny MM A (oneLt' true u v) Q E s:=
 CT (X:=λx y u v=>mS x≠"tuple"->Q (cZ O .lt x y) s->wpAny MM A (oneLt' true u v) Q E s) c d1 d2 (λ_ _ _ _ _ h=>oneLt_int h) (λ_ _ _ _ _ _ _ h=>oneLt_str h) (λ_ _ _ _ _ _ _ _ _ _ h=>xC h) (λ_ _ _ _ _ _ _ _ _ _ _ _ _ _ _ _ _ h _=>absurd rfl h) ht h
theorem Eb {M:Model} (hG:∀a o,G a o->s.heap.get? a=some o) (c:fk F x x) (d1:aY G [] x u):Looks M s.heap (typeOf u) (.type (mS x)):=
 CT (X:=λx _ u _=>Looks M s.heap (typeOf u) (.type (mS x))) c d1 d1 (λ_ _ _ _=>.now) (λ_ _ _ _ _ _=>.now) (λ_ _ _ _ _ _ _ _ _=>.now) (λ_ _ _ _ _ _ _ _ _ _ g _ _ _ _ _ _=>sV (hG _ _ g))
theorem Lv (hr:∀x y u v,fk F x y->aY G [] x u->aY G [] y v->(∀k,jv A s k u v (cZ O k x y))/\qj A s u v (cZ O .eq x y)) {b:Bool} {Q:Bool->Shared->Prop} {xs:List AV}:∀{ys:List AV} {us vs:List Value} {i:Nat} {fin:Bool},((b&&i==0)=true->∀x r,xs=x::r->mS x≠"tuple")->ia (fk F) xs ys->aT G [] xs us->aT G [] ys vs->
  fin=decide (us.length<vs.length)->Q (gH .lt (cZ O .eq) (cZ O .lt) xs ys) s->KatLex pw W0 A b fin Q (us.zip vs) i s:=by
 induction xs with
 |nil=>exactλ{ys us vs i fin} _ _ d1 d2 hf hq=>d1.nilE (X:=λus=>fin=decide (us.length<vs.length)->KatLex pw W0 A b fin Q (us.zip vs) i s) (λhf=>by rw[hf,<-d2.length];cases ys<;>exact kat_nil hq) hf
 |cons x xs ih=>
  intro ys us vs i fin ht ck d1 d2
  refine d1.consE λu us k1 d1=>?_
  cases ys with
  |nil=>exact d2.nilE λhf hq=>by rw[hf];exact kat_nil hq
  |cons y ys=>
  refine d2.consE λv vs k2 d2 hf hq=>?_
  have z:=hr x y u v ck.1 k1 k2
  rw[List.zip_cons_cons]
  refine kat_cons (z.2 ?_)
  rw[kT] at hq
  cases he:cZ O .eq x y with
  |true=>
   rw[if_pos he] at hq
   exact kat_yes (ih (λh=>by rw[show(i+1==0)=false from rfl,Bool.and_false] at h;cases h) ck.2 d1 d2 (hf.trans (decide_eq_decide.mpr Nat.succ_lt_succ_iff)) hq)
  |false=>
   rw[he,if_neg au] at hq
   refine kat_no ?_
   cases hbi:(b&&i==0) with
   |false=>exact kat_one _ _ (z.1 .lt hq)
   |true=>exact K3 ck.1 (ht hbi _ _ rfl) k1 k2 hq
theorem Es {h:Heap} (hG:∀a o,G a o->h.get? a=some o) {ρ:List Addr} {as:List AV} {xs:List Value} (d:aT G ρ as xs):(∀x∈as,∃y ys,x=.tup (.type "tuple") (y::ys))->∃fs,KatTups h xs fs/\fs.length=as.length/\∀f∈fs,∃y ys,.tup (.type "tuple") (y::ys)∈as/\aY G [] y f:=
 d.ind (λ_=>⟨[],.nil,rfl,λf hf=>nomatch hf⟩) λv x vs xs d ih hs=>by
  obtain⟨fs,h1,h2,h3⟩:=ih λx hx=>hs x (.tail _ hx)
  obtain⟨y,ys,rfl⟩:=hs _ (.head _)
  exact d.tupE (X:=λx=>∃fs,KatTups h (x::xs) fs/\fs.length=vs.length+1/\∀f∈fs,∃y' ys',.tup (.type "tuple") (y'::ys')∈.tup (.type "tuple") (y::ys)::vs/\aY G [] y' f) λa us n dx g du=>by
   obtain⟨f0,us,rfl,k,du⟩:=du.inv
   exact⟨f0::fs,.cons (hG _ _ g) rfl rfl rfl h1,congrArg Nat.succ h2,λf hf=>(aL.mp hf).elim (λe=>⟨y,ys,.head _,e▸k⟩) λhf=>(h3 f hf).imp λy' z=>z.imp λys' z=>⟨.tail _ z.1,z.2⟩⟩
theorem xE (d:Nat):∃F O,dK d=fk F/\jO d=cZ O:=by cases d<;>exact⟨_,_,rfl,rfl⟩
theorem jV {as:List AV} {d:Nat} {T:String} (hd:d<10) (h:∀x∈as,∃y ys,x=.tup (.type "tuple") (y::ys)/\mS y=T) (hc:∀x y,x∈as->y∈as->dK (d+1) x y) (hl:as.length<6):lj as (bp (d+1)):=by
 obtain⟨F,O,e1,e2⟩:=xE d
 refine⟨hl,λh2=>⟨tuples' (Value.type T !=Value.type "tuple"),λ{D C} H {st} r {A} hu=>⟨λxs dd Q hq=>?_,λx y u v hx hy dx dy Q hq=>?_⟩⟩⟩
 ·obtain⟨fs,k1,k2,k3⟩:=Es (λa o g=>r.gGet g) dd λx hx=>(h x hx).imp λy z=>z.imp λys z=>z.1
  refine kat_kind k1 (by rw[k2];exact Nat.lt_of_succ_lt h2) (T:=.type T) (λf hf=>?_) (beq_self_eq_true _) hq
  obtain⟨y,ys,hm,df⟩:=k3 f hf
  obtain⟨y',ys',e,ht⟩:=h _ hm
  cases e
  rw[<-ht]
  have ck:ia (dK d) (y::ys) (y::ys):=(hc _ _ hm hm).2.2.1
  rw[e1] at ck
  exact Eb (λa o g=>r.gGet g) ck.1 df
 ·obtain⟨y1,ys1,rfl,t1⟩:=h x hx
  obtain⟨y2,ys2,rfl,t2⟩:=h y hy
  have ck:ia (dK d) (y1::ys1) (y2::ys2):=(hc _ _ hx hy).2.2.1
  have hr:=jC (G:=r.G) (qV H r) (λa o g=>r.gGet g) d (A:=A) (aH (Nat.add_lt_add_left (aH hd (by decide)) _) hu)
  have hq':Q (gH .lt (jO d .eq) (jO d .lt) (y1::ys1) (y2::ys2)) r.s:=hq
  rw[e1] at ck hr
  rw[e2] at hr hq'
  refine dx.tupE λa us n dx g du=>dy.tupE λb vs k dy g' dv=>kat_lt (r.gGet g) rfl (r.gGet g') rfl (Lv hr (λe x r' ex=>?_) ck du dv (by rw[ay,ay]) hq')
  cases ex
  rw[t1]
  rintro rfl
  exact absurd (aE e) (by decide)
end
noncomputable def tm (v:AV) (a:Option Int):Prop:=match a with
 |none=>v=.none
 |some j=>v=.int j
noncomputable def cN {α:Type} (lo hi:Option Int) (vs:List α):List α:=(vs.drop (lo.elim 0 (clipAt vs.length))).take (hi.elim vs.length (clipAt vs.length)-lo.elim 0 (clipAt vs.length))
theorem part_of {G:GP} {ρ:List Addr} {v:AV} {u:Value} {a:Option Int} (d:aY G ρ v u) (h:tm v a):IsPart u a:=by
 cases a with
 |none=>cases h;exact d.noneE .none
 |some j=>cases h;exact d.intE λt=>.int _ _
section
variable {D:Nat} {C:Cx} {st:St} {P:PV} {Q:Value->Shared->Prop} {i j:Nat} {v lo hi:AV}
theorem RS.list_k {r:RS C st} (k:Kt r P Q) {vs:List AV} {us:List Value} (d:r.Ds vs us) (h:P (.ref st.new) (st.add (.list vs))):Q (.ref r.s.heap.objs.size) {r.s with heap:=r.s.heap.push (listOf us.toArray 0)}:=
 RS.push_k (v:=.list vs) (d:=λρ p=>⟨us,0,rfl,d.mono (λ_ _ g=>g) p⟩) (hf:=rfl) k h
theorem iF (vs:List AV) (x y:Option Int) (e:bq st v vs) (p1:tm lo x) (p2:tm hi y) (hl:vs.length<=100000) (h:P (.ref st.new) (st.add (.list (cN x y vs)))):ti v lo hi st P:=⟨λ{D C} H r {uo ul uh a value slice Q} d0 d1 d2 hs hsub k=>
 e.e (X:=λuo=>WP C (subscriptTail value slice uo (.ref a)) Q r.s) d0 λl xs n ho dx=>by
  refine tail_any (bG ho).typeIs slot_list_getitem.lookup (wpAny_getItem_list_slice (bG ho) ⟨_,hs,rfl,rfl⟩ (part_of d1 p1) (part_of d2 p2) .none (λh=>nomatch h) ?_ (mX dx hl)) (hsub _ _)
  rw[slicePick_plain,ay]
  have dc:r.Ds (cN x y vs) (cN x y xs):=by
   unfold cN;rw[dx.length];exact(dx.drop _).take _
  exact RS.list_k k dc h⟩
theorem yM {g:List Nat}:(tx g).length=g.length:=ay
theorem Dp {g:List Nat} {q:Option Tok} {x y:Int} (h0:0<=x) (h1:x<=y) (h2:y<=g.length) (hl:g.length<=1000) (h:P (.str ((g.drop x.toNat).take (y.toNat-x.toNat)) none) st):ti (.str g q) (.int x) (.int y) st P:=⟨λ{D C} H r {uo ul uh a value slice Q} d0 d1 d2 hs hsub k=>
 d0.strE λt _=>d1.intE (X:=λul=>r.s.heap.get? a=some (zx ul uh)->WP C (subscriptTail value slice (.str (tx g) t) (.ref a)) Q r.s) (λt1=>d2.intE λt2 hs=>by
  obtain⟨m,rfl⟩:=Int.eq_ofNat_of_zero_le h0
  obtain⟨n,rfl⟩:=Int.eq_ofNat_of_zero_le (Int.le_trans h0 h1)
  have h1:=Int.ofNat_le.mp h1
  have h2:n<= (tx g).length:=by rw[yM];exact Int.ofNat_le.mp h2
  refine tail_any (typeIs_str _ _ _) F.slot_str_getitem.lookup (wpAny_getItem_str_slice (l:=some ((m:Int),t1)) (u:=some ((n:Int),t2)) (st:=none) ⟨_,hs,rfl,rfl⟩ rfl ?_) (hsub _ _)
  have ep:(slicePicked (tx g) (some ((m:Int),t1)) (some ((n:Int),t2)) none).filterMap ((tx g).cps[·]?)=(g.drop m).take (n-m):=StrLaws.sliced_plain (tx g) h1 h2
  have full:(slicePicked (tx g) (some ((m:Int),t1)) (some ((n:Int),t2)) none).length=(tx g).length->(g.drop m).take (n-m)=g:=λhh=>by
   unfold slicePicked at hh
   have e1:=StrLaws.strSliceIndices_plain h1 h2
   change(Builtin.Str.strSliceIndices (some (m:Int)) (some (n:Int)) 1 (tx g).length).length=_ at hh
   rw[e1] at hh
   rw[yM] at hh h2
   simp only[ai,List.length_range] at hh
   have:m=0:=by omega
   rw[this,List.drop_zero,Nat.sub_zero,List.take_of_length_le (by omega)]
  unfold sliceMade
  split
  ·rename_i hc
   have hc:=beq_iff_eq.mp (aA hc)
   have h:P (.str ((g.drop m).take (n-m)) none) st:=h
   rw[full hc] at h
   exact k r _ _ .rf h (.str _ _ _ λ_ h=>nomatch h)
  ·rw[ep]
   refine⟨?_,k.str (g:=(g.drop m).take (n-m)) h _ (aK _)⟩
   show((g.drop m).take (n-m)).toArray.size<=_
   rw[ay]
   exact gj (ag (List.length_take_le' ..) (ag (List.length_drop ..▸Nat.sub_le ..) (ag hl (by decide))))) hs⟩
noncomputable def mj (f g:List Nat):Bool:=!(Builtin.Str.occurrences (tx g) (tx f) 0 (tx g).length 1).isEmpty
theorem td {f g:List Nat} {p q:Option Tok} {P:Bool->Prop} (h:P (mj f g)):gL .In (.str f p) (.str g q) st P:=⟨λ{D C} H r {u v Q} da db k=>da.strE λ_ _=>db.strE λ_ _=>PySem.P.in_str (k r _ .rf h)⟩
noncomputable def tK (f:List Nat) (v:Value):Bool:=match v with
 | .str z _=>z==tx f
 |_=>false
theorem xU {G:GP} {ρ:List Addr} {f:List Nat} {gs:List (List Nat×Option Tok)}:∀{xs:List Value},aT G ρ (gs.map λp=>.str p.1 p.2) xs->xs.any (tK f)=gs.any λp=>p.1=f:=by
 induction gs with
 |nil=>exactλd=>d.nilE rfl
 |cons p gs ih=>
  refineλd=>d.consE λx xs d ds=>d.strE λt _=>?_
  rw[List.any_cons,List.any_cons,ih ds]
  exact congrArg (·||_) jH
theorem pV {G:GP} {ρ:List Addr} {s:Shared} {A:Around} {f:List Nat} {t:Tok} {gs:List (List Nat×Option Tok)} {xs:List Value} (dx:aT G ρ (gs.map λp=>.str p.1 p.2) xs):∀y∈xs,SeqAt.EqAt A s y (.str (tx f) t) (tK f y):=
 dx.all λv hv u d=>by
  obtain⟨p,_,rfl⟩:=aG.mp hv
  exact d.strE λt2 _ prog w E Q hq=>eqBool_str hq
theorem LQ {f:List Nat} {q:Option Tok} (gs:List (List Nat×Option Tok)) {P:Bool->Prop} (e:bq st v (gs.map λp=>.str p.1 p.2)) (h:P (gs.any λp=>p.1=f)):pD .In (.str f q) v st P:=⟨λ{D C} H r {u w Q} da db k=>
 da.strE λt _=>e.e (X:=λw=>WP C (compareOp .In (.str (tx f) t) w) Q r.s) db λl xs n ho dx=>SeqAt.in_listAt (tK f) (bG ho) (λy hy=>pV dx y (List.mem_toArray.mp hy)) (by rw[List.any_toArray,xU dx];exact k r _ .rf h)⟩
theorem qd {G:GP} {ρ:List Addr} {gs:List (List Nat×Option Tok)} {xs:List Value} (d:aT G ρ (gs.map λp=>.str p.1 p.2) xs) {i:Nat} (hi:i<xs.length) (f:List Nat):∃p,gs[i]? =some p/\tK f xs[i]=decide (p.1=f):=by
 have hl:=d.length
 rw[ai] at hl
 have hg:gs[i]? =some (gs[i]'(hl▸hi)):=aq _
 refine⟨_,hg,?_⟩
 obtain⟨x,hx,dd⟩:=d.get (i:=i) (v:=.str (gs[i]'(hl▸hi)).1 (gs[i]'(hl▸hi)).2) (by rw[aO,hg];rfl)
 rw[aq hi] at hx
 rw[Option.some.inj hx]
 exact dd.strE λt _=>jH
theorem Ff {f:List Nat} {q:Option Tok} (gs:List (List Nat×Option Tok)) (j:Nat) (e:bq st v (gs.map λp=>.str p.1 p.2)) (hl:gs.length<=1000) (hj:j<gs.length) (h1:∀m p,gs[m]? =some p->m<j->p.1≠f) (h2:∀p,gs[j]? =some p->p.1=f) (h:P (.int j) st):cj (.builtin "list.index") [v,.str f q] [] st P:=⟨λ{D C} H r {us ku Q} d dk k=>
 dk.nilE (d.two λx y d1 d2=>d2.strE λt _=>e.e (X:=λx=>WP C (call (.builtin "list.index") [x,.str (tx f) t]) Q r.s) d1 λa xs n ho dx=>by
  have hlen:=dx.length
  rw[ai] at hlen
  refine call_meets F.slot_list_index ⟨_,ho,rfl⟩ F.entry_list_index (F.args_list_index_2 _ _) (SeqAt.list_indexAt a xs.toArray n none #[] (.str (tx f) t) (tK f) j (by rw[ay,<-hlen];exact hj) (by omega) ?_ λm hm hmj=>?_) ⟨ho,λy hy=>pV dx y (List.mem_toArray.mp hy),k.int h _ (aK _)⟩
  ·obtain⟨p,e1,e2⟩:=qd dx (i:=j) (hlen▸hj) f
   rw[List.getElem_toArray,e2,h2 p e1];exact aR rfl
  ·rw[ay] at hm
   obtain⟨p,e1,e2⟩:=qd dx (i:=m) hm f
   rw[List.getElem_toArray,e2]
   exact decide_eq_false (h1 m p e1 hmj))⟩
theorem rX {G:GP} {ρ:List Addr} {ns:List Int}:∀{xs:List Value},aT G ρ (ns.map AV.int) xs->IntsAre xs ns:=by
 induction ns with
 |nil=>exactλd=>d.nilE .nil
 |cons n ns ih=>exactλd=>d.consE λx xs d ds=>d.intE λt=>.cons n t (ih ds)
theorem lr (ns:List Int) (e:bq st v (ns.map AV.int)) (h:P (.int ns.sum) st):cj (.builtin "sum") [v] [] st P:=⟨λ{D C} H r {us ku Q} d dk k=>
 dk.nilE (d.one λx d=>e.e (X:=λx=>WP C (call (.builtin "sum") [x]) Q r.s) d λa xs n ho dx=>c9 (sumK H.hh r.fr r.nw (bG ho) (rX dx) λh' tk t' F' N' ht=>k (r.re F' N' tk ht) _ _ ⟨aw,λ_ h=>h,rfl⟩ h (.int _ _)))⟩
theorem wO {a b:Int} (h:P (.int (if b>a then b else a)) st):cj (.builtin "max") [.int a,.int b] [] st P:=⟨λ{D C} H r {us ku Q} d dk k=>
 dk.nilE (d.two λx y d1 d2=>d1.intE λ_=>d2.intE λ_=>c9 (max_two_N H.hh r.fr r.nw λh' tk F' N' ht=>k (r.re F' N' tk ht) _ _ ⟨aw,λ_ h=>h,rfl⟩ h (.int _ _)))⟩
theorem HF {a b:AV} {P:Bool->Prop} (d:Nat) (hd:d<10) (ck:dK d a b) (p1:a.pure=true) (p2:b.pure=true) (h:P (bp d a b)):pD .Lt a b st P:=⟨λ{D C} H r {u v Q} da db k=>
 (jC (qV H r) (λa o g=>r.gGet g) d (aH (Nat.add_lt_add_left hd _) (gu H (k:=10) (by decide))) a b u v ck (da.pure p1) (db.pure p2)).1 .lt (k r _ .rf h)⟩
theorem Bx {a b:UInt64} {p q:Option Tok} {P:Bool->Prop} (h:P (Float64.cmp a b==some .gt||Float64.cmp a b==some .eq)):gL .GtE (.flt a p) (.flt b q) st P:=⟨λ{D C} H r {u v Q} da db k=>da.fltE λ_ _=>db.fltE λ_ _=>AutoFloatOps.ge_0 (k r _ .rf h)⟩
theorem HU {a b:UInt64} {p q:Option Tok} {P:Bool->Prop} (h:P (Float64.cmp a b==some .lt||Float64.cmp a b==some .eq)):gL .LtE (.flt a p) (.flt b q) st P:=⟨λ{D C} H r {u v Q} da db k=>da.fltE λ_ _=>db.fltE λ_ _=>AutoFloatOps.le_0 (k r _ .rf h)⟩
theorem IV {a:UInt64} {q:Option Tok} {n:Int} {P:Bool->Prop} (h:P (Float64.cmpInt a n !=some Ordering.eq)):gL .NotEq (.flt a q) (.int n) st P:=⟨λ{D C} H r {u v Q} da db k=>da.fltE λ_ _=>db.intE λ_=>ne_fi (k r _ .rf h)⟩
theorem EH {α:Type} [DecidableEq α] {as bs:List α} (h:as.length=bs.length):((List.range as.length).all λj=>decide (as[j]? =bs[j]?))=decide (as=bs):=by
 rw[Bool.eq_iff_iff,aF,decide_eq_true_iff]
 refine⟨λhj=>List.ext_getElem? λj=>?_,λe j _=>aR (e▸rfl)⟩
 by_cases hlt:j<as.length
 ·exact aj (hj j (List.mem_range.mpr hlt))
 ·rw[List.getElem?_eq_none (Nat.not_lt.mp hlt),List.getElem?_eq_none (h▸Nat.not_lt.mp hlt)]
theorem pS {α:Type} [DecidableEq α] {A:Around} {s:Shared} {l l2:Addr} {xs ys:List Value} {n1 n2:Nat} {neg:Bool} {E:Value->Shared->Prop} (hu:A.units<cLine) (hx:s.heap.get? l=some (listOf xs.toArray n1)) (hy:s.heap.get? l2=some (listOf ys.toArray n2)) (as bs:List α) (h1:as.length=xs.length) (h2:bs.length=ys.length)
  (he:∀j (h1:j<xs.length) (h2:j<ys.length),SeqAt.EqAt A.in1 s xs[j] ys[j] (decide (as[j]? =bs[j]?))) (h:Q (.bool (decide (as=bs)!=neg)) s):wpAny MM A (compareOp (if neg then .NotEq else .Eq) (.ref l) (.ref l2)) Q E s:=by
 have he':∀j (h1:j<xs.toArray.size) (h2:j<ys.toArray.size),SeqAt.EqAt A.in1 s xs.toArray[j] ys.toArray[j] (decide (as[j]? =bs[j]?)):=λj h1 h2=>by
  rw[List.getElem_toArray,List.getElem_toArray];exact he j (by rwa [ay] at h1) (by rwa [ay] at h2)
 by_cases hl:xs.length=ys.length
 ·have hs:xs.toArray.size=ys.toArray.size:=by rw[ay,ay];exact hl
  have ha:((List.range xs.toArray.size).all λj=>decide (as[j]? =bs[j]?))=decide (as=bs):=by
   rw[ay,<-h1];exact EH (h1.trans (hl.trans h2.symm))
  cases neg
  ·rw[Bool.bne_false] at h
   exact SeqAt.RcAt.lists (bG hx) (bG hy) hs hu he' pw W0 E Q (by rw[ha];exact h)
  ·rw[Bool.bne_true] at h
   exact SeqAt.RcNeAt.lists (bG hx) (bG hy) hs hu he' pw W0 E Q (by rw[ha];exact h)
 ·have hs:(xs.toArray.size !=ys.toArray.size)=true:=by rw[ay,ay];exact bne_iff_ne.mpr hl
  rw[decide_eq_false λe=>hl (h1.symm.trans ((congrArg _ e).trans h2))] at h
  cases neg
  ·exact SeqAt.RcAt.lists_lengths (bG hx) (bG hy) hs hu pw W0 E Q h
  ·exact SeqAt.RcNeAt.lists_lengths (bG hx) (bG hy) hs hu pw W0 E Q h
theorem aT.at {G:GP} {ρ:List Addr} {vs:List AV} {xs:List Value} (d:aT G ρ vs xs) {j:Nat} {w:AV} (h:j<xs.length) (e:vs[j]? =some w):aY G ρ w xs[j]:=(d.get e).elim λx z=>by
 rw[aq h] at z
 exact Option.some.inj z.1▸z.2
theorem lI {α:Type} {f:α->AV} {l:List α} {j:Nat} (h:j<l.length):l[j]? =some l[j]/\(l.map f)[j]? =some (f l[j]):=⟨aq h,by rw[aO,aq h];rfl⟩
theorem xd (neg:Bool) (ns ms:List Int) {w:AV} {P:Bool->Prop} (e1:bq st v (ns.map AV.int)) (e2:bq st w (ms.map AV.int)) (h:P (decide (ns=ms)!=neg)):pD (if neg then .NotEq else .Eq) v w st P:=⟨λ{D C} H r {u u' Q} da db k=>
 e1.e (X:=λu=>WP C (compareOp _ u u') Q r.s) da λl xs n1 hx dx=>e2.e (X:=λu'=>WP C (compareOp _ (.ref l) u') Q r.s) db λl2 ys n2 hy dy=>by
  have h1:=dx.length
  have h2:=dy.length
  rw[ai] at h1 h2
  refine pS (aJ (aQ ..) (gu H (k:=0) (by decide))) hx hy ns ms h1 h2 (λj k1 k2=>?_) (k r _ .rf h)
  have z1:=lI (f:=AV.int) (l:=ns) (h1▸k1)
  have z2:=lI (f:=AV.int) (l:=ms) (h2▸k2)
  rw[z1.1,z2.1]
  exact(dx.at k1 z1.2).intE λt=>(dy.at k2 z2.2).intE λt2 prog w E Q hq=>wpAny_eqBool_int (by rw[oV];exact(decide_eq_decide.mpr Option.some_inj)▸hq)⟩
theorem LN (neg:Bool) (gs hs:List (List Nat×Option Tok)) {w:AV} {P:Bool->Prop} (e1:bq st v (gs.map λp=>.str p.1 p.2)) (e2:bq st w (hs.map λp=>.str p.1 p.2)) (h:P (decide (gs.map (·.1)=hs.map (·.1))!=neg)):pD (if neg then .NotEq else .Eq) v w st P:=⟨λ{D C} H r {u u' Q} da db k=>
 e1.e (X:=λu=>WP C (compareOp _ u u') Q r.s) da λl xs n1 hx dx=>e2.e (X:=λu'=>WP C (compareOp _ (.ref l) u') Q r.s) db λl2 ys n2 hy dy=>by
  have h1:=dx.length
  have h2:=dy.length
  rw[ai] at h1 h2
  refine pS (aJ (aQ ..) (gu H (k:=0) (by decide))) hx hy (gs.map (·.1)) (hs.map (·.1)) ((ai _).trans h1) ((ai _).trans h2) (λj k1 k2=>?_) (k r _ .rf h)
  have z1:=lI (f:=λp=>.str p.1 p.2) (l:=gs) (h1▸k1)
  have z2:=lI (f:=λp=>.str p.1 p.2) (l:=hs) (h2▸k2)
  rw[aO,aO,z1.1,z2.1]
  exact(dx.at k1 z1.2).strE λt _=>(dy.at k2 z2.2).strE λt2 _ prog w E Q hq=>eqBool_str (by rw[jH];exact(decide_eq_decide.mpr Option.some_inj)▸hq)⟩
end
noncomputable def cV (right:Bool) (vs:List Int) (x:Int):Nat->Int->Int->Int
 |0,lo,_=>lo
 |k+1,lo,hi=>if lo<hi then
   (if(if right then decide (x<vs.getD ((lo+hi)/2).toNat 0) else decide (vs.getD ((lo+hi)/2).toNat 0<x))=right then cV right vs x k lo ((lo+hi)/2) else cV right vs x k ((lo+hi)/2+1) hi)
  else lo
theorem fK:plainId "_bisect.bisect_right.loop"=true:=by decide+kernel
theorem qi:entryFor table "_bisect.bisect_right.loop"=some Builtin.«_bisect.bisect_right.loop»:=entryFor_of_fast (by kernel_rfl)
section
variable {A:Around} {E:Value->Shared->Prop} {s:Shared}
theorem oK {l:Addr} {xs:Array Value} {n:Nat} {k:Int} {t:Tok} {v:Value} {Q:Value->Shared->Prop} (hl:s.heap.get? l=some (listOf xs n)) (h0:0<=k) (hfit:k<2^63) (hx:xs[k.toNat]? =some v) (h:Q v s):
  wpAny MM A (call (.builtin "list.__getitem__") [.ref l,.int k t]) Q E s:=by
 have hl':s.heap.IsList l xs:=⟨_,hl,rfl,n,rfl⟩
 refine wpAny_call_entry slot_list_getitem hl'.typeIs entry_list_getitem ?_ (args_list_getitem _ _)
 show wpAny _ _ (Builtin.List.listSubscript? (.int k t)>>=_) _ _ s
 refine ae (wpAny_listSubscript_int (fitsIndex_of h0 hfit) ?_)
 obtain⟨j,rfl⟩:=Int.eq_ofNat_of_zero_le h0
 have hx':xs[j]? =some v:=hx
 show wpAny _ _ ((seqItemAt l j>>=λr=>pure (r.map (j,·)))>>=_) _ _ s
 refine ae (ae (wpAny_seqItemAt hl rfl (ah ?_)))
 rw[hx']
 exact ae (ah (ah ⟨v,rfl,h⟩))
variable {R:Result->Shared->Prop} {a:Addr} {x:Int} {u:Tok} {xs:Array Value} {n:Nat} {vs:List Int} {right:Bool}
noncomputable abbrev mU (a:Addr) (x:Int) (u:Tok) (right:Bool) (lo hi:Int):Code:=.builtin "_bisect.bisect_right.loop" ⟨[.ref a,.int x u,.int lo 0,.int hi 0,.none,.bool right,.bool true,.int 0 0],[]⟩
theorem uz {lo hi:Int} (h:¬lo<hi) (h2:∀t tk,s.toks<=tk->R (.ok (.ret (.int lo t))) {s with toks:=tk}):codeAny MM A (mU a x u right lo hi) R s:=by
 refine codeAny_builtin qi ?_
 rw[Around.under_plainId fK _]
 unfold Builtin.«_bisect.bisect_right.loop»
 dsimp only
 rw[if_neg h]
 exact ae (wpAny_mkInt (ah (h2 _ _ (aK _))))
theorem AG {lo hi mid it:Int} {t:Tok} (h:lo<hi) (hm:(lo+hi)/2=mid) (h0:0<=mid) (h1:mid<100000) (hs:s.heap.get? a=some (listOf xs n)) (ht:xs[mid.toNat]? =some (.int it t))
  (k:codeAny MM A (mU a x u right (if(if right then decide (x<it) else decide (it<x))=right then lo else mid+1) (if(if right then decide (x<it) else decide (it<x))=right then mid else hi)) R {s with toks:=s.toks+1}):codeAny MM A (mU a x u right lo hi) R s:=by
 refine codeAny_builtin qi ?_
 rw[Around.under_plainId fK _]
 unfold Builtin.«_bisect.bisect_right.loop»
 dsimp only
 rw[if_pos h,hm]
 have ty:Shared.TypeIs {s with toks:=s.toks+1} (.ref a) "list":=⟨_,hs,rfl⟩
 refine ae (wpAny_mkInt ?_)
 refine ae (m:=callSpecial? (.ref a) (Str.ofString "__getitem__") [.int mid s.toks]) (wpAny_callSpecial?_slot (name:=Str.ofString "__getitem__") (s:={s with toks:=s.toks+1}) (T:="list") ty slot_list_getitem (oK hs h0 (xo h1) ht ?_))
 dsimp only
 rw[if_pos (by decide)]
 refine ae (ah (aM ?_))
 rw[if_pos rfl]
 refine ae (wpAny_typeOf (typeIs_int _ it t) ?_)
 refine ae (wpAny_typeOf (typeIs_int _ x u) ?_)
 rw[if_pos (by decide)]
 have fin:∀c:Bool,codeAny MM A (mU a x u right (if c=right then lo else mid+1) (if c=right then mid else hi)) R {s with toks:=s.toks+1}->wpAny MM A.in1 (if(c==right)=true then pure (PySem.Fin.again (mU a x u right lo mid)) else pure (PySem.Fin.again (mU a x u right (mid+1) hi))) (λfin s'=>match fin with
   | .done f=>R (.ok f) s'
   | .again c'=>c'.quiet=true/\codeAny MM A c' R s') (λe s'=>R (.error e) s') {s with toks:=s.toks+1}:=λc k=>by
  by_cases hc:c=right
  ·rw[if_pos hc,if_pos hc] at k
   rw[if_pos (beq_iff_eq.mpr hc)]
   exact ah ⟨plainId_quiet fK _,k⟩
  ·rw[if_neg hc,if_neg hc] at k
   rw[if_neg λh=>hc (beq_iff_eq.mp h)]
   exact ah ⟨plainId_quiet fK _,k⟩
 cases right with
 |true=>
  refine ae (wpAny_cRoomFor_byValue rfl ?_)
  refine ae (wpAny_callSpecialIfBound?_slot (typeIs_int _ x u) slot_int_lt (call_int_lt ?_))
  refine ae (wpAny_truthy_bool ?_)
  exact ae (ah (fin _ k))
 |false=>
  refine ae (wpAny_cRoomFor_byValue rfl ?_)
  refine ae (wpAny_callSpecialIfBound?_slot (typeIs_int _ it t) slot_int_lt (call_int_lt ?_))
  refine ae (wpAny_truthy_bool ?_)
  exact ae (ah (fin _ k))
theorem nW {lo hi:Int} (h:lo<hi):lo<= (lo+hi)/2/\(lo+hi)/2<hi:=by omega
theorem rO (hv:∀(i:Nat) (v:Int),vs[i]? =some v->∃t,xs[i]? =some (.int v t)) (hl:vs.length<1000) (k:Nat):∀(lo hi:Int) (s:Shared),hi-lo<=k->0<=lo->hi<=vs.length->s.heap.get? a=some (listOf xs n)->(∀t tk,s.toks<=tk->R (.ok (.ret (.int (cV right vs x k lo hi) t))) {s with toks:=tk})->
  codeAny MM A (mU a x u right lo hi) R s:=by
 induction k with
 |zero=>exactλlo hi s hk h0 h1 hs hR=>uz (by omega) hR
 |succ k ih=>
  intro lo hi s hk h0 h1 hs hR
  unfold cV at hR
  by_cases h:lo<hi
  ·rw[if_pos h] at hR
   have hmid:=nW h
   generalize hm:(lo+hi)/2=mid at hR hmid
   have m3:=Int.le_trans h0 hmid.1
   have ml:=Int.lt_of_lt_of_le hmid.2 h1
   have m4:mid<100000:=Int.lt_trans ml (Int.ofNat_lt.mpr (aH hl (by decide)))
   have m5:mid.toNat<vs.length:=(Int.toNat_lt m3).mpr ml
   have m6:mid-lo<=k:=Int.le_of_lt_add_one (Int.lt_of_lt_of_le (Int.sub_lt_sub_right hmid.2 lo) hk)
   have m7:hi-(mid+1)<=k:=Int.le_of_lt_add_one (Int.lt_of_lt_of_le (Int.sub_lt_sub_left (Int.lt_add_one_iff.mpr hmid.1) hi) hk)
   obtain⟨t,ht⟩:=hv mid.toNat _ (aq m5)
   rw[aB,aq m5,Option.getD_some] at hR
   refine AG h hm m3 m4 hs ht ?_
   generalize (if right=true then decide (x<vs[mid.toNat]) else decide (vs[mid.toNat]<x))=c at hR⊢
   by_cases hc:c=right
   ·rw[if_pos hc] at hR
    rw[if_pos hc,if_pos hc]
    exact ih lo mid _ m6 h0 (Int.le_of_lt ml) hs λt tk htk=>hR t tk (Nat.le_of_succ_le htk)
   ·rw[if_neg hc] at hR
    rw[if_neg hc,if_neg hc]
    exact ih (mid+1) hi _ m7 (Int.le_trans m3 (Int.le_add_of_nonneg_right (by decide))) h1 hs λt tk htk=>hR t tk (Nat.le_of_succ_le htk)
  ·rw[if_neg h] at hR
   exact uz h hR
theorem vM:plainId "_bisect.bisect_left"=true:=by decide+kernel
theorem vG:entryFor table "_bisect.bisect_left"=some Builtin.«_bisect.bisect_left»:=entryFor_of_fast (by kernel_rfl)
theorem vI:plainId "_bisect.bisect_right"=true:=by decide+kernel
theorem vy:entryFor table "_bisect.bisect_right"=some Builtin.«_bisect.bisect_right»:=entryFor_of_fast (by kernel_rfl)
theorem vX:checkBuiltinCall "_bisect.bisect_left" ⟨[.ref a,.int x u],[]⟩=pure ():=by kernel_rfl
theorem vw {lo:Int} {t:Tok}:checkBuiltinCall "_bisect.bisect_right" ⟨[.ref a,.int x u],[("lo",.int lo t)]⟩=pure ():=by kernel_rfl
theorem uA {Q:Value->Shared->Prop} (hl:s.heap.get? a=some (listOf xs n)) (hz:xs.size<=100000) (h:∀t tk,s.toks<=tk->Q (.int xs.size t) {s with toks:=tk}):wpAny MM A (runValue (.builtin "len" ⟨[.ref a],[]⟩)) Q E s:=by
 refine wpAny_runValue (codeAny_builtin entry_len ?_)
 rw[Around.under_plainId plain_len _]
 unfold Builtin.«len»
 refine ae (m:=oneArg "len" _) (ah ?_)
 have ty:s.TypeIs (.ref a) "list":=⟨_,hl,rfl⟩
 refine ae (m:=callSpecial? (.ref a) (Str.ofString "__len__")) (wpAny_callSpecial?_slot (name:=Str.ofString "__len__") ty slot_list_len
  (wpAny_call_entry slot_list_len ty entry_list_len ?_ (args_list_len _)))
 show wpAny _ _ (do retInt (<-seqSize a)) _ _ s
 unfold seqSize
 refine ae (ae (wpAny_load hl ?_))
 refine ah (ae (wpAny_mkInt (ah ⟨_,rfl,?_⟩)))
 refine ae (aM (ah ?_))
 refine ae (wpAny_letGo ?_)
 show wpAny _ _ (if((xs.size:Nat):Int)<0 then _ else _) _ _ _
 rw[if_neg (Int.not_lt.mpr (aU _))]
 show wpAny _ _ (if((xs.size:Nat):Int)≥2^63 then _ else _) _ _ _
 rw[if_neg (Int.not_le.mpr (Int.lt_of_le_of_lt (Int.ofNat_le.mpr hz) (by decide)))]
 exact ae (wpAny_mkInt (ah (h _ _ (aQ _ 2))))
theorem lM {α:Type} {m:Sem α} {Q:α->Shared->Prop} (hm:wpAny MM A m (λ_ s'=>s'=s) b9 s) (h:∀v,Q v s):wpAny MM A m Q E s:=
 wpAny_mono hm (λv _ e=>e▸h v) λ_ _ e=>e.elim
variable {Q:Value->Shared->Prop} (hs:s.heap.get? a=some (listOf xs n)) (hz:xs.size=vs.length) (hv:∀(i:Nat) (v:Int),vs[i]? =some v->∃t,xs[i]? =some (.int v t)) (hl:vs.length<1000)
include hs hz hv hl
theorem xy (hQ:∀t tk,s.toks<=tk->Q (.int (cV false vs x vs.length 0 vs.length) t) {s with toks:=tk}):wpAny MM A (call (.builtin "_bisect.bisect_left") [.ref a,.int x u]) Q E s:=by
 refine wpAny_call ?_
 have h1:=vM
 have h2:=vG
 apply codeAny_call_builtin (id:="_bisect.bisect_left") (b:=Builtin.«_bisect.bisect_left») h1 h2
 refine wpAny_of_eq vX ?_
 refine ae (wpAny_of_eq (show _=pure (Value.ref a,Value.int x u,none,none,none) from rfl) ?_)
 dsimp only
 refine ae (ah ?_)
 refine ae (ah ?_)
 rw[if_neg (by decide)]
 refine ae (ah ?_)
 refine aM ?_
 rw[if_neg (by decide),if_neg (by decide)]
 refine ae (lM (gA (λ_=>false) 100 (List.replicate 2 (listOf xs n)) ?_) λ_=>?_)
 ·rw[lB]
  have hz:s.heap.get? a=some (listOf xs n)/\s.heap.get? a=some (listOf xs n)/\s=s:=⟨hs,hs,rfl⟩
  refine Eq.mpr ?_ hz
  kernel_rfl
 refine ae (uA hs (by rw[hz];exact Nat.le_of_lt (aH hl (by decide))) λt tk htk=>?_)
 refine ae (ah ?_)
 refine ae (lM (s:={s with toks:=tk}) (gA (λ_=>false) 100 (List.replicate 2 (listOf xs n)) ?_) λ_=>?_)
 ·rw[lB]
  have hz:s.heap.get? a=some (listOf xs n)/\s.heap.get? a=some (listOf xs n)/\{s with toks:=tk}={s with toks:=tk}:=⟨hs,hs,rfl⟩
  refine Eq.mpr ?_ hz
  kernel_rfl
 refine ah ⟨plainId_quiet fK _,?_⟩
 rw[hz]
 exact rO hv hl vs.length 0 vs.length _ (by rw[Int.sub_zero];exact Int.le_refl _) (Int.le_refl _) (Int.le_refl _) hs λt tk' h'=>hQ t tk' (ag htk h')
theorem yv {lo:Int} {tl:Tok} (h0:0<=lo) (h1:lo<1000) (hQ:∀t tk,s.toks<=tk->Q (.int (cV true vs x vs.length lo vs.length) t) {s with toks:=tk}):wpAny MM A (call (.builtin "_bisect.bisect_right") [.ref a,.int x u] [("lo",.int lo tl)]) Q E s:=by
 refine wpAny_call ?_
 have h1':=vI
 have h2:=vy
 apply codeAny_call_builtin (id:="_bisect.bisect_right") (b:=Builtin.«_bisect.bisect_right») h1' h2
 refine wpAny_of_eq vw ?_
 refine ae (wpAny_of_eq (show _=pure (Value.ref a,Value.int x u,some (.int lo tl),none,none) from rfl) ?_)
 dsimp only
 refine ae (wpAny_of_eq (rfl:asIndex (.int lo tl)=pure lo) ?_)
 have hf:(!(decide (-(2^63:Int)<=lo)&&decide (lo<(2^63:Int))))=false:=by
  rw[aR (Int.le_trans (by decide) h0),aR (Int.lt_trans h1 (by decide))];rfl
 rw[if_neg (λhh=>by rw[show(!(decide (-(2^63:Int)<=lo)&&decide (lo<(2^63:Int))))=true from hh] at hf;cases hf)]
 refine ae (ah ?_)
 refine ae (ah ?_)
 rw[if_neg (by decide)]
 refine ae (ah ?_)
 refine aM ?_
 rw[if_neg (Int.not_lt.mpr h0),if_neg (by decide)]
 refine ae (lM (gA (λ_=>false) 100 (List.replicate 2 (listOf xs n)) ?_) λ_=>?_)
 ·rw[lB]
  have hz:s.heap.get? a=some (listOf xs n)/\s.heap.get? a=some (listOf xs n)/\s=s:=⟨hs,hs,rfl⟩
  refine Eq.mpr ?_ hz
  kernel_rfl
 refine ae (uA hs (by rw[hz];exact Nat.le_of_lt (aH hl (by decide))) λt tk htk=>?_)
 refine ae (ah ?_)
 refine ae (lM (s:={s with toks:=tk}) (gA (λ_=>false) 100 (List.replicate 2 (listOf xs n)) ?_) λ_=>?_)
 ·rw[lB]
  have hz:s.heap.get? a=some (listOf xs n)/\s.heap.get? a=some (listOf xs n)/\{s with toks:=tk}={s with toks:=tk}:=⟨hs,hs,rfl⟩
  refine Eq.mpr ?_ hz
  kernel_rfl
 refine ah ⟨plainId_quiet fK _,?_⟩
 rw[hz]
 exact rO hv hl vs.length lo vs.length _ (Int.sub_le_self _ h0) h0 (Int.le_refl _) hs λt tk' h'=>hQ t tk' (ag htk h')
end
section
variable {D:Nat} {C:Cx} {st:St} {P:PV} {Q:Value->Shared->Prop} {i j:Nat} {v:AV}
noncomputable def RS.newN (r:RS C st) {h':Heap} {a:Addr} {o:Obj} {v:AO} (F:Fr C.h₀ C.env.locals h' r.m) (N:News C.h₀ C.env.locals h' ((a,o)::r.L)) (ha:∀p∈r.L,p.1≠a) (d:cP r.G (bg (r.T++[(a,o)])) v o) (t:Nat) (ht:r.s.toks<=t):RS C {st with hp:=st.hp++[v]}:=
 {m:=r.m,T:=r.T++[(a,o)],I:=r.I,V:=r.V,va:=r.va,vo:=r.vo,J:=r.J,s:={r.s with heap:=h',toks:=t},fr:=F,nw:=iG q7 N,nd:=gy q7 r.nd ha,bk:=r.bk,loc:=λi x v hx hv=>(r.loc i x v hx hv).imp λ_ h=>h.imp_right λd=>d.mono (λ_ _ g=>g) cI
  cel:=λx i h=>(r.cel x i h).imp λ_ h=>h.imp_left (aV cI),hp:=(r.hp.mono (λ_ _ g=>g) cI).append (.cons d .nil),gb:=r.gb,os:=r.os,tk:=ag r.tk ht}
theorem pP {G:GP} {ρ:List Addr} {ns:List Int} {xs:List Value} (d:aT G ρ (ns.map AV.int) xs) (i:Nat) (v:Int) (h:ns[i]? =some v):∃t,xs.toArray[i]? =some (.int v t):=by
 obtain⟨x,hx,dx⟩:=d.get (i:=i) (v:=.int v) (by rw[aO,h];rfl)
 rw[bb,hx]
 exact dx.intE λt=>⟨t,rfl⟩
theorem ints_size {G:GP} {ρ:List Addr} {ns:List Int} {xs:List Value} (d:aT G ρ (ns.map AV.int) xs):xs.toArray.size=ns.length:=by rw[ay,<-d.length,ai]
theorem Jg {x:Int} (ns:List Int) (e:bq st v (ns.map AV.int)) (hl:ns.length<1000) (h:P (.int (cV false ns x ns.length 0 ns.length)) st):cj (.builtin "_bisect.bisect_left") [v,.int x] [] st P:=⟨λ{D C} H r {us ku Q} d dk k=>
 dk.nilE (d.two λy z d1 d2=>d2.intE λt=>e.e (X:=λy=>WP C (call (.builtin "_bisect.bisect_left") [y,.int x t]) Q r.s) d1 λa xs n ho dx=>xy ho (ints_size dx) (pP dx) hl λt tk htk=>k.int h tk htk)⟩
theorem Jq {x:Int} (ns:List Int) (lo:Int) (e:bq st v (ns.map AV.int)) (hl:ns.length<1000) (h0:0<=lo) (h1:lo<1000) (h:P (.int (cV true ns x ns.length lo ns.length)) st):cj (.builtin "_bisect.bisect_right") [v,.int x] [(("lo":Str),.int lo)] st P:=⟨λ{D C} H r {us ku Q} d dk k=>
 dk.consE λw kx d3 dk=>dk.nilE (d3.intE λt3=>d.two λy z d1 d2=>d2.intE λt=>e.e (X:=λy=>WP C (call (.builtin "_bisect.bisect_right") [y,.int x t] [(("lo":Str),.int lo t3)]) Q r.s) d1 λa xs n ho dx=>yv ho (ints_size dx) (pP dx) hl h0 h1 λt tk htk=>k.int h tk htk)⟩
theorem zq {i:Int} (hs:small i) (h:P (.flt (Float64.ofInt i) none) st):cj (.type "float") [.int i] [] st P:=⟨λ{D C} H r {us ku Q} d dk k=>
 dk.nilE (d.one λx d=>d.intE λ_=>call_float_int_fits (aP hs (by decide+kernel)) (k.flt h _ (aK _)))⟩
theorem Nd {x:UInt64} {q:Option Tok} (h:P (.flt x q) st):cj (.type "float") [.flt x q] [] st P:=⟨λ{D C} H r {us ku Q} d dk k=>
 dk.nilE (d.one λy d1=>d1.fltE λt e=>call_float_float (k r _ _ .rf h (.flt _ _ _ e)))⟩
theorem AA {G:GP} {ρ:List Addr} {ns:List Int} {xs:List Value} (h:IntsAre xs ns):aT G ρ (ns.map AV.int) xs:=by
 induction h with
 |nil=>exact .nil
 |cons h t _ ih=>exact .cons (.int _ _) ih
theorem As (ns:List Int) (e:bq st v (ns.map AV.int)) (hl:ns.length<64) (h:∀q:List Int,q.Perm ns->q.Pairwise (· <= ·)->P (.ref st.new) (st.add (.list (q.map AV.int)))):cj (.builtin "sorted") [v] [] st P:=⟨λ{D C} H r {us ku Q} d dk k=>
 dk.nilE (d.one λx d=>e.e (X:=λx=>WP C (call (.builtin "sorted") [x]) Q r.s) d λa xs n ho dx=>
  kso_sorted r.fr r.nw (bG ho) (rX dx) hl λD vs' ns' c h' F' N' hlt hi' _ hp hs' _=>k (r.newN (v:=.list (ns'.map AV.int)) F' N' (λp hp=>aW (hlt p hp)) ⟨_,_,rfl,AA hi'⟩ r.s.toks (ak _)) _ _ ⟨cI,λ_ h=>h,rfl⟩ (h ns' hp hs') (.ref _ _ (by unfold St.new;rw[r.hlen];exact bF (T:=r.T++[(D,_)]) (p:=(D,_)) List.getElem?_concat_length)))⟩
theorem Lo {x:UInt64} {q:Option Tok} (h:P (.bool true) st):cj (.builtin "isinstance") [.flt x q,.val (.type "float")] [] st P:=⟨λ{D C} H r {us ku Q} d dk k=>
 dk.nilE (d.two λy z d1 d2=>d1.fltE λ_ _=>d2.valE (call_isinstance_yes (Tx:="float") rfl (by kernel_rfl) (by rw[isSubtype_type];kernel_rfl) (k.bool h)))⟩
theorem CA {x:UInt64} {q:Option Tok} (sg:Bool) (m:Nat) (e:Int) (he:Float64.decode x=.fin sg m e) (h:P (.int (Float64.truncOf sg m e)) st):cj (.type "int") [.flt x q] [] st P:=⟨λ{D C} H r {us ku Q} d dk k=>
 dk.nilE (d.one λy d=>d.fltE λ_ _=>call_int_float he (k.int h _ (aK _)))⟩
theorem Ha (vs:List AV) (e:bq st v vs) (hl:vs.length<=100000) (h:P (.ref st.new) (st.add (.list vs))):cj (.type "list") [v] [] st P:=⟨λ{D C} H r {us ku Q} d dk k=>
 dk.nilE (d.one λy d=>e.e (X:=λy=>WP C (call (.type "list") [y]) Q r.s) d λa xs n ho dx=>
  list_copyLP (hsz:=mX dx hl) r.fr r.nw (bG ho) λh' F' hk h0 hL' np=>np.1.elim λc hD=>
   k (r.new (v:=.list vs) (o:=listOf xs.toArray c) F' (λp hp=>(aL.mp hp).elim (λe=>e▸⟨hD,λe=>Nat.lt_irrefl _ (e▸r.fr.ns.lt),h0⟩) λhp=>⟨hk _ _ (r.nw p hp).1,(r.nw p hp).2⟩) (ak _) ⟨xs,c,rfl,dx.mono (λ_ _ g=>g) cI⟩ r.s.toks (ak _)) _ _ r.new_le h r.new_den)⟩
theorem AB (x:Value) (n:Nat):∀acc:Array Value,List.foldl (λx1 x2=>x1++x2) acc (List.replicate n #[x])=acc++(List.replicate n x).toArray:=by
 induction n with
 |zero=>exactλacc=>(Array.append_empty ..).symm
 |succ n ih=>exactλacc=>by rw[List.replicate_succ,List.foldl_cons,ih,List.replicate_succ];apply Array.ext';simp
theorem Ba {G:GP} {ρ:List Addr} {v:AV} {x:Value} (d:aY G ρ v x) (n:Nat):aT G ρ (List.replicate n v) (List.replicate n x):=by
 induction n with
 |zero=>exact .nil
 |succ n ih=>exact .cons d ih
theorem qQ {n:Int} (v:AV) (e:st.at i=some (.list [v])) (h1:n<1000) (h2:-1000<n) (h:P (.ref st.new) (st.add (.list (List.replicate n.toNat v)))):pC .Mult (.ref i) (.int n) st P:=⟨λ{D C} H r {u u' Q} da db k=>
 db.intE λt=>RS.listE r (X:=λu=>WP C (binaryOp .Mult u (.int n t)) Q r.s) da e λa xs n1 ht dx=>dx.one (X:=λxs=>r.T[i]? =some (a,listOf xs.toArray n1)->WP C (binaryOp .Mult (.ref a) (.int n t)) Q r.s) (λx dv ht=>by
  refine mul_list r.fr r.nw (r.get ht) (by omega) (by omega) (by simp;omega) λh' F' N'=>?_
  rw[show(if(List.toArray [x]).isEmpty=true then 0 else _)=_ from rfl,AB x] at N'
  exact k (r.new (v:=.list (List.replicate n.toNat v)) F' N' (ak _) ⟨List.replicate n.toNat x,0,by rw[Array.empty_append];rfl,(Ba dv _).mono (λ_ _ g=>g) cI⟩ r.s.toks (ak _)) _ _ r.new_le h r.new_den) ht⟩
theorem Dg {a b:Int} (h0:b≠0) (hs:small b) (h:P (.tup (.type "tuple") [.int (a.fdiv b),.int (a.fmod b)]) st):cj (.builtin "divmod") [.int a,.int b] [] st P:=⟨λ{D C} H r {us ku Q} d dk k=>
 dk.nilE (d.two λx y d1 d2=>d1.intE λt=>d2.intE λt'=>divmod_int h0 (RS.tup_k (r:=r.toks (r.s.toks+1+1) (aQ _ 2)) (k.le RS.toks_le) (.cons (.int _ _) (.cons (.int _ _) .nil)) rfl h) (.inl (qh hs)))⟩
end
noncomputable def bS {α:Type} (d:α) (xs:List α) (i j:Nat):List α:=(xs.set i (xs.getD j d)).set j (xs.getD i d)
noncomputable def cu (lt:AV->AV->Bool):Nat->List AV->Bool->Nat->Nat->Int->Option (List AV)
 |0,_,_,_,_,_=>none
 |k+1,xs,dn,pos,top,after=>(match dn with
  |true=>if pos<xs.length/2 then
    (if 2*pos+1+1<xs.length/\lt (xs.getD (2*pos+1) .none) (xs.getD (2*pos+1+1) .none)=false then cu lt k (bS .none xs (2*pos+1+1) pos) true (2*pos+1+1) top after
    else cu lt k (bS .none xs (2*pos+1) pos) true (2*pos+1) top after)
   else cu lt k xs false pos top after
  |false=>if xs.length<=pos then none
   else if top<pos/\lt (xs.getD pos .none) (xs.getD ((pos-1)/2) .none)=true then cu lt k (bS .none xs ((pos-1)/2) pos) false ((pos-1)/2) top after
   else if after<0 then some xs else cu lt k xs true after.toNat after.toNat (after-1))
theorem cx:plainId "_heapq.heapify.sift"=true:=by decide+kernel
theorem nN:entryFor table "_heapq.heapify.sift"=some Builtin.«_heapq.heapify.sift»:=entryFor_of_fast (by kernel_rfl)
section
variable {A:Around} {a:Addr} {G:GP} {h₀:Heap} {res:Value} {E:Value->Shared->Prop} {s:Shared} {xs:List Value} {n:Nat}
theorem uG {i:Nat} (h:i<xs.length):xs.toArray[i]? =some (xs.getD i .none):=by
 rw[bb,aB,aq h];rfl
theorem jr {i:Nat} {b:String} (h:i<xs.length):(match xs.toArray[i]? with|some v=>pure v|none=>unsupported b:Sem Value)=pure (xs.getD i .none):=by rw[uG h]
theorem nZ {i j:Nat} {rd:Sem (Array Value)} {ga:Array Value->Nat->Sem Value} {m:Sem Unit} {Q:Unit->Shared->Prop} (hs:s.heap.get? a=some (listOf xs.toArray n)) (hl:xs.length<=1000) (hi:i<xs.length) (hj:j<xs.length)
  (hm:m=(rd>>=λys=>ga ys i>>=λx=>ga ys j>>=λy=>updateSeq a λzs=>(zs.setIfInBounds i y).setIfInBounds j x)) (hrd:∀{Q:Array Value->Shared->Prop},Q xs.toArray s->wpAny MM A rd Q E s) (hga:∀(k:Nat),k<xs.length->ga xs.toArray k=pure (xs.getD k .none))
  (h:∀h' n',h'.get? a=some (listOf (bS .none xs i j).toArray n')->Heap.SameBut a s.heap h'->Q () {s with heap:=h'}):wpAny MM A m Q E s:=by
 rw[hm]
 refine ae (hrd ?_)
 rw[hga i hi,hga j hj]
 refine ae (ah (ae (ah ?_)))
 have e:(bS Value.none xs i j).toArray=(xs.toArray.setIfInBounds i (xs.getD j .none)).setIfInBounds j (xs.getD i .none):=by unfold bS;rw[List.setIfInBounds_toArray,List.setIfInBounds_toArray]
 obtain⟨n',hn'⟩:∃n',(s.heap.update a (Obj.mapSeq λzs=>(zs.setIfInBounds i (xs.getD j .none)).setIfInBounds j (xs.getD i .none))).get? a=some (listOf (bS Value.none xs i j).toArray n'):=by
  rw[e]
  exact⟨_,Heap.get?_update_self (Obj.mapSeq λzs=>(zs.setIfInBounds i (xs.getD j .none)).setIfInBounds j (xs.getD i .none)) hs rfl⟩
 have hz:xs.toArray.size<=sizeLine:=by rw[ay];exact gj (ag hl (by decide))
 exact wpAny_updateSeq hs rfl (h _ n' hn' (bl ..)) hz (by rw[Array.size_setIfInBounds,Array.size_setIfInBounds];exact Nat.le_succ_of_le hz)
theorem rN {α:Type} {d:α} {xs:List α} {i j:Nat}:(bS d xs i j).length=xs.length:=by unfold bS;rw[List.length_set,List.length_set]
theorem qe {α:Type} {d:α} {l:List α} {i:Nat} (h:i<l.length):l.getD i d∈l:=by rw[aB,aq h];exact List.getElem_mem h
theorem mz {α:Type} {d:α} {xs:List α} {i j:Nat} (hi:i<xs.length) (hj:j<xs.length) {x:α} (h:x∈bS d xs i j):x∈xs:=
 (List.mem_or_eq_of_mem_set h).elim (λh=>(List.mem_or_eq_of_mem_set h).elim id λe=>e▸qe hj) λe=>e▸qe hi
theorem aT.swap {vs:List AV} (d:aT G [] vs xs) (i j:Nat):aT G [] (bS .none vs i j) (bS .none xs i j):=(d.set (d.getD j)).set (d.getD i)
structure Off (G:GP) (h₀:Heap) (a:Addr) (h:Heap):Prop where
 g:∀b o,G b o->b≠a/\h.get? b=some o
 z:∀b o,h₀.get? b=some o->b≠a/\h.get? b=some o
theorem Off.same {h h':Heap} (k:Off G h₀ a h) (hs:∀b o,b≠a->h.get? b=some o->h'.get? b=some o):Off G h₀ a h':=⟨λb o g=>⟨(k.g b o g).1,hs b o (k.g b o g).1 (k.g b o g).2⟩,λb o g=>⟨(k.z b o g).1,hs b o (k.z b o g).1 (k.z b o g).2⟩⟩
theorem Off.nb {h:Heap} (k:Off G h₀ a h) (nb:NoneBooked h₀):NoneBooked h:=nb.imp λ_ z=>z.imp (λe=>e.keeps λb o g=>(k.z b o g).2) id
noncomputable abbrev gU (a:Addr) (res:Value) (dn:Bool) (pos top:Nat) (after:Int):Code:=.builtin "_heapq.heapify.sift" ⟨[.ref a,.bool false,.bool dn,.int pos 0,.int top 0,res,.int after 0],[]⟩
variable {R:Result->Shared->Prop} {vs:List AV} {dn:Bool} {pos top:Nat} {after:Int}
noncomputable def C6 (c:Nat->Nat->Bool) (n pos:Nat):Nat:=if 2*pos+1+1<n/\c (2*pos+1) (2*pos+1+1)=false then 2*pos+1+1 else 2*pos+1
theorem Nc {c:Code} {E':Value->Shared->Prop} (hq:c.quiet=true) (h:codeAny MM A c R s):wpAny MM A.in1 (again c) (λfin s'=>match fin with
   | .done f=>R (.ok f) s'
   | .again c'=>c'.quiet=true/\codeAny MM A c' R s') E' s:=ah ⟨hq,h⟩
variable {c:Nat->Nat->Bool} (hs:s.heap.get? a=some (listOf xs.toArray n)) (hl:xs.length<=1000) (lt:∀i j,i<xs.length->j<xs.length->jv A.in1 s .lt (xs.getD i .none) (xs.getD j .none) (c i j))
include hs hl lt
theorem Ef (h1:pos<xs.length/2->∀h' n',h'.get? a=some (listOf (bS .none xs (C6 c xs.length pos) pos).toArray n')->Heap.SameBut a s.heap h'->codeAny MM A (gU a res true (C6 c xs.length pos) top after) R {s with heap:=h'})
  (h2:¬pos<xs.length/2->codeAny MM A (gU a res false pos top after) R s):codeAny MM A (gU a res true pos top after) R s:=by
 refine codeAny_builtin nN ?_
 rw[Around.under_plainId cx _]
 unfold Builtin.«_heapq.heapify.sift»
 dsimp only
 refine ae (ae (wpAny_seqItems hs rfl (ah ?_)))
 rw[if_pos rfl]
 simp only[Int.toNat_natCast,ay]
 by_cases hp:pos<xs.length/2
 ·rw[if_pos hp]
  have h1:=h1 hp
  unfold C6 at h1
  have b1:2*pos+1<xs.length:=by omega
  have b0:pos<xs.length:=by omega
  by_cases hc:2*pos+1+1<xs.length
  ·rw[if_pos hc]
   refine ae (wpAny_of_eq (jr b1) ?_)
   refine ae (wpAny_of_eq (jr hc) ?_)
   rw[if_neg au]
   refine ae (ae (aM (ae (lt _ _ b1 hc ?_))))
   refine wpAny_truthy_bool ?_
   refine ae (ae (wpAny_seqItems hs rfl (ah ?_)))
   rw[if_neg (by rw[ay,bne_self_eq_false];exact au)]
   refine ah ?_
   cases hv:c (2*pos+1) (2*pos+1+1) with
   |true=>
    rw[hv,if_neg (λh=>nomatch h.2)] at h1
    rw[if_neg (by decide)]
    exact ae (nZ hs hl b1 b0 rfl (λhq=>ae (wpAny_seqItems hs rfl (ah hq))) (λk hk=>jr hk) λh' n' g1 g2=>ah ⟨plainId_quiet cx _,h1 h' n' g1 g2⟩)
   |false=>
    rw[hv,if_pos ⟨hc,rfl⟩] at h1
    rw[if_pos (by decide)]
    exact ae (nZ hs hl hc b0 rfl (λhq=>ae (wpAny_seqItems hs rfl (ah hq))) (λk hk=>jr hk) λh' n' g1 g2=>ah ⟨plainId_quiet cx _,h1 h' n' g1 g2⟩)
  ·rw[if_neg λh=>hc h.1] at h1
   rw[if_neg hc]
   exact ae (nZ hs hl b1 b0 rfl (λhq=>ae (wpAny_seqItems hs rfl (ah hq))) (λk hk=>jr hk) λh' n' g1 g2=>ah ⟨plainId_quiet cx _,h1 h' n' g1 g2⟩)
 ·rw[if_neg hp]
  exact ah ⟨plainId_quiet cx _,h2 hp⟩
theorem DZ (hp:pos<xs.length) (h1:top<pos->c pos ((pos-1)/2)=true->∀h' n',h'.get? a=some (listOf (bS .none xs ((pos-1)/2) pos).toArray n')->Heap.SameBut a s.heap h'->codeAny MM A (gU a res false ((pos-1)/2) top after) R {s with heap:=h'})
  (h2:¬(top<pos/\c pos ((pos-1)/2)=true)->(after<0->R (.ok (.ret res)) s)/\(¬after<0->codeAny MM A (gU a res true after.toNat after.toNat (after-1)) R s)):codeAny MM A (gU a res false pos top after) R s:=by
 refine codeAny_builtin nN ?_
 rw[Around.under_plainId cx _]
 unfold Builtin.«_heapq.heapify.sift»
 dsimp only
 refine ae (ae (wpAny_seqItems hs rfl (ah ?_)))
 rw[if_neg au]
 simp only[Int.toNat_natCast,ay]
 have last:(after<0->R (.ok (.ret res)) s)/\(¬after<0->codeAny MM A (gU a res true after.toNat after.toNat (after-1)) R s)->wpAny MM A.in1 (if after<0 then ret res>>=λf=>pure f else again (gU a res true after.toNat after.toNat (after-1))) (λfin s'=>match fin with| .done f=>R (.ok f) s'| .again c'=>c'.quiet=true/\codeAny MM A c' R s') (λe s'=>R (.error e) s') s:=λz=>by
  by_cases ha:after<0
  ·rw[if_pos ha]
   exact ae (ah (ah (z.1 ha)))
  ·rw[if_neg ha]
   exact ah ⟨plainId_quiet cx _,z.2 ha⟩
 by_cases ht:top<pos
 ·rw[if_pos ht]
  have b1:(pos-1)/2<xs.length:=aJ (ag (Nat.div_le_self ..) (Nat.sub_le ..)) hp
  refine ae (wpAny_of_eq (jr hp) ?_)
  refine ae (wpAny_of_eq (jr b1) ?_)
  rw[if_neg au]
  refine ae (ae (aM (ae (lt _ _ hp b1 ?_))))
  refine wpAny_truthy_bool ?_
  refine ae (ae (wpAny_seqItems hs rfl (ah ?_)))
  rw[if_neg (by rw[ay,bne_self_eq_false];exact au)]
  refine ah ?_
  cases hv:c pos ((pos-1)/2) with
  |true=>
   rw[if_pos rfl]
   exact ae (nZ hs hl b1 hp rfl (λhq=>ae (wpAny_seqItems hs rfl (ah hq))) (λk hk=>jr hk) λh' n' g1 g2=>ah ⟨plainId_quiet cx _,h1 ht hv h' n' g1 g2⟩)
  |false=>
   rw[if_neg au]
   exact last (h2 λh=>by rw[hv] at h;cases h.2)
 ·rw[if_neg ht]
  exact last (h2 λh=>ht h.1)
end
section
variable {A:Around} {a:Addr} {G:GP} {h₀:Heap} {res:Value} {R:Result->Shared->Prop} {d:Nat}
theorem rW (hu:A.units+2+d<cLine) (nb:NoneBooked h₀) (k:Nat):∀(vs:List AV) (xs:List Value) (n:Nat) (s:Shared) (dn:Bool) (pos top:Nat) (after:Int) (vs':List AV),cu (bp d) k vs dn pos top after=some vs'->vs.length<=1000->(∀x∈vs,∀y∈vs,dK d x y)->aT G [] vs xs->s.heap.get? a=some (listOf xs.toArray n)->Off G h₀ a s.heap->
  (∀h' xs' n',aT G [] vs' xs'->h'.get? a=some (listOf xs'.toArray n')->Heap.SameBut a s.heap h'->R (.ok (.ret res)) {s with heap:=h'})->codeAny MM A (gU a res dn pos top after) R s:=by
 induction k with
 |zero=>exactλ_ _ _ _ _ _ _ _ _ e=>nomatch e
 |succ k ih=>
  intro vs xs n s dn pos top after vs' e hl ck dx hs off hR
  have hlen:=dx.length
  have hl':xs.length<=1000:=hlen▸hl
  have lt:∀i j,i<xs.length->j<xs.length->jv A.in1 s .lt (xs.getD i .none) (xs.getD j .none) (bp d (vs.getD i .none) (vs.getD j .none)):=λi j hi hj=>
   (jC (off.nb nb) (λb o g=>(off.g b o g).2) d (A:=A.in1) (aJ (Nat.add_le_add_right (aK (A.units+1)) _) hu) _ _ _ _ (ck _ (getD_mem (hlen▸hi)) _ (getD_mem (hlen▸hj))) (dx.getD i) (dx.getD j)).1 .lt
  have go:∀(dn':Bool) (ch:Nat),ch<vs.length->pos<vs.length->cu (bp d) k (bS .none vs ch pos) dn' ch top after=some vs'->∀h' n',h'.get? a=some (listOf (bS .none xs ch pos).toArray n')->Heap.SameBut a s.heap h'->codeAny MM A (gU a res dn' ch top after) R {s with heap:=h'}:=λdn' ch hc hp e h' n' g1 g2=>
   ih _ _ n' _ dn' ch top after vs' e (by rw[rN];exact hl) (λx hx y hy=>ck x (mz hc hp hx) y (mz hc hp hy)) (dx.swap ch pos) g1 (off.same λb o hb e=>(g2.2 b hb).trans e) λh2 xs2 n2 q1 q2 q3=>hR h2 xs2 n2 q1 q2 (g2.trans q3)
  cases dn with
  |true=>
   have e:(if pos<vs.length/2 then(if 2*pos+1+1<vs.length/\bp d (vs.getD (2*pos+1) .none) (vs.getD (2*pos+1+1) .none)=false then cu (bp d) k (bS .none vs (2*pos+1+1) pos) true (2*pos+1+1) top after else cu (bp d) k (bS .none vs (2*pos+1) pos) true (2*pos+1) top after) else cu (bp d) k vs false pos top after)=some vs':=e
   refine Ef hs hl' lt (λhp=>?_) λhp=>?_
   ·rw[<-hlen] at hp⊢
    rw[if_pos hp] at e
    have b:2*pos+1<vs.length/\pos<vs.length:=by omega
    unfold C6
    by_cases hc:2*pos+1+1<vs.length/\bp d (vs.getD (2*pos+1) .none) (vs.getD (2*pos+1+1) .none)=false
    ·rw[if_pos hc] at e⊢
     exact go true _ hc.1 b.2 e
    ·rw[if_neg hc] at e⊢
     exact go true _ b.1 b.2 e
   ·rw[<-hlen] at hp
    rw[if_neg hp] at e
    exact ih vs xs n s false pos top after vs' e hl ck dx hs off hR
  |false=>
   have e:(if vs.length<=pos then none else if top<pos/\bp d (vs.getD pos .none) (vs.getD ((pos-1)/2) .none)=true then cu (bp d) k (bS .none vs ((pos-1)/2) pos) false ((pos-1)/2) top after else if after<0 then some vs else cu (bp d) k vs true after.toNat after.toNat (after-1))=some vs':=e
   by_cases hp:vs.length<=pos
   ·rw[if_pos hp] at e;cases e
   rw[if_neg hp] at e
   have hp:=Nat.not_le.mp hp
   refine DZ hs hl' lt (hlen▸hp) (λht hc=>?_) λhc=>?_
   ·rw[if_pos ⟨ht,hc⟩] at e
    exact go false _ (aJ (ag (Nat.div_le_self ..) (Nat.sub_le ..)) hp) hp e
   ·rw[if_neg hc] at e
    refine⟨λha=>?_,λha=>?_⟩
    ·rw[if_pos ha] at e
     cases e
     exact hR s.heap xs n dx hs (.refl _ _)
    ·rw[if_neg ha] at e
     exact ih vs xs n s true _ _ _ vs' e hl ck dx hs off hR
theorem qB:plainId "_heapq.heapify"=true:=by decide+kernel
theorem qy:entryFor table "_heapq.heapify"=some Builtin.«_heapq.heapify»:=entryFor_of_fast (by kernel_rfl)
theorem qG:plainId "_heapq.heapreplace"=true:=by decide+kernel
theorem qE:entryFor table "_heapq.heapreplace"=some Builtin.«_heapq.heapreplace»:=entryFor_of_fast (by kernel_rfl)
theorem qC:checkBuiltinCall "_heapq.heapify" ⟨[.ref a],[]⟩=pure ():=by kernel_rfl
theorem qA {u:Addr}:checkBuiltinCall "_heapq.heapreplace" ⟨[.ref a,.ref u],[]⟩=pure ():=by kernel_rfl
theorem sG:isSubtype (.type "list") (.type "list")=pure true:=by rw[isSubtype_type];kernel_rfl
variable {s:Shared} {Q:Value->Shared->Prop} {vs vs':List AV} {xs:List Value} {n:Nat} (hu:A.units+2+d<cLine) (nb:NoneBooked h₀) (hl:vs.length<=1000) (dx:aT G [] vs xs) (hs:s.heap.get? a=some (listOf xs.toArray n)) (off:Off G h₀ a s.heap)
include hu nb hl dx hs off
theorem rG (h2:2<=vs.length) (e:cu (bp d) 50 vs true (vs.length/2-1) (vs.length/2-1) ((vs.length/2:Nat)-2:Int)=some vs') (ck:∀x∈vs,∀y∈vs,dK d x y)
  (hQ:∀h' xs' n',aT G [] vs' xs'->h'.get? a=some (listOf xs'.toArray n')->Heap.SameBut a s.heap h'->Q .none {s with heap:=h'}):wpAny MM A (call (.builtin "_heapq.heapify") [.ref a]) Q b9 s:=by
 refine wpAny_call ?_
 have h1:=qB
 have h2':=qy
 apply codeAny_call_builtin (id:="_heapq.heapify") (b:=Builtin.«_heapq.heapify») h1 h2'
 refine wpAny_of_eq qC ?_
 refine ae (ae (wpAny_of_eq (a:=Value.ref a) rfl (ae (ae (wpAny_isInstance (b:=true) ⟨_,hs,rfl⟩ sG ?_)))))
 rw[if_pos rfl]
 refine ah (ah ?_)
 dsimp only
 refine ae (ae (wpAny_seqItems hs rfl (ah ?_)))
 simp only[ay]
 rw[<-dx.length,if_neg (by omega),if_neg (by omega)]
 exact ah ⟨plainId_quiet cx _,rW hu nb 50 vs xs n s true _ _ _ vs' e hl ck dx hs off hQ⟩
theorem rE {v:AV} {u:Addr} (h2:0<vs.length) (e:cu (bp d) 50 (vs.set 0 v) true 0 0 (-1)=some vs') (ck:∀x∈vs.set 0 v,∀y∈vs.set 0 v,dK d x y) (dv:aY G [] v (.ref u))
  (hQ:∀h' xs' n',aT G [] vs' xs'->h'.get? a=some (listOf xs'.toArray n')->Heap.SameBut a s.heap h'->Q (xs.getD 0 .none) {s with heap:=h'}):wpAny MM A (call (.builtin "_heapq.heapreplace") [.ref a,.ref u]) Q b9 s:=by
 refine wpAny_call ?_
 have h1:=qG
 have h2':=qE
 apply codeAny_call_builtin (id:="_heapq.heapreplace") (b:=Builtin.«_heapq.heapreplace») h1 h2'
 refine wpAny_of_eq qA ?_
 refine ae (ae (wpAny_of_eq (a:=()) rfl (ae (wpAny_of_eq (a:=()) rfl ?_))))
 dsimp only
 refine ae (ae (wpAny_isInstance (b:=true) ⟨_,hs,rfl⟩ sG ?_))
 rw[if_pos rfl]
 refine ah (ah ?_)
 dsimp only
 refine ae (ae (wpAny_seqItems hs rfl (ah ?_)))
 rw[uG (dx.length▸h2)]
 obtain⟨n',hn'⟩:∃n',(s.heap.update a (Obj.mapSeq λzs=>zs.setIfInBounds 0 (.ref u))).get? a=some (listOf (xs.set 0 (.ref u)).toArray n'):=by
  rw[<-List.setIfInBounds_toArray]
  exact⟨_,Heap.get?_update_self (Obj.mapSeq λzs=>zs.setIfInBounds 0 (.ref u)) hs rfl⟩
 have sb:Heap.SameBut a s.heap (s.heap.update a (Obj.mapSeq λzs=>zs.setIfInBounds 0 (.ref u))):=bl ..
 have hz:xs.toArray.size<=sizeLine:=mX dx (ag hl (by decide))
 refine ae (wpAny_updateSeq hs rfl ?_ hz (by rw[Array.size_setIfInBounds];exact Nat.le_succ_of_le hz))
 exact ah ⟨plainId_quiet cx _,rW hu nb 50 (vs.set 0 v) (xs.set 0 (.ref u)) n' _ true 0 0 (-1) vs' e (by rw[List.length_set];exact hl) ck (dx.set dv) hn' (off.same λb o hb e=>(sb.2 b hb).trans e) λh2 xs2 n2 q1 q2 q3=>hQ h2 xs2 n2 q1 q2 (sb.trans q3)⟩
end
section
variable {D:Nat} {C:Cx} {st:St} {P:PV} {Q:Value->Shared->Prop} {i j:Nat} {v:AV}
theorem RS.off (r:RS C st) {a:Addr} {o:Obj} (e:r.T[i]? =some (a,o)):Off r.G C.h₀ a r.s.heap:=by
 have z:=r.nw _ (r.tAt e)
 have h0:∀b o',C.h₀.get? b=some o'->b≠a:=λb o' h hb=>by rw[hb,z.2.2] at h;cases h
 refine⟨λb o' g=>⟨λhb=>?_,r.gGet g⟩,λb o' h=>⟨h0 b o' h,r.fr.keep b o' h⟩⟩
 rcases g with g|g
 ·exact h0 b o' (r.bk b o' g) hb
 ·have hn:=r.nd
  rw[bh] at hn
  exact(a7.mp hn).2.2 a (bA (p:=(a,o)) (a0 e)) b (bA (p:=(b,o')) (aC _ g)) hb.symm
theorem oU (H:CxB D C) {d:Nat} (hd:d<10):C.A.units+2+d<cLine:=aJ (Nat.le_of_eq (Nat.add_assoc ..)) (aH (Nat.add_lt_add_left (Nat.add_lt_add_left hd 2) _) (gu H (k:=12) (by decide)))
theorem A8 (vs vs':List AV) (d:Nat) (e:st.at i=some (.list vs)) (hd:d<10) (h2:2<=vs.length) (hl:vs.length<=1000) (ck:∀x∈vs,∀y∈vs,dK d x y) (hp:cz vs=true) (es:cu (bp d) 50 vs true (vs.length/2-1) (vs.length/2-1) ((vs.length/2:Nat)-2:Int)=some vs') (h:P .none (st.put i (.list vs'))):cj (.builtin "_heapq.heapify") [.ref i] [] st P:=⟨λ{D C} H r {us ku Q} dd dk k=>
 dk.nilE (dd.one λx d1=>RS.listE r (X:=λx=>WP C (call (.builtin "_heapq.heapify") [x]) Q r.s) d1 e λa xs n ht dx=>rG (oU H hd) H.nb hl (dx.pure hp) (r.get ht) (r.off ht) h2 es ck λh' xs' n' dx' q1 q2=>
  k (r.upd (v:=.list vs') ht (r.sameFr (r.tAt ht) q2) (r.setNews ht q2 q1) ⟨xs',n',rfl,dx'.mono (λ_ _ g=>g) List.nil_prefix⟩ r.s.toks (ak _)) _ _ r.upd_le h .none)⟩
theorem Ak {c:Value} {us:List AV} (vs vs':List AV) (v0:AV) (d:Nat) (e:st.at i=some (.list vs)) (hd:d<10) (h2:1<=vs.length) (hl:vs.length<=1000) (ck:∀x∈vs.set 0 (.tup c us),∀y∈vs.set 0 (.tup c us),dK d x y) (hp:cz vs=true) (e0:vs[0]? =some v0) (es:cu (bp d) 50 (vs.set 0 (.tup c us)) true 0 0 (-1)=some vs') (h:P v0 (st.put i (.list vs'))):cj (.builtin "_heapq.heapreplace") [.ref i,.tup c us] [] st P:=⟨λ{D C} H r {zs ku Q} dd dk k=>
 dk.nilE (dd.two λx y d1 d2=>RS.listE r (X:=λx=>WP C (call (.builtin "_heapq.heapreplace") [x,y]) Q r.s) d1 e λa xs n ht dx=>(dx.get e0).elim λx0 z=>
  d2.tupE (X:=λy=>WP C (call (.builtin "_heapq.heapreplace") [.ref a,y]) Q r.s) λb ys n2 dd2 g ds=>rE (oU H hd) H.nb hl (dx.pure hp) (r.get ht) (r.off ht) h2 es ck (.tup _ _ _ _ _ _ g ds) λh' xs' n' dx' q1 q2=>
   k (r.upd (v:=.list vs') ht (r.sameFr (r.tAt ht) q2) (r.setNews ht q2 q1) ⟨xs',n',rfl,dx'.mono (λ_ _ g=>g) List.nil_prefix⟩ r.s.toks (ak _)) _ _ r.upd_le h (by rw[aB,z.1];exact z.2.le r.upd_le))⟩
end
noncomputable abbrev ed:Obj:={cls:=.type "object"}
section
variable (A:Around) (R:Result->Shared->Prop) (h:Heap) (g:Array GenState) (d:Drawn) (tk:Nat) (os:OsState)
theorem zR:(cv pw W0 TT (λ_=>false) 200).2 A (.call (.type "object") ⟨[],[]⟩) (λr _ s'=>R r s') (List.replicate 3 ed) ⟨h,g,d,tk,os⟩=
  ((h.push ed).get? h.objs.size=some ed/\(h.push ed).get? h.objs.size=some ed/\(h.push ed).get? h.objs.size=some ed/\R (.ok (.ret (.ref h.objs.size))) ⟨h.push ed,g,d,tk,os⟩):=by kernel_rfl
end
section
variable {D:Nat} {C:Cx} {st:St} {P:PV} {Q:Value->Shared->Prop} {i j:Nat} {v:AV}
theorem DO (h:P (.ref st.new) (st.add (.raw ed))):cj (.type "object") [] [] st P:=⟨λ{D C} H r {us ku Q} d dk k=>dk.nilE (d.nilE (by
 have q:=RS.push_k (o:=ed) (v:=.raw ed) (d:=λ_ _=>rfl) (hf:=rfl) k h
 refine wpAny_call (jZ (λ_=>false) 200 (List.replicate 3 ed) ?_)
 rw[lB]
 generalize r.s=s at*
 obtain⟨hp,g,dr,tk,os⟩:=s
 rw[zR]
 have hz:=a8 hp (o:=ed) rfl
 exact⟨hz,hz,hz,q⟩))⟩
theorem zk (vs:List AV) (e:st.at i=some (.list vs)) (h:P (.ref st.new) (st.add (.liter i 0))):cj (.builtin "iter") [.ref i] [] st P:=⟨λ{D C} H r {us ku Q} d dk k=>
 dk.nilE (d.one λx d=>RS.listE r (X:=λx=>WP C (call (.builtin "iter") [x]) Q r.s) d e λa xs n ht dx=>by
  refine call_function_entry (by decide+kernel) (by decide+kernel) kdk_entry_iter (kdk_args_iter _) ?_
  unfold Builtin.«iter»
  refine ae (m:=someArgs "iter" 1 2 _) (wpAny_of_eq (a:=[Value.ref a]) (by first|rfl|kernel_rfl!) ?_)
  show wpAny _ _ (pyIter (.ref a)>>=_) _ _ _
  refine ae (wpAny_pyIter_list (r.isList ht) ?_)
  exact ah ⟨_,rfl,RS.push_k (o:=bz a 0) (v:=.liter i 0) (d:=λρ p=>⟨a,rfl,aV p (bF ht)⟩) (hf:=rfl) k h⟩)⟩
theorem yU {A:Around} {E:Value->Shared->Prop} {s:Shared} {x y:Addr} {ox:Obj} (hx:s.heap.get? x=some ox) (hy:s.heap.get? y=some ed) (hxy:x≠y) (h:Q (.bool false) s):wpAny MM A (compareOp .Is (.ref x) (.ref y)) Q E s:=by
 show wpAny MM A (isSame (.ref x) (.ref y)>>=λr=>pure (Value.bool r)) Q E s
 unfold isSame
 dsimp only
 rw[if_neg (λh=>hxy (beq_iff_eq.mp h))]
 refine ae (ae (wpAny_load hx (ae (wpAny_load hy ?_))))
 split
 ·rename_i _ h2 _ _;exact absurd h2 (by decide)
 ·exact ah (ah h)
theorem RS.neq (r:RS C st) {p q:Addr×Obj} (h1:r.T[i]? =some p) (h2:r.T[j]? =some q) (hij:i≠j):p.1≠q.1:=λh=>hij (by
 have hn:=r.nd
 rw[bh] at hn
 have e1:=bF h1
 exact(List.getElem?_inj (az.mp e1).1 (a7.mp hn).1).mp (by rw[e1,h];exact(bF h2).symm))
theorem Ge {P:Bool->Prop} (e:st.at j=some (.raw ed)) (hi:i<st.hp.length) (h:P (decide (i=j))):gL .Is (.ref i) (.ref j) st P:=⟨λ{D C} H r {u w Q} da db k=>
 r.refE (X:=λw=>WP C (compareOp .Is u w) Q r.s) db e λb o hb eo=>r.refE (X:=λu=>WP C (compareOp .Is u (.ref b)) Q r.s) da (aq hi) λa oa ha da=>by
  by_cases hij:i=j
  ·subst hij
   cases ha.symm.trans hb
   rw[aR rfl] at h
   exact wpAny_is_ref_self (k r _ .rf h)
  ·rw[decide_eq_false hij] at h
   have hb':=r.get hb
   rw[eo] at hb'
   exact yU (r.get ha) hb' (r.neq ha hb hij) (k r _ .rf h)⟩
theorem DT {c:Value} {us:List AV} {P:Bool->Prop} (e:st.at j=some (.raw ed)) (h:P false):gL .Is (.tup c us) (.ref j) st P:=⟨λ{D C} H r {u w Q} da db k=>
 r.refE (X:=λw=>WP C (compareOp .Is u w) Q r.s) db e λb o hb eo=>da.tupE λa ys n dd g ds=>by
  have z:=(r.off hb).g _ _ g
  have hb':=r.get hb
  rw[eo] at hb'
  exact yU z.2 hb' z.1 (k r _ .rf h)⟩
end
noncomputable abbrev ff (pos:Nat):Obj:={cls:=.type "list_iterator",data:=.fields #[.none,.int pos 0]}
noncomputable def jy (gt:AV->AV->Bool):List AV->AV->AV
 |[],b=>b
 |x::xs,b=>jy gt xs (if gt x b=true then x else b)
section
variable {A:Around} {E:Value->Shared->Prop} {s:Shared} {G:GP} {I S l:Addr} {n i d:Nat} {R:Result->Shared->Prop} {h₀:Heap} {vs:List AV} {xs:List Value} {dv:Value}
theorem fR {xs:Array Value} {Q:Option Value->Shared->Prop} (hh:A.handled=none) (hi:s.heap.get? I=some (bz l i)) (hl:s.heap.get? l=some (listOf xs n))
  (h1:∀x h',xs[i]? =some x->h'.get? I=some (bz l (i+1))->Heap.SameBut I s.heap h'->Q (some x) {s with heap:=h'})
  (h2:∀h',xs[i]? =none->h'.get? I=some (ff i)->(∀b o,b≠I->s.heap.get? b=some o->h'.get? b=some o)->Q none {s with heap:=h'}):wpAny MM A (pyNext (.ref I)) Q E s:=by
 have ty:s.TypeIs (.ref I) "list_iterator":=⟨_,hi,rfl⟩
 unfold pyNext
 refine ae (wpAny_attempt (wpAny_callSpecial?_slot (name:=Str.ofString "__next__") ty slot_listiter_next (wpAny_call_entry slot_listiter_next ty entry_listiter_next ?_ (args_listiter_next _))))
 show wpAny _ _ (field (.ref I) 0>>=_) _ _ s
 refine ae (wpAny_field hi rfl (x:=.ref l) rfl ?_)
 rw[if_neg (show¬((Value.ref l==Value.none)=true) from au)]
 show wpAny _ _ (field (.ref I) 1>>=_) _ _ s
 refine ae (wpAny_field hi rfl (x:=.int i 0) rfl ?_)
 show wpAny _ _ (seqItems? (.ref l)>>=_) _ _ s
 refine ae (wpAny_seqItems hl rfl ?_)
 simp only[Int.toNat_natCast]
 cases hx:xs[i]? with
 |some x=>exact ae (wpAny_setField hi rfl (Nat.lt_succ_self 1) (ah ⟨x,rfl,ah (h1 x _ hx (Heap.get?_update_self _ hi rfl) (bl ..))⟩))
 |none=>
  refine ae (wpAny_rule (ae (wpAny_setField hi rfl Nat.zero_lt_two ?_)))
  exact lG (A:=A.in1) hh λe h' hk ho=>ho.elim λo ho=>kM ho.1 ho.2 (h2 _ hx (hk _ _ (Heap.get?_update_self _ hi rfl)) λb o hb e=>hk _ _ (((bl ..).2 b hb).trans e))
theorem jW:(toString "max"++toString ".loop":String)="max.loop":=by decide
noncomputable def pM (G:GP) (h₀:Heap) (I S:Addr) (h:Heap):Prop:=Off G h₀ I h/\Off G h₀ S h
theorem pM.same {h h':Heap} (k:pM G h₀ I S h) (hs:∀b o,b≠I->b≠S->h.get? b=some o->h'.get? b=some o):pM G h₀ I S h':=
 ⟨⟨λb o g=>⟨(k.1.g b o g).1,hs b o (k.1.g b o g).1 (k.2.g b o g).1 (k.1.g b o g).2⟩,λb o g=>⟨(k.1.z b o g).1,hs b o (k.1.z b o g).1 (k.2.z b o g).1 (k.1.z b o g).2⟩⟩,⟨λb o g=>⟨(k.2.g b o g).1,hs b o (k.1.g b o g).1 (k.2.g b o g).1 (k.1.g b o g).2⟩,λb o g=>⟨(k.2.z b o g).1,hs b o (k.1.z b o g).1 (k.2.z b o g).1 (k.1.z b o g).2⟩⟩⟩
noncomputable abbrev HA (I S:Addr) (dv:Value):Code:=.builtin "max.loop" ⟨[.ref I,.none,.ref S],[("default",dv)]⟩
section
variable (hh:A.handled=none) (hu:A.units+2+d<cLine) (nb:NoneBooked h₀) (hIS:I≠S) (hlI:l≠I) (hlS:l≠S) (ck:∀x∈vs,∀y∈vs,dK d x y) (dx:aT G [] vs xs)
include hh hu nb hIS hlI hlS ck dx
theorem z9:∀(k i:Nat) (bv:AV) (vb:Value) (c:Nat) (s:Shared),vs.length-i=k->bv∈vs->aY G [] bv vb->s.heap.get? S=some (listOf #[vb,vb] c)->s.heap.get? I=some (bz l i)->s.heap.get? l=some (listOf xs.toArray n)->pM G h₀ I S s.heap->
  (∀h' vb' i',aY G [] (jy (eR d) (vs.drop i) bv) vb'->h'.get? I=some (ff i')->(∀b o,b≠I->b≠S->s.heap.get? b=some o->h'.get? b=some o)->R (.ok (.ret vb')) {s with heap:=h'})->codeAny MM A (HA I S dv) R s:=by
 intro k
 induction k with
 |zero=>
  intro i bv vb c s hk hbv db hS hI hl off hR
  have hle:=Nat.le_of_sub_eq_zero hk
  refine codeAny_builtin F.entry_max_loop ?_
  rw[Around.under_plainId F.plain_max_loop _]
  refine ae (wpAny_seqItems hS rfl ?_)
  refine ae (wpAny_tryCatch (fR hh hI hl (λx h' e=>?_) λh' e q1 q2=>?_))
  ·rw[bb,List.getElem?_eq_none (dx.length▸hle)] at e;cases e
  ·have hS':=q2 _ _ (Ne.symm hIS) hS
   refine ae (wpAny_updateSeq hS' rfl (ae (wpAny_letGo (ah ?_))))
   have sb:Heap.SameBut S h' (h'.update S (Obj.mapSeq λ_=>#[])):=bl ..
   refine hR _ vb _ ?_ ((sb.2 I hIS).trans q1) λb o hb hb2 e=>(sb.2 b hb2).trans (q2 b o hb e)
   rw[List.drop_eq_nil_of_le hle]
   exact db
 |succ k ih=>
  intro i bv vb c s hk hbv db hS hI hl off hR
  have hi:i<vs.length:=Nat.lt_of_sub_eq_succ hk
  refine codeAny_builtin F.entry_max_loop ?_
  rw[Around.under_plainId F.plain_max_loop _]
  refine ae (wpAny_seqItems hS rfl ?_)
  obtain⟨y,hy,dy⟩:=dx.get (aq hi)
  refine ae (wpAny_tryCatch (fR hh hI hl (λx h' e q1 sb=>?_) λh' e q1 q2=>?_))
  ·rw[bb,hy] at e
   cases e
   have hkeep:∀b o,b≠I->s.heap.get? b=some o->h'.get? b=some o:=λb o hb e=>(sb.2 b hb).trans e
   have hS':=hkeep _ _ (Ne.symm hIS) hS
   have hl':=hkeep _ _ hlI hl
   have off':pM G h₀ I S h':=off.same λb o hb _ e=>hkeep b o hb e
   rw[List.drop_eq_getElem_cons hi] at hR
   have hmem:=List.getElem_mem hi
   have hk':vs.length-(i+1)=k:=by rw[Nat.sub_succ,hk];rfl
   generalize vs[i]=xv at dy hR hmem
   have z:=(jC (s:={s with heap:=h'}) (off'.1.nb nb) (λb o g=>(off'.1.g b o g).2) d (A:=A.in1) (aJ (Nat.add_le_add_right (aK (A.units+1)) _) hu) _ _ _ _ (ck _ hmem _ hbv) dy db).1
   refine ae (ah ?_)
   refine ae (wpAny_tryCatch (aM (ae (z .gt ?_))))
   refine ae (aM (wpAny_truthy_bool ?_))
   refine ae (wpAny_letGo (ah ?_))
   have hR:∀h' vb' i',aY G [] (jy (eR d) (vs.drop (i+1)) (if eR d xv bv=true then xv else bv)) vb'->h'.get? I=some (ff i')->(∀b o,b≠I->b≠S->s.heap.get? b=some o->h'.get? b=some o)->R (.ok (.ret vb')) {s with heap:=h'}:=hR
   cases hb:jO d .gt xv bv with
   |true=>
    rw[show eR d xv bv=true from hb,if_pos rfl] at hR
    simp only[if_true]
    refine ae (wpAny_updateSeq hS' rfl (ae (wpAny_letGo ?_)))
    rw[jW]
    have hk2:∀b o,b≠S->h'.get? b=some o->(h'.update S (Obj.mapSeq λ_=>#[y,y])).get? b=some o:=λb o hb e=>((bl ..).2 b hb).trans e
    exact ah ⟨plainId_quiet F.plain_max_loop _,ih (i+1) xv y _ _ hk' hmem dy (Heap.get?_update_self (Obj.mapSeq λ_=>#[y,y]) hS' rfl) (hk2 _ _ hIS q1) (hk2 _ _ hlS hl') (off'.same λb o _ hb e=>hk2 b o hb e) λh2 vb' i' w1 w2 w3=>hR h2 vb' i' w1 w2 λb o hb hb2 e=>w3 b o hb hb2 (hk2 b o hb2 (hkeep b o hb e))⟩
   |false=>
    rw[show eR d xv bv=false from hb,if_neg au] at hR
    simp only[Bool.false_eq_true,if_false]
    refine ae (wpAny_letGo ?_)
    rw[jW]
    exact ah ⟨plainId_quiet F.plain_max_loop _,ih (i+1) bv vb c _ hk' hbv db hS' q1 hl' off' λh2 vb' i' w1 w2 w3=>hR h2 vb' i' w1 w2 λb o hb hb2 e=>w3 b o hb hb2 (hkeep b o hb e)⟩
  ·rw[bb,hy] at e;cases e
noncomputable def wV (gt:AV->AV->Bool) (d:AV) (l:List AV):AV:=match l with
 |[]=>d
 |x::r=>jy gt r x
theorem xK {c:Nat} {dav:AV} {ρ:List Addr} (hS:s.heap.get? S=some (listOf #[] c)) (hI:s.heap.get? I=some (bz l i)) (hl:s.heap.get? l=some (listOf xs.toArray n)) (off:pM G h₀ I S s.heap) (dd:aY G ρ dav dv)
  (hR:∀h' vb' i',aY G ρ (wV (eR d) dav (vs.drop i)) vb'->h'.get? I=some (ff i')->(∀b o,b≠I->b≠S->s.heap.get? b=some o->h'.get? b=some o)->R (.ok (.ret vb')) {s with heap:=h'}):codeAny MM A (HA I S dv) R s:=by
 refine codeAny_builtin F.entry_max_loop ?_
 rw[Around.under_plainId F.plain_max_loop _]
 refine ae (wpAny_seqItems hS rfl ?_)
 refine ae (wpAny_tryCatch (fR hh hI hl (λx h' e q1 sb=>?_) λh' e q1 q2=>?_))
 ·rw[bb] at e
  have hi:i<vs.length:=dx.length▸(az.mp e).1
  obtain⟨y,hy,dy⟩:=dx.get (aq hi)
  cases hy.symm.trans e
  have hkeep:∀b o,b≠I->s.heap.get? b=some o->h'.get? b=some o:=λb o hb e=>(sb.2 b hb).trans e
  have hS':=hkeep _ _ (Ne.symm hIS) hS
  have hk2:∀b o,b≠I->b≠S->s.heap.get? b=some o->(h'.update S (Obj.mapSeq λ_=>#[x,x])).get? b=some o:=λb o h1 h2 e=>((bl ..).2 b h2).trans (hkeep b o h1 e)
  refine ae (ah ?_)
  refine ae (wpAny_updateSeq hS' rfl ?_)
  rw[jW]
  rw[List.drop_eq_getElem_cons hi] at hR
  exact ah ⟨plainId_quiet F.plain_max_loop _,z9 hh hu nb hIS hlI hlS ck dx _ (i+1) vs[i] x _ _ rfl (List.getElem_mem hi) dy (Heap.get?_update_self (Obj.mapSeq λ_=>#[x,x]) hS' rfl) (((bl ..).2 I hIS).trans q1) (hk2 _ _ hlI hlS hl) (off.same hk2) λh4 vb' i' w1 w2 w3=>hR h4 vb' i' (w1.mono (λ_ _ g=>g) List.nil_prefix) w2 λb o hb hb2 e=>w3 b o hb hb2 (hk2 b o hb hb2 e)⟩
 ·rw[bb] at e
  rw[List.drop_eq_nil_of_le (dx.length▸List.getElem?_eq_none_iff.mp e)] at hR
  exact ae (wpAny_rule (ah (hR h' dv _ dd q1 λb o hb _ e=>q2 b o hb e)))
end
theorem vB {a:Addr} {v:Value}:checkBuiltinCall "max" ⟨[.ref a],[("default",v),("key",.none)]⟩=pure ():=by kernel_rfl
theorem xT {Q:Value->Shared->Prop} {dav:AV} {ρ:List Addr} (hh:A.handled=none) (hu:A.units+2+d<cLine) (nb:NoneBooked h₀) (hlI:l≠I) (ck:∀x∈vs,∀y∈vs,dK d x y) (dx:aT G [] vs xs) (hI:s.heap.get? I=some (bz l i)) (hl:s.heap.get? l=some (listOf xs.toArray n)) (off:Off G h₀ I s.heap) (dd:aY G ρ dav dv)
  (hR:∀h' vb' i',aY G ρ (wV (eR d) dav (vs.drop i)) vb'->h'.get? I=some (ff i')->(∀b o,b≠I->s.heap.get? b=some o->h'.get? b=some o)->Q vb' {s with heap:=h'}):wpAny MM A (call (.builtin "max") [.ref I] [("default",dv),("key",.none)]) Q b9 s:=by
 refine wpAny_call ?_
 have e1:=F.plain_max
 have e2:=F.entry_max
 apply codeAny_call_builtin (id:="max") (b:=Builtin.«max») e1 e2
 refine wpAny_of_eq vB ?_
 refine ae (wpAny_of_eq (show Builtin.Builtins.bindParams "max" ["key","default"] 0 ⟨[],[("default",dv),("key",.none)]⟩=pure [some .none,some dv] from rfl) ?_)
 refine ae (ah ?_)
 refine ae (wpAny_pyIter_listiter ⟨_,hI,rfl,rfl⟩ ?_)
 refine ae (wpAny_newObj_type ?_)
 rw[jW]
 have push:∀b o,s.heap.get? b=some o->(s.heap.push {cls:=.type "list",data:=.seq (#[]:Array Value)}).get? b=some o:=λb o e=>aD _ e
 have ne:∀b o,s.heap.get? b=some o->b≠s.heap.objs.size:=λb o e hh=>Nat.lt_irrefl _ (hh▸ba e)
 exact ah ⟨plainId_quiet F.plain_max_loop _,xK (A:=A) hh hu nb (ne _ _ hI) hlI (ne _ _ hl) ck dx (a8 _ rfl) (push _ _ hI) (push _ _ hl) ⟨off.same λb o _ e=>push b o e,⟨λb o g=>⟨ne _ _ (off.g b o g).2,push _ _ (off.g b o g).2⟩,λb o g=>⟨ne _ _ (off.z b o g).2,push _ _ (off.z b o g).2⟩⟩⟩ dd λh' vb' i' w0 w1 w2=>hR h' vb' i' w0 w1 λb o hb e=>w2 b o hb (ne _ _ e) (push _ _ e)⟩
end
section
variable {D:Nat} {C:Cx} {st:St} {P:PV} {Q:Value->Shared->Prop} {i j:Nat} {v:AV}
theorem zT {h₀ h h':Heap} {L a:Addr} {o o':Obj} {l l':List (Addr×Obj)} (u:Upd a o o' l l') (hk:∀b x,b≠a->h.get? b=some x->h'.get? b=some x) (ho:h'.get? a=some o'):News h₀ L h l->News h₀ L h' l':=by
 induction u with
 |head hp=>exactλN q hq=>(aL.mp hq).elim (λe=>e▸⟨ho,(N _ (.head _)).2⟩) λhq=>⟨hk _ _ (hp q hq) (N _ (.tail _ hq)).1,(N _ (.tail _ hq)).2⟩
 |tail hp _ ih=>exactλN q hq=>(aL.mp hq).elim (λe=>e▸⟨hk _ _ hp (N _ (.head _)).1,(N _ (.head _)).2⟩) λhq=>ih (λp hp=>N p (.tail _ hp)) q hq
noncomputable def RS.updK (r:RS C st) {i:Nat} {a:Addr} {o o':Obj} {v:AO} {h':Heap} (e:r.T[i]? =some (a,o)) (hk:∀b x,b≠a->r.s.heap.get? b=some x->h'.get? b=some x) (ho:h'.get? a=some o') (d:cP r.G r.ρ v o'):RS C {st with hp:=st.hp.set i v}:=
 r.upd e ⟨r.fr.ns.at' λx ex=>hk _ x (Ne.symm (r.nw _ (r.tAt e)).2.1) ex,λb x h=>hk b x (λq=>by rw[q,(r.nw _ (r.tAt e)).2.2] at h;cases h) (r.fr.keep b x h),r.fr.above⟩ (zT (r.updL e) hk ho r.nw) d r.s.toks (ak _)
theorem RS.updK_le {r:RS C st} {i:Nat} {a:Addr} {o o':Obj} {v:AO} {h':Heap} {e:r.T[i]? =some (a,o)} {hk:∀b x,b≠a->r.s.heap.get? b=some x->h'.get? b=some x} {ho:h'.get? a=some o'} {d:cP r.G r.ρ v o'}:Le r (r.updK e hk ho d):=r.upd_le
theorem Hb (sd l i:Nat) (vs:List AV) (d:Nat) {it:Nat} (hne:it≠l) (e1:st.at it=some (.liter l i)) (e2:st.at l=some (.list vs)) (hd:d<10) (hp:cz vs=true) (ck:∀x∈vs,∀y∈vs,dK d x y) (h:∀i',P (wV (eR d) (.ref sd) (vs.drop i)) (st.put it (.raw (ff i')))):cj (.builtin "max") [.ref it] [(("default":Str),.ref sd),(("key":Str),.none)] st P:=⟨λ{D C} H r {us ku Q} dd dk k=>
 dk.consE λu1 kx d1 dk=>dk.consE λu2 kx d2 dk=>dk.nilE (d2.noneE (dd.one λx dx=>r.refE (X:=λx=>WP C (call (.builtin "max") [x] [(("default":Str),u1),(("key":Str),.none)]) Q r.s) dx e1 λa o ht od=>od.elim λal z=>by
  obtain⟨rfl,eal⟩:=z
  refine r.atE e2 λl' o2 hl o2d=>o2d.elim λxs y=>y.elim λn y=>?_
  obtain⟨rfl,dxs⟩:=y
  cases (bF hl).symm.trans eal
  exact xT H.hh (oU H hd) H.nb (r.neq hl ht hne.symm) ck (dxs.pure hp) (r.get ht) (r.get hl) (r.off ht) d1 λh' vb' i' w0 w1 w2=>k (r.updK (v:=.raw (ff i')) ht w2 w1 rfl) _ _ RS.updK_le (h i') (w0.le RS.updK_le)))⟩
end
noncomputable abbrev o6 (T:String):Prop:=["enumerate","zip","dict_itemiterator","dict_reverseitemiterator","odict_iterator","itertools.zip_longest","itertools.pairwise"].contains T=false
theorem qc {M:Model} {A:Around} {E:Value->Shared->Prop} {s:Shared} {I:Addr} {o:Obj} {T:String} (ho:s.heap.get? I=some o) (hc:o.cls=.type T) (hn:o6 T) (e:Expr) (v:Value) {Q:Unit->Shared->Prop} (hQ:Q () s):wpAny M A (letOwnedTupleGo e (.ref I) v) Q E s:=by
 have key:∀a:Addr,wpAny M A (load I>>=λo=>match o.cls,o.data with
   | .type n,.fields vs=>if(["enumerate","zip","dict_itemiterator","dict_reverseitemiterator","odict_iterator","itertools.zip_longest","itertools.pairwise"].contains n&&vs[0]? ==some (rawInt a))=true then rule "for.unpacks-the-owned-tuple">>=λ_=>updateField I 0 .none else pure ()
   |_,_=>pure ()) Q E s:=λa=>by
  refine ae (wpAny_load ho ?_)
  rw[hc]
  cases o.data with
  |fields vs=>
   simp only[hn,Bool.false_and]
   exact ah hQ
  |_=>exact ah hQ
 unfold letOwnedTupleGo
 split
 ·cases v with
  |ref a=>exact key a
  |_=>exact ah hQ
 ·cases v with
  |ref a=>exact key a
  |_=>exact ah hQ
 ·exact ah hQ
section
variable {D:Nat} {C:Cx} {st:St} {J0:JS} {I:Addr}
noncomputable def RS.re1 (r:RS C st) {o o':Obj} (ej:r.J=(I,o)::J0) {h':Heap} (hk:∀b x,b≠I->r.s.heap.get? b=some x->h'.get? b=some x) (h1:h'.get? I=some o') (t:Nat) (ht:r.s.toks<=t):RS C st:=
 have hn:(bg ((I,o)::J0)).Nodup:=ej▸RS.jnd
 r.reJ (js:=(I,o')::J0) (W:=[I]) (λb hb=>by rw[ej,aN.mp hb];exact .head _) (λb x hb e=>hk b x (λe=>hb (e▸.head _)) e)
  (λz hz=>(aL.mp hz).elim (λe=>e▸⟨h1,by rw[ej];exact .head _⟩) λhz=>⟨hk _ _ (λe=>(List.nodup_cons.mp hn).1 (e▸bA (p:=z) hz)) (RS.jGet (by rw[ej];exact .tail _ hz)),by rw[ej];exact .tail _ (bA (p:=z) hz)⟩) hn t ht
noncomputable def RS.out1 (r:RS C st) {o:Obj} (ej:r.J=(I,o)::J0) {h':Heap} (hk:∀b x,b≠I->r.s.heap.get? b=some x->h'.get? b=some x) (t:Nat) (ht:r.s.toks<=t):RS C st:=
 have hn:(bg ((I,o)::J0)).Nodup:=ej▸RS.jnd
 r.reJ (js:=J0) (W:=[I]) (λb hb=>by rw[ej,aN.mp hb];exact .head _) (λb x hb e=>hk b x (λe=>hb (e▸.head _)) e)
  (λz hz=>⟨hk _ _ (λe=>(List.nodup_cons.mp hn).1 (e▸bA (p:=z) hz)) (RS.jGet (by rw[ej];exact .tail _ hz)),by rw[ej];exact .tail _ (bA (p:=z) hz)⟩) (List.nodup_cons.mp hn).2 t ht
theorem RS.pushJ_hd (r:RS C st) {o:Obj} (hf:o.isFreed=false):∃r':RS C st,r'.s={r.s with heap:=r.s.heap.push o}/\Lw r r'/\r'.J=[(r.s.heap.objs.size,o)]++r.J:=
 ⟨r.addJ (a:=r.s.heap.objs.size) (o:=o) (r.fr.push o) (News.push r.fr r.nw o hf) (ak _) r.s.toks (ak _),rfl,⟨aw,λ_ h=>h⟩,rfl⟩
structure qo (C:Cx) {st₀:St} (r₀:RS C st₀) (I:Addr) (S:Nat->Obj->Prop) (items:List AV) (chk:St->Prop):Prop where
 item:∀{C':Cx} {st:St} (r:RS C' st) {i:Nat} {o:Obj} {v:AV} {Q:Option Value->Shared->Prop},C'.A=C.A->C'.B=C.B->Lw r₀ r->chk st->S i o->r.s.heap.get? I=some o->items[i]? =some v->
  (∀u o' h' tk,r.s.toks<=tk->r.D v u->S (i+1) o'->h'.get? I=some o'->(∀b x,b≠I->r.s.heap.get? b=some x->h'.get? b=some x)->Q (some u) {r.s with heap:=h',toks:=tk})->WP C' (pyNext (.ref I)) Q r.s
 done:∀{C':Cx} {st:St} (r:RS C' st) {o:Obj} {Q:Option Value->Shared->Prop},C'.A=C.A->C'.B=C.B->Lw r₀ r->chk st->S items.length o->r.s.heap.get? I=some o->(∀h' tk,r.s.toks<=tk->(∀b x,b≠I->r.s.heap.get? b=some x->h'.get? b=some x)->Q none {r.s with heap:=h',toks:=tk})->WP C' (pyNext (.ref I)) Q r.s
 cls:∀i o,S i o->∃T,o.cls=.type T/\o6 T
 self:∀(s:Shared) (o:Obj) (Q:Value->Shared->Prop),s.heap.get? I=some o->S 0 o->Q (.ref I) s->WP C (pyIter (.ref I)) Q s
theorem qo.it {r₀:RS C st} {S:Nat->Obj->Prop} {items:List AV} {chk:St->Prop} (Z:qo C r₀ I S items chk):It C r₀ I (λi js=>∃o,js=[(I,o)]/\S i o) items chk where
 item:=λ{C' st1} r {J i js v Q} hA hB l ej hc hz hv k=>by
  obtain⟨o,rfl,hS⟩:=hz
  exact Z.item r hA hB l hc hS (RS.jGet (p:=(I,o)) (by rw[ej];exact .head _)) hv λu o' h' tk ht d hS' ho hk=>k (r.re1 ej hk ho tk ht) u [(I,o')] ⟨aw,λ_ h=>h⟩ d ⟨o',rfl,hS'⟩ rfl
 done:=λ{C' st1} r {J js Q} hA hB l ej hc hz k=>by
  obtain⟨o,rfl,hS⟩:=hz
  exact Z.done r hA hB l hc hS (RS.jGet (p:=(I,o)) (by rw[ej];exact .head _)) λh' tk ht hk=>k (r.out1 ej hk tk ht) ⟨aw,λ_ h=>h⟩ rfl
 go:=λt x s js i v Q hp hS hq=>by
  obtain⟨o,rfl,hS⟩:=hS
  obtain⟨T,hc,hn⟩:=Z.cls i o hS
  exact qc (hp _ (.head _)) hc hn _ _ hq
 self:=λs js Q hp hS hq=>by
  obtain⟨o,rfl,hS⟩:=hS
  exact Z.self s o Q (hp _ (.head _)) hS hq
theorem RS.iter1 {r:RS C st} {o:Obj} {S:Nat->Obj->Prop} {items:List AV} {chk:St->Prop} {K:List AV->(St->Prop)->Prop} {Q:Value->Shared->Prop} (hf:o.isFreed=false) (hS:S 0 o) (h:K items chk) (Z:∀r':RS C st,Lw r r'->qo C r' r.s.heap.objs.size S items chk)
  (k:∀I items chk S js (r':RS C st),K items chk->Lw r r'->r'.J=js++r.J->S 0 js->It C r' I S items chk->Q (.ref I) r'.s):Q (.ref r.s.heap.objs.size) {r.s with heap:=r.s.heap.push o}:=
 (r.pushJ_hd hf).elim λr' z=>z.1▸k r.s.heap.objs.size items chk _ [(r.s.heap.objs.size,o)] r' h z.2.1 z.2.2 ⟨o,rfl,hS⟩ (Z r' z.2.1).it
theorem fC {v:AV} (vs:List AV) {K:List AV->(St->Prop)->Prop} (e:bq st v vs) (h:K vs λst=>bq st v vs):iw v st K:=⟨λ{D C} H r {u Q} d k=>
 e.e (X:=λu=>r.D v u->WP C (pyIter u) Q r.s) d (λa xs n ho dx d=>wpAny_pyIter_list (bG ho) (RS.iter1 (o:=bz a 0) (S:=λi o=>o=bz a i) (items:=vs) rfl rfl h (λr' l=>{
  item:=λ{C' st1} r1 {i o w Q} hA hB l1 hc hS hi hw kk=>by
   subst hS
   refine hc.e (X:=λu=>u=.ref a->_) (d.lwB hB (l.trans l1)) (λa' xs n ho dx ea=>?_) rfl
   cases ea
   obtain⟨x,hx,d⟩:=dx.get hw
   refine fR (hA▸H.hh) hi ho (λy h' e q1 sb=>?_) λh' e=>?_
   ·rw[bb,hx] at e
    cases e
    exact kk _ _ h' r1.s.toks (ak _) d rfl q1 λb z hb e=>(sb.2 b hb).trans e
   ·rw[bb,hx] at e;cases e
  done:=λ{C' st1} r1 {o Q} hA hB l1 hc hS hi kk=>by
   subst hS
   refine hc.e (X:=λu=>u=.ref a->_) (d.lwB hB (l.trans l1)) (λa' xs n ho dx ea=>?_) rfl
   cases ea
   refine fR (hA▸H.hh) hi ho (λy h' e=>?_) λh' e q1 q2=>kk h' r1.s.toks (ak _) q2
   rw[bb,List.getElem?_eq_none (Nat.le_of_eq dx.length.symm)] at e;cases e
  cls:=λi o hS=>⟨"list_iterator",by rw[hS],by decide⟩
  self:=λs o Q ho hS hq=>wpAny_pyIter_listiter (l:=a) (i:=0) ⟨_,hS▸ho,rfl,rfl⟩ hq}) k)) d⟩
theorem qo.of_walks {r₀:RS C st} {n:Nat} {Pv:Nat->Value->Prop} {St':Nat->Heap->Prop} {items:List AV} (W:Walks pw W0 C.A I [I] [I] n Pv St') (hI:∀i h,St' i h->∃o,h.get? I=some o) (hc:∀i h o,St' i h->h.get? I=some o->∃T,o.cls=.type T/\o6 T)
  (hn:items.length=n) (hP:∀i v u,items[i]? =some v->Pv i u->∀{G ρ},aY G ρ v u):qo C r₀ I (λi o=>∃h0:Heap,h0.get? I=some o/\St' i h0) items λ_=>True where
 item:=λ{C' st1} r {i o v Q} hA _ _ _ hS ho hv k=>hS.elim λh0 z=>c9 ((show Walks pw W0 C'.A I [I] [I] n Pv St' from hA▸W).item i r.s _ _ (hn▸(az.mp hv).1) (W.frame _ _ _ z.2 λb hb x hx=>by rw[aN.mp hb] at hx⊢;rw[z.1] at hx;cases hx;exact ho) λu h' tk hu hst hk ht=>(hI _ _ hst).elim λo' ho'=>
  k u o' h' tk ht (hP i v u hv hu) ⟨h',ho',hst⟩ ho' λb x hb e=>hk b x (λhm=>hb (aN.mp hm)) e)
 done:=λ{C' st1} r {o Q} hA _ _ _ hS ho k=>hS.elim λh0 z=>c9 ((show Walks pw W0 C'.A I [I] [I] n Pv St' from hA▸W).done r.s _ _ (by rw[<-hn];exact W.frame _ _ _ z.2 λb hb x hx=>by rw[aN.mp hb] at hx⊢;rw[z.1] at hx;cases hx;exact ho) λh' tk hk ht=>k h' tk ht λb x hb e=>hk b x (λhm=>hb (aN.mp hm)) e)
 cls:=λi o hS=>hS.elim λh0 z=>hc i h0 o z.2 z.1
 self:=λs o Q ho hS hq=>hS.elim λh0 z=>W.self 0 s _ _ (W.frame _ _ _ z.2 λb hb x hx=>by rw[aN.mp hb] at hx⊢;rw[z.1] at hx;cases hx;exact ho) hq
theorem uO {g:List Nat} (i:Nat) (v:AV) (u:Value) (hv:(g.map λc=>AV.str [c] none)[i]? =some v) (h:SignAt (tx g) i u) {G:GP} {ρ:List Addr}:aY G ρ v u:=by
 obtain⟨c,t,hc,rfl⟩:=h
 have hc':g[i]? =some c:=bb.symm.trans hc
 rw[aO,hc'] at hv
 cases hv
 exact .str [c] t none λ_ h=>nomatch h
theorem wm {g:List Nat} {q:Option Tok} {K:List AV->(St->Prop)->Prop} (h:K (g.map λc=>.str [c] none) λ_=>True):iw (.str g q) st K:=⟨λ{D C} H r {u Q} d k=>d.strE λt _=>by
 have hn:(g.map λc=>AV.str [c] none).length=(tx g).cps.size:=by rw[ai];exact ay.symm
 cases ha:(tx g).cps.all (·<128) with
 |false=>exact wpAny_pyIter_wide ha (RS.iter1 (r:=r) rfl ⟨_,a8 r.s.heap rfl,⟨_,a8 r.s.heap rfl,rfl,rfl⟩⟩ h (λr' l=>qo.of_walks (Walks.strWide H.hh _ (tx g) t) (λi h ⟨o,ho,_⟩=>⟨o,ho⟩) (λi h o ⟨o',e',hc,_⟩ e=>by rw[e'] at e;cases e;exact⟨_,hc,by decide⟩) hn uO) k)
 |true=>exact wpAny_pyIter_ascii ha (RS.iter1 (r:=r) rfl ⟨_,a8 r.s.heap rfl,⟨_,a8 r.s.heap rfl,rfl,rfl⟩⟩ h (λr' l=>qo.of_walks (Walks.strAscii H.hh _ (tx g) t) (λi h ⟨o,ho,_⟩=>⟨o,ho⟩) (λi h o ⟨o',e',hc,_⟩ e=>by rw[e'] at e;cases e;exact⟨_,hc,by decide⟩) hn uO) k)⟩
theorem E2 {f:Nat->Int} {n:Nat} (i:Nat) (v:AV) (u:Value) (hv:((List.range n).map λi=>AV.int (f i))[i]? =some v) (h:∃t,u=.int (f i) t) {G:GP} {ρ:List Addr}:aY G ρ v u:=by
 obtain⟨t,rfl⟩:=h
 rw[aO] at hv
 cases e:(List.range n)[i]? with
 |none=>rw[e] at hv;cases hv
 |some j=>
  rw[e] at hv
  cases hv
  obtain⟨hlt,hz⟩:=az.mp e
  rw[List.getElem_range] at hz
  rw[<-hz]
  exact .int _ _
theorem sX {a b c:Int} {n:Nat} {K:List AV->(St->Prop)->Prop} (hs:Builtin.Range.small a b c=true) (hz:Builtin.Range.rangeSize a b c=(n:Int)) (h:K ((List.range n).map λi=>.int (a+(i:Nat)*c)) λ_=>True):iw (.rng a b c) st K:=⟨λ{D C} H r {u Q} d k=>d.rngE λt u v x g=>
 wpAny_pyIter_range (r.gGet g) hs (RS.iter1 (r:=r) rfl ⟨_,a8 r.s.heap rfl,by rw[hz];exact(congrArg (λy=>(r.s.heap.push _).get? _=some ({cls:=.type "range_iterator",data:=.fields #[.int y _,_,_]}:Obj)) (by simp)).mpr (a8 r.s.heap rfl)⟩ h (λr' l=>qo.of_walks (Walks.range H.hh _ a c n) (λi h hst=>⟨_,hst⟩) (λi h o hst e=>⟨"range_iterator",by cases hst.symm.trans e;rfl,by decide⟩) (by rw[ai,List.length_range]) E2) k)⟩
theorem ud {a b:Int} (ha:a.natAbs<1000000) (hb:b.natAbs<1000000):Builtin.Range.small a b 1=true:=by
 have h1:Builtin.Range.rangeSize a b 1=((b-a).toNat:Int):=rangeSize_nat a b
 unfold Builtin.Range.small Builtin.Range.rangeFitsLong
 simp only[h1,Bool.and_eq_true,decide_eq_true_eq]
 refine⟨⟨⟨⟨⟨?_,?_⟩,?_,?_⟩,?_,?_⟩,?_,?_⟩,?_⟩
 case refine_9=>
  rw[if_pos (by decide),Bool.or_eq_true]
  right
  simp only[Bool.and_eq_true,decide_eq_true_eq]
  constructor<;>omega
 all_goals omega
theorem nK (a b:Int):Builtin.Range.rangeSize a b (-1)=((a-b).toNat:Int):=by
 show(if a>b then(a-b-1)/(1:Int)+1 else 0)=_
 rw[Int.ediv_one]
 split<;>omega
theorem rA {a b:Int} (ha:a.natAbs<1000000) (hb:b.natAbs<1000000):Builtin.Range.small a b (-1)=true:=by
 unfold Builtin.Range.small Builtin.Range.rangeFitsLong
 simp only[nK,Bool.and_eq_true,decide_eq_true_eq]
 refine⟨⟨⟨⟨⟨?_,?_⟩,?_,?_⟩,?_,?_⟩,?_,?_⟩,?_⟩
 case refine_9=>
  rw[if_neg (by decide),Bool.or_eq_true]
  right
  simp only[Bool.and_eq_true,decide_eq_true_eq]
  constructor<;>omega
 all_goals omega
theorem rq {a b:Int} {K:List AV->(St->Prop)->Prop} (ha:a.natAbs<1000000) (hb:b.natAbs<1000000) (h:K ((List.range (b-a).toNat).map λi=>.int (a+(i:Nat))) λ_=>True):iw (.rng a b 1) st K:=
 sX (ud ha hb) (rangeSize_nat a b) (by rwa [show(λi:Nat=>AV.int (a+i*1))=λi:Nat=>AV.int (a+i) from funext λi=>by rw[Int.mul_one]])
theorem Fm {a b:Int} {K:List AV->(St->Prop)->Prop} (ha:a.natAbs<1000000) (hb:b.natAbs<1000000) (h:K ((List.range (a-b).toNat).map λi=>.int (a-(i:Nat))) λ_=>True):iw (.rng a b (-1)) st K:=
 sX (rA ha hb) (nK a b) (by rwa [show(λi:Nat=>AV.int (a+i*-1))=λi:Nat=>AV.int (a-i) from funext λi=>by rw[Int.mul_neg,Int.mul_one];rfl])
end
theorem qT {C C':Cx} {I:List (Addr×Obj)} (hB:C'.B=C.B):GI C' I=GI C I:=by unfold GI;rw[hB]
section
variable {C C':Cx} {st st4:St} {js J0:JS}
noncomputable abbrev RS.hidL (r:RS C st) (js:JS):List (Addr×Obj):=r.T++(r.I++(r.V++js))
theorem RS.hid_in (r:RS C st) (ej:r.J=js++J0) {p:Addr×Obj} (h:p∈r.hidL js):p∈r.L:=by
 show p∈r.T++(r.I++(r.V++r.J))
 rw[ej,<-ax r.V,<-ax r.I,<-ax r.T]
 exact aC _ h
theorem RS.hid_nd (r:RS C st) (ej:r.J=js++J0):(bg (r.hidL js)).Nodup/\(bg J0).Nodup/\∀q∈J0,q.1∉bg (r.hidL js):=by
 have hn:(bg (r.T++(r.I++(r.V++r.J)))).Nodup:=r.nd
 rw[ej,<-ax r.V,<-ax r.I,<-ax r.T,bh] at hn
 have z:=a7.mp hn
 exact⟨z.1,z.2.1,λq hq hm=>z.2.2 _ hm _ (bA hq) rfl⟩
theorem RS.hid_keep (r:RS C st) (ej:r.J=js++J0) {b:Addr} {x:Obj} (e0:C.h₀.get? b=some x):(hideAll r.s.heap (bg (r.hidL js))).get? b=some x:=
 hideAll_get _ (r.fr.keep _ _ e0) λhm=>by
  obtain⟨p,hp,rfl⟩:=aG.mp hm
  have:=(r.nw p (r.hid_in ej hp)).2.2
  rw[e0] at this;cases this
noncomputable def RS.block (r:RS C st) (ej:r.J=js++J0) {init:List (Option AV)} {m':Str->Option Value} {h₁:Heap} (t:Nat) (hC:C'.h₀=hideAll r.s.heap (bg (r.hidL js))) (hB:C'.B=C.B) (hos:C'.os=C.os) (hL:r.s.heap.objs.size<=C'.env.locals) (hk:∀b o,r.s.heap.get? b=some o->h₁.get? b=some o)
  (hns:h₁.Ns C'.env.locals m') (hcl:∀(y:Str) (i:Nat),(y,i)∈C'.cls->∃a,r.ρ[i]? =some a/\C'.env.cells.lookup y=some a) (hi:∀(i:Nat) (v:AV),init[i]? ≠some (some v)) (ht:r.s.toks<=t):RS C' ⟨init,st.hp,st.tk⟩:=
 {m:=m',T:=r.T,I:=r.I,V:=r.V,J:=js,s:={r.s with heap:=h₁,toks:=t}
  fr:=⟨hns,λb o e=>hk b o (of_hideAll _ (hC▸e)),by rw[hC,hideAll_size];exact hL⟩
  nw:=λp hp=>have z:=(r.nw p (r.hid_in ej hp)).1
   ⟨hk _ _ z,aW (aP (ba z) hL),by rw[hC];exact hideAll_none _ (bA (l:=r.hidL js) hp)⟩
  nd:=(r.hid_nd ej).1,va:=r.va,vo:=by rw[qT hB];exact r.vo
  bk:=λa o g=>by rw[hC];exact r.hid_keep ej (r.bk a o (hB▸g))
  loc:=λi x v _ hv=>absurd hv (hi i v),cel:=hcl,hp:=by rw[qT hB];exact r.hp
  gb:=r.gb,os:=r.os.trans hos.symm,tk:=ag r.tk ht}
theorem RS.unblock (r:RS C st) (ej:r.J=js++J0) (hC:C'.h₀=hideAll r.s.heap (bg (r.hidL js))) (hB:C'.B=C.B) (hos:C'.os=C.os) (r4:RS C' st4) (e4:r4.J=[]) (l:Lw r r4):
  ∃(oc:Obj) (r5:RS C ⟨st.loc,st4.hp,st4.tk⟩),r5.s=r4.s/\Lw r r5/\r5.T=r4.T/\r5.I=r4.I/\r5.J=(C'.env.locals,oc)::J0/\r4.s.heap.get? C'.env.locals=some oc:=by
 obtain⟨oc,_,_,hoc,_⟩:=id r4.fr.ns
 have hsz:r.s.heap.objs.size<=C'.env.locals:=by have:=r4.fr.above;rwa [hC,hideAll_size] at this
 have keep:∀b x,r.s.heap.get? b=some x->b∉bg (r.hidL js)->C'.h₀.get? b=some x/\r4.s.heap.get? b=some x:=λb x e n=>by
  have h1:C'.h₀.get? b=some x:=by rw[hC];exact hideAll_get _ e n
  exact⟨h1,r4.fr.keep _ _ h1⟩
 have hLo:∀x,r.s.heap.get? C.env.locals=some x->C'.h₀.get? C.env.locals=some x/\r4.s.heap.get? C.env.locals=some x:=λx e=>keep _ x e λhm=>by
  obtain⟨p,hp,e⟩:=aG.mp hm
  exact(r.nw p (r.hid_in ej hp)).2.1 e
 obtain⟨oL,_,_,hoL,_⟩:=id r.fr.ns
 have h00:∀b x,C.h₀.get? b=some x->C'.h₀.get? b=some x/\r4.s.heap.get? b=some x:=λb x e=>by
  have h1:C'.h₀.get? b=some x:=by rw[hC];exact r.hid_keep ej e
  exact⟨h1,r4.fr.keep _ _ h1⟩
 have ltL:∀b x,r.s.heap.get? b=some x->b≠C'.env.locals:=λb x e=>aW (aP (ba e) hsz)
 have jm:∀q∈J0,q∈r.L:=λq hq=>ar _ (ar _ (ar _ (by rw[ej];exact ar _ hq)))
 have hj:∀q∈J0,C'.h₀.get? q.1=some q.2/\r4.s.heap.get? q.1=some q.2:=λq hq=>keep _ _ (r.nw q (jm q hq)).1 ((r.hid_nd ej).2.2 q hq)
 have new:∀p∈r4.T++(r4.I++r4.V),r4.s.heap.get? p.1=some p.2/\p.1≠C'.env.locals/\C'.h₀.get? p.1=none:=λp hp=>r4.nw p (by rw[e4,List.append_nil];exact hp)
 have vo:∀p∈r4.V,gg (GI C r4.I) p.1 p.2:=by rw[<-qT hB];exact r4.vo
 have dh:cq (GI C r4.I) (bg r4.T) st4.hp r4.T:=by rw[<-qT hB];exact r4.hp
 refine⟨oc,⟨r.m,r4.T,r4.I,r4.V,(C'.env.locals,oc)::J0,r4.s,⟨r.fr.ns.at' λx e=>(hLo x e).2,λb x e=>(h00 b x e).2,r.fr.above⟩,λp hp=>?_,?_,r4.va,vo,r.bk,λi x v hx hv=>(r.loc i x v hx hv).imp λu z=>z.imp_right λd=>d.mono (λa o g=>g.imp_right (l.sub _)) l.pre,
  λy i hy=>(r.cel y i hy).imp λa z=>z.imp_left (aV l.pre),dh,r4.gb,r4.os.trans hos,r4.tk⟩,rfl,⟨l.pre,l.sub⟩,rfl,rfl,rfl,hoc⟩
 ·rw[<-ax r4.I,<-ax r4.T] at hp
  rcases bo.mp hp with hp|hp
  ·have z:=new p hp
   refine⟨z.1,λe=>?_,?_⟩
   ·rw[e,(hLo _ hoL).1] at z;cases z.2.2
   ·cases e:C.h₀.get? p.1 with
    |none=>rfl
    |some x=>rw[(h00 _ _ e).1] at z;cases z.2.2
  ·rcases aL.mp hp with rfl|hp
   ·refine⟨hoc,λe=>ltL _ _ hoL e.symm,?_⟩
    cases e:C.h₀.get? C'.env.locals with
    |none=>rfl
    |some x=>exact absurd rfl (ltL _ _ (r.fr.keep _ _ e))
   ·exact⟨(hj p hp).2,(r.nw p (jm p hp)).2⟩
 ·have nd4:(bg (r4.T++(r4.I++r4.V))).Nodup:=by have:=r4.nd;rwa [e4,List.append_nil] at this
  rw[<-ax r4.I,<-ax r4.T,bh]
  refine a7.mpr ⟨nd4,List.nodup_cons.mpr ⟨λhm=>?_,(r.hid_nd ej).2.1⟩,λa ha b hb e=>?_⟩
  ·obtain⟨q,hq,e⟩:=aG.mp hm
   exact ltL _ _ (r.nw q (jm q hq)).1 e
  ·obtain⟨p,hp,rfl⟩:=aG.mp ha
   have z:=new p hp
   rcases aL.mp hb with hb|hb
   ·exact z.2.1 (e.trans hb)
   ·obtain⟨q,hq,rfl⟩:=aG.mp hb
    have e:p.1=q.1:=e
    rw[e,(hj q hq).1] at z;cases z.2.2
end
theorem rL {env:Env} (l:List (Str×NameKind)):(∀z∈l,z.2=.free->∃a,env.cells.lookup z.1=some a)->∀cs:List (Str×Addr),∃cl,(forIn l cs λx r=>match x with|(name,kind)=>if(kind==.free)=true then do let a<-cellOf env name;pure (ForInStep.yield ((name,a)::r)) else pure (ForInStep.yield r))=(pure cl:Sem _)/\
  (∀p∈cl,p∈cs∨env.cells.lookup p.1=some p.2)/\(∀p∈cs,p∈cl)/\∀y,(y,NameKind.free)∈l->∃p∈cl,p.1=y:=by
 induction l with
 |nil=>exactλ_ cs=>⟨cs,rfl,λp hp=>.inl hp,λp hp=>hp,λy hy=>nomatch hy⟩
 |cons z l ih=>
  intro h cs
  obtain⟨n,k⟩:=z
  by_cases hk:k=.free
  ·subst hk
   obtain⟨a,ha⟩:=h _ (.head _) rfl
   obtain⟨cl,e,h1,h2,h3⟩:=ih (λz hz=>h z (.tail _ hz)) ((n,a)::cs)
   refine⟨cl,?_,λp hp=>(h1 p hp).elim (λh=>(aL.mp h).elim (λe=>.inr (e▸ha)) .inl) .inr,λp hp=>h2 p (.tail _ hp),λy hy=>(aL.mp hy).elim (λe=>⟨_,h2 _ (.head _),(congrArg Prod.fst e).symm⟩) (h3 y)⟩
   rw[List.forIn_cons]
   show(do let a<-cellOf env n;_)>>=_=_
   unfold cellOf
   rw[ha]
   exact e
  ·obtain⟨cl,e,h1,h2,h3⟩:=ih (λz hz=>h z (.tail _ hz)) cs
   refine⟨cl,?_,h1,h2,λy hy=>(aL.mp hy).elim (λe=>absurd (congrArg Prod.snd e).symm hk) (h3 y)⟩
   rw[List.forIn_cons]
   simp only[beq_eq_false_iff_ne.mpr hk]
   exact e
theorem tX {env:Env} {y:Str} {c:List (Str×Addr)}:(∀p∈c,env.cells.lookup p.1=some p.2)->(∃p∈c,p.1=y)->c.lookup y=env.cells.lookup y:=by
 induction c with
 |nil=>exactλ_ h=>h.elim λp h=>nomatch h.1
 |cons q c ih=>
  intro hc ⟨p,hp,e⟩
  rw[List.lookup_cons]
  by_cases hq:y=q.1
  ·rw[beq_iff_eq.mpr hq,hq]
   exact(hc q (.head _)).symm
  ·rw[beq_eq_false_iff_ne.mpr hq]
   exact ih (λr hr=>hc r (.tail _ hr)) ⟨p,(aL.mp hp).resolve_left λe2=>hq (e2▸e.symm),e⟩
theorem mu {env:Env} {scope:Scope} (h:∀z∈scope.names,z.2=.free->∃a,env.cells.lookup z.1=some a):
  ∃cl,closureFor scope env=pure cl/\∀y,(y,NameKind.free)∈scope.names->cl.lookup y=env.cells.lookup y:=by
 obtain⟨cl,e,h1,_,h3⟩:=rL scope.names h []
 refine⟨cl,?_,λy hy=>tX (λp hp=>(h1 p hp).resolve_left λh=>nomatch h) (h3 y hy)⟩
 unfold closureFor
 simp only[bind_pure]
 exact e
theorem oO {α β:Type} {g:Str->α->β} {y:Str} {l:List (Str×α)}:(l.map λp=>(p.1,g p.1 p.2)).lookup y=(l.lookup y).map (g y):=by
 induction l with
 |nil=>rfl
 |cons p l ih=>
  rw[List.map_cons,List.lookup_cons,List.lookup_cons]
  cases h:y==p.1 with
  |true=>rw[eq_of_beq h];rfl
  |false=>exact ih
theorem gk {scope:Scope} {env:Env} {y:Str}:(relabel scope env).names.lookup y=(scope.names.lookup y).map λk=>if(k==.free&&env.scope.kind==.function&&env.kindOf y==some .cell) then NameKind.cell else k:=by
 have e:(relabel scope env).names=scope.names.map λp=>(p.1,if(p.2==.free&&env.scope.kind==.function&&env.kindOf p.1==some .cell) then NameKind.cell else p.2):=by
  unfold relabel
  refine List.map_congr_left λp _=>?_
  obtain⟨n,k⟩:=p
  show(if _ then _ else _)=_
  split<;>rfl
 rw[e]
 exact oO (g:=λn k=>if(k==.free&&env.scope.kind==.function&&env.kindOf n==some .cell) then NameKind.cell else k)
theorem vR {α:Type} {y:Str} {v:α} {l:List (Str×α)} (h:l.lookup y=some v):(y,v)∈l:=by
 induction l with
 |nil=>cases h
 |cons z l ih=>
  rw[List.lookup_cons] at h
  cases e:y==z.1 with
  |true=>rw[e] at h;cases h;rw[eq_of_beq e];exact .head _
  |false=>rw[e] at h;exact .tail _ (ih h)
noncomputable def iR (x x':Sx) (sc:Scope) (t it:PE) (ifs:Option PE) (elt:PE):Bool:=
 sc.kind==.function&&(sc.names.all (λz=>z.2 !=.cell&&((z.2 !=.local||sc.names.lookup z.1==some .local)&&(z.2 !=.free||x.cls.any (λq=>q.1==z.1))))&&(x'.nms.all (λy=>sc.names.lookup y==some .local&&!(y==("__debug__":Str)))&&
  (x'.gls.all (λp=>sc.names.lookup p.1==some .globalImplicit&&(!(p.1==("__debug__":Str))&&x.gls.any (λq=>q.1==p.1&&q.2==p.2)))&&(x'.cls.all (λp=>sc.names.lookup p.1==some .free&&(!(p.1==("__debug__":Str))&&x.cls.any (λq=>q.1==p.1&&q.2==p.2)))&&
   (decide x'.nms.Nodup&&(x'.cod==x.cod&&(it.ok x&&(t.ok x'&&((match ifs with|none=>true|some e=>e.ok x')&&elt.ok x')))))))))
noncomputable def tH (x:Sx) (ifs:Option PE):List Expr:=match ifs with
 |none=>[]
 |some e=>[e.toM x]
noncomputable def bV (D:Nat) (x:Sx) (ifs:Option PE) (st:St) (P:Bool->St->Prop):Prop:=match ifs with
 |none=>P true st
 |some e=>(wW D x e).t st P
structure IS where
 chk:St->Prop
 mv:St->St
 it:AV
noncomputable def NW (n:Nat) (K:St->Prop):PV:=λv st=>∃us,st.at n=some (.list us)/\us.length<=100000/\K (st.put n (.list (us++[v])))
noncomputable def ND (n:Nat) (el:St->PV->Prop) (K:St->Prop):Bool->St->Prop:=λb st=>(b=true->el st (NW n K))/\(b=false->K st)
noncomputable def KS (n:Nat) (ts:St->(Bool->St->Prop)->Prop) (el:St->PV->Prop) (K:St->Prop):St->Prop:=λst=>ts st (ND n el K)
noncomputable def g9 (n:Nat) (fin:St->Prop) (tg:AV->St->(St->Prop)->Prop) (ts:St->(Bool->St->Prop)->Prop) (el:St->PV->Prop):List IS->St->(St->Prop)->Prop
 |[],st,P=>fin st/\P st
 |q::r,st,P=>q.chk st/\tg q.it (q.mv st) (KS n ts el (kW P (g9 n fin tg ts el r)))
noncomputable def vc (chk:St->Prop) (items:List AV):List IS:=items.map λv=>⟨chk,λst=>st,v⟩
noncomputable abbrev dH (n:Nat) (chk:St->Prop) (tg:AV->St->(St->Prop)->Prop) (ts:St->(Bool->St->Prop)->Prop) (el:St->PV->Prop) (items:List AV) (st:St) (P:St->Prop):Prop:=g9 n chk tg ts el (vc chk items) st P
structure vd (C:Cx) {st₀:St} (r₀:RS C st₀) (I:Addr) (te:Expr) (S:Nat->JS->Prop) (items:List IS) (fin:St->Prop):Prop where
 item:∀{C':Cx} {st:St} (r:RS C' st) {J:JS} {i:Nat} {js:JS} {q:IS} {Q:Value->Shared->Prop} {R:Option Value->Shared->Prop},C'.A=C.A->C'.B=C.B->Lw r₀ r->r.J=js++J->q.chk st->S i js->items[i]? =some q->
  (∀(r':RS C' (q.mv st)) u js',Lw r r'->r'.D q.it u->S (i+1) js'->r'.J=js'++J->Q u r'.s)->(∀v s₁,WP C' (letOwnedTupleGo te (.ref I) v) (λ_ s₂=>Q v s₂) s₁->R (some v) s₁)->WP C' (pyNext (.ref I)) R r.s
 done:∀{C':Cx} {st:St} (r:RS C' st) {J js:JS} {Q:Option Value->Shared->Prop},C'.A=C.A->C'.B=C.B->Lw r₀ r->r.J=js++J->fin st->S items.length js->(∀r':RS C' st,Lw r r'->r'.J=J->Q none r'.s)->WP C' (pyNext (.ref I)) Q r.s
 self:∀(s:Shared) (js:JS) (Q:Value->Shared->Prop),(∀p∈js,s.heap.get? p.1=some p.2)->S 0 js->Q (.ref I) s->WP C (pyIter (.ref I)) Q s
section
variable {D:Nat} {C:Cx} {st:St} {x:Sx}
theorem It.gen {r:RS C st} {I:Addr} {S:Nat->JS->Prop} {items:List AV} {chk:St->Prop} (Z:It C r I S items chk) (t:PE) (x:Sx):vd C r I (t.toM x) S (vc chk items) chk where
 item:=λ{C' st1} r1 {J i js q Q R} hA hB l ej hc hS hq k kR=>by
  unfold vc at hq
  rw[aO] at hq
  cases e:items[i]? with
  |none=>rw[e] at hq;cases hq
  |some v=>
   rw[e] at hq;cases hq
   exact Z.item r1 hA hB l ej hc hS e λr2 u js' l2 d hS' ej'=>kR u _ (by
    have z:=Z.go t x r2.s js' _ u (λ_ s₂=>Q u s₂) (λp hp=>RS.jGet (r:=r2) (ej'▸aC _ hp)) hS' (k r2 u js' l2 d hS' ej')
    show wpAny MM C'.A _ _ _ _
    rw[hA];exact z)
 done:=λ{C' st1} r1 {J js Q} hA hB l ej hc hS k=>Z.done r1 hA hB l ej hc (by unfold vc at hS;rwa [ai] at hS) k
 self:=Z.self
theorem xW {A:Around} {R:Result->Shared->Prop} {s:Shared} {elt target iter:Expr} {ifs:List Expr} {scope:Scope} {pos:Pos} {it acc:Value} {env:Env} (I:Nat->Shared->Prop)
  (turn:∀n s,I n s->wpAny MM A (pyNext it) (λr s₁=>match r with
   |none=>R (.ok .next) s₁
   |some v=>wpAny MM A (letOwnedTupleGo target it v) (λ_ s₁=>wpAny MM A (assign target env v) (λ_ s₂=>
     wpAny MM A (forIn ifs true λc r=>if r=true then do let ok<-isTrue c env (eval c env);pure (ForInStep.yield ok) else pure (ForInStep.yield r)) (λok s₃=>
      if ok=true then wpAny MM A (eval elt env) (λx s₄=>
       wpAny MM A (call (.builtin "list.append") [acc,x]) (λ_ s₅=>∃m,m<n/\I m s₅) b9 s₄) b9 s₃
      else∃m,m<n/\I m s₃) b9 s₂) b9 s₁) b9 s₁) b9 s)
  (n:Nat) (h:I n s):codeAny MM A (.compLoop (.ListComp elt [⟨target,iter,ifs,0⟩] scope pos) 0 it acc env) R s:=by
 refine codeAny_loop rfl I (λn s hI=>?_) n h
 show wpAny _ A ((compTurn (.ListComp elt [⟨target,iter,ifs,0⟩] scope pos) 0 it acc env).onRaise (λx=>do noteFrame x env;theTreesLotGoes x)) _ _ s
 refine wpAny_noted ?_
 rw[compTurn_list]
 refine ae (wpAny_standAt (ae (wpAny_mono (turn n s hI) (λr s₁ h₁=>?_) λ_ _ h'=>h'.elim)))
 cases r with
 |none=>exact ah h₁
 |some v=>
  refine ae (wpAny_mono h₁ (λ_ s₁ h₁=>?_) λ_ _ h'=>h'.elim)
  refine ae (wpAny_mono h₁ (λ_ s₂ h₂=>ae (wpAny_mono h₂ (λok s₃ h₃=>?_) λ_ _ h'=>h'.elim)) λ_ _ h'=>h'.elim)
  cases ok with
  |false=>exact ah ⟨rfl,h₃⟩
  |true=>exact ae (ae (wpAny_mono h₃ (λx s₄ h₄=>ae (wpAny_mono h₄ (λ_ s₅ h₅=>ah (ah ⟨rfl,h₅⟩)) λ_ _ h'=>h'.elim)) λ_ _ h'=>h'.elim))
theorem Gn (H:bJ D C x) {ifs:Option PE} (ok:(match ifs with|none=>true|some e=>e.ok x)=true) (r:RS C st) {P:Bool->St->Prop} {Q:Bool->Shared->Prop} (h:bV D x ifs st P) (k:tU r P Q):WP C (forIn (tH x ifs) true λc r=>if r=true then do let ok<-isTrue c C.env (eval c C.env);pure (ForInStep.yield ok) else pure (ForInStep.yield r)) Q r.s:=by
 cases ifs with
 |none=>exact wpAny_tests_nil (k r _ .rf h)
 |some e=>exact wpAny_tests_one ((snd H e ok).t r h k)
theorem Hh (H:bJ D C x) {C0:Cx} {st0:St} {r0:RS C0 st0} (hA:C.A=C0.A) (hB:C.B=C0.B) {t elt:PE} {ifs:Option PE} {sc:Scope} {p:Pos} {iter:Expr} {I acc:Addr} {js J:JS} {n:Nat} {S:Nat->JS->Prop} {items:List IS} {fin:St->Prop} {P:St->Prop} {R':Result->Shared->Prop}
  (ok1:t.ok x=true) (ok2:(match ifs with|none=>true|some e=>e.ok x)=true) (ok3:elt.ok x=true) (Z:vd C0 r0 I (t.toM x) S items fin) (hS:S 0 js) (r:RS C st) (l0:Lw r0 r) (ej:r.J=js++J) (ea:r.ρ[n]? =some acc)
  (h:g9 n fin (wW D x t).a (bV D x ifs) (wW D x elt).e items st P) (k:∀{st':St} (r':RS C st'),Lw r r'->r'.J=J->P st'->R' (.ok .next) r'.s):codeAny MM C.A (.compLoop (.ListComp (elt.toM x) [⟨t.toM x,iter,tH x ifs,0⟩] sc p) 0 (.ref I) (.ref acc) C.env) R' r.s:=by
 let X:Nat->Shared->Prop:=λn' s=>∃(i:Nat) (js:JS) (st':St) (r':RS C st'),r'.s=s/\n'=items.length-i/\i<=items.length/\Lw r r'/\r'.J=js++J/\S i js/\g9 n fin (wW D x t).a (bV D x ifs) (wW D x elt).e (items.drop i) st' P
 refine xW X ?_ items.length ⟨0,js,st,r,rfl,rfl,Nat.zero_le _,.rf,ej,hS,h⟩
 rintro n' _ ⟨i,js1,st1,r1,rfl,rfl,hi,l1,ej1,hS1,h1⟩
 by_cases hlt:i<items.length
 ·rw[List.drop_eq_getElem_cons hlt] at h1
  have h1:items[i].chk st1/\_:=h1
  refine Z.item r1 hA hB (l0.trans l1) ej1 h1.1 hS1 (aq hlt) (λr2 u js2 l2 d2 hS2 ej2=>?_) λv s' hr=>hr
  refine(snd H t ok1).a r2 d2 h1.2 λr3 l3 h3=>Gn H ok2 r3 h3 λr4 b l4 h4=>?_
  have hm:items.length-(i+1)<items.length-i:=Nat.sub_lt_sub_left hlt (Nat.lt_succ_self _)
  have l:=(l1.trans l2).trans (l3.w.trans l4.w)
  have ej4:=l4.jn.trans (l3.jn.trans ej2)
  cases b with
  |false=>exact⟨_,hm,i+1,js2,_,r4,rfl,rfl,hlt,l,ej4,hS2,h4.2 rfl⟩
  |true=>
   refine(snd H elt ok3).e r4 (h4.1 rfl) λr5 v ru l5 h5 dr=>?_
   obtain⟨us,e5,hlen,h5⟩:=h5
   refine(dD us e5 hlen (P:=λ_ st'=>g9 n fin (wW D x t).a (bV D x ifs) (wW D x elt).e (items.drop (i+1)) st' P) h5).run H.toCxB r5 (.cons (.ref _ _ (aV (l.trans l5.w).pre ea)) (.cons dr .nil)) .nil λr6 _ _ l6 h6 _=>?_
   exact⟨_,hm,i+1,js2,_,r6,rfl,rfl,hlt,(l.trans l5.w).trans l6.w,l6.jn.trans (l5.jn.trans ej4),hS2,h6⟩
 ·have hie:i=items.length:=Nat.le_antisymm hi (Nat.not_lt.mp hlt)
  subst hie
  rw[List.drop_length] at h1
  exact Z.done r1 hA hB (l0.trans l1) ej1 h1.1 hS1 λr2 l2 ej2=>k r2 (l1.trans l2) ej2 h1.2
end
noncomputable abbrev wD {C:Cx} {st:St} (r:RS C st) (P:PV) (use:Option (Value->Sem Unit)) (Q:Value->Shared->Prop):Prop:=
 ∀{st1:St} (r1:RS C st1) (av:AV) (a Lc:Addr) (oc:Obj),Lw r r1->P av st1->r1.D av (.ref a)->r1.J=(Lc,oc)::r.J->(∃m,∀h:Heap,h.get? Lc=some oc->h.Ns Lc m)->compPost MM C.A b9 use Q (.ref a) Lc (.ok .next) r1.s
noncomputable abbrev dR (x x':Sx) (t it:PE) (ifs:Option PE) (elt:PE) (sc:Scope) (p:Pos):Expr:=.ListComp (elt.toM x') [⟨t.toM x',it.toM x,tH x' ifs,0⟩] sc p
noncomputable def Nu (P:PV) (st1:St):St->Prop:=λst'=>P (.ref st1.new) ⟨st1.loc,st'.hp,st'.tk⟩
noncomputable abbrev s9 (D:Nat) (x':Sx) (t:PE) (ifs:Option PE) (elt:PE) (st1:St) (P:PV) (items:List IS) (fin:St->Prop):Prop:=
 g9 st1.new fin (wW D x' t).a (bV D x' ifs) (wW D x' elt).e items ⟨x'.nms.map λ_=>none,(st1.add (.list [])).hp,st1.tk⟩ (Nu P st1)
section
variable {D:Nat} {C:Cx} {st:St} {x x':Sx} {t it elt:PE} {ifs:Option PE} {sc:Scope} {pos p:Pos} {P:PV} {Q:Value->Shared->Prop} {use:Option (Value->Sem Unit)}
structure Cq (x x':Sx) (sc:Scope) (t it:PE) (ifs:Option PE) (elt:PE):Prop where
 kind:sc.kind=.function
 names:∀z∈sc.names,z.2≠.cell/\(z.2=.local->sc.names.lookup z.1=some .local)/\(z.2=.free->∃q∈x.cls,q.1=z.1)
 lc:∀y∈x'.nms,sc.names.lookup y=some .local/\(y==("__debug__":Str))=false
 gl:∀p∈x'.gls,sc.names.lookup p.1=some .globalImplicit/\(p.1==("__debug__":Str))=false/\p∈x.gls
 cl:∀p∈x'.cls,sc.names.lookup p.1=some .free/\(p.1==("__debug__":Str))=false/\p∈x.cls
 nd:x'.nms.Nodup
 cod:x'.cod=x.cod
 it:it.ok x=true
 t:t.ok x'=true
 ifs:(match ifs with|none=>true|some e=>e.ok x')=true
 elt:elt.ok x'=true
theorem uy {α:Type} [BEq α] [LawfulBEq α] {l:List (Str×α)} {p:Str×α} (h:l.any (λq=>q.1==p.1&&q.2==p.2)=true):p∈l:=by
 obtain⟨q,hq,e⟩:=List.any_eq_true.mp h
 exact(Prod.ext (eq_of_beq (aE e)) (eq_of_beq (aA e)):q=p)▸hq
theorem or_imp {a b:Bool} {p:Prop} (h:(a||b)=true) (ha:a=true->¬p):p->b=true:=λhp=>(Bool.or_eq_true_iff.mp h).resolve_left λe=>ha e hp
theorem wU (h:iR x x' sc t it ifs elt=true):Cq x x' sc t it ifs elt:=by
 have h1:=aE h;have h:=aA h
 have h2:=aE h;have h:=aA h
 have h3:=aE h;have h:=aA h
 have h4:=aE h;have h:=aA h
 have h5:=aE h;have h:=aA h
 have h6:=aE h;have h:=aA h
 have h7:=aE h;have h:=aA h
 have h8:=aE h;have h:=aA h
 have h9:=aE h;have h:=aA h
 refine⟨eq_of_beq h1,λz hz=>?_,λy hy=>⟨eq_of_beq (aE (cg h3 y hy)),cO (aA (cg h3 y hy))⟩,λp hp=>⟨eq_of_beq (aE (cg h4 p hp)),cO (aE (aA (cg h4 p hp))),uy (aA (aA (cg h4 p hp)))⟩,
  λp hp=>⟨eq_of_beq (aE (cg h5 p hp)),cO (aE (aA (cg h5 p hp))),uy (aA (aA (cg h5 p hp)))⟩,aj h6,eq_of_beq h7,h8,h9,aE h,aA h⟩
 have z:=cg h2 z hz
 exact⟨bne_iff_ne.mp (aE z),λe=>eq_of_beq (or_imp (aE (aA z)) (λh hp=>bne_iff_ne.mp h hp) e),λe=>(List.any_eq_true.mp (or_imp (aA (aA z)) (λh hp=>bne_iff_ne.mp h hp) e)).imp λq z=>z.imp_right eq_of_beq⟩
theorem AZ {α β:Type} {l:List α} {i:Nat} {v:β}:(l.map λ_=>(none:Option β))[i]? ≠some (some v):=λe=>by
 rw[aO] at e
 cases q:l[i]? with
 |none=>rw[q] at e;cases e
 |some y=>rw[q] at e;cases e
noncomputable abbrev Cx.blk (C:Cx) (x':Sx) (sc:Scope) (cl:List (Str×Addr)) (L:Addr) (h₀:Heap):Cx:={env:=compEnvC sc cl L C.env,A:=C.A,h₀:=h₀,B:=C.B,nms:=x'.nms,cls:=x'.cls,os:=C.os}
theorem bJ.blk (H:bJ D C x) (F:Cq x x' sc t it ifs elt) {cl:List (Str×Addr)} {L:Addr} {h₀:Heap} (hk:∀b o,C.h₀.get? b=some o->h₀.get? b=some o):bJ D (C.blk x' sc cl L h₀) x':={
  kin:=λa o e=>hk a o (H.kin a o e),top:=H.top.imp λp z=>z.imp λ_ z=>z.imp λ_ z=>z.imp λ_ z=>z.keeps hk,hh:=H.hh,sm:=H.sm.imp λ_ e=>hk _ _ e
  nb:=H.nb.imp λmc z=>z.imp (λe=>e.keeps hk) id,dep:=H.dep,un:=H.un,un2:=H.un2,kind:=F.kind,glob:=H.glob,bi:=H.bi,nms:=rfl,nd:=F.nd
  lc:=λy hy=>⟨by show(relabel sc C.env).names.lookup y=_;rw[gk,(F.lc y hy).1];rfl,(F.lc y hy).2⟩,cls:=rfl
  cc:=λp hp=>⟨by show(relabel sc C.env).names.lookup p.1=_;rw[gk,(F.cl p hp).1,H.kind,(H.cc p (F.cl p hp).2.2).1];rfl,(F.cl p hp).2.1⟩
  gl:=λp hp=>⟨by show(relabel sc C.env).names.lookup p.1=_;rw[gk,(F.gl p hp).1];rfl,(F.gl p hp).2.1,(H.gl p (F.gl p hp).2.2).2.2⟩
  cod:=λh0=>by rw[F.cod];exact H.cod (F.cod▸h0),qual:=λh0=>by rw[F.cod];exact H.qual (F.cod▸h0)}
theorem ze (H:bJ D C x) (ok:iR x x' sc t it ifs elt=true) (r:RS C st)
  (hmk:∀Q':Value->Shared->Prop,(∀{st1:St} (r1:RS C st1) (I:Addr) (items:List IS) (fin:St->Prop) (S:Nat->JS->Prop) (js:JS),Lw r r1->r1.J=js++r.J->S 0 js->vd C r1 I (t.toM x') S items fin->s9 D x' t ifs elt st1 P items fin->Q' (.ref I) r1.s)->
   WP C (eval (it.toM x) C.env) (λv s1=>WP C (pyIter v) Q' s1) r.s)
  (k:wD r P use Q):WP C (comprehension (dR x x' t it ifs elt sc p) sc C.env pos (newList []) false (eval (it.toM x) C.env) use) Q r.s:=by
 have F:=wU ok
 have hcel:∀q∈x.cls,∃a,C.env.cells.lookup q.1=some a:=λq hq=>(r.cel q.1 q.2 (by rw[H.cls];exact hq)).imp λa z=>z.2
 obtain⟨cl,hcl,hlk⟩:=mu (env:=C.env) (scope:=sc) λz hz hf=>((F.names z hz).2.2 hf).elim λq e=>e.2▸hcel q e.1
 refine wpAny_comprehension_free (g:=⟨t.toM x',it.toM x,tH x' ifs,0⟩) (gs:=[]) rfl ((it.pl x).fold C.env) hcl F.kind (λz hz hz2=>(F.names z hz).2.1 hz2) ?_
 refine hmk _ λ{st1} r1 I items fin S js l1 ej hS Z hw=>?_
 refine nH (Nat.zero_le _) ?_
 let r3:RS C (st1.add (.list [])):=r1.push (listOf ([]:List Value).toArray 0) (v:=.list []) (λρ p=>⟨[],0,rfl,.nil⟩) rfl
 have l3:Le r1 r3:=RS.new_le r1
 have d3:r3.D (.ref st1.new) (.ref r1.s.heap.objs.size):=RS.new_den r1
 have ej3:r3.J=js++r.J:=ej
 refine wpAny_newFunctionEnv (s:=r3.s) (λz hz=>(F.names z hz).1) (λz hz=>nomatch hz) (λh₁ hns hsb=>?_) F.kind
 have hkeep:∀b o,r3.s.heap.get? b=some o->h₁.get? b=some o:=λb o e=>hsb.extBut b o (aW (ba e)) (aD _ e)
 let C':Cx:=C.blk x' sc cl r3.s.heap.objs.size (hideAll r3.s.heap (bg (r3.hidL js)))
 let r':RS C' ⟨x'.nms.map λ_=>none,(st1.add (.list [])).hp,st1.tk⟩:=r3.block (C':=C') ej3 (h₁:=h₁) (m':=λy=>([]:List (Str×Value)).reverse.lookup y) (r3.s.toks+([]:List (Str×Value)).length) rfl rfl rfl (ak _) hkeep hns
  (λy i hy=>(r3.cel y i (by rw[H.cls];exact(F.cl _ hy).2.2)).imp λa z=>z.imp_right λe=>(hlk y (vR (F.cl _ hy).1)).trans e) (λi v=>AZ) (ak _)
 have l':Lw r3 r':=⟨aw,λ_ h=>h⟩
 have H':bJ D C' x':=H.blk F λb o e=>r3.hid_keep ej3 e
 have hn1:st1.new=r1.T.length:=r1.hlen
 have loop:codeAny MM C.A (.compLoop (dR x x' t it ifs elt sc p) 0 (.ref I) (.ref r1.s.heap.objs.size) C'.env) (compPost MM C.A b9 use Q (.ref r1.s.heap.objs.size) C'.env.locals) r'.s:=
  Hh (C:=C') H' (C0:=C) rfl rfl F.t F.ifs F.elt Z hS r' (J:=[]) (l3.w.trans l') (List.append_nil js).symm (by rw[hn1];exact bF (T:=r1.T++[(r1.s.heap.objs.size,_)]) (p:=(r1.s.heap.objs.size,_)) List.getElem?_concat_length) hw λ{st4} r4 l4 e4 h4=>by
   obtain⟨oc,r5,e5,l5,eT,eI,eJ,hoc⟩:=r3.unblock ej3 (C':=C') rfl rfl rfl r4 e4 (l'.trans l4)
   rw[<-e5]
   refine k r5 _ _ _ oc ((l1.trans l3.w).trans l5) h4 (d3.lw l5) eJ ⟨_,λh e=>r4.fr.ns.at' λo e'=>?_⟩
   rw[hoc] at e';cases e';exact e
 exact codeAny_compStart_list loop (cS (Z.self r'.s js _ (λp hp=>hkeep _ _ (r3.nw p (ar _ (ar _ (ar _ (by rw[ej3];exact aC _ hp))))).1) hS loop))
noncomputable def NF (P:PV) (D:Nat) (x':Sx) (t:PE) (ifs:Option PE) (elt:PE) (st:St):List AV->(St->Prop)->Prop:=λitems chk=>s9 D x' t ifs elt st P (vc chk items) chk
noncomputable def NH (P:PV) (D:Nat) (x':Sx) (t:PE) (ifs:Option PE) (elt:PE):PV:=λv st=>iw v st (NF P D x' t ifs elt st)
noncomputable def rg (D:Nat) (x x':Sx) (t it:PE) (ifs:Option PE) (elt:PE) (st:St) (P:PV):Prop:=
 (wW D x it).e st (NH P D x' t ifs elt)
theorem zv (H:bJ D C x) (ok:iR x x' sc t it ifs elt=true) (r:RS C st) (h:rg D x x' t it ifs elt st P) (k:wD r P use Q):WP C (comprehension (dR x x' t it ifs elt sc p) sc C.env pos (newList []) false (eval (it.toM x) C.env) use) Q r.s:=
 ze H ok r (λQ' hq=>(snd H it (wU ok).it).e r h λr1 v u l1 h1 d1=>h1.run H.toCxB r1 d1 λI items chk S js r2 hw l2 ej hS Z=>hq r2 I _ _ S js (l1.w.trans l2) (ej.trans (by rw[l1.jn])) hS (Z.gen t x') hw) k
theorem RS.gone {r:RS C st} {st1:St} (r1:RS C st1) {Lc:Addr} {oc:Obj} (l:Lw r r1) (ej:r1.J=(Lc,oc)::r.J) {h':Heap} (hs:Heap.SameBut Lc r1.s.heap h'):∃r2:RS C st1,r2.s={r1.s with heap:=h'}/\Le r r2/\r2.T=r1.T/\r2.I=r1.I:=
 ⟨r1.out1 ej (λb x hb e=>(hs.2 b hb).trans e) r1.s.toks (ak _),rfl,⟨l.pre,l.sub,rfl⟩,rfl,rfl⟩
theorem fY (ok:iR x x' sc t it ifs elt=true) (h:rg D x x' t it ifs elt st P):ql D x (dR x x' t it ifs elt sc p) st P:=⟨λ{C} H r {Q} k=>by
 show WP C (comprehension (dR x x' t it ifs elt sc p) sc C.env _ (newList []) false (eval (it.toM x) C.env) none) Q r.s
 refine zv H ok r h λr1 av a Lc oc l h1 d ej hn=>hn.elim λm hn=>⟨m,hn _ (RS.jGet (r:=r1) (p:=(Lc,oc)) (by rw[ej];exact .head _)),λh' hs=>?_⟩
 obtain⟨r2,e2,l2,eT,eI⟩:=RS.gone (r:=r) r1 l ej hs
 rw[<-e2]
 exact k r2 _ _ l2 h1 (by unfold RS.D RS.G RS.ρ;rw[eT,eI];exact d)⟩
noncomputable def kY (D:Nat) (x:Sx) (e:Expr) (sc:Scope) (iter:Expr) (st:St) (P:PV):Prop:=
 ∀{C:Cx} {Q:Value->Shared->Prop} {use:Option (Value->Sem Unit)} {pos:Pos},bJ D C x->∀r:RS C st,wD r P use Q->WP C (comprehension e sc C.env pos (newList []) false (eval iter C.env) use) Q r.s
theorem wd (ok:iR x x' sc t it ifs elt=true) (h:rg D x x' t it ifs elt st P):kY D x (dR x x' t it ifs elt sc p) sc (it.toM x) st P:=λH r k=>zv H ok r h k
noncomputable abbrev n7 (x x':Sx) (i:Nat) (np:Pos) (t it:PE) (ifs:Option PE) (elt:PE) (sc:Scope) (p sp:Pos):Stmt:=.Assign [.Name (bu x.nms i) np] (dR x x' t it ifs elt sc p) sp
theorem lL {i:Nat} {np sp:Pos} {P:AF->St->Prop} (hp:(np.line==p.line)=true) (hi:Nat.blt i x.nms.length=true) (hnn:sc.names.all (λz=>!(z.1==bu x.nms i&&(z.2==.local||z.2==.cell)))=true)
  (hc:kY D x (dR x x' t it ifs elt sc p) sc (it.toM x) st λv st1=>i<st1.loc.length/\P .next (st1.var i v)):zA D x (n7 x x' i np t it ifs elt sc p sp) st P:=⟨λ{C} H r {Q} k=>by
 have hi:=aa hi
 have hy:x.nms[i]? =some x.nms[i]:=aq hi
 have hl:=H.lc _ (List.getElem_mem hi)
 have hsw:swapsWith (dR x x' t it ifs elt sc p) (some (.Name (bu x.nms i) np)) sp.line C.env=pure true:=by
  have hb:(sc.names.any λz=>z.1==bu x.nms i&&(z.2==.local||z.2==.cell))=false:=List.any_eq_false.mpr λz hz=>by
   rw[cO (cg hnn z hz)];exact au
  have hk:(C.env.blockKind==.function)=true:=by unfold Env.blockKind;rw[H.kind];rfl
  show(pure _:Sem Bool)=pure _
  congr 1
  rw[hk,cD hy,hl.1]
  rw[cD hy] at hb
  rw[show(np.line==(dR x x' t it ifs elt sc p).pos.line)=true from hp]
  simp only[beq_self_eq_true,Bool.true_and]
  rw[Bool.not_eq_true']
  exact hb
 rw[exec_Assign_Name_used _ _ _ _ hsw]
 refine ae (wpAny_standAt (ae ?_))
 show wpAny _ _ (do let _<-comprehension (dR x x' t it ifs elt sc p) sc C.env _ (newList []) false (eval (it.toM x) C.env) (some (assign (.Name (bu x.nms i) np) C.env))) _ _ _
 refine ae (wpAny_mono (hc (Q:=λ_ s'=>Q .next s') H r λr1 av a Lc oc l h1 d ej hn=>?_) (λ_ s' hq=>ah (ah hq)) λ_ _ e=>e)
 obtain⟨m,hn⟩:=hn
 refine wpAny_assign_Name (ja H hi d (P:=P .next) h1.2 λr2 l2 h2=>?_)
 have ej2:r2.J=(Lc,oc)::r.J:=l2.jn.trans ej
 refine⟨m,hn _ (RS.jGet (r:=r2) (p:=(Lc,oc)) (by rw[ej2];exact .head _)),λh' hs=>?_⟩
 obtain⟨r3,e3,l3,_⟩:=RS.gone (r:=r) r2 (l.trans l2.w) ej2 hs
 rw[<-e3]
 exact k r3 _ _ l3 h2 .next⟩
noncomputable def og (x x':Sx) (i:Nat) (np:Pos) (t it:PE) (ifs:Option PE) (elt:PE) (sc:Scope) (p sp:Pos):Stmt:=.Assign [.Name (bu (x.cls.map (·.1)) i) np] (dR x x' t it ifs elt sc p) sp
theorem yP {i:Nat} {np sp:Pos} {P:AF->St->Prop} (ok:iR x x' sc t it ifs elt=true) (hi:Nat.blt i x.cls.length=true) (h:rg D x x' t it ifs elt st λv st1=>ix x i v st1 (P .next)):zA D x (og x x' i np t it ifs elt sc p sp) st P:=⟨λ{C} H r {Q} k=>by
 have hi:=aa hi
 have hy:(x.cls.map (·.1))[i]? =some x.cls[i].1:=by rw[aO,aq hi];rfl
 have hl:=H.cc _ (List.getElem_mem hi)
 have hsw:swapsWithSole [.Name (bu (x.cls.map (·.1)) i) np] (dR x x' t it ifs elt sc p) sp.line C.env=pure false:=by
  show(pure _:Sem Bool)=pure _
  congr 1
  rw[cD hy,hl.1]
  simp
 have he:exec (og x x' i np t it ifs elt sc p sp) C.env=(do
   standAt sp
   let v<-eval (dR x x' t it ifs elt sc p) C.env
   assignAll v ((assignEach ((PE.cons (.cel i np) .nil).toMs x) C.env).map (·.2))
   pure .next):=by
  unfold og
  rw[exec_Assign,hsw]
  rfl
 rw[he]
 exact ae (wpAny_standAt (ae ((fY ok h).run H r λr1 a va l1 h1 d1=>ae (B0 H (.cons (.cel i np) .nil) rfl r1 d1 (P:=P .next) h1 λr2 l2 h2=>ah (k r2 _ _ (l1.trans l2) h2 .next)))))⟩
end
theorem aX {H:List AO} {a:AO}:(H++[a])[H.length]? =some a:=List.getElem?_concat_length
theorem iL {H:List AO} {a b:AO}:(H++[a]).set H.length b=H++[b]:=by rw[List.set_append_right _ _ (ak _),Nat.sub_self];rfl
noncomputable def FW (n:Nat) (tg:AV->St->(St->Prop)->Prop) (ts:St->(Bool->St->Prop)->Prop) (el:St->PV->Prop) (v:AV) (st:St) (Kc:St->Prop):Prop:=
 tg v st (KS n ts el Kc)
theorem bM {α:Type} {tg:AV->St->(St->Prop)->Prop} {ts:St->(Bool->St->Prop)->Prop} {el:St->PV->Prop} {H:List AO} {tk:Nat} {P:St->Prop} {chk:St->Prop} {L:List α} (f:α->AV) (test:α->Bool) (g:α->AV) (nl:α->List (Option AV)) (sh:List (Option AV)->Prop)
  (hchk:∀lc us,chk ⟨lc,H++[.list us],tk⟩) (hnl:∀a,sh (nl a))
  (turn:∀a us lc (Kc:St->Prop),a∈L->sh lc->us.length<=1000->(test a=true->Kc ⟨nl a,H++[.list (us++[g a])],tk⟩)->(test a=false->Kc ⟨nl a,H++[.list us],tk⟩)->FW H.length tg ts el (f a) ⟨lc,H++[.list us],tk⟩ Kc) (l:List α):
  ∀(us:List AV) (lc:List (Option AV)),(∀a∈l,a∈L)->sh lc->us.length+l.length<=1000->(∀lc,P ⟨lc,H++[.list (us++(l.filter test).map g)],tk⟩)->dH H.length chk tg ts el (l.map f) ⟨lc,H++[.list us],tk⟩ P:=by
 induction l with
 |nil=>exactλus lc hL hs hl h=>⟨hchk lc us,by have z:=h lc;rwa [List.filter_nil,List.map_nil,List.append_nil] at z⟩
 |cons a l ih=>
  intro us lc hL hs hl h
  have hl':us.length+l.length+1<=1000:=hl
  refine⟨hchk lc us,turn a us lc (kW P (g9 H.length chk tg ts el (vc chk (l.map f)))) (hL a (.head _)) hs (ag (aQ ..) hl) (λhb=>?_) λhb=>?_⟩
  ·refine ih _ _ (λb hb=>hL b (.tail _ hb)) (hnl a) (by rw[aI,Nat.add_right_comm];exact hl') λlc=>?_
   have z:=h lc
   rw[List.filter_cons_of_pos hb,List.map_cons] at z
   rw[ax];exact z
  ·refine ih _ _ (λb hb=>hL b (.tail _ hb)) (hnl a) (Nat.le_of_succ_le hl') λlc=>?_
   have z:=h lc
   rwa [List.filter_cons_of_neg (by rw[hb];exact au)] at z
theorem dY {H:List AO} {us:List AV} {r:AV} {lc:List (Option AV)} {tk:Nat} {Kc:St->Prop} (hl:us.length<=1000) (h:Kc ⟨lc,H++[.list (us++[r])],tk⟩):∃us',(⟨lc,H++[.list us],tk⟩:St).at H.length=some (.list us')/\us'.length<=100000/\Kc ((⟨lc,H++[.list us],tk⟩:St).put H.length (.list (us'++[r]))):=by
 refine⟨us,aX,ag hl (by decide),?_⟩
 unfold St.put
 rw[iL];exact h
noncomputable def BE (s:Stmt):List ExceptHandler:=match s with
 | .Try _ hs _ _ _=>hs
 |_=>[]
noncomputable def Lr (s:Stmt):Pos:=match s with
 | .Try _ _ _ _ p=>p
 |s=>s.pos
section
variable {D:Nat} {C:Cx} {st:St} {x:Sx}
theorem BL (B O:PS) {s:Stmt} {P:AF->St->Prop} (e:s=.Try (B.toMs x) (BE s) (O.toMs x) [] (Lr s)) (hne:(BE s).isEmpty=false) (iX:B.ok x=true) (okO:O.ok x=true) (h:bB D x B st λf st'=>match f with
  | .next=>bB D x O st' P
  |f=>P f st'):zA D x s st P:=⟨λ{C} H r {Q} k=>by
 rw[e]
 cases hh:BE s with
 |nil=>rw[hh] at hne;cases hne
 |cons h₀ hs=>
 refine wpAny_Try_except (cS ((C7 H B iX).ss r h λr1 f fl l hf d=>?_))
 cases d with
 |next=>exact(C7 H O okO).ss r1 hf (k.le l)
 |_=>exact k r1 _ _ l hf (by constructor<;>assumption)⟩
noncomputable def ry (it l:Nat) (tg:AV->St->(St->Prop)->Prop) (bd:WB):List AV->Nat->WB
 |[],p,st,P=>it≠l/\st.at it=some (.liter l p)/\(∃vs,st.at l=some (.list vs)/\vs.length<=p)/\P .next (st.put it (.raw (ff p)))
 |v::r,p,st,P=>it≠l/\st.at it=some (.liter l p)/\(∃vs,st.at l=some (.list vs)/\vs[p]? =some v)/\tg v (st.put it (.liter l (p+1))) (H6 bd (ry it l tg bd r (p+1)) P)
noncomputable abbrev yZ (x:Sx) (t:PE) (j:Nat) (jp:Pos) (b:PS) (p:Pos):Stmt:=.For (t.toM x) (.Name (bu x.nms j) jp) (b.toMs x) [] p
theorem RS.iterE (r:RS C st) {it l p:Nat} {vs:List AV} {I:Addr} (hne:it≠l) (e1:st.at it=some (.liter l p)) (e2:st.at l=some (.list vs)) (eI:r.ρ[it]? =some I) {X:Prop} (k:∀al xs n,r.T[it]? =some (I,bz al p)->r.s.heap.get? al=some (listOf (List.toArray xs) n)->r.Ds vs xs->r.ρ[l]? =some al->X):X:=
 r.atE e1 λa o ht od=>od.elim λal z=>r.atE e2 λb o2 hl o2d=>o2d.elim λxs y=>y.elim λn y=>by
  obtain⟨rfl,eal⟩:=z
  obtain⟨rfl,dx⟩:=y
  cases (bF ht).symm.trans eI
  cases (bF hl).symm.trans eal
  exact k _ xs n ht (r.get hl) dx eal
theorem Fs {t:PE} {j:Nat} {jp p0:Pos} {b:PS} {P:AF->St->Prop} (it l p:Nat) (rest:List AV) (hj:Nat.blt j x.nms.length=true) (hl:st.loc[j]? =some (some (.ref it))) (okt:t.ok x=true) (okb:b.ok x=true) (eit:∃l',st.at it=some (.liter l' p)) (h:ry it l (wW D x t).a (bB D x b) rest p st P):zA D x (yZ x t j jp b p0) st P:=⟨λ{C} H r {Q} k=>by
 refine wpAny_For (xn (P:=λv st'=>v=.ref it/\st'=st) H (aa hj) (by unfold mQ;rw[hl];exact⟨rfl,rfl⟩) ?_) (λu=>rfl)
 rintro st1 r1 av1 u1 L1 ⟨rfl,rfl⟩ d1
 refine d1.refE λI eI=>?_
 obtain⟨l',eit⟩:=eit
 refine r1.atE eit λI' o ht od=>od.elim λal z=>?_
 cases (bF ht).symm.trans eI
 have ho:=r1.get ht
 rw[z.1] at ho
 refine wpAny_pyIter_listiter ⟨_,ho,rfl,rfl⟩ ?_
 let X:Nat->Shared->Prop:=λn s=>∃(st':St) (r':RS C st') (rest:List AV) (p:Nat),r'.s=s/\n=rest.length/\Le r1 r'/\ry it l (wW D x t).a (bB D x b) rest p st' P
 refine mx (R:=λr s'=>match r with| .ok f=>Q f s'| .error e=>cameBackBy MM C.A C.env b9 e s') X ?_ rest.length ⟨_,r1,rest,p,rfl,rfl,.rf,h⟩
 rintro n _ ⟨st2,r2,rest,p,rfl,rfl,l2,h2⟩
 have eI2:r2.ρ[it]? =some _:=aV l2.pre eI
 cases rest with
 |nil=>
  obtain⟨hne,e1,⟨vs,e2,hle⟩,hP⟩:=h2
  refine r2.iterE hne e1 e2 eI2 λal xs n ht hl dx _=>cS (fR H.hh (r2.get ht) hl (λx h' e _ _=>?_) λh' e q1 q2=>?_)
  ·rw[bb,List.getElem?_eq_none (dx.length▸hle)] at e;cases e
  ·exact wpAny_execs_nil (k (r2.updK (v:=.raw (ff p)) ht q2 q1 rfl) _ _ (L1.trans (l2.trans RS.updK_le)) hP .next)
 |cons v r=>
  obtain⟨hne,e1,⟨vs,e2,hv⟩,hP⟩:=h2
  refine r2.iterE hne e1 e2 eI2 λal xs n ht hl dx eal=>(dx.get hv).elim λy z=>cS (fR H.hh (r2.get ht) hl (λxx h' e q1 sb=>?_) λh' e q1 q2=>?_)
  ·rw[bb,z.1] at e
   cases e
   let r3:=r2.updK (v:=.liter l (p+1)) ht (λb o hb e=>(sb.2 b hb).trans e) q1 ⟨al,rfl,eal⟩
   have l3:Le r2 r3:=RS.updK_le
   refine cS (qc q1 rfl (by decide) _ _ ?_)
   refine cS ((snd H t okt).a r3 (z.2.le l3) hP λr4 l4 h4=>?_)
   refine cS ((C7 H b okb).ss r4 h4 λr5 f fl l5 h5 d5=>?_)
   have l:=l2.trans (l3.trans (l4.trans l5))
   cases d5 with
   |next=>exact⟨r.length,Nat.lt_succ_self _,_,r5,_,_,rfl,rfl,l,h5⟩
   |cont=>exact⟨r.length,Nat.lt_succ_self _,_,r5,_,_,rfl,rfl,l,h5⟩
   |brk=>exact k r5 _ _ (L1.trans l) h5 .next
   |ret d=>exact k r5 _ _ (L1.trans l) h5 (.ret d)
  ·rw[bb,z.1] at e;cases e⟩
theorem AS {i:Nat} {a b:AV} {P:List AV->Prop} (e:st.at i=some (.list [a,b])) (h:P [a,b]):mH (.ref i) st P:=⟨λ{D C} H r {u n Q} d hn k=>by
 have hl:n=2:=(hn _ h).symm
 subst hl
 refine RS.listE r (X:=λu=>WP C (unpackItems u 2 none) Q r.s) d e λl xs m ht dx=>dx.two (X:=λxs=>r.T[i]? =some (l,listOf xs.toArray m)->r.Ds [a,b] xs->WP C (unpackItems (.ref l) 2 none) Q r.s) (λx y _ _ ht dx=>?_) ht dx
 have hO:=r.get ht
 have hlt:l≠r.s.heap.objs.size:=aW (ba hO)
 have ty:r.s.TypeIs (.ref l) "list":=⟨_,hO,rfl⟩
 unfold unpackItems
 refine ae ?_
 unfold notIterableAtAll
 refine ae (wpAny_specialOf ty slot_list_iter.lookup (ah ?_))
 simp only[Bool.false_eq_true,if_false]
 refine ae (aM (wpAny_pyIter_list (bG (xs:=[x,y]) hO) ?_))
 have one:∀{h₁:Heap} {j:Nat} {z:Value} {R':List Value->Shared->Prop} {k:Nat},h₁.get? r.s.heap.objs.size=some (bz l j)->h₁.get? l=some (listOf [x,y].toArray m)->[x,y].toArray[j]? =some z->
   (∀h₂:Heap,h₂.get? r.s.heap.objs.size=some (bz l (j+1))->Heap.SameBut r.s.heap.objs.size h₁ h₂->wpAny MM C.A (draw (.ref r.s.heap.objs.size) k) (λvs=>R' (z::vs)) b9 {r.s with heap:=h₂})->wpAny MM C.A (draw (.ref r.s.heap.objs.size) (k+1)) R' b9 {r.s with heap:=h₁}:=λ{h₁ j z R' k} e1 e2 ez kk=>by
  show wpAny _ _ (pyNext (.ref r.s.heap.objs.size)>>=_) _ _ _
  refine ae (fR (s:={r.s with heap:=h₁}) H.hh e1 e2 (λx' h' q1 q2 q3=>?_) λh' q1 _ _=>?_)
  ·rw[ez] at q1;cases q1
   exact ae (aM (wpAny_mono (kk h' q2 q3) (λvs s' hq=>ah hq) λ_ _ z=>z))
  ·rw[ez] at q1;cases q1
 refine ae (aM (one (a8 _ rfl) (aD _ hO) (z:=x) rfl λh₂ e2 s2=>?_))
 have hL2:=(s2.2 l hlt).trans (aD _ hO)
 refine one e2 hL2 (z:=y) rfl λh₃ e3 s3=>?_
 have hL3:=(s3.2 l hlt).trans hL2
 refine ah ?_
 rw[if_neg (show¬[x,y].length<2 from Nat.lt_irrefl 2)]
 refine ae (aM (fR (s:={r.s with heap:=h₃}) H.hh e3 hL3 (λx' h' q1 _ _=>nomatch q1) λh' _ _ hk=>?_))
 simp only[Option.isSome_none,Bool.false_eq_true,if_false]
 refine ah (k (r.keeps (h':=h') (λb o e=>?_) r.s.toks (ak _)) _ [x,y] fD h dx)
 have hbn:b≠r.s.heap.objs.size:=aW (ba e)
 exact hk b o hbn ((s3.2 b hbn).trans ((s2.2 b hbn).trans (aD _ e)))⟩
theorem Gw {vs:List AV} {i:Int} {P:PV} (h0:0<=i) (hl:i<1000) (v:AV) (hv:vs[i.toNat]? =some v) (h:P v st):fz (.tup (.type "tuple") vs) (.int i) st P:=⟨λ{value slice} hs=>⟨λ{D C} H r {u w Q} da db k=>
 db.intE λt=>da.tupE λa xs n dx g ds=>(ds.get hv).elim λy z=>by
  have ht:IsTup r.s.heap a xs.toArray:=⟨_,r.gGet g,rfl,n,rfl⟩
  have hi:i.toNat<xs.length:=(az.mp z.1).1
  refine tail_any ht.typeIs slot_tuple_getitem.lookup (getItem_tuple ht (Int.le_trans (by decide) h0) (Int.lt_trans hl (by decide)) (j:=i.toNat) (zg h0 hi) (tL z.1) (k r _ _ .rf h (z.2.mono (λ_ _ g=>g) List.nil_prefix))) (hs _ _)⟩⟩
theorem uk {a b c:Int} {P:PV} (hc:c≠0) (hp:Builtin.divisionGoesByPylong (b-a) c=false) (h:P (.rng a b c) st):cj (.type "range") [.int a,.int b,.int c] [] st P:=⟨λ{D C} H r {us ku Q} d dk k=>
 dk.nilE (d.three λx y z d1 d2 d3=>d1.intE λ_=>d2.intE λ_=>d3.intE λ_=>call_range_3 hc (RS.rng_k k h _ (ak _)) (.inl hp))⟩
end
structure iu (c P:Addr):Prop where
 hd:codeHdIn K0 c P=true
 bm:∃bm sl,nsIn K0 mainGlobals "__builtins__"=some (some (.ref bm))/\K0.lookup bm=some ⟨.type "module",some builtinsNs,.plain,sl⟩/\bm≠builtinsNs/\bm≠mainGlobals
section
variable {D:Nat} {C:Cx} {st:St} {x:Sx} {PA:Addr}
theorem RS.tabE (r:RS C st) (hm:PA∈[277,364]):∃o,(PA,o)∈r.V/\r.s.heap.get? PA=some o/\C.h₀.get? PA=none/\gg r.G PA o:=by
 rw[<-r.va] at hm
 obtain⟨p,hp,rfl⟩:=aG.mp hm
 have z:=r.nw p (ar _ (ar _ (aC _ hp)))
 exact⟨p.2,hp,z.1,z.2.2,r.vo p hp⟩
noncomputable abbrev w6 (V:List (Addr×Obj)) (PA:Addr) (o':Obj):List (Addr×Obj):=V.map λp=>if p.1=PA then(PA,o') else p
theorem sv {V:List (Addr×Obj)} {o':Obj}:bg (w6 V PA o')=bg V:=by
 show(V.map _).map _=V.map _
 rw[List.map_map]
 exact List.map_congr_left λp _=>by
  show(if p.1=PA then(PA,o') else p).1=p.1
  split
  ·rename_i h;exact h.symm
  ·rfl
theorem sA {V:List (Addr×Obj)} {o':Obj} {p:Addr×Obj} (h:p∈w6 V PA o'):p=(PA,o')∨p∈V/\p.1≠PA:=by
 obtain⟨q,hq,rfl⟩:=aG.mp h
 by_cases e:q.1=PA
 ·exact .inl (if_pos e)
 ·rw[if_neg e];exact .inr ⟨hq,e⟩
theorem RS.not_tab (r:RS C st) {o:Obj} (hm:(PA,o)∈r.V) {p:Addr×Obj} (h:p∈r.T++r.I∨p∈r.J):p.1≠PA:=λe=>by
 have hn:=r.nd
 rw[<-ax,bh] at hn
 have z:=a7.mp hn
 rcases h with h|h
 ·exact z.2.2 _ (bA h) PA (bA (p:=(PA,o)) (aC _ hm)) e
 ·have z2:=z.2.1
  rw[bh] at z2
  exact(a7.mp z2).2.2 PA (bA (p:=(PA,o)) hm) _ (bA h) e.symm
theorem rZ {T N I V J:List (Addr×Obj)}:(T++((N++I)++(V++J))).Perm (N++(T++(I++(V++J)))):=by
 rw[ax N];exact List.perm_append_comm_assoc _ _ _
noncomputable def RS.tabX (r:RS C st) {o o':Obj} (hm:(PA,o)∈r.V) (news:List (Addr×Obj)) (s':Shared) (tk:Nat) (hk:∀b x,b≠PA->b<r.s.heap.objs.size->r.s.heap.get? b=some x->s'.heap.get? b=some x) (ho:s'.heap.get? PA=some o') (hn:∀p∈news,s'.heap.get? p.1=some p.2/\r.s.heap.objs.size<=p.1) (nn:(bg news).Nodup) (hT:gg (GI C (news++r.I)) PA o') (hg:AllBare s'.gens) (hos:s'.os=r.s.os) (ht:tk<=s'.toks):RS C {st with tk:=tk}:=
 have sub:∀a x,GI C r.I a x->GI C (news++r.I) a x:=λa x g=>g.imp_right (ar _)
 have hP:=(r.nw (PA,o) (ar _ (ar _ (aC _ hm)))).2
 have hk':∀p∈r.L,p.1≠PA->s'.heap.get? p.1=some p.2:=λp hp hne=>hk _ _ hne (r.lt hp) (r.nw p hp).1
 have h0:∀b x,C.h₀.get? b=some x->s'.heap.get? b=some x:=λb x e=>hk b x (λhb=>by rw[hb] at e;rw[hP.2] at e;cases e) (ba (r.fr.keep _ _ e)) (r.fr.keep _ _ e)
 {m:=r.m,T:=r.T,I:=news++r.I,V:=w6 r.V PA o',J:=r.J,s:=s'
  fr:=⟨r.fr.ns.at' λx e=>hk _ x (Ne.symm hP.1) (ba e) e,h0,r.fr.above⟩
  nw:=λp hp=>by
   rcases bo.mp (rZ.mem_iff.mp hp) with hp|hp
   ·refine⟨(hn p hp).1,λe=>Nat.lt_irrefl _ (aP (e▸r.fr.ns.lt) (hn p hp).2),?_⟩
    cases e:C.h₀.get? p.1 with
    |none=>rfl
    |some x=>exact absurd (ba (r.fr.keep _ _ e)) (Nat.not_lt.mpr (hn p hp).2)
   ·have cases':p=(PA,o')∨p∈r.L/\p.1≠PA:=by
     rcases bo.mp hp with hp|hp
     ·exact .inr ⟨aC _ hp,r.not_tab hm (.inl (aC _ hp))⟩
     ·rcases bo.mp hp with hp|hp
      ·exact .inr ⟨ar _ (aC _ hp),r.not_tab hm (.inl (ar _ hp))⟩
      ·rcases bo.mp hp with hp|hp
       ·exact(sA hp).imp_right λz=>⟨ar _ (ar _ (aC _ z.1)),z.2⟩
       ·exact .inr ⟨ar _ (ar _ (ar _ hp)),r.not_tab hm (.inr hp)⟩
    rcases cases' with rfl|hp
    ·exact⟨ho,hP⟩
    ·exact⟨hk' p hp.1 hp.2,(r.nw p hp.1).2⟩
  nd:=((rZ.map _).nodup_iff).mpr (by
   have e:bg (news++(r.T++(r.I++(w6 r.V PA o'++r.J))))=bg news++bg (r.T++(r.I++(r.V++r.J))):=by
    rw[bh,bh,bh,bh,sv,bh (T:=r.T),bh (T:=r.I),bh (T:=r.V)]
   refine Eq.mpr (congrArg List.Nodup e) ?_
   exact a7.mpr ⟨nn,r.nd,λa ha b hb e=>by
    obtain⟨p,hp,rfl⟩:=aG.mp ha
    obtain⟨q,hq,rfl⟩:=aG.mp hb
    exact absurd (r.lt hq) (Nat.not_lt.mpr (e▸(hn p hp).2))⟩)
  va:=sv.trans r.va,vo:=λp hp=>(sA hp).elim (λe=>e▸hT) λz=>(r.vo p z.1).mono sub,bk:=r.bk
  loc:=λi y v hx hv=>(r.loc i y v hx hv).imp λ_ h=>h.imp_right λd=>d.mono sub aw,cel:=r.cel,hp:=r.hp.mono sub aw
  gb:=hg,os:=hos.trans r.os,tk:=ht}
theorem RS.tabX_le {r:RS C st} {o o':Obj} {hm:(PA,o)∈r.V} {news:List (Addr×Obj)} {s':Shared} {tk:Nat} {hk:∀b x,b≠PA->b<r.s.heap.objs.size->r.s.heap.get? b=some x->s'.heap.get? b=some x} {ho:s'.heap.get? PA=some o'} {hn:∀p∈news,s'.heap.get? p.1=some p.2/\r.s.heap.objs.size<=p.1} {nn:(bg news).Nodup} {hT:gg (GI C (news++r.I)) PA o'} {hg:AllBare s'.gens} {hos:s'.os=r.s.os} {ht:tk<=s'.toks}:Le r (r.tabX hm news s' tk hk ho hn nn hT hg hos ht):=⟨aw,λ_ h=>ar _ h,rfl⟩
theorem Ai (H:CxB D C) (h:C.h₀.get? PA=none):mainGlobals≠PA:=λe=>by
 obtain⟨p',loose,mg,mb,T⟩:=H.top
 obtain⟨o,es,ep,e1,hd,_⟩:=T.g
 rw[e,h] at e1;cases e1
theorem Fv {c:Addr} {s:Shared} {mg:Str->Option Value} (tb:iu c PA) (H:CxB D C) (hg:C.h₀.Ns mainGlobals mg) (hs:∀b o,C.h₀.get? b=some o->s.heap.get? b=some o) (hP:C.h₀.get? PA=none):s.heap.BuiltinsAt mg PA:=by
 obtain⟨bm,sl,e1,e2,e3,e4⟩:=tb.bm
 exact⟨bm,_,mg_of H.kin hg e1,e3,e4,(λ(e:bm=PA)=>by have h9:=H.kin _ _ e2;rw[e,hP] at h9;cases h9),hs _ _ (H.kin _ _ e2),rfl,rfl,rfl⟩
theorem kz {pos:Pos} {c:Value}:codeAmong pos [.int pos.line 0,.int pos.col 0,c]=some c:=by simp[codeAmong]
theorem uc {sc:Scope} {env:Env} {v y:Str} {a:Addr} (hn:sc.names=[(v,.local),(y,.free)]) (e:env.cells.lookup y=some a):closureFor sc env=pure [(y,a)]:=by
 unfold closureFor
 rw[hn]
 have hc:cellOf env y=pure a:=by unfold cellOf;rw[e]
 have h1:(NameKind.local==NameKind.free)=false:=rfl
 have h2:(NameKind.free==NameKind.free)=true:=rfl
 simp[hc,h1,h2]
theorem MU {d:pL} {y:Str} {cn:Nat} {P:PV} (tb:iu 366 364) (hc:x.cod=366) (hy:(y,cn)∈x.cls) (hn:∃v,d.scope.names=[(v,.local),(y,.free)]) (hdf:∀env,defaultsOf d.params env=([],[])) (h:P (.ref st.new) (st.add (.clo cn y d))):ql D x (.Lambda d.params d.body d.scope (cQ 364)) st P:=⟨λ{C} H r {Q} k=>by
 obtain⟨v,hn⟩:=hn
 obtain⟨ac,eac,elk⟩:=r.cel y cn (by rw[H.cls];exact hy)
 obtain⟨o,hm,ho,h0P,q,hq,hT⟩:=r.tabE (PA:=364) (.tail _ (.head _))
 have old:=r.fr.keep
 have hcl:=uc hn elk
 have hcod:C.env.code=.ref 366:=by rw[<-hc];exact H.cod (by rw[hc];decide)
 obtain⟨p',loose,mg,mb,T⟩:=H.top
 have C0:=codeHd_of_K (H.kin.keeps old) tb.hd
 have hb:=Fv (s:=r.s) tb H.toCxB T.g old h0P
 refine kla_eval (hdf C.env) ?_
 have hqual:C.env.qual++"<lambda>"=pg:=by rw[H.qual (by rw[hc];decide),hc];rfl
 rw[hqual]
 refine c9 ?_
 cases q with
 |none=>
  have ho':r.s.heap.get? 364=some (tabObj #[]):=by rw[ho,show o=_ from hT]
  refine cS (kla_makeFunction (ps:=#[]) hcl H.glob (T.g.keeps old) hcod C0 ho' trivial rfl (Ai H.toCxB h0P) hb λc' ctv h' tk hx hge hlt hrec htb htk=>?_)
  obtain⟨c2,oc,vs,t,e2,hoc,hd,hv⟩:=hrec
  cases e2
  have hG:jo (GI C ([(c',oc)]++r.I)) (.ref c') pg:=⟨c',oc,vs,t,rfl,.inr (.head _),hd,hv⟩
  let r2:RS C st:=(r.tabX (o':=tabObj (#[]++#[rawInt (cQ 364).line,rawInt (cQ 364).col,.ref c'])) hm [(c',oc)] {r.s with heap:=h',toks:=tk} st.tk (λb o hb _ e=>hx b o hb e) htb (λp hp=>by rw[aN.mp hp];exact⟨hoc,hge⟩) (List.nodup_cons.mpr ⟨List.not_mem_nil,List.nodup_nil⟩) ⟨some (cQ 364,pg),λp e=>by cases e;exact⟨rfl,λ_=>rfl⟩,c',rfl,hG⟩ r.gb rfl (ag r.tk htk))
  have l2:Le r r2:=RS.tabX_le
  exact RS.push_k (r:=r2) (v:=.clo cn y d) (o:=kla_obj "<lambda>" pg d.params d.body d.scope [(y,ac)] ((mg "__name__").getD .none) c' ctv) (d:=λρ p=>⟨ac,aV p eac,rfl,_,rfl,rfl,rfl,rfl,rfl,rfl,rfl,rfl,rfl,hG⟩) (hf:=rfl) (k.le l2) h
 |some q=>
  obtain⟨c',e',hG⟩:=hT
  obtain⟨e1,e2⟩:=hq q rfl
  obtain⟨q1,q2⟩:=q
  cases e1
  cases e2 rfl
  have ho':r.s.heap.get? 364=some (tabObj #[.int (cQ 364).line 0,.int (cQ 364).col 0,.ref c']):=ho.trans (congrArg some e')
  refine cS (kla_makeFunctionHit hcl H.glob (T.g.keeps old) hcod C0 ho' trivial kz hb λctv h' tk hk hsz htk=>?_)
  exact RS.push_k (r:=r.keeps hk tk htk) (v:=.clo cn y d) (o:={cls:=.type "function",data:=.func (kla_fn "<lambda>" pg d.params d.body d.scope [(y,ac)] ((mg "__name__").getD .none) (.ref c') ctv)}) (d:=λρ p=>⟨ac,aV p eac,rfl,_,rfl,rfl,rfl,rfl,rfl,rfl,rfl,rfl,rfl,hG⟩) (hf:=rfl) (k.le fD) h⟩
end
structure Cn (d:pL) (v y:Str) (p1 p2 p3:Pos):Prop where
 body:d.body=.Subscript (.Name y p1) (.Name v p2) p3
 names:d.scope.names=[(v,.local),(y,.free)]
 kind:d.scope.kind=.function
 co:d.scope.isCoroutine=false
 gen:d.scope.isGenerator=false
 ne:(v==y)=false
 n1:(v==("__debug__":Str))=false
 n2:(y==("__debug__":Str))=false
 n3:(y==("__classdict__":Str))=false
 bind:∀fd:FuncData,fd.params=d.params->fd.defaults=.none->fd.kwdefaults=.none->∀u,bindArgs fd ⟨[u],[]⟩=pure [(v,u)]
structure w8 (st:St) (i:Nat) (n:Int) (r:AV):Prop where
 mk::(all:∃cn y d v q1 q2 q3 l vs,st.at i=some (.clo cn y d)/\Cn d v y q1 q2 q3/\st.at cn=some (.cell (some (.ref l)))/\st.at l=some (.list vs)/\0<=n/\n<1000/\vs[n.toNat]? =some r)
noncomputable def BD (a:Addr) (h:Heap):Prop:=K0.In h/\∃o fd,h.get? a=some o/\o.data=.func fd
theorem xG {M:Model} {a:Addr} (h:Heap) (X:BD a h):∃k,(k=Keeper.frame∨k=Keeper.machine∨k=Keeper.boundFrame)/\Looks M h (keeperOf (.ref a)) k:=by
 obtain⟨_,⟨c,dd,dt,sl⟩,fd,e,rfl⟩:=X
 exact⟨.frame,.inl rfl,(Looks.ld (part:=none) e).andThen (Looks.of_pure rfl)⟩
section
variable {D:Nat} {C:Cx} {st:St} {x:Sx}
theorem A5 (H:bJ D C x) (r:RS C st) {i:Nat} {n:Int} {a:AV} {f:Addr} {u:Value} {P:PV} {Q:Value->Shared->Prop} (ef:r.ρ[i]? =some f) (du:r.D (.int n) u) (hc:w8 st i n a) (h:P a st) (k:Kt r P Q):BD f r.s.heap/\WP C (call (.ref f) [u]) Q r.s:=by
 obtain⟨cn,y,d,v,q1,q2,q3,l,vs,e1,lo,e2,e3,h0,h1,hr⟩:=hc.all
 refine du.intE λt=>r.atE e1 λf' o ht od=>od.elim λac z=>r.atE e2 λac' oc hcl ocd=>ocd.elim λal y2=>r.atE e3 λal' ol hl old=>old.elim λxs z3=>z3.elim λn1 z3=>?_
 obtain⟨eac,_,fd,hd,f1,f2,f3,f4,f5,f6,f7,f8,f9⟩:=z
 obtain⟨ecd,dv⟩:=y2
 obtain⟨rfl,dx⟩:=z3
 cases (bF ht).symm.trans ef
 cases (bF hcl).symm.trans eac
 obtain⟨al2,e5,eal⟩:=dv.inv
 subst e5
 cases (bF hl).symm.trans eal
 have ho:=r.get ht
 have hoc:=r.get hcl
 have hO:=r.get hl
 obtain⟨xr,hxr,dr⟩:=dx.get hr
 have hcr:r.s.heap.CodeRec fd.code fd.qualname:=by
  obtain⟨c,o2,vs2,t2,g1,g2,g3,g4⟩:=f9
  exact⟨c,o2,vs2,t2,g1,r.gGet g2,g3,g4⟩
 refine⟨⟨r.k0 H.toCxB,o,fd,ho,hd⟩,?_⟩
 obtain⟨p',loose,mg,mb,T⟩:=H.top
 refine wpAny_call (kla_callFunE (aJ (aQ ..) H.dep) ho hd (by rw[f3];exact lo.co) (by rw[f3];exact lo.gen) f2 hcr ?_)
 rw[lo.bind fd f1 f7 f8]
 refine ah ?_
 rw[f3,f4,f5,f6]
 refine wpAny_newFunctionEnv (λz hz=>?_) (λz hz=>?_) (λh₁ hns hsb=>?_) lo.kind
 ·rw[lo.names] at hz
  exact(aL.mp hz).elim (λe=>by rw[e];exactλq=>nomatch q) λhz=>by rw[aN.mp hz];exactλq=>nomatch q
 ·rw[aN.mp hz,lo.names];show List.lookup v _=_;rw[List.lookup_cons,beq_self_eq_true]
 have hk:∀b o,r.s.heap.get? b=some o->h₁.get? b=some o:=λb o e=>hsb.extBut b o (aW (ba e)) (aD _ e)
 refine⟨T.nolimit.keeps λb o e=>hk b o (r.fr.keep b o e),?_⟩
 refine kla_codeExpr (cS ?_)
 rw[lo.body]
 have kl:d.scope.names.lookup v=some .local:=by rw[lo.names,List.lookup_cons,beq_self_eq_true]
 have kf:d.scope.names.lookup y=some .free:=by rw[lo.names,List.lookup_cons,show(y==v)=false by rw[Bool.beq_comm];exact lo.ne,List.lookup_cons,beq_self_eq_true]
 refine Subscript_ (wpAny_Name (wpAny_loadName_free (c:=ac') lo.kind kf ?_ ⟨_,hk _ _ hoc,ecd⟩ ?_ lo.n3) lo.n2)
 ·show List.lookup y [(y,ac')]=_
  rw[List.lookup_cons,beq_self_eq_true]
 refine wpAny_Name (wpAny_loadName_local (v:=.int n t) lo.kind kl hns ?_ ?_) lo.n1
 ·simp
 exact tail_any (s:={r.s with heap:=h₁,toks:=_}) (T:="list") ⟨_,hk _ _ hO,rfl⟩ slot_list_getitem.lookup (wpAny_getItem_list ⟨_,hk _ _ hO,rfl,n1,rfl⟩ h0 (xo (Int.lt_trans h1 (by decide))) (tL hxr) (k (r.keeps hk _ (aQ _ _)) _ _ fD h dr)) rfl
noncomputable def Nb (X:PV) (vs:List AV) (st:St):Prop:=match vs with
 |[v]=>X v st
 |_=>False
theorem HR {l i:Nat} {p1 p:Pos} {arg:PE} {P:PV} (hl:Nat.blt l x.nms.length=true) (e:st.loc[l]? =some (some (.ref i))) (ok:arg.ok x=true) (h:(wW D x arg).e st λv st1=>∃n a,v=.int n/\w8 st1 i n a/\P a st1):ql D x (.Call (.Name (bu x.nms l) p1) [arg.toM x] [] p) st P:=⟨λ{C} H r {Q} k=>by
 show wpAny _ _ (do callWith p (<-eval (.Name (bu x.nms l) p1) C.env) [] (backTo p (starEach ((PE.cons arg .nil).toMs x) C.env)) (backToKw p (keywordEach [] C.env))) _ _ _
 refine ae (xn (P:=λv st'=>v=.ref i/\st'=st) H (aa hl) (by unfold mQ;rw[e];exact⟨rfl,rfl⟩) ?_)
 rintro st1 r1 av1 u1 L1 ⟨rfl,rfl⟩ d1
 refine d1.refE λf ef=>?_
 have z:=snd H (.cons arg .nil) (by show(arg.ok x&&true)=true;rw[ok];rfl)
 have h2:(backTo p (starEach ((PE.cons arg .nil).toMs x) C.env)).any (·.1)=false:=List.any_eq_false.mpr λq hq=>by rw[z.l.sn p q hq];exact au
 refine callWith_of (P:=BD f) (by rw[h2];rfl) xG (jw (z.l.sn p) rfl (z.es r1 (P:=Nb λv st'=>∃n a,v=.int n/\w8 st' i n a/\P a st') h ?_))
 intro st2 r2 as us l2 h2 d2
 cases as with
 |nil=>exact h2.elim
 |cons v as=>
 cases as with
 |cons _ _=>exact h2.elim
 |nil=>
 obtain⟨n,a,rfl,hc,h2⟩:=h2
 refine d2.one λu du=>?_
 exact kws_nil (A5 H r2 (aV l2.pre ef) du hc h2 (k.le (L1.trans l2)))⟩
end
noncomputable abbrev cU (p:Int×Int×Int):AV:=.tup (.ref 192) [.int p.1,.int p.2.1,.int p.2.2]
noncomputable abbrev tJ (x:Sx) (y:Str) (it:PE) (sc:Scope) (p2 p3 p4 p5 p6 p7:Pos):Expr:=.GeneratorExp (.Subscript (.Name y p2) (.UnaryOp .USub (.Constant (.int 1) 0 p3) p4) p5) [⟨.Name y p6,it.toM x,[],0⟩] sc p7
noncomputable def BV (y:Str) (sc:Scope):Bool:=!sc.isCoroutine&&(sc.kind==.function&&(sc.names.all (λz=>z.2 !=.cell&&z.2 !=.free)&&(sc.names.lookup (".0":Str)==some .local&&(sc.names.lookup y==some .local&&!(y==("__debug__":Str))))))
theorem lY (n:Nat):passing (λ_=>true) n 0=List.range n:=by unfold passing;rw[List.drop_zero];exact List.filter_eq_self.mpr λ_ _=>rfl
theorem pR {l:List Int} (h:∀v∈l,0<=v/\v<=1000):0<=l.sum/\l.sum<=1000*(l.length:Int):=by
 induction l with
 |nil=>exact⟨Int.le_refl _,Int.le_refl _⟩
 |cons v l ih=>
  have z:=ih λu hu=>h u (.tail _ hu)
  have hv:=h v (.head _)
  rw[List.sum_cons,List.length_cons]
  omega
theorem vV {l:List Int} (h:∀v∈l,0<=v/\v<=1000) (j:Nat):0<=l.getD j 0/\l.getD j 0<=1000:=by
 rw[aB]
 cases e:l[j]? with
 |none=>exact⟨Int.le_refl _,by decide⟩
 |some v=>exact h v (a0 e)
section
variable {D:Nat} {C:Cx} {st:St} {x:Sx}
theorem zZ {A:Around} {s₂:Shared} {qual:Str} {sc:Scope} {c:Addr} {Q:Value->Shared->Prop} (tb:iu c 277) (X:K0.In s₂.heap) (hc:C.env.code=.ref c) (r:RS C st) (hs:∀b o,r.s.heap.get? b=some o->s₂.heap.get? b=some o) {o:Obj} (ho:r.s.heap.get? 277=some o) (hT:gg r.G 277 o)
  (h:∀c' news o' h' tk,(∀b o,b≠277->s₂.heap.get? b=some o->h'.get? b=some o)->(∀p∈news,h'.get? p.1=some p.2/\s₂.heap.objs.size<=p.1)->(bg news).Nodup->h'.get? 277=some o'->gg (GI C (news++r.I)) 277 o'->s₂.heap.objs.size<=h'.objs.size->Q (.ref c') {s₂ with heap:=h',toks:=tk}):
  wpAny MM A (genexprCode C.env (cQ 277) qual sc) Q b9 s₂:=by
 have C0:=codeHd_of_K X tb.hd
 obtain⟨q,hq,hT'⟩:=id hT
 cases q with
 |none=>
  have ho':s₂.heap.get? 277=some (tabObj #[]):=by rw[hs _ _ ho,show o=_ from hT']
  refine wpAny_genexprCodeX hc (C0.code ho' trivial) (C0.tab ho') rfl λc' h' tk hx hge hlt _ hrec htab _=>?_
  obtain⟨c2,oc,vs,t,e2,hoc,hd,hv⟩:=hrec
  cases e2
  exact h c' [(c',oc)] _ h' tk (λb o hb eb=>hx b o hb eb) (λp hp=>by rw[aN.mp hp];exact⟨hoc,hge⟩) (List.nodup_cons.mpr ⟨List.not_mem_nil,List.nodup_nil⟩) htab.2 ⟨some (cQ 277,qual),λp e=>by cases e;exact⟨rfl,λe=>absurd e (by decide)⟩,c',rfl,c',oc,vs,t,rfl,.inr (.head _),hd,hv⟩ (Nat.le_of_lt (aJ hge hlt))
 |some p=>
  obtain⟨c',e',hG⟩:=hT'
  have e1:=(hq p rfl).1
  obtain⟨q1,q2⟩:=p
  cases e1
  have ho':s₂.heap.get? 277=some (tabObj #[.int (cQ 277).line 0,.int (cQ 277).col 0,.ref c']):=(hs _ _ ho).trans (congrArg some e')
  refine wpAny_genexprCode_hit (c':=.ref c') hc (C0.code ho' trivial) kz ?_
  exact h c' [] o s₂.heap s₂.toks (λb o _ eb=>eb) (λp hp=>nomatch hp) List.nodup_nil (hs _ _ ho) hT (ak _)
theorem G4 {A:Around} {c PA:Addr} {s:Shared} {Q:Addr->Shared->Prop} (tb:iu c PA) (H:bJ D C x) (hs:∀b o,C.h₀.get? b=some o->s.heap.get? b=some o) (h:Q builtinsNs s):wpAny MM A (builtinsFor C.env.globals C.env.builtins) Q b9 s:=by
 obtain⟨p',loose,mg,mb,T⟩:=H.top
 obtain⟨bm,sl,e1,e2,e3,e4⟩:=tb.bm
 rw[H.glob]
 exact wpAny_builtinsFor (T.g.keeps hs) (mg_of H.kin T.g e1) e3 (hs _ _ (H.kin _ _ e2)) rfl rfl rfl h
theorem Dh {A:Around} {s:Shared} {m:Str->Option Value} {y:Str} {env:Env} {E:Value->Shared->Prop} {p2 p3 p4 p5:Pos} (X:K0.In s.heap) (hk:env.scope.kind=.function) (hl:env.kindOf y=some .local) (hy:(y==("__debug__":Str))=false) (hn:s.heap.Ns env.locals m) {a:Addr} {i j k:Int} {t0 t1 t2:Tok} {n:Nat} {dx:Option Addr} (ha:m y=some (.ref a)) (ho:s.heap.get? a=some (dW (.ref 192) #[.int i t0,.int j t1,.int k t2] n dx)):
  wpAny MM A (eval (.Subscript (.Name y p2) (.UnaryOp .USub (.Constant (.int 1) 0 p3) p4) p5) env) (λv s'=>(∃t,v=.int k t)/\Keeps s s') E s:=by
 refine Subscript_ (wpAny_Name (wpAny_loadName_local hk hl hn ha ?_) hy)
 refine wpAny_UnaryOp (wpAny_Constant_int ?_)
 refine neg_int ?_
 exact DY (by exact X) (by exact ho) rfl ⟨⟨_,rfl⟩,_,_,rfl,λb o e=>e⟩
theorem xV {G:GP} {ρ:List Addr} {i j k:Int} {l:List Value} (h:aT G ρ [.int i,.int j,.int k] l):∃t0 t1 t2,l=[.int i t0,.int j t1,.int k t2]:=h.three λx y z d1 d2 d3=>d1.intE λt0=>d2.intE λt1=>d3.intE λt2=>⟨t0,t1,t2,rfl⟩
theorem uF {r:RS C st} {a:Addr} {o:Obj} {z:Obj} (hm:(277,z)∈r.V) (hT:gg r.G 277 z) (ho:r.s.heap.get? a=some o) (hc:o.cls≠.none):a≠277:=λe=>by
 subst e
 have hz:=(r.nw (277,z) (ar _ (ar _ (aC _ hm)))).1
 cases hz.symm.trans ho
 obtain⟨q,_,hT⟩:=hT
 cases q with
 |none=>exact hc (congrArg Obj.cls (show z=_ from hT))
 |some p=>obtain⟨c,e,_⟩:=hT;exact hc (congrArg Obj.cls e)
theorem G2 {y:Str} {it:PE} {sc:Scope} {p2 p3 p4 p5 p6 p8:Pos} {P:PV} {Q:Value->Shared->Prop} (H:bJ D C x) (r:RS C st) (tb:iu 281 277) (hcod:x.cod=281) (okit:it.ok x=true) (hsc:BV y sc=true) (hit:∀v,genFold (it.toM x) C.env v=pure v)
  (h:(wW D x it).e st λv st1=>∃(i:Nat) (ts:List (Int×Int×Int)),v=.ref i/\st1.at i=some (.list (ts.map cU))/\ts.length<=100/\(∀t∈ts,0<=t.2.2/\t.2.2<=1000)/\P (.int (ts.map (·.2.2)).sum) {st1 with tk:=st.tk}) (k:Kt r P Q):
  WP C (callWith p8 (.builtin "sum") [] (backTo p8 (starEach [tJ x y it sc p2 p3 p4 p5 p6 (cQ 277)] C.env)) (backToKw p8 (keywordEach [] C.env))) Q r.s:=by
 have c1:=cO (aE hsc)
 have c2:sc.kind=.function:=eq_of_beq (aE (aA hsc))
 have c3:∀z∈sc.names,z.2≠.cell/\z.2≠.free:=λz hz=>have w:=cg (aE (aA (aA hsc))) z hz;⟨bne_iff_ne.mp (aE w),bne_iff_ne.mp (aA w)⟩
 have c4:sc.names.lookup (".0":Str)=some .local:=eq_of_beq (aE (aA (aA (aA hsc))))
 have c5:sc.names.lookup y=some .local:=eq_of_beq (aE (aA (aA (aA (aA hsc)))))
 have c6:=cO (aA (aA (aA (aA (aA hsc)))))
 have hc:C.env.code=.ref 281:=by rw[<-hcod];exact H.cod (by rw[hcod];decide)
 refine c9 ?_
 have htk0:=r.tk
 generalize hQ':(λ(a:Value) (s':Shared)=>r.s.toks<=s'.toks->Q a s')=Q'
 refine cS (Q:=Q') ?_
 refine callWith_of (P:=jg (.builtin "sum")) rfl ug (jw (λp hp=>?_) rfl (args_cons ?_ rfl))
 ·have:p∈[(false,eval (tJ x y it sc p2 p3 p4 p5 p6 (cQ 277)) C.env)]:=hp
  rw[aN.mp this]
 have hcl:closureFor sc C.env=pure []:=closureFor_none λz hz=>(c3 z hz).2
 refine wpAny_GeneratorExp_walksQD H.hh c1 hcl (λz hz=>(c3 z hz).1) c4 c5 c2 (aJ (aQ ..) H.dep) ?_ hit
 refine(snd H it okit).e r h λ{st1} r1 v u l1 h1 d1=>?_
 obtain⟨i,ts,rfl,ei,hts,hsm,hP⟩:=h1
 refine RS.listE r1 (X:=λu=>wpAny _ _ (pyIter u) _ _ _) d1 ei λla xs n1 ht dx=>?_
 have hO:=r1.get ht
 have hlen:=dx.length
 rw[ai] at hlen
 obtain⟨o,hm,ho,h0P,hT⟩:=r1.tabE (PA:=277) (.head _)
 refine wpAny_pyIter_list (r1.isList ht) ?_
 have hla:la<r1.s.heap.objs.size:=ba hO
 have push:∀b o,r1.s.heap.get? b=some o->(r1.s.heap.push (bz la 0)).get? b=some o:=λb o e=>aD _ e
 have old1:=r1.fr.keep
 obtain⟨p',loose,mg,mb,TT⟩:=H.top
 refine⟨(TT.nolimit.keeps old1).keeps push,?_⟩
 refine zZ tb ((r1.k0 H.toCxB).keeps push) hc r1 push ho hT λc' news o' h3 tk3 hk3 hi3 nn3 ho3 hT3 hsz3=>?_
 have hPA:277<r1.s.heap.objs.size:=ba ho
 have old3:∀b o,C.h₀.get? b=some o->h3.get? b=some o:=λb o e=>hk3 b o (λhh=>by rw[hh,h0P] at e;cases e) (push b o (old1 b o e))
 have hsz:(r1.s.heap.push (bz la 0)).objs.size=r1.s.heap.objs.size+1:=Heap.size_push ..
 have hsz3':r1.s.heap.objs.size+1<=h3.objs.size:=ag (Nat.le_of_eq hsz.symm) hsz3
 refine G4 tb H old3 ?_
 have hcm:cStatics<r1.s.heap.objs.size:=let⟨_,hn,_⟩:=TT.nolimit.keeps old1;hn.lt
 have hneq:la≠277:=uF hm hT hO λe=>nomatch e
 have hIget:h3.get? r1.s.heap.objs.size=some (bz la 0):=hk3 _ _ (Nat.ne_of_gt hPA) (a8 _ rfl)
 have hLget:h3.get? la=some (listOf xs.toArray n1):=hk3 _ _ hneq (push _ _ hO)
 refine⟨r1.s.heap.objs.size,[r1.s.heap.objs.size,la],[r1.s.heap.objs.size],xs.toArray.size,λi v=>xs.toArray[i]? =some v,λi h=>h.IsListIter r1.s.heap.objs.size la i/\h.IsList la xs.toArray,λ_=>true,λi v=>∃t,v=.int ((ts.map (·.2.2)).getD i 0) t,rfl,λA' hA=>Walks.list hA _ la (aW hla) xs.toArray,⟨⟨_,hIget,rfl,rfl⟩,⟨_,hLget,rfl,n1,rfl⟩⟩,?_,TT.nolimit.keeps old3,?_,?_,?_⟩
 ·intro b hb
  show b<h3.objs.size
  rcases aL.mp hb with hb|hb
  ·rw[hb];exact aP (Nat.lt_succ_self _) hsz3'
  ·rw[aN.mp hb];exact aP (Nat.lt_succ_of_lt hla) hsz3'
 ·intro hm
  rw[aN.mp hm] at hcm
  exact Nat.lt_irrefl _ hcm
 ·intro href hrk
  refine⟨λA' E' i v s2 m2 hh2 _ _ hv hn hmv hkeep=>wpAny_tests_nil ⟨rfl,_,_,rfl,λb o e=>e⟩,λA' E' i v s2 m2 hh2 _ _ hv _ hn hmv hkeep=>?_⟩
  rw[bb] at hv
  have hil:i<ts.length:=hlen▸(az.mp hv).1
  obtain⟨xv,ex,dv⟩:=dx.get (i:=i) (v:=cU ts[i]) (by rw[aO,aq hil];rfl)
  cases hv.symm.trans ex
  have hsee:∀b o,b≠r1.s.heap.objs.size->b≠277->r1.s.heap.get? b=some o->s2.heap.get? b=some o:=λb o hb1 hb2 e=>by
   have e3:h3.get? b=some o:=hk3 b o hb2 (push b o e)
   exact hkeep b (List.mem_range.mpr (ba e3)) (λhm=>hb1 (aN.mp hm)) o (hrk _ _ e3)
  have X2:K0.In s2.heap:=λb o e=>hsee b o (aW (ba (old1 _ _ (H.kin b o e)))) (λhh=>by have:=H.kin b o e;rw[hh,h0P] at this;cases this) (old1 _ _ (H.kin b o e))
  have hval:(ts.map (·.2.2)).getD i 0=ts[i].2.2:=by rw[aB,aO,aq hil];rfl
  rw[hval]
  refine dv.tupE (X:=λv=>m2 y=some v->wpAny MM A' _ _ E' s2) (λa ys nn dd g ds hmv=>?_) hmv
  have hoa:=r1.gGet g
  obtain⟨t0,t1,t2,rfl⟩:=xV ds
  refine Dh X2 ?_ ?_ c6 hn hmv (hsee _ _ (aW (ba hoa)) (uF hm hT hoa λe=>nomatch e) hoa)
  ·exact c2
  ·exact c5
 ·intro a h5 tk5 gs hgs ha5 hs5 hk5 W hst
  refine spliced_nil (kws_nil ⟨⟨H.kin.keeps λb o e=>hk5 _ _ (old3 b o e),trivial⟩,?_⟩)
  have W1:=W.in4_1
  have hall:∀v∈ts.map (·.2.2),0<=v/\v<=1000:=λv hv=>by obtain⟨t,ht,rfl⟩:=aG.mp hv;exact hsm t ht
  have hfit:∀jj,InLong ((ts.map (·.2.2)).getD jj 0)/\InLong (preSum (λi=>(ts.map (·.2.2)).getD i 0) (jj+1)):=λjj=>by
   have h1:=vV hall jj
   have h2:=pR (l:=(ts.map (·.2.2)).take (jj+1)) λv hv=>hall v (List.mem_of_mem_take hv)
   have h3:((ts.map (·.2.2)).take (jj+1)).length<=100:=by rw[List.length_take,ai];omega
   rw[preSum_getD]
   unfold InLong
   omega
  refine call_sum_walkS (W1.self 0 _ _ _ hst ⟨a,_,_,_,_,_,_,λi=>(ts.map (·.2.2)).getD i 0,rfl,W1,hst,?_,?_,λjj _=>hfit jj,λs' t' hm'=>?_⟩)
  ·intro b hb
   show b<h5.objs.size
   rw[hs5]
   rcases aL.mp hb with hb|hb
   ·rw[hb];exact Nat.lt_succ_self _
   ·rcases aL.mp hb with hb|hb
    ·rw[hb];exact Nat.lt_succ_of_lt ha5
    ·exact Nat.lt_succ_of_lt (aH (List.mem_range.mp hb) ha5)
  ·rintro jj v ⟨ii,e1,t,rfl⟩
   rw[lY] at e1
   have:=(az.mp e1).2
   rw[List.getElem_range] at this
   exact⟨t,by rw[this]⟩
  ·rw[lY,List.length_range,preSum_getD,List.take_of_length_le (by rw[ai,ay,hlen];exact ak _)]
   subst hQ'
   intro htk
   have hkn:∀b o,h3.get? b=some o->b≠r1.s.heap.objs.size->s'.heap.get? b=some o:=λb o e hb=>hm'.heap b o (λhmem=>(aL.mp hmem).elim (λ(hh:b=h3.objs.size)=>Nat.lt_irrefl _ (hh▸ba e)) λhh=>hb (aN.mp hh)) (hk5 _ _ e)
   exact k (r1.tabX hm news s' st.tk (λb o hb1 hb2 e=>hkn b o (hk3 b o hb1 (push b o e)) (aW hb2)) (hkn _ _ ho3 (aW hPA))
    (λp hp=>have z:=hi3 p hp;have hge:=ag (Nat.le_of_eq hsz.symm) z.2;⟨hkn _ _ z.1 (Nat.ne_of_gt hge),Nat.le_of_succ_le hge⟩) nn3 hT3 ((r1.gb.push hgs).movedS hm') hm'.os (ag htk0 htk)) _ _ (l1.trans RS.tabX_le) hP (.int _ _)
theorem uj {g:Nat} {y:Str} {it:PE} {sc:Scope} {p1 p2 p3 p4 p5 p6 p8:Pos} {P:PV} (hg:(x.gls[g]?).map (·.2)=some (.builtin "sum")) (tb:iu 281 277) (hcod:x.cod=281) (okit:it.ok x=true) (hsc:BV y sc=true) (hit:∀env v,genFold (it.toM x) env v=pure v)
  (h:(wW D x it).e st λv st1=>∃(i:Nat) (ts:List (Int×Int×Int)),v=.ref i/\st1.at i=some (.list (ts.map cU))/\ts.length<=100/\(∀t∈ts,0<=t.2.2/\t.2.2<=1000)/\P (.int (ts.map (·.2.2)).sum) {st1 with tk:=st.tk}):ql D x (.Call (.Name (bu (x.gls.map (·.1)) g) p1) [tJ x y it sc p2 p3 p4 p5 p6 (cQ 277)] [] p8) st P:=⟨λ{C} H r {Q} k=>by
 obtain⟨⟨y1,v1⟩,q1,hv1⟩:=Option.map_eq_some_iff.mp hg
 cases hv1
 show wpAny _ _ (do callWith p8 (<-eval (.Name (bu (x.gls.map (·.1)) g) p1) C.env) [] (backTo p8 (starEach [tJ x y it sc p2 p3 p4 p5 p6 (cQ 277)] C.env)) (backToKw p8 (keywordEach [] C.env))) _ _ _
 refine ae (w4 (P:=λv st'=>v=.val (.builtin "sum")/\st'=st) H (by unfold pj;rw[q1];exact⟨rfl,rfl⟩) ?_)
 rintro st1 r1 av1 u1 L1 ⟨rfl,rfl⟩ d1
 exact d1.valE (G2 H r1 tb hcod okit hsc (hit C.env) h (k.le L1))⟩
end
noncomputable abbrev j9 (t f:Value):Obj:={cls:=.type "map",data:=.fields #[t,f]}
theorem ic:Slot "map" "__next__" "map.__next__":=
 .of (owner:="map") (n:="__next__") (by rw[typeLookup_type,builtinLookup_eq_fast];kernel_rfl) (by decide+kernel) (by decide+kernel) (by decide+kernel)
  (by first|exact .inl (by decide+kernel)|exact .inr (by decide+kernel)) (by rw[isSubtype_type];kernel_rfl)
theorem oJ:entryFor table "map.__next__"=some Builtin.«map.__next__»:=entryFor_of_tree (by kernel_rfl)
theorem qz (a:Value):argsOk "map.__next__" ⟨[a],[]⟩:=by unfold argsOk;kernel_rfl
theorem uN:mroOf (.type "map")=pure [.type "map",.type "object"]:=by rw[mroOf_type];kernel_rfl
theorem oH:typeLookup (.type "map") "__new__"=pure (some (.builtin "map.__new__")):=by rw[typeLookup_type,builtinLookup_eq_fast];kernel_rfl
theorem qH:Slot "map" "__init__" "object.__init__":=
 .of (owner:="object") (n:="__init__") (by rw[typeLookup_type,builtinLookup_eq_fast];kernel_rfl) (by decide+kernel) (by decide+kernel) (by decide+kernel)
  (by first|exact .inl (by decide+kernel)|exact .inr (by decide+kernel)) (by rw[isSubtype_type];kernel_rfl)
theorem vL:TypeCalled "map" "map.__new__" "object.__init__":=
 ⟨by decide+kernel,by decide+kernel,⟨_,_,uN⟩,madeBy_type uN oH (by decide+kernel),by decide+kernel,by rw[isSubtype_type];kernel_rfl,qH⟩
theorem rB (a b:Value):checkTypeCall "map" ⟨[a,b],[]⟩=pure ():=by kernel_rfl
theorem tV (a b:Value):checkBuiltinCall "map.__new__" ⟨[.type "map",a,b],[]⟩=pure ():=by kernel_rfl
theorem qF:entryFor table "map.__new__"=some Builtin.«map.__new__»:=entryFor_of_tree (by kernel_rfl)
theorem C9:isSubtype (.type "map") (.type "map")=pure true:=by rw[isSubtype_type];kernel_rfl
theorem vz:typeLookup (.type "map") "__len__"=pure none:=by rw[typeLookup_type,builtinLookup_eq_fast];kernel_rfl
theorem tY:typeLookup (.type "map") "__length_hint__"=pure none:=by rw[typeLookup_type,builtinLookup_eq_fast];kernel_rfl
theorem km:Slot "map" "__iter__" "map.__iter__":=
 .of (owner:="map") (n:="__iter__") (by rw[typeLookup_type,builtinLookup_eq_fast];kernel_rfl) (by decide+kernel) (by decide+kernel) (by decide+kernel)
  (by first|exact .inl (by decide+kernel)|exact .inr (by decide+kernel)) (by rw[isSubtype_type];kernel_rfl)
theorem oP:entryFor table "map.__iter__"=some Builtin.«dict_keyiterator.__iter__»:=
 entryFor_alias (id':="dict_keyiterator.__iter__") (by kernel_rfl) (by first|rfl|decide+kernel|(unfold String.splitOn;simp+decide [String.splitOnAux])) (by decide+kernel) (by kernel_rfl)
theorem qt (a:Value):argsOk "map.__iter__" ⟨[a],[]⟩:=by unfold argsOk;kernel_rfl
section
variable {A:Around} {E:Value->Shared->Prop} {s:Shared} {M T LI l:Addr} {i n nT:Nat} {dT:Option Addr} {f:Value}
theorem uZ {xs:Array Value} {Q:Value->Shared->Prop} (hh:A.handled=none) (hi:s.heap.get? LI=some (bz l i)) (hl:s.heap.get? l=some (listOf xs n))
  (h1:∀x,xs[i]? =some x->∀h',h'.get? LI=some (bz l (i+1))->Heap.SameBut LI s.heap h'->Q x {s with heap:=h'})
  (h2:xs[i]? =none->∀e h',(∀b o,b≠LI->s.heap.get? b=some o->h'.get? b=some o)->(∃o,h'.get? e=some o/\o.cls=.type "StopIteration")->E (.ref e) {s with heap:=h'}):wpAny MM A (Builtin.SmallTypes.nextOf (.ref LI)) Q E s:=by
 have ty:s.TypeIs (.ref LI) "list_iterator":=⟨_,hi,rfl⟩
 unfold Builtin.SmallTypes.nextOf
 refine ae (wpAny_callSpecial?_slot (name:=Str.ofString "__next__") ty slot_listiter_next (wpAny_call_entry slot_listiter_next ty entry_listiter_next ?_ (args_listiter_next _)))
 show wpAny _ _ (field (.ref LI) 0>>=_) _ _ s
 refine ae (wpAny_field hi rfl (x:=.ref l) rfl ?_)
 rw[if_neg (show¬((Value.ref l==Value.none)=true) from au)]
 show wpAny _ _ (field (.ref LI) 1>>=_) _ _ s
 refine ae (wpAny_field hi rfl (x:=.int i 0) rfl ?_)
 show wpAny _ _ (seqItems? (.ref l)>>=_) _ _ s
 refine ae (wpAny_seqItems hl rfl ?_)
 simp only[Int.toNat_natCast]
 cases hx:xs[i]? with
 |some x=>exact ae (wpAny_setField hi rfl (Nat.lt_succ_self 1) (ah ⟨x,rfl,ah (h1 x hx _ (Heap.get?_update_self _ hi rfl) (bl ..))⟩))
 |none=>
  refine ae (wpAny_rule (ae (wpAny_setField hi rfl Nat.zero_lt_two ?_)))
  exact lG (A:=A.in1) hh λe h' hk ho=>h2 hx e h' (λb o hb e=>hk _ _ (((bl ..).2 b hb).trans e)) ho
theorem rR {xs:Array Value} {Q:Option Value->Shared->Prop} (hh:A.handled=none) (hM:s.heap.get? M=some (j9 (.ref T) f)) (hT:s.heap.get? T=some (dW (.type "tuple") #[.ref LI] nT dT)) (hi:s.heap.get? LI=some (bz l i)) (hl:s.heap.get? l=some (listOf xs n))
  (h1:∀x,xs[i]? =some x->∀h',h'.get? LI=some (bz l (i+1))->Heap.SameBut LI s.heap h'->wpAny MM A.in1 (call f [x]) (λv s'=>Q (some v) s') b9 {s with heap:=h'})
  (h2:xs[i]? =none->∀h',(∀b o,b≠LI->s.heap.get? b=some o->h'.get? b=some o)->Q none {s with heap:=h'}):wpAny MM A (pyNext (.ref M)) Q E s:=by
 have ty:s.TypeIs (.ref M) "map":=⟨_,hM,rfl⟩
 have hne:M≠LI:=λe=>by
  subst e
  exact absurd (Value.type.inj (congrArg Obj.cls (Option.some.inj (hM.symm.trans hi)))) (by decide)
 unfold pyNext
 refine ae (wpAny_attempt (wpAny_callSpecial?_slot (name:=Str.ofString "__next__") ty ic (wpAny_call_entry ic ty oJ ?_ (qz _))))
 show wpAny _ _ (field (.ref M) 0>>=_) _ _ s
 refine ae (wpAny_field hM rfl (x:=.ref T) rfl ?_)
 refine ae (wpAny_seqItems hT rfl ?_)
 dsimp only
 simp only[List.forIn_toArray,List.forIn_cons,List.forIn_nil,bind_assoc]
 refine ae (aM (uZ (by exact hh) hi hl (λx hx h' hi' hs=>?_) (λhx e h' he hexc=>?_)))
 ·refine ae (ah (ae (ah ?_)))
  refine ae (wpAny_field ((hs.2 M hne).trans hM) rfl (x:=f) rfl ?_)
  refine ae (aM (wpAny_mono (h1 x hx h' hi' hs) (λv s' hq=>?_) λ_ _ x=>x.elim))
  exact ae (wpAny_letGo (ah ⟨v,rfl,ah hq⟩))
 ·exact hexc.elim λo ho=>kM ho.1 ho.2 (h2 hx _ he)
noncomputable abbrev CY (h:Heap) (l:Addr):Heap:=h.push (bz l 0)
noncomputable abbrev vu (h:Heap) (l:Addr):Heap:=(CY h l).push (dW (.type "tuple") #[.ref h.objs.size] 0)
noncomputable abbrev Iq (h:Heap) (l:Addr) (f:Value):Heap:=(vu h l).push (j9 (.ref (h.objs.size+1)) f)
theorem qu (f:Value) (l:Addr) (xs:Array Value):
  Meets (Builtin.«map.__new__» ⟨[.type "map",f,.ref l],[]⟩) (λ_ R s=>s.heap.IsList l xs/\R (.ok (.ret (.ref (s.heap.objs.size+2)))) {s with heap:=Iq s.heap l f}):=
 .of_wp λprog w A R s h=>by
  obtain⟨hp,g,d,tk,os⟩:=s;obtain⟨hl1,h⟩:=h
  have hsub:=C9
  have hL1:Heap.IsList (Shared.heap ⟨hp,g,d,tk,os⟩) l xs:=hl1
  wp_walk using wpAny_pyIter_list hL1
  refine⟨_,rfl,?_⟩
  have e1:(CY hp l).objs.size=hp.objs.size+1:=Heap.size_push ..
  have e2:(vu hp l).objs.size=hp.objs.size+2:=by rw[Heap.size_push,e1]
  show R (.ok (.ret (.ref (vu hp l).objs.size))) ⟨(vu hp l).push (j9 (.ref (CY hp l).objs.size) f),g,d,tk,os⟩
  rw[e1,e2]
  exact h
theorem Ay {xs:Array Value} {Q:Value->Shared->Prop} (hl:s.heap.IsList l xs) (h:Q (.ref (s.heap.objs.size+2)) {s with heap:=Iq s.heap l f}):wpAny MM A (call (.type "map") [f,.ref l]) Q E s:=by
 refine callType_new vL (by decide) (rB _ _) (tV _ _) (λobj=>F.args_object_init_3 obj _ _) qF (qu f l xs) ⟨hl,?_⟩
 have e:(vu s.heap l).objs.size=s.heap.objs.size+2:=by rw[Heap.size_push,Heap.size_push]
 have g:(Iq s.heap l f).get? (s.heap.objs.size+2)=some (j9 (.ref (s.heap.objs.size+1)) f):=by rw[<-e];exact a8 _ rfl
 show _/\_
 exact⟨⟨_,g,rfl⟩,h⟩
theorem zW {t:Value} {Q:Value->Shared->Prop} (hM:s.heap.get? M=some (j9 t f)) (h:Q (.ref M) s):wpAny MM A (pyIter (.ref M)) Q E s:=by
 have hT:s.TypeIs (.ref M) "map":=⟨_,hM,rfl⟩
 refine wpAny_pyIter_slot hT km (wpAny_call_entry km hT oP ?_ (qt _))
 show wpAny _ _ (ret (.ref M)) _ _ s
 exact ah ⟨_,rfl,"map",_,hT,ic.lookup,h⟩
theorem qD {t:Value} {Q:Value->Shared->Prop} (hM:s.heap.get? M=some (j9 t f))
  (h:∀h' c,h'.get? s.heap.objs.size=some (listOf #[] c)->(∀b o,s.heap.get? b=some o->h'.get? b=some o)->
   codeAny MM A.in1 (.builtin "list.extend.loop" ⟨[.ref s.heap.objs.size,.ref M,.none],[]⟩) (λr s'=>r=.ok (.ret .none)/\Q (.ref s.heap.objs.size) s') {s with heap:=h'}):wpAny MM A (call (.type "list") [.ref M]) Q E s:=by
 have hMS:s.heap.objs.size≠M:=Nat.ne_of_gt (ba hM)
 refine callType_codes (Q₁:=λobj s₁=>obj=.ref s.heap.objs.size/\s₁={s with heap:=s.heap.push {cls:=.type "list",data:=.seq #[]}}) F.called_list (F.typeCall_list_1 _) F.entry_list_init (code_list_new _ ⟨rfl,rfl⟩) λobj s₁ h₁=>?_
 obtain⟨rfl,rfl⟩:=h₁
 have hS:(s.heap.push {cls:=.type "list",data:=.seq #[]}).get? s.heap.objs.size=some {cls:=.type "list",data:=.seq #[]}:=a8 _ rfl
 refine⟨⟨_,hS,rfl⟩,F.args_list_init_2 _ _,?_⟩
 show wpAny _ A.in1.in1 (do let old<-Builtin.List.listItems (.ref s.heap.objs.size);Builtin.List.listUpdate (.ref s.heap.objs.size) (λ_=>#[]);letGo old.toList.reverse;Builtin.List.listExtendWith (.ref s.heap.objs.size) (.ref M) .none) _ _ _
 refine ae ?_
 unfold Builtin.List.listItems
 refine ae (wpAny_seqItems hS rfl (ah ?_))
 show wpAny _ _ (updateSeq s.heap.objs.size (λ_=>#[])>>=λ_=>letGo (#[]:Array Value).toList.reverse>>=λ_=>Builtin.List.listExtendWith (.ref s.heap.objs.size) (.ref M) .none) _ _ _
 refine ae (wpAny_updateSeq hS rfl ?_)
 have hS₂:=Heap.get?_update_self (Obj.mapSeq (λ_=>(#[]:Array Value))) hS rfl
 have oth:∀b o,s.heap.get? b=some o->((s.heap.push {cls:=.type "list",data:=.seq #[]}).update s.heap.objs.size (Obj.mapSeq (λ_=>(#[]:Array Value)))).get? b=some o:=
  λb o e=>(Heap.get?_update_other _ _ (Nat.ne_of_gt (ba e))).trans (aD _ e)
 refine ae (wpAny_letGo ?_)
 generalize ((s.heap.push {cls:=.type "list",data:=.seq #[]}).update s.heap.objs.size (Obj.mapSeq (λ_=>(#[]:Array Value))))=h₂ at hS₂ oth
 have hM₂:=oth _ _ hM
 have ty:Shared.TypeIs {s with heap:=h₂} (.ref M) "map":=⟨_,hM₂,rfl⟩
 unfold Builtin.List.listExtendWith
 refine ae (wpAny_typeOf ty ?_)
 have h1:Builtin.List.listSameRef (.ref s.heap.objs.size) (.ref M)=false:=by simp[Builtin.List.listSameRef,hMS]
 have h2:(Value.type "map"==Value.type "list")=false:=by decide
 have h3:(Value.type "map"==Value.type "tuple")=false:=by decide
 simp only[h1,h2,h3,Bool.or_false,Bool.false_eq_true,if_false]
 refine ae (zW hM₂ (ae (aM ?_)))
 unfold Builtin.List.listLengthHint
 refine ae (wpAny_specialOf ty vz ?_)
 show wpAny _ _ (specialOf (Value.ref M) (Str.ofString "__length_hint__")>>=_) _ _ _
 refine ae (wpAny_specialOf ty tY ?_)
 refine ah ?_
 show wpAny _ _ (rule "list.extend.makes-room">>=λ_=>Builtin.List.listTouch (.ref s.heap.objs.size)>>=λ_=>again (.builtin "list.extend.loop" ⟨[.ref s.heap.objs.size,.ref M,.none],[]⟩)) _ _ _
 refine ae (wpAny_rule ?_)
 refine ae ?_
 show wpAny _ _ (updateSeq s.heap.objs.size (·.push .none)>>=λ_=>updateSeq s.heap.objs.size (·.pop)) _ _ _
 refine ae (wpAny_updateSeq hS₂ rfl ?_)
 have hS₃:=Heap.get?_update_self (Obj.mapSeq (·.push Value.none)) hS₂ rfl
 refine wpAny_updateSeq (hz:=by seq_fits) hS₃ rfl ?_
 have hS₄:=Heap.get?_update_self (Obj.mapSeq (·.pop)) hS₃ rfl
 refine ah ⟨plainId_quiet F.plain_extend_loop _,codeAny_mono (h _ _ hS₄ λb o e=>?_) λr s' hr=>?_⟩
 ·have hb:=Nat.ne_of_gt (ba e)
  exact(Heap.get?_update_other _ _ hb).trans ((Heap.get?_update_other _ _ hb).trans (oth b o e))
 ·obtain⟨rfl,hq⟩:=hr
  exact⟨rfl,hq⟩
end
section
variable {C:Cx} {A:Around} {M T LI l S:Addr} {nS nl:Nat} {as bs:List AV} {f:Value} {nT:Nat} {dT:Option Addr} {RR:Result->Shared->Prop} {J0:JS} {st0:St}
theorem yT {st:St} {n m:Nat} {u:AO} (h:n≠m):(st.put n u).at m=st.at m:=List.getElem?_set_ne h
theorem Gh {st:St} {n:Nat} {u v:AO} (h:st.at n=some v):(st.put n u).at n=some u:=List.getElem?_set_self (az.mp h).1
theorem AL (hh:A.handled=none) (hne:nS≠nl) (hS:st0.at nS=some (.list [])) (hl:st0.at nl=some (.list as)) (hlen:as.length<=1000) (hbs:bs.length=as.length) {r₀:RS C st0} (gM:r₀.G M (j9 (.ref T) f)) (gT:r₀.G T (dW (.type "tuple") #[.ref LI] nT dT)) (eS:r₀.ρ[nS]? =some S) (el:r₀.ρ[nl]? =some l)
  (turn:∀{st':St} (r:RS C st') {i:Nat} {a b:AV} {u:Value} {Q:Value->Shared->Prop},Lw r₀ r->as[i]? =some a->bs[i]? =some b->r.D a u->(∀(r':RS C st') v,Le r r'->r'.D b v->Q v r'.s)->wpAny MM A.in1.in1 (call f [u]) Q b9 r.s)
  (fin:∀{st':St} (r:RS C st'),st'=st0.put nS (.list bs)->Lw r₀ r->r.J=J0->RR (.ok (.ret .none)) r.s) (n:Nat):
  ∀(i:Nat) {st':St} (r:RS C st'),st'=st0.put nS (.list (bs.take i))->i+n=as.length->Lw r₀ r->r.J=(LI,bz l i)::J0->codeAny MM A (.builtin "list.extend.loop" ⟨[.ref S,.ref M,.none],[]⟩) RR r.s:=by
 induction n with
 |zero=>
  intro i st' r est hi L ej
  subst est
  refine r.atE ((yT hne).trans hl) λal o ht od=>od.elim λxs z=>z.elim λn1 z=>?_
  obtain⟨rfl,dx⟩:=z
  cases (bF ht).symm.trans (aV L.pre el)
  have hLI:=RS.jGet (r:=r) (p:=(LI,bz al i)) (by rw[ej];exact .head _)
  refine codeAny_builtin F.entry_extend_loop ?_
  rw[Around.under_plainId F.plain_extend_loop _]
  show wpAny _ A.in1 (pyNext (.ref M)>>=_) _ _ r.s
  have hend:xs.toArray[i]? =none:=by rw[bb];exact List.getElem?_eq_none (by rw[<-dx.length];exact Nat.le_of_eq hi.symm)
  refine ae (rR (by exact hh) (r.gGet (L.G _ _ gM)) (r.gGet (L.G _ _ gT)) hLI (r.get ht) (λx hx'=>?_) λ_ h' he=>?_)
  ·rw[hend] at hx';cases hx'
  ·exact ah (fin (r.out1 ej he r.s.toks (ak _)) (by rw[List.take_of_length_le (by rw[hbs];exact Nat.le_of_eq hi.symm)]) ⟨L.pre,L.sub⟩ rfl)
 |succ n ih=>
  intro i st' r est hi L ej
  subst est
  refine r.atE ((yT hne).trans hl) λal o ht od=>od.elim λxs z=>z.elim λn1 z=>?_
  obtain⟨rfl,dx⟩:=z
  cases (bF ht).symm.trans (aV L.pre el)
  have hLI:=RS.jGet (r:=r) (p:=(LI,bz al i)) (by rw[ej];exact .head _)
  have hia:i<as.length:=hi▸Nat.lt_add_of_pos_right (Nat.succ_pos n)
  have ha:as[i]? =some as[i]:=aq hia
  have hb:bs[i]? =some (bs[i]'(hbs▸hia)):=aq _
  obtain⟨x',hx2,d⟩:=dx.get ha
  refine codeAny_builtin F.entry_extend_loop ?_
  rw[Around.under_plainId F.plain_extend_loop _]
  show wpAny _ A.in1 (pyNext (.ref M)>>=_) _ _ r.s
  refine ae (rR (by exact hh) (r.gGet (L.G _ _ gM)) (r.gGet (L.G _ _ gT)) hLI (r.get ht) (λx hx' h' hit' hs=>?_) λhx'=>?_)
  ·rw[bb,hx2] at hx'
   cases hx'
   let r2:=r.re1 (o':=bz al (i+1)) ej (λb y hb e=>(hs.2 b hb).trans e) hit' r.s.toks (ak _)
   have l2:Lw r r2:=⟨aw,λ_ h=>h⟩
   refine turn r2 (L.trans l2) ha hb (d.lw l2) λr3 v l3 dv=>?_
   refine r3.atE (Gh hS) λaS o hS3 oS=>oS.elim λys z=>z.elim λn2 z=>?_
   obtain⟨rfl,dy⟩:=z
   cases (bF hS3).symm.trans (aV (L.trans (l2.trans l3.w)).pre eS)
   have hO2:=r3.get hS3
   have hlen2:ys.toArray.size<1000:=by
    rw[ay,<-dy.length,List.length_take]
    exact aP (aJ (Nat.min_le_left ..) hia) hlen
   have hf:ys.toArray.size+1<=sizeLine:=gj (ag hlen2 (by decide))
   show wpAny _ A.in1 (updateSeq aS (·.push v)>>=_) _ _ _
   refine ae (wpAny_updateSeq hO2 rfl (ah ⟨plainId_quiet F.plain_extend_loop _,?_⟩) (Nat.le_of_succ_le hf) (by show(ys.toArray.push v).size<=_;rw[Array.size_push];exact Nat.le_succ_of_le hf))
   obtain⟨c2,hc2⟩:∃c2,(r3.s.heap.update aS (Obj.mapSeq (·.push v))).get? aS=some (listOf (ys++[v]).toArray c2):=by
    rw[<-List.push_toArray];exact⟨_,get?_update_seq hO2 (·.push v)⟩
   have s4:=bl r3.s.heap aS (Obj.mapSeq (·.push v))
   let r4:=r3.upd (v:=.list (bs.take i++[bs[i]'(hbs▸hia)])) hS3 (r3.sameFr (r3.tAt hS3) s4) (r3.setNews hS3 s4 hc2) ⟨ys++[v],c2,rfl,dy.append (.cons dv .nil)⟩ r3.s.toks (ak _)
   have l4:Le r3 r4:=r3.upd_le
   exact ih (i+1) r4 (by rw[show bs.take (i+1)=bs.take i++[bs[i]'(hbs▸hia)] by rw[List.take_succ,hb];rfl];exact ur) (by rw[<-hi,Nat.add_assoc,Nat.add_comm 1]) (L.trans (l2.trans (l3.trans l4).w)) ((l3.trans l4).jn.trans rfl)
  ·rw[bb,hx2] at hx';cases hx'
end
structure HW (K:Frag):Prop where
 ty:typeIn K (.ref 192)=some (.type "type")
 reads:readsIn K 192 (.type "type")=true
 get:findCls K (.ref 192) (.type "type") "_make"=some (.get (.builtin "classmethod.__get__") (.ref 148) .none (.ref 192))
 cm:(recIn K 148 "classmethod").map (·.head?)=some (some (.ref 146))
noncomputable abbrev rj (p:Int×Int×Int):AV:=.tup (.type "tuple") [.int p.1,.int p.2.1,.int p.2.2]
noncomputable def RS.setA {C:Cx} {st:St} (r:RS C st) (A':Around):RS {C with A:=A'} st:=⟨r.m,r.T,r.I,r.V,r.J,r.s,r.fr,r.nw,r.nd,r.va,r.vo,r.bk,r.loc,r.cel,r.hp,r.gb,r.os,r.tk⟩
noncomputable def RS.unA {C:Cx} {st:St} {A':Around} (r:RS {C with A:=A'} st):RS C st:=⟨r.m,r.T,r.I,r.V,r.J,r.s,r.fr,r.nw,r.nd,r.va,r.vo,r.bk,r.loc,r.cel,r.hp,r.gb,r.os,r.tk⟩
noncomputable def RS.immN {C:Cx} {st:St} (r:RS C st) {h':Heap} {a:Addr} {o:Obj} (F:Fr C.h₀ C.env.locals h' r.m) (N:News C.h₀ C.env.locals h' ((a,o)::r.L)) (ha:∀p∈r.L,p.1≠a) (t:Nat) (ht:r.s.toks<=t):RS C st:=
 {m:=r.m,T:=r.T,I:=(a,o)::r.I,V:=r.V,va:=r.va,vo:=λp h=>(r.vo p h).mono λ_ _ g=>g.imp_right (.tail _),J:=r.J,s:={r.s with heap:=h',toks:=t},fr:=F,nw:=iG qZ N,nd:=gy qZ r.nd ha,bk:=r.bk,loc:=λi x v hx hv=>(r.loc i x v hx hv).imp λ_ h=>h.imp_right λd=>d.mono (λ_ _ g=>g.imp_right (.tail _)) aw
  cel:=r.cel,hp:=r.hp.mono (λ_ _ g=>g.imp_right (.tail _)) aw,gb:=r.gb,os:=r.os,tk:=ag r.tk ht}
section
variable {D:Nat} {C:Cx} {st:St} {x:Sx}
noncomputable abbrev Ll (x:Sx) (g1 g2 g3 l:Nat) (p1 p2 p3 p4 p5 p6 p7:Pos):Expr:=.Call (.Name (bu (x.gls.map (·.1)) g1) p1) [.Call (.Name (bu (x.gls.map (·.1)) g2) p2) [.Attribute (.Name (bu (x.gls.map (·.1)) g3) p3) "_make" p4,.Name (bu x.nms l) p5] [] p6] [] p7
theorem qN (H:bJ D C x) {i:Nat} {p:Pos} {v:Value} (r:RS C st) {Q:Value->Shared->Prop} (h:(x.gls[i]?).map (·.2)=some v) (k:∀r':RS C st,Le r r'->Q v r'.s):WP C (eval (.Name (bu (x.gls.map (·.1)) i) p) C.env) Q r.s:=by
 obtain⟨⟨y,u⟩,e,hu⟩:=Option.map_eq_some_iff.mp h
 cases hu
 refine w4 (P:=λv' st'=>v'=.val u/\st'=st) H (by unfold pj;rw[e];exact⟨rfl,rfl⟩) ?_
 rintro st1 r1 av u1 l ⟨rfl,rfl⟩ d
 exact d.valE (k r1 l)
theorem Na (mk:HW K0) {g1 g2 g3 l:Nat} {p1 p2 p3 p4 p5 p6 p7:Pos} {P:PV} (h1:(x.gls[g1]?).map (·.2)=some (.type "list")) (h2:(x.gls[g2]?).map (·.2)=some (.type "map")) (h3:(x.gls[g3]?).map (·.2)=some (.ref 192)) (hll:Nat.blt l x.nms.length=true) (i:Nat) (ts:List (Int×Int×Int)) (e1:st.loc[l]? =some (some (.ref i))) (e2:st.at i=some (.list (ts.map rj))) (hlen:ts.length<=100)
  (hcs:∀(p:Int×Int×Int) (st':St) (P:PV),P (cU p) st'->bw D 146 [.val (.ref 192),rj p] [] st' P) (h:P (.ref st.new) (st.add (.list (ts.map cU)))):ql D x (Ll x g1 g2 g3 l p1 p2 p3 p4 p5 p6 p7) st P:=⟨λ{C} H r {Q} k=>by
 obtain⟨rest,hcm⟩:∃rest,recIn K0 148 "classmethod"=some (.ref 146::rest):=by
  have e:=mk.cm
  cases q:recIn K0 148 "classmethod" with
  |none=>rw[q] at e;cases e
  |some l=>
   rw[q] at e
   cases l with
   |nil=>cases e
   |cons v l=>cases e;exact⟨l,rfl⟩
 have sl:∀e:PE,e.ok x=true->Sl C.env (e.M x):=λe ok=>(snd H e ok).l
 show wpAny _ _ (do callWith p7 (<-eval (.Name (bu (x.gls.map (·.1)) g1) p1) C.env) [] (backTo p7 (starEach ((PE.cons (.rawA (.Name (bu (x.gls.map (·.1)) g2) p2) [.Attribute (.Name (bu (x.gls.map (·.1)) g3) p3) "_make" p4,.Name (bu x.nms l) p5] [] p6) .nil).toMs x) C.env)) (backToKw p7 (keywordEach (PE.nil.toMk x) C.env))) _ _ _
 refine ae (qN H r h1 λr1 l1=>?_)
 have s1:=sl (.cons (.rawA (.Name (bu (x.gls.map (·.1)) g2) p2) [.Attribute (.Name (bu (x.gls.map (·.1)) g3) p3) "_make" p4,.Name (bu x.nms l) p5] [] p6) .nil) rfl
 have s2:=sl .nil rfl
 have s3:=λ(h:_)=>fJ (C:=C) (pos:=p7) (f:=.type "list") (first:=[]) (r:=r1) (Q:=Q) s1 s2 h
 refine s3 ?_
 refine args_cons ?_ rfl
 show wpAny _ _ (do callWith p6 (<-eval (.Name (bu (x.gls.map (·.1)) g2) p2) C.env) [] (backTo p6 (starEach ((PE.cons (.att (.glb g3 p3) "_make" p4) (.cons (.loc l p5) .nil)).toMs x) C.env)) (backToKw p6 (keywordEach (PE.nil.toMk x) C.env))) _ _ _
 refine ae (qN H r1 h2 λr2 l2=>?_)
 refine fJ (m1:=(PE.cons (.att (.glb g3 p3) "_make" p4) (.cons (.loc l p5) .nil)).M x) (m2:=(PE.nil).M x) (sl _ (by show(true&&(Nat.blt l x.nms.length&&true))=true;rw[hll];rfl)) (sl _ rfl) (args_cons ?_ rfl)
 refine Attribute_any_ (value:=(PE.glb g3 p3).toM x) (attr:="_make") (pos:=p4) (qN H r2 h3 λr3 l3=>?_) rfl
 with_reducible refine cls_cm r3.fr H.kin r3.nw mk.ty mk.reads mk.get hcm λq h' F' N' hq=>?_
 let r4:=r3.immN F' N' (λp hp=>aW (hq p hp)) (r3.s.toks+1) (aK _)
 have l4:Le r3 r4:=⟨aw,λ_ h=>.tail _ h,rfl⟩
 refine args_cons (xn (r:=r4) (P:=λv st'=>v=.ref i/\st'=st) H (aa hll) (by unfold mQ;rw[e1];exact⟨rfl,rfl⟩) ?_) rfl
 rintro st5 r5 av5 u5 l5 ⟨rfl,rfl⟩ d5
 have gq:r5.G q (methodObj (.ref 146) (.ref 192)):=.inr (l5.sub _ (.head _))
 refine spliced_nil (kws_nil ⟨⟨r5.k0 H.toCxB,trivial⟩,?_⟩)
 refine RS.listE r5 (X:=λu=>WP C (call (.type "map") [.ref q,u] []) _ r5.s) d5 e2 λa xs n1 ht dx=>?_
 refine Ay (r5.isList ht) ?_
 let rJ:=r5.addJ (a:=r5.s.heap.objs.size) (o:=bz a 0) (r5.fr.push _) (News.push r5.fr r5.nw _ rfl) (ak _) r5.s.toks (ak _)
 have z1:(CY r5.s.heap a).objs.size=r5.s.heap.objs.size+1:=Heap.size_push ..
 have z2:(vu r5.s.heap a).objs.size=r5.s.heap.objs.size+2:=by rw[Heap.size_push,z1]
 let rT:=rJ.pushI (dW (.type "tuple") #[.ref r5.s.heap.objs.size] 0) rfl
 let rM:=rT.pushI (j9 (.ref (r5.s.heap.objs.size+1)) (.ref q)) rfl
 have gT:rM.G (r5.s.heap.objs.size+1) (dW (.type "tuple") #[.ref r5.s.heap.objs.size] 0):=.inr (.tail _ (by rw[<-z1];exact .head _))
 have gM:rM.G (r5.s.heap.objs.size+2) (j9 (.ref (r5.s.heap.objs.size+1)) (.ref q)):=.inr (by rw[<-z2];exact .head _)
 have l5M:Lw r5 rM:=⟨aw,λ_ h=>.tail _ (.tail _ h)⟩
 refine spliced_nil (kws_nil ⟨⟨rM.k0 H.toCxB,trivial⟩,?_⟩)
 refine qD (s:=rM.s) (rM.gGet gM) λh2 c hS hk=>?_
 let r6:RS C (st5.add (.list [])):=rM.new (v:=.list []) (Fr.keeps rM.fr hk) (λp hp=>(aL.mp hp).elim (λe=>e▸⟨hS,λe=>Nat.lt_irrefl _ (e▸rM.fr.ns.lt),by
  cases e:C.h₀.get? rM.s.heap.objs.size with
  |none=>rfl
  |some x=>exact absurd (ba (rM.fr.keep _ _ e)) (Nat.lt_irrefl _)⟩) λhp=>⟨hk _ _ (rM.nw p hp).1,(rM.nw p hp).2⟩) (ak _) ⟨[],c,rfl,.nil⟩ rM.s.toks (ak _)
 have l6:Le rM r6:=rM.new_le
 have hn:st5.new=rM.T.length:=rM.hlen
 have eS:r6.ρ[st5.new]? =some rM.s.heap.objs.size:=by rw[hn];exact bF (T:=rM.T++[(rM.s.heap.objs.size,_)]) (p:=(rM.s.heap.objs.size,_)) List.getElem?_concat_length
 have hil:i<st5.hp.length:=(az.mp e2).1
 have ep:∀v,(st5.add (.list [])).put st5.new v=st5.add v:=λv=>by unfold St.put St.add St.new;rw[iL]
 have l05:Le r r5:=l1.trans (l2.trans (l3.trans (l4.trans l5)))
 refine AL (A:=C.A.in1) (r₀:=r6) (st0:=st5.add (.list [])) (nS:=st5.new) (nl:=i) (as:=ts.map rj) (bs:=ts.map cU) (J0:=r5.J) H.hh (Nat.ne_of_gt hil) aX ((List.getElem?_append_left hil).trans e2) (by rw[ai];exact ag hlen (by decide)) (by rw[ai,ai]) (l6.G _ _ gM) (l6.G _ _ gT) eS (aV l6.pre (bF ht)) (λ{st'} r7 {j a b u Q7} l7 ha hb d k7=>?_) (λ{st'} r8 est l8 ej8=>?_) (ts.map rj).length 0 r6 (by rw[List.take_zero,ep]) (Nat.zero_add _) .rf rfl
 ·rw[aO] at ha hb
  cases et:ts[j]? with
  |none=>rw[et] at ha;cases ha
  |some p=>
  rw[et] at ha hb
  cases ha;cases hb
  have hq7:r7.s.heap.get? q=some (methodObj (.ref 146) (.ref 192)):=r7.gGet ((l5M.trans (l6.w.trans l7)).G _ _ gq)
  refine wpAny_call (method_call hq7 ?_)
  have H7:CxB D {C with A:=C.A.in1.in1.in1}:={kin:=H.kin,top:=H.top,hh:=H.hh,sm:=H.sm,nb:=H.nb,dep:=H.dep,un:=by have:=H.un2;show C.A.units+_+_+_+_+_<_;omega}
  exact(hcs p st' (λv st2=>v=cU p/\st2=st') ⟨rfl,rfl⟩).2 H7 (r7.setA _) (.cons (.val _) (.cons d .nil)) .nil λr9 av v l9 h9 d9=>by
   obtain⟨rfl,rfl⟩:=h9
   exact k7 r9.unA v ⟨l9.pre,l9.sub,l9.jn⟩ d9
 ·subst est
  refine⟨rfl,?_⟩
  exact k r8 _ _ ⟨(l05.w.trans (l5M.trans (l6.w.trans l8))).pre,(l05.w.trans (l5M.trans (l6.w.trans l8))).sub,ej8.trans l05.jn⟩ (by rw[ep];exact h) (.ref _ _ (aV l8.pre eS))⟩
end
section
variable {A:Around} {E:Value->Shared->Prop} {s:Shared}
theorem rK {it:Addr} {x left step:Int} {Q:Value->Shared->Prop} (hit:IsRangeIter s.heap it x left step) (hl:0<left)
  (hQ:∀h',IsRangeIter h' it (x+step) (left-1) step->Heap.SameBut it s.heap h'->Q (.int x s.toks) {s with heap:=h',toks:=s.toks+1}):wpAny MM A (Builtin.SmallTypes.nextOf (.ref it)) Q E s:=by
 have hT:s.TypeIs (.ref it) "range_iterator":=⟨_,hit,rfl⟩
 unfold Builtin.SmallTypes.nextOf
 refine ae (wpAny_callSpecial?_slot (name:=Str.ofString "__next__") hT F.slot_range_iterator_next
  (call_meets F.slot_range_iterator_next hT F.entry_range_iterator_next (F.args_range_iterator_next_1 _) (AutoRange.range_iterator___next___range_iterator_1 it x left step (by omega)) ⟨hit,?_⟩))
 exact ah (hQ _ (Heap.get?_update_self _ (Heap.get?_update_self _ hit rfl) rfl) ((bl ..).trans (bl ..)))
theorem mw {it:Addr} {x left step:Int} {Q:Value->Shared->Prop} (hh:A.handled=none) (hit:IsRangeIter s.heap it x left step) (hl:left<=0)
  (hE:∀h' e,Heap.ExtBut it s.heap h'->(∃o,h'.get? e=some o/\o.cls=.type "StopIteration")->E (.ref e) {s with heap:=h'}):wpAny MM A (Builtin.SmallTypes.nextOf (.ref it)) Q E s:=by
 have hT:s.TypeIs (.ref it) "range_iterator":=⟨_,hit,rfl⟩
 unfold Builtin.SmallTypes.nextOf
 refine ae (wpAny_callSpecial?_slot (name:=Str.ofString "__next__") hT F.slot_range_iterator_next (wpAny_call_entry F.slot_range_iterator_next hT F.entry_range_iterator_next ?_ (F.args_range_iterator_next_1 _)))
 show wpAny _ _ (field (.ref it) 0>>=_) _ _ s
 refine ae (wpAny_field hit rfl (x:=rawInt x) rfl ?_)
 show wpAny _ _ (field (.ref it) 1>>=_) _ _ s
 refine ae (wpAny_field hit rfl (x:=rawInt left) rfl ?_)
 show wpAny _ _ (field (.ref it) 2>>=_) _ _ s
 refine ae (wpAny_field hit rfl (x:=rawInt step) rfl ?_)
 show wpAny _ _ (if left<=0 then _ else _) _ _ s
 rw[if_pos hl]
 refine ae (wpAny_rule ?_)
 refine ae ?_
 exact lG (A:=A.in1) hh λe h' hk ho=>hE h' e (λb o _ e=>hk b o e) ho
theorem ue {it l:Addr} {i n:Nat} {xs:Array Value} {x:Value} {Q:Value->Shared->Prop} (hh:A.handled=none) (hi:s.heap.get? it=some (bz l i)) (hl:s.heap.get? l=some (listOf xs n)) (hx:xs[i]? =some x)
  (h1:∀h',h'.get? it=some (bz l (i+1))->Heap.SameBut it s.heap h'->Q x {s with heap:=h'}):wpAny MM A (Builtin.SmallTypes.nextOf (.ref it)) Q E s:=
 uZ hh hi hl (λy hy h' a b=>by rw[hx] at hy;cases hy;exact h1 h' a b) λhy=>by rw[hx] at hy;cases hy
noncomputable abbrev ee (TI TO:Addr) (f:Value):Obj:={cls:=.type "zip",dict:=none,data:=.fields #[f,.bool false,.bool false,.ref TI,.ref TO],slots:=#[]}
noncomputable abbrev bW (a b:Value):Obj:={cls:=.type "tuple",data:=.seq #[a,b]}
noncomputable abbrev eW (x left:Int):Obj:={cls:=.type "range_iterator",dict:=none,data:=.fields #[rawInt x,rawInt left,rawInt (-1)],slots:=#[]}
structure H4 (z TI TO i it l:Addr):Prop where
 a:TI≠z/\TO≠z/\i≠z/\it≠z/\l≠z
 b:TI≠TO/\i≠TO/\it≠TO/\l≠TO
 c:TI≠i/\it≠i/\l≠i
 d:TI≠it/\l≠it
theorem Ac (hh:A.handled=none) {z TI TO i it l:Addr} {x left:Int} {p n:Nat} {xs:Array Value} {y a b:Value} {Q:Value->Shared->Prop} (D:H4 z TI TO i it l) (hz:s.heap.get? z=some (ee TI TO .none)) (hTI:s.heap.get? TI=some (bW (.ref i) (.ref it))) (hTO:s.heap.get? TO=some (bW a b))
  (h1:s.heap.get? i=some (eW x left)) (hl:0<left) (h2:s.heap.get? it=some (bz l p)) (h3:s.heap.get? l=some (listOf xs n)) (hy:xs[p]? =some y)
  (hQ:∀h' (T:Addr),h'.get? z=some (ee TI TO (rawInt T))->h'.get? TO=some (bW (.int x s.toks) y)->h'.get? i=some (eW (x+-1) (left-1))->h'.get? it=some (bz l (p+1))->h'.get? T=some (bW (.int x s.toks) y)->s.heap.objs.size<=T->
   (∀c o,c≠z->c≠TO->c≠i->c≠it->s.heap.get? c=some o->h'.get? c=some o)->Q (.ref T) {s with heap:=h',toks:=s.toks+1}):
  wpAny MM A (Builtin.«zip.__next__» ⟨[.ref z],[]⟩) (λfin s'=>∃v,fin=.done (.ret v)/\Q v s') E s:=by
 obtain⟨⟨a1,a2,a3,a4,a5⟩,⟨b1,b2,b3,b4⟩,⟨c1,c2,c3⟩,d1,d2⟩:=D
 obtain⟨hp,gs,dr,tk,os⟩:=s
 dsimp only at*
 show wpAny _ _ (field (.ref z) 2>>=_) _ _ _
 refine ae (wpAny_field hz rfl (x:=.bool false) rfl ?_)
 show wpAny _ _ (field (.ref z) 3>>=_) _ _ _
 refine ae (wpAny_field hz rfl (x:=.ref TI) rfl ?_)
 refine ae (wpAny_seqItems hTI rfl ?_)
 show wpAny _ _ (Builtin.SmallTypes.ownedTupleIsFree (.ref z)>>=_) _ _ _
 refine ae ?_
 unfold Builtin.SmallTypes.ownedTupleIsFree
 refine ae (wpAny_field hz rfl (x:=.none) rfl (ah ?_))
 simp only[if_true]
 refine ae (wpAny_rule ?_)
 refine ae (wpAny_field hz rfl (x:=.ref TO) rfl ?_)
 refine ae (wpAny_setField_rec hz (by simp) λg1 z1 s1=>?_)
 refine ae ?_
 simp only[List.zipIdx_cons,List.zipIdx_nil,List.forIn_cons,List.forIn_nil]
 refine ae (ae (wpAny_onRaise ?_))
 show wpAny _ _ (Builtin.SmallTypes.nextOf (.ref i)>>=_) _ _ _
 refine ae (rK ((s1.2 i a3).trans h1) hl λg2 i2 s2=>ah ?_)
 have t2:g2.get? TO=some (bW a b):=(s2.2 TO b2.symm).trans ((s1.2 TO a2).trans hTO)
 refine ae (wpAny_seqItems t2 rfl ?_)
 refine ae (wpAny_updateSeq_pair t2 λg3 t3 s3=>?_)
 refine ae (wpAny_letGo (ah ?_))
 refine ae (ae (wpAny_onRaise ?_))
 show wpAny _ _ (Builtin.SmallTypes.nextOf (.ref it)>>=_) _ _ _
 have l3:g3.get? l=some (listOf xs n):=(s3.2 l b4).trans ((s2.2 l c3).trans ((s1.2 l a5).trans h3))
 refine ae (ue hh ((s3.2 it b3).trans ((s2.2 it c2).trans ((s1.2 it a4).trans h2))) l3 hy λg4 i4 s4=>ah ?_)
 have t4:g4.get? TO=some (bW (.int x tk) b):=(s4.2 TO b3.symm).trans t3
 refine ae (wpAny_seqItems t4 rfl ?_)
 refine ae (wpAny_updateSeq_pair t4 λg5 t5 s5=>?_)
 replace t5:g5.get? TO=some (bW (.int x tk) y):=t5
 refine ae (wpAny_letGo (ah (ah ?_)))
 refine ae (wpAny_seqItems t5 rfl ?_)
 refine ae (wpAny_newTuple ?_)
 have z5:g5.get? z=some (ee TI TO .ellipsis):=(s5.2 z a2.symm).trans ((s4.2 z a4.symm).trans ((s3.2 z a2.symm).trans ((s2.2 z a3.symm).trans z1)))
 have hk:∀c o,c≠z->c≠TO->c≠i->c≠it->hp.get? c=some o->g5.get? c=some o:=λc o e1 e2 e3 e4 e=>(s5.2 c e2).trans ((s4.2 c e4).trans ((s3.2 c e2).trans ((s2.2 c e3).trans ((s1.2 c e1).trans e))))
 have i5:g5.get? i=some (eW (x+-1) (left-1)):=(s5.2 i b2).trans ((s4.2 i c2.symm).trans ((s3.2 i b2).trans i2))
 have j5:g5.get? it=some (bz l (p+1)):=(s5.2 it b3).trans i4
 have hsz:g5.objs.size=hp.objs.size:=by rw[s5.1,s4.1,s3.1,s2.1,s1.1]
 show wpAny _ _ (Builtin.SmallTypes.ownedTupleHandOut (.ref z) (.ref g5.objs.size)>>=_) _ _ _
 refine ae ?_
 unfold Builtin.SmallTypes.ownedTupleHandOut
 refine ae (wpAny_setField_rec (aD _ z5) (by simp) λg7 z7 s7=>?_)
 refine wpAny_setField_rec z7 (by simp) λg8 z8 s8=>?_
 have up:∀c o,c≠z->g5.get? c=some o->g8.get? c=some o:=λc o c1 e=>(s8.2 c c1).trans ((s7.2 c c1).trans (aD _ e))
 refine ah ⟨_,rfl,?_⟩
 refine hQ g8 g5.objs.size z8 (up _ _ a2 t5) (up _ _ a3 i5) (up _ _ a4 j5) ?_ (Nat.le_of_eq hsz.symm) λc o e1 e2 e3 e4 e=>up c o e1 (hk c o e1 e2 e3 e4 e)
 have hne:g5.objs.size≠z:=Nat.ne_of_gt (ba z5)
 exact(s8.2 _ hne).trans ((s7.2 _ hne).trans (a8 _ rfl))
theorem DK {z TI TO i it:Addr} {x left:Int} {Q:PySem.Fin->Shared->Prop} (hh:A.handled=none) (n1:i≠z) (hz:s.heap.get? z=some (ee TI TO .none)) (hTI:s.heap.get? TI=some (bW (.ref i) (.ref it)))
  (h1:s.heap.get? i=some (eW x left)) (hl:left<=0)
  (hE:∀h' e,(∀c o,c≠z->c≠i->s.heap.get? c=some o->h'.get? c=some o)->(∃o,h'.get? e=some o/\o.cls=.type "StopIteration")->E (.ref e) {s with heap:=h'}):
  wpAny MM A (Builtin.«zip.__next__» ⟨[.ref z],[]⟩) Q E s:=by
 show wpAny _ _ (field (.ref z) 2>>=_) _ _ _
 refine ae (wpAny_field hz rfl (x:=.bool false) rfl ?_)
 show wpAny _ _ (field (.ref z) 3>>=_) _ _ _
 refine ae (wpAny_field hz rfl (x:=.ref TI) rfl ?_)
 refine ae (wpAny_seqItems hTI rfl ?_)
 show wpAny _ _ (Builtin.SmallTypes.ownedTupleIsFree (.ref z)>>=_) _ _ _
 refine ae ?_
 unfold Builtin.SmallTypes.ownedTupleIsFree
 refine ae (wpAny_field hz rfl (x:=.none) rfl (ah ?_))
 simp only[if_true]
 refine ae (wpAny_rule ?_)
 refine ae (wpAny_field hz rfl (x:=.ref TO) rfl ?_)
 refine ae (wpAny_setField_rec hz (by simp) λg1 z1 s1=>?_)
 refine ae ?_
 simp only[List.zipIdx_cons,List.zipIdx_nil,List.forIn_cons,List.forIn_nil]
 refine ae (ae (wpAny_onRaise ?_))
 show wpAny _ _ (Builtin.SmallTypes.nextOf (.ref i)>>=_) _ _ _
 refine ae (mw hh ((s1.2 i n1).trans h1) hl λg2 e s2 he=>?_)
 obtain⟨oe,ho,hc⟩:=he
 have z2:=s2 _ _ n1.symm z1
 have hez:e≠z:=λq=>by subst q;rw[z2] at ho;cases ho;simp at hc
 exact wpAny_setField_rec z2 (by simp) λg3 _ s3=>hE g3 e (λc o e1 e2 q=>(s3.2 c e1).trans (s2 c o e2 ((s1.2 c e1).trans q))) ⟨oe,(s3.2 e hez).trans ho,hc⟩
theorem Au (hh:A.handled=none) {z TI TO i it l:Addr} {x left:Int} {p n:Nat} {xs:Array Value} {y a b:Value} {Q:Value->Shared->Prop} {R:Option Value->Shared->Prop} {te:List Expr} {k0:Nat} {tp:Pos} (D:H4 z TI TO i it l) (hz:s.heap.get? z=some (ee TI TO .none)) (hTI:s.heap.get? TI=some (bW (.ref i) (.ref it))) (hTO:s.heap.get? TO=some (bW a b))
  (h1:s.heap.get? i=some (eW x left)) (hl:0<left) (h2:s.heap.get? it=some (bz l p)) (h3:s.heap.get? l=some (listOf xs n)) (hy:xs[p]? =some y)
  (hQ:∀h' (T:Addr),h'.get? z=some (ee TI TO .none)->h'.get? TO=some (bW (.int x s.toks) y)->h'.get? i=some (eW (x+-1) (left-1))->h'.get? it=some (bz l (p+1))->h'.get? T=some (bW (.int x s.toks) y)->s.heap.objs.size<=T->
   (∀c o,c≠z->c≠TO->c≠i->c≠it->s.heap.get? c=some o->h'.get? c=some o)->Q (.ref T) {s with heap:=h',toks:=s.toks+1})
  (hR:∀v s₁,wpAny MM A (letOwnedTupleGo (.Tuple te k0 tp) (.ref z) v) (λ_ s₂=>Q v s₂) b9 s₁->R (some v) s₁):wpAny MM A (pyNext (.ref z)) R E s:=by
 have hT:s.TypeIs (.ref z) "zip":=⟨_,hz,rfl⟩
 have hzl:=ba hz
 unfold pyNext
 refine ae (wpAny_attempt (wpAny_callSpecial?_slot (name:=Str.ofString "__next__") hT F.slot_zip_next (wpAny_call_entry F.slot_zip_next hT F.entry_zip_next
  (Ac (A:=A.in1) hh D hz hTI hTO h1 hl h2 h3 hy λh' T b1 b2 b3 b4 b5 b6 hk=>ah (hR _ _ (wpAny_letOwnedTupleGo_zip b1 λh2 z2 s2=>?_))) (F.args_zip_next_1 _))))
 obtain⟨⟨a1,a2,a3,a4,a5⟩,_⟩:=D
 exact hQ h2 T z2 ((s2.2 _ a2).trans b2) ((s2.2 _ a3).trans b3) ((s2.2 _ a4).trans b4) ((s2.2 _ (Nat.ne_of_gt (aP hzl b6))).trans b5) b6 λc o e1 e2 e3 e4 e=>(s2.2 c e1).trans (hk c o e1 e2 e3 e4 e)
theorem rH {z TI TO i it:Addr} {x left:Int} {Q:Option Value->Shared->Prop} (hh:A.handled=none) (n1:i≠z) (hz:s.heap.get? z=some (ee TI TO .none)) (hTI:s.heap.get? TI=some (bW (.ref i) (.ref it)))
  (h1:s.heap.get? i=some (eW x left)) (hl:left<=0) (hQ:∀h',(∀c o,c≠z->c≠i->s.heap.get? c=some o->h'.get? c=some o)->Q none {s with heap:=h'}):wpAny MM A (pyNext (.ref z)) Q E s:=by
 have hT:s.TypeIs (.ref z) "zip":=⟨_,hz,rfl⟩
 unfold pyNext
 refine ae (wpAny_attempt (wpAny_callSpecial?_slot (name:=Str.ofString "__next__") hT F.slot_zip_next (wpAny_call_entry F.slot_zip_next hT F.entry_zip_next
  (DK (A:=A.in1) hh n1 hz hTI h1 hl λh' e hk he=>?_) (F.args_zip_next_1 _))))
 obtain⟨o,ho,hc⟩:=he
 exact ae (wpAny_isInstance (T:="StopIteration") (b:=true) ⟨o,ho,hc⟩ isSubtype_stop (ah (hQ _ hk)))
noncomputable abbrev Ib (h:Heap) (a n:Int):Heap:=h.push (eW a n)
noncomputable abbrev Ia (h:Heap) (a n:Int) (it:Addr):Heap:=(Ib h a n).push (bW (.ref h.objs.size) (.ref it))
noncomputable abbrev Ii (h:Heap) (a n:Int) (it:Addr):Heap:=(Ia h a n it).push (bW .none .none)
noncomputable abbrev Ky (h:Heap) (a n:Int) (it:Addr):Heap:=(Ii h a n it).push (ee (Ib h a n).objs.size (Ia h a n it).objs.size .none)
theorem yF (r it l:Addr) (a b:Int) (t u v:Tok) (p:Nat) (hs:Builtin.Range.small a b (-1)=true):
  Meets (Builtin.«zip.__new__» ⟨[.type "zip",.ref r,.ref it],[]⟩) (λ_ R s=>IsRange s.heap r a b (-1) t u v/\s.heap.get? it=some (bz l p)/\
   R (.ok (.ret (.ref (Ii s.heap a (Builtin.Range.rangeSize a b (-1)) it).objs.size))) {s with heap:=Ky s.heap a (Builtin.Range.rangeSize a b (-1)) it}):=
 .of_wp λprog w A R s h=>by
  obtain⟨hp,g,d,tk,os⟩:=s;obtain⟨hr,hit,h⟩:=h
  have hsub:=sub_zip
  have hI:Heap.IsListIter (Shared.heap ⟨hp.push (eW a (Builtin.Range.rangeSize a b (-1))),g,d,tk,os⟩) it l p:=⟨_,aD _ hit,rfl,rfl⟩
  have hr':IsRange (Shared.heap ⟨hp,g,d,tk,os⟩) r a b (-1) t u v:=hr
  wp_walk using wpAny_pyIter_range hr' hs,wpAny_pyIter_listiter hI
  exact⟨_,rfl,h⟩
theorem AJ {r it l:Addr} {a b:Int} {t u v:Tok} {p:Nat} {Q:Value->Shared->Prop} (hr:IsRange s.heap r a b (-1) t u v) (hs:Builtin.Range.small a b (-1)=true) (hit:s.heap.get? it=some (bz l p))
  (h:∀h',h'.get? s.heap.objs.size=some (eW a (Builtin.Range.rangeSize a b (-1)))->h'.get? (s.heap.objs.size+1)=some (bW (.ref s.heap.objs.size) (.ref it))->h'.get? (s.heap.objs.size+2)=some (bW .none .none)->h'.get? (s.heap.objs.size+3)=some (ee (s.heap.objs.size+1) (s.heap.objs.size+2) .none)->
   (∀c o,s.heap.get? c=some o->h'.get? c=some o)->h'.objs.size=s.heap.objs.size+4->Q (.ref (s.heap.objs.size+3)) {s with heap:=h'}):
  wpAny MM A (call (.type "zip") [.ref r,.ref it] []) Q E s:=by
 refine callType_new F.called_zip (by decide) (F.typeCall_zip_2 _ _) (F.newCall_zip_2 _ _) (λobj=>F.args_object_init_3 obj _ _) F.entry_zip_new (yF r it l a b t u v p hs) ⟨hr,hit,?_⟩
 have z1:(Ib s.heap a (Builtin.Range.rangeSize a b (-1))).objs.size=s.heap.objs.size+1:=Heap.size_push ..
 have z2:(Ia s.heap a (Builtin.Range.rangeSize a b (-1)) it).objs.size=s.heap.objs.size+2:=by rw[Heap.size_push,z1]
 have z3:(Ii s.heap a (Builtin.Range.rangeSize a b (-1)) it).objs.size=s.heap.objs.size+3:=by rw[Heap.size_push,z2]
 have g4:(Ky s.heap a (Builtin.Range.rangeSize a b (-1)) it).get? (s.heap.objs.size+3)=some (ee (s.heap.objs.size+1) (s.heap.objs.size+2) .none):=by
  rw[<-z1,<-z2,<-z3];exact a8 _ rfl
 show _/\_
 rw[z3]
 refine⟨⟨_,g4,rfl⟩,h _ ?_ ?_ ?_ g4 (λc o x=>aD _ (aD _ (aD _ (aD _ x)))) (by rw[Heap.size_push,z3])⟩
 ·exact aD _ (aD _ (aD _ (a8 _ rfl)))
 ·rw[<-z1];exact aD _ (aD _ (a8 _ rfl))
 ·rw[<-z2];exact aD _ (a8 _ rfl)
end
noncomputable def vj (k l:Nat) (vs:List AV):Nat->List AV->List IS
 |_,[]=>[]
 |i,v::r=>⟨λst=>st.at k=some (.liter l i)/\st.at l=some (.list vs)/\vs[i]? =some v,λst=>st.put k (.liter l (i+1)),.tup (.type "tuple") [.int (0-(i:Int)),v]⟩::vj k l vs (i+1) r
theorem EJ {k l:Nat} {vs r:List AV}:∀{i j:Nat} {q:IS},(vj k l vs i r)[j]? =some q->q=⟨λst=>st.at k=some (.liter l (i+j))/\st.at l=some (.list vs)/\vs[i+j]? =some (r.getD j .none),λst=>st.put k (.liter l (i+j+1)),.tup (.type "tuple") [.int (0-((i+j:Nat):Int)),r.getD j .none]⟩/\j<r.length:=by
 induction r with
 |nil=>exactλh=>nomatch h
 |cons v r ih=>
  intro i j q h
  cases j with
  |zero=>cases h;exact⟨rfl,Nat.zero_lt_succ _⟩
  |succ j=>
   have z:=ih (i:=i+1) (j:=j) h
   rw[Nat.succ_add_eq_add_succ] at z
   exact⟨z.1,Nat.succ_lt_succ z.2⟩
theorem El {k l:Nat} {vs r:List AV}:∀{i:Nat},(vj k l vs i r).length=r.length:=by
 induction r with
 |nil=>exact rfl
 |cons _ r ih=>exact congrArg (·+1) ih
noncomputable def zS (z it:Addr) (n:Nat) (i:Nat) (js:JS):Prop:=∃(TI TO ir:Addr) (a b:Value),js=[(z,ee TI TO .none),(TI,bW (.ref ir) (.ref it)),(TO,bW a b),(ir,eW (0-(i:Int)) ((n:Int)-i))]
section
variable {C:Cx} {st:St} {J:JS}
theorem RS.jOff (r:RS C st) {p:Addr×Obj} (h:p∈r.J) {a:Addr} (ha:a∈r.ρ):a≠p.1:=λe=>(cK r.nd).2.2 _ (bA h) (by rw[<-e,bh];exact aC _ ha)
theorem um {a b c d:Addr} (h:[a,b,c,d].Nodup):(a≠b/\a≠c/\a≠d)/\(b≠c/\b≠d)/\c≠d:=by
 simp only[List.nodup_cons,aL,List.not_mem_nil,or_false,not_or,List.nodup_nil,and_true,not_false_eq_true] at h
 exact h
theorem vd.zip (hh:C.A.handled=none) {r₀:RS C st} {z it:Addr} {k l:Nat} {vs rs:List AV} (ek:r₀.ρ[k]? =some it) (hkl:k≠l) (hp:cz vs=true) {te:List Expr} {k0:Nat} {tp:Pos}:vd C r₀ z (.Tuple te k0 tp) (zS z it rs.length) (vj k l vs 0 rs) λ_=>True where
 item:=λ{C' st1} r {J i js q Q R₀} hA hB L ej hc hS hq kk kR=>by
  obtain⟨TI,TO,ir,a,b,rfl⟩:=hS
  obtain⟨hqe,hir⟩:=EJ hq
  rw[Nat.zero_add] at hqe
  subst hqe
  obtain⟨c1,c2,c3⟩:=hc
  have ek':=aV L.pre ek
  refine r.iterE hkl c1 c2 ek' λal xs nn ht hl dx el=>(dx.get c3).elim λy hy=>?_
  have jm:∀p∈[(z,ee TI TO .none),(TI,bW (.ref ir) (.ref it)),(TO,bW a b),(ir,eW (0-(i:Int)) ((rs.length:Int)-i))],p∈r.J:=λp hp=>ej▸aC _ hp
  have m1:=jm _ (.head _)
  have m2:=jm _ (.tail _ (.head _))
  have m3:=jm _ (.tail _ (.tail _ (.head _)))
  have m4:=jm _ (.tail _ (.tail _ (.tail _ (.head _))))
  have mk:=a0 ek'
  have ml:=a0 el
  have jd:=RS.jnd (r:=r)
  rw[ej,bh] at jd
  obtain⟨⟨q1,q2,q3⟩,⟨q4,q5⟩,q6⟩:=um (a7.mp jd).1
  have hne:al≠it:=λe=>hkl ((List.getElem?_inj (az.mp ek').1 (a7.mp (by have:=r.nd;rwa [bh] at this)).1).mp (by rw[ek',el,e]))
  have Z:H4 z TI TO ir it al:=⟨⟨Ne.symm q1,Ne.symm q2,Ne.symm q3,r.jOff m1 mk,r.jOff m1 ml⟩,⟨q4,Ne.symm q6,r.jOff m3 mk,r.jOff m3 ml⟩,⟨q5,r.jOff m4 mk,r.jOff m4 ml⟩,Ne.symm (r.jOff m2 mk),hne⟩
  have ho2:=r.get ht
  refine Au (hA▸hh) Z (RS.jGet m1) (RS.jGet m2) (RS.jGet m3) (RS.jGet m4) (by omega) ho2 hl (tL hy.1) (λh' T b1 b2 b3 b4 b5 b6 hk=>?_) kR
  have sb:Heap.SameBut it r.s.heap (r.s.heap.update it λ_=>bz al (i+1)):=bl ..
  have hu:(r.s.heap.update it λ_=>bz al (i+1)).get? it=some (bz al (i+1)):=Heap.get?_update_self _ ho2 rfl
  let r1:=r.upd (v:=.liter l (i+1)) ht (r.sameFr (r.tAt ht) sb) (r.setNews ht sb hu) ⟨al,rfl,el⟩ r.s.toks (ak _)
  have ej1:bg r1.J=[z,TI,TO,ir]++bg J:=by show bg r.J=_;rw[ej,bh];rfl
  have inJ:∀c∈[z,TI,TO,ir],c∈bg r1.J:=λc hc=>by rw[ej1];exact aC _ hc
  have nj:∀p∈J,∀c∈[z,TI,TO,ir],p.1≠c:=λp hp c hc e=>(a7.mp jd).2.2 c hc _ (bA hp) e.symm
  let r2:=RS.reJ (r:=r1) (js:=[(z,ee TI TO .none),(TI,bW (.ref ir) (.ref it)),(TO,bW (.int (0-(i:Int)) r.s.toks) y),(ir,eW (0-(i:Int)+-1) ((rs.length:Int)-i-1))]++J) (W:=[z,TO,ir]) (λb hb=>inJ b (by
    rcases aL.mp hb with rfl|hb
    ·exact .head _
    ·rcases aL.mp hb with rfl|hb
     ·exact .tail _ (.tail _ (.head _))
     ·rw[aN.mp hb];exact .tail _ (.tail _ (.tail _ (.head _))))) (h':=h') (λb o hb e=>by
    by_cases hb2:b=it
    ·subst hb2
     cases hu.symm.trans e
     exact b4
    ·exact hk b o (λe=>hb (e▸.head _)) (λe=>hb (e▸.tail _ (.head _))) (λe=>hb (e▸.tail _ (.tail _ (.head _)))) hb2 ((sb.2 b hb2).symm.trans e)) (λp hp=>by
    rcases bo.mp hp with hp|hp
    ·rcases aL.mp hp with rfl|hp
     ·exact⟨b1,inJ _ (.head _)⟩
     ·rcases aL.mp hp with rfl|hp
      ·exact⟨hk _ _ (Ne.symm q1) q4 q5 (Ne.symm (r.jOff m2 mk)) (RS.jGet m2),inJ _ (.tail _ (.head _))⟩
      ·rcases aL.mp hp with rfl|hp
       ·exact⟨b2,inJ _ (.tail _ (.tail _ (.head _)))⟩
       ·rw[aN.mp hp];exact⟨b3,inJ _ (.tail _ (.tail _ (.tail _ (.head _))))⟩
    ·exact⟨hk _ _ (nj p hp _ (.head _)) (nj p hp _ (.tail _ (.tail _ (.head _)))) (nj p hp _ (.tail _ (.tail _ (.tail _ (.head _))))) (λe=>r.jOff (p:=p) (ej▸ar _ hp) mk e.symm) (RS.jGet (r:=r) (ej▸ar _ hp)),by rw[ej1];exact ar _ (bA hp)⟩) (by
    rw[bh];exact jd) (r.s.toks+1) (aK _)
  have lt:∀p∈r2.L,p.1≠T:=λp hp=>by
   have hm:p.1∈bg r.L:=by
    have e1:bg r2.L=bg r.L:=by
     show bg (r.T.set k (it,bz al (i+1))++(r.I++(r.V++([(z,ee TI TO .none),(TI,bW (.ref ir) (.ref it)),(TO,bW (.int (0-(i:Int)) r.s.toks) y),(ir,eW (0-(i:Int)+-1) ((rs.length:Int)-i-1))]++J))))=bg (r.T++(r.I++(r.V++r.J)))
     rw[ej,bh,bh,bh,bh,gB ht,bh (T:=r.T),bh (T:=r.I),bh (T:=r.V),bh (X:=J)];rfl
    rw[<-e1];exact bA hp
   obtain⟨q,hq,e⟩:=aG.mp hm
   have e:q.1=p.1:=e
   exact e▸aW (aP (r.lt hq) b6)
  let r3:=r2.immN (a:=T) (o:=bW (.int (0-(i:Int)) r.s.toks) y) r2.fr (λp hp=>(aL.mp hp).elim (λe=>e▸⟨b5,λ(e:T=C'.env.locals)=>Nat.not_lt.mpr b6 (by rw[e];exact r.fr.ns.lt),by
   cases q:C'.h₀.get? T with
   |none=>rfl
   |some x=>exact absurd (ba (r.fr.keep _ _ q)) (Nat.not_lt.mpr b6)⟩) λhp=>r2.nw p hp) lt (r.s.toks+1) (ak _)
  have e1:0-(i:Int)+-1=0-((i+1:Nat):Int):=by omega
  have e2:(rs.length:Int)-i-1=(rs.length:Int)-((i+1:Nat):Int):=by omega
  have l3:Lw r r3:=⟨by show r.ρ<+:bg (r.T.set k (it,bz al (i+1)));rw[gB ht];exact aw,λ_ h=>.tail _ h⟩
  refine kk r3 (.ref T) [(z,ee TI TO .none),(TI,bW (.ref ir) (.ref it)),(TO,bW (.int (0-(i:Int)) r.s.toks) y),(ir,eW (0-(i:Int)+-1) ((rs.length:Int)-i-1))] l3 ?_ ⟨TI,TO,ir,_,_,by rw[e1,e2]⟩ rfl
  exact .tup _ _ T [.int (0-(i:Int)) r.s.toks,y] 0 none (.inr (.head _)) (.cons (.int _ _) (.cons ((hy.2.pure (aF.mp hp _ (a0 c3))).mono l3.G aw) .nil))
 done:=λ{C' st1} r {J js Q} hA hB L ej hc hS kk=>by
  obtain⟨TI,TO,ir,a,b,rfl⟩:=hS
  rw[El] at*
  have jm:∀p∈[(z,ee TI TO .none),(TI,bW (.ref ir) (.ref it)),(TO,bW a b),(ir,eW (0-(rs.length:Int)) ((rs.length:Int)-rs.length))],p∈r.J:=λp hp=>ej▸aC _ hp
  have jd:=RS.jnd (r:=r)
  rw[ej,bh] at jd
  obtain⟨⟨q1,q2,q3⟩,_,_⟩:=um (a7.mp jd).1
  have nj:∀p∈J,∀c∈[z,TI,TO,ir],p.1≠c:=λp hp c hc e=>(a7.mp jd).2.2 c hc _ (bA hp) e.symm
  have inJ:∀c∈[z,TI,TO,ir],c∈bg r.J:=λc hc=>by rw[ej,bh];exact aC _ hc
  refine rH (hA▸hh) (Ne.symm q3) (RS.jGet (jm _ (.head _))) (RS.jGet (jm _ (.tail _ (.head _)))) (RS.jGet (jm _ (.tail _ (.tail _ (.tail _ (.head _)))))) (by omega) λh' hk=>kk (RS.reJ (r:=r) (js:=J) (W:=[z,ir]) (λb hb=>inJ b ((aL.mp hb).elim (λe=>e▸.head _) λhb=>aN.mp hb▸.tail _ (.tail _ (.tail _ (.head _))))) (h':=h') (λb o hb e=>hk b o (λe=>hb (e▸.head _)) (λe=>hb (e▸.tail _ (.head _))) e) (λp hp=>⟨hk _ _ (nj p hp _ (.head _)) (nj p hp _ (.tail _ (.tail _ (.tail _ (.head _))))) (RS.jGet (r:=r) (ej▸ar _ hp)),by rw[ej];exact bA (ar _ hp)⟩) (a7.mp jd).2.1 r.s.toks (ak _)) ⟨aw,λ_ h=>h⟩ rfl
 self:=λs js Q hp hS h=>by
  obtain⟨TI,TO,ir,a,b,rfl⟩:=hS
  exact wpAny_pyIter_zip (hp _ (.head _)) h
theorem RS.addJs (r:RS C st) {h':Heap} (hk:∀b o,r.s.heap.get? b=some o->h'.get? b=some o) (js:JS) (hj:∀p∈js,h'.get? p.1=some p.2/\r.s.heap.objs.size<=p.1) (hn:(bg js).Nodup):∃r':RS C st,r'.s={r.s with heap:=h'}/\Lw r r'/\r'.J=js++r.J:=by
 have pm:(r.T++(r.I++(r.V++(js++r.J)))).Perm (js++r.L):=(List.Perm.append_left _ ((List.Perm.append_left _ (List.perm_append_comm_assoc ..)).trans (List.perm_append_comm_assoc ..))).trans (List.perm_append_comm_assoc ..)
 refine⟨⟨r.m,r.T,r.I,r.V,js++r.J,{r.s with heap:=h'},Fr.keeps r.fr hk,λp hp=>?_,(pm.map _).nodup_iff.mpr ?_,r.va,r.vo,r.bk,r.loc,r.cel,r.hp,r.gb,r.os,r.tk⟩,rfl,⟨aw,λ_ h=>h⟩,rfl⟩
 ·rcases bo.mp (pm.mem_iff.mp hp) with hp|hp
  ·refine⟨(hj p hp).1,λe=>Nat.not_lt.mpr (hj p hp).2 (e▸r.fr.ns.lt),?_⟩
   cases e:C.h₀.get? p.1 with
   |none=>rfl
   |some x=>exact absurd (ba (r.fr.keep _ _ e)) (Nat.not_lt.mpr (hj p hp).2)
  ·exact News.keeps r.nw hk p hp
 ·rw[List.map_append]
  exact a7.mpr ⟨hn,r.nd,λa ha b hb e=>by
   obtain⟨p,hp,rfl⟩:=aG.mp ha
   obtain⟨q,hq,rfl⟩:=aG.mp hb
   exact absurd (r.lt hq) (Nat.not_lt.mpr (e▸(hj p hp).2))⟩
theorem K5 {k l p n:Nat} {u v:Value} {Q:Value->Shared->Prop} (hn:n=2∨n=3) (r:RS C st) (d1:r.D (.rng 0 (-(n:Int)) (-1)) u) (e1:st.at k=some (.liter l p)) (d2:r.D (.ref k) v)
  (kk:∀(z it:Addr) (js:JS) (r':RS C st),r.ρ[k]? =some it->zS z it n 0 js->Lw r r'->r'.J=js++r.J->Q (.ref z) r'.s):WP C (call (.type "zip") [u,v] []) Q r.s:=by
 refine d1.rngE λt1 t2 t3 a g=>r.refE (X:=λv=>WP C (call (.type "zip") [.ref a,v] []) Q r.s) d2 e1 λit o ht od=>od.elim λal z=>?_
 have ho:=r.get ht
 rw[z.1] at ho
 have hz:Builtin.Range.rangeSize 0 (-(n:Int)) (-1)=n:=by rcases hn with rfl|rfl<;>rfl
 refine AJ (r.gGet g) (by rcases hn with rfl|rfl<;>decide) ho λh' g1 g2 g3 g4 hk hsz=>?_
 rw[hz] at g1
 obtain⟨r',es,l',ej⟩:=r.addJs hk [(r.s.heap.objs.size+3,ee (r.s.heap.objs.size+1) (r.s.heap.objs.size+2) .none),(r.s.heap.objs.size+1,bW (.ref r.s.heap.objs.size) (.ref it)),(r.s.heap.objs.size+2,bW .none .none),(r.s.heap.objs.size,eW 0 n)] (λp hp=>by
  rcases aL.mp hp with rfl|hp
  ·exact⟨g4,aQ _ _⟩
  ·rcases aL.mp hp with rfl|hp
   ·exact⟨g2,aQ _ _⟩
   ·rcases aL.mp hp with rfl|hp
    ·exact⟨g3,aQ _ _⟩
    ·rw[aN.mp hp];exact⟨g1,ak _⟩) (by
  show List.Nodup [r.s.heap.objs.size+3,r.s.heap.objs.size+1,r.s.heap.objs.size+2,r.s.heap.objs.size]
  simp)
 rw[<-es]
 exact kk _ it _ r' (bF ht) ⟨_,_,_,_,_,by rw[show(n:Int)-((0:Nat):Int)=n from Int.sub_zero _];rfl⟩ l' ej
end
section
variable {D:Nat} {st:St} {x x':Sx} {ts args elt:PE} {tk0:Nat} {tp gp cp p:Pos} {gz:Nat} {sc:Scope} {P:PV}
theorem F8 (ok:iR x x' sc (.tup ts tk0 tp) (.call (.glb gz gp) args .nil cp) none elt=true) (hg:(x.gls[gz]?).map (·.2)=some (.type "zip"))
  (h:(wW D x args).es st λas st1=>∃(k l n:Nat) (vs:List AV),as=[.rng 0 (-(n:Int)) (-1),.ref k]/\(n=2∨n=3)/\k≠l/\st1.at k=some (.liter l 0)/\cz vs=true/\n<=vs.length/\s9 D x' (.tup ts tk0 tp) none elt st1 P (vj k l vs 0 (vs.take n)) λ_=>True):
  kY D x (dR x x' (.tup ts tk0 tp) (.call (.glb gz gp) args .nil cp) none elt sc p) sc ((PE.call (.glb gz gp) args .nil cp).toM x) st P:=λ{C Q use pos} H r k=>by
 have okc:(!((PE.glb gz gp).kd==2)&&(PE.glb gz gp).ok x&&args.ok x&&PE.nil.ok x)=true:=(wU ok).it
 have oka:=aA (aE okc)
 have za:=snd H args oka
 have zn:=snd H .nil rfl
 refine ze H ok r (λQ' hq=>?_) k
 show wpAny _ _ (do callWith cp (<-eval (.Name (bu (x.gls.map (·.1)) gz) gp) C.env) [] (backTo cp (starEach (args.toMs x) C.env)) (backToKw cp (keywordEach (PE.nil.toMk x) C.env))) _ _ _
 refine ae (qN H r hg λr1 l1=>?_)
 have s3:=λ(h:_)=>fJ (C:=C) (pos:=cp) (f:=.type "zip") (first:=[]) (r:=r1) (Q:=λv s1=>WP C (pyIter v) Q' s1) za.l zn.l h
 refine s3 (za.es r1 h λ{st2} r2 as us l2 h2 d2=>?_)
 refine kws_nil ⟨⟨r2.k0 H.toCxB,trivial⟩,?_⟩
 obtain⟨kk,l,n,vs,rfl,hn,hkl,hat,hpu,hle,hw⟩:=h2
 refine d2.two λu1 u2 e1 e2=>?_
 show WP C (call (.type "zip") [u1,u2] []) _ _
 refine K5 hn r2 e1 hat e2 λz it js r3 ek hS l3 ej=>?_
 obtain⟨TI,TO,ir,a,b,e⟩:=id hS
 have hz:r3.s.heap.get? z=some (ee TI TO .none):=RS.jGet (r:=r3) (p:=(z,_)) (by rw[ej,e];exact .head _)
 refine wpAny_pyIter_zip hz ?_
 have hlen:(vs.take n).length=n:=by rw[List.length_take];exact Nat.min_eq_left hle
 have Z:=vd.zip (C:=C) H.hh (r₀:=r3) (z:=z) (it:=it) (vs:=vs) (rs:=vs.take n) (te:=ts.toMs x') (k0:=tk0) (tp:=tp) (aV l3.pre ek) hkl hpu
 rw[hlen] at Z
 exact hq r3 z _ _ (zS z it n) js ((l1.w.trans l2.w).trans l3) (by rw[ej,l2.jn,l1.jn]) hS Z hw
end
noncomputable def IG (s:Stmt) (b:List Stmt->Stmt):Stmt:=match s with
 | .FunctionDef _ _ l _ _ _ _ _ _ _=>b l
 | .ClassDef _ _ _ l ..=>b l
 | .If _ l o _=>b (l++o)
 | .While _ l _ _=>b l
 | .For _ _ l _ _=>b l
 |s=>s
noncomputable def KC:List Nat->List Stmt->Stmt
 |[],_=>.Pass (Ol 0 0 0)
 |i::p,l=>(match l[i]? with
  |none=>.Pass (Ol 0 0 0)
  |some s=>(match p with
   |[]=>s
   |_::_=>IG s (KC p)))
noncomputable def dc (p:List Nat):Stmt:=KC p PySem.Challenge.pw_ku0041_01.main.body
theorem kO {f:Addr} {ns:List Str} {args:List AV} (hl:args.length=ns.length) (hb:∀us:List Value,us.length=ns.length->bindArgs (fdOf K0 f) ⟨us,[]⟩=pure (ns.zip us)):Binds f ns args [] args:=λs us ku _ h1 h2=>
 (List.map_eq_nil_iff.mp h2)▸⟨us,BindsTo.of_eq (hb us (h1.trans hl)),λ_ _ d _=>d⟩
structure Fn (f:Addr) (x:Sx) (b:PS) (ns:List Str) (jl jc:List (Option Nat)):Prop where
 a:gP K0 f x b=true
 body:(fdOf K0 f).body=.stmts (b.toMs x)
 ok:iX K0 f x ns jl jc=true
 jc:jc.length=x.cls.length
 bind:∀us:List Value,us.length=ns.length->bindArgs (fdOf K0 f) ⟨us,[]⟩=pure (ns.zip us)
section
variable {f:Addr} {x:Sx} {b:PS} {ns:List Str} {jl jc:List (Option Nat)} {D:Nat} {st:St} {args args':List AV} {P:PV}
theorem Fn.call (F:Fn f x b ns jl jc) (hl:args.length=ns.length) (num:x.cls.map (·.2)=List.range' st.hp.length x.cls.length) (h:bB D x b ⟨bP args jl,st.hp++(bP args jc).map AO.cell,st.tk⟩ (cH (dj st P))):bw (D+1) f args [] st P:=
 iD (defAt F.a F.body) F.ok (kO hl F.bind) hl F.jc num h
theorem Fn.own (F:Fn f x b ns jl jc) (ho:md st args args') (hl:args'.length=ns.length) (num:x.cls.map (·.2)=List.range' 0 x.cls.length) (h:bB D x b ⟨bP args' jl,(bP args' jc).map AO.cell,st.tk⟩ (cH (m8 st P))):bw (D+1) f args [] st P:=
 pd (defAt F.a F.body) F.ok ho (kO hl F.bind) hl F.jc num h
end
theorem Fn.call0 {f:Addr} {x:Sx} {b:PS} {ns:List Str} {jl:List (Option Nat)} {D:Nat} {st:St} {args:List AV} {P:PV} (F:Fn f x b ns jl []) (hl:args.length=ns.length) (h:bB D x b ⟨bP args jl,st.hp,st.tk⟩ (cH (dj st P))):bw (D+1) f args [] st P:=by
 have hx:x.cls=[]:=List.length_eq_zero_iff.mp F.jc.symm
 exact F.call hl (by rw[hx];rfl) (by rw[show(bP args ([]:List (Option Nat))).map AO.cell=[] from rfl,List.append_nil];exact h)
theorem Ng {st st':St} {P:PV} {v:AV} (h:P v ⟨st.loc,st'.hp,st'.tk⟩):dj st P v st':=.inl h
theorem Kg {us:List Value} (h:us.length=4):∃a b c d,us=[a,b,c,d]:=by
 obtain⟨a,t,rfl⟩:=List.exists_cons_of_length_eq_add_one h
 obtain⟨b,c,d,rfl⟩:=Bw (Nat.succ.inj h)
 exact⟨a,b,c,d,rfl⟩
theorem BB {b:Bool} (h:(!b)=false):b=true:=by cases b;exact h.symm;rfl
noncomputable def lU:Sx:=⟨["matches","length"],[],[],0⟩
noncomputable def lV:PS:=(.cons (.ite (.loc 1 (Ol 131 7 13)) (.cons (.ret (.bin (.bin (.cst (.float 4611686018427387904) 0 (Ol 132 15 18)) .Mult (.loc 0 (Ol 132 21 28)) (Ol 132 15 28)) .Div (.loc 1 (Ol 132 31 37)) (Ol 132 15 37)) (Ol 132 8 37))
 .nil) .nil (Om 131 4 132 37))
 (.cons (.ret (.cst (.float 4607182418800017408) 0 (Ol 133 11 14)) (Ol 133 4 14))
 .nil))
theorem Du:Fn 202 lU lV ["matches","length"] [some 0,some 1] []:=
 ⟨by kernel_rfl,by kernel_rfl,by kernel_rfl,rfl,λus h=>by obtain⟨a,b,rfl⟩:=tP h;kernel_rfl⟩
noncomputable def dF (a n:Int):UInt64:=if n=0 then 4607182418800017408 else Float64.div (Float64.mul 4611686018427387904 (Float64.ofInt a)) (Float64.ofInt n)
theorem o5 {D:Nat} {st:St} {a n:Int} {P:PV} (ha:small a) (hn:small n) (h0:n≠0) (h:∀u,st.tk<=u->P (.flt (dF a n) (some u)) {st with tk:=u+1}):bw (D+1) 202 [.int a,.int n] [] st P:=by
 exact Du.call0 rfl ⟨λ_=>⟨ha,hn,h0,λu hu=>.inl (by have z:=h u hu;rwa [show dF a n=_ from if_neg h0] at z)⟩,λe=>absurd (aj (BB e)) h0⟩
noncomputable def nr:Sx:=⟨["self","a"],[],[],0⟩
noncomputable def ny:PS:=(.cons (.doc (dc [10,3,0]))
 (.cons (.ite (.cmp (.loc 1 (Ol 268 11 12)) .Is (.att (.loc 0 (Ol 268 16 20)) "a" (Ol 268 16 22)) (Ol 268 11 22)) (.cons (.ret0 (Ol 269 12 18))
 .nil) .nil (Om 268 8 269 18))
 (.cons (.asg (.cons (.att (.loc 0 (Ol 270 8 12)) "a" (Ol 270 8 14)) .nil) (.loc 1 (Ol 270 17 18)) (Ol 270 8 18))
 (.cons (.asg (.cons (.att (.loc 0 (Ol 271 8 12)) "matching_blocks" (Ol 271 8 28)) (.cons (.att (.loc 0 (Ol 271 31 35)) "opcodes" (Ol 271 31 43)) .nil)) (.cst .none 0 (Ol 271 46 50)) (Ol 271 8 50))
 .nil))))
noncomputable def IH:Sx:=⟨["self","la","lb"],[],[("len",.builtin "len"),("_calculate_ratio",.ref 202),("min",.builtin "min")],0⟩
noncomputable def IX:PS:=(.cons (.doc (dc [10,12,0]))
 (.cons (.swp [(1,(Ol 506 8 10)),(2,(Ol 506 12 14))] 0 (Ol 506 8 14) (.cons (.call (.glb 0 (Ol 506 18 21)) (.cons (.att (.loc 0 (Ol 506 22 26)) "a" (Ol 506 22 28)) .nil) .nil (Ol 506 18 29)) (.cons (.call (.glb 0 (Ol 506 31 34)) (.cons (.att (.loc 0 (Ol 506 35 39)) "b" (Ol 506 35 41)) .nil) .nil (Ol 506 31 42)) .nil)) 0 (Ol 506 17 43) (Ol 506 8 43))
 (.cons (.ret (.call (.glb 1 (Ol 507 15 31)) (.cons (.call (.glb 2 (Ol 507 32 35)) (.cons (.loc 1 (Ol 507 36 38)) (.cons (.loc 2 (Ol 507 40 42)) .nil)) .nil (Ol 507 32 43)) (.cons (.bin (.loc 1 (Ol 507 45 47)) .Add (.loc 2 (Ol 507 50 52)) (Ol 507 45 52)) .nil)) .nil (Ol 507 15 53)) (Ol 507 8 53))
 .nil)))
theorem fm:dE 299 "a":=⟨by kernel_rfl,by kernel_rfl,by kernel_rfl,by kernel_rfl,by kernel_rfl,by kernel_rfl⟩
theorem eO:dE 299 "b":=⟨by kernel_rfl,by kernel_rfl,by kernel_rfl,by kernel_rfl,by kernel_rfl,by kernel_rfl⟩
theorem gF:dE 299 "matching_blocks":=⟨by kernel_rfl,by kernel_rfl,by kernel_rfl,by kernel_rfl,by kernel_rfl,by kernel_rfl⟩
theorem uB:dE 299 "opcodes":=⟨by kernel_rfl,by kernel_rfl,by kernel_rfl,by kernel_rfl,by kernel_rfl,by kernel_rfl⟩
theorem IJ:Fn 296 IH IX ["self"] [some 0,none,none] []:=⟨by kernel_rfl,by kernel_rfl,by kernel_rfl,rfl,λus h=>by obtain⟨a,rfl⟩:=pE h;kernel_rfl⟩
theorem Ho:Fn 231 nr ny ["self","a"] [some 0,some 1] []:=⟨by kernel_rfl,by kernel_rfl,by kernel_rfl,rfl,λus h=>by obtain⟨a,b,rfl⟩:=tP h;kernel_rfl⟩
section
variable {D:Nat} {lc:List (Option AV)} {H:List AO} {tk nd ni:Nat} {kvs:List (Str×AV)} {P:PV}
theorem Ko {a b:List Nat} {ka kb:Option Tok} (e1:H[ni]? =some (.inst 299 nd)) (e0:H[nd]? =some (.idict kvs)) (ha:kvs.lookup ("a":Str)=some (AV.str a ka)) (hb:kvs.lookup ("b":Str)=some (AV.str b kb)) (la:a.length<1000) (lb:b.length<1000) (h0:0<a.length+b.length)
  (h:∀u tk',tk<=tk'->P (.flt (dF (if(b.length:Int)<a.length then b.length else a.length) (a.length+b.length)) u) ⟨lc,H,tk'⟩):bw (D+2) 296 [.ref ni] [] ⟨lc,H,tk⟩ P:=by
 refine IJ.call0 rfl ?_
 refine⟨?doc,?_⟩
 case doc=>exact⟨_,_,_,_,rfl⟩
 refine bK fm ha e1 e0 rfl (cW (aH la (by decide)) ?_)
 refine bK eO hb e1 e0 rfl (cW (aH lb (by decide)) ?_)
 refine⟨aa rfl,rfl,?_⟩
 refine Jv (o5 ?_ ?_ ?_ λu hu=>.inl (h _ _ (Nat.le_succ_of_le hu)))
 ·unfold small;split<;>omega
 ·unfold small;omega
 ·omega
noncomputable def iM (kvs:List (Str×AV)) (a:AV):List (Str×AV):=bf (bf (bf kvs "a" a) "matching_blocks" .none) "opcodes" .none
theorem dO {κ:Type} [BEq κ] (k:κ) (v:AV) (l:List (κ×AV)):(bf l k v).length<=l.length+1:=by
 induction l with
 |nil=>exact ak _
 |cons p r ih=>
  unfold bf
  split
  ·exact aK _
  ·exact Nat.succ_le_succ ih
theorem yN (hne:ni≠nd) {a:List Nat} {t:Tok} {v:AV} (e1:H[ni]? =some (.inst 299 nd)) (e0:H[nd]? =some (.idict kvs)) (hl:kvs.length<90) (ha:kvs.lookup ("a":Str)=some v) (h0:t≠0) (hv:v=.none∨∃b u,v=.str b (some u)/\a≠b/\t≠u/\u≠0)
  (h:P .none ⟨lc,H.set nd (.idict (iM kvs (.str a (some t)))),tk⟩):bw (D+1) 231 [.ref ni,.str a (some t)] [] ⟨lc,H,tk⟩ P:=by
 have hH:nd<H.length:=(az.mp e0).1
 have f1:∀x,(H.set nd x)[ni]? =some (.inst 299 nd):=λx=>(List.getElem?_set_ne (Ne.symm hne)).trans e1
 have f0:∀x,(H.set nd x)[nd]? =some x:=λx=>List.getElem?_set_self hH
 have l1:=dO (κ:=Str) "a" (.str a (some t)) kvs
 have l2:=dO (κ:=Str) "matching_blocks" .none (bf kvs "a" (.str a (some t)))
 refine Ho.call0 rfl ⟨⟨_,_,_,_,rfl⟩,?_⟩
 have rest:bB D nr (match ny with| .cons _ (.cons _ r)=>r|_=>.nil) ⟨[some (.ref ni),some (.str a (some t))],H,tk⟩ (cH (dj ⟨lc,H,tk⟩ P)):=by
  refine bR fm (by omega) e1 e0 ?_
  refine bR gF (by omega) (f1 _) (f0 _) ?_
  refine bR uB (by omega) (((congrArg (·[ni]?) (List.set_set ..)).trans (f1 _))) ((congrArg (·[nd]?) (List.set_set ..)).trans (f0 _)) (.inl ?_)
  have eS:((H.set nd (.idict (bf kvs "a" (.str a (some t))))).set nd (.idict (bf (bf kvs "a" (.str a (some t))) "matching_blocks" .none))).set nd (.idict (iM kvs (.str a (some t))))=H.set nd (.idict (iM kvs (.str a (some t)))):=by rw[List.set_set,List.set_set]
  exact Eq.mpr (congrArg (λz=>P .none ⟨lc,z,tk⟩) eS) h
 rcases hv with rfl|⟨b,u,rfl,h1,h2,h3⟩
 ·exact bK fm ha e1 e0 rfl (.inr ⟨rfl,λh=>(nomatch h),λ_=>rest⟩)
 ·exact bK fm ha e1 e0 rfl (zw h0 h3 (.inl ⟨h1,h2,λh=>(nomatch h),λ_=>rest⟩))
end
noncomputable def Hg:Sx:=⟨["_cls","a","b","size"],[],[("tuple",.type "tuple")],0⟩
noncomputable def FR:PS:=(.cons (.doc (dc [8,4,0]))
 (.cons (.ret (.meth (.glb 0 (Ol 95 15 20)) "__new__" (Ol 95 15 28) (.cons (.loc 0 (Ol 95 29 33)) (.cons (.tup (.cons (.loc 1 (Ol 95 36 37)) (.cons (.loc 2 (Ol 95 39 40)) (.cons (.loc 3 (Ol 95 42 46)) .nil))) 0 (Ol 95 35 47)) .nil)) .nil (Ol 95 15 48)) (Ol 95 8 48))
 .nil))
theorem GZ:Fn 139 Hg FR ["_cls","a","b","size"] [some 0,some 1,some 2,some 3] []:=⟨by kernel_rfl,by kernel_rfl,by kernel_rfl,rfl,λus h=>by obtain⟨a,b,c,d,rfl⟩:=Kg h;kernel_rfl⟩
noncomputable abbrev pq (i j k:Int):AV:=.tup (.ref 192) [.int i,.int j,.int k]
theorem Hd {D:Nat} {st:St} {i j k:Int} {P:PV} (h:P (pq i j k) st):bw (D+1) 139 [.val (.ref 192),.int i,.int j,.int k] [] st P:=
 GZ.call0 rfl ⟨⟨_,_,_,_,rfl⟩,Hu ⟨aa rfl,rfl,u6 (aa rfl) (.inl h)⟩⟩
noncomputable def v8 (K:Frag) (a:Addr):Bool:=match K.lookup a with
 |some o=>(match o.data with| .cls _=>true|_=>false)
 |_=>false
theorem vH {K:Frag} {a:Addr} (h:v8 K a=true):∃oc od cd sl,K.lookup a=some ⟨oc,od,.cls cd,sl⟩:=by
 unfold v8 at h
 cases e:K.lookup a with
 |none=>rw[e] at h;exact absurd h au
 |some o=>
  rw[e] at h
  obtain⟨oc,od,dt,sl⟩:=o
  cases dt with
  |cls cd=>exact⟨oc,od,cd,sl,rfl⟩
  |_=>exact absurd h au
structure Bu (K:Frag):Prop where
 keep:keepIn K (.ref 192)=true
 cls:v8 K 192=true
 call:specialIn K (.ref 192) "__call__"=some (some (.builtin "type.__call__"))
 typ:instIn K (.ref 192) (.type "type")=some true
 made:∀S,peek K S (Bind.madeBy (.ref 192))=some none
 mro:∀S,peek K S (mroOf (.ref 192))=some [.ref 192,.type "tuple",.type "object"]
 ty:typeIn K (.ref 192)=some (.type "type")
 reads:readsIn K 192 (.type "type")=true
 new:findCls K (.ref 192) (.type "type") "__new__"=some (.get (.builtin "staticmethod.__get__") (.ref 193) .none (.ref 192))
 sm:(recIn K 193 "staticmethod").map (·.head?)=some (some (.ref 139))
 self:mroIn K 192 (.ref 192)=some true
 top:mroIn K 192 (.type "object")=some true
theorem HN (P:Params):Bu (KM P):=⟨by kernel_rfl,by kernel_rfl,by kernel_rfl,by kernel_rfl,λ_=>by kernel_rfl,λ_=>by kernel_rfl,by kernel_rfl,by kernel_rfl,by kernel_rfl,by kernel_rfl,by kernel_rfl,by kernel_rfl⟩
theorem A3 (a b c d:Value):argsOk "object.__init__" ⟨[a,b,c,d],[]⟩:=by unfold argsOk;kernel_rfl
theorem An {K:Frag} {a:Addr} {T:String} {v:Value} (h:(recIn K a T).map (·.head?)=some (some v)):∃rest,recIn K a T=some (v::rest):=by
 cases q:recIn K a T with
 |none=>rw[q] at h;cases h
 |some l=>
  rw[q] at h
  cases l with
  |nil=>cases h
  |cons u l=>cases h;exact⟨l,rfl⟩
theorem GQ {A:Around} {R:Result->Shared->Prop} {s:Shared} {u1 u2 u3:Value} (X:K0.In s.heap)
  (h:∀(Q:Value->Shared->Prop) (E:Value->Shared->Prop),(∀a o s',K0.In s'.heap->s'.heap.get? a=some o->o.cls=.ref 192->R (.ok (.ret (.ref a))) s'->Q (.ref a) s')->codeAny MM (A.under (.builtin "type.__call__" ⟨[.ref 192,u1,u2,u3],[]⟩)) (.call (.ref 139) ⟨[.ref 192,u1,u2,u3],[]⟩) (λr s'=>match r with| .ok (.ret v)=>Q v s'| .ok _=>False| .error e=>E e s') {s with toks:=s.toks+1}):
  codeAny MM A (.call (.ref 192) ⟨[u1,u2,u3],[]⟩) R s:=by
 have Y:Bu K0:=HN W0.params
 obtain⟨hh,g,d,t,os⟩:=s
 dsimp only at X h
 obtain⟨oc,od,cd,sl,hC⟩:=vH Y.cls
 have hC':=X _ _ hC
 have call:=looks_specialIn (M:=MM) X Y.call
 have hm:=Looks.of_peek (M:=MM) X (Y.mro _)
 have hmade:=Looks.of_peek (M:=MM) X (Y.made _)
 obtain⟨rest,hsm⟩:=An Y.sm
 refine codeAny_of_tree ?_
 show wpAny _ _ (callAny (.ref 192) _) _ _ _
 refine nd_load hC' ?_
 show wpAny _ _ (callAny.viaDunder (.ref 192) _) _ _ _
 unfold callAny.viaDunder
 refine ae (call.here ?_)
 dsimp only
 rw[tc_bind]
 refine ae (ah (ae (ah ?_)))
 refine ah (a:=PySem.Fin.again (.call (.builtin "type.__call__") ⟨[.ref 192,u1,u2,u3],[]⟩)) (And.intro rfl ?_)
 refine codeAny_call_builtin_at (Code.quiet_builtin _ (by decide+kernel)) entry_typeCall (check_slot tc_kind tc_split (looks_instIn X Y.typ) (tc_args _ _ _) ?_)
 unfold Builtin.«type.__call__»
 repeat (first|simp only[List.isEmpty_cons,Bool.false_eq_true,if_false]|with_reducible refine cls_bind X Y.reads Y.new ?_|with_reducible refine wpAny_call ?_|lk)
 refine sm_get (s:=⟨hh,g,d,t+1,os⟩) X hsm ?_
 refine handed_on rfl ?_
 refine ae (aM ?_)
 refine wpAny_call (h _ _ λa o s' X' ho hc fin=>?_)
 obtain⟨hh',g',d',t',os'⟩:=s'
 dsimp only at ho X'
 have L0:Looks MM hh' (typeOf (.ref a)) (.ref 192):=hc▸(Looks.ld (part:=none) ho).andThen .now
 have L1:Looks MM hh' (isInstance (.ref a) (.ref 192)) true:=by unfold isInstance;exact L0.andThen (looks_mroIn X' Y.self)
 have L2:Looks MM hh' (isInstance (.ref a) (.type "object")) true:=by unfold isInstance;exact L0.andThen (looks_mroIn X' Y.top)
 have L3:Looks MM hh' (specialOf (.ref a) "__init__") (some (.builtin "object.__init__")):=eZ (s:=⟨hh',g',d',t',os'⟩) X' ho hc iZ.init
 have L4:Looks MM hh' (typeLookup (.ref 192) "__init__") (some (.builtin "object.__init__")):=looks_findIn X' iZ.init
 have L5:=Looks.of_peek (M:=MM) X' (Y.made _)
 have L6:Looks MM hh' (bindSpecial (.builtin "object.__init__") (.ref a)) (.builtin "object.__init__",[.ref a]):=Looks.of_pure (oi_bind _)
 unfold callSpecial?
 repeat (first|simp only[Bool.not_true,Bool.false_eq_true,if_false]|with_reducible refine wpAny_call ?_|lk)
 refine codeAny_call_builtin oi_plain entry_oi (check_slot oi_kind oi_split L2 (A3 (.ref a) u1 u2 u3) ?_)
 unfold Builtin.«object.__init__»
 have e1:((none:Option String)!=some "object.__new__")=true:=rfl
 have e2:(some (Value.builtin "object.__init__")!=some (Value.builtin "object.__init__"))=false:=by decide+kernel
 have e3:(Value.none !=Value.none)=false:=rfl
 repeat (first|simp only[List.cons_append,List.nil_append,List.isEmpty_cons,Bool.not_false,Bool.not_true,Bool.true_or,Bool.or_true,Bool.false_or,if_true,Bool.false_eq_true,if_false,e1,e2,e3]|exact fin|lk)
theorem Nn {D:Nat} {st:St} {i j k:Int} {P:PV} (h:P (pq i j k) st):bw (D+2) 192 [.int i,.int j,.int k] [] st P:=by
 have Y:Bu K0:=HN W0.params
 refine⟨Y.keep,λ{C} H r {us ku Q} ds dk kk=>dk.nilE (ds.three λu1 u2 u3 d1 d2 d3=>GQ (r.k0 H) λQ' E hq=>?_)⟩
 have hu:Code.cUnits (.builtin "type.__call__" ⟨[.ref 192,u1,u2,u3],[]⟩)<=10:=aa (by kernel_rfl)
 have H':CxB (D+1) {C with A:=C.A.under (.builtin "type.__call__" ⟨[.ref 192,u1,u2,u3],[]⟩)}:={kin:=H.kin,top:=H.top,hh:=H.hh,sm:=H.sm,nb:=H.nb,dep:=by have:=H.dep;rw[depth_under_make];omega,un:=by have:=H.un;show C.A.units+Code.cUnits _+_+_<_;omega}
 refine codeAny_mono ((Hd (P:=λv st'=>v=pq i j k/\st'=st) ⟨rfl,rfl⟩).2 H' ((r.tick).setA _) (.cons (.val _) (.cons d1 (.cons d2 (.cons d3 .nil)))) .nil (Q:=Q') λr2 av v l h2 dv=>?_) λrr s' hr=>?_
 ·obtain⟨rfl,rfl⟩:=h2
  refine dv.tupE (X:=λv=>r2.D (pq i j k) v->Q' v r2.s) (λa xs nn dx g dxs dv=>?_) dv
  exact hq a _ r2.s (r2.unA.k0 H) (r2.gGet g) rfl (kk r2.unA _ _ ⟨l.pre,l.sub,l.jn⟩ h dv)
 ·cases rr with
  |ok f=>cases f<;>first|exact hr|exact hr.elim
  |error e=>exact hr.elim
noncomputable def dN:Sx:=⟨["self","b","b2j","i","elt","indices","junk","isjunk","popular","n","ntest","idxs"],[],[("enumerate",.type "enumerate"),("set",.type "set"),("len",.builtin "len")],0⟩
noncomputable def kS:PS:=(.cons (.asg (.cons (.loc 1 (Ol 301 8 9)) .nil) (.att (.loc 0 (Ol 301 12 16)) "b" (Ol 301 12 18)) (Ol 301 8 18))
 (.cons (.asg (.cons (.att (.loc 0 (Ol 302 8 12)) "b2j" (Ol 302 8 16)) (.cons (.loc 2 (Ol 302 19 22)) .nil)) (.dic0 false (Ol 302 25 27)) (Ol 302 8 27))
 (.cons (.fen (.cons (.loc 3 (Ol 303 12 13)) (.cons (.loc 4 (Ol 303 15 18)) .nil)) 0 (Ol 303 12 18) 0 (Ol 303 22 31) (Ol 303 22 34) (.loc 1 (Ol 303 32 33)) (.cons (.asg (.cons (.loc 5 (Ol 304 12 19)) .nil) (.meth (.loc 2 (Ol 304 22 25)) "setdefault" (Ol 304 22 36) (.cons (.loc 4 (Ol 304 37 40)) (.cons (.lst .nil (Ol 304 42 44)) .nil)) .nil (Ol 304 22 45)) (Ol 304 12 45))
 (.cons (.expr (.meth (.loc 5 (Ol 305 12 19)) "append" (Ol 305 12 26) (.cons (.loc 3 (Ol 305 27 28)) .nil) .nil (Ol 305 12 29)) (Ol 305 12 29))
 .nil)) (Om 303 8 305 29))
 (.cons (.asg (.cons (.att (.loc 0 (Ol 306 8 12)) "bjunk" (Ol 306 8 18)) (.cons (.loc 6 (Ol 306 21 25)) .nil)) (.call (.glb 1 (Ol 306 28 31)) .nil .nil (Ol 306 28 33)) (Ol 306 8 33))
 (.cons (.asg (.cons (.loc 7 (Ol 307 8 14)) .nil) (.att (.loc 0 (Ol 307 17 21)) "isjunk" (Ol 307 17 28)) (Ol 307 8 28))
 (.cons (.ite (.loc 7 (Ol 308 11 17)) (.cons (.fer (.loc 4 (Ol 309 16 19)) (.meth (.loc 2 (Ol 309 23 26)) "keys" (Ol 309 23 31) .nil .nil (Ol 309 23 33)) (.cons (.ite (.call (.loc 7 (Ol 310 19 25)) (.cons (.loc 4 (Ol 310 26 29)) .nil) .nil (Ol 310 19 30)) (.cons (.expr (.meth (.loc 6 (Ol 311 20 24)) "add" (Ol 311 20 28) (.cons (.loc 4 (Ol 311 29 32)) .nil) .nil (Ol 311 20 33)) (Ol 311 20 33))
 .nil) .nil (Om 310 16 311 33))
 .nil) (Om 309 12 311 33))
 (.cons (.fer (.loc 4 (Ol 312 16 19)) (.loc 6 (Ol 312 23 27)) (.cons (.dead (dc [10,5,5,1,0]))
 .nil) (Om 312 12 313 28))
 .nil)) .nil (Om 308 8 313 28))
 (.cons (.asg (.cons (.att (.loc 0 (Ol 314 8 12)) "bpopular" (Ol 314 8 21)) (.cons (.loc 8 (Ol 314 24 31)) .nil)) (.call (.glb 1 (Ol 314 34 37)) .nil .nil (Ol 314 34 39)) (Ol 314 8 39))
 (.cons (.asg (.cons (.loc 9 (Ol 315 8 9)) .nil) (.call (.glb 2 (Ol 315 12 15)) (.cons (.loc 1 (Ol 315 16 17)) .nil) .nil (Ol 315 12 18)) (Ol 315 8 18))
 (.cons (.ite (.boo .And (.cons (.att (.loc 0 (Ol 316 11 15)) "autojunk" (Ol 316 11 24)) (.cons (.cmp (.loc 9 (Ol 316 29 30)) .GtE (.cst (.int 200) 0 (Ol 316 34 37)) (Ol 316 29 37)) .nil)) (Ol 316 11 37)) (.cons (.asg (.cons (.loc 10 (Ol 317 12 17)) .nil) (.bin (.bin (.loc 9 (Ol 317 20 21)) .FloorDiv (.cst (.int 100) 0 (Ol 317 25 28)) (Ol 317 20 28)) .Add (.cst (.int 1) 0 (Ol 317 31 32)) (Ol 317 20 32)) (Ol 317 12 32))
 (.cons (.fer (.tup (.cons (.loc 4 (Ol 318 16 19)) (.cons (.loc 11 (Ol 318 21 25)) .nil)) 0 (Ol 318 16 25)) (.meth (.loc 2 (Ol 318 29 32)) "items" (Ol 318 29 38) .nil .nil (Ol 318 29 40)) (.cons (.ite (.cmp (.call (.glb 2 (Ol 319 19 22)) (.cons (.loc 11 (Ol 319 23 27)) .nil) .nil (Ol 319 19 28)) .Gt (.loc 10 (Ol 319 31 36)) (Ol 319 19 36)) (.cons (.expr (.meth (.loc 8 (Ol 320 20 27)) "add" (Ol 320 20 31) (.cons (.loc 4 (Ol 320 32 35)) .nil) .nil (Ol 320 20 36)) (Ol 320 20 36))
 .nil) .nil (Om 319 16 320 36))
 .nil) (Om 318 12 320 36))
 (.cons (.fer (.loc 4 (Ol 321 16 19)) (.loc 8 (Ol 321 23 30)) (.cons (.dead (dc [10,5,8,2,0]))
 .nil) (Om 321 12 322 28))
 .nil))) .nil (Om 316 8 322 28))
 .nil)))))))))
theorem Dv:Fn 245 dN kS ["self"] [some 0,none,none,none,none,none,none,none,none,none,none,none] []:=⟨by kernel_rfl,by kernel_rfl,by kernel_rfl,rfl,λus h=>by obtain⟨a,rfl⟩:=pE h;kernel_rfl⟩
theorem sO:dE 299 "b2j":=⟨by kernel_rfl,by kernel_rfl,by kernel_rfl,by kernel_rfl,by kernel_rfl,by kernel_rfl⟩
noncomputable def gi (base:Nat):Nat->List Nat->List (List Nat×AV)
 |_,[]=>[]
 |n,c::l=>([c],.ref (base+n))::gi base (n+1) l
noncomputable def dV:Nat->List Nat->List AO
 |_,[]=>[]
 |n,_::l=>.list [.int n]::dV (n+1) l
noncomputable def th:PS:=match kS with
 | .cons _ (.cons _ (.cons (.fen _ _ _ _ _ _ _ b _) _))=>b
 |_=>.nil
noncomputable def Bz:PE:=.cons (.loc 3 (Ol 303 12 13)) (.cons (.loc 4 (Ol 303 15 18)) .nil)
theorem yY {G ls:List AO} {x:AO}:(G++x::ls)[G.length]? =some x:=by rw[List.getElem?_append_right (ak _),Nat.sub_self];rfl
theorem E8 {G ls:List AO} {x y:AO}:(G++x::ls).set G.length y=G++y::ls:=by rw[List.set_append_right _ _ (ak _),Nat.sub_self];rfl
theorem vE {d:List (List Nat×AV)} {k k':List Nat} {v:AV} (h:b8 d k'=none) (hne:k≠k'):b8 (d++[(k,v)]) k'=none:=by
 unfold b8 at h⊢
 rw[List.find?_append]
 cases e:d.find? (λp=>decide (p.1=k')) with
 |none=>rw[Option.none_or,List.find?_cons,decide_eq_false (show¬(k,v).1=k' from hne)];rfl
 |some p=>rw[e] at h;cases h
theorem D8 {D:Nat} {G:List AO} {s0 b:AV} {tk:Nat} {P:AF->St->Prop} (l:List Nat):∀(n:Nat) (d:List (List Nat×AV)) (ls:List AO) (x3 x4 x5:Option AV),ls.length=n->d.length=n->l.Nodup->(∀c∈l,b8 d [c]=none)->n+l.length<=1000->
  (∀x3 x4 x5,P .next ⟨[some s0,some b,some (.ref G.length),x3,x4,x5,none,none,none,none,none,none],G++.dictS (d++gi (G.length+1) n l)::(ls++dV n l),tk⟩)->
  bD (λ_=>True) (ji (wW D dN Bz).as) (bB D dN th) (numbered n (l.map λc=>.str [c] none)) ⟨[some s0,some b,some (.ref G.length),x3,x4,x5,none,none,none,none,none,none],G++.dictS d::ls,tk⟩ P:=by
 induction l with
 |nil=>exactλn d ls x3 x4 x5 _ _ _ _ _ h=>⟨trivial,by have z:=h x3 x4 x5;rwa [show d++gi (G.length+1) n []=d from List.append_nil d,show ls++dV n []=ls from List.append_nil ls] at z⟩
 |cons c l ih=>
  intro n d ls x3 x4 x5 h1 h2 hn hd hl h
  have hlt:n+l.length+1<=1000:=hl
  have nd:=List.nodup_cons.mp hn
  refine⟨trivial,?_⟩
  have fin:=ih (n+1) (d++[([c],.ref (G.length+1+n))]) (ls++[.list [.int n]]) (some (.int n)) (some (.str [c] none)) (some (.ref (G.length+1+n))) (by rw[aI,h1];rfl) (by rw[aI,h2];rfl) nd.2 (λc' hc'=>vE (hd c' (.tail _ hc')) λe=>nd.1 ((List.cons.inj e).1▸hc')) (by rw[Nat.add_right_comm];exact hlt) λy3 y4 y5=>by
   rw[ax,ax];exact h y3 y4 y5
  have en:(G++AO.dictS d::ls).length=G.length+1+n:=by rw[aI,List.length_cons,h1,Nat.add_assoc,Nat.add_comm 1]
  have e1:(G++AO.dictS d::ls)++[AO.list []]=G++AO.dictS d::(ls++[.list []]):=by rw[ax];rfl
  have e2:∀(y:AO) (ms:List AO) (a:AO),ms.length=n->(G++y::(ms++[a]))[G.length+1+n]? =some a:=λy ms a hm=>by
   rw[show G++y::(ms++[a])=(G++y::ms)++[a] by rw[ax];rfl,show G.length+1+n=(G++y::ms).length by rw[aI,List.length_cons,hm,Nat.add_assoc,Nat.add_comm 1]]
   exact aX
  have e3:∀(y:AO) (a a':AO),(G++y::(ls++[a])).set (G.length+1+n) a'=G++y::(ls++[a']):=λy a a'=>by
   rw[show G++y::(ls++[a])=(G++y::ls)++[a] by rw[ax];rfl,show G.length+1+n=(G++y::ls).length by rw[aI,List.length_cons,h1,Nat.add_assoc,Nat.add_comm 1],iL,ax];rfl
  have eX:((G++AO.dictS d::ls)++[AO.list []]).set G.length (.dictS (d++[([c],.ref (G++AO.dictS d::ls).length)]))=G++.dictS (d++[([c],.ref (G.length+1+n))])::(ls++[.list []]):=by rw[e1,E8,en]
  refine⟨aa rfl,aa rfl,?_⟩
  refine nU Kk yY ⟨Nat.zero_le _,tW d ((congrArg (·[G.length]?) e1).trans yY) (by rw[h2];exact ag (Nat.le_of_lt (aP (Nat.lt_succ_of_le (aQ ..)) hlt)) (by decide)) (hd c (.head _)) ⟨aa rfl,?_⟩⟩
  have eL:(((G++AO.dictS d::ls)++[AO.list []]).set G.length (.dictS (d++[([c],.ref (G++AO.dictS d::ls).length)])))[(G++AO.dictS d::ls).length]? =some (.list []):=by rw[eX,en];exact e2 _ _ _ h1
  refine dz de eL (dD [] eL (Nat.zero_le _) ?_)
  refine Eq.mpr (congrArg (λs=>bD (λ_=>True) (ji (wW D dN Bz).as) (bB D dN th) (numbered (n+1) (l.map λc=>.str [c] none)) s P) ?_) fin
  show(⟨[some s0,some b,some (.ref G.length),some (.int n),some (.str [c] none),some (.ref (G++AO.dictS d::ls).length),none,none,none,none,none,none],(((G++AO.dictS d::ls)++[AO.list []]).set G.length (.dictS (d++[([c],.ref (G++AO.dictS d::ls).length)]))).set (G++AO.dictS d::ls).length (.list [.int n]),tk⟩:St)=_
  rw[eX,en,e3]
theorem AQ:dE 299 "isjunk":=⟨by kernel_rfl,by kernel_rfl,by kernel_rfl,by kernel_rfl,by kernel_rfl,by kernel_rfl⟩
theorem ux:dE 299 "bjunk":=⟨by kernel_rfl,by kernel_rfl,by kernel_rfl,by kernel_rfl,by kernel_rfl,by kernel_rfl⟩
theorem Dt:dE 299 "bpopular":=⟨by kernel_rfl,by kernel_rfl,by kernel_rfl,by kernel_rfl,by kernel_rfl,by kernel_rfl⟩
theorem uq:dE 299 "autojunk":=⟨by kernel_rfl,by kernel_rfl,by kernel_rfl,by kernel_rfl,by kernel_rfl,by kernel_rfl⟩
theorem bY {κ:Type} [BEq κ] [LawfulBEq κ] {k k':κ} {v:AV} (h:(k'==k)=false) (l:List (κ×AV)):(bf l k v).lookup k'=l.lookup k':=by
 induction l with
 |nil=>show List.lookup k' [(k,v)]=_;rw[List.lookup_cons,h]
 |cons p l ih=>
  unfold bf
  split
  ·rename_i e
   rw[List.lookup_cons,List.lookup_cons,eq_of_beq e,h]
  ·rw[List.lookup_cons,List.lookup_cons,ih]
section
variable {A B:List AO} {i:Nat} {v w:AO}
theorem aZ (h:A[i]? =some v):(A++B)[i]? =some v:=aV (List.prefix_append A B) h
theorem n5 (h:A[i]? =some v):(A++B).set i w=A.set i w++B:=List.set_append_left _ _ (az.mp h).1
theorem bE (h:A[i]? =some v):(A.set i w)[i]? =some w:=List.getElem?_set_self (az.mp h).1
theorem bx {j:Nat} (hij:j≠i) (h:A[i]? =some v):(A.set j w)[i]? =some v:=(List.getElem?_set_ne hij).trans h
end
noncomputable def tM (g n:Nat) (kvs:List (Str×AV)):List (Str×AV):=bf (bf (bf kvs "b2j" (.ref g)) "bjunk" (.ref (g+1+n))) "bpopular" (.ref (g+1+n+1))
theorem jT {n:Nat} {l:List Nat}:(dV n l).length=l.length:=by
 induction l generalizing n with
 |nil=>rfl
 |cons _ l ih=>exact congrArg Nat.succ ih
theorem De {D:Nat} {lc:List (Option AV)} {H:List AO} {tk nd ni:Nat} {kvs:List (Str×AV)} {P:PV} {b:List Nat} {kb:Option Tok} (hne:ni≠nd) (e1:H[ni]? =some (.inst 299 nd)) (e0:H[nd]? =some (.idict kvs)) (hb:kvs.lookup ("b":Str)=some (AV.str b kb)) (hi:kvs.lookup ("isjunk":Str)=some .none) (ha:kvs.lookup ("autojunk":Str)=some (.bool true)) (hn:b.Nodup) (hl:b.length<100) (hk:kvs.length<90)
  (h:P .none ⟨lc,H.set nd (.idict (tM H.length b.length kvs))++(.dictS (gi (H.length+1) 0 b)::(dV 0 b++[.set0,.set0])),tk⟩):bw (D+1) 245 [.ref ni] [] ⟨lc,H,tk⟩ P:=by
 have k1:=dO (κ:=Str) "b2j" (.ref H.length) kvs
 have k2:=λu=>dO (κ:=Str) "bjunk" u (bf kvs "b2j" (.ref H.length))
 have hi':∀u v:AV,(bf (bf kvs "b2j" u) "bjunk" v).lookup ("isjunk":Str)=some .none:=λu v=>by rw[bY (by decide+kernel),bY (by decide+kernel)];exact hi
 have ha':∀u v w:AV,(bf (bf (bf kvs "b2j" u) "bjunk" v) "bpopular" w).lookup ("autojunk":Str)=some (.bool true):=λu v w=>by rw[bY (by decide+kernel),bY (by decide+kernel),bY (by decide+kernel)];exact ha
 generalize hG:H.set nd (.idict (bf kvs "b2j" (.ref H.length)))=G
 have gl:G.length=H.length:=by rw[<-hG,List.length_set]
 have g1:G[ni]? =some (.inst 299 nd):=by rw[<-hG];exact bx hne.symm e1
 have g0:G[nd]? =some (.idict (bf kvs "b2j" (.ref H.length))):=by rw[<-hG];exact bE e0
 refine Dv.call0 rfl ?_
 refine bK eO hb e1 e0 rfl ⟨aa rfl,?_⟩
 refine bR sO (by omega) (aZ e1) (aZ e0) ?_
 refine⟨aa rfl,⟨_,rfl⟩,rfl,ag (Nat.le_of_lt hl) (by decide),?_⟩
 have eA:(H++[AO.dictS []]).set nd (.idict (bf kvs "b2j" (.ref H.length)))=G++AO.dictS []::[]:=by rw[n5 e0,hG]
 refine Eq.mpr (congrArg (λz=>bD (λ_=>True) (ji (wW D dN Bz).as) (bB D dN th) (numbered 0 (b.map λc=>.str [c] none)) (⟨[some (.ref ni),some (.str b kb),some (.ref H.length),none,none,none,none,none,none,none,none,none],z,tk⟩:St) _) eA) ?_
 rw[<-gl]
 refine D8 b 0 [] [] none none none rfl rfl hn (λc _=>rfl) (by omega) λx3 x4 x5=>?_
 generalize hR:AO.dictS (gi (G.length+1) 0 b)::dV 0 b=R
 have y1:(G++R)[ni]? =some (.inst 299 nd):=aZ g1
 have y0:(G++R)[nd]? =some (.idict (bf kvs "b2j" (.ref H.length))):=aZ g0
 have yl:(G++R).length=H.length+1+b.length:=by rw[<-hR,aI,List.length_cons,jT,gl,Nat.add_assoc,Nat.add_comm b.length]
 refine Eq.mpr (congrArg (λz=>(bB D dN (match kS with| .cons _ (.cons _ (.cons _ r))=>r|_=>.nil) (⟨[some (.ref ni),some (.str b kb),some (.ref G.length),x3,x4,x5,none,none,none,none,none,none],z,tk⟩:St) (cH (dj ⟨lc,H,tk⟩ P)))) (show G++AO.dictS ([]++gi (G.length+1) 0 b)::([]++dV 0 b)=G++R from by rw[<-hR];rfl)) ?_
 refine uJ (bR ux (by omega) (aZ y1) (aZ y0) ?_)
 have z1':∀w,((G++R)++[AO.set0]).set nd w=(G++R).set nd w++[.set0]:=λw=>n5 y0
 refine⟨aa rfl,?_⟩
 refine bK AQ (hi' _ _) (bx hne.symm (aZ y1)) (bE (aZ y0)) rfl ⟨aa rfl,λh=>(nomatch h),λ_=>?_⟩
 have w1:=bx (w:=.idict (bf (bf kvs "b2j" (.ref H.length)) "bjunk" (.ref (G++R).length))) hne.symm (aZ (B:=[AO.set0]) y1)
 have w0:=bE (w:=.idict (bf (bf kvs "b2j" (.ref H.length)) "bjunk" (.ref (G++R).length))) (aZ (B:=[AO.set0]) y0)
 refine uJ (bR Dt (by have:=k2 (.ref (G++R).length);omega) (aZ w1) (aZ w0) ⟨aa rfl,?_⟩)
 refine cW (aH hl (by decide)) ⟨aa rfl,?_⟩
 refine bK uq (ha' _ _ _) (bx hne.symm (aZ w1)) (bE (aZ w0)) rfl ⟨λh=>(nomatch h),λ_=>⟨λ_=>⟨λh=>(nomatch h),λ_=>.inl ?_⟩,λh=>?_⟩⟩
 ·refine Eq.mpr (congrArg (λz=>P .none ⟨lc,z,tk⟩) ?_) h
  show((((G++R)++[AO.set0]).set nd (.idict (bf (bf kvs "b2j" (.ref H.length)) "bjunk" (.ref (G++R).length))))++[AO.set0]).set nd (.idict (bf (bf (bf kvs "b2j" (.ref H.length)) "bjunk" (.ref (G++R).length)) "bpopular" (.ref ((((G++R)++[AO.set0]).set nd (.idict (bf (bf kvs "b2j" (.ref H.length)) "bjunk" (.ref (G++R).length)))).length))))=_
  have el:∀w:AO,(((G++R)++[AO.set0]).set nd w).length=H.length+1+b.length+1:=λw=>by rw[List.length_set,aI,yl];rfl
  rw[n5 w0,List.set_set,el,yl,z1',n5 g0,<-hG,List.set_set,ax,ax,<-hR,<-gl]
  rfl
 ·exact absurd (aj h) (by omega)
noncomputable def jS:Sx:=⟨["self","b"],[],[],0⟩
noncomputable def jR:PS:=(.cons (.doc (dc [10,4,0]))
 (.cons (.ite (.cmp (.loc 1 (Ol 293 11 12)) .Is (.att (.loc 0 (Ol 293 16 20)) "b" (Ol 293 16 22)) (Ol 293 11 22)) (.cons (.ret0 (Ol 294 12 18))
 .nil) .nil (Om 293 8 294 18))
 (.cons (.asg (.cons (.att (.loc 0 (Ol 295 8 12)) "b" (Ol 295 8 14)) .nil) (.loc 1 (Ol 295 17 18)) (Ol 295 8 18))
 (.cons (.asg (.cons (.att (.loc 0 (Ol 296 8 12)) "matching_blocks" (Ol 296 8 28)) (.cons (.att (.loc 0 (Ol 296 31 35)) "opcodes" (Ol 296 31 43)) .nil)) (.cst .none 0 (Ol 296 46 50)) (Ol 296 8 50))
 (.cons (.asg (.cons (.att (.loc 0 (Ol 297 8 12)) "fullbcount" (Ol 297 8 23)) .nil) (.cst .none 0 (Ol 297 26 30)) (Ol 297 8 30))
 (.cons (.expr (.meth (.loc 0 (Ol 298 8 12)) "_SequenceMatcher__chain_b" (Ol 298 8 22) .nil .nil (Ol 298 8 24)) (Ol 298 8 24))
 .nil))))))
noncomputable def vx:Sx:=⟨["self","a","b"],[],[],0⟩
noncomputable def vU:PS:=(.cons (.doc (dc [10,2,0]))
 (.cons (.expr (.meth (.loc 0 (Ol 245 8 12)) "set_seq1" (Ol 245 8 21) (.cons (.loc 1 (Ol 245 22 23)) .nil) .nil (Ol 245 8 24)) (Ol 245 8 24))
 (.cons (.expr (.meth (.loc 0 (Ol 246 8 12)) "set_seq2" (Ol 246 8 21) (.cons (.loc 2 (Ol 246 22 23)) .nil) .nil (Ol 246 8 24)) (Ol 246 8 24))
 .nil)))
noncomputable def nX:Sx:=⟨["self","isjunk","a","b","autojunk"],[],[],0⟩
noncomputable def tc:PS:=(.cons (.doc (dc [10,1,0]))
 (.cons (.asg (.cons (.att (.loc 0 (Ol 232 8 12)) "isjunk" (Ol 232 8 19)) .nil) (.loc 1 (Ol 232 22 28)) (Ol 232 8 28))
 (.cons (.asg (.cons (.att (.loc 0 (Ol 233 8 12)) "a" (Ol 233 8 14)) (.cons (.att (.loc 0 (Ol 233 17 21)) "b" (Ol 233 17 23)) .nil)) (.cst .none 0 (Ol 233 26 30)) (Ol 233 8 30))
 (.cons (.asg (.cons (.att (.loc 0 (Ol 234 8 12)) "autojunk" (Ol 234 8 21)) .nil) (.loc 4 (Ol 234 24 32)) (Ol 234 8 32))
 (.cons (.expr (.meth (.loc 0 (Ol 235 8 12)) "set_seqs" (Ol 235 8 21) (.cons (.loc 2 (Ol 235 22 23)) (.cons (.loc 3 (Ol 235 25 26)) .nil)) .nil (Ol 235 8 27)) (Ol 235 8 27))
 .nil)))))
theorem jA:dE 299 "fullbcount":=⟨by kernel_rfl,by kernel_rfl,by kernel_rfl,by kernel_rfl,by kernel_rfl,by kernel_rfl⟩
theorem vO:fq 299 "_SequenceMatcher__chain_b" 245:=⟨by kernel_rfl,by kernel_rfl,by kernel_rfl⟩
theorem qb:fq 299 "set_seq1" 231:=⟨by kernel_rfl,by kernel_rfl,by kernel_rfl⟩
theorem pX:fq 299 "set_seq2" 238:=⟨by kernel_rfl,by kernel_rfl,by kernel_rfl⟩
theorem yn:fq 299 "set_seqs" 224:=⟨by kernel_rfl,by kernel_rfl,by kernel_rfl⟩
theorem GR:Fn 238 jS jR ["self","b"] [some 0,some 1] []:=⟨by kernel_rfl,by kernel_rfl,by kernel_rfl,rfl,λus h=>by obtain⟨a,b,rfl⟩:=tP h;kernel_rfl⟩
theorem Gf:Fn 224 vx vU ["self","a","b"] [some 0,some 1,some 2] []:=⟨by kernel_rfl,by kernel_rfl,by kernel_rfl,rfl,λus h=>by obtain⟨a,b,c,rfl⟩:=Bw h;kernel_rfl⟩
noncomputable def gJ (kvs:List (Str×AV)) (b:AV):List (Str×AV):=bf (bf (bf (bf kvs "b" b) "matching_blocks" .none) "opcodes" .none) "fullbcount" .none
theorem kL {kvs:List (Str×AV)} {b:AV} {y:Str} {v:Option AV} (h:kvs.lookup y=v) (h1:(y==("b":Str))=false) (h2:(y==("matching_blocks":Str))=false) (h3:(y==("opcodes":Str))=false) (h4:(y==("fullbcount":Str))=false):(gJ kvs b).lookup y=v:=by
 unfold gJ;rw[bY h4,bY h3,bY h2,bY h1];exact h
theorem tZ {κ:Type} [BEq κ] [LawfulBEq κ] (k:κ) (v:AV) (l:List (κ×AV)):(bf l k v).lookup k=some v:=by
 induction l with
 |nil=>show List.lookup k [(k,v)]=_;rw[List.lookup_cons,beq_self_eq_true]
 |cons p l ih=>
  obtain⟨q,w⟩:=p
  unfold bf
  split
  ·rw[List.lookup_cons];simp_all
  ·rw[List.lookup_cons]
   split
   ·simp_all
   ·exact ih
theorem F9 (kvs:List (Str×AV)) (b:AV):(gJ kvs b).lookup ("b":Str)=some b:=by
 unfold gJ;rw[bY (by decide+kernel),bY (by decide+kernel),bY (by decide+kernel)];exact tZ ..
theorem yV {D:Nat} {lc:List (Option AV)} {H:List AO} {tk nd ni:Nat} {kvs:List (Str×AV)} {P:PV} {b:List Nat} {t:Tok} {v:AV} (hne:ni≠nd) (e1:H[ni]? =some (.inst 299 nd)) (e0:H[nd]? =some (.idict kvs)) (hb:kvs.lookup ("b":Str)=some v) (hi:kvs.lookup ("isjunk":Str)=some .none) (ha:kvs.lookup ("autojunk":Str)=some (.bool true)) (hc:kvs.lookup ("_SequenceMatcher__chain_b":Str)=none) (hn:b.Nodup) (hl:b.length<100) (hk:kvs.length<80) (h0:t≠0)
  (hv:v=.none∨∃u,v=.str [] (some u)/\u≠0/\(b≠[]->t≠u)/\(b=[]->P .none ⟨lc,H,tk⟩))
  (h:P .none ⟨lc,H.set nd (.idict (tM H.length b.length (gJ kvs (.str b (some t)))))++(.dictS (gi (H.length+1) 0 b)::(dV 0 b++[.set0,.set0])),tk⟩):bw (D+2) 238 [.ref ni,.str b (some t)] [] ⟨lc,H,tk⟩ P:=by
 have l1:=dO (κ:=Str) "b" (.str b (some t)) kvs
 have l2:=dO (κ:=Str) "matching_blocks" .none (bf kvs "b" (.str b (some t)))
 have l3:=dO (κ:=Str) "opcodes" .none (bf (bf kvs "b" (.str b (some t))) "matching_blocks" .none)
 have l4:(gJ kvs (.str b (some t))).length<=_:=dO (κ:=Str) "fullbcount" .none (bf (bf (bf kvs "b" (.str b (some t))) "matching_blocks" .none) "opcodes" .none)
 refine GR.call0 rfl ⟨⟨_,_,_,_,rfl⟩,?_⟩
 have rest:bB (D+1) jS (match jR with| .cons _ (.cons _ r)=>r|_=>.nil) ⟨[some (.ref ni),some (.str b (some t))],H,tk⟩ (cH (dj ⟨lc,H,tk⟩ P)):=by
  refine bR eO (by omega) e1 e0 ?_
  have f1:=bx (w:=.idict (bf kvs "b" (.str b (some t)))) hne.symm e1
  have f0:=bE (w:=.idict (bf kvs "b" (.str b (some t)))) e0
  refine bR gF (by omega) f1 f0 ?_
  refine bR uB (by omega) (bx hne.symm f1) (bE f0) ?_
  refine bR jA (by omega) (bx hne.symm (bx hne.symm f1)) (bE (bE f0)) ?_
  have eS:(((H.set nd (.idict (bf kvs "b" (.str b (some t))))).set nd (.idict (bf (bf kvs "b" (.str b (some t))) "matching_blocks" .none))).set nd (.idict (bf (bf (bf kvs "b" (.str b (some t))) "matching_blocks" .none) "opcodes" .none))).set nd (.idict (gJ kvs (.str b (some t))))=H.set nd (.idict (gJ kvs (.str b (some t)))):=by rw[List.set_set,List.set_set,List.set_set]
  refine Eq.mpr (congrArg (λz=>bB (D+1) jS (match jR with| .cons _ (.cons _ (.cons _ (.cons _ (.cons _ r))))=>r|_=>.nil) (⟨[some (.ref ni),some (.str b (some t))],z,tk⟩:St) (cH (dj ⟨lc,H,tk⟩ P))) eS) ?_
  have j1:=bx (w:=.idict (gJ kvs (.str b (some t)))) hne.symm e1
  have j0:=bE (w:=.idict (gJ kvs (.str b (some t)))) e0
  refine e7 (kL hc (by decide+kernel) (by decide+kernel) (by decide+kernel) (by decide+kernel)) vO j1 j0 ?_
  refine De hne j1 j0 (F9 ..) (kL hi (by decide+kernel) (by decide+kernel) (by decide+kernel) (by decide+kernel)) (kL ha (by decide+kernel) (by decide+kernel) (by decide+kernel) (by decide+kernel)) hn hl (by omega) (.inl ?_)
  rw[List.length_set,List.set_set];exact h
 rcases hv with rfl|⟨u,rfl,hu,htu,he⟩
 ·exact bK eO hb e1 e0 rfl (.inr ⟨rfl,λh=>(nomatch h),λ_=>rest⟩)
 ·refine bK eO hb e1 e0 rfl (zw h0 hu ?_)
  by_cases hbb:b=[]
  ·exact .inr λc=>⟨λ_=>.inl (he hbb),λ_=>rest⟩
  ·exact .inl ⟨hbb,htu hbb,λh=>(nomatch h),λ_=>rest⟩
noncomputable def tT:List (Str×AV):=[("isjunk",.none),("a",.none),("b",.none),("autojunk",.bool true)]
noncomputable def zy (g n:Nat) (a b mb fb:AV):List (Str×AV):=[("isjunk",.none),("a",a),("b",b),("autojunk",.bool true),("matching_blocks",mb),("opcodes",.none),("fullbcount",fb),("b2j",.ref g),("bjunk",.ref (g+1+n)),("bpopular",.ref (g+1+n+1))]
theorem G8 (g n:Nat) (a b:AV):tM g n (gJ (iM tT a) b)=zy g n a b .none .none:=by kernel_rfl
theorem DL (g g' n n':Nat) (a b b' mb fb:AV):tM g n (gJ (zy g' n' a b' mb fb) b)=zy g n a b .none .none:=by kernel_rfl
noncomputable def tS (H:List AO) (nd:Nat) (a b:AV):List AO:=H.set nd (.idict (zy H.length 0 a b .none .none))++[.dictS [],.set0,.set0]
section
variable {D:Nat} {lc:List (Option AV)} {H:List AO} {tk nd ni:Nat} {P:PV}
theorem Fl {ua ub:Tok} (hne:ni≠nd) (e1:H[ni]? =some (.inst 299 nd)) (e0:H[nd]? =some (.idict tT)) (ha:ua≠0) (hb:ub≠0)
  (h:P .none ⟨lc,tS H nd (.str [] (some ua)) (.str [] (some ub)),tk⟩):bw (D+3) 224 [.ref ni,.str [] (some ua),.str [] (some ub)] [] ⟨lc,H,tk⟩ P:=by
 refine Gf.call0 rfl ⟨⟨_,_,_,_,rfl⟩,?_⟩
 refine e7 (by kernel_rfl) qb e1 e0 ?_
 refine yN hne e1 e0 (aa rfl) (v:=.none) (by kernel_rfl) ha (.inl rfl) ?_
 have f1:=bx (w:=.idict (iM tT (.str [] (some ua)))) hne.symm e1
 have f0:=bE (w:=.idict (iM tT (.str [] (some ua)))) e0
 refine e7 (by kernel_rfl) pX f1 f0 ?_
 refine yV hne f1 f0 (v:=.none) (by kernel_rfl) (by kernel_rfl) (by kernel_rfl) (by kernel_rfl) List.nodup_nil (by decide) (aa rfl) hb (.inl rfl) (.inl ?_)
 rw[List.length_set,List.set_set,List.length_nil,G8];exact h
end
noncomputable def Cv:{k:FuncData->List Value->Option (Array Value)->Sem (List (Str×Value))//∀fd us,bindArgs fd ⟨us,[]⟩=seqItems? fd.defaults>>=k fd us}:=⟨λfd us=>_,λfd us=>rfl⟩
theorem consE {α:Type} {n:Nat} {p:List α->Prop} (h:∀a,∀l:List α,l.length=n->p (a::l)):∀l:List α,l.length=n+1->p l:=λl e=>by
 cases l with
 |nil=>cases e
 |cons a l=>exact h a l (Nat.succ.inj e)
theorem nilE {α:Type} {p:List α->Prop} (h:p []):∀l:List α,l.length=0->p l:=λl e=>by
 cases l with
 |nil=>exact h
 |cons a l=>cases e
theorem fQ {f:Addr} {ns1 ns2:List Str} {args davs:List AV} {dvs:List Value} {T:Addr} {o:Obj} {items:Array Value} {n:Nat} (hl:args.length=ns1.length) (hd:(fdOf K0 f).defaults=.ref T) (ho:K0.lookup T=some o) (hs:o.data=.seq items n) (hb:∀us:List Value,us.length=ns1.length->Cv.1 (fdOf K0 f) us (some items)=pure ((ns1++ns2).zip (us++dvs)))
  (hdv:∀G ρ,aT G ρ davs dvs):Binds f (ns1++ns2) args [] (args++davs):=λs us ku X h1 h2=>by
 have hku:ku=[]:=List.map_eq_nil_iff.mp h2
 subst hku
 exact⟨us++dvs,BindsTo.of_defaults hd (X _ _ ho) hs (Cv.2 _ us) (hb us (h1.trans hl)),λG ρ d _=>d.append (hdv G ρ)⟩
theorem DR:gP K0 217 nX tc=true:=by kernel_rfl
theorem yu:(fdOf K0 217).body=.stmts (tc.toMs nX):=by kernel_rfl
theorem Gx:iX K0 217 nX ["self","isjunk","a","b","autojunk"] [some 0,some 1,some 2,some 3,some 4] []=true:=by kernel_rfl
theorem yd:dE 299 "isjunk":=⟨by kernel_rfl,by kernel_rfl,by kernel_rfl,by kernel_rfl,by kernel_rfl,by kernel_rfl⟩
theorem F4 {D:Nat} {lc:List (Option AV)} {H:List AO} {tk nd ni:Nat} {P:PV} (hne:ni≠nd) (e1:H[ni]? =some (.inst 299 nd)) (e0:H[nd]? =some (.idict []))
  (h:P .none ⟨lc,tS H nd (.str [] (some 621)) (.str [] (some 622)),tk⟩):bw (D+4) 217 [.ref ni] [] ⟨lc,H,tk⟩ P:=by
 refine iD (defAt DR yu) Gx (fQ (ns1:=["self"]) (ns2:=["isjunk","a","b","autojunk"]) (davs:=[.none,.str [] (some 621),.str [] (some 622),.bool true]) (dvs:=[.none,.str (tx []) 621,.str (tx []) 622,.bool true]) (T:=210) (o:=fO [vN,vs "" 621,vs "" 622,.bool true]) rfl (by kernel_rfl) (by kernel_rfl) rfl (consE λ_=>nilE (by kernel_rfl)) (λG ρ=>?_)) rfl rfl rfl ?_
 ·exact .cons .none (.cons (.str _ _ _ λ_ h=>by cases h;rfl) (.cons (.str _ _ _ λ_ h=>by cases h;rfl) (.cons (.bool _) .nil)))
 ·rw[show(bP ([.ref ni]++[.none,.str [] (some 621),.str [] (some 622),.bool true]) ([]:List (Option Nat))).map AO.cell=[] from rfl,List.append_nil]
  refine⟨⟨_,_,_,_,rfl⟩,?_⟩
  have f1:=λw:AO=>bx (w:=w) hne.symm e1
  have f0:=λw:AO=>bE (w:=w) e0
  have f2:=λw u:AO=>bx (w:=u) hne.symm (f1 w)
  have f3:=λw u:AO=>bE (w:=u) (f0 w)
  refine bR yd (aa rfl) e1 e0 ?_
  refine bR fm (aa rfl) (f1 _) (f0 _) ?_
  refine bR eO (aa rfl) (f2 _ _) (f3 _ _) ?_
  refine bR uq (aa rfl) (bx hne.symm (f2 _ _)) (bE (f3 _ _)) ?_
  have e:bf (bf (bf (bf [] ("isjunk":Str) AV.none) "a" .none) "b" .none) "autojunk" (.bool true)=tT:=by kernel_rfl
  have eS:(((H.set nd (.idict (bf [] ("isjunk":Str) AV.none))).set nd (.idict (bf (bf [] ("isjunk":Str) AV.none) "a" .none))).set nd (.idict (bf (bf (bf [] ("isjunk":Str) AV.none) "a" .none) "b" .none))).set nd (.idict (bf (bf (bf (bf [] ("isjunk":Str) AV.none) "a" .none) "b" .none) "autojunk" (.bool true)))=H.set nd (.idict tT):=by rw[List.set_set,List.set_set,List.set_set,e]
  refine Eq.mpr (congrArg (λz=>bB (D+3) nX (match tc with| .cons _ (.cons _ (.cons _ (.cons _ r)))=>r|_=>.nil) (⟨[some (.ref ni),some .none,some (.str [] (some 621)),some (.str [] (some 622)),some (.bool true)],z,tk⟩:St) (cH (dj ⟨lc,H,tk⟩ P))) eS) ?_
  refine e7 (by kernel_rfl) yn (f1 _) (f0 _) ?_
  refine Fl hne (f1 _) (f0 _) (by decide) (by decide) (.inl ?_)
  have eP:tS (H.set nd (.idict tT)) nd (.str [] (some 621)) (.str [] (some 622))=tS H nd (.str [] (some 621)) (.str [] (some 622)):=by unfold tS;rw[List.length_set,List.set_set]
  exact Eq.mpr (congrArg (λz=>P .none ⟨lc,z,tk⟩) eP) h
theorem zY (P:Params):makesIn (KM P) 299=true:=by kernel_rfl
theorem EP (P:Params):findIn (KM P) (.ref 299) "__init__"=some (some (.ref 217)):=by kernel_rfl
theorem Jp (P:Params):typeIn (KM P) (.ref 217)=some (.type "function"):=by kernel_rfl
theorem D7:keepIn K0 (.ref 299)=true:=by kernel_rfl
theorem EF {A:Around} {R:Result->Shared->Prop} {s:Shared} (X:K0.In s.heap)
  (h:codeAny MM (A.under (.builtin "type.__call__" ⟨[.ref 299],[]⟩)) (.call (.ref 217) ⟨[.ref (s.heap.objs.size+1)],[]⟩) (InitBack (s.heap.objs.size+1) R) {s with heap:=(s.heap.push emptyDict).push (instObj 299 s.heap.objs.size)}):codeAny MM A (.call (.ref 299) ⟨[],[]⟩) R s:=by
 obtain⟨hh,g,d,t,os⟩:=s
 exact make_core (makes_of X (zY _)) (looks_findIn X (EP _)) (λself=>bind_fn X self (Jp _)) (.inl rfl) h
theorem Ma {D:Nat} {lc:List (Option AV)} {H:List AO} {tk:Nat} {P:PV} (h:P (.ref (H.length+1)) ⟨lc,tS (H++[.idict []]++[.inst 299 H.length]) H.length (.str [] (some 621)) (.str [] (some 622)),tk⟩):bw (D+5) 299 [] [] ⟨lc,H,tk⟩ P:=by
 refine⟨D7,λ{C} HX r {us ku Q} ds dk k=>dk.nilE (ds.nilE ?_)⟩
 refine EF (r.k0 HX) ?_
 let r1:=r.push emptyDict (v:=.idict []) (λ_ _=>⟨[],0,rfl,.nil⟩) rfl
 have q:r1.D (.ref H.length) (.ref r.s.heap.objs.size):=r.new_den
 let r2:=r1.push (instObj 299 r.s.heap.objs.size) (v:=.inst 299 H.length) (λρ p=>⟨_,rfl,aV p (by cases q with|ref _ _ h=>exact h)⟩) rfl
 have hu:Code.cUnits (.builtin "type.__call__" ⟨[.ref 299],[]⟩)<=10:=aa (by kernel_rfl)
 have H':CxB (D+4) {C with A:=C.A.under (.builtin "type.__call__" ⟨[.ref 299],[]⟩)}:={kin:=HX.kin,top:=HX.top,hh:=HX.hh,sm:=HX.sm,nb:=HX.nb,dep:=by have:=HX.dep;rw[depth_under_make];omega,un:=by have:=HX.un;show C.A.units+Code.cUnits _+_+_<_;omega}
 have e1:(H++[AO.idict []]++[AO.inst 299 H.length])[H.length+1]? =some (.inst 299 H.length):=by simp
 have e0:(H++[AO.idict []]++[AO.inst 299 H.length])[H.length]? =some (.idict []):=by simp
 have q2:r2.D (.ref (H.length+1)) (.ref (r.s.heap.objs.size+1)):=by
  have z:r2.D (.ref (H++[AO.idict []]).length) (.ref (r.s.heap.push emptyDict).objs.size):=r1.new_den
  rw[aI,Heap.size_push] at z;exact z
 refine codeAny_mono ((F4 (lc:=lc) (tk:=tk) (P:=λv st'=>P (.ref (H.length+1)) st'/\v=.none) (Nat.succ_ne_self _) e1 e0 ⟨h,rfl⟩).2 H' (r2.setA _) (.cons q2 .nil) .nil (Q:=λv s'=>v=.none/\Q (.ref (r.s.heap.objs.size+1)) s') λr3 av v l h2 dv=>?_) λrr s' hr=>?_
 ·obtain⟨h2,rfl⟩:=h2
  cases dv
  have l1:Le r r1:=r.new_le
  have l2:Le r1 r2:=r1.new_le
  have l3:Le r2 r3.unA:=⟨l.pre,l.sub,l.jn⟩
  refine⟨rfl,k r3.unA (.ref (H.length+1)) _ (l1.trans (l2.trans l3)) h2 (.ref _ _ ?_)⟩
  cases q2 with
  |ref _ _ h=>exact aV l.pre h
 ·match rr,hr with
  | .ok (.ret v),hr=>exact hr
noncomputable def iz:Sx:=⟨["self","alo","ahi","blo","bhi","a","b","b2j","isbjunk","besti","bestj","bestsize","j2len","nothing","i","j2lenget","newj2len","j","k"],[],[("len",.builtin "len"),("range",.type "range"),("Match",.ref 192)],0⟩
noncomputable def jf:PS:=(.cons (.doc (dc [10,6,0]))
 (.cons (.tas (.cons (.loc 5 (Ol 369 8 9)) (.cons (.loc 6 (Ol 369 11 12)) (.cons (.loc 7 (Ol 369 14 17)) (.cons (.loc 8 (Ol 369 19 26)) .nil)))) 0 (Ol 369 8 26) (.cons (.att (.loc 0 (Ol 369 30 34)) "a" (Ol 369 30 36)) (.cons (.att (.loc 0 (Ol 369 38 42)) "b" (Ol 369 38 44)) (.cons (.att (.loc 0 (Ol 369 46 50)) "b2j" (Ol 369 46 54)) (.cons (.att (.att (.loc 0 (Ol 369 56 60)) "bjunk" (Ol 369 56 66)) "__contains__" (Ol 369 56 79)) .nil)))) 0 (Ol 369 29 80) (Ol 369 8 80))
 (.cons (.ite (.cmp (.loc 2 (Ol 370 11 14)) .Is (.cst .none 0 (Ol 370 18 22)) (Ol 370 11 22)) (.cons (.asg (.cons (.loc 2 (Ol 371 12 15)) .nil) (.call (.glb 0 (Ol 371 18 21)) (.cons (.loc 5 (Ol 371 22 23)) .nil) .nil (Ol 371 18 24)) (Ol 371 12 24))
 .nil) .nil (Om 370 8 371 24))
 (.cons (.ite (.cmp (.loc 4 (Ol 372 11 14)) .Is (.cst .none 0 (Ol 372 18 22)) (Ol 372 11 22)) (.cons (.asg (.cons (.loc 4 (Ol 373 12 15)) .nil) (.call (.glb 0 (Ol 373 18 21)) (.cons (.loc 6 (Ol 373 22 23)) .nil) .nil (Ol 373 18 24)) (Ol 373 12 24))
 .nil) .nil (Om 372 8 373 24))
 (.cons (.swp [(9,(Ol 374 8 13)),(10,(Ol 374 15 20)),(11,(Ol 374 22 30))] 0 (Ol 374 8 30) (.cons (.loc 1 (Ol 374 34 37)) (.cons (.loc 3 (Ol 374 39 42)) (.cons (.cst (.int 0) 0 (Ol 374 44 45)) .nil))) 0 (Ol 374 33 46) (Ol 374 8 46))
 (.cons (.asg (.cons (.loc 12 (Ol 375 8 13)) .nil) (.dic0 true (Ol 375 16 18)) (Ol 375 8 18))
 (.cons (.asg (.cons (.loc 13 (Ol 376 8 15)) .nil) (.lst .nil (Ol 376 18 20)) (Ol 376 8 20))
 (.cons (.fer (.loc 14 (Ol 377 12 13)) (.call (.glb 1 (Ol 377 17 22)) (.cons (.loc 1 (Ol 377 23 26)) (.cons (.loc 2 (Ol 377 28 31)) .nil)) .nil (Ol 377 17 32)) (.cons (.asg (.cons (.loc 15 (Ol 378 12 20)) .nil) (.att (.loc 12 (Ol 378 23 28)) "get" (Ol 378 23 32)) (Ol 378 12 32))
 (.cons (.asg (.cons (.loc 16 (Ol 379 12 20)) .nil) (.dic0 true (Ol 379 23 25)) (Ol 379 12 25))
 (.cons (.fer (.loc 17 (Ol 380 16 17)) (.meth (.loc 7 (Ol 380 21 24)) "get" (Ol 380 21 28) (.cons (.sub (.loc 5 (Ol 380 29 30)) (.loc 14 (Ol 380 31 32)) (Ol 380 29 33)) (.cons (.loc 13 (Ol 380 35 42)) .nil)) .nil (Ol 380 21 43)) (.cons (.ite (.cmp (.loc 17 (Ol 381 19 20)) .Lt (.loc 3 (Ol 381 23 26)) (Ol 381 19 26)) (.cons (.cont (Ol 382 20 28))
 .nil) .nil (Om 381 16 382 28))
 (.cons (.ite (.cmp (.loc 17 (Ol 383 19 20)) .GtE (.loc 4 (Ol 383 24 27)) (Ol 383 19 27)) (.cons (.brk (Ol 384 20 25))
 .nil) .nil (Om 383 16 384 25))
 (.cons (.asg (.cons (.loc 18 (Ol 385 16 17)) (.cons (.sub (.loc 16 (Ol 385 20 28)) (.loc 17 (Ol 385 29 30)) (Ol 385 20 31)) .nil)) (.bin (.call (.loc 15 (Ol 385 34 42)) (.cons (.bin (.loc 17 (Ol 385 43 44)) .Sub (.cst (.int 1) 0 (Ol 385 47 48)) (Ol 385 43 48)) (.cons (.cst (.int 0) 0 (Ol 385 50 51)) .nil)) .nil (Ol 385 34 52)) .Add (.cst (.int 1) 0 (Ol 385 55 56)) (Ol 385 34 56)) (Ol 385 16 56))
 (.cons (.ite (.cmp (.loc 18 (Ol 386 19 20)) .Gt (.loc 11 (Ol 386 23 31)) (Ol 386 19 31)) (.cons (.swp [(9,(Ol 387 20 25)),(10,(Ol 387 27 32)),(11,(Ol 387 34 42))] 0 (Ol 387 20 42) (.cons (.bin (.bin (.loc 14 (Ol 387 46 47)) .Sub (.loc 18 (Ol 387 50 51)) (Ol 387 46 51)) .Add (.cst (.int 1) 0 (Ol 387 54 55)) (Ol 387 46 55)) (.cons (.bin (.bin (.loc 17 (Ol 387 57 58)) .Sub (.loc 18 (Ol 387 61 62)) (Ol 387 57 62)) .Add (.cst (.int 1) 0 (Ol 387 65 66)) (Ol 387 57 66)) (.cons (.loc 18 (Ol 387 68 69)) .nil))) 0 (Ol 387 45 70) (Ol 387 20 70))
 .nil) .nil (Om 386 16 387 70))
 .nil)))) (Om 380 12 387 70))
 (.cons (.asg (.cons (.loc 12 (Ol 388 12 17)) .nil) (.loc 16 (Ol 388 20 28)) (Ol 388 12 28))
 .nil)))) (Om 377 8 388 28))
 (.cons (.whl (.boo .And (.cons (.cmp (.loc 9 (Ol 389 14 19)) .Gt (.loc 1 (Ol 389 22 25)) (Ol 389 14 25)) (.cons (.cmp (.loc 10 (Ol 389 30 35)) .Gt (.loc 3 (Ol 389 38 41)) (Ol 389 30 41)) (.cons (.nt (.call (.loc 8 (Ol 389 51 58)) (.cons (.sub (.loc 6 (Ol 389 59 60)) (.bin (.loc 10 (Ol 389 61 66)) .Sub (.cst (.int 1) 0 (Ol 389 69 70)) (Ol 389 61 70)) (Ol 389 59 71)) .nil) .nil (Ol 389 51 72)) (Ol 389 47 72)) (.cons (.cmp (.sub (.loc 5 (Ol 389 79 80)) (.bin (.loc 9 (Ol 389 81 86)) .Sub (.cst (.int 1) 0 (Ol 389 89 90)) (Ol 389 81 90)) (Ol 389 79 91)) .Eq (.sub (.loc 6 (Ol 389 95 96)) (.bin (.loc 10 (Ol 389 97 102)) .Sub (.cst (.int 1) 0 (Ol 389 105 106)) (Ol 389 97 106)) (Ol 389 95 107)) (Ol 389 79 107)) .nil)))) (Ol 389 14 108)) (.cons (.swp [(9,(Ol 390 12 17)),(10,(Ol 390 19 24)),(11,(Ol 390 26 34))] 0 (Ol 390 12 34) (.cons (.bin (.loc 9 (Ol 390 38 43)) .Sub (.cst (.int 1) 0 (Ol 390 46 47)) (Ol 390 38 47)) (.cons (.bin (.loc 10 (Ol 390 49 54)) .Sub (.cst (.int 1) 0 (Ol 390 57 58)) (Ol 390 49 58)) (.cons (.bin (.loc 11 (Ol 390 60 68)) .Add (.cst (.int 1) 0 (Ol 390 71 72)) (Ol 390 60 72)) .nil))) 0 (Ol 390 37 73) (Ol 390 12 73))
 .nil) (Om 389 8 390 73))
 (.cons (.whl (.boo .And (.cons (.cmp (.bin (.loc 9 (Ol 391 14 19)) .Add (.loc 11 (Ol 391 22 30)) (Ol 391 14 30)) .Lt (.loc 2 (Ol 391 33 36)) (Ol 391 14 36)) (.cons (.cmp (.bin (.loc 10 (Ol 391 41 46)) .Add (.loc 11 (Ol 391 49 57)) (Ol 391 41 57)) .Lt (.loc 4 (Ol 391 60 63)) (Ol 391 41 63)) (.cons (.nt (.call (.loc 8 (Ol 391 73 80)) (.cons (.sub (.loc 6 (Ol 391 81 82)) (.bin (.loc 10 (Ol 391 83 88)) .Add (.loc 11 (Ol 391 91 99)) (Ol 391 83 99)) (Ol 391 81 100)) .nil) .nil (Ol 391 73 101)) (Ol 391 69 101)) (.cons (.cmp (.sub (.loc 5 (Ol 391 108 109)) (.bin (.loc 9 (Ol 391 110 115)) .Add (.loc 11 (Ol 391 118 126)) (Ol 391 110 126)) (Ol 391 108 127)) .Eq (.sub (.loc 6 (Ol 391 131 132)) (.bin (.loc 10 (Ol 391 133 138)) .Add (.loc 11 (Ol 391 141 149)) (Ol 391 133 149)) (Ol 391 131 150)) (Ol 391 108 150)) .nil)))) (Ol 391 14 151)) (.cons (.aug (.loc 11 (Ol 392 12 20)) .Add (.cst (.int 1) 0 (Ol 392 24 25)) (Ol 392 12 25))
 .nil) (Om 391 8 392 25))
 (.cons (.whl (.boo .And (.cons (.cmp (.loc 9 (Ol 393 14 19)) .Gt (.loc 1 (Ol 393 22 25)) (Ol 393 14 25)) (.cons (.cmp (.loc 10 (Ol 393 30 35)) .Gt (.loc 3 (Ol 393 38 41)) (Ol 393 30 41)) (.cons (.call (.loc 8 (Ol 393 46 53)) (.cons (.sub (.loc 6 (Ol 393 54 55)) (.bin (.loc 10 (Ol 393 56 61)) .Sub (.cst (.int 1) 0 (Ol 393 64 65)) (Ol 393 56 65)) (Ol 393 54 66)) .nil) .nil (Ol 393 46 67)) (.cons (.cmp (.sub (.loc 5 (Ol 393 73 74)) (.bin (.loc 9 (Ol 393 75 80)) .Sub (.cst (.int 1) 0 (Ol 393 83 84)) (Ol 393 75 84)) (Ol 393 73 85)) .Eq (.sub (.loc 6 (Ol 393 89 90)) (.bin (.loc 10 (Ol 393 91 96)) .Sub (.cst (.int 1) 0 (Ol 393 99 100)) (Ol 393 91 100)) (Ol 393 89 101)) (Ol 393 73 101)) .nil)))) (Ol 393 14 102)) (.cons (.swp [(9,(Ol 394 12 17)),(10,(Ol 394 19 24)),(11,(Ol 394 26 34))] 0 (Ol 394 12 34) (.cons (.bin (.loc 9 (Ol 394 38 43)) .Sub (.cst (.int 1) 0 (Ol 394 46 47)) (Ol 394 38 47)) (.cons (.bin (.loc 10 (Ol 394 49 54)) .Sub (.cst (.int 1) 0 (Ol 394 57 58)) (Ol 394 49 58)) (.cons (.bin (.loc 11 (Ol 394 60 68)) .Add (.cst (.int 1) 0 (Ol 394 71 72)) (Ol 394 60 72)) .nil))) 0 (Ol 394 37 73) (Ol 394 12 73))
 .nil) (Om 393 8 394 73))
 (.cons (.whl (.boo .And (.cons (.cmp (.bin (.loc 9 (Ol 395 14 19)) .Add (.loc 11 (Ol 395 22 30)) (Ol 395 14 30)) .Lt (.loc 2 (Ol 395 33 36)) (Ol 395 14 36)) (.cons (.cmp (.bin (.loc 10 (Ol 395 41 46)) .Add (.loc 11 (Ol 395 49 57)) (Ol 395 41 57)) .Lt (.loc 4 (Ol 395 60 63)) (Ol 395 41 63)) (.cons (.call (.loc 8 (Ol 395 68 75)) (.cons (.sub (.loc 6 (Ol 395 76 77)) (.bin (.loc 10 (Ol 395 78 83)) .Add (.loc 11 (Ol 395 86 94)) (Ol 395 78 94)) (Ol 395 76 95)) .nil) .nil (Ol 395 68 96)) (.cons (.cmp (.sub (.loc 5 (Ol 395 102 103)) (.bin (.loc 9 (Ol 395 104 109)) .Add (.loc 11 (Ol 395 112 120)) (Ol 395 104 120)) (Ol 395 102 121)) .Eq (.sub (.loc 6 (Ol 395 125 126)) (.bin (.loc 10 (Ol 395 127 132)) .Add (.loc 11 (Ol 395 135 143)) (Ol 395 127 143)) (Ol 395 125 144)) (Ol 395 102 144)) .nil)))) (Ol 395 14 145)) (.cons (.asg (.cons (.loc 11 (Ol 396 12 20)) .nil) (.bin (.loc 11 (Ol 396 23 31)) .Add (.cst (.int 1) 0 (Ol 396 34 35)) (Ol 396 23 35)) (Ol 396 12 35))
 .nil) (Om 395 8 396 35))
 (.cons (.ret (.call (.glb 2 (Ol 397 15 20)) (.cons (.loc 9 (Ol 397 21 26)) (.cons (.loc 10 (Ol 397 28 33)) (.cons (.loc 11 (Ol 397 35 43)) .nil))) .nil (Ol 397 15 44)) (Ol 397 8 44))
 .nil)))))))))))))
theorem J3:gP K0 253 iz jf=true:=by kernel_rfl
theorem Bc:(fdOf K0 253).body=.stmts (jf.toMs iz):=by kernel_rfl
noncomputable def gG:Nat->List Nat->Nat->Option Int
 |_,[],_=>none
 |n,x::l,c=>if x=c then some n else gG (n+1) l c
structure FS where
 bi:Int
 bj:Int
 bs:Int
 d:Option (Int×Int)
noncomputable def fN (d:Option (Int×Int)) (j:Int):Int:=match d with
 |some p=>if p.1=j-1 then p.2 else 0
 |none=>0
noncomputable def dG (f g:List Nat) (blo bhi:Int) (S:FS) (i:Int):FS:=match gG 0 g (f.getD i.toNat 0) with
 |none=>{S with d:=none}
 |some j=>if j<blo then{S with d:=none} else if j≥bhi then{S with d:=none} else
  if fN S.d j+1>S.bs then⟨i-(fN S.d j+1)+1,j-(fN S.d j+1)+1,fN S.d j+1,some (j,fN S.d j+1)⟩ else{S with d:=some (j,fN S.d j+1)}
noncomputable def dl:Option (Int×Int)->List (Int×AV)
 |none=>[]
 |some p=>[(p.1,.int p.2)]
theorem nC {κ:Type} [DecidableEq κ] (k k':κ) (v:AV) (r:List (κ×AV)):b8 ((k,v)::r) k'=if k=k' then some v else b8 r k':=by
 unfold b8
 rw[List.find?_cons]
 by_cases h:k=k'
 ·rw[if_pos h,aR (p:=(k,v).1=k') h];rfl
 ·rw[if_neg h,decide_eq_false (p:=(k,v).1=k') h]
theorem FH (d:Option (Int×Int)) (j:Int):(b8 (dl d) (j-1)).getD (.int 0)=.int (fN d j):=by
 cases d with
 |none=>rfl
 |some p=>
  refine(congrArg (·.getD (AV.int 0)) (nC p.1 (j-1) (AV.int p.2) [])).trans ?_
  show _=AV.int (if p.1=j-1 then p.2 else 0)
  by_cases h:p.1=j-1
  ·rw[if_pos h,if_pos h];rfl
  ·rw[if_neg h,if_neg h];rfl
theorem Dn (base c:Nat) (g:List Nat):∀(n:Nat),b8 (gi base n g) [c]=(gG n g c).map λj=>.ref (base+j.toNat):=by
 induction g with
 |nil=>exactλn=>rfl
 |cons x g ih=>
  intro n
  refine(nC ..).trans ?_
  show _=Option.map _ (if x=c then some (n:Int) else gG (n+1) g c)
  by_cases h:x=c
  ·rw[if_pos h,if_pos (congrArg (λz=>[z]) h)];rfl
  ·rw[if_neg h,if_neg λq=>h (List.head_eq_of_cons_eq q),ih]
theorem EK (c:Nat) (j:Int) (g:List Nat):∀(n:Nat),gG n g c=some j->∃k,j=((n+k:Nat):Int)/\(dV n g)[k]? =some (.list [.int j]):=by
 induction g with
 |nil=>exactλn h=>nomatch h
 |cons x g ih=>
  intro n h
  by_cases e:x=c
  ·have h:some (n:Int)=some j:=(if_pos e).symm.trans h
   exact⟨0,(Option.some.inj h).symm,congrArg (λz=>some (AO.list [.int z])) (Option.some.inj h)⟩
  ·obtain⟨k,e1,e2⟩:=ih (n+1) ((if_neg e).symm.trans h)
   exact⟨k+1,by rw[e1,Nat.add_right_comm];rfl,e2⟩
structure vh where
 f:List Nat
 g:List Nat
 ta:Option Tok
 tb:Option Tok
 alo:Int
 ahi:Int
 blo:Int
 bhi:Int
 ni:Nat
 nb:Nat
 nc:Nat
 nn:Nat
 nj:Nat
 base:Nat
 H:List AO
 tk:Nat
structure zG where
 n2:Nat
 a:Option AV
 b:Option AV
 c:Option AV
 d:Option AV
 e:Option AV
noncomputable def fS (p:vh) (bi bj bs:Int) (v:zG) (hp:List AO):St:=
 ⟨[some (.ref p.ni),some (.int p.alo),some (.int p.ahi),some (.int p.blo),some (.int p.bhi),some (.str p.f p.ta),some (.str p.g p.tb),some (.ref p.nb),some (.ref p.nc),some (.int bi),some (.int bj),some (.int bs),some (.ref v.n2),some (.ref p.nn),v.a,v.b,v.c,v.d,v.e],hp,p.tk⟩
noncomputable def PS.get:PS->Nat->PS
 | .cons s _,0=>s
 | .cons _ r,n+1=>r.get n
 |_,_=>.nil
noncomputable def PS.bodyOf:PS->PS
 | .fer _ _ b _=>b
 | .whl _ b _=>b
 |_=>.nil
noncomputable def PS.testOf:PS->PE
 | .whl t _ _=>t
 | .fer _ t _ _=>t
 |_=>.nil
noncomputable def PS.tgtOf:PS->PE
 | .fer t _ _ _=>t
 |_=>.nil
theorem getD_at {f:List Nat} {i:Int} (h0:0<=i) (h1:i<f.length):f[i.toNat]? =some (f.getD i.toNat 0):=by
 rw[aB,aq ((Int.toNat_lt h0).mpr h1)];rfl
section
variable {f g:List Nat} {blo bhi:Int} {S:FS} {i j:Int}
theorem Hz (e:gG 0 g (f.getD i.toNat 0)=none):dG f g blo bhi S i={S with d:=none}:=by unfold dG;rw[e]
theorem xl (e:gG 0 g (f.getD i.toNat 0)=some j) (h:j<blo∨bhi<=j):dG f g blo bhi S i={S with d:=none}:=by
 unfold dG;rw[e];dsimp only
 by_cases h1:j<blo
 ·exact if_pos h1
 ·rw[if_neg h1,if_pos (h.resolve_left h1)]
theorem HT (e:gG 0 g (f.getD i.toNat 0)=some j) (h1:¬j<blo) (h2:¬bhi<=j):dG f g blo bhi S i=if fN S.d j+1>S.bs then⟨i-(fN S.d j+1)+1,j-(fN S.d j+1)+1,fN S.d j+1,some (j,fN S.d j+1)⟩ else{S with d:=some (j,fN S.d j+1)}:=by
 unfold dG;rw[e];dsimp only;rw[if_neg h1,if_neg h2]
end
theorem bt {H A:List AO} {b:AO} (h:H<+:A):H<+:A++[b]:=h.trans (List.prefix_append ..)
theorem sT {H A:List AO} {b x:AO} (h:H<+:A):H<+:(A++[b]).set A.length x:=by rw[iL];exact bt h
theorem Fh {A:List AO} {b x:AO}:((A++[b]).set A.length x)[A.length]? =some x:=by rw[iL];exact aX
section
variable {D:Nat} {p:vh} {P:AF->St->Prop}
noncomputable abbrev Ir (D:Nat) (p:vh) (l:List Int) (S:FS) (v:zG) (hp:List AO) (P:AF->St->Prop):Prop:=bD (λ_=>True) (wW D iz (jf.get 7).tgtOf).a (bB D iz (jf.get 7).bodyOf) (l.map AV.int) (fS p S.bi S.bj S.bs v hp) P
theorem Dm (hb:p.H[p.nb]? =some (.dictS (gi p.base 0 p.g))) (hq:∀(j:Int) c,gG 0 p.g c=some j->p.H[p.base+j.toNat]? =some (.list [.int j])) (hn:p.H[p.nn]? =some (.list [])) (hf:p.f.length<100) (l:List Int):
  ∀(S:FS) (v:zG) (hp:List AO),(∀i∈l,0<=i/\i<p.f.length)->p.H<+:hp->hp[v.n2]? =some (.dictI (dl S.d))->
  (∀v hp,p.H<+:hp->P .next (fS p (l.foldl (dG p.f p.g p.blo p.bhi) S).bi (l.foldl (dG p.f p.g p.blo p.bhi) S).bj (l.foldl (dG p.f p.g p.blo p.bhi) S).bs v hp))->Ir D p l S v hp P:=by
 induction l with
 |nil=>exactλS v hp _ ph _ h=>⟨trivial,h v hp ph⟩
 |cons i l ih=>
  intro S v hp hl ph hd h
  have hi:=hl i (.head _)
  have go:∀(S':FS) (v:zG) (hp:List AO),dG p.f p.g p.blo p.bhi S i=S'->p.H<+:hp->hp[v.n2]? =some (.dictI (dl S'.d))->Ir D p l S' v hp P:=λS' v hp e ph hd'=>ih S' v hp (λj hj=>hl j (.tail _ hj)) ph hd' (e▸h)
  clear h ih hl
  have at3:∀{k:Nat} {o b d:AO},p.H[k]? =some o->(hp++[b]++[d])[k]? =some o:=λe=>aV (bt (bt ph)) e
  refine⟨trivial,aa rfl,Jt hd ⟨aa rfl,aa rfl,nU wK (at3 hb) (cL hi.1 (aH hf (by decide)) _ (getD_at hi.1 hi.2) (kQ _ (at3 hb) ?_))⟩⟩
  rw[Dn]
  have skip:∀(x:Option AV),dG p.f p.g p.blo p.bhi S i={S with d:=none}->Ir D p l S ⟨(hp++[AO.bound "dict.get" (.ref v.n2)]).length,some (.int i),some (.ref hp.length),some (.ref (hp++[AO.bound "dict.get" (.ref v.n2)]).length),x,v.e⟩ (hp++[AO.bound "dict.get" (.ref v.n2)]++[.dictI []]) P:=λx e=>go {S with d:=none} _ _ e (bt (bt ph)) aX
  cases e:gG 0 p.g (p.f.getD i.toNat 0) with
  |none=>exact fC [] (show bq _ _ _ from at3 hn) ⟨at3 hn,aa rfl,skip _ (Hz e)⟩
  |some j=>
   have hj:=hq j _ e
   refine fC [.int j] (show bq _ _ _ from at3 hj) ⟨at3 hj,aa rfl,λh1=>?_,λh1=>⟨λh2=>?_,λh2=>jK (D:=D) (aZ aX) (Kd _ (aZ (aZ hd)) ?_)⟩⟩
   ·exact⟨at3 hj,aa rfl,skip _ (xl e (.inl (aj h1)))⟩
   ·exact⟨aa rfl,skip _ (xl e (.inr (aj h2)))⟩
   rw[FH]
   refine⟨aa rfl,yD [] aX (Nat.zero_le _) ?_⟩
   have z:=HT (S:=S) e (a9 h1) (a9 h2)
   have c2:=aV (sT (b:=.dictI []) (x:=.dictI (dl (some (j,fN S.d j+1)))) (bt (b:=AO.bound "dict.get" (.ref v.n2)) ph)) hj
   have go2:=λS' e (hd:S'.d=some (j,fN S.d j+1))=>go S' ⟨(hp++[AO.bound "dict.get" (.ref v.n2)]).length,some (.int i),some (.ref hp.length),some (.ref (hp++[AO.bound "dict.get" (.ref v.n2)]).length),some (.int j),some (.int (fN S.d j+1))⟩ _ e (sT (bt ph)) (by rw[hd];exact Fh (b:=.dictI []))
   exact⟨λh3=>⟨aa rfl,rfl,c2,aa rfl,go2 _ (z.trans (if_pos (aj h3))) rfl⟩,λh3=>⟨c2,aa rfl,go2 {S with d:=some (j,fN S.d j+1)} (z.trans (if_neg (a9 h3))) rfl⟩⟩
end
noncomputable def xp (f g:List Nat) (alo blo:Int):Nat->Int->Int->Int->Int×Int×Int
 |0,i,j,k=>(i,j,k)
 |n+1,i,j,k=>if alo<i then if blo<j then if f.getD (i-1).toNat 0=g.getD (j-1).toNat 0 then xp f g alo blo n (i-1) (j-1) (k+1) else(i,j,k) else(i,j,k) else(i,j,k)
noncomputable def w7 (f g:List Nat) (ahi bhi:Int):Nat->Int->Int->Int->Int
 |0,_,_,k=>k
 |n+1,i,j,k=>if i+k<ahi then if j+k<bhi then if f.getD (i+k).toNat 0=g.getD (j+k).toNat 0 then w7 f g ahi bhi n i j (k+1) else k else k else k
noncomputable abbrev xh (D:Nat) (m:Nat):Nat->WB:=iQ (wW D iz (jf.get m).testOf).t (bB D iz (jf.get m).bodyOf)
structure zB (p:vh) (hp:List AO):Prop where
 c:hp[p.nc]? =some (.bound "set.__contains__" (.ref p.nj))
 j:hp[p.nj]? =some .set0
 f:p.f.length<100
 g:p.g.length<100
theorem uV {a:Int} {n:Nat} (h:(a+1).toNat<=n+1):a.toNat<=n:=by
 rcases Int.lt_or_le a 0 with h0|h0
 ·rw[Int.toNat_of_nonpos (Int.le_of_lt h0)];exact Nat.zero_le _
 ·rw[Int.toNat_add h0 (by decide)] at h;exact Nat.le_of_succ_le_succ h
theorem KU {a b:Int} (h:a<b) (e:(b-a).toNat<=0):False:=Int.not_le.mpr (Int.sub_pos_of_lt h) (Int.toNat_eq_zero.mp (Nat.le_zero.mp e))
theorem CK {a b:Nat} (h:decide (([a]:List Nat)=[b])=false):¬a=b:=λq=>absurd (q▸rfl) (a9 h)
section
variable {D:Nat} {p:vh} {P:AF->St->Prop} {v:zG} {hp:List AO}
theorem IP (o:zB p hp) (ha:0<=p.alo) (hb:0<=p.blo) (n:Nat):∀(bi bj bs:Int),bi<=p.f.length->bj<=p.g.length->(bi-p.alo).toNat<=n->
  (∀S,S=xp p.f p.g p.alo p.blo n bi bj bs->P .next (fS p S.1 S.2.1 S.2.2 v hp))->xh D 8 (n+1) (fS p bi bj bs v hp) P:=by
 induction n with
 |zero=>exactλbi bj bs h1 h2 h3 h=>⟨λ_=>⟨λh=>(nomatch h),λ_=>h _ rfl⟩,λh4=>(KU (aj h4) h3).elim⟩
 |succ n ih=>
  intro bi bj bs h1 h2 h3 h
  refine⟨λh4=>⟨λh=>(nomatch h),λ_=>h _ (if_neg (a9 h4)).symm⟩,λh4=>?_⟩
  have g4:p.alo<bi:=aj h4
  refine⟨λh5=>⟨λh=>(nomatch h),λ_=>h _ ((if_pos g4).trans (if_neg (a9 h5))).symm⟩,λh5=>?_⟩
  have g5:p.blo<bj:=aj h5
  have i0:=Int.le_sub_one_of_lt (Int.lt_of_le_of_lt ha g4)
  have j0:=Int.le_sub_one_of_lt (Int.lt_of_le_of_lt hb g5)
  have i1:=Int.sub_one_lt_of_le h1
  have j1:=Int.sub_one_lt_of_le h2
  refine cL j0 (aH o.g (by decide)) _ (getD_at j0 j1) (jK (D:=D) o.c (jU o.j ⟨λh=>(nomatch h),λ_=>?_⟩))
  refine cL i0 (aH o.f (by decide)) _ (getD_at i0 i1) (cL j0 (aH o.g (by decide)) _ (getD_at j0 j1) (zf ⟨λh6=>⟨λh=>(nomatch h),λ_=>h _ ((if_pos g4).trans ((if_pos g5).trans (if_neg (CK h6)))).symm⟩,λh6=>?_⟩))
  exact⟨λ_=>⟨aa rfl,rfl,ih (bi-1) (bj-1) (bs+1) (Int.le_of_lt i1) (Int.le_of_lt j1) (uV (by rw[Int.sub_sub,Int.add_comm 1,<-Int.sub_sub,Int.sub_add_cancel];exact h3)) λS e=>h S (e.trans ((if_pos g4).trans ((if_pos g5).trans (if_pos (List.head_eq_of_cons_eq (aj h6))))).symm)⟩,λh=>(nomatch h)⟩
theorem IM (o:zB p hp) (ha:p.ahi<=p.f.length) (hb:p.bhi<=p.g.length) {bi bj:Int} (n:Nat):∀(bs:Int),0<=bi+bs->0<=bj+bs->(p.ahi-(bi+bs)).toNat<=n->
  (∀k,k=w7 p.f p.g p.ahi p.bhi n bi bj bs->P .next (fS p bi bj k v hp))->xh D 9 (n+1) (fS p bi bj bs v hp) P:=by
 induction n with
 |zero=>exactλbs h1 h2 h3 h=>⟨λ_=>⟨λh=>(nomatch h),λ_=>h _ rfl⟩,λh4=>(KU (aj h4) h3).elim⟩
 |succ n ih=>
  intro bs i0 j0 h3 h
  refine⟨λh4=>⟨λh=>(nomatch h),λ_=>h _ (if_neg (a9 h4)).symm⟩,λh4=>?_⟩
  have g4:bi+bs<p.ahi:=aj h4
  refine⟨λh5=>⟨λh=>(nomatch h),λ_=>h _ ((if_pos g4).trans (if_neg (a9 h5))).symm⟩,λh5=>?_⟩
  have g5:bj+bs<p.bhi:=aj h5
  have i1:=Int.lt_of_lt_of_le g4 ha
  have j1:=Int.lt_of_lt_of_le g5 hb
  refine cL j0 (aH o.g (by decide)) _ (getD_at j0 j1) (jK (D:=D) o.c (jU o.j ⟨λh=>(nomatch h),λ_=>?_⟩))
  refine cL i0 (aH o.f (by decide)) _ (getD_at i0 i1) (cL j0 (aH o.g (by decide)) _ (getD_at j0 j1) (zf ⟨λh6=>⟨λh=>(nomatch h),λ_=>h _ ((if_pos g4).trans ((if_pos g5).trans (if_neg (CK h6)))).symm⟩,λh6=>?_⟩))
  exact⟨λ_=>⟨aa rfl,ih (bs+1) (by rw[<-Int.add_assoc];exact Int.le_add_one i0) (by rw[<-Int.add_assoc];exact Int.le_add_one j0) (uV (by rw[<-Int.add_assoc,<-Int.sub_sub,Int.sub_add_cancel];exact h3)) λS e=>h S (e.trans ((if_pos g4).trans ((if_pos g5).trans (if_pos (List.head_eq_of_cons_eq (aj h6))))).symm)⟩,λh=>(nomatch h)⟩
theorem JV (o:zB p hp) (hb:0<=p.blo) {bi bj bs:Int} (h2:bj<=p.g.length) (h:P .next (fS p bi bj bs v hp)):xh D 10 1 (fS p bi bj bs v hp) P:=by
 refine⟨λh4=>⟨λh=>(nomatch h),λ_=>h⟩,λh4=>⟨λh5=>⟨λh=>(nomatch h),λ_=>h⟩,λh5=>?_⟩⟩
 have j0:=Int.le_sub_one_of_lt (Int.lt_of_le_of_lt hb (aj h5))
 exact cL j0 (aH o.g (by decide)) _ (getD_at j0 (Int.sub_one_lt_of_le h2)) (jK (D:=D) o.c (jU o.j ⟨λ_=>⟨λh=>(nomatch h),λ_=>h⟩,λh=>(nomatch h)⟩))
theorem JP (o:zB p hp) (hb:p.bhi<=p.g.length) {bi bj bs:Int} (h2:0<=bj+bs) (h:P .next (fS p bi bj bs v hp)):xh D 11 1 (fS p bi bj bs v hp) P:=by
 refine⟨λh4=>⟨λh=>(nomatch h),λ_=>h⟩,λh4=>⟨λh5=>⟨λh=>(nomatch h),λ_=>h⟩,λh5=>?_⟩⟩
 exact cL h2 (aH o.g (by decide)) _ (getD_at h2 (Int.lt_of_lt_of_le (aj h5) hb)) (jK (D:=D) o.c (jU o.j ⟨λ_=>⟨λh=>(nomatch h),λ_=>h⟩,λh=>(nomatch h)⟩))
end
structure Mt where
 nd:Nat
 ni:Nat
 nb:Nat
 f:List Nat
 ta:Option Tok
 g:List Nat
 tb:Option Tok
 mb:AV
 fb:AV
noncomputable def Mt.kv (M:Mt):List (Str×AV):=zy M.nb M.g.length (.str M.f M.ta) (.str M.g M.tb) M.mb M.fb
noncomputable abbrev Mt.nj (M:Mt):Nat:=M.nb+1+M.g.length
structure eD (H:List AO) (M:Mt):Prop where
 ne:M.ni≠M.nd
 inst:H[M.ni]? =some (.inst 299 M.nd)
 dict:H[M.nd]? =some (.idict M.kv)
 ob:H[M.nb]? =some (.dictS (gi (M.nb+1) 0 M.g))
 ol:∀i o,(dV 0 M.g)[i]? =some o->H[M.nb+1+i]? =some o
 oj:H[M.nj]? =some .set0
 wf:∀o∈H,o.wf H.length
theorem Mt.a (M:Mt):M.kv.lookup ("a":Str)=some (.str M.f M.ta):=by kernel_rfl
theorem Mt.b (M:Mt):M.kv.lookup ("b":Str)=some (.str M.g M.tb):=by kernel_rfl
theorem Mt.b2j (M:Mt):M.kv.lookup ("b2j":Str)=some (.ref M.nb):=by kernel_rfl
theorem Mt.jnk (M:Mt):M.kv.lookup ("bjunk":Str)=some (.ref M.nj):=by kernel_rfl
noncomputable def jL (f g:List Nat) (alo ahi blo bhi:Int):FS:=((List.range (ahi-alo).toNat).map λi=>alo+(i:Nat)).foldl (dG f g blo bhi) ⟨alo,blo,0,none⟩
noncomputable def C5 (f g:List Nat) (alo ahi blo bhi:Int):Int×Int×Int:=
 (λ(S:FS)=>(λ(T:Int×Int×Int)=>(T.1,T.2.1,w7 f g ahi bhi (ahi-(T.1+T.2.2)).toNat T.1 T.2.1 T.2.2)) (xp f g alo blo (S.bi-alo).toNat S.bi S.bj S.bs)) (jL f g alo ahi blo bhi)
structure Bl (f g:List Nat) (S:FS):Prop where
 i:S.bi<=f.length
 j:S.bj<=g.length
 ik:0<=S.bi+S.bs
 jk:0<=S.bj+S.bs
 d:∀p,S.d=some p->0<=p.2
theorem EW {d:Option (Int×Int)} (h:∀p,d=some p->0<=p.2) (j:Int):0<=fN d j:=by
 cases d with
 |none=>exact Int.le_refl _
 |some p=>
  show 0<=if p.1=j-1 then p.2 else 0
  by_cases e:p.1=j-1
  ·rw[if_pos e];exact h p rfl
  ·rw[if_neg e];exact Int.le_refl _
theorem Nf (c:Nat) (j:Int) (g:List Nat):∀n,gG n g c=some j->(n:Int)<=j:=by
 induction g with
 |nil=>exactλn h=>nomatch h
 |cons x g ih=>
  intro n h
  by_cases e:x=c
  ·exact Int.le_of_eq (Option.some.inj ((if_pos e).symm.trans h))
  ·exact Int.le_trans (Int.ofNat_le.mpr (aK n)) (ih _ ((if_neg e).symm.trans h))
theorem Fu {i j k n m:Int} (hk:0<=k) (hi:0<=i) (h1:i<n) (hj:j<=m) (h0:0<=j):i-(k+1)+1<=n/\j-(k+1)+1<=m/\0<=i-(k+1)+1+(k+1)/\0<=j-(k+1)+1+(k+1):=by
 have e:∀z:Int,z-(k+1)+1=z-k:=λz=>by rw[<-Int.sub_sub,Int.sub_add_cancel]
 have e2:∀z:Int,z-k+(k+1)=z+1:=λz=>by rw[<-Int.add_assoc,Int.sub_add_cancel]
 rw[e,e,e2,e2]
 exact⟨Int.le_trans (Int.sub_le_self _ hk) (Int.le_of_lt h1),Int.le_trans (Int.sub_le_self _ hk) hj,Int.le_add_one hi,Int.le_add_one h0⟩
theorem Gu {f g:List Nat} {blo bhi:Int} (hb:0<=blo) (hg:bhi<=g.length) (l:List Int):∀(S:FS),(∀i∈l,0<=i/\i<f.length)->Bl f g S->Bl f g (l.foldl (dG f g blo bhi) S):=by
 induction l with
 |nil=>exactλS _ h=>h
 |cons i l ih=>
  intro S hl h
  refine ih _ (λj hj=>hl j (.tail _ hj)) ?_
  have hi:=hl i (.head _)
  have n0:Bl f g {S with d:=none}:=⟨h.i,h.j,h.ik,h.jk,λ_ h=>nomatch h⟩
  cases e:gG 0 g (f.getD i.toNat 0) with
  |none=>rw[Hz e];exact n0
  |some j=>
   by_cases h1:j<blo
   ·rw[xl e (.inl h1)];exact n0
   by_cases h2:bhi<=j
   ·rw[xl e (.inr h2)];exact n0
   rw[HT e h1 h2]
   have hk:=EW h.d j
   have d1:∀p,some (j,fN S.d j+1)=some p->0<=p.2:=λp hp=>by cases hp;exact Int.le_add_one hk
   by_cases h3:fN S.d j+1>S.bs
   ·rw[if_pos h3]
    obtain⟨a,b,c,d⟩:=Fu hk hi.1 hi.2 (Int.le_trans (Int.le_of_lt (Int.not_le.mp h2)) hg) (Int.le_trans hb (Int.not_lt.mp h1))
    exact⟨a,b,c,d,d1⟩
   ·rw[if_neg h3];exact⟨h.i,h.j,h.ik,h.jk,d1⟩
theorem CR (a k:Int):a-1+(k+1)=a+k:=by rw[Int.add_comm k,<-Int.add_assoc,Int.sub_add_cancel]
theorem bU {α:Type} (p:α->Prop) {c:Prop} [Decidable c] {a b:α} (h1:p a) (h2:p b):p (if c then a else b):=by
 by_cases h:c
 ·rw[if_pos h];exact h1
 ·rw[if_neg h];exact h2
noncomputable def Ik (n m i j:Int) (z:Int×Int×Int):Prop:=z.1+z.2.2=i/\z.2.1+z.2.2=j/\z.1<=n/\z.2.1<=m
theorem Ah {f g:List Nat} {alo blo:Int} (n:Nat):∀(i j k:Int),i<=f.length->j<=g.length->Ik f.length g.length (i+k) (j+k) (xp f g alo blo n i j k):=by
 induction n with
 |zero=>exactλi j k h1 h2=>⟨rfl,rfl,h1,h2⟩
 |succ n ih=>
  intro i j k h1 h2
  have h0:Ik f.length g.length (i+k) (j+k) (i,j,k):=⟨rfl,rfl,h1,h2⟩
  have h3:=ih (i-1) (j-1) (k+1) (Int.le_trans (Int.sub_le_self _ (by decide)) h1) (Int.le_trans (Int.sub_le_self _ (by decide)) h2)
  rw[CR,CR] at h3
  exact bU _ (bU _ (bU _ h3 h0) h0) h0
theorem E0 {f g:List Nat} {ahi bhi:Int} (n:Nat):∀(i j k:Int),k<=w7 f g ahi bhi n i j k:=by
 induction n with
 |zero=>exactλi j k=>Int.le_refl _
 |succ n ih=>exactλi j k=>bU (k<= ·) (bU (k<= ·) (bU (k<= ·) (Int.le_trans (Int.le_add_one (Int.le_refl k)) (ih ..)) (Int.le_refl k)) (Int.le_refl k)) (Int.le_refl k)
theorem Hm:iX K0 253 iz ["self","alo","ahi","blo","bhi"] [some 0,some 1,some 2,some 3,some 4,none,none,none,none,none,none,none,none,none,none,none,none,none,none] []=true:=by kernel_rfl
theorem zp {lo hi n:Int} (h0:0<=lo) (h1:hi<=n):∀i∈(List.range (hi-lo).toNat).map (λk=>lo+(k:Nat)),0<=i/\i<n:=λi hi'=>by
 obtain⟨k,hk,rfl⟩:=aG.mp hi'
 exact⟨Int.add_nonneg h0 (aU k),Int.lt_of_lt_of_le (by rw[Int.add_comm];exact Int.add_lt_of_lt_sub_right (Int.lt_toNat.mp (List.mem_range.mp hk))) h1⟩
theorem EX {st:St} {v:AV} {P:PV} {lc:List (Option AV)} {hp:List AO} (hv:v.wf st.hp.length) (hw:∀o∈st.hp,o.wf st.hp.length) (p:st.hp<+:hp) (h:P v st):dj st P v ⟨lc,hp,st.tk⟩:=
 .inr ⟨st.hp.length,st.tk,ak _,hv,by rw[<-List.prefix_iff_eq_take.mp p];exact hw,ak _,by rw[<-List.prefix_iff_eq_take.mp p];exact h⟩
theorem my {a:Int} {n:Nat} (h0:0<=a) (h1:a<=n) (h:n<100):a.natAbs<1000000:=by
 obtain⟨k,rfl⟩:=Int.eq_ofNat_of_zero_le h0
 exact aH (aJ (Int.ofNat_le.mp h1) h) (by decide)
theorem GA {H:List AO} {g:List Nat} {nb:Nat} (ol:∀i o,(dV 0 g)[i]? =some o->H[nb+1+i]? =some o) (j:Int) (c:Nat) (h:gG 0 g c=some j):H[nb+1+j.toNat]? =some (.list [.int j]):=by
 obtain⟨k,rfl,e⟩:=EK c j g 0 h
 rw[Nat.zero_add] at e⊢
 exact ol k _ e
theorem Jm {D:Nat} {lc:List (Option AV)} {H:List AO} {tk:Nat} {P:PV} {M:Mt} (m:eD H M) {alo ahi blo bhi:Int} (hf:M.f.length<100) (hg:M.g.length<100) (h1:0<=alo) (h2:alo<=M.f.length) (h0:0<=ahi) (h3:ahi<=M.f.length) (h4:0<=blo) (h5:blo<=M.g.length) (h6:bhi<=M.g.length)
  (h:P (pq (C5 M.f M.g alo ahi blo bhi).1 (C5 M.f M.g alo ahi blo bhi).2.1 (C5 M.f M.g alo ahi blo bhi).2.2) ⟨lc,H,tk⟩):bw (D+3) 253 [.ref M.ni,.int alo,.int ahi,.int blo,.int bhi] [] ⟨lc,H,tk⟩ P:=by
 refine iD (defAt J3 Bc) Hm (fQ (ns1:=["self","alo","ahi","blo","bhi"]) (ns2:=[]) (davs:=[]) (dvs:=[]) (T:=246) (o:=fO [.int 0 681,vN,.int 0 682,vN]) rfl (by kernel_rfl) (by kernel_rfl) rfl (consE λ_=>consE λ_=>consE λ_=>consE λ_=>consE λ_=>nilE (by kernel_rfl)) (λG ρ=>.nil)) rfl rfl rfl ?_
 have eH:H++(bP ([.ref M.ni,.int alo,.int ahi,.int blo,.int bhi]++[]) ([]:List (Option Nat))).map AO.cell=H:=List.append_nil H
 refine Eq.mpr (congrArg (λz=>bB (D+2) iz jf ⟨_,z,tk⟩ (cH (dj ⟨lc,H,tk⟩ P))) eH) ?_
 refine⟨⟨_,_,_,_,rfl⟩,bK fm M.a m.inst m.dict rfl (bK eO M.b m.inst m.dict rfl (bK sO M.b2j m.inst m.dict rfl (bK ux M.jnk m.inst m.dict rfl (Jh m.oj ?_))))⟩
 refine⟨aa rfl,rfl,aa rfl,aa rfl,aa rfl,aa rfl,.inr ⟨rfl,λh=>(nomatch h),λ_=>.inr ⟨rfl,λh=>(nomatch h),λ_=>?_⟩⟩⟩
 refine⟨aa rfl,rfl,aa rfl,aa rfl,aa rfl,zc (rq (my h1 h2 hf) (my h0 h3 hf) ?_)⟩
 let p:vh:=⟨M.f,M.g,M.ta,M.tb,alo,ahi,blo,bhi,M.ni,M.nb,H.length,(H++[AO.bound "set.__contains__" (.ref M.nj)]++[AO.dictI []]).length,M.nj,M.nb+1,H++[AO.bound "set.__contains__" (.ref M.nj)]++[AO.dictI []]++[AO.list []],tk⟩
 have pH:H<+:p.H:=bt (bt (bt aw))
 have I:=Gu (f:=M.f) (g:=M.g) h4 h6 ((List.range (ahi-alo).toNat).map λi=>alo+(i:Nat)) ⟨alo,blo,0,none⟩ (zp h1 h3) ⟨h2,h5,(Int.add_zero alo).symm▸h1,(Int.add_zero blo).symm▸h4,λ_ h=>nomatch h⟩
 have z:=Dm (D:=D+2) (p:=p) (P:=BK (cH (dj ⟨lc,H,tk⟩ P)) (bB (D+2) iz (match jf with| .cons _ (.cons _ (.cons _ (.cons _ (.cons _ (.cons _ (.cons _ (.cons _ r)))))))=>r|_=>.nil))) (aV pH m.ob) (λj c e=>aV pH (GA m.ol j c e)) aX hf ((List.range (ahi-alo).toNat).map λi=>alo+(i:Nat)) ⟨alo,blo,0,none⟩ ⟨(H++[AO.bound "set.__contains__" (.ref M.nj)]).length,none,none,none,none,none⟩ p.H (zp h1 h3) aw (aZ aX) λv hp ph=>?_
 ·change bD _ _ _ (List.map AV.int (List.map _ _)) _ _ at z
  rw[List.map_map] at z;exact z
 have o:zB p hp:=⟨aV ph (aZ (aZ aX)),aV (pH.trans ph) m.oj,hf,hg⟩
 refine⟨_,IP o h1 h4 ((jL M.f M.g alo ahi blo bhi).bi-alo).toNat _ _ _ I.i I.j (ak _) λT hT=>?_⟩
 have q:=Ah (f:=M.f) (g:=M.g) (alo:=alo) (blo:=blo) ((jL M.f M.g alo ahi blo bhi).bi-alo).toNat (jL M.f M.g alo ahi blo bhi).bi (jL M.f M.g alo ahi blo bhi).bj (jL M.f M.g alo ahi blo bhi).bs I.i I.j
 replace q:Ik M.f.length M.g.length _ _ T:=hT▸q
 refine⟨_,IM o h3 h6 (ahi-(T.1+T.2.2)).toNat _ (q.1▸I.ik) (q.2.1▸I.jk) (ak _) λk hk=>?_⟩
 refine⟨1,JV o h4 q.2.2.2 ⟨1,JP o h6 ?_ (Nn (EX (st:=⟨lc,H,tk⟩) ?_ m.wf (pH.trans ph) ?_))⟩⟩
 ·exact Int.le_trans (q.2.1▸I.jk) (Int.add_le_add_left (hk▸E0 ..) _)
 ·trivial
 ·subst hk hT
  exact h
noncomputable def Fq:Sx:=⟨["cls","iterable","result"],[],[("tuple",.type "tuple"),("len",.builtin "len"),("TypeError",.type "TypeError")],0⟩
noncomputable def Fp:PS:=(.cons (.doc (dc [8,5,0]))
 (.cons (.asg (.cons (.loc 2 (Ol 100 8 14)) .nil) (.meth (.glb 0 (Ol 100 17 22)) "__new__" (Ol 100 17 30) (.cons (.loc 0 (Ol 100 31 34)) (.cons (.loc 1 (Ol 100 36 44)) .nil)) .nil (Ol 100 17 45)) (Ol 100 8 45))
 (.cons (.ite (.cmp (.call (.glb 1 (Ol 101 11 14)) (.cons (.loc 2 (Ol 101 15 21)) .nil) .nil (Ol 101 11 22)) .NotEq (.cst (.int 3) 0 (Ol 101 26 27)) (Ol 101 11 27)) (.cons (.dead (dc [8,5,2,0]))
 .nil) .nil (Om 101 8 102 71))
 (.cons (.ret (.loc 2 (Ol 103 15 21)) (Ol 103 8 21))
 .nil))))
theorem GN:Fn 146 Fq Fp ["cls","iterable"] [some 0,some 1,none] []:=⟨by kernel_rfl,by kernel_rfl,by kernel_rfl,rfl,consE λ_=>consE λ_=>nilE (by kernel_rfl)⟩
theorem Fx {D:Nat} {st:St} {i j k:Int} {P:PV} (h:P (pq i j k) st):bw (D+1) 146 [.val (.ref 192),.tup (.type "tuple") [.int i,.int j,.int k]] [] st P:=
 GN.call0 rfl ⟨⟨_,_,_,_,rfl⟩,Hu (u6 (aa rfl) ⟨aa rfl,J4 (aa rfl) ⟨λh=>(nomatch h),λ_=>.inl h⟩⟩)⟩
noncomputable def PS.tl (b:PS):PS:=@PS.casesOn (λ_=>PS) b (λ_=>.nil) (λ_ _ _=>.nil) (λ_ _ _ _=>.nil) (λ_ _ _=>.nil) (λ_ _ _ _=>.nil) (λ_ _ _ _ _ _ _ _ _=>.nil) .nil (λ_ r=>r)
theorem AV.wf_le {n m:Nat} (h:n<=m) {v:AV} (w:v.wf n):v.wf m:=by
 cases v with
 |ref _=>exact aP w h
 |_=>trivial
theorem AO.wf_le {n m:Nat} (h:n<=m) {v:AO} (w:v.wf n):v.wf m:=by
 cases v with
 |list=>exactλv hv=>AV.wf_le h (w v hv)
 |dictS=>exactλv hv=>AV.wf_le h (w v hv)
 |dictI=>exactλv hv=>AV.wf_le h (w v hv)
 |idict=>exactλv hv=>AV.wf_le h (w v hv)
 |bound=>exact AV.wf_le (v:=_) h w
 |cell=>exactλu hu=>AV.wf_le h (w u hu)
 |inst=>exact aP w h
 |liter=>exact aP w h
 |clo=>exact aP w h
 |_=>trivial
noncomputable abbrev Wf (hp:List AO):Prop:=∀o∈hp,o.wf hp.length
theorem Wf.add {hp:List AO} {o:AO} (h:Wf hp) (w:o.wf (hp.length+1)):Wf (hp++[o]):=λx hx=>by
 rw[aI]
 exact(bo.mp hx).elim (λhx=>AO.wf_le (aK _) (h x hx)) λhx=>aN.mp hx▸w
theorem Wf.set {hp:List AO} {o:AO} {n:Nat} (h:Wf hp) (w:o.wf hp.length):Wf (hp.set n o):=λx hx=>by
 rw[List.length_set]
 exact(List.mem_or_eq_of_mem_set hx).elim (h x) λe=>e▸w
theorem gD {H hp:List AO} {o:AO} {n:Nat} (p:H<+:hp) (h:H.length<=n):H<+:hp.set n o:=by
 obtain⟨t,rfl⟩:=p
 rw[List.set_append_right _ _ h];exact List.prefix_append ..
theorem Nh {H hp:List AO} (p:H<+:hp):H.length<=hp.length:=p.length_le
theorem eD.pre {H hp:List AO} {M:Mt} (m:eD H M) (p:H<+:hp) (w:Wf hp):eD hp M:=
 ⟨m.ne,aV p m.inst,aV p m.dict,aV p m.ob,λi o e=>aV p (m.ol i o e),aV p m.oj,w⟩
noncomputable def dU:Sx:=⟨["self","la","lb","queue","matching_blocks","alo","ahi","blo","bhi","i","j","k","x","i1","j1","k1","non_adjacent","i2","j2","k2"],[],[("len",.builtin "len"),("list",.type "list"),("map",.type "map"),("Match",.ref 192)],0⟩
noncomputable def Cj:PS:=(.ite (.boo .And (.cons (.cmp (.loc 5 (Ol 427 19 22)) .Lt (.loc 9 (Ol 427 25 26)) (Ol 427 19 26)) (.cons (.cmp (.loc 7 (Ol 427 31 34)) .Lt (.loc 10 (Ol 427 37 38)) (Ol 427 31 38)) .nil)) (Ol 427 19 38)) (.cons (.expr (.meth (.loc 3 (Ol 428 20 25)) "append" (Ol 428 20 32) (.cons (.tup (.cons (.loc 5 (Ol 428 34 37)) (.cons (.loc 9 (Ol 428 39 40)) (.cons (.loc 7 (Ol 428 42 45)) (.cons (.loc 10 (Ol 428 47 48)) .nil)))) 0 (Ol 428 33 49)) .nil) .nil (Ol 428 20 50)) (Ol 428 20 50)) .nil) .nil (Om 427 16 428 50))
noncomputable def Cr:PS:=(.ite (.boo .And (.cons (.cmp (.bin (.loc 9 (Ol 429 19 20)) .Add (.loc 11 (Ol 429 23 24)) (Ol 429 19 24)) .Lt (.loc 6 (Ol 429 27 30)) (Ol 429 19 30)) (.cons (.cmp (.bin (.loc 10 (Ol 429 35 36)) .Add (.loc 11 (Ol 429 39 40)) (Ol 429 35 40)) .Lt (.loc 8 (Ol 429 43 46)) (Ol 429 35 46)) .nil)) (Ol 429 19 46)) (.cons (.expr (.meth (.loc 3 (Ol 430 20 25)) "append" (Ol 430 20 32) (.cons (.tup (.cons (.bin (.loc 9 (Ol 430 34 35)) .Add (.loc 11 (Ol 430 38 39)) (Ol 430 34 39)) (.cons (.loc 6 (Ol 430 41 44)) (.cons (.bin (.loc 10 (Ol 430 46 47)) .Add (.loc 11 (Ol 430 50 51)) (Ol 430 46 51)) (.cons (.loc 8 (Ol 430 53 56)) .nil)))) 0 (Ol 430 33 57)) .nil) .nil (Ol 430 20 58)) (Ol 430 20 58)) .nil) .nil (Om 429 16 430 58))
noncomputable def Jw:PS:=(.cons Cr .nil)
noncomputable def CQ:PE:=(.loc 3 (Ol 422 14 19))
noncomputable def Cb:PS:=(.cons (.asg (.cons (.tup (.cons (.loc 5 (Ol 423 12 15)) (.cons (.loc 6 (Ol 423 17 20)) (.cons (.loc 7 (Ol 423 22 25)) (.cons (.loc 8 (Ol 423 27 30)) .nil)))) 0 (Ol 423 12 30)) .nil) (.meth (.loc 3 (Ol 423 33 38)) "pop" (Ol 423 33 42) .nil .nil (Ol 423 33 44)) (Ol 423 12 44)) (.cons (.asg (.cons (.tup (.cons (.loc 9 (Ol 424 12 13)) (.cons (.loc 10 (Ol 424 15 16)) (.cons (.loc 11 (Ol 424 18 19)) .nil))) 0 (Ol 424 12 19)) (.cons (.loc 12 (Ol 424 22 23)) .nil)) (.meth (.loc 0 (Ol 424 26 30)) "find_longest_match" (Ol 424 26 49) (.cons (.loc 5 (Ol 424 50 53)) (.cons (.loc 6 (Ol 424 55 58)) (.cons (.loc 7 (Ol 424 60 63)) (.cons (.loc 8 (Ol 424 65 68)) .nil)))) .nil (Ol 424 26 69)) (Ol 424 12 69)) (.cons (.ite (.loc 11 (Ol 425 15 16)) (.cons (.expr (.meth (.loc 4 (Ol 426 16 31)) "append" (Ol 426 16 38) (.cons (.loc 12 (Ol 426 39 40)) .nil) .nil (Ol 426 16 41)) (Ol 426 16 41)) (.cons Cj Jw)) .nil (Om 425 12 430 58)) .nil)))
noncomputable def I0:PS:=(.ite (.loc 15 (Ol 438 19 21)) (.cons (.expr (.meth (.loc 16 (Ol 439 20 32)) "append" (Ol 439 20 39) (.cons (.tup (.cons (.loc 13 (Ol 439 41 43)) (.cons (.loc 14 (Ol 439 45 47)) (.cons (.loc 15 (Ol 439 49 51)) .nil))) 0 (Ol 439 40 52)) .nil) .nil (Ol 439 20 53)) (Ol 439 20 53)) .nil) .nil (Om 438 16 439 53))
noncomputable def Jz:PS:=(.cons (.swp [(13,(Ol 440 16 18)),(14,(Ol 440 20 22)),(15,(Ol 440 24 26))] 0 (Ol 440 16 26) (.cons (.loc 17 (Ol 440 30 32)) (.cons (.loc 18 (Ol 440 34 36)) (.cons (.loc 19 (Ol 440 38 40)) .nil))) 0 (Ol 440 29 41) (Ol 440 16 41)) .nil)
noncomputable def B2:PE:=(.tup (.cons (.loc 17 (Ol 434 12 14)) (.cons (.loc 18 (Ol 434 16 18)) (.cons (.loc 19 (Ol 434 20 22)) .nil))) 0 (Ol 434 12 22))
noncomputable def CP:PS:=(.cons (.ite (.boo .And (.cons (.cmp (.bin (.loc 13 (Ol 435 15 17)) .Add (.loc 15 (Ol 435 20 22)) (Ol 435 15 22)) .Eq (.loc 17 (Ol 435 26 28)) (Ol 435 15 28)) (.cons (.cmp (.bin (.loc 14 (Ol 435 33 35)) .Add (.loc 15 (Ol 435 38 40)) (Ol 435 33 40)) .Eq (.loc 18 (Ol 435 44 46)) (Ol 435 33 46)) .nil)) (Ol 435 15 46)) (.cons (.aug (.loc 15 (Ol 436 16 18)) .Add (.loc 19 (Ol 436 22 24)) (Ol 436 16 24)) .nil) (.cons I0 Jz) (Om 435 12 440 41)) .nil)
noncomputable def Ka:PS:=(.ite (.loc 15 (Ol 441 11 13)) (.cons (.expr (.meth (.loc 16 (Ol 442 12 24)) "append" (Ol 442 12 31) (.cons (.tup (.cons (.loc 13 (Ol 442 33 35)) (.cons (.loc 14 (Ol 442 37 39)) (.cons (.loc 15 (Ol 442 41 43)) .nil))) 0 (Ol 442 32 44)) .nil) .nil (Ol 442 12 45)) (Ol 442 12 45)) .nil) .nil (Om 441 8 442 45))
noncomputable def CS:PS:=(.cons (.expr (.meth (.loc 16 (Ol 443 8 20)) "append" (Ol 443 8 27) (.cons (.tup (.cons (.loc 1 (Ol 443 29 31)) (.cons (.loc 2 (Ol 443 33 35)) (.cons (.cst (.int 0) 0 (Ol 443 37 38)) .nil))) 0 (Ol 443 28 39)) .nil) .nil (Ol 443 8 40)) (Ol 443 8 40)) (.cons (.asg (.cons (.att (.loc 0 (Ol 444 8 12)) "matching_blocks" (Ol 444 8 28)) .nil) (.rawA (.Name (bu (dU.gls.map (·.1)) 1) (Ol 444 31 35)) [.Call (.Name (bu (dU.gls.map (·.1)) 2) (Ol 444 36 39)) [.Attribute (.Name (bu (dU.gls.map (·.1)) 3) (Ol 444 40 45)) "_make" (Ol 444 40 51),.Name (bu dU.nms 16) (Ol 444 53 65)] [] (Ol 444 36 66)] [] (Ol 444 31 67)) (Ol 444 8 67)) (.cons (.ret (.att (.loc 0 (Ol 445 15 19)) "matching_blocks" (Ol 445 15 35)) (Ol 445 8 35)) .nil)))
noncomputable def CF:PS:=(.cons Ka CS)
noncomputable def BW:PS:=(.cons (.expr (.meth (.loc 4 (Ol 431 8 23)) "sort" (Ol 431 8 28) .nil .nil (Ol 431 8 30)) (Ol 431 8 30)) (.cons (.asg (.cons (.loc 13 (Ol 432 8 10)) (.cons (.loc 14 (Ol 432 13 15)) (.cons (.loc 15 (Ol 432 18 20)) .nil))) (.cst (.int 0) 0 (Ol 432 23 24)) (Ol 432 8 24)) (.cons (.asg (.cons (.loc 16 (Ol 433 8 20)) .nil) (.lst .nil (Ol 433 23 25)) (Ol 433 8 25)) (.cons (.fer B2 (.loc 4 (Ol 434 26 41)) CP (Om 434 8 440 41)) CF))))
noncomputable def I1:PS:=(.cons (.doc (dc [10,7,0])) (.cons (.ite (.cmp (.att (.loc 0 (Ol 417 11 15)) "matching_blocks" (Ol 417 11 31)) .IsNot (.cst .none 0 (Ol 417 39 43)) (Ol 417 11 43)) (.cons (.ret (.att (.loc 0 (Ol 418 19 23)) "matching_blocks" (Ol 418 19 39)) (Ol 418 12 39)) .nil) .nil (Om 417 8 418 39)) (.cons (.swp [(1,(Ol 419 8 10)),(2,(Ol 419 12 14))] 0 (Ol 419 8 14) (.cons (.call (.glb 0 (Ol 419 18 21)) (.cons (.att (.loc 0 (Ol 419 22 26)) "a" (Ol 419 22 28)) .nil) .nil (Ol 419 18 29)) (.cons (.call (.glb 0 (Ol 419 31 34)) (.cons (.att (.loc 0 (Ol 419 35 39)) "b" (Ol 419 35 41)) .nil) .nil (Ol 419 31 42)) .nil)) 0 (Ol 419 17 43) (Ol 419 8 43)) (.cons (.asg (.cons (.loc 3 (Ol 420 8 13)) .nil) (.lst (.cons (.tup (.cons (.cst (.int 0) 0 (Ol 420 18 19)) (.cons (.loc 1 (Ol 420 21 23)) (.cons (.cst (.int 0) 0 (Ol 420 25 26)) (.cons (.loc 2 (Ol 420 28 30)) .nil)))) 0 (Ol 420 17 31)) .nil) (Ol 420 16 32)) (Ol 420 8 32)) (.cons (.asg (.cons (.loc 4 (Ol 421 8 23)) .nil) (.lst .nil (Ol 421 26 28)) (Ol 421 8 28)) (.cons (.whl CQ Cb (Om 422 8 430 58)) BW))))))
theorem Cd:Fn 260 dU I1 ["self"] [some 0,none,none,none,none,none,none,none,none,none,none,none,none,none,none,none,none,none,none,none] []:=⟨by kernel_rfl,by kernel_rfl,by kernel_rfl,rfl,consE λ_=>nilE (by kernel_rfl)⟩
theorem MG:HW K0:=⟨by kernel_rfl,by kernel_rfl,by kernel_rfl,by kernel_rfl⟩
noncomputable abbrev Q4:=Int×Int×Int×Int
noncomputable abbrev T3:=Int×Int×Int
noncomputable abbrev tq (q:Q4):AV:=.tup (.type "tuple") [.int q.1,.int q.2.1,.int q.2.2.1,.int q.2.2.2]
noncomputable def KJ (f g:List Nat) (q:Q4):Bool:=decide (0<=q.1)&&(decide (q.1<=f.length)&&(decide (0<=q.2.1)&&(decide (q.2.1<=f.length)&&(decide (0<=q.2.2.1)&&(decide (q.2.2.1<=g.length)&&decide (q.2.2.2<=g.length))))))
noncomputable def oA (f g:List Nat) (q:Q4):T3:=C5 f g q.1 q.2.1 q.2.2.1 q.2.2.2
noncomputable def qW (q:Q4) (m:T3) (qs:List Q4):List Q4:=if q.1<m.1 then if q.2.2.1<m.2.1 then(q.1,m.1,q.2.2.1,m.2.1)::qs else qs else qs
noncomputable def we (q:Q4) (m:T3) (qs:List Q4):List Q4:=if m.1+m.2.2<q.2.1 then if m.2.1+m.2.2<q.2.2.2 then(m.1+m.2.2,q.2.1,m.2.1+m.2.2,q.2.2.2)::qs else qs else qs
noncomputable def kh (f g:List Nat):Nat->List Q4->List T3->Option (List T3)
 |0,_,_=>none
 |n+1,[],bs=>some bs
 |n+1,q::qs,bs=>cond (KJ f g q&&(Nat.ble qs.length 40&&Nat.ble bs.length 4)) (if(oA f g q).2.2=0 then kh f g n qs bs else kh f g n (we q (oA f g q) (qW q (oA f g q) qs)) (bs++[oA f g q])) none
theorem AK:fq 299 "find_longest_match" 253:=⟨by kernel_rfl,by kernel_rfl,by kernel_rfl⟩
noncomputable def qL (qs:List Q4):List AV:=(qs.map tq).reverse
theorem lJ (q:Q4) (qs:List Q4):qL (q::qs)=qL qs++[tq q]:=List.reverse_cons
theorem nQ (qs:List Q4):(qL qs).length=qs.length:=List.length_reverse.trans (ai ..)
structure jt (H hp:List AO) (nq nm:Nat) (qs:List Q4) (bs:List T3):Prop where
 pre:H<+:hp
 wf:Wf hp
 q:hp[nq]? =some (.list (qL qs))
 m:hp[nm]? =some (.list (bs.map cU))
 lq:H.length<=nq
 lm:H.length<=nm
 ne:nq≠nm
theorem eQ {α:Type} {f:α->AV} (h:∀a,(f a).pure=true) (l:List α) (n:Nat):(AO.list (l.map f)).wf n:=λv hv=>by
 obtain⟨a,_,rfl⟩:=aG.mp hv
 have:=h a
 cases e:f a with
 |ref=>rw[e] at this;cases this
 |_=>trivial
section
variable {H hp:List AO} {nq nm:Nat} {qs qs':List Q4} {bs bs':List T3}
theorem Kh (qs:List Q4) (n:Nat):(AO.list (qL qs)).wf n:=by
 unfold qL;rw[<-List.map_reverse];exact eQ (λ_=>rfl) _ n
theorem jt.setq (I:jt H hp nq nm qs bs):jt H (hp.set nq (.list (qL qs'))) nq nm qs' bs:=⟨gD I.pre I.lq,I.wf.set (Kh _ _),bE I.q,bx I.ne I.m,I.lq,I.lm,I.ne⟩
theorem jt.setm (I:jt H hp nq nm qs bs):jt H (hp.set nm (.list (bs'.map cU))) nq nm qs bs':=⟨gD I.pre I.lm,I.wf.set (eQ (λ_=>rfl) _ _),bx I.ne.symm I.q,bE I.m,I.lq,I.lm,I.ne⟩
structure GV where
 a:Option AV
 b:Option AV
 c:Option AV
 d:Option AV
 i:Option AV
 j:Option AV
 k:Option AV
 x:Option AV
noncomputable def gS (ni:Nat) (la lb:Int) (nq nm:Nat) (v:GV) (hp:List AO) (tk:Nat):St:=
 ⟨[some (.ref ni),some (.int la),some (.int lb),some (.ref nq),some (.ref nm),v.a,v.b,v.c,v.d,v.i,v.j,v.k,v.x,none,none,none,none,none,none,none],hp,tk⟩
noncomputable def gV (q:Q4) (m:T3):GV:=⟨some (.int q.1),some (.int q.2.1),some (.int q.2.2.1),some (.int q.2.2.2),some (.int m.1),some (.int m.2.1),some (.int m.2.2),some (cU m)⟩
variable {D:Nat} {ni tk:Nat} {la lb:Int} {P:AF->St->Prop} {q:Q4} {m:T3}
theorem Lq (I:jt H hp nq nm qs bs) (hl:qs.length<=100) (h:∀hp,jt H hp nq nm (we q m qs) bs->P .next (gS ni la lb nq nm (gV q m) hp tk)):(wS D dU Cr).s (gS ni la lb nq nm (gV q m) hp tk) P:=by
 unfold we at h
 refine⟨λh1=>⟨λh=>(nomatch h),λ_=>h _ ?_⟩,λh1=>⟨λh2=>⟨λh=>(nomatch h),λ_=>h _ ?_⟩,λh2=>⟨λ_=>?_,λh=>(nomatch h)⟩⟩⟩
 ·rw[if_neg (a9 h1)];exact I
 ·rw[if_pos (aj h1),if_neg (a9 h2)];exact I
 ·rw[if_pos (aj h1),if_pos (aj h2)] at h
  refine dz de I.q ⟨aa rfl,rfl,dD _ I.q (by rw[nQ];exact ag hl (by decide)) ?_⟩
  have z:=h _ I.setq
  rw[lJ] at z
  exact z
theorem Lb (I:jt H hp nq nm qs bs) (hl:qs.length<=100) (h:∀hp,jt H hp nq nm (qW q m qs) bs->P .next (gS ni la lb nq nm (gV q m) hp tk)):(wS D dU Cj).s (gS ni la lb nq nm (gV q m) hp tk) P:=by
 unfold qW at h
 refine⟨λh1=>⟨λh=>(nomatch h),λ_=>h _ ?_⟩,λh1=>⟨λh2=>⟨λh=>(nomatch h),λ_=>h _ ?_⟩,λh2=>⟨λ_=>?_,λh=>(nomatch h)⟩⟩⟩
 ·rw[if_neg (a9 h1)];exact I
 ·rw[if_pos (aj h1),if_neg (a9 h2)];exact I
 ·rw[if_pos (aj h1),if_pos (aj h2)] at h
  refine dz de I.q ⟨aa rfl,rfl,dD _ I.q (by rw[nQ];exact ag hl (by decide)) ?_⟩
  have z:=h _ I.setq
  rw[lJ] at z
  exact z
theorem pO {α:Type} {c:Bool} {x:Option α} {r:α} (h:cond c x none=some r):c=true/\x=some r:=by
 cases c with
 |true=>exact⟨rfl,h⟩
 |false=>cases h
theorem Gq {f g:List Nat} (h:KJ f g q=true):0<=q.1/\q.1<=f.length/\0<=q.2.1/\q.2.1<=f.length/\0<=q.2.2.1/\q.2.2.1<=g.length/\q.2.2.2<=g.length:=
 ⟨aj (aE h),aj (aE (aA h)),aj (aE (aA (aA h))),aj (aE (aA (aA (aA h)))),aj (aE (aA (aA (aA (aA h))))),aj (aE (aA (aA (aA (aA (aA h)))))),aj (aA (aA (aA (aA (aA (aA h))))))⟩
theorem yr:(qW q m qs).length<=qs.length+1:=bU (λl:List Q4=>l.length<=qs.length+1) (bU (λl:List Q4=>l.length<=qs.length+1) (ak _) (aK _)) (aK _)
theorem KR {a:Int} (h:(!decide (a=0))=true):¬a=0:=a9 (cO h)
theorem Gy {M:Mt} (m:eD H M) (hf:M.f.length<100) (hg:M.g.length<100) {r:List T3} (n:Nat):∀(qs:List Q4) (bs:List T3) (v:GV) (hp:List AO),kh M.f M.g n qs bs=some r->jt H hp nq nm qs bs->
  (∀v hp,jt H hp nq nm [] r->P .next (gS M.ni la lb nq nm v hp tk))->iQ (wW (D+3) dU CQ).t (bB (D+3) dU Cb) n (gS M.ni la lb nq nm v hp tk) P:=by
 induction n with
 |zero=>exactλqs bs v hp e=>nomatch e
 |succ n ih=>
  intro qs bs v hp e I h
  cases qs with
  |nil=>
   cases e
   exact o8 (show bq _ _ _ from I.q) (Nat.zero_le _) ⟨λh=>(nomatch h),λ_=>h _ _ I⟩
  |cons q qs=>
   have c:=pO e
   have k:=Gq (aE c.1)
   have l1:=aa (aE (aA c.1))
   have l2:=aa (aA (aA c.1))
   have eq:=c.2
   clear e
   have nz:((qL (q::qs)).isEmpty)=false:=by rw[lJ];cases qL qs<;>rfl
   refine o8 (show bq _ _ _ from I.q) (by rw[nQ];exact ag (Nat.succ_le_succ l1) (by decide)) ?_
   refine⟨λ_=>dz JC I.q (LU (qL qs) (tq q) (I.q.trans (by rw[lJ])) (by rw[nQ];exact aJ l1 (by decide)) ?_),λh=>by rw[nz] at h;cases h⟩
   have I2:=I.setq (qs':=qs)
   refine⟨rfl,aa rfl,aa rfl,aa rfl,aa rfl,?_⟩
   have mm:=m.pre I2.pre I2.wf
   refine e7 (by kernel_rfl) AK mm.inst mm.dict (Jm mm hf hg k.1 k.2.1 k.2.2.1 k.2.2.2.1 k.2.2.2.2.1 k.2.2.2.2.2.1 k.2.2.2.2.2.2 ?_)
   refine sP ⟨rfl,aa rfl,aa rfl,aa rfl,aa rfl,λh1=>?_,λh1=>?_⟩
   ·have eq:=(if_neg (show¬(oA M.f M.g q).2.2=0 from KR h1)).symm.trans eq
    refine dz de I2.m (dD _ I2.m (by rw[ai];exact ag l2 (by decide)) ?_)
    have I3:=I2.setm (bs':=bs++[oA M.f M.g q])
    rw[List.map_append] at I3
    exact Lb I3 (ag l1 (by decide)) λhp3 I4=>Lq I4 (ag yr (ag (Nat.succ_le_succ l1) (by decide))) λhp4 I5=>ih _ _ _ _ eq I5 h
   ·have eq:=(if_pos (show(oA M.f M.g q).2.2=0 from aj (BB h1))).symm.trans eq
    exact ih _ _ (gV q (oA M.f M.g q)) _ eq I2 h
end
noncomputable def xf (n:Nat):KasT (Array Nat)->Bool
 | .ret p=>p.toList.isPerm (List.range n)
 | .ask _ _ k=>xf n (k true)&&xf n (k false)
theorem vC:∀n,n<6->xf n (kas_sort n)=true:=by decide+kernel
theorem Ag {lt:Nat->Nat->Bool} {n:Nat} {t:KasT (Array Nat)}:xf n t=true->(mY lt t).toList.Perm (List.range n):=by
 induction t with
 |ret p=>exactλh=>List.isPerm_iff.mp h
 |ask a b k ih=>
  intro h
  refine ih (lt a b) ?_
  cases lt a b with
  |false=>exact aA h
  |true=>exact aE h
theorem kat_len {α:Type} (b:Bool) (l:List α):(katRev b l).length=l.length:=by cases b;rfl;exact List.length_reverse
theorem sR {α:Type} {b:Bool} (l:List α):(katRev b l).Perm l:=by cases b;exact .refl _;exact List.reverse_perm l
theorem eE {α:Type} (d:α) (ts:List α):ts=(List.range ts.length).map λi=>ts.getD i d:=List.ext_getElem (by rw[ai,List.length_range]) λi h1 h2=>by
 rw[List.getElem_map,List.getElem_range,aB,aq h1];rfl
section
variable {b:Bool} {lt:AV->AV->Bool} {as:List AV}
theorem yA (h:as.length<6):(pz lt as).Perm as:=by
 unfold pz
 by_cases h2:as.length<2
 ·rw[if_pos h2]
 ·rw[if_neg h2]
  exact((Ag (lt:=λi j=>lt (as.getD i .none) (as.getD j .none)) (vC _ h)).map _).trans (.of_eq (eE .none as).symm)
theorem mE (h:as.length<6):(cR b lt as).Perm as:=(sR _).trans ((yA ((kat_len ..).symm▸h)).trans (sR _))
theorem iE (h:as.length<6):(cR b lt as).length=as.length:=(mE h).length_eq
theorem jE (h:as.length<6) {x:AV} (hx:x∈cR b lt as):x∈as:=(mE h).mem_iff.mp hx
end
noncomputable def N4 (v:AV):T3:=match v with
 | .tup _ [.int i,.int j,.int k]=>(i,j,k)
 |_=>(0,0,0)
noncomputable def ip (bs:List T3):List T3:=(cR false (bp 1) (bs.map cU)).map N4
theorem DI {bs:List T3} (h:bs.length<6):cR false (bp 1) (bs.map cU)=(ip bs).map cU:=by
 unfold ip
 rw[List.map_map]
 refine(List.map_id _).symm.trans (List.map_congr_left λx hx=>?_)
 obtain⟨p,_,rfl⟩:=aG.mp (jE (by rw[ai];exact h) hx)
 rfl
theorem mB {bs:List T3} (h:bs.length<6):(ip bs).length=bs.length:=(ai ..).trans ((iE (by rw[ai];exact h)).trans (ai ..))
structure NA where
 i:Int
 j:Int
 k:Int
 out:List T3
noncomputable def fy (S:NA):List T3:=if S.k=0 then S.out else S.out++[(S.i,S.j,S.k)]
noncomputable def fh (S:NA) (p:T3):NA:=if S.i+S.k=p.1 then if S.j+S.k=p.2.1 then⟨S.i,S.j,S.k+p.2.2,S.out⟩ else⟨p.1,p.2.1,p.2.2,fy S⟩ else⟨p.1,p.2.1,p.2.2,fy S⟩
theorem gW {S:NA}:(fy S).length<=S.out.length+1:=bU (λl:List T3=>l.length<=S.out.length+1) (aK _) (Nat.le_of_eq aI)
theorem vA {S:NA} {p:T3}:(fh S p).out.length<=S.out.length+1:=bU (λN:NA=>N.out.length<=S.out.length+1) (bU (λN:NA=>N.out.length<=S.out.length+1) (aK _) gW) gW
theorem zd (l:List T3):∀S:NA,(l.foldl fh S).out.length<=S.out.length+l.length:=by
 induction l with
 |nil=>exactλS=>ak _
 |cons p l ih=>exactλS=>ag (ih _) (ag (Nat.add_le_add_right vA _) (Nat.le_of_eq (by rw[Nat.add_assoc,Nat.add_comm 1];rfl)))
noncomputable abbrev tI (p:T3):AV:=.tup (.type "tuple") [.int p.1,.int p.2.1,.int p.2.2]
structure NI (H hp:List AO) (nm nn:Nat) (ms:List AV) (out:List T3):Prop where
 pre:H<+:hp
 wf:Wf hp
 m:hp[nm]? =some (.list ms)
 n:hp[nn]? =some (.list (out.map tI))
 ln:H.length<=nn
 ne:nm≠nn
section
variable {H hp:List AO} {nq nm nn ni tk D:Nat} {ms:List AV} {la lb:Int} {P:AF->St->Prop} {y:GV} {S:NA} {out out':List T3}
theorem NI.set (I:NI H hp nm nn ms out):NI H (hp.set nn (.list (out'.map tI))) nm nn ms out':=⟨gD I.pre I.ln,I.wf.set (eQ (λ_=>rfl) _ _),bx I.ne.symm I.m,bE I.n,I.ln,I.ne⟩
structure V3 where
 a:Option AV
 b:Option AV
 c:Option AV
noncomputable def vf (ni:Nat) (la lb:Int) (nq nm nn:Nat) (y:GV) (S:NA) (v:V3) (hp:List AO) (tk:Nat):St:=
 ⟨[some (.ref ni),some (.int la),some (.int lb),some (.ref nq),some (.ref nm),y.a,y.b,y.c,y.d,y.i,y.j,y.k,y.x,some (.int S.i),some (.int S.j),some (.int S.k),some (.ref nn),v.a,v.b,v.c],hp,tk⟩
theorem tv {v:V3} {p1 p2 p3 p4 p5 p6 p7 p8 p9 p10:Pos} (I:NI H hp nm nn ms S.out) (hl:S.out.length<=90) (h:∀hp,NI H hp nm nn ms (fy S)->P .next (vf ni la lb nq nm nn y S v hp tk)):
  (wS D dU (.ite (.loc 15 p1) (.cons (.expr (.meth (.loc 16 p2) "append" p3 (.cons (.tup (.cons (.loc 13 p4) (.cons (.loc 14 p5) (.cons (.loc 15 p6) .nil))) 0 p7) .nil) .nil p8) p9) .nil) .nil p10)).s (vf ni la lb nq nm nn y S v hp tk) P:=by
 refine⟨λh1=>?_,λh1=>h _ ?_⟩
 ·have z:=h _ I.set
  rw[show fy S=_ from if_neg (KR h1),List.map_append] at z
  exact dz de I.n ⟨aa rfl,rfl,dD _ I.n (by rw[ai];exact ag hl (by decide)) z⟩
 ·rw[show fy S=_ from if_pos (aj (BB h1))];exact I
theorem Gz (l:List T3):∀(S:NA) (v:V3) (hp:List AO),NI H hp nm nn ms S.out->l.length+S.out.length<=80->
  (∀v hp,NI H hp nm nn ms (l.foldl fh S).out->P .next (vf ni la lb nq nm nn y (l.foldl fh S) v hp tk))->
  bD (λst'=>st'.at nm=some (.list ms)) (wW D dU B2).a (bB D dU CP) (l.map cU) (vf ni la lb nq nm nn y S v hp tk) P:=by
 induction l with
 |nil=>exactλS v hp I _ h=>⟨I.m,h v hp I⟩
 |cons p l ih=>
  intro S v hp I hl h
  have hl2:l.length+(S.out.length+1)<=80:=by rw[<-Nat.add_assoc,Nat.add_right_comm];exact hl
  have hl1:S.out.length<=90:=ag (ag (Nat.le_add_left ..) hl) (by decide)
  have go:=λS' hp (e:fh S p=S') (I:NI H hp nm nn ms S'.out) (hl:S'.out.length<=S.out.length+1)=>ih S' ⟨some (.int p.1),some (.int p.2.1),some (.int p.2.2)⟩ hp I (ag (Nat.add_le_add_left hl _) hl2) (e▸h)
  clear h ih
  refine⟨I.m,sP ⟨rfl,aa rfl,aa rfl,aa rfl,λh1=>⟨λh=>(nomatch h),λ_=>?_⟩,λh1=>⟨λh2=>⟨λh=>(nomatch h),λ_=>?_⟩,λh2=>⟨λ_=>?_,λh=>(nomatch h)⟩⟩⟩⟩
  ·exact tv (v:=⟨_,_,_⟩) (p1:=(Ol 0 0 0)) (p10:=(Ol 0 0 0)) I hl1 λhp I=>⟨aa rfl,rfl,go ⟨p.1,p.2.1,p.2.2,fy S⟩ hp (if_neg (a9 h1)) I gW⟩
  ·exact tv (v:=⟨_,_,_⟩) (p1:=(Ol 0 0 0)) (p10:=(Ol 0 0 0)) I hl1 λhp I=>⟨aa rfl,rfl,go ⟨p.1,p.2.1,p.2.2,fy S⟩ hp ((if_pos (aj h1)).trans (if_neg (a9 h2))) I gW⟩
  ·exact⟨aa rfl,go ⟨S.i,S.j,S.k+p.2.2,S.out⟩ hp ((if_pos (aj h1)).trans (if_pos (aj h2))) I (aK _)⟩
end
structure Kp (nd:Nat) (H hp:List AO):Prop where
 keep:∀i o,i≠nd->H[i]? =some o->hp[i]? =some o
 le:H.length<=hp.length
 wf:Wf hp
theorem Kp.trans {nd:Nat} {H hp hp':List AO} (k:Kp nd H hp) (l:Kp nd hp hp'):Kp nd H hp':=⟨λi o h e=>l.keep i o h (k.keep i o h e),ag k.le l.le,l.wf⟩
theorem Kp.of {nd:Nat} {H hp:List AO} {o:AO} (p:H<+:hp) (w:Wf hp) (wo:o.wf hp.length):Kp nd H (hp.set nd o):=⟨λ_ _ h e=>bx h.symm (aV p e),ag p.length_le (Nat.le_of_eq (List.length_set ..).symm),w.set wo⟩
theorem eD.up {H hp:List AO} {M:Mt} {f:List Nat} {ta:Option Tok} {mb fb:AV} (m:eD H M) (k:Kp M.nd H hp) (e:hp[M.nd]? =some (.idict (Mt.kv {M with f:=f,ta:=ta,mb:=mb,fb:=fb}))):eD hp {M with f:=f,ta:=ta,mb:=mb,fb:=fb}:=by
 have ne:∀{i:Nat} {o:AO},H[i]? =some o->(∀kv,o≠.idict kv)->hp[i]? =some o:=λ{i o} e h=>k.keep i o (λq=>h _ (Option.some.inj ((q▸e).symm.trans m.dict))) e
 refine⟨m.ne,ne m.inst λ_ h=>(nomatch h),e,ne m.ob λ_ h=>(nomatch h),λi o h=>ne (m.ol i o h) λ_ q=>?_,ne m.oj λ_ h=>(nomatch h),k.wf⟩
 obtain⟨v,hv⟩:∃v,o=.list v:=by
  have:∀(l:List Nat) (n i:Nat),(dV n l)[i]? =some o->∃v,o=.list v:=λl=>by
   induction l with
   |nil=>exactλn i h=>nomatch h
   |cons c l ih=>
    intro n i h
    cases i with
    |zero=>exact⟨_,(Option.some.inj h).symm⟩
    |succ i=>exact ih _ _ h
  exact this _ _ _ h
 cases hv.symm.trans q
theorem Mt.lmb (M:Mt):M.kv.lookup ("matching_blocks":Str)=some M.mb:=by kernel_rfl
theorem Mt.pmb (M:Mt) (v:AV):bf M.kv "matching_blocks" v=Mt.kv {M with mb:=v}:=by kernel_rfl
theorem vY {M:Mt} {n:Nat} (h:M.nb+1+M.g.length+1<n) (h1:M.mb.wf n) (h2:M.fb.wf n):(AO.idict M.kv).wf n:=by
 have w:∀k,k<=M.nb+1+M.g.length+1->k<n:=λk hk=>aJ hk h
 show∀p∈[(("isjunk":Str),AV.none),("a",.str M.f M.ta),("b",.str M.g M.tb),("autojunk",.bool true),("matching_blocks",M.mb),("opcodes",.none),("fullbcount",M.fb),("b2j",.ref M.nb),("bjunk",.ref (M.nb+1+M.g.length)),("bpopular",.ref (M.nb+1+M.g.length+1))],p.2.wf n
 have w0:M.nb<n:=w _ (by rw[Nat.add_assoc,Nat.add_assoc];exact aQ ..)
 exact ao.2 ⟨trivial,ao.2 ⟨trivial,ao.2 ⟨trivial,ao.2 ⟨trivial,ao.2 ⟨h1,ao.2 ⟨trivial,ao.2 ⟨h2,ao.2 ⟨w0,ao.2 ⟨w _ (aK _),ao.2 ⟨h,λ_ h=>nomatch h⟩⟩⟩⟩⟩⟩⟩⟩⟩⟩
noncomputable def n6 (la lb:Int) (S:NA):List T3:=fy S++[(la,lb,0)]
noncomputable def cF (f g:List Nat) (bs:List T3):List T3:=n6 f.length g.length ((ip bs).foldl fh ⟨0,0,0,[]⟩)
theorem AR {f g:List Nat} {r:List T3} (n:Nat):∀(qs:List Q4) (bs:List T3),bs.length<=5->kh f g n qs bs=some r->r.length<=5:=by
 induction n with
 |zero=>exactλ_ _ _ e=>nomatch e
 |succ n ih=>
  intro qs bs h e
  cases qs with
  |nil=>cases e;exact h
  |cons q qs=>
   have c:=pO e
   have eq:=c.2
   by_cases h0:(oA f g q).2.2=0
   ·exact ih _ _ h ((if_pos h0).symm.trans eq)
   ·exact ih _ _ (by rw[aI];exact Nat.succ_le_succ (aa (aA (aA c.1)))) ((if_neg h0).symm.trans eq)
theorem sL {f g:List Nat} {bs:List T3} (h:bs.length<=5):(fy ((ip bs).foldl fh ⟨0,0,0,[]⟩)).length<=6/\(cF f g bs).length<=7:=by
 have z:(fy ((ip bs).foldl fh ⟨0,0,0,[]⟩)).length<=6:=ag gW (Nat.succ_le_succ (ag (zd _ _) (by rw[mB (Nat.lt_succ_of_le h),List.length_nil,Nat.zero_add];exact h)))
 exact⟨z,by unfold cF n6;rw[aI];exact Nat.succ_le_succ z⟩
theorem eD.kwf {H:List AO} {M:Mt} (m:eD H M) {i:Nat} {p:Str×AV} (e:M.kv[i]? =some p):p.2.wf H.length:=m.wf _ (a0 m.dict) p (a0 e)
theorem eD.kvw {H:List AO} {M:Mt} (m:eD H M) {n:Nat} (hn:H.length<=n) {f:List Nat} {ta:Option Tok} {mb fb:AV} (h1:mb.wf n) (h2:fb.wf n):(AO.idict (Mt.kv {M with f:=f,ta:=ta,mb:=mb,fb:=fb})).wf n:=
 vY (aP (m.kwf (i:=9) rfl) hn) h1 h2
theorem oT {P:Bool->Prop} {st:St} {n:Int} (h:n≠0->P true) (h0:n=0->P false):nV (.int n) st P:=by
 show P (!decide (n=0))
 by_cases e:n=0
 ·rw[aR e];exact h0 e
 ·rw[decide_eq_false e];exact h e
theorem ma {n:Nat} (h:n<100):n<100000:=aH h (by decide)
section
variable {D:Nat} {lc:List (Option AV)} {H hp:List AO} {tk nq nm nn:Nat} {P:PV} {M:Mt} {bs:List T3}
noncomputable abbrev C4 (lc:List (Option AV)) (H:List AO) (tk:Nat) (P:PV) (M:Mt) (bs:List T3):Prop:=∀n hp,Kp M.nd H hp->hp[M.nd]? =some (.idict (Mt.kv {M with mb:=.ref n}))->hp[n]? =some (.list ((cF M.f M.g bs).map cU))->P (.ref n) ⟨lc,hp,tk⟩
theorem Df {y:GV} {v:V3} {ms:List AV} {S:NA} (m:eD H M) (I:NI H hp nm nn ms (cF M.f M.g bs)) (hb5:bs.length<=5) (h:C4 lc H tk P M bs):
  bB (D+3) dU CS.tl (vf M.ni M.f.length M.g.length nq nm nn y S v hp tk) (cH (dj ⟨lc,H,tk⟩ P)):=by
 have p7:=bt (b:=AO.list ((cF M.f M.g bs).map cU)) I.pre
 have l7:hp.length<(hp++[AO.list ((cF M.f M.g bs).map cU)]).length:=by rw[aI];exact Nat.lt_succ_self _
 have k7:Kp M.nd H _:=Kp.of p7 (Wf.add I.wf (eQ (f:=cU) (λ_=>rfl) (cF M.f M.g bs) _)) (m.kvw (f:=M.f) (ta:=M.ta) (mb:=.ref hp.length) p7.length_le l7 (AV.wf_le p7.length_le (m.kwf (i:=6) rfl)))
 have d7:=bE (w:=.idict (Mt.kv {M with mb:=.ref hp.length})) (aV p7 m.dict)
 have r7:=k7.keep _ _ m.ne m.inst
 refine Na MG rfl rfl rfl rfl _ _ rfl I.n (ag (sL hb5).2 (by decide)) (λp st' P h=>Fx h) ?_
 refine bR gF (aa rfl) (aV p7 m.inst) (aV p7 m.dict) ?_
 rw[M.pmb]
 refine bK gF (Mt.lmb {M with mb:=.ref hp.length}) r7 d7 rfl (.inl (h _ _ k7 d7 (bx (λq=>?_) aX)))
 exact aW (aP (az.mp m.dict).1 I.pre.length_le) q
theorem FX {y:GV} {v:V3} {ms:List AV} {S:NA} (m:eD H M) (I:NI H hp nm nn ms S.out) (e:S=(ip bs).foldl fh ⟨0,0,0,[]⟩) (hb5:bs.length<=5) (h:C4 lc H tk P M bs):
  bB (D+3) dU CF (vf M.ni M.f.length M.g.length nq nm nn y S v hp tk) (cH (dj ⟨lc,H,tk⟩ P)):=by
 refine tv (p1:=(Ol 0 0 0)) (p10:=(Ol 0 0 0)) I ?_ λhp5 I5=>?_
 ·exact e▸ag (zd _ _) (by rw[List.length_nil,Nat.zero_add,mB (Nat.lt_succ_of_le hb5)];exact ag hb5 (by decide))
 refine dz de I5.n ⟨aa rfl,rfl,dD _ I5.n (by rw[ai];exact ag (e▸(sL (f:=M.f) (g:=M.g) hb5).1) (by decide)) ?_⟩
 have I6:=I5.set (out':=n6 M.f.length M.g.length S)
 rw[show(n6 M.f.length M.g.length S).map tI=(fy S).map tI++[tI (M.f.length,M.g.length,0)] from List.map_append] at I6
 exact Df m (e▸I6:NI H _ nm nn ms (n6 M.f.length M.g.length ((ip bs).foldl fh ⟨0,0,0,[]⟩))) hb5 h
theorem G9 {v:GV} (m:eD H M) (I:jt H hp nq nm [] bs) (hb5:bs.length<=5) (h:C4 lc H tk P M bs):
  bB (D+3) dU BW (gS M.ni M.f.length M.g.length nq nm v hp tk) (cH (dj ⟨lc,H,tk⟩ P)):=by
 refine dz yX I.m (Cs _ _ false I.m (.inl ⟨rfl,rfl⟩) (yy (λx hx=>?_) (by rw[ai];exact Nat.lt_succ_of_le hb5)) ?_)
 ·obtain⟨p,_,rfl⟩:=aG.mp hx;exact⟨_,_,_,rfl⟩
 rw[DI (Nat.lt_succ_of_le hb5)]
 have I:=I.setm (bs':=ip bs)
 refine⟨aa rfl,aa rfl,aa rfl,aa rfl,aa rfl,fC ((ip bs).map cU) (show bq _ _ _ from aZ I.m) ?_⟩
 refine Gz (tk:=tk) (nq:=nq) (nm:=nm) (nn:=(hp.set nm (.list ((ip bs).map cU))).length) (S:=⟨0,0,0,[]⟩) (v:=⟨none,none,none⟩) (y:=v) (H:=H) (ip bs) _ ⟨bt I.pre,Wf.add I.wf λ_ h=>(nomatch h),aZ I.m,aX,I.pre.length_le,aW (az.mp I.m).1⟩ ?_ λv4 hp4 I4=>FX m I4 rfl hb5 h
 rw[mB (Nat.lt_succ_of_le hb5)];exact ag hb5 (by decide)
theorem J2 (m:eD H M) (hf:M.f.length<100) (hg:M.g.length<100) (hm:M.mb=.none) (e:kh M.f M.g 20 [(0,M.f.length,0,M.g.length)] []=some bs) (h:C4 lc H tk P M bs):bw (D+4) 260 [.ref M.ni] [] ⟨lc,H,tk⟩ P:=by
 refine Cd.call0 rfl ⟨⟨_,_,_,_,rfl⟩,bK gF M.lmb m.inst m.dict (by rw[hm];rfl) ?_⟩
 rw[hm]
 refine .inl ⟨rfl,λh=>(nomatch h),λ_=>bK fm M.a m.inst m.dict rfl (cW (ma hf) (bK eO M.b m.inst m.dict rfl (cW (ma hg) ?_)))⟩
 refine⟨aa rfl,rfl,aa rfl,rfl,aa rfl,aa rfl,aa rfl,aa rfl,20,?_⟩
 have I:jt H (H++[AO.list [tq (0,M.f.length,0,M.g.length)]]++[.list []]) H.length (H++[AO.list [tq (0,M.f.length,0,M.g.length)]]).length [(0,M.f.length,0,M.g.length)] []:=
  ⟨bt (bt aw),Wf.add (Wf.add m.wf λv hv=>by rw[aN.mp hv];trivial) λ_ h=>(nomatch h),aZ aX,aX,ak _,(List.prefix_append ..).length_le,by rw[aI];exact aW (Nat.lt_succ_self _)⟩
 exact Gy (tk:=tk) (nq:=H.length) (nm:=(H++[AO.list [tq (0,M.f.length,0,M.g.length)]]).length) (v:=⟨none,none,none,none,none,none,none,none⟩) m hf hg 20 _ _ _ e I λv hp I=>G9 m I (AR 20 _ _ (Nat.zero_le _) e) h
end
noncomputable def iT:Sx:=⟨["self","fullbcount","elt","avail","availhas","matches","numb"],[],[("_calculate_ratio",.ref 202),("len",.builtin "len")],0⟩
noncomputable def CC:PE:=(.loc 2 (Ol 485 16 19))
noncomputable def CN:PS:=(.cons (.asg (.cons (.sub (.loc 1 (Ol 486 16 26)) (.loc 2 (Ol 486 27 30)) (Ol 486 16 31)) .nil) (.bin (.meth (.loc 1 (Ol 486 34 44)) "get" (Ol 486 34 48) (.cons (.loc 2 (Ol 486 49 52)) (.cons (.cst (.int 0) 0 (Ol 486 54 55)) .nil)) .nil (Ol 486 34 56)) .Add (.cst (.int 1) 0 (Ol 486 59 60)) (Ol 486 34 60)) (Ol 486 16 60)) .nil)
noncomputable def Jo:PS:=(.ite (.cmp (.att (.loc 0 (Ol 483 11 15)) "fullbcount" (Ol 483 11 26)) .Is (.cst .none 0 (Ol 483 30 34)) (Ol 483 11 34)) (.cons (.asg (.cons (.att (.loc 0 (Ol 484 12 16)) "fullbcount" (Ol 484 12 27)) (.cons (.loc 1 (Ol 484 30 40)) .nil)) (.dic0 false (Ol 484 43 45)) (Ol 484 12 45)) (.cons (.fer CC (.att (.loc 0 (Ol 485 23 27)) "b" (Ol 485 23 29)) CN (Om 485 12 486 60)) .nil)) .nil (Om 483 8 486 60))
noncomputable def JX:PS:=(.ite (.call (.loc 4 (Ol 491 15 23)) (.cons (.loc 2 (Ol 491 24 27)) .nil) .nil (Ol 491 15 28)) (.cons (.asg (.cons (.loc 6 (Ol 492 16 20)) .nil) (.sub (.loc 3 (Ol 492 23 28)) (.loc 2 (Ol 492 29 32)) (Ol 492 23 33)) (Ol 492 16 33)) .nil) (.cons (.asg (.cons (.loc 6 (Ol 494 16 20)) .nil) (.meth (.loc 1 (Ol 494 23 33)) "get" (Ol 494 23 37) (.cons (.loc 2 (Ol 494 38 41)) (.cons (.cst (.int 0) 0 (Ol 494 43 44)) .nil)) .nil (Ol 494 23 45)) (Ol 494 16 45)) .nil) (Om 491 12 494 45))
noncomputable def Cz:PS:=(.cons (.asg (.cons (.sub (.loc 3 (Ol 495 12 17)) (.loc 2 (Ol 495 18 21)) (Ol 495 12 22)) .nil) (.bin (.loc 6 (Ol 495 25 29)) .Sub (.cst (.int 1) 0 (Ol 495 32 33)) (Ol 495 25 33)) (Ol 495 12 33)) (.cons (.ite (.cmp (.loc 6 (Ol 496 15 19)) .Gt (.cst (.int 0) 0 (Ol 496 22 23)) (Ol 496 15 23)) (.cons (.asg (.cons (.loc 5 (Ol 497 16 23)) .nil) (.bin (.loc 5 (Ol 497 26 33)) .Add (.cst (.int 1) 0 (Ol 497 36 37)) (Ol 497 26 37)) (Ol 497 16 37)) .nil) .nil (Om 496 12 497 37)) .nil))
noncomputable def qU:PE:=(.loc 2 (Ol 490 12 15))
noncomputable def qR:PS:=(.cons JX Cz)
noncomputable def IA:PS:=(.cons (.ret (.call (.glb 0 (Ol 498 15 31)) (.cons (.loc 5 (Ol 498 32 39)) (.cons (.bin (.call (.glb 1 (Ol 498 41 44)) (.cons (.att (.loc 0 (Ol 498 45 49)) "a" (Ol 498 45 51)) .nil) .nil (Ol 498 41 52)) .Add (.call (.glb 1 (Ol 498 55 58)) (.cons (.att (.loc 0 (Ol 498 59 63)) "b" (Ol 498 59 65)) .nil) .nil (Ol 498 55 66)) (Ol 498 41 66)) .nil)) .nil (Ol 498 15 67)) (Ol 498 8 67)) .nil)
noncomputable def I7:PS:=(.cons (.asg (.cons (.loc 1 (Ol 487 8 18)) .nil) (.att (.loc 0 (Ol 487 21 25)) "fullbcount" (Ol 487 21 36)) (Ol 487 8 36)) (.cons (.asg (.cons (.loc 3 (Ol 488 8 13)) .nil) (.dic0 false (Ol 488 16 18)) (Ol 488 8 18)) (.cons (.swp [(4,(Ol 489 8 16)),(5,(Ol 489 18 25))] 0 (Ol 489 8 25) (.cons (.att (.loc 3 (Ol 489 29 34)) "__contains__" (Ol 489 29 47)) (.cons (.cst (.int 0) 0 (Ol 489 49 50)) .nil)) 0 (Ol 489 28 51) (Ol 489 8 51)) (.cons (.fer qU (.att (.loc 0 (Ol 490 19 23)) "a" (Ol 490 19 25)) qR (Om 490 8 497 37)) IA))))
noncomputable def HY:PS:=(.cons (.doc (dc [10,11,0])) (.cons Jo I7))
theorem Ht:Fn 289 iT HY ["self"] [some 0,none,none,none,none,none,none] []:=⟨by kernel_rfl,by kernel_rfl,by kernel_rfl,rfl,consE λ_=>nilE (by kernel_rfl)⟩
noncomputable def eY (D:List (Nat×Int)):List (List Nat×AV):=D.map λp=>([p.1],.int p.2)
noncomputable def ig (D:List (Nat×Int)) (c:Nat):Option Int:=(D.find? λp=>p.1=c).map (·.2)
noncomputable def ly (D:List (Nat×Int)) (c:Nat) (v:Int):List (Nat×Int):=if D.any (λp=>p.1=c) then D.map (λp=>if p.1=c then(p.1,v) else p) else D++[(c,v)]
noncomputable def qn (b:List Nat):List (Nat×Int):=b.foldl (λD c=>ly D c ((ig D c).getD 0+1)) []
noncomputable def fV (F:List (Nat×Int)) (S:List (Nat×Int)×Int) (c:Nat):List (Nat×Int)×Int:=
 (ly S.1 c (((ig S.1 c).getD ((ig F c).getD 0))-1),if 0<(ig S.1 c).getD ((ig F c).getD 0) then S.2+1 else S.2)
noncomputable def iY (a b:List Nat):Int:=(a.foldl (fV (qn b)) ([],0)).2
section
variable {D:List (Nat×Int)} {c:Nat} {v:Int}
theorem y9 (a:Nat):decide ([a]=[c])=decide (a=c):=decide_eq_decide.mpr ⟨List.head_eq_of_cons_eq,λe=>e▸rfl⟩
theorem i8:b8 (eY D) [c]=(ig D c).map AV.int:=by
 unfold b8 ig eY
 rw[List.find?_map,show((λp:List Nat×AV=>decide (p.1=[c]))∘λp:Nat×Int=>([p.1],AV.int p.2))=λp=>decide (p.1=c) from funext λp=>y9 p.1,Option.map_map,Option.map_map];rfl
theorem pT:jb (eY D) [c] (.int v)=eY (ly D c v):=by
 have h1:(eY D).any (λp=>p.1=[c])=D.any (λp=>p.1=c):=by
  unfold eY;rw[List.any_map];exact congrArg D.any (funext λp=>y9 p.1)
 unfold jb ly
 rw[h1]
 cases D.any (λp=>p.1=c) with
 |true=>
  rw[if_pos rfl,if_pos rfl]
  unfold eY
  rw[List.map_map,List.map_map]
  refine List.map_congr_left λp _=>?_
  show(if[p.1]=[c] then([p.1],AV.int v) else([p.1],AV.int p.2))=(λq:Nat×Int=>([q.1],AV.int q.2)) (if p.1=c then(p.1,v) else p)
  by_cases h:p.1=c
  ·rw[if_pos h,if_pos (h▸rfl)]
  ·rw[if_neg h,if_neg λe=>h (List.head_eq_of_cons_eq e)]
 |false=>rw[if_neg au,if_neg au];unfold eY;rw[List.map_append];rfl
theorem uT:(eY D).length=D.length:=ai ..
theorem sf:(ly D c v).length<=D.length+1:=bU (λl:List (Nat×Int)=>l.length<=D.length+1) (by rw[ai];exact aK _) (Nat.le_of_eq aI)
theorem tD {n:Nat}:(AO.dictS (eY D)).wf n:=λp hp=>by obtain⟨q,_,rfl⟩:=aG.mp hp;trivial
theorem sy {x:Option Int} {d:Int}:(x.map AV.int).getD (.int d)=.int (x.getD d):=by cases x<;>rfl
theorem yJ {m n:Nat} {l:List Nat} (h:D.length+(c::l).length<=n) (h2:m<=D.length+1):m+l.length<=n:=ag (Nat.add_le_add_right h2 _) (by rw[Nat.add_assoc,Nat.add_comm 1];exact h)
end
section
variable {E ni nd nf tk:Nat} {P:AF->St->Prop}
theorem Et {n:Nat} (l:List Nat):∀(D:List (Nat×Int)) (x2:Option AV) (hp:List AO),hp[n]? =some (.dictS (eY D))->Wf hp->D.length+l.length<=1000->
  (∀x2 hp',Kp n hp hp'->hp'[n]? =some (.dictS (eY (l.foldl (λD c=>ly D c ((ig D c).getD 0+1)) D)))->P .next ⟨[some (.ref ni),some (.ref n),x2,none,none,none,none],hp',tk⟩)->
  bD (λ_=>True) (wW E iT CC).a (bB E iT CN) (l.map λc=>.str [c] none) ⟨[some (.ref ni),some (.ref n),x2,none,none,none,none],hp,tk⟩ P:=by
 induction l with
 |nil=>exactλD x2 hp e w _ h=>⟨trivial,h x2 hp ⟨λ_ _ _ e=>e,ak _,w⟩ e⟩
 |cons c l ih=>
  intro D x2 hp e w hl h
  refine⟨trivial,aa rfl,nU wK e (kQ _ e ?_)⟩
  rw[i8,sy]
  refine qg _ e (by rw[uT];exact ag (ag (aQ ..) hl) (by decide)) ?_
  rw[pT]
  have w2:=w.set (n:=n) (o:=.dictS (eY (ly D c ((ig D c).getD 0+1)))) tD
  exact ih _ (some (.str [c] none)) _ (bE e) w2 (yJ hl sf) λx2 hp' k=>h x2 hp' (Kp.trans (Kp.of aw w tD) k)
noncomputable def C1 (ni nF nA nB:Nat) (x2:Option AV) (m:Int) (x6:Option AV) (hp:List AO) (tk:Nat):St:=⟨[some (.ref ni),some (.ref nF),x2,some (.ref nA),some (.ref nB),some (.int m),x6],hp,tk⟩
theorem Eh {nF nA nB:Nat} {F:List (Nat×Int)} {H:List AO} (eF:H[nF]? =some (.dictS (eY F))) (hA:H.length<=nA) (hAB:nB≠nA) (l:List Nat):∀(S:List (Nat×Int)×Int) (x2 x6:Option AV) (hp:List AO),H<+:hp->hp[nA]? =some (.dictS (eY S.1))->hp[nB]? =some (.bound "dict.__contains__" (.ref nA))->S.1.length+l.length<=1000->
  (∀x2 x6 hp,H<+:hp->P .next (C1 ni nF nA nB x2 (l.foldl (fV F) S).2 x6 hp tk))->
  bD (λ_=>True) (wW E iT qU).a (bB E iT qR) (l.map λc=>.str [c] none) (C1 ni nF nA nB x2 S.2 x6 hp tk) P:=by
 induction l with
 |nil=>exactλS x2 x6 hp p _ _ _ h=>⟨trivial,h x2 x6 hp p⟩
 |cons c l ih=>
  intro S x2 x6 hp p eA eB hl h
  have rest:∀v,v=(ig S.1 c).getD ((ig F c).getD 0)->bB E iT Cz (C1 ni nF nA nB (some (.str [c] none)) S.2 (some (.int v)) hp tk) (pG (bD (λ_=>True) (wW E iT qU).a (bB E iT qR) (l.map λc=>.str [c] none)) P):=λv hv=>by
   refine qg _ eA (by rw[uT];exact ag (ag (aQ ..) hl) (by decide)) ?_
   rw[pT]
   have go:∀m,(fV F S c).2=m->bD (λ_=>True) (wW E iT qU).a (bB E iT qR) (l.map λc=>.str [c] none) (C1 ni nF nA nB (some (.str [c] none)) m (some (.int v)) (hp.set nA (.dictS (eY (ly S.1 c (v-1))))) tk) P:=λm hm=>by
    subst hm
    exact ih (fV F S c) (some (.str [c] none)) (some (.int v)) _ (gD p hA) ((bE eA).trans (by rw[hv];rfl)) (bx hAB.symm eB) (yJ hl sf) h
   exact⟨λh0=>⟨aa rfl,go _ (if_pos (hv▸aj h0))⟩,λh0=>go _ (if_neg (hv▸a9 h0))⟩
  refine⟨trivial,aa rfl,jK (D:=E) eB (yk _ eA ?_)⟩
  rw[i8]
  cases q:ig S.1 c with
  |none=>
   refine⟨λh=>(nomatch h),λ_=>nU wK (aV p eF) (kQ _ (aV p eF) ?_)⟩
   rw[i8,sy]
   exact⟨aa rfl,rest _ (by rw[q];rfl)⟩
  |some v=>exact⟨λ_=>Ed _ (.int v) eA (by rw[i8,q];rfl) ⟨aa rfl,rest v (by rw[q];rfl)⟩,λh=>(nomatch h)⟩
theorem G1 (F:List (Nat×Int)) (l:List Nat):∀(S:List (Nat×Int)×Int),S.2<= (l.foldl (fV F) S).2/\(l.foldl (fV F) S).2<=S.2+l.length:=by
 induction l with
 |nil=>exactλS=>⟨Int.le_refl _,Int.le_of_eq (Int.add_zero _).symm⟩
 |cons c l ih=>
  intro S
  have h:S.2<= (fV F S c).2/\(fV F S c).2<=S.2+1:=bU (λz=>S.2<=z/\z<=S.2+1) ⟨Int.le_add_one (Int.le_refl _),Int.le_refl _⟩ ⟨Int.le_refl _,Int.le_add_one (Int.le_refl _)⟩
  have z:=ih (fV F S c)
  exact⟨Int.le_trans h.1 z.1,Int.le_trans z.2 (Int.le_trans (Int.add_le_add_right h.2 _) (Int.le_of_eq (by rw[Int.add_assoc,Int.add_comm 1];rfl)))⟩
variable {lc:List (Option AV)} {H H':List AO} {P:PV} {M:Mt}
theorem Bj {v:AV} {hp:List AO} (hl:H.length<=H'.length) (hv:v.wf H'.length) (hw:Wf H') (p:H'<+:hp) (h:P v ⟨lc,H',tk⟩) {t:Nat} (ht:tk<=t) {l:List (Option AV)}:dj ⟨lc,H,tk⟩ P v ⟨l,hp,t⟩:=
 .inr ⟨H'.length,tk,hl,hv,by rw[<-List.prefix_iff_eq_take.mp p];exact hw,ht,by rw[<-List.prefix_iff_eq_take.mp p];exact h⟩
noncomputable abbrev jz (a b:List Nat) (n:Int) (u:Option Tok):AV:=.flt (dF n (a.length+b.length)) u
theorem kP {n m:Nat} (h:n<500) (k:m<500):small ((n:Int)+m):=show((n+m:Nat):Int).natAbs<1000000000000 from aH (Nat.add_lt_add h k) (by decide)
theorem sZ {a b:Nat} (h:0<a+b):(a:Int)+b≠0:=show((a+b:Nat):Int)≠0 fromλe=>Nat.ne_of_gt h (Int.ofNat.inj e)
theorem Mt.lfb (M:Mt):M.kv.lookup ("fullbcount":Str)=some M.fb:=by kernel_rfl
theorem Mt.pfb (M:Mt) (v:AV):bf M.kv "fullbcount" v=Mt.kv {M with fb:=v}:=by kernel_rfl
theorem uL (m:eD H' M) {x1 x2:Option AV} (hf:M.fb=.ref nf) (ef:H'[nf]? =some (.dictS (eY (qn M.g)))) (la:M.f.length<100) (lb:M.g.length<100) (h0:0<M.f.length+M.g.length) (hl:H.length<=H'.length)
  (h:∀u,P (jz M.f M.g (iY M.f M.g) u) ⟨lc,H',tk⟩):bB (E+1) iT HY.tl.tl ⟨[some (.ref M.ni),x1,x2,none,none,none,none],H',tk⟩ (cH (dj ⟨lc,H,tk⟩ P)):=by
 refine bK jA (hf▸M.lfb) m.inst m.dict rfl ⟨aa rfl,aa rfl,IQ (kv:=[]) aX ⟨aa rfl,rfl,?_⟩⟩
 have p:H'<+:H'++[AO.dictS []]++[.bound "dict.__contains__" (.ref H'.length)]:=bt (bt aw)
 refine bK fm M.a (aV p m.inst) (aV p m.dict) rfl (wm ?_)
 refine Eh (nB:=(H'++[AO.dictS []]).length) ef (ak _) (by rw[aI];exact Nat.succ_ne_self _) M.f ([],0) x2 none _ p (aZ aX) aX (ag (Nat.le_of_eq (Nat.zero_add _)) (ag (Nat.le_of_lt la) (by decide))) λy2 y6 hp p=>?_
 refine bK fm M.a (aV p m.inst) (aV p m.dict) rfl (cW (ma la) (bK eO M.b (aV p m.inst) (aV p m.dict) rfl (cW (ma lb) ?_)))
 have bd:=G1 (qn M.g) M.f ([],0)
 exact o5 (aH (my bd.1 ((Int.zero_add (M.f.length:Int))▸bd.2) la) (by decide)) (kP (aH la (by decide)) (aH lb (by decide))) (sZ h0) λu hu=>Bj (v:=jz M.f M.g (iY M.f M.g) (some u)) hl trivial m.wf p (h _) (Nat.le_succ_of_le hu)
theorem Ji (m:eD H M) (hf:M.fb=.ref nf) (ef:H[nf]? =some (.dictS (eY (qn M.g)))) (la:M.f.length<100) (lb:M.g.length<100) (h0:0<M.f.length+M.g.length)
  (h:∀u,P (jz M.f M.g (iY M.f M.g) u) ⟨lc,H,tk⟩):bw (E+2) 289 [.ref M.ni] [] ⟨lc,H,tk⟩ P:=
 Ht.call0 rfl ⟨⟨_,_,_,_,rfl⟩,bK jA (hf▸M.lfb) m.inst m.dict rfl (.inr ⟨rfl,λh=>(nomatch h),λ_=>uL m hf ef la lb h0 (ak _) h⟩)⟩
theorem Jk (m:eD H M) (hf:M.fb=.none) (la:M.f.length<100) (lb:M.g.length<100) (h0:0<M.f.length+M.g.length)
  (h:∀n hp,Kp M.nd H hp->hp[M.nd]? =some (.idict (Mt.kv {M with fb:=.ref n}))->hp[n]? =some (.dictS (eY (qn M.g)))->∀u,P (jz M.f M.g (iY M.f M.g) u) ⟨lc,hp,tk⟩):bw (E+2) 289 [.ref M.ni] [] ⟨lc,H,tk⟩ P:=by
 refine Ht.call0 rfl ⟨⟨_,_,_,_,rfl⟩,bK jA (hf▸M.lfb) m.inst m.dict rfl (.inl ⟨rfl,λ_=>?_,λh=>(nomatch h)⟩)⟩
 have hnd:=(az.mp m.dict).1
 refine bR jA (aa rfl) (aZ m.inst) (aZ m.dict) ⟨aa rfl,?_⟩
 rw[M.pfb]
 have p:H<+:H++[AO.dictS (eY [])]:=List.prefix_append ..
 have k:=Kp.of (nd:=M.nd) p (Wf.add m.wf tD) (m.kvw (f:=M.f) (ta:=M.ta) (fb:=.ref H.length) p.length_le (AV.wf_le p.length_le (m.kwf (i:=4) rfl)) (by rw[aI];exact Nat.lt_succ_self _))
 have d:=bE (w:=.idict (Mt.kv {M with fb:=.ref H.length})) (aV p m.dict)
 have m1:=m.up k d
 refine bK eO (Mt.b {M with fb:=.ref H.length}) m1.inst d rfl (wm ?_)
 refine Et (n:=H.length) M.g [] none _ (bx (aW hnd) aX) k.wf (ag (Nat.le_of_eq (Nat.zero_add _)) (ag (Nat.le_of_lt lb) (by decide))) λx2 hp' k2 e2=>?_
 have k3:Kp M.nd H hp':=⟨λi o h e=>k2.keep i o (aW (az.mp e).1) (k.keep i o h e),ag k.le k2.le,k2.wf⟩
 have d3:=k2.keep _ _ (aW hnd) d
 exact uL (m.up k3 d3) rfl e2 la lb h0 k3.le (h _ _ k3 d3 e2)
end
noncomputable def qM:Sx:=⟨["self","matches"],[],[("sum",.builtin "sum"),("_calculate_ratio",.ref 202),("len",.builtin "len")],281⟩
noncomputable def CL:PS:=(.cons (.doc (dc [10,10,0]))
 (.cons (.asg (.cons (.loc 1 (Ol 474 8 15)) .nil) (.rawA (.Name (bu (qM.gls.map (·.1)) 0) (Ol 474 18 21)) [tJ qM "triple" (.meth (.loc 0 (Ol 474 48 52)) "get_matching_blocks" (Ol 474 48 72) .nil .nil (Ol 474 48 74)) ⟨.function,[(".0",.local),("triple",.local)],true,false,[]⟩ (Ol 474 23 29) (Ol 474 31 32) (Ol 474 30 32) (Ol 474 23 33) (Ol 474 38 44) (cQ 277)] [] (Ol 474 18 76)) (Ol 474 8 76))
 (.cons (.ret (.call (.glb 1 (Ol 475 15 31)) (.cons (.loc 1 (Ol 475 32 39)) (.cons (.bin (.call (.glb 2 (Ol 475 41 44)) (.cons (.att (.loc 0 (Ol 475 45 49)) "a" (Ol 475 45 51)) .nil) .nil (Ol 475 41 52)) .Add (.call (.glb 2 (Ol 475 55 58)) (.cons (.att (.loc 0 (Ol 475 59 63)) "b" (Ol 475 59 65)) .nil) .nil (Ol 475 55 66)) (Ol 475 41 66)) .nil)) .nil (Ol 475 15 67)) (Ol 475 8 67))
 .nil)))
theorem BR:Fn 282 qM CL ["self"] [some 0,none] []:=⟨by kernel_rfl,by kernel_rfl,by kernel_rfl,rfl,consE λ_=>nilE (by kernel_rfl)⟩
theorem o7:iu 281 277:=⟨by kernel_rfl,4,#[],by kernel_rfl,by kernel_rfl,by decide,by decide⟩
theorem sU:fq 299 "get_matching_blocks" 260:=⟨by kernel_rfl,by kernel_rfl,by kernel_rfl⟩
noncomputable def lx (ts:List T3):Bool:=Nat.ble ts.length 100&&ts.all λt=>decide (0<=t.2.2)&&decide (t.2.2<=1000)
noncomputable def fG (ts:List T3):Int:=(ts.map (·.2.2)).sum
theorem mG {ts:List T3} (h:lx ts=true):ts.length<=100/\(∀t∈ts,0<=t.2.2/\t.2.2<=1000):=⟨aa (aE h),λt ht=>have z:=aF.mp (aA h) t ht;⟨aj (aE z),aj (aA z)⟩⟩
theorem nD {ts:List T3} (h:lx ts=true):small (fG ts):=by
 have s:=mG h
 have z:=pR (l:=ts.map (·.2.2)) λv hv=>by obtain⟨t,ht,rfl⟩:=aG.mp hv;exact s.2 t ht
 rw[ai] at z
 obtain⟨k,hk⟩:=Int.eq_ofNat_of_zero_le z.1
 rw[hk] at z
 unfold small fG
 rw[hk]
 exact aJ (Int.ofNat_le.mp z.2) (aJ (Nat.mul_le_mul_left 1000 s.1) (by decide))
section
variable {D tk:Nat} {lc:List (Option AV)} {H:List AO} {P:PV} {M:Mt} {ts:List T3} {i:Nat} {bs:List T3}
theorem FU (m:eD H M) (hm:M.mb=.ref i) (h:P (.ref i) ⟨lc,H,tk⟩):bw (D+4) 260 [.ref M.ni] [] ⟨lc,H,tk⟩ P:=
 Cd.call0 rfl ⟨⟨_,_,_,_,rfl⟩,bK gF (hm▸M.lmb) m.inst m.dict rfl (.inr ⟨rfl,λ_=>bK gF (hm▸M.lmb) m.inst m.dict rfl (.inl h),λh=>(nomatch h)⟩)⟩
theorem se {n:Int} {st:St} (m:eD H M) (la:M.f.length<100) (lb:M.g.length<100) (h0:0<M.f.length+M.g.length) (hM:small n) (h:∀u,tk<=u->P (jz M.f M.g n (some u)) ⟨st.loc,H,u+1⟩):
  bB (D+1) qM CL.tl.tl ⟨[some (.ref M.ni),some (.int n)],H,tk⟩ (cH (dj st P)):=
 bK fm M.a m.inst m.dict rfl (cW (ma la) (bK eO M.b m.inst m.dict rfl (cW (ma lb) (o5 hM (kP (aH la (by decide)) (aH lb (by decide))) (sZ h0) λu hu=>.inl (h u hu)))))
theorem F6 (m:eD H M) (la:M.f.length<100) (lb:M.g.length<100) (h0:0<M.f.length+M.g.length) (hm:M.mb=.ref i) (ei:H[i]? =some (.list (ts.map cU))) (hts:lx ts=true) (h:∀u,tk<=u->P (jz M.f M.g (fG ts) (some u)) ⟨lc,H,u+1⟩):bw (D+5) 282 [.ref M.ni] [] ⟨lc,H,tk⟩ P:=by
 refine BR.call0 rfl ⟨⟨_,_,_,_,rfl⟩,uj rfl o7 rfl (by kernel_rfl) (by kernel_rfl) (λenv v=>rfl) ?_⟩
 have s:=mG hts
 exact e7 (by kernel_rfl) sU m.inst m.dict (FU m hm ⟨i,ts,rfl,ei,s.1,s.2,aa rfl,se m la lb h0 (nD hts) h⟩)
theorem Gl (m:eD H M) (la:M.f.length<100) (lb:M.g.length<100) (h0:0<M.f.length+M.g.length) (hm:M.mb=.none) (e:kh M.f M.g 20 [(0,M.f.length,0,M.g.length)] []=some bs) (hts:lx (cF M.f M.g bs)=true)
  (h:∀n hp,Kp M.nd H hp->hp[M.nd]? =some (.idict (Mt.kv {M with mb:=.ref n}))->hp[n]? =some (.list ((cF M.f M.g bs).map cU))->∀u,tk<=u->P (jz M.f M.g (fG (cF M.f M.g bs)) (some u)) ⟨lc,hp,u+1⟩):bw (D+5) 282 [.ref M.ni] [] ⟨lc,H,tk⟩ P:=by
 refine BR.call0 rfl ⟨⟨_,_,_,_,rfl⟩,uj rfl o7 rfl (by kernel_rfl) (by kernel_rfl) (λenv v=>rfl) ?_⟩
 have s:=mG hts
 exact e7 (by kernel_rfl) sU m.inst m.dict (J2 m la lb hm e λn hp k d ei=>⟨n,cF M.f M.g bs,rfl,ei,s.1,s.2,aa rfl,se (M:={M with mb:=.ref n}) (m.up k d) la lb h0 (nD hts) (h n hp k d ei)⟩)
end
noncomputable def lK:Sx:=⟨["tail","signs"],[("code",0)],[("range",.type "range")],0⟩
noncomputable def rz:Sx:=⟨["k"],[("code",0)],[],0⟩
noncomputable def B6:PE:=.bin (.bin (.cel 0 (Ol 651 45 49)) .RShift (.loc 0 (Ol 651 53 54)) (Ol 651 45 54)) .BitAnd (.cst (.int 1) 0 (Ol 651 57 58)) (Ol 651 45 58)
noncomputable def CD:PE:=.sub (.cst (.str "abcde") 0 (Ol 651 13 20)) (.loc 0 (Ol 651 21 22)) (Ol 651 13 23)
noncomputable def Hq:PS:=(.cons (.ret (.bin (.meth (.cst (.str "") 0 (Ol 654 11 13)) "join" (Ol 654 11 18) (.cons (.loc 1 (Ol 654 19 24)) .nil) .nil (Ol 654 11 25)) .Add (.loc 0 (Ol 654 28 32)) (Ol 654 11 32)) (Ol 654 4 32))
 .nil)
noncomputable def DJ:PS:=(.cons (.raw (n7 lK rz 1 (Ol 651 4 9) (.loc 0 (Ol 651 28 29)) (.call (.glb 0 (Ol 651 33 38)) (.cons (.cst (.int 5) 0 (Ol 651 39 40)) .nil) .nil (Ol 651 33 41)) (some B6) CD ⟨.function,[(".0",.local),("k",.local),("code",.free)],false,false,[]⟩ (Ol 651 12 59) (Ol 651 4 59)))
 (.cons (.ite (.bin (.bin (.cel 0 (Ol 652 7 11)) .RShift (.cst (.int 5) 0 (Ol 652 15 16)) (Ol 652 7 16)) .BitAnd (.cst (.int 1) 0 (Ol 652 19 20)) (Ol 652 7 20)) (.cons (.asg (.cons (.loc 1 (Ol 653 8 13)) .nil) (.bin (.slc (.loc 1 (Ol 653 16 21)) (.neg (.cst (.int 1) 0 (Ol 653 23 24)) (Ol 653 22 24)) .nil (Ol 653 22 25) (Ol 653 16 26)) .Add (.slc (.loc 1 (Ol 653 29 34)) .nil (.neg (.cst (.int 1) 0 (Ol 653 37 38)) (Ol 653 36 38)) (Ol 653 35 38) (Ol 653 29 39)) (Ol 653 16 39)) (Ol 653 8 39))
 .nil) .nil (Om 652 4 653 39)) Hq))
theorem Dy:Fn 345 lK DJ ["code","tail"] [some 1,none] [some 0]:=⟨by kernel_rfl,by kernel_rfl,by kernel_rfl,rfl,consE λ_=>consE λ_=>nilE (by kernel_rfl)⟩
noncomputable def cM (code:Int) (k:Nat):Bool:=!decide (Builtin.bitAnd (code.fdiv (2^k)) 1=0)
noncomputable def jF (code:Int):List Nat:=((List.range 5).filter (cM code)).map (97+·)
noncomputable def lO {α:Type} (b:Bool) (s:List α):List α:=if b then cN (some (-1)) none s++cN none (some (-1)) s else s
noncomputable def dJ (code:Int) (tail:List Nat):List Nat:=lO (cM code 5) (jF code)++tail
noncomputable abbrev cw:=List Nat×Option Tok
noncomputable def bX (gs:List cw):List AV:=gs.map λp=>.str p.1 p.2
structure kD (T:Nat) (s:List Nat) (gs:List cw) (tk:Nat):Prop where
 le:T<=tk
 m:gs.map (·.1)=s.map λc=>[c]
 t:∀p∈gs,∃t:Nat,p.2=some t/\T<=t/\t<tk
theorem kD.snoc {T t tk c:Nat} {s:List Nat} {gs:List cw} (h:kD T s gs tk) (ht:tk<=t):kD T (s++[c]) (gs++[([c],some t)]) (t+1):=
 ⟨ag h.le (Nat.le_succ_of_le ht),by rw[List.map_append,List.map_append,h.m];rfl,λp hp=>(bo.mp hp).elim (λhp=>(h.t p hp).imp λ_ z=>⟨z.1,z.2.1,Nat.lt_succ_of_le (ag (Nat.le_of_lt z.2.2) ht)⟩) λhp=>⟨t,aN.mp hp▸rfl,ag h.le ht,Nat.lt_succ_self _⟩⟩
theorem kD.len {T tk:Nat} {s:List Nat} {gs:List cw} (h:kD T s gs tk):gs.length=s.length:=by have z:=congrArg List.length h.m;rwa [ai,ai] at z
theorem GL:∀k:Nat,k<5->([97,98,99,100,101]:List Nat)[k]? =some (97+k):=by decide
section
variable {D T:Nat} {code:Int}
theorem DF {P:St->Prop} (l:List Nat):∀(s:List Nat) (gs:List cw) (x0:Option AV) (tk:Nat),(∀k∈l,k<5)->kD T s gs tk->s.length+l.length<=50->
  (∀gs x tk,kD T (s++(l.filter (cM code)).map (97+·)) gs tk->P ⟨[x],[.cell (some (.int code)),.list (bX gs)],tk⟩)->
  dH 1 (λ_=>True) (wW D rz (.loc 0 (Ol 651 28 29))).a (bV D rz (some B6)) (wW D rz CD).e (l.map λk=>.int (k:Nat)) ⟨[x0],[.cell (some (.int code)),.list (bX gs)],tk⟩ P:=by
 induction l with
 |nil=>exactλs gs x0 tk _ I _ h=>⟨trivial,h gs x0 tk (by rwa [List.filter_nil,List.map_nil,List.append_nil])⟩
 |cons k l ih=>
  intro s gs x0 tk hk I hl h
  have hk5:=hk k (.head _)
  refine⟨trivial,aa rfl,aU k,λhb=>?_,λhb=>?_⟩
  ·replace hb:cM code k=true:=hb
   refine⟨[97,98,99,100,101],by kernel_rfl,λt ht=>pW (aU k) (aa rfl) _ (GL k hk5) λt2 ht2=>?_⟩
   have I2:=I.snoc (c:=97+k) (ag ht (Nat.le_of_succ_le ht2))
   refine⟨bX gs,rfl,by show(List.map _ gs).length<=_;rw[ai,I.len];exact ag (ag (aQ ..) hl) (by decide),?_⟩
   have z:=ih (s++[97+k]) (gs++[([97+k],some t2)]) (some (.int k)) (t2+1) (λj hj=>hk j (.tail _ hj)) I2 (by rw[aI,Nat.add_right_comm];exact hl) (by rw[List.filter_cons_of_pos hb] at h;rw[ax];exact h)
   unfold bX at z
   rw[List.map_append] at z
   exact z
  ·replace hb:cM code k=false:=hb
   exact ih s gs _ tk (λj hj=>hk j (.tail _ hj)) I (Nat.le_of_succ_le hl) (by rwa [List.filter_cons_of_neg (by rw[hb];exact au)] at h)
theorem sk (s:List Nat):(s.map λc=>[c]).flatten=s:=by
 induction s with
 |nil=>rfl
 |cons c s ih=>rw[List.map_cons,List.flatten_cons,ih];rfl
variable {st:St} {tail:List Nat} {u:Nat} {P:PV}
theorem zi {s:List Nat} {gs:List cw} {n tk:Nat} {hp:List AO} (e:hp[n]? =some (.list (bX gs))) (I:kD st.tk s gs tk) (hl:s.length<=10) (ht:tail.length<=10) (h:∀(t:Nat) tk,st.tk<=tk->(t=u∨(st.tk<=t/\t<tk))->P (.str (s++tail) (some t)) {st with tk:=tk}):
  bB D lK Hq ⟨[some (.str tail (some u)),some (.ref n)],hp,tk⟩ (cH (m8 st P)):=by
 have fin:∀(x:List Nat) (t tk2:Nat),st.tk<=tk2->x=s->st.tk<=t->t<tk2->pC .Add (.str x (some t)) (.str tail (some u)) ⟨[some (.str tail (some u)),some (.ref n)],hp,tk2⟩ (KP (BK (cH (m8 st P)) (wS D lK .nil).ss)):=λx t tk2 h1 h2 h3 h4=>by
  subst h2
  refine A9 (ag (Nat.add_le_add hl ht) (by decide)) (λh0=>⟨tk2,ak _,.inl ⟨rfl,?_⟩⟩) (λ_ h0=>⟨tk2,ak _,.inl ⟨rfl,?_⟩⟩) λ_ _ t6 ht6=>⟨t6+1,ak _,.inl ⟨rfl,h t6 _ (ag h1 (Nat.le_succ_of_le ht6)) (.inr ⟨ag h1 ht6,Nat.lt_succ_self _⟩)⟩⟩
  ·have z:=h u tk2 h1 (.inl rfl);rwa [h0] at z
  ·have z:=h t tk2 h1 (.inr ⟨h3,h4⟩);rwa [h0,List.append_nil] at z
 refine⟨[],by kernel_rfl,λt1 ht1=>JN (Jy gs (show bq _ _ _ from e) ?_ (λp hp=>?_) (λp hp=>?_) λhne t2 ht2=>?_)⟩
 ·rw[I.len];exact ag hl (by decide)
 ·have z:p.1∈s.map λc=>[c]:=I.m▸List.mem_map_of_mem hp
  obtain⟨c,_,e⟩:=aG.mp z
  exact e▸(by decide:1<=100)
 ·subst hp
  obtain⟨t,h1,h2,h3⟩:=I.t p (.head _)
  rw[h1]
  refine fin p.1 t (t1+1) (ag I.le (Nat.le_succ_of_le ht1)) ?_ h2 (Nat.lt_succ_of_le (ag (Nat.le_of_lt h3) ht1))
  have z:=congrArg List.flatten I.m
  rw[sk] at z
  exact(List.append_nil p.1).symm.trans z
 ·have h1:=ag I.le (ag ht1 (Nat.le_of_succ_le ht2))
  exact fin _ t2 (t2+1) (Nat.le_succ_of_le h1) (by rw[I.m,sk]) h1 (Nat.lt_succ_self _)
theorem fL {α β:Type} (f:α->β) (lo hi:Option Int) (l:List α):cN lo hi (l.map f)=(cN lo hi l).map f:=by unfold cN;rw[List.map_take,List.map_drop,ai]
theorem uM {α:Type} {lo hi:Option Int} {l:List α} {x:α} (h:x∈cN lo hi l):x∈l:=List.mem_of_mem_drop (List.mem_of_mem_take h)
theorem jB {α:Type} (lo hi:Option Int) (l:List α):(cN lo hi l).length<=l.length:=((List.take_sublist ..).trans (List.drop_sublist ..)).length_le
theorem ya {b:Bool} {s:List Nat}:(lO b s).length<=s.length+s.length:=bU (λl:List Nat=>l.length<=s.length+s.length) (by rw[aI];exact Nat.add_le_add (jB ..) (jB ..)) (Nat.le_add_left ..)
theorem vW:(jF code).length<=5:=by unfold jF;rw[ai];exact List.length_filter_le ..
theorem kD.turn {T tk:Nat} {s:List Nat} {gs:List cw} {b:Bool} (I:kD T s gs tk):kD T (lO b s) (lO b gs) tk:=by
 cases b with
 |false=>exact I
 |true=>exact⟨I.le,by show((cN (some (-1)) none gs++cN none (some (-1)) gs).map (·.1))=((cN (some (-1)) none s++cN none (some (-1)) s).map λc=>[c]);rw[List.map_append,List.map_append,<-fL,<-fL,<-fL,<-fL,I.m],λp hp=>I.t p ((bo.mp hp).elim uM uM)⟩
theorem uR (ht:tail.length<=10) (h:∀(t:Nat) tk,st.tk<=tk->(t=u∨(st.tk<=t/\t<tk))->P (.str (dJ code tail) (some t)) {st with tk:=tk}):bw (D+1) 345 [.int code,.str tail (some u)] [] st P:=by
 refine Dy.own (.val rfl (.val rfl .nil)) rfl rfl (lL rfl rfl (by kernel_rfl) (wd (by kernel_rfl) ?_))
 refine dC (rq (by decide) (by decide) ?_)
 refine DF (List.range 5) [] [] none st.tk (λk hk=>List.mem_range.mp hk) ⟨ak _,rfl,λp hp=>nomatch hp⟩ (by decide) λgs x tk I=>?_
 replace I:kD st.tk (jF code) gs tk:=I
 have l5:=vW (code:=code)
 have lg:(bX gs).length<=5:=by unfold bX;rw[ai,I.len];exact l5
 refine⟨aa rfl,by decide,λhb=>?_,λhb=>?_⟩
 ·replace hb:cM code 5=true:=hb
  refine iF (bX gs) (some (-1)) none rfl rfl rfl (ag lg (by decide)) (iF (bX gs) none (some (-1)) rfl rfl rfl (ag lg (by decide)) (su _ _ rfl rfl (ag (Nat.add_le_add (ag (jB ..) lg) (ag (jB ..) lg)) (by decide)) ⟨aa rfl,?_⟩))
  refine zi (n:=4) (gs:=lO true gs) (s:=lO true (jF code)) ?_ I.turn (ag ya (Nat.add_le_add l5 l5)) ht (by unfold dJ at h;rw[hb] at h;exact h)
  show some (AO.list (cN (some (-1)) none (bX gs)++cN none (some (-1)) (bX gs)))=some (.list ((cN (some (-1)) none gs++cN none (some (-1)) gs).map _))
  rw[List.map_append,<-fL,<-fL];rfl
 ·replace hb:cM code 5=false:=hb
  exact zi (n:=1) (gs:=gs) (s:=jF code) rfl I (ag l5 (by decide)) ht (by unfold dJ at h;rw[hb] at h;exact h)
end
noncomputable def jG:Sx:=⟨["goods","named","points","good","more"],[],[("len",.builtin "len")],0⟩
noncomputable def J7:PS:=(.ite (.cmp (.loc 3 (Ol 670 11 15)) .In (.loc 1 (Ol 670 19 24)) (Ol 670 11 24)) (.cons (.asg (.cons (.loc 4 (Ol 671 12 16)) .nil) (.bin (.call (.glb 0 (Ol 671 19 22)) (.cons (.loc 1 (Ol 671 23 28)) .nil) .nil (Ol 671 19 29)) .Sub (.meth (.loc 1 (Ol 671 32 37)) "index" (Ol 671 32 43) (.cons (.loc 3 (Ol 671 44 48)) .nil) .nil (Ol 671 32 49)) (Ol 671 19 49)) (Ol 671 12 49)) .nil) .nil (Om 670 8 671 49))
noncomputable def B8:PS:=(.cons (.expr (.meth (.loc 2 (Ol 672 8 14)) "append" (Ol 672 8 21) (.cons (.bin (.cst (.int 1) 0 (Ol 672 22 23)) .Add (.loc 4 (Ol 672 26 30)) (Ol 672 22 30)) .nil) .nil (Ol 672 8 31)) (Ol 672 8 31)) .nil)
noncomputable def wj:PE:=(.loc 3 (Ol 668 8 12))
noncomputable def wk:PS:=(.cons (.asg (.cons (.loc 4 (Ol 669 8 12)) .nil) (.cst (.int 0) 0 (Ol 669 15 16)) (Ol 669 8 16)) (.cons J7 B8))
noncomputable def Ku:PS:=(.cons (.ret (.loc 2 (Ol 673 11 17)) (Ol 673 4 17)) .nil)
noncomputable def GB:PS:=(.cons (.asg (.cons (.loc 2 (Ol 667 4 10)) .nil) (.lst .nil (Ol 667 13 15)) (Ol 667 4 15)) (.cons (.fer wj (.loc 0 (Ol 668 16 21)) wk (Om 668 4 672 31)) Ku))
noncomputable def mI:Sx:=⟨["script","cells","place","number"],[],[("enumerate",.type "enumerate")],0⟩
noncomputable def BX:PE:=(.cons (.loc 2 (Ol 647 8 13)) (.cons (.loc 3 (Ol 647 15 21)) .nil))
noncomputable def Ce:PS:=(.cons (.aug (.sub (.loc 1 (Ol 648 8 13)) (.bin (.loc 2 (Ol 648 14 19)) .Mod (.cst (.int 4) 0 (Ol 648 22 23)) (Ol 648 14 23)) (Ol 648 8 24)) .Add (.loc 3 (Ol 648 28 34)) (Ol 648 8 34)) .nil)
noncomputable def IF:PS:=(.cons (.ret (.loc 1 (Ol 649 11 16)) (Ol 649 4 16)) .nil)
noncomputable def Ar:PS:=(.cons (.asg (.cons (.loc 1 (Ol 646 4 9)) .nil) (.lst (.cons (.cst (.int 299) 0 (Ol 646 13 16)) (.cons (.cst (.int 630) 0 (Ol 646 18 21)) (.cons (.cst (.int 2695) 0 (Ol 646 23 27)) (.cons (.cst (.int 1748) 0 (Ol 646 29 33)) .nil)))) (Ol 646 12 34)) (Ol 646 4 34)) (.cons (.fen BX 0 (Ol 647 8 21) 0 (Ol 647 25 34) (Ol 647 25 42) (.loc 0 (Ol 647 35 41)) Ce (Om 647 4 648 34)) IF))
theorem GJ:Fn 357 jG GB ["goods","named"] [some 0,some 1,none,none,none] []:=⟨by kernel_rfl,by kernel_rfl,by kernel_rfl,rfl,consE λ_=>consE λ_=>nilE (by kernel_rfl)⟩
theorem Bh:Fn 340 mI Ar ["script"] [some 0,none,none,none] []:=⟨by kernel_rfl,by kernel_rfl,by kernel_rfl,rfl,consE λ_=>nilE (by kernel_rfl)⟩
noncomputable def i7 (ns:List (List Nat)) (g:List Nat):Int:=if ns.any (λp=>p=g) then 1+((ns.length:Int)-(ns.findIdx (λp=>p=g):Nat)) else 1
noncomputable abbrev iV (gs:List cw):List (List Nat):=gs.map (·.1)
noncomputable abbrev bc (l:List Int):List AV:=l.map AV.int
theorem gw {α:Type} {f:α->AV} (h:∀a,(f a).pure=true) (l:List α):cz (l.map f)=true:=by
 induction l with
 |nil=>rfl
 |cons a l ih=>show((f a).pure&&cz (l.map f))=true;rw[h a];exact ih
theorem mL {α:Type} {f:α->AV} (h:∀a,(f a).scal=true) (l:List α):(l.map f).all AV.scal=true:=aF.mpr λv hv=>by
 obtain⟨a,_,rfl⟩:=aG.mp hv;exact h a
section
variable {D tk:Nat} {gs ns:List cw}
noncomputable def CV (gs ns:List cw) (ps:List Int) (x3 x4:Option AV) (tk:Nat):St:=⟨[some (.ilst (bX gs)),some (.ilst (bX ns)),some (.ref 0),x3,x4],[.list (bc ps)],tk⟩
theorem Dj {P:AF->St->Prop} {chk:St->Prop} (hc:∀s,chk s) (hn:ns.length<=50) (l:List cw):∀(ps:List Int) (x3 x4:Option AV),ps.length+l.length<=100->
  (∀x3 x4,P .next (CV gs ns (ps++l.map λp=>i7 (iV ns) p.1) x3 x4 tk))->bD chk (wW D jG wj).a (bB D jG wk) (bX l) (CV gs ns ps x3 x4 tk) P:=by
 induction l with
 |nil=>exactλps x3 x4 hl h=>⟨hc _,by have z:=h x3 x4;rwa [List.map_nil,List.append_nil] at z⟩
 |cons p l ih=>
  intro ps x3 x4 hl h
  have fin:∀v:Int,i7 (iV ns) p.1=1+v->bB D jG B8 (CV gs ns ps (some (.str p.1 p.2)) (some (.int v)) tk) (pG (bD chk (wW D jG wj).a (bB D jG wk) (bX l)) P):=λv hv=>by
   have z:=ih (ps++[1+v]) (some (.str p.1 p.2)) (some (.int v)) (by rw[aI,Nat.add_right_comm];exact hl) (by rw[ax];rw[List.map_cons,hv] at h;exact h)
   unfold CV bc at z
   rw[List.map_append] at z
   exact dz de (show bq _ _ _ from rfl) (dD _ rfl (by rw[ai];exact ag (ag (aQ ..) hl) (by decide)) z)
  refine⟨hc _,aa rfl,aa rfl,LQ ns (show bq _ _ _ from rfl) ?_⟩
  have ea:(ns.any λq=>q.1=p.1)=(iV ns).any λq=>q=p.1:=by rw[List.any_map];rfl
  rw[ea]
  refine⟨λhb=>?_,λhb=>fin 0 (if_neg (by rw[hb];exact au))⟩
  have hj:(iV ns).findIdx (λq=>q=p.1)<(iV ns).length:=List.findIdx_lt_length.mpr (by obtain⟨q,h1,h2⟩:=List.any_eq_true.mp hb;exact⟨q,h1,h2⟩)
  have hg:∀{m:Nat} {q:cw},ns[m]? =some q->∃h:m<(iV ns).length,(iV ns)[m]=q.1:=λe=>az.mp ((aO ..).trans (congrArg _ e))
  refine gn _ (show bq _ _ _ from rfl) (by unfold bX;rw[ai];exact ag hn (by decide)) (dz EY (show bq _ _ _ from rfl) (Ff ns _ (show bq _ _ _ from rfl) (ag hn (by decide)) (by rw[ai] at hj;exact hj) (λm q hq hm e=>?_) (λq hq=>?_) ?_))
  ·obtain⟨h,e2⟩:=hg hq
   exact au ((List.not_of_lt_findIdx hm).symm.trans (aR (e2.trans e)))
  ·obtain⟨h,e2⟩:=hg hq
   exact e2.symm.trans (aj (List.findIdx_getElem (w:=hj)))
  ·refine⟨aa rfl,fin _ ((if_pos hb).trans ?_)⟩
   unfold bX;rw[ai,ai]
variable {st:St} {P:PV}
theorem Gb {i j:Nat} (ei:st.at i=some (.list (bX gs))) (ej:st.at j=some (.list (bX ns))) (hg:gs.length<=50) (hn:ns.length<=50) (h:P (.ref st.hp.length) ⟨st.loc,st.hp++[.list (bc (gs.map λp=>i7 (iV ns) p.1))],st.tk⟩):bw (D+1) 357 [.ref i,.ref j] [] st P:=by
 refine GJ.own (.lst ei (gw (λ_=>rfl) gs) (.lst ej (gw (λ_=>rfl) ns) .nil)) rfl rfl ⟨aa rfl,aa rfl,fC (bX gs) (show bq _ _ _ from rfl) ?_⟩
 exact Dj (λ_=>rfl) hn gs [] none none (ag (Nat.le_of_eq (Nat.zero_add _)) (ag hg (by decide))) λx3 x4=>⟨st.tk,ak _,.inr ⟨0,_,rfl,rfl,mL (λ_=>rfl) _,h⟩⟩
noncomputable def lN:Nat->List Int->List Int->List Int
 |_,[],c=>c
 |n,x::xs,c=>lN (n+1) xs (c.set (n%4) (c.getD (n%4) 0+x))
noncomputable def fe (ns:List Int):List Int:=lN 0 ns [299,630,2695,1748]
theorem lX (ns:List Int):∀(n:Nat) (c:List Int),(lN n ns c).length=c.length:=by
 induction ns with
 |nil=>exactλ_ _=>rfl
 |cons x xs ih=>exactλn c=>(ih ..).trans (List.length_set ..)
noncomputable def H8 (v:AV) (c:List Int) (x2 x3:Option AV) (tk:Nat):St:=⟨[some v,some (.ref 0),x2,x3],[.list (bc c)],tk⟩
theorem bQ {c:List Int} {i:Nat} (h:i<c.length):(bc c)[i]? =some (.int (c.getD i 0)):=by
 rw[aO,aq h,aB,aq h];rfl
theorem Ec {P:AF->St->Prop} {v:AV} (l:List Int):∀(n:Nat) (c:List Int) (x2 x3:Option AV),c.length=4->(∀x2 x3,P .next (H8 v (lN n l c) x2 x3 tk))->
  bD (λ_=>True) (ji (wW D mI BX).as) (bB D mI Ce) (numbered n (bc l)) (H8 v c x2 x3 tk) P:=by
 induction l with
 |nil=>exactλn c x2 x3 hc h=>⟨trivial,h x2 x3⟩
 |cons y l ih=>
  intro n c x2 x3 hc h
  have hm:((n:Int).fmod 4)=((n%4:Nat):Int):=Int.fmod_eq_emod_of_nonneg _ (by decide)
  have h4:n%4<4:=Nat.mod_lt _ (by decide)
  have h0:0<= (n:Int).fmod 4:=hm▸aU _
  have h3:(n:Int).fmod 4<4:=hm▸Int.ofNat_lt.mpr h4
  have hk:((n:Int).fmod 4).toNat=n%4:=hm▸rfl
  have z:=ih (n+1) (c.set (n%4) (c.getD (n%4) 0+y)) (some (.int n)) (some (.int y)) ((List.length_set ..).trans hc) h
  unfold H8 bc at z
  rw[List.map_set,<-hk] at z
  refine⟨trivial,aa rfl,aa rfl,by decide,GF (show bq _ _ _ from rfl) h0 (Int.lt_trans h3 (by decide)) (.int (c.getD ((n:Int).fmod 4).toNat 0)) (bQ (by rw[hk,hc];exact h4)) (xu _ rfl h0 ?_ ?_ z)⟩
  ·rw[ai,hc];exact h3
  ·rw[ai,hc];decide
theorem Ae {vs:List Int} (h:P (.ref st.hp.length) ⟨st.loc,st.hp++[.list (bc (fe vs))],st.tk⟩):bw (D+1) 340 [.ilst (bc vs)] [] st P:=by
 refine Bh.own (.val rfl .nil) rfl rfl ⟨aa rfl,aa rfl,⟨_,rfl⟩,rfl,?_⟩
 exact Ec vs 0 [299,630,2695,1748] none none rfl λx2 x3=>⟨st.tk,ak _,.inr ⟨0,_,rfl,rfl,mL (λ_=>rfl) _,h⟩⟩
end
noncomputable abbrev gR (x x':Sx) (t it:PE) (ifs:Option PE) (elt:PE) (sc:Scope) (p:Pos):PE:=.rawC (elt.toM x') [⟨t.toM x',it.toM x,tH x' ifs,0⟩] sc p
noncomputable def dA:Sx:=⟨["best","one","two","first","second"],[("choice",0),("rest",1),("parted",2),("yours",3),("mine",4)],[("range",.type "range"),("sum",.builtin "sum"),("max",.builtin "max")],0⟩
noncomputable def rm:Sx:=⟨["k"],[("parted",2)],[],0⟩
noncomputable def qX:Sx:=⟨["k"],[("choice",0),("mine",4),("rest",1)],[],0⟩
noncomputable def q9:Sx:=⟨["k"],[("choice",0),("rest",1),("yours",3)],[],0⟩
noncomputable def BO:PE:=(.cmp (.loc 0 (Ol 677 39 40)) .NotEq (.cel 0 (Ol 677 44 50)) (Ol 677 39 50))
noncomputable def CG:PE:=(.bin (.bin (.cel 0 (Ol 680 60 66)) .RShift (.loc 0 (Ol 680 70 71)) (Ol 680 60 71)) .BitAnd (.cst (.int 1) 0 (Ol 680 74 75)) (Ol 680 60 75))
noncomputable def CJ:PE:=(.sub (.cel 1 (Ol 680 25 29)) (.sub (.cel 2 (Ol 680 30 34)) (.loc 0 (Ol 680 35 36)) (Ol 680 30 37)) (Ol 680 25 38))
noncomputable def BQ:PE:=(.nt (.bin (.bin (.cel 0 (Ol 681 66 72)) .RShift (.loc 0 (Ol 681 76 77)) (Ol 681 66 77)) .BitAnd (.cst (.int 1) 0 (Ol 681 80 81)) (Ol 681 66 81)) (Ol 681 62 81))
noncomputable def B5:PE:=(.sub (.cel 2 (Ol 681 26 31)) (.sub (.cel 1 (Ol 681 32 36)) (.loc 0 (Ol 681 37 38)) (Ol 681 32 39)) (Ol 681 26 40))
noncomputable def J5:PS:=(.ite (.boo .And (.cons (.cmp (.loc 3 (Ol 682 15 20)) .LtE (.bin (.loc 4 (Ol 682 24 30)) .Add (.loc 2 (Ol 682 33 36)) (Ol 682 24 36)) (Ol 682 15 36)) (.cons (.cmp (.loc 4 (Ol 682 41 47)) .LtE (.bin (.loc 3 (Ol 682 51 56)) .Add (.loc 1 (Ol 682 59 62)) (Ol 682 51 62)) (Ol 682 41 62)) .nil)) (Ol 682 15 62)) (.cons (.asg (.cons (.loc 0 (Ol 683 16 20)) .nil) (.call (.glb 2 (Ol 683 23 26)) (.cons (.loc 0 (Ol 683 27 31)) (.cons (.bin (.bin (.cst (.int 5040) 0 (Ol 683 33 37)) .Mult (.bin (.bin (.bin (.loc 3 (Ol 683 41 46)) .Mult (.loc 2 (Ol 683 49 52)) (Ol 683 41 52)) .Add (.bin (.loc 4 (Ol 683 55 61)) .Mult (.loc 1 (Ol 683 64 67)) (Ol 683 55 67)) (Ol 683 41 67)) .Add (.bin (.loc 1 (Ol 683 70 73)) .Mult (.loc 2 (Ol 683 76 79)) (Ol 683 70 79)) (Ol 683 41 79)) (Ol 683 33 80)) .FloorDiv (.bin (.loc 1 (Ol 683 85 88)) .Add (.loc 2 (Ol 683 91 94)) (Ol 683 85 94)) (Ol 683 33 95)) .nil)) .nil (Ol 683 23 96)) (Ol 683 16 96)) .nil) .nil (Om 682 12 683 96))
noncomputable def wL:PE:=(.cel 0 (Ol 679 12 18))
noncomputable def rk:PS:=(.cons (.asg (.cons (.loc 3 (Ol 680 12 17)) .nil) (.call (.glb 1 (Ol 680 20 23)) (.cons (gR dA qX (.loc 0 (Ol 680 43 44)) (.call (.glb 0 (Ol 680 48 53)) (.cons (.cst (.int 3) 0 (Ol 680 54 55)) .nil) .nil (Ol 680 48 56)) (some CG) CJ ⟨.function,[(".0",.local),("k",.local),("choice",.free),("mine",.free),("rest",.free)],false,false,[]⟩ (Ol 680 24 76)) .nil) .nil (Ol 680 20 77)) (Ol 680 12 77)) (.cons (.asg (.cons (.loc 4 (Ol 681 12 18)) .nil) (.call (.glb 1 (Ol 681 21 24)) (.cons (gR dA q9 (.loc 0 (Ol 681 45 46)) (.call (.glb 0 (Ol 681 50 55)) (.cons (.cst (.int 3) 0 (Ol 681 56 57)) .nil) .nil (Ol 681 50 58)) (some BQ) B5 ⟨.function,[(".0",.local),("k",.local),("choice",.free),("rest",.free),("yours",.free)],false,false,[]⟩ (Ol 681 25 82)) .nil) .nil (Ol 681 21 83)) (Ol 681 12 83)) (.cons J5 .nil)))
noncomputable def Ck:PE:=(.cel 2 (Ol 676 8 14))
noncomputable def B3:PS:=(.cons (.raw (og dA rm 1 (Ol 677 8 12) (.loc 0 (Ol 677 22 23)) (.call (.glb 0 (Ol 677 27 32)) (.cons (.cst (.int 4) 0 (Ol 677 33 34)) .nil) .nil (Ol 677 27 35)) (some BO) (.loc 0 (Ol 677 16 17)) ⟨.function,[(".0",.local),("k",.local),("parted",.free)],false,false,[]⟩ (Ol 677 15 51) (Ol 677 8 51))) (.cons (.swp [(1,(Ol 678 8 11)),(2,(Ol 678 13 16))] 0 (Ol 678 8 16) (.cons (.sub (.cel 4 (Ol 678 20 24)) (.cel 2 (Ol 678 25 31)) (Ol 678 20 32)) (.cons (.sub (.cel 3 (Ol 678 34 39)) (.cel 2 (Ol 678 40 46)) (Ol 678 34 47)) .nil)) 0 (Ol 678 19 48) (Ol 678 8 48)) (.cons (.fer wL (.call (.glb 0 (Ol 679 22 27)) (.cons (.cst (.int 8) 0 (Ol 679 28 29)) .nil) .nil (Ol 679 22 30)) rk (Om 679 8 683 96)) .nil)))
noncomputable def Jc:PS:=(.cons (.ret (.loc 0 (Ol 684 11 15)) (Ol 684 4 15)) .nil)
noncomputable def Dd:PS:=(.cons (.asg (.cons (.loc 0 (Ol 675 4 8)) .nil) (.cst (.int 0) 0 (Ol 675 11 12)) (Ol 675 4 12)) (.cons (.fer Ck (.call (.glb 0 (Ol 676 18 23)) (.cons (.cst (.int 4) 0 (Ol 676 24 25)) .nil) .nil (Ol 676 18 26)) B3 (Om 676 4 683 96)) Jc))
theorem EL:Fn 362 dA Dd ["mine","yours"] [none,none,none,none,none] [none,none,none,some 1,some 0]:=⟨by kernel_rfl,by kernel_rfl,by kernel_rfl,rfl,consE λ_=>consE λ_=>nilE (by kernel_rfl)⟩
theorem fu {b:Int} {st:St} {K:List AV->(St->Prop)->Prop} (hb:b.natAbs<1000000) (h:K ((List.range b.toNat).map λi=>.int (i:Nat)) λ_=>True):iw (.rng 0 b 1) st K:=
 rq (by decide) hb (by rw[Int.sub_zero,show(λi:Nat=>AV.int (0+(i:Int)))=λi=>.int i from funext λi=>congrArg _ (Int.zero_add _)];exact h)
noncomputable def restOf (p:Nat):List Nat:=(List.range 4).filter λk=>!decide ((k:Int)=p)
noncomputable def c8 (m:List Int) (p:Nat) (b:Nat->Bool):List Int:=((List.range 3).filter b).map λk=>m.getD ((restOf p).getD k 0) 0
noncomputable def Kx (m y:List Int) (p c:Nat):Int:=(5040*((c8 m p (cM c)).sum*y.getD p 0+(c8 y p λk=>!cM c k).sum*m.getD p 0+m.getD p 0*y.getD p 0)).fdiv (m.getD p 0+y.getD p 0)
noncomputable def CZ (m y:List Int) (p:Nat) (best:Int) (c:Nat):Int:=
 if(c8 m p (cM c)).sum<= (c8 y p λk=>!cM c k).sum+y.getD p 0/\(c8 y p λk=>!cM c k).sum<= (c8 m p (cM c)).sum+m.getD p 0 then(if Kx m y p c>best then Kx m y p c else best) else best
noncomputable def iB (m y:List Int):Int:=(List.range 4).foldl (λbest p=>(List.range 8).foldl (CZ m y p) best) 0
noncomputable abbrev gN (l:List Nat):List AV:=l.map λk=>.int (k:Nat)
noncomputable def ve (m y:List Int) (choice rest parted:Option AV) (J:List AO):List AO:=.cell choice::.cell rest::.cell parted::.cell (some (.ilst (bc y)))::.cell (some (.ilst (bc m)))::J
noncomputable def zE (l:List (Option AV)):Prop:=∃x,l=[x]
theorem pY:∀p,p<4->(restOf p).length=3/\∀k,k<3->(restOf p).getD k 0<4:=by decide
section
variable {D tk:Nat} {m y:List Int} {c r:Option AV} {p:Nat} {J:List AO}
theorem xZ {P:St->Prop} (h:∀lc,P ⟨lc,ve m y c r (some (.int p)) J++[.list (gN (restOf p))],tk⟩):
  dH (ve m y c r (some (.int p)) J).length (λ_=>True) (wW D rm (.loc 0 (Ol 677 22 23))).a (bV D rm (some BO)) (wW D rm (.loc 0 (Ol 677 16 17))).e (gN (List.range 4)) ⟨[none],ve m y c r (some (.int p)) J++[.list []],tk⟩ P:=by
 refine bM (H:=ve m y c r (some (.int p)) J) (L:=List.range 4) (λk:Nat=>AV.int k) (λk=>!decide ((k:Int)=p)) (λk=>.int (k:Nat)) (λk=>[some (.int k)]) zE (λ_ _=>trivial) (λa=>⟨_,rfl⟩) ?_ (List.range 4) [] [none] (λ_ h=>h) ⟨_,rfl⟩ (by decide) h
 rintro a us lc Kc ha ⟨x0,rfl⟩ hl h1 h2
 exact⟨aa rfl,λhb=>dY hl (h1 hb),λhb=>h2 hb⟩
theorem sz {l:List Nat} {i:Nat} (h:i<l.length):(gN l)[i]? =some (.int (l.getD i 0:Nat)):=by
 rw[aO,aq h,aB,aq h];rfl
theorem iO {a b:Nat} (h:a<b) (hb:b<100000):(a:Int)<100000:=Int.ofNat_lt.mpr (aH h hb)
noncomputable abbrev lA (m y:List Int) (ch i p:Nat) (J:List AO):List AO:=ve m y (some (.int ch)) (some (.ref i)) (some (.int p)) J
variable {P:St->Prop} {ch i:Nat}
theorem sW {mm:List Int} {b:Nat->Bool}:((List.range 3).filter b).map (λk=>AV.int (mm.getD ((restOf p).getD k 0) 0))=bc (c8 mm p b):=(List.map_map (g:=AV.int) (f:=λk=>mm.getD ((restOf p).getD k 0) 0)).symm
theorem Jj (hp:p<4) (hj:(lA m y ch i p J)[i]? =some (.list (gN (restOf p)))) (hm:m.length=4) (h:∀lc,P ⟨lc,lA m y ch i p J++[.list (bc (c8 m p (cM ch)))],tk⟩):
  dH (lA m y ch i p J).length (λ_=>True) (wW D qX (.loc 0 (Ol 680 43 44))).a (bV D qX (some CG)) (wW D qX CJ).e (gN (List.range 3)) ⟨[none],lA m y ch i p J++[.list []],tk⟩ P:=by
 refine bM (H:=lA m y ch i p J) (L:=List.range 3) (λk:Nat=>AV.int k) (cM ch) (λk=>.int (m.getD ((restOf p).getD k 0) 0)) (λk=>[some (.int k)]) zE (λ_ _=>trivial) (λa=>⟨_,rfl⟩) ?_ (List.range 3) [] [none] (λ_ h=>h) ⟨_,rfl⟩ (by decide) (λlc=>by rw[List.nil_append,sW];exact h lc)
 rintro a us lc Kc ha ⟨x0,rfl⟩ hl h1 h2
 have ha:=List.mem_range.mp ha
 have ro:=pY p hp
 exact⟨aa rfl,aU a,λhb=>cf (show bq _ _ _ from aZ hj) (aU a) (iO ha (by decide)) _ (sz (ro.1.symm▸ha)) (cf (show bq _ _ _ from rfl) (aU _) (iO (ro.2 a ha) (by decide)) _ (bQ (hm.symm▸ro.2 a ha)) (dY hl (h1 hb))),λhb=>h2 hb⟩
theorem Km (hp:p<4) (hj:(lA m y ch i p J)[i]? =some (.list (gN (restOf p)))) (hm:y.length=4) (h:∀lc,P ⟨lc,lA m y ch i p J++[.list (bc (c8 y p λk=>!cM ch k))],tk⟩):
  dH (lA m y ch i p J).length (λ_=>True) (wW D q9 (.loc 0 (Ol 681 45 46))).a (bV D q9 (some BQ)) (wW D q9 B5).e (gN (List.range 3)) ⟨[none],lA m y ch i p J++[.list []],tk⟩ P:=by
 refine bM (H:=lA m y ch i p J) (L:=List.range 3) (λk:Nat=>AV.int k) (λk=>!cM ch k) (λk=>.int (y.getD ((restOf p).getD k 0) 0)) (λk=>[some (.int k)]) zE (λ_ _=>trivial) (λa=>⟨_,rfl⟩) ?_ (List.range 3) [] [none] (λ_ h=>h) ⟨_,rfl⟩ (by decide) (λlc=>by rw[List.nil_append,sW];exact h lc)
 rintro a us lc Kc ha ⟨x0,rfl⟩ hl h1 h2
 have ha:=List.mem_range.mp ha
 have ro:=pY p hp
 exact⟨aa rfl,aU a,λhb=>cf (show bq _ _ _ from aZ hj) (aU a) (iO ha (by decide)) _ (sz (ro.1.symm▸ha)) (cf (show bq _ _ _ from rfl) (aU _) (iO (ro.2 a ha) (by decide)) _ (bQ (hm.symm▸ro.2 a ha)) (dY hl (h1 hb))),λhb=>h2 hb⟩
theorem yH {k:Nat} {v:AO} (h:J[k]? =some v):(lA m y ch i p J)[k+5]? =some v:=h
structure cJ (m:List Int):Prop where
 len:m.length=4
 bd:∀v∈m,0<v/\v<100
theorem cJ.get {m:List Int} (h:cJ m) {i:Nat} (hi:i<4):0<m.getD i 0/\m.getD i 0<100:=by
 rw[aB,aq (h.len.symm▸hi)]
 exact h.bd _ (List.getElem_mem _)
theorem dQ {z:Int} (h0:0<=z) (h:z<1000):small z:=by
 obtain⟨k,rfl⟩:=Int.eq_ofNat_of_zero_le h0
 exact aH (Int.ofNat_lt.mp h) (by decide)
noncomputable def vq (m y:List Int) (best:Int) (x1 x2 x3 x4 choice rest parted:Option AV) (J:List AO) (tk:Nat):St:=⟨[some (.int best),x1,x2,x3,x4],ve m y choice rest parted J,tk⟩
theorem Kr {k:Nat} {P:AF->St->Prop} (hp:p<4) (hm:cJ m) (hy:cJ y) (l:List Nat):∀(best:Int) (x3 x4 c0:Option AV) (J:List AO),J[k]? =some (.list (gN (restOf p)))->
  (∀x3 x4 c0 J,P .next (vq m y (l.foldl (CZ m y p) best) (some (.int (m.getD p 0))) (some (.int (y.getD p 0))) x3 x4 c0 (some (.ref (k+5))) (some (.int p)) J tk))->
  bD (λ_=>True) (wW D dA wL).a (bB D dA rk) (gN l) (vq m y best (some (.int (m.getD p 0))) (some (.int (y.getD p 0))) x3 x4 c0 (some (.ref (k+5))) (some (.int p)) J tk) P:=by
 induction l with
 |nil=>exactλbest x3 x4 c0 J hJ h=>⟨trivial,h x3 x4 c0 J⟩
 |cons c l ih=>
  intro best x3 x4 c0 J hJ h
  have hJ2:(J++[.list (bc (c8 m p (cM c)))])[k]? =some (.list (gN (restOf p))):=aZ hJ
  refine⟨trivial,fY (by kernel_rfl) (dC (fu (by decide) (Jj (ch:=c) (i:=k+5) (J:=J) hp (yH hJ) hm.len λlc=>lr _ (show bq _ _ _ from aX) ⟨aa rfl,?_⟩)))⟩
  show bB D dA rk.tl (vq m y best (some (.int (m.getD p 0))) (some (.int (y.getD p 0))) (some (.int (c8 m p (cM c)).sum)) x4 (some (.int c)) (some (.ref (k+5))) (some (.int p)) (J++[.list (bc (c8 m p (cM c)))]) tk) _
  refine fY (by kernel_rfl) (dC (fu (by decide) ?_))
  have z:=λP h=>Km (D:=D) (tk:=tk) (P:=P) (m:=m) (y:=y) (ch:=c) (i:=k+5) (J:=J++[.list (bc (c8 m p (cM c)))]) hp (yH hJ2) hy.len h
  refine z _ λlc=>lr _ (show bq _ _ _ from aX) ⟨aa rfl,?_⟩
  have fin:∀b',CZ m y p best c=b'->bD (λ_=>True) (wW D dA wL).a (bB D dA rk) (gN l) (vq m y b' (some (.int (m.getD p 0))) (some (.int (y.getD p 0))) (some (.int (c8 m p (cM c)).sum)) (some (.int (c8 y p λk=>!cM c k).sum)) (some (.int c)) (some (.ref (k+5))) (some (.int p)) (J++[.list (bc (c8 m p (cM c)))]++[.list (bc (c8 y p λk=>!cM c k))]) tk) P:=λb' hb'=>ih b' _ _ _ _ (aZ (aZ hJ)) (hb'▸h)
  refine⟨λh1=>⟨λh=>(nomatch h),λ_=>fin best (if_neg λhh=>(a9 h1) hh.1)⟩,λh1=>⟨λh2=>⟨λh=>(nomatch h),λ_=>fin best (if_neg λhh=>(a9 h2) hh.2)⟩,λh2=>⟨λ_=>?_,λh=>(nomatch h)⟩⟩⟩
  have b1:=hm.get hp
  have b2:=hy.get hp
  have s1:=dQ (Int.le_of_lt b1.1) (Int.lt_trans b1.2 (by decide))
  have s2:=dQ (Int.le_of_lt b2.1) (Int.lt_trans b2.2 (by decide))
  exact⟨.inr s2,.inr s1,.inr s2,.inl (show(5040:Int).natAbs<1000000000000 by decide),Int.ne_of_gt (Int.add_pos b1.1 b2.1),dQ (Int.le_of_lt (Int.add_pos b1.1 b2.1)) (Int.lt_trans (Int.add_lt_add b1.2 b2.2) (by decide)),wO ⟨aa rfl,fin _ (if_pos ⟨aj h1,aj h2⟩)⟩⟩
theorem F5 {P:AF->St->Prop} (hm:cJ m) (hy:cJ y) (l:List Nat):∀(best:Int) (x1 x2 x3 x4 c0 r0 p0:Option AV) (J:List AO),(∀p∈l,p<4)->
  (∀x1 x2 x3 x4 c0 r0 p0 J,P .next (vq m y (l.foldl (λbest p=>(List.range 8).foldl (CZ m y p) best) best) x1 x2 x3 x4 c0 r0 p0 J tk))->
  bD (λ_=>True) (wW D dA Ck).a (bB D dA B3) (gN l) (vq m y best x1 x2 x3 x4 c0 r0 p0 J tk) P:=by
 induction l with
 |nil=>exactλbest x1 x2 x3 x4 c0 r0 p0 J hl h=>⟨trivial,h x1 x2 x3 x4 c0 r0 p0 J⟩
 |cons p l ih=>
  intro best x1 x2 x3 x4 c0 r0 p0 J hl h
  have hp:=hl p (.head _)
  refine⟨trivial,yP (by kernel_rfl) rfl (dC (fu (by decide) (xZ (J:=J) λlc=>?_)))⟩
  refine cf (show bq _ _ _ from rfl) (aU p) (iO hp (by decide)) _ (bQ (hm.len.symm▸hp)) (cf (show bq _ _ _ from rfl) (aU p) (iO hp (by decide)) _ (bQ (hy.len.symm▸hp)) ⟨aa rfl,rfl,dC (fu (by decide) ?_)⟩)
  refine Kr (k:=J.length) hp hm hy (List.range 8) best x3 x4 c0 (J++[.list (gN (restOf p))]) aX ?_
  exactλx3 x4 c0 J=>ih _ _ _ _ _ _ _ _ J (λq hq=>hl q (.tail _ hq)) h
variable {st:St} {P:PV}
theorem Eu {a b:Nat} (ea:st.at a=some (.list (bc m))) (eb:st.at b=some (.list (bc y))) (hm:cJ m) (hy:cJ y) (h:P (.int (iB m y)) st):bw (D+1) 362 [.ref a,.ref b] [] st P:=
 EL.own (.lst ea (gw (λ_=>rfl) m) (.lst eb (gw (λ_=>rfl) y) .nil)) rfl rfl ⟨aa rfl,dC (fu (by decide) (F5 hm hy (List.range 4) 0 none none none none none none none [] (λp hp=>List.mem_range.mp hp) λx1 x2 x3 x4 c0 r0 p0 J=>⟨st.tk,ak _,.inl ⟨rfl,h⟩⟩))⟩
end
noncomputable def dZ:Sx:=⟨["goods","wanted","bar","found","common","beside","both"],[("good",0),("wish",1)],[("len",.builtin "len"),("range",.type "range"),("sorted",.builtin "sorted")],0⟩
noncomputable def rx:Sx:=⟨["sign"],[("wish",1)],[],0⟩
noncomputable def qS:Sx:=⟨["k"],[("good",0),("wish",1)],[],0⟩
noncomputable def qJ:Sx:=⟨["share","good"],[],[],0⟩
noncomputable def Ca:PE:=(.cmp (.loc 0 (Ol 658 47 51)) .In (.cel 0 (Ol 658 55 59)) (Ol 658 47 59))
noncomputable def Cg:PE:=(.cmp (.slc (.cel 0 (Ol 660 60 64)) (.loc 0 (Ol 660 65 66)) (.bin (.loc 0 (Ol 660 67 68)) .Add (.cst (.int 2) 0 (Ol 660 71 72)) (Ol 660 67 72)) (Ol 660 65 72) (Ol 660 60 73)) .In (.cel 1 (Ol 660 77 81)) (Ol 660 60 81))
noncomputable def Cu:PE:=(.tup (.cons (.loc 0 (Ol 665 21 26)) (.cons (.loc 1 (Ol 665 28 32)) .nil)) 0 (Ol 665 21 32))
noncomputable def JT:PS:=(.ite (.boo .And (.cons (.cmp (.loc 4 (Ol 659 11 17)) .Gt (.cst (.int 1) 0 (Ol 659 20 21)) (Ol 659 11 21)) (.cons (.cmp (.sub (.cel 0 (Ol 659 26 30)) (.cst (.int 0) 0 (Ol 659 31 32)) (Ol 659 26 33)) .In (.cel 1 (Ol 659 37 41)) (Ol 659 26 41)) (.cons (.cmp (.sub (.cel 0 (Ol 659 47 51)) (.cst (.int 1) 0 (Ol 659 52 53)) (Ol 659 47 54)) .Lt (.sub (.cel 0 (Ol 659 57 61)) (.cst (.int 0) 0 (Ol 659 62 63)) (Ol 659 57 64)) (Ol 659 47 64)) .nil))) (Ol 659 11 65)) (.cons (.raw (n7 dZ qS 5 (Ol 660 12 18) (.loc 0 (Ol 660 28 29)) (.call (.glb 1 (Ol 660 33 38)) (.cons (.cst (.int 1) 0 (Ol 660 39 40)) (.cons (.bin (.call (.glb 0 (Ol 660 42 45)) (.cons (.cel 0 (Ol 660 46 50)) .nil) .nil (Ol 660 42 51)) .Sub (.cst (.int 1) 0 (Ol 660 54 55)) (Ol 660 42 55)) .nil)) .nil (Ol 660 33 56)) (some Cg) (.loc 0 (Ol 660 22 23)) ⟨.function,[(".0",.local),("k",.local),("good",.free),("wish",.free)],false,false,[]⟩ (Ol 660 21 82) (Ol 660 12 82))) (.cons (.asg (.cons (.loc 4 (Ol 661 12 18)) .nil) (.ifx (.cmp (.loc 5 (Ol 661 35 41)) .NotEq (.lst .nil (Ol 661 45 47)) (Ol 661 35 47)) (.bin (.loc 4 (Ol 661 21 27)) .Sub (.cst (.int 1) 0 (Ol 661 30 31)) (Ol 661 21 31)) (.cst (.int 1) 0 (Ol 661 53 54)) (Ol 661 21 54)) (Ol 661 12 54)) .nil)) .nil (Om 659 8 661 54))
noncomputable def JW:PS:=(.ite (.cmp (.bin (.cst (.int 16) 0 (Ol 663 11 13)) .Mult (.loc 4 (Ol 663 16 22)) (Ol 663 11 22)) .GtE (.bin (.loc 2 (Ol 663 26 29)) .Mult (.loc 6 (Ol 663 32 36)) (Ol 663 26 36)) (Ol 663 11 36)) (.cons (.expr (.meth (.loc 3 (Ol 664 12 17)) "append" (Ol 664 12 24) (.cons (.tup (.cons (.bin (.bin (.cst (.int 55440) 0 (Ol 664 26 31)) .Mult (.loc 4 (Ol 664 34 40)) (Ol 664 26 40)) .FloorDiv (.loc 6 (Ol 664 44 48)) (Ol 664 26 48)) (.cons (.cel 0 (Ol 664 50 54)) .nil)) 0 (Ol 664 25 55)) .nil) .nil (Ol 664 12 56)) (Ol 664 12 56)) .nil) .nil (Om 663 8 664 56))
noncomputable def wt:PS:=(.cons (.asg (.cons (.loc 6 (Ol 662 8 12)) .nil) (.bin (.call (.glb 0 (Ol 662 15 18)) (.cons (.cel 1 (Ol 662 19 23)) .nil) .nil (Ol 662 15 24)) .Add (.call (.glb 0 (Ol 662 27 30)) (.cons (.cel 0 (Ol 662 31 35)) .nil) .nil (Ol 662 27 36)) (Ol 662 15 36)) (Ol 662 8 36)) (.cons JW .nil))
noncomputable def wa:PE:=(.cel 0 (Ol 657 8 12))
noncomputable def v5:PS:=(.cons (.asg (.cons (.loc 4 (Ol 658 8 14)) .nil) (.call (.glb 0 (Ol 658 17 20)) (.cons (gR dZ rx (.loc 0 (Ol 658 31 35)) (.cel 0 (Ol 658 39 43)) (some Ca) (.loc 0 (Ol 658 22 26)) ⟨.function,[(".0",.local),("sign",.local),("wish",.free)],false,false,[]⟩ (Ol 658 21 60)) .nil) .nil (Ol 658 17 61)) (Ol 658 8 61)) (.cons JT wt))
noncomputable def IZ:PS:=(.cons (.ret (.slc (gR dZ qJ Cu (.call (.glb 2 (Ol 665 36 42)) (.cons (.loc 3 (Ol 665 43 48)) .nil) (.kw "reverse" (.cst (.bool true) 0 (Ol 665 58 62)) (Ol 665 50 62) .nil) (Ol 665 36 63)) none (.loc 1 (Ol 665 12 16)) ⟨.function,[(".0",.local),("share",.local),("good",.local)],false,false,[]⟩ (Ol 665 11 64)) .nil (.loc 1 (Ol 665 66 72)) (Ol 665 65 72) (Ol 665 11 73)) (Ol 665 4 73)) .nil)
noncomputable def Ea:PS:=(.cons (.asg (.cons (.loc 3 (Ol 656 4 9)) .nil) (.lst .nil (Ol 656 12 14)) (Ol 656 4 14)) (.cons (.fer wa (.loc 0 (Ol 657 16 21)) v5 (Om 657 4 664 56)) IZ))
theorem Ew:Fn 350 dZ Ea ["wish","goods","wanted","bar"] [some 1,some 2,some 3,none,none,none,none] [none,some 0]:=⟨by kernel_rfl,by kernel_rfl,by kernel_rfl,rfl,consE λ_=>consE λ_=>consE λ_=>consE λ_=>nilE (by kernel_rfl)⟩
noncomputable def je (wish g:List Nat):Int:=((g.filter λc=>mj [c] wish).length:Nat)
noncomputable def j4 (wish g:List Nat):List Nat:=(List.range (g.length-2)).filter λi=>mj ((g.drop (1+i)).take 2) wish
noncomputable def c7 (wish g:List Nat):Int:=
 if 1<je wish g/\mj [g.getD 0 0] wish=true/\[g.getD 1 0]<[g.getD 0 0] then(if j4 wish g=[] then 1 else je wish g-1) else je wish g
noncomputable def bZ (wish:List Nat) (bar:Int) (p:cw):List (Int×cw):=
 if bar*((wish.length:Int)+p.1.length)<=16*c7 wish p.1 then[((55440*c7 wish p.1).fdiv ((wish.length:Int)+p.1.length),p)] else[]
noncomputable def fM (p:Int×cw):AV:=.tup (.type "tuple") [.int p.1,.str p.2.1 p.2.2]
noncomputable def KV (v:AV):Int×cw:=match v with
 | .tup _ [.int i,.str g k]=>(i,g,k)
 |_=>(0,[],none)
noncomputable def iU (F:List (Int×cw)):List (Int×cw):=(cR true (bp 1) (F.map fM)).map KV
noncomputable def j7 (wish:List Nat) (gs:List cw) (wanted bar:Int):List cw:=cN none (some wanted) ((iU (gs.flatMap (bZ wish bar))).map (·.2))
structure NP where
 gs:List cw
 wish:List Nat
 kw:Option Tok
 wanted:Int
 bar:Int
 tk:Nat
noncomputable def mh (p:NP) (g:Option AV) (F:List (Int×cw)) (J:List AO):List AO:=.cell g::.cell (some (.str p.wish p.kw))::.list (F.map fM)::J
noncomputable def vn (p:NP) (x4 x5 x6:Option AV) (g:Option AV) (F:List (Int×cw)) (J:List AO):St:=⟨[some (.ilst (bX p.gs)),some (.int p.wanted),some (.int p.bar),some (.ref 2),x4,x5,x6],mh p g F J,p.tk⟩
section
variable {D:Nat} {p:NP} {F:List (Int×cw)} {J:List AO}
theorem xY {g:List Nat} {v:Option AV} {P:St->Prop} (hg:g.length<=100) (h:∀lc,P ⟨lc,mh p v F J++[.list ((g.filter λc=>mj [c] p.wish).map λc=>.str [c] none)],p.tk⟩):
  dH (mh p v F J).length (λ_=>True) (wW D rx (.loc 0 (Ol 658 31 35))).a (bV D rx (some Ca)) (wW D rx (.loc 0 (Ol 658 22 26))).e (g.map λc=>.str [c] none) ⟨[none],mh p v F J++[.list []],p.tk⟩ P:=by
 refine bM (H:=mh p v F J) (L:=g) (λc:Nat=>AV.str [c] none) (λc=>mj [c] p.wish) (λc=>.str [c] none) (λc=>[some (.str [c] none)]) zE (λ_ _=>trivial) (λa=>⟨_,rfl⟩) ?_ g [] [none] (λ_ h=>h) ⟨_,rfl⟩ (ag (Nat.le_of_eq (Nat.zero_add _)) (ag hg (by decide))) h
 rintro a us lc Kc ha ⟨x0,rfl⟩ hl h1 h2
 exact⟨aa rfl,td ⟨λhb=>dY hl (h1 hb),λhb=>h2 hb⟩⟩
noncomputable abbrev KG (l:List Nat):List AV:=l.map λi=>.int (1+(i:Nat))
theorem yc {g:List Nat} {kg:Option Tok} {P:St->Prop} (hg:g.length<=100) (h:∀lc,P ⟨lc,mh p (some (.str g kg)) F J++[.list (KG (j4 p.wish g))],p.tk⟩):
  dH (mh p (some (.str g kg)) F J).length (λ_=>True) (wW D qS (.loc 0 (Ol 660 28 29))).a (bV D qS (some Cg)) (wW D qS (.loc 0 (Ol 660 22 23))).e (KG (List.range (g.length-2))) ⟨[none],mh p (some (.str g kg)) F J++[.list []],p.tk⟩ P:=by
 refine bM (H:=mh p (some (.str g kg)) F J) (L:=List.range (g.length-2)) (λi:Nat=>AV.int (1+(i:Nat))) (λi=>mj ((g.drop (1+i)).take 2) p.wish) (λi=>.int (1+(i:Nat))) (λi=>[some (.int (1+(i:Nat)))]) zE (λ_ _=>trivial) (λa=>⟨_,rfl⟩) ?_ (List.range (g.length-2)) [] [none] (λ_ h=>h) ⟨_,rfl⟩ (by rw[List.length_nil,Nat.zero_add,List.length_range];exact ag (Nat.sub_le ..) (ag hg (by decide))) h
 rintro a us lc Kc ha ⟨x0,rfl⟩ hl h1 h2
 have ha:=Nat.add_lt_of_lt_sub (List.mem_range.mp ha)
 have h0:(0:Int)<=1+(a:Nat):=aU (1+a)
 have h3:(1:Int)+(a:Nat)+2<=g.length:=Int.ofNat_le.mpr (show 1+a+2<=g.length by rw[Nat.add_comm 1,Nat.add_right_comm];exact ha)
 have e2:((1:Int)+(a:Nat)+2).toNat-((1:Int)+(a:Nat)).toNat=2:=Nat.add_sub_cancel_left (1+a) 2
 refine⟨aa rfl,Dp h0 (Int.le_add_of_nonneg_right (by decide)) h3 (ag hg (by decide)) ?_⟩
 rw[e2]
 exact td ⟨λhb=>dY hl (h1 hb),λhb=>h2 hb⟩
theorem mF {g:List Nat} {i:Nat} (h:i<g.length):g[i]? =some (g.getD i 0):=by rw[aB,aq h];rfl
theorem EZ {g:List Nat} {kg:Option Tok} {Q:AF->St->Prop} {y5 y6:Option AV} (hw:p.wish.length<=100) (hg:g.length<=100) (hg1:1<=g.length) (hF:F.length<=100) (h:∀y6,Q .next (vn p (some (.int (c7 p.wish g))) y5 y6 (some (.str g kg)) (F++bZ p.wish p.bar (g,kg)) J)):
  bB D dZ wt (vn p (some (.int (c7 p.wish g))) y5 y6 (some (.str g kg)) F J) Q:=by
 have hb:small ((p.wish.length:Int)+g.length):=kP (aJ hw (by decide)) (aJ hg (by decide))
 refine cW (aJ hw (by decide)) (cW (aJ hg (by decide)) ⟨aa rfl,.inl (show(16:Int).natAbs<1000000000000 by decide),.inr hb,λh1=>?_,λh1=>?_⟩)
 ·have z:=h (some (.int ((p.wish.length:Int)+g.length)))
  rw[show bZ p.wish p.bar (g,kg)=_ from if_pos (aj h1)] at z
  unfold vn mh at z
  rw[List.map_append] at z
  exact dz de (show bq _ _ _ from rfl) ⟨.inl (show(55440:Int).natAbs<1000000000000 by decide),sZ (aP hg1 (Nat.le_add_left ..)),hb,aa rfl,rfl,dD _ rfl (by rw[ai];exact ag hF (by decide)) z⟩
 ·have z:=h (some (.int ((p.wish.length:Int)+g.length)))
  rw[show bZ p.wish p.bar (g,kg)=_ from if_neg (a9 h1),List.append_nil] at z
  exact z
theorem lZ {q:cw}:(bZ p.wish p.bar q).length<=1:=bU (λl:List (Int×cw)=>l.length<=1) (ak _) (Nat.zero_le _)
theorem Bg {wish g:List Nat} (hn:¬(1<je wish g/\mj [g.getD 0 0] wish=true/\[g.getD 1 0]<[g.getD 0 0])):c7 wish g=je wish g:=if_neg hn
theorem Ez {P:AF->St->Prop} {chk:St->Prop} (hc:∀s,chk s) (hw:p.wish.length<=100) (l:List cw):∀(F:List (Int×cw)) (x4 x5 x6 v:Option AV) (J:List AO),(∀q∈l,q.1.length<=100/\1<=q.1.length)->F.length+l.length<=100->
  (∀x4 x5 x6 v J,P .next (vn p x4 x5 x6 v (F++l.flatMap (bZ p.wish p.bar)) J))->bD chk (wW D dZ wa).a (bB D dZ v5) (bX l) (vn p x4 x5 x6 v F J) P:=by
 induction l with
 |nil=>exactλF x4 x5 x6 v J _ _ h=>⟨hc _,by have z:=h x4 x5 x6 v J;rwa [List.flatMap_nil,List.append_nil] at z⟩
 |cons q l ih=>
  intro F x4 x5 x6 v J hl hF h
  obtain⟨g,kg⟩:=q
  have hg:=hl _ (.head _)
  have rest:∀(y5:Option AV) (J':List AO) (K:Int),c7 p.wish g=K->bB D dZ wt (vn p (some (.int K)) y5 x6 (some (.str g kg)) F J') (pG (bD chk (wW D dZ wa).a (bB D dZ v5) (bX l)) P):=λy5 J' K e=>by
   subst e
   exact EZ hw hg.1 hg.2 (ag (aQ ..) hF) λy6=>ih _ _ _ _ _ _ (λq hq=>hl q (.tail _ hq)) (by rw[aI,Nat.add_assoc];exact ag (Nat.add_le_add_left (Nat.add_le_add_right lZ _) _) (ag (Nat.le_of_eq (by rw[Nat.add_comm 1];rfl)) hF)) (by rw[List.flatMap_cons] at h;rw[ax];exact h)
  clear ih h
  refine⟨hc _,fY (by kernel_rfl) (wm (xY (J:=J) hg.1 λlc=>gn _ (show bq _ _ _ from aX) ?_ ⟨aa rfl,?_⟩))⟩
  ·rw[ai];exact ag (List.length_filter_le ..) (ag hg.1 (by decide))
  have lg:g.length<1000:=aJ hg.1 (by decide)
  have eC:je p.wish g=(((g.filter λc=>mj [c] p.wish).map λc=>AV.str [c] none).length:Int):=congrArg (λn:Nat=>(n:Int)) (ai ..).symm
  have no:=λhn=>(Bg (wish:=p.wish) (g:=g) hn).trans eC
  refine⟨λh1=>⟨λh=>(nomatch h),λ_=>rest _ _ _ (no λhh=>a9 h1 (eC▸hh.1))⟩,λh1=>?_⟩
  have hc1:1<je p.wish g:=eC▸aj h1
  have h2g:2<=g.length:=ag (Int.ofNat_lt.mp hc1) (List.length_filter_le ..)
  refine cL (by decide) lg _ (mF (i:=0) hg.2) (td ⟨λh2=>⟨λh=>(nomatch h),λ_=>rest _ _ _ (no λhh=>au (h2.symm.trans hh.2.1))⟩,λh2=>?_⟩)
  refine cL (by decide) lg _ (mF (i:=1) h2g) (cL (by decide) lg _ (mF (i:=0) hg.2) (HF 0 (by decide) trivial rfl rfl ⟨λh3=>⟨λh=>(nomatch h),λ_=>rest _ _ _ (no λhh=>a9 h3 hh.2.2)⟩,λh3=>⟨λ_=>?_,λh=>(nomatch h)⟩⟩))
  have hK:c7 p.wish g=if j4 p.wish g=[] then 1 else je p.wish g-1:=if_pos ⟨hc1,h2,aj h3⟩
  refine lL rfl rfl (by kernel_rfl) (wd (by kernel_rfl) ?_)
  have eg:(g.length:Int)-1=((g.length-1:Nat):Int):=(Int.ofNat_sub (Nat.le_of_succ_le h2g)).symm
  refine cW (aH lg (by decide)) (zc (rq (by decide) (by rw[eg];exact aJ (Nat.sub_le ..) (aH lg (by decide))) ?_))
  rw[show((g.length:Int)-1-1).toNat=g.length-2 by rw[Int.sub_sub];exact Int.toNat_sub g.length 2]
  have z:=λP h=>yc (D:=D) (P:=P) (p:=p) (F:=F) (J:=J++[.list ((g.filter λc=>mj [c] p.wish).map λc=>.str [c] none)]) (g:=g) (kg:=kg) hg.1 h
  refine z _ λlc=>⟨aa rfl,aa rfl,?_⟩
  refine xd true ((j4 p.wish g).map λi=>1+(i:Nat)) [] (by rw[List.map_map];exact(show bq _ _ _ from aZ aX)) (show bq _ _ _ from aX) ?_
  by_cases hq:j4 p.wish g=[]
  ·rw[aR (show(j4 p.wish g).map (λi:Nat=>(1:Int)+i)=[] by rw[hq];rfl)]
   exact⟨λh=>(nomatch h),λ_=>⟨aa rfl,rest _ _ _ (hK.trans (if_pos hq))⟩⟩
  ·rw[decide_eq_false (λe:(j4 p.wish g).map (λi:Nat=>(1:Int)+i)=[]=>hq (List.map_eq_nil_iff.mp e))]
   exact⟨λ_=>⟨aa rfl,rest _ _ _ (hK.trans ((if_neg hq).trans (congrArg (·-1) eC)))⟩,λh=>(nomatch h)⟩
theorem pf {F:List (Int×cw)} (h:F.length<6):cR true (bp 1) (F.map fM)=(iU F).map fM/\(iU F).length=F.length:=by
 have hl:(F.map fM).length<6:=by rw[ai];exact h
 refine⟨?_,(ai ..).trans ((iE hl).trans (ai ..))⟩
 unfold iU
 rw[List.map_map]
 refine(List.map_id _).symm.trans (List.map_congr_left λx hx=>?_)
 obtain⟨p,_,rfl⟩:=aG.mp (jE hl hx)
 rfl
theorem si {gs:List cw}:(gs.flatMap (bZ p.wish p.bar)).length<=gs.length:=by
 induction gs with
 |nil=>exact ak _
 |cons q gs ih=>rw[List.flatMap_cons,aI,List.length_cons,Nat.add_comm gs.length];exact Nat.add_le_add lZ ih
noncomputable def NT (l:List (Option AV)):Prop:=∃x y,l=[x,y]
theorem DE {H:List AO} {tk n:Nat} {S:List (Int×cw)} {P:St->Prop} (hS:S.length<=100) (hn:H[n]? =some (.list (S.map fM))) (h:∀lc,P ⟨lc,H++[.list (bX (S.map (·.2)))],tk⟩):
  dH H.length (λst=>bq st (.ref n) (S.map fM)) (wW D qJ Cu).a (bV D qJ none) (wW D qJ (.loc 1 (Ol 665 12 16))).e (S.map fM) ⟨[none,none],H++[.list []],tk⟩ P:=by
 refine bM (H:=H) (L:=S) fM (λ_=>true) (λp=>.str p.2.1 p.2.2) (λp=>[some (.int p.1),some (.str p.2.1 p.2.2)]) NT (λ_ _=>aZ hn) (λa=>⟨_,_,rfl⟩) ?_ S [] [none,none] (λ_ h=>h) ⟨_,_,rfl⟩ (ag (Nat.le_of_eq (Nat.zero_add _)) (ag hS (by decide))) (λlc=>?_)
 ·rintro a us lc Kc ha ⟨x0,x1,rfl⟩ hl h1 h2
  exact⟨rfl,aa rfl,aa rfl,λhb=>dY hl (h1 rfl),λhb=>nomatch hb⟩
 ·have z:=h lc
  unfold bX at z
  rw[List.map_map] at z
  rw[List.filter_eq_self.mpr λ_ _=>rfl]
  exact z
variable {st:St} {P:PV}
theorem E6 {wish:List Nat} {kw:Option Tok} {gs:List cw} {wanted bar:Int} {i:Nat} (ei:st.at i=some (.list (bX gs))) (hw:wish.length<=100) (hg:∀q∈gs,q.1.length<=100/\1<=q.1.length) (hl:gs.length<6) (h:P (.ref st.hp.length) ⟨st.loc,st.hp++[.list (bX (j7 wish gs wanted bar))],st.tk⟩):
  bw (D+1) 350 [.str wish kw,.ref i,.int wanted,.int bar] [] st P:=by
 refine Ew.own (.val rfl (.lst ei (gw (λ_=>rfl) gs) (.val rfl (.val rfl .nil)))) rfl rfl ⟨aa rfl,aa rfl,fC (bX gs) (show bq _ _ _ from rfl) ?_⟩
 let p:NP:=⟨gs,wish,kw,wanted,bar,st.tk⟩
 refine Ez (p:=p) (λ_=>rfl) hw gs [] none none none none [] hg (ag (Nat.le_of_eq (Nat.zero_add _)) (Nat.le_of_lt (aH hl (by decide)))) λx4 x5 x6 v J=>?_
 rw[List.nil_append]
 have hF:(gs.flatMap (bZ wish bar)).length<6:=aJ (si (p:=p)) hl
 have so:=pf hF
 have h5:(iU (gs.flatMap (bZ wish bar))).length<=100:=so.2▸Nat.le_of_lt (aH hF (by decide))
 refine fY (by kernel_rfl) (o9 _ (bp 1) true (show bq _ _ _ from rfl) (.inr (.inl rfl)) (jV (d:=0) (T:="int") (by decide) (λx hx=>?_) (λx y hx hy=>?_) (by rw[ai];exact hF)) ?_)
 ·obtain⟨p,_,rfl⟩:=aG.mp hx
  exact⟨_,_,rfl,rfl⟩
 ·obtain⟨p,_,rfl⟩:=aG.mp hx
  obtain⟨q,_,rfl⟩:=aG.mp hy
  exact⟨rfl,rfl,⟨trivial,trivial,trivial⟩,⟨trivial,trivial,trivial⟩,⟨trivial,trivial,trivial⟩⟩
 rw[so.1]
 refine fC _ (show bq _ _ _ from aX) (DE (S:=iU (gs.flatMap (bZ wish bar))) h5 aX λlc=>?_)
 refine iF _ none (some wanted) (show bq _ _ _ from aX) rfl rfl (by unfold bX;rw[ai,ai];exact ag h5 (by decide)) ⟨st.tk,ak _,.inr ⟨_,_,rfl,aX,?_,?_⟩⟩
 ·unfold bX;rw[List.map_map,fL];exact mL (λ_=>rfl) _
 ·unfold j7 bX at h
  rw[<-fL] at h
  exact h
end
noncomputable abbrev HE (x:Sx) (l:Nat) (p1:Pos) (arg:PE) (p:Pos):PE:=.rawA (.Name (bu x.nms l) p1) [arg.toM x] [] p
noncomputable def iS:Sx:=⟨["a","x","lo","hi","key","mid"],[],[("ValueError",.type "ValueError"),("len",.builtin "len")],0⟩
noncomputable def iK:Sx:=⟨["a","x","lo","hi","key"],[],[("bisect_right_bisect2",.ref 333)],0⟩
noncomputable def I8:PE:=(.cmp (.loc 2 (Ol 629 14 16)) .Lt (.loc 3 (Ol 629 19 21)) (Ol 629 14 21))
noncomputable def Jf:PS:=(.cons (.asg (.cons (.loc 5 (Ol 630 12 15)) .nil) (.bin (.bin (.loc 2 (Ol 630 19 21)) .Add (.loc 3 (Ol 630 24 26)) (Ol 630 19 26)) .FloorDiv (.cst (.int 2) 0 (Ol 630 31 32)) (Ol 630 18 32)) (Ol 630 12 32)) (.cons (.ite (.cmp (.loc 1 (Ol 631 15 16)) .Lt (.sub (.loc 0 (Ol 631 19 20)) (.loc 5 (Ol 631 21 24)) (Ol 631 19 25)) (Ol 631 15 25)) (.cons (.asg (.cons (.loc 3 (Ol 632 16 18)) .nil) (.loc 5 (Ol 632 21 24)) (Ol 632 16 24)) .nil) (.cons (.asg (.cons (.loc 2 (Ol 634 16 18)) .nil) (.bin (.loc 5 (Ol 634 21 24)) .Add (.cst (.int 1) 0 (Ol 634 27 28)) (Ol 634 21 28)) (Ol 634 16 28)) .nil) (Om 631 12 634 28)) .nil))
noncomputable def Cw:PE:=(.cmp (.loc 2 (Ol 636 14 16)) .Lt (.loc 3 (Ol 636 19 21)) (Ol 636 14 21))
noncomputable def BU:PS:=(.cons (.asg (.cons (.loc 5 (Ol 637 12 15)) .nil) (.bin (.bin (.loc 2 (Ol 637 19 21)) .Add (.loc 3 (Ol 637 24 26)) (Ol 637 19 26)) .FloorDiv (.cst (.int 2) 0 (Ol 637 31 32)) (Ol 637 18 32)) (Ol 637 12 32)) (.cons (.ite (.cmp (.loc 1 (Ol 638 15 16)) .Lt (HE iS 4 (Ol 638 19 22) (.sub (.loc 0 (Ol 638 23 24)) (.loc 5 (Ol 638 25 28)) (Ol 638 23 29)) (Ol 638 19 30)) (Ol 638 15 30)) (.cons (.asg (.cons (.loc 3 (Ol 639 16 18)) .nil) (.loc 5 (Ol 639 21 24)) (Ol 639 16 24)) .nil) (.cons (.asg (.cons (.loc 2 (Ol 641 16 18)) .nil) (.bin (.loc 5 (Ol 641 21 24)) .Add (.cst (.int 1) 0 (Ol 641 27 28)) (Ol 641 21 28)) (Ol 641 16 28)) .nil) (Om 638 12 641 28)) .nil))
noncomputable def tG:PS:=(.cons (.doc (dc [17,0])) (.cons (.ite (.cmp (.loc 2 (Ol 624 7 9)) .Lt (.cst (.int 0) 0 (Ol 624 12 13)) (Ol 624 7 13)) (.cons (.dead (dc [17,1,0])) .nil) .nil (Om 624 4 625 51)) (.cons (.ite (.cmp (.loc 3 (Ol 626 7 9)) .Is (.cst .none 0 (Ol 626 13 17)) (Ol 626 7 17)) (.cons (.asg (.cons (.loc 3 (Ol 627 8 10)) .nil) (.call (.glb 1 (Ol 627 13 16)) (.cons (.loc 0 (Ol 627 17 18)) .nil) .nil (Ol 627 13 19)) (Ol 627 8 19)) .nil) .nil (Om 626 4 627 19)) (.cons (.ite (.cmp (.loc 4 (Ol 628 7 10)) .Is (.cst .none 0 (Ol 628 14 18)) (Ol 628 7 18)) (.cons (.whl I8 Jf (Om 629 8 634 28)) .nil) (.cons (.whl Cw BU (Om 636 8 641 28)) .nil) (Om 628 4 641 28)) (.cons (.ret (.loc 2 (Ol 642 11 13)) (Ol 642 4 13)) .nil)))))
noncomputable def mK:PS:=(.cons (.doc (dc [16,0])) (.cons (.ite (.cmp (.loc 4 (Ol 607 7 10)) .Is (.cst .none 0 (Ol 607 14 18)) (Ol 607 7 18)) (.cons (.asg (.cons (.loc 2 (Ol 608 8 10)) .nil) (.call (.glb 0 (Ol 608 13 33)) (.cons (.loc 0 (Ol 608 34 35)) (.cons (.loc 1 (Ol 608 37 38)) (.cons (.loc 2 (Ol 608 40 42)) (.cons (.loc 3 (Ol 608 44 46)) .nil)))) .nil (Ol 608 13 47)) (Ol 608 8 47)) .nil) (.cons (.asg (.cons (.loc 2 (Ol 610 8 10)) .nil) (.call (.glb 0 (Ol 610 13 33)) (.cons (.loc 0 (Ol 610 34 35)) (.cons (HE iK 4 (Ol 610 37 40) (.loc 1 (Ol 610 41 42)) (Ol 610 37 43)) (.cons (.loc 2 (Ol 610 45 47)) (.cons (.loc 3 (Ol 610 49 51)) .nil)))) (.kw "key" (.loc 4 (Ol 610 57 60)) (Ol 610 53 60) .nil) (Ol 610 13 61)) (Ol 610 8 61)) .nil) (Om 607 4 610 61)) (.cons (.expr (.meth (.loc 0 (Ol 611 4 5)) "insert" (Ol 611 4 12) (.cons (.loc 2 (Ol 611 13 15)) (.cons (.loc 1 (Ol 611 17 18)) .nil)) .nil (Ol 611 4 19)) (Ol 611 4 19)) .nil)))
theorem Dr:gP K0 333 iS tG=true:=by kernel_rfl
theorem ye:(fdOf K0 333).body=.stmts (tG.toMs iS):=by kernel_rfl
theorem FK:iX K0 333 iS ["a","x","lo","hi","key"] [some 0,some 1,some 2,some 3,some 4,none] []=true:=by kernel_rfl
theorem yb:gP K0 324 iK mK=true:=by kernel_rfl
theorem t7:(fdOf K0 324).body=.stmts (mK.toMs iK):=by kernel_rfl
theorem A6:iX K0 324 iK ["a","x","lo","hi","key"] [some 0,some 1,some 2,some 3,some 4] []=true:=by kernel_rfl
theorem rY {f:Addr} {ns1 ns2:List Str} {kn:Str} {kv:AV} {args davs:List AV} {dvs:List Value} {T:Addr} {o:Obj} {items:Array Value} {n:Nat} (hl:args.length=ns1.length) (hd:(fdOf K0 f).defaults=.ref T) (ho:K0.lookup T=some o) (hs:o.data=.seq items n)
  (hb:∀v,∀us:List Value,us.length=ns1.length->∃k,bindArgs (fdOf K0 f) ⟨us,[(kn,v)]⟩=seqItems? (fdOf K0 f).defaults>>=k/\k (some items)=pure ((ns1++ns2++[kn]).zip (us++dvs++[v]))) (hdv:∀G ρ,aT G ρ davs dvs):Binds f (ns1++ns2++[kn]) args [(kn,kv)] (args++davs++[kv]):=λs us ku X h1 h2=>by
 obtain⟨⟨k,v⟩,rfl⟩:=pE ((ai (λp:Str×Value=>p.1)).symm.trans (congrArg List.length h2))
 obtain rfl:k=kn:=List.head_eq_of_cons_eq h2
 obtain⟨c,e1,e2⟩:=hb v us (h1.trans hl)
 exact⟨us++dvs++[v],BindsTo.of_defaults hd (X _ _ ho) hs e1 e2,λG ρ d dk=>(d.append (hdv G ρ)).append (by cases dk with|cons d _=>exact .cons d .nil)⟩
noncomputable def rn (H:List AO) (nk:Nat) (ks:List Int):Prop:=∀lc tk (n:Int),0<=n->n<ks.length->w8 ⟨lc,H,tk⟩ nk n (.int (ks.getD n.toNat 0))
noncomputable def eh (ks row:List Int):List Int:=row.map λr=>ks.getD r.toNat 0
noncomputable def KI (ir nk:Nat) (x lo hi:Int) (x5:Option AV) (H:List AO) (tk:Nat):St:=⟨[some (.ref ir),some (.int x),some (.int lo),some (.int hi),some (.ref nk),x5],H,tk⟩
section
variable {D nk ir tk:Nat} {H:List AO} {ks row:List Int} {x:Int}
theorem yC {P:AF->St->Prop} (ka:rn H nk ks) (er:H[ir]? =some (.list (bc row))) (hr:row.length<100) (hin:∀r∈row,0<=r/\r<ks.length) (k:Nat):∀(lo hi:Int) (x5:Option AV),hi-lo<=k->0<=lo->hi<=row.length->(∀hi' x5,P .next (KI ir nk x (cV true (eh ks row) x k lo hi) hi' x5 H tk))->
  iQ (wW D iS Cw).t (bB D iS BU) (k+1) (KI ir nk x lo hi x5 H tk) P:=by
 induction k with
 |zero=>exactλlo hi x5 h1 h2 h3 h=>⟨λhb=>absurd h1 (Int.not_le.mpr (Int.sub_pos_of_lt (aj hb))),λ_=>h hi x5⟩
 |succ k ih=>
  intro lo hi x5 h1 h2 h3 h
  refine⟨λhb=>?_,λhb=>?_⟩
  ·have hlt:=aj hb
   have hm:=nW hlt
   have hm0:0<= (lo+hi)/2:=Int.le_trans h2 hm.1
   have hml:((lo+hi)/2).toNat<row.length:=(Int.toNat_lt hm0).mpr (Int.lt_of_lt_of_le hm.2 h3)
   have hri:=hin _ (List.getElem_mem hml)
   have hrow:(bc row)[((lo+hi)/2).toNat]? =some (.int row[((lo+hi)/2).toNat]):=by rw[aO,aq hml];rfl
   have hkd:(eh ks row).getD ((lo+hi)/2).toNat 0=ks.getD (row[((lo+hi)/2).toNat]).toNat 0:=by
    unfold eh
    rw[aB,aO,aq hml];rfl
   refine⟨by decide,dQ (by decide) (by decide),aa rfl,?_⟩
   rw[show(lo+hi).fdiv 2=(lo+hi)/2 from Int.fdiv_eq_ediv_of_nonneg _ (by decide)]
   refine HR rfl rfl rfl (cf (show bq _ _ _ from er) hm0 (Int.lt_of_lt_of_le hm.2 (Int.le_trans h3 (Int.ofNat_le.mpr (Nat.le_of_lt (aH hr (by decide)))))) _ hrow ⟨_,_,rfl,ka _ _ _ hri.1 hri.2,λhc=>⟨aa rfl,?_⟩,λhc=>⟨aa rfl,?_⟩⟩)
   ·refine ih lo _ _ (Int.le_of_lt_add_one (Int.lt_of_lt_of_le (Int.sub_lt_sub_right hm.2 lo) h1)) h2 (Int.le_trans (Int.le_of_lt hm.2) h3) λhi' x5=>?_
    have z:=h hi' x5
    rwa [show cV true (eh ks row) x (k+1) lo hi=_ from(if_pos hlt).trans (if_pos ((hkd▸hc:decide (x<(eh ks row).getD ((lo+hi)/2).toNat 0)=true)))] at z
   ·refine ih _ hi _ (Int.le_of_lt_add_one (Int.lt_of_lt_of_le (Int.sub_lt_sub_left (Int.lt_add_one_of_le hm.1) hi) h1)) (Int.le_add_one hm0) h3 λhi' x5=>?_
    have z:=h hi' x5
    rwa [show cV true (eh ks row) x (k+1) lo hi=_ from(if_pos hlt).trans (if_neg (λe=>au ((hkd▸hc:decide (x<(eh ks row).getD ((lo+hi)/2).toNat 0)=false).symm.trans e)))] at z
  ·have z:=h hi x5
   rwa [show cV true (eh ks row) x (k+1) lo hi=_ from if_neg (a9 hb)] at z
noncomputable def xc (ks row:List Int) (x:Int):Int:=cV true (eh ks row) x row.length 0 row.length
variable {lc:List (Option AV)} {P:PV}
theorem Gi (ka:rn H nk ks) (er:H[ir]? =some (.list (bc row))) (hr:row.length<100) (hin:∀r∈row,0<=r/\r<ks.length) (hw:Wf H) (h:P (.int (xc ks row x)) ⟨lc,H,tk⟩):bw (D+1) 333 [.ref ir,.int x,.int 0,.none] [("key",.ref nk)] ⟨lc,H,tk⟩ P:=by
 refine iD (defAt Dr ye) FK (rY (ns1:=["a","x","lo","hi"]) (ns2:=[]) (davs:=[]) (dvs:=[]) (T:=325) (o:=fO [.int 0 837,vN]) rfl (by kernel_rfl) (by kernel_rfl) rfl (λv=>consE λ_=>consE λ_=>consE λ_=>consE λ_=>nilE ⟨_,rfl,by kernel_rfl⟩) (λG ρ=>.nil)) rfl rfl rfl ?_
 refine Eq.mpr (congrArg (λz=>bB D iS tG ⟨_,z,tk⟩ (cH (dj ⟨lc,H,tk⟩ P))) (List.append_nil H)) ?_
 refine⟨⟨_,_,_,_,rfl⟩,λh=>(nomatch h),λ_=>.inl ⟨rfl,λ_=>gn _ (show bq _ _ _ from er) (by rw[ai];exact Nat.le_of_lt (aH hr (by decide))) ⟨aa rfl,?_⟩,λh=>(nomatch h)⟩⟩
 refine .inr ⟨rfl,λh=>(nomatch h),λ_=>⟨row.length+1,?_⟩⟩
 rw[ai]
 exact yC ka er hr hin row.length 0 row.length none (Int.le_of_eq (Int.sub_zero _)) (Int.le_refl _) (Int.le_refl _) λhi' x5=>.inl h
theorem Ad {right:Bool} {vs:List Int} {x:Int} (k:Nat):∀(lo hi:Int),lo<=hi->lo<=cV right vs x k lo hi/\cV right vs x k lo hi<=hi:=by
 induction k with
 |zero=>exactλlo hi h=>⟨Int.le_refl _,h⟩
 |succ k ih=>
  intro lo hi h
  by_cases hl:lo<hi
  ·have m:=nW hl
   rw[show cV right vs x (k+1) lo hi=_ from if_pos hl]
   exact bU (λz=>lo<=z/\z<=hi) ⟨(ih _ _ m.1).1,Int.le_trans (ih _ _ m.1).2 (Int.le_of_lt m.2)⟩ ⟨Int.le_trans (Int.le_add_one m.1) (ih _ _ (Int.add_one_le_of_lt m.2)).1,(ih _ _ (Int.add_one_le_of_lt m.2)).2⟩
  ·rw[show cV right vs x (k+1) lo hi=_ from if_neg hl];exact⟨Int.le_refl _,h⟩
noncomputable def q0 (row:List Int) (i:Nat) (g:Int):List Int:=row.take i++g::row.drop i
theorem A4 {g:Int} (ka:rn H nk ks) (er:H[ir]? =some (.list (bc row))) (hr:row.length<100) (hin:∀r∈row,0<=r/\r<ks.length) (hg:0<=g/\g<ks.length) (hw:Wf H) (h:P .none ⟨lc,H.set ir (.list (bc (q0 row (xc ks row (ks.getD g.toNat 0)).toNat g))),tk⟩):bw (D+2) 324 [.ref ir,.int g] [("key",.ref nk)] ⟨lc,H,tk⟩ P:=by
 refine iD (defAt yb t7) A6 (rY (ns1:=["a","x"]) (ns2:=["lo","hi"]) (davs:=[.int 0,.none]) (dvs:=[.int 0 823,.none]) (T:=316) (o:=fO [.int 0 823,vN]) rfl (by kernel_rfl) (by kernel_rfl) rfl (λv=>consE λ_=>consE λ_=>nilE ⟨_,rfl,by kernel_rfl⟩) (λG ρ=>.cons (.int _ _) (.cons .none .nil))) rfl rfl rfl ?_
 refine Eq.mpr (congrArg (λz=>bB (D+1) iK mK ⟨_,z,tk⟩ (cH (dj ⟨lc,H,tk⟩ P))) (List.append_nil H)) ?_
 have hb:=Ad (right:=true) (vs:=eh ks row) (x:=ks.getD g.toNat 0) row.length 0 row.length (aU _)
 refine⟨⟨_,_,_,_,rfl⟩,.inr ⟨rfl,λh=>(nomatch h),λ_=>HR rfl rfl rfl ⟨_,_,rfl,ka _ _ _ hg.1 hg.2,Gi ka er hr hin hw ⟨aa rfl,dz Af (show bq _ _ _ from er) (Er _ er hb.1 (by rw[ai];exact hb.2) (by rw[ai];exact Nat.le_of_lt (aH hr (by decide))) (.inl ?_))⟩⟩⟩⟩
 unfold q0 bc at h
 rw[List.map_append,List.map_take,List.map_cons,List.map_drop] at h
 exact h
end
noncomputable def BJ:Sx:=⟨["data","interval","n","x","i","j","L","cf","f"],[],[("sorted",.builtin "sorted"),("len",.builtin "len"),("len",.builtin "len"),("bisect_left",.builtin "_bisect.bisect_left"),("bisect_right_bisect",.builtin "_bisect.bisect_right"),("float",.type "float"),("ValueError",.type "ValueError"),("TypeError",.type "TypeError")],0⟩
noncomputable def IC:PS:=(.cons (.asg (.cons (.loc 1 (Ol 60 8 16)) .nil) (.call (.glb 5 (Ol 60 19 24)) (.cons (.loc 1 (Ol 60 25 33)) .nil) .nil (Ol 60 19 34)) (Ol 60 8 34))
 (.cons (.asg (.cons (.loc 3 (Ol 61 8 9)) .nil) (.call (.glb 5 (Ol 61 12 17)) (.cons (.loc 3 (Ol 61 18 19)) .nil) .nil (Ol 61 12 20)) (Ol 61 8 20))
 .nil))
noncomputable def HS:PS:=(.cons (.doc (dc [5,0]))
 (.cons (.asg (.cons (.loc 0 (Ol 52 4 8)) .nil) (.call (.glb 0 (Ol 52 11 17)) (.cons (.loc 0 (Ol 52 18 22)) .nil) .nil (Ol 52 11 23)) (Ol 52 4 23))
 (.cons (.asg (.cons (.loc 2 (Ol 53 4 5)) .nil) (.call (.glb 1 (Ol 53 8 11)) (.cons (.loc 0 (Ol 53 12 16)) .nil) .nil (Ol 53 8 17)) (Ol 53 4 17))
 (.cons (.ite (.nt (.loc 2 (Ol 54 11 12)) (Ol 54 7 12)) (.cons (.dead (dc [5,3,0]))
 .nil) .nil (Om 54 4 55 57))
 (.cons (.asg (.cons (.loc 3 (Ol 56 4 5)) .nil) (.sub (.loc 0 (Ol 56 8 12)) (.bin (.loc 2 (Ol 56 13 14)) .FloorDiv (.cst (.int 2) 0 (Ol 56 18 19)) (Ol 56 13 19)) (Ol 56 8 20)) (Ol 56 4 20))
 (.cons (.asg (.cons (.loc 4 (Ol 57 4 5)) .nil) (.call (.glb 3 (Ol 57 8 19)) (.cons (.loc 0 (Ol 57 20 24)) (.cons (.loc 3 (Ol 57 26 27)) .nil)) .nil (Ol 57 8 28)) (Ol 57 4 28))
 (.cons (.asg (.cons (.loc 5 (Ol 58 4 5)) .nil) (.call (.glb 4 (Ol 58 8 27)) (.cons (.loc 0 (Ol 58 28 32)) (.cons (.loc 3 (Ol 58 34 35)) .nil)) (.kw "lo" (.loc 4 (Ol 58 40 41)) (Ol 58 37 41) .nil) (Ol 58 8 42)) (Ol 58 4 42))
 (.cons (.raw (dc [5,7]))
 (.cons (.asg (.cons (.loc 6 (Ol 64 4 5)) .nil) (.bin (.loc 3 (Ol 64 8 9)) .Sub (.bin (.loc 1 (Ol 64 12 20)) .Div (.cst (.float 4611686018427387904) 0 (Ol 64 23 26)) (Ol 64 12 26)) (Ol 64 8 26)) (Ol 64 4 26))
 (.cons (.asg (.cons (.loc 7 (Ol 65 4 6)) .nil) (.loc 4 (Ol 65 9 10)) (Ol 65 4 10))
 (.cons (.asg (.cons (.loc 8 (Ol 66 4 5)) .nil) (.bin (.loc 5 (Ol 66 8 9)) .Sub (.loc 4 (Ol 66 12 13)) (Ol 66 8 13)) (Ol 66 4 13))
 (.cons (.ret (.bin (.loc 6 (Ol 67 11 12)) .Add (.bin (.bin (.loc 1 (Ol 67 15 23)) .Mult (.bin (.bin (.loc 2 (Ol 67 27 28)) .Div (.cst (.int 2) 0 (Ol 67 31 32)) (Ol 67 27 32)) .Sub (.loc 7 (Ol 67 35 37)) (Ol 67 27 37)) (Ol 67 15 38)) .Div (.loc 8 (Ol 67 41 42)) (Ol 67 15 42)) (Ol 67 11 42)) (Ol 67 4 42))
 .nil))))))))))))
theorem Kl:gP K0 78 BJ HS=true:=by kernel_rfl
theorem D3:(fdOf K0 78).body=.stmts (HS.toMs BJ):=by kernel_rfl
theorem Mx:iX K0 78 BJ ["data","interval"] [some 0,some 1,none,none,none,none,none,none,none] []=true:=by kernel_rfl
noncomputable def kA (q:List Int):Int:=cV false q (q.getD (q.length/2) 0) q.length 0 q.length
noncomputable def tQ (q:List Int):Int:=cV true q (q.getD (q.length/2) 0) q.length (kA q) q.length
noncomputable def pn:UInt64:=Float64.ofInt 315
noncomputable def zM (q:List Int):UInt64:=Float64.add (Float64.sub (Float64.ofInt (q.getD (q.length/2) 0)) (Float64.div pn 4611686018427387904)) (Float64.div (Float64.mul pn (Float64.sub (Float64.ofFrac false q.length 2) (Float64.ofInt (kA q)))) (Float64.ofInt (tQ q-kA q)))
noncomputable def BI (q:List Int):Bool:=Nat.ble 1 q.length&&(Nat.ble q.length 63&&(decide (0<=kA q)&&(decide (kA q<100)&&(decide (tQ q<100)&&(decide (kA q<tQ q)&&decide ((q.getD (q.length/2) 0).natAbs<1000000))))))
theorem xI:∀n:Nat,n<64->Float64.isInf (Float64.ofFrac (decide ((n:Int)<0)!=decide ((2:Int)<0)) (n:Int).natAbs (2:Int).natAbs)=false/\Float64.ofFrac (decide ((n:Int)<0)!=decide ((2:Int)<0)) (n:Int).natAbs (2:Int).natAbs=Float64.ofFrac false n 2:=by decide+kernel
theorem My {D i:Nat} {st:St} {ns:List Int} {P:PV} (ei:st.at i=some (.list (bc ns))) (hl:ns.length<64) (hq:∀q:List Int,q.Perm ns->q.Pairwise (· <= ·)->BI q=true) (h:∀q:List Int,q.Perm ns->q.Pairwise (· <= ·)->P (.flt (zM q) none) st):bw (D+1) 78 [.ref i,.int 315] [] st P:=by
 refine pd (defAt Kl D3) Mx (.lst ei (gw (λ_=>rfl) ns) (.val rfl .nil)) (fQ (ns1:=["data","interval"]) (ns2:=[]) (davs:=[]) (dvs:=[]) (T:=71) (o:=fO [.float 4607182418800017408 394]) rfl (by kernel_rfl) (by kernel_rfl) rfl (consE λ_=>consE λ_=>nilE (by kernel_rfl)) (λG ρ=>.nil)) rfl rfl rfl ?_
 refine⟨⟨_,_,_,_,rfl⟩,As ns (show bq _ _ _ from rfl) hl λq hp hs=>?_⟩
 have ok:=hq q hp hs
 have h1:1<=q.length:=aa (aE ok)
 have h2:q.length<=63:=aa (aE (aA ok))
 have h3:0<=kA q:=aj (aE (aA (aA ok)))
 have h4:kA q<100:=aj (aE (aA (aA (aA ok))))
 have h5:tQ q<100:=aj (aE (aA (aA (aA (aA ok)))))
 have h6:kA q<tQ q:=aj (aE (aA (aA (aA (aA (aA ok))))))
 have h7:(q.getD (q.length/2) 0).natAbs<1000000:=aj (aA (aA (aA (aA (aA (aA ok))))))
 have lq:q.length<1000:=aJ h2 (by decide)
 refine⟨aa rfl,gn _ (show bq _ _ _ from rfl) (by rw[ai];exact Nat.le_of_lt (aH lq (by decide))) ⟨aa rfl,?_⟩⟩
 rw[ai]
 refine⟨λh=>?_,λ_=>⟨by decide,dQ (by decide) (by decide),?_⟩⟩
 ·rw[Bool.not_not] at h;exact absurd (Int.ofNat.inj (aj h)) (Nat.ne_of_gt h1)
 rw[show Int.fdiv (q.length:Int) 2=((q.length/2:Nat):Int) from Int.fdiv_eq_ediv_of_nonneg _ (by decide)]
 have hd:q.length/2<q.length:=Nat.div_lt_self h1 (by decide)
 refine cf (show bq _ _ _ from rfl) (aU _) (iO hd (aH lq (by decide))) _ (bQ hd) ⟨aa rfl,Jg q (show bq _ _ _ from rfl) lq ⟨aa rfl,Jq q (kA q) (show bq _ _ _ from rfl) lq h3 (Int.lt_trans h4 (by decide)) ⟨aa rfl,?_⟩⟩⟩
 refine BL IC .nil (by kernel_rfl) (by kernel_rfl) (by kernel_rfl) (by kernel_rfl) ?_
 have s7:small (q.getD (q.length/2) 0):=aH h7 (by decide)
 refine zq (dQ (by decide) (by decide)) ⟨aa rfl,zq s7 ⟨aa rfl,by decide+kernel,aa rfl,aa rfl,aa rfl,?_⟩⟩
 have hf:=xI q.length (Nat.lt_succ_of_le h2)
 have d0:0<tQ q-kA q:=Int.sub_pos_of_lt h6
 refine⟨by decide,hf.1,dQ h3 (Int.lt_trans h4 (by decide)),dQ (Int.le_of_lt d0) (Int.lt_of_le_of_lt (Int.sub_le_self _ h3) (Int.lt_trans h5 (by decide))),Int.ne_of_gt d0,λt ht=>⟨st.tk,Nat.le_succ_of_le ht,.inl ⟨rfl,?_⟩⟩⟩
 have z:=h q hp hs
 unfold zM at z
 rw[<-hf.2] at z
 exact z
noncomputable def ij (h:Nat):Sx:=⟨["n","iterable","it","sentinel","result","size","elem","top","order","_heapreplace","_order","k","_elem"],[("key",h)],[("iter",.builtin "iter"),("object",.type "object"),("max",.builtin "max"),("len",.builtin "len"),("TypeError",.type "TypeError"),("AttributeError",.type "AttributeError"),("sorted",.builtin "sorted"),("zip",.type "zip"),("range",.type "range"),("heapify",.builtin "_heapq.heapify"),("heapreplace",.builtin "_heapq.heapreplace")],0⟩
noncomputable def BS:PS:=(.cons (.asg (.cons (.loc 5 (Ol 516 8 12)) .nil) (.call (.glb 3 (Ol 516 15 18)) (.cons (.loc 1 (Ol 516 19 27)) .nil) .nil (Ol 516 15 28)) (Ol 516 8 28))
 .nil)
noncomputable def CE:PS:=(.cons (.ite (.cmp (.loc 0 (Ol 520 11 12)) .GtE (.loc 5 (Ol 520 16 20)) (Ol 520 11 20)) (.cons (.ret (.slc (.call (.glb 6 (Ol 521 19 25)) (.cons (.loc 1 (Ol 521 26 34)) .nil) (.kw "key" (.cel 0 (Ol 521 40 43)) (Ol 521 36 43) (.kw "reverse" (.cst (.bool true) 0 (Ol 521 53 57)) (Ol 521 45 57) .nil)) (Ol 521 19 58)) .nil (.loc 0 (Ol 521 60 61)) (Ol 521 59 61) (Ol 521 19 62)) (Ol 521 12 62))
 .nil) .nil (Om 520 8 521 62))
 .nil)
noncomputable def w9:Sx:=⟨["i","elem"],[],[],0⟩
noncomputable def mR:Sx:=⟨["elem","order"],[],[],0⟩
noncomputable def Hy:PE:=(.tup (.cons (.loc 1 (Ol 524 19 23)) (.cons (.loc 0 (Ol 524 25 26)) .nil)) 0 (Ol 524 18 27))
noncomputable def BG:PE:=(.tup (.cons (.loc 0 (Ol 537 25 29)) (.cons (.loc 1 (Ol 537 31 36)) .nil)) 0 (Ol 537 25 36))
noncomputable def HQ:PS:=(.cons (.ite (.cmp (.loc 7 (Ol 532 15 18)) .Lt (.loc 6 (Ol 532 21 25)) (Ol 532 15 25)) (.cons (.expr (.call (.loc 9 (Ol 533 16 28)) (.cons (.loc 4 (Ol 533 29 35)) (.cons (.tup (.cons (.loc 6 (Ol 533 38 42)) (.cons (.loc 8 (Ol 533 44 49)) .nil)) 0 (Ol 533 37 50)) .nil)) .nil (Ol 533 16 51)) (Ol 533 16 51))
 (.cons (.asg (.cons (.tup (.cons (.loc 7 (Ol 534 16 19)) (.cons (.loc 10 (Ol 534 21 27)) .nil)) 0 (Ol 534 16 27)) .nil) (.sub (.loc 4 (Ol 534 30 36)) (.cst (.int 0) 0 (Ol 534 37 38)) (Ol 534 30 39)) (Ol 534 16 39))
 (.cons (.aug (.loc 8 (Ol 535 16 21)) .Sub (.cst (.int 1) 0 (Ol 535 25 26)) (Ol 535 16 26))
 .nil))) .nil (Om 532 12 535 26))
 .nil)
noncomputable def MD (h:Nat):PS:=(.cons (.expr (.meth (.loc 4 (Ol 536 8 14)) "sort" (Ol 536 8 19) .nil (.kw "reverse" (.cst (.bool true) 0 (Ol 536 28 32)) (Ol 536 20 32) .nil) (Ol 536 8 33)) (Ol 536 8 33))
 (.cons (.ret (gR (ij h) mR BG (.loc 4 (Ol 537 40 46)) none (.loc 0 (Ol 537 16 20)) ⟨.function,[(".0",.local),("elem",.local),("order",.local)],false,false,[]⟩ (Ol 537 15 47)) (Ol 537 8 47))
 .nil))
noncomputable def Mf (h:Nat):PS:=(.cons (.expr (.call (.glb 9 (Ol 527 8 15)) (.cons (.loc 4 (Ol 527 16 22)) .nil) .nil (Ol 527 8 23)) (Ol 527 8 23))
 (.cons (.asg (.cons (.loc 7 (Ol 528 8 11)) .nil) (.sub (.sub (.loc 4 (Ol 528 14 20)) (.cst (.int 0) 0 (Ol 528 21 22)) (Ol 528 14 23)) (.cst (.int 0) 0 (Ol 528 24 25)) (Ol 528 14 26)) (Ol 528 8 26))
 (.cons (.asg (.cons (.loc 8 (Ol 529 8 13)) .nil) (.neg (.loc 0 (Ol 529 17 18)) (Ol 529 16 18)) (Ol 529 8 18))
 (.cons (.asg (.cons (.loc 9 (Ol 530 8 20)) .nil) (.glb 10 (Ol 530 23 34)) (Ol 530 8 34))
 (.cons (.raw (yZ (ij h) (.loc 6 (Ol 531 12 16)) 2 (Ol 531 20 22) HQ (Om 531 8 535 26)))
 (MD h))))))
noncomputable def La (h:Nat):PS:=(.ite (.cmp (.cel 0 (Ol 522 7 10)) .Is (.cst .none 0 (Ol 522 14 18)) (Ol 522 7 18)) (.cons (.asg (.cons (.loc 2 (Ol 523 8 10)) .nil) (.call (.glb 0 (Ol 523 13 17)) (.cons (.loc 1 (Ol 523 18 26)) .nil) .nil (Ol 523 13 27)) (Ol 523 8 27))
 (.cons (.raw (n7 (ij h) w9 4 (Ol 524 8 14) (.tup (.cons (.loc 0 (Ol 524 32 33)) (.cons (.loc 1 (Ol 524 35 39)) .nil)) 0 (Ol 524 32 39)) (.call (.glb 7 (Ol 524 43 46)) (.cons (.call (.glb 8 (Ol 524 47 52)) (.cons (.cst (.int 0) 0 (Ol 524 53 54)) (.cons (.neg (.loc 0 (Ol 524 57 58)) (Ol 524 56 58)) (.cons (.neg (.cst (.int 1) 0 (Ol 524 61 62)) (Ol 524 60 62)) .nil))) .nil (Ol 524 47 63)) (.cons (.loc 2 (Ol 524 65 67)) .nil)) .nil (Ol 524 43 68)) none Hy ⟨.function,[(".0",.local),("i",.local),("elem",.local)],false,false,[]⟩ (Ol 524 17 69) (Ol 524 8 69)))
 (.cons (.ite (.nt (.loc 4 (Ol 525 15 21)) (Ol 525 11 21)) (.cons (.ret (.loc 4 (Ol 526 19 25)) (Ol 526 12 25))
 .nil) .nil (Om 525 8 526 25))
 (Mf h)))) .nil (Om 522 4 537 47))
noncomputable def Bq (h:Nat):PS:=(.cons (.ite (.cmp (.loc 0 (Ol 510 7 8)) .Eq (.cst (.int 1) 0 (Ol 510 12 13)) (Ol 510 7 13)) (.cons (.asg (.cons (.loc 2 (Ol 511 8 10)) .nil) (.call (.glb 0 (Ol 511 13 17)) (.cons (.loc 1 (Ol 511 18 26)) .nil) .nil (Ol 511 13 27)) (Ol 511 8 27))
 (.cons (.asg (.cons (.loc 3 (Ol 512 8 16)) .nil) (.call (.glb 1 (Ol 512 19 25)) .nil .nil (Ol 512 19 27)) (Ol 512 8 27))
 (.cons (.asg (.cons (.loc 4 (Ol 513 8 14)) .nil) (.call (.glb 2 (Ol 513 17 20)) (.cons (.loc 2 (Ol 513 21 23)) .nil) (.kw "default" (.loc 3 (Ol 513 33 41)) (Ol 513 25 41) (.kw "key" (.cel 0 (Ol 513 47 50)) (Ol 513 43 50) .nil)) (Ol 513 17 51)) (Ol 513 8 51))
 (.cons (.ret (.ifx (.cmp (.loc 4 (Ol 514 21 27)) .Is (.loc 3 (Ol 514 31 39)) (Ol 514 21 39)) (.lst .nil (Ol 514 15 17)) (.lst (.cons (.loc 4 (Ol 514 46 52)) .nil) (Ol 514 45 53)) (Ol 514 15 53)) (Ol 514 8 53))
 .nil)))) .nil (Om 510 4 514 53)) (.cons (.raw (dc [12,1])) (.cons (La h) (.cons (.dead (dc [12,3])) (.cons (.dead (dc [12,4])) (.cons (.dead (dc [12,5])) (.cons (.dead (dc [12,6])) (.cons (.dead (dc [12,7])) (.cons (.dead (dc [12,8])) (.cons (.dead (dc [12,9])) (.cons (.dead (dc [12,10])) (.cons (.dead (dc [12,11])) (.cons (.dead (dc [12,12])) .nil)))))))))))))
theorem JO (h:Nat):gP K0 309 (ij h) (Bq h)=true:=by kernel_rfl
theorem EE (h:Nat):(fdOf K0 309).body=.stmts ((Bq h).toMs (ij h)):=by kernel_rfl
theorem M8 (h:Nat):iX K0 309 (ij h) ["n","iterable","key"] [some 0,some 1,none,none,none,none,none,none,none,none,none,none,none] [some 2]=true:=by kernel_rfl
theorem vZ {D n ir:Nat} {lc:List (Option AV)} {H:List AO} {tk:Nat} {P:PV} (h:bB D (ij H.length) (Bq H.length) ⟨[some (.int n),some (.ref ir),none,none,none,none,none,none,none,none,none,none,none],H++[.cell (some .none)],tk⟩ (cH (dj ⟨lc,H,tk⟩ P))):bw (D+1) 309 [.int n,.ref ir] [] ⟨lc,H,tk⟩ P:=
 iD (defAt (JO _) (EE _)) (M8 _) (fQ (ns1:=["n","iterable"]) (ns2:=["key"]) (davs:=[.none]) (dvs:=[.none]) (T:=304) (o:=fO [vN]) rfl (by kernel_rfl) (by kernel_rfl) rfl (consE λ_=>consE λ_=>nilE (by kernel_rfl)) (λG ρ=>.cons .none .nil)) rfl rfl rfl h
theorem dp {x:Sx} {i:Nat} {p:Str×Nat} {v:AV} {st:St} {P:PV} (e1:x.cls[i]? =some p) (e2:st.at p.2=some (.cell (some v))) (h:P v st):cE x i st P:=by unfold cE;rw[e1];dsimp only;rw[e2];exact h
theorem rS {gt:AV->AV->Bool} (r:List AV):∀x:AV,jy gt r x∈x::r:=by
 induction r with
 |nil=>exactλx=>.head _
 |cons y r ih=>
  intro x
  rcases aL.mp (ih (if gt y x=true then y else x)) with e|e
  ·refine(show jy gt (y::r) x=_ from e)▸?_
   exact bU (λz=>z∈x::y::r) (.tail _ (.head _)) (.head _)
  ·exact .tail _ (.tail _ e)
structure mW (ts:List AV):Prop where
 len:ts.length<=5
 pure:cz ts=true
 ck:∀x∈ts,∀y∈ts,dK 1 x y
 tup:∀x∈ts,∃y ys,x=.tup (.type "tuple") (y::ys)/\mS y="float"
noncomputable def zH (ts:List AV):List AV:=match ts with
 |[]=>[]
 |x::r=>[jy (eR 1) r x]
section
variable {D ir:Nat} {lc:List (Option AV)} {H:List AO} {tk:Nat} {P:PV} {ts:List AV}
theorem JE (ok:mW ts) (ei:H[ir]? =some (.list ts)) (h:∀n hp,hp[n]? =some (.list (zH ts))->P (.ref n) ⟨lc,hp,tk⟩):bw (D+1) 309 [.int (1:Nat),.ref ir] [] ⟨lc,H,tk⟩ P:=by
 refine vZ ⟨λ_=>zk ts (aZ ei) ⟨aa rfl,DO ⟨aa rfl,?_⟩⟩,λh=>(nomatch h)⟩
 have hir:=(az.mp ei).1
 refine(show cE (ij H.length) 0 _ _ from dp (p:=("key",H.length)) (v:=.none) rfl ?_ ?_)
 ·exact aZ (aZ aX)
 refine Hb (H++[AO.cell (some .none)]++[AO.liter ir 0]).length ir 0 ts 1 (Nat.ne_of_gt (by show ir<(H++[AO.cell (some .none)]).length;rw[aI];exact Nat.lt_succ_of_lt hir)) (aZ aX) (aZ (aZ (aZ ei))) (by decide) ok.pure ok.ck λi'=>⟨aa rfl,?_⟩
 have eo:((H++[AO.cell (some .none)]++[AO.liter ir 0]++[AO.raw ed]).set (H++[AO.cell (some .none)]).length (.raw (ff i')))[(H++[AO.cell (some .none)]++[AO.liter ir 0]).length]? =some (.raw ed):=bx (aW (by rw[aI (as:=H++[AO.cell (some .none)])];exact Nat.lt_succ_self _)) aX
 cases ts with
 |nil=>exact Ge eo (az.mp eo).1 ⟨λ_=>⟨Nat.zero_le _,.inl (h _ _ aX)⟩,λh=>absurd rfl (a9 h)⟩
 |cons x r=>
  obtain⟨y,ys,e,_⟩:=ok.tup _ (rS (gt:=eR 1) r x)
  have h:=λn hp=>h n hp
  rw[show zH (x::r)=[.tup (.type "tuple") (y::ys)] from congrArg (λz=>[z]) e] at h
  rw[show wV (eR 1) (AV.ref (H++[AO.cell (some AV.none)]++[AO.liter ir 0]).length) (List.drop 0 (x::r))=.tup (.type "tuple") (y::ys) from e]
  exact DT eo ⟨λh=>(nomatch h),λ_=>⟨aa rfl,.inl (h _ _ aX)⟩⟩
theorem sj (L n:Nat):clipAt L (n:Int)=min n L:=by
 unfold clipAt
 rw[if_neg (Int.not_lt.mpr (aU n))]
 rcases Nat.le_total n L with h|h
 ·rw[Int.min_eq_left (Int.ofNat_le.mpr h),Int.max_eq_right (aU n),Nat.min_eq_left h];rfl
 ·rw[Int.min_eq_right (Int.ofNat_le.mpr h),Int.max_eq_right (aU L),Nat.min_eq_right h];rfl
theorem mD {α:Type} (n:Nat) (l:List α):cN none (some (n:Int)) l=l.take n:=by
 unfold cN
 show(l.drop 0).take (clipAt l.length (n:Int)-0)=l.take n
 rw[sj,List.drop_zero,Nat.sub_zero,List.take_eq_take_iff,Nat.min_assoc,Nat.min_self]
theorem AP {α:Type} (n:Nat) (l:List α):cN (some (n:Int)) none l=l.drop n:=by
 unfold cN
 show(l.drop (clipAt l.length (n:Int))).take (l.length-clipAt l.length (n:Int))=l.drop n
 rw[sj,List.take_of_length_le (Nat.le_of_eq (List.length_drop ..))]
 rcases Nat.le_total n l.length with h|h
 ·rw[Nat.min_eq_left h]
 ·rw[Nat.min_eq_right h,List.drop_of_length_le h,List.drop_of_length_le (ak _)]
theorem JK {n:Nat} (ok:mW ts) (ei:H[ir]? =some (.list ts)) (h2:2<=n) (hl:ts.length<=n) (h:∀m hp,hp[m]? =some (.list ((cR true (bp 1) ts).take n))->P (.ref m) ⟨lc,hp,tk⟩):bw (D+1) 309 [.int n,.ref ir] [] ⟨lc,H,tk⟩ P:=by
 refine vZ ⟨λh=>absurd (Int.ofNat.inj (aj h)) (Nat.ne_of_gt h2),λ_=>?_⟩
 have l6:ts.length<6:=Nat.lt_succ_of_le ok.len
 have l5:ts.length<=100000:=ag ok.len (by decide)
 refine BL BS CE (by kernel_rfl) (by kernel_rfl) (by kernel_rfl) (by kernel_rfl) ?_
 refine gn (v:=.ref ir) ts (aZ ei) l5 ⟨aa rfl,λ_=>?_,λh=>absurd (Int.ofNat_le.mpr hl) (a9 h)⟩
 refine(show cE (ij H.length) 0 _ _ from dp (p:=("key",H.length)) (v:=.none) rfl aX ?_)
 refine o9 ts (bp 1) true (show bq _ _ _ from aZ ei) (.inr (.inr rfl)) (jV (T:="float") (by decide) ok.tup (λx y hx hy=>ok.ck x hx y hy) l6) ?_
 refine iF (cR true (bp 1) ts) none (some (n:Int)) (show bq _ _ _ from aX) rfl rfl (by rw[iE l6];exact l5) ?_
 rw[mD]
 exact .inl (h _ _ aX)
end
noncomputable def hZ (v:AV) (o:Int):AV:=.tup (.type "tuple") [v,.int o]
noncomputable def lD (i:Nat) (r:List AV):List AV:=match r with
 |[]=>[]
 |v::r=>hZ v (0-(i:Int))::lD (i+1) r
structure mf (ir k n:Nat) (ts:List AV) (p:AO) (us:List AV) (hp:List AO):Prop where
 ts:hp[ir]? =some (.list ts)
 it:hp[k]? =some p
 us:hp[n]? =some (.list us)
structure zF (ir k n:Nat):Prop where
 hk:k≠n
 hi:n≠ir
 hki:k≠ir
section
variable {D ir k n tk:Nat} {ts us vs:List AV} {p q:AO} {hp:List AO} {a b:Option AV}
theorem mf.mv (N:zF ir k n) (F:mf ir k n ts p us hp):mf ir k n ts q us (hp.set k q):=⟨bx N.hki F.ts,bE F.it,bx N.hk F.us⟩
theorem mf.put (N:zF ir k n) (F:mf ir k n ts p us hp):mf ir k n ts p vs (hp.set n (.list vs)):=⟨bx N.hi F.ts,bx N.hk.symm F.it,bE F.us⟩
theorem wF {r:List AV} {v:AV} {i:Nat} (h:∀(j:Nat) (u:AV),(v::r)[j]? =some u->ts[i+j]? =some u) (j:Nat) (u:AV) (e:r[j]? =some u):ts[i+1+j]? =some u:=by
 have z:=h (j+1) u e
 rwa [<-Nat.add_assoc,Nat.add_right_comm] at z
theorem EV (N:zF ir k n) (hp0:cz ts=true) {P:St->Prop} (r:List AV):∀{i:Nat} {us:List AV} {a b:Option AV} {hp:List AO},mf ir k n ts (.liter ir i) us hp->(∀(j:Nat) (v:AV),r[j]? =some v->ts[i+j]? =some v)->us.length+r.length<=1000->(∀lc hp,mf ir k n ts (.liter ir (i+r.length)) (us++lD i r) hp->P ⟨lc,hp,tk⟩)->
   g9 n (λ_=>True) (wW D w9 (.tup (.cons (.loc 0 (Ol 524 32 33)) (.cons (.loc 1 (Ol 524 35 39)) .nil)) 0 (Ol 524 32 39))).a (bV D w9 none) (wW D w9 Hy).e (vj k ir ts i r) ⟨[a,b],hp,tk⟩ P:=by
 induction r with
 |nil=>exactλF hr hl h=>⟨trivial,h _ _ ⟨F.ts,F.it,(List.append_nil _).symm▸F.us⟩⟩
 |cons v r ih=>
  intro i us a b hp F hr hl h
  have hv:=hr 0 v rfl
  have hl':us.length+1+r.length<=1000:=Nat.add_right_comm ..▸hl
  refine⟨⟨F.it,F.ts,hv⟩,rfl,⟨aa rfl,aa rfl,λ_=>⟨aa rfl,?_,us,(F.mv N).us,ag (ag (aQ ..) hl) (by decide),?_⟩,λh=>(nomatch h)⟩⟩
  ·exact Bool.and_eq_true_iff.mpr ⟨aF.mp hp0 _ (a0 hv),rfl⟩
  ·refine ih ((F.mv N).put N) (wF hr) (by rw[aI];exact hl') λlc hp F'=>h lc hp ⟨F'.ts,?_,?_⟩
   ·have z:=F'.it;rwa [Nat.add_assoc,Nat.add_comm 1] at z
   ·have z:=F'.us;rwa [ax] at z
end
noncomputable def vm (ma lt2:AV->AV->Bool) (r h:List AV) (o:Int):Option (List AV):=match r with
 |[]=>some h
 |e::r=>match h with
  | .tup _ [top,_]::_=>if ma top e=true then(cu lt2 50 (h.set 0 (hZ e o)) true 0 0 (-1)).bind λh'=>vm ma lt2 r h' (o-1) else vm ma lt2 r h o
  |_=>none
noncomputable def lp (v:AV):AV:=match v with
 | .tup _ (v::_)=>v
 |_=>.none
noncomputable def d8 (v:AV):AV:=match v with
 | .tup _ [_,v]=>v
 |_=>.none
noncomputable def SI (xs ys:List AV):Prop:=(∀x∈ys,x∈xs)/\ys.length=xs.length
theorem SI.sw {xs ys:List AV} {i j:Nat} (hi:i<xs.length) (hj:j<xs.length) (h:SI (bS .none xs i j) ys):SI xs ys:=⟨λx hx=>mz hi hj (h.1 x hx),h.2.trans rN⟩
theorem gx {α:Type} {p:Prop} [Decidable p] {a b:Option α} {y:α} {C:Prop} (h:(if p then a else b)=some y) (k1:p->a=some y->C) (k2:¬p->b=some y->C):C:=by
 by_cases hp:p
 ·exact k1 hp ((if_pos hp).symm.trans h)
 ·exact k2 hp ((if_neg hp).symm.trans h)
theorem oY {p n:Nat} (h:p<n/2):2*p+1<n/\p<n:=by omega
theorem Ke {p n:Nat} (h:¬n<=p):(p-1)/2<n:=by omega
theorem x8 {lt:AV->AV->Bool} (k:Nat):∀(xs:List AV) (b:Bool) (pos top:Nat) (after:Int) (ys:List AV),cu lt k xs b pos top after=some ys->SI xs ys:=by
 induction k with
 |zero=>exactλ_ _ _ _ _ _ h=>nomatch h
 |succ k ih=>
  intro xs b pos top after ys h
  cases b with
  |true=>exact gx h (λh1 h=>gx h (λh2 h=>.sw h2.1 (oY h1).2 (ih _ _ _ _ _ _ h)) λ_ h=>.sw (oY h1).1 (oY h1).2 (ih _ _ _ _ _ _ h)) λ_ h=>ih _ _ _ _ _ _ h
  |false=>exact gx h (λ_ h=>nomatch h) λh1 h=>gx h (λh2 h=>.sw (Ke h1) (Nat.lt_of_not_le h1) (ih _ _ _ _ _ _ h)) λ_ h=>gx h (λ_ h=>Option.some.inj h▸⟨λ_ h=>h,rfl⟩) λ_ h=>ih _ _ _ _ _ _ h
noncomputable def eU (ts h:List AV):Prop:=2<=h.length/\h.length<=5/\∀x∈h,∃e∈ts,∃o,x=hZ e o
section
variable {ts h h' r:List AV} {lt:AV->AV->Bool} {k pos top i:Nat} {b:Bool} {after:Int} {e e':AV} {o o':Int}
theorem eU.el (H:eU ts h) {C:AV->Prop} (k:∀e∈ts,∀o,C (hZ e o)):∀x∈h,C x:=λx hx=>(H.2.2 x hx).elim λe z=>z.2.elim λo q=>q▸k e z.1 o
theorem eU.pure (H:eU ts h):cz h=true:=aF.mpr (H.el λe he o=>rfl)
theorem eU.ck (ok:mW ts) (H:eU ts h):∀x∈h,∀y∈h,dK 2 x y:=H.el λe he o=>H.el λe' he' o'=>⟨rfl,rfl,⟨ok.ck _ he _ he',trivial,trivial⟩,⟨ok.ck _ he _ he,trivial,trivial⟩,ok.ck _ he' _ he',trivial,trivial⟩
theorem eU.rep (H:eU ts h) (he:e∈ts) (o:Int):eU ts (h.set 0 (hZ e o)):=⟨by rw[List.length_set];exact H.1,by rw[List.length_set];exact H.2.1,λx hx=>(List.mem_or_eq_of_mem_set hx).elim (H.2.2 x) λq=>⟨e,he,o,q⟩⟩
theorem eU.sift (H:eU ts h) (e:cu lt k h b pos top after=some h'):eU ts h':=
 have z:=x8 k h b pos top after h' e
 ⟨z.2▸H.1,z.2▸H.2.1,λx hx=>H.2.2 x (z.1 x hx)⟩
theorem Ee (r:List AV):∀i,(∀x∈r,x∈ts)->∀x∈lD i r,∃e∈ts,∃o,x=hZ e o:=by
 induction r with
 |nil=>exactλi h x hx=>nomatch hx
 |cons v r ih=>exactλi h x hx=>(aL.mp hx).elim (λq=>⟨v,h v (.head _),_,q⟩) (ih (i+1) (λy hy=>h y (.tail _ hy)) x)
theorem DA (r:List AV):∀{i:Nat},(lD i r).length=r.length:=by
 induction r with
 |nil=>exact rfl
 |cons v r ih=>exact congrArg (·+1) ih
theorem eU.hd (H:eU ts h) {C:Prop} (k:∀e∈ts,∀o r,h=hZ e o::r->C):C:=by
 cases h with
 |nil=>exact absurd H.1 (by decide)
 |cons x r=>exact(H.2.2 x (.head _)).elim λe z=>z.2.elim λo q=>k e z.1 o r (congrArg (·::r) q)
end
noncomputable def KD (x0:AV) (ir k n:Nat) (m:Nat) (x6:Option AV) (top:AV) (o:Int) (x10:Option AV) (hp:List AO) (tk:Nat):St:=⟨[some x0,some (.ref ir),some (.ref k),none,some (.ref n),some (.int m),x6,some top,some (.int o),some (.val (.builtin "_heapq.heapreplace")),x10,none,none],hp,tk⟩
section
variable {D ir k n tk m h:Nat} {ts h1:List AV} {x0:AV} {P:AF->St->Prop}
theorem DV (N:zF ir k n) (ok:mW ts) (r:List AV):∀{p:Nat} {hs:List AV} {e0:AV} {o':Int} {o:Int} {x6 x10:Option AV} {hp:List AO},mf ir k n ts (.liter ir p) (hZ e0 o'::hs) hp->(∀(j:Nat) (v:AV),r[j]? =some v->ts[p+j]? =some v)->ts.length<=p+r.length->eU ts (hZ e0 o'::hs)->e0∈ts->vm (bp 1) (bp 2) r (hZ e0 o'::hs) o=some h1->
  (∀{x6 top o x10 hp},eU ts h1->hp[n]? =some (.list h1)->P .next (KD x0 ir k n m x6 top o x10 hp tk))->
  ry k ir (wW D (ij h) (.loc 6 (Ol 531 12 16))).a (bB D (ij h) HQ) r p (KD x0 ir k n m x6 e0 o x10 hp tk) P:=by
 induction r with
 |nil=>
  intro p hs e0 o' o x6 x10 hp F hr hl H he e K
  obtain rfl:=Option.some.inj e
  exact⟨N.hki,F.it,⟨ts,F.ts,hl⟩,K H (F.mv N).us⟩
 |cons v r ih=>
  intro p hs et o' o x6 x10 hp F hr hl H het e K
  have hv:=hr 0 v rfl
  have hm:=a0 hv
  have hl':ts.length<=p+1+r.length:=Nat.add_right_comm ..▸hl
  have F1:=F.mv (q:=.liter ir (p+1)) N
  refine⟨N.hki,F.it,⟨ts,F.ts,hv⟩,aa rfl,?_⟩
  obtain⟨y,ys,rfl,_⟩:=ok.tup _ hm
  refine HF 1 (by decide) (ok.ck _ het _ hm) (aF.mp ok.pure _ het) (aF.mp ok.pure _ hm) ?_
  refine⟨λhb=>?_,λhb=>?_⟩
  ·obtain⟨h',es,e⟩:=Option.bind_eq_some_iff.mp ((if_pos hb).symm.trans e)
   have H1:=H.rep hm o
   have H2:=H1.sift es
   refine⟨aa rfl,rfl,?_⟩
   refine Ak (hZ et o'::hs) h' _ 2 F1.us (by decide) (ag (by decide) H.1) (ag H.2.1 (by decide)) (H1.ck ok) H.pure rfl es ?_
   have F2:=F1.put (vs:=h') N
   refine H2.hd λe1 he1 o1 gs eq=>?_
   subst eq
   refine cf (show bq _ _ _ from F2.us) (Int.le_refl _) (by decide) (hZ e1 o1) rfl ⟨rfl,aa rfl,aa rfl,aa rfl,?_⟩
   exact ih F2 (wF hr) hl' H2 he1 e K
  ·exact ih F1 (wF hr) hl' H het ((if_neg (by rw[hb];exact au)).symm.trans e) K
end
section
variable {D n tk ir:Nat} {H:List AO} {S ts h0 h1:List AV} {lc:List (Option AV)}
theorem EC {h:Nat} {P:St->Prop} (hS:S.length<=100) (hp:∀x∈S,∃e o,x=hZ e o) (hn:H[n]? =some (.list S)) (K:∀lc,P ⟨lc,H++[.list (S.map lp)],tk⟩):
  dH H.length (λst=>st.at n=some (.list S)) (wW D mR BG).a (bV D mR none) (wW D mR (.loc 0 (Ol 537 16 20))).e S ⟨[none,none],H++[.list []],tk⟩ P:=by
 have z:=bM (tg:=(wW D mR BG).a) (ts:=bV D mR none) (el:=(wW D mR (.loc 0 (Ol 537 16 20))).e) (H:=H) (tk:=tk) (P:=P) (chk:=λst=>st.at n=some (.list S)) (L:=S) (λx=>x) (λ_=>true) lp (λx=>[some (lp x),some (d8 x)]) (λl=>∃x y,l=[x,y]) (λ_ _=>aZ hn) (λ_=>⟨_,_,rfl⟩) (λa us lc Kc ha sh hl h1 h2=>?_) S [] [none,none] (λ_ h=>h) ⟨_,_,rfl⟩ (ag (Nat.le_of_eq (Nat.zero_add _)) (ag hS (by decide))) λlc=>by
   rw[List.filter_eq_self.mpr λ_ _=>rfl];exact K lc
 ·rwa [List.map_id'] at z
 ·obtain⟨x0,x1,rfl⟩:=sh
  obtain⟨e,o,rfl⟩:=hp a ha
  exact⟨rfl,aa rfl,aa rfl,λhb=>dY hl (h1 rfl),λhb=>nomatch hb⟩
theorem J6 {P:PV} (ok:mW ts) (ei:H[ir]? =some (.list ts)) (hn:n=2∨n=3) (hl:n<ts.length) (e0:cu (bp 2) 50 (lD 0 (ts.take n)) true (n/2-1) (n/2-1) ((n/2:Nat)-2:Int)=some h0) (e1:vm (bp 1) (bp 2) (ts.drop n) h0 (-(n:Int))=some h1)
  (h:∀m hp,hp[m]? =some (.list ((cR true (bp 2) h1).map lp))->P (.ref m) ⟨lc,hp,tk⟩):bw (D+1) 309 [.int n,.ref ir] [] ⟨lc,H,tk⟩ P:=by
 have n2:2<=n:=hn.elim (λe=>e▸ak 2) λe=>e▸aa rfl
 have n3:n<=3:=hn.elim (λe=>e▸aa rfl) λe=>e▸ak 3
 have hir:=(az.mp ei).1
 let G:=H++[AO.cell (some .none)]
 have eG:G.length=H.length+1:=aI
 have eG1:(G++[AO.liter ir 0]).length=G.length+1:=aI
 have N:zF ir G.length (G++[AO.liter ir 0]).length:=⟨eG1▸aW (Nat.lt_succ_self _),eG1▸eG▸Nat.ne_of_gt (Nat.lt_succ_of_lt (Nat.lt_succ_of_lt hir)),eG▸Nat.ne_of_gt (Nat.lt_succ_of_lt hir)⟩
 have F:mf ir G.length (G++[AO.liter ir 0]).length ts (.liter ir 0) [] (G++[AO.liter ir 0]++[.list []]):=⟨aZ (aZ (aZ ei)),aZ aX,aX⟩
 have htl:(ts.take n).length=n:=by rw[List.length_take];exact Nat.min_eq_left (Nat.le_of_lt hl)
 have hpl:(lD 0 (ts.take n)).length=n:=(DA _).trans htl
 have HP:eU ts (lD 0 (ts.take n)):=⟨hpl.symm▸n2,hpl.symm▸ag n3 (by decide),Ee _ 0 λx hx=>List.mem_of_mem_take hx⟩
 have H0:=HP.sift e0
 refine vZ ⟨λh=>absurd (Int.ofNat.inj (aj h)) (Nat.ne_of_gt n2),λ_=>?_⟩
 refine BL BS CE (by kernel_rfl) (by kernel_rfl) (by kernel_rfl) (by kernel_rfl) ?_
 refine gn (v:=.ref ir) ts (aZ ei) (ag ok.len (by decide)) ⟨aa rfl,λhb=>absurd (aj hb) (Int.not_le.mpr (Int.ofNat_lt.mpr hl)),λ_=>?_⟩
 refine(show cE (ij H.length) 0 _ _ from dp (p:=("key",H.length)) (v:=.none) rfl aX ?_)
 refine .inl ⟨rfl,λ_=>?_,λh=>(nomatch h)⟩
 refine zk ts (aZ ei) ⟨aa rfl,?_⟩
 refine lL rfl rfl (by kernel_rfl) (F8 (by kernel_rfl) rfl ?_)
 refine uk (by decide) (by rcases hn with rfl|rfl<;>decide) ⟨G.length,ir,n,ts,rfl,hn,N.hki,aX,ok.pure,Nat.le_of_lt hl,?_⟩
 refine EV N ok.pure (ts.take n) F (λj v hj=>?_) (by rw[htl];exact ag (Nat.le_of_eq (Nat.zero_add _)) (ag n3 (by decide))) λlc hp F1=>⟨aa rfl,?_⟩
 ·rw[Nat.zero_add]
  exact gx ((List.getElem?_take ..).symm.trans hj) (λ_ h=>h) λ_ h=>nomatch h
 refine o8 (vs:=lD 0 (ts.take n)) F1.us (ag HP.2.1 (by decide)) ⟨λh=>?_,λ_=>?_⟩
 ·exact HP.hd λe _ o r q=>by rw[q] at h;cases h
 refine A8 (lD 0 (ts.take n)) h0 2 F1.us (by decide) HP.1 (ag HP.2.1 (by decide)) (HP.ck ok) HP.pure (hpl.symm▸e0) ?_
 have F2:=F1.put (vs:=h0) N
 refine H0.hd λet het o' gs eq=>?_
 subst eq
 refine cf (show bq _ _ _ from F2.us) (Int.le_refl _) (by decide) (hZ et o') rfl (Gw (Int.le_refl _) (by decide) et rfl ⟨aa rfl,aa rfl,aa rfl,?_⟩)
 rw[htl,Nat.zero_add] at F2
 refine Fs G.length ir n (ts.drop n) rfl rfl (by kernel_rfl) (by kernel_rfl) ⟨ir,F2.it⟩ ?_
 refine DV N ok (ts.drop n) F2 (λj v hj=>by rwa [List.getElem?_drop] at hj) (by rw[List.length_drop];exact Nat.le_of_eq (Nat.add_sub_of_le (Nat.le_of_lt hl)).symm) H0 het e1 λ{x6 top o x10 hp} H1 e3=>?_
 have hl1:h1.length<6:=Nat.lt_succ_of_le H1.2.1
 refine dz yX (show bq _ _ _ from e3) ?_
 refine Cs h1 (bp 2) true e3 (.inr (.inl rfl)) (jV (T:="tuple") (by decide) (H1.el λe he o=>?_) (λx y hx hy=>H1.ck ok x hx y hy) hl1) ?_
 ·obtain⟨y,ys,rfl,_⟩:=ok.tup _ he
  exact⟨_,_,rfl,rfl⟩
 refine fY (by kernel_rfl) (fC (cR true (bp 2) h1) (show bq _ _ _ from bE e3) ?_)
 exact EC (h:=H.length) (by rw[iE hl1];exact ag H1.2.1 (by decide)) (λx hx=>(H1.2.2 x (jE hl1 hx)).elim λe z=>⟨e,z.2⟩) (bE e3) λlc=>.inl (h _ _ aX)
end
noncomputable def iA {α:Type} (d:α) (lt:α->α->Bool) (k:Nat) (xs:List α) (b:Bool) (pos top:Nat) (after:Int):Option (List α):=match k with
 |0=>none
 |k+1=>(match b with
  |true=>if pos<xs.length/2 then
   (if 2*pos+1+1<xs.length/\lt (xs.getD (2*pos+1) d) (xs.getD (2*pos+1+1) d)=false then iA d lt k (bS d xs (2*pos+1+1) pos) true (2*pos+1+1) top after
   else iA d lt k (bS d xs (2*pos+1) pos) true (2*pos+1) top after)
  else iA d lt k xs false pos top after
  |false=>if xs.length<=pos then none
  else if top<pos/\lt (xs.getD pos d) (xs.getD ((pos-1)/2) d)=true then iA d lt k (bS d xs ((pos-1)/2) pos) false ((pos-1)/2) top after
  else if after<0 then some xs else iA d lt k xs true after.toNat after.toNat (after-1))
section
variable {α:Type} {d:α} {lt:α->α->Bool} {lt':AV->AV->Bool} {f:α->AV}
theorem dP (hd:f d=.none) (xs:List α) (i:Nat):(xs.map f).getD i .none=f (xs.getD i d):=by
 rw[aB,aB,aO]
 cases xs[i]? with
 |none=>exact hd.symm
 |some x=>rfl
theorem mC (hd:f d=.none) (xs:List α) (i j:Nat):bS .none (xs.map f) i j=(bS d xs i j).map f:=by
 unfold bS
 rw[dP hd,dP hd,List.map_set,List.map_set]
theorem sD (hd:f d=.none) (hl:∀x y,lt' (f x) (f y)=lt x y) (k:Nat):∀(xs:List α) (b:Bool) (pos top:Nat) (after:Int),cu lt' k (xs.map f) b pos top after=(iA d lt k xs b pos top after).map (List.map f):=by
 induction k with
 |zero=>exactλ_ _ _ _ _=>rfl
 |succ k ih=>
  intro xs b pos top after
  cases b with
  |true=>
   show(if pos<(xs.map f).length/2 then _ else _)=Option.map _ (if pos<xs.length/2 then _ else _)
   rw[ai,apply_ite (Option.map (List.map f)),apply_ite (Option.map (List.map f)),dP hd,dP hd,hl,mC hd,mC hd,ih,ih,ih]
  |false=>
   show(if(xs.map f).length<=pos then _ else _)=Option.map _ (if xs.length<=pos then _ else _)
   rw[ai,apply_ite (Option.map (List.map f)),apply_ite (Option.map (List.map f)),apply_ite (Option.map (List.map f)),dP hd,dP hd,hl,mC hd,ih,ih]
   rfl
noncomputable def m9 (d:α) (b:Bool) (lt:α->α->Bool) (as:List α):List α:=
 katRev b (if(katRev b as).length<2 then katRev b as else(mY (λi j=>lt ((katRev b as).getD i d) ((katRev b as).getD j d)) (kas_sort (katRev b as).length)).toList.map λi=>(katRev b as).getD i d)
theorem uE {b:Bool} (xs:List α):katRev b (xs.map f)=(katRev b xs).map f:=by
 unfold katRev
 cases b with
 |false=>rfl
 |true=>exact(List.map_reverse ..).symm
theorem iH (hd:f d=.none) (hl:∀x y,lt' (f x) (f y)=lt x y) (b:Bool) (xs:List α):cR b lt' (xs.map f)=(m9 d b lt xs).map f:=by
 have e0:katRev b (xs.map f)=(katRev b xs).map f:=uE xs
 unfold cR pz
 rw[e0]
 unfold m9
 generalize katRev b xs=ys
 rw[<-uE,apply_ite (List.map f),ai,List.map_map]
 have e:(λi j=>lt' ((ys.map f).getD i .none) ((ys.map f).getD j .none))=λi j=>lt (ys.getD i d) (ys.getD j d):=by
  funext i j;rw[dP hd,dP hd,hl]
 have e2:(λi=>(ys.map f).getD i .none)=f∘λi=>ys.getD i d:=by
  funext i;exact dP hd _ i
 rw[e,e2]
end
abbrev NJ:=Option (Nat×Int)
noncomputable def zD (E B:Nat->Nat->Bool):NJ->NJ->Bool
 |some p,some q=>if E p.1 q.1=true then decide (p.2<q.2) else B p.1 q.1
 |_,_=>false
noncomputable def CU (E B:Nat->Nat->Bool):List Nat->List NJ->Int->Option (List NJ)
 |[],h,_=>some h
 |e::r,h,o=>match h with
  |some p::_=>if B p.1 e=true then(iA none (zD E B) 50 (h.set 0 (some (e,o))) true 0 0 (-1)).bind λh'=>CU E B r h' (o-1) else CU E B r h o
  |_=>none
noncomputable def pI:Nat->List Nat->List NJ
 |_,[]=>[]
 |i,v::r=>some (v,0-(i:Int))::pI (i+1) r
noncomputable def Ig (E B:Nat->Nat->Bool) (L n:Nat):Option (List NJ):=(iA none (zD E B) 50 (pI 0 ((List.range L).take n)) true (n/2-1) (n/2-1) ((n/2:Nat)-2:Int)).bind λh0=>CU E B ((List.range L).drop n) h0 (-(n:Int))
noncomputable def BF (E B:Nat->Nat->Bool) (L n:Nat):Bool:=match Ig E B L n with
 |some h=>decide ((m9 none true (zD E B) h).map (λx=>(x.map Prod.fst).getD 99)=(m9 99 true B (List.range L)).take n)&&h.all Option.isSome
 |none=>false
noncomputable def bT (L:Nat) (b01 b02 b03 b12 b13 b23:Bool) (i j:Nat):Bool:=Nat.blt i L&&Nat.blt j L&&match i,j with
 |0,1=>b01|0,2=>b02|0,3=>b03|1,2=>b12|1,3=>b13|2,3=>b23
 |1,0=>!b01|2,0=>!b02|3,0=>!b03|2,1=>!b12|3,1=>!b13|3,2=>!b23
 |_,_=>false
noncomputable def eT (L:Nat) (i j:Nat):Bool:=Nat.blt i L&&Nat.beq i j
noncomputable def vg (B:Nat->Nat->Bool) (L:Nat):Bool:=(List.range L).all λi=>(List.range L).all λj=>(List.range L).all λk=>!(B i j&&B j k)||B i k
noncomputable def wY (L n:Nat):Bool:=[true,false].all λa=>[true,false].all λb=>[true,false].all λc=>[true,false].all λd=>[true,false].all λe=>[true,false].all λf=>!vg (bT L a b c d e f) L||BF (eT L) (bT L a b c d e f) L n
theorem Gk:wY 3 2=true:=by kernel_rfl
theorem FD:wY 4 2=true:=by kernel_rfl
theorem GW:wY 4 3=true:=by kernel_rfl
section
variable {ts:List AV}
structure kc (ts:List AV):Prop where
 refl:∀x∈ts,lu 1 x x=true
 ne:∀(i j:Nat),i<ts.length->j<ts.length->i≠j->lu 1 (ts.getD i .none) (ts.getD j .none)=false
 as:∀(i j:Nat),i<ts.length->j<ts.length->i≠j->bp 1 (ts.getD i .none) (ts.getD j .none)= !bp 1 (ts.getD j .none) (ts.getD i .none)
 tr:∀x∈ts,∀y∈ts,∀z∈ts,bp 1 x y=true->bp 1 y z=true->bp 1 x z=true
 ir:∀x∈ts,bp 1 x x=false
noncomputable abbrev tE (ts:List AV) (i j:Nat):Bool:=lu 1 (ts.getD i .none) (ts.getD j .none)
noncomputable abbrev tB (ts:List AV) (i j:Nat):Bool:=bp 1 (ts.getD i .none) (ts.getD j .none)
noncomputable def fI (ts:List AV):NJ->AV
 |some p=>hZ (ts.getD p.1 .none) p.2
 |none=>.none
theorem wJ (ts:List AV) (x y:NJ):bp 2 (fI ts x) (fI ts y)=zD (tE ts) (tB ts) x y:=by
 cases x with
 |none=>cases y<;>rfl
 |some p=>
  cases y with
  |none=>rfl
  |some q=>
   show(if lu 1 _ _=true then(if decide (p.2=q.2)=true then false else decide (p.2<q.2)) else bp 1 _ _)=if lu 1 _ _=true then decide (p.2<q.2) else bp 1 _ _
   congr 1
   split
   ·rename_i h;have:=aj h;simp;omega
   ·rfl
theorem ET (ts:List AV) (r:List Nat):∀(h:List NJ) (o:Int),vm (bp 1) (bp 2) (r.map λi=>ts.getD i .none) (h.map (fI ts)) o=(CU (tE ts) (tB ts) r h o).map (List.map (fI ts)):=by
 induction r with
 |nil=>exactλ_ _=>rfl
 |cons e r ih=>
  intro h o
  cases h with
  |nil=>rfl
  |cons p h=>
   cases p with
   |none=>rfl
   |some p=>
    show(if bp 1 _ _=true then _ else _)=Option.map _ (if bp 1 _ _=true then _ else _)
    rw[apply_ite (Option.map (List.map (fI ts)))]
    congr 1
    ·rw[show((some p::h).map (fI ts)).set 0 (hZ (ts.getD e .none) o)=(((some p::h:List NJ)).set 0 (some (e,o))).map (fI ts) from rfl,sD (f:=fI ts) (d:=none) rfl (wJ ts)]
     cases iA none (zD (tE ts) (tB ts)) 50 ((some p::h:List NJ).set 0 (some (e,o))) true 0 0 (-1) with
     |none=>rfl
     |some h'=>exact ih h' (o-1)
    ·exact ih (some p::h) o
theorem GK (ts:List AV) (r:List Nat):∀(i:Nat),lD i (r.map λj=>ts.getD j .none)=(pI i r).map (fI ts):=by
 induction r with
 |nil=>exactλ_=>rfl
 |cons v r ih=>exactλi=>congrArg (hZ _ _::·) (ih (i+1))
theorem dg {ts:List AV} {i:Nat} (h:¬i<ts.length):ts.getD i .none=.none:=by
 rw[aB,List.getElem?_eq_none (by omega)];rfl
theorem EB {x:AV}:lu 1 x .none=false:=by cases x<;>rfl
theorem iI {x:AV}:bp 1 x .none=false:=by cases x<;>rfl
theorem B7 {i j:Nat} (h:i≠j):Nat.beq i j=false:=Bool.eq_false_iff.mpr λe=>h (Nat.eq_of_beq_eq_true e)
theorem Jr (o:kc ts):tE ts=eT ts.length:=by
 funext i j
 unfold eT
 by_cases hi:i<ts.length
 ·rw[show Nat.blt i ts.length=true from Nat.ble_eq.mpr hi,Bool.true_and]
  by_cases hj:j<ts.length
  ·by_cases e:i=j
   ·subst e
    rw[show Nat.beq i i=true from Nat.beq_refl i];exact o.refl _ (getD_mem hi)
   ·rw[show Nat.beq i j=false from B7 e];exact o.ne i j hi hj e
  ·rw[show Nat.beq i j=false from B7 λe=>hj (e▸hi)]
   unfold tE;rw[dg hj];exact EB
 ·rw[show Nat.blt i ts.length=false from Bool.eq_false_iff.mpr λh=>hi (Nat.ble_eq.mp h),Bool.false_and]
  unfold tE;rw[dg hi];rfl
theorem BY (o:kc ts) (hL:ts.length<=4):tB ts=bT ts.length (tB ts 0 1) (tB ts 0 2) (tB ts 0 3) (tB ts 1 2) (tB ts 1 3) (tB ts 2 3):=by
 funext i j
 unfold bT
 by_cases hi:i<ts.length
 ·rw[show Nat.blt i ts.length=true from Nat.ble_eq.mpr hi,Bool.true_and]
  by_cases hj:j<ts.length
  ·rw[show Nat.blt j ts.length=true from Nat.ble_eq.mpr hj,Bool.true_and]
   by_cases e:i=j
   ·subst e
    rw[show tB ts i i=false from o.ir _ (getD_mem hi)]
    match i,hi with
    |0,_|1,_|2,_|3,_=>rfl
    |n+4,h=>omega
   ·have h:=o.as i j hi hj e
    match i,j,hi,hj,e,h with
    |0,1,_,_,_,h|0,2,_,_,_,h|0,3,_,_,_,h|1,2,_,_,_,h|1,3,_,_,_,h|2,3,_,_,_,h=>rfl
    |1,0,_,_,_,h|2,0,_,_,_,h|3,0,_,_,_,h|2,1,_,_,_,h|3,1,_,_,_,h|3,2,_,_,_,h=>exact h
    |0,0,_,_,e,_|1,1,_,_,e,_|2,2,_,_,e,_|3,3,_,_,e,_=>exact absurd rfl e
    |i+4,_,hi,_,_,_=>omega
    |_,j+4,_,hj,_,_=>omega
  ·rw[show Nat.blt j ts.length=false from Bool.eq_false_iff.mpr λh=>hj (Nat.ble_eq.mp h),Bool.false_and]
   unfold tB;rw[dg hj];exact iI
 ·rw[show Nat.blt i ts.length=false from Bool.eq_false_iff.mpr λh=>hi (Nat.ble_eq.mp h),Bool.false_and]
  unfold tB;rw[dg hi];rfl
theorem Hj (o:kc ts) (hL:ts.length<=4) {n:Nat} (hn:n=2∨n=3) (hl:n<ts.length):∃h0 h1,cu (bp 2) 50 (lD 0 (ts.take n)) true (n/2-1) (n/2-1) ((n/2:Nat)-2:Int)=some h0/\vm (bp 1) (bp 2) (ts.drop n) h0 (-(n:Int))=some h1/\(cR true (bp 2) h1).map lp=(cR true (bp 1) ts).take n:=by
 have ok:BF (tE ts) (tB ts) ts.length n=true:=by
  have ht:vg (tB ts) ts.length=true:=by
   unfold vg
   simp only[aF,List.mem_range,Bool.or_eq_true,Bool.not_eq_true']
   intro i hi j hj k hk
   cases h:tB ts i j&&tB ts j k with
   |false=>exact .inl rfl
   |true=>
    have:=Bool.and_eq_true_iff.mp h
    exact .inr (o.tr _ (getD_mem hi) _ (getD_mem hj) _ (getD_mem hk) this.1 this.2)
  have hc:wY ts.length n=true:=by
   have:(ts.length=3/\n=2)∨(ts.length=4/\n=2)∨(ts.length=4/\n=3):=by omega
   rcases this with⟨e,rfl⟩|⟨e,rfl⟩|⟨e,rfl⟩<;>rw[e]
   ·exact Gk
   ·exact FD
   ·exact GW
  rw[Jr o]
  rw[BY o hL] at ht⊢
  generalize tB ts 0 1=a at ht⊢
  generalize tB ts 0 2=b at ht⊢
  generalize tB ts 0 3=c at ht⊢
  generalize tB ts 1 2=d at ht⊢
  generalize tB ts 1 3=e at ht⊢
  generalize tB ts 2 3=f at ht⊢
  have tf:∀b:Bool,b∈[true,false]:=λb=>by cases b<;>simp
  have:=aF.mp (aF.mp (aF.mp (aF.mp (aF.mp (aF.mp hc a (tf a)) b (tf b)) c (tf c)) d (tf d)) e (tf e)) f (tf f)
  rw[ht] at this
  exact this
 unfold BF at ok
 cases e:Ig (tE ts) (tB ts) ts.length n with
 |none=>rw[e] at ok;cases ok
 |some h=>
 rw[e] at ok
 have ok':=aj (Bool.and_eq_true_iff.mp ok).1
 unfold Ig at e
 obtain⟨h0,e1,e2⟩:=Option.bind_eq_some_iff.mp e
 have q1:ts.take n=((List.range ts.length).take n).map λi=>ts.getD i .none:=by rw[List.map_take,<-eE]
 have q2:ts.drop n=((List.range ts.length).drop n).map λi=>ts.getD i .none:=by rw[List.map_drop,<-eE]
 refine⟨h0.map (fI ts),h.map (fI ts),?_,?_,?_⟩
 ·rw[q1,GK,sD (f:=fI ts) (d:=none) rfl (wJ ts),e1];rfl
 ·rw[q2,ET,e2];rfl
 ·rw[iH (f:=fI ts) (d:=none) rfl (wJ ts),List.map_map]
  have hd:ts.getD 99 .none=.none:=dg (by omega)
  have e3:(lp∘fI ts)=(λi=>ts.getD i .none)∘λx:NJ=>(x.map Prod.fst).getD 99:=by
   funext x
   cases x with
   |none=>exact hd.symm
   |some p=>rfl
  rw[e3,<-List.map_map,ok',List.map_take,<-iH (f:=λi=>ts.getD i .none) (d:=99) (lt':=bp 1) hd (λ_ _=>rfl),<-eE]
end
noncomputable def gc:Sx:=⟨["word","possibilities","n","cutoff","result","s","x"],[],[("ValueError",.type "ValueError"),("SequenceMatcher",.ref 299),("nlargest",.ref 309)],0⟩
noncomputable def mM:Sx:=⟨["score","x"],[],[],0⟩
noncomputable def Bt:PE:=(.tup (.cons (.loc 0 (Ol 595 18 23)) (.cons (.loc 1 (Ol 595 25 26)) .nil)) 0 (Ol 595 18 26))
noncomputable def CB:PS:=(.ite (.boo .And (.cons (.cmp (.meth (.loc 5 (Ol 592 11 12)) "real_quick_ratio" (Ol 592 11 29) .nil .nil (Ol 592 11 31)) .GtE (.loc 3 (Ol 592 35 41)) (Ol 592 11 41)) (.cons (.cmp (.meth (.loc 5 (Ol 592 46 47)) "quick_ratio" (Ol 592 46 59) .nil .nil (Ol 592 46 61)) .GtE (.loc 3 (Ol 592 65 71)) (Ol 592 46 71)) (.cons (.cmp (.meth (.loc 5 (Ol 592 77 78)) "ratio" (Ol 592 77 84) .nil .nil (Ol 592 77 86)) .GtE (.loc 3 (Ol 592 90 96)) (Ol 592 77 96)) .nil))) (Ol 592 11 97)) (.cons (.expr (.meth (.loc 4 (Ol 593 12 18)) "append" (Ol 593 12 25) (.cons (.tup (.cons (.meth (.loc 5 (Ol 593 27 28)) "ratio" (Ol 593 27 34) .nil .nil (Ol 593 27 36)) (.cons (.loc 6 (Ol 593 38 39)) .nil)) 0 (Ol 593 26 40)) .nil) .nil (Ol 593 12 41)) (Ol 593 12 41)) .nil) .nil (Om 592 8 593 41))
noncomputable def wg:PE:=(.loc 6 (Ol 590 8 9))
noncomputable def qK:PS:=(.cons (.expr (.meth (.loc 5 (Ol 591 8 9)) "set_seq1" (Ol 591 8 18) (.cons (.loc 6 (Ol 591 19 20)) .nil) .nil (Ol 591 8 21)) (Ol 591 8 21)) (.cons CB .nil))
noncomputable def wH:PS:=(.cons (.asg (.cons (.loc 4 (Ol 594 4 10)) .nil) (.call (.glb 2 (Ol 594 13 21)) (.cons (.loc 2 (Ol 594 22 23)) (.cons (.loc 4 (Ol 594 25 31)) .nil)) .nil (Ol 594 13 32)) (Ol 594 4 32)) (.cons (.ret (gR gc mM Bt (.loc 4 (Ol 595 30 36)) none (.loc 1 (Ol 595 12 13)) ⟨.function,[(".0",.local),("score",.local),("x",.local)],false,false,[]⟩ (Ol 595 11 37)) (Ol 595 4 37)) .nil))
noncomputable def v9:PS:=(.cons (.doc (dc [14,0])) (.cons (.ite (.nt (.cmp (.loc 2 (Ol 583 11 12)) .Gt (.cst (.int 0) 0 (Ol 583 15 16)) (Ol 583 11 16)) (Ol 583 7 16)) (.cons (.dead (dc [14,1,0])) .nil) .nil (Om 583 4 584 52)) (.cons (.ite (.nt (.cmp2 (.cst (.float 0) 0 (Ol 585 11 14)) .LtE (.loc 3 (Ol 585 18 24)) .LtE (.cst (.float 4607182418800017408) 0 (Ol 585 28 31)) (Ol 585 11 31)) (Ol 585 7 31)) (.cons (.dead (dc [14,2,0])) .nil) .nil (Om 585 4 586 72)) (.cons (.asg (.cons (.loc 4 (Ol 587 4 10)) .nil) (.lst .nil (Ol 587 13 15)) (Ol 587 4 15)) (.cons (.asg (.cons (.loc 5 (Ol 588 4 5)) .nil) (.call (.glb 1 (Ol 588 8 23)) .nil .nil (Ol 588 8 25)) (Ol 588 4 25)) (.cons (.expr (.meth (.loc 5 (Ol 589 4 5)) "set_seq2" (Ol 589 4 14) (.cons (.loc 0 (Ol 589 15 19)) .nil) .nil (Ol 589 4 20)) (Ol 589 4 20)) (.cons (.fer wg (.loc 1 (Ol 590 13 26)) qK (Om 590 4 593 41)) wH)))))))
theorem AW:fq 299 "real_quick_ratio" 296:=⟨by kernel_rfl,by kernel_rfl,by kernel_rfl⟩
theorem EO:fq 299 "quick_ratio" 289:=⟨by kernel_rfl,by kernel_rfl,by kernel_rfl⟩
theorem rU:fq 299 "ratio" 282:=⟨by kernel_rfl,by kernel_rfl,by kernel_rfl⟩
noncomputable def kG (a b:UInt64):Bool:=Float64.cmp a b==some .gt||Float64.cmp a b==some .eq
noncomputable def KW (a b:UInt64):Bool:=Float64.cmp a b==some .lt||Float64.cmp a b==some .eq
noncomputable def zC (a b:List Nat):UInt64:=dF (if(b.length:Int)<a.length then b.length else a.length) (a.length+b.length)
noncomputable def ey (a word:List Nat) (M:Int) (cut:UInt64):Bool:=kG (zC a word) cut&&(kG (dF (iY a word) (a.length+word.length)) cut&&kG (dF M (a.length+word.length)) cut)
theorem D6 {vs:List AV} {n:Nat} (h:cz vs=true):(AO.list vs).wf n:=λv hv=>by
 have z:=aF.mp h v hv
 cases v with
 |ref i=>cases z
 |_=>trivial
theorem wh {hp:List AO} {i j:Nat} {o p:AO} (e1:hp[i]? =some o) (e2:hp[j]? =some p) (h:o≠p):i≠j:=λq=>h (Option.some.inj ((q▸e1).symm.trans e2))
structure e8 (hp:List AO) (M:Mt) (res:List AV):Prop where
 m:eD hp M
 b:M.nb≠0
 r:hp[0]? =some (.list res)
 fb:M.fb=.none∨∃nf,M.fb=.ref nf/\hp[nf]? =some (.dictS (eY (qn M.g)))
section
variable {D tk:Nat} {hp hp':List AO} {M:Mt} {res res':List AV}
theorem e8.kp {f:List Nat} {ta:Option Tok} {mb fb:AV} (g:e8 hp M res) (k:Kp M.nd hp hp') (e:hp'[M.nd]? =some (.idict (Mt.kv {M with f:=f,ta:=ta,mb:=mb,fb:=fb}))) (hf:fb=.none∨∃nf,fb=.ref nf/\hp'[nf]? =some (.dictS (eY (qn M.g)))):e8 hp' {M with f:=f,ta:=ta,mb:=mb,fb:=fb} res:=
 ⟨g.m.up k e,g.b,k.keep _ _ (wh g.r g.m.dict λh=>nomatch h) g.r,hf⟩
theorem e8.fbk (g:e8 hp M res) (k:Kp M.nd hp hp'):M.fb=.none∨∃nf,M.fb=.ref nf/\hp'[nf]? =some (.dictS (eY (qn M.g))):=g.fb.imp id λz=>z.elim λnf q=>⟨nf,q.1,k.keep _ _ (wh q.2 g.m.dict λh=>nomatch h) q.2⟩
theorem e8.put (g:e8 hp M res) (hr:cz res'=true):e8 (hp.set 0 (.list res')) M res':=by
 have key:∀{i:Nat} {o:AO},hp[i]? =some o->o≠.list res->(hp.set 0 (.list res'))[i]? =some o:=λe h=>bx (wh g.r e λq=>h q.symm) e
 have m:=g.m
 exact⟨⟨m.ne,key m.inst λh=>(nomatch h),key m.dict λh=>(nomatch h),key m.ob λh=>(nomatch h),λi o h=>bx (λq=>by rw[Nat.add_right_comm] at q;exact nomatch q) (m.ol i o h),key m.oj λh=>(nomatch h),Wf.set m.wf (D6 hr)⟩,g.b,bE g.r,g.fb.imp id λz=>z.elim λnf q=>⟨nf,q.1,key q.2 λh=>nomatch h⟩⟩
theorem DB (M:Mt) (a:List Nat) (t:Option Tok):iM M.kv (.str a t)=Mt.kv {M with f:=a,ta:=t,mb:=.none}:=by kernel_rfl
theorem e8.seq1 (g:e8 hp M res) (a:List Nat) (t:Option Tok):e8 (hp.set M.nd (.idict (Mt.kv {M with f:=a,ta:=t,mb:=.none}))) {M with f:=a,ta:=t,mb:=.none} res:=
 have k:=Kp.of (nd:=M.nd) (o:=.idict (Mt.kv {M with f:=a,ta:=t,mb:=.none})) aw g.m.wf (g.m.kvw (mb:=.none) (fb:=M.fb) (ak _) trivial (g.m.kwf (i:=6) rfl))
 g.kp k (bE g.m.dict) (g.fbk k)
end
structure H9 where
 w0:AV
 gl:List AV
 n:Nat
 cut:UInt64
 k:Option Tok
noncomputable def oB (p:H9) (ni:Nat) (x6:Option AV) (hp:List AO) (tk:Nat):St:=⟨[some p.w0,some (.ilst p.gl),some (.int p.n),some (.flt p.cut p.k),some (.ref 0),some (.ref ni),x6],hp,tk⟩
section
variable {D tk:Nat} {hp:List AO} {M:Mt} {res:List AV} {p:H9} {a:List Nat} {t:Tok} {bs:List T3} {P:AF->St->Prop}
theorem Ml {lc:List (Option AV)} {P:PV} (g:e8 hp M res) (la:M.f.length<100) (lb:M.g.length<100) (h0:0<M.f.length+M.g.length) (h:∀{hp' fb},e8 hp' {M with fb:=fb} res->∀u,P (jz M.f M.g (iY M.f M.g) u) ⟨lc,hp',tk⟩):bw (D+2) 289 [.ref M.ni] [] ⟨lc,hp,tk⟩ P:=by
 rcases g.fb with hf|⟨nf,hf,ef⟩
 ·exact Jk g.m hf la lb h0 λn hp k e en=>h (g.kp (f:=M.f) (ta:=M.ta) (mb:=M.mb) k e (.inr ⟨n,rfl,en⟩))
 ·exact Ji g.m hf ef la lb h0 (h (fb:=M.fb) g)
theorem Aw (g:e8 hp M res) (la:M.f.length<100) (lb:M.g.length<100) (hpos:0<M.f.length+M.g.length) (hm:M.mb=.none) (e:kh M.f M.g 20 [(0,M.f.length,0,M.g.length)] []=some bs) (hts:lx (cF M.f M.g bs)=true) (hres:res.length<=1000) (hp0:cz res=true)
  (h:∀{hp' mb fb res' tk'},e8 hp' {M with mb:=mb,fb:=fb} res'->((ey M.f M.g (fG (cF M.f M.g bs)) p.cut=true/\∃u,tk<=u/\u<tk'/\res'=res++[.tup (.type "tuple") [jz M.f M.g (fG (cF M.f M.g bs)) (some u),.str M.f M.ta]])∨(ey M.f M.g (fG (cF M.f M.g bs)) p.cut=false/\tk<=tk'/\res'=res))->P .next (oB p M.ni (some (.str M.f M.ta)) hp' tk')):
  bB (D+5) gc (.cons CB .nil) (oB p M.ni (some (.str M.f M.ta)) hp tk) P:=by
 refine e7 (kvs:=M.kv) (by kernel_rfl) AW g.m.inst g.m.dict (Ko g.m.inst g.m.dict M.a M.b (aH la (by decide)) (aH lb (by decide)) hpos λu1 tk1 ht1=>Bx ⟨λhb=>⟨λh=>(nomatch h),λ_=>h (mb:=M.mb) (fb:=M.fb) g (.inr ⟨by unfold ey;rw[show kG (zC M.f M.g) p.cut=false from hb];rfl,ht1,rfl⟩)⟩,λhb=>?_⟩)
 refine e7 (kvs:=M.kv) (by kernel_rfl) EO g.m.inst g.m.dict (Ml (M:=M) g la lb hpos λ{hp2 fb} g2 u2=>Bx ⟨λhb2=>⟨λh=>(nomatch h),λ_=>h (mb:=M.mb) g2 (.inr ⟨by unfold ey;rw[show kG (zC M.f M.g) p.cut=true from hb,show kG (dF (iY M.f M.g) (M.f.length+M.g.length)) p.cut=false from hb2];rfl,ht1,rfl⟩)⟩,λhb2=>?_⟩)
 refine e7 (kvs:=Mt.kv {M with fb:=fb}) (by kernel_rfl) rU g2.m.inst g2.m.dict (Gl (M:={M with fb:=fb}) g2.m la lb hpos hm e hts λn hp3 k3 e3 ei u3 hu3=>?_)
 have g3:e8 hp3 {M with mb:=.ref n,fb:=fb} res:=g2.kp (f:=M.f) (ta:=M.ta) k3 e3 (g2.fbk k3)
 have ps:∀{b},kG (dF (fG (cF M.f M.g bs)) (M.f.length+M.g.length)) p.cut=b->ey M.f M.g (fG (cF M.f M.g bs)) p.cut=b:=λq=>by unfold ey;rw[show kG (zC M.f M.g) p.cut=true from hb,show kG (dF (iY M.f M.g) (M.f.length+M.g.length)) p.cut=true from hb2,q];rfl
 have t3:=ag ht1 hu3
 refine Bx ⟨λhb3=>⟨λh=>(nomatch h),λ_=>h g3 (.inr ⟨ps hb3,Nat.le_succ_of_le t3,rfl⟩)⟩,λhb3=>⟨λ_=>?_,λh=>(nomatch h)⟩⟩
 refine dz de (show bq _ _ _ from g3.r) ?_
 refine e7 (kvs:=Mt.kv {M with mb:=.ref n,fb:=fb}) (by kernel_rfl) rU g3.m.inst g3.m.dict (F6 (M:={M with mb:=.ref n,fb:=fb}) g3.m la lb hpos rfl ei hts λu4 hu4=>⟨aa rfl,rfl,dD _ g3.r (ag hres (by decide)) ?_⟩)
 refine h (g3.put ?_) (.inl ⟨ps hb3,u4,ag t3 (ag (aK _) hu4),Nat.lt_succ_self _,rfl⟩)
 unfold cz at hp0⊢
 rw[List.all_append,hp0];rfl
theorem A1 (g:e8 hp M res) (la:a.length<100) (lb:M.g.length<100) (hpos:0<a.length+M.g.length) (h0:t≠0) (hv:∃u,M.ta=some u/\a≠M.f/\t≠u/\u≠0) (e:kh a M.g 20 [(0,a.length,0,M.g.length)] []=some bs) (hts:lx (cF a M.g bs)=true) (hres:res.length<=1000) (hp0:cz res=true)
  (h:∀{hp' mb fb res' tk'},e8 hp' {M with f:=a,ta:=some t,mb:=mb,fb:=fb} res'->((ey a M.g (fG (cF a M.g bs)) p.cut=true/\∃u,tk<=u/\u<tk'/\res'=res++[.tup (.type "tuple") [jz a M.g (fG (cF a M.g bs)) (some u),.str a (some t)]])∨(ey a M.g (fG (cF a M.g bs)) p.cut=false/\tk<=tk'/\res'=res))->P .next (oB p M.ni (some (.str a (some t))) hp' tk')):
  bB (D+5) gc qK (oB p M.ni (some (.str a (some t))) hp tk) P:=by
 obtain⟨u,eu,hne,hu1,hu2⟩:=hv
 refine e7 (kvs:=M.kv) (by kernel_rfl) qb g.m.inst g.m.dict (yN g.m.ne g.m.inst g.m.dict (aa rfl) M.a h0 (.inr ⟨M.f,u,congrArg (AV.str M.f) eu,hne,hu1,hu2⟩) ?_)
 rw[DB]
 exact Aw (M:={M with f:=a,ta:=some t,mb:=.none}) (g.seq1 a (some t)) la lb hpos rfl e hts hres hp0 h
end
noncomputable def mr (ts:List AV) (n:Nat):List AV:=if n=1 then zH ts else(cR true (bp 1) ts).take n
section
variable {D n ir tk:Nat} {lc:List (Option AV)} {H:List AO} {ts:List AV} {P:PV}
theorem Mk (ok:mW ts) (o:kc ts) (h1:1<=n) (h4:n<=4) (hl:ts.length<=4) (ei:H[ir]? =some (.list ts)) (h:∀m hp,hp[m]? =some (.list (mr ts n))->P (.ref m) ⟨lc,hp,tk⟩):bw (D+1) 309 [.int n,.ref ir] [] ⟨lc,H,tk⟩ P:=by
 by_cases e:n=1
 ·subst e;exact JE ok ei h
 have h2:2<=n:=Nat.lt_of_le_of_ne h1 λq=>e q.symm
 have ef:mr ts n=(cR true (bp 1) ts).take n:=if_neg e
 rw[ef] at h
 by_cases q:ts.length<=n
 ·exact JK ok ei h2 q h
 have q:=Nat.lt_of_not_le q
 have hn:n=2∨n=3:=(Nat.eq_or_lt_of_le h2).imp Eq.symm λh3=>Nat.le_antisymm (Nat.le_of_lt_succ (aP q hl)) h3
 obtain⟨h0,h1,e0,e1,e2⟩:=Hj o hl hn q
 exact J6 ok ei hn q e0 e1 (e2▸h)
end
theorem DX {ts:List AV} {n:Nat} (h:ts.length<6) {x:AV} (hx:x∈mr ts n):x∈ts:=by
 unfold mr at hx
 by_cases e:n=1
 ·rw[if_pos e] at hx
  cases ts with
  |nil=>cases hx
  |cons y r=>exact aN.mp hx▸rS r y
 ·rw[if_neg e] at hx;exact jE h (List.mem_of_mem_take hx)
theorem DQ {ts:List AV} {n:Nat} (h:ts.length<6):(mr ts n).length<=5:=by
 unfold mr
 refine bU (λz=>List.length z<=5) ?_ ?_
 ·cases ts with
  |nil=>exact Nat.zero_le _
  |cons y r=>exact(show 1<=5 by decide)
 ·rw[List.length_take,iE h];exact ag (Nat.min_le_right ..) (Nat.le_of_lt_succ h)
noncomputable abbrev Gd:=List Nat×Tok
noncomputable def fv (gs:List Gd):List AV:=gs.map λg=>.str g.1 (some g.2)
noncomputable def wC (c:UInt64):Bool:=KW 0 c&&KW c 4607182418800017408
noncomputable def zz (a word:List Nat):Option (List T3):=kh a word 20 [(0,a.length,0,word.length)] []
noncomputable def gM (a word:List Nat):Int:=fG (cF a word ((zz a word).getD []))
noncomputable def zJ (a word:List Nat):Bool:=match zz a word with
 |some bs=>lx (cF a word bs)&&(Nat.ble 1 a.length&&Nat.ble a.length 99)
 |none=>false
noncomputable def cT (a word:List Nat):UInt64:=dF (gM a word) (a.length+word.length)
noncomputable def qk (word:List Nat) (cut:UInt64) (g:Gd):Bool:=ey g.1 word (gM g.1 word) cut
noncomputable abbrev GD:=List Nat×Tok×Tok
noncomputable def gE (word:List Nat) (d:GD):AV:=.tup (.type "tuple") [.flt (cT d.1 word) (some d.2.2),.str d.1 (some d.2.1)]
structure qp (word:List Nat) (cut:UInt64) (gs:List Gd) (tk:Nat) (L:List GD):Prop where
 e:(L.map λd=>(d.1,d.2.1))=gs.filter (qk word cut)
 t:∀d∈L,tk<=d.2.2
 n:(L.map λd=>d.2.2).Nodup
section
variable {word:List Nat} {cut:UInt64} {gs:List Gd} {tk tk':Nat} {L:List GD} {a:List Nat} {t u:Tok}
theorem qp.no (h:qp word cut gs tk' L) (hb:ey a word (gM a word) cut=false) (ht:tk<=tk'):qp word cut ((a,t)::gs) tk L:=
 ⟨h.e.trans (List.filter_cons_of_neg (p:=qk word cut) (a:=(a,t)) (show¬ey a word (gM a word) cut=true from by rw[hb];exact au)).symm,λd hd=>ag ht (h.t d hd),h.n⟩
theorem qp.yes (h:qp word cut gs tk' L) (hb:ey a word (gM a word) cut=true) (h1:tk<=u) (h2:(u:Nat)<tk'):qp word cut ((a,t)::gs) tk ((a,t,u)::L):=
 ⟨(congrArg ((a,t)::·) h.e).trans (List.filter_cons_of_pos (p:=qk word cut) (a:=(a,t)) hb).symm,λd hd=>(aL.mp hd).elim (λq=>q▸h1) λhd=>ag h1 (Nat.le_of_lt (aP h2 (h.t d hd))),List.nodup_cons.mpr ⟨λhm=>(aG.mp hm).elim λd q=>absurd h2 (Nat.not_lt.mpr (ag (h.t d q.1) (Nat.le_of_eq q.2))),h.n⟩⟩
end
section
variable {D:Nat} {p:H9} {M0:Mt} {P:AF->St->Prop} {chk:St->Prop} {word:List Nat}
theorem Ax (hc:∀s,chk s) (lb:word.length<100) (l:List Gd):∀{tk hp res M x6},e8 hp M res->M.ni=2->M.g=word->res.length+l.length<=100->cz res=true->(∀g∈l,zJ g.1 word=true/\g.2≠0)->l.Pairwise (λg g'=>g.1≠g'.1/\g.2≠g'.2)->(∀g∈l,∃u,M.ta=some u/\g.1≠M.f/\g.2≠u/\u≠0)->
  (∀{L tk' hp x6},qp word p.cut l tk L->tk<=tk'->hp[0]? =some (.list (res++L.map (gE word)))->P .next (oB p 2 x6 hp tk'))->
  bD chk (wW (D+5) gc wg).a (bB (D+5) gc qK) (fv l) (oB p 2 x6 hp tk) P:=by
 induction l with
 |nil=>exactλ{tk hp res M x6} g hi hg hr hp hok hd hv h=>⟨hc _,h (L:=[]) ⟨rfl,λd h=>(nomatch h),List.nodup_nil⟩ (ak _) (by rw[List.map_nil,List.append_nil];exact g.r)⟩
 |cons q l ih=>
  intro tk hp res M x6 g hi hg hr hp0 hok hd hv h
  obtain⟨a,t⟩:=q
  subst hg
  obtain⟨o1,o2⟩:=hok _ (.head _)
  have hr':res.length+l.length+1<=100:=hr
  have hr2:res.length+1+l.length<=100:=Nat.add_right_comm ..▸hr'
  have hrl:=ag (aQ ..) hr
  unfold zJ at o1
  cases e:zz a M.g with
  |none=>dsimp only at o1;rw[e] at o1;cases o1
  |some bs=>
  dsimp only at o1
  rw[e] at o1
  obtain⟨o1,o3⟩:=Bool.and_eq_true_iff.mp o1
  obtain⟨l1,l2⟩:=Bool.and_eq_true_iff.mp o3
  have eM:gM a M.g=fG (cF a M.g bs):=by unfold gM;rw[e];rfl
  have hd':=List.pairwise_cons.mp hd
  have hv':∀g∈l,∃u,some t=some u/\g.1≠a/\g.2≠u/\u≠0:=λg hg=>⟨t,rfl,(hd'.1 g hg).1.symm,(hd'.1 g hg).2.symm,o2⟩
  refine⟨hc _,aa rfl,?_⟩
  refine hi▸A1 g (Nat.lt_succ_of_le (aa l2)) lb (ag (aa l1) (aQ ..)) o2 (hv _ (.head _)) e o1 (ag hrl (by decide)) hp0 λ{hp' mb fb res' tk'} g' hh=>?_
  rw[<-eM] at hh
  show bD _ _ _ _ (oB p M.ni _ _ _) _
  rw[hi]
  rcases hh with⟨hb,u,hu1,hu2,rfl⟩|⟨hb,ht,rfl⟩
  ·refine ih g' hi rfl (by rw[aI];exact hr2) ?_ (λg hg=>hok g (.tail _ hg)) hd'.2 hv' λ{L tk2 H2 x62} hG ht2 e2=>h (hG.yes hb hu1 hu2) (ag hu1 (ag (Nat.le_of_lt hu2) ht2)) ?_
   ·unfold cz at hp0⊢
    rw[List.all_append,hp0];rfl
   ·rw[ax] at e2
    exact e2
  ·exact ih g' hi rfl (Nat.le_of_succ_le hr') hp0 (λg hg=>hok g (.tail _ hg)) hd'.2 hv' λ{L tk2 H2 x62} hG ht2 e2=>h (hG.no hb ht) (ag ht ht2) e2
end
structure mZ (word:List Nat) (gs:List Gd) (sc:List Nat->Int):Prop where
 lt:∀g∈gs,∀g'∈gs,(Float64.cmp (cT g.1 word) (cT g'.1 word)==some .lt)=decide (sc g.1<sc g'.1)
 eq:∀g∈gs,∀g'∈gs,(Float64.cmp (cT g.1 word) (cT g'.1 word)==some .eq)=decide (sc g.1=sc g'.1)
 gt:∀g∈gs,∀g'∈gs,(Float64.cmp (cT g.1 word) (cT g'.1 word)==some .gt)=decide (sc g'.1<sc g.1)
noncomputable def jM (sc:List Nat->Int) (a b:List Nat):Bool:=if sc a=sc b then decide (a<b) else decide (sc a<sc b)
section
variable {word:List Nat} {gs:List Gd} {sc:List Nat->Int} {d d':GD} {D:List GD} {a b c:List Nat}
theorem jh (k:mZ word gs sc) (h:(d.1,d.2.1)∈gs) (h':(d'.1,d'.2.1)∈gs):bp 1 (gE word d) (gE word d')=jM sc d.1 d'.1:=by
 show(if(Float64.cmp (cT d.1 word) (cT d'.1 word)==some .eq)=true then(if decide (d.1=d'.1)=true then false else decide (d.1<d'.1)) else(Float64.cmp (cT d.1 word) (cT d'.1 word)==some .lt))=_
 rw[k.eq _ h _ h',k.lt _ h _ h']
 unfold jM
 by_cases e:sc d.1=sc d'.1
 ·rw[if_pos (aR e),if_pos e]
  by_cases q:d.1=d'.1
  ·rw[if_pos (aR q),q];exact(decide_eq_false (List.lt_irrefl _)).symm
  ·exact if_neg λz=>q (aj z)
 ·rw[if_neg λz=>e (aj z),if_neg e]
theorem B9 (k:mZ word gs sc) (h:(d.1,d.2.1)∈gs) (h':(d'.1,d'.2.1)∈gs):lu 1 (gE word d) (gE word d')=decide (d.1=d'.1):=by
 show(if(Float64.cmp (cT d.1 word) (cT d'.1 word)==some .eq)=true then(if decide (d.1=d'.1)=true then true else decide (d.1=d'.1)) else(Float64.cmp (cT d.1 word) (cT d'.1 word)==some .eq))=_
 rw[k.eq _ h _ h']
 by_cases e:d.1=d'.1
 ·rw[if_pos (aR (congrArg sc e)),if_pos (aR e),aR e]
 ·rw[if_neg λz=>e (aj z)]
  by_cases q:sc d.1=sc d'.1
  ·exact if_pos (aR q)
  ·rw[if_neg λz=>q (aj z),decide_eq_false q,decide_eq_false e]
theorem jJ (e:sc a=sc b):jM sc a b=decide (a<b):=if_pos e
theorem gZ (e:sc a≠sc b):jM sc a b=decide (sc a<sc b):=if_neg e
theorem Fy (h:jM sc a b=true) (k:jM sc b c=true):jM sc a c=true:=by
 by_cases e1:sc a=sc b
 ·rw[jJ e1] at h
  by_cases e2:sc b=sc c
  ·rw[jJ e2] at k
   rw[jJ (e1.trans e2)]
   exact aR (List.lt_trans (aj h) (aj k))
  ·rw[gZ (e1▸e2),e1];rwa [gZ e2] at k
 ·rw[gZ e1] at h
  have h:=aj h
  by_cases e2:sc b=sc c
  ·rw[gZ (e2▸e1)];exact aR (e2▸h)
  ·rw[gZ e2] at k
   have z:=Int.lt_trans h (aj k)
   rw[gZ (Int.ne_of_lt z)];exact aR z
theorem Fz (h:a≠b):jM sc a b= !jM sc b a:=by
 by_cases e:sc a=sc b
 ·rw[jJ e,jJ e.symm]
  by_cases q:a<b
  ·rw[aR q,decide_eq_false (List.lt_asymm q)];rfl
  ·rw[decide_eq_false q,aR (Std.lt_of_le_of_ne (List.not_lt.mp q) h.symm)];rfl
 ·rw[gZ e,gZ λz=>e z.symm]
  by_cases q:sc a<sc b
  ·rw[aR q,decide_eq_false (Int.not_lt.mpr (Int.le_of_lt q))];rfl
  ·rw[decide_eq_false q,aR (Std.lt_of_le_of_ne (Int.not_lt.mp q) λz=>e z.symm)];rfl
theorem Gp:jM sc a a=false:=(jJ rfl).trans (decide_eq_false (List.lt_irrefl _))
theorem zo {α β:Type} {f:α->β} {D:List α} (hn:(D.map f).Nodup) {i j:Nat} (hi:i<D.length) (hj:j<D.length) (e:f D[i]=f D[j]):i=j:=
 (List.getElem_inj (h₀:=by rw[ai];exact hi) (h₁:=by rw[ai];exact hj) hn).mp (by rw[List.getElem_map,List.getElem_map];exact e)
theorem fT {C:AV->Prop} (h:∀d∈D,C (gE word d)):∀x∈D.map (gE word),C x:=λx hx=>(aG.mp hx).elim λd q=>q.2▸h d q.1
theorem FO (k:mZ word gs sc) (hm:∀d∈D,(d.1,d.2.1)∈gs) (hl:D.length<=4) (ht:∀d∈D,d.2.2≠0) (hn:(D.map λd=>d.2.2).Nodup):mW (D.map (gE word)):=by
 have fl:∀d∈D,lT (cT d.1 word):=λd hd=>eq_of_beq ((k.eq _ (hm d hd) _ (hm d hd)).trans (aR rfl))
 have ck:∀d∈D,∀d'∈D,ia (dK 0) [.flt (cT d.1 word) (some d.2.2),.str d.1 (some d.2.1)] [.flt (cT d'.1 word) (some d'.2.2),.str d'.1 (some d'.2.1)]:=λd hd d' hd'=>⟨⟨fl d hd,fl d' hd',ht d hd,ht d' hd',λe=>by
  obtain⟨i,hi,rfl⟩:=List.getElem_of_mem hd
  obtain⟨j,hj,rfl⟩:=List.getElem_of_mem hd'
  obtain rfl:=zo hn hi hj e
  rfl⟩,trivial,trivial⟩
 exact⟨by rw[ai];exact Nat.le_succ_of_le hl,aF.mpr (fT λd hd=>rfl),fT λd hd=>fT λd' hd'=>⟨rfl,rfl,ck d hd d' hd',ck d hd d hd,ck d' hd' d' hd'⟩,fT λd hd=>⟨_,_,rfl,rfl⟩⟩
theorem yR (k:mZ word gs sc) (hm:∀d∈D,(d.1,d.2.1)∈gs) (hn:(D.map λd=>d.1).Nodup):kc (D.map (gE word)):=by
 have at2:∀{C:AV->AV->Prop},(∀d∈D,∀d'∈D,d.1≠d'.1->C (gE word d) (gE word d'))->∀(i j:Nat),i<(D.map (gE word)).length->j<(D.map (gE word)).length->i≠j->C ((D.map (gE word)).getD i .none) ((D.map (gE word)).getD j .none):=λ{C} h i j hi hj hij=>by
  have hi':i<D.length:=ai (gE word)▸hi
  have hj':j<D.length:=ai (gE word)▸hj
  rw[aB,aB,aO,aO,aq hi',aq hj']
  exact h _ (List.getElem_mem hi') _ (List.getElem_mem hj') λe=>hij (zo hn hi' hj' e)
 refine⟨fT λd hd=>(B9 k (hm d hd) (hm d hd)).trans (aR rfl),at2 (C:=λx y=>lu 1 x y=false) λd hd d' hd' ne=>(B9 k (hm d hd) (hm d' hd')).trans (decide_eq_false ne),at2 (C:=λx y=>bp 1 x y= !bp 1 y x) λd hd d' hd' ne=>?_,fT λd hd=>fT λd' hd'=>fT λd'' hd''=>?_,fT λd hd=>(jh k (hm d hd) (hm d hd)).trans Gp⟩
 ·rw[jh k (hm d hd) (hm d' hd'),jh k (hm d' hd') (hm d hd)];exact Fz ne
 ·rw[jh k (hm d hd) (hm d' hd'),jh k (hm d' hd') (hm d'' hd''),jh k (hm d hd) (hm d'' hd'')];exact Fy
end
structure n9 (word:List Nat) (tw:Tok) (gs:List Gd) (n:Nat) (cut:UInt64) (sc:List Nat->Int):Prop where
 n1:1<=n
 n4:n<=4
 bar:wC cut=true
 wnd:word.Nodup
 wl:word.length<100
 w0:tw≠0
 wne:word≠[]->tw≠622
 gl:gs.length<=4
 gok:∀g∈gs,zJ g.1 word=true/\g.2≠0/\g.1≠[]/\g.2≠621
 gd:gs.Pairwise λg g'=>g.1≠g'.1/\g.2≠g'.2
 sc:mZ word gs sc
noncomputable def xe (word:List Nat) (cut:UInt64) (gs:List Gd) (n:Nat) (names:List AV):Prop:=∃D:List GD,names=(mr (D.map (gE word)) n).map d8/\(D.map λd=>(d.1,d.2.1))=gs.filter (qk word cut)
section
variable {D n tk m:Nat} {word:List Nat} {gs:List Gd} {cut:UInt64} {L:List GD} {H:List AO}
theorem Fc {S:List AV} {P:St->Prop} (hS:S.length<=5) (hp:∀x∈S,∃d∈L,x=gE word d) (hn:H[m]? =some (.list S)) (K:∀lc,P ⟨lc,H++[.list (S.map d8)],tk⟩):
  dH H.length (λst=>bq st (.ref m) S) (wW D mM Bt).a (bV D mM none) (wW D mM (.loc 1 (Ol 595 12 13))).e S ⟨[none,none],H++[.list []],tk⟩ P:=by
 have z:=bM (tg:=(wW D mM Bt).a) (ts:=bV D mM none) (el:=(wW D mM (.loc 1 (Ol 595 12 13))).e) (H:=H) (tk:=tk) (P:=P) (chk:=λst=>bq st (.ref m) S) (L:=S) (λx=>x) (λ_=>true) d8 (λx=>[some (lp x),some (d8 x)]) (λl=>∃x y,l=[x,y]) (λ_ _=>aZ hn) (λ_=>⟨_,_,rfl⟩) (λa us lc Kc ha sh hl h1 h2=>?_) S [] [none,none] (λ_ h=>h) ⟨_,_,rfl⟩ (ag (Nat.le_of_eq (Nat.zero_add _)) (ag hS (by decide))) λlc=>by
   rw[List.filter_eq_self.mpr λ_ _=>rfl];exact K lc
 ·rwa [List.map_id'] at z
 ·obtain⟨x0,x1,rfl⟩:=sh
  obtain⟨d,_,rfl⟩:=hp a ha
  exact⟨rfl,aa rfl,aa rfl,λhb=>dY hl (h1 rfl),λhb=>nomatch hb⟩
theorem DM {sc:List Nat->Int} {tw:Tok} {w0:AV} {k:Option Tok} {ni:Nat} {x6:Option AV} {st:St} {P:PV} (i:n9 word tw gs n cut sc) (g:qp word cut gs st.tk L) (h1:1<=st.tk) (ht:st.tk<=tk) (eH:H[0]? =some (.list (L.map (gE word))))
  (h:∀names,xe word cut gs n names->P (.ref st.hp.length) ⟨st.loc,st.hp++[.list names],st.tk⟩):
  bB (D+1) gc wH (oB ⟨w0,fv gs,n,cut,k⟩ ni x6 H tk) (cH (m8 st P)):=by
 have hm:∀d∈L,(d.1,d.2.1)∈gs:=λd hd=>(List.mem_filter.mp (g.e▸List.mem_map_of_mem (f:=λd:GD=>(d.1,d.2.1)) hd)).1
 have hl:L.length<=4:=(ai (λd:GD=>(d.1,d.2.1))▸congrArg List.length g.e)▸ag (List.length_filter_le _ _) i.gl
 have hnd:(L.map λd=>d.1).Nodup:=by
  have h1:(gs.map (·.1)).Nodup:=List.Pairwise.map _ (λ_ _ h=>h.1) i.gd
  have h2:=(List.filter_sublist (p:=qk word cut) (l:=gs)).map (·.1)
  rw[<-g.e,List.map_map] at h2
  exact h2.nodup h1
 have ok:=FO i.sc hm hl (λd hd=>Nat.ne_of_gt (ag h1 (g.t d hd))) g.n
 have hl':(L.map (gE word)).length<=4:=by rw[ai];exact hl
 have l6:=aJ hl' (show 4<6 by decide)
 have mem:∀x∈mr (L.map (gE word)) n,∃d∈L,x=gE word d:=λx hx=>(aG.mp (DX l6 hx)).elim λd q=>⟨d,q.1,q.2.symm⟩
 refine Mk ok (yR i.sc hm hnd) i.n1 i.n4 hl' eH λm hp em=>⟨aa rfl,?_⟩
 refine fY (by kernel_rfl) (fC _ (show bq _ _ _ from em) (Fc (DQ l6) mem em λlc=>⟨st.tk,ht,.inr ⟨_,_,rfl,aX,?_,h _ ⟨L,rfl,g.e⟩⟩⟩))
 refine aF.mpr λx hx=>?_
 obtain⟨y,hy,rfl⟩:=aG.mp hx
 obtain⟨d,_,rfl⟩:=mem y hy
 rfl
end
theorem GC:gP K0 315 gc v9=true:=by kernel_rfl
theorem Aq:(fdOf K0 315).body=.stmts (v9.toMs gc):=by kernel_rfl
theorem JU:iX K0 315 gc ["word","possibilities","n","cutoff"] [some 0,some 1,some 2,some 3,none,none,none] []=true:=by kernel_rfl
theorem Fo {D:Nat} {a b c d:AV} {args:List AV} {st:St} {P:PV} (ho:md st args [a,b,c,d]) (h:bB D gc v9 ⟨[some a,some b,some c,some d,none,none,none],[],st.tk⟩ (cH (m8 st P))):bw (D+1) 315 args [] st P:=
 pd (defAt GC Aq) JU ho (fQ (ns1:=["word","possibilities","n","cutoff"]) (ns2:=[]) (davs:=[]) (dvs:=[]) (T:=310) (o:=fO [.int 3 812,.float 4603579539098121011 813]) rfl (by kernel_rfl) (by kernel_rfl) rfl (consE λ_=>consE λ_=>consE λ_=>consE λ_=>nilE (by kernel_rfl)) (λG ρ=>.nil)) rfl rfl rfl h
noncomputable def vk:Mt:=⟨1,2,3,[],some 621,[],some 622,.none,.none⟩
noncomputable def qm:List AO:=tS ([.list []]++[.idict []]++[.inst 299 1]) 1 (.str [] (some 621)) (.str [] (some 622))
theorem cb {H:List AO} {o:AO} {n:Nat} (h:o.wf n) (k:∀x∈H,x.wf n):∀x∈o::H,x.wf n:=ao.2 ⟨h,k⟩
theorem yK (n:Nat) (h:5<n):∀o∈qm,o.wf n:=
 cb (λ_ h=>nomatch h) (cb (vY (M:=vk) (aJ (ak 5) h) trivial trivial) (cb (aJ (aa rfl) h) (cb (λ_ h=>nomatch h) (cb trivial (cb trivial λ_ h=>nomatch h)))))
theorem NU:e8 qm vk []:=⟨⟨by decide,rfl,rfl,rfl,λi o h=>(nomatch h),rfl,yK _ (aa rfl)⟩,by decide,rfl,.inl rfl⟩
theorem Dx {b m:Nat} (l:List Nat):∀n,b+n+l.length<=m->∀p∈gi b n l,p.2.wf m:=by
 induction l with
 |nil=>exactλn h p hp=>nomatch hp
 |cons c l ih=>exactλn h=>ao.2 ⟨aP (Nat.lt_add_of_pos_right (Nat.succ_pos _)) h,ih (n+1) (by rw[<-Nat.add_assoc,Nat.add_right_comm];exact h)⟩
theorem Eg {m:Nat} (l:List Nat):∀n,∀o∈dV n l,o.wf m:=by
 induction l with
 |nil=>exactλn o h=>nomatch h
 |cons c l ih=>exactλn=>cb (λv hv=>aN.mp hv▸trivial) (ih (n+1))
noncomputable def Ih (word:List Nat) (tw:Tok):Mt:=⟨1,2,6,[],some 621,word,some tw,.none,.none⟩
noncomputable def tR (word:List Nat) (tw:Tok):List AO:=qm.set 1 (.idict (Ih word tw).kv)++(AO.dictS (gi 7 0 word)::(dV 0 word++[AO.set0,AO.set0]))
theorem Nv (word:List Nat) (tw:Tok):e8 (tR word tw) (Ih word tw) []:=by
 have hl:(tR word tw).length=word.length+9:=by
  show(dV 0 word++[AO.set0,AO.set0]).length+7=_
  rw[aI,jT];rfl
 have h9:9<= (tR word tw).length:=hl▸Nat.le_add_left ..
 refine⟨⟨show 2≠1 by decide,rfl,rfl,rfl,λi o h=>?_,?_,?_⟩,show 6≠0 by decide,rfl,.inl rfl⟩
 ·show(tR word tw)[7+i]? =_
  rw[Nat.add_comm]
  show(dV 0 word++[AO.set0,AO.set0])[i]? =_
  exact aZ h
 ·show(tR word tw)[7+word.length]? =_
  rw[Nat.add_comm]
  show(dV 0 word++[AO.set0,AO.set0])[word.length]? =_
  rw[List.getElem?_append_right (Nat.le_of_eq jT),jT,Nat.sub_self];rfl
 ·have k:(AO.idict (Ih word tw).kv).wf (tR word tw).length:=vY (by show 6+1+word.length+1<_;rw[hl,Nat.add_comm (6+1)];exact Nat.lt_succ_self _) trivial trivial
  refineλo ho=>(bo.mp ho).elim (λh=>(List.mem_or_eq_of_mem_set h).elim (yK _ (aP (by decide) h9) o) λq=>q▸k) λh=>(aL.mp h).elim (λq=>q▸?_) λh=>(bo.mp h).elim (Eg word 0 o) λh=>(aL.mp h).elim (λq=>q▸trivial) λh=>aN.mp h▸trivial
  exact Dx word 0 (by rw[hl,Nat.add_comm];exact Nat.add_le_add_left (show 7<=9 by decide) _)
theorem F7 (word:List Nat) (tw:Tok):qm.set 1 (.idict (tM qm.length word.length (gJ vk.kv (.str word (some tw)))))++(AO.dictS (gi (qm.length+1) 0 word)::(dV 0 word++[AO.set0,AO.set0]))=tR word tw:=
 congrArg (λz=>qm.set 1 (AO.idict z)++(AO.dictS (gi 7 0 word)::(dV 0 word++[AO.set0,AO.set0]))) (DL 6 3 word.length 0 (.str [] (some 621)) (.str word (some tw)) (.str [] (some 622)) .none .none)
section
variable {D n j:Nat} {word:List Nat} {tw:Tok} {gs:List Gd} {cut:UInt64} {k:Option Tok} {sc:List Nat->Int} {st:St} {P:PV}
theorem yO (i:n9 word tw gs n cut sc) {M:Mt} {H:List AO} (g:e8 H M []) (hi:M.ni=2) (hg:M.g=word) (hf:M.f=[]) (hta:M.ta=some 621) (h1:1<=st.tk) (h:∀names,xe word cut gs n names->P (.ref st.hp.length) ⟨st.loc,st.hp++[.list names],st.tk⟩):
  bB (D+5) gc (.cons (.fer wg (.loc 1 (Ol 590 13 26)) qK (Om 590 4 593 41)) wH) (oB ⟨.str word (some tw),fv gs,n,cut,k⟩ 2 none H st.tk) (cH (m8 st P)):=by
 refine fC (fv gs) (show bq _ _ _ from rfl) ?_
 exact Ax (p:=⟨.str word (some tw),fv gs,n,cut,k⟩) (λ_=>rfl) i.wl gs g hi hg (ag (Nat.le_of_eq (Nat.zero_add _)) (ag i.gl (by decide))) rfl (λg hg=>⟨(i.gok g hg).1,(i.gok g hg).2.1⟩) i.gd (λg hg=>⟨621,hta,hf▸(i.gok g hg).2.2.1,(i.gok g hg).2.2.2,by decide⟩) λ{L tk' hp x6} G ht eL=>DM i G h1 ht eL h
theorem JJ (i:n9 word tw gs n cut sc) (ei:st.at j=some (.list (fv gs))) (h1:1<=st.tk) (h:∀names,xe word cut gs n names->P (.ref st.hp.length) ⟨st.loc,st.hp++[.list names],st.tk⟩):
  bw (D+6) 315 [.str word (some tw),.ref j,.int n,.flt cut k] [] st P:=by
 have hb:=Bool.and_eq_true_iff.mp i.bar
 refine Fo (.val rfl (.lst ei (aF.mpr λx hx=>(aG.mp hx).elim λg q=>q.2▸rfl) (.val rfl (.val rfl .nil)))) ⟨⟨_,_,_,_,rfl⟩,λq=>absurd ((congrArg not (aR (Int.ofNat_lt.mpr i.n1))).symm.trans q) (by decide),λ_=>HU ⟨λq=>absurd (hb.1.symm.trans q) (by decide),λ_=>HU ⟨λq=>absurd ((congrArg not hb.2).symm.trans q) (by decide),λ_=>⟨Nat.zero_le _,aa rfl,?_⟩⟩⟩⟩
 refine Ma ⟨aa rfl,e7 (d:=1) (kvs:=vk.kv) (by kernel_rfl) pX rfl rfl (yV (H:=qm) (nd:=1) (ni:=2) (kvs:=vk.kv) (by decide) rfl rfl (Mt.b vk) (by kernel_rfl) (by kernel_rfl) (by kernel_rfl) i.wnd i.wl (aa rfl) i.w0 (.inr ⟨622,rfl,by decide,i.wne,λe=>?_⟩) ?_)⟩
 ·subst e
  have z:=yO (D:=D) (k:=k) i NU rfl rfl rfl rfl h1 h
  exact z
 ·rw[F7]
  have z:=yO (D:=D) (k:=k) i (Nv word tw) rfl rfl rfl rfl h1 h
  exact z
end
noncomputable def fF (b:Int):UInt64:=Float64.ofFrac (decide (b<0)!=decide ((8:Int)<0)) b.natAbs (8:Int).natAbs
noncomputable def mn (p:Nat×Nat):UInt64:=dF p.1 p.2
noncomputable def qq (p:Nat×Nat):Nat:=55440*p.1/p.2
noncomputable def vl:List (Nat×Nat):=(List.range 11).flatMap λT=>(List.range ((T+1)/2+1)).map λK=>(K,T+1)
theorem oX {K T:Nat} (h:2*K<=T) (h1:1<=T) (h2:T<=11):(K,T)∈vl:=by
 refine List.mem_flatMap.mpr ⟨T-1,List.mem_range.mpr (by omega),aG.mpr ⟨K,List.mem_range.mpr (by omega),?_⟩⟩
 rw[Nat.sub_add_cancel h1]
theorem MX:(vl.all λp=>(List.range 9).all λb=>wC (fF (b:Nat))&&(kG (mn p) (fF (b:Nat))==Nat.ble (b*p.2) (16*p.1)))=true:=by kernel_rfl
theorem MA:(vl.all λp=>vl.all λq=>((Float64.cmp (mn p) (mn q)==some .lt)==Nat.blt (qq p) (qq q))&&(((Float64.cmp (mn p) (mn q)==some .eq)==Nat.beq (qq p) (qq q))&&((Float64.cmp (mn p) (mn q)==some .gt)==Nat.blt (qq q) (qq p))))=true:=by kernel_rfl
noncomputable def iy (w a:List Nat):Bool:=match zz a w with
 |none=>false
 |some bs=>lx (cF a w bs)&&(decide (c7 w a=fG (cF a w bs))&&(Nat.ble (c7 w a).toNat (iY a w).toNat&&(decide (iY a w=(iY a w).toNat)&&(decide (0<=c7 w a)&&(Nat.ble (iY a w).toNat a.length&&(Nat.ble (iY a w).toNat w.length&&(Nat.ble 1 a.length&&(Nat.ble a.length 6&&Nat.ble w.length 5))))))))
structure fg (w a:List Nat) (K Q:Nat):Prop where
 ok:zJ a w=true
 gm:gM a w=K
 near:c7 w a=K
 qr:iY a w=Q
 kq:K<=Q
 qa:Q<=a.length
 qw:Q<=w.length
 a1:1<=a.length
 a6:a.length<=6
 w5:w.length<=5
theorem iC {w a:List Nat} (h:iy w a=true):fg w a (c7 w a).toNat (iY a w).toNat:=by
 unfold iy at h
 cases e:zz a w with
 |none=>rw[e] at h;cases h
 |some bs=>
 rw[e] at h
 have n:=λ{a b:Nat} (h:Nat.ble a b=true)=>aa h
 have h1:=aE h;have h:=aA h;have h2:=aj (aE h);have h:=aA h;have h3:=n (aE h);have h:=aA h;have h4:=aj (aE h);have h:=aA h;have h5:=aj (aE h);have h:=aA h;have h6:=n (aE h);have h:=aA h;have h7:=n (aE h);have h:=aA h;have h8:=n (aE h);have h:=aA h;have h9:=n (aE h);have h10:=n (aA h)
 have eK:c7 w a=(c7 w a).toNat:=(Int.toNat_of_nonneg h5).symm
 refine⟨?_,?_,eK,h4,h3,h6,h7,h8,h9,h10⟩
 ·unfold zJ;rw[e]
  exact Bool.and_eq_true_iff.mpr ⟨h1,Bool.and_eq_true_iff.mpr ⟨Nat.ble_eq.mpr h8,Nat.ble_eq.mpr (ag h9 (by decide))⟩⟩
 ·unfold gM;rw[e];exact h2.symm.trans eK
section
variable {w a:List Nat} {K Q:Nat}
theorem fg.mem (p:fg w a K Q):(K,a.length+w.length)∈vl:=oX (by have:=p.kq;have:=p.qa;have:=p.qw;omega) (by have:=p.a1;omega) (by have:=p.a6;have:=p.w5;omega)
theorem sY (a w:List Nat):((a.length:Int)+w.length)=((a.length+w.length:Nat):Int):=by omega
theorem Cy {p:Nat×Nat} (h:p∈vl) {b:Nat} (hb:b<9):wC (fF (b:Nat))=true/\kG (mn p) (fF (b:Nat))=Nat.ble (b*p.2) (16*p.1):=by
 have:=aF.mp (aF.mp MX p h) b (List.mem_range.mpr hb)
 rw[Bool.and_eq_true] at this
 exact⟨this.1,eq_of_beq this.2⟩
theorem fg.pass (p:fg w a K Q) {b:Nat} (hb:b<9):ey a w (gM a w) (fF (b:Nat))=decide ((b:Int)*((w.length:Int)+a.length)<=16*K):=by
 have t:∀{M:Nat},M<=a.length->M<=w.length->kG (dF (M:Nat) ((a.length:Int)+w.length)) (fF (b:Nat))=Nat.ble (b*(a.length+w.length)) (16*M):=λ{M} h1 h2=>by
  have:=p.a1;have:=p.a6;have:=p.w5
  have:=(Cy (oX (T:=a.length+w.length) (K:=M) (by omega) (by omega) (by omega)) hb).2
  rw[sY];exact this
 have h1:=p.kq;have h2:=p.qa;have h3:=p.qw
 have e:(if(w.length:Int)<a.length then(w.length:Int) else a.length)=((if w.length<a.length then w.length else a.length:Nat):Int):=by split<;>split<;>omega
 unfold ey zC
 rw[p.gm,p.qr,e,t (by split<;>omega) (by split<;>omega),t h2 h3,t (by omega) (by omega)]
 have hc:((b:Int)*((w.length:Int)+a.length)<=16*K)↔b*(a.length+w.length)<=16*K:=by
  rw[show(w.length:Int)+a.length=((a.length+w.length:Nat):Int) by omega,<-Int.natCast_mul]
  omega
 by_cases h:b*(a.length+w.length)<=16*K
 ·rw[aR (hc.mpr h),Nat.ble_eq.mpr h,Nat.ble_eq.mpr (by omega:b*(a.length+w.length)<=16*Q),Nat.ble_eq.mpr (by split<;>omega)];rfl
 ·rw[decide_eq_false (λq=>h (hc.mp q)),show Nat.ble (b*(a.length+w.length)) (16*K)=false from Bool.eq_false_iff.mpr λq=>h (Nat.ble_eq.mp q),Bool.and_false,Bool.and_false]
noncomputable def bN (w a:List Nat):Int:=(55440*c7 w a).fdiv ((w.length:Int)+a.length)
theorem fg.share (p:fg w a K Q):bN w a=qq (K,a.length+w.length):=by
 unfold bN qq
 rw[p.near,show(w.length:Int)+a.length=((a.length+w.length:Nat):Int) by omega,Int.fdiv_eq_ediv_of_nonneg _ (aU _)]
 rfl
theorem fg.sc (p:fg w a K Q):cT a w=mn (K,a.length+w.length):=by
 unfold cT mn
 rw[p.gm,sY]
end
theorem CH {w:List Nat} {gs:List Gd} (h:∀g∈gs,iy w g.1=true):mZ w gs (bN w):=by
 have key:∀g∈gs,∀g'∈gs,(Float64.cmp (cT g.1 w) (cT g'.1 w)==some .lt)=decide (bN w g.1<bN w g'.1)/\(Float64.cmp (cT g.1 w) (cT g'.1 w)==some .eq)=decide (bN w g.1=bN w g'.1)/\(Float64.cmp (cT g.1 w) (cT g'.1 w)==some .gt)=decide (bN w g'.1<bN w g.1):=λg hg g' hg'=>by
  have p:=iC (h g hg)
  have p':=iC (h g' hg')
  have:=aF.mp (aF.mp MA _ p.mem) _ p'.mem
  rw[Bool.and_eq_true,Bool.and_eq_true] at this
  rw[p.sc,p'.sc,p.share,p'.share,eq_of_beq this.1,eq_of_beq this.2.1,eq_of_beq this.2.2]
  refine⟨?_,?_,?_⟩
  ·rw[Bool.eq_iff_iff,decide_eq_true_eq,Int.ofNat_lt]
   exact Nat.ble_eq.to_iff
  ·rw[Bool.eq_iff_iff,decide_eq_true_eq]
   exact⟨λh=>by rw[Nat.eq_of_beq_eq_true h],λh=>by rw[Int.ofNat.inj h];exact Nat.beq_refl _⟩
  ·rw[Bool.eq_iff_iff,decide_eq_true_eq,Int.ofNat_lt]
   exact Nat.ble_eq.to_iff
 exact⟨λg hg g' hg'=>(key g hg g' hg').1,λg hg g' hg'=>(key g hg g' hg').2.1,λg hg g' hg'=>(key g hg g' hg').2.2⟩
noncomputable def tO {α:Type} (gt:α->α->Bool) (l:List α) (b:α):α:=match l with
 |[]=>b
 |x::xs=>tO gt xs (if gt x b=true then x else b)
theorem E1 {α:Type} {gt:α->α->Bool} {gt':AV->AV->Bool} {f:α->AV} (hg:∀x y,gt' (f x) (f y)=gt x y) (r:List α):∀(b:α),jy gt' (r.map f) (f b)=f (tO gt r b):=by
 induction r with
 |nil=>exactλ_=>rfl
 |cons x r ih=>
  intro b
  show jy gt' (r.map f) (if gt' (f x) (f b)=true then f x else f b)=f (tO gt r (if gt x b=true then x else b))
  rw[hg,<-apply_ite f,ih]
theorem all2 {p:Bool->Bool} (h:[true,false].all p=true) (b:Bool):p b=true:=aF.mp h b (by cases b;exact .tail _ (.head _);exact .head _)
theorem MN {p:Bool->Bool->Bool->Bool->Bool->Bool->Bool} (h:([true,false].all λa=>[true,false].all λb=>[true,false].all λc=>[true,false].all λd=>[true,false].all λe=>[true,false].all λf=>p a b c d e f)=true) (a b c d e f:Bool):p a b c d e f=true:=all2 (all2 (all2 (all2 (all2 (all2 h a) b) c) d) e) f
noncomputable def Lk (L:Nat):Bool:=[true,false].all λa=>[true,false].all λb=>[true,false].all λc=>[true,false].all λd=>[true,false].all λe=>[true,false].all λf=>!vg (bT (L+1) a b c d e f) (L+1)||decide ((m9 99 true (bT (L+1) a b c d e f) (List.range (L+1))).take 1=[tO (λi j=>bT (L+1) a b c d e f j i) ((List.range L).map (·+1)) 0])
theorem DD:((List.range 4).all Lk)=true:=by kernel_rfl
theorem kc.tr_ok {ts:List AV} (o:kc ts):vg (tB ts) ts.length=true:=by
 unfold vg
 simp only[aF,List.mem_range,Bool.or_eq_true,Bool.not_eq_true']
 intro i hi j hj k hk
 cases h:tB ts i j&&tB ts j k with
 |false=>exact .inl rfl
 |true=>
  have:=Bool.and_eq_true_iff.mp h
  exact .inr (o.tr _ (getD_mem hi) _ (getD_mem hj) _ (getD_mem hk) this.1 this.2)
theorem G6 {ts:List AV} (o:kc ts) (hL:ts.length<=4) (hg:∀x∈ts,∀y∈ts,eR 1 x y=bp 1 y x):zH ts=(cR true (bp 1) ts).take 1:=by
 cases ts with
 |nil=>rfl
 |cons x r=>
 have hd:(x::r).getD 99 .none=.none:=dg (by omega)
 have hgt:∀i j,eR 1 ((x::r).getD i .none) ((x::r).getD j .none)=tB (x::r) j i:=λi j=>by
  by_cases hi:i<(x::r).length
  ·by_cases hj:j<(x::r).length
   ·exact hg _ (getD_mem hi) _ (getD_mem hj)
   ·unfold tB;rw[dg hj]
    cases (x::r).getD i .none<;>rfl
  ·unfold tB;rw[dg hi,iI];rfl
 have er:r=((List.range r.length).map (·+1)).map λi=>(x::r).getD i .none:=by
  refine List.ext_getElem (by simp) λi h1 h2=>?_
  simp[aq h1]
 have e1:zH (x::r)=[(x::r).getD (tO (λi j=>tB (x::r) j i) ((List.range r.length).map (·+1)) 0) .none]:=by
  show[jy (eR 1) r x]=_
  rw[<-E1 (gt':=eR 1) (f:=λi=>(x::r).getD i .none) hgt,<-er];rfl
 have e2:(cR true (bp 1) (x::r)).take 1=((m9 99 true (tB (x::r)) (List.range (x::r).length)).take 1).map λi=>(x::r).getD i .none:=by
  rw[List.map_take,<-iH (f:=λi=>(x::r).getD i .none) (d:=99) (lt':=bp 1) hd (λ_ _=>rfl),<-eE]
 rw[e1,e2]
 have ht:=o.tr_ok
 rw[BY o hL] at ht⊢
 generalize tB (x::r) 0 1=a at ht⊢
 generalize tB (x::r) 0 2=b at ht⊢
 generalize tB (x::r) 0 3=c at ht⊢
 generalize tB (x::r) 1 2=d at ht⊢
 generalize tB (x::r) 1 3=e at ht⊢
 generalize tB (x::r) 2 3=f at ht⊢
 have hc:=aF.mp DD r.length (List.mem_range.mpr (Nat.lt_of_succ_le hL))
 have z:=MN hc a b c d e f
 rw[show r.length+1=(x::r).length from rfl,ht] at z
 rw[aj z];rfl
theorem GG {ts:List AV} (o:kc ts) (hL:ts.length<=4) (hg:∀x∈ts,∀y∈ts,eR 1 x y=bp 1 y x) (n:Nat):mr ts n=(cR true (bp 1) ts).take n:=by
 unfold mr
 split
 ·rename_i e;rw[e];exact G6 o hL hg
 ·rfl
noncomputable def cG (w:List Nat) (d:GD):Int×cw:=(bN w d.1,d.1,some d.2.1)
theorem Ju {word:List Nat} {gs:List Gd} {sc:List Nat->Int} (k:mZ word gs sc) {d d':GD} (h:(d.1,d.2.1)∈gs) (h':(d'.1,d'.2.1)∈gs):eR 1 (gE word d) (gE word d')=bp 1 (gE word d') (gE word d):=by
 rw[jh k h' h]
 show(if(Float64.cmp (cT d.1 word) (cT d'.1 word)==some .eq)=true then(if decide (d.1=d'.1)=true then false else decide (d'.1<d.1)) else(Float64.cmp (cT d.1 word) (cT d'.1 word)==some .gt))=_
 rw[k.eq _ h _ h',k.gt _ h _ h']
 unfold jM
 simp only[decide_eq_true_eq,eq_comm (a:=sc d'.1)]
 congr 1
 split
 ·rename_i e;rw[e];exact(decide_eq_false (List.lt_irrefl _)).symm
 ·rfl
theorem Ks (w:List Nat) (d d':GD):bp 1 (fM (cG w d)) (fM (cG w d'))=jM (bN w) d.1 d'.1:=by
 show(if decide (bN w d.1=bN w d'.1)=true then(if decide (d.1=d'.1)=true then false else decide (d.1<d'.1)) else decide (bN w d.1<bN w d'.1))=_
 unfold jM
 simp only[decide_eq_true_eq]
 congr 1
 split
 ·rename_i e;rw[e];exact(decide_eq_false (List.lt_irrefl _)).symm
 ·rfl
theorem uf {w:List Nat} {b:Nat} (hb:b<9) (gs:List Gd):(∀g∈gs,iy w g.1=true)->(gs.map λg=>(g.1,some g.2)).flatMap (bZ w (b:Nat))=(gs.filter (qk w (fF (b:Nat)))).map λg=>(bN w g.1,g.1,some g.2):=by
 induction gs with
 |nil=>exactλ_=>rfl
 |cons g gs ih=>
  intro h
  obtain⟨K,Q,p⟩:∃K Q,fg w g.1 K Q:=⟨_,_,iC (h g (.head _))⟩
  replace ih:=ih λg hg=>h g (.tail _ hg)
  have hn:bZ w (b:Nat) (g.1,some g.2)=if(b:Int)*((w.length:Int)+g.1.length)<=16*c7 w g.1 then[(bN w g.1,g.1,some g.2)] else[]:=rfl
  rw[List.map_cons,List.flatMap_cons,ih,List.filter_cons,show qk w (fF (b:Nat)) g=_ from p.pass hb,hn,p.near]
  by_cases q:(b:Int)*((w.length:Int)+g.1.length)<=16*K
  ·rw[if_pos q,aR q,if_pos rfl];rfl
  ·rw[if_neg q,decide_eq_false q,if_neg au];rfl
theorem Al {w:List Nat} {gs:List Gd} {n b:Nat} {names:List AV} (hb:b<9) (h:∀g∈gs,iy w g.1=true) (hnd:(gs.map (·.1)).Nodup) (hl:gs.length<=4) (k:xe w (fF (b:Nat)) gs n names):names=bX (j7 w (gs.map λg=>(g.1,some g.2)) n (b:Nat)):=by
 obtain⟨D,rfl,hm⟩:=k
 have sc:=CH h
 have hDm:∀d∈D,(d.1,d.2.1)∈gs:=λd hd=>(List.mem_filter.mp (hm▸List.mem_map_of_mem (f:=λd:GD=>(d.1,d.2.1)) hd)).1
 have hDl:D.length<=4:=by
  have:=congrArg List.length hm
  rw[ai] at this
  exact this▸ag (List.length_filter_le _ _) hl
 have hn2:(D.map λd=>d.1).Nodup:=by
  have h2:=(List.filter_sublist (p:=qk w (fF (b:Nat))) (l:=gs)).map (·.1)
  rw[<-hm,List.map_map] at h2
  exact h2.nodup hnd
 have od:=yR sc hDm hn2
 have hF:(gs.map λg=>(g.1,some g.2)).flatMap (bZ w (b:Nat))=D.map (cG w):=by
  rw[uf hb gs h,<-hm,List.map_map];rfl
 have hL:(D.map (gE w)).length<=4:=by rw[ai];exact hDl
 rw[GG od hL (λx hx y hy=>by
  obtain⟨d,hd,rfl⟩:=aG.mp hx
  obtain⟨d',hd',rfl⟩:=aG.mp hy
  exact Ju sc (hDm d hd) (hDm d' hd'))]
 unfold j7
 rw[hF,mD]
 have e2:bX (((iU (D.map (cG w))).map (·.2)).take n)=((cR true (bp 1) ((D.map (cG w)).map fM)).take n).map d8:=by
  unfold bX
  rw[(pf (by rw[ai];omega)).1,List.map_take,List.map_map,List.map_take,List.map_map];rfl
 rw[e2]
 let f1:=λi=>(D.map (gE w)).getD i .none
 let f2:=λi=>((D.map (cG w)).map fM).getD i .none
 have hf:∀i,(∃d∈D,f1 i=gE w d/\f2 i=fM (cG w d))∨(f1 i=.none/\f2 i=.none):=λi=>by
  show(∃d∈D,(D.map (gE w)).getD i .none=_/\((D.map (cG w)).map fM).getD i .none=_)∨_
  show(∃d∈D,(D.map (gE w)).getD i .none=_/\((D.map (cG w)).map fM).getD i .none=_)∨((D.map (gE w)).getD i .none=_/\((D.map (cG w)).map fM).getD i .none=_)
  rw[aB,aB,List.map_map,aO,aO]
  cases q:D[i]? with
  |none=>exact .inr ⟨rfl,rfl⟩
  |some d=>exact .inl ⟨d,a0 q,rfl,rfl⟩
 have hlt:∀i j,bp 1 (f2 i) (f2 j)=bp 1 (f1 i) (f1 j):=λi j=>by
  rcases hf i with⟨d,hd,e1,e2⟩|⟨e1,e2⟩
  ·rcases hf j with⟨d',hd',e3,e4⟩|⟨e3,e4⟩
   ·rw[e1,e2,e3,e4,Ks,jh sc (hDm d hd) (hDm d' hd')]
   ·rw[e3,e4,iI,iI]
  ·rw[e1,e2];rfl
 have r1:D.map (gE w)=(List.range D.length).map f1:=by
  have:=eE .none (D.map (gE w));rw[ai] at this;exact this
 have r2:(D.map (cG w)).map fM=(List.range D.length).map f2:=by
  have:=eE .none ((D.map (cG w)).map fM);rw[ai,ai] at this;exact this
 have d1:f1 99=.none:=dg (by rw[ai];omega)
 have d2:f2 99=.none:=dg (by rw[ai,ai];omega)
 rw[r1,r2,iH (f:=f1) (d:=99) (lt':=bp 1) d1 (λ_ _=>rfl),iH (f:=f2) (d:=99) (lt':=bp 1) d2 hlt,<-List.map_take,<-List.map_take,List.map_map,List.map_map]
 refine List.map_congr_left λi _=>?_
 show d8 (f1 i)=d8 (f2 i)
 rcases hf i with⟨d,hd,e1,e2⟩|⟨e1,e2⟩<;>rw[e1,e2]<;>rfl
noncomputable def ou:List (List Nat):=[[],[97],[98],[97,98],[99],[97,99],[98,99],[97,98,99],[100],[97,100],[98,100],[97,98,100],[99,100],[97,99,100],[98,99,100],[97,98,99,100],[101],[97,101],[98,101],[97,98,101],[99,101],[97,99,101],[98,99,101],[97,98,99,101],[100,101],[97,100,101],[98,100,101],[97,98,100,101],[99,100,101],[97,99,100,101],[98,99,100,101],[97,98,99,100,101]]
noncomputable def wi:List (List Nat):=[[],[97],[98],[97,98],[99],[97,99],[98,99],[97,98,99],[100],[97,100],[98,100],[97,98,100],[99,100],[97,99,100],[98,99,100],[97,98,99,100],[101],[97,101],[98,101],[97,98,101],[99,101],[97,99,101],[98,99,101],[97,98,99,101],[100,101],[97,100,101],[98,100,101],[97,98,100,101],[99,100,101],[97,99,100,101],[98,99,100,101],[97,98,99,100,101],[],[97],[98],[98,97],[99],[99,97],[99,98],[99,97,98],[100],[100,97],[100,98],[100,97,98],[100,99],[100,97,99],[100,98,99],[100,97,98,99],[101],[101,97],[101,98],[101,97,98],[101,99],[101,97,99],[101,98,99],[101,97,98,99],[101,100],[101,97,100],[101,98,100],[101,97,98,100],[101,99,100],[101,97,99,100],[101,98,99,100],[101,97,98,99,100]]
theorem uP:(List.range 32).map (λc=>dJ (c:Nat) [])=ou:=by kernel_rfl
theorem ED:(List.range 64).map (λc=>dJ (c:Nat) [])=wi:=by kernel_rfl
noncomputable def bH (c:Nat):Bool:=wi.all λs=>[119,120,121,122].all λt=>iy (ou.getD c []) (s++[t])
theorem Ni:bH 0=true:=by kernel_rfl
theorem Nq:bH 1=true:=by kernel_rfl
theorem Od:bH 2=true:=by kernel_rfl
theorem NS:bH 3=true:=by kernel_rfl
theorem N8:bH 4=true:=by kernel_rfl
theorem Ob:bH 5=true:=by kernel_rfl
theorem N0:bH 6=true:=by kernel_rfl
theorem NY:bH 7=true:=by kernel_rfl
theorem NG:bH 8=true:=by kernel_rfl
theorem Oc:bH 9=true:=by kernel_rfl
theorem M4:bH 10=true:=by kernel_rfl
theorem Mm:bH 11=true:=by kernel_rfl
theorem Ly:bH 12=true:=by kernel_rfl
theorem MZ:bH 13=true:=by kernel_rfl
theorem M6:bH 14=true:=by kernel_rfl
theorem MQ:bH 15=true:=by kernel_rfl
theorem Mq:bH 16=true:=by kernel_rfl
theorem Lg:bH 17=true:=by kernel_rfl
theorem Mc:bH 18=true:=by kernel_rfl
theorem LD:bH 19=true:=by kernel_rfl
theorem M7:bH 20=true:=by kernel_rfl
theorem Mb:bH 21=true:=by kernel_rfl
theorem Lu:bH 22=true:=by kernel_rfl
theorem LX:bH 23=true:=by kernel_rfl
theorem Mr:bH 24=true:=by kernel_rfl
theorem Ls:bH 25=true:=by kernel_rfl
theorem LM:bH 26=true:=by kernel_rfl
theorem Lh:bH 27=true:=by kernel_rfl
theorem Mo:bH 28=true:=by kernel_rfl
theorem Mz:bH 29=true:=by kernel_rfl
theorem LF:bH 30=true:=by kernel_rfl
theorem K6:bH 31=true:=by kernel_rfl
theorem JG:∀c∈List.range 32,bH c=true:=ao.2 ⟨Ni,ao.2 ⟨Nq,ao.2 ⟨Od,ao.2 ⟨NS,ao.2 ⟨N8,ao.2 ⟨Ob,ao.2 ⟨N0,ao.2 ⟨NY,ao.2 ⟨NG,ao.2 ⟨Oc,ao.2 ⟨M4,ao.2 ⟨Mm,ao.2 ⟨Ly,ao.2 ⟨MZ,ao.2 ⟨M6,ao.2 ⟨MQ,ao.2 ⟨Mq,ao.2 ⟨Lg,ao.2 ⟨Mc,ao.2 ⟨LD,ao.2 ⟨M7,ao.2 ⟨Mb,ao.2 ⟨Lu,ao.2 ⟨LX,ao.2 ⟨Mr,ao.2 ⟨Ls,ao.2 ⟨LM,ao.2 ⟨Lh,ao.2 ⟨Mo,ao.2 ⟨Mz,ao.2 ⟨LF,ao.2 ⟨K6,λ_ h=>nomatch h⟩⟩⟩⟩⟩⟩⟩⟩⟩⟩⟩⟩⟩⟩⟩⟩⟩⟩⟩⟩⟩⟩⟩⟩⟩⟩⟩⟩⟩⟩⟩⟩
theorem Az {c d t:Nat} (hc:c<32) (hd:d<64) (ht:t∈[119,120,121,122]):iy (dJ (c:Nat) []) (dJ (d:Nat) [t])=true:=by
 have hw:ou[c]? =some (dJ (c:Nat) []):=by rw[<-uP,aO,List.getElem?_range hc];rfl
 have hg:wi[d]? =some (dJ (d:Nat) []):=by rw[<-ED,aO,List.getElem?_range hd];rfl
 have h:=JG c (List.mem_range.mpr hc)
 have:=aF.mp (aF.mp h _ (a0 hg)) t ht
 rw[aB,hw] at this
 rw[show dJ (d:Nat) [t]=dJ (d:Nat) []++[t] by unfold dJ;rw[List.append_nil]]
 exact this
noncomputable def bC:Sx:=⟨["script","goods","points","heir","wish","wanted","bar","named","row","good","items","place","laid","told","cut","part","first","second"],[("keys",0),("yours",1),("mine",2),("cells",3)],[("_law_cells",.ref 340),("range",.type "range"),("_law_text",.ref 345),("get_close_matches",.ref 315),("_law_near",.ref 350),("_law_points",.ref 357),("insort_right",.ref 324),("sorted",.builtin "sorted"),("max",.builtin "max"),("sum",.builtin "sum"),("list",.type "list"),("median_grouped",.ref 78),("isinstance",.builtin "isinstance"),("float",.type "float"),("int",.type "int"),("divmod",.builtin "divmod"),("_law_best",.ref 362)],366⟩
noncomputable def wI:PE:=(.loc 3 (Ol 689 8 12))
noncomputable def rh:PS:=(.cons (.asg (.cons (.loc 4 (Ol 690 8 12)) .nil) (.call (.glb 2 (Ol 690 15 24)) (.cons (.bin (.sub (.cel 3 (Ol 690 25 30)) (.loc 3 (Ol 690 31 35)) (Ol 690 25 36)) .Mod (.cst (.int 32) 0 (Ol 690 39 41)) (Ol 690 25 41)) (.cons (.cst (.str "") 0 (Ol 690 43 45)) .nil)) .nil (Ol 690 15 46)) (Ol 690 8 46)) (.cons (.asg (.cons (.loc 5 (Ol 691 8 14)) .nil) (.bin (.cst (.int 1) 0 (Ol 691 17 18)) .Add (.bin (.bin (.sub (.cel 3 (Ol 691 21 26)) (.loc 3 (Ol 691 27 31)) (Ol 691 21 32)) .FloorDiv (.cst (.int 32) 0 (Ol 691 36 38)) (Ol 691 21 38)) .Mod (.cst (.int 4) 0 (Ol 691 41 42)) (Ol 691 21 42)) (Ol 691 17 42)) (Ol 691 8 42)) (.cons (.asg (.cons (.loc 6 (Ol 692 8 11)) .nil) (.bin (.bin (.sub (.cel 3 (Ol 692 14 19)) (.loc 3 (Ol 692 20 24)) (Ol 692 14 25)) .FloorDiv (.cst (.int 128) 0 (Ol 692 29 32)) (Ol 692 14 32)) .Mod (.cst (.int 9) 0 (Ol 692 35 36)) (Ol 692 14 36)) (Ol 692 8 36)) (.cons (.asg (.cons (.loc 7 (Ol 693 8 13)) .nil) (.call (.glb 3 (Ol 693 16 33)) (.cons (.loc 4 (Ol 693 34 38)) (.cons (.loc 1 (Ol 693 40 45)) (.cons (.loc 5 (Ol 693 47 53)) (.cons (.bin (.loc 6 (Ol 693 55 58)) .Div (.cst (.int 8) 0 (Ol 693 61 62)) (Ol 693 55 62)) .nil)))) .nil (Ol 693 16 63)) (Ol 693 8 63)) (.cons (.ite (.cmp (.loc 7 (Ol 694 11 16)) .NotEq (.call (.glb 4 (Ol 694 20 29)) (.cons (.loc 4 (Ol 694 30 34)) (.cons (.loc 1 (Ol 694 36 41)) (.cons (.loc 5 (Ol 694 43 49)) (.cons (.loc 6 (Ol 694 51 54)) .nil)))) .nil (Ol 694 20 55)) (Ol 694 11 55)) (.cons (.ret (.cst (.bool false) 0 (Ol 695 19 24)) (Ol 695 12 24)) .nil) .nil (Om 694 8 695 24)) (.cons (.expr (.meth (.loc 2 (Ol 696 8 14)) "append" (Ol 696 8 21) (.cons (.call (.glb 5 (Ol 696 22 33)) (.cons (.loc 1 (Ol 696 34 39)) (.cons (.loc 7 (Ol 696 41 46)) .nil)) .nil (Ol 696 22 47)) .nil) .nil (Ol 696 8 48)) (Ol 696 8 48)) .nil))))))
noncomputable def wy:PE:=(.loc 9 (Ol 700 8 12))
noncomputable def wR:PS:=(.cons (.ite (.cmp (.call (.glb 6 (Ol 701 11 23)) (.cons (.loc 8 (Ol 701 24 27)) (.cons (.loc 9 (Ol 701 29 33)) .nil)) (.kw "key" (.rawL ⟨[],[⟨"k",none,(Ol 701 46 47)⟩],none,[],[],none,[]⟩ (.Subscript (.Name "keys" (Ol 701 49 53)) (.Name "k" (Ol 701 54 55)) (Ol 701 49 56)) ⟨.function,[("k",.local),("keys",.free)],false,false,[]⟩ (Ol 701 39 56)) (Ol 701 35 56) .nil) (Ol 701 11 57)) .IsNot (.cst .none 0 (Ol 701 65 69)) (Ol 701 11 69)) (.cons (.ret (.cst (.bool false) 0 (Ol 702 19 24)) (Ol 702 12 24)) .nil) .nil (Om 701 8 702 24)) .nil)
noncomputable def HC:Sx:=⟨["k"],[("keys",0)],[],366⟩
noncomputable def K7:PE:=(.loc 0 (Ol 703 64 65))
noncomputable def MP:PE:=(.tup (.cons (.sub (.cel 0 (Ol 703 48 52)) (.loc 0 (Ol 703 53 54)) (Ol 703 48 55)) (.cons (.loc 0 (Ol 703 57 58)) .nil)) 0 (Ol 703 47 59))
noncomputable def mO:Sx:=⟨["share","good"],[],[],366⟩
noncomputable def Bp:PE:=(.tup (.cons (.loc 0 (Ol 703 24 29)) (.cons (.loc 1 (Ol 703 31 35)) .nil)) 0 (Ol 703 24 35))
noncomputable def Bv:PE:=(.loc 1 (Ol 703 15 19))
noncomputable def JY:PS:=(.ite (.cmp (.loc 8 (Ol 703 7 10)) .NotEq (gR bC mO Bp (.call (.glb 7 (Ol 703 39 45)) (.cons (gR bC HC K7 (.call (.glb 1 (Ol 703 69 74)) (.cons (.cst (.int 4) 0 (Ol 703 75 76)) .nil) .nil (Ol 703 69 77)) none MP ⟨.function,[(".0",.local),("k",.local),("keys",.free)],false,false,[]⟩ (Ol 703 46 78)) .nil) .nil (Ol 703 39 79)) none Bv ⟨.function,[(".0",.local),("share",.local),("good",.local)],false,false,[]⟩ (Ol 703 14 80)) (Ol 703 7 80)) (.cons (.ret (.cst (.bool false) 0 (Ol 704 15 20)) (Ol 704 8 20)) .nil) .nil (Om 703 4 704 20))
noncomputable def CO:PE:=(.loc 11 (Ol 706 8 13))
noncomputable def CM:PS:=(.cons (.expr (.meth (.loc 10 (Ol 707 8 13)) "extend" (Ol 707 8 20) (.cons (.bin (.lst (.cons (.bin (.cst (.int 630) 0 (Ol 707 22 25)) .Mult (.loc 11 (Ol 707 28 33)) (Ol 707 22 33)) .nil) (Ol 707 21 34)) .Mult (.bin (.sub (.cel 2 (Ol 707 38 42)) (.sub (.loc 8 (Ol 707 43 46)) (.loc 11 (Ol 707 47 52)) (Ol 707 43 53)) (Ol 707 38 54)) .Add (.sub (.cel 1 (Ol 707 57 62)) (.sub (.loc 8 (Ol 707 63 66)) (.loc 11 (Ol 707 67 72)) (Ol 707 63 73)) (Ol 707 57 74)) (Ol 707 38 74)) (Ol 707 21 75)) .nil) .nil (Ol 707 8 76)) (Ol 707 8 76)) .nil)
noncomputable def IB:PS:=(.ite (.boo .Or (.cons (.nt (.cmp2 (.cst (.int 0) 0 (Ol 713 11 12)) .LtE (.loc 14 (Ol 713 16 19)) .LtE (.cst (.int 3) 0 (Ol 713 23 24)) (Ol 713 11 24)) (Ol 713 7 24)) (.cons (.cmp (.loc 15 (Ol 713 28 32)) .GtE (.cst (.int 5040) 0 (Ol 713 36 40)) (Ol 713 28 40)) .nil)) (Ol 713 7 40)) (.cons (.ret (.cst (.bool false) 0 (Ol 714 15 20)) (Ol 714 8 20)) .nil) .nil (Om 713 4 714 20))
noncomputable def LZ:Sx:=⟨["k"],[("mine",2)],[],366⟩
noncomputable def MB:PE:=(.loc 0 (Ol 715 36 37))
noncomputable def L7:PE:=(.sub (.cel 0 (Ol 715 24 28)) (.loc 0 (Ol 715 29 30)) (Ol 715 24 31))
noncomputable def LS:Sx:=⟨["k"],[("yours",1)],[],366⟩
noncomputable def Mu:PE:=(.loc 0 (Ol 716 38 39))
noncomputable def MI:PE:=(.sub (.cel 0 (Ol 716 25 30)) (.loc 0 (Ol 716 31 32)) (Ol 716 25 33))
noncomputable def wu:PS:=(.cons (.asg (.cons (.loc 16 (Ol 715 4 9)) .nil) (.bin (.bin (.cst (.int 5040) 0 (Ol 715 12 16)) .Mult (.call (.glb 9 (Ol 715 19 22)) (.cons (gR bC LZ MB (.slc (.loc 8 (Ol 715 41 44)) .nil (.loc 14 (Ol 715 46 49)) (Ol 715 45 49) (Ol 715 41 50)) none L7 ⟨.function,[(".0",.local),("k",.local),("mine",.free)],false,false,[]⟩ (Ol 715 23 51)) .nil) .nil (Ol 715 19 52)) (Ol 715 12 52)) .Add (.bin (.loc 15 (Ol 715 55 59)) .Mult (.sub (.cel 2 (Ol 715 62 66)) (.sub (.loc 8 (Ol 715 67 70)) (.loc 14 (Ol 715 71 74)) (Ol 715 67 75)) (Ol 715 62 76)) (Ol 715 55 76)) (Ol 715 12 76)) (Ol 715 4 76)) (.cons (.asg (.cons (.loc 17 (Ol 716 4 10)) .nil) (.bin (.bin (.cst (.int 5040) 0 (Ol 716 13 17)) .Mult (.call (.glb 9 (Ol 716 20 23)) (.cons (gR bC LS Mu (.slc (.loc 8 (Ol 716 43 46)) (.bin (.loc 14 (Ol 716 47 50)) .Add (.cst (.int 1) 0 (Ol 716 53 54)) (Ol 716 47 54)) .nil (Ol 716 47 55) (Ol 716 43 56)) none MI ⟨.function,[(".0",.local),("k",.local),("yours",.free)],false,false,[]⟩ (Ol 716 24 57)) .nil) .nil (Ol 716 20 58)) (Ol 716 13 58)) .Add (.bin (.bin (.cst (.int 5040) 0 (Ol 716 62 66)) .Sub (.loc 15 (Ol 716 69 73)) (Ol 716 62 73)) .Mult (.sub (.cel 1 (Ol 716 77 82)) (.sub (.loc 8 (Ol 716 83 86)) (.loc 14 (Ol 716 87 90)) (Ol 716 83 91)) (Ol 716 77 92)) (Ol 716 61 92)) (Ol 716 13 92)) (Ol 716 4 92)) (.cons (.ret (.cmp (.lst (.cons (.loc 16 (Ol 717 12 17)) (.cons (.loc 17 (Ol 717 19 25)) .nil)) (Ol 717 11 26)) .Eq (.bin (.lst (.cons (.call (.glb 16 (Ol 717 31 40)) (.cons (.cel 2 (Ol 717 41 45)) (.cons (.cel 1 (Ol 717 47 52)) .nil)) .nil (Ol 717 31 53)) .nil) (Ol 717 30 54)) .Mult (.cst (.int 2) 0 (Ol 717 57 58)) (Ol 717 30 58)) (Ol 717 11 58)) (Ol 717 4 58)) .nil)))
noncomputable def Cp:PS:=(.cons (.asg (.cons (.loc 12 (Ol 708 4 8)) .nil) (.call (.glb 10 (Ol 708 11 15)) (.cons (.loc 10 (Ol 708 16 21)) .nil) .nil (Ol 708 11 22)) (Ol 708 4 22)) (.cons (.asg (.cons (.loc 13 (Ol 709 4 8)) .nil) (.call (.glb 11 (Ol 709 11 25)) (.cons (.loc 10 (Ol 709 26 31)) (.cons (.cst (.int 315) 0 (Ol 709 33 36)) .nil)) .nil (Ol 709 11 37)) (Ol 709 4 37)) (.cons (.ite (.boo .Or (.cons (.cmp (.loc 10 (Ol 710 7 12)) .NotEq (.loc 12 (Ol 710 16 20)) (Ol 710 7 20)) (.cons (.nt (.call (.glb 12 (Ol 710 28 38)) (.cons (.loc 13 (Ol 710 39 43)) (.cons (.glb 13 (Ol 710 45 50)) .nil)) .nil (Ol 710 28 51)) (Ol 710 24 51)) (.cons (.cmp (.bin (.cst (.int 16) 0 (Ol 710 55 57)) .Mult (.loc 13 (Ol 710 60 64)) (Ol 710 55 64)) .NotEq (.call (.glb 14 (Ol 710 68 71)) (.cons (.bin (.cst (.int 16) 0 (Ol 710 72 74)) .Mult (.loc 13 (Ol 710 77 81)) (Ol 710 72 81)) .nil) .nil (Ol 710 68 82)) (Ol 710 55 82)) .nil))) (Ol 710 7 82)) (.cons (.ret (.cst (.bool false) 0 (Ol 711 15 20)) (Ol 711 8 20)) .nil) .nil (Om 710 4 711 20)) (.cons (.asg (.cons (.tup (.cons (.loc 14 (Ol 712 4 7)) (.cons (.loc 15 (Ol 712 9 13)) .nil)) 0 (Ol 712 4 13)) .nil) (.call (.glb 15 (Ol 712 16 22)) (.cons (.bin (.call (.glb 14 (Ol 712 23 26)) (.cons (.bin (.cst (.int 16) 0 (Ol 712 27 29)) .Mult (.loc 13 (Ol 712 32 36)) (Ol 712 27 36)) .nil) .nil (Ol 712 23 37)) .Add (.cst (.int 2520) 0 (Ol 712 40 44)) (Ol 712 23 44)) (.cons (.cst (.int 10080) 0 (Ol 712 46 51)) .nil)) .nil (Ol 712 16 52)) (Ol 712 4 52)) (.cons IB wu)))))
noncomputable def q8:PS:=(.cons (.asg (.cons (.loc 10 (Ol 705 4 9)) .nil) (.bin (.bin (.lst (.cons (.neg (.cst (.int 6300) 0 (Ol 705 14 18)) (Ol 705 13 18)) .nil) (Ol 705 12 19)) .Mult (.call (.glb 8 (Ol 705 22 25)) (.cons (.cst (.int 0) 0 (Ol 705 26 27)) (.cons (.bin (.call (.glb 9 (Ol 705 29 32)) (.cons (.cel 2 (Ol 705 33 37)) .nil) .nil (Ol 705 29 38)) .Sub (.call (.glb 9 (Ol 705 41 44)) (.cons (.cel 1 (Ol 705 45 50)) .nil) .nil (Ol 705 41 51)) (Ol 705 29 51)) .nil)) .nil (Ol 705 22 52)) (Ol 705 12 52)) .Add (.bin (.lst (.cons (.cst (.int 6300) 0 (Ol 705 56 60)) .nil) (Ol 705 55 61)) .Mult (.call (.glb 8 (Ol 705 64 67)) (.cons (.cst (.int 0) 0 (Ol 705 68 69)) (.cons (.bin (.call (.glb 9 (Ol 705 71 74)) (.cons (.cel 1 (Ol 705 75 80)) .nil) .nil (Ol 705 71 81)) .Sub (.call (.glb 9 (Ol 705 84 87)) (.cons (.cel 2 (Ol 705 88 92)) .nil) .nil (Ol 705 84 93)) (Ol 705 71 93)) .nil)) .nil (Ol 705 64 94)) (Ol 705 55 94)) (Ol 705 12 94)) (Ol 705 4 94)) (.cons (.fer CO (.call (.glb 1 (Ol 706 17 22)) (.cons (.cst (.int 3) 0 (Ol 706 23 24)) (.cons (.neg (.cst (.int 1) 0 (Ol 706 27 28)) (Ol 706 26 28)) (.cons (.neg (.cst (.int 1) 0 (Ol 706 31 32)) (Ol 706 30 32)) .nil))) .nil (Ol 706 17 33)) CM (Om 706 4 707 76)) Cp))
noncomputable def wc:PS:=(.cons JY q8)
noncomputable def wX:Sx:=⟨["k"],[("mine",2),("yours",1)],[],366⟩
noncomputable def LO:PE:=(.loc 0 (Ol 698 56 57))
noncomputable def Mh:PE:=(.bin (.bin (.cst (.int 2520) 0 (Ol 698 12 16)) .Mult (.sub (.cel 1 (Ol 698 19 24)) (.loc 0 (Ol 698 25 26)) (Ol 698 19 27)) (Ol 698 12 27)) .FloorDiv (.bin (.sub (.cel 0 (Ol 698 32 36)) (.loc 0 (Ol 698 37 38)) (Ol 698 32 39)) .Add (.sub (.cel 1 (Ol 698 42 47)) (.loc 0 (Ol 698 48 49)) (Ol 698 42 50)) (Ol 698 32 50)) (Ol 698 12 51))
noncomputable def lS:PS:=(.cons (.asg (.cons (.tup (.cons (.cel 2 (Ol 697 4 8)) (.cons (.cel 1 (Ol 697 10 15)) .nil)) 0 (Ol 697 4 15)) .nil) (.loc 2 (Ol 697 18 24)) (Ol 697 4 24)) (.cons (.raw (og bC wX 0 (Ol 698 4 8) LO (.call (.glb 1 (Ol 698 61 66)) (.cons (.cst (.int 4) 0 (Ol 698 67 68)) .nil) .nil (Ol 698 61 69)) none Mh ⟨.function,[(".0",.local),("k",.local),("mine",.free),("yours",.free)],false,false,[]⟩ (Ol 698 11 70) (Ol 698 4 70))) (.cons (.asg (.cons (.loc 8 (Ol 699 4 7)) .nil) (.lst .nil (Ol 699 10 12)) (Ol 699 4 12)) (.cons (.fer wy (.call (.glb 1 (Ol 700 16 21)) (.cons (.cst (.int 4) 0 (Ol 700 22 23)) .nil) .nil (Ol 700 16 24)) wR (Om 700 4 702 24)) wc))))
noncomputable def xj:Sx:=⟨["k"],[("cells",3)],[("_law_text",.ref 345)],366⟩
noncomputable def HJ:PE:=(.loc 0 (Ol 687 79 80))
noncomputable def HO:PE:=(.call (.glb 0 (Ol 687 13 22)) (.cons (.bin (.bin (.sub (.cel 0 (Ol 687 23 28)) (.bin (.cst (.int 2) 0 (Ol 687 29 30)) .Add (.bin (.loc 0 (Ol 687 33 34)) .FloorDiv (.cst (.int 2) 0 (Ol 687 38 39)) (Ol 687 33 39)) (Ol 687 29 39)) (Ol 687 23 40)) .FloorDiv (.bin (.cst (.int 64) 0 (Ol 687 44 46)) .Pow (.bin (.loc 0 (Ol 687 51 52)) .Mod (.cst (.int 2) 0 (Ol 687 55 56)) (Ol 687 51 56)) (Ol 687 44 57)) (Ol 687 23 57)) .Mod (.cst (.int 64) 0 (Ol 687 60 62)) (Ol 687 23 62)) (.cons (.sub (.cst (.str "wxyz") 0 (Ol 687 64 70)) (.loc 0 (Ol 687 71 72)) (Ol 687 64 73)) .nil)) .nil (Ol 687 13 74))
noncomputable def oh:PS:=(.cons (.asg (.cons (.cel 3 (Ol 686 4 9)) .nil) (.call (.glb 0 (Ol 686 12 22)) (.cons (.loc 0 (Ol 686 23 29)) .nil) .nil (Ol 686 12 30)) (Ol 686 4 30)) (.cons (.raw (n7 bC xj 1 (Ol 687 4 9) HJ (.call (.glb 1 (Ol 687 84 89)) (.cons (.cst (.int 4) 0 (Ol 687 90 91)) .nil) .nil (Ol 687 84 92)) none HO ⟨.function,[(".0",.local),("k",.local),("_law_text",.globalImplicit),("cells",.free)],false,false,[]⟩ (Ol 687 12 93) (Ol 687 4 93))) (.cons (.asg (.cons (.loc 2 (Ol 688 4 10)) .nil) (.lst .nil (Ol 688 13 15)) (Ol 688 4 15)) (.cons (.fer wI (.call (.glb 1 (Ol 689 16 21)) (.cons (.cst (.int 2) 0 (Ol 689 22 23)) .nil) .nil (Ol 689 16 24)) rh (Om 689 4 696 48)) lS))))
theorem yL:gP K0 367 bC oh=true:=by kernel_rfl
theorem sx:(fdOf K0 367).body=.stmts (oh.toMs bC):=by kernel_rfl
theorem Cm:Fn 367 bC oh ["script"] [some 0,none,none,none,none,none,none,none,none,none,none,none,none,none,none,none,none,none] [none,none,none,none]:=⟨yL,sx,by kernel_rfl,rfl,consE λ_=>nilE (by kernel_rfl)⟩
theorem uu:iu 366 364:=⟨by kernel_rfl,4,#[],by kernel_rfl,by kernel_rfl,by decide,by decide⟩
theorem DC:(ou.all λw=>decide w.Nodup)=true:=by kernel_rfl
theorem D5:((List.range 9).all λb=>!Float64.isInf (fF (b:Nat)))=true:=by kernel_rfl
noncomputable def fW (cs:List Int) (j:Nat):List Nat:=dJ ((cs.getD j 0).fmod 32) []
noncomputable def oz (cs:List Int) (j:Nat):Int:=1+((cs.getD j 0).fdiv 32).fmod 4
noncomputable def mP (cs:List Int) (j:Nat):Int:=((cs.getD j 0).fdiv 128).fmod 9
noncomputable def Kb (cs:List Int) (k:Nat):Int:=((cs.getD (2+k/2) 0).fdiv (64^(k%2))).fmod 64
noncomputable def fZ (cs:List Int) (k:Nat):List Nat:=dJ (Kb cs k) [119+k]
structure dX (cs:List Int) (l:List Nat) (tk:Nat) (gs:List Gd) (tk':Nat):Prop where
 tx:gs.map (·.1)=l.map (fZ cs)
 lo:∀g∈gs,tk<=g.2/\(g.2:Nat)<tk'
 up:gs.Pairwise λg g'=>(g.2:Nat)<g'.2
 le:tk<=tk'
theorem j2 (a:Int) (m:Nat) (h:0<m):∃c:Nat,a.fmod m=c/\c<m:=by
 have h0:0<= (m:Int):=aU m
 have hm:(0:Int)<m:=Int.ofNat_lt.mpr h
 have h1:=Int.emod_nonneg a (Int.ne_of_gt hm)
 refine⟨(a.emod m).toNat,(Int.fmod_eq_emod_of_nonneg _ h0).trans (Int.toNat_of_nonneg h1).symm,(Int.toNat_lt h1).mpr (Int.emod_lt_of_pos a hm)⟩
theorem xA (cs:List Int) (k:Nat):∃d,d<64/\fZ cs k=dJ (d:Nat) [119+k]:=
 (j2 ((cs.getD (2+k/2) 0).fdiv (64^(k%2))) 64 (by decide)).imp λd q=>⟨q.2,congrArg (λz:Int=>dJ z [119+k]) q.1⟩
theorem pZ (cs:List Int) (j:Nat):∃c,c<32/\fW cs j=dJ (c:Nat) []:=
 (j2 (cs.getD j 0) 32 (by decide)).imp λc q=>⟨q.2,congrArg (λz:Int=>dJ z []) q.1⟩
theorem yp (cs:List Int) (j:Nat):∃n:Nat,oz cs j=n/\1<=n/\n<=4:=
 (j2 ((cs.getD j 0).fdiv 32) 4 (by decide)).elim λc q=>⟨1+c,congrArg (λz:Int=>1+z) q.1,aQ 1 c,Nat.add_comm 1 c▸q.2⟩
theorem sH (cs:List Int) (j:Nat):∃b:Nat,mP cs j=b/\b<9:=j2 ((cs.getD j 0).fdiv 128) 9 (by decide)
theorem vQ (cs:List Int) (j:Nat):(fW cs j).Nodup:=by
 obtain⟨c,hc,e⟩:=pZ cs j
 have hw:ou[c]? =some (dJ (c:Nat) []):=by rw[<-uP,aO,List.getElem?_range hc];rfl
 rw[e]
 exact aj (aF.mp DC _ (a0 hw))
theorem AM {cs:List Int} {k k':Nat} (h:k≠k'):fZ cs k≠fZ cs k':=λe=>by
 have h1:=congrArg List.getLast? e
 unfold fZ dJ at h1
 rw[List.getLast?_append,List.getLast?_append] at h1
 exact h (Nat.add_left_cancel (Option.some.inj h1))
theorem k4 {P:Nat->Prop} (h0:P 0) (h1:P 1) (h2:P 2) (h3:P 3) {k:Nat} (h:k<4):P k:=match k,h with
 |0,_=>h0
 |1,_=>h1
 |2,_=>h2
 |3,_=>h3
section
variable {cs:List Int} {gs:List Gd} {tk tk' j:Nat}
theorem dX.pair (g:dX cs [0,1,2,3] tk gs tk') (j:Nat):∀p∈gs,iy (fW cs j) p.1=true:=λp hp=>by
 have z:p.1∈[0,1,2,3].map (fZ cs):=g.tx▸List.mem_map_of_mem hp
 obtain⟨k,hk,e⟩:=aG.mp z
 obtain⟨d,hd,e2⟩:=xA cs k
 obtain⟨c,hc,e3⟩:=pZ cs j
 rw[<-e,e2,e3]
 exact Az hc hd (List.mem_map_of_mem (f:=(119+·)) hk)
theorem dX.len (g:dX cs [0,1,2,3] tk gs tk'):gs.length=4:=(ai _).symm.trans (congrArg List.length g.tx)
theorem dX.nd (g:dX cs [0,1,2,3] tk gs tk'):(gs.map (·.1)).Nodup:=by
 rw[g.tx]
 exact List.Pairwise.map _ (λa b h=>AM h) (by decide)
theorem dX.w5 (g:dX cs [0,1,2,3] tk gs tk') (j:Nat):(fW cs j).length<=5:=by
 have pr:=g.pair j
 have hl:=g.len
 cases gs with
 |nil=>cases hl
 |cons p gs=>exact(iC (pr p (.head _))).w5
theorem C3 {n t:Nat} (h:700<=t) (hn:n<700:=by decide):t≠n:=λe=>absurd (e▸h) (Nat.not_le.mpr hn)
theorem GX (g:dX cs [0,1,2,3] tk gs tk') (h7:700<=tk) {n b:Nat} {t:Tok} (h1:1<=n) (h4:n<=4) (hb:b<9) (ht:700<=t):n9 (fW cs j) t gs n (fF (b:Nat)) (bN (fW cs j)):=
 have pr:=g.pair j
 ⟨h1,h4,(Cy (oX (K:=0) (T:=1) (by decide) (by decide) (by decide)) hb).1,vQ cs j,aJ (g.w5 j) (by decide),C3 ht,λ_=>C3 ht,Nat.le_of_eq g.len,λp hp=>
  have h:=ag h7 (g.lo p hp).1
  have k:=iC (pr p hp)
  ⟨k.ok,C3 h,λe=>absurd k.a1 (by rw[e];decide),C3 h⟩,((List.pairwise_map.mp g.nd).and g.up).imp λz=>⟨z.1,aW z.2⟩,CH pr⟩
end
noncomputable abbrev LH (ck cy cm:Option AV) (cs:List Int) (J:List AO):List AO:=.cell ck::.cell cy::.cell cm::.cell (some (.ref 4))::.list (bc cs)::J
noncomputable abbrev mq (ns:List Int) (r:List (Option AV)):List (Option AV):=some (.ilst (bc ns))::some (.ref 5)::some (.ref 6)::r
structure K4 (k:Nat):Prop where
 d:0<=2+((k:Int).fdiv 2)/\2+((k:Int).fdiv 2)<100000
 d2:(2+((k:Int).fdiv 2)).toNat=2+k/2
 m:0<= (k:Int).fmod 2/\(k:Int).fmod 2<1000
 p:(64:Int)^((k:Int).fmod 2).toNat=64^(k%2)
 n:(64:Int)^(k%2)≠0/\small ((64:Int)^(k%2))
 l:2+k/2<4
 w:([119,120,121,122]:List Nat)[(k:Int).toNat]? =some (119+k)
theorem Jb {k:Nat} (h:k<4):K4 k:=by
 refine k4 ?_ ?_ ?_ ?_ h<;>exact⟨by decide,by decide,by decide,by decide,⟨by decide,aa rfl⟩,by decide,rfl⟩
section
variable {D:Nat} {cs ns:List Int} {ck cy cm:Option AV}
theorem dX.cons {k tk t tk1 tk':Nat} {l:List Nat} {gs:List Gd} (g:dX cs l tk1 gs tk') (h1:tk<=t) (h2:t<tk1):dX cs (k::l) tk ((fZ cs k,t)::gs) tk':=
 have h3:tk<=tk1:=ag h1 (Nat.le_of_lt h2)
 ⟨congrArg (fZ cs k::·) g.tx,ao.2 ⟨⟨h1,aP h2 g.le⟩,λp hp=>⟨ag h3 (g.lo p hp).1,(g.lo p hp).2⟩⟩,List.pairwise_cons.mpr ⟨λp hp=>aP h2 (g.lo p hp).1,g.up⟩,ag h3 g.le⟩
theorem xw {P:St->Prop} {chk:St->Prop} (hc:∀s,chk s) (hl4:cs.length=4) (l:List Nat):∀(acc:List Gd) (tk:Nat) (x:Option AV),(∀k∈l,k<4)->acc.length+l.length<=1000->(∀gs tk' lc,dX cs l tk gs tk'->P ⟨lc,LH ck cy cm cs [.list (fv (acc++gs))],tk'⟩)->
  dH 5 chk (wW (D+1) xj HJ).a (bV (D+1) xj none) (wW (D+1) xj HO).e (l.map λk=>.int (k:Nat)) ⟨[x],LH ck cy cm cs [.list (fv acc)],tk⟩ P:=by
 induction l with
 |nil=>exactλacc tk x hk hn h=>⟨hc _,by have z:=h [] tk [x] ⟨rfl,(λg hg=>nomatch hg),.nil,ak _⟩;rwa [List.append_nil] at z⟩
 |cons k l ih=>
  intro acc tk x hk hn h
  have hk4:=hk k (.head _)
  have K:=Jb hk4
  have hn1:acc.length+1+l.length<=1000:=Nat.add_right_comm ..▸hn
  refine⟨hc _,aa rfl,λ_=>?_,λh=>(nomatch h)⟩
  refine⟨by decide,aa rfl,?_⟩
  refine cf (show bq _ _ _ from rfl) K.d.1 K.d.2 (.int (cs.getD (2+k/2) 0)) (K.d2.symm▸bQ (hl4.symm▸K.l)) ?_
  refine⟨by decide,K.m.1,K.m.2,aa rfl,?_⟩
  rw[K.p]
  refine⟨K.n.1,K.n.2,by decide,⟨[119,120,121,122],by kernel_rfl,λt0 ht0=>pW (aU k) (aa rfl) _ K.w λu hu=>uR (aa rfl) λt tk1 h1 ht=>?_⟩⟩
  have hu':tk<=u:=ag ht0 (Nat.le_of_succ_le hu)
  have tl:tk<=t/\t<tk1:=ht.elim (λe=>e▸⟨hu',h1⟩) λz=>⟨ag (Nat.le_succ_of_le hu') z.1,z.2⟩
  refine⟨fv acc,rfl,by unfold fv;rw[ai];exact ag (ag (aQ ..) hn) (by decide),?_⟩
  have e:fv acc++[.str (fZ cs k) (some t)]=fv (acc++[(fZ cs k,t)]):=by unfold fv;rw[List.map_append];rfl
  have z:=ih (acc++[(fZ cs k,t)]) tk1 (some (.int k)) (λj hj=>hk j (.tail _ hj)) (by rw[aI];exact hn1) λgs tk' lc g=>?_
  ·rw[<-e] at z;exact z
  ·rw[ax];exact h _ tk' lc (g.cons tl.1 tl.2)
theorem Jx {tk:Nat} {W:AF->St->Prop}
  (h:∀gs tk',dX (fe ns) [0,1,2,3] tk gs tk'->bB (D+8) bC (.cons (.fer wI (.call (.glb 1 (Ol 689 16 21)) (.cons (.cst (.int 2) 0 (Ol 689 22 23)) .nil) .nil (Ol 689 16 24)) rh (Om 689 4 696 48)) lS) ⟨mq ns (List.replicate 15 none),LH none none none (fe ns) [.list (fv gs),.list []],tk'⟩ W):bB (D+8) bC oh ⟨some (.ilst (bc ns))::List.replicate 17 none,[.cell none,.cell none,.cell none,.cell none],tk⟩ W:=by
 refine Ae ?_
 refine lL rfl rfl (by kernel_rfl) (wd (by kernel_rfl) ?_)
 refine dC (fu (by decide) ?_)
 refine xw (λ_=>trivial) (lX ns 0 _) [0,1,2,3] [] tk none (by decide) (by decide) λgs tk' lc g=>⟨aa rfl,?_⟩
 exact⟨Nat.zero_le _,aa rfl,h gs tk' g⟩
end
noncomputable abbrev kC (gs:List Gd):List cw:=gs.map λg=>(g.1,some g.2)
noncomputable def cY (cs:List Int) (gs:List Gd) (j:Nat):List cw:=j7 (fW cs j) (kC gs) (oz cs j) (mP cs j)
noncomputable def d6 (cs:List Int) (gs:List Gd) (j:Nat):List Int:=(kC gs).map λp=>i7 (iV (cY cs gs j)) p.1
theorem uS (gs:List Gd):fv gs=bX (kC gs):=by unfold fv bX;rw[List.map_map];rfl
theorem IK {b:Bool} (h:(!b)=true):b=false:=by
 cases b
 ·rfl
 ·cases h
theorem Hf {cs:List Int} {j:Nat}:Float64.isInf (fF (mP cs j))=false:=by
 obtain⟨b,e,hb⟩:=sH cs j
 rw[e]
 exact IK (aF.mp D5 b (List.mem_range.mpr hb))
section
variable {D:Nat} {st:St} {P:PV} {gs:List Gd} {w:List Nat} {t:Tok} {n b g:Nat} {nI bI:Int} {k:Option Tok} {kw:Option Tok}
theorem zP (i:n9 w t gs n (fF (b:Nat)) (bN w)) (hp:∀p∈gs,iy w p.1=true) (hnd:(gs.map (·.1)).Nodup) (hb:b<9) (eg:st.at g=some (.list (fv gs))) (hn:nI=(n:Nat)) (hbI:bI=(b:Nat)) (ht:1<=st.tk)
  (h:P (.ref st.hp.length) ⟨st.loc,st.hp++[.list (bX (j7 w (kC gs) nI bI))],st.tk⟩):bw (D+6) 315 [.str w (some t),.ref g,.int nI,.flt (fF bI) k] [] st P:=by
 subst hn hbI
 exact JJ i eg ht λnames hR=>Al hb hp hnd i.gl hR▸h
end
noncomputable abbrev LB (cs:List Int) (gs:List Gd):List AO:=LH none none none cs [.list (fv gs)]
structure HI (cs:List Int) (gs:List Gd) (rs:List Nat) (hp:List AO):Prop where
 p:LB cs gs<+:hp
 r:hp[6]? =some (.list (rs.map AV.ref))
 w:Wf hp
theorem E5 {rs:List Nat} {n:Nat} (h:∀i∈rs,i<n):(AO.list (rs.map AV.ref)).wf n:=λv hv=>(aG.mp hv).elim λi q=>q.2▸h i q.1
section
variable {D:Nat} {ns cs:List Int} {gs:List Gd} {T0 tk tk0 j:Nat} {rs:List Nat} {hp:List AO} {x4 x5 x6 x7:Option AV} {R:List (Option AV)} {P:AF->St->Prop}
theorem HI.c (F:HI cs gs rs hp):hp[3]? =some (.cell (some (.ref 4))):=aV F.p rfl
theorem HI.l (F:HI cs gs rs hp):hp[4]? =some (.list (bc cs)):=aV F.p rfl
theorem HI.g (F:HI cs gs rs hp):hp[5]? =some (.list (fv gs)):=aV F.p rfl
theorem xJ (gs:List Gd) (hl:gs.length<6):(cY cs gs j).length<=gs.length:=by
 unfold cY j7
 refine ag (jB _ _ _) ?_
 have h:=si (p:=⟨kC gs,fW cs j,none,0,mP cs j,0⟩) (gs:=kC gs)
 have hk:(kC gs).length=gs.length:=ai _
 rw[ai,(pf (aJ h (hk▸hl))).2]
 exact hk▸h
theorem rP (g:dX cs [0,1,2,3] T0 gs tk0) (h7:700<=T0) (h4:cs.length=4) (hj:j<2) (hT:700<=tk) (hr:rs.length<=10) (F:HI cs gs rs hp)
  (h:∀{hp' x4 x5 x6 x7 tk' i},HI cs gs (rs++[i]) hp'->hp'[i]? =some (.list (bc (d6 cs gs j)))->(∀k o,k≠6->hp[k]? =some o->hp'[k]? =some o)->700<=tk'->6<i->P .next ⟨mq ns (some (.int (j:Nat))::x4::x5::x6::x7::R),hp',tk'⟩):
  bB (D+8) bC rh ⟨mq ns (some (.int (j:Nat))::x4::x5::x6::x7::R),hp,tk⟩ P:=by
 have j0:(0:Int)<=j:=aU j
 have j1:(j:Int)<100000:=Int.ofNat_lt.mpr (aH hj (by decide))
 have ec:(bc cs)[(j:Int).toNat]? =some (.int (cs.getD j 0)):=bQ (h4.symm▸aH hj (by decide))
 have cell:∀{P:PV} {st:St},st.hp=hp->P (.int (cs.getD j 0)) st->fz (.ref 4) (.int (j:Nat)) st P:=λ{P st} e h=>cf (show bq _ _ _ from(show st.hp[4]? =_ from e▸F.l)) j0 j1 _ ec h
 obtain⟨n,en,hn1,hn4⟩:=yp cs j
 obtain⟨b,eb,hb⟩:=sH cs j
 have pp:=λp hp=>iC (g.pair j p hp)
 have l6:gs.length<6:=g.len▸aa rfl
 have hk:(kC gs).length=gs.length:=ai _
 refine(show cE bC 3 _ _ from dp (p:=("cells",3)) rfl F.c ?_)
 refine cell rfl ⟨by decide,⟨[],by kernel_rfl,λt0 ht0=>uR (Nat.zero_le _) λt tk1 h1 ht=>⟨aa rfl,?_⟩⟩⟩
 have ht7:700<=t:=ht.elim (λe=>e▸ag hT ht0) λz=>ag (ag hT (Nat.le_succ_of_le ht0)) z.1
 have ht1:700<=tk1:=ag (ag hT (Nat.le_succ_of_le ht0)) h1
 refine(show cE bC 3 _ _ from dp (p:=("cells",3)) rfl F.c ?_)
 refine cell rfl ⟨by decide,aa rfl,by decide,aa rfl,?_⟩
 refine(show cE bC 3 _ _ from dp (p:=("cells",3)) rfl F.c ?_)
 refine cell rfl ⟨by decide,aa rfl,by decide,aa rfl,⟨by decide,Hf (cs:=cs) (j:=j),?_⟩⟩
 refine zP (w:=fW cs j) (nI:=oz cs j) (bI:=mP cs j) (GX g h7 hn1 hn4 hb ht7) (g.pair j) g.nd hb F.g en eb (ag (by decide) ht1) ⟨aa rfl,?_⟩
 have eN:(hp++[AO.list (bX (cY cs gs j))])[hp.length]? =some (.list (bX (cY cs gs j))):=aX
 refine E6 (wish:=fW cs j) (gs:=kC gs) (wanted:=oz cs j) (bar:=mP cs j) (show(hp++[_])[5]? =_ from aZ (uS gs▸F.g)) (ag (g.w5 j) (by decide)) (λq hq=>(aG.mp hq).elim λp z=>z.2▸⟨ag (pp p z.1).a6 (by decide),(pp p z.1).a1⟩) (hk.symm▸l6) ?_
 refine LN true (cY cs gs j) (cY cs gs j) (show bq _ _ _ from aZ eN) (show bq _ _ _ from aX) ?_
 rw[aR rfl]
 refine⟨λh=>(nomatch h),λ_=>?_⟩
 have e6:(hp++[AO.list (bX (cY cs gs j))]++[.list (bX (cY cs gs j))])[6]? =some (.list (rs.map AV.ref)):=aZ (aZ F.r)
 refine dz de (show bq _ _ _ from e6) ?_
 refine Gb (gs:=kC gs) (ns:=cY cs gs j) (show _=_ from aZ (aZ (uS gs▸F.g))) (show _=_ from aZ eN) (hk.symm▸Nat.le_of_lt (aH l6 (by decide))) (ag (xJ gs l6) (Nat.le_of_lt (aH l6 (by decide)))) ?_
 have ln6:6<hp.length:=(az.mp F.r).1
 let h3:=hp++[AO.list (bX (cY cs gs j))]++[AO.list (bX (cY cs gs j))]
 have l3:hp.length<=h3.length:=List.IsPrefix.length_le (bt (bt aw))
 refine dD (rs.map AV.ref) (show(h3++[_])[6]? =_ from aZ e6) (by rw[ai];exact ag hr (by decide)) ?_
 have er:rs.map AV.ref++[AV.ref h3.length]=(rs++[h3.length]).map AV.ref:=by rw[List.map_append];rfl
 have up:∀(k:Nat) (o:AO),k≠6->hp[k]? =some o->((h3++[AO.list (bc (d6 cs gs j))]).set 6 (.list (rs.map AV.ref++[AV.ref h3.length])))[k]? =some o:=λk o n e=>bx n.symm (aZ (aZ (aZ e)))
 have w3:Wf (h3++[AO.list (bc (d6 cs gs j))]):=((F.w.add (eQ (λ_=>rfl) _ _)).add (eQ (λ_=>rfl) _ _)).add (eQ (λ_=>rfl) _ _)
 have ll:(h3++[AO.list (bc (d6 cs gs j))]).length=h3.length+1:=aI
 have wr:(AO.list (rs.map AV.ref++[AV.ref h3.length])).wf (h3++[AO.list (bc (d6 cs gs j))]).length:=by
  rw[er,ll]
  exact E5 λi hi=>(bo.mp hi).elim (λhi=>Nat.lt_succ_of_lt (aP (F.w _ (a0 F.r) _ (List.mem_map_of_mem (f:=AV.ref) hi)) l3)) λhi=>aN.mp hi▸Nat.lt_succ_self _
 exact h ⟨gD (F.p.trans (bt (bt (bt aw)))) (ak 6),(bE (aZ e6)).trans (congrArg (λz=>some (AO.list z)) er),w3.set wr⟩ (bx (aW (aP ln6 l3)) aX) up ht1 (aP ln6 l3)
end
theorem wb {x:Sx} {i:Nat} {p:Str×Nat} {v:AV} {w:Option AV} {st:St} {P:St->Prop} (e1:x.cls[i]? =some p) (e2:st.at p.2=some (.cell w)) (h:P (st.put p.2 (.cell (some v)))):ix x i v st P:=by unfold ix;rw[e1];dsimp only;rw[e2];exact h
theorem xS {a b:Int} (h1:0<a/\a<100) (h2:0<b/\b<100):small (a+b):=dQ (Int.le_of_lt (Int.add_pos h1.1 h2.1)) (Int.lt_trans (Int.add_lt_add h1.2 h2.2) (by decide))
noncomputable def kF (m y:List Int) (k:Nat):Int:=(2520*y.getD k 0).fdiv (m.getD k 0+y.getD k 0)
noncomputable def dq (m y:List Int):List Int:=(List.range 4).map (kF m y)
structure lC (B:List AO) (kr yi mi:Nat) (ks m y:List Int):Prop where
 c0:B[0]? =some (.cell (some (.ref kr)))
 c1:B[1]? =some (.cell (some (.ref yi)))
 c2:B[2]? =some (.cell (some (.ref mi)))
 k:B[kr]? =some (.list (bc ks))
 y:B[yi]? =some (.list (bc y))
 m:B[mi]? =some (.list (bc m))
theorem lC.up {B hp:List AO} {kr yi mi:Nat} {ks m y:List Int} (F:lC B kr yi mi ks m y) (p:B<+:hp):lC hp kr yi mi ks m y:=⟨aV p F.c0,aV p F.c1,aV p F.c2,aV p F.k,aV p F.y,aV p F.m⟩
section
variable {D:Nat} {ns cs:List Int} {gs:List Gd} {T0 tk:Nat} {P:AF->St->Prop}
theorem Iz (g:dX cs [0,1,2,3] T0 gs tk) (h7:700<=T0) (h4:cs.length=4)
  (h:∀{hp x3 x4 x5 x6 x7 tk i j},HI cs gs [i,j] hp->hp[i]? =some (.list (bc (d6 cs gs 0)))->hp[j]? =some (.list (bc (d6 cs gs 1)))->6<i->6<j->bB (D+8) bC lS ⟨mq ns (x3::x4::x5::x6::x7::List.replicate 10 none),hp,tk⟩ P):
  bB (D+8) bC (.cons (.fer wI (.call (.glb 1 (Ol 689 16 21)) (.cons (.cst (.int 2) 0 (Ol 689 22 23)) .nil) .nil (Ol 689 16 24)) rh (Om 689 4 696 48)) lS) ⟨mq ns (List.replicate 15 none),LH none none none cs [.list (fv gs),.list []],tk⟩ P:=by
 refine dC (fu (by decide) ⟨trivial,aa rfl,?_⟩)
 have wl:∀{l:List Int},(AO.list (bc l)).wf 7:=λ{l}=>eQ (λ_=>rfl) _ _
 have F:HI cs gs [] (LH none none none cs [.list (fv gs),.list []]):=⟨⟨[.list []],rfl⟩,rfl,cb (λu h=>nomatch h) (cb (λu h=>nomatch h) (cb (λu h=>nomatch h) (cb (λu h=>Option.some.inj h▸(show 4<7 by decide)) (cb wl (cb (eQ (λ_=>rfl) _ _) (cb (λ_ h=>nomatch h) λ_ h=>nomatch h))))))⟩
 have h70:=ag h7 g.le
 refine rP (x4:=none) (x5:=none) (x6:=none) (x7:=none) (R:=List.replicate 10 none) (j:=0) (rs:=[]) g h7 h4 (by decide) h70 (by decide) F λ{hp1 x4 x5 x6 x7 tk1 i} F1 e1 _ ht1 h6=>⟨trivial,aa rfl,?_⟩
 exact rP (x4:=x4) (x5:=x5) (x6:=x6) (x7:=x7) (R:=List.replicate 10 none) (j:=1) (rs:=[i]) g h7 h4 (by decide) ht1 (aa rfl) F1 λ{hp2 x4 x5 x6 x7 tk2 j} F2 e2 k2 ht2 h62=>⟨trivial,h F2 (k2 i _ (Nat.ne_of_gt h6) e1) e2 h6 h62⟩
theorem JR {hp:List AO} {i j:Nat} {m y:List Int} {a b c d e:Option AV} (hm:cJ m) (hy:cJ y) (F:HI cs gs [i,j] hp) (ei:hp[i]? =some (.list (bc m))) (ej:hp[j]? =some (.list (bc y))) (i6:6<i) (j6:6<j)
  (h:∀{B kr},lC B kr j i (dq m y) m y->Wf B->bB (D+8) bC (.cons (.fer wy (.call (.glb 1 (Ol 700 16 21)) (.cons (.cst (.int 4) 0 (Ol 700 22 23)) .nil) .nil (Ol 700 16 24)) wR (Om 700 4 702 24)) wc) ⟨mq ns (a::b::c::d::e::some (.ref B.length)::List.replicate 9 none),B++[.list []],tk⟩ P):
  bB (D+8) bC lS ⟨mq ns (a::b::c::d::e::List.replicate 10 none),hp,tk⟩ P:=by
 refine AS (a:=.ref i) (b:=.ref j) F.r ⟨rfl,?_⟩
 refine(show ix bC 2 _ _ _ from wb (p:=("mine",2)) (w:=none) rfl (aV F.p rfl) ?_)
 refine(show ix bC 1 _ _ _ from wb (p:=("yours",1)) (w:=none) rfl (bx (by decide) (aV F.p rfl)) ?_)
 have h2:hp[2]? =some (.cell none):=aV F.p rfl
 have w1:=(F.w.set (n:=2) (o:=.cell (some (.ref i))) λu q=>Option.some.inj q▸(az.mp ei).1).set (n:=1) (o:=.cell (some (.ref j))) λu q=>Option.some.inj q▸(by rw[List.length_set];exact(az.mp ej).1)
 have f1:=bE (w:=.cell (some (.ref j))) (bx (j:=2) (i:=1) (w:=.cell (some (.ref i))) (by decide) (aV F.p (i:=1) rfl))
 have f2:=bx (j:=1) (w:=.cell (some (.ref j))) (by decide) (bE (w:=.cell (some (.ref i))) h2)
 have fo:∀{k:Nat} {o:AO},2≠k->1≠k->hp[k]? =some o->((hp.set 2 (.cell (some (.ref i)))).set 1 (.cell (some (.ref j))))[k]? =some o:=λh2 h1 e=>bx h1 (bx h2 e)
 have f0:=fo (k:=0) (by decide) (by decide) (aV F.p rfl)
 have fi:=fo (aW (aH (by decide) i6)) (aW (aH (by decide) i6)) ei
 have fj:=fo (aW (aH (by decide) j6)) (aW (aH (by decide) j6)) ej
 have hl:0<((hp.set 2 (.cell (some (.ref i)))).set 1 (.cell (some (.ref j)))).length:=(az.mp f0).1
 show bB (D+8) bC lS.tl ⟨_,(hp.set 2 (.cell (some (.ref i)))).set 1 (.cell (some (.ref j))),tk⟩ P
 generalize (hp.set 2 (.cell (some (.ref i)))).set 1 (.cell (some (.ref j)))=H at w1 f1 f2 f0 fi fj hl
 clear fo
 refine yP (by kernel_rfl) rfl (dC (fu (by decide) ?_))
 refine bM (H:=H) (L:=List.range 4) (λk:Nat=>AV.int (k:Nat)) (λ_=>true) (λk=>.int (kF m y k)) (λk=>[some (.int (k:Nat))]) (λl=>∃x,l=[x]) (λ_ _=>trivial) (λa=>⟨_,rfl⟩) (λk us lc Kc hk sh hl h1 h2=>?_) (List.range 4) [] [none] (λ_ h=>h) ⟨_,rfl⟩ (by decide) λlc=>?_
 ·obtain⟨x0,rfl⟩:=sh
  have hk4:=List.mem_range.mp hk
  have g4:∀{l:List Int} {i:Nat} {P:PV} {st:St},cJ l->st.hp[i]? =some (.list (bc l))->P (.int (l.getD k 0)) st->fz (.ref i) (.int (k:Nat)) st P:=λhl e h=>cf (show bq _ _ _ from e) (aU k) (Int.ofNat_lt.mpr (aH hk4 (by decide))) _ (bQ (hl.len.symm▸hk4)) h
  refine⟨aa rfl,λ_=>?_,λhb=>nomatch hb⟩
  refine(show cE wX 1 _ _ from dp (p:=("yours",1)) rfl (aZ f1) (g4 hy (aZ fj) ⟨.inl (aa rfl),?_⟩))
  refine(show cE wX 0 _ _ from dp (p:=("mine",2)) rfl (aZ f2) (g4 hm (aZ fi) ?_))
  refine(show cE wX 1 _ _ from dp (p:=("yours",1)) rfl (aZ f1) (g4 hy (aZ fj) ?_))
  exact⟨Int.ne_of_gt (Int.add_pos (hm.get hk4).1 (hy.get hk4).1),xS (hm.get hk4) (hy.get hk4),dY hl (h1 rfl)⟩
 refine(show ix bC 0 _ _ _ from wb (p:=("keys",0)) (w:=none) rfl (aZ f0) ⟨Nat.zero_le _,aa rfl,?_⟩)
 have up:∀{k:Nat} {o:AO},0≠k->(H++[AO.list (bc (dq m y))])[k]? =some o->((H++[AO.list (bc (dq m y))]).set 0 (.cell (some (.ref H.length))))[k]? =some o:=λh0 e=>bx h0 e
 have z0:∀{k:Nat},6<k->0≠k:=λh=>aW (aH (by decide) h)
 exact h (B:=(H++[AO.list (bc (dq m y))]).set 0 (.cell (some (.ref H.length)))) ⟨bE (aZ f0),up (by decide) (aZ f1),up (by decide) (aZ f2),up (aW hl) aX,up (z0 j6) (aZ fj),up (z0 i6) (aZ fi)⟩ ((w1.add (eQ (λ_=>rfl) _ _)).set λu q=>Option.some.inj q▸(by rw[aI];exact Nat.lt_succ_self _))
end
noncomputable def dB (ks row:List Int) (g:Int):List Int:=q0 row (xc ks row (ks.getD g.toNat 0)).toNat g
noncomputable def pv:pL:=⟨⟨[],[⟨"k",none,(Ol 701 46 47)⟩],none,[],[],none,[]⟩,.Subscript (.Name "keys" (Ol 701 49 53)) (.Name "k" (Ol 701 54 55)) (Ol 701 49 56),⟨.function,[("k",.local),("keys",.free)],false,false,[]⟩⟩
theorem GU:Cn pv "k" "keys" (Ol 701 49 53) (Ol 701 54 55) (Ol 701 49 56):=by
 refine⟨rfl,rfl,rfl,rfl,rfl,by kernel_rfl,by kernel_rfl,by kernel_rfl,by kernel_rfl,λfd h1 h2 h3 u=>?_⟩
 cases fd
 dsimp only at h1 h2 h3
 subst h1 h2 h3
 kernel_rfl
theorem G3 {H:List AO} {nk kr:Nat} {ks:List Int} (e:H[nk]? =some (.clo 0 "keys" pv)) (c0:H[0]? =some (.cell (some (.ref kr)))) (k:H[kr]? =some (.list (bc ks))) (hl:ks.length=4):rn H nk ks:=λlc tk n h0 h1=>
 ⟨0,"keys",pv,"k",_,_,_,kr,_,e,GU,c0,k,h0,Int.lt_trans h1 (hl▸by decide),bQ ((Int.toNat_lt h0).mpr h1)⟩
theorem yI {ks row:List Int} {g:Int} (hg:0<=g/\g<4) (hr:∀r∈row,0<=r/\r<4):∀x∈dB ks row g,0<=x/\x<4:=λx hx=>
 (bo.mp hx).elim (λh=>hr x (List.mem_of_mem_take h)) λh=>(aL.mp h).elim (λe=>e▸hg) λh=>hr x (List.mem_of_mem_drop h)
theorem D1 {ks row:List Int} {g:Int}:(dB ks row g).length=row.length+1:=by
 unfold dB q0
 rw[aI,List.length_cons,<-Nat.add_assoc,<-aI,List.take_append_drop]
section
variable {D:Nat} {ns ks m y:List Int} {B:List AO} {kr yi mi tk:Nat} {P:AF->St->Prop} {chk:St->Prop} {a b c d e:Option AV}
theorem J8 (F:lC B kr yi mi ks m y) (hc:∀s,chk s) (hk:ks.length=4) (l:List Nat):∀{row hp x9},B<+:hp->hp[B.length]? =some (.list (bc row))->Wf hp->(∀g∈l,g<4)->(∀r∈row,0<=r/\r<4)->row.length+l.length<=4->
  (∀{hp x9},B<+:hp->hp[B.length]? =some (.list (bc (l.foldl (λrow (g:Nat)=>dB ks row g) row)))->P .next ⟨mq ns (a::b::c::d::e::some (.ref B.length)::x9::List.replicate 8 none),hp,tk⟩)->
  bD chk (wW (D+8) bC wy).a (bB (D+8) bC wR) (l.map λk=>.int (k:Nat)) ⟨mq ns (a::b::c::d::e::some (.ref B.length)::x9::List.replicate 8 none),hp,tk⟩ P:=by
 induction l with
 |nil=>exactλp er w _ _ _ h=>⟨hc _,h p er⟩
 |cons g l ih=>
  intro row hp x9 p er w hl hr hn h
  have hg:=hl g (.head _)
  have hg2:0<= (g:Int)/\(g:Int)<4:=⟨aU g,Int.ofNat_lt.mpr hg⟩
  have hn1:row.length+1+l.length<=4:=Nat.add_right_comm ..▸hn
  have p1:=bt (b:=.clo 0 "keys" pv) p
  have F1:=F.up p1
  have w1:Wf (hp++[AO.clo 0 "keys" pv]):=w.add (Nat.succ_pos _)
  refine⟨hc _,aa rfl,?_⟩
  refine MU (d:=pv) (y:="keys") (cn:=0) uu rfl (.head _) ⟨_,rfl⟩ (λenv=>rfl) ?_
  refine A4 (ks:=ks) (row:=row) (g:=g) (G3 aX F1.c0 F1.k hk) (aZ er) (aJ (ag (aQ ..) hn) (by decide)) (λr hr'=>hk.symm▸hr r hr') (hk.symm▸hg2) w1 ?_
  refine .inl ⟨rfl,λh=>(nomatch h),λ_=>?_⟩
  exact ih (row:=dB ks row g) (gD p1 (ak _)) (bE (aZ er)) (w1.set (eQ (λ_=>rfl) _ _)) (λx hx=>hl x (.tail _ hx)) (yI hg2 hr) (by rw[D1];exact hn1) h
end
noncomputable def tupK (ks:List Int) (k:Nat):AV:=.tup (.type "tuple") [.int (ks.getD k 0),.int k]
noncomputable def kj (ks:List Int):List AV:=cR false (bp 1) ((List.range 4).map (tupK ks))
@[irreducible] noncomputable def fH (ks:List Int):List Int:=(List.range 4).foldl (λrow (g:Nat)=>dB ks row g) []
noncomputable abbrev L9 (ns:List Int) (r:Nat) (a b c d e x9:Option AV) (R:List (Option AV)):List (Option AV):=mq ns (a::b::c::d::e::some (.ref r)::x9::R)
section
variable {D:Nat} {ns ks m y:List Int} {H:List AO} {kr yi mi rr tk:Nat} {P:AF->St->Prop} {a b c d e x9:Option AV}
theorem Fb {H:List AO} {S:List AV} {n:Nat} {P:St->Prop} (hS:S.length<=5) (hp:∀x∈S,∃k,x=tupK ks k) (hn:H[n]? =some (.list S)) (K:∀lc,P ⟨lc,H++[.list (S.map d8)],tk⟩):
  dH H.length (λst=>bq st (.ref n) S) (wW D mO Bp).a (bV D mO none) (wW D mO Bv).e S ⟨[none,none],H++[.list []],tk⟩ P:=by
 have z:=bM (tg:=(wW D mO Bp).a) (ts:=bV D mO none) (el:=(wW D mO Bv).e) (H:=H) (tk:=tk) (P:=P) (chk:=λst=>bq st (.ref n) S) (L:=S) (λx=>x) (λ_=>true) d8 (λx=>[some (lp x),some (d8 x)]) (λl=>∃x y,l=[x,y]) (λ_ _=>aZ hn) (λ_=>⟨_,_,rfl⟩) (λa us lc Kc ha sh hl h1 h2=>?_) S [] [none,none] (λ_ h=>h) ⟨_,_,rfl⟩ (ag (Nat.le_of_eq (Nat.zero_add _)) (ag hS (by decide))) λlc=>by
   rw[List.filter_eq_self.mpr λ_ _=>rfl];exact K lc
 ·rwa [List.map_id'] at z
 ·obtain⟨x0,x1,rfl⟩:=sh
  obtain⟨k,rfl⟩:=hp a ha
  exact⟨rfl,aa rfl,aa rfl,λhb=>dY hl (h1 rfl),λhb=>nomatch hb⟩
theorem Je (F:lC H kr yi mi ks m y) (hk:ks.length=4) (er:H[rr]? =some (.list (bc (fH ks)))) (hrow:(kj ks).map d8=bc (fH ks))
  (h:∀{hp},H<+:hp->bB (D+8) bC q8 ⟨L9 ns rr a b c d e x9 (List.replicate 8 none),hp,tk⟩ P):
  bB (D+8) bC wc ⟨L9 ns rr a b c d e x9 (List.replicate 8 none),H,tk⟩ P:=by
 have hlen:((List.range 4).map (tupK ks)).length<6:=by rw[ai];decide
 have hT:∀x∈(List.range 4).map (tupK ks),∃k,x=tupK ks k:=λx hx=>(aG.mp hx).imp λk q=>q.2.symm
 refine fY (by kernel_rfl) (fY (by kernel_rfl) (dC (fu (by decide) ?_)))
 refine bM (H:=H) (L:=List.range 4) (λk:Nat=>AV.int (k:Nat)) (λ_=>true) (tupK ks) (λk=>[some (.int (k:Nat))]) (λl=>∃x,l=[x]) (λ_ _=>trivial) (λa=>⟨_,rfl⟩) (λk us lc Kc hk' sh hl h1 h2=>?_) (List.range 4) [] [none] (λ_ h=>h) ⟨_,rfl⟩ (by decide) λlc=>?_
 ·obtain⟨x0,rfl⟩:=sh
  have hk4:=List.mem_range.mp hk'
  refine⟨aa rfl,λ_=>?_,λhb=>nomatch hb⟩
  refine(show cE HC 0 _ _ from dp (p:=("keys",0)) rfl (aZ F.c0) ?_)
  exact cf (show bq _ _ _ from aZ F.k) (aU k) (Int.ofNat_lt.mpr (aH hk4 (by decide))) _ (bQ (hk.symm▸hk4)) ⟨aa rfl,rfl,dY hl (h1 rfl)⟩
 refine o9 _ (bp 1) false (show bq _ _ _ from aX) (.inl ⟨rfl,rfl⟩) (jV (T:="int") (by decide) (λx hx=>(hT x hx).elim λk q=>q▸⟨_,_,rfl,rfl⟩) (λx y hx hy=>?_) hlen) ?_
 ·obtain⟨k,rfl⟩:=hT x hx
  obtain⟨k',rfl⟩:=hT y hy
  exact⟨rfl,rfl,⟨trivial,trivial,trivial⟩,⟨trivial,trivial,trivial⟩,trivial,trivial,trivial⟩
 refine fC _ (show bq _ _ _ from aX) (Fb (S:=kj ks) (by unfold kj;rw[iE hlen,ai];decide) (λx hx=>hT x (jE (b:=false) (lt:=bp 1) hlen hx)) aX λlc=>?_)
 refine xd true (fH ks) (fH ks) (show bq _ _ _ from aZ (aZ (aZ er))) (show bq _ _ _ from aX.trans (congrArg (λz=>some (AO.list z)) hrow)) ?_
 rw[aR rfl]
 exact⟨λh=>(nomatch h),λ_=>h (bt (bt (bt aw)))⟩
end
noncomputable def gI (d:Int):Nat:=(if d>0 then d else 0).toNat
noncomputable def pK (m y:List Int):List Int:=List.replicate (gI (m.sum-y.sum)) (-6300)++List.replicate (gI (y.sum-m.sum)) 6300
noncomputable def ie (m y row:List Int) (p:Nat):Int:=m.getD (row.getD p 0).toNat 0+y.getD (row.getD p 0).toNat 0
noncomputable def iN (m y row its:List Int) (i:Nat):List Int:=its++List.replicate (ie m y row (3-i)).toNat (630*(3-(i:Int)))
theorem kZ {d:Int} (h:d.natAbs<1000):(if d>0 then d else 0)<1000/\-1000<(if d>0 then d else 0):=by
 by_cases q:d>0
 ·rw[if_pos q];exact⟨Int.lt_of_le_of_lt Int.le_natAbs (Int.ofNat_lt.mpr h),Int.lt_trans (by decide) q⟩
 ·rw[if_neg q];exact⟨by decide,by decide⟩
theorem uY {d:Int} (h:d.natAbs<1000):gI d<=1000:=Int.toNat_le.mpr (Int.le_of_lt (kZ h).1)
theorem EA (m y:List Int):bc (pK m y)=List.replicate (gI (m.sum-y.sum)) (.int (-6300))++List.replicate (gI (y.sum-m.sum)) (.int 6300):=by unfold bc pK;rw[List.map_append,List.map_replicate,List.map_replicate]
theorem yf (m y row its:List Int) (i:Nat):bc (iN m y row its i)=bc its++List.replicate (ie m y row (3-i)).toNat (.int (630*(3-(i:Int)))):=by unfold bc iN;rw[List.map_append,List.map_replicate]
section
variable {D:Nat} {ns row m y:List Int} {ks:List Int} {H:List AO} {kr yi mi rr tk:Nat} {P:AF->St->Prop} {a b c d e x9:Option AV}
theorem JB (F:lC H kr yi mi ks m y) (h1:(m.sum-y.sum).natAbs<1000) (h2:(y.sum-m.sum).natAbs<1000)
  (h:∀{hp},H<+:hp->bB (D+8) bC q8.tl ⟨L9 ns rr a b c d e x9 (some (.ref hp.length)::List.replicate 7 none),hp++[.list (bc (pK m y))],tk⟩ P):
  bB (D+8) bC q8 ⟨L9 ns rr a b c d e x9 (List.replicate 8 none),H,tk⟩ P:=by
 let A:=H++[AO.list [.int (-6300)]]
 have FA:lC A kr yi mi ks m y:=F.up (bt aw)
 refine⟨aa rfl,?_⟩
 refine(show cE bC 2 _ _ from dp (p:=("mine",2)) rfl FA.c2 (lr m (show bq _ _ _ from FA.m) ?_))
 refine(show cE bC 1 _ _ from dp (p:=("yours",1)) rfl FA.c1 (lr y (show bq _ _ _ from FA.y) (wO ?_)))
 refine qQ (.int (-6300)) aX (kZ h1).1 (kZ h1).2 ⟨aa rfl,?_⟩
 let B:=A++[AO.list (List.replicate (gI (m.sum-y.sum)) (AV.int (-6300)))]++[AO.list [.int 6300]]
 have FB:lC B kr yi mi ks m y:=FA.up (bt (bt aw))
 refine(show cE bC 1 _ _ from dp (p:=("yours",1)) rfl FB.c1 (lr y (show bq _ _ _ from FB.y) ?_))
 refine(show cE bC 2 _ _ from dp (p:=("mine",2)) rfl FB.c2 (lr m (show bq _ _ _ from FB.m) (wO ?_)))
 refine qQ (.int 6300) aX (kZ h2).1 (kZ h2).2 ?_
 refine su (List.replicate (gI (m.sum-y.sum)) (.int (-6300))) (List.replicate (gI (y.sum-m.sum)) (.int 6300)) (aZ (aZ aX)) aX (by rw[List.length_replicate,List.length_replicate];exact ag (Nat.add_le_add (uY h1) (uY h2)) (by decide)) ⟨aa rfl,?_⟩
 have z:=h (hp:=B++[AO.list (List.replicate (gI (y.sum-m.sum)) (AV.int 6300))]) (bt (bt (bt (bt aw))))
 rw[EA] at z
 exact z
theorem Jn {B:List AO} {chk:St->Prop} (hc:∀s,chk s) (F:lC B kr yi mi ks m y) (er:B[rr]? =some (.list (bc row))) (hm:cJ m) (hy:cJ y) (hr:∀p,p<4->0<=row.getD p 0/\row.getD p 0<4) (hrl:row.length=4) (l:List Nat):∀{its hp x11},(∀i∈l,i<4)->B<+:hp->hp[B.length]? =some (.list (bc its))->its.length+200*l.length<=1000->
  (∀{hp x11},B<+:hp->hp[B.length]? =some (.list (bc (l.foldl (iN m y row) its)))->P .next ⟨L9 ns rr a b c d e x9 (some (.ref B.length)::x11::List.replicate 6 none),hp,tk⟩)->
  bD chk (wW (D+8) bC CO).a (bB (D+8) bC CM) (l.map λi=>.int (3-(i:Nat))) ⟨L9 ns rr a b c d e x9 (some (.ref B.length)::x11::List.replicate 6 none),hp,tk⟩ P:=by
 induction l with
 |nil=>exactλhl p ei hn h=>⟨hc _,h p ei⟩
 |cons i l ih=>
  intro its hp x11 hl p ei hn h
  have hi:=hl i (.head _)
  have i3:(3-(i:Int)).toNat=3-i/\0<=3-(i:Int)/\3-(i:Int)<100000:=k4 (P:=λi=>(3-(i:Int)).toNat=3-i/\0<=3-(i:Int)/\3-(i:Int)<100000) (by decide) (by decide) (by decide) (by decide) hi
  have h3:3-i<4:=aJ (Nat.sub_le ..) (by decide)
  have hq:=hr (3-i) h3
  have r4:(row.getD (3-i) 0).toNat<4:=(Int.toNat_lt hq.1).mpr hq.2
  have b1:=hm.get r4
  have b2:=hy.get r4
  have hrow:(bc row)[(3-(i:Int)).toNat]? =some (.int (row.getD (3-i) 0)):=(congrArg (λn=>(bc row)[n]?) i3.1).trans (bQ (hrl.symm▸h3))
  have p1:B<+:hp++[AO.list [.int (630*(3-(i:Int)))]]:=bt p
  have F1:=F.up p1
  have hcp:0<ie m y row (3-i)/\ie m y row (3-i)<200:=⟨Int.add_pos b1.1 b2.1,Int.add_lt_add b1.2 b2.2⟩
  have hcn:(ie m y row (3-i)).toNat<200:=(Int.toNat_lt (Int.le_of_lt hcp.1)).mpr hcp.2
  have ir:∀{P:PV} {st:St},B<+:st.hp->P (.int (row.getD (3-i) 0)) st->fz (.ref rr) (.int (3-(i:Nat))) st P:=λp h=>cf (show bq _ _ _ from aV p er) i3.2.1 i3.2.2 _ hrow h
  have il:∀{l:List Int} {n:Nat} {P:PV} {st:St},cJ l->st.hp[n]? =some (.list (bc l))->P (.int (l.getD (row.getD (3-i) 0).toNat 0)) st->fz (.ref n) (.int (row.getD (3-i) 0)) st P:=λhl e h=>cf (show bq _ _ _ from e) hq.1 (Int.lt_trans hq.2 (by decide)) _ (bQ (hl.len.symm▸r4)) h
  refine⟨hc _,aa rfl,?_⟩
  refine dz AH (show bq _ _ _ from ei) ⟨.inl (aa rfl),aa rfl,?_⟩
  refine(show cE bC 2 _ _ from dp (p:=("mine",2)) rfl F1.c2 (ir p1 (il hm F1.m ?_)))
  refine(show cE bC 1 _ _ from dp (p:=("yours",1)) rfl F1.c1 (ir p1 (il hy F1.y ?_)))
  refine qQ (.int (630*(3-(i:Int)))) aX (Int.lt_trans hcp.2 (by decide)) (Int.lt_trans (by decide) hcp.1) ?_
  refine E7 (bc its) (List.replicate (ie m y row (3-i)).toNat (.int (630*(3-(i:Int))))) (aZ (aZ ei)) aX ?_ ?_ ?_
  ·exactλh0=>absurd (Int.toNat_eq_zero.mp (List.length_replicate.symm.trans (congrArg List.length h0))) (Int.not_le.mpr hcp.1)
  ·rw[ai,List.length_replicate]
   exact ag (Nat.add_le_add_left (Nat.le_of_lt hcn) _) (ag (Nat.add_le_add_left (show 200*1<=200*(l.length+1) from Nat.mul_le_mul_left _ (Nat.le_add_left ..)) _) hn)
  ·have z:=ih (its:=iN m y row its i) (hp:=(hp++[AO.list [.int (630*(3-(i:Int)))]]++[AO.list (List.replicate (ie m y row (3-i)).toNat (.int (630*(3-(i:Int)))))]).set B.length (.list (bc (iN m y row its i)))) (x11:=some (.int (3-(i:Nat)))) (λx hx=>hl x (.tail _ hx)) (gD (bt p1) (ak _)) (bE (aZ (aZ ei))) ?_ h
   ·rw[yf] at z
    exact z
   ·unfold iN
    rw[aI,List.length_replicate]
    exact ag (Nat.add_le_add_right (Nat.add_le_add_left (Nat.le_of_lt hcn) _) _) (by rw[Nat.add_assoc,Nat.add_comm 200,<-Nat.mul_succ];exact hn)
end
structure wN (m y row its:List Int) (T:Int) (cut:Nat) (part:Int):Prop where
 hm:cJ m
 hy:cJ y
 rl:row.length=4
 rb:∀p,p<4->0<=row.getD p 0/\row.getD p 0<4
 len:its.length<64
 mg:∀q:List Int,q.Perm its->q.Pairwise (· <= ·)->BI q=true
 told:∀q:List Int,q.Perm its->q.Pairwise (· <= ·)->∃sg mm e,Float64.decode (Float64.mul (Float64.ofInt 16) (zM q))=.fin sg mm e/\Float64.truncOf sg mm e=T/\Float64.cmpInt (Float64.mul (Float64.ofInt 16) (zM q)) T=some .eq
 cutE:(T+2520).fdiv 10080=cut
 partE:(T+2520).fmod 10080=part
 c3:cut<4
 p0:0<=part/\part<5040
 first:5040*((row.take cut).map λr=>m.getD r.toNat 0).sum+part*m.getD (row.getD cut 0).toNat 0=iB m y
 second:5040*((row.drop (cut+1)).map λr=>y.getD r.toNat 0).sum+(5040-part)*y.getD (row.getD cut 0).toNat 0=iB m y
theorem nM {z:Int} (h0:0<=z) (h:z<=5040):small z:=by
 obtain⟨n,rfl⟩:=Int.eq_ofNat_of_zero_le h0
 exact aJ (Int.ofNat_le.mp h) (by decide)
section
variable {D:Nat} {ns row its m y ks:List Int} {H:List AO} {kr yi mi rr ir tk cut:Nat} {T part:Int} {P:AF->St->Prop} {a b c d e x9 x10 x11 x12 x13:Option AV}
theorem Js (k:wN m y row its T cut part) (ei:H[ir]? =some (.list (bc its)))
  (h:∀{hp x12 x13},H<+:hp->bB (D+8) bC wu ⟨L9 ns rr a b c d e x9 (some (.ref ir)::x11::x12::x13::some (.int cut)::some (.int part)::[none,none]),hp,tk⟩ P):
  bB (D+8) bC Cp ⟨L9 ns rr a b c d e x9 (some (.ref ir)::x11::List.replicate 6 none),H,tk⟩ P:=by
 refine Ha (bc its) (show bq _ _ _ from ei) (by rw[ai];exact Nat.le_of_lt (aH k.len (by decide))) ⟨aa rfl,?_⟩
 have e1:(H++[AO.list (bc its)])[ir]? =some (.list (bc its)):=aZ ei
 refine My e1 k.len k.mg λqs h1 h2=>⟨aa rfl,?_⟩
 obtain⟨sg,mm,ex,t1,t2,t3⟩:=k.told qs h1 h2
 have ek:=k.cutE
 have pk:=k.partE
 have c3:=k.c3
 have p0:=k.p0
 subst t2
 refine xd true its its (show bq _ _ _ from e1) (show bq _ _ _ from aX) ?_
 rw[aR rfl]
 refine⟨λh=>(nomatch h),λ_=>Lo ⟨λh=>(nomatch h),λ_=>⟨aa rfl,aa rfl,CA sg mm ex t1 (IV ?_)⟩⟩⟩
 rw[t3]
 refine⟨λh=>(nomatch h),λ_=>⟨λh=>(nomatch h),λ_=>⟨aa rfl,CA sg mm ex t1 (Dg (by decide) (aa rfl) ?_)⟩⟩⟩
 rw[ek,pk]
 refine⟨rfl,aa rfl,aa rfl,?_⟩
 refine⟨λh=>absurd (a9 h) λz=>z (aU cut),λ_=>⟨λh=>?_,λ_=>⟨λh=>?_,λ_=>⟨λh=>(nomatch h),λ_=>h (bt aw)⟩⟩⟩⟩
 ·exact absurd ((congrArg not (aR (Int.ofNat_le.mpr (Nat.le_of_lt_succ c3):(cut:Int)<=3))).symm.trans h) (by decide)
 ·exact absurd (aj h) (Int.not_le.mpr p0.2)
theorem vJ {p:Int} (h:0<=p/\p<5040):small p:=nM h.1 (Int.le_of_lt h.2)
theorem vF {p:Int} (h:0<=p/\p<5040):small (5040-p):=nM (Int.sub_nonneg_of_le (Int.le_of_lt h.2)) (Int.sub_le_self _ h.1)
theorem pN {nm:Str} {c n nv:Nat} {l v:List Int} {P:St->Prop} {p1 p2 p3 p4:Pos} (hcl:H[c]? =some (.cell (some (.ref nv)))) (hv:H[nv]? =some (.list (bc v))) (hl:l.length<=100) (hb:∀r∈l,0<=r/\r<4) (hv4:v.length=4) (hn:H[n]? =some (.list (bc l))) (K:∀lc,P ⟨lc,H++[.list (bc (l.map λr=>v.getD r.toNat 0))],tk⟩):
  dH H.length (λst=>bq st (.ref n) (bc l)) (wW D ⟨["k"],[(nm,c)],[],366⟩ (.loc 0 p1)).a (bV D ⟨["k"],[(nm,c)],[],366⟩ none) (wW D ⟨["k"],[(nm,c)],[],366⟩ (.sub (.cel 0 p2) (.loc 0 p3) p4)).e (bc l) ⟨[none],H++[.list []],tk⟩ P:=by
 refine bM (H:=H) (L:=l) AV.int (λ_=>true) (λr=>.int (v.getD r.toNat 0)) (λr=>[some (.int r)]) (λl=>∃x,l=[x]) (λ_ _=>aZ hn) (λa=>⟨_,rfl⟩) (λr us lc Kc hr sh hl' h1 h2=>?_) l [] [none] (λ_ h=>h) ⟨_,rfl⟩ (ag (Nat.le_of_eq (Nat.zero_add _)) (ag hl (by decide))) λlc=>?_
 ·obtain⟨x0,rfl⟩:=sh
  have b:=hb r hr
  refine⟨aa rfl,λ_=>?_,λhb=>nomatch hb⟩
  refine(show cE ⟨["k"],[(nm,c)],[],366⟩ 0 _ _ from dp (p:=(nm,c)) rfl (aZ hcl) ?_)
  exact cf (show bq _ _ _ from aZ hv) b.1 (Int.lt_trans b.2 (by decide)) _ (bQ (hv4.symm▸(Int.toNat_lt b.1).mpr b.2)) (dY hl' (h1 rfl))
 ·have z:=K lc
  unfold bc at z
  rw[List.map_map] at z
  rw[List.filter_eq_self.mpr λ_ _=>rfl]
  exact z
theorem IL (k:wN m y row its T cut part) (F:lC H kr yi mi ks m y) (er:H[rr]? =some (.list (bc row)))
  (h:∀st,P (.ret (.bool true)) st):
  bB (D+8) bC wu ⟨L9 ns rr a b c d e x9 (x10::x11::x12::x13::some (.int cut)::some (.int part)::[none,none]),H,tk⟩ P:=by
 have c3:=k.c3
 have p0:=k.p0
 have rb:=k.rb cut c3
 have r4:(row.getD cut 0).toNat<4:=(Int.toNat_lt rb.1).mpr rb.2
 have hrb:∀r∈row,0<=r/\r<4:=λr hr=>by
  obtain⟨i,hi,rfl⟩:=List.getElem_of_mem hr
  have z:=k.rb i (k.rl▸hi)
  rw[aB,aq hi] at z
  exact z
 have l4:∀{l:List Int},l.length<=row.length->l.length<=100:=λh=>ag h (k.rl▸by decide)
 have rl5:(bc row).length<=100000:=by rw[ai,k.rl];decide
 have ir:∀{P:PV} {st:St},st.hp[rr]? =some (.list (bc row))->P (.int (row.getD cut 0)) st->fz (.ref rr) (.int cut) st P:=λe h=>cf (show bq _ _ _ from e) (aU cut) (Int.ofNat_lt.mpr (aH c3 (by decide))) _ (bQ (k.rl.symm▸c3)) h
 have il:∀{l:List Int} {n:Nat} {P:PV} {st:St},cJ l->st.hp[n]? =some (.list (bc l))->P (.int (l.getD (row.getD cut 0).toNat 0)) st->fz (.ref n) (.int (row.getD cut 0)) st P:=λhl e h=>cf (show bq _ _ _ from e) rb.1 (Int.lt_trans rb.2 (by decide)) _ (bQ (hl.len.symm▸r4)) h
 refine fY (by kernel_rfl) (iF (bc row) none (some (cut:Int)) (show bq _ _ _ from er) rfl rfl rl5 ?_)
 rw[mD,show(bc row).take cut=bc (row.take cut) from(List.map_take ..).symm]
 have F1:=F.up (bt (b:=.list (bc (row.take cut))) aw)
 refine fC _ (show bq _ _ _ from aX) (pN F1.c2 F1.m (l4 (List.length_take_le' ..)) (λr hr=>hrb r (List.mem_of_mem_take hr)) k.hm.len aX λlc=>?_)
 let A:=H++[AO.list (bc (row.take cut))]++[AO.list (bc ((row.take cut).map λr=>m.getD r.toNat 0))]
 have pA:H<+:A:=bt (bt aw)
 have FA:=F.up pA
 refine lr ((row.take cut).map λr:Int=>m.getD r.toNat 0) (show bq _ _ _ from aX) ⟨.inl (aa rfl),?_⟩
 refine(show cE bC 2 _ _ from dp (p:=("mine",2)) rfl FA.c2 (ir (aV pA er) (il k.hm FA.m ⟨.inl (vJ p0),⟨aa rfl,?_⟩⟩)))
 refine fY (by kernel_rfl) (iF (bc row) (some (((cut+1:Nat):Int))) none (show bq _ _ _ from aV pA er) rfl rfl rl5 ?_)
 rw[AP,show(bc row).drop (cut+1)=bc (row.drop (cut+1)) from(List.map_drop ..).symm]
 have F2:=FA.up (bt (b:=.list (bc (row.drop (cut+1)))) aw)
 refine fC _ (show bq _ _ _ from aX) (pN F2.c1 F2.y (l4 (List.length_drop ..▸Nat.sub_le ..)) (λr hr=>hrb r (List.mem_of_mem_drop hr)) k.hy.len aX λlc=>?_)
 let B:=A++[AO.list (bc (row.drop (cut+1)))]++[AO.list (bc ((row.drop (cut+1)).map λr=>y.getD r.toNat 0))]
 have pB:A<+:B:=bt (bt aw)
 have FB:=FA.up pB
 refine lr ((row.drop (cut+1)).map λr:Int=>y.getD r.toNat 0) (show bq _ _ _ from aX) ⟨.inl (aa rfl),?_⟩
 refine(show cE bC 1 _ _ from dp (p:=("yours",1)) rfl FB.c1 (ir (aV pB (aV pA er)) (il k.hy FB.y ⟨.inl (vF p0),⟨aa rfl,⟨aa rfl,?_⟩⟩⟩)))
 let V:=[5040*((row.take cut).map λr=>m.getD r.toNat 0).sum+part*m.getD (row.getD cut 0).toNat 0,5040*((row.drop (cut+1)).map λr=>y.getD r.toNat 0).sum+(5040-part)*y.getD (row.getD cut 0).toNat 0]
 have eV:(B++[AO.list (bc V)])[B.length]? =some (.list (bc V)):=aX
 have FV:=FB.up (bt (b:=.list (bc V)) aw)
 refine(show cE bC 2 _ _ from dp (p:=("mine",2)) rfl FV.c2 ?_)
 refine(show cE bC 1 _ _ from dp (p:=("yours",1)) rfl FV.c1 (Eu FV.m FV.y k.hm k.hy ⟨aa rfl,?_⟩))
 refine qQ (.int (iB m y)) aX (by decide) (by decide) ?_
 refine xd false V [iB m y,iB m y] (show bq _ _ _ from aZ (aZ eV)) (show bq _ _ _ from aX) ?_
 rw[show decide (V=[iB m y,iB m y])=true from aR (congr (congrArg List.cons k.first) (congrArg (λz=>[z]) k.second))]
 exact h _
end
noncomputable def BC (m y row:List Int):List Int:=[0,1,2,3].foldl (iN m y row) (pK m y)
structure tj (m y:List Int) (T:Int) (cut:Nat) (part:Int):Prop where
 row:(kj (dq m y)).map d8=bc (fH (dq m y))
 s1:(m.sum-y.sum).natAbs<1000
 s2:(y.sum-m.sum).natAbs<1000
 l0:(pK m y).length<=200
 fin:wN m y (fH (dq m y)) (BC m y (fH (dq m y))) T cut part
theorem FL {D tk:Nat} {ns:List Int} {W:AF->St->Prop} (h7:700<=tk)
  (half:∀gs tk',dX (fe ns) [0,1,2,3] tk gs tk'->∃T cut part,tj (d6 (fe ns) gs 0) (d6 (fe ns) gs 1) T cut part) (h:∀st,W (.ret (.bool true)) st):bB (D+8) bC oh ⟨some (.ilst (bc ns))::List.replicate 17 none,[.cell none,.cell none,.cell none,.cell none],tk⟩ W:=by
 refine Jx λgs T0 g=>?_
 obtain⟨T,cut,part,hf⟩:=half gs T0 g
 have k:=hf.fin
 refine Iz g h7 (lX ns 0 _) λ{hp x3 x4 x5 x6 x7 tk i j} F e1 e2 i6 j6=>?_
 have kl:(dq (d6 (fe ns) gs 0) (d6 (fe ns) gs 1)).length=4:=by unfold dq;rw[ai,List.length_range]
 refine JR k.hm k.hy F e1 e2 i6 j6 λ{B kr} FB wB=>?_
 refine dC (fu (by decide) (J8 FB (λ_=>trivial) kl [0,1,2,3] (row:=[]) (bt aw) aX (wB.add λ_ h=>nomatch h) (by decide) (λ_ h=>nomatch h) (by decide) λ{hp1 x9} p1 er=>?_))
 have er1:hp1[B.length]? =some (.list (bc (fH (dq (d6 (fe ns) gs 0) (d6 (fe ns) gs 1))))):=by unfold fH;exact er
 refine Je (FB.up p1) kl er1 hf.row λ{hp2} p2=>?_
 refine JB ((FB.up p1).up p2) hf.s1 hf.s2 λ{hp3} p3=>?_
 have p23:=p2.trans p3
 refine uk (by decide) (by decide) (Fm (by decide) (by decide) (Jn (λ_=>trivial) ((FB.up p1).up p23) (aV p23 er1) k.hm k.hy k.rb k.rl [0,1,2,3] (by decide) (bt aw) aX (ag (Nat.add_le_add_right hf.l0 _) (by decide)) λ{hp4 x11} p4 ei4=>?_))
 refine Js k ei4 λ{hp5 x12 x13} p5=>?_
 have p35:=p4.trans p5
 exact IL k (((FB.up p1).up p23).up p35) (aV p35 (aV p23 er1)) h
noncomputable def jI (z:Int) (k:Int->Bool):Bool:=match z with
 | .ofNat n=>(match n with|0=>k 0|n+1=>k (.ofNat (n+1)))
 | .negSucc n=>k (.negSucc n)
theorem gY (z:Int) (k:Int->Bool):jI z k=k z:=by
 cases z with
 |ofNat n=>cases n<;>rfl
 |negSucc n=>rfl
noncomputable def iP (l:List Int) (k:List Int->Bool):Bool:=match l with
 |[]=>k []
 |z::l=>jI z λz=>iP l λl=>k (z::l)
theorem gX (l:List Int):∀k:List Int->Bool,iP l k=k l:=by
 induction l with
 |nil=>exactλk=>rfl
 |cons z l ih=>exactλk=>(gY z _).trans (ih _)
noncomputable def Og (n:Nat):Int:=n
noncomputable def rp (n v:Int):List Int:=List.replicate n.toNat v
noncomputable def Br (m y row:List Int):List Int:=[(gI (m.sum-y.sum):Nat),(gI (y.sum-m.sum):Nat),ie m y row 0,ie m y row 1,ie m y row 2,ie m y row 3]
noncomputable def oy (c:List Int):List Int:=rp (c.getD 0 0) (-6300)++(rp (c.getD 2 0) 0++(rp (c.getD 3 0) 630++(rp (c.getD 4 0) 1260++(rp (c.getD 5 0) 1890++rp (c.getD 1 0) 6300))))
noncomputable def tN (q:List Int):List Int:=[q.getD (q.length/2) 0,kA q,tQ q,q.length]
noncomputable def tu (l:List AV) (r:List Int):Bool:=match l with
 |[]=>(match r with|[]=>true|_=>false)
 |v::l=>(match r with|[]=>false|i::r=>(match v with| .int j=>decide (j=i)&&tu l r|_=>false))
theorem yt (l:List AV):∀r,tu l r=true->l=bc r:=by
 induction l with
 |nil=>exactλr h=>by cases r;rfl;cases h
 |cons v l ih=>
  intro r h
  cases r with
  |nil=>cases h
  |cons i r=>
   cases v with
   |int j=>exact congr (congrArg (λz=>List.cons (AV.int z)) (aj (aE h))) (ih r (aA h))
   |_=>cases h
noncomputable def zL (p h f:Nat):Int:=((10080*p+5040*h/f:Nat):Int)-2520
noncomputable def GO (ks row:List Int):Bool:=Nat.beq row.length 4&&(row.all (λr=>decide (0<=r)&&decide (r<4))&&tu ((kj ks).map d8) row)
noncomputable def qP (ks:List Int):List Int:=ks.map λv=>(ks.countP λu=>decide (u<v):Nat)
noncomputable def FT (m y row:List Int) (cut part b:Int):Bool:=decide (0<=cut)&&(decide (cut<4)&&(decide (part<5040)&&(decide (5040*((row.take cut.toNat).map λr=>m.getD r.toNat 0).sum+part*m.getD (row.getD cut.toNat 0).toNat 0=b)&&decide (5040*((row.drop (cut.toNat+1)).map λr=>y.getD r.toNat 0).sum+(5040-part)*y.getD (row.getD cut.toNat 0).toNat 0=b))))
noncomputable def xP (x:List Int):Nat:=((x.getD 0 0).fdiv 630).toNat
noncomputable def xH (x:List Int):Nat:=((x.getD 3 0).fdiv 2-x.getD 1 0).toNat
noncomputable def xF (x:List Int):Nat:=(x.getD 2 0-x.getD 1 0).toNat
noncomputable def xM (x:List Int):Nat:=((x.getD 3 0).fdiv 2).toNat
noncomputable def HV (x:List Int):Bool:=Nat.blt (xP x) 4&&(Nat.blt (xF x) 11&&(Nat.blt (xH x) (xF x)&&(Nat.blt (xM x) 21&&(Nat.ble (xH x) (xM x)&&(decide (x.getD 0 0=630*(xP x:Nat))&&(decide (x.getD 3 0=((2*xM x:Nat):Int))&&(decide (x.getD 1 0=((xM x-xH x:Nat):Int))&&decide (x.getD 2 0-x.getD 1 0=(xF x:Nat)))))))))
noncomputable def BH (m y:List Int):Bool:=Nat.blt (m.sum-y.sum).natAbs 1000&&(Nat.blt (y.sum-m.sum).natAbs 1000&&iP (dq m y) λks=>iP (qP ks) λks=>iP (fH ks) λrow=>GO ks row&&iP (Br m y row) λc=>Nat.ble (c.getD 0 0+c.getD 1 0).toNat 200&&(BI (oy c)&&iP (tN (oy c)) λx=>HV x&&jI (zL (xP x) (xH x) (xF x)+2520) λT=>jI (T.fdiv 10080) λcut=>jI (T.fmod 10080) λpart=>jI (iB m y) λb=>FT m y row cut part b))
noncomputable def iW:List (List Int):=[[1,1,1,1],[2,1,1,1],[1,2,1,1],[1,1,2,1],[1,1,1,2],[3,2,1,1],[3,1,2,1],[3,1,1,2],[2,3,1,1],[1,3,2,1],[1,3,1,2],[2,1,3,1],[1,2,3,1],[1,1,3,2],[2,1,1,3],[1,2,1,3],[1,1,2,3],[4,3,2,1],[4,3,1,2],[4,2,3,1],[4,1,3,2],[4,2,1,3],[4,1,2,3],[3,4,2,1],[3,4,1,2],[2,4,3,1],[1,4,3,2],[2,4,1,3],[1,4,2,3],[3,2,4,1],[3,1,4,2],[2,3,4,1],[1,3,4,2],[2,1,4,3],[1,2,4,3],[3,2,1,4],[3,1,2,4],[2,3,1,4],[1,3,2,4],[2,1,3,4],[1,2,3,4],[5,4,3,2],[5,4,2,3],[5,3,4,2],[5,2,4,3],[5,3,2,4],[5,2,3,4],[4,5,3,2],[4,5,2,3],[3,5,4,2],[2,5,4,3],[3,5,2,4],[2,5,3,4],[4,3,5,2],[4,2,5,3],[3,4,5,2],[2,4,5,3],[3,2,5,4],[2,3,5,4],[4,3,2,5],[4,2,3,5],[3,4,2,5],[2,4,3,5],[3,2,4,5],[2,3,4,5]]
noncomputable def ew (i:Nat):Bool:=((iW.drop (5*i)).take 5).all λm=>iW.all λy=>BH m y
theorem zh {a b:Int} (h:a<=b) (l:List Int):l.countP (λu=>decide (u<a))<=l.countP λu=>decide (u<b):=List.countP_mono_left λx _ q=>aR (Int.lt_of_lt_of_le (aj q) h)
theorem Hc {a b:Int} (h:a<b) (l:List Int):a∈l->l.countP (λu=>decide (u<a))<l.countP λu=>decide (u<b):=by
 induction l with
 |nil=>exactλh=>nomatch h
 |cons x l ih=>
  intro hx
  rw[List.countP_cons,List.countP_cons]
  rcases aL.mp hx with rfl|hx
  ·rw[if_neg λz=>Int.lt_irrefl _ (aj z),if_pos (aR h)]
   exact Nat.lt_succ_of_le (zh (Int.le_of_lt h) l)
  ·refine aP (Nat.add_lt_add_right (ih hx) _) (Nat.add_le_add_left ?_ _)
   by_cases q:x<a
   ·rw[if_pos (aR q),if_pos (aR (Int.lt_trans q h))];exact ak _
   ·rw[if_neg λz=>q (aj z)];exact Nat.zero_le _
structure wM (ks ks':List Int):Prop where
 l:ks.length=4
 l':ks'.length=4
 o:∀i j,i<4->j<4->decide (ks.getD i 0<ks.getD j 0)=decide (ks'.getD i 0<ks'.getD j 0)
theorem xQ {ks:List Int} (h:ks.length=4):wM ks (qP ks):=by
 have g:∀i,i<4->ks.getD i 0∈ks/\(qP ks).getD i 0=(ks.countP (λu=>decide (u<ks.getD i 0)):Nat):=λi hi=>by
  have hi':i<ks.length:=h.symm▸hi
  unfold qP
  rw[aB,aB,aO,aq hi']
  exact⟨List.getElem_mem hi',rfl⟩
 refine⟨h,(ai _).trans h,λi j hi hj=>?_⟩
 rw[(g i hi).2,(g j hj).2]
 refine decide_eq_decide.mpr ⟨λq=>Int.ofNat_lt.mpr (Hc q ks (g i hi).1),λq=>?_⟩
 rcases Int.lt_or_le (ks.getD i 0) (ks.getD j 0) with z|z
 ·exact z
 ·exact absurd (zh z ks) (Nat.not_le.mpr (Int.ofNat_lt.mp q))
section
variable {ks ks':List Int} (S:wM ks ks')
include S
theorem AI {row:List Int} {g:Nat} (hg:g<4) (hr:∀r∈row,0<=r/\r<4) (k:Nat):∀(lo hi:Int),0<=lo->hi<=row.length->cV true (eh ks row) (ks.getD g 0) k lo hi=cV true (eh ks' row) (ks'.getD g 0) k lo hi:=by
 induction k with
 |zero=>exactλ_ _ _ _=>rfl
 |succ k ih=>
  intro lo hi h0 h1
  unfold cV
  by_cases hl:lo<hi
  ·rw[if_pos hl,if_pos hl]
   have hm:=nW hl
   have m0:0<= (lo+hi)/2:=Int.le_trans h0 hm.1
   have hml:((lo+hi)/2).toNat<row.length:=(Int.toNat_lt m0).mpr (Int.lt_of_lt_of_le hm.2 h1)
   have kd:∀ks:List Int,(eh ks row).getD ((lo+hi)/2).toNat 0=ks.getD (row[((lo+hi)/2).toNat]).toNat 0:=λks=>by
    unfold eh
    rw[aB,aO,aq hml];rfl
   have hr':=hr _ (List.getElem_mem hml)
   rw[kd,kd,if_pos rfl,if_pos rfl,S.o g _ hg ((Int.toNat_lt hr'.1).mpr hr'.2)]
   rw[ih lo _ h0 (Int.le_trans (Int.le_of_lt hm.2) h1),ih _ hi (Int.le_trans m0 (Int.le_add_of_nonneg_right (by decide))) h1]
  ·rw[if_neg hl,if_neg hl]
theorem zV:fH ks=fH ks':=by
 have key:∀(l:List Nat) (row:List Int),(∀g∈l,g<4)->(∀r∈row,0<=r/\r<4)->l.foldl (λrow (g:Nat)=>dB ks row g) row=l.foldl (λrow (g:Nat)=>dB ks' row g) row:=λl=>by
  induction l with
  |nil=>exactλ_ _ _=>rfl
  |cons g l ih=>
   intro row hl hr
   have hg:=hl g (.head _)
   have e:dB ks row g=dB ks' row g:=by
    unfold dB xc
    rw[show((g:Int)).toNat=g from rfl,AI S hg hr row.length 0 row.length (Int.le_refl 0) (Int.le_refl _)]
   rw[List.foldl_cons,List.foldl_cons,e]
   exact ih _ (λx hx=>hl x (.tail _ hx)) (yI ⟨aU g,Int.ofNat_lt.mpr hg⟩ hr)
 unfold fH
 exact key (List.range 4) [] (λg hg=>List.mem_range.mp hg) λr hr=>nomatch hr
theorem Ab:(kj ks).map d8=(kj ks').map d8:=by
 let f:List Int->Nat->AV:=λks i=>if i<4 then tupK ks i else .none
 have hf:∀ks,(List.range 4).map (tupK ks)=(List.range 4).map (f ks):=λks=>List.map_congr_left λi hi=>(if_pos (List.mem_range.mp hi)).symm
 have fi:∀ks {i},i<4->f ks i=tupK ks i:=λks {i} h=>if_pos h
 have fn:∀ks {i},¬i<4->f ks i=.none:=λks {i} h=>if_neg h
 have lt:∀ks,wM ks ks'->∀i j,i<4->j<4->bp 1 (tupK ks i) (tupK ks j)=bp 1 (tupK ks' i) (tupK ks' j):=λks S i j hi hj=>by
  show(if decide (ks.getD i 0=ks.getD j 0)=true then _ else decide (ks.getD i 0<ks.getD j 0))=(if decide (ks'.getD i 0=ks'.getD j 0)=true then _ else decide (ks'.getD i 0<ks'.getD j 0))
  have o1:=decide_eq_decide.mp (S.o i j hi hj)
  have o2:=decide_eq_decide.mp (S.o j i hj hi)
  rw[S.o i j hi hj,show decide (ks.getD i 0=ks.getD j 0)=decide (ks'.getD i 0=ks'.getD j 0) from decide_eq_decide.mpr ⟨λe=>Int.le_antisymm (Int.not_lt.mp λz=>Int.lt_irrefl _ (e▸o2.mpr z)) (Int.not_lt.mp λz=>Int.lt_irrefl _ (e▸o1.mpr z)),λe=>Int.le_antisymm (Int.not_lt.mp λz=>Int.lt_irrefl _ (e▸o2.mp z)) (Int.not_lt.mp λz=>Int.lt_irrefl _ (e▸o1.mp z))⟩]
 have e:(λi j=>bp 1 (f ks i) (f ks j))=λi j=>bp 1 (f ks' i) (f ks' j):=funext λi=>funext λj=>by
  by_cases hi:i<4
  ·by_cases hj:j<4
   ·rw[fi _ hi,fi _ hj,fi _ hi,fi _ hj];exact lt ks S i j hi hj
   ·rw[fn _ hj,fn _ hj,iI,iI]
  ·rw[fn _ hi,fn _ hi];rfl
 have sr:∀ks,(kj ks).map d8=(m9 99 false (λi j=>bp 1 (f ks i) (f ks j)) (List.range 4)).map λi=>d8 (f ks i):=λks=>by
  unfold kj
  rw[hf ks,iH (f:=f ks) (d:=99) (lt:=λi j=>bp 1 (f ks i) (f ks j)) (lt':=bp 1) rfl (λ_ _=>rfl),List.map_map];rfl
 rw[sr,sr,e]
 refine congrArg (λz=>List.map z _) (funext λi=>?_)
 by_cases hi:i<4
 ·rw[fi _ hi,fi _ hi];rfl
 ·rw[fn _ hi,fn _ hi]
end
theorem k5 {n v:Int} {l:List Int} (h:l.Pairwise (· <= ·)) (k:∀x∈l,v<=x):(rp n v++l).Pairwise (· <= ·):=
 List.pairwise_append.mpr ⟨List.pairwise_replicate.mpr (.inr (Int.le_refl _)),h,λx hx z hz=>(List.mem_replicate.mp hx).2.symm▸k z hz⟩
theorem gQ {n v w:Int} {l:List Int} (h:w<=v) (k:∀x∈l,w<=x):∀x∈rp n v++l,w<=x:=λx hx=>
 (bo.mp hx).elim (λhx=>(List.mem_replicate.mp hx).2.symm▸h) (k x)
theorem k8 {n v w:Int} (h:w<=v):∀x∈rp n v,w<=x:=λx hx=>(List.mem_replicate.mp hx).2.symm▸h
theorem rC (c:List Int):(oy c).Pairwise (· <= ·):=
 k5 (k5 (k5 (k5 (k5 (List.pairwise_replicate.mpr (.inr (Int.le_refl _))) (k8 (by decide))) (gQ (by decide) (k8 (by decide)))) (gQ (by decide) (gQ (by decide) (k8 (by decide))))) (gQ (by decide) (gQ (by decide) (gQ (by decide) (k8 (by decide)))))) (gQ (by decide) (gQ (by decide) (gQ (by decide) (gQ (by decide) (k8 (by decide))))))
theorem Oj {α:Type} (a b:List α) {c d:List α} (h:c.Perm d):(a++b++c).Perm (b++(d++a)):=
 ((List.perm_append_comm.append_right c).trans (List.Perm.of_eq (ax ..))).trans ((List.perm_append_comm.trans (h.append_right a)).append_left b)
theorem sQ (m y row:List Int):(BC m y row).Perm (oy (Br m y row)):=by
 let A:=rp (gI (m.sum-y.sum):Nat) (-6300)
 let B:=rp (gI (y.sum-m.sum):Nat) 6300
 let c:=λi v=>rp (ie m y row i) v
 show(A++B++c 3 1890++c 2 1260++c 1 630++c 0 0).Perm (A++(c 0 0++(c 1 630++(c 2 1260++(c 3 1890++B)))))
 rw[ax A,ax A,ax A,ax A]
 refine List.Perm.append_left A ?_
 refine List.perm_append_comm.trans (List.Perm.append_left _ ?_)
 refine List.perm_append_comm.trans (List.Perm.append_left _ ?_)
 refine List.perm_append_comm.trans (List.Perm.append_left _ ?_)
 exact List.perm_append_comm
theorem rQ {m y row q:List Int} (h:q.Perm (BC m y row)) (s:q.Pairwise (· <= ·)):q=oy (Br m y row):=
 List.Perm.eq_of_pairwise (λ_ _ _ _ h1 h2=>Int.le_antisymm h1 h2) s (rC _) (h.trans (sQ ..))
noncomputable def Im (x:Int) (L:Nat) (I d:Int):UInt64:=Float64.add (Float64.sub (Float64.ofInt x) (Float64.div pn 4611686018427387904)) (Float64.div (Float64.mul pn (Float64.sub (Float64.ofFrac false L 2) (Float64.ofInt I))) (Float64.ofInt d))
theorem LP:((List.range 21).all λM=>(List.range (M+1)).all λh=>Float64.sub (Float64.ofFrac false (2*M) 2) (Float64.ofInt ((M-h:Nat):Int))==Float64.ofInt (h:Nat))=true:=by kernel_rfl
noncomputable def zO (p h f:Nat):UInt64:=Float64.mul (Float64.ofInt 16) (Float64.add (Float64.sub (Float64.ofInt (630*(p:Int))) (Float64.div pn 4611686018427387904)) (Float64.div (Float64.mul pn (Float64.ofInt (h:Nat))) (Float64.ofInt (f:Nat))))
noncomputable def HG (p h f:Nat):Bool:=(match Float64.decode (zO p h f) with
 | .fin sg m e=>decide (Float64.truncOf sg m e=zL p h f)
 |_=>false)&&Float64.cmpInt (zO p h f) (zL p h f)==some .eq
theorem Lm:((List.range 4).all λp=>(List.range 11).all λf=>(List.range f).all λh=>HG p h f)=true:=by kernel_rfl
noncomputable def tC (x:UInt64) (T:Int):Prop:=∃sg mm ex,Float64.decode (Float64.mul (Float64.ofInt 16) x)=.fin sg mm ex/\Float64.truncOf sg mm ex=T/\Float64.cmpInt (Float64.mul (Float64.ofInt 16) x) T=some .eq
theorem Dz {p h f M:Nat} (hp:p<4) (hf:f<11) (hh:h<f) (hM:M<21) (hhM:h<=M):tC (Im (630*(p:Int)) (2*M) ((M-h:Nat):Int) (f:Nat)) (zL p h f):=by
 have h1:=eq_of_beq (aF.mp (aF.mp LP M (List.mem_range.mpr hM)) h (List.mem_range.mpr (Nat.lt_succ_of_le hhM)))
 have e2:Float64.mul (Float64.ofInt 16) (Im (630*(p:Int)) (2*M) ((M-h:Nat):Int) (f:Nat))=zO p h f:=by
  unfold Im zO
  rw[h1]
 have h2:=aF.mp (aF.mp (aF.mp Lm p (List.mem_range.mpr hp)) f (List.mem_range.mpr hf)) h (List.mem_range.mpr hh)
 unfold tC
 rw[e2]
 unfold HG at h2
 cases q:Float64.decode (zO p h f) with
 |fin sg m ex=>rw[q] at h2;exact⟨sg,m,ex,rfl,aj (aE h2),eq_of_beq (aA h2)⟩
 |_=>rw[q] at h2;exact nomatch aE h2
theorem Gj {q:List Int} (h:HV (tN q)=true):tC (zM q) (zL (xP (tN q)) (xH (tN q)) (xF (tN q))):=by
 have n:=λ{a b:Nat} (h:Nat.blt a b=true)=>aa h
 have h1:=n (aE h);have h:=aA h;have h2:=n (aE h);have h:=aA h;have h3:=n (aE h);have h:=aA h;have h4:=n (aE h);have h:=aA h;have h5:=aa (aE h);have h:=aA h
 have e1:=aj (aE h);have h:=aA h;have e2:=Int.ofNat.inj (aj (aE h));have h:=aA h;have e3:=aj (aE h);have e4:=aj (aA h)
 have z:=Dz h1 h2 h3 h4 h5
 rw[<-e1,<-e2,<-e3,<-e4] at z
 exact z
theorem En {m y:List Int} (hm:cJ m) (hy:cJ y) (h:BH m y=true):∃T cut part,tj m y T cut part:=by
 have s1:=aa (aE h);have h:=aA h;have s2:=aa (aE h)
 have h:=(gX _ _).symm.trans (aA h)
 have h:=(gX _ _).symm.trans h
 have h:=(gX _ _).symm.trans h
 have hr:=aE h
 have h:=(gX _ _).symm.trans (aA h)
 have l0:=aa (aE h);have h:=aA h;have hg:=aE h
 have h:=(gX _ _).symm.trans (aA h)
 have hx:=aE h
 have h:=(gY _ _).symm.trans (aA h)
 have h:=(gY _ _).symm.trans h
 have h:=(gY _ _).symm.trans h
 have h:=(gY _ _).symm.trans h
 have S:=xQ (ks:=dq m y) (by unfold dq;rw[ai,List.length_range])
 have er:=zV S
 rw[<-er] at hr hg hx h l0
 have rl:=Nat.eq_of_beq_eq_true (aE hr)
 have ra:=aF.mp (aE (aA hr))
 have c0:=aj (aE h);have h:=aA h;have c4:=aj (aE h);have h:=aA h;have p5:=aj (aE h);have h:=aA h
 have lq:=(sQ m y (fH (dq m y))).length_eq
 refine⟨_,_,_,(Ab S).trans (yt _ _ (aA (aA hr))),s1,s2,?_,hm,hy,rl,λp hp=>?_,?_,λq hq hs=>(by rw[rQ hq hs];exact hg),λq hq hs=>(by rw[rQ hq hs];exact Gj hx),(Int.toNat_of_nonneg c0).symm,rfl,(Int.toNat_lt c0).mpr c4,⟨?_,p5⟩,aj (aE h),aj (aA h)⟩
 ·unfold pK
  rw[aI,List.length_replicate,List.length_replicate]
  exact l0
 ·have hp':p<(fH (dq m y)).length:=rl.symm▸hp
  rw[aB,aq hp']
  have z:=ra _ (List.getElem_mem hp')
  exact⟨aj (aE z),aj (aA z)⟩
 ·exact Nat.lt_succ_of_le (lq▸aa (aE (aA hg)))
 ·rw[Int.fmod_eq_emod_of_nonneg _ (by decide)];exact Int.emod_nonneg _ (by decide)
theorem Fw:(iW.all λm=>Nat.beq m.length 4&&m.all λv=>decide (0<v)&&decide (v<100))=true:=by kernel_rfl
theorem uX {m:List Int} (h:m∈iW):cJ m:=by
 have z:=aF.mp Fw m h
 exact⟨Nat.eq_of_beq_eq_true (aE z),λv hv=>have k:=aF.mp (aA z) v hv;⟨aj (aE k),aj (aA k)⟩⟩
noncomputable def lz (l:List Nat) (k:Nat):Int:=match l with
 |[]=>1
 |a::l=>if a=k then(l.length:Int)+2 else lz l k
noncomputable def Bn (n:Nat) (p:List Nat->Bool):Bool:=match n with
 |0=>p []
 |n+1=>p []&&(List.range 4).all λa=>Bn n λl=>p (a::l)
theorem EG (n:Nat):∀{p:List Nat->Bool},Bn n p=true->∀l:List Nat,l.length<=n->(∀x∈l,x<4)->p l=true:=by
 induction n with
 |zero=>exactλh l hl _=>List.length_eq_zero_iff.mp (Nat.le_zero.mp hl)▸h
 |succ n ih=>
  intro p h l hl hb
  cases l with
  |nil=>exact aE h
  |cons a l=>exact ih (aF.mp (aA h) a (List.mem_range.mpr (hb a (.head _)))) l (Nat.le_of_succ_le_succ hl) λx hx=>hb x (.tail _ hx)
theorem D2:Bn 4 (λl=>!decide l.Nodup||decide ([lz l 0,lz l 1,lz l 2,lz l 3]∈iW))=true:=by kernel_rfl
theorem Ao {t g:List Nat} {N:List (List Nat)}:i7 (t::N) g=if t=g then(N.length:Int)+2 else i7 N g:=by
 unfold i7
 rw[List.any_cons,List.findIdx_cons,List.length_cons]
 by_cases e:t=g
 ·rw[aR e,if_pos e]
  exact congrArg Int.ofNat (Nat.add_comm 1 (N.length+1))
 ·rw[decide_eq_false e,if_neg e,Bool.false_or]
  have z:((N.length+1:Nat):Int)-((N.findIdx (λp=>decide (p=g))+1:Nat):Int)=N.length-(N.findIdx (λp=>decide (p=g)):Nat):=by rw[Int.natCast_add,Int.natCast_add,Int.add_sub_add_right]
  exact congrArg (λz:Int=>if(N.any λp=>decide (p=g))=true then 1+z else 1) z
theorem ES {G N:List (List Nat)} (hG:G.Nodup) (h4:G.length=4) (hN:N.Nodup) (hs:∀t∈N,t∈G) (hl:N.length<=4):G.map (i7 N)∈iW:=by
 obtain⟨l,rfl,hb⟩:∃l:List Nat,N=l.map (λi=>G.getD i [])/\∀i∈l,i<4:=by
  clear hN hl
  induction N with
  |nil=>exact⟨[],rfl,λi h=>nomatch h⟩
  |cons t N ih=>
   obtain⟨l,e,hb⟩:=ih λx hx=>hs x (.tail _ hx)
   obtain⟨i,hi,et⟩:=List.getElem_of_mem (hs t (.head _))
   refine⟨i::l,?_,ao.2 ⟨h4▸hi,hb⟩⟩
   rw[List.map_cons,<-e,aB,aq hi,<-et];rfl
 have inj:∀i,i<4->∀j,j<4->(G.getD i []=G.getD j []↔i=j):=λi hi j hj=>by
  rw[aB,aB,aq (h4.symm▸hi),aq (h4.symm▸hj)]
  exact List.getElem_inj hG
 have hln:l.Nodup:=(List.pairwise_map.mp hN).imp λh e=>h (congrArg (λi=>G.getD i []) e)
 have z:=EG 4 D2 l (ai (λi=>G.getD i [])▸hl) hb
 rw[aR hln] at z
 have one:∀k,k<4->∀l:List Nat,(∀i∈l,i<4)->i7 (l.map λi=>G.getD i []) (G.getD k [])=lz l k:=λk hk l=>by
  induction l with
  |nil=>exactλ_=>rfl
  |cons a l ih=>
   intro hb
   rw[List.map_cons,Ao,ih λx hx=>hb x (.tail _ hx),ai]
   unfold lz
   by_cases e:a=k
   ·rw[if_pos ((inj a (hb a (.head _)) k hk).mpr e),if_pos e]
   ·rw[if_neg λq=>e ((inj a (hb a (.head _)) k hk).mp q),if_neg e]
    cases l<;>rfl
 have e:G.map (i7 (l.map λi=>G.getD i []))=[lz l 0,lz l 1,lz l 2,lz l 3]:=by
  refine(congrArg (List.map _) (eE [] G)).trans ?_
  rw[h4,List.map_map]
  show[i7 _ (G.getD 0 []),i7 _ (G.getD 1 []),i7 _ (G.getD 2 []),i7 _ (G.getD 3 [])]=_
  rw[one 0 (by decide) l hb,one 1 (by decide) l hb,one 2 (by decide) l hb,one 3 (by decide) l hb]
 exact e▸aj z
theorem yo {F:List (Int×cw)} (h:F.length<6):(iU F).Perm F:=
 ((mE (b:=true) (lt:=bp 1) (as:=F.map fM) (by rw[ai];exact h)).map KV).trans (.of_eq ((List.map_map ..).trans (List.map_id F)))
theorem A7 {w:List Nat} {b:Int} (gs:List Gd):(((kC gs).flatMap (bZ w b)).map λp=>p.2.1).Sublist (gs.map (·.1)):=by
 induction gs with
 |nil=>exact .slnil
 |cons g gs ih=>
  show(List.map _ (bZ w b (g.1,some g.2)++_)).Sublist (g.1::_)
  rw[List.map_append]
  unfold bZ
  by_cases q:b*((w.length:Int)+g.1.length)<=16*c7 w g.1
  ·rw[if_pos q];exact ih.cons_cons _
  ·rw[if_neg q];exact ih.cons _
theorem EI {α:Type} (lo hi:Option Int) (l:List α):(cN lo hi l).Sublist l:=(List.take_sublist ..).trans (List.drop_sublist ..)
section
variable {cs:List Int} {gs:List Gd} {tk tk' j:Nat}
theorem jY (g:dX cs [0,1,2,3] tk gs tk'):d6 cs gs j∈iW:=by
 have hl:=g.len
 let F:=(kC gs).flatMap (bZ (fW cs j) (mP cs j))
 have sF:(F.map λp=>p.2.1).Sublist (gs.map (·.1)):=A7 gs
 have lF:F.length<=4:=by
  have z:=sF.length_le
  rwa [ai,ai,hl] at z
 have pF:((iU F).map λp=>p.2.1).Perm (F.map λp=>p.2.1):=(yo (aJ lF (by decide))).map _
 have sN:(iV (cY cs gs j)).Sublist ((iU F).map λp=>p.2.1):=by
  have z:=((EI none (some (oz cs j)) ((iU F).map (·.2))).map (·.1))
  rwa [List.map_map] at z
 have e:d6 cs gs j=(gs.map (·.1)).map (i7 (iV (cY cs gs j))):=by unfold d6;rw[List.map_map,List.map_map];rfl
 rw[e]
 refine ES g.nd ((ai _).trans hl) (sN.nodup (pF.nodup_iff.mpr (sF.nodup g.nd))) (λt ht=>sF.subset (pF.mem_iff.mp (sN.subset ht))) ?_
 have z:=ag sN.length_le (Nat.le_of_eq pF.length_eq)
 rw[ai (as:=F)] at z
 exact ag z lF
end
theorem NZ:ew 0=true:=by kernel_rfl
theorem NK:ew 1=true:=by kernel_rfl
theorem N3:ew 2=true:=by kernel_rfl
theorem NN:ew 3=true:=by kernel_rfl
theorem NO:ew 4=true:=by kernel_rfl
theorem NM:ew 5=true:=by kernel_rfl
theorem Of:ew 6=true:=by kernel_rfl
theorem N1:ew 7=true:=by kernel_rfl
theorem N2:ew 8=true:=by kernel_rfl
theorem Nj:ew 9=true:=by kernel_rfl
theorem LJ:ew 10=true:=by kernel_rfl
theorem LW:ew 11=true:=by kernel_rfl
theorem Ln:ew 12=true:=by kernel_rfl
theorem hf:∀i∈List.range 13,ew i=true:=ao.2 ⟨NZ,ao.2 ⟨NK,ao.2 ⟨N3,ao.2 ⟨NN,ao.2 ⟨NO,ao.2 ⟨NM,ao.2 ⟨Of,ao.2 ⟨N1,ao.2 ⟨N2,ao.2 ⟨Nj,ao.2 ⟨LJ,ao.2 ⟨LW,ao.2 ⟨Ln,λ_ h=>nomatch h⟩⟩⟩⟩⟩⟩⟩⟩⟩⟩⟩⟩⟩
theorem xD:((List.range 13).flatMap λi=>(iW.drop (5*i)).take 5)=iW:=by kernel_rfl
theorem Bd {m y:List Int} (hm:m∈iW) (hy:y∈iW):BH m y=true:=by
 rw[<-xD] at hm
 obtain⟨i,hi,h⟩:=List.mem_flatMap.mp hm
 exact aF.mp (aF.mp (hf i hi) m h) y hy
theorem Aa {cs:List Int} {gs:List Gd} {tk tk':Nat} (g:dX cs [0,1,2,3] tk gs tk'):∃T cut part,tj (d6 cs gs 0) (d6 cs gs 1) T cut part:=
 En (uX (jY g)) (uX (jY g)) (Bd (jY g) (jY g))
theorem DW {args:List WData} (h:WShape.hasAll [] args [.list .int]=true):∃ns:List Int,args=[.list (ns.map WData.int)]:=by
 obtain⟨d,r,rfl,h1,h2⟩:=hasAllW_cons h
 obtain rfl:=hasAllW_nil h2
 obtain⟨xs,rfl,h3⟩:=hasW_list h1
 obtain⟨ns,rfl⟩:=items_int h3
 exact⟨ns,rfl⟩
theorem yq {cl:Str->Option Addr} {P:Params} {ord:List DictEntry->List DictEntry} {G:GP} (ns:List Int):∀{s:Shared} {r:List Value×Shared},layAllW [] cl P ord (ns.map WData.int) s=some r->aT G [] (bc ns) r.1:=by
 induction ns with
 |nil=>exactλh=>Option.some.inj h▸.nil
 |cons n ns ih=>
  intro s r h
  obtain⟨a,q,ha,hq,rfl⟩:=layAllW_cons h
  exact .cons (Option.some.inj ha▸.int _ _) (ih hq)
theorem zQ {o:Obj} (h:(match alive o with|some _=>true|none=>false)=true):alive o=some o:=by
 obtain⟨c,d,x,sl⟩:=o
 cases x<;>first|rfl|exact nomatch h
theorem Ey {t:BT} {n:Nat} {K:Frag} (h1:(K.map (·.1)).map (λa=>t.get a)=K.map (λp=>some p.2)) (h2:(K.all λp=>(match alive p.2 with|some _=>true|none=>false)&&Nat.blt p.1 n)=true) (p:Addr×Obj) (hp:p∈K):(absHeap t n {}).get? p.1=some p.2:=by
 have g:t.get p.1=some p.2:=by rw[List.map_map] at h1;exact List.map_inj_left.mp h1 p hp
 have a:=aF.mp h2 p hp
 rw[abs_get (aa (aA a)) g]
 exact zQ (aE a)
theorem JI:K0.In (H1 W0.params):=Frag.in_of (wz W0.params) (by
 rw[wz W0.params,List.map_map]
 refine List.map_congr_left λp hp=>?_
 exact Ey (by rw[<-wz W0.params];exact IU W0.params) (AD W0.params) p hp)
theorem Gg (P:Params):(gO P).get 277=some (tabObj #[])/\(gO P).get 364=some (tabObj #[])/\(((gO P).get 1).bind alive).isSome=true:=⟨by kernel_rfl,by kernel_rfl,by kernel_rfl⟩
theorem EN {G:GP} {h h':Heap} {b:Addr} {o:Obj} (d:gg G b o) (e:h'.get? b=some o) (hc:isCodeTable h b):asItWas h h' b (tabObj #[]):=by
 obtain⟨q,_,d⟩:=d
 cases q with
 |none=>exact .inl (e.trans (congrArg some d))
 |some q=>
  obtain⟨c,e1,_⟩:=d
  exact .inr (.inl ⟨hc,rfl,#[],_,rfl,e.trans (congrArg some (by rw[e1,Array.empty_append]))⟩)
theorem sI {h:Heap} {c P:Addr} (X:K0.In h) (t:iu c P):isCodeTable h P:=
 ⟨c,(codeHd_of_K X t.hd).imp λ_ h=>h.imp λ_ h=>h.elim λ_ h=>h.elim λ_ h=>h.elim λ_ h=>h.elim λ_ h=>h.elim λ_ h=>h.elim λ_ h=>h.elim λ_ h=>⟨h.1,h.2.1,h.2.2.1,h.2.2.2.1⟩⟩
theorem AE (args:List WData):hV.row.toRowW.claim.post args (.bool true) args=true:=by kernel_rfl
theorem Dq:n8 W0:=λs₀ s mg mb G hY ht hg args vals as hp _ L=>by
 obtain⟨ns,rfl⟩:=DW (pre_splitW hp).1
 obtain⟨ord,_,e⟩:=L.laid
 obtain⟨a,q,ha,hq,e⟩:=layAllW_cons e
 obtain rfl:=Option.some.inj hq
 obtain⟨r,er,rfl⟩:=layW_list ha
 obtain⟨rfl,rfl⟩:=Prod.mk.inj e
 have kin:=JI
 obtain⟨t1,t2,t3⟩:=Gg W0.params
 have look:∀b,K0.lookup b≠none->b∉[277,364]:=λb h hm=>(aL.mp hm).elim (λe=>h (e▸by kernel_rfl)) λhm=>h (aN.mp hm▸by kernel_rfl)
 generalize es:({r.2 with heap:=r.2.heap.push {cls:=.type "list",data:=.seq r.1.toArray}}:Shared)=s at*
 have tb:∀b∈[277,364],s.heap.get? b=some (tabObj #[]):=λb hm=>(aL.mp hm).elim (λe=>e▸hY _ _ (abs_get (by decide) t1)) λhm=>aN.mp hm▸hY _ _ (abs_get (by decide) t2)
 have ha:s.heap.get? r.2.heap.objs.size=some (listOf r.1.toArray 0):=by rw[<-es];exact a8 _ rfl
 have X:K0.In (hideAll s.heap [277,364]):=λa o e=>hideAll_get _ (hY _ _ (kin a o e)) (look a (by rw[e];nofun))
 have T:=topRead_of G.T
 obtain⟨mc,hd,_⟩:=G.T.nodigits
 obtain⟨ml,hl,hn⟩:=T.nolimit
 have hd':=hd.at' (h':=hideAll s.heap [277,364]) λo e=>hideAll_get _ e (by decide)
 refine wpAny_call (codeAny_mono (wQ (T:=[]) (I:=[]) (hp:=[]) (V:=[(277,tabObj #[]),(364,tabObj #[])]) (D:=8) (tk:=900) (h0:=hideAll s.heap [277,364]) (B:=λa o=>(hideAll s.heap [277,364]).get? a=some o) (Q:=λv s'=>v=.bool true/\OldK s.heap s'.heap/\s'.os=s.os/\AllBare s'.gens) (R:=λv _=>v=.bool true) (args:=[.ilst (bc ns)])
  (defAt yL sx) Cm.ok (kO rfl Cm.bind) rfl rfl rfl X
  ⟨_,_,_,_,T.g.at' λo e=>hideAll_get _ e (by decide),T.b.at' λo e=>hideAll_get _ e (by decide),⟨ml,hl.at' λo e=>hideAll_get _ e (by decide),hn⟩,T.builtins,T.free⟩ ?_ ⟨mc,hd',ns_none_of X hd' (by kernel_rfl)⟩ rfl (by decide) (by decide) (λb o e=>of_hideAll _ e) (hideAll_size _ _) (λp hp=>?_) (by decide) (λ_ _ h=>h) rfl (λp hp=>?_) .nil (.of_eq hg) (.cons (.ilst _ _ _ 0 (.inl (hideAll_get _ ha λhm=>?_)) (yq _ er)) .nil) .nil ht (FL (D:=0) (tk:=900) (by decide) (λgs tk' g=>Aa g) λst=>rfl) ?_) ?_)
 ·obtain⟨o,e1⟩:=Option.isSome_iff_exists.mp t3
  obtain⟨o',e2,e3⟩:=Option.bind_eq_some_iff.mp e1
  exact⟨o,hideAll_get _ (hY 1 o ((abs_get (by decide) e2).trans e3)) (by decide)⟩
 ·have hm:p.1∈[277,364]/\p.2=tabObj #[]:=(aL.mp hp).elim (λe=>e▸⟨.head _,rfl⟩) λhp=>aN.mp hp▸⟨.tail _ (.head _),rfl⟩
  exact⟨hm.2▸tb _ hm.1,hideAll_none _ hm.1⟩
 ·exact(aL.mp hp).elim (λe=>e▸⟨none,λ_ h=>(nomatch h),rfl⟩) λhp=>aN.mp hp▸⟨none,λ_ h=>(nomatch h),rfl⟩
 ·cases (tb _ hm).symm.trans ha
 ·intro C st1 r1 v u e0 eB eo _ _ _ ev d
  subst ev
  cases d
  have c:∀b∈[277,364],isCodeTable s.heap b:=λb hm=>(aL.mp hm).elim (λe=>e▸sI (Frag.In.keeps kin hY) o7) λhm=>aN.mp hm▸sI (Frag.In.keeps kin hY) uu
  have key:∀b o,s.heap.get? b=some o->asItWas s.heap r1.s.heap b o/\∃o',r1.s.heap.get? b=some o':=λb o e=>by
   by_cases hb:b∈[277,364]
   ·cases (tb b hb).symm.trans e
    rw[<-r1.va] at hb
    obtain⟨p,hp,rfl⟩:=aG.mp hb
    have z:=r1.nw p (ar _ (ar _ (aC _ hp)))
    exact⟨EN (r1.vo p hp) z.1 (c _ (r1.va▸hb)),_,z.1⟩
   ·have z:=r1.fr.keep b o (by rw[e0];exact hideAll_get _ e hb)
    exact⟨.inl z,_,z⟩
  exact⟨rfl,⟨λb o e=>(key b o e).1,λb o e=>(key b o e).2⟩,r1.os.trans eo,r1.gb⟩
 ·intro res s' g
  cases res with
  |error e=>exact g.elim
  |ok f=>cases f with
   |ret v=>
    obtain⟨rfl,k,os,gb⟩:v=.bool true/\OldK s.heap s'.heap/\s'.os=s.os/\AllBare s'.gens:=g
    exact⟨.inl ⟨_,.bool true,[],rfl,λ_=>rfl,.bool true,AE _,λ_=>⟨.nil,λ_ h=>nomatch h⟩⟩,k,os,gb⟩
   |_=>exact g.elim
end
theorem JQ:LeftO pw qv lo H5 (λs=>(s.heap,s.toks)) (λw=>(H1 w.params,900)) 5496:=by
 refine LeftO.of_pieces (H₁:=H1) (gs₁:=⟨[]⟩) (d₁:={}) (k₁:=900) (M:=Nat.add 12 (Nat.add 1 (Nat.add 1673 (Nat.add 659 (Nat.add 356 2))))) E9 Fg Gv (by decide) λw=>?_
 have h1:=Iy w
 have h2:=J9 w
 rw[<-PySem.W.Fast.te4187177175401517315] at h2
 funext os
 exact Prod.ext (congrFun h1 os) (Prod.ext (congrFun h2 os) rfl)
theorem zX:OpenLaw.wellSaid hV=true:=by
 unfold OpenLaw.wellSaid OpenRow.wellSaid OpenRow.partSaid looksOpen
 repeat' (with_reducible apply look_both)
 all_goals decide+kernel
theorem FE (P:Params):(H1 P).nsMap mainGlobals "law"=some (.ref 367):=by kernel_rfl
theorem NX (walk:∀(w:World) (s₀ s₁:Shared) (mg mb:Str->Option Value),Ground qv lo [] (XL qv []) w s₀ mg mb s₁.heap->(∀b o,(H1 w.params).get? b=some o->s₁.heap.get? b=some o)->900<=s₁.toks->s₁.gens=#[]->
  ∀(args:List WData) (vals:List Value) (as:List Addr),hV.row.toRowW.claim.pre args=true->WData.layableAll args=true->Laid [] w s₀ s₁ args vals as->
   wpAny (model pw w) callerA (PySem.call (.ref 367) vals) (λv s'=>GoodWG hV.row.toRowW.claim (classAt s₀.heap) (ExcName.means s₀.heap) args s₁ (.ok (.ret v)) s')
    (λe s'=>GoodWG hV.row.toRowW.claim (classAt s₀.heap) (ExcName.means s₀.heap) args s₁ (.error e) s') s₁):hV.Holds:=by
 refine holds_law zX λsaid=>?_
 have hw:hV.row.toRowW.promised:=by w_witness2
 have hX:∀s,H5 s=true->XL qv [] (s.heap.nsMap mainGlobals) s.heap/\RecFacts [] s.heap:=λs e=>⟨xl_of s (Bool.and_eq_true_iff.mp e).1,recFacts_of (Bool.and_eq_true_iff.mp e).2⟩
 have hb:pw.bare:=⟨rfl,rfl,rfl,rfl,rfl,by decide+kernel⟩
 refine⟨by assumption,hw,⟨hb,by decide+kernel,rfl⟩,hw.witness,λw=>?_⟩
 obtain⟨run,after⟩:=JQ.behind (XP:=λmg h=>XL qv [] mg h/\RecFacts [] h) hX (by decide+kernel) w
 refine⟨run,λt ht=>?_⟩
 obtain⟨s₀,hf,hg0,s,hT,hz,hgens,hg,G,y⟩:=after t ht
 have hh:s.heap=H1 w.params:=congrArg Prod.fst y
 have hk:s.toks=900:=congrArg Prod.snd y
 have G0:Ground qv lo [] (XL qv []) w s (s.heap.nsMap mainGlobals) (s.heap.nsMap builtinsNs) s.heap:=⟨G.T,G.B,G.D,G.TE,G.TD,G.W,G.X.1,G.cls,G.has,G.apart,G.once,G.K⟩
 have hgens:s.gens=#[]:=Array.eq_empty_of_size_eq_zero (beq_iff_eq.mp hgens)
 refine⟨s₀,hf,hg0,s,hT,λn hn=>?_,G.X.2.1,G.X.2.2.1,?_⟩
 ·obtain rfl:n=hV.row.name:=by split at hn<;>simp_all
  exact pinned_of_view (q:=qv) hg G0 (by rfl) (by rfl) (by rfl)
 refine ClaimW.callFrom_of_specG hz hgens λargs hp hl ord ho=>?_
 obtain⟨⟨vs,s₁⟩,e⟩:=Option.isSome_iff_exists.mp (layAllW_isSome (P:=w.params) (ord:=ord) G0.has args hV.row.args s (pre_splitW hp).1)
 have gr:=layAllW_grows _ _ _ e
 obtain⟨as,rd,ri,ro⟩:=reads_layAllW ho _ _ _ e hl s₁.heap λ_ _ e=>e
 have L:Laid [] w s s₁ args vs as:=⟨⟨ord,ho,e⟩,rd,ri,ro,gr.keeps,gr.alike.1.trans hgens,gr.alike.2.2.1⟩
 have k:=walk w s s₁ _ _ (G0.keeps XL.keeps gr.keeps) (λb o g=>gr.keeps b o (hh▸g)) (hk▸gr.toks) (gr.alike.1.trans hgens) args vs as hp hl L
 have fin:∀{r:Result} {s':Shared},GoodWG hV.row.toRowW.claim (classAt s.heap) (ExcName.means s.heap) args s₁ r s'->hV.row.toRowW.claim.Ends s args vs s₁ r s'/\s'.os=s.os/\AllBare s'.gens:=λg=>g.laid (c:=hV.row.toRowW.claim) rfl rfl (ident_freeW rfl rfl rfl) L
 refine⟨vs,s₁,e,ae (wpAny_nsGet (gr.keeps|>G0.T.g.keeps) ?_)⟩
 rw[hh,show hV.row.name="law" from rfl,FE]
 refine ae (wpAny_mono k (λv s' g=>ah ⟨_,rfl,(fin g).1,(fin g).2.1,(fin g).2.2,λq=>nomatch q⟩) λx s' g=>⟨(fin g).1,(fin g).2.1,(fin g).2.2,λq=>nomatch q⟩)
theorem law_holds:hV.Holds:=NX λw=>DG Dq w
end Mine
theorem PySem.Challenge.cw_ku0041_01_holds : PySem.Challenge.rw_ku0041_01.Holds :=
  Mine.law_holds
