import PyProof.Rows.All
import PyProof.Rows.ListMulArg
import KE.KEqSeq
import KE.KNestM
import Wide.All
import OpenK.AllK
import Wide.FinOn
import PySem.Challenge.RW_bn0002_02
open PySem PySem.W PyProof.Rows PySem.Calls
set_option Elab.async false
set_option maxRecDepth 100000
set_option linter.all false
namespace Mine
def stmtAt (l : List Stmt) (i : Nat) : Stmt := l.getD i (.Pass default)
end Mine
namespace Mine
def clsBody : Stmt → List Stmt
  | .ClassDef _ _ _ b .. => b
  | _ => []
end Mine
namespace Mine
def fnBody : Stmt → List Stmt
  | .FunctionDef _ _ b .. => b
  | _ => []
end Mine
namespace Mine
def fnScope : Stmt → Scope
  | .FunctionDef _ _ _ _ _ _ sc .. => sc
  | _ => default
end Mine
namespace Mine
def fnPar : Stmt → Arguments
  | .FunctionDef _ p .. => p
  | _ => default
end Mine
namespace Mine
abbrev top : List Stmt := PySem.Challenge.pw_bn0002_02.main.body
end Mine
namespace Mine
def s_Cache : Stmt := stmtAt top 31
end Mine
namespace Mine
def s_delitem : Stmt := stmtAt (clsBody s_Cache) 6
end Mine
namespace Mine
structure ClsOK (K : Frag) (C : Addr) : Prop where
  get : plainGet K C default = true
  dict : hasDictIn K C = true
  seta : findIn K (.ref C) "__setattr__" = some (some (.builtin "object.__setattr__"))
  over : plainOver K C = true
  seq : noSeq K C = true
  fdata : findIn K (.ref C) "_Cache__data" = some none
  fsize : findIn K (.ref C) "_Cache__size" = some (some .none)
  fcur : findIn K (.ref C) "_Cache__currsize" = some none
  fmax : findIn K (.ref C) "_Cache__maxsize" = some none
  tcur : takerIn K C "_Cache__currsize" = some none
end Mine
namespace Mine
def FnIs (K : Frag) (f : Addr) (st : Stmt) (dV : Value) : Prop :=
  ∃ oc od osl name qual kV doc pm an cdv ct, K.lookup f = some ⟨oc, od, .func (fnOf name qual (fnPar st) (fnBody st) (fnScope st) dV kV doc pm an cdv ct), osl⟩ ∧ codeIn K cdv qual = true
end Mine
namespace Mine
def s_getitem : Stmt := stmtAt (clsBody s_Cache) 4
end Mine
namespace Mine
def s_contains : Stmt := stmtAt (clsBody s_Cache) 7
end Mine
namespace Mine
def s_iter : Stmt := stmtAt (clsBody s_Cache) 9
end Mine
namespace Mine
def s_len : Stmt := stmtAt (clsBody s_Cache) 10
end Mine
namespace Mine
def DefT (K : Frag) (T : Addr) (items : List Value) : Prop := K.lookup T = some ⟨.type "tuple", none, .seq items.toArray 0, #[]⟩
end Mine
namespace Mine
structure SlotIs (K : Frag) (C : Addr) (name : Str) (p : Addr) (i : Nat) : Prop where
  find : findIn K (.ref C) name = some (some (.ref p))
  spec : specialIn K (.ref p) "__get__" = some (some (.builtin "member_descriptor.__get__"))
  takes : takesIn K (.ref p) = some true
  slot : slotIn K p C = some i
  taker : takerIn K C name = some (some (.ref p))
  typ : typeIn K (.ref p) = some (.type "member_descriptor")
  lt : i < 1000
end Mine
namespace Mine
structure SmIs (K : Frag) (C : Addr) (name : Str) (p f : Addr) : Prop where
  find : findIn K (.ref C) name = some (some (.ref p))
  spec : specialIn K (.ref p) "__get__" = some (some (.builtin "staticmethod.__get__"))
  takes : takesIn K (.ref p) = some false
  rec_ : ∃ rest, recIn K p "staticmethod" = some (.ref f :: rest)
  cop : copiedNames.contains name = false
end Mine
namespace Mine
def CodeK (K : Frag) (c P : Addr) : Prop := ∃ o vs file tf flags tg inF text tt, K.lookup c = some o ∧ o.cls = .type "code" ∧ o.data = .fields vs ∧ vs[11]? = some (.ref P) ∧ vs.getD 11 .none = .ref P ∧ vs.getD 18 .none = .str file tf ∧
    vs.getD 7 .none = .int flags tg ∧ vs.getD 9 .none = .bool inF ∧ vs.getD 10 .none = .int text tt ∧ c ≠ P
end Mine
namespace Mine
def s_setitem : Stmt := stmtAt (clsBody s_Cache) 5
end Mine
namespace Mine
namespace L2
def s_least : Stmt := stmtAt top 37
end L2
end Mine
namespace Mine
def s_init : Stmt := stmtAt (clsBody s_Cache) 2
end Mine
namespace Mine
structure GsOK (K : Frag) (C : Addr) where
  p : Addr
  f : Addr
  sm : SmIs K C "getsizeof" p f
  gCache : Addr
  hCache : nsIn K mainGlobals "Cache" = some (some (.ref gCache))
  ncg : ∃ mc, readsIn K gCache mc = true ∧ findCls K (.ref gCache) mc "getsizeof" = some (.get (.builtin "staticmethod.__get__") (.ref p) .none (.ref gCache))
  tdata : takerIn K C "_Cache__data" = some none
  tsize : takerIn K C "_Cache__size" = some none
  tmax : takerIn K C "_Cache__maxsize" = some none
  tgs : takerIn K C "getsizeof" = some none
end Mine
namespace Mine
def s_setdefault : Stmt := stmtAt (clsBody s_Cache) 13
end Mine
namespace Mine
structure KA (K : Frag) (C : Addr) where
  con : Addr
  hcon : FnIs K con s_contains .none
  ncon : findIn K (.ref C) "__contains__" = some (some (.ref con))
  icon : isFn K (.ref con) = true
  len : Addr
  hlen : FnIs K len s_len .none
  nlen : findIn K (.ref C) "__len__" = some (some (.ref len))
  ilen : isFn K (.ref len) = true
  blen : nsIn K mainGlobals "len" = some none
  get : Addr
  nget : findIn K (.ref C) "__getitem__" = some (some (.ref get))
  iget : isFn K (.ref get) = true
  fget : fnIn K get = true
  set : Addr
  nset : findIn K (.ref C) "__setitem__" = some (some (.ref set))
  iset : isFn K (.ref set) = true
  sd : Addr
  tsd : Addr
  htsd : DefT K tsd [.none]
  hsd : FnIs K sd s_setdefault (.ref tsd)
  nsd : findIn K (.ref C) "setdefault" = some (some (.ref sd))
  isd : isFn K (.ref sd) = true
  ksd : keepIn K (.ref sd) = true
end Mine
namespace Mine
namespace Lfu
def s_cls : Stmt := stmtAt top 33
end Lfu
end Mine
namespace Mine
namespace Lfu
def s_link : Stmt := stmtAt (clsBody s_cls) 0
end Lfu
end Mine
namespace Mine
namespace Lfu
def s_linit : Stmt := stmtAt (clsBody s_link) 1
end Lfu
end Mine
namespace Mine
namespace Lfu
def s_unl : Stmt := stmtAt (clsBody s_link) 2
end Lfu
end Mine
namespace Mine
namespace Lfu
def s_get : Stmt := stmtAt (clsBody s_cls) 2
end Lfu
end Mine
namespace Mine
namespace Lfu
def s_set : Stmt := stmtAt (clsBody s_cls) 3
end Lfu
end Mine
namespace Mine
namespace Lfu
def s_del : Stmt := stmtAt (clsBody s_cls) 4
end Lfu
end Mine
namespace Mine
namespace Lfu
def s_pop : Stmt := stmtAt (clsBody s_cls) 5
end Lfu
end Mine
namespace Mine
namespace Lfu
def s_tch : Stmt := stmtAt (clsBody s_cls) 7
end Lfu
end Mine
namespace Mine
namespace Lfu
structure LF (K : Frag) (L : Addr) where
  get : plainGet K L default = true
  cls : isClsIn K L = true
  seta : findIn K (.ref L) "__setattr__" = some (some (.builtin "object.__setattr__"))
  over : plainOver K L = true
  makes : makesIn K L = true
  kL : keepIn K (.ref L) = true
  pc : Addr
  pk : Addr
  pn : Addr
  pp : Addr
  sc : SlotIs K L "count" pc 0
  sk : SlotIs K L "keys" pk 1
  sn : SlotIs K L "next" pn 2
  sp : SlotIs K L "prev" pp 3
  init : Addr
  hinit : FnIs K init s_linit .none
  ninit : findIn K (.ref L) "__init__" = some (some (.ref init))
  iinit : isFn K (.ref init) = true
  unl : Addr
  hunl : FnIs K unl s_unl .none
  nunl : findIn K (.ref L) "unlink" = some (some (.ref unl))
  iunl : isFn K (.ref unl) = true
  kunl : keepIn K (.ref unl) = true
end Lfu
end Mine
namespace Mine
namespace Lfu
structure KF (K : Frag) (C : Addr) where
  ok : ClsOK K C
  L : Addr
  lf : LF K L
  frt : findIn K (.ref C) "_LFUCache__root" = some none
  flk : findIn K (.ref C) "_LFUCache__links" = some none
  hlen : nsIn K mainGlobals "len" = some none
  hnext : nsIn K mainGlobals "next" = some none
  hiter : nsIn K mainGlobals "iter" = some none
  gLFU : Addr
  hLFU : nsIn K mainGlobals "LFUCache" = some (some (.ref gLFU))
  nLink : ∃ mc, specialIn K (.ref gLFU) "__getattribute__" = some (some (.builtin "type.__getattribute__")) ∧ readsIn K gLFU mc = true ∧ findCls K (.ref gLFU) mc "_Link" = some (.val (.ref L))
  gCache : Addr
  hCache : nsIn K mainGlobals "Cache" = some (some (.ref gCache))
  cget : Addr
  hcget : FnIs K cget s_getitem .none
  kcget : keepIn K (.ref cget) = true
  ncget : ∃ mc, specialIn K (.ref gCache) "__getattribute__" = some (some (.builtin "type.__getattribute__")) ∧ readsIn K gCache mc = true ∧ findCls K (.ref gCache) mc "__getitem__" = some (.val (.ref cget))
  tget : Addr
  htget : DefT K tget [.ref cget]
  get : Addr
  hget : FnIs K get s_get (.ref tget)
  nget : findIn K (.ref C) "__getitem__" = some (some (.ref get))
  iget : isFn K (.ref get) = true
  fget : fnIn K get = true
  cset : Addr
  hcset : FnIs K cset s_setitem .none
  kcset : keepIn K (.ref cset) = true
  tset : Addr
  htset : DefT K tset [.ref cset]
  set : Addr
  hset : FnIs K set s_set (.ref tset)
  nset : findIn K (.ref C) "__setitem__" = some (some (.ref set))
  iset : isFn K (.ref set) = true
  cdel : Addr
  hcdel : FnIs K cdel s_delitem .none
  kcdel : keepIn K (.ref cdel) = true
  tdel : Addr
  htdel : DefT K tdel [.ref cdel]
  del : Addr
  hdel : FnIs K del s_del (.ref tdel)
  ndel : findIn K (.ref C) "__delitem__" = some (some (.ref del))
  idel : isFn K (.ref del) = true
  pop : Addr
  hpop : FnIs K pop s_pop .none
  npop : findIn K (.ref C) "popitem" = some (some (.ref pop))
  ipop : isFn K (.ref pop) = true
  kpop : keepIn K (.ref pop) = true
  tch : Addr
  htch : FnIs K tch s_tch .none
  ntch : findIn K (.ref C) "_LFUCache__touch" = some (some (.ref tch))
  itch : isFn K (.ref tch) = true
  ktch : keepIn K (.ref tch) = true
end Lfu
end Mine
namespace Mine
namespace Lfu
def s_finit : Stmt := stmtAt (clsBody s_cls) 1
end Lfu
end Mine
namespace Mine
namespace Lfu
structure KI (K : Frag) (C L : Addr) where
  gs : GsOK K C
  spC : specialIn K (.ref gs.gCache) "__getattribute__" = some (some (.builtin "type.__getattribute__"))
  cinit : Addr
  ncinit : ∃ mc, readsIn K gs.gCache mc = true ∧ findCls K (.ref gs.gCache) mc "__init__" = some (.val (.ref cinit))
  kcinit : keepIn K (.ref cinit) = true
  tcinit : Addr
  htcinit : DefT K tcinit [.none]
  hcinit : FnIs K cinit s_init (.ref tcinit)
  gLFU : Addr
  hLFU : nsIn K mainGlobals "LFUCache" = some (some (.ref gLFU))
  nLink : ∃ mc, specialIn K (.ref gLFU) "__getattribute__" = some (some (.builtin "type.__getattribute__")) ∧ readsIn K gLFU mc = true ∧ findCls K (.ref gLFU) mc "_Link" = some (.val (.ref L))
  lf : LF K L
  trt : takerIn K C "_LFUCache__root" = some none
  tlk : takerIn K C "_LFUCache__links" = some none
  tinit : Addr
  htinit : DefT K tinit [.none]
  init : Addr
  hinit : FnIs K init s_finit (.ref tinit)
  ninit : findIn K (.ref C) "__init__" = some (some (.ref init))
  iinit : isFn K (.ref init) = true
  makes : makesIn K C = true
end Lfu
end Mine
namespace Mine
namespace L2
def s_run : Stmt := stmtAt top 38
end L2
end Mine
namespace Mine
namespace CacheC
def s_pop : Stmt := stmtAt (clsBody (stmtAt top 28)) 5
end CacheC
end Mine
namespace Mine
namespace CacheC
structure KF (K : Frag) (C : Addr) where
  ok : ClsOK K C
  hnext : nsIn K mainGlobals "next" = some none
  hiter : nsIn K mainGlobals "iter" = some none
  iter : Addr
  fiter : FnIs K iter s_iter .none
  niter : findIn K (.ref C) "__iter__" = some (some (.ref iter))
  iiter : isFn K (.ref iter) = true
  get : Addr
  hget : FnIs K get s_getitem .none
  nget : findIn K (.ref C) "__getitem__" = some (some (.ref get))
  iget : isFn K (.ref get) = true
  fget : fnIn K get = true
  del : Addr
  hdel : FnIs K del s_delitem .none
  ndel : findIn K (.ref C) "__delitem__" = some (some (.ref del))
  idel : isFn K (.ref del) = true
  pop : Addr
  hpop : FnIs K pop s_pop .none
  npop : findIn K (.ref C) "popitem" = some (some (.ref pop))
  ipop : isFn K (.ref pop) = true
  kpop : keepIn K (.ref pop) = true
end CacheC
end Mine
namespace Mine
namespace CacheC
structure KI (K : Frag) (C : Addr) where
  gs : GsOK K C
  cinit : Addr
  tcinit : Addr
  htcinit : DefT K tcinit [.none]
  hcinit : FnIs K cinit s_init (.ref tcinit)
  ninit : findIn K (.ref C) "__init__" = some (some (.ref cinit))
  iinit : isFn K (.ref cinit) = true
  makes : makesIn K C = true
end CacheC
end Mine
namespace Mine
namespace Fifo
def s_cls : Stmt := stmtAt top 32
end Fifo
end Mine
namespace Mine
namespace Fifo
def s_set : Stmt := stmtAt (clsBody s_cls) 1
end Fifo
end Mine
namespace Mine
namespace Fifo
def s_del : Stmt := stmtAt (clsBody s_cls) 2
end Fifo
end Mine
namespace Mine
namespace Fifo
def s_pop : Stmt := stmtAt (clsBody s_cls) 3
end Fifo
end Mine
namespace Mine
namespace Fifo
abbrev oname : Str := "_FIFOCache__order"
end Fifo
end Mine
namespace Mine
namespace Fifo
structure KF (K : Frag) (C : Addr) where
  ok : ClsOK K C
  ford : findIn K (.ref C) oname = some none
  cdel : Addr
  hcdel : FnIs K cdel s_delitem .none
  kcdel : keepIn K (.ref cdel) = true
  tdel : Addr
  htdel : DefT K tdel [.ref cdel]
  del : Addr
  hdel : FnIs K del s_del (.ref tdel)
  ndel : findIn K (.ref C) "__delitem__" = some (some (.ref del))
  idel : isFn K (.ref del) = true
  hnext : nsIn K mainGlobals "next" = some none
  hiter : nsIn K mainGlobals "iter" = some none
  gCache : Addr
  hCache : nsIn K mainGlobals "Cache" = some (some (.ref gCache))
  cget : Addr
  hcget : FnIs K cget s_getitem .none
  kcget : keepIn K (.ref cget) = true
  ncget : ∃ mc, specialIn K (.ref gCache) "__getattribute__" = some (some (.builtin "type.__getattribute__")) ∧ readsIn K gCache mc = true ∧ findCls K (.ref gCache) mc "__getitem__" = some (.val (.ref cget))
  pop : Addr
  hpop : FnIs K pop s_pop .none
  npop : findIn K (.ref C) "popitem" = some (some (.ref pop))
  ipop : isFn K (.ref pop) = true
  kpop : keepIn K (.ref pop) = true
  cset : Addr
  hcset : FnIs K cset s_setitem .none
  kcset : keepIn K (.ref cset) = true
  tset : Addr
  htset : DefT K tset [.ref cset]
  set : Addr
  hset : FnIs K set s_set (.ref tset)
  nset : findIn K (.ref C) "__setitem__" = some (some (.ref set))
  iset : isFn K (.ref set) = true
end Fifo
end Mine
namespace Mine
namespace Fifo
def s_oinit : Stmt := stmtAt (clsBody s_cls) 0
end Fifo
end Mine
namespace Mine
namespace Fifo
structure KI (K : Frag) (C : Addr) where
  gs : GsOK K C
  spC : specialIn K (.ref gs.gCache) "__getattribute__" = some (some (.builtin "type.__getattribute__"))
  cinit : Addr
  ncinit : ∃ mc, readsIn K gs.gCache mc = true ∧ findCls K (.ref gs.gCache) mc "__init__" = some (.val (.ref cinit))
  kcinit : keepIn K (.ref cinit) = true
  tcinit : Addr
  htcinit : DefT K tcinit [.none]
  hcinit : FnIs K cinit s_init (.ref tcinit)
  tord : takerIn K C oname = some none
  tinit : Addr
  htinit : DefT K tinit [.none]
  init : Addr
  hinit : FnIs K init s_oinit (.ref tinit)
  ninit : findIn K (.ref C) "__init__" = some (some (.ref init))
  iinit : isFn K (.ref init) = true
  makes : makesIn K C = true
end Fifo
end Mine
namespace Mine
namespace Lru
def s_cls : Stmt := stmtAt top 34
end Lru
end Mine
namespace Mine
namespace Lru
def s_set : Stmt := stmtAt (clsBody s_cls) 2
end Lru
end Mine
namespace Mine
namespace Lru
def s_del : Stmt := stmtAt (clsBody s_cls) 3
end Lru
end Mine
namespace Mine
namespace Lru
def s_pop : Stmt := stmtAt (clsBody s_cls) 4
end Lru
end Mine
namespace Mine
namespace Lru
def s_tch : Stmt := stmtAt (clsBody s_cls) 6
end Lru
end Mine
namespace Mine
namespace Lru
def s_get : Stmt := stmtAt (clsBody s_cls) 1
end Lru
end Mine
namespace Mine
namespace Lru
abbrev oname : Str := "_LRUCache__order"
end Lru
end Mine
namespace Mine
namespace Lru
structure KF (K : Frag) (C : Addr) where
  ok : ClsOK K C
  ford : findIn K (.ref C) oname = some none
  cdel : Addr
  hcdel : FnIs K cdel s_delitem .none
  kcdel : keepIn K (.ref cdel) = true
  tdel : Addr
  htdel : DefT K tdel [.ref cdel]
  del : Addr
  hdel : FnIs K del s_del (.ref tdel)
  ndel : findIn K (.ref C) "__delitem__" = some (some (.ref del))
  idel : isFn K (.ref del) = true
  hnext : nsIn K mainGlobals "next" = some none
  hiter : nsIn K mainGlobals "iter" = some none
  gCache : Addr
  hCache : nsIn K mainGlobals "Cache" = some (some (.ref gCache))
  cget : Addr
  hcget : FnIs K cget s_getitem .none
  kcget : keepIn K (.ref cget) = true
  ncget : ∃ mc, specialIn K (.ref gCache) "__getattribute__" = some (some (.builtin "type.__getattribute__")) ∧ readsIn K gCache mc = true ∧ findCls K (.ref gCache) mc "__getitem__" = some (.val (.ref cget))
  pop : Addr
  hpop : FnIs K pop s_pop .none
  npop : findIn K (.ref C) "popitem" = some (some (.ref pop))
  ipop : isFn K (.ref pop) = true
  kpop : keepIn K (.ref pop) = true
  cset : Addr
  hcset : FnIs K cset s_setitem .none
  kcset : keepIn K (.ref cset) = true
  tset : Addr
  htset : DefT K tset [.ref cset]
  set : Addr
  hset : FnIs K set s_set (.ref tset)
  nset : findIn K (.ref C) "__setitem__" = some (some (.ref set))
  iset : isFn K (.ref set) = true
  tch : Addr
  htch : FnIs K tch s_tch .none
  ntch : findIn K (.ref C) "_LRUCache__touch" = some (some (.ref tch))
  itch : isFn K (.ref tch) = true
  ktch : keepIn K (.ref tch) = true
  hKey : nsIn K mainGlobals "KeyError" = some none
  tget : Addr
  htget : DefT K tget [.ref cget]
  get : Addr
  hget : FnIs K get s_get (.ref tget)
  nget : findIn K (.ref C) "__getitem__" = some (some (.ref get))
  iget : isFn K (.ref get) = true
  fget : fnIn K get = true
end Lru
end Mine
namespace Mine
namespace Lru
def s_oinit : Stmt := stmtAt (clsBody s_cls) 0
end Lru
end Mine
namespace Mine
namespace Lru
structure KI (K : Frag) (C : Addr) where
  gs : GsOK K C
  spC : specialIn K (.ref gs.gCache) "__getattribute__" = some (some (.builtin "type.__getattribute__"))
  cinit : Addr
  ncinit : ∃ mc, readsIn K gs.gCache mc = true ∧ findCls K (.ref gs.gCache) mc "__init__" = some (.val (.ref cinit))
  kcinit : keepIn K (.ref cinit) = true
  tcinit : Addr
  htcinit : DefT K tcinit [.none]
  hcinit : FnIs K cinit s_init (.ref tcinit)
  tord : takerIn K C oname = some none
  tinit : Addr
  htinit : DefT K tinit [.none]
  init : Addr
  hinit : FnIs K init s_oinit (.ref tinit)
  ninit : findIn K (.ref C) "__init__" = some (some (.ref init))
  iinit : isFn K (.ref init) = true
  makes : makesIn K C = true
end Lru
end Mine
namespace Mine
namespace Rr
def s_cls : Stmt := stmtAt top 35
end Rr
end Mine
namespace Mine
namespace Rr
def s_set : Stmt := stmtAt (clsBody s_cls) 2
end Rr
end Mine
namespace Mine
namespace Rr
def s_del : Stmt := stmtAt (clsBody s_cls) 3
end Rr
end Mine
namespace Mine
namespace Rr
def s_pop : Stmt := stmtAt (clsBody s_cls) 4
end Rr
end Mine
namespace Mine
namespace Rr
structure KF (K : Frag) (C : Addr) where
  ok : ClsOK K C
  fix : findIn K (.ref C) "_RRCache__index" = some none
  fks : findIn K (.ref C) "_RRCache__keys" = some none
  fch : findIn K (.ref C) "_RRCache__choice" = some none
  cdel : Addr
  hcdel : FnIs K cdel s_delitem .none
  kcdel : keepIn K (.ref cdel) = true
  tdel : Addr
  htdel : DefT K tdel [.ref cdel]
  del : Addr
  hdel : FnIs K del s_del (.ref tdel)
  ndel : findIn K (.ref C) "__delitem__" = some (some (.ref del))
  idel : isFn K (.ref del) = true
  hlen : nsIn K mainGlobals "len" = some none
  gCache : Addr
  hCache : nsIn K mainGlobals "Cache" = some (some (.ref gCache))
  cget : Addr
  hcget : FnIs K cget s_getitem .none
  kcget : keepIn K (.ref cget) = true
  ncget : ∃ mc, specialIn K (.ref gCache) "__getattribute__" = some (some (.builtin "type.__getattribute__")) ∧ readsIn K gCache mc = true ∧ findCls K (.ref gCache) mc "__getitem__" = some (.val (.ref cget))
  pop : Addr
  hpop : FnIs K pop s_pop .none
  npop : findIn K (.ref C) "popitem" = some (some (.ref pop))
  ipop : isFn K (.ref pop) = true
  kpop : keepIn K (.ref pop) = true
  cset : Addr
  hcset : FnIs K cset s_setitem .none
  kcset : keepIn K (.ref cset) = true
  tset : Addr
  htset : DefT K tset [.ref cset]
  set : Addr
  hset : FnIs K set s_set (.ref tset)
  nset : findIn K (.ref C) "__setitem__" = some (some (.ref set))
  iset : isFn K (.ref set) = true
end Rr
end Mine
namespace Mine
namespace Rr
def s_rinit : Stmt := stmtAt (clsBody s_cls) 0
end Rr
end Mine
namespace Mine
namespace Rr
structure KI (K : Frag) (C : Addr) where
  gs : GsOK K C
  spC : specialIn K (.ref gs.gCache) "__getattribute__" = some (some (.builtin "type.__getattribute__"))
  cinit : Addr
  ncinit : ∃ mc, readsIn K gs.gCache mc = true ∧ findCls K (.ref gs.gCache) mc "__init__" = some (.val (.ref cinit))
  kcinit : keepIn K (.ref cinit) = true
  tcinit : Addr
  htcinit : DefT K tcinit [.none]
  hcinit : FnIs K cinit s_init (.ref tcinit)
  tix : takerIn K C "_RRCache__index" = some none
  tks : takerIn K C "_RRCache__keys" = some none
  tch : takerIn K C "_RRCache__choice" = some none
  tinit : Addr
  htinit : DefT K tinit [.none, .none]
  init : Addr
  hinit : FnIs K init s_rinit (.ref tinit)
  ninit : findIn K (.ref C) "__init__" = some (some (.ref init))
  iinit : isFn K (.ref init) = true
  makes : makesIn K C = true
end Rr
end Mine
namespace Mine
namespace L2
def s_law : Stmt := stmtAt top 39
end L2
end Mine
namespace Mine
namespace L2
structure RunF (K : Frag) where
  run : Addr
  hrun : FnIs K run s_run .none
  nrun : nsIn K mainGlobals "_law_run" = some (some (.ref run))
  krun : keepIn K (.ref run) = true
  hE : nsIn K mainGlobals "enumerate" = some none
  hL : nsIn K mainGlobals "len" = some none
  hM : nsIn K mainGlobals "min" = some none
  hV : nsIn K mainGlobals "ValueError" = some none
end L2
end Mine
namespace Mine
namespace L2
structure ClsF (K : Frag) (x : Str) where
  C : Addr
  nC : nsIn K mainGlobals x = some (some (.ref C))
  kC : keepIn K (.ref C) = true
  ok : ClsOK K C
  ka : KA K C
end L2
end Mine
namespace Mine
namespace L2
structure LawF (K : Frag) (c P : Addr) where
  R : RunF K
  least : Addr
  hleast : FnIs K least s_least .none
  nleast : nsIn K mainGlobals "_law_least" = some (some (.ref least))
  kleast : keepIn K (.ref least) = true
  hR : nsIn K mainGlobals "range" = some none
  hX : nsIn K mainGlobals "max" = some none
  hS : nsIn K mainGlobals "sorted" = some none
  hSet : nsIn K mainGlobals "set" = some none
  ca : ClsF K "Cache"
  caf : CacheC.KF K ca.C
  cai : CacheC.KI K ca.C
  cas : FnIs K ca.ka.set s_setitem .none
  cag : FnIs K ca.ka.get s_getitem .none
  fi : ClsF K "FIFOCache"
  fif : Fifo.KF K fi.C
  fii : Fifo.KI K fi.C
  fis : fi.ka.set = fif.set
  fig : FnIs K fi.ka.get s_getitem .none
  lr : ClsF K "LRUCache"
  lrf : Lru.KF K lr.C
  lri : Lru.KI K lr.C
  lrs : lr.ka.set = lrf.set
  lrg : lr.ka.get = lrf.get
  lf : ClsF K "LFUCache"
  lff : Lfu.KF K lf.C
  lfL : Addr
  lfi : Lfu.KI K lf.C lfL
  lfe : lfL = lff.L
  lfs : lf.ka.set = lff.set
  lfg : lf.ka.get = lff.get
  rr : ClsF K "RRCache"
  rrf : Rr.KF K rr.C
  rri : Rr.KI K rr.C
  rrs : rr.ka.set = rrf.set
  rrg : FnIs K rr.ka.get s_getitem .none
  C : CodeK K c P
end L2
end Mine
namespace Mine
namespace L2
def lawRec (pos : Pos) : DefRec := { pos := pos, name := "law", params := fnPar s_law, body := fnBody s_law, scope := fnScope s_law }
end L2
end Mine
namespace Mine
def nA (K : Frag) (x : Str) : Addr := match nsIn K mainGlobals x with
  | some (some (.ref a)) => a
  | _ => 0
def fA (K : Frag) (C : Addr) (x : Str) : Addr := match findIn K (.ref C) x with
  | some (some (.ref a)) => a
  | _ => 0
def dA (K : Frag) (f : Addr) : Addr := match K.lookup f with
  | some ⟨_, _, .func fd, _⟩ => (match fd.defaults with
    | .ref a => a
    | _ => 0)
  | _ => 0
def rA (K : Frag) (p : Addr) (T : String) : Addr := match recIn K p T with
  | some (.ref a :: _) => a
  | _ => 0
def vA (K : Frag) (c mc : Value) (x : Str) : Addr := match findCls K c mc x with
  | some (.val (.ref a)) => a
  | _ => 0
def tA (K : Frag) (x : Str) : Addr := match tabIn K x with
  | some (c, _) => c
  | none => 0
def mcA (K : Frag) (C : Addr) : Value := (typeIn K (.ref C)).getD .none
def fnMk (o : Option Obj) (st : Stmt) (dV : Value) : Option Obj := match o with
  | some ⟨oc, od, .func fd, osl⟩ => some ⟨oc, od, .func (fnOf fd.name fd.qualname (fnPar st) (fnBody st) (fnScope st) dV fd.kwdefaults fd.doc fd.pyModule fd.annotations fd.code fd.closureTuple), osl⟩
  | _ => none
def fnCode (K : Frag) (f : Addr) : Bool := match K.lookup f with
  | some ⟨_, _, .func fd, _⟩ => codeIn K fd.code fd.qualname
  | _ => false
theorem fnIs_of {K : Frag} {f : Addr} {st : Stmt} {dV : Value} (h : K.lookup f = fnMk (K.lookup f) st dV) (hs : fnCode K f = true) : FnIs K f st dV := by
  unfold fnCode at hs
  unfold fnMk at h
  split at hs
  · next oc od fd osl e =>
    rw [e] at h
    simp only at h
    exact ⟨oc, od, osl, fd.name, fd.qualname, fd.kwdefaults, fd.doc, fd.pyModule, fd.annotations, fd.code, fd.closureTuple, e.trans h, hs⟩
  · cases hs
theorem defT_of {K : Frag} {T : Addr} {items : List Value} (h : K.lookup T = some ⟨.type "tuple", none, .seq items.toArray 0, #[]⟩) : DefT K T items := h
theorem rec_some {K : Frag} {p : Addr} {T : String} {f : Addr} (h : (recIn K p T).bind List.head? = some (.ref f)) : ∃ rest, recIn K p T = some (.ref f :: rest) := by
  obtain ⟨l, h1, h2⟩ := Option.bind_eq_some_iff.mp h
  cases l with
  | nil => cases h2
  | cons a r => cases h2; exact ⟨r, h1⟩
theorem codeK_of {K : Frag} {c P : Addr} (e : codeHdIn K c P = true) : CodeK K c P := by
  unfold codeHdIn at e
  split at e
  · rename_i vs _ hk
    simp only [Bool.and_eq_true] at e
    obtain ⟨⟨⟨⟨⟨e1, e2⟩, e3⟩, e4⟩, e5⟩, e6⟩ := e
    have hne : c ≠ P := fun q => by rw [q] at e6; simp at e6
    split at e1
    · rename_i P' h11
      have hP : P' = P := beq_iff_eq.mp e1
      subst hP
      split at e2
      · rename_i f tf h18
        split at e3
        · rename_i fl tg h7
          split at e4
          · rename_i inF h9
            split at e5
            · rename_i text tt h10
              exact ⟨_, vs, _, tf, _, tg, _, _, tt, hk, rfl, rfl, h11, by rw [Array.getD_eq_getD_getElem?, h11]; rfl, h18, h7, h9, h10, hne⟩
            · cases e5
          · cases e4
        · cases e3
      · cases e2
    · cases e1
  · cases e
end Mine
set_option Elab.async true
namespace Mine.main
theorem tw3553300763958353100 : True := trivial
theorem tw11156056980113079860 : True := trivial
theorem tw4582641712150720113 : True := trivial
theorem tw825611279285605398 : True := trivial
theorem tw9105743323606979411 : True := trivial
theorem tw3314131332633154510 : True := trivial
theorem tw15863065774898434997 : True := trivial
theorem tw14305023611347854480 : True := trivial
theorem tw17302425476203081812 : True := trivial
theorem tw15843245209704562525 : True := trivial
theorem tw14776748852735157564 : True := trivial
theorem tw13559363866503035693 : True := trivial
theorem tw13396092740222392774 : True := trivial
theorem tw12137391653176920820 : True := trivial
theorem tw18295561433210019207 : True := trivial
theorem tw11506668428645363515 : True := trivial
theorem tw15432592513211302459 : True := trivial
theorem tw13153466841688482472 : True := trivial
theorem tw7007284311267564645 : True := trivial
theorem tw3900107804500853625 : True := trivial
theorem tw7811144011851296760 : True := trivial
theorem tw8304328147754111899 : True := trivial
theorem tw2320497583399753992 : True := trivial
theorem tw14982579698679351253 : True := trivial
theorem tw6904022412929994966 : True := trivial
theorem tw2811094554100989583 : True := trivial
theorem tw16091866709009572006 : True := trivial
theorem tw7985790651053783317 : True := trivial
theorem tw16580183324542798414 : True := trivial
theorem tw18132893181854203810 : True := trivial
theorem tw7875268049579856134 : True := trivial
theorem tw13301926697755358949 : True := trivial
theorem tw17697370422807170709 : True := trivial
theorem tw10296785453289850147 : True := trivial
theorem tw15988946474640857114 : True := trivial
theorem tw11462351995206929653 : True := trivial
theorem tw12706235939375600548 : True := trivial
theorem tw11712632873364511504 : True := trivial
theorem tw14767149669486623155 : True := trivial
theorem tw6182647237594997249 : True := trivial
theorem tw10405624014971126137 : True := trivial
theorem tw6788254664138330361 : True := trivial
theorem tw11559906213219033761 : True := trivial
theorem tw17872656645039022641 : True := trivial
theorem tw8818892033594219708 : True := trivial
theorem tw11536415461529073906 : True := trivial
theorem tw1304016184895156253 : True := trivial
theorem tw14274741233649588404 : True := trivial
theorem tw9707813464162916624 : True := trivial
theorem tw13355165232487703845 : True := trivial
theorem tw11923636760156586114 : True := trivial
theorem tw1178535807372418383 : True := trivial
theorem tw16306145312421614222 : True := trivial
theorem tw12777676834685475481 : True := trivial
theorem tw17810739071172958242 : True := trivial
theorem tw9569583350447587024 : True := trivial
theorem tw8356715770997125795 : True := trivial
theorem tw13617409001983005093 : True := trivial
theorem tw12352802938527491650 : True := trivial
theorem tw2167601570988920834 : True := trivial
theorem tw1960289774895256191 : True := trivial
end Mine.main
section
local macro_rules | `(tactic| refine $f:ident ($n:ident := $v) $args*) => `(tactic| (revert $(Lean.mkIdent `walk):ident; intro $(Lean.mkIdent `walk):ident; refine ($f ($n := $v) $args*)))
set_option maxHeartbeats 0 in
theorem Mine.main (walk : ∀ {q : Program} {loose : List Str} {XP : (Str → Option Value) → Heap → Prop} {K : Params → Frag} {as : List Addr} {e : ∀ P, as = (K P).map (·.1)} {c P : Addr} {pos : Pos}, (∀ p, Mine.L2.LawF (K p) c P) → (∀ p, noTabs (K p) = true) → (P == sysModules) = false → (∀ p, codeHdIn (K p) c P = true) → (∀ p, tabIn (K p) "law" = some (c, P)) →
    WalkO q loose XP (kmHook K as e [P]).says PySem.Challenge.rw_bn0002_02.row.toRowW (Mine.L2.lawRec pos) [] (fun f vs => PySem.call f vs)) : PySem.Challenge.rw_bn0002_02.Holds := by
  (w_on; o_law; k_head; (case hw => w_witness2))
  exact walk (c := 1120) (P := 1118) (fun p => { R := { run := (Mine.nA (Mine.main.heap_1_39 p) "_law_run"), hrun := (Mine.fnIs_of (by kernel_rfl) (by kernel_rfl)), nrun := (by kernel_rfl), krun := (by kernel_rfl), hE := (by kernel_rfl), hL := (by kernel_rfl), hM := (by kernel_rfl), hV := (by kernel_rfl) }, least := (Mine.nA (Mine.main.heap_1_39 p) "_law_least"), hleast := (Mine.fnIs_of (by kernel_rfl) (by kernel_rfl)), nleast := (by kernel_rfl), kleast := (by kernel_rfl), hR := (by kernel_rfl), hX := (by kernel_rfl), hS := (by kernel_rfl), hSet := (by kernel_rfl), ca := { C := (Mine.nA (Mine.main.heap_1_39 p) "Cache"), nC := (by kernel_rfl), kC := (by kernel_rfl), ok := { get := (by kernel_rfl), dict := (by kernel_rfl), seta := (by kernel_rfl), over := (by kernel_rfl), seq := (by kernel_rfl), fdata := (by kernel_rfl), fsize := (by kernel_rfl), fcur := (by kernel_rfl), fmax := (by kernel_rfl), tcur := (by kernel_rfl) }, ka := { con := (Mine.fA (Mine.main.heap_1_39 p) (Mine.nA (Mine.main.heap_1_39 p) "Cache") "__contains__"), hcon := (Mine.fnIs_of (by kernel_rfl) (by kernel_rfl)), ncon := (by kernel_rfl), icon := (by kernel_rfl), len := (Mine.fA (Mine.main.heap_1_39 p) (Mine.nA (Mine.main.heap_1_39 p) "Cache") "__len__"), hlen := (Mine.fnIs_of (by kernel_rfl) (by kernel_rfl)), nlen := (by kernel_rfl), ilen := (by kernel_rfl), blen := (by kernel_rfl), get := (Mine.fA (Mine.main.heap_1_39 p) (Mine.nA (Mine.main.heap_1_39 p) "Cache") "__getitem__"), nget := (by kernel_rfl), iget := (by kernel_rfl), fget := (by kernel_rfl), set := (Mine.fA (Mine.main.heap_1_39 p) (Mine.nA (Mine.main.heap_1_39 p) "Cache") "__setitem__"), nset := (by kernel_rfl), iset := (by kernel_rfl), sd := (Mine.fA (Mine.main.heap_1_39 p) (Mine.nA (Mine.main.heap_1_39 p) "Cache") "setdefault"), tsd := (Mine.dA (Mine.main.heap_1_39 p) (Mine.fA (Mine.main.heap_1_39 p) (Mine.nA (Mine.main.heap_1_39 p) "Cache") "setdefault")), htsd := (Mine.defT_of (by kernel_rfl)), hsd := (Mine.fnIs_of (by kernel_rfl) (by kernel_rfl)), nsd := (by kernel_rfl), isd := (by kernel_rfl), ksd := (by kernel_rfl) } }, caf := { ok := { get := (by kernel_rfl), dict := (by kernel_rfl), seta := (by kernel_rfl), over := (by kernel_rfl), seq := (by kernel_rfl), fdata := (by kernel_rfl), fsize := (by kernel_rfl), fcur := (by kernel_rfl), fmax := (by kernel_rfl), tcur := (by kernel_rfl) }, hnext := (by kernel_rfl), hiter := (by kernel_rfl), iter := (Mine.fA (Mine.main.heap_1_39 p) (Mine.nA (Mine.main.heap_1_39 p) "Cache") "__iter__"), fiter := (Mine.fnIs_of (by kernel_rfl) (by kernel_rfl)), niter := (by kernel_rfl), iiter := (by kernel_rfl), get := (Mine.fA (Mine.main.heap_1_39 p) (Mine.nA (Mine.main.heap_1_39 p) "Cache") "__getitem__"), hget := (Mine.fnIs_of (by kernel_rfl) (by kernel_rfl)), nget := (by kernel_rfl), iget := (by kernel_rfl), fget := (by kernel_rfl), del := (Mine.fA (Mine.main.heap_1_39 p) (Mine.nA (Mine.main.heap_1_39 p) "Cache") "__delitem__"), hdel := (Mine.fnIs_of (by kernel_rfl) (by kernel_rfl)), ndel := (by kernel_rfl), idel := (by kernel_rfl), pop := (Mine.fA (Mine.main.heap_1_39 p) (Mine.nA (Mine.main.heap_1_39 p) "Cache") "popitem"), hpop := (Mine.fnIs_of (by kernel_rfl) (by kernel_rfl)), npop := (by kernel_rfl), ipop := (by kernel_rfl), kpop := (by kernel_rfl) }, cai := { gs := { p := (Mine.fA (Mine.main.heap_1_39 p) (Mine.nA (Mine.main.heap_1_39 p) "Cache") "getsizeof"), f := (Mine.rA (Mine.main.heap_1_39 p) (Mine.fA (Mine.main.heap_1_39 p) (Mine.nA (Mine.main.heap_1_39 p) "Cache") "getsizeof") "staticmethod"), sm := { find := (by kernel_rfl), spec := (by kernel_rfl), takes := (by kernel_rfl), rec_ := (Mine.rec_some (by kernel_rfl)), cop := (by kernel_rfl) }, gCache := (Mine.nA (Mine.main.heap_1_39 p) "Cache"), hCache := (by kernel_rfl), ncg := ⟨(Mine.mcA (Mine.main.heap_1_39 p) (Mine.nA (Mine.main.heap_1_39 p) "Cache")), (by kernel_rfl), (by kernel_rfl)⟩, tdata := (by kernel_rfl), tsize := (by kernel_rfl), tmax := (by kernel_rfl), tgs := (by kernel_rfl) }, cinit := (Mine.fA (Mine.main.heap_1_39 p) (Mine.nA (Mine.main.heap_1_39 p) "Cache") "__init__"), tcinit := (Mine.dA (Mine.main.heap_1_39 p) (Mine.fA (Mine.main.heap_1_39 p) (Mine.nA (Mine.main.heap_1_39 p) "Cache") "__init__")), htcinit := (Mine.defT_of (by kernel_rfl)), hcinit := (Mine.fnIs_of (by kernel_rfl) (by kernel_rfl)), ninit := (by kernel_rfl), iinit := (by kernel_rfl), makes := (by kernel_rfl) }, cas := (Mine.fnIs_of (by kernel_rfl) (by kernel_rfl)), cag := (Mine.fnIs_of (by kernel_rfl) (by kernel_rfl)), fi := { C := (Mine.nA (Mine.main.heap_1_39 p) "FIFOCache"), nC := (by kernel_rfl), kC := (by kernel_rfl), ok := { get := (by kernel_rfl), dict := (by kernel_rfl), seta := (by kernel_rfl), over := (by kernel_rfl), seq := (by kernel_rfl), fdata := (by kernel_rfl), fsize := (by kernel_rfl), fcur := (by kernel_rfl), fmax := (by kernel_rfl), tcur := (by kernel_rfl) }, ka := { con := (Mine.fA (Mine.main.heap_1_39 p) (Mine.nA (Mine.main.heap_1_39 p) "FIFOCache") "__contains__"), hcon := (Mine.fnIs_of (by kernel_rfl) (by kernel_rfl)), ncon := (by kernel_rfl), icon := (by kernel_rfl), len := (Mine.fA (Mine.main.heap_1_39 p) (Mine.nA (Mine.main.heap_1_39 p) "FIFOCache") "__len__"), hlen := (Mine.fnIs_of (by kernel_rfl) (by kernel_rfl)), nlen := (by kernel_rfl), ilen := (by kernel_rfl), blen := (by kernel_rfl), get := (Mine.fA (Mine.main.heap_1_39 p) (Mine.nA (Mine.main.heap_1_39 p) "FIFOCache") "__getitem__"), nget := (by kernel_rfl), iget := (by kernel_rfl), fget := (by kernel_rfl), set := (Mine.fA (Mine.main.heap_1_39 p) (Mine.nA (Mine.main.heap_1_39 p) "FIFOCache") "__setitem__"), nset := (by kernel_rfl), iset := (by kernel_rfl), sd := (Mine.fA (Mine.main.heap_1_39 p) (Mine.nA (Mine.main.heap_1_39 p) "FIFOCache") "setdefault"), tsd := (Mine.dA (Mine.main.heap_1_39 p) (Mine.fA (Mine.main.heap_1_39 p) (Mine.nA (Mine.main.heap_1_39 p) "FIFOCache") "setdefault")), htsd := (Mine.defT_of (by kernel_rfl)), hsd := (Mine.fnIs_of (by kernel_rfl) (by kernel_rfl)), nsd := (by kernel_rfl), isd := (by kernel_rfl), ksd := (by kernel_rfl) } }, fif := { ok := { get := (by kernel_rfl), dict := (by kernel_rfl), seta := (by kernel_rfl), over := (by kernel_rfl), seq := (by kernel_rfl), fdata := (by kernel_rfl), fsize := (by kernel_rfl), fcur := (by kernel_rfl), fmax := (by kernel_rfl), tcur := (by kernel_rfl) }, ford := (by kernel_rfl), cdel := (Mine.fA (Mine.main.heap_1_39 p) (Mine.nA (Mine.main.heap_1_39 p) "Cache") "__delitem__"), hcdel := (Mine.fnIs_of (by kernel_rfl) (by kernel_rfl)), kcdel := (by kernel_rfl), tdel := (Mine.dA (Mine.main.heap_1_39 p) (Mine.fA (Mine.main.heap_1_39 p) (Mine.nA (Mine.main.heap_1_39 p) "FIFOCache") "__delitem__")), htdel := (Mine.defT_of (by kernel_rfl)), del := (Mine.fA (Mine.main.heap_1_39 p) (Mine.nA (Mine.main.heap_1_39 p) "FIFOCache") "__delitem__"), hdel := (Mine.fnIs_of (by kernel_rfl) (by kernel_rfl)), ndel := (by kernel_rfl), idel := (by kernel_rfl), hnext := (by kernel_rfl), hiter := (by kernel_rfl), gCache := (Mine.nA (Mine.main.heap_1_39 p) "Cache"), hCache := (by kernel_rfl), cget := (Mine.fA (Mine.main.heap_1_39 p) (Mine.nA (Mine.main.heap_1_39 p) "Cache") "__getitem__"), hcget := (Mine.fnIs_of (by kernel_rfl) (by kernel_rfl)), kcget := (by kernel_rfl), ncget := ⟨(Mine.mcA (Mine.main.heap_1_39 p) (Mine.nA (Mine.main.heap_1_39 p) "Cache")), (by kernel_rfl), (by kernel_rfl), (by kernel_rfl)⟩, pop := (Mine.fA (Mine.main.heap_1_39 p) (Mine.nA (Mine.main.heap_1_39 p) "FIFOCache") "popitem"), hpop := (Mine.fnIs_of (by kernel_rfl) (by kernel_rfl)), npop := (by kernel_rfl), ipop := (by kernel_rfl), kpop := (by kernel_rfl), cset := (Mine.fA (Mine.main.heap_1_39 p) (Mine.nA (Mine.main.heap_1_39 p) "Cache") "__setitem__"), hcset := (Mine.fnIs_of (by kernel_rfl) (by kernel_rfl)), kcset := (by kernel_rfl), tset := (Mine.dA (Mine.main.heap_1_39 p) (Mine.fA (Mine.main.heap_1_39 p) (Mine.nA (Mine.main.heap_1_39 p) "FIFOCache") "__setitem__")), htset := (Mine.defT_of (by kernel_rfl)), set := (Mine.fA (Mine.main.heap_1_39 p) (Mine.nA (Mine.main.heap_1_39 p) "FIFOCache") "__setitem__"), hset := (Mine.fnIs_of (by kernel_rfl) (by kernel_rfl)), nset := (by kernel_rfl), iset := (by kernel_rfl) }, fii := { gs := { p := (Mine.fA (Mine.main.heap_1_39 p) (Mine.nA (Mine.main.heap_1_39 p) "FIFOCache") "getsizeof"), f := (Mine.rA (Mine.main.heap_1_39 p) (Mine.fA (Mine.main.heap_1_39 p) (Mine.nA (Mine.main.heap_1_39 p) "FIFOCache") "getsizeof") "staticmethod"), sm := { find := (by kernel_rfl), spec := (by kernel_rfl), takes := (by kernel_rfl), rec_ := (Mine.rec_some (by kernel_rfl)), cop := (by kernel_rfl) }, gCache := (Mine.nA (Mine.main.heap_1_39 p) "Cache"), hCache := (by kernel_rfl), ncg := ⟨(Mine.mcA (Mine.main.heap_1_39 p) (Mine.nA (Mine.main.heap_1_39 p) "Cache")), (by kernel_rfl), (by kernel_rfl)⟩, tdata := (by kernel_rfl), tsize := (by kernel_rfl), tmax := (by kernel_rfl), tgs := (by kernel_rfl) }, spC := (by kernel_rfl), cinit := (Mine.fA (Mine.main.heap_1_39 p) (Mine.nA (Mine.main.heap_1_39 p) "Cache") "__init__"), ncinit := ⟨(Mine.mcA (Mine.main.heap_1_39 p) (Mine.nA (Mine.main.heap_1_39 p) "Cache")), (by kernel_rfl), (by kernel_rfl)⟩, kcinit := (by kernel_rfl), tcinit := (Mine.dA (Mine.main.heap_1_39 p) (Mine.fA (Mine.main.heap_1_39 p) (Mine.nA (Mine.main.heap_1_39 p) "Cache") "__init__")), htcinit := (Mine.defT_of (by kernel_rfl)), hcinit := (Mine.fnIs_of (by kernel_rfl) (by kernel_rfl)), tinit := (Mine.dA (Mine.main.heap_1_39 p) (Mine.fA (Mine.main.heap_1_39 p) (Mine.nA (Mine.main.heap_1_39 p) "FIFOCache") "__init__")), htinit := (Mine.defT_of (by kernel_rfl)), init := (Mine.fA (Mine.main.heap_1_39 p) (Mine.nA (Mine.main.heap_1_39 p) "FIFOCache") "__init__"), hinit := (Mine.fnIs_of (by kernel_rfl) (by kernel_rfl)), ninit := (by kernel_rfl), iinit := (by kernel_rfl), makes := (by kernel_rfl), tord := (by kernel_rfl) }, fis := rfl, fig := (Mine.fnIs_of (by kernel_rfl) (by kernel_rfl)), lr := { C := (Mine.nA (Mine.main.heap_1_39 p) "LRUCache"), nC := (by kernel_rfl), kC := (by kernel_rfl), ok := { get := (by kernel_rfl), dict := (by kernel_rfl), seta := (by kernel_rfl), over := (by kernel_rfl), seq := (by kernel_rfl), fdata := (by kernel_rfl), fsize := (by kernel_rfl), fcur := (by kernel_rfl), fmax := (by kernel_rfl), tcur := (by kernel_rfl) }, ka := { con := (Mine.fA (Mine.main.heap_1_39 p) (Mine.nA (Mine.main.heap_1_39 p) "LRUCache") "__contains__"), hcon := (Mine.fnIs_of (by kernel_rfl) (by kernel_rfl)), ncon := (by kernel_rfl), icon := (by kernel_rfl), len := (Mine.fA (Mine.main.heap_1_39 p) (Mine.nA (Mine.main.heap_1_39 p) "LRUCache") "__len__"), hlen := (Mine.fnIs_of (by kernel_rfl) (by kernel_rfl)), nlen := (by kernel_rfl), ilen := (by kernel_rfl), blen := (by kernel_rfl), get := (Mine.fA (Mine.main.heap_1_39 p) (Mine.nA (Mine.main.heap_1_39 p) "LRUCache") "__getitem__"), nget := (by kernel_rfl), iget := (by kernel_rfl), fget := (by kernel_rfl), set := (Mine.fA (Mine.main.heap_1_39 p) (Mine.nA (Mine.main.heap_1_39 p) "LRUCache") "__setitem__"), nset := (by kernel_rfl), iset := (by kernel_rfl), sd := (Mine.fA (Mine.main.heap_1_39 p) (Mine.nA (Mine.main.heap_1_39 p) "LRUCache") "setdefault"), tsd := (Mine.dA (Mine.main.heap_1_39 p) (Mine.fA (Mine.main.heap_1_39 p) (Mine.nA (Mine.main.heap_1_39 p) "LRUCache") "setdefault")), htsd := (Mine.defT_of (by kernel_rfl)), hsd := (Mine.fnIs_of (by kernel_rfl) (by kernel_rfl)), nsd := (by kernel_rfl), isd := (by kernel_rfl), ksd := (by kernel_rfl) } }, lrf := { ok := { get := (by kernel_rfl), dict := (by kernel_rfl), seta := (by kernel_rfl), over := (by kernel_rfl), seq := (by kernel_rfl), fdata := (by kernel_rfl), fsize := (by kernel_rfl), fcur := (by kernel_rfl), fmax := (by kernel_rfl), tcur := (by kernel_rfl) }, ford := (by kernel_rfl), cdel := (Mine.fA (Mine.main.heap_1_39 p) (Mine.nA (Mine.main.heap_1_39 p) "Cache") "__delitem__"), hcdel := (Mine.fnIs_of (by kernel_rfl) (by kernel_rfl)), kcdel := (by kernel_rfl), tdel := (Mine.dA (Mine.main.heap_1_39 p) (Mine.fA (Mine.main.heap_1_39 p) (Mine.nA (Mine.main.heap_1_39 p) "LRUCache") "__delitem__")), htdel := (Mine.defT_of (by kernel_rfl)), del := (Mine.fA (Mine.main.heap_1_39 p) (Mine.nA (Mine.main.heap_1_39 p) "LRUCache") "__delitem__"), hdel := (Mine.fnIs_of (by kernel_rfl) (by kernel_rfl)), ndel := (by kernel_rfl), idel := (by kernel_rfl), hnext := (by kernel_rfl), hiter := (by kernel_rfl), gCache := (Mine.nA (Mine.main.heap_1_39 p) "Cache"), hCache := (by kernel_rfl), cget := (Mine.fA (Mine.main.heap_1_39 p) (Mine.nA (Mine.main.heap_1_39 p) "Cache") "__getitem__"), hcget := (Mine.fnIs_of (by kernel_rfl) (by kernel_rfl)), kcget := (by kernel_rfl), ncget := ⟨(Mine.mcA (Mine.main.heap_1_39 p) (Mine.nA (Mine.main.heap_1_39 p) "Cache")), (by kernel_rfl), (by kernel_rfl), (by kernel_rfl)⟩, pop := (Mine.fA (Mine.main.heap_1_39 p) (Mine.nA (Mine.main.heap_1_39 p) "LRUCache") "popitem"), hpop := (Mine.fnIs_of (by kernel_rfl) (by kernel_rfl)), npop := (by kernel_rfl), ipop := (by kernel_rfl), kpop := (by kernel_rfl), cset := (Mine.fA (Mine.main.heap_1_39 p) (Mine.nA (Mine.main.heap_1_39 p) "Cache") "__setitem__"), hcset := (Mine.fnIs_of (by kernel_rfl) (by kernel_rfl)), kcset := (by kernel_rfl), tset := (Mine.dA (Mine.main.heap_1_39 p) (Mine.fA (Mine.main.heap_1_39 p) (Mine.nA (Mine.main.heap_1_39 p) "LRUCache") "__setitem__")), htset := (Mine.defT_of (by kernel_rfl)), set := (Mine.fA (Mine.main.heap_1_39 p) (Mine.nA (Mine.main.heap_1_39 p) "LRUCache") "__setitem__"), hset := (Mine.fnIs_of (by kernel_rfl) (by kernel_rfl)), nset := (by kernel_rfl), iset := (by kernel_rfl), tch := (Mine.fA (Mine.main.heap_1_39 p) (Mine.nA (Mine.main.heap_1_39 p) "LRUCache") "_LRUCache__touch"), htch := (Mine.fnIs_of (by kernel_rfl) (by kernel_rfl)), ntch := (by kernel_rfl), itch := (by kernel_rfl), ktch := (by kernel_rfl), hKey := (by kernel_rfl), tget := (Mine.dA (Mine.main.heap_1_39 p) (Mine.fA (Mine.main.heap_1_39 p) (Mine.nA (Mine.main.heap_1_39 p) "LRUCache") "__getitem__")), htget := (Mine.defT_of (by kernel_rfl)), get := (Mine.fA (Mine.main.heap_1_39 p) (Mine.nA (Mine.main.heap_1_39 p) "LRUCache") "__getitem__"), hget := (Mine.fnIs_of (by kernel_rfl) (by kernel_rfl)), nget := (by kernel_rfl), iget := (by kernel_rfl), fget := (by kernel_rfl) }, lri := { gs := { p := (Mine.fA (Mine.main.heap_1_39 p) (Mine.nA (Mine.main.heap_1_39 p) "LRUCache") "getsizeof"), f := (Mine.rA (Mine.main.heap_1_39 p) (Mine.fA (Mine.main.heap_1_39 p) (Mine.nA (Mine.main.heap_1_39 p) "LRUCache") "getsizeof") "staticmethod"), sm := { find := (by kernel_rfl), spec := (by kernel_rfl), takes := (by kernel_rfl), rec_ := (Mine.rec_some (by kernel_rfl)), cop := (by kernel_rfl) }, gCache := (Mine.nA (Mine.main.heap_1_39 p) "Cache"), hCache := (by kernel_rfl), ncg := ⟨(Mine.mcA (Mine.main.heap_1_39 p) (Mine.nA (Mine.main.heap_1_39 p) "Cache")), (by kernel_rfl), (by kernel_rfl)⟩, tdata := (by kernel_rfl), tsize := (by kernel_rfl), tmax := (by kernel_rfl), tgs := (by kernel_rfl) }, spC := (by kernel_rfl), cinit := (Mine.fA (Mine.main.heap_1_39 p) (Mine.nA (Mine.main.heap_1_39 p) "Cache") "__init__"), ncinit := ⟨(Mine.mcA (Mine.main.heap_1_39 p) (Mine.nA (Mine.main.heap_1_39 p) "Cache")), (by kernel_rfl), (by kernel_rfl)⟩, kcinit := (by kernel_rfl), tcinit := (Mine.dA (Mine.main.heap_1_39 p) (Mine.fA (Mine.main.heap_1_39 p) (Mine.nA (Mine.main.heap_1_39 p) "Cache") "__init__")), htcinit := (Mine.defT_of (by kernel_rfl)), hcinit := (Mine.fnIs_of (by kernel_rfl) (by kernel_rfl)), tinit := (Mine.dA (Mine.main.heap_1_39 p) (Mine.fA (Mine.main.heap_1_39 p) (Mine.nA (Mine.main.heap_1_39 p) "LRUCache") "__init__")), htinit := (Mine.defT_of (by kernel_rfl)), init := (Mine.fA (Mine.main.heap_1_39 p) (Mine.nA (Mine.main.heap_1_39 p) "LRUCache") "__init__"), hinit := (Mine.fnIs_of (by kernel_rfl) (by kernel_rfl)), ninit := (by kernel_rfl), iinit := (by kernel_rfl), makes := (by kernel_rfl), tord := (by kernel_rfl) }, lrs := rfl, lrg := rfl, lf := { C := (Mine.nA (Mine.main.heap_1_39 p) "LFUCache"), nC := (by kernel_rfl), kC := (by kernel_rfl), ok := { get := (by kernel_rfl), dict := (by kernel_rfl), seta := (by kernel_rfl), over := (by kernel_rfl), seq := (by kernel_rfl), fdata := (by kernel_rfl), fsize := (by kernel_rfl), fcur := (by kernel_rfl), fmax := (by kernel_rfl), tcur := (by kernel_rfl) }, ka := { con := (Mine.fA (Mine.main.heap_1_39 p) (Mine.nA (Mine.main.heap_1_39 p) "LFUCache") "__contains__"), hcon := (Mine.fnIs_of (by kernel_rfl) (by kernel_rfl)), ncon := (by kernel_rfl), icon := (by kernel_rfl), len := (Mine.fA (Mine.main.heap_1_39 p) (Mine.nA (Mine.main.heap_1_39 p) "LFUCache") "__len__"), hlen := (Mine.fnIs_of (by kernel_rfl) (by kernel_rfl)), nlen := (by kernel_rfl), ilen := (by kernel_rfl), blen := (by kernel_rfl), get := (Mine.fA (Mine.main.heap_1_39 p) (Mine.nA (Mine.main.heap_1_39 p) "LFUCache") "__getitem__"), nget := (by kernel_rfl), iget := (by kernel_rfl), fget := (by kernel_rfl), set := (Mine.fA (Mine.main.heap_1_39 p) (Mine.nA (Mine.main.heap_1_39 p) "LFUCache") "__setitem__"), nset := (by kernel_rfl), iset := (by kernel_rfl), sd := (Mine.fA (Mine.main.heap_1_39 p) (Mine.nA (Mine.main.heap_1_39 p) "LFUCache") "setdefault"), tsd := (Mine.dA (Mine.main.heap_1_39 p) (Mine.fA (Mine.main.heap_1_39 p) (Mine.nA (Mine.main.heap_1_39 p) "LFUCache") "setdefault")), htsd := (Mine.defT_of (by kernel_rfl)), hsd := (Mine.fnIs_of (by kernel_rfl) (by kernel_rfl)), nsd := (by kernel_rfl), isd := (by kernel_rfl), ksd := (by kernel_rfl) } }, lff := { ok := { get := (by kernel_rfl), dict := (by kernel_rfl), seta := (by kernel_rfl), over := (by kernel_rfl), seq := (by kernel_rfl), fdata := (by kernel_rfl), fsize := (by kernel_rfl), fcur := (by kernel_rfl), fmax := (by kernel_rfl), tcur := (by kernel_rfl) }, L := (Mine.vA (Mine.main.heap_1_39 p) (.ref (Mine.nA (Mine.main.heap_1_39 p) "LFUCache")) (Mine.mcA (Mine.main.heap_1_39 p) (Mine.nA (Mine.main.heap_1_39 p) "LFUCache")) "_Link"), lf := { get := (by kernel_rfl), cls := (by kernel_rfl), seta := (by kernel_rfl), over := (by kernel_rfl), makes := (by kernel_rfl), kL := (by kernel_rfl), pc := (Mine.fA (Mine.main.heap_1_39 p) (Mine.vA (Mine.main.heap_1_39 p) (.ref (Mine.nA (Mine.main.heap_1_39 p) "LFUCache")) (Mine.mcA (Mine.main.heap_1_39 p) (Mine.nA (Mine.main.heap_1_39 p) "LFUCache")) "_Link") "count"), pk := (Mine.fA (Mine.main.heap_1_39 p) (Mine.vA (Mine.main.heap_1_39 p) (.ref (Mine.nA (Mine.main.heap_1_39 p) "LFUCache")) (Mine.mcA (Mine.main.heap_1_39 p) (Mine.nA (Mine.main.heap_1_39 p) "LFUCache")) "_Link") "keys"), pn := (Mine.fA (Mine.main.heap_1_39 p) (Mine.vA (Mine.main.heap_1_39 p) (.ref (Mine.nA (Mine.main.heap_1_39 p) "LFUCache")) (Mine.mcA (Mine.main.heap_1_39 p) (Mine.nA (Mine.main.heap_1_39 p) "LFUCache")) "_Link") "next"), pp := (Mine.fA (Mine.main.heap_1_39 p) (Mine.vA (Mine.main.heap_1_39 p) (.ref (Mine.nA (Mine.main.heap_1_39 p) "LFUCache")) (Mine.mcA (Mine.main.heap_1_39 p) (Mine.nA (Mine.main.heap_1_39 p) "LFUCache")) "_Link") "prev"), sc := { find := (by kernel_rfl), spec := (by kernel_rfl), takes := (by kernel_rfl), slot := (by kernel_rfl), taker := (by kernel_rfl), typ := (by kernel_rfl), lt := (by decide) }, sk := { find := (by kernel_rfl), spec := (by kernel_rfl), takes := (by kernel_rfl), slot := (by kernel_rfl), taker := (by kernel_rfl), typ := (by kernel_rfl), lt := (by decide) }, sn := { find := (by kernel_rfl), spec := (by kernel_rfl), takes := (by kernel_rfl), slot := (by kernel_rfl), taker := (by kernel_rfl), typ := (by kernel_rfl), lt := (by decide) }, sp := { find := (by kernel_rfl), spec := (by kernel_rfl), takes := (by kernel_rfl), slot := (by kernel_rfl), taker := (by kernel_rfl), typ := (by kernel_rfl), lt := (by decide) }, init := (Mine.fA (Mine.main.heap_1_39 p) (Mine.vA (Mine.main.heap_1_39 p) (.ref (Mine.nA (Mine.main.heap_1_39 p) "LFUCache")) (Mine.mcA (Mine.main.heap_1_39 p) (Mine.nA (Mine.main.heap_1_39 p) "LFUCache")) "_Link") "__init__"), hinit := (Mine.fnIs_of (by kernel_rfl) (by kernel_rfl)), ninit := (by kernel_rfl), iinit := (by kernel_rfl), unl := (Mine.fA (Mine.main.heap_1_39 p) (Mine.vA (Mine.main.heap_1_39 p) (.ref (Mine.nA (Mine.main.heap_1_39 p) "LFUCache")) (Mine.mcA (Mine.main.heap_1_39 p) (Mine.nA (Mine.main.heap_1_39 p) "LFUCache")) "_Link") "unlink"), hunl := (Mine.fnIs_of (by kernel_rfl) (by kernel_rfl)), nunl := (by kernel_rfl), iunl := (by kernel_rfl), kunl := (by kernel_rfl) }, frt := (by kernel_rfl), flk := (by kernel_rfl), hlen := (by kernel_rfl), hnext := (by kernel_rfl), hiter := (by kernel_rfl), gLFU := (Mine.nA (Mine.main.heap_1_39 p) "LFUCache"), hLFU := (by kernel_rfl), nLink := ⟨(Mine.mcA (Mine.main.heap_1_39 p) (Mine.nA (Mine.main.heap_1_39 p) "LFUCache")), (by kernel_rfl), (by kernel_rfl), (by kernel_rfl)⟩, gCache := (Mine.nA (Mine.main.heap_1_39 p) "Cache"), hCache := (by kernel_rfl), cget := (Mine.fA (Mine.main.heap_1_39 p) (Mine.nA (Mine.main.heap_1_39 p) "Cache") "__getitem__"), hcget := (Mine.fnIs_of (by kernel_rfl) (by kernel_rfl)), kcget := (by kernel_rfl), ncget := ⟨(Mine.mcA (Mine.main.heap_1_39 p) (Mine.nA (Mine.main.heap_1_39 p) "Cache")), (by kernel_rfl), (by kernel_rfl), (by kernel_rfl)⟩, tget := (Mine.dA (Mine.main.heap_1_39 p) (Mine.fA (Mine.main.heap_1_39 p) (Mine.nA (Mine.main.heap_1_39 p) "LFUCache") "__getitem__")), htget := (Mine.defT_of (by kernel_rfl)), get := (Mine.fA (Mine.main.heap_1_39 p) (Mine.nA (Mine.main.heap_1_39 p) "LFUCache") "__getitem__"), hget := (Mine.fnIs_of (by kernel_rfl) (by kernel_rfl)), nget := (by kernel_rfl), iget := (by kernel_rfl), fget := (by kernel_rfl), cset := (Mine.fA (Mine.main.heap_1_39 p) (Mine.nA (Mine.main.heap_1_39 p) "Cache") "__setitem__"), hcset := (Mine.fnIs_of (by kernel_rfl) (by kernel_rfl)), kcset := (by kernel_rfl), tset := (Mine.dA (Mine.main.heap_1_39 p) (Mine.fA (Mine.main.heap_1_39 p) (Mine.nA (Mine.main.heap_1_39 p) "LFUCache") "__setitem__")), htset := (Mine.defT_of (by kernel_rfl)), set := (Mine.fA (Mine.main.heap_1_39 p) (Mine.nA (Mine.main.heap_1_39 p) "LFUCache") "__setitem__"), hset := (Mine.fnIs_of (by kernel_rfl) (by kernel_rfl)), nset := (by kernel_rfl), iset := (by kernel_rfl), cdel := (Mine.fA (Mine.main.heap_1_39 p) (Mine.nA (Mine.main.heap_1_39 p) "Cache") "__delitem__"), hcdel := (Mine.fnIs_of (by kernel_rfl) (by kernel_rfl)), kcdel := (by kernel_rfl), tdel := (Mine.dA (Mine.main.heap_1_39 p) (Mine.fA (Mine.main.heap_1_39 p) (Mine.nA (Mine.main.heap_1_39 p) "LFUCache") "__delitem__")), htdel := (Mine.defT_of (by kernel_rfl)), del := (Mine.fA (Mine.main.heap_1_39 p) (Mine.nA (Mine.main.heap_1_39 p) "LFUCache") "__delitem__"), hdel := (Mine.fnIs_of (by kernel_rfl) (by kernel_rfl)), ndel := (by kernel_rfl), idel := (by kernel_rfl), pop := (Mine.fA (Mine.main.heap_1_39 p) (Mine.nA (Mine.main.heap_1_39 p) "LFUCache") "popitem"), hpop := (Mine.fnIs_of (by kernel_rfl) (by kernel_rfl)), npop := (by kernel_rfl), ipop := (by kernel_rfl), kpop := (by kernel_rfl), tch := (Mine.fA (Mine.main.heap_1_39 p) (Mine.nA (Mine.main.heap_1_39 p) "LFUCache") "_LFUCache__touch"), htch := (Mine.fnIs_of (by kernel_rfl) (by kernel_rfl)), ntch := (by kernel_rfl), itch := (by kernel_rfl), ktch := (by kernel_rfl) }, lfL := (Mine.vA (Mine.main.heap_1_39 p) (.ref (Mine.nA (Mine.main.heap_1_39 p) "LFUCache")) (Mine.mcA (Mine.main.heap_1_39 p) (Mine.nA (Mine.main.heap_1_39 p) "LFUCache")) "_Link"), lfi := { gs := { p := (Mine.fA (Mine.main.heap_1_39 p) (Mine.nA (Mine.main.heap_1_39 p) "LFUCache") "getsizeof"), f := (Mine.rA (Mine.main.heap_1_39 p) (Mine.fA (Mine.main.heap_1_39 p) (Mine.nA (Mine.main.heap_1_39 p) "LFUCache") "getsizeof") "staticmethod"), sm := { find := (by kernel_rfl), spec := (by kernel_rfl), takes := (by kernel_rfl), rec_ := (Mine.rec_some (by kernel_rfl)), cop := (by kernel_rfl) }, gCache := (Mine.nA (Mine.main.heap_1_39 p) "Cache"), hCache := (by kernel_rfl), ncg := ⟨(Mine.mcA (Mine.main.heap_1_39 p) (Mine.nA (Mine.main.heap_1_39 p) "Cache")), (by kernel_rfl), (by kernel_rfl)⟩, tdata := (by kernel_rfl), tsize := (by kernel_rfl), tmax := (by kernel_rfl), tgs := (by kernel_rfl) }, spC := (by kernel_rfl), cinit := (Mine.fA (Mine.main.heap_1_39 p) (Mine.nA (Mine.main.heap_1_39 p) "Cache") "__init__"), ncinit := ⟨(Mine.mcA (Mine.main.heap_1_39 p) (Mine.nA (Mine.main.heap_1_39 p) "Cache")), (by kernel_rfl), (by kernel_rfl)⟩, kcinit := (by kernel_rfl), tcinit := (Mine.dA (Mine.main.heap_1_39 p) (Mine.fA (Mine.main.heap_1_39 p) (Mine.nA (Mine.main.heap_1_39 p) "Cache") "__init__")), htcinit := (Mine.defT_of (by kernel_rfl)), hcinit := (Mine.fnIs_of (by kernel_rfl) (by kernel_rfl)), tinit := (Mine.dA (Mine.main.heap_1_39 p) (Mine.fA (Mine.main.heap_1_39 p) (Mine.nA (Mine.main.heap_1_39 p) "LFUCache") "__init__")), htinit := (Mine.defT_of (by kernel_rfl)), init := (Mine.fA (Mine.main.heap_1_39 p) (Mine.nA (Mine.main.heap_1_39 p) "LFUCache") "__init__"), hinit := (Mine.fnIs_of (by kernel_rfl) (by kernel_rfl)), ninit := (by kernel_rfl), iinit := (by kernel_rfl), makes := (by kernel_rfl), gLFU := (Mine.nA (Mine.main.heap_1_39 p) "LFUCache"), hLFU := (by kernel_rfl), nLink := ⟨(Mine.mcA (Mine.main.heap_1_39 p) (Mine.nA (Mine.main.heap_1_39 p) "LFUCache")), (by kernel_rfl), (by kernel_rfl), (by kernel_rfl)⟩, lf := { get := (by kernel_rfl), cls := (by kernel_rfl), seta := (by kernel_rfl), over := (by kernel_rfl), makes := (by kernel_rfl), kL := (by kernel_rfl), pc := (Mine.fA (Mine.main.heap_1_39 p) (Mine.vA (Mine.main.heap_1_39 p) (.ref (Mine.nA (Mine.main.heap_1_39 p) "LFUCache")) (Mine.mcA (Mine.main.heap_1_39 p) (Mine.nA (Mine.main.heap_1_39 p) "LFUCache")) "_Link") "count"), pk := (Mine.fA (Mine.main.heap_1_39 p) (Mine.vA (Mine.main.heap_1_39 p) (.ref (Mine.nA (Mine.main.heap_1_39 p) "LFUCache")) (Mine.mcA (Mine.main.heap_1_39 p) (Mine.nA (Mine.main.heap_1_39 p) "LFUCache")) "_Link") "keys"), pn := (Mine.fA (Mine.main.heap_1_39 p) (Mine.vA (Mine.main.heap_1_39 p) (.ref (Mine.nA (Mine.main.heap_1_39 p) "LFUCache")) (Mine.mcA (Mine.main.heap_1_39 p) (Mine.nA (Mine.main.heap_1_39 p) "LFUCache")) "_Link") "next"), pp := (Mine.fA (Mine.main.heap_1_39 p) (Mine.vA (Mine.main.heap_1_39 p) (.ref (Mine.nA (Mine.main.heap_1_39 p) "LFUCache")) (Mine.mcA (Mine.main.heap_1_39 p) (Mine.nA (Mine.main.heap_1_39 p) "LFUCache")) "_Link") "prev"), sc := { find := (by kernel_rfl), spec := (by kernel_rfl), takes := (by kernel_rfl), slot := (by kernel_rfl), taker := (by kernel_rfl), typ := (by kernel_rfl), lt := (by decide) }, sk := { find := (by kernel_rfl), spec := (by kernel_rfl), takes := (by kernel_rfl), slot := (by kernel_rfl), taker := (by kernel_rfl), typ := (by kernel_rfl), lt := (by decide) }, sn := { find := (by kernel_rfl), spec := (by kernel_rfl), takes := (by kernel_rfl), slot := (by kernel_rfl), taker := (by kernel_rfl), typ := (by kernel_rfl), lt := (by decide) }, sp := { find := (by kernel_rfl), spec := (by kernel_rfl), takes := (by kernel_rfl), slot := (by kernel_rfl), taker := (by kernel_rfl), typ := (by kernel_rfl), lt := (by decide) }, init := (Mine.fA (Mine.main.heap_1_39 p) (Mine.vA (Mine.main.heap_1_39 p) (.ref (Mine.nA (Mine.main.heap_1_39 p) "LFUCache")) (Mine.mcA (Mine.main.heap_1_39 p) (Mine.nA (Mine.main.heap_1_39 p) "LFUCache")) "_Link") "__init__"), hinit := (Mine.fnIs_of (by kernel_rfl) (by kernel_rfl)), ninit := (by kernel_rfl), iinit := (by kernel_rfl), unl := (Mine.fA (Mine.main.heap_1_39 p) (Mine.vA (Mine.main.heap_1_39 p) (.ref (Mine.nA (Mine.main.heap_1_39 p) "LFUCache")) (Mine.mcA (Mine.main.heap_1_39 p) (Mine.nA (Mine.main.heap_1_39 p) "LFUCache")) "_Link") "unlink"), hunl := (Mine.fnIs_of (by kernel_rfl) (by kernel_rfl)), nunl := (by kernel_rfl), iunl := (by kernel_rfl), kunl := (by kernel_rfl) }, trt := (by kernel_rfl), tlk := (by kernel_rfl) }, lfe := rfl, lfs := rfl, lfg := rfl, rr := { C := (Mine.nA (Mine.main.heap_1_39 p) "RRCache"), nC := (by kernel_rfl), kC := (by kernel_rfl), ok := { get := (by kernel_rfl), dict := (by kernel_rfl), seta := (by kernel_rfl), over := (by kernel_rfl), seq := (by kernel_rfl), fdata := (by kernel_rfl), fsize := (by kernel_rfl), fcur := (by kernel_rfl), fmax := (by kernel_rfl), tcur := (by kernel_rfl) }, ka := { con := (Mine.fA (Mine.main.heap_1_39 p) (Mine.nA (Mine.main.heap_1_39 p) "RRCache") "__contains__"), hcon := (Mine.fnIs_of (by kernel_rfl) (by kernel_rfl)), ncon := (by kernel_rfl), icon := (by kernel_rfl), len := (Mine.fA (Mine.main.heap_1_39 p) (Mine.nA (Mine.main.heap_1_39 p) "RRCache") "__len__"), hlen := (Mine.fnIs_of (by kernel_rfl) (by kernel_rfl)), nlen := (by kernel_rfl), ilen := (by kernel_rfl), blen := (by kernel_rfl), get := (Mine.fA (Mine.main.heap_1_39 p) (Mine.nA (Mine.main.heap_1_39 p) "RRCache") "__getitem__"), nget := (by kernel_rfl), iget := (by kernel_rfl), fget := (by kernel_rfl), set := (Mine.fA (Mine.main.heap_1_39 p) (Mine.nA (Mine.main.heap_1_39 p) "RRCache") "__setitem__"), nset := (by kernel_rfl), iset := (by kernel_rfl), sd := (Mine.fA (Mine.main.heap_1_39 p) (Mine.nA (Mine.main.heap_1_39 p) "RRCache") "setdefault"), tsd := (Mine.dA (Mine.main.heap_1_39 p) (Mine.fA (Mine.main.heap_1_39 p) (Mine.nA (Mine.main.heap_1_39 p) "RRCache") "setdefault")), htsd := (Mine.defT_of (by kernel_rfl)), hsd := (Mine.fnIs_of (by kernel_rfl) (by kernel_rfl)), nsd := (by kernel_rfl), isd := (by kernel_rfl), ksd := (by kernel_rfl) } }, rrf := { ok := { get := (by kernel_rfl), dict := (by kernel_rfl), seta := (by kernel_rfl), over := (by kernel_rfl), seq := (by kernel_rfl), fdata := (by kernel_rfl), fsize := (by kernel_rfl), fcur := (by kernel_rfl), fmax := (by kernel_rfl), tcur := (by kernel_rfl) }, fix := (by kernel_rfl), fks := (by kernel_rfl), fch := (by kernel_rfl), cdel := (Mine.fA (Mine.main.heap_1_39 p) (Mine.nA (Mine.main.heap_1_39 p) "Cache") "__delitem__"), hcdel := (Mine.fnIs_of (by kernel_rfl) (by kernel_rfl)), kcdel := (by kernel_rfl), tdel := (Mine.dA (Mine.main.heap_1_39 p) (Mine.fA (Mine.main.heap_1_39 p) (Mine.nA (Mine.main.heap_1_39 p) "RRCache") "__delitem__")), htdel := (Mine.defT_of (by kernel_rfl)), del := (Mine.fA (Mine.main.heap_1_39 p) (Mine.nA (Mine.main.heap_1_39 p) "RRCache") "__delitem__"), hdel := (Mine.fnIs_of (by kernel_rfl) (by kernel_rfl)), ndel := (by kernel_rfl), idel := (by kernel_rfl), hlen := (by kernel_rfl), gCache := (Mine.nA (Mine.main.heap_1_39 p) "Cache"), hCache := (by kernel_rfl), cget := (Mine.fA (Mine.main.heap_1_39 p) (Mine.nA (Mine.main.heap_1_39 p) "Cache") "__getitem__"), hcget := (Mine.fnIs_of (by kernel_rfl) (by kernel_rfl)), kcget := (by kernel_rfl), ncget := ⟨(Mine.mcA (Mine.main.heap_1_39 p) (Mine.nA (Mine.main.heap_1_39 p) "Cache")), (by kernel_rfl), (by kernel_rfl), (by kernel_rfl)⟩, pop := (Mine.fA (Mine.main.heap_1_39 p) (Mine.nA (Mine.main.heap_1_39 p) "RRCache") "popitem"), hpop := (Mine.fnIs_of (by kernel_rfl) (by kernel_rfl)), npop := (by kernel_rfl), ipop := (by kernel_rfl), kpop := (by kernel_rfl), cset := (Mine.fA (Mine.main.heap_1_39 p) (Mine.nA (Mine.main.heap_1_39 p) "Cache") "__setitem__"), hcset := (Mine.fnIs_of (by kernel_rfl) (by kernel_rfl)), kcset := (by kernel_rfl), tset := (Mine.dA (Mine.main.heap_1_39 p) (Mine.fA (Mine.main.heap_1_39 p) (Mine.nA (Mine.main.heap_1_39 p) "RRCache") "__setitem__")), htset := (Mine.defT_of (by kernel_rfl)), set := (Mine.fA (Mine.main.heap_1_39 p) (Mine.nA (Mine.main.heap_1_39 p) "RRCache") "__setitem__"), hset := (Mine.fnIs_of (by kernel_rfl) (by kernel_rfl)), nset := (by kernel_rfl), iset := (by kernel_rfl) }, rri := { gs := { p := (Mine.fA (Mine.main.heap_1_39 p) (Mine.nA (Mine.main.heap_1_39 p) "RRCache") "getsizeof"), f := (Mine.rA (Mine.main.heap_1_39 p) (Mine.fA (Mine.main.heap_1_39 p) (Mine.nA (Mine.main.heap_1_39 p) "RRCache") "getsizeof") "staticmethod"), sm := { find := (by kernel_rfl), spec := (by kernel_rfl), takes := (by kernel_rfl), rec_ := (Mine.rec_some (by kernel_rfl)), cop := (by kernel_rfl) }, gCache := (Mine.nA (Mine.main.heap_1_39 p) "Cache"), hCache := (by kernel_rfl), ncg := ⟨(Mine.mcA (Mine.main.heap_1_39 p) (Mine.nA (Mine.main.heap_1_39 p) "Cache")), (by kernel_rfl), (by kernel_rfl)⟩, tdata := (by kernel_rfl), tsize := (by kernel_rfl), tmax := (by kernel_rfl), tgs := (by kernel_rfl) }, spC := (by kernel_rfl), cinit := (Mine.fA (Mine.main.heap_1_39 p) (Mine.nA (Mine.main.heap_1_39 p) "Cache") "__init__"), ncinit := ⟨(Mine.mcA (Mine.main.heap_1_39 p) (Mine.nA (Mine.main.heap_1_39 p) "Cache")), (by kernel_rfl), (by kernel_rfl)⟩, kcinit := (by kernel_rfl), tcinit := (Mine.dA (Mine.main.heap_1_39 p) (Mine.fA (Mine.main.heap_1_39 p) (Mine.nA (Mine.main.heap_1_39 p) "Cache") "__init__")), htcinit := (Mine.defT_of (by kernel_rfl)), hcinit := (Mine.fnIs_of (by kernel_rfl) (by kernel_rfl)), tinit := (Mine.dA (Mine.main.heap_1_39 p) (Mine.fA (Mine.main.heap_1_39 p) (Mine.nA (Mine.main.heap_1_39 p) "RRCache") "__init__")), htinit := (Mine.defT_of (by kernel_rfl)), init := (Mine.fA (Mine.main.heap_1_39 p) (Mine.nA (Mine.main.heap_1_39 p) "RRCache") "__init__"), hinit := (Mine.fnIs_of (by kernel_rfl) (by kernel_rfl)), ninit := (by kernel_rfl), iinit := (by kernel_rfl), makes := (by kernel_rfl), tix := (by kernel_rfl), tks := (by kernel_rfl), tch := (by kernel_rfl) }, rrs := rfl, rrg := (Mine.fnIs_of (by kernel_rfl) (by kernel_rfl)), C := (Mine.codeK_of (by kernel_rfl)) }) (fun p => by kernel_rfl) (by decide) (fun p => by kernel_rfl) (fun p => by kernel_rfl)
end
set_option Elab.async false
namespace Mine

inductive AO where
  | dict (kvs : List (Int × Value))
  | list (xs : List Value)
  | tup (xs : List Value)
  | inst (C d : Addr)
  | ns (m : Str → Option Value) (k : Nat)
  | obj (o : Obj)
  | dictE (kvs : List (Int × Value)) (ep : Nat)
  | fld (cls : String) (vs : List Value)
  | slots (C d : Addr) (f : Nat → Option Value)
  | cell (v : Option Value)
  | loc (m : Str → Option Value)
  | pred (P : Obj → Prop)

def NsOf (o : Obj) (m : Str → Option Value) (k : Nat) : Prop :=
  ∃ es n, o = dictOf es n ∧ (∀ e ∈ es, ∃ x t, e.key = .str x t) ∧ (∀ x, getL x es = some (m x)) ∧ es.length ≤ k

def Has (prog : Program) (w : World) (o : Obj) : AO → Prop
  | .dict kvs => o.IsDictOf (intKind prog w) kvs
  | .list xs => ∃ n, o = { cls := .type "list", dict := none, data := .seq xs.toArray n, slots := #[] }
  | .tup xs => o.cls = .type "tuple" ∧ ∃ n, o.data = .seq xs.toArray n
  | .inst C d => o = instObj C d
  | .ns m k => NsOf o m k
  | .obj o' => o = o'
  | .dictE kvs ep => KdkAt (intKind prog w) o kvs ep
  | .fld cls vs => o.cls = .type cls ∧ o.data = .fields vs.toArray
  | .slots C d f => ∃ arr : Array (Option Value), o = { instObj C d with slots := arr } ∧ ∀ i, (arr[i]?).join = f i
  | .cell v => o.data = .cell v
  | .loc m => ∃ es ep, o.data = .dict es ep ∧ StrKeys es ∧ ∀ name, nsFind es name = m name
  | .pred P => P o

abbrev Hp := Addr → Option AO
abbrev Nm := Str → Option Value
def Hp.set (σ : Hp) (a : Addr) (x : AO) : Hp := fun b => if b = a then some x else σ b
theorem Hp.set_self (σ : Hp) (a : Addr) (x : AO) : σ.set a x a = some x := by simp [Hp.set]
theorem Hp.set_ne (σ : Hp) {a b : Addr} (x : AO) (h : b ≠ a) : σ.set a x b = σ b := by simp [Hp.set, h]

structure R (prog : Program) (w : World) (base : Heap) (os : OsState) (fs : List (Env × Nm)) (σ : Hp) (s : Shared) : Prop where
  keep : ∀ b o, base.get? b = some o → s.heap.get? b = some o
  fr : ∀ f ∈ fs, s.heap.Ns f.1.locals f.2 ∧ base.objs.size ≤ f.1.locals ∧ σ f.1.locals = none
  nd : (fs.map (·.1.locals)).Nodup
  own : ∀ a x, σ a = some x → ∃ o, s.heap.get? a = some o ∧ Has prog w o x ∧ base.get? a = none
  nomod : ∀ a x, σ a = some x → (a == sysModules) = false
  low : sysModules < base.objs.size
  gens : s.gens = #[]
  hos : s.os = os

section
variable {prog : Program} {w : World} {base : Heap} {os : OsState} {fs : List (Env × Nm)} {m : Nm} {env : Env} {σ : Hp} {s : Shared}

theorem R.toks (r : R prog w base os fs σ s) (t : Nat) : R prog w base os fs σ { s with toks := t } := ⟨r.keep, r.fr, r.nd, r.own, r.nomod, r.low, r.gens, r.hos⟩

theorem R.forget {σ' : Hp} (r : R prog w base os fs σ s) (h : ∀ a x, σ' a = some x → σ a = some x) : R prog w base os fs σ' s :=
  ⟨r.keep, fun f hf => ⟨(r.fr f hf).1, (r.fr f hf).2.1, by
    cases e : σ' f.1.locals with
    | none => rfl
    | some x => have := h _ _ e; rw [(r.fr f hf).2.2] at this; cases this⟩, r.nd, fun a x e => r.own a x (h a x e), fun a x e => r.nomod a x (h a x e), r.low, r.gens, r.hos⟩

theorem R.get {a : Addr} {x : AO} (r : R prog w base os fs σ s) (e : σ a = some x) : ∃ o, s.heap.get? a = some o ∧ Has prog w o x :=
  let ⟨o, h1, h2, _⟩ := r.own a x e; ⟨o, h1, h2⟩

theorem R.base_none (r : R prog w base os fs σ s) : base.get? s.heap.objs.size = none := by
  cases hq : base.get? s.heap.objs.size with
  | none => rfl
  | some o' => exact absurd (Heap.lt_size (r.keep _ _ hq)) (Nat.lt_irrefl _)

theorem R.fresh (r : R prog w base os fs σ s) : σ s.heap.objs.size = none := by
  cases e : σ s.heap.objs.size with
  | none => rfl
  | some x =>
    obtain ⟨o, h1, _⟩ := r.own _ _ e
    exact absurd (Heap.lt_size h1) (Nat.lt_irrefl _)

theorem R.size_le (r : R prog w base os fs σ s) (hne : fs ≠ []) : base.objs.size ≤ s.heap.objs.size := by
  cases fs with
  | nil => exact absurd rfl hne
  | cons f t =>
    obtain ⟨⟨_, _, _, hL, _⟩, h2, _⟩ := r.fr f (.head _)
    exact Nat.le_of_lt (Nat.lt_of_le_of_lt h2 (Heap.lt_size hL))

theorem R.upd {a : Addr} {x : AO} {o' : Obj} {h' : Heap} {t : Nat} (r : R prog w base os fs σ s) {x₀ : AO} (e : σ a = some x₀) (hs : Heap.SameBut a s.heap h') (ho : h'.get? a = some o') (hx : Has prog w o' x) :
    R prog w base os fs (σ.set a x) { s with heap := h', toks := t } := by
  obtain ⟨o, h1, h2, h4⟩ := r.own a x₀ e
  refine ⟨fun b ob hb => ?_, fun f hf => ?_, r.nd, fun b y hb => ?_, fun b y hb => ?_, r.low, r.gens, r.hos⟩
  · have hba : b ≠ a := fun q => by rw [q, h4] at hb; cases hb
    exact (hs.2 b hba).trans (r.keep b ob hb)
  · obtain ⟨k1, k2, k3⟩ := r.fr f hf
    have hfa : f.1.locals ≠ a := fun q => by rw [q, e] at k3; cases k3
    exact ⟨k1.sameBut hs hfa, k2, by rw [Hp.set_ne _ _ hfa]; exact k3⟩
  · by_cases hba : b = a
    · subst hba
      rw [Hp.set_self] at hb
      cases hb
      exact ⟨o', ho, hx, h4⟩
    · rw [Hp.set_ne _ _ hba] at hb
      obtain ⟨o1, k1, k2, k3⟩ := r.own b y hb
      exact ⟨o1, (hs.2 b hba).trans k1, k2, k3⟩
  · by_cases hba : b = a
    · subst hba; exact r.nomod _ _ e
    · rw [Hp.set_ne _ _ hba] at hb; exact r.nomod b y hb

theorem R.loc {m' : Nm} {h' : Heap} {t : Nat} (r : R prog w base os ((env, m) :: fs) σ s) (hn : h'.Ns env.locals m') (hs : Heap.SameBut env.locals s.heap h') :
    R prog w base os ((env, m') :: fs) σ { s with heap := h', toks := t } := by
  obtain ⟨q1, q2, q3⟩ := r.fr _ (.head _)
  have hnd := r.nd
  simp only [List.map_cons, List.nodup_cons] at hnd
  refine ⟨fun b ob hb => ?_, fun f hf => ?_, r.nd, fun b y hb => ?_, r.nomod, r.low, r.gens, r.hos⟩
  · have hba : b ≠ env.locals := fun q => by
      have := Heap.lt_size hb
      rw [q] at this
      exact absurd q2 (Nat.not_le.mpr this)
    exact (hs.2 b hba).trans (r.keep b ob hb)
  · rcases List.mem_cons.mp hf with rfl | hf
    · exact ⟨hn, q2, q3⟩
    · obtain ⟨k1, k2, k3⟩ := r.fr f (.tail _ hf)
      exact ⟨k1.sameBut hs fun q => hnd.1 (by rw [← q]; exact List.mem_map_of_mem (f := fun x : Env × Nm => x.1.locals) hf), k2, k3⟩
  · obtain ⟨o1, k1, k2, k3⟩ := r.own b y hb
    exact ⟨o1, (hs.2 b fun q => by rw [q, q3] at hb; cases hb).trans k1, k2, k3⟩

theorem R.keeps {h' : Heap} {t : Nat} (r : R prog w base os fs σ s) (hk : ∀ b o, s.heap.get? b = some o → h'.get? b = some o) :
    R prog w base os fs σ { s with heap := h', toks := t } :=
  ⟨fun b o e => hk _ _ (r.keep b o e), fun f hf => let ⟨k1, k2, k3⟩ := r.fr f hf; ⟨k1.keeps hk, k2, k3⟩, r.nd,
    fun b y hb => let ⟨o1, k1, k2, k3⟩ := r.own b y hb; ⟨o1, hk _ _ k1, k2, k3⟩, r.nomod, r.low, r.gens, r.hos⟩

theorem R.add {a : Addr} {o : Obj} {x : AO} (r : R prog w base os fs σ s) (ho : s.heap.get? a = some o) (hx : Has prog w o x) (hb : base.get? a = none) (hf : ∀ f ∈ fs, f.1.locals ≠ a) (hm : (a == sysModules) = false) :
    R prog w base os fs (σ.set a x) s := by
  refine ⟨r.keep, fun f hf' => ?_, r.nd, fun b y hy => ?_, fun b y hy => ?_, r.low, r.gens, r.hos⟩
  · obtain ⟨k1, k2, k3⟩ := r.fr f hf'
    exact ⟨k1, k2, by rw [Hp.set_ne _ _ (hf f hf')]; exact k3⟩
  · by_cases hba : b = a
    · subst hba
      rw [Hp.set_self] at hy
      cases hy
      exact ⟨o, ho, hx, hb⟩
    · rw [Hp.set_ne _ _ hba] at hy
      exact r.own b y hy
  · by_cases hba : b = a
    · subst hba; exact hm
    · rw [Hp.set_ne _ _ hba] at hy; exact r.nomod b y hy

theorem R.restore {σ' : Hp} (r : R prog w base os fs σ s) (h : ∀ a x, σ' a = some x → ∃ y, σ a = some y ∧ ∀ o, Has prog w o y → Has prog w o x) : R prog w base os fs σ' s :=
  ⟨r.keep, fun f hf => ⟨(r.fr f hf).1, (r.fr f hf).2.1, by
    cases e : σ' f.1.locals with
    | none => rfl
    | some x => obtain ⟨y, hy, _⟩ := h _ _ e; rw [(r.fr f hf).2.2] at hy; cases hy⟩, r.nd,
    fun a x e => let ⟨y, hy, hw⟩ := h a x e; let ⟨o, h1, h2, h3⟩ := r.own a y hy; ⟨o, h1, hw o h2, h3⟩, fun a x e => let ⟨y, hy, _⟩ := h a x e; r.nomod a y hy, r.low, r.gens, r.hos⟩

theorem R.push {o : Obj} {x : AO} {t : Nat} (r : R prog w base os fs σ s) (hne : fs ≠ []) (hx : Has prog w o x) (hfree : o.isFreed = false := by rfl) :
    R prog w base os fs (σ.set s.heap.objs.size x) { s with heap := s.heap.push o, toks := t } :=
  (r.keeps (t := t) (fun b o' e => Heap.get?_push_of_some _ e)).add (Heap.get?_push_size _ hfree) hx r.base_none (fun f hf q => by
    obtain ⟨⟨_, _, _, hL, _⟩, _⟩ := r.fr f hf
    rw [q] at hL
    exact absurd (Heap.lt_size hL) (Nat.lt_irrefl _)) (beq_eq_false_iff_ne.mpr (Nat.ne_of_gt (Nat.lt_of_lt_of_le r.low (r.size_le hne))))

theorem R.enter {env' : Env} {b : Nm} {h' : Heap} {t : Nat} (r : R prog w base os fs σ s) (hne : fs ≠ []) (hl : env'.locals = s.heap.objs.size) (hn : h'.Ns s.heap.objs.size b) (hk : ∀ b o, s.heap.get? b = some o → h'.get? b = some o) :
    R prog w base os ((env', b) :: fs) σ { s with heap := h', toks := t } := by
  have r' := r.keeps (t := t) hk
  refine ⟨r'.keep, fun f hf => ?_, ?_, r'.own, r'.nomod, r'.low, r'.gens, r'.hos⟩
  · rcases List.mem_cons.mp hf with rfl | hf
    · rw [hl]
      exact ⟨hn, r.size_le hne, r.fresh⟩
    · exact r'.fr f hf
  · simp only [List.map_cons, List.nodup_cons]
    refine ⟨fun q => ?_, r.nd⟩
    obtain ⟨f, hf, e⟩ := List.mem_map.mp q
    obtain ⟨⟨_, _, _, hL, _⟩, _⟩ := r.fr f hf
    rw [e, hl] at hL
    exact absurd (Heap.lt_size hL) (Nat.lt_irrefl _)

theorem R.pop {f : Env × Nm} (r : R prog w base os (f :: fs) σ s) : R prog w base os fs σ s :=
  ⟨r.keep, fun g hg => r.fr g (.tail _ hg), (by have := r.nd; simp only [List.map_cons, List.nodup_cons] at this; exact this.2), r.own, r.nomod, r.low, r.gens, r.hos⟩

theorem R.ns (r : R prog w base os ((env, m) :: fs) σ s) : s.heap.Ns env.locals m := (r.fr _ (.head _)).1

theorem R.F (r : R prog w base os ((env, m) :: fs) σ s) : Fr base env.locals s.heap m := ⟨r.ns, r.keep, (r.fr _ (.head _)).2.1⟩

theorem R.slots {h' : Heap} {t : Nat} (r : R prog w base os fs σ s) (hk : ∀ b o, base.get? b = some o → h'.get? b = some o) (ho : ∀ a x, σ a = some x → h'.get? a = s.heap.get? a) (hu : s.heap.UpToSlots h') :
    R prog w base os fs σ { s with heap := h', toks := t } := by
  refine ⟨hk, fun f hf => ?_, r.nd, fun a x e => ?_, r.nomod, r.low, r.gens, r.hos⟩
  · obtain ⟨⟨o, es, ep, q1, q2, q3⟩, k2, k3⟩ := r.fr f hf
    obtain ⟨sl, hs⟩ := hu _ _ q1 (fun vs q => by rw [q2] at q; cases q)
    exact ⟨⟨_, es, ep, hs, q2, q3⟩, k2, k3⟩
  · obtain ⟨o, q1, q2⟩ := r.own a x e
    exact ⟨o, (ho a x e).trans q1, q2⟩
end
end Mine
namespace Mine

theorem ofs_inj (a b : String) : (Str.ofString a = Str.ofString b) ↔ a = b := by
  constructor
  · intro h
    rw [Str.ofString_eq_byList] at h
    unfold Str.ofStringByList at h
    have h1 := congrArg (fun x : Str => x.cps.toList) h
    simp only at h1
    have h2 : a.toList.map Char.toNat = b.toList.map Char.toNat := by simpa using h1
    have h3 : a.toList = b.toList := by
      have inj : ∀ (x y : List Char), x.map Char.toNat = y.map Char.toNat → x = y := by
        intro x
        induction x with
        | nil => intro y e; cases y with | nil => rfl | cons _ _ => cases e
        | cons c r ih =>
          intro y e
          cases y with
          | nil => cases e
          | cons d t =>
            simp only [List.map_cons, List.cons.injEq] at e
            rw [ih t e.2, Char.toNat_inj.mp e.1]
      exact inj _ _ h2
    exact String.toList_inj.mp h3
  · rintro rfl; rfl

def mset (m : Nm) (x : Str) (v : Value) : Nm := fun y => if y = x then some v else m y

structure Act (K : Frag) (H : Option Value) (n : Nat) (A : Around) (base : Heap) (es : List Env) : Prop where
  frames : A.frames = some es
  envs : ∀ e ∈ es, e.frame = some e.locals ∧ e.scope.kind = .function ∧ e.globals = mainGlobals ∧ e.builtins = builtinsNs
  kin : K.In base
  top : ∃ p loose mg mb, TopRead p loose mg mb base
  hand : A.handled = H
  guards : A.guards = some []
  room : A.depth + 4 * n < recursionLimit
  units : A.units + 100 * n < cLine

def Fly (base : Heap) (es : List Env) (σ : Hp) (e : Value) (cls : String) (s : Shared) : Prop :=
  ∃ a a0 B, e = .ref a ∧ base.StaysIn B ∧ (∀ b x, σ b = some x → B.get? b = s.heap.get? b) ∧ Heap.FlyingW B es a (.type cls) a0 s.heap

structure Raised (h h' : Heap) (e : Addr) (cls : String) : Prop where
  keeps : ∀ b o, h.get? b = some o → h'.get? b = some o
  new : h.get? e = none
  there : ∃ oe vs a0, h'.get? e = some oe ∧ oe.cls = .type cls ∧ oe.data = .fields vs ∧ vs[1]? = some .none ∧ vs[0]? = some a0

theorem Raised.of_new {h h' : Heap} {e : Addr} {cls : String} (x : Heap.NewExc h h' e cls) : Raised h h' e cls :=
  ⟨x.keeps, x.new, let ⟨ob, t, h1, h2, h3⟩ := x.there; ⟨ob, _, t, h1, h2, h3, rfl, rfl⟩⟩

def Up (prog : Program) (w : World) (base : Heap) (os : OsState) (fs : List (Env × Nm)) (σ : Hp) (e : Value) (cls : String) (s : Shared) : Prop :=
  (∃ s₀ a, e = .ref a ∧ R prog w base os fs σ s₀ ∧ Raised s₀.heap s.heap a cls ∧ s.gens = #[] ∧ s.os = os) ∨
  (R prog w base os fs σ s ∧ Fly base (fs.map (·.1)) σ e cls s)

section
variable {prog : Program} {w : World} {K : Frag} {H : Option Value} {n : Nat} {A : Around} {base : Heap} {env : Env} {os : OsState} {fs : List (Env × Nm)} {m : Nm} {σ : Hp} {s : Shared}
  {E : Value → Shared → Prop}

theorem Act.in1 {es : List Env} (a : Act K H (n + 1) A base es) : Act K H n A.in1 base es :=
  ⟨a.frames, a.envs, a.kin, a.top, a.hand, a.guards, by have := a.room; show A.depth + 4 * n < recursionLimit; omega, by have := a.units; show A.units + 1 + 100 * n < cLine; omega⟩
theorem Act.low {es : List Env} (a : Act K H (n + 1) A base es) : Act K H n A base es :=
  ⟨a.frames, a.envs, a.kin, a.top, a.hand, a.guards, by have := a.room; omega, by have := a.units; omega⟩
theorem Act.lower {es : List Env} {k : Nat} (a : Act K H n A base es) (h : k ≤ n) : Act K H k A base es :=
  ⟨a.frames, a.envs, a.kin, a.top, a.hand, a.guards, by have := a.room; omega, by have := a.units; omega⟩
theorem Act.mark {es : List Env} {e : Value} (a : Act K H n A base es) : Act K (some e) n (A.mark (some e)) base es :=
  ⟨a.frames, a.envs, a.kin, a.top, rfl, a.guards, a.room, a.units⟩
theorem Act.deeper {es : List Env} {env' : Env} (a : Act K H (n + 1) A base es) (h : env'.frame = some env'.locals ∧ env'.scope.kind = .function ∧ env'.globals = mainGlobals ∧ env'.builtins = builtinsNs) :
    Act K H n (A.deeper env') base (env' :: es) :=
  ⟨Around.frames_deeper a.frames, fun e he => by
      rcases List.mem_cons.mp he with rfl | he
      · exact h
      · exact a.envs e he,
    a.kin, a.top, a.hand, a.guards, by have := a.room; show A.depth + 1 + 4 * n < recursionLimit; omega, by have := a.units; show A.units + 3 + 100 * n < cLine; omega⟩

theorem R.kin (r : R prog w base os fs σ s) {es : List Env} (a : Act K H n A base es) : K.In s.heap := a.kin.keeps r.keep

theorem R.funFrames {es : List Env} {B : Heap} (r : R prog w base os fs σ s) (a : ∀ e ∈ fs.map (·.1), e.frame = some e.locals ∧ e.scope.kind = .function) (hB : ∀ f ∈ fs, B.get? f.1.locals = none) :
    s.heap.FunFrames B (fs.map (·.1)) := by
  have fr := r.fr
  clear r
  induction fs with
  | nil => trivial
  | cons f t ih =>
    obtain ⟨⟨o, es', ep, q1, q2, _⟩, _, _⟩ := fr f (.head _)
    have ha := a f.1 (.head _)
    exact ⟨by rw [ha.2]; decide, ⟨f.1.locals, o, ha.1, hB f (.head _), q1, fun vs q => by rw [q2] at q; cases q⟩,
      ih (fun e he => a e (.tail _ he)) (fun g hg => hB g (.tail _ hg)) fun g hg => fr g (.tail _ hg)⟩

theorem R.baseB (r : R prog w base os fs σ s) : base.StaysIn (hideAll s.heap (fs.map (·.1.locals))) := fun b o hb =>
  hideAll_get _ (r.keep b o hb) fun hm => by
    obtain ⟨f, hf, e⟩ := List.mem_map.mp hm
    have := (r.fr f hf).2.1
    rw [e] at this
    exact absurd (Heap.lt_size hb) (Nat.not_lt.mpr this)
theorem R.ownB (r : R prog w base os fs σ s) {a : Addr} {x : AO} (h : σ a = some x) {o : Obj} (ho : s.heap.get? a = some o) : (hideAll s.heap (fs.map (·.1.locals))).get? a = some o :=
  hideAll_get _ ho fun hm => by
    obtain ⟨f, hf, e⟩ := List.mem_map.mp hm
    have := (r.fr f hf).2.2
    rw [e, h] at this
    cases this

theorem Act.frs {es : List Env} (a : Act K H n A base es) : ∀ e ∈ es, e.frame = some e.locals ∧ e.scope.kind = .function := fun e he => ⟨(a.envs e he).1, (a.envs e he).2.1⟩

theorem leave_new {s₀ : Shared} {s' : Shared} {e : Addr} {cls : String} {Q : Unit → Shared → Prop} (a : Act K H n A base (env :: fs.map (·.1)))
    (r : R prog w base os ((env, m) :: fs) σ s₀) (hx : Raised s₀.heap s'.heap e cls) (hg : s'.gens = #[]) (ho : s'.os = os)
    (h : ∀ s'', R prog w base os fs σ s'' → Fly base (fs.map (·.1)) σ (.ref e) cls s'' → Q () s'') : wpAny (model prog w) A (leaving env (.ref e)) Q E s' := by
  have fresh : ∀ b, s₀.heap.get? b = none → (hideAll s₀.heap (((env, m) :: fs).map (·.1.locals))).get? b = none := fun b hb => by
    cases hq : (hideAll s₀.heap (((env, m) :: fs).map (·.1.locals))).get? b with
    | none => rfl
    | some o' => have := of_hideAll _ hq; rw [hb] at this; cases this
  have ff : s₀.heap.FunFrames (hideAll s₀.heap (((env, m) :: fs).map (·.1.locals))) (((env, m) :: fs).map (·.1)) :=
    r.funFrames (es := []) a.frs fun f hf => hideAll_none _ (List.mem_map_of_mem (f := fun x : Env × Nm => x.1.locals) hf)
  obtain ⟨oe, vs, a0, he, hc, hd, h1, h0⟩ := hx.there
  refine wpAny_leaving_firstW (base := hideAll s₀.heap (((env, m) :: fs).map (·.1.locals))) a.frames (ff.of_keeps fun b o hb _ => ⟨o, hx.keeps b o hb, rfl⟩) (a.envs env (.head _)).1
    he (fun b o q => hx.keeps b o (of_hideAll _ q)) (fresh e hx.new) hd h1 h0 fun h' hL => ?_
  obtain ⟨k1, ⟨_, _, k2⟩, k3, hu⟩ := hL
  rw [hc] at k3
  have hfl : Heap.FlyingW (hideAll s₀.heap (((env, m) :: fs).map (·.1.locals))) (fs.map (·.1)) e (.type cls) a0 h' := ⟨k1, fresh e hx.new, k2, k3⟩
  have e1 : ∀ b x, σ b = some x → ∃ o, s'.heap.get? b = some o ∧ h'.get? b = some o ∧ (hideAll s₀.heap (((env, m) :: fs).map (·.1.locals))).get? b = some o := fun b x hb => by
    obtain ⟨o, q1, _⟩ := r.own b x hb
    exact ⟨o, hx.keeps _ _ q1, hfl.1 _ _ (r.ownB hb q1), r.ownB hb q1⟩
  have r' : R prog w base os ((env, m) :: fs) σ s' := by
    have := r.keeps (h' := s'.heap) (t := s'.toks) hx.keeps
    exact ⟨this.keep, this.fr, this.nd, this.own, this.nomod, this.low, hg, ho⟩
  have r2 := r'.slots (h' := h') (t := s'.toks) (fun b o hb => hfl.1 _ _ (r.baseB b o hb)) (fun b x hb => by obtain ⟨o, q1, q2, _⟩ := e1 b x hb; rw [q1, q2]) hu
  exact h _ r2.pop ⟨e, _, _, rfl, r.baseB, fun b x hb => by obtain ⟨o, _, q2, q3⟩ := e1 b x hb; exact q3.trans q2.symm, hfl⟩

theorem leave_on {s' : Shared} {e : Value} {cls : String} {Q : Unit → Shared → Prop} (a : Act K H n A base (env :: fs.map (·.1)))
    (r : R prog w base os ((env, m) :: fs) σ s') (hf : Fly base (env :: fs.map (·.1)) σ e cls s')
    (h : ∀ s'', R prog w base os fs σ s'' → Fly base (fs.map (·.1)) σ e cls s'' → Q () s'') : wpAny (model prog w) A (leaving env e) Q E s' := by
  obtain ⟨x, a0, B, rfl, hB, hl, hfl⟩ := hf
  refine wpAny_leaves_onW a.frames (a.envs env (.head _)).1 hfl fun h' hfl' hu => ?_
  have e1 : ∀ b y, σ b = some y → h'.get? b = s'.heap.get? b := fun b y hb => by
    obtain ⟨o, q1, _⟩ := r.own b y hb
    rw [q1]
    exact hfl'.1 _ _ ((hl b y hb).trans q1)
  have r2 := r.slots (h' := h') (t := s'.toks) (fun b o hb => hfl'.1 _ _ (hB b o hb)) e1 hu
  exact h _ r2.pop ⟨x, a0, B, rfl, hB, fun b y hb => (hl b y hb).trans (e1 b y hb).symm, hfl'⟩

theorem leave_up {s' : Shared} {e : Value} {cls : String} {Q : Unit → Shared → Prop} (a : Act K H n A base (env :: fs.map (·.1)))
    (u : Up prog w base os ((env, m) :: fs) σ e cls s')
    (h : ∀ s'', R prog w base os fs σ s'' → Fly base (fs.map (·.1)) σ e cls s'' → Q () s'') : wpAny (model prog w) A (leaving env e) Q E s' := by
  rcases u with ⟨s₀, x, rfl, r, hx, hg, ho⟩ | ⟨r, hf⟩
  · exact leave_new a r hx hg ho h
  · exact leave_on a r hf h
end

def CallT (prog : Program) (w : World) (K : Frag) (H : Option Value) (n : Nat) (f : Value) (args : Args) (σ : Hp) (Q : Value → Hp → Prop) (X : String → Hp → Prop) : Prop :=
  ∀ (A : Around) (base : Heap) (os : OsState) (fs : List (Env × Nm)) (s : Shared), Act K H n A base (fs.map (·.1)) → fs ≠ [] → R prog w base os fs σ s →
    ∀ (Q' : Value → Shared → Prop) (E' : Value → Shared → Prop), (∀ v σ' s', Q v σ' → R prog w base os fs σ' s' → Q' v s') →
      (∀ e cls σ' s', X cls σ' → R prog w base os fs σ' s' → Fly base (fs.map (·.1)) σ' e cls s' → E' e s') →
      codeAny (model prog w) A (.call f args) (fun r s' => match r with | .ok (.ret v) => Q' v s' | .ok _ => False | .error e => E' e s') s

section
variable {prog : Program} {w : World} {K : Frag} {H : Option Value} {n : Nat} {A : Around} {base : Heap} {env : Env} {os : OsState} {fs : List (Env × Nm)} {m : Nm} {σ : Hp} {s : Shared}

theorem CallT.mono {f : Value} {args : Args} {Q Q₂ : Value → Hp → Prop} {X X₂ : String → Hp → Prop} (c : CallT prog w K H n f args σ Q X) (hQ : ∀ v σ', Q v σ' → Q₂ v σ') (hX : ∀ c σ', X c σ' → X₂ c σ') :
    CallT prog w K H n f args σ Q₂ X₂ := fun A base os fs s a hne r Q' E' k1 k2 =>
  c A base os fs s a hne r Q' E' (fun v σ' s' q => k1 v σ' s' (hQ v σ' q)) fun e cls σ' s' x => k2 e cls σ' s' (hX cls σ' x)

theorem CallT.lower {f : Value} {args : Args} {Q : Value → Hp → Prop} {X : String → Hp → Prop} {k : Nat} (c : CallT prog w K H k f args σ Q X) (h : k ≤ n) : CallT prog w K H n f args σ Q X :=
  fun A base os fs s a hne r Q' E' k1 k2 => c A base os fs s (a.lower h) hne r Q' E' k1 k2

abbrev envOfCall (qual : Str) (scope : Scope) (cl : List (Str × Addr)) (cdv : Value) (f L : Addr) : Env := envX qual scope L f cdv cl

def Lv (prog : Program) (w : World) (A : Around) (base : Heap) (os : OsState) (env : Env) (fs : List (Env × Nm)) (X : String → Hp → Prop) : Value → Shared → Prop := fun e s' =>
  wpAny (model prog w) A (leaving env e) (fun _ s'' => ∃ σ' cls, X cls σ' ∧ R prog w base os fs σ' s'' ∧ Fly base (fs.map (·.1)) σ' e cls s'') (fun _ _ => False) s'

theorem lv_of_up {s' : Shared} {e : Value} {cls : String} {X : String → Hp → Prop} (a : Act K H n A base (env :: fs.map (·.1))) (u : Up prog w base os ((env, m) :: fs) σ e cls s') (x : X cls σ) : Lv prog w A base os env fs X e s' :=
  leave_up a u fun s'' r f => ⟨σ, cls, x, r, f⟩

def BodyT (prog : Program) (w : World) (K : Frag) (H : Option Value) (n : Nat) (sc : Scope) (cl : List (Str × Addr)) (body : List Stmt) (m : Nm) (σ : Hp) (Q : Value → Hp → Prop) (X : String → Hp → Prop) : Prop :=
  ∀ (A : Around) (base : Heap) (os : OsState) (env : Env) (fs : List (Env × Nm)) (s : Shared), env.scope = sc → env.cells = cl → Act K H n A base (env :: fs.map (·.1)) → R prog w base os ((env, m) :: fs) σ s →
    wpAny (model prog w) A (execs body env) (fun fl s' => ∃ m' σ', R prog w base os ((env, m') :: fs) σ' s' ∧ Q (match fl with | .ret v => v | _ => .none) σ') (Lv prog w A base os env fs X) s

theorem CallT.def {f : Addr} {name qual : Str} {params : Arguments} {body : List Stmt} {scope : Scope} {dV kV doc pm cdv ct oc : Value} {an od : Option Addr} {osl : Array (Option Value)} {args : Args} {binds : List (Str × Value)} {Q : Value → Hp → Prop} {X : String → Hp → Prop}
    (ho : K.lookup f = some ⟨oc, od, .func (fnOf name qual params body scope dV kV doc pm an cdv ct), osl⟩) (hcd : codeIn K cdv qual = true)
    (hbind : ∀ s : Shared, K.In s.heap → BindsTo s (fnOf name qual params body scope dV kV doc pm an cdv ct) args binds) (hloc : ∀ y ∈ binds, scope.names.lookup y.1 = some .local)
    (hcell : ∀ x ∈ scope.names, x.2 ≠ .cell) (hco : scope.isCoroutine = false) (hgen : scope.isGenerator = false) (hk : scope.kind = .function)
    (h : BodyT prog w K H n scope [] body (fun y => binds.reverse.lookup y) σ Q X) : CallT prog w K H (n + 1) (.ref f) args σ Q X := by
  intro A base os fs s a hne r Q' E' k1 k2
  have X₀ := r.kin a
  have lim : base.NoLimit := by obtain ⟨_, _, _, _, T⟩ := a.top; exact T.nolimit
  refine codeAny_call_def (fd := fnOf name qual params body scope dV kV doc pm an cdv ct) (body := body) (binds := binds) (by have := a.room; omega) (X₀ _ _ ho) rfl (lim.keeps r.keep) (codeRec_of X₀ hcd) rfl (hbind s X₀) hcell hloc (fun h₁ hns hk₁ => ?_) hco hgen hk
  have r1 := r.enter (env' := envX qual scope s.heap.objs.size f cdv []) (t := s.toks + binds.length) hne rfl hns hk₁
  have a1 := a.deeper (env' := envX qual scope s.heap.objs.size f cdv []) ⟨rfl, hk, rfl, rfl⟩
  refine wpAny_mono (h _ base os (envX qual scope s.heap.objs.size f cdv []) fs _ rfl rfl a1 r1) ?_ ?_
  · rintro fl s' ⟨m', σ', r', q⟩
    exact k1 _ _ _ q r'.pop
  · intro e s' u
    exact wpAny_mono u (fun _ s'' ⟨σ', cls, x, r'', hf⟩ => k2 _ _ _ _ x r'' hf) fun _ _ z => z.elim
end
end Mine
namespace Mine

section
variable {prog : Program} {w : World} {K : Frag} {H : Option Value} {n : Nat} {A : Around} {base : Heap} {env : Env} {os : OsState} {fs : List (Env × Nm)} {m : Nm} {σ : Hp} {s : Shared}
  {E : Value → Shared → Prop}

def ledger (h : Heap) (σ : Hp) (fs : List (Env × Nm)) (d : Addr) : List (Addr × Obj) :=
  (List.range h.objs.size).filterMap fun a => if ((σ a).isSome || (fs.map (·.1.locals)).contains a) && a != d then (h.get? a).map (a, ·) else none

theorem mem_ledger {h : Heap} {d : Addr} {p : Addr × Obj} : p ∈ ledger h σ fs d ↔ ((σ p.1).isSome = true ∨ p.1 ∈ fs.map (·.1.locals)) ∧ p.1 ≠ d ∧ h.get? p.1 = some p.2 := by
  unfold ledger
  rw [List.mem_filterMap]
  constructor
  · rintro ⟨a, ha, hp⟩
    split at hp
    · rename_i hc
      cases hg : h.get? a with
      | none => rw [hg] at hp; cases hp
      | some o =>
        rw [hg] at hp; cases hp
        simp only [Bool.and_eq_true, Bool.or_eq_true, bne_iff_ne, ne_eq, List.contains_iff_mem] at hc
        exact ⟨hc.1, hc.2, hg⟩
    · cases hp
  · rintro ⟨h1, h2, h3⟩
    refine ⟨p.1, List.mem_range.mpr (Heap.lt_size h3), ?_⟩
    rw [if_pos, h3]; · rfl
    simp only [Bool.and_eq_true, Bool.or_eq_true, bne_iff_ne, ne_eq, List.contains_iff_mem]
    exact ⟨h1, h2⟩

theorem R.ledger_news (r : R prog w base os ((env, m) :: fs) σ s) (d : Addr) : News base env.locals s.heap (ledger s.heap σ fs d) := by
  intro p hp
  obtain ⟨h1, _, h3⟩ := mem_ledger.mp hp
  obtain ⟨_, q2, q3⟩ := r.fr _ (.head _)
  refine ⟨h3, fun e => ?_, ?_⟩
  · rcases h1 with h1 | h1
    · rw [e, q3] at h1; cases h1
    · have := r.nd
      simp only [List.map_cons, List.nodup_cons] at this
      exact this.1 (e ▸ h1)
  · rcases h1 with h1 | h1
    · obtain ⟨x, hx⟩ := Option.isSome_iff_exists.mp h1
      exact (r.own _ _ hx).choose_spec.2.2
    · obtain ⟨f, hf, e⟩ := List.mem_map.mp h1
      have := (r.fr f (.tail _ hf)).2.1
      rw [e] at this
      cases hq : base.get? p.1 with
      | none => rfl
      | some o => exact absurd (Heap.lt_size hq) (Nat.not_lt.mpr this)

theorem R.of_ledger {h' : Heap} {t : Nat} {m' : Nm} {d : Addr} {o' : Obj} {x : AO} (r : R prog w base os ((env, m) :: fs) σ s)
    (hd : d ≠ env.locals ∧ d ∉ fs.map (·.1.locals)) (hm : (d == sysModules) = false) (F : Fr base env.locals h' m') (N : News base env.locals h' ((d, o') :: ledger s.heap σ fs d)) (hx : Has prog w o' x) :
    R prog w base os ((env, m') :: fs) (σ.set d x) { s with heap := h', toks := t } := by
  refine ⟨F.keep, fun f hf => ?_, r.nd, fun a y ha => ?_, fun a y ha => ?_, r.low, r.gens, r.hos⟩
  · rcases List.mem_cons.mp hf with rfl | hf
    · exact ⟨F.ns, F.above, by rw [Hp.set_ne _ _ (Ne.symm hd.1)]; exact (r.fr _ (.head _)).2.2⟩
    · obtain ⟨⟨o, es, ep, q1, q2⟩, k2, k3⟩ := r.fr f (.tail _ hf)
      have hne : f.1.locals ≠ d := fun e => hd.2 (e ▸ List.mem_map_of_mem (f := fun x : Env × Nm => x.1.locals) hf)
      have := N (f.1.locals, o) (.tail _ (mem_ledger.mpr ⟨.inr (List.mem_map_of_mem (f := fun x : Env × Nm => x.1.locals) hf), hne, q1⟩))
      exact ⟨⟨o, es, ep, this.1, q2⟩, k2, by rw [Hp.set_ne _ _ hne]; exact k3⟩
  · by_cases hb : a = d
    · subst hb
      rw [Hp.set_self] at ha; cases ha
      have := N (a, o') (.head _)
      exact ⟨o', this.1, hx, this.2.2⟩
    · rw [Hp.set_ne _ _ hb] at ha
      obtain ⟨o, q1, q2, q3⟩ := r.own a y ha
      have := N (a, o) (.tail _ (mem_ledger.mpr ⟨.inl (by rw [ha]; rfl), hb, q1⟩))
      exact ⟨o, this.1, q2, q3⟩
  · by_cases hb : a = d
    · subst hb; exact hm
    · rw [Hp.set_ne _ _ hb] at ha; exact r.nomod a y ha

theorem R.own_ne {d : Addr} {x : AO} (r : R prog w base os ((env, m) :: fs) σ s) (e : σ d = some x) : d ≠ env.locals ∧ d ∉ fs.map (·.1.locals) := by
  refine ⟨fun q => ?_, fun q => ?_⟩
  · have := (r.fr _ (.head _)).2.2; rw [← q, e] at this; cases this
  · obtain ⟨f, hf, e'⟩ := List.mem_map.mp q
    have := (r.fr f (.tail _ hf)).2.2; rw [e', e] at this; cases this

theorem R.cons_news {d : Addr} {x : AO} {o : Obj} (r : R prog w base os ((env, m) :: fs) σ s) (e : σ d = some x) (ho : s.heap.get? d = some o) : News base env.locals s.heap ((d, o) :: ledger s.heap σ fs d) := by
  intro p hp
  rcases List.mem_cons.mp hp with rfl | hp
  · obtain ⟨o1, q1, _, q3⟩ := r.own _ _ e
    exact ⟨ho, (r.own_ne e).1, q3⟩
  · exact r.ledger_news d p hp

theorem ledger_ne {h : Heap} {d : Addr} : ∀ p ∈ ledger h σ fs d, p.1 ≠ d := fun p hp => (mem_ledger.mp hp).2.1

theorem isStr_bytes {k : Value} {x : Str} {t : Tok} (h : k = .str x t) (y : Str) : k.isStr y = decide (x = y) := by subst h; simp [Value.isStr, BEq.beq]

theorem getL_put (name : Str) (hsh : Int) (tk : Tok) (v : Value) (x : Str) : ∀ (es : List DictEntry), (∀ e ∈ es, ∃ y t, e.key = .str y t) → getL x (putL name hsh (.str name tk) v es) = if x = name then some (some v) else getL x es
  | [], _ => by
    unfold getL putL
    by_cases hx : x = name
    · subst hx; simp [Value.isStr]
    · have : (name == x) = false := by simpa using fun q => hx q.symm
      simp [Value.isStr, this, hx, DictEntry.refKey]
  | e :: r, hk => by
    obtain ⟨y, t, hy⟩ := hk e (.head _)
    have ih := getL_put name hsh tk v x r fun e' he' => hk e' (.tail _ he')
    unfold putL
    have e1 : e.key.isStr name = decide (y = name) := isStr_bytes hy name
    have e2 : e.key.isStr x = decide (y = x) := isStr_bytes hy x
    by_cases hn : y = name
    · simp only [e1, hn, decide_true, if_true]
      unfold getL
      simp only [List.find?_cons, List.any_cons]
      have e3 : e.key.isStr x = decide (name = x) := by rw [e2, hn]
      by_cases hx : x = name
      · subst hx; simp [e3]
      · have hx' : ¬ name = x := fun q => hx q.symm
        simp [e3, hx, hx', DictEntry.refKey]
    · simp only [e1, hn, decide_false, Bool.false_eq_true, if_false]
      unfold getL at ih ⊢
      simp only [List.find?_cons, List.any_cons, e2]
      by_cases hx : y = x
      · subst hx; simp [hn]
      · simp only [hx, decide_false]
        have hr : e.refKey = false := by simp [DictEntry.refKey, hy]
        simp only [hr, Bool.false_or]
        exact ih

theorem putL_keys (name : Str) (hsh : Int) (tk : Tok) (v : Value) : ∀ (es : List DictEntry), (∀ e ∈ es, ∃ y t, e.key = .str y t) → ∀ e ∈ putL name hsh (.str name tk) v es, ∃ y t, e.key = .str y t
  | [], _ => fun e he => by rcases List.mem_cons.mp he with rfl | h; exact ⟨_, _, rfl⟩; cases h
  | e :: r, hk => fun e' he' => by
    unfold putL at he'
    split at he'
    · rcases List.mem_cons.mp he' with rfl | h
      · exact hk e (.head _)
      · exact hk e' (.tail _ h)
    · rcases List.mem_cons.mp he' with rfl | h
      · exact hk e' (.head _)
      · exact putL_keys name hsh tk v r (fun x hx => hk x (.tail _ hx)) e' h
theorem putL_len (name : Str) (hsh : Int) (key v : Value) : ∀ (es : List DictEntry), (putL name hsh key v es).length ≤ es.length + 1
  | [] => Nat.le_refl _
  | e :: r => by
    unfold putL
    split
    · exact Nat.le_succ _
    · exact Nat.succ_le_succ (putL_len name hsh key v r)

theorem putL_len_old (name : Str) (hsh : Int) (key v : Value) : ∀ (es : List DictEntry), (es.find? (·.key.isStr name)).isSome = true → (putL name hsh key v es).length = es.length
  | [], h => by cases h
  | e :: r, h => by
    unfold putL
    cases he : e.key.isStr name with
    | true => simp
    | false =>
      simp only [Bool.false_eq_true, if_false, List.length_cons]
      rw [putL_len_old name hsh key v r (by simpa [List.find?_cons, he] using h)]

theorem v_own {x d C : Addr} {mm : Nm} {k : Nat} {name : Str} {v : Value} {expr : Bool} {attr : Option Value} {Q : Value → Shared → Prop} (a : Act K H n A base (env :: fs.map (·.1))) (r : R prog w base os ((env, m) :: fs) σ s)
    (hx : σ x = some (.inst C d)) (hd : σ d = some (.ns mm k)) (hl : mm name = some v) (hv : handedIn v = true)
    (hg : plainGet K C name = true) (hh : hasDictIn K C = true) (ha : findIn K (.ref C) name = some attr) (hn : noGet K attr = true)
    (h : ∀ s', R prog w base os ((env, m) :: fs) σ s' → Q v s') : wpAny (model prog w) A (getAttr (.ref x) name expr) Q E s := by
  obtain ⟨ox, h1, rfl⟩ := r.get hx
  obtain ⟨od, h2, es, ne, rfl, h3, h4, h5⟩ := r.get hd
  exact get_own r.F a.kin ⟨h1, rfl, rfl, h2⟩ hg hh ha hn (by rw [h4, hl]) hv (h _ (r.toks _))

theorem v_clsval {x d C : Addr} {mm : Nm} {k : Nat} {name : Str} {v : Value} {expr : Bool} {Q : Value → Shared → Prop} (a : Act K H n A base (env :: fs.map (·.1))) (r : R prog w base os ((env, m) :: fs) σ s)
    (hx : σ x = some (.inst C d)) (hd : σ d = some (.ns mm k)) (hl : mm name = none) (hv : handedIn v = true)
    (hg : plainGet K C name = true) (hh : hasDictIn K C = true) (ha : findIn K (.ref C) name = some (some v)) (hn : specialIn K v "__get__" = some none) (hc : copiedNames.contains name = false)
    (h : ∀ s', R prog w base os ((env, m) :: fs) σ s' → Q v s') : wpAny (model prog w) A (getAttr (.ref x) name expr) Q E s := by
  obtain ⟨ox, h1, rfl⟩ := r.get hx
  obtain ⟨od, h2, es, ne, rfl, h3, h4, h5⟩ := r.get hd
  exact get_cls r.F a.kin ⟨h1, rfl, rfl, h2⟩ hg hh ha hn hv hc (by rw [h4, hl]) (h _ (r.toks _))

theorem v_meth {x d C f : Addr} {mm : Nm} {k : Nat} {name : Str} {pl : Sem Bool} {Q : Value × List Value → Shared → Prop} (a : Act K H n A base (env :: fs.map (·.1))) (r : R prog w base os ((env, m) :: fs) σ s)
    (hx : σ x = some (.inst C d)) (hd : σ d = some (.ns mm k)) (hl : mm name = none)
    (hg : plainGet K C name = true) (hf : findIn K (.ref C) name = some (some (.ref f))) (ht : isFn K (.ref f) = true)
    (h : Q (.ref f, [.ref x]) s) : wpAny (model prog w) A (getMethod (.ref x) name pl) Q E s := by
  obtain ⟨ox, h1, rfl⟩ := r.get hx
  obtain ⟨od, h2, es, ne, rfl, h3, h4, h5⟩ := r.get hd
  exact method_inst r.F a.kin ⟨h1, rfl, rfl, h2⟩ hg hf ht (by rw [h4, hl]) h

theorem v_setown {x d C : Addr} {mm : Nm} {k : Nat} {name : Str} {v : Value} {Q : Unit → Shared → Prop} (a : Act K H n A base (env :: fs.map (·.1))) (r : R prog w base os ((env, m) :: fs) σ s)
    (hx : σ x = some (.inst C d)) (hd : σ d = some (.ns mm k)) (hk : k ≤ 900)
    (hs : findIn K (.ref C) "__setattr__" = some (some (.builtin "object.__setattr__"))) (hp : plainOver K C = true) (ht : takerIn K C name = some none) (hh : hasDictIn K C = true)
    (h : ∀ s', R prog w base os ((env, m) :: fs) (σ.set d (.ns (mset mm name v) (k + 1))) s' → Q () s') : wpAny (model prog w) A (setAttr (.ref x) name v) Q E s := by
  obtain ⟨ox, h1, rfl⟩ := r.get hx
  obtain ⟨od, h2, es, ne, rfl, h3, h4, h5⟩ := r.get hd
  refine PySem.W.set_dict r.F a.kin (r.cons_news hd h2) ⟨h1, rfl, rfl, h2⟩ rfl hs hp ht hh (by rw [h4]; rfl) rfl (.head ledger_ne) (by have := putL_len name (PyData.keyHash w.params name) (.str name (s.toks + 1)) v es; omega) fun h' F' N' => ?_
  refine h _ (r.of_ledger (r.own_ne hd) (r.nomod _ _ hd) F' N' ⟨_, _, rfl, putL_keys _ _ _ _ es h3, fun y => ?_, ?_⟩)
  · rw [getL_put _ _ _ _ _ es h3, h4]; unfold mset; split <;> rfl
  · have := putL_len name (PyData.keyHash w.params name) (.str name (s.toks + 1)) v es; omega
theorem v_setold {x d C : Addr} {mm : Nm} {k : Nat} {name : Str} {v : Value} {Q : Unit → Shared → Prop} (a : Act K H n A base (env :: fs.map (·.1))) (r : R prog w base os ((env, m) :: fs) σ s)
    (hx : σ x = some (.inst C d)) (hd : σ d = some (.ns mm k)) (hk : k ≤ 900) (hold : (mm name).isSome = true)
    (hs : findIn K (.ref C) "__setattr__" = some (some (.builtin "object.__setattr__"))) (hp : plainOver K C = true) (ht : takerIn K C name = some none) (hh : hasDictIn K C = true)
    (h : ∀ s', R prog w base os ((env, m) :: fs) (σ.set d (.ns (mset mm name v) k)) s' → Q () s') : wpAny (model prog w) A (setAttr (.ref x) name v) Q E s := by
  obtain ⟨ox, h1, rfl⟩ := r.get hx
  obtain ⟨od, h2, es, ne, rfl, h3, h4, h5⟩ := r.get hd
  refine PySem.W.set_dict r.F a.kin (r.cons_news hd h2) ⟨h1, rfl, rfl, h2⟩ rfl hs hp ht hh (by rw [h4]; rfl) rfl (.head ledger_ne) (by have := putL_len name (PyData.keyHash w.params name) (.str name (s.toks + 1)) v es; omega) fun h' F' N' => ?_
  refine h _ (r.of_ledger (r.own_ne hd) (r.nomod _ _ hd) F' N' ⟨_, _, rfl, putL_keys _ _ _ _ es h3, fun y => ?_, ?_⟩)
  · rw [getL_put _ _ _ _ _ es h3, h4]; unfold mset; split <;> rfl
  · rw [putL_len_old]; · exact h5
    have := h4 name
    unfold getL at this
    cases hf : es.find? (·.key.isStr name) with
    | some e => rfl
    | none =>
      rw [hf] at this
      simp only at this
      split at this
      · cases this
      · rw [← Option.some.inj this] at hold; cases hold
end
end Mine
namespace Mine

section
variable {prog : Program} {w : World} {K : Frag} {H : Option Value} {n : Nat} {A : Around} {base : Heap} {env : Env} {os : OsState} {fs : List (Env × Nm)} {m : Nm} {σ : Hp} {s : Shared}
  {E : Value → Shared → Prop}

theorem R.dictOf {fs : List (Env × Nm)} {d : Addr} {kvs : List (Int × Value)} (r : R prog w base os fs σ s) (e : σ d = some (.dict kvs)) : s.heap.DictOf (intKind prog w) d kvs := by
  obtain ⟨o, h1, h2⟩ := r.get e
  exact Heap.dictOf_iff.mpr ⟨o, h1, h2⟩
theorem R.isL {fs : List (Env × Nm)} {d : Addr} {xs : List Value} (r : R prog w base os fs σ s) (e : σ d = some (.list xs)) : ∃ n, IsL s.heap d xs.toArray n := by
  obtain ⟨o, h1, n, rfl⟩ := r.get e
  exact ⟨n, h1⟩
theorem R.isList {fs : List (Env × Nm)} {d : Addr} {xs : List Value} (r : R prog w base os fs σ s) (e : σ d = some (.list xs)) : s.heap.IsList d xs.toArray := by
  obtain ⟨n, h⟩ := r.isL e
  exact h.isList
theorem R.isTup {fs : List (Env × Nm)} {d : Addr} {xs : List Value} (r : R prog w base os fs σ s) (e : σ d = some (.tup xs)) : IsTup s.heap d xs.toArray := by
  obtain ⟨o, h1, h2, h3⟩ := r.get e
  exact ⟨o, h1, h2, h3⟩
theorem R.setDict {d : Addr} {kvs kvs' : List (Int × Value)} {h' : Heap} {t : Nat} (r : R prog w base os fs σ s) (e : σ d = some (.dict kvs)) (hm : h'.DictOf (intKind prog w) d kvs') (hs : Heap.SameBut d s.heap h') :
    R prog w base os fs (σ.set d (.dict kvs')) { s with heap := h', toks := t } := by
  obtain ⟨o', ho', hd'⟩ := Heap.dictOf_iff.mp hm
  exact r.upd e hs ho' hd'

theorem v_ditem {value slice : Expr} {d : Addr} {kvs : List (Int × Value)} {k : Int} {tk : Tok} {v : Value} {Q : Value → Shared → Prop} (r : R prog w base os fs σ s)
    (hd : σ d = some (.dict kvs)) (hl : valueAt kvs k = some v) (h : ∀ s', R prog w base os fs σ s' → Q v s')
    (hs : subscripted slice false (.ref d) (.int k tk) = operate [.ref d, .int k tk] (getItem (.ref d) (.int k tk))) :
    wpAny (model prog w) A (subscriptTail value slice (.ref d) (.int k tk)) Q E s :=
  have hD := r.dictOf hd
  tail_any hD.typeIs slot_dict_getitem.lookup (wpAny_getItem_of (intKind_is _ _ _ _) hD.mapOf hl (h _ (r.toks _))) hs

theorem v_din {d : Addr} {kvs : List (Int × Value)} {k : Int} {tk : Tok} {Q : Value → Shared → Prop} (r : R prog w base os fs σ s)
    (hd : σ d = some (.dict kvs)) (h : ∀ s', R prog w base os fs σ s' → Q (.bool (valueAt kvs k).isSome) s') : wpAny (model prog w) A (compareOp .In (.int k tk) (.ref d)) Q E s :=
  wpAny_in_of (intKind_is _ _ _ _) (r.nomod _ _ hd) (r.dictOf hd).mapOf (h _ (r.toks _))
theorem v_dnotin {d : Addr} {kvs : List (Int × Value)} {k : Int} {tk : Tok} {Q : Value → Shared → Prop} (r : R prog w base os fs σ s)
    (hd : σ d = some (.dict kvs)) (h : ∀ s', R prog w base os fs σ s' → Q (.bool (!(valueAt kvs k).isSome)) s') : wpAny (model prog w) A (compareOp .NotIn (.int k tk) (.ref d)) Q E s :=
  wpAny_notIn_of (intKind_is _ _ _ _) (r.nomod _ _ hd) (r.dictOf hd).mapOf (h _ (r.toks _))
theorem v_dlen {d : Addr} {kvs : List (Int × Value)} {Q : Value → Shared → Prop} (r : R prog w base os fs σ s)
    (hd : σ d = some (.dict kvs)) (hz : kvs.length ≤ 1000) (h : ∀ s' t, R prog w base os fs σ s' → Q (.int kvs.length t) s') : wpAny (model prog w) A (call (.builtin "len") [.ref d]) Q E s :=
  call_len_dict (r.nomod _ _ hd) (r.dictOf hd) (by omega) (h _ _ (r.toks _))
theorem v_dtruth {d : Addr} {kvs : List (Int × Value)} {Q : Bool → Shared → Prop} (r : R prog w base os fs σ s)
    (hd : σ d = some (.dict kvs)) (hz : kvs.length ≤ 1000) (h : ∀ s', R prog w base os fs σ s' → Q (!kvs.isEmpty) s') : wpAny (model prog w) A (truthy (.ref d)) Q E s :=
  wpAny_truthy_dict (r.nomod _ _ hd) (r.dictOf hd) (by omega) (h _ (r.toks _))
theorem v_ltruth {d : Addr} {xs : List Value} {Q : Bool → Shared → Prop} (r : R prog w base os fs σ s)
    (hd : σ d = some (.list xs)) (hz : xs.length ≤ 100000) (h : ∀ s', R prog w base os fs σ s' → Q (!xs.isEmpty) s') : wpAny (model prog w) A (truthy (.ref d)) Q E s :=
  wpAny_truthy_list (r.isList hd) (by rw [List.size_toArray]; omega) (by have := h _ (r.toks (s.toks + 1 + 1)); cases xs <;> exact this)
theorem v_dset {d : Addr} {kvs : List (Int × Value)} {k : Int} {tk : Tok} {v : Value} {Q : Unit → Shared → Prop} (r : R prog w base os fs σ s)
    (hd : σ d = some (.dict kvs)) (hz : kvs.length ≤ 1000) (h : ∀ s', R prog w base os fs (σ.set d (.dict (stored kvs k v))) s' → Q () s') : wpAny (model prog w) A (setItem (.ref d) (.int k tk) v) Q E s :=
  wpAny_setItem_pairs (hsz := by rw [sizeLine_eq]; omega) (intKind_is _ _ _ _) (r.dictOf hd) fun _ hm hs => h _ (r.setDict hd hm hs)

theorem v_ddel {d : Addr} {kvs : List (Int × Value)} {k : Int} {tk : Tok} {Q : Unit → Shared → Prop} (r : R prog w base os ((env, m) :: fs) σ s)
    (hd : σ d = some (.dict kvs)) (hz : kvs.length ≤ 1000) (hl : (valueAt kvs k).isSome = true) (h : ∀ s', R prog w base os ((env, m) :: fs) (σ.set d (.dict (without kvs k))) s' → Q () s') :
    wpAny (model prog w) A (delItem (.ref d) (.int k tk)) Q E s := by
  obtain ⟨o, h1, h2⟩ := r.get hd
  exact kob_del r.F (r.cons_news hd h1) (.head ledger_ne) h2 (intKind_is _ _ _ _) hl (by rw [sizeLine_eq]; omega) fun h' o' F' N' hd' => h _ (r.of_ledger (r.own_ne hd) (r.nomod _ _ hd) F' N' hd')

theorem v_dpop {d : Addr} {kvs : List (Int × Value)} {k : Int} {tk : Tok} {v : Value} {Q : Value → Shared → Prop} (r : R prog w base os ((env, m) :: fs) σ s)
    (hd : σ d = some (.dict kvs)) (hz : kvs.length ≤ 1000) (hl : valueAt kvs k = some v) (h : ∀ s', R prog w base os ((env, m) :: fs) (σ.set d (.dict (without kvs k))) s' → Q v s') :
    wpAny (model prog w) A (call (.builtin "dict.pop") [.ref d, .int k tk]) Q E s := by
  obtain ⟨o, h1, h2⟩ := r.get hd
  exact kob_pop r.F (r.cons_news hd h1) (.head ledger_ne) h2 (intKind_is _ _ _ _) (.inl rfl) rfl (by unfold argsOk; kernel_rfl) hl (by rw [sizeLine_eq]; omega) fun h' o' F' N' hd' => h _ (r.of_ledger (r.own_ne hd) (r.nomod _ _ hd) F' N' hd')

theorem v_dmeth {d : Addr} {kvs : List (Int × Value)} {name : Str} {id : String} {pl : Sem Bool} {Q : Value × List Value → Shared → Prop} (r : R prog w base os fs σ s)
    (hd : σ d = some (.dict kvs)) (slot : Slot "dict" name id) (ty : typeOf (.builtin id) = pure (.type "method_descriptor")) (h : Q (.builtin id, [.ref d]) s) : wpAny (model prog w) A (getMethod (.ref d) name pl) Q E s :=
  have hD := r.dictOf hd
  getMethod_builtin hD.typeIs PySem.F.plainAttrs_dict slot ty hD.mapOf.noDict h

theorem v_callK {f : Value} {first : List Value} {args : List (Bool × Sem Value)} {pos : Pos} {Q : Value → Shared → Prop} (a : Act K H n A base (env :: fs.map (·.1))) (hk : keepIn K f = true) (hp : args.any (·.1) = false)
    (h : wpAny (model prog w) A (evalArgs f true args []) (fun x s₁ => (∃ m' σ', R prog w base os ((env, m') :: fs) σ' s₁) ∧ wpAny (model prog w) A (call f (first ++ x.pos) x.kw) Q E s₁) E s) :
    wpAny (model prog w) A (callWith pos f first args []) Q E s := by
  refine callWith_of (P := fun h => K.In h) (by rw [hp]; rfl) (keeps_K hk) (wpAny_mono h (fun x s₁ ⟨⟨m', σ', r⟩, q⟩ => ⟨r.kin a, q⟩) fun _ _ z => z)
theorem v_callB {id : String} {first : List Value} {args : List (Bool × Sem Value)} {pos : Pos} {Q : Value → Shared → Prop} (hp : args.any (·.1) = false)
    (h : wpAny (model prog w) A (evalArgs (.builtin id) true args []) (fun x s₁ => wpAny (model prog w) A (call (.builtin id) (first ++ x.pos) x.kw) Q E s₁) E s) :
    wpAny (model prog w) A (callWith pos (.builtin id) first args []) Q E s :=
  callWith_of (P := fun _ => True) (by rw [hp]; rfl) (fun _ _ => ⟨.machine, .inr (.inl rfl), Looks.of_pure rfl⟩) (wpAny_mono h (fun _ _ q => ⟨trivial, q⟩) fun _ _ z => z)
theorem v_callTy {id : String} {first : List Value} {args : List (Bool × Sem Value)} {pos : Pos} {Q : Value → Shared → Prop} (hp : args.any (·.1) = false)
    (h : wpAny (model prog w) A (evalArgs (.type id) true args []) (fun x s₁ => wpAny (model prog w) A (call (.type id) (first ++ x.pos) x.kw) Q E s₁) E s) :
    wpAny (model prog w) A (callWith pos (.type id) first args []) Q E s :=
  callWith_of (P := fun _ => True) (by rw [hp]; rfl) (fun _ _ => ⟨.machine, .inr (.inl rfl), Looks.of_pure rfl⟩) (wpAny_mono h (fun _ _ q => ⟨trivial, q⟩) fun _ _ z => z)

theorem v_told {f : Value} {vs : List Value} {k : Nat} {Q₀ : Value → Hp → Prop} {X : String → Hp → Prop} {Q : Value → Shared → Prop} (a : Act K H n A base (env :: fs.map (·.1))) (r : R prog w base os ((env, m) :: fs) σ s)
    (c : CallT prog w K H k f ⟨vs, []⟩ σ Q₀ X) (hk : k ≤ n) (h : ∀ v σ' s', Q₀ v σ' → R prog w base os ((env, m) :: fs) σ' s' → Q v s')
    (he : ∀ e cls σ' s', X cls σ' → Up prog w base os ((env, m) :: fs) σ' e cls s' → E e s') : wpAny (model prog w) A (call f vs) Q E s :=
  wpAny_call (c A base os ((env, m) :: fs) s (a.lower hk) (by simp) r Q E h fun e cls σ' s' x r' f' => he e cls σ' s' x (.inr ⟨r', f'⟩))
theorem Act.head (a : Act K H n A base (env :: fs.map (·.1))) : env.frame = some env.locals ∧ env.scope.kind = .function ∧ env.globals = mainGlobals ∧ env.builtins = builtinsNs := a.envs env (.head _)

theorem v_local {x : Str} {pos : Pos} {v : Value} {Q : Value → Shared → Prop} (a : Act K H n A base (env :: fs.map (·.1))) (r : R prog w base os ((env, m) :: fs) σ s)
    (hl : env.kindOf x = some .local) (hv : m x = some v) (h : Q v s) (hd : (x == ("__debug__" : Str)) = false) :
    wpAny (model prog w) A (eval (.Name x pos) env) Q E s := wpAny_Name (wpAny_loadName_local a.head.2.1 hl r.ns hv h) hd

theorem v_global {x : Str} {pos : Pos} {v : Value} {Q : Value → Shared → Prop} (a : Act K H n A base (env :: fs.map (·.1))) (r : R prog w base os ((env, m) :: fs) σ s)
    (hl : env.kindOf x = some .globalImplicit) (hv : nsIn K mainGlobals x = some (some v)) (h : Q v s) (hd : (x == ("__debug__" : Str)) = false) :
    wpAny (model prog w) A (eval (.Name x pos) env) Q E s := by
  obtain ⟨p, loose, mg, mb, T⟩ := a.top
  exact Name_function_global a.head.2.1 hl (loadGlobal_global (by rw [a.head.2.2.1]; exact T.g.keeps r.keep) (mg_of a.kin T.g hv) h) hd

theorem v_builtin {x : Str} {pos : Pos} {v : Value} {Q : Value → Shared → Prop} (a : Act K H n A base (env :: fs.map (·.1))) (r : R prog w base os ((env, m) :: fs) σ s)
    (hl : env.kindOf x = some .globalImplicit) (he : nsIn K mainGlobals x = some none) (hv : bootBuiltins x = some v) (hn : x ≠ "__name__") (h : Q v s) (hd : (x == ("__debug__" : Str)) = false) :
    wpAny (model prog w) A (eval (.Name x pos) env) Q E s := by
  obtain ⟨p, loose, mg, mb, T⟩ := a.top
  exact Name_function_global a.head.2.1 hl (loadGlobal_builtin (by rw [a.head.2.2.1]; exact T.g.keeps r.keep) (mg_none_of a.kin T.g he) (by rw [a.head.2.2.2]; exact T.b.keeps r.keep) ((T.builtins x hn).trans hv) h) hd

theorem v_store {x : Str} {v : Value} {Q : Unit → Shared → Prop} (a : Act K H n A base (env :: fs.map (·.1))) (r : R prog w base os ((env, m) :: fs) σ s)
    (hl : env.kindOf x = some .local) (h : ∀ s', R prog w base os ((env, mset m x v) :: fs) σ s' → Q () s') :
    wpAny (model prog w) A (storeName env x v) Q E s :=
  wpAny_storeName_local hl r.ns (fun h' hn hs => h _ (r.loc hn hs)) (by rw [a.head.2.1]; rfl)
end
end Mine
namespace Mine

def fnName : Stmt → Str
  | .FunctionDef n .. => n
  | _ => default

theorem kof {env : Env} {sc : Scope} {x : Str} {k : NameKind} (hsc : env.scope = sc) (e : sc.names.lookup x = some k) : env.kindOf x = some k := by unfold Env.kindOf; rw [hsc]; exact e

section
variable {prog : Program} {w : World} {K : Frag} {H : Option Value} {n : Nat} {A : Around} {base : Heap} {env : Env} {os : OsState} {fs : List (Env × Nm)} {m : Nm} {σ : Hp} {s : Shared}
  {E : Value → Shared → Prop}

theorem v_int {i : Int} {k : Nat} {pos : Pos} {fs : List (Env × Nm)} {Q : Value → Shared → Prop} (r : R prog w base os fs σ s) (h : ∀ s' t, R prog w base os fs σ s' → Q (.int i t) s') :
    wpAny (model prog w) A (eval (.Constant (.int i) k pos) env) Q E s := wpAny_Constant_int (h _ _ (r.toks _))
theorem v_str {x : Str} {k : Nat} {pos : Pos} {fs : List (Env × Nm)} {Q : Value → Shared → Prop} (r : R prog w base os fs σ s) (h : ∀ s' t, R prog w base os fs σ s' → Q (.str x t) s') :
    wpAny (model prog w) A (eval (.Constant (.str x) k pos) env) Q E s := wpAny_Constant_str (h _ _ (r.toks _))

theorem v_isnone {v : Value} {Q : Value → Shared → Prop} (hp : plainIs v .none = true) (h : Q (.bool (v == .none)) s) : wpAny (model prog w) A (compareOp .Is v .none) Q E s := wpAny_is_plain hp h
theorem v_isnotnone {v : Value} {Q : Value → Shared → Prop} (hp : plainIs v .none = true) (h : Q (.bool (!(v == .none))) s) : wpAny (model prog w) A (compareOp .IsNot v .none) Q E s := wpAny_isNot_plain hp h

theorem v_lt {a b : Int} {t u : Tok} {Q : Value → Shared → Prop} (h : Q (.bool (decide (a < b))) s) : wpAny (model prog w) A (compareOp .Lt (.int a t) (.int b u)) Q E s := wpAny_lt_int h
theorem v_add {a b : Int} {t u : Tok} {fs : List (Env × Nm)} {Q : Value → Shared → Prop} (r : R prog w base os fs σ s) (h : ∀ s' t', R prog w base os fs σ s' → Q (.int (a + b) t') s') : wpAny (model prog w) A (binaryOp .Add (.int a t) (.int b u)) Q E s :=
  wpAny_add_int (h _ _ (r.toks _))
theorem v_iadd {a b : Int} {t u : Tok} {fs : List (Env × Nm)} {Q : Value → Shared → Prop} (r : R prog w base os fs σ s) (h : ∀ s' t', R prog w base os fs σ s' → Q (.int (a + b) t') s') : wpAny (model prog w) A (inplaceOp .Add (.int a t) (.int b u)) Q E s :=
  wpAny_iadd_int (h _ _ (r.toks _))

theorem v_sub {a b : Int} {t u : Tok} {fs : List (Env × Nm)} {Q : Value → Shared → Prop} (r : R prog w base os fs σ s) (h : ∀ s' t', R prog w base os fs σ s' → Q (.int (a - b) t') s') : wpAny (model prog w) A (binaryOp .Sub (.int a t) (.int b u)) Q E s :=
  P.sub_int (h _ _ (r.toks _))
theorem v_isub {a b : Int} {t u : Tok} {fs : List (Env × Nm)} {Q : Value → Shared → Prop} (r : R prog w base os fs σ s) (h : ∀ s' t', R prog w base os fs σ s' → Q (.int (a - b) t') s') : wpAny (model prog w) A (inplaceOp .Sub (.int a t) (.int b u)) Q E s :=
  P.isub_int (h _ _ (r.toks _))
theorem v_gt {a b : Int} {t u : Tok} {Q : Value → Shared → Prop} (h : Q (.bool (decide (a > b))) s) : wpAny (model prog w) A (compareOp .Gt (.int a t) (.int b u)) Q E s := P.gt_int h
theorem v_ge {a b : Int} {t u : Tok} {Q : Value → Shared → Prop} (h : Q (.bool (decide (a ≥ b))) s) : wpAny (model prog w) A (compareOp .GtE (.int a t) (.int b u)) Q E s := P.ge_int h
theorem v_eq {a b : Int} {t u : Tok} {Q : Value → Shared → Prop} (h : Q (.bool (a == b)) s) : wpAny (model prog w) A (compareOp .Eq (.int a t) (.int b u)) Q E s := P.eq_int h
theorem v_ne {a b : Int} {t u : Tok} {Q : Value → Shared → Prop} (h : Q (.bool (a != b)) s) : wpAny (model prog w) A (compareOp .NotEq (.int a t) (.int b u)) Q E s := P.ne_int h

theorem v_truth {b : Bool} {Q : Bool → Shared → Prop} (h : Q b s) : wpAny (model prog w) A (truthy (.bool b)) Q E s := wpAny_truthy_bool h
end
end Mine
namespace Mine
section
variable {prog : Program} {w : World} {K : Frag} {H : Option Value} {n : Nat} {A : Around} {base : Heap} {env : Env} {os : OsState} {fs : List (Env × Nm)} {m : Nm} {σ : Hp} {s : Shared}
  {E : Value → Shared → Prop}

theorem R.instAt {x d C : Addr} {mm : Nm} {k : Nat} (r : R prog w base os ((env, m) :: fs) σ s) (hx : σ x = some (.inst C d)) (hd : σ d = some (.ns mm k)) :
    ∃ od, InstAt s.heap x (instObj C d) C (some od) := by
  obtain ⟨ox, h1, rfl⟩ := r.get hx
  obtain ⟨od, h2, _⟩ := r.get hd
  exact ⟨od, h1, rfl, rfl, h2⟩

theorem v_in {x d C f : Addr} {mm : Nm} {k : Nat} {v : Value} {Q : Value → Shared → Prop} (a : Act K H n A base (env :: fs.map (·.1))) (r : R prog w base os ((env, m) :: fs) σ s)
    (hx : σ x = some (.inst C d)) (hd : σ d = some (.ns mm k)) (hs : findIn K (.ref C) "__contains__" = some (some (.ref f))) (hf : isFn K (.ref f) = true)
    (h : wpAny (model prog w) A (call (.ref f) [.ref x, v]) (fun r s' => wpAny (model prog w) A (truthy r) (fun b => Q (.bool b)) E s') E s) : wpAny (model prog w) A (compareOp .In v (.ref x)) Q E s := by
  obtain ⟨od, I⟩ := r.instAt hx hd
  exact in_K r.F a.kin I hs hf h
theorem v_notin {x d C f : Addr} {mm : Nm} {k : Nat} {v : Value} {Q : Value → Shared → Prop} (a : Act K H n A base (env :: fs.map (·.1))) (r : R prog w base os ((env, m) :: fs) σ s)
    (hx : σ x = some (.inst C d)) (hd : σ d = some (.ns mm k)) (hs : findIn K (.ref C) "__contains__" = some (some (.ref f))) (hf : isFn K (.ref f) = true)
    (h : wpAny (model prog w) A (call (.ref f) [.ref x, v]) (fun r s' => wpAny (model prog w) A (truthy r) (fun b => Q (.bool (!b))) E s') E s) : wpAny (model prog w) A (compareOp .NotIn v (.ref x)) Q E s := by
  obtain ⟨od, I⟩ := r.instAt hx hd
  exact notIn_K r.F a.kin I hs hf h

theorem v_setI {x d C f : Addr} {mm : Nm} {k : Nat} {i v : Value} {Q : Unit → Shared → Prop} (a : Act K H n A base (env :: fs.map (·.1))) (r : R prog w base os ((env, m) :: fs) σ s)
    (hx : σ x = some (.inst C d)) (hd : σ d = some (.ns mm k)) (hq : noSeq K C = true) (hs : findIn K (.ref C) "__setitem__" = some (some (.ref f))) (hf : isFn K (.ref f) = true)
    (h : wpAny (model prog w) A (call (.ref f) [.ref x, i, v]) (fun _ s' => Q () s') E s) : wpAny (model prog w) A (setItem (.ref x) i v) Q E s := by
  obtain ⟨od, I⟩ := r.instAt hx hd
  exact ksp_setItem r.F a.kin I hq hs hf h

theorem v_delI {x d C f : Addr} {mm : Nm} {k : Nat} {i : Value} {Q : Unit → Shared → Prop} (a : Act K H n A base (env :: fs.map (·.1))) (r : R prog w base os ((env, m) :: fs) σ s)
    (hx : σ x = some (.inst C d)) (hd : σ d = some (.ns mm k)) (hq : noSeq K C = true) (hs : findIn K (.ref C) "__delitem__" = some (some (.ref f))) (hf : isFn K (.ref f) = true)
    (h : wpAny (model prog w) A (call (.ref f) [.ref x, i]) (fun _ s' => Q () s') E s) : wpAny (model prog w) A (delItem (.ref x) i) Q E s := by
  obtain ⟨od, I⟩ := r.instAt hx hd
  have X := r.kin a
  unfold delItem sequenceKey
  refine wpAny_holding (wpAny_bind (wpAny_bind (I.type.here ?_)))
  refine wpAny_bind ((anyM_none X hq).here ?_)
  rw [if_pos (show (!false) = true from rfl)]
  exact wpAny_pure (wpAny_bind (special_fn X I hs (beq_iff_eq.mp hf) (wpAny_mono h (fun _ _ z => wpAny_pure z) fun _ _ z => z)))

theorem v_subI {x d C f : Addr} {mm : Nm} {k : Nat} {value slice : Expr} {i : Value} {Q : Value → Shared → Prop} (a : Act K H n A base (env :: fs.map (·.1))) (r : R prog w base os ((env, m) :: fs) σ s)
    (hx : σ x = some (.inst C d)) (hd : σ d = some (.ns mm k)) (hs : findIn K (.ref C) "__getitem__" = some (some (.ref f))) (hf : fnIn K f = true) (hfn : isFn K (.ref f) = true)
    (h : wpAny (model prog w) A.in1 (call (.ref f) [.ref x, i]) Q E s)
    (hsl : subscripted slice true (.ref x) i = runValue (.builtin "lifetime.subscript" ⟨[.ref x, i], []⟩)) : wpAny (model prog w) A (subscriptTail value slice (.ref x) i) Q E s := by
  obtain ⟨od, I⟩ := r.instAt hx hd
  exact sub_K r.F a.kin I hs hf hfn h hsl

theorem v_lenI {x d C f : Addr} {mm : Nm} {k : Nat} {Q : Value → Shared → Prop} (a : Act K H n A base (env :: fs.map (·.1))) (r : R prog w base os ((env, m) :: fs) σ s)
    (hx : σ x = some (.inst C d)) (hd : σ d = some (.ns mm k)) (hs : findIn K (.ref C) "__len__" = some (some (.ref f))) (hf : isFn K (.ref f) = true)
    (h : wpAny (model prog w) A.in1 (call (.ref f) [.ref x]) (PySem.W.LenBack Q) E s) : wpAny (model prog w) A (call (.builtin "len") [.ref x]) Q E s := by
  obtain ⟨od, I⟩ := r.instAt hx hd
  exact PySem.W.len_K r.F a.kin I hs hf h

theorem v_told1 {f : Value} {vs : List Value} {k : Nat} {Q₀ : Value → Hp → Prop} {X : String → Hp → Prop} {Q : Value → Shared → Prop} (a : Act K H n A base (env :: fs.map (·.1))) (r : R prog w base os ((env, m) :: fs) σ s)
    (c : CallT prog w K H k f ⟨vs, []⟩ σ Q₀ X) (hk : k + 1 ≤ n) (h : ∀ v σ' s', Q₀ v σ' → R prog w base os ((env, m) :: fs) σ' s' → Q v s')
    (he : ∀ e cls σ' s', X cls σ' → Up prog w base os ((env, m) :: fs) σ' e cls s' → E e s') : wpAny (model prog w) A.in1 (call f vs) Q E s :=
  wpAny_call (c A.in1 base os ((env, m) :: fs) s (a.lower (k := k + 1) hk).in1 (by simp) r Q E h fun e cls σ' s' x r' f' => he e cls σ' s' x (.inr ⟨r', f'⟩))

theorem v_raise {cls newId initId : String} (F : ExcCallFacts cls newId initId) (G : ExcRaiseFacts cls) {x : Str} {np cpos pos : Pos} {args : List Expr} {Q : Flow → Shared → Prop} (a : Act K none n A base (env :: fs.map (·.1)))
    (hplain : (backTo cpos (starEach args env)).any (·.1) = false)
    (h : wpAny (model prog w) A (eval (.Name x np) env) (fun f s₁ => f = .type cls ∧ wpAny (model prog w) A (evalArgs (.type cls) true (backTo cpos (starEach args env)) [])
      (fun av s₂ => av.kw = [] ∧ av.pos.length ≤ sizeLine ∧ ∃ m' σ', R prog w base os ((env, m') :: fs) σ' s₂ ∧ ∀ e s', Up prog w base os ((env, m') :: fs) σ' e cls s' → E e s') E s₁) E s) :
    wpAny (model prog w) A (exec (.Raise (some (.Call (.Name x np) args [] cpos)) none pos) env) Q E s :=
  wpAny_Raise_call F G a.hand hplain (wpAny_mono h (fun _ _ ⟨h1, h2⟩ => ⟨h1, wpAny_mono h2 (fun _ _ ⟨k1, k2, m', σ', r, k3⟩ => ⟨k1, k2, fun h' e hx => k3 _ _ (.inl ⟨_, e, rfl, r, .of_new hx.newExc, r.gens, r.hos⟩)⟩) fun _ _ z => z⟩) fun _ _ z => z)

theorem v_ditem_missing {value slice : Expr} {d : Addr} {kvs : List (Int × Value)} {k : Int} {tk : Tok} {Q : Value → Shared → Prop} (a : Act K none n A base (env :: fs.map (·.1))) (r : R prog w base os ((env, m) :: fs) σ s)
    (hd : σ d = some (.dict kvs)) (hl : valueAt kvs k = none) (h : ∀ e s', Up prog w base os ((env, m) :: fs) σ e "KeyError" s' → E e s')
    (hs : subscripted slice false (.ref d) (.int k tk) = operate [.ref d, .int k tk] (getItem (.ref d) (.int k tk))) :
    wpAny (model prog w) A (subscriptTail value slice (.ref d) (.int k tk)) Q E s :=
  have hD := r.dictOf hd
  tail_any hD.typeIs slot_dict_getitem.lookup (wpAny_getItem_missing_of (intKind_is _ _ _ _) (r.nomod _ _ hd) a.hand hD.mapOf hl fun h' e hx => h _ _ (.inl ⟨s, e, rfl, r, .of_new hx, r.gens, r.hos⟩)) hs

theorem v_dpop_missing {d : Addr} {kvs : List (Int × Value)} {k : Int} {tk : Tok} {Q : Value → Shared → Prop} (a : Act K none n A base (env :: fs.map (·.1))) (r : R prog w base os ((env, m) :: fs) σ s)
    (hd : σ d = some (.dict kvs)) (hl : valueAt kvs k = none) (h : ∀ e s', Up prog w base os ((env, m) :: fs) σ e "KeyError" s' → E e s') :
    wpAny (model prog w) A (call (.builtin "dict.pop") [.ref d, .int k tk]) Q E s :=
  have hD := r.dictOf hd
  call_meetsIn PySem.F.slot_dict_pop hD.typeIs PySem.F.entry_dict_pop (by unfold argsOk; kernel_rfl) (meets_dict_pop_missing (intKind prog w) d (intKind_is _ _ _ _) (r.nomod _ _ hd) rfl)
    ⟨a.hand, kvs, hD, hl, fun h' e hx => h _ _ (.inl ⟨s, e, rfl, r, .of_new hx, r.gens, r.hos⟩)⟩

theorem v_ddel_missing {d : Addr} {kvs : List (Int × Value)} {k : Int} {tk : Tok} {Q : Unit → Shared → Prop} (a : Act K none n A base (env :: fs.map (·.1))) (r : R prog w base os ((env, m) :: fs) σ s)
    (hd : σ d = some (.dict kvs)) (hl : valueAt kvs k = none) (h : ∀ e s', Up prog w base os ((env, m) :: fs) σ e "KeyError" s' → E e s') :
    wpAny (model prog w) A (delItem (.ref d) (.int k tk)) Q E s := by
  have hD := r.dictOf hd
  unfold delItem
  refine wpAny_holding ?_
  refine wpAny_bind (wpAny_sequenceKey hD.typeIs (by decide) ?_)
  refine wpAny_bind (wpAny_callSpecial?_slot (name := Str.ofString "__delitem__") hD.typeIs PySem.F.slot_dict_delitem
    (call_meetsIn PySem.F.slot_dict_delitem hD.typeIs PySem.F.entry_dict_delitem (PySem.F.args_dict_delitem_2 _ _) (meets_dict_delitem_missing (intKind prog w) d (intKind_is _ _ _ _) (r.nomod _ _ hd))
      ⟨a.hand, kvs, hD, hl, fun h' e hx => h _ _ (.inl ⟨s, e, rfl, r, .of_new hx, r.gens, r.hos⟩)⟩))
end
end Mine
namespace Mine
section
variable {prog : Program} {w : World} {K : Frag} {H : Option Value} {n : Nat} {A : Around} {base : Heap} {env : Env} {os : OsState} {fs : List (Env × Nm)} {m : Nm} {σ : Hp} {s : Shared}
  {E : Value → Shared → Prop}

theorem v_isnone_ref {x : Addr} {Q : Value → Shared → Prop} (h : Q (.bool false) s) : wpAny (model prog w) A (compareOp .Is (.ref x) .none) Q E s := wpAny_is_other rfl (by intro e; cases e) h
theorem v_isnone_none {Q : Value → Shared → Prop} (h : Q (.bool true) s) : wpAny (model prog w) A (compareOp .Is .none .none) Q E s := wpAny_is_plain rfl h
theorem v_isnotnone_ref {x : Addr} {Q : Value → Shared → Prop} (h : Q (.bool true) s) : wpAny (model prog w) A (compareOp .IsNot (.ref x) .none) Q E s := wpAny_isNot_plain rfl (by rw [show (Value.ref x == Value.none) = false from by simp]; exact h)
theorem v_isnotnone_none {Q : Value → Shared → Prop} (h : Q (.bool false) s) : wpAny (model prog w) A (compareOp .IsNot .none .none) Q E s := wpAny_isNot_plain rfl h
theorem ea_plain {f : Value} {e : Expr} {rest : List Expr} {pos : Pos} {Q : Args → Shared → Prop}
    (h : wpAny (model prog w) A (spliced (backTo pos (starEach (e :: rest) env))) (fun vs s' => Q ⟨vs, []⟩ s') E s)
    (he : starEach (e :: rest) env = (false, eval e env) :: starEach rest env) : wpAny (model prog w) A (evalArgs f true (backTo pos (starEach (e :: rest) env)) []) Q E s := by
  rw [he] at h ⊢
  exact evalArgs_plain h
theorem ea_none {f : Value} {pos : Pos} {Q : Args → Shared → Prop} (h : Q ⟨[], []⟩ s) : wpAny (model prog w) A (evalArgs f true (backTo pos (starEach [] env)) []) Q E s := evalArgs_nil3 h

def Tr (prog : Program) (w : World) (A : Around) (env : Env) (hs : List ExceptHandler) (Q : Flow → Shared → Prop) (E : Value → Shared → Prop) : Value → Shared → Prop := fun e s₁ =>
  wpAny (model prog w) A (noteFrame e env) (fun _ s₂ => wpAny (model prog w) A (setFlight e none) (fun _ s₃ => wpAny (model prog w) A (handleBy e env hs) Q E s₃) E s₂) E s₁

theorem v_try {body orelse : List Stmt} {h₀ : ExceptHandler} {hs : List ExceptHandler} {pos : Pos} {Q : Flow → Shared → Prop}
    (h : wpAny (model prog w) A (execs body env) (fun f s₁ => match f with | .next => wpAny (model prog w) A (execs orelse env) Q E s₁ | f => Q f s₁) (Tr prog w A env (h₀ :: hs) Q E) s) :
    wpAny (model prog w) A (exec (.Try body (h₀ :: hs) orelse [] pos) env) Q E s := wpAny_Try_except h

theorem tr_of_up {e : Value} {cls : String} {hs : List ExceptHandler} {Q : Flow → Shared → Prop} (a : Act K H n A base (env :: fs.map (·.1))) (u : Up prog w base os ((env, m) :: fs) σ e cls s)
    (h : ∀ s', R prog w base os ((env, m) :: fs) σ s' → Fly base (env :: fs.map (·.1)) σ e cls s' → wpAny (model prog w) A (handleBy e env hs) Q E s') : Tr prog w A env hs Q E e s := by
  unfold Tr
  rcases u with ⟨s₀, x, rfl, r, hx, hg, ho⟩ | ⟨r, y, a0, B, rfl, hB, hl, hfl⟩
  · have fresh : ∀ b, s₀.heap.get? b = none → (hideAll s₀.heap (((env, m) :: fs).map (·.1.locals))).get? b = none := fun b hb => by
      cases hq : (hideAll s₀.heap (((env, m) :: fs).map (·.1.locals))).get? b with
      | none => rfl
      | some o' => have := of_hideAll _ hq; rw [hb] at this; cases this
    have ff : s₀.heap.FunFrames (hideAll s₀.heap (((env, m) :: fs).map (·.1.locals))) (((env, m) :: fs).map (·.1)) :=
      r.funFrames (es := []) a.frs fun f hf => hideAll_none _ (List.mem_map_of_mem (f := fun x : Env × Nm => x.1.locals) hf)
    obtain ⟨oe, vs, a0, he, hc, hd, h1, h0⟩ := hx.there
    unfold noteFrame
    simp only [(a.envs env (.head _)).1]
    refine wpAny_bind (wpAny_field he hd h1 ?_)
    rw [if_neg (by decide)]
    refine wpAny_newEntryW (base := hideAll s₀.heap (((env, m) :: fs).map (·.1.locals))) a.frames (ff.of_keeps fun b o hb _ => ⟨o, hx.keeps b o hb, rfl⟩) (a.envs env (.head _)).1
      he (fun b o q => hx.keeps b o (of_hideAll _ q)) (fresh x hx.new) hd (Array.getElem?_eq_some_iff.mp h1).1 h0 fun h' hL => ?_
    obtain ⟨k1, k2, k3, hu⟩ := hL
    rw [hc] at k3
    have hfl : Heap.FlyingW (hideAll s₀.heap (((env, m) :: fs).map (·.1.locals))) (env :: fs.map (·.1)) x (.type cls) a0 h' := ⟨k1, fresh x hx.new, k2, k3⟩
    have e1 : ∀ b y, σ b = some y → ∃ o, s.heap.get? b = some o ∧ h'.get? b = some o ∧ (hideAll s₀.heap (((env, m) :: fs).map (·.1.locals))).get? b = some o := fun b y hb => by
      obtain ⟨o, q1, _⟩ := r.own b y hb
      exact ⟨o, hx.keeps _ _ q1, hfl.1 _ _ (r.ownB hb q1), r.ownB hb q1⟩
    have r' : R prog w base os ((env, m) :: fs) σ s := by
      have := r.keeps (h' := s.heap) (t := s.toks) hx.keeps
      exact ⟨this.keep, this.fr, this.nd, this.own, this.nomod, this.low, hg, ho⟩
    have r2 := r'.slots (h' := h') (t := s.toks) (fun b o hb => hfl.1 _ _ (r.baseB b o hb)) (fun b y hb => by obtain ⟨o, q1, q2, _⟩ := e1 b y hb; rw [q1, q2]) hu
    exact h _ r2 ⟨x, _, _, rfl, r.baseB, fun b y hb => by obtain ⟨o, _, q2, q3⟩ := e1 b y hb; exact q3.trans q2.symm, hfl⟩
  · refine wpAny_looks_onW a.frames (a.envs env (.head _)).1 hfl fun h₄ hheld hu₄ => ?_
    refine wpAny_landsW hheld fun h₅ hfl₅ hu₅ => ?_
    have e1 : ∀ b z, σ b = some z → h₅.get? b = s.heap.get? b := fun b z hb => by
      obtain ⟨o, q1, _⟩ := r.own b z hb
      rw [q1]
      exact hfl₅.1 _ _ ((hl b z hb).trans q1)
    have r2 := r.slots (h' := h₅) (t := s.toks) (fun b o hb => hfl₅.1 _ _ (hB b o hb)) e1 (hu₄.trans hu₅)
    exact h _ r2 ⟨y, a0, B, rfl, hB, fun b z hb => (hl b z hb).trans (e1 b z hb).symm, hfl₅⟩

theorem v_clause {e : Value} {cls T : String} {b : Bool} {x : Str} {np hp : Pos} {b₀ : Stmt} {suite : List Stmt} {rest : List ExceptHandler} {Q : Flow → Shared → Prop} (a : Act K none n A base (env :: fs.map (·.1)))
    (r : R prog w base os ((env, m) :: fs) σ s) (f : Fly base (env :: fs.map (·.1)) σ e cls s)
    (hx : env.kindOf x = some .globalImplicit) (he : nsIn K mainGlobals x = some none) (hv : bootBuiltins x = some (.type T)) (hn : x ≠ "__name__") (hd : (x == ("__debug__" : Str)) = false)
    (hexc : isSubtype (.type T) (.type "BaseException") = pure true) (hnt : isSubtype (.type ((Manifest.find? T).elim "type" fun x => x.metatype)) (.type "tuple") = pure false)
    (hsub : isSubtype (.type cls) (.type T) = pure b) (hE : b = true → PassesOwnAt (model prog w) (A.mark (some e)) A env E)
    (h : ∀ s', R prog w base os ((env, m) :: fs) σ s' → Fly base (env :: fs.map (·.1)) σ e cls s' →
      if b then wpAny (model prog w) (A.mark (some e)) (execs (b₀ :: suite) env) Q E s' else wpAny (model prog w) A (handleBy e env rest) Q E s') :
    wpAny (model prog w) A (handleBy e env (.ExceptHandler (some (.Name x np)) none (b₀ :: suite) hp :: rest)) Q E s := by
  have f0 := f
  obtain ⟨y, a0, B, rfl, hB, hl, hfl⟩ := f
  obtain ⟨ob, hob, hoc⟩ := hfl.there
  refine wpAny_handleBy_builtin (X := cls) (T := T) (b := b) hexc hnt hsub (v_builtin a.mark r hx he hv hn ⟨rfl, ⟨ob, hob, hoc⟩, ?_⟩ hd)
  cases b with
  | false => exact h _ r f0
  | true =>
    refine lands_againW hfl fun h₅ hfl₅ hu₅ => ?_
    have e1 : ∀ b z, σ b = some z → h₅.get? b = s.heap.get? b := fun b z hb => by
      obtain ⟨o, q1, _⟩ := r.own b z hb
      rw [q1]
      exact hfl₅.1 _ _ ((hl b z hb).trans q1)
    have r2 := r.slots (h' := h₅) (t := s.toks) (fun b o hb => hfl₅.1 _ _ (hB b o hb)) e1 hu₅
    exact wpAny_passesOwnAt (hE rfl) (h _ r2 ⟨y, a0, B, rfl, hB, fun b z hb => (hl b z hb).trans (e1 b z hb).symm, hfl₅⟩)

theorem lv_passes {e : Value} {X : String → Hp → Prop} : PassesOwnAt (model prog w) (A.mark (some e)) A env (Lv prog w A base os env fs X) := PassesOwnAt.leaving
theorem tr_passes {e : Value} {hs : List ExceptHandler} {Q : Flow → Shared → Prop} : PassesOwnAt (model prog w) (A.mark (some e)) A env (Tr prog w A env hs Q E) := PassesOwnAt.looking
theorem lv_passes0 {X : String → Hp → Prop} : PassesOwn (model prog w) A env (Lv prog w A base os env fs X) := PassesOwn.leaving
theorem tr_passes0 {hs : List ExceptHandler} {Q : Flow → Shared → Prop} : PassesOwn (model prog w) A env (Tr prog w A env hs Q E) := PassesOwn.looking

theorem v_while {test : Expr} {body : List Stmt} {pos : Pos} {Q : Flow → Shared → Prop} (I : Nat → Shared → Prop) (hE : PassesOwn (model prog w) A env E)
    (turn : ∀ j s, I j s → wpAny (model prog w) A (isTrue test env (eval test env)) (fun b s₂ =>
        if b then wpAny (model prog w) A (execs body env) (fun f s₃ => match f with
            | .next | .cont => ∃ j', j' < j ∧ I j' s₃
            | .brk => Q .next s₃
            | .ret v => Q (.ret v) s₃) E s₂
        else Q .next s₂) E s)
    (j : Nat) (h : I j s) : wpAny (model prog w) A (exec (.While test body [] pos) env) Q E s := by
  refine wpAny_While (codeAny_whileLoop I (fun j s hI => ?_) j h)
  refine wpAny_mono (turn j s hI) (fun b s₂ h₂ => ?_) hE
  cases b with
  | true =>
    simp only [if_true] at h₂ ⊢
    exact wpAny_mono h₂ (fun f s₃ h₃ => by cases f <;> exact h₃) hE
  | false =>
    simp only [Bool.false_eq_true, if_false] at h₂ ⊢
    exact wpAny_execs_nil h₂
end
end Mine
namespace Mine

def aget {α : Type} (l : List (Int × α)) (k : Int) : Option α := (l.find? fun e => e.1 = k).map (·.2)
def aput {α : Type} (l : List (Int × α)) (k : Int) (v : α) : List (Int × α) :=
  if l.any (fun e => e.1 = k) then l.map (fun e => if e.1 = k then (e.1, v) else e) else l ++ [(k, v)]
def adel {α : Type} (l : List (Int × α)) (k : Int) : List (Int × α) := l.filter fun e => decide (e.1 ≠ k)

theorem valueAt_eq (l : List (Int × Value)) (k : Int) : valueAt l k = aget l k := rfl
theorem stored_eq (l : List (Int × Value)) (k : Int) (v : Value) : stored l k v = aput l k v := rfl
theorem without_eq (l : List (Int × Value)) (k : Int) : without l k = adel l k := rfl

inductive IntKV : List (Int × Value) → List (Int × Int) → Prop
  | nil : IntKV [] []
  | cons {a : Int × Value} {b : Int × Int} {r : List (Int × Value)} {r' : List (Int × Int)} : (a.1 = b.1 ∧ ∃ t, a.2 = Value.int b.2 t) → IntKV r r' → IntKV (a :: r) (b :: r')

theorem IntKV.len {kvs : List (Int × Value)} {l : List (Int × Int)} (h : IntKV kvs l) : kvs.length = l.length := by
  induction h with
  | nil => rfl
  | cons _ _ ih => simp [ih]

theorem IntKV.get {kvs : List (Int × Value)} {l : List (Int × Int)} (h : IntKV kvs l) (k : Int) : match aget l k with | none => aget kvs k = none | some n => ∃ t, aget kvs k = some (.int n t) := by
  induction h with
  | nil => rfl
  | @cons a b l₁ l₂ hab _ ih =>
    obtain ⟨h1, t, h2⟩ := hab
    unfold aget at ih ⊢
    simp only [List.find?_cons]
    by_cases hk : b.1 = k
    · have : a.1 = k := h1.trans hk
      simp only [this, hk, decide_true]
      exact ⟨t, by simp [h2]⟩
    · have : ¬ a.1 = k := fun q => hk (h1 ▸ q)
      simp only [this, hk, decide_false]
      exact ih

theorem IntKV.any {kvs : List (Int × Value)} {l : List (Int × Int)} (h : IntKV kvs l) (k : Int) : kvs.any (fun e => e.1 = k) = l.any (fun e => e.1 = k) := by
  induction h with
  | nil => rfl
  | cons hab _ ih => simp only [List.any_cons, ih, hab.1]

theorem IntKV.put {kvs : List (Int × Value)} {l : List (Int × Int)} (h : IntKV kvs l) (k n : Int) (t : Tok) : IntKV (aput kvs k (.int n t)) (aput l k n) := by
  unfold aput
  rw [h.any k]
  split
  · have : ∀ {kvs : List (Int × Value)} {l : List (Int × Int)}, IntKV kvs l → IntKV (kvs.map (fun e => if e.1 = k then (e.1, .int n t) else e)) (l.map (fun e => if e.1 = k then (e.1, n) else e)) := by
     intro kvs l h
     induction h with
     | nil => exact .nil
     | @cons a b l₁ l₂ hab _ ih =>
      refine .cons ?_ ih
      by_cases hk : b.1 = k
      · have : a.1 = k := hab.1.trans hk
        simp only [this, hk, if_true]; exact ⟨trivial, t, rfl⟩
      · have : ¬ a.1 = k := fun q => hk (hab.1 ▸ q)
        simp only [this, hk, if_false]; exact hab
    exact this h
  · have : ∀ {kvs : List (Int × Value)} {l : List (Int × Int)}, IntKV kvs l → IntKV (kvs ++ [(k, .int n t)]) (l ++ [(k, n)]) := by
     intro kvs l h
     induction h with
     | nil => exact .cons ⟨rfl, t, rfl⟩ .nil
     | cons hab _ ih => exact .cons hab ih
    exact this h

theorem IntKV.del {kvs : List (Int × Value)} {l : List (Int × Int)} (h : IntKV kvs l) (k : Int) : IntKV (adel kvs k) (adel l k) := by
  unfold adel
  induction h with
  | nil => exact .nil
  | @cons a b l₁ l₂ hab _ ih =>
    simp only [List.filter_cons]
    by_cases hk : b.1 = k
    · have : a.1 = k := hab.1.trans hk
      simp only [this, hk, ne_eq, not_true_eq_false, decide_false]; exact ih
    · have : ¬ a.1 = k := fun q => hk (hab.1 ▸ q)
      simp only [this, hk, ne_eq, not_false_eq_true, decide_true, if_true]; exact .cons hab ih

structure B where
  data : List (Int × Value)
  size : List (Int × Int)
  cur : Int

structure Info where
  C : Addr
  x : Addr
  d : Addr
  dd : Addr
  ds : Option (Addr × Value)
  most : Int

def clsNames : List Str := ["popitem", "pop", "get", "setdefault", "clear", "__missing__", "_LFUCache__touch", "_LRUCache__touch", "_Cache__marker", "maxsize", "currsize"]

structure RB (σ : Hp) (I : Info) (mm : Nm) (b : B) : Prop where
  inst : σ I.x = some (.inst I.C I.d)
  ns : ∃ k, k ≤ 400 ∧ σ I.d = some (.ns mm k)
  hdata : mm "_Cache__data" = some (.ref I.dd)
  dict : σ I.dd = some (.dict b.data)
  hsize : mm "_Cache__size" = I.ds.map (.ref ·.1)
  hgso : mm "getsizeof" = I.ds.map (·.2)
  sz : ∀ p, I.ds = some p → ∃ kvs, σ p.1 = some (.dict kvs) ∧ IntKV kvs b.size ∧ p.1 ≠ I.dd
  hcur : ∃ t, mm "_Cache__currsize" = some (.int b.cur t)
  hmost : ∃ t, mm "_Cache__maxsize" = some (.int I.most t)
  free : ∀ nm ∈ clsNames, mm nm = none
  small : b.data.length ≤ 100 ∧ b.size.length ≤ 100

end Mine
namespace Mine
def Chg (l : List Addr) (σ σ' : Hp) : Prop := ∀ a, a ∉ l → σ' a = σ a
theorem Chg.refl (l : List Addr) (σ : Hp) : Chg l σ σ := fun _ _ => rfl
theorem Chg.trans {l : List Addr} {σ₁ σ₂ σ₃ : Hp} (x : Chg l σ₁ σ₂) (y : Chg l σ₂ σ₃) : Chg l σ₁ σ₃ := fun a h => (y a h).trans (x a h)
theorem Chg.set {l : List Addr} {σ : Hp} {a : Addr} {x : AO} (h : a ∈ l) : Chg l σ (σ.set a x) := fun _ hb => Hp.set_ne _ _ fun e => hb (e ▸ h)
theorem Chg.mono {l l' : List Addr} {σ σ' : Hp} (x : Chg l σ σ') (h : ∀ a ∈ l, a ∈ l') : Chg l' σ σ' := fun a ha => x a fun q => ha (h a q)

def baseFp (I : Info) : List Addr := I.d :: I.dd :: (I.ds.map (·.1)).toList

def SameNames (mm mm' : Nm) : Prop := ∀ x : Str, x ≠ "_Cache__currsize" → mm' x = mm x

theorem RB.d_ne {σ : Hp} {I : Info} {mm : Nm} {b : B} (r : RB σ I mm b) : I.d ≠ I.dd ∧ I.x ≠ I.dd ∧ I.x ≠ I.d := by
  obtain ⟨k, _, hk⟩ := r.ns
  refine ⟨fun e => ?_, fun e => ?_, fun e => ?_⟩
  · rw [e, r.dict] at hk; cases hk
  · have := r.inst; rw [e, r.dict] at this; cases this
  · have := r.inst; rw [e, hk] at this; cases this

theorem RB.setData {σ : Hp} {I : Info} {mm : Nm} {b : B} {l : List (Int × Value)} (r : RB σ I mm b) (hl : l.length ≤ 100) : RB (σ.set I.dd (.dict l)) I mm { b with data := l } := by
  obtain ⟨h1, h2, h3⟩ := r.d_ne
  obtain ⟨k, hk, hk'⟩ := r.ns
  exact ⟨by rw [Hp.set_ne _ _ h2]; exact r.inst, ⟨k, hk, by rw [Hp.set_ne _ _ h1]; exact hk'⟩, r.hdata, Hp.set_self _ _ _, r.hsize, r.hgso,
    fun p hp => let ⟨kvs, a, b', c⟩ := r.sz p hp; ⟨kvs, by rw [Hp.set_ne _ _ c]; exact a, b', c⟩, r.hcur, r.hmost, r.free, hl, r.small.2⟩

theorem RB.setSize {σ : Hp} {I : Info} {mm : Nm} {b : B} {p : Addr × Value} {kvs : List (Int × Value)} {l : List (Int × Int)} (r : RB σ I mm b) (hp : I.ds = some p) (hl : l.length ≤ 100) (hk : IntKV kvs l) :
    RB (σ.set p.1 (.dict kvs)) I mm { b with size := l } := by
  obtain ⟨k, hk0, hk'⟩ := r.ns
  obtain ⟨kvs0, a, b', c⟩ := r.sz p hp
  have h1 : I.d ≠ p.1 := fun e => by rw [e, a] at hk'; cases hk'
  have h2 : I.x ≠ p.1 := fun e => by have := r.inst; rw [e, a] at this; cases this
  exact ⟨by rw [Hp.set_ne _ _ h2]; exact r.inst, ⟨k, hk0, by rw [Hp.set_ne _ _ h1]; exact hk'⟩, r.hdata, by rw [Hp.set_ne _ _ (Ne.symm c)]; exact r.dict, r.hsize, r.hgso,
    fun q hq => by rw [hp] at hq; cases hq; exact ⟨kvs, Hp.set_self _ _ _, hk, c⟩, r.hcur, r.hmost, r.free, r.small.1, hl⟩

theorem clsNames_cur : ∀ nm ∈ clsNames, nm ≠ "_Cache__currsize" := by decide +kernel

theorem RB.setCur {σ : Hp} {I : Info} {mm : Nm} {b : B} {c : Int} {t : Tok} {k : Nat} (r : RB σ I mm b) (hk : k ≤ 400) : RB (σ.set I.d (.ns (mset mm "_Cache__currsize" (.int c t)) k)) I (mset mm "_Cache__currsize" (.int c t)) { b with cur := c } := by
  obtain ⟨h1, h2, h3⟩ := r.d_ne
  obtain ⟨k0, hk0, hk'⟩ := r.ns
  have ne : ∀ x : Str, x ≠ "_Cache__currsize" → mset mm "_Cache__currsize" (.int c t) x = mm x := fun x hx => by unfold mset; rw [if_neg hx]
  refine ⟨by rw [Hp.set_ne _ _ h3]; exact r.inst, ⟨k, hk, Hp.set_self _ _ _⟩, ?_, by rw [Hp.set_ne _ _ (Ne.symm h1)]; exact r.dict, ?_, ?_,
    fun p hp => ?_, ⟨t, by unfold mset; rw [if_pos rfl]⟩, ?_, fun nm hn => by rw [ne _ (clsNames_cur nm hn)]; exact r.free nm hn, r.small⟩
  · rw [ne _ (by decide +kernel)]; exact r.hdata
  · rw [ne _ (by decide +kernel)]; exact r.hsize
  · rw [ne _ (by decide +kernel)]; exact r.hgso
  · obtain ⟨kvs, a, b', c'⟩ := r.sz p hp
    exact ⟨kvs, by rw [Hp.set_ne _ _ fun e => by rw [← e, a] at hk'; cases hk']; exact a, b', c'⟩
  · obtain ⟨t', ht⟩ := r.hmost
    exact ⟨t', by rw [ne _ (by decide +kernel)]; exact ht⟩

theorem same_cur {mm : Nm} {v : Value} : SameNames mm (mset mm "_Cache__currsize" v) := fun x hx => by unfold mset; rw [if_neg hx]

def B.cost (b : B) (I : Info) (k : Int) : Int := if I.ds = none then 1 else (aget b.size k).getD 0
def B.del (b : B) (I : Info) (k : Int) : B := { data := adel b.data k, size := if I.ds = none then b.size else adel b.size k, cur := b.cur - b.cost I k }
end Mine
namespace Mine
set_option pp.deepTerms false
set_option pp.deepTerms.threshold 8
local macro_rules | `(tactic| walk_at "lk") => `(tactic| first | assumption | rfl | (simp only [mset, ofs_inj, String.reduceEq, ↓reduceIte]; first | assumption | rfl) | (simp only [mset, ofs_inj, String.reduceEq, ↓reduceIte]; done))
local macro_rules | `(tactic| walk_at "nm") => `(tactic| (refine v_local (by assumption) (by assumption) (kof (by assumption) (by kernel_rfl)) (by walk_at "lk") ?_ (by kernel_rfl)))
local macro_rules | `(tactic| walk_at "st") => `(tactic| (refine v_store (by assumption) (by assumption) (kof (by assumption) (by kernel_rfl)) fun s r => ?_))
local macro_rules | `(tactic| walk_at "v") => `(tactic| first
  | with_reducible refine wpAny_Return_some ?_
  | with_reducible refine wpAny_Return_none ?_
  | ((with_reducible refine wpAny_Compare1 (hm := ?hm) ?_); (case hm => with_unfolding_all rfl))
  | ((with_reducible refine wpAny_isTrue_Compare1 (hm := ?hm) ?_); (case hm => with_unfolding_all rfl))
  | ((with_reducible refine wpAny_Assign_Name (hs := ?hs) ?_); (case hs => rfl))
  | ((with_reducible refine wpAny_Assign_Subscript (hs := ?hs) ?_); (case hs => rfl))
  | ((with_reducible refine plainObj_wpAny_Assign_Attribute (hs := ?hs) ?_); (case hs => rfl))
  | ((with_reducible refine wpAny_Assign_two (he := ?he) (hw := ?hw) ?_); (case he => rfl); (case hw => rfl))
  | with_reducible refine assign_Attr ?_
  | with_reducible refine assign_Subs ?_
  | with_reducible refine wpAny_assign_Name ?_
  | with_reducible refine Attribute_name ?_
  | with_reducible refine Attribute_any_ ?_
  | with_reducible refine Subscript_ ?_
  | with_reducible refine wpAny_If ?_
  | with_reducible refine wpAny_BinOp ?_
  | with_reducible refine wpAny_UnaryOp ?_
  | with_reducible refine wpAny_Delete ?_
  | with_reducible refine wpAny_deleteEach_cons ?_
  | with_reducible refine wpAny_deleteEach_nil ?_
  | with_reducible refine wpAny_delete_Subscript ?_
  | with_reducible refine wpAny_AugAssign_AttributeAny ?_
  | with_reducible refine wpAny_execs_nil ?_
  | with_reducible refine wpAny_Constant_none ?_
  | with_reducible refine spliced_none ?_
  | with_reducible refine ea_none ?_
  | ((with_reducible refine ea_plain ?_ ?he); (case he => rfl))
  | ((with_reducible refine' methodCall_KW (pl := ?pl) (he := ?he) ?_); (case he => rfl))
  | walk_at "nm"
  | ((with_reducible refine spliced_more ?_ (he := ?he)); (case he => rfl)))
local macro_rules | `(tactic| walk_at "vv") => `(tactic| repeat walk_at "v")
variable {prog : Program} {w : World} {K : Frag} {H : Option Value} {n : Nat} {σ : Hp}

def BaseOut (I : Info) (mm : Nm) (b' : B) (σ σ' : Hp) : Prop := ∃ mm', RB σ' I mm' b' ∧ SameNames mm mm' ∧ Chg (baseFp I) σ σ'

theorem body_del {I : Info} {mm m : Nm} {b : B} {k : Int} {tk : Tok} {X : String → Hp → Prop}
    (ok : ClsOK K I.C) (rb : RB σ I mm b) (hin : (aget b.data k).isSome = true) (hins : I.ds ≠ none → (aget b.size k).isSome = true)
    (hs : m "self" = some (.ref I.x)) (hk : m "key" = some (.int k tk)) :
    BodyT prog w K H n (fnScope s_delitem) [] (fnBody s_delitem) m σ (fun v σ' => v = .none ∧ BaseOut I mm (b.del I k) σ σ') X := by
  intro A base os env fs s hsc hcl a r
  obtain ⟨j, hj, hd⟩ := rb.ns
  obtain ⟨tc, hcur⟩ := rb.hcur
  have hx := rb.inst
  have hdat := rb.hdata
  have hkv := rb.dict
  refine wpAny_execs_cons ?_
  iterate 3 walk_at "v"
  cases hds : I.ds with
  | none =>
    have hsz : mm "_Cache__size" = none := by rw [rb.hsize, hds]; rfl
    refine v_clsval a r hx hd hsz rfl ok.get ok.dict ok.fsize (by kernel_rfl) (by kernel_rfl) fun s r => ?_
    walk_at "st"; rename_i s r
    refine wpAny_execs_cons ?_
    iterate 4 walk_at "v"
    refine v_isnone rfl ?_
    refine v_truth ?_
    dsimp only [beq_self_eq_true, ↓reduceIte]
    refine wpAny_execs_cons ?_
    iterate 5 walk_at "v"
    refine v_own a r hx hd hdat rfl ok.get ok.dict ok.fdata (by kernel_rfl) fun s r => ?_
    walk_at "v"
    refine v_ddel r hkv (by have := rb.small; omega) hin fun s r => ?_
    walk_at "v"
    refine wpAny_execs_cons ?_
    walk_at "v"
    walk_at "v"
    have rb1 := rb.setData (l := adel b.data k) (Nat.le_trans (List.length_filter_le _ _) rb.small.1)
    obtain ⟨j1, hj1, hd1⟩ := rb1.ns
    refine v_own a r rb1.inst hd1 hcur rfl ok.get ok.dict ok.fcur (by kernel_rfl) fun s r => ?_
    refine v_int r fun s t r => ?_
    refine v_isub r fun s t r => ?_
    refine v_setold a r rb1.inst hd1 (by omega) (by rw [hcur]; rfl) ok.seta ok.over ok.tcur ok.dict fun s r => ?_
    walk_at "v"
    walk_at "v"
    refine ⟨_, _, r, rfl, _, ?_, same_cur (v := .int (b.cur - 1) t), ?_⟩
    · simp only [B.del, B.cost, hds, if_true]
      exact rb1.setCur hj1
    · exact (Chg.set (by simp [baseFp])).trans (Chg.set (by simp [baseFp]))
  | some p =>
    have hsz : mm "_Cache__size" = some (.ref p.1) := by rw [rb.hsize, hds]; rfl
    obtain ⟨kvs, hkv2, hint, hne⟩ := rb.sz p hds
    have hn := hint.get k
    have hns := hins (by rw [hds]; simp)
    obtain ⟨c, hc⟩ := Option.isSome_iff_exists.mp hns
    rw [hc] at hn
    obtain ⟨t0, ht0⟩ := hn
    refine v_own a r hx hd hsz rfl ok.get ok.dict ok.fsize (by kernel_rfl) fun s r => ?_
    walk_at "st"; rename_i s r
    refine wpAny_execs_cons ?_
    iterate 4 walk_at "v"
    refine v_isnone_ref ?_
    refine v_truth ?_
    rw [if_neg (by decide)]
    refine wpAny_execs_cons ?_
    iterate 3 walk_at "v"
    refine v_dmeth r hkv2 PySem.F.slot_dict_pop (by with_unfolding_all rfl) ?_
    refine v_callB rfl ?_
    iterate 4 walk_at "v"
    refine v_dpop r hkv2 (by have := hint.len; have := rb.small; omega) ht0 fun s r => ?_
    walk_at "st"; rename_i s r
    have rb1 := rb.setSize (l := adel b.size k) hds (Nat.le_trans (List.length_filter_le _ _) rb.small.2) (hint.del k)
    obtain ⟨j1, hj1, hd1⟩ := rb1.ns
    refine wpAny_execs_cons ?_
    iterate 5 walk_at "v"
    refine v_own a r rb1.inst hd1 hdat rfl ok.get ok.dict ok.fdata (by kernel_rfl) fun s r => ?_
    walk_at "v"
    refine v_ddel r rb1.dict (by have := rb.small; show b.data.length ≤ 1000; omega) hin fun s r => ?_
    walk_at "v"
    have rb2 := rb1.setData (l := adel b.data k) (Nat.le_trans (List.length_filter_le _ _) rb.small.1)
    obtain ⟨j2, hj2, hd2⟩ := rb2.ns
    refine wpAny_execs_cons ?_
    iterate 2 walk_at "v"
    refine v_own a r rb2.inst hd2 hcur rfl ok.get ok.dict ok.fcur (by kernel_rfl) fun s r => ?_
    walk_at "v"
    refine v_isub r fun s t r => ?_
    refine v_setold a r rb2.inst hd2 (by omega) (by rw [hcur]; rfl) ok.seta ok.over ok.tcur ok.dict fun s r => ?_
    iterate 2 walk_at "v"
    refine ⟨_, _, r, rfl, _, ?_, same_cur (v := .int (b.cur - c) t), ?_⟩
    · simp only [B.del, B.cost, hds, reduceCtorEq, if_false, hc, Option.getD_some]
      exact rb2.setCur hj2
    · exact ((Chg.set (by simp [baseFp, hds])).trans (Chg.set (by simp [baseFp]))).trans (Chg.set (by simp [baseFp]))
end Mine
namespace Mine
set_option pp.deepTerms false
set_option pp.deepTerms.threshold 8
local macro_rules | `(tactic| walk_at "lk") => `(tactic| first | assumption | rfl | (simp only [mset, ofs_inj, String.reduceEq, ↓reduceIte]; first | assumption | rfl) | (simp only [mset, ofs_inj, String.reduceEq, ↓reduceIte]; done))
local macro_rules | `(tactic| walk_at "nm") => `(tactic| (refine v_local (by assumption) (by assumption) (kof (by assumption) (by kernel_rfl)) (by walk_at "lk") ?_ (by kernel_rfl)))
local macro_rules | `(tactic| walk_at "st") => `(tactic| (refine v_store (by assumption) (by assumption) (kof (by assumption) (by kernel_rfl)) fun s r => ?_))
local macro_rules | `(tactic| walk_at "v") => `(tactic| first
  | with_reducible refine wpAny_Return_some ?_
  | with_reducible refine wpAny_Return_none ?_
  | ((with_reducible refine wpAny_Compare1 (hm := ?hm) ?_); (case hm => with_unfolding_all rfl))
  | ((with_reducible refine wpAny_isTrue_Compare1 (hm := ?hm) ?_); (case hm => with_unfolding_all rfl))
  | ((with_reducible refine wpAny_Assign_Name (hs := ?hs) ?_); (case hs => rfl))
  | ((with_reducible refine wpAny_Assign_Subscript (hs := ?hs) ?_); (case hs => rfl))
  | ((with_reducible refine plainObj_wpAny_Assign_Attribute (hs := ?hs) ?_); (case hs => rfl))
  | ((with_reducible refine wpAny_Assign_two (he := ?he) (hw := ?hw) ?_); (case he => rfl); (case hw => rfl))
  | with_reducible refine assign_Attr ?_
  | with_reducible refine assign_Subs ?_
  | with_reducible refine wpAny_assign_Name ?_
  | with_reducible refine Attribute_name ?_
  | with_reducible refine Attribute_any_ ?_
  | with_reducible refine Subscript_ ?_
  | with_reducible refine wpAny_If ?_
  | with_reducible refine wpAny_BinOp ?_
  | with_reducible refine wpAny_UnaryOp ?_
  | with_reducible refine wpAny_Delete ?_
  | with_reducible refine wpAny_deleteEach_cons ?_
  | with_reducible refine wpAny_deleteEach_nil ?_
  | with_reducible refine wpAny_delete_Subscript ?_
  | with_reducible refine wpAny_AugAssign_AttributeAny ?_
  | with_reducible refine wpAny_execs_nil ?_
  | with_reducible refine wpAny_Constant_none ?_
  | with_reducible refine spliced_none ?_
  | with_reducible refine ea_none ?_
  | ((with_reducible refine ea_plain ?_ ?he); (case he => rfl))
  | ((with_reducible refine' methodCall_KW (pl := ?pl) (he := ?he) ?_); (case he => rfl))
  | walk_at "nm"
  | ((with_reducible refine spliced_more ?_ (he := ?he)); (case he => rfl)))
local macro_rules | `(tactic| walk_at "vv") => `(tactic| repeat walk_at "v")
variable {prog : Program} {w : World} {K : Frag} {H : Option Value} {n : Nat} {σ : Hp}

theorem CallT.of {f : Addr} {st : Stmt} {dV : Value} {vals : List Value} {binds : List (Str × Value)} {Q : Value → Hp → Prop} {X : String → Hp → Prop} (hf : FnIs K f st dV)
    (hb : ∀ (name qual : Str) (kV doc pm : Value) (an : Option Addr) (cdv ct : Value) (s : Shared), K.In s.heap → BindsTo s (fnOf name qual (fnPar st) (fnBody st) (fnScope st) dV kV doc pm an cdv ct) ⟨vals, []⟩ binds)
    (hloc : (binds.all fun x => decide ((fnScope st).names.lookup x.1 = some .local)) = true) (hcell : ((fnScope st).names.all fun x => x.2 != .cell) = true)
    (hk : ((fnScope st).kind == .function && !(fnScope st).isCoroutine && !(fnScope st).isGenerator) = true)
    (h : BodyT prog w K H n (fnScope st) [] (fnBody st) (fun y => binds.reverse.lookup y) σ Q X) : CallT prog w K H (n + 1) (.ref f) ⟨vals, []⟩ σ Q X := by
  obtain ⟨oc, od, osl, name, qual, kV, doc, pm, an, cdv, ct, ho, hcd⟩ := hf
  simp only [Bool.and_eq_true, Bool.not_eq_true', beq_iff_eq] at hk
  refine CallT.def ho hcd (hb name qual kV doc pm an cdv ct) (locs hloc) (fun x hx q => ?_) hk.1.2 hk.2 hk.1.1 h
  have := List.all_eq_true.mp hcell x hx
  rw [q] at this
  cases this

theorem call_del {I : Info} {mm : Nm} {b : B} {k : Int} {tk : Tok} {X : String → Hp → Prop} {f : Addr} (hf : FnIs K f s_delitem .none)
    (ok : ClsOK K I.C) (rb : RB σ I mm b) (hin : (aget b.data k).isSome = true) (hins : I.ds ≠ none → (aget b.size k).isSome = true) :
    CallT prog w K H (n + 1) (.ref f) ⟨[.ref I.x, .int k tk], []⟩ σ (fun v σ' => v = .none ∧ BaseOut I mm (b.del I k) σ σ') X :=
  CallT.of (binds := [("self", .ref I.x), ("key", .int k tk)]) hf (fun _ _ _ _ _ _ _ _ _ _ => BindsTo.of_eq rfl) (by kernel_rfl) (by kernel_rfl) (by kernel_rfl)
    (body_del (tk := tk) ok rb hin hins (by kernel_rfl) (by kernel_rfl))

def s_missing : Stmt := stmtAt (clsBody s_Cache) 8
theorem call_contains {I : Info} {mm : Nm} {b : B} {k : Int} {tk : Tok} {X : String → Hp → Prop} {f : Addr} (hf : FnIs K f s_contains .none) (ok : ClsOK K I.C) (rb : RB σ I mm b) :
    CallT prog w K H (n + 1) (.ref f) ⟨[.ref I.x, .int k tk], []⟩ σ (fun v σ' => v = .bool (aget b.data k).isSome ∧ σ' = σ) X := by
  refine CallT.of (binds := [("self", .ref I.x), ("key", .int k tk)]) hf (fun _ _ _ _ _ _ _ _ _ _ => BindsTo.of_eq rfl) (by kernel_rfl) (by kernel_rfl) (by kernel_rfl) ?_
  intro A base os env fs s hsc hcl a r
  obtain ⟨j, hj, hd⟩ := rb.ns
  have h1 : (fun y => [(("self" : Str), Value.ref I.x), ("key", .int k tk)].reverse.lookup y) "self" = some (.ref I.x) := by kernel_rfl
  have h2 : (fun y => [(("self" : Str), Value.ref I.x), ("key", .int k tk)].reverse.lookup y) "key" = some (.int k tk) := by kernel_rfl
  refine wpAny_execs_cons ?_
  iterate 5 walk_at "v"
  refine v_own a r rb.inst hd rb.hdata rfl ok.get ok.dict ok.fdata (by kernel_rfl) fun s r => ?_
  refine v_din r rb.dict fun s r => ?_
  exact ⟨_, _, r, rfl, rfl⟩

theorem call_len {I : Info} {mm : Nm} {b : B} {X : String → Hp → Prop} {f : Addr} (hf : FnIs K f s_len .none) (ok : ClsOK K I.C) (rb : RB σ I mm b)
    (hb : nsIn K mainGlobals "len" = some none) :
    CallT prog w K H (n + 1) (.ref f) ⟨[.ref I.x], []⟩ σ (fun v σ' => (∃ t, v = .int b.data.length t) ∧ σ' = σ) X := by
  refine CallT.of (binds := [("self", .ref I.x)]) hf (fun _ _ _ _ _ _ _ _ _ _ => BindsTo.of_eq rfl) (by kernel_rfl) (by kernel_rfl) (by kernel_rfl) ?_
  intro A base os env fs s hsc hcl a r
  obtain ⟨j, hj, hd⟩ := rb.ns
  have h1 : (fun y => [(("self" : Str), Value.ref I.x)].reverse.lookup y) "self" = some (.ref I.x) := by kernel_rfl
  refine wpAny_execs_cons ?_
  walk_at "v"
  refine wpAny_Call_ofName ?_
  refine v_builtin a r (kof hsc (by kernel_rfl)) hb (v := .builtin "len") (by kernel_rfl) (by decide +kernel) ?_ (by kernel_rfl)
  refine v_callB rfl ?_
  iterate 4 walk_at "v"
  refine v_own a r rb.inst hd rb.hdata rfl ok.get ok.dict ok.fdata (by kernel_rfl) fun s r => ?_
  walk_at "v"
  refine v_dlen r rb.dict (by have := rb.small; omega) fun s t r => ?_
  exact ⟨_, _, r, ⟨_, rfl⟩, rfl⟩

theorem call_getitem {I : Info} {mm : Nm} {b : B} {k : Int} {tk : Tok} {v : Value} {X : String → Hp → Prop} {f : Addr} (hf : FnIs K f s_getitem .none) (ok : ClsOK K I.C) (rb : RB σ I mm b) (hv : aget b.data k = some v) :
    CallT prog w K H (n + 1) (.ref f) ⟨[.ref I.x, .int k tk], []⟩ σ (fun v' σ' => v' = v ∧ σ' = σ) X := by
  refine CallT.of (binds := [("self", .ref I.x), ("key", .int k tk)]) hf (fun _ _ _ _ _ _ _ _ _ _ => BindsTo.of_eq rfl) (by kernel_rfl) (by kernel_rfl) (by kernel_rfl) ?_
  intro A base os env fs s hsc hcl a r
  obtain ⟨j, hj, hd⟩ := rb.ns
  have h1 : (fun y => [(("self" : Str), Value.ref I.x), ("key", .int k tk)].reverse.lookup y) "self" = some (.ref I.x) := by kernel_rfl
  have h2 : (fun y => [(("self" : Str), Value.ref I.x), ("key", .int k tk)].reverse.lookup y) "key" = some (.int k tk) := by kernel_rfl
  refine wpAny_execs_cons ?_
  refine v_try ?_
  refine wpAny_execs_cons ?_
  iterate 4 walk_at "v"
  refine v_own a r rb.inst hd rb.hdata rfl ok.get ok.dict ok.fdata (by kernel_rfl) fun s r => ?_
  walk_at "v"
  refine v_ditem r rb.dict hv (fun s r => ?_) (by with_unfolding_all rfl)
  exact ⟨_, _, r, rfl, rfl⟩
end Mine
namespace Mine
section
variable {prog : Program} {w : World} {K : Frag} {H : Option Value} {n : Nat} {A : Around} {base : Heap} {env : Env} {os : OsState} {fs : List (Env × Nm)} {m : Nm} {σ : Hp} {s : Shared}
  {E : Value → Shared → Prop}

def diter (d : Addr) (i n ep : Nat) : AO := .fld "dict_keyiterator" [.ref d, .int i 0, .int n 0, .int ep 0]

theorem v_iterD {d : Addr} {kvs : List (Int × Value)} {Q : Value → Shared → Prop} (r : R prog w base os ((env, m) :: fs) σ s) (hd : σ d = some (.dict kvs))
    (h : ∀ it ep s', σ it = none → R prog w base os ((env, m) :: fs) ((σ.set d (.dictE kvs ep)).set it (diter d 0 kvs.length ep)) s' → Q (.ref it) s') :
    wpAny (model prog w) A (call (.builtin "iter") [.ref d]) Q E s := by
  obtain ⟨o, h1, h2⟩ := r.get hd
  obtain ⟨ep, ha⟩ := KdkAt.of h2
  have r1 : R prog w base os ((env, m) :: fs) (σ.set d (.dictE kvs ep)) s := by
    have := r.upd (a := d) (x := .dictE kvs ep) (o' := o) (h' := s.heap) (t := s.toks) hd (Heap.SameBut.refl _ _) h1 ha
    exact this
  refine call_function_entry (by decide +kernel) (by decide +kernel) kdk_entry_iter (kdk_args_iter _) ?_
  unfold Builtin.«iter»
  refine wpAny_bind (m := someArgs "iter" 1 2 _) (wpAny_of_eq (a := [Value.ref d]) (by first | rfl | kernel_rfl!) ?_)
  show wpAny _ _ (pyIter (.ref d) >>= _) _ _ _
  refine wpAny_bind (wpAny_pyIter_dict (r.nomod _ _ hd) (ha.dictAt h1) ?_)
  exact wpAny_pure ⟨_, rfl, h _ ep _ r.fresh (r1.push (t := s.toks) (by simp) ⟨rfl, rfl⟩)⟩

theorem v_nextD {it d : Addr} {kvs : List (Int × Value)} {i ep : Nat} {k : Int} {x : Value} {Q : Value → Shared → Prop} (r : R prog w base os ((env, m) :: fs) σ s)
    (hi : σ it = some (diter d i kvs.length ep)) (hd : σ d = some (.dictE kvs ep)) (hx : kvs[i]? = some (k, x))
    (h : ∀ s' t, R prog w base os ((env, m) :: fs) (σ.set it (diter d (i + 1) kvs.length ep)) s' → Q (.int k t) s') :
    wpAny (model prog w) A (call (.builtin "next") [.ref it]) Q E s := by
  obtain ⟨oi, h1, h2, h3⟩ := r.get hi
  obtain ⟨od, h4, h5⟩ := r.get hd
  have hne : d ≠ it := fun e => by rw [e, hi] at hd; cases hd
  refine kdk_next (knd := intKind prog w) (o := od) r.F (r.cons_news hi h1) (.head ledger_ne) ⟨h2, h3⟩ h5 (.tail _ (mem_ledger.mpr ⟨.inl (by rw [hd]; rfl), hne, h4⟩)) hx fun h' o' key hk F' N' hi' => ?_
  obtain ⟨t, rfl⟩ : ∃ t, key = .int k t := by
    cases key with
    | int j t => exact ⟨t, by have : (j == k) = true := hk; rw [beq_iff_eq.mp this]⟩
    | _ => cases hk
  exact h _ t (r.of_ledger (t := s.toks) (r.own_ne hi) (r.nomod _ _ hi) F' N' hi')
end
end Mine
namespace Mine
section
variable {prog : Program} {w : World} {K : Frag} {H : Option Value} {n : Nat} {A : Around} {base : Heap} {env : Env} {os : OsState} {fs : List (Env × Nm)} {m : Nm} {σ : Hp} {s : Shared}
  {E : Value → Shared → Prop}

theorem v_clsmeth {C : Addr} {v mc : Value} {name : Str} {pl : Sem Bool} {Q : Value × List Value → Shared → Prop} (a : Act K H n A base (env :: fs.map (·.1))) (r : R prog w base os ((env, m) :: fs) σ s)
    (hg : specialIn K (.ref C) "__getattribute__" = some (some (.builtin "type.__getattribute__"))) (hr : readsIn K C mc = true) (e : findCls K (.ref C) mc name = some (.val v)) (hh : handedIn v = true)
    (h : ∀ s', R prog w base os ((env, m) :: fs) σ s' → Q (v, []) s') : wpAny (model prog w) A (getMethod (.ref C) name pl) Q E s :=
  method_cls (r.kin a) hg (cls_value (r.kin a) hr e hh (h _ (r.toks _)))

theorem v_tuple {elts : List Expr} {j : Nat} {pos : Pos} {Q : Value → Shared → Prop}
    (h : wpAny (model prog w) A (spliced (backTo pos (starEach elts env))) (fun vs s₁ => vs.length ≤ 1000 ∧ ∃ m' σ', R prog w base os ((env, m') :: fs) σ' s₁ ∧
      ∀ t s', σ' t = none → R prog w base os ((env, m') :: fs) (σ'.set t (.tup vs)) s' → Q (.ref t) s') E s) : wpAny (model prog w) A (eval (.Tuple elts j pos) env) Q E s :=
  wpAny_Tuple_spliced (wpAny_mono h (fun vs s₁ ⟨hl, m', σ', r, k⟩ => ⟨by rw [sizeLine_eq]; omega, k _ _ r.fresh (r.push (t := s₁.toks) (by simp) ⟨rfl, 0, rfl⟩)⟩) fun _ _ z => z)

theorem v_list {elts : List Expr} {pos : Pos} {Q : Value → Shared → Prop}
    (h : wpAny (model prog w) A (spliced (backTo pos (starEach elts env))) (fun vs s₁ => vs.length ≤ 1000 ∧ ∃ m' σ', R prog w base os ((env, m') :: fs) σ' s₁ ∧
      ∀ t s', σ' t = none → R prog w base os ((env, m') :: fs) (σ'.set t (.list vs)) s' → Q (.ref t) s') E s) : wpAny (model prog w) A (eval (.List elts pos) env) Q E s :=
  List_ (wpAny_mono h (fun vs s₁ ⟨hl, m', σ', r, k⟩ => wpAny_newList (k _ _ r.fresh (r.push (t := s₁.toks) (by simp) ⟨0, rfl⟩)) (by rw [sizeLine_eq]; omega)) fun _ _ z => z)

theorem v_iterI {x d C f : Addr} {mm : Nm} {k : Nat} {Q : Value → Shared → Prop} (a : Act K H n A base (env :: fs.map (·.1))) (r : R prog w base os ((env, m) :: fs) σ s)
    (hx : σ x = some (.inst C d)) (hd : σ d = some (.ns mm k)) (hs : findIn K (.ref C) "__iter__" = some (some (.ref f))) (hf : isFn K (.ref f) = true)
    (h : wpAny (model prog w) A.in1 (call (.ref f) [.ref x]) (fun v s' => ∃ it σ' m' dd i l ep, v = .ref it ∧ R prog w base os ((env, m') :: fs) σ' s' ∧ σ' it = some (diter dd i l ep) ∧ Q (.ref it) s') E s) :
    wpAny (model prog w) A (call (.builtin "iter") [.ref x]) Q E s := by
  obtain ⟨od, I⟩ := r.instAt hx hd
  refine call_function_entry (by decide +kernel) (by decide +kernel) kdk_entry_iter (kdk_args_iter _) ?_
  unfold Builtin.«iter»
  refine wpAny_bind (m := someArgs "iter" 1 2 _) (wpAny_of_eq (a := [Value.ref x]) (by first | rfl | kernel_rfl!) ?_)
  show wpAny _ _ (pyIter (.ref x) >>= _) _ _ _
  refine wpAny_bind (owit_iter r.F a.kin I hs hf (wpAny_mono h (fun v s' h' => ?_) fun _ _ z => z))
  obtain ⟨it, σ', m', dd, i, l, ep, rfl, r', hi, hq⟩ := h'
  obtain ⟨oi, q1, q2, q3⟩ := r'.get hi
  unfold OwitIt
  exact wpAny_specialOf (name := Str.ofString "__next__") (T := "dict_keyiterator") ⟨oi, q1, q2⟩ PySem.F.slot_dict_keyiterator_next.lookup (wpAny_pure ⟨_, rfl, hq⟩)
end

section
variable {prog : Program} {w : World} {K : Frag} {H : Option Value} {n : Nat} {σ : Hp}
theorem BindsTo.ofT {K : Frag} {fd : FuncData} {args : Args} {binds : List (Str × Value)} {T : Addr} {items : List Value} {k : Option (Array Value) → Sem (List (Str × Value))} (hT : DefT K T items)
    {s : Shared} (X : K.In s.heap) (hd : fd.defaults = .ref T) (h₁ : bindArgs fd args = seqItems? fd.defaults >>= k) (h₂ : k (some items.toArray) = pure binds) : BindsTo s fd args binds :=
  BindsTo.of_defaults hd (X _ _ hT) rfl h₁ h₂
end

theorem R.back {prog : Program} {w : World} {base : Heap} {os : OsState} {fs : List (Env × Nm)} {σ : Hp} {s : Shared} {d it : Addr} {kvs : List (Int × Value)} {ep : Nat} {x y : AO} (hd : σ d = some (.dict kvs)) (hi : σ it = none)
    (r : R prog w base os fs (((σ.set d (.dictE kvs ep)).set it x).set it y) s) : R prog w base os fs σ s := by
  have hne : d ≠ it := fun e => by rw [e, hi] at hd; cases hd
  have e : (((σ.set d (.dictE kvs ep)).set it x).set it y) d = some (.dictE kvs ep) := by rw [Hp.set_ne _ _ hne, Hp.set_ne _ _ hne, Hp.set_self]
  obtain ⟨o, h1, es, h2⟩ := r.get e
  have r2 : R prog w base os fs ((((σ.set d (.dictE kvs ep)).set it x).set it y).set d (.dict kvs)) s := r.upd (h' := s.heap) (t := s.toks) e (Heap.SameBut.refl _ _) h1 ⟨es, ep, h2⟩
  refine r2.forget fun a z ha => ?_
  by_cases h : a = d
  · subst h; rw [Hp.set_self, ← ha, hd]
  · have h' : a ≠ it := fun q => by rw [q, hi] at ha; cases ha
    rw [Hp.set_ne _ _ h, Hp.set_ne _ _ h', Hp.set_ne _ _ h', Hp.set_ne _ _ h]; exact ha

def ordFp (I : Info) (od : Addr) : List Addr := od :: baseFp I
def KeepFp (fp : List Addr) (σ σ' : Hp) : Prop := ∀ a x, a ∉ fp → σ a = some x → σ' a = some x
theorem KeepFp.refl (fp : List Addr) (σ : Hp) : KeepFp fp σ σ := fun _ _ _ h => h
theorem KeepFp.trans {fp : List Addr} {σ₁ σ₂ σ₃ : Hp} (x : KeepFp fp σ₁ σ₂) (y : KeepFp fp σ₂ σ₃) : KeepFp fp σ₁ σ₃ := fun a o h e => y a o h (x a o h e)
theorem KeepFp.ofChg {l fp : List Addr} {σ σ' : Hp} (x : Chg l σ σ') (h : ∀ a ∈ l, a ∈ fp) : KeepFp fp σ σ' := fun a o ha e => (x a fun q => ha (h a q)).trans e
theorem KeepFp.setIn {fp : List Addr} {σ : Hp} {a : Addr} {x : AO} (h : a ∈ fp) : KeepFp fp σ (σ.set a x) := fun b o hb e => by rw [Hp.set_ne _ _ (fun q : b = a => hb (by rw [q]; exact h))]; exact e
theorem KeepFp.setNew {fp : List Addr} {σ : Hp} {a : Addr} {x : AO} (h : σ a = none) : KeepFp fp σ (σ.set a x) := fun b o _ e => by rw [Hp.set_ne _ _ (fun q : b = a => by rw [q, h] at e; cases e)]; exact e

structure RO (I : Info) (od : Addr) (nm : Str) (σ : Hp) (mm : Nm) (b : B) (ks : List Int) : Prop where
  rb : RB σ I mm b
  horder : mm nm = some (.ref od)
  order : σ od = some (.dict (ks.map fun k => (k, .none)))
  apart : od ∉ baseFp I
  short : ks.length ≤ 100

theorem keys_get (ks : List Int) (k : Int) : aget (ks.map fun k => (k, Value.none)) k = if k ∈ ks then some .none else none := by
  induction ks with
  | nil => rfl
  | cons a r ih =>
    unfold aget at ih ⊢
    simp only [List.map_cons, List.find?_cons]
    by_cases h : a = k
    · subst h; simp
    · simp only [h, decide_false, ih, List.mem_cons, show ¬ k = a from fun q => h q.symm, false_or]
theorem keys_del (ks : List Int) (k : Int) : adel (ks.map fun k => (k, Value.none)) k = (ks.filter (· ≠ k)).map fun k => (k, Value.none) := by
  unfold adel
  rw [List.filter_map]; rfl
theorem keys_put_new {ks : List Int} {k : Int} (h : k ∉ ks) : aput (ks.map fun k => (k, Value.none)) k .none = (ks ++ [k]).map fun k => (k, Value.none) := by
  unfold aput
  rw [if_neg]; · simp
  simp only [List.any_map, List.any_eq_true, Function.comp, decide_eq_true_eq, not_exists, not_and]
  intro a ha e
  exact h (e ▸ ha)

theorem RO.base {I : Info} {od : Addr} {nm : Str} {σ σ' : Hp} {mm : Nm} {b b' : B} {ks : List Int} (r : RO I od nm σ mm b ks) (hnm : nm ≠ "_Cache__currsize") (h : BaseOut I mm b' σ σ') :
    ∃ mm', RO I od nm σ' mm' b' ks ∧ KeepFp (ordFp I od) σ σ' := by
  obtain ⟨mm', rb', sn, ch⟩ := h
  exact ⟨mm', ⟨rb', (sn nm hnm).trans r.horder, (ch od r.apart).trans r.order, r.apart, r.short⟩, .ofChg ch fun a ha => .tail _ ha⟩

theorem RO.turn {I : Info} {od : Addr} {nm : Str} {σ : Hp} {mm : Nm} {b : B} {ks ks' : List Int} (r : RO I od nm σ mm b ks) (h : ks'.length ≤ 100) :
    RO I od nm (σ.set od (.dict (ks'.map fun k => (k, .none)))) mm b ks' ∧ KeepFp (ordFp I od) σ (σ.set od (.dict (ks'.map fun k => (k, .none)))) := by
  have rb := r.rb
  obtain ⟨j, hj, hd⟩ := rb.ns
  have hap := r.apart
  unfold baseFp at hap
  simp only [List.mem_cons, not_or] at hap
  have hx : I.x ≠ od := fun e => by have := rb.inst; rw [e, r.order] at this; cases this
  refine ⟨⟨⟨by rw [Hp.set_ne _ _ hx]; exact rb.inst, ⟨j, hj, by rw [Hp.set_ne _ _ (Ne.symm hap.1)]; exact hd⟩, rb.hdata, by rw [Hp.set_ne _ _ (Ne.symm hap.2.1)]; exact rb.dict, rb.hsize, rb.hgso, fun p hp => ?_, rb.hcur, rb.hmost, rb.free, rb.small⟩,
    r.horder, Hp.set_self _ _ _, r.apart, h⟩, .setIn (by simp [ordFp])⟩
  obtain ⟨kvs, q1, q2, q3⟩ := rb.sz p hp
  exact ⟨kvs, by rw [Hp.set_ne _ _ fun e => hap.2.2 (by rw [hp]; simp [e])]; exact q1, q2, q3⟩

theorem RB.frame {σ σ' : Hp} {I : Info} {mm : Nm} {b : B} (r : RB σ I mm b) (h : ∀ a ∈ I.x :: baseFp I, σ' a = σ a) : RB σ' I mm b := by
  obtain ⟨j, hj, hd⟩ := r.ns
  refine ⟨(h _ (.head _)).trans r.inst, ⟨j, hj, (h _ (by simp [baseFp])).trans hd⟩, r.hdata, (h _ (by simp [baseFp])).trans r.dict, r.hsize, r.hgso, fun p hp => ?_, r.hcur, r.hmost, r.free, r.small⟩
  obtain ⟨kvs, q1, q2, q3⟩ := r.sz p hp
  exact ⟨kvs, (h _ (by simp [baseFp, hp])).trans q1, q2, q3⟩
theorem RB.dom {σ : Hp} {I : Info} {mm : Nm} {b : B} (r : RB σ I mm b) {t : Addr} (h : t ∈ I.x :: baseFp I) : σ t ≠ none := by
  obtain ⟨j, hj, hd⟩ := r.ns
  simp only [baseFp, List.mem_cons, Option.mem_toList, Option.map_eq_some_iff] at h
  rcases h with rfl | rfl | rfl | ⟨p, hp, rfl⟩
  · rw [r.inst]; simp
  · rw [hd]; simp
  · rw [r.dict]; simp
  · obtain ⟨kvs, q1, _⟩ := r.sz p hp
    rw [q1]; simp
theorem RO.frame {σ σ' : Hp} {I : Info} {od : Addr} {nm : Str} {mm : Nm} {b : B} {ks : List Int} (r : RO I od nm σ mm b ks) (h : ∀ a ∈ I.x :: ordFp I od, σ' a = σ a) : RO I od nm σ' mm b ks :=
  ⟨r.rb.frame fun a ha => h a (by simp only [ordFp, List.mem_cons] at ha ⊢; rcases ha with h | h; exact .inl h; exact .inr (.inr h)), r.horder, (h _ (by simp [ordFp])).trans r.order, r.apart, r.short⟩
theorem RO.dom {σ : Hp} {I : Info} {od : Addr} {nm : Str} {mm : Nm} {b : B} {ks : List Int} (r : RO I od nm σ mm b ks) {t : Addr} (h : t ∈ I.x :: ordFp I od) : σ t ≠ none := by
  simp only [ordFp, List.mem_cons] at h
  rcases h with h | h | h
  · exact r.rb.dom (by simp [h])
  · rw [h, r.order]; simp
  · exact r.rb.dom (.tail _ h)
theorem RO.addNew {σ : Hp} {I : Info} {od : Addr} {nm : Str} {mm : Nm} {b : B} {ks : List Int} {t : Addr} {x : AO} (r : RO I od nm σ mm b ks) (h : σ t = none) : RO I od nm (σ.set t x) mm b ks :=
  r.frame fun a ha => Hp.set_ne _ _ fun e => r.dom (e ▸ ha) h
theorem RO.none {σ σ' : Hp} {I : Info} {od : Addr} {nm : Str} {mm : Nm} {b : B} {ks : List Int} {t : Addr} (r : RO I od nm σ' mm b ks) (kp : KeepFp (ordFp I od) σ σ') (h : σ' t = Option.none) : σ t = Option.none := by
  cases e : σ t with
  | none => rfl
  | some x =>
    by_cases ht : t ∈ ordFp I od
    · exact absurd h (r.dom (.tail _ ht))
    · rw [kp t x ht e] at h; cases h
theorem RB.addNew {σ : Hp} {I : Info} {mm : Nm} {b : B} {t : Addr} {x : AO} (r : RB σ I mm b) (h : σ t = Option.none) : RB (σ.set t x) I mm b :=
  r.frame fun a ha => Hp.set_ne _ _ fun e => r.dom (e ▸ ha) h
theorem RB.none {σ σ' : Hp} {I : Info} {mm : Nm} {b : B} {t : Addr} (r : RB σ' I mm b) (kp : KeepFp (baseFp I) σ σ') (h : σ' t = Option.none) : σ t = Option.none := by
  cases e : σ t with
  | none => rfl
  | some x =>
    by_cases ht : t ∈ baseFp I
    · exact absurd h (r.dom (.tail _ ht))
    · rw [kp t x ht e] at h; cases h
theorem RB.mono' {σ : Hp} {I : Info} {mm : Nm} {b : B} {d : Addr} {x y : AO} (r : RB σ I mm b) (hd : d ∉ baseFp I) (h : σ d = some x) (hx : ∀ C e, x ≠ .inst C e) : RB (σ.set d y) I mm b :=
  r.frame fun a ha => Hp.set_ne _ _ fun e => by
    subst e
    simp only [List.mem_cons] at ha
    rcases ha with rfl | ha
    · have := r.inst; rw [h] at this; exact hx _ _ (Option.some.inj this)
    · exact hd ha
end Mine
namespace Mine
section
variable {prog : Program} {w : World} {K : Frag} {H : Option Value} {n : Nat} {A : Around} {base : Heap} {env : Env} {os : OsState} {fs : List (Env × Nm)} {m : Nm} {σ : Hp} {s : Shared}
  {E : Value → Shared → Prop}

theorem R.updL {d : Addr} {xs ys : List Value} {nn : Nat} {t : Nat} (r : R prog w base os fs σ s) (e : σ d = some (.list xs)) (h : IsL s.heap d xs.toArray nn) (f : Array Value → Array Value) (hf : f xs.toArray = ys.toArray) :
    R prog w base os fs (σ.set d (.list ys)) { s with heap := s.heap.update d (Obj.mapSeq f), toks := t } := by
  have := IsL.update h f
  rw [hf] at this
  exact r.upd e (Heap.SameBut.update ..) this ⟨_, rfl⟩

theorem v_llen {d : Addr} {xs : List Value} {Q : Value → Shared → Prop} (r : R prog w base os fs σ s)
    (hd : σ d = some (.list xs)) (hz : xs.length ≤ 100000) (h : ∀ s' t, R prog w base os fs σ s' → Q (.int xs.length t) s') : wpAny (model prog w) A (call (.builtin "len") [.ref d]) Q E s :=
  call_len_list (r.isList hd) (by rw [List.size_toArray]; omega) (by have := h _ (s.toks + 1) (r.toks (s.toks + 1 + 1)); simpa using this)

theorem v_lmeth {d : Addr} {xs : List Value} {name : Str} {id : String} {pl : Sem Bool} {Q : Value × List Value → Shared → Prop} (r : R prog w base os fs σ s)
    (hd : σ d = some (.list xs)) (slot : Slot "list" name id) (ty : typeOf (.builtin id) = pure (.type "method_descriptor")) (h : Q (.builtin id, [.ref d]) s) : wpAny (model prog w) A (getMethod (.ref d) name pl) Q E s := by
  obtain ⟨nn, hl⟩ := r.isL hd
  exact getMethod_builtin ⟨_, hl, rfl⟩ PySem.F.plainAttrs_list slot ty (fun a e => by cases e; exact ⟨_, hl, rfl⟩) h

theorem v_lappend {d : Addr} {xs : List Value} {x : Value} {Q : Value → Shared → Prop} (r : R prog w base os fs σ s)
    (hd : σ d = some (.list xs)) (hz : xs.length ≤ 1000) (h : ∀ s', R prog w base os fs (σ.set d (.list (xs ++ [x]))) s' → Q .none s') : wpAny (model prog w) A (call (.builtin "list.append") [.ref d, x]) Q E s := by
  obtain ⟨nn, hl⟩ := r.isL hd
  refine call_meets PySem.F.slot_list_append ⟨_, hl, rfl⟩ PySem.F.entry_list_append (PySem.F.args_list_append_2 _ _) (list_append d _ nn x (by rw [sizeLine_eq, List.size_toArray]; omega)) ⟨hl, h _ (r.updL hd hl _ (by simp))⟩

theorem v_lpop {d : Addr} {xs : List Value} {x : Value} {Q : Value → Shared → Prop} (r : R prog w base os fs σ s)
    (hd : σ d = some (.list (xs ++ [x]))) (hz : xs.length ≤ 1000) (h : ∀ s', R prog w base os fs (σ.set d (.list xs)) s' → Q x s') : wpAny (model prog w) A (call (.builtin "list.pop") [.ref d]) Q E s := by
  obtain ⟨nn, hl⟩ := r.isL hd
  have hk : (xs ++ [x]).toArray.size - 1 = xs.length := by rw [List.size_toArray, List.length_append]; rfl
  refine call_meets PySem.F.slot_list_pop ⟨_, hl, rfl⟩ PySem.F.entry_list_pop (PySem.F.args_list_pop_1 _) (PySem.MeetsSeq.list_pop_last d _ nn x (by rw [hk]; simp) (by rw [sizeLine_eq, List.size_toArray, List.length_append]; simp; omega)) ⟨hl, h _ (r.updL hd hl _ ?_)⟩
  rw [hk]
  show (xs ++ [x]).toArray.eraseIdxIfInBounds xs.length = xs.toArray
  rw [kl_erase, List.append_nil]

theorem setItem_isL {l : Addr} {items : Array Value} {nn : Nat} {k : Int} {t : Tok} {v : Value} {Q : Unit → Shared → Prop} (hl : IsL s.heap l items nn) (h0 : 0 ≤ k) (hfit : k < 2 ^ 63) (hn : k < items.size)
    (hQ : Q () { s with heap := s.heap.update l (Obj.mapSeq (·.setIfInBounds k.toNat v)) }) :
    wpAny (model prog w) A (setItem (.ref l) (.int k t) v) Q E s := by
  have T := hl.isList.typeIs
  unfold setItem
  try with_reducible refine wpAny_holding ?_
  first | refine wpAny_bind (wpAny_pure ?_) | skip
  refine wpAny_bind (wpAny_sequenceKey T (by decide) ?_)
  refine wpAny_bind (wpAny_callSpecial?_slot (name := Str.ofString "__setitem__") T slot_list_setitem
    (wpAny_call_entry slot_list_setitem T entry_list_setitem ?_ (args_list_setitem _ _ _)))
  show wpAny _ _ (Builtin.List.listSubscript? (.int k t) >>= _) _ _ s
  refine wpAny_bind (wpAny_listSubscript_int (fitsIndex_of h0 hfit) ?_)
  clear hfit
  obtain ⟨j, rfl⟩ := Int.eq_ofNat_of_zero_le h0
  have hj : j < items.size := by omega
  have hx' : items[j]? = some items[j] := Array.getElem?_eq_getElem hj
  show wpAny _ _ ((seqItemAt l j >>= fun r => pure (r.map (j, ·))) >>= _) _ _ s
  refine wpAny_bind (wpAny_bind (wpAny_seqItemAt hl rfl (wpAny_pure ?_)))
  rw [hx']
  show wpAny _ _ (setSeqItemAt l j v >>= _) _ _ s
  refine wpAny_bind (wpAny_setSeqItemAt hl rfl ?_)
  first
    | exact wpAny_bind (wpAny_pure (wpAny_pure ⟨.none, rfl, wpAny_pure hQ⟩))
    | exact wpAny_pure ⟨.none, rfl, wpAny_pure hQ⟩

theorem v_lset {d : Addr} {xs : List Value} {k : Nat} {tk : Tok} {x : Value} {Q : Unit → Shared → Prop} (r : R prog w base os fs σ s)
    (hd : σ d = some (.list xs)) (hz : xs.length ≤ 1000) (hk : k < xs.length) (h : ∀ s', R prog w base os fs (σ.set d (.list (xs.set k x))) s' → Q () s') : wpAny (model prog w) A (setItem (.ref d) (.int k tk) x) Q E s := by
  obtain ⟨nn, hl⟩ := r.isL hd
  exact setItem_isL hl (by omega) (by omega) (by rw [List.size_toArray]; omega) (h _ (r.updL (t := s.toks) (ys := xs.set k x) hd hl _ (by simp)))

theorem v_litem {value slice : Expr} {d : Addr} {xs : List Value} {k : Nat} {tk : Tok} {v : Value} {Q : Value → Shared → Prop} (r : R prog w base os fs σ s)
    (hd : σ d = some (.list xs)) (hz : xs.length ≤ 1000) (hl : xs[k]? = some v) (h : Q v s)
    (hs : subscripted slice false (.ref d) (.int k tk) = operate [.ref d, .int k tk] (getItem (.ref d) (.int k tk))) :
    wpAny (model prog w) A (subscriptTail value slice (.ref d) (.int k tk)) Q E s := by
  have hk : k < xs.length := (List.getElem?_eq_some_iff.mp hl).1
  exact tail_any (r.isList hd).typeIs PySem.F.slot_list_getitem.lookup (wpAny_getItem_list (r.isList hd) (by omega) (by omega) (by simpa using hl) h) hs

theorem v_llast {value slice : Expr} {d : Addr} {xs : List Value} {tk : Tok} {v : Value} {Q : Value → Shared → Prop} (r : R prog w base os fs σ s)
    (hd : σ d = some (.list (xs ++ [v]))) (hz : xs.length ≤ 1000) (h : Q v s)
    (hs : subscripted slice false (.ref d) (.int (-1) tk) = operate [.ref d, .int (-1) tk] (getItem (.ref d) (.int (-1) tk))) :
    wpAny (model prog w) A (subscriptTail value slice (.ref d) (.int (-1) tk)) Q E s := by
  have hs1 : (xs ++ [v]).toArray.size = xs.length + 1 := by rw [List.size_toArray, List.length_append]; rfl
  exact tail_any (r.isList hd).typeIs PySem.F.slot_list_getitem.lookup (wpAny_getItem_list_neg (r.isList hd) (by omega) (by omega) (by omega) (by
    rw [hs1, show ((-1 : Int) + ((xs.length + 1 : Nat) : Int)).toNat = xs.length from by omega]; simp) h) hs

theorem v_fieldmeth {x d C : Addr} {mm : Nm} {k : Nat} {name : Str} {v : Value} {pl : Sem Bool} {Q : Value × List Value → Shared → Prop} (a : Act K H n A base (env :: fs.map (·.1))) (r : R prog w base os ((env, m) :: fs) σ s)
    (hx : σ x = some (.inst C d)) (hd : σ d = some (.ns mm k)) (hl : mm name = some v) (hv : handedIn v = true)
    (hg : plainGet K C name = true) (hh : hasDictIn K C = true) (ha : findIn K (.ref C) name = some none)
    (h : ∀ s', R prog w base os ((env, m) :: fs) σ s' → Q (v, []) s') : wpAny (model prog w) A (getMethod (.ref x) name pl) Q E s := by
  obtain ⟨od, I⟩ := r.instAt hx hd
  exact method_usual (r.kin a) I (plainGet_of hg).1 (plainGet_of hg).2 ha rfl (v_own a r hx hd hl hv hg hh ha rfl h)

theorem v_neg {a : Int} {t : Tok} {Q : Value → Shared → Prop} (r : R prog w base os fs σ s) (h : ∀ s' t', R prog w base os fs σ s' → Q (.int (-a) t') s') : wpAny (model prog w) A (unaryOp .USub (.int a t)) Q E s :=
  PyProof.Rows.neg_int (h _ _ (r.toks _))

theorem v_callM {f : Value} {first : List Value} {args : List (Bool × Sem Value)} {pos : Pos} {Q : Value → Shared → Prop} (P : Hp → Prop)
    (hk : ∀ m' σ' s', R prog w base os ((env, m') :: fs) σ' s' → P σ' → ∃ k, (k = Keeper.frame ∨ k = Keeper.machine ∨ k = Keeper.boundFrame) ∧ Looks (model prog w) s'.heap (keeperOf f) k) (hp : args.any (·.1) = false)
    (h : wpAny (model prog w) A (evalArgs f true args []) (fun x s₁ => (∃ m' σ', R prog w base os ((env, m') :: fs) σ' s₁ ∧ P σ') ∧ wpAny (model prog w) A (call f (first ++ x.pos) x.kw) Q E s₁) E s) :
    wpAny (model prog w) A (callWith pos f first args []) Q E s :=
  callWith_of (P := fun h => ∃ (m' : Nm) (σ' : Hp) (s₁ : Shared), s₁.heap = h ∧ R prog w base os ((env, m') :: fs) σ' s₁ ∧ P σ') (by rw [hp]; rfl) (fun h ⟨_, _, s₁, e, r₁, p⟩ => e ▸ hk _ _ _ r₁ p)
    (wpAny_mono h (fun x s₁ ⟨⟨m', σ', r, p⟩, q⟩ => ⟨⟨m', σ', s₁, rfl, r, p⟩, q⟩) fun _ _ z => z)
end
end Mine
namespace Mine
section
variable {prog : Program} {w : World} {K : Frag} {H : Option Value} {n : Nat} {A : Around} {base : Heap} {env : Env} {os : OsState} {fs : List (Env × Nm)} {m : Nm} {σ : Hp} {s : Shared}
  {E : Value → Shared → Prop}

theorem Act.under {es : List Env} {C : Addr} {vals : List Value} (a : Act K H (n + 1) A base es) : Act K H n (A.under (.builtin "type.__call__" ⟨.ref C :: vals, []⟩)) base es :=
by
  have hr := a.room
  have hu := a.units
  have hc : (Code.cUnits (.builtin "type.__call__" ⟨.ref C :: vals, []⟩)) = 1 := rfl
  refine ⟨?_, a.envs, a.kin, a.top, a.hand, ?_, ?_, ?_⟩
  · simp only [Around.under, a.frames]; rfl
  · simp only [Around.under, a.guards]; rfl
  · show A.depth + 1 + 4 * n < recursionLimit; omega
  · show A.units + _ + 100 * n < cLine; omega

theorem CallT.make {C fI : Addr} {vals : List Value} {k : Nat} {Q : Value → Hp → Prop} {X : String → Hp → Prop} (hm : makesIn K C = true) (hi : findIn K (.ref C) "__init__" = some (some (.ref fI))) (hf : isFn K (.ref fI) = true)
    (h : ∀ x dx, σ x = none → σ dx = none → x ≠ dx → CallT prog w K H k (.ref fI) ⟨.ref x :: vals, []⟩ ((σ.set dx (.ns (fun _ => none) 0)).set x (.inst C dx)) (fun v σ' => v = .none ∧ Q (.ref x) σ') X) :
    CallT prog w K H (k + 1) (.ref C) ⟨vals, []⟩ σ Q X := by
  intro A base os fs s a hne r Q' E' k1 k2
  have X₀ := r.kin a
  have r1 := r.push (o := dictOf [] 0) (x := .ns (fun _ => none) 0) (t := s.toks) hne ⟨[], 0, rfl, by simp, fun _ => rfl, Nat.le_refl _⟩
  have r2 := r1.push (o := instObj C s.heap.objs.size) (x := .inst C s.heap.objs.size) (t := s.toks) hne rfl
  obtain ⟨hh, g, d, t, os'⟩ := s
  have hsz : (hh.push (dictOf [] 0)).objs.size = hh.objs.size + 1 := Heap.size_push ..
  refine make_core (makes_of X₀ hm) (looks_findIn X₀ hi) (fun self => bind_fn X₀ self (beq_iff_eq.mp hf)) (.inl rfl) ?_
  have e0 : σ hh.objs.size = none := r.fresh
  have e1 : σ (hh.objs.size + 1) = none := by
    have := r1.fresh
    rw [hsz, Hp.set_ne _ _ (Nat.succ_ne_self hh.objs.size)] at this
    exact this
  rw [hsz] at r2
  refine codeAny_mono (h _ _ e1 e0 (Nat.succ_ne_self hh.objs.size) _ base os fs _ a.under hne r2 (fun v s' => v = .none ∧ Q' (.ref (hh.objs.size + 1)) s') E' (fun v σ' s' ⟨q1, q2⟩ r' => ⟨q1, k1 _ σ' s' q2 r'⟩) k2) fun rr s' z => ?_
  rcases rr with e | (v | _ | _ | _) <;> exact z

theorem R.slotAt {x d C : Addr} {f : Nat → Option Value} {mm : Nm} {k : Nat} (r : R prog w base os ((env, m) :: fs) σ s) (hx : σ x = some (.slots C d f)) (hd : σ d = some (.ns mm k)) :
    ∃ arr od, InstAt s.heap x { instObj C d with slots := arr } C (some od) ∧ (∀ i, (arr[i]?).join = f i) := by
  obtain ⟨ox, h1, arr, rfl, h3⟩ := r.get hx
  obtain ⟨od, h2, _⟩ := r.get hd
  exact ⟨arr, od, ⟨h1, rfl, rfl, h2⟩, h3⟩

theorem v_slot {x d C p : Addr} {i : Nat} {f : Nat → Option Value} {mm : Nm} {k : Nat} {name : Str} {v : Value} {expr : Bool} {Q : Value → Shared → Prop} (a : Act K H n A base (env :: fs.map (·.1))) (r : R prog w base os ((env, m) :: fs) σ s)
    (hx : σ x = some (.slots C d f)) (hd : σ d = some (.ns mm k)) (S : SlotIs K C name p i) (hf : f i = some v) (hv : handedIn v = true) (hg : plainGet K C name = true) (hc : isClsIn K C = true)
    (h : ∀ s', R prog w base os ((env, m) :: fs) σ s' → Q v s') : wpAny (model prog w) A (getAttr (.ref x) name expr) Q E s := by
  obtain ⟨arr, od, I, hs⟩ := r.slotAt hx hd
  exact get_slot r.F a.kin I hg hc S.find S.spec S.takes S.slot ((hs i).trans hf) hv (h _ (r.toks _))

theorem slots_set (arr : Array (Option Value)) (i j : Nat) (v : Value) :
    (((arr ++ Array.replicate (i + 1 - arr.size) none).setIfInBounds i (some v))[j]?).join = if j = i then some v else (arr[j]?).join := by
  rw [Array.getElem?_setIfInBounds]
  by_cases h : i = j
  · subst h
    rw [if_pos rfl, if_pos (by simp; omega), if_pos rfl]; rfl
  · rw [if_neg h, if_neg (Ne.symm h)]
    rw [Array.getElem?_append]
    split
    · rfl
    · next hj =>
      have : arr[j]? = none := Array.getElem?_eq_none (by omega)
      rw [this]
      rw [Array.getElem?_replicate]
      split <;> rfl

theorem v_setslot {x d C p : Addr} {i : Nat} {f : Nat → Option Value} {mm : Nm} {k : Nat} {name : Str} {v : Value} {Q : Unit → Shared → Prop} (a : Act K H n A base (env :: fs.map (·.1))) (r : R prog w base os ((env, m) :: fs) σ s)
    (hx : σ x = some (.slots C d f)) (hd : σ d = some (.ns mm k)) (S : SlotIs K C name p i)
    (hs : findIn K (.ref C) "__setattr__" = some (some (.builtin "object.__setattr__"))) (hp : plainOver K C = true)
    (h : ∀ s', R prog w base os ((env, m) :: fs) (σ.set x (.slots C d fun j => if j = i then some v else f j)) s' → Q () s') : wpAny (model prog w) A (setAttr (.ref x) name v) Q E s := by
  obtain ⟨arr, od, I, hsl⟩ := r.slotAt hx hd
  exact set_slot r.F a.kin (r.cons_news hx I.at_) I hs hp S.taker S.typ S.slot S.lt rfl rfl (.head ledger_ne) fun h' F' N' =>
    h _ (r.of_ledger (t := s.toks + 1) (r.own_ne hx) (r.nomod _ _ hx) F' N' ⟨_, rfl, fun j => by rw [slots_set, hsl]⟩)

theorem v_methS {x d C f : Addr} {sl : Nat → Option Value} {name : Str} {k : Nat} {pl : Sem Bool} {Q : Value × List Value → Shared → Prop} (a : Act K H n A base (env :: fs.map (·.1))) (r : R prog w base os ((env, m) :: fs) σ s)
    (hx : σ x = some (.slots C d sl)) (hd : σ d = some (.ns (fun _ => none) k))
    (hg : plainGet K C name = true) (hf : findIn K (.ref C) name = some (some (.ref f))) (ht : isFn K (.ref f) = true)
    (h : Q (.ref f, [.ref x]) s) : wpAny (model prog w) A (getMethod (.ref x) name pl) Q E s := by
  obtain ⟨arr, od0, I0, hsl⟩ := r.slotAt hx hd
  obtain ⟨od, h2, es, ne, rfl, h3, h4, h5⟩ := r.get hd
  exact method_inst r.F a.kin ⟨I0.at_, rfl, rfl, h2⟩ hg hf ht (by rw [h4]) h

theorem R.asSlots {fs : List (Env × Nm)} {x d C : Addr} (r : R prog w base os fs σ s) (hx : σ x = some (.inst C d)) : R prog w base os fs (σ.set x (.slots C d fun _ => none)) s := by
  obtain ⟨o, h1, rfl⟩ := r.get hx
  exact r.upd (h' := s.heap) (t := s.toks) hx (Heap.SameBut.refl _ _) h1 ⟨#[], rfl, fun i => rfl⟩
end
end Mine
namespace Mine
def upd (f : Addr → Addr) (x y : Addr) : Addr → Addr := fun z => if z = x then y else f z
theorem upd_self (f : Addr → Addr) (x y : Addr) : upd f x y x = y := by simp [upd]
theorem upd_ne (f : Addr → Addr) {x y z : Addr} (h : z ≠ x) : upd f x y z = f z := by simp [upd, h]

def Lk (nx pv : Addr → Addr) : List Addr → Prop
  | a :: b :: r => nx a = b ∧ pv b = a ∧ Lk nx pv (b :: r)
  | _ => True

theorem Lk.split {nx pv : Addr → Addr} {a : Addr} {s : List Addr} : ∀ {p : List Addr}, Lk nx pv (p ++ a :: s) ↔ Lk nx pv (p ++ [a]) ∧ Lk nx pv (a :: s)
  | [] => by simp [Lk]
  | [x] => by
    show (nx x = a ∧ pv a = x ∧ Lk nx pv (a :: s)) ↔ (nx x = a ∧ pv a = x ∧ True) ∧ _
    simp only [and_true, and_assoc]
  | x :: y :: p => by
    have := Lk.split (nx := nx) (pv := pv) (a := a) (s := s) (p := y :: p)
    show (nx x = y ∧ pv y = x ∧ Lk nx pv (y :: p ++ a :: s)) ↔ (nx x = y ∧ pv y = x ∧ Lk nx pv (y :: p ++ [a])) ∧ _
    rw [this]; simp only [and_assoc]

theorem Lk.congr {nx pv nx' pv' : Addr → Addr} : ∀ {L : List Addr}, Lk nx pv L → (∀ x ∈ L.dropLast, nx' x = nx x) → (∀ x ∈ L.tail, pv' x = pv x) → Lk nx' pv' L
  | [], _, _, _ => trivial
  | [_], _, _, _ => trivial
  | a :: b :: r, h, h1, h2 => ⟨(h1 a (by simp)).trans h.1, (h2 b (by simp)).trans h.2.1, Lk.congr h.2.2 (fun x hx => h1 x (by simp only [List.dropLast_cons_cons, List.mem_cons]; exact .inr hx)) fun x hx => h2 x (by simp at hx ⊢; exact .inr hx)⟩

structure NoTwice (L : List Addr) : Prop where
  d : L.dropLast.Nodup
  t : L.tail.Nodup

theorem nd_mid {p s : List Addr} {a b : Addr} (h : NoTwice (p ++ a :: b :: s)) : a ∉ p ∧ b ∉ (p ++ [a]).tail ∧ a ∉ (b :: s).dropLast ∧ b ∉ s := by
  have hd := h.d
  have ht := h.t
  rw [List.dropLast_append_cons, List.dropLast_cons_cons] at hd
  obtain ⟨hd1, hd2, hd3⟩ := List.nodup_append.mp hd
  refine ⟨fun q => hd3 a q a (.head _) rfl, fun q => ?_, fun q => (List.nodup_cons.mp hd2).1 q, fun q => ?_⟩
  · cases p with
    | nil => simp at q
    | cons x p =>
      simp only [List.cons_append, List.tail_cons] at ht q
      rw [show p ++ a :: b :: s = (p ++ [a]) ++ b :: s from by simp] at ht
      exact (List.nodup_append.mp ht).2.2 b q b (.head _) rfl
  · cases p with
    | nil =>
      simp only [List.nil_append, List.tail_cons] at ht
      exact (List.nodup_cons.mp ht).1 q
    | cons x p =>
      simp only [List.cons_append, List.tail_cons] at ht
      exact (List.nodup_cons.mp (List.nodup_cons.mp (List.nodup_append.mp ht).2.1).2).1 q

theorem Lk.ins {nx pv : Addr → Addr} {p s : List Addr} {a b n : Addr} (h : Lk nx pv (p ++ a :: b :: s)) (nt : NoTwice (p ++ a :: b :: s)) (hn : n ∉ p ++ a :: b :: s) :
    Lk (upd (upd nx n b) a n) (upd (upd pv b n) n a) (p ++ a :: n :: b :: s) := by
  obtain ⟨h1, h2⟩ := Lk.split.mp h
  obtain ⟨q1, q2, q3, q4⟩ := nd_mid nt
  simp only [List.mem_append, List.mem_cons, not_or] at hn
  obtain ⟨n1, n2, n3, n4⟩ := hn
  refine Lk.split.mpr ⟨h1.congr (fun x hx => ?_) (fun x hx => ?_), upd_self _ _ _, upd_self _ _ _, ?_, ?_, h2.2.2.congr (fun x hx => ?_) fun x hx => ?_⟩
  · rw [List.dropLast_concat] at hx
    rw [upd_ne _ (fun e : x = a => q1 (e ▸ hx)), upd_ne _ (fun e : x = n => n1 (e ▸ hx))]
  · have hm := List.mem_of_mem_tail hx
    simp only [List.mem_append, List.mem_singleton] at hm
    rw [upd_ne _ (fun e : x = n => by subst e; rcases hm with hm | hm; exact n1 hm; exact n2 hm), upd_ne _ (fun e : x = b => q2 (e ▸ hx))]
  · rw [upd_ne _ (fun e : n = a => n2 e), upd_self]
  · rw [upd_ne _ (fun e : b = n => n3 e.symm), upd_self]
  · have hm := List.dropLast_subset _ hx
    rw [upd_ne _ (fun e : x = a => q3 (e ▸ hx)), upd_ne _ (fun e : x = n => by subst e; simp only [List.mem_cons] at hm; rcases hm with hm | hm; exact n3 hm; exact n4 hm)]
  · simp only [List.tail_cons] at hx
    rw [upd_ne _ (fun e : x = n => n4 (e ▸ hx)), upd_ne _ (fun e : x = b => q4 (e ▸ hx))]

theorem Lk.del {nx pv : Addr → Addr} {p s : List Addr} {a b c : Addr} (h : Lk nx pv (p ++ a :: b :: c :: s)) (nt : NoTwice (p ++ a :: b :: c :: s)) :
    Lk (upd nx a c) (upd pv c a) (p ++ a :: c :: s) := by
  obtain ⟨h1, h2⟩ := Lk.split.mp h
  obtain ⟨q1, q2, q3, q4⟩ := nd_mid nt
  have nt2 : NoTwice ((p ++ [a]) ++ b :: c :: s) := by simpa using nt
  obtain ⟨r1, r2, r3, r4⟩ := nd_mid nt2
  refine Lk.split.mpr ⟨h1.congr (fun x hx => ?_) (fun x hx => ?_), upd_self _ _ _, upd_self _ _ _, h2.2.2.2.2.congr (fun x hx => ?_) fun x hx => ?_⟩
  · rw [List.dropLast_concat] at hx
    rw [upd_ne _ (fun e : x = a => q1 (e ▸ hx))]
  · refine upd_ne _ (fun e : x = c => r2 ?_)
    subst e
    cases p with
    | nil => simp at hx
    | cons y p => simp only [List.cons_append, List.tail_cons] at hx ⊢; exact List.mem_append_left _ hx
  · rw [upd_ne _ (fun e : x = a => q3 (by subst e; simp only [List.dropLast_cons_cons, List.mem_cons]; exact .inr hx))]
  · simp only [List.tail_cons] at hx
    exact upd_ne _ (fun e : x = c => r4 (e ▸ hx))

theorem NoTwice.ins {p s : List Addr} {a b n : Addr} (nt : NoTwice (p ++ a :: b :: s)) (hn : n ∉ p ++ a :: b :: s) : NoTwice (p ++ a :: n :: b :: s) := by
  obtain ⟨hd, ht⟩ := nt
  simp only [List.mem_append, List.mem_cons, not_or] at hn
  obtain ⟨n1, n2, n3, n4⟩ := hn
  have perm : ∀ (x y : List Addr) (a n : Addr), (x ++ a :: n :: y).Perm (n :: (x ++ a :: y)) := fun x y a n => by
    rw [show x ++ a :: n :: y = (x ++ [a]) ++ n :: y from by simp, show x ++ a :: y = (x ++ [a]) ++ y from by simp]
    exact List.perm_middle
  constructor
  · rw [List.dropLast_append_cons, List.dropLast_cons_cons, List.dropLast_cons_cons]
    rw [List.dropLast_append_cons, List.dropLast_cons_cons] at hd
    refine (perm _ _ _ _).nodup_iff.mpr (List.nodup_cons.mpr ⟨fun q => ?_, hd⟩)
    simp only [List.mem_append, List.mem_cons] at q
    rcases q with q | q | q
    · exact n1 q
    · exact n2 q
    · have := List.dropLast_subset _ q; simp only [List.mem_cons] at this
      rcases this with h | h
      · exact n3 h
      · exact n4 h
  · cases p with
    | nil => simp only [List.nil_append, List.tail_cons] at ht ⊢; exact List.nodup_cons.mpr ⟨by simp only [List.mem_cons, not_or]; exact ⟨n3, n4⟩, ht⟩
    | cons x p =>
      simp only [List.cons_append, List.tail_cons, List.mem_cons, not_or] at ht n1 ⊢
      refine (perm _ _ _ _).nodup_iff.mpr (List.nodup_cons.mpr ⟨fun q => ?_, ht⟩)
      simp only [List.mem_append, List.mem_cons] at q
      rcases q with q | q | q | q
      · exact n1.2 q
      · exact n2 q
      · exact n3 q
      · exact n4 q
theorem NoTwice.del {p s : List Addr} {a b c : Addr} (nt : NoTwice (p ++ a :: b :: c :: s)) : NoTwice (p ++ a :: c :: s) := by
  obtain ⟨hd, ht⟩ := nt
  constructor
  · rw [List.dropLast_append_cons, List.dropLast_cons_cons] at hd ⊢
    rw [List.dropLast_cons_cons] at hd
    refine List.Nodup.sublist ?_ hd
    exact List.Sublist.append_left (List.Sublist.cons_cons _ (List.sublist_cons_self _ _)) _
  · cases p with
    | nil => simp only [List.nil_append, List.tail_cons] at ht ⊢; exact ht.sublist (List.sublist_cons_self _ _)
    | cons x p =>
      simp only [List.cons_append, List.tail_cons] at ht ⊢
      exact ht.sublist (List.Sublist.append_left (List.Sublist.cons_cons _ (List.sublist_cons_self _ _)) _)
end Mine
namespace Mine
section
variable {prog : Program} {w : World} {K : Frag} {H : Option Value} {n : Nat} {A : Around} {base : Heap} {env : Env} {os : OsState} {fs : List (Env × Nm)} {m : Nm} {σ : Hp} {s : Shared}
  {E : Value → Shared → Prop}

theorem v_dict0 {pos : Pos} {Q : Value → Shared → Prop} (r : R prog w base os ((env, m) :: fs) σ s)
    (h : ∀ d s', σ d = none → R prog w base os ((env, m) :: fs) (σ.set d (.dict [])) s' → Q (.ref d) s') : wpAny (model prog w) A (eval (.Dict [] [] pos) env) Q E s := by
  refine wpAny_Dict_empty (h _ _ r.fresh (r.push (t := s.toks) (by simp) ?_))
  obtain ⟨o, ho, hd⟩ := Heap.dictOf_iff.mp (Heap.DictOf.new (knd := intKind prog w) s.heap)
  rw [Heap.get?_push_size _ rfl] at ho
  exact (Option.some.inj ho) ▸ hd

theorem assign_Attr {o : Expr} {attr : Str} {pos : Pos} {v : Value} {Q : Unit → Shared → Prop} (h : wpAny (model prog w) A (eval o env) (fun ov s₂ => wpAny (model prog w) A (setAttr ov attr v) Q E s₂) E s) :
    wpAny (model prog w) A (assign (.Attribute o attr pos) env v) Q E s := fun Γ p hΓ => by
  simp only [assign_Attribute, Sem.wp_bind', Sem.wp_holding, Sem.wp_cmd_standAt, Sem.wp_release]
  exact Sem.wp_mono _ Γ _ (fun ov _ s₂ h₂ => h₂ Γ _ hΓ) (fun _ _ _ h' => h') _ _ (h Γ _ hΓ)
end
end Mine
namespace Mine
section
variable {prog : Program} {w : World} {K : Frag} {H : Option Value} {n : Nat} {A : Around} {base : Heap} {env : Env} {os : OsState} {fs : List (Env × Nm)} {m : Nm} {σ : Hp} {s : Shared}
  {E : Value → Shared → Prop}

theorem findObj_ownF {C f : Addr} {name : Str} {od : Obj} {v : Value} {g : Value} (hh : hasDictIn K C = true) (ha : findIn K (.ref C) name = some (some (.ref f))) (hg : specialIn K (.ref f) "__get__" = some (some g)) (ht : takesIn K (.ref f) = some false) (hl : lookIn name od = some (some v)) :
    findObj K C (some od) name = some (.value v) := by
  obtain ⟨cd, hc, hd⟩ := any_some hh
  have ho : PySem.W.ownOf cd (some od) name = some (some v) := by
    unfold PySem.W.ownOf
    rw [if_pos hd]; exact hl
  simp only [findObj, hc, ha, hg, ht, ho, Option.bind_some]

theorem v_smI {x d C p f : Addr} {mm : Nm} {k : Nat} {name : Str} {expr : Bool} {Q : Value → Shared → Prop} (a : Act K H n A base (env :: fs.map (·.1))) (r : R prog w base os ((env, m) :: fs) σ s)
    (hx : σ x = some (.inst C d)) (hd : σ d = some (.ns mm k)) (hl : mm name = none) (hg : plainGet K C name = true) (hh : hasDictIn K C = true) (S : SmIs K C name p f)
    (h : ∀ s', R prog w base os ((env, m) :: fs) σ s' → Q (.ref f) s') : wpAny (model prog w) A (getAttr (.ref x) name expr) Q E s := by
  obtain ⟨ox, h1, rfl⟩ := r.get hx
  obtain ⟨od, h2, es, ne, rfl, h3, h4, h5⟩ := r.get hd
  obtain ⟨rest, hp⟩ := S.rec_
  exact get_bind (r.kin a) ⟨h1, rfl, rfl, h2⟩ (plainGet_of hg).1 (findObj_fn hh S.find S.spec S.takes S.cop (by show lookIn name (dictOf es ne) = _; rw [lookIn_dict, h4, hl])) (plainGet_of hg).2
    (wpAny_call (sm_get (s := { s with toks := s.toks + 1 }) (r.kin a) hp (handed_on rfl (h _ (r.toks _)))))

theorem v_smC {C p f : Addr} {mc : Value} {name : Str} {expr : Bool} {Q : Value → Shared → Prop} (a : Act K H n A base (env :: fs.map (·.1))) (r : R prog w base os ((env, m) :: fs) σ s)
    (hr : readsIn K C mc = true) (e : findCls K (.ref C) mc name = some (.get (.builtin "staticmethod.__get__") (.ref p) .none (.ref C))) {rest : List Value} (hp : recIn K p "staticmethod" = some (.ref f :: rest))
    (h : ∀ s', R prog w base os ((env, m) :: fs) σ s' → Q (.ref f) s') : wpAny (model prog w) A (getAttr (.ref C) name expr) Q E s :=
  cls_bind (r.kin a) hr e (wpAny_call (sm_get (s := { s with toks := s.toks + 1 }) (r.kin a) hp (handed_on rfl (h _ (r.toks _)))))

theorem v_ownS {x d C p f : Addr} {mm : Nm} {k : Nat} {name : Str} {v : Value} {expr : Bool} {Q : Value → Shared → Prop} (a : Act K H n A base (env :: fs.map (·.1))) (r : R prog w base os ((env, m) :: fs) σ s)
    (hx : σ x = some (.inst C d)) (hd : σ d = some (.ns mm k)) (hl : mm name = some v) (hv : handedIn v = true) (hg : plainGet K C name = true) (hh : hasDictIn K C = true) (S : SmIs K C name p f)
    (h : ∀ s', R prog w base os ((env, m) :: fs) σ s' → Q v s') : wpAny (model prog w) A (getAttr (.ref x) name expr) Q E s := by
  obtain ⟨ox, h1, rfl⟩ := r.get hx
  obtain ⟨od, h2, es, ne, rfl, h3, h4, h5⟩ := r.get hd
  exact get_value (r.kin a) ⟨h1, rfl, rfl, h2⟩ (plainGet_of hg).1 (findObj_ownF hh S.find S.spec S.takes (by show lookIn name (dictOf es ne) = _; rw [lookIn_dict, h4, hl])) hv (h _ (r.toks _))

theorem assign_Subs {o i : Expr} {pos : Pos} {v : Value} {Q : Unit → Shared → Prop} (h : wpAny (model prog w) A (eval o env) (fun ov s₁ => wpAny (model prog w) A (eval i env) (fun iv s₂ => wpAny (model prog w) A (setItem ov iv v) Q E s₂) E s₁) E s) :
    wpAny (model prog w) A (assign (.Subscript o i pos) env v) Q E s := fun Γ p hΓ => by
  simp only [assign_Subscript, Sem.wp_bind', Sem.wp_holding, Sem.wp_cmd_standAt, Sem.wp_release]
  exact Sem.wp_mono _ Γ _ (fun ov p₁ s₁ h₁ => Sem.wp_mono _ Γ _ (fun iv _ s₂ h₂ => h₂ Γ _ hΓ) (fun _ _ _ h' => h') _ _ (h₁ Γ p₁ hΓ)) (fun _ _ _ h' => h') _ _ (h Γ _ hΓ)

structure PropIs (K : Frag) (C : Addr) (name : Str) (p f : Addr) : Prop where
  find : findIn K (.ref C) name = some (some (.ref p))
  spec : specialIn K (.ref p) "__get__" = some (some (.builtin "property.__get__"))
  takes : takesIn K (.ref p) = some true
  rec_ : ∃ rest, recIn K p "property" = some (.ref f :: rest)
end
end Mine
namespace Mine
def Hp.del (σ : Hp) (l : List Addr) : Hp := fun b => if b ∈ l then none else σ b
theorem Hp.del_ne (σ : Hp) {l : List Addr} {b : Addr} (h : b ∉ l) : σ.del l b = σ b := if_neg h
theorem Hp.del_in (σ : Hp) {l : List Addr} {b : Addr} (h : b ∈ l) : σ.del l b = none := if_pos h
theorem Hp.del_le {σ : Hp} {l : List Addr} {b : Addr} {x : AO} (h : σ.del l b = some x) : σ b = some x ∧ b ∉ l := by
  unfold Hp.del at h
  split at h
  · cases h
  · exact ⟨h, by assumption⟩
section
variable {prog : Program} {w : World} {K : Frag} {H : Option Value} {n : Nat} {A : Around} {base : Heap} {env : Env} {os : OsState} {fs : List (Env × Nm)} {m : Nm} {σ : Hp} {s : Shared}
  {E : Value → Shared → Prop}

theorem R.drop {fs : List (Env × Nm)} (r : R prog w base os fs σ s) (l : List Addr) : R prog w base os fs (σ.del l) s := r.forget fun _ _ h => (Hp.del_le h).1

theorem R.extBut {fs : List (Env × Nm)} {a : Addr} {x : AO} {h' : Heap} {t : Nat} {l : List Addr} (r : R prog w base os fs σ s) (ha : σ a = some x) (hl : a ∈ l) (hk : Heap.ExtBut a s.heap h') : R prog w base os fs (σ.del l) { s with heap := h', toks := t } := by
  obtain ⟨_, _, _, hb⟩ := r.own a x ha
  refine ⟨fun b o e => hk b o (fun q => by rw [q, hb] at e; cases e) (r.keep b o e), fun f hf => ?_, r.nd, fun b y e => ?_, fun b y e => r.nomod b y (Hp.del_le e).1, r.low, r.gens, r.hos⟩
  · obtain ⟨⟨o, es, ep, q1, q2⟩, k2, k3⟩ := r.fr f hf
    have hfa : f.1.locals ≠ a := fun q => by rw [q, ha] at k3; cases k3
    refine ⟨⟨o, es, ep, hk _ o hfa q1, q2⟩, k2, ?_⟩
    unfold Hp.del
    split
    · rfl
    · exact k3
  · obtain ⟨e1, hne⟩ := Hp.del_le e
    obtain ⟨o, q1, q2, q3⟩ := r.own b y e1
    exact ⟨o, hk b o (fun q => hne (q ▸ hl)) q1, q2, q3⟩

theorem R.extButSame {fs : List (Env × Nm)} {a : Addr} {x : AO} {h' : Heap} {t : Nat} (r : R prog w base os fs σ s) (ha : σ a = some x) (hk : Heap.SameBut a s.heap h') : R prog w base os fs (σ.del [a]) { s with heap := h', toks := t } :=
  r.extBut ha (.head _) fun b o hb e => (hk.2 b hb).trans e

structure Blk (env ce : Env) : Prop where
  kind : ce.scope.kind = .function
  globals : ce.globals = mainGlobals
  builtins : ce.builtins = builtinsNs

theorem c_local {ce : Env} {x : Str} {pos : Pos} {v : Value} {cm : Nm} {fs : List (Env × Nm)} {Q : Value → Shared → Prop} (b : Blk env ce) (r : R prog w base os fs σ s)
    (hl : ce.kindOf x = some .local) (hc : σ ce.locals = some (.loc cm)) (hv : cm x = some v) (h : Q v s) (hd : (x == ("__debug__" : Str)) = false) :
    wpAny (model prog w) A (eval (.Name x pos) ce) Q E s := by
  obtain ⟨o, h1, es, ep, h2, h3, h4⟩ := r.get hc
  exact wpAny_Name (wpAny_loadName_local b.kind hl ⟨o, es, ep, h1, h2, h3, h4⟩ hv h) hd
theorem c_global {ce : Env} {x : Str} {pos : Pos} {v : Value} {Q : Value → Shared → Prop} (b : Blk env ce) (a : Act K H n A base (env :: fs.map (·.1))) (r : R prog w base os ((env, m) :: fs) σ s)
    (hl : ce.kindOf x = some .globalImplicit) (hv : nsIn K mainGlobals x = some (some v)) (h : Q v s) (hd : (x == ("__debug__" : Str)) = false) :
    wpAny (model prog w) A (eval (.Name x pos) ce) Q E s := by
  obtain ⟨p, loose, mg, mb, T⟩ := a.top
  exact Name_function_global b.kind hl (loadGlobal_global (by rw [b.globals]; exact T.g.keeps r.keep) (mg_of a.kin T.g hv) h) hd
theorem c_builtin {ce : Env} {x : Str} {pos : Pos} {v : Value} {Q : Value → Shared → Prop} (b : Blk env ce) (a : Act K H n A base (env :: fs.map (·.1))) (r : R prog w base os ((env, m) :: fs) σ s)
    (hl : ce.kindOf x = some .globalImplicit) (he : nsIn K mainGlobals x = some none) (hv : bootBuiltins x = some v) (hn : x ≠ "__name__") (h : Q v s) (hd : (x == ("__debug__" : Str)) = false) :
    wpAny (model prog w) A (eval (.Name x pos) ce) Q E s := by
  obtain ⟨p, loose, mg, mb, T⟩ := a.top
  exact Name_function_global b.kind hl (loadGlobal_builtin (by rw [b.globals]; exact T.g.keeps r.keep) (mg_none_of a.kin T.g he) (by rw [b.builtins]; exact T.b.keeps r.keep) ((T.builtins x hn).trans hv) h) hd
theorem v_cell {ce : Env} {x : Str} {pos : Pos} {c : Addr} {v : Value} {fs : List (Env × Nm)} {Q : Value → Shared → Prop} (hk : ce.scope.kind = .function) (r : R prog w base os fs σ s)
    (hl : ce.kindOf x = some .cell) (hc : ce.cells.lookup x = some c) (hv : σ c = some (.cell (some v))) (h : Q v s) (hd : (x == ("__debug__" : Str)) = false) :
    wpAny (model prog w) A (eval (.Name x pos) ce) Q E s := by
  obtain ⟨o, h1, h2⟩ := r.get hv
  exact wpAny_Name (wpAny_loadName_cell hk hl hc ⟨o, h1, h2⟩ h) hd
theorem v_free {ce : Env} {x : Str} {pos : Pos} {c : Addr} {v : Value} {fs : List (Env × Nm)} {Q : Value → Shared → Prop} (hk : ce.scope.kind = .function) (r : R prog w base os fs σ s)
    (hl : ce.kindOf x = some .free) (hc : ce.cells.lookup x = some c) (hv : σ c = some (.cell (some v))) (h : Q v s) (hd : (x == ("__debug__" : Str)) = false) (hn : (x == ("__classdict__" : Str)) = false) :
    wpAny (model prog w) A (eval (.Name x pos) ce) Q E s := by
  obtain ⟨o, h1, h2⟩ := r.get hv
  exact wpAny_Name (wpAny_loadName_free hk hl hc ⟨o, h1, h2⟩ h hn) hd
theorem v_storecell {ce : Env} {x : Str} {c : Addr} {v : Value} {v₀ : Option Value} {fs : List (Env × Nm)} {Q : Unit → Shared → Prop} (hk : ce.scope.kind = .function) (r : R prog w base os fs σ s)
    (hl : ce.kindOf x = some .cell) (hc : ce.cells.lookup x = some c) (hv : σ c = some (.cell v₀)) (h : ∀ s', R prog w base os fs (σ.set c (.cell (some v))) s' → Q () s') :
    wpAny (model prog w) A (storeName ce x v) Q E s := by
  obtain ⟨o, h1, h2⟩ := r.get hv
  exact wpAny_storeName_cell hk hl hc ⟨o, h1, h2⟩ fun h' ⟨o', q1, q2⟩ hs => h _ (r.upd (t := s.toks) hv hs q1 q2)
theorem c_store {ce : Env} {x : Str} {v : Value} {cm : Nm} {fs : List (Env × Nm)} {Q : Unit → Shared → Prop} (b : Blk env ce) (r : R prog w base os fs σ s)
    (hl : ce.kindOf x = some .local) (hc : σ ce.locals = some (.loc cm)) (h : ∀ s', R prog w base os fs (σ.set ce.locals (.loc (mset cm x v))) s' → Q () s') :
    wpAny (model prog w) A (storeName ce x v) Q E s := by
  obtain ⟨o, h1, es, ep, h2, h3, h4⟩ := r.get hc
  exact wpAny_storeName_local hl ⟨o, es, ep, h1, h2, h3, h4⟩ (fun h' ⟨o', es', ep', q1, q2, q3, q4⟩ hs => h _ (r.upd hc hs q1 ⟨es', ep', q2, q3, q4⟩)) (by rw [b.kind]; rfl)

structure Src (prog : Program) (w : World) (target : Expr) (it : Addr) (len : Nat) where
  At : Nat → Hp → Prop
  Step : Nat → Value → Hp → Hp → Prop
  gone : List Addr
  dep : List Addr
  next : ∀ {A base os fs σ s i} {Q : Value → Shared → Prop} {E : Value → Shared → Prop}, fs ≠ [] → R prog w base os fs σ s → At i σ → i < len →
    (∀ v σ' s', Step i v σ σ' → R prog w base os fs σ' s' → Q v s') →
    wpAny (model prog w) A (pyNext (.ref it)) (fun r s₁ => match r with | none => False | some v => wpAny (model prog w) A (letOwnedTupleGo target (.ref it) v) (fun _ s₂ => Q v s₂) E s₁) E s
  done : ∀ {A base os fs σ s} {Q : Option Value → Shared → Prop} {E : Value → Shared → Prop}, A.handled = none → R prog w base os fs σ s → At len σ →
    (∀ s', R prog w base os fs (σ.del gone) s' → Q none s') → wpAny (model prog w) A (pyNext (.ref it)) Q E s
  self : ∀ {A base os fs σ s i} {Q : Value → Shared → Prop} {E : Value → Shared → Prop}, R prog w base os fs σ s → At i σ → Q (.ref it) s → wpAny (model prog w) A (pyIter (.ref it)) Q E s
  frame : ∀ {i σ σ'}, At i σ → (∀ a ∈ dep, σ' a = σ a) → At i σ'
  there : ∀ {i σ}, At i σ → ∀ a ∈ dep, σ a ≠ none
  goneDep : ∀ a ∈ gone, a ∈ dep
  stepAt : ∀ {i v σ σ'}, At i σ → Step i v σ σ' → At (i + 1) σ'
  stepOut : ∀ {i v σ σ'}, At i σ → Step i v σ σ' → ∀ a, a ∉ dep → σ a ≠ none → σ' a = σ a
  stay : ∀ {i j σ σ'}, At i σ → At j σ' → ∀ a ∈ dep, a ∉ gone → σ' a = σ a
theorem Src.ext {target : Expr} {it : Addr} {len i : Nat} {σ σ' : Hp} (S : Src prog w target it len) (h : S.At i σ) (k : ∀ a x, σ a = some x → σ' a = some x) : S.At i σ' :=
  S.frame h fun a ha => by
    cases e : σ a with
    | none => exact absurd e (S.there h a ha)
    | some x => exact k a x e

theorem v_loop {target : Expr} {body : List Stmt} {it : Addr} {len : Nat} (S : Src prog w target it len) (J : Nat → Nm → Hp → Prop) {Q : Flow → Shared → Prop} (a : Act K none n A base (env :: fs.map (·.1))) (hE : PassesOwn (model prog w) A env E)
    (r : R prog w base os ((env, m) :: fs) σ s) (h0 : J 0 m σ) (hA : S.At 0 σ)
    (turn : ∀ i m σ σ₁ v s, i < len → J i m σ → S.At i σ → S.Step i v σ σ₁ → R prog w base os ((env, m) :: fs) σ₁ s →
      wpAny (model prog w) A (assign target env v) (fun _ s₂ => wpAny (model prog w) A (execs body env) (fun f s₃ => match f with
        | .next | .cont => ∃ m' σ', R prog w base os ((env, m') :: fs) σ' s₃ ∧ J (i + 1) m' σ' ∧ S.At (i + 1) σ'
        | .brk => Q .next s₃
        | .ret v => Q (.ret v) s₃) E s₂) E s)
    (fin : ∀ m σ s, J len m σ → S.At len σ → R prog w base os ((env, m) :: fs) (σ.del S.gone) s → Q .next s) :
    codeAny (model prog w) A (.forLoop target (.ref it) body [] env) (fun r s' => match r with | .ok f => Q f s' | .error e => cameBackBy (model prog w) A env E e s') s := by
  refine codeAny_forLoop_any (fun k s' => ∃ i m σ, R prog w base os ((env, m) :: fs) σ s' ∧ J i m σ ∧ S.At i σ ∧ i ≤ len ∧ k = len - i) ?_ (len - 0) ⟨0, m, σ, r, h0, hA, Nat.zero_le _, rfl⟩
  rintro k s' ⟨i, m', σ', r', hJ, hAt, hi, rfl⟩
  rcases Nat.lt_or_ge i len with hlt | hge
  · refine wpAny_mono (S.next (A := A) (Q := fun v s₂ => wpAny (model prog w) A (assign target env v) (fun _ s₂ => wpAny (model prog w) A (execs body env) (fun f s₃ => match f with
        | .next | .cont => ∃ m, m < len - i ∧ ∃ i m_1 σ, R prog w base os ((env, m_1) :: fs) σ s₃ ∧ J i m_1 σ ∧ S.At i σ ∧ i ≤ len ∧ m = len - i
        | .brk => Q .next s₃
        | .ret v => Q (.ret v) s₃) (notedBy (model prog w) A env (cameBackBy (model prog w) A env E)) s₂) (notedBy (model prog w) A env (cameBackBy (model prog w) A env E)) s₂) (by simp) r' hAt hlt fun v σ₁ s₁ hst r₁ => ?_) (fun rr s₁ h₁ => ?_) fun _ _ x => x
    · refine wpAny_passesOwn hE (wpAny_mono (turn i m' σ' σ₁ v s₁ hlt hJ hAt hst r₁) (fun _ s₂ h₂ => wpAny_passesOwn hE (wpAny_mono h₂ (fun f s₃ h₃ => ?_) fun _ _ x => x)) fun _ _ x => x)
      cases f with
      | next => obtain ⟨m₂, σ₂, r₂, hJ₂, hA₂⟩ := h₃; exact ⟨len - (i + 1), by omega, i + 1, m₂, σ₂, r₂, hJ₂, hA₂, hlt, rfl⟩
      | cont => obtain ⟨m₂, σ₂, r₂, hJ₂, hA₂⟩ := h₃; exact ⟨len - (i + 1), by omega, i + 1, m₂, σ₂, r₂, hJ₂, hA₂, hlt, rfl⟩
      | brk => exact h₃
      | ret v => exact h₃
    · cases rr with
      | none => exact h₁.elim
      | some v => exact h₁
  · have hi' : i = len := Nat.le_antisymm hi hge
    subst hi'
    exact S.done a.hand r' hAt fun s₁ r₁ => wpAny_execs_nil (fin m' σ' s₁ hJ hAt r₁)

theorem letGo_fld {target : Expr} {it : Addr} {cls : String} {vs : List Value} {v : Value} {fs : List (Env × Nm)} {Q : Unit → Shared → Prop} (r : R prog w base os fs σ s) (hi : σ it = some (.fld cls vs))
    (hc : ["enumerate", "zip", "dict_itemiterator", "dict_reverseitemiterator", "odict_iterator", "itertools.zip_longest", "itertools.pairwise"].contains cls = false) (h : Q () s) :
    wpAny (model prog w) A (letOwnedTupleGo target (.ref it) v) Q E s := by
  obtain ⟨o, h1, h2, h3⟩ := r.get hi
  unfold letOwnedTupleGo
  cases target <;> (try exact wpAny_pure h) <;> cases v <;> (try exact wpAny_pure h)
  all_goals
    refine wpAny_bind (wpAny_load h1 ?_)
    rw [h2, h3]
    simp only [hc, Bool.false_and, Bool.false_eq_true, if_false]
    exact wpAny_pure h

def liter (l : Addr) (i : Nat) : AO := .fld "list_iterator" [.ref l, .int i 0]
theorem R.listIter {fs : List (Env × Nm)} {it l : Addr} {i : Nat} (r : R prog w base os fs σ s) (hi : σ it = some (liter l i)) : s.heap.IsListIter it l i := by
  obtain ⟨o, h1, h2, h3⟩ := r.get hi
  exact ⟨o, h1, h2, h3⟩

def Src.list (target : Expr) (it l : Addr) (xs : List Value) : Src prog w target it xs.length where
  At := fun i σ => σ it = some (liter l i) ∧ σ l = some (.list xs)
  Step := fun i v σ σ' => xs[i]? = some v ∧ σ' = σ.set it (liter l (i + 1))
  gone := [it]
  next := fun {A base os fs σ s i Q E} hne r ⟨hi, hl⟩ hlt h => by
    have hx : xs[i]? = some xs[i] := List.getElem?_eq_getElem hlt
    refine wpAny_pyNext_list_item (r.listIter hi) (r.isList hl) (x := xs[i]) (by simp) fun h' hit hs => ?_
    obtain ⟨o, q1, q2, q3⟩ := hit
    have r' := r.upd (x := liter l (i + 1)) (t := s.toks) hi hs q1 ⟨q2, q3⟩
    exact letGo_fld r' (Hp.set_self _ _ _) (by decide +kernel) (h _ _ _ ⟨hx, rfl⟩ r')
  done := fun {A base os fs σ s Q E} hh r ⟨hi, hl⟩ h =>
    wpAny_pyNext_list_end hh (r.listIter hi) (r.isList hl) (by simp) fun h' he => h _ (r.extBut (t := s.toks) hi (.head _) he)
  self := fun {A base os fs σ s i Q E} r ⟨hi, hl⟩ h => wpAny_pyIter_listiter (r.listIter hi) h
  dep := [it, l]
  frame := fun ⟨h1, h2⟩ k => ⟨(k it (by simp)).trans h1, (k l (by simp)).trans h2⟩
  there := fun ⟨h1, h2⟩ a ha => by
    simp only [List.mem_cons, List.not_mem_nil, or_false] at ha
    rcases ha with rfl | rfl
    · rw [h1]; simp
    · rw [h2]; simp
  goneDep := by simp
  stepAt := fun ⟨h1, h2⟩ ⟨_, e⟩ => by
    subst e
    exact ⟨Hp.set_self _ _ _, by rw [Hp.set_ne _ _ (fun q => by rw [q, h1] at h2; cases h2)]; exact h2⟩
  stepOut := fun _ ⟨_, e⟩ a ha _ => by subst e; exact Hp.set_ne _ _ (fun q => ha (by simp [q]))
  stay := fun ⟨_, h2⟩ ⟨_, h3⟩ a ha hg => by
    simp only [List.mem_cons, List.not_mem_nil, or_false] at ha hg
    rcases ha with rfl | rfl
    · exact absurd rfl hg
    · rw [h2, h3]

theorem v_iterL {l : Addr} {xs : List Value} {Q : Value → Shared → Prop} (r : R prog w base os ((env, m) :: fs) σ s) (hl : σ l = some (.list xs))
    (h : ∀ it s', σ it = none → R prog w base os ((env, m) :: fs) (σ.set it (liter l 0)) s' → Q (.ref it) s') : wpAny (model prog w) A (pyIter (.ref l)) Q E s :=
  wpAny_pyIter_list (r.isList hl) (h _ _ r.fresh (r.push (t := s.toks) (by simp) ⟨rfl, rfl⟩))
end
end Mine
namespace Mine
section
variable {prog : Program} {w : World} {K : Frag} {H : Option Value} {n : Nat} {A : Around} {base : Heap} {env : Env} {os : OsState} {fs : List (Env × Nm)} {m : Nm} {σ : Hp} {s : Shared}
  {E : Value → Shared → Prop}

def rangeObj (a b : Int) (t u v : Tok) : Obj := { cls := .type "range", dict := none, data := .fields #[.int a t, .int b u, .int 1 v], slots := #[] }
def riterObj (x left : Int) : Obj := { cls := .type "range_iterator", dict := none, data := .fields #[rawInt x, rawInt left, rawInt 1], slots := #[] }
theorem v_range1 {b : Int} {t : Tok} {Q : Value → Shared → Prop} (r : R prog w base os ((env, m) :: fs) σ s)
    (h : ∀ x t u v s', σ x = none → R prog w base os ((env, m) :: fs) (σ.set x (.obj (rangeObj 0 b t u v))) s' → Q (.ref x) s') : wpAny (model prog w) A (call (.type "range") [.int b t]) Q E s :=
  call_range_1 (h _ _ _ _ _ r.fresh (r.push (by simp) rfl))
theorem v_range2 {a b : Int} {t u : Tok} {Q : Value → Shared → Prop} (r : R prog w base os ((env, m) :: fs) σ s)
    (h : ∀ x t u v s', σ x = none → R prog w base os ((env, m) :: fs) (σ.set x (.obj (rangeObj a b t u v))) s' → Q (.ref x) s') : wpAny (model prog w) A (call (.type "range") [.int a t, .int b u]) Q E s :=
  call_range_2 (h _ _ _ _ _ r.fresh (r.push (by simp) rfl))
theorem v_iterR {x : Addr} {a b : Int} {t u v : Tok} {Q : Value → Shared → Prop} (r : R prog w base os ((env, m) :: fs) σ s) (hx : σ x = some (.obj (rangeObj a b t u v))) (ha : -1000000 ≤ a ∧ a ≤ b ∧ b ≤ 1000000)
    (h : ∀ it s', σ it = none → R prog w base os ((env, m) :: fs) (σ.set it (.obj (riterObj a (b - a)))) s' → Q (.ref it) s') : wpAny (model prog w) A (pyIter (.ref x)) Q E s := by
  obtain ⟨o, h1, rfl⟩ := r.get hx
  refine wpAny_pyIter_range (c := 1) h1 (small_one (by omega) (by omega) (by omega) (by omega)) (h _ _ r.fresh (r.push (t := s.toks) (by simp) ?_))
  rw [rangeSize_one]
  have : (if a < b then b - a else 0) = b - a := by split <;> omega
  rw [this]; rfl
def Src.range (target : Expr) (it : Addr) (a : Int) (k : Nat) : Src prog w target it k where
  At := fun i σ => σ it = some (.obj (riterObj (a + i) ((k : Int) - i)))
  Step := fun i v σ σ' => (∃ t, v = .int (a + i) t) ∧ σ' = σ.set it (.obj (riterObj (a + (i + 1 : Nat)) ((k : Int) - (i + 1 : Nat))))
  gone := [it]
  next := fun {A base os fs σ s i Q E} hne r hi hlt h => by
    obtain ⟨o, h1, rfl⟩ := r.get hi
    refine wpAny_pyNext_range_item (x := a + i) (left := (k : Int) - i) (step := 1) h1 (by omega) fun h' hit hs => ?_
    have e1 : a + (i : Int) + 1 = a + ((i + 1 : Nat) : Int) := by push_cast; omega
    have e2 : (k : Int) - i - 1 = (k : Int) - ((i + 1 : Nat) : Int) := by push_cast; omega
    rw [e1, e2] at hit
    have r' := r.upd (x := .obj (riterObj (a + (i + 1 : Nat)) ((k : Int) - (i + 1 : Nat)))) (t := s.toks + 1) hi hs hit rfl
    have hq := h _ _ _ ⟨⟨s.toks, rfl⟩, rfl⟩ r'
    show wpAny _ _ (letOwnedTupleGo target (.ref it) (.int (a + i) s.toks)) _ _ _
    unfold letOwnedTupleGo
    cases target <;> exact wpAny_pure hq
  done := fun {A base os fs σ s Q E} hh r hi h => by
    obtain ⟨o, h1, rfl⟩ := r.get hi
    exact wpAny_pyNext_range_end (x := a + k) (left := (k : Int) - k) (step := 1) hh h1 (by omega) fun h' he => h _ (r.extBut (t := s.toks) hi (.head _) he)
  self := fun {A base os fs σ s i Q E} r hi h => by
    obtain ⟨o, h1, rfl⟩ := r.get hi
    exact wpAny_pyIter_rangeiter h1 h
  dep := [it]
  frame := fun h k => (k it (by simp)).trans h
  there := fun h a ha => by
    simp only [List.mem_cons, List.not_mem_nil, or_false] at ha
    subst ha; rw [h]; simp
  goneDep := by simp
  stepAt := fun _ ⟨_, e⟩ => by subst e; exact Hp.set_self _ _ _
  stepOut := fun _ ⟨_, e⟩ a ha _ => by subst e; exact Hp.set_ne _ _ (fun q => ha (by simp [q]))
  stay := fun _ _ a ha hg => absurd ha hg

theorem v_iterDk {d : Addr} {kvs : List (Int × Value)} {Q : Value → Shared → Prop} (r : R prog w base os ((env, m) :: fs) σ s) (hd : σ d = some (.dict kvs))
    (h : ∀ it ep s', σ it = none → R prog w base os ((env, m) :: fs) ((σ.set d (.dictE kvs ep)).set it (diter d 0 kvs.length ep)) s' → Q (.ref it) s') :
    wpAny (model prog w) A (pyIter (.ref d)) Q E s := by
  obtain ⟨o, h1, h2⟩ := r.get hd
  obtain ⟨ep, ha⟩ := KdkAt.of h2
  have r1 : R prog w base os ((env, m) :: fs) (σ.set d (.dictE kvs ep)) s := by
    have := r.upd (a := d) (x := .dictE kvs ep) (o' := o) (h' := s.heap) (t := s.toks) hd (Heap.SameBut.refl _ _) h1 ha
    exact this
  exact wpAny_pyIter_dict (r.nomod _ _ hd) (ha.dictAt h1) (h _ ep _ r.fresh (r1.push (t := s.toks) (by simp) ⟨rfl, rfl⟩))
theorem R.keyIter {fs : List (Env × Nm)} {it d : Addr} {i k ep : Nat} (r : R prog w base os fs σ s) (hi : σ it = some (diter d i k ep)) : s.heap.IsKeyIter it d i k ep := by
  obtain ⟨o, h1, h2, h3⟩ := r.get hi
  exact ⟨o, h1, h2, h3⟩
theorem R.dictE {fs : List (Env × Nm)} {d : Addr} {kvs : List (Int × Value)} {ep : Nat} (r : R prog w base os fs σ s) (e : σ d = some (.dictE kvs ep)) : s.heap.DictAt (intKind prog w) d kvs ep := by
  obtain ⟨o, h1, h2⟩ := r.get e
  exact KdkAt.dictAt h2 h1
def Src.keys (target : Expr) (it d : Addr) (kvs : List (Int × Value)) (ep : Nat) : Src prog w target it kvs.length where
  At := fun i σ => σ it = some (diter d i kvs.length ep) ∧ σ d = some (.dictE kvs ep)
  Step := fun i v σ σ' => (∃ k x t, kvs[i]? = some (k, x) ∧ v = .int k t) ∧ σ' = σ.set it (diter d (i + 1) kvs.length ep)
  gone := [it]
  next := fun {A base os fs σ s i Q E} hne r ⟨hi, hd⟩ hlt h => by
    have hx : kvs[i]? = some kvs[i] := List.getElem?_eq_getElem hlt
    refine wpAny_pyNext_dict_item (knd := intKind prog w) (r.keyIter hi) (r.dictE hd) (k := kvs[i].1) (v := kvs[i].2) hx fun key h' hk hit hs => ?_
    obtain ⟨t, rfl⟩ : ∃ t, key = .int kvs[i].1 t := by
      cases key with
      | int j t => exact ⟨t, by have : (j == kvs[i].1) = true := hk; rw [beq_iff_eq.mp this]⟩
      | _ => cases hk
    obtain ⟨o, q1, q2, q3⟩ := hit
    have r' := r.upd (x := diter d (i + 1) kvs.length ep) (t := s.toks) hi hs q1 ⟨q2, q3⟩
    exact letGo_fld r' (Hp.set_self _ _ _) (by decide +kernel) (h _ _ _ ⟨⟨_, _, t, hx, rfl⟩, rfl⟩ r')
  done := fun {A base os fs σ s Q E} hh r ⟨hi, hd⟩ h =>
    wpAny_pyNext_dict_end (knd := intKind prog w) hh (r.keyIter hi) (r.dictE hd) (by simp) fun h' he => h _ (r.extBut (t := s.toks) hi (.head _) he)
  self := fun {A base os fs σ s i Q E} r ⟨hi, hd⟩ h => wpAny_pyIter_keyiter (r.keyIter hi) h
  dep := [it, d]
  frame := fun ⟨h1, h2⟩ k => ⟨(k it (by simp)).trans h1, (k d (by simp)).trans h2⟩
  there := fun ⟨h1, h2⟩ a ha => by
    simp only [List.mem_cons, List.not_mem_nil, or_false] at ha
    rcases ha with rfl | rfl
    · rw [h1]; simp
    · rw [h2]; simp
  goneDep := by simp
  stepAt := fun ⟨h1, h2⟩ ⟨_, e⟩ => by
    subst e
    exact ⟨Hp.set_self _ _ _, by rw [Hp.set_ne _ _ (fun q => by rw [q, h1] at h2; cases h2)]; exact h2⟩
  stepOut := fun _ ⟨_, e⟩ a ha _ => by subst e; exact Hp.set_ne _ _ (fun q => ha (by simp [q]))
  stay := fun ⟨_, h2⟩ ⟨_, h3⟩ a ha hg => by
    simp only [List.mem_cons, List.not_mem_nil, or_false] at ha hg
    rcases ha with rfl | rfl
    · exact absurd rfl hg
    · rw [h2, h3]
theorem v_ditemE {value slice : Expr} {d : Addr} {kvs : List (Int × Value)} {ep : Nat} {k : Int} {tk : Tok} {v : Value} {Q : Value → Shared → Prop} (r : R prog w base os fs σ s)
    (hd : σ d = some (.dictE kvs ep)) (hl : valueAt kvs k = some v) (h : ∀ s', R prog w base os fs σ s' → Q v s')
    (hs : subscripted slice false (.ref d) (.int k tk) = operate [.ref d, .int k tk] (getItem (.ref d) (.int k tk))) :
    wpAny (model prog w) A (subscriptTail value slice (.ref d) (.int k tk)) Q E s := by
  have r1 : R prog w base os fs (σ.set d (.dict kvs)) s := r.restore fun a x e => by
    by_cases hb : a = d
    · subst hb
      rw [Hp.set_self] at e; cases e
      exact ⟨_, hd, fun o ⟨es, a1, a2, a3⟩ => ⟨es, ep, a1, a2, a3⟩⟩
    · rw [Hp.set_ne _ _ hb] at e; exact ⟨_, e, fun _ x => x⟩
  have hD := r1.dictOf (Hp.set_self _ _ _)
  exact tail_any hD.typeIs slot_dict_getitem.lookup (wpAny_getItem_of (intKind_is _ _ _ _) hD.mapOf hl (h _ (r.toks _))) hs

def enumObj (it : Addr) (i : Int) (old : Value) : Obj := { cls := .type "enumerate", dict := none, data := .fields #[.none, .bool false, .ref it, rawInt i, .none, old], slots := #[] }
theorem v_enum {l : Addr} {xs : List Value} {Q : Value → Shared → Prop} (r : R prog w base os ((env, m) :: fs) σ s) (hl : σ l = some (.list xs))
    (h : ∀ it e s', σ it = none → σ e = none → it ≠ e → R prog w base os ((env, m) :: fs) ((σ.set it (liter l 0)).set e (.obj (enumObj it 0 .none))) s' → Q (.ref e) s') : wpAny (model prog w) A (call (.type "enumerate") [.ref l]) Q E s := by
  refine call_enumerate_list (r.isList hl) fun h' he hit hz hk => ?_
  have r1 := r.keeps (h' := h') (t := s.toks) hk
  have fr : ∀ a, s.heap.objs.size ≤ a → base.get? a = none ∧ σ a = none ∧ ∀ f ∈ (env, m) :: fs, f.1.locals ≠ a := fun a ha => by
    refine ⟨?_, ?_, fun f hf e => ?_⟩
    · cases hq : base.get? a with
      | none => rfl
      | some o' => exact absurd (Heap.lt_size (r.keep _ _ hq)) (Nat.not_lt.mpr ha)
    · cases hq : σ a with
      | none => rfl
      | some x => obtain ⟨o, q1, _⟩ := r.own _ _ hq; exact absurd (Heap.lt_size q1) (Nat.not_lt.mpr ha)
    · obtain ⟨⟨_, _, _, hL, _⟩, _⟩ := r.fr f hf
      rw [e] at hL
      exact absurd (Heap.lt_size hL) (Nat.not_lt.mpr ha)
  have nm : ∀ a, s.heap.objs.size ≤ a → (a == sysModules) = false := fun a ha => beq_eq_false_iff_ne.mpr (Nat.ne_of_gt (Nat.lt_of_lt_of_le r.low (Nat.le_trans (r.size_le (by simp)) ha)))
  obtain ⟨o, q1, q2, q3⟩ := hit
  obtain ⟨f1, f2, f3⟩ := fr s.heap.objs.size (Nat.le_refl _)
  obtain ⟨g1, g2, g3⟩ := fr (s.heap.objs.size + 1) (Nat.le_succ _)
  have r2 := r1.add (x := liter l 0) q1 ⟨q2, q3⟩ f1 f3 (nm _ (Nat.le_refl _))
  have r3 := r2.add (x := .obj (enumObj s.heap.objs.size 0 .none)) he rfl g1 g3 (nm _ (Nat.le_succ _))
  exact h _ _ _ f2 g2 (Nat.ne_of_lt (Nat.lt_succ_self _)) r3
theorem v_iterEnum {e it : Addr} {i : Int} {old : Value} {Q : Value → Shared → Prop} (r : R prog w base os ((env, m) :: fs) σ s) (he : σ e = some (.obj (enumObj it i old)))
    (h : Q (.ref e) s) : wpAny (model prog w) A (pyIter (.ref e)) Q E s := by
  obtain ⟨o, h1, rfl⟩ := r.get he
  exact wpAny_pyIter_enum h1 h
theorem wpAny_letGo_enum {elts : List Expr} {x1 : Nat} {pos : Pos} {e it t : Addr} {i : Int} {item : Value} {Q : Unit → Shared → Prop} (he : IsEnumOut s.heap e it i item t)
    (hQ : ∀ h', IsEnum h' e it i item → Heap.SameBut e s.heap h' → Q () { s with heap := h' }) :
    wpAny (model prog w) A (letOwnedTupleGo (.Tuple elts x1 pos) (.ref e) (.ref t)) Q E s := wpAny_letOwnedTupleGo_enum he hQ
def Src.enum (elts : List Expr) (x1 : Nat) (pos : Pos) (e it l : Addr) (xs : List Value) : Src prog w (.Tuple elts x1 pos) e xs.length where
  At := fun i σ => (∃ old, σ e = some (.obj (enumObj it i old))) ∧ σ it = some (liter l i) ∧ σ l = some (.list xs)
  Step := fun i v σ σ' => ∃ x t tk, xs[i]? = some x ∧ v = .ref t ∧ σ t = none ∧ σ' = ((σ.set e (.obj (enumObj it (i + 1 : Nat) x))).set it (liter l (i + 1))).set t (.tup [.int i tk, x])
  gone := [e, it]
  next := fun {A base os fs σ s i Q E} hne r ⟨⟨old, he⟩, hi, hl⟩ hlt h => by
    have hx : xs[i]? = some xs[i] := List.getElem?_eq_getElem hlt
    obtain ⟨o, h1, rfl⟩ := r.get he
    have hei : e ≠ it := fun q => by rw [q, hi] at he; cases he
    refine wpAny_pyNext_enum_item (i := i) h1 (r.listIter hi) (r.isList hl) (x := xs[i]) (by simp) hei fun h' q1 q2 q3 q4 q5 => ?_
    have e1 : (i : Int) + 1 = ((i + 1 : Nat) : Int) := by push_cast; rfl
    rw [e1] at q1
    refine wpAny_letGo_enum q1 fun h₂ u1 u2 => ?_
    obtain ⟨o2, q21, q22, q23⟩ := q2
    have fresh := r.fresh
    have hte : s.heap.objs.size ≠ e := fun q => by rw [q, he] at fresh; cases fresh
    have hti : s.heap.objs.size ≠ it := fun q => by rw [q, hi] at fresh; cases fresh
    obtain ⟨_, _, _, be⟩ := r.own e _ he
    obtain ⟨_, _, _, bi⟩ := r.own it _ hi
    have up : ∀ b o, b ≠ e → b ≠ it → s.heap.get? b = some o → h₂.get? b = some o := fun b o b1 b2 q => (u2.2 b b1).trans (q5 b o b1 b2 q)
    have hlow := r.size_le hne
    have r2 : R prog w base os fs (((σ.set e (.obj (enumObj it (i + 1 : Nat) xs[i]))).set it (liter l (i + 1))).set s.heap.objs.size (.tup [.int i s.toks, xs[i]])) { s with heap := h₂, toks := s.toks + 1 } := by
      refine ⟨fun b o q => up b o (fun z => by rw [z, be] at q; cases q) (fun z => by rw [z, bi] at q; cases q) (r.keep b o q), fun f hf => ?_, r.nd, fun b y q => ?_, fun b y q => ?_, r.low, r.gens, r.hos⟩
      · obtain ⟨⟨o, es, ep, k1, k2⟩, k3, k4⟩ := r.fr f hf
        have n1 : f.1.locals ≠ e := fun z => by rw [z, he] at k4; cases k4
        have n2 : f.1.locals ≠ it := fun z => by rw [z, hi] at k4; cases k4
        have n3 : f.1.locals ≠ s.heap.objs.size := fun z => by rw [z] at k1; exact absurd (Heap.lt_size k1) (Nat.lt_irrefl _)
        exact ⟨⟨o, es, ep, up _ o n1 n2 k1, k2⟩, k3, by rw [Hp.set_ne _ _ n3, Hp.set_ne _ _ n2, Hp.set_ne _ _ n1]; exact k4⟩
      · by_cases b3 : b = s.heap.objs.size
        · subst b3
          rw [Hp.set_self] at q; cases q
          exact ⟨_, (u2.2 _ hte).trans q3, ⟨rfl, 0, rfl⟩, r.base_none⟩
        · rw [Hp.set_ne _ _ b3] at q
          by_cases b2 : b = it
          · subst b2
            rw [Hp.set_self] at q; cases q
            exact ⟨o2, (u2.2 _ (Ne.symm hei)).trans q21, ⟨q22, q23⟩, bi⟩
          · rw [Hp.set_ne _ _ b2] at q
            by_cases b1 : b = e
            · subst b1
              rw [Hp.set_self] at q; cases q
              exact ⟨_, u1, rfl, be⟩
            · rw [Hp.set_ne _ _ b1] at q
              obtain ⟨o', k1, k2, k3⟩ := r.own b y q
              exact ⟨o', up b o' b1 b2 k1, k2, k3⟩
      · by_cases b3 : b = s.heap.objs.size
        · rw [b3]
          exact beq_eq_false_iff_ne.mpr (Nat.ne_of_gt (Nat.lt_of_lt_of_le r.low hlow))
        · rw [Hp.set_ne _ _ b3] at q
          by_cases b2 : b = it
          · rw [b2]; exact r.nomod _ _ hi
          · rw [Hp.set_ne _ _ b2] at q
            by_cases b1 : b = e
            · rw [b1]; exact r.nomod _ _ he
            · rw [Hp.set_ne _ _ b1] at q; exact r.nomod b y q
    exact h _ _ _ ⟨_, _, _, hx, rfl, fresh, rfl⟩ r2
  done := fun {A base os fs σ s Q E} hh r ⟨⟨old, he⟩, hi, hl⟩ h => by
    obtain ⟨o, h1, rfl⟩ := r.get he
    have hei : e ≠ it := fun q => by rw [q, hi] at he; cases he
    refine wpAny_pyNext_enum_end (i := xs.length) hh h1 (r.listIter hi) (r.isList hl) (by simp) fun h' hk => h _ (r.extBut (t := s.toks) hi (.tail _ (.head _)) hk)
  self := fun {A base os fs σ s i Q E} r ⟨⟨old, he⟩, hi, hl⟩ h => by
    obtain ⟨o, h1, rfl⟩ := r.get he
    exact wpAny_pyIter_enum h1 h
  dep := [e, it, l]
  frame := fun ⟨⟨old, h0⟩, h1, h2⟩ k => ⟨⟨old, (k e (by simp)).trans h0⟩, (k it (by simp)).trans h1, (k l (by simp)).trans h2⟩
  there := fun ⟨⟨old, h0⟩, h1, h2⟩ a ha => by
    simp only [List.mem_cons, List.not_mem_nil, or_false] at ha
    rcases ha with rfl | rfl | rfl
    · rw [h0]; simp
    · rw [h1]; simp
    · rw [h2]; simp
  goneDep := by simp
  stepAt := fun ⟨⟨old, h0⟩, h1, h2⟩ ⟨x, t, tk, hx, hv, ht, q⟩ => by
    subst q
    have n1 : e ≠ t := fun q => by rw [q, ht] at h0; cases h0
    have n2 : it ≠ t := fun q => by rw [q, ht] at h1; cases h1
    have n3 : l ≠ t := fun q => by rw [q, ht] at h2; cases h2
    have n4 : e ≠ it := fun q => by rw [q, h1] at h0; cases h0
    have n5 : l ≠ it := fun q => by rw [q, h1] at h2; cases h2
    have n6 : l ≠ e := fun q => by rw [q, h0] at h2; cases h2
    exact ⟨⟨x, by rw [Hp.set_ne _ _ n1, Hp.set_ne _ _ n4]; exact Hp.set_self _ _ _⟩, by rw [Hp.set_ne _ _ n2]; exact Hp.set_self _ _ _, by rw [Hp.set_ne _ _ n3, Hp.set_ne _ _ n5, Hp.set_ne _ _ n6]; exact h2⟩
  stepOut := fun _ ⟨x, t, tk, hx, hv, ht, q⟩ a ha hn => by
    subst q
    have n1 : a ≠ t := fun q => hn (q ▸ ht)
    simp only [List.mem_cons, List.not_mem_nil, or_false, not_or] at ha
    rw [Hp.set_ne _ _ n1, Hp.set_ne _ _ ha.2.1, Hp.set_ne _ _ ha.1]
  stay := fun ⟨_, _, h2⟩ ⟨_, _, h3⟩ a ha hg => by
    simp only [List.mem_cons, List.not_mem_nil, or_false, not_or] at ha hg
    rcases ha with rfl | rfl | rfl
    · exact absurd rfl hg.1
    · exact absurd rfl hg.2
    · rw [h2, h3]
end
end Mine
namespace Mine
section
variable {prog : Program} {w : World} {K : Frag} {H : Option Value} {n : Nat} {A : Around} {base : Heap} {env : Env} {os : OsState} {fs : List (Env × Nm)} {m : Nm} {σ : Hp} {s : Shared}
  {E : Value → Shared → Prop}

theorem comp_env {scope : Scope} {cl : List (Str × Addr)} {C : Addr} (a : Act K H n A base (env :: fs.map (·.1))) (hk : scope.kind = .function) : Blk env (compEnvC scope cl C env) :=
  ⟨by simp [compEnvC, relabel, hk], a.head.2.2.1, a.head.2.2.2⟩

abbrev compIfs (ifs : List Expr) (ce : Env) : Sem Bool := forIn ifs true fun c r => if r = true then do let ok ← isTrue c ce (eval c ce); pure (ForInStep.yield ok) else pure (ForInStep.yield r)
theorem ifs_nil {ce : Env} {Q : Bool → Shared → Prop} (h : Q true s) : wpAny (model prog w) A (compIfs [] ce) Q E s := wpAny_tests_nil h
theorem ifs_one {ce : Env} {c : Expr} {Q : Bool → Shared → Prop} (h : wpAny (model prog w) A (isTrue c ce (eval c ce)) Q E s) : wpAny (model prog w) A (compIfs [c] ce) Q E s := wpAny_tests_one h

theorem compLoop_any {elt target iter : Expr} {ifs : List Expr} {scope : Scope} {pos : Pos} {it acc : Value} {ce : Env} {R : Result → Shared → Prop} (I : Nat → Shared → Prop)
    (turn : ∀ n s, I n s → wpAny (model prog w) A (pyNext it) (fun r s₁ => match r with
      | none => R (.ok .next) s₁
      | some v => wpAny (model prog w) A (letOwnedTupleGo target it v) (fun _ s₁' => wpAny (model prog w) A (assign target ce v) (fun _ s₂ =>
          wpAny (model prog w) A (compIfs ifs ce) (fun ok s₃ =>
            if ok = true then wpAny (model prog w) A (eval elt ce) (fun x s₄ =>
              wpAny (model prog w) A (call (.builtin "list.append") [acc, x]) (fun _ s₅ => ∃ m, m < n ∧ I m s₅) (fun _ _ => False) s₄) (fun _ _ => False) s₃
            else ∃ m, m < n ∧ I m s₃) (fun _ _ => False) s₂) (fun _ _ => False) s₁') (fun _ _ => False) s₁) (fun _ _ => False) s)
    (n : Nat) (h : I n s) : codeAny (model prog w) A (.compLoop (.ListComp elt [⟨target, iter, ifs, 0⟩] scope pos) 0 it acc ce) R s := by
  refine codeAny_loop rfl I (fun n s hI => ?_) n h
  show wpAny _ A ((compTurn (.ListComp elt [⟨target, iter, ifs, 0⟩] scope pos) 0 it acc ce).onRaise (fun x => do noteFrame x ce; theTreesLotGoes x)) _ _ s
  refine wpAny_noted ?_
  rw [compTurn_list]
  refine wpAny_bind (wpAny_standAt (wpAny_bind (wpAny_mono (turn n s hI) (fun r s₁ h₁ => ?_) fun _ _ h' => h'.elim)))
  cases r with
  | none => exact wpAny_pure h₁
  | some v =>
    refine wpAny_bind (wpAny_mono h₁ (fun _ s₁' h₁' => ?_) fun _ _ h' => h'.elim)
    refine wpAny_bind (wpAny_mono h₁' (fun _ s₂ h₂ => wpAny_bind (wpAny_mono h₂ (fun ok s₃ h₃ => ?_) fun _ _ h' => h'.elim)) fun _ _ h' => h'.elim)
    cases ok with
    | false => exact wpAny_pure ⟨rfl, h₃⟩
    | true =>
      exact wpAny_bind (wpAny_bind (wpAny_mono h₃ (fun x s₄ h₄ => wpAny_bind (wpAny_mono h₄ (fun _ s₅ h₅ => wpAny_pure (wpAny_pure ⟨rfl, h₅⟩)) fun _ _ h' => h'.elim)) fun _ _ h' => h'.elim))

theorem comp_core {elt target iter : Expr} {ifs : List Expr} {scope : Scope} {cl : List (Str × Addr)} {pos : Pos} {I : Addr} {len : Nat} (S : Src prog w target I len) (J : Nat → List Value → Hp → Prop) {RR : Value → Addr → Result → Shared → Prop}
    (hh : A.handled = none) (hcell : ∀ y ∈ scope.names, y.2 ≠ .cell) (hkind : scope.kind = .function) (hlen : len ≤ 1000)
    (r : R prog w base os ((env, m) :: fs) σ s) (hA : S.At 0 σ) (hJ : ∀ σ', (∀ a x, σ a = some x → σ' a = some x) → J 0 [] σ')
    (turn : ∀ D C i ys σ₁ σ₂ v cm s, i < len → σ D = none → σ C = none → D ≠ C → J i ys σ₁ → S.At i σ₁ → S.Step i v σ₁ σ₂ → S.At (i + 1) σ₂ → σ₂ D = some (.list ys) → σ₂ C = some (.loc cm) → ys.length ≤ i → R prog w base os ((env, m) :: fs) σ₂ s →
      wpAny (model prog w) A (assign target (compEnvC scope cl C env) v) (fun _ s₂ => wpAny (model prog w) A (compIfs ifs (compEnvC scope cl C env)) (fun ok s₃ =>
        if ok = true then wpAny (model prog w) A (eval elt (compEnvC scope cl C env)) (fun y s₄ => ∃ σ' cm', R prog w base os ((env, m) :: fs) σ' s₄ ∧ σ' D = some (.list ys) ∧ σ' C = some (.loc cm') ∧ S.At (i + 1) σ' ∧ J (i + 1) (ys ++ [y]) (σ'.set D (.list (ys ++ [y])))) (fun _ _ => False) s₃
        else ∃ σ' cm', R prog w base os ((env, m) :: fs) σ' s₃ ∧ σ' D = some (.list ys) ∧ σ' C = some (.loc cm') ∧ S.At (i + 1) σ' ∧ J (i + 1) ys σ') (fun _ _ => False) s₂) (fun _ _ => False) s)
    (fin : ∀ D C ys σ₁ cm s, σ D = none → σ C = none → D ≠ C → D ∉ S.gone → J len ys σ₁ → σ₁ D = some (.list ys) → σ₁ C = some (.loc cm) → S.At len σ₁ → R prog w base os ((env, m) :: fs) (σ₁.del S.gone) s → RR (.ref D) C (.ok .next) s) :
    wpAny (model prog w) A (newList []) (fun acc s₃ => wpAny (model prog w) A (newFunctionEnv scope env.globals cl [] env.qual none .none (some env)) (fun cenv s₄ =>
      codeAny (model prog w) A (.compStart (.ListComp elt [⟨target, iter, ifs, 0⟩] scope pos) 0 (.ref I) acc { cenv with scope := relabel scope env }) (RR acc cenv.locals) s₄) E s₃) E s := by
  have hD : σ s.heap.objs.size = none := r.fresh
  have rD := r.push (o := { cls := .type "list", data := .seq ([] : List Value).toArray }) (x := .list []) (t := s.toks) (by simp) ⟨0, rfl⟩
  refine wpAny_newObj_type (wpAny_newFunctionEnv hcell (by intro y hy; simp at hy) (fun h₁ hns₁ hsb₁ => ?_) hkind)
  dsimp only at hns₁ hsb₁ ⊢
  generalize hD0 : s.heap.objs.size = D at *
  have hC0 : (s.heap.push { cls := .type "list", data := .seq ([] : List Value).toArray }).objs.size = D + 1 := by rw [Heap.size_push, hD0]
  rw [hC0] at hns₁ hsb₁ ⊢
  have frC := rD.fresh
  rw [show ({ s with heap := s.heap.push { cls := .type "list", data := .seq ([] : List Value).toArray } } : Shared).heap.objs.size = D + 1 from hC0] at frC
  have nCD : D + 1 ≠ D := Nat.succ_ne_self D
  rw [Hp.set_ne _ _ nCD] at frC
  have rC : R prog w base os ((env, m) :: fs) ((σ.set D (.list [])).set (D + 1) (.loc fun _ => none)) { s with heap := h₁, toks := s.toks + ([] : List (Str × Value)).length } := by
    have bn := rD.base_none
    rw [show ({ s with heap := s.heap.push { cls := .type "list", data := .seq ([] : List Value).toArray } } : Shared).heap.objs.size = D + 1 from hC0] at bn
    have r2 := rD.keeps (h' := h₁) (t := s.toks + ([] : List (Str × Value)).length) fun b o e => hsb₁.extBut b o (fun q => by
      rw [q] at e; exact absurd (Heap.lt_size e) (by show ¬ _ < (s.heap.push _).objs.size; rw [hC0]; omega)) (Heap.get?_push_of_some _ e)
    obtain ⟨o, es, ep, q1, q2, q3, q4⟩ := hns₁
    refine r2.add q1 ⟨es, ep, q2, q3, q4⟩ bn (fun f hf q => ?_) ?_
    · obtain ⟨⟨_, _, _, hL, _⟩, _⟩ := rD.fr f hf
      rw [q] at hL
      exact absurd (Heap.lt_size hL) (by show ¬ _ < (s.heap.push _).objs.size; rw [hC0]; omega)
    · have := rD.size_le (by simp)
      rw [show ({ s with heap := s.heap.push { cls := .type "list", data := .seq ([] : List Value).toArray } } : Shared).heap.objs.size = D + 1 from hC0] at this
      exact beq_eq_false_iff_ne.mpr (Nat.ne_of_gt (Nat.lt_of_lt_of_le r.low this))
  have hext : ∀ a x, σ a = some x → ((σ.set D (.list [])).set (D + 1) (.loc fun _ => none)) a = some x := fun a x e => by
    rw [Hp.set_ne _ _ (fun q => by rw [q, frC] at e; cases e), Hp.set_ne _ _ (fun q => by rw [q, hD] at e; cases e)]; exact e
  have hDdep : D ∉ S.dep := fun q => S.there hA D q hD
  have hCdep : D + 1 ∉ S.dep := fun q => S.there hA _ q frC
  have loop : ∀ s₃ : Shared, s₃ = { s with heap := h₁, toks := s.toks + ([] : List (Str × Value)).length } →
      codeAny (model prog w) A (.compLoop (.ListComp elt [⟨target, iter, ifs, 0⟩] scope pos) 0 (.ref I) (.ref D) (compEnvC scope cl (D + 1) env)) (RR (.ref D) (D + 1)) s₃ := by
    rintro s₃ rfl
    refine compLoop_any (fun k s' => ∃ i ys σ₁ cm, R prog w base os ((env, m) :: fs) σ₁ s' ∧ J i ys σ₁ ∧ S.At i σ₁ ∧ σ₁ D = some (.list ys) ∧ σ₁ (D + 1) = some (.loc cm) ∧ i ≤ len ∧ ys.length ≤ i ∧ k = len - i) ?_ (len - 0)
      ⟨0, [], _, _, rC, hJ _ hext, S.ext hA hext, by rw [Hp.set_ne _ _ nCD.symm]; exact Hp.set_self _ _ _, Hp.set_self _ _ _, Nat.zero_le _, Nat.le_refl _, rfl⟩
    rintro k s' ⟨i, ys, σ₁, cm, r₁, hJ₁, hA₁, hD₁, hC₁, hi, hys, rfl⟩
    rcases Nat.lt_or_ge i len with hlt | hge
    · refine wpAny_mono (S.next (A := A) (Q := fun v s₂ => wpAny (model prog w) A (assign target (compEnvC scope cl (D + 1) env) v) (fun _ s₂ => wpAny (model prog w) A (compIfs ifs (compEnvC scope cl (D + 1) env)) (fun ok s₃ =>
            if ok = true then wpAny (model prog w) A (eval elt (compEnvC scope cl (D + 1) env)) (fun x s₄ =>
              wpAny (model prog w) A (call (.builtin "list.append") [.ref D, x]) (fun _ s₅ => ∃ k, k < len - i ∧ ∃ i ys σ₁ cm, R prog w base os ((env, m) :: fs) σ₁ s₅ ∧ J i ys σ₁ ∧ S.At i σ₁ ∧ σ₁ D = some (.list ys) ∧ σ₁ (D + 1) = some (.loc cm) ∧ i ≤ len ∧ ys.length ≤ i ∧ k = len - i) (fun _ _ => False) s₄) (fun _ _ => False) s₃
            else ∃ k, k < len - i ∧ ∃ i ys σ₁ cm, R prog w base os ((env, m) :: fs) σ₁ s₃ ∧ J i ys σ₁ ∧ S.At i σ₁ ∧ σ₁ D = some (.list ys) ∧ σ₁ (D + 1) = some (.loc cm) ∧ i ≤ len ∧ ys.length ≤ i ∧ k = len - i) (fun _ _ => False) s₂) (fun _ _ => False) s₂)
          (by simp) r₁ hA₁ hlt fun v σ₂ s₂ hst r₂ => ?_) (fun rr s₁ h₁ => ?_) fun _ _ x => x
      · have out := S.stepOut hA₁ hst
        have hD₂ : σ₂ D = some (.list ys) := (out D hDdep (by rw [hD₁]; simp)).trans hD₁
        have hC₂ : σ₂ (D + 1) = some (.loc cm) := (out _ hCdep (by rw [hC₁]; simp)).trans hC₁
        refine wpAny_mono (turn D (D + 1) i ys σ₁ σ₂ v cm s₂ hlt hD frC nCD.symm hJ₁ hA₁ hst (S.stepAt hA₁ hst) hD₂ hC₂ hys r₂) (fun _ s₃ h₃ => wpAny_mono h₃ (fun ok s₄ h₄ => ?_) fun _ _ x => x) fun _ _ x => x
        cases ok with
        | false =>
          obtain ⟨σ', cm', k1, k2, k3, k4, k5⟩ := h₄
          exact ⟨len - (i + 1), by omega, i + 1, ys, σ', cm', k1, k5, k4, k2, k3, hlt, by omega, rfl⟩
        | true =>
          refine wpAny_mono h₄ (fun y s₅ ⟨σ', cm', k1, k2, k3, k4, k5⟩ => ?_) fun _ _ x => x
          refine v_lappend k1 k2 (by omega) fun s₆ r₆ => ?_
          exact ⟨len - (i + 1), by omega, i + 1, ys ++ [y], _, cm', r₆, k5, S.frame k4 fun a ha => Hp.set_ne _ _ fun q => hDdep (q ▸ ha), Hp.set_self _ _ _, by rw [Hp.set_ne _ _ nCD]; exact k3, hlt, by rw [List.length_append]; simp; omega, rfl⟩
      · cases rr with
        | none => exact h₁.elim
        | some v => exact h₁
    · have hi' : i = len := Nat.le_antisymm hi hge
      subst hi'
      exact S.done hh r₁ hA₁ fun s₂ r₂ => fin D (D + 1) ys σ₁ cm s₂ hD frC nCD.symm (fun q => hDdep (S.goneDep _ q)) hJ₁ hD₁ hC₁ hA₁ r₂
  refine codeAny_compStart_list (loop _ rfl) (S.self rC (S.ext hA hext) (loop _ rfl))

def closOf : List (Str × NameKind) → List (Str × Addr) → List (Str × Addr) → Option (List (Str × Addr))
  | [], _, acc => some acc
  | (x, k) :: r, cells, acc => if k == .free then (cells.lookup x).bind fun c => closOf r cells ((x, c) :: acc) else closOf r cells acc
theorem closureFor_of {scope : Scope} {cl : List (Str × Addr)} (h : closOf scope.names env.cells [] = some cl) : closureFor scope env = pure cl := by
  have key : ∀ (l : List (Str × NameKind)) (acc cl : List (Str × Addr)), closOf l env.cells acc = some cl →
      (forIn l acc fun x cs => (match x with | (name, kind) => if (kind == NameKind.free) = true then do let c ← cellOf env name; pure (ForInStep.yield ((name, c) :: cs)) else pure (ForInStep.yield cs) : Sem (ForInStep (List (Str × Addr))))) = pure cl := by
    intro l
    induction l with
    | nil => intro acc cl h; cases h; rfl
    | cons x r ih =>
      intro acc cl h
      obtain ⟨x, k⟩ := x
      unfold closOf at h
      rw [List.forIn_cons]
      split at h
      · next hk =>
        obtain ⟨c, hc, h⟩ := Option.bind_eq_some_iff.mp h
        simp only [hk, if_true]
        have e : cellOf env x = pure c := by unfold cellOf; rw [hc]
        rw [e]
        exact ih _ _ h
      · next hk =>
        simp only [hk]
        exact ih _ _ h
  have := key scope.names [] cl h
  unfold closureFor
  exact (congrArg (fun t : Sem (List (Str × Addr)) => t >>= fun cs => pure cs) this).trans rfl

structure CompGoal (prog : Program) (w : World) (A : Around) (base : Heap) (os : OsState) (env : Env) (fs : List (Env × Nm)) (elt target : Expr) (ifs : List Expr) (scope : Scope) (cl : List (Str × Addr))
    (it : Value) (s : Shared) (m : Nm) (σ : Hp) (I : Addr) (len : Nat) (S : Src prog w target I len) (J : Nat → List Value → Hp → Prop) : Prop where
  isIt : it = .ref I
  short : len ≤ 1000
  r : R prog w base os ((env, m) :: fs) σ s
  at0 : S.At 0 σ
  j0 : ∀ σ', (∀ a x, σ a = some x → σ' a = some x) → J 0 [] σ'
  turn : ∀ D C i ys σ₁ σ₂ v cm s, i < len → σ D = none → σ C = none → D ≠ C → J i ys σ₁ → S.At i σ₁ → S.Step i v σ₁ σ₂ → S.At (i + 1) σ₂ → σ₂ D = some (.list ys) → σ₂ C = some (.loc cm) → ys.length ≤ i → R prog w base os ((env, m) :: fs) σ₂ s →
      wpAny (model prog w) A (assign target (compEnvC scope cl C env) v) (fun _ s₂ => wpAny (model prog w) A (compIfs ifs (compEnvC scope cl C env)) (fun ok s₃ =>
        if ok = true then wpAny (model prog w) A (eval elt (compEnvC scope cl C env)) (fun y s₄ => ∃ σ' cm', R prog w base os ((env, m) :: fs) σ' s₄ ∧ σ' D = some (.list ys) ∧ σ' C = some (.loc cm') ∧ S.At (i + 1) σ' ∧ J (i + 1) (ys ++ [y]) (σ'.set D (.list (ys ++ [y])))) (fun _ _ => False) s₃
        else ∃ σ' cm', R prog w base os ((env, m) :: fs) σ' s₃ ∧ σ' D = some (.list ys) ∧ σ' C = some (.loc cm') ∧ S.At (i + 1) σ' ∧ J (i + 1) ys σ') (fun _ _ => False) s₂) (fun _ _ => False) s

theorem v_comp {elt target iter : Expr} {ifs : List Expr} {scope : Scope} {cl : List (Str × Addr)} {pos : Pos} {Q : Value → Shared → Prop}
    (hh : A.handled = none) (hclos : closureFor scope env = pure cl) (hsc : (scope.names.all fun y => y.2 != .cell) = true) (hkind : scope.kind = .function) (hnames : (scope.names.all fun y => y.2 != .local || scope.names.lookup y.1 == some .local) = true)
    (hs : ∀ x, foldedSetIterable iter env x = pure x)
    (h : wpAny (model prog w) A (eval iter env) (fun x s₁ => wpAny (model prog w) A (pyIter x) (fun it s₂ => ∃ m σ I len S J, CompGoal prog w A base os env fs elt target ifs scope cl it s₂ m σ I len S J ∧
      ∀ D C ys σ₁ s, σ D = none → σ C = none → D ∉ C :: S.gone → J len ys σ₁ → S.At len σ₁ → σ₁ D = some (.list ys) → R prog w base os ((env, m) :: fs) (σ₁.del (C :: S.gone)) s → Q (.ref D) s) E s₁) E s) :
    wpAny (model prog w) A (eval (.ListComp elt [⟨target, iter, ifs, 0⟩] scope pos) env) Q E s := by
  have hcell : ∀ y ∈ scope.names, y.2 ≠ .cell := fun y hy => by simpa using List.all_eq_true.mp hsc y hy
  have hn : ∀ y ∈ scope.names, y.2 = .local → scope.names.lookup y.1 = some .local := fun y hy e => by
    have := List.all_eq_true.mp hnames y hy
    rw [e] at this
    simpa using this
  rw [eval_ListComp]
  refine wpAny_comprehension_free (use := none) rfl hs hclos hkind hn (wpAny_mono h (fun x s₁ h₁ => wpAny_mono h₁ (fun it s₂ h₂ => ?_) fun _ _ e => e) fun _ _ e => e)
  obtain ⟨m, σ, I, len, S, J, ⟨rfl, hl, r, h0, hj, turn⟩, fin⟩ := h₂
  refine comp_core (RR := fun acc C => compPost (model prog w) A E none Q acc C) S J hh hcell hkind hl r h0 hj turn ?_
  intro D C ys σ₁ cm s₃ hD hC hDC hDg hJ hD₁ hC₁ hA₁ r₁
  have hCg : C ∉ S.gone := fun q => S.there hA₁ C (S.goneDep C q) (absurd hC (S.there h0 C (S.goneDep C q)))
  have hC₂ : (σ₁.del S.gone) C = some (.loc cm) := by rw [Hp.del_ne _ hCg]; exact hC₁
  obtain ⟨o, h1, es, ep, h2, h3, h4⟩ := r₁.get hC₂
  refine ⟨cm, ⟨o, es, ep, h1, h2, h3, h4⟩, fun h' hs' => fin D C ys σ₁ _ hD hC (by simpa using ⟨hDC, hDg⟩) hJ hA₁ hD₁ ?_⟩
  refine (r₁.extButSame (t := s₃.toks) hC₂ hs').forget fun a x e => ?_
  obtain ⟨e1, e2⟩ := Hp.del_le e
  simp only [List.mem_cons, not_or] at e2
  rw [Hp.del_ne _ (by simpa using e2.1), Hp.del_ne _ e2.2]; exact e1

theorem v_compTo {elt target iter : Expr} {ifs : List Expr} {scope : Scope} {cl : List (Str × Addr)} {pos spos py : Pos} {y : Str} {Q : Flow → Shared → Prop}
    (hsw : swapsWith (.ListComp elt [⟨target, iter, ifs, 0⟩] scope pos) (some (.Name y py)) spos.line env = pure true)
    (hh : A.handled = none) (hclos : closureFor scope env = pure cl) (hsc : (scope.names.all fun y => y.2 != .cell) = true) (hkind : scope.kind = .function) (hnames : (scope.names.all fun y => y.2 != .local || scope.names.lookup y.1 == some .local) = true)
    (hs : ∀ x, foldedSetIterable iter env x = pure x)
    (h : wpAny (model prog w) A (eval iter env) (fun x s₁ => wpAny (model prog w) A (pyIter x) (fun it s₂ => ∃ m σ I len S J, CompGoal prog w A base os env fs elt target ifs scope cl it s₂ m σ I len S J ∧
      ∀ D C ys σ₁ s, σ D = none → σ C = none → D ∉ C :: S.gone → J len ys σ₁ → S.At len σ₁ → σ₁ D = some (.list ys) → ∀ cm, (σ₁.del S.gone) C = some (.loc cm) → R prog w base os ((env, m) :: fs) (σ₁.del S.gone) s →
        wpAny (model prog w) A (storeName env y (.ref D)) (fun _ s' => ∃ m' σ', σ' C = some (.loc cm) ∧ R prog w base os ((env, m') :: fs) σ' s' ∧ ∀ s'', R prog w base os ((env, m') :: fs) (σ'.del [C]) s'' → Q .next s'') E s) E s₁) E s) :
    wpAny (model prog w) A (exec (.Assign [.Name y py] (.ListComp elt [⟨target, iter, ifs, 0⟩] scope pos) spos) env) Q E s := by
  have hcell : ∀ y ∈ scope.names, y.2 ≠ .cell := fun y hy => by simpa using List.all_eq_true.mp hsc y hy
  have hn : ∀ y ∈ scope.names, y.2 = .local → scope.names.lookup y.1 = some .local := fun y hy e => by
    have := List.all_eq_true.mp hnames y hy
    rw [e] at this
    simpa using this
  rw [exec_Assign_Name_used _ _ _ _ hsw]
  refine wpAny_bind (wpAny_standAt (wpAny_bind ?_))
  show wpAny _ A (do let _ ← comprehension (.ListComp elt [⟨target, iter, ifs, 0⟩] scope pos) scope env _ (newList []) false (eval iter env) (some (assign (.Name y py) env))) _ _ s
  refine wpAny_bind (wpAny_mono (wpAny_comprehension_free (use := some (assign (.Name y py) env)) (Q := fun _ s' => Q .next s') rfl hs hclos hkind hn
    (wpAny_mono h (fun x s₁ h₁ => wpAny_mono h₁ (fun it s₂ h₂ => ?_) fun _ _ e => e) fun _ _ e => e)) (fun _ s' hq => wpAny_pure (wpAny_pure hq)) fun _ _ e => e)
  obtain ⟨m, σ, I, len, S, J, ⟨rfl, hl, r, h0, hj, turn⟩, fin⟩ := h₂
  refine comp_core (RR := fun acc C => compPost (model prog w) A E (some (assign (.Name y py) env)) (fun _ s' => Q .next s') acc C) S J hh hcell hkind hl r h0 hj turn ?_
  intro D C ys σ₁ cm s₃ hD hC hDC hDg hJ hD₁ hC₁ hA₁ r₁
  have hCg : C ∉ S.gone := fun q => S.there hA₁ C (S.goneDep C q) (absurd hC (S.there h0 C (S.goneDep C q)))
  refine wpAny_assign_Name (wpAny_mono (fin D C ys σ₁ s₃ hD hC (by simpa using ⟨hDC, hDg⟩) hJ hA₁ hD₁ cm (by rw [Hp.del_ne _ hCg]; exact hC₁) r₁) (fun _ s' ⟨m', σ', q1, q2, q3⟩ => ?_) fun _ _ e => e)
  obtain ⟨o, h1, es, ep, h2, h3, h4⟩ := q2.get q1
  exact ⟨cm, ⟨o, es, ep, h1, h2, h3, h4⟩, fun h' hs' => q3 _ (q2.extButSame (t := s'.toks) q1 hs')⟩

theorem v_compLoc {elt target iter : Expr} {ifs : List Expr} {scope : Scope} {cl : List (Str × Addr)} {pos spos py : Pos} {y : Str} {Q : Flow → Shared → Prop} (a : Act K none n A base (env :: fs.map (·.1))) (hy : env.kindOf y = some .local)
    (hsw : swapsWith (.ListComp elt [⟨target, iter, ifs, 0⟩] scope pos) (some (.Name y py)) spos.line env = pure true)
    (hclos : closureFor scope env = pure cl) (hsc : (scope.names.all fun y => y.2 != .cell) = true) (hkind : scope.kind = .function) (hnames : (scope.names.all fun y => y.2 != .local || scope.names.lookup y.1 == some .local) = true)
    (hs : ∀ x, foldedSetIterable iter env x = pure x)
    (h : wpAny (model prog w) A (eval iter env) (fun x s₁ => wpAny (model prog w) A (pyIter x) (fun it s₂ => ∃ m σ I len S J, CompGoal prog w A base os env fs elt target ifs scope cl it s₂ m σ I len S J ∧
      ∀ D C ys σ₁ s, σ D = none → σ C = none → D ∉ C :: S.gone → J len ys σ₁ → S.At len σ₁ → σ₁ D = some (.list ys) → R prog w base os ((env, mset m y (.ref D)) :: fs) (σ₁.del (C :: S.gone)) s → Q .next s) E s₁) E s) :
    wpAny (model prog w) A (exec (.Assign [.Name y py] (.ListComp elt [⟨target, iter, ifs, 0⟩] scope pos) spos) env) Q E s := by
  refine v_compTo (base := base) (os := os) (fs := fs) hsw a.hand hclos hsc hkind hnames hs (wpAny_mono h (fun x s₁ h₁ => wpAny_mono h₁ (fun it s₂ h₂ => ?_) fun _ _ e => e) fun _ _ e => e)
  obtain ⟨m, σ, I, len, S, J, G, fin⟩ := h₂
  refine ⟨m, σ, I, len, S, J, G, fun D C ys σ₁ s hD hC hDg hJ hA₁ hD₁ cm hC₁ r₁ => ?_⟩
  refine v_store a r₁ hy fun s' r' => ⟨_, _, hC₁, r', fun s'' r'' => fin D C ys σ₁ s'' hD hC hDg hJ hA₁ hD₁ (r''.forget fun a x e => ?_)⟩
  obtain ⟨e1, e2⟩ := Hp.del_le e
  simp only [List.mem_cons, not_or] at e2
  rw [Hp.del_ne _ (by simpa using e2.1), Hp.del_ne _ e2.2]; exact e1
theorem v_compCell {elt target iter : Expr} {ifs : List Expr} {scope : Scope} {cl : List (Str × Addr)} {pos spos py : Pos} {y : Str} {c : Addr} {Q : Flow → Shared → Prop} (a : Act K none n A base (env :: fs.map (·.1))) (hy : env.kindOf y = some .cell) (hyc : env.cells.lookup y = some c)
    (hsw : swapsWith (.ListComp elt [⟨target, iter, ifs, 0⟩] scope pos) (some (.Name y py)) spos.line env = pure true)
    (hclos : closureFor scope env = pure cl) (hsc : (scope.names.all fun y => y.2 != .cell) = true) (hkind : scope.kind = .function) (hnames : (scope.names.all fun y => y.2 != .local || scope.names.lookup y.1 == some .local) = true)
    (hs : ∀ x, foldedSetIterable iter env x = pure x)
    (h : wpAny (model prog w) A (eval iter env) (fun x s₁ => wpAny (model prog w) A (pyIter x) (fun it s₂ => ∃ m σ I len S J, CompGoal prog w A base os env fs elt target ifs scope cl it s₂ m σ I len S J ∧
      ∀ D C ys σ₁ s, σ D = none → σ C = none → D ∉ C :: S.gone → J len ys σ₁ → S.At len σ₁ → σ₁ D = some (.list ys) → (∃ v₀, (σ₁.del (C :: S.gone)) c = some (.cell v₀)) ∧ (R prog w base os ((env, m) :: fs) ((σ₁.del (C :: S.gone)).set c (.cell (some (.ref D)))) s → Q .next s)) E s₁) E s) :
    wpAny (model prog w) A (exec (.Assign [.Name y py] (.ListComp elt [⟨target, iter, ifs, 0⟩] scope pos) spos) env) Q E s := by
  refine v_compTo (base := base) (os := os) (fs := fs) hsw a.hand hclos hsc hkind hnames hs (wpAny_mono h (fun x s₁ h₁ => wpAny_mono h₁ (fun it s₂ h₂ => ?_) fun _ _ e => e) fun _ _ e => e)
  obtain ⟨m, σ, I, len, S, J, G, fin⟩ := h₂
  refine ⟨m, σ, I, len, S, J, G, fun D C ys σ₁ s hD hC hDg hJ hA₁ hD₁ cm hC₁ r₁ => ?_⟩
  obtain ⟨v₀, hc⟩ := (fin D C ys σ₁ s hD hC hDg hJ hA₁ hD₁).1
  obtain ⟨hc1, hc2⟩ := Hp.del_le hc
  have hcC : c ≠ C := fun e => hc2 (by rw [e]; exact .head _)
  refine v_storecell a.head.2.1 r₁ hy hyc (by rw [Hp.del_ne _ (fun q => hc2 (.tail _ q))]; exact hc1) fun s' r' => ⟨m, _, by rw [Hp.set_ne _ _ hcC.symm]; exact hC₁, r', fun s'' r'' => (fin D C ys σ₁ s'' hD hC hDg hJ hA₁ hD₁).2 (r''.forget fun a x e => ?_)⟩
  by_cases hac : a = c
  · subst hac
    rw [Hp.set_self] at e
    rw [Hp.del_ne _ (by simpa using hcC), Hp.set_self]; exact e
  · rw [Hp.set_ne _ _ hac] at e
    obtain ⟨e1, e2⟩ := Hp.del_le e
    simp only [List.mem_cons, not_or] at e2
    rw [Hp.del_ne _ (by simpa using e2.1), Hp.set_ne _ _ hac, Hp.del_ne _ e2.2]; exact e1
end
end Mine
namespace Mine
section
variable {prog : Program} {w : World} {K : Frag} {H : Option Value} {n : Nat} {A : Around} {base : Heap} {env : Env} {os : OsState} {fs : List (Env × Nm)} {m : Nm} {σ : Hp} {s : Shared}
  {E : Value → Shared → Prop}

def BodyE (prog : Program) (w : World) (K : Frag) (H : Option Value) (n : Nat) (P : Env → Prop) (body : List Stmt) (m : Nm) (σ : Hp) (Q : Value → Hp → Prop) (X : String → Hp → Prop) : Prop :=
  ∀ (A : Around) (base : Heap) (os : OsState) (env : Env) (fs : List (Env × Nm)) (s : Shared), P env → Act K H n A base (env :: fs.map (·.1)) → R prog w base os ((env, m) :: fs) σ s →
    wpAny (model prog w) A (execs body env) (fun fl s' => ∃ m' σ', R prog w base os ((env, m') :: fs) σ' s' ∧ Q (match fl with | .ret v => v | _ => .none) σ') (Lv prog w A base os env fs X) s

def cellHp (cm : Nm) : List (Str × Addr) → Hp → Hp
  | [], σ => σ
  | (x, c) :: r, σ => (cellHp cm r σ).set c (.cell (cm x))

theorem R.fresh_ge {fs : List (Env × Nm)} (r : R prog w base os fs σ s) {a : Addr} (ha : s.heap.objs.size ≤ a) : base.get? a = none ∧ σ a = none ∧ ∀ f ∈ fs, f.1.locals ≠ a := by
  refine ⟨?_, ?_, fun f hf e => ?_⟩
  · cases hq : base.get? a with
    | none => rfl
    | some o' => exact absurd (Heap.lt_size (r.keep _ _ hq)) (Nat.not_lt.mpr ha)
  · cases hq : σ a with
    | none => rfl
    | some x => obtain ⟨o, q1, _⟩ := r.own _ _ hq; exact absurd (Heap.lt_size q1) (Nat.not_lt.mpr ha)
  · obtain ⟨⟨_, _, _, hL, _⟩, _⟩ := r.fr f hf
    rw [e] at hL
    exact absurd (Heap.lt_size hL) (Nat.not_lt.mpr ha)

theorem R.cells {fs : List (Env × Nm)} {cm : Nm} : ∀ {cs : List (Str × Addr)}, R prog w base os fs σ s → (∀ x ∈ cs, ∃ o, s.heap.get? x.2 = some o ∧ o.data = .cell (cm x.1)) → (∀ x ∈ cs, base.get? x.2 = none ∧ (∀ f ∈ fs, f.1.locals ≠ x.2) ∧ (x.2 == sysModules) = false) →
    R prog w base os fs (cellHp cm cs σ) s
  | [], r, _, _ => r
  | (x, c) :: cs, r, h1, h2 => by
    have ih := R.cells (cs := cs) r (fun y hy => h1 y (.tail _ hy)) fun y hy => h2 y (.tail _ hy)
    obtain ⟨o, q1, q2⟩ := h1 _ (.head _)
    obtain ⟨k1, k2, k3⟩ := h2 _ (.head _)
    exact ih.add q1 q2 k1 k2 k3

theorem CallT.defC {f : Addr} {name qual : Str} {params : Arguments} {body : List Stmt} {scope : Scope} {dV kV doc pm cdv ct oc : Value} {an od : Option Addr} {osl : Array (Option Value)} {args : Args} {binds : List (Str × Value)} {Q : Value → Hp → Prop} {X : String → Hp → Prop}
    (ho : K.lookup f = some ⟨oc, od, .func (fnOf name qual params body scope dV kV doc pm an cdv ct), osl⟩) (hcd : codeIn K cdv qual = true)
    (hbind : ∀ s : Shared, K.In s.heap → BindsTo s (fnOf name qual params body scope dV kV doc pm an cdv ct) args binds)
    (hkind : ∀ x ∈ binds, scope.names.lookup x.1 = some .local ∨ (scope.names.lookup x.1 = some .cell ∧ ∀ n, ((cellsFrom n scope.names []).lookup x.1).isSome = true))
    (hnd : ((cellsFrom 0 scope.names []).map (·.1)).Nodup) (hco : scope.isCoroutine = false) (hgen : scope.isGenerator = false) (hk : scope.kind = .function)
    (h : ∀ L, (∀ a, L ≤ a → σ a = none) → BodyE prog w K H n (fun env => env = envOfC qual scope L f cdv) body (bindL (fun x => scope.names.lookup x) binds fun _ => none)
      (cellHp (bindC (fun x => scope.names.lookup x) binds fun _ => none) (cellsFrom (L + 1) scope.names []) σ) Q X) : CallT prog w K H (n + 1) (.ref f) args σ Q X := by
  intro A base os fs s a hne r Q' E' k1 k2
  have X₀ := r.kin a
  have lim : base.NoLimit := by obtain ⟨_, _, _, _, T⟩ := a.top; exact T.nolimit
  refine codeAny_call_function (fd := fnOf name qual params body scope dV kV doc pm an cdv ct) (by have := a.room; omega) (X₀ _ _ ho) rfl hco hgen rfl (codeRec_of X₀ hcd) ?_
  have hb := hbind s X₀
  unfold BindsTo at hb
  refine hb _ _ _ _ ?_
  refine wpAny_newFunctionEnv_cells hk (fun x hx => (hkind x hx).imp id fun y => ⟨y.1, y.2 _⟩) fun env' he s' x => ?_
  subst he
  refine ⟨(lim.keeps r.keep).keeps x.toInCall.keep, codeAny_func ?_⟩
  obtain ⟨h₁, tk, rfl, _⟩ := x.done
  have hk₁ := x.toInCall.keep
  have r1 := r.enter (env' := envOfC qual scope s.heap.objs.size f cdv) (t := tk) hne rfl x.toInCall.ns hk₁
  have hsz := r.size_le hne
  have r2 := R.cells (cm := bindC (fun x => scope.names.lookup x) binds fun _ => none) (cs := cellsFrom (s.heap.objs.size + 1) scope.names []) r1 (fun y hy => ?_) fun y hy => ?_
  · have a1 := a.deeper (env' := envOfC qual scope s.heap.objs.size f cdv) ⟨rfl, hk, rfl, rfl⟩
    refine wpAny_mono (h s.heap.objs.size (fun b hb => (r.fresh_ge hb).2.1) _ base os (envOfC qual scope s.heap.objs.size f cdv) fs _ rfl a1 r2) ?_ ?_
    · rintro fl s' ⟨m', σ', r', q⟩
      exact k1 _ _ _ q r'.pop
    · intro e s' u
      exact wpAny_mono u (fun _ s'' ⟨σ', cls, x, r'', hf⟩ => k2 _ _ _ _ x r'' hf) fun _ _ z => z.elim
  · exact x.cell y.1 y.2 (lookup_of_mem_nodup (cellsFrom_names scope.names 0 (s.heap.objs.size + 1) [] [] rfl ▸ hnd) hy)
  · have hlt : s.heap.objs.size < y.2 := x.above y.1 y.2 hy
    obtain ⟨q1, q2, q3⟩ := r.fresh_ge (Nat.le_of_lt hlt)
    refine ⟨q1, fun g hg => ?_, beq_eq_false_iff_ne.mpr (Nat.ne_of_gt (Nat.lt_of_lt_of_le r.low (Nat.le_trans hsz (Nat.le_of_lt hlt))))⟩
    rcases List.mem_cons.mp hg with rfl | hg
    · exact Nat.ne_of_lt hlt
    · exact q3 g hg

theorem newFnEnv {M : Model} {scope : Scope} {globals : Addr} {closure : List (Str × Addr)} {binds : List (Str × Value)} {qual : Str} {func : Option Addr} {code : Value} {builtins : Addr} {Q : Env → Shared → Prop}
    (hk : scope.kind = .function) (hl : ∀ x ∈ binds, scope.names.lookup x.1 = some .local)
    (hQ : ∀ h', h'.Ns s.heap.objs.size (fun x => binds.reverse.lookup x) → (∀ b o, s.heap.get? b = some o → h'.get? b = some o) → (∀ n c, (n, c) ∈ cellsFrom (s.heap.objs.size + 1) scope.names [] → h'.IsCell c none ∧ s.heap.objs.size < c) →
      Q (newEnv scope s.heap.objs.size globals (cellsFrom (s.heap.objs.size + 1) scope.names closure) qual func code none builtins) { s with heap := h', toks := s.toks + binds.length }) :
    wpAny M A (newFunctionEnv scope globals closure binds qual func code none builtins) Q E s := by
  simp only [newFunctionEnv, Option.isSome_none, Bool.false_eq_true, if_false]
  simp only [newEnv] at hQ
  refine wpAny_bind (wpAny_alloc ?_)
  refine wpAny_bind (wpAny_layCells _ (fun name kind cells => by cases hkc : kind == NameKind.cell <;> simp [hkc]) _ _ _ _ ?_)
  have ok := cellsFrom_ok scope.names (s.heap.push { cls := .type "frame", data := .dict #[] }) (s.heap.objs.size + 1) [] ⟨fun _ _ hm => (nomatch hm), List.Pairwise.nil⟩ (by rw [Heap.size_push]; exact Nat.le_refl _)
  rw [Heap.size_push] at ok
  rw [show ({ s with heap := s.heap.push { cls := .type "frame", data := .dict #[] } } : Shared).heap.objs.size = s.heap.objs.size + 1 from Heap.size_push ..]
  refine wpAny_bind ?_
  refine wpAny_forIn_list _
    (fun rest _ s' => ∃ done h', binds = done ++ rest ∧ s' = { s with heap := h', toks := s.toks + done.length } ∧
      h'.Ns s.heap.objs.size (fun x => done.reverse.lookup x) ∧
      Heap.SameBut s.heap.objs.size (pushCells (s.heap.push { cls := .type "frame", data := .dict #[] }) scope.names) h') _ ?_ ?_ binds _
    ⟨[], _, rfl, rfl, (Heap.Ns.new s.heap (.type "frame")).keeps (pushCells_keeps _ _), Heap.SameBut.refl ..⟩
  · rintro ⟨name, v⟩ rest _ s' ⟨done, h', hb, rfl, hns, hsb⟩
    have hk' : Env.kindOf { scope, locals := s.heap.objs.size, globals, cells := cellsFrom (s.heap.objs.size + 1) scope.names closure, qual, func, code, frame := some s.heap.objs.size, builtins } name = some .local :=
      hl (name, v) (by rw [hb]; simp)
    refine wpAny_bind (wpAny_storeName_local hk' hns (fun h'' hns' hsb' => wpAny_pure ⟨done ++ [(name, v)], h'', by simp [hb], ?_, ?_, hsb.trans hsb'⟩) (by
      show (scope.kind == .class || (scope.kind == .module && _)) = false
      rw [hk]; rfl))
    · simp [Nat.add_assoc]
    · rw [lookup_reverse_snoc]; exact hns'
  · rintro _ s' ⟨done, h', hb, rfl, hns, hsb⟩
    rw [List.append_nil] at hb; subst hb
    refine wpAny_pure (hQ h' hns (fun b o e => ?_) fun n c hm => ?_)
    · exact hsb.extBut b o (Nat.ne_of_lt (Heap.lt_size e)) (pushCells_keeps _ _ b o (Heap.get?_push_of_some _ e))
    · obtain ⟨⟨o, q1, q2⟩, q3⟩ := ok.empty n c hm
      exact ⟨⟨o, hsb.extBut c o (Nat.ne_of_gt q3) q1, q2⟩, q3⟩

def CodeObj (qual : Str) (o : Obj) : Prop := ∃ vs t, o.data = .fields vs ∧ vs[1]? = some (.str qual t)
def FnObj (name qual : Str) (params : Arguments) (body : List Stmt) (scope : Scope) (clos : List (Str × Addr)) (c' : Addr) (o : Obj) : Prop := ∃ doc pm ctv, o = fnMade name qual params body scope clos doc pm c' ctv

theorem CallT.closure {f c' : Addr} {name qual : Str} {params : Arguments} {body : List Stmt} {scope : Scope} {clos : List (Str × Addr)} {args : Args} {binds : List (Str × Value)} {Q : Value → Hp → Prop} {X : String → Hp → Prop}
    (hf : σ f = some (.pred (FnObj name qual params body scope clos c'))) (hc : σ c' = some (.pred (CodeObj qual)))
    (hbind : ∀ (s : Shared) doc pm ctv, BindsTo s (fnX name qual params body scope clos .none .none doc pm none (.ref c') ctv) args binds)
    (hl : ∀ x ∈ binds, scope.names.lookup x.1 = some .local) (hco : scope.isCoroutine = false) (hgen : scope.isGenerator = false) (hk : scope.kind = .function)
    (hnd : ((cellsFrom 0 scope.names []).map (·.1)).Nodup)
    (h : ∀ L, (∀ a, L ≤ a → σ a = none) → BodyE prog w K H n (fun env => env = envX qual scope L f (.ref c') (cellsFrom (L + 1) scope.names clos)) body (fun y => binds.reverse.lookup y)
      (cellHp (fun _ => none) (cellsFrom (L + 1) scope.names []) σ) Q X) : CallT prog w K H (n + 1) (.ref f) args σ Q X := by
  intro A base os fs s a hne r Q' E' k1 k2
  have lim : base.NoLimit := by obtain ⟨_, _, _, _, T⟩ := a.top; exact T.nolimit
  obtain ⟨of, h1, doc, pm, ctv, rfl⟩ := r.get hf
  obtain ⟨oc, h2, vs, t, h3, h4⟩ := r.get hc
  refine codeAny_call_function (fd := fnX name qual params body scope clos .none .none doc pm none (.ref c') ctv) (by have := a.room; omega) h1 rfl hco hgen rfl ⟨c', oc, vs, t, rfl, h2, h3, h4⟩ ?_
  have hb := hbind s doc pm ctv
  unfold BindsTo at hb
  refine hb _ _ _ _ ?_
  refine newFnEnv hk hl fun h' hns hkp hcell => ?_
  refine ⟨(lim.keeps r.keep).keeps hkp, codeAny_func ?_⟩
  have r1 := r.enter (env' := envX qual scope s.heap.objs.size f (.ref c') (cellsFrom (s.heap.objs.size + 1) scope.names clos)) (t := s.toks + binds.length) hne rfl hns hkp
  have hsz := r.size_le hne
  have r2 := R.cells (cm := fun _ => none) (cs := cellsFrom (s.heap.objs.size + 1) scope.names []) r1 (fun y hy => (hcell y.1 y.2 hy).1) fun y hy => ?_
  · have a1 := a.deeper (env' := envX qual scope s.heap.objs.size f (.ref c') (cellsFrom (s.heap.objs.size + 1) scope.names clos)) ⟨rfl, hk, rfl, rfl⟩
    refine wpAny_mono (h s.heap.objs.size (fun b hb => (r.fresh_ge hb).2.1) _ base os (envX qual scope s.heap.objs.size f (.ref c') (cellsFrom (s.heap.objs.size + 1) scope.names clos)) fs _ rfl a1 r2) ?_ ?_
    · rintro fl s' ⟨m', σ', r', q⟩
      exact k1 _ _ _ q r'.pop
    · intro e s' u
      exact wpAny_mono u (fun _ s'' ⟨σ', cls, x, r'', hf⟩ => k2 _ _ _ _ x r'' hf) fun _ _ z => z.elim
  · have hlt : s.heap.objs.size < y.2 := (hcell y.1 y.2 hy).2
    obtain ⟨q1, q2, q3⟩ := r.fresh_ge (Nat.le_of_lt hlt)
    refine ⟨q1, fun g hg => ?_, beq_eq_false_iff_ne.mpr (Nat.ne_of_gt (Nat.lt_of_lt_of_le r.low (Nat.le_trans hsz (Nat.le_of_lt hlt))))⟩
    rcases List.mem_cons.mp hg with rfl | hg
    · exact Nat.ne_of_lt hlt
    · exact q3 g hg

structure BmAt (base : Heap) : Prop where
  bm : ∃ bm ob mg, base.Ns mainGlobals mg ∧ mg "__builtins__" = some (.ref bm) ∧ bm ≠ builtinsNs ∧ base.get? bm = some ob ∧ ob.cls = .type "module" ∧ ob.dict = some builtinsNs ∧ ob.data = .plain
theorem CodeK.hd {c P : Addr} {h : Heap} (x : CodeK K c P) (X : K.In h) : CodeHd h c P :=
  let ⟨o, vs, file, tf, flags, tg, inF, text, tt, e, r⟩ := x; ⟨o, vs, file, tf, flags, tg, inF, text, tt, X _ _ e, r⟩

theorem v_defnew {name bind : Str} {params : Arguments} {body : List Stmt} {scope : Scope} {pos : Pos} {clos : List (Str × Addr)} {c P : Addr} {ps : Array Value} {Q : Flow → Shared → Prop}
    (a : Act K H n A base (env :: fs.map (·.1))) (r : R prog w base os ((env, m) :: fs) σ s) (B : BmAt base) (hcode : env.code = .ref c) (C : CodeK K c P) (hP : σ P = some (.obj (tabObj ps))) (ht : TriplesOk ps.toList) (hnf : codeAmong pos ps.toList = none)
    (hcl : closOf scope.names env.cells [] = some clos) (hd0 : params.defaults = []) (hk0 : params.kw_defaults = []) (ha : annTrees params none env = []) (hbind : bind = name)
    (h : ∀ f c' s', σ f = none → σ c' = none → c' ≠ f → R prog w base os ((env, m) :: fs) (((σ.set P (.obj (tabObj (ps ++ #[rawInt pos.line, rawInt pos.col, .ref c'])))).set c' (.pred (CodeObj (qualnameIn env name name)))).set f (.pred (FnObj name (qualnameIn env name name) params body scope clos c'))) s' →
      wpAny (model prog w) A (storeName env name (.ref f)) (fun _ s'' => Q .next s'') E s') :
    wpAny (model prog w) A (exec (.FunctionDef name params body [] none [] scope none bind pos) env) Q E s := by
  subst hbind
  refine nestDef_K hd0 hk0 ha ?_
  obtain ⟨bm, ob, mg, hg0, b1, b6, b2, b3, b4, b5⟩ := B.bm
  have hgs := hg0.keeps r.keep
  obtain ⟨oP, hP1, rfl⟩ := r.get hP
  obtain ⟨_, _, _, hP0⟩ := r.own P _ hP
  have hgP : mainGlobals ≠ P := fun q => by
    obtain ⟨o, es, ep, e, hd, _⟩ := hg0
    rw [q, hP0] at e; cases e
  have hbP : bm ≠ P := fun q => by
    rw [q, hP0] at b2; cases b2
  have hbG : bm ≠ mainGlobals := fun q => by
    obtain ⟨o, es, ep, e, hd, _⟩ := hg0
    rw [q, e] at b2; cases b2; rw [hd] at b5; cases b5
  refine makeFunction_K (mg := mg) (closureFor_of hcl) a.head.2.2.1 hgs hcode (C.hd (r.kin a)) hP1 ht hnf hgP ⟨bm, ob, b1, b6, hbG, hbP, r.keep _ _ b2, b3, b4, b5⟩ fun c' ctv doc h' tk hx hge hlt hrec htb => ?_
  obtain ⟨c₂, oc, vs, t, e2, hoc, hd, hv⟩ := hrec
  cases e2
  obtain ⟨f1, f2, f3⟩ := r.fresh_ge hge
  have hge2 : s.heap.objs.size ≤ h'.objs.size := Nat.le_trans hge (Nat.le_of_lt hlt)
  obtain ⟨g1, g2, g3⟩ := r.fresh_ge hge2
  have hne : c' ≠ h'.objs.size := Nat.ne_of_lt hlt
  have hlow := r.size_le (by simp)
  have sm : ∀ b, s.heap.objs.size ≤ b → (b == sysModules) = false := fun b hb => beq_eq_false_iff_ne.mpr (Nat.ne_of_gt (Nat.lt_of_lt_of_le r.low (Nat.le_trans hlow hb)))
  refine h h'.objs.size c' _ g2 f2 hne ?_
  have up : ∀ b o, b ≠ P → s.heap.get? b = some o → (h'.push (fnMade bind (qualnameIn env bind bind) params body scope clos doc ((mg "__name__").getD .none) c' ctv)).get? b = some o := fun b o hb e => Heap.get?_push_of_some _ (hx b o hb e)
  refine ⟨fun b o e => up b o (fun q => by rw [q, hP0] at e; cases e) (r.keep b o e), fun g hg => ?_, r.nd, fun b y q => ?_, fun b y q => ?_, r.low, r.gens, r.hos⟩
  · obtain ⟨⟨o, es, ep, k1, k2⟩, k3, k4⟩ := r.fr g hg
    have n1 : g.1.locals ≠ P := fun z => by rw [z, hP] at k4; cases k4
    refine ⟨⟨o, es, ep, up _ o n1 k1, k2⟩, k3, ?_⟩
    rw [Hp.set_ne _ _ (g3 g hg), Hp.set_ne _ _ (f3 g hg), Hp.set_ne _ _ n1]; exact k4
  · by_cases b3 : b = h'.objs.size
    · subst b3
      rw [Hp.set_self] at q; cases q
      exact ⟨_, Heap.get?_push_size _ rfl, ⟨_, _, _, rfl⟩, g1⟩
    · rw [Hp.set_ne _ _ b3] at q
      by_cases b2 : b = c'
      · subst b2
        rw [Hp.set_self] at q; cases q
        exact ⟨_, Heap.get?_push_of_some _ hoc, ⟨vs, t, hd, hv⟩, f1⟩
      · rw [Hp.set_ne _ _ b2] at q
        by_cases b1 : b = P
        · subst b1
          rw [Hp.set_self] at q; cases q
          exact ⟨_, Heap.get?_push_of_some _ htb, rfl, hP0⟩
        · rw [Hp.set_ne _ _ b1] at q
          obtain ⟨o', k1, k2, k3⟩ := r.own b y q
          exact ⟨o', up b o' b1 k1, k2, k3⟩
  · by_cases b3 : b = h'.objs.size
    · rw [b3]; exact sm _ hge2
    · rw [Hp.set_ne _ _ b3] at q
      by_cases b2 : b = c'
      · rw [b2]; exact sm _ hge
      · rw [Hp.set_ne _ _ b2] at q
        by_cases b1 : b = P
        · rw [b1]; exact r.nomod _ _ hP
        · rw [Hp.set_ne _ _ b1] at q; exact r.nomod b y q
end
end Mine
namespace Mine
section
variable {prog : Program} {w : World} {K : Frag} {H : Option Value} {n : Nat} {A : Around} {base : Heap} {env : Env} {os : OsState} {fs : List (Env × Nm)} {m : Nm} {σ : Hp} {s : Shared}
  {E : Value → Shared → Prop}

theorem R.of_new {h' : Heap} {t : Nat} {m' : Nm} {d : Addr} {o' : Obj} {x : AO} (r : R prog w base os ((env, m) :: fs) σ s) (hd : s.heap.objs.size ≤ d) (F : Fr base env.locals h' m') (N : News base env.locals h' ((d, o') :: ledger s.heap σ fs d)) (hx : Has prog w o' x) :
    σ d = none ∧ R prog w base os ((env, m') :: fs) (σ.set d x) { s with heap := h', toks := t } := by
  obtain ⟨f1, f2, f3⟩ := r.fresh_ge hd
  refine ⟨f2, r.of_ledger ⟨(f3 _ (.head _)).symm, fun q => ?_⟩ (beq_eq_false_iff_ne.mpr (Nat.ne_of_gt (Nat.lt_of_lt_of_le r.low (Nat.le_trans (r.size_le (by simp)) hd)))) F N hx⟩
  obtain ⟨g, hg, e⟩ := List.mem_map.mp q
  exact f3 g (.tail _ hg) e
theorem R.of_same {h' : Heap} {t : Nat} {m' : Nm} (r : R prog w base os ((env, m) :: fs) σ s) (F : Fr base env.locals h' m') (N : News base env.locals h' (ledger s.heap σ fs s.heap.objs.size)) : R prog w base os ((env, m') :: fs) σ { s with heap := h', toks := t } := by
  have hall : ∀ b o, (σ b).isSome = true ∨ b ∈ fs.map (·.1.locals) → s.heap.get? b = some o → h'.get? b = some o ∧ b ≠ env.locals := fun b o hb e => by
    have := N (b, o) (mem_ledger.mpr ⟨hb, Nat.ne_of_lt (Heap.lt_size e), e⟩)
    exact ⟨this.1, this.2.1⟩
  obtain ⟨q1, q2, q3⟩ := r.fr _ (.head _)
  refine ⟨F.keep, fun f hf => ?_, r.nd, fun b y hb => ?_, r.nomod, r.low, r.gens, r.hos⟩
  · rcases List.mem_cons.mp hf with rfl | hf
    · exact ⟨F.ns, q2, q3⟩
    · obtain ⟨⟨o, es, ep, k1, k⟩, k2, k3⟩ := r.fr f (.tail _ hf)
      exact ⟨⟨o, es, ep, (hall _ _ (.inr (List.mem_map_of_mem (f := fun x : Env × Nm => x.1.locals) hf)) k1).1, k⟩, k2, k3⟩
  · obtain ⟨o, k1, k2, k3⟩ := r.own b y hb
    exact ⟨o, (hall _ _ (.inl (by rw [hb]; rfl)) k1).1, k2, k3⟩

theorem v_mod {a b : Int} {t u : Tok} {fs : List (Env × Nm)} {Q : Value → Shared → Prop} (r : R prog w base os fs σ s) (hb : 0 < b) (h : ∀ s' t', R prog w base os fs σ s' → Q (.int (a % b) t') s') : wpAny (model prog w) A (binaryOp .Mod (.int a t) (.int b u)) Q E s :=
  mod_int' (by omega) (by rw [Int.fmod_eq_emod_of_nonneg _ (by omega)]; exact h _ _ (r.toks _))
theorem v_fdiv {a b : Int} {t u : Tok} {fs : List (Env × Nm)} {Q : Value → Shared → Prop} (r : R prog w base os fs σ s) (hb : 0 < b) (hb2 : b < 1000000) (h : ∀ s' t', R prog w base os fs σ s' → Q (.int (a / b) t') s') : wpAny (model prog w) A (binaryOp .FloorDiv (.int a t) (.int b u)) Q E s :=
  floordiv_int (by omega) (by rw [Int.fdiv_eq_ediv_of_nonneg _ (by omega)]; exact h _ _ (r.toks _)) (.inl (PyProof.noPylong_small (by omega)))
theorem v_shl {a b : Int} {t u : Tok} {fs : List (Env × Nm)} {Q : Value → Shared → Prop} (r : R prog w base os fs σ s) (hb : 0 ≤ b) (hb2 : b < 60) (ha : 0 ≤ a ∧ a < 1000) (h : ∀ s' t', R prog w base os fs σ s' → Q (.int (a * 2 ^ b.toNat) t') s') : wpAny (model prog w) A (binaryOp .LShift (.int a t) (.int b u)) Q E s :=
  lshift_int_small hb (by omega) (by omega) (h _ _ (r.toks _))
theorem v_shr {a b : Int} {t u : Tok} {fs : List (Env × Nm)} {Q : Value → Shared → Prop} (r : R prog w base os fs σ s) (hb : 0 ≤ b) (h : ∀ s' t', R prog w base os fs σ s' → Q (.int (a / 2 ^ b.toNat) t') s') : wpAny (model prog w) A (binaryOp .RShift (.int a t) (.int b u)) Q E s :=
  rshift_int hb (by rw [Int.fdiv_eq_ediv_of_nonneg _ (Int.le_of_lt (Int.pow_pos (by omega)))]; exact h _ _ (r.toks _))
theorem v_and {a b : Int} {t u : Tok} {fs : List (Env × Nm)} {Q : Value → Shared → Prop} (r : R prog w base os fs σ s) (h : ∀ s' t', R prog w base os fs σ s' → Q (.int (Builtin.bitAnd a b) t') s') : wpAny (model prog w) A (binaryOp .BitAnd (.int a t) (.int b u)) Q E s :=
  and_int (h _ _ (r.toks _))

theorem v_lconcat {a b : Addr} {xs ys : List Value} {Q : Value → Shared → Prop} (r : R prog w base os ((env, m) :: fs) σ s) (ha : σ a = some (.list xs)) (hb : σ b = some (.list ys)) (hz : xs.length + ys.length ≤ 100000)
    (h : ∀ d s', σ d = none → R prog w base os ((env, m) :: fs) (σ.set d (.list (xs ++ ys))) s' → Q (.ref d) s') : wpAny (model prog w) A (binaryOp .Add (.ref a) (.ref b)) Q E s :=
  add_arrays r.F (r.ledger_news s.heap.objs.size) (r.isList ha) (r.isList hb) (fun h' F' N' => by
    obtain ⟨q1, q2⟩ := r.of_new (t := s.toks) (x := .list (xs ++ ys)) (Nat.le_refl _) F' N' ⟨0, by simp⟩
    exact h _ _ q1 q2) (by rw [sizeLine_eq]; simp; omega)
theorem v_lin {l : Addr} {vs : List Value} {ns : List Int} {k : Int} {t : Tok} {fs : List (Env × Nm)} {Q : Value → Shared → Prop} (r : R prog w base os fs σ s) (hl : σ l = some (.list vs)) (hi : IntsAre vs ns) (h : Q (.bool (ns.any (· == k))) s) :
    wpAny (model prog w) A (compareOp .In (.int k t) (.ref l)) Q E s := in_list_ints (r.isList hl) hi h
theorem v_slicemk {lo hi : Expr} {x1 : Pos} {vl vu : Value} {Q : Value → Shared → Prop}
    (h : wpAny (model prog w) A (eval lo env) (fun vl s₁ => wpAny (model prog w) A (eval hi env) (fun vu s₂ => Q (.ref s₂.heap.objs.size) { s₂ with heap := s₂.heap.push { cls := .type "slice", data := .fields #[vl, vu, .none] } }) E s₁) E s) :
    wpAny (model prog w) A (eval (.Slice (some lo) (some hi) none x1) env) Q E s := by
  rw [arm_eval_Slice]
  refine wpAny_bind (m := valueOrNone (evalOpt (some lo) env)) (wpAny_mono (show wpAny (model prog w) A (eval lo env) _ E s from h) (fun vl s₁ h₁ => ?_) fun _ _ e => e)
  refine wpAny_bind (wpAny_holding (m := valueOrNone (evalOpt (some hi) env)) (wpAny_mono (show wpAny (model prog w) A (eval hi env) _ E s₁ from h₁) (fun vu s₂ h₂ => ?_) fun _ _ e => e))
  refine wpAny_bind (wpAny_holding (m := valueOrNone (evalOpt none env)) (wpAny_pure ?_))
  exact wpAny_newObj_type h₂
end
end Mine
namespace Mine
def lexLt : List Int → List Int → Bool
  | a :: r, b :: t => if a = b then lexLt r t else decide (a < b)
  | [], _ :: _ => true
  | _, [] => false
def bestAt {α : Type} (bt : α → α → Bool) : α → List α → α
  | a, [] => a
  | a, b :: r => bestAt bt (if bt b a then b else a) r
section
variable {prog : Program} {w : World} {K : Frag} {H : Option Value} {n : Nat} {A : Around} {base : Heap} {env : Env} {os : OsState} {fs : List (Env × Nm)} {m : Nm} {σ : Hp} {s : Shared}
  {E : Value → Shared → Prop}
theorem size_ints {vs : Array Value} {ns : List Int} (h : IntsAre vs.toList ns) : vs.size = ns.length := by have := h.length; simpa using this
def titer (l : Addr) (i : Nat) : AO := .fld "tuple_iterator" [.ref l, .int i 0]
theorem R.tupIter {fs : List (Env × Nm)} {it l : Addr} {i : Nat} (r : R prog w base os fs σ s) (hi : σ it = some (titer l i)) : s.heap.IsTupleIter it l i := by
  obtain ⟨o, h1, h2, h3⟩ := r.get hi
  exact ⟨o, h1, h2, h3⟩
theorem R.isTuple {fs : List (Env × Nm)} {d : Addr} {xs : List Value} (r : R prog w base os fs σ s) (e : σ d = some (.tup xs)) : s.heap.IsTuple d xs.toArray := by
  obtain ⟨o, h1, h2, n, h3⟩ := r.get e
  exact ⟨o, h1, h2, n, h3⟩
theorem tuple_lt_tree {xs ys : Array Value} {a b : Addr} {ns ms : List Int} {P : Fin → Shared → Prop} (ha : IsTup s.heap a xs) (hb : IsTup s.heap b ys) (hi : IntsAre xs.toList ns) (hj : IntsAre ys.toList ms) (h : P (.done (.ret (.bool (lexLt ns ms)))) s) :
    wpAny (model prog w) A (Builtin.«tuple.__lt__» ⟨[.ref a, .ref b], []⟩) P E s := by
  show wpAny _ _ (isInstance (.ref b) (.type "tuple") >>= _) _ _ s
  refine wpAny_bind (wpAny_isInstance hb.typeIs isSubtype_tuple_tuple ?_)
  simp only [Bool.not_true, Bool.false_eq_true, if_false]
  refine wpAny_bind (tupleItemsOf_ ha ?_)
  refine wpAny_bind (tupleItemsOf_ hb ?_)
  refine wpAny_bind ?_
  refine wpAny_forIn_list _
    (fun rest r s' => r.1 = none ∧ s' = s ∧ ∃ ns' ms' xs' ys', rest = List.zip xs' ys' ∧ IntsAre xs' ns' ∧ IntsAre ys' ms' ∧ lexLt ns' ms' = lexLt ns ms ∧ ∃ k, xs'.length + k = xs.size ∧ ys'.length + k = ys.size)
    _ ?_ ?_ _ _ ⟨rfl, rfl, ns, ms, xs.toList, ys.toList, rfl, hi, hj, rfl, 0, by simp, by simp⟩
  · rintro ⟨u, v⟩ rest r s' ⟨hr, rfl, x', y', xs', ys', hz, hx', hy', hdec, k, hk1, hk2⟩
    cases hx' with
    | nil => simp at hz
    | cons k1 t1 hx'' =>
      cases hy' with
      | nil => simp at hz
      | cons k2 t2 hy'' =>
        simp only [List.zip_cons_cons, List.cons.injEq, Prod.mk.injEq] at hz
        obtain ⟨⟨rfl, rfl⟩, rfl⟩ := hz
        refine wpAny_bind (wpAny_eqBool_int ?_)
        by_cases hk : k1 = k2
        · subst hk
          simp only [beq_self_eq_true, Bool.not_true, Bool.false_eq_true, if_false]
          refine wpAny_pure ⟨rfl, rfl, _, _, _, _, rfl, hx'', hy'', ?_, k + 1, by simp only [List.length_cons] at hk1; omega, by simp only [List.length_cons] at hk2; omega⟩
          rw [← hdec]; simp [lexLt]
        · rw [show (k1 == k2) = false from beq_eq_false_iff_ne.mpr hk]
          simp only [Bool.not_false, if_true]
          have hf : lexLt ns ms = decide (k1 < k2) := by rw [← hdec]; simp [lexLt, hk]
          rw [hf] at h
          refine wpAny_bind (wpAny_rule (wpAny_bind (CmpOf.ints_lt (P := fun i w => (i = 0 ∧ w = .int k1 t1) ∨ (i = 1 ∧ w = .int k2 t2)) (fun i => if i = 0 then k1 else k2) (fun i w hw => ?_) 0 1 _ _ _ _ _ (.inl ⟨rfl, rfl⟩) (.inr ⟨rfl, rfl⟩) ?_)))
          · rcases hw with ⟨rfl, rfl⟩ | ⟨rfl, rfl⟩
            · exact ⟨t1, rfl⟩
            · exact ⟨t2, rfl⟩
          · refine wpAny_pure (wpAny_pure ?_)
            simpa using h
  · rintro ⟨r1, r2⟩ s' ⟨hr, rfl, x', y', xs', ys', hz, hx', hy', hdec, k, hk1, hk2⟩
    simp only at hr
    subst hr
    refine wpAny_pure ?_
    show P (.done (.ret (.bool (decide (xs.size < ys.size))))) s'
    have hfin : decide (xs.size < ys.size) = lexLt ns ms := by
      rw [← hdec]
      cases hx' with
      | nil =>
        cases hy' with
        | nil => simp at hk1 hk2; simp [lexLt]; omega
        | cons _ _ => simp at hk1 hk2; simp [lexLt]; omega
      | cons _ _ =>
        cases hy' with
        | nil => simp at hk1 hk2; simp [lexLt]; omega
        | cons _ _ => simp at hz
    rw [hfin]; exact h
theorem cmp_tuple_lt {xs ys : Array Value} {a b : Addr} {ns ms : List Int} {Q : Value → Shared → Prop} (hu : A.units < cLine) (ha : IsTup s.heap a xs) (hb : IsTup s.heap b ys) (hi : IntsAre xs.toList ns) (hj : IntsAre ys.toList ms) (h : Q (.bool (lexLt ns ms)) s) :
    wpAny (model prog w) A (richCompare .Lt (.ref a) (.ref b)) Q E s :=
  wpAny_richCompare_same_room ha.typeIs hb.typeIs F.slot_tuple_lt
    (wpAny_call_entry F.slot_tuple_lt ha.typeIs F.entry_tuple_lt (tuple_lt_tree (E := E) ha hb hi hj ⟨_, rfl, (by intro q; cases q), h⟩) (F.args_tuple_lt_2 _ _)) hu

theorem min_loop {it l : Addr} {xs : List Value} {α : Type} {items : List α} {G : α → Value → Prop} {bt : α → α → Bool} {B : Addr} {R' : Result → Shared → Prop} {base : Heap} {os : OsState} {fs : List (Env × Nm)} (hh : A.handled = none)
    (hcmp : ∀ a b va vb (σ' : Hp) s Q, G a va → G b vb → (∀ c x, c ≠ it → c ≠ B → σ c = some x → σ' c = some x) → R prog w base os fs σ' s → Q (.bool (bt a b)) s → wpAny (model prog w) A.in1 (richCompare .Lt va vb) Q (fun _ _ => False) s)
    (hitem : xs.length = items.length) (hF : ∀ (i : Nat) a, items[i]? = some a → ∃ v, xs[i]? = some v ∧ G a v) (hBi : B ≠ it) (hBl : B ≠ l) :
    ∀ (k j : Nat) (best : α) (vb : Value) (σ' : Hp) (s : Shared), items.length - (j + 1) = k → j + 1 ≤ items.length → G best vb → R prog w base os fs σ' s → σ' it = some (liter l (j + 1)) → σ' l = some (.list xs) → σ' B = some (.list [vb, vb]) →
    (∀ c x, c ≠ it → c ≠ B → σ c = some x → σ' c = some x) →
    (∀ v σ'' s'', G (bestAt bt best (items.drop (j + 1))) v → R prog w base os fs σ'' s'' → (∀ c x, c ≠ it → c ≠ B → σ c = some x → σ'' c = some x) → R' (.ok (.ret v)) s'') →
    codeAny (model prog w) A (.builtin "min.loop" ⟨[.ref it, .none, .ref B], []⟩) R' s := by
  have hname : (toString "min" ++ toString ".loop" : String) = "min.loop" := by decide
  intro k
  induction k with
  | zero =>
    intro j best vb σ' s hk hj hb r hi hl hB hs hR
    have hin : j + 1 = items.length := by omega
    refine codeAny_builtin F.entry_min_loop ?_
    rw [Around.under_plainId F.plain_min_loop _]
    obtain ⟨c0, hB0⟩ := r.isL hB
    show wpAny _ A.in1 (seqItems? (.ref B) >>= _) _ _ s
    refine wpAny_bind (wpAny_seqItems hB0 rfl ?_)
    show wpAny _ A.in1 (tryCatch (pyNext (.ref it)) _ >>= _) _ _ s
    refine wpAny_bind (wpAny_tryCatch (wpAny_pyNext_list_end hh (r.listIter hi) (r.isList hl) (by simp [hitem]; omega) fun h' he => ?_))
    have r1 := r.extBut (t := s.toks) (l := [it]) hi (.head _) he
    have hB1 : (σ'.del [it]) B = some (.list [vb, vb]) := by rw [Hp.del_ne _ (by simpa using hBi)]; exact hB
    obtain ⟨c1, hB2⟩ := r1.isL hB1
    show wpAny _ A.in1 (updateSeq B (fun _ => #[]) >>= _) _ _ _
    refine wpAny_bind ?_
    refine wpAny_updateSeq hB2 rfl (wpAny_bind (wpAny_letGo (wpAny_pure ?_)))
    have r2 := r1.updL (t := s.toks) (ys := []) hB1 hB2 (fun _ => #[]) rfl
    refine hR vb _ _ (by rw [List.drop_of_length_le (by omega)]; exact hb) r2 fun c x c1 c2 e => ?_
    rw [Hp.set_ne _ _ c2, Hp.del_ne _ (by simpa using c1)]
    exact hs c x c1 c2 e
  | succ k ih =>
    intro j best vb σ' s hk hj hb r hi hl hB hs hR
    have hlt : j + 1 < items.length := by omega
    refine codeAny_builtin F.entry_min_loop ?_
    rw [Around.under_plainId F.plain_min_loop _]
    obtain ⟨c0, hB0⟩ := r.isL hB
    show wpAny _ A.in1 (seqItems? (.ref B) >>= _) _ _ s
    refine wpAny_bind (wpAny_seqItems hB0 rfl ?_)
    show wpAny _ A.in1 (tryCatch (pyNext (.ref it)) _ >>= _) _ _ s
    obtain ⟨v, hv, hFv⟩ := hF (j + 1) items[j + 1] (List.getElem?_eq_getElem hlt)
    refine wpAny_bind (wpAny_tryCatch (wpAny_pyNext_list_item (r.listIter hi) (r.isList hl) (x := v) (by simpa using hv) fun h' hit hs' => ?_))
    obtain ⟨o, q1, q2, q3⟩ := hit
    have r1 := r.upd (x := liter l (j + 1 + 1)) (t := s.toks) hi hs' q1 ⟨q2, q3⟩
    have s1 : ∀ c x, c ≠ it → c ≠ B → σ c = some x → (σ'.set it (liter l (j + 1 + 1))) c = some x := fun c x c1 c2 e => by rw [Hp.set_ne _ _ c1]; exact hs c x c1 c2 e
    have hil : it ≠ l := fun q => by rw [q, hl] at hi; cases hi
    have hB1 : (σ'.set it (liter l (j + 1 + 1))) B = some (.list [vb, vb]) := by rw [Hp.set_ne _ _ hBi]; exact hB
    have hl1 : (σ'.set it (liter l (j + 1 + 1))) l = some (.list xs) := by rw [Hp.set_ne _ _ hil.symm]; exact hl
    show wpAny _ A.in1 (tryCatch (holding [v, v] (richCompare .Lt v vb >>= _)) _ >>= _) _ _ _
    refine wpAny_bind (wpAny_tryCatch (wpAny_holding (wpAny_bind (wpAny_mono (hcmp _ _ v vb _ _ (fun bv s' => bv = .bool (bt items[j + 1] best) ∧ s' = _) hFv hb s1 r1 ⟨rfl, rfl⟩) (fun bv s' h' => ?_) fun _ _ x => x.elim))))
    obtain ⟨rfl, rfl⟩ := h'
    refine wpAny_bind (wpAny_holding (wpAny_truthy_bool ?_))
    refine wpAny_bind (wpAny_letGo (wpAny_pure ?_))
    have hd : bestAt bt best (items.drop (j + 1)) = bestAt bt (if bt items[j + 1] best then items[j + 1] else best) (items.drop (j + 1 + 1)) := by
      rw [List.drop_eq_getElem_cons hlt]; rfl
    rw [hd] at hR
    cases hbt : bt items[j + 1] best with
    | true =>
      simp only [if_true]
      obtain ⟨c1, hB2⟩ := r1.isL hB1
      refine wpAny_bind ?_
      refine wpAny_updateSeq hB2 rfl (wpAny_bind (wpAny_letGo ?_))
      rw [hname]
      have r2 := r1.updL (t := s.toks) (ys := [v, v]) hB1 hB2 (fun _ => #[v, v]) rfl
      rw [hbt] at hR
      simp only [if_true] at hR
      refine wpAny_pure ⟨plainId_quiet F.plain_min_loop _, ih (j + 1) items[j + 1] v _ _ (by omega) hlt hFv r2 (by rw [Hp.set_ne _ _ hBi.symm]; exact Hp.set_self _ _ _) (by rw [Hp.set_ne _ _ hBl.symm]; exact hl1) (Hp.set_self _ _ _)
        (fun c x c1 c2 e => by rw [Hp.set_ne _ _ c2]; exact s1 c x c1 c2 e) hR⟩
    | false =>
      simp only [Bool.false_eq_true, if_false]
      refine wpAny_bind (wpAny_letGo ?_)
      rw [hname]
      rw [hbt] at hR
      simp only [Bool.false_eq_true, if_false] at hR
      exact wpAny_pure ⟨plainId_quiet F.plain_min_loop _, ih (j + 1) best vb _ _ (by omega) hlt hb r1 (Hp.set_self _ _ _) hl1 hB1 s1 hR⟩
theorem min_first {it l : Addr} {xs : List Value} {α : Type} {items : List α} {G : α → Value → Prop} {bt : α → α → Bool} {B : Addr} {R' : Result → Shared → Prop} {base : Heap} {os : OsState} {fs : List (Env × Nm)} {a0 : α} {s : Shared} (hh : A.handled = none)
    (hcmp : ∀ a b va vb (σ' : Hp) s Q, G a va → G b vb → (∀ c x, c ≠ it → c ≠ B → σ c = some x → σ' c = some x) → R prog w base os fs σ' s → Q (.bool (bt a b)) s → wpAny (model prog w) A.in1 (richCompare .Lt va vb) Q (fun _ _ => False) s)
    (hitem : xs.length = (a0 :: items).length) (hF : ∀ (i : Nat) a, (a0 :: items)[i]? = some a → ∃ v, xs[i]? = some v ∧ G a v) (hBi : B ≠ it) (hBl : B ≠ l)
    (r : R prog w base os fs σ s) (hi : σ it = some (liter l 0)) (hl : σ l = some (.list xs)) (hB : σ B = some (.list []))
    (hR : ∀ v σ'' s'', G (bestAt bt a0 items) v → R prog w base os fs σ'' s'' → (∀ c x, c ≠ it → c ≠ B → σ c = some x → σ'' c = some x) → R' (.ok (.ret v)) s'') :
    codeAny (model prog w) A (.builtin "min.loop" ⟨[.ref it, .none, .ref B], []⟩) R' s := by
  have hname : (toString "min" ++ toString ".loop" : String) = "min.loop" := by decide
  refine codeAny_builtin F.entry_min_loop ?_
  rw [Around.under_plainId F.plain_min_loop _]
  obtain ⟨c0, hB0⟩ := r.isL hB
  show wpAny _ A.in1 (seqItems? (.ref B) >>= _) _ _ s
  refine wpAny_bind (wpAny_seqItems hB0 rfl ?_)
  show wpAny _ A.in1 (tryCatch (pyNext (.ref it)) _ >>= _) _ _ s
  obtain ⟨v, hv, hFv⟩ := hF 0 a0 rfl
  refine wpAny_bind (wpAny_tryCatch (wpAny_pyNext_list_item (r.listIter hi) (r.isList hl) (x := v) (by simpa using hv) fun h' hit hs' => ?_))
  obtain ⟨o, q1, q2, q3⟩ := hit
  have r1 := r.upd (x := liter l (0 + 1)) (t := s.toks) hi hs' q1 ⟨q2, q3⟩
  have hil : it ≠ l := fun q => by rw [q, hl] at hi; cases hi
  have hB1 : (σ.set it (liter l (0 + 1))) B = some (.list []) := by rw [Hp.set_ne _ _ hBi]; exact hB
  have hl1 : (σ.set it (liter l (0 + 1))) l = some (.list xs) := by rw [Hp.set_ne _ _ hil.symm]; exact hl
  obtain ⟨c1, hB2⟩ := r1.isL hB1
  show wpAny _ A.in1 (updateSeq B (fun _ => #[v, v]) >>= _) _ _ _
  refine wpAny_bind ?_
  refine wpAny_updateSeq hB2 rfl ?_
  rw [hname]
  have r2 := r1.updL (t := s.toks) (ys := [v, v]) hB1 hB2 (fun _ => #[v, v]) rfl
  exact wpAny_pure ⟨plainId_quiet F.plain_min_loop _, min_loop (σ := σ) (items := a0 :: items) hh hcmp hitem hF hBi hBl _ 0 a0 v _ _ rfl (by simp) hFv r2 (by rw [Hp.set_ne _ _ hBi.symm]; exact Hp.set_self _ _ _) (by rw [Hp.set_ne _ _ hBl.symm]; exact hl1) (Hp.set_self _ _ _)
    (fun c x c1 c2 e => by rw [Hp.set_ne _ _ c2, Hp.set_ne _ _ c1]; exact e) hR⟩
theorem min_loopT {it l : Addr} {xs : List Value} {α : Type} {items : List α} {G : α → Value → Prop} {bt : α → α → Bool} {B : Addr} {R' : Result → Shared → Prop} {base : Heap} {os : OsState} {fs : List (Env × Nm)} (hh : A.handled = none)
    (hcmp : ∀ a b va vb (σ' : Hp) s Q, G a va → G b vb → (∀ c x, c ≠ it → c ≠ B → σ c = some x → σ' c = some x) → R prog w base os fs σ' s → Q (.bool (bt a b)) s → wpAny (model prog w) A.in1 (richCompare .Lt va vb) Q (fun _ _ => False) s)
    (hitem : xs.length = items.length) (hF : ∀ (i : Nat) a, items[i]? = some a → ∃ v, xs[i]? = some v ∧ G a v) (hBi : B ≠ it) (hBl : B ≠ l) :
    ∀ (k j : Nat) (best : α) (vb : Value) (σ' : Hp) (s : Shared), items.length - (j + 1) = k → j + 1 ≤ items.length → G best vb → R prog w base os fs σ' s → σ' it = some (titer l (j + 1)) → σ' l = some (.tup xs) → σ' B = some (.list [vb, vb]) →
    (∀ c x, c ≠ it → c ≠ B → σ c = some x → σ' c = some x) →
    (∀ v σ'' s'', G (bestAt bt best (items.drop (j + 1))) v → R prog w base os fs σ'' s'' → (∀ c x, c ≠ it → c ≠ B → σ c = some x → σ'' c = some x) → R' (.ok (.ret v)) s'') →
    codeAny (model prog w) A (.builtin "min.loop" ⟨[.ref it, .none, .ref B], []⟩) R' s := by
  have hname : (toString "min" ++ toString ".loop" : String) = "min.loop" := by decide
  intro k
  induction k with
  | zero =>
    intro j best vb σ' s hk hj hb r hi hl hB hs hR
    have hin : j + 1 = items.length := by omega
    refine codeAny_builtin F.entry_min_loop ?_
    rw [Around.under_plainId F.plain_min_loop _]
    obtain ⟨c0, hB0⟩ := r.isL hB
    show wpAny _ A.in1 (seqItems? (.ref B) >>= _) _ _ s
    refine wpAny_bind (wpAny_seqItems hB0 rfl ?_)
    show wpAny _ A.in1 (tryCatch (pyNext (.ref it)) _ >>= _) _ _ s
    refine wpAny_bind (wpAny_tryCatch (wpAny_pyNext_tuple_end hh (r.tupIter hi) (r.isTuple hl) (by simp [hitem]; omega) fun h' he => ?_))
    have r1 := r.extBut (t := s.toks) (l := [it]) hi (.head _) he
    have hB1 : (σ'.del [it]) B = some (.list [vb, vb]) := by rw [Hp.del_ne _ (by simpa using hBi)]; exact hB
    obtain ⟨c1, hB2⟩ := r1.isL hB1
    show wpAny _ A.in1 (updateSeq B (fun _ => #[]) >>= _) _ _ _
    refine wpAny_bind ?_
    refine wpAny_updateSeq hB2 rfl (wpAny_bind (wpAny_letGo (wpAny_pure ?_)))
    have r2 := r1.updL (t := s.toks) (ys := []) hB1 hB2 (fun _ => #[]) rfl
    refine hR vb _ _ (by rw [List.drop_of_length_le (by omega)]; exact hb) r2 fun c x c1 c2 e => ?_
    rw [Hp.set_ne _ _ c2, Hp.del_ne _ (by simpa using c1)]
    exact hs c x c1 c2 e
  | succ k ih =>
    intro j best vb σ' s hk hj hb r hi hl hB hs hR
    have hlt : j + 1 < items.length := by omega
    refine codeAny_builtin F.entry_min_loop ?_
    rw [Around.under_plainId F.plain_min_loop _]
    obtain ⟨c0, hB0⟩ := r.isL hB
    show wpAny _ A.in1 (seqItems? (.ref B) >>= _) _ _ s
    refine wpAny_bind (wpAny_seqItems hB0 rfl ?_)
    show wpAny _ A.in1 (tryCatch (pyNext (.ref it)) _ >>= _) _ _ s
    obtain ⟨v, hv, hFv⟩ := hF (j + 1) items[j + 1] (List.getElem?_eq_getElem hlt)
    refine wpAny_bind (wpAny_tryCatch (wpAny_pyNext_tuple_item (r.tupIter hi) (r.isTuple hl) (x := v) (by simpa using hv) fun h' hit hs' => ?_))
    obtain ⟨o, q1, q2, q3⟩ := hit
    have r1 := r.upd (x := titer l (j + 1 + 1)) (t := s.toks) hi hs' q1 ⟨q2, q3⟩
    have s1 : ∀ c x, c ≠ it → c ≠ B → σ c = some x → (σ'.set it (titer l (j + 1 + 1))) c = some x := fun c x c1 c2 e => by rw [Hp.set_ne _ _ c1]; exact hs c x c1 c2 e
    have hil : it ≠ l := fun q => by rw [q, hl] at hi; cases hi
    have hB1 : (σ'.set it (titer l (j + 1 + 1))) B = some (.list [vb, vb]) := by rw [Hp.set_ne _ _ hBi]; exact hB
    have hl1 : (σ'.set it (titer l (j + 1 + 1))) l = some (.tup xs) := by rw [Hp.set_ne _ _ hil.symm]; exact hl
    show wpAny _ A.in1 (tryCatch (holding [v, v] (richCompare .Lt v vb >>= _)) _ >>= _) _ _ _
    refine wpAny_bind (wpAny_tryCatch (wpAny_holding (wpAny_bind (wpAny_mono (hcmp _ _ v vb _ _ (fun bv s' => bv = .bool (bt items[j + 1] best) ∧ s' = _) hFv hb s1 r1 ⟨rfl, rfl⟩) (fun bv s' h' => ?_) fun _ _ x => x.elim))))
    obtain ⟨rfl, rfl⟩ := h'
    refine wpAny_bind (wpAny_holding (wpAny_truthy_bool ?_))
    refine wpAny_bind (wpAny_letGo (wpAny_pure ?_))
    have hd : bestAt bt best (items.drop (j + 1)) = bestAt bt (if bt items[j + 1] best then items[j + 1] else best) (items.drop (j + 1 + 1)) := by
      rw [List.drop_eq_getElem_cons hlt]; rfl
    rw [hd] at hR
    cases hbt : bt items[j + 1] best with
    | true =>
      simp only [if_true]
      obtain ⟨c1, hB2⟩ := r1.isL hB1
      refine wpAny_bind ?_
      refine wpAny_updateSeq hB2 rfl (wpAny_bind (wpAny_letGo ?_))
      rw [hname]
      have r2 := r1.updL (t := s.toks) (ys := [v, v]) hB1 hB2 (fun _ => #[v, v]) rfl
      rw [hbt] at hR
      simp only [if_true] at hR
      refine wpAny_pure ⟨plainId_quiet F.plain_min_loop _, ih (j + 1) items[j + 1] v _ _ (by omega) hlt hFv r2 (by rw [Hp.set_ne _ _ hBi.symm]; exact Hp.set_self _ _ _) (by rw [Hp.set_ne _ _ hBl.symm]; exact hl1) (Hp.set_self _ _ _)
        (fun c x c1 c2 e => by rw [Hp.set_ne _ _ c2]; exact s1 c x c1 c2 e) hR⟩
    | false =>
      simp only [Bool.false_eq_true, if_false]
      refine wpAny_bind (wpAny_letGo ?_)
      rw [hname]
      rw [hbt] at hR
      simp only [Bool.false_eq_true, if_false] at hR
      exact wpAny_pure ⟨plainId_quiet F.plain_min_loop _, ih (j + 1) best vb _ _ (by omega) hlt hb r1 (Hp.set_self _ _ _) hl1 hB1 s1 hR⟩
theorem min_firstT {it l : Addr} {xs : List Value} {α : Type} {items : List α} {G : α → Value → Prop} {bt : α → α → Bool} {B : Addr} {R' : Result → Shared → Prop} {base : Heap} {os : OsState} {fs : List (Env × Nm)} {a0 : α} {s : Shared} (hh : A.handled = none)
    (hcmp : ∀ a b va vb (σ' : Hp) s Q, G a va → G b vb → (∀ c x, c ≠ it → c ≠ B → σ c = some x → σ' c = some x) → R prog w base os fs σ' s → Q (.bool (bt a b)) s → wpAny (model prog w) A.in1 (richCompare .Lt va vb) Q (fun _ _ => False) s)
    (hitem : xs.length = (a0 :: items).length) (hF : ∀ (i : Nat) a, (a0 :: items)[i]? = some a → ∃ v, xs[i]? = some v ∧ G a v) (hBi : B ≠ it) (hBl : B ≠ l)
    (r : R prog w base os fs σ s) (hi : σ it = some (titer l 0)) (hl : σ l = some (.tup xs)) (hB : σ B = some (.list []))
    (hR : ∀ v σ'' s'', G (bestAt bt a0 items) v → R prog w base os fs σ'' s'' → (∀ c x, c ≠ it → c ≠ B → σ c = some x → σ'' c = some x) → R' (.ok (.ret v)) s'') :
    codeAny (model prog w) A (.builtin "min.loop" ⟨[.ref it, .none, .ref B], []⟩) R' s := by
  have hname : (toString "min" ++ toString ".loop" : String) = "min.loop" := by decide
  refine codeAny_builtin F.entry_min_loop ?_
  rw [Around.under_plainId F.plain_min_loop _]
  obtain ⟨c0, hB0⟩ := r.isL hB
  show wpAny _ A.in1 (seqItems? (.ref B) >>= _) _ _ s
  refine wpAny_bind (wpAny_seqItems hB0 rfl ?_)
  show wpAny _ A.in1 (tryCatch (pyNext (.ref it)) _ >>= _) _ _ s
  obtain ⟨v, hv, hFv⟩ := hF 0 a0 rfl
  refine wpAny_bind (wpAny_tryCatch (wpAny_pyNext_tuple_item (r.tupIter hi) (r.isTuple hl) (x := v) (by simpa using hv) fun h' hit hs' => ?_))
  obtain ⟨o, q1, q2, q3⟩ := hit
  have r1 := r.upd (x := titer l (0 + 1)) (t := s.toks) hi hs' q1 ⟨q2, q3⟩
  have hil : it ≠ l := fun q => by rw [q, hl] at hi; cases hi
  have hB1 : (σ.set it (titer l (0 + 1))) B = some (.list []) := by rw [Hp.set_ne _ _ hBi]; exact hB
  have hl1 : (σ.set it (titer l (0 + 1))) l = some (.tup xs) := by rw [Hp.set_ne _ _ hil.symm]; exact hl
  obtain ⟨c1, hB2⟩ := r1.isL hB1
  show wpAny _ A.in1 (updateSeq B (fun _ => #[v, v]) >>= _) _ _ _
  refine wpAny_bind ?_
  refine wpAny_updateSeq hB2 rfl ?_
  rw [hname]
  have r2 := r1.updL (t := s.toks) (ys := [v, v]) hB1 hB2 (fun _ => #[v, v]) rfl
  exact wpAny_pure ⟨plainId_quiet F.plain_min_loop _, min_loopT (σ := σ) (items := a0 :: items) hh hcmp hitem hF hBi hBl _ 0 a0 v _ _ rfl (by simp) hFv r2 (by rw [Hp.set_ne _ _ hBi.symm]; exact Hp.set_self _ _ _) (by rw [Hp.set_ne _ _ hBl.symm]; exact hl1) (Hp.set_self _ _ _)
    (fun c x c1 c2 e => by rw [Hp.set_ne _ _ c2, Hp.set_ne _ _ c1]; exact e) hR⟩
theorem v_min {l : Addr} {xs : List Value} {α : Type} {items : List α} {a0 : α} {G : α → Value → Prop} {bt : α → α → Bool} {Q : Value → Shared → Prop} (a : Act K none n A base (env :: fs.map (·.1))) (r : R prog w base os ((env, m) :: fs) σ s) (hl : σ l = some (.list xs))
    (hitem : xs.length = (a0 :: items).length) (hF : ∀ (i : Nat) a, (a0 :: items)[i]? = some a → ∃ v, xs[i]? = some v ∧ G a v)
    (hcmp : ∀ a b va vb (σ' : Hp) s Q, G a va → G b vb → (∀ c x, σ c = some x → σ' c = some x) → R prog w base os ((env, m) :: fs) σ' s → Q (.bool (bt a b)) s → wpAny (model prog w) A.in1 (richCompare .Lt va vb) Q (fun _ _ => False) s)
    (h : ∀ v σ' s', G (bestAt bt a0 items) v → (∀ c x, σ c = some x → σ' c = some x) → R prog w base os ((env, m) :: fs) σ' s' → Q v s') : wpAny (model prog w) A (call (.builtin "min") [.ref l]) Q E s := by
  have hname : (toString "min" ++ toString ".loop" : String) = "min.loop" := by decide
  refine call_function_tree F.kind_min F.plain_min F.entry_min (F.args_min1 _) ?_
  show wpAny _ A.in1 (Builtin.Builtins.bindParams "min" ["key", "default"] 0 ⟨[], []⟩ >>= _) _ _ s
  refine wpAny_bind (wpAny_of_eq (show Builtin.Builtins.bindParams "min" ["key", "default"] 0 ⟨[], []⟩ = pure [none, none] from rfl) ?_)
  refine wpAny_bind (wpAny_pure ?_)
  refine wpAny_bind (v_iterL r hl fun it s₁ hit r₁ => ?_)
  refine wpAny_bind (wpAny_newObj_type ?_)
  have hB := r₁.fresh
  have r₂ := r₁.push (o := { cls := .type "list", data := .seq ([] : List Value).toArray }) (x := .list []) (t := s₁.toks) (by simp) ⟨0, rfl⟩
  generalize s₁.heap.objs.size = B at *
  have nBi : B ≠ it := fun q => by rw [q, Hp.set_self] at hB; cases hB
  rw [Hp.set_ne _ _ nBi] at hB
  have nBl : B ≠ l := fun q => by rw [q, hl] at hB; cases hB
  have nil : l ≠ it := fun q => by rw [q, hit] at hl; cases hl
  rw [hname]
  have up : ∀ c x, σ c = some x → c ≠ it ∧ c ≠ B ∧ ((σ.set it (liter l 0)).set B (.list [])) c = some x := fun c x e => by
    have h1 : c ≠ it := fun q => by rw [q, hit] at e; cases e
    have h2 : c ≠ B := fun q => by rw [q, hB] at e; cases e
    exact ⟨h1, h2, by rw [Hp.set_ne _ _ h2, Hp.set_ne _ _ h1]; exact e⟩
  refine wpAny_pure ⟨plainId_quiet F.plain_min_loop _, min_first (A := A) (l := l) a.hand (fun a b va vb σ' s Q h1 h2 h3 h4 h5 => hcmp a b va vb σ' s Q h1 h2 (fun c x e => let ⟨u1, u2, u3⟩ := up c x e; h3 c x u1 u2 u3) h4 h5) hitem hF nBi nBl r₂
    (by rw [Hp.set_ne _ _ nBi.symm]; exact Hp.set_self _ _ _) (by rw [Hp.set_ne _ _ nBl.symm, Hp.set_ne _ _ nil]; exact hl) (Hp.set_self _ _ _) fun v σ' s' hv r' hs => ?_⟩
  exact h v σ' s' hv (fun c x e => let ⟨u1, u2, u3⟩ := up c x e; hs c x u1 u2 u3) r'
theorem v_minN {x y : Value} {zs : List Value} {α : Type} {items : List α} {a0 : α} {G : α → Value → Prop} {bt : α → α → Bool} {Q : Value → Shared → Prop} (a : Act K none n A base (env :: fs.map (·.1))) (r : R prog w base os ((env, m) :: fs) σ s) (ha : argsOk "min" ⟨x :: y :: zs, []⟩) (hz : zs.length ≤ 10)
    (hitem : (x :: y :: zs).length = (a0 :: items).length) (hF : ∀ (i : Nat) a, (a0 :: items)[i]? = some a → ∃ v, (x :: y :: zs)[i]? = some v ∧ G a v)
    (hcmp : ∀ a b va vb (σ' : Hp) s Q, G a va → G b vb → (∀ c x, σ c = some x → σ' c = some x) → R prog w base os ((env, m) :: fs) σ' s → Q (.bool (bt a b)) s → wpAny (model prog w) A.in1 (richCompare .Lt va vb) Q (fun _ _ => False) s)
    (h : ∀ v σ' s', G (bestAt bt a0 items) v → (∀ c x, σ c = some x → σ' c = some x) → R prog w base os ((env, m) :: fs) σ' s' → Q v s') : wpAny (model prog w) A (call (.builtin "min") (x :: y :: zs)) Q E s := by
  have hname : (toString "min" ++ toString ".loop" : String) = "min.loop" := by decide
  refine call_function_tree F.kind_min F.plain_min F.entry_min ha ?_
  show wpAny _ A.in1 (Builtin.Builtins.bindParams "min" ["key", "default"] 0 ⟨[], []⟩ >>= _) _ _ s
  refine wpAny_bind (wpAny_of_eq (show Builtin.Builtins.bindParams "min" ["key", "default"] 0 ⟨[], []⟩ = pure [none, none] from rfl) ?_)
  show wpAny _ A.in1 (newTuple (x :: y :: zs) >>= _) _ _ s
  refine wpAny_bind (wpAny_newObj_type ?_ (by simp [sizeOk, sizeLine_eq]; omega))
  have hT := r.fresh
  have r₀ := r.push (o := { cls := .type "tuple", data := .seq (x :: y :: zs).toArray }) (x := .tup (x :: y :: zs)) (t := s.toks) (by simp) ⟨rfl, 0, rfl⟩
  generalize s.heap.objs.size = T at *
  refine wpAny_bind (wpAny_pyIter_tuple (r₀.isTuple (Hp.set_self _ _ _)) ?_)
  have hit := r₀.fresh
  have r₁ := r₀.push (o := { cls := .type "tuple_iterator", data := .fields #[.ref T, .int 0 0] }) (x := titer T 0) (t := s.toks) (by simp) ⟨rfl, rfl⟩
  refine wpAny_bind (wpAny_newObj_type ?_)
  have hB := r₁.fresh
  have r₂ := r₁.push (o := { cls := .type "list", data := .seq ([] : List Value).toArray }) (x := .list []) (t := s.toks) (by simp) ⟨0, rfl⟩
  dsimp only at hit hB r₁ r₂ ⊢
  generalize (Heap.push _ { cls := .type "tuple_iterator", dict := none, data := .fields #[.ref T, .int 0 0], slots := #[] }).objs.size = B at *
  generalize (Heap.push _ { cls := .type "tuple", dict := none, data := .seq (x :: y :: zs).toArray, slots := #[] }).objs.size = it at *
  have nTi : it ≠ T := fun q => by rw [q, Hp.set_self] at hit; cases hit
  have nBi : B ≠ it := fun q => by rw [q, Hp.set_self] at hB; cases hB
  rw [Hp.set_ne _ _ nBi] at hB
  have nBT : B ≠ T := fun q => by rw [q, Hp.set_self] at hB; cases hB
  rw [Hp.set_ne _ _ nBT] at hB
  rw [Hp.set_ne _ _ nTi] at hit
  rw [hname]
  have up : ∀ c x', σ c = some x' → c ≠ it ∧ c ≠ B ∧ (((σ.set T (.tup (x :: y :: zs))).set it (titer T 0)).set B (.list [])) c = some x' := fun c x' e => by
    have h1 : c ≠ it := fun q => by rw [q, hit] at e; cases e
    have h2 : c ≠ B := fun q => by rw [q, hB] at e; cases e
    have h3 : c ≠ T := fun q => by rw [q, hT] at e; cases e
    exact ⟨h1, h2, by rw [Hp.set_ne _ _ h2, Hp.set_ne _ _ h1, Hp.set_ne _ _ h3]; exact e⟩
  refine wpAny_pure ⟨plainId_quiet F.plain_min_loop _, min_firstT (A := A) (l := T) a.hand (fun a b va vb σ' s Q h1 h2 h3 h4 h5 => hcmp a b va vb σ' s Q h1 h2 (fun c x e => let ⟨u1, u2, u3⟩ := up c x e; h3 c x u1 u2 u3) h4 h5) hitem hF nBi nBT r₂
    (by rw [Hp.set_ne _ _ nBi.symm]; exact Hp.set_self _ _ _) (by rw [Hp.set_ne _ _ nBT.symm, Hp.set_ne _ _ nTi.symm]; exact Hp.set_self _ _ _) (Hp.set_self _ _ _) fun v σ' s' hv r' hs => ?_⟩
  exact h v σ' s' hv (fun c x e => let ⟨u1, u2, u3⟩ := up c x e; hs c x u1 u2 u3) r'
theorem tuple_gt_tree {xs ys : Array Value} {a b : Addr} {ns ms : List Int} {P : Fin → Shared → Prop} (ha : IsTup s.heap a xs) (hb : IsTup s.heap b ys) (hi : IntsAre xs.toList ns) (hj : IntsAre ys.toList ms) (h : P (.done (.ret (.bool (lexLt ms ns)))) s) :
    wpAny (model prog w) A (Builtin.«tuple.__gt__» ⟨[.ref a, .ref b], []⟩) P E s := by
  show wpAny _ _ (isInstance (.ref b) (.type "tuple") >>= _) _ _ s
  refine wpAny_bind (wpAny_isInstance hb.typeIs isSubtype_tuple_tuple ?_)
  simp only [Bool.not_true, Bool.false_eq_true, if_false]
  refine wpAny_bind (tupleItemsOf_ ha ?_)
  refine wpAny_bind (tupleItemsOf_ hb ?_)
  refine wpAny_bind ?_
  refine wpAny_forIn_list _
    (fun rest r s' => r.1 = none ∧ s' = s ∧ ∃ ns' ms' xs' ys', rest = List.zip xs' ys' ∧ IntsAre xs' ns' ∧ IntsAre ys' ms' ∧ lexLt ms' ns' = lexLt ms ns ∧ ∃ k, xs'.length + k = xs.size ∧ ys'.length + k = ys.size)
    _ ?_ ?_ _ _ ⟨rfl, rfl, ns, ms, xs.toList, ys.toList, rfl, hi, hj, rfl, 0, by simp, by simp⟩
  · rintro ⟨u, v⟩ rest r s' ⟨hr, rfl, x', y', xs', ys', hz, hx', hy', hdec, k, hk1, hk2⟩
    cases hx' with
    | nil => simp at hz
    | cons k1 t1 hx'' =>
      cases hy' with
      | nil => simp at hz
      | cons k2 t2 hy'' =>
        simp only [List.zip_cons_cons, List.cons.injEq, Prod.mk.injEq] at hz
        obtain ⟨⟨rfl, rfl⟩, rfl⟩ := hz
        refine wpAny_bind (wpAny_eqBool_int ?_)
        by_cases hk : k1 = k2
        · subst hk
          simp only [beq_self_eq_true, Bool.not_true, Bool.false_eq_true, if_false]
          refine wpAny_pure ⟨rfl, rfl, _, _, _, _, rfl, hx'', hy'', ?_, k + 1, by simp only [List.length_cons] at hk1; omega, by simp only [List.length_cons] at hk2; omega⟩
          rw [← hdec]; simp [lexLt]
        · rw [show (k1 == k2) = false from beq_eq_false_iff_ne.mpr hk]
          simp only [Bool.not_false, if_true]
          have hf : lexLt ms ns = decide (k1 > k2) := by rw [← hdec]; simp [lexLt, Ne.symm hk]
          rw [hf] at h
          refine wpAny_bind (wpAny_rule (wpAny_bind (CmpOf.ints_gt (P := fun i w => (i = 0 ∧ w = .int k1 t1) ∨ (i = 1 ∧ w = .int k2 t2)) (fun i => if i = 0 then k1 else k2) (fun i w hw => ?_) 0 1 _ _ _ _ _ (.inl ⟨rfl, rfl⟩) (.inr ⟨rfl, rfl⟩) ?_)))
          · rcases hw with ⟨rfl, rfl⟩ | ⟨rfl, rfl⟩
            · exact ⟨t1, rfl⟩
            · exact ⟨t2, rfl⟩
          · refine wpAny_pure (wpAny_pure ?_)
            simpa using h
  · rintro ⟨r1, r2⟩ s' ⟨hr, rfl, x', y', xs', ys', hz, hx', hy', hdec, k, hk1, hk2⟩
    simp only at hr
    subst hr
    refine wpAny_pure ?_
    show P (.done (.ret (.bool (decide (xs.size > ys.size))))) s'
    have hfin : decide (xs.size > ys.size) = lexLt ms ns := by
      rw [← hdec]
      cases hx' with
      | nil =>
        cases hy' with
        | nil => simp at hk1 hk2; simp [lexLt]; omega
        | cons _ _ => simp at hk1 hk2; simp [lexLt]; omega
      | cons _ _ =>
        cases hy' with
        | nil => simp at hk1 hk2; simp [lexLt]; omega
        | cons _ _ => simp at hz
    rw [hfin]; exact h
theorem cmp_tuple_gt {xs ys : Array Value} {a b : Addr} {ns ms : List Int} {Q : Value → Shared → Prop} (hu : A.units < cLine) (ha : IsTup s.heap a xs) (hb : IsTup s.heap b ys) (hi : IntsAre xs.toList ns) (hj : IntsAre ys.toList ms) (h : Q (.bool (lexLt ms ns)) s) :
    wpAny (model prog w) A (richCompare .Gt (.ref a) (.ref b)) Q E s :=
  wpAny_richCompare_same_room ha.typeIs hb.typeIs F.slot_tuple_gt
    (wpAny_call_entry F.slot_tuple_gt ha.typeIs F.entry_tuple_gt (tuple_gt_tree (E := E) ha hb hi hj ⟨_, rfl, (by intro q; cases q), h⟩) (F.args_tuple_gt_2 _ _)) hu

theorem max_loop {it l : Addr} {xs : List Value} {α : Type} {items : List α} {G : α → Value → Prop} {bt : α → α → Bool} {B : Addr} {R' : Result → Shared → Prop} {base : Heap} {os : OsState} {fs : List (Env × Nm)} (hh : A.handled = none)
    (hcmp : ∀ a b va vb (σ' : Hp) s Q, G a va → G b vb → (∀ c x, c ≠ it → c ≠ B → σ c = some x → σ' c = some x) → R prog w base os fs σ' s → Q (.bool (bt a b)) s → wpAny (model prog w) A.in1 (richCompare .Gt va vb) Q (fun _ _ => False) s)
    (hitem : xs.length = items.length) (hF : ∀ (i : Nat) a, items[i]? = some a → ∃ v, xs[i]? = some v ∧ G a v) (hBi : B ≠ it) (hBl : B ≠ l) :
    ∀ (k j : Nat) (best : α) (vb : Value) (σ' : Hp) (s : Shared), items.length - (j + 1) = k → j + 1 ≤ items.length → G best vb → R prog w base os fs σ' s → σ' it = some (liter l (j + 1)) → σ' l = some (.list xs) → σ' B = some (.list [vb, vb]) →
    (∀ c x, c ≠ it → c ≠ B → σ c = some x → σ' c = some x) →
    (∀ v σ'' s'', G (bestAt bt best (items.drop (j + 1))) v → R prog w base os fs σ'' s'' → (∀ c x, c ≠ it → c ≠ B → σ c = some x → σ'' c = some x) → R' (.ok (.ret v)) s'') →
    codeAny (model prog w) A (.builtin "max.loop" ⟨[.ref it, .none, .ref B], []⟩) R' s := by
  have hname : (toString "max" ++ toString ".loop" : String) = "max.loop" := by decide
  intro k
  induction k with
  | zero =>
    intro j best vb σ' s hk hj hb r hi hl hB hs hR
    have hin : j + 1 = items.length := by omega
    refine codeAny_builtin F.entry_max_loop ?_
    rw [Around.under_plainId F.plain_max_loop _]
    obtain ⟨c0, hB0⟩ := r.isL hB
    show wpAny _ A.in1 (seqItems? (.ref B) >>= _) _ _ s
    refine wpAny_bind (wpAny_seqItems hB0 rfl ?_)
    show wpAny _ A.in1 (tryCatch (pyNext (.ref it)) _ >>= _) _ _ s
    refine wpAny_bind (wpAny_tryCatch (wpAny_pyNext_list_end hh (r.listIter hi) (r.isList hl) (by simp [hitem]; omega) fun h' he => ?_))
    have r1 := r.extBut (t := s.toks) (l := [it]) hi (.head _) he
    have hB1 : (σ'.del [it]) B = some (.list [vb, vb]) := by rw [Hp.del_ne _ (by simpa using hBi)]; exact hB
    obtain ⟨c1, hB2⟩ := r1.isL hB1
    show wpAny _ A.in1 (updateSeq B (fun _ => #[]) >>= _) _ _ _
    refine wpAny_bind ?_
    refine wpAny_updateSeq hB2 rfl (wpAny_bind (wpAny_letGo (wpAny_pure ?_)))
    have r2 := r1.updL (t := s.toks) (ys := []) hB1 hB2 (fun _ => #[]) rfl
    refine hR vb _ _ (by rw [List.drop_of_length_le (by omega)]; exact hb) r2 fun c x c1 c2 e => ?_
    rw [Hp.set_ne _ _ c2, Hp.del_ne _ (by simpa using c1)]
    exact hs c x c1 c2 e
  | succ k ih =>
    intro j best vb σ' s hk hj hb r hi hl hB hs hR
    have hlt : j + 1 < items.length := by omega
    refine codeAny_builtin F.entry_max_loop ?_
    rw [Around.under_plainId F.plain_max_loop _]
    obtain ⟨c0, hB0⟩ := r.isL hB
    show wpAny _ A.in1 (seqItems? (.ref B) >>= _) _ _ s
    refine wpAny_bind (wpAny_seqItems hB0 rfl ?_)
    show wpAny _ A.in1 (tryCatch (pyNext (.ref it)) _ >>= _) _ _ s
    obtain ⟨v, hv, hFv⟩ := hF (j + 1) items[j + 1] (List.getElem?_eq_getElem hlt)
    refine wpAny_bind (wpAny_tryCatch (wpAny_pyNext_list_item (r.listIter hi) (r.isList hl) (x := v) (by simpa using hv) fun h' hit hs' => ?_))
    obtain ⟨o, q1, q2, q3⟩ := hit
    have r1 := r.upd (x := liter l (j + 1 + 1)) (t := s.toks) hi hs' q1 ⟨q2, q3⟩
    have s1 : ∀ c x, c ≠ it → c ≠ B → σ c = some x → (σ'.set it (liter l (j + 1 + 1))) c = some x := fun c x c1 c2 e => by rw [Hp.set_ne _ _ c1]; exact hs c x c1 c2 e
    have hil : it ≠ l := fun q => by rw [q, hl] at hi; cases hi
    have hB1 : (σ'.set it (liter l (j + 1 + 1))) B = some (.list [vb, vb]) := by rw [Hp.set_ne _ _ hBi]; exact hB
    have hl1 : (σ'.set it (liter l (j + 1 + 1))) l = some (.list xs) := by rw [Hp.set_ne _ _ hil.symm]; exact hl
    show wpAny _ A.in1 (tryCatch (holding [v, v] (richCompare .Gt v vb >>= _)) _ >>= _) _ _ _
    refine wpAny_bind (wpAny_tryCatch (wpAny_holding (wpAny_bind (wpAny_mono (hcmp _ _ v vb _ _ (fun bv s' => bv = .bool (bt items[j + 1] best) ∧ s' = _) hFv hb s1 r1 ⟨rfl, rfl⟩) (fun bv s' h' => ?_) fun _ _ x => x.elim))))
    obtain ⟨rfl, rfl⟩ := h'
    refine wpAny_bind (wpAny_holding (wpAny_truthy_bool ?_))
    refine wpAny_bind (wpAny_letGo (wpAny_pure ?_))
    have hd : bestAt bt best (items.drop (j + 1)) = bestAt bt (if bt items[j + 1] best then items[j + 1] else best) (items.drop (j + 1 + 1)) := by
      rw [List.drop_eq_getElem_cons hlt]; rfl
    rw [hd] at hR
    cases hbt : bt items[j + 1] best with
    | true =>
      simp only [if_true]
      obtain ⟨c1, hB2⟩ := r1.isL hB1
      refine wpAny_bind ?_
      refine wpAny_updateSeq hB2 rfl (wpAny_bind (wpAny_letGo ?_))
      rw [hname]
      have r2 := r1.updL (t := s.toks) (ys := [v, v]) hB1 hB2 (fun _ => #[v, v]) rfl
      rw [hbt] at hR
      simp only [if_true] at hR
      refine wpAny_pure ⟨plainId_quiet F.plain_max_loop _, ih (j + 1) items[j + 1] v _ _ (by omega) hlt hFv r2 (by rw [Hp.set_ne _ _ hBi.symm]; exact Hp.set_self _ _ _) (by rw [Hp.set_ne _ _ hBl.symm]; exact hl1) (Hp.set_self _ _ _)
        (fun c x c1 c2 e => by rw [Hp.set_ne _ _ c2]; exact s1 c x c1 c2 e) hR⟩
    | false =>
      simp only [Bool.false_eq_true, if_false]
      refine wpAny_bind (wpAny_letGo ?_)
      rw [hname]
      rw [hbt] at hR
      simp only [Bool.false_eq_true, if_false] at hR
      exact wpAny_pure ⟨plainId_quiet F.plain_max_loop _, ih (j + 1) best vb _ _ (by omega) hlt hb r1 (Hp.set_self _ _ _) hl1 hB1 s1 hR⟩
theorem max_first {it l : Addr} {xs : List Value} {α : Type} {items : List α} {G : α → Value → Prop} {bt : α → α → Bool} {B : Addr} {R' : Result → Shared → Prop} {base : Heap} {os : OsState} {fs : List (Env × Nm)} {a0 : α} {s : Shared} (hh : A.handled = none)
    (hcmp : ∀ a b va vb (σ' : Hp) s Q, G a va → G b vb → (∀ c x, c ≠ it → c ≠ B → σ c = some x → σ' c = some x) → R prog w base os fs σ' s → Q (.bool (bt a b)) s → wpAny (model prog w) A.in1 (richCompare .Gt va vb) Q (fun _ _ => False) s)
    (hitem : xs.length = (a0 :: items).length) (hF : ∀ (i : Nat) a, (a0 :: items)[i]? = some a → ∃ v, xs[i]? = some v ∧ G a v) (hBi : B ≠ it) (hBl : B ≠ l)
    (r : R prog w base os fs σ s) (hi : σ it = some (liter l 0)) (hl : σ l = some (.list xs)) (hB : σ B = some (.list []))
    (hR : ∀ v σ'' s'', G (bestAt bt a0 items) v → R prog w base os fs σ'' s'' → (∀ c x, c ≠ it → c ≠ B → σ c = some x → σ'' c = some x) → R' (.ok (.ret v)) s'') :
    codeAny (model prog w) A (.builtin "max.loop" ⟨[.ref it, .none, .ref B], []⟩) R' s := by
  have hname : (toString "max" ++ toString ".loop" : String) = "max.loop" := by decide
  refine codeAny_builtin F.entry_max_loop ?_
  rw [Around.under_plainId F.plain_max_loop _]
  obtain ⟨c0, hB0⟩ := r.isL hB
  show wpAny _ A.in1 (seqItems? (.ref B) >>= _) _ _ s
  refine wpAny_bind (wpAny_seqItems hB0 rfl ?_)
  show wpAny _ A.in1 (tryCatch (pyNext (.ref it)) _ >>= _) _ _ s
  obtain ⟨v, hv, hFv⟩ := hF 0 a0 rfl
  refine wpAny_bind (wpAny_tryCatch (wpAny_pyNext_list_item (r.listIter hi) (r.isList hl) (x := v) (by simpa using hv) fun h' hit hs' => ?_))
  obtain ⟨o, q1, q2, q3⟩ := hit
  have r1 := r.upd (x := liter l (0 + 1)) (t := s.toks) hi hs' q1 ⟨q2, q3⟩
  have hil : it ≠ l := fun q => by rw [q, hl] at hi; cases hi
  have hB1 : (σ.set it (liter l (0 + 1))) B = some (.list []) := by rw [Hp.set_ne _ _ hBi]; exact hB
  have hl1 : (σ.set it (liter l (0 + 1))) l = some (.list xs) := by rw [Hp.set_ne _ _ hil.symm]; exact hl
  obtain ⟨c1, hB2⟩ := r1.isL hB1
  show wpAny _ A.in1 (updateSeq B (fun _ => #[v, v]) >>= _) _ _ _
  refine wpAny_bind ?_
  refine wpAny_updateSeq hB2 rfl ?_
  rw [hname]
  have r2 := r1.updL (t := s.toks) (ys := [v, v]) hB1 hB2 (fun _ => #[v, v]) rfl
  exact wpAny_pure ⟨plainId_quiet F.plain_max_loop _, max_loop (σ := σ) (items := a0 :: items) hh hcmp hitem hF hBi hBl _ 0 a0 v _ _ rfl (by simp) hFv r2 (by rw [Hp.set_ne _ _ hBi.symm]; exact Hp.set_self _ _ _) (by rw [Hp.set_ne _ _ hBl.symm]; exact hl1) (Hp.set_self _ _ _)
    (fun c x c1 c2 e => by rw [Hp.set_ne _ _ c2, Hp.set_ne _ _ c1]; exact e) hR⟩
theorem max_loopT {it l : Addr} {xs : List Value} {α : Type} {items : List α} {G : α → Value → Prop} {bt : α → α → Bool} {B : Addr} {R' : Result → Shared → Prop} {base : Heap} {os : OsState} {fs : List (Env × Nm)} (hh : A.handled = none)
    (hcmp : ∀ a b va vb (σ' : Hp) s Q, G a va → G b vb → (∀ c x, c ≠ it → c ≠ B → σ c = some x → σ' c = some x) → R prog w base os fs σ' s → Q (.bool (bt a b)) s → wpAny (model prog w) A.in1 (richCompare .Gt va vb) Q (fun _ _ => False) s)
    (hitem : xs.length = items.length) (hF : ∀ (i : Nat) a, items[i]? = some a → ∃ v, xs[i]? = some v ∧ G a v) (hBi : B ≠ it) (hBl : B ≠ l) :
    ∀ (k j : Nat) (best : α) (vb : Value) (σ' : Hp) (s : Shared), items.length - (j + 1) = k → j + 1 ≤ items.length → G best vb → R prog w base os fs σ' s → σ' it = some (titer l (j + 1)) → σ' l = some (.tup xs) → σ' B = some (.list [vb, vb]) →
    (∀ c x, c ≠ it → c ≠ B → σ c = some x → σ' c = some x) →
    (∀ v σ'' s'', G (bestAt bt best (items.drop (j + 1))) v → R prog w base os fs σ'' s'' → (∀ c x, c ≠ it → c ≠ B → σ c = some x → σ'' c = some x) → R' (.ok (.ret v)) s'') →
    codeAny (model prog w) A (.builtin "max.loop" ⟨[.ref it, .none, .ref B], []⟩) R' s := by
  have hname : (toString "max" ++ toString ".loop" : String) = "max.loop" := by decide
  intro k
  induction k with
  | zero =>
    intro j best vb σ' s hk hj hb r hi hl hB hs hR
    have hin : j + 1 = items.length := by omega
    refine codeAny_builtin F.entry_max_loop ?_
    rw [Around.under_plainId F.plain_max_loop _]
    obtain ⟨c0, hB0⟩ := r.isL hB
    show wpAny _ A.in1 (seqItems? (.ref B) >>= _) _ _ s
    refine wpAny_bind (wpAny_seqItems hB0 rfl ?_)
    show wpAny _ A.in1 (tryCatch (pyNext (.ref it)) _ >>= _) _ _ s
    refine wpAny_bind (wpAny_tryCatch (wpAny_pyNext_tuple_end hh (r.tupIter hi) (r.isTuple hl) (by simp [hitem]; omega) fun h' he => ?_))
    have r1 := r.extBut (t := s.toks) (l := [it]) hi (.head _) he
    have hB1 : (σ'.del [it]) B = some (.list [vb, vb]) := by rw [Hp.del_ne _ (by simpa using hBi)]; exact hB
    obtain ⟨c1, hB2⟩ := r1.isL hB1
    show wpAny _ A.in1 (updateSeq B (fun _ => #[]) >>= _) _ _ _
    refine wpAny_bind ?_
    refine wpAny_updateSeq hB2 rfl (wpAny_bind (wpAny_letGo (wpAny_pure ?_)))
    have r2 := r1.updL (t := s.toks) (ys := []) hB1 hB2 (fun _ => #[]) rfl
    refine hR vb _ _ (by rw [List.drop_of_length_le (by omega)]; exact hb) r2 fun c x c1 c2 e => ?_
    rw [Hp.set_ne _ _ c2, Hp.del_ne _ (by simpa using c1)]
    exact hs c x c1 c2 e
  | succ k ih =>
    intro j best vb σ' s hk hj hb r hi hl hB hs hR
    have hlt : j + 1 < items.length := by omega
    refine codeAny_builtin F.entry_max_loop ?_
    rw [Around.under_plainId F.plain_max_loop _]
    obtain ⟨c0, hB0⟩ := r.isL hB
    show wpAny _ A.in1 (seqItems? (.ref B) >>= _) _ _ s
    refine wpAny_bind (wpAny_seqItems hB0 rfl ?_)
    show wpAny _ A.in1 (tryCatch (pyNext (.ref it)) _ >>= _) _ _ s
    obtain ⟨v, hv, hFv⟩ := hF (j + 1) items[j + 1] (List.getElem?_eq_getElem hlt)
    refine wpAny_bind (wpAny_tryCatch (wpAny_pyNext_tuple_item (r.tupIter hi) (r.isTuple hl) (x := v) (by simpa using hv) fun h' hit hs' => ?_))
    obtain ⟨o, q1, q2, q3⟩ := hit
    have r1 := r.upd (x := titer l (j + 1 + 1)) (t := s.toks) hi hs' q1 ⟨q2, q3⟩
    have s1 : ∀ c x, c ≠ it → c ≠ B → σ c = some x → (σ'.set it (titer l (j + 1 + 1))) c = some x := fun c x c1 c2 e => by rw [Hp.set_ne _ _ c1]; exact hs c x c1 c2 e
    have hil : it ≠ l := fun q => by rw [q, hl] at hi; cases hi
    have hB1 : (σ'.set it (titer l (j + 1 + 1))) B = some (.list [vb, vb]) := by rw [Hp.set_ne _ _ hBi]; exact hB
    have hl1 : (σ'.set it (titer l (j + 1 + 1))) l = some (.tup xs) := by rw [Hp.set_ne _ _ hil.symm]; exact hl
    show wpAny _ A.in1 (tryCatch (holding [v, v] (richCompare .Gt v vb >>= _)) _ >>= _) _ _ _
    refine wpAny_bind (wpAny_tryCatch (wpAny_holding (wpAny_bind (wpAny_mono (hcmp _ _ v vb _ _ (fun bv s' => bv = .bool (bt items[j + 1] best) ∧ s' = _) hFv hb s1 r1 ⟨rfl, rfl⟩) (fun bv s' h' => ?_) fun _ _ x => x.elim))))
    obtain ⟨rfl, rfl⟩ := h'
    refine wpAny_bind (wpAny_holding (wpAny_truthy_bool ?_))
    refine wpAny_bind (wpAny_letGo (wpAny_pure ?_))
    have hd : bestAt bt best (items.drop (j + 1)) = bestAt bt (if bt items[j + 1] best then items[j + 1] else best) (items.drop (j + 1 + 1)) := by
      rw [List.drop_eq_getElem_cons hlt]; rfl
    rw [hd] at hR
    cases hbt : bt items[j + 1] best with
    | true =>
      simp only [if_true]
      obtain ⟨c1, hB2⟩ := r1.isL hB1
      refine wpAny_bind ?_
      refine wpAny_updateSeq hB2 rfl (wpAny_bind (wpAny_letGo ?_))
      rw [hname]
      have r2 := r1.updL (t := s.toks) (ys := [v, v]) hB1 hB2 (fun _ => #[v, v]) rfl
      rw [hbt] at hR
      simp only [if_true] at hR
      refine wpAny_pure ⟨plainId_quiet F.plain_max_loop _, ih (j + 1) items[j + 1] v _ _ (by omega) hlt hFv r2 (by rw [Hp.set_ne _ _ hBi.symm]; exact Hp.set_self _ _ _) (by rw [Hp.set_ne _ _ hBl.symm]; exact hl1) (Hp.set_self _ _ _)
        (fun c x c1 c2 e => by rw [Hp.set_ne _ _ c2]; exact s1 c x c1 c2 e) hR⟩
    | false =>
      simp only [Bool.false_eq_true, if_false]
      refine wpAny_bind (wpAny_letGo ?_)
      rw [hname]
      rw [hbt] at hR
      simp only [Bool.false_eq_true, if_false] at hR
      exact wpAny_pure ⟨plainId_quiet F.plain_max_loop _, ih (j + 1) best vb _ _ (by omega) hlt hb r1 (Hp.set_self _ _ _) hl1 hB1 s1 hR⟩
theorem max_firstT {it l : Addr} {xs : List Value} {α : Type} {items : List α} {G : α → Value → Prop} {bt : α → α → Bool} {B : Addr} {R' : Result → Shared → Prop} {base : Heap} {os : OsState} {fs : List (Env × Nm)} {a0 : α} {s : Shared} (hh : A.handled = none)
    (hcmp : ∀ a b va vb (σ' : Hp) s Q, G a va → G b vb → (∀ c x, c ≠ it → c ≠ B → σ c = some x → σ' c = some x) → R prog w base os fs σ' s → Q (.bool (bt a b)) s → wpAny (model prog w) A.in1 (richCompare .Gt va vb) Q (fun _ _ => False) s)
    (hitem : xs.length = (a0 :: items).length) (hF : ∀ (i : Nat) a, (a0 :: items)[i]? = some a → ∃ v, xs[i]? = some v ∧ G a v) (hBi : B ≠ it) (hBl : B ≠ l)
    (r : R prog w base os fs σ s) (hi : σ it = some (titer l 0)) (hl : σ l = some (.tup xs)) (hB : σ B = some (.list []))
    (hR : ∀ v σ'' s'', G (bestAt bt a0 items) v → R prog w base os fs σ'' s'' → (∀ c x, c ≠ it → c ≠ B → σ c = some x → σ'' c = some x) → R' (.ok (.ret v)) s'') :
    codeAny (model prog w) A (.builtin "max.loop" ⟨[.ref it, .none, .ref B], []⟩) R' s := by
  have hname : (toString "max" ++ toString ".loop" : String) = "max.loop" := by decide
  refine codeAny_builtin F.entry_max_loop ?_
  rw [Around.under_plainId F.plain_max_loop _]
  obtain ⟨c0, hB0⟩ := r.isL hB
  show wpAny _ A.in1 (seqItems? (.ref B) >>= _) _ _ s
  refine wpAny_bind (wpAny_seqItems hB0 rfl ?_)
  show wpAny _ A.in1 (tryCatch (pyNext (.ref it)) _ >>= _) _ _ s
  obtain ⟨v, hv, hFv⟩ := hF 0 a0 rfl
  refine wpAny_bind (wpAny_tryCatch (wpAny_pyNext_tuple_item (r.tupIter hi) (r.isTuple hl) (x := v) (by simpa using hv) fun h' hit hs' => ?_))
  obtain ⟨o, q1, q2, q3⟩ := hit
  have r1 := r.upd (x := titer l (0 + 1)) (t := s.toks) hi hs' q1 ⟨q2, q3⟩
  have hil : it ≠ l := fun q => by rw [q, hl] at hi; cases hi
  have hB1 : (σ.set it (titer l (0 + 1))) B = some (.list []) := by rw [Hp.set_ne _ _ hBi]; exact hB
  have hl1 : (σ.set it (titer l (0 + 1))) l = some (.tup xs) := by rw [Hp.set_ne _ _ hil.symm]; exact hl
  obtain ⟨c1, hB2⟩ := r1.isL hB1
  show wpAny _ A.in1 (updateSeq B (fun _ => #[v, v]) >>= _) _ _ _
  refine wpAny_bind ?_
  refine wpAny_updateSeq hB2 rfl ?_
  rw [hname]
  have r2 := r1.updL (t := s.toks) (ys := [v, v]) hB1 hB2 (fun _ => #[v, v]) rfl
  exact wpAny_pure ⟨plainId_quiet F.plain_max_loop _, max_loopT (σ := σ) (items := a0 :: items) hh hcmp hitem hF hBi hBl _ 0 a0 v _ _ rfl (by simp) hFv r2 (by rw [Hp.set_ne _ _ hBi.symm]; exact Hp.set_self _ _ _) (by rw [Hp.set_ne _ _ hBl.symm]; exact hl1) (Hp.set_self _ _ _)
    (fun c x c1 c2 e => by rw [Hp.set_ne _ _ c2, Hp.set_ne _ _ c1]; exact e) hR⟩
theorem v_max {l : Addr} {xs : List Value} {α : Type} {items : List α} {a0 : α} {G : α → Value → Prop} {bt : α → α → Bool} {Q : Value → Shared → Prop} (a : Act K none n A base (env :: fs.map (·.1))) (r : R prog w base os ((env, m) :: fs) σ s) (hl : σ l = some (.list xs))
    (hitem : xs.length = (a0 :: items).length) (hF : ∀ (i : Nat) a, (a0 :: items)[i]? = some a → ∃ v, xs[i]? = some v ∧ G a v)
    (hcmp : ∀ a b va vb (σ' : Hp) s Q, G a va → G b vb → (∀ c x, σ c = some x → σ' c = some x) → R prog w base os ((env, m) :: fs) σ' s → Q (.bool (bt a b)) s → wpAny (model prog w) A.in1 (richCompare .Gt va vb) Q (fun _ _ => False) s)
    (h : ∀ v σ' s', G (bestAt bt a0 items) v → (∀ c x, σ c = some x → σ' c = some x) → R prog w base os ((env, m) :: fs) σ' s' → Q v s') : wpAny (model prog w) A (call (.builtin "max") [.ref l]) Q E s := by
  have hname : (toString "max" ++ toString ".loop" : String) = "max.loop" := by decide
  refine call_function_tree F.kind_max F.plain_max F.entry_max (F.args_max1 _) ?_
  show wpAny _ A.in1 (Builtin.Builtins.bindParams "max" ["key", "default"] 0 ⟨[], []⟩ >>= _) _ _ s
  refine wpAny_bind (wpAny_of_eq (show Builtin.Builtins.bindParams "max" ["key", "default"] 0 ⟨[], []⟩ = pure [none, none] from rfl) ?_)
  refine wpAny_bind (wpAny_pure ?_)
  refine wpAny_bind (v_iterL r hl fun it s₁ hit r₁ => ?_)
  refine wpAny_bind (wpAny_newObj_type ?_)
  have hB := r₁.fresh
  have r₂ := r₁.push (o := { cls := .type "list", data := .seq ([] : List Value).toArray }) (x := .list []) (t := s₁.toks) (by simp) ⟨0, rfl⟩
  generalize s₁.heap.objs.size = B at *
  have nBi : B ≠ it := fun q => by rw [q, Hp.set_self] at hB; cases hB
  rw [Hp.set_ne _ _ nBi] at hB
  have nBl : B ≠ l := fun q => by rw [q, hl] at hB; cases hB
  have nil : l ≠ it := fun q => by rw [q, hit] at hl; cases hl
  rw [hname]
  have up : ∀ c x, σ c = some x → c ≠ it ∧ c ≠ B ∧ ((σ.set it (liter l 0)).set B (.list [])) c = some x := fun c x e => by
    have h1 : c ≠ it := fun q => by rw [q, hit] at e; cases e
    have h2 : c ≠ B := fun q => by rw [q, hB] at e; cases e
    exact ⟨h1, h2, by rw [Hp.set_ne _ _ h2, Hp.set_ne _ _ h1]; exact e⟩
  refine wpAny_pure ⟨plainId_quiet F.plain_max_loop _, max_first (A := A) (l := l) a.hand (fun a b va vb σ' s Q h1 h2 h3 h4 h5 => hcmp a b va vb σ' s Q h1 h2 (fun c x e => let ⟨u1, u2, u3⟩ := up c x e; h3 c x u1 u2 u3) h4 h5) hitem hF nBi nBl r₂
    (by rw [Hp.set_ne _ _ nBi.symm]; exact Hp.set_self _ _ _) (by rw [Hp.set_ne _ _ nBl.symm, Hp.set_ne _ _ nil]; exact hl) (Hp.set_self _ _ _) fun v σ' s' hv r' hs => ?_⟩
  exact h v σ' s' hv (fun c x e => let ⟨u1, u2, u3⟩ := up c x e; hs c x u1 u2 u3) r'
theorem v_maxN {x y : Value} {zs : List Value} {α : Type} {items : List α} {a0 : α} {G : α → Value → Prop} {bt : α → α → Bool} {Q : Value → Shared → Prop} (a : Act K none n A base (env :: fs.map (·.1))) (r : R prog w base os ((env, m) :: fs) σ s) (ha : argsOk "max" ⟨x :: y :: zs, []⟩) (hz : zs.length ≤ 10)
    (hitem : (x :: y :: zs).length = (a0 :: items).length) (hF : ∀ (i : Nat) a, (a0 :: items)[i]? = some a → ∃ v, (x :: y :: zs)[i]? = some v ∧ G a v)
    (hcmp : ∀ a b va vb (σ' : Hp) s Q, G a va → G b vb → (∀ c x, σ c = some x → σ' c = some x) → R prog w base os ((env, m) :: fs) σ' s → Q (.bool (bt a b)) s → wpAny (model prog w) A.in1 (richCompare .Gt va vb) Q (fun _ _ => False) s)
    (h : ∀ v σ' s', G (bestAt bt a0 items) v → (∀ c x, σ c = some x → σ' c = some x) → R prog w base os ((env, m) :: fs) σ' s' → Q v s') : wpAny (model prog w) A (call (.builtin "max") (x :: y :: zs)) Q E s := by
  have hname : (toString "max" ++ toString ".loop" : String) = "max.loop" := by decide
  refine call_function_tree F.kind_max F.plain_max F.entry_max ha ?_
  show wpAny _ A.in1 (Builtin.Builtins.bindParams "max" ["key", "default"] 0 ⟨[], []⟩ >>= _) _ _ s
  refine wpAny_bind (wpAny_of_eq (show Builtin.Builtins.bindParams "max" ["key", "default"] 0 ⟨[], []⟩ = pure [none, none] from rfl) ?_)
  show wpAny _ A.in1 (newTuple (x :: y :: zs) >>= _) _ _ s
  refine wpAny_bind (wpAny_newObj_type ?_ (by simp [sizeOk, sizeLine_eq]; omega))
  have hT := r.fresh
  have r₀ := r.push (o := { cls := .type "tuple", data := .seq (x :: y :: zs).toArray }) (x := .tup (x :: y :: zs)) (t := s.toks) (by simp) ⟨rfl, 0, rfl⟩
  generalize s.heap.objs.size = T at *
  refine wpAny_bind (wpAny_pyIter_tuple (r₀.isTuple (Hp.set_self _ _ _)) ?_)
  have hit := r₀.fresh
  have r₁ := r₀.push (o := { cls := .type "tuple_iterator", data := .fields #[.ref T, .int 0 0] }) (x := titer T 0) (t := s.toks) (by simp) ⟨rfl, rfl⟩
  refine wpAny_bind (wpAny_newObj_type ?_)
  have hB := r₁.fresh
  have r₂ := r₁.push (o := { cls := .type "list", data := .seq ([] : List Value).toArray }) (x := .list []) (t := s.toks) (by simp) ⟨0, rfl⟩
  dsimp only at hit hB r₁ r₂ ⊢
  generalize (Heap.push _ { cls := .type "tuple_iterator", dict := none, data := .fields #[.ref T, .int 0 0], slots := #[] }).objs.size = B at *
  generalize (Heap.push _ { cls := .type "tuple", dict := none, data := .seq (x :: y :: zs).toArray, slots := #[] }).objs.size = it at *
  have nTi : it ≠ T := fun q => by rw [q, Hp.set_self] at hit; cases hit
  have nBi : B ≠ it := fun q => by rw [q, Hp.set_self] at hB; cases hB
  rw [Hp.set_ne _ _ nBi] at hB
  have nBT : B ≠ T := fun q => by rw [q, Hp.set_self] at hB; cases hB
  rw [Hp.set_ne _ _ nBT] at hB
  rw [Hp.set_ne _ _ nTi] at hit
  rw [hname]
  have up : ∀ c x', σ c = some x' → c ≠ it ∧ c ≠ B ∧ (((σ.set T (.tup (x :: y :: zs))).set it (titer T 0)).set B (.list [])) c = some x' := fun c x' e => by
    have h1 : c ≠ it := fun q => by rw [q, hit] at e; cases e
    have h2 : c ≠ B := fun q => by rw [q, hB] at e; cases e
    have h3 : c ≠ T := fun q => by rw [q, hT] at e; cases e
    exact ⟨h1, h2, by rw [Hp.set_ne _ _ h2, Hp.set_ne _ _ h1, Hp.set_ne _ _ h3]; exact e⟩
  refine wpAny_pure ⟨plainId_quiet F.plain_max_loop _, max_firstT (A := A) (l := T) a.hand (fun a b va vb σ' s Q h1 h2 h3 h4 h5 => hcmp a b va vb σ' s Q h1 h2 (fun c x e => let ⟨u1, u2, u3⟩ := up c x e; h3 c x u1 u2 u3) h4 h5) hitem hF nBi nBT r₂
    (by rw [Hp.set_ne _ _ nBi.symm]; exact Hp.set_self _ _ _) (by rw [Hp.set_ne _ _ nBT.symm, Hp.set_ne _ _ nTi.symm]; exact Hp.set_self _ _ _) (Hp.set_self _ _ _) fun v σ' s' hv r' hs => ?_⟩
  exact h v σ' s' hv (fun c x e => let ⟨u1, u2, u3⟩ := up c x e; hs c x u1 u2 u3) r'

end
end Mine
namespace Mine
section
variable {prog : Program} {w : World} {K : Frag} {H : Option Value} {n : Nat} {A : Around} {base : Heap} {env : Env} {os : OsState} {fs : List (Env × Nm)} {m : Nm} {σ : Hp} {s : Shared}
  {E : Value → Shared → Prop}

theorem R.isTup' {fs : List (Env × Nm)} {d : Addr} {xs : List Value} (r : R prog w base os fs σ s) (e : σ d = some (.tup xs)) : IsTup s.heap d xs.toArray := r.isTuple e

theorem v_slice {value slice : Expr} {l : Addr} {xs : List Value} {vl vu : Value} {lo hi : Option Int} {Q : Value → Shared → Prop} (r : R prog w base os ((env, m) :: fs) σ s) (hl : σ l = some (.list xs)) (hz : xs.length ≤ 100000) (pl : IsPart vl lo) (pu : IsPart vu hi)
    (h : ∀ d s', σ d = none → R prog w base os ((env, m) :: fs) (σ.set d (.list (slicePick xs.toArray lo hi none).toList)) s' → Q (.ref d) s')
    (hs : subscripted slice false (.ref l) (.ref s.heap.objs.size) = operate [.ref s.heap.objs.size, .ref l] (getItem (.ref l) (.ref s.heap.objs.size)) := by with_unfolding_all rfl)
    (ht : ∀ r, letTemporaryGo value (.ref l) r = pure () := by intro _; with_unfolding_all rfl) :
    wpAny (model prog w) A (subscriptTail value slice (.ref l) (.ref s.heap.objs.size)) Q E { s with heap := s.heap.push { cls := .type "slice", data := .fields #[vl, vu, .none] } } :=
  slice_list r.F (r.ledger_news (s.heap.objs.size + 1)) (r.isList hl) pl pu (fun h' F' N' => by
    obtain ⟨q1, q2⟩ := r.of_new (t := s.toks) (x := .list (slicePick xs.toArray lo hi none).toList) (Nat.le_succ _) F' N' ⟨0, by simp⟩
    exact h _ _ q1 q2) hs ht (by rw [sizeLine_eq]; simp; omega)
theorem v_slicelo {lo : Expr} {x1 : Pos} {Q : Value → Shared → Prop}
    (h : wpAny (model prog w) A (eval lo env) (fun vl s₁ => Q (.ref s₁.heap.objs.size) { s₁ with heap := s₁.heap.push { cls := .type "slice", data := .fields #[vl, .none, .none] } }) E s) :
    wpAny (model prog w) A (eval (.Slice (some lo) none none x1) env) Q E s := by
  rw [arm_eval_Slice]
  refine wpAny_bind (m := valueOrNone (evalOpt (some lo) env)) (wpAny_mono (show wpAny (model prog w) A (eval lo env) _ E s from h) (fun vl s₁ h₁ => ?_) fun _ _ e => e)
  refine wpAny_bind (wpAny_holding (m := valueOrNone (evalOpt none env)) (wpAny_pure ?_))
  refine wpAny_bind (wpAny_holding (m := valueOrNone (evalOpt none env)) (wpAny_pure ?_))
  exact wpAny_newObj_type h₁
theorem v_slicehi {hi : Expr} {x1 : Pos} {Q : Value → Shared → Prop}
    (h : wpAny (model prog w) A (eval hi env) (fun vu s₁ => Q (.ref s₁.heap.objs.size) { s₁ with heap := s₁.heap.push { cls := .type "slice", data := .fields #[.none, vu, .none] } }) E s) :
    wpAny (model prog w) A (eval (.Slice none (some hi) none x1) env) Q E s := by
  rw [arm_eval_Slice]
  refine wpAny_bind (m := valueOrNone (evalOpt none env)) (wpAny_pure ?_)
  refine wpAny_bind (wpAny_holding (m := valueOrNone (evalOpt (some hi) env)) (wpAny_mono (show wpAny (model prog w) A (eval hi env) _ E s from h) (fun vu s₂ h₂ => ?_) fun _ _ e => e))
  refine wpAny_bind (wpAny_holding (m := valueOrNone (evalOpt none env)) (wpAny_pure ?_))
  exact wpAny_newObj_type h₂
theorem v_sorted {l : Addr} {vs : List Value} {ns : List Int} {Q : Value → Shared → Prop} (r : R prog w base os ((env, m) :: fs) σ s) (hl : σ l = some (.list vs)) (hi : IntsAre vs ns) (h64 : ns.length < 64)
    (h : ∀ d vs' ns' s', σ d = none → IntsAre vs' ns' → ns'.Perm ns → ns'.Pairwise (· ≤ ·) → R prog w base os ((env, m) :: fs) (σ.set d (.list vs')) s' → Q (.ref d) s') : wpAny (model prog w) A (call (.builtin "sorted") [.ref l]) Q E s :=
  sorted_N r.F (r.ledger_news (s.heap.objs.size + 1)) (r.isList hl) hi (by rw [hi.length]; exact h64) fun h' vs' ns' e F' N' q1 q2 q3 => by
    obtain ⟨q4, q5⟩ := r.of_new (t := s.toks) (x := .list vs') (Nat.le_succ _) F' N' ⟨e, rfl⟩
    exact h _ vs' ns' _ q4 q1 q2 q3 q5
theorem v_index {l : Addr} {vs : List Value} {ns : List Int} {k : Int} {t : Tok} {fs : List (Env × Nm)} {Q : Value → Shared → Prop} (r : R prog w base os fs σ s) (hl : σ l = some (.list vs)) (hi : IntsAre vs ns) (hlay : PyData.layable0 (.list (ns.map .int)) = true) (hk : k ∈ ns)
    (h : ∀ s' t, R prog w base os fs σ s' → Q (.int (ns.idxOf k : Nat) t) s') : wpAny (model prog w) A (call (.builtin "list.index") [.ref l, .int k t]) Q E s :=
  index_list_ints (r.isList hl) hi hlay hk (h _ _ (r.toks _))
theorem v_dget1 {d : Addr} {kvs : List (Int × Value)} {k : Int} {t : Tok} {fs : List (Env × Nm)} {Q : Value → Shared → Prop} (r : R prog w base os fs σ s) (hd : σ d = some (.dict kvs))
    (h : ∀ s', R prog w base os fs σ s' → Q ((valueAt kvs k).getD .none) s') : wpAny (model prog w) A (call (.builtin "dict.get") [.ref d, .int k t]) Q E s :=
  have hD := r.dictOf hd
  call_meetsIn PySem.F.slot_dict_get hD.typeIs PySem.F.entry_dict_get (PySem.F.args_dict_get_2 _ _) (meets_dict_get (intKind prog w) d (intKind_is _ _ _ _) (r.nomod _ _ hd)) ⟨_, hD.mapOf, h _ (r.toks _)⟩
theorem v_dget2 {d : Addr} {kvs : List (Int × Value)} {k : Int} {t : Tok} {dflt : Value} {fs : List (Env × Nm)} {Q : Value → Shared → Prop} (r : R prog w base os fs σ s) (hd : σ d = some (.dict kvs))
    (h : ∀ s', R prog w base os fs σ s' → Q ((valueAt kvs k).getD dflt) s') : wpAny (model prog w) A (call (.builtin "dict.get") [.ref d, .int k t, dflt]) Q E s :=
  have hD := r.dictOf hd
  call_meetsIn PySem.F.slot_dict_get hD.typeIs PySem.F.entry_dict_get (PySem.F.args_dict_get_3 _ _ _) (meets_dict_get_default (intKind prog w) d (intKind_is _ _ _ _) (r.nomod _ _ hd) dflt) ⟨_, hD.mapOf, h _ (r.toks _)⟩
theorem v_setof {l : Addr} {vs : List Value} {ns : List Int} {Q : Value → Shared → Prop} (a : Act K none n A base (env :: fs.map (·.1))) (r : R prog w base os ((env, m) :: fs) σ s) (hl : σ l = some (.list vs)) (hi : IntsAre vs ns) (hb : ns.length + 1 < scanBound)
    (h : ∀ d s', σ d = none → R prog w base os ((env, m) :: fs) (σ.set d (.pred fun o => o.SetObjOf (intKind prog w) (fun k' => (firstMet (fun i => ns.getD i 0) ns.length).any (· == k')) (firstMet (fun i => ns.getD i 0) ns.length).length)) s' → Q (.ref d) s') :
    wpAny (model prog w) A (call (.type "set") [.ref l]) Q E s := by
  have hz : vs.toArray.size = ns.length := by rw [List.size_toArray, hi.length]
  refine PySem.call_set_list (items := vs.toArray) (ns := ns) a.hand (r.isList hl) (by simpa using hi) (by rw [hz]; exact hb) fun h' tk hS hk => ?_
  rw [hz] at hS
  obtain ⟨o, ho, hso⟩ := hS.objOf
  have r1 := r.keeps (h' := h') (t := tk) fun b o e => hk b o (Heap.lt_size e) e
  obtain ⟨f1, f2, f3⟩ := r.fresh_ge (Nat.le_refl _)
  exact h _ _ f2 (r1.add (x := .pred fun o => o.SetObjOf (intKind prog w) (fun k' => (firstMet (fun i => ns.getD i 0) ns.length).any (· == k')) (firstMet (fun i => ns.getD i 0) ns.length).length) ho hso f1 f3 (beq_eq_false_iff_ne.mpr (Nat.ne_of_gt (Nat.lt_of_lt_of_le r.low (r.size_le (by simp))))))
theorem v_setlen {d : Addr} {S : Int → Bool} {k : Nat} {fs : List (Env × Nm)} {Q : Value → Shared → Prop} (r : R prog w base os fs σ s) (hd : σ d = some (.pred fun o => o.SetObjOf (intKind prog w) S k)) (hk : k < 100000)
    (h : ∀ s' t, R prog w base os fs σ s' → Q (.int k t) s') : wpAny (model prog w) A (call (.builtin "len") [.ref d]) Q E s := by
  obtain ⟨o, ho, hex, es, ep, t, hd', _, _, hn, hf⟩ := r.get hd
  subst hn
  exact call_len_set ho hex hd' hf (by omega) (h _ _ (r.toks _))
theorem v_titem {value slice : Expr} {t : Addr} {xs : List Value} {k : Nat} {u : Tok} {v : Value} {fs : List (Env × Nm)} {Q : Value → Shared → Prop} (r : R prog w base os fs σ s) (ht : σ t = some (.tup xs)) (hx : xs[k]? = some v) (hk : k < 1000) (h : Q v s)
    (hs : subscripted slice false (.ref t) (.int k u) = operate [.ref t, .int k u] (getItem (.ref t) (.int k u)) := by with_unfolding_all rfl) :
    wpAny (model prog w) A (subscriptTail value slice (.ref t) (.int k u)) Q E s :=
  item_tupleT (j := k) (r.isTup' ht) (by omega) (by omega) (by
    have := (List.getElem?_eq_some_iff.mp hx).1
    unfold seqIndex?
    simp only [show ¬ ((k : Int) < 0) by omega, if_false, Int.toNat_natCast]
    first | rfl | simp [this] | (rw [if_pos]; omega)) hx h hs
theorem v_itruth {a : Int} {t : Tok} {Q : Bool → Shared → Prop} (h : Q (a != 0) s) : wpAny (model prog w) A (truthy (.int a t)) Q E s := by
  first | exact wpAny_truthy_int h | exact truthy_int h
end
end Mine
namespace Mine
section
variable {prog : Program} {w : World} {K : Frag} {H : Option Value} {n : Nat} {A : Around} {base : Heap} {env : Env} {os : OsState} {fs : List (Env × Nm)} {m : Nm} {σ : Hp} {s : Shared}
  {E : Value → Shared → Prop}

inductive isIt : Option AO → Prop
  | free : isIt none
  | list (l : Addr) (j : Nat) : isIt (some (liter l j))
  | range (x l : Int) : isIt (some (AO.obj (riterObj x l)))
  | dict (d : Addr) (i k ep : Nat) : isIt (some (diter d i k ep))
  | enum (it : Addr) (i : Int) (old : Value) : isIt (some (AO.obj (enumObj it i old)))

theorem v_forL {target iter : Expr} {body : List Stmt} {pos : Pos} {Q : Flow → Shared → Prop} (a : Act K none n A base (env :: fs.map (·.1))) (hE : PassesOwn (model prog w) A env E) (hs : ∀ x, foldedSetIterable iter env x = pure x)
    (h : wpAny (model prog w) A (eval iter env) (fun x s₁ => ∃ m σ l xs, x = .ref l ∧ R prog w base os ((env, m) :: fs) σ s₁ ∧ σ l = some (.list xs) ∧ ∃ J : Nat → Nm → Hp → Prop, J 0 m σ ∧
      (∀ i m' σ' it x, σ it = none → isIt (σ' it) → J i m' σ' → J i m' (σ'.set it x)) ∧
      (∀ it i m σ v s, xs[i]? = some v → J i m σ → σ l = some (.list xs) → σ it = some (liter l (i + 1)) → R prog w base os ((env, m) :: fs) σ s →
        wpAny (model prog w) A (assign target env v) (fun _ s₂ => wpAny (model prog w) A (execs body env) (fun f s₃ => match f with
          | .next | .cont => ∃ m' σ', R prog w base os ((env, m') :: fs) σ' s₃ ∧ J (i + 1) m' σ' ∧ σ' it = σ it ∧ σ' l = σ l
          | .brk => Q .next s₃
          | .ret v => Q (.ret v) s₃) E s₂) E s) ∧
      (∀ it m' σ' s, J xs.length m' σ' → σ it = none → σ' l = some (.list xs) → σ' it = some (liter l xs.length) → R prog w base os ((env, m') :: fs) (σ'.del [it]) s → Q .next s)) E s) :
    wpAny (model prog w) A (exec (.For target iter body [] pos) env) Q E s := by
  refine wpAny_For (wpAny_mono h (fun x s₁ h₁ => ?_) fun _ _ e => e) hs
  obtain ⟨m, σ, l, xs, rfl, r, hl, J, hJ, hst, turn, fin⟩ := h₁
  refine v_iterL r hl fun it s₂ hit r₂ => ?_
  have hil : l ≠ it := fun q => by rw [q, hit] at hl; cases hl
  refine v_loop (Src.list target it l xs) J a hE r₂ (hst 0 m σ it _ hit (by rw [hit]; exact .free) hJ) ⟨Hp.set_self _ _ _, by rw [Hp.set_ne _ _ hil]; exact hl⟩ ?_ ?_
  · rintro i m' σ₁ σ₂ v s₃ hlt hJ₁ ⟨hA1, hA2⟩ ⟨hv, rfl⟩ r₃
    have hli : l ≠ it := fun q => by rw [q, hA1] at hA2; cases hA2
    refine wpAny_mono (turn it i m' _ v s₃ hv (hst i m' σ₁ it _ hit (by rw [hA1]; exact .list _ _) hJ₁) (by rw [Hp.set_ne _ _ hli]; exact hA2) (Hp.set_self _ _ _) r₃) (fun _ s₄ h₄ => wpAny_mono h₄ (fun f s₅ h₅ => ?_) fun _ _ e => e) fun _ _ e => e
    have fin' : (∃ m'_1 σ', R prog w base os ((env, m'_1) :: fs) σ' s₅ ∧ J (i + 1) m'_1 σ' ∧ σ' it = (σ₁.set it (liter l (i + 1))) it ∧ σ' l = (σ₁.set it (liter l (i + 1))) l) →
        ∃ m' σ', R prog w base os ((env, m') :: fs) σ' s₅ ∧ J (i + 1) m' σ' ∧ (Src.list (prog := prog) (w := w) target it l xs).At (i + 1) σ' := fun ⟨m₂, σ₃, q1, q2, q3, q4⟩ =>
      ⟨m₂, σ₃, q1, q2, q3.trans (Hp.set_self _ _ _), by rw [q4, Hp.set_ne _ _ hli]; exact hA2⟩
    cases f with
    | next => exact fin' h₅
    | cont => exact fin' h₅
    | brk => exact h₅
    | ret v => exact h₅
  · rintro m' σ₁ s₃ hJ₁ ⟨hA1, hA2⟩ r₃
    exact fin it m' σ₁ s₃ hJ₁ hit hA2 hA1 r₃
theorem v_forD {target iter : Expr} {body : List Stmt} {pos : Pos} {Q : Flow → Shared → Prop} (a : Act K none n A base (env :: fs.map (·.1))) (hE : PassesOwn (model prog w) A env E) (hs : ∀ x, foldedSetIterable iter env x = pure x)
    (h : wpAny (model prog w) A (eval iter env) (fun x s₁ => ∃ m σ d kvs, x = .ref d ∧ R prog w base os ((env, m) :: fs) σ s₁ ∧ σ d = some (.dict kvs) ∧ ∃ J : Nat → Nm → Hp → Prop, J 0 m σ ∧
      (∀ i m' σ' a x, a = d ∨ (σ a = none ∧ isIt (σ' a)) → J i m' σ' → J i m' (σ'.set a x)) ∧
      (∀ it ep i m σ k x t s, kvs[i]? = some (k, x) → J i m σ → σ d = some (.dictE kvs ep) → σ it = some (diter d (i + 1) kvs.length ep) → R prog w base os ((env, m) :: fs) σ s →
        wpAny (model prog w) A (assign target env (.int k t)) (fun _ s₂ => wpAny (model prog w) A (execs body env) (fun f s₃ => match f with
          | .next | .cont => ∃ m' σ', R prog w base os ((env, m') :: fs) σ' s₃ ∧ J (i + 1) m' σ' ∧ σ' it = σ it ∧ σ' d = σ d
          | .brk => Q .next s₃
          | .ret v => Q (.ret v) s₃) E s₂) E s) ∧
      (∀ it m' σ' s, J kvs.length m' σ' → σ it = none → it ≠ d → σ' d = some (.dict kvs) → R prog w base os ((env, m') :: fs) (σ'.del [it]) s → Q .next s)) E s) :
    wpAny (model prog w) A (exec (.For target iter body [] pos) env) Q E s := by
  refine wpAny_For (wpAny_mono h (fun x s₁ h₁ => ?_) fun _ _ e => e) hs
  obtain ⟨m, σ, d, kvs, rfl, r, hd, J, hJ, hst, turn, fin⟩ := h₁
  refine v_iterDk r hd fun it ep s₂ hit r₂ => ?_
  have hid : d ≠ it := fun q => by rw [q, hit] at hd; cases hd
  refine v_loop (Src.keys target it d kvs ep) J a hE r₂ (hst 0 m _ it _ (.inr ⟨hit, by rw [Hp.set_ne _ _ hid.symm, hit]; exact .free⟩) (hst 0 m σ d _ (.inl rfl) hJ)) ⟨Hp.set_self _ _ _, by rw [Hp.set_ne _ _ hid]; exact Hp.set_self _ _ _⟩ ?_ ?_
  · rintro i m' σ₁ σ₂ v s₃ hlt hJ₁ ⟨hA1, hA2⟩ ⟨⟨k, x, t, hv, rfl⟩, rfl⟩ r₃
    refine wpAny_mono (turn it ep i m' _ k x t s₃ hv (hst i m' σ₁ it _ (.inr ⟨hit, by rw [hA1]; exact .dict _ _ _ _⟩) hJ₁) (by rw [Hp.set_ne _ _ hid]; exact hA2) (Hp.set_self _ _ _) r₃) (fun _ s₄ h₄ => wpAny_mono h₄ (fun f s₅ h₅ => ?_) fun _ _ e => e) fun _ _ e => e
    have fin' : (∃ m'_1 σ', R prog w base os ((env, m'_1) :: fs) σ' s₅ ∧ J (i + 1) m'_1 σ' ∧ σ' it = (σ₁.set it (diter d (i + 1) kvs.length ep)) it ∧ σ' d = (σ₁.set it (diter d (i + 1) kvs.length ep)) d) →
        ∃ m' σ', R prog w base os ((env, m') :: fs) σ' s₅ ∧ J (i + 1) m' σ' ∧ (Src.keys (prog := prog) (w := w) target it d kvs ep).At (i + 1) σ' := fun ⟨m₂, σ₃, q1, q2, q3, q4⟩ =>
      ⟨m₂, σ₃, q1, q2, q3.trans (Hp.set_self _ _ _), by rw [q4, Hp.set_ne _ _ hid]; exact hA2⟩
    cases f with
    | next => exact fin' h₅
    | cont => exact fin' h₅
    | brk => exact h₅
    | ret v => exact h₅
  · rintro m' σ₁ s₃ hJ₁ ⟨hA1, hA2⟩ r₃
    refine fin it m' (σ₁.set d (.dict kvs)) s₃ (hst _ m' σ₁ d _ (.inl rfl) hJ₁) hit hid.symm (Hp.set_self _ _ _) (r₃.restore fun b y e => ?_)
    obtain ⟨e1, e2⟩ := Hp.del_le e
    by_cases hb : b = d
    · subst hb
      rw [Hp.set_self] at e1; cases e1
      exact ⟨_, (Hp.del_ne _ (by show b ∉ [it]; simpa using hid)).trans hA2, fun o ⟨es, a1, a2, a3⟩ => ⟨es, ep, a1, a2, a3⟩⟩
    · rw [Hp.set_ne _ _ hb] at e1
      exact ⟨y, (Hp.del_ne _ e2).trans e1, fun _ x => x⟩

theorem v_dict1 {k v : Expr} {pos : Pos} {Q : Value → Shared → Prop} (r : R prog w base os ((env, m) :: fs) σ s)
    (h : ∀ d s₁, σ d = none → R prog w base os ((env, m) :: fs) (σ.set d (.dict [])) s₁ → wpAny (model prog w) A (eval k env) (fun kv s₂ => wpAny (model prog w) A (eval v env) (fun vv s₃ => ∃ a t m' σ', kv = .int a t ∧ R prog w base os ((env, m') :: fs) σ' s₃ ∧ σ' d = some (.dict []) ∧
      ∀ s', R prog w base os ((env, m') :: fs) (σ'.set d (.dict [(a, vv)])) s' → Q (.ref d) s') E s₂) E s₁) : wpAny (model prog w) A (eval (.Dict [some k] [v] pos) env) Q E s := by
  have r0 : R prog w base os ((env, m) :: fs) (σ.set s.heap.objs.size (.dict [])) { s with heap := s.heap.push { cls := .type "dict", data := .dict #[] } } := by
    refine r.push (t := s.toks) (by simp) ?_
    obtain ⟨o, ho, hd⟩ := Heap.dictOf_iff.mp (Heap.DictOf.new (knd := intKind prog w) s.heap)
    rw [Heap.get?_push_size _ rfl] at ho
    exact (Option.some.inj ho) ▸ hd
  refine wpAny_Dict_walk (knd := intKind prog w) rfl rfl (by simp) (by simp) (pairTrees_cons_walk (wpAny_mono (h _ _ r.fresh r0) (fun kv s₂ h₂ => wpAny_mono h₂ (fun vv s₃ h₃ => pairTrees_nil_walk ?_) fun _ _ e => e) fun _ _ e => e))
  obtain ⟨a, t, m', σ', rfl, r3, hd, fin⟩ := h₃
  refine ⟨[(a, vv)], ?_, r3.dictOf hd, fun h' hm hs => ?_⟩
  · exact ⟨intKind_is _ _ _ _, rfl, trivial⟩
  · exact fin _ (r3.setDict hd hm hs)
end
end Mine
namespace Mine
namespace P2
abbrev St := Int → Bool
def add (S : St) (w : Int) : St := fun x => S x || decide (x = w)
def rem (S : St) (v : Int) : St := fun x => S x && decide (x ≠ v)
def none : St := fun _ => false
def Run (room : Nat) : List Int → Nat → St → Nat → Prop
  | [], _, _, m => m = 0
  | w :: ws, k, S, m => if S w = true then Run room ws k S m else
      ∃ m', m = m' + 1 ∧ if k < room then Run room ws (k + 1) (add S w) m' else ∃ v, S v = true ∧ Run room ws k (add (rem S v) w) m'

theorem Run.hit {room : Nat} {w : Int} {ws : List Int} {k : Nat} {S : St} {m : Nat} (h : S w = true) : Run room (w :: ws) k S m ↔ Run room ws k S m := by
  rw [Run, if_pos h]
theorem Run.cold {room : Nat} {w : Int} {ws : List Int} {k : Nat} {S : St} {m : Nat} (h : S w = false) (hk : k < room) : Run room (w :: ws) k S m ↔ ∃ m', m = m' + 1 ∧ Run room ws (k + 1) (add S w) m' := by
  rw [Run, if_neg (by simp [h])]
  simp only [hk, if_true]
theorem Run.full {room : Nat} {w : Int} {ws : List Int} {k : Nat} {S : St} {m : Nat} (h : S w = false) (hk : ¬ k < room) : Run room (w :: ws) k S m ↔ ∃ m', m = m' + 1 ∧ ∃ v, S v = true ∧ Run room ws k (add (rem S v) w) m' := by
  rw [Run, if_neg (by simp [h])]
  simp only [hk, if_false]

theorem add_apply (S : St) (w x : Int) : add S w x = (S x || decide (x = w)) := rfl
theorem rem_apply (S : St) (v x : Int) : rem S v x = (S x && decide (x ≠ v)) := rfl

theorem lip {room : Nat} : ∀ (ws : List Int) {k : Nat} {T : St} {a b : Int} {m : Nat}, ¬ k < room → T a = false → T b = false → a ≠ b → Run room ws k (add T b) m → ∃ m', m' ≤ m + 1 ∧ Run room ws k (add T a) m'
  | [], _, _, _, _, m, _, _, _, _, _ => ⟨0, by omega, rfl⟩
  | w :: ws, k, T, a, b, m, hk, ha, hb, hab, h => by
    by_cases hT : T w = true
    · rw [Run.hit (by simp [add, hT])] at h
      obtain ⟨m', h1, h2⟩ := lip ws hk ha hb hab h
      exact ⟨m', h1, (Run.hit (by simp [add, hT])).mpr h2⟩
    · have hT : T w = false := by simpa using hT
      by_cases hwb : w = b
      · subst hwb
        rw [Run.hit (by simp [add])] at h
        refine ⟨m + 1, Nat.le_refl _, (Run.full (by simp [add, hT, Ne.symm hab]) hk).mpr ⟨m, rfl, a, by simp [add], ?_⟩⟩
        have e : add (rem (add T a) a) w = add T w := by
          funext x; simp only [add, rem]
          by_cases hx : x = a
          · subst hx; simp [ha]
          · simp [hx]
        rw [e]; exact h
      · rw [Run.full (by simp [add, hT, hwb]) hk] at h
        obtain ⟨m₁, rfl, v, hv, h⟩ := h
        by_cases hwa : w = a
        · subst hwa
          by_cases hvb : v = b
          · subst hvb
            have e : add (rem (add T v) v) w = add T w := by
              funext x; simp only [add, rem]
              by_cases hx : x = v
              · subst hx; simp [hb]
              · simp [hx]
            rw [e] at h
            exact ⟨m₁, by omega, (Run.hit (by simp [add])).mpr h⟩
          · have hvT : T v = true := by simpa [add, hvb] using hv
            have hvw : v ≠ w := fun q => by rw [q, hT] at hvT; cases hvT
            have e : add (rem (add T b) v) w = add (add (rem T v) w) b := by
              funext x; simp only [add, rem]
              by_cases hx : x = b
              · subst hx; simp [Ne.symm hvb]
              · simp [hx]
            rw [e] at h
            obtain ⟨m', h1, h2⟩ := lip ws (a := v) hk (by simp [add, rem, hvw]) (by simp [add, rem, hb, Ne.symm hab]) hvb h
            have e2 : add (add (rem T v) w) v = add T w := by
              funext x; simp only [add, rem]
              by_cases hx : x = v
              · subst hx; simp [hvT]
              · simp [hx]
            rw [e2] at h2
            exact ⟨m', by omega, (Run.hit (by simp [add])).mpr h2⟩
        · by_cases hvb : v = b
          · subst hvb
            have e : add (rem (add T v) v) w = add (rem (add T a) a) w := by
              funext x; simp only [add, rem]
              by_cases hx : x = v
              · subst hx; simp [hb, hab.symm]
              · by_cases hx2 : x = a
                · subst hx2; simp [ha, hab]
                · simp [hx, hx2]
            rw [e] at h
            exact ⟨m₁ + 1, by omega, (Run.full (by simp [add, hT, hwa]) hk).mpr ⟨m₁, rfl, a, by simp [add], h⟩⟩
          · have hvT : T v = true := by simpa [add, hvb] using hv
            have hva : v ≠ a := fun q => by rw [q, ha] at hvT; cases hvT
            have e : ∀ c, v ≠ c → add (rem (add T c) v) w = add (add (rem T v) w) c := fun c hvc => by
              funext x; simp only [add, rem]
              by_cases hx : x = c
              · subst hx; simp [Ne.symm hvc]
              · simp [hx]
            rw [e b hvb] at h
            obtain ⟨m', h1, h2⟩ := lip ws (a := a) hk (by simp [add, rem, ha, Ne.symm hwa]) (by simp [add, rem, hb, Ne.symm hwb]) hab h
            exact ⟨m' + 1, by omega, (Run.full (by simp [add, hT, hwa]) hk).mpr ⟨m', rfl, v, by simp [add, hvT], by rw [e a hva]; exact h2⟩⟩

def nxt (ws : List Int) (x : Int) : Nat := if x ∈ ws then ws.idxOf x else 99
theorem nxt_cons_ne {w : Int} {ws : List Int} {x : Int} (h : x ≠ w) (hl : ws.length < 90) : nxt (w :: ws) x = if x ∈ ws then nxt ws x + 1 else 99 := by
  unfold nxt
  by_cases hx : x ∈ ws
  · rw [if_pos hx, if_pos (List.mem_cons_of_mem _ hx), if_pos hx, List.idxOf_cons]
    have : (w == x) = false := beq_eq_false_iff_ne.mpr (Ne.symm h)
    rw [this]; rfl
  · rw [if_neg hx, if_neg (fun q => hx ((List.mem_cons.mp q).resolve_left h))]
theorem nxt_lt {ws : List Int} {x : Int} (h : x ∈ ws) : nxt ws x < ws.length := by
  unfold nxt; rw [if_pos h]; exact List.idxOf_lt_length_iff.mpr h
theorem nxt_tail {w : Int} {ws : List Int} {a b : Int} (ha : a ≠ w) (hb : b ≠ w) (hl : ws.length < 90) (h : nxt (w :: ws) a ≤ nxt (w :: ws) b) : nxt ws a ≤ nxt ws b := by
  rw [nxt_cons_ne ha hl, nxt_cons_ne hb hl] at h
  by_cases h1 : a ∈ ws
  · rw [if_pos h1] at h
    by_cases h2 : b ∈ ws
    · rw [if_pos h2] at h; omega
    · have := nxt_lt h1
      have e : nxt ws b = 99 := if_neg h2
      rw [e]; omega
  · rw [if_neg h1] at h
    by_cases h2 : b ∈ ws
    · rw [if_pos h2] at h
      have := nxt_lt h2
      omega
    · have e1 : nxt ws a = 99 := if_neg h1
      have e2 : nxt ws b = 99 := if_neg h2
      rw [e1, e2]; exact Nat.le_refl _
theorem exch {room : Nat} : ∀ (ws : List Int) {k : Nat} {T : St} {a b : Int} {m : Nat}, ws.length < 90 → ¬ k < room → T a = false → T b = false → a ≠ b → nxt ws a ≤ nxt ws b → Run room ws k (add T b) m → ∃ m', m' ≤ m ∧ Run room ws k (add T a) m'
  | [], _, _, _, _, m, _, _, _, _, _, _, h => ⟨0, by omega, rfl⟩
  | w :: ws, k, T, a, b, m, hl, hk, ha, hb, hab, hn, h => by
    have hl' : ws.length < 90 := by simp only [List.length_cons] at hl; omega
    have hwb : w ≠ b := fun q => by
      subst q
      have e1 : nxt (w :: ws) w = 0 := by unfold nxt; rw [if_pos (List.mem_cons_self)]; simp
      rw [e1, nxt_cons_ne hab hl'] at hn
      split at hn <;> omega
    by_cases hT : T w = true
    · have hwa : w ≠ a := fun q => by rw [q, ha] at hT; cases hT
      rw [Run.hit (by simp [add, hT])] at h
      obtain ⟨m', h1, h2⟩ := exch ws hl' hk ha hb hab (nxt_tail hwa.symm hwb.symm hl' hn) h
      exact ⟨m', h1, (Run.hit (by simp [add, hT])).mpr h2⟩
    · have hT : T w = false := by simpa using hT
      rw [Run.full (by simp [add, hT, hwb]) hk] at h
      obtain ⟨m₁, rfl, v, hv, h⟩ := h
      by_cases hwa : w = a
      · subst hwa
        by_cases hvb : v = b
        · subst hvb
          have e : add (rem (add T v) v) w = add T w := by
            funext x; simp only [add, rem]
            by_cases hx : x = v
            · subst hx; simp [hb]
            · simp [hx]
          rw [e] at h
          exact ⟨m₁, by omega, (Run.hit (by simp [add])).mpr h⟩
        · have hvT : T v = true := by simpa [add, hvb] using hv
          have hvw : v ≠ w := fun q => by rw [q, hT] at hvT; cases hvT
          have e : add (rem (add T b) v) w = add (add (rem T v) w) b := by
            funext x; simp only [add, rem]
            by_cases hx : x = b
            · subst hx; simp [Ne.symm hvb]
            · simp [hx]
          rw [e] at h
          obtain ⟨m', h1, h2⟩ := lip ws (a := v) hk (by simp [add, rem, hvw]) (by simp [add, rem, hb, Ne.symm hab]) hvb h
          have e2 : add (add (rem T v) w) v = add T w := by
            funext x; simp only [add, rem]
            by_cases hx : x = v
            · subst hx; simp [hvT]
            · simp [hx]
          rw [e2] at h2
          exact ⟨m', by omega, (Run.hit (by simp [add])).mpr h2⟩
      · by_cases hvb : v = b
        · subst hvb
          have e : add (rem (add T v) v) w = add (rem (add T a) a) w := by
            funext x; simp only [add, rem]
            by_cases hx : x = v
            · subst hx; simp [hb, hab.symm]
            · by_cases hx2 : x = a
              · subst hx2; simp [ha, hab]
              · simp [hx, hx2]
          rw [e] at h
          exact ⟨m₁ + 1, by omega, (Run.full (by simp [add, hT, hwa]) hk).mpr ⟨m₁, rfl, a, by simp [add], h⟩⟩
        · have hvT : T v = true := by simpa [add, hvb] using hv
          have hva : v ≠ a := fun q => by rw [q, ha] at hvT; cases hvT
          have e : ∀ c, v ≠ c → add (rem (add T c) v) w = add (add (rem T v) w) c := fun c hvc => by
            funext x; simp only [add, rem]
            by_cases hx : x = c
            · subst hx; simp [Ne.symm hvc]
            · simp [hx]
          rw [e b hvb] at h
          obtain ⟨m', h1, h2⟩ := exch ws (a := a) hl' hk (by simp [add, rem, ha, Ne.symm hwa]) (by simp [add, rem, hb, Ne.symm hwb]) hab (nxt_tail (Ne.symm hwa) hwb.symm hl' hn) h
          exact ⟨m' + 1, by omega, (Run.full (by simp [add, hT, hwa]) hk).mpr ⟨m', rfl, v, by simp [add, hvT], by rw [e a hva]; exact h2⟩⟩

def Far (room : Nat) : List Int → Nat → St → Nat → Prop
  | [], _, _, m => m = 0
  | w :: ws, k, S, m => if S w = true then Far room ws k S m else
      ∃ m', m = m' + 1 ∧ if k < room then Far room ws (k + 1) (add S w) m' else ∃ v, S v = true ∧ (∀ x, S x = true → nxt ws x ≤ nxt ws v) ∧ Far room ws k (add (rem S v) w) m'
theorem far_best {room : Nat} : ∀ (ws : List Int) {k : Nat} {S : St} {f m : Nat}, ws.length < 90 → Far room ws k S f → Run room ws k S m → f ≤ m
  | [], _, _, f, m, _, hf, _ => by rw [show f = 0 from hf]; exact Nat.zero_le _
  | w :: ws, k, S, f, m, hl, hf, h => by
    have hl' : ws.length < 90 := by simp only [List.length_cons] at hl; omega
    rw [Far] at hf
    by_cases hS : S w = true
    · rw [if_pos hS] at hf
      rw [Run.hit hS] at h
      exact far_best ws hl' hf h
    · have hS' : S w = false := by simpa using hS
      rw [if_neg hS] at hf
      obtain ⟨f', rfl, hf⟩ := hf
      by_cases hk : k < room
      · rw [if_pos hk] at hf
        obtain ⟨m', e, h2⟩ := (Run.cold hS' hk).mp h
        have := far_best ws hl' hf h2
        omega
      · rw [if_neg hk] at hf
        obtain ⟨v, hv, hmax, hf⟩ := hf
        obtain ⟨m', e, u, hu, h⟩ := (Run.full hS' hk).mp h
        by_cases huv : u = v
        · subst huv
          have := far_best ws hl' hf h
          omega
        · have hvw : v ≠ w := fun q => by rw [q, hS'] at hv; cases hv
          have huw : u ≠ w := fun q => by rw [q, hS'] at hu; cases hu
          have e1 : add (rem S u) w = add (add (rem (rem S u) v) w) v := by
            funext x; simp only [add, rem]
            by_cases hx : x = v
            · subst hx; simp [hv, Ne.symm huv]
            · simp [hx]
          have e2 : add (add (rem (rem S u) v) w) u = add (rem S v) w := by
            funext x; simp only [add, rem]
            by_cases hx : x = u
            · subst hx; simp [hu, huv]
            · simp [hx]
          rw [e1] at h
          obtain ⟨m₂, h1, h2⟩ := exch ws (a := u) hl' hk (by simp [add, rem, huw]) (by simp [add, rem, hvw]) huv (hmax u hu) h
          rw [e2] at h2
          have := far_best ws hl' hf h2
          omega
theorem far_run {room : Nat} : ∀ (ws : List Int) {k : Nat} {S : St} {f : Nat}, Far room ws k S f → Run room ws k S f
  | [], _, _, _, h => h
  | w :: ws, k, S, f, h => by
    rw [Far] at h
    by_cases hS : S w = true
    · rw [if_pos hS] at h
      exact (Run.hit hS).mpr (far_run ws h)
    · have hS' : S w = false := by simpa using hS
      rw [if_neg hS] at h
      obtain ⟨f', rfl, h⟩ := h
      by_cases hk : k < room
      · rw [if_pos hk] at h
        exact (Run.cold hS' hk).mpr ⟨f', rfl, far_run ws h⟩
      · rw [if_neg hk] at h
        obtain ⟨v, hv, _, h⟩ := h
        exact (Run.full hS' hk).mpr ⟨f', rfl, v, hv, far_run ws h⟩
end P2
end Mine
namespace Mine
namespace P2
def ordRun (touch : Bool) (room : Nat) : List Int → List Int → Nat
  | [], _ => 0
  | w :: ws, L => if w ∈ L then ordRun touch room ws (if touch then L.filter (· ≠ w) ++ [w] else L) else 1 + ordRun touch room ws ((if L.length < room then L else L.tail) ++ [w])
def phi (S : St) : Nat → List Int → Nat
  | _, [] => 0
  | j, x :: r => (if S x = true then 0 else j) + phi S (j + 1) r
def out (S : St) : List Int → Nat
  | [] => 0
  | x :: r => (if S x = true then 0 else 1) + out S r
theorem phi_succ (S : St) : ∀ (L : List Int) (j : Nat), phi S (j + 1) L = phi S j L + out S L
  | [], _ => rfl
  | x :: r, j => by
    simp only [phi, out]
    rw [phi_succ S r (j + 1)]
    split <;> omega
theorem phi_append (S : St) (w : Int) : ∀ (L : List Int) (j : Nat), S w = true → phi S j (L ++ [w]) = phi S j L
  | [], _, h => by simp [phi, h]
  | x :: r, j, h => by
    simp only [List.cons_append, phi]
    rw [phi_append S w r _ h]
theorem phi_touch (S : St) (w : Int) (h : S w = true) : ∀ (L : List Int) (j : Nat), L.Nodup → phi S j (L.filter (· ≠ w) ++ [w]) ≤ phi S j L
  | [], _, _ => by simp [phi, h]
  | x :: r, j, hn => by
    obtain ⟨h1, h2⟩ := List.nodup_cons.mp hn
    by_cases hx : x = w
    · subst hx
      have e : (x :: r).filter (· ≠ x) = r := by
        rw [List.filter_cons_of_neg (by simp)]
        exact List.filter_eq_self.mpr fun b hb => by simp; rintro rfl; exact h1 hb
      rw [e, phi_append S x r j h]
      simp only [phi]
      rw [phi_succ]; omega
    · rw [List.filter_cons_of_pos (by simpa using hx)]
      simp only [List.cons_append, phi]
      have := phi_touch S w h r (j + 1) h2
      omega
theorem phi_notin (S : St) (v w : Int) : ∀ (L : List Int) (j : Nat), v ∉ L → phi (add (rem S v) w) j L ≤ phi S j L
  | [], _, _ => Nat.le_refl _
  | x :: r, j, hn => by
    simp only [List.mem_cons, not_or] at hn
    have := phi_notin S v w r (j + 1) hn.2
    simp only [phi]
    have e : S x = true → add (rem S v) w x = true := fun h => by simp [add, rem, h, Ne.symm hn.1]
    by_cases hS : S x = true
    · rw [if_pos hS, if_pos (e hS)]; omega
    · rw [if_neg hS]; split <;> omega
theorem phi_rem (S : St) (v w : Int) : ∀ (L : List Int) (j : Nat), L.Nodup → phi (add (rem S v) w) j L ≤ phi S j L + (j + L.length - 1)
  | [], _, _ => by simp [phi]
  | x :: r, j, hn => by
    obtain ⟨h1, h2⟩ := List.nodup_cons.mp hn
    simp only [phi, List.length_cons]
    by_cases hx : x = v
    · subst hx
      have := phi_notin S x w r (j + 1) h1
      split <;> split <;> omega
    · have := phi_rem S v w r (j + 1) h2
      have e : S x = true → add (rem S v) w x = true := fun h => by simp [add, rem, h, hx]
      by_cases hS : S x = true
      · rw [if_pos hS, if_pos (e hS)]; omega
      · rw [if_neg hS]; split <;> omega
def Card (S : St) (k : Nat) : Prop := ∀ l : List Int, l.Nodup → (∀ x ∈ l, S x = true) → l.length ≤ k
theorem perm_push {ks : List Int} {k : Int} (h : ks.Nodup) (hk : k ∈ ks) : (ks.filter (· ≠ k) ++ [k]).Perm ks := by
  induction ks with
  | nil => cases hk
  | cons a t ih =>
    obtain ⟨h1, h2⟩ := List.nodup_cons.mp h
    by_cases ha : a = k
    · subst ha
      have e : (a :: t).filter (· ≠ a) = t := by
        rw [List.filter_cons_of_neg (by simp)]
        exact List.filter_eq_self.mpr fun b hb => by simp; rintro rfl; exact h1 hb
      rw [e]
      exact (List.perm_append_comm (l₁ := t) (l₂ := [a]))
    · rw [List.filter_cons_of_pos (by simpa using ha)]
      exact (ih h2 (by rcases List.mem_cons.mp hk with e | e; exact absurd e.symm ha; exact e)).cons a
theorem filter_len {ks : List Int} {k : Int} (h : ks.Nodup) (hk : k ∈ ks) : (ks.filter (· ≠ k)).length + 1 = ks.length := by
  have := (perm_push h hk).length_eq
  simpa using this
theorem Card.swap {S : St} {k : Nat} {v w : Int} (h : Card S k) (hv : S v = true) : Card (add (rem S v) w) k := by
  intro l hn hl
  by_cases hw : w ∈ l
  · have h1 : (v :: l.filter (· ≠ w)).length ≤ k := by
      by_cases hvw : v = w
      · subst hvw
        refine h _ (List.nodup_cons.mpr ⟨by simp, hn.filter _⟩) fun x hx => ?_
        rcases List.mem_cons.mp hx with rfl | hx
        · exact hv
        · obtain ⟨hx1, hx2⟩ := List.mem_filter.mp hx
          have hx2 : x ≠ v := by simpa using hx2
          have := hl x hx1
          simpa [add, rem, hx2] using this
      · refine h _ (List.nodup_cons.mpr ⟨fun q => ?_, hn.filter _⟩) fun x hx => ?_
        · have := hl v (List.mem_filter.mp q).1
          simp [add, rem, hvw] at this
        · rcases List.mem_cons.mp hx with rfl | hx
          · exact hv
          · obtain ⟨hx1, hx2⟩ := List.mem_filter.mp hx
            have hx2 : x ≠ w := by simpa using hx2
            have := hl x hx1
            have : rem S v x = true := by simpa [add, hx2] using this
            simp only [rem, Bool.and_eq_true] at this
            exact this.1
    have := filter_len hn hw
    simp only [List.length_cons] at h1
    omega
  · refine h l hn fun x hx => ?_
    have hxw : x ≠ w := fun q => hw (q ▸ hx)
    have := hl x hx
    have : rem S v x = true := by simpa [add, hxw] using this
    simp only [rem, Bool.and_eq_true] at this
    exact this.1
theorem out_pos {S : St} {L : List Int} {w : Int} (hn : L.Nodup) (hc : Card S L.length) (hw : w ∉ L) (hS : S w = true) : 1 ≤ out S L := by
  have key : ∀ l : List Int, out S l = 0 → ∀ x ∈ l, S x = true := by
    intro l
    induction l with
    | nil => intro _ x hx; cases hx
    | cons a t ih =>
      intro h x hx
      simp only [out] at h
      by_cases ha : S a = true
      · rw [if_pos ha] at h
        rcases List.mem_cons.mp hx with rfl | hx
        · exact ha
        · exact ih (by omega) x hx
      · rw [if_neg ha] at h; omega
  refine Nat.pos_of_ne_zero fun h0 => ?_
  have := hc (w :: L) (List.nodup_cons.mpr ⟨hw, hn⟩) fun x hx => by
    rcases List.mem_cons.mp hx with rfl | hx
    · exact hS
    · exact key L h0 x hx
  simp at this
  omega
theorem ord_step {touch : Bool} {room : Nat} (hr : 1 ≤ room) {w : Int} {ws L : List Int} {S : St} {m : Nat} (hn : L.Nodup) (hl : L.length = room) (hc : Card S room) (hS : S w = true)
    (ih : ∀ L', L'.Nodup → L'.length = room → ordRun touch room ws L' ≤ phi S 1 L' + room * m) : ordRun touch room (w :: ws) L ≤ phi S 1 L + room * m := by
  rw [ordRun]
  by_cases hw : w ∈ L
  · rw [if_pos hw]
    cases touch with
    | false => exact ih L hn hl
    | true =>
      simp only [if_true]
      have h1 := ih (L.filter (· ≠ w) ++ [w]) ((perm_push hn hw).nodup_iff.mpr hn) (by rw [(perm_push hn hw).length_eq]; exact hl)
      have h2 := phi_touch S w hS L 1 hn
      omega
  · rw [if_neg hw, if_neg (by omega)]
    cases L with
    | nil => simp at hl; omega
    | cons a r =>
      simp only [List.tail_cons]
      obtain ⟨h1, h2⟩ := List.nodup_cons.mp hn
      have hwr : w ∉ r := fun q => hw (List.mem_cons_of_mem _ q)
      have := ih (r ++ [w]) (List.nodup_append.mpr ⟨h2, by simp, fun x hx y hy => by simp at hy; subst hy; exact fun e => hwr (e ▸ hx)⟩) (by simpa using hl)
      rw [phi_append S w r 1 hS] at this
      have ho := out_pos hn (hl.symm ▸ hc) hw hS
      simp only [phi, out] at ho ⊢
      rw [phi_succ]
      split at ho <;> rename_i q
      · rw [if_pos q]; omega
      · rw [if_neg q]; omega
theorem ord_full {touch : Bool} {room : Nat} (hr : 1 ≤ room) : ∀ (ws : List Int) {L : List Int} {S : St} {m : Nat}, L.Nodup → L.length = room → Card S room → Run room ws room S m → ordRun touch room ws L ≤ phi S 1 L + room * m
  | [], L, S, m, _, _, _, _ => by simp [ordRun]
  | w :: ws, L, S, m, hn, hl, hc, h => by
    by_cases hS : S w = true
    · rw [Run.hit hS] at h
      exact ord_step hr hn hl hc hS fun L' h1 h2 => ord_full hr ws h1 h2 hc h
    · have hS' : S w = false := by simpa using hS
      obtain ⟨m', rfl, v, hv, h⟩ := (Run.full hS' (Nat.lt_irrefl _)).mp h
      have hc' := hc.swap (w := w) hv
      have h1 := ord_step (touch := touch) (w := w) (ws := ws) (S := add (rem S v) w) (m := m') hr hn hl hc' (by simp [add]) fun L' h1 h2 => ord_full hr ws h1 h2 hc' h
      have h2 := phi_rem S v w L 1 hn
      rw [Nat.mul_add]
      omega
theorem phi_zero {S : St} : ∀ {L : List Int} {j : Nat}, (∀ x ∈ L, S x = true) → phi S j L = 0
  | [], _, _ => rfl
  | x :: r, j, h => by
    simp only [phi]
    rw [if_pos (h x (.head _)), phi_zero fun y hy => h y (.tail _ hy)]
def mem (L : List Int) : St := fun x => decide (x ∈ L)
theorem sub_len : ∀ (l L : List Int), l.Nodup → (∀ x ∈ l, x ∈ L) → l.length ≤ L.length
  | [], _, _, _ => Nat.zero_le _
  | a :: t, L, hn, hs => by
    obtain ⟨h1, h2⟩ := List.nodup_cons.mp hn
    have := sub_len t (L.filter (· ≠ a)) h2 fun x hx => List.mem_filter.mpr ⟨hs x (.tail _ hx), by simp; rintro rfl; exact h1 hx⟩
    have h3 : (L.filter (· ≠ a)).length < L.length := List.length_filter_lt_length_iff_exists.mpr ⟨a, hs a (.head _), by simp⟩
    simp only [List.length_cons]
    omega
theorem card_mem {L : List Int} : Card (mem L) L.length := by
  intro l hn hl
  exact sub_len l L hn fun x hx => by simpa [mem] using hl x hx
theorem mem_touch {L : List Int} {w : Int} (hn : L.Nodup) (hw : w ∈ L) : mem (L.filter (· ≠ w) ++ [w]) = mem L := by
  funext x
  simp only [mem]
  rw [Bool.eq_iff_iff]
  simp only [decide_eq_true_eq]
  exact (perm_push hn hw).mem_iff
theorem mem_add {L : List Int} {w : Int} : mem (L ++ [w]) = add (mem L) w := by
  funext x; simp [mem, add]
theorem ord_cold {touch : Bool} {room : Nat} (hr : 1 ≤ room) : ∀ (ws : List Int) {L : List Int} {m : Nat}, L.Nodup → L.length ≤ room → Run room ws L.length (mem L) m → room ≤ m + L.length → ordRun touch room ws L ≤ (room - L.length) + room * (m - (room - L.length))
  | [], L, m, _, _, _, _ => by simp [ordRun]
  | w :: ws, L, m, hn, hl, h, hm => by
    by_cases hfull : L.length = room
    · rw [hfull] at h
      have := ord_full (touch := touch) hr (w :: ws) hn hfull (hfull ▸ card_mem) h
      rw [phi_zero (fun x hx => by simp [mem, hx])] at this
      rw [hfull]
      simpa using this
    · have hlt : L.length < room := by omega
      rw [ordRun]
      by_cases hw : w ∈ L
      · rw [if_pos hw]
        rw [Run.hit (by simp [mem, hw])] at h
        cases touch with
        | false => exact ord_cold hr ws hn hl h hm
        | true =>
          simp only [if_true]
          have hp := perm_push hn hw
          have := ord_cold (touch := true) hr ws (L := L.filter (· ≠ w) ++ [w]) (m := m) (hp.nodup_iff.mpr hn) (by rw [hp.length_eq]; exact hl) (by rw [hp.length_eq, mem_touch hn hw]; exact h) (by rw [hp.length_eq]; exact hm)
          rw [hp.length_eq] at this
          exact this
      · rw [if_neg hw, if_pos hlt]
        obtain ⟨m', e0, h2⟩ := (Run.cold (by simp [mem, hw]) hlt).mp h
        subst e0
        have hl' : (L ++ [w]).length = L.length + 1 := by simp
        have := ord_cold (touch := touch) hr ws (L := L ++ [w]) (m := m') (List.nodup_append.mpr ⟨hn, by simp, fun x hx y hy => by simp at hy; subst hy; exact fun e => hw (e ▸ hx)⟩) (by rw [hl']; omega) (by rw [hl', mem_add]; exact h2) (by rw [hl']; omega)
        rw [hl'] at this
        have e : m' + 1 - (room - L.length) = m' - (room - (L.length + 1)) := by omega
        rw [e]
        omega
theorem ord_run {touch : Bool} {room : Nat} (hr : 1 ≤ room) : ∀ (ws : List Int) {L : List Int}, L.Nodup → L.length ≤ room → Run room ws L.length (mem L) (ordRun touch room ws L)
  | [], _, _, _ => rfl
  | w :: ws, L, hn, hl => by
    rw [ordRun]
    by_cases hw : w ∈ L
    · rw [if_pos hw, Run.hit (by simp [mem, hw])]
      cases touch with
      | false => exact ord_run hr ws hn hl
      | true =>
        simp only [if_true]
        have hp := perm_push hn hw
        have := ord_run (touch := true) hr ws (L := L.filter (· ≠ w) ++ [w]) (hp.nodup_iff.mpr hn) (by rw [hp.length_eq]; exact hl)
        rw [hp.length_eq, mem_touch hn hw] at this
        exact this
    · rw [if_neg hw]
      have happ : ∀ {l : List Int}, l.Nodup → w ∉ l → (l ++ [w]).Nodup := fun h1 h2 => List.nodup_append.mpr ⟨h1, by simp, fun x hx y hy => by simp at hy; subst hy; exact fun e => h2 (e ▸ hx)⟩
      by_cases hlt : L.length < room
      · rw [if_pos hlt]
        refine (Run.cold (by simp [mem, hw]) hlt).mpr ⟨_, Nat.add_comm _ _, ?_⟩
        have := ord_run (touch := touch) hr ws (L := L ++ [w]) (happ hn hw) (by simp; omega)
        rw [mem_add] at this
        simpa using this
      · rw [if_neg hlt]
        cases L with
        | nil => simp at hlt; omega
        | cons a r =>
          obtain ⟨h1, h2⟩ := List.nodup_cons.mp hn
          simp only [List.mem_cons, not_or] at hw
          refine (Run.full (by simp [mem, hw]) hlt).mpr ⟨_, Nat.add_comm _ _, a, by simp [mem], ?_⟩
          have := ord_run (touch := touch) hr ws (L := r ++ [w]) (happ h2 hw.2) (by simpa using hl)
          have e : mem (r ++ [w]) = add (rem (mem (a :: r)) a) w := by
            funext x
            simp only [mem, add, rem]
            by_cases hx : x = a
            · subst hx; simp [h1]
            · simp [hx]
          rw [e] at this
          simpa using this
def newCount : List Int → List Int → Nat
  | _, [] => 0
  | seen, w :: ws => if w ∈ seen then newCount seen ws else 1 + newCount (seen ++ [w]) ws
theorem run_ge {room : Nat} : ∀ (ws : List Int) {seen : List Int} {k : Nat} {S : St} {m : Nat}, Run room ws k S m → (∀ x, S x = true → x ∈ seen) → newCount seen ws ≤ m
  | [], _, _, _, _, _, _ => Nat.zero_le _
  | w :: ws, seen, k, S, m, h, hs => by
    rw [newCount]
    by_cases hS : S w = true
    · rw [if_pos (hs w hS)]
      exact run_ge ws ((Run.hit hS).mp h) hs
    · have hS' : S w = false := by simpa using hS
      have up : ∀ x, add S w x = true → x ∈ seen ++ [w] := fun x hx => by
        simp only [add, Bool.or_eq_true, decide_eq_true_eq] at hx
        rcases hx with hx | hx
        · exact List.mem_append_left _ (hs x hx)
        · simp [hx]
      have main : ∃ m' k' S', m = m' + 1 ∧ Run room ws k' S' m' ∧ ∀ x, S' x = true → add S w x = true := by
        by_cases hk : k < room
        · obtain ⟨m', e, h⟩ := (Run.cold hS' hk).mp h
          exact ⟨m', _, _, e, h, fun x hx => hx⟩
        · obtain ⟨m', e, v, _, h⟩ := (Run.full hS' hk).mp h
          refine ⟨m', _, _, e, h, fun x hx => ?_⟩
          simp only [add, rem, Bool.or_eq_true, Bool.and_eq_true] at hx ⊢
          rcases hx with hx | hx
          · exact .inl hx.1
          · exact .inr hx
      obtain ⟨m', k', S', rfl, h, hS2⟩ := main
      by_cases hw : w ∈ seen
      · rw [if_pos hw]
        have := run_ge ws (seen := seen) h fun x hx => by
          have := up x (hS2 x hx)
          rcases List.mem_append.mp this with q | q
          · exact q
          · simp at q; rw [q]; exact hw
        omega
      · rw [if_neg hw]
        have := run_ge ws h fun x hx => up x (hS2 x hx)
        omega
theorem run_few {room : Nat} : ∀ (ws : List Int) {seen : List Int} {m : Nat}, Run room ws seen.length (mem seen) m → seen.length + newCount seen ws ≤ room → m = newCount seen ws
  | [], _, _, h, _ => h
  | w :: ws, seen, m, h, hc => by
    rw [newCount] at hc ⊢
    by_cases hw : w ∈ seen
    · rw [if_pos hw] at hc ⊢
      exact run_few ws ((Run.hit (by simp [mem, hw])).mp h) hc
    · rw [if_neg hw] at hc ⊢
      obtain ⟨m', e0, h2⟩ := (Run.cold (by simp [mem, hw]) (by omega)).mp h
      subst e0
      have := run_few ws (seen := seen ++ [w]) (m := m') (by rw [mem_add]; simpa using h2) (by simp; omega)
      omega
end P2
end Mine
namespace Mine
set_option pp.deepTerms false
set_option pp.deepTerms.threshold 8
local macro_rules | `(tactic| walk_at "lk") => `(tactic| first | assumption | rfl | (simp only [mset, ofs_inj, String.reduceEq, ↓reduceIte]; first | assumption | rfl) | (simp only [mset, ofs_inj, String.reduceEq, ↓reduceIte]; done))
local macro_rules | `(tactic| walk_at "nm") => `(tactic| (refine v_local (by assumption) (by assumption) (kof (by assumption) (by kernel_rfl)) (by walk_at "lk") ?_ (by kernel_rfl)))
local macro_rules | `(tactic| walk_at "st") => `(tactic| (refine v_store (by assumption) (by assumption) (kof (by assumption) (by kernel_rfl)) fun s r => ?_))
local macro_rules | `(tactic| walk_at "v") => `(tactic| first
  | with_reducible refine wpAny_Return_some ?_
  | with_reducible refine wpAny_Return_none ?_
  | ((with_reducible refine wpAny_Compare1 (hm := ?hm) ?_); (case hm => with_unfolding_all rfl))
  | ((with_reducible refine wpAny_isTrue_Compare1 (hm := ?hm) ?_); (case hm => with_unfolding_all rfl))
  | ((with_reducible refine wpAny_Assign_Name (hs := ?hs) ?_); (case hs => rfl))
  | ((with_reducible refine wpAny_Assign_Subscript (hs := ?hs) ?_); (case hs => rfl))
  | ((with_reducible refine plainObj_wpAny_Assign_Attribute (hs := ?hs) ?_); (case hs => rfl))
  | ((with_reducible refine wpAny_Assign_two (he := ?he) (hw := ?hw) ?_); (case he => rfl); (case hw => rfl))
  | with_reducible refine assign_Attr ?_
  | with_reducible refine assign_Subs ?_
  | with_reducible refine wpAny_assign_Name ?_
  | with_reducible refine Attribute_name ?_
  | with_reducible refine Attribute_any_ ?_
  | with_reducible refine Subscript_ ?_
  | with_reducible refine wpAny_If ?_
  | with_reducible refine wpAny_BinOp ?_
  | with_reducible refine wpAny_UnaryOp ?_
  | with_reducible refine wpAny_Delete ?_
  | with_reducible refine wpAny_deleteEach_cons ?_
  | with_reducible refine wpAny_deleteEach_nil ?_
  | with_reducible refine wpAny_delete_Subscript ?_
  | with_reducible refine wpAny_AugAssign_AttributeAny ?_
  | with_reducible refine wpAny_execs_nil ?_
  | with_reducible refine wpAny_Constant_none ?_
  | with_reducible refine spliced_none ?_
  | with_reducible refine ea_none ?_
  | ((with_reducible refine ea_plain ?_ ?he); (case he => rfl))
  | ((with_reducible refine' methodCall_KW (pl := ?pl) (he := ?he) ?_); (case he => rfl))
  | walk_at "nm"
  | ((with_reducible refine spliced_more ?_ (he := ?he)); (case he => rfl)))
local macro_rules | `(tactic| walk_at "vv") => `(tactic| repeat walk_at "v")
variable {prog : Program} {w : World} {K : Frag} {H : Option Value} {n : Nat} {σ : Hp}

def evict {Ω : Type} (b : Ω → B) (pop : Ω → Option Ω) (most : Int) (need : B → Int) : Nat → Ω → Option Ω
  | 0, s => if (b s).cur + need (b s) > most then none else some s
  | f + 1, s => if (b s).cur + need (b s) > most then (pop s).bind (evict b pop most need f) else some s

def B.has (b : B) (k : Int) : Bool := (aget b.data k).isSome
def B.need (b : B) (I : Info) (k c : Int) : Int := if b.has k then c - b.cost I k else c
def B.put (b : B) (I : Info) (k : Int) (v : Value) (c : Int) : B := { data := aput b.data k v, size := if I.ds = none then b.size else aput b.size k c, cur := b.cur + b.need I k c }

structure Th (prog : Program) (w : World) (K : Frag) (I : Info) (Ω : Type) where
  b : Ω → B
  rep : Hp → Nm → Ω → Prop
  rb : ∀ {σ mm s}, rep σ mm s → RB σ I mm (b s)
  keep : Hp → Hp → Prop
  krefl : ∀ σ, keep σ σ
  ktrans : ∀ {σ₁ σ₂ σ₃}, keep σ₁ σ₂ → keep σ₂ σ₃ → keep σ₁ σ₃
  pop : Ω → Option Ω
  popless : ∀ {s s' k}, pop s = some s' → aget (b s).data k = none → aget (b s').data k = none
  fpop : Addr
  lvl : Nat
  find : findIn K (.ref I.C) "popitem" = some (some (.ref fpop))
  fn : isFn K (.ref fpop) = true
  kp : keepIn K (.ref fpop) = true
  hpop : ∀ {σ mm s s'}, rep σ mm s → pop s = some s' → CallT prog w K none lvl (.ref fpop) ⟨[.ref I.x], []⟩ σ (fun _ σ' => ∃ mm', rep σ' mm' s' ∧ keep σ σ') (fun _ _ => False)

theorem aput_len {α : Type} (l : List (Int × α)) (k : Int) (v : α) : (aput l k v).length ≤ l.length + 1 := by
  unfold aput; split <;> simp

theorem v_pop {A : Around} {base : Heap} {env : Env} {os : OsState} {fs : List (Env × Nm)} {m : Nm} {s : Shared} {E : Value → Shared → Prop} {I : Info} {Ω : Type} (T : Th prog w K I Ω) {mm : Nm} {ω ω' : Ω} {pos apos cpos np : Pos} {Q : Flow → Shared → Prop}
    (a : Act K none n A base (env :: fs.map (·.1))) (r : R prog w base os ((env, m) :: fs) σ s) (hn : T.lvl ≤ n) (ok : ClsOK K I.C) (hs : m "self" = some (.ref I.x)) (hk : env.kindOf "self" = some .local)
    (rp : T.rep σ mm ω) (hp : T.pop ω = some ω')
    (h : ∀ σ' mm' s', R prog w base os ((env, m) :: fs) σ' s' → T.rep σ' mm' ω' → T.keep σ σ' → Q .next s')
    (he : eval (.Call (.Attribute (.Name "self" np) "popitem" apos) [] [] cpos) env = (do
      let ov ← eval (.Name "self" np) env
      standAt apos.atName
      let (f, first) ← holding [ov] (getMethod ov "popitem" (do return (← importBound (.Name "self" np) env).getD true))
      callWith cpos f first (backTo cpos (starEach [] env)) (backToKw cpos (keywordEach [] env)))) :
    wpAny (model prog w) A (exec (.Expr (.Call (.Attribute (.Name "self" np) "popitem" apos) [] [] cpos) pos) env) Q E s := by
  have rb := T.rb rp
  obtain ⟨j, hj, hd⟩ := rb.ns
  refine wpAny_Expr_any ?_ (by unfold interactive; rw [a.head.2.1]; rfl) (by rfl)
  refine methodCall_KW ?_ he
  refine v_local a r hk hs ?_ (by kernel_rfl)
  refine v_meth a r rb.inst hd (rb.free _ (by decide +kernel)) ok.get T.find T.fn ?_
  refine v_callK a T.kp rfl (ea_none ⟨⟨_, _, r⟩, ?_⟩)
  exact v_told a r (T.hpop rp hp) hn (fun _ σ' s' ⟨mm', rp', kp'⟩ r' => h σ' mm' s' r' rp' kp') fun _ _ _ _ x _ => x.elim
end Mine
namespace Mine
set_option pp.deepTerms false
set_option pp.deepTerms.threshold 8
local macro_rules | `(tactic| walk_at "lk") => `(tactic| first | assumption | rfl | (simp only [mset, ofs_inj, String.reduceEq, ↓reduceIte]; first | assumption | rfl) | (simp only [mset, ofs_inj, String.reduceEq, ↓reduceIte]; done))
local macro_rules | `(tactic| walk_at "nm") => `(tactic| (refine v_local (by assumption) (by assumption) (kof (by assumption) (by kernel_rfl)) (by walk_at "lk") ?_ (by kernel_rfl)))
local macro_rules | `(tactic| walk_at "st") => `(tactic| (refine v_store (by assumption) (by assumption) (kof (by assumption) (by kernel_rfl)) fun s r => ?_))
local macro_rules | `(tactic| walk_at "v") => `(tactic| first
  | with_reducible refine wpAny_Return_some ?_
  | with_reducible refine wpAny_Return_none ?_
  | ((with_reducible refine wpAny_Compare1 (hm := ?hm) ?_); (case hm => with_unfolding_all rfl))
  | ((with_reducible refine wpAny_isTrue_Compare1 (hm := ?hm) ?_); (case hm => with_unfolding_all rfl))
  | ((with_reducible refine wpAny_Assign_Name (hs := ?hs) ?_); (case hs => rfl))
  | ((with_reducible refine wpAny_Assign_Subscript (hs := ?hs) ?_); (case hs => rfl))
  | ((with_reducible refine plainObj_wpAny_Assign_Attribute (hs := ?hs) ?_); (case hs => rfl))
  | ((with_reducible refine wpAny_Assign_two (he := ?he) (hw := ?hw) ?_); (case he => rfl); (case hw => rfl))
  | with_reducible refine assign_Attr ?_
  | with_reducible refine assign_Subs ?_
  | with_reducible refine wpAny_assign_Name ?_
  | with_reducible refine Attribute_name ?_
  | with_reducible refine Attribute_any_ ?_
  | with_reducible refine Subscript_ ?_
  | with_reducible refine wpAny_If ?_
  | with_reducible refine wpAny_BinOp ?_
  | with_reducible refine wpAny_UnaryOp ?_
  | with_reducible refine wpAny_Delete ?_
  | with_reducible refine wpAny_deleteEach_cons ?_
  | with_reducible refine wpAny_deleteEach_nil ?_
  | with_reducible refine wpAny_delete_Subscript ?_
  | with_reducible refine wpAny_AugAssign_AttributeAny ?_
  | with_reducible refine wpAny_execs_nil ?_
  | with_reducible refine wpAny_Constant_none ?_
  | with_reducible refine spliced_none ?_
  | with_reducible refine ea_none ?_
  | ((with_reducible refine ea_plain ?_ ?he); (case he => rfl))
  | ((with_reducible refine' methodCall_KW (pl := ?pl) (he := ?he) ?_); (case he => rfl))
  | walk_at "nm"
  | ((with_reducible refine spliced_more ?_ (he := ?he)); (case he => rfl)))
local macro_rules | `(tactic| walk_at "vv") => `(tactic| repeat walk_at "v")
variable {prog : Program} {w : World} {K : Frag} {H : Option Value} {n : Nat} {σ : Hp}

def SetOut {I : Info} {Ω : Type} (T : Th prog w K I Ω) (ω : Ω) (k : Int) (v : Value) (c : Int) (F : Nat) (σ σ' : Hp) : Prop :=
  ∃ σ₁ mm₁ ω₁, T.rep σ₁ mm₁ ω₁ ∧ T.keep σ σ₁ ∧ evict T.b T.pop I.most (fun b => b.need I k c) F ω = some ω₁ ∧ BaseOut I mm₁ ((T.b ω₁).put I k v c) σ₁ σ'

def SetRef {Ω : Type} {I : Info} (T : Th prog w K I Ω) (c : Int) (σ : Hp) (cls : String) (σ' : Hp) : Prop := cls = "ValueError" ∧ σ' = σ ∧ ((T.b = T.b) ∧ (c < 0 ∨ c > I.most))

theorem has_false {b : B} {k : Int} (h : (aget b.data k).isSome = false) : b.has k = false := h

theorem body_set_plain {I : Info} {Ω : Type} (T : Th prog w K I Ω) {mm m : Nm} {ω : Ω} {k : Int} {tk : Tok} {v : Value} {F : Nat} (hds : I.ds = none)
    (ok : ClsOK K I.C) (rp : T.rep σ mm ω) (hV : nsIn K mainGlobals "ValueError" = some none)
    (hev : 1 ≤ I.most → ((aget (T.b ω).data k).isSome = true → (T.b ω).cur ≤ I.most) ∧ ∃ ω₁, evict T.b T.pop I.most (fun b => b.need I k 1) F ω = some ω₁ ∧ (T.b ω₁).data.length < 100)
    (hs : m "self" = some (.ref I.x)) (hk : m "key" = some (.int k tk)) (hv : m "value" = some v) (hn : T.lvl ≤ n) :
    BodyT prog w K none n (fnScope s_setitem) [] (fnBody s_setitem) m σ (fun r σ' => r = .none ∧ 1 ≤ I.most ∧ SetOut T ω k v 1 F σ σ') (SetRef T 1 σ) := by
  intro A base os env fs s hsc hcl a r
  have rb := T.rb rp
  obtain ⟨j, hj, hd⟩ := rb.ns
  obtain ⟨tm, hmost⟩ := rb.hmost
  obtain ⟨tc, hcur⟩ := rb.hcur
  have hsz : mm "_Cache__size" = none := by rw [rb.hsize, hds]; rfl
  refine wpAny_execs_cons ?_
  iterate 3 walk_at "v"
  refine v_own a r rb.inst hd rb.hdata rfl ok.get ok.dict ok.fdata (by kernel_rfl) fun s r => ?_
  walk_at "st"; rename_i s r
  refine wpAny_execs_cons ?_
  iterate 3 walk_at "v"
  refine v_clsval a r rb.inst hd hsz rfl ok.get ok.dict ok.fsize (by kernel_rfl) (by kernel_rfl) fun s r => ?_
  walk_at "st"; rename_i s r
  refine wpAny_execs_cons ?_
  iterate 3 walk_at "v"
  refine v_own a r rb.inst hd hmost rfl ok.get ok.dict ok.fmax (by kernel_rfl) fun s r => ?_
  walk_at "st"; rename_i s r
  refine wpAny_execs_cons ?_
  iterate 4 walk_at "v"
  refine v_isnone_none ?_
  refine v_truth ?_
  rw [if_pos rfl]
  refine wpAny_execs_cons ?_
  iterate 3 walk_at "v"
  refine v_int r fun s t r => ?_
  refine v_lt ?_
  refine v_truth ?_
  by_cases hlt : I.most < 1
  · -- refused
    simp only [hlt, decide_true, if_true]
    refine wpAny_execs_cons ?_
    refine v_raise (os := os) PySem.F.excCall_ValueError PySem.F.excRaise_ValueError a (by rfl) ?_
    refine v_builtin a r (kof hsc (by kernel_rfl)) hV (v := .type "ValueError") (by kernel_rfl) (by decide +kernel) ⟨rfl, ?_⟩ (by kernel_rfl)
    iterate 2 walk_at "v"
    refine v_str r fun s t r => ?_
    walk_at "v"
    refine ⟨rfl, by rw [sizeLine_eq]; simp, _, _, r, fun e s' u => ?_⟩
    exact lv_of_up a u ⟨rfl, rfl, rfl, .inr hlt⟩
  · simp only [hlt, decide_false, Bool.false_eq_true, if_false]
    have hle : 1 ≤ I.most := by omega
    refine wpAny_execs_cons ?_
    iterate 4 walk_at "v"
    refine v_din r rb.dict fun s r => ?_
    refine v_truth ?_
    rw [valueAt_eq]
    obtain ⟨hcm, ω₁, hω, hlen⟩ := hev hle
    have hcost : ∀ (b : B) k', b.cost I k' = 1 := fun b k' => by unfold B.cost; rw [if_pos hds]
    have blen := rb.small
    cases hin : (aget (T.b ω).data k).isSome with
    | true =>
      have hcm := hcm hin
      rw [if_pos rfl]
      refine wpAny_execs_cons ?_
      iterate 4 walk_at "v"
      refine v_dset r rb.dict (by omega) fun s r => ?_
      iterate 4 (first | refine wpAny_execs_nil ?_ | skip)
      have hev0 : evict T.b T.pop I.most (fun b => b.need I k 1) F ω = some ω := by
        have h0 : ¬ (T.b ω).cur + (T.b ω).need I k 1 > I.most := by unfold B.need; rw [show (T.b ω).has k = true from hin, if_pos rfl, hcost]; omega
        cases F <;> (unfold evict; rw [if_neg h0])
      have hωω : ω₁ = ω := Option.some.inj (hω.symm.trans hev0)
      have rb1 := rb.setData (l := aput (T.b ω).data k v) (by have := aput_len (T.b ω).data k v; rw [hωω] at hlen; omega)
      refine ⟨_, _, r, rfl, hle, σ, mm, ω, rp, T.krefl _, hev0, mm, ?_, fun _ _ => rfl, Chg.set (by simp [baseFp])⟩
      have : (T.b ω).put I k v 1 = { T.b ω with data := aput (T.b ω).data k v } := by
        unfold B.put B.need
        rw [show (T.b ω).has k = true from hin, if_pos rfl, hcost, if_pos hds]
        simp
      rw [this]
      exact rb1
    | false =>
      rw [if_neg (by decide)]
      have hno : aget (T.b ω).data k = none := by cases hq : aget (T.b ω).data k with | none => rfl | some _ => rw [hq] at hin; cases hin
      refine wpAny_execs_cons ?_
      refine v_while (I := fun j s => ∃ σ' mm' ω', R prog w base os ((env, mset (mset (mset m "data" (.ref I.dd)) "size" .none) "maxsize" (.int I.most tm)) :: fs) σ' s ∧ T.rep σ' mm' ω' ∧ T.keep σ σ' ∧ evict T.b T.pop I.most (fun b => b.need I k 1) j ω' = some ω₁ ∧ aget (T.b ω').data k = none) lv_passes0 ?_ F ⟨σ, mm, ω, r, rp, T.krefl _, hω, hno⟩
      rintro j s ⟨σ', mm', ω', r, rp', kp, he, hno'⟩
      have rb' := T.rb rp'
      obtain ⟨j', hj', hd'⟩ := rb'.ns
      obtain ⟨tc', hcur'⟩ := rb'.hcur
      have hneed : (T.b ω').need I k 1 = 1 := by unfold B.need B.has; rw [hno']; rfl
      iterate 4 walk_at "v"
      refine v_own a r rb'.inst hd' hcur' rfl ok.get ok.dict ok.fcur (by kernel_rfl) fun s r => ?_
      refine v_int r fun s t r => ?_
      refine v_add r fun s t r => ?_
      walk_at "v"
      refine v_gt ?_
      refine v_truth ?_
      by_cases hgt : (T.b ω').cur + 1 > I.most
      · simp only [hgt, decide_true, if_true]
        have hstep : ∃ j₁ ω₂, j = j₁ + 1 ∧ T.pop ω' = some ω₂ ∧ evict T.b T.pop I.most (fun b => b.need I k 1) j₁ ω₂ = some ω₁ := by
          cases j with
          | zero => unfold evict at he; rw [hneed, if_pos hgt] at he; cases he
          | succ j₁ =>
            unfold evict at he
            rw [hneed, if_pos hgt] at he
            cases hp : T.pop ω' with
            | none => rw [hp] at he; cases he
            | some ω₂ => rw [hp] at he; exact ⟨j₁, ω₂, rfl, rfl, he⟩
        obtain ⟨j₁, ω₂, rfl, hp, he₂⟩ := hstep
        refine wpAny_execs_cons ?_
        refine v_pop T a r hn ok (by walk_at "lk") (kof hsc (by kernel_rfl)) rp' hp (fun σ₂ mm₂ s₂ r₂ rp₂ kp₂ => ?_) (by rfl)
        refine wpAny_execs_nil ?_
        exact ⟨j₁, Nat.lt_succ_self _, σ₂, mm₂, ω₂, r₂, rp₂, T.ktrans kp kp₂, he₂, T.popless hp hno'⟩
      · simp only [hgt, decide_false, Bool.false_eq_true, if_false]
        have hω' : ω' = ω₁ := by cases j <;> (unfold evict at he; rw [hneed, if_neg hgt] at he; exact Option.some.inj he)
        subst hω'
        refine wpAny_execs_cons ?_
        iterate 4 walk_at "v"
        have bl := rb'.small
        refine v_dset r rb'.dict (by omega) fun s r => ?_
        have rb1 := rb'.setData (l := aput (T.b ω').data k v) (by have := aput_len (T.b ω').data k v; omega)
        obtain ⟨j1, hj1, hd1⟩ := rb1.ns
        refine wpAny_execs_cons ?_
        iterate 2 walk_at "v"
        refine v_own a r rb1.inst hd1 hcur' rfl ok.get ok.dict ok.fcur (by kernel_rfl) fun s r => ?_
        refine v_int r fun s t r => ?_
        refine v_iadd r fun s t r => ?_
        refine v_setold a r rb1.inst hd1 (by omega) (by rw [hcur']; rfl) ok.seta ok.over ok.tcur ok.dict fun s r => ?_
        iterate 5 (first | refine wpAny_execs_nil ?_ | skip)
        refine ⟨_, _, r, rfl, hle, σ', mm', ω', rp', kp, hω, _, ?_, same_cur (v := .int ((T.b ω').cur + 1) t), (Chg.set (by simp [baseFp])).trans (Chg.set (by simp [baseFp]))⟩
        have : (T.b ω').put I k v 1 = { T.b ω' with data := aput (T.b ω').data k v, cur := (T.b ω').cur + 1 } := by
          unfold B.put
          rw [hneed, if_pos hds]
        rw [this]
        exact rb1.setCur hj1
end Mine
namespace Mine
theorem aget_adel {α : Type} (l : List (Int × α)) (k x : Int) : aget (adel l k) x = if x = k then none else aget l x := by
  unfold aget adel
  induction l with
  | nil => simp
  | cons a r ih =>
    simp only [List.filter_cons]
    by_cases h : a.1 = k
    · simp only [h, ne_eq, not_true_eq_false, decide_false, Bool.false_eq_true, if_false, ih, List.find?_cons]
      by_cases hx : x = k
      · simp [hx]
      · simp only [hx, if_false, show ¬ k = x from fun q => hx q.symm, decide_false]
    · simp only [h, ne_eq, not_false_eq_true, decide_true, if_true, List.find?_cons]
      by_cases hx : a.1 = x
      · simp only [hx, decide_true, Option.map_some, show ¬ x = k from fun q => h (hx.trans q), if_false]
      · simp only [hx, decide_false, ih]
theorem aget_map (l : List (Int × Value)) : True := trivial
theorem aget_aput {α : Type} (l : List (Int × α)) (k x : Int) (v : α) : aget (aput l k v) x = if x = k then some v else aget l x := by
  unfold aput
  split
  next h =>
    induction l with
    | nil => cases h
    | cons a r ih =>
      unfold aget at ih ⊢
      simp only [List.map_cons, List.find?_cons, List.any_cons, Bool.or_eq_true, decide_eq_true_eq] at h ih ⊢
      by_cases ha : a.1 = k
      · simp only [ha, if_true]
        by_cases hx : x = k
        · simp [hx]
        · simp only [hx, if_false, show ¬ k = x from fun q => hx q.symm, decide_false]
          by_cases hr : r.any (fun e => decide (e.1 = k)) = true
          · have := ih hr; simp only [hx, if_false] at this; exact this
          · rw [List.map_congr_left (g := id) fun e he => ?_, List.map_id]
            rw [if_neg]; rfl
            intro q
            exact hr (List.any_eq_true.mpr ⟨e, he, by simpa using q⟩)
      · have hr := h.resolve_left ha
        simp only [ha, if_false]
        by_cases hx : a.1 = x
        · have : ¬ x = k := fun q => ha (hx.trans q)
          simp [hx, this]
        · simp only [hx, decide_false]; exact ih hr
  next h =>
    unfold aget
    simp only [List.find?_append, List.find?_cons, List.find?_nil]
    by_cases hx : x = k
    · subst hx
      have : l.find? (fun e => decide (e.1 = x)) = none := List.find?_eq_none.mpr fun e he q => h (List.any_eq_true.mpr ⟨e, he, q⟩)
      rw [this]; simp
    · rw [if_neg hx]
      simp only [show ¬ k = x from fun q => hx q.symm, decide_false]
      cases l.find? (fun e => decide (e.1 = x)) <;> rfl
theorem aget_aput_self {α : Type} (l : List (Int × α)) (k : Int) (v : α) : aget (aput l k v) k = some v := by rw [aget_aput, if_pos rfl]
theorem aget_aput_ne {α : Type} (l : List (Int × α)) (v : α) {k x : Int} (h : x ≠ k) : aget (aput l k v) x = aget l x := by rw [aget_aput, if_neg h]
theorem has_del {I : Info} {b : B} {k x : Int} : (b.del I k).has x = (b.has x && decide (x ≠ k)) := by
  unfold B.has B.del
  rw [aget_adel]
  by_cases h : x = k <;> simp [h]
theorem has_put {I : Info} {b : B} {k x : Int} {v : Value} {c : Int} : (b.put I k v c).has x = (b.has x || decide (x = k)) := by
  unfold B.has B.put
  rw [aget_aput]
  by_cases h : x = k <;> simp [h]
theorem size_del {I : Info} {b : B} {k : Int} (hd : I.ds ≠ none) (x : Int) (_ : True) (h : x ≠ k) : aget (b.del I k).size x = aget b.size x := by
  unfold B.del
  rw [if_neg hd, aget_adel, if_neg h]
theorem nodup_push {ks : List Int} {k : Int} (h : ks.Nodup) : (ks.filter (· ≠ k) ++ [k]).Nodup := by
  refine List.nodup_append.mpr ⟨h.filter _, by simp, fun a ha b hb => ?_⟩
  simp only [List.mem_singleton] at hb
  subst hb
  have := (List.mem_filter.mp ha).2
  simpa using this
def SetTo {prog : Program} {w : World} {K : Frag} {Ω : Type} {I : Info} (T : Th prog w K I Ω) (put : Ω → Ω) (need : B → Int) (F : Nat) (ω : Ω) (σ σ' : Hp) : Prop :=
  ∃ mm' ω₁, evict T.b T.pop I.most need F ω = some ω₁ ∧ T.rep σ' mm' (put ω₁) ∧ T.keep σ σ'

end Mine
namespace Mine
namespace P2
def inside (h : Int) : List Int := [0, 1, 2, 3, 4].filter fun x => (h / 2 ^ x.toNat) % 2 != 0
def setOf (h : Int) : St := mem (inside h)
def afters (room : Nat) (w h : Int) : List Int :=
  if w ∈ inside h then [h] else if (inside h).length = room then (inside h).map fun x => h - 2 ^ x.toNat + 2 ^ w.toNat else [h + 2 ^ w.toNat]
def costOf (w : Int) (p : Int × Int) : Int := if w ∈ inside p.1 then p.2 else p.2 + 1
def upd (more : List (Int × Int)) (p : Int × Int) : List (Int × Int) := match aget more p.1 with
  | Option.none => aput more p.1 p.2
  | some c => if p.2 < c then aput more p.1 p.2 else more
def offers (room : Nat) (w : Int) (ways : List (Int × Int)) : List (Int × Int) := ways.flatMap fun p => (afters room w p.1).map fun a => (a, costOf w p)
def turn (room : Nat) (ways : List (Int × Int)) (w : Int) : List (Int × Int) := (offers room w ways).foldl upd []
def table (room : Nat) (ws : List Int) : List (Int × Int) := ws.foldl (turn room) [(0, 0)]

theorem aget_mem {l : List (Int × Int)} {k v : Int} (h : aget l k = some v) : (k, v) ∈ l := by
  unfold aget at h
  obtain ⟨e, h1, h2⟩ := Option.map_eq_some_iff.mp h
  have := List.find?_some h1
  simp only [decide_eq_true_eq] at this
  have hm := List.mem_of_find?_eq_some h1
  rw [← this, ← h2]; exact hm
def Uniq (l : List (Int × Int)) : Prop := (l.map (·.1)).Nodup
theorem mem_aget {l : List (Int × Int)} (hu : Uniq l) {k v : Int} (h : (k, v) ∈ l) : aget l k = some v := by
  induction l with
  | nil => cases h
  | cons a t ih =>
    obtain ⟨h1, h2⟩ := List.nodup_cons.mp hu
    unfold aget
    rw [List.find?_cons]
    rcases List.mem_cons.mp h with rfl | h
    · simp
    · have hne : a.1 ≠ k := fun e => h1 (by show a.1 ∈ _; rw [e]; exact List.mem_map_of_mem (f := (·.1)) h)
      simp only [hne, decide_false]
      exact ih h2 h
theorem uniq_aput {l : List (Int × Int)} {k v : Int} (h : Uniq l) : Uniq (aput l k v) := by
  unfold aput Uniq
  split
  · rw [List.map_map]
    have : ((fun e : Int × Int => e.1) ∘ fun e : Int × Int => if e.1 = k then (e.1, v) else e) = (·.1) := by
      funext e; simp only [Function.comp]; split <;> rfl
    rw [this]; exact h
  · next hn =>
    rw [List.map_append, List.nodup_append]
    refine ⟨h, by simp, fun x hx y hy => ?_⟩
    simp only [List.map_cons, List.map_nil, List.mem_singleton] at hy
    subst hy
    rintro rfl
    obtain ⟨e, he, hk⟩ := List.mem_map.mp hx
    exact hn (List.any_eq_true.mpr ⟨e, he, by simpa using hk⟩)
theorem uniq_upd {l : List (Int × Int)} {p : Int × Int} (h : Uniq l) : Uniq (upd l p) := by
  unfold upd
  split
  · exact uniq_aput h
  · split
    · exact uniq_aput h
    · exact h
theorem get_upd (l : List (Int × Int)) (p : Int × Int) (x : Int) : aget (upd l p) x = if x = p.1 then some (match aget l p.1 with | Option.none => p.2 | some c => if p.2 < c then p.2 else c) else aget l x := by
  unfold upd
  split
  · next e => rw [aget_aput]
  · next c e =>
    split
    · next hlt => rw [aget_aput]
    · next hlt =>
      split
      · next hx => rw [hx, e]
      · rfl
theorem fold_spec : ∀ (os : List (Int × Int)) (l : List (Int × Int)), Uniq l →
    Uniq (os.foldl upd l) ∧ (∀ k c, aget (os.foldl upd l) k = some c → (k, c) ∈ os ∨ aget l k = some c) ∧
      (∀ k c, (k, c) ∈ os → ∃ c', aget (os.foldl upd l) k = some c' ∧ c' ≤ c) ∧ (∀ k c, aget l k = some c → ∃ c', aget (os.foldl upd l) k = some c' ∧ c' ≤ c)
  | [], l, hu => ⟨hu, fun k c h => .inr h, fun k c h => (by cases h), fun k c h => ⟨c, h, Int.le_refl _⟩⟩
  | p :: os, l, hu => by
    obtain ⟨h1, h2, h3, h4⟩ := fold_spec os (upd l p) (uniq_upd hu)
    refine ⟨h1, fun k c h => ?_, fun k c h => ?_, fun k c h => ?_⟩
    · rcases h2 k c h with hh | hh
      · exact .inl (.tail _ hh)
      · rw [get_upd] at hh
        by_cases hk : k = p.1
        · rw [if_pos hk] at hh
          have hh := Option.some.inj hh
          subst hk
          cases e : aget l p.1 with
          | none => rw [e] at hh; left; simp only at hh; rw [← hh]; exact .head _
          | some c0 =>
            rw [e] at hh
            simp only at hh
            split at hh
            · left; rw [← hh]; exact .head _
            · right; rw [hh]
        · rw [if_neg hk] at hh
          exact .inr hh
    · rcases List.mem_cons.mp h with e | h
      · subst e
        have : ∃ c0, aget (upd l (k, c)) k = some c0 ∧ c0 ≤ c := by
          rw [get_upd, if_pos rfl]
          refine ⟨_, rfl, ?_⟩
          simp only
          split
          · exact Int.le_refl _
          · split <;> omega
        obtain ⟨c0, q1, q2⟩ := this
        obtain ⟨c', q3, q4⟩ := h4 k c0 q1
        exact ⟨c', q3, by omega⟩
      · exact h3 k c h
    · have : ∃ c0, aget (upd l p) k = some c0 ∧ c0 ≤ c := by
        rw [get_upd]
        split
        · next hk =>
          subst hk
          refine ⟨_, rfl, ?_⟩
          rw [h]
          simp only
          split <;> omega
        · exact ⟨c, h, Int.le_refl _⟩
      obtain ⟨c0, q1, q2⟩ := this
      obtain ⟨c', q3, q4⟩ := h4 k c0 q1
      exact ⟨c', q3, by omega⟩

theorem inside_mem {h x : Int} (hx : x ∈ inside h) : 0 ≤ x ∧ x < 5 := by
  have := (List.mem_filter.mp hx).1
  simp at this; omega
theorem mask_cold : ∀ h : Fin 32, ∀ w : Fin 5, ((w.val : Int) ∉ inside h.val) → ((h.val : Int) + 2 ^ ((w.val : Int)).toNat < 32) ∧ (inside ((h.val : Int) + 2 ^ ((w.val : Int)).toNat)).length = (inside h.val).length + 1 ∧
    ∀ x : Fin 5, ((x.val : Int) ∈ inside ((h.val : Int) + 2 ^ ((w.val : Int)).toNat)) ↔ ((x.val : Int) ∈ inside h.val ∨ x = w) := by decide +kernel
theorem mask_full : ∀ h : Fin 32, ∀ w : Fin 5, ∀ v : Fin 5, ((w.val : Int) ∉ inside h.val) → ((v.val : Int) ∈ inside h.val) → (0 ≤ (h.val : Int) - 2 ^ ((v.val : Int)).toNat + 2 ^ ((w.val : Int)).toNat ∧ (h.val : Int) - 2 ^ ((v.val : Int)).toNat + 2 ^ ((w.val : Int)).toNat < 32) ∧
    (inside ((h.val : Int) - 2 ^ ((v.val : Int)).toNat + 2 ^ ((w.val : Int)).toNat)).length = (inside h.val).length ∧
    ∀ x : Fin 5, ((x.val : Int) ∈ inside ((h.val : Int) - 2 ^ ((v.val : Int)).toNat + 2 ^ ((w.val : Int)).toNat)) ↔ (((x.val : Int) ∈ inside h.val ∧ x ≠ v) ∨ x = w) := by decide +kernel
def Mask (room : Nat) (h : Int) : Prop := 0 ≤ h ∧ h < 32 ∧ (inside h).length ≤ room
theorem fin_of {x : Int} {k : Nat} (h0 : 0 ≤ x) (h1 : x < k) : ∃ f : Fin k, (f.val : Int) = x := ⟨⟨x.toNat, by omega⟩, by simp; omega⟩
theorem setOf_ext {h : Int} {S : St} (hS : ∀ x, S x = true → 0 ≤ x ∧ x < 5) (k : ∀ x : Fin 5, (x.val : Int) ∈ inside h ↔ S x.val = true) : setOf h = S := by
  funext x
  by_cases hx : 0 ≤ x ∧ x < 5
  · obtain ⟨f, hf⟩ := fin_of (k := 5) hx.1 hx.2
    have := k f
    rw [hf] at this
    rw [Bool.eq_iff_iff]
    simpa [setOf, mem] using this
  · have h1 : x ∉ inside h := fun q => hx (inside_mem q)
    have h2 : S x = false := by
      cases e : S x with
      | false => rfl
      | true => exact absurd (hS x e) hx
    simp [setOf, mem, h1, h2]
theorem step_cold {room : Nat} {h w : Int} (M : Mask room h) (hw : 0 ≤ w ∧ w < 5) (hn : w ∉ inside h) (hl : (inside h).length < room) : Mask room (h + 2 ^ w.toNat) ∧ (inside (h + 2 ^ w.toNat)).length = (inside h).length + 1 ∧ setOf (h + 2 ^ w.toNat) = add (setOf h) w := by
  obtain ⟨fh, rfl⟩ := fin_of (k := 32) M.1 M.2.1
  obtain ⟨fw, rfl⟩ := fin_of (k := 5) hw.1 hw.2
  obtain ⟨h1, h2, h3⟩ := mask_cold fh fw hn
  refine ⟨⟨by have := Int.pow_pos (n := 2) (m := ((fw.val : Int)).toNat) (by omega); have := M.1; omega, h1, by omega⟩, h2, setOf_ext (fun x hx => ?_) fun x => ?_⟩
  · simp only [add, setOf, mem, Bool.or_eq_true, decide_eq_true_eq] at hx
    rcases hx with hx | hx
    · exact inside_mem hx
    · subst hx; exact hw
  · rw [h3]
    simp only [add, setOf, mem, Bool.or_eq_true, decide_eq_true_eq]
    constructor
    · rintro (q | q)
      · exact .inl q
      · exact .inr (by rw [q])
    · rintro (q | q)
      · exact .inl q
      · exact .inr (Fin.ext (by omega))
theorem step_full {room : Nat} {h w v : Int} (M : Mask room h) (hw : 0 ≤ w ∧ w < 5) (hn : w ∉ inside h) (hv : v ∈ inside h) : Mask room (h - 2 ^ v.toNat + 2 ^ w.toNat) ∧ (inside (h - 2 ^ v.toNat + 2 ^ w.toNat)).length = (inside h).length ∧ setOf (h - 2 ^ v.toNat + 2 ^ w.toNat) = add (rem (setOf h) v) w := by
  have hv5 := inside_mem hv
  obtain ⟨fh, rfl⟩ := fin_of (k := 32) M.1 M.2.1
  obtain ⟨fw, rfl⟩ := fin_of (k := 5) hw.1 hw.2
  obtain ⟨fv, rfl⟩ := fin_of (k := 5) hv5.1 hv5.2
  obtain ⟨⟨h0, h1⟩, h2, h3⟩ := mask_full fh fw fv hn hv
  refine ⟨⟨h0, h1, by rw [h2]; exact M.2.2⟩, h2, setOf_ext (fun x hx => ?_) fun x => ?_⟩
  · simp only [add, rem, setOf, mem, Bool.or_eq_true, Bool.and_eq_true, decide_eq_true_eq] at hx
    rcases hx with hx | hx
    · exact inside_mem hx.1
    · subst hx; exact hw
  · rw [h3]
    simp only [add, rem, setOf, mem, Bool.or_eq_true, Bool.and_eq_true, decide_eq_true_eq]
    constructor
    · rintro (⟨q1, q2⟩ | q)
      · exact .inl ⟨q1, fun e => q2 (Fin.ext (by omega))⟩
      · exact .inr (by rw [q])
    · rintro (⟨q1, q2⟩ | q)
      · exact .inl ⟨q1, fun e => q2 (by rw [e])⟩
      · exact .inr (Fin.ext (by omega))

structure Ok (room : Nat) (pfx : List Int) (ways : List (Int × Int)) : Prop where
  uniq : Uniq ways
  mask : ∀ p ∈ ways, Mask room p.1 ∧ 0 ≤ p.2
  sound : ∀ p ∈ ways, ∀ rest m, Run room rest (inside p.1).length (setOf p.1) m → Run room (pfx ++ rest) 0 none (p.2.toNat + m)
  whole : ∀ rest M, Run room (pfx ++ rest) 0 none M → ∃ p m, p ∈ ways ∧ p.2.toNat + m ≤ M ∧ Run room rest (inside p.1).length (setOf p.1) m
theorem Ok.start (room : Nat) : Ok room [] [(0, 0)] where
  uniq := by simp [Uniq]
  mask := fun p hp => by
    simp only [List.mem_singleton] at hp; subst hp
    have e : inside 0 = [] := by decide +kernel
    refine ⟨⟨by simp, by simp, ?_⟩, by simp⟩
    show (inside 0).length ≤ room
    rw [e]; exact Nat.zero_le _
  sound := fun p hp rest m h => by
    simp only [List.mem_singleton] at hp; subst hp
    have e : inside 0 = [] := by decide +kernel
    have e2 : setOf 0 = none := by funext x; simp [setOf, mem, e, none]
    simp only [e, e2, List.length_nil] at h
    simpa using h
  whole := fun rest M h => by
    have e : inside 0 = [] := by decide +kernel
    have e2 : setOf 0 = none := by funext x; simp [setOf, mem, e, none]
    exact ⟨(0, 0), M, .head _, by simp, by simp only [e, e2, List.length_nil]; exact h⟩
theorem mem_offers {room : Nat} {w : Int} {ways : List (Int × Int)} {q : Int × Int} : q ∈ offers room w ways ↔ ∃ p ∈ ways, q.1 ∈ afters room w p.1 ∧ q.2 = costOf w p := by
  unfold offers
  rw [List.mem_flatMap]
  constructor
  · rintro ⟨p, hp, h⟩
    obtain ⟨a, ha, rfl⟩ := List.mem_map.mp h
    exact ⟨p, hp, ha, rfl⟩
  · rintro ⟨p, hp, h1, h2⟩
    exact ⟨p, hp, List.mem_map.mpr ⟨q.1, h1, by rw [← h2]⟩⟩
theorem offer_ok {room : Nat} {w : Int} {p : Int × Int} (M : Mask room p.1) (hc : 0 ≤ p.2) (hw : 0 ≤ w ∧ w < 5) {a : Int} (ha : a ∈ afters room w p.1) :
    Mask room a ∧ 0 ≤ costOf w p ∧ ∀ rest m, Run room rest (inside a).length (setOf a) m → ∃ m', Run room (w :: rest) (inside p.1).length (setOf p.1) m' ∧ p.2.toNat + m' = (costOf w p).toNat + m := by
  unfold afters at ha
  unfold costOf
  by_cases hin : w ∈ inside p.1
  · rw [if_pos hin] at ha ⊢
    simp only [List.mem_singleton] at ha; subst ha
    exact ⟨M, hc, fun rest m h => ⟨m, (Run.hit (by simp [setOf, mem, hin])).mpr h, rfl⟩⟩
  · rw [if_neg hin] at ha ⊢
    have hS : setOf p.1 w = false := by simp [setOf, mem, hin]
    by_cases hl : (inside p.1).length = room
    · rw [if_pos hl] at ha
      obtain ⟨v, hv, rfl⟩ := List.mem_map.mp ha
      obtain ⟨h1, h2, h3⟩ := step_full M hw hin hv
      refine ⟨h1, by omega, fun rest m h => ⟨m + 1, (Run.full hS (by omega)).mpr ⟨m, rfl, v, by simp [setOf, mem, hv], ?_⟩, by omega⟩⟩
      rw [h2, h3] at h; exact h
    · rw [if_neg hl] at ha
      simp only [List.mem_singleton] at ha; subst ha
      have hlt : (inside p.1).length < room := by have := M.2.2; omega
      obtain ⟨h1, h2, h3⟩ := step_cold M hw hin hlt
      refine ⟨h1, by omega, fun rest m h => ⟨m + 1, (Run.cold hS hlt).mpr ⟨m, rfl, ?_⟩, by omega⟩⟩
      rw [h2, h3] at h; exact h
theorem run_offer {room : Nat} {w : Int} {p : Int × Int} (M : Mask room p.1) (hc : 0 ≤ p.2) (hw : 0 ≤ w ∧ w < 5) {rest : List Int} {m' : Nat} (h : Run room (w :: rest) (inside p.1).length (setOf p.1) m') :
    ∃ a m, a ∈ afters room w p.1 ∧ Run room rest (inside a).length (setOf a) m ∧ p.2.toNat + m' = (costOf w p).toNat + m := by
  unfold afters costOf
  by_cases hin : w ∈ inside p.1
  · rw [if_pos hin, if_pos hin]
    exact ⟨p.1, m', .head _, (Run.hit (by simp [setOf, mem, hin])).mp h, rfl⟩
  · rw [if_neg hin, if_neg hin]
    have hS : setOf p.1 w = false := by simp [setOf, mem, hin]
    by_cases hl : (inside p.1).length = room
    · rw [if_pos hl]
      obtain ⟨m, rfl, v, hv, h2⟩ := (Run.full hS (by omega)).mp h
      have hv : v ∈ inside p.1 := by simpa [setOf, mem] using hv
      obtain ⟨h1, h3, h4⟩ := step_full M hw hin hv
      exact ⟨_, m, List.mem_map.mpr ⟨v, hv, rfl⟩, by rw [h3, h4]; exact h2, by omega⟩
    · rw [if_neg hl]
      have hlt : (inside p.1).length < room := by have := M.2.2; omega
      obtain ⟨m, rfl, h2⟩ := (Run.cold hS hlt).mp h
      obtain ⟨h1, h3, h4⟩ := step_cold M hw hin hlt
      exact ⟨_, m, .head _, by rw [h3, h4]; exact h2, by omega⟩
theorem Ok.turn {room : Nat} {pfx : List Int} {ways : List (Int × Int)} {w : Int} (k : Ok room pfx ways) (hw : 0 ≤ w ∧ w < 5) : Ok room (pfx ++ [w]) (turn room ways w) := by
  obtain ⟨f1, f2, f3, _⟩ := fold_spec (offers room w ways) [] (by simp [Uniq])
  have from_ : ∀ p ∈ P2.turn room ways w, ∃ q ∈ ways, p.1 ∈ afters room w q.1 ∧ p.2 = costOf w q := fun p hp => by
    rcases f2 p.1 p.2 (mem_aget f1 hp) with h | h
    · exact mem_offers.mp h
    · simp [aget] at h
  refine ⟨f1, fun p hp => ?_, fun p hp rest m h => ?_, fun rest M h => ?_⟩
  · obtain ⟨q, hq, h1, h2⟩ := from_ p hp
    obtain ⟨m1, m2⟩ := k.mask q hq
    obtain ⟨o1, o2, _⟩ := offer_ok m1 m2 hw h1
    exact ⟨o1, by rw [h2]; exact o2⟩
  · obtain ⟨q, hq, h1, h2⟩ := from_ p hp
    obtain ⟨m1, m2⟩ := k.mask q hq
    obtain ⟨_, _, o3⟩ := offer_ok m1 m2 hw h1
    obtain ⟨m', r1, r2⟩ := o3 rest m h
    have := k.sound q hq _ _ r1
    rw [List.append_assoc]
    rw [h2, ← r2]; exact this
  · rw [List.append_assoc] at h
    obtain ⟨q, m', hq, hle, h2⟩ := k.whole _ _ h
    obtain ⟨m1, m2⟩ := k.mask q hq
    obtain ⟨a, m, h3, h4, h5⟩ := run_offer m1 m2 hw h2
    obtain ⟨c', h6, h7⟩ := f3 a (costOf w q) (mem_offers.mpr ⟨q, hq, h3, rfl⟩)
    have h8 : ((a, c') : Int × Int) ∈ P2.turn room ways w := aget_mem h6
    exact ⟨(a, c'), m, h8, by simp only; omega, h4⟩
theorem table_ok {room : Nat} : ∀ (ws pfx : List Int) (ways : List (Int × Int)), (∀ w ∈ ws, 0 ≤ w ∧ w < 5) → Ok room pfx ways → Ok room (pfx ++ ws) (ws.foldl (turn room) ways)
  | [], pfx, ways, _, k => by simpa using k
  | w :: ws, pfx, ways, hw, k => by
    have := table_ok ws (pfx ++ [w]) _ (fun x hx => hw x (.tail _ hx)) (k.turn (hw w (.head _)))
    rw [List.append_assoc] at this
    exact this
theorem table_least {room : Nat} {ws : List Int} (hw : ∀ w ∈ ws, 0 ≤ w ∧ w < 5) {least : Int} (h1 : ∃ p ∈ table room ws, p.2 = least) (h2 : ∀ p ∈ table room ws, least ≤ p.2) :
    0 ≤ least ∧ Run room ws 0 none least.toNat ∧ ∀ M, Run room ws 0 none M → least.toNat ≤ M := by
  have k := table_ok ws [] _ hw (Ok.start room)
  simp only [List.nil_append] at k
  obtain ⟨p, hp, e⟩ := h1
  refine ⟨by rw [← e]; exact (k.mask p hp).2, ?_, fun M h => ?_⟩
  · have := k.sound p hp [] 0 rfl
    rw [e] at this
    simpa using this
  · obtain ⟨q, m, hq, hle, _⟩ := k.whole [] M (by simpa using h)
    have := h2 q hq
    omega
theorem table_ne {room : Nat} {ws : List Int} (hw : ∀ w ∈ ws, 0 ≤ w ∧ w < 5) (hr : 1 ≤ room) : table room ws ≠ [] := by
  have k := table_ok ws [] _ hw (Ok.start room)
  simp only [List.nil_append] at k
  have h0 := ord_run (touch := false) hr ws (L := []) (by simp) (by simp)
  rw [show mem [] = none from by funext x; simp [mem, none]] at h0
  obtain ⟨q, m, hq, _⟩ := k.whole [] _ (by simpa using h0)
  intro e
  rw [show (ws.foldl (turn room) [(0, 0)]) = [] from e] at hq
  cases hq
end P2
end Mine
namespace Mine
set_option pp.deepTerms false
set_option pp.deepTerms.threshold 8
local macro_rules | `(tactic| walk_at "lk") => `(tactic| first | assumption | rfl | (simp only [mset, ofs_inj, String.reduceEq, ↓reduceIte]; first | assumption | rfl) | (simp only [mset, ofs_inj, String.reduceEq, ↓reduceIte]; done))
local macro_rules | `(tactic| walk_at "nm") => `(tactic| (refine v_local (by assumption) (by assumption) (kof (by assumption) (by kernel_rfl)) (by walk_at "lk") ?_ (by kernel_rfl)))
local macro_rules | `(tactic| walk_at "st") => `(tactic| (refine v_store (by assumption) (by assumption) (kof (by assumption) (by kernel_rfl)) fun s r => ?_))
local macro_rules | `(tactic| walk_at "v") => `(tactic| first
  | with_reducible refine wpAny_Return_some ?_
  | with_reducible refine wpAny_Return_none ?_
  | ((with_reducible refine wpAny_Compare1 (hm := ?hm) ?_); (case hm => with_unfolding_all rfl))
  | ((with_reducible refine wpAny_isTrue_Compare1 (hm := ?hm) ?_); (case hm => with_unfolding_all rfl))
  | ((with_reducible refine wpAny_Assign_Name (hs := ?hs) ?_); (case hs => rfl))
  | ((with_reducible refine wpAny_Assign_Subscript (hs := ?hs) ?_); (case hs => rfl))
  | ((with_reducible refine plainObj_wpAny_Assign_Attribute (hs := ?hs) ?_); (case hs => rfl))
  | ((with_reducible refine wpAny_Assign_two (he := ?he) (hw := ?hw) ?_); (case he => rfl); (case hw => rfl))
  | with_reducible refine assign_Attr ?_
  | with_reducible refine assign_Subs ?_
  | with_reducible refine wpAny_assign_Name ?_
  | with_reducible refine Attribute_name ?_
  | with_reducible refine Attribute_any_ ?_
  | with_reducible refine Subscript_ ?_
  | with_reducible refine wpAny_If ?_
  | with_reducible refine wpAny_BinOp ?_
  | with_reducible refine wpAny_UnaryOp ?_
  | with_reducible refine wpAny_Delete ?_
  | with_reducible refine wpAny_deleteEach_cons ?_
  | with_reducible refine wpAny_deleteEach_nil ?_
  | with_reducible refine wpAny_delete_Subscript ?_
  | with_reducible refine wpAny_AugAssign_AttributeAny ?_
  | with_reducible refine wpAny_execs_nil ?_
  | with_reducible refine wpAny_Constant_none ?_
  | with_reducible refine spliced_none ?_
  | with_reducible refine ea_none ?_
  | ((with_reducible refine ea_plain ?_ ?he); (case he => rfl))
  | ((with_reducible refine' methodCall_KW (pl := ?pl) (he := ?he) ?_); (case he => rfl))
  | walk_at "nm"
  | ((with_reducible refine spliced_more ?_ (he := ?he)); (case he => rfl)))
local macro_rules | `(tactic| walk_at "vv") => `(tactic| repeat walk_at "v")
namespace L2
variable {prog : Program} {w : World} {K : Frag} {H : Option Value} {n : Nat} {σ : Hp}
def forBody : Stmt → List Stmt
  | .For _ _ b _ _ => b
  | _ => []
def s_for1 : Stmt := stmtAt (fnBody s_least) 1
def s_for2 : Stmt := stmtAt (forBody s_for1) 1
def s_if : Stmt := stmtAt (forBody s_for2) 3
def s_for3 : Stmt := stmtAt (forBody s_for2) 4

theorem ints_get {vs : List Value} {ns : List Int} (h : IntsAre vs ns) : ∀ {i : Nat} {v : Value}, vs[i]? = some v → ∃ x, ns[i]? = some x ∧ ∃ t, v = .int x t := by
  induction h with
  | nil => intro i v hv; simp at hv
  | cons a t _ ih =>
    intro i v hv
    cases i with
    | zero => simp at hv; subst hv; exact ⟨a, rfl, t, rfl⟩
    | succ j => simp at hv; exact ih hv

theorem mset_ne {m : Nm} {x y : Str} {v : Value} (h : y ≠ x) : mset m x v y = m y := if_neg h
theorem upd_none {l : List (Int × Int)} {x c : Int} (h : aget l x = none) : P2.upd l (x, c) = aput l x c := by unfold P2.upd; simp only [h]
theorem upd_lt {l : List (Int × Int)} {x c c0 : Int} (h : aget l x = some c0) (hc : c < c0) : P2.upd l (x, c) = aput l x c := by unfold P2.upd; simp only [h, hc, if_true]
theorem upd_ge {l : List (Int × Int)} {x c c0 : Int} (h : aget l x = some c0) (hc : ¬ c < c0) : P2.upd l (x, c) = l := by unfold P2.upd; simp only [h, hc, if_false]
theorem upd_len (l : List (Int × Int)) (p : Int × Int) : (P2.upd l p).length ≤ l.length + 1 := by
  unfold P2.upd
  split
  · exact aput_len _ _ _
  · split
    · exact aput_len _ _ _
    · omega

theorem for3 {A : Around} {base : Heap} {os : OsState} {env : Env} {fs : List (Env × Nm)} {m : Nm} {s : Shared} {E : Value → Shared → Prop} {la d2 : Addr} {va : List Value} {as : List Int} {kvs : List (Int × Value)} {l : List (Int × Int)} {c : Int} {tc : Tok} {Q : Flow → Shared → Prop}
    (a : Act K none n A base (env :: fs.map (·.1))) (hE : PassesOwn (model prog w) A env E) (hsc : env.scope = fnScope s_least) (r : R prog w base os ((env, m) :: fs) σ s)
    (h1 : m "afters" = some (.ref la)) (hla : σ la = some (.list va)) (hia : IntsAre va as) (h2 : m "more" = some (.ref d2)) (hd2 : σ d2 = some (.dict kvs)) (hkv : IntKV kvs l) (h3 : m "cost" = some (.int c tc)) (hl : l.length + as.length ≤ 900)
    (fin : ∀ m' σ' s' kvs', R prog w base os ((env, m') :: fs) σ' s' → (∀ x : Str, x ≠ "after" → m' x = m x) → IntKV kvs' ((as.map (·, c)).foldl P2.upd l) → σ' d2 = some (.dict kvs') → (∀ a, a ≠ d2 → σ a ≠ none → σ' a = σ a) → Q .next s') :
    wpAny (model prog w) A (exec s_for3 env) Q E s := by
  have hne : la ≠ d2 := fun e => by rw [e, hd2] at hla; cases hla
  refine v_forL (base := base) (os := os) (fs := fs) a hE (fun _ => rfl) ?_
  walk_at "nm"
  refine ⟨m, σ, la, va, rfl, r, hla, (fun i m' σ' => (∀ x : Str, x ≠ "after" → m' x = m x) ∧ (∃ kvs', IntKV kvs' (((as.take i).map (·, c)).foldl P2.upd l) ∧ σ' d2 = some (.dict kvs')) ∧ (∀ a, a ≠ d2 → σ a ≠ none → σ' a = σ a) ∧ (((as.take i).map (·, c)).foldl P2.upd l).length ≤ l.length + i), ?_, ?_, ?_, ?_⟩
  · exact ⟨fun _ _ => rfl, ⟨kvs, by simpa using hkv, hd2⟩, fun _ _ _ => rfl, by simp⟩
  · rintro i m' σ' it x hit his ⟨j1, ⟨kvs', j2, j3⟩, j4, j5⟩
    have hd : d2 ≠ it := fun e => by rw [e, hit] at hd2; cases hd2
    exact ⟨j1, ⟨kvs', j2, by rw [Hp.set_ne _ _ hd]; exact j3⟩, fun b hb hn => by rw [Hp.set_ne _ _ (fun e : b = it => hn (by rw [e]; exact hit))]; exact j4 b hb hn, j5⟩
  · rintro it i m' σ' v s hv ⟨j1, ⟨kvs', j2, j3⟩, j4, j5⟩ hl' hit r
    obtain ⟨x, hx, t, rfl⟩ : ∃ x, as[i]? = some x ∧ ∃ t, v = .int x t := ints_get hia hv
    have hi : i < as.length := (List.getElem?_eq_some_iff.mp hx).1
    have hlen : kvs'.length ≤ 900 := by rw [j2.len]; omega
    have hstep : ((as.take (i + 1)).map (·, c)).foldl P2.upd l = P2.upd (((as.take i).map (·, c)).foldl P2.upd l) (x, c) := by
      rw [List.take_add_one, hx]; simp
    have fin' : ∀ {σ'' : Hp} {s'' : Shared} {k2 : List (Int × Value)} {m'' : Nm}, R prog w base os ((env, m'') :: fs) σ'' s'' → (∀ x : Str, x ≠ "after" → m'' x = m x) → IntKV k2 (P2.upd (((as.take i).map (·, c)).foldl P2.upd l) (x, c)) → σ'' d2 = some (.dict k2) → (∀ a, a ≠ d2 → σ' a ≠ none → σ'' a = σ' a) →
        ∃ m' σ'_1, R prog w base os ((env, m') :: fs) σ'_1 s'' ∧ ((∀ x : Str, x ≠ "after" → m' x = m x) ∧ (∃ kvs', IntKV kvs' (((as.take (i + 1)).map (·, c)).foldl P2.upd l) ∧ σ'_1 d2 = some (.dict kvs')) ∧ (∀ a, a ≠ d2 → σ a ≠ none → σ'_1 a = σ a) ∧ (((as.take (i + 1)).map (·, c)).foldl P2.upd l).length ≤ l.length + (i + 1)) ∧ σ'_1 it = σ' it ∧ σ'_1 la = σ' la := fun {σ'' s'' k2 m''} r2 q1 q2 q3 q4 => by
      have hitd : it ≠ d2 := fun e => by rw [e, j3] at hit; cases hit
      refine ⟨_, _, r2, ⟨q1, ⟨k2, by rw [hstep]; exact q2, q3⟩, fun b hb hn => ?_, ?_⟩, q4 it hitd (by rw [hit]; simp), q4 la hne (by rw [hl']; simp)⟩
      · have := j4 b hb hn
        rw [q4 b hb (by rw [this]; exact hn)]; exact this
      · rw [hstep]
        have := upd_len (((as.take i).map (·, c)).foldl P2.upd l) (x, c)
        omega
    have k2 : m' "more" = some (.ref d2) := (j1 _ (by decide +kernel)).trans h2
    have k3 : m' "cost" = some (.int c tc) := (j1 _ (by decide +kernel)).trans h3
    walk_at "v"
    walk_at "st"; rename_i s r
    refine wpAny_execs_cons ?_
    walk_at "vv"
    refine isTrue_or ?_
    walk_at "vv"
    refine v_dnotin r j3 fun s r => ?_
    refine v_truth ?_
    have hg := j2.get x
    rw [valueAt_eq]
    cases e : aget (((as.take i).map (·, c)).foldl P2.upd l) x with
    | none =>
      rw [e] at hg
      have hg : aget kvs' x = none := hg
      rw [hg]
      simp only [Option.isSome_none, Bool.not_false, if_true]
      refine wpAny_execs_cons ?_
      walk_at "vv"
      refine v_dset r j3 (by omega) fun s r => ?_
      rw [stored_eq] at r
      walk_at "vv"
      exact fin' r (fun y hy => (mset_ne hy).trans (j1 y hy)) (k2 := aput kvs' x (.int c tc)) (by rw [upd_none e]; exact j2.put x c tc) (Hp.set_self _ _ _) fun b hb _ => Hp.set_ne _ _ hb
    | some c0 =>
      rw [e] at hg
      obtain ⟨t0, hg⟩ : ∃ t, aget kvs' x = some (.int c0 t) := hg
      rw [hg]
      simp only [Option.isSome_some, Bool.not_true, Bool.false_eq_true, if_false]
      refine isTrue_or ?_
      walk_at "vv"
      refine v_ditem r j3 (by rw [valueAt_eq]; exact hg) (fun s r => ?_) (by with_unfolding_all rfl)
      refine v_lt ?_
      refine v_truth ?_
      by_cases hlt : c < c0
      · simp only [hlt, decide_true, if_true]
        refine wpAny_execs_cons ?_
        walk_at "vv"
        refine v_dset r j3 (by omega) fun s r => ?_
        rw [stored_eq] at r
        walk_at "vv"
        exact fin' r (fun y hy => (mset_ne hy).trans (j1 y hy)) (k2 := aput kvs' x (.int c tc)) (by rw [upd_lt e hlt]; exact j2.put x c tc) (Hp.set_self _ _ _) fun b hb _ => Hp.set_ne _ _ hb
      · simp only [hlt, decide_false, Bool.false_eq_true, if_false]
        refine isTrue_or_nil ?_
        rw [if_neg (by decide)]
        refine wpAny_execs_nil ?_
        refine wpAny_execs_nil ?_
        exact fin' r (fun y hy => (mset_ne hy).trans (j1 y hy)) (k2 := kvs') (by rw [upd_ge e hlt]; exact j2) j3 fun b hb _ => rfl
  · rintro it m' σ' s ⟨j1, ⟨kvs', j2, j3⟩, j4, j5⟩ hit hl' hit2 r
    have hlen : va.length = as.length := hia.length
    rw [hlen, List.take_length] at j2
    have hd : d2 ≠ it := fun e => by rw [e, hit] at hd2; cases hd2
    exact fin _ _ _ kvs' r j1 j2 (by rw [Hp.del_ne _ (by simpa using hd)]; exact j3) fun b hb hn => by
      rw [Hp.del_ne _ (by simp; rintro rfl; exact hn hit)]; exact j4 b hb hn
end L2
end Mine
namespace Mine
section
variable {prog : Program} {w : World} {K : Frag} {H : Option Value} {n : Nat} {A : Around} {base : Heap} {env : Env} {os : OsState} {fs : List (Env × Nm)} {m : Nm} {σ : Hp} {s : Shared}
  {E : Value → Shared → Prop}

structure PureGoal (prog : Program) (w : World) (A : Around) (base : Heap) (os : OsState) (env : Env) (fs : List (Env × Nm)) (elt : Expr) (x : Str) (px : Pos) (ifs : List Expr) (scope : Scope) (cl : List (Str × Addr))
    (it : Value) (s : Shared) (m : Nm) (σ : Hp) (I : Addr) (len : Nat) (S : Src prog w (.Name x px) I len) (Pf : Nat → List Value → Prop) : Prop where
  isIt : it = .ref I
  short : len ≤ 1000
  r : R prog w base os ((env, m) :: fs) σ s
  at0 : S.At 0 σ
  p0 : Pf 0 []
  turn : ∀ C i ys σ₁ σ₁' σ₂ v cm s, i < len → Pf i ys → S.At i σ₁ → S.Step i v σ₁ σ₁' → S.At (i + 1) σ₂ → (∀ a, a ∉ S.dep → σ a ≠ none → σ₂ a = σ a) → σ C = none → σ₂ C = some (.loc cm) → cm x = some v → R prog w base os ((env, m) :: fs) σ₂ s →
      wpAny (model prog w) A (compIfs ifs (compEnvC scope cl C env)) (fun ok s₃ =>
        if ok = true then wpAny (model prog w) A (eval elt (compEnvC scope cl C env)) (fun y s₄ => ∃ σ', R prog w base os ((env, m) :: fs) σ' s₄ ∧ (∀ a, σ₂ a ≠ none → σ' a = σ₂ a) ∧ Pf (i + 1) (ys ++ [y])) (fun _ _ => False) s₃
        else ∃ σ', R prog w base os ((env, m) :: fs) σ' s₃ ∧ (∀ a, σ₂ a ≠ none → σ' a = σ₂ a) ∧ Pf (i + 1) ys) (fun _ _ => False) s

theorem PureGoal.goal {elt : Expr} {x : Str} {px : Pos} {ifs : List Expr} {scope : Scope} {cl : List (Str × Addr)} {it : Value} {I : Addr} {len : Nat} {S : Src prog w (.Name x px) I len} {Pf : Nat → List Value → Prop}
    (a : Act K H n A base (env :: fs.map (·.1))) (hkind : scope.kind = .function) (hx : scope.names.lookup x = some .local) (G : PureGoal prog w A base os env fs elt x px ifs scope cl it s m σ I len S Pf) :
    CompGoal prog w A base os env fs elt (.Name x px) ifs scope cl it s m σ I len S (fun i ys σ' => Pf i ys ∧ ∀ a, a ∉ S.dep → σ a ≠ none → σ' a = σ a) where
  isIt := G.isIt
  short := G.short
  r := G.r
  at0 := G.at0
  j0 := fun σ' h => ⟨G.p0, fun b _ hb => by
    cases e : σ b with
    | none => exact absurd e hb
    | some y => exact h b y e⟩
  turn := fun D C i ys σ₁ σ₂ v cm s hi hD hC hDC ⟨hP, hk⟩ hA hst hA' hD₂ hC₂ hl r => by
    have ce := comp_env (cl := cl) (C := C) a hkind
    have hCdep : C ∉ S.dep := fun q => S.there G.at0 C q hC
    have hDdep : D ∉ S.dep := fun q => S.there G.at0 D q hD
    have out := S.stepOut hA hst
    refine wpAny_assign_Name (c_store ce r (by show (relabel scope env).names.lookup x = _; exact lookup_relabel_local hx) hC₂ fun s₁ r₁ => ?_)
    have hA₂ : S.At (i + 1) (σ₂.set C (.loc (mset cm x v))) := S.frame hA' fun b hb => Hp.set_ne _ _ fun e => hCdep (e ▸ hb)
    have hk₂ : ∀ b, b ∉ S.dep → σ b ≠ none → (σ₂.set C (.loc (mset cm x v))) b = σ b := fun b h1 h2 => by
      rw [Hp.set_ne _ _ (fun e => h2 (by rw [e]; exact hC))]
      rw [out b h1 (by rw [hk b h1 h2]; exact h2)]; exact hk b h1 h2
    refine wpAny_mono (G.turn C i ys σ₁ σ₂ _ v _ s₁ hi hP hA hst hA₂ hk₂ hC (Hp.set_self _ _ _) (if_pos rfl) r₁) (fun ok s₃ h₃ => ?_) fun _ _ e => e
    have keep : ∀ {σ' : Hp}, (∀ a, (σ₂.set C (.loc (mset cm x v))) a ≠ none → σ' a = (σ₂.set C (.loc (mset cm x v))) a) →
        σ' D = some (.list ys) ∧ σ' C = some (.loc (mset cm x v)) ∧ S.At (i + 1) σ' ∧ ∀ b, b ∉ S.dep → σ b ≠ none → σ' b = σ b := fun {σ'} h => by
      refine ⟨?_, ?_, S.frame hA₂ fun b hb => h b (S.there hA₂ b hb), fun b h1 h2 => ?_⟩
      · rw [h D (by rw [Hp.set_ne _ _ hDC, hD₂]; simp), Hp.set_ne _ _ hDC]; exact hD₂
      · rw [h C (by rw [Hp.set_self]; simp)]; exact Hp.set_self _ _ _
      · rw [h b (by rw [hk₂ b h1 h2]; exact h2)]; exact hk₂ b h1 h2
    cases ok with
    | true =>
      simp only [if_true] at h₃ ⊢
      refine wpAny_mono h₃ (fun y s₄ ⟨σ', q1, q2, q3⟩ => ?_) fun _ _ e => e
      obtain ⟨k1, k2, k3, k4⟩ := keep q2
      exact ⟨σ', _, q1, k1, k2, k3, q3, fun b h1 h2 => by rw [Hp.set_ne _ _ (fun e => h2 (by rw [e]; exact hD))]; exact k4 b h1 h2⟩
    | false =>
      simp only [Bool.false_eq_true, if_false] at h₃ ⊢
      obtain ⟨σ', q1, q2, q3⟩ := h₃
      obtain ⟨k1, k2, k3, k4⟩ := keep q2
      exact ⟨σ', _, q1, k1, k2, k3, q3, k4⟩

theorem v_compP {elt iter : Expr} {x : Str} {px : Pos} {ifs : List Expr} {scope : Scope} {cl : List (Str × Addr)} {pos : Pos} {Q : Value → Shared → Prop} (a : Act K none n A base (env :: fs.map (·.1)))
    (hclos : closureFor scope env = pure cl) (hsc : (scope.names.all fun y => y.2 != .cell) = true) (hkind : scope.kind = .function) (hnames : (scope.names.all fun y => y.2 != .local || scope.names.lookup y.1 == some .local) = true) (hx : scope.names.lookup x = some .local)
    (hs : ∀ x, foldedSetIterable iter env x = pure x)
    (h : wpAny (model prog w) A (eval iter env) (fun xv s₁ => wpAny (model prog w) A (pyIter xv) (fun it s₂ => ∃ m σ I len S Pf, PureGoal prog w A base os env fs elt x px ifs scope cl it s₂ m σ I len S Pf ∧
      ∀ D ys σf s, Pf len ys → σ D = none → σf D = some (.list ys) → (∀ b, b ∉ S.gone → σ b ≠ none → σf b = σ b) → R prog w base os ((env, m) :: fs) σf s → Q (.ref D) s) E s₁) E s) :
    wpAny (model prog w) A (eval (.ListComp elt [⟨.Name x px, iter, ifs, 0⟩] scope pos) env) Q E s := by
  refine v_comp (base := base) (os := os) (fs := fs) a.hand hclos hsc hkind hnames hs (wpAny_mono h (fun xv s₁ h₁ => wpAny_mono h₁ (fun it s₂ h₂ => ?_) fun _ _ e => e) fun _ _ e => e)
  obtain ⟨m, σ, I, len, S, Pf, G, fin⟩ := h₂
  refine ⟨m, σ, I, len, S, _, G.goal a hkind hx, fun D C ys σ₁ s hD hC hDg ⟨hP, hk⟩ hA₁ hD₁ r => fin D ys _ s hP hD ?_ (fun b h1 h2 => ?_) r⟩
  · rw [Hp.del_ne _ hDg]; exact hD₁
  · have hbC : b ≠ C := fun e => h2 (by rw [e]; exact hC)
    rw [Hp.del_ne _ (by simpa using ⟨hbC, h1⟩)]
    by_cases hd : b ∈ S.dep
    · exact S.stay G.at0 hA₁ b hd h1
    · exact hk b hd h2
theorem swaps_true {elt : Expr} {gens : List Comprehension} {scope : Scope} {pos py : Pos} {y : Str} {ln : Nat} (hk : env.scope.kind = .function) (hy : env.kindOf y = some .local)
    (h : (py.line == pos.line && !(scope.names.any fun x => x.1 == y && (x.2 == .local || x.2 == .cell))) = true) : swapsWith (.ListComp elt gens scope pos) (some (.Name y py)) ln env = pure true := by
  unfold swapsWith
  simp only [Env.blockKind, hk, hy]
  rw [show (elt.ListComp gens scope pos).pos = pos from rfl]
  exact congrArg pure h
theorem v_compPLoc {elt iter : Expr} {x y : Str} {px py : Pos} {ifs : List Expr} {scope : Scope} {cl : List (Str × Addr)} {pos spos : Pos} {Q : Flow → Shared → Prop} (a : Act K none n A base (env :: fs.map (·.1))) (hy : env.kindOf y = some .local)
    (hsw : (py.line == pos.line && !(scope.names.any fun x => x.1 == y && (x.2 == .local || x.2 == .cell))) = true)
    (hclos : closureFor scope env = pure cl) (hsc : (scope.names.all fun y => y.2 != .cell) = true) (hkind : scope.kind = .function) (hnames : (scope.names.all fun y => y.2 != .local || scope.names.lookup y.1 == some .local) = true) (hx : scope.names.lookup x = some .local)
    (hs : ∀ x, foldedSetIterable iter env x = pure x)
    (h : wpAny (model prog w) A (eval iter env) (fun xv s₁ => wpAny (model prog w) A (pyIter xv) (fun it s₂ => ∃ m σ I len S Pf, PureGoal prog w A base os env fs elt x px ifs scope cl it s₂ m σ I len S Pf ∧
      ∀ D ys σf s, Pf len ys → σ D = none → σf D = some (.list ys) → (∀ b, b ∉ S.gone → σ b ≠ none → σf b = σ b) → R prog w base os ((env, mset m y (.ref D)) :: fs) σf s → Q .next s) E s₁) E s) :
    wpAny (model prog w) A (exec (.Assign [.Name y py] (.ListComp elt [⟨.Name x px, iter, ifs, 0⟩] scope pos) spos) env) Q E s := by
  refine v_compLoc (os := os) a hy (swaps_true a.head.2.1 hy hsw) hclos hsc hkind hnames hs (wpAny_mono h (fun xv s₁ h₁ => wpAny_mono h₁ (fun it s₂ h₂ => ?_) fun _ _ e => e) fun _ _ e => e)
  obtain ⟨m, σ, I, len, S, Pf, G, fin⟩ := h₂
  refine ⟨m, σ, I, len, S, _, G.goal a hkind hx, fun D C ys σ₁ s hD hC hDg ⟨hP, hk⟩ hA₁ hD₁ r => fin D ys _ s hP hD ?_ (fun b h1 h2 => ?_) r⟩
  · rw [Hp.del_ne _ hDg]; exact hD₁
  · have hbC : b ≠ C := fun e => h2 (by rw [e]; exact hC)
    rw [Hp.del_ne _ (by simpa using ⟨hbC, h1⟩)]
    by_cases hd : b ∈ S.dep
    · exact S.stay G.at0 hA₁ b hd h1
    · exact hk b hd h2
end
end Mine
namespace Mine
set_option pp.deepTerms false
set_option pp.deepTerms.threshold 8
local macro_rules | `(tactic| walk_at "lk") => `(tactic| first | assumption | rfl | (simp only [mset, ofs_inj, String.reduceEq, ↓reduceIte]; first | assumption | rfl) | (simp only [mset, ofs_inj, String.reduceEq, ↓reduceIte]; done))
local macro_rules | `(tactic| walk_at "nm") => `(tactic| (refine v_local (by assumption) (by assumption) (kof (by assumption) (by kernel_rfl)) (by walk_at "lk") ?_ (by kernel_rfl)))
local macro_rules | `(tactic| walk_at "st") => `(tactic| (refine v_store (by assumption) (by assumption) (kof (by assumption) (by kernel_rfl)) fun s r => ?_))
local macro_rules | `(tactic| walk_at "v") => `(tactic| first
  | with_reducible refine wpAny_Return_some ?_
  | with_reducible refine wpAny_Return_none ?_
  | ((with_reducible refine wpAny_Compare1 (hm := ?hm) ?_); (case hm => with_unfolding_all rfl))
  | ((with_reducible refine wpAny_isTrue_Compare1 (hm := ?hm) ?_); (case hm => with_unfolding_all rfl))
  | ((with_reducible refine wpAny_Assign_Name (hs := ?hs) ?_); (case hs => rfl))
  | ((with_reducible refine wpAny_Assign_Subscript (hs := ?hs) ?_); (case hs => rfl))
  | ((with_reducible refine plainObj_wpAny_Assign_Attribute (hs := ?hs) ?_); (case hs => rfl))
  | ((with_reducible refine wpAny_Assign_two (he := ?he) (hw := ?hw) ?_); (case he => rfl); (case hw => rfl))
  | with_reducible refine assign_Attr ?_
  | with_reducible refine assign_Subs ?_
  | with_reducible refine wpAny_assign_Name ?_
  | with_reducible refine Attribute_name ?_
  | with_reducible refine Attribute_any_ ?_
  | with_reducible refine Subscript_ ?_
  | with_reducible refine wpAny_If ?_
  | with_reducible refine wpAny_BinOp ?_
  | with_reducible refine wpAny_UnaryOp ?_
  | with_reducible refine wpAny_Delete ?_
  | with_reducible refine wpAny_deleteEach_cons ?_
  | with_reducible refine wpAny_deleteEach_nil ?_
  | with_reducible refine wpAny_delete_Subscript ?_
  | with_reducible refine wpAny_AugAssign_AttributeAny ?_
  | with_reducible refine wpAny_execs_nil ?_
  | with_reducible refine wpAny_Constant_none ?_
  | with_reducible refine spliced_none ?_
  | with_reducible refine ea_none ?_
  | ((with_reducible refine ea_plain ?_ ?he); (case he => rfl))
  | ((with_reducible refine' methodCall_KW (pl := ?pl) (he := ?he) ?_); (case he => rfl))
  | walk_at "nm"
  | ((with_reducible refine spliced_more ?_ (he := ?he)); (case he => rfl)))
local macro_rules | `(tactic| walk_at "vv") => `(tactic| repeat walk_at "v")
def relabelS (scope sc : Scope) : List (Str × NameKind) := scope.names.map fun (n, k) => if (k == .free && sc.kind == .function && sc.names.lookup n == some .cell) then (n, .cell) else (n, k)
theorem kofC {scope sc : Scope} {cl : List (Str × Addr)} {C : Addr} {env : Env} {x : Str} {k : NameKind} (hsc : env.scope = sc) (e : (relabelS scope sc).lookup x = some k) : (compEnvC scope cl C env).kindOf x = some k := by
  show (relabel scope env).names.lookup x = some k
  unfold relabel Env.kindOf
  rw [hsc]; exact e
def asgVal : Stmt → Expr
  | .Assign _ v _ => v
  | _ => .Constant .none 0 default
def compScope : Expr → Scope
  | .ListComp _ _ sc _ => sc
  | _ => default
namespace L2
variable {prog : Program} {w : World} {K : Frag} {H : Option Value} {n : Nat} {σ : Hp}
theorem bit_one {x : Int} (h : 0 ≤ x) : Builtin.bitAnd x 1 = x % 2 := by
  rw [bitAnd_pp h (by omega)]
  rw [show (1 : Int).toNat = 1 from rfl, Nat.and_one_is_mod]
  omega

theorem inside_walk {A : Around} {base : Heap} {os : OsState} {env : Env} {fs : List (Env × Nm)} {m : Nm} {s : Shared} {E : Value → Shared → Prop} {cw cn ch : Addr} {k : Int} {tk : Tok} {Q : Flow → Shared → Prop}
    (a : Act K none n A base (env :: fs.map (·.1))) (hsc : env.scope = fnScope s_least) (hcl : env.cells = [(("held" : Str), ch), (("want" : Str), cn), (("ways" : Str), cw)]) (r : R prog w base os ((env, m) :: fs) σ s) (hR : nsIn K mainGlobals "range" = some none)
    (hch : σ ch = some (.cell (some (.int k tk)))) (hk : 0 ≤ k)
    (fin : ∀ D va s', IntsAre va (P2.inside k) → σ D = none → R prog w base os ((env, mset m "inside" (.ref D)) :: fs) (σ.set D (.list va)) s' → Q .next s') :
    wpAny (model prog w) A (exec (stmtAt (forBody s_for2) 1) env) Q E s := by
  refine v_compPLoc (cl := [(("held" : Str), ch)]) (x := "one") (base := base) (os := os) (fs := fs) a (kof hsc (by kernel_rfl)) (by kernel_rfl) (closureFor_of (by rw [hcl]; rfl)) (by kernel_rfl) (by kernel_rfl) (by kernel_rfl) (by kernel_rfl) (fun _ => rfl) ?_
  refine wpAny_Call_ofName ?_
  refine v_builtin a r (kof hsc (by kernel_rfl)) hR (v := .type "range") (by kernel_rfl) (by decide +kernel) ?_ (by kernel_rfl)
  refine v_callTy rfl ?_
  walk_at "vv"
  refine v_int r fun s t r => ?_
  walk_at "vv"
  refine v_range1 r fun x t1 t2 t3 s hx r => ?_
  refine v_iterR r (Hp.set_self _ _ _) (by omega) fun it s hit r => ?_
  have h5 : (5 : Int) - 0 = ((5 : Nat) : Int) := rfl
  refine ⟨m, _, it, 5, Src.range _ it 0 5, fun i ys => IntsAre ys (([0, 1, 2, 3, 4].take i).filter fun x => (k / 2 ^ x.toNat) % 2 != 0), ⟨rfl, by omega, r, Hp.set_self _ _ _, .nil, ?_⟩, ?_⟩
  · intro C i ys σ₁ σ₁' σ₂ v cm s hi hP hA hst hA' hk' hC hC₂ hcm r
    obtain ⟨⟨t, rfl⟩, _⟩ := hst
    have ce := comp_env (scope := compScope (asgVal (stmtAt (forBody s_for2) 1))) (cl := [(("held" : Str), ch)]) (C := C) a (by kernel_rfl)
    have hc : σ₂ ch = some (.cell (some (.int k tk))) := by
      have h1 : ch ≠ x := fun e => by rw [e, hx] at hch; cases hch
      have h2 : ch ≠ it := fun e => by rw [← e, Hp.set_ne _ _ h1, hch] at hit; cases hit
      have h3 : ((σ.set x (.obj (rangeObj 0 5 t1 t2 t3))).set it (.obj (riterObj 0 (5 - 0)))) ch = some (.cell (some (.int k tk))) := by rw [Hp.set_ne _ _ h2, Hp.set_ne _ _ h1]; exact hch
      rw [hk' ch (by show ch ∉ [it]; simpa using h2) (by rw [h3]; simp)]; exact h3
    have hset : ([0, 1, 2, 3, 4].take (i + 1) : List Int) = [0, 1, 2, 3, 4].take i ++ [(i : Int)] := by
      have : i = 0 ∨ i = 1 ∨ i = 2 ∨ i = 3 ∨ i = 4 := by omega
      rcases this with rfl | rfl | rfl | rfl | rfl <;> rfl
    refine ifs_one (isTrue_plain ?_ (by rfl))
    walk_at "vv"
    refine v_cell ce.kind r (kofC hsc (by kernel_rfl)) rfl hc ?_ (by kernel_rfl)
    refine c_local ce r (kofC hsc (by kernel_rfl)) hC₂ hcm ?_ (by kernel_rfl)
    refine v_shr r (by omega) fun s t4 r => ?_
    refine v_int r fun s t5 r => ?_
    refine v_and r fun s t6 r => ?_
    refine v_itruth ?_
    have hpos : 0 ≤ k / 2 ^ ((0 : Int) + i).toNat := Int.ediv_nonneg hk (Int.le_of_lt (Int.pow_pos (by omega)))
    rw [bit_one hpos, hset, List.filter_append]
    have e0 : (0 : Int) + i = (i : Int) := by omega
    rw [e0]
    by_cases hb : (k / 2 ^ ((i : Int)).toNat % 2 != 0) = true
    · rw [hb, if_pos rfl]
      refine c_local ce r (kofC hsc (by kernel_rfl)) hC₂ hcm ?_ (by kernel_rfl)
      refine ⟨σ₂, r, fun _ _ => rfl, ?_⟩
      rw [List.filter_cons_of_pos (by simpa using hb), e0]
      exact hP.append (.cons _ _ .nil)
    · rw [if_neg hb]
      refine ⟨σ₂, r, fun _ _ => rfl, ?_⟩
      rw [List.filter_cons_of_neg (by simpa using hb)]
      simpa using hP
  · intro D ys σf s hP hD hDf hk' r
    have h1 : D ≠ it := fun e => by rw [e, Hp.set_self] at hD; cases hD
    rw [Hp.set_ne _ _ h1] at hD
    have h2 : D ≠ x := fun e => by rw [e, Hp.set_self] at hD; cases hD
    rw [Hp.set_ne _ _ h2] at hD
    refine fin D ys s hP hD (r.forget fun b y e => ?_)
    by_cases hb : b = D
    · subst hb; rw [Hp.set_self] at e; rw [hDf]; exact e
    · rw [Hp.set_ne _ _ hb] at e
      have h3 : b ≠ x := fun q => by rw [q, hx] at e; cases e
      have h4 : b ≠ it := fun q => by rw [← q, Hp.set_ne _ _ h3, e] at hit; cases hit
      have h5 : ((σ.set x (.obj (rangeObj 0 5 t1 t2 t3))).set it (.obj (riterObj 0 (5 - 0)))) b = some y := by rw [Hp.set_ne _ _ h4, Hp.set_ne _ _ h3]; exact e
      rw [hk' b (by show b ∉ [it]; simpa using h4) (by rw [h5]; simp)]; exact h5
end L2
end Mine
namespace Mine
set_option pp.deepTerms false
set_option pp.deepTerms.threshold 8
local macro_rules | `(tactic| walk_at "lk") => `(tactic| first | assumption | rfl | (simp only [mset, ofs_inj, String.reduceEq, ↓reduceIte]; first | assumption | rfl) | (simp only [mset, ofs_inj, String.reduceEq, ↓reduceIte]; done))
local macro_rules | `(tactic| walk_at "nm") => `(tactic| (refine v_local (by assumption) (by assumption) (kof (by assumption) (by kernel_rfl)) (by walk_at "lk") ?_ (by kernel_rfl)))
local macro_rules | `(tactic| walk_at "st") => `(tactic| (refine v_store (by assumption) (by assumption) (kof (by assumption) (by kernel_rfl)) fun s r => ?_))
local macro_rules | `(tactic| walk_at "v") => `(tactic| first
  | with_reducible refine wpAny_Return_some ?_
  | with_reducible refine wpAny_Return_none ?_
  | ((with_reducible refine wpAny_Compare1 (hm := ?hm) ?_); (case hm => with_unfolding_all rfl))
  | ((with_reducible refine wpAny_isTrue_Compare1 (hm := ?hm) ?_); (case hm => with_unfolding_all rfl))
  | ((with_reducible refine wpAny_Assign_Name (hs := ?hs) ?_); (case hs => rfl))
  | ((with_reducible refine wpAny_Assign_Subscript (hs := ?hs) ?_); (case hs => rfl))
  | ((with_reducible refine plainObj_wpAny_Assign_Attribute (hs := ?hs) ?_); (case hs => rfl))
  | ((with_reducible refine wpAny_Assign_two (he := ?he) (hw := ?hw) ?_); (case he => rfl); (case hw => rfl))
  | with_reducible refine assign_Attr ?_
  | with_reducible refine assign_Subs ?_
  | with_reducible refine wpAny_assign_Name ?_
  | with_reducible refine Attribute_name ?_
  | with_reducible refine Attribute_any_ ?_
  | with_reducible refine Subscript_ ?_
  | with_reducible refine wpAny_If ?_
  | with_reducible refine wpAny_BinOp ?_
  | with_reducible refine wpAny_UnaryOp ?_
  | with_reducible refine wpAny_Delete ?_
  | with_reducible refine wpAny_deleteEach_cons ?_
  | with_reducible refine wpAny_deleteEach_nil ?_
  | with_reducible refine wpAny_delete_Subscript ?_
  | with_reducible refine wpAny_AugAssign_AttributeAny ?_
  | with_reducible refine wpAny_execs_nil ?_
  | with_reducible refine wpAny_Constant_none ?_
  | with_reducible refine spliced_none ?_
  | with_reducible refine ea_none ?_
  | ((with_reducible refine ea_plain ?_ ?he); (case he => rfl))
  | ((with_reducible refine' methodCall_KW (pl := ?pl) (he := ?he) ?_); (case he => rfl))
  | walk_at "nm"
  | ((with_reducible refine spliced_more ?_ (he := ?he)); (case he => rfl)))
local macro_rules | `(tactic| walk_at "vv") => `(tactic| repeat walk_at "v")
namespace L2
variable {prog : Program} {w : World} {K : Frag} {H : Option Value} {n : Nat} {σ : Hp}
def ifBody : Stmt → List Stmt
  | .If _ b _ _ => b
  | _ => []
def ifElse : Stmt → List Stmt
  | .If _ _ o _ => o
  | _ => []
def s_af : Stmt := stmtAt (ifBody (stmtAt (ifElse s_if) 0)) 0

theorem afters_walk {A : Around} {base : Heap} {os : OsState} {env : Env} {fs : List (Env × Nm)} {m : Nm} {s : Shared} {E : Value → Shared → Prop} {cw cn ch li : Addr} {k w0 : Int} {tk tw : Tok} {vi : List Value} {Q : Flow → Shared → Prop}
    (a : Act K none n A base (env :: fs.map (·.1))) (hsc : env.scope = fnScope s_least) (hcl : env.cells = [(("held" : Str), ch), (("want" : Str), cn), (("ways" : Str), cw)]) (r : R prog w base os ((env, m) :: fs) σ s)
    (hch : σ ch = some (.cell (some (.int k tk)))) (hcn : σ cn = some (.cell (some (.int w0 tw)))) (hw : 0 ≤ w0 ∧ w0 < 5) (h1 : m "inside" = some (.ref li)) (hli : σ li = some (.list vi)) (hii : IntsAre vi (P2.inside k))
    (fin : ∀ D va s', IntsAre va ((P2.inside k).map fun x => k - 2 ^ x.toNat + 2 ^ w0.toNat) → σ D = none → R prog w base os ((env, mset m "afters" (.ref D)) :: fs) (σ.set D (.list va)) s' → Q .next s') :
    wpAny (model prog w) A (exec s_af env) Q E s := by
  refine v_compPLoc (cl := [(("want" : Str), cn), (("held" : Str), ch)]) (x := "one") (base := base) (os := os) (fs := fs) a (kof hsc (by kernel_rfl)) (by kernel_rfl) (closureFor_of (by rw [hcl]; rfl)) (by kernel_rfl) (by kernel_rfl) (by kernel_rfl) (by kernel_rfl) (fun _ => rfl) ?_
  walk_at "nm"
  refine v_iterL r hli fun it s hit r => ?_
  have hlit : li ≠ it := fun e => by rw [e, hit] at hli; cases hli
  have hlen := hii.length
  refine ⟨m, _, it, vi.length, Src.list _ it li vi, fun i ys => IntsAre ys (((P2.inside k).take i).map fun x => k - 2 ^ x.toNat + 2 ^ w0.toNat), ⟨rfl, ?_, r, ⟨Hp.set_self _ _ _, by rw [Hp.set_ne _ _ hlit]; exact hli⟩, .nil, ?_⟩, ?_⟩
  · have : (P2.inside k).length ≤ 5 := List.length_filter_le _ _
    omega
  · intro C i ys σ₁ σ₁' σ₂ v cm s hi hP hA hst hA' hk' hC hC₂ hcm r
    obtain ⟨hv, _⟩ := hst
    obtain ⟨x, hx, t, rfl⟩ := ints_get hii hv
    have ce := comp_env (scope := compScope (asgVal s_af)) (cl := [(("want" : Str), cn), (("held" : Str), ch)]) (C := C) a (by kernel_rfl)
    have keep : ∀ {b : Addr} {v : Value}, σ b = some (.cell (some v)) → σ₂ b = some (.cell (some v)) := fun {b v} hb => by
      have h2 : b ≠ it := fun e => by rw [e, hit] at hb; cases hb
      have h4 : b ≠ li := fun e => by rw [e, hli] at hb; cases hb
      have h3 : (σ.set it (liter li 0)) b = some (.cell (some v)) := by rw [Hp.set_ne _ _ h2]; exact hb
      rw [hk' b (by show b ∉ [it, li]; simpa using ⟨h2, h4⟩) (by rw [h3]; simp)]; exact h3
    have hx5 := P2.inside_mem (List.mem_of_getElem? hx)
    refine ifs_nil ?_
    rw [if_pos rfl]
    walk_at "vv"
    refine v_cell ce.kind r (kofC hsc (by kernel_rfl)) rfl (keep hch) ?_ (by kernel_rfl)
    walk_at "vv"
    refine v_int r fun s t1 r => ?_
    refine c_local ce r (kofC hsc (by kernel_rfl)) hC₂ hcm ?_ (by kernel_rfl)
    refine v_shl r (by omega) (by omega) (by omega) fun s t2 r => ?_
    refine v_sub r fun s t3 r => ?_
    walk_at "vv"
    refine v_int r fun s t4 r => ?_
    refine v_cell ce.kind r (kofC hsc (by kernel_rfl)) rfl (keep hcn) ?_ (by kernel_rfl)
    refine v_shl r (by omega) (by omega) (by omega) fun s t5 r => ?_
    refine v_add r fun s t6 r => ?_
    refine ⟨σ₂, r, fun _ _ => rfl, ?_⟩
    rw [List.take_add_one, hx, Option.toList_some, List.map_append]
    refine hP.append ?_
    simp only [List.map_cons, List.map_nil, Int.one_mul]
    exact .cons _ _ .nil
  · intro D ys σf s hP hD hDf hk' r
    have hD1 : D ≠ it := fun e => by rw [e, Hp.set_self] at hD; cases hD
    rw [Hp.set_ne _ _ hD1] at hD
    rw [hlen, List.take_length] at hP
    refine fin D ys s hP hD (r.forget fun b y e => ?_)
    by_cases hb : b = D
    · subst hb; rw [Hp.set_self] at e; rw [hDf]; exact e
    · rw [Hp.set_ne _ _ hb] at e
      have h4 : b ≠ it := fun q => by rw [q, hit] at e; cases e
      have h5 : (σ.set it (liter li 0)) b = some y := by rw [Hp.set_ne _ _ h4]; exact e
      rw [hk' b (by show b ∉ [it]; simpa using h4) (by rw [h5]; simp)]; exact h5

theorem body2 {A : Around} {base : Heap} {os : OsState} {env : Env} {fs : List (Env × Nm)} {m : Nm} {s : Shared} {E : Value → Shared → Prop} {cw cn ch d d2 : Addr} {k w0 c room : Int} {rm : Nat} {tk tw tr : Tok} {ep : Nat} {kvs kvs2 : List (Int × Value)} {ways l2 : List (Int × Int)} {Q : Flow → Shared → Prop}
    (a : Act K none n A base (env :: fs.map (·.1))) (hE : PassesOwn (model prog w) A env E) (hsc : env.scope = fnScope s_least) (hcl : env.cells = [(("held" : Str), ch), (("want" : Str), cn), (("ways" : Str), cw)]) (r : R prog w base os ((env, m) :: fs) σ s)
    (hR : nsIn K mainGlobals "range" = some none) (hL : nsIn K mainGlobals "len" = some none)
    (hch : σ ch = some (.cell (some (.int k tk)))) (hcn : σ cn = some (.cell (some (.int w0 tw)))) (hcw : σ cw = some (.cell (some (.ref d)))) (hd : σ d = some (.dictE kvs ep)) (hkv : IntKV kvs ways) (hg : aget ways k = some c) (hk : 0 ≤ k) (hw : 0 ≤ w0 ∧ w0 < 5)
    (hroom : m "room" = some (.int room tr)) (hrm : room = rm) (hmore : m "more" = some (.ref d2)) (hd2 : σ d2 = some (.dict kvs2)) (hkv2 : IntKV kvs2 l2) (hl2 : l2.length ≤ 800)
    (fin : ∀ m' σ' s' kvs2', R prog w base os ((env, m') :: fs) σ' s' → m' "room" = some (.int room tr) → m' "more" = some (.ref d2) → IntKV kvs2' (((P2.afters rm w0 k).map (·, P2.costOf w0 (k, c))).foldl P2.upd l2) → σ' d2 = some (.dict kvs2') → (∀ a, a ≠ d2 → σ a ≠ none → σ' a = σ a) → Q .next s') :
    wpAny (model prog w) A (execs (forBody s_for2) env) Q E s := by
  have hget := hkv.get k
  rw [hg] at hget
  obtain ⟨t0, hget⟩ : ∃ t, aget kvs k = some (.int c t) := hget
  have hlen5 : (P2.inside k).length ≤ 5 := List.length_filter_le _ _
  have fk := a.head.2.1
  -- cost = ways[held] + 1
  refine wpAny_execs_cons ?_
  walk_at "vv"
  refine v_cell fk r (kof hsc (by kernel_rfl)) (by rw [hcl]; rfl) hcw ?_ (by kernel_rfl)
  refine v_cell fk r (kof hsc (by kernel_rfl)) (by rw [hcl]; rfl) hch ?_ (by kernel_rfl)
  refine v_ditemE r hd (by rw [valueAt_eq]; exact hget) (fun s r => ?_) (by with_unfolding_all rfl)
  refine v_int r fun s t1 r => ?_
  refine v_add r fun s t2 r => ?_
  walk_at "st"; rename_i s r
  -- inside
  refine wpAny_execs_cons ?_
  refine inside_walk a hsc hcl r hR hch hk fun li vi s hii hli r => ?_
  have ext1 : ∀ {b : Addr} {x : AO}, σ b = some x → (σ.set li (.list vi)) b = some x := fun {b x} e => by rw [Hp.set_ne _ _ (fun q => by rw [q, hli] at e; cases e)]; exact e
  have hlen := hii.length
  -- afters = [held + (1 << want)]
  refine wpAny_execs_cons ?_
  walk_at "v"
  refine v_list (base := base) (os := os) (fs := fs) ?_
  walk_at "vv"
  refine v_cell fk r (kof hsc (by kernel_rfl)) (by rw [hcl]; rfl) (ext1 hch) ?_ (by kernel_rfl)
  walk_at "vv"
  refine v_int r fun s t3 r => ?_
  refine v_cell fk r (kof hsc (by kernel_rfl)) (by rw [hcl]; rfl) (ext1 hcn) ?_ (by kernel_rfl)
  refine v_shl r (by omega) (by omega) (by omega) fun s t4 r => ?_
  refine v_add r fun s t5 r => ?_
  walk_at "vv"
  refine ⟨by simp, _, _, r, fun la s hla r => ?_⟩
  walk_at "st"; rename_i s r
  have ext2 : ∀ {b : Addr} {x : AO}, σ b = some x → ((σ.set li (.list vi)).set la (.list [.int (k + 1 * 2 ^ w0.toNat) t5])) b = some x := fun {b x} e => by rw [Hp.set_ne _ _ (fun q => by rw [q] at e; rw [ext1 e] at hla; cases hla)]; exact ext1 e
  -- the end, with the list of afters
  have endw : ∀ {σ' : Hp} {m' : Nm} {s' : Shared} {lb : Addr} {vb : List Value} {tc : Tok}, R prog w base os ((env, m') :: fs) σ' s' → m' "afters" = some (.ref lb) → σ' lb = some (.list vb) → IntsAre vb (P2.afters rm w0 k) → m' "cost" = some (.int (P2.costOf w0 (k, c)) tc) → m' "room" = some (.int room tr) → m' "more" = some (.ref d2) →
      (∀ b, σ b ≠ none → σ' b = σ b) → wpAny (model prog w) A (execs [s_for3] env) Q E s' := fun {σ' m' s' lb vb tc} r q1 q2 q3 q4 q5 q6 q7 => by
    refine wpAny_execs_cons ?_
    have : (P2.afters rm w0 k).length ≤ 5 := by
      unfold P2.afters
      split
      · simp
      · split
        · rw [List.length_map]; exact hlen5
        · simp
    refine for3 a hE hsc r q1 q2 q3 q6 (by rw [q7 d2 (by rw [hd2]; simp)]; exact hd2) hkv2 q4 (by omega) fun m'' σ'' s'' kvs' r u1 u2 u3 u4 => ?_
    refine wpAny_execs_nil ?_
    exact fin _ _ _ kvs' r ((u1 _ (by decide +kernel)).trans q5) ((u1 _ (by decide +kernel)).trans q6) u2 u3 fun b hb hn => by rw [u4 b hb (by rw [q7 b hn]; exact hn), q7 b hn]
  -- if want in inside
  refine wpAny_execs_cons ?_
  walk_at "vv"
  refine v_cell fk r (kof hsc (by kernel_rfl)) (by rw [hcl]; rfl) (ext2 hcn) ?_ (by kernel_rfl)
  walk_at "vv"
  have hli' : ((σ.set li (.list vi)).set la (.list [.int (k + 1 * 2 ^ w0.toNat) t5])) li = some (.list vi) := by
    rw [Hp.set_ne _ _ (fun q => by rw [← q, Hp.set_self] at hla; cases hla)]; exact Hp.set_self _ _ _
  refine v_lin r hli' hii ?_
  refine v_truth ?_
  by_cases hin : w0 ∈ P2.inside k
  · have e1 : ((P2.inside k).any (· == w0)) = true := List.any_eq_true.mpr ⟨w0, hin, by simp⟩
    rw [e1, if_pos rfl]
    refine wpAny_execs_cons ?_
    walk_at "vv"
    refine v_cell fk r (kof hsc (by kernel_rfl)) (by rw [hcl]; rfl) (ext2 hcw) ?_ (by kernel_rfl)
    refine v_cell fk r (kof hsc (by kernel_rfl)) (by rw [hcl]; rfl) (ext2 hch) ?_ (by kernel_rfl)
    refine v_ditemE r (ext2 hd) (by rw [valueAt_eq]; exact hget) (fun s r => ?_) (by with_unfolding_all rfl)
    walk_at "st"; rename_i s r
    refine wpAny_execs_cons ?_
    walk_at "v"
    refine v_list (base := base) (os := os) (fs := fs) ?_
    walk_at "vv"
    refine v_cell fk r (kof hsc (by kernel_rfl)) (by rw [hcl]; rfl) (ext2 hch) ?_ (by kernel_rfl)
    walk_at "vv"
    refine ⟨by simp, _, _, r, fun lb s hlb r => ?_⟩
    walk_at "st"; rename_i s r
    refine wpAny_execs_nil ?_
    refine endw r (by walk_at "lk") (Hp.set_self _ _ _) (by unfold P2.afters; rw [if_pos hin]; exact .cons _ _ .nil) (tc := t0) (by unfold P2.costOf; rw [if_pos hin]; walk_at "lk") (by walk_at "lk") (by walk_at "lk") fun b hb => ?_
    cases e : σ b with
    | none => exact absurd e hb
    | some x => rw [Hp.set_ne _ _ (fun q => by rw [q] at e; rw [ext2 e] at hlb; cases hlb)]; exact ext2 e
  · have e1 : ((P2.inside k).any (· == w0)) = false := by
      rw [List.any_eq_false]; intro x hx
      simp; rintro rfl; exact hin hx
    rw [e1, if_neg (by decide)]
    refine wpAny_execs_cons ?_
    walk_at "v"
    refine wpAny_isTrue_Compare1 (hm := by with_unfolding_all rfl) ?_
    refine wpAny_Call_ofName ?_
    refine v_builtin a r (kof hsc (by kernel_rfl)) hL (v := .builtin "len") (by kernel_rfl) (by decide +kernel) ?_ (by kernel_rfl)
    refine v_callB rfl ?_
    walk_at "vv"
    refine v_llen r hli' (by omega) fun s t6 r => ?_
    walk_at "vv"
    refine v_eq ?_
    refine v_truth ?_
    have hcost : P2.costOf w0 (k, c) = c + 1 := by unfold P2.costOf; rw [if_neg hin]
    by_cases hfull : (P2.inside k).length = rm
    · rw [show (((vi.length : Int)) == room) = true by rw [beq_iff_eq]; omega, if_pos rfl]
      refine wpAny_execs_cons ?_
      refine afters_walk a hsc hcl r (ext2 hch) (ext2 hcn) hw (by walk_at "lk") hli' hii fun lb vb s hib hlb r => ?_
      refine wpAny_execs_nil ?_
      refine wpAny_execs_nil ?_
      refine endw r (by walk_at "lk") (Hp.set_self _ _ _) (by unfold P2.afters; rw [if_neg hin, if_pos hfull]; exact hib) (tc := t2) (by rw [hcost]; walk_at "lk") (by walk_at "lk") (by walk_at "lk") fun b hb => ?_
      cases e : σ b with
      | none => exact absurd e hb
      | some x => rw [Hp.set_ne _ _ (fun q => by rw [q] at e; rw [ext2 e] at hlb; cases hlb)]; exact ext2 e
    · rw [show (((vi.length : Int)) == room) = false by rw [beq_eq_false_iff_ne]; omega, if_neg (by decide)]
      refine wpAny_execs_nil ?_
      refine wpAny_execs_nil ?_
      refine endw r (by walk_at "lk") (Hp.set_self _ _ _) (by unfold P2.afters; rw [if_neg hin, if_neg hfull, Int.one_mul]; exact .cons _ _ .nil) (tc := t2) (by rw [hcost]; walk_at "lk") (by walk_at "lk") (by walk_at "lk") fun b hb => ?_
      cases e : σ b with
      | none => exact absurd e hb
      | some x => exact ext2 e
end L2
end Mine
namespace Mine
set_option pp.deepTerms false
set_option pp.deepTerms.threshold 8
local macro_rules | `(tactic| walk_at "lk") => `(tactic| first | assumption | rfl | (simp only [mset, ofs_inj, String.reduceEq, ↓reduceIte]; first | assumption | rfl) | (simp only [mset, ofs_inj, String.reduceEq, ↓reduceIte]; done))
local macro_rules | `(tactic| walk_at "nm") => `(tactic| (refine v_local (by assumption) (by assumption) (kof (by assumption) (by kernel_rfl)) (by walk_at "lk") ?_ (by kernel_rfl)))
local macro_rules | `(tactic| walk_at "st") => `(tactic| (refine v_store (by assumption) (by assumption) (kof (by assumption) (by kernel_rfl)) fun s r => ?_))
local macro_rules | `(tactic| walk_at "v") => `(tactic| first
  | with_reducible refine wpAny_Return_some ?_
  | with_reducible refine wpAny_Return_none ?_
  | ((with_reducible refine wpAny_Compare1 (hm := ?hm) ?_); (case hm => with_unfolding_all rfl))
  | ((with_reducible refine wpAny_isTrue_Compare1 (hm := ?hm) ?_); (case hm => with_unfolding_all rfl))
  | ((with_reducible refine wpAny_Assign_Name (hs := ?hs) ?_); (case hs => rfl))
  | ((with_reducible refine wpAny_Assign_Subscript (hs := ?hs) ?_); (case hs => rfl))
  | ((with_reducible refine plainObj_wpAny_Assign_Attribute (hs := ?hs) ?_); (case hs => rfl))
  | ((with_reducible refine wpAny_Assign_two (he := ?he) (hw := ?hw) ?_); (case he => rfl); (case hw => rfl))
  | with_reducible refine assign_Attr ?_
  | with_reducible refine assign_Subs ?_
  | with_reducible refine wpAny_assign_Name ?_
  | with_reducible refine Attribute_name ?_
  | with_reducible refine Attribute_any_ ?_
  | with_reducible refine Subscript_ ?_
  | with_reducible refine wpAny_If ?_
  | with_reducible refine wpAny_BinOp ?_
  | with_reducible refine wpAny_UnaryOp ?_
  | with_reducible refine wpAny_Delete ?_
  | with_reducible refine wpAny_deleteEach_cons ?_
  | with_reducible refine wpAny_deleteEach_nil ?_
  | with_reducible refine wpAny_delete_Subscript ?_
  | with_reducible refine wpAny_AugAssign_AttributeAny ?_
  | with_reducible refine wpAny_execs_nil ?_
  | with_reducible refine wpAny_Constant_none ?_
  | with_reducible refine spliced_none ?_
  | with_reducible refine ea_none ?_
  | ((with_reducible refine ea_plain ?_ ?he); (case he => rfl))
  | ((with_reducible refine' methodCall_KW (pl := ?pl) (he := ?he) ?_); (case he => rfl))
  | walk_at "nm"
  | ((with_reducible refine spliced_more ?_ (he := ?he)); (case he => rfl)))
local macro_rules | `(tactic| walk_at "vv") => `(tactic| repeat walk_at "v")
theorem isIt.ne {x : Option AO} (h : isIt x) : (∀ kvs, x ≠ some (.dict kvs)) ∧ (∀ v, x ≠ some (.cell v)) ∧ (∀ xs, x ≠ some (.list xs)) ∧ (∀ xs, x ≠ some (.tup xs)) := by
  cases h <;> (refine ⟨?_, ?_, ?_, ?_⟩ <;> intro _ q <;> cases q)
theorem IntKV.at : ∀ {kvs : List (Int × Value)} {l : List (Int × Int)}, IntKV kvs l → ∀ {i : Nat} {k : Int} {x : Value}, kvs[i]? = some (k, x) → ∃ c t, l[i]? = some (k, c) ∧ x = .int c t
  | _, _, .nil, _, _, _, h => by simp at h
  | _, _, .cons (a := a) (b := b) ⟨h1, t, h2⟩ r, i, k, x, h => by
    cases i with
    | zero =>
      simp only [List.getElem?_cons_zero, Option.some.injEq] at h
      subst h
      exact ⟨b.2, t, by simp only [List.getElem?_cons_zero]; rw [show b = (b.1, b.2) from rfl, ← h1], h2⟩
    | succ j =>
      simp only [List.getElem?_cons_succ] at h ⊢
      exact r.at h
theorem best_lt : ∀ (r : List Int) (a : Int), bestAt (fun a b => decide (a < b)) a r ∈ a :: r ∧ ∀ x ∈ a :: r, bestAt (fun a b => decide (a < b)) a r ≤ x
  | [], a => ⟨.head _, fun x hx => by simp at hx; subst hx; exact Int.le_refl _⟩
  | b :: r, a => by
    simp only [bestAt]
    by_cases h : b < a
    · simp only [h, decide_true, if_true]
      obtain ⟨h1, h2⟩ := best_lt r b
      refine ⟨.tail _ h1, fun x hx => ?_⟩
      rcases List.mem_cons.mp hx with rfl | hx
      · have := h2 b (.head _); omega
      · exact h2 x hx
    · simp only [h, decide_false, Bool.false_eq_true, if_false]
      obtain ⟨h1, h2⟩ := best_lt r a
      refine ⟨?_, fun x hx => ?_⟩
      · rcases List.mem_cons.mp h1 with e | e
        · rw [e]; exact .head _
        · exact .tail _ (.tail _ e)
      · rcases List.mem_cons.mp hx with rfl | hx
        · exact h2 x (.head _)
        · rcases List.mem_cons.mp hx with rfl | hx
          · have := h2 a (.head _); omega
          · exact h2 x (.tail _ hx)
theorem best_gt : ∀ (r : List Int) (a : Int), bestAt (fun a b => decide (a > b)) a r ∈ a :: r ∧ ∀ x ∈ a :: r, x ≤ bestAt (fun a b => decide (a > b)) a r
  | [], a => ⟨.head _, fun x hx => by simp at hx; subst hx; exact Int.le_refl _⟩
  | b :: r, a => by
    simp only [bestAt]
    by_cases h : b > a
    · simp only [h, decide_true, if_true]
      obtain ⟨h1, h2⟩ := best_gt r b
      refine ⟨.tail _ h1, fun x hx => ?_⟩
      rcases List.mem_cons.mp hx with rfl | hx
      · have := h2 b (.head _); omega
      · exact h2 x hx
    · simp only [h, decide_false, Bool.false_eq_true, if_false]
      obtain ⟨h1, h2⟩ := best_gt r a
      refine ⟨?_, fun x hx => ?_⟩
      · rcases List.mem_cons.mp h1 with e | e
        · rw [e]; exact .head _
        · exact .tail _ (.tail _ e)
      · rcases List.mem_cons.mp hx with rfl | hx
        · exact h2 x (.head _)
        · rcases List.mem_cons.mp hx with rfl | hx
          · have := h2 a (.head _); omega
          · exact h2 x (.tail _ hx)
section
variable {prog : Program} {w : World} {K : Frag} {H : Option Value} {n : Nat} {A : Around} {base : Heap} {env : Env} {os : OsState} {fs : List (Env × Nm)} {m : Nm} {σ : Hp} {s : Shared} {E : Value → Shared → Prop}
theorem v_minI {l : Addr} {vs : List Value} {ns : List Int} {Q : Value → Shared → Prop} (a : Act K none n A base (env :: fs.map (·.1))) (r : R prog w base os ((env, m) :: fs) σ s) (hl : σ l = some (.list vs)) (hi : IntsAre vs ns) (hne : ns ≠ [])
    (h : ∀ M t σ' s', M ∈ ns → (∀ x ∈ ns, M ≤ x) → (∀ c x, σ c = some x → σ' c = some x) → R prog w base os ((env, m) :: fs) σ' s' → Q (.int M t) s') : wpAny (model prog w) A (call (.builtin "min") [.ref l]) Q E s := by
  cases ns with
  | nil => exact absurd rfl hne
  | cons a0 rest =>
    refine v_min (items := rest) (a0 := a0) (G := fun a v => ∃ t, v = .int a t) (bt := fun a b => decide (a < b)) a r hl hi.length (fun i x hx => ?_) (fun x y va vb σ' s' Q' h1 h2 _ _ hq => ?_) fun v σ' s' ⟨t, hv⟩ hs r' => ?_
    · obtain ⟨t, ht⟩ := hi.get i x hx
      exact ⟨_, ht, t, rfl⟩
    · exact CmpOf.ints_lt (P := fun i w => (i = 0 ∧ w = va) ∨ (i = 1 ∧ w = vb)) (fun i => if i = 0 then x else y) (fun i w hw => by
        rcases hw with ⟨rfl, rfl⟩ | ⟨rfl, rfl⟩
        · exact h1
        · exact h2) 0 1 _ _ _ _ _ (.inl ⟨rfl, rfl⟩) (.inr ⟨rfl, rfl⟩) (by simpa using hq)
    · subst hv
      obtain ⟨h1, h2⟩ := best_lt rest a0
      exact h _ _ _ _ h1 h2 hs r'
theorem v_minN' {x y : Value} {zs : List Value} {ns : List Int} {Q : Value → Shared → Prop} (a : Act K none n A base (env :: fs.map (·.1))) (r : R prog w base os ((env, m) :: fs) σ s) (ha : argsOk "min" ⟨x :: y :: zs, []⟩) (hz : zs.length ≤ 10) (hi : IntsAre (x :: y :: zs) ns)
    (h : ∀ M t σ' s', M ∈ ns → (∀ x ∈ ns, M ≤ x) → (∀ c x, σ c = some x → σ' c = some x) → R prog w base os ((env, m) :: fs) σ' s' → Q (.int M t) s') : wpAny (model prog w) A (call (.builtin "min") (x :: y :: zs)) Q E s := by
  cases ns with
  | nil => cases hi
  | cons a0 rest =>
    refine v_minN (items := rest) (a0 := a0) (G := fun a v => ∃ t, v = .int a t) (bt := fun a b => decide (a < b)) a r ha hz hi.length (fun i x hx => ?_) (fun x y va vb σ' s' Q' h1 h2 _ _ hq => ?_) fun v σ' s' ⟨t, hv⟩ hs r' => ?_
    · obtain ⟨t, ht⟩ := hi.get i x hx
      exact ⟨_, ht, t, rfl⟩
    · exact CmpOf.ints_lt (P := fun i w => (i = 0 ∧ w = va) ∨ (i = 1 ∧ w = vb)) (fun i => if i = 0 then x else y) (fun i w hw => by
        rcases hw with ⟨rfl, rfl⟩ | ⟨rfl, rfl⟩
        · exact h1
        · exact h2) 0 1 _ _ _ _ _ (.inl ⟨rfl, rfl⟩) (.inr ⟨rfl, rfl⟩) (by simpa using hq)
    · subst hv
      obtain ⟨h1, h2⟩ := best_lt rest a0
      exact h _ _ _ _ h1 h2 hs r'
theorem v_maxN' {x y : Value} {zs : List Value} {ns : List Int} {Q : Value → Shared → Prop} (a : Act K none n A base (env :: fs.map (·.1))) (r : R prog w base os ((env, m) :: fs) σ s) (ha : argsOk "max" ⟨x :: y :: zs, []⟩) (hz : zs.length ≤ 10) (hi : IntsAre (x :: y :: zs) ns)
    (h : ∀ M t σ' s', M ∈ ns → (∀ x ∈ ns, x ≤ M) → (∀ c x, σ c = some x → σ' c = some x) → R prog w base os ((env, m) :: fs) σ' s' → Q (.int M t) s') : wpAny (model prog w) A (call (.builtin "max") (x :: y :: zs)) Q E s := by
  cases ns with
  | nil => cases hi
  | cons a0 rest =>
    refine v_maxN (items := rest) (a0 := a0) (G := fun a v => ∃ t, v = .int a t) (bt := fun a b => decide (a > b)) a r ha hz hi.length (fun i x hx => ?_) (fun x y va vb σ' s' Q' h1 h2 _ _ hq => ?_) fun v σ' s' ⟨t, hv⟩ hs r' => ?_
    · obtain ⟨t, ht⟩ := hi.get i x hx
      exact ⟨_, ht, t, rfl⟩
    · exact CmpOf.ints_gt (P := fun i w => (i = 0 ∧ w = va) ∨ (i = 1 ∧ w = vb)) (fun i => if i = 0 then x else y) (fun i w hw => by
        rcases hw with ⟨rfl, rfl⟩ | ⟨rfl, rfl⟩
        · exact h1
        · exact h2) 0 1 _ _ _ _ _ (.inl ⟨rfl, rfl⟩) (.inr ⟨rfl, rfl⟩) (by simpa using hq)
    · subst hv
      obtain ⟨h1, h2⟩ := best_gt rest a0
      exact h _ _ _ _ h1 h2 hs r'
end
namespace L2
variable {prog : Program} {w : World} {K : Frag} {H : Option Value} {n : Nat} {σ : Hp}
theorem fold_len : ∀ (os l : List (Int × Int)), (os.foldl P2.upd l).length ≤ l.length + os.length
  | [], l => Nat.le_refl _
  | p :: os, l => by
    have h1 := fold_len os (P2.upd l p)
    have h2 := upd_len l p
    simp only [List.foldl_cons, List.length_cons]
    omega
theorem afters_len (rm : Nat) (w h : Int) : (P2.afters rm w h).length ≤ 5 := by
  have hlen5 : (P2.inside h).length ≤ 5 := List.length_filter_le _ _
  unfold P2.afters
  split
  · simp
  · split
    · rw [List.length_map]; exact hlen5
    · simp
theorem offers_len (rm : Nat) (w : Int) : ∀ ways : List (Int × Int), (P2.offers rm w ways).length ≤ 5 * ways.length
  | [] => Nat.le_refl _
  | p :: r => by
    have h1 := offers_len rm w r
    have h2 := afters_len rm w p.1
    unfold P2.offers at h1 ⊢
    rw [List.flatMap_cons, List.length_append, List.length_map, List.length_cons]
    omega

theorem for2 {A : Around} {base : Heap} {os : OsState} {env : Env} {fs : List (Env × Nm)} {m : Nm} {s : Shared} {E : Value → Shared → Prop} {cw cn ch d d2 : Addr} {w0 room : Int} {rm : Nat} {tw tr : Tok} {v0 : Option Value} {kvs : List (Int × Value)} {ways : List (Int × Int)} {Q : Flow → Shared → Prop}
    (a : Act K none n A base (env :: fs.map (·.1))) (hE : PassesOwn (model prog w) A env E) (hsc : env.scope = fnScope s_least) (hcl : env.cells = [(("held" : Str), ch), (("want" : Str), cn), (("ways" : Str), cw)]) (r : R prog w base os ((env, m) :: fs) σ s)
    (hR : nsIn K mainGlobals "range" = some none) (hL : nsIn K mainGlobals "len" = some none)
    (hch : σ ch = some (.cell v0)) (hcn : σ cn = some (.cell (some (.int w0 tw)))) (hcw : σ cw = some (.cell (some (.ref d)))) (n1 : cn ≠ ch) (n2 : cw ≠ ch) (hd : σ d = some (.dict kvs)) (hkv : IntKV kvs ways) (hu : P2.Uniq ways) (hk : ∀ p ∈ ways, 0 ≤ p.1) (hlw : ways.length ≤ 100) (hw : 0 ≤ w0 ∧ w0 < 5)
    (hroom : m "room" = some (.int room tr)) (hrm : room = rm) (hmore : m "more" = some (.ref d2)) (hd2 : σ d2 = some (.dict [])) (n3 : d2 ≠ d)
    (fin : ∀ m' σ' s' kvs2, R prog w base os ((env, m') :: fs) σ' s' → m' "room" = some (.int room tr) → m' "more" = some (.ref d2) → IntKV kvs2 (P2.turn rm ways w0) → σ' d2 = some (.dict kvs2) → (∃ v, σ' ch = some (.cell v)) → σ' d = some (.dict kvs) → (∀ a, a ≠ d2 → a ≠ ch → a ≠ d → σ a ≠ none → σ' a = σ a) → Q .next s') :
    wpAny (model prog w) A (exec s_for2 env) Q E s := by
  have fk := a.head.2.1
  have c1 : ch ≠ d := fun e => by rw [e, hd] at hch; cases hch
  have c2 : cn ≠ d := fun e => by rw [e, hd] at hcn; cases hcn
  have c3 : cw ≠ d := fun e => by rw [e, hd] at hcw; cases hcw
  have c4 : ch ≠ d2 := fun e => by rw [e, hd2] at hch; cases hch
  have c5 : cn ≠ d2 := fun e => by rw [e, hd2] at hcn; cases hcn
  have c6 : cw ≠ d2 := fun e => by rw [e, hd2] at hcw; cases hcw
  refine v_forD (base := base) (os := os) (fs := fs) a hE (fun _ => rfl) ?_
  refine v_cell fk r (kof hsc (by kernel_rfl)) (by rw [hcl]; rfl) hcw ?_ (by kernel_rfl)
  refine ⟨m, σ, d, kvs, rfl, r, hd, (fun j m' σ' => m' "room" = some (.int room tr) ∧ m' "more" = some (.ref d2) ∧ (∃ kvs2, IntKV kvs2 ((P2.offers rm w0 (ways.take j)).foldl P2.upd []) ∧ σ' d2 = some (.dict kvs2)) ∧ (∃ v, σ' ch = some (.cell v)) ∧ ∀ a, a ≠ d2 → a ≠ ch → a ≠ d → σ a ≠ none → σ' a = σ a), ?_, ?_, ?_, ?_⟩
  · exact ⟨hroom, hmore, ⟨[], .nil, hd2⟩, ⟨_, hch⟩, fun _ _ _ _ _ => rfl⟩
  · rintro i m' σ' b x hb ⟨j1, j2, ⟨kvs2, j3, j4⟩, ⟨v, j5⟩, j6⟩
    have e1 : d2 ≠ b := fun e => by
      rcases hb with h | ⟨h, _⟩
      · exact n3 (e.trans h)
      · rw [← e, hd2] at h; cases h
    have e2 : ch ≠ b := fun e => by
      rcases hb with h | ⟨h, _⟩
      · exact c1 (e.trans h)
      · rw [← e, hch] at h; cases h
    refine ⟨j1, j2, ⟨kvs2, j3, by rw [Hp.set_ne _ _ e1]; exact j4⟩, ⟨v, by rw [Hp.set_ne _ _ e2]; exact j5⟩, fun a' h1 h2 h3 h4 => ?_⟩
    have e3 : a' ≠ b := fun e => by
      rcases hb with h | ⟨h, _⟩
      · exact h3 (e.trans h)
      · exact h4 (by rw [e]; exact h)
    rw [Hp.set_ne _ _ e3]; exact j6 a' h1 h2 h3 h4
  · rintro it ep i m' σ' k x t s hv ⟨j1, j2, ⟨kvs2, j3, j4⟩, ⟨v, j5⟩, j6⟩ hde hit r
    obtain ⟨c, tc, hwi, rfl⟩ := hkv.at hv
    have hmem : (k, c) ∈ ways := List.mem_of_getElem? hwi
    have hlt : i < ways.length := (List.getElem?_eq_some_iff.mp hwi).1
    have hstep : P2.offers rm w0 (ways.take (i + 1)) = P2.offers rm w0 (ways.take i) ++ (P2.afters rm w0 k).map (·, P2.costOf w0 (k, c)) := by
      rw [List.take_add_one, hwi]
      unfold P2.offers
      simp
    refine wpAny_assign_Name (v_storecell fk r (kof hsc (by kernel_rfl)) (by rw [hcl]; rfl) j5 fun s r => ?_)
    have hl2 : ((P2.offers rm w0 (ways.take i)).foldl P2.upd []).length ≤ 800 := by
      have h1 := fold_len (P2.offers rm w0 (ways.take i)) []
      have h2 := offers_len rm w0 (ways.take i)
      rw [List.length_take] at h2
      simp only [List.length_nil] at h1
      omega
    have hcn' : σ' cn = some (.cell (some (.int w0 tw))) := (j6 cn c5 n1 c2 (by rw [hcn]; simp)).trans hcn
    have hcw' : σ' cw = some (.cell (some (.ref d))) := (j6 cw c6 n2 c3 (by rw [hcw]; simp)).trans hcw
    refine body2 (rm := rm) (k := k) (c := c) (w0 := w0) (Q := fun f s₃ => match f with
          | .next | .cont => ∃ m' σ'_1, R prog w base os ((env, m') :: fs) σ'_1 s₃ ∧ (m' "room" = some (.int room tr) ∧ m' "more" = some (.ref d2) ∧ (∃ kvs2, IntKV kvs2 ((P2.offers rm w0 (ways.take (i + 1))).foldl P2.upd []) ∧ σ'_1 d2 = some (.dict kvs2)) ∧ (∃ v, σ'_1 ch = some (.cell v)) ∧ ∀ a, a ≠ d2 → a ≠ ch → a ≠ d → σ a ≠ none → σ'_1 a = σ a) ∧ σ'_1 it = σ' it ∧ σ'_1 d = σ' d
          | .brk => Q .next s₃
          | .ret v => Q (.ret v) s₃) a hE hsc hcl r hR hL (Hp.set_self _ _ _) (by rw [Hp.set_ne _ _ n1]; exact hcn') (by rw [Hp.set_ne _ _ n2]; exact hcw') (by rw [Hp.set_ne _ _ c1.symm]; exact hde) hkv (P2.mem_aget hu hmem) (hk _ hmem) hw j1 hrm j2 (by rw [Hp.set_ne _ _ c4.symm]; exact j4) j3 hl2 fun m'' σ'' s'' kvs2' r u1 u2 u3 u4 u5 => ?_
    have hitd2 : it ≠ d2 := fun e => by rw [e, j4] at hit; cases hit
    have hitch : it ≠ ch := fun e => by rw [e, j5] at hit; cases hit
    refine ⟨m'', σ'', r, ⟨u1, u2, ⟨kvs2', by rw [hstep, List.foldl_append]; exact u3, u4⟩, ⟨_, by rw [u5 ch c4 (by rw [Hp.set_self]; simp)]; exact Hp.set_self _ _ _⟩, fun a' h1 h2 h3 h4 => ?_⟩, ?_, ?_⟩
    · rw [u5 a' h1 (by rw [Hp.set_ne _ _ h2, j6 a' h1 h2 h3 h4]; exact h4), Hp.set_ne _ _ h2]; exact j6 a' h1 h2 h3 h4
    · rw [u5 it hitd2 (by rw [Hp.set_ne _ _ hitch, hit]; simp), Hp.set_ne _ _ hitch]
    · rw [u5 d n3.symm (by rw [Hp.set_ne _ _ c1.symm, hde]; simp), Hp.set_ne _ _ c1.symm]
  · rintro it m' σ' s ⟨j1, j2, ⟨kvs2, j3, j4⟩, ⟨v, j5⟩, j6⟩ hit hitd hd' r
    have hlen := hkv.len
    rw [hlen, List.take_length] at j3
    have e1 : d2 ≠ it := fun e => by rw [← e, hd2] at hit; cases hit
    have e2 : ch ≠ it := fun e => by rw [← e, hch] at hit; cases hit
    refine fin m' _ s kvs2 r j1 j2 j3 (by rw [Hp.del_ne _ (by simpa using e1)]; exact j4) ⟨v, by rw [Hp.del_ne _ (by simpa using e2)]; exact j5⟩ (by rw [Hp.del_ne _ (by simpa using hitd.symm)]; exact hd') fun a' h1 h2 h3 h4 => ?_
    rw [Hp.del_ne _ (by simp; rintro rfl; exact h4 hit)]; exact j6 a' h1 h2 h3 h4
end L2
end Mine
namespace Mine
set_option pp.deepTerms false
set_option pp.deepTerms.threshold 8
local macro_rules | `(tactic| walk_at "lk") => `(tactic| first | assumption | rfl | (simp only [mset, ofs_inj, String.reduceEq, ↓reduceIte]; first | assumption | rfl) | (simp only [mset, ofs_inj, String.reduceEq, ↓reduceIte]; done))
local macro_rules | `(tactic| walk_at "nm") => `(tactic| (refine v_local (by assumption) (by assumption) (kof (by assumption) (by kernel_rfl)) (by walk_at "lk") ?_ (by kernel_rfl)))
local macro_rules | `(tactic| walk_at "st") => `(tactic| (refine v_store (by assumption) (by assumption) (kof (by assumption) (by kernel_rfl)) fun s r => ?_))
local macro_rules | `(tactic| walk_at "v") => `(tactic| first
  | with_reducible refine wpAny_Return_some ?_
  | with_reducible refine wpAny_Return_none ?_
  | ((with_reducible refine wpAny_Compare1 (hm := ?hm) ?_); (case hm => with_unfolding_all rfl))
  | ((with_reducible refine wpAny_isTrue_Compare1 (hm := ?hm) ?_); (case hm => with_unfolding_all rfl))
  | ((with_reducible refine wpAny_Assign_Name (hs := ?hs) ?_); (case hs => rfl))
  | ((with_reducible refine wpAny_Assign_Subscript (hs := ?hs) ?_); (case hs => rfl))
  | ((with_reducible refine plainObj_wpAny_Assign_Attribute (hs := ?hs) ?_); (case hs => rfl))
  | ((with_reducible refine wpAny_Assign_two (he := ?he) (hw := ?hw) ?_); (case he => rfl); (case hw => rfl))
  | with_reducible refine assign_Attr ?_
  | with_reducible refine assign_Subs ?_
  | with_reducible refine wpAny_assign_Name ?_
  | with_reducible refine Attribute_name ?_
  | with_reducible refine Attribute_any_ ?_
  | with_reducible refine Subscript_ ?_
  | with_reducible refine wpAny_If ?_
  | with_reducible refine wpAny_BinOp ?_
  | with_reducible refine wpAny_UnaryOp ?_
  | with_reducible refine wpAny_Delete ?_
  | with_reducible refine wpAny_deleteEach_cons ?_
  | with_reducible refine wpAny_deleteEach_nil ?_
  | with_reducible refine wpAny_delete_Subscript ?_
  | with_reducible refine wpAny_AugAssign_AttributeAny ?_
  | with_reducible refine wpAny_execs_nil ?_
  | with_reducible refine wpAny_Constant_none ?_
  | with_reducible refine spliced_none ?_
  | with_reducible refine ea_none ?_
  | ((with_reducible refine ea_plain ?_ ?he); (case he => rfl))
  | ((with_reducible refine' methodCall_KW (pl := ?pl) (he := ?he) ?_); (case he => rfl))
  | walk_at "nm"
  | ((with_reducible refine spliced_more ?_ (he := ?he)); (case he => rfl)))
local macro_rules | `(tactic| walk_at "vv") => `(tactic| repeat walk_at "v")
namespace L2
variable {prog : Program} {w : World} {K : Frag} {H : Option Value} {n : Nat} {σ : Hp}

theorem ways_len {room : Nat} {pfx : List Int} {ways : List (Int × Int)} (k : P2.Ok room pfx ways) : ways.length ≤ 32 := by
  have hu : (ways.map (·.1)).Nodup := k.uniq
  have h := P2.sub_len (ways.map (·.1)) ((List.range 32).map fun (i : Nat) => (i : Int)) hu fun x hx => by
    obtain ⟨p, hp, rfl⟩ := List.mem_map.mp hx
    obtain ⟨⟨h0, h1, _⟩, _⟩ := k.mask p hp
    exact List.mem_map.mpr ⟨p.1.toNat, List.mem_range.mpr (by omega), by omega⟩
  simpa using h

theorem for1 {A : Around} {base : Heap} {os : OsState} {env : Env} {fs : List (Env × Nm)} {m : Nm} {s : Shared} {E : Value → Shared → Prop} {cw cn ch d lw : Addr} {room : Int} {rm : Nat} {tr : Tok} {v0 v1 : Option Value} {kvs : List (Int × Value)} {vs : List Value} {ws : List Int} {Q : Flow → Shared → Prop}
    (a : Act K none n A base (env :: fs.map (·.1))) (hE : PassesOwn (model prog w) A env E) (hsc : env.scope = fnScope s_least) (hcl : env.cells = [(("held" : Str), ch), (("want" : Str), cn), (("ways" : Str), cw)]) (r : R prog w base os ((env, m) :: fs) σ s)
    (hR : nsIn K mainGlobals "range" = some none) (hL : nsIn K mainGlobals "len" = some none)
    (hch : σ ch = some (.cell v0)) (hcn : σ cn = some (.cell v1)) (hcw : σ cw = some (.cell (some (.ref d)))) (n1 : cn ≠ ch) (n2 : cw ≠ ch) (n3 : cw ≠ cn) (hd : σ d = some (.dict kvs)) (hkv : IntKV kvs [(0, 0)])
    (hroom : m "room" = some (.int room tr)) (hrm : room = rm) (hwm : m "wants" = some (.ref lw)) (hlw : σ lw = some (.list vs)) (hi : IntsAre vs ws) (hws : ∀ x ∈ ws, 0 ≤ x ∧ x < 5)
    (fin : ∀ m' σ' s' d' kvs', R prog w base os ((env, m') :: fs) σ' s' → σ' cw = some (.cell (some (.ref d'))) → σ' d' = some (.dict kvs') → IntKV kvs' (P2.table rm ws) → (d' = d ∨ σ d' = none) → (∀ a, a ≠ cw → a ≠ cn → a ≠ ch → σ a ≠ none → σ' a = σ a) → Q .next s') :
    wpAny (model prog w) A (exec s_for1 env) Q E s := by
  have fk := a.head.2.1
  refine v_forL (base := base) (os := os) (fs := fs) a hE (fun _ => rfl) ?_
  walk_at "nm"
  refine ⟨m, σ, lw, vs, rfl, r, hlw, (fun i m' σ' => m' "room" = some (.int room tr) ∧ (∃ d' kvs', σ' cw = some (.cell (some (.ref d'))) ∧ σ' d' = some (.dict kvs') ∧ IntKV kvs' (P2.table rm (ws.take i)) ∧ (d' = d ∨ σ d' = none)) ∧ (∃ v, σ' cn = some (.cell v)) ∧ (∃ v, σ' ch = some (.cell v)) ∧ ∀ a, a ≠ cw → a ≠ cn → a ≠ ch → σ a ≠ none → σ' a = σ a), ?_, ?_, ?_, ?_⟩
  · exact ⟨hroom, ⟨d, kvs, hcw, hd, hkv, .inl rfl⟩, ⟨_, hcn⟩, ⟨_, hch⟩, fun _ _ _ _ _ => rfl⟩
  · rintro i m' σ' it x hit his ⟨j1, ⟨d', kvs', j2, j3, j4, j8⟩, ⟨v, j5⟩, ⟨u, j6⟩, j7⟩
    obtain ⟨q1, q2, _⟩ := his.ne
    have e1 : cw ≠ it := fun e => q2 _ (by rw [← e]; exact j2)
    have e2 : d' ≠ it := fun e => q1 _ (by rw [← e]; exact j3)
    have e3 : cn ≠ it := fun e => q2 _ (by rw [← e]; exact j5)
    have e4 : ch ≠ it := fun e => q2 _ (by rw [← e]; exact j6)
    exact ⟨j1, ⟨d', kvs', by rw [Hp.set_ne _ _ e1]; exact j2, by rw [Hp.set_ne _ _ e2]; exact j3, j4, j8⟩, ⟨v, by rw [Hp.set_ne _ _ e3]; exact j5⟩, ⟨u, by rw [Hp.set_ne _ _ e4]; exact j6⟩,
      fun b h1 h2 h3 h4 => by rw [Hp.set_ne _ _ (fun e => h4 (by rw [e]; exact hit))]; exact j7 b h1 h2 h3 h4⟩
  · rintro it i m' σ' v s hv ⟨j1, ⟨d', kvs', j2, j3, j4, j8⟩, ⟨v', j5⟩, ⟨u, j6⟩, j7⟩ hl' hit r
    obtain ⟨w0, hx, t, rfl⟩ := ints_get hi hv
    have hok : P2.Ok rm (ws.take i) (P2.table rm (ws.take i)) := by
      have := P2.table_ok (ws.take i) [] _ (fun x hx => hws x (List.mem_of_mem_take hx)) (P2.Ok.start rm)
      rw [List.nil_append] at this
      exact this
    have hw0 := hws w0 (List.mem_of_getElem? hx)
    have e1 : cw ≠ d' := fun e => by rw [e, j3] at j2; cases j2
    have e2 : cn ≠ d' := fun e => by rw [e, j3] at j5; cases j5
    have e3 : ch ≠ d' := fun e => by rw [e, j3] at j6; cases j6
    refine wpAny_assign_Name (v_storecell fk r (kof hsc (by kernel_rfl)) (by rw [hcl]; rfl) j5 fun s r => ?_)
    refine wpAny_execs_cons ?_
    walk_at "vv"
    refine v_dict0 r fun d2 s hd2 r => ?_
    walk_at "st"; rename_i s r
    have g1 : d2 ≠ cn := fun e => by rw [e, Hp.set_self] at hd2; cases hd2
    rw [Hp.set_ne _ _ g1] at hd2
    have g2 : d2 ≠ cw := fun e => by rw [e, j2] at hd2; cases hd2
    have g3 : d2 ≠ ch := fun e => by rw [e, j6] at hd2; cases hd2
    have hd20 : σ d2 = none := Classical.byContradiction fun q => q ((j7 d2 g2 g1 g3 q).symm.trans hd2)
    have g4 : d2 ≠ d' := fun e => by rw [e, j3] at hd2; cases hd2
    refine wpAny_execs_cons ?_
    refine for2 (rm := rm) (w0 := w0) (d := d') (d2 := d2) a hE hsc hcl r hR hL (by rw [Hp.set_ne _ _ g3.symm, Hp.set_ne _ _ n1.symm]; exact j6) (by rw [Hp.set_ne _ _ g1.symm]; exact Hp.set_self _ _ _) (by rw [Hp.set_ne _ _ g2.symm, Hp.set_ne _ _ n3]; exact j2) n1 n2
      (by rw [Hp.set_ne _ _ g4.symm, Hp.set_ne _ _ e2.symm]; exact j3) j4 hok.uniq (fun p hp => (hok.mask p hp).1.1) (by have := ways_len hok; omega) hw0 (by walk_at "lk") hrm (by walk_at "lk") (Hp.set_self _ _ _) g4 fun m'' σ'' s'' kvs2 r u1 u2 u3 u4 u5 u7 u6 => ?_
    obtain ⟨vh, u5⟩ := u5
    refine wpAny_execs_cons ?_
    walk_at "vv"
    have hcw'' : σ'' cw = some (.cell (some (.ref d'))) := by
      rw [u6 cw g2.symm n2 e1 (by rw [Hp.set_ne _ _ g2.symm, Hp.set_ne _ _ n3, j2]; simp), Hp.set_ne _ _ g2.symm, Hp.set_ne _ _ n3]; exact j2
    refine v_storecell fk r (kof hsc (by kernel_rfl)) (by rw [hcl]; rfl) hcw'' fun s r => ?_
    refine wpAny_execs_nil ?_
    have hcn'' : σ'' cn = some (.cell (some (.int w0 t))) := by
      rw [u6 cn g1.symm n1 e2 (by rw [Hp.set_ne _ _ g1.symm, Hp.set_self]; simp), Hp.set_ne _ _ g1.symm]; exact Hp.set_self _ _ _
    have far : ∀ b, b ≠ cw → b ≠ cn → b ≠ ch → b ≠ d' → σ' b ≠ none → (σ''.set cw (.cell (some (.ref d2)))) b = σ' b := fun b h1 h2 h3 h4 h5 => by
      have h6 : b ≠ d2 := fun e => h5 (by rw [e]; exact hd2)
      have h7 : ((σ'.set cn (.cell (some (.int w0 t)))).set d2 (.dict [])) b = σ' b := by rw [Hp.set_ne _ _ h6, Hp.set_ne _ _ h2]
      rw [Hp.set_ne _ _ h1, u6 b h6 h3 h4 (by rw [h7]; exact h5), h7]
    have hstep : P2.table rm (ws.take (i + 1)) = P2.turn rm (P2.table rm (ws.take i)) w0 := by
      unfold P2.table
      rw [List.take_add_one, hx]
      simp
    have hitd' : it ≠ d' := fun e => by rw [e, j3] at hit; cases hit
    have hlwd : lw ≠ d' := fun e => by rw [e, j3] at hl'; cases hl'
    have keepE : ∀ b, σ b ≠ none → b ≠ cw → b ≠ cn → b ≠ ch → (σ''.set cw (.cell (some (.ref d2)))) b = σ b := fun b h4 h1 h2 h3 => by
      by_cases hbd : b = d'
      · -- the old table: it stands as it stood
        subst hbd
        rw [Hp.set_ne _ _ h1, u7, ← j7 b h1 h2 h3 h4, j3]
      · rw [far b h1 h2 h3 hbd (by rw [j7 b h1 h2 h3 h4]; exact h4), j7 b h1 h2 h3 h4]
    refine ⟨m'', _, r, ⟨u1, ⟨d2, kvs2, Hp.set_self _ _ _, by rw [Hp.set_ne _ _ g2]; exact u4, by rw [hstep]; exact u3, .inr hd20⟩, ⟨_, by rw [Hp.set_ne _ _ n3.symm]; exact hcn''⟩, ⟨vh, by rw [Hp.set_ne _ _ n2.symm]; exact u5⟩, fun b h1 h2 h3 h4 => keepE b h4 h1 h2 h3⟩, ?_, ?_⟩
    · exact far it (fun e => by rw [e, j2] at hit; cases hit) (fun e => by rw [e, j5] at hit; cases hit) (fun e => by rw [e, j6] at hit; cases hit) hitd' (by rw [hit]; simp)
    · exact far lw (fun e => by rw [e, j2] at hl'; cases hl') (fun e => by rw [e, j5] at hl'; cases hl') (fun e => by rw [e, j6] at hl'; cases hl') hlwd (by rw [hl']; simp)
  · rintro it m' σ' s ⟨j1, ⟨d', kvs', j2, j3, j4, j8⟩, ⟨v, j5⟩, ⟨u, j6⟩, j7⟩ hit hl' hit2 r
    rw [hi.length, List.take_length] at j4
    have e1 : cw ≠ it := fun e => by rw [e, hit2] at j2; cases j2
    have e2 : d' ≠ it := fun e => by rw [e, hit2] at j3; cases j3
    refine fin m' _ s d' kvs' r (by rw [Hp.del_ne _ (by simpa using e1)]; exact j2) (by rw [Hp.del_ne _ (by simpa using e2)]; exact j3) j4 j8 fun b h1 h2 h3 h4 => ?_
    rw [Hp.del_ne _ (by simp; rintro rfl; exact h4 hit)]; exact j7 b h1 h2 h3 h4
end L2
end Mine
namespace Mine
set_option pp.deepTerms false
set_option pp.deepTerms.threshold 8
local macro_rules | `(tactic| walk_at "lk") => `(tactic| first | assumption | rfl | (simp only [mset, ofs_inj, String.reduceEq, ↓reduceIte]; first | assumption | rfl) | (simp only [mset, ofs_inj, String.reduceEq, ↓reduceIte]; done))
local macro_rules | `(tactic| walk_at "nm") => `(tactic| (refine v_local (by assumption) (by assumption) (kof (by assumption) (by kernel_rfl)) (by walk_at "lk") ?_ (by kernel_rfl)))
local macro_rules | `(tactic| walk_at "st") => `(tactic| (refine v_store (by assumption) (by assumption) (kof (by assumption) (by kernel_rfl)) fun s r => ?_))
local macro_rules | `(tactic| walk_at "v") => `(tactic| first
  | with_reducible refine wpAny_Return_some ?_
  | with_reducible refine wpAny_Return_none ?_
  | ((with_reducible refine wpAny_Compare1 (hm := ?hm) ?_); (case hm => with_unfolding_all rfl))
  | ((with_reducible refine wpAny_isTrue_Compare1 (hm := ?hm) ?_); (case hm => with_unfolding_all rfl))
  | ((with_reducible refine wpAny_Assign_Name (hs := ?hs) ?_); (case hs => rfl))
  | ((with_reducible refine wpAny_Assign_Subscript (hs := ?hs) ?_); (case hs => rfl))
  | ((with_reducible refine plainObj_wpAny_Assign_Attribute (hs := ?hs) ?_); (case hs => rfl))
  | ((with_reducible refine wpAny_Assign_two (he := ?he) (hw := ?hw) ?_); (case he => rfl); (case hw => rfl))
  | with_reducible refine assign_Attr ?_
  | with_reducible refine assign_Subs ?_
  | with_reducible refine wpAny_assign_Name ?_
  | with_reducible refine Attribute_name ?_
  | with_reducible refine Attribute_any_ ?_
  | with_reducible refine Subscript_ ?_
  | with_reducible refine wpAny_If ?_
  | with_reducible refine wpAny_BinOp ?_
  | with_reducible refine wpAny_UnaryOp ?_
  | with_reducible refine wpAny_Delete ?_
  | with_reducible refine wpAny_deleteEach_cons ?_
  | with_reducible refine wpAny_deleteEach_nil ?_
  | with_reducible refine wpAny_delete_Subscript ?_
  | with_reducible refine wpAny_AugAssign_AttributeAny ?_
  | with_reducible refine wpAny_execs_nil ?_
  | with_reducible refine wpAny_Constant_none ?_
  | with_reducible refine spliced_none ?_
  | with_reducible refine ea_none ?_
  | ((with_reducible refine ea_plain ?_ ?he); (case he => rfl))
  | ((with_reducible refine' methodCall_KW (pl := ?pl) (he := ?he) ?_); (case he => rfl))
  | walk_at "nm"
  | ((with_reducible refine spliced_more ?_ (he := ?he)); (case he => rfl)))
local macro_rules | `(tactic| walk_at "vv") => `(tactic| repeat walk_at "v")
theorem CallT.ofC {prog : Program} {w : World} {K : Frag} {H : Option Value} {n : Nat} {σ : Hp} {f : Addr} {st : Stmt} {dV : Value} {vals : List Value} {binds : List (Str × Value)} {Q : Value → Hp → Prop} {X : String → Hp → Prop} (hf : FnIs K f st dV)
    (hb : ∀ (name qual : Str) (kV doc pm : Value) (an : Option Addr) (cdv ct : Value) (s : Shared), K.In s.heap → BindsTo s (fnOf name qual (fnPar st) (fnBody st) (fnScope st) dV kV doc pm an cdv ct) ⟨vals, []⟩ binds)
    (hkind : ∀ x ∈ binds, (fnScope st).names.lookup x.1 = some .local ∨ ((fnScope st).names.lookup x.1 = some .cell ∧ ∀ n, ((cellsFrom n (fnScope st).names []).lookup x.1).isSome = true))
    (hnd : ((cellsFrom 0 (fnScope st).names []).map (·.1)).Nodup)
    (hk : ((fnScope st).kind == .function && !(fnScope st).isCoroutine && !(fnScope st).isGenerator) = true)
    (h : ∀ L qual cdv, (∀ a, L ≤ a → σ a = none) → BodyE prog w K H n (fun env => env = envOfC qual (fnScope st) L f cdv) (fnBody st) (bindL (fun x => (fnScope st).names.lookup x) binds fun _ => none)
      (cellHp (bindC (fun x => (fnScope st).names.lookup x) binds fun _ => none) (cellsFrom (L + 1) (fnScope st).names []) σ) Q X) : CallT prog w K H (n + 1) (.ref f) ⟨vals, []⟩ σ Q X := by
  obtain ⟨oc, od, osl, name, qual, kV, doc, pm, an, cdv, ct, h1, h2⟩ := hf
  simp only [Bool.and_eq_true, beq_iff_eq, Bool.not_eq_true'] at hk
  exact CallT.defC h1 h2 (fun s X => hb name qual kV doc pm an cdv ct s X) hkind hnd hk.1.2 hk.2 hk.1.1 fun L hL => h L qual cdv hL
namespace L2
variable {prog : Program} {w : World} {K : Frag} {H : Option Value} {n : Nat} {σ : Hp}
def s_ret : Stmt := stmtAt (fnBody s_least) 2
def retVal : Stmt → Expr
  | .Return (some v) _ => v
  | _ => .Constant .none 0 default
def arg0 : Expr → Expr
  | .Call _ (a :: _) _ _ => a
  | e => e

set_option maxHeartbeats 1000000 in
theorem call_least {f : Addr} (hf : FnIs K f s_least .none) (hR : nsIn K mainGlobals "range" = some none) (hL : nsIn K mainGlobals "len" = some none) (hM : nsIn K mainGlobals "min" = some none) {rm : Nat} {tr : Tok} {lw : Addr} {vs : List Value} {ws : List Int} {X : String → Hp → Prop}
    (hr : 1 ≤ rm) (hlw : σ lw = some (.list vs)) (hi : IntsAre vs ws) (hws : ∀ x ∈ ws, 0 ≤ x ∧ x < 5) :
    CallT prog w K none (n + 1) (.ref f) ⟨[.int rm tr, .ref lw], []⟩ σ (fun v σ' => (∃ M t, v = .int M t ∧ (∃ p ∈ P2.table rm ws, p.2 = M) ∧ ∀ p ∈ P2.table rm ws, M ≤ p.2) ∧ ∀ a x, σ a = some x → σ' a = some x) X := by
  refine CallT.ofC (binds := [("room", .int rm tr), ("wants", .ref lw)]) hf (fun _ _ _ _ _ _ _ _ _ _ => BindsTo.of_eq rfl) ?_ (by decide +kernel) (by kernel_rfl) fun L qual cdv hLf => ?_
  · intro x hx
    left
    simp only [List.mem_cons, List.not_mem_nil, or_false] at hx
    rcases hx with rfl | rfl <;> rfl
  intro A base os env fs s he a r
  have hsc : env.scope = fnScope s_least := by subst he; rfl
  have hcl : env.cells = [(("held" : Str), L + 1 + 1 + 1), (("want" : Str), L + 1 + 1), (("ways" : Str), L + 1)] := by subst he; rfl
  clear he
  have h1 : (bindL (fun x => (fnScope s_least).names.lookup x) [(("room" : Str), Value.int rm tr), ("wants", .ref lw)] fun _ => none) "room" = some (.int rm tr) := by kernel_rfl
  have h2 : (bindL (fun x => (fnScope s_least).names.lookup x) [(("room" : Str), Value.int rm tr), ("wants", .ref lw)] fun _ => none) "wants" = some (.ref lw) := by kernel_rfl
  have hσ : cellHp (bindC (fun x => (fnScope s_least).names.lookup x) [(("room" : Str), Value.int rm tr), ("wants", .ref lw)] fun _ => none) (cellsFrom (L + 1) (fnScope s_least).names []) σ = ((σ.set (L + 1) (.cell none)).set (L + 1 + 1) (.cell none)).set (L + 1 + 1 + 1) (.cell none) := rfl
  rw [hσ] at r
  have fk := a.head.2.1
  have n12 : L + 1 + 1 ≠ L + 1 + 1 + 1 := Nat.ne_of_lt (Nat.lt_succ_self _)
  have n13 : L + 1 ≠ L + 1 + 1 + 1 := Nat.ne_of_lt (Nat.lt_succ_of_lt (Nat.lt_succ_self _))
  have n14 : L + 1 ≠ L + 1 + 1 := Nat.ne_of_lt (Nat.lt_succ_self _)
  have old : ∀ {b : Addr} {x : AO}, σ b = some x → b ≠ L + 1 ∧ b ≠ L + 1 + 1 ∧ b ≠ L + 1 + 1 + 1 := fun {b x} e => by
    have key : L ≤ b → False := fun q => by rw [hLf b q] at e; cases e
    exact ⟨fun q => key (by rw [q]; exact Nat.le_add_right _ _), fun q => key (by rw [q]; exact Nat.le_add_right L 2), fun q => key (by rw [q]; exact Nat.le_add_right L 3)⟩
  have up : ∀ {b : Addr} {x : AO}, σ b = some x → (((σ.set (L + 1) (.cell none)).set (L + 1 + 1) (.cell none)).set (L + 1 + 1 + 1) (.cell none)) b = some x := fun {b x} e => by
    obtain ⟨o1, o2, o3⟩ := old e
    rw [Hp.set_ne _ _ o3, Hp.set_ne _ _ o2, Hp.set_ne _ _ o1]; exact e
  refine wpAny_execs_cons ?_
  walk_at "vv"
  refine v_dict1 r fun d s hd r => ?_
  have d1 : d ≠ L + 1 + 1 + 1 := fun e => by rw [e, Hp.set_self] at hd; cases hd
  rw [Hp.set_ne _ _ d1] at hd
  have d2 : d ≠ L + 1 + 1 := fun e => by rw [e, Hp.set_self] at hd; cases hd
  rw [Hp.set_ne _ _ d2] at hd
  have d3 : d ≠ L + 1 := fun e => by rw [e, Hp.set_self] at hd; cases hd
  rw [Hp.set_ne _ _ d3] at hd
  refine v_int r fun s t1 r => ?_
  refine v_int r fun s t2 r => ?_
  refine ⟨0, t1, _, _, rfl, r, Hp.set_self _ _ _, fun s r => ?_⟩
  refine v_storecell fk r (kof hsc (by kernel_rfl)) (by rw [hcl]; rfl) (v₀ := none) (by rw [Hp.set_ne _ _ d3.symm, Hp.set_ne _ _ d3.symm, Hp.set_ne _ _ n13, Hp.set_ne _ _ n14]; exact Hp.set_self _ _ _) fun s r => ?_
  refine wpAny_execs_cons ?_
  have ext : ∀ {b : Addr} {x : AO}, σ b = some x → (((((((σ.set (L + 1) (.cell none)).set (L + 1 + 1) (.cell none)).set (L + 1 + 1 + 1) (.cell none)).set d (.dict [])).set d (.dict [(0, .int 0 t2)])).set (L + 1) (.cell (some (.ref d))))) b = some x := fun {b x} e => by
    obtain ⟨o1, o2, o3⟩ := old e
    have o4 : b ≠ d := fun q => by rw [q, hd] at e; cases e
    rw [Hp.set_ne _ _ o1, Hp.set_ne _ _ o4, Hp.set_ne _ _ o4]; exact up e
  refine for1 (rm := rm) a lv_passes0 hsc hcl r hR hL (by rw [Hp.set_ne _ _ n13.symm, Hp.set_ne _ _ d1.symm, Hp.set_ne _ _ d1.symm]; exact Hp.set_self _ _ _) (by rw [Hp.set_ne _ _ n14.symm, Hp.set_ne _ _ d2.symm, Hp.set_ne _ _ d2.symm, Hp.set_ne _ _ n12]; exact Hp.set_self _ _ _) (Hp.set_self _ _ _)
    n12 n13 n14 (by rw [Hp.set_ne _ _ d3]; exact Hp.set_self _ _ _) (.cons ⟨rfl, t2, rfl⟩ .nil) h1 rfl h2 (ext hlw) hi hws fun m' σ' s' d' kvs' r u1 u2 u3 u5 u4 => ?_
  have hok : P2.Ok rm ws (P2.table rm ws) := by
    have := P2.table_ok ws [] _ hws (P2.Ok.start rm)
    rw [List.nil_append] at this
    exact this
  have hlen := ways_len hok
  -- return min([ways[held] for held in ways])
  refine wpAny_execs_cons ?_
  walk_at "v"
  refine wpAny_Call_ofName ?_
  refine v_builtin a r (kof hsc (by kernel_rfl)) hM (v := .builtin "min") (by kernel_rfl) (by decide +kernel) ?_ (by kernel_rfl)
  refine v_callB rfl ?_
  walk_at "vv"
  refine v_compP (cl := [(("ways" : Str), L + 1)]) (x := "held") (base := base) (os := os) (fs := fs) a (closureFor_of (by rw [hcl]; rfl)) (by kernel_rfl) (by kernel_rfl) (by kernel_rfl) (by kernel_rfl) (fun _ => rfl) ?_
  refine v_cell fk r (kof hsc (by kernel_rfl)) (by rw [hcl]; rfl) u1 ?_ (by kernel_rfl)
  refine v_iterDk r u2 fun it ep s hit r => ?_
  have i1 : d' ≠ it := fun e => by rw [e, hit] at u2; cases u2
  have i2 : L + 1 ≠ it := fun e => by rw [e, hit] at u1; cases u1
  have i3 : L + 1 ≠ d' := fun e => by rw [e, u2] at u1; cases u1
  refine ⟨m', _, it, kvs'.length, Src.keys _ it d' kvs' ep, fun i ys => IntsAre ys (((P2.table rm ws).take i).map (·.2)), ⟨rfl, by rw [u3.len]; omega, r, ⟨Hp.set_self _ _ _, by rw [Hp.set_ne _ _ i1]; exact Hp.set_self _ _ _⟩, .nil, ?_⟩, ?_⟩
  · intro C i ys σ₁ σ₁' σ₂ v cm s hlt hP hA hst hA' hk' hC hC₂ hcm r
    obtain ⟨⟨k, x, t, hkv, rfl⟩, _⟩ := hst
    obtain ⟨c, tc, hwi, rfl⟩ := u3.at hkv
    have ce := comp_env (scope := compScope (arg0 (retVal s_ret))) (cl := [(("ways" : Str), L + 1)]) (C := C) a (by kernel_rfl)
    have hcw : σ₂ (L + 1) = some (.cell (some (.ref d'))) := by
      have h3 : ((σ'.set d' (.dictE kvs' ep)).set it (diter d' 0 kvs'.length ep)) (L + 1) = some (.cell (some (.ref d'))) := by rw [Hp.set_ne _ _ i2, Hp.set_ne _ _ i3]; exact u1
      rw [hk' (L + 1) (by show L + 1 ∉ [it, d']; simpa using ⟨i2, i3⟩) (by rw [h3]; simp)]; exact h3
    have hmem : (k, c) ∈ P2.table rm ws := List.mem_of_getElem? hwi
    have hg := u3.get k
    rw [P2.mem_aget hok.uniq hmem] at hg
    obtain ⟨t0, hg⟩ : ∃ t, aget kvs' k = some (.int c t) := hg
    refine ifs_nil ?_
    rw [if_pos rfl]
    walk_at "vv"
    refine v_cell ce.kind r (kofC hsc (by kernel_rfl)) rfl hcw ?_ (by kernel_rfl)
    refine c_local ce r (kofC hsc (by kernel_rfl)) hC₂ hcm ?_ (by kernel_rfl)
    refine v_ditemE r hA'.2 (by rw [valueAt_eq]; exact hg) (fun s r => ?_) (by with_unfolding_all rfl)
    refine ⟨σ₂, r, fun _ _ => rfl, ?_⟩
    rw [List.take_add_one, hwi, Option.toList_some, List.map_append]
    exact hP.append (.cons _ _ .nil)
  · intro D ys σf s hP hD hDf hk' r
    have hlk := u3.len
    rw [hlk, List.take_length] at hP
    have hne := P2.table_ne hws hr
    walk_at "vv"
    refine v_minI a r hDf hP (by simpa using hne) fun M t σ'' s'' h3 h4 h5 r => ?_
    refine ⟨_, _, r, ⟨M, t, rfl, ?_, fun p hp => h4 _ (List.mem_map_of_mem (f := (·.2)) hp)⟩, fun b x e => h5 b x ?_⟩
    · obtain ⟨p, hp, e⟩ := List.mem_map.mp h3
      exact ⟨p, hp, e⟩
    · obtain ⟨o1, o2, o3⟩ := old e
      have h6 : σ' b = some x := by rw [u4 b o1 o2 o3 (by rw [ext e]; simp)]; exact ext e
      have h7 : b ≠ it := fun q => by rw [q, hit] at h6; cases h6
      have h9 : b ≠ d' := fun q => by
        rcases u5 with u5 | u5
        · rw [q, u5, hd] at e; cases e
        · rw [← q, ext e] at u5; cases u5
      have h8 : ((σ'.set d' (.dictE kvs' ep)).set it (diter d' 0 kvs'.length ep)) b = some x := by
        rw [Hp.set_ne _ _ h7, Hp.set_ne _ _ h9]; exact h6
      rw [hk' b (by show b ∉ [it]; simpa using h7) (by rw [h8]; simp)]; exact h8
end L2
end Mine
namespace Mine
section
variable {prog : Program} {w : World} {K : Frag} {H : Option Value} {n : Nat} {A : Around} {base : Heap} {env : Env} {os : OsState} {fs : List (Env × Nm)} {m : Nm} {σ : Hp} {s : Shared}
  {E : Value → Shared → Prop}

theorem R.extNew {fs : List (Env × Nm)} {h' : Heap} {t : Nat} (r : R prog w base os fs σ s) (hk : Heap.ExtBut s.heap.objs.size s.heap h') : R prog w base os fs σ { s with heap := h', toks := t } :=
  r.keeps fun b o e => hk b o (Nat.ne_of_lt (Heap.lt_size e)) e
theorem v_unpack {ce : Env} {elts : List Expr} {x1 : Nat} {pos : Pos} {t : Addr} {xs : List Value} {fs : List (Env × Nm)} {Q : Unit → Shared → Prop} (hh : A.handled = none) (r : R prog w base os fs σ s) (ht : σ t = some (.tup xs))
    (hn : (assignEach elts ce).length = xs.length) (hstar : (assignEach elts ce).findIdx? (·.1) = none)
    (h : ∀ s', R prog w base os fs σ s' → wpAny (model prog w) A (assignInOrder ((assignEach elts ce).map (·.2)) xs) Q E s') : wpAny (model prog w) A (assign (.Tuple elts x1 pos) ce (.ref t)) Q E s :=
  wpAny_assign_Tuple hh (r.isTuple ht) (by simpa using hn) hstar fun h' he => h _ (r.extNew (t := s.toks) he)
theorem v_inOrder {f : Value → Sem Unit} {fs : List (Value → Sem Unit)} {v : Value} {vs : List Value} {Q : Unit → Shared → Prop} (h : wpAny (model prog w) A (f v) (fun _ s' => wpAny (model prog w) A (assignInOrder fs vs) Q E s') E s) :
    wpAny (model prog w) A (assignInOrder (f :: fs) (v :: vs)) Q E s :=
  wpAny_bind (wpAny_holding (wpAny_mono h (fun _ _ x => x) fun _ _ x => x))
theorem v_inOrder0 {Q : Unit → Shared → Prop} (h : Q () s) : wpAny (model prog w) A (assignInOrder [] []) Q E s := wpAny_pure h

theorem v_forE {elts : List Expr} {x1 : Nat} {tpos : Pos} {iter : Expr} {body : List Stmt} {pos : Pos} {Q : Flow → Shared → Prop} (a : Act K none n A base (env :: fs.map (·.1))) (hE : PassesOwn (model prog w) A env E) (hs : ∀ x, foldedSetIterable iter env x = pure x)
    (h : wpAny (model prog w) A (eval iter env) (fun x s₁ => ∃ m σ e it l xs, x = .ref e ∧ R prog w base os ((env, m) :: fs) σ s₁ ∧ σ e = some (.obj (enumObj it 0 .none)) ∧ σ it = some (liter l 0) ∧ σ l = some (.list xs) ∧ ∃ J : Nat → Nm → Hp → Prop, J 0 m σ ∧
      (∀ i m' σ' x v t tk, J i m' σ' → σ' t = none → J i m' (((σ'.set e (.obj (enumObj it (i + 1 : Nat) x))).set it (liter l (i + 1))).set t (.tup [.int i tk, v]))) ∧
      (∀ i m σ v t tk s, xs[i]? = some v → J i m σ → σ l = some (.list xs) → (∃ old, σ e = some (.obj (enumObj it (i + 1 : Nat) old))) → σ it = some (liter l (i + 1)) → σ t = some (.tup [.int i tk, v]) → R prog w base os ((env, m) :: fs) σ s →
        wpAny (model prog w) A (assign (.Tuple elts x1 tpos) env (.ref t)) (fun _ s₂ => wpAny (model prog w) A (execs body env) (fun f s₃ => match f with
          | .next | .cont => ∃ m' σ', R prog w base os ((env, m') :: fs) σ' s₃ ∧ J (i + 1) m' σ' ∧ σ' e = σ e ∧ σ' it = σ it ∧ σ' l = σ l
          | .brk => Q .next s₃
          | .ret v => Q (.ret v) s₃) E s₂) E s) ∧
      (∀ m' σ' s, J xs.length m' σ' → σ' l = some (.list xs) → R prog w base os ((env, m') :: fs) (σ'.del [e, it]) s → Q .next s)) E s) :
    wpAny (model prog w) A (exec (.For (.Tuple elts x1 tpos) iter body [] pos) env) Q E s := by
  refine wpAny_For (wpAny_mono h (fun x s₁ h₁ => ?_) fun _ _ e => e) hs
  obtain ⟨m, σ, e, it, l, xs, rfl, r, he, hit, hl, J, hJ, hst, turn, fin⟩ := h₁
  refine v_iterEnum r he ?_
  have hei : e ≠ it := fun q => by rw [q, hit] at he; cases he
  refine v_loop (Src.enum elts x1 tpos e it l xs) J a hE r hJ ⟨⟨_, he⟩, hit, hl⟩ ?_ ?_
  · rintro i m' σ₁ σ₂ v s₃ hlt hJ₁ hA hS r₃
    have hA' := (Src.enum (prog := prog) (w := w) elts x1 tpos e it l xs).stepAt hA hS
    obtain ⟨x, t, tk, hv, rfl, htn, rfl⟩ := hS
    obtain ⟨⟨old, k1⟩, k2, k3⟩ := hA'
    refine wpAny_mono (turn i m' _ x t tk s₃ hv (hst i m' σ₁ _ x t tk hJ₁ htn) k3 ⟨old, k1⟩ k2 (Hp.set_self _ _ _) r₃) (fun _ s₄ h₄ => wpAny_mono h₄ (fun f s₅ h₅ => ?_) fun _ _ e => e) fun _ _ e => e
    cases f with
    | next => obtain ⟨m₂, σ₃, q1, q2, q3, q4, q5⟩ := h₅; exact ⟨m₂, σ₃, q1, q2, ⟨old, q3.trans k1⟩, q4.trans k2, q5.trans k3⟩
    | cont => obtain ⟨m₂, σ₃, q1, q2, q3, q4, q5⟩ := h₅; exact ⟨m₂, σ₃, q1, q2, ⟨old, q3.trans k1⟩, q4.trans k2, q5.trans k3⟩
    | brk => exact h₅
    | ret v => exact h₅
  · rintro m' σ₁ s₃ hJ₁ ⟨_, _, k3⟩ r₃
    exact fin m' σ₁ s₃ hJ₁ k3 r₃
end
end Mine
namespace Mine
set_option pp.deepTerms false
set_option pp.deepTerms.threshold 8
local macro_rules | `(tactic| walk_at "lk") => `(tactic| first | assumption | rfl | (simp only [mset, ofs_inj, String.reduceEq, ↓reduceIte]; first | assumption | rfl) | (simp only [mset, ofs_inj, String.reduceEq, ↓reduceIte]; done))
local macro_rules | `(tactic| walk_at "nm") => `(tactic| (refine v_local (by assumption) (by assumption) (kof (by assumption) (by kernel_rfl)) (by walk_at "lk") ?_ (by kernel_rfl)))
local macro_rules | `(tactic| walk_at "st") => `(tactic| (refine v_store (by assumption) (by assumption) (kof (by assumption) (by kernel_rfl)) fun s r => ?_))
local macro_rules | `(tactic| walk_at "v") => `(tactic| first
  | with_reducible refine wpAny_Return_some ?_
  | with_reducible refine wpAny_Return_none ?_
  | ((with_reducible refine wpAny_Compare1 (hm := ?hm) ?_); (case hm => with_unfolding_all rfl))
  | ((with_reducible refine wpAny_isTrue_Compare1 (hm := ?hm) ?_); (case hm => with_unfolding_all rfl))
  | ((with_reducible refine wpAny_Assign_Name (hs := ?hs) ?_); (case hs => rfl))
  | ((with_reducible refine wpAny_Assign_Subscript (hs := ?hs) ?_); (case hs => rfl))
  | ((with_reducible refine plainObj_wpAny_Assign_Attribute (hs := ?hs) ?_); (case hs => rfl))
  | ((with_reducible refine wpAny_Assign_two (he := ?he) (hw := ?hw) ?_); (case he => rfl); (case hw => rfl))
  | with_reducible refine assign_Attr ?_
  | with_reducible refine assign_Subs ?_
  | with_reducible refine wpAny_assign_Name ?_
  | with_reducible refine Attribute_name ?_
  | with_reducible refine Attribute_any_ ?_
  | with_reducible refine Subscript_ ?_
  | with_reducible refine wpAny_If ?_
  | with_reducible refine wpAny_BinOp ?_
  | with_reducible refine wpAny_UnaryOp ?_
  | with_reducible refine wpAny_Delete ?_
  | with_reducible refine wpAny_deleteEach_cons ?_
  | with_reducible refine wpAny_deleteEach_nil ?_
  | with_reducible refine wpAny_delete_Subscript ?_
  | with_reducible refine wpAny_AugAssign_AttributeAny ?_
  | with_reducible refine wpAny_execs_nil ?_
  | with_reducible refine wpAny_Constant_none ?_
  | with_reducible refine spliced_none ?_
  | with_reducible refine ea_none ?_
  | ((with_reducible refine ea_plain ?_ ?he); (case he => rfl))
  | ((with_reducible refine' methodCall_KW (pl := ?pl) (he := ?he) ?_); (case he => rfl))
  | walk_at "nm"
  | ((with_reducible refine spliced_more ?_ (he := ?he)); (case he => rfl)))
local macro_rules | `(tactic| walk_at "vv") => `(tactic| repeat walk_at "v")
variable {prog : Program} {w : World} {K : Frag} {H : Option Value} {n : Nat} {σ : Hp}

def initNames : List Str := ["_Cache__data", "_Cache__size", "_Cache__currsize", "_Cache__maxsize", "getsizeof"]
structure Made (σ σ' : Hp) (I : Info) (mm' : Nm) : Prop where
  rb : RB σ' I mm' ⟨[], [], 0⟩
  only : ∀ y, y ∉ initNames → mm' y = none
  cnt : ∃ k, k ≤ 10 ∧ σ' I.d = some (.ns mm' k)
  new : ∀ a ∈ baseFp I, a ≠ I.d → σ a = none
  same : ∀ a, a ∉ baseFp I → σ' a = σ a

theorem body_init_plain {C x d : Addr} {most : Int} {tk : Tok} {m : Nm} {X : String → Hp → Prop} (ok : ClsOK K C) (G : GsOK K C) (h0 : 0 ≤ most)
    (hx : σ x = some (.inst C d)) (hd : σ d = some (.ns (fun _ => none) 0))
    (hs : m "self" = some (.ref x)) (hm : m "maxsize" = some (.int most tk)) (hg : m "getsizeof" = some .none) :
    BodyT prog w K H n (fnScope s_init) [] (fnBody s_init) m σ (fun v σ' => v = .none ∧ ∃ dd mm', Made σ σ' ⟨C, x, d, dd, none, most⟩ mm') X := by
  intro A base os env fs s hsc hcl a r
  refine wpAny_execs_cons ?_
  walk_at "vv"
  refine v_int r fun s t1 r => ?_
  refine v_lt ?_
  refine v_truth ?_
  rw [if_neg (by simpa using h0)]
  walk_at "vv"
  refine wpAny_execs_cons ?_
  walk_at "vv"
  refine v_isnotnone_none ?_
  refine v_truth ?_
  rw [if_neg (by decide)]
  walk_at "vv"
  refine wpAny_execs_cons ?_
  walk_at "vv"
  refine v_smI a r hx hd rfl ok.get ok.dict G.sm fun s r => ?_
  walk_at "vv"
  refine v_global a r (kof hsc (by kernel_rfl)) G.hCache ?_ (by kernel_rfl)
  obtain ⟨mc, g1, g2⟩ := G.ncg
  obtain ⟨rest, hp⟩ := G.sm.rec_
  refine v_smC a r g1 g2 hp fun s r => ?_
  refine wpAny_isNot_ref_self ?_
  refine v_truth ?_
  rw [if_neg (by decide)]
  walk_at "vv"
  refine wpAny_execs_cons ?_
  walk_at "vv"
  refine v_dict0 r fun dd s hdd r => ?_
  walk_at "vv"
  have nx : dd ≠ x := fun e => by rw [e, hx] at hdd; cases hdd
  have nd : dd ≠ d := fun e => by rw [e, hd] at hdd; cases hdd
  have hxd : x ≠ d := fun e => by rw [e, hd] at hx; cases hx
  refine v_setown a r (by rw [Hp.set_ne _ _ nx.symm]; exact hx) (by rw [Hp.set_ne _ _ nd.symm]; exact hd) (by omega) ok.seta ok.over G.tdata ok.dict fun s r => ?_
  refine wpAny_execs_cons ?_
  walk_at "vv"
  refine v_int r fun s t2 r => ?_
  walk_at "vv"
  refine v_setown a r (by rw [Hp.set_ne _ _ hxd, Hp.set_ne _ _ nx.symm]; exact hx) (Hp.set_self _ _ _) (by omega) ok.seta ok.over ok.tcur ok.dict fun s r => ?_
  refine wpAny_execs_cons ?_
  walk_at "vv"
  refine v_setown a r (by rw [Hp.set_ne _ _ hxd, Hp.set_ne _ _ hxd, Hp.set_ne _ _ nx.symm]; exact hx) (Hp.set_self _ _ _) (by omega) ok.seta ok.over G.tmax ok.dict fun s r => ?_
  walk_at "vv"
  refine ⟨_, _, r, rfl, dd, _, ⟨⟨?_, ⟨_, by omega, Hp.set_self _ _ _⟩, ?_, ?_, ?_, ?_, (fun p hp => by cases hp), ?_, ?_, ?_, by decide⟩, ?_, ⟨_, by omega, Hp.set_self _ _ _⟩, ?_, ?_⟩⟩
  · show _ = some (AO.inst C d)
    rw [Hp.set_ne _ _ hxd, Hp.set_ne _ _ hxd, Hp.set_ne _ _ hxd, Hp.set_ne _ _ nx.symm]; exact hx
  · simp [mset, ofs_inj]
  · show _ = some (AO.dict [])
    rw [Hp.set_ne _ _ nd, Hp.set_ne _ _ nd, Hp.set_ne _ _ nd, Hp.set_self]
  · simp [mset, ofs_inj]
  · simp [mset, ofs_inj]
  · exact ⟨_, by simp [mset, ofs_inj]; rfl⟩
  · exact ⟨_, by simp [mset, ofs_inj]; rfl⟩
  · unfold clsNames mset; simp [ofs_inj]
  · intro y hy
    simp only [initNames, List.mem_cons, List.not_mem_nil, or_false, not_or] at hy
    simp [mset, hy]
  · intro b hb hne
    simp only [baseFp, Option.map_none, Option.toList_none, List.mem_cons, List.not_mem_nil, or_false] at hb
    rcases hb with rfl | rfl
    · exact absurd rfl hne
    · exact hdd
  · intro b hb
    simp only [baseFp, Option.map_none, Option.toList_none, List.mem_cons, List.not_mem_nil, or_false, not_or] at hb
    rw [Hp.set_ne _ _ hb.1, Hp.set_ne _ _ hb.1, Hp.set_ne _ _ hb.1, Hp.set_ne _ _ hb.2]
end Mine
namespace Mine
set_option pp.deepTerms false
set_option pp.deepTerms.threshold 8
local macro_rules | `(tactic| walk_at "lk") => `(tactic| first | assumption | rfl | (simp only [mset, ofs_inj, String.reduceEq, ↓reduceIte]; first | assumption | rfl) | (simp only [mset, ofs_inj, String.reduceEq, ↓reduceIte]; done))
local macro_rules | `(tactic| walk_at "nm") => `(tactic| (refine v_local (by assumption) (by assumption) (kof (by assumption) (by kernel_rfl)) (by walk_at "lk") ?_ (by kernel_rfl)))
local macro_rules | `(tactic| walk_at "st") => `(tactic| (refine v_store (by assumption) (by assumption) (kof (by assumption) (by kernel_rfl)) fun s r => ?_))
local macro_rules | `(tactic| walk_at "v") => `(tactic| first
  | with_reducible refine wpAny_Return_some ?_
  | with_reducible refine wpAny_Return_none ?_
  | ((with_reducible refine wpAny_Compare1 (hm := ?hm) ?_); (case hm => with_unfolding_all rfl))
  | ((with_reducible refine wpAny_isTrue_Compare1 (hm := ?hm) ?_); (case hm => with_unfolding_all rfl))
  | ((with_reducible refine wpAny_Assign_Name (hs := ?hs) ?_); (case hs => rfl))
  | ((with_reducible refine wpAny_Assign_Subscript (hs := ?hs) ?_); (case hs => rfl))
  | ((with_reducible refine plainObj_wpAny_Assign_Attribute (hs := ?hs) ?_); (case hs => rfl))
  | ((with_reducible refine wpAny_Assign_two (he := ?he) (hw := ?hw) ?_); (case he => rfl); (case hw => rfl))
  | with_reducible refine assign_Attr ?_
  | with_reducible refine assign_Subs ?_
  | with_reducible refine wpAny_assign_Name ?_
  | with_reducible refine Attribute_name ?_
  | with_reducible refine Attribute_any_ ?_
  | with_reducible refine Subscript_ ?_
  | with_reducible refine wpAny_If ?_
  | with_reducible refine wpAny_BinOp ?_
  | with_reducible refine wpAny_UnaryOp ?_
  | with_reducible refine wpAny_Delete ?_
  | with_reducible refine wpAny_deleteEach_cons ?_
  | with_reducible refine wpAny_deleteEach_nil ?_
  | with_reducible refine wpAny_delete_Subscript ?_
  | with_reducible refine wpAny_AugAssign_AttributeAny ?_
  | with_reducible refine wpAny_execs_nil ?_
  | with_reducible refine wpAny_Constant_none ?_
  | with_reducible refine spliced_none ?_
  | with_reducible refine ea_none ?_
  | ((with_reducible refine ea_plain ?_ ?he); (case he => rfl))
  | ((with_reducible refine' methodCall_KW (pl := ?pl) (he := ?he) ?_); (case he => rfl))
  | walk_at "nm"
  | ((with_reducible refine spliced_more ?_ (he := ?he)); (case he => rfl)))
local macro_rules | `(tactic| walk_at "vv") => `(tactic| repeat walk_at "v")
variable {prog : Program} {w : World} {K : Frag} {H : Option Value} {n : Nat} {σ : Hp}
theorem v_has {A : Around} {base : Heap} {env : Env} {os : OsState} {fs : List (Env × Nm)} {m : Nm} {s : Shared} {E : Value → Shared → Prop} {I : Info} {mm : Nm} {b : B} {k : Int} {tk : Tok} {Q : Value → Shared → Prop}
    (a : Act K H (n + 1) A base (env :: fs.map (·.1))) (r : R prog w base os ((env, m) :: fs) σ s) (F : KA K I.C) (ok : ClsOK K I.C) (rb : RB σ I mm b)
    (h : ∀ s', R prog w base os ((env, m) :: fs) σ s' → Q (.bool (aget b.data k).isSome) s') : wpAny (model prog w) A (compareOp .In (.int k tk) (.ref I.x)) Q E s := by
  obtain ⟨j, hj, hd⟩ := rb.ns
  refine v_in a r rb.inst hd F.ncon F.icon ?_
  refine v_told a r (X := fun _ _ => False) (call_contains (n := 0) (tk := tk) F.hcon ok rb) (by omega) (fun v σ' s' ⟨q1, q2⟩ r' => ?_) fun _ _ _ _ x _ => x.elim
  subst q1; subst q2
  exact v_truth (h _ r')
theorem v_hasnot {A : Around} {base : Heap} {env : Env} {os : OsState} {fs : List (Env × Nm)} {m : Nm} {s : Shared} {E : Value → Shared → Prop} {I : Info} {mm : Nm} {b : B} {k : Int} {tk : Tok} {Q : Value → Shared → Prop}
    (a : Act K H (n + 1) A base (env :: fs.map (·.1))) (r : R prog w base os ((env, m) :: fs) σ s) (F : KA K I.C) (ok : ClsOK K I.C) (rb : RB σ I mm b)
    (h : ∀ s', R prog w base os ((env, m) :: fs) σ s' → Q (.bool (!(aget b.data k).isSome)) s') : wpAny (model prog w) A (compareOp .NotIn (.int k tk) (.ref I.x)) Q E s := by
  obtain ⟨j, hj, hd⟩ := rb.ns
  refine v_notin a r rb.inst hd F.ncon F.icon ?_
  refine v_told a r (X := fun _ _ => False) (call_contains (n := 0) (tk := tk) F.hcon ok rb) (by omega) (fun v σ' s' ⟨q1, q2⟩ r' => ?_) fun _ _ _ _ x _ => x.elim
  subst q1; subst q2
  exact v_truth (h _ r')
theorem v_size {A : Around} {base : Heap} {env : Env} {os : OsState} {fs : List (Env × Nm)} {m : Nm} {s : Shared} {E : Value → Shared → Prop} {I : Info} {mm : Nm} {b : B} {Q : Value → Shared → Prop}
    (a : Act K H (n + 2) A base (env :: fs.map (·.1))) (r : R prog w base os ((env, m) :: fs) σ s) (F : KA K I.C) (ok : ClsOK K I.C) (rb : RB σ I mm b)
    (h : ∀ s' t, R prog w base os ((env, m) :: fs) σ s' → Q (.int b.data.length t) s') : wpAny (model prog w) A (call (.builtin "len") [.ref I.x]) Q E s := by
  obtain ⟨j, hj, hd⟩ := rb.ns
  refine v_lenI a r rb.inst hd F.nlen F.ilen ?_
  refine v_told1 a r (X := fun _ _ => False) (call_len (n := 0) F.hlen ok rb F.blen) (by omega) (fun v σ' s' ⟨⟨t, q1⟩, q2⟩ r' => ?_) fun _ _ _ _ x _ => x.elim
  subst q1; subst q2
  have := rb.small.1
  exact ⟨⟨by omega, by omega⟩, h _ _ (r'.toks _)⟩

theorem call_sd_hit {I : Info} (F : KA K I.C) (ok : ClsOK K I.C) {mm : Nm} {b : B} {k : Int} {tk : Tok} {v : Value} {L : Nat} {Q : Value → Hp → Prop} {X : String → Hp → Prop} (rb : RB σ I mm b) (hin : (aget b.data k).isSome = true) (hL : 1 ≤ L)
    (hg : CallT prog w K H L (.ref F.get) ⟨[.ref I.x, .int k tk], []⟩ σ Q X) : CallT prog w K H (L + 2) (.ref F.sd) ⟨[.ref I.x, .int k tk, v], []⟩ σ Q X := by
  refine CallT.of (n := L + 1) (binds := [("self", .ref I.x), ("key", .int k tk), ("default", v)]) F.hsd (fun _ _ _ _ _ _ _ _ s X => BindsTo.ofT F.htsd X rfl rfl rfl) (by kernel_rfl) (by kernel_rfl) (by kernel_rfl) ?_
  intro A base os env fs s hsc hcl a r
  have h1 : (fun y => [(("self" : Str), Value.ref I.x), ("key", .int k tk), ("default", v)].reverse.lookup y) "self" = some (.ref I.x) := by kernel_rfl
  have h2 : (fun y => [(("self" : Str), Value.ref I.x), ("key", .int k tk), ("default", v)].reverse.lookup y) "key" = some (.int k tk) := by kernel_rfl
  obtain ⟨j, hj, hd⟩ := rb.ns
  refine wpAny_execs_cons ?_
  walk_at "vv"
  refine v_has a r F ok rb fun s r => ?_
  refine v_truth ?_
  rw [hin, if_pos rfl]
  refine wpAny_execs_cons ?_
  walk_at "vv"
  refine v_subI a r rb.inst hd F.nget F.fget F.iget ?_ (by with_unfolding_all rfl)
  refine v_told1 a r hg (by omega) (fun v' σ' s' q r => ?_) fun _ _ _ _ x u => lv_of_up a u x
  walk_at "st"; rename_i s r
  refine wpAny_execs_nil ?_
  refine wpAny_execs_cons ?_
  walk_at "vv"
  exact ⟨_, _, r, q⟩
theorem call_sd_miss {I : Info} (F : KA K I.C) (ok : ClsOK K I.C) {mm : Nm} {b : B} {k : Int} {tk : Tok} {v : Value} {L : Nat} {Q : Hp → Prop} {X : String → Hp → Prop} (rb : RB σ I mm b) (hin : aget b.data k = none) (hL : 1 ≤ L)
    (hg : CallT prog w K H L (.ref F.set) ⟨[.ref I.x, .int k tk, v], []⟩ σ (fun _ σ' => Q σ') X) : CallT prog w K H (L + 2) (.ref F.sd) ⟨[.ref I.x, .int k tk, v], []⟩ σ (fun r σ' => r = v ∧ Q σ') X := by
  refine CallT.of (n := L + 1) (binds := [("self", .ref I.x), ("key", .int k tk), ("default", v)]) F.hsd (fun _ _ _ _ _ _ _ _ s X => BindsTo.ofT F.htsd X rfl rfl rfl) (by kernel_rfl) (by kernel_rfl) (by kernel_rfl) ?_
  intro A base os env fs s hsc hcl a r
  have h1 : (fun y => [(("self" : Str), Value.ref I.x), ("key", .int k tk), ("default", v)].reverse.lookup y) "self" = some (.ref I.x) := by kernel_rfl
  have h2 : (fun y => [(("self" : Str), Value.ref I.x), ("key", .int k tk), ("default", v)].reverse.lookup y) "key" = some (.int k tk) := by kernel_rfl
  have h3 : (fun y => [(("self" : Str), Value.ref I.x), ("key", .int k tk), ("default", v)].reverse.lookup y) "default" = some v := by kernel_rfl
  obtain ⟨j, hj, hd⟩ := rb.ns
  refine wpAny_execs_cons ?_
  walk_at "vv"
  refine v_has a r F ok rb fun s r => ?_
  refine v_truth ?_
  rw [hin, if_neg (by decide)]
  refine wpAny_execs_cons ?_
  walk_at "vv"
  refine v_setI a r rb.inst hd ok.seq F.nset F.iset ?_
  refine v_told a r hg (by omega) (fun v' σ' s' q r => ?_) fun _ _ _ _ x u => lv_of_up a u x
  walk_at "vv"
  walk_at "st"; rename_i s r
  walk_at "vv"
  refine wpAny_execs_cons ?_
  walk_at "vv"
  exact ⟨_, _, r, rfl, q⟩
end Mine
namespace Mine
set_option pp.deepTerms false
set_option pp.deepTerms.threshold 8
local macro_rules | `(tactic| walk_at "lk") => `(tactic| first | assumption | rfl | (simp only [mset, ofs_inj, String.reduceEq, ↓reduceIte]; first | assumption | rfl) | (simp only [mset, ofs_inj, String.reduceEq, ↓reduceIte]; done))
local macro_rules | `(tactic| walk_at "nm") => `(tactic| (refine v_local (by assumption) (by assumption) (kof (by assumption) (by kernel_rfl)) (by walk_at "lk") ?_ (by kernel_rfl)))
local macro_rules | `(tactic| walk_at "st") => `(tactic| (refine v_store (by assumption) (by assumption) (kof (by assumption) (by kernel_rfl)) fun s r => ?_))
local macro_rules | `(tactic| walk_at "v") => `(tactic| first
  | with_reducible refine wpAny_Return_some ?_
  | with_reducible refine wpAny_Return_none ?_
  | ((with_reducible refine wpAny_Compare1 (hm := ?hm) ?_); (case hm => with_unfolding_all rfl))
  | ((with_reducible refine wpAny_isTrue_Compare1 (hm := ?hm) ?_); (case hm => with_unfolding_all rfl))
  | ((with_reducible refine wpAny_Assign_Name (hs := ?hs) ?_); (case hs => rfl))
  | ((with_reducible refine wpAny_Assign_Subscript (hs := ?hs) ?_); (case hs => rfl))
  | ((with_reducible refine plainObj_wpAny_Assign_Attribute (hs := ?hs) ?_); (case hs => rfl))
  | ((with_reducible refine wpAny_Assign_two (he := ?he) (hw := ?hw) ?_); (case he => rfl); (case hw => rfl))
  | with_reducible refine assign_Attr ?_
  | with_reducible refine assign_Subs ?_
  | with_reducible refine wpAny_assign_Name ?_
  | with_reducible refine Attribute_name ?_
  | with_reducible refine Attribute_any_ ?_
  | with_reducible refine Subscript_ ?_
  | with_reducible refine wpAny_If ?_
  | with_reducible refine wpAny_BinOp ?_
  | with_reducible refine wpAny_UnaryOp ?_
  | with_reducible refine wpAny_Delete ?_
  | with_reducible refine wpAny_deleteEach_cons ?_
  | with_reducible refine wpAny_deleteEach_nil ?_
  | with_reducible refine wpAny_delete_Subscript ?_
  | with_reducible refine wpAny_AugAssign_AttributeAny ?_
  | with_reducible refine wpAny_execs_nil ?_
  | with_reducible refine wpAny_Constant_none ?_
  | with_reducible refine spliced_none ?_
  | with_reducible refine ea_none ?_
  | ((with_reducible refine ea_plain ?_ ?he); (case he => rfl))
  | ((with_reducible refine' methodCall_KW (pl := ?pl) (he := ?he) ?_); (case he => rfl))
  | walk_at "nm"
  | ((with_reducible refine spliced_more ?_ (he := ?he)); (case he => rfl)))
local macro_rules | `(tactic| walk_at "vv") => `(tactic| repeat walk_at "v")
namespace Lfu
variable {prog : Program} {w : World} {K : Frag} {H : Option Value} {n : Nat} {σ : Hp}
theorem call_link {L : Addr} (F : LF K L) {c : Int} {t : Tok} {X : String → Hp → Prop} :
    CallT prog w K H (n + 2) (.ref L) ⟨[.int c t], []⟩ σ (fun v σ' => ∃ l dl kd f, v = .ref l ∧ σ l = none ∧ σ dl = none ∧ σ kd = none ∧ l ≠ dl ∧ l ≠ kd ∧ dl ≠ kd ∧
      σ' l = some (.slots L dl f) ∧ f 0 = some (.int c t) ∧ f 1 = some (.ref kd) ∧ σ' dl = some (.ns (fun _ => none) 0) ∧ σ' kd = some (.dict []) ∧ ∀ a, a ≠ l → a ≠ dl → a ≠ kd → σ' a = σ a) X := by
  refine CallT.make F.makes F.ninit F.iinit fun x dx hx hdx hne => ?_
  refine CallT.of (binds := [("self", .ref x), ("count", .int c t)]) F.hinit (fun _ _ _ _ _ _ _ _ _ _ => BindsTo.of_eq rfl) (by kernel_rfl) (by kernel_rfl) (by kernel_rfl) ?_
  intro A base os env fs s hsc hcl a r
  have h1 : (fun y => [(("self" : Str), Value.ref x), ("count", .int c t)].reverse.lookup y) "self" = some (.ref x) := by kernel_rfl
  have h2 : (fun y => [(("self" : Str), Value.ref x), ("count", .int c t)].reverse.lookup y) "count" = some (.int c t) := by kernel_rfl
  have r := r.asSlots (Hp.set_self _ _ _)
  refine wpAny_execs_cons ?_
  walk_at "vv"
  refine v_setslot a r (Hp.set_self _ _ _) (by rw [Hp.set_ne _ _ (Ne.symm hne), Hp.set_ne _ _ (Ne.symm hne)]; exact Hp.set_self _ _ _) F.sc F.seta F.over fun s r => ?_
  refine wpAny_execs_cons ?_
  walk_at "v"
  refine v_dict0 r fun kd s hkd r => ?_
  have hkx : kd ≠ x := fun e => by rw [e, Hp.set_self] at hkd; cases hkd
  have hkdx : kd ≠ dx := fun e => by rw [e, Hp.set_ne _ _ (Ne.symm hne), Hp.set_ne _ _ (Ne.symm hne), Hp.set_ne _ _ (Ne.symm hne), Hp.set_self] at hkd; cases hkd
  walk_at "vv"
  refine v_setslot a r (by rw [Hp.set_ne _ _ (Ne.symm hkx)]; exact Hp.set_self _ _ _) (by rw [Hp.set_ne _ _ (Ne.symm hkdx), Hp.set_ne _ _ (Ne.symm hne), Hp.set_ne _ _ (Ne.symm hne), Hp.set_ne _ _ (Ne.symm hne)]; exact Hp.set_self _ _ _) F.sk F.seta F.over fun s r => ?_
  walk_at "vv"
  refine ⟨_, _, r, rfl, x, dx, kd, _, rfl, hx, hdx, ?_, hne, Ne.symm hkx, Ne.symm hkdx, Hp.set_self _ _ _, rfl, rfl, ?_, ?_, fun b q1 q2 q3 => ?_⟩
  · rw [Hp.set_ne _ _ hkx, Hp.set_ne _ _ hkx, Hp.set_ne _ _ hkx, Hp.set_ne _ _ hkdx] at hkd; exact hkd
  · rw [Hp.set_ne _ _ (Ne.symm hne), Hp.set_ne _ _ (Ne.symm hkdx), Hp.set_ne _ _ (Ne.symm hne), Hp.set_ne _ _ (Ne.symm hne), Hp.set_ne _ _ (Ne.symm hne)]; exact Hp.set_self _ _ _
  · rw [Hp.set_ne _ _ hkx]; exact Hp.set_self _ _ _
  · rw [Hp.set_ne _ _ q1, Hp.set_ne _ _ q3, Hp.set_ne _ _ q1, Hp.set_ne _ _ q1, Hp.set_ne _ _ q1, Hp.set_ne _ _ q2]

def Node (L : Addr) (σ : Hp) (nx pv : Addr → Addr) (l dl kd : Addr) (c : Int) : Prop :=
  ∃ f t k, σ l = some (.slots L dl f) ∧ f 0 = some (.int c t) ∧ f 1 = some (.ref kd) ∧ f 2 = some (.ref (nx l)) ∧ f 3 = some (.ref (pv l)) ∧ σ dl = some (.ns (fun _ => none) k)

theorem Node.frame {L : Addr} {σ σ' : Hp} {nx pv : Addr → Addr} {l dl kd : Addr} {c : Int} (h : Node L σ nx pv l dl kd c) (h1 : σ' l = σ l) (h2 : σ' dl = σ dl) : Node L σ' nx pv l dl kd c := by
  obtain ⟨f, t, k, q1, q2, q3, q4, q5, q6⟩ := h
  exact ⟨f, t, k, h1.trans q1, q2, q3, q4, q5, h2.trans q6⟩

theorem Node.setNext {L : Addr} {σ : Hp} {nx pv : Addr → Addr} {l dl kd x dx y : Addr} {c : Int} {f : Nat → Option Value} (h : Node L σ nx pv l dl kd c) (hx : σ x = some (.slots L dx f)) :
    Node L (σ.set x (.slots L dx fun j => if j = 2 then some (.ref y) else f j)) (upd nx x y) pv l dl kd c := by
  obtain ⟨f', t, k, q1, q2, q3, q4, q5, q6⟩ := h
  have hd : dl ≠ x := fun e => by rw [e, hx] at q6; cases q6
  by_cases e : l = x
  · subst e
    rw [hx] at q1; cases q1
    exact ⟨_, t, k, Hp.set_self _ _ _, q2, q3, by rw [upd_self]; rfl, q5, by rw [Hp.set_ne _ _ hd]; exact q6⟩
  · exact ⟨f', t, k, by rw [Hp.set_ne _ _ e]; exact q1, q2, q3, by rw [upd_ne _ e]; exact q4, q5, by rw [Hp.set_ne _ _ hd]; exact q6⟩
theorem Node.setPrev {L : Addr} {σ : Hp} {nx pv : Addr → Addr} {l dl kd x dx y : Addr} {c : Int} {f : Nat → Option Value} (h : Node L σ nx pv l dl kd c) (hx : σ x = some (.slots L dx f)) :
    Node L (σ.set x (.slots L dx fun j => if j = 3 then some (.ref y) else f j)) nx (upd pv x y) l dl kd c := by
  obtain ⟨f', t, k, q1, q2, q3, q4, q5, q6⟩ := h
  have hd : dl ≠ x := fun e => by rw [e, hx] at q6; cases q6
  by_cases e : l = x
  · subst e
    rw [hx] at q1; cases q1
    exact ⟨_, t, k, Hp.set_self _ _ _, q2, q3, q4, by rw [upd_self]; rfl, by rw [Hp.set_ne _ _ hd]; exact q6⟩
  · exact ⟨f', t, k, by rw [Hp.set_ne _ _ e]; exact q1, q2, q3, q4, by rw [upd_ne _ e]; exact q5, by rw [Hp.set_ne _ _ hd]; exact q6⟩

theorem call_unlink {L : Addr} (F : LF K L) {nx pv : Addr → Addr} {b db kb : Addr} {cb : Int} {da dc : Addr} {fa fc : Nat → Option Value} {ka kc : Nat} {X : String → Hp → Prop} (hb : Node L σ nx pv b db kb cb)
    (ha : σ (pv b) = some (.slots L da fa)) (hda : σ da = some (.ns (fun _ => none) ka)) (hc : σ (nx b) = some (.slots L dc fc)) (hdc : σ dc = some (.ns (fun _ => none) kc)) :
    CallT prog w K H (n + 1) (.ref F.unl) ⟨[.ref b], []⟩ σ (fun v σ' => v = .none ∧ ∃ fc', (σ.set (pv b) (.slots L da fun j => if j = 2 then some (.ref (nx b)) else fa j)) (nx b) = some (.slots L dc fc') ∧
      σ' = (σ.set (pv b) (.slots L da fun j => if j = 2 then some (.ref (nx b)) else fa j)).set (nx b) (.slots L dc fun j => if j = 3 then some (.ref (pv b)) else fc' j)) X := by
  obtain ⟨f, t, k, q1, q2, q3, q4, q5, q6⟩ := hb
  refine CallT.of (binds := [("self", .ref b)]) F.hunl (fun _ _ _ _ _ _ _ _ _ _ => BindsTo.of_eq rfl) (by kernel_rfl) (by kernel_rfl) (by kernel_rfl) ?_
  intro A base os env fs s hsc hcl a r
  have h1 : (fun y => [(("self" : Str), Value.ref b)].reverse.lookup y) "self" = some (.ref b) := by kernel_rfl
  refine wpAny_execs_cons ?_
  walk_at "vv"
  refine v_slot a r q1 q6 F.sn q4 rfl F.get F.cls fun s r => ?_
  walk_at "st"; rename_i s r
  refine wpAny_execs_cons ?_
  walk_at "vv"
  refine v_slot a r q1 q6 F.sp q5 rfl F.get F.cls fun s r => ?_
  walk_at "st"; rename_i s r
  refine wpAny_execs_cons ?_
  walk_at "vv"
  refine v_setslot a r ha hda F.sn F.seta F.over fun s r => ?_
  refine wpAny_execs_cons ?_
  walk_at "vv"
  have hdc' : dc ≠ pv b := fun e => by rw [e, ha] at hdc; cases hdc
  obtain ⟨fc', hfc⟩ : ∃ fc', (σ.set (pv b) (.slots L da fun j => if j = 2 then some (.ref (nx b)) else fa j)) (nx b) = some (.slots L dc fc') := by
    by_cases e : nx b = pv b
    · rw [e, ha] at hc; cases hc
      exact ⟨_, by rw [e]; exact Hp.set_self _ _ _⟩
    · exact ⟨fc, by rw [Hp.set_ne _ _ e]; exact hc⟩
  refine v_setslot a r hfc (by rw [Hp.set_ne _ _ hdc']; exact hdc) F.sp F.seta F.over fun s r => ?_
  walk_at "vv"
  exact ⟨_, _, r, rfl, fc', hfc, rfl⟩
end Lfu
end Mine
namespace Mine
set_option pp.deepTerms false
set_option pp.deepTerms.threshold 8
local macro_rules | `(tactic| walk_at "lk") => `(tactic| first | assumption | rfl | (simp only [mset, ofs_inj, String.reduceEq, ↓reduceIte]; first | assumption | rfl) | (simp only [mset, ofs_inj, String.reduceEq, ↓reduceIte]; done))
local macro_rules | `(tactic| walk_at "nm") => `(tactic| (refine v_local (by assumption) (by assumption) (kof (by assumption) (by kernel_rfl)) (by walk_at "lk") ?_ (by kernel_rfl)))
local macro_rules | `(tactic| walk_at "st") => `(tactic| (refine v_store (by assumption) (by assumption) (kof (by assumption) (by kernel_rfl)) fun s r => ?_))
local macro_rules | `(tactic| walk_at "v") => `(tactic| first
  | with_reducible refine wpAny_Return_some ?_
  | with_reducible refine wpAny_Return_none ?_
  | ((with_reducible refine wpAny_Compare1 (hm := ?hm) ?_); (case hm => with_unfolding_all rfl))
  | ((with_reducible refine wpAny_isTrue_Compare1 (hm := ?hm) ?_); (case hm => with_unfolding_all rfl))
  | ((with_reducible refine wpAny_Assign_Name (hs := ?hs) ?_); (case hs => rfl))
  | ((with_reducible refine wpAny_Assign_Subscript (hs := ?hs) ?_); (case hs => rfl))
  | ((with_reducible refine plainObj_wpAny_Assign_Attribute (hs := ?hs) ?_); (case hs => rfl))
  | ((with_reducible refine wpAny_Assign_two (he := ?he) (hw := ?hw) ?_); (case he => rfl); (case hw => rfl))
  | with_reducible refine assign_Attr ?_
  | with_reducible refine assign_Subs ?_
  | with_reducible refine wpAny_assign_Name ?_
  | with_reducible refine Attribute_name ?_
  | with_reducible refine Attribute_any_ ?_
  | with_reducible refine Subscript_ ?_
  | with_reducible refine wpAny_If ?_
  | with_reducible refine wpAny_BinOp ?_
  | with_reducible refine wpAny_UnaryOp ?_
  | with_reducible refine wpAny_Delete ?_
  | with_reducible refine wpAny_deleteEach_cons ?_
  | with_reducible refine wpAny_deleteEach_nil ?_
  | with_reducible refine wpAny_delete_Subscript ?_
  | with_reducible refine wpAny_AugAssign_AttributeAny ?_
  | with_reducible refine wpAny_execs_nil ?_
  | with_reducible refine wpAny_Constant_none ?_
  | with_reducible refine spliced_none ?_
  | with_reducible refine ea_none ?_
  | ((with_reducible refine ea_plain ?_ ?he); (case he => rfl))
  | ((with_reducible refine' methodCall_KW (pl := ?pl) (he := ?he) ?_); (case he => rfl))
  | walk_at "nm"
  | ((with_reducible refine spliced_more ?_ (he := ?he)); (case he => rfl)))
local macro_rules | `(tactic| walk_at "vv") => `(tactic| repeat walk_at "v")
namespace Lfu
variable {prog : Program} {w : World} {K : Frag} {H : Option Value} {n : Nat} {σ : Hp}

structure G where
  l : Addr
  dl : Addr
  kd : Addr
  c : Int
  ks : List Int
structure Ad where
  L : Addr
  rt : Addr
  drt : Addr
  kd0 : Addr
  lk : Addr
def foot (I : Info) (D : Ad) (gs : List G) : List Addr := I.x :: D.lk :: D.rt :: D.drt :: D.kd0 :: (gs.flatMap (fun g => [g.l, g.dl, g.kd]) ++ baseFp I)
def tot (gs : List G) : Nat := (gs.map fun g => g.ks.length).sum

structure LR (I : Info) (D : Ad) (σ : Hp) (mm : Nm) (b : B) (gs : List G) : Prop where
  rb : RB σ I mm b
  hroot : mm "_LFUCache__root" = some (.ref D.rt)
  hlinks : mm "_LFUCache__links" = some (.ref D.lk)
  ring : ∃ nx pv, Node D.L σ nx pv D.rt D.drt D.kd0 0 ∧ (∀ g ∈ gs, Node D.L σ nx pv g.l g.dl g.kd g.c) ∧ Lk nx pv ((D.rt :: gs.map G.l) ++ [D.rt])
  kd0 : ∃ kvs, σ D.kd0 = some (.dict kvs)
  keys : ∀ g ∈ gs, σ g.kd = some (.dict (g.ks.map fun k => (k, .none)))
  lkd : ∃ kvs, σ D.lk = some (.dict kvs)
  nd : (D.rt :: gs.map G.l).Nodup
  ndk : (gs.map G.kd).Nodup
  kap : ∀ g ∈ gs, g.kd ∉ D.lk :: baseFp I
  lap : D.lk ∉ baseFp I
  kn : ∀ g ∈ gs, g.ks.Nodup
def Links (D : Ad) (σ : Hp) (gs : List G) : Prop := ∃ kvs, σ D.lk = some (.dict kvs) ∧ (∀ k v, aget kvs k = some v ↔ ∃ g ∈ gs, k ∈ g.ks ∧ v = .ref g.l) ∧ kvs.length ≤ tot gs
structure LC (I : Info) (D : Ad) (σ : Hp) (mm : Nm) (b : B) (gs : List G) : Prop where
  lr : LR I D σ mm b gs
  links : Links D σ gs
  short : tot gs ≤ 100

structure Keep (Out : Addr → Prop) (σ σ' : Hp) : Prop where
  out : ∀ a x, Out a → σ a = some x → σ' a = some x
  dom : ∀ a, σ a ≠ none → σ' a ≠ none
theorem Keep.refl (Out : Addr → Prop) (σ : Hp) : Keep Out σ σ := ⟨fun _ _ _ h => h, fun _ h => h⟩
theorem Keep.trans {Out : Addr → Prop} {σ₁ σ₂ σ₃ : Hp} (x : Keep Out σ₁ σ₂) (y : Keep Out σ₂ σ₃) : Keep Out σ₁ σ₃ := ⟨fun a o ha e => y.out a o ha (x.out a o ha e), fun a h => y.dom a (x.dom a h)⟩
theorem Keep.set {Out : Addr → Prop} {σ : Hp} {a : Addr} {x : AO} (h : ¬ Out a) : Keep Out σ (σ.set a x) :=
  ⟨fun b o hb e => by rw [Hp.set_ne _ _ (fun q : b = a => h (q ▸ hb))]; exact e, fun b hb => by by_cases q : b = a; (subst q; rw [Hp.set_self]; simp); (rw [Hp.set_ne _ _ q]; exact hb)⟩
structure Out (σ : Hp) (O : Addr → Prop) (fp : List Addr) : Prop where
  there : ∀ a, O a → σ a ≠ none
  no : ∀ a ∈ fp, ¬ O a
theorem Out.new {O : Addr → Prop} {fp : List Addr} (h : Out σ O fp) {a : Addr} (ha : σ a = none) : ¬ O a := fun q => h.there a q ha
theorem Out.keep {O : Addr → Prop} {fp : List Addr} {σ' : Hp} (h : Out σ O fp) (k : Keep O σ σ') : Out σ' O fp := ⟨fun a ha => k.dom a (h.there a ha), h.no⟩

theorem LR.base {I : Info} {D : Ad} {σ σ' : Hp} {mm : Nm} {b b' : B} {gs : List G} {O : Addr → Prop} (r : LR I D σ mm b gs) (o : Out σ O (foot I D gs)) (h : BaseOut I mm b' σ σ') : ∃ mm', LR I D σ' mm' b' gs ∧ Keep O σ σ' := by
  obtain ⟨mm', rb', sn, ch⟩ := h
  have hb : ∀ a ∈ baseFp I, σ a = none ∨ ∃ x, σ a = some x ∧ (∀ L d f, x ≠ .slots L d f) := fun a ha => by
    obtain ⟨j, hj, hd⟩ := r.rb.ns
    simp only [baseFp, List.mem_cons, Option.mem_toList, Option.map_eq_some_iff] at ha
    rcases ha with rfl | rfl | ⟨p, hp, rfl⟩
    · exact .inr ⟨_, hd, by intro _ _ _ q; cases q⟩
    · exact .inr ⟨_, r.rb.dict, by intro _ _ _ q; cases q⟩
    · obtain ⟨kvs, q1, _⟩ := r.rb.sz p hp
      exact .inr ⟨_, q1, by intro _ _ _ q; cases q⟩
  have nn : ∀ {nx pv : Addr → Addr} {l dl kd : Addr} {c : Int}, Node D.L σ nx pv l dl kd c → Node D.L σ' nx pv l dl kd c := fun {nx pv l dl kd c} h => by
    obtain ⟨f, t, k, q1, q2, q3, q4, q5, q6⟩ := id h
    refine h.frame (ch l fun q => ?_) (ch dl fun q => ?_)
    · rcases hb l q with e | ⟨x, e, hx⟩
      · rw [e] at q1; cases q1
      · rw [e] at q1; exact hx _ _ _ (Option.some.inj q1)
    · simp only [baseFp, List.mem_cons, Option.mem_toList, Option.map_eq_some_iff] at q
      rcases q with q | rfl | ⟨p, hp, rfl⟩
      · obtain ⟨j, _, hd⟩ := r.rb.ns
        rw [q, hd] at q6
        cases q6
        have := r.rb.hdata
        cases this
      · rw [r.rb.dict] at q6; cases q6
      · obtain ⟨kvs, e, _⟩ := r.rb.sz p hp
        rw [e] at q6; cases q6
  obtain ⟨nx, pv, h1, h2, h3⟩ := r.ring
  obtain ⟨kvs, k1⟩ := r.lkd
  obtain ⟨kvs0, k0⟩ := r.kd0
  refine ⟨mm', ⟨rb', (sn _ (by decide +kernel)).trans r.hroot, (sn _ (by decide +kernel)).trans r.hlinks, ⟨nx, pv, nn h1, fun g hg => nn (h2 g hg), h3⟩, ?_,
    fun g hg => (ch _ fun q => r.kap g hg (.tail _ q)).trans (r.keys g hg), ⟨kvs, (ch _ r.lap).trans k1⟩, r.nd, r.ndk, r.kap, r.lap, r.kn⟩, fun a x ha e => ?_, fun a ha => ?_⟩
  · by_cases q : D.kd0 ∈ baseFp I
    · simp only [baseFp, List.mem_cons, Option.mem_toList, Option.map_eq_some_iff] at q
      rcases q with q | q | ⟨p, hp, q⟩
      · obtain ⟨j, _, hd⟩ := r.rb.ns
        rw [q, hd] at k0; cases k0
      · rw [q]; exact ⟨_, rb'.dict⟩
      · rw [← q]; obtain ⟨kvs, e, _⟩ := rb'.sz p hp; exact ⟨_, e⟩
    · exact ⟨_, (ch _ q).trans k0⟩
  · exact (ch a fun q => o.no a (by simp only [foot, List.mem_cons, List.mem_append]; exact .inr (.inr (.inr (.inr (.inr (.inr q)))))) ha).trans e
  · by_cases q : a ∈ baseFp I
    · exact rb'.dom (.tail _ q)
    · rw [ch a q]; exact ha

theorem Links.base {I : Info} {D : Ad} {σ σ' : Hp} {gs : List G} (h : Links D σ gs) (hl : D.lk ∉ baseFp I) (ch : Chg (baseFp I) σ σ') : Links D σ' gs := by
  obtain ⟨kvs, h1, h2⟩ := h
  exact ⟨kvs, (ch _ hl).trans h1, h2⟩

theorem Node.setDict {L : Addr} {σ : Hp} {nx pv : Addr → Addr} {l dl kd a : Addr} {c : Int} {kv : List (Int × Value)} {y : AO} (h : Node L σ nx pv l dl kd c) (ha : σ a = some (.dict kv)) : Node L (σ.set a y) nx pv l dl kd c := by
  obtain ⟨f, t, k, q1, q2, q3, q4, q5, q6⟩ := id h
  exact h.frame (Hp.set_ne _ _ fun e => by rw [e, ha] at q1; cases q1) (Hp.set_ne _ _ fun e => by rw [e, ha] at q6; cases q6)

theorem RB.slotNot {σ : Hp} {I : Info} {mm : Nm} {b : B} {a L d : Addr} {f : Nat → Option Value} (r : RB σ I mm b) (h : σ a = some (.slots L d f)) : a ∉ I.x :: baseFp I := fun q => by
  obtain ⟨j, _, hd⟩ := r.ns
  simp only [baseFp, List.mem_cons, Option.mem_toList, Option.map_eq_some_iff] at q
  rcases q with rfl | rfl | rfl | ⟨p, hp, rfl⟩
  · rw [r.inst] at h; cases h
  · rw [hd] at h; cases h
  · rw [r.dict] at h; cases h
  · obtain ⟨kvs, e, _⟩ := r.sz p hp
    rw [e] at h; cases h
theorem RB.setSlots {σ : Hp} {I : Info} {mm : Nm} {b : B} {a L d : Addr} {f : Nat → Option Value} {y : AO} (r : RB σ I mm b) (h : σ a = some (.slots L d f)) : RB (σ.set a y) I mm b :=
  r.frame fun x hx => Hp.set_ne _ _ fun e => RB.slotNot r h (e ▸ hx)

theorem LR.setKeys {I : Info} {D : Ad} {σ : Hp} {mm : Nm} {b : B} {p s : List G} {g : G} {ks : List Int} (r : LR I D σ mm b (p ++ g :: s)) (hk : ks.Nodup) :
    LR I D (σ.set g.kd (.dict (ks.map fun k => (k, .none)))) mm b (p ++ { g with ks := ks } :: s) := by
  have hg : g ∈ p ++ g :: s := List.mem_append_right _ (.head _)
  have hd := r.keys g hg
  have ha := r.kap g hg
  simp only [List.mem_cons, not_or] at ha
  obtain ⟨nx, pv, h1, h2, h3⟩ := r.ring
  have hmem : ∀ x ∈ p ++ { g with ks := ks } :: s, x = { g with ks := ks } ∨ (x ∈ p ++ g :: s ∧ x.kd ≠ g.kd) := fun x hx => by
    have hn := r.ndk
    rw [List.map_append, List.map_cons] at hn
    obtain ⟨n1, n2, n3⟩ := List.nodup_append.mp hn
    simp only [List.mem_append, List.mem_cons] at hx ⊢
    rcases hx with hx | hx | hx
    · exact .inr ⟨.inl hx, n3 _ (List.mem_map_of_mem hx) _ (.head _)⟩
    · exact .inl hx
    · exact .inr ⟨.inr (.inr hx), fun e => (List.nodup_cons.mp n2).1 (e ▸ List.mem_map_of_mem hx)⟩
  obtain ⟨kvs, k1⟩ := r.lkd
  obtain ⟨kvs0, k0⟩ := r.kd0
  refine ⟨r.rb.mono' ha.2 hd (by intro C e q; cases q), r.hroot, r.hlinks, ⟨nx, pv, h1.setDict hd, fun x hx => ?_, by simpa using h3⟩, ?_, fun x hx => ?_, ⟨kvs, by rw [Hp.set_ne _ _ (Ne.symm ha.1)]; exact k1⟩,
    by simpa using r.nd, by simpa using r.ndk, fun x hx => ?_, r.lap, fun x hx => ?_⟩
  · rcases hmem x hx with rfl | ⟨h, _⟩
    · exact (h2 g hg).setDict hd
    · exact (h2 x h).setDict hd
  · by_cases e : D.kd0 = g.kd
    · rw [e]; exact ⟨_, Hp.set_self _ _ _⟩
    · exact ⟨_, by rw [Hp.set_ne _ _ e]; exact k0⟩
  · rcases hmem x hx with rfl | ⟨h, hne⟩
    · exact Hp.set_self _ _ _
    · rw [Hp.set_ne _ _ hne]; exact r.keys x h
  · rcases hmem x hx with rfl | ⟨h, _⟩
    · exact r.kap g hg
    · exact r.kap x h
  · rcases hmem x hx with rfl | ⟨h, _⟩
    · exact hk
    · exact r.kn x h

theorem LR.setLinks {I : Info} {D : Ad} {σ : Hp} {mm : Nm} {b : B} {gs : List G} {kvs : List (Int × Value)} (r : LR I D σ mm b gs) : LR I D (σ.set D.lk (.dict kvs)) mm b gs := by
  obtain ⟨kvs1, k1⟩ := r.lkd
  obtain ⟨kvs0, k0⟩ := r.kd0
  obtain ⟨nx, pv, h1, h2, h3⟩ := r.ring
  refine ⟨r.rb.mono' r.lap k1 (by intro C e q; cases q), r.hroot, r.hlinks, ⟨nx, pv, h1.setDict k1, fun x hx => (h2 x hx).setDict k1, h3⟩, ?_, fun x hx => ?_, ⟨_, Hp.set_self _ _ _⟩, r.nd, r.ndk, r.kap, r.lap, r.kn⟩
  · by_cases e : D.kd0 = D.lk
    · rw [e]; exact ⟨_, Hp.set_self _ _ _⟩
    · exact ⟨_, by rw [Hp.set_ne _ _ e]; exact k0⟩
  · rw [Hp.set_ne _ _ fun e => r.kap x hx (by rw [e]; exact .head _)]; exact r.keys x hx
end Lfu
end Mine
namespace Mine
set_option pp.deepTerms false
set_option pp.deepTerms.threshold 8
local macro_rules | `(tactic| walk_at "lk") => `(tactic| first | assumption | rfl | (simp only [mset, ofs_inj, String.reduceEq, ↓reduceIte]; first | assumption | rfl) | (simp only [mset, ofs_inj, String.reduceEq, ↓reduceIte]; done))
local macro_rules | `(tactic| walk_at "nm") => `(tactic| (refine v_local (by assumption) (by assumption) (kof (by assumption) (by kernel_rfl)) (by walk_at "lk") ?_ (by kernel_rfl)))
local macro_rules | `(tactic| walk_at "st") => `(tactic| (refine v_store (by assumption) (by assumption) (kof (by assumption) (by kernel_rfl)) fun s r => ?_))
local macro_rules | `(tactic| walk_at "v") => `(tactic| first
  | with_reducible refine wpAny_Return_some ?_
  | with_reducible refine wpAny_Return_none ?_
  | ((with_reducible refine wpAny_Compare1 (hm := ?hm) ?_); (case hm => with_unfolding_all rfl))
  | ((with_reducible refine wpAny_isTrue_Compare1 (hm := ?hm) ?_); (case hm => with_unfolding_all rfl))
  | ((with_reducible refine wpAny_Assign_Name (hs := ?hs) ?_); (case hs => rfl))
  | ((with_reducible refine wpAny_Assign_Subscript (hs := ?hs) ?_); (case hs => rfl))
  | ((with_reducible refine plainObj_wpAny_Assign_Attribute (hs := ?hs) ?_); (case hs => rfl))
  | ((with_reducible refine wpAny_Assign_two (he := ?he) (hw := ?hw) ?_); (case he => rfl); (case hw => rfl))
  | with_reducible refine assign_Attr ?_
  | with_reducible refine assign_Subs ?_
  | with_reducible refine wpAny_assign_Name ?_
  | with_reducible refine Attribute_name ?_
  | with_reducible refine Attribute_any_ ?_
  | with_reducible refine Subscript_ ?_
  | with_reducible refine wpAny_If ?_
  | with_reducible refine wpAny_BinOp ?_
  | with_reducible refine wpAny_UnaryOp ?_
  | with_reducible refine wpAny_Delete ?_
  | with_reducible refine wpAny_deleteEach_cons ?_
  | with_reducible refine wpAny_deleteEach_nil ?_
  | with_reducible refine wpAny_delete_Subscript ?_
  | with_reducible refine wpAny_AugAssign_AttributeAny ?_
  | with_reducible refine wpAny_execs_nil ?_
  | with_reducible refine wpAny_Constant_none ?_
  | with_reducible refine spliced_none ?_
  | with_reducible refine ea_none ?_
  | ((with_reducible refine ea_plain ?_ ?he); (case he => rfl))
  | ((with_reducible refine' methodCall_KW (pl := ?pl) (he := ?he) ?_); (case he => rfl))
  | walk_at "nm"
  | ((with_reducible refine spliced_more ?_ (he := ?he)); (case he => rfl)))
local macro_rules | `(tactic| walk_at "vv") => `(tactic| repeat walk_at "v")
namespace Lfu
variable {prog : Program} {w : World} {K : Frag} {H : Option Value} {n : Nat} {σ : Hp}

theorem mem_foot {I : Info} {D : Ad} {gs : List G} {a : Addr} : a ∈ foot I D gs ↔ a = I.x ∨ a = D.lk ∨ a = D.rt ∨ a = D.drt ∨ a = D.kd0 ∨ (∃ g ∈ gs, a = g.l ∨ a = g.dl ∨ a = g.kd) ∨ a ∈ baseFp I := by
  simp only [foot, List.mem_cons, List.mem_append, List.mem_flatMap, List.not_mem_nil, or_false]

theorem Out.mono {O : Addr → Prop} {fp fp' : List Addr} {σ : Hp} (h : Out σ O fp) (hs : ∀ a ∈ fp', a ∈ fp ∨ ¬ O a) : Out σ O fp' := ⟨h.there, fun a ha => (hs a ha).elim (h.no a) id⟩

theorem Out.sub {I : Info} {D : Ad} {O : Addr → Prop} {gs gs' : List G} {σ : Hp} (h : Out σ O (foot I D gs)) (hs : ∀ x ∈ gs', ∃ y ∈ gs, y.l = x.l ∧ y.dl = x.dl ∧ y.kd = x.kd) : Out σ O (foot I D gs') :=
  h.mono fun a ha => .inl (by
    rcases mem_foot.mp ha with q | q | q | q | q | ⟨x, hx, q⟩ | q
    · exact mem_foot.mpr (.inl q)
    · exact mem_foot.mpr (.inr (.inl q))
    · exact mem_foot.mpr (.inr (.inr (.inl q)))
    · exact mem_foot.mpr (.inr (.inr (.inr (.inl q))))
    · exact mem_foot.mpr (.inr (.inr (.inr (.inr (.inl q)))))
    · obtain ⟨y, hy, e1, e2, e3⟩ := hs x hx
      exact mem_foot.mpr (.inr (.inr (.inr (.inr (.inr (.inl ⟨y, hy, by rw [e1, e2, e3]; exact q⟩))))))
    · exact mem_foot.mpr (.inr (.inr (.inr (.inr (.inr (.inr q)))))))

theorem noTwice {rt : Addr} {ls : List Addr} (h : (rt :: ls).Nodup) : NoTwice ((rt :: ls) ++ [rt]) := by
  refine ⟨by rw [List.dropLast_concat]; exact h, ?_⟩
  simp only [List.cons_append, List.tail_cons]
  exact (List.perm_append_singleton rt ls).nodup_iff.mpr h

theorem LR.node {I : Info} {D : Ad} {mm : Nm} {b : B} {gs : List G} (r : LR I D σ mm b gs) {x : Addr} (hx : x ∈ D.rt :: gs.map G.l) : ∃ d f k, σ x = some (.slots D.L d f) ∧ σ d = some (.ns (fun _ => none) k) := by
  obtain ⟨nx, pv, h1, h2, h3⟩ := r.ring
  rcases List.mem_cons.mp hx with rfl | hx
  · obtain ⟨f, t, k, q1, _, _, _, _, q6⟩ := h1; exact ⟨_, f, k, q1, q6⟩
  · obtain ⟨g, hg, rfl⟩ := List.mem_map.mp hx
    obtain ⟨f, t, k, q1, _, _, _, _, q6⟩ := h2 g hg; exact ⟨_, f, k, q1, q6⟩

theorem split_ring {p s : List G} {g : G} {rt : Addr} : ∃ P a c S, rt :: p.map G.l = P ++ [a] ∧ s.map G.l ++ [rt] = c :: S ∧ ((rt :: (p ++ g :: s).map G.l) ++ [rt] = P ++ a :: g.l :: c :: S) ∧ (rt :: (p ++ s).map G.l) ++ [rt] = P ++ a :: c :: S := by
  obtain ⟨P, a, h1⟩ : ∃ P a, rt :: p.map G.l = P ++ [a] := ⟨_, _, (List.dropLast_concat_getLast (by simp)).symm⟩
  obtain ⟨c, S, h2⟩ : ∃ c S, s.map G.l ++ [rt] = c :: S := by cases s with | nil => exact ⟨_, _, rfl⟩ | cons x s => exact ⟨_, _, rfl⟩
  refine ⟨P, a, c, S, h1, h2, ?_, ?_⟩
  · rw [List.map_append, List.map_cons, ← List.cons_append, h1, List.append_assoc, List.append_assoc, List.cons_append, List.cons_append, h2]; rfl
  · rw [List.map_append, ← List.cons_append, h1, List.append_assoc, List.append_assoc, h2]; rfl

theorem LR.unlink {I : Info} {D : Ad} {mm : Nm} {b : B} {p s : List G} {g : G} {L : Addr} (F : LF K L) (hL : D.L = L) {O : Addr → Prop} {X : String → Hp → Prop} (r : LR I D σ mm b (p ++ g :: s)) (o : Out σ O (foot I D (p ++ g :: s))) :
    CallT prog w K H (n + 1) (.ref F.unl) ⟨[.ref g.l], []⟩ σ (fun v σ' => v = .none ∧ LR I D σ' mm b (p ++ s) ∧ Keep O σ σ' ∧ σ' D.lk = σ D.lk) X := by
  subst hL
  obtain ⟨nx, pv, h1, h2, h3⟩ := r.ring
  obtain ⟨P, a, c, S, e1, e2, e3, e4⟩ := split_ring (p := p) (s := s) (g := g) (rt := D.rt)
  have nt := noTwice r.nd
  rw [e3] at h3 nt
  have h3' := (Lk.split.mp h3).2
  have hg : g ∈ p ++ g :: s := List.mem_append_right _ (.head _)
  have ha : a ∈ D.rt :: (p ++ g :: s).map G.l := by
    have : a ∈ D.rt :: p.map G.l := by rw [e1]; simp
    simp only [List.mem_cons, List.map_append, List.mem_append] at this ⊢
    rcases this with h | h
    · exact .inl h
    · exact .inr (.inl h)
  have hc : c ∈ D.rt :: (p ++ g :: s).map G.l := by
    have : c ∈ s.map G.l ++ [D.rt] := by rw [e2]; exact .head _
    simp only [List.mem_cons, List.map_append, List.mem_append, List.map_cons, List.not_mem_nil, or_false] at this ⊢
    rcases this with h | h
    · exact .inr (.inr (.inr h))
    · exact .inl h
  obtain ⟨da, fa, ka, qa, qda⟩ := r.node ha
  obtain ⟨dc, fc, kc, qc, qdc⟩ := r.node hc
  have epv : pv g.l = a := h3'.2.1
  have enx : nx g.l = c := h3'.2.2.1
  have hcall := call_unlink (prog := prog) (w := w) (K := K) (H := H) (n := n) (X := X) F (h2 g hg) (by rw [epv]; exact qa) qda (by rw [enx]; exact qc) qdc
  rw [epv, enx] at hcall
  refine hcall.mono (fun v σ' ⟨q0, fc', q1, q2⟩ => ⟨q0, ?_⟩) fun _ _ x => x
  subst q2
  have nodes : ∀ {l dl kd : Addr} {c' : Int}, Node D.L σ nx pv l dl kd c' → Node D.L ((σ.set a (.slots D.L da fun j => if j = 2 then some (.ref c) else fa j)).set c (.slots D.L dc fun j => if j = 3 then some (.ref a) else fc' j)) (upd nx a c) (upd pv c a) l dl kd c' :=
    fun h => (h.setNext qa).setPrev q1
  have notSlots : ∀ {x : Addr} {y : AO}, σ x = some y → (∀ L d f, y ≠ .slots L d f) → ((σ.set a (.slots D.L da fun j => if j = 2 then some (.ref c) else fa j)).set c (.slots D.L dc fun j => if j = 3 then some (.ref a) else fc' j)) x = some y := fun {x y} hx hy => by
    rw [Hp.set_ne _ _ (fun e : x = c => by rw [e, qc] at hx; exact hy _ _ _ (Option.some.inj hx).symm), Hp.set_ne _ _ (fun e : x = a => by rw [e, qa] at hx; exact hy _ _ _ (Option.some.inj hx).symm)]; exact hx
  obtain ⟨kvs1, k1⟩ := r.lkd
  obtain ⟨kvs0, k0⟩ := r.kd0
  have sub : ∀ x ∈ p ++ s, x ∈ p ++ g :: s := fun x hx => by
    simp only [List.mem_append, List.mem_cons] at hx ⊢
    rcases hx with h | h
    · exact .inl h
    · exact .inr (.inr h)
  have hno : ∀ x ∈ D.rt :: (p ++ g :: s).map G.l, ¬ O x := fun x hx => o.no x (mem_foot.mpr (by
    rcases List.mem_cons.mp hx with rfl | hx
    · exact .inr (.inr (.inl rfl))
    · obtain ⟨g', hg', rfl⟩ := List.mem_map.mp hx
      exact .inr (.inr (.inr (.inr (.inr (.inl ⟨g', hg', .inl rfl⟩)))))))
  refine ⟨⟨RB.setSlots (RB.setSlots r.rb qa) q1, r.hroot, r.hlinks, ⟨_, _, nodes h1, fun x hx => nodes (h2 x (sub x hx)), ?_⟩, ⟨_, notSlots k0 (by intro _ _ _ q; cases q)⟩, fun x hx => notSlots (r.keys x (sub x hx)) (by intro _ _ _ q; cases q), ⟨_, notSlots k1 (by intro _ _ _ q; cases q)⟩,
    r.nd.sublist (.cons_cons _ (List.Sublist.map _ (List.Sublist.append_left (List.sublist_cons_self _ _) _))), r.ndk.sublist (List.Sublist.map _ (List.Sublist.append_left (List.sublist_cons_self _ _) _)), fun x hx => r.kap x (sub x hx), r.lap, fun x hx => r.kn x (sub x hx)⟩,
    (Keep.set (hno a ha)).trans (Keep.set (hno c hc)), (notSlots k1 (by intro _ _ _ q; cases q)).trans k1.symm⟩
  rw [e4]
  exact h3.del nt
end Lfu
end Mine
namespace Mine
set_option pp.deepTerms false
set_option pp.deepTerms.threshold 8
local macro_rules | `(tactic| walk_at "lk") => `(tactic| first | assumption | rfl | (simp only [mset, ofs_inj, String.reduceEq, ↓reduceIte]; first | assumption | rfl) | (simp only [mset, ofs_inj, String.reduceEq, ↓reduceIte]; done))
local macro_rules | `(tactic| walk_at "nm") => `(tactic| (refine v_local (by assumption) (by assumption) (kof (by assumption) (by kernel_rfl)) (by walk_at "lk") ?_ (by kernel_rfl)))
local macro_rules | `(tactic| walk_at "st") => `(tactic| (refine v_store (by assumption) (by assumption) (kof (by assumption) (by kernel_rfl)) fun s r => ?_))
local macro_rules | `(tactic| walk_at "v") => `(tactic| first
  | with_reducible refine wpAny_Return_some ?_
  | with_reducible refine wpAny_Return_none ?_
  | ((with_reducible refine wpAny_Compare1 (hm := ?hm) ?_); (case hm => with_unfolding_all rfl))
  | ((with_reducible refine wpAny_isTrue_Compare1 (hm := ?hm) ?_); (case hm => with_unfolding_all rfl))
  | ((with_reducible refine wpAny_Assign_Name (hs := ?hs) ?_); (case hs => rfl))
  | ((with_reducible refine wpAny_Assign_Subscript (hs := ?hs) ?_); (case hs => rfl))
  | ((with_reducible refine plainObj_wpAny_Assign_Attribute (hs := ?hs) ?_); (case hs => rfl))
  | ((with_reducible refine wpAny_Assign_two (he := ?he) (hw := ?hw) ?_); (case he => rfl); (case hw => rfl))
  | with_reducible refine assign_Attr ?_
  | with_reducible refine assign_Subs ?_
  | with_reducible refine wpAny_assign_Name ?_
  | with_reducible refine Attribute_name ?_
  | with_reducible refine Attribute_any_ ?_
  | with_reducible refine Subscript_ ?_
  | with_reducible refine wpAny_If ?_
  | with_reducible refine wpAny_BinOp ?_
  | with_reducible refine wpAny_UnaryOp ?_
  | with_reducible refine wpAny_Delete ?_
  | with_reducible refine wpAny_deleteEach_cons ?_
  | with_reducible refine wpAny_deleteEach_nil ?_
  | with_reducible refine wpAny_delete_Subscript ?_
  | with_reducible refine wpAny_AugAssign_AttributeAny ?_
  | with_reducible refine wpAny_execs_nil ?_
  | with_reducible refine wpAny_Constant_none ?_
  | with_reducible refine spliced_none ?_
  | with_reducible refine ea_none ?_
  | ((with_reducible refine ea_plain ?_ ?he); (case he => rfl))
  | ((with_reducible refine' methodCall_KW (pl := ?pl) (he := ?he) ?_); (case he => rfl))
  | walk_at "nm"
  | ((with_reducible refine spliced_more ?_ (he := ?he)); (case he => rfl)))
local macro_rules | `(tactic| walk_at "vv") => `(tactic| repeat walk_at "v")
namespace Lfu
variable {prog : Program} {w : World} {K : Frag} {H : Option Value} {n : Nat} {σ : Hp}

abbrev sNext (f : Nat → Option Value) (y : Addr) : Nat → Option Value := fun j => if j = 2 then some (.ref y) else f j
abbrev sPrev (f : Nat → Option Value) (y : Addr) : Nat → Option Value := fun j => if j = 3 then some (.ref y) else f j

structure Ins (I : Info) (D : Ad) (σ σ1 : Hp) (mm : Nm) (b : B) (p s : List G) (O : Addr → Prop) (l dl kd : Addr) (c : Int) (f : Nat → Option Value) (a bb da db : Addr) (fa fb : Nat → Option Value) (ka kb : Nat) : Prop where
  a1 : σ1 a = some (.slots D.L da fa)
  a2 : fa 2 = some (.ref bb)
  a3 : σ1 da = some (.ns (fun _ => none) ka)
  b1 : (σ1.set l (.slots D.L dl (sNext f bb))) a = some (.slots D.L da fa)
  b2 : (σ1.set l (.slots D.L dl (sNext f bb))) da = some (.ns (fun _ => none) ka)
  c1 : ((σ1.set l (.slots D.L dl (sNext f bb))).set a (.slots D.L da (sNext fa l))) l = some (.slots D.L dl (sNext f bb))
  c2 : ((σ1.set l (.slots D.L dl (sNext f bb))).set a (.slots D.L da (sNext fa l))) dl = some (.ns (fun _ => none) 0)
  c3 : ((σ1.set l (.slots D.L dl (sNext f bb))).set a (.slots D.L da (sNext fa l))) bb = some (.slots D.L db fb)
  c4 : ((σ1.set l (.slots D.L dl (sNext f bb))).set a (.slots D.L da (sNext fa l))) db = some (.ns (fun _ => none) kb)
  d1 : (((σ1.set l (.slots D.L dl (sNext f bb))).set a (.slots D.L da (sNext fa l))).set bb (.slots D.L db (sPrev fb l))) l = some (.slots D.L dl (sNext f bb))
  d2 : (((σ1.set l (.slots D.L dl (sNext f bb))).set a (.slots D.L da (sNext fa l))).set bb (.slots D.L db (sPrev fb l))) dl = some (.ns (fun _ => none) 0)
  lr : LR I D ((((σ1.set l (.slots D.L dl (sNext f bb))).set a (.slots D.L da (sNext fa l))).set bb (.slots D.L db (sPrev fb l))).set l (.slots D.L dl (sPrev (sNext f bb) a))) mm b (p ++ ⟨l, dl, kd, c, []⟩ :: s)
  keep : Keep O σ ((((σ1.set l (.slots D.L dl (sNext f bb))).set a (.slots D.L da (sNext fa l))).set bb (.slots D.L db (sPrev fb l))).set l (.slots D.L dl (sPrev (sNext f bb) a)))
  lk : ((((σ1.set l (.slots D.L dl (sNext f bb))).set a (.slots D.L da (sNext fa l))).set bb (.slots D.L db (sPrev fb l))).set l (.slots D.L dl (sPrev (sNext f bb) a))) D.lk = σ D.lk
  fresh : ¬ O l ∧ ¬ O dl ∧ ¬ O kd

theorem LR.dom {I : Info} {D : Ad} {mm : Nm} {b : B} {gs : List G} (r : LR I D σ mm b gs) {a : Addr} (h : a ∈ foot I D gs) : σ a ≠ none := by
  obtain ⟨nx, pv, ⟨f, t, k, q1, _, _, _, _, q6⟩, h2, h3⟩ := r.ring
  obtain ⟨kvs1, k1⟩ := r.lkd
  obtain ⟨kvs0, k0⟩ := r.kd0
  rcases mem_foot.mp h with h | rfl | rfl | rfl | rfl | ⟨g, hg, h⟩ | h
  · exact r.rb.dom (by rw [h]; exact .head _)
  · rw [k1]; simp
  · rw [q1]; simp
  · rw [q6]; simp
  · rw [k0]; simp
  · obtain ⟨f, t, k, p1, _, _, _, _, p6⟩ := h2 g hg
    rcases h with rfl | rfl | rfl
    · rw [p1]; simp
    · rw [p6]; simp
    · rw [r.keys g hg]; simp
  · exact r.rb.dom (.tail _ h)

theorem LR.insert {I : Info} {D : Ad} {σ σ1 : Hp} {mm : Nm} {b : B} {p s : List G} {O : Addr → Prop} {l dl kd a : Addr} {P : List Addr} {c : Int} {t : Tok} {f : Nat → Option Value} (r : LR I D σ mm b (p ++ s)) (o : Out σ O (foot I D (p ++ s)))
    (hl : σ l = none) (hdl : σ dl = none) (hkd : σ kd = none) (n1 : l ≠ dl) (n2 : l ≠ kd) (n3 : dl ≠ kd) (q1 : σ1 l = some (.slots D.L dl f)) (q2 : f 0 = some (.int c t)) (q3 : f 1 = some (.ref kd)) (q4 : σ1 dl = some (.ns (fun _ => none) 0))
    (q5 : σ1 kd = some (.dict [])) (q6 : ∀ x, x ≠ l → x ≠ dl → x ≠ kd → σ1 x = σ x) (ha : D.rt :: p.map G.l = P ++ [a]) :
    ∃ bb da db fa fb ka kb, Ins I D σ σ1 mm b p s O l dl kd c f a bb da db fa fb ka kb := by
  have old : ∀ {x : Addr} {y : AO}, σ x = some y → σ1 x = some y := fun {x y} h => (q6 x (fun e => by rw [e, hl] at h; cases h) (fun e => by rw [e, hdl] at h; cases h) (fun e => by rw [e, hkd] at h; cases h)).trans h
  obtain ⟨nx, pv, h1, h2, h3⟩ := r.ring
  obtain ⟨bb, S, e2⟩ : ∃ c S, s.map G.l ++ [D.rt] = c :: S := by cases s with | nil => exact ⟨_, _, rfl⟩ | cons x s => exact ⟨_, _, rfl⟩
  have e3 : (D.rt :: (p ++ s).map G.l) ++ [D.rt] = P ++ a :: bb :: S := by rw [List.map_append, ← List.cons_append, ha, List.append_assoc, List.append_assoc, e2]; rfl
  have nt := noTwice r.nd
  rw [e3] at h3 nt
  have hnxt : nx a = bb := (Lk.split.mp h3).2.1
  have hring : ∀ x ∈ P ++ a :: bb :: S, x ∈ D.rt :: (p ++ s).map G.l := fun x hx => by
    rw [← e3] at hx
    simp only [List.mem_append, List.mem_cons, List.not_mem_nil, or_false] at hx ⊢
    rcases hx with hx | hx
    · exact hx
    · exact .inl hx
  have ham := hring a (by simp)
  have hbm := hring bb (by simp)
  obtain ⟨da, fa, ka, A1, A3⟩ := r.node ham
  obtain ⟨db, fb0, kb, B1, B3⟩ := r.node hbm
  have A2 : fa 2 = some (.ref bb) := by
    rcases List.mem_cons.mp ham with e | hx
    · subst e
      obtain ⟨f', _, _, p1, _, _, p4, _⟩ := h1
      rw [A1] at p1; cases p1; rw [p4, hnxt]
    · obtain ⟨g, hg, e⟩ := List.mem_map.mp hx
      subst e
      obtain ⟨f', _, _, p1, _, _, p4, _⟩ := h2 g hg
      rw [A1] at p1; cases p1; rw [p4, hnxt]
  have al : a ≠ l := fun e => by rw [e, hl] at A1; cases A1
  have bl : bb ≠ l := fun e => by rw [e, hl] at B1; cases B1
  have dal : da ≠ l := fun e => by rw [e, hl] at A3; cases A3
  have dbl : db ≠ l := fun e => by rw [e, hl] at B3; cases B3
  have dba : db ≠ a := fun e => by rw [e, A1] at B3; cases B3
  have dla : dl ≠ a := fun e => by rw [← e, hdl] at A1; cases A1
  have dlb : dl ≠ bb := fun e => by rw [← e, hdl] at B1; cases B1
  have hno : ∀ x ∈ D.rt :: (p ++ s).map G.l, ¬ O x := fun x hx => o.no x (mem_foot.mpr (by
    rcases List.mem_cons.mp hx with rfl | hx
    · exact .inr (.inr (.inl rfl))
    · obtain ⟨g', hg', rfl⟩ := List.mem_map.mp hx
      exact .inr (.inr (.inr (.inr (.inr (.inl ⟨g', hg', .inl rfl⟩)))))))
  have b1 : (σ1.set l (.slots D.L dl (sNext f bb))) a = some (.slots D.L da fa) := by rw [Hp.set_ne _ _ al]; exact old A1
  obtain ⟨fb, c3⟩ : ∃ fb, ((σ1.set l (.slots D.L dl (sNext f bb))).set a (.slots D.L da (sNext fa l))) bb = some (.slots D.L db fb) := by
    by_cases e : bb = a
    · subst e
      rw [A1] at B1; cases B1
      exact ⟨_, Hp.set_self _ _ _⟩
    · exact ⟨fb0, by rw [Hp.set_ne _ _ e, Hp.set_ne _ _ bl]; exact old B1⟩
  have c1 : ((σ1.set l (.slots D.L dl (sNext f bb))).set a (.slots D.L da (sNext fa l))) l = some (.slots D.L dl (sNext f bb)) := by rw [Hp.set_ne _ _ (Ne.symm al)]; exact Hp.set_self _ _ _
  have c2 : ((σ1.set l (.slots D.L dl (sNext f bb))).set a (.slots D.L da (sNext fa l))) dl = some (.ns (fun _ => none) 0) := by rw [Hp.set_ne _ _ dla, Hp.set_ne _ _ (Ne.symm n1)]; exact q4
  have d1 : (((σ1.set l (.slots D.L dl (sNext f bb))).set a (.slots D.L da (sNext fa l))).set bb (.slots D.L db (sPrev fb l))) l = some (.slots D.L dl (sNext f bb)) := by rw [Hp.set_ne _ _ (Ne.symm bl)]; exact c1
  have d2 : (((σ1.set l (.slots D.L dl (sNext f bb))).set a (.slots D.L da (sNext fa l))).set bb (.slots D.L db (sPrev fb l))) dl = some (.ns (fun _ => none) 0) := by rw [Hp.set_ne _ _ dlb]; exact c2
  have kl : kd ≠ l := Ne.symm n2
  have ka' : kd ≠ a := fun e => by rw [← e, hkd] at A1; cases A1
  have kb' : kd ≠ bb := fun e => by rw [← e, hkd] at B1; cases B1
  have notSlots : ∀ {x : Addr} {y : AO}, σ x = some y → (∀ L d f, y ≠ .slots L d f) → ((((σ1.set l (.slots D.L dl (sNext f bb))).set a (.slots D.L da (sNext fa l))).set bb (.slots D.L db (sPrev fb l))).set l (.slots D.L dl (sPrev (sNext f bb) a))) x = some y := fun {x y} hx hy => by
    have e1 : x ≠ l := fun e => by rw [e, hl] at hx; cases hx
    have e2 : x ≠ a := fun e => by rw [e, A1] at hx; exact hy _ _ _ (Option.some.inj hx).symm
    have e3 : x ≠ bb := fun e => by rw [e, B1] at hx; exact hy _ _ _ (Option.some.inj hx).symm
    rw [Hp.set_ne _ _ e1, Hp.set_ne _ _ e3, Hp.set_ne _ _ e2, Hp.set_ne _ _ e1]; exact old hx
  have nodes : ∀ {l' dl' kd' : Addr} {c' : Int}, Node D.L σ nx pv l' dl' kd' c' → Node D.L ((((σ1.set l (.slots D.L dl (sNext f bb))).set a (.slots D.L da (sNext fa l))).set bb (.slots D.L db (sPrev fb l))).set l (.slots D.L dl (sPrev (sNext f bb) a))) (upd (upd nx l bb) a l) (upd (upd pv bb l) l a) l' dl' kd' c' := fun h => by
    obtain ⟨f', _, _, p1, _, _, _, _, p6⟩ := id h
    exact (((((h.frame (σ' := σ1) ((old p1).trans p1.symm) ((old p6).trans p6.symm)).setNext (y := bb) q1).setNext (y := l) b1).setPrev (y := l) c3).setPrev (y := a) d1)
  obtain ⟨kvs1, k1⟩ := r.lkd
  obtain ⟨kvs0, k0⟩ := r.kd0
  have cases' : ∀ x ∈ p ++ (⟨l, dl, kd, c, []⟩ : G) :: s, x = ⟨l, dl, kd, c, []⟩ ∨ x ∈ p ++ s := fun x hx => by
    simp only [List.mem_append, List.mem_cons] at hx ⊢
    rcases hx with h | h | h
    · exact .inr (.inl h)
    · exact .inl h
    · exact .inr (.inr h)
  have lnew : l ∉ D.rt :: (p ++ s).map G.l := fun q => by
    obtain ⟨_, _, _, e, _⟩ := r.node q
    rw [hl] at e; cases e
  have knew : kd ∉ (p ++ s).map G.kd := fun q => by
    obtain ⟨g, hg, e⟩ := List.mem_map.mp q
    have := r.keys g hg
    rw [e, hkd] at this; cases this
  have domno : ∀ {x : Addr}, σ x = none → x ∉ foot I D (p ++ s) := fun {x} e q => r.dom q e
  have perm : ∀ (x : Addr) (u v : List Addr), (u ++ x :: v).Perm (x :: (u ++ v)) := fun x u v => List.perm_middle
  refine ⟨bb, da, db, fa, fb, ka, kb, old A1, A2, old A3, b1, by rw [Hp.set_ne _ _ dal]; exact old A3, c1, c2, c3, by rw [Hp.set_ne _ _ dba, Hp.set_ne _ _ dbl]; exact old B3, d1, d2,
    ⟨r.rb.frame fun x hx => ?_, r.hroot, r.hlinks, ⟨_, _, nodes h1, fun x hx => ?_, ?_⟩, ⟨_, notSlots k0 (by intro _ _ _ q; cases q)⟩, fun x hx => ?_, ⟨_, notSlots k1 (by intro _ _ _ q; cases q)⟩, ?_, ?_, fun x hx => ?_, r.lap, fun x hx => ?_⟩, ⟨fun x y hx e => ?_, fun x hx => ?_⟩,
    (notSlots k1 (by intro _ _ _ q; cases q)).trans k1.symm, o.new hl, o.new hdl, o.new hkd⟩
  · cases e : σ x with
    | none => exact absurd e (r.rb.dom hx)
    | some y => exact notSlots e fun L d f q => RB.slotNot r.rb (q ▸ e) hx
  · rcases cases' x hx with rfl | hx
    · exact ⟨_, t, 0, Hp.set_self _ _ _, q2, q3, by rw [upd_ne _ (Ne.symm al), upd_self]; rfl, by rw [upd_self]; rfl, by rw [Hp.set_ne _ _ (Ne.symm n1)]; exact d2⟩
    · exact nodes (h2 x hx)
  · rw [show (D.rt :: (p ++ (⟨l, dl, kd, c, []⟩ : G) :: s).map G.l) ++ [D.rt] = P ++ a :: l :: bb :: S from by
      rw [List.map_append, List.map_cons, ← List.cons_append, ha, List.append_assoc, List.append_assoc]; show P ++ a :: l :: (s.map G.l ++ [D.rt]) = _; rw [e2]]
    exact h3.ins nt fun q => lnew (hring _ q)
  · rcases cases' x hx with rfl | hx
    · show _ = some (AO.dict [])
      rw [Hp.set_ne _ _ kl, Hp.set_ne _ _ kb', Hp.set_ne _ _ ka', Hp.set_ne _ _ kl]; exact q5
    · exact notSlots (r.keys x hx) (by intro _ _ _ q; cases q)
  · rw [List.map_append, List.map_cons, ← List.cons_append]
    refine (perm _ _ _).nodup_iff.mpr (List.nodup_cons.mpr ⟨?_, ?_⟩)
    · have := lnew; rwa [List.map_append, ← List.cons_append] at this
    · have := r.nd; rwa [List.map_append, ← List.cons_append] at this
  · rw [List.map_append, List.map_cons]
    refine (perm _ _ _).nodup_iff.mpr (List.nodup_cons.mpr ⟨?_, ?_⟩)
    · have := knew; rwa [List.map_append] at this
    · have := r.ndk; rwa [List.map_append] at this
  · rcases cases' x hx with rfl | hx
    · exact fun q => domno hkd (mem_foot.mpr (by
        rcases List.mem_cons.mp q with q | q
        · exact .inr (.inl q)
        · exact .inr (.inr (.inr (.inr (.inr (.inr q)))))))
    · exact r.kap x hx
  · rcases cases' x hx with rfl | hx
    · exact List.nodup_nil
    · exact r.kn x hx
  · rw [Hp.set_ne _ _ (fun e' : x = l => by rw [e', hl] at e; cases e), Hp.set_ne _ _ (fun e' : x = bb => hno bb hbm (e' ▸ hx)), Hp.set_ne _ _ (fun e' : x = a => hno a ham (e' ▸ hx)), Hp.set_ne _ _ (fun e' : x = l => by rw [e', hl] at e; cases e)]
    exact old e
  · cases e : σ x with
    | none => exact absurd e hx
    | some y =>
      have e1 : x ≠ l := fun e' => by rw [e', hl] at e; cases e
      by_cases e2 : x = bb
      · rw [Hp.set_ne _ _ e1, e2, Hp.set_self]; simp
      · by_cases e3 : x = a
        · rw [Hp.set_ne _ _ e1, Hp.set_ne _ _ e2, e3, Hp.set_self]; simp
        · rw [Hp.set_ne _ _ e1, Hp.set_ne _ _ e2, Hp.set_ne _ _ e3, Hp.set_ne _ _ e1, old e]; simp
end Lfu
end Mine
namespace Mine
set_option pp.deepTerms false
set_option pp.deepTerms.threshold 8
local macro_rules | `(tactic| walk_at "lk") => `(tactic| first | assumption | rfl | (simp only [mset, ofs_inj, String.reduceEq, ↓reduceIte]; first | assumption | rfl) | (simp only [mset, ofs_inj, String.reduceEq, ↓reduceIte]; done))
local macro_rules | `(tactic| walk_at "nm") => `(tactic| (refine v_local (by assumption) (by assumption) (kof (by assumption) (by kernel_rfl)) (by walk_at "lk") ?_ (by kernel_rfl)))
local macro_rules | `(tactic| walk_at "st") => `(tactic| (refine v_store (by assumption) (by assumption) (kof (by assumption) (by kernel_rfl)) fun s r => ?_))
local macro_rules | `(tactic| walk_at "v") => `(tactic| first
  | with_reducible refine wpAny_Return_some ?_
  | with_reducible refine wpAny_Return_none ?_
  | ((with_reducible refine wpAny_Compare1 (hm := ?hm) ?_); (case hm => with_unfolding_all rfl))
  | ((with_reducible refine wpAny_isTrue_Compare1 (hm := ?hm) ?_); (case hm => with_unfolding_all rfl))
  | ((with_reducible refine wpAny_Assign_Name (hs := ?hs) ?_); (case hs => rfl))
  | ((with_reducible refine wpAny_Assign_Subscript (hs := ?hs) ?_); (case hs => rfl))
  | ((with_reducible refine plainObj_wpAny_Assign_Attribute (hs := ?hs) ?_); (case hs => rfl))
  | ((with_reducible refine wpAny_Assign_two (he := ?he) (hw := ?hw) ?_); (case he => rfl); (case hw => rfl))
  | with_reducible refine assign_Attr ?_
  | with_reducible refine assign_Subs ?_
  | with_reducible refine wpAny_assign_Name ?_
  | with_reducible refine Attribute_name ?_
  | with_reducible refine Attribute_any_ ?_
  | with_reducible refine Subscript_ ?_
  | with_reducible refine wpAny_If ?_
  | with_reducible refine wpAny_BinOp ?_
  | with_reducible refine wpAny_UnaryOp ?_
  | with_reducible refine wpAny_Delete ?_
  | with_reducible refine wpAny_deleteEach_cons ?_
  | with_reducible refine wpAny_deleteEach_nil ?_
  | with_reducible refine wpAny_delete_Subscript ?_
  | with_reducible refine wpAny_AugAssign_AttributeAny ?_
  | with_reducible refine wpAny_execs_nil ?_
  | with_reducible refine wpAny_Constant_none ?_
  | with_reducible refine spliced_none ?_
  | with_reducible refine ea_none ?_
  | ((with_reducible refine ea_plain ?_ ?he); (case he => rfl))
  | ((with_reducible refine' methodCall_KW (pl := ?pl) (he := ?he) ?_); (case he => rfl))
  | walk_at "nm"
  | ((with_reducible refine spliced_more ?_ (he := ?he)); (case he => rfl)))
local macro_rules | `(tactic| walk_at "vv") => `(tactic| repeat walk_at "v")
namespace Lfu
variable {prog : Program} {w : World} {K : Frag} {n : Nat} {σ : Hp}

def rest (g : G) (k : Int) : List G := if g.ks.filter (· ≠ k) = [] then [] else [{ g with ks := g.ks.filter (· ≠ k) }]

theorem tot_append (p s : List G) : tot (p ++ s) = tot p + tot s := by simp [tot]
theorem tot_cons (g : G) (s : List G) : tot (g :: s) = g.ks.length + tot s := by simp [tot]
theorem tot_rest {g : G} {k : Int} (hn : g.ks.Nodup) (hk : k ∈ g.ks) : tot (rest g k) + 1 = g.ks.length := by
  have e : (g.ks.filter (· ≠ k)).length + 1 = g.ks.length := by
    have h1 := hn.erase_eq_filter k
    have h2 := List.length_erase_of_mem hk
    have h3 : (g.ks.filter (· ≠ k)) = g.ks.erase k := by rw [h1]; congr 1; funext x; by_cases hx : x = k <;> simp [hx]
    have := List.length_pos_of_mem hk
    rw [h3, h2]; omega
  unfold rest
  split
  next h => rw [h] at e; simpa [tot] using e
  next h => simpa [tot] using e
theorem mem_rest {g x : G} {k : Int} (h : x ∈ rest g k) : x.l = g.l ∧ x.kd = g.kd ∧ x.ks = g.ks.filter (· ≠ k) := by
  unfold rest at h
  split at h
  · cases h
  · simp only [List.mem_singleton] at h; subst h; exact ⟨rfl, rfl, rfl⟩

theorem Links.len {D : Ad} {gs : List G} {kvs : List (Int × Value)} (hl : kvs.length ≤ tot gs) (hs : tot gs ≤ 100) : kvs.length ≤ 1000 := by omega

theorem Links.one {D : Ad} {gs : List G} {kvs : List (Int × Value)} (h : ∀ k v, aget kvs k = some v ↔ ∃ g ∈ gs, k ∈ g.ks ∧ v = .ref g.l) (nd : (gs.map G.l).Nodup) {k : Int} {g g' : G} (hg : g ∈ gs) (hg' : g' ∈ gs) (hk : k ∈ g.ks) (hk' : k ∈ g'.ks) : g.l = g'.l := by
  have h1 := (h k _).mpr ⟨g, hg, hk, rfl⟩
  have h2 := (h k _).mpr ⟨g', hg', hk', rfl⟩
  rw [h1] at h2
  exact Value.ref.inj (Option.some.inj h2)
end Lfu
end Mine
namespace Mine
set_option pp.deepTerms false
set_option pp.deepTerms.threshold 8
local macro_rules | `(tactic| walk_at "lk") => `(tactic| first | assumption | rfl | (simp only [mset, ofs_inj, String.reduceEq, ↓reduceIte]; first | assumption | rfl) | (simp only [mset, ofs_inj, String.reduceEq, ↓reduceIte]; done))
local macro_rules | `(tactic| walk_at "nm") => `(tactic| (refine v_local (by assumption) (by assumption) (kof (by assumption) (by kernel_rfl)) (by walk_at "lk") ?_ (by kernel_rfl)))
local macro_rules | `(tactic| walk_at "st") => `(tactic| (refine v_store (by assumption) (by assumption) (kof (by assumption) (by kernel_rfl)) fun s r => ?_))
local macro_rules | `(tactic| walk_at "v") => `(tactic| first
  | with_reducible refine wpAny_Return_some ?_
  | with_reducible refine wpAny_Return_none ?_
  | ((with_reducible refine wpAny_Compare1 (hm := ?hm) ?_); (case hm => with_unfolding_all rfl))
  | ((with_reducible refine wpAny_isTrue_Compare1 (hm := ?hm) ?_); (case hm => with_unfolding_all rfl))
  | ((with_reducible refine wpAny_Assign_Name (hs := ?hs) ?_); (case hs => rfl))
  | ((with_reducible refine wpAny_Assign_Subscript (hs := ?hs) ?_); (case hs => rfl))
  | ((with_reducible refine plainObj_wpAny_Assign_Attribute (hs := ?hs) ?_); (case hs => rfl))
  | ((with_reducible refine wpAny_Assign_two (he := ?he) (hw := ?hw) ?_); (case he => rfl); (case hw => rfl))
  | with_reducible refine assign_Attr ?_
  | with_reducible refine assign_Subs ?_
  | with_reducible refine wpAny_assign_Name ?_
  | with_reducible refine Attribute_name ?_
  | with_reducible refine Attribute_any_ ?_
  | with_reducible refine Subscript_ ?_
  | with_reducible refine wpAny_If ?_
  | with_reducible refine wpAny_BinOp ?_
  | with_reducible refine wpAny_UnaryOp ?_
  | with_reducible refine wpAny_Delete ?_
  | with_reducible refine wpAny_deleteEach_cons ?_
  | with_reducible refine wpAny_deleteEach_nil ?_
  | with_reducible refine wpAny_delete_Subscript ?_
  | with_reducible refine wpAny_AugAssign_AttributeAny ?_
  | with_reducible refine wpAny_execs_nil ?_
  | with_reducible refine wpAny_Constant_none ?_
  | with_reducible refine spliced_none ?_
  | with_reducible refine ea_none ?_
  | ((with_reducible refine ea_plain ?_ ?he); (case he => rfl))
  | ((with_reducible refine' methodCall_KW (pl := ?pl) (he := ?he) ?_); (case he => rfl))
  | walk_at "nm"
  | ((with_reducible refine spliced_more ?_ (he := ?he)); (case he => rfl)))
local macro_rules | `(tactic| walk_at "vv") => `(tactic| repeat walk_at "v")
namespace Lfu
variable {prog : Program} {w : World} {K : Frag} {n : Nat} {σ : Hp}

def moved (p : List G) (g g' : G) (s : List G) (k : Int) : List G := p ++ rest g k ++ { g' with ks := g'.ks ++ [k] } :: s

theorem touch_rest {C : Addr} (F : KF K C) {I : Info} {D : Ad} {mm : Nm} {b : B} {p z : List G} {g g' : G} {k : Int} {tk : Tok} {O : Addr → Prop} (hC : I.C = C) (hL : D.L = F.L)
    {A : Around} {base : Heap} {os : OsState} {env : Env} {fs : List (Env × Nm)} {m : Nm} {s₀ : Shared} {X : String → Hp → Prop} (hsc : env.scope = fnScope s_tch)
    (a : Act K none (n + 1) A base (env :: fs.map (·.1))) (r : R prog w base os ((env, m) :: fs) σ s₀) (lr : LR I D σ mm b (p ++ g :: g' :: z)) (ln : Links D σ (p ++ g :: g' :: z)) (sh : tot (p ++ g :: g' :: z) ≤ 100)
    (o : Out σ O (foot I D (p ++ g :: g' :: z))) (hk : k ∈ g.ks) (h1 : m "self" = some (.ref I.x)) (h2 : m "key" = some (.int k tk)) (h3 : m "link" = some (.ref g.l)) (h4 : m "curr" = some (.ref g'.l)) :
    wpAny (model prog w) A (execs ((fnBody s_tch).drop 3) env) (fun fl s' => ∃ m' σ', R prog w base os ((env, m') :: fs) σ' s' ∧ (match fl with | .ret v => v | _ => .none) = .none ∧ LC I D σ' mm b (moved p g g' z k) ∧ Keep O σ σ')
      (Lv prog w A base os env fs X) s₀ := by
  subst hC
  obtain ⟨j, hj, hd⟩ := lr.rb.ns
  obtain ⟨nx, pv, nr, nn, lk⟩ := lr.ring
  obtain ⟨kvs, hkv, hlk, hll⟩ := ln
  have mg : g ∈ p ++ g :: g' :: z := by simp
  have mg' : g' ∈ p ++ g :: g' :: z := by simp
  have ndl : ((p ++ g :: g' :: z).map G.l).Nodup := (List.nodup_cons.mp lr.nd).2
  have hne : g.l ≠ g'.l := by
    rw [List.map_append, List.map_cons, List.map_cons] at ndl
    have := (List.nodup_append.mp ndl).2.1
    exact fun e => (List.nodup_cons.mp this).1 (by rw [e]; exact .head _)
  have hk' : k ∉ g'.ks := fun q => hne (Links.one (D := D) hlk ndl mg mg' hk q)
  have hkd : g.kd ≠ g'.kd := by
    have := lr.ndk
    rw [List.map_append, List.map_cons, List.map_cons] at this
    have := (List.nodup_append.mp this).2.1
    exact fun e => (List.nodup_cons.mp this).1 (by rw [e]; exact .head _)
  obtain ⟨f, t, kk, q1, q2, q3, q4, q5, q6⟩ := nn g mg
  obtain ⟨f', t', kk', p1, p2, p3, p4, p5, p6⟩ := nn g' mg'
  have len1 : g.ks.length ≤ 100 := by rw [tot_append, tot_cons, tot_cons] at sh; omega
  have len2 : g'.ks.length ≤ 100 := by rw [tot_append, tot_cons, tot_cons] at sh; omega
  have nod : (g'.ks ++ [k]).Nodup := List.nodup_append.mpr ⟨lr.kn g' mg', by simp, fun x hx y hy => by simp only [List.mem_singleton] at hy; subst hy; exact fun e => hk' (e ▸ hx)⟩
  -- curr.keys[key] = None
  refine wpAny_execs_cons ?_
  walk_at "vv"
  refine v_slot a r (hL ▸ p1) p6 F.lf.sk p3 rfl F.lf.get F.lf.cls fun s r => ?_
  walk_at "vv"
  refine v_dset r (lr.keys g' mg') (by rw [List.length_map]; omega) fun s r => ?_
  rw [stored_eq, keys_put_new hk'] at r
  have lr1 := LR.setKeys (p := p ++ [g]) (s := z) (g := g') (ks := g'.ks ++ [k]) (by rw [List.append_assoc]; exact lr) nod
  rw [List.append_assoc] at lr1
  -- del link.keys[key]
  have n1 := Node.setDict (y := .dict ((g'.ks ++ [k]).map fun k => (k, .none))) (nn g mg) (lr.keys g' mg')
  obtain ⟨f1, t1, kk1, q1, q2, q3, q4, q5, q6⟩ := n1
  refine wpAny_execs_cons ?_
  walk_at "vv"
  refine v_slot a r (hL ▸ q1) q6 F.lf.sk q3 rfl F.lf.get F.lf.cls fun s r => ?_
  walk_at "vv"
  have hgk : (σ.set g'.kd (.dict ((g'.ks ++ [k]).map fun k => (k, .none)))) g.kd = some (.dict (g.ks.map fun k => (k, .none))) := by rw [Hp.set_ne _ _ hkd]; exact lr.keys g mg
  refine v_ddel r hgk (by rw [List.length_map]; omega) (by rw [valueAt_eq, keys_get, if_pos hk]; rfl) fun s r => ?_
  rw [without_eq, keys_del] at r
  have lr2 := LR.setKeys (p := p) (s := { g' with ks := g'.ks ++ [k] } :: z) (g := g) (ks := g.ks.filter (· ≠ k)) lr1 ((lr.kn g mg).filter _)
  walk_at "vv"
  -- if not link.keys
  have mg2 : (⟨g.l, g.dl, g.kd, g.c, g.ks.filter (· ≠ k)⟩ : G) ∈ p ++ (⟨g.l, g.dl, g.kd, g.c, g.ks.filter (· ≠ k)⟩ : G) :: { g' with ks := g'.ks ++ [k] } :: z := by simp
  obtain ⟨nx2, pv2, nr2, nn2, lk2⟩ := lr2.ring
  obtain ⟨f2, t2, kk2, q1, q2, q3, q4, q5, q6⟩ := nn2 _ mg2
  have kk0 : Keep O σ ((σ.set g'.kd (.dict ((g'.ks ++ [k]).map fun k => (k, .none)))).set g.kd (.dict ((g.ks.filter (· ≠ k)).map fun k => (k, .none)))) :=
    (Keep.set (o.no _ (mem_foot.mpr (.inr (.inr (.inr (.inr (.inr (.inl ⟨g', mg', .inr (.inr rfl)⟩))))))))).trans (Keep.set (o.no _ (mem_foot.mpr (.inr (.inr (.inr (.inr (.inr (.inl ⟨g, mg, .inr (.inr rfl)⟩)))))))))
  have lk0 : ((σ.set g'.kd (.dict ((g'.ks ++ [k]).map fun k => (k, .none)))).set g.kd (.dict ((g.ks.filter (· ≠ k)).map fun k => (k, .none)))) D.lk = some (.dict kvs) := by
    rw [Hp.set_ne _ _ (fun e : D.lk = g.kd => lr.kap g mg (by rw [← e]; exact .head _)), Hp.set_ne _ _ (fun e : D.lk = g'.kd => lr.kap g' mg' (by rw [← e]; exact .head _))]; exact hkv
  -- the end, with or without the emptied link
  have fin : ∀ {σ' : Hp} {s' : Shared}, R prog w base os ((env, m) :: fs) σ' s' → LR I D σ' mm b (moved p g g' z k) → Keep O σ σ' → σ' D.lk = some (.dict kvs) →
      wpAny (model prog w) A (execs ((fnBody s_tch).drop 6) env) (fun fl s' => ∃ m' σ', R prog w base os ((env, m') :: fs) σ' s' ∧ (match fl with | .ret v => v | _ => .none) = .none ∧ LC I D σ' mm b (moved p g g' z k) ∧ Keep O σ σ')
      (Lv prog w A base os env fs X) s' := fun {σ' s'} r lr' kp hlk' => by
    obtain ⟨j', hj', hd'⟩ := lr'.rb.ns
    refine wpAny_execs_cons ?_
    walk_at "vv"
    refine v_own a r lr'.rb.inst hd' lr'.hlinks rfl F.ok.get F.ok.dict F.flk (by kernel_rfl) fun s r => ?_
    walk_at "vv"
    refine v_dset r hlk' (by omega) fun s r => ?_
    rw [stored_eq] at r
    walk_at "vv"
    have hold : (aget kvs k).isSome = true := by rw [(hlk k _).mpr ⟨g, mg, hk, rfl⟩]; rfl
    have htot : tot (moved p g g' z k) = tot (p ++ g :: g' :: z) := by
      have := tot_rest (lr.kn g mg) hk
      unfold moved
      simp only [tot_append, tot_cons, List.length_append, List.length_singleton]
      omega
    refine ⟨_, _, r, rfl, ⟨lr'.setLinks, ⟨_, Hp.set_self _ _ _, fun x v => ?_, ?_⟩, by rw [htot]; exact sh⟩, kp.trans (Keep.set (o.no _ (mem_foot.mpr (.inr (.inl rfl)))))⟩
    · rw [aget_aput]
      have uniq : ∀ {y : G}, y ∈ p ++ g :: g' :: z → k ∈ y.ks → y.l = g.l := fun hy hky => Links.one (D := D) hlk ndl hy mg hky hk
      by_cases hx : x = k
      · rw [if_pos hx]
        subst hx
        constructor
        · intro e; cases e
          exact ⟨{ g' with ks := g'.ks ++ [x] }, by unfold moved; simp, by simp, rfl⟩
        · rintro ⟨y, hy, hky, rfl⟩
          unfold moved at hy
          simp only [List.append_assoc, List.mem_append, List.mem_cons] at hy
          rcases hy with hy | hy | rfl | hy
          · exact absurd (uniq (by simp [hy]) hky) (fun e => by
              rw [List.map_append] at ndl
              exact (List.nodup_append.mp ndl).2.2 _ (List.mem_map_of_mem hy) _ (.head _) e)
          · have := (mem_rest hy).2.2
            rw [this] at hky
            simp at hky
          · rfl
          · exact absurd (uniq (by simp [hy]) hky) (fun e => by
              rw [List.map_append, List.map_cons, List.map_cons] at ndl
              have := (List.nodup_append.mp ndl).2.1
              exact (List.nodup_cons.mp this).1 (by rw [← e]; exact .tail _ (List.mem_map_of_mem hy)))
      · rw [if_neg hx, hlk]
        unfold moved
        simp only [List.append_assoc, List.mem_append, List.mem_cons]
        constructor
        · rintro ⟨y, hy | rfl | rfl | hy, hky, e⟩
          · exact ⟨y, .inl hy, hky, e⟩
          · have hf : x ∈ y.ks.filter (· ≠ k) := by simp [hky, hx]
            refine ⟨{ y with ks := y.ks.filter (· ≠ k) }, .inr (.inl ?_), hf, e⟩
            unfold rest
            rw [if_neg fun q => by rw [q] at hf; cases hf]
            exact .head _
          · exact ⟨_, .inr (.inr (.inl rfl)), by simp [hky], e⟩
          · exact ⟨y, .inr (.inr (.inr hy)), hky, e⟩
        · rintro ⟨y, hy | hy | rfl | hy, hky, e⟩
          · exact ⟨y, .inl hy, hky, e⟩
          · obtain ⟨u1, u2, u3⟩ := mem_rest hy
            rw [u3] at hky
            simp only [List.mem_filter] at hky
            exact ⟨g, .inr (.inl rfl), hky.1, by rw [← u1]; exact e⟩
          · simp only [List.mem_append, List.mem_singleton, hx, or_false] at hky
            exact ⟨g', .inr (.inr (.inl rfl)), hky, e⟩
          · exact ⟨y, .inr (.inr (.inr hy)), hky, e⟩
    · rw [htot]
      unfold aput
      rw [if_pos]
      · rw [List.length_map]; exact hll
      · unfold aget at hold
        rw [Option.isSome_map, List.find?_isSome] at hold
        exact List.any_eq_true.mpr hold
  refine wpAny_execs_cons ?_
  walk_at "v"
  refine isTrue_not ?_
  refine isTrue_plain ?_
  walk_at "vv"
  refine v_slot a r (hL ▸ q1) q6 F.lf.sk q3 rfl F.lf.get F.lf.cls fun s r => ?_
  refine v_dtruth r (Hp.set_self _ _ _) (by rw [List.length_map]; have := List.length_filter_le (fun x => decide (x ≠ k)) g.ks; omega) fun s r => ?_
  by_cases he : g.ks.filter (· ≠ k) = []
  · rw [he]
    simp only [List.map_nil, List.isEmpty_nil, Bool.not_true, Bool.not_false, if_true]
    refine wpAny_execs_cons ?_
    refine wpAny_Expr_any ?_ (by unfold interactive; rw [a.head.2.1]; rfl) (by rfl)
    walk_at "vv"
    refine v_methS a r (hL ▸ q1) q6 F.lf.get F.lf.nunl F.lf.iunl ?_
    refine v_callK (os := os) a F.lf.kunl rfl (ea_none ⟨⟨_, _, r⟩, ?_⟩)
    have o2 : Out _ O (foot I D (p ++ (⟨g.l, g.dl, g.kd, g.c, g.ks.filter (· ≠ k)⟩ : G) :: { g' with ks := g'.ks ++ [k] } :: z)) := (o.keep kk0).sub fun x hx => by
      simp only [List.mem_append, List.mem_cons] at hx ⊢
      rcases hx with hx | rfl | rfl | hx
      · exact ⟨x, .inl hx, rfl, rfl, rfl⟩
      · exact ⟨g, .inr (.inl rfl), rfl, rfl, rfl⟩
      · exact ⟨g', .inr (.inr (.inl rfl)), rfl, rfl, rfl⟩
      · exact ⟨x, .inr (.inr (.inr hx)), rfl, rfl, rfl⟩
    refine v_told a r (X := fun _ _ => False) (LR.unlink (n := 0) (I := I) (mm := mm) (b := b) (p := p) (s := { g' with ks := g'.ks ++ [k] } :: z) (g := ⟨g.l, g.dl, g.kd, g.c, g.ks.filter (· ≠ k)⟩) (O := O) F.lf hL lr2 o2) (by omega) (fun _ σ' s' ⟨_, lr3, kp3, hk3⟩ r => ?_) fun _ _ _ _ x _ => x.elim
    walk_at "vv"
    have hm : moved p g g' z k = p ++ { g' with ks := g'.ks ++ [k] } :: z := by unfold moved rest; rw [if_pos he]; simp
    exact fin r (by rw [hm]; exact lr3) (kk0.trans kp3) (hk3.trans lk0)
  · rw [show ((g.ks.filter (· ≠ k)).map fun k => (k, Value.none)).isEmpty = false from by
      cases hq : g.ks.filter (· ≠ k) with
      | nil => exact absurd hq he
      | cons _ _ => rfl]
    simp only [Bool.not_false, Bool.not_true, Bool.false_eq_true, if_false]
    walk_at "vv"
    have hm : moved p g g' z k = p ++ (⟨g.l, g.dl, g.kd, g.c, g.ks.filter (· ≠ k)⟩ : G) :: { g' with ks := g'.ks ++ [k] } :: z := by unfold moved rest; rw [if_neg he]; simp
    exact fin r (by rw [hm]; exact lr2) kk0 lk0
end Lfu
end Mine
namespace Mine
set_option pp.deepTerms false
set_option pp.deepTerms.threshold 8
local macro_rules | `(tactic| walk_at "lk") => `(tactic| first | assumption | rfl | (simp only [mset, ofs_inj, String.reduceEq, ↓reduceIte]; first | assumption | rfl) | (simp only [mset, ofs_inj, String.reduceEq, ↓reduceIte]; done))
local macro_rules | `(tactic| walk_at "nm") => `(tactic| (refine v_local (by assumption) (by assumption) (kof (by assumption) (by kernel_rfl)) (by walk_at "lk") ?_ (by kernel_rfl)))
local macro_rules | `(tactic| walk_at "st") => `(tactic| (refine v_store (by assumption) (by assumption) (kof (by assumption) (by kernel_rfl)) fun s r => ?_))
local macro_rules | `(tactic| walk_at "v") => `(tactic| first
  | with_reducible refine wpAny_Return_some ?_
  | with_reducible refine wpAny_Return_none ?_
  | ((with_reducible refine wpAny_Compare1 (hm := ?hm) ?_); (case hm => with_unfolding_all rfl))
  | ((with_reducible refine wpAny_isTrue_Compare1 (hm := ?hm) ?_); (case hm => with_unfolding_all rfl))
  | ((with_reducible refine wpAny_Assign_Name (hs := ?hs) ?_); (case hs => rfl))
  | ((with_reducible refine wpAny_Assign_Subscript (hs := ?hs) ?_); (case hs => rfl))
  | ((with_reducible refine plainObj_wpAny_Assign_Attribute (hs := ?hs) ?_); (case hs => rfl))
  | ((with_reducible refine wpAny_Assign_two (he := ?he) (hw := ?hw) ?_); (case he => rfl); (case hw => rfl))
  | with_reducible refine assign_Attr ?_
  | with_reducible refine assign_Subs ?_
  | with_reducible refine wpAny_assign_Name ?_
  | with_reducible refine Attribute_name ?_
  | with_reducible refine Attribute_any_ ?_
  | with_reducible refine Subscript_ ?_
  | with_reducible refine wpAny_If ?_
  | with_reducible refine wpAny_BinOp ?_
  | with_reducible refine wpAny_UnaryOp ?_
  | with_reducible refine wpAny_Delete ?_
  | with_reducible refine wpAny_deleteEach_cons ?_
  | with_reducible refine wpAny_deleteEach_nil ?_
  | with_reducible refine wpAny_delete_Subscript ?_
  | with_reducible refine wpAny_AugAssign_AttributeAny ?_
  | with_reducible refine wpAny_execs_nil ?_
  | with_reducible refine wpAny_Constant_none ?_
  | with_reducible refine spliced_none ?_
  | with_reducible refine ea_none ?_
  | ((with_reducible refine ea_plain ?_ ?he); (case he => rfl))
  | ((with_reducible refine' methodCall_KW (pl := ?pl) (he := ?he) ?_); (case he => rfl))
  | walk_at "nm"
  | ((with_reducible refine spliced_more ?_ (he := ?he)); (case he => rfl)))
local macro_rules | `(tactic| walk_at "vv") => `(tactic| repeat walk_at "v")
namespace Lfu
variable {prog : Program} {w : World} {K : Frag} {n : Nat} {σ : Hp}

abbrev cks (g : G) : Int × List Int := (g.c, g.ks)
def bumpAt (c : Int) (ks : List Int) (z : List (Int × List Int)) (k : Int) : List (Int × List Int) :=
  match z with
  | (c', ks') :: z' => if c' = c + 1 then (if ks.filter (· ≠ k) = [] then [] else [(c, ks.filter (· ≠ k))]) ++ (c', ks' ++ [k]) :: z'
      else if ks.length = 1 then (c + 1, ks) :: z else (if ks.filter (· ≠ k) = [] then [] else [(c, ks.filter (· ≠ k))]) ++ (c + 1, [k]) :: z
  | [] => if ks.length = 1 then [(c + 1, ks)] else (if ks.filter (· ≠ k) = [] then [] else [(c, ks.filter (· ≠ k))]) ++ [(c + 1, [k])]

theorem rest_cks (g : G) (k : Int) : (rest g k).map cks = if g.ks.filter (· ≠ k) = [] then [] else [(g.c, g.ks.filter (· ≠ k))] := by
  unfold rest; split <;> rfl

theorem LR.setCount {I : Info} {D : Ad} {mm : Nm} {b : B} {p z : List G} {g : G} {f : Nat → Option Value} {c : Int} {t : Tok} (r : LR I D σ mm b (p ++ g :: z)) (hf : σ g.l = some (.slots D.L g.dl f)) :
    LR I D (σ.set g.l (.slots D.L g.dl fun j => if j = 0 then some (.int c t) else f j)) mm b (p ++ { g with c := c } :: z) := by
  obtain ⟨nx, pv, h1, h2, h3⟩ := r.ring
  obtain ⟨kvs1, k1⟩ := r.lkd
  obtain ⟨kvs0, k0⟩ := r.kd0
  have hg : g ∈ p ++ g :: z := by simp
  have hmem : ∀ x ∈ p ++ { g with c := c } :: z, x = { g with c := c } ∨ (x ∈ p ++ g :: z ∧ x.l ≠ g.l) := fun x hx => by
    have hn := (List.nodup_cons.mp r.nd).2
    rw [List.map_append, List.map_cons] at hn
    obtain ⟨n1, n2, n3⟩ := List.nodup_append.mp hn
    simp only [List.mem_append, List.mem_cons] at hx ⊢
    rcases hx with hx | hx | hx
    · exact .inr ⟨.inl hx, n3 _ (List.mem_map_of_mem hx) _ (.head _)⟩
    · exact .inl hx
    · exact .inr ⟨.inr (.inr hx), fun e => (List.nodup_cons.mp n2).1 (e ▸ List.mem_map_of_mem hx)⟩
  have notSlots : ∀ {x : Addr} {y : AO}, σ x = some y → (∀ L d f, y ≠ .slots L d f) → (σ.set g.l (.slots D.L g.dl fun j => if j = 0 then some (.int c t) else f j)) x = some y := fun {x y} hx hy => by
    rw [Hp.set_ne _ _ (fun e : x = g.l => by rw [e, hf] at hx; exact hy _ _ _ (Option.some.inj hx).symm)]; exact hx
  have others : ∀ {l dl kd : Addr} {c' : Int}, l ≠ g.l → Node D.L σ nx pv l dl kd c' → Node D.L (σ.set g.l (.slots D.L g.dl fun j => if j = 0 then some (.int c t) else f j)) nx pv l dl kd c' := fun hne h => by
    obtain ⟨f', _, _, p1, _, _, _, _, p6⟩ := id h
    exact h.frame (Hp.set_ne _ _ hne) ((notSlots p6 (by intro _ _ _ q; cases q)).trans p6.symm)
  have rne : D.rt ≠ g.l := fun e => (List.nodup_cons.mp r.nd).1 (by rw [e]; exact List.mem_map_of_mem hg)
  refine ⟨RB.setSlots r.rb hf, r.hroot, r.hlinks, ⟨nx, pv, others rne h1, fun x hx => ?_, by simpa using h3⟩, ⟨_, notSlots k0 (by intro _ _ _ q; cases q)⟩, fun x hx => ?_, ⟨_, notSlots k1 (by intro _ _ _ q; cases q)⟩,
    by simpa using r.nd, by simpa using r.ndk, fun x hx => ?_, r.lap, fun x hx => ?_⟩
  · rcases hmem x hx with rfl | ⟨h, hne⟩
    · obtain ⟨f', t', k', p1, p2, p3, p4, p5, p6⟩ := h2 g hg
      rw [hf] at p1; cases p1
      exact ⟨_, t, k', Hp.set_self _ _ _, rfl, p3, p4, p5, notSlots p6 (by intro _ _ _ q; cases q)⟩
    · exact others hne (h2 x h)
  · rcases hmem x hx with rfl | ⟨h, _⟩
    · exact notSlots (r.keys g hg) (by intro _ _ _ q; cases q)
    · exact notSlots (r.keys x h) (by intro _ _ _ q; cases q)
  · rcases hmem x hx with rfl | ⟨h, _⟩
    · exact r.kap g hg
    · exact r.kap x h
  · rcases hmem x hx with rfl | ⟨h, _⟩
    · exact r.kn g hg
    · exact r.kn x h
end Lfu
end Mine
namespace Mine
set_option pp.deepTerms false
set_option pp.deepTerms.threshold 8
local macro_rules | `(tactic| walk_at "lk") => `(tactic| first | assumption | rfl | (simp only [mset, ofs_inj, String.reduceEq, ↓reduceIte]; first | assumption | rfl) | (simp only [mset, ofs_inj, String.reduceEq, ↓reduceIte]; done))
local macro_rules | `(tactic| walk_at "nm") => `(tactic| (refine v_local (by assumption) (by assumption) (kof (by assumption) (by kernel_rfl)) (by walk_at "lk") ?_ (by kernel_rfl)))
local macro_rules | `(tactic| walk_at "st") => `(tactic| (refine v_store (by assumption) (by assumption) (kof (by assumption) (by kernel_rfl)) fun s r => ?_))
local macro_rules | `(tactic| walk_at "v") => `(tactic| first
  | with_reducible refine wpAny_Return_some ?_
  | with_reducible refine wpAny_Return_none ?_
  | ((with_reducible refine wpAny_Compare1 (hm := ?hm) ?_); (case hm => with_unfolding_all rfl))
  | ((with_reducible refine wpAny_isTrue_Compare1 (hm := ?hm) ?_); (case hm => with_unfolding_all rfl))
  | ((with_reducible refine wpAny_Assign_Name (hs := ?hs) ?_); (case hs => rfl))
  | ((with_reducible refine wpAny_Assign_Subscript (hs := ?hs) ?_); (case hs => rfl))
  | ((with_reducible refine plainObj_wpAny_Assign_Attribute (hs := ?hs) ?_); (case hs => rfl))
  | ((with_reducible refine wpAny_Assign_two (he := ?he) (hw := ?hw) ?_); (case he => rfl); (case hw => rfl))
  | with_reducible refine assign_Attr ?_
  | with_reducible refine assign_Subs ?_
  | with_reducible refine wpAny_assign_Name ?_
  | with_reducible refine Attribute_name ?_
  | with_reducible refine Attribute_any_ ?_
  | with_reducible refine Subscript_ ?_
  | with_reducible refine wpAny_If ?_
  | with_reducible refine wpAny_BinOp ?_
  | with_reducible refine wpAny_UnaryOp ?_
  | with_reducible refine wpAny_Delete ?_
  | with_reducible refine wpAny_deleteEach_cons ?_
  | with_reducible refine wpAny_deleteEach_nil ?_
  | with_reducible refine wpAny_delete_Subscript ?_
  | with_reducible refine wpAny_AugAssign_AttributeAny ?_
  | with_reducible refine wpAny_execs_nil ?_
  | with_reducible refine wpAny_Constant_none ?_
  | with_reducible refine spliced_none ?_
  | with_reducible refine ea_none ?_
  | ((with_reducible refine ea_plain ?_ ?he); (case he => rfl))
  | ((with_reducible refine' methodCall_KW (pl := ?pl) (he := ?he) ?_); (case he => rfl))
  | walk_at "nm"
  | ((with_reducible refine spliced_more ?_ (he := ?he)); (case he => rfl)))
local macro_rules | `(tactic| walk_at "vv") => `(tactic| repeat walk_at "v")
namespace Lfu
variable {prog : Program} {w : World} {K : Frag} {n : Nat} {σ : Hp}

theorem call_touch {C : Addr} (F : KF K C) {I : Info} {D : Ad} {mm : Nm} {b : B} {p z : List G} {g : G} {k : Int} {tk : Tok} {O : Addr → Prop} {X : String → Hp → Prop} (hC : I.C = C) (hL : D.L = F.L)
    (lc : LC I D σ mm b (p ++ g :: z)) (o : Out σ O (foot I D (p ++ g :: z))) (hk : k ∈ g.ks) (hpos : 1 ≤ g.c) :
    CallT prog w K none (n + 4) (.ref F.tch) ⟨[.ref I.x, .int k tk], []⟩ σ (fun r σ' => r = .none ∧ ∃ gs', LC I D σ' mm b gs' ∧ gs'.map cks = p.map cks ++ bumpAt g.c g.ks (z.map cks) k ∧ Keep O σ σ' ∧ Out σ' O (foot I D gs')) X := by
  subst hC
  refine CallT.of (binds := [("self", .ref I.x), ("key", .int k tk)]) F.htch (fun _ _ _ _ _ _ _ _ _ _ => BindsTo.of_eq rfl) (by kernel_rfl) (by kernel_rfl) (by kernel_rfl) ?_
  intro A base os env fs s hsc hcl a r
  have h1 : (fun y => [(("self" : Str), Value.ref I.x), ("key", .int k tk)].reverse.lookup y) "self" = some (.ref I.x) := by kernel_rfl
  have h2 : (fun y => [(("self" : Str), Value.ref I.x), ("key", .int k tk)].reverse.lookup y) "key" = some (.int k tk) := by kernel_rfl
  obtain ⟨lr, ln, sh⟩ := lc
  obtain ⟨j, hj, hd⟩ := lr.rb.ns
  obtain ⟨nx, pv, nr, nn, lk⟩ := lr.ring
  obtain ⟨kvs, hkv, hlk, hll⟩ := id ln
  have mg : g ∈ p ++ g :: z := by simp
  obtain ⟨P, a0, bb, S, e1, e2, e3, e4⟩ := split_ring (p := p) (s := z) (g := g) (rt := D.rt)
  have enx : nx g.l = bb := by rw [e3] at lk; exact (Lk.split.mp lk).2.2.2.1
  obtain ⟨f, t, kk, q1, q2, q3, q4, q5, q6⟩ := nn g mg
  -- the link behind
  obtain ⟨dbb, kdb, cB, hB, hz⟩ : ∃ dbb kdb cB, Node D.L σ nx pv bb dbb kdb cB ∧ (match z with | [] => cB = 0 | g' :: _ => bb = g'.l ∧ cB = g'.c) := by
    cases z with
    | nil => cases e2; exact ⟨_, _, _, nr, rfl⟩
    | cons g' z' => cases e2; exact ⟨_, _, _, nn g' (by simp), rfl, rfl⟩
  obtain ⟨fb, tb, kb, p1, p2, p3, p4, p5, p6⟩ := hB
  have sh' := sh
  rw [tot_append, tot_cons] at sh'
  refine wpAny_execs_cons ?_
  walk_at "vv"
  refine v_own a r lr.rb.inst hd lr.hlinks rfl F.ok.get F.ok.dict F.flk (by kernel_rfl) fun s r => ?_
  walk_at "vv"
  refine v_ditem r hkv ((hlk k _).mpr ⟨g, mg, hk, rfl⟩) (fun s r => ?_) (by with_unfolding_all rfl)
  walk_at "st"; rename_i s r
  refine wpAny_execs_cons ?_
  walk_at "vv"
  refine v_slot a r (hL ▸ q1) q6 F.lf.sn q4 rfl F.lf.get F.lf.cls fun s r => ?_
  walk_at "st"; rename_i s r
  rw [enx] at r
  refine wpAny_execs_cons ?_
  walk_at "vv"
  refine v_slot a r (hL ▸ p1) p6 F.lf.sc p2 rfl F.lf.get F.lf.cls fun s r => ?_
  walk_at "vv"
  refine v_slot a r (hL ▸ q1) q6 F.lf.sc q2 rfl F.lf.get F.lf.cls fun s r => ?_
  refine v_int r fun s t1 r => ?_
  refine v_add r fun s t2 r => ?_
  refine v_ne ?_
  refine v_truth ?_
  by_cases hcc : cB = g.c + 1
  · -- the next link takes the key
    rw [hcc]
    simp only [bne_self_eq_false, Bool.false_eq_true, if_false]
    cases z with
    | nil => have hz : cB = 0 := hz; omega
    | cons g' z' =>
      obtain ⟨hz1, hz2⟩ : bb = g'.l ∧ cB = g'.c := hz
      subst hz1
      refine wpAny_execs_nil ?_
      refine wpAny_mono (touch_rest (n := 0) (tk := tk) F rfl hL hsc (a.lower (by omega)) r lr ln sh o hk (by walk_at "lk") (by walk_at "lk") (by walk_at "lk") (by walk_at "lk")) (fun fl s' ⟨m', σ', r', q0, lc', kp⟩ => ⟨m', σ', r', q0, moved p g g' z' k, lc', ?_, kp, (o.keep kp).sub ?_⟩) fun _ _ x => x
      · unfold moved bumpAt
        simp only [List.map_append, List.map_cons, rest_cks, List.append_assoc]
        rw [if_pos (show g'.c = g.c + 1 by omega)]
      · intro x hx
        unfold moved at hx
        simp only [List.append_assoc, List.mem_append, List.mem_cons] at hx ⊢
        rcases hx with hx | hx | rfl | hx
        · exact ⟨x, .inl hx, rfl, rfl, rfl⟩
        · unfold rest at hx
          split at hx
          · cases hx
          · simp only [List.mem_singleton] at hx; subst hx; exact ⟨g, .inr (.inl rfl), rfl, rfl, rfl⟩
        · exact ⟨g', .inr (.inr (.inl rfl)), rfl, rfl, rfl⟩
        · exact ⟨x, .inr (.inr (.inr hx)), rfl, rfl, rfl⟩
  · have hcb : (cB != g.c + 1) = true := by simpa using hcc
    rw [hcb, if_pos rfl]
    have hb1 : bumpAt g.c g.ks (z.map cks) k = if g.ks.length = 1 then (g.c + 1, g.ks) :: z.map cks else (rest g k).map cks ++ (g.c + 1, [k]) :: z.map cks := by
      rw [rest_cks]
      cases z with
      | nil => rfl
      | cons g' z' =>
        obtain ⟨hz1, hz2⟩ : bb = g'.l ∧ cB = g'.c := hz
        rw [List.map_cons]
        show (if g'.c = g.c + 1 then _ else _) = _
        rw [if_neg (show ¬ g'.c = g.c + 1 by omega)]
    refine wpAny_execs_cons ?_
    walk_at "v"
    refine wpAny_isTrue_Compare1 (hm := by with_unfolding_all rfl) ?_
    refine wpAny_Call_ofName ?_
    refine v_builtin a r (kof hsc (by kernel_rfl)) F.hlen (v := .builtin "len") (by kernel_rfl) (by decide +kernel) ?_ (by kernel_rfl)
    refine v_callB rfl ?_
    walk_at "vv"
    refine v_slot a r (hL ▸ q1) q6 F.lf.sk q3 rfl F.lf.get F.lf.cls fun s r => ?_
    walk_at "vv"
    refine v_dlen r (lr.keys g mg) (by rw [List.length_map]; omega) fun s t3 r => ?_
    refine v_int r fun s t4 r => ?_
    refine v_eq ?_
    refine v_truth ?_
    rw [List.length_map]
    by_cases hone : g.ks.length = 1
    · rw [hone, if_pos (show (((1 : Nat) : Int) == 1) = true from rfl)]
      refine wpAny_execs_cons ?_
      walk_at "vv"
      refine v_slot a r (hL ▸ q1) q6 F.lf.sc q2 rfl F.lf.get F.lf.cls fun s r => ?_
      refine v_int r fun s t5 r => ?_
      refine v_iadd r fun s t6 r => ?_
      refine v_setslot a r (hL ▸ q1) q6 F.lf.sc F.lf.seta F.lf.over fun s r => ?_
      have lr2 := LR.setCount (c := g.c + 1) (t := t6) lr q1
      rw [hL] at lr2
      have ho : ¬ O g.l := o.no _ (mem_foot.mpr (.inr (.inr (.inr (.inr (.inr (.inl ⟨g, mg, .inl rfl⟩)))))))
      have kp := Keep.set (Out := O) (σ := σ) (x := .slots F.L g.dl fun j => if j = 0 then some (.int (g.c + 1) t6) else f j) ho
      walk_at "vv"
      refine wpAny_execs_cons ?_
      walk_at "vv"
      refine ⟨_, _, r, rfl, p ++ { g with c := g.c + 1 } :: z, ⟨lr2, ?_, by rw [tot_append, tot_cons]; exact sh'⟩, ?_, kp, (o.keep kp).sub ?_⟩
      · refine ⟨kvs, by rw [Hp.set_ne _ _ (fun e : D.lk = g.l => by rw [e, q1] at hkv; cases hkv)]; exact hkv, fun x v => ?_, by rw [tot_append, tot_cons] at hll ⊢; exact hll⟩
        rw [hlk]
        simp only [List.mem_append, List.mem_cons]
        constructor
        · rintro ⟨y, hy | rfl | hy, h⟩
          · exact ⟨y, .inl hy, h⟩
          · exact ⟨_, .inr (.inl rfl), h⟩
          · exact ⟨y, .inr (.inr hy), h⟩
        · rintro ⟨y, hy | rfl | hy, h⟩
          · exact ⟨y, .inl hy, h⟩
          · exact ⟨g, .inr (.inl rfl), h⟩
          · exact ⟨y, .inr (.inr hy), h⟩
      · rw [hb1, if_pos hone, List.map_append, List.map_cons]
      · intro x hx
        simp only [List.mem_append, List.mem_cons] at hx ⊢
        rcases hx with hx | rfl | hx
        · exact ⟨x, .inl hx, rfl, rfl, rfl⟩
        · exact ⟨g, .inr (.inl rfl), rfl, rfl, rfl⟩
        · exact ⟨x, .inr (.inr hx), rfl, rfl, rfl⟩
    · rw [if_neg (by simp only [beq_iff_eq]; omega)]
      refine wpAny_execs_nil ?_
      refine wpAny_execs_cons ?_
      walk_at "vv"
      refine v_global a r (kof hsc (by kernel_rfl)) F.hLFU ?_ (by kernel_rfl)
      obtain ⟨mc, hg1, hg2, hg3⟩ := F.nLink
      refine v_clsmeth a r hg1 hg2 hg3 rfl fun s r => ?_
      refine v_callK (os := os) a F.lf.kL rfl ?_
      walk_at "vv"
      refine v_slot a r (hL ▸ q1) q6 F.lf.sc q2 rfl F.lf.get F.lf.cls fun s r => ?_
      refine v_int r fun s t5 r => ?_
      refine v_add r fun s t6 r => ?_
      walk_at "vv"
      refine ⟨⟨_, _, r⟩, ?_⟩
      refine v_told a r (X := fun _ _ => False) (call_link (n := 0) F.lf) (by omega) (fun v' σ1 s' ⟨l, dl, kd, f1, u0, u1, u2, u3, u4, u5, u6, u7, u8, u9, u10, u11, u12⟩ r => ?_) fun _ _ _ _ x _ => x.elim
      subst u0
      obtain ⟨bb', da, db, fa, fb', ka, kb', ins⟩ := LR.insert (p := p ++ [g]) (s := z) (a := g.l) (P := D.rt :: p.map G.l) (by rw [List.append_assoc]; exact lr) (by rw [List.append_assoc]; exact o) u1 u2 u3 u4 u5 u6 (hL ▸ u7) u8 u9 u10 u11 u12 (by simp)
      have h_a1 := ins.a1; have h_a3 := ins.a3; have h_b1 := ins.b1; have h_b2 := ins.b2; have h_c1 := ins.c1; have h_c2 := ins.c2; have h_c3 := ins.c3; have h_c4 := ins.c4; have h_d1 := ins.d1; have h_d2 := ins.d2
      rw [hL] at h_a1 h_b1 h_b2 h_c1 h_c2 h_c3 h_c4 h_d1 h_d2
      walk_at "st"; rename_i s r
      refine wpAny_execs_cons ?_
      walk_at "vv"
      refine v_slot a r (h_a1) h_a3 F.lf.sn ins.a2 rfl F.lf.get F.lf.cls fun s r => ?_
      walk_at "vv"
      refine v_setslot a r u7 u10 F.lf.sn F.lf.seta F.lf.over fun s r => ?_
      refine wpAny_execs_cons ?_
      walk_at "vv"
      refine v_setslot a r (h_b1) h_b2 F.lf.sn F.lf.seta F.lf.over fun s r => ?_
      walk_at "vv"
      refine v_slot a r (h_c1) (h_c2) F.lf.sn rfl rfl F.lf.get F.lf.cls fun s r => ?_
      refine v_setslot a r (h_c3) (h_c4) F.lf.sp F.lf.seta F.lf.over fun s r => ?_
      refine wpAny_execs_cons ?_
      walk_at "vv"
      refine v_setslot a r (h_d1) (h_d2) F.lf.sp F.lf.seta F.lf.over fun s r => ?_
      walk_at "vv"
      have h_lr := ins.lr; have h_kp := ins.keep; have h_lk := ins.lk
      rw [hL] at h_lr h_kp h_lk
      rw [List.append_assoc] at h_lr
      have o5 := (o.keep h_kp).mono (fp' := foot I D (p ++ ([g] ++ (⟨l, dl, kd, g.c + 1, []⟩ : G) :: z))) fun x hx => by
        rcases mem_foot.mp hx with q | q | q | q | q | ⟨y, hy, q⟩ | q
        · exact .inl (mem_foot.mpr (.inl q))
        · exact .inl (mem_foot.mpr (.inr (.inl q)))
        · exact .inl (mem_foot.mpr (.inr (.inr (.inl q))))
        · exact .inl (mem_foot.mpr (.inr (.inr (.inr (.inl q)))))
        · exact .inl (mem_foot.mpr (.inr (.inr (.inr (.inr (.inl q))))))
        · simp only [List.mem_append, List.mem_cons, List.not_mem_nil, or_false] at hy
          rcases hy with hy | hy | hy | hy
          · exact .inl (mem_foot.mpr (.inr (.inr (.inr (.inr (.inr (.inl ⟨y, by simp [hy], q⟩)))))))
          · exact .inl (mem_foot.mpr (.inr (.inr (.inr (.inr (.inr (.inl ⟨y, by simp [hy], q⟩)))))))
          · subst hy
            rcases q with q | q | q
            · exact .inr (q ▸ ins.fresh.1)
            · exact .inr (q ▸ ins.fresh.2.1)
            · exact .inr (q ▸ ins.fresh.2.2)
          · exact .inl (mem_foot.mpr (.inr (.inr (.inr (.inr (.inr (.inl ⟨y, by simp [hy], q⟩)))))))
        · exact .inl (mem_foot.mpr (.inr (.inr (.inr (.inr (.inr (.inr q)))))))
      have ln5 : Links D _ (p ++ g :: (⟨l, dl, kd, g.c + 1, []⟩ : G) :: z) := ⟨kvs, h_lk.trans hkv, fun x v => by
        rw [hlk]
        simp only [List.mem_append, List.mem_cons]
        constructor
        · rintro ⟨y, hy | rfl | hy, h⟩
          · exact ⟨y, .inl hy, h⟩
          · exact ⟨_, .inr (.inl rfl), h⟩
          · exact ⟨y, .inr (.inr (.inr hy)), h⟩
        · rintro ⟨y, hy | rfl | rfl | hy, h⟩
          · exact ⟨y, .inl hy, h⟩
          · exact ⟨_, .inr (.inl rfl), h⟩
          · cases h.1
          · exact ⟨y, .inr (.inr hy), h⟩, by rw [tot_append, tot_cons] at hll ⊢; rw [tot_cons]; simpa using hll⟩
      refine wpAny_mono (touch_rest (n := 0) (tk := tk) F rfl hL hsc (a.lower (by omega)) r h_lr ln5 (by rw [tot_append, tot_cons, tot_cons]; simpa using sh') o5 hk (by walk_at "lk") (by walk_at "lk") (by walk_at "lk") (by walk_at "lk"))
        (fun fl s' ⟨m', σ', r', q0, lc', kp⟩ => ⟨m', σ', r', q0, moved p g _ z k, lc', ?_, h_kp.trans kp, (o5.keep kp).sub ?_⟩) fun _ _ x => x
      · rw [hb1, if_neg hone]
        unfold moved
        simp only [List.map_append, List.map_cons, List.append_assoc, List.nil_append]
      · intro x hx
        unfold moved at hx
        simp only [List.append_assoc, List.mem_append, List.mem_cons, List.not_mem_nil, or_false, false_or] at hx ⊢
        rcases hx with hx | hx | rfl | hx
        · exact ⟨x, .inl hx, rfl, rfl, rfl⟩
        · unfold rest at hx
          split at hx
          · cases hx
          · simp only [List.mem_singleton] at hx; subst hx; exact ⟨g, .inr (.inl rfl), rfl, rfl, rfl⟩
        · exact ⟨_, .inr (.inr (.inl rfl)), rfl, rfl, rfl⟩
        · exact ⟨x, .inr (.inr (.inr hx)), rfl, rfl, rfl⟩
end Lfu
end Mine
namespace Mine
set_option pp.deepTerms false
set_option pp.deepTerms.threshold 8
local macro_rules | `(tactic| walk_at "lk") => `(tactic| first | assumption | rfl | (simp only [mset, ofs_inj, String.reduceEq, ↓reduceIte]; first | assumption | rfl) | (simp only [mset, ofs_inj, String.reduceEq, ↓reduceIte]; done))
local macro_rules | `(tactic| walk_at "nm") => `(tactic| (refine v_local (by assumption) (by assumption) (kof (by assumption) (by kernel_rfl)) (by walk_at "lk") ?_ (by kernel_rfl)))
local macro_rules | `(tactic| walk_at "st") => `(tactic| (refine v_store (by assumption) (by assumption) (kof (by assumption) (by kernel_rfl)) fun s r => ?_))
local macro_rules | `(tactic| walk_at "v") => `(tactic| first
  | with_reducible refine wpAny_Return_some ?_
  | with_reducible refine wpAny_Return_none ?_
  | ((with_reducible refine wpAny_Compare1 (hm := ?hm) ?_); (case hm => with_unfolding_all rfl))
  | ((with_reducible refine wpAny_isTrue_Compare1 (hm := ?hm) ?_); (case hm => with_unfolding_all rfl))
  | ((with_reducible refine wpAny_Assign_Name (hs := ?hs) ?_); (case hs => rfl))
  | ((with_reducible refine wpAny_Assign_Subscript (hs := ?hs) ?_); (case hs => rfl))
  | ((with_reducible refine plainObj_wpAny_Assign_Attribute (hs := ?hs) ?_); (case hs => rfl))
  | ((with_reducible refine wpAny_Assign_two (he := ?he) (hw := ?hw) ?_); (case he => rfl); (case hw => rfl))
  | with_reducible refine assign_Attr ?_
  | with_reducible refine assign_Subs ?_
  | with_reducible refine wpAny_assign_Name ?_
  | with_reducible refine Attribute_name ?_
  | with_reducible refine Attribute_any_ ?_
  | with_reducible refine Subscript_ ?_
  | with_reducible refine wpAny_If ?_
  | with_reducible refine wpAny_BinOp ?_
  | with_reducible refine wpAny_UnaryOp ?_
  | with_reducible refine wpAny_Delete ?_
  | with_reducible refine wpAny_deleteEach_cons ?_
  | with_reducible refine wpAny_deleteEach_nil ?_
  | with_reducible refine wpAny_delete_Subscript ?_
  | with_reducible refine wpAny_AugAssign_AttributeAny ?_
  | with_reducible refine wpAny_execs_nil ?_
  | with_reducible refine wpAny_Constant_none ?_
  | with_reducible refine spliced_none ?_
  | with_reducible refine ea_none ?_
  | ((with_reducible refine ea_plain ?_ ?he); (case he => rfl))
  | ((with_reducible refine' methodCall_KW (pl := ?pl) (he := ?he) ?_); (case he => rfl))
  | walk_at "nm"
  | ((with_reducible refine spliced_more ?_ (he := ?he)); (case he => rfl)))
local macro_rules | `(tactic| walk_at "vv") => `(tactic| repeat walk_at "v")
namespace Lfu
variable {prog : Program} {w : World} {K : Frag} {H : Option Value} {n : Nat} {σ : Hp}

theorem adel_len {kvs : List (Int × Value)} {k : Int} (h : (aget kvs k).isSome = true) : (adel kvs k).length < kvs.length := by
  unfold adel
  unfold aget at h
  rw [Option.isSome_map, List.find?_isSome] at h
  obtain ⟨e, he, hk⟩ := h
  refine List.length_filter_lt_length_iff_exists.mpr ⟨e, he, ?_⟩
  simpa using hk

theorem LC.frame {I : Info} {D : Ad} {σ σ' : Hp} {mm : Nm} {b : B} {gs : List G} (lc : LC I D σ mm b gs) (h : ∀ a ∈ foot I D gs, σ' a = σ a) : LC I D σ' mm b gs := by
  obtain ⟨r, ln, sh⟩ := lc
  obtain ⟨nx, pv, h1, h2, h3⟩ := r.ring
  obtain ⟨kvs1, k1⟩ := r.lkd
  obtain ⟨kvs0, k0⟩ := r.kd0
  obtain ⟨kvs, l1, l2⟩ := ln
  have hlk := h D.lk (mem_foot.mpr (.inr (.inl rfl)))
  refine ⟨⟨r.rb.frame fun a ha => h a (mem_foot.mpr ?_), r.hroot, r.hlinks, ⟨nx, pv, h1.frame (h _ (mem_foot.mpr (.inr (.inr (.inl rfl))))) (h _ (mem_foot.mpr (.inr (.inr (.inr (.inl rfl)))))),
      fun g hg => (h2 g hg).frame (h _ (mem_foot.mpr (.inr (.inr (.inr (.inr (.inr (.inl ⟨g, hg, .inl rfl⟩)))))))) (h _ (mem_foot.mpr (.inr (.inr (.inr (.inr (.inr (.inl ⟨g, hg, .inr (.inl rfl)⟩)))))))), h3⟩,
    ⟨_, (h _ (mem_foot.mpr (.inr (.inr (.inr (.inr (.inl rfl))))))).trans k0⟩, fun g hg => (h _ (mem_foot.mpr (.inr (.inr (.inr (.inr (.inr (.inl ⟨g, hg, .inr (.inr rfl)⟩)))))))).trans (r.keys g hg), ⟨_, hlk.trans k1⟩, r.nd, r.ndk, r.kap, r.lap, r.kn⟩,
    ⟨kvs, hlk.trans l1, l2⟩, sh⟩
  rcases List.mem_cons.mp ha with ha | ha
  · exact .inl ha
  · exact .inr (.inr (.inr (.inr (.inr (.inr ha)))))
theorem LC.addNew {I : Info} {D : Ad} {σ : Hp} {mm : Nm} {b : B} {gs : List G} {t : Addr} {x : AO} (lc : LC I D σ mm b gs) (h : σ t = none) : LC I D (σ.set t x) mm b gs :=
  lc.frame fun a ha => Hp.set_ne _ _ fun e => lc.lr.dom (e ▸ ha) h

theorem call_del {C : Addr} (F : KF K C) {I : Info} {D : Ad} {mm : Nm} {b : B} {p z : List G} {g : G} {k : Int} {tk : Tok} {O : Addr → Prop} {X : String → Hp → Prop} (hC : I.C = C) (hL : D.L = F.L)
    (lc : LC I D σ mm b (p ++ g :: z)) (o : Out σ O (foot I D (p ++ g :: z))) (hk : k ∈ g.ks) (hin : (aget b.data k).isSome = true) (hins : I.ds ≠ none → (aget b.size k).isSome = true) :
    CallT prog w K H (n + 2) (.ref F.del) ⟨[.ref I.x, .int k tk], []⟩ σ (fun v σ' => v = .none ∧ ∃ mm', LC I D σ' mm' (b.del I k) (p ++ rest g k ++ z) ∧ Keep O σ σ' ∧ Out σ' O (foot I D (p ++ rest g k ++ z))) X := by
  subst hC
  refine CallT.of (binds := [("self", .ref I.x), ("key", .int k tk), ("cache_delitem", .ref F.cdel)]) F.hdel (fun _ _ _ _ _ _ _ _ s X => BindsTo.ofT F.htdel X rfl rfl rfl) (by kernel_rfl) (by kernel_rfl) (by kernel_rfl) ?_
  intro A base os env fs s hsc hcl a r
  have h1 : (fun y => [(("self" : Str), Value.ref I.x), ("key", .int k tk), ("cache_delitem", .ref F.cdel)].reverse.lookup y) "self" = some (.ref I.x) := by kernel_rfl
  have h2 : (fun y => [(("self" : Str), Value.ref I.x), ("key", .int k tk), ("cache_delitem", .ref F.cdel)].reverse.lookup y) "key" = some (.int k tk) := by kernel_rfl
  have h3 : (fun y => [(("self" : Str), Value.ref I.x), ("key", .int k tk), ("cache_delitem", .ref F.cdel)].reverse.lookup y) "cache_delitem" = some (.ref F.cdel) := by kernel_rfl
  obtain ⟨lr0, ln0, sh⟩ := lc
  refine wpAny_execs_cons ?_
  refine wpAny_Expr_any ?_ (by unfold interactive; rw [a.head.2.1]; rfl) (by rfl)
  refine wpAny_Call_ofName ?_
  walk_at "nm"
  refine v_callK (os := os) a F.kcdel rfl ?_
  walk_at "vv"
  refine ⟨⟨_, _, r⟩, ?_⟩
  refine v_told a r (X := fun _ _ => False) (Mine.call_del (n := 0) (tk := tk) F.hcdel F.ok lr0.rb hin hins) (by omega) (fun v σ1 s' ⟨_, hb⟩ r => ?_) fun _ _ _ _ x _ => x.elim
  have ln := ln0.base lr0.lap hb.choose_spec.2.2
  obtain ⟨mm', lr, kp⟩ := lr0.base o hb
  obtain ⟨j, hj, hd⟩ := lr.rb.ns
  obtain ⟨kvs, hkv, hlk, hll⟩ := ln
  have mg : g ∈ p ++ g :: z := by simp
  have ndl : ((p ++ g :: z).map G.l).Nodup := (List.nodup_cons.mp lr.nd).2
  have o1 := o.keep kp
  have sh' := sh
  rw [tot_append, tot_cons] at sh'
  refine wpAny_execs_cons ?_
  walk_at "vv"
  refine v_own a r lr.rb.inst hd lr.hlinks rfl F.ok.get F.ok.dict F.flk (by kernel_rfl) fun s r => ?_
  refine v_dmeth r hkv PySem.F.slot_dict_pop (by with_unfolding_all rfl) ?_
  refine v_callB rfl ?_
  walk_at "vv"
  refine v_dpop r hkv (by omega) ((hlk k _).mpr ⟨g, mg, hk, rfl⟩) fun s r => ?_
  rw [without_eq] at r
  walk_at "st"; rename_i s r
  have lr2 := lr.setLinks (kvs := adel kvs k)
  obtain ⟨nx, pv, nr, nn, lk⟩ := lr2.ring
  obtain ⟨f, t, kk, q1, q2, q3, q4, q5, q6⟩ := nn g mg
  have kp2 := kp.trans (Keep.set (Out := O) (x := .dict (adel kvs k)) (o.no _ (mem_foot.mpr (.inr (.inl rfl)))))
  refine wpAny_execs_cons ?_
  walk_at "vv"
  refine v_slot a r (hL ▸ q1) q6 F.lf.sk q3 rfl F.lf.get F.lf.cls fun s r => ?_
  walk_at "vv"
  refine v_ddel r (lr2.keys g mg) (by rw [List.length_map]; omega) (by rw [valueAt_eq, keys_get, if_pos hk]; rfl) fun s r => ?_
  rw [without_eq, keys_del] at r
  have lr3 := LR.setKeys (p := p) (s := z) (g := g) (ks := g.ks.filter (· ≠ k)) lr2 ((lr2.kn g mg).filter _)
  have kp3 := kp2.trans (Keep.set (Out := O) (x := .dict ((g.ks.filter (· ≠ k)).map fun k => (k, .none))) (o.no _ (mem_foot.mpr (.inr (.inr (.inr (.inr (.inr (.inl ⟨g, mg, .inr (.inr rfl)⟩)))))))))
  walk_at "vv"
  have lk0 : ((σ1.set D.lk (.dict (adel kvs k))).set g.kd (.dict ((g.ks.filter (· ≠ k)).map fun k => (k, .none)))) D.lk = some (.dict (adel kvs k)) := by
    rw [Hp.set_ne _ _ (fun e : D.lk = g.kd => lr.kap g mg (by rw [← e]; exact .head _))]; exact Hp.set_self _ _ _
  have hold : (aget kvs k).isSome = true := by rw [(hlk k _).mpr ⟨g, mg, hk, rfl⟩]; rfl
  have hsub : ∀ x ∈ p ++ rest g k ++ z, ∃ y ∈ p ++ g :: z, y.l = x.l ∧ y.dl = x.dl ∧ y.kd = x.kd := fun x hx => by
    simp only [List.append_assoc, List.mem_append, List.mem_cons] at hx ⊢
    rcases hx with hx | hx | hx
    · exact ⟨x, .inl hx, rfl, rfl, rfl⟩
    · unfold rest at hx
      split at hx
      · cases hx
      · simp only [List.mem_singleton] at hx; subst hx; exact ⟨g, .inr (.inl rfl), rfl, rfl, rfl⟩
    · exact ⟨x, .inr (.inr hx), rfl, rfl, rfl⟩
  have htot : tot (p ++ rest g k ++ z) + 1 = tot (p ++ g :: z) := by
    have := tot_rest (lr.kn g mg) hk
    simp only [tot_append, tot_cons]
    omega
  have fin : ∀ {σ' : Hp}, LR I D σ' mm' (b.del I k) (p ++ rest g k ++ z) → Keep O σ σ' → σ' D.lk = some (.dict (adel kvs k)) → LC I D σ' mm' (b.del I k) (p ++ rest g k ++ z) ∧ Keep O σ σ' ∧ Out σ' O (foot I D (p ++ rest g k ++ z)) := fun {σ'} lr' kp' hlk' => by
    refine ⟨⟨lr', ⟨_, hlk', fun x v => ?_, by have := adel_len hold; omega⟩, by omega⟩, kp', (o.keep kp').sub hsub⟩
    have uniq : ∀ {y : G}, y ∈ p ++ g :: z → k ∈ y.ks → y.l = g.l := fun hy hky => Links.one (D := D) hlk ndl hy mg hky hk
    rw [aget_adel]
    simp only [List.append_assoc, List.mem_append]
    by_cases hx : x = k
    · rw [if_pos hx]
      subst hx
      constructor
      · intro e; cases e
      · rintro ⟨y, hy | hy | hy, hky, _⟩
        · exact absurd (uniq (by simp [hy]) hky) (fun e => by
            rw [List.map_append] at ndl
            exact (List.nodup_append.mp ndl).2.2 _ (List.mem_map_of_mem hy) _ (.head _) e)
        · rw [(mem_rest hy).2.2] at hky; simp at hky
        · exact absurd (uniq (by simp [hy]) hky) (fun e => by
            rw [List.map_append, List.map_cons] at ndl
            have := (List.nodup_append.mp ndl).2.1
            exact (List.nodup_cons.mp this).1 (by rw [← e]; exact List.mem_map_of_mem hy))
    · rw [if_neg hx, hlk]
      simp only [List.mem_append, List.mem_cons]
      constructor
      · rintro ⟨y, hy | rfl | hy, hky, e⟩
        · exact ⟨y, .inl hy, hky, e⟩
        · have hf : x ∈ y.ks.filter (· ≠ k) := by simp [hky, hx]
          refine ⟨{ y with ks := y.ks.filter (· ≠ k) }, .inr (.inl ?_), hf, e⟩
          unfold rest
          rw [if_neg fun q => by rw [q] at hf; cases hf]
          exact .head _
        · exact ⟨y, .inr (.inr hy), hky, e⟩
      · rintro ⟨y, hy | hy | hy, hky, e⟩
        · exact ⟨y, .inl hy, hky, e⟩
        · obtain ⟨u1, u2, u3⟩ := mem_rest hy
          rw [u3] at hky
          simp only [List.mem_filter] at hky
          exact ⟨g, .inr (.inl rfl), hky.1, by rw [← u1]; exact e⟩
        · exact ⟨y, .inr (.inr hy), hky, e⟩
  obtain ⟨nx3, pv3, nr3, nn3, lk3⟩ := lr3.ring
  have mg3 : (⟨g.l, g.dl, g.kd, g.c, g.ks.filter (· ≠ k)⟩ : G) ∈ p ++ (⟨g.l, g.dl, g.kd, g.c, g.ks.filter (· ≠ k)⟩ : G) :: z := by simp
  obtain ⟨f3, t3, kk3, q1, q2, q3, q4, q5, q6⟩ := nn3 _ mg3
  refine wpAny_execs_cons ?_
  walk_at "v"
  refine isTrue_not ?_
  refine isTrue_plain ?_
  walk_at "vv"
  refine v_slot a r (hL ▸ q1) q6 F.lf.sk q3 rfl F.lf.get F.lf.cls fun s r => ?_
  refine v_dtruth r (Hp.set_self _ _ _) (by rw [List.length_map]; have := List.length_filter_le (fun x => decide (x ≠ k)) g.ks; omega) fun s r => ?_
  by_cases he : g.ks.filter (· ≠ k) = []
  · rw [he]
    simp only [List.map_nil, List.isEmpty_nil, Bool.not_true, Bool.not_false, if_true]
    refine wpAny_execs_cons ?_
    refine wpAny_Expr_any ?_ (by unfold interactive; rw [a.head.2.1]; rfl) (by rfl)
    walk_at "vv"
    refine v_methS a r (hL ▸ q1) q6 F.lf.get F.lf.nunl F.lf.iunl ?_
    refine v_callK (os := os) a F.lf.kunl rfl (ea_none ⟨⟨_, _, r⟩, ?_⟩)
    have o2 : Out _ O (foot I D (p ++ (⟨g.l, g.dl, g.kd, g.c, g.ks.filter (· ≠ k)⟩ : G) :: z)) := (o.keep kp3).sub fun x hx => by
      simp only [List.mem_append, List.mem_cons] at hx ⊢
      rcases hx with hx | rfl | hx
      · exact ⟨x, .inl hx, rfl, rfl, rfl⟩
      · exact ⟨g, .inr (.inl rfl), rfl, rfl, rfl⟩
      · exact ⟨x, .inr (.inr hx), rfl, rfl, rfl⟩
    refine v_told a r (X := fun _ _ => False) (LR.unlink (n := 0) (I := I) (mm := mm') (b := b.del I k) (p := p) (s := z) (g := ⟨g.l, g.dl, g.kd, g.c, g.ks.filter (· ≠ k)⟩) (O := O) F.lf hL lr3 o2) (by omega) (fun _ σ' s' ⟨_, lr4, kp4, hk4⟩ r => ?_) fun _ _ _ _ x _ => x.elim
    walk_at "vv"
    have hm : p ++ rest g k ++ z = p ++ z := by unfold rest; rw [if_pos he]; simp
    exact ⟨_, _, r, rfl, mm', fin (by rw [hm]; exact lr4) (kp3.trans kp4) (hk4.trans lk0)⟩
  · rw [show ((g.ks.filter (· ≠ k)).map fun k => (k, Value.none)).isEmpty = false from by
      cases hq : g.ks.filter (· ≠ k) with
      | nil => exact absurd hq he
      | cons _ _ => rfl]
    simp only [Bool.not_false, Bool.not_true, Bool.false_eq_true, if_false]
    walk_at "vv"
    have hm : p ++ rest g k ++ z = p ++ (⟨g.l, g.dl, g.kd, g.c, g.ks.filter (· ≠ k)⟩ : G) :: z := by unfold rest; rw [if_neg he]; simp
    exact ⟨_, _, r, rfl, mm', fin (by rw [hm]; exact lr3) kp3 lk0⟩
end Lfu
end Mine
namespace Mine
set_option pp.deepTerms false
set_option pp.deepTerms.threshold 8
local macro_rules | `(tactic| walk_at "lk") => `(tactic| first | assumption | rfl | (simp only [mset, ofs_inj, String.reduceEq, ↓reduceIte]; first | assumption | rfl) | (simp only [mset, ofs_inj, String.reduceEq, ↓reduceIte]; done))
local macro_rules | `(tactic| walk_at "nm") => `(tactic| (refine v_local (by assumption) (by assumption) (kof (by assumption) (by kernel_rfl)) (by walk_at "lk") ?_ (by kernel_rfl)))
local macro_rules | `(tactic| walk_at "st") => `(tactic| (refine v_store (by assumption) (by assumption) (kof (by assumption) (by kernel_rfl)) fun s r => ?_))
local macro_rules | `(tactic| walk_at "v") => `(tactic| first
  | with_reducible refine wpAny_Return_some ?_
  | with_reducible refine wpAny_Return_none ?_
  | ((with_reducible refine wpAny_Compare1 (hm := ?hm) ?_); (case hm => with_unfolding_all rfl))
  | ((with_reducible refine wpAny_isTrue_Compare1 (hm := ?hm) ?_); (case hm => with_unfolding_all rfl))
  | ((with_reducible refine wpAny_Assign_Name (hs := ?hs) ?_); (case hs => rfl))
  | ((with_reducible refine wpAny_Assign_Subscript (hs := ?hs) ?_); (case hs => rfl))
  | ((with_reducible refine plainObj_wpAny_Assign_Attribute (hs := ?hs) ?_); (case hs => rfl))
  | ((with_reducible refine wpAny_Assign_two (he := ?he) (hw := ?hw) ?_); (case he => rfl); (case hw => rfl))
  | with_reducible refine assign_Attr ?_
  | with_reducible refine assign_Subs ?_
  | with_reducible refine wpAny_assign_Name ?_
  | with_reducible refine Attribute_name ?_
  | with_reducible refine Attribute_any_ ?_
  | with_reducible refine Subscript_ ?_
  | with_reducible refine wpAny_If ?_
  | with_reducible refine wpAny_BinOp ?_
  | with_reducible refine wpAny_UnaryOp ?_
  | with_reducible refine wpAny_Delete ?_
  | with_reducible refine wpAny_deleteEach_cons ?_
  | with_reducible refine wpAny_deleteEach_nil ?_
  | with_reducible refine wpAny_delete_Subscript ?_
  | with_reducible refine wpAny_AugAssign_AttributeAny ?_
  | with_reducible refine wpAny_execs_nil ?_
  | with_reducible refine wpAny_Constant_none ?_
  | with_reducible refine spliced_none ?_
  | with_reducible refine ea_none ?_
  | ((with_reducible refine ea_plain ?_ ?he); (case he => rfl))
  | ((with_reducible refine' methodCall_KW (pl := ?pl) (he := ?he) ?_); (case he => rfl))
  | walk_at "nm"
  | ((with_reducible refine spliced_more ?_ (he := ?he)); (case he => rfl)))
local macro_rules | `(tactic| walk_at "vv") => `(tactic| repeat walk_at "v")
namespace Lfu
variable {prog : Program} {w : World} {K : Frag} {H : Option Value} {n : Nat} {σ : Hp}

theorem call_pop {C : Addr} (F : KF K C) {I : Info} {D : Ad} {mm : Nm} {b : B} {z : List G} {g : G} {k : Int} {ks : List Int} {v : Value} {O : Addr → Prop} {X : String → Hp → Prop} (hC : I.C = C) (hL : D.L = F.L)
    (lc : LC I D σ mm b (g :: z)) (o : Out σ O (foot I D (g :: z))) (hks : g.ks = k :: ks) (hv : aget b.data k = some v) (hins : I.ds ≠ none → (aget b.size k).isSome = true) :
    CallT prog w K none (n + 3) (.ref F.pop) ⟨[.ref I.x], []⟩ σ (fun r σ' => (∃ t tk, r = .ref t ∧ σ t = none ∧ σ' t = some (.tup [.int k tk, v])) ∧
      ∃ mm', LC I D σ' mm' (b.del I k) (rest g k ++ z) ∧ Keep O σ σ' ∧ Out σ' O (foot I D (rest g k ++ z))) X := by
  subst hC
  refine CallT.of (binds := [("self", .ref I.x)]) F.hpop (fun _ _ _ _ _ _ _ _ _ _ => BindsTo.of_eq rfl) (by kernel_rfl) (by kernel_rfl) (by kernel_rfl) ?_
  intro A base os env fs s hsc hcl a r
  have h1 : (fun y => [(("self" : Str), Value.ref I.x)].reverse.lookup y) "self" = some (.ref I.x) := by kernel_rfl
  obtain ⟨j, hj, hd⟩ := lc.lr.rb.ns
  obtain ⟨nx, pv, nr, nn, lk⟩ := lc.lr.ring
  obtain ⟨f0, t0, k0, p1, p2, p3, p4, p5, p6⟩ := nr
  have e1 : nx D.rt = g.l := lk.1
  rw [e1] at p4
  refine wpAny_execs_cons ?_
  walk_at "vv"
  refine v_own a r lc.lr.rb.inst hd lc.lr.hroot rfl F.ok.get F.ok.dict F.frt (by kernel_rfl) fun s r => ?_
  walk_at "st"; rename_i s r
  refine wpAny_execs_cons ?_
  walk_at "vv"
  refine v_slot a r (hL ▸ p1) p6 F.lf.sn p4 rfl F.lf.get F.lf.cls fun s r => ?_
  walk_at "st"; rename_i s r
  refine wpAny_execs_cons ?_
  walk_at "vv"
  have hne : g.l ≠ D.rt := fun e => by
    have := (List.nodup_cons.mp lc.lr.nd).1
    exact this (by rw [← e]; exact .head _)
  obtain ⟨og, hog, ag, rfl, _⟩ := r.get (nn g (.head _)).choose_spec.choose_spec.choose_spec.1
  obtain ⟨ort, hort, ar, rfl, _⟩ := r.get p1
  refine wpAny_is_ref_other hne hog hort (by intro q; cases q) ?_
  refine v_truth ?_
  rw [if_neg (by decide)]
  walk_at "vv"
  refine wpAny_execs_cons ?_
  walk_at "v"
  refine wpAny_Call_ofName ?_
  refine v_builtin a r (kof hsc (by kernel_rfl)) F.hnext (v := .builtin "next") (by kernel_rfl) (by decide +kernel) ?_ (by kernel_rfl)
  refine v_callB rfl ?_
  walk_at "vv"
  refine wpAny_Call_ofName ?_
  refine v_builtin a r (kof hsc (by kernel_rfl)) F.hiter (v := .builtin "iter") (by kernel_rfl) (by decide +kernel) ?_ (by kernel_rfl)
  refine v_callB rfl ?_
  walk_at "vv"
  obtain ⟨f, t, kk, q1, q2, q3, q4, q5, q6⟩ := nn g (.head _)
  refine v_slot a r (hL ▸ q1) q6 F.lf.sk q3 rfl F.lf.get F.lf.cls fun s r => ?_
  walk_at "vv"
  have hkd := lc.lr.keys g (.head _)
  rw [hks] at hkd
  refine v_iterD r hkd fun it ep s hit r => ?_
  walk_at "vv"
  refine v_nextD r (Hp.set_self _ _ _) (by rw [Hp.set_ne _ _ fun e => by rw [← e, hkd] at hit; cases hit]; exact Hp.set_self _ _ _) (i := 0) rfl fun s tk r => ?_
  have r := R.back hkd hit r
  walk_at "st"; rename_i s r
  refine wpAny_execs_cons ?_
  walk_at "vv"
  refine v_global a r (kof hsc (by kernel_rfl)) F.hCache ?_ (by kernel_rfl)
  obtain ⟨mc, hg1, hg2, hg3⟩ := F.ncget
  refine v_clsmeth a r hg1 hg2 hg3 rfl fun s r => ?_
  refine v_callK (os := os) a F.kcget rfl ?_
  walk_at "vv"
  refine ⟨⟨_, _, r⟩, ?_⟩
  refine v_told a r (X := fun _ _ => False) (Mine.call_getitem (n := 0) (tk := tk) F.hcget F.ok lc.lr.rb hv) (by omega) (fun v' σ' s' ⟨q1, q2⟩ r => ?_) fun _ _ _ _ x _ => x.elim
  subst q1; subst q2
  walk_at "st"; rename_i s r
  refine wpAny_execs_cons ?_
  walk_at "vv"
  refine v_delI a r lc.lr.rb.inst hd F.ok.seq F.ndel F.idel ?_
  refine v_told a r (X := fun _ _ => False) (call_del (n := 0) (p := []) (z := z) (g := g) (tk := tk) F rfl hL lc o (by rw [hks]; exact .head _) (by rw [hv]; rfl) hins) (by omega) (fun _ σ' s' ⟨_, mm', lc', kp, o'⟩ r => ?_) fun _ _ _ _ x _ => x.elim
  walk_at "vv"
  refine wpAny_execs_cons ?_
  walk_at "v"
  refine v_tuple (base := base) (os := os) (fs := fs) ?_
  walk_at "vv"
  refine ⟨by simp, _, _, r, fun tt s' ht r' => ?_⟩
  have hn : ¬ O tt := o'.new ht
  refine ⟨_, _, r', ⟨tt, tk, rfl, ?_, Hp.set_self _ _ _⟩, mm', lc'.addNew ht, kp.trans (Keep.set hn), o'.keep (Keep.set hn)⟩
  exact Classical.byContradiction fun e => kp.dom tt e ht
end Lfu
end Mine
namespace Mine
set_option pp.deepTerms false
set_option pp.deepTerms.threshold 8
local macro_rules | `(tactic| walk_at "lk") => `(tactic| first | assumption | rfl | (simp only [mset, ofs_inj, String.reduceEq, ↓reduceIte]; first | assumption | rfl) | (simp only [mset, ofs_inj, String.reduceEq, ↓reduceIte]; done))
local macro_rules | `(tactic| walk_at "nm") => `(tactic| (refine v_local (by assumption) (by assumption) (kof (by assumption) (by kernel_rfl)) (by walk_at "lk") ?_ (by kernel_rfl)))
local macro_rules | `(tactic| walk_at "st") => `(tactic| (refine v_store (by assumption) (by assumption) (kof (by assumption) (by kernel_rfl)) fun s r => ?_))
local macro_rules | `(tactic| walk_at "v") => `(tactic| first
  | with_reducible refine wpAny_Return_some ?_
  | with_reducible refine wpAny_Return_none ?_
  | ((with_reducible refine wpAny_Compare1 (hm := ?hm) ?_); (case hm => with_unfolding_all rfl))
  | ((with_reducible refine wpAny_isTrue_Compare1 (hm := ?hm) ?_); (case hm => with_unfolding_all rfl))
  | ((with_reducible refine wpAny_Assign_Name (hs := ?hs) ?_); (case hs => rfl))
  | ((with_reducible refine wpAny_Assign_Subscript (hs := ?hs) ?_); (case hs => rfl))
  | ((with_reducible refine plainObj_wpAny_Assign_Attribute (hs := ?hs) ?_); (case hs => rfl))
  | ((with_reducible refine wpAny_Assign_two (he := ?he) (hw := ?hw) ?_); (case he => rfl); (case hw => rfl))
  | with_reducible refine assign_Attr ?_
  | with_reducible refine assign_Subs ?_
  | with_reducible refine wpAny_assign_Name ?_
  | with_reducible refine Attribute_name ?_
  | with_reducible refine Attribute_any_ ?_
  | with_reducible refine Subscript_ ?_
  | with_reducible refine wpAny_If ?_
  | with_reducible refine wpAny_BinOp ?_
  | with_reducible refine wpAny_UnaryOp ?_
  | with_reducible refine wpAny_Delete ?_
  | with_reducible refine wpAny_deleteEach_cons ?_
  | with_reducible refine wpAny_deleteEach_nil ?_
  | with_reducible refine wpAny_delete_Subscript ?_
  | with_reducible refine wpAny_AugAssign_AttributeAny ?_
  | with_reducible refine wpAny_execs_nil ?_
  | with_reducible refine wpAny_Constant_none ?_
  | with_reducible refine spliced_none ?_
  | with_reducible refine ea_none ?_
  | ((with_reducible refine ea_plain ?_ ?he); (case he => rfl))
  | ((with_reducible refine' methodCall_KW (pl := ?pl) (he := ?he) ?_); (case he => rfl))
  | walk_at "nm"
  | ((with_reducible refine spliced_more ?_ (he := ?he)); (case he => rfl)))
local macro_rules | `(tactic| walk_at "vv") => `(tactic| repeat walk_at "v")
namespace Lfu
variable {prog : Program} {w : World} {K : Frag} {n : Nat} {σ : Hp}

abbrev Gs := List (Int × List Int)
def keysOf (gs : Gs) : List Int := gs.flatMap (·.2)
def bump : Gs → Int → Gs
  | [], _ => []
  | (c, ks) :: z, k => if k ∈ ks then bumpAt c ks z k else (c, ks) :: bump z k
def less (ks : List Int) (c k : Int) : Gs := if ks.filter (· ≠ k) = [] then [] else [(c, ks.filter (· ≠ k))]
def dropHead : Gs → Option (Int × Gs)
  | (c, k :: ks) :: z => some (k, less (k :: ks) c k ++ z)
  | _ => none
def lay : Gs → Int → Gs
  | (c, ks) :: z, k => if c = 1 then (c, ks ++ [k]) :: z else (1, [k]) :: (c, ks) :: z
  | [], k => [(1, [k])]
structure Om where
  b : B
  gs : Gs
structure Om.Wf (I : Info) (o : Om) : Prop where
  pos : ∀ g ∈ o.gs, 1 ≤ g.1
  ne : ∀ g ∈ o.gs, g.2 ≠ []
  nd : (keysOf o.gs).Nodup
  mem : ∀ k, k ∈ keysOf o.gs ↔ o.b.has k = true
  sz : I.ds ≠ none → ∀ k, o.b.has k = true → (aget o.b.size k).isSome = true
def Om.pop (I : Info) (o : Om) : Option Om := (dropHead o.gs).map fun p => ⟨o.b.del I p.1, p.2⟩
def Om.put (I : Info) (o : Om) (k : Int) (v : Value) (c : Int) : Om := ⟨o.b.put I k v c, if k ∈ keysOf o.gs then bump o.gs k else lay o.gs k⟩
def Om.get (o : Om) (k : Int) : Om := ⟨o.b, bump o.gs k⟩

theorem keysOf_cons (g : Int × List Int) (z : Gs) : keysOf (g :: z) = g.2 ++ keysOf z := rfl
theorem keysOf_append (a z : Gs) : keysOf (a ++ z) = keysOf a ++ keysOf z := by unfold keysOf; rw [List.flatMap_append]
theorem keysOf_less (ks : List Int) (c k : Int) : keysOf (less ks c k) = ks.filter (· ≠ k) := by
  unfold less
  split
  · next h => rw [h]; rfl
  · simp [keysOf]
theorem perm_push {ks : List Int} {k : Int} (h : ks.Nodup) (hk : k ∈ ks) : (ks.filter (· ≠ k) ++ [k]).Perm ks := by
  induction ks with
  | nil => cases hk
  | cons a t ih =>
    obtain ⟨h1, h2⟩ := List.nodup_cons.mp h
    by_cases ha : a = k
    · subst ha
      have e : (a :: t).filter (· ≠ a) = t := by
        rw [List.filter_cons_of_neg (by simp)]
        exact List.filter_eq_self.mpr fun b hb => by simp; rintro rfl; exact h1 hb
      rw [e]
      exact (List.perm_append_comm (l₁ := t) (l₂ := [a]))
    · rw [List.filter_cons_of_pos (by simpa using ha)]
      exact (ih h2 (by rcases List.mem_cons.mp hk with e | e; exact absurd e.symm ha; exact e)).cons a
theorem bumpAt_eq (c : Int) (ks : List Int) (z : Gs) (k : Int) : bumpAt c ks z k = match z with
  | (c', ks') :: z' => if c' = c + 1 then less ks c k ++ (c', ks' ++ [k]) :: z' else if ks.length = 1 then (c + 1, ks) :: z else less ks c k ++ (c + 1, [k]) :: z
  | [] => if ks.length = 1 then [(c + 1, ks)] else less ks c k ++ [(c + 1, [k])] := rfl
theorem bumpAt_perm {c : Int} {ks : List Int} {z : Gs} {k : Int} (h : ks.Nodup) (hk : k ∈ ks) : (keysOf (bumpAt c ks z k)).Perm (ks ++ keysOf z) := by
  rw [bumpAt_eq]
  have key : ∀ y : List Int, (ks.filter (· ≠ k) ++ (k :: y)).Perm (ks ++ y) := fun y => by
    have := (perm_push h hk).append_right y
    rw [List.append_assoc] at this
    exact this
  cases z with
  | nil =>
    show List.Perm (keysOf (if ks.length = 1 then [(c + 1, ks)] else less ks c k ++ [(c + 1, [k])])) _
    split
    · exact .refl _
    · rw [keysOf_append, keysOf_less]; exact key []
  | cons g z' =>
    obtain ⟨c', ks'⟩ := g
    show List.Perm (keysOf (if c' = c + 1 then less ks c k ++ (c', ks' ++ [k]) :: z' else if ks.length = 1 then (c + 1, ks) :: (c', ks') :: z' else less ks c k ++ (c + 1, [k]) :: (c', ks') :: z')) _
    split
    · rw [keysOf_append, keysOf_less, keysOf_cons, keysOf_cons]
      show List.Perm (List.filter (· ≠ k) ks ++ ((ks' ++ [k]) ++ keysOf z')) (ks ++ (ks' ++ keysOf z'))
      refine List.Perm.trans ?_ (key _)
      refine List.Perm.append_left _ ?_
      rw [List.append_assoc]
      exact List.perm_middle
    · split
      · exact .refl _
      · rw [keysOf_append, keysOf_less, keysOf_cons, keysOf_cons]
        exact key _
theorem bump_perm : ∀ {gs : Gs} {k : Int}, (keysOf gs).Nodup → (keysOf (bump gs k)).Perm (keysOf gs)
  | [], _, _ => .refl _
  | (c, ks) :: z, k, h => by
    rw [keysOf_cons] at h
    obtain ⟨h1, h2, _⟩ := List.nodup_append.mp h
    unfold bump
    split
    · next hk => exact bumpAt_perm h1 hk
    · rw [keysOf_cons, keysOf_cons]
      exact (bump_perm h2).append_left _
theorem lay_cons (c : Int) (ks : List Int) (z : Gs) (k : Int) : lay ((c, ks) :: z) k = if c = 1 then (c, ks ++ [k]) :: z else (1, [k]) :: (c, ks) :: z := rfl
theorem lay_perm (gs : Gs) (k : Int) : (keysOf (lay gs k)).Perm (k :: keysOf gs) := by
  cases gs with
  | nil => exact .refl _
  | cons g z =>
    obtain ⟨c, ks⟩ := g
    rw [lay_cons]
    split
    · rw [keysOf_cons, keysOf_cons]
      show List.Perm ((ks ++ [k]) ++ keysOf z) (k :: (ks ++ keysOf z))
      rw [List.append_assoc]
      exact List.perm_middle
    · exact .refl _
theorem less_mem {ks : List Int} {c k : Int} {g : Int × List Int} (h : g ∈ less ks c k) : g = (c, ks.filter (· ≠ k)) ∧ g.2 ≠ [] := by
  unfold less at h
  split at h
  · cases h
  · next hh => rw [List.mem_singleton] at h; subst h; exact ⟨rfl, hh⟩
def Good (gs : Gs) : Prop := (∀ g ∈ gs, 1 ≤ g.1) ∧ ∀ g ∈ gs, g.2 ≠ []
theorem Good.of {gs : Gs} (h : ∀ g ∈ gs, 1 ≤ g.1 ∧ g.2 ≠ []) : Good gs := ⟨fun g m => (h g m).1, fun g m => (h g m).2⟩
theorem Good.at {gs : Gs} (h : Good gs) {g : Int × List Int} (m : g ∈ gs) : 1 ≤ g.1 ∧ g.2 ≠ [] := ⟨h.1 g m, h.2 g m⟩
theorem Good.bumpAt {c : Int} {ks : List Int} {z : Gs} {k : Int} (h : Good ((c, ks) :: z)) : Good (bumpAt c ks z k) := by
  have hc := (h.at (.head _)).1
  have hk := (h.at (.head _)).2
  have hl : ∀ g ∈ less ks c k, 1 ≤ g.1 ∧ g.2 ≠ [] := fun g m => by
    have := less_mem m
    exact ⟨by rw [this.1]; exact hc, this.2⟩
  rw [bumpAt_eq]
  refine Good.of ?_
  have hc' : (1 : Int) ≤ c + 1 := by have : (1 : Int) ≤ c := hc; omega
  cases z with
  | nil =>
    show ∀ g ∈ (if ks.length = 1 then [(c + 1, ks)] else less ks c k ++ [(c + 1, [k])]), _
    split
    · intro g m; rw [List.mem_singleton] at m; subst m; exact ⟨hc', hk⟩
    · intro g m
      rcases List.mem_append.mp m with m | m
      · exact hl g m
      · rw [List.mem_singleton] at m; subst m; exact ⟨hc', by simp⟩
  | cons g' z' =>
    obtain ⟨c', ks'⟩ := g'
    have h' := h.at (.tail _ (.head _))
    have hz : ∀ g ∈ z', 1 ≤ g.1 ∧ g.2 ≠ [] := fun g m => h.at (.tail _ (.tail _ m))
    show ∀ g ∈ (if c' = c + 1 then less ks c k ++ (c', ks' ++ [k]) :: z' else if ks.length = 1 then (c + 1, ks) :: (c', ks') :: z' else less ks c k ++ (c + 1, [k]) :: (c', ks') :: z'), _
    split
    · intro g m
      rcases List.mem_append.mp m with m | m
      · exact hl g m
      · rcases List.mem_cons.mp m with rfl | m
        · exact ⟨h'.1, by simp⟩
        · exact hz g m
    · split
      · intro g m
        rcases List.mem_cons.mp m with rfl | m
        · exact ⟨hc', hk⟩
        · rcases List.mem_cons.mp m with rfl | m
          · exact h'
          · exact hz g m
      · intro g m
        rcases List.mem_append.mp m with m | m
        · exact hl g m
        · rcases List.mem_cons.mp m with rfl | m
          · exact ⟨hc', by simp⟩
          · rcases List.mem_cons.mp m with rfl | m
            · exact h'
            · exact hz g m
theorem Good.tail {g : Int × List Int} {z : Gs} (h : Good (g :: z)) : Good z := .of fun x m => h.at (.tail _ m)
theorem Good.bump : ∀ {gs : Gs} {k : Int}, Good gs → Good (bump gs k)
  | [], _, h => h
  | (c, ks) :: z, k, h => by
    unfold Lfu.bump
    split
    · exact h.bumpAt
    · refine .of fun g m => ?_
      rcases List.mem_cons.mp m with rfl | m
      · exact h.at (.head _)
      · exact h.tail.bump.at m
theorem Good.lay {gs : Gs} {k : Int} (h : Good gs) : Good (lay gs k) := by
  cases gs with
  | nil => exact .of fun g m => by rw [show Lfu.lay [] k = [(1, [k])] from rfl, List.mem_singleton] at m; subst m; simp
  | cons g z =>
    obtain ⟨c, ks⟩ := g
    refine .of fun x m => ?_
    rw [lay_cons] at m
    split at m
    · rcases List.mem_cons.mp m with rfl | m
      · exact ⟨(h.at (.head _)).1, by simp⟩
      · exact h.at (.tail _ m)
    · rcases List.mem_cons.mp m with rfl | m
      · simp
      · exact h.at m
theorem Om.Wf.good {I : Info} {o : Om} (h : o.Wf I) : Good o.gs := ⟨h.pos, h.ne⟩
theorem Om.Wf.of {I : Info} {o : Om} (g : Good o.gs) (nd : (keysOf o.gs).Nodup) (mem : ∀ k, k ∈ keysOf o.gs ↔ o.b.has k = true) (sz : I.ds ≠ none → ∀ k, o.b.has k = true → (aget o.b.size k).isSome = true) : o.Wf I := ⟨g.1, g.2, nd, mem, sz⟩
theorem Om.Wf.get {I : Info} {o : Om} {k : Int} (h : o.Wf I) : (o.get k).Wf I :=
  .of h.good.bump ((bump_perm h.nd).nodup_iff.mpr h.nd) (fun x => (bump_perm h.nd).mem_iff.trans (h.mem x)) h.sz
theorem dropHead_some {gs gs' : Gs} {k : Int} (e : dropHead gs = some (k, gs')) : ∃ c ks z, gs = (c, k :: ks) :: z ∧ gs' = less (k :: ks) c k ++ z := by
  unfold dropHead at e
  split at e
  · cases e; exact ⟨_, _, _, rfl, rfl⟩
  · cases e
theorem Om.Wf.pop {I : Info} {o o' : Om} (h : o.Wf I) (e : o.pop I = some o') : o'.Wf I := by
  unfold Om.pop at e
  obtain ⟨⟨k, gs'⟩, e1, e2⟩ := Option.map_eq_some_iff.mp e
  subst e2
  obtain ⟨c, ks, z, e3, rfl⟩ := dropHead_some e1
  have hnd := h.nd
  have hmem := h.mem
  rw [e3, keysOf_cons] at hnd
  simp only [e3, keysOf_cons] at hmem
  have hk : ∀ x, x ∈ keysOf (less (k :: ks) c k ++ z) ↔ x ∈ (k :: ks) ++ keysOf z ∧ x ≠ k := fun x => by
    rw [keysOf_append, keysOf_less, List.mem_append, List.mem_append, List.mem_filter]
    obtain ⟨_, _, n3⟩ := List.nodup_append.mp hnd
    constructor
    · rintro (q | q)
      · exact ⟨.inl q.1, by simpa using q.2⟩
      · exact ⟨.inr q, fun e => n3 k (.head _) x q e.symm⟩
    · rintro ⟨q | q, hx⟩
      · exact .inl ⟨q, by simpa using hx⟩
      · exact .inr q
  refine .of (.of fun g m => ?_) ?_ (fun x => ?_) fun hd x hx => ?_
  · rcases List.mem_append.mp m with m | m
    · have := less_mem m
      exact ⟨by rw [this.1]; exact (h.good.at (g := (c, k :: ks)) (by rw [e3]; exact .head _)).1, this.2⟩
    · exact h.good.at (by rw [e3]; exact .tail _ m)
  · show (keysOf (less (k :: ks) c k ++ z)).Nodup
    rw [keysOf_append, keysOf_less]
    refine List.Sublist.nodup ?_ hnd
    exact (List.filter_sublist).append_right _
  · rw [show (Om.mk (o.b.del I k) (less (k :: ks) c k ++ z)).b.has x = (o.b.has x && decide (x ≠ k)) from has_del]
    rw [hk, hmem]; simp
  · rw [show (Om.mk (o.b.del I k) (less (k :: ks) c k ++ z)).b.has x = (o.b.has x && decide (x ≠ k)) from has_del] at hx
    simp only [Bool.and_eq_true, decide_eq_true_eq] at hx
    show (aget (o.b.del I k).size x).isSome = true
    rw [size_del hd _ trivial hx.2]
    exact h.sz hd x hx.1
theorem Om.Wf.put {I : Info} {o : Om} {k : Int} {v : Value} {c : Int} (h : o.Wf I) : (o.put I k v c).Wf I := by
  have hs : I.ds ≠ none → ∀ x, (o.put I k v c).b.has x = true → (aget (o.put I k v c).b.size x).isSome = true := fun hd x hx => by
    rw [show (o.put I k v c).b.has x = (o.b.has x || decide (x = k)) from has_put ..] at hx
    show (aget (o.b.put I k v c).size x).isSome = true
    unfold B.put
    rw [if_neg hd]
    simp only [Bool.or_eq_true, decide_eq_true_eq] at hx
    by_cases hxk : x = k
    · subst hxk; rw [aget_aput_self]; rfl
    · rw [aget_aput_ne _ _ hxk]; exact h.sz hd x (hx.resolve_right hxk)
  have hb : ∀ x, (o.put I k v c).b.has x = (o.b.has x || decide (x = k)) := fun x => has_put ..
  by_cases hk : k ∈ keysOf o.gs
  · have e : (o.put I k v c).gs = bump o.gs k := if_pos hk
    refine .of (by rw [e]; exact h.good.bump) (by rw [e]; exact (bump_perm h.nd).nodup_iff.mpr h.nd) (fun x => ?_) hs
    rw [e, (bump_perm h.nd).mem_iff, h.mem, hb]
    simp only [Bool.or_eq_true, decide_eq_true_eq]
    constructor
    · exact .inl
    · rintro (q | q)
      · exact q
      · subst q; exact (h.mem x).mp hk
  · have e : (o.put I k v c).gs = lay o.gs k := if_neg hk
    refine .of (by rw [e]; exact h.good.lay) (by rw [e]; exact (lay_perm o.gs k).nodup_iff.mpr (List.nodup_cons.mpr ⟨hk, h.nd⟩)) (fun x => ?_) hs
    rw [e, (lay_perm o.gs k).mem_iff, List.mem_cons, h.mem, hb]
    simp only [Bool.or_eq_true, decide_eq_true_eq]
    exact Or.comm

def Rep (I : Info) (D : Ad) (O : Addr → Prop) (σ : Hp) (mm : Nm) (o : Om) : Prop := (∃ gs, LC I D σ mm o.b gs ∧ gs.map cks = o.gs ∧ Out σ O (foot I D gs)) ∧ o.Wf I
theorem keys_tot (gs : List G) : (keysOf (gs.map cks)).length = tot gs := by
  unfold keysOf tot
  rw [List.length_flatMap, List.map_map]; rfl

def th (prog : Program) (w : World) {K : Frag} {I : Info} (F : KF K I.C) (D : Ad) (hL : D.L = F.L) (O : Addr → Prop) : Th prog w K I Om where
  b := Om.b
  rep := Rep I D O
  rb := fun ⟨⟨_, h, _⟩, _⟩ => h.lr.rb
  keep := Keep O
  krefl := .refl _
  ktrans := .trans
  pop := Om.pop I
  popless := fun {o o' k} e h => by
    unfold Om.pop at e
    obtain ⟨⟨k', gs'⟩, e1, e2⟩ := Option.map_eq_some_iff.mp e
    subst e2
    have := has_del (I := I) (b := o.b) (k := k') (x := k)
    unfold B.has at this
    rw [h] at this
    show aget (o.b.del I k').data k = none
    cases q : aget (o.b.del I k').data k with
    | none => rfl
    | some _ => rw [q] at this; cases this
  fpop := F.pop
  lvl := 3
  find := F.npop
  fn := F.ipop
  kp := F.kpop
  hpop := fun {σ mm o o'} ⟨⟨gs, lc, hg, ho⟩, wf⟩ e => by
    have wf' := wf.pop e
    unfold Om.pop at e
    obtain ⟨⟨k, gs'⟩, e1, e2⟩ := Option.map_eq_some_iff.mp e
    subst e2
    obtain ⟨c, ks, z, e3, rfl⟩ := dropHead_some e1
    have hin : o.b.has k = true := (wf.mem k).mp (by rw [e3]; simp [keysOf])
    obtain ⟨v, hv⟩ := Option.isSome_iff_exists.mp hin
    cases gs with
    | nil => rw [e3] at hg; cases hg
    | cons g z' =>
      rw [e3, List.map_cons] at hg
      obtain ⟨hg1, hg2⟩ := List.cons.inj hg
      obtain ⟨hg3, hg4⟩ := Prod.mk.inj hg1
      refine (call_pop (n := 0) (k := k) (ks := ks) F rfl hL lc ho hg4 hv fun hd => wf.sz hd k hin).mono (fun r σ' ⟨_, mm', lc', kp, o'⟩ => ⟨mm', ⟨⟨_, lc', ?_, o'⟩, wf'⟩, kp⟩) fun _ _ x => x
      rw [List.map_append, rest_cks, hg4, hg2, hg3]; rfl
end Lfu
end Mine
namespace Mine
set_option pp.deepTerms false
set_option pp.deepTerms.threshold 8
local macro_rules | `(tactic| walk_at "lk") => `(tactic| first | assumption | rfl | (simp only [mset, ofs_inj, String.reduceEq, ↓reduceIte]; first | assumption | rfl) | (simp only [mset, ofs_inj, String.reduceEq, ↓reduceIte]; done))
local macro_rules | `(tactic| walk_at "nm") => `(tactic| (refine v_local (by assumption) (by assumption) (kof (by assumption) (by kernel_rfl)) (by walk_at "lk") ?_ (by kernel_rfl)))
local macro_rules | `(tactic| walk_at "st") => `(tactic| (refine v_store (by assumption) (by assumption) (kof (by assumption) (by kernel_rfl)) fun s r => ?_))
local macro_rules | `(tactic| walk_at "v") => `(tactic| first
  | with_reducible refine wpAny_Return_some ?_
  | with_reducible refine wpAny_Return_none ?_
  | ((with_reducible refine wpAny_Compare1 (hm := ?hm) ?_); (case hm => with_unfolding_all rfl))
  | ((with_reducible refine wpAny_isTrue_Compare1 (hm := ?hm) ?_); (case hm => with_unfolding_all rfl))
  | ((with_reducible refine wpAny_Assign_Name (hs := ?hs) ?_); (case hs => rfl))
  | ((with_reducible refine wpAny_Assign_Subscript (hs := ?hs) ?_); (case hs => rfl))
  | ((with_reducible refine plainObj_wpAny_Assign_Attribute (hs := ?hs) ?_); (case hs => rfl))
  | ((with_reducible refine wpAny_Assign_two (he := ?he) (hw := ?hw) ?_); (case he => rfl); (case hw => rfl))
  | with_reducible refine assign_Attr ?_
  | with_reducible refine assign_Subs ?_
  | with_reducible refine wpAny_assign_Name ?_
  | with_reducible refine Attribute_name ?_
  | with_reducible refine Attribute_any_ ?_
  | with_reducible refine Subscript_ ?_
  | with_reducible refine wpAny_If ?_
  | with_reducible refine wpAny_BinOp ?_
  | with_reducible refine wpAny_UnaryOp ?_
  | with_reducible refine wpAny_Delete ?_
  | with_reducible refine wpAny_deleteEach_cons ?_
  | with_reducible refine wpAny_deleteEach_nil ?_
  | with_reducible refine wpAny_delete_Subscript ?_
  | with_reducible refine wpAny_AugAssign_AttributeAny ?_
  | with_reducible refine wpAny_execs_nil ?_
  | with_reducible refine wpAny_Constant_none ?_
  | with_reducible refine spliced_none ?_
  | with_reducible refine ea_none ?_
  | ((with_reducible refine ea_plain ?_ ?he); (case he => rfl))
  | ((with_reducible refine' methodCall_KW (pl := ?pl) (he := ?he) ?_); (case he => rfl))
  | walk_at "nm"
  | ((with_reducible refine spliced_more ?_ (he := ?he)); (case he => rfl)))
local macro_rules | `(tactic| walk_at "vv") => `(tactic| repeat walk_at "v")
namespace Lfu
variable {prog : Program} {w : World} {K : Frag} {n : Nat} {σ : Hp}

theorem Links.has {D : Ad} {gs : List G} {kvs : List (Int × Value)} (h : ∀ k v, aget kvs k = some v ↔ ∃ g ∈ gs, k ∈ g.ks ∧ v = .ref g.l) (k : Int) : (aget kvs k).isSome = true ↔ k ∈ keysOf (gs.map cks) := by
  rw [Option.isSome_iff_exists]
  unfold keysOf
  rw [List.mem_flatMap]
  constructor
  · rintro ⟨v, hv⟩
    obtain ⟨g, h1, h2, _⟩ := (h k v).mp hv
    exact ⟨cks g, List.mem_map_of_mem h1, h2⟩
  · rintro ⟨x, hx, hk⟩
    obtain ⟨g, h1, rfl⟩ := List.mem_map.mp hx
    exact ⟨_, (h k _).mpr ⟨g, h1, hk, rfl⟩⟩
theorem bump_split : ∀ {gs : List G} {k : Int}, k ∈ keysOf (gs.map cks) → ∃ p g z, gs = p ++ g :: z ∧ k ∈ g.ks ∧ bump (gs.map cks) k = p.map cks ++ bumpAt g.c g.ks (z.map cks) k
  | [], _, h => by cases h
  | g :: z, k, h => by
    by_cases hk : k ∈ g.ks
    · refine ⟨[], g, z, rfl, hk, ?_⟩
      show bump ((g.c, g.ks) :: z.map cks) k = _
      unfold bump
      rw [if_pos hk]; rfl
    · have h' : k ∈ keysOf (z.map cks) := by
        rw [List.map_cons, keysOf_cons] at h
        exact (List.mem_append.mp h).resolve_left hk
      obtain ⟨p, g', z', rfl, h1, h2⟩ := bump_split h'
      refine ⟨g :: p, g', z', rfl, h1, ?_⟩
      show bump ((g.c, g.ks) :: (p ++ g' :: z').map cks) k = _
      unfold bump
      rw [if_neg hk, h2]; rfl
theorem call_get {I : Info} (F : KF K I.C) {D : Ad} (hL : D.L = F.L) {O : Addr → Prop} {mm : Nm} {o : Om} {k : Int} {tk : Tok} {v : Value} {X : String → Hp → Prop} (rp : Rep I D O σ mm o) (hv : aget o.b.data k = some v) :
    CallT prog w K none (n + 5) (.ref F.get) ⟨[.ref I.x, .int k tk], []⟩ σ (fun r σ' => r = v ∧ Rep I D O σ' mm (o.get k) ∧ Keep O σ σ') X := by
  obtain ⟨⟨gs, lc, hg, ho⟩, wf⟩ := rp
  have hin : k ∈ keysOf (gs.map cks) := by rw [hg]; exact (wf.mem k).mpr (by unfold B.has; rw [hv]; rfl)
  refine CallT.of (binds := [("self", .ref I.x), ("key", .int k tk), ("cache_getitem", .ref F.cget)]) F.hget (fun _ _ _ _ _ _ _ _ s X => BindsTo.ofT F.htget X rfl rfl rfl) (by kernel_rfl) (by kernel_rfl) (by kernel_rfl) ?_
  intro A base os env fs s hsc hcl a r
  have h1 : (fun y => [(("self" : Str), Value.ref I.x), ("key", .int k tk), ("cache_getitem", .ref F.cget)].reverse.lookup y) "self" = some (.ref I.x) := by kernel_rfl
  have h2 : (fun y => [(("self" : Str), Value.ref I.x), ("key", .int k tk), ("cache_getitem", .ref F.cget)].reverse.lookup y) "key" = some (.int k tk) := by kernel_rfl
  have h4 : (fun y => [(("self" : Str), Value.ref I.x), ("key", .int k tk), ("cache_getitem", .ref F.cget)].reverse.lookup y) "cache_getitem" = some (.ref F.cget) := by kernel_rfl
  obtain ⟨j, hj, hd⟩ := lc.lr.rb.ns
  obtain ⟨kvs, hkv, hlk, hll⟩ := id lc.links
  refine wpAny_execs_cons ?_
  walk_at "v"
  refine wpAny_Call_ofName ?_
  walk_at "nm"
  refine v_callK (os := os) a F.kcget rfl ?_
  walk_at "vv"
  refine ⟨⟨_, _, r⟩, ?_⟩
  refine v_told a r (X := fun _ _ => False) (Mine.call_getitem (n := 0) (tk := tk) F.hcget F.ok lc.lr.rb hv) (by omega) (fun v' σ' s' ⟨q1, q2⟩ r => ?_) fun _ _ _ _ x _ => x.elim
  subst q1; subst q2
  walk_at "st"; rename_i s r
  refine wpAny_execs_cons ?_
  walk_at "vv"
  refine v_own a r lc.lr.rb.inst hd lc.lr.hlinks rfl F.ok.get F.ok.dict F.flk (by kernel_rfl) fun s r => ?_
  refine v_din r hkv fun s r => ?_
  refine v_truth ?_
  rw [valueAt_eq, (Links.has (D := D) hlk k).mpr hin, if_pos rfl]
  refine wpAny_execs_cons ?_
  refine wpAny_Expr_any ?_ (by unfold interactive; rw [a.head.2.1]; rfl) (by rfl)
  walk_at "vv"
  refine v_meth a r lc.lr.rb.inst hd (lc.lr.rb.free _ (by decide +kernel)) F.ok.get F.ntch F.itch ?_
  refine v_callK (os := os) a F.ktch rfl ?_
  walk_at "vv"
  refine ⟨⟨_, _, r⟩, ?_⟩
  obtain ⟨p, g, z, rfl, hkg, hbump⟩ := bump_split hin
  have mg : g ∈ p ++ g :: z := by simp
  refine v_told a r (X := fun _ _ => False) (call_touch (n := 0) (tk := tk) F rfl hL lc ho hkg (wf.pos (cks g) (by rw [← hg]; exact List.mem_map_of_mem mg))) (by omega) (fun v' σ' s' ⟨_, gs', lc', hg', kp, o'⟩ r => ?_) fun _ _ _ _ x _ => x.elim
  walk_at "vv"
  refine wpAny_execs_cons ?_
  walk_at "vv"
  refine ⟨_, _, r, rfl, ⟨⟨gs', lc', ?_, o'⟩, wf.get⟩, kp⟩
  rw [hg', ← hbump, hg]; rfl
theorem set_rest {C : Addr} (F : KF K C) {I : Info} {D : Ad} {mm : Nm} {b : B} {z : List G} {g : G} {k : Int} {tk : Tok} {O : Addr → Prop} (hC : I.C = C) (hL : D.L = F.L)
    {A : Around} {base : Heap} {os : OsState} {env : Env} {fs : List (Env × Nm)} {m : Nm} {s₀ : Shared} {X : String → Hp → Prop} (hsc : env.scope = fnScope s_set)
    (a : Act K none (n + 1) A base (env :: fs.map (·.1))) (r : R prog w base os ((env, m) :: fs) σ s₀) (lr : LR I D σ mm b (g :: z)) (ln : Links D σ (g :: z)) (sh : tot (g :: z) < 100)
    (o : Out σ O (foot I D (g :: z))) (hk : k ∉ keysOf ((g :: z).map cks)) (h1 : m "self" = some (.ref I.x)) (h2 : m "key" = some (.int k tk)) (h3 : m "link" = some (.ref g.l)) :
    wpAny (model prog w) A (execs ((fnBody s_set).drop 5) env) (fun fl s' => ∃ m' σ', R prog w base os ((env, m') :: fs) σ' s' ∧ (match fl with | .ret v => v | _ => .none) = .none ∧ LC I D σ' mm b ({ g with ks := g.ks ++ [k] } :: z) ∧ Keep O σ σ')
      (Lv prog w A base os env fs X) s₀ := by
  subst hC
  obtain ⟨j, hj, hd⟩ := lr.rb.ns
  obtain ⟨nx, pv, nr, nn, lk⟩ := lr.ring
  obtain ⟨kvs, hkv, hlk, hll⟩ := ln
  have mg : g ∈ g :: z := .head _
  have hk' : k ∉ g.ks := fun q => hk (by rw [List.map_cons, keysOf_cons]; exact List.mem_append.mpr (.inl q))
  have hkz : ∀ y ∈ z, k ∉ y.ks := fun y hy q => hk (by rw [List.map_cons, keysOf_cons]; exact List.mem_append.mpr (.inr (List.mem_flatMap.mpr ⟨cks y, List.mem_map_of_mem hy, q⟩)))
  obtain ⟨f, t, kk, q1, q2, q3, q4, q5, q6⟩ := nn g mg
  have len1 : g.ks.length < 100 := by rw [tot_cons] at sh; omega
  have nod : (g.ks ++ [k]).Nodup := List.nodup_append.mpr ⟨lr.kn g mg, by simp, fun x hx y hy => by simp only [List.mem_singleton] at hy; subst hy; exact fun e => hk' (e ▸ hx)⟩
  refine wpAny_execs_cons ?_
  walk_at "vv"
  refine v_slot a r (hL ▸ q1) q6 F.lf.sk q3 rfl F.lf.get F.lf.cls fun s r => ?_
  walk_at "vv"
  refine v_dset r (lr.keys g mg) (by rw [List.length_map]; omega) fun s r => ?_
  rw [stored_eq, keys_put_new hk'] at r
  have lr1 := LR.setKeys (p := []) (s := z) (g := g) (ks := g.ks ++ [k]) lr nod
  have kp1 : Keep O σ (σ.set g.kd (.dict ((g.ks ++ [k]).map fun k => (k, .none)))) := Keep.set (o.no _ (mem_foot.mpr (.inr (.inr (.inr (.inr (.inr (.inl ⟨g, mg, .inr (.inr rfl)⟩))))))))
  have hkv1 : (σ.set g.kd (.dict ((g.ks ++ [k]).map fun k => (k, .none)))) D.lk = some (.dict kvs) := by
    rw [Hp.set_ne _ _ (fun e : D.lk = g.kd => lr.kap g mg (by rw [← e]; exact .head _))]; exact hkv
  obtain ⟨j1, hj1, hd1⟩ := lr1.rb.ns
  refine wpAny_execs_cons ?_
  walk_at "vv"
  refine v_own a r lr1.rb.inst hd1 lr1.hlinks rfl F.ok.get F.ok.dict F.flk (by kernel_rfl) fun s r => ?_
  walk_at "vv"
  refine v_dset r hkv1 (by omega) fun s r => ?_
  rw [stored_eq] at r
  walk_at "vv"
  have htot : tot ({ g with ks := g.ks ++ [k] } :: z) = tot (g :: z) + 1 := by
    simp only [tot_cons, List.length_append, List.length_singleton]; omega
  refine ⟨_, _, r, rfl, ⟨lr1.setLinks, ⟨_, Hp.set_self _ _ _, fun x v => ?_, ?_⟩, by rw [htot]; omega⟩, kp1.trans (Keep.set (o.no _ (mem_foot.mpr (.inr (.inl rfl)))))⟩
  · rw [aget_aput]
    by_cases hx : x = k
    · rw [if_pos hx]
      subst hx
      constructor
      · intro e; cases e
        exact ⟨_, .head _, by simp, rfl⟩
      · rintro ⟨y, hy, hky, rfl⟩
        rcases List.mem_cons.mp hy with rfl | hy
        · rfl
        · exact absurd hky (hkz y hy)
    · rw [if_neg hx, hlk]
      constructor
      · rintro ⟨y, hy, hky, e⟩
        rcases List.mem_cons.mp hy with rfl | hy
        · exact ⟨_, .head _, by simp [hky], e⟩
        · exact ⟨y, .tail _ hy, hky, e⟩
      · rintro ⟨y, hy, hky, e⟩
        rcases List.mem_cons.mp hy with rfl | hy
        · simp only [List.mem_append, List.mem_singleton, hx, or_false] at hky
          exact ⟨g, .head _, hky, e⟩
        · exact ⟨y, .tail _ hy, hky, e⟩
  · rw [htot]
    have := aput_len kvs k (.ref g.l)
    omega
end Lfu
end Mine
namespace Mine
set_option pp.deepTerms false
set_option pp.deepTerms.threshold 8
local macro_rules | `(tactic| walk_at "lk") => `(tactic| first | assumption | rfl | (simp only [mset, ofs_inj, String.reduceEq, ↓reduceIte]; first | assumption | rfl) | (simp only [mset, ofs_inj, String.reduceEq, ↓reduceIte]; done))
local macro_rules | `(tactic| walk_at "nm") => `(tactic| (refine v_local (by assumption) (by assumption) (kof (by assumption) (by kernel_rfl)) (by walk_at "lk") ?_ (by kernel_rfl)))
local macro_rules | `(tactic| walk_at "st") => `(tactic| (refine v_store (by assumption) (by assumption) (kof (by assumption) (by kernel_rfl)) fun s r => ?_))
local macro_rules | `(tactic| walk_at "v") => `(tactic| first
  | with_reducible refine wpAny_Return_some ?_
  | with_reducible refine wpAny_Return_none ?_
  | ((with_reducible refine wpAny_Compare1 (hm := ?hm) ?_); (case hm => with_unfolding_all rfl))
  | ((with_reducible refine wpAny_isTrue_Compare1 (hm := ?hm) ?_); (case hm => with_unfolding_all rfl))
  | ((with_reducible refine wpAny_Assign_Name (hs := ?hs) ?_); (case hs => rfl))
  | ((with_reducible refine wpAny_Assign_Subscript (hs := ?hs) ?_); (case hs => rfl))
  | ((with_reducible refine plainObj_wpAny_Assign_Attribute (hs := ?hs) ?_); (case hs => rfl))
  | ((with_reducible refine wpAny_Assign_two (he := ?he) (hw := ?hw) ?_); (case he => rfl); (case hw => rfl))
  | with_reducible refine assign_Attr ?_
  | with_reducible refine assign_Subs ?_
  | with_reducible refine wpAny_assign_Name ?_
  | with_reducible refine Attribute_name ?_
  | with_reducible refine Attribute_any_ ?_
  | with_reducible refine Subscript_ ?_
  | with_reducible refine wpAny_If ?_
  | with_reducible refine wpAny_BinOp ?_
  | with_reducible refine wpAny_UnaryOp ?_
  | with_reducible refine wpAny_Delete ?_
  | with_reducible refine wpAny_deleteEach_cons ?_
  | with_reducible refine wpAny_deleteEach_nil ?_
  | with_reducible refine wpAny_delete_Subscript ?_
  | with_reducible refine wpAny_AugAssign_AttributeAny ?_
  | with_reducible refine wpAny_execs_nil ?_
  | with_reducible refine wpAny_Constant_none ?_
  | with_reducible refine spliced_none ?_
  | with_reducible refine ea_none ?_
  | ((with_reducible refine ea_plain ?_ ?he); (case he => rfl))
  | ((with_reducible refine' methodCall_KW (pl := ?pl) (he := ?he) ?_); (case he => rfl))
  | walk_at "nm"
  | ((with_reducible refine spliced_more ?_ (he := ?he)); (case he => rfl)))
local macro_rules | `(tactic| walk_at "vv") => `(tactic| repeat walk_at "v")
namespace Lfu
variable {prog : Program} {w : World} {K : Frag} {n : Nat} {σ : Hp}

theorem call_set {I : Info} (F : KF K I.C) {D : Ad} (hL : D.L = F.L) {O : Addr → Prop} {mm : Nm} {o : Om} {k : Int} {tk : Tok} {v : Value} {c : Int} {fu N : Nat} {X : String → Hp → Prop}
    (hb : CallT prog w K none N (.ref F.cset) ⟨[.ref I.x, .int k tk, v], []⟩ σ (fun r σ' => r = .none ∧ SetOut (th prog w F D hL O) o k v c fu σ σ') X) (hN : 5 ≤ N)
    (hlen : ∀ o', evict (th prog w F D hL O).b (th prog w F D hL O).pop I.most (fun b => b.need I k c) fu o = some o' → (keysOf o'.gs).length < 100) :
    CallT prog w K none (N + 1) (.ref F.set) ⟨[.ref I.x, .int k tk, v], []⟩ σ (fun r σ' => r = .none ∧ SetTo (th prog w F D hL O) (fun o => o.put I k v c) (fun b => b.need I k c) fu o σ σ') X := by
  refine CallT.of (binds := [("self", .ref I.x), ("key", .int k tk), ("value", v), ("cache_setitem", .ref F.cset)]) F.hset (fun _ _ _ _ _ _ _ _ s X => BindsTo.ofT F.htset X rfl rfl rfl) (by kernel_rfl) (by kernel_rfl) (by kernel_rfl) ?_
  intro A base os env fs s hsc hcl a r
  have h1 : (fun y => [(("self" : Str), Value.ref I.x), ("key", .int k tk), ("value", v), ("cache_setitem", .ref F.cset)].reverse.lookup y) "self" = some (.ref I.x) := by kernel_rfl
  have h2 : (fun y => [(("self" : Str), Value.ref I.x), ("key", .int k tk), ("value", v), ("cache_setitem", .ref F.cset)].reverse.lookup y) "key" = some (.int k tk) := by kernel_rfl
  have h3 : (fun y => [(("self" : Str), Value.ref I.x), ("key", .int k tk), ("value", v), ("cache_setitem", .ref F.cset)].reverse.lookup y) "value" = some v := by kernel_rfl
  have h4 : (fun y => [(("self" : Str), Value.ref I.x), ("key", .int k tk), ("value", v), ("cache_setitem", .ref F.cset)].reverse.lookup y) "cache_setitem" = some (.ref F.cset) := by kernel_rfl
  refine wpAny_execs_cons ?_
  refine wpAny_Expr_any ?_ (by unfold interactive; rw [a.head.2.1]; rfl) (by rfl)
  refine wpAny_Call_ofName ?_
  walk_at "nm"
  refine v_callK (os := os) a F.kcset rfl ?_
  walk_at "vv"
  refine ⟨⟨_, _, r⟩, ?_⟩
  refine v_told a r hb (by omega) (fun _ σ' s' ⟨_, σ₁, mm₁, o₁, ⟨⟨gs, lc₁, hg₁, ho₁⟩, wf₁⟩, kp₁, hev, hout⟩ r => ?_) fun _ _ _ _ x u => lv_of_up a u x
  obtain ⟨mm', lr', kp'⟩ := lc₁.lr.base ho₁ hout
  have ln' : Links D σ' gs := by
    obtain ⟨_, _, _, ch⟩ := hout
    exact lc₁.links.base lc₁.lr.lap ch
  have ho' := ho₁.keep kp'
  have hl : tot gs < 100 := by rw [← keys_tot, hg₁]; exact hlen _ hev
  obtain ⟨j, hj, hd⟩ := lr'.rb.ns
  obtain ⟨kvs, hkv, hlk, hll⟩ := id ln'
  have fin : ∀ {σ'' : Hp} {gs'' : List G}, LC I D σ'' mm' (o₁.b.put I k v c) gs'' → gs''.map cks = (o₁.put I k v c).gs → Out σ'' O (foot I D gs'') → Keep O σ' σ'' → SetTo (th prog w F D hL O) (fun o => o.put I k v c) (fun b => b.need I k c) fu o σ σ'' := fun {σ'' gs''} lc2 hg2 ho2 kp2 =>
    ⟨mm', o₁, hev, ⟨⟨gs'', lc2, hg2, ho2⟩, wf₁.put⟩, (kp₁.trans kp').trans kp2⟩
  refine wpAny_execs_cons ?_
  walk_at "vv"
  refine v_own a r lr'.rb.inst hd lr'.hlinks rfl F.ok.get F.ok.dict F.flk (by kernel_rfl) fun s r => ?_
  refine v_din r hkv fun s r => ?_
  refine v_truth ?_
  rw [valueAt_eq]
  by_cases hin : k ∈ keysOf (gs.map cks)
  · rw [(Links.has (D := D) hlk k).mpr hin, if_pos rfl]
    refine wpAny_execs_cons ?_
    refine wpAny_Expr_any ?_ (by unfold interactive; rw [a.head.2.1]; rfl) (by rfl)
    walk_at "vv"
    refine v_meth a r lr'.rb.inst hd (lr'.rb.free _ (by decide +kernel)) F.ok.get F.ntch F.itch ?_
    refine v_callK (os := os) a F.ktch rfl ?_
    walk_at "vv"
    refine ⟨⟨_, _, r⟩, ?_⟩
    obtain ⟨p, g, z, rfl, hkg, hbump⟩ := bump_split hin
    have mg : g ∈ p ++ g :: z := by simp
    refine v_told a r (X := fun _ _ => False) (call_touch (n := 0) (tk := tk) F rfl hL ⟨lr', ln', Nat.le_of_lt hl⟩ ho' hkg (wf₁.pos (cks g) (by rw [← hg₁]; exact List.mem_map_of_mem mg))) (by omega) (fun v' σ' s' ⟨_, gs', lc', hg', kp, o'⟩ r => ?_) fun _ _ _ _ x _ => x.elim
    walk_at "vv"
    refine wpAny_execs_cons ?_
    walk_at "vv"
    refine ⟨_, _, r, rfl, fin lc' ?_ o' kp⟩
    rw [hg', ← hbump, hg₁]
    exact (if_pos (hg₁ ▸ hin)).symm
  · have hno : (aget kvs k).isSome = false := by
      cases e : (aget kvs k).isSome with
      | false => rfl
      | true => exact absurd ((Links.has (D := D) hlk k).mp e) hin
    rw [hno, if_neg (by decide)]
    refine wpAny_execs_nil ?_
    have hput : (o₁.put I k v c).gs = lay o₁.gs k := if_neg (by rw [← hg₁]; exact hin)
    obtain ⟨nx, pv, nr, nn, lk⟩ := lr'.ring
    obtain ⟨f0, t0, k0, p1, p2, p3, p4, p5, p6⟩ := nr
    refine wpAny_execs_cons ?_
    walk_at "vv"
    refine v_own a r lr'.rb.inst hd lr'.hroot rfl F.ok.get F.ok.dict F.frt (by kernel_rfl) fun s r => ?_
    walk_at "st"; rename_i s r
    refine wpAny_execs_cons ?_
    walk_at "vv"
    refine v_slot a r (hL ▸ p1) p6 F.lf.sn p4 rfl F.lf.get F.lf.cls fun s r => ?_
    walk_at "st"; rename_i s r
    -- the first link
    obtain ⟨dbb, kdb, cB, hB, hz⟩ : ∃ dbb kdb cB, Node D.L σ' nx pv (nx D.rt) dbb kdb cB ∧ (match gs with | [] => cB = 0 | g' :: _ => nx D.rt = g'.l ∧ cB = g'.c) := by
      cases gs with
      | nil => have e : nx D.rt = D.rt := lk.1; rw [e]; exact ⟨_, _, _, ⟨f0, t0, k0, p1, p2, p3, p4, p5, p6⟩, rfl⟩
      | cons g' z' => have e : nx D.rt = g'.l := lk.1; rw [e]; exact ⟨_, _, _, nn g' (by simp), rfl, rfl⟩
    obtain ⟨fb, tb, kb, u1, u2, u3, u4, u5, u6⟩ := hB
    refine wpAny_execs_cons ?_
    walk_at "vv"
    refine v_slot a r (hL ▸ u1) u6 F.lf.sc u2 rfl F.lf.get F.lf.cls fun s r => ?_
    refine v_int r fun s t1 r => ?_
    refine v_ne ?_
    refine v_truth ?_
    by_cases hc : cB = 1
    · rw [hc]
      simp only [bne_self_eq_false, Bool.false_eq_true, if_false]
      refine wpAny_execs_nil ?_
      cases gs with
      | nil => have hz : cB = 0 := hz; omega
      | cons g z =>
        obtain ⟨hz1, hz2⟩ : nx D.rt = g.l ∧ cB = g.c := hz
        have e : lay o₁.gs k = (g.c, g.ks ++ [k]) :: z.map cks := by
          rw [← hg₁, List.map_cons, lay_cons, if_pos (by omega)]
        refine wpAny_mono (set_rest (n := 0) (tk := tk) F rfl hL hsc (a.lower (by omega)) r lr' ln' hl ho' hin (by walk_at "lk") (by walk_at "lk") (by rw [← hz1]; walk_at "lk"))
          (fun fl s' ⟨m', σ', r', q0, lc', kp⟩ => ⟨m', σ', r', q0, fin lc' (by rw [hput, e]; rfl) ((ho'.keep kp).sub fun x hx => ?_) kp⟩) fun _ _ x => x
        rcases List.mem_cons.mp hx with rfl | hx
        · exact ⟨g, .head _, rfl, rfl, rfl⟩
        · exact ⟨x, .tail _ hx, rfl, rfl, rfl⟩
    · have hcb : (cB != 1) = true := by simpa using hc
      rw [hcb, if_pos rfl]
      have e : lay o₁.gs k = (1, [k]) :: gs.map cks := by
        rw [← hg₁]
        cases gs with
        | nil => rfl
        | cons g z =>
          obtain ⟨hz1, hz2⟩ : nx D.rt = g.l ∧ cB = g.c := hz
          rw [List.map_cons, lay_cons, if_neg (by omega)]
      refine wpAny_execs_cons ?_
      walk_at "vv"
      refine v_global a r (kof hsc (by kernel_rfl)) F.hLFU ?_ (by kernel_rfl)
      obtain ⟨mc, hg1, hg2, hg3⟩ := F.nLink
      refine v_clsmeth a r hg1 hg2 hg3 rfl fun s r => ?_
      refine v_callK (os := os) a F.lf.kL rfl ?_
      walk_at "vv"
      refine v_int r fun s t5 r => ?_
      walk_at "vv"
      refine ⟨⟨_, _, r⟩, ?_⟩
      refine v_told a r (X := fun _ _ => False) (call_link (n := 0) F.lf) (by omega) (fun v' σ1 s' ⟨l, dl, kd, f1, w0, w1, w2, w3, w4, w5, w6, w7, w8, w9, w10, w11, w12⟩ r => ?_) fun _ _ _ _ x _ => x.elim
      subst w0
      obtain ⟨bb', da, db, fa, fb', ka, kb', ins⟩ := LR.insert (p := []) (s := gs) (a := D.rt) (P := []) lr' ho' w1 w2 w3 w4 w5 w6 (hL ▸ w7) w8 w9 w10 w11 w12 (by simp)
      have h_a1 := ins.a1; have h_a3 := ins.a3; have h_b1 := ins.b1; have h_b2 := ins.b2; have h_c1 := ins.c1; have h_c2 := ins.c2; have h_c3 := ins.c3; have h_c4 := ins.c4; have h_d1 := ins.d1; have h_d2 := ins.d2
      rw [hL] at h_a1 h_b1 h_b2 h_c1 h_c2 h_c3 h_c4 h_d1 h_d2
      walk_at "st"; rename_i s r
      refine wpAny_execs_cons ?_
      walk_at "vv"
      refine v_slot a r (h_a1) h_a3 F.lf.sn ins.a2 rfl F.lf.get F.lf.cls fun s r => ?_
      walk_at "vv"
      refine v_setslot a r w7 w10 F.lf.sn F.lf.seta F.lf.over fun s r => ?_
      refine wpAny_execs_cons ?_
      walk_at "vv"
      refine v_setslot a r (h_b1) h_b2 F.lf.sn F.lf.seta F.lf.over fun s r => ?_
      walk_at "vv"
      refine v_slot a r (h_c1) (h_c2) F.lf.sn rfl rfl F.lf.get F.lf.cls fun s r => ?_
      refine v_setslot a r (h_c3) (h_c4) F.lf.sp F.lf.seta F.lf.over fun s r => ?_
      refine wpAny_execs_cons ?_
      walk_at "vv"
      refine v_setslot a r (h_d1) (h_d2) F.lf.sp F.lf.seta F.lf.over fun s r => ?_
      walk_at "vv"
      have h_lr := ins.lr; have h_kp := ins.keep; have h_lk := ins.lk
      rw [hL] at h_lr h_kp h_lk
      have o5 := (ho'.keep h_kp).mono (fp' := foot I D ((⟨l, dl, kd, 1, []⟩ : G) :: gs)) fun x hx => by
        rcases mem_foot.mp hx with q | q | q | q | q | ⟨y, hy, q⟩ | q
        · exact .inl (mem_foot.mpr (.inl q))
        · exact .inl (mem_foot.mpr (.inr (.inl q)))
        · exact .inl (mem_foot.mpr (.inr (.inr (.inl q))))
        · exact .inl (mem_foot.mpr (.inr (.inr (.inr (.inl q)))))
        · exact .inl (mem_foot.mpr (.inr (.inr (.inr (.inr (.inl q))))))
        · rcases List.mem_cons.mp hy with rfl | hy
          · rcases q with q | q | q
            · exact .inr (q ▸ ins.fresh.1)
            · exact .inr (q ▸ ins.fresh.2.1)
            · exact .inr (q ▸ ins.fresh.2.2)
          · exact .inl (mem_foot.mpr (.inr (.inr (.inr (.inr (.inr (.inl ⟨y, hy, q⟩)))))))
        · exact .inl (mem_foot.mpr (.inr (.inr (.inr (.inr (.inr (.inr q)))))))
      have ln5 : Links D _ ((⟨l, dl, kd, 1, []⟩ : G) :: gs) := ⟨kvs, h_lk.trans hkv, fun x v => by
        rw [hlk]
        constructor
        · rintro ⟨y, hy, h⟩
          exact ⟨y, .tail _ hy, h⟩
        · rintro ⟨y, hy, h⟩
          rcases List.mem_cons.mp hy with rfl | hy
          · cases h.1
          · exact ⟨y, hy, h⟩, by rw [tot_cons]; simpa using hll⟩
      refine wpAny_mono (set_rest (n := 0) (tk := tk) (g := ⟨l, dl, kd, 1, []⟩) (z := gs) F rfl hL hsc (a.lower (by omega)) r h_lr ln5 (by rw [tot_cons]; simpa using hl) o5 (by rw [List.map_cons, keysOf_cons]; exact hin) (by walk_at "lk") (by walk_at "lk") (by walk_at "lk")) ?_ fun _ _ x => x
      rintro fl s' ⟨m', σ', r', q0, lc', kp⟩
      refine ⟨m', σ', r', q0, fin lc' (by rw [hput, e]; rfl) ((o5.keep kp).sub fun x hx => ?_) (h_kp.trans kp)⟩
      rcases List.mem_cons.mp hx with rfl | hx
      · exact ⟨_, .head _, rfl, rfl, rfl⟩
      · exact ⟨x, .tail _ hx, rfl, rfl, rfl⟩
end Lfu
end Mine
namespace Mine
set_option pp.deepTerms false
set_option pp.deepTerms.threshold 8
local macro_rules | `(tactic| walk_at "lk") => `(tactic| first | assumption | rfl | (simp only [mset, ofs_inj, String.reduceEq, ↓reduceIte]; first | assumption | rfl) | (simp only [mset, ofs_inj, String.reduceEq, ↓reduceIte]; done))
local macro_rules | `(tactic| walk_at "nm") => `(tactic| (refine v_local (by assumption) (by assumption) (kof (by assumption) (by kernel_rfl)) (by walk_at "lk") ?_ (by kernel_rfl)))
local macro_rules | `(tactic| walk_at "st") => `(tactic| (refine v_store (by assumption) (by assumption) (kof (by assumption) (by kernel_rfl)) fun s r => ?_))
local macro_rules | `(tactic| walk_at "v") => `(tactic| first
  | with_reducible refine wpAny_Return_some ?_
  | with_reducible refine wpAny_Return_none ?_
  | ((with_reducible refine wpAny_Compare1 (hm := ?hm) ?_); (case hm => with_unfolding_all rfl))
  | ((with_reducible refine wpAny_isTrue_Compare1 (hm := ?hm) ?_); (case hm => with_unfolding_all rfl))
  | ((with_reducible refine wpAny_Assign_Name (hs := ?hs) ?_); (case hs => rfl))
  | ((with_reducible refine wpAny_Assign_Subscript (hs := ?hs) ?_); (case hs => rfl))
  | ((with_reducible refine plainObj_wpAny_Assign_Attribute (hs := ?hs) ?_); (case hs => rfl))
  | ((with_reducible refine wpAny_Assign_two (he := ?he) (hw := ?hw) ?_); (case he => rfl); (case hw => rfl))
  | with_reducible refine assign_Attr ?_
  | with_reducible refine assign_Subs ?_
  | with_reducible refine wpAny_assign_Name ?_
  | with_reducible refine Attribute_name ?_
  | with_reducible refine Attribute_any_ ?_
  | with_reducible refine Subscript_ ?_
  | with_reducible refine wpAny_If ?_
  | with_reducible refine wpAny_BinOp ?_
  | with_reducible refine wpAny_UnaryOp ?_
  | with_reducible refine wpAny_Delete ?_
  | with_reducible refine wpAny_deleteEach_cons ?_
  | with_reducible refine wpAny_deleteEach_nil ?_
  | with_reducible refine wpAny_delete_Subscript ?_
  | with_reducible refine wpAny_AugAssign_AttributeAny ?_
  | with_reducible refine wpAny_execs_nil ?_
  | with_reducible refine wpAny_Constant_none ?_
  | with_reducible refine spliced_none ?_
  | with_reducible refine ea_none ?_
  | ((with_reducible refine ea_plain ?_ ?he); (case he => rfl))
  | ((with_reducible refine' methodCall_KW (pl := ?pl) (he := ?he) ?_); (case he => rfl))
  | walk_at "nm"
  | ((with_reducible refine spliced_more ?_ (he := ?he)); (case he => rfl)))
local macro_rules | `(tactic| walk_at "vv") => `(tactic| repeat walk_at "v")
namespace Lfu
variable {prog : Program} {w : World} {K : Frag} {H : Option Value} {n : Nat} {σ : Hp}
def rnames : List Str := ["_LFUCache__root", "_LFUCache__links"]
theorem rn_cls : ∀ nm ∈ clsNames, nm ∉ rnames := by decide +kernel
theorem rn_init : ∀ nm ∈ initNames, nm ∉ rnames := by decide +kernel
theorem mset2_ne {m : Nm} {y : Str} {u v : Value} (h : y ∉ rnames) : mset (mset m "_LFUCache__root" u) "_LFUCache__links" v y = m y := by
  simp only [rnames, List.mem_cons, List.not_mem_nil, or_false, not_or] at h
  unfold mset
  rw [if_neg h.2, if_neg h.1]

theorem body_init {C L x d : Addr} (F : KI K C L) (ok : ClsOK K C) {most : Int} {tk : Tok} {gv : Value} {m : Nm} {N : Nat} {P : Info → Prop} {X : String → Hp → Prop} (hN : N ≤ n) (hN2 : 2 ≤ n)
    (hb : CallT prog w K H N (.ref F.cinit) ⟨[.ref x, .int most tk, gv], []⟩ σ (fun v σ' => v = .none ∧ ∃ I mm', P I ∧ I.x = x ∧ I.C = C ∧ I.d = d ∧ Made σ σ' I mm') X)
    (hs : m "self" = some (.ref x)) (hm : m "maxsize" = some (.int most tk)) (hg : m "getsizeof" = some gv) :
    BodyT prog w K H n (fnScope s_finit) [] (fnBody s_finit) m σ (fun v σ' => v = .none ∧ ∃ I D mm', P I ∧ I.x = x ∧ I.C = C ∧ I.d = d ∧ D.L = L ∧ LC I D σ' mm' ⟨[], [], 0⟩ [] ∧
      (∀ a ∈ foot I D [], a ≠ d → a ≠ x → σ a = none) ∧ ∀ a, a ∉ foot I D [] → σ' a = σ a) X := by
  intro A base os env fs s hsc hcl a r
  refine wpAny_execs_cons ?_
  refine wpAny_Expr_any ?_ (by unfold interactive; rw [a.head.2.1]; rfl) (by rfl)
  walk_at "vv"
  refine v_global a r (kof hsc (by kernel_rfl)) F.gs.hCache ?_ (by kernel_rfl)
  obtain ⟨mc, hg2, hg3⟩ := F.ncinit
  refine v_clsmeth a r F.spC hg2 hg3 rfl fun s r => ?_
  refine v_callK (os := os) a F.kcinit rfl ?_
  walk_at "vv"
  refine ⟨⟨_, _, r⟩, ?_⟩
  refine v_told a r hb hN (fun _ σ' s' ⟨_, I, mm', hP, e1, e2, e3, md⟩ r => ?_) fun _ _ _ _ x u => lv_of_up a u x
  subst e1; subst e2; subst e3
  obtain ⟨j, hj, hd⟩ := md.cnt
  have inst := md.rb.inst
  have hxd : I.x ≠ I.d := md.rb.d_ne.2.2
  have nsin : ∀ {t : Addr}, σ' t = none → t ≠ I.x ∧ t ≠ I.d ∧ t ∉ baseFp I := fun {t} ht => by
    have : t ∉ I.x :: baseFp I := fun h => md.rb.dom h ht
    obtain ⟨q1, q2⟩ : t ≠ I.x ∧ t ∉ baseFp I := by simpa using this
    exact ⟨q1, fun e => q2 (by rw [e]; exact .head _), q2⟩
  refine wpAny_execs_cons ?_
  walk_at "vv"
  refine v_global a r (kof hsc (by kernel_rfl)) F.hLFU ?_ (by kernel_rfl)
  obtain ⟨mc, hg1, hg2, hg3⟩ := F.nLink
  refine v_clsmeth a r hg1 hg2 hg3 rfl fun s r => ?_
  refine v_callK (os := os) a F.lf.kL rfl ?_
  walk_at "vv"
  refine v_int r fun s t5 r => ?_
  walk_at "vv"
  refine ⟨⟨_, _, r⟩, ?_⟩
  refine v_told a r (X := fun _ _ => False) (call_link (n := 0) F.lf) hN2 (fun v' σ1 s' ⟨rt, drt, kd0, f1, w0, w1, w2, w3, w4, w5, w6, w7, w8, w9, w10, w11, w12⟩ r => ?_) fun _ _ _ _ x _ => x.elim
  subst w0
  obtain ⟨rt1, rt2, rt3⟩ := nsin w1
  obtain ⟨dr1, dr2, dr3⟩ := nsin w2
  obtain ⟨kd1, kd2, kd3⟩ := nsin w3
  have s1 : ∀ {t : Addr}, σ' t ≠ none → σ1 t = σ' t := fun {t} h => w12 t (fun e => h (e ▸ w1)) (fun e => h (e ▸ w2)) fun e => h (e ▸ w3)
  walk_at "vv"
  refine v_setown a r (by rw [s1 (by rw [inst]; simp)]; exact inst) (by rw [s1 (by rw [hd]; simp)]; exact hd) (by omega) ok.seta ok.over F.trt ok.dict fun s r => ?_
  walk_at "vv"
  walk_at "st"; rename_i s r
  refine wpAny_execs_cons ?_
  walk_at "vv"
  refine v_setslot a r (by rw [Hp.set_ne _ _ rt2]; exact w7) (by rw [Hp.set_ne _ _ dr2]; exact w10) F.lf.sp F.lf.seta F.lf.over fun s r => ?_
  walk_at "vv"
  refine v_setslot a r (Hp.set_self _ _ _) (by rw [Hp.set_ne _ _ w4.symm, Hp.set_ne _ _ dr2]; exact w10) F.lf.sn F.lf.seta F.lf.over fun s r => ?_
  refine wpAny_execs_cons ?_
  walk_at "vv"
  refine v_dict0 r fun lk s hlk r => ?_
  have lkrt : lk ≠ rt := fun e => by rw [e, Hp.set_self] at hlk; cases hlk
  have lkd : lk ≠ I.d := fun e => by rw [Hp.set_ne _ _ lkrt, Hp.set_ne _ _ lkrt, e, Hp.set_self] at hlk; cases hlk
  have hlk1 : σ1 lk = none := by rw [Hp.set_ne _ _ lkrt, Hp.set_ne _ _ lkrt, Hp.set_ne _ _ lkd] at hlk; exact hlk
  have lkdr : lk ≠ drt := fun e => by rw [e, w10] at hlk1; cases hlk1
  have lkkd : lk ≠ kd0 := fun e => by rw [e, w11] at hlk1; cases hlk1
  have hlk0 : σ' lk = none := by rw [← w12 lk lkrt lkdr lkkd]; exact hlk1
  obtain ⟨lk1, lk2, lk3⟩ := nsin hlk0
  walk_at "vv"
  refine v_setown a r (by rw [Hp.set_ne _ _ lk1.symm, Hp.set_ne _ _ rt1.symm, Hp.set_ne _ _ rt1.symm, Hp.set_ne _ _ hxd, s1 (by rw [inst]; simp)]; exact inst)
    (by rw [Hp.set_ne _ _ lk2.symm, Hp.set_ne _ _ rt2.symm, Hp.set_ne _ _ rt2.symm]; exact Hp.set_self _ _ _) (by omega) ok.seta ok.over F.tlk ok.dict fun s r => ?_
  walk_at "vv"
  have hσ : ∀ {t : Addr}, σ' t = none → t ∉ baseFp I → σ t = none := fun h1 h2 => by rw [← md.same _ h2]; exact h1
  obtain ⟨rb1, rb2, rb3, rb4, rb5, rb6, rb7, rb8, rb9, rb10, rb11⟩ := md.rb
  have dne := md.rb.d_ne
  have same : ∀ {t : Addr} {u v x z y : AO}, t ≠ I.d → t ≠ rt → t ≠ lk → (((((σ1.set I.d u).set rt v).set rt x).set lk z).set I.d y) t = σ1 t := fun h1 h2 h3 => by
    rw [Hp.set_ne _ _ h1, Hp.set_ne _ _ h3, Hp.set_ne _ _ h2, Hp.set_ne _ _ h2, Hp.set_ne _ _ h1]
  have old : ∀ {t : Addr} {u v x z y : AO}, t ≠ I.d → σ' t ≠ none → (((((σ1.set I.d u).set rt v).set rt x).set lk z).set I.d y) t = σ' t := fun h1 h2 => by
    rw [same h1 (fun e => h2 (e ▸ w1)) (fun e => h2 (e ▸ hlk0)), s1 h2]
  refine ⟨_, _, r, rfl, I, ⟨L, rt, drt, kd0, lk⟩, _, hP, rfl, rfl, rfl, rfl, ⟨⟨⟨?_, ⟨_, by omega, Hp.set_self _ _ _⟩, ?_, ?_, ?_, ?_, ?_, ?_, ?_, ?_, rb11⟩, ?_, ?_, ⟨fun _ => rt, fun _ => rt, ?_, fun g hg => (by cases hg), ⟨rfl, rfl, trivial⟩⟩,
      ⟨[], ?_⟩, fun g hg => (by cases hg), ⟨[], ?_⟩, by simp, by simp, fun g hg => (by cases hg), lk3, fun g hg => (by cases hg)⟩, ⟨[], ?_, fun k v => ⟨fun h => (by cases h), fun ⟨g, hg, _⟩ => (by cases hg)⟩, Nat.le_refl _⟩, by decide⟩, ?_, ?_⟩
  · rw [old hxd (by rw [inst]; simp)]; exact inst
  · exact (mset2_ne (rn_init _ (by decide +kernel))).trans rb3
  · rw [old dne.1.symm (by rw [rb4]; simp)]; exact rb4
  · exact (mset2_ne (rn_init _ (by decide +kernel))).trans rb5
  · exact (mset2_ne (rn_init _ (by decide +kernel))).trans rb6
  · intro p hp
    obtain ⟨kvs, q1, q2, q3⟩ := rb7 p hp
    have hpd : p.1 ≠ I.d := fun e => by rw [e, hd] at q1; cases q1
    exact ⟨kvs, by rw [old hpd (by rw [q1]; simp)]; exact q1, q2, q3⟩
  · exact rb8.imp fun _ h => (mset2_ne (rn_init _ (by decide +kernel))).trans h
  · exact rb9.imp fun _ h => (mset2_ne (rn_init _ (by decide +kernel))).trans h
  · intro y hy
    exact (mset2_ne (rn_cls y hy)).trans (rb10 y hy)
  · unfold mset; rw [if_neg (by decide +kernel), if_pos rfl]
  · unfold mset; rw [if_pos rfl]
  · refine ⟨fun j => if j = 2 then some (.ref rt) else if j = 3 then some (.ref rt) else f1 j, t5, 0, ?_, w8, w9, rfl, rfl, ?_⟩
    · rw [Hp.set_ne _ _ rt2, Hp.set_ne _ _ lkrt.symm, Hp.set_self]
    · show _ = some (AO.ns (fun _ => none) 0)
      rw [same dr2 w4.symm lkdr.symm]; exact w10
  · show _ = some (AO.dict [])
    rw [same kd2 w5.symm lkkd.symm]; exact w11
  · show _ = some (AO.dict [])
    rw [Hp.set_ne _ _ lk2, Hp.set_self]
  · show _ = some (AO.dict [])
    rw [Hp.set_ne _ _ lk2, Hp.set_self]
  · intro b hb hne hne2
    rcases mem_foot.mp hb with e | e | e | e | e | ⟨g, hg, _⟩ | e
    · exact absurd e hne2
    · subst e; exact hσ hlk0 lk3
    · subst e; exact hσ w1 rt3
    · subst e; exact hσ w2 dr3
    · subst e; exact hσ w3 kd3
    · cases hg
    · exact md.new b e hne
  · intro b hb
    have hb' := fun h => hb (mem_foot.mpr h)
    simp only [not_or, List.not_mem_nil, false_and, exists_false, not_false_eq_true, true_and, imp_false] at hb'
    obtain ⟨b1, b2, b3, b4, b5, b6⟩ := hb'
    have b7 : b ≠ I.d := fun e => b6 (by rw [e]; exact .head _)
    rw [same b7 b3 b2, w12 b b3 b4 b5]
    exact md.same b b6

theorem make_plain {C L : Addr} (F : KI K C L) (ok : ClsOK K C) {most : Int} {tk : Tok} {X : String → Hp → Prop} (h0 : 0 ≤ most) :
    CallT prog w K H (n + 4) (.ref C) ⟨[.int most tk], []⟩ σ (fun v σ' => ∃ I D mm', v = .ref I.x ∧ I.C = C ∧ I.ds = none ∧ I.most = most ∧ D.L = L ∧ LC I D σ' mm' ⟨[], [], 0⟩ [] ∧
      (∀ a ∈ foot I D [], σ a = none) ∧ ∀ a, a ∉ foot I D [] → σ' a = σ a) X := by
  refine (CallT.make (Q := fun v σ' => ∃ I D mm', v = .ref I.x ∧ I.C = C ∧ I.ds = none ∧ I.most = most ∧ D.L = L ∧ LC I D σ' mm' ⟨[], [], 0⟩ [] ∧
      (∀ a ∈ foot I D [], σ a = none) ∧ ∀ a, a ∉ foot I D [] → σ' a = σ a) F.makes F.ninit F.iinit fun x dx hx hdx hne => ?_)
  refine (CallT.of (binds := [("self", .ref x), ("maxsize", .int most tk), ("getsizeof", .none)]) F.hinit (fun _ _ _ _ _ _ _ _ s X => BindsTo.ofT F.htinit X rfl rfl rfl) (by kernel_rfl) (by kernel_rfl) (by kernel_rfl)
    (body_init (n := n + 2) (x := x) (d := dx) (most := most) (tk := tk) (gv := .none) (N := n + 1) (P := fun I => I.ds = none ∧ I.most = most) F ok (by omega) (by omega) ?_ (by kernel_rfl) (by kernel_rfl) (by kernel_rfl))).mono ?_ fun _ _ x => x
  · refine (CallT.of (n := n) (binds := [("self", .ref x), ("maxsize", .int most tk), ("getsizeof", .none)]) F.hcinit (fun _ _ _ _ _ _ _ _ s X => BindsTo.ofT F.htcinit X rfl rfl rfl) (by kernel_rfl) (by kernel_rfl) (by kernel_rfl)
      (body_init_plain (C := C) (x := x) (d := dx) (tk := tk) ok F.gs h0 (Hp.set_self _ _ _) (by rw [Hp.set_ne _ _ hne.symm]; exact Hp.set_self _ _ _) (by kernel_rfl) (by kernel_rfl) (by kernel_rfl))).mono ?_ fun _ _ x => x
    rintro v σ' ⟨e, dd, mm', md⟩
    exact ⟨e, _, mm', ⟨rfl, rfl⟩, rfl, rfl, rfl, md⟩
  · rintro v σ' ⟨e, I, D, mm', ⟨e1, e2⟩, rfl, rfl, rfl, e3, ro, k1, k2⟩
    refine ⟨e, I, D, mm', rfl, rfl, e1, e2, e3, ro, fun b hb => ?_, fun b hb => ?_⟩
    · by_cases hbx : b = I.x
      · subst hbx; exact hx
      · by_cases hbd : b = I.d
        · subst hbd; exact hdx
        · have := k1 b hb hbd hbx
          rw [Hp.set_ne _ _ hbx, Hp.set_ne _ _ hbd] at this; exact this
    · have h1 : b ≠ I.x := fun e => hb (mem_foot.mpr (.inl e))
      have h3 : b ≠ I.d := fun e => hb (mem_foot.mpr (.inr (.inr (.inr (.inr (.inr (.inr (by rw [e]; exact .head _))))))))
      rw [k2 b hb, Hp.set_ne _ _ h1, Hp.set_ne _ _ h3]
end Lfu
end Mine
namespace Mine
set_option pp.deepTerms false
set_option pp.deepTerms.threshold 8
local macro_rules | `(tactic| walk_at "lk") => `(tactic| first | assumption | rfl | (simp only [mset, ofs_inj, String.reduceEq, ↓reduceIte]; first | assumption | rfl) | (simp only [mset, ofs_inj, String.reduceEq, ↓reduceIte]; done))
local macro_rules | `(tactic| walk_at "nm") => `(tactic| (refine v_local (by assumption) (by assumption) (kof (by assumption) (by kernel_rfl)) (by walk_at "lk") ?_ (by kernel_rfl)))
local macro_rules | `(tactic| walk_at "st") => `(tactic| (refine v_store (by assumption) (by assumption) (kof (by assumption) (by kernel_rfl)) fun s r => ?_))
local macro_rules | `(tactic| walk_at "v") => `(tactic| first
  | with_reducible refine wpAny_Return_some ?_
  | with_reducible refine wpAny_Return_none ?_
  | ((with_reducible refine wpAny_Compare1 (hm := ?hm) ?_); (case hm => with_unfolding_all rfl))
  | ((with_reducible refine wpAny_isTrue_Compare1 (hm := ?hm) ?_); (case hm => with_unfolding_all rfl))
  | ((with_reducible refine wpAny_Assign_Name (hs := ?hs) ?_); (case hs => rfl))
  | ((with_reducible refine wpAny_Assign_Subscript (hs := ?hs) ?_); (case hs => rfl))
  | ((with_reducible refine plainObj_wpAny_Assign_Attribute (hs := ?hs) ?_); (case hs => rfl))
  | ((with_reducible refine wpAny_Assign_two (he := ?he) (hw := ?hw) ?_); (case he => rfl); (case hw => rfl))
  | with_reducible refine assign_Attr ?_
  | with_reducible refine assign_Subs ?_
  | with_reducible refine wpAny_assign_Name ?_
  | with_reducible refine Attribute_name ?_
  | with_reducible refine Attribute_any_ ?_
  | with_reducible refine Subscript_ ?_
  | with_reducible refine wpAny_If ?_
  | with_reducible refine wpAny_BinOp ?_
  | with_reducible refine wpAny_UnaryOp ?_
  | with_reducible refine wpAny_Delete ?_
  | with_reducible refine wpAny_deleteEach_cons ?_
  | with_reducible refine wpAny_deleteEach_nil ?_
  | with_reducible refine wpAny_delete_Subscript ?_
  | with_reducible refine wpAny_AugAssign_AttributeAny ?_
  | with_reducible refine wpAny_execs_nil ?_
  | with_reducible refine wpAny_Constant_none ?_
  | with_reducible refine spliced_none ?_
  | with_reducible refine ea_none ?_
  | ((with_reducible refine ea_plain ?_ ?he); (case he => rfl))
  | ((with_reducible refine' methodCall_KW (pl := ?pl) (he := ?he) ?_); (case he => rfl))
  | walk_at "nm"
  | ((with_reducible refine spliced_more ?_ (he := ?he)); (case he => rfl)))
local macro_rules | `(tactic| walk_at "vv") => `(tactic| repeat walk_at "v")
namespace L2
variable {prog : Program} {w : World} {K : Frag} {H : Option Value} {n : Nat} {σ : Hp}

structure Kept (O : Addr → Prop) (σ σ' : Hp) : Prop where
  out : ∀ a x, O a → σ a = some x → σ' a = some x
theorem Kept.trans {O : Addr → Prop} {σ₁ σ₂ σ₃ : Hp} (x : Kept O σ₁ σ₂) (y : Kept O σ₂ σ₃) : Kept O σ₁ σ₃ := ⟨fun a o h e => y.out a o h (x.out a o h e)⟩
structure Pol (Ω : Type) where
  held : Ω → List (Int × Value)
  at_ : Ω → Nat → Ω
  atHeld : ∀ ω p, held (at_ ω p) = held ω
  hit : Ω → Int → Ω → Prop
  cold : Ω → Int → Ω → Prop
  full : Ω → Int → Int → Ω → Prop
def Serves {Ω : Type} (P : Pol Ω) (room : Nat) : List Int → Nat → Ω → Nat → Prop
  | [], _, _, m => m = 0
  | w :: ws, p, ω, m => if (aget (P.held ω) w).isSome = true then ∃ ω', P.held ω' = P.held ω ∧ P.hit (P.at_ ω p) w ω' ∧ Serves P room ws (p + 1) ω' m
    else ∃ m' t, m = m' + 1 ∧ if (P.held ω).length < room then ∃ ω', P.held ω' = P.held ω ++ [(w, .int p t)] ∧ P.cold (P.at_ ω p) w ω' ∧ Serves P room ws (p + 1) ω' m'
      else ∃ ω' y, (aget (P.held ω) y).isSome = true ∧ P.held ω' = adel (P.held ω) y ++ [(w, .int p t)] ∧ P.full (P.at_ ω p) w y ω' ∧ Serves P room ws (p + 1) ω' m'

structure Serve (prog : Program) (w : World) (K : Frag) (I : Info) (room : Nat) (now : Addr) {Ω : Type} (P : Pol Ω) (fixd : List Addr) (O : Addr → Prop) where
  pre : Hp → Ω → Prop
  rep : Hp → Ω → Prop
  len : Nat
  F : KA K I.C
  ok : ClsOK K I.C
  weak : ∀ {σ ω}, rep σ ω → pre σ ω
  rb : ∀ {σ ω}, pre σ ω → ∃ mm b, RB σ I mm b ∧ b.data = P.held ω
  lvl : Nat
  sd_hit : ∀ {σ ω k tk v dv}, rep σ ω → aget (P.held ω) k = some v → CallT prog w K none lvl (.ref F.sd) ⟨[.ref I.x, .int k tk, dv], []⟩ σ (fun r σ' => r = v ∧ Kept O σ σ' ∧ ∃ ω', pre σ' ω' ∧ P.held ω' = P.held ω ∧ P.hit ω k ω') (fun _ _ => False)
  sd_cold : ∀ {σ ω k tk dv}, rep σ ω → aget (P.held ω) k = none → (P.held ω).length < room → CallT prog w K none lvl (.ref F.sd) ⟨[.ref I.x, .int k tk, dv], []⟩ σ (fun r σ' => r = dv ∧ Kept O σ σ' ∧ ∃ ω', pre σ' ω' ∧ P.held ω' = P.held ω ++ [(k, dv)] ∧ P.cold ω k ω') (fun _ _ => False)
  sd_full : ∀ {σ ω k tk dv}, rep σ ω → aget (P.held ω) k = none → (P.held ω).length = room → CallT prog w K none lvl (.ref F.sd) ⟨[.ref I.x, .int k tk, dv], []⟩ σ (fun r σ' => r = dv ∧ Kept O σ σ' ∧ ∃ ω' y, pre σ' ω' ∧ (aget (P.held ω) y).isSome = true ∧ P.held ω' = adel (P.held ω) y ++ [(k, dv)] ∧ P.full ω k y ω') (fun _ _ => False)
  frame : ∀ {σ ω a x}, pre σ ω → (O a ∨ σ a = none) → a ≠ now → a ∉ fixd → pre (σ.set a x) ω
  frameR : ∀ {σ ω a x}, rep σ ω → (O a ∨ σ a = none) → a ≠ now → a ∉ fixd → rep (σ.set a x) ω
  tick : ∀ {σ ω p t}, pre σ ω → p < len → rep (σ.set now (.list [.int (p : Nat) t])) (P.at_ ω p)

structure Books (room : Nat) (h : List (Int × Value)) (ll : List (Int × Int)) : Prop where
  nd : (h.map (·.1)).Nodup
  le : h.length ≤ room
  val : ∀ k v, aget h k = some v → ∃ p t, v = .int p t ∧ aget ll k = some p
  len : h.length = min room ll.length
  all : ll.length ≤ room → ∀ k, (aget ll k).isSome = true → (aget h k).isSome = true
theorem Books.start {room : Nat} : Books room [] [] := ⟨by simp, Nat.zero_le _, fun k v h => (by cases h), by simp, fun _ k h => (by cases h)⟩
theorem aget_none_mem {α : Type} {l : List (Int × α)} {k : Int} (h : aget l k = none) : k ∉ l.map (·.1) := by
  intro hm
  obtain ⟨e, he, hk⟩ := List.mem_map.mp hm
  unfold aget at h
  rw [Option.map_eq_none_iff, List.find?_eq_none] at h
  exact h e he (by simpa using hk)
theorem aget_snoc {α : Type} (l : List (Int × α)) (k x : Int) (v : α) (h : aget l k = none) : aget (l ++ [(k, v)]) x = if x = k then some v else aget l x := by
  have e : l ++ [(k, v)] = aput l k v := by
    unfold aput
    rw [if_neg]
    intro q
    obtain ⟨e, he, hk⟩ := List.any_eq_true.mp q
    exact aget_none_mem h (by rw [← (by simpa using hk : e.1 = k)]; exact List.mem_map_of_mem (f := (·.1)) he)
  rw [e, aget_aput]
theorem aput_len_new {α : Type} {l : List (Int × α)} {k : Int} {v : α} (h : aget l k = none) : (aput l k v).length = l.length + 1 := by
  unfold aput
  rw [if_neg]
  · simp
  · intro q
    obtain ⟨e, he, hk⟩ := List.any_eq_true.mp q
    exact aget_none_mem h (by rw [← (by simpa using hk : e.1 = k)]; exact List.mem_map_of_mem (f := (·.1)) he)
theorem aput_len_old {α : Type} {l : List (Int × α)} {k : Int} {v : α} (h : (aget l k).isSome = true) : (aput l k v).length = l.length := by
  unfold aput
  rw [if_pos]
  · simp
  · unfold aget at h
    rw [Option.isSome_map, List.find?_isSome] at h
    exact List.any_eq_true.mpr h
theorem Books.cold {room : Nat} {h : List (Int × Value)} {ll : List (Int × Int)} {k p : Int} {t : Tok} (b : Books room h ll) (hk : aget h k = none) (hl : h.length < room) : Books room (h ++ [(k, .int p t)]) (aput ll k p) := by
  have hlt : ll.length < room := by have := b.len; omega
  have hn : aget ll k = none := by
    cases e : aget ll k with
    | none => rfl
    | some q => have := b.all (by omega) k (by rw [e]; rfl); rw [hk] at this; cases this
  refine ⟨?_, by simp; omega, fun x v hv => ?_, ?_, fun hle x hx => ?_⟩
  · rw [List.map_append, List.nodup_append]
    refine ⟨b.nd, by simp, fun x hx y hy => ?_⟩
    simp at hy; subst hy
    rintro rfl
    exact aget_none_mem hk hx
  · rw [aget_snoc _ _ _ _ hk] at hv
    rw [aget_aput]
    split at hv
    · next q => cases hv; rw [if_pos q]; exact ⟨p, t, rfl, rfl⟩
    · next q => rw [if_neg q]; exact b.val x v hv
  · rw [aput_len_new hn]; simp; have := b.len; omega
  · rw [aget_snoc _ _ _ _ hk]
    split
    · rfl
    · next q =>
      rw [aget_aput, if_neg q] at hx
      exact b.all (by omega) x hx
theorem adel_len_nd {h : List (Int × Value)} {y : Int} (hn : (h.map (·.1)).Nodup) (hy : (aget h y).isSome = true) : (adel h y).length + 1 = h.length := by
  induction h with
  | nil => cases hy
  | cons a t ih =>
    obtain ⟨h1, h2⟩ := List.nodup_cons.mp hn
    unfold adel
    by_cases ha : a.1 = y
    · rw [List.filter_cons_of_neg (by simp [ha])]
      have : t.filter (fun e => decide (e.1 ≠ y)) = t := List.filter_eq_self.mpr fun e he => by
        simp only [decide_eq_true_eq]
        intro q
        exact h1 (by show a.1 ∈ _; rw [ha, ← q]; exact List.mem_map_of_mem (f := (·.1)) he)
      rw [this]; rfl
    · rw [List.filter_cons_of_pos (by simpa using ha)]
      simp only [List.length_cons]
      have := ih h2 (by
        unfold aget at hy ⊢
        rw [List.find?_cons] at hy
        simpa [ha] using hy)
      unfold adel at this
      omega
theorem Books.full {room : Nat} {h : List (Int × Value)} {ll : List (Int × Int)} {k p y : Int} {t : Tok} (b : Books room h ll) (hk : aget h k = none) (hl : h.length = room) (hr : 1 ≤ room) (hy : (aget h y).isSome = true) : Books room (adel h y ++ [(k, .int p t)]) (aput ll k p) := by
  have hd := adel_len_nd b.nd hy
  have hkd : aget (adel h y) k = none := by rw [aget_adel]; split; rfl; exact hk
  have hge : room ≤ ll.length := by have := b.len; omega
  have hlen : ll.length ≤ (aput ll k p).length := by
    cases e : aget ll k with
    | none => rw [aput_len_new e]; omega
    | some q => rw [aput_len_old (by rw [e]; rfl)]; exact Nat.le_refl _
  refine ⟨?_, by simp; omega, fun x v hv => ?_, by simp; omega, fun hle x hx => ?_⟩
  · rw [List.map_append, List.nodup_append]
    refine ⟨b.nd.sublist ((List.filter_sublist).map _), by simp, fun x hx z hz => ?_⟩
    simp at hz; subst hz
    rintro rfl
    exact aget_none_mem hkd hx
  · rw [aget_snoc _ _ _ _ hkd] at hv
    rw [aget_aput]
    split at hv
    · next q => cases hv; rw [if_pos q]; exact ⟨p, t, rfl, rfl⟩
    · next q =>
      rw [if_neg q]
      rw [aget_adel] at hv
      split at hv
      · cases hv
      · exact b.val x v hv
  · -- all seen are held, so k, which is not, is new: then more are seen than there is room
    exfalso
    have h1 : ll.length = room := by omega
    cases e : aget ll k with
    | none => rw [aput_len_new e] at hle; omega
    | some q => have := b.all (by omega) k (by rw [e]; rfl); rw [hk] at this; cases this
end L2
end Mine
namespace Mine
set_option pp.deepTerms false
set_option pp.deepTerms.threshold 8
local macro_rules | `(tactic| walk_at "lk") => `(tactic| first | assumption | rfl | (simp only [mset, ofs_inj, String.reduceEq, ↓reduceIte]; first | assumption | rfl) | (simp only [mset, ofs_inj, String.reduceEq, ↓reduceIte]; done))
local macro_rules | `(tactic| walk_at "nm") => `(tactic| (refine v_local (by assumption) (by assumption) (kof (by assumption) (by kernel_rfl)) (by walk_at "lk") ?_ (by kernel_rfl)))
local macro_rules | `(tactic| walk_at "st") => `(tactic| (refine v_store (by assumption) (by assumption) (kof (by assumption) (by kernel_rfl)) fun s r => ?_))
local macro_rules | `(tactic| walk_at "v") => `(tactic| first
  | with_reducible refine wpAny_Return_some ?_
  | with_reducible refine wpAny_Return_none ?_
  | ((with_reducible refine wpAny_Compare1 (hm := ?hm) ?_); (case hm => with_unfolding_all rfl))
  | ((with_reducible refine wpAny_isTrue_Compare1 (hm := ?hm) ?_); (case hm => with_unfolding_all rfl))
  | ((with_reducible refine wpAny_Assign_Name (hs := ?hs) ?_); (case hs => rfl))
  | ((with_reducible refine wpAny_Assign_Subscript (hs := ?hs) ?_); (case hs => rfl))
  | ((with_reducible refine plainObj_wpAny_Assign_Attribute (hs := ?hs) ?_); (case hs => rfl))
  | ((with_reducible refine wpAny_Assign_two (he := ?he) (hw := ?hw) ?_); (case he => rfl); (case hw => rfl))
  | with_reducible refine assign_Attr ?_
  | with_reducible refine assign_Subs ?_
  | with_reducible refine wpAny_assign_Name ?_
  | with_reducible refine Attribute_name ?_
  | with_reducible refine Attribute_any_ ?_
  | with_reducible refine Subscript_ ?_
  | with_reducible refine wpAny_If ?_
  | with_reducible refine wpAny_BinOp ?_
  | with_reducible refine wpAny_UnaryOp ?_
  | with_reducible refine wpAny_Delete ?_
  | with_reducible refine wpAny_deleteEach_cons ?_
  | with_reducible refine wpAny_deleteEach_nil ?_
  | with_reducible refine wpAny_delete_Subscript ?_
  | with_reducible refine wpAny_AugAssign_AttributeAny ?_
  | with_reducible refine wpAny_execs_nil ?_
  | with_reducible refine wpAny_Constant_none ?_
  | with_reducible refine spliced_none ?_
  | with_reducible refine ea_none ?_
  | ((with_reducible refine ea_plain ?_ ?he); (case he => rfl))
  | ((with_reducible refine' methodCall_KW (pl := ?pl) (he := ?he) ?_); (case he => rfl))
  | walk_at "nm"
  | ((with_reducible refine spliced_more ?_ (he := ?he)); (case he => rfl)))
local macro_rules | `(tactic| walk_at "vv") => `(tactic| repeat walk_at "v")
namespace L2
variable {prog : Program} {w : World} {K : Frag} {H : Option Value} {n : Nat} {σ : Hp}
def s_rfor : Stmt := stmtAt (fnBody s_run) 2

structure Turned {Ω : Type} (P : Pol Ω) (room : Nat) (ws : List Int) (ω₀ : Ω) (i : Nat) (ω : Ω) (mi : Nat) (ll : List (Int × Int)) : Prop where
  run : ∀ m, Serves P room (ws.drop i) i ω m → Serves P room ws 0 ω₀ (mi + m)
  books : Books room (P.held ω) ll
  few : ll.length ≤ i
  le : mi ≤ i

theorem Turned.hit {Ω : Type} {P : Pol Ω} {room : Nat} {ws : List Int} {ω₀ ω ω' : Ω} {i mi : Nat} {ll : List (Int × Int)} {k : Int} (T : Turned P room ws ω₀ i ω mi ll) (hk : ws[i]? = some k) (hin : (aget (P.held ω) k).isSome = true) (h1 : P.held ω' = P.held ω) (h2 : P.hit (P.at_ ω i) k ω') :
    Turned P room ws ω₀ (i + 1) ω' mi ll := by
  obtain ⟨hlt, hk'⟩ := List.getElem?_eq_some_iff.mp hk
  refine ⟨fun m h => T.run m ?_, by rw [h1]; exact T.books, by have := T.few; omega, by have := T.le; omega⟩
  rw [List.drop_eq_getElem_cons hlt, hk', Serves, if_pos hin]
  exact ⟨ω', h1, h2, h⟩
theorem Turned.cold {Ω : Type} {P : Pol Ω} {room : Nat} {ws : List Int} {ω₀ ω ω' : Ω} {i mi : Nat} {ll : List (Int × Int)} {k : Int} {t : Tok} (T : Turned P room ws ω₀ i ω mi ll) (hk : ws[i]? = some k) (hin : aget (P.held ω) k = none) (hl : (P.held ω).length < room)
    (h1 : P.held ω' = P.held ω ++ [(k, .int i t)]) (h2 : P.cold (P.at_ ω i) k ω') : Turned P room ws ω₀ (i + 1) ω' (mi + 1) (aput ll k i) := by
  obtain ⟨hlt, hk'⟩ := List.getElem?_eq_some_iff.mp hk
  refine ⟨fun m h => ?_, by rw [h1]; exact T.books.cold hin hl, by have := T.few; have := aput_len ll k (i : Int); omega, by have := T.le; omega⟩
  rw [show mi + 1 + m = mi + (m + 1) by omega]
  refine T.run _ ?_
  rw [List.drop_eq_getElem_cons hlt, hk', Serves, if_neg (by rw [hin]; decide)]
  exact ⟨m, t, rfl, by rw [if_pos hl]; exact ⟨ω', h1, h2, h⟩⟩
theorem Turned.full {Ω : Type} {P : Pol Ω} {room : Nat} {ws : List Int} {ω₀ ω ω' : Ω} {i mi : Nat} {ll : List (Int × Int)} {k y : Int} {t : Tok} (T : Turned P room ws ω₀ i ω mi ll) (hr : 1 ≤ room) (hk : ws[i]? = some k) (hin : aget (P.held ω) k = none) (hl : (P.held ω).length = room) (hy : (aget (P.held ω) y).isSome = true)
    (h1 : P.held ω' = adel (P.held ω) y ++ [(k, .int i t)]) (h2 : P.full (P.at_ ω i) k y ω') : Turned P room ws ω₀ (i + 1) ω' (mi + 1) (aput ll k i) := by
  obtain ⟨hlt, hk'⟩ := List.getElem?_eq_some_iff.mp hk
  refine ⟨fun m h => ?_, by rw [h1]; exact T.books.full hin hl hr hy, by have := T.few; have := aput_len ll k (i : Int); omega, by have := T.le; omega⟩
  rw [show mi + 1 + m = mi + (m + 1) by omega]
  refine T.run _ ?_
  rw [List.drop_eq_getElem_cons hlt, hk', Serves, if_neg (by rw [hin]; decide)]
  exact ⟨m, t, rfl, by rw [if_neg (by omega)]; exact ⟨ω', y, hy, h1, h2, h⟩⟩

def RunNames (m : Nm) (x lw dl now : Addr) (room : Int) (tr : Tok) : Prop := m "store" = some (.ref x) ∧ m "room" = some (.int room tr) ∧ m "now" = some (.ref now) ∧ m "laid" = some (.ref dl)
theorem RunNames.keep {m m' : Nm} {x lw dl now : Addr} {room : Int} {tr : Tok} (h : RunNames m x lw dl now room tr) (k : ∀ y : Str, y ≠ "place" → y ≠ "want" → y ≠ "misses" → m' y = m y) : RunNames m' x lw dl now room tr :=
  ⟨(k _ (by decide +kernel) (by decide +kernel) (by decide +kernel)).trans h.1, (k _ (by decide +kernel) (by decide +kernel) (by decide +kernel)).trans h.2.1, (k _ (by decide +kernel) (by decide +kernel) (by decide +kernel)).trans h.2.2.1, (k _ (by decide +kernel) (by decide +kernel) (by decide +kernel)).trans h.2.2.2⟩

theorem turn_rest {A : Around} {base : Heap} {os : OsState} {env : Env} {fs : List (Env × Nm)} {m : Nm} {s : Shared} {X : String → Hp → Prop} {I : Info} {room : Nat} {now lw dl : Addr} {Ω : Type} {P : Pol Ω} {fixd : List Addr} {O : Addr → Prop} (S : Serve prog w K I room now P fixd O)
    {ws : List Int} {ω₀ ω : Ω} {i mi m2 : Nat} {ll ll2 : List (Int × Int)} {kvs : List (Int × Value)} {k : Int} {tk tp tr tm : Tok} {Q : Flow → Shared → Prop}
    (a : Act K none n A base (env :: fs.map (·.1))) (hn : S.lvl + 3 ≤ n) (hsc : env.scope = fnScope s_run) (r : R prog w base os ((env, m) :: fs) σ s) (hL : nsIn K mainGlobals "len" = some none) (hM : nsIn K mainGlobals "min" = some none)
    (nm : RunNames m I.x lw dl now room tr) (h1 : m "want" = some (.int k tk)) (h2 : m "place" = some (.int i tp)) (h3 : m "misses" = some (.int m2 tm)) (hr : 1 ≤ room)
    (T : Turned P room ws ω₀ i ω mi ll) (hk : ws[i]? = some k) (hi : i ≤ 100) (rp : S.rep σ (P.at_ ω i)) (hdl : σ dl = some (.dict kvs)) (hkv : IntKV kvs ll2) (Odl : O dl)
    (hcase : (aget (P.held ω) k).isSome = true ∧ ll2 = ll ∧ m2 = mi ∨ aget (P.held ω) k = none ∧ ll2 = aput ll k i ∧ m2 = mi + 1)
    (fin : ∀ σ' ω' s', R prog w base os ((env, m) :: fs) σ' s' → S.pre σ' ω' → Turned P room ws ω₀ (i + 1) ω' m2 ll2 → (∀ a x, O a → σ a = some x → σ' a = some x) → Q .next s') :
    wpAny (model prog w) A (execs ((forBody s_rfor).drop 2) env) Q (Lv prog w A base os env fs X) s := by
  obtain ⟨n1, n2, n3, n4⟩ := nm
  obtain ⟨mm, b, rb, hb⟩ := S.rb (S.weak rp)
  obtain ⟨j, hj, hd⟩ := rb.ns
  have sd : CallT prog w K none S.lvl (.ref S.F.sd) ⟨[.ref I.x, .int k tk, .int i tp], []⟩ σ (fun r σ' => (∃ p t, r = .int p t ∧ aget ll2 k = some p) ∧ Kept O σ σ' ∧ ∃ ω', S.pre σ' ω' ∧ Turned P room ws ω₀ (i + 1) ω' m2 ll2) (fun _ _ => False) := by
    rcases hcase with ⟨c1, rfl, rfl⟩ | ⟨c1, rfl, rfl⟩
    · obtain ⟨v, hv⟩ := Option.isSome_iff_exists.mp c1
      refine (S.sd_hit (v := v) (tk := tk) (dv := .int i tp) rp (by rw [P.atHeld]; exact hv)).mono (fun r σ' ⟨q1, q2, ω', q3, q4, q5⟩ => ?_) fun _ _ x => x
      rw [P.atHeld] at q4
      obtain ⟨p, t, e1, e2⟩ := T.books.val k v hv
      exact ⟨⟨p, t, q1.trans e1, e2⟩, q2, ω', q3, T.hit hk c1 q4 q5⟩
    · by_cases hl : (P.held ω).length < room
      · refine (S.sd_cold (tk := tk) (dv := .int i tp) rp (by rw [P.atHeld]; exact c1) (by rw [P.atHeld]; exact hl)).mono (fun r σ' ⟨q1, q2, ω', q3, q4, q5⟩ => ?_) fun _ _ x => x
        rw [P.atHeld] at q4
        exact ⟨⟨i, tp, q1, by rw [aget_aput, if_pos rfl]⟩, q2, ω', q3, T.cold hk c1 hl q4 q5⟩
      · have hl' : (P.held ω).length = room := by have := T.books.le; omega
        refine (S.sd_full (tk := tk) (dv := .int i tp) rp (by rw [P.atHeld]; exact c1) (by rw [P.atHeld]; exact hl')).mono (fun r σ' ⟨q1, q2, ω', y, q3, q4, q5, q6⟩ => ?_) fun _ _ x => x
        rw [P.atHeld] at q4 q5
        exact ⟨⟨i, tp, q1, by rw [aget_aput, if_pos rfl]⟩, q2, ω', q3, T.full hr hk c1 hl' q4 q5 q6⟩
  refine wpAny_execs_cons ?_
  walk_at "vv"
  refine v_meth a r rb.inst hd (rb.free _ (by decide +kernel)) S.ok.get S.F.nsd S.F.isd ?_
  refine v_callK (os := os) a S.F.ksd rfl ?_
  walk_at "vv"
  refine ⟨⟨_, _, r⟩, ?_⟩
  refine v_told a r sd (by omega) (fun v σ' s' ⟨⟨p, t, hv, hp⟩, kp, ω', rp', T'⟩ r => ?_) fun _ _ _ _ x _ => x.elim
  subst hv
  have hdl' : σ' dl = some (.dict kvs) := kp.out _ _ Odl hdl
  have hget := hkv.get k
  rw [hp] at hget
  obtain ⟨t0, hget⟩ : ∃ t, aget kvs k = some (.int p t) := hget
  walk_at "vv"
  refine v_dmeth r hdl' PySem.F.slot_dict_get (by with_unfolding_all rfl) ?_
  refine v_callB rfl ?_
  walk_at "vv"
  refine v_dget1 r hdl' fun s r => ?_
  rw [valueAt_eq, hget]
  refine v_ne ?_
  refine v_truth ?_
  simp only [bne_self_eq_false, Bool.false_eq_true, if_false]
  refine wpAny_execs_nil ?_
  -- len(store) != min(room, len(laid))
  obtain ⟨mm', b', rb', hb'⟩ := S.rb rp'
  have hbk := T'.books.len
  have hlenll := hkv.len
  have hfew := T'.few
  refine wpAny_execs_cons ?_
  walk_at "v"
  refine wpAny_isTrue_Compare1 (hm := by with_unfolding_all rfl) ?_
  refine wpAny_Call_ofName ?_
  refine v_builtin a r (kof hsc (by kernel_rfl)) hL (v := .builtin "len") (by kernel_rfl) (by decide +kernel) ?_ (by kernel_rfl)
  refine v_callB rfl ?_
  walk_at "vv"
  refine v_size (n := n - 2) (a.lower (by omega)) r S.F S.ok rb' fun s t1 r => ?_
  walk_at "vv"
  refine wpAny_Call_ofName ?_
  refine v_builtin a r (kof hsc (by kernel_rfl)) hM (v := .builtin "min") (by kernel_rfl) (by decide +kernel) ?_ (by kernel_rfl)
  refine v_callB rfl ?_
  walk_at "vv"
  refine wpAny_Call_ofName ?_
  refine v_builtin a r (kof hsc (by kernel_rfl)) hL (v := .builtin "len") (by kernel_rfl) (by decide +kernel) ?_ (by kernel_rfl)
  refine v_callB rfl ?_
  walk_at "vv"
  refine v_dlen r hdl' (by omega) fun s t2 r => ?_
  walk_at "vv"
  refine v_minN' a r (F.args_min2 _ _) (by simp) (.cons _ _ (.cons _ _ .nil)) fun M t3 σ'' s'' q1 q2 q3 r => ?_
  have r := r.forget q3
  refine v_ne ?_
  refine v_truth ?_
  have hM : ((b'.data.length : Int) != M) = false := by
    rw [bne_eq_false_iff_eq, hb', hbk]
    simp only [List.mem_cons, List.not_mem_nil, or_false] at q1
    have h1 := q2 (room : Int) (.head _)
    have h2 := q2 (kvs.length : Int) (.tail _ (.head _))
    rcases q1 with q1 | q1 <;> omega
  rw [hM, if_neg (by decide)]
  refine wpAny_execs_nil ?_
  refine wpAny_execs_nil ?_
  exact fin σ' ω' _ r rp' T' fun a x => kp.out a x
end L2
end Mine
namespace Mine
set_option pp.deepTerms false
set_option pp.deepTerms.threshold 8
local macro_rules | `(tactic| walk_at "lk") => `(tactic| first | assumption | rfl | (simp only [mset, ofs_inj, String.reduceEq, ↓reduceIte]; first | assumption | rfl) | (simp only [mset, ofs_inj, String.reduceEq, ↓reduceIte]; done))
local macro_rules | `(tactic| walk_at "nm") => `(tactic| (refine v_local (by assumption) (by assumption) (kof (by assumption) (by kernel_rfl)) (by walk_at "lk") ?_ (by kernel_rfl)))
local macro_rules | `(tactic| walk_at "st") => `(tactic| (refine v_store (by assumption) (by assumption) (kof (by assumption) (by kernel_rfl)) fun s r => ?_))
local macro_rules | `(tactic| walk_at "v") => `(tactic| first
  | with_reducible refine wpAny_Return_some ?_
  | with_reducible refine wpAny_Return_none ?_
  | ((with_reducible refine wpAny_Compare1 (hm := ?hm) ?_); (case hm => with_unfolding_all rfl))
  | ((with_reducible refine wpAny_isTrue_Compare1 (hm := ?hm) ?_); (case hm => with_unfolding_all rfl))
  | ((with_reducible refine wpAny_Assign_Name (hs := ?hs) ?_); (case hs => rfl))
  | ((with_reducible refine wpAny_Assign_Subscript (hs := ?hs) ?_); (case hs => rfl))
  | ((with_reducible refine plainObj_wpAny_Assign_Attribute (hs := ?hs) ?_); (case hs => rfl))
  | ((with_reducible refine wpAny_Assign_two (he := ?he) (hw := ?hw) ?_); (case he => rfl); (case hw => rfl))
  | with_reducible refine assign_Attr ?_
  | with_reducible refine assign_Subs ?_
  | with_reducible refine wpAny_assign_Name ?_
  | with_reducible refine Attribute_name ?_
  | with_reducible refine Attribute_any_ ?_
  | with_reducible refine Subscript_ ?_
  | with_reducible refine wpAny_If ?_
  | with_reducible refine wpAny_BinOp ?_
  | with_reducible refine wpAny_UnaryOp ?_
  | with_reducible refine wpAny_Delete ?_
  | with_reducible refine wpAny_deleteEach_cons ?_
  | with_reducible refine wpAny_deleteEach_nil ?_
  | with_reducible refine wpAny_delete_Subscript ?_
  | with_reducible refine wpAny_AugAssign_AttributeAny ?_
  | with_reducible refine wpAny_execs_nil ?_
  | with_reducible refine wpAny_Constant_none ?_
  | with_reducible refine spliced_none ?_
  | with_reducible refine ea_none ?_
  | ((with_reducible refine ea_plain ?_ ?he); (case he => rfl))
  | ((with_reducible refine' methodCall_KW (pl := ?pl) (he := ?he) ?_); (case he => rfl))
  | walk_at "nm"
  | ((with_reducible refine spliced_more ?_ (he := ?he)); (case he => rfl)))
local macro_rules | `(tactic| walk_at "vv") => `(tactic| repeat walk_at "v")
namespace L2
variable {prog : Program} {w : World} {K : Frag} {H : Option Value} {n : Nat} {σ : Hp}

theorem v_name {A : Around} {base : Heap} {os : OsState} {env : Env} {fs : List (Env × Nm)} {m : Nm} {s : Shared} {E : Value → Shared → Prop} {x : Str} {v : Value} {Q : Value → Shared → Prop} (a : Act K H n A base (env :: fs.map (·.1))) (r : R prog w base os ((env, m) :: fs) σ s)
    (hl : env.kindOf x = some .local) (hv : m x = some v) (h : Q v s) : wpAny (model prog w) A (loadName env x) Q E s := wpAny_loadName_local a.head.2.1 hl r.ns hv h
theorem turn_walk {A : Around} {base : Heap} {os : OsState} {env : Env} {fs : List (Env × Nm)} {m : Nm} {s : Shared} {X : String → Hp → Prop} {I : Info} {room : Nat} {now lw dl : Addr} {Ω : Type} {P : Pol Ω} {fixd : List Addr} {O : Addr → Prop} (S : Serve prog w K I room now P fixd O)
    {ws : List Int} {ω₀ ω : Ω} {i mi : Nat} {ll : List (Int × Int)} {kvs : List (Int × Value)} {k : Int} {tk tp tr tm : Tok} {v0 : Value} {Q : Flow → Shared → Prop}
    (a : Act K none n A base (env :: fs.map (·.1))) (hn : S.lvl + 3 ≤ n) (hsc : env.scope = fnScope s_run) (r : R prog w base os ((env, m) :: fs) σ s) (hL : nsIn K mainGlobals "len" = some none) (hM : nsIn K mainGlobals "min" = some none)
    (nm : RunNames m I.x lw dl now room tr) (h1 : m "want" = some (.int k tk)) (h2 : m "place" = some (.int i tp)) (h3 : m "misses" = some (.int mi tm)) (hr : 1 ≤ room)
    (T : Turned P room ws ω₀ i ω mi ll) (hk : ws[i]? = some k) (hi : i ≤ 100) (hil : i < S.len) (rp : S.pre σ ω) (hnow : σ now = some (.list [v0])) (hdl : σ dl = some (.dict kvs)) (hkv : IntKV kvs ll) (Odl : O dl) (Onow : O now) (hfx : dl ∉ fixd)
    (fin : ∀ m' σ' ω' s' kvs' ll' mi' tm', R prog w base os ((env, m') :: fs) σ' s' → RunNames m' I.x lw dl now room tr → m' "misses" = some (.int (mi' : Nat) tm') → S.pre σ' ω' → Turned P room ws ω₀ (i + 1) ω' mi' ll' → σ' dl = some (.dict kvs') → IntKV kvs' ll' → σ' now = some (.list [.int i tp]) →
      (∀ a x, O a → a ≠ dl → a ≠ now → σ a = some x → σ' a = some x) → Q .next s') :
    wpAny (model prog w) A (execs (forBody s_rfor) env) Q (Lv prog w A base os env fs X) s := by
  obtain ⟨n1, n2, n3, n4⟩ := id nm
  have hdn : dl ≠ now := fun e => by rw [e, hnow] at hdl; cases hdl
  refine wpAny_execs_cons ?_
  walk_at "vv"
  refine v_int r fun s t1 r => ?_
  refine v_lset (k := 0) r hnow (by simp) (by simp) fun s r => ?_
  have rp1 := S.tick (p := i) (t := tp) rp hil
  refine wpAny_execs_cons ?_
  walk_at "vv"
  obtain ⟨mm, b, rb, hb⟩ := S.rb (S.weak rp1)
  rw [P.atHeld] at hb
  refine v_hasnot (n := n - 1) (a.lower (by omega)) r S.F S.ok rb fun s r => ?_
  refine v_truth ?_
  have hdl1 : (σ.set now (.list [.int i tp])) dl = some (.dict kvs) := by rw [Hp.set_ne _ _ hdn]; exact hdl
  have hlen := hkv.len
  have hfew := T.few
  rw [hb]
  cases hc : aget (P.held ω) k with
  | some v =>
    simp only [Option.isSome_some, Bool.not_true, Bool.false_eq_true, if_false]
    refine wpAny_execs_nil ?_
    refine turn_rest S a hn hsc r hL hM nm h1 h2 h3 hr T hk hi rp1 hdl1 hkv Odl (.inl ⟨by rw [hc]; rfl, rfl, rfl⟩) fun σ' ω' s' r' rp' T' kp => ?_
    exact fin m σ' ω' s' kvs ll mi tm r' nm h3 rp' T' (kp _ _ Odl hdl1) hkv (kp _ _ Onow (Hp.set_self _ _ _)) fun a x Oa h4 h5 e => kp _ _ Oa (by rw [Hp.set_ne _ _ h5]; exact e)
  | none =>
    simp only [Option.isSome_none, Bool.not_false, if_true]
    -- misses += 1
    refine wpAny_execs_cons ?_
    refine wpAny_AugAssign_Name ?_
    refine v_name a r (kof hsc (by kernel_rfl)) (by walk_at "lk") ?_
    refine v_int r fun s t2 r => ?_
    refine v_iadd r fun s t3 r => ?_
    walk_at "st"; rename_i s r
    -- laid[want] = place
    refine wpAny_execs_cons ?_
    walk_at "vv"
    refine v_dset r hdl1 (by omega) fun s r => ?_
    refine wpAny_execs_nil ?_
    have rp2 := S.frameR (a := dl) (x := .dict (stored kvs k (.int i tp))) rp1 (.inl Odl) hdn hfx
    refine turn_rest (lw := lw) (now := now) (tr := tr) (tk := tk) (tp := tp) (tm := t3) S a hn hsc r hL hM ?_ ?_ ?_ ?_ hr T hk hi rp2 (Hp.set_self _ _ _) (hkv.put k i tp) Odl (.inr ⟨hc, rfl, rfl⟩) fun σ' ω' s' r' rp' T' kp => ?_
    · exact nm.keep fun y y1 y2 y3 => by unfold mset; rw [if_neg y3]
    · walk_at "lk"
    · walk_at "lk"
    · walk_at "lk"
    · refine fin _ σ' ω' s' _ _ _ t3 r' (nm.keep fun y y1 y2 y3 => by unfold mset; rw [if_neg y3]) (by walk_at "lk") rp' T' (kp _ _ Odl (Hp.set_self _ _ _)) (hkv.put k i tp) (kp _ _ Onow (by rw [Hp.set_ne _ _ hdn.symm]; exact Hp.set_self _ _ _)) fun a x Oa h4 h5 e => kp _ _ Oa (by rw [Hp.set_ne _ _ h4, Hp.set_ne _ _ h5]; exact e)

theorem call_run {f : Addr} (hf : FnIs K f s_run .none) (hE : nsIn K mainGlobals "enumerate" = some none) (hL : nsIn K mainGlobals "len" = some none) (hM : nsIn K mainGlobals "min" = some none) {I : Info} {room : Nat} {now lw : Addr} {Ω : Type} {P : Pol Ω} {fixd : List Addr} {O : Addr → Prop} {lvl : Nat}
    (S : ∀ O', Serve prog w K I room now P fixd O') (hlv : ∀ O', (S O').lvl + 3 ≤ lvl) {ws : List Int} (hsl : ∀ O', ws.length ≤ (S O').len) {ω₀ : Ω} (hω : P.held ω₀ = [])
    (start : ∀ O' σ', O' now → (∀ a x, σ a = some x → σ' a = some x) → (∀ a, O' a → σ' a ≠ none ∧ (O a ∨ σ a = none)) → (S O').pre σ' ω₀) (hfx : ∀ a ∈ fixd, σ a ≠ none ∧ O a ∧ a ≠ now)
    {tr : Tok} {vs : List Value} {p0 : Nat} {t0 : Tok} {X : String → Hp → Prop}
    (hr : 1 ≤ room) (hlw : σ lw = some (.list vs)) (hi : IntsAre vs ws) (hlen : ws.length ≤ 100) (hnow : σ now = some (.list [.int p0 t0])) (Onow : O now) (Olw : O lw) (hlnow : lw ≠ now) :
    CallT prog w K none (lvl + 1) (.ref f) ⟨[.ref I.x, .int room tr, .ref lw, .ref now], []⟩ σ (fun v σ' => (∃ m t, v = .int (m : Nat) t ∧ Serves P room ws 0 ω₀ m) ∧ (∃ (p : Nat) (t : Tok), σ' now = some (.list [.int p t])) ∧ ∀ a x, O a → a ≠ now → σ a = some x → σ' a = some x) X := by
  refine CallT.of (n := lvl) (binds := [("store", .ref I.x), ("room", .int room tr), ("wants", .ref lw), ("now", .ref now)]) hf (fun _ _ _ _ _ _ _ _ s X => BindsTo.of_eq rfl) (by kernel_rfl) (by kernel_rfl) (by kernel_rfl) ?_
  intro A base os env fs s hsc hcl a r
  have h1 : (fun y => [(("store" : Str), Value.ref I.x), ("room", .int room tr), ("wants", .ref lw), ("now", .ref now)].reverse.lookup y) "store" = some (.ref I.x) := by kernel_rfl
  have h2 : (fun y => [(("store" : Str), Value.ref I.x), ("room", .int room tr), ("wants", .ref lw), ("now", .ref now)].reverse.lookup y) "room" = some (.int room tr) := by kernel_rfl
  have h3 : (fun y => [(("store" : Str), Value.ref I.x), ("room", .int room tr), ("wants", .ref lw), ("now", .ref now)].reverse.lookup y) "wants" = some (.ref lw) := by kernel_rfl
  have h4 : (fun y => [(("store" : Str), Value.ref I.x), ("room", .int room tr), ("wants", .ref lw), ("now", .ref now)].reverse.lookup y) "now" = some (.ref now) := by kernel_rfl
  have fk := a.head.2.1
  refine wpAny_execs_cons ?_
  walk_at "vv"
  refine v_dict0 r fun dl s hdl r => ?_
  walk_at "st"; rename_i s r
  refine wpAny_execs_cons ?_
  walk_at "vv"
  refine v_int r fun s t1 r => ?_
  walk_at "st"; rename_i s r
  refine wpAny_execs_cons ?_
  have ex1 : ∀ {b x}, σ b = some x → (σ.set dl (.dict [])) b = some x := fun {b x} e => by rw [Hp.set_ne _ _ (fun q => by rw [q, hdl] at e; cases e)]; exact e
  refine v_forE (base := base) (os := os) (fs := fs) a lv_passes0 (fun _ => rfl) ?_
  walk_at "vv"
  refine wpAny_Call_ofName ?_
  refine v_builtin a r (kof hsc (by kernel_rfl)) hE (v := .type "enumerate") (by kernel_rfl) (by decide +kernel) ?_ (by kernel_rfl)
  refine v_callTy rfl ?_
  walk_at "vv"
  refine v_enum r (ex1 hlw) fun it e s hit he hie r => ?_
  have hdlit : dl ≠ it := fun q => by rw [← q, Hp.set_self] at hit; cases hit
  have hdle : dl ≠ e := fun q => by rw [← q, Hp.set_self] at he; cases he
  rw [Hp.set_ne _ _ hdlit.symm] at hit
  rw [Hp.set_ne _ _ hdle.symm] at he
  have old : ∀ {b x}, σ b = some x → b ≠ dl ∧ b ≠ it ∧ b ≠ e := fun {b x} q => ⟨fun z => (by rw [z, hdl] at q; cases q), fun z => (by rw [z, hit] at q; cases q), fun z => (by rw [z, he] at q; cases q)⟩
  let O₁ : Addr → Prop := fun a => (O a ∧ σ a ≠ none) ∨ a = dl ∨ a = it ∨ a = e
  have ext : ∀ a x, σ a = some x → ((((σ.set dl (.dict [])).set it (liter lw 0)).set e (.obj (enumObj it 0 .none)))) a = some x := fun b x q => by
    obtain ⟨o1, o2, o3⟩ := old q
    rw [Hp.set_ne _ _ o3, Hp.set_ne _ _ o2, Hp.set_ne _ _ o1]; exact q
  have Odl : O₁ dl := .inr (.inl rfl)
  have Oit : O₁ it := .inr (.inr (.inl rfl))
  have Oe : O₁ e := .inr (.inr (.inr rfl))
  have On : O₁ now := .inl ⟨Onow, by rw [hnow]; simp⟩
  have nnow := old hnow
  have nlw := old hlw
  have fd : dl ∉ fixd := fun q => (hfx _ q).1 hdl
  have fi : it ∉ fixd := fun q => (hfx _ q).1 hit
  have fe : e ∉ fixd := fun q => (hfx _ q).1 he
  have rp0 := start O₁ _ On ext (fun a ha => by
    rcases ha with ⟨q1, q2⟩ | rfl | rfl | rfl
    · obtain ⟨x, hx⟩ := Option.ne_none_iff_exists'.mp q2
      exact ⟨by rw [ext a x hx]; simp, .inl q1⟩
    · exact ⟨by rw [Hp.set_ne _ _ hdle, Hp.set_ne _ _ hdlit, Hp.set_self]; simp, .inr hdl⟩
    · exact ⟨by rw [Hp.set_ne _ _ hie, Hp.set_self]; simp, .inr hit⟩
    · exact ⟨by rw [Hp.set_self]; simp, .inr he⟩)
  refine ⟨_, _, e, it, lw, vs, rfl, r, Hp.set_self _ _ _, by rw [Hp.set_ne _ _ hie]; exact Hp.set_self _ _ _, ext _ _ hlw, (fun i m' σ' => RunNames m' I.x lw dl now room tr ∧ (∃ mi tm ω ll kvs, ∃ (v : Nat) (tv : Tok), m' "misses" = some (.int (mi : Nat) tm) ∧ (S O₁).pre σ' ω ∧ Turned P room ws ω₀ i ω mi ll ∧ σ' dl = some (.dict kvs) ∧ IntKV kvs ll ∧ σ' now = some (.list [.int v tv])) ∧ σ' e ≠ none ∧ σ' it ≠ none ∧ ∀ a x, O a → a ≠ now → σ a = some x → σ' a = some x), ?_, ?_, ?_, ?_⟩
  · refine ⟨⟨by walk_at "lk", by walk_at "lk", by walk_at "lk", by walk_at "lk"⟩, ⟨0, t1, ω₀, [], [], p0, t0, by walk_at "lk", rp0, ⟨fun m h => by rw [Nat.zero_add]; exact h, by rw [hω]; exact Books.start, Nat.le_refl _, Nat.le_refl _⟩, ?_, .nil, ext _ _ hnow⟩, by rw [Hp.set_self]; simp, by rw [Hp.set_ne _ _ hie, Hp.set_self]; simp, fun a x _ _ h => ext a x h⟩
    rw [Hp.set_ne _ _ hdle, Hp.set_ne _ _ hdlit]; exact Hp.set_self _ _ _
  · rintro i m' σ' x v t tk ⟨j1, ⟨mi, tm, ω, ll, kvs, vn, tn', j2, j3, j4, j5, j6, j7⟩, j8, j9, j10⟩ ht
    have te : e ≠ t := fun q => j8 (by rw [q]; exact ht)
    have ti : it ≠ t := fun q => j9 (by rw [q]; exact ht)
    have td : dl ≠ t := fun q => by rw [q, ht] at j5; cases j5
    have tn : now ≠ t := fun q => by rw [q, ht] at j7; cases j7
    have tf : t ∉ fixd := fun q => by
      obtain ⟨q1, q2, q3⟩ := hfx t q
      obtain ⟨x', hx'⟩ := Option.ne_none_iff_exists'.mp q1
      have := j10 t x' q2 q3 hx'
      rw [ht] at this; cases this
    refine ⟨j1, ⟨mi, tm, ω, ll, kvs, vn, tn', j2, ?_, j4, ?_, j6, ?_⟩, ?_, ?_, fun a' x' q1 q2 q3 => ?_⟩
    · exact (S O₁).frame ((S O₁).frame ((S O₁).frame j3 (.inl Oe) nnow.2.2.symm fe) (.inl Oit) nnow.2.1.symm fi) (.inr (by rw [Hp.set_ne _ _ ti.symm, Hp.set_ne _ _ te.symm]; exact ht)) tn.symm tf
    · rw [Hp.set_ne _ _ td, Hp.set_ne _ _ hdlit, Hp.set_ne _ _ hdle]; exact j5
    · rw [Hp.set_ne _ _ tn, Hp.set_ne _ _ nnow.2.1, Hp.set_ne _ _ nnow.2.2]; exact j7
    · rw [Hp.set_ne _ _ te, Hp.set_ne _ _ hie.symm, Hp.set_self]; simp
    · rw [Hp.set_ne _ _ ti, Hp.set_self]; simp
    · have := old q3
      have at' : a' ≠ t := fun q => by have := j10 a' x' q1 q2 q3; rw [q, ht] at this; cases this
      rw [Hp.set_ne _ _ at', Hp.set_ne _ _ this.2.1, Hp.set_ne _ _ this.2.2]; exact j10 a' x' q1 q2 q3
  · rintro i m' σ' v t tk s hv ⟨j1, ⟨mi, tm, ω, ll, kvs, vn, tn', j2, j3, j4, j5, j6, j7⟩, j8, j9, j10⟩ hl' ⟨old', he'⟩ hit' ht r
    obtain ⟨k, hx, tv, rfl⟩ := ints_get hi hv
    have hlt : i < ws.length := (List.getElem?_eq_some_iff.mp hx).1
    refine v_unpack a.hand r ht (by kernel_rfl) (by kernel_rfl) fun s r => ?_
    refine v_inOrder ?_
    refine wpAny_assign_Name ?_
    walk_at "st"; rename_i s r
    refine v_inOrder ?_
    refine wpAny_assign_Name ?_
    walk_at "st"; rename_i s r
    refine v_inOrder0 ?_
    have Oon : ∀ {b x}, O b → σ b = some x → O₁ b := fun h1 h2 => .inl ⟨h1, by rw [h2]; simp⟩
    refine turn_walk (S O₁) (lw := lw) (now := now) (tr := tr) (tk := tv) (tp := tk) (tm := tm) a (hlv O₁) hsc r hL hM ?_ ?_ ?_ ?_ hr j4 hx (by omega) (by have := hsl O₁; omega) j3 j7 j5 j6 Odl On fd fun m'' σ'' ω' s' kvs' ll' mi' tm' r u1 u2 u3 u4 u5 u6 u7 u8 => ?_
    · exact j1.keep fun y y1 y2 y3 => by unfold mset; rw [if_neg y2, if_neg y1]
    · walk_at "lk"
    · walk_at "lk"
    · simp only [mset, ofs_inj, String.reduceEq, ↓reduceIte]; exact j2
    · have g1 : σ'' e = σ' e := by
        obtain ⟨x', hx'⟩ := Option.ne_none_iff_exists'.mp j8
        rw [hx']; exact u8 e x' Oe hdle.symm nnow.2.2.symm hx'
      have g2 : σ'' it = σ' it := by
        obtain ⟨x', hx'⟩ := Option.ne_none_iff_exists'.mp j9
        rw [hx']; exact u8 it x' Oit hdlit.symm nnow.2.1.symm hx'
      refine ⟨m'', σ'', r, ⟨u1, ⟨mi', tm', ω', ll', kvs', _, _, u2, u3, u4, u5, u6, u7⟩, by rw [g1]; exact j8, by rw [g2]; exact j9, fun a' x' q1 q2 q3 => u8 a' x' (Oon q1 q3) (old q3).1 q2 (j10 a' x' q1 q2 q3)⟩, g1, g2, ?_⟩
      rw [hl']; exact u8 lw _ (Oon Olw hlw) nlw.1 hlnow hl'
  · rintro m' σ' s ⟨j1, ⟨mi, tm, ω, ll, kvs, vn, tn', j2, j3, j4, j5, j6, j7⟩, j8, j9, j10⟩ hl' r
    refine wpAny_execs_cons ?_
    walk_at "vv"
    rw [hi.length] at j4
    refine ⟨m', _, r, ⟨mi, tm, rfl, ?_⟩, ⟨vn, tn', by rw [Hp.del_ne _ (by simpa using ⟨nnow.2.2, nnow.2.1⟩)]; exact j7⟩, fun a' x' q1 q2 q3 => ?_⟩
    · have := j4.run 0 (by rw [List.drop_length]; rfl)
      exact this
    · have := old q3
      rw [Hp.del_ne _ (by simpa using ⟨this.2.2, this.2.1⟩)]
      exact j10 a' x' q1 q2 q3
end L2
end Mine
namespace Mine
set_option pp.deepTerms false
set_option pp.deepTerms.threshold 8
local macro_rules | `(tactic| walk_at "lk") => `(tactic| first | assumption | rfl | (simp only [mset, ofs_inj, String.reduceEq, ↓reduceIte]; first | assumption | rfl) | (simp only [mset, ofs_inj, String.reduceEq, ↓reduceIte]; done))
local macro_rules | `(tactic| walk_at "nm") => `(tactic| (refine v_local (by assumption) (by assumption) (kof (by assumption) (by kernel_rfl)) (by walk_at "lk") ?_ (by kernel_rfl)))
local macro_rules | `(tactic| walk_at "st") => `(tactic| (refine v_store (by assumption) (by assumption) (kof (by assumption) (by kernel_rfl)) fun s r => ?_))
local macro_rules | `(tactic| walk_at "v") => `(tactic| first
  | with_reducible refine wpAny_Return_some ?_
  | with_reducible refine wpAny_Return_none ?_
  | ((with_reducible refine wpAny_Compare1 (hm := ?hm) ?_); (case hm => with_unfolding_all rfl))
  | ((with_reducible refine wpAny_isTrue_Compare1 (hm := ?hm) ?_); (case hm => with_unfolding_all rfl))
  | ((with_reducible refine wpAny_Assign_Name (hs := ?hs) ?_); (case hs => rfl))
  | ((with_reducible refine wpAny_Assign_Subscript (hs := ?hs) ?_); (case hs => rfl))
  | ((with_reducible refine plainObj_wpAny_Assign_Attribute (hs := ?hs) ?_); (case hs => rfl))
  | ((with_reducible refine wpAny_Assign_two (he := ?he) (hw := ?hw) ?_); (case he => rfl); (case hw => rfl))
  | with_reducible refine assign_Attr ?_
  | with_reducible refine assign_Subs ?_
  | with_reducible refine wpAny_assign_Name ?_
  | with_reducible refine Attribute_name ?_
  | with_reducible refine Attribute_any_ ?_
  | with_reducible refine Subscript_ ?_
  | with_reducible refine wpAny_If ?_
  | with_reducible refine wpAny_BinOp ?_
  | with_reducible refine wpAny_UnaryOp ?_
  | with_reducible refine wpAny_Delete ?_
  | with_reducible refine wpAny_deleteEach_cons ?_
  | with_reducible refine wpAny_deleteEach_nil ?_
  | with_reducible refine wpAny_delete_Subscript ?_
  | with_reducible refine wpAny_AugAssign_AttributeAny ?_
  | with_reducible refine wpAny_execs_nil ?_
  | with_reducible refine wpAny_Constant_none ?_
  | with_reducible refine spliced_none ?_
  | with_reducible refine ea_none ?_
  | ((with_reducible refine ea_plain ?_ ?he); (case he => rfl))
  | ((with_reducible refine' methodCall_KW (pl := ?pl) (he := ?he) ?_); (case he => rfl))
  | walk_at "nm"
  | ((with_reducible refine spliced_more ?_ (he := ?he)); (case he => rfl)))
local macro_rules | `(tactic| walk_at "vv") => `(tactic| repeat walk_at "v")
namespace L2
variable {prog : Program} {w : World} {K : Frag} {H : Option Value} {n : Nat} {σ : Hp}

structure Cl (prog : Program) (w : World) (K : Frag) (I : Info) (Ω : Type) (now : Addr) (fixd : List Addr) (O : Addr → Prop) where
  b : Ω → B
  T : Nat → Th prog w K I Ω
  hb : ∀ p, (T p).b = b
  good : Prop
  len : Nat
  pre : Hp → Nm → Ω → Prop
  weak : ∀ {p σ mm ω}, (T p).rep σ mm ω → pre σ mm ω
  prb : ∀ {σ mm ω}, pre σ mm ω → RB σ I mm (b ω)
  F : KA K I.C
  ok : ClsOK K I.C
  hV : nsIn K mainGlobals "ValueError" = some none
  put : Ω → Int → Value → Ω
  get : Ω → Int → Ω
  bput : ∀ ω k v, b (put ω k v) = (b ω).put I k v 1
  bget : ∀ ω k, b (get ω k) = b ω
  small : Ω → Prop
  hsmall : ∀ {p σ mm ω}, (T p).rep σ mm ω → (b ω).data.length ≤ 10 → small ω ∧ ∀ ω₂, (T p).pop ω = some ω₂ → small ω₂
  cset : Addr
  hcset : FnIs K cset s_setitem .none
  N : Nat
  lv : ∀ p, (T p).lvl + 2 ≤ N
  hset : ∀ {σ mm ω k tk v p fu X}, (T p).rep σ mm ω → CallT prog w K none (N - 1) (.ref cset) ⟨[.ref I.x, .int k tk, v], []⟩ σ (fun r σ' => r = .none ∧ SetOut (T p) ω k v 1 fu σ σ') X →
    (∀ o', evict (T p).b (T p).pop I.most (fun b => b.need I k 1) fu ω = some o' → small o') →
    CallT prog w K none N (.ref F.set) ⟨[.ref I.x, .int k tk, v], []⟩ σ (fun r σ' => r = .none ∧ SetTo (T p) (fun o => put o k v) (fun b => b.need I k 1) fu ω σ σ') X
  hget : ∀ {σ mm ω k tk v p}, (T p).rep σ mm ω → aget (b ω).data k = some v → (b ω).data.length ≤ 10 →
    CallT prog w K none N (.ref F.get) ⟨[.ref I.x, .int k tk], []⟩ σ (fun r σ' => r = v ∧ (∃ mm', (T p).rep σ' mm' (get ω k)) ∧ (T p).keep σ σ') (fun _ _ => False)
  keepO : ∀ {p σ σ'}, good → (T p).keep σ σ' → Kept O σ σ'
  framePre : ∀ {σ mm ω a x}, good → pre σ mm ω → (O a ∨ σ a = none) → a ≠ now → a ∉ fixd → pre (σ.set a x) mm ω
  frame : ∀ {p σ mm ω a x}, good → (T p).rep σ mm ω → (O a ∨ σ a = none) → a ≠ now → a ∉ fixd → (T p).rep (σ.set a x) mm ω
  tick : ∀ {p σ mm ω t}, good → pre σ mm ω → p < len → (T p).rep (σ.set now (.list [.int (p : Nat) t])) mm ω
  full : Nat → Ω → Int → Ω → Prop
  hpop : ∀ {p σ mm ω}, (T p).rep σ mm ω → (b ω).data ≠ [] → ∃ y ω₂, (T p).pop ω = some ω₂ ∧ (aget (b ω).data y).isSome = true ∧ b ω₂ = (b ω).del I y ∧ full p ω y ω₂

variable {I : Info} {Ω : Type} {now : Addr} {fixd : List Addr} {O : Addr → Prop}
def Cl.pol (C : Cl prog w K I Ω now fixd O) : Pol (Ω × Nat) where
  held := fun o => (C.b o.1).data
  at_ := fun o p => (o.1, p)
  atHeld := fun _ _ => rfl
  hit := fun o k o' => o' = (C.get o.1 k, o.2)
  cold := fun o k o' => ∃ v, o' = (C.put o.1 k v, o.2)
  full := fun o k y o' => ∃ ω₂ v, C.full o.2 o.1 y ω₂ ∧ C.b ω₂ = (C.b o.1).del I y ∧ o' = (C.put ω₂ k v, o.2)
structure Tight (I : Info) (b : B) : Prop where
  cur : b.cur = b.data.length
  nd : (b.data.map (·.1)).Nodup
  le : (b.data.length : Int) ≤ I.most
theorem aput_new {α : Type} {l : List (Int × α)} {k : Int} {v : α} (h : aget l k = none) : aput l k v = l ++ [(k, v)] := by
  unfold aput
  rw [if_neg]
  intro q
  obtain ⟨e, he, hk⟩ := List.any_eq_true.mp q
  exact aget_none_mem h (by rw [← (by simpa using hk : e.1 = k)]; exact List.mem_map_of_mem (f := (·.1)) he)
theorem Tight.put {b : B} {k : Int} {v : Value} (t : Tight I b) (hk : aget b.data k = none) (hl : (b.data.length : Int) < I.most) : Tight I (b.put I k v 1) ∧ (b.put I k v 1).data = b.data ++ [(k, v)] := by
  have e : (b.put I k v 1).data = b.data ++ [(k, v)] := aput_new hk
  refine ⟨⟨?_, ?_, ?_⟩, e⟩
  · rw [e]
    show b.cur + b.need I k 1 = _
    unfold B.need B.has
    rw [hk, t.cur]
    simp
  · rw [e, List.map_append, List.nodup_append]
    refine ⟨t.nd, by simp, fun x hx y hy => ?_⟩
    simp at hy; subst hy
    rintro rfl
    exact aget_none_mem hk hx
  · rw [e]; simp; omega
theorem Tight.del {b : B} {y : Int} (hd : I.ds = none) (t : Tight I b) (hy : (aget b.data y).isSome = true) : Tight I (b.del I y) ∧ (b.del I y).data = adel b.data y ∧ (adel b.data y).length + 1 = b.data.length := by
  have h := adel_len_nd t.nd hy
  refine ⟨⟨?_, t.nd.sublist ((List.filter_sublist).map _), ?_⟩, rfl, h⟩
  · show b.cur - b.cost I y = ((adel b.data y).length : Int)
    unfold B.cost
    rw [if_pos hd, t.cur]; omega
  · show ((adel b.data y).length : Int) ≤ I.most
    have := t.le; omega
theorem evict_cold {b : Ω → B} {pop : Ω → Option Ω} {k : Int} {fu : Nat} {ω : Ω} (t : Tight I (b ω)) (hk : aget (b ω).data k = none) (hl : ((b ω).data.length : Int) < I.most) : evict b pop I.most (fun b => b.need I k 1) fu ω = some ω := by
  have h : ¬ (b ω).cur + (b ω).need I k 1 > I.most := by
    unfold B.need B.has
    rw [hk, t.cur]
    simp; omega
  cases fu <;> (unfold evict; rw [if_neg h])
theorem evict_full {b : Ω → B} {pop : Ω → Option Ω} {k y : Int} {ω ω₂ : Ω} (hd : I.ds = none) (t : Tight I (b ω)) (hk : aget (b ω).data k = none) (hl : ((b ω).data.length : Int) = I.most) (hp : pop ω = some ω₂) (hy : (aget (b ω).data y).isSome = true) (h2 : b ω₂ = (b ω).del I y) :
    evict b pop I.most (fun b => b.need I k 1) 1 ω = some ω₂ := by
  obtain ⟨t2, e2, l2⟩ := t.del hd hy
  have h : (b ω).cur + (b ω).need I k 1 > I.most := by
    unfold B.need B.has
    rw [hk, t.cur]
    simp; omega
  unfold evict
  rw [if_pos h, hp]
  show evict b pop I.most (fun b => b.need I k 1) 0 ω₂ = some ω₂
  rw [← h2] at t2 e2
  refine evict_cold t2 ?_ (by rw [e2]; omega)
  rw [e2, aget_adel]; split; rfl; exact hk

def Cl.serve (C : Cl prog w K I Ω now fixd O) {room : Nat} (hd : I.ds = none) (hm : I.most = room) (h10 : room ≤ 10) (h1 : 1 ≤ room) : Serve prog w K I room now C.pol fixd O where
  rep := fun σ o => C.good ∧ Tight I (C.b o.1) ∧ ∃ mm, (C.T o.2).rep σ mm o.1
  pre := fun σ o => C.good ∧ Tight I (C.b o.1) ∧ ∃ mm, C.pre σ mm o.1
  weak := fun ⟨g, t, mm, h⟩ => ⟨g, t, mm, C.weak h⟩
  len := C.len
  F := C.F
  ok := C.ok
  rb := fun ⟨_, _, mm, h⟩ => ⟨mm, _, C.prb h, rfl⟩
  lvl := C.N + 2
  sd_hit := fun {σ o k tk v dv} ⟨g, t, mm, h⟩ hv => by
    have rb := (C.T _).rb h
    rw [C.hb] at rb
    have hN := C.lv o.2
    have hle := t.le
    have h3 : aget (C.b o.1).data k = some v := hv
    refine (call_sd_hit (L := C.N) C.F C.ok rb (by rw [h3]; rfl) (by omega) (C.hget (tk := tk) h h3 (by omega))).mono (fun r σ' ⟨q1, ⟨mm', q2⟩, q3⟩ => ?_) fun _ _ x => x
    exact ⟨q1, C.keepO g q3, (C.get o.1 k, o.2), ⟨g, by show Tight I (C.b (C.get o.1 k)); rw [C.bget]; exact t, mm', C.weak q2⟩, by show (C.b (C.get o.1 k)).data = _; rw [C.bget]; rfl, rfl⟩
  sd_cold := fun {σ o k tk dv} ⟨g, t, mm, h⟩ hk hl => by
    have rb := (C.T _).rb h
    rw [C.hb] at rb
    have hN := C.lv o.2
    have hk : aget (C.b o.1).data k = none := hk
    have hl : (C.b o.1).data.length < room := hl
    have hev : ∀ fu, evict (C.T o.2).b (C.T o.2).pop I.most (fun b => b.need I k 1) fu o.1 = some o.1 := fun fu => by rw [C.hb]; exact evict_cold t hk (by omega)
    refine (call_sd_miss (L := C.N) (Q := fun σ' => SetTo (C.T o.2) (fun o => C.put o k dv) (fun b => b.need I k 1) 0 o.1 σ σ') C.F C.ok rb hk (by omega) ((C.hset (tk := tk) (v := dv) (fu := 0) (X := SetRef (C.T o.2) 1 σ) h ?_ fun o' e => ?_).mono (fun r σ' q => q.2) fun cls σ' ⟨_, _, _, q⟩ => by omega)).mono (fun r σ' ⟨q1, mm', ω₁, q2, q3, q4⟩ => ?_) fun _ _ x => x
    · refine (CallT.of (n := C.N - 2) (binds := [("self", .ref I.x), ("key", .int k tk), ("value", dv)]) C.hcset (fun _ _ _ _ _ _ _ _ _ _ => BindsTo.of_eq rfl) (by kernel_rfl) (by kernel_rfl) (by kernel_rfl)
        (body_set_plain (tk := tk) (v := dv) (C.T o.2) hd C.ok h C.hV (F := 0) (fun _ => ⟨fun q => (by rw [C.hb] at q; rw [hk] at q; cases q), o.1, hev 0, by rw [C.hb]; omega⟩) (by kernel_rfl) (by kernel_rfl) (by kernel_rfl) (by omega))).lower (by omega) |>.mono (fun r σ' ⟨q1, _, q2⟩ => ⟨q1, q2⟩) fun _ _ x => x
    · rw [hev] at e; cases e
      exact (C.hsmall h (by omega)).1
    · rw [hev] at q2; cases q2
      obtain ⟨t2, e2⟩ := t.put (v := dv) hk (by omega)
      rw [← C.bput] at t2 e2
      exact ⟨q1, C.keepO g q4, (C.put o.1 k dv, o.2), ⟨g, t2, mm', C.weak q3⟩, e2, dv, rfl⟩
  sd_full := fun {σ o k tk dv} ⟨g, t, mm, h⟩ hk hl => by
    have rb := (C.T _).rb h
    rw [C.hb] at rb
    have hN := C.lv o.2
    have hk : aget (C.b o.1).data k = none := hk
    have hl : (C.b o.1).data.length = room := hl
    obtain ⟨y, ω₂, p1, p2, p3, p4⟩ := C.hpop h (by intro e; rw [e] at hl; simp at hl; omega)
    have hev : evict (C.T o.2).b (C.T o.2).pop I.most (fun b => b.need I k 1) 1 o.1 = some ω₂ := by rw [C.hb]; exact evict_full hd t hk (by omega) p1 p2 p3
    obtain ⟨t1, e1, l1⟩ := t.del hd p2
    refine (call_sd_miss (L := C.N) (Q := fun σ' => SetTo (C.T o.2) (fun o => C.put o k dv) (fun b => b.need I k 1) 1 o.1 σ σ') C.F C.ok rb hk (by omega) ((C.hset (tk := tk) (v := dv) (fu := 1) (X := SetRef (C.T o.2) 1 σ) h ?_ fun o' e => ?_).mono (fun r σ' q => q.2) fun cls σ' ⟨_, _, _, q⟩ => by omega)).mono (fun r σ' ⟨q1, mm', ω₁, q2, q3, q4⟩ => ?_) fun _ _ x => x
    · refine (CallT.of (n := C.N - 2) (binds := [("self", .ref I.x), ("key", .int k tk), ("value", dv)]) C.hcset (fun _ _ _ _ _ _ _ _ _ _ => BindsTo.of_eq rfl) (by kernel_rfl) (by kernel_rfl) (by kernel_rfl)
        (body_set_plain (tk := tk) (v := dv) (C.T o.2) hd C.ok h C.hV (F := 1) (fun _ => ⟨fun q => (by rw [C.hb] at q; rw [hk] at q; cases q), ω₂, hev, by rw [C.hb, p3, e1]; omega⟩) (by kernel_rfl) (by kernel_rfl) (by kernel_rfl) (by omega))).lower (by omega) |>.mono (fun r σ' ⟨q1, _, q2⟩ => ⟨q1, q2⟩) fun _ _ x => x
    · rw [hev] at e; cases e
      exact (C.hsmall h (by omega)).2 _ p1
    · rw [hev] at q2; cases q2
      rw [← p3] at t1 e1
      have hk2 : aget (C.b ω₂).data k = none := by rw [e1, aget_adel]; split; rfl; exact hk
      obtain ⟨t2, e2⟩ := t1.put (v := dv) hk2 (by rw [e1]; omega)
      rw [← C.bput] at t2 e2
      exact ⟨q1, C.keepO g q4, (C.put ω₂ k dv, o.2), y, ⟨g, t2, mm', C.weak q3⟩, p2, by show (C.b (C.put ω₂ k dv)).data = _; rw [e2, e1]; rfl, ω₂, dv, p4, p3, rfl⟩
  frame := fun ⟨g, t, mm, h⟩ h1 h2 h3 => ⟨g, t, mm, C.framePre g h h1 h2 h3⟩
  frameR := fun ⟨g, t, mm, h⟩ h1 h2 h3 => ⟨g, t, mm, C.frame g h h1 h2 h3⟩
  tick := fun ⟨g, t, mm, h⟩ hp => ⟨g, t, mm, C.tick g h hp⟩
end L2
end Mine
namespace Mine
set_option pp.deepTerms false
set_option pp.deepTerms.threshold 8
local macro_rules | `(tactic| walk_at "lk") => `(tactic| first | assumption | rfl | (simp only [mset, ofs_inj, String.reduceEq, ↓reduceIte]; first | assumption | rfl) | (simp only [mset, ofs_inj, String.reduceEq, ↓reduceIte]; done))
local macro_rules | `(tactic| walk_at "nm") => `(tactic| (refine v_local (by assumption) (by assumption) (kof (by assumption) (by kernel_rfl)) (by walk_at "lk") ?_ (by kernel_rfl)))
local macro_rules | `(tactic| walk_at "st") => `(tactic| (refine v_store (by assumption) (by assumption) (kof (by assumption) (by kernel_rfl)) fun s r => ?_))
local macro_rules | `(tactic| walk_at "v") => `(tactic| first
  | with_reducible refine wpAny_Return_some ?_
  | with_reducible refine wpAny_Return_none ?_
  | ((with_reducible refine wpAny_Compare1 (hm := ?hm) ?_); (case hm => with_unfolding_all rfl))
  | ((with_reducible refine wpAny_isTrue_Compare1 (hm := ?hm) ?_); (case hm => with_unfolding_all rfl))
  | ((with_reducible refine wpAny_Assign_Name (hs := ?hs) ?_); (case hs => rfl))
  | ((with_reducible refine wpAny_Assign_Subscript (hs := ?hs) ?_); (case hs => rfl))
  | ((with_reducible refine plainObj_wpAny_Assign_Attribute (hs := ?hs) ?_); (case hs => rfl))
  | ((with_reducible refine wpAny_Assign_two (he := ?he) (hw := ?hw) ?_); (case he => rfl); (case hw => rfl))
  | with_reducible refine assign_Attr ?_
  | with_reducible refine assign_Subs ?_
  | with_reducible refine wpAny_assign_Name ?_
  | with_reducible refine Attribute_name ?_
  | with_reducible refine Attribute_any_ ?_
  | with_reducible refine Subscript_ ?_
  | with_reducible refine wpAny_If ?_
  | with_reducible refine wpAny_BinOp ?_
  | with_reducible refine wpAny_UnaryOp ?_
  | with_reducible refine wpAny_Delete ?_
  | with_reducible refine wpAny_deleteEach_cons ?_
  | with_reducible refine wpAny_deleteEach_nil ?_
  | with_reducible refine wpAny_delete_Subscript ?_
  | with_reducible refine wpAny_AugAssign_AttributeAny ?_
  | with_reducible refine wpAny_execs_nil ?_
  | with_reducible refine wpAny_Constant_none ?_
  | with_reducible refine spliced_none ?_
  | with_reducible refine ea_none ?_
  | ((with_reducible refine ea_plain ?_ ?he); (case he => rfl))
  | ((with_reducible refine' methodCall_KW (pl := ?pl) (he := ?he) ?_); (case he => rfl))
  | walk_at "nm"
  | ((with_reducible refine spliced_more ?_ (he := ?he)); (case he => rfl)))
local macro_rules | `(tactic| walk_at "vv") => `(tactic| repeat walk_at "v")
namespace CacheC
variable {prog : Program} {w : World} {K : Frag} {H : Option Value} {n : Nat} {σ : Hp}
theorem call_iter {f C : Addr} (hf : FnIs K f s_iter .none) {I : Info} {mm : Nm} {b : B} {X : String → Hp → Prop} (hC : I.C = C) (ok : ClsOK K C) (hiter : nsIn K mainGlobals "iter" = some none) (rb : RB σ I mm b) :
    CallT prog w K H (n + 1) (.ref f) ⟨[.ref I.x], []⟩ σ (fun v σ' => ∃ it ep, v = .ref it ∧ σ it = none ∧ σ' = (σ.set I.dd (.dictE b.data ep)).set it (diter I.dd 0 b.data.length ep)) X := by
  subst hC
  refine CallT.of (binds := [("self", .ref I.x)]) hf (fun _ _ _ _ _ _ _ _ _ _ => BindsTo.of_eq rfl) (by kernel_rfl) (by kernel_rfl) (by kernel_rfl) ?_
  intro A base os env fs s hsc hcl a r
  have h1 : (fun y => [(("self" : Str), Value.ref I.x)].reverse.lookup y) "self" = some (.ref I.x) := by kernel_rfl
  obtain ⟨j, hj, hd⟩ := rb.ns
  refine wpAny_execs_cons ?_
  walk_at "v"
  refine wpAny_Call_ofName ?_
  refine v_builtin a r (kof hsc (by kernel_rfl)) hiter (v := .builtin "iter") (by kernel_rfl) (by decide +kernel) ?_ (by kernel_rfl)
  refine v_callB rfl ?_
  walk_at "vv"
  refine v_own a r rb.inst hd rb.hdata rfl ok.get ok.dict ok.fdata (by kernel_rfl) fun s r => ?_
  walk_at "vv"
  refine v_iterD r rb.dict fun it ep s hit r => ?_
  exact ⟨_, _, r, it, ep, rfl, hit, rfl⟩

theorem call_pop {C : Addr} (F : KF K C) {I : Info} {mm : Nm} {b : B} {k : Int} {v : Value} {rest : List (Int × Value)} {X : String → Hp → Prop} (hC : I.C = C)
    (rb : RB σ I mm b) (hb : b.data = (k, v) :: rest) (hins : I.ds ≠ none → (aget b.size k).isSome = true) :
    CallT prog w K none (n + 3) (.ref F.pop) ⟨[.ref I.x], []⟩ σ (fun r σ' => (∃ t tk, r = .ref t ∧ σ t = none ∧ σ' t = some (.tup [.int k tk, v])) ∧
      ∃ mm', RB σ' I mm' (b.del I k) ∧ SameNames mm mm' ∧ KeepFp (baseFp I) σ σ') X := by
  subst hC
  have hv : aget b.data k = some v := by unfold aget; rw [hb]; simp
  refine CallT.of (binds := [("self", .ref I.x)]) F.hpop (fun _ _ _ _ _ _ _ _ _ _ => BindsTo.of_eq rfl) (by kernel_rfl) (by kernel_rfl) (by kernel_rfl) ?_
  intro A base os env fs s hsc hcl a r
  have h1 : (fun y => [(("self" : Str), Value.ref I.x)].reverse.lookup y) "self" = some (.ref I.x) := by kernel_rfl
  obtain ⟨j, hj, hd⟩ := rb.ns
  refine wpAny_execs_cons ?_
  refine v_try ?_
  refine wpAny_execs_cons ?_
  walk_at "v"
  refine wpAny_Call_ofName ?_
  refine v_builtin a r (kof hsc (by kernel_rfl)) F.hnext (v := .builtin "next") (by kernel_rfl) (by decide +kernel) ?_ (by kernel_rfl)
  refine v_callB rfl ?_
  walk_at "vv"
  refine wpAny_Call_ofName ?_
  refine v_builtin a r (kof hsc (by kernel_rfl)) F.hiter (v := .builtin "iter") (by kernel_rfl) (by decide +kernel) ?_ (by kernel_rfl)
  refine v_callB rfl ?_
  walk_at "vv"
  refine v_iterI a r rb.inst hd F.niter F.iiter ?_
  refine v_told1 a r (X := fun _ _ => False) (call_iter (n := 0) F.fiter rfl F.ok F.hiter rb) (by omega) (fun v' σ' s ⟨it, ep, q1, hit, q2⟩ r => ?_) fun _ _ _ _ x _ => x.elim
  subst q1; subst q2
  refine ⟨it, _, _, I.dd, _, _, _, rfl, r, Hp.set_self _ _ _, ?_⟩
  walk_at "vv"
  refine v_nextD r (Hp.set_self _ _ _) (by rw [Hp.set_ne _ _ fun e => by rw [← e, rb.dict] at hit; cases hit]; exact Hp.set_self _ _ _) (i := 0) (k := k) (x := v) (by rw [hb]; rfl) fun s tk r => ?_
  have r := R.back rb.dict hit r
  walk_at "st"; rename_i s r
  walk_at "vv"
  refine wpAny_execs_cons ?_
  walk_at "vv"
  refine v_subI a r rb.inst hd F.nget F.fget F.iget ?_ rfl
  refine v_told1 a r (X := fun _ _ => False) (Mine.call_getitem (n := 0) (tk := tk) F.hget F.ok rb hv) (by omega) (fun v' σ' s' ⟨q1, q2⟩ r => ?_) fun _ _ _ _ x _ => x.elim
  subst q1; subst q2
  walk_at "st"; rename_i s r
  refine wpAny_execs_cons ?_
  walk_at "vv"
  refine v_delI a r rb.inst hd F.ok.seq F.ndel F.idel ?_
  refine v_told a r (X := fun _ _ => False) (Mine.call_del (n := 0) (tk := tk) F.hdel F.ok rb (by rw [hv]; rfl) hins) (by omega) (fun _ σ' s' ⟨_, mm', rb', sn, ch⟩ r => ?_) fun _ _ _ _ x _ => x.elim
  walk_at "vv"
  refine wpAny_execs_cons ?_
  walk_at "v"
  refine v_tuple (base := base) (os := os) (fs := fs) ?_
  walk_at "vv"
  refine ⟨by simp, _, _, r, fun t s' ht r' => ?_⟩
  have kp : KeepFp (baseFp I) _ _ := .ofChg ch fun a ha => ha
  exact ⟨_, _, r', ⟨t, tk, rfl, rb'.none kp ht, Hp.set_self _ _ _⟩, mm', rb'.addNew ht, sn, kp.trans (.setNew ht)⟩

structure Wf (I : Info) (b : B) : Prop where
  sz : I.ds ≠ none → ∀ k, b.has k = true → (aget b.size k).isSome = true
def pop (I : Info) (b : B) : Option B := match b.data with
  | [] => none
  | (k, _) :: _ => some (b.del I k)
theorem Wf.pop {I : Info} {o o' : B} (h : Wf I o) (e : CacheC.pop I o = some o') : Wf I o' := by
  unfold CacheC.pop at e
  split at e
  · cases e
  next k v ks hk =>
    cases e
    refine ⟨fun hd x hx => ?_⟩
    rw [has_del] at hx
    simp only [Bool.and_eq_true, decide_eq_true_eq] at hx
    rw [size_del hd _ trivial hx.2]
    exact h.sz hd x hx.1
theorem Wf.put {I : Info} {o : B} {k : Int} {v : Value} {c : Int} (h : Wf I o) : Wf I (o.put I k v c) := by
  refine ⟨fun hd x hx => ?_⟩
  rw [has_put] at hx
  show (aget (o.put I k v c).size x).isSome = true
  unfold B.put
  rw [if_neg hd]
  simp only [Bool.or_eq_true, decide_eq_true_eq] at hx
  by_cases hxk : x = k
  · subst hxk; rw [aget_aput_self]; rfl
  · rw [aget_aput_ne _ _ hxk]; exact h.sz hd x (hx.resolve_right hxk)

def th (prog : Program) (w : World) {K : Frag} {I : Info} (F : KF K I.C) : Th prog w K I B where
  b := id
  rep := fun σ mm o => RB σ I mm o ∧ Wf I o
  rb := fun h => h.1
  keep := KeepFp (baseFp I)
  krefl := .refl _
  ktrans := .trans
  pop := pop I
  popless := fun {o o' k} e h => by
    unfold pop at e
    split at e
    · cases e
    cases e
    have := has_del (I := I) (b := o) (k := ‹Int›) (x := k)
    unfold B.has at this
    have h : aget o.data k = none := h
    rw [h] at this
    show aget (o.del I ‹Int›).data k = none
    cases q : aget (o.del I ‹Int›).data k with
    | none => rfl
    | some _ => rw [q] at this; cases this
  fpop := F.pop
  lvl := 3
  find := F.npop
  fn := F.ipop
  kp := F.kpop
  hpop := fun {σ mm o o'} ⟨ro, wf⟩ e => by
    have wf' := wf.pop e
    unfold pop at e
    split at e
    · cases e
    next k v ks hk =>
      cases e
      have hin : o.has k = true := by unfold B.has aget; rw [hk]; simp
      exact (call_pop (n := 0) F rfl ro hk fun hd => wf.sz hd k hin).mono (fun r σ' ⟨_, mm', ro', sn, kp⟩ => ⟨mm', ⟨ro', wf'⟩, kp⟩) fun _ _ x => x
end CacheC
end Mine
namespace Mine
set_option pp.deepTerms false
set_option pp.deepTerms.threshold 8
local macro_rules | `(tactic| walk_at "lk") => `(tactic| first | assumption | rfl | (simp only [mset, ofs_inj, String.reduceEq, ↓reduceIte]; first | assumption | rfl) | (simp only [mset, ofs_inj, String.reduceEq, ↓reduceIte]; done))
local macro_rules | `(tactic| walk_at "nm") => `(tactic| (refine v_local (by assumption) (by assumption) (kof (by assumption) (by kernel_rfl)) (by walk_at "lk") ?_ (by kernel_rfl)))
local macro_rules | `(tactic| walk_at "st") => `(tactic| (refine v_store (by assumption) (by assumption) (kof (by assumption) (by kernel_rfl)) fun s r => ?_))
local macro_rules | `(tactic| walk_at "v") => `(tactic| first
  | with_reducible refine wpAny_Return_some ?_
  | with_reducible refine wpAny_Return_none ?_
  | ((with_reducible refine wpAny_Compare1 (hm := ?hm) ?_); (case hm => with_unfolding_all rfl))
  | ((with_reducible refine wpAny_isTrue_Compare1 (hm := ?hm) ?_); (case hm => with_unfolding_all rfl))
  | ((with_reducible refine wpAny_Assign_Name (hs := ?hs) ?_); (case hs => rfl))
  | ((with_reducible refine wpAny_Assign_Subscript (hs := ?hs) ?_); (case hs => rfl))
  | ((with_reducible refine plainObj_wpAny_Assign_Attribute (hs := ?hs) ?_); (case hs => rfl))
  | ((with_reducible refine wpAny_Assign_two (he := ?he) (hw := ?hw) ?_); (case he => rfl); (case hw => rfl))
  | with_reducible refine assign_Attr ?_
  | with_reducible refine assign_Subs ?_
  | with_reducible refine wpAny_assign_Name ?_
  | with_reducible refine Attribute_name ?_
  | with_reducible refine Attribute_any_ ?_
  | with_reducible refine Subscript_ ?_
  | with_reducible refine wpAny_If ?_
  | with_reducible refine wpAny_BinOp ?_
  | with_reducible refine wpAny_UnaryOp ?_
  | with_reducible refine wpAny_Delete ?_
  | with_reducible refine wpAny_deleteEach_cons ?_
  | with_reducible refine wpAny_deleteEach_nil ?_
  | with_reducible refine wpAny_delete_Subscript ?_
  | with_reducible refine wpAny_AugAssign_AttributeAny ?_
  | with_reducible refine wpAny_execs_nil ?_
  | with_reducible refine wpAny_Constant_none ?_
  | with_reducible refine spliced_none ?_
  | with_reducible refine ea_none ?_
  | ((with_reducible refine ea_plain ?_ ?he); (case he => rfl))
  | ((with_reducible refine' methodCall_KW (pl := ?pl) (he := ?he) ?_); (case he => rfl))
  | walk_at "nm"
  | ((with_reducible refine spliced_more ?_ (he := ?he)); (case he => rfl)))
local macro_rules | `(tactic| walk_at "vv") => `(tactic| repeat walk_at "v")
namespace CacheC
variable {prog : Program} {w : World} {K : Frag} {H : Option Value} {n : Nat} {σ : Hp}
theorem make_plain {C : Addr} (F : KI K C) (ok : ClsOK K C) {most : Int} {tk : Tok} {X : String → Hp → Prop} (h0 : 0 ≤ most) :
    CallT prog w K H (n + 4) (.ref C) ⟨[.int most tk], []⟩ σ (fun v σ' => ∃ I mm', v = .ref I.x ∧ I.C = C ∧ I.ds = none ∧ I.most = most ∧ RB σ' I mm' ⟨[], [], 0⟩ ∧
      (∀ a ∈ I.x :: baseFp I, σ a = none) ∧ ∀ a, a ∉ I.x :: baseFp I → σ' a = σ a) X := by
  refine (CallT.make (k := n + 3) (Q := fun v σ' => ∃ I mm', v = .ref I.x ∧ I.C = C ∧ I.ds = none ∧ I.most = most ∧ RB σ' I mm' ⟨[], [], 0⟩ ∧
      (∀ a ∈ I.x :: baseFp I, σ a = none) ∧ ∀ a, a ∉ I.x :: baseFp I → σ' a = σ a) F.makes F.ninit F.iinit fun x dx hx hdx hne => ?_)
  refine (CallT.of (n := n + 2) (binds := [("self", .ref x), ("maxsize", .int most tk), ("getsizeof", .none)]) F.hcinit (fun _ _ _ _ _ _ _ _ s X => BindsTo.ofT F.htcinit X rfl rfl rfl) (by kernel_rfl) (by kernel_rfl) (by kernel_rfl)
      (body_init_plain (C := C) (x := x) (d := dx) (tk := tk) ok F.gs h0 (Hp.set_self _ _ _) (by rw [Hp.set_ne _ _ hne.symm]; exact Hp.set_self _ _ _) (by kernel_rfl) (by kernel_rfl) (by kernel_rfl))).mono ?_ fun _ _ x => x
  rintro v σ' ⟨e, dd, mm', md⟩
  refine ⟨e, _, mm', rfl, rfl, rfl, rfl, md.rb, fun b hb => ?_, fun b hb => ?_⟩
  · rcases List.mem_cons.mp hb with rfl | hb
    · exact hx
    · by_cases hbd : b = dx
      · subst hbd; exact hdx
      · have := md.new b hb hbd
        by_cases hbx : b = x
        · subst hbx; exact hx
        · rw [Hp.set_ne _ _ hbx, Hp.set_ne _ _ hbd] at this; exact this
  · have h1 : b ≠ x := fun e => hb (by rw [e]; exact .head _)
    have h2 : b ∉ baseFp ⟨C, x, dx, dd, none, most⟩ := fun e => hb (.tail _ e)
    have h3 : b ≠ dx := fun e => h2 (by rw [e]; simp [baseFp])
    rw [md.same b h2, Hp.set_ne _ _ h1, Hp.set_ne _ _ h3]
end CacheC
end Mine
namespace Mine
set_option pp.deepTerms false
set_option pp.deepTerms.threshold 8
local macro_rules | `(tactic| walk_at "lk") => `(tactic| first | assumption | rfl | (simp only [mset, ofs_inj, String.reduceEq, ↓reduceIte]; first | assumption | rfl) | (simp only [mset, ofs_inj, String.reduceEq, ↓reduceIte]; done))
local macro_rules | `(tactic| walk_at "nm") => `(tactic| (refine v_local (by assumption) (by assumption) (kof (by assumption) (by kernel_rfl)) (by walk_at "lk") ?_ (by kernel_rfl)))
local macro_rules | `(tactic| walk_at "st") => `(tactic| (refine v_store (by assumption) (by assumption) (kof (by assumption) (by kernel_rfl)) fun s r => ?_))
local macro_rules | `(tactic| walk_at "v") => `(tactic| first
  | with_reducible refine wpAny_Return_some ?_
  | with_reducible refine wpAny_Return_none ?_
  | ((with_reducible refine wpAny_Compare1 (hm := ?hm) ?_); (case hm => with_unfolding_all rfl))
  | ((with_reducible refine wpAny_isTrue_Compare1 (hm := ?hm) ?_); (case hm => with_unfolding_all rfl))
  | ((with_reducible refine wpAny_Assign_Name (hs := ?hs) ?_); (case hs => rfl))
  | ((with_reducible refine wpAny_Assign_Subscript (hs := ?hs) ?_); (case hs => rfl))
  | ((with_reducible refine plainObj_wpAny_Assign_Attribute (hs := ?hs) ?_); (case hs => rfl))
  | ((with_reducible refine wpAny_Assign_two (he := ?he) (hw := ?hw) ?_); (case he => rfl); (case hw => rfl))
  | with_reducible refine assign_Attr ?_
  | with_reducible refine assign_Subs ?_
  | with_reducible refine wpAny_assign_Name ?_
  | with_reducible refine Attribute_name ?_
  | with_reducible refine Attribute_any_ ?_
  | with_reducible refine Subscript_ ?_
  | with_reducible refine wpAny_If ?_
  | with_reducible refine wpAny_BinOp ?_
  | with_reducible refine wpAny_UnaryOp ?_
  | with_reducible refine wpAny_Delete ?_
  | with_reducible refine wpAny_deleteEach_cons ?_
  | with_reducible refine wpAny_deleteEach_nil ?_
  | with_reducible refine wpAny_delete_Subscript ?_
  | with_reducible refine wpAny_AugAssign_AttributeAny ?_
  | with_reducible refine wpAny_execs_nil ?_
  | with_reducible refine wpAny_Constant_none ?_
  | with_reducible refine spliced_none ?_
  | with_reducible refine ea_none ?_
  | ((with_reducible refine ea_plain ?_ ?he); (case he => rfl))
  | ((with_reducible refine' methodCall_KW (pl := ?pl) (he := ?he) ?_); (case he => rfl))
  | walk_at "nm"
  | ((with_reducible refine spliced_more ?_ (he := ?he)); (case he => rfl)))
local macro_rules | `(tactic| walk_at "vv") => `(tactic| repeat walk_at "v")
namespace Fifo
variable {prog : Program} {w : World} {K : Frag} {H : Option Value} {n : Nat} {σ : Hp}
theorem call_del {C : Addr} (F : KF K C) {I : Info} {od : Addr} {mm : Nm} {b : B} {ks : List Int} {k : Int} {tk : Tok} {X : String → Hp → Prop} (hC : I.C = C)
    (ro : RO I od oname σ mm b ks) (hin : (aget b.data k).isSome = true) (hins : I.ds ≠ none → (aget b.size k).isSome = true) (ho : k ∈ ks) :
    CallT prog w K H (n + 2) (.ref F.del) ⟨[.ref I.x, .int k tk], []⟩ σ (fun v σ' => v = .none ∧ ∃ mm', RO I od oname σ' mm' (b.del I k) (ks.filter (· ≠ k)) ∧ KeepFp (ordFp I od) σ σ') X := by
  subst hC
  have hf := F.hcdel
  refine CallT.of (binds := [("self", .ref I.x), ("key", .int k tk), ("cache_delitem", .ref F.cdel)]) F.hdel (fun _ _ _ _ _ _ _ _ s X => BindsTo.ofT F.htdel X rfl rfl rfl) (by kernel_rfl) (by kernel_rfl) (by kernel_rfl) ?_
  intro A base os env fs s hsc hcl a r
  have h1 : (fun y => [(("self" : Str), Value.ref I.x), ("key", .int k tk), ("cache_delitem", .ref F.cdel)].reverse.lookup y) "self" = some (.ref I.x) := by kernel_rfl
  have h2 : (fun y => [(("self" : Str), Value.ref I.x), ("key", .int k tk), ("cache_delitem", .ref F.cdel)].reverse.lookup y) "key" = some (.int k tk) := by kernel_rfl
  have h3 : (fun y => [(("self" : Str), Value.ref I.x), ("key", .int k tk), ("cache_delitem", .ref F.cdel)].reverse.lookup y) "cache_delitem" = some (.ref F.cdel) := by kernel_rfl
  refine wpAny_execs_cons ?_
  refine wpAny_Expr_any ?_ (by unfold interactive; rw [a.head.2.1]; rfl) (by rfl)
  refine wpAny_Call_ofName ?_
  walk_at "nm"
  refine v_callK (os := os) a F.kcdel rfl ?_
  repeat walk_at "v"
  refine ⟨⟨_, _, r⟩, ?_⟩
  refine v_told a r (X := fun _ _ => False) (Mine.call_del (n := 0) (tk := tk) F.hcdel F.ok ro.rb hin hins) (by omega) (fun v σ' s' ⟨_, hb⟩ r => ?_) fun _ _ _ _ x _ => x.elim
  obtain ⟨mm', ro', kp⟩ := ro.base (by decide +kernel) hb
  refine wpAny_execs_cons ?_
  repeat walk_at "v"
  obtain ⟨j, hj, hd⟩ := ro'.rb.ns
  refine v_own a r ro'.rb.inst hd ro'.horder rfl F.ok.get F.ok.dict F.ford (by kernel_rfl) fun s r => ?_
  walk_at "v"
  refine v_ddel r ro'.order (by have := ro'.short; simp; omega) (by rw [valueAt_eq, keys_get, if_pos ho]; rfl) fun s r => ?_
  repeat walk_at "v"
  rw [without_eq, keys_del] at r
  obtain ⟨ro2, kp2⟩ := ro'.turn (ks' := ks.filter (· ≠ k)) (Nat.le_trans (List.length_filter_le _ _) ro'.short)
  exact ⟨_, _, r, rfl, mm', ro2, kp.trans kp2⟩

theorem call_pop {C : Addr} (F : KF K C) {I : Info} {od : Addr} {mm : Nm} {b : B} {ks : List Int} {k : Int} {v : Value} {X : String → Hp → Prop} (hC : I.C = C)
    (ro : RO I od oname σ mm b (k :: ks)) (hv : aget b.data k = some v) (hins : I.ds ≠ none → (aget b.size k).isSome = true) :
    CallT prog w K none (n + 3) (.ref F.pop) ⟨[.ref I.x], []⟩ σ (fun r σ' => (∃ t tk, r = .ref t ∧ σ t = none ∧ σ' t = some (.tup [.int k tk, v])) ∧
      ∃ mm', RO I od oname σ' mm' (b.del I k) ((k :: ks).filter (· ≠ k)) ∧ KeepFp (ordFp I od) σ σ') X := by
  subst hC
  refine CallT.of (binds := [("self", .ref I.x)]) F.hpop (fun _ _ _ _ _ _ _ _ _ _ => BindsTo.of_eq rfl) (by kernel_rfl) (by kernel_rfl) (by kernel_rfl) ?_
  intro A base os env fs s hsc hcl a r
  have h1 : (fun y => [(("self" : Str), Value.ref I.x)].reverse.lookup y) "self" = some (.ref I.x) := by kernel_rfl
  obtain ⟨j, hj, hd⟩ := ro.rb.ns
  have hsh := ro.short
  refine wpAny_execs_cons ?_
  refine v_try ?_
  refine wpAny_execs_cons ?_
  walk_at "v"
  refine wpAny_Call_ofName ?_
  refine v_builtin a r (kof hsc (by kernel_rfl)) F.hnext (v := .builtin "next") (by kernel_rfl) (by decide +kernel) ?_ (by kernel_rfl)
  refine v_callB rfl ?_
  walk_at "vv"
  refine wpAny_Call_ofName ?_
  refine v_builtin a r (kof hsc (by kernel_rfl)) F.hiter (v := .builtin "iter") (by kernel_rfl) (by decide +kernel) ?_ (by kernel_rfl)
  refine v_callB rfl ?_
  walk_at "vv"
  refine v_own a r ro.rb.inst hd ro.horder rfl F.ok.get F.ok.dict F.ford (by kernel_rfl) fun s r => ?_
  walk_at "vv"
  refine v_iterD r ro.order fun it ep s hit r => ?_
  walk_at "vv"
  refine v_nextD r (Hp.set_self _ _ _) (by rw [Hp.set_ne _ _ fun e => by rw [← e, ro.order] at hit; cases hit]; exact Hp.set_self _ _ _) (i := 0) rfl fun s tk r => ?_
  have r := R.back ro.order hit r
  walk_at "st"; rename_i s r
  walk_at "vv"
  refine wpAny_execs_cons ?_
  walk_at "vv"
  refine v_global a r (kof hsc (by kernel_rfl)) F.hCache ?_ (by kernel_rfl)
  obtain ⟨mc, hg1, hg2, hg3⟩ := F.ncget
  refine v_clsmeth a r hg1 hg2 hg3 rfl fun s r => ?_
  refine v_callK (os := os) a F.kcget rfl ?_
  walk_at "vv"
  refine ⟨⟨_, _, r⟩, ?_⟩
  refine v_told a r (X := fun _ _ => False) (Mine.call_getitem (n := 0) (tk := tk) F.hcget F.ok ro.rb hv) (by omega) (fun v' σ' s' ⟨q1, q2⟩ r => ?_) fun _ _ _ _ x _ => x.elim
  subst q1; subst q2
  walk_at "st"; rename_i s r
  refine wpAny_execs_cons ?_
  walk_at "vv"
  refine v_delI a r ro.rb.inst hd F.ok.seq F.ndel F.idel ?_
  refine v_told a r (X := fun _ _ => False) (call_del (n := 0) (tk := tk) F rfl ro (by rw [hv]; rfl) hins (.head _)) (by omega) (fun _ σ' s' ⟨_, mm', ro', kp⟩ r => ?_) fun _ _ _ _ x _ => x.elim
  walk_at "vv"
  refine wpAny_execs_cons ?_
  walk_at "v"
  refine v_tuple (base := base) (os := os) (fs := fs) ?_
  walk_at "vv"
  refine ⟨by simp, _, _, r, fun t s' ht r' => ?_⟩
  refine ⟨_, _, r', ⟨t, tk, rfl, ro'.none kp ht, Hp.set_self _ _ _⟩, mm', ro'.addNew ht, kp.trans (.setNew ht)⟩

structure Om where
  b : B
  ks : List Int
structure Om.Wf (I : Info) (o : Om) : Prop where
  nd : o.ks.Nodup
  mem : ∀ k, k ∈ o.ks ↔ o.b.has k = true
  sz : I.ds ≠ none → ∀ k, o.b.has k = true → (aget o.b.size k).isSome = true
def Om.pop (I : Info) (o : Om) : Option Om := match o.ks with
  | [] => none
  | k :: ks => some ⟨o.b.del I k, (k :: ks).filter (· ≠ k)⟩
def Om.put (I : Info) (o : Om) (k : Int) (v : Value) (c : Int) : Om := ⟨o.b.put I k v c, o.ks.filter (· ≠ k) ++ [k]⟩

theorem Om.Wf.pop {I : Info} {o o' : Om} (h : o.Wf I) (e : o.pop I = some o') : o'.Wf I := by
  unfold Om.pop at e
  split at e
  · cases e
  next k ks hk =>
    cases e
    refine ⟨by show ((k :: ks).filter (· ≠ k)).Nodup; rw [← hk]; exact h.nd.filter _, fun x => ?_, fun hd x hx => ?_⟩
    · show x ∈ (k :: ks).filter (· ≠ k) ↔ (o.b.del I k).has x = true
      rw [has_del, ← hk, List.mem_filter, h.mem]; simp
    · rw [has_del] at hx
      simp only [Bool.and_eq_true, decide_eq_true_eq] at hx
      rw [size_del hd _ trivial hx.2]
      exact h.sz hd x hx.1
theorem Om.Wf.put {I : Info} {o : Om} {k : Int} {v : Value} {c : Int} (h : o.Wf I) : (o.put I k v c).Wf I := by
  refine ⟨nodup_push h.nd, fun x => ?_, fun hd x hx => ?_⟩
  · rw [show (o.put I k v c).b.has x = (o.b.has x || decide (x = k)) from has_put ..]
    simp only [Om.put, List.mem_append, List.mem_filter, List.mem_singleton, h.mem, Bool.or_eq_true, decide_eq_true_eq]
    by_cases hx : x = k <;> simp [hx]
  · rw [show (o.put I k v c).b.has x = (o.b.has x || decide (x = k)) from has_put ..] at hx
    show (aget (o.b.put I k v c).size x).isSome = true
    unfold B.put
    rw [if_neg hd]
    simp only [Bool.or_eq_true, decide_eq_true_eq] at hx
    by_cases hxk : x = k
    · subst hxk; rw [aget_aput_self]; rfl
    · rw [aget_aput_ne _ _ hxk]; exact h.sz hd x (hx.resolve_right hxk)

def th (prog : Program) (w : World) {K : Frag} {I : Info} (F : KF K I.C) (od : Addr) : Th prog w K I Om where
  b := Om.b
  rep := fun σ mm o => RO I od oname σ mm o.b o.ks ∧ o.Wf I
  rb := fun h => h.1.rb
  keep := KeepFp (ordFp I od)
  krefl := .refl _
  ktrans := .trans
  pop := Om.pop I
  popless := fun {o o' k} e h => by
    unfold Om.pop at e
    split at e
    · cases e
    cases e
    have := has_del (I := I) (b := o.b) (k := ‹Int›) (x := k)
    unfold B.has at this
    rw [h] at this
    cases q : aget (o.b.del I ‹Int›).data k with
    | none => rfl
    | some _ => rw [q] at this; cases this
  fpop := F.pop
  lvl := 3
  find := F.npop
  fn := F.ipop
  kp := F.kpop
  hpop := fun {σ mm o o'} ⟨ro, wf⟩ e => by
    have wf' := wf.pop e
    unfold Om.pop at e
    split at e
    · cases e
    next k ks hk =>
      cases e
      rw [hk] at ro
      have hin : o.b.has k = true := (wf.mem k).mp (by rw [hk]; exact .head _)
      obtain ⟨v, hv⟩ := Option.isSome_iff_exists.mp hin
      exact (call_pop (n := 0) F rfl ro hv fun hd => wf.sz hd k hin).mono (fun r σ' ⟨_, mm', ro', kp⟩ => ⟨mm', ⟨ro', wf'⟩, kp⟩) fun _ _ x => x
end Fifo
end Mine
namespace Mine
set_option pp.deepTerms false
set_option pp.deepTerms.threshold 8
local macro_rules | `(tactic| walk_at "lk") => `(tactic| first | assumption | rfl | (simp only [mset, ofs_inj, String.reduceEq, ↓reduceIte]; first | assumption | rfl) | (simp only [mset, ofs_inj, String.reduceEq, ↓reduceIte]; done))
local macro_rules | `(tactic| walk_at "nm") => `(tactic| (refine v_local (by assumption) (by assumption) (kof (by assumption) (by kernel_rfl)) (by walk_at "lk") ?_ (by kernel_rfl)))
local macro_rules | `(tactic| walk_at "st") => `(tactic| (refine v_store (by assumption) (by assumption) (kof (by assumption) (by kernel_rfl)) fun s r => ?_))
local macro_rules | `(tactic| walk_at "v") => `(tactic| first
  | with_reducible refine wpAny_Return_some ?_
  | with_reducible refine wpAny_Return_none ?_
  | ((with_reducible refine wpAny_Compare1 (hm := ?hm) ?_); (case hm => with_unfolding_all rfl))
  | ((with_reducible refine wpAny_isTrue_Compare1 (hm := ?hm) ?_); (case hm => with_unfolding_all rfl))
  | ((with_reducible refine wpAny_Assign_Name (hs := ?hs) ?_); (case hs => rfl))
  | ((with_reducible refine wpAny_Assign_Subscript (hs := ?hs) ?_); (case hs => rfl))
  | ((with_reducible refine plainObj_wpAny_Assign_Attribute (hs := ?hs) ?_); (case hs => rfl))
  | ((with_reducible refine wpAny_Assign_two (he := ?he) (hw := ?hw) ?_); (case he => rfl); (case hw => rfl))
  | with_reducible refine assign_Attr ?_
  | with_reducible refine assign_Subs ?_
  | with_reducible refine wpAny_assign_Name ?_
  | with_reducible refine Attribute_name ?_
  | with_reducible refine Attribute_any_ ?_
  | with_reducible refine Subscript_ ?_
  | with_reducible refine wpAny_If ?_
  | with_reducible refine wpAny_BinOp ?_
  | with_reducible refine wpAny_UnaryOp ?_
  | with_reducible refine wpAny_Delete ?_
  | with_reducible refine wpAny_deleteEach_cons ?_
  | with_reducible refine wpAny_deleteEach_nil ?_
  | with_reducible refine wpAny_delete_Subscript ?_
  | with_reducible refine wpAny_AugAssign_AttributeAny ?_
  | with_reducible refine wpAny_execs_nil ?_
  | with_reducible refine wpAny_Constant_none ?_
  | with_reducible refine spliced_none ?_
  | with_reducible refine ea_none ?_
  | ((with_reducible refine ea_plain ?_ ?he); (case he => rfl))
  | ((with_reducible refine' methodCall_KW (pl := ?pl) (he := ?he) ?_); (case he => rfl))
  | walk_at "nm"
  | ((with_reducible refine spliced_more ?_ (he := ?he)); (case he => rfl)))
local macro_rules | `(tactic| walk_at "vv") => `(tactic| repeat walk_at "v")
namespace Fifo
variable {prog : Program} {w : World} {K : Frag} {n : Nat} {σ : Hp}

theorem call_set {I : Info} (F : KF K I.C) {od : Addr} {mm : Nm} {o : Om} {k : Int} {tk : Tok} {v : Value} {c : Int} {fu N : Nat} {X : String → Hp → Prop}
    (hb : CallT prog w K none N (.ref F.cset) ⟨[.ref I.x, .int k tk, v], []⟩ σ (fun r σ' => r = .none ∧ SetOut (th prog w F od) o k v c fu σ σ') X)
    (hlen : ∀ o', evict (th prog w F od).b (th prog w F od).pop I.most (fun b => b.need I k c) fu o = some o' → o'.ks.length < 100) :
    CallT prog w K none (N + 1) (.ref F.set) ⟨[.ref I.x, .int k tk, v], []⟩ σ (fun r σ' => r = .none ∧ SetTo (th prog w F od) (fun o => o.put I k v c) (fun b => b.need I k c) fu o σ σ') X := by
  refine CallT.of (binds := [("self", .ref I.x), ("key", .int k tk), ("value", v), ("cache_setitem", .ref F.cset)]) F.hset (fun _ _ _ _ _ _ _ _ s X => BindsTo.ofT F.htset X rfl rfl rfl) (by kernel_rfl) (by kernel_rfl) (by kernel_rfl) ?_
  intro A base os env fs s hsc hcl a r
  have h1 : (fun y => [(("self" : Str), Value.ref I.x), ("key", .int k tk), ("value", v), ("cache_setitem", .ref F.cset)].reverse.lookup y) "self" = some (.ref I.x) := by kernel_rfl
  have h2 : (fun y => [(("self" : Str), Value.ref I.x), ("key", .int k tk), ("value", v), ("cache_setitem", .ref F.cset)].reverse.lookup y) "key" = some (.int k tk) := by kernel_rfl
  have h3 : (fun y => [(("self" : Str), Value.ref I.x), ("key", .int k tk), ("value", v), ("cache_setitem", .ref F.cset)].reverse.lookup y) "value" = some v := by kernel_rfl
  have h4 : (fun y => [(("self" : Str), Value.ref I.x), ("key", .int k tk), ("value", v), ("cache_setitem", .ref F.cset)].reverse.lookup y) "cache_setitem" = some (.ref F.cset) := by kernel_rfl
  refine wpAny_execs_cons ?_
  refine wpAny_Expr_any ?_ (by unfold interactive; rw [a.head.2.1]; rfl) (by rfl)
  refine wpAny_Call_ofName ?_
  walk_at "nm"
  refine v_callK (os := os) a F.kcset rfl ?_
  walk_at "vv"
  refine ⟨⟨_, _, r⟩, ?_⟩
  refine v_told a r hb (by omega) (fun _ σ' s' ⟨_, σ₁, mm₁, o₁, ⟨ro₁, wf₁⟩, kp₁, hev, hout⟩ r => ?_) fun _ _ _ _ x u => lv_of_up a u x
  obtain ⟨mm', ro', kp'⟩ := ro₁.base (by decide +kernel) hout
  obtain ⟨j, hj, hd⟩ := ro'.rb.ns
  have hl := hlen _ hev
  have fin : ∀ {σ'' : Hp}, RO I od oname σ'' mm' (o₁.b.put I k v c) (o₁.ks.filter (· ≠ k) ++ [k]) → KeepFp (ordFp I od) σ' σ'' → SetTo (th prog w F od) (fun o => o.put I k v c) (fun b => b.need I k c) fu o σ σ'' := fun {σ''} ro2 kp2 =>
    ⟨mm', o₁, hev, ⟨ro2, wf₁.put⟩, (kp₁.trans kp').trans kp2⟩
  have hfl := List.length_filter_le (fun x => decide (x ≠ k)) o₁.ks
  refine wpAny_execs_cons ?_
  walk_at "vv"
  refine v_own a r ro'.rb.inst hd ro'.horder rfl F.ok.get F.ok.dict F.ford (by kernel_rfl) fun s r => ?_
  refine v_din r ro'.order fun s r => ?_
  refine v_truth ?_
  rw [valueAt_eq, keys_get]
  by_cases hin : k ∈ o₁.ks
  · rw [if_pos hin, if_pos (show (some Value.none).isSome = true from rfl)]
    refine wpAny_execs_cons ?_
    walk_at "vv"
    refine v_own a r ro'.rb.inst hd ro'.horder rfl F.ok.get F.ok.dict F.ford (by kernel_rfl) fun s r => ?_
    refine v_dmeth r ro'.order PySem.F.slot_dict_pop (by with_unfolding_all rfl) ?_
    refine v_callB rfl ?_
    walk_at "vv"
    refine v_dpop r ro'.order (by simp; omega) (by rw [valueAt_eq, keys_get, if_pos hin]) fun s r => ?_
    rw [without_eq, keys_del] at r
    obtain ⟨ro2, kp2⟩ := ro'.turn (ks' := o₁.ks.filter (· ≠ k)) (by omega)
    walk_at "vv"
    obtain ⟨j2, hj2, hd2⟩ := ro2.rb.ns
    refine v_own a r ro2.rb.inst hd2 ro2.horder rfl F.ok.get F.ok.dict F.ford (by kernel_rfl) fun s r => ?_
    walk_at "vv"
    refine v_dset r ro2.order (by rw [List.length_map]; omega) fun s r => ?_
    rw [stored_eq, keys_put_new (by simp)] at r
    obtain ⟨ro3, kp3⟩ := ro2.turn (ks' := o₁.ks.filter (· ≠ k) ++ [k]) (by rw [List.length_append]; simp only [List.length_singleton]; omega)
    walk_at "vv"
    exact ⟨_, _, r, rfl, fin ro3 (kp2.trans kp3)⟩
  · rw [if_neg hin, if_neg (show ¬ (none : Option Value).isSome = true by decide)]
    refine wpAny_execs_cons ?_
    walk_at "vv"
    refine v_own a r ro'.rb.inst hd ro'.horder rfl F.ok.get F.ok.dict F.ford (by kernel_rfl) fun s r => ?_
    walk_at "vv"
    refine v_dset r ro'.order (by simp; omega) fun s r => ?_
    rw [stored_eq, keys_put_new hin, show o₁.ks = o₁.ks.filter (· ≠ k) from (List.filter_eq_self.mpr fun a ha => by simp; rintro rfl; exact hin ha).symm] at r
    obtain ⟨ro3, kp3⟩ := ro'.turn (ks' := o₁.ks.filter (· ≠ k) ++ [k]) (by rw [List.length_append]; simp only [List.length_singleton]; omega)
    walk_at "vv"
    exact ⟨_, _, r, rfl, fin ro3 kp3⟩
end Fifo
end Mine
namespace Mine
set_option pp.deepTerms false
set_option pp.deepTerms.threshold 8
local macro_rules | `(tactic| walk_at "lk") => `(tactic| first | assumption | rfl | (simp only [mset, ofs_inj, String.reduceEq, ↓reduceIte]; first | assumption | rfl) | (simp only [mset, ofs_inj, String.reduceEq, ↓reduceIte]; done))
local macro_rules | `(tactic| walk_at "nm") => `(tactic| (refine v_local (by assumption) (by assumption) (kof (by assumption) (by kernel_rfl)) (by walk_at "lk") ?_ (by kernel_rfl)))
local macro_rules | `(tactic| walk_at "st") => `(tactic| (refine v_store (by assumption) (by assumption) (kof (by assumption) (by kernel_rfl)) fun s r => ?_))
local macro_rules | `(tactic| walk_at "v") => `(tactic| first
  | with_reducible refine wpAny_Return_some ?_
  | with_reducible refine wpAny_Return_none ?_
  | ((with_reducible refine wpAny_Compare1 (hm := ?hm) ?_); (case hm => with_unfolding_all rfl))
  | ((with_reducible refine wpAny_isTrue_Compare1 (hm := ?hm) ?_); (case hm => with_unfolding_all rfl))
  | ((with_reducible refine wpAny_Assign_Name (hs := ?hs) ?_); (case hs => rfl))
  | ((with_reducible refine wpAny_Assign_Subscript (hs := ?hs) ?_); (case hs => rfl))
  | ((with_reducible refine plainObj_wpAny_Assign_Attribute (hs := ?hs) ?_); (case hs => rfl))
  | ((with_reducible refine wpAny_Assign_two (he := ?he) (hw := ?hw) ?_); (case he => rfl); (case hw => rfl))
  | with_reducible refine assign_Attr ?_
  | with_reducible refine assign_Subs ?_
  | with_reducible refine wpAny_assign_Name ?_
  | with_reducible refine Attribute_name ?_
  | with_reducible refine Attribute_any_ ?_
  | with_reducible refine Subscript_ ?_
  | with_reducible refine wpAny_If ?_
  | with_reducible refine wpAny_BinOp ?_
  | with_reducible refine wpAny_UnaryOp ?_
  | with_reducible refine wpAny_Delete ?_
  | with_reducible refine wpAny_deleteEach_cons ?_
  | with_reducible refine wpAny_deleteEach_nil ?_
  | with_reducible refine wpAny_delete_Subscript ?_
  | with_reducible refine wpAny_AugAssign_AttributeAny ?_
  | with_reducible refine wpAny_execs_nil ?_
  | with_reducible refine wpAny_Constant_none ?_
  | with_reducible refine spliced_none ?_
  | with_reducible refine ea_none ?_
  | ((with_reducible refine ea_plain ?_ ?he); (case he => rfl))
  | ((with_reducible refine' methodCall_KW (pl := ?pl) (he := ?he) ?_); (case he => rfl))
  | walk_at "nm"
  | ((with_reducible refine spliced_more ?_ (he := ?he)); (case he => rfl)))
local macro_rules | `(tactic| walk_at "vv") => `(tactic| repeat walk_at "v")
namespace Fifo
variable {prog : Program} {w : World} {K : Frag} {H : Option Value} {n : Nat} {σ : Hp}
theorem clsNames_ord : ∀ nm ∈ clsNames, nm ≠ oname := by decide +kernel
theorem mset_ne {m : Nm} {x y : Str} {v : Value} (h : y ≠ x) : mset m x v y = m y := if_neg h
theorem mset_eq {m : Nm} {x : Str} {v : Value} : mset m x v x = some v := if_pos rfl
theorem on1 : ("_Cache__data" : Str) ≠ oname := by decide +kernel
theorem on2 : ("_Cache__size" : Str) ≠ oname := by decide +kernel
theorem on3 : ("getsizeof" : Str) ≠ oname := by decide +kernel
theorem on4 : ("_Cache__currsize" : Str) ≠ oname := by decide +kernel
theorem on5 : ("_Cache__maxsize" : Str) ≠ oname := by decide +kernel
theorem body_init {C x d : Addr} (F : KI K C) (ok : ClsOK K C) {most : Int} {tk : Tok} {gv : Value} {m : Nm} {N : Nat} {P : Info → Prop} {X : String → Hp → Prop} (hN : N ≤ n)
    (hb : CallT prog w K H N (.ref F.cinit) ⟨[.ref x, .int most tk, gv], []⟩ σ (fun v σ' => v = .none ∧ ∃ I mm', P I ∧ I.x = x ∧ I.C = C ∧ I.d = d ∧ Made σ σ' I mm') X)
    (hs : m "self" = some (.ref x)) (hm : m "maxsize" = some (.int most tk)) (hg : m "getsizeof" = some gv) :
    BodyT prog w K H n (fnScope s_oinit) [] (fnBody s_oinit) m σ (fun v σ' => v = .none ∧ ∃ I od mm', P I ∧ I.x = x ∧ I.C = C ∧ I.d = d ∧ RO I od oname σ' mm' ⟨[], [], 0⟩ [] ∧
      (∀ a ∈ ordFp I od, a ≠ d → σ a = none) ∧ ∀ a, a ∉ ordFp I od → σ' a = σ a) X := by
  intro A base os env fs s hsc hcl a r
  refine wpAny_execs_cons ?_
  refine wpAny_Expr_any ?_ (by unfold interactive; rw [a.head.2.1]; rfl) (by rfl)
  walk_at "vv"
  refine v_global a r (kof hsc (by kernel_rfl)) F.gs.hCache ?_ (by kernel_rfl)
  obtain ⟨mc, hg2, hg3⟩ := F.ncinit
  refine v_clsmeth a r F.spC hg2 hg3 rfl fun s r => ?_
  refine v_callK (os := os) a F.kcinit rfl ?_
  walk_at "vv"
  refine ⟨⟨_, _, r⟩, ?_⟩
  refine v_told a r hb hN (fun _ σ' s' ⟨_, I, mm', hP, e1, e2, e3, md⟩ r => ?_) fun _ _ _ _ x u => lv_of_up a u x
  subst e1; subst e2; subst e3
  obtain ⟨j, hj, hd⟩ := md.cnt
  refine wpAny_execs_cons ?_
  walk_at "vv"
  refine v_dict0 r fun od s hod r => ?_
  walk_at "vv"
  have inst := md.rb.inst
  have nod : od ∉ I.x :: baseFp I := fun h => md.rb.dom h hod
  obtain ⟨nx, nfp⟩ : od ≠ I.x ∧ od ∉ baseFp I := by simpa using nod
  have nd : od ≠ I.d := fun e => nfp (by rw [e]; exact .head _)
  have hxd : I.x ≠ I.d := md.rb.d_ne.2.2
  refine v_setown a r (by rw [Hp.set_ne _ _ nx.symm]; exact inst) (by rw [Hp.set_ne _ _ nd.symm]; exact hd) (by omega) ok.seta ok.over F.tord ok.dict fun s r => ?_
  walk_at "vv"
  have hσ : σ od = none := by rw [← md.same _ nfp]; exact hod
  obtain ⟨rb1, rb2, rb3, rb4, rb5, rb6, rb7, rb8, rb9, rb10, rb11⟩ := md.rb
  have dne := md.rb.d_ne
  refine ⟨_, _, r, rfl, I, od, _, hP, rfl, rfl, rfl, ⟨⟨?_, ⟨_, by omega, Hp.set_self _ _ _⟩, ?_, ?_, ?_, ?_, ?_, ?_, ?_, ?_, rb11⟩, ?_, ?_, nfp, by decide⟩, ?_, ?_⟩
  · rw [Hp.set_ne _ _ hxd, Hp.set_ne _ _ nx.symm]; exact inst
  · exact (mset_ne on1).trans rb3
  · rw [Hp.set_ne _ _ dne.1.symm, Hp.set_ne _ _ (fun e => nfp (by rw [← e]; simp [baseFp]))]; exact rb4
  · exact (mset_ne on2).trans rb5
  · exact (mset_ne on3).trans rb6
  · intro p hp
    obtain ⟨kvs, q1, q2, q3⟩ := rb7 p hp
    refine ⟨kvs, ?_, q2, q3⟩
    rw [Hp.set_ne _ _ (fun e => by rw [e, hd] at q1; cases q1), Hp.set_ne _ _ (fun e => nfp (by rw [← e]; simp [baseFp, hp]))]; exact q1
  · exact rb8.imp fun _ h => (mset_ne on4).trans h
  · exact rb9.imp fun _ h => (mset_ne on5).trans h
  · intro y hy
    have := rb10 y hy
    have hne : y ≠ (oname : Str) := clsNames_ord y hy
    exact (mset_ne hne).trans this
  · exact mset_eq
  · rw [Hp.set_ne _ _ nd, Hp.set_self]; rfl
  · intro b hb hne
    rcases List.mem_cons.mp hb with rfl | hb
    · exact hσ
    · exact md.new b hb hne
  · intro b hb
    have h1 : b ≠ od := fun e => hb (by rw [e]; exact .head _)
    have h2 : b ∉ baseFp I := fun e => hb (.tail _ e)
    rw [Hp.set_ne _ _ (fun e => h2 (by rw [e]; exact .head _)), Hp.set_ne _ _ h1]
    exact md.same _ h2

theorem make_plain {C : Addr} (F : KI K C) (ok : ClsOK K C) {most : Int} {tk : Tok} {X : String → Hp → Prop} (h0 : 0 ≤ most) :
    CallT prog w K H (n + 4) (.ref C) ⟨[.int most tk], []⟩ σ (fun v σ' => ∃ I od mm', v = .ref I.x ∧ I.C = C ∧ I.ds = none ∧ I.most = most ∧ RO I od oname σ' mm' ⟨[], [], 0⟩ [] ∧
      (∀ a ∈ I.x :: ordFp I od, σ a = none) ∧ ∀ a, a ∉ I.x :: ordFp I od → σ' a = σ a) X := by
  refine (CallT.make (Q := fun v σ' => ∃ I od mm', v = .ref I.x ∧ I.C = C ∧ I.ds = none ∧ I.most = most ∧ RO I od oname σ' mm' ⟨[], [], 0⟩ [] ∧
      (∀ a ∈ I.x :: ordFp I od, σ a = none) ∧ ∀ a, a ∉ I.x :: ordFp I od → σ' a = σ a) F.makes F.ninit F.iinit fun x dx hx hdx hne => ?_)
  refine (CallT.of (binds := [("self", .ref x), ("maxsize", .int most tk), ("getsizeof", .none)]) F.hinit (fun _ _ _ _ _ _ _ _ s X => BindsTo.ofT F.htinit X rfl rfl rfl) (by kernel_rfl) (by kernel_rfl) (by kernel_rfl)
    (body_init (n := n + 2) (x := x) (d := dx) (most := most) (tk := tk) (gv := .none) (N := n + 1) (P := fun I => I.ds = none ∧ I.most = most) F ok (by omega) ?_ (by kernel_rfl) (by kernel_rfl) (by kernel_rfl))).mono ?_ fun _ _ x => x
  · refine (CallT.of (n := n) (binds := [("self", .ref x), ("maxsize", .int most tk), ("getsizeof", .none)]) F.hcinit (fun _ _ _ _ _ _ _ _ s X => BindsTo.ofT F.htcinit X rfl rfl rfl) (by kernel_rfl) (by kernel_rfl) (by kernel_rfl)
      (body_init_plain (C := C) (x := x) (d := dx) (tk := tk) ok F.gs h0 (Hp.set_self _ _ _) (by rw [Hp.set_ne _ _ hne.symm]; exact Hp.set_self _ _ _) (by kernel_rfl) (by kernel_rfl) (by kernel_rfl))).mono ?_ fun _ _ x => x
    rintro v σ' ⟨e, dd, mm', md⟩
    exact ⟨e, _, mm', ⟨rfl, rfl⟩, rfl, rfl, rfl, md⟩
  · rintro v σ' ⟨e, I, od, mm', ⟨e1, e2⟩, rfl, rfl, rfl, ro, k1, k2⟩
    refine ⟨e, I, od, mm', rfl, rfl, e1, e2, ro, fun b hb => ?_, fun b hb => ?_⟩
    · rcases List.mem_cons.mp hb with rfl | hb
      · exact hx
      · by_cases hbd : b = I.d
        · subst hbd; exact hdx
        · have := k1 b hb hbd
          by_cases hbx : b = I.x
          · subst hbx; exact hx
          · rw [Hp.set_ne _ _ hbx, Hp.set_ne _ _ hbd] at this; exact this
    · have h1 : b ≠ I.x := fun e => hb (by rw [e]; exact .head _)
      have h2 : b ∉ ordFp I od := fun e => hb (.tail _ e)
      have h3 : b ≠ I.d := fun e => h2 (by rw [e]; simp [ordFp, baseFp])
      rw [k2 b h2, Hp.set_ne _ _ h1, Hp.set_ne _ _ h3]
end Fifo
end Mine
namespace Mine
set_option pp.deepTerms false
set_option pp.deepTerms.threshold 8
local macro_rules | `(tactic| walk_at "lk") => `(tactic| first | assumption | rfl | (simp only [mset, ofs_inj, String.reduceEq, ↓reduceIte]; first | assumption | rfl) | (simp only [mset, ofs_inj, String.reduceEq, ↓reduceIte]; done))
local macro_rules | `(tactic| walk_at "nm") => `(tactic| (refine v_local (by assumption) (by assumption) (kof (by assumption) (by kernel_rfl)) (by walk_at "lk") ?_ (by kernel_rfl)))
local macro_rules | `(tactic| walk_at "st") => `(tactic| (refine v_store (by assumption) (by assumption) (kof (by assumption) (by kernel_rfl)) fun s r => ?_))
local macro_rules | `(tactic| walk_at "v") => `(tactic| first
  | with_reducible refine wpAny_Return_some ?_
  | with_reducible refine wpAny_Return_none ?_
  | ((with_reducible refine wpAny_Compare1 (hm := ?hm) ?_); (case hm => with_unfolding_all rfl))
  | ((with_reducible refine wpAny_isTrue_Compare1 (hm := ?hm) ?_); (case hm => with_unfolding_all rfl))
  | ((with_reducible refine wpAny_Assign_Name (hs := ?hs) ?_); (case hs => rfl))
  | ((with_reducible refine wpAny_Assign_Subscript (hs := ?hs) ?_); (case hs => rfl))
  | ((with_reducible refine plainObj_wpAny_Assign_Attribute (hs := ?hs) ?_); (case hs => rfl))
  | ((with_reducible refine wpAny_Assign_two (he := ?he) (hw := ?hw) ?_); (case he => rfl); (case hw => rfl))
  | with_reducible refine assign_Attr ?_
  | with_reducible refine assign_Subs ?_
  | with_reducible refine wpAny_assign_Name ?_
  | with_reducible refine Attribute_name ?_
  | with_reducible refine Attribute_any_ ?_
  | with_reducible refine Subscript_ ?_
  | with_reducible refine wpAny_If ?_
  | with_reducible refine wpAny_BinOp ?_
  | with_reducible refine wpAny_UnaryOp ?_
  | with_reducible refine wpAny_Delete ?_
  | with_reducible refine wpAny_deleteEach_cons ?_
  | with_reducible refine wpAny_deleteEach_nil ?_
  | with_reducible refine wpAny_delete_Subscript ?_
  | with_reducible refine wpAny_AugAssign_AttributeAny ?_
  | with_reducible refine wpAny_execs_nil ?_
  | with_reducible refine wpAny_Constant_none ?_
  | with_reducible refine spliced_none ?_
  | with_reducible refine ea_none ?_
  | ((with_reducible refine ea_plain ?_ ?he); (case he => rfl))
  | ((with_reducible refine' methodCall_KW (pl := ?pl) (he := ?he) ?_); (case he => rfl))
  | walk_at "nm"
  | ((with_reducible refine spliced_more ?_ (he := ?he)); (case he => rfl)))
local macro_rules | `(tactic| walk_at "vv") => `(tactic| repeat walk_at "v")
namespace Lru
variable {prog : Program} {w : World} {K : Frag} {H : Option Value} {n : Nat} {σ : Hp}
theorem call_del {C : Addr} (F : KF K C) {I : Info} {od : Addr} {mm : Nm} {b : B} {ks : List Int} {k : Int} {tk : Tok} {X : String → Hp → Prop} (hC : I.C = C)
    (ro : RO I od oname σ mm b ks) (hin : (aget b.data k).isSome = true) (hins : I.ds ≠ none → (aget b.size k).isSome = true) (ho : k ∈ ks) :
    CallT prog w K H (n + 2) (.ref F.del) ⟨[.ref I.x, .int k tk], []⟩ σ (fun v σ' => v = .none ∧ ∃ mm', RO I od oname σ' mm' (b.del I k) (ks.filter (· ≠ k)) ∧ KeepFp (ordFp I od) σ σ') X := by
  subst hC
  have hf := F.hcdel
  refine CallT.of (binds := [("self", .ref I.x), ("key", .int k tk), ("cache_delitem", .ref F.cdel)]) F.hdel (fun _ _ _ _ _ _ _ _ s X => BindsTo.ofT F.htdel X rfl rfl rfl) (by kernel_rfl) (by kernel_rfl) (by kernel_rfl) ?_
  intro A base os env fs s hsc hcl a r
  have h1 : (fun y => [(("self" : Str), Value.ref I.x), ("key", .int k tk), ("cache_delitem", .ref F.cdel)].reverse.lookup y) "self" = some (.ref I.x) := by kernel_rfl
  have h2 : (fun y => [(("self" : Str), Value.ref I.x), ("key", .int k tk), ("cache_delitem", .ref F.cdel)].reverse.lookup y) "key" = some (.int k tk) := by kernel_rfl
  have h3 : (fun y => [(("self" : Str), Value.ref I.x), ("key", .int k tk), ("cache_delitem", .ref F.cdel)].reverse.lookup y) "cache_delitem" = some (.ref F.cdel) := by kernel_rfl
  refine wpAny_execs_cons ?_
  refine wpAny_Expr_any ?_ (by unfold interactive; rw [a.head.2.1]; rfl) (by rfl)
  refine wpAny_Call_ofName ?_
  walk_at "nm"
  refine v_callK (os := os) a F.kcdel rfl ?_
  repeat walk_at "v"
  refine ⟨⟨_, _, r⟩, ?_⟩
  refine v_told a r (X := fun _ _ => False) (Mine.call_del (n := 0) (tk := tk) F.hcdel F.ok ro.rb hin hins) (by omega) (fun v σ' s' ⟨_, hb⟩ r => ?_) fun _ _ _ _ x _ => x.elim
  obtain ⟨mm', ro', kp⟩ := ro.base (by decide +kernel) hb
  refine wpAny_execs_cons ?_
  repeat walk_at "v"
  obtain ⟨j, hj, hd⟩ := ro'.rb.ns
  refine v_own a r ro'.rb.inst hd ro'.horder rfl F.ok.get F.ok.dict F.ford (by kernel_rfl) fun s r => ?_
  walk_at "v"
  refine v_ddel r ro'.order (by have := ro'.short; simp; omega) (by rw [valueAt_eq, keys_get, if_pos ho]; rfl) fun s r => ?_
  repeat walk_at "v"
  rw [without_eq, keys_del] at r
  obtain ⟨ro2, kp2⟩ := ro'.turn (ks' := ks.filter (· ≠ k)) (Nat.le_trans (List.length_filter_le _ _) ro'.short)
  exact ⟨_, _, r, rfl, mm', ro2, kp.trans kp2⟩

theorem call_pop {C : Addr} (F : KF K C) {I : Info} {od : Addr} {mm : Nm} {b : B} {ks : List Int} {k : Int} {v : Value} {X : String → Hp → Prop} (hC : I.C = C)
    (ro : RO I od oname σ mm b (k :: ks)) (hv : aget b.data k = some v) (hins : I.ds ≠ none → (aget b.size k).isSome = true) :
    CallT prog w K none (n + 3) (.ref F.pop) ⟨[.ref I.x], []⟩ σ (fun r σ' => (∃ t tk, r = .ref t ∧ σ t = none ∧ σ' t = some (.tup [.int k tk, v])) ∧
      ∃ mm', RO I od oname σ' mm' (b.del I k) ((k :: ks).filter (· ≠ k)) ∧ KeepFp (ordFp I od) σ σ') X := by
  subst hC
  refine CallT.of (binds := [("self", .ref I.x)]) F.hpop (fun _ _ _ _ _ _ _ _ _ _ => BindsTo.of_eq rfl) (by kernel_rfl) (by kernel_rfl) (by kernel_rfl) ?_
  intro A base os env fs s hsc hcl a r
  have h1 : (fun y => [(("self" : Str), Value.ref I.x)].reverse.lookup y) "self" = some (.ref I.x) := by kernel_rfl
  obtain ⟨j, hj, hd⟩ := ro.rb.ns
  have hsh := ro.short
  refine wpAny_execs_cons ?_
  refine v_try ?_
  refine wpAny_execs_cons ?_
  walk_at "v"
  refine wpAny_Call_ofName ?_
  refine v_builtin a r (kof hsc (by kernel_rfl)) F.hnext (v := .builtin "next") (by kernel_rfl) (by decide +kernel) ?_ (by kernel_rfl)
  refine v_callB rfl ?_
  walk_at "vv"
  refine wpAny_Call_ofName ?_
  refine v_builtin a r (kof hsc (by kernel_rfl)) F.hiter (v := .builtin "iter") (by kernel_rfl) (by decide +kernel) ?_ (by kernel_rfl)
  refine v_callB rfl ?_
  walk_at "vv"
  refine v_own a r ro.rb.inst hd ro.horder rfl F.ok.get F.ok.dict F.ford (by kernel_rfl) fun s r => ?_
  walk_at "vv"
  refine v_iterD r ro.order fun it ep s hit r => ?_
  walk_at "vv"
  refine v_nextD r (Hp.set_self _ _ _) (by rw [Hp.set_ne _ _ fun e => by rw [← e, ro.order] at hit; cases hit]; exact Hp.set_self _ _ _) (i := 0) rfl fun s tk r => ?_
  have r := R.back ro.order hit r
  walk_at "st"; rename_i s r
  walk_at "vv"
  refine wpAny_execs_cons ?_
  walk_at "vv"
  refine v_global a r (kof hsc (by kernel_rfl)) F.hCache ?_ (by kernel_rfl)
  obtain ⟨mc, hg1, hg2, hg3⟩ := F.ncget
  refine v_clsmeth a r hg1 hg2 hg3 rfl fun s r => ?_
  refine v_callK (os := os) a F.kcget rfl ?_
  walk_at "vv"
  refine ⟨⟨_, _, r⟩, ?_⟩
  refine v_told a r (X := fun _ _ => False) (Mine.call_getitem (n := 0) (tk := tk) F.hcget F.ok ro.rb hv) (by omega) (fun v' σ' s' ⟨q1, q2⟩ r => ?_) fun _ _ _ _ x _ => x.elim
  subst q1; subst q2
  walk_at "st"; rename_i s r
  refine wpAny_execs_cons ?_
  walk_at "vv"
  refine v_delI a r ro.rb.inst hd F.ok.seq F.ndel F.idel ?_
  refine v_told a r (X := fun _ _ => False) (call_del (n := 0) (tk := tk) F rfl ro (by rw [hv]; rfl) hins (.head _)) (by omega) (fun _ σ' s' ⟨_, mm', ro', kp⟩ r => ?_) fun _ _ _ _ x _ => x.elim
  walk_at "vv"
  refine wpAny_execs_cons ?_
  walk_at "v"
  refine v_tuple (base := base) (os := os) (fs := fs) ?_
  walk_at "vv"
  refine ⟨by simp, _, _, r, fun t s' ht r' => ?_⟩
  refine ⟨_, _, r', ⟨t, tk, rfl, ro'.none kp ht, Hp.set_self _ _ _⟩, mm', ro'.addNew ht, kp.trans (.setNew ht)⟩

structure Om where
  b : B
  ks : List Int
structure Om.Wf (I : Info) (o : Om) : Prop where
  nd : o.ks.Nodup
  mem : ∀ k, k ∈ o.ks ↔ o.b.has k = true
  sz : I.ds ≠ none → ∀ k, o.b.has k = true → (aget o.b.size k).isSome = true
def Om.pop (I : Info) (o : Om) : Option Om := match o.ks with
  | [] => none
  | k :: ks => some ⟨o.b.del I k, (k :: ks).filter (· ≠ k)⟩
def Om.put (I : Info) (o : Om) (k : Int) (v : Value) (c : Int) : Om := ⟨o.b.put I k v c, o.ks.filter (· ≠ k) ++ [k]⟩

theorem Om.Wf.pop {I : Info} {o o' : Om} (h : o.Wf I) (e : o.pop I = some o') : o'.Wf I := by
  unfold Om.pop at e
  split at e
  · cases e
  next k ks hk =>
    cases e
    refine ⟨by show ((k :: ks).filter (· ≠ k)).Nodup; rw [← hk]; exact h.nd.filter _, fun x => ?_, fun hd x hx => ?_⟩
    · show x ∈ (k :: ks).filter (· ≠ k) ↔ (o.b.del I k).has x = true
      rw [has_del, ← hk, List.mem_filter, h.mem]; simp
    · rw [has_del] at hx
      simp only [Bool.and_eq_true, decide_eq_true_eq] at hx
      rw [size_del hd _ trivial hx.2]
      exact h.sz hd x hx.1
theorem Om.Wf.put {I : Info} {o : Om} {k : Int} {v : Value} {c : Int} (h : o.Wf I) : (o.put I k v c).Wf I := by
  refine ⟨nodup_push h.nd, fun x => ?_, fun hd x hx => ?_⟩
  · rw [show (o.put I k v c).b.has x = (o.b.has x || decide (x = k)) from has_put ..]
    simp only [Om.put, List.mem_append, List.mem_filter, List.mem_singleton, h.mem, Bool.or_eq_true, decide_eq_true_eq]
    by_cases hx : x = k <;> simp [hx]
  · rw [show (o.put I k v c).b.has x = (o.b.has x || decide (x = k)) from has_put ..] at hx
    show (aget (o.b.put I k v c).size x).isSome = true
    unfold B.put
    rw [if_neg hd]
    simp only [Bool.or_eq_true, decide_eq_true_eq] at hx
    by_cases hxk : x = k
    · subst hxk; rw [aget_aput_self]; rfl
    · rw [aget_aput_ne _ _ hxk]; exact h.sz hd x (hx.resolve_right hxk)

def th (prog : Program) (w : World) {K : Frag} {I : Info} (F : KF K I.C) (od : Addr) : Th prog w K I Om where
  b := Om.b
  rep := fun σ mm o => RO I od oname σ mm o.b o.ks ∧ o.Wf I
  rb := fun h => h.1.rb
  keep := KeepFp (ordFp I od)
  krefl := .refl _
  ktrans := .trans
  pop := Om.pop I
  popless := fun {o o' k} e h => by
    unfold Om.pop at e
    split at e
    · cases e
    cases e
    have := has_del (I := I) (b := o.b) (k := ‹Int›) (x := k)
    unfold B.has at this
    rw [h] at this
    cases q : aget (o.b.del I ‹Int›).data k with
    | none => rfl
    | some _ => rw [q] at this; cases this
  fpop := F.pop
  lvl := 3
  find := F.npop
  fn := F.ipop
  kp := F.kpop
  hpop := fun {σ mm o o'} ⟨ro, wf⟩ e => by
    have wf' := wf.pop e
    unfold Om.pop at e
    split at e
    · cases e
    next k ks hk =>
      cases e
      rw [hk] at ro
      have hin : o.b.has k = true := (wf.mem k).mp (by rw [hk]; exact .head _)
      obtain ⟨v, hv⟩ := Option.isSome_iff_exists.mp hin
      exact (call_pop (n := 0) F rfl ro hv fun hd => wf.sz hd k hin).mono (fun r σ' ⟨_, mm', ro', kp⟩ => ⟨mm', ⟨ro', wf'⟩, kp⟩) fun _ _ x => x
end Lru
end Mine
namespace Mine
set_option pp.deepTerms false
set_option pp.deepTerms.threshold 8
local macro_rules | `(tactic| walk_at "lk") => `(tactic| first | assumption | rfl | (simp only [mset, ofs_inj, String.reduceEq, ↓reduceIte]; first | assumption | rfl) | (simp only [mset, ofs_inj, String.reduceEq, ↓reduceIte]; done))
local macro_rules | `(tactic| walk_at "nm") => `(tactic| (refine v_local (by assumption) (by assumption) (kof (by assumption) (by kernel_rfl)) (by walk_at "lk") ?_ (by kernel_rfl)))
local macro_rules | `(tactic| walk_at "st") => `(tactic| (refine v_store (by assumption) (by assumption) (kof (by assumption) (by kernel_rfl)) fun s r => ?_))
local macro_rules | `(tactic| walk_at "v") => `(tactic| first
  | with_reducible refine wpAny_Return_some ?_
  | with_reducible refine wpAny_Return_none ?_
  | ((with_reducible refine wpAny_Compare1 (hm := ?hm) ?_); (case hm => with_unfolding_all rfl))
  | ((with_reducible refine wpAny_isTrue_Compare1 (hm := ?hm) ?_); (case hm => with_unfolding_all rfl))
  | ((with_reducible refine wpAny_Assign_Name (hs := ?hs) ?_); (case hs => rfl))
  | ((with_reducible refine wpAny_Assign_Subscript (hs := ?hs) ?_); (case hs => rfl))
  | ((with_reducible refine plainObj_wpAny_Assign_Attribute (hs := ?hs) ?_); (case hs => rfl))
  | ((with_reducible refine wpAny_Assign_two (he := ?he) (hw := ?hw) ?_); (case he => rfl); (case hw => rfl))
  | with_reducible refine assign_Attr ?_
  | with_reducible refine assign_Subs ?_
  | with_reducible refine wpAny_assign_Name ?_
  | with_reducible refine Attribute_name ?_
  | with_reducible refine Attribute_any_ ?_
  | with_reducible refine Subscript_ ?_
  | with_reducible refine wpAny_If ?_
  | with_reducible refine wpAny_BinOp ?_
  | with_reducible refine wpAny_UnaryOp ?_
  | with_reducible refine wpAny_Delete ?_
  | with_reducible refine wpAny_deleteEach_cons ?_
  | with_reducible refine wpAny_deleteEach_nil ?_
  | with_reducible refine wpAny_delete_Subscript ?_
  | with_reducible refine wpAny_AugAssign_AttributeAny ?_
  | with_reducible refine wpAny_execs_nil ?_
  | with_reducible refine wpAny_Constant_none ?_
  | with_reducible refine spliced_none ?_
  | with_reducible refine ea_none ?_
  | ((with_reducible refine ea_plain ?_ ?he); (case he => rfl))
  | ((with_reducible refine' methodCall_KW (pl := ?pl) (he := ?he) ?_); (case he => rfl))
  | walk_at "nm"
  | ((with_reducible refine spliced_more ?_ (he := ?he)); (case he => rfl)))
local macro_rules | `(tactic| walk_at "vv") => `(tactic| repeat walk_at "v")
namespace Lru
variable {prog : Program} {w : World} {K : Frag} {n : Nat} {σ : Hp}

def toEnd (ks : List Int) (k : Int) : List Int := ks.filter (· ≠ k) ++ [k]

theorem call_touch {I : Info} (F : KF K I.C) {od : Addr} {mm : Nm} {b : B} {ks : List Int} {k : Int} {tk : Tok} {X : String → Hp → Prop} (ro : RO I od oname σ mm b ks) (hl : ks.length < 100) :
    CallT prog w K none (n + 1) (.ref F.tch) ⟨[.ref I.x, .int k tk], []⟩ σ (fun r σ' => r = .none ∧ RO I od oname σ' mm b (toEnd ks k) ∧ KeepFp (ordFp I od) σ σ') X := by
  refine CallT.of (binds := [("self", .ref I.x), ("key", .int k tk)]) F.htch (fun _ _ _ _ _ _ _ _ _ _ => BindsTo.of_eq rfl) (by kernel_rfl) (by kernel_rfl) (by kernel_rfl) ?_
  intro A base os env fs s hsc hcl a r
  have h1 : (fun y => [(("self" : Str), Value.ref I.x), ("key", .int k tk)].reverse.lookup y) "self" = some (.ref I.x) := by kernel_rfl
  have h2 : (fun y => [(("self" : Str), Value.ref I.x), ("key", .int k tk)].reverse.lookup y) "key" = some (.int k tk) := by kernel_rfl
  obtain ⟨j, hj, hd⟩ := ro.rb.ns
  have hfl := List.length_filter_le (fun x => decide (x ≠ k)) ks
  refine wpAny_execs_cons ?_
  refine v_try ?_
  refine wpAny_execs_cons ?_
  walk_at "vv"
  refine v_own a r ro.rb.inst hd ro.horder rfl F.ok.get F.ok.dict F.ford (by kernel_rfl) fun s r => ?_
  refine v_dmeth r ro.order PySem.F.slot_dict_pop (by with_unfolding_all rfl) ?_
  refine v_callB rfl ?_
  walk_at "vv"
  by_cases hin : k ∈ ks
  · refine v_dpop r ro.order (by rw [List.length_map]; omega) (by rw [valueAt_eq, keys_get, if_pos hin]) fun s r => ?_
    rw [without_eq, keys_del] at r
    obtain ⟨ro2, kp2⟩ := ro.turn (ks' := ks.filter (· ≠ k)) (by omega)
    obtain ⟨j2, hj2, hd2⟩ := ro2.rb.ns
    walk_at "vv"
    refine v_own a r ro2.rb.inst hd2 ro2.horder rfl F.ok.get F.ok.dict F.ford (by kernel_rfl) fun s r => ?_
    walk_at "vv"
    refine v_dset r ro2.order (by rw [List.length_map]; omega) fun s r => ?_
    rw [stored_eq, keys_put_new (by simp)] at r
    obtain ⟨ro3, kp3⟩ := ro2.turn (ks' := toEnd ks k) (by unfold toEnd; rw [List.length_append]; simp only [List.length_singleton]; omega)
    walk_at "vv"
    exact ⟨_, _, r, rfl, ro3, kp2.trans kp3⟩
  · refine v_dpop_missing a r ro.order (by rw [valueAt_eq, keys_get, if_neg hin]) fun e s u => ?_
    refine tr_of_up a u fun s r f => ?_
    refine v_clause (b := true) a r f (kof hsc (by kernel_rfl)) F.hKey (T := "KeyError") (by kernel_rfl) (by decide +kernel) (by kernel_rfl) (by rfl) (by rfl) (by rfl) (fun _ => lv_passes) fun s r f => ?_
    rw [if_pos rfl]
    have a := a.mark (e := e)
    refine wpAny_execs_cons ?_
    walk_at "vv"
    refine v_own a r ro.rb.inst hd ro.horder rfl F.ok.get F.ok.dict F.ford (by kernel_rfl) fun s r => ?_
    walk_at "vv"
    refine v_dset r ro.order (by rw [List.length_map]; omega) fun s r => ?_
    rw [stored_eq, keys_put_new hin, show ks ++ [k] = toEnd ks k from by unfold toEnd; rw [List.filter_eq_self.mpr fun a ha => by simp; rintro rfl; exact hin ha]] at r
    obtain ⟨ro3, kp3⟩ := ro.turn (ks' := toEnd ks k) (by unfold toEnd; rw [List.length_append]; simp only [List.length_singleton]; omega)
    walk_at "vv"
    exact ⟨_, _, r, rfl, ro3, kp3⟩

theorem call_set {I : Info} (F : KF K I.C) {od : Addr} {mm : Nm} {o : Om} {k : Int} {tk : Tok} {v : Value} {c : Int} {fu N : Nat} {X : String → Hp → Prop}
    (hb : CallT prog w K none N (.ref F.cset) ⟨[.ref I.x, .int k tk, v], []⟩ σ (fun r σ' => r = .none ∧ SetOut (th prog w F od) o k v c fu σ σ') X) (hN : 1 ≤ N)
    (hlen : ∀ o', evict (th prog w F od).b (th prog w F od).pop I.most (fun b => b.need I k c) fu o = some o' → o'.ks.length < 100) :
    CallT prog w K none (N + 1) (.ref F.set) ⟨[.ref I.x, .int k tk, v], []⟩ σ (fun r σ' => r = .none ∧ SetTo (th prog w F od) (fun o => o.put I k v c) (fun b => b.need I k c) fu o σ σ') X := by
  refine CallT.of (binds := [("self", .ref I.x), ("key", .int k tk), ("value", v), ("cache_setitem", .ref F.cset)]) F.hset (fun _ _ _ _ _ _ _ _ s X => BindsTo.ofT F.htset X rfl rfl rfl) (by kernel_rfl) (by kernel_rfl) (by kernel_rfl) ?_
  intro A base os env fs s hsc hcl a r
  have h1 : (fun y => [(("self" : Str), Value.ref I.x), ("key", .int k tk), ("value", v), ("cache_setitem", .ref F.cset)].reverse.lookup y) "self" = some (.ref I.x) := by kernel_rfl
  have h2 : (fun y => [(("self" : Str), Value.ref I.x), ("key", .int k tk), ("value", v), ("cache_setitem", .ref F.cset)].reverse.lookup y) "key" = some (.int k tk) := by kernel_rfl
  have h3 : (fun y => [(("self" : Str), Value.ref I.x), ("key", .int k tk), ("value", v), ("cache_setitem", .ref F.cset)].reverse.lookup y) "value" = some v := by kernel_rfl
  have h4 : (fun y => [(("self" : Str), Value.ref I.x), ("key", .int k tk), ("value", v), ("cache_setitem", .ref F.cset)].reverse.lookup y) "cache_setitem" = some (.ref F.cset) := by kernel_rfl
  refine wpAny_execs_cons ?_
  refine wpAny_Expr_any ?_ (by unfold interactive; rw [a.head.2.1]; rfl) (by rfl)
  refine wpAny_Call_ofName ?_
  walk_at "nm"
  refine v_callK (os := os) a F.kcset rfl ?_
  walk_at "vv"
  refine ⟨⟨_, _, r⟩, ?_⟩
  refine v_told a r hb (by omega) (fun _ σ' s' ⟨_, σ₁, mm₁, o₁, ⟨ro₁, wf₁⟩, kp₁, hev, hout⟩ r => ?_) fun _ _ _ _ x u => lv_of_up a u x
  obtain ⟨mm', ro', kp'⟩ := ro₁.base (by decide +kernel) hout
  obtain ⟨j, hj, hd⟩ := ro'.rb.ns
  have hl := hlen _ hev
  refine wpAny_execs_cons ?_
  refine wpAny_Expr_any ?_ (by unfold interactive; rw [a.head.2.1]; rfl) (by rfl)
  walk_at "vv"
  refine v_meth a r ro'.rb.inst hd (ro'.rb.free _ (by decide +kernel)) F.ok.get F.ntch F.itch ?_
  refine v_callK (os := os) a F.ktch rfl ?_
  walk_at "vv"
  refine ⟨⟨_, _, r⟩, ?_⟩
  refine v_told a r (X := fun _ _ => False) (call_touch (n := 0) (tk := tk) F ro' hl) (by omega) (fun _ σ'' s' ⟨_, ro2, kp2⟩ r => ?_) fun _ _ _ _ x _ => x.elim
  walk_at "vv"
  exact ⟨_, _, r, rfl, mm', o₁, hev, ⟨ro2, wf₁.put⟩, (kp₁.trans kp').trans kp2⟩

theorem call_get {I : Info} (F : KF K I.C) {od : Addr} {mm : Nm} {b : B} {ks : List Int} {k : Int} {tk : Tok} {v : Value} {X : String → Hp → Prop} (ro : RO I od oname σ mm b ks) (hl : ks.length < 100)
    (hv : aget b.data k = some v) (hin : k ∈ ks) :
    CallT prog w K none (n + 2) (.ref F.get) ⟨[.ref I.x, .int k tk], []⟩ σ (fun r σ' => r = v ∧ RO I od oname σ' mm b (toEnd ks k) ∧ KeepFp (ordFp I od) σ σ') X := by
  refine CallT.of (binds := [("self", .ref I.x), ("key", .int k tk), ("cache_getitem", .ref F.cget)]) F.hget (fun _ _ _ _ _ _ _ _ s X => BindsTo.ofT F.htget X rfl rfl rfl) (by kernel_rfl) (by kernel_rfl) (by kernel_rfl) ?_
  intro A base os env fs s hsc hcl a r
  have h1 : (fun y => [(("self" : Str), Value.ref I.x), ("key", .int k tk), ("cache_getitem", .ref F.cget)].reverse.lookup y) "self" = some (.ref I.x) := by kernel_rfl
  have h2 : (fun y => [(("self" : Str), Value.ref I.x), ("key", .int k tk), ("cache_getitem", .ref F.cget)].reverse.lookup y) "key" = some (.int k tk) := by kernel_rfl
  have h3 : (fun y => [(("self" : Str), Value.ref I.x), ("key", .int k tk), ("cache_getitem", .ref F.cget)].reverse.lookup y) "cache_getitem" = some (.ref F.cget) := by kernel_rfl
  obtain ⟨j, hj, hd⟩ := ro.rb.ns
  have hfl := List.length_filter_le (fun x => decide (x ≠ k)) ks
  refine wpAny_execs_cons ?_
  walk_at "v"
  refine wpAny_Call_ofName ?_
  walk_at "nm"
  refine v_callK (os := os) a F.kcget rfl ?_
  walk_at "vv"
  refine ⟨⟨_, _, r⟩, ?_⟩
  refine v_told a r (X := fun _ _ => False) (Mine.call_getitem (n := 0) (tk := tk) F.hcget F.ok ro.rb hv) (by omega) (fun v' σ' s' ⟨q1, q2⟩ r => ?_) fun _ _ _ _ x _ => x.elim
  subst q1; subst q2
  walk_at "st"; rename_i s r
  refine wpAny_execs_cons ?_
  refine v_try ?_
  refine wpAny_execs_cons ?_
  walk_at "vv"
  refine v_own a r ro.rb.inst hd ro.horder rfl F.ok.get F.ok.dict F.ford (by kernel_rfl) fun s r => ?_
  refine v_dmeth r ro.order PySem.F.slot_dict_pop (by with_unfolding_all rfl) ?_
  refine v_callB rfl ?_
  walk_at "vv"
  refine v_dpop r ro.order (by rw [List.length_map]; omega) (by rw [valueAt_eq, keys_get, if_pos hin]) fun s r => ?_
  rw [without_eq, keys_del] at r
  obtain ⟨ro2, kp2⟩ := ro.turn (ks' := ks.filter (· ≠ k)) (by omega)
  obtain ⟨j2, hj2, hd2⟩ := ro2.rb.ns
  walk_at "vv"
  refine v_own a r ro2.rb.inst hd2 ro2.horder rfl F.ok.get F.ok.dict F.ford (by kernel_rfl) fun s r => ?_
  walk_at "vv"
  refine v_dset r ro2.order (by rw [List.length_map]; omega) fun s r => ?_
  rw [stored_eq, keys_put_new (by simp)] at r
  obtain ⟨ro3, kp3⟩ := ro2.turn (ks' := toEnd ks k) (by unfold toEnd; rw [List.length_append]; simp only [List.length_singleton]; omega)
  walk_at "vv"
  refine wpAny_execs_cons ?_
  walk_at "vv"
  exact ⟨_, _, r, rfl, ro3, kp2.trans kp3⟩
end Lru
end Mine
namespace Mine
set_option pp.deepTerms false
set_option pp.deepTerms.threshold 8
local macro_rules | `(tactic| walk_at "lk") => `(tactic| first | assumption | rfl | (simp only [mset, ofs_inj, String.reduceEq, ↓reduceIte]; first | assumption | rfl) | (simp only [mset, ofs_inj, String.reduceEq, ↓reduceIte]; done))
local macro_rules | `(tactic| walk_at "nm") => `(tactic| (refine v_local (by assumption) (by assumption) (kof (by assumption) (by kernel_rfl)) (by walk_at "lk") ?_ (by kernel_rfl)))
local macro_rules | `(tactic| walk_at "st") => `(tactic| (refine v_store (by assumption) (by assumption) (kof (by assumption) (by kernel_rfl)) fun s r => ?_))
local macro_rules | `(tactic| walk_at "v") => `(tactic| first
  | with_reducible refine wpAny_Return_some ?_
  | with_reducible refine wpAny_Return_none ?_
  | ((with_reducible refine wpAny_Compare1 (hm := ?hm) ?_); (case hm => with_unfolding_all rfl))
  | ((with_reducible refine wpAny_isTrue_Compare1 (hm := ?hm) ?_); (case hm => with_unfolding_all rfl))
  | ((with_reducible refine wpAny_Assign_Name (hs := ?hs) ?_); (case hs => rfl))
  | ((with_reducible refine wpAny_Assign_Subscript (hs := ?hs) ?_); (case hs => rfl))
  | ((with_reducible refine plainObj_wpAny_Assign_Attribute (hs := ?hs) ?_); (case hs => rfl))
  | ((with_reducible refine wpAny_Assign_two (he := ?he) (hw := ?hw) ?_); (case he => rfl); (case hw => rfl))
  | with_reducible refine assign_Attr ?_
  | with_reducible refine assign_Subs ?_
  | with_reducible refine wpAny_assign_Name ?_
  | with_reducible refine Attribute_name ?_
  | with_reducible refine Attribute_any_ ?_
  | with_reducible refine Subscript_ ?_
  | with_reducible refine wpAny_If ?_
  | with_reducible refine wpAny_BinOp ?_
  | with_reducible refine wpAny_UnaryOp ?_
  | with_reducible refine wpAny_Delete ?_
  | with_reducible refine wpAny_deleteEach_cons ?_
  | with_reducible refine wpAny_deleteEach_nil ?_
  | with_reducible refine wpAny_delete_Subscript ?_
  | with_reducible refine wpAny_AugAssign_AttributeAny ?_
  | with_reducible refine wpAny_execs_nil ?_
  | with_reducible refine wpAny_Constant_none ?_
  | with_reducible refine spliced_none ?_
  | with_reducible refine ea_none ?_
  | ((with_reducible refine ea_plain ?_ ?he); (case he => rfl))
  | ((with_reducible refine' methodCall_KW (pl := ?pl) (he := ?he) ?_); (case he => rfl))
  | walk_at "nm"
  | ((with_reducible refine spliced_more ?_ (he := ?he)); (case he => rfl)))
local macro_rules | `(tactic| walk_at "vv") => `(tactic| repeat walk_at "v")
namespace Lru
variable {prog : Program} {w : World} {K : Frag} {H : Option Value} {n : Nat} {σ : Hp}
theorem clsNames_ord : ∀ nm ∈ clsNames, nm ≠ oname := by decide +kernel
theorem mset_ne {m : Nm} {x y : Str} {v : Value} (h : y ≠ x) : mset m x v y = m y := if_neg h
theorem mset_eq {m : Nm} {x : Str} {v : Value} : mset m x v x = some v := if_pos rfl
theorem on1 : ("_Cache__data" : Str) ≠ oname := by decide +kernel
theorem on2 : ("_Cache__size" : Str) ≠ oname := by decide +kernel
theorem on3 : ("getsizeof" : Str) ≠ oname := by decide +kernel
theorem on4 : ("_Cache__currsize" : Str) ≠ oname := by decide +kernel
theorem on5 : ("_Cache__maxsize" : Str) ≠ oname := by decide +kernel
theorem body_init {C x d : Addr} (F : KI K C) (ok : ClsOK K C) {most : Int} {tk : Tok} {gv : Value} {m : Nm} {N : Nat} {P : Info → Prop} {X : String → Hp → Prop} (hN : N ≤ n)
    (hb : CallT prog w K H N (.ref F.cinit) ⟨[.ref x, .int most tk, gv], []⟩ σ (fun v σ' => v = .none ∧ ∃ I mm', P I ∧ I.x = x ∧ I.C = C ∧ I.d = d ∧ Made σ σ' I mm') X)
    (hs : m "self" = some (.ref x)) (hm : m "maxsize" = some (.int most tk)) (hg : m "getsizeof" = some gv) :
    BodyT prog w K H n (fnScope s_oinit) [] (fnBody s_oinit) m σ (fun v σ' => v = .none ∧ ∃ I od mm', P I ∧ I.x = x ∧ I.C = C ∧ I.d = d ∧ RO I od oname σ' mm' ⟨[], [], 0⟩ [] ∧
      (∀ a ∈ ordFp I od, a ≠ d → σ a = none) ∧ ∀ a, a ∉ ordFp I od → σ' a = σ a) X := by
  intro A base os env fs s hsc hcl a r
  refine wpAny_execs_cons ?_
  refine wpAny_Expr_any ?_ (by unfold interactive; rw [a.head.2.1]; rfl) (by rfl)
  walk_at "vv"
  refine v_global a r (kof hsc (by kernel_rfl)) F.gs.hCache ?_ (by kernel_rfl)
  obtain ⟨mc, hg2, hg3⟩ := F.ncinit
  refine v_clsmeth a r F.spC hg2 hg3 rfl fun s r => ?_
  refine v_callK (os := os) a F.kcinit rfl ?_
  walk_at "vv"
  refine ⟨⟨_, _, r⟩, ?_⟩
  refine v_told a r hb hN (fun _ σ' s' ⟨_, I, mm', hP, e1, e2, e3, md⟩ r => ?_) fun _ _ _ _ x u => lv_of_up a u x
  subst e1; subst e2; subst e3
  obtain ⟨j, hj, hd⟩ := md.cnt
  refine wpAny_execs_cons ?_
  walk_at "vv"
  refine v_dict0 r fun od s hod r => ?_
  walk_at "vv"
  have inst := md.rb.inst
  have nod : od ∉ I.x :: baseFp I := fun h => md.rb.dom h hod
  obtain ⟨nx, nfp⟩ : od ≠ I.x ∧ od ∉ baseFp I := by simpa using nod
  have nd : od ≠ I.d := fun e => nfp (by rw [e]; exact .head _)
  have hxd : I.x ≠ I.d := md.rb.d_ne.2.2
  refine v_setown a r (by rw [Hp.set_ne _ _ nx.symm]; exact inst) (by rw [Hp.set_ne _ _ nd.symm]; exact hd) (by omega) ok.seta ok.over F.tord ok.dict fun s r => ?_
  walk_at "vv"
  have hσ : σ od = none := by rw [← md.same _ nfp]; exact hod
  obtain ⟨rb1, rb2, rb3, rb4, rb5, rb6, rb7, rb8, rb9, rb10, rb11⟩ := md.rb
  have dne := md.rb.d_ne
  refine ⟨_, _, r, rfl, I, od, _, hP, rfl, rfl, rfl, ⟨⟨?_, ⟨_, by omega, Hp.set_self _ _ _⟩, ?_, ?_, ?_, ?_, ?_, ?_, ?_, ?_, rb11⟩, ?_, ?_, nfp, by decide⟩, ?_, ?_⟩
  · rw [Hp.set_ne _ _ hxd, Hp.set_ne _ _ nx.symm]; exact inst
  · exact (mset_ne on1).trans rb3
  · rw [Hp.set_ne _ _ dne.1.symm, Hp.set_ne _ _ (fun e => nfp (by rw [← e]; simp [baseFp]))]; exact rb4
  · exact (mset_ne on2).trans rb5
  · exact (mset_ne on3).trans rb6
  · intro p hp
    obtain ⟨kvs, q1, q2, q3⟩ := rb7 p hp
    refine ⟨kvs, ?_, q2, q3⟩
    rw [Hp.set_ne _ _ (fun e => by rw [e, hd] at q1; cases q1), Hp.set_ne _ _ (fun e => nfp (by rw [← e]; simp [baseFp, hp]))]; exact q1
  · exact rb8.imp fun _ h => (mset_ne on4).trans h
  · exact rb9.imp fun _ h => (mset_ne on5).trans h
  · intro y hy
    have := rb10 y hy
    have hne : y ≠ (oname : Str) := clsNames_ord y hy
    exact (mset_ne hne).trans this
  · exact mset_eq
  · rw [Hp.set_ne _ _ nd, Hp.set_self]; rfl
  · intro b hb hne
    rcases List.mem_cons.mp hb with rfl | hb
    · exact hσ
    · exact md.new b hb hne
  · intro b hb
    have h1 : b ≠ od := fun e => hb (by rw [e]; exact .head _)
    have h2 : b ∉ baseFp I := fun e => hb (.tail _ e)
    rw [Hp.set_ne _ _ (fun e => h2 (by rw [e]; exact .head _)), Hp.set_ne _ _ h1]
    exact md.same _ h2

theorem make_plain {C : Addr} (F : KI K C) (ok : ClsOK K C) {most : Int} {tk : Tok} {X : String → Hp → Prop} (h0 : 0 ≤ most) :
    CallT prog w K H (n + 4) (.ref C) ⟨[.int most tk], []⟩ σ (fun v σ' => ∃ I od mm', v = .ref I.x ∧ I.C = C ∧ I.ds = none ∧ I.most = most ∧ RO I od oname σ' mm' ⟨[], [], 0⟩ [] ∧
      (∀ a ∈ I.x :: ordFp I od, σ a = none) ∧ ∀ a, a ∉ I.x :: ordFp I od → σ' a = σ a) X := by
  refine (CallT.make (Q := fun v σ' => ∃ I od mm', v = .ref I.x ∧ I.C = C ∧ I.ds = none ∧ I.most = most ∧ RO I od oname σ' mm' ⟨[], [], 0⟩ [] ∧
      (∀ a ∈ I.x :: ordFp I od, σ a = none) ∧ ∀ a, a ∉ I.x :: ordFp I od → σ' a = σ a) F.makes F.ninit F.iinit fun x dx hx hdx hne => ?_)
  refine (CallT.of (binds := [("self", .ref x), ("maxsize", .int most tk), ("getsizeof", .none)]) F.hinit (fun _ _ _ _ _ _ _ _ s X => BindsTo.ofT F.htinit X rfl rfl rfl) (by kernel_rfl) (by kernel_rfl) (by kernel_rfl)
    (body_init (n := n + 2) (x := x) (d := dx) (most := most) (tk := tk) (gv := .none) (N := n + 1) (P := fun I => I.ds = none ∧ I.most = most) F ok (by omega) ?_ (by kernel_rfl) (by kernel_rfl) (by kernel_rfl))).mono ?_ fun _ _ x => x
  · refine (CallT.of (n := n) (binds := [("self", .ref x), ("maxsize", .int most tk), ("getsizeof", .none)]) F.hcinit (fun _ _ _ _ _ _ _ _ s X => BindsTo.ofT F.htcinit X rfl rfl rfl) (by kernel_rfl) (by kernel_rfl) (by kernel_rfl)
      (body_init_plain (C := C) (x := x) (d := dx) (tk := tk) ok F.gs h0 (Hp.set_self _ _ _) (by rw [Hp.set_ne _ _ hne.symm]; exact Hp.set_self _ _ _) (by kernel_rfl) (by kernel_rfl) (by kernel_rfl))).mono ?_ fun _ _ x => x
    rintro v σ' ⟨e, dd, mm', md⟩
    exact ⟨e, _, mm', ⟨rfl, rfl⟩, rfl, rfl, rfl, md⟩
  · rintro v σ' ⟨e, I, od, mm', ⟨e1, e2⟩, rfl, rfl, rfl, ro, k1, k2⟩
    refine ⟨e, I, od, mm', rfl, rfl, e1, e2, ro, fun b hb => ?_, fun b hb => ?_⟩
    · rcases List.mem_cons.mp hb with rfl | hb
      · exact hx
      · by_cases hbd : b = I.d
        · subst hbd; exact hdx
        · have := k1 b hb hbd
          by_cases hbx : b = I.x
          · subst hbx; exact hx
          · rw [Hp.set_ne _ _ hbx, Hp.set_ne _ _ hbd] at this; exact this
    · have h1 : b ≠ I.x := fun e => hb (by rw [e]; exact .head _)
      have h2 : b ∉ ordFp I od := fun e => hb (.tail _ e)
      have h3 : b ≠ I.d := fun e => h2 (by rw [e]; simp [ordFp, baseFp])
      rw [k2 b h2, Hp.set_ne _ _ h1, Hp.set_ne _ _ h3]
end Lru
end Mine
namespace Mine
set_option pp.deepTerms false
set_option pp.deepTerms.threshold 8
local macro_rules | `(tactic| walk_at "lk") => `(tactic| first | assumption | rfl | (simp only [mset, ofs_inj, String.reduceEq, ↓reduceIte]; first | assumption | rfl) | (simp only [mset, ofs_inj, String.reduceEq, ↓reduceIte]; done))
local macro_rules | `(tactic| walk_at "nm") => `(tactic| (refine v_local (by assumption) (by assumption) (kof (by assumption) (by kernel_rfl)) (by walk_at "lk") ?_ (by kernel_rfl)))
local macro_rules | `(tactic| walk_at "st") => `(tactic| (refine v_store (by assumption) (by assumption) (kof (by assumption) (by kernel_rfl)) fun s r => ?_))
local macro_rules | `(tactic| walk_at "v") => `(tactic| first
  | with_reducible refine wpAny_Return_some ?_
  | with_reducible refine wpAny_Return_none ?_
  | ((with_reducible refine wpAny_Compare1 (hm := ?hm) ?_); (case hm => with_unfolding_all rfl))
  | ((with_reducible refine wpAny_isTrue_Compare1 (hm := ?hm) ?_); (case hm => with_unfolding_all rfl))
  | ((with_reducible refine wpAny_Assign_Name (hs := ?hs) ?_); (case hs => rfl))
  | ((with_reducible refine wpAny_Assign_Subscript (hs := ?hs) ?_); (case hs => rfl))
  | ((with_reducible refine plainObj_wpAny_Assign_Attribute (hs := ?hs) ?_); (case hs => rfl))
  | ((with_reducible refine wpAny_Assign_two (he := ?he) (hw := ?hw) ?_); (case he => rfl); (case hw => rfl))
  | with_reducible refine assign_Attr ?_
  | with_reducible refine assign_Subs ?_
  | with_reducible refine wpAny_assign_Name ?_
  | with_reducible refine Attribute_name ?_
  | with_reducible refine Attribute_any_ ?_
  | with_reducible refine Subscript_ ?_
  | with_reducible refine wpAny_If ?_
  | with_reducible refine wpAny_BinOp ?_
  | with_reducible refine wpAny_UnaryOp ?_
  | with_reducible refine wpAny_Delete ?_
  | with_reducible refine wpAny_deleteEach_cons ?_
  | with_reducible refine wpAny_deleteEach_nil ?_
  | with_reducible refine wpAny_delete_Subscript ?_
  | with_reducible refine wpAny_AugAssign_AttributeAny ?_
  | with_reducible refine wpAny_execs_nil ?_
  | with_reducible refine wpAny_Constant_none ?_
  | with_reducible refine spliced_none ?_
  | with_reducible refine ea_none ?_
  | ((with_reducible refine ea_plain ?_ ?he); (case he => rfl))
  | ((with_reducible refine' methodCall_KW (pl := ?pl) (he := ?he) ?_); (case he => rfl))
  | walk_at "nm"
  | ((with_reducible refine spliced_more ?_ (he := ?he)); (case he => rfl)))
local macro_rules | `(tactic| walk_at "vv") => `(tactic| repeat walk_at "v")
namespace L2
variable {prog : Program} {w : World} {K : Frag} {n : Nat} {σ : Hp} {I : Info} {now : Addr} {fixd : List Addr} {O : Addr → Prop}
theorem not_fp {fp : List Addr} {a : Addr} (g : ∀ a, O a → a ∉ fp) (dom : ∀ t ∈ fp, σ t ≠ none) (h : O a ∨ σ a = none) : a ∉ fp := fun q => by
  rcases h with h | h
  · exact g a h q
  · exact dom a q h
theorem keys_short {ks : List Int} {d : List (Int × Value)} (hn : ks.Nodup) (h : ∀ k, k ∈ ks → (aget d k).isSome = true) : ks.length ≤ d.length := by
  have := P2.sub_len ks (d.map (·.1)) hn fun k hk => by
    have q := h k hk
    unfold aget at q
    rw [Option.isSome_map, List.find?_isSome] at q
    obtain ⟨e, he, hk⟩ := q
    simp only [decide_eq_true_eq] at hk
    exact List.mem_map.mpr ⟨e, he, hk⟩
  rwa [List.length_map] at this
theorem aget_head {α : Type} {k : Int} {v : α} {l : List (Int × α)} : (aget ((k, v) :: l) k).isSome = true := by
  unfold aget; simp

structure Cmn (K : Frag) (I : Info) where
  F : KA K I.C
  ok : ClsOK K I.C
  hV : nsIn K mainGlobals "ValueError" = some none

def clCache (G : Cmn K I) (F : CacheC.KF K I.C) (hset : FnIs K G.F.set s_setitem .none) (hget : FnIs K G.F.get s_getitem .none) : Cl prog w K I B now fixd O where
  b := id
  T := fun _ => CacheC.th prog w F
  hb := fun _ => rfl
  good := O now ∧ ∀ a, O a → a ∉ I.x :: baseFp I
  len := 1000
  pre := (CacheC.th prog w F).rep
  weak := fun rp => rp
  prb := fun rp => rp.1
  F := G.F
  ok := G.ok
  hV := G.hV
  put := fun ω k v => ω.put I k v 1
  get := fun ω _ => ω
  bput := fun _ _ _ => rfl
  bget := fun _ _ => rfl
  small := fun _ => True
  hsmall := fun _ _ => ⟨trivial, fun _ _ => trivial⟩
  cset := G.F.set
  hcset := hset
  N := 8
  lv := fun _ => by show 3 + 2 ≤ 8; decide
  hset := fun {σ mm ω k tk v p fu X} rp hb _ => by
    refine (hb.lower (n := 8) (by decide)).mono (fun r σ' ⟨q1, σ₁, mm₁, ω₁, ⟨q2, q3⟩, q4, q5, mm', q6, q7, q8⟩ => ?_) fun _ _ x => x
    exact ⟨q1, mm', ω₁, q5, ⟨q6, q3.put⟩, q4.trans (.ofChg q8 fun a ha => ha)⟩
  hget := fun {σ mm ω k tk v p} rp hv _ => (call_getitem (n := 0) (tk := tk) hget G.ok rp.1 hv).lower (n := 8) (by decide) |>.mono (fun r σ' ⟨q1, q2⟩ => by
    subst q1; subst q2
    exact ⟨rfl, ⟨_, rp⟩, .refl _ _⟩) fun _ _ x => x
  keepO := fun g k => ⟨fun a x ha e => k a x (fun q => g.2 a ha (.tail _ q)) e⟩
  frame := fun g rp h _ _ => by
    have hn := not_fp g.2 (fun t ht => rp.1.dom ht) h
    exact ⟨rp.1.frame fun b hb => Hp.set_ne _ _ fun e => hn (e ▸ hb), rp.2⟩
  framePre := fun g rp h _ _ => by
    have hn := not_fp g.2 (fun t ht => rp.1.dom ht) h
    exact ⟨rp.1.frame fun b hb => Hp.set_ne _ _ fun e => hn (e ▸ hb), rp.2⟩
  tick := fun g rp _ => by
    have hn := g.2 _ g.1
    exact ⟨rp.1.frame fun b hb => Hp.set_ne _ _ fun e => hn (e ▸ hb), rp.2⟩
  full := fun _ ω y _ => ∃ v r, ω.data = (y, v) :: r
  hpop := fun {p σ mm ω} rp hne => by
    obtain ⟨d, sz, cu⟩ := ω
    cases d with
    | nil => exact absurd rfl hne
    | cons e r =>
      obtain ⟨k, v⟩ := e
      exact ⟨k, _, rfl, aget_head, rfl, v, r, rfl⟩

def clFifo (G : Cmn K I) (F : Fifo.KF K I.C) (od : Addr) (e1 : G.F.set = F.set) (hget : FnIs K G.F.get s_getitem .none) : Cl prog w K I Fifo.Om now fixd O where
  b := Fifo.Om.b
  T := fun _ => Fifo.th prog w F od
  hb := fun _ => rfl
  good := O now ∧ ∀ a, O a → a ∉ I.x :: ordFp I od
  len := 1000
  pre := (Fifo.th prog w F od).rep
  weak := fun rp => rp
  prb := fun rp => rp.1.rb
  F := G.F
  ok := G.ok
  hV := G.hV
  put := fun ω k v => ω.put I k v 1
  get := fun ω _ => ω
  bput := fun _ _ _ => rfl
  bget := fun _ _ => rfl
  small := fun ω => ω.ks.length < 100
  hsmall := fun {p σ mm ω} rp h => by
    have h1 := keys_short rp.2.nd fun k hk => (rp.2.mem k).mp hk
    refine ⟨by omega, fun ω₂ e => ?_⟩
    have e : Fifo.Om.pop I ω = some ω₂ := e
    unfold Fifo.Om.pop at e
    split at e
    · cases e
    next k ks hk =>
      cases e
      have := List.length_filter_le (fun x => decide (x ≠ k)) (k :: ks)
      rw [← hk] at this
      show ((k :: ks).filter (· ≠ k)).length < 100
      rw [← hk]; omega
  cset := F.cset
  hcset := F.hcset
  N := 8
  lv := fun _ => by show 3 + 2 ≤ 8; decide
  hset := fun {σ mm ω k tk v p fu X} rp hb hs => by
    rw [e1]
    exact Fifo.call_set (mm := mm) F hb hs
  hget := fun {σ mm ω k tk v p} rp hv _ => (call_getitem (n := 0) (tk := tk) hget G.ok rp.1.rb hv).lower (n := 8) (by decide) |>.mono (fun r σ' ⟨q1, q2⟩ => by
    subst q1; subst q2
    exact ⟨rfl, ⟨_, rp⟩, .refl _ _⟩) fun _ _ x => x
  keepO := fun g k => ⟨fun a x ha e => k a x (fun q => g.2 a ha (.tail _ q)) e⟩
  frame := fun g rp h _ _ => by
    have hn := not_fp g.2 (fun t ht => rp.1.dom ht) h
    exact ⟨rp.1.frame fun b hb => Hp.set_ne _ _ fun e => hn (e ▸ hb), rp.2⟩
  framePre := fun g rp h _ _ => by
    have hn := not_fp g.2 (fun t ht => rp.1.dom ht) h
    exact ⟨rp.1.frame fun b hb => Hp.set_ne _ _ fun e => hn (e ▸ hb), rp.2⟩
  tick := fun g rp _ => by
    have hn := g.2 _ g.1
    exact ⟨rp.1.frame fun b hb => Hp.set_ne _ _ fun e => hn (e ▸ hb), rp.2⟩
  full := fun _ ω y ω₂ => ∃ r, ω.ks = y :: r ∧ ω₂.ks = r ∧ y ∉ r
  hpop := fun {p σ mm ω} rp hne => by
    obtain ⟨b, ks⟩ := ω
    have hw := rp.2
    cases ks with
    | nil =>
      exfalso
      obtain ⟨e, r, he⟩ := List.exists_cons_of_ne_nil hne
      have := (hw.mem e.1).mpr (by
        show (aget b.data e.1).isSome = true
        have he : b.data = e :: r := he
        rw [he]; exact aget_head)
      cases this
    | cons y r =>
      have hn := hw.nd
      have h1 : y ∉ r := (List.nodup_cons.mp hn).1
      refine ⟨y, _, rfl, (hw.mem y).mp (.head _), rfl, r, rfl, ?_, h1⟩
      show (y :: r).filter (· ≠ y) = r
      rw [List.filter_cons_of_neg (by simp)]
      exact List.filter_eq_self.mpr fun z hz => by simp; rintro rfl; exact h1 hz

def clLru (G : Cmn K I) (F : Lru.KF K I.C) (od : Addr) (e1 : G.F.set = F.set) (e2 : G.F.get = F.get) : Cl prog w K I Lru.Om now fixd O where
  b := Lru.Om.b
  T := fun _ => Lru.th prog w F od
  hb := fun _ => rfl
  good := O now ∧ ∀ a, O a → a ∉ I.x :: ordFp I od
  len := 1000
  pre := (Lru.th prog w F od).rep
  weak := fun rp => rp
  prb := fun rp => rp.1.rb
  F := G.F
  ok := G.ok
  hV := G.hV
  put := fun ω k v => ω.put I k v 1
  get := fun ω k => ⟨ω.b, Lru.toEnd ω.ks k⟩
  bput := fun _ _ _ => rfl
  bget := fun _ _ => rfl
  small := fun ω => ω.ks.length < 100
  hsmall := fun {p σ mm ω} rp h => by
    have h1 := keys_short rp.2.nd fun k hk => (rp.2.mem k).mp hk
    refine ⟨by omega, fun ω₂ e => ?_⟩
    have e : Lru.Om.pop I ω = some ω₂ := e
    unfold Lru.Om.pop at e
    split at e
    · cases e
    next k ks hk =>
      cases e
      have := List.length_filter_le (fun x => decide (x ≠ k)) (k :: ks)
      rw [← hk] at this
      show ((k :: ks).filter (· ≠ k)).length < 100
      rw [← hk]; omega
  cset := F.cset
  hcset := F.hcset
  N := 8
  lv := fun _ => by show 3 + 2 ≤ 8; decide
  hset := fun {σ mm ω k tk v p fu X} rp hb hs => by
    rw [e1]
    exact Lru.call_set (mm := mm) F hb (by decide) hs
  hget := fun {σ mm ω k tk v p} rp hv hl => by
    rw [e2]
    have h1 := keys_short rp.2.nd fun k hk => (rp.2.mem k).mp hk
    have hk : k ∈ ω.ks := (rp.2.mem k).mpr (by unfold B.has; rw [hv]; rfl)
    refine ((Lru.call_get (n := 0) (tk := tk) F rp.1 (by omega) hv hk).lower (n := 8) (by decide)).mono (fun r σ' ⟨q1, q2, q3⟩ => ⟨q1, ⟨_, q2, ⟨nodup_push rp.2.nd, fun x => ?_, rp.2.sz⟩⟩, q3⟩) fun _ _ x => x
    rw [← rp.2.mem]
    show x ∈ ω.ks.filter (· ≠ k) ++ [k] ↔ x ∈ ω.ks
    simp only [List.mem_append, List.mem_filter, List.mem_singleton, decide_eq_true_eq]
    by_cases hx : x = k <;> simp [hx, hk]
  keepO := fun g k => ⟨fun a x ha e => k a x (fun q => g.2 a ha (.tail _ q)) e⟩
  frame := fun g rp h _ _ => by
    have hn := not_fp g.2 (fun t ht => rp.1.dom ht) h
    exact ⟨rp.1.frame fun b hb => Hp.set_ne _ _ fun e => hn (e ▸ hb), rp.2⟩
  framePre := fun g rp h _ _ => by
    have hn := not_fp g.2 (fun t ht => rp.1.dom ht) h
    exact ⟨rp.1.frame fun b hb => Hp.set_ne _ _ fun e => hn (e ▸ hb), rp.2⟩
  tick := fun g rp _ => by
    have hn := g.2 _ g.1
    exact ⟨rp.1.frame fun b hb => Hp.set_ne _ _ fun e => hn (e ▸ hb), rp.2⟩
  full := fun _ ω y ω₂ => ∃ r, ω.ks = y :: r ∧ ω₂.ks = r ∧ y ∉ r
  hpop := fun {p σ mm ω} rp hne => by
    obtain ⟨b, ks⟩ := ω
    have hw := rp.2
    cases ks with
    | nil =>
      exfalso
      obtain ⟨e, r, he⟩ := List.exists_cons_of_ne_nil hne
      have := (hw.mem e.1).mpr (by
        show (aget b.data e.1).isSome = true
        have he : b.data = e :: r := he
        rw [he]; exact aget_head)
      cases this
    | cons y r =>
      have hn := hw.nd
      have h1 : y ∉ r := (List.nodup_cons.mp hn).1
      refine ⟨y, _, rfl, (hw.mem y).mp (.head _), rfl, r, rfl, ?_, h1⟩
      show (y :: r).filter (· ≠ y) = r
      rw [List.filter_cons_of_neg (by simp)]
      exact List.filter_eq_self.mpr fun z hz => by simp; rintro rfl; exact h1 hz
end L2
end Mine
namespace Mine
set_option pp.deepTerms false
set_option pp.deepTerms.threshold 8
local macro_rules | `(tactic| walk_at "lk") => `(tactic| first | assumption | rfl | (simp only [mset, ofs_inj, String.reduceEq, ↓reduceIte]; first | assumption | rfl) | (simp only [mset, ofs_inj, String.reduceEq, ↓reduceIte]; done))
local macro_rules | `(tactic| walk_at "nm") => `(tactic| (refine v_local (by assumption) (by assumption) (kof (by assumption) (by kernel_rfl)) (by walk_at "lk") ?_ (by kernel_rfl)))
local macro_rules | `(tactic| walk_at "st") => `(tactic| (refine v_store (by assumption) (by assumption) (kof (by assumption) (by kernel_rfl)) fun s r => ?_))
local macro_rules | `(tactic| walk_at "v") => `(tactic| first
  | with_reducible refine wpAny_Return_some ?_
  | with_reducible refine wpAny_Return_none ?_
  | ((with_reducible refine wpAny_Compare1 (hm := ?hm) ?_); (case hm => with_unfolding_all rfl))
  | ((with_reducible refine wpAny_isTrue_Compare1 (hm := ?hm) ?_); (case hm => with_unfolding_all rfl))
  | ((with_reducible refine wpAny_Assign_Name (hs := ?hs) ?_); (case hs => rfl))
  | ((with_reducible refine wpAny_Assign_Subscript (hs := ?hs) ?_); (case hs => rfl))
  | ((with_reducible refine plainObj_wpAny_Assign_Attribute (hs := ?hs) ?_); (case hs => rfl))
  | ((with_reducible refine wpAny_Assign_two (he := ?he) (hw := ?hw) ?_); (case he => rfl); (case hw => rfl))
  | with_reducible refine assign_Attr ?_
  | with_reducible refine assign_Subs ?_
  | with_reducible refine wpAny_assign_Name ?_
  | with_reducible refine Attribute_name ?_
  | with_reducible refine Attribute_any_ ?_
  | with_reducible refine Subscript_ ?_
  | with_reducible refine wpAny_If ?_
  | with_reducible refine wpAny_BinOp ?_
  | with_reducible refine wpAny_UnaryOp ?_
  | with_reducible refine wpAny_Delete ?_
  | with_reducible refine wpAny_deleteEach_cons ?_
  | with_reducible refine wpAny_deleteEach_nil ?_
  | with_reducible refine wpAny_delete_Subscript ?_
  | with_reducible refine wpAny_AugAssign_AttributeAny ?_
  | with_reducible refine wpAny_execs_nil ?_
  | with_reducible refine wpAny_Constant_none ?_
  | with_reducible refine spliced_none ?_
  | with_reducible refine ea_none ?_
  | ((with_reducible refine ea_plain ?_ ?he); (case he => rfl))
  | ((with_reducible refine' methodCall_KW (pl := ?pl) (he := ?he) ?_); (case he => rfl))
  | walk_at "nm"
  | ((with_reducible refine spliced_more ?_ (he := ?he)); (case he => rfl)))
local macro_rules | `(tactic| walk_at "vv") => `(tactic| repeat walk_at "v")
namespace Rr
variable {prog : Program} {w : World} {K : Frag} {H : Option Value} {n : Nat} {σ : Hp}
def IntL (vs : List Value) (ks : List Int) : Prop := vs.length = ks.length ∧ ∀ (i : Nat) k, ks[i]? = some k → ∃ t, vs[i]? = some (.int k t)
def Places (kvs : List (Int × Value)) (ks : List Int) : Prop :=
  (∀ k v, aget kvs k = some v → ∃ (i : Nat) (t : Tok), v = .int i t ∧ ks[i]? = some k) ∧ (∀ (i : Nat) k, ks[i]? = some k → ∃ t, aget kvs k = some (.int i t)) ∧ kvs.length ≤ ks.length

structure Ad where
  ix : Addr
  kl : Addr
  cf : Addr
def fp (I : Info) (D : Ad) : List Addr := D.ix :: D.kl :: baseFp I

structure RQ (I : Info) (D : Ad) (σ : Hp) (mm : Nm) (b : B) (ks : List Int) : Prop where
  rb : RB σ I mm b
  hix : mm "_RRCache__index" = some (.ref D.ix)
  hks : mm "_RRCache__keys" = some (.ref D.kl)
  hch : mm "_RRCache__choice" = some (.ref D.cf)
  idx : ∃ kvs, σ D.ix = some (.dict kvs) ∧ Places kvs ks
  lst : ∃ vs, σ D.kl = some (.list vs) ∧ IntL vs ks
  a1 : D.ix ∉ baseFp I
  a2 : D.kl ∉ baseFp I
  short : ks.length ≤ 60

def rdel (ks : List Int) (k : Int) : List Int :=
  (if ks.idxOf k + 1 = ks.length then ks else ks.set (ks.idxOf k) (ks.getLastD 0)).dropLast

theorem RQ.frame {σ σ' : Hp} {I : Info} {D : Ad} {mm : Nm} {b : B} {ks : List Int} (r : RQ I D σ mm b ks) (h : ∀ a ∈ I.x :: fp I D, σ' a = σ a) : RQ I D σ' mm b ks := by
  obtain ⟨kvs, q1, q2⟩ := r.idx
  obtain ⟨vs, q3, q4⟩ := r.lst
  exact ⟨r.rb.frame fun a ha => h a (by simp only [fp, List.mem_cons] at ha ⊢; rcases ha with h | h; exact .inl h; exact .inr (.inr (.inr h))), r.hix, r.hks, r.hch,
    ⟨kvs, (h _ (by simp [fp])).trans q1, q2⟩, ⟨vs, (h _ (by simp [fp])).trans q3, q4⟩, r.a1, r.a2, r.short⟩
theorem RQ.dom {σ : Hp} {I : Info} {D : Ad} {mm : Nm} {b : B} {ks : List Int} (r : RQ I D σ mm b ks) {t : Addr} (h : t ∈ I.x :: fp I D) : σ t ≠ none := by
  obtain ⟨kvs, q1, q2⟩ := r.idx
  obtain ⟨vs, q3, q4⟩ := r.lst
  simp only [fp, List.mem_cons] at h
  rcases h with h | h | h | h
  · exact r.rb.dom (by simp [h])
  · rw [h, q1]; simp
  · rw [h, q3]; simp
  · exact r.rb.dom (.tail _ h)
theorem RQ.addNew {σ : Hp} {I : Info} {D : Ad} {mm : Nm} {b : B} {ks : List Int} {t : Addr} {x : AO} (r : RQ I D σ mm b ks) (h : σ t = none) : RQ I D (σ.set t x) mm b ks :=
  r.frame fun a ha => Hp.set_ne _ _ fun e => r.dom (e ▸ ha) h
theorem RQ.ext {σ σ' : Hp} {I : Info} {D : Ad} {mm : Nm} {b : B} {ks : List Int} (r : RQ I D σ mm b ks) (h : ∀ a x, σ a = some x → σ' a = some x) : RQ I D σ' mm b ks :=
  r.frame fun a ha => by
    cases e : σ a with
    | none => exact absurd e (r.dom ha)
    | some x => exact h a x e
theorem RQ.none {σ σ' : Hp} {I : Info} {D : Ad} {mm : Nm} {b : B} {ks : List Int} {t : Addr} (r : RQ I D σ' mm b ks) (kp : KeepFp (fp I D) σ σ') (h : σ' t = Option.none) : σ t = Option.none := by
  cases e : σ t with
  | none => rfl
  | some x =>
    by_cases ht : t ∈ fp I D
    · exact absurd h (r.dom (.tail _ ht))
    · rw [kp t x ht e] at h; cases h
theorem RQ.ne {σ : Hp} {I : Info} {D : Ad} {mm : Nm} {b : B} {ks : List Int} (r : RQ I D σ mm b ks) : D.ix ≠ D.kl := fun e => by
  obtain ⟨kvs, q1, q2⟩ := r.idx
  obtain ⟨vs, q3, q4⟩ := r.lst
  rw [e, q3] at q1; cases q1
theorem RQ.base {I : Info} {D : Ad} {σ σ' : Hp} {mm : Nm} {b b' : B} {ks : List Int} (r : RQ I D σ mm b ks) (h : BaseOut I mm b' σ σ') :
    ∃ mm', RQ I D σ' mm' b' ks ∧ KeepFp (fp I D) σ σ' := by
  obtain ⟨mm', rb', sn, ch⟩ := h
  obtain ⟨kvs, q1, q2⟩ := r.idx
  obtain ⟨vs, q3, q4⟩ := r.lst
  exact ⟨mm', ⟨rb', (sn _ (by decide +kernel)).trans r.hix, (sn _ (by decide +kernel)).trans r.hks, (sn _ (by decide +kernel)).trans r.hch, ⟨kvs, (ch _ r.a1).trans q1, q2⟩, ⟨vs, (ch _ r.a2).trans q3, q4⟩, r.a1, r.a2, r.short⟩,
    .ofChg ch fun a ha => .tail _ (.tail _ ha)⟩
theorem RQ.turn {I : Info} {D : Ad} {σ : Hp} {mm : Nm} {b : B} {ks ks' : List Int} {kvs : List (Int × Value)} {vs : List Value} (r : RQ I D σ mm b ks) (σ' : Hp) (h1 : σ' D.ix = some (.dict kvs)) (h2 : σ' D.kl = some (.list vs))
    (h3 : ∀ a, a ≠ D.ix → a ≠ D.kl → σ' a = σ a) (p : Places kvs ks') (q : IntL vs ks') (h : ks'.length ≤ 60) : RQ I D σ' mm b ks' ∧ KeepFp (fp I D) σ σ' := by
  obtain ⟨kvs0, q1, q2⟩ := r.idx
  obtain ⟨vs0, q3, q4⟩ := r.lst
  have hb : ∀ a ∈ I.x :: baseFp I, σ' a = σ a := fun a ha => by
    simp only [List.mem_cons] at ha
    rcases ha with rfl | ha
    · exact h3 _ (fun e => by have := r.rb.inst; rw [e, q1] at this; cases this) (fun e => by have := r.rb.inst; rw [e, q3] at this; cases this)
    · exact h3 _ (fun e => r.a1 (e ▸ ha)) (fun e => r.a2 (e ▸ ha))
  exact ⟨⟨r.rb.frame hb, r.hix, r.hks, r.hch, ⟨kvs, h1, p⟩, ⟨vs, h2, q⟩, r.a1, r.a2, h⟩, fun a x ha e => by
    simp only [fp, List.mem_cons, not_or] at ha
    rw [h3 a ha.1 ha.2.1]; exact e⟩

theorem IntL.push {vs : List Value} {ks : List Int} {k : Int} {t : Tok} (h : IntL vs ks) : IntL (vs ++ [.int k t]) (ks ++ [k]) := by
  refine ⟨by simp [h.1], fun i x hx => ?_⟩
  rcases Nat.lt_trichotomy i ks.length with hi | hi | hi
  · rw [List.getElem?_append_left hi] at hx
    obtain ⟨t', ht⟩ := h.2 i x hx
    exact ⟨t', by rw [List.getElem?_append_left (by rw [h.1]; exact hi)]; exact ht⟩
  · subst hi
    simp only [List.getElem?_append_right (Nat.le_refl _), Nat.sub_self, List.getElem?_cons_zero, Option.some.injEq] at hx
    subst hx
    exact ⟨t, by rw [← h.1]; simp⟩
  · rw [List.getElem?_eq_none (by simp; omega)] at hx; cases hx
theorem IntL.set {vs : List Value} {ks : List Int} {k : Int} {t : Tok} {j : Nat} (h : IntL vs ks) : IntL (vs.set j (.int k t)) (ks.set j k) := by
  refine ⟨by simp [h.1], fun i x hx => ?_⟩
  rw [List.getElem?_set] at hx ⊢
  by_cases hij : j = i
  · subst hij
    simp only [if_true] at hx ⊢
    by_cases hl : j < ks.length
    · rw [if_pos hl] at hx; cases hx
      exact ⟨t, by rw [if_pos (by rw [h.1]; exact hl)]⟩
    · rw [if_neg hl] at hx; cases hx
  · rw [if_neg hij] at hx ⊢
    exact h.2 i x hx
theorem IntL.dropLast {vs : List Value} {ks : List Int} (h : IntL vs ks) : IntL vs.dropLast ks.dropLast := by
  refine ⟨by simp [h.1], fun i x hx => ?_⟩
  rw [List.getElem?_dropLast] at hx ⊢
  rw [h.1]
  by_cases hi : i < ks.length - 1
  · rw [if_pos hi] at hx ⊢; exact h.2 i x hx
  · rw [if_neg hi] at hx; cases hx
theorem Places.nodup {kvs : List (Int × Value)} {ks : List Int} (h : Places kvs ks) : ks.Nodup := by
  refine List.pairwise_iff_getElem.mpr fun i j hi hj hij e => ?_
  obtain ⟨t, ht⟩ := h.2.1 j ks[j] (by simp [hj])
  obtain ⟨t', ht'⟩ := h.2.1 i ks[j] (by rw [← e]; simp [hi])
  rw [ht] at ht'
  simp only [Option.some.injEq, Value.int.injEq] at ht'
  omega
theorem Places.push {kvs : List (Int × Value)} {ks : List Int} {k : Int} {t : Tok} (h : Places kvs ks) (hk : k ∉ ks) : Places (aput kvs k (.int ks.length t)) (ks ++ [k]) := by
  refine ⟨fun x v hx => ?_, fun i x hx => ?_, ?_⟩
  · rw [aget_aput] at hx
    by_cases hxk : x = k
    · rw [if_pos hxk] at hx; cases hx
      exact ⟨ks.length, t, rfl, by simp [hxk]⟩
    · rw [if_neg hxk] at hx
      obtain ⟨i, t', h1, h2⟩ := h.1 x v hx
      exact ⟨i, t', h1, by rw [List.getElem?_append_left (List.getElem?_eq_some_iff.mp h2).1]; exact h2⟩
  · rw [aget_aput]
    by_cases hi : i < ks.length
    · rw [List.getElem?_append_left hi] at hx
      rw [if_neg (fun e : x = k => hk (by rw [← e]; exact List.mem_of_getElem? hx))]
      exact h.2.1 i x hx
    · by_cases hi2 : i = ks.length
      · subst hi2
        simp at hx
        subst hx
        exact ⟨t, if_pos rfl⟩
      · rw [List.getElem?_eq_none (by simp; omega)] at hx; cases hx
  · have := aput_len kvs k (.int ks.length t); have := h.2.2; simp; omega
theorem Places.mem {kvs : List (Int × Value)} {ks : List Int} (h : Places kvs ks) (x : Int) : x ∈ ks ↔ (aget kvs x).isSome = true := by
  constructor
  · intro hx
    obtain ⟨i, hi⟩ := List.getElem?_of_mem hx
    obtain ⟨t, ht⟩ := h.2.1 i x hi
    rw [ht]; rfl
  · intro hx
    obtain ⟨v, hv⟩ := Option.isSome_iff_exists.mp hx
    obtain ⟨i, t, _, hi⟩ := h.1 x v hv
    exact List.mem_of_getElem? hi
theorem Places.idx {kvs : List (Int × Value)} {ks : List Int} (h : Places kvs ks) {i : Nat} {k : Int} (hi : ks[i]? = some k) : ks.idxOf k = i := by
  have hm := List.mem_of_getElem? hi
  have h1 : ks[ks.idxOf k]? = some k := by rw [List.getElem?_eq_getElem (List.idxOf_lt_length_of_mem hm), List.getElem_idxOf]
  obtain ⟨t, ht⟩ := h.2.1 _ k h1
  obtain ⟨t', ht'⟩ := h.2.1 _ k hi
  rw [ht] at ht'
  simp only [Option.some.injEq, Value.int.injEq] at ht'
  omega
theorem adel_len {kvs : List (Int × Value)} {k : Int} (h : (aget kvs k).isSome = true) : (adel kvs k).length < kvs.length := by
  unfold adel
  unfold aget at h
  rw [Option.isSome_map, List.find?_isSome] at h
  obtain ⟨e, he, hk⟩ := h
  refine List.length_filter_lt_length_iff_exists.mpr ⟨e, he, ?_⟩
  simpa using hk
theorem Places.dropEnd {kvs : List (Int × Value)} {ks : List Int} {i : Nat} {k : Int} (h : Places kvs ks) (hi : ks[i]? = some k) (hl : i + 1 = ks.length) : Places (adel kvs k) ks.dropLast := by
  have hsome : (aget kvs k).isSome = true := (h.mem k).mp (List.mem_of_getElem? hi)
  refine ⟨fun x v hx => ?_, fun j x hx => ?_, ?_⟩
  · rw [aget_adel] at hx
    by_cases hxk : x = k
    · rw [if_pos hxk] at hx; cases hx
    · rw [if_neg hxk] at hx
      obtain ⟨j, t', h1, h2⟩ := h.1 x v hx
      refine ⟨j, t', h1, ?_⟩
      have hj := (List.getElem?_eq_some_iff.mp h2).1
      rw [List.getElem?_dropLast, if_pos]
      · exact h2
      · have : j ≠ i := fun e => by rw [e, hi] at h2; exact hxk (Option.some.inj h2).symm
        omega
  · rw [List.getElem?_dropLast] at hx
    by_cases hj : j < ks.length - 1
    · rw [if_pos hj] at hx
      rw [aget_adel, if_neg]
      · exact h.2.1 j x hx
      · intro e
        subst e
        have := h.idx hi; have := h.idx hx
        omega
    · rw [if_neg hj] at hx; cases hx
  · have := adel_len hsome; have := h.2.2; simp; omega
theorem Places.swap {kvs : List (Int × Value)} {ks : List Int} {i : Nat} {k last : Int} {t : Tok} (h : Places kvs ks) (hi : ks[i]? = some k) (hl : i + 1 < ks.length) (hlast : ks[ks.length - 1]? = some last) :
    Places (aput (adel kvs k) last (.int i t)) (ks.set i last).dropLast := by
  have hsome : (aget kvs k).isSome = true := (h.mem k).mp (List.mem_of_getElem? hi)
  have hne : last ≠ k := fun e => by
    subst e
    have := h.idx hi; have := h.idx hlast
    omega
  refine ⟨fun x v hx => ?_, fun j x hx => ?_, ?_⟩
  · rw [aget_aput] at hx
    by_cases hxl : x = last
    · rw [if_pos hxl] at hx; cases hx
      refine ⟨i, t, rfl, ?_⟩
      rw [List.getElem?_dropLast, List.length_set, if_pos (by omega), List.getElem?_set, if_pos rfl, if_pos (by omega), hxl]
    · rw [if_neg hxl, aget_adel] at hx
      by_cases hxk : x = k
      · rw [if_pos hxk] at hx; cases hx
      · rw [if_neg hxk] at hx
        obtain ⟨j, t', h1, h2⟩ := h.1 x v hx
        have hj := (List.getElem?_eq_some_iff.mp h2).1
        have hji : j ≠ i := fun e => by rw [e, hi] at h2; exact hxk (Option.some.inj h2).symm
        have hjl : j ≠ ks.length - 1 := fun e => by rw [e, hlast] at h2; exact hxl (Option.some.inj h2).symm
        refine ⟨j, t', h1, ?_⟩
        rw [List.getElem?_dropLast, List.length_set, if_pos (by omega), List.getElem?_set, if_neg (Ne.symm hji)]
        exact h2
  · rw [List.getElem?_dropLast, List.length_set] at hx
    by_cases hj : j < ks.length - 1
    · rw [if_pos hj, List.getElem?_set] at hx
      rw [aget_aput]
      by_cases hij : i = j
      · subst hij
        rw [if_pos rfl, if_pos (by omega)] at hx
        cases hx
        exact ⟨t, if_pos rfl⟩
      · rw [if_neg hij] at hx
        have h1 : x ≠ last := fun e => by
          subst e
          have := h.idx hx; have := h.idx hlast
          omega
        have h2 : x ≠ k := fun e => by
          subst e
          have := h.idx hx; have := h.idx hi
          omega
        rw [if_neg h1, aget_adel, if_neg h2]
        exact h.2.1 j x hx
    · rw [if_neg hj] at hx; cases hx
  · have := adel_len hsome; have := h.2.2
    have hin : (aget (adel kvs k) last).isSome = true := by rw [aget_adel, if_neg hne]; exact (h.mem last).mp (List.mem_of_getElem? hlast)
    unfold aput
    rw [if_pos]
    · simp; omega
    · unfold aget at hin
      rw [Option.isSome_map, List.find?_isSome] at hin
      exact List.any_eq_true.mpr hin
theorem rdel_mem {kvs : List (Int × Value)} {ks : List Int} {k : Int} (h : Places kvs ks) (hk : k ∈ ks) (x : Int) : x ∈ rdel ks k ↔ x ∈ ks ∧ x ≠ k := by
  obtain ⟨i, hi⟩ := List.getElem?_of_mem hk
  have hlt := (List.getElem?_eq_some_iff.mp hi).1
  unfold rdel
  rw [h.idx hi]
  by_cases hl : i + 1 = ks.length
  · rw [if_pos hl, (h.dropEnd hi hl).mem, aget_adel, h.mem]
    by_cases hx : x = k <;> simp [hx]
  · rw [if_neg hl]
    have hlast : ks[ks.length - 1]? = some (ks.getLastD 0) := by
      cases ks with
      | nil => cases hk
      | cons a r => rw [← List.getLast?_eq_getElem?]; rfl
    have hne : ks.getLastD 0 ≠ k := fun e => by
      rw [e] at hlast
      have := h.idx hi; have := h.idx hlast
      omega
    rw [(h.swap (t := default) hi (by omega) hlast).mem, aget_aput, aget_adel, h.mem]
    by_cases hx : x = ks.getLastD 0
    · simp only [hx, if_true, Option.isSome_some, true_iff]
      exact ⟨(h.mem _).mp (List.mem_of_getElem? hlast), hne⟩
    · rw [if_neg hx]
      by_cases hxk : x = k <;> simp [hxk]
end Rr
end Mine
namespace Mine
set_option pp.deepTerms false
set_option pp.deepTerms.threshold 8
local macro_rules | `(tactic| walk_at "lk") => `(tactic| first | assumption | rfl | (simp only [mset, ofs_inj, String.reduceEq, ↓reduceIte]; first | assumption | rfl) | (simp only [mset, ofs_inj, String.reduceEq, ↓reduceIte]; done))
local macro_rules | `(tactic| walk_at "nm") => `(tactic| (refine v_local (by assumption) (by assumption) (kof (by assumption) (by kernel_rfl)) (by walk_at "lk") ?_ (by kernel_rfl)))
local macro_rules | `(tactic| walk_at "st") => `(tactic| (refine v_store (by assumption) (by assumption) (kof (by assumption) (by kernel_rfl)) fun s r => ?_))
local macro_rules | `(tactic| walk_at "v") => `(tactic| first
  | with_reducible refine wpAny_Return_some ?_
  | with_reducible refine wpAny_Return_none ?_
  | ((with_reducible refine wpAny_Compare1 (hm := ?hm) ?_); (case hm => with_unfolding_all rfl))
  | ((with_reducible refine wpAny_isTrue_Compare1 (hm := ?hm) ?_); (case hm => with_unfolding_all rfl))
  | ((with_reducible refine wpAny_Assign_Name (hs := ?hs) ?_); (case hs => rfl))
  | ((with_reducible refine wpAny_Assign_Subscript (hs := ?hs) ?_); (case hs => rfl))
  | ((with_reducible refine plainObj_wpAny_Assign_Attribute (hs := ?hs) ?_); (case hs => rfl))
  | ((with_reducible refine wpAny_Assign_two (he := ?he) (hw := ?hw) ?_); (case he => rfl); (case hw => rfl))
  | with_reducible refine assign_Attr ?_
  | with_reducible refine assign_Subs ?_
  | with_reducible refine wpAny_assign_Name ?_
  | with_reducible refine Attribute_name ?_
  | with_reducible refine Attribute_any_ ?_
  | with_reducible refine Subscript_ ?_
  | with_reducible refine wpAny_If ?_
  | with_reducible refine wpAny_BinOp ?_
  | with_reducible refine wpAny_UnaryOp ?_
  | with_reducible refine wpAny_Delete ?_
  | with_reducible refine wpAny_deleteEach_cons ?_
  | with_reducible refine wpAny_deleteEach_nil ?_
  | with_reducible refine wpAny_delete_Subscript ?_
  | with_reducible refine wpAny_AugAssign_AttributeAny ?_
  | with_reducible refine wpAny_execs_nil ?_
  | with_reducible refine wpAny_Constant_none ?_
  | with_reducible refine spliced_none ?_
  | with_reducible refine ea_none ?_
  | ((with_reducible refine ea_plain ?_ ?he); (case he => rfl))
  | ((with_reducible refine' methodCall_KW (pl := ?pl) (he := ?he) ?_); (case he => rfl))
  | walk_at "nm"
  | ((with_reducible refine spliced_more ?_ (he := ?he)); (case he => rfl)))
local macro_rules | `(tactic| walk_at "vv") => `(tactic| repeat walk_at "v")
namespace Rr
variable {prog : Program} {w : World} {K : Frag} {H : Option Value} {n : Nat} {σ : Hp}

theorem call_del {C : Addr} (F : KF K C) {I : Info} {D : Ad} {mm : Nm} {b : B} {ks : List Int} {k : Int} {tk : Tok} {X : String → Hp → Prop} (hC : I.C = C)
    (ro : RQ I D σ mm b ks) (hin : (aget b.data k).isSome = true) (hins : I.ds ≠ none → (aget b.size k).isSome = true) (ho : k ∈ ks) :
    CallT prog w K H (n + 2) (.ref F.del) ⟨[.ref I.x, .int k tk], []⟩ σ (fun v σ' => v = .none ∧ ∃ mm', RQ I D σ' mm' (b.del I k) (rdel ks k) ∧ KeepFp (fp I D) σ σ') X := by
  subst hC
  refine CallT.of (binds := [("self", .ref I.x), ("key", .int k tk), ("cache_delitem", .ref F.cdel)]) F.hdel (fun _ _ _ _ _ _ _ _ s X => BindsTo.ofT F.htdel X rfl rfl rfl) (by kernel_rfl) (by kernel_rfl) (by kernel_rfl) ?_
  intro A base os env fs s hsc hcl a r
  have h1 : (fun y => [(("self" : Str), Value.ref I.x), ("key", .int k tk), ("cache_delitem", .ref F.cdel)].reverse.lookup y) "self" = some (.ref I.x) := by kernel_rfl
  have h2 : (fun y => [(("self" : Str), Value.ref I.x), ("key", .int k tk), ("cache_delitem", .ref F.cdel)].reverse.lookup y) "key" = some (.int k tk) := by kernel_rfl
  have h3 : (fun y => [(("self" : Str), Value.ref I.x), ("key", .int k tk), ("cache_delitem", .ref F.cdel)].reverse.lookup y) "cache_delitem" = some (.ref F.cdel) := by kernel_rfl
  refine wpAny_execs_cons ?_
  refine wpAny_Expr_any ?_ (by unfold interactive; rw [a.head.2.1]; rfl) (by rfl)
  refine wpAny_Call_ofName ?_
  walk_at "nm"
  refine v_callK (os := os) a F.kcdel rfl ?_
  walk_at "vv"
  refine ⟨⟨_, _, r⟩, ?_⟩
  refine v_told a r (X := fun _ _ => False) (Mine.call_del (n := 0) (tk := tk) F.hcdel F.ok ro.rb hin hins) (by omega) (fun v σ' s' ⟨_, hb⟩ r => ?_) fun _ _ _ _ x _ => x.elim
  obtain ⟨mm', ro', kp⟩ := ro.base hb
  obtain ⟨j, hj, hd⟩ := ro'.rb.ns
  obtain ⟨kvs, hkv, hpl⟩ := ro'.idx
  obtain ⟨vs, hvs, hil⟩ := ro'.lst
  have hsh := ro'.short
  have hne := ro'.ne
  obtain ⟨i, hi⟩ := List.getElem?_of_mem ho
  have hilt := (List.getElem?_eq_some_iff.mp hi).1
  obtain ⟨ti, hti⟩ := hpl.2.1 i k hi
  have hlen := hil.1
  have hkl := hpl.2.2
  refine wpAny_execs_cons ?_
  walk_at "vv"
  refine v_own a r ro'.rb.inst hd ro'.hix rfl F.ok.get F.ok.dict F.fix (by kernel_rfl) fun s r => ?_
  refine v_dmeth r hkv PySem.F.slot_dict_pop (by with_unfolding_all rfl) ?_
  refine v_callB rfl ?_
  walk_at "vv"
  refine v_dpop r hkv (by omega) hti fun s r => ?_
  rw [without_eq] at r
  walk_at "st"; rename_i s r
  have rbd := ro'.rb.mono' ro'.a1 hkv (by intro C e q; cases q) (y := .dict (adel kvs k))
  obtain ⟨j2, hj2, hd2⟩ := rbd.ns
  have hvs2 : (σ'.set D.ix (.dict (adel kvs k))) D.kl = some (.list vs) := by rw [Hp.set_ne _ _ (Ne.symm hne)]; exact hvs
  refine wpAny_execs_cons ?_
  walk_at "vv"
  refine wpAny_Call_ofName ?_
  refine v_builtin a r (kof hsc (by kernel_rfl)) F.hlen (v := .builtin "len") (by kernel_rfl) (by decide +kernel) ?_ (by kernel_rfl)
  refine v_callB rfl ?_
  walk_at "vv"
  refine v_own a r rbd.inst hd2 ro'.hks rfl F.ok.get F.ok.dict F.fks (by kernel_rfl) fun s r => ?_
  walk_at "vv"
  refine v_llen r hvs2 (by omega) fun s tl r => ?_
  refine v_int r fun s t1 r => ?_
  refine v_sub r fun s t2 r => ?_
  refine v_ne ?_
  refine v_truth ?_
  unfold rdel
  rw [hpl.idx hi]
  by_cases hl : i + 1 = ks.length
  · rw [if_pos hl]
    rw [if_neg (by rw [hlen, ← hl]; simp)]
    refine wpAny_execs_nil ?_
    refine wpAny_execs_cons ?_
    refine wpAny_Expr_any ?_ (by unfold interactive; rw [a.head.2.1]; rfl) (by rfl)
    walk_at "vv"
    refine v_own a r rbd.inst hd2 ro'.hks rfl F.ok.get F.ok.dict F.fks (by kernel_rfl) fun s r => ?_
    refine v_lmeth r hvs2 PySem.F.slot_list_pop PySem.F.type_list_pop ?_
    refine v_callB rfl ?_
    walk_at "vv"
    obtain ⟨vd, vl, rfl⟩ : ∃ vd vl, vs = vd ++ [vl] := ⟨vs.dropLast, vs.getLast (by intro e; rw [e] at hlen; simp at hlen; omega), (List.dropLast_concat_getLast _).symm⟩
    refine v_lpop r hvs2 (by simp at hlen; omega) fun s r => ?_
    walk_at "vv"
    obtain ⟨ro2, kp2⟩ := ro'.turn (ks' := ks.dropLast) (kvs := adel kvs k) (vs := vd) ((σ'.set D.ix (.dict (adel kvs k))).set D.kl (.list vd)) (by rw [Hp.set_ne _ _ hne]; exact Hp.set_self _ _ _) (Hp.set_self _ _ _)
      (fun a q1 q2 => by rw [Hp.set_ne _ _ q2, Hp.set_ne _ _ q1]) (hpl.dropEnd hi hl) (by have := hil.dropLast; rwa [List.dropLast_concat] at this) (by simp; omega)
    exact ⟨_, _, r, rfl, mm', ro2, kp.trans kp2⟩
  · rw [if_neg hl]
    have hlast : ks[ks.length - 1]? = some (ks.getLastD 0) := by
      cases ks with
      | nil => cases ho
      | cons a r => rw [← List.getLast?_eq_getElem?]; rfl
    rw [if_pos (by rw [hlen]; simp; omega)]
    obtain ⟨t5, ht5⟩ := hil.2 _ _ hlast
    obtain ⟨vd, rfl⟩ : ∃ vd, vs = vd ++ [.int (ks.getLastD 0) t5] := by
      have hne0 : vs ≠ [] := by intro e; rw [e] at hlen; simp at hlen; omega
      refine ⟨vs.dropLast, ?_⟩
      have : vs.getLast hne0 = .int (ks.getLastD 0) t5 := by
        have := List.getLast?_eq_getElem? (l := vs)
        rw [hlen, ht5, List.getLast?_eq_some_getLast hne0] at this
        exact Option.some.inj this
      rw [← this, List.dropLast_concat_getLast]
    have hvd : vd.length + 1 = ks.length := by simpa using hlen
    refine wpAny_execs_cons ?_
    walk_at "vv"
    refine v_own a r rbd.inst hd2 ro'.hks rfl F.ok.get F.ok.dict F.fks (by kernel_rfl) fun s r => ?_
    walk_at "vv"
    refine v_int r fun s t6 r => ?_
    refine v_neg r fun s t7 r => ?_
    refine v_llast r hvs2 (by omega) ?_ rfl
    walk_at "st"; rename_i s r
    refine wpAny_execs_cons ?_
    walk_at "vv"
    refine v_own a r rbd.inst hd2 ro'.hks rfl F.ok.get F.ok.dict F.fks (by kernel_rfl) fun s r => ?_
    walk_at "vv"
    refine v_lset r hvs2 (by omega) (by omega) fun s r => ?_
    rw [List.set_append_left _ _ (by omega)] at r
    have ro3 := ro'.turn (ks' := (ks.set i (ks.getLastD 0)).dropLast) (kvs := aput (adel kvs k) (ks.getLastD 0) (.int i ti)) (vs := vd.set i (.int (ks.getLastD 0) t5))
      ((((σ'.set D.ix (.dict (adel kvs k))).set D.kl (.list (vd.set i (.int (ks.getLastD 0) t5) ++ [.int (ks.getLastD 0) t5]))).set D.ix (.dict (aput (adel kvs k) (ks.getLastD 0) (.int i ti)))).set D.kl (.list (vd.set i (.int (ks.getLastD 0) t5))))
      (by rw [Hp.set_ne _ _ hne]; exact Hp.set_self _ _ _) (Hp.set_self _ _ _)
      (fun a q1 q2 => by rw [Hp.set_ne _ _ q2, Hp.set_ne _ _ q1, Hp.set_ne _ _ q2, Hp.set_ne _ _ q1]) (hpl.swap hi (by omega) hlast)
      (by have := (hil.set (j := i) (k := ks.getLastD 0) (t := t5)).dropLast; rwa [List.set_append_left _ _ (by omega), List.dropLast_concat] at this) (by simp; omega)
    walk_at "vv"
    refine wpAny_execs_cons ?_
    walk_at "vv"
    have rbe := rbd.mono' (y := .list (vd.set i (.int (ks.getLastD 0) t5) ++ [.int (ks.getLastD 0) t5])) ro'.a2 hvs2 (by intro C e q; cases q)
    obtain ⟨j3, hj3, hd3⟩ := rbe.ns
    refine v_own a r rbe.inst hd3 ro'.hix rfl F.ok.get F.ok.dict F.fix (by kernel_rfl) fun s r => ?_
    walk_at "vv"
    have hk3 : ((σ'.set D.ix (.dict (adel kvs k))).set D.kl (.list (vd.set i (.int (ks.getLastD 0) t5) ++ [.int (ks.getLastD 0) t5]))) D.ix = some (.dict (adel kvs k)) := by rw [Hp.set_ne _ _ hne]; exact Hp.set_self _ _ _
    refine v_dset r hk3 (by have := adel_len (kvs := kvs) (k := k) (by rw [hti]; rfl); omega) fun s r => ?_
    rw [stored_eq] at r
    walk_at "vv"
    have rbf := rbe.mono' (y := .dict (aput (adel kvs k) (ks.getLastD 0) (.int i ti))) ro'.a1 hk3 (by intro C e q; cases q)
    obtain ⟨j4, hj4, hd4⟩ := rbf.ns
    refine wpAny_execs_cons ?_
    refine wpAny_Expr_any ?_ (by unfold interactive; rw [a.head.2.1]; rfl) (by rfl)
    walk_at "vv"
    refine v_own a r rbf.inst hd4 ro'.hks rfl F.ok.get F.ok.dict F.fks (by kernel_rfl) fun s r => ?_
    have hk4 : (((σ'.set D.ix (.dict (adel kvs k))).set D.kl (.list (vd.set i (.int (ks.getLastD 0) t5) ++ [.int (ks.getLastD 0) t5]))).set D.ix (.dict (aput (adel kvs k) (ks.getLastD 0) (.int i ti)))) D.kl = some (.list (vd.set i (.int (ks.getLastD 0) t5) ++ [.int (ks.getLastD 0) t5])) := by
      rw [Hp.set_ne _ _ (Ne.symm hne)]; exact Hp.set_self _ _ _
    refine v_lmeth r hk4 PySem.F.slot_list_pop PySem.F.type_list_pop ?_
    refine v_callB rfl ?_
    walk_at "vv"
    refine v_lpop r hk4 (by simp; omega) fun s r => ?_
    walk_at "vv"
    exact ⟨_, _, r, rfl, mm', ro3.1, kp.trans ro3.2⟩
end Rr
end Mine
namespace Mine
set_option pp.deepTerms false
set_option pp.deepTerms.threshold 8
local macro_rules | `(tactic| walk_at "lk") => `(tactic| first | assumption | rfl | (simp only [mset, ofs_inj, String.reduceEq, ↓reduceIte]; first | assumption | rfl) | (simp only [mset, ofs_inj, String.reduceEq, ↓reduceIte]; done))
local macro_rules | `(tactic| walk_at "nm") => `(tactic| (refine v_local (by assumption) (by assumption) (kof (by assumption) (by kernel_rfl)) (by walk_at "lk") ?_ (by kernel_rfl)))
local macro_rules | `(tactic| walk_at "st") => `(tactic| (refine v_store (by assumption) (by assumption) (kof (by assumption) (by kernel_rfl)) fun s r => ?_))
local macro_rules | `(tactic| walk_at "v") => `(tactic| first
  | with_reducible refine wpAny_Return_some ?_
  | with_reducible refine wpAny_Return_none ?_
  | ((with_reducible refine wpAny_Compare1 (hm := ?hm) ?_); (case hm => with_unfolding_all rfl))
  | ((with_reducible refine wpAny_isTrue_Compare1 (hm := ?hm) ?_); (case hm => with_unfolding_all rfl))
  | ((with_reducible refine wpAny_Assign_Name (hs := ?hs) ?_); (case hs => rfl))
  | ((with_reducible refine wpAny_Assign_Subscript (hs := ?hs) ?_); (case hs => rfl))
  | ((with_reducible refine plainObj_wpAny_Assign_Attribute (hs := ?hs) ?_); (case hs => rfl))
  | ((with_reducible refine wpAny_Assign_two (he := ?he) (hw := ?hw) ?_); (case he => rfl); (case hw => rfl))
  | with_reducible refine assign_Attr ?_
  | with_reducible refine assign_Subs ?_
  | with_reducible refine wpAny_assign_Name ?_
  | with_reducible refine Attribute_name ?_
  | with_reducible refine Attribute_any_ ?_
  | with_reducible refine Subscript_ ?_
  | with_reducible refine wpAny_If ?_
  | with_reducible refine wpAny_BinOp ?_
  | with_reducible refine wpAny_UnaryOp ?_
  | with_reducible refine wpAny_Delete ?_
  | with_reducible refine wpAny_deleteEach_cons ?_
  | with_reducible refine wpAny_deleteEach_nil ?_
  | with_reducible refine wpAny_delete_Subscript ?_
  | with_reducible refine wpAny_AugAssign_AttributeAny ?_
  | with_reducible refine wpAny_execs_nil ?_
  | with_reducible refine wpAny_Constant_none ?_
  | with_reducible refine spliced_none ?_
  | with_reducible refine ea_none ?_
  | ((with_reducible refine ea_plain ?_ ?he); (case he => rfl))
  | ((with_reducible refine' methodCall_KW (pl := ?pl) (he := ?he) ?_); (case he => rfl))
  | walk_at "nm"
  | ((with_reducible refine spliced_more ?_ (he := ?he)); (case he => rfl)))
local macro_rules | `(tactic| walk_at "vv") => `(tactic| repeat walk_at "v")
namespace Rr
variable {prog : Program} {w : World} {K : Frag} {H : Option Value} {n : Nat} {σ : Hp}

structure Chooser (prog : Program) (w : World) (K : Frag) (cf : Addr) (fp : List Addr) (Ctx : Hp → Prop) (ch : List Int → Int) (N : Nat) : Prop where
  keeps : ∀ {base os fs σ s}, R prog w base os fs σ s → Ctx σ → ∃ k, (k = Keeper.frame ∨ k = Keeper.machine ∨ k = Keeper.boundFrame) ∧ Looks (model prog w) s.heap (keeperOf (.ref cf)) k
  call : ∀ {σ lk vs ks}, Ctx σ → σ lk = some (.list vs) → IntL vs ks → ks ≠ [] → ks.length ≤ 60 →
    CallT prog w K none N (.ref cf) ⟨[.ref lk], []⟩ σ (fun r σ' => (∃ tk, r = .int (ch ks) tk) ∧ ∀ a x, σ a = some x → σ' a = some x) (fun _ _ => False)
  mem : ∀ {ks : List Int}, ks ≠ [] → ch ks ∈ ks
  stable : ∀ {σ σ'}, Ctx σ → KeepFp fp σ σ' → Ctx σ'

theorem KeepFp.ofExt {fp : List Addr} {σ σ' : Hp} (h : ∀ a x, σ a = some x → σ' a = some x) : KeepFp fp σ σ' := fun a x _ e => h a x e

theorem call_pop {C : Addr} (F : KF K C) {I : Info} {D : Ad} {Ctx : Hp → Prop} {ch : List Int → Int} {N : Nat} (Ch : Chooser prog w K D.cf (fp I D) Ctx ch N) {mm : Nm} {b : B} {ks : List Int} {v : Value} {X : String → Hp → Prop} (hC : I.C = C)
    (ro : RQ I D σ mm b ks) (cx : Ctx σ) (hks : ks ≠ []) (hv : aget b.data (ch ks) = some v) (hins : I.ds ≠ none → (aget b.size (ch ks)).isSome = true) :
    CallT prog w K none (N + n + 3) (.ref F.pop) ⟨[.ref I.x], []⟩ σ (fun r σ' => (∃ t tk, r = .ref t ∧ σ t = none ∧ σ' t = some (.tup [.int (ch ks) tk, v])) ∧
      ∃ mm', RQ I D σ' mm' (b.del I (ch ks)) (rdel ks (ch ks)) ∧ KeepFp (fp I D) σ σ') X := by
  subst hC
  refine CallT.of (binds := [("self", .ref I.x)]) F.hpop (fun _ _ _ _ _ _ _ _ _ _ => BindsTo.of_eq rfl) (by kernel_rfl) (by kernel_rfl) (by kernel_rfl) ?_
  intro A base os env fs s hsc hcl a r
  have h1 : (fun y => [(("self" : Str), Value.ref I.x)].reverse.lookup y) "self" = some (.ref I.x) := by kernel_rfl
  obtain ⟨j, hj, hd⟩ := ro.rb.ns
  have hsh := ro.short
  obtain ⟨vs, hvs, hil⟩ := ro.lst
  have hlen := hil.1
  refine wpAny_execs_cons ?_
  walk_at "vv"
  refine v_own a r ro.rb.inst hd ro.hks rfl F.ok.get F.ok.dict F.fks (by kernel_rfl) fun s r => ?_
  walk_at "st"; rename_i s r
  refine wpAny_execs_cons ?_
  walk_at "v"
  refine isTrue_not ?_
  refine isTrue_plain ?_
  walk_at "vv"
  refine v_ltruth r hvs (by omega) fun s r => ?_
  have hemp : vs.isEmpty = false := by
    cases vs with
    | nil => exact absurd (List.eq_nil_of_length_eq_zero (by simpa using hlen.symm)) hks
    | cons _ _ => rfl
  rw [hemp]
  simp only [Bool.not_false, Bool.not_true, Bool.false_eq_true, if_false]
  walk_at "vv"
  refine wpAny_execs_cons ?_
  walk_at "vv"
  refine v_fieldmeth a r ro.rb.inst hd ro.hch rfl F.ok.get F.ok.dict F.fch fun s r => ?_
  refine v_callM (env := env) (base := base) (os := os) (fs := fs) Ctx (fun _ _ _ r₁ cx => Ch.keeps r₁ cx) rfl ?_
  walk_at "vv"
  refine ⟨⟨_, _, r, cx⟩, ?_⟩
  refine v_told a r (X := fun _ _ => False) (Ch.call cx hvs hil hks hsh) (by omega) (fun v' σ' s' ⟨⟨tk, q1⟩, hext⟩ r => ?_) fun _ _ _ _ x _ => x.elim
  subst q1
  have ro1 := ro.ext hext
  obtain ⟨j1, hj1, hd1⟩ := ro1.rb.ns
  walk_at "st"; rename_i s r
  refine wpAny_execs_cons ?_
  walk_at "vv"
  refine v_global a r (kof hsc (by kernel_rfl)) F.hCache ?_ (by kernel_rfl)
  obtain ⟨mc, hg1, hg2, hg3⟩ := F.ncget
  refine v_clsmeth a r hg1 hg2 hg3 rfl fun s r => ?_
  refine v_callK (os := os) a F.kcget rfl ?_
  walk_at "vv"
  refine ⟨⟨_, _, r⟩, ?_⟩
  refine v_told a r (X := fun _ _ => False) (Mine.call_getitem (n := 0) (tk := tk) F.hcget F.ok ro1.rb hv) (by omega) (fun v' σ' s' ⟨q1, q2⟩ r => ?_) fun _ _ _ _ x _ => x.elim
  subst q1; subst q2
  walk_at "st"; rename_i s r
  refine wpAny_execs_cons ?_
  walk_at "vv"
  refine v_delI a r ro1.rb.inst hd1 F.ok.seq F.ndel F.idel ?_
  refine v_told a r (X := fun _ _ => False) (call_del (n := 0) (tk := tk) F rfl ro1 (by rw [hv]; rfl) hins (Ch.mem hks)) (by omega) (fun _ σ'' s' ⟨_, mm', ro', kp⟩ r => ?_) fun _ _ _ _ x _ => x.elim
  walk_at "vv"
  refine wpAny_execs_cons ?_
  walk_at "v"
  refine v_tuple (base := base) (os := os) (fs := fs) ?_
  walk_at "vv"
  refine ⟨by simp, _, _, r, fun t s' ht r' => ?_⟩
  have kp0 := (KeepFp.ofExt (fp := fp I D) hext).trans kp
  exact ⟨_, _, r', ⟨t, tk, rfl, ro'.none kp0 ht, Hp.set_self _ _ _⟩, mm', ro'.addNew ht, kp0.trans (.setNew ht)⟩

structure Om where
  b : B
  ks : List Int
structure Om.Wf (I : Info) (o : Om) : Prop where
  mem : ∀ k, k ∈ o.ks ↔ o.b.has k = true
  sz : I.ds ≠ none → ∀ k, o.b.has k = true → (aget o.b.size k).isSome = true
def Om.pop (I : Info) (ch : List Int → Int) (o : Om) : Option Om := if o.ks = [] then none else some ⟨o.b.del I (ch o.ks), rdel o.ks (ch o.ks)⟩
def Om.put (I : Info) (o : Om) (k : Int) (v : Value) (c : Int) : Om := ⟨o.b.put I k v c, if k ∈ o.ks then o.ks else o.ks ++ [k]⟩

theorem Om.put_old {I : Info} {o : Om} {k : Int} {v : Value} {c : Int} (h : k ∈ o.ks) : o.put I k v c = ⟨o.b.put I k v c, o.ks⟩ := by unfold Om.put; rw [if_pos h]
theorem Om.put_new {I : Info} {o : Om} {k : Int} {v : Value} {c : Int} (h : k ∉ o.ks) : o.put I k v c = ⟨o.b.put I k v c, o.ks ++ [k]⟩ := by unfold Om.put; rw [if_neg h]
theorem Om.Wf.del {I : Info} {o : Om} {k : Int} {kvs : List (Int × Value)} (h : o.Wf I) (hp : Places kvs o.ks) (hk : k ∈ o.ks) : Om.Wf I ⟨o.b.del I k, rdel o.ks k⟩ := by
  refine ⟨fun x => ?_, fun hd x hx => ?_⟩
  · show x ∈ rdel o.ks k ↔ (o.b.del I k).has x = true
    rw [rdel_mem hp hk, has_del, h.mem]; simp
  · show (aget (o.b.del I k).size x).isSome = true
    rw [show (Om.mk (o.b.del I k) (rdel o.ks k)).b.has x = (o.b.has x && decide (x ≠ k)) from has_del] at hx
    simp only [Bool.and_eq_true, decide_eq_true_eq] at hx
    rw [size_del hd _ trivial hx.2]
    exact h.sz hd x hx.1
theorem Om.Wf.put {I : Info} {o : Om} {k : Int} {v : Value} {c : Int} (h : o.Wf I) : (o.put I k v c).Wf I := by
  refine ⟨fun x => ?_, fun hd x hx => ?_⟩
  · rw [show (o.put I k v c).b.has x = (o.b.has x || decide (x = k)) from has_put ..]
    show (x ∈ if k ∈ o.ks then o.ks else o.ks ++ [k]) ↔ _
    simp only [Bool.or_eq_true, decide_eq_true_eq]
    by_cases hk : k ∈ o.ks
    · rw [if_pos hk, h.mem]
      constructor
      · exact .inl
      · rintro (q | q)
        · exact q
        · subst q; exact (h.mem x).mp hk
    · rw [if_neg hk, List.mem_append, h.mem, List.mem_singleton]
  · rw [show (o.put I k v c).b.has x = (o.b.has x || decide (x = k)) from has_put ..] at hx
    show (aget (o.b.put I k v c).size x).isSome = true
    unfold B.put
    rw [if_neg hd]
    simp only [Bool.or_eq_true, decide_eq_true_eq] at hx
    by_cases hxk : x = k
    · subst hxk; rw [aget_aput_self]; rfl
    · rw [aget_aput_ne _ _ hxk]; exact h.sz hd x (hx.resolve_right hxk)

def th (prog : Program) (w : World) {K : Frag} {I : Info} (F : KF K I.C) (D : Ad) {Ctx : Hp → Prop} {ch : List Int → Int} {N : Nat} (Ch : Chooser prog w K D.cf (fp I D) Ctx ch N) : Th prog w K I Om where
  b := Om.b
  rep := fun σ mm o => RQ I D σ mm o.b o.ks ∧ o.Wf I ∧ Ctx σ
  rb := fun h => h.1.rb
  keep := KeepFp (fp I D)
  krefl := .refl _
  ktrans := .trans
  pop := Om.pop I ch
  popless := fun {o o' k} e h => by
    unfold Om.pop at e
    split at e
    · cases e
    cases e
    have := has_del (I := I) (b := o.b) (k := ch o.ks) (x := k)
    unfold B.has at this
    rw [h] at this
    show aget (o.b.del I (ch o.ks)).data k = none
    cases q : aget (o.b.del I (ch o.ks)).data k with
    | none => rfl
    | some _ => rw [q] at this; cases this
  fpop := F.pop
  lvl := N + 0 + 3
  find := F.npop
  fn := F.ipop
  kp := F.kpop
  hpop := fun {σ mm o o'} ⟨ro, wf, cx⟩ e => by
    unfold Om.pop at e
    split at e
    · cases e
    next hk =>
      cases e
      obtain ⟨kvs, _, hp⟩ := ro.idx
      have hm := Ch.mem hk
      have hin : o.b.has (ch o.ks) = true := (wf.mem _).mp hm
      obtain ⟨v, hv⟩ := Option.isSome_iff_exists.mp hin
      exact (call_pop (n := 0) F Ch rfl ro cx hk hv fun hd => wf.sz hd _ hin).mono (fun r σ' ⟨_, mm', ro', kp⟩ => ⟨mm', ⟨ro', wf.del hp hm, Ch.stable cx kp⟩, kp⟩) fun _ _ x => x

theorem call_set {I : Info} (F : KF K I.C) {D : Ad} {Ctx : Hp → Prop} {ch : List Int → Int} {NC : Nat} (Ch : Chooser prog w K D.cf (fp I D) Ctx ch NC) {mm : Nm} {o : Om} {k : Int} {tk : Tok} {v : Value} {c : Int} {fu N : Nat} {X : String → Hp → Prop}
    (hb : CallT prog w K none N (.ref F.cset) ⟨[.ref I.x, .int k tk, v], []⟩ σ (fun r σ' => r = .none ∧ SetOut (th prog w F D Ch) o k v c fu σ σ') X)
    (hlen : ∀ o', evict (th prog w F D Ch).b (th prog w F D Ch).pop I.most (fun b => b.need I k c) fu o = some o' → o'.ks.length < 60) :
    CallT prog w K none (N + 1) (.ref F.set) ⟨[.ref I.x, .int k tk, v], []⟩ σ (fun r σ' => r = .none ∧ SetTo (th prog w F D Ch) (fun o => o.put I k v c) (fun b => b.need I k c) fu o σ σ') X := by
  refine CallT.of (binds := [("self", .ref I.x), ("key", .int k tk), ("value", v), ("cache_setitem", .ref F.cset)]) F.hset (fun _ _ _ _ _ _ _ _ s X => BindsTo.ofT F.htset X rfl rfl rfl) (by kernel_rfl) (by kernel_rfl) (by kernel_rfl) ?_
  intro A base os env fs s hsc hcl a r
  have h1 : (fun y => [(("self" : Str), Value.ref I.x), ("key", .int k tk), ("value", v), ("cache_setitem", .ref F.cset)].reverse.lookup y) "self" = some (.ref I.x) := by kernel_rfl
  have h2 : (fun y => [(("self" : Str), Value.ref I.x), ("key", .int k tk), ("value", v), ("cache_setitem", .ref F.cset)].reverse.lookup y) "key" = some (.int k tk) := by kernel_rfl
  have h3 : (fun y => [(("self" : Str), Value.ref I.x), ("key", .int k tk), ("value", v), ("cache_setitem", .ref F.cset)].reverse.lookup y) "value" = some v := by kernel_rfl
  have h4 : (fun y => [(("self" : Str), Value.ref I.x), ("key", .int k tk), ("value", v), ("cache_setitem", .ref F.cset)].reverse.lookup y) "cache_setitem" = some (.ref F.cset) := by kernel_rfl
  refine wpAny_execs_cons ?_
  refine wpAny_Expr_any ?_ (by unfold interactive; rw [a.head.2.1]; rfl) (by rfl)
  refine wpAny_Call_ofName ?_
  walk_at "nm"
  refine v_callK (os := os) a F.kcset rfl ?_
  walk_at "vv"
  refine ⟨⟨_, _, r⟩, ?_⟩
  refine v_told a r hb (by omega) (fun _ σ' s' ⟨_, σ₁, mm₁, o₁, ⟨ro₁, wf₁, cx₁⟩, kp₁, hev, hout⟩ r => ?_) fun _ _ _ _ x u => lv_of_up a u x
  obtain ⟨mm', ro', kp'⟩ := ro₁.base hout
  obtain ⟨j, hj, hd⟩ := ro'.rb.ns
  have hl := hlen _ hev
  obtain ⟨kvs, hkv, hpl⟩ := ro'.idx
  obtain ⟨vs, hvs, hil⟩ := ro'.lst
  have hln := hil.1
  have hkl := hpl.2.2
  have hne := ro'.ne
  refine wpAny_execs_cons ?_
  walk_at "vv"
  refine v_own a r ro'.rb.inst hd ro'.hix rfl F.ok.get F.ok.dict F.fix (by kernel_rfl) fun s r => ?_
  refine v_dnotin r hkv fun s r => ?_
  refine v_truth ?_
  rw [valueAt_eq]
  by_cases hin : k ∈ o₁.ks
  · rw [(hpl.mem k).mp hin]
    simp only [Bool.not_true, Bool.false_eq_true, if_false]
    walk_at "vv"
    exact ⟨_, _, r, rfl, mm', o₁, hev, ⟨by show RQ I D _ _ (o₁.put I k v c).b (o₁.put I k v c).ks; rw [Om.put_old hin]; exact ro', wf₁.put, Ch.stable cx₁ kp'⟩, kp₁.trans kp'⟩
  · have hno : (aget kvs k).isSome = false := by
      cases q : (aget kvs k).isSome with
      | false => rfl
      | true => exact absurd ((hpl.mem k).mpr q) hin
    rw [hno]
    simp only [Bool.not_false, if_true]
    refine wpAny_execs_cons ?_
    walk_at "v"
    refine wpAny_Call_ofName ?_
    refine v_builtin a r (kof hsc (by kernel_rfl)) F.hlen (v := .builtin "len") (by kernel_rfl) (by decide +kernel) ?_ (by kernel_rfl)
    refine v_callB rfl ?_
    walk_at "vv"
    refine v_own a r ro'.rb.inst hd ro'.hks rfl F.ok.get F.ok.dict F.fks (by kernel_rfl) fun s r => ?_
    walk_at "vv"
    refine v_llen r hvs (by omega) fun s tl r => ?_
    walk_at "vv"
    refine v_own a r ro'.rb.inst hd ro'.hix rfl F.ok.get F.ok.dict F.fix (by kernel_rfl) fun s r => ?_
    walk_at "vv"
    refine v_dset r hkv (by omega) fun s r => ?_
    rw [stored_eq, hln] at r
    walk_at "vv"
    have rbd := ro'.rb.mono' ro'.a1 hkv (by intro C e q; cases q) (y := .dict (aput kvs k (.int o₁.ks.length tl)))
    obtain ⟨j2, hj2, hd2⟩ := rbd.ns
    have hvs2 : (σ'.set D.ix (.dict (aput kvs k (.int o₁.ks.length tl)))) D.kl = some (.list vs) := by rw [Hp.set_ne _ _ (Ne.symm hne)]; exact hvs
    refine wpAny_execs_cons ?_
    refine wpAny_Expr_any ?_ (by unfold interactive; rw [a.head.2.1]; rfl) (by rfl)
    walk_at "vv"
    refine v_own a r rbd.inst hd2 ro'.hks rfl F.ok.get F.ok.dict F.fks (by kernel_rfl) fun s r => ?_
    refine v_lmeth r hvs2 PySem.F.slot_list_append PySem.F.type_list_append ?_
    refine v_callB rfl ?_
    walk_at "vv"
    refine v_lappend r hvs2 (by omega) fun s r => ?_
    walk_at "vv"
    obtain ⟨ro2, kp2⟩ := ro'.turn (ks' := o₁.ks ++ [k]) (kvs := aput kvs k (.int o₁.ks.length tl)) (vs := vs ++ [.int k tk]) ((σ'.set D.ix (.dict (aput kvs k (.int o₁.ks.length tl)))).set D.kl (.list (vs ++ [.int k tk]))) (by rw [Hp.set_ne _ _ hne]; exact Hp.set_self _ _ _) (Hp.set_self _ _ _)
      (fun a q1 q2 => by rw [Hp.set_ne _ _ q2, Hp.set_ne _ _ q1]) (hpl.push hin) hil.push (by simp; omega)
    exact ⟨_, _, r, rfl, mm', o₁, hev, ⟨by show RQ I D _ _ (o₁.put I k v c).b (o₁.put I k v c).ks; rw [Om.put_new hin]; exact ro2, wf₁.put, Ch.stable cx₁ (kp'.trans kp2)⟩, (kp₁.trans kp').trans kp2⟩
end Rr
end Mine
namespace Mine
set_option pp.deepTerms false
set_option pp.deepTerms.threshold 8
local macro_rules | `(tactic| walk_at "lk") => `(tactic| first | assumption | rfl | (simp only [mset, ofs_inj, String.reduceEq, ↓reduceIte]; first | assumption | rfl) | (simp only [mset, ofs_inj, String.reduceEq, ↓reduceIte]; done))
local macro_rules | `(tactic| walk_at "nm") => `(tactic| (refine v_local (by assumption) (by assumption) (kof (by assumption) (by kernel_rfl)) (by walk_at "lk") ?_ (by kernel_rfl)))
local macro_rules | `(tactic| walk_at "st") => `(tactic| (refine v_store (by assumption) (by assumption) (kof (by assumption) (by kernel_rfl)) fun s r => ?_))
local macro_rules | `(tactic| walk_at "v") => `(tactic| first
  | with_reducible refine wpAny_Return_some ?_
  | with_reducible refine wpAny_Return_none ?_
  | ((with_reducible refine wpAny_Compare1 (hm := ?hm) ?_); (case hm => with_unfolding_all rfl))
  | ((with_reducible refine wpAny_isTrue_Compare1 (hm := ?hm) ?_); (case hm => with_unfolding_all rfl))
  | ((with_reducible refine wpAny_Assign_Name (hs := ?hs) ?_); (case hs => rfl))
  | ((with_reducible refine wpAny_Assign_Subscript (hs := ?hs) ?_); (case hs => rfl))
  | ((with_reducible refine plainObj_wpAny_Assign_Attribute (hs := ?hs) ?_); (case hs => rfl))
  | ((with_reducible refine wpAny_Assign_two (he := ?he) (hw := ?hw) ?_); (case he => rfl); (case hw => rfl))
  | with_reducible refine assign_Attr ?_
  | with_reducible refine assign_Subs ?_
  | with_reducible refine wpAny_assign_Name ?_
  | with_reducible refine Attribute_name ?_
  | with_reducible refine Attribute_any_ ?_
  | with_reducible refine Subscript_ ?_
  | with_reducible refine wpAny_If ?_
  | with_reducible refine wpAny_BinOp ?_
  | with_reducible refine wpAny_UnaryOp ?_
  | with_reducible refine wpAny_Delete ?_
  | with_reducible refine wpAny_deleteEach_cons ?_
  | with_reducible refine wpAny_deleteEach_nil ?_
  | with_reducible refine wpAny_delete_Subscript ?_
  | with_reducible refine wpAny_AugAssign_AttributeAny ?_
  | with_reducible refine wpAny_execs_nil ?_
  | with_reducible refine wpAny_Constant_none ?_
  | with_reducible refine spliced_none ?_
  | with_reducible refine ea_none ?_
  | ((with_reducible refine ea_plain ?_ ?he); (case he => rfl))
  | ((with_reducible refine' methodCall_KW (pl := ?pl) (he := ?he) ?_); (case he => rfl))
  | walk_at "nm"
  | ((with_reducible refine spliced_more ?_ (he := ?he)); (case he => rfl)))
local macro_rules | `(tactic| walk_at "vv") => `(tactic| repeat walk_at "v")
namespace Rr
variable {prog : Program} {w : World} {K : Frag} {H : Option Value} {n : Nat} {σ : Hp}
def rnames : List Str := ["_RRCache__choice", "_RRCache__index", "_RRCache__keys"]
theorem rn_cls : ∀ nm ∈ clsNames, nm ∉ rnames := by decide +kernel
theorem rn_init : ∀ nm ∈ initNames, nm ∉ rnames := by decide +kernel
theorem mset3_ne {m : Nm} {y : Str} {u v x : Value} (h : y ∉ rnames) : mset (mset (mset m "_RRCache__choice" u) "_RRCache__index" v) "_RRCache__keys" x y = m y := by
  simp only [rnames, List.mem_cons, List.not_mem_nil, or_false, not_or] at h
  unfold mset
  rw [if_neg h.2.2, if_neg h.2.1, if_neg h.1]

theorem body_init {C x d : Addr} (F : KI K C) (ok : ClsOK K C) {most : Int} {tk : Tok} {gv : Value} {cf : Addr} {m : Nm} {N : Nat} {P : Info → Prop} {X : String → Hp → Prop} (hN : N ≤ n)
    (hb : CallT prog w K H N (.ref F.cinit) ⟨[.ref x, .int most tk, gv], []⟩ σ (fun v σ' => v = .none ∧ ∃ I mm', P I ∧ I.x = x ∧ I.C = C ∧ I.d = d ∧ Made σ σ' I mm') X)
    (hs : m "self" = some (.ref x)) (hm : m "maxsize" = some (.int most tk)) (hg : m "getsizeof" = some gv) (hc : m "choice" = some (.ref cf)) :
    BodyT prog w K H n (fnScope s_rinit) [] (fnBody s_rinit) m σ (fun v σ' => v = .none ∧ ∃ I D mm', P I ∧ I.x = x ∧ I.C = C ∧ I.d = d ∧ D.cf = cf ∧ RQ I D σ' mm' ⟨[], [], 0⟩ [] ∧
      (∀ a ∈ fp I D, a ≠ d → σ a = none) ∧ ∀ a, a ∉ fp I D → σ' a = σ a) X := by
  intro A base os env fs s hsc hcl a r
  refine wpAny_execs_cons ?_
  refine wpAny_Expr_any ?_ (by unfold interactive; rw [a.head.2.1]; rfl) (by rfl)
  walk_at "vv"
  refine v_global a r (kof hsc (by kernel_rfl)) F.gs.hCache ?_ (by kernel_rfl)
  obtain ⟨mc, hg2, hg3⟩ := F.ncinit
  refine v_clsmeth a r F.spC hg2 hg3 rfl fun s r => ?_
  refine v_callK (os := os) a F.kcinit rfl ?_
  walk_at "vv"
  refine ⟨⟨_, _, r⟩, ?_⟩
  refine v_told a r hb hN (fun _ σ' s' ⟨_, I, mm', hP, e1, e2, e3, md⟩ r => ?_) fun _ _ _ _ x u => lv_of_up a u x
  subst e1; subst e2; subst e3
  obtain ⟨j, hj, hd⟩ := md.cnt
  have inst := md.rb.inst
  have hxd : I.x ≠ I.d := md.rb.d_ne.2.2
  have nsin : ∀ {t : Addr}, σ' t = none → t ≠ I.x ∧ t ≠ I.d ∧ t ∉ baseFp I := fun {t} ht => by
    have : t ∉ I.x :: baseFp I := fun h => md.rb.dom h ht
    obtain ⟨q1, q2⟩ : t ≠ I.x ∧ t ∉ baseFp I := by simpa using this
    exact ⟨q1, fun e => q2 (by rw [e]; exact .head _), q2⟩
  refine wpAny_execs_cons ?_
  walk_at "vv"
  refine v_setown a r inst hd (by omega) ok.seta ok.over F.tch ok.dict fun s r => ?_
  refine wpAny_execs_cons ?_
  walk_at "vv"
  refine v_dict0 r fun ix s hix r => ?_
  have hix0 : σ' ix = none := by
    rw [Hp.set_ne _ _ (fun e => by rw [e, Hp.set_self] at hix; cases hix)] at hix; exact hix
  obtain ⟨ix1, ix2, ix3⟩ := nsin hix0
  walk_at "vv"
  refine v_setown a r (by rw [Hp.set_ne _ _ ix1.symm, Hp.set_ne _ _ hxd]; exact inst) (by rw [Hp.set_ne _ _ ix2.symm]; exact Hp.set_self _ _ _) (by omega) ok.seta ok.over F.tix ok.dict fun s r => ?_
  refine wpAny_execs_cons ?_
  walk_at "vv"
  refine v_list (base := base) (os := os) (fs := fs) ?_
  walk_at "vv"
  refine ⟨by simp, _, _, r, fun kl s hkl r => ?_⟩
  have hkl0 : σ' kl = none ∧ kl ≠ ix := by
    have e1 : kl ≠ I.d := fun e => by rw [e, Hp.set_self] at hkl; cases hkl
    have e2 : kl ≠ ix := fun e => by rw [Hp.set_ne _ _ e1, e, Hp.set_self] at hkl; cases hkl
    rw [Hp.set_ne _ _ e1, Hp.set_ne _ _ e2, Hp.set_ne _ _ e1] at hkl
    exact ⟨hkl, e2⟩
  obtain ⟨kl1, kl2, kl3⟩ := nsin hkl0.1
  walk_at "vv"
  refine v_setown a r (by rw [Hp.set_ne _ _ kl1.symm, Hp.set_ne _ _ hxd, Hp.set_ne _ _ ix1.symm, Hp.set_ne _ _ hxd]; exact inst) (by rw [Hp.set_ne _ _ kl2.symm]; exact Hp.set_self _ _ _) (by omega) ok.seta ok.over F.tks ok.dict fun s r => ?_
  walk_at "vv"
  have hσ : ∀ {t : Addr}, σ' t = none → t ∉ baseFp I → σ t = none := fun h1 h2 => by rw [← md.same _ h2]; exact h1
  obtain ⟨rb1, rb2, rb3, rb4, rb5, rb6, rb7, rb8, rb9, rb10, rb11⟩ := md.rb
  have dne := md.rb.d_ne
  have same : ∀ {t : Addr} {u v x : AO} {z : AO}, t ≠ I.d → t ≠ ix → t ≠ kl → ((((σ'.set I.d u).set ix v).set I.d x).set kl z) t = σ' t := fun h1 h2 h3 => by
    rw [Hp.set_ne _ _ h3, Hp.set_ne _ _ h1, Hp.set_ne _ _ h2, Hp.set_ne _ _ h1]
  refine ⟨_, _, r, rfl, I, ⟨ix, kl, cf⟩, _, hP, rfl, rfl, rfl, rfl, ⟨⟨?_, ⟨_, by omega, Hp.set_self _ _ _⟩, ?_, ?_, ?_, ?_, ?_, ?_, ?_, ?_, rb11⟩, ?_, ?_, ?_, ⟨[], ?_, ?_⟩, ⟨[], ?_, ?_⟩, ix3, kl3, by decide⟩, ?_, ?_⟩
  · rw [Hp.set_ne _ _ hxd, same hxd ix1.symm kl1.symm]; exact inst
  · exact (mset3_ne (rn_init _ (by decide +kernel))).trans rb3
  · rw [Hp.set_ne _ _ dne.1.symm, same dne.1.symm (fun e => ix3 (by rw [← e]; simp [baseFp])) (fun e => kl3 (by rw [← e]; simp [baseFp]))]; exact rb4
  · exact (mset3_ne (rn_init _ (by decide +kernel))).trans rb5
  · exact (mset3_ne (rn_init _ (by decide +kernel))).trans rb6
  · intro p hp
    obtain ⟨kvs, q1, q2, q3⟩ := rb7 p hp
    have hpd : p.1 ≠ I.d := fun e => by rw [e, hd] at q1; cases q1
    refine ⟨kvs, ?_, q2, q3⟩
    rw [Hp.set_ne _ _ hpd, same hpd (fun e => ix3 (by rw [← e]; simp [baseFp, hp])) (fun e => kl3 (by rw [← e]; simp [baseFp, hp]))]; exact q1
  · exact rb8.imp fun _ h => (mset3_ne (rn_init _ (by decide +kernel))).trans h
  · exact rb9.imp fun _ h => (mset3_ne (rn_init _ (by decide +kernel))).trans h
  · intro y hy
    exact (mset3_ne (rn_cls y hy)).trans (rb10 y hy)
  · unfold mset; rw [if_neg (by decide +kernel), if_pos rfl]
  · unfold mset; rw [if_pos rfl]
  · unfold mset; rw [if_neg (by decide +kernel), if_neg (by decide +kernel), if_pos rfl]
  · show _ = some (AO.dict [])
    rw [Hp.set_ne _ _ ix2, Hp.set_ne _ _ hkl0.2.symm, Hp.set_ne _ _ ix2, Hp.set_self]
  · exact ⟨fun k v h => (by cases h), fun i k h => (by simp at h), Nat.le_refl _⟩
  · show _ = some (AO.list [])
    rw [Hp.set_ne _ _ kl2, Hp.set_self]
  · exact ⟨rfl, fun i k h => by simp at h⟩
  · intro b hb hne
    rcases List.mem_cons.mp hb with rfl | hb
    · exact hσ hix0 ix3
    · rcases List.mem_cons.mp hb with rfl | hb
      · exact hσ hkl0.1 kl3
      · exact md.new b hb hne
  · intro b hb
    have h1 : b ≠ ix := fun e => hb (by rw [e]; exact .head _)
    have h2 : b ≠ kl := fun e => hb (by rw [e]; exact .tail _ (.head _))
    have h3 : b ∉ baseFp I := fun e => hb (.tail _ (.tail _ e))
    have h4 : b ≠ I.d := fun e => h3 (by rw [e]; exact .head _)
    rw [Hp.set_ne _ _ h4, same h4 h1 h2]
    exact md.same _ h3

theorem make_plain {C cf : Addr} (F : KI K C) (ok : ClsOK K C) {most : Int} {tk : Tok} {X : String → Hp → Prop} (h0 : 0 ≤ most) :
    CallT prog w K H (n + 4) (.ref C) ⟨[.int most tk, .ref cf], []⟩ σ (fun v σ' => ∃ I D mm', v = .ref I.x ∧ I.C = C ∧ I.ds = none ∧ I.most = most ∧ D.cf = cf ∧ RQ I D σ' mm' ⟨[], [], 0⟩ [] ∧
      (∀ a ∈ I.x :: fp I D, σ a = none) ∧ ∀ a, a ∉ I.x :: fp I D → σ' a = σ a) X := by
  refine (CallT.make (Q := fun v σ' => ∃ I D mm', v = .ref I.x ∧ I.C = C ∧ I.ds = none ∧ I.most = most ∧ D.cf = cf ∧ RQ I D σ' mm' ⟨[], [], 0⟩ [] ∧
      (∀ a ∈ I.x :: fp I D, σ a = none) ∧ ∀ a, a ∉ I.x :: fp I D → σ' a = σ a) F.makes F.ninit F.iinit fun x dx hx hdx hne => ?_)
  refine (CallT.of (binds := [("self", .ref x), ("maxsize", .int most tk), ("choice", .ref cf), ("getsizeof", .none)]) F.hinit (fun _ _ _ _ _ _ _ _ s X => BindsTo.ofT F.htinit X rfl rfl rfl) (by kernel_rfl) (by kernel_rfl) (by kernel_rfl)
    (body_init (n := n + 2) (x := x) (d := dx) (most := most) (tk := tk) (gv := .none) (cf := cf) (N := n + 1) (P := fun I => I.ds = none ∧ I.most = most) F ok (by omega) ?_ (by kernel_rfl) (by kernel_rfl) (by kernel_rfl) (by kernel_rfl))).mono ?_ fun _ _ x => x
  · refine (CallT.of (n := n) (binds := [("self", .ref x), ("maxsize", .int most tk), ("getsizeof", .none)]) F.hcinit (fun _ _ _ _ _ _ _ _ s X => BindsTo.ofT F.htcinit X rfl rfl rfl) (by kernel_rfl) (by kernel_rfl) (by kernel_rfl)
      (body_init_plain (C := C) (x := x) (d := dx) (tk := tk) ok F.gs h0 (Hp.set_self _ _ _) (by rw [Hp.set_ne _ _ hne.symm]; exact Hp.set_self _ _ _) (by kernel_rfl) (by kernel_rfl) (by kernel_rfl))).mono ?_ fun _ _ x => x
    rintro v σ' ⟨e, dd, mm', md⟩
    exact ⟨e, _, mm', ⟨rfl, rfl⟩, rfl, rfl, rfl, md⟩
  · rintro v σ' ⟨e, I, D, mm', ⟨e1, e2⟩, rfl, rfl, rfl, e3, ro, k1, k2⟩
    refine ⟨e, I, D, mm', rfl, rfl, e1, e2, e3, ro, fun b hb => ?_, fun b hb => ?_⟩
    · rcases List.mem_cons.mp hb with rfl | hb
      · exact hx
      · by_cases hbd : b = I.d
        · subst hbd; exact hdx
        · have := k1 b hb hbd
          by_cases hbx : b = I.x
          · subst hbx; exact hx
          · rw [Hp.set_ne _ _ hbx, Hp.set_ne _ _ hbd] at this; exact this
    · have h1 : b ≠ I.x := fun e => hb (by rw [e]; exact .head _)
      have h2 : b ∉ fp I D := fun e => hb (.tail _ e)
      have h3 : b ≠ I.d := fun e => h2 (by rw [e]; simp [fp, baseFp])
      rw [k2 b h2, Hp.set_ne _ _ h1, Hp.set_ne _ _ h3]
end Rr
end Mine
namespace Mine
set_option pp.deepTerms false
set_option pp.deepTerms.threshold 8
local macro_rules | `(tactic| walk_at "lk") => `(tactic| first | assumption | rfl | (simp only [mset, ofs_inj, String.reduceEq, ↓reduceIte]; first | assumption | rfl) | (simp only [mset, ofs_inj, String.reduceEq, ↓reduceIte]; done))
local macro_rules | `(tactic| walk_at "nm") => `(tactic| (refine v_local (by assumption) (by assumption) (kof (by assumption) (by kernel_rfl)) (by walk_at "lk") ?_ (by kernel_rfl)))
local macro_rules | `(tactic| walk_at "st") => `(tactic| (refine v_store (by assumption) (by assumption) (kof (by assumption) (by kernel_rfl)) fun s r => ?_))
local macro_rules | `(tactic| walk_at "v") => `(tactic| first
  | with_reducible refine wpAny_Return_some ?_
  | with_reducible refine wpAny_Return_none ?_
  | ((with_reducible refine wpAny_Compare1 (hm := ?hm) ?_); (case hm => with_unfolding_all rfl))
  | ((with_reducible refine wpAny_isTrue_Compare1 (hm := ?hm) ?_); (case hm => with_unfolding_all rfl))
  | ((with_reducible refine wpAny_Assign_Name (hs := ?hs) ?_); (case hs => rfl))
  | ((with_reducible refine wpAny_Assign_Subscript (hs := ?hs) ?_); (case hs => rfl))
  | ((with_reducible refine plainObj_wpAny_Assign_Attribute (hs := ?hs) ?_); (case hs => rfl))
  | ((with_reducible refine wpAny_Assign_two (he := ?he) (hw := ?hw) ?_); (case he => rfl); (case hw => rfl))
  | with_reducible refine assign_Attr ?_
  | with_reducible refine assign_Subs ?_
  | with_reducible refine wpAny_assign_Name ?_
  | with_reducible refine Attribute_name ?_
  | with_reducible refine Attribute_any_ ?_
  | with_reducible refine Subscript_ ?_
  | with_reducible refine wpAny_If ?_
  | with_reducible refine wpAny_BinOp ?_
  | with_reducible refine wpAny_UnaryOp ?_
  | with_reducible refine wpAny_Delete ?_
  | with_reducible refine wpAny_deleteEach_cons ?_
  | with_reducible refine wpAny_deleteEach_nil ?_
  | with_reducible refine wpAny_delete_Subscript ?_
  | with_reducible refine wpAny_AugAssign_AttributeAny ?_
  | with_reducible refine wpAny_execs_nil ?_
  | with_reducible refine wpAny_Constant_none ?_
  | with_reducible refine spliced_none ?_
  | with_reducible refine ea_none ?_
  | ((with_reducible refine ea_plain ?_ ?he); (case he => rfl))
  | ((with_reducible refine' methodCall_KW (pl := ?pl) (he := ?he) ?_); (case he => rfl))
  | walk_at "nm"
  | ((with_reducible refine spliced_more ?_ (he := ?he)); (case he => rfl)))
local macro_rules | `(tactic| walk_at "vv") => `(tactic| repeat walk_at "v")
namespace L2
variable {prog : Program} {w : World} {K : Frag} {n : Nat} {σ : Hp} {I : Info} {now : Addr} {fixd : List Addr} {O : Addr → Prop}

theorem LfuRep.set {D : Lfu.Ad} {mm : Nm} {o : Lfu.Om} {a : Addr} {x : AO} (h : Lfu.Rep I D O σ mm o) (ha : O a ∨ σ a = none) : Lfu.Rep I D O (σ.set a x) mm o := by
  obtain ⟨⟨gs, lc, hg, ho⟩, wf⟩ := h
  have hn : a ∉ Lfu.foot I D gs := fun q => by
    rcases ha with h | h
    · exact ho.no a q h
    · exact lc.lr.dom q h
  refine ⟨⟨gs, lc.frame fun b hb => Hp.set_ne _ _ fun e => hn (e ▸ hb), hg, fun b hb => ?_, ho.no⟩, wf⟩
  by_cases q : b = a
  · subst q; rw [Hp.set_self]; simp
  · rw [Hp.set_ne _ _ q]; exact ho.there b hb
theorem lfu_short {o : Lfu.Om} (wf : o.Wf I) : (Lfu.keysOf o.gs).length ≤ o.b.data.length := keys_short wf.nd fun k hk => (wf.mem k).mp hk

def clLfu (G : Cmn K I) (F : Lfu.KF K I.C) (D : Lfu.Ad) (hL : D.L = F.L) (e1 : G.F.set = F.set) (e2 : G.F.get = F.get) : Cl prog w K I Lfu.Om now fixd O where
  b := Lfu.Om.b
  T := fun _ => Lfu.th prog w F D hL O
  hb := fun _ => rfl
  good := O now
  len := 1000
  pre := (Lfu.th prog w F D hL O).rep
  weak := fun rp => rp
  prb := fun rp => (Lfu.th prog w F D hL O).rb rp
  F := G.F
  ok := G.ok
  hV := G.hV
  put := fun ω k v => ω.put I k v 1
  get := fun ω k => ω.get k
  bput := fun _ _ _ => rfl
  bget := fun _ _ => rfl
  small := fun ω => (Lfu.keysOf ω.gs).length < 100
  hsmall := fun {p σ mm ω} rp h => by
    have h1 := lfu_short rp.2
    refine ⟨by omega, fun ω₂ e => ?_⟩
    have e : Lfu.Om.pop I ω = some ω₂ := e
    have wf2 := rp.2.pop e
    have h2 := lfu_short wf2
    unfold Lfu.Om.pop at e
    obtain ⟨⟨k, gs'⟩, e1, e3⟩ := Option.map_eq_some_iff.mp e
    subst e3
    have : (adel ω.b.data k).length ≤ ω.b.data.length := List.length_filter_le _ _
    have h2 : (Lfu.keysOf gs').length ≤ (adel ω.b.data k).length := h2
    show (Lfu.keysOf gs').length < 100
    omega
  cset := F.cset
  hcset := F.hcset
  N := 8
  lv := fun _ => by show 3 + 2 ≤ 8; decide
  hset := fun {σ mm ω k tk v p fu X} rp hb hs => by
    rw [e1]
    exact Lfu.call_set (mm := mm) F hL hb (by decide) hs
  hget := fun {σ mm ω k tk v p} rp hv hl => by
    rw [e2]
    exact ((Lfu.call_get (n := 0) (tk := tk) F hL rp hv).lower (n := 8) (by decide)).mono (fun r σ' ⟨q1, q2, q3⟩ => ⟨q1, ⟨_, q2⟩, q3⟩) fun _ _ x => x
  keepO := fun g k => ⟨k.out⟩
  frame := fun g rp h _ _ => LfuRep.set rp h
  framePre := fun g rp h _ _ => LfuRep.set rp h
  tick := fun g rp _ => LfuRep.set rp (.inl g)
  full := fun _ _ _ _ => True
  hpop := fun {p σ mm ω} rp hne => by
    have hw := rp.2
    obtain ⟨e, r, he⟩ := List.exists_cons_of_ne_nil hne
    have hk := (hw.mem e.1).mpr (by
      show (aget ω.b.data e.1).isSome = true
      have he : ω.b.data = e :: r := he
      rw [he]; exact aget_head)
    obtain ⟨b, gs⟩ := ω
    cases gs with
    | nil => cases hk
    | cons g z =>
      obtain ⟨c, ks⟩ := g
      have hks : ks ≠ [] := hw.ne (c, ks) (.head _)
      cases ks with
      | nil => exact absurd rfl hks
      | cons y t => exact ⟨y, _, rfl, (hw.mem y).mp (by simp [Lfu.keysOf]), rfl, trivial⟩

def clRr (G : Cmn K I) (F : Rr.KF K I.C) (D : Rr.Ad) {N : Nat} {Ctx : Nat → Hp → Prop} {ch : Nat → List Int → Int} (Ch : ∀ p, Rr.Chooser prog w K D.cf (Rr.fp I D) (Ctx p) (ch p) N) (e1 : G.F.set = F.set) (hget : FnIs K G.F.get s_getitem .none)
    {Ctx0 : Hp → Prop} {len : Nat} (hwk : ∀ {p σ}, Ctx p σ → Ctx0 σ) (hfr0 : ∀ {σ a x}, Ctx0 σ → (O a ∨ σ a = none) → a ≠ now → a ∉ fixd → Ctx0 (σ.set a x)) (hfr : ∀ {p σ a x}, Ctx p σ → (O a ∨ σ a = none) → a ≠ now → a ∉ fixd → Ctx p (σ.set a x)) (htk : ∀ {p σ t}, Ctx0 σ → p < len → Ctx p (σ.set now (.list [.int (p : Nat) t]))) : Cl prog w K I Rr.Om now fixd O where
  b := Rr.Om.b
  T := fun p => Rr.th prog w F D (Ch p)
  hb := fun _ => rfl
  good := O now ∧ ∀ a, O a → a ∉ I.x :: Rr.fp I D
  len := len
  pre := fun σ mm o => Rr.RQ I D σ mm o.b o.ks ∧ o.Wf I ∧ Ctx0 σ
  weak := fun rp => ⟨rp.1, rp.2.1, hwk rp.2.2⟩
  prb := fun rp => rp.1.rb
  F := G.F
  ok := G.ok
  hV := G.hV
  put := fun ω k v => ω.put I k v 1
  get := fun ω _ => ω
  bput := fun _ _ _ => rfl
  bget := fun _ _ => rfl
  small := fun ω => ω.ks.length < 60
  hsmall := fun {p σ mm ω} rp h => by
    obtain ⟨kvs, _, hp⟩ := rp.1.idx
    have h1 := keys_short hp.nodup fun k hk => (rp.2.1.mem k).mp hk
    refine ⟨by omega, fun ω₂ e => ?_⟩
    have e : Rr.Om.pop I (ch p) ω = some ω₂ := e
    unfold Rr.Om.pop at e
    split at e
    · cases e
    cases e
    show (Rr.rdel ω.ks _).length < 60
    unfold Rr.rdel
    rw [List.length_dropLast]
    split
    · omega
    · rw [List.length_set]; omega
  cset := F.cset
  hcset := F.hcset
  N := N + 8
  lv := fun _ => by show N + 0 + 3 + 2 ≤ N + 8; omega
  hset := fun {σ mm ω k tk v p fu X} rp hb hs => by
    rw [e1]
    exact Rr.call_set (mm := mm) F (Ch p) hb hs
  hget := fun {σ mm ω k tk v p} rp hv _ => (call_getitem (n := 0) (tk := tk) hget G.ok rp.1.rb hv).lower (n := N + 8) (by omega) |>.mono (fun r σ' ⟨q1, q2⟩ => by
    subst q1; subst q2
    exact ⟨rfl, ⟨_, rp⟩, .refl _ _⟩) fun _ _ x => x
  keepO := fun g k => ⟨fun a x ha e => k a x (fun q => g.2 a ha (.tail _ q)) e⟩
  frame := fun g rp h h2 h3 => by
    have hn := not_fp g.2 (fun t ht => rp.1.dom ht) h
    exact ⟨rp.1.frame fun b hb => Hp.set_ne _ _ fun e => hn (e ▸ hb), rp.2.1, hfr rp.2.2 h h2 h3⟩
  framePre := fun g rp h h2 h3 => by
    have hn := not_fp g.2 (fun t ht => rp.1.dom ht) h
    exact ⟨rp.1.frame fun b hb => Hp.set_ne _ _ fun e => hn (e ▸ hb), rp.2.1, hfr0 rp.2.2 h h2 h3⟩
  tick := fun g rp hp => by
    have hn := g.2 _ g.1
    exact ⟨rp.1.frame fun b hb => Hp.set_ne _ _ fun e => hn (e ▸ hb), rp.2.1, htk rp.2.2 hp⟩
  full := fun p ω y _ => y = ch p ω.ks ∧ ∀ k, k ∈ ω.ks ↔ (aget ω.b.data k).isSome = true
  hpop := fun {p σ mm ω} rp hne => by
    have hw := rp.2.1
    obtain ⟨e, r, he⟩ := List.exists_cons_of_ne_nil hne
    have hk := (hw.mem e.1).mpr (by
      show (aget ω.b.data e.1).isSome = true
      have he : ω.b.data = e :: r := he
      rw [he]; exact aget_head)
    have hks : ω.ks ≠ [] := List.ne_nil_of_mem hk
    refine ⟨ch p ω.ks, ⟨ω.b.del I (ch p ω.ks), Rr.rdel ω.ks (ch p ω.ks)⟩, ?_, (hw.mem _).mp ((Ch p).mem hks), rfl, rfl, hw.mem⟩
    show Rr.Om.pop I (ch p) ω = _
    unfold Rr.Om.pop
    rw [if_neg hks]
end L2
end Mine
namespace Mine
namespace L2
def stOf (h : List (Int × Value)) : P2.St := fun x => (aget h x).isSome
theorem stOf_snoc {h : List (Int × Value)} {k : Int} {v : Value} (hk : aget h k = none) : stOf (h ++ [(k, v)]) = P2.add (stOf h) k := by
  funext x
  unfold stOf
  rw [P2.add_apply, aget_snoc _ _ _ _ hk]
  by_cases q : x = k
  · simp [q]
  · simp [q]
theorem stOf_adel {h : List (Int × Value)} {y : Int} : stOf (adel h y) = P2.rem (stOf h) y := by
  funext x
  unfold stOf
  rw [P2.rem_apply, aget_adel]
  by_cases q : x = y
  · simp [q]
  · simp [q]
theorem snoc_nd {h : List (Int × Value)} {k : Int} {v : Value} (hn : (h.map (·.1)).Nodup) (hk : aget h k = none) : ((h ++ [(k, v)]).map (·.1)).Nodup := by
  rw [List.map_append, List.nodup_append]
  refine ⟨hn, by simp, fun x hx y hy => ?_⟩
  simp at hy; subst hy
  rintro rfl
  exact aget_none_mem hk hx
theorem adel_nd {h : List (Int × Value)} {y : Int} (hn : (h.map (·.1)).Nodup) : ((adel h y).map (·.1)).Nodup := hn.sublist ((List.filter_sublist).map _)
theorem adel_none {h : List (Int × Value)} {k y : Int} (hk : aget h k = none) : aget (adel h y) k = none := by rw [aget_adel]; split; rfl; exact hk

theorem serves_run {Ω : Type} {P : Pol Ω} {room : Nat} : ∀ (ws : List Int) {p : Nat} {ω : Ω} {m : Nat}, ((P.held ω).map (·.1)).Nodup → Serves P room ws p ω m → P2.Run room ws (P.held ω).length (stOf (P.held ω)) m
  | [], _, _, _, _, h => h
  | w :: ws, p, ω, m, hn, h => by
    rw [Serves] at h
    by_cases hS : (aget (P.held ω) w).isSome = true
    · rw [if_pos hS] at h
      obtain ⟨ω', h1, h2, h3⟩ := h
      have := serves_run ws (by rw [h1]; exact hn) h3
      rw [h1] at this
      exact (P2.Run.hit hS).mpr this
    · rw [if_neg hS] at h
      obtain ⟨m', t, rfl, h⟩ := h
      have hS' : stOf (P.held ω) w = false := by simpa [stOf] using hS
      have hk : aget (P.held ω) w = none := by simpa using hS
      by_cases hl : (P.held ω).length < room
      · rw [if_pos hl] at h
        obtain ⟨ω', h1, h2, h3⟩ := h
        have := serves_run ws (by rw [h1]; exact snoc_nd hn hk) h3
        rw [h1, stOf_snoc hk] at this
        exact (P2.Run.cold hS' hl).mpr ⟨m', rfl, by simpa using this⟩
      · rw [if_neg hl] at h
        obtain ⟨ω', y, hy, h1, h2, h3⟩ := h
        have hlen := adel_len_nd hn hy
        have := serves_run ws (by rw [h1]; exact snoc_nd (adel_nd hn) (adel_none hk)) h3
        rw [h1, stOf_snoc (adel_none hk), stOf_adel] at this
        refine (P2.Run.full hS' hl).mpr ⟨m', rfl, y, hy, ?_⟩
        rw [List.length_append, List.length_singleton, hlen] at this
        exact this

structure Ord {Ω : Type} (P : Pol Ω) (ks : Ω → List Int) (ω : Ω) : Prop where
  nd : (ks ω).Nodup
  mem : ∀ k, k ∈ ks ω ↔ (aget (P.held ω) k).isSome = true
  ndh : ((P.held ω).map (·.1)).Nodup
theorem Ord.len {Ω : Type} {P : Pol Ω} {ks : Ω → List Int} {ω : Ω} (h : Ord P ks ω) : (ks ω).length = (P.held ω).length := by
  have h1 := keys_short h.nd fun k hk => (h.mem k).mp hk
  have h2 := P2.sub_len ((P.held ω).map (·.1)) (ks ω) h.ndh fun k hk => (h.mem k).mpr (by
    obtain ⟨e, he, rfl⟩ := List.mem_map.mp hk
    unfold aget
    rw [Option.isSome_map, List.find?_isSome]
    exact ⟨e, he, by simp⟩)
  rw [List.length_map] at h2
  omega
theorem serves_ord {Ω : Type} {P : Pol Ω} {room : Nat} {ks : Ω → List Int} {touch : Bool} (hr : 1 ≤ room)
    (hhit : ∀ {ω p k ω'}, P.held ω' = P.held ω → P.hit (P.at_ ω p) k ω' → ks ω' = if touch then (ks ω).filter (· ≠ k) ++ [k] else ks ω)
    (hcold : ∀ {ω p k ω'}, Ord P ks ω → aget (P.held ω) k = none → P.cold (P.at_ ω p) k ω' → ks ω' = ks ω ++ [k])
    (hfull : ∀ {ω p k y ω'}, Ord P ks ω → aget (P.held ω) k = none → P.full (P.at_ ω p) k y ω' → ∃ r, ks ω = y :: r ∧ ks ω' = r ++ [k]) :
    ∀ (ws : List Int) {p : Nat} {ω : Ω} {m : Nat}, Ord P ks ω → (P.held ω).length ≤ room → Serves P room ws p ω m → m = P2.ordRun touch room ws (ks ω)
  | [], _, _, _, _, _, h => h
  | w :: ws, p, ω, m, o, hle, h => by
    have hlen := o.len
    rw [Serves] at h
    rw [P2.ordRun]
    by_cases hS : (aget (P.held ω) w).isSome = true
    · rw [if_pos hS] at h
      rw [if_pos ((o.mem w).mpr hS)]
      obtain ⟨ω', h1, h2, h3⟩ := h
      have e := hhit h1 h2
      have o' : Ord P ks ω' := by
        cases touch with
        | false => exact ⟨by rw [e]; exact o.nd, fun k => by rw [e, h1]; exact o.mem k, by rw [h1]; exact o.ndh⟩
        | true =>
          have e : ks ω' = (ks ω).filter (· ≠ w) ++ [w] := e
          refine ⟨by rw [e]; exact nodup_push o.nd, fun k => ?_, by rw [h1]; exact o.ndh⟩
          rw [e, h1, ← o.mem]
          simp only [List.mem_append, List.mem_filter, List.mem_singleton, decide_eq_true_eq]
          have hw := (o.mem w).mpr hS
          by_cases hx : k = w <;> simp [hx, hw]
      rw [serves_ord hr hhit hcold hfull ws o' (by rw [h1]; exact hle) h3, e]
    · rw [if_neg hS] at h
      rw [if_neg (fun q => hS ((o.mem w).mp q))]
      obtain ⟨m', t, rfl, h⟩ := h
      have hk : aget (P.held ω) w = none := by simpa using hS
      by_cases hl : (P.held ω).length < room
      · rw [if_pos hl] at h
        rw [if_pos (by omega)]
        obtain ⟨ω', h1, h2, h3⟩ := h
        have e := hcold o hk h2
        have o' : Ord P ks ω' := ⟨by
          rw [e, List.nodup_append]
          refine ⟨o.nd, by simp, fun x hx y hy => ?_⟩
          simp at hy; subst hy
          rintro rfl
          exact hS ((o.mem x).mp hx), fun k => by
          rw [e, h1, aget_snoc _ _ _ _ hk, List.mem_append, o.mem, List.mem_singleton]
          by_cases q : k = w <;> simp [q], by rw [h1]; exact snoc_nd o.ndh hk⟩
        rw [serves_ord hr hhit hcold hfull ws o' (by rw [h1]; simp; omega) h3, e]
        omega
      · rw [if_neg hl] at h
        rw [if_neg (by omega)]
        obtain ⟨ω', y, hy, h1, h2, h3⟩ := h
        obtain ⟨r, e0, e⟩ := hfull o hk h2
        have hnd := o.nd
        rw [e0] at hnd
        obtain ⟨n1, n2⟩ := List.nodup_cons.mp hnd
        have hal := adel_len_nd o.ndh hy
        have hmem : ∀ k, k ∈ r ↔ (aget (adel (P.held ω) y) k).isSome = true := fun k => by
          rw [aget_adel]
          have := o.mem k
          rw [e0, List.mem_cons] at this
          by_cases q : k = y
          · subst q; simp [n1]
          · rw [if_neg q, ← this]; simp [q]
        have o' : Ord P ks ω' := by
          refine ⟨?_, fun k => ?_, by rw [h1]; exact snoc_nd (adel_nd o.ndh) (adel_none hk)⟩
          · rw [e, List.nodup_append]
            refine ⟨n2, by simp, fun x hx z hz => ?_⟩
            simp at hz; subst hz
            rintro rfl
            have := (hmem x).mp hx
            rw [adel_none hk] at this; cases this
          · rw [e, h1, aget_snoc _ _ _ _ (adel_none hk), List.mem_append, hmem, List.mem_singleton]
            by_cases q : k = w <;> simp [q]
        rw [serves_ord hr hhit hcold hfull ws o' (by rw [h1]; simp; omega) h3, e, e0]
        show _ = 1 + P2.ordRun touch room ws (r ++ [w])
        omega

theorem serves_far {Ω : Type} {P : Pol Ω} {room : Nat} {wants : List Int}
    (hfull : ∀ {ω p k y ω'}, P.full (P.at_ ω p) k y ω' → ∀ x, (aget (P.held ω) x).isSome = true → P2.nxt (wants.drop (p + 1)) x ≤ P2.nxt (wants.drop (p + 1)) y) :
    ∀ (ws : List Int) {p : Nat} {ω : Ω} {m : Nat}, wants.drop p = ws → ((P.held ω).map (·.1)).Nodup → Serves P room ws p ω m → P2.Far room ws (P.held ω).length (stOf (P.held ω)) m
  | [], _, _, _, _, _, h => h
  | w :: ws, p, ω, m, hd, hn, h => by
    have hd' : wants.drop (p + 1) = ws := by rw [← List.tail_drop, hd]; rfl
    rw [Serves] at h
    rw [P2.Far]
    by_cases hS : (aget (P.held ω) w).isSome = true
    · rw [if_pos hS] at h
      rw [if_pos (show stOf (P.held ω) w = true from hS)]
      obtain ⟨ω', h1, h2, h3⟩ := h
      have := serves_far hfull ws hd' (by rw [h1]; exact hn) h3
      rw [h1] at this
      exact this
    · rw [if_neg hS] at h
      rw [if_neg (show ¬ stOf (P.held ω) w = true from hS)]
      obtain ⟨m', t, rfl, h⟩ := h
      have hk : aget (P.held ω) w = none := by simpa using hS
      refine ⟨m', rfl, ?_⟩
      by_cases hl : (P.held ω).length < room
      · rw [if_pos hl] at h
        rw [if_pos hl]
        obtain ⟨ω', h1, h2, h3⟩ := h
        have := serves_far hfull ws hd' (by rw [h1]; exact snoc_nd hn hk) h3
        rw [h1, stOf_snoc hk] at this
        simpa using this
      · rw [if_neg hl] at h
        rw [if_neg hl]
        obtain ⟨ω', y, hy, h1, h2, h3⟩ := h
        have hlen := adel_len_nd hn hy
        have := serves_far hfull ws hd' (by rw [h1]; exact snoc_nd (adel_nd hn) (adel_none hk)) h3
        rw [h1, stOf_snoc (adel_none hk), stOf_adel] at this
        refine ⟨y, hy, fun x hx => by rw [← hd']; exact hfull h2 x hx, ?_⟩
        rw [List.length_append, List.length_singleton, hlen] at this
        exact this
end L2
end Mine
namespace Mine
namespace L2
theorem stOf_nil : stOf [] = P2.none := by funext x; rfl
theorem mem_nil : P2.mem [] = P2.none := by funext x; simp [P2.mem, P2.none]

structure Verdict (room : Nat) (ws : List Int) (least : Int) (f a b c d e : Nat) : Prop where
  best : (f : Int) = least
  alike : c = a
  na : least ≤ a
  nb : least ≤ b
  nd : least ≤ d
  ne : least ≤ e
  few : P2.newCount [] ws ≤ room → a = P2.newCount [] ws ∧ b = P2.newCount [] ws ∧ d = P2.newCount [] ws ∧ e = P2.newCount [] ws
  many : ¬ P2.newCount [] ws ≤ room → (a : Int) ≤ room * (least - room + 1) ∧ (b : Int) ≤ room * (least - room + 1)

theorem verdict {room : Nat} {ws : List Int} {least : Int} {f a b c d e : Nat} (hr : 1 ≤ room) (hw : ∀ w ∈ ws, 0 ≤ w ∧ w < 5) (hl : ws.length < 90)
    (h1 : ∃ p ∈ P2.table room ws, p.2 = least) (h2 : ∀ p ∈ P2.table room ws, least ≤ p.2)
    (hf : P2.Far room ws 0 P2.none f) (ha : a = P2.ordRun false room ws []) (hb : b = P2.ordRun true room ws []) (hc : c = P2.ordRun false room ws []) (hd : P2.Run room ws 0 P2.none d) (he : P2.Run room ws 0 P2.none e) : Verdict room ws least f a b c d e := by
  obtain ⟨t0, t1, t2⟩ := P2.table_least hw h1 h2
  have ra : P2.Run room ws 0 P2.none a := by
    have := P2.ord_run (touch := false) hr ws (L := []) (by simp) (by simp)
    rw [mem_nil, ← ha] at this; exact this
  have rb : P2.Run room ws 0 P2.none b := by
    have := P2.ord_run (touch := true) hr ws (L := []) (by simp) (by simp)
    rw [mem_nil, ← hb] at this; exact this
  have f1 := P2.far_best ws hl hf t1
  have f2 := t2 f (P2.far_run ws hf)
  have n1 := t2 a ra
  have n2 := t2 b rb
  have n3 := t2 d hd
  have n4 := t2 e he
  have few : ∀ {m}, P2.Run room ws 0 P2.none m → P2.newCount [] ws ≤ room → m = P2.newCount [] ws := fun {m} h q => P2.run_few ws (seen := []) (by rw [mem_nil]; exact h) (by simpa using q)
  refine ⟨by omega, by rw [ha, hc], by omega, by omega, by omega, by omega, fun q => ⟨few ra q, few rb q, few hd q, few he q⟩, fun q => ?_⟩
  have hge := P2.run_ge ws (seen := []) t1 fun x hx => (by cases hx)
  have key : ∀ touch, (P2.ordRun touch room ws [] : Int) ≤ room * (least - room + 1) := fun touch => by
    have := P2.ord_cold (touch := touch) hr ws (L := []) (m := least.toNat) (by simp) (by simp) (by rw [mem_nil]; exact t1) (by simp; omega)
    simp only [List.length_nil, Nat.sub_zero] at this
    have e1 : ((least.toNat - room : Nat) : Int) = least - room := by omega
    have h3 : (P2.ordRun touch room ws [] : Int) ≤ ((room + room * (least.toNat - room) : Nat) : Int) := by exact_mod_cast this
    rw [Int.natCast_add, Int.natCast_mul, e1] at h3
    rw [Int.mul_add, Int.mul_one]
    omega
  exact ⟨by rw [ha]; exact key false, by rw [hb]; exact key true⟩
end L2
end Mine
namespace Mine
set_option pp.deepTerms false
set_option pp.deepTerms.threshold 8
local macro_rules | `(tactic| walk_at "lk") => `(tactic| first | assumption | rfl | (simp only [mset, ofs_inj, String.reduceEq, ↓reduceIte]; first | assumption | rfl) | (simp only [mset, ofs_inj, String.reduceEq, ↓reduceIte]; done))
local macro_rules | `(tactic| walk_at "nm") => `(tactic| (refine v_local (by assumption) (by assumption) (kof (by assumption) (by kernel_rfl)) (by walk_at "lk") ?_ (by kernel_rfl)))
local macro_rules | `(tactic| walk_at "st") => `(tactic| (refine v_store (by assumption) (by assumption) (kof (by assumption) (by kernel_rfl)) fun s r => ?_))
local macro_rules | `(tactic| walk_at "v") => `(tactic| first
  | with_reducible refine wpAny_Return_some ?_
  | with_reducible refine wpAny_Return_none ?_
  | ((with_reducible refine wpAny_Compare1 (hm := ?hm) ?_); (case hm => with_unfolding_all rfl))
  | ((with_reducible refine wpAny_isTrue_Compare1 (hm := ?hm) ?_); (case hm => with_unfolding_all rfl))
  | ((with_reducible refine wpAny_Assign_Name (hs := ?hs) ?_); (case hs => rfl))
  | ((with_reducible refine wpAny_Assign_Subscript (hs := ?hs) ?_); (case hs => rfl))
  | ((with_reducible refine plainObj_wpAny_Assign_Attribute (hs := ?hs) ?_); (case hs => rfl))
  | ((with_reducible refine wpAny_Assign_two (he := ?he) (hw := ?hw) ?_); (case he => rfl); (case hw => rfl))
  | with_reducible refine assign_Attr ?_
  | with_reducible refine assign_Subs ?_
  | with_reducible refine wpAny_assign_Name ?_
  | with_reducible refine Attribute_name ?_
  | with_reducible refine Attribute_any_ ?_
  | with_reducible refine Subscript_ ?_
  | with_reducible refine wpAny_If ?_
  | with_reducible refine wpAny_BinOp ?_
  | with_reducible refine wpAny_UnaryOp ?_
  | with_reducible refine wpAny_Delete ?_
  | with_reducible refine wpAny_deleteEach_cons ?_
  | with_reducible refine wpAny_deleteEach_nil ?_
  | with_reducible refine wpAny_delete_Subscript ?_
  | with_reducible refine wpAny_AugAssign_AttributeAny ?_
  | with_reducible refine wpAny_execs_nil ?_
  | with_reducible refine wpAny_Constant_none ?_
  | with_reducible refine spliced_none ?_
  | with_reducible refine ea_none ?_
  | ((with_reducible refine ea_plain ?_ ?he); (case he => rfl))
  | ((with_reducible refine' methodCall_KW (pl := ?pl) (he := ?he) ?_); (case he => rfl))
  | walk_at "nm"
  | ((with_reducible refine spliced_more ?_ (he := ?he)); (case he => rfl)))
local macro_rules | `(tactic| walk_at "vv") => `(tactic| repeat walk_at "v")
namespace L2
variable {prog : Program} {w : World} {K : Frag} {H : Option Value} {n : Nat} {σ : Hp}
def s_drawn : Stmt := stmtAt (fnBody s_law) 4
def s_further : Stmt := stmtAt (fnBody s_law) 5
def qd : Str := "law.<locals>.drawn"
def qf : Str := "law.<locals>.furthest"

def chDrawn (draws : List Int) (p : Nat) (ks : List Int) : Int :=
  (ks.mergeSort (fun a b => decide (a ≤ b))).getD ((draws.getD p 0) % (ks.length : Int)).toNat 0
theorem sorted_eq {ks ns : List Int} (h1 : ns.Perm ks) (h2 : ns.Pairwise (· ≤ ·)) : ns = ks.mergeSort (fun a b => decide (a ≤ b)) := by
  have h3 : (ks.mergeSort (fun a b => decide (a ≤ b))).Pairwise (fun a b => decide (a ≤ b) = true) := List.pairwise_mergeSort (fun a b c h h' => by simp at *; omega) (fun a b => by simp; omega) ks
  refine List.Perm.eq_of_pairwise (le := fun a b : Int => a ≤ b) (fun a b _ _ h h' => by omega) h2 (h3.imp fun h => by simpa using h) (h1.trans (List.mergeSort_perm ks _).symm)
theorem drawn_mem {draws : List Int} {p : Nat} {ks : List Int} (h : ks ≠ []) : chDrawn draws p ks ∈ ks := by
  have hl : 0 < ks.length := List.length_pos_iff.mpr h
  have hp := List.mergeSort_perm ks (fun a b => decide (a ≤ b))
  have h1 : ((draws.getD p 0) % (ks.length : Int)).toNat < (ks.mergeSort (fun a b => decide (a ≤ b))).length := by
    rw [hp.length_eq]
    have h2 := Int.emod_lt_of_pos (draws.getD p 0) (show (0 : Int) < ks.length by omega)
    have h3 := Int.emod_nonneg (draws.getD p 0) (show (ks.length : Int) ≠ 0 by omega)
    omega
  unfold chDrawn
  rw [List.getD_eq_getElem?_getD, List.getElem?_eq_getElem h1, Option.getD_some]
  exact hp.mem_iff.mp (List.getElem_mem h1)

structure Made2 (σ : Hp) (fd cd' ff cf' cd cn cw ld lw now : Addr) (draws wants : List Int) : Prop where
  fd : σ fd = some (.pred (FnObj "drawn" qd (fnPar s_drawn) (fnBody s_drawn) (fnScope s_drawn) [("now", cn), ("draws", cd)] cd'))
  cd' : σ cd' = some (.pred (CodeObj qd))
  ff : σ ff = some (.pred (FnObj "furthest" qf (fnPar s_further) (fnBody s_further) (fnScope s_further) [("wants", cw), ("now", cn)] cf'))
  cf' : σ cf' = some (.pred (CodeObj qf))
  cd : σ cd = some (.cell (some (.ref ld)))
  cn : σ cn = some (.cell (some (.ref now)))
  cw : σ cw = some (.cell (some (.ref lw)))
  ld : ∃ vs, σ ld = some (.list vs) ∧ IntsAre vs draws
  lw : ∃ vs, σ lw = some (.list vs) ∧ IntsAre vs wants

theorem call_drawn {fd cd' ff cf' cd cn cw ld lw now : Addr} {draws wants : List Int} (hS : nsIn K mainGlobals "sorted" = some none) (hL : nsIn K mainGlobals "len" = some none) (M : Made2 σ fd cd' ff cf' cd cn cw ld lw now draws wants) {p : Nat} {tp : Tok} (hnow : σ now = some (.list [.int p tp]))
    (hp : p < draws.length) (hd : draws.length ≤ 100) {lk : Addr} {vs : List Value} {ks : List Int} (hlk : σ lk = some (.list vs)) (hi : IntsAre vs ks) (hne : ks ≠ []) (hks : ks.length ≤ 60) {X : String → Hp → Prop} :
    CallT prog w K none (n + 1) (.ref fd) ⟨[.ref lk], []⟩ σ (fun r σ' => (∃ tk, r = .int (chDrawn draws p ks) tk) ∧ ∀ a x, σ a = some x → σ' a = some x) X := by
  refine CallT.closure (binds := [("held", .ref lk)]) M.fd M.cd' (fun _ _ _ _ => BindsTo.of_eq rfl) (fun x hx => by simp only [List.mem_cons, List.not_mem_nil, or_false] at hx; subst hx; rfl) (by kernel_rfl) (by kernel_rfl) (by kernel_rfl) (by decide +kernel) fun L hLf => ?_
  intro A base os env fs s he a r
  have hsc : env.scope = fnScope s_drawn := by subst he; rfl
  have hcl : env.cells = [(("now" : Str), cn), (("draws" : Str), cd)] := by subst he; rfl
  clear he
  have hσ : cellHp (fun _ => none) (cellsFrom (L + 1) (fnScope s_drawn).names []) σ = σ := rfl
  rw [hσ] at r
  have fk := a.head.2.1
  have h1 : (fun y => [(("held" : Str), Value.ref lk)].reverse.lookup y) "held" = some (.ref lk) := by kernel_rfl
  obtain ⟨vd, hvd, hid⟩ := M.ld
  refine wpAny_execs_cons ?_
  walk_at "v"
  refine wpAny_Call_ofName ?_
  refine v_builtin a r (kof hsc (by kernel_rfl)) hS (v := .builtin "sorted") (by kernel_rfl) (by decide +kernel) ?_ (by kernel_rfl)
  refine v_callB rfl ?_
  walk_at "vv"
  refine v_sorted r hlk hi (by omega) fun d vs' ns' s hdn hi' hperm hpw r => ?_
  walk_at "st"; rename_i s r
  have ext : ∀ {b : Addr} {x : AO}, σ b = some x → (σ.set d (.list vs')) b = some x := fun {b x} e => by rw [Hp.set_ne _ _ (fun q => by rw [q, hdn] at e; cases e)]; exact e
  refine wpAny_execs_cons ?_
  walk_at "vv"
  refine v_free fk r (kof hsc (by kernel_rfl)) (by rw [hcl]; rfl) (ext M.cd) ?_ (by kernel_rfl) (by kernel_rfl)
  walk_at "vv"
  refine v_free fk r (kof hsc (by kernel_rfl)) (by rw [hcl]; rfl) (ext M.cn) ?_ (by kernel_rfl) (by kernel_rfl)
  refine v_int r fun s t1 r => ?_
  refine v_litem (k := 0) r (ext hnow) (by simp) rfl ?_ (by with_unfolding_all rfl)
  obtain ⟨tq, htq⟩ := hid.get p draws[p] (by simp [hp])
  have hvlen := hid.length
  refine v_litem r (ext hvd) (by omega) htq ?_ (by with_unfolding_all rfl)
  refine wpAny_Call_ofName ?_
  refine v_builtin a r (kof hsc (by kernel_rfl)) hL (v := .builtin "len") (by kernel_rfl) (by decide +kernel) ?_ (by kernel_rfl)
  refine v_callB rfl ?_
  walk_at "vv"
  have hlen' := hi'.length
  have hpl := hperm.length_eq
  have hpos : 0 < ks.length := List.length_pos_iff.mpr hne
  refine v_llen r (Hp.set_self _ _ _) (by omega) fun s t2 r => ?_
  refine v_mod r (by omega) fun s t3 r => ?_
  have h2 := Int.emod_lt_of_pos draws[p] (show (0 : Int) < vs'.length by omega)
  have h3 := Int.emod_nonneg draws[p] (show (vs'.length : Int) ≠ 0 by omega)
  obtain ⟨k, hk⟩ := Int.eq_ofNat_of_zero_le h3
  rw [hk]
  have hkl : k < ns'.length := by omega
  obtain ⟨tk, htk⟩ := hi'.get k ns'[k] (by simp [hkl])
  refine v_litem r (Hp.set_self _ _ _) (by omega) htk ?_ (by with_unfolding_all rfl)
  refine ⟨_, _, r, ⟨tk, ?_⟩, fun b x e => ext e⟩
  have e1 : chDrawn draws p ks = ns'[k] := by
    unfold chDrawn
    rw [← sorted_eq hperm hpw]
    have e2 : (draws.getD p 0 % (ks.length : Int)).toNat = k := by
      rw [List.getD_eq_getElem?_getD, List.getElem?_eq_getElem hp, Option.getD_some]
      have : (ks.length : Int) = vs'.length := by omega
      rw [this, hk]; rfl
    rw [e2, List.getD_eq_getElem?_getD, List.getElem?_eq_getElem hkl, Option.getD_some]
  rw [e1]
end L2
end Mine
namespace Mine
section
variable {prog : Program} {w : World} {K : Frag} {H : Option Value} {n : Nat} {A : Around} {base : Heap} {env : Env} {os : OsState} {fs : List (Env × Nm)} {m : Nm} {σ : Hp} {s : Shared}
  {E : Value → Shared → Prop}
def TupKeep (σ σ' : Hp) : Prop := ∀ a xs, σ a = some (.tup xs) → σ' a = some (.tup xs)
theorem TupKeep.trans {σ₁ σ₂ σ₃ : Hp} (x : TupKeep σ₁ σ₂) (y : TupKeep σ₂ σ₃) : TupKeep σ₁ σ₃ := fun a xs e => y a xs (x a xs e)
theorem TupKeep.set {σ : Hp} {a : Addr} {x : AO} (h : ∀ xs, σ a ≠ some (.tup xs)) : TupKeep σ (σ.set a x) := fun b xs e => by rw [Hp.set_ne _ _ (fun q => h xs (by rw [← q]; exact e))]; exact e
theorem TupKeep.ext {σ σ' : Hp} (h : ∀ a, σ a ≠ none → σ' a = σ a) : TupKeep σ σ' := fun a xs e => by rw [h a (by rw [e]; simp)]; exact e

structure TupGoal (prog : Program) (w : World) (A : Around) (base : Heap) (os : OsState) (env : Env) (fs : List (Env × Nm)) (elt : Expr) (x : Str) (px : Pos) (ifs : List Expr) (scope : Scope) (cl : List (Str × Addr))
    (it : Value) (s : Shared) (m : Nm) (σ : Hp) (I : Addr) (len : Nat) (S : Src prog w (.Name x px) I len) (Pf : Nat → List Value → Hp → Prop) : Prop where
  isIt : it = .ref I
  short : len ≤ 1000
  r : R prog w base os ((env, m) :: fs) σ s
  at0 : S.At 0 σ
  p0 : ∀ σ', Pf 0 [] σ'
  mono : ∀ {i ys σ σ'}, Pf i ys σ → TupKeep σ σ' → Pf i ys σ'
  tdep : ∀ {i σ a xs}, S.At i σ → a ∈ S.dep → σ a ≠ some (.tup xs)
  turn : ∀ C i ys σ₁ σ₁' σ₂ v cm s, i < len → Pf i ys σ₂ → S.At i σ₁ → S.Step i v σ₁ σ₁' → S.At (i + 1) σ₂ → (∀ a, a ∉ S.dep → σ a ≠ none → σ₂ a = σ a) → σ C = none → σ₂ C = some (.loc cm) → cm x = some v → R prog w base os ((env, m) :: fs) σ₂ s →
      wpAny (model prog w) A (compIfs ifs (compEnvC scope cl C env)) (fun ok s₃ =>
        if ok = true then wpAny (model prog w) A (eval elt (compEnvC scope cl C env)) (fun y s₄ => ∃ σ', R prog w base os ((env, m) :: fs) σ' s₄ ∧ (∀ a, σ₂ a ≠ none → σ' a = σ₂ a) ∧ Pf (i + 1) (ys ++ [y]) σ') (fun _ _ => False) s₃
        else ∃ σ', R prog w base os ((env, m) :: fs) σ' s₃ ∧ (∀ a, σ₂ a ≠ none → σ' a = σ₂ a) ∧ Pf (i + 1) ys σ') (fun _ _ => False) s

theorem TupGoal.goal {elt : Expr} {x : Str} {px : Pos} {ifs : List Expr} {scope : Scope} {cl : List (Str × Addr)} {it : Value} {I : Addr} {len : Nat} {S : Src prog w (.Name x px) I len} {Pf : Nat → List Value → Hp → Prop}
    (a : Act K H n A base (env :: fs.map (·.1))) (hkind : scope.kind = .function) (hx : scope.names.lookup x = some .local) (G : TupGoal prog w A base os env fs elt x px ifs scope cl it s m σ I len S Pf) :
    CompGoal prog w A base os env fs elt (.Name x px) ifs scope cl it s m σ I len S (fun i ys σ' => Pf i ys σ' ∧ ∀ a, a ∉ S.dep → σ a ≠ none → σ' a = σ a) where
  isIt := G.isIt
  short := G.short
  r := G.r
  at0 := G.at0
  j0 := fun σ' h => ⟨G.p0 _, fun b _ hb => by
    cases e : σ b with
    | none => exact absurd e hb
    | some y => exact h b y e⟩
  turn := fun D C i ys σ₁ σ₂ v cm s hi hD hC hDC ⟨hP, hk⟩ hA hst hA' hD₂ hC₂ hl r => by
    have ce := comp_env (cl := cl) (C := C) a hkind
    have hCdep : C ∉ S.dep := fun q => S.there G.at0 C q hC
    have hDdep : D ∉ S.dep := fun q => S.there G.at0 D q hD
    have out := S.stepOut hA hst
    have tk : TupKeep σ₁ σ₂ := fun b xs e => by
      have : b ∉ S.dep := fun q => G.tdep hA q e
      rw [out b this (by rw [e]; simp)]; exact e
    have tk2 : TupKeep σ₂ (σ₂.set C (.loc (mset cm x v))) := .set fun xs q => by rw [hC₂] at q; cases q
    refine wpAny_assign_Name (c_store ce r (by show (relabel scope env).names.lookup x = _; exact lookup_relabel_local hx) hC₂ fun s₁ r₁ => ?_)
    have hA₂ : S.At (i + 1) (σ₂.set C (.loc (mset cm x v))) := S.frame hA' fun b hb => Hp.set_ne _ _ fun e => hCdep (e ▸ hb)
    have hk₂ : ∀ b, b ∉ S.dep → σ b ≠ none → (σ₂.set C (.loc (mset cm x v))) b = σ b := fun b h1 h2 => by
      rw [Hp.set_ne _ _ (fun e => h2 (by rw [e]; exact hC))]
      rw [out b h1 (by rw [hk b h1 h2]; exact h2)]; exact hk b h1 h2
    refine wpAny_mono (G.turn C i ys σ₁ σ₂ _ v _ s₁ hi (G.mono hP (tk.trans tk2)) hA hst hA₂ hk₂ hC (Hp.set_self _ _ _) (if_pos rfl) r₁) (fun ok s₃ h₃ => ?_) fun _ _ e => e
    have keep : ∀ {σ' : Hp}, (∀ a, (σ₂.set C (.loc (mset cm x v))) a ≠ none → σ' a = (σ₂.set C (.loc (mset cm x v))) a) →
        σ' D = some (.list ys) ∧ σ' C = some (.loc (mset cm x v)) ∧ S.At (i + 1) σ' ∧ ∀ b, b ∉ S.dep → σ b ≠ none → σ' b = σ b := fun {σ'} h => by
      refine ⟨?_, ?_, S.frame hA₂ fun b hb => h b (S.there hA₂ b hb), fun b h1 h2 => ?_⟩
      · rw [h D (by rw [Hp.set_ne _ _ hDC, hD₂]; simp), Hp.set_ne _ _ hDC]; exact hD₂
      · rw [h C (by rw [Hp.set_self]; simp)]; exact Hp.set_self _ _ _
      · rw [h b (by rw [hk₂ b h1 h2]; exact h2)]; exact hk₂ b h1 h2
    cases ok with
    | true =>
      simp only [if_true] at h₃ ⊢
      refine wpAny_mono h₃ (fun y s₄ ⟨σ', q1, q2, q3⟩ => ?_) fun _ _ e => e
      obtain ⟨k1, k2, k3, k4⟩ := keep q2
      exact ⟨σ', _, q1, k1, k2, k3, G.mono q3 (.set fun xs q => by rw [k1] at q; cases q), fun b h1 h2 => by rw [Hp.set_ne _ _ (fun e => h2 (by rw [e]; exact hD))]; exact k4 b h1 h2⟩
    | false =>
      simp only [Bool.false_eq_true, if_false] at h₃ ⊢
      obtain ⟨σ', q1, q2, q3⟩ := h₃
      obtain ⟨k1, k2, k3, k4⟩ := keep q2
      exact ⟨σ', _, q1, k1, k2, k3, q3, k4⟩

theorem v_comp2 {elt target iter : Expr} {ifs : List Expr} {scope : Scope} {cl : List (Str × Addr)} {pos : Pos} {Q : Value → Shared → Prop}
    (hh : A.handled = none) (hclos : closureFor scope env = pure cl) (hsc : (scope.names.all fun y => y.2 != .cell) = true) (hkind : scope.kind = .function) (hnames : (scope.names.all fun y => y.2 != .local || scope.names.lookup y.1 == some .local) = true)
    (hs : ∀ x, foldedSetIterable iter env x = pure x)
    (h : wpAny (model prog w) A (eval iter env) (fun x s₁ => wpAny (model prog w) A (pyIter x) (fun it s₂ => ∃ m σ I len S J, CompGoal prog w A base os env fs elt target ifs scope cl it s₂ m σ I len S J ∧
      ∀ D C ys σ₁ s, σ D = none → σ C = none → D ∉ C :: S.gone → J len ys σ₁ → S.At len σ₁ → σ₁ D = some (.list ys) → (∃ cm, σ₁ C = some (.loc cm)) → R prog w base os ((env, m) :: fs) (σ₁.del (C :: S.gone)) s → Q (.ref D) s) E s₁) E s) :
    wpAny (model prog w) A (eval (.ListComp elt [⟨target, iter, ifs, 0⟩] scope pos) env) Q E s := by
  have hcell : ∀ y ∈ scope.names, y.2 ≠ .cell := fun y hy => by simpa using List.all_eq_true.mp hsc y hy
  have hn : ∀ y ∈ scope.names, y.2 = .local → scope.names.lookup y.1 = some .local := fun y hy e => by
    have := List.all_eq_true.mp hnames y hy
    rw [e] at this
    simpa using this
  rw [eval_ListComp]
  refine wpAny_comprehension_free (use := none) rfl hs hclos hkind hn (wpAny_mono h (fun x s₁ h₁ => wpAny_mono h₁ (fun it s₂ h₂ => ?_) fun _ _ e => e) fun _ _ e => e)
  obtain ⟨m, σ, I, len, S, J, ⟨rfl, hl, r, h0, hj, turn⟩, fin⟩ := h₂
  refine comp_core (RR := fun acc C => compPost (model prog w) A E none Q acc C) S J hh hcell hkind hl r h0 hj turn ?_
  intro D C ys σ₁ cm s₃ hD hC hDC hDg hJ hD₁ hC₁ hA₁ r₁
  have hCg : C ∉ S.gone := fun q => S.there hA₁ C (S.goneDep C q) (absurd hC (S.there h0 C (S.goneDep C q)))
  have hC₂ : (σ₁.del S.gone) C = some (.loc cm) := by rw [Hp.del_ne _ hCg]; exact hC₁
  obtain ⟨o, h1, es, ep, h2, h3, h4⟩ := r₁.get hC₂
  refine ⟨cm, ⟨o, es, ep, h1, h2, h3, h4⟩, fun h' hs' => fin D C ys σ₁ _ hD hC (by simpa using ⟨hDC, hDg⟩) hJ hA₁ hD₁ ⟨cm, hC₁⟩ ?_⟩
  refine (r₁.extButSame (t := s₃.toks) hC₂ hs').forget fun a x e => ?_
  obtain ⟨e1, e2⟩ := Hp.del_le e
  simp only [List.mem_cons, not_or] at e2
  rw [Hp.del_ne _ (by simpa using e2.1), Hp.del_ne _ e2.2]; exact e1

theorem v_compT {elt iter : Expr} {x : Str} {px : Pos} {ifs : List Expr} {scope : Scope} {cl : List (Str × Addr)} {pos : Pos} {Q : Value → Shared → Prop} (a : Act K none n A base (env :: fs.map (·.1)))
    (hclos : closureFor scope env = pure cl) (hsc : (scope.names.all fun y => y.2 != .cell) = true) (hkind : scope.kind = .function) (hnames : (scope.names.all fun y => y.2 != .local || scope.names.lookup y.1 == some .local) = true) (hx : scope.names.lookup x = some .local)
    (hs : ∀ x, foldedSetIterable iter env x = pure x)
    (h : wpAny (model prog w) A (eval iter env) (fun xv s₁ => wpAny (model prog w) A (pyIter xv) (fun it s₂ => ∃ m σ I len S Pf, TupGoal prog w A base os env fs elt x px ifs scope cl it s₂ m σ I len S Pf ∧
      ∀ D ys σf s, Pf len ys σf → σ D = none → σf D = some (.list ys) → (∀ b, b ∉ S.gone → σ b ≠ none → σf b = σ b) → R prog w base os ((env, m) :: fs) σf s → Q (.ref D) s) E s₁) E s) :
    wpAny (model prog w) A (eval (.ListComp elt [⟨.Name x px, iter, ifs, 0⟩] scope pos) env) Q E s := by
  refine v_comp2 (base := base) (os := os) (fs := fs) a.hand hclos hsc hkind hnames hs (wpAny_mono h (fun xv s₁ h₁ => wpAny_mono h₁ (fun it s₂ h₂ => ?_) fun _ _ e => e) fun _ _ e => e)
  obtain ⟨m, σ, I, len, S, Pf, G, fin⟩ := h₂
  refine ⟨m, σ, I, len, S, _, G.goal a hkind hx, fun D C ys σ₁ s hD hC hDg ⟨hP, hk⟩ hA₁ hD₁ ⟨cm, hC₁⟩ r => fin D ys _ s ?_ hD ?_ (fun b h1 h2 => ?_) r⟩
  · refine G.mono hP fun b xs e => ?_
    have hb : b ∉ S.gone := fun q => G.tdep hA₁ (S.goneDep b q) e
    have hc : b ≠ C := fun q => by rw [q, hC₁] at e; cases e
    rw [Hp.del_ne _ (by simpa using ⟨hc, hb⟩)]; exact e
  · rw [Hp.del_ne _ hDg]; exact hD₁
  · have hbC : b ≠ C := fun e => h2 (by rw [e]; exact hC)
    rw [Hp.del_ne _ (by simpa using ⟨hbC, h1⟩)]
    by_cases hd : b ∈ S.dep
    · exact S.stay G.at0 hA₁ b hd h1
    · exact hk b hd h2
end
end Mine
namespace Mine
set_option pp.deepTerms false
set_option pp.deepTerms.threshold 8
local macro_rules | `(tactic| walk_at "lk") => `(tactic| first | assumption | rfl | (simp only [mset, ofs_inj, String.reduceEq, ↓reduceIte]; first | assumption | rfl) | (simp only [mset, ofs_inj, String.reduceEq, ↓reduceIte]; done))
local macro_rules | `(tactic| walk_at "nm") => `(tactic| (refine v_local (by assumption) (by assumption) (kof (by assumption) (by kernel_rfl)) (by walk_at "lk") ?_ (by kernel_rfl)))
local macro_rules | `(tactic| walk_at "st") => `(tactic| (refine v_store (by assumption) (by assumption) (kof (by assumption) (by kernel_rfl)) fun s r => ?_))
local macro_rules | `(tactic| walk_at "v") => `(tactic| first
  | with_reducible refine wpAny_Return_some ?_
  | with_reducible refine wpAny_Return_none ?_
  | ((with_reducible refine wpAny_Compare1 (hm := ?hm) ?_); (case hm => with_unfolding_all rfl))
  | ((with_reducible refine wpAny_isTrue_Compare1 (hm := ?hm) ?_); (case hm => with_unfolding_all rfl))
  | ((with_reducible refine wpAny_Assign_Name (hs := ?hs) ?_); (case hs => rfl))
  | ((with_reducible refine wpAny_Assign_Subscript (hs := ?hs) ?_); (case hs => rfl))
  | ((with_reducible refine plainObj_wpAny_Assign_Attribute (hs := ?hs) ?_); (case hs => rfl))
  | ((with_reducible refine wpAny_Assign_two (he := ?he) (hw := ?hw) ?_); (case he => rfl); (case hw => rfl))
  | with_reducible refine assign_Attr ?_
  | with_reducible refine assign_Subs ?_
  | with_reducible refine wpAny_assign_Name ?_
  | with_reducible refine Attribute_name ?_
  | with_reducible refine Attribute_any_ ?_
  | with_reducible refine Subscript_ ?_
  | with_reducible refine wpAny_If ?_
  | with_reducible refine wpAny_BinOp ?_
  | with_reducible refine wpAny_UnaryOp ?_
  | with_reducible refine wpAny_Delete ?_
  | with_reducible refine wpAny_deleteEach_cons ?_
  | with_reducible refine wpAny_deleteEach_nil ?_
  | with_reducible refine wpAny_delete_Subscript ?_
  | with_reducible refine wpAny_AugAssign_AttributeAny ?_
  | with_reducible refine wpAny_execs_nil ?_
  | with_reducible refine wpAny_Constant_none ?_
  | with_reducible refine spliced_none ?_
  | with_reducible refine ea_none ?_
  | ((with_reducible refine ea_plain ?_ ?he); (case he => rfl))
  | ((with_reducible refine' methodCall_KW (pl := ?pl) (he := ?he) ?_); (case he => rfl))
  | walk_at "nm"
  | ((with_reducible refine spliced_more ?_ (he := ?he)); (case he => rfl)))
local macro_rules | `(tactic| walk_at "vv") => `(tactic| repeat walk_at "v")
theorem c_tuple {prog : Program} {w : World} {A : Around} {base : Heap} {os : OsState} {s : Shared} {E : Value → Shared → Prop} {ce : Env} {elts : List Expr} {j : Nat} {pos : Pos} {Q : Value → Shared → Prop}
    (h : wpAny (model prog w) A (spliced (backTo pos (starEach elts ce))) (fun vs s₁ => vs.length ≤ 1000 ∧ ∃ fs σ', fs ≠ [] ∧ R prog w base os fs σ' s₁ ∧
      ∀ t s', σ' t = none → R prog w base os fs (σ'.set t (.tup vs)) s' → Q (.ref t) s') E s) : wpAny (model prog w) A (eval (.Tuple elts j pos) ce) Q E s :=
  wpAny_Tuple_spliced (wpAny_mono h (fun vs s₁ ⟨hl, fs, σ', hne, r, k⟩ => ⟨by rw [sizeLine_eq]; omega, k _ _ r.fresh (r.push (t := s₁.toks) hne ⟨rfl, 0, rfl⟩)⟩) fun _ _ z => z)
namespace L2
variable {prog : Program} {w : World} {K : Frag} {H : Option Value} {n : Nat} {σ : Hp}
def btF (ws : List Int) (a b : Int) : Bool := lexLt [(P2.nxt ws b : Int), b] [(P2.nxt ws a : Int), a]
def chFar (wants : List Int) (p : Nat) : List Int → Int
  | [] => 0
  | a :: r => bestAt (btF (wants.drop (p + 1))) a r
theorem btF_lt {ws : List Int} {a b : Int} (h : btF ws a b = true) : P2.nxt ws b ≤ P2.nxt ws a := by
  unfold btF at h
  simp only [lexLt] at h
  split at h
  · omega
  · simp at h; omega
theorem btF_not {ws : List Int} {a b : Int} (h : btF ws a b = false) : P2.nxt ws a ≤ P2.nxt ws b := by
  unfold btF at h
  simp only [lexLt] at h
  split at h
  · omega
  · simp at h; omega
theorem best_far (ws : List Int) : ∀ (r : List Int) (a : Int), bestAt (btF ws) a r ∈ a :: r ∧ ∀ x ∈ a :: r, P2.nxt ws x ≤ P2.nxt ws (bestAt (btF ws) a r)
  | [], a => ⟨.head _, fun x hx => by simp at hx; subst hx; exact Nat.le_refl _⟩
  | b :: r, a => by
    simp only [bestAt]
    cases h : btF ws b a with
    | true =>
      simp only [if_true]
      obtain ⟨h1, h2⟩ := best_far ws r b
      refine ⟨.tail _ h1, fun x hx => ?_⟩
      rcases List.mem_cons.mp hx with rfl | hx
      · exact Nat.le_trans (btF_lt h) (h2 b (.head _))
      · exact h2 x hx
    | false =>
      simp only [Bool.false_eq_true, if_false]
      obtain ⟨h1, h2⟩ := best_far ws r a
      refine ⟨?_, fun x hx => ?_⟩
      · rcases List.mem_cons.mp h1 with e | e
        · rw [e]; exact .head _
        · exact .tail _ (.tail _ e)
      · rcases List.mem_cons.mp hx with rfl | hx
        · exact h2 x (.head _)
        · rcases List.mem_cons.mp hx with rfl | hx
          · exact Nat.le_trans (btF_not h) (h2 a (.head _))
          · exact h2 x (.tail _ hx)
theorem far_mem {wants : List Int} {p : Nat} {ks : List Int} (h : ks ≠ []) : chFar wants p ks ∈ ks := by
  cases ks with
  | nil => exact absurd rfl h
  | cons a r => exact (best_far _ r a).1
theorem far_far {wants : List Int} {p : Nat} {ks : List Int} {x : Int} (h : x ∈ ks) : P2.nxt (wants.drop (p + 1)) x ≤ P2.nxt (wants.drop (p + 1)) (chFar wants p ks) := by
  cases ks with
  | nil => cases h
  | cons a r => exact (best_far _ r a).2 x h
theorem lay_ints {ns : List Int} (h : ns.length ≤ 100) (hw : ∀ x ∈ ns, 0 ≤ x ∧ x < 5) : PyData.layable0 (.list (ns.map .int)) = true := by
  have h1 : ∀ ns : List Int, PyData.canLayAll0 (ns.map .int) = true := by
    intro ns
    induction ns with
    | nil => simp [PyData.canLayAll0]
    | cons a r ih => simp [PyData.canLayAll0, PyData.canLay0, ih]
  have h2 : ∀ ns : List Int, PyData.depthAll (ns.map .int) = 0 := by
    intro ns
    induction ns with
    | nil => simp [PyData.depthAll]
    | cons a r ih => simp [PyData.depthAll, PyData.depth, ih]
  have h3 : ∀ ns : List Int, (∀ x ∈ ns, 0 ≤ x ∧ x < 5) → PyData.weightAll (ns.map .int) ≤ 4 * ns.length := by
    intro ns
    induction ns with
    | nil => intro _; simp [PyData.weightAll]
    | cons a r ih =>
      intro hw
      have := ih fun x hx => hw x (.tail _ hx)
      have key : ∀ k : _root_.Fin 5, PyData.weight (.int (k.val : Int)) ≤ 3 := by decide +kernel
      have ha : PyData.weight (.int a) ≤ 3 := by
        obtain ⟨k, hk⟩ := P2.fin_of (k := 5) (hw a (.head _)).1 (hw a (.head _)).2
        subst hk
        exact key k
      simp only [List.map_cons, PyData.weightAll, List.length_cons]
      omega
  unfold PyData.layable0
  rw [show PyData.canLay0 (.list (ns.map .int)) = true by rw [PyData.canLay0]; exact h1 ns, show PyData.depth (.list (ns.map .int)) = 1 by rw [PyData.depth, h2]]
  have := h3 ns hw
  have h4 : PyData.weight (.list (ns.map .int)) ≤ 2 ^ 20 := by rw [PyData.weight]; omega
  simp only [Bool.true_and, Bool.and_eq_true, decide_eq_true_eq]
  exact ⟨by decide, h4⟩

def Pairs (σ : Hp) (ws : List Int) (ys : List Value) (ks : List Int) : Prop := ys.length = ks.length ∧ ∀ (i : Nat) k, ks[i]? = some k → ∃ t t1 t2, ys[i]? = some (.ref t) ∧ σ t = some (.tup [.int (P2.nxt ws k : Nat) t1, .int k t2])
theorem Pairs.mono {σ σ' : Hp} {ws : List Int} {ys : List Value} {ks : List Int} (h : Pairs σ ws ys ks) (k : TupKeep σ σ') : Pairs σ' ws ys ks := ⟨h.1, fun i x hx => let ⟨t, t1, t2, a, b⟩ := h.2 i x hx; ⟨t, t1, t2, a, k _ _ b⟩⟩
theorem Pairs.snoc {σ : Hp} {ws : List Int} {ys : List Value} {ks : List Int} {k : Int} {t : Addr} {t1 t2 : Tok} (h : Pairs σ ws ys ks) (e : σ t = some (.tup [.int (P2.nxt ws k : Nat) t1, .int k t2])) : Pairs σ ws (ys ++ [.ref t]) (ks ++ [k]) := by
  refine ⟨by simp [h.1], fun i x hx => ?_⟩
  rcases Nat.lt_trichotomy i ks.length with q | q | q
  · rw [List.getElem?_append_left q] at hx
    obtain ⟨t', t1', t2', a, b⟩ := h.2 i x hx
    exact ⟨t', t1', t2', by rw [List.getElem?_append_left (by rw [h.1]; exact q)]; exact a, b⟩
  · subst q
    have : x = k := by simpa using hx.symm
    subst this
    exact ⟨t, t1, t2, by rw [← h.1]; simp, e⟩
  · rw [List.getElem?_eq_none (by simp; omega)] at hx; cases hx
def s_fret : Stmt := stmtAt (fnBody s_further) 1
def subBase : Expr → Expr
  | .Subscript b _ _ => b
  | e => e

set_option maxHeartbeats 1000000 in
theorem call_further {fd cd' ff cf' cd cn cw ld lw now : Addr} {draws wants : List Int} (hM : nsIn K mainGlobals "max" = some none) (M : Made2 σ fd cd' ff cf' cd cn cw ld lw now draws wants) {p : Nat} {tp : Tok} (hnow : σ now = some (.list [.int p tp]))
    (hw : ∀ x ∈ wants, 0 ≤ x ∧ x < 5) (hwl : wants.length ≤ 90) {lk : Addr} {vs : List Value} {ks : List Int} (hlk : σ lk = some (.list vs)) (hi : IntsAre vs ks) (hne : ks ≠ []) (hks : ks.length ≤ 60) {X : String → Hp → Prop} :
    CallT prog w K none (n + 2) (.ref ff) ⟨[.ref lk], []⟩ σ (fun r σ' => (∃ tk, r = .int (chFar wants p ks) tk) ∧ ∀ a x, σ a = some x → σ' a = some x) X := by
  refine CallT.closure (n := n + 1) (binds := [("held", .ref lk)]) M.ff M.cf' (fun _ _ _ _ => BindsTo.of_eq rfl) (fun x hx => by simp only [List.mem_cons, List.not_mem_nil, or_false] at hx; subst hx; rfl) (by kernel_rfl) (by kernel_rfl) (by kernel_rfl) (by decide +kernel) fun L hLf => ?_
  intro A base os env fs s he a r
  have hsc : env.scope = fnScope s_further := by subst he; rfl
  have hcl : env.cells = [(("later" : Str), L + 1), (("wants" : Str), cw), (("now" : Str), cn)] := by subst he; rfl
  clear he
  have hσ : cellHp (fun _ => none) (cellsFrom (L + 1) (fnScope s_further).names []) σ = σ.set (L + 1) (.cell none) := rfl
  rw [hσ] at r
  have hL0 : σ (L + 1) = none := hLf _ (Nat.le_add_right _ _)
  have fk := a.head.2.1
  have h1 : (fun y => [(("held" : Str), Value.ref lk)].reverse.lookup y) "held" = some (.ref lk) := by kernel_rfl
  obtain ⟨vw, hvw, hiw⟩ := M.lw
  have hwlen := hiw.length
  have ext : ∀ {b : Addr} {x : AO}, σ b = some x → (σ.set (L + 1) (.cell none)) b = some x := fun {b x} e => by rw [Hp.set_ne _ _ (fun q => by rw [q, hL0] at e; cases e)]; exact e
  -- later = wants[now[0] + 1:]
  refine wpAny_execs_cons ?_
  walk_at "vv"
  refine v_free fk r (kof hsc (by kernel_rfl)) (by rw [hcl]; rfl) (ext M.cw) ?_ (by kernel_rfl) (by kernel_rfl)
  refine v_slicelo ?_
  walk_at "vv"
  refine v_free fk r (kof hsc (by kernel_rfl)) (by rw [hcl]; rfl) (ext M.cn) ?_ (by kernel_rfl) (by kernel_rfl)
  refine v_int r fun s t1 r => ?_
  refine v_litem (k := 0) r (ext hnow) (by simp) rfl ?_ (by with_unfolding_all rfl)
  refine v_int r fun s t2 r => ?_
  refine v_add r fun s t3 r => ?_
  refine v_slice r (ext hvw) (by omega) (.int _ _) .none fun d s hd r => ?_
  have hsl := slice_ints_fromW hiw (x := (p : Int) + 1) (by omega)
  rw [show ((p : Int) + 1).toNat = p + 1 by omega] at hsl
  generalize (slicePick vw.toArray (some ((p : Int) + 1)) none none).toList = vl at r hsl
  have dL : d ≠ L + 1 := fun e => by rw [e, Hp.set_self] at hd; cases hd
  rw [Hp.set_ne _ _ dL] at hd
  refine v_storecell fk r (kof hsc (by kernel_rfl)) (by rw [hcl]; rfl) (v₀ := none) (by rw [Hp.set_ne _ _ dL.symm]; exact Hp.set_self _ _ _) fun s r => ?_
  have ext2 : ∀ {b : Addr} {x : AO}, σ b = some x → (((σ.set (L + 1) (.cell none)).set d (.list vl)).set (L + 1) (.cell (some (.ref d)))) b = some x := fun {b x} e => by
    have h2 : b ≠ L + 1 := fun q => by rw [q, hL0] at e; cases e
    have h3 : b ≠ d := fun q => by rw [q, hd] at e; cases e
    rw [Hp.set_ne _ _ h2, Hp.set_ne _ _ h3]; exact ext e
  have hwd : ∀ x ∈ wants.drop (p + 1), 0 ≤ x ∧ x < 5 := fun x hx => hw x (List.mem_of_mem_drop hx)
  have hdl : (wants.drop (p + 1)).length ≤ 90 := by rw [List.length_drop]; omega
  -- return max([..])[1]
  refine wpAny_execs_cons ?_
  walk_at "vv"
  refine wpAny_Call_ofName ?_
  refine v_builtin a r (kof hsc (by kernel_rfl)) hM (v := .builtin "max") (by kernel_rfl) (by decide +kernel) ?_ (by kernel_rfl)
  refine v_callB rfl ?_
  walk_at "vv"
  refine v_compT (cl := [(("later" : Str), L + 1)]) (x := "one") (base := base) (os := os) (fs := fs) a (closureFor_of (by rw [hcl]; rfl)) (by kernel_rfl) (by kernel_rfl) (by kernel_rfl) (by kernel_rfl) (fun _ => rfl) ?_
  walk_at "nm"
  refine v_iterL r (ext2 hlk) fun it s hit r => ?_
  have hlen := hi.length
  have c1 : (((σ.set (L + 1) (.cell none)).set d (.list vl)).set (L + 1) (.cell (some (.ref d)))) (L + 1) = some (.cell (some (.ref d))) := Hp.set_self _ _ _
  have c2 : (((σ.set (L + 1) (.cell none)).set d (.list vl)).set (L + 1) (.cell (some (.ref d)))) d = some (.list vl) := by rw [Hp.set_ne _ _ dL]; exact Hp.set_self _ _ _
  have hitL : L + 1 ≠ it := fun e => by rw [← e, c1] at hit; cases hit
  have hitd : d ≠ it := fun e => by rw [← e, c2] at hit; cases hit
  have hitk : lk ≠ it := fun e => by rw [← e, ext2 hlk] at hit; cases hit
  have hlkL : L + 1 ≠ lk := fun e => by rw [← e, hL0] at hlk; cases hlk
  have hlkd : d ≠ lk := fun e => by rw [← e, hd] at hlk; cases hlk
  refine ⟨_, _, it, vs.length, Src.list _ it lk vs, fun i ys σ' => Pairs σ' (wants.drop (p + 1)) ys (ks.take i), ⟨rfl, by omega, r, ⟨Hp.set_self _ _ _, by rw [Hp.set_ne _ _ hitk]; exact ext2 hlk⟩, fun σ' => ⟨rfl, fun i k h => by simp at h⟩, fun h k => h.mono k, ?_, ?_⟩, ?_⟩
  · rintro i σ' a' xs ⟨q1, q2⟩ hm e
    rcases (by simpa using (show a' ∈ [it, lk] from hm) : a' = it ∨ a' = lk) with rfl | rfl
    · rw [q1] at e; cases e
    · rw [q2] at e; cases e
  · intro C i ys σ₁ σ₁' σ₂ v cm s hlt hP hA hst hA' hk' hC hC₂ hcm r
    obtain ⟨hv, _⟩ := hst
    obtain ⟨x, hx, t, rfl⟩ := ints_get hi hv
    have ce := comp_env (scope := compScope (arg0 (subBase (retVal s_fret)))) (cl := [(("later" : Str), L + 1)]) (C := C) a (by kernel_rfl)
    have g1 : σ₂ (L + 1) = some (.cell (some (.ref d))) := by
      rw [hk' (L + 1) (by show L + 1 ∉ [it, lk]; simpa using ⟨hitL, hlkL⟩) (by rw [Hp.set_ne _ _ hitL, c1]; simp), Hp.set_ne _ _ hitL]; exact c1
    have g2 : σ₂ d = some (.list vl) := by
      rw [hk' d (by show d ∉ [it, lk]; simpa using ⟨hitd, hlkd⟩) (by rw [Hp.set_ne _ _ hitd, c2]; simp), Hp.set_ne _ _ hitd]; exact c2
    refine ifs_nil ?_
    rw [if_pos rfl]
    refine c_tuple (base := base) (os := os) ?_
    walk_at "vv"
    refine wpAny_IfExp ?_
    walk_at "vv"
    refine c_local ce r (kofC hsc (by kernel_rfl)) hC₂ hcm ?_ (by kernel_rfl)
    refine v_cell ce.kind r (kofC hsc (by kernel_rfl)) rfl g1 ?_ (by kernel_rfl)
    refine v_lin r g2 hsl ?_
    refine v_truth ?_
    cases hany : (wants.drop (p + 1)).any (· == x) with
    | true =>
      have hin : x ∈ wants.drop (p + 1) := by simpa using hany
      simp only [if_true]
      walk_at "vv"
      refine v_cell ce.kind r (kofC hsc (by kernel_rfl)) rfl g1 ?_ (by kernel_rfl)
      refine v_lmeth r g2 PySem.F.slot_list_index PySem.F.type_list_index ?_
      refine v_callB rfl ?_
      walk_at "vv"
      refine c_local ce r (kofC hsc (by kernel_rfl)) hC₂ hcm ?_ (by kernel_rfl)
      walk_at "vv"
      refine v_index r g2 hsl (lay_ints (by omega) hwd) hin fun s t4 r => ?_
      walk_at "vv"
      refine c_local ce r (kofC hsc (by kernel_rfl)) hC₂ hcm ?_ (by kernel_rfl)
      walk_at "vv"
      refine ⟨by simp, _, _, by simp, r, fun tt s htt r => ?_⟩
      refine ⟨_, r, fun b hb => Hp.set_ne _ _ fun q => hb (by rw [q]; exact htt), ?_⟩
      rw [List.take_add_one, hx, Option.toList_some]
      exact (hP.mono (.set fun xs q => by rw [htt] at q; cases q)).snoc (by rw [Hp.set_self, show P2.nxt (wants.drop (p + 1)) x = (wants.drop (p + 1)).idxOf x by unfold P2.nxt; rw [if_pos hin]])
    | false =>
      have hin : ¬ x ∈ wants.drop (p + 1) := fun q => by
        have : (wants.drop (p + 1)).any (· == x) = true := List.any_eq_true.mpr ⟨x, q, by simp⟩
        rw [hany] at this; cases this
      simp only [Bool.false_eq_true, if_false]
      refine v_int r fun s t4 r => ?_
      walk_at "vv"
      refine c_local ce r (kofC hsc (by kernel_rfl)) hC₂ hcm ?_ (by kernel_rfl)
      walk_at "vv"
      refine ⟨by simp, _, _, by simp, r, fun tt s htt r => ?_⟩
      refine ⟨_, r, fun b hb => Hp.set_ne _ _ fun q => hb (by rw [q]; exact htt), ?_⟩
      rw [List.take_add_one, hx, Option.toList_some]
      exact (hP.mono (.set fun xs q => by rw [htt] at q; cases q)).snoc (by rw [Hp.set_self, show P2.nxt (wants.drop (p + 1)) x = 99 by unfold P2.nxt; rw [if_neg hin]]; rfl)
  · intro D ys σf s hP hD hDf hk' r
    rw [hlen, List.take_length] at hP
    obtain ⟨hP1, hP2⟩ := hP
    cases ks with
    | nil => exact absurd rfl hne
    | cons a0 rest =>
      walk_at "vv"
      refine v_max (items := rest) (a0 := a0) (G := fun k v => ∃ t t1 t2, v = .ref t ∧ σf t = some (.tup [.int (P2.nxt (wants.drop (p + 1)) k : Nat) t1, .int k t2])) (bt := btF (wants.drop (p + 1))) a r hDf hP1 (fun i x hx => ?_) (fun x y va vb σ' s' Q' h1 h2 h3 r' hq => ?_) fun v σ' s' ⟨t, t1', t2', hv, ht⟩ hs r' => ?_
      · obtain ⟨t, t1', t2', q1, q2⟩ := hP2 i x hx
        exact ⟨_, q1, t, t1', t2', rfl, q2⟩
      · obtain ⟨t, t1', t2', rfl, q1⟩ := h1
        obtain ⟨u, u1', u2', rfl, q2⟩ := h2
        exact cmp_tuple_gt (by have := a.units; unfold cLine at *; show A.units + 1 < 9900; omega) (r'.isTuple (h3 _ _ q1)) (r'.isTuple (h3 _ _ q2)) (.cons _ _ (.cons _ _ .nil)) (.cons _ _ (.cons _ _ .nil)) hq
      · subst hv
        walk_at "vv"
        refine v_int r' fun s t5 r' => ?_
        refine v_titem (k := 1) r' (hs _ _ ht) rfl (by decide) ?_
        refine ⟨_, _, r', ⟨_, rfl⟩, fun b x e => hs b x ?_⟩
        have h2 : b ≠ it := fun q => by rw [q] at e; rw [ext2 e] at hit; cases hit
        rw [hk' b (by show b ∉ [it]; simpa using h2) (by rw [Hp.set_ne _ _ h2, ext2 e]; simp), Hp.set_ne _ _ h2]
        exact ext2 e
end L2
end Mine
namespace Mine
theorem enter_law {prog : Program} {w : World} {K : Frag} {q : Program} {loose : List Str} {mean : ExcName → Option Value} {mg mb : Str → Option Value} {s : Shared} {c P fa ls : Addr} {o : Obj} {name : Str} {params : Arguments} {body : List Stmt} {scope : Scope} {pm doc dV kV : Value} {binds : List (Str × Value)} {post : Result → Shared → Prop}
    (hT : TabsAt [(c, P)] s.heap) (KX : K.In s.heap) (T : Top q loose mean mg mb s.heap) (hn : noTabs K = true) (hlow : sysModules < s.heap.objs.size) (hg : s.gens = #[]) (hP : (P == sysModules) = false)
    (ho : s.heap.get? fa = some o) (hd : o.data = .func { docDef name params body scope pm (.ref c) doc with defaults := dV, kwdefaults := kV }) (hcd : s.heap.CodeRec (.ref c) name)
    (hb : BindsTo s { docDef name params body scope pm (.ref c) doc with defaults := dV, kwdefaults := kV } ⟨[.ref ls], []⟩ binds)
    (hkind : ∀ x ∈ binds, scope.names.lookup x.1 = some .local) (hnd : ((cellsFrom 0 scope.names []).map (·.1)).Nodup) (hco : scope.isCoroutine = false) (hgen : scope.isGenerator = false) (hk : scope.kind = .function)
    (h : ∀ (A : Around) (base : Heap) (L : Addr) (env : Env) (m : Nm) (σ : Hp) (s' : Shared), base = ghostOf s.heap [(c, P)] → base.objs.size ≤ L → env = envOfC name scope L fa (.ref c) → m = bindL (fun x => scope.names.lookup x) binds (fun _ => none) →
      σ = cellHp (bindC (fun x => scope.names.lookup x) binds fun _ => none) (cellsFrom (L + 1) scope.names []) (Hp.set (fun _ => none) P (.obj (tabObj #[]))) → P < L → (∀ x ∈ cellsFrom (L + 1) scope.names [], L < x.2) → Act K none 40 A base [env] → R prog w base s.os [(env, m)] σ s' →
      wpAny (model prog w) A (execs body env) (fun fl s' => post (.ok (.ret (match fl with | .ret v => v | _ => .none))) s') (fun _ _ => False) s') :
    codeAny (model prog w) callerA (.call (.ref fa) ⟨[.ref ls], []⟩) post s := by
  obtain ⟨oc, od, data, osl⟩ := o
  simp only at hd
  subst hd
  have hPat := (hT (c, P) (.head _)).2
  have hPlt : P < s.heap.objs.size := Heap.lt_size hPat
  refine codeAny_call_function (fd := { docDef name params body scope pm (.ref c) doc with defaults := dV, kwdefaults := kV }) (by decide +kernel) ho rfl hco hgen rfl hcd ?_
  unfold BindsTo at hb
  refine hb _ _ _ _ ?_
  refine wpAny_newFunctionEnv_cells hk (fun x hx => .inl (hkind x hx)) fun env' he s' x => ?_
  subst he
  have lim : s.heap.NoLimit := T.nolimit
  refine ⟨lim.keeps x.toInCall.keep, codeAny_func ?_⟩
  obtain ⟨h₁, tk, rfl, _⟩ := x.done
  have hk₁ := x.toInCall.keep
  have hsz : (ghostOf s.heap [(c, P)]).objs.size = s.heap.objs.size := hideAll_size _ _
  have hbn : ∀ a, s.heap.objs.size ≤ a → (ghostOf s.heap [(c, P)]).get? a = none := fun a ha => by
    cases q : (ghostOf s.heap [(c, P)]).get? a with
    | none => rfl
    | some o' => exact absurd (Heap.lt_size (of_hideAll _ q)) (Nat.not_lt.mpr ha)
  have hcell : ∀ y ∈ cellsFrom (s.heap.objs.size + 1) scope.names [], ∃ oo, h₁.get? y.2 = some oo ∧ oo.data = .cell ((bindC (fun x => scope.names.lookup x) binds fun _ => none) y.1) := fun y hy =>
    x.cell y.1 y.2 (lookup_of_mem_nodup (cellsFrom_names scope.names 0 (s.heap.objs.size + 1) [] [] rfl ▸ hnd) hy)
  have hab : ∀ y ∈ cellsFrom (s.heap.objs.size + 1) scope.names [], s.heap.objs.size < y.2 := fun y hy => x.above y.1 y.2 hy
  have smod : ∀ a, s.heap.objs.size ≤ a → (a == sysModules) = false := fun a ha => beq_eq_false_iff_ne.mpr (Nat.ne_of_gt (Nat.lt_of_lt_of_le hlow ha))
  have r0 : R prog w (ghostOf s.heap [(c, P)]) s.os [(envOfC name scope s.heap.objs.size fa (.ref c), bindL (fun x => scope.names.lookup x) binds fun _ => none)] (Hp.set (fun _ => none) P (.obj (tabObj #[]))) { s with heap := h₁, toks := tk } := by
    refine ⟨fun b o e => hk₁ b o (of_hideAll _ e), fun f hf => ?_, by simp, fun a y e => ?_, fun a y e => ?_, by rw [hsz]; exact hlow, hg, rfl⟩
    · simp only [List.mem_singleton] at hf
      subst hf
      refine ⟨x.toInCall.ns, by rw [hsz]; exact Nat.le_refl _, ?_⟩
      exact Hp.set_ne _ _ (Nat.ne_of_gt hPlt)
    · by_cases ha : a = P
      · subst ha
        rw [Hp.set_self] at e; cases e
        exact ⟨_, hk₁ _ _ hPat, rfl, hideAll_none _ (by simp)⟩
      · rw [Hp.set_ne _ _ ha] at e; cases e
    · by_cases ha : a = P
      · subst ha; exact hP
      · rw [Hp.set_ne _ _ ha] at e; cases e
  have r1 := R.cells (cm := bindC (fun x => scope.names.lookup x) binds fun _ => none) (cs := cellsFrom (s.heap.objs.size + 1) scope.names []) r0 hcell fun y hy => ?_
  · refine wpAny_mono (h (callerA.deeper (envOfC name scope s.heap.objs.size fa (.ref c))) _ s.heap.objs.size _ _ _ _ rfl (by rw [hsz]; exact Nat.le_refl _) rfl rfl rfl hPlt hab ?_ r1) (fun fl s' p => p) fun _ _ z => z.elim
    refine ⟨Around.frames_deeper rfl, fun e he => ?_, ghost_K hT KX hn, ⟨_, _, _, _, topRead_of (ghost_top hT T)⟩, rfl, rfl, (show 1 + claimMargin + 1 + 4 * 40 < recursionLimit by decide +kernel), (show 4 + 3 + 100 * 40 < cLine by decide +kernel)⟩
    simp only [List.mem_singleton] at he
    subst he
    exact ⟨rfl, hk, rfl, rfl⟩
  · have hlt := hab y hy
    exact ⟨hbn _ (Nat.le_of_lt hlt), fun f hf => by simp only [List.mem_singleton] at hf; subst hf; exact Nat.ne_of_lt hlt, smod _ (Nat.le_of_lt hlt)⟩
end Mine
namespace Mine
set_option pp.deepTerms false
set_option pp.deepTerms.threshold 8
local macro_rules | `(tactic| walk_at "lk") => `(tactic| first | assumption | rfl | (simp only [mset, ofs_inj, String.reduceEq, ↓reduceIte]; first | assumption | rfl) | (simp only [mset, ofs_inj, String.reduceEq, ↓reduceIte]; done))
local macro_rules | `(tactic| walk_at "nm") => `(tactic| (refine v_local (by assumption) (by assumption) (kof (by assumption) (by kernel_rfl)) (by walk_at "lk") ?_ (by kernel_rfl)))
local macro_rules | `(tactic| walk_at "st") => `(tactic| (refine v_store (by assumption) (by assumption) (kof (by assumption) (by kernel_rfl)) fun s r => ?_))
local macro_rules | `(tactic| walk_at "v") => `(tactic| first
  | with_reducible refine wpAny_Return_some ?_
  | with_reducible refine wpAny_Return_none ?_
  | ((with_reducible refine wpAny_Compare1 (hm := ?hm) ?_); (case hm => with_unfolding_all rfl))
  | ((with_reducible refine wpAny_isTrue_Compare1 (hm := ?hm) ?_); (case hm => with_unfolding_all rfl))
  | ((with_reducible refine wpAny_Assign_Name (hs := ?hs) ?_); (case hs => rfl))
  | ((with_reducible refine wpAny_Assign_Subscript (hs := ?hs) ?_); (case hs => rfl))
  | ((with_reducible refine plainObj_wpAny_Assign_Attribute (hs := ?hs) ?_); (case hs => rfl))
  | ((with_reducible refine wpAny_Assign_two (he := ?he) (hw := ?hw) ?_); (case he => rfl); (case hw => rfl))
  | with_reducible refine assign_Attr ?_
  | with_reducible refine assign_Subs ?_
  | with_reducible refine wpAny_assign_Name ?_
  | with_reducible refine Attribute_name ?_
  | with_reducible refine Attribute_any_ ?_
  | with_reducible refine Subscript_ ?_
  | with_reducible refine wpAny_If ?_
  | with_reducible refine wpAny_BinOp ?_
  | with_reducible refine wpAny_UnaryOp ?_
  | with_reducible refine wpAny_Delete ?_
  | with_reducible refine wpAny_deleteEach_cons ?_
  | with_reducible refine wpAny_deleteEach_nil ?_
  | with_reducible refine wpAny_delete_Subscript ?_
  | with_reducible refine wpAny_AugAssign_AttributeAny ?_
  | with_reducible refine wpAny_execs_nil ?_
  | with_reducible refine wpAny_Constant_none ?_
  | with_reducible refine spliced_none ?_
  | with_reducible refine ea_none ?_
  | ((with_reducible refine ea_plain ?_ ?he); (case he => rfl))
  | ((with_reducible refine' methodCall_KW (pl := ?pl) (he := ?he) ?_); (case he => rfl))
  | walk_at "nm"
  | ((with_reducible refine spliced_more ?_ (he := ?he)); (case he => rfl)))
local macro_rules | `(tactic| walk_at "vv") => `(tactic| repeat walk_at "v")
section
variable {prog : Program} {w : World} {K : Frag} {H : Option Value} {n : Nat} {A : Around} {base : Heap} {env : Env} {os : OsState} {fs : List (Env × Nm)} {m : Nm} {σ : Hp} {s : Shared}
  {E : Value → Shared → Prop}
theorem swaps_cell {env : Env} {elt : Expr} {gens : List Comprehension} {scope : Scope} {pos py : Pos} {y : Str} {ln : Nat} (hy : env.kindOf y = some .cell) : swapsWith (.ListComp elt gens scope pos) (some (.Name y py)) ln env = pure false := by
  unfold swapsWith
  simp only [hy]
  have : (env.blockKind == ScopeKind.function && (some NameKind.cell == some NameKind.local) && py.line == (elt.ListComp gens scope pos).pos.line && !(scope.names.any fun x => x.1 == y && (x.2 == .local || x.2 == .cell))) = false := by
    rw [show (some NameKind.cell == some NameKind.local) = false by decide]
    simp
  exact congrArg pure this
theorem IsList.up {h h' : Heap} {a : Addr} {xs : Array Value} (x : h.IsList a xs) (k : ∀ b o, h.get? b = some o → h'.get? b = some o) : h'.IsList a xs := let ⟨o, e, q⟩ := x; ⟨o, k _ _ e, q⟩
theorem v_bconcat {a b : Addr} {xs ys : List Value} {Q : Value → Shared → Prop} (r : R prog w base os ((env, m) :: fs) σ s) (ha : base.IsList a xs.toArray) (hb : σ b = some (.list ys)) (hz : xs.length + ys.length ≤ 100000)
    (h : ∀ d s', σ d = none → R prog w base os ((env, m) :: fs) (σ.set d (.list (xs ++ ys))) s' → Q (.ref d) s') : wpAny (model prog w) A (binaryOp .Add (.ref a) (.ref b)) Q E s :=
  add_arrays r.F (r.ledger_news s.heap.objs.size) (IsList.up ha r.keep) (r.isList hb) (fun h' F' N' => by
    obtain ⟨q1, q2⟩ := r.of_new (t := s.toks) (x := .list (xs ++ ys)) (Nat.le_refl _) F' N' ⟨0, by simp⟩
    exact h _ _ q1 q2) (by rw [sizeLine_eq]; simp; omega)
theorem v_bslice {value slice : Expr} {l : Addr} {xs : List Value} {vl vu : Value} {lo hi : Option Int} {Q : Value → Shared → Prop} (r : R prog w base os ((env, m) :: fs) σ s) (hl : base.IsList l xs.toArray) (hz : xs.length ≤ 100000) (pl : IsPart vl lo) (pu : IsPart vu hi)
    (h : ∀ d s', σ d = none → R prog w base os ((env, m) :: fs) (σ.set d (.list (slicePick xs.toArray lo hi none).toList)) s' → Q (.ref d) s')
    (hs : subscripted slice false (.ref l) (.ref s.heap.objs.size) = operate [.ref s.heap.objs.size, .ref l] (getItem (.ref l) (.ref s.heap.objs.size)) := by with_unfolding_all rfl)
    (ht : ∀ r, letTemporaryGo value (.ref l) r = pure () := by intro _; with_unfolding_all rfl) :
    wpAny (model prog w) A (subscriptTail value slice (.ref l) (.ref s.heap.objs.size)) Q E { s with heap := s.heap.push { cls := .type "slice", data := .fields #[vl, vu, .none] } } :=
  slice_list r.F (r.ledger_news (s.heap.objs.size + 1)) (IsList.up hl r.keep) pl pu (fun h' F' N' => by
    obtain ⟨q1, q2⟩ := r.of_new (t := s.toks) (x := .list (slicePick xs.toArray lo hi none).toList) (Nat.le_succ _) F' N' ⟨0, by simp⟩
    exact h _ _ q1 q2) hs ht (by rw [sizeLine_eq]; simp; omega)
end
namespace L2
variable {prog : Program} {w : World} {K : Frag} {H : Option Value} {n : Nat} {σ : Hp}
def subs (script : List Int) : List Int := pickNums script (some 1) (some 15) none
def wantsOf (script : List Int) : List Int := (subs script).map (· % 5)
def drawsOf (script : List Int) : List Int := (subs script).map (· / 5)
def roomOf (script : List Int) : Int := (script ++ [0]).headD 0 % 4 + 1

theorem comp_wants {A : Around} {base : Heap} {os : OsState} {env : Env} {fs : List (Env × Nm)} {m : Nm} {s : Shared} {E : Value → Shared → Prop} {ls cc : Addr} {vs : List Value} {ns : List Int} {v₀ : Option Value} {Q : Flow → Shared → Prop}
    (a : Act K none n A base (env :: fs.map (·.1))) (hsc : env.scope = fnScope s_law) (r : R prog w base os ((env, m) :: fs) σ s) (hl : base.IsList ls vs.toArray) (hi : IntsAre vs ns) (hlen : ns.length ≤ 63) (hm : m "script" = some (.ref ls))
    (hcc : env.cells.lookup ("wants" : Str) = some cc) (hcv : σ cc = some (.cell v₀))
    (fin : ∀ D ys σ' s', IntsAre ys (wantsOf ns) → σ D = none → σ' D = some (.list ys) → σ' cc = some (.cell (some (.ref D))) → (∀ b, b ≠ cc → σ b ≠ none → σ' b = σ b) → R prog w base os ((env, m) :: fs) σ' s' → Q .next s') :
    wpAny (model prog w) A (exec (stmtAt (fnBody s_law) 1) env) Q E s := by
  have fk := a.head.2.1
  refine wpAny_Assign_Name (hs := swaps_cell (kof hsc (by kernel_rfl))) ?_
  refine v_compP (cl := []) (x := "number") (base := base) (os := os) (fs := fs) a (closureFor_of rfl) (by kernel_rfl) (by kernel_rfl) (by kernel_rfl) (by kernel_rfl) (fun _ => rfl) ?_
  walk_at "vv"
  refine v_slicemk (vl := .none) (vu := .none) ?_
  refine v_int r fun s t1 r => ?_
  refine v_int r fun s t2 r => ?_
  have hvl := hi.length
  refine v_bslice r hl (by omega) (.int _ _) (.int _ _) fun d s hd r => ?_
  have hsub : IntsAre (slicePick vs.toArray (some 1) (some 15) none).toList (subs ns) := hi.pick _ _ _
  have hsl : (subs ns).length ≤ ns.length := length_pickNums_le hi _ _ _
  generalize (slicePick vs.toArray (some 1) (some 15) none).toList = vl at r hsub
  have hvll := hsub.length
  refine v_iterL r (Hp.set_self _ _ _) fun it s hit r => ?_
  have hdi : d ≠ it := fun e => by rw [← e, Hp.set_self] at hit; cases hit
  rw [Hp.set_ne _ _ hdi.symm] at hit
  refine ⟨m, _, it, vl.length, Src.list _ it d vl, fun i ys => IntsAre ys (((subs ns).take i).map fun x => x % 5), ⟨rfl, by omega, r, ⟨Hp.set_self _ _ _, by rw [Hp.set_ne _ _ hdi]; exact Hp.set_self _ _ _⟩, .nil, ?_⟩, ?_⟩
  · intro C i ys σ₁ σ₁' σ₂ v cm s hlt hP hA hst hA' hk' hC hC₂ hcm r
    obtain ⟨hv, _⟩ := hst
    obtain ⟨x, hx, t, rfl⟩ := ints_get hsub hv
    have ce := comp_env (scope := compScope (asgVal (stmtAt (fnBody s_law) 1))) (cl := []) (C := C) a (by kernel_rfl)
    refine ifs_nil ?_
    rw [if_pos rfl]
    walk_at "vv"
    refine c_local ce r (kofC hsc (by kernel_rfl)) hC₂ hcm ?_ (by kernel_rfl)
    refine v_int r fun s t3 r => ?_
    refine v_mod r (by omega) fun s t4 r => ?_
    refine ⟨σ₂, r, fun _ _ => rfl, ?_⟩
    rw [List.take_add_one, hx, Option.toList_some, List.map_append]
    exact hP.append (.cons _ _ .nil)
  · intro D ys σf s hP hD hDf hk' r
    rw [hvll, List.take_length] at hP
    have hDi : D ≠ it := fun e => by rw [e, Hp.set_self] at hD; cases hD
    rw [Hp.set_ne _ _ hDi] at hD
    have hDd : D ≠ d := fun e => by rw [e, Hp.set_self] at hD; cases hD
    rw [Hp.set_ne _ _ hDd] at hD
    have keep : ∀ b, σ b ≠ none → σf b = σ b := fun b hb => by
      have h1 : b ≠ it := fun e => hb (by rw [e]; exact hit)
      have h2 : b ≠ d := fun e => hb (by rw [e]; exact hd)
      rw [hk' b (by show b ∉ [it]; simpa using h1) (by rw [Hp.set_ne _ _ h1, Hp.set_ne _ _ h2]; exact hb), Hp.set_ne _ _ h1, Hp.set_ne _ _ h2]
    have hDc : D ≠ cc := fun e => by rw [e, hcv] at hD; cases hD
    refine v_storecell fk r (kof hsc (by kernel_rfl)) hcc (by rw [keep cc (by rw [hcv]; simp)]; exact hcv) fun s r => ?_
    exact fin D ys _ _ hP hD (by rw [Hp.set_ne _ _ hDc]; exact hDf) (Hp.set_self _ _ _) (fun b h1 h2 => by rw [Hp.set_ne _ _ h1]; exact keep b h2) r
theorem comp_draws {A : Around} {base : Heap} {os : OsState} {env : Env} {fs : List (Env × Nm)} {m : Nm} {s : Shared} {E : Value → Shared → Prop} {ls cc : Addr} {vs : List Value} {ns : List Int} {v₀ : Option Value} {Q : Flow → Shared → Prop}
    (a : Act K none n A base (env :: fs.map (·.1))) (hsc : env.scope = fnScope s_law) (r : R prog w base os ((env, m) :: fs) σ s) (hl : base.IsList ls vs.toArray) (hi : IntsAre vs ns) (hlen : ns.length ≤ 63) (hm : m "script" = some (.ref ls))
    (hcc : env.cells.lookup ("draws" : Str) = some cc) (hcv : σ cc = some (.cell v₀))
    (fin : ∀ D ys σ' s', IntsAre ys (drawsOf ns) → σ D = none → σ' D = some (.list ys) → σ' cc = some (.cell (some (.ref D))) → (∀ b, b ≠ cc → σ b ≠ none → σ' b = σ b) → R prog w base os ((env, m) :: fs) σ' s' → Q .next s') :
    wpAny (model prog w) A (exec (stmtAt (fnBody s_law) 2) env) Q E s := by
  have fk := a.head.2.1
  refine wpAny_Assign_Name (hs := swaps_cell (kof hsc (by kernel_rfl))) ?_
  refine v_compP (cl := []) (x := "number") (base := base) (os := os) (fs := fs) a (closureFor_of rfl) (by kernel_rfl) (by kernel_rfl) (by kernel_rfl) (by kernel_rfl) (fun _ => rfl) ?_
  walk_at "vv"
  refine v_slicemk (vl := .none) (vu := .none) ?_
  refine v_int r fun s t1 r => ?_
  refine v_int r fun s t2 r => ?_
  have hvl := hi.length
  refine v_bslice r hl (by omega) (.int _ _) (.int _ _) fun d s hd r => ?_
  have hsub : IntsAre (slicePick vs.toArray (some 1) (some 15) none).toList (subs ns) := hi.pick _ _ _
  have hsl : (subs ns).length ≤ ns.length := length_pickNums_le hi _ _ _
  generalize (slicePick vs.toArray (some 1) (some 15) none).toList = vl at r hsub
  have hvll := hsub.length
  refine v_iterL r (Hp.set_self _ _ _) fun it s hit r => ?_
  have hdi : d ≠ it := fun e => by rw [← e, Hp.set_self] at hit; cases hit
  rw [Hp.set_ne _ _ hdi.symm] at hit
  refine ⟨m, _, it, vl.length, Src.list _ it d vl, fun i ys => IntsAre ys (((subs ns).take i).map fun x => x / 5), ⟨rfl, by omega, r, ⟨Hp.set_self _ _ _, by rw [Hp.set_ne _ _ hdi]; exact Hp.set_self _ _ _⟩, .nil, ?_⟩, ?_⟩
  · intro C i ys σ₁ σ₁' σ₂ v cm s hlt hP hA hst hA' hk' hC hC₂ hcm r
    obtain ⟨hv, _⟩ := hst
    obtain ⟨x, hx, t, rfl⟩ := ints_get hsub hv
    have ce := comp_env (scope := compScope (asgVal (stmtAt (fnBody s_law) 2))) (cl := []) (C := C) a (by kernel_rfl)
    refine ifs_nil ?_
    rw [if_pos rfl]
    walk_at "vv"
    refine c_local ce r (kofC hsc (by kernel_rfl)) hC₂ hcm ?_ (by kernel_rfl)
    refine v_int r fun s t3 r => ?_
    refine v_fdiv r (by omega) (by omega) fun s t4 r => ?_
    refine ⟨σ₂, r, fun _ _ => rfl, ?_⟩
    rw [List.take_add_one, hx, Option.toList_some, List.map_append]
    exact hP.append (.cons _ _ .nil)
  · intro D ys σf s hP hD hDf hk' r
    rw [hvll, List.take_length] at hP
    have hDi : D ≠ it := fun e => by rw [e, Hp.set_self] at hD; cases hD
    rw [Hp.set_ne _ _ hDi] at hD
    have hDd : D ≠ d := fun e => by rw [e, Hp.set_self] at hD; cases hD
    rw [Hp.set_ne _ _ hDd] at hD
    have keep : ∀ b, σ b ≠ none → σf b = σ b := fun b hb => by
      have h1 : b ≠ it := fun e => hb (by rw [e]; exact hit)
      have h2 : b ≠ d := fun e => hb (by rw [e]; exact hd)
      rw [hk' b (by show b ∉ [it]; simpa using h1) (by rw [Hp.set_ne _ _ h1, Hp.set_ne _ _ h2]; exact hb), Hp.set_ne _ _ h1, Hp.set_ne _ _ h2]
    have hDc : D ≠ cc := fun e => by rw [e, hcv] at hD; cases hD
    refine v_storecell fk r (kof hsc (by kernel_rfl)) hcc (by rw [keep cc (by rw [hcv]; simp)]; exact hcv) fun s r => ?_
    exact fin D ys _ _ hP hD (by rw [Hp.set_ne _ _ hDc]; exact hDf) (Hp.set_self _ _ _) (fun b h1 h2 => by rw [Hp.set_ne _ _ h1]; exact keep b h2) r
end L2
end Mine
namespace Mine
set_option pp.deepTerms false
set_option pp.deepTerms.threshold 8
local macro_rules | `(tactic| walk_at "lk") => `(tactic| first | assumption | rfl | (simp only [mset, ofs_inj, String.reduceEq, ↓reduceIte]; first | assumption | rfl) | (simp only [mset, ofs_inj, String.reduceEq, ↓reduceIte]; done))
local macro_rules | `(tactic| walk_at "nm") => `(tactic| (refine v_local (by assumption) (by assumption) (kof (by assumption) (by kernel_rfl)) (by walk_at "lk") ?_ (by kernel_rfl)))
local macro_rules | `(tactic| walk_at "st") => `(tactic| (refine v_store (by assumption) (by assumption) (kof (by assumption) (by kernel_rfl)) fun s r => ?_))
local macro_rules | `(tactic| walk_at "v") => `(tactic| first
  | with_reducible refine wpAny_Return_some ?_
  | with_reducible refine wpAny_Return_none ?_
  | ((with_reducible refine wpAny_Compare1 (hm := ?hm) ?_); (case hm => with_unfolding_all rfl))
  | ((with_reducible refine wpAny_isTrue_Compare1 (hm := ?hm) ?_); (case hm => with_unfolding_all rfl))
  | ((with_reducible refine wpAny_Assign_Name (hs := ?hs) ?_); (case hs => rfl))
  | ((with_reducible refine wpAny_Assign_Subscript (hs := ?hs) ?_); (case hs => rfl))
  | ((with_reducible refine plainObj_wpAny_Assign_Attribute (hs := ?hs) ?_); (case hs => rfl))
  | ((with_reducible refine wpAny_Assign_two (he := ?he) (hw := ?hw) ?_); (case he => rfl); (case hw => rfl))
  | with_reducible refine assign_Attr ?_
  | with_reducible refine assign_Subs ?_
  | with_reducible refine wpAny_assign_Name ?_
  | with_reducible refine Attribute_name ?_
  | with_reducible refine Attribute_any_ ?_
  | with_reducible refine Subscript_ ?_
  | with_reducible refine wpAny_If ?_
  | with_reducible refine wpAny_BinOp ?_
  | with_reducible refine wpAny_UnaryOp ?_
  | with_reducible refine wpAny_Delete ?_
  | with_reducible refine wpAny_deleteEach_cons ?_
  | with_reducible refine wpAny_deleteEach_nil ?_
  | with_reducible refine wpAny_delete_Subscript ?_
  | with_reducible refine wpAny_AugAssign_AttributeAny ?_
  | with_reducible refine wpAny_execs_nil ?_
  | with_reducible refine wpAny_Constant_none ?_
  | with_reducible refine spliced_none ?_
  | with_reducible refine ea_none ?_
  | ((with_reducible refine ea_plain ?_ ?he); (case he => rfl))
  | ((with_reducible refine' methodCall_KW (pl := ?pl) (he := ?he) ?_); (case he => rfl))
  | walk_at "nm"
  | ((with_reducible refine spliced_more ?_ (he := ?he)); (case he => rfl)))
local macro_rules | `(tactic| walk_at "vv") => `(tactic| repeat walk_at "v")
namespace L2
variable {prog : Program} {w : World} {K : Frag} {H : Option Value} {n : Nat} {σ : Hp}
structure MA where
  fd : Addr
  cd' : Addr
  ff : Addr
  cf' : Addr
  cd : Addr
  cn : Addr
  cw : Addr
  ld : Addr
  lw : Addr
  now : Addr
  draws : List Int
  wants : List Int
abbrev MA.Ok (m : MA) (σ : Hp) : Prop := Made2 σ m.fd m.cd' m.ff m.cf' m.cd m.cn m.cw m.ld m.lw m.now m.draws m.wants
def MA.fixd (m : MA) : List Addr := [m.fd, m.cd', m.ff, m.cf', m.cd, m.cn, m.cw, m.ld, m.lw]
theorem MA.Ok.mono {m : MA} {σ σ' : Hp} (h : m.Ok σ) (k : ∀ a ∈ m.fixd, ∀ x, σ a = some x → σ' a = some x) : m.Ok σ' := by
  obtain ⟨vs, h1, h2⟩ := h.ld
  obtain ⟨ws, h3, h4⟩ := h.lw
  exact ⟨k _ (by simp [MA.fixd]) _ h.fd, k _ (by simp [MA.fixd]) _ h.cd', k _ (by simp [MA.fixd]) _ h.ff, k _ (by simp [MA.fixd]) _ h.cf', k _ (by simp [MA.fixd]) _ h.cd, k _ (by simp [MA.fixd]) _ h.cn, k _ (by simp [MA.fixd]) _ h.cw,
    ⟨vs, k _ (by simp [MA.fixd]) _ h1, h2⟩, ⟨ws, k _ (by simp [MA.fixd]) _ h3, h4⟩⟩
theorem MA.Ok.there {m : MA} {σ : Hp} (h : m.Ok σ) : ∀ a ∈ m.fixd, σ a ≠ none := by
  obtain ⟨vs, h1, h2⟩ := h.ld
  obtain ⟨ws, h3, h4⟩ := h.lw
  intro a ha
  simp only [MA.fixd, List.mem_cons, List.not_mem_nil, or_false] at ha
  rcases ha with rfl | rfl | rfl | rfl | rfl | rfl | rfl | rfl | rfl
  · rw [h.fd]; simp
  · rw [h.cd']; simp
  · rw [h.ff]; simp
  · rw [h.cf']; simp
  · rw [h.cd]; simp
  · rw [h.cn]; simp
  · rw [h.cw]; simp
  · rw [h1]; simp
  · rw [h3]; simp

theorem hp3 {base : Heap} {os : OsState} {fs : List (Env × Nm)} {s : Shared} {P c' f : Addr} {t x y z0 : AO} {goal : Prop} (r : R prog w base os fs (((σ.set P t).set c' x).set f y) s) (hP : σ P = some z0) (hf : σ f = none) (hc : σ c' = none) (hne : c' ≠ f)
    (k : ∀ σ', (∀ {b z}, b ≠ P → σ b = some z → σ' b = some z) → σ' P = some t → σ' c' = some x → σ' f = some y → (∀ {b}, σ' b = none → σ b = none) → R prog w base os fs σ' s → goal) : goal := by
  have p1 : P ≠ f := fun e => by rw [e, hf] at hP; cases hP
  have p2 : P ≠ c' := fun e => by rw [e, hc] at hP; cases hP
  refine k _ (fun {b z} h e => ?_) (by rw [Hp.set_ne _ _ p1, Hp.set_ne _ _ p2]; exact Hp.set_self _ _ _) (by rw [Hp.set_ne _ _ hne]; exact Hp.set_self _ _ _) (Hp.set_self _ _ _) (fun {b} e => ?_) r
  · have z1 : b ≠ f := fun q => by rw [q, hf] at e; cases e
    have z2 : b ≠ c' := fun q => by rw [q, hc] at e; cases e
    rw [Hp.set_ne _ _ z1, Hp.set_ne _ _ z2, Hp.set_ne _ _ h]; exact e
  · by_cases z1 : b = f
    · rw [z1, Hp.set_self] at e; cases e
    · rw [Hp.set_ne _ _ z1] at e
      by_cases z2 : b = c'
      · rw [z2, Hp.set_self] at e; cases e
      · rw [Hp.set_ne _ _ z2] at e
        by_cases z3 : b = P
        · rw [z3, Hp.set_self] at e; cases e
        · rw [Hp.set_ne _ _ z3] at e; exact e

theorem front {A : Around} {base : Heap} {os : OsState} {env : Env} {fs : List (Env × Nm)} {m : Nm} {s : Shared} {E : Value → Shared → Prop} {c P ls cd cn cw : Addr} {vs : List Value} {ns : List Int} {Q : Flow → Shared → Prop}
    (a : Act K none n A base (env :: fs.map (·.1))) (B : BmAt base) (C : CodeK K c P) (hcode : env.code = .ref c) (hq : env.qual = "law.<locals>.") (hsc : env.scope = fnScope s_law) (hcl : env.cells = [(("wants" : Str), cw), (("now" : Str), cn), (("draws" : Str), cd)]) (r : R prog w base os ((env, m) :: fs) σ s)
    (hl : base.IsList ls vs.toArray) (hi : IntsAre vs ns) (hlen : ns.length ≤ 63) (hm : m "script" = some (.ref ls)) (hcw : σ cw = some (.cell none)) (hcn : σ cn = some (.cell none)) (hcd : σ cd = some (.cell none)) (n1 : cd ≠ cn) (n2 : cd ≠ cw) (n3 : cn ≠ cw) (hP : σ P = some (.obj (tabObj #[])))
    (fin : ∀ (M : MA) m' σ' s' tr t0, R prog w base os ((env, m') :: fs) σ' s' → M.draws = drawsOf ns → M.wants = wantsOf ns → M.cd = cd → M.cn = cn → M.cw = cw → M.Ok σ' → σ' M.now = some (.list [.int 0 t0]) → M.now ∉ M.fixd → m' "room" = some (.int (roomOf ns) tr) → m' "drawn" = some (.ref M.fd) → m' "furthest" = some (.ref M.ff) → (∃ ps, σ' P = some (.obj (tabObj ps))) → P ∉ M.fixd → P ≠ M.now →
      wpAny (model prog w) A (execs ((fnBody s_law).drop 6) env) Q E s') :
    wpAny (model prog w) A (execs (fnBody s_law) env) Q E s := by
  have fk := a.head.2.1
  have hvl := hi.length
  -- room = (script + [0])[0] % 4 + 1
  refine wpAny_execs_cons ?_
  walk_at "vv"
  refine v_list (base := base) (os := os) (fs := fs) ?_
  walk_at "vv"
  refine v_int r fun s t1 r => ?_
  walk_at "vv"
  refine ⟨by simp, _, _, r, fun d1 s hd1 r => ?_⟩
  refine v_bconcat r hl (Hp.set_self _ _ _) (by simp; omega) fun d2 s hd2 r => ?_
  refine v_int r fun s t2 r => ?_
  have hit : ∃ t, (vs ++ [Value.int 0 t1])[0]? = some (.int ((ns ++ [0]).headD 0) t) := by
    cases hi with
    | nil => exact ⟨t1, rfl⟩
    | cons n t h => exact ⟨t, rfl⟩
  obtain ⟨th, hth⟩ := hit
  refine v_litem (k := 0) r (Hp.set_self _ _ _) (by simp; omega) hth ?_ (by with_unfolding_all rfl)
  refine v_int r fun s t3 r => ?_
  refine v_mod r (by omega) fun s t4 r => ?_
  refine v_int r fun s t5 r => ?_
  refine v_add r fun s tr r => ?_
  walk_at "st"; rename_i s r
  have hr0 : (ns ++ [0]).headD 0 % 4 + 1 = roomOf ns := rfl
  rw [hr0] at r
  generalize hm1 : mset m "room" (.int (roomOf ns) tr) = m1 at r
  have h1 : m1 "room" = some (.int (roomOf ns) tr) := by rw [← hm1]; exact if_pos rfl
  have h2 : m1 "script" = some (.ref ls) := by rw [← hm1]; walk_at "lk"
  have up1 : ∀ b, σ b ≠ none → ((σ.set d1 (.list [.int 0 t1])).set d2 (.list (vs ++ [.int 0 t1]))) b = σ b := fun b hb => by
    have q1 : b ≠ d1 := fun e => hb (by rw [e]; exact hd1)
    have q2 : b ≠ d2 := fun e => by rw [← e, Hp.set_ne _ _ q1] at hd2; exact hb hd2
    rw [Hp.set_ne _ _ q2, Hp.set_ne _ _ q1]
  generalize ((σ.set d1 (.list [.int 0 t1])).set d2 (.list (vs ++ [.int 0 t1]))) = σ1 at r up1
  have up1' : ∀ {b : Addr} {x : AO}, σ b = some x → σ1 b = some x := fun {b x} e => by rw [up1 b (by rw [e]; simp)]; exact e
  -- wants, draws
  refine wpAny_execs_cons ?_
  refine comp_wants (cc := cw) a hsc r hl hi hlen h2 (by rw [hcl]; rfl) (up1' hcw) fun lw yw σ2 s hyw hlw0 hlw hcw2 up2 r => ?_
  have up2' : ∀ {b : Addr} {x : AO}, b ≠ cw → σ1 b = some x → σ2 b = some x := fun {b x} h e => by rw [up2 b h (by rw [e]; simp)]; exact e
  refine wpAny_execs_cons ?_
  refine comp_draws (cc := cd) a hsc r hl hi hlen h2 (by rw [hcl]; rfl) (up2' n2 (up1' hcd)) fun ld yd σ3 s hyd hld0 hld hcd3 up3 r => ?_
  have up3' : ∀ {b : Addr} {x : AO}, b ≠ cd → σ2 b = some x → σ3 b = some x := fun {b x} h e => by rw [up3 b h (by rw [e]; simp)]; exact e
  -- now = [0]
  refine wpAny_execs_cons ?_
  walk_at "vv"
  refine v_list (base := base) (os := os) (fs := fs) ?_
  walk_at "vv"
  refine v_int r fun s t6 r => ?_
  walk_at "vv"
  refine ⟨by simp, _, _, r, fun now s hnow r => ?_⟩
  have hcn3 : σ3 cn = some (.cell none) := up3' n1.symm (up2' n3 (up1' hcn))
  have ncn : cn ≠ now := fun e => by rw [← e, hcn3] at hnow; cases hnow
  refine v_storecell fk r (kof hsc (by kernel_rfl)) (by rw [hcl]; rfl) (v₀ := none) (by rw [Hp.set_ne _ _ ncn]; exact hcn3) fun s r => ?_
  have up4 : ∀ {b : Addr} {x : AO}, b ≠ cn → σ3 b = some x → ((σ3.set now (.list [.int 0 t6])).set cn (.cell (some (.ref now)))) b = some x := fun {b x} h e => by
    have q : b ≠ now := fun z => by rw [z, hnow] at e; cases e
    rw [Hp.set_ne _ _ h, Hp.set_ne _ _ q]; exact e
  have hnow4 : ((σ3.set now (.list [.int 0 t6])).set cn (.cell (some (.ref now)))) now = some (.list [.int 0 t6]) := by rw [Hp.set_ne _ _ ncn.symm]; exact Hp.set_self _ _ _
  have hcn4 : ((σ3.set now (.list [.int 0 t6])).set cn (.cell (some (.ref now)))) cn = some (.cell (some (.ref now))) := Hp.set_self _ _ _
  have pcw : P ≠ cw := fun e => by rw [e, hcw] at hP; cases hP
  have pcd : P ≠ cd := fun e => by rw [e, hcd] at hP; cases hP
  have pcn : P ≠ cn := fun e => by rw [e, hcn] at hP; cases hP
  have hP4 := up4 pcn (up3' pcd (up2' pcw (up1' hP)))
  have lwcd : lw ≠ cd := fun e => by have := up1' hcd; rw [← e, hlw0] at this; cases this
  have lwcn : lw ≠ cn := fun e => by have := up1' hcn; rw [← e, hlw0] at this; cases this
  have ldcn : ld ≠ cn := fun e => by have := up2' n3 (up1' hcn); rw [← e, hld0] at this; cases this
  have hlw4 := up4 lwcn (up3' lwcd hlw)
  have hld4 := up4 ldcn hld
  have hcw4 := up4 n3.symm (up3' n2.symm hcw2)
  have hcd4 := up4 n1 hcd3
  generalize ((σ3.set now (.list [.int 0 t6])).set cn (.cell (some (.ref now)))) = σ4 at r hnow4 hcn4 hP4 hlw4 hld4 hcw4 hcd4
  -- def drawn, def furthest
  refine wpAny_execs_cons ?_
  refine v_defnew (clos := [(("now" : Str), cn), (("draws" : Str), cd)]) a r B hcode C hP4 (by simp [TriplesOk]) (by simp [codeAmong]) (by rw [hcl]; rfl) rfl rfl rfl rfl fun fd cd' s hfd hcd' hne r => ?_
  have q1 : qualnameIn env "drawn" "drawn" = qd := by
    unfold qualnameIn
    rw [kof (k := .local) hsc (by kernel_rfl), hq]
    exact (by decide +kernel : (if (some NameKind.local == some NameKind.globalExplicit) = true then ("drawn" : Str) else ("law.<locals>." : Str) ++ ("drawn" : Str)) = qd)
  have q2 : qualnameIn env "furthest" "furthest" = qf := by
    unfold qualnameIn
    rw [kof (k := .local) hsc (by kernel_rfl), hq]
    exact (by decide +kernel : (if (some NameKind.local == some NameKind.globalExplicit) = true then ("furthest" : Str) else ("law.<locals>." : Str) ++ ("furthest" : Str)) = qf)
  simp only [q1] at r
  have pfd : P ≠ fd := fun e => by rw [e, hfd] at hP4; cases hP4
  have pcd' : P ≠ cd' := fun e => by rw [e, hcd'] at hP4; cases hP4
  refine hp3 r hP4 hfd hcd' hne fun σ5 u1 u2 u3 u4 u5 r => ?_
  refine v_store a r (kof hsc (by kernel_rfl)) fun s r => ?_
  refine wpAny_execs_cons ?_
  refine v_defnew (clos := [(("wants" : Str), cw), (("now" : Str), cn)]) a r B hcode C u2 (by simp [TriplesOk, rawInt]) (by simp [codeAmong, rawInt]) (by rw [hcl]; rfl) rfl rfl rfl rfl fun ff cf' s hff hcf' hne2 r => ?_
  simp only [q2] at r
  have pff : P ≠ ff := fun e => by rw [e, hff] at u2; cases u2
  have pcf' : P ≠ cf' := fun e => by rw [e, hcf'] at u2; cases u2
  refine hp3 r u2 hff hcf' hne2 fun σ6 w1 w2 w3 w4 w5 r => ?_
  refine v_store a r (kof hsc (by kernel_rfl)) fun s r => ?_
  have pld : P ≠ ld := fun e => by rw [e, hld4] at hP4; cases hP4
  have plw : P ≠ lw := fun e => by rw [e, hlw4] at hP4; cases hP4
  have pnow : P ≠ now := fun e => by rw [e, hnow4] at hP4; cases hP4
  have up6 : ∀ {b : Addr} {x : AO}, b ≠ P → σ4 b = some x → σ6 b = some x := fun h e => w1 h (u1 h e)
  have k1 := w1 pfd.symm u4
  have k2 := w1 pcd'.symm u3
  have hnow6 := up6 pnow.symm hnow4
  have nlw : now ≠ lw := fun e => by have := up3' lwcd hlw; rw [← e, hnow] at this; cases this
  have nld : now ≠ ld := fun e => by rw [e, hld] at hnow; cases hnow
  have hok : MA.Ok ⟨fd, cd', ff, cf', cd, cn, cw, ld, lw, now, drawsOf ns, wantsOf ns⟩ σ6 := ⟨k1, k2, w4, w3, up6 pcd.symm hcd4, up6 pcn.symm hcn4, up6 pcw.symm hcw4, ⟨yd, up6 pld.symm hld4, hyd⟩, ⟨yw, up6 plw.symm hlw4, hyw⟩⟩
  refine fin ⟨fd, cd', ff, cf', cd, cn, cw, ld, lw, now, drawsOf ns, wantsOf ns⟩ _ σ6 s tr t6 r rfl rfl rfl rfl rfl hok hnow6 ?_ (by walk_at "lk") (by walk_at "lk") (by walk_at "lk") ⟨_, w2⟩ ?_ pnow
  · simp only [MA.fixd, List.mem_cons, List.not_mem_nil, or_false, not_or]
    refine ⟨fun e => ?_, fun e => ?_, fun e => ?_, fun e => ?_, fun e => ?_, fun e => ?_, fun e => ?_, nld, nlw⟩
    · rw [e, k1] at hnow6; cases hnow6
    · rw [e, k2] at hnow6; cases hnow6
    · rw [e, w4] at hnow6; cases hnow6
    · rw [e, w3] at hnow6; cases hnow6
    · rw [e, hcd4] at hnow4; cases hnow4
    · rw [e, hcn4] at hnow4; cases hnow4
    · rw [e, hcw4] at hnow4; cases hnow4
  · simp only [MA.fixd, List.mem_cons, List.not_mem_nil, or_false, not_or]
    exact ⟨pfd, pcd', pff, pcf', pcd, pcn, pcw, pld, plw⟩
end L2
end Mine
namespace Mine
namespace L2
variable {prog : Program} {w : World} {K : Frag} {n : Nat}
structure Set0 (σ : Hp) (room : Nat) (lw now : Addr) (ws : List Int) : Prop where
  r1 : 1 ≤ room
  r2 : room ≤ 10
  hlw : ∃ vs, σ lw = some (.list vs) ∧ IntsAre vs ws
  len : ws.length ≤ 63
  hnow : ∃ p t, σ now = some (.list [.int (p : Nat) t])
  ne : lw ≠ now
def Runs (prog : Program) (w : World) (K : Frag) (run : Addr) (room : Nat) (lw now : Addr) (σ₀ σ₁ : Hp) (x : Addr) (Res : Nat → Prop) : Prop :=
  ∀ tr, CallT prog w K none 30 (.ref run) ⟨[.ref x, .int room tr, .ref lw, .ref now], []⟩ σ₁ (fun v σ' => (∃ m t, v = .int (m : Nat) t ∧ Res m) ∧ (∃ p t, σ' now = some (.list [.int (p : Nat) t])) ∧ ∀ a z, a ≠ now → σ₀ a = some z → σ' a = some z) (fun _ _ => False)
def Makes (prog : Program) (w : World) (K : Frag) (run : Addr) (room : Nat) (lw now : Addr) (σ₀ : Hp) (C : Addr) (args : List Value) (Res : Nat → Prop) : Prop :=
  CallT prog w K none 10 (.ref C) ⟨args, []⟩ σ₀ (fun v σ₁ => ∃ x, v = .ref x ∧ (∀ a z, σ₀ a = some z → σ₁ a = some z) ∧ Runs prog w K run room lw now σ₀ σ₁ x Res) (fun _ _ => False)

theorem runs_of (R : RunF K) {room : Nat} {lw now : Addr} {ws : List Int} {σ₀ σ₁ : Hp} {I : Info} {Ω : Type} {P : Pol Ω} {fixd : List Addr} {ω₀ : Ω} {Res : Nat → Prop} (Z : Set0 σ₀ room lw now ws) (S : ∀ O', Serve prog w K I room now P fixd O') (hlv : ∀ O', (S O').lvl + 3 ≤ 29) (hsl : ∀ O', ws.length ≤ (S O').len) (hω : P.held ω₀ = [])
    (ext : ∀ a z, σ₀ a = some z → σ₁ a = some z) (start : ∀ O' σ', O' now → (∀ a x, σ₁ a = some x → σ' a = some x) → (∀ a, O' a → σ' a ≠ none ∧ (σ₀ a ≠ none ∨ σ₁ a = none)) → (S O').pre σ' ω₀) (hfx : ∀ a ∈ fixd, σ₀ a ≠ none ∧ a ≠ now) (hres : ∀ m, Serves P room ws 0 ω₀ m → Res m) :
    Runs prog w K R.run room lw now σ₀ σ₁ I.x Res := by
  intro tr
  obtain ⟨vs, h1, h2⟩ := Z.hlw
  obtain ⟨p, t, h3⟩ := Z.hnow
  refine (call_run (O := fun a => σ₀ a ≠ none) R.hrun R.hE R.hL R.hM S hlv hsl hω start (fun a ha => ⟨?_, hfx a ha⟩) Z.r1 (ext _ _ h1) h2 (by have := Z.len; omega) (ext _ _ h3) (by show σ₀ now ≠ none; rw [h3]; simp) (by show σ₀ lw ≠ none; rw [h1]; simp) Z.ne).mono (fun v σ' ⟨⟨m, t, q1, q2⟩, q3, q4⟩ => ⟨⟨m, t, q1, hres m q2⟩, q3, fun a z ha e => q4 a z (by show σ₀ a ≠ none; rw [e]; simp) ha (ext a z e)⟩) fun _ _ x => x
  obtain ⟨z, hz⟩ := Option.ne_none_iff_exists'.mp (hfx a ha).1
  rw [ext a z hz]; simp

theorem tight0 {I : Info} {room : Nat} (h : I.most = room) : Tight I ⟨[], [], 0⟩ := ⟨rfl, by simp, by rw [h]; simp⟩
theorem ext_of {σ σ' : Hp} {fp : List Addr} (h1 : ∀ a ∈ fp, σ a = none) (h2 : ∀ a, a ∉ fp → σ' a = σ a) : ∀ a z, σ a = some z → σ' a = some z := fun a z e => by
  rw [h2 a (fun q => by rw [h1 a q] at e; cases e)]; exact e
theorem out_of {σ σ' : Hp} {O : Addr → Prop} {fp : List Addr} (h1 : ∀ a ∈ fp, σ a = none) (dom : ∀ a ∈ fp, σ' a ≠ none) {σ'' : Hp} (h : ∀ a, O a → σ'' a ≠ none ∧ (σ a ≠ none ∨ σ' a = none)) : ∀ a, O a → a ∉ fp := fun a ha q => by
  rcases (h a ha).2 with h | h
  · exact h (h1 a q)
  · exact dom a q h
theorem same_of {σ σ' : Hp} {fp : List Addr} (dom : ∀ a ∈ fp, σ a ≠ none) (h : ∀ a x, σ a = some x → σ' a = some x) : ∀ a ∈ fp, σ' a = σ a := fun a ha => by
  obtain ⟨x, hx⟩ := Option.ne_none_iff_exists'.mp (dom a ha)
  rw [hx]; exact h a x hx

theorem made_cache (R : RunF K) {C : Addr} (ok : ClsOK K C) (ka : KA K C) (kf : CacheC.KF K C) (ki : CacheC.KI K C) (hset : FnIs K ka.set s_setitem .none) (hget : FnIs K ka.get s_getitem .none)
    {room : Nat} {lw now : Addr} {ws : List Int} {σ₀ : Hp} {tk : Tok} (Z : Set0 σ₀ room lw now ws) : Makes prog w K R.run room lw now σ₀ C [.int room tk] (fun m => m = P2.ordRun false room ws []) := by
  refine ((CacheC.make_plain (n := 6) ki ok (Int.natCast_nonneg _)).lower (by decide)).mono (fun v σ₁ ⟨I, mm, e1, hC, hd, hm, rb, h1, h2⟩ => ?_) fun _ _ x => x
  subst hC
  refine ⟨I.x, e1, ext_of h1 h2, ?_⟩
  have dom : ∀ a ∈ I.x :: baseFp I, σ₁ a ≠ none := fun a ha => rb.dom ha
  let C' : ∀ O', Cl prog w K I B now [] O' := fun O' => clCache ⟨ka, ok, R.hV⟩ kf hset hget
  refine runs_of R (P := (C' fun _ => False).pol) (fixd := []) (ω₀ := (⟨[], [], 0⟩, 0)) Z (fun O' => (C' O').serve hd hm Z.r2 Z.r1) (fun O' => by show 8 + 2 + 3 ≤ 29; decide) (fun O' => by show ws.length ≤ 1000; have := Z.len; omega) rfl (ext_of h1 h2)
    (fun O' σ' On ex ha => ⟨⟨On, out_of h1 dom ha⟩, tight0 hm, mm, rb.frame (same_of dom ex), ⟨fun q => absurd hd q⟩⟩) (fun a ha => by cases ha) fun m hs => ?_
  have o : Ord (C' fun _ => False).pol (fun ω => ω.1.data.map (·.1)) (⟨[], [], 0⟩, 0) := ⟨by simp, fun k => by simp [aget, Cl.pol, C', clCache], by simp [Cl.pol, C', clCache]⟩
  refine serves_ord (P := (C' fun _ => False).pol) (ks := fun ω => ω.1.data.map (·.1)) (touch := false) Z.r1 ?_ ?_ ?_ ws o (by simp [Cl.pol, C', clCache]) hs
  · intro ω p k ω' h1 h2
    exact congrArg (·.map (·.1)) h1
  · rintro ω p k ω' o hk ⟨v, rfl⟩
    show (aput ω.1.data k v).map (·.1) = ω.1.data.map (·.1) ++ [k]
    rw [aput_new (show aget ω.1.data k = none from hk), List.map_append]; rfl
  · rintro ω p k y ω' o hk ⟨ω₂, v, ⟨vy, r, hr⟩, e, rfl⟩
    have hr : ω.1.data = (y, vy) :: r := hr
    have e : ω₂ = ω.1.del I y := e
    have hnd : (ω.1.data.map (·.1)).Nodup := o.ndh
    rw [hr] at hnd
    have hy : y ∉ r.map (·.1) := (List.nodup_cons.mp hnd).1
    have hd2 : ω₂.data = r := by
      rw [e]
      show adel ω.1.data y = r
      rw [hr]
      unfold adel
      rw [List.filter_cons_of_neg (by simp)]
      exact List.filter_eq_self.mpr fun z hz => by
        simp only [decide_eq_true_eq]
        rintro rfl
        exact hy (List.mem_map_of_mem (f := (·.1)) hz)
    have hk2 : aget ω₂.data k = none := by
      rw [e]; exact adel_none hk
    refine ⟨r.map (·.1), by show ω.1.data.map (·.1) = _; rw [hr]; rfl, ?_⟩
    show (aput ω₂.data k v).map (·.1) = _
    rw [aput_new hk2, List.map_append, hd2]; rfl

theorem made_fifo (R : RunF K) {C : Addr} (ok : ClsOK K C) (ka : KA K C) (kf : Fifo.KF K C) (ki : Fifo.KI K C) (hset : ka.set = kf.set) (hget : FnIs K ka.get s_getitem .none)
    {room : Nat} {lw now : Addr} {ws : List Int} {σ₀ : Hp} {tk : Tok} (Z : Set0 σ₀ room lw now ws) : Makes prog w K R.run room lw now σ₀ C [.int room tk] (fun m => m = P2.ordRun false room ws []) := by
  refine ((Fifo.make_plain (n := 6) ki ok (Int.natCast_nonneg _)).lower (by decide)).mono (fun v σ₁ ⟨I, od, mm, e1, hC, hd, hm, ro, h1, h2⟩ => ?_) fun _ _ x => x
  subst hC
  refine ⟨I.x, e1, ext_of h1 h2, ?_⟩
  have dom : ∀ a ∈ I.x :: ordFp I od, σ₁ a ≠ none := fun a ha => ro.dom ha
  let C' : ∀ O', Cl prog w K I Fifo.Om now [] O' := fun O' => clFifo ⟨ka, ok, R.hV⟩ kf od hset hget
  refine runs_of R (P := (C' fun _ => False).pol) (fixd := []) (ω₀ := (⟨⟨[], [], 0⟩, []⟩, 0)) Z (fun O' => (C' O').serve hd hm Z.r2 Z.r1) (fun O' => by show 8 + 2 + 3 ≤ 29; decide) (fun O' => by show ws.length ≤ 1000; have := Z.len; omega) rfl (ext_of h1 h2)
    (fun O' σ' On ex ha => ⟨⟨On, out_of h1 dom ha⟩, tight0 hm, mm, ro.frame (same_of dom ex), ⟨by simp, fun k => by simp [B.has, aget], fun q => absurd hd q⟩⟩) (fun a ha => by cases ha) fun m hs => ?_
  have o : Ord (C' fun _ => False).pol (fun ω => ω.1.ks) (⟨⟨[], [], 0⟩, []⟩, 0) := ⟨by simp, fun k => by simp [aget, Cl.pol, C', clFifo], by simp [Cl.pol, C', clFifo]⟩
  have nof : ∀ {ks : List Int} {k : Int}, k ∉ ks → ks.filter (· ≠ k) = ks := fun h => List.filter_eq_self.mpr fun a ha => by simp; rintro rfl; exact h ha
  refine serves_ord (P := (C' fun _ => False).pol) (ks := fun ω => ω.1.ks) (touch := false) Z.r1 ?_ ?_ ?_ ws o (by simp [Cl.pol, C', clFifo]) hs
  · intro ω p k ω' h1 h2
    have h2 : ω' = (ω.1, p) := h2
    rw [h2]; rfl
  · rintro ω p k ω' o hk ⟨v, rfl⟩
    have hk' : k ∉ ω.1.ks := fun q => by have := (o.mem k).mp q; rw [hk] at this; cases this
    show ω.1.ks.filter (· ≠ k) ++ [k] = _
    rw [nof hk']
  · rintro ω p k y ω' o hk ⟨ω₂, v, ⟨r, hr, hr2, hy⟩, e, rfl⟩
    have hk' : k ∉ ω.1.ks := fun q => by have := (o.mem k).mp q; rw [hk] at this; cases this
    have hr : ω.1.ks = y :: r := hr
    rw [hr] at hk'
    refine ⟨r, hr, ?_⟩
    show ω₂.ks.filter (· ≠ k) ++ [k] = _
    rw [hr2, nof fun q => hk' (.tail _ q)]

theorem made_lru (R : RunF K) {C : Addr} (ok : ClsOK K C) (ka : KA K C) (kf : Lru.KF K C) (ki : Lru.KI K C) (hset : ka.set = kf.set) (hget : ka.get = kf.get)
    {room : Nat} {lw now : Addr} {ws : List Int} {σ₀ : Hp} {tk : Tok} (Z : Set0 σ₀ room lw now ws) : Makes prog w K R.run room lw now σ₀ C [.int room tk] (fun m => m = P2.ordRun true room ws []) := by
  refine ((Lru.make_plain (n := 6) ki ok (Int.natCast_nonneg _)).lower (by decide)).mono (fun v σ₁ ⟨I, od, mm, e1, hC, hd, hm, ro, h1, h2⟩ => ?_) fun _ _ x => x
  subst hC
  refine ⟨I.x, e1, ext_of h1 h2, ?_⟩
  have dom : ∀ a ∈ I.x :: ordFp I od, σ₁ a ≠ none := fun a ha => ro.dom ha
  let C' : ∀ O', Cl prog w K I Lru.Om now [] O' := fun O' => clLru ⟨ka, ok, R.hV⟩ kf od hset hget
  refine runs_of R (P := (C' fun _ => False).pol) (fixd := []) (ω₀ := (⟨⟨[], [], 0⟩, []⟩, 0)) Z (fun O' => (C' O').serve hd hm Z.r2 Z.r1) (fun O' => by show 8 + 2 + 3 ≤ 29; decide) (fun O' => by show ws.length ≤ 1000; have := Z.len; omega) rfl (ext_of h1 h2)
    (fun O' σ' On ex ha => ⟨⟨On, out_of h1 dom ha⟩, tight0 hm, mm, ro.frame (same_of dom ex), ⟨by simp, fun k => by simp [B.has, aget], fun q => absurd hd q⟩⟩) (fun a ha => by cases ha) fun m hs => ?_
  have o : Ord (C' fun _ => False).pol (fun ω => ω.1.ks) (⟨⟨[], [], 0⟩, []⟩, 0) := ⟨by simp, fun k => by simp [aget, Cl.pol, C', clLru], by simp [Cl.pol, C', clLru]⟩
  have nof : ∀ {ks : List Int} {k : Int}, k ∉ ks → ks.filter (· ≠ k) = ks := fun h => List.filter_eq_self.mpr fun a ha => by simp; rintro rfl; exact h ha
  refine serves_ord (P := (C' fun _ => False).pol) (ks := fun ω => ω.1.ks) (touch := true) Z.r1 ?_ ?_ ?_ ws o (by simp [Cl.pol, C', clLru]) hs
  · intro ω p k ω' h1 h2
    have h2 : ω' = (⟨ω.1.b, Lru.toEnd ω.1.ks k⟩, p) := h2
    rw [h2]; rfl
  · rintro ω p k ω' o hk ⟨v, rfl⟩
    have hk' : k ∉ ω.1.ks := fun q => by have := (o.mem k).mp q; rw [hk] at this; cases this
    show ω.1.ks.filter (· ≠ k) ++ [k] = _
    rw [nof hk']
  · rintro ω p k y ω' o hk ⟨ω₂, v, ⟨r, hr, hr2, hy⟩, e, rfl⟩
    have hk' : k ∉ ω.1.ks := fun q => by have := (o.mem k).mp q; rw [hk] at this; cases this
    have hr : ω.1.ks = y :: r := hr
    rw [hr] at hk'
    refine ⟨r, hr, ?_⟩
    show ω₂.ks.filter (· ≠ k) ++ [k] = _
    rw [hr2, nof fun q => hk' (.tail _ q)]

theorem made_lfu (R : RunF K) {C L : Addr} (ok : ClsOK K C) (ka : KA K C) (kf : Lfu.KF K C) (ki : Lfu.KI K C L) (hLL : L = kf.L) (hset : ka.set = kf.set) (hget : ka.get = kf.get)
    {room : Nat} {lw now : Addr} {ws : List Int} {σ₀ : Hp} {tk : Tok} (Z : Set0 σ₀ room lw now ws) : Makes prog w K R.run room lw now σ₀ C [.int room tk] (fun m => P2.Run room ws 0 P2.none m) := by
  refine ((Lfu.make_plain (n := 6) ki ok (Int.natCast_nonneg _)).lower (by decide)).mono (fun v σ₁ ⟨I, D, mm, e1, hC, hd, hm, hD, lc, h1, h2⟩ => ?_) fun _ _ x => x
  subst hC
  refine ⟨I.x, e1, ext_of h1 h2, ?_⟩
  have dom : ∀ a ∈ Lfu.foot I D [], σ₁ a ≠ none := fun a ha => lc.lr.dom ha
  let C' : ∀ O', Cl prog w K I Lfu.Om now [] O' := fun O' => clLfu ⟨ka, ok, R.hV⟩ kf D (hD.trans hLL) hset hget
  refine runs_of R (P := (C' fun _ => False).pol) (fixd := []) (ω₀ := (⟨⟨[], [], 0⟩, []⟩, 0)) Z (fun O' => (C' O').serve hd hm Z.r2 Z.r1) (fun O' => by show 8 + 2 + 3 ≤ 29; decide) (fun O' => by show ws.length ≤ 1000; have := Z.len; omega) rfl (ext_of h1 h2)
    (fun O' σ' On ex ha => ⟨On, tight0 hm, mm, ⟨⟨[], lc.frame (same_of dom ex), rfl, fun a h => (ha a h).1, fun a q h => out_of h1 dom ha a h q⟩, ⟨fun g h => (by cases h), fun g h => (by cases h), by simp [Lfu.keysOf], fun k => by simp [B.has, aget, Lfu.keysOf], fun q => absurd hd q⟩⟩⟩) (fun a ha => by cases ha) fun m hs => ?_
  have := serves_run ws (by simp [Cl.pol, C', clLfu]) hs
  rw [show ((C' fun _ => False).pol.held (⟨⟨[], [], 0⟩, []⟩, 0)) = [] from rfl, stOf_nil] at this
  exact this
end L2
end Mine
namespace Mine
namespace L2
variable {prog : Program} {w : World} {K : Frag} {n : Nat}
theorem intsAre_of : ∀ {vs : List Value} {ks : List Int}, Rr.IntL vs ks → IntsAre vs ks
  | [], [], _ => .nil
  | [], _ :: _, h => by have := h.1; simp at this
  | _ :: _, [], h => by have := h.1; simp at this
  | v :: vs, k :: ks, h => by
    obtain ⟨t, ht⟩ := h.2 0 k rfl
    have e : v = .int k t := by simpa using ht
    subst e
    exact .cons _ _ (intsAre_of ⟨by have := h.1; simpa using this, fun i x hx => h.2 (i + 1) x (by simpa using hx)⟩)
def Asked (M : MA) (len p : Nat) (σ : Hp) : Prop := M.Ok σ ∧ (∃ t, σ M.now = some (.list [.int (p : Nat) t])) ∧ p < len
theorem Asked.keep {M : MA} {len p : Nat} {σ σ' : Hp} (h : Asked M len p σ) (k : ∀ a, a ∈ M.now :: M.fixd → ∀ x, σ a = some x → σ' a = some x) : Asked M len p σ' := by
  obtain ⟨h1, ⟨t, h2⟩, h3⟩ := h
  exact ⟨h1.mono fun a ha x e => k a (.tail _ ha) x e, ⟨t, k _ (.head _) _ h2⟩, h3⟩
theorem keeper_of {base : Heap} {os : OsState} {fs : List (Env × Nm)} {σ : Hp} {s : Shared} {f c' : Addr} {name qual : Str} {params : Arguments} {body : List Stmt} {scope : Scope} {clos : List (Str × Addr)} (r : R prog w base os fs σ s) (h : σ f = some (.pred (FnObj name qual params body scope clos c'))) :
    ∃ k, (k = Keeper.frame ∨ k = Keeper.machine ∨ k = Keeper.boundFrame) ∧ Looks (model prog w) s.heap (keeperOf (.ref f)) k := by
  obtain ⟨o, h1, doc, pm, ctv, rfl⟩ := r.get h
  exact keeps_F _ ⟨_, _, _, _, h1⟩

theorem choose_drawn {M : MA} {I : Info} {D : Rr.Ad} (hcf : D.cf = M.fd) (hdis : ∀ a ∈ M.now :: M.fixd, a ∉ Rr.fp I D) (hS : nsIn K mainGlobals "sorted" = some none) (hL : nsIn K mainGlobals "len" = some none) (hd : M.draws.length ≤ 63) (p : Nat) :
    Rr.Chooser prog w K D.cf (Rr.fp I D) (Asked M M.draws.length p) (chDrawn M.draws p) 2 where
  keeps := fun r h => by rw [hcf]; exact keeper_of r h.1.fd
  call := fun {σ lk vs ks} ⟨h1, ⟨t, h2⟩, h3⟩ h4 h5 h6 h7 => by
    rw [hcf]
    exact (call_drawn (n := 1) hS hL h1 h2 h3 (by omega) h4 (intsAre_of h5) h6 h7)
  mem := drawn_mem
  stable := fun h k => h.keep fun a ha x e => k a x (hdis a ha) e
theorem choose_far {M : MA} {I : Info} {D : Rr.Ad} (hcf : D.cf = M.ff) (hdis : ∀ a ∈ M.now :: M.fixd, a ∉ Rr.fp I D) (hM : nsIn K mainGlobals "max" = some none) (hw : ∀ x ∈ M.wants, 0 ≤ x ∧ x < 5) (hd : M.wants.length ≤ 63) (p : Nat) :
    Rr.Chooser prog w K D.cf (Rr.fp I D) (Asked M M.draws.length p) (chFar M.wants p) 2 where
  keeps := fun r h => by rw [hcf]; exact keeper_of r h.1.ff
  call := fun {σ lk vs ks} ⟨h1, ⟨t, h2⟩, h3⟩ h4 h5 h6 h7 => by
    rw [hcf]
    exact (call_further (n := 0) hM h1 h2 hw (by omega) h4 (intsAre_of h5) h6 h7)
  mem := far_mem
  stable := fun h k => h.keep fun a ha x e => k a x (hdis a ha) e

theorem made_rr (R : RunF K) {C cf : Addr} (ok : ClsOK K C) (ka : KA K C) (kf : Rr.KF K C) (ki : Rr.KI K C) (hset : ka.set = kf.set) (hget : FnIs K ka.get s_getitem .none)
    {room : Nat} {σ₀ : Hp} {tk : Tok} {M : MA} {ch : Nat → List Int → Int} (Z : Set0 σ₀ room M.lw M.now M.wants) (hM : M.Ok σ₀) (hnn : M.now ∉ M.fixd) (hlen : M.wants.length = M.draws.length)
    (hch : ∀ I D, D.cf = cf → (∀ a ∈ M.now :: M.fixd, a ∉ Rr.fp I D) → ∀ p, Rr.Chooser prog w K D.cf (Rr.fp I D) (Asked M M.draws.length p) (ch p) 2) {Res : Nat → Prop}
    (hres : ∀ (Ω : Type) (P : Pol Ω) (ω₀ : Ω) m, P.held ω₀ = [] → (∀ {ω p k y ω'}, P.full (P.at_ ω p) k y ω' → ∃ ks : List Int, y = ch p ks ∧ ∀ x, x ∈ ks ↔ (aget (P.held ω) x).isSome = true) → Serves P room M.wants 0 ω₀ m → Res m) :
    Makes prog w K R.run room M.lw M.now σ₀ C [.int room tk, .ref cf] Res := by
  refine ((Rr.make_plain (n := 6) ki ok (Int.natCast_nonneg _)).lower (by decide)).mono (fun v σ₁ ⟨I, D, mm, e1, hC, hd, hm, hcf, ro, h1, h2⟩ => ?_) fun _ _ x => x
  subst hC
  refine ⟨I.x, e1, ext_of h1 h2, ?_⟩
  have dom : ∀ a ∈ I.x :: Rr.fp I D, σ₁ a ≠ none := fun a ha => ro.dom ha
  obtain ⟨p0, t0, hnow⟩ := Z.hnow
  have hdis : ∀ a ∈ M.now :: M.fixd, a ∉ Rr.fp I D := fun a ha q => by
    have := h1 a (.tail _ q)
    rcases List.mem_cons.mp ha with rfl | ha
    · rw [hnow] at this; cases this
    · exact hM.there a ha this
  have Ch := hch I D hcf hdis
  let C' : ∀ O', Cl prog w K I Rr.Om M.now M.fixd O' := fun O' => clRr ⟨ka, ok, R.hV⟩ kf D Ch hset hget (Ctx0 := M.Ok) (len := M.draws.length) (fun h => h.1)
    (fun {σ a x} h q1 q2 q3 => h.mono fun b hb y e => by rw [Hp.set_ne _ _ (fun q => q3 (by rw [← q]; exact hb))]; exact e)
    (fun {p σ a x} h q1 q2 q3 => h.keep fun b hb y e => by
      rw [Hp.set_ne _ _ (fun q => by
        rcases List.mem_cons.mp hb with hb | hb
        · exact q2 (q.symm.trans hb)
        · exact q3 (q ▸ hb))]; exact e)
    (fun {p σ t} h hp => ⟨h.mono fun b hb y e => by rw [Hp.set_ne _ _ (fun q => hnn (by rw [← q]; exact hb))]; exact e, ⟨t, Hp.set_self _ _ _⟩, hp⟩)
  refine runs_of R (P := (C' fun _ => False).pol) (fixd := M.fixd) (ω₀ := (⟨⟨[], [], 0⟩, []⟩, 0)) Z (fun O' => (C' O').serve hd hm Z.r2 Z.r1) (fun O' => by show 2 + 8 + 2 + 3 ≤ 29; decide) (fun O' => by show M.wants.length ≤ M.draws.length; omega) rfl (ext_of h1 h2)
    (fun O' σ' On ex ha => ⟨⟨On, out_of h1 dom ha⟩, tight0 hm, mm, ro.ext ex, ⟨fun k => by simp [B.has, aget], fun q => absurd hd q⟩, hM.mono fun a ha x e => ex a x (ext_of h1 h2 a x e)⟩) (fun a ha => ⟨hM.there a ha, fun q => hnn (q ▸ ha)⟩) fun m hs => ?_
  refine hres _ _ _ m rfl ?_ hs
  rintro ω p k y ω' ⟨ω₂, v, ⟨q1, q2⟩, _⟩
  exact ⟨ω.1.ks, q1, q2⟩

theorem made_drawn (R : RunF K) {C : Addr} (ok : ClsOK K C) (ka : KA K C) (kf : Rr.KF K C) (ki : Rr.KI K C) (hset : ka.set = kf.set) (hget : FnIs K ka.get s_getitem .none) (hS : nsIn K mainGlobals "sorted" = some none)
    {room : Nat} {σ₀ : Hp} {tk : Tok} {M : MA} (Z : Set0 σ₀ room M.lw M.now M.wants) (hM : M.Ok σ₀) (hnn : M.now ∉ M.fixd) (hlen : M.wants.length = M.draws.length) :
    Makes prog w K R.run room M.lw M.now σ₀ C [.int room tk, .ref M.fd] (fun m => P2.Run room M.wants 0 P2.none m) :=
  made_rr R ok ka kf ki hset hget Z hM hnn hlen (fun I D h1 h2 p => choose_drawn h1 h2 hS R.hL (by have := Z.len; omega) p) fun Ω P ω₀ m h0 _ hs => by
    have := serves_run M.wants (by rw [h0]; simp) hs
    rw [h0, stOf_nil] at this
    exact this
theorem made_far (R : RunF K) {C : Addr} (ok : ClsOK K C) (ka : KA K C) (kf : Rr.KF K C) (ki : Rr.KI K C) (hset : ka.set = kf.set) (hget : FnIs K ka.get s_getitem .none) (hX : nsIn K mainGlobals "max" = some none)
    {room : Nat} {σ₀ : Hp} {tk : Tok} {M : MA} (Z : Set0 σ₀ room M.lw M.now M.wants) (hM : M.Ok σ₀) (hnn : M.now ∉ M.fixd) (hlen : M.wants.length = M.draws.length) (hw : ∀ x ∈ M.wants, 0 ≤ x ∧ x < 5) :
    Makes prog w K R.run room M.lw M.now σ₀ C [.int room tk, .ref M.ff] (fun m => P2.Far room M.wants 0 P2.none m) :=
  made_rr R ok ka kf ki hset hget Z hM hnn hlen (fun I D h1 h2 p => choose_far h1 h2 hX hw Z.len p) fun Ω P ω₀ m h0 hf hs => by
    have := serves_far (wants := M.wants) (fun {ω p k y ω'} h x hx => by
      obtain ⟨ks, rfl, hk⟩ := hf h
      exact far_far ((hk x).mpr hx)) M.wants rfl (by rw [h0]; simp) hs
    rw [h0, stOf_nil] at this
    exact this
end L2
end Mine
namespace Mine
set_option pp.deepTerms false
set_option pp.deepTerms.threshold 8
local macro_rules | `(tactic| walk_at "lk") => `(tactic| first | assumption | rfl | (simp only [mset, ofs_inj, String.reduceEq, ↓reduceIte]; first | assumption | rfl) | (simp only [mset, ofs_inj, String.reduceEq, ↓reduceIte]; done))
local macro_rules | `(tactic| walk_at "nm") => `(tactic| (refine v_local (by assumption) (by assumption) (kof (by assumption) (by kernel_rfl)) (by walk_at "lk") ?_ (by kernel_rfl)))
local macro_rules | `(tactic| walk_at "st") => `(tactic| (refine v_store (by assumption) (by assumption) (kof (by assumption) (by kernel_rfl)) fun s r => ?_))
local macro_rules | `(tactic| walk_at "v") => `(tactic| first
  | with_reducible refine wpAny_Return_some ?_
  | with_reducible refine wpAny_Return_none ?_
  | ((with_reducible refine wpAny_Compare1 (hm := ?hm) ?_); (case hm => with_unfolding_all rfl))
  | ((with_reducible refine wpAny_isTrue_Compare1 (hm := ?hm) ?_); (case hm => with_unfolding_all rfl))
  | ((with_reducible refine wpAny_Assign_Name (hs := ?hs) ?_); (case hs => rfl))
  | ((with_reducible refine wpAny_Assign_Subscript (hs := ?hs) ?_); (case hs => rfl))
  | ((with_reducible refine plainObj_wpAny_Assign_Attribute (hs := ?hs) ?_); (case hs => rfl))
  | ((with_reducible refine wpAny_Assign_two (he := ?he) (hw := ?hw) ?_); (case he => rfl); (case hw => rfl))
  | with_reducible refine assign_Attr ?_
  | with_reducible refine assign_Subs ?_
  | with_reducible refine wpAny_assign_Name ?_
  | with_reducible refine Attribute_name ?_
  | with_reducible refine Attribute_any_ ?_
  | with_reducible refine Subscript_ ?_
  | with_reducible refine wpAny_If ?_
  | with_reducible refine wpAny_BinOp ?_
  | with_reducible refine wpAny_UnaryOp ?_
  | with_reducible refine wpAny_Delete ?_
  | with_reducible refine wpAny_deleteEach_cons ?_
  | with_reducible refine wpAny_deleteEach_nil ?_
  | with_reducible refine wpAny_delete_Subscript ?_
  | with_reducible refine wpAny_AugAssign_AttributeAny ?_
  | with_reducible refine wpAny_execs_nil ?_
  | with_reducible refine wpAny_Constant_none ?_
  | with_reducible refine spliced_none ?_
  | with_reducible refine ea_none ?_
  | ((with_reducible refine ea_plain ?_ ?he); (case he => rfl))
  | ((with_reducible refine' methodCall_KW (pl := ?pl) (he := ?he) ?_); (case he => rfl))
  | walk_at "nm"
  | ((with_reducible refine spliced_more ?_ (he := ?he)); (case he => rfl)))
local macro_rules | `(tactic| walk_at "vv") => `(tactic| repeat walk_at "v")
section
variable {prog : Program} {w : World} {K : Frag} {H : Option Value} {n : Nat} {A : Around} {base : Heap} {env : Env} {os : OsState} {fs : List (Env × Nm)} {m : Nm} {σ : Hp} {s : Shared}
  {E : Value → Shared → Prop}
theorem v_le {a b : Int} {t u : Tok} {Q : Value → Shared → Prop} (h : Q (.bool (decide (a ≤ b))) s) : wpAny (model prog w) A (compareOp .LtE (.int a t) (.int b u)) Q E s := le_int h
theorem v_mulS {a b : Int} {t u : Tok} {fs : List (Env × Nm)} {Q : Value → Shared → Prop} (r : R prog w base os fs σ s) (h1 : 0 ≤ a) (h2 : a ≤ 1000) (h : ∀ s' t', R prog w base os fs σ s' → Q (.int (a * b) t') s') : wpAny (model prog w) A (binaryOp .Mult (.int a t) (.int b u)) Q E s :=
  mul_int (h _ _ (r.toks _)) (PySem.IntMulOk.of_left (PySem.intBits_le_64 (by omega) (by omega)))
theorem v_eqrep {l a : Addr} {vs us : List Value} {ns ms : List Int} {k : Nat} {u : Tok} {Q : Value → Shared → Prop} (ac : Act K H (n + 1) A base (env :: fs.map (·.1))) (r : R prog w base os ((env, m) :: fs) σ s) (hl : σ l = some (.list vs)) (hi : IntsAre vs ns) (ha : σ a = some (.list us)) (hj : IntsAre us ms) (hk : k ≤ 100) (hv : vs.length ≤ 100)
    (h : ∀ s', R prog w base os ((env, m) :: fs) σ s' → Q (.bool (decide (ms = (List.replicate k ns).flatten))) s') :
    wpAny (model prog w) A (binaryOp .Mult (.ref l) (.int k u)) (fun v s₂ => wpAny (model prog w) A (compareOp .Eq (.ref a) v) Q E s₂) E s := by
  have hc : ∀ {vs : List Value} {ns : List Int}, IntsAre vs ns → CarriedAll vs (ns.map PyData.int) := fun h => ke_carried h
  refine mul_list_is r.F (r.ledger_news s.heap.objs.size) (r.isList hl) (hc hi) (by omega) (by omega) (by
    have : vs.length * k ≤ 100 * 100 := Nat.mul_le_mul hv hk
    rw [Int.toNat_natCast]; omega) fun h' F' N' hf hL hC => ?_
  have r' := r.of_same (t := s.toks) F' N'
  rw [Int.toNat_natCast] at hL
  have hrep : ∀ k : Nat, IntsAre (List.replicate k vs).flatten (List.replicate k ns).flatten := by
    intro k
    induction k with
    | zero => exact .nil
    | succ j ih => simp only [List.replicate_succ, List.flatten_cons]; exact hi.append ih
  exact ke_eq_ints (r'.isList ha) hL hj (hrep k) (by have := ac.units; unfold cLine at *; omega) (h _ r')
end
namespace L2
variable {prog : Program} {w : World} {K : Frag} {n : Nat} {σ : Hp}
theorem dedup_len : ∀ (ws seen : List Int), (ws.foldl step_dedup seen).length = seen.length + P2.newCount seen ws
  | [], seen => by simp [P2.newCount]
  | w :: ws, seen => by
    rw [List.foldl_cons, dedup_len ws, P2.newCount]
    unfold step_dedup
    by_cases h : w ∈ seen
    · have : (seen.any fun x => x == w) = true := List.any_eq_true.mpr ⟨w, h, by simp⟩
      rw [if_pos this, if_pos h]
    · have : ¬ (seen.any fun x => x == w) = true := fun q => by
        obtain ⟨x, hx, e⟩ := List.any_eq_true.mp q
        exact h (by rw [← (by simpa using e : x = w)]; exact hx)
      rw [if_neg this, if_neg h, List.length_append, List.length_singleton]
      omega
theorem met_len (ws : List Int) : (firstMet (fun i => ws.getD i 0) ws.length).length = P2.newCount [] ws := by
  unfold firstMet
  have e : (List.range ws.length).map (fun i => ws.getD i 0) = ws := by
    apply List.ext_getElem
    · simp
    · intro i h1 h2
      simp [List.getD_eq_getElem?_getD, List.getElem?_eq_getElem h2]
  rw [e, dedup_len]; simp
theorem args_min4 (a b c d : Value) : argsOk "min" ⟨[a, b, c, d], []⟩ := by unfold argsOk; kernel_rfl
theorem args_max2 (a b : Value) : argsOk "max" ⟨[a, b], []⟩ := by unfold argsOk; kernel_rfl

structure Btw (M : MA) (P : Addr) (σ : Hp) : Prop where
  ok : M.Ok σ
  now : ∃ (p : Nat) (t : Tok), σ M.now = some (.list [.int p t])
  tab : ∃ ps, σ P = some (.obj (tabObj ps))
theorem Btw.step {M : MA} {P : Addr} {σ σ' : Hp} (h : Btw M P σ) (hn : M.now ∉ M.fixd) (hP : P ≠ M.now) (k : ∀ a z, a ≠ M.now → σ a = some z → σ' a = some z) (hnow : ∃ (p : Nat) (t : Tok), σ' M.now = some (.list [.int p t])) : Btw M P σ' :=
  ⟨h.ok.mono fun a ha x e => k a x (fun q => hn (q ▸ ha)) e, hnow, let ⟨ps, e⟩ := h.tab; ⟨ps, k _ _ hP e⟩⟩
theorem Btw.ext {M : MA} {P : Addr} {σ σ' : Hp} (h : Btw M P σ) (k : ∀ a z, σ a = some z → σ' a = some z) : Btw M P σ' :=
  ⟨h.ok.mono fun a _ x e => k a x e, let ⟨p, t, e⟩ := h.now; ⟨p, t, k _ _ e⟩, let ⟨ps, e⟩ := h.tab; ⟨ps, k _ _ e⟩⟩
theorem Btw.set0 {M : MA} {P : Addr} {σ : Hp} {room : Nat} (h : Btw M P σ) (r1 : 1 ≤ room) (r2 : room ≤ 10) (hl : M.wants.length ≤ 63) (hn : M.now ∉ M.fixd) : Set0 σ room M.lw M.now M.wants :=
  ⟨r1, r2, h.ok.lw, hl, h.now, fun q => hn (by rw [← q]; simp [MA.fixd])⟩

set_option maxHeartbeats 2000000 in
theorem back {A : Around} {base : Heap} {os : OsState} {env : Env} {fs : List (Env × Nm)} {m : Nm} {s : Shared} {c P : Addr} {room : Nat} {tr : Tok} {M : MA} {Q : Flow → Shared → Prop} (F : LawF K c P)
    (a : Act K none 40 A base (env :: fs.map (·.1))) (hsc : env.scope = fnScope s_law) (hcl : env.cells = [(("wants" : Str), M.cw), (("now" : Str), M.cn), (("draws" : Str), M.cd)]) (r : R prog w base os ((env, m) :: fs) σ s)
    (b0 : Btw M P σ) (hnn : M.now ∉ M.fixd) (hPn : P ≠ M.now) (r1 : 1 ≤ room) (r2 : room ≤ 4) (hlen : M.wants.length ≤ 63) (hwd : M.wants.length = M.draws.length) (hw : ∀ x ∈ M.wants, 0 ≤ x ∧ x < 5)
    (h1 : m "room" = some (.int room tr)) (h2 : m "drawn" = some (.ref M.fd)) (h3 : m "furthest" = some (.ref M.ff))
    (fin : ∀ m' σ' s', R prog w base os ((env, m') :: fs) σ' s' → (∃ ps, σ' P = some (.obj (tabObj ps))) → Q (.ret (.bool true)) s') :
    wpAny (model prog w) A (execs ((fnBody s_law).drop 6) env) Q (fun _ _ => False) s := by
  have fk := a.head.2.1
  -- least = _law_least(room, wants)
  refine wpAny_execs_cons ?_
  walk_at "v"
  refine wpAny_Call_ofName ?_
  refine v_global a r (kof hsc (by kernel_rfl)) F.nleast ?_ (by kernel_rfl)
  refine v_callK (os := os) a F.kleast rfl ?_
  walk_at "vv"
  refine v_cell fk r (kof hsc (by kernel_rfl)) (by rw [hcl]; rfl) b0.ok.cw ?_ (by kernel_rfl)
  walk_at "vv"
  refine ⟨⟨_, _, r⟩, ?_⟩
  obtain ⟨vw, hvw, hiw⟩ := b0.ok.lw
  refine v_told a r (X := fun _ _ => False) (call_least (n := 0) F.hleast F.hR F.R.hL F.R.hM r1 hvw hiw hw) (by omega) (fun v σ1 s ⟨⟨least, tl, hv, l1, l2⟩, ex⟩ r => ?_) fun _ _ _ _ x _ => x.elim
  subst hv
  walk_at "st"; rename_i s r
  have b1 : Btw M P σ1 := b0.ext ex
  -- if _law_run(RRCache(room, furthest), ..) != least: return False
  refine wpAny_execs_cons ?_
  walk_at "v"
  walk_at "v"
  refine wpAny_Call_ofName ?_
  refine v_global a r (kof hsc (by kernel_rfl)) F.R.nrun ?_ (by kernel_rfl)
  refine v_callK (os := os) a F.R.krun rfl ?_
  walk_at "vv"
  refine wpAny_Call_ofName ?_
  refine v_global a r (kof hsc (by kernel_rfl)) F.rr.nC ?_ (by kernel_rfl)
  refine v_callK (os := os) a F.rr.kC rfl ?_
  walk_at "vv"
  refine ⟨⟨_, _, r⟩, ?_⟩
  refine v_told a r (made_far F.R F.rr.ok F.rr.ka F.rrf F.rri F.rrs F.rrg F.hX (b1.set0 r1 (by omega) hlen hnn) b1.ok hnn hwd hw : Makes prog w K F.R.run room M.lw M.now _ _ _ _) (by omega) (fun v σm s ⟨x, hv, ex, runs⟩ r => ?_) fun _ _ _ _ x _ => x.elim
  subst hv
  have bm : Btw M P σm := b1.ext ex
  walk_at "vv"
  refine v_cell fk r (kof hsc (by kernel_rfl)) (by rw [hcl]; rfl) bm.ok.cw ?_ (by kernel_rfl)
  walk_at "vv"
  refine v_cell fk r (kof hsc (by kernel_rfl)) (by rw [hcl]; rfl) bm.ok.cn ?_ (by kernel_rfl)
  walk_at "vv"
  refine ⟨⟨_, _, r⟩, ?_⟩
  refine v_told a r (runs _) (by omega) (fun v σ2 s ⟨⟨nf, tnf, hv, hnf⟩, hnow, ex2⟩ r => ?_) fun _ _ _ _ x _ => x.elim
  subst hv
  have b2 : Btw M P σ2 := b1.step hnn hPn ex2 hnow
  clear runs bm ex ex2 hnow
  walk_at "vv"
  have hbest := (verdict r1 hw (by omega) l1 l2 hnf rfl rfl rfl (P2.far_run _ hnf) (P2.far_run _ hnf)).best
  refine v_ne ?_
  refine v_truth ?_
  rw [hbest]
  simp only [bne_self_eq_false, Bool.false_eq_true, if_false]
  refine wpAny_execs_nil ?_
  -- first_in
  refine wpAny_execs_cons ?_
  walk_at "v"
  refine wpAny_Call_ofName ?_
  refine v_global a r (kof hsc (by kernel_rfl)) F.R.nrun ?_ (by kernel_rfl)
  refine v_callK (os := os) a F.R.krun rfl ?_
  walk_at "vv"
  refine wpAny_Call_ofName ?_
  refine v_global a r (kof hsc (by kernel_rfl)) F.fi.nC ?_ (by kernel_rfl)
  refine v_callK (os := os) a F.fi.kC rfl ?_
  walk_at "vv"
  refine ⟨⟨_, _, r⟩, ?_⟩
  refine v_told a r (made_fifo F.R F.fi.ok F.fi.ka F.fif F.fii F.fis F.fig (b2.set0 r1 (by omega) hlen hnn) : Makes prog w K F.R.run room M.lw M.now _ _ _ _) (by omega) (fun v σm s ⟨x, hv, ex, runs⟩ r => ?_) fun _ _ _ _ x _ => x.elim
  subst hv
  have bm : Btw M P σm := b2.ext ex
  walk_at "vv"
  refine v_cell fk r (kof hsc (by kernel_rfl)) (by rw [hcl]; rfl) bm.ok.cw ?_ (by kernel_rfl)
  walk_at "vv"
  refine v_cell fk r (kof hsc (by kernel_rfl)) (by rw [hcl]; rfl) bm.ok.cn ?_ (by kernel_rfl)
  walk_at "vv"
  refine ⟨⟨_, _, r⟩, ?_⟩
  refine v_told a r (runs _) (by omega) (fun v σ3 s ⟨⟨na, tna, hv, hna⟩, hnow, ex2⟩ r => ?_) fun _ _ _ _ x _ => x.elim
  subst hv
  have b3 : Btw M P σ3 := b2.step hnn hPn ex2 hnow
  clear runs bm ex ex2 hnow
  walk_at "st"; rename_i s r
  -- longest
  refine wpAny_execs_cons ?_
  walk_at "v"
  refine wpAny_Call_ofName ?_
  refine v_global a r (kof hsc (by kernel_rfl)) F.R.nrun ?_ (by kernel_rfl)
  refine v_callK (os := os) a F.R.krun rfl ?_
  walk_at "vv"
  refine wpAny_Call_ofName ?_
  refine v_global a r (kof hsc (by kernel_rfl)) F.lr.nC ?_ (by kernel_rfl)
  refine v_callK (os := os) a F.lr.kC rfl ?_
  walk_at "vv"
  refine ⟨⟨_, _, r⟩, ?_⟩
  refine v_told a r (made_lru F.R F.lr.ok F.lr.ka F.lrf F.lri F.lrs F.lrg (b3.set0 r1 (by omega) hlen hnn) : Makes prog w K F.R.run room M.lw M.now _ _ _ _) (by omega) (fun v σm s ⟨x, hv, ex, runs⟩ r => ?_) fun _ _ _ _ x _ => x.elim
  subst hv
  have bm : Btw M P σm := b3.ext ex
  walk_at "vv"
  refine v_cell fk r (kof hsc (by kernel_rfl)) (by rw [hcl]; rfl) bm.ok.cw ?_ (by kernel_rfl)
  walk_at "vv"
  refine v_cell fk r (kof hsc (by kernel_rfl)) (by rw [hcl]; rfl) bm.ok.cn ?_ (by kernel_rfl)
  walk_at "vv"
  refine ⟨⟨_, _, r⟩, ?_⟩
  refine v_told a r (runs _) (by omega) (fun v σ4 s ⟨⟨nb, tnb, hv, hnb⟩, hnow, ex2⟩ r => ?_) fun _ _ _ _ x _ => x.elim
  subst hv
  have b4 : Btw M P σ4 := b3.step hnn hPn ex2 hnow
  clear runs bm ex ex2 hnow
  walk_at "st"; rename_i s r
  -- oldest
  refine wpAny_execs_cons ?_
  walk_at "v"
  refine wpAny_Call_ofName ?_
  refine v_global a r (kof hsc (by kernel_rfl)) F.R.nrun ?_ (by kernel_rfl)
  refine v_callK (os := os) a F.R.krun rfl ?_
  walk_at "vv"
  refine wpAny_Call_ofName ?_
  refine v_global a r (kof hsc (by kernel_rfl)) F.ca.nC ?_ (by kernel_rfl)
  refine v_callK (os := os) a F.ca.kC rfl ?_
  walk_at "vv"
  refine ⟨⟨_, _, r⟩, ?_⟩
  refine v_told a r (made_cache F.R F.ca.ok F.ca.ka F.caf F.cai F.cas F.cag (b4.set0 r1 (by omega) hlen hnn) : Makes prog w K F.R.run room M.lw M.now _ _ _ _) (by omega) (fun v σm s ⟨x, hv, ex, runs⟩ r => ?_) fun _ _ _ _ x _ => x.elim
  subst hv
  have bm : Btw M P σm := b4.ext ex
  walk_at "vv"
  refine v_cell fk r (kof hsc (by kernel_rfl)) (by rw [hcl]; rfl) bm.ok.cw ?_ (by kernel_rfl)
  walk_at "vv"
  refine v_cell fk r (kof hsc (by kernel_rfl)) (by rw [hcl]; rfl) bm.ok.cn ?_ (by kernel_rfl)
  walk_at "vv"
  refine ⟨⟨_, _, r⟩, ?_⟩
  refine v_told a r (runs _) (by omega) (fun v σ5 s ⟨⟨nc, tnc, hv, hnc⟩, hnow, ex2⟩ r => ?_) fun _ _ _ _ x _ => x.elim
  subst hv
  have b5 : Btw M P σ5 := b4.step hnn hPn ex2 hnow
  clear runs bm ex ex2 hnow
  walk_at "st"; rename_i s r
  -- rarest
  refine wpAny_execs_cons ?_
  walk_at "v"
  refine wpAny_Call_ofName ?_
  refine v_global a r (kof hsc (by kernel_rfl)) F.R.nrun ?_ (by kernel_rfl)
  refine v_callK (os := os) a F.R.krun rfl ?_
  walk_at "vv"
  refine wpAny_Call_ofName ?_
  refine v_global a r (kof hsc (by kernel_rfl)) F.lf.nC ?_ (by kernel_rfl)
  refine v_callK (os := os) a F.lf.kC rfl ?_
  walk_at "vv"
  refine ⟨⟨_, _, r⟩, ?_⟩
  refine v_told a r (made_lfu F.R F.lf.ok F.lf.ka F.lff F.lfi F.lfe F.lfs F.lfg (b5.set0 r1 (by omega) hlen hnn) : Makes prog w K F.R.run room M.lw M.now _ _ _ _) (by omega) (fun v σm s ⟨x, hv, ex, runs⟩ r => ?_) fun _ _ _ _ x _ => x.elim
  subst hv
  have bm : Btw M P σm := b5.ext ex
  walk_at "vv"
  refine v_cell fk r (kof hsc (by kernel_rfl)) (by rw [hcl]; rfl) bm.ok.cw ?_ (by kernel_rfl)
  walk_at "vv"
  refine v_cell fk r (kof hsc (by kernel_rfl)) (by rw [hcl]; rfl) bm.ok.cn ?_ (by kernel_rfl)
  walk_at "vv"
  refine ⟨⟨_, _, r⟩, ?_⟩
  refine v_told a r (runs _) (by omega) (fun v σ6 s ⟨⟨nd, tnd, hv, hnd⟩, hnow, ex2⟩ r => ?_) fun _ _ _ _ x _ => x.elim
  subst hv
  have b6 : Btw M P σ6 := b5.step hnn hPn ex2 hnow
  clear runs bm ex ex2 hnow
  walk_at "st"; rename_i s r
  -- lots
  refine wpAny_execs_cons ?_
  walk_at "v"
  refine wpAny_Call_ofName ?_
  refine v_global a r (kof hsc (by kernel_rfl)) F.R.nrun ?_ (by kernel_rfl)
  refine v_callK (os := os) a F.R.krun rfl ?_
  walk_at "vv"
  refine wpAny_Call_ofName ?_
  refine v_global a r (kof hsc (by kernel_rfl)) F.rr.nC ?_ (by kernel_rfl)
  refine v_callK (os := os) a F.rr.kC rfl ?_
  walk_at "vv"
  refine ⟨⟨_, _, r⟩, ?_⟩
  refine v_told a r (made_drawn F.R F.rr.ok F.rr.ka F.rrf F.rri F.rrs F.rrg F.hS (b6.set0 r1 (by omega) hlen hnn) b6.ok hnn hwd : Makes prog w K F.R.run room M.lw M.now _ _ _ _) (by omega) (fun v σm s ⟨x, hv, ex, runs⟩ r => ?_) fun _ _ _ _ x _ => x.elim
  subst hv
  have bm : Btw M P σm := b6.ext ex
  walk_at "vv"
  refine v_cell fk r (kof hsc (by kernel_rfl)) (by rw [hcl]; rfl) bm.ok.cw ?_ (by kernel_rfl)
  walk_at "vv"
  refine v_cell fk r (kof hsc (by kernel_rfl)) (by rw [hcl]; rfl) bm.ok.cn ?_ (by kernel_rfl)
  walk_at "vv"
  refine ⟨⟨_, _, r⟩, ?_⟩
  refine v_told a r (runs _) (by omega) (fun v σ7 s ⟨⟨ne, tne, hv, hne⟩, hnow, ex2⟩ r => ?_) fun _ _ _ _ x _ => x.elim
  subst hv
  have b7 : Btw M P σ7 := b6.step hnn hPn ex2 hnow
  clear runs bm ex ex2 hnow
  walk_at "st"; rename_i s r
  have V := verdict r1 hw (by omega) l1 l2 hnf hna hnb hnc hnd hne
  -- if oldest != first_in or min(..) < least: return False
  refine wpAny_execs_cons ?_
  walk_at "v"
  refine isTrue_or ?_
  walk_at "vv"
  refine v_ne ?_
  refine v_truth ?_
  rw [V.alike]
  simp only [bne_self_eq_false, Bool.false_eq_true, if_false]
  refine isTrue_or ?_
  walk_at "v"
  refine wpAny_Call_ofName ?_
  refine v_builtin a r (kof hsc (by kernel_rfl)) F.R.hM (v := .builtin "min") (by kernel_rfl) (by decide +kernel) ?_ (by kernel_rfl)
  refine v_callB rfl ?_
  walk_at "vv"
  refine v_minN' a r (args_min4 _ _ _ _) (by simp) (.cons _ _ (.cons _ _ (.cons _ _ (.cons _ _ .nil)))) fun Mn tm σ8 s q1 q2 q3 r => ?_
  have b8 : Btw M P σ8 := b7.ext q3
  have hMn : ¬ Mn < least := by
    have v1 := V.na
    have v2 := V.nb
    have v3 := V.nd
    have v4 := V.ne
    simp only [List.mem_cons, List.not_mem_nil, or_false] at q1
    rcases q1 with q1 | q1 | q1 | q1 <;> omega
  walk_at "vv"
  refine v_lt ?_
  refine v_truth ?_
  simp only [hMn, decide_false, Bool.false_eq_true, if_false]
  refine isTrue_or_nil ?_
  rw [if_neg (by decide)]
  refine wpAny_execs_nil ?_
  -- known = len(set(wants))
  refine wpAny_execs_cons ?_
  walk_at "v"
  refine wpAny_Call_ofName ?_
  refine v_builtin a r (kof hsc (by kernel_rfl)) F.R.hL (v := .builtin "len") (by kernel_rfl) (by decide +kernel) ?_ (by kernel_rfl)
  refine v_callB rfl ?_
  walk_at "vv"
  refine wpAny_Call_ofName ?_
  refine v_builtin a r (kof hsc (by kernel_rfl)) F.hSet (v := .type "set") (by kernel_rfl) (by decide +kernel) ?_ (by kernel_rfl)
  refine v_callTy rfl ?_
  walk_at "vv"
  refine v_cell fk r (kof hsc (by kernel_rfl)) (by rw [hcl]; rfl) b8.ok.cw ?_ (by kernel_rfl)
  walk_at "vv"
  obtain ⟨vw8, hvw8, hiw8⟩ := b8.ok.lw
  refine v_setof a r hvw8 hiw8 (by unfold scanBound; omega) fun ds s hds r => ?_
  walk_at "vv"
  have hmet := met_len M.wants
  have hle : (firstMet (fun i => M.wants.getD i 0) M.wants.length).length ≤ 63 := Nat.le_trans (firstMet_length_le _ _) hlen
  refine v_setlen r (Hp.set_self _ _ _) (by omega) fun s tkn r => ?_
  rw [hmet] at r ⊢
  walk_at "st"; rename_i s r
  have b9 : Btw M P (σ8.set ds (.pred fun o => o.SetObjOf (intKind prog w) (fun k' => (firstMet (fun i => M.wants.getD i 0) M.wants.length).any (· == k')) (P2.newCount [] M.wants))) := b8.ext fun b z e => by
    rw [Hp.set_ne _ _ (fun q => by rw [q, hds] at e; cases e)]; exact e
  generalize (σ8.set ds (.pred fun o => o.SetObjOf (intKind prog w) (fun k' => (firstMet (fun i => M.wants.getD i 0) M.wants.length).any (· == k')) (P2.newCount [] M.wants))) = σ9 at r b9
  -- if known <= room
  refine wpAny_execs_cons ?_
  walk_at "vv"
  refine v_le ?_
  refine v_truth ?_
  by_cases hfew : P2.newCount [] M.wants ≤ room
  · rw [if_pos (by simpa using hfew)]
    obtain ⟨f1, f2, f3, f4⟩ := V.few hfew
    refine wpAny_execs_cons ?_
    walk_at "v"
    walk_at "v"
    refine v_list (base := base) (os := os) (fs := fs) ?_
    walk_at "vv"
    refine ⟨by simp, _, _, r, fun la s hla r => ?_⟩
    walk_at "v"
    refine v_list (base := base) (os := os) (fs := fs) ?_
    walk_at "vv"
    refine ⟨by simp, _, _, r, fun lb s hlb r => ?_⟩
    refine v_int r fun s t4 r => ?_
    have hab : la ≠ lb := fun e => by rw [← e, Hp.set_self] at hlb; cases hlb
    refine v_eqrep (n := 39) (k := 4) a r (Hp.set_self _ _ _) (.cons _ _ .nil) (by rw [Hp.set_ne _ _ hab]; exact Hp.set_self _ _ _) (.cons _ _ (.cons _ _ (.cons _ _ (.cons _ _ .nil)))) (by decide) (by simp) fun s r => ?_
    have heq : decide ([(na : Int), (nb : Int), (nd : Int), (ne : Int)] = (List.replicate 4 [(P2.newCount [] M.wants : Int)]).flatten) = true := by
      rw [f1, f2, f3, f4]; simp [List.replicate]
    rw [heq]
    obtain ⟨ps, hps⟩ := b9.tab
    have hlb9 : σ9 lb = none := by rw [Hp.set_ne _ _ hab.symm] at hlb; exact hlb
    exact fin _ _ _ r ⟨ps, by rw [Hp.set_ne _ _ (fun q => by rw [q, hlb9] at hps; cases hps), Hp.set_ne _ _ (fun q => by rw [q, hla] at hps; cases hps)]; exact hps⟩
  · rw [if_neg (by simpa using hfew)]
    refine wpAny_execs_nil ?_
    obtain ⟨g1, g2⟩ := V.many hfew
    refine wpAny_execs_cons ?_
    walk_at "v"
    walk_at "v"
    refine wpAny_Call_ofName ?_
    refine v_builtin a r (kof hsc (by kernel_rfl)) F.hX (v := .builtin "max") (by kernel_rfl) (by decide +kernel) ?_ (by kernel_rfl)
    refine v_callB rfl ?_
    walk_at "vv"
    refine v_maxN' a r (args_max2 _ _) (by simp) (.cons _ _ (.cons _ _ .nil)) fun Mx tx σa s q1 q2 q3 r => ?_
    walk_at "vv"
    refine v_sub r fun s t5 r => ?_
    refine v_int r fun s t6 r => ?_
    refine v_add r fun s t7 r => ?_
    refine v_mulS r (by omega) (by omega) fun s t8 r => ?_
    refine v_le ?_
    have hMx : Mx ≤ (room : Int) * (least - room + 1) := by
      simp only [List.mem_cons, List.not_mem_nil, or_false] at q1
      rcases q1 with q1 | q1 <;> rw [q1] <;> assumption
    simp only [hMx, decide_true]
    exact fin _ _ _ r (b9.ext q3).tab
end L2
end Mine
namespace Mine
namespace L2
theorem walk {q : Program} {loose : List Str} {XP : (Str → Option Value) → Heap → Prop} {K : Params → Frag} {as : List Addr} {e : ∀ P, as = (K P).map (·.1)} {c P : Addr} {pos : Pos}
    (F : ∀ p, LawF (K p) c P) (hn : ∀ p, noTabs (K p) = true) (hPs : (P == sysModules) = false) (h1 : ∀ p, codeHdIn (K p) c P = true) (h2 : ∀ p, tabIn (K p) "law" = some (c, P)) :
    WalkO q loose XP (kmHook K as e [P]).says PySem.Challenge.rw_bn0002_02.row.toRowW (lawRec pos) [] (fun f vs => PySem.call f vs) := by
  intro w s₀ s₁ mg mb G Y fa o pm cd doc dV kV ho hd hcd hD hmg hg args vals as hpre hlay hrd hwl hlo
  have KX := km_in_of Y
  have hT8 := km_tabs_of Y
  have hlow := G.low
  refine Ground.open G ?_
  intro T B D TE TW
  have hT9 : TabsAt [(c, P)] s₁.heap := List.forall_mem_cons.mpr ⟨⟨codeHd_of_K KX (h1 _), hT8 P (.head _)⟩, fun _ h => nomatch h⟩
  have he9 : cd = .ref c := law_code KX T.g (h2 _) hmg ho hd
  subst he9
  have hdv : dV = .none := hD.pos_none rfl
  have hkv : kV = .none := hD.kw_none rfl
  subst hdv hkv
  wrow_args hpre hlay hrd hwl hlo
  refine enter_call ?_
  refine kn_post hT9 (fun _ _ => rfl) ?_
  rename_i ns hs hlay0 hL1 hr1 hl2 a4 a3 ls vs a0 hL ra w1 r0 hI hr hc1 hc2
  have hlen : ns.length ≤ 63 := by omega
  refine enter_law (binds := [("script", .ref ls)]) hT9 KX T (hn _) hlow hg hPs ho hd hcd (BindsTo.of_eq rfl) (fun x hx => by simp only [List.mem_cons, List.not_mem_nil, or_false] at hx; subst hx; rfl) (show ((cellsFrom 0 (fnScope s_law).names []).map (·.1)).Nodup by decide +kernel) (by kernel_rfl) (by kernel_rfl) (by kernel_rfl) ?_
  intro A base L env m σ s' hb hbL he hm hσ hPL hcells a r
  have hbase : base.IsList ls vs.toArray := by rw [hb]; exact ghost_list hT9 hL
  have hsc : env.scope = fnScope s_law := by subst he; rfl
  have hcl : env.cells = [(("wants" : Str), L + 1 + 1 + 1), (("now" : Str), L + 1 + 1), (("draws" : Str), L + 1)] := by subst he; rfl
  have hcode : env.code = .ref c := by subst he; rfl
  have hq : env.qual = "law.<locals>." := by subst he; exact (by decide +kernel : ("law" : Str) ++ ".<locals>." = ("law.<locals>." : Str))
  have hσ' : σ = (((Hp.set (fun _ => none) P (.obj (tabObj #[]))).set (L + 1) (.cell none)).set (L + 1 + 1) (.cell none)).set (L + 1 + 1 + 1) (.cell none) := hσ
  subst hσ'
  have n12 : L + 1 + 1 ≠ L + 1 + 1 + 1 := Nat.ne_of_lt (Nat.lt_succ_self _)
  have n13 : L + 1 ≠ L + 1 + 1 + 1 := Nat.ne_of_lt (Nat.lt_succ_of_lt (Nat.lt_succ_self _))
  have n14 : L + 1 ≠ L + 1 + 1 := Nat.ne_of_lt (Nat.lt_succ_self _)
  have p1 : P ≠ L + 1 := Nat.ne_of_lt (Nat.lt_succ_of_lt hPL)
  have p2 : P ≠ L + 1 + 1 := Nat.ne_of_lt (Nat.lt_succ_of_lt (Nat.lt_succ_of_lt hPL))
  have p3 : P ≠ L + 1 + 1 + 1 := Nat.ne_of_lt (Nat.lt_succ_of_lt (Nat.lt_succ_of_lt (Nat.lt_succ_of_lt hPL)))
  have hms : m "script" = some (.ref ls) := by rw [hm]; kernel_rfl
  have FF := F w.params
  have BB : BmAt base := by
    rw [hb]
    have TT := ghost_top hT9 T
    obtain ⟨bm, ob, a1, a2, a3, a4, a5, a6⟩ := TT.bmain
    exact ⟨bm, ob, mg, TT.g, a1, a2, a3, a4, a5, a6⟩
  refine front (fs := []) (ns := ns) (vs := vs) (cw := L + 1 + 1 + 1) (cn := L + 1 + 1) (cd := L + 1) a BB FF.C hcode hq hsc hcl r hbase hI hlen hms (Hp.set_self _ _ _) (by rw [Hp.set_ne _ _ n12]; exact Hp.set_self _ _ _) (by rw [Hp.set_ne _ _ n13, Hp.set_ne _ _ n14]; exact Hp.set_self _ _ _) n14 n13 n12
    (by rw [Hp.set_ne _ _ p3, Hp.set_ne _ _ p2, Hp.set_ne _ _ p1]; exact Hp.set_self _ _ _) fun M m' σ' s' tr t0 r e1 e2 e3 e4 e5 hok hnow hnn k1 k2 k3 hps hPf hPn => ?_
  have hsub : (subs ns).length ≤ ns.length := length_pickNums_le hI _ _ _
  have hroom : ∃ room : Nat, roomOf ns = room ∧ 1 ≤ room ∧ room ≤ 4 := by
    have q1 := Int.emod_lt_of_pos ((ns ++ [0]).headD 0) (show (0 : Int) < 4 by omega)
    have q2 := Int.emod_nonneg ((ns ++ [0]).headD 0) (show (4 : Int) ≠ 0 by omega)
    refine ⟨(roomOf ns).toNat, ?_, ?_, ?_⟩ <;> (unfold roomOf; omega)
  obtain ⟨room, hr0, r1, r2⟩ := hroom
  rw [hr0] at k1
  refine back (fs := []) (M := M) (room := room) FF a hsc (by rw [hcl, e3, e4, e5]) r ⟨hok, ⟨0, t0, hnow⟩, hps⟩ hnn hPn r1 r2 (by rw [e2]; unfold wantsOf; rw [List.length_map]; omega) (by rw [e1, e2]; unfold wantsOf drawsOf; rw [List.length_map, List.length_map]) ?_ k1 k2 k3 fun m'' σ'' s'' r hps => ?_
  · intro x hx
    rw [e2] at hx
    obtain ⟨y, _, rfl⟩ := List.mem_map.mp hx
    exact ⟨Int.emod_nonneg _ (by omega), Int.emod_lt_of_pos _ (by omega)⟩
  · obtain ⟨ps, hps⟩ := hps
    obtain ⟨oP, h5, h6, _⟩ := r.own _ _ hps
    have h6 : oP = tabObj ps := h6
    refine ⟨⟨.inl ⟨.bool true, .bool true, [], rfl, fun _ => rfl, .bool true, ?_, fun _ => ⟨.nil, fun _ h => nomatch h⟩⟩, fun b o e => r.keep b o (by rw [hb]; exact e), r.hos, r.gens⟩, ⟨ps, by rw [← h6]; exact h5⟩, trivial⟩
    first | rfl | wrow_post
end L2
end Mine
theorem PySem.Challenge.cw_bn0002_02_holds : PySem.Challenge.rw_bn0002_02.Holds := by
  exact Mine.main Mine.L2.walk
