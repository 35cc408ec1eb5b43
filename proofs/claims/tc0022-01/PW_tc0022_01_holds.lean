import PyProof.Rows.All
import Wide.All
import OpenK.Lit
import OpenK.KCall
import OpenK.KWalk
import OpenK.KCell
import KE.BitLaws
import KE.IntBitsLaws
import OpenK.KTop
import OpenK.KDict
import OpenK.KMeth
import OpenK.KList
import OpenK.KOps
import OpenK.KMore
import Open.FastLooks
import Open.FastRun
import Wide.FinOn
import PyProof.ListNew
import PyProof.WalksMore
import PyProof.ExcFactsAll.ZeroDivisionError
import PyProof.ExcStrAll.ZeroDivisionError
import PyProof.ExcStrCall
import PyProof.RulesAs
import PyProof.StrLawsIn
import PyProof.FitsReplace
import Lean
import PySem.Challenge.RW_tc0022_01
set_option maxHeartbeats 4000000
set_option maxRecDepth 100000
set_option Elab.async false
set_option linter.all false
set_option genSizeOf false
open PySem PySem.W PyProof.Rows
local macro_rules | `(tactic| omega)=>`(tactic| lia)
namespace Mine
theorem nab0 {x:Int} {n:Nat} (h:0≤x) (k:x≤n):x.natAbs≤n:=Int.ofNat_le.mp ((Int.natAbs_of_nonneg h).symm▸k)
theorem nabl {x:Int} {n:Nat} (h:0≤x) (k:x<n):x.natAbs<n:=Int.ofNat_lt.mp ((Int.natAbs_of_nonneg h).symm▸k)
theorem nabM {x y:Int} (h:0≤x) (k:x≤y):x.natAbs≤y.natAbs:=nab0 h (Int.le_trans k Int.le_natAbs)
theorem nabI {x:Int} {n:Nat} (h:x.natAbs≤n):x≤n:=Int.le_trans Int.le_natAbs (Int.ofNat_le.mpr h)
theorem toN {x:Int} {n:Nat} (h:x.natAbs≤n):x.toNat≤n:=Int.toNat_le.mpr (nabI h)
theorem toL {x:Int} (n:Nat) (h:x≤n):x.toNat≤n:=Int.toNat_le.mpr h
theorem nabT {x:Int} {n:Nat} (h:0≤x) (k:x.toNat≤n):x.natAbs≤n:=nab0 h (Int.toNat_le.mp k)
theorem nabT2 {x y:Int} (a:0≤x) (b:0≤y) (h:x.toNat+y.toNat≤300):x.natAbs≤1000∧y.natAbs≤1000:=
  ⟨nabT a (Nat.le_trans (Nat.le_add_right _ _) (Nat.le_trans h (by decide))),nabT b (Nat.le_trans (Nat.le_add_left _ _) (Nat.le_trans h (by decide)))⟩
theorem sl_lt {u t B P:Int} (k:u≤B-P) (h:t<P):u+t<B:=Int.lt_of_lt_of_le (Int.add_lt_add_of_le_of_lt k h) (Int.le_of_eq (Int.sub_add_cancel _ _))
theorem ssub {L M R:Nat} (h1:L≤M) (h2:M≤R):R-L=M-L+(R-M):=by
  rw [Nat.add_comm];exact (Nat.sub_add_sub_cancel h2 h1).symm
theorem halves {L R j:Nat} (e:L+1<R) (hk:R-L≤2^j*2):(L+R) / 2-L≤2^j∧R-(L+R) / 2≤2^j:=by
  obtain ⟨d,rfl⟩:=Nat.exists_eq_add_of_le (Nat.le_of_lt (Nat.lt_of_succ_lt e))
  rw [Nat.add_sub_cancel_left] at hk
  generalize 2^j=t at *
  clear e
  rw [show (L+(L+d)) / 2=L+d / 2 by lia]
  constructor<;>lia
theorem hiw {v:Int} (hv:v.natAbs<2^60):(v.fdiv (2^32)*2^32).natAbs<2^62:=by
  have h1:=Int.mul_fdiv_self_le (x:=v) (k:=2^32) (by decide)
  have h2:=Int.lt_mul_fdiv_self_add (x:=v) (k:=2^32) (by decide)
  lia
theorem sm0 {c:Nat} {o:Int} (hc:c≤16) (h:0≤o∧o≤1):((c:Int)+o).natAbs≤100:=nab0 (Int.add_nonneg (Int.natCast_nonneg _) h.1) (Int.le_trans (Int.add_le_add (Int.ofNat_le.mpr hc) h.2) (by decide))
theorem sm1 {c:Nat} {o:Int} (hc:c≤16) (h:0≤o∧o≤1):(1+(c:Int)-o).natAbs≤100:=nab0 (by lia) (by lia)
theorem tk {a0 a1 y m k:Int} (u0:a0≤0) (u1:a1≤0) (v0:a0≤y) (v1:a1≤y) (hn:a0≠a1) (hm:m=if -a1 < -a0 then -a1 else -a0) (hk:k=if y-a1<y-a0 then y-a1 else y-a0) :
    0≤m∧0≤k∧m+y=k∧(0≤m+a0↔-a0 < -a1)∧(0≤m+a1↔-a1 < -a0):=by
  by_cases c:-a1 < -a0
  · rw [if_pos c] at hm
    rw [if_pos (show y-a1<y-a0 from Int.add_lt_add_left c y)] at hk
    subst hm hk
    refine ⟨Int.neg_nonneg_of_nonpos u1,Int.sub_nonneg_of_le v1,Int.add_comm _ _,iff_of_false ?_ (Int.lt_asymm c),iff_of_true (Int.le_of_eq (Int.add_left_neg a1).symm) c⟩
    clear u0 u1 v0 v1 hn;lia
  · rw [if_neg c] at hm
    rw [if_neg fun h:y-a1<y-a0=>c (Int.lt_of_add_lt_add_left (a:=y) h)] at hk
    subst hm hk
    have c':-a0 < -a1:=by clear u0 u1 v0 v1;lia
    refine ⟨Int.neg_nonneg_of_nonpos u0,Int.sub_nonneg_of_le v0,Int.add_comm _ _,iff_of_true (Int.le_of_eq (Int.add_left_neg a0).symm) c',iff_of_false ?_ c⟩
    clear u0 u1 v0 v1 hn c;lia
theorem dropLt {α:Type} {l ds:List α} {i:Nat} {d:α} (h:l.drop i=d::ds):i<l.length:=by
  have:=congrArg List.length h
  rw [List.length_drop] at this
  exact Nat.lt_of_sub_pos (this▸Nat.succ_pos _)
theorem drop_get {α:Type} {all ds:List α} {d:α} {i:Nat} (hd:all.drop i=d::ds):i<all.length∧all[i]?=some d∧all.drop (i+1)=ds:=by
  have hlt:i<all.length:=dropLt hd
  rw [List.drop_eq_getElem_cons hlt] at hd
  exact ⟨hlt,by rw [List.getElem?_eq_getElem hlt];exact congrArg some (List.cons.inj hd).1,(List.cons.inj hd).2⟩
theorem subN {M L n:Nat} (h:L<M) (k:M≤n) (z:n≤2^20):((M:Int)-L).natAbs<2^30:=nabl (Int.sub_nonneg_of_le (Int.ofNat_le.mpr (Nat.le_of_lt h))) (Int.lt_of_le_of_lt (Int.sub_le_self _ (Int.natCast_nonneg _)) (Int.ofNat_lt.mpr (Nat.lt_of_le_of_lt (Nat.le_trans k z) (by decide))))
theorem nabP {x:Int} {m:Nat} (h:0≤x) (k:x<2^m):x.natAbs<2^m:=nabl h (by exact_mod_cast k)
theorem pm1 {p:Int} (h:0<p):(1*p-1).natAbs<p.natAbs:=by
  rw [Int.one_mul]
  exact nabl (Int.sub_nonneg_of_le h) (by rw [Int.natAbs_of_nonneg (Int.le_of_lt h)];exact Int.sub_lt_self p (by decide))
theorem one_lt_sub {L R:Nat} (e:L+1<R):¬ R-L≤1:=Nat.not_le_of_lt (Nat.lt_sub_of_add_lt (Nat.add_comm L 1▸e))
theorem lenS {α:Type} {vs:List α} {n:Nat} (h:vs.length=n+1):∃ a t,vs=a::t∧t.length=n:=by
  cases vs with
  | nil=>cases h
  | cons a t=>exact ⟨a,t,rfl,Nat.succ.inj h⟩
theorem len1 {α:Type} {vs:List α} (h:vs.length=1):∃ a,vs=[a]:=by
  obtain ⟨a,t,rfl,k⟩:=lenS h
  exact ⟨a,by rw [List.eq_nil_of_length_eq_zero k]⟩
theorem len2 {α:Type} {vs:List α} (h:vs.length=2):∃ a b,vs=[a,b]:=by
  obtain ⟨a,t,rfl,k⟩:=lenS h
  obtain ⟨b,rfl⟩:=len1 k
  exact ⟨a,b,rfl⟩
theorem len3 {α:Type} {vs:List α} (h:vs.length=3):∃ a b c,vs=[a,b,c]:=by
  obtain ⟨a,t,rfl,k⟩:=lenS h
  obtain ⟨b,c,rfl⟩:=len2 k
  exact ⟨a,b,c,rfl⟩
theorem len4 {α:Type} {vs:List α} (h:vs.length=4):∃ a b c d,vs=[a,b,c,d]:=by
  obtain ⟨a,t,rfl,k⟩:=lenS h
  obtain ⟨b,c,d,rfl⟩:=len3 k
  exact ⟨a,b,c,d,rfl⟩
theorem len5 {α:Type} {vs:List α} (h:vs.length=5):∃ a b c d e,vs=[a,b,c,d,e]:=by
  obtain ⟨a,t,rfl,k⟩:=lenS h
  obtain ⟨b,c,d,e,rfl⟩:=len4 k
  exact ⟨a,b,c,d,e,rfl⟩
theorem len6 {α:Type} {vs:List α} (h:vs.length=6):∃ a b c d e f,vs=[a,b,c,d,e,f]:=by
  obtain ⟨a,t,rfl,k⟩:=lenS h
  obtain ⟨b,c,d,e,f,rfl⟩:=len5 k
  exact ⟨a,b,c,d,e,f,rfl⟩
noncomputable abbrev kh:=PySem.PyData.keyHash
noncomputable def prog:Program:=PySem.Challenge.rw_tc0022_01.row.prog
noncomputable abbrev tabObj (ps:Array Value):Obj:={ cls:=.none,data:=.fields ps }
noncomputable def fnAt (i:Nat) (code:Addr) (pm:Str) (t:Nat):Obj:=match prog.main.body[i]? with
  | some (.FunctionDef name args body _ _ _ scope _ _ _)=>{ cls:=.type "function", data:=.func (fnOf name name args body scope .none .none .none (.str pm t) none (.ref code) .none) }
  | _=>{ cls:=.none,data:=.plain }
noncomputable def gdict (P:Params):Obj:={ cls:=.type "dict", data:=.dict #[{ hash:=kh P "__name__", key:=.str "__name__" 165,val:=.str "law_tc0022_01" 367 },{ hash:=kh P "__doc__", key:=.str "__doc__" 166,val:=.none },{ hash:=kh P "__package__", key:=.str "__package__" 167,val:=.none },{ hash:=kh P "__loader__", key:=.str "__loader__" 168,val:=.builtin "__main__.__loader__#opaque" },{ hash:=kh P "__spec__", key:=.str "__spec__" 169,val:=.none },{ hash:=kh P "__annotations__", key:=.str "__annotations__" 170,val:=.ref 6 },{ hash:=kh P "__builtins__", key:=.str "__builtins__" 171,val:=.ref 4 },{ hash:=kh P "__file__", key:=.str "__file__" 173,val:=.str "/claim/cut.py" 172 },{ hash:=kh P "__cached__", key:=.str "__cached__" 174,val:=.none },{ hash:=kh P "_iter_escaped_chars", key:=.str "_iter_escaped_chars" 198,val:=.ref 21 },{ hash:=kh P "_strip_quoted_realnames", key:=.str "_strip_quoted_realnames" 210,val:=.ref 28 },{ hash:=kh P "_check_parenthesis", key:=.str "_check_parenthesis" 220,val:=.ref 35 },{ hash:=kh P "_DIV_LIMIT", key:=.str "_DIV_LIMIT" 224,val:=.int 4000 223 },{ hash:=kh P "_div2n1n", key:=.str "_div2n1n" 241,val:=.ref 42 },{ hash:=kh P "_div3n2n", key:=.str "_div3n2n" 255,val:=.ref 49 },{ hash:=kh P "_int2digits", key:=.str "_int2digits" 266,val:=.ref 56 },{ hash:=kh P "_digits2int", key:=.str "_digits2int" 277,val:=.ref 63 },{ hash:=kh P "_divmod_pos", key:=.str "_divmod_pos" 292,val:=.ref 70 },{ hash:=kh P "int_divmod", key:=.str "int_divmod" 302,val:=.ref 77 },{ hash:=kh P "COMPILER_FLAG_NAMES", key:=.str "COMPILER_FLAG_NAMES" 335,val:=.ref 78 },{ hash:=kh P "pretty_flags", key:=.str "pretty_flags" 345,val:=.ref 85 },{ hash:=kh P "_parse_varint", key:=.str "_parse_varint" 354,val:=.ref 92 },{ hash:=kh P "_strip_exception_details", key:=.str "_strip_exception_details" 366,val:=.ref 99 },{ hash:=kh P "_law_word", key:=.str "_law_word" 374,val:=.ref 104 },{ hash:=kh P "_law_ray", key:=.str "_law_ray" 380,val:=.ref 109 },{ hash:=kh P "_law_apart", key:=.str "_law_apart" 386,val:=.ref 114 },{ hash:=kh P "_law_lacks", key:=.str "_law_lacks" 396,val:=.ref 121 },{ hash:=kh P "_law_octets", key:=.str "_law_octets" 402,val:=.ref 126 },{ hash:=kh P "_law_named", key:=.str "_law_named" 408,val:=.ref 131 },{ hash:=kh P "_law_run", key:=.str "_law_run" 427,val:=.ref 138 },{ hash:=kh P "law", key:=.str "law" 433,val:=.ref 143 }] 31 }
noncomputable def flagDict:Obj:={ cls:=.type "dict", data:=.dict #[{ hash:=1,key:=.int 1 305,val:=.str "OPTIMIZED" 306 },{ hash:=2,key:=.int 2 307,val:=.str "NEWLOCALS" 308 },{ hash:=4,key:=.int 4 309,val:=.str "VARARGS" 310 },{ hash:=8,key:=.int 8 311,val:=.str "VARKEYWORDS" 312 },{ hash:=16,key:=.int 16 313,val:=.str "NESTED" 314 },{ hash:=32,key:=.int 32 315,val:=.str "GENERATOR" 316 },{ hash:=64,key:=.int 64 317,val:=.str "NOFREE" 318 },{ hash:=128,key:=.int 128 319,val:=.str "COROUTINE" 320 },{ hash:=256,key:=.int 256 321,val:=.str "ITERABLE_COROUTINE" 322 },{ hash:=512,key:=.int 512 323,val:=.str "ASYNC_GENERATOR" 324 }] 10 }
noncomputable def c20:Obj:={ cls:=.type "code", data:=.fields #[.str "_iter_escaped_chars" 189,.str "_iter_escaped_chars" 190,.str "/claim/cut.py" 191,.int 2 0,.int 1 0,.int 0 0,.int 0 0,.int 35 0,.ref 15,.bool true,.int 181 0,.ref 16,.none,.ref 17,.ref 18,.ref 19,.int 196 0,.int 2 0,.str "/claim/cut.py" 197] }
noncomputable def c27:Obj:={ cls:=.type "code", data:=.fields #[.str "_strip_quoted_realnames" 199,.str "_strip_quoted_realnames" 200,.str "/claim/cut.py" 201,.int 15 0,.int 1 0,.int 0 0,.int 0 0,.int 3 0,.ref 22,.bool true,.int 181 0,.ref 23,.none,.ref 24,.ref 25,.ref 26,.int 208 0,.int 15 0,.str "/claim/cut.py" 209] }
noncomputable def c34:Obj:={ cls:=.type "code", data:=.fields #[.str "_check_parenthesis" 211,.str "_check_parenthesis" 212,.str "/claim/cut.py" 213,.int 33 0,.int 1 0,.int 0 0,.int 0 0,.int 3 0,.ref 29,.bool true,.int 181 0,.ref 30,.none,.ref 31,.ref 32,.ref 33,.int 218 0,.int 33 0,.str "/claim/cut.py" 219] }
noncomputable def c41:Obj:={ cls:=.type "code", data:=.fields #[.str "_div2n1n" 225,.str "_div2n1n" 226,.str "/claim/cut.py" 227,.int 46 0,.int 3 0,.int 0 0,.int 0 0,.int 3 0,.ref 36,.bool true,.int 181 0,.ref 37,.none,.ref 38,.ref 39,.ref 40,.int 239 0,.int 46 0,.str "/claim/cut.py" 240] }
noncomputable def c48:Obj:={ cls:=.type "code", data:=.fields #[.str "_div3n2n" 242,.str "_div3n2n" 243,.str "/claim/cut.py" 244,.int 62 0,.int 6 0,.int 0 0,.int 0 0,.int 3 0,.ref 43,.bool true,.int 181 0,.ref 44,.none,.ref 45,.ref 46,.ref 47,.int 253 0,.int 62 0,.str "/claim/cut.py" 254] }
noncomputable def c55:Obj:={ cls:=.type "code", data:=.fields #[.str "_int2digits" 256,.str "_int2digits" 257,.str "/claim/cut.py" 258,.int 72 0,.int 2 0,.int 0 0,.int 0 0,.int 3 0,.ref 50,.bool true,.int 181 0,.ref 51,.none,.ref 52,.ref 53,.ref 54,.int 264 0,.int 72 0,.str "/claim/cut.py" 265] }
noncomputable def c62:Obj:={ cls:=.type "code", data:=.fields #[.str "_digits2int" 267,.str "_digits2int" 268,.str "/claim/cut.py" 269,.int 88 0,.int 2 0,.int 0 0,.int 0 0,.int 3 0,.ref 57,.bool true,.int 181 0,.ref 58,.none,.ref 59,.ref 60,.ref 61,.int 275 0,.int 88 0,.str "/claim/cut.py" 276] }
noncomputable def c69:Obj:={ cls:=.type "code", data:=.fields #[.str "_divmod_pos" 278,.str "_divmod_pos" 279,.str "/claim/cut.py" 280,.int 97 0,.int 2 0,.int 0 0,.int 0 0,.int 3 0,.ref 64,.bool true,.int 181 0,.ref 65,.none,.ref 66,.ref 67,.ref 68,.int 290 0,.int 97 0,.str "/claim/cut.py" 291] }
noncomputable def c76:Obj:={ cls:=.type "code", data:=.fields #[.str "int_divmod" 293,.str "int_divmod" 294,.str "/claim/cut.py" 295,.int 108 0,.int 2 0,.int 0 0,.int 0 0,.int 3 0,.ref 71,.bool true,.int 181 0,.ref 72,.none,.ref 73,.ref 74,.ref 75,.int 300 0,.int 108 0,.str "/claim/cut.py" 301] }
noncomputable def c84:Obj:={ cls:=.type "code", data:=.fields #[.str "pretty_flags" 336,.str "pretty_flags" 337,.str "/claim/cut.py" 338,.int 121 0,.int 1 0,.int 0 0,.int 0 0,.int 3 0,.ref 79,.bool true,.int 181 0,.ref 80,.none,.ref 81,.ref 82,.ref 83,.int 343 0,.int 121 0,.str "/claim/cut.py" 344] }
noncomputable def c91:Obj:={ cls:=.type "code", data:=.fields #[.str "_parse_varint" 346,.str "_parse_varint" 347,.str "/claim/cut.py" 348,.int 133 0,.int 1 0,.int 0 0,.int 0 0,.int 3 0,.ref 86,.bool true,.int 181 0,.ref 87,.none,.ref 88,.ref 89,.ref 90,.int 352 0,.int 133 0,.str "/claim/cut.py" 353] }
noncomputable def c98:Obj:={ cls:=.type "code", data:=.fields #[.str "_strip_exception_details" 357,.str "_strip_exception_details" 358,.str "/claim/cut.py" 359,.int 142 0,.int 1 0,.int 0 0,.int 0 0,.int 3 0,.ref 93,.bool true,.int 181 0,.ref 94,.none,.ref 95,.ref 96,.ref 97,.int 364 0,.int 142 0,.str "/claim/cut.py" 365] }
noncomputable def c103:Obj:={ cls:=.type "code", data:=.fields #[.str "_law_word" 369,.str "_law_word" 370,.str "/claim/cut.py" 371,.int 155 0,.int 1 0,.int 0 0,.int 0 0,.int 3 0,.ref 100,.bool true,.int 181 0,.ref 101,.none,.none,.none,.ref 102,.int 372 0,.int 155 0,.str "/claim/cut.py" 373] }
noncomputable def c108:Obj:={ cls:=.type "code", data:=.fields #[.str "_law_ray" 375,.str "_law_ray" 376,.str "/claim/cut.py" 377,.int 161 0,.int 2 0,.int 0 0,.int 0 0,.int 3 0,.ref 105,.bool true,.int 181 0,.ref 106,.none,.none,.none,.ref 107,.int 378 0,.int 161 0,.str "/claim/cut.py" 379] }
noncomputable def c113:Obj:={ cls:=.type "code", data:=.fields #[.str "_law_apart" 381,.str "_law_apart" 382,.str "/claim/cut.py" 383,.int 177 0,.int 2 0,.int 0 0,.int 0 0,.int 3 0,.ref 110,.bool true,.int 181 0,.ref 111,.none,.none,.none,.ref 112,.int 384 0,.int 177 0,.str "/claim/cut.py" 385] }
noncomputable def c120:Obj:={ cls:=.type "code", data:=.fields #[.str "_law_lacks" 387,.str "_law_lacks" 388,.str "/claim/cut.py" 389,.int 184 0,.int 1 0,.int 0 0,.int 0 0,.int 3 0,.ref 115,.bool true,.int 181 0,.ref 116,.none,.ref 117,.ref 118,.ref 119,.int 394 0,.int 184 0,.str "/claim/cut.py" 395] }
noncomputable def c125:Obj:={ cls:=.type "code", data:=.fields #[.str "_law_octets" 397,.str "_law_octets" 398,.str "/claim/cut.py" 399,.int 190 0,.int 1 0,.int 0 0,.int 0 0,.int 3 0,.ref 122,.bool true,.int 181 0,.ref 123,.none,.none,.none,.ref 124,.int 400 0,.int 190 0,.str "/claim/cut.py" 401] }
noncomputable def c130:Obj:={ cls:=.type "code", data:=.fields #[.str "_law_named" 403,.str "_law_named" 404,.str "/claim/cut.py" 405,.int 193 0,.int 1 0,.int 0 0,.int 0 0,.int 3 0,.ref 127,.bool true,.int 181 0,.ref 128,.none,.none,.none,.ref 129,.int 406 0,.int 193 0,.str "/claim/cut.py" 407] }
noncomputable def c137:Obj:={ cls:=.type "code", data:=.fields #[.str "_law_run" 409,.str "_law_run" 410,.str "/claim/cut.py" 411,.int 198 0,.int 5 0,.int 0 0,.int 0 0,.int 3 0,.ref 132,.bool true,.int 181 0,.ref 133,.none,.ref 134,.ref 135,.ref 136,.int 425 0,.int 198 0,.str "/claim/cut.py" 426] }
noncomputable def c142:Obj:={ cls:=.type "code", data:=.fields #[.str "law" 428,.str "law" 429,.str "/claim/cut.py" 430,.int 215 0,.int 1 0,.int 0 0,.int 0 0,.int 3 0,.ref 139,.bool true,.int 181 0,.ref 140,.none,.none,.none,.ref 141,.int 431 0,.int 215 0,.str "/claim/cut.py" 432] }
noncomputable def kw (P:Params):Frag:=[(3,gdict P),(20,c20),(21,fnAt 1 20 "cpy313.email.utils" 187),(27,c27),(28,fnAt 2 27 "cpy313.email.utils" 187),(34,c34),(35,fnAt 3 34 "cpy313.email.utils" 187),(41,c41),(42,fnAt 6 41 "cpy313._pylong" 221),(48,c48),(49,fnAt 7 48 "cpy313._pylong" 221),(55,c55),(56,fnAt 8 55 "cpy313._pylong" 221),(62,c62),(63,fnAt 9 62 "cpy313._pylong" 221),(69,c69),(70,fnAt 10 69 "cpy313._pylong" 221),(76,c76),(77,fnAt 11 76 "cpy313._pylong" 221),(78,flagDict),(84,c84),(85,fnAt 14 84 "cpy313.dis" 303),(91,c91),(92,fnAt 15 91 "cpy313.dis" 303),(98,c98),(99,fnAt 17 98 "cpy313.doctest" 355),(103,c103),(104,fnAt 19 103 "law_tc0022_01" 367),(108,c108),(109,fnAt 20 108 "law_tc0022_01" 367),(113,c113),(114,fnAt 21 113 "law_tc0022_01" 367),(120,c120),(121,fnAt 22 120 "law_tc0022_01" 367),(125,c125),(126,fnAt 23 125 "law_tc0022_01" 367),(130,c130),(131,fnAt 24 130 "law_tc0022_01" 367),(137,c137),(138,fnAt 25 137 "law_tc0022_01" 367),(142,c142),(143,fnAt 26 142 "law_tc0022_01" 367)]
noncomputable def kwAt:List Addr:=[3,20,21,27,28,34,35,41,42,48,49,55,56,62,63,69,70,76,77,78,84,85,91,92,98,99,103,104,108,109,113,114,120,121,125,126,130,131,137,138,142,143]
theorem kwAt_eq (P:Params):kwAt=(kw P).map (·.1):=rfl
noncomputable def hook:Hook where
  α:=List (Option Obj) × List (Option Obj)
  obs:=fun s=>(kwAt.map s.heap.get?,[58,51].map s.heap.get?)
  val:=fun w=>((kw w.params).map fun p=>some p.2,[58,51].map fun θ=>some (tabObj #[]))
  says:=fun w h=>InK kw w h∧∀ P∈[58,51],h.get? P=some (tabObj #[])
  of:=fun w s x=>⟨InK.of kwAt_eq w s (Prod.mk.inj x).1,List.map_inj_left.mp (Prod.mk.inj x).2⟩
  keeps:=fun w h h' x k=>⟨InK.keeps w h h' x.1 k,fun P hP=>k _ _ (x.2 P hP)⟩
inductive D where
  | none
  | bool (b:Bool)
  | int (i:Int)
  | str (s:Str)
  | val (v:Value)
  | tup (ds:List D)
  | lst (ds:List D)
noncomputable def Lst (h:Heap) (a:Addr) (vs:List Value):Prop:=∃ n,h.get? a=some { cls:=.type "list", dict:=none,data:=.seq vs.toArray n,slots:=#[] }
theorem Lst.isList {h:Heap} {a:Addr} {vs:List Value} (x:Lst h a vs):h.IsList a vs.toArray:=let ⟨n,ho⟩:=x;⟨_,ho,rfl,n,rfl⟩
mutual
noncomputable def Bears (N:Addr->Prop) (h:Heap):D->Value->Prop
  | .none,v=>v=.none
  | .bool b,v=>v=.bool b
  | .int i,v=>∃ t,v=.int i t
  | .str x,v=>∃ t,v=.str x t
  | .val u,v=>v=u
  | .tup ds,v=>∃ a vs,v=.ref a∧¬ N a∧IsTup h a (List.toArray vs)∧BearsAll N h ds vs
  | .lst ds,v=>∃ a vs,v=.ref a∧¬ N a∧Lst h a vs∧BearsAll N h ds vs
noncomputable def BearsAll (N:Addr->Prop) (h:Heap):List D->List Value->Prop
  | [],vs=>vs=[]
  | d::ds,vs=>∃ v r,vs=v::r∧Bears N h d v∧BearsAll N h ds r
end
mutual
theorem Bears.keeps {N N':Addr->Prop} {h h':Heap} (k:∀ a o,¬ N a->h.get? a=some o->(o.cls=.type "tuple" ∨ o.cls=.type "list")->h'.get? a=some o) (kn:∀ a o,¬ N a->h.get? a=some o->¬ N' a):∀ {d:D} {v:Value},Bears N h d v->Bears N' h' d v
  | .none,_,x=>by unfold Bears at *;exact x
  | .bool _,_,x=>by unfold Bears at *;exact x
  | .int _,_,x=>by unfold Bears at *;exact x
  | .str _,_,x=>by unfold Bears at *;exact x
  | .val _,_,x=>by unfold Bears at *;exact x
  | .tup ds,_,x=>by
    unfold Bears at *
    obtain ⟨a,vs,e,n,⟨o,ho,hc,r⟩,b⟩:=x
    exact ⟨a,vs,e,kn a o n ho,⟨o,k a o n ho (.inl hc),hc,r⟩,BearsAll.keeps k kn b⟩
  | .lst ds,_,x=>by
    unfold Bears at *
    obtain ⟨a,vs,e,n,⟨m,ho⟩,b⟩:=x
    exact ⟨a,vs,e,kn a _ n ho,⟨m,k a _ n ho (.inr rfl)⟩,BearsAll.keeps k kn b⟩
theorem BearsAll.keeps {N N':Addr->Prop} {h h':Heap} (k:∀ a o,¬ N a->h.get? a=some o->(o.cls=.type "tuple" ∨ o.cls=.type "list")->h'.get? a=some o) (kn:∀ a o,¬ N a->h.get? a=some o->¬ N' a):∀ {ds:List D} {vs:List Value},BearsAll N h ds vs->BearsAll N' h' ds vs
  | [],_,x=>by unfold BearsAll at *;exact x
  | d::ds,_,x=>by
    unfold BearsAll at *
    obtain ⟨v,r,e,b,c⟩:=x
    exact ⟨v,r,e,Bears.keeps k kn b,BearsAll.keeps k kn c⟩
end
section
variable {N:Addr->Prop}
theorem bears_none {h:Heap}:Bears N h .none .none:=by unfold Bears;rfl
theorem bears_bool {h:Heap} {b:Bool}:Bears N h (.bool b) (.bool b):=by unfold Bears;rfl
theorem bears_int {h:Heap} {i:Int} {t:Tok}:Bears N h (.int i) (.int i t):=by unfold Bears;exact ⟨t,rfl⟩
theorem bears_str {h:Heap} {x:Str} {t:Tok}:Bears N h (.str x) (.str x t):=by unfold Bears;exact ⟨t,rfl⟩
theorem bears_val {h:Heap} {v:Value}:Bears N h (.val v) v:=by unfold Bears;rfl
theorem of_none {h:Heap} {v:Value} (x:Bears N h .none v):v=.none:=by unfold Bears at x;exact x
theorem of_bool {h:Heap} {b:Bool} {v:Value} (x:Bears N h (.bool b) v):v=.bool b:=by unfold Bears at x;exact x
theorem of_int {h:Heap} {i:Int} {v:Value} (x:Bears N h (.int i) v):∃ t,v=.int i t:=by unfold Bears at x;exact x
theorem of_str {h:Heap} {i:Str} {v:Value} (x:Bears N h (.str i) v):∃ t,v=.str i t:=by unfold Bears at x;exact x
theorem of_val {h:Heap} {u:Value} {v:Value} (x:Bears N h (.val u) v):v=u:=by unfold Bears at x;exact x
theorem of_tup {h:Heap} {ds:List D} {v:Value} (x:Bears N h (.tup ds) v):∃ a vs,v=.ref a∧¬ N a∧IsTup h a (List.toArray vs)∧BearsAll N h ds vs:=by unfold Bears at x;exact x
theorem of_lst' {h:Heap} {ds:List D} {v:Value} (x:Bears N h (.lst ds) v):∃ a vs,v=.ref a∧¬ N a∧Lst h a vs∧BearsAll N h ds vs:=by unfold Bears at x;exact x
theorem of_lst {h:Heap} {ds:List D} {v:Value} (x:Bears N h (.lst ds) v):∃ a vs,v=.ref a∧¬ N a∧h.IsList a (List.toArray vs)∧BearsAll N h ds vs:=let ⟨a,vs,e,n,l,b⟩:=of_lst' x;⟨a,vs,e,n,l.isList,b⟩
theorem bears_tup {h:Heap} {ds:List D} {a:Addr} {vs:List Value} (n:¬ N a) (x:IsTup h a vs.toArray) (y:BearsAll N h ds vs):Bears N h (.tup ds) (.ref a):=by unfold Bears;exact ⟨a,vs,rfl,n,x,y⟩
theorem bears_lst {h:Heap} {ds:List D} {a:Addr} {vs:List Value} (n:¬ N a) (x:Lst h a vs) (y:BearsAll N h ds vs):Bears N h (.lst ds) (.ref a):=by unfold Bears;exact ⟨a,vs,rfl,n,x,y⟩
theorem all_nil {h:Heap}:BearsAll N h [] []:=by unfold BearsAll;rfl
theorem all_cons {h:Heap} {d:D} {ds:List D} {v:Value} {vs:List Value} (x:Bears N h d v) (y:BearsAll N h ds vs):BearsAll N h (d::ds) (v::vs):=by
  unfold BearsAll;exact ⟨v,vs,rfl,x,y⟩
theorem all_nil_iff {h:Heap} {vs:List Value}:BearsAll N h [] vs↔vs=[]:=by unfold BearsAll;exact Iff.rfl
theorem all_cons_iff {h:Heap} {d:D} {ds:List D} {vs:List Value}:BearsAll N h (d::ds) vs↔∃ v r,vs=v::r∧Bears N h d v∧BearsAll N h ds r:=by
  conv=>lhs;unfold BearsAll
theorem all_length {h:Heap}:∀ {ds:List D} {vs:List Value},BearsAll N h ds vs->vs.length=ds.length
  | [],vs,x=>by rw [all_nil_iff.mp x];rfl
  | d::ds,vs,x=>by obtain ⟨v,r,rfl,_,y⟩:=all_cons_iff.mp x;rw [List.length_cons,List.length_cons,all_length y]
theorem all_append {h:Heap}:∀ {ds es:List D} {vs us:List Value},BearsAll N h ds vs->BearsAll N h es us->BearsAll N h (ds++es) (vs++us)
  | [],_,vs,_,x,y=>by rw [all_nil_iff.mp x];exact y
  | d::ds,_,vs,_,x,y=>by obtain ⟨v,r,rfl,b,z⟩:=all_cons_iff.mp x;exact all_cons b (all_append z y)
theorem all_get {h:Heap}:∀ {ds:List D} {vs:List Value},BearsAll N h ds vs->∀ {i:Nat} {d:D},ds[i]?=some d->∃ v,vs[i]?=some v∧Bears N h d v
  | [],_,_,i,d,e=>by simp at e
  | d::ds,vs,x,0,d',e=>by
    obtain ⟨v,r,rfl,b,_⟩:=all_cons_iff.mp x
    simp at e;subst e;exact ⟨v,by simp,b⟩
  | d::ds,vs,x,i+1,d',e=>by
    obtain ⟨v,r,rfl,_,y⟩:=all_cons_iff.mp x
    simp at e
    obtain ⟨v',e',b⟩:=all_get y e
    exact ⟨v',by simpa using e',b⟩
theorem all_drop {h:Heap}:∀ {ds:List D} {vs:List Value} (n:Nat),BearsAll N h ds vs->BearsAll N h (ds.drop n) (vs.drop n)
  | _,_,0,x=>by simpa using x
  | [],vs,n+1,x=>by rw [all_nil_iff.mp x];simpa using all_nil
  | d::ds,vs,n+1,x=>by obtain ⟨v,r,rfl,_,y⟩:=all_cons_iff.mp x;simpa using all_drop n y
theorem all_reverse {h:Heap}:∀ {ds:List D} {vs:List Value},BearsAll N h ds vs->BearsAll N h ds.reverse vs.reverse
  | [],vs,x=>by rw [all_nil_iff.mp x];simpa using all_nil
  | d::ds,vs,x=>by obtain ⟨v,r,rfl,b,y⟩:=all_cons_iff.mp x;simpa using all_append (all_reverse y) (all_cons b all_nil)
end
noncomputable abbrev Loc:=Nat ⊕ Nat
noncomputable def tabs:List Addr:=[58,51]
noncomputable abbrev Mo (w:World):Model:=model prog w
noncomputable def isRec (o:Obj):Prop:=o.cls=.type "code" ∧ ∃ vs,o.data=.fields vs
noncomputable def inAt (P:Addr):Int × Int × Str:=if P==51 then (75,4, "_int2digits.<locals>.inner") else (90,4, "_digits2int.<locals>.inner")
noncomputable def TabRec (P:Addr) (vs more:Array Value) (h:Heap):Prop:=more=#[]∨(vs=#[]∧∃ c o fs t,more=#[rawInt (inAt P).1,rawInt (inAt P).2.1,.ref c]∧h.get? c=some o∧o.cls=.type "code" ∧ o.data=.fields fs∧fs[1]?=some (.str (inAt P).2.2 t))
theorem TabRec.nil {P:Addr} {vs:Array Value} {h:Heap}:TabRec P vs #[] h:=.inl rfl
theorem TabRec.trans {P:Addr} {vs m m':Array Value} {h h':Heap} (k:∀ b o,isRec o->h.get? b=some o->h'.get? b=some o) (x:TabRec P vs m h) (y:TabRec P (vs++m) m' h'):TabRec P vs (m++m') h':=by
  rcases x with rfl | ⟨rfl,c,o,fs,t,rfl,ho,hc,hd,hf⟩
  · rw [Array.append_empty] at y;rw [Array.empty_append];exact y
  · rcases y with rfl | ⟨e,_⟩
    · rw [Array.append_empty];exact .inr ⟨rfl,c,o,fs,t,rfl,k c o ⟨hc,fs,hd⟩ ho,hc,hd,hf⟩
    · have:=congrArg Array.size e;simp at this
structure To (X:Loc->Prop) (s s':Shared):Prop where
  keep:∀ b o,¬ X (.inl b)->(b∈tabs->o.cls≠.none)->s.heap.get? b=some o->s'.heap.get? b=some o
  tab:∀ P,P∈tabs->∀ vs,s.heap.get? P=some (tabObj vs)->∃ more,s'.heap.get? P=some (tabObj (vs++more))∧TabRec P vs more s'.heap
  code:∀ b o,isRec o->s.heap.get? b=some o->s'.heap.get? b=some o
  gkeep:∀ g x,¬ X (.inr g)->s.gens[g]?=some x->s'.gens[g]?=some x
  bare:AllBare s.gens->AllBare s'.gens
  os:s'.os=s.os
noncomputable def no:Loc->Prop:=fun θ=>False
theorem To.refl (X:Loc->Prop) (s:Shared):To X s s:=
  ⟨fun θ θ θ θ e=>e,fun θ θ vs e=>⟨#[],by rw [Array.append_empty];exact e,.nil⟩,fun θ θ θ e=>e,fun θ θ θ e=>e,id,rfl⟩
theorem To.trans {X:Loc->Prop} {s s' s'':Shared} (x:To X s s') (y:To X s' s''):To X s s'':=
  ⟨fun b o hb ht e=>y.keep b o hb ht (x.keep b o hb ht e),fun P hP vs e=>by
    obtain ⟨m,e',r⟩:=x.tab P hP vs e
    obtain ⟨m',e'',r'⟩:=y.tab P hP _ e'
    exact ⟨m++m',by rw [← Array.append_assoc];exact e'',r.trans y.code r'⟩,fun b o hr e=>y.code b o hr (x.code b o hr e),fun g x' hg e=>y.gkeep g x' hg (x.gkeep g x' hg e),fun h=>y.bare (x.bare h),y.os.trans x.os⟩
theorem To.mono {X Y:Loc->Prop} {s s':Shared} (x:To X s s') (h:∀ l,X l->Y l):To Y s s':=
  ⟨fun b o hb ht e=>x.keep b o (fun q=>hb (h _ q)) ht e,x.tab,x.code,fun g x' hg e=>x.gkeep g x' (fun q=>hg (h _ q)) e,x.bare,x.os⟩
theorem To.of_no {X:Loc->Prop} {s s':Shared} (x:To no s s'):To X s s':=x.mono fun θ h=>h.elim
noncomputable def NewAt (s:Shared):Loc->Prop
  | .inl a=>s.heap.get? a=none
  | .inr g=>s.gens[g]?=none
theorem newAt_ge {s:Shared} {a:Addr} (h:s.heap.objs.size≤a):NewAt s (.inl a):=by
  show s.heap.get? a=none
  cases e:s.heap.get? a with
  | none=>rfl
  | some o=>exact absurd (Heap.lt_size e) (Nat.not_lt.mpr h)
theorem To.forget {X:Loc->Prop} {s₀ s s':Shared} (x:To no s₀ s) (y:To X s s') (h:∀ l,X l->NewAt s₀ l):To no s₀ s':=
  ⟨fun b o θ ht e=>y.keep b o (fun q=>by have:=h _ q;rw [show s₀.heap.get? b=none from this] at e;cases e) ht (x.keep b o id ht e),fun P hP vs e=>by
    obtain ⟨m,e',r⟩:=x.tab P hP vs e
    obtain ⟨m',e'',r'⟩:=y.tab P hP _ e'
    exact ⟨m++m',by rw [← Array.append_assoc];exact e'',r.trans y.code r'⟩,fun b o hr e=>y.code b o hr (x.code b o hr e),fun g x' θ e=>y.gkeep g x' (fun q=>by
      have:=h _ q;rw [show s₀.gens[g]?=none from this] at e;cases e) (x.gkeep g x' id e),fun h=>y.bare (x.bare h),y.os.trans x.os⟩
noncomputable def TabOk (s:Shared):Prop:=∀ P,P∈tabs->∃ vs,s.heap.get? P=some (tabObj vs)
theorem TabOk.to {X:Loc->Prop} {s s':Shared} (h:TabOk s) (x:To X s s'):TabOk s':=fun P hP=>by
  obtain ⟨vs,e⟩:=h P hP
  obtain ⟨m,e',_⟩:=x.tab P hP vs e
  exact ⟨_,e'⟩
theorem NewAt.to {s s':Shared} (ht:TabOk s) (x:To no s s') {l:Loc} (h:NewAt s' l):NewAt s l:=by
  cases l with
  | inl a=>
    show s.heap.get? a=none
    cases e:s.heap.get? a with
    | none=>rfl
    | some o=>
      have h':s'.heap.get? a=none:=h
      by_cases q:a∈tabs
      · obtain ⟨vs,ev⟩:=ht a q
        obtain ⟨m,e',_⟩:=x.tab a q vs ev
        rw [h'] at e';cases e'
      · have:=x.keep a o id (fun z=>absurd z q) e
        rw [h'] at this;cases this
  | inr g=>
    show s.gens[g]?=none
    cases e:s.gens[g]? with
    | none=>rfl
    | some o=>
      have h':s'.gens[g]?=none:=h
      have:=x.gkeep g o id e
      rw [h'] at this;cases this
theorem To.toks {X:Loc->Prop} (s:Shared) (t:Nat):To X s { s with toks:=t }:=
  ⟨fun θ θ θ θ e=>e,fun θ θ vs e=>⟨#[],by rw [Array.append_empty];exact e,.nil⟩,fun θ θ θ e=>e,fun θ θ θ e=>e,id,rfl⟩
theorem To.heap {X:Loc->Prop} {s:Shared} {h:Heap} {t:Nat} (k:∀ b o,s.heap.get? b=some o->h.get? b=some o):To X s { s with heap:=h,toks:=t }:=
  ⟨fun b o θ θ e=>k b o e,fun P θ vs e=>⟨#[],by rw [Array.append_empty];exact k P _ e,.nil⟩,fun b o θ e=>k b o e,fun θ θ θ e=>e,id,rfl⟩
theorem To.push {X:Loc->Prop} (s:Shared) (o:Obj):To X s { s with heap:=s.heap.push o }:=
  To.heap (fun θ θ e=>Heap.get?_push_of_some _ e)
structure Turns (s:Shared) (a:Addr):Prop where
  nt:a∉tabs
  nr:∀ o,s.heap.get? a=some o->¬ isRec o
theorem To.ext {X:Loc->Prop} {s:Shared} {h:Heap} {t:Nat} {a:Addr} (hs:Heap.ExtBut a s.heap h) (ha:X (.inl a)) (ht:Turns s a):To X s { s with heap:=h,toks:=t }:=
  ⟨fun b o hb θ e=>hs b o (fun q=>hb (q▸ha)) e,fun P hP vs e=>⟨#[],by rw [Array.append_empty];exact hs P _ (fun q=>ht.nt (q▸hP)) e,.nil⟩,fun b o hr e=>hs b o (fun q=>ht.nr o (q▸e) hr) e,fun θ θ θ e=>e,id,rfl⟩
theorem To.but {X:Loc->Prop} {s:Shared} {h:Heap} {t:Nat} {a:Addr} (hs:Heap.SameBut a s.heap h) (ha:X (.inl a)) (ht:Turns s a):To X s { s with heap:=h,toks:=t }:=To.ext hs.extBut ha ht
theorem turns_cls {s:Shared} {a:Addr} {o:Obj} {c:String} (nt:a∉tabs) (ho:s.heap.get? a=some o) (hc:o.cls=.type c) (h:c ≠ "code"):Turns s a:=⟨nt,fun o' e hr=>by rw [ho] at e;cases e;exact h (Value.type.inj (hc.symm.trans hr.1))⟩
theorem turns_data {s:Shared} {a:Addr} {o:Obj} (nt:a∉tabs) (ho:s.heap.get? a=some o) (hd:∀ vs,o.data≠.fields vs):Turns s a:=⟨nt,fun o' e hr=>by rw [ho] at e;cases e;obtain ⟨vs,h⟩:=hr.2;exact hd vs h⟩
theorem turns_ns {s:Shared} {a:Addr} {m:Str->Option Value} (nt:a∉tabs) (h:s.heap.Ns a m):Turns s a:=let ⟨_,_,_,ho,hd,_⟩:=h;turns_data nt ho fun vs q=>by rw [hd] at q;cases q
theorem turns_cell {s:Shared} {a:Addr} {m:Option Value} (nt:a∉tabs) (h:s.heap.IsCell a m):Turns s a:=let ⟨_,ho,hd⟩:=h;turns_data nt ho fun vs q=>by rw [hd] at q;cases q
theorem turns_list {s:Shared} {a:Addr} {xs:Array Value} (nt:a∉tabs) (h:s.heap.IsList a xs):Turns s a:=let ⟨_,ho,_,_,hd⟩:=h;turns_data nt ho fun vs q=>by rw [hd] at q;cases q
noncomputable def Nex (N:Addr->Prop) (s:Shared):Prop:=∀ a,N a->¬ NewAt s (.inl a)
theorem Nex.new {N:Addr->Prop} {s:Shared} (h:Nex N s) {a:Addr} (n:NewAt s (.inl a)):¬ N a:=fun q=>h a q n
theorem Nex.size {N:Addr->Prop} {s:Shared} (h:Nex N s):¬ N s.heap.objs.size:=h.new (newAt_ge (Nat.le_refl _))
theorem Nex.to {N:Addr->Prop} {s s':Shared} (ht:TabOk s) (h:Nex N s) (x:To no s s'):Nex N s':=fun a n q=>h a n (NewAt.to ht x q)
theorem Bears.to {N:Addr->Prop} {s s':Shared} (x:To no s s') {d:D} {v:Value} (b:Bears N s.heap d v):Bears N s'.heap d v:=
  b.keeps (fun a o θ e hc=>x.keep a o id (fun θ q=>by rcases hc with z | z<;>rw [z] at q<;>cases q) e) fun θ θ n θ=>n
theorem BearsAll.to {N:Addr->Prop} {s s':Shared} (x:To no s s') {d:List D} {v:List Value} (b:BearsAll N s.heap d v):BearsAll N s'.heap d v:=
  b.keeps (fun a o θ e hc=>x.keep a o id (fun θ q=>by rcases hc with z | z<;>rw [z] at q<;>cases q) e) fun θ θ n θ=>n
noncomputable def orN (N:Addr->Prop) (a:Addr):Addr->Prop:=fun b=>N b∨b=a
theorem Bears.more {N:Addr->Prop} {s:Shared} {a:Addr} (n:NewAt s (.inl a)) {d:D} {v:Value} (b:Bears N s.heap d v):Bears (orN N a) s.heap d v:=
  b.keeps (fun θ θ θ e θ=>e) fun c o hn e q=>q.elim hn fun z=>by subst z;rw [show s.heap.get? c=none from n] at e;cases e
theorem BearsAll.more {N:Addr->Prop} {s:Shared} {a:Addr} (n:NewAt s (.inl a)) {d:List D} {v:List Value} (b:BearsAll N s.heap d v):BearsAll (orN N a) s.heap d v:=
  b.keeps (fun θ θ θ e θ=>e) fun c o hn e q=>q.elim hn fun z=>by subst z;rw [show s.heap.get? c=none from n] at e;cases e
theorem Bears.fewer {N N':Addr->Prop} (hn:∀ a,N' a->N a) {h:Heap} {d:D} {v:Value} (b:Bears N h d v):Bears N' h d v:=
  b.keeps (fun θ θ θ e θ=>e) fun c o n e q=>n (hn c q)
theorem BearsAll.fewer {N N':Addr->Prop} (hn:∀ a,N' a->N a) {h:Heap} {d:List D} {v:List Value} (b:BearsAll N h d v):BearsAll N' h d v:=
  b.keeps (fun θ θ θ e θ=>e) fun c o n e q=>n (hn c q)
noncomputable abbrev Kw (w:World):Frag:=kw w.params
structure GW (w:World) (s₁:Shared):Prop where
  kin:(Kw w).In s₁.heap
  ns:∃ mg mb,s₁.heap.Ns mainGlobals mg∧s₁.heap.Ns builtinsNs mb∧(∀ x:Str,x ≠ "__name__" -> mb x=bootBuiltins x)
  lim:s₁.heap.NoLimit
  tab:∀ P,P∈tabs->s₁.heap.get? P=some (tabObj #[])
  bmain:∃ mg bm ob,s₁.heap.Ns mainGlobals mg∧mg "__builtins__" = some (.ref bm)∧bm≠builtinsNs∧s₁.heap.get? bm=some ob∧ob.cls=.type "module" ∧ ob.dict=some builtinsNs∧ob.data=.plain
noncomputable abbrev At (s₁ s:Shared):Prop:=To no s₁ s
section
variable {w:World} {s₁ s:Shared}
theorem not_tabs_of {P:Addr} (h:(P==58||P==51)=false):P∉tabs:=by
  intro q;simp [tabs] at q;rcases q with q | q<;>subst q<;>simp at h
theorem GW.get (G:GW w s₁) (H:At s₁ s) {a:Addr} {o:Obj} (e:(Kw w).lookup a=some o) (ha:(a==58||a==51)=false):s.heap.get? a=some o:=
  H.keep a o id (fun q=>absurd q (not_tabs_of ha)) (G.kin a o e)
theorem ns_to {X:Loc->Prop} {s':Shared} (x:To X s s') {a:Addr} {m:Str->Option Value} (hX:¬ X (.inl a)) (ha:(a==58||a==51)=false) (h:s.heap.Ns a m):s'.heap.Ns a m:=
  let ⟨o,es,ep,ho,r⟩:=h;⟨o,es,ep,x.keep a o hX (fun q=>absurd q (not_tabs_of ha)) ho,r⟩
theorem ns_to' {X:Loc->Prop} {s':Shared} (x:To X s s') {a:Addr} {m:Str->Option Value} (hX:¬ X (.inl a)) (ha:a∉tabs) (h:s.heap.Ns a m):s'.heap.Ns a m:=
  let ⟨o,es,ep,ho,r⟩:=h;⟨o,es,ep,x.keep a o hX (fun q=>absurd q ha) ho,r⟩
theorem GW.tabOk (G:GW w s₁) (H:At s₁ s):TabOk s:=TabOk.to (fun P hP=>⟨_,G.tab P hP⟩) H
theorem GW.nolimit (G:GW w s₁) (H:At s₁ s):s.heap.NoLimit:=
  let ⟨mc,a,b⟩:=G.lim;⟨mc,ns_to H id (by decide) a,b⟩
end
structure Rm (n:Nat) (A:Around):Prop where
  d:A.depth+n≤1000
  u:A.units+4*n≤9900
theorem Rm.mono {n m:Nat} {A:Around} (x:Rm n A) (h:m≤n):Rm m A:=⟨by have:=x.d;omega,by have:=x.u;omega⟩
theorem Rm.in1 {n:Nat} {A:Around} (x:Rm (n+1) A):Rm n A.in1:=⟨by have:=x.d;show A.depth+n≤1000;omega,by have:=x.u;show A.units+1+4*n≤9900;omega⟩
theorem Rm.deeper {n:Nat} {A:Around} {env:Env} (x:Rm (n+1) A):Rm n (A.deeper env):=⟨by have:=x.d;show A.depth+1+n≤1000;omega,by have:=x.u;show A.units+3+4*n≤9900;omega⟩
theorem Rm.lt {n:Nat} {A:Around} (x:Rm (n+1) A):A.depth<recursionLimit:=by have:=x.d;show A.depth<1000;omega
structure Rel (s₁:Shared) (N:Addr->Prop) (X:Loc->Prop) (sb:Shared) (env:Env) (ρ:List (Str × D)) (γ:List (D × Value)) (s:Shared):Prop where
  inv:At s₁ s
  to:To X sb s
  xnew:∀ l,X l->NewAt s₁ l
  xloc:X (.inl env.locals)
  ns:∃ m,s.heap.Ns env.locals m∧∀ x d,env.kindOf x=some .local->ρ.lookup x=some d->∃ v,m x=some v∧Bears N s.heap d v
  cel:∀ x k,env.kindOf x=some k->k=.cell∨k=.free->∃ c ov,env.cells.lookup x=some c∧s.heap.IsCell c ov∧c∉tabs∧∀ d,ρ.lookup x=some d->∃ v,ov=some v∧Bears N s.heap d v
  apart:∀ x y c,env.cells.lookup x=some c->env.cells.lookup y=some c->x=y
  ltab:env.locals∉tabs
  gh:∀ p,p∈γ->Bears N s.heap p.1 p.2
  nex:Nex N s
  tabs:TabOk s
theorem cell_to {s s':Shared} {c:Addr} {ov:Option Value} (x:To no s s') (hc:c∉tabs) (h:s.heap.IsCell c ov):s'.heap.IsCell c ov:=
  let ⟨o,ho,hd⟩:=h;⟨o,x.keep c o id (fun q=>absurd q hc) ho,hd⟩
theorem Rel.step {s₁ sb s s':Shared} {N:Addr->Prop} {X:Loc->Prop} {env:Env} {ρ:List (Str × D)} {γ:List (D × Value)} (R:Rel s₁ N X sb env ρ γ s) (x:To no s s'):Rel s₁ N X sb env ρ γ s' where
  inv:=R.inv.trans x
  to:=R.to.trans x.of_no
  xnew:=R.xnew
  xloc:=R.xloc
  ns:=let ⟨m,h,k⟩:=R.ns;⟨m,ns_to' x id R.ltab h,fun y d hk hl=>let ⟨v,e,b⟩:=k y d hk hl;⟨v,e,b.to x⟩⟩
  cel:=fun y k hk hq=>let ⟨c,ov,hc,hi,ht,r⟩:=R.cel y k hk hq;⟨c,ov,hc,cell_to x ht hi,ht,fun d hd=>let ⟨v,e,b⟩:=r d hd;⟨v,e,b.to x⟩⟩
  apart:=R.apart
  ltab:=R.ltab
  gh:=fun p hp=>(R.gh p hp).to x
  nex:=R.nex.to R.tabs x
  tabs:=R.tabs.to x
theorem Rel.weaken {s₁ sb s:Shared} {N:Addr->Prop} {X:Loc->Prop} {env:Env} {ρ ρ':List (Str × D)} {γ γ':List (D × Value)} (R:Rel s₁ N X sb env ρ γ s) (h:∀ x d,ρ'.lookup x=some d->ρ.lookup x=some d) (hg:∀ p,p∈γ'->p∈γ):Rel s₁ N X sb env ρ' γ' s where
  inv:=R.inv
  to:=R.to
  xnew:=R.xnew
  xloc:=R.xloc
  ns:=let ⟨m,h',k⟩:=R.ns;⟨m,h',fun y d hk hl=>k y d hk (h y d hl)⟩
  cel:=fun y k hk hq=>let ⟨c,ov,hc,hi,ht,r⟩:=R.cel y k hk hq;⟨c,ov,hc,hi,ht,fun d hd=>r d (h y d hd)⟩
  apart:=R.apart
  ltab:=R.ltab
  gh:=fun p hp=>R.gh p (hg p hp)
  nex:=R.nex
  tabs:=R.tabs
theorem Rel.ghost {s₁ sb s:Shared} {N:Addr->Prop} {X:Loc->Prop} {env:Env} {ρ:List (Str × D)} {γ:List (D × Value)} (R:Rel s₁ N X sb env ρ γ s) {γ':List (D × Value)} (h:∀ p,p∈γ'->Bears N s.heap p.1 p.2):Rel s₁ N X sb env ρ (γ'++γ) s:=
  { R with gh:=fun p hp=>(List.mem_append.mp hp).elim (h p) (R.gh p) }
theorem Rel.here {s₁ sb s:Shared} {N:Addr->Prop} {X:Loc->Prop} {env:Env} {ρ:List (Str × D)} {γ:List (D × Value)} (R:Rel s₁ N X sb env ρ γ s):Rel s₁ N X s env ρ γ s:={ R with to:=To.refl _ _ }
theorem Rel.back {s₁ sb s s':Shared} {N:Addr->Prop} {X:Loc->Prop} {env:Env} {ρ ρ':List (Str × D)} {γ γ':List (D × Value)} (R:Rel s₁ N X sb env ρ γ s) (R':Rel s₁ N X s env ρ' γ' s'):Rel s₁ N X sb env ρ' γ' s':={ R' with to:=R.to.trans R'.to }
structure Gv (w:World) (s₁:Shared) (A:Around) (env:Env) (ρ:List (Str × D)) {α:Type} (t:Sem α) (P:(Addr->Prop)->α->Shared->Prop):Prop where
  run:∀ N X sb γ s,Rel s₁ N X sb env ρ γ s->wpAny (Mo w) A t (fun a s'=>To no s s'∧P N a s') (fun θ θ=>False) s
noncomputable def Ev (w:World) (s₁:Shared) (A:Around) (env:Env) (ρ:List (Str × D)) (e:Expr) (d:D):Prop:=Gv w s₁ A env ρ (eval e env) fun N v s=>Bears N s.heap d v
noncomputable def Ts (w:World) (s₁:Shared) (A:Around) (env:Env) (ρ:List (Str × D)) (e:Expr) (b:Bool):Prop:=Gv w s₁ A env ρ (isTrue e env (eval e env)) fun θ c θ=>c=b
noncomputable def Op (w:World) (s₁:Shared) (N:Addr->Prop) (A:Around) {α:Type} (s:Shared) (t:Sem α) (P:α->Shared->Prop):Prop:=
  At s₁ s->Nex N s->wpAny (Mo w) A t (fun a s'=>To no s s'∧P a s') (fun θ θ=>False) s
section
variable {w:World} {s₁:Shared} {A:Around} {env:Env} {ρ:List (Str × D)} {α β:Type}
theorem Gv.use {t:Sem α} {P:(Addr->Prop)->α->Shared->Prop} (x:Gv w s₁ A env ρ t P) {N:Addr->Prop} {X:Loc->Prop} {sb s:Shared} {γ:List (D × Value)} (R:Rel s₁ N X sb env ρ γ s) {Q:α->Shared->Prop} {E:Value->Shared->Prop}
    (h:∀ a s',To no s s'->P N a s'->Q a s'):wpAny (Mo w) A t Q E s:=
  wpAny_mono (x.run N X sb γ s R) (fun a s' y=>h a s' y.1 y.2) fun θ θ y=>y.elim
theorem Gv.mono {t:Sem α} {P P':(Addr->Prop)->α->Shared->Prop} (x:Gv w s₁ A env ρ t P) (h:∀ N a s,P N a s->P' N a s):Gv w s₁ A env ρ t P':=Gv.mk <| fun N X sb γ s R=>x.use R fun a s' T y=>⟨T,h N a s' y⟩
theorem Ev.conv {e:Expr} {d d':D} (x:Ev w s₁ A env ρ e d) (h:d=d'):Ev w s₁ A env ρ e d':=h▸x
theorem ev_local {x:Str} {pos:Pos} {d:D} (hk:env.scope.kind=.function) (hl:env.kindOf x=some .local) (hd:ρ.lookup x=some d) (hn:(x==("__debug__" : Str))=false):Ev w s₁ A env ρ (.Name x pos) d:=Gv.mk <| fun N X sb γ s R=>by
  obtain ⟨m,hm,k⟩:=R.ns
  obtain ⟨v,e,b⟩:=k x d hl hd
  exact wpAny_Name (wpAny_loadName_local hk hl hm e ⟨To.refl _ _,b⟩) hn
theorem ev_cell {x:Str} {pos:Pos} {d:D} (hk:env.scope.kind=.function) (hl:env.kindOf x=some .cell) (hd:ρ.lookup x=some d) (hn:(x==("__debug__" : Str))=false):Ev w s₁ A env ρ (.Name x pos) d:=Gv.mk <| fun N X sb γ s R=>by
  obtain ⟨c,ov,hc,hi,_,r⟩:=R.cel x _ hl (.inl rfl)
  obtain ⟨v,rfl,b⟩:=r d hd
  exact wpAny_Name (wpAny_loadName_cell hk hl hc hi ⟨To.refl _ _,b⟩) hn
theorem ev_free {x:Str} {pos:Pos} {d:D} (hk:env.scope.kind=.function) (hl:env.kindOf x=some .free) (hd:ρ.lookup x=some d) (hn:(x==("__debug__" : Str))=false) (hn2:(x==("__classdict__" : Str))=false):Ev w s₁ A env ρ (.Name x pos) d:=Gv.mk <| fun N X sb γ s R=>by
  obtain ⟨c,ov,hc,hi,_,r⟩:=R.cel x _ hl (.inr rfl)
  obtain ⟨v,rfl,b⟩:=r d hd
  exact wpAny_Name (wpAny_loadName_free hk hl hc hi ⟨To.refl _ _,b⟩ hn2) hn
theorem ev_global (G:GW w s₁) {x:Str} {pos:Pos} {v:Value} (hk:env.scope.kind=.function) (hg:env.globals=mainGlobals) (hl:env.kindOf x=some .globalImplicit) (he:nsIn (Kw w) mainGlobals x=some (some v)) (hn:(x==("__debug__" : Str))=false):Ev w s₁ A env ρ (.Name x pos) (.val v):=Gv.mk <| fun N X sb γ s R=>by
  obtain ⟨mg,mb,hmg,hmb,hb⟩:=G.ns
  exact Calls.Name_function_global hk hl (Calls.loadGlobal_global (mg:=mg) (by rw [hg];exact ns_to R.inv id (by decide) hmg) (mg_of G.kin hmg he) ⟨To.refl _ _,bears_val⟩) hn
theorem ev_builtin (G:GW w s₁) {x:Str} {pos:Pos} {v:Value} (hk:env.scope.kind=.function) (hg:env.globals=mainGlobals) (hbn:env.builtins=builtinsNs) (hl:env.kindOf x=some .globalImplicit) (he:nsIn (Kw w) mainGlobals x=some none) (hv:bootBuiltins x=some v) (hx:x ≠ "__name__") (hn:(x==("__debug__" : Str))=false):Ev w s₁ A env ρ (.Name x pos) (.val v):=Gv.mk <| fun N X sb γ s R=>by
  obtain ⟨mg,mb,hmg,hmb,hb⟩:=G.ns
  exact Calls.Name_function_global hk hl (Calls.loadGlobal_builtin (mg:=mg) (mb:=mb) (by rw [hg];exact ns_to R.inv id (by decide) hmg) (mg_none_of G.kin hmg he) (by rw [hbn];exact ns_to R.inv id (by decide) hmb) ((hb x hx).trans hv) ⟨To.refl _ _,bears_val⟩) hn
theorem ev_int {i:Int} {k:Nat} {pos:Pos}:Ev w s₁ A env ρ (.Constant (.int i) k pos) (.int i):=Gv.mk <| fun θ θ θ θ s θ=>by
  show wpAny _ _ (mkInt i) _ _ s
  exact wpAny_mkInt ⟨To.toks _ _,bears_int⟩
theorem ev_str {x:Str} {k:Nat} {pos:Pos}:Ev w s₁ A env ρ (.Constant (.str x) k pos) (.str x):=Gv.mk <| fun θ θ θ θ s θ=>by
  show wpAny _ _ (mkText x) _ _ s
  exact wpAny_mkText ⟨To.toks _ _,bears_str⟩
theorem ev_bool {b:Bool} {k:Nat} {pos:Pos}:Ev w s₁ A env ρ (.Constant (.bool b) k pos) (.bool b):=Gv.mk <| fun θ θ θ θ s θ=>wpAny_pure ⟨To.refl _ _,bears_bool⟩
theorem ev_none {k:Nat} {pos:Pos}:Ev w s₁ A env ρ (.Constant .none k pos) .none:=Gv.mk <| fun θ θ θ θ s θ=>wpAny_pure ⟨To.refl _ _,bears_none⟩
theorem ev_bin {l r:Expr} {op:Operator} {pos:Pos} {a b d:D} (x:Ev w s₁ A env ρ l a) (y:Ev w s₁ A env ρ r b)
    (h:∀ N s u v,Bears N s.heap a u->Bears N s.heap b v->Op w s₁ N A s (binaryOp op u v) fun z s'=>Bears N s'.heap d z):Ev w s₁ A env ρ (.BinOp l op r pos) d:=Gv.mk <| fun N X sb γ s R=>
  wpAny_BinOp (x.use R fun u s' T bu=>y.use (R.step T) fun v s'' T' bv=>wpAny_mono (h N s'' u v (bu.to T') bv (R.inv.trans (T.trans T')) ((R.step T).step T').nex) (fun θ θ z=>⟨(T.trans T').trans z.1,z.2⟩) fun θ θ z=>z.elim)
theorem ev_cmp {l r:Expr} {op:CmpOp} {pos:Pos} {a b d:D} (x:Ev w s₁ A env ρ l a) (y:Ev w s₁ A env ρ r b)
    (h:∀ N s u v,Bears N s.heap a u->Bears N s.heap b v->Op w s₁ N A s (compareOp op u v) fun z s'=>Bears N s'.heap d z) (hm:behindInMarks op r=false):Ev w s₁ A env ρ (.Compare l [op] [r] pos) d:=Gv.mk <| fun N X sb γ s R=>
  wpAny_Compare1 (x.use R fun u s' T bu=>y.use (R.step T) fun v s'' T' bv=>wpAny_mono (h N s'' u v (bu.to T') bv (R.inv.trans (T.trans T')) ((R.step T).step T').nex) (fun θ θ z=>⟨(T.trans T').trans z.1,z.2⟩) fun θ θ z=>z.elim) hm
theorem ts_cmp {l r:Expr} {op:CmpOp} {pos:Pos} {a b:D} {c:Bool} (x:Ev w s₁ A env ρ l a) (y:Ev w s₁ A env ρ r b)
    (h:∀ N s u v,Bears N s.heap a u->Bears N s.heap b v->Op w s₁ N A s (compareOp op u v) fun z s'=>Bears N s'.heap (.bool c) z) (hm:behindInMarks op r=false):Ts w s₁ A env ρ (.Compare l [op] [r] pos) c:=Gv.mk <| fun N X sb γ s R=>
  wpAny_isTrue_Compare1 (x.use R fun u s' T bu=>y.use (R.step T) fun v s'' T' bv=>wpAny_mono (h N s'' u v (bu.to T') bv (R.inv.trans (T.trans T')) ((R.step T).step T').nex) (fun z s₃ q=>by
    obtain rfl:=of_bool q.2
    exact fun θ θ θ=>⟨(T.trans T').trans q.1,rfl⟩) fun θ θ z=>z.elim) hm
theorem ev_un {l:Expr} {op:UnaryOp} {pos:Pos} {a d:D} (x:Ev w s₁ A env ρ l a)
    (h:∀ N s u,Bears N s.heap a u->Op w s₁ N A s (unaryOp op u) fun z s'=>Bears N s'.heap d z):Ev w s₁ A env ρ (.UnaryOp op l pos) d:=Gv.mk <| fun N X sb γ s R=>by
  rw [arm_eval_UnaryOp]
  exact wpAny_bind (x.use R fun u s' T bu=>wpAny_bind (wpAny_standAt (wpAny_holding (wpAny_mono (h N s' u bu (R.inv.trans T) (R.step T).nex) (fun θ θ z=>⟨T.trans z.1,z.2⟩) fun θ θ z=>z.elim))))
theorem ts_plain {e:Expr} {d:D} {b:Bool} (x:Ev w s₁ A env ρ e d) (h:∀ N s u,Bears N s.heap d u->Op w s₁ N A s (truthy u) fun c θ=>c=b)
    (he:∀ whole,isTrue e env whole=(do let v ← whole;standAt e.pos;holding [v] (truthy v))):Ts w s₁ A env ρ e b:=Gv.mk <| fun N X sb γ s R=>
  isTrue_plain (x.use R fun u s' T bu=>wpAny_mono (h N s' u bu (R.inv.trans T) (R.step T).nex) (fun θ θ z=>⟨T.trans z.1,z.2⟩) fun θ θ z=>z.elim) (he _)
theorem ev_if {t b o:Expr} {pos:Pos} {c:Bool} {d:D} (x:Ts w s₁ A env ρ t c) (y:c=true->Ev w s₁ A env ρ b d) (z:c=false->Ev w s₁ A env ρ o d):Ev w s₁ A env ρ (.IfExp t b o pos) d:=Gv.mk <| fun N X sb γ s R=>
  wpAny_IfExp (x.use R fun c' s' T e=>by
    subst e
    cases c' with
    | true=>exact (y rfl).use (R.step T) fun θ θ T' q=>⟨T.trans T',q⟩
    | false=>exact (z rfl).use (R.step T) fun θ θ T' q=>⟨T.trans T',q⟩)
theorem ts_not {e:Expr} {pos:Pos} {b:Bool} (x:Ts w s₁ A env ρ e b):Ts w s₁ A env ρ (.UnaryOp .Not e pos) (!b):=Gv.mk <| fun N X sb γ s R=>
  isTrue_not (x.use R fun c s' T e=>⟨T,by rw [e]⟩)
theorem ts_or {a b:Expr} {pos:Pos} {p q:Bool} (x:Ts w s₁ A env ρ a p) (y:p=false->Ts w s₁ A env ρ b q):Ts w s₁ A env ρ (.BoolOp .Or [a,b] pos) (p||q):=Gv.mk <| fun N X sb γ s R=>by
  show wpAny _ _ (allTrue .Or [a,b] env) _ _ s
  rw [arm_allTrue_cons]
  refine wpAny_bind (x.use R fun c s' T e=>?_)
  subst e
  cases c with
  | true=>exact wpAny_pure ⟨T,rfl⟩
  | false=>
    show wpAny _ _ (allTrue .Or [b] env) _ _ s'
    rw [arm_allTrue_cons]
    refine wpAny_bind ((y rfl).use (R.step T) fun c s'' T' e=>?_)
    subst e
    cases c with
    | true=>exact wpAny_pure ⟨T.trans T',rfl⟩
    | false=>exact wpAny_pure ⟨T.trans T',rfl⟩
theorem ts_and {a b:Expr} {pos:Pos} {p q:Bool} (x:Ts w s₁ A env ρ a p) (y:p=true->Ts w s₁ A env ρ b q):Ts w s₁ A env ρ (.BoolOp .And [a,b] pos) (p&&q):=Gv.mk <| fun N X sb γ s R=>by
  show wpAny _ _ (allTrue .And [a,b] env) _ _ s
  rw [arm_allTrue_cons]
  refine wpAny_bind (x.use R fun c s' T e=>?_)
  subst e
  cases c with
  | false=>exact wpAny_pure ⟨T,rfl⟩
  | true=>
    show wpAny _ _ (allTrue .And [b] env) _ _ s'
    rw [arm_allTrue_cons]
    refine wpAny_bind ((y rfl).use (R.step T) fun c s'' T' e=>?_)
    subst e
    cases c with
    | true=>exact wpAny_pure ⟨T.trans T',rfl⟩
    | false=>exact wpAny_pure ⟨T.trans T',rfl⟩
section
variable {a b:Int} {l r:Expr} {pos:Pos}
theorem op_ii {op:Operator} {d:D} (h:∀ (N:Addr->Prop) s (t u:Tok),wpAny (Mo w) A (binaryOp op (.int a t) (.int b u)) (fun v s'=>To no s s'∧Bears N s'.heap d v) (fun θ θ=>False) s) :
    ∀ N s u v,Bears N s.heap (.int a) u->Bears N s.heap (.int b) v->Op w s₁ N A s (binaryOp op u v) fun z s'=>Bears N s'.heap d z:=fun N s u v x y θ θ=>by
  obtain ⟨t,rfl⟩:=of_int x
  obtain ⟨t',rfl⟩:=of_int y
  exact h N s t t'
theorem ev_add (x:Ev w s₁ A env ρ l (.int a)) (y:Ev w s₁ A env ρ r (.int b)):Ev w s₁ A env ρ (.BinOp l .Add r pos) (.int (a+b)):=
  ev_bin x y (op_ii fun θ θ θ θ=>add_int ⟨To.toks _ _,bears_int⟩)
theorem ev_sub (x:Ev w s₁ A env ρ l (.int a)) (y:Ev w s₁ A env ρ r (.int b)):Ev w s₁ A env ρ (.BinOp l .Sub r pos) (.int (a-b)):=
  ev_bin x y (op_ii fun θ θ θ θ=>sub_int ⟨To.toks _ _,bears_int⟩)
theorem ev_mul (x:Ev w s₁ A env ρ l (.int a)) (y:Ev w s₁ A env ρ r (.int b)) (h:IntMulOk a b):Ev w s₁ A env ρ (.BinOp l .Mult r pos) (.int (a*b)):=
  ev_bin x y (op_ii fun θ θ θ θ=>mul_int ⟨To.toks _ _,bears_int⟩ h)
theorem ev_mod (x:Ev w s₁ A env ρ l (.int a)) (y:Ev w s₁ A env ρ r (.int b)) (h:b≠0):Ev w s₁ A env ρ (.BinOp l .Mod r pos) (.int (a.fmod b)):=
  ev_bin x y (op_ii fun θ θ θ θ=>mod_int' h ⟨To.toks _ _,bears_int⟩)
theorem ev_div (x:Ev w s₁ A env ρ l (.int a)) (y:Ev w s₁ A env ρ r (.int b)) (h:b≠0) (hp:Builtin.divisionGoesByPylong a b=false):Ev w s₁ A env ρ (.BinOp l .FloorDiv r pos) (.int (a.fdiv b)):=
  ev_bin x y (op_ii fun θ θ θ θ=>floordiv_int h ⟨To.toks _ _,bears_int⟩ (.inl hp))
theorem ev_pow (x:Ev w s₁ A env ρ l (.int a)) (y:Ev w s₁ A env ρ r (.int b)) (h:0≤b) (hs:(Builtin.Int.intBits a:Int)*b≤2^27):Ev w s₁ A env ρ (.BinOp l .Pow r pos) (.int (a^b.toNat)):=
  ev_bin x y (op_ii fun θ θ θ θ=>pow_int h hs ⟨To.toks _ _,bears_int⟩)
theorem ev_band (x:Ev w s₁ A env ρ l (.int a)) (y:Ev w s₁ A env ρ r (.int b)):Ev w s₁ A env ρ (.BinOp l .BitAnd r pos) (.int (Builtin.bitAnd a b)):=
  ev_bin x y (op_ii fun θ θ θ θ=>and_int ⟨To.toks _ _,bears_int⟩)
theorem ev_bor (x:Ev w s₁ A env ρ l (.int a)) (y:Ev w s₁ A env ρ r (.int b)):Ev w s₁ A env ρ (.BinOp l .BitOr r pos) (.int (Builtin.bitOr a b)):=
  ev_bin x y (op_ii fun θ θ θ θ=>or_int ⟨To.toks _ _,bears_int⟩)
theorem ev_bxor (x:Ev w s₁ A env ρ l (.int a)) (y:Ev w s₁ A env ρ r (.int b)):Ev w s₁ A env ρ (.BinOp l .BitXor r pos) (.int (Builtin.bitXor a b)):=
  ev_bin x y (op_ii fun θ θ θ θ=>xor_int ⟨To.toks _ _,bears_int⟩)
theorem ev_shl (x:Ev w s₁ A env ρ l (.int a)) (y:Ev w s₁ A env ρ r (.int b)) (h:0≤b) (hs:(Builtin.Int.intBits a:Int)+b≤2^27):Ev w s₁ A env ρ (.BinOp l .LShift r pos) (.int (a*2^b.toNat)):=
  ev_bin x y (op_ii fun θ θ θ θ=>lshift_int h hs ⟨To.toks _ _,bears_int⟩)
theorem ev_shr (x:Ev w s₁ A env ρ l (.int a)) (y:Ev w s₁ A env ρ r (.int b)) (h:0≤b):Ev w s₁ A env ρ (.BinOp l .RShift r pos) (.int (a.fdiv (2^b.toNat))):=
  ev_bin x y (op_ii fun θ θ θ θ=>rshift_int h ⟨To.toks _ _,bears_int⟩)
theorem ev_neg (x:Ev w s₁ A env ρ l (.int a)):Ev w s₁ A env ρ (.UnaryOp .USub l pos) (.int (-a)):=
  ev_un x fun N s u bu θ θ=>by obtain ⟨t,rfl⟩:=of_int bu;exact neg_int ⟨To.toks _ _,bears_int⟩
theorem ev_inv (x:Ev w s₁ A env ρ l (.int a)):Ev w s₁ A env ρ (.UnaryOp .Invert l pos) (.int (Builtin.bitNot a)):=
  ev_un x fun N s u bu θ θ=>by obtain ⟨t,rfl⟩:=of_int bu;exact invert_int ⟨To.toks _ _,bears_int⟩
theorem cp_ii {op:CmpOp} {c:Bool} (h:∀ s (t u:Tok) (Q:Value->Shared->Prop) (E:Value->Shared->Prop),Q (.bool c) s->wpAny (Mo w) A (compareOp op (.int a t) (.int b u)) Q E s) :
    ∀ N s u v,Bears N s.heap (.int a) u->Bears N s.heap (.int b) v->Op w s₁ N A s (compareOp op u v) fun z s'=>Bears N s'.heap (.bool c) z:=fun N s u v x y θ θ=>by
  obtain ⟨t,rfl⟩:=of_int x
  obtain ⟨t',rfl⟩:=of_int y
  exact h s t t' _ _ ⟨To.refl _ _,bears_bool⟩
theorem op_lt:∀ N s u v,Bears N s.heap (.int a) u->Bears N s.heap (.int b) v->Op w s₁ N A s (compareOp .Lt u v) fun z s'=>Bears N s'.heap (.bool (decide (a<b))) z:=cp_ii fun θ θ θ θ θ h=>lt_int h
theorem op_le:∀ N s u v,Bears N s.heap (.int a) u->Bears N s.heap (.int b) v->Op w s₁ N A s (compareOp .LtE u v) fun z s'=>Bears N s'.heap (.bool (decide (a≤b))) z:=cp_ii fun θ θ θ θ θ h=>le_int h
theorem op_gt:∀ N s u v,Bears N s.heap (.int a) u->Bears N s.heap (.int b) v->Op w s₁ N A s (compareOp .Gt u v) fun z s'=>Bears N s'.heap (.bool (decide (a>b))) z:=cp_ii fun θ θ θ θ θ h=>gt_int h
theorem op_ge:∀ N s u v,Bears N s.heap (.int a) u->Bears N s.heap (.int b) v->Op w s₁ N A s (compareOp .GtE u v) fun z s'=>Bears N s'.heap (.bool (decide (a≥b))) z:=cp_ii fun θ θ θ θ θ h=>ge_int h
theorem op_eq:∀ N s u v,Bears N s.heap (.int a) u->Bears N s.heap (.int b) v->Op w s₁ N A s (compareOp .Eq u v) fun z s'=>Bears N s'.heap (.bool (a==b)) z:=cp_ii fun θ θ θ θ θ h=>eq_int h
theorem op_ne:∀ N s u v,Bears N s.heap (.int a) u->Bears N s.heap (.int b) v->Op w s₁ N A s (compareOp .NotEq u v) fun z s'=>Bears N s'.heap (.bool (a != b)) z:=cp_ii fun θ θ θ θ θ h=>ne_int h
theorem tr_int:∀ N s u,Bears N s.heap (.int a) u->Op w s₁ N A s (truthy u) fun c θ=>c=(a != 0):=fun N s u x θ θ=>by
  obtain ⟨t,rfl⟩:=of_int x
  exact truthy_int ⟨To.refl _ _,rfl⟩
theorem tr_bool {c:Bool}:∀ N s u,Bears N s.heap (.bool c) u->Op w s₁ N A s (truthy u) fun z θ=>z=c:=fun N s u x θ θ=>by
  obtain rfl:=of_bool x
  exact fun θ θ θ=>⟨To.refl _ _,rfl⟩
end
end
structure Xs (w:World) (A:Around) (env:Env) (ss:List Stmt) (Q:Flow->Shared->Prop) (E:Value->Shared->Prop) (s:Shared):Prop where
  run:wpAny (Mo w) A (execs ss env) Q E s
structure X1 (w:World) (A:Around) (env:Env) (st:Stmt) (Q:Flow->Shared->Prop) (E:Value->Shared->Prop) (s:Shared):Prop where
  run:wpAny (Mo w) A (exec st env) Q E s
noncomputable def NoSeq (h:Heap) (a:Addr):Prop:=∀ o,h.get? a=some o->∀ xs n,o.data≠.seq xs n
mutual
theorem Bears.butSeq {N:Addr->Prop} {h h':Heap} {a:Addr} (hs:Heap.SameBut a h h') (hn:NoSeq h a):∀ {d:D} {v:Value},Bears N h d v->Bears N h' d v
  | .none,_,x=>by unfold Bears at *;exact x
  | .bool _,_,x=>by unfold Bears at *;exact x
  | .int _,_,x=>by unfold Bears at *;exact x
  | .str _,_,x=>by unfold Bears at *;exact x
  | .val _,_,x=>by unfold Bears at *;exact x
  | .tup ds,_,x=>by
    unfold Bears at *
    obtain ⟨b,vs,e,n,⟨o,ho,hc,k,hd⟩,y⟩:=x
    exact ⟨b,vs,e,n,⟨o,(hs.2 b (fun q=>hn o (q▸ho) _ _ hd)).trans ho,hc,k,hd⟩,BearsAll.butSeq hs hn y⟩
  | .lst ds,_,x=>by
    unfold Bears at *
    obtain ⟨b,vs,e,n,⟨m,ho⟩,y⟩:=x
    exact ⟨b,vs,e,n,⟨m,(hs.2 b (fun q=>hn _ (q▸ho) _ _ rfl)).trans ho⟩,BearsAll.butSeq hs hn y⟩
theorem BearsAll.butSeq {N:Addr->Prop} {h h':Heap} {a:Addr} (hs:Heap.SameBut a h h') (hn:NoSeq h a):∀ {ds:List D} {vs:List Value},BearsAll N h ds vs->BearsAll N h' ds vs
  | [],_,x=>by unfold BearsAll at *;exact x
  | d::ds,_,x=>by
    unfold BearsAll at *
    obtain ⟨v,r,e,b,c⟩:=x
    exact ⟨v,r,e,Bears.butSeq hs hn b,BearsAll.butSeq hs hn c⟩
end
theorem Nex.but {N:Addr->Prop} {s:Shared} {h:Heap} {t:Nat} {a:Addr} (n:Nex N s) (hs:Heap.SameBut a s.heap h) (ha:∃ o,h.get? a=some o):Nex N { s with heap:=h,toks:=t }:=fun b hb q=>by
  have q':h.get? b=none:=q
  by_cases e:b=a
  · subst e;obtain ⟨o,ho⟩:=ha;rw [ho] at q';cases q'
  · rw [hs.2 b e] at q';exact n b hb q'
structure Kp (s s':Shared):Prop where
  k:∀ {N:Addr->Prop} {d:D} {v:Value},Bears N s.heap d v->Bears N s'.heap d v
theorem Kp.trans {s s' s'':Shared} (x:Kp s s') (y:Kp s' s''):Kp s s'':=⟨fun b=>y.k (x.k b)⟩
theorem Kp.of_to {s s':Shared} (x:To no s s'):Kp s s':=⟨fun b=>b.to x⟩
theorem Kp.refl (s:Shared):Kp s s:=⟨fun b=>b⟩
theorem Kp.all {N:Addr->Prop} {s s':Shared} (x:Kp s s'):∀ {ds:List D} {vs:List Value},BearsAll N s.heap ds vs->BearsAll N s'.heap ds vs
  | [],_,b=>by rw [all_nil_iff] at *;exact b
  | d::ds,_,b=>by obtain ⟨v,r,rfl,b1,b2⟩:=all_cons_iff.mp b;exact all_cons (x.k b1) (x.all b2)
theorem NoSeq.ns {h:Heap} {a:Addr} {m:Str->Option Value} (x:h.Ns a m):NoSeq h a:=fun o e xs n q=>by
  obtain ⟨o',es,ep,ho,hd,_⟩:=x
  rw [ho] at e;cases e;rw [hd] at q;cases q
theorem NoSeq.cell {h:Heap} {a:Addr} {m:Option Value} (x:h.IsCell a m):NoSeq h a:=fun o e xs n q=>by
  obtain ⟨o',ho,hd⟩:=x
  rw [ho] at e;cases e;rw [hd] at q;cases q
theorem ns_ne_cell {h:Heap} {a c:Addr} {m:Str->Option Value} {ov:Option Value} (x:h.Ns a m) (y:h.IsCell c ov):a≠c:=fun q=>by
  subst q
  obtain ⟨o',es,ep,ho,hd,_⟩:=x
  obtain ⟨o,ho',hd'⟩:=y
  rw [ho] at ho';cases ho';rw [hd] at hd';cases hd'
section
variable {w:World} {s₁ sb s:Shared} {N:Addr->Prop} {A:Around} {env:Env} {ρ:List (Str × D)} {γ:List (D × Value)} {X:Loc->Prop} {E:Value->Shared->Prop}
theorem lookup_ne {α:Type} {x y:Str} {d:α} {ρ:List (Str × α)} (h:y≠x):((x,d)::ρ).lookup y=ρ.lookup y:=by
  rw [List.lookup_cons,beq_false_of_ne h]
theorem lookup_eq {α:Type} {x:Str} {d:α} {ρ:List (Str × α)}:((x,d)::ρ).lookup x=some d:=by
  rw [List.lookup_cons];simp
theorem Rel.storeL {x:Str} {v:Value} {d:D} {Q:Unit->Shared->Prop} (R:Rel s₁ N X sb env ρ γ s) (b:Bears N s.heap d v) (hk:env.scope.kind=.function) (hl:env.kindOf x=some .local)
    (h:∀ s',To X s s'->Kp s s'->Rel s₁ N X sb env ((x,d)::ρ) γ s'->Q () s'):wpAny (Mo w) A (storeName env x v) Q E s:=by
  obtain ⟨m,hm,k⟩:=R.ns
  refine wpAny_storeName_local hl hm (fun h' hn hs=>?_) (by rw [hk];rfl)
  have T:To X s { s with heap:=h',toks:=s.toks+1 }:=To.but hs R.xloc (turns_ns R.ltab hm)
  have bs:∀ {N:Addr->Prop} {d:D} {v:Value},Bears N s.heap d v->Bears N h' d v:=fun q=>q.butSeq hs (NoSeq.ns hm)
  refine h _ T ⟨bs⟩ ⟨R.inv.forget T R.xnew,R.to.trans T,R.xnew,R.xloc,⟨_,hn,fun y d' hk' hd'=>?_⟩,fun y k' hk' hq=>?_,R.apart,R.ltab,fun p hp=>bs (R.gh p hp),R.nex.but hs (let ⟨o,_,_,ho,_⟩:=hn;⟨o,ho⟩),R.tabs.to T⟩
  · by_cases hy:y=x
    · subst hy
      rw [lookup_eq] at hd';cases hd'
      exact ⟨v,by simp,bs b⟩
    · rw [lookup_ne hy] at hd'
      obtain ⟨v',e,b'⟩:=k y d' hk' hd'
      exact ⟨v',by simp only [hy,if_false];exact e,bs b'⟩
  · obtain ⟨c,ov,hc,hi,ht,r⟩:=R.cel y k' hk' hq
    refine ⟨c,ov,hc,hi.sameBut hs (Ne.symm (ns_ne_cell hm hi)),ht,fun d' hd'=>?_⟩
    have hy:y≠x:=fun q=>by subst q;rw [hl] at hk';cases hk';rcases hq with q | q<;>cases q
    rw [lookup_ne hy] at hd'
    obtain ⟨v',e,b'⟩:=r d' hd'
    exact ⟨v',e,bs b'⟩
theorem Rel.storeC {x:Str} {v:Value} {d:D} {Q:Unit->Shared->Prop} (R:Rel s₁ N X sb env ρ γ s) (b:Bears N s.heap d v) (hk:env.scope.kind=.function) (hl:env.kindOf x=some .cell)
    (hX:∀ c,env.cells.lookup x=some c->X (.inl c)) (h:∀ s',To X s s'->Kp s s'->Rel s₁ N X sb env ((x,d)::ρ) γ s'->Q () s'):wpAny (Mo w) A (storeName env x v) Q E s:=by
  obtain ⟨c,ov,hc,hi,ht,r⟩:=R.cel x _ hl (.inl rfl)
  obtain ⟨m,hm,k⟩:=R.ns
  refine wpAny_storeName_cell hk hl hc hi fun h' hn hs=>?_
  have T:To X s { s with heap:=h' }:=To.but (t:=s.toks) hs (hX c hc) (turns_cell ht hi)
  have bs:∀ {N:Addr->Prop} {d:D} {v:Value},Bears N s.heap d v->Bears N h' d v:=fun q=>q.butSeq hs (NoSeq.cell hi)
  refine h _ T ⟨bs⟩ ⟨R.inv.forget T R.xnew,R.to.trans T,R.xnew,R.xloc,⟨m,hm.sameBut hs (ns_ne_cell hm hi),fun y d' hk' hd'=>?_⟩,fun y k' hk' hq=>?_,R.apart,R.ltab,fun p hp=>bs (R.gh p hp),R.nex.but (t:=s.toks) hs (let ⟨o,ho,_⟩:=hn;⟨o,ho⟩),R.tabs.to T⟩
  · have hy:y≠x:=fun q=>by subst q;rw [hl] at hk';cases hk'
    rw [lookup_ne hy] at hd'
    obtain ⟨v',e,b'⟩:=k y d' hk' hd'
    exact ⟨v',e,bs b'⟩
  · by_cases hy:y=x
    · subst hy
      refine ⟨c,some v,hc,hn,ht,fun d' hd'=>?_⟩
      rw [lookup_eq] at hd';cases hd'
      exact ⟨v,rfl,bs b⟩
    · obtain ⟨c',ov',hc',hi',ht',r'⟩:=R.cel y k' hk' hq
      refine ⟨c',ov',hc',hi'.sameBut hs (fun q=>hy (R.apart y x c (q▸hc') hc)),ht',fun d' hd'=>?_⟩
      rw [lookup_ne hy] at hd'
      obtain ⟨v',e,b'⟩:=r' d' hd'
      exact ⟨v',e,bs b'⟩
noncomputable def Sto (X:Loc->Prop) (env:Env) (x:Str):Prop:=env.scope.kind=.function∧(env.kindOf x=some .local∨(env.kindOf x=some .cell∧∀ c,env.cells.lookup x=some c->X (.inl c)))
theorem Sto.local {x:Str} (hk:env.scope.kind=.function) (h:env.kindOf x=some .local):Sto X env x:=⟨hk,.inl h⟩
theorem Sto.cell {x:Str} (hk:env.scope.kind=.function) (h:env.kindOf x=some .cell) (hX:∀ c,env.cells.lookup x=some c->X (.inl c)):Sto X env x:=⟨hk,.inr ⟨h,hX⟩⟩
theorem Rel.store {x:Str} {v:Value} {d:D} {Q:Unit->Shared->Prop} (R:Rel s₁ N X sb env ρ γ s) (b:Bears N s.heap d v) (S:Sto X env x)
    (h:∀ s',To X s s'->Kp s s'->Rel s₁ N X sb env ((x,d)::ρ) γ s'->Q () s'):wpAny (Mo w) A (storeName env x v) Q E s:=by
  obtain ⟨hk,hl | ⟨hl,hX⟩⟩:=S
  · exact R.storeL b hk hl h
  · exact R.storeC b hk hl hX h
variable {Q:Flow->Shared->Prop}
theorem xs_nil (h:Q .next s):Xs w A env [] Q E s:=⟨wpAny_execs_nil h⟩
theorem xs_cons {st:Stmt} {rest:List Stmt} (x:X1 w A env st (fun f s'=>match f with | .next=>Xs w A env rest Q E s' | f=>Q f s') E s):Xs w A env (st::rest) Q E s:=
  ⟨by
    rw [execs_cons]
    refine wpAny_bind (wpAny_mono x.run (fun f s' h=>?_) fun θ θ h=>h)
    cases f with
    | next=>exact h.run
    | brk=>exact wpAny_pure h
    | cont=>exact wpAny_pure h
    | ret v=>exact wpAny_pure h⟩
theorem Xs.mono {st:List Stmt} {Q':Flow->Shared->Prop} (x:Xs w A env st Q' E s) (h:∀ f s',Q' f s'->Q f s'):Xs w A env st Q E s:=⟨wpAny_mono x.run h fun θ θ y=>y⟩
theorem Xs.weakE {st:List Stmt} (x:Xs w A env st Q (fun θ θ=>False) s):Xs w A env st Q E s:=⟨wpAny_mono x.run (fun θ θ y=>y) fun θ θ y=>y.elim⟩
theorem xs_assign {x:Str} {p pos:Pos} {e:Expr} {d:D} {rest:List Stmt} (R:Rel s₁ N X sb env ρ γ s) (v:Ev w s₁ A env ρ e d) (S:Sto X env x)
    (hs:swapsWith e (some (.Name x p)) pos.line env=pure false)
    (h:∀ s',To X s s'->Kp s s'->Rel s₁ N X sb env ((x,d)::ρ) γ s'->Xs w A env rest Q E s'):Xs w A env (.Assign [.Name x p] e pos::rest) Q E s:=
  xs_cons ⟨wpAny_Assign_Name (v.use R fun u s' T b=>(R.step T).store b S fun s'' T' K' R''=>h s'' (T.of_no.trans T') ((Kp.of_to T).trans K') R'') hs⟩
theorem xs_if {t:Expr} {b o:List Stmt} {pos:Pos} {c:Bool} {rest:List Stmt} (R:Rel s₁ N X sb env ρ γ s) (x:Ts w s₁ A env ρ t c)
    (y:c=true->∀ s',To no s s'->Rel s₁ N X sb env ρ γ s'->Xs w A env b (fun f s'=>match f with | .next=>Xs w A env rest Q E s' | f=>Q f s') E s')
    (z:c=false->∀ s',To no s s'->Rel s₁ N X sb env ρ γ s'->Xs w A env o (fun f s'=>match f with | .next=>Xs w A env rest Q E s' | f=>Q f s') E s'):Xs w A env (.If t b o pos::rest) Q E s:=
  xs_cons ⟨wpAny_If (x.use R fun c' s' T e=>by
    subst e
    cases c' with
    | true=>exact (y rfl s' T (R.step T)).run
    | false=>exact (z rfl s' T (R.step T)).run)⟩
theorem xs_return {e:Expr} {pos:Pos} {d:D} {rest:List Stmt} (R:Rel s₁ N X sb env ρ γ s) (x:Ev w s₁ A env ρ e d) (h:∀ v s',To no s s'->Bears N s'.heap d v->Q (.ret v) s'):Xs w A env (.Return (some e) pos::rest) Q E s:=
  xs_cons ⟨wpAny_Return_some (x.use R fun v s' T b=>h v s' T b)⟩
end
noncomputable def Own (env:Env):Loc->Prop:=fun l=>l=.inl env.locals∨∃ x c,env.kindOf x=some .cell∧env.cells.lookup x=some c∧l=.inl c
theorem own_cell {env:Env} {x:Str} (h:env.kindOf x=some .cell):∀ c,env.cells.lookup x=some c->Own env (.inl c):=fun c hc=>.inr ⟨x,c,h,hc,rfl⟩
noncomputable def h0 (A:Around) (_:Shared):Prop:=A.handled=none
noncomputable def HOk (A:Around) (s:Shared):Prop:=A.handled=none∨∃ e o fs,A.handled=some (.ref e)∧s.heap.get? e=some o∧o.data=.fields fs∧fs[2]?=some .none∧e∉tabs
theorem HOk.of {A:Around} {s:Shared} (h:A.handled=none):HOk A s:=.inl h
theorem HOk.to {A:Around} {s s':Shared} (h:HOk A s) (x:To no s s'):HOk A s':=by
  rcases h with h | ⟨e,o,fs,h1,h2,h3,h4,h5⟩
  · exact .inl h
  · exact .inr ⟨e,o,fs,h1,x.keep e o id (fun q=>absurd q h5) h2,h3,h4,h5⟩
theorem HOk.toX {A:Around} {s₀:Shared} {X:Loc->Prop} (h₀:HOk A s₀) (hX:∀ l,X l->NewAt s₀ l):∀ s s',HOk A s->To X s s'->HOk A s':=fun s s' h x=>by
  refine h.imp id fun ⟨e,o,fs,h1,h2,h3,h4,h5⟩=>⟨e,o,fs,h1,x.keep e o (fun q=>?_) (fun q=>absurd q h5) h2,h3,h4,h5⟩
  rcases h₀ with z | ⟨e',o',fs',z1,z2,_⟩
  · rw [z] at h1;cases h1
  · rw [z1] at h1;cases h1
    have:=hX _ q
    rw [show s₀.heap.get? _=none from this] at z2;cases z2
structure Fn (w:World) (s₁:Shared) (H:Around->Shared->Prop) (n:Nat) (f:Addr) (args:List D) (d:D):Prop where
  run:∀ N A s vs,Rm n A->H A s->At s₁ s->Nex N s->BearsAll N s.heap args vs->codeAny (Mo w) A (.call (.ref f) ⟨vs,[]⟩) (fun r s'=>∃ v,r=.ok (.ret v)∧To no s s'∧Bears N s'.heap d v) s
theorem bindL_not {kd:Str->Option NameKind}:∀ {binds:List (Str × Value)} {m:Str->Option Value} {x:Str},x∉binds.map (·.1)->bindL kd binds m x=m x
  | [],_,_,_=>rfl
  | (n,u)::r,m,x,h=>by
    simp only [List.map_cons,List.mem_cons,not_or] at h
    rw [bindL,bindL_not h.2]
    split
    · simp [h.1]
    · rfl
theorem bindL_look {kd:Str->Option NameKind}:∀ {binds:List (Str × Value)} {m:Str->Option Value} {x:Str} {v:Value},(binds.map (·.1)).Nodup->binds.lookup x=some v->kd x=some .local->bindL kd binds m x=some v
  | [],_,_,_,_,h,_=>by simp at h
  | (n,u)::r,m,x,v,hn,h,hk=>by
    rw [List.map_cons,List.nodup_cons] at hn
    rw [bindL]
    by_cases q:x=n
    · subst q
      rw [lookup_eq] at h;cases h
      rw [bindL_not hn.1];simp [hk]
    · rw [lookup_ne q] at h
      exact bindL_look hn.2 h hk
theorem bindC_not {kd:Str->Option NameKind}:∀ {binds:List (Str × Value)} {m:Str->Option Value} {x:Str},x∉binds.map (·.1)->bindC kd binds m x=m x
  | [],_,_,_=>rfl
  | (n,u)::r,m,x,h=>by
    simp only [List.map_cons,List.mem_cons,not_or] at h
    rw [bindC,bindC_not h.2]
    split
    · rfl
    · simp [h.1]
theorem bindC_look {kd:Str->Option NameKind}:∀ {binds:List (Str × Value)} {m:Str->Option Value} {x:Str} {v:Value},(binds.map (·.1)).Nodup->binds.lookup x=some v->kd x≠some .local->bindC kd binds m x=some v
  | [],_,_,_,_,h,_=>by simp at h
  | (n,u)::r,m,x,v,hn,h,hk=>by
    rw [List.map_cons,List.nodup_cons] at hn
    rw [bindC]
    by_cases q:x=n
    · subst q
      rw [lookup_eq] at h;cases h
      rw [bindC_not hn.1];simp [hk]
    · rw [lookup_ne q] at h
      exact bindC_look hn.2 h hk
theorem zip_look {N:Addr->Prop} {h:Heap}:∀ {names:List Str} {ds:List D} {vs:List Value} {x:Str} {d:D},BearsAll N h ds vs->(names.zip ds).lookup x=some d->∃ v,(names.zip vs).lookup x=some v∧Bears N h d v
  | [],_,_,_,_,_,e=>by simp at e
  | _::_,[],_,_,_,_,e=>by simp at e
  | n::ns,d::ds,vs,x,d',b,e=>by
    obtain ⟨v,r,rfl,b1,b2⟩:=all_cons_iff.mp b
    rw [List.zip_cons_cons] at e ⊢
    by_cases q:x=n
    · subst q
      rw [lookup_eq] at e;cases e
      exact ⟨v,lookup_eq,b1⟩
    · rw [lookup_ne q] at e ⊢
      exact zip_look b2 e
theorem zip_names {α:Type}:∀ {names:List Str} {vs:List α},names.Nodup->((names.zip vs).map (·.1)).Nodup∧∀ x,x∈(names.zip vs).map (·.1)->x∈names
  | [],_,_=>by simp
  | _::_,[],_=>by simp
  | n::ns,v::vs,h=>by
    rw [List.nodup_cons] at h
    obtain ⟨h1,h2⟩:=zip_names (vs:=vs) h.2
    rw [List.zip_cons_cons,List.map_cons,List.nodup_cons]
    exact ⟨⟨fun q=>h.1 (h2 n q),h1⟩,fun x hx=>by
      rcases List.mem_cons.mp hx with q | q
      · subst q;exact List.mem_cons_self
      · exact List.mem_cons_of_mem _ (h2 x q)⟩
theorem cellsFrom_has {x:Str}:∀ (names:List (Str × NameKind)) (n:Nat) (acc:List (Str × Addr)),(names.lookup x=some .cell∨∃ c,acc.lookup x=some c)->∃ c,(cellsFrom n names acc).lookup x=some c
  | [],_,_,h=>h.elim (fun e=>by cases e) id
  | (y,k)::r,n,acc,h=>by
    unfold cellsFrom
    cases hy:(x==y) with
    | true=>
      have e0:∀ z:NameKind,((y,z)::r).lookup x=some z:=fun z=>by rw [List.lookup_cons,hy]
      split
      · exact cellsFrom_has r (n+1) _ (.inr ⟨n,by rw [List.lookup_cons,hy]⟩)
      · rename_i hk
        refine cellsFrom_has r n acc (.inr (h.elim (fun e=>?_) id))
        rw [e0] at e;cases e;exact absurd rfl hk
    | false=>
      have e1:((y,k)::r).lookup x=r.lookup x:=by rw [List.lookup_cons,hy]
      rw [e1] at h
      split
      · exact cellsFrom_has r (n+1) _ (h.imp id fun ⟨c,e⟩=>⟨c,by rw [List.lookup_cons,hy];exact e⟩)
      · exact cellsFrom_has r n acc h
structure EnvOk (env:Env):Prop where
  k:env.scope.kind=.function
  g:env.globals=mainGlobals
  b:env.builtins=builtinsNs
theorem fn_enter {w:World} {s₁:Shared} {H:Around->Shared->Prop} (hH:∀ A s s' env,H A s->To no s s'->H (A.deeper env) s') {n:Nat} {f:Addr} {args:List D} {d:D} {oc:Value} {od:Option Addr} {osl:Array (Option Value)} {name qual:Str} {params:Arguments} {body:List Stmt} {scope:Scope} {dV kV doc pm cdv ct:Value} {an:Option Addr} (names:List Str)
    (G:GW w s₁) (ho:(Kw w).lookup f=some ⟨oc,od,.func (fnOf name qual params body scope dV kV doc pm an cdv ct),osl⟩) (hf:(f==58||f==51)=false)
    (hcd:codeIn (Kw w) cdv qual=true) (hb:∀ s vs,vs.length=args.length->BindsTo s (fnOf name qual params body scope dV kV doc pm an cdv ct) ⟨vs,[]⟩ (names.zip vs))
    (hnd:names.Nodup) (hnk:∀ x∈names,scope.names.lookup x=some .local∨scope.names.lookup x=some .cell) (hfree:∀ x∈scope.names,x.2≠.free)
    (hk:scope.kind=.function) (hco:scope.isCoroutine=false) (hgen:scope.isGenerator=false)
    (h:∀ N A s L,Rm n A->H A s->(∃ s₀,H A s₀∧∀ l,Own (envOfC qual scope L f cdv) l->NewAt s₀ l)->EnvOk (envOfC qual scope L f cdv)->Rel s₁ N (Own (envOfC qual scope L f cdv)) s (envOfC qual scope L f cdv) (names.zip args) [] s ->
      Xs w A (envOfC qual scope L f cdv) body (fun fl s'=>To (Own (envOfC qual scope L f cdv)) s s'∧Bears N s'.heap d (match fl with | .ret v=>v | _=>.none)) (fun θ θ=>False) s) :
    Fn w s₁ H (n+1) f args d:=⟨fun N A s vs hA hh HH nex b=>by
  have ho':s.heap.get? f=some _:=G.get HH ho hf
  have hcr:s.heap.CodeRec cdv qual:=by
    obtain ⟨c,o,vs',t,e,hc,hr⟩:=codeRec_of G.kin hcd
    refine ⟨c,o,vs',t,e,?_,hr⟩
    refine HH.keep c o id (fun q=>?_) hc
    rw [G.tab c q] at hc;cases hc
    obtain ⟨hd,hv⟩:=hr
    cases hd;simp at hv
  refine codeAny_call_function (fd:=fnOf name qual params body scope dV kV doc pm an cdv ct) hA.lt ho' rfl hco hgen rfl hcr (hb s vs (all_length b) _ _ _ _ ?_)
  refine wpAny_newFunctionEnv_cells hk (fun x hx=>?_) fun env he s' x=>?_
  · have hm:x.1∈names:=(zip_names (vs:=vs) hnd).2 _ (List.mem_map_of_mem hx)
    refine (hnk _ hm).imp id fun q=>⟨q,?_⟩
    obtain ⟨c,hc⟩:=cellsFrom_has scope.names (s.heap.objs.size+1) [] (.inl q)
    rw [hc];rfl
  · have he':env=envOfC qual scope s.heap.objs.size f cdv:=he
    subst he'
    obtain ⟨h₁,tk,rfl,hkeep⟩:=x.done
    have hlt:∀ a o,s.heap.get? a=some o->h₁.get? a=some o:=hkeep
    have T:To no s { s with heap:=h₁,toks:=tk }:=To.heap hlt
    have hn:=(zip_names (vs:=vs) hnd).1
    have htab:∀ P,P∈tabs->P<s.heap.objs.size:=fun P hP=>by
      obtain ⟨more,e,_⟩:=HH.tab P hP _ (G.tab P hP)
      exact Heap.lt_size e
    have hLt:s.heap.objs.size∉tabs:=fun q=>Nat.lt_irrefl _ (htab _ q)
    have habove:∀ x' c,(envOfC qual scope s.heap.objs.size f cdv).cells.lookup x'=some c->s.heap.objs.size<c:=fun x' c hc=>x.above x' c (mem_of_lookup hc)
    have hown:∀ l,Own (envOfC qual scope s.heap.objs.size f cdv) l->NewAt s l:=fun l hl=>by
      rcases hl with rfl | ⟨x',c,_,hc,rfl⟩
      · exact newAt_ge (Nat.le_refl _)
      · exact newAt_ge (Nat.le_of_lt (habove x' c hc))
    have R:Rel s₁ N (Own (envOfC qual scope s.heap.objs.size f cdv)) { s with heap:=h₁,toks:=tk } (envOfC qual scope s.heap.objs.size f cdv) (names.zip args) [] { s with heap:=h₁,toks:=tk }:=by
      refine ⟨HH.trans T,To.refl _ _,fun l hl=>(hown l hl).to (fun P hP=>⟨_,G.tab P hP⟩) HH,.inl rfl,⟨_,x.toInCall.ns,fun y d' hk' hd'=>?_⟩,fun y k hk' hq=>?_,fun y z c hy hz=>?_,hLt,(fun p hp=>nomatch hp),nex.to (G.tabOk HH) T,(G.tabOk HH).to T⟩
      · obtain ⟨v,e,b'⟩:=zip_look b hd'
        exact ⟨v,bindL_look hn e hk',b'.to T⟩
      · have hkc:scope.names.lookup y=some .cell:=by
          have:scope.names.lookup y=some k:=hk'
          rcases hq with rfl | rfl
          · exact this
          · exact absurd rfl (hfree _ (mem_of_lookup this))
        obtain ⟨c,hc⟩:=cellsFrom_has scope.names (s.heap.objs.size+1) [] (.inl hkc)
        have hc':(envOfC qual scope s.heap.objs.size f cdv).cells.lookup y=some c:=hc
        refine ⟨c,_,hc',x.cell y c hc',fun q=>Nat.lt_irrefl _ (Nat.lt_trans (htab _ q) (habove y c hc')),fun d' hd'=>?_⟩
        obtain ⟨v,e,b'⟩:=zip_look b hd'
        have hk2:(envOfC qual scope s.heap.objs.size f cdv).kindOf y=some .cell:=hkc
        exact ⟨v,bindC_look hn e (by rw [hk2];exact fun q=>nomatch q),b'.to T⟩
      · exact name_of_addr x.apart (mem_of_lookup hy) (mem_of_lookup hz)
    refine ⟨G.nolimit (HH.trans T),codeAny_func ?_⟩
    refine wpAny_mono (h _ _ _ _ hA.deeper (hH _ _ _ _ hh T) ⟨s,hH _ _ _ _ hh (To.refl _ _),hown⟩ ⟨hk,rfl,rfl⟩ R).run (fun fl s' hq=>?_) fun θ θ q=>q.elim
    exact ⟨_,rfl,T.forget hq.1 hown,hq.2⟩⟩
section
variable {w:World} {s₁:Shared} {A:Around} {env:Env} {ρ:List (Str × D)}
noncomputable def Evs (w:World) (s₁:Shared) (A:Around) (env:Env) (ρ:List (Str × D)) (ts:List (Bool × Sem Value)) (ds:List D):Prop:=Gv w s₁ A env ρ (spliced ts) fun N vs s=>BearsAll N s.heap ds vs
theorem evs_nil:Evs w s₁ A env ρ [] []:=Gv.mk <| fun N X sb γ s R=>Calls.spliced_nil ⟨To.refl _ _,all_nil⟩
theorem evs_cons {e:Expr} {ts:List (Bool × Sem Value)} {d:D} {ds:List D} (x:Ev w s₁ A env ρ e d) (y:Evs w s₁ A env ρ ts ds):Evs w s₁ A env ρ ((false,eval e env)::ts) (d::ds):=
  Gv.mk <| fun N X sb γ s R=>Calls.spliced_cons (x.use R fun v s' T b=>y.use (R.step T) fun vs s'' T' bs=>⟨T.trans T',all_cons (b.to T') bs⟩)
theorem ev_callB {f e:Expr} {args:List Expr} {pos:Pos} {id:String} {ds:List D} {d:D} (x:Ev w s₁ A env ρ f (.val (.builtin id))) (y:Evs w s₁ A env ρ (backTo pos (starEach (e::args) env)) ds)
    (hc:eval (.Call f (e::args) [] pos) env=(do callWith pos (← eval f env) [] (backTo pos (starEach (e::args) env)) [])) (hs:starEach (e::args) env=(false,eval e env)::starEach args env) (hp:(backTo pos (starEach (e::args) env)).any (·.1)=false)
    (h:∀ N s vs,BearsAll N s.heap ds vs->Op w s₁ N A s (call (.builtin id) vs) fun v s'=>Bears N s'.heap d v):Ev w s₁ A env ρ (.Call f (e::args) [] pos) d:=Gv.mk <| fun N X sb γ s R=>by
  rw [hc]
  refine wpAny_bind (x.use R fun u s' T bu=>?_)
  obtain rfl:=of_val bu
  refine Calls.callWith_builtin hp ?_
  rw [hs] at y ⊢
  exact Calls.evalArgs_plain (y.use (R.step T) fun vs s'' T' bs=>wpAny_mono (h N s'' vs bs (R.inv.trans (T.trans T')) ((R.step T).step T').nex) (fun θ θ z=>⟨(T.trans T').trans z.1,z.2⟩) fun θ θ z=>z.elim)
theorem ev_callT {f e:Expr} {args:List Expr} {pos:Pos} {id:String} {ds:List D} {P:(Addr->Prop)->Value->Shared->Prop} (x:Ev w s₁ A env ρ f (.val (.type id))) (y:Evs w s₁ A env ρ (backTo pos (starEach (e::args) env)) ds)
    (hc:eval (.Call f (e::args) [] pos) env=(do callWith pos (← eval f env) [] (backTo pos (starEach (e::args) env)) [])) (hs:starEach (e::args) env=(false,eval e env)::starEach args env) (hp:(backTo pos (starEach (e::args) env)).any (·.1)=false)
    (h:∀ N s vs,BearsAll N s.heap ds vs->Op w s₁ N A s (call (.type id) vs) (P N)):Gv w s₁ A env ρ (eval (.Call f (e::args) [] pos) env) P:=Gv.mk <| fun N X sb γ s R=>by
  rw [hc]
  refine wpAny_bind (x.use R fun u s' T bu=>?_)
  obtain rfl:=of_val bu
  refine PyProof.Rows.callWith_type hp ?_
  rw [hs] at y ⊢
  exact Calls.evalArgs_plain (y.use (R.step T) fun vs s'' T' bs=>wpAny_mono (h N s'' vs bs (R.inv.trans (T.trans T')) ((R.step T).step T').nex) (fun θ θ z=>⟨(T.trans T').trans z.1,z.2⟩) fun θ θ z=>z.elim)
theorem ev_callF {f e:Expr} {args:List Expr} {pos:Pos} {n:Nat} {fa:Addr} {ds:List D} {d:D} {oc:Value} {od:Option Addr} {fd:FuncData} {osl:Array (Option Value)} (G:GW w s₁) (hA:Rm n A) (hh:A.handled=none) (F:Fn w s₁ h0 n fa ds d)
    (x:Ev w s₁ A env ρ f (.val (.ref fa))) (y:Evs w s₁ A env ρ (backTo pos (starEach (e::args) env)) ds)
    (ho:(Kw w).lookup fa=some ⟨oc,od,.func fd,osl⟩) (hf:(fa==58||fa==51)=false)
    (hc:eval (.Call f (e::args) [] pos) env=(do callWith pos (← eval f env) [] (backTo pos (starEach (e::args) env)) [])) (hs:starEach (e::args) env=(false,eval e env)::starEach args env):Ev w s₁ A env ρ (.Call f (e::args) [] pos) d:=Gv.mk <| fun N X sb γ s R=>by
  rw [hc]
  refine wpAny_bind (x.use R fun u s' T bu=>?_)
  obtain rfl:=of_val bu
  refine Calls.callWith_function (o:=⟨oc,od,.func fd,osl⟩) (fd:=fd) ?_
  rw [hs] at y ⊢
  exact Calls.evalArgs_plain (y.use (R.step T) fun vs s'' T' bs=>⟨⟨G.get (R.inv.trans (T.trans T')) ho hf,rfl⟩,wpAny_call (codeAny_mono (F.run N A s'' vs hA hh (R.inv.trans (T.trans T')) ((R.step T).step T').nex bs) fun r s₃ z=>by
    obtain ⟨v,rfl,T₃,b⟩:=z
    exact ⟨(T.trans T').trans T₃,b⟩)⟩)
theorem ev_meth {o:Expr} {name:Str} {apos pos:Pos} {args:List Expr} {d₀ d:D} {ds:List D} {T id:String} (x:Ev w s₁ A env ρ o d₀) (y:Evs w s₁ A env ρ (backTo pos (starEach args env)) ds)
    (pa:PlainAttrs T) (slot:Slot T name id) (ty:typeOf (.builtin id)=pure (.type "method_descriptor"))
    (hT:∀ (N:Addr->Prop) (s:Shared) (u:Value),Bears N s.heap d₀ u->s.TypeIs u T∧∀ a,u=.ref a->∃ ob:Obj,s.heap.get? a=some ob∧ob.dict=none)
    (hbase:attributeBase o name env (eval o env)=eval o env)
    (hfew:((backTo pos (starEach args env)).all (fun x=>!x.1)&&(backToKw pos (keywordEach [] env)).all (fun x=>x.1.isSome)&&decide (args.length+([]:List Keyword).length+(if ([]:List Keyword).isEmpty then 0 else 1)<30))=true)
    (hline:(apos.endLine==pos.line)=true) (hp:(backTo pos (starEach args env)).any (·.1)=false)
    (hev:∀ {f:Value} {Q:Args->Shared->Prop} {E:Value->Shared->Prop} {s:Shared},wpAny (Mo w) A (spliced (backTo pos (starEach args env))) (fun vs s'=>Q ⟨vs,[]⟩ s') E s->wpAny (Mo w) A (evalArgs f true (backTo pos (starEach args env)) []) Q E s)
    (h:∀ N s u vs,Bears N s.heap d₀ u->BearsAll N s.heap ds vs->Op w s₁ N A s (call (.builtin id) (u::vs)) fun v s'=>Bears N s'.heap d v):Ev w s₁ A env ρ (.Call (.Attribute o name apos) args [] pos) d:=Gv.mk <| fun N X sb γ s R=>
  wpAny_Call_method_lateS hbase hfew hline (x.use R fun u s' T' bu=>⟨T,id,pa,slot,ty,(hT N s' u bu).1,(hT N s' u bu).2,Calls.callWith_builtin hp (hev (y.use (R.step T') fun vs s'' T'' bs=>
    wpAny_mono (h N s'' u vs (bu.to T'') bs (R.inv.trans (T'.trans T'')) ((R.step T').step T'').nex) (fun θ θ z=>⟨(T'.trans T'').trans z.1,z.2⟩) fun θ θ z=>z.elim))⟩)
theorem hev1 {pos:Pos} {e:Expr} {args:List Expr} (hs:starEach (e::args) env=(false,eval e env)::starEach args env) {f:Value} {Q:Args->Shared->Prop} {E:Value->Shared->Prop} {s:Shared}
    (h:wpAny (Mo w) A (spliced (backTo pos (starEach (e::args) env))) (fun vs s'=>Q ⟨vs,[]⟩ s') E s):wpAny (Mo w) A (evalArgs f true (backTo pos (starEach (e::args) env)) []) Q E s:=by
  rw [hs] at h ⊢
  exact Calls.evalArgs_plain h
theorem hev0 {pos:Pos} {f:Value} {Q:Args->Shared->Prop} {E:Value->Shared->Prop} {s:Shared}
    (h:wpAny (Mo w) A (spliced (backTo pos (starEach [] env))) (fun vs s'=>Q ⟨vs,[]⟩ s') E s):wpAny (Mo w) A (evalArgs f true (backTo pos (starEach [] env)) []) Q E s:=by
  show wpAny _ _ (evalArgs f true [] []) Q E s
  unfold evalArgs
  show wpAny _ _ (spliced [] >>= _) Q E s
  refine wpAny_bind (wpAny_mono h (fun vs s' h'=>?_) fun θ θ z=>z)
  refine wpAny_bind (wpAny_pure ?_)
  refine wpAny_holding ?_
  exact wpAny_bind (wpAny_pure (wpAny_bind (wpAny_pure (wpAny_pure h'))))
theorem is_str {N:Addr->Prop} {s:Shared} {x:Str} {u:Value} (b:Bears N s.heap (.str x) u):s.TypeIs u "str" ∧ ∀ a,u=.ref a->∃ ob,s.heap.get? a=some ob∧ob.dict=none:=by
  obtain ⟨t,rfl⟩:=of_str b
  exact ⟨typeIs_str s x t,fun θ e=>nomatch e⟩
theorem ev_at {value slice:Expr} {pos:Pos} {d₀ d:D} {PI:(Addr->Prop)->Value->Shared->Prop} {T id:String} (x:Ev w s₁ A env ρ value d₀) (y:Gv w s₁ A env ρ (eval slice env) PI)
    (hl:typeLookup (.type T) "__getitem__" = pure (some (.builtin id))) (hs:∀ o i,∃ ops,subscripted slice false o i=operate ops (getItem o i))
    (h:∀ N s u i,Bears N s.heap d₀ u->PI N i s->s.TypeIs u T∧Op w s₁ N A s (getItem u i) fun v s'=>Bears N s'.heap d v):Ev w s₁ A env ρ (.Subscript value slice pos) d:=Gv.mk <| fun N X sb γ s R=>
  Subscript_ (x.use R fun u s' T' bu=>y.use (R.step T') fun i s'' T'' q=>by
    obtain ⟨h1,h2⟩:=h N s'' u i (bu.to T'') q
    obtain ⟨ops,hops⟩:=hs u i
    exact tail_any h1 hl (wpAny_mono (h2 (R.inv.trans (T'.trans T'')) ((R.step T').step T'').nex) (fun θ θ z=>⟨(T'.trans T'').trans z.1,z.2⟩) fun θ θ z=>z.elim) hops)
noncomputable def Pt (w:World) (s₁:Shared) (A:Around) (env:Env) (ρ:List (Str × D)) (e:Option Expr) (i:Option Int):Prop:=Gv w s₁ A env ρ (evalPart e env) fun θ v θ=>∃ p:Option (Int × Tok),v=partValue p∧p.map (·.1)=i
theorem pt_none:Pt w s₁ A env ρ none none:=Gv.mk <| fun N X sb γ s R=>by rw [evalPart_none];exact wpAny_pure ⟨To.refl _ _,none,rfl,rfl⟩
theorem pt_some {e:Expr} {i:Int} (x:Ev w s₁ A env ρ e (.int i)):Pt w s₁ A env ρ (some e) (some i):=Gv.mk <| fun N X sb γ s R=>by
  rw [evalPart_some]
  exact x.use R fun v s' T b=>by obtain ⟨t,rfl⟩:=of_int b;exact ⟨T,some (i,t),rfl,rfl⟩
noncomputable def PSl (lo hi st:Option Int) (_:Addr->Prop) (i:Value) (s:Shared):Prop:=∃ a l u t,i=.ref a∧s.heap.IsSlice a l u t∧l.map (·.1)=lo∧u.map (·.1)=hi∧t.map (·.1)=st
theorem gv_slice {lower upper step:Option Expr} {p:Pos} {lo hi st:Option Int} (x:Pt w s₁ A env ρ lower lo) (y:Pt w s₁ A env ρ upper hi) (z:Pt w s₁ A env ρ step st):Gv w s₁ A env ρ (eval (.Slice lower upper step p) env) (PSl lo hi st):=Gv.mk <| fun N X sb γ s R=>
  wpAny_Slice (x.use R fun l s' T hl=>y.use (R.step T) fun u s'' T' hu=>z.use ((R.step T).step T') fun t s₃ T'' ht=>by
    obtain ⟨l,rfl,hl⟩:=hl
    obtain ⟨u,rfl,hu⟩:=hu
    obtain ⟨t,rfl,ht⟩:=ht
    exact ⟨((T.trans T').trans T'').trans (To.push _ _),_,l,u,t,rfl,⟨_,Heap.get?_push_size _ rfl,rfl,rfl⟩,hl,hu,ht⟩)
theorem isPart_of (p:Option (Int × Tok)):IsPart (partValue p) (p.map (·.1)):=by
  cases p with
  | none=>exact .none
  | some q=>exact .int _ _
theorem ev_slice_str {value:Expr} {lower upper:Option Expr} {p pos:Pos} {x:Str} {lo hi:Option Int} (hx:x.length≤sizeLine) (v:Ev w s₁ A env ρ value (.str x)) (l:Pt w s₁ A env ρ lower lo) (u:Pt w s₁ A env ρ upper hi) :
    Ev w s₁ A env ρ (.Subscript value (.Slice lower upper none p) pos) (.str (Txt.slice x lo hi)):=
  ev_at v (gv_slice l u pt_none) F.slot_str_getitem.lookup (fun o i=>⟨_,rfl⟩) fun N s o i b q=>by
    obtain ⟨a,l,u,t,rfl,hs,rfl,rfl,ht⟩:=q
    obtain ⟨t',rfl⟩:=of_str b
    have ht:t=none:=by cases t with | none=>rfl | some q=>cases ht
    subst ht
    exact ⟨typeIs_str s x t',fun θ θ=>wpAny_getItem_str_slice hs rfl (post_val_or_str ⟨Nat.le_trans (Txt.slice_le x _ _) hx,fun t' k=>⟨To.toks _ _,bears_str⟩⟩)⟩
noncomputable def slD (ds:List D) (lo hi st:Option Int):List D:=(sliceRange (sliceBounds lo hi st ds.length).1 (sliceBounds lo hi st ds.length).2.1 (sliceBounds lo hi st ds.length).2.2).filterMap (ds[·]?)
theorem all_pick {N:Addr->Prop} {h:Heap} {ds:List D} {vs:List Value} (b:BearsAll N h ds vs):∀ is:List Nat,BearsAll N h (is.filterMap (ds[·]?)) (is.filterMap (vs[·]?))
  | []=>all_nil
  | i::is=>by
    rw [List.filterMap_cons,List.filterMap_cons]
    cases e:ds[i]? with
    | none=>
      have:vs[i]?=none:=by
        rw [List.getElem?_eq_none_iff] at e ⊢
        rw [all_length b];exact e
      rw [this];exact all_pick b is
    | some d=>
      obtain ⟨v,hv,bv⟩:=all_get b e
      rw [hv];exact all_cons bv (all_pick b is)
theorem op_list_slice {N:Addr->Prop} {s:Shared} {ds:List D} {u i:Value} {lo hi st:Option Int} (h0:st≠some 0) (hz:ds.length≤sizeLine) (b:Bears N s.heap (.lst ds) u) (q:PSl lo hi st N i s) :
    s.TypeIs u "list" ∧ Op w s₁ N A s (getItem u i) fun v s'=>Bears N s'.heap (.lst (slD ds lo hi st)) v:=by
  obtain ⟨a,l,u',t,rfl,hs,rfl,rfl,rfl⟩:=q
  obtain ⟨c,vs,rfl,hn,hl,ba⟩:=of_lst b
  have hlen:=all_length ba
  refine ⟨hl.typeIs,fun θ nex=>wpAny_getItem_list_slice hl hs (isPart_of l) (isPart_of u') (isPart_of t) h0 ⟨To.push _ _,?_⟩ (by rw [List.size_toArray,hlen];exact hz)⟩
  refine bears_lst nex.size ⟨_,Heap.get?_push_size _ rfl⟩ ?_
  have e:(sliceRange (sliceBounds (l.map (·.1)) (u'.map (·.1)) (t.map (·.1)) vs.toArray.size).1 (sliceBounds (l.map (·.1)) (u'.map (·.1)) (t.map (·.1)) vs.toArray.size).2.1 (sliceBounds (l.map (·.1)) (u'.map (·.1)) (t.map (·.1)) vs.toArray.size).2.2).filterMap (vs.toArray[·]?) =
      (sliceRange (sliceBounds (l.map (·.1)) (u'.map (·.1)) (t.map (·.1)) ds.length).1 (sliceBounds (l.map (·.1)) (u'.map (·.1)) (t.map (·.1)) ds.length).2.1 (sliceBounds (l.map (·.1)) (u'.map (·.1)) (t.map (·.1)) ds.length).2.2).filterMap (vs[·]?):=by
    rw [List.size_toArray,hlen]
    congr 1
    funext i
    simp
  rw [e]
  exact (all_pick ba _).to (To.push s _)
theorem ev_slice_lst {value:Expr} {lower upper step:Option Expr} {p pos:Pos} {ds:List D} {lo hi st:Option Int} (h0:st≠some 0) (hz:ds.length≤sizeLine) (v:Ev w s₁ A env ρ value (.lst ds)) (l:Pt w s₁ A env ρ lower lo) (u:Pt w s₁ A env ρ upper hi) (t:Pt w s₁ A env ρ step st)
    (hs:∀ o i,∃ ops,subscripted (.Slice lower upper step p) false o i=operate ops (getItem o i)) :
    Ev w s₁ A env ρ (.Subscript value (.Slice lower upper step p) pos) (.lst (slD ds lo hi st)):=
  ev_at v (gv_slice l u t) F.slot_list_getitem.lookup hs fun N s o i b q=>op_list_slice h0 hz b q
theorem ev_item_lst {value slice:Expr} {pos:Pos} {ds:List D} {i:Int} {d:D} (v:Ev w s₁ A env ρ value (.lst ds)) (x:Ev w s₁ A env ρ slice (.int i)) (h0:0≤i) (hi:i<2^63) (hd:ds[i.toNat]?=some d)
    (hs:∀ o i,∃ ops,subscripted slice false o i=operate ops (getItem o i)):Ev w s₁ A env ρ (.Subscript value slice pos) d:=
  ev_at v x F.slot_list_getitem.lookup hs fun N s o j b q=>by
    obtain ⟨a,vs,rfl,hn,hl,ba⟩:=of_lst b
    obtain ⟨t,rfl⟩:=of_int q
    obtain ⟨y,hy,by_⟩:=all_get ba hd
    exact ⟨hl.typeIs,fun θ θ=>wpAny_getItem_list hl h0 hi (by simpa using hy) ⟨To.refl _ _,by_⟩⟩
theorem ev_item_tup {value slice:Expr} {pos:Pos} {ds:List D} {i:Int} {j:Nat} {d:D} (v:Ev w s₁ A env ρ value (.tup ds)) (x:Ev w s₁ A env ρ slice (.int i)) (hlo:-(2^63)≤i) (hi:i<2^63) (hj:seqIndex? i ds.length=some j) (hd:ds[j]?=some d)
    (hs:∀ o i,∃ ops,subscripted slice false o i=operate ops (getItem o i)):Ev w s₁ A env ρ (.Subscript value slice pos) d:=
  ev_at v x slot_tuple_getitem.lookup hs fun N s o k b q=>by
    obtain ⟨a,vs,rfl,hn,hl,ba⟩:=of_tup b
    obtain ⟨t,rfl⟩:=of_int q
    obtain ⟨y,hy,by_⟩:=all_get ba hd
    exact ⟨hl.typeIs,fun θ θ=>PyProof.Rows.getItem_tuple hl hlo hi (by rw [List.size_toArray,all_length ba];exact hj) (by simpa using hy) ⟨To.refl _ _,by_⟩⟩
theorem ev_item_str {value slice:Expr} {pos:Pos} {x:Str} {i:Int} {c:Nat} (v:Ev w s₁ A env ρ value (.str x)) (y:Ev w s₁ A env ρ slice (.int i)) (hr:(decide (i < -(2^63:Int))||decide (i≥2^63))=false) (hc:(seqIndex? i x.length).bind (x.cps[·]?)=some c)
    (hs:∀ o i,∃ ops,subscripted slice false o i=operate ops (getItem o i)):Ev w s₁ A env ρ (.Subscript value slice pos) (.str ⟨#[c]⟩):=
  ev_at v y F.slot_str_getitem.lookup hs fun N s o k b q=>by
    obtain ⟨t',rfl⟩:=of_str b
    obtain ⟨t,rfl⟩:=of_int q
    exact ⟨typeIs_str s x t',fun θ θ=>PyProof.Rows.getItem_str hr hc ⟨To.toks _ _,bears_str⟩⟩
theorem ev_tuple {elts:List Expr} {k:Nat} {pos:Pos} {ds:List D} (y:Evs w s₁ A env ρ (backTo pos (starEach elts env)) ds) (hz:ds.length≤sizeLine):Ev w s₁ A env ρ (.Tuple elts k pos) (.tup ds):=Gv.mk <| fun N X sb γ s R=>
  Tuple_ (y.use R fun vs s' T b=>wpAny_newObj_type ⟨T.trans (To.push _ _),bears_tup (R.step T).nex.size ⟨_,Heap.get?_push_size _ rfl,rfl,_,rfl⟩ (b.to (To.push s' _))⟩ (by show vs.toArray.size≤sizeLine;rw [List.size_toArray,all_length b];exact hz))
theorem ev_list {elts:List Expr} {pos:Pos} {ds:List D} (y:Evs w s₁ A env ρ (backTo pos (starEach elts env)) ds) (hz:ds.length≤sizeLine):Ev w s₁ A env ρ (.List elts pos) (.lst ds):=Gv.mk <| fun N X sb γ s R=>
  List_ (y.use R fun vs s' T b=>wpAny_newObj_type ⟨T.trans (To.push _ _),bears_lst (R.step T).nex.size ⟨_,Heap.get?_push_size _ rfl⟩ (b.to (To.push s' _))⟩ (by show vs.toArray.size≤sizeLine;rw [List.size_toArray,all_length b];exact hz))
theorem op_add_str {x y:Str} (h:(x++y).length≤sizeLine):∀ N s u v,Bears N s.heap (.str x) u->Bears N s.heap (.str y) v->Op w s₁ N A s (binaryOp .Add u v) fun z s'=>Bears N s'.heap (.str (x++y)) z:=fun N s u v bx by_ θ θ=>by
  obtain ⟨t,rfl⟩:=of_str bx
  obtain ⟨t',rfl⟩:=of_str by_
  refine PySem.P.add_str ?_
  split
  · rename_i q
    have:x++y=y:=by
      have hx:x.cps.size=0:=by simpa [Str.length] using q
      apply Str.ext'
      rw [Str.cps_append,Array.eq_empty_of_size_eq_zero hx,Array.empty_append]
    exact ⟨To.refl _ _,by rw [this];exact bears_str⟩
  · split
    · rename_i q
      have:x++y=x:=by
        have hy:y.cps.size=0:=by simpa [Str.length] using q
        apply Str.ext'
        rw [Str.cps_append,Array.eq_empty_of_size_eq_zero hy,Array.append_empty]
      exact ⟨To.refl _ _,by rw [this];exact bears_str⟩
    · exact ⟨h,To.toks _ _,bears_str⟩
theorem ev_add_str {l r:Expr} {pos:Pos} {x y:Str} (a:Ev w s₁ A env ρ l (.str x)) (b:Ev w s₁ A env ρ r (.str y)) (h:(x++y).length≤sizeLine):Ev w s₁ A env ρ (.BinOp l .Add r pos) (.str (x++y)):=ev_bin a b (op_add_str h)
theorem op_eq_str {x y:Str}:∀ N s u v,Bears N s.heap (.str x) u->Bears N s.heap (.str y) v->Op w s₁ N A s (compareOp .Eq u v) fun z s'=>Bears N s'.heap (.bool (x.cps.toList==y.cps.toList)) z:=fun N s u v bx by_ θ θ=>by
  obtain ⟨t,rfl⟩:=of_str bx
  obtain ⟨t',rfl⟩:=of_str by_
  exact PySem.P.eq_str ⟨To.refl _ _,bears_bool⟩
theorem op_len_str {x:Str} (hx:x.length<2^63):∀ N s vs,BearsAll N s.heap [.str x] vs->Op w s₁ N A s (call (.builtin "len") vs) fun v s'=>Bears N s'.heap (.int x.length) v:=fun N s vs b θ θ=>by
  obtain ⟨v,r,rfl,bv,br⟩:=all_cons_iff.mp b
  obtain rfl:=all_nil_iff.mp br
  obtain ⟨t,rfl⟩:=of_str bv
  exact PySem.P.len_str (by omega) ⟨To.toks _ _,bears_int⟩
end
theorem entry_unchain:entryFor table "proto.unchain" = some Builtin.«proto.unchain»:=entryFor_of_tree (by kernel_rfl)
theorem raise_new {w:World} {A:Around} {α:Type} {s:Shared} {a:Addr} {o:Obj} {fs:Array Value} {Q:α->Shared->Prop} {E:Value->Shared->Prop} (hH:HOk A s) (ha:s.heap.get? a=some o) (hd:o.data=.fields fs) (hz:2<fs.size)
    (hne:A.handled≠some (.ref a)) (h:∀ h' o',Heap.SameBut a s.heap h'->h'.get? a=some o'->o'.cls=o.cls->(∃ gs,o'.data=.fields gs∧gs.size=fs.size)->E (.ref a) { s with heap:=h' }) :
    wpAny (Mo w) A (raiseNew (.ref a):Sem α) Q E s:=by
  unfold raiseNew
  refine wpAny_bind (wpAny_handled ?_)
  rcases hH with hn | ⟨e,oe,fe,he,hoe,hde,hf,_⟩
  · rw [hn]
    exact wpAny_bind (wpAny_pure (wpAny_throw (h s.heap o (Heap.SameBut.refl _ _) ha rfl ⟨fs,hd,rfl⟩)))
  · rw [he]
    have hne':(Value.ref e != Value.ref a)=true:=by
      rw [bne_iff_ne];intro q;exact hne (he.trans (by rw [q]))
    show wpAny _ _ (if (Value.ref e != Value.ref a)=true then (do
      let _ ← holding [Value.ref a] (runValue (.builtin "proto.unchain" ⟨[.ref a,.ref e,.ref e,.bool false],[]⟩))
      let _ ← updateField a 2 (.ref e)
      throw (Value.ref a)) else throw (Value.ref a)) Q E s
    rw [if_pos hne']
    refine wpAny_bind (wpAny_holding (wpAny_runValue (codeAny_builtin entry_unchain ?_)))
    show wpAny _ _ (field (.ref e) 2 >>= _) _ _ s
    refine wpAny_bind (wpAny_field hoe hde hf ?_)
    refine wpAny_pure ?_
    refine wpAny_bind (m:=setField (.ref a) 2 (.ref e)) (wpAny_setField ha hd hz ?_)
    refine wpAny_throw (h _ { o with data:=.fields (fs.setIfInBounds 2 (.ref e)) } (Heap.SameBut.update ..) ?_ rfl ⟨_,rfl,by simp⟩)
    obtain ⟨c,d,dt,sl⟩:=o
    simp only at hd
    subst hd
    exact Heap.get?_update_self _ ha rfl
theorem next_tup_end {w:World} {A:Around} {E:Value->Shared->Prop} {s:Shared} {it t:Addr} {i:Nat} {items:Array Value} {Q:Option Value->Shared->Prop} (hH:HOk A s) (hit:IsTupIter s.heap it t i) (ht:IsTup s.heap t items) (hx:items[i]?=none)
    (hne:∀ e,A.handled=some (.ref e)->e≠it) (hQ:∀ h',Heap.ExtBut it s.heap h'->s.heap.objs.size≤h'.objs.size->Q none { s with heap:=h' }):wpAny (Mo w) A (pyNext (.ref it)) Q E s:=by
  obtain ⟨o,ho,hc,hd⟩:=id hit
  obtain ⟨ol,hol,_,nl,hdl⟩:=ht
  unfold pyNext
  refine wpAny_bind (wpAny_attempt (wpAny_callSpecial?_slot (name:=Str.ofString "__next__") hit.typeIs slot_tupleiter_next
    (wpAny_call_entry slot_tupleiter_next hit.typeIs entry_tupleiter_next ?_ (args_tupleiter_next _))))
  show wpAny _ _ (field (.ref it) 0 >>= _) _ _ s
  refine wpAny_bind (wpAny_field ho hd (x:=.ref t) rfl ?_)
  show wpAny _ _ (field (.ref it) 1 >>= _) _ _ s
  refine wpAny_bind (wpAny_field ho hd (x:=.int i 0) rfl ?_)
  show wpAny _ _ (seqItems? (.ref t) >>= _) _ _ s
  refine wpAny_bind (wpAny_seqItems hol hdl ?_)
  simp only [Int.toNat_natCast,hx]
  refine wpAny_bind (wpAny_rule (wpAny_bind (wpAny_setField ho hd (by simp) ?_)))
  show wpAny _ _ (newExc (.type "StopIteration") [] >>= _) _ _ _
  refine wpAny_bind ?_
  simp only [newExc,newTuple]
  refine wpAny_bind (wpAny_newObj_type ?_ (by size_fits))
  refine wpAny_bind (m:=firstArgMember _ _) (wpAny_of_eq (a:=Value.none) (by first | rfl | (simp only [firstArgMember];rfl)) ?_)
  refine wpAny_newObj_type ?_ (by size_fits)
  have hlt:∀ b o',s.heap.get? b=some o'->b<s.heap.objs.size:=fun b o' e=>Heap.lt_size e
  have hsz:(((s.heap.update it (Obj.mapFields fun x=>x.setIfInBounds 0 Value.none)).push { cls:=.type "tuple", data:=.seq #[] }).objs.size)=s.heap.objs.size+1:=by
    rw [Heap.size_push,Heap.size_after_update]
  refine raise_new (w:=w) ?_ (Heap.get?_push_size _ rfl) rfl (by rw [Array.size_append];exact (by decide:2<6+(ownMembersOf (.type "StopIteration") []).size)) ?_ fun h' o' hs ho' hc' θ=>?_
  · rcases hH with hn | ⟨e,oe,fe,he,hoe,hde,hf,htb⟩
    · exact .inl hn
    · refine .inr ⟨e,oe,fe,he,Heap.get?_push_of_some _ (Heap.get?_push_of_some _ ?_),hde,hf,htb⟩
      exact ((Heap.SameBut.update ..).2 e (hne e he)).trans hoe
  · rcases hH with hn | ⟨e,oe,fe,he,hoe,hde,hf,htb⟩
    · show A.handled≠_
      rw [hn];exact fun q=>nomatch q
    · show A.handled≠_
      rw [he]
      intro q
      have h1:=hlt e oe hoe
      have h2:e=_:=Value.ref.inj (Option.some.inj q)
      have h3:e=s.heap.objs.size+1:=h2.trans hsz
      exact absurd h1 (by rw [h3];exact Nat.not_lt.mpr (Nat.le_succ _))
  · dsimp only at hs ho' hc'
    refine wpAny_bind (wpAny_isInstance (T := "StopIteration") (b:=true) ⟨_,ho',hc'⟩ isSubtype_stop ?_)
    refine wpAny_pure (hQ _ (fun b o₂ hb e=>?_) ?_)
    · refine (hs.2 b ?_).trans (Heap.get?_push_of_some _ (Heap.get?_push_of_some _ (((Heap.SameBut.update ..).2 b hb).trans e)))
      intro q
      have h1:=hlt b o₂ e
      have h3:b=s.heap.objs.size+1:=q.trans hsz
      exact absurd h1 (by rw [h3];exact Nat.not_lt.mpr (Nat.le_succ _))
    · have h1:=hs.1
      rw [Heap.size_push] at h1
      show s.heap.objs.size≤h'.objs.size
      rw [h1,hsz];omega
noncomputable def Dis (X fp:Loc->Prop):Prop:=∀ l,X l->¬ fp l
inductive YNx (w:World) (A:Around) (N:Addr->Prop) (tg:Expr->Prop) (d:D) (it:Value) (fp:Loc->Prop) (s':Shared) (Y:(Loc->Prop)->Shared->Prop) (r:Option Value) (s'':Shared):Prop
  | mk (v:Value) (fp':Loc->Prop) (e:r=some v) (T:To fp s' s'') (K:Kp s' s'') (h:∀ l,fp' l->fp l∨NewAt s' l) (b:Bears N s''.heap d v)
    (y:∀ target,tg target->wpAny (Mo w) A (letOwnedTupleGo target it v) (fun θ s₃=>To fp' s'' s₃∧Kp s'' s₃∧Y fp' s₃) (fun θ θ=>False) s'')
noncomputable def Yld (w:World) (s₁:Shared) (N:Addr->Prop) (n:Nat) (tg:Expr->Prop) (nd:List (D × Value)):List D->Value->(Loc->Prop)->Shared->Prop
  | [],it,fp,s=>∀ A X s',Rm n A->A.handled=none->At s₁ s'->To X s s'->Dis X fp->Nex N s'->(∀ p,p∈nd->Bears N s'.heap p.1 p.2) ->
      wpAny (Mo w) A (pyNext it) (fun r s''=>r=none∧To fp s' s''∧Kp s' s'') (fun θ θ=>False) s'
  | d::ds,it,fp,s=>∀ A X s',Rm n A->A.handled=none->At s₁ s'->To X s s'->Dis X fp->Nex N s'->(∀ p,p∈nd->Bears N s'.heap p.1 p.2) ->
      wpAny (Mo w) A (pyNext it) (YNx w A N tg d it fp s' fun fp' s₃=>Yld w s₁ N n tg nd ds it fp' s₃) (fun θ θ=>False) s'
theorem Yld.frame {w:World} {s₁:Shared} {N:Addr->Prop} {n:Nat} {tg:Expr->Prop} {nd:List (D × Value)} {it:Value} {fp X:Loc->Prop} {s s':Shared}:∀ {ds:List D},Yld w s₁ N n tg nd ds it fp s->To X s s'->Dis X fp->Yld w s₁ N n tg nd ds it fp s'
  | [],y,T,D=>fun A Y s'' hA hh H T' D' nx K'=>y A (fun l=>X l∨Y l) s'' hA hh H ((T.mono fun θ h=>.inl h).trans (T'.mono fun θ h=>.inr h)) (fun l h=>h.elim (D l) (D' l)) nx K'
  | d::ds,y,T,D=>fun A Y s'' hA hh H T' D' nx K'=>y A (fun l=>X l∨Y l) s'' hA hh H ((T.mono fun θ h=>.inl h).trans (T'.mono fun θ h=>.inr h)) (fun l h=>h.elim (D l) (D' l)) nx K'
theorem lot_none {w:World} {A:Around} {s:Shared} {E:Value->Shared->Prop} {target:Expr} {it:Addr} {v:Value} {o:Obj} {T:String} {Q:Unit->Shared->Prop} (ho:s.heap.get? it=some o) (hc:o.cls=.type T)
    (hT:["enumerate", "zip", "dict_itemiterator", "dict_reverseitemiterator", "odict_iterator", "itertools.zip_longest", "itertools.pairwise"].contains T=false) (h:Q () s):wpAny (Mo w) A (letOwnedTupleGo target (.ref it) v) Q E s:=by
  have key:wpAny (Mo w) A (do
      let (.ref r,.ref a):=((.ref it:Value),v) | return
      let o ← load r
      match o.cls,o.data with
      | .type n,.fields vs=>
        if ["enumerate", "zip", "dict_itemiterator", "dict_reverseitemiterator", "odict_iterator", "itertools.zip_longest", "itertools.pairwise"].contains n&&vs[0]?==some (rawInt a) then
          rule "for.unpacks-the-owned-tuple"
          updateField r 0 .none
      | _,_=>pure ()) Q E s:=by
    cases v with
    | ref a=>
      refine wpAny_bind (wpAny_load ho ?_)
      rw [hc]
      split
      · rename_i h1 _ h2 _
        cases h2
        rw [hT]
        exact wpAny_pure h
      · exact wpAny_pure h
    | _=>exact wpAny_pure h
  cases target with
  | Tuple=>exact key
  | List=>exact key
  | _=>exact (show wpAny (Mo w) A (pure ()) Q E s from wpAny_pure h)
theorem kept_get {X:Loc->Prop} {s s':Shared} (T:To X s s') {a:Addr} {o:Obj} {c:String} (hX:¬ X (.inl a)) (ho:s.heap.get? a=some o) (hc:o.cls=.type c):s'.heap.get? a=some o:=
  T.keep a o hX (fun θ q=>by rw [hc] at q;cases q) ho
section
variable {w:World} {s₁:Shared} {N:Addr->Prop}
theorem notab_of {s:Shared} (ht:TabOk s) {a:Addr} {o:Obj} {c:String} (ho:s.heap.get? a=some o) (hc:o.cls=.type c):a∉tabs:=fun q=>by
  obtain ⟨vs,e⟩:=ht a q
  rw [ho] at e;cases e;cases hc
theorem free_of {s:Shared} (ht:TabOk s) {a:Addr} {o:Obj} {c:String} (ho:s.heap.get? a=some o) (hc:o.cls=.type c) (h:c ≠ "code" := by decide):Turns s a:=turns_cls (notab_of ht ho hc) ho hc h
theorem Kp.ext {s:Shared} {h:Heap} {t:Nat} {a:Addr} {o:Obj} {c:String} (hs:Heap.ExtBut a s.heap h) (ho:s.heap.get? a=some o) (hc:o.cls=.type c) (h1:c ≠ "tuple") (h2:c ≠ "list"):Kp s { s with heap:=h,toks:=t }:=⟨fun b=>b.keeps (fun a' o' θ e hc'=>by
  by_cases q:a'=a
  · subst q
    rw [ho] at e;cases e
    rcases hc' with z | z<;>rw [hc] at z<;>cases z<;>contradiction
  · exact hs a' o' q e) fun θ θ n θ=>n⟩
noncomputable def one (a:Addr):Loc->Prop:=fun l=>l=.inl a
theorem yld_list (G:GW w s₁) {n:Nat} {tg:Expr->Prop} {all:List D} {l it:Addr}:∀ (ds:List D) (i:Nat) (s:Shared),all.drop i=ds->s.heap.IsListIter it l i->Yld w s₁ N n tg [(.lst all,.ref l)] ds (.ref it) (one it) s
  | [],i,s,hd,hit=>fun A X s' hA hh H T D nx K=>by
    obtain ⟨o,ho,hc,hdt⟩:=hit
    have ho':=kept_get T (fun q=>D _ q rfl) ho hc
    obtain ⟨a,vs,e,hn,hl',ba⟩:=of_lst (K _ (.head _))
    cases e
    have hlen:=all_length ba
    refine wpAny_pyNext_list_end hh ⟨o,ho',hc,hdt⟩ hl' ?_ fun h' hs=>⟨rfl,To.ext hs rfl (free_of (G.tabOk H) ho' hc),Kp.ext hs ho' hc (by decide) (by decide)⟩
    have:all.length≤i:=by rw [← List.drop_eq_nil_iff];exact hd
    simp;omega
  | d::ds,i,s,hd,hit=>fun A X s' hA hh H T D nx K=>by
    obtain ⟨o,ho,hc,hdt⟩:=hit
    have ho':=kept_get T (fun q=>D _ q rfl) ho hc
    obtain ⟨a,vs,e,hn,hl',ba⟩:=of_lst (K _ (.head _))
    cases e
    obtain ⟨hlt,hget,hrest⟩:=drop_get hd
    obtain ⟨v,hv,bv⟩:=all_get ba hget
    refine wpAny_pyNext_list_item ⟨o,ho',hc,hdt⟩ hl' (x:=v) (by simpa using hv) fun h' hit' hs=>?_
    have K':Kp s' { s' with heap:=h' }:=Kp.ext (t:=s'.toks) hs.extBut ho' hc (by decide) (by decide)
    have y':Yld w s₁ N n tg [(.lst all,.ref l)] ds (.ref it) (one it) { s' with heap:=h' }:=yld_list G ds (i+1) _ hrest hit'
    refine ⟨v,one it,rfl,To.but (t:=s'.toks) hs rfl (free_of (G.tabOk H) ho' hc),K',fun θ q=>.inl q,K'.k bv,fun target θ=>?_⟩
    obtain ⟨o₂,ho₂,hc₂,_⟩:=hit'
    exact lot_none ho₂ hc₂ (by decide) ⟨To.refl _ _,Kp.refl _,y'⟩
theorem yld_tup (G:GW w s₁) {n:Nat} {tg:Expr->Prop} {all:List D} {l it:Addr}:∀ (ds:List D) (i:Nat) (s:Shared),all.drop i=ds->IsTupIter s.heap it l i->Yld w s₁ N n tg [(.tup all,.ref l)] ds (.ref it) (one it) s
  | [],i,s,hd,hit=>fun A X s' hA hh H T D nx K=>by
    obtain ⟨o,ho,hc,hdt⟩:=hit
    have ho':=kept_get T (fun q=>D _ q rfl) ho hc
    obtain ⟨a,vs,e,hn,hl',ba⟩:=of_tup (K _ (.head _))
    cases e
    have hlen:=all_length ba
    refine next_tuple_end hh ⟨o,ho',hc,hdt⟩ hl' ?_ fun h' hs=>⟨rfl,To.ext hs rfl (free_of (G.tabOk H) ho' hc),Kp.ext hs ho' hc (by decide) (by decide)⟩
    have:all.length≤i:=by rw [← List.drop_eq_nil_iff];exact hd
    simp;omega
  | d::ds,i,s,hd,hit=>fun A X s' hA hh H T D nx K=>by
    obtain ⟨o,ho,hc,hdt⟩:=hit
    have ho':=kept_get T (fun q=>D _ q rfl) ho hc
    obtain ⟨a,vs,e,hn,hl',ba⟩:=of_tup (K _ (.head _))
    cases e
    obtain ⟨hlt,hget,hrest⟩:=drop_get hd
    obtain ⟨v,hv,bv⟩:=all_get ba hget
    refine next_tuple_item ⟨o,ho',hc,hdt⟩ hl' (x:=v) (by simpa using hv) fun h' hit' hs=>?_
    have K':Kp s' { s' with heap:=h' }:=Kp.ext (t:=s'.toks) hs.extBut ho' hc (by decide) (by decide)
    have y':Yld w s₁ N n tg [(.tup all,.ref l)] ds (.ref it) (one it) { s' with heap:=h' }:=yld_tup G ds (i+1) _ hrest hit'
    refine ⟨v,one it,rfl,To.but (t:=s'.toks) hs rfl (free_of (G.tabOk H) ho' hc),K',fun θ q=>.inl q,K'.k bv,fun target θ=>?_⟩
    obtain ⟨o₂,ho₂,hc₂,_⟩:=hit'
    exact lot_none ho₂ hc₂ (by decide) ⟨To.refl _ _,Kp.refl _,y'⟩
noncomputable def chars (x:Str):List D:=x.cps.toList.map fun c=>D.str ⟨#[c]⟩
theorem yld_str (G:GW w s₁) {n:Nat} {tg:Expr->Prop} {x:Str} {t:Tok} {it:Addr}:∀ (cs:List Nat) (i:Nat) (s:Shared),x.cps.toList.drop i=cs->s.heap.IsStrIter it "str_ascii_iterator" x t i->Yld w s₁ N n tg [] (cs.map fun c=>D.str ⟨#[c]⟩) (.ref it) (one it) s
  | [],i,s,hd,hit=>fun A X s' hA hh H T D nx K=>by
    obtain ⟨o,ho,hc,hdt⟩:=hit
    have ho':=kept_get T (fun q=>D _ q rfl) ho hc
    refine wpAny_pyNext_ascii_end hh ⟨o,ho',hc,hdt⟩ ?_ fun h' hs=>⟨rfl,To.ext hs rfl (free_of (G.tabOk H) ho' hc),Kp.ext hs ho' hc (by decide) (by decide)⟩
    have:x.cps.toList.length≤i:=by rw [← List.drop_eq_nil_iff];exact hd
    simpa using this
  | c::cs,i,s,hd,hit=>fun A X s' hA hh H T D nx K=>by
    obtain ⟨o,ho,hc,hdt⟩:=hit
    have ho':=kept_get T (fun q=>D _ q rfl) ho hc
    have hlt:i<x.cps.toList.length:=dropLt hd
    have hd':=hd
    rw [List.drop_eq_getElem_cons hlt] at hd'
    have hget:x.cps[i]?=some c:=by
      rw [← Array.getElem?_toList,List.getElem?_eq_getElem hlt];exact congrArg some (List.cons.inj hd').1
    refine wpAny_pyNext_ascii_item ⟨o,ho',hc,hdt⟩ hget fun h' hit' hs=>?_
    have K':Kp s' { s' with heap:=h',toks:=s'.toks+1 }:=Kp.ext (t:=s'.toks+1) hs.extBut ho' hc (by decide) (by decide)
    have y':Yld w s₁ N n tg [] (cs.map fun c=>Mine.D.str ⟨#[c]⟩) (.ref it) (one it) { s' with heap:=h',toks:=s'.toks+1 }:=yld_str G cs (i+1) _ (List.cons.inj hd').2 hit'
    refine ⟨_,one it,rfl,To.but (t:=s'.toks+1) hs rfl (free_of (G.tabOk H) ho' hc),K',fun θ q=>.inl q,bears_str,fun target θ=>?_⟩
    obtain ⟨o₂,ho₂,hc₂,_⟩:=hit'
    exact lot_none ho₂ hc₂ (by decide) ⟨To.refl _ _,Kp.refl _,y'⟩
theorem yld_range (G:GW w s₁) {n:Nat} {tg:Expr->Prop} {it:Addr}:∀ (k:Nat) (a:Int) (s:Shared),IsRangeIter s.heap it a k 1->Yld w s₁ N n tg [] ((List.range k).map fun (i:Nat)=>D.int (a+i)) (.ref it) (one it) s
  | 0,a,s,hit=>fun A X s' hA hh H T D nx K=>by
    have ho':=kept_get T (fun q=>D _ q rfl) hit rfl
    exact wpAny_pyNext_range_end hh ho' (by omega) fun h' hs=>⟨rfl,To.ext hs rfl (free_of (G.tabOk H) ho' rfl),Kp.ext hs ho' rfl (by decide) (by decide)⟩
  | k+1,a,s,hit=>by
    rw [List.range_succ_eq_map,List.map_cons,List.map_map]
    intro A X s' hA hh H T D nx K
    have ho':=kept_get T (fun q=>D _ q rfl) hit rfl
    refine wpAny_pyNext_range_item ho' (by omega +splitNatSub) fun h' hit' hs=>?_
    have K':Kp s' { s' with heap:=h',toks:=s'.toks+1 }:=Kp.ext (t:=s'.toks+1) hs.extBut ho' rfl (by decide) (by decide)
    have y':Yld w s₁ N n tg [] ((List.range k).map ((fun (i:Nat)=>Mine.D.int (a+i)) ∘ Nat.succ)) (.ref it) (one it) { s' with heap:=h',toks:=s'.toks+1 }:=by
      have:=yld_range G (n:=n) (tg:=tg) k (a+1) { s' with heap:=h',toks:=s'.toks+1 } (by
        have e:((k+1:Nat):Int)-1=(k:Int):=by omega
        rw [e] at hit';exact hit')
      have e:(List.range k).map ((fun (i:Nat)=>Mine.D.int (a+i)) ∘ Nat.succ)=(List.range k).map fun (i:Nat)=>Mine.D.int (a+1+i):=by
        apply List.map_congr_left
        intro i _
        show Mine.D.int _=Mine.D.int _
        congr 1
        push_cast
        omega
      rw [e];exact this
    refine ⟨_,one it,rfl,To.but (t:=s'.toks+1) hs rfl (free_of (G.tabOk H) ho' rfl),K',fun θ q=>.inl q,?_,fun target θ=>?_⟩
    · have:a+((0:Nat):Int)=a:=by omega
      rw [this];exact bears_int
    · exact lot_none hit' rfl (by decide) ⟨To.refl _ _,Kp.refl _,y'⟩
theorem there_get {s:Shared} {a:Addr} {o:Obj} (h:s.heap.get? a=some o):¬ NewAt s (.inl a):=fun q=>by
  rw [show s.heap.get? a=none from q] at h;cases h
structure Itr (w:World) (s₁:Shared) (N:Addr->Prop) (n:Nat) (tg:Expr->Prop) (nd:List (D × Value)) (ds:List D) (it:Value) (fp:Loc->Prop) (s:Shared):Prop where
  yld:Yld w s₁ N n tg nd ds it fp s
  self:∀ A X s',At s₁ s'->To X s s'->Dis X fp->wpAny (Mo w) A (pyIter it) (fun r s''=>r=it∧s''=s') (fun θ θ=>False) s'
noncomputable def Itb (w:World) (s₁:Shared) (N:Addr->Prop) (n:Nat) (tg:Expr->Prop) (ds:List D) (t:Shared) (v:Value) (s:Shared):Prop:=
  ∀ A,Rm n A->A.handled=none->At s₁ s->wpAny (Mo w) A (pyIter v) (fun it s'=>∃ nd fp,To no s s'∧(∀ l,fp l->NewAt t l∧¬ NewAt s' l)∧(∀ p,p∈nd->Bears N s'.heap p.1 p.2)∧∀ N',Itr w s₁ N' n tg nd ds it fp s') (fun θ θ=>False) s
theorem At.of_new {s:Shared} (G:GW w s₁) (H:At s₁ s) {l:Loc} (h:NewAt s l):NewAt s₁ l:=h.to (fun P hP=>⟨_,G.tab P hP⟩) H
theorem new_size {t s:Shared} (G:GW w s₁) (H:At s₁ t) (T:To no t s):NewAt t (.inl s.heap.objs.size):=NewAt.to (G.tabOk H) T (newAt_ge (Nat.le_refl _))
theorem itb_list (G:GW w s₁) {n:Nat} {tg:Expr->Prop} {ds:List D} {v:Value} {t s:Shared} (T₀:To no t s) (H₀:At s₁ t) (b:Bears N s.heap (.lst ds) v):Itb w s₁ N n tg ds t v s:=fun A hA hh H=>by
  obtain ⟨a,vs,rfl,hn,hl,ba⟩:=of_lst b
  refine wpAny_pyIter_list hl ?_
  have T:To no s { s with heap:=s.heap.push { cls:=.type "list_iterator", data:=.fields #[.ref a,.int 0 0] } }:=To.push _ _
  have hit:(s.heap.push { cls:=.type "list_iterator", data:=.fields #[.ref a,.int 0 0] }).IsListIter s.heap.objs.size a 0:=⟨_,Heap.get?_push_size _ rfl,rfl,rfl⟩
  refine ⟨[(.lst ds,.ref a)],one s.heap.objs.size,T,fun l q=>by rw [q];exact ⟨new_size G H₀ T₀,there_get (Heap.get?_push_size _ rfl)⟩,fun p hp=>?_,fun N'=>⟨yld_list G ds 0 _ (by simp) hit,fun A X s' H' T' D'=>?_⟩⟩
  · rw [List.mem_singleton] at hp;subst hp;exact b.to T
  · have ho':=kept_get T' (fun q=>D' _ q rfl) (Heap.get?_push_size _ rfl) rfl
    exact wpAny_pyIter_listiter ⟨_,ho',rfl,rfl⟩ ⟨rfl,rfl⟩
theorem itb_tup (G:GW w s₁) {n:Nat} {tg:Expr->Prop} {ds:List D} {v:Value} {t s:Shared} (T₀:To no t s) (H₀:At s₁ t) (b:Bears N s.heap (.tup ds) v):Itb w s₁ N n tg ds t v s:=fun A hA hh H=>by
  obtain ⟨a,vs,rfl,hn,hl,ba⟩:=of_tup b
  refine iter_tuple hl ?_
  have T:To no s { s with heap:=s.heap.push { cls:=.type "tuple_iterator", data:=.fields #[.ref a,.int 0 0] } }:=To.push _ _
  have hit:IsTupIter (s.heap.push { cls:=.type "tuple_iterator", data:=.fields #[.ref a,.int 0 0] }) s.heap.objs.size a 0:=⟨_,Heap.get?_push_size _ rfl,rfl,rfl⟩
  refine ⟨[(.tup ds,.ref a)],one s.heap.objs.size,T,fun l q=>by rw [q];exact ⟨new_size G H₀ T₀,there_get (Heap.get?_push_size _ rfl)⟩,fun p hp=>?_,fun N'=>⟨yld_tup G ds 0 _ (by simp) hit,fun A X s' H' T' D'=>?_⟩⟩
  · rw [List.mem_singleton] at hp;subst hp;exact b.to T
  · have ho':=kept_get T' (fun q=>D' _ q rfl) (Heap.get?_push_size _ rfl) rfl
    exact wpAny_pyIter_tupleiter ⟨_,ho',rfl,rfl⟩ ⟨rfl,rfl⟩
theorem itb_str (G:GW w s₁) {n:Nat} {tg:Expr->Prop} {x:Str} (hx:x.cps.all (·<128)=true) {v:Value} {t s:Shared} (T₀:To no t s) (H₀:At s₁ t) (b:Bears N s.heap (.str x) v):Itb w s₁ N n tg (chars x) t v s:=fun A hA hh H=>by
  obtain ⟨t,rfl⟩:=of_str b
  refine wpAny_pyIter_ascii hx ?_
  have T:To no s { s with heap:=s.heap.push { cls:=.type "str_ascii_iterator", data:=.fields #[.str x t,.int 0 0] } }:=To.push _ _
  have hit:(s.heap.push { cls:=.type "str_ascii_iterator", data:=.fields #[.str x t,.int 0 0] }).IsStrIter s.heap.objs.size "str_ascii_iterator" x t 0:=⟨_,Heap.get?_push_size _ rfl,rfl,rfl⟩
  refine ⟨[],one s.heap.objs.size,T,fun l q=>by rw [q];exact ⟨new_size G H₀ T₀,there_get (Heap.get?_push_size _ rfl)⟩,(fun p hp=>by cases hp),fun N'=>⟨yld_str G x.cps.toList 0 _ (by simp) hit,fun A X s' H' T' D'=>?_⟩⟩
  have ho':=kept_get T' (fun q=>D' _ q rfl) (Heap.get?_push_size _ rfl) rfl
  exact wpAny_pyIter_striter_ascii ⟨_,ho',rfl,rfl⟩ ⟨rfl,rfl⟩
end
section
variable {w:World} {s₁:Shared} {N:Addr->Prop} {A:Around} {env:Env} {ρ:List (Str × D)} {γ:List (D × Value)} {X:Loc->Prop}
noncomputable def As (w:World) (s₁:Shared) (N:Addr->Prop) (A:Around) (env:Env) (X:Loc->Prop) (H:Shared->Prop) (f:Value->Sem Unit) (d:D) (bs:List (Str × D)):Prop:=
  ∀ sb ρ γ s v (Q:Unit->Shared->Prop) (E:Value->Shared->Prop),H s->Rel s₁ N X sb env ρ γ s->Bears N s.heap d v->(∀ s',To X s s'->Kp s s'->Rel s₁ N X sb env (bs++ρ) γ s'->Q () s')->wpAny (Mo w) A (f v) Q E s
theorem as_name {H:Shared->Prop} {x:Str} {p:Pos} {d:D} (S:Sto X env x):As w s₁ N A env X H (assign (.Name x p) env) d [(x,d)]:=fun sb ρ γ s v Q E θ R b h=>by
  rw [arm_assign_Name]
  exact wpAny_bind (wpAny_standAt (wpAny_bindName (R.store b S h)))
theorem as_bind {H:Shared->Prop} {x:Str} {d:D} (S:Sto X env x):As w s₁ N A env X H (fun v=>bindName env x v) d [(x,d)]:=fun sb ρ γ s v Q E θ R b h=>wpAny_bindName (R.store b S h)
inductive AsL (w:World) (s₁:Shared) (N:Addr->Prop) (A:Around) (env:Env) (X:Loc->Prop) (H:Shared->Prop):List (Value->Sem Unit)->List D->List (Str × D)->Prop
  | nil:AsL w s₁ N A env X H [] [] []
  | cons {f:Value->Sem Unit} {fs:List (Value->Sem Unit)} {d:D} {ds:List D} {bs cs:List (Str × D)} (x:As w s₁ N A env X H f d bs) (y:AsL w s₁ N A env X H fs ds cs):AsL w s₁ N A env X H (f::fs) (d::ds) (cs++bs)
theorem AsL.length {H:Shared->Prop} {fs:List (Value->Sem Unit)} {ds:List D} {bs:List (Str × D)} (x:AsL w s₁ N A env X H fs ds bs):fs.length=ds.length:=by
  induction x with
  | nil=>rfl
  | cons _ _ ih=>rw [List.length_cons,List.length_cons,ih]
theorem AsL.run {H:Shared->Prop} (hH:∀ s s',H s->To X s s'->H s') {fs:List (Value->Sem Unit)} {ds:List D} {bs:List (Str × D)} (x:AsL w s₁ N A env X H fs ds bs) :
    ∀ {sb:Shared} {ρ:List (Str × D)} {γ:List (D × Value)} {s:Shared} {vs:List Value} {Q:Unit->Shared->Prop} {E:Value->Shared->Prop},H s->Rel s₁ N X sb env ρ γ s->BearsAll N s.heap ds vs->(∀ s',To X s s'->Kp s s'->Rel s₁ N X sb env (bs++ρ) γ s'->Q () s')->wpAny (Mo w) A (assignInOrder fs vs) Q E s:=by
  induction x with
  | nil=>
    intro sb ρ γ s vs Q E h R b hQ
    obtain rfl:=all_nil_iff.mp b
    exact wpAny_pure (hQ s (To.refl _ _) (Kp.refl _) R)
  | cons a y ih=>
    intro sb ρ γ s vs Q E h R b hQ
    obtain ⟨v,r,rfl,b1,b2⟩:=all_cons_iff.mp b
    show wpAny _ _ (holding r _ >>= fun θ=>assignInOrder _ r) Q E s
    refine wpAny_bind (wpAny_holding (a sb ρ γ s v _ E h R b1 fun s' T K R'=>?_))
    exact ih (hH _ _ h T) R' (K.all b2) fun s'' T' K' R''=>hQ s'' (T.trans T') (K.trans K') (by rw [List.append_assoc];exact R'')
theorem unpack_tup (G:GW w s₁) {s:Shared} {ds:List D} {v:Value} {n:Nat} (hn:n=ds.length) (b:Bears N s.heap (.tup ds) v) (H:At s₁ s) (hH:HOk A s) {Q:List Value->Shared->Prop} {E:Value->Shared->Prop}
    (h:∀ vs s',To no s s'->BearsAll N s'.heap ds vs->Q vs s'):wpAny (Mo w) A (unpackItems v n none) Q E s:=by
  obtain ⟨t,vs,rfl,hnN,ht,ba⟩:=of_tup b
  have hlen:=all_length ba
  have hsz:n=vs.toArray.size:=by rw [hn,List.size_toArray,hlen]
  rw [hsz]
  have hlt:t≠s.heap.objs.size:=by obtain ⟨o,ho,_⟩:=ht;exact Nat.ne_of_lt (Heap.lt_size ho)
  unfold unpackItems
  refine wpAny_bind ?_
  unfold notIterableAtAll
  refine wpAny_bind (wpAny_specialOf ht.typeIs slot_tuple_iter.lookup ?_)
  refine wpAny_pure ?_
  simp only [Bool.false_eq_true,if_false]
  refine wpAny_bind (wpAny_holding (iter_tuple ht ?_))
  refine wpAny_bind (wpAny_holding (draw_tuple hlt vs.toArray.size 0 _ _ ⟨_,Heap.get?_push_size _ rfl,rfl,rfl⟩ (ht.push _) (by omega) fun h₁ hit₁ hs₁=>?_))
  have hall:List.take vs.toArray.size (List.drop 0 vs.toArray.toList)=vs:=by simp
  rw [hall]
  rw [if_neg (by simp)]
  have T₁:To no s { s with heap:=s.heap.push { cls:=.type "tuple_iterator", data:=.fields #[.ref t,.int 0 0] } }:=To.push _ _
  have hnt:s.heap.objs.size∉tabs:=fun q=>by
    obtain ⟨us,e⟩:=G.tabOk H _ q
    exact Nat.lt_irrefl _ (Heap.lt_size e)
  have T₂:To no s { s with heap:=h₁ }:=To.forget T₁ (X:=one s.heap.objs.size) (To.but (s:={ s with heap:=s.heap.push { cls:=.type "tuple_iterator", data:=.fields #[.ref t,.int 0 0] } }) (t:=s.toks) hs₁ rfl (turns_cls hnt (Heap.get?_push_size _ rfl) rfl (by decide))) fun l q=>by rw [q];exact newAt_ge (Nat.le_refl _)
  have ht₁:IsTup h₁ t vs.toArray:=(ht.push _).extBut hs₁.extBut hlt
  refine wpAny_bind (wpAny_holding (next_tup_end (HOk.to hH T₂) hit₁ ht₁ (by simp) (fun e he q=>?_) fun h₂ he₂ θ=>?_))
  · subst q
    rcases hH with hn' | ⟨e',oe,fe,he',hoe,_⟩
    · rw [hn'] at he;cases he
    · rw [he'] at he;cases he
      exact Nat.lt_irrefl _ (Heap.lt_size hoe)
  · simp only [Option.isSome_none,Bool.false_eq_true,if_false]
    have hnt₂:Turns { s with heap:=h₁ } s.heap.objs.size:=by
      obtain ⟨oi,hoi,hci,_⟩:=hit₁
      exact turns_cls hnt hoi hci (by decide)
    have T₃:To no s { s with heap:=h₂ }:=To.forget T₂ (X:=one s.heap.objs.size) (To.ext (s:={ s with heap:=h₁ }) (t:=s.toks) he₂ rfl hnt₂) fun l q=>by rw [q];exact newAt_ge (Nat.le_refl _)
    exact wpAny_pure (h vs _ T₃ (ba.to T₃))
theorem as_tuple (G:GW w s₁) {H:Shared->Prop} (hH:∀ s,H s->HOk A s) (hH2:∀ s s',H s->To X s s'->H s') {elts:List Expr} {k:Nat} {p:Pos} {ds:List D} {bs:List (Str × D)} (y:AsL w s₁ N A env X H ((assignEach elts env).map (·.2)) ds bs)
    (hst:(assignEach elts env).findIdx? (·.1)=none):As w s₁ N A env X H (assign (.Tuple elts k p) env) (.tup ds) bs:=fun sb ρ γ s v Q E h R b hQ=>by
  rw [arm_assign_Tuple]
  refine wpAny_bind (wpAny_standAt ?_)
  unfold unpack
  rw [hst]
  have hl:(assignEach elts env).length=ds.length:=by rw [← y.length,List.length_map]
  refine wpAny_bind (wpAny_holding (unpack_tup G hl b R.inv (hH s h) fun vs s' T ba=>?_))
  exact y.run hH2 (hH2 _ _ h T.of_no) (R.step T) ba fun s'' T' K' R'=>hQ s'' (T.of_no.trans T') ((Kp.of_to T).trans K') R'
theorem To.forget' {X Y:Loc->Prop} {s₀ s s':Shared} (x:To X s₀ s) (y:To Y s s') (h:∀ l,Y l->X l∨NewAt s₀ l):To X s₀ s':=
  ⟨fun b o hb ht e=>y.keep b o (fun q=>(h _ q).elim hb fun z=>by rw [show s₀.heap.get? b=none from z] at e;cases e) ht (x.keep b o hb ht e),fun P hP vs e=>by
    obtain ⟨m,e',r⟩:=x.tab P hP vs e
    obtain ⟨m',e'',r'⟩:=y.tab P hP _ e'
    exact ⟨m++m',by rw [← Array.append_assoc];exact e'',r.trans y.code r'⟩,fun b o hr e=>y.code b o hr (x.code b o hr e),fun g x' hg e=>y.gkeep g x' (fun q=>(h _ q).elim hg fun z=>by
      rw [show s₀.gens[g]?=none from z] at e;cases e) (x.gkeep g x' hg e),fun h=>y.bare (x.bare h),y.os.trans x.os⟩
theorem newAt_back {X:Loc->Prop} {s s':Shared} (ht:TabOk s) (x:To X s s') {l:Loc} (h:NewAt s' l):NewAt s l∨X l:=by
  by_cases hX:X l
  · exact .inr hX
  · refine .inl ?_
    cases l with
    | inl a=>
      show s.heap.get? a=none
      cases e:s.heap.get? a with
      | none=>rfl
      | some o=>
        have h':s'.heap.get? a=none:=h
        by_cases q:a∈tabs
        · obtain ⟨vs,ev⟩:=ht a q
          obtain ⟨m,e',_⟩:=x.tab a q vs ev
          rw [h'] at e';cases e'
        · have:=x.keep a o hX (fun z=>absurd z q) e
          rw [h'] at this;cases this
    | inr g=>
      show s.gens[g]?=none
      cases e:s.gens[g]? with
      | none=>rfl
      | some o=>
        have h':s'.gens[g]?=none:=h
        have:=x.gkeep g o hX e
        rw [h'] at this;cases this
theorem ns_there {s:Shared} {a:Addr} {m:Str->Option Value} (h:s.heap.Ns a m):¬ NewAt s (.inl a):=fun q=>by
  obtain ⟨o,es,ep,ho,_⟩:=h
  rw [show s.heap.get? a=none from q] at ho;cases ho
theorem cell_there {s:Shared} {a:Addr} {m:Option Value} (h:s.heap.IsCell a m):¬ NewAt s (.inl a):=fun q=>by
  obtain ⟨o,ho,_⟩:=h
  rw [show s.heap.get? a=none from q] at ho;cases ho
theorem own_there {sb s:Shared} (R:Rel s₁ N X sb env ρ γ s):∀ l,Own env l->¬ NewAt s l:=fun l h=>by
  rcases h with rfl | ⟨x,c,hk,hc,rfl⟩
  · obtain ⟨m,hm,_⟩:=R.ns
    exact ns_there hm
  · obtain ⟨c',ov,hc',hi,_⟩:=R.cel x _ hk (.inl rfl)
    rw [hc] at hc';cases hc'
    exact cell_there hi
theorem Rel.moved (G:GW w s₁) {sb sI s s':Shared} {ρ₀:List (Str × D)} {γ₀:List (D × Value)} {Y:Loc->Prop} (R₀:Rel s₁ N X sb env ρ₀ γ₀ sI) (R:Rel s₁ N X sI env ρ γ s) (T:To Y s s') (K:Kp s s') (hY:∀ l,Y l->NewAt sI l):Rel s₁ N X sI env ρ γ s' where
  inv:=R.inv.forget T fun l h=>At.of_new G R₀.inv (hY l h)
  to:=R.to.forget' T fun l h=>.inr (hY l h)
  xnew:=R.xnew
  xloc:=R.xloc
  ns:=by
    obtain ⟨m,h,k⟩:=R.ns
    obtain ⟨m₀,h₀,_⟩:=R₀.ns
    exact ⟨m,ns_to' T (fun q=>ns_there h₀ (hY _ q)) R.ltab h,fun y d hk hl=>let ⟨v,e,b⟩:=k y d hk hl;⟨v,e,K.k b⟩⟩
  cel:=fun y k hk hq=>by
    obtain ⟨c,ov,hc,⟨o,ho,hd⟩,ht,r⟩:=R.cel y k hk hq
    obtain ⟨c',ov',hc',hi',_⟩:=R₀.cel y k hk hq
    rw [hc] at hc';cases hc'
    exact ⟨c,ov,hc,⟨o,T.keep c o (fun q=>cell_there hi' (hY _ q)) (fun q=>absurd q ht) ho,hd⟩,ht,fun d hd=>let ⟨v,e,b⟩:=r d hd;⟨v,e,K.k b⟩⟩
  apart:=R.apart
  ltab:=R.ltab
  gh:=fun p hp=>K.k (R.gh p hp)
  nex:=fun a h q=>(newAt_back R.tabs T q).elim (R.nex a h) fun z=>R₀.nex a h (hY _ z)
  tabs:=R.tabs.to T
noncomputable def Frm (env:Env) (N:Addr->Prop) (X:Loc->Prop):Loc->Prop:=fun l=>X l∨(∃ x c k,env.kindOf x=some k∧(k=.cell∨k=.free)∧env.cells.lookup x=some c∧l=.inl c)∨∃ a,N a∧l=.inl a
theorem frm_there {sI s:Shared} (R:Rel s₁ N X sI env ρ γ s) (hX:∀ l,X l->¬ NewAt s l):∀ l,Frm env N X l->¬ NewAt s l:=fun l hl=>by
  rcases hl with hl | ⟨x,c,k,hk,hq,hc,rfl⟩ | ⟨a,ha,rfl⟩
  · exact hX l hl
  · obtain ⟨c',ov,hc',hi,_⟩:=R.cel x k hk hq
    rw [hc'] at hc;cases hc
    exact cell_there hi
  · exact R.nex a ha
theorem Rel.moved2 (G:GW w s₁) {sI s s':Shared} {Y:Loc->Prop} (H₀:At s₁ sI) (R:Rel s₁ N X sI env ρ γ s) (T:To Y s s') (K:Kp s s') (hY:∀ l,Y l->NewAt sI l) (hD:∀ l,Frm env N X l->¬ Y l):Rel s₁ N X sI env ρ γ s' where
  inv:=R.inv.forget T fun l h=>At.of_new G H₀ (hY l h)
  to:=R.to.forget' T fun l h=>.inr (hY l h)
  xnew:=R.xnew
  xloc:=R.xloc
  ns:=by
    obtain ⟨m,h,k⟩:=R.ns
    exact ⟨m,ns_to' T (hD _ (.inl R.xloc)) R.ltab h,fun y d hk hl=>let ⟨v,e,b⟩:=k y d hk hl;⟨v,e,K.k b⟩⟩
  cel:=fun y k hk hq=>by
    obtain ⟨c,ov,hc,⟨o,ho,hd⟩,ht,r⟩:=R.cel y k hk hq
    exact ⟨c,ov,hc,⟨o,T.keep c o (hD _ (.inr (.inl ⟨y,c,k,hk,hq,hc,rfl⟩))) (fun q=>absurd q ht) ho,hd⟩,ht,fun d hd=>let ⟨v,e,b⟩:=r d hd;⟨v,e,K.k b⟩⟩
  apart:=R.apart
  ltab:=R.ltab
  gh:=fun p hp=>K.k (R.gh p hp)
  nex:=fun a h q=>(newAt_back R.tabs T q).elim (R.nex a h) fun z=>hD _ (.inr (.inr ⟨a,h,rfl⟩)) z
  tabs:=R.tabs.to T
theorem for_run (G:GW w s₁) {n:Nat} {tg:Expr->Prop} (hA:Rm n A) (hh:A.handled=none) {target:Expr} (ht:tg target) {body orelse:List Stmt} {it:Value} {nd γ':List (D × Value)} (hnd:∀ p,p∈nd->p∈γ') {sI sb:Shared} {ρ₀:List (Str × D)} {γ₀:List (D × Value)} {Q:Flow->Shared->Prop}
    (R₀:Rel s₁ N X sb env ρ₀ γ₀ sI) (hXI:∀ l,X l->¬ NewAt sI l)
    (J:List D->List (Str × D)->Shared->Prop)
    (hJ:∀ ds ρ s s' Y,J ds ρ s->To Y s s'->Kp s s'->(∀ l,Y l->NewAt sI l)->J ds ρ s')
    (hX:∀ ds ρ s,J ds ρ s->Rel s₁ N X sI env ρ γ' s->∀ l,X l->¬ NewAt s l)
    (step:∀ d ds ρ s v,J (d::ds) ρ s->Rel s₁ N X s env ρ γ' s->To X sI s->Bears N s.heap d v->wpAny (Mo w) A (assign target env v) (fun θ s'=>Xs w A env body (fun fl s''=>match fl with
      | .next | .cont=>∃ ρ',J ds ρ' s''∧Rel s₁ N X s env ρ' γ' s''
      | .brk=>Q .next s''
      | .ret v=>Q (.ret v) s'') (fun θ θ=>False) s') (fun θ θ=>False) s)
    (fin:∀ ρ s,J [] ρ s->Rel s₁ N X sI env ρ γ' s->Xs w A env orelse Q (fun θ θ=>False) s) :
    ∀ (ds:List D) (ρ:List (Str × D)) (fp:Loc->Prop) (s:Shared),J ds ρ s->Rel s₁ N X sI env ρ γ' s->Yld w s₁ N n tg nd ds it fp s->(∀ l,fp l->NewAt sI l) ->
      codeAny (Mo w) A (.forLoop target it body orelse env) (fun r s'=>match r with | .ok f=>Q f s' | .error _=>False) s
  | [],ρ,fp,s,j,R,y,hn=>by
    refine codeAny_of_tree ?_
    show wpAny _ _ ((forTurn target it body orelse env).onRaise (fun x=>do noteFrame x env;theTreesLotGoes x)) _ _ s
    refine wpAny_noted ?_
    simp only [forTurn]
    refine wpAny_bind (wpAny_standAt (wpAny_bind (wpAny_onRaise (wpAny_mono (y A no s hA hh R.inv (To.refl _ _) (fun θ h=>h.elim) R.nex fun p hp=>R.gh p (hnd p hp)) (fun r s' h=>?_) fun θ θ h=>h.elim))))
    obtain ⟨rfl,T,K⟩:=h
    exact wpAny_pure ⟨rfl,codeAny_block (wpAny_mono (fin ρ s' (hJ _ _ _ _ fp j T K hn) (Rel.moved G R₀ R T K hn)).run (fun f s'' h=>h) fun θ θ h=>h.elim)⟩
  | d::ds,ρ,fp,s,j,R,y,hn=>by
    refine codeAny_of_tree ?_
    show wpAny _ _ ((forTurn target it body orelse env).onRaise (fun x=>do noteFrame x env;theTreesLotGoes x)) _ _ s
    refine wpAny_noted ?_
    simp only [forTurn]
    refine wpAny_bind (wpAny_standAt (wpAny_bind (wpAny_onRaise (wpAny_mono (y A no s hA hh R.inv (To.refl _ _) (fun θ h=>h.elim) R.nex fun p hp=>R.gh p (hnd p hp)) (fun r s' h=>?_) fun θ θ h=>h.elim))))
    obtain ⟨v,fp',rfl,T,K,hfp,b,lot⟩:=h
    have j':=hJ _ _ _ _ fp j T K hn
    have R':=Rel.moved G R₀ R T K hn
    have hn':∀ l,fp' l->NewAt sI l:=fun l h=>(hfp l h).elim (hn l) fun q=>(newAt_back (G.tabOk R₀.inv) R.to q).elim id fun hXl=>absurd q (hX _ _ _ j R l hXl)
    refine wpAny_bind (wpAny_mono (lot target ht) (fun θ s₃ h₃=>?_) fun θ θ h=>h.elim)
    obtain ⟨T₃,K₃,y₃⟩:=h₃
    have j₃:=hJ _ _ _ _ fp' j' T₃ K₃ hn'
    have R₃:=Rel.moved G R₀ R' T₃ K₃ hn'
    have hdis:Dis X fp':=fun l hl hf=>hXI l hl (hn' l hf)
    refine wpAny_bind (wpAny_mono (step d ds ρ s₃ v j₃ R₃.here R₃.to (K₃.k b)) (fun θ s₄ h₄=>wpAny_bind (wpAny_mono h₄.run (fun fl s₅ h₅=>?_) fun θ θ h=>h.elim)) fun θ θ h=>h.elim)
    have again_:(∃ ρ',J ds ρ' s₅∧Rel s₁ N X s₃ env ρ' γ' s₅)->codeAny (Mo w) A (.forLoop target it body orelse env) (fun r s'=>match r with | .ok f=>Q f s' | .error _=>False) s₅:=fun ⟨ρ',j₅,R₅⟩=>
      for_run G hA hh ht hnd R₀ hXI J hJ hX step fin ds ρ' fp' s₅ j₅ (R₃.back R₅) (y₃.frame R₅.to hdis) hn'
    cases fl with
    | next=>exact wpAny_pure ⟨rfl,again_ h₅⟩
    | cont=>exact wpAny_pure ⟨rfl,again_ h₅⟩
    | brk=>exact wpAny_pure h₅
    | ret v=>exact wpAny_pure h₅
structure EvIt (w:World) (s₁:Shared) (A:Around) (env:Env) (ρ:List (Str × D)) (n:Nat) (tg:Expr->Prop) (e:Expr) (ds:List D):Prop where
  run:∀ N X sb γ s,Rel s₁ N X sb env ρ γ s->wpAny (Mo w) A (eval e env) (fun v s'=>To no s s'∧Itb w s₁ N n tg ds s v s') (fun θ θ=>False) s
theorem evit_list (G:GW w s₁) {n:Nat} {tg:Expr->Prop} {e:Expr} {ds:List D} (x:Ev w s₁ A env ρ e (.lst ds)):EvIt w s₁ A env ρ n tg e ds:=⟨fun N X sb γ s R=>x.use R fun v s' T b=>⟨T,itb_list G T R.inv b⟩⟩
theorem evit_tup (G:GW w s₁) {n:Nat} {tg:Expr->Prop} {e:Expr} {ds:List D} (x:Ev w s₁ A env ρ e (.tup ds)):EvIt w s₁ A env ρ n tg e ds:=⟨fun N X sb γ s R=>x.use R fun v s' T b=>⟨T,itb_tup G T R.inv b⟩⟩
theorem evit_str (G:GW w s₁) {n:Nat} {tg:Expr->Prop} {e:Expr} {x:Str} (hx:x.cps.all (·<128)=true) (y:Ev w s₁ A env ρ e (.str x)):EvIt w s₁ A env ρ n tg e (chars x):=⟨fun N X sb γ s R=>y.use R fun v s' T b=>⟨T,itb_str G hx T R.inv b⟩⟩
theorem xs_for (G:GW w s₁) {n:Nat} {tg:Expr->Prop} (hA:Rm n A) (hh:A.handled=none) {target iter:Expr} (ht:tg target) {body orelse rest:List Stmt} {pos:Pos} {ds:List D} {sb s:Shared} {Q:Flow->Shared->Prop} {E:Value->Shared->Prop}
    (R:Rel s₁ N X sb env ρ γ s) (y:EvIt w s₁ A env ρ n tg iter ds) (hf:∀ x,foldedSetIterable iter env x=pure x) (hXI:∀ l,X l->¬ NewAt s l)
    (J:List D->List (Str × D)->Shared->Prop) (j₀:∀ s',To no s s'->J ds ρ s')
    (hJ:∀ ds ρ s' s'' Y,J ds ρ s'->To Y s' s''->Kp s' s''->(∀ l,Y l->NewAt s l)->J ds ρ s'')
    (hX:∀ γ' ds ρ s',J ds ρ s'->Rel s₁ N X s env ρ γ' s'->∀ l,X l->¬ NewAt s' l)
    (step:∀ γ' d ds ρ s' v,J (d::ds) ρ s'->Rel s₁ N X s' env ρ (γ'++γ) s'->To X s s'->Bears N s'.heap d v->wpAny (Mo w) A (assign target env v) (fun θ s₂=>Xs w A env body (fun fl s₃=>match fl with
      | .next | .cont=>∃ ρ',J ds ρ' s₃∧Rel s₁ N X s' env ρ' (γ'++γ) s₃
      | .brk=>Xs w A env rest Q E s₃
      | .ret v=>Q (.ret v) s₃) (fun θ θ=>False) s₂) (fun θ θ=>False) s')
    (fin:∀ γ' ρ s',J [] ρ s'->Rel s₁ N X s env ρ (γ'++γ) s'->Xs w A env orelse (fun fl s₃=>match fl with | .next=>Xs w A env rest Q E s₃ | f=>Q f s₃) (fun θ θ=>False) s') :
    Xs w A env (.For target iter body orelse pos::rest) Q E s:=by
  refine xs_cons ⟨wpAny_For (wpAny_mono (y.run N X sb γ s R) (fun v s' h=>?_) fun θ θ h=>h.elim) hf⟩
  obtain ⟨T,itb⟩:=h
  refine wpAny_mono (itb A hA hh (R.inv.trans T)) (fun it s₂ h=>?_) fun θ θ h=>h.elim
  obtain ⟨nd,fp,T₂,hfp,hnd,itr⟩:=h
  have R₂:Rel s₁ N X s env ρ (nd++γ) s₂:=((R.here.step T).step T₂).ghost hnd
  refine codeAny_mono (for_run G hA hh ht (γ':=nd++γ) (fun p hp=>List.mem_append_left _ hp) (Q:=fun f s'=>match f with | .next=>Xs w A env rest Q E s' | f=>Q f s') R hXI J hJ (hX (nd++γ)) (step nd) (fin nd) ds ρ fp s₂ (j₀ s₂ (T.trans T₂)) R₂ (itr N).yld fun l h=>(hfp l h).1) fun r s' h=>?_
  cases r with
  | ok f=>exact h
  | error e=>exact h.elim
end
noncomputable def closeFrom (cells:List (Str × Addr)):List (Str × NameKind)->List (Str × Addr)->List (Str × Addr)
  | [],acc=>acc
  | (n,k)::r,acc=>if k==.free then closeFrom cells r ((n,(cells.lookup n).getD 0)::acc) else closeFrom cells r acc
theorem closeFrom_look {cells:List (Str × Addr)}:∀ (names:List (Str × NameKind)) (acc:List (Str × Addr)) (x:Str) (c:Addr),(closeFrom cells names acc).lookup x=some c->((x,.free)∈names∧c=(cells.lookup x).getD 0)∨acc.lookup x=some c
  | [],_,_,_,h=>.inr h
  | (n,k)::r,acc,x,c,h=>by
    unfold closeFrom at h
    split at h
    · rename_i hk
      rcases closeFrom_look r _ x c h with ⟨h1,h2⟩ | h1
      · exact .inl ⟨List.mem_cons_of_mem _ h1,h2⟩
      · by_cases q:x=n
        · subst q
          rw [lookup_eq] at h1
          have:k=.free:=by simpa using hk
          subst this
          exact .inl ⟨List.mem_cons_self,(Option.some.inj h1).symm⟩
        · rw [lookup_ne q] at h1;exact .inr h1
    · rcases closeFrom_look r _ x c h with ⟨h1,h2⟩ | h1
      · exact .inl ⟨List.mem_cons_of_mem _ h1,h2⟩
      · exact .inr h1
theorem closeFrom_has {cells:List (Str × Addr)}:∀ (names:List (Str × NameKind)) (acc:List (Str × Addr)) (x:Str),((x,.free)∈names∨∃ c,acc.lookup x=some c)->∃ c,(closeFrom cells names acc).lookup x=some c
  | [],_,_,h=>h.elim (fun q=>nomatch q) id
  | (n,k)::r,acc,x,h=>by
    unfold closeFrom
    split
    · rename_i hk
      refine closeFrom_has r _ x ?_
      by_cases q:x=n
      · subst q;exact .inr ⟨_,lookup_eq⟩
      · refine h.imp (fun m=>?_) fun ⟨c,e⟩=>⟨c,by rw [lookup_ne q];exact e⟩
        rcases List.mem_cons.mp m with z | z
        · cases z;exact absurd rfl q
        · exact z
    · rename_i hk
      refine closeFrom_has r _ x (h.imp (fun m=>?_) id)
      rcases List.mem_cons.mp m with z | z
      · cases z;exact absurd rfl hk
      · exact z
section
variable {M:Model} {A:Around} {E:Value->Shared->Prop} {s:Shared} {env:Env}
theorem closure_for {scope:Scope} {Q:List (Str × Addr)->Shared->Prop} (hc:∀ x,(x,NameKind.free)∈scope.names->∃ c,env.cells.lookup x=some c) (h:Q (closeFrom env.cells scope.names []) s):wpAny M A (closureFor scope env) Q E s:=by
  have key:∀ (names:List (Str × NameKind)) (acc:List (Str × Addr)) (Q:List (Str × Addr)->Shared->Prop),(∀ x,(x,NameKind.free)∈names->∃ c,env.cells.lookup x=some c)->Q (closeFrom env.cells names acc) s ->
      wpAny M A (forIn names acc fun (p:Str × NameKind) (cs:List (Str × Addr))=>(do
        if p.2==.free then do let c ← cellOf env p.1;pure (ForInStep.yield ((p.1,c)::cs)) else pure (ForInStep.yield cs):Sem (ForInStep (List (Str × Addr))))) Q E s:=by
    intro names
    induction names with
    | nil=>intro acc Q _ hq;rw [List.forIn_nil];exact wpAny_pure hq
    | cons p r ih=>
      intro acc Q hn hq
      obtain ⟨n,k⟩:=p
      rw [List.forIn_cons]
      unfold closeFrom at hq
      by_cases hk:(k==.free)=true
      · rw [if_pos hk] at hq
        have hkf:k=.free:=by simpa using hk
        subst hkf
        obtain ⟨c,hcc⟩:=hn n List.mem_cons_self
        rw [hcc] at hq
        refine wpAny_bind ?_
        show wpAny M A (if (NameKind.free==NameKind.free)=true then _ else _) _ E s
        rw [if_pos hk]
        exact wpAny_bind (wpAny_cellOf hcc (wpAny_pure (ih _ Q (fun x hx=>hn x (List.mem_cons_of_mem _ hx)) hq)))
      · rw [if_neg hk] at hq
        refine wpAny_bind ?_
        show wpAny M A (if (k==NameKind.free)=true then _ else _) _ E s
        rw [if_neg hk]
        exact wpAny_pure (ih _ Q (fun x hx=>hn x (List.mem_cons_of_mem _ hx)) hq)
  unfold closureFor
  refine wpAny_bind ?_
  exact key scope.names [] (fun cs s'=>wpAny M A (pure cs) Q E s') hc (wpAny_pure h)
end
theorem cells_look {h:Heap}:∀ (names:List (Str × NameKind)) (h:Heap) (acc:List (Str × Addr)) (x:Str) (c:Addr),(cellsFrom h.objs.size names acc).lookup x=some c ->
    ((x,.cell)∈names∧(pushCells h names).IsCell c none∧h.objs.size≤c)∨acc.lookup x=some c
  | [],_,_,_,_,e=>.inr e
  | (n,k)::r,h,acc,x,c,e=>by
    unfold cellsFrom at e
    unfold pushCells
    split at e
    · rename_i hk
      rw [if_pos hk]
      have ih:=cells_look (h:=h) r (h.push { cls:=.type "cell", data:=.cell none }) ((n,h.objs.size)::acc) x c (by rw [Heap.size_push];exact e)
      rcases ih with ⟨h1,h2,h3⟩ | h1
      · refine .inl ⟨List.mem_cons_of_mem _ h1,h2,?_⟩
        rw [Heap.size_push] at h3;omega
      · by_cases q:x=n
        · subst q
          rw [lookup_eq] at h1
          have hkc:k=.cell:=by simpa using hk
          subst hkc
          cases h1
          refine .inl ⟨List.mem_cons_self,?_,Nat.le_refl _⟩
          exact ⟨_,pushCells_keeps r _ _ _ (Heap.get?_push_size _ rfl),rfl⟩
        · rw [lookup_ne q] at h1;exact .inr h1
    · rename_i hk
      rw [if_neg hk]
      rcases cells_look (h:=h) r h acc x c e with ⟨h1,h2⟩ | h1
      · exact .inl ⟨List.mem_cons_of_mem _ h1,h2⟩
      · exact .inr h1
theorem cells_apart:∀ (names:List (Str × NameKind)) (n:Nat) (acc:List (Str × Addr)),(∀ x y c,acc.lookup x=some c->acc.lookup y=some c->x=y)->(∀ x c,acc.lookup x=some c->c<n) ->
    ∀ x y c,(cellsFrom n names acc).lookup x=some c->(cellsFrom n names acc).lookup y=some c->x=y
  | [],_,_,h,_,x,y,c,e,e'=>h x y c e e'
  | (m,k)::r,n,acc,h,hb,x,y,c,e,e'=>by
    unfold cellsFrom at e e'
    split at e
    · rename_i hk
      rw [if_pos hk] at e'
      refine cells_apart r (n+1) ((m,n)::acc) (fun x y c e e'=>?_) (fun x c e=>?_) x y c e e'
      · by_cases qx:x=m
        · by_cases qy:y=m
          · rw [qx,qy]
          · subst qx
            rw [lookup_eq] at e;cases e
            rw [lookup_ne qy] at e'
            exact absurd (hb _ _ e') (Nat.lt_irrefl _)
        · rw [lookup_ne qx] at e
          by_cases qy:y=m
          · subst qy
            rw [lookup_eq] at e';cases e'
            exact absurd (hb _ _ e) (Nat.lt_irrefl _)
          · rw [lookup_ne qy] at e'
            exact h x y c e e'
      · by_cases qx:x=m
        · subst qx;rw [lookup_eq] at e;cases e;exact Nat.lt_succ_self _
        · rw [lookup_ne qx] at e;exact Nat.lt_succ_of_lt (hb _ _ e)
    · rename_i hk
      rw [if_neg hk] at e'
      exact cells_apart r n acc h hb x y c e e'
noncomputable def compScope (scope:Scope) (env:Env):Scope:={ scope with names:=scope.names.map fun (n,k)=>if k==.free&&env.scope.kind==.function&&env.kindOf n==some .cell then (n,.cell) else (n,k) }
noncomputable def compEnv (scope:Scope) (env:Env) (C:Addr) (cells:List (Str × Addr)):Env:=
  { scope:=compScope scope env,locals:=C,globals:=env.globals,cells:=cells,qual:=env.qual,func:=none,code:=env.code,frame:=env.frame,builtins:=env.builtins }
theorem map_look {f:Str × NameKind->NameKind}:∀ (names:List (Str × NameKind)) (x:Str),(names.map fun p=>(p.1,f p)).lookup x=(names.lookup x).map fun k=>f (x,k)
  | [],_=>rfl
  | (n,k)::r,x=>by
    rw [List.map_cons]
    by_cases q:x=n
    · subst q;rw [lookup_eq,lookup_eq];rfl
    · rw [lookup_ne q,lookup_ne q];exact map_look r x
theorem comp_kind {scope:Scope} {env:Env} {C:Addr} {cells:List (Str × Addr)} (x:Str):(compEnv scope env C cells).kindOf x=(scope.names.lookup x).map fun k=>if k==.free&&env.scope.kind==.function&&env.kindOf x==some .cell then .cell else k:=by
  show List.lookup x (scope.names.map fun (n,k)=>if k==.free&&env.scope.kind==.function&&env.kindOf n==some .cell then (n,.cell) else (n,k))=_
  rw [← map_look (f:=fun p=>if p.2==.free&&env.scope.kind==.function&&env.kindOf p.1==some .cell then .cell else p.2)]
  congr 1
  apply List.map_congr_left
  intro p _
  obtain ⟨n,k⟩:=p
  show (if _ then _ else _)=_
  split<;>simp_all
noncomputable def capt (scope:Scope) (ρ:List (Str × D)):List (Str × D):=ρ.filter fun p=>scope.names.lookup p.1==some .free
theorem capt_look {scope:Scope}:∀ {ρ:List (Str × D)} {x:Str} {d:D},(capt scope ρ).lookup x=some d->ρ.lookup x=some d∧scope.names.lookup x=some .free
  | [],_,_,h=>by cases h
  | (n,e)::r,x,d,h=>by
    unfold capt at h
    rw [List.filter_cons] at h
    by_cases q:x=n
    · subst q
      by_cases hf:(scope.names.lookup x==some .free)=true
      · rw [if_pos hf,lookup_eq] at h
        exact ⟨by rw [lookup_eq];exact h,by simpa using hf⟩
      · rw [if_neg hf] at h
        have:=(capt_look (scope:=scope) h).2
        rw [this] at hf;exact absurd rfl hf
    · rw [lookup_ne q]
      split at h
      · rw [lookup_ne q] at h;exact capt_look h
      · exact capt_look h
noncomputable def Xc (scope:Scope) (C acc:Addr) (cells:List (Str × Addr)):Loc->Prop:=fun l=>l=.inl C∨l=.inl acc∨∃ x c,scope.names.lookup x=some .cell∧cells.lookup x=some c∧l=.inl c
theorem comp_rel {w:World} {s₁:Shared} (G:GW w s₁) {A:Around} {N:Addr->Prop} {X:Loc->Prop} {sb s s':Shared} {env:Env} {ρ:List (Str × D)} {γ:List (D × Value)} {scope:Scope} {acc:Addr} (R:Rel s₁ N X sb env ρ γ s) (T:To no s s') (nacc:NewAt s (.inl acc)) (hacc:∃ o,s'.heap.get? acc=some o)
    (hk:scope.kind=.function) (hfr:∀ x,(x,NameKind.free)∈scope.names->env.kindOf x=some .cell∨env.kindOf x=some .free)
    (hnd:∀ x k,(x,k)∈scope.names->scope.names.lookup x=some k) {Q:Env->Shared->Prop} {E:Value->Shared->Prop}
    (h:∀ C cells s'',To no s s''->NewAt s (.inl C)->(∀ l,Xc scope C acc cells l->NewAt s l)->(∀ o,s'.heap.get? acc=some o->s''.heap.get? acc=some o)->Rel s₁ (orN N acc) (Xc scope C acc cells) s'' (compEnv scope env C cells) (capt scope ρ) γ s'' ->
      (∀ l,Xc scope C acc cells l->¬ NewAt s'' l)->(∀ x c,cells.lookup x=some c->NewAt s (.inl c)∨((x,NameKind.free)∈scope.names∧env.cells.lookup x=some c)) ->
      Q { scope:=scope,locals:=C,globals:=env.globals,cells:=cells,qual:=env.qual,func:=none,code:=env.code,frame:=env.frame,builtins:=env.builtins } s'') :
    wpAny (Mo w) A (newFunctionEnv scope env.globals (closeFrom env.cells scope.names []) [] env.qual none .none (some env)) Q E s':=by
  have R':=R.step T
  simp only [newFunctionEnv,Option.isSome_some,if_true]
  refine wpAny_bind (wpAny_alloc ?_)
  refine wpAny_bind (wpAny_layCells _ (fun name kind cells=>by cases hkc:kind==NameKind.cell<;>simp) _ _ _ _ ?_)
  rw [show ({ s' with heap:=s'.heap.push { cls:=.type "dict", data:=.dict #[] } }:Shared).heap.objs.size=s'.heap.objs.size+1 from Heap.size_push ..]
  rw [List.forIn_nil]
  refine wpAny_bind (wpAny_pure ?_)
  refine wpAny_pure ?_
  have keeps:∀ b o,s'.heap.get? b=some o->(pushCells (s'.heap.push { cls:=.type "dict", data:=.dict #[] }) scope.names).get? b=some o:=fun b o e=>pushCells_keeps _ _ _ _ (Heap.get?_push_of_some _ e)
  have T':To no s' { s' with heap:=pushCells (s'.heap.push { cls:=.type "dict", data:=.dict #[] }) scope.names }:=To.heap keeps
  have T₂:=T.trans T'
  have hC:(pushCells (s'.heap.push { cls:=.type "dict", data:=.dict #[] }) scope.names).Ns s'.heap.objs.size fun θ=>none:=(Heap.Ns.new s'.heap (.type "dict")).keeps (pushCells_keeps _ _)
  have look:∀ x c,(cellsFrom (s'.heap.objs.size+1) scope.names (closeFrom env.cells scope.names [])).lookup x=some c ->
      ((x,NameKind.cell)∈scope.names∧(pushCells (s'.heap.push { cls:=.type "dict", data:=.dict #[] }) scope.names).IsCell c none∧s'.heap.objs.size<c)∨((x,NameKind.free)∈scope.names∧env.cells.lookup x=some c):=fun x c e=>by
    have:=cells_look (h:=s'.heap) scope.names (s'.heap.push { cls:=.type "dict", data:=.dict #[] }) (closeFrom env.cells scope.names []) x c (by rw [Heap.size_push];exact e)
    rcases this with ⟨h1,h2,h3⟩ | h1
    · rw [Heap.size_push] at h3;exact .inl ⟨h1,h2,by omega⟩
    · rcases closeFrom_look _ _ _ _ h1 with ⟨h2,h3⟩ | h2
      · refine .inr ⟨h2,?_⟩
        obtain ⟨c',ov,hc',_⟩:=(hfr x h2).elim (fun q=>R.cel x _ q (.inl rfl)) fun q=>R.cel x _ q (.inr rfl)
        rw [hc'] at h3 ⊢;exact congrArg some h3.symm
      · cases h2
  have hnew:∀ l,Xc scope s'.heap.objs.size acc (cellsFrom (s'.heap.objs.size+1) scope.names (closeFrom env.cells scope.names [])) l->NewAt s l:=fun l hl=>by
    rcases hl with rfl | rfl | ⟨x,c,hx,hc,rfl⟩
    · exact NewAt.to R.tabs T (newAt_ge (Nat.le_refl _))
    · exact nacc
    · rcases look x c hc with ⟨_,_,h3⟩ | ⟨h1,_⟩
      · exact NewAt.to R.tabs T (newAt_ge (Nat.le_of_lt h3))
      · rw [hnd x _ h1] at hx;cases hx
  refine h s'.heap.objs.size (cellsFrom (s'.heap.objs.size+1) scope.names (closeFrom env.cells scope.names [])) _ T₂ (NewAt.to R.tabs T (newAt_ge (Nat.le_refl _))) hnew (fun o e=>keeps _ _ e) ?_ (fun l hl=>?_) fun x c e=>(look x c e).imp (fun ⟨_,_,h3⟩=>NewAt.to R.tabs T (newAt_ge (Nat.le_of_lt h3))) id
  · refine ⟨R.inv.trans T₂,To.refl _ _,fun l hl=>At.of_new G R.inv (hnew l hl),.inl rfl,⟨_,hC,fun x d hkx hd=>?_⟩,fun x k hkx hq=>?_,fun x y c hx hy=>?_,fun q=>?_,fun p hp=>((R.gh p hp).more nacc).to T₂,?_,R.tabs.to T₂⟩
    · have:=(capt_look hd).2
      rw [comp_kind,this] at hkx
      simp at hkx
      split at hkx<;>cases hkx
    · rw [comp_kind] at hkx
      cases hl:scope.names.lookup x with
      | none=>rw [hl] at hkx;cases hkx
      | some k₀=>
        rw [hl] at hkx
        have hmem:=mem_of_lookup hl
        have hk₀:k₀=.cell∨k₀=.free:=by
          simp only [Option.map_some,Option.some.injEq] at hkx
          split at hkx
          · rename_i z;simp at z;exact .inr z.1.1
          · subst hkx;exact hq
        rcases hk₀ with rfl | rfl
        · obtain ⟨c,hc⟩:=cellsFrom_has scope.names (s'.heap.objs.size+1) (closeFrom env.cells scope.names []) (.inl hl)
          rcases look x c hc with ⟨_,h2,h3⟩ | ⟨h1,_⟩
          · refine ⟨c,none,hc,h2,fun q=>?_,fun d hd=>?_⟩
            · obtain ⟨us,e⟩:=R'.tabs c q
              exact Nat.lt_irrefl _ (Nat.lt_trans h3 (Heap.lt_size e))
            · have:=(capt_look hd).2;rw [hl] at this;cases this
          · rw [hnd x _ h1] at hl;cases hl
        · obtain ⟨c',hc'⟩:=closeFrom_has (cells:=env.cells) scope.names [] x (.inl hmem)
          obtain ⟨c,hc⟩:=cellsFrom_has scope.names (s'.heap.objs.size+1) (closeFrom env.cells scope.names []) (.inr ⟨c',hc'⟩)
          rcases look x c hc with ⟨h1,_⟩ | ⟨_,h2⟩
          · rw [hnd x _ h1] at hl;cases hl
          · obtain ⟨c₂,ov,hc₂,hi,ht,r⟩:=(hfr x hmem).elim (fun q=>R.cel x _ q (.inl rfl)) fun q=>R.cel x _ q (.inr rfl)
            rw [h2] at hc₂;cases hc₂
            refine ⟨c,ov,hc,cell_to T₂ ht hi,ht,fun d hd=>?_⟩
            obtain ⟨v,e,b⟩:=r d (capt_look hd).1
            exact ⟨v,e,(b.more nacc).to T₂⟩
    · refine cells_apart scope.names (s'.heap.objs.size+1) (closeFrom env.cells scope.names []) (fun x y c e e'=>?_) (fun x c e=>?_) x y c hx hy
      · rcases closeFrom_look _ _ _ _ e with ⟨h2,h3⟩ | h2
        · rcases closeFrom_look _ _ _ _ e' with ⟨h2',h3'⟩ | h2'
          · obtain ⟨c₁,ov,hc₁,_⟩:=(hfr x h2).elim (fun q=>R.cel x _ q (.inl rfl)) fun q=>R.cel x _ q (.inr rfl)
            obtain ⟨c₂,ov₂,hc₂,_⟩:=(hfr y h2').elim (fun q=>R.cel y _ q (.inl rfl)) fun q=>R.cel y _ q (.inr rfl)
            rw [hc₁] at h3;rw [hc₂] at h3'
            have e1:c=c₁:=h3
            have e2:c=c₂:=h3'
            exact R.apart x y c (by rw [hc₁,e1]) (by rw [hc₂,e2])
          · cases h2'
        · cases h2
      · rcases closeFrom_look _ _ _ _ e with ⟨h2,h3⟩ | h2
        · obtain ⟨c₁,ov,hc₁,hi,_⟩:=(hfr x h2).elim (fun q=>R'.cel x _ q (.inl rfl)) fun q=>R'.cel x _ q (.inr rfl)
          rw [hc₁] at h3
          have e1:c=c₁:=h3
          rw [e1];exact Nat.lt_succ_of_lt hi.lt
        · cases h2
    · obtain ⟨us,e⟩:=R'.tabs _ q
      exact Nat.lt_irrefl _ (Heap.lt_size e)
    · intro a ha
      rcases ha with ha | rfl
      · exact (R.nex.to R.tabs T₂) a ha
      · obtain ⟨o,ho⟩:=hacc
        intro q
        have:=keeps _ _ ho
        rw [show (pushCells (s'.heap.push { cls:=.type "dict", data:=.dict #[] }) scope.names).get? a=none from q] at this
        cases this
  · rcases hl with rfl | rfl | ⟨x,c,hx,hc,rfl⟩
    · exact ns_there hC
    · obtain ⟨o,ho⟩:=hacc
      intro q
      have:=keeps _ _ ho
      rw [show (pushCells (s'.heap.push { cls:=.type "dict", data:=.dict #[] }) scope.names).get? _=none from q] at this
      cases this
    · rcases look x c hc with ⟨_,h2,_⟩ | ⟨h1,_⟩
      · exact cell_there h2
      · rw [hnd x _ h1] at hx;cases hx
noncomputable def Out (N:Addr->Prop) (acc:Addr) (done:List D) (s:Shared):Prop:=∃ us:List Value,Lst s.heap acc us∧BearsAll N s.heap done us
theorem Out.to {N:Addr->Prop} {acc:Addr} {done:List D} {s s':Shared} (x:Out N acc done s) (T:To no s s'):Out N acc done s':=
  let ⟨us,⟨m,ho⟩,b⟩:=x
  ⟨us,⟨m,T.keep acc _ id (fun θ q=>by cases q) ho⟩,b.to T⟩
theorem Out.kp {N:Addr->Prop} {acc:Addr} {done:List D} {s s':Shared} {Y:Loc->Prop} (x:Out N acc done s) (T:To Y s s') (K:Kp s s') (hY:¬ Y (.inl acc)):Out N acc done s':=
  let ⟨us,⟨m,ho⟩,b⟩:=x
  ⟨us,⟨m,T.keep acc _ hY (fun θ q=>by cases q) ho⟩,K.all b⟩
section
variable {w:World} {s₁:Shared} {N:Addr->Prop} {A:Around} {env:Env} {ρ:List (Str × D)} {X:Loc->Prop}
theorem comp_loop (G:GW w s₁) {n:Nat} {tg:Expr->Prop} (hA:Rm n A) (hh:A.handled=none) {elt target:Expr} (ht:tg target) {gens:List Comprehension} {scope:Scope} {pos p:Pos} {depth:Nat} {acc:Addr} {it:Value} {nd γ:List (D × Value)} (hnd:∀ q,q∈nd->q∈γ) {sI:Shared}
    (H₀:At s₁ sI) (hX:∀ γ ρ s done,Rel s₁ N X sI env ρ γ s->Out N acc done s->∀ l,X l->¬ NewAt s l) (hacc:X (.inl acc))
    (f:D->List D) (P:D->Prop) (tail:Sem Fin)
    (hshape:compTurn (.ListComp elt gens scope pos) depth it (.ref acc) env=(standAt p >>= fun θ=>pyNext it >>= fun r=>match r with
      | none=>pure (.done .next)
      | some v=>letOwnedTupleGo target it v >>= fun θ=>assign target env v >>= fun θ=>tail))
    (hturn:∀ d sb s v done,P d->done.length+(f d).length≤sizeLine->Rel s₁ N X sb env ρ γ s->Bears N s.heap d v->Out N acc done s->wpAny (Mo w) A (assign target env v) (fun θ s'=>wpAny (Mo w) A tail (fun fin s''=>fin=.again (.compLoop (.ListComp elt gens scope pos) depth it (.ref acc) env)∧Out N acc (done++f d) s''∧Rel s₁ N X sb env ρ γ s'') (fun θ θ=>False) s') (fun θ θ=>False) s) :
    ∀ (ds done:List D) (fp:Loc->Prop) (s:Shared),(∀ d,d∈ds->P d)->done.length+(ds.flatMap f).length≤sizeLine->Rel s₁ N X sI env ρ γ s->Out N acc done s->Yld w s₁ N n tg nd ds it fp s->(∀ l,fp l->NewAt sI l)->(∀ l,Frm env N X l->¬ fp l) ->
      codeAny (Mo w) A (.compLoop (.ListComp elt gens scope pos) depth it (.ref acc) env) (fun r s'=>r=.ok .next∧Out N acc (done++ds.flatMap f) s'∧Rel s₁ N X sI env ρ γ s') s
  | [],done,fp,s,hP,hK,R,o,y,hn,hd=>by
    refine codeAny_of_tree ?_
    show wpAny _ _ ((compTurn (.ListComp elt gens scope pos) depth it (.ref acc) env).onRaise (fun x=>do noteFrame x env;theTreesLotGoes x)) _ _ s
    refine wpAny_noted ?_
    rw [hshape]
    refine wpAny_bind (wpAny_standAt (wpAny_bind (wpAny_mono (y A no s hA hh R.inv (To.refl _ _) (fun θ h=>h.elim) R.nex fun q hq=>R.gh q (hnd q hq)) (fun r s' h=>?_) fun θ θ h=>h.elim)))
    obtain ⟨rfl,T,K⟩:=h
    exact wpAny_pure ⟨rfl,by simpa using o.kp T K (hd _ (.inl hacc)),Rel.moved2 G H₀ R T K hn hd⟩
  | d::ds,done,fp,s,hP,hK,R,o,y,hn,hd=>by
    rw [List.flatMap_cons,List.length_append] at hK
    refine codeAny_of_tree ?_
    show wpAny _ _ ((compTurn (.ListComp elt gens scope pos) depth it (.ref acc) env).onRaise (fun x=>do noteFrame x env;theTreesLotGoes x)) _ _ s
    refine wpAny_noted ?_
    rw [hshape]
    refine wpAny_bind (wpAny_standAt (wpAny_bind (wpAny_mono (y A no s hA hh R.inv (To.refl _ _) (fun θ h=>h.elim) R.nex fun q hq=>R.gh q (hnd q hq)) (fun r s' h=>?_) fun θ θ h=>h.elim)))
    obtain ⟨v,fp',rfl,T,K,hfp,b,lot⟩:=h
    have R':=Rel.moved2 G H₀ R T K hn hd
    have hn':∀ l,fp' l->NewAt sI l:=fun l h=>(hfp l h).elim (hn l) fun q=>(newAt_back (G.tabOk H₀) R.to q).elim id fun hXl=>absurd q (hX _ _ _ _ R o l hXl)
    have hd':∀ l,Frm env N X l->¬ fp' l:=fun l h q=>(hfp l q).elim (hd l h) fun z=>frm_there R (hX _ _ _ _ R o) l h z
    refine wpAny_bind (wpAny_mono (lot target ht) (fun θ s₃ h₃=>?_) fun θ θ h=>h.elim)
    obtain ⟨T₃,K₃,y₃⟩:=h₃
    have R₃:=Rel.moved2 G H₀ R' T₃ K₃ hn' hd'
    have o₃:=(o.kp T K (hd _ (.inl hacc))).kp T₃ K₃ (hd' _ (.inl hacc))
    have hdis:Dis X fp':=fun l hl hf=>hd' l (.inl hl) hf
    refine wpAny_bind (wpAny_mono (hturn d s₃ s₃ v done (hP d List.mem_cons_self) (by omega) R₃.here (K₃.k b) o₃) (fun θ s₄ h₄=>wpAny_mono h₄ (fun fin s₅ h₅=>?_) fun θ θ h=>h.elim) fun θ θ h=>h.elim)
    obtain ⟨rfl,o₅,R₅⟩:=h₅
    refine ⟨rfl,codeAny_mono (comp_loop G hA hh ht hnd H₀ hX hacc f P tail hshape hturn ds (done++f d) fp' s₅ (fun x hx=>hP x (List.mem_cons_of_mem _ hx)) (by rw [List.length_append];omega) (R₃.back R₅) o₅ (y₃.frame R₅.to hdis) hn' hd') fun r s' h=>?_⟩
    rw [List.append_assoc] at h
    exact h
end
theorem closure_eq {env:Env} {scope:Scope} (hc:∀ x,(x,NameKind.free)∈scope.names->∃ c,env.cells.lookup x=some c):closureFor scope env=pure (closeFrom env.cells scope.names []):=by
  have key:∀ (names:List (Str × NameKind)) (acc:List (Str × Addr)),(∀ x,(x,NameKind.free)∈names->∃ c,env.cells.lookup x=some c) ->
      (forIn names acc fun (p:Str × NameKind) (cs:List (Str × Addr))=>(do
        if p.2==.free then do let c ← cellOf env p.1;pure (ForInStep.yield ((p.1,c)::cs)) else pure (ForInStep.yield cs):Sem (ForInStep (List (Str × Addr)))))=pure (closeFrom env.cells names acc):=by
    intro names
    induction names with
    | nil=>intro acc _;rfl
    | cons p r ih=>
      intro acc hn
      obtain ⟨n,k⟩:=p
      rw [List.forIn_cons]
      unfold closeFrom
      by_cases hk:(k==.free)=true
      · have hkf:k=.free:=by simpa using hk
        subst hkf
        obtain ⟨c,hcc⟩:=hn n List.mem_cons_self
        have e:cellOf env n=pure c:=by unfold cellOf;rw [hcc]
        rw [if_pos hk,if_pos hk,e,hcc]
        exact ih _ (fun x hx=>hn x (List.mem_cons_of_mem _ hx))
      · rw [if_neg hk,if_neg hk]
        exact ih _ (fun x hx=>hn x (List.mem_cons_of_mem _ hx))
  have e:=key scope.names [] hc
  exact congrArg (fun m:Sem (List (Str × Addr))=>m >>= fun cs=>pure cs) e
structure ScOk (scope:Scope) (env:Env):Prop where
  k:scope.kind=.function
  fr:∀ x,(x,NameKind.free)∈scope.names->env.kindOf x=some .cell∨env.kindOf x=some .free
  nd:∀ x k,(x,k)∈scope.names->scope.names.lookup x=some k
noncomputable def scOk (scope:Scope) (names:List (Str × NameKind)):Bool:=
  scope.kind==.function&&scope.names.all (fun p=>scope.names.lookup p.1==some p.2&&(p.2 != .free||names.lookup p.1==some .cell||names.lookup p.1==some .free))
theorem ScOk.of {scope:Scope} {env:Env} (h:scOk scope env.scope.names=true):ScOk scope env:=by
  unfold scOk at h
  rw [Bool.and_eq_true,List.all_eq_true] at h
  refine ⟨by simpa using h.1,fun x hx=>?_,fun x k hx=>?_⟩
  · have:=h.2 _ hx
    simp only [Bool.and_eq_true,Bool.or_eq_true,bne_self_eq_false,Bool.false_eq_true,false_or,beq_iff_eq] at this
    exact this.2
  · have:=h.2 _ hx
    simp only [Bool.and_eq_true,beq_iff_eq] at this
    exact this.1
section
variable {w:World} {s₁:Shared} {N:Addr->Prop} {A:Around} {env:Env} {ρ:List (Str × D)} {γ:List (D × Value)} {X:Loc->Prop}
theorem comp_there {scope:Scope} {C acc:Addr} {cells:List (Str × Addr)} {sI s:Shared} {ρ':List (Str × D)} {done:List D} (nd:∀ x k,(x,k)∈scope.names->scope.names.lookup x=some k)
    (R:Rel s₁ N (Xc scope C acc cells) sI (compEnv scope env C cells) ρ' γ s) (o:Out N acc done s):∀ l,Xc scope C acc cells l->¬ NewAt s l:=fun l hl=>by
  rcases hl with rfl | rfl | ⟨x,c,hx,hc,rfl⟩
  · obtain ⟨m,hm,_⟩:=R.ns
    exact ns_there hm
  · obtain ⟨us,⟨m,ho⟩,_⟩:=o
    intro q
    rw [show s.heap.get? _=none from q] at ho;cases ho
  · have hk:(compEnv scope env C cells).kindOf x=some .cell:=by rw [comp_kind,hx];rfl
    obtain ⟨c',ov,hc',hi,_⟩:=R.cel x _ hk (.inl rfl)
    have:(compEnv scope env C cells).cells.lookup x=some c:=hc
    rw [hc'] at this;cases this
    exact cell_there hi
theorem comp_start {elt:Expr} {gens:List Comprehension} {scope:Scope} {pos:Pos} {g:Comprehension} {depth:Nat} {it acc:Value} {env':Env} {R:Result->Shared->Prop} {s:Shared} (hg:gens[depth]?=some g) (ha:g.is_async=0)
    (h0:codeAny (Mo w) A (.compLoop (.ListComp elt gens scope pos) depth it acc env') R s)
    (h:wpAny (Mo w) A (pyIter it) (fun it' s'=>codeAny (Mo w) A (.compLoop (.ListComp elt gens scope pos) depth it' acc env') R s') (fun θ θ=>False) s) :
    codeAny (Mo w) A (.compStart (.ListComp elt gens scope pos) depth it acc env') R s:=by
  refine codeAny_of_tree ?_
  show wpAny _ _ ((compStart (.ListComp elt gens scope pos) depth it acc env').onRaise (fun x=>do noteFrame x env';standAt theWindowsPlace)) _ _ s
  refine wpAny_notedAt ?_
  unfold compStart
  have hg':(clausesOf (.ListComp elt gens scope pos))[depth]?=some g:=hg
  rw [hg']
  show wpAny _ _ (if (g.is_async != 0)=true then _ else _) _ _ s
  rw [ha]
  show wpAny _ _ (ask >>= _) _ _ s
  refine wpAny_bind (wpAny_askSetting (wpAny_ite ?_))
  split
  · first
      | exact wpAny_bind (wpAny_pure (wpAny_pure (And.intro rfl h0)))
      | exact wpAny_pure (And.intro rfl h0)
  · first
      | exact wpAny_bind (wpAny_rule (wpAny_bind (wpAny_standAt (wpAny_bind (wpAny_mono h (fun it' s' h'=>wpAny_pure (And.intro rfl h')) fun θ θ x=>x.elim)))))
      | exact wpAny_rule (wpAny_bind (wpAny_standAt (wpAny_bind (wpAny_mono h (fun it' s' h'=>wpAny_pure (And.intro rfl h')) fun θ θ x=>x.elim))))
noncomputable def turnOf (p:Pos) (it:Value) (target:Expr) (env:Env) (tail:Sem Fin):Sem Fin:=(standAt p >>= fun θ=>pyNext it >>= fun r=>match r with
      | none=>pure (.done .next)
      | some v=>letOwnedTupleGo target it v >>= fun θ=>assign target env v >>= fun θ=>tail)
noncomputable def emitOf (elt:Expr) (acc:Addr) (env:Env):Sem Unit:=eval elt env >>= fun v=>call (.builtin "list.append") [.ref acc,v] >>= fun θ=>pure ()
theorem comp_code (G:GW w s₁) {n:Nat} (hA:Rm n A) (hh:A.handled=none) {elt target iter:Expr} {ifs:List Expr} {rest:List Comprehension} {scope:Scope} {pos:Pos} {ds:List D} {tg:Expr->Prop} (y:EvIt w s₁ A env ρ n tg iter ds) (ht:tg target) (sc:ScOk scope env)
    (f:D->List D) (P:D->Prop) (tail:Value->Addr->Env->Sem Fin)
    (hshape:∀ it acc env',compTurn (.ListComp elt (⟨target,iter,ifs,0⟩::rest) scope pos) 0 it (.ref acc) env'=turnOf iter.pos it target env' (tail it acc env'))
    (hturn:∀ N' acc C cells it γ d sb s v done,P d->N' acc->done.length+(f d).length≤sizeLine->Rel s₁ N' (Xc scope C acc cells) sb (compEnv scope env C cells) (capt scope ρ) γ s->Bears N' s.heap d v->Out N' acc done s ->
      wpAny (Mo w) A (assign target (compEnv scope env C cells) v) (fun θ s'=>wpAny (Mo w) A (tail it acc (compEnv scope env C cells)) (fun fin s''=>fin=.again (.compLoop (.ListComp elt (⟨target,iter,ifs,0⟩::rest) scope pos) 0 it (.ref acc) (compEnv scope env C cells))∧Out N' acc (done++f d) s''∧Rel s₁ N' (Xc scope C acc cells) sb (compEnv scope env C cells) (capt scope ρ) γ s'') (fun θ θ=>False) s') (fun θ θ=>False) s)
    (hP:∀ d,d∈ds->P d) (hK:(ds.flatMap f).length≤sizeLine) {sb s:Shared} (R:Rel s₁ N X sb env ρ γ s) :
    wpAny (Mo w) A (eval iter env) (fun x s'=>wpAny (Mo w) A (pyIter x) (fun it s₂=>wpAny (Mo w) A (newList []) (fun acc s₃=>
      wpAny (Mo w) A (newFunctionEnv scope env.globals (closeFrom env.cells scope.names []) [] env.qual none .none (some env)) (fun cenv s₄=>
        codeAny (Mo w) A (.compStart (.ListComp elt (⟨target,iter,ifs,0⟩::rest) scope pos) 0 it acc { cenv with scope:=compScope scope env }) (fun r s'=>r=.ok .next∧∃ a m,acc=.ref a∧To no s s'∧s'.heap.Ns cenv.locals m∧NewAt s (.inl cenv.locals)∧cenv.locals∉tabs∧Bears N s'.heap (.lst (ds.flatMap f)) (.ref a)) s₄) (fun θ θ=>False) s₃) (fun θ θ=>False) s₂) (fun θ θ=>False) s') (fun θ θ=>False) s:=by
  refine wpAny_mono (y.run N X sb γ s R) (fun v s' h=>?_) fun θ θ h=>h.elim
  obtain ⟨T,itb⟩:=h
  refine wpAny_mono (itb A hA hh (R.inv.trans T)) (fun it s₂ h=>?_) fun θ θ h=>h.elim
  obtain ⟨nd,fp,T₂,hfp,hnd,itr⟩:=h
  have T₁₂:=T.trans T₂
  have R₂:Rel s₁ N X s env ρ (nd++γ) s₂:=((R.here.step T).step T₂).ghost hnd
  refine wpAny_newList ?_
  have T₃:To no s₂ { s₂ with heap:=s₂.heap.push { cls:=.type "list", data:=.seq ([]:List Value).toArray } }:=To.push _ _
  have nacc:NewAt s₂ (.inl s₂.heap.objs.size):=newAt_ge (Nat.le_refl _)
  have nacc0:NewAt s (.inl s₂.heap.objs.size):=NewAt.to R.tabs T₁₂ nacc
  have hl:({ s₂ with heap:=s₂.heap.push { cls:=.type "list", data:=.seq ([]:List Value).toArray } }:Shared).heap.get? s₂.heap.objs.size=some { cls:=.type "list", data:=.seq ([]:List Value).toArray }:=Heap.get?_push_size _ rfl
  refine comp_rel G (A:=A) R₂ T₃ nacc ⟨_,hl⟩ sc.k sc.fr sc.nd fun C cells s₄ T₄ nC hXn hkeep R₄ hthere hcells=>?_
  have o₄:Out (orN N s₂.heap.objs.size) s₂.heap.objs.size [] s₄:=⟨[],⟨_,hkeep _ hl⟩,all_nil⟩
  have hfp4:∀ l,fp l->NewAt s l:=fun l h=>(hfp l h).1
  have T₀₄:=T₁₂.trans T₄
  have hXs:∀ l,Xc scope C s₂.heap.objs.size cells l->NewAt s l:=fun l hl=>NewAt.to R.tabs T₁₂ (hXn l hl)
  have dis:Dis (Xc scope C s₂.heap.objs.size cells) fp:=fun l hl hf=>(hfp l hf).2 (hXn l hl)
  have hfr:∀ l,Frm (compEnv scope env C cells) (orN N s₂.heap.objs.size) (Xc scope C s₂.heap.objs.size cells) l->¬ fp l:=fun l hl hf=>by
    rcases hl with hl | ⟨x,c,k,hk,hq,hc,rfl⟩ | ⟨a,ha | rfl,rfl⟩
    · exact dis l hl hf
    · rcases hcells x c hc with h | ⟨h,h'⟩
      · exact (hfp _ hf).2 h
      · obtain ⟨c₁,ov,hc₁,hi,_⟩:=(sc.fr x h).elim (fun q=>R.cel x _ q (.inl rfl)) fun q=>R.cel x _ q (.inr rfl)
        rw [h'] at hc₁;cases hc₁
        exact cell_there hi (hfp _ hf).1
    · exact R.nex a ha (hfp _ hf).1
    · exact (hfp _ hf).2 nacc
  have R₅:Rel s₁ (orN N s₂.heap.objs.size) (Xc scope C s₂.heap.objs.size cells) s (compEnv scope env C cells) (capt scope ρ) (nd++γ) s₄:={ R₄ with to:=T₀₄.of_no }
  have hloop:∀ s₅ it',it'=it->s₅=s₄->codeAny (Mo w) A (.compLoop (.ListComp elt (⟨target,iter,ifs,0⟩::rest) scope pos) 0 it' (.ref s₂.heap.objs.size) (compEnv scope env C cells)) (fun r s'=>r=.ok .next∧∃ a m,Value.ref s₂.heap.objs.size=.ref a∧To no s s'∧s'.heap.Ns C m∧NewAt s (.inl C)∧C∉tabs∧Bears N s'.heap (.lst (ds.flatMap f)) (.ref a)) s₅:=by
    intro s₅ it' e1 e2
    subst e1;subst e2
    refine codeAny_mono (comp_loop G hA hh ht (fun q hq=>List.mem_append_left _ hq) R.inv (fun γ ρ s done R o=>comp_there sc.nd R o) (.inr (.inl rfl)) f P (tail it' s₂.heap.objs.size (compEnv scope env C cells)) (hshape _ _ _) (fun d sb s v done hPd hl R b o=>hturn _ _ C cells it' _ d sb s v done hPd (.inr rfl) hl R b o) ds [] fp s₅ hP (by simpa using hK) R₅ o₄ ((itr (orN N s₂.heap.objs.size)).yld.frame T₄.of_no dis) (fun l h=>(hfp l h).1) hfr) fun r s' h=>?_
    obtain ⟨e,⟨us,hl,bs⟩,R'⟩:=h
    obtain ⟨m,hm,_⟩:=R'.ns
    exact ⟨e,_,m,rfl,To.forget (To.refl _ _) R'.to hXs,hm,hXs _ (.inl rfl),R'.ltab,bears_lst (R.nex.new nacc0) hl (bs.fewer fun θ h=>.inl h)⟩
  exact comp_start rfl rfl (hloop _ _ rfl rfl) (wpAny_mono ((itr (orN N s₂.heap.objs.size)).self A _ s₄ R₄.inv T₄.of_no dis) (fun it' s₅ h=>hloop _ _ h.1 h.2) fun θ θ h=>h)
theorem scOk_names {scope:Scope} (sc:ScOk scope env):∀ x∈scope.names,x.2=.local->scope.names.lookup x.1=some .local:=fun x hx hl=>by
  obtain ⟨n,k⟩:=x
  have:k=.local:=hl
  subst this
  exact sc.nd _ _ hx
theorem scOk_cells {scope:Scope} (sc:ScOk scope env) {sb s:Shared} (R:Rel s₁ N X sb env ρ γ s):∀ x,(x,NameKind.free)∈scope.names->∃ c,env.cells.lookup x=some c:=fun x hx=>by
  obtain ⟨c,ov,hc,_⟩:=(sc.fr x hx).elim (fun q=>R.cel x _ q (.inl rfl)) fun q=>R.cel x _ q (.inr rfl)
  exact ⟨c,hc⟩
noncomputable def TurnOk (w:World) (s₁:Shared) (A:Around) (env:Env) (ρ:List (Str × D)) (e:Expr) (scope:Scope) (target:Expr) (f:D->List D) (P:D->Prop) (tail:Value->Addr->Env->Sem Fin):Prop:=
  ∀ N' acc C cells it γ d sb s v done,P d->N' acc->done.length+(f d).length≤sizeLine->Rel s₁ N' (Xc scope C acc cells) sb (compEnv scope env C cells) (capt scope ρ) γ s->Bears N' s.heap d v->Out N' acc done s ->
      wpAny (Mo w) A (assign target (compEnv scope env C cells) v) (fun θ s'=>wpAny (Mo w) A (tail it acc (compEnv scope env C cells)) (fun fin s''=>fin=.again (.compLoop e 0 it (.ref acc) (compEnv scope env C cells))∧Out N' acc (done++f d) s''∧Rel s₁ N' (Xc scope C acc cells) sb (compEnv scope env C cells) (capt scope ρ) γ s'') (fun θ θ=>False) s') (fun θ θ=>False) s
theorem ev_comp_of (G:GW w s₁) {n:Nat} (hA:Rm n A) (hh:A.handled=none) {elt target iter:Expr} {ifs:List Expr} {rest:List Comprehension} {scope:Scope} {pos:Pos} {ds:List D} {tg:Expr->Prop} (y:EvIt w s₁ A env ρ n tg iter ds) (ht:tg target) (sc:ScOk scope env)
    (hf:∀ x,foldedSetIterable iter env x=pure x)
    (f:D->List D) (P:D->Prop) (tail:Value->Addr->Env->Sem Fin)
    (hshape:∀ it acc env',compTurn (.ListComp elt (⟨target,iter,ifs,0⟩::rest) scope pos) 0 it (.ref acc) env'=turnOf iter.pos it target env' (tail it acc env'))
    (hturn:TurnOk w s₁ A env ρ (.ListComp elt (⟨target,iter,ifs,0⟩::rest) scope pos) scope target f P tail)
    (hP:∀ d,d∈ds->P d) (hK:(ds.flatMap f).length≤sizeLine):Ev w s₁ A env ρ (.ListComp elt (⟨target,iter,ifs,0⟩::rest) scope pos) (.lst (ds.flatMap f)):=Gv.mk fun N X sb γ s R=>by
  rw [eval_ListComp]
  refine wpAny_comprehension_free (use:=none) rfl hf (closure_eq (scOk_cells sc R)) sc.k (scOk_names sc) ?_
  refine wpAny_mono (comp_code G hA hh y ht sc f P tail hshape hturn hP hK R) (fun x s' h=>wpAny_mono h (fun it s₂ h=>wpAny_mono h (fun acc s₃ h=>wpAny_mono h (fun cenv s₄ h=>codeAny_mono h fun r s' h=>?_) fun θ θ h=>h) fun θ θ h=>h) fun θ θ h=>h) fun θ θ h=>h
  obtain ⟨rfl,a,m,rfl,T,hm,nC,hC,b⟩:=h
  refine ⟨m,hm,fun h' hs=>⟨?_,b.butSeq hs (NoSeq.ns hm)⟩⟩
  exact To.forget T (To.but (s:=s') (t:=s'.toks) (X:=one cenv.locals) hs rfl (turns_ns hC hm)) fun l q=>by rw [q];exact nC
theorem xs_comp_of (G:GW w s₁) {n:Nat} (hA:Rm n A) (hh:A.handled=none) {elt target iter:Expr} {ifs:List Expr} {rest:List Comprehension} {scope:Scope} {pos p spos:Pos} {ds:List D} {tg:Expr->Prop} (y:EvIt w s₁ A env ρ n tg iter ds) (ht:tg target) (sc:ScOk scope env)
    (hf:∀ x,foldedSetIterable iter env x=pure x)
    (f:D->List D) (P:D->Prop) (tail:Value->Addr->Env->Sem Fin)
    (hshape:∀ it acc env',compTurn (.ListComp elt (⟨target,iter,ifs,0⟩::rest) scope pos) 0 it (.ref acc) env'=turnOf iter.pos it target env' (tail it acc env'))
    (hturn:TurnOk w s₁ A env ρ (.ListComp elt (⟨target,iter,ifs,0⟩::rest) scope pos) scope target f P tail)
    (hP:∀ d,d∈ds->P d) (hK:(ds.flatMap f).length≤sizeLine) {x:Str} (S:Sto X env x)
    (hsw:swapsWith (.ListComp elt (⟨target,iter,ifs,0⟩::rest) scope pos) (some (.Name x p)) spos.line env=pure true)
    {sb s:Shared} {Q:Flow->Shared->Prop} {E:Value->Shared->Prop} {ss:List Stmt} (R:Rel s₁ N X sb env ρ γ s) (hX:∀ l,X l->¬ NewAt s l)
    (h₀:∀ s',To X s s'->Kp s s'->Rel s₁ N X sb env ((x,.lst (ds.flatMap f))::ρ) γ s'->Xs w A env ss Q E s'):Xs w A env (.Assign [.Name x p] (.ListComp elt (⟨target,iter,ifs,0⟩::rest) scope pos) spos::ss) Q E s:=by
  refine xs_cons ⟨?_⟩
  rw [exec_Assign_Name_used _ _ _ _ hsw]
  refine wpAny_bind (wpAny_standAt (wpAny_bind ?_))
  show wpAny _ A (do let _ ← comprehension (.ListComp elt (⟨target,iter,ifs,0⟩::rest) scope pos) scope env _ (newList []) false (eval iter env) (some (assign (.Name x p) env))) _ _ s
  refine wpAny_bind (wpAny_mono (wpAny_comprehension_free (E:=fun θ θ=>False) (Q:=fun θ s'=>Xs w A env ss Q E s') rfl hf (closure_eq (scOk_cells sc R)) sc.k (scOk_names sc) ?_)
    (fun θ s' hq=>wpAny_pure (wpAny_pure hq)) fun θ θ e=>e.elim)
  refine wpAny_mono (comp_code G hA hh y ht sc f P tail hshape hturn hP hK R) (fun x s' h=>wpAny_mono h (fun it s₂ h=>wpAny_mono h (fun acc s₃ h=>wpAny_mono h (fun cenv s₄ h=>codeAny_mono h fun r s' h=>?_) fun θ θ h=>h) fun θ θ h=>h) fun θ θ h=>h) fun θ θ h=>h
  obtain ⟨rfl,a,m,rfl,T,hm,nC,hC,b⟩:=h
  show wpAny _ _ (assign _ env _) _ _ s'
  rw [arm_assign_Name]
  have hXC:¬ X (.inl cenv.locals):=fun q=>hX _ q nC
  refine wpAny_bind (wpAny_standAt (wpAny_bindName ((R.here.step T).store b S fun s₅ T₅ K₅ R₅=>⟨m,(ns_to' T₅ hXC hC hm),fun h' hs=>?_⟩)))
  have hm₅:=ns_to' T₅ hXC hC hm
  have T₆:To (one cenv.locals) s₅ { s₅ with heap:=h' }:=To.but (s:=s₅) (t:=s₅.toks) hs rfl (turns_ns hC hm₅)
  have K₆:Kp s₅ { s₅ with heap:=h' }:=⟨fun b=>b.butSeq hs (NoSeq.ns hm₅)⟩
  have hY:∀ l,one cenv.locals l->NewAt s l:=fun l q=>by rw [q];exact nC
  have R₆:=Rel.moved2 G R.inv R₅ T₆ K₆ hY fun l h q=>frm_there R hX l h (hY l q)
  exact h₀ _ R₆.to (((Kp.of_to T).trans K₅).trans K₆) (R.back R₆)
end
theorem Bears.butN {N:Addr->Prop} {h h':Heap} {a:Addr} (hs:Heap.SameBut a h h') (hN:N a) {d:D} {v:Value} (b:Bears N h d v):Bears N h' d v:=
  b.keeps (fun c o n e θ=>(hs.2 c (fun q=>n (q▸hN))).trans e) fun θ θ n θ=>n
theorem BearsAll.butN {N:Addr->Prop} {h h':Heap} {a:Addr} (hs:Heap.SameBut a h h') (hN:N a) {d:List D} {v:List Value} (b:BearsAll N h d v):BearsAll N h' d v:=
  b.keeps (fun c o n e θ=>(hs.2 c (fun q=>n (q▸hN))).trans e) fun θ θ n θ=>n
section
variable {w:World} {s₁:Shared} {N:Addr->Prop} {A:Around} {env:Env} {ρ:List (Str × D)} {γ:List (D × Value)} {X:Loc->Prop}
theorem list_ne_ns {h:Heap} {a l:Addr} {m:Str->Option Value} {xs:Array Value} (x:h.Ns a m) (y:h.IsList l xs):a≠l:=fun q=>by
  subst q
  obtain ⟨o',es,ep,ho,hd,_⟩:=x
  obtain ⟨o,ho',_,n,hd'⟩:=y
  rw [ho] at ho';cases ho';rw [hd] at hd';cases hd'
theorem list_ne_cell {h:Heap} {a l:Addr} {m:Option Value} {xs:Array Value} (x:h.IsCell a m) (y:h.IsList l xs):a≠l:=fun q=>by
  subst q
  obtain ⟨o',ho,hd⟩:=x
  obtain ⟨o,ho',_,n,hd'⟩:=y
  rw [ho] at ho';cases ho';rw [hd] at hd';cases hd'
theorem list_notab {s:Shared} (ht:TabOk s) {l:Addr} {xs:Array Value} (y:s.heap.IsList l xs):l∉tabs:=by
  obtain ⟨o,ho,hc,_⟩:=y
  exact notab_of ht ho hc
theorem Rel.listed {sb s:Shared} {h':Heap} {acc:Addr} {xs ys:Array Value} (R:Rel s₁ N X sb env ρ γ s) (hl:s.heap.IsList acc xs) (hl':h'.IsList acc ys) (hs:Heap.SameBut acc s.heap h') (hX:X (.inl acc)) (hN:N acc) :
    Rel s₁ N X sb env ρ γ { s with heap:=h' } where
  inv:=R.inv.forget (To.but (s:=s) (t:=s.toks) hs hX (turns_list (list_notab R.tabs hl) hl)) R.xnew
  to:=R.to.trans (To.but (s:=s) (t:=s.toks) hs hX (turns_list (list_notab R.tabs hl) hl))
  xnew:=R.xnew
  xloc:=R.xloc
  ns:=let ⟨m,h,k⟩:=R.ns;⟨m,h.sameBut hs (list_ne_ns h hl),fun y d hk hd=>let ⟨v,e,b⟩:=k y d hk hd;⟨v,e,b.butN hs hN⟩⟩
  cel:=fun y k hk hq=>let ⟨c,ov,hc,hi,ht,r⟩:=R.cel y k hk hq;⟨c,ov,hc,hi.sameBut hs (list_ne_cell hi hl),ht,fun d hd=>let ⟨v,e,b⟩:=r d hd;⟨v,e,b.butN hs hN⟩⟩
  apart:=R.apart
  ltab:=R.ltab
  gh:=fun p hp=>(R.gh p hp).butN hs hN
  nex:=R.nex.but (t:=s.toks) hs (let ⟨o,ho,_⟩:=hl';⟨o,ho⟩)
  tabs:=R.tabs.to (To.but (s:=s) (t:=s.toks) hs hX (turns_list (list_notab R.tabs hl) hl))
theorem append_lst {s:Shared} {l:Addr} {us:List Value} {v:Value} {E:Value->Shared->Prop} {Q:Value->Shared->Prop} (hl:Lst s.heap l us) (hsz:us.length≤sizeLine)
    (h:∀ h',Lst h' l (us++[v])->Heap.SameBut l s.heap h'->Q .none { s with heap:=h' }):wpAny (Mo w) A (call (.builtin "list.append") [.ref l,v]) Q E s:=by
  obtain ⟨n,ho⟩:=hl
  have hu:=IsL.update ho (fun x=>x.push v)
  rw [show us.toArray.push v=(us++[v]).toArray by simp] at hu
  exact call_meets PySem.F.slot_list_append ⟨_,ho,rfl⟩ PySem.F.entry_list_append (PySem.F.args_list_append_2 _ _) (list_append l us.toArray n v (by simpa using hsz)) ⟨ho,h _ ⟨_,hu⟩ (Heap.SameBut.update ..)⟩
theorem emit_ok {elt:Expr} {d:D} {acc:Addr} {done:List D} {sb s:Shared} {Q:Unit->Shared->Prop} {E:Value->Shared->Prop} (R:Rel s₁ N X sb env ρ γ s) (o:Out N acc done s) (hX:X (.inl acc)) (hN:N acc) (he:Ev w s₁ A env ρ elt d)
    (hsz:done.length≤sizeLine) (h:∀ s',Out N acc (done++[d]) s'->Rel s₁ N X sb env ρ γ s'->Q () s'):wpAny (Mo w) A (emitOf elt acc env) Q E s:=by
  unfold emitOf
  refine wpAny_bind (he.use R fun v s' T b=>?_)
  obtain ⟨us,hl,bs⟩:=o.to T
  exact wpAny_bind (append_lst hl (by rw [all_length bs];exact hsz) fun h' hl' hs=>wpAny_pure (h { s' with heap:=h' } ⟨us++[v],hl',(all_append bs (all_cons b all_nil)).butN hs hN⟩ ((R.step T).listed hl.isList hl'.isList hs hX hN)))
theorem all_vals {N:Addr->Prop} {h:Heap}:∀ {us vs:List Value},BearsAll N h (us.map D.val) vs↔vs=us
  | [],vs=>by rw [List.map_nil,all_nil_iff]
  | u::us,vs=>by
    rw [List.map_cons,all_cons_iff]
    constructor
    · rintro ⟨v,r,rfl,b,c⟩
      rw [all_vals.mp c]
      unfold Bears at b;rw [b]
    · rintro rfl
      exact ⟨u,us,rfl,bears_val,all_vals.mpr rfl⟩
theorem Kp.list {s s':Shared} (K:Kp s s') {l:Addr} {us:List Value} (h:Lst s.heap l us):Lst s'.heap l us:=by
  have b:Bears (fun θ=>False) s.heap (.lst (us.map D.val)) (.ref l):=bears_lst id h (all_vals.mpr rfl)
  obtain ⟨a,vs,e,_,hl,bs⟩:=of_lst' (K.k b)
  cases e
  rw [all_vals.mp bs] at hl
  exact hl
theorem Out.kept {acc:Addr} {done:List D} {s s':Shared} (o:Out N acc done s) (K:Kp s s'):Out N acc done s':=
  let ⟨us,hl,b⟩:=o;⟨us,K.list hl,K.all b⟩
noncomputable def ownB (scope:Scope) (bs:List (Str × D)):Bool:=bs.all fun p=>scope.names.lookup p.1 != some .free
theorem ownB_weak {scope:Scope} {bs:List (Str × D)} {ρ:List (Str × D)} (h:ownB scope bs=true):∀ x d,(capt scope ρ).lookup x=some d->(bs++capt scope ρ).lookup x=some d:=fun x d e=>by
  have hf:=(capt_look e).2
  induction bs with
  | nil=>exact e
  | cons p r ih=>
    unfold ownB at h
    rw [List.all_cons,Bool.and_eq_true] at h
    obtain ⟨n,b⟩:=p
    rw [List.cons_append,lookup_ne (fun q=>by subst q;simp only [hf] at h;simp at h)]
    exact ih h.2
noncomputable abbrev againOf (e:Expr) (depth:Nat) (it:Value) (acc:Addr) (env:Env):Sem Fin:=pure (.again (.compLoop e depth it (.ref acc) env))
section
variable {elt target iter:Expr} {scope:Scope} {pos:Pos} {P:D->Prop}
theorem turn_map (bs:D->List (Str × D)) (g:D->D) {e:Expr}
    (hb:∀ d,P d->ownB scope (bs d)=true)
    (ha:∀ N' C cells acc d,P d->As w s₁ N' A (compEnv scope env C cells) (Xc scope C acc cells) (fun θ=>True) (assign target (compEnv scope env C cells)) d (bs d))
    (he:∀ C cells d,P d->Ev w s₁ A (compEnv scope env C cells) (bs d++capt scope ρ) elt (g d)) :
    TurnOk w s₁ A env ρ e scope target (fun d=>[g d]) P (fun it acc env'=>emitOf elt acc env' >>= fun θ=>againOf e 0 it acc env'):=fun N' acc C cells it γ d sb s v done hP hN hK R b o=>by
  refine ha N' C cells acc d hP sb _ γ s v _ _ trivial R b fun s' T K R'=>?_
  have o':Out N' acc done s':=o.kept K
  refine wpAny_bind (emit_ok R' o' (.inr (.inl rfl)) hN (he C cells d hP) (by simp at hK;omega) fun s'' o'' R''=>wpAny_pure ⟨rfl,o'',R''.weaken (ownB_weak (hb d hP)) fun θ h=>h⟩)
noncomputable def testOf (c:Expr) (env:Env):Sem Bool:=forIn [c] true fun c r=>if r=true then do let ok ← isTrue c env (eval c env);pure (ForInStep.yield ok) else pure (ForInStep.yield r)
theorem test_ok {c:Expr} {b:Bool} {sb s:Shared} {Q:Bool->Shared->Prop} {E:Value->Shared->Prop} (R:Rel s₁ N X sb env ρ γ s) (hc:Ts w s₁ A env ρ c b) (h:∀ s',To no s s'->Q b s'):wpAny (Mo w) A (testOf c env) Q E s:=by
  unfold testOf
  rw [List.forIn_cons,if_pos rfl]
  refine wpAny_bind (wpAny_bind (hc.use R fun b' s' T e=>?_))
  subst e
  exact wpAny_pure (wpAny_pure (h s' T))
theorem turn_filter {c:Expr} (bs:D->List (Str × D)) (g:D->D) (p:D->Bool) {e:Expr}
    (hb:∀ d,P d->ownB scope (bs d)=true)
    (ha:∀ N' C cells acc d,P d->As w s₁ N' A (compEnv scope env C cells) (Xc scope C acc cells) (fun θ=>True) (assign target (compEnv scope env C cells)) d (bs d))
    (hc:∀ C cells d,P d->Ts w s₁ A (compEnv scope env C cells) (bs d++capt scope ρ) c (p d))
    (he:∀ C cells d,P d->p d=true->Ev w s₁ A (compEnv scope env C cells) (bs d++capt scope ρ) elt (g d)) :
    TurnOk w s₁ A env ρ e scope target (fun d=>if p d then [g d] else []) P (fun it acc env'=>testOf c env' >>= fun ok=>if ok=true then (emitOf elt acc env' >>= fun θ=>againOf e 0 it acc env') else againOf e 0 it acc env'):=fun N' acc C cells it γ d sb s v done hP hN hK R b o=>by
  refine ha N' C cells acc d hP sb _ γ s v _ _ trivial R b fun s' T K R'=>?_
  have o':Out N' acc done s':=o.kept K
  refine wpAny_bind (test_ok R' (hc C cells d hP) fun s'' T'=>?_)
  cases hp:p d with
  | true=>
    simp only [hp,if_true] at hK ⊢
    refine wpAny_bind (emit_ok (R'.step T') (o'.to T') (.inr (.inl rfl)) hN (he C cells d hP hp) (by simp at hK;omega) fun s'' o'' R''=>wpAny_pure ⟨rfl,o'',R''.weaken (ownB_weak (hb d hP)) fun θ h=>h⟩)
  | false=>
    simp only [hp,Bool.false_eq_true,if_false] at hK ⊢
    exact wpAny_pure ⟨rfl,by rw [List.append_nil];exact o'.to T',(R'.step T').weaken (ownB_weak (hb d hP)) fun θ h=>h⟩
theorem flat_map {α β:Type} (g:α->β) (l:List α):(l.flatMap fun d=>[g d])=l.map g:=by
  induction l with
  | nil=>rfl
  | cons a r ih=>rw [List.flatMap_cons,ih];rfl
theorem flat_filter {α β:Type} (g:α->β) (p:α->Bool) (l:List α):(l.flatMap fun d=>if p d then [g d] else [])=(l.filter p).map g:=by
  induction l with
  | nil=>rfl
  | cons a r ih=>
    rw [List.flatMap_cons,ih,List.filter_cons]
    cases p a<;>rfl
theorem shape1 {it:Value} {acc:Addr} {env':Env}:compTurn (.ListComp elt [⟨target,iter,[],0⟩] scope pos) 0 it (.ref acc) env'=turnOf iter.pos it target env' (emitOf elt acc env' >>= fun θ=>againOf (.ListComp elt [⟨target,iter,[],0⟩] scope pos) 0 it acc env'):=rfl
theorem shape1c {c:Expr} {it:Value} {acc:Addr} {env':Env}:compTurn (.ListComp elt [⟨target,iter,[c],0⟩] scope pos) 0 it (.ref acc) env'=turnOf iter.pos it target env' (testOf c env' >>= fun ok=>if ok=true then (emitOf elt acc env' >>= fun θ=>againOf (.ListComp elt [⟨target,iter,[c],0⟩] scope pos) 0 it acc env') else againOf (.ListComp elt [⟨target,iter,[c],0⟩] scope pos) 0 it acc env'):=rfl
section
variable {t2 i2:Expr}
noncomputable abbrev two (elt t1 i1 t2 i2:Expr) (scope:Scope) (pos:Pos):Expr:=.ListComp elt [⟨t1,i1,[],0⟩,⟨t2,i2,[],0⟩] scope pos
noncomputable abbrev tail2 (elt t1 i1 t2 i2:Expr) (scope:Scope) (pos:Pos) (it:Value) (acc:Addr) (env':Env):Sem Fin:=
  eval i2 env' >>= fun x=>standAt i2.pos >>= fun θ=>foldedSetIterable i2 env' x >>= fun x=>holding [x] (pyIter x) >>= fun it2=>runOwn (.compStart (two elt t1 i1 t2 i2 scope pos) 1 it2 (.ref acc) env') env' >>= fun θ=>againOf (two elt t1 i1 t2 i2 scope pos) 0 it acc env'
theorem shape2 {it:Value} {acc:Addr} {env':Env}:compTurn (two elt target iter t2 i2 scope pos) 0 it (.ref acc) env'=turnOf iter.pos it target env' (tail2 elt target iter t2 i2 scope pos it acc env'):=rfl
theorem shape2i {it:Value} {acc:Addr} {env':Env}:compTurn (two elt target iter t2 i2 scope pos) 1 it (.ref acc) env'=turnOf i2.pos it t2 env' (emitOf elt acc env' >>= fun θ=>againOf (two elt target iter t2 i2 scope pos) 1 it acc env'):=rfl
theorem turn_two (G:GW w s₁) {n:Nat} (hA:Rm n A) (hh:A.handled=none) (sc:ScOk scope env) (bs:D->List (Str × D)) (ds2:D->List D) (bs2:D->D->List (Str × D)) (g:D->D->D)
    (hb:∀ d,P d->ownB scope (bs d)=true)
    (ha:∀ N' C cells acc d,P d->As w s₁ N' A (compEnv scope env C cells) (Xc scope C acc cells) (fun θ=>True) (assign target (compEnv scope env C cells)) d (bs d))
    {tg:Expr->Prop} (y2:∀ C cells d,P d->EvIt w s₁ A (compEnv scope env C cells) (bs d++capt scope ρ) n tg i2 (ds2 d)) (ht:tg t2)
    (hf:∀ env' x,foldedSetIterable i2 env' x=pure x)
    (hw:∀ d d2 x e,P d->d2∈ds2 d->(bs d++capt scope ρ).lookup x=some e->(bs2 d d2++(bs d++capt scope ρ)).lookup x=some e)
    (ha2:∀ N' C cells acc d d2,P d->d2∈ds2 d->As w s₁ N' A (compEnv scope env C cells) (Xc scope C acc cells) (fun θ=>True) (assign t2 (compEnv scope env C cells)) d2 (bs2 d d2))
    (he:∀ C cells d d2,P d->d2∈ds2 d->Ev w s₁ A (compEnv scope env C cells) (bs2 d d2++(bs d++capt scope ρ)) elt (g d d2)) :
    TurnOk w s₁ A env ρ (two elt target iter t2 i2 scope pos) scope target (fun d=>(ds2 d).map (g d)) P (tail2 elt target iter t2 i2 scope pos):=fun N' acc C cells it γ d sb s v done hP hN hK R b o=>by
  refine ha N' C cells acc d hP sb _ γ s v _ _ trivial R b fun s' T K R'=>?_
  have o':Out N' acc done s':=o.kept K
  refine wpAny_bind (wpAny_mono ((y2 C cells d hP).run _ _ _ _ _ R') (fun x s₂ h=>?_) fun θ θ h=>h.elim)
  obtain ⟨T₂,itb⟩:=h
  refine wpAny_bind (wpAny_standAt (wpAny_bind (wpAny_of_eq (hf _ x) (wpAny_bind (wpAny_holding (wpAny_mono (itb A hA hh (R'.inv.trans T₂)) (fun it2 s₃ h=>?_) fun θ θ h=>h.elim))))))
  obtain ⟨nd,fp,T₃,hfp,hnd,itr⟩:=h
  have T₂₃:=T₂.trans T₃
  have R₃:Rel s₁ N' (Xc scope C acc cells) s' (compEnv scope env C cells) (bs d++capt scope ρ) (nd++γ) s₃:=((R'.here.step T₂).step T₃).ghost hnd
  have o₃:=o'.to T₂₃
  have dis:Dis (Xc scope C acc cells) fp:=fun l hl hf=>comp_there sc.nd R' o' l hl (hfp l hf).1
  have hfr:∀ l,Frm (compEnv scope env C cells) N' (Xc scope C acc cells) l->¬ fp l:=fun l hl hf=>frm_there R' (comp_there sc.nd R' o') l hl (hfp l hf).1
  refine wpAny_bind (wpAny_runOwn ?_)
  have hfm:(List.flatMap (fun d2=>[g d d2]) (ds2 d))=(ds2 d).map (g d):=flat_map _ _
  have hloop:∀ s₅ it',it'=it2->s₅=s₃->codeAny (Mo w) A (.compLoop (two elt target iter t2 i2 scope pos) 1 it' (.ref acc) (compEnv scope env C cells)) (fun r s₆=>match r with
      | .ok f=>wpAny (Mo w) A (againOf (two elt target iter t2 i2 scope pos) 0 it acc (compEnv scope env C cells)) (fun fin s''=>fin=.again (.compLoop (two elt target iter t2 i2 scope pos) 0 it (.ref acc) (compEnv scope env C cells))∧Out N' acc (done++(ds2 d).map (g d)) s''∧Rel s₁ N' (Xc scope C acc cells) sb (compEnv scope env C cells) (capt scope ρ) γ s'') (fun θ θ=>False) s₆
      | .error e=>cameBackBy (Mo w) A (compEnv scope env C cells) (fun θ θ=>False) e s₆) s₅:=by
    intro s₅ it' e1 e2
    subst e1;subst e2
    refine codeAny_mono (comp_loop G hA hh ht (fun q hq=>List.mem_append_left _ hq) R'.inv (fun γ ρ s done R o=>comp_there sc.nd R o) (.inr (.inl rfl)) (fun d2=>[g d d2]) (fun d2=>d2∈ds2 d) (emitOf elt acc (compEnv scope env C cells) >>= fun θ=>againOf (two elt target iter t2 i2 scope pos) 1 it' acc (compEnv scope env C cells)) shape2i (fun d2 sb s v done hPd hl R b o=>?_) (ds2 d) done fp s₅ (fun θ h=>h) (by rw [hfm];exact hK) R₃ o₃ (itr N').yld (fun l h=>(hfp l h).1) hfr) fun r s' h=>?_
    · refine ha2 N' C cells acc d d2 hP hPd sb _ _ s v _ _ trivial R b fun s' T K R'=>?_
      exact wpAny_bind (emit_ok R' (o.kept K) (.inr (.inl rfl)) hN (he C cells d d2 hP hPd) (by simp at hl;omega) fun s'' o'' R''=>wpAny_pure ⟨rfl,o'',R''.weaken (fun x e h=>hw d d2 x e hP hPd h) fun θ h=>h⟩)
    · obtain ⟨rfl,o₆,R₆⟩:=h
      rw [hfm] at o₆
      exact wpAny_pure ⟨rfl,o₆,(R'.back R₆).weaken (ownB_weak (hb d hP)) fun θ h=>List.mem_append_right _ h⟩
  exact comp_start rfl rfl (hloop _ _ rfl rfl) (wpAny_mono ((itr N').self A no s₃ R₃.inv (To.refl _ _) (fun θ h=>h.elim)) (fun it' s₅ h=>hloop _ _ h.1 h.2) fun θ θ h=>h)
end
end
end
section
variable {w:World} {s₁:Shared} {A:Around} {env:Env} {ρ:List (Str × D)} {a b:Int}
noncomputable def findIn (x y:Str) (lo hi:Nat):Int:=match Builtin.Str.occurrences x y lo hi 1 with | k::_=>(k:Int) | []=>-1
noncomputable def rfindIn (x y:Str) (lo hi:Nat):Int:=match Builtin.Str.lastOccurrence x y lo hi with | some k=>(k:Int) | none=>-1
theorem gives_find4 (x y:Str) (i j:Int) (t u v v':Tok):Gives (Builtin.«str.find» ⟨[.str x t,.str y u,.int i v,.int j v'],[]⟩) (.int (findIn x y (fromIndex x.length i) (min (fromIndex x.length j) x.length))):=by
  show Gives (match Builtin.Str.occurrences x y (fromIndex x.length i) (min (fromIndex x.length j) x.length) 1 with | k::_=>retInt k | []=>(do rule "str.find.not-found"; retInt (-1))) _
  unfold findIn
  cases Builtin.Str.occurrences x y (fromIndex x.length i) (min (fromIndex x.length j) x.length) 1 with
  | nil=>exact .rule (.of_eq rfl)
  | cons k _=>exact .of_eq rfl
theorem gives_rfind4 (x y:Str) (i j:Int) (t u v v':Tok):Gives (Builtin.«str.rfind» ⟨[.str x t,.str y u,.int i v,.int j v'],[]⟩) (.int (rfindIn x y (fromIndex x.length i) (min (fromIndex x.length j) x.length))):=by
  show Gives (match Builtin.Str.lastOccurrence x y (fromIndex x.length i) (min (fromIndex x.length j) x.length) with | some k=>retInt k | none=>(do rule "str.rfind.not-found"; retInt (-1))) _
  unfold rfindIn
  cases Builtin.Str.lastOccurrence x y (fromIndex x.length i) (min (fromIndex x.length j) x.length) with
  | none=>exact .rule (.of_eq rfl)
  | some k=>exact .of_eq rfl
theorem gives_find2 (x y:Str) (t u:Tok):Gives (Builtin.«str.find» ⟨[.str x t,.str y u],[]⟩) (.int (findIn x y 0 x.length)):=gives_str_find x y t u
theorem op_find2 {x y:Str}:∀ N s u vs,Bears N s.heap (.str x) u->BearsAll N s.heap [.str y] vs->Op w s₁ N A s (call (.builtin "str.find") (u::vs)) fun v s'=>Bears N s'.heap (.int (findIn x y 0 x.length)) v:=fun N s u vs b bs θ θ=>by
  obtain ⟨t,rfl⟩:=of_str b
  obtain ⟨v,r,rfl,bv,br⟩:=all_cons_iff.mp bs
  obtain rfl:=all_nil_iff.mp br
  obtain ⟨t',rfl⟩:=of_str bv
  exact call_gives F.slot_str_find (typeIs_str _ _ _) F.entry_str_find (F.args_str_find_2 _ _) (gives_find2 x y t t') ⟨To.toks _ _,bears_int⟩
theorem op_find4 {x y:Str} {i j:Int}:∀ N s u vs,Bears N s.heap (.str x) u->BearsAll N s.heap [.str y,.int i,.int j] vs->Op w s₁ N A s (call (.builtin "str.find") (u::vs)) fun v s'=>Bears N s'.heap (.int (findIn x y (fromIndex x.length i) (min (fromIndex x.length j) x.length))) v:=fun N s u vs b bs θ θ=>by
  obtain ⟨t,rfl⟩:=of_str b
  obtain ⟨v,r,rfl,bv,br⟩:=all_cons_iff.mp bs
  obtain ⟨v2,r2,rfl,bv2,br2⟩:=all_cons_iff.mp br
  obtain ⟨v3,r3,rfl,bv3,br3⟩:=all_cons_iff.mp br2
  obtain rfl:=all_nil_iff.mp br3
  obtain ⟨t',rfl⟩:=of_str bv
  obtain ⟨t2,rfl⟩:=of_int bv2
  obtain ⟨t3,rfl⟩:=of_int bv3
  exact call_gives F.slot_str_find (typeIs_str _ _ _) F.entry_str_find (F.args_str_find_4 _ _ _ _) (gives_find4 x y i j t t' t2 t3) ⟨To.toks _ _,bears_int⟩
theorem op_rfind4 {x y:Str} {i j:Int}:∀ N s u vs,Bears N s.heap (.str x) u->BearsAll N s.heap [.str y,.int i,.int j] vs->Op w s₁ N A s (call (.builtin "str.rfind") (u::vs)) fun v s'=>Bears N s'.heap (.int (rfindIn x y (fromIndex x.length i) (min (fromIndex x.length j) x.length))) v:=fun N s u vs b bs θ θ=>by
  obtain ⟨t,rfl⟩:=of_str b
  obtain ⟨v,r,rfl,bv,br⟩:=all_cons_iff.mp bs
  obtain ⟨v2,r2,rfl,bv2,br2⟩:=all_cons_iff.mp br
  obtain ⟨v3,r3,rfl,bv3,br3⟩:=all_cons_iff.mp br2
  obtain rfl:=all_nil_iff.mp br3
  obtain ⟨t',rfl⟩:=of_str bv
  obtain ⟨t2,rfl⟩:=of_int bv2
  obtain ⟨t3,rfl⟩:=of_int bv3
  exact call_gives F.slot_str_rfind (typeIs_str _ _ _) F.entry_str_rfind (F.args_str_rfind_4 _ _ _ _) (gives_rfind4 x y i j t t' t2 t3) ⟨To.toks _ _,bears_int⟩
end
noncomputable def stripFn (x:Str):Str:=
  let i₁:=findIn x (Str.ofString "\n") 0 x.length
  let e₁:Int:=if i₁≥0 then i₁ else x.length
  let i₂:=findIn x (Str.ofString ":") (fromIndex x.length 0) (min (fromIndex x.length e₁) x.length)
  let e₂:Int:=if i₂≥0 then i₂ else e₁
  let i₃:=rfindIn x (Str.ofString ".") (fromIndex x.length 0) (min (fromIndex x.length e₂) x.length)
  let st:Int:=if i₃≥0 then i₃+1 else 0
  Txt.slice x (some st) (some e₂)
section
variable {w:World} {s₁ sb s:Shared} {N:Addr->Prop} {A:Around} {env:Env} {ρ:List (Str × D)} {γ:List (D × Value)} {X:Loc->Prop} {E:Value->Shared->Prop} {Q:Flow->Shared->Prop}
theorem xs_tuple (G:GW w s₁) (hh:HOk A s) (hh2:∀ s s',HOk A s->To X s s'->HOk A s') {elts:List Expr} {k:Nat} {tp pos:Pos} {e:Expr} {ds:List D} {bs:List (Str × D)} {rest:List Stmt} (R:Rel s₁ N X sb env ρ γ s) (v:Ev w s₁ A env ρ e (.tup ds))
    (y:AsL w s₁ N A env X (HOk A) ((assignEach elts env).map (·.2)) ds bs)
    (hst:(assignEach elts env).findIdx? (·.1)=none)
    (hs:swapsWithSole [.Tuple elts k tp] e pos.line env=pure false) (hw:swappedStores [.Tuple elts k tp] e env=pure none)
    (h:∀ s',To X s s'->Kp s s'->Rel s₁ N X sb env (bs++ρ) γ s'->Xs w A env rest Q E s'):Xs w A env (.Assign [.Tuple elts k tp] e pos::rest) Q E s:=
  xs_cons ⟨Assign_Tuple (v.use R fun u s' T b=>as_tuple G (fun θ h=>h) hh2 y hst sb ρ γ s' u _ _ (hh.to T) (R.step T) b fun s'' T' K' R'=>h s'' (T.of_no.trans T') ((Kp.of_to T).trans K') R') hs hw⟩
theorem xs_tuple_swap (G:GW w s₁) (hh:HOk A s) (hh2:∀ s s',HOk A s->To X s s'->HOk A s') {elts:List Expr} {k:Nat} {tp pos:Pos} {e:Expr} {ds:List D} {bs:List (Str × D)} {rest:List Stmt} {names:List Str} (R:Rel s₁ N X sb env ρ γ s) (v:Ev w s₁ A env ρ e (.tup ds))
    (hn:names.length=ds.length) (y:AsL w s₁ N A env X (HOk A) (names.reverse.map fun n=>bindName env n) ds.reverse bs)
    (hs:swapsWithSole [.Tuple elts k tp] e pos.line env=pure false) (hw:swappedStores [.Tuple elts k tp] e env=pure (some names))
    (h:∀ s',To X s s'->Kp s s'->Rel s₁ N X sb env (bs++ρ) γ s'->Xs w A env rest Q E s'):Xs w A env (.Assign [.Tuple elts k tp] e pos::rest) Q E s:=
  xs_cons ⟨Assign_Tuple_swapped (v.use R fun u s' T b=>unpack_tup G hn b (R.step T).inv (hh.to T) fun vs s'' T' ba=>
    y.run hh2 ((hh.to T).to T') ((R.step T).step T') (all_reverse ba) fun s₃ T₃ K₃ R₃=>h s₃ ((T.trans T').of_no.trans T₃) ((Kp.of_to (T.trans T')).trans K₃) R₃) hs hw⟩
theorem Rel.load {x:Str} {d:D} {Q:Value->Shared->Prop} (R:Rel s₁ N X sb env ρ γ s) (hk:env.scope.kind=.function) (hl:env.kindOf x=some .local∨env.kindOf x=some .cell) (hd:ρ.lookup x=some d) (h:∀ v,Bears N s.heap d v->Q v s):wpAny (Mo w) A (loadName env x) Q E s:=by
  rcases hl with hl | hl
  · obtain ⟨m,hm,k⟩:=R.ns
    obtain ⟨v,e,b⟩:=k x d hl hd
    exact wpAny_loadName_local hk hl hm e (h v b)
  · obtain ⟨c,ov,hc,hi,_,r⟩:=R.cel x _ hl (.inl rfl)
    obtain ⟨v,rfl,b⟩:=r d hd
    exact wpAny_loadName_cell hk hl hc hi (h v b)
theorem xs_aug {x:Str} {p pos:Pos} {op:Operator} {e:Expr} {a b d:D} {rest:List Stmt} (R:Rel s₁ N X sb env ρ γ s) (S:Sto X env x) (hd:ρ.lookup x=some a) (v:Ev w s₁ A env ρ e b)
    (ho:∀ N s u v,Bears N s.heap a u->Bears N s.heap b v->Op w s₁ N A s (inplaceOp op u v) fun z s'=>Bears N s'.heap d z)
    (h:∀ s',To X s s'->Kp s s'->Rel s₁ N X sb env ((x,d)::ρ) γ s'->Xs w A env rest Q E s'):Xs w A env (.AugAssign (.Name x p) op e pos::rest) Q E s:=
  xs_cons ⟨wpAny_AugAssign_Name (R.load S.1 (S.2.imp id (·.1)) hd fun u bu=>v.use R fun z s' T bz=>wpAny_mono (ho N s' u z (bu.to T) bz (R.inv.trans T) (R.step T).nex) (fun r s'' h'=>
    ((R.step T).step h'.1).store h'.2 S fun s₃ T₃ K₃ R₃=>h s₃ ((T.trans h'.1).of_no.trans T₃) ((Kp.of_to (T.trans h'.1)).trans K₃) R₃) fun θ θ h=>h.elim)⟩
section
variable {a b:Int}
theorem i_ii {op:Operator} {d:D} (h:∀ (N:Addr->Prop) s (t u:Tok),wpAny (Mo w) A (inplaceOp op (.int a t) (.int b u)) (fun v s'=>To no s s'∧Bears N s'.heap d v) (fun θ θ=>False) s) :
    ∀ N s u v,Bears N s.heap (.int a) u->Bears N s.heap (.int b) v->Op w s₁ N A s (inplaceOp op u v) fun z s'=>Bears N s'.heap d z:=fun N s u v x y θ θ=>by
  obtain ⟨t,rfl⟩:=of_int x
  obtain ⟨t',rfl⟩:=of_int y
  exact h N s t t'
theorem i_add:∀ N s u v,Bears N s.heap (.int a) u->Bears N s.heap (.int b) v->Op w s₁ N A s (inplaceOp .Add u v) fun z s'=>Bears N s'.heap (.int (a+b)) z:=i_ii fun θ θ θ θ=>PyProof.Rows.iadd_int ⟨To.toks _ _,bears_int⟩
theorem i_sub:∀ N s u v,Bears N s.heap (.int a) u->Bears N s.heap (.int b) v->Op w s₁ N A s (inplaceOp .Sub u v) fun z s'=>Bears N s'.heap (.int (a-b)) z:=i_ii fun θ θ θ θ=>PyProof.Rows.isub_int ⟨To.toks _ _,bears_int⟩
theorem i_or:∀ N s u v,Bears N s.heap (.int a) u->Bears N s.heap (.int b) v->Op w s₁ N A s (inplaceOp .BitOr u v) fun z s'=>Bears N s'.heap (.int (Builtin.bitOr a b)) z:=i_ii fun θ θ θ θ=>ior_int ⟨To.toks _ _,bears_int⟩
theorem i_xor:∀ N s u v,Bears N s.heap (.int a) u->Bears N s.heap (.int b) v->Op w s₁ N A s (inplaceOp .BitXor u v) fun z s'=>Bears N s'.heap (.int (Builtin.bitXor a b)) z:=i_ii fun θ θ θ θ=>ixor_int ⟨To.toks _ _,bears_int⟩
theorem i_shl (h:0≤b) (hs:(Builtin.Int.intBits a:Int)+b≤2^27):∀ N s u v,Bears N s.heap (.int a) u->Bears N s.heap (.int b) v->Op w s₁ N A s (inplaceOp .LShift u v) fun z s'=>Bears N s'.heap (.int (a*2^b.toNat)) z:=i_ii fun θ θ θ θ=>ilshift_int h hs ⟨To.toks _ _,bears_int⟩
theorem i_shr (h:0≤b):∀ N s u v,Bears N s.heap (.int a) u->Bears N s.heap (.int b) v->Op w s₁ N A s (inplaceOp .RShift u v) fun z s'=>Bears N s'.heap (.int (a.fdiv (2^b.toNat))) z:=i_ii fun θ θ θ θ=>irshift_int h ⟨To.toks _ _,bears_int⟩
end
theorem xs_while {test:Expr} {body orelse rest:List Stmt} {pos:Pos} (R:Rel s₁ N X sb env ρ γ s)
    (J:Nat->List (Str × D)->Prop) (c:List (Str × D)->Bool) (m₀:Nat) (j₀:J m₀ ρ)
    (ht:∀ m ρ',J m ρ'->Ts w s₁ A env ρ' test (c ρ'))
    (turn:∀ m ρ' s',J m ρ'->c ρ'=true->Rel s₁ N X sb env ρ' γ s'->Xs w A env body (fun f s''=>match f with
      | .next | .cont=>∃ m' ρ'',m'<m∧J m' ρ''∧Rel s₁ N X sb env ρ'' γ s''
      | .brk=>Xs w A env rest Q E s''
      | .ret v=>Q (.ret v) s'') (fun θ θ=>False) s')
    (fin:∀ m ρ' s',J m ρ'->c ρ'=false->Rel s₁ N X sb env ρ' γ s'->Xs w A env orelse (fun f s''=>match f with | .next=>Xs w A env rest Q E s'' | f=>Q f s'') (fun θ θ=>False) s') :
    Xs w A env (.While test body orelse pos::rest) Q E s:=by
  refine xs_cons ⟨wpAny_While (codeAny_whileLoop (fun m s'=>∃ ρ',J m ρ'∧Rel s₁ N X sb env ρ' γ s') (fun m s' h=>?_) m₀ ⟨ρ,j₀,R⟩)⟩
  obtain ⟨ρ',j,R'⟩:=h
  refine (ht m ρ' j).use R' fun b s'' T e=>?_
  subst e
  cases hc:c ρ' with
  | true=>
    simp only [if_true]
    refine wpAny_mono (turn m ρ' s'' j hc (R'.step T)).run (fun f s₃ h=>?_) fun θ θ h=>h.elim
    cases f with
    | next=>obtain ⟨m',ρ'',hm,j',R''⟩:=h;exact ⟨m',hm,ρ'',j',R''⟩
    | cont=>obtain ⟨m',ρ'',hm,j',R''⟩:=h;exact ⟨m',hm,ρ'',j',R''⟩
    | brk=>exact h
    | ret v=>exact h
  | false=>
    simp only [Bool.false_eq_true,if_false]
    exact wpAny_mono (fin m ρ' s'' j hc (R'.step T)).run (fun f s₃ h=>by cases f<;>exact h) fun θ θ h=>h.elim
theorem Rel.fewer {N':Addr->Prop} (hn:∀ a,N' a->N a) (R:Rel s₁ N X sb env ρ γ s):Rel s₁ N' X sb env ρ γ s where
  inv:=R.inv
  to:=R.to
  xnew:=R.xnew
  xloc:=R.xloc
  ns:=let ⟨m,h,k⟩:=R.ns;⟨m,h,fun y d hk hd=>let ⟨v,e,b⟩:=k y d hk hd;⟨v,e,b.fewer hn⟩⟩
  cel:=fun y k hk hq=>let ⟨c,ov,hc,hi,ht,r⟩:=R.cel y k hk hq;⟨c,ov,hc,hi,ht,fun d hd=>let ⟨v,e,b⟩:=r d hd;⟨v,e,b.fewer hn⟩⟩
  apart:=R.apart
  ltab:=R.ltab
  gh:=fun p hp=>(R.gh p hp).fewer hn
  nex:=fun a h=>R.nex a (hn a h)
  tabs:=R.tabs
end
section
variable {w:World} {s₁:Shared} {A:Around}
theorem all_ints {N:Addr->Prop} {h:Heap}:∀ {ns:List Int} {vs:List Value},BearsAll N h (ns.map D.int) vs->∃ xs:List (Int × Tok),vs=xs.map (fun p=>Value.int p.1 p.2)∧xs.map (·.1)=ns
  | [],vs,b=>by rw [List.map_nil,all_nil_iff] at b;exact ⟨[],b,rfl⟩
  | n::ns,vs,b=>by
    rw [List.map_cons] at b
    obtain ⟨v,r,rfl,b1,b2⟩:=all_cons_iff.mp b
    obtain ⟨t,rfl⟩:=of_int b1
    obtain ⟨xs,rfl,rfl⟩:=all_ints b2
    exact ⟨(n,t)::xs,rfl,rfl⟩
theorem intItems_of (xs:List (Int × Tok)):(xs.map fun p=>Value.int p.1 p.2).toArray=intItems xs.toArray:=by simp [intItems]
theorem lst_ints {N:Addr->Prop} {s:Shared} {ns:List Int} {v:Value} (b:Bears N s.heap (.lst (ns.map D.int)) v):∃ l xs,v=.ref l∧s.heap.IsList l (intItems xs)∧xs.toList.map (·.1)=ns:=by
  obtain ⟨a,vs,rfl,_,hl,ba⟩:=of_lst b
  obtain ⟨xs,rfl,rfl⟩:=all_ints ba
  rw [intItems_of] at hl
  exact ⟨a,xs.toArray,rfl,hl,rfl⟩
noncomputable def maxL (ns:List Int):Int:=ns.max?.getD 0
noncomputable def minL (ns:List Int):Int:=ns.min?.getD 0
theorem maxL_eq {ns:List Int} {M:Int} (h:M∈ns) (h2:∀ a,a∈ns->a≤M):maxL ns=M:=by
  unfold maxL
  rw [List.max?_eq_some_iff.mpr ⟨h,h2⟩];rfl
theorem minL_eq {ns:List Int} {M:Int} (h:M∈ns) (h2:∀ a,a∈ns->M≤a):minL ns=M:=by
  unfold minL
  rw [List.min?_eq_some_iff.mpr ⟨h,h2⟩];rfl
theorem one_arg {N:Addr->Prop} {h:Heap} {d:D} {vs:List Value} (b:BearsAll N h [d] vs):∃ v,vs=[v]∧Bears N h d v:=by
  obtain ⟨v,r,rfl,b1,b2⟩:=all_cons_iff.mp b
  rw [all_nil_iff] at b2
  subst b2
  exact ⟨v,rfl,b1⟩
theorem two_args {N:Addr->Prop} {h:Heap} {d e:D} {vs:List Value} (b:BearsAll N h [d,e] vs):∃ v u,vs=[v,u]∧Bears N h d v∧Bears N h e u:=by
  obtain ⟨v,r,rfl,b1,b2⟩:=all_cons_iff.mp b
  obtain ⟨u,rfl,b3⟩:=one_arg b2
  exact ⟨v,u,rfl,b1,b3⟩
theorem op_max_lst (hh:A.handled=none) {ns:List Int} (hne:ns≠[]):∀ N s vs,BearsAll N s.heap [.lst (ns.map D.int)] vs->Op w s₁ N A s (call (.builtin "max") vs) fun v s'=>Bears N s'.heap (.int (maxL ns)) v:=fun N s vs b θ θ=>by
  obtain ⟨v,rfl,b'⟩:=one_arg b
  obtain ⟨l,xs,rfl,hl,rfl⟩:=lst_ints b'
  have hsz:0<xs.size:=by cases xs with | mk l=>cases l with | nil=>exact absurd rfl hne | cons a b=>simp
  refine max_intList hh hl hsz fun v h' tk hv hk=>?_
  obtain ⟨t,rfl⟩:=intItems_at hv
  obtain ⟨h1,h2⟩:=argBest_gt (numAt xs) (xs.size-1)
  refine ⟨To.heap hk,?_⟩
  rw [maxL_eq (M:=numAt xs (argBest (fun i j=>decide (numAt xs i>numAt xs j)) (xs.size-1)))]
  · exact bears_int
  · rw [numAt_eq];exact getD_mem (by rw [List.length_map,Array.length_toList];omega)
  · intro a ha
    obtain ⟨j,hj,rfl⟩:=mem_getD ha
    rw [List.length_map,Array.length_toList] at hj
    rw [← numAt_eq];exact h2 j (by omega)
theorem op_min_lst (hh:A.handled=none) {ns:List Int} (hne:ns≠[]):∀ N s vs,BearsAll N s.heap [.lst (ns.map D.int)] vs->Op w s₁ N A s (call (.builtin "min") vs) fun v s'=>Bears N s'.heap (.int (minL ns)) v:=fun N s vs b θ θ=>by
  obtain ⟨v,rfl,b'⟩:=one_arg b
  obtain ⟨l,xs,rfl,hl,rfl⟩:=lst_ints b'
  have hsz:0<xs.size:=by cases xs with | mk l=>cases l with | nil=>exact absurd rfl hne | cons a b=>simp
  refine min_intList hh hl hsz fun v h' tk hv hk=>?_
  obtain ⟨t,rfl⟩:=intItems_at hv
  obtain ⟨h1,h2⟩:=argBest_lt (numAt xs) (xs.size-1)
  refine ⟨To.heap hk,?_⟩
  rw [minL_eq (M:=numAt xs (argBest (fun i j=>decide (numAt xs i<numAt xs j)) (xs.size-1)))]
  · exact bears_int
  · rw [numAt_eq];exact getD_mem (by rw [List.length_map,Array.length_toList];omega)
  · intro a ha
    obtain ⟨j,hj,rfl⟩:=mem_getD ha
    rw [List.length_map,Array.length_toList] at hj
    rw [← numAt_eq];exact h2 j (by omega)
theorem op_max2 (hh:A.handled=none) {a b:Int}:∀ N s vs,BearsAll N s.heap [.int a,.int b] vs->Op w s₁ N A s (call (.builtin "max") vs) fun v s'=>Bears N s'.heap (.int (if b>a then b else a)) v:=fun N s vs x θ θ=>by
  obtain ⟨u,v,rfl,x',y⟩:=two_args x
  obtain ⟨t,rfl⟩:=of_int x'
  obtain ⟨t',rfl⟩:=of_int y
  refine max_two_ints hh fun h' tk hk=>⟨To.heap hk,?_⟩
  split<;>exact bears_int
theorem op_min2 (hh:A.handled=none) {a b:Int}:∀ N s vs,BearsAll N s.heap [.int a,.int b] vs->Op w s₁ N A s (call (.builtin "min") vs) fun v s'=>Bears N s'.heap (.int (if b<a then b else a)) v:=fun N s vs x θ θ=>by
  obtain ⟨u,v,rfl,x',y⟩:=two_args x
  obtain ⟨t,rfl⟩:=of_int x'
  obtain ⟨t',rfl⟩:=of_int y
  refine min_two_ints hh fun h' tk hk=>⟨To.heap hk,?_⟩
  split<;>exact bears_int
theorem op_sum (hh:A.handled=none) {ns:List Int}:∀ N s vs,BearsAll N s.heap [.lst (ns.map D.int)] vs->Op w s₁ N A s (call (.builtin "sum") vs) fun v s'=>Bears N s'.heap (.int ns.sum) v:=fun N s vs b θ θ=>by
  obtain ⟨v,rfl,b'⟩:=one_arg b
  obtain ⟨l,xs,rfl,hl,rfl⟩:=lst_ints b'
  refine sum_intListG hh hl fun h' tk t' hk=>⟨To.heap hk,?_⟩
  rw [preSum_eq,List.take_of_length_le (by simp)]
  exact bears_int
theorem args_max4 (a b c d:Value):argsOk "max" ⟨[a,b,c,d],[]⟩:=by unfold argsOk;kernel_rfl
theorem call_max_four {a b c d:Value} {s:Shared} {E:Value->Shared->Prop} {Q:Value->Shared->Prop}
    (h:wpAny (Mo w) A.in1 (pyIter (.ref s.heap.objs.size)) (fun it s₂=>∃ I fp wr n P St bt,it=.ref I∧Walks prog w A.in1 I fp wr n P St∧St 0 s₂.heap∧(∀ b∈fp,b<s₂.heap.objs.size)∧0<n∧CmpOf prog w A.in1 .Gt P bt ∧
      ∀ v h' tk,P (argBest bt (n-1)) v->(∀ b o,b∉wr->s₂.heap.get? b=some o->h'.get? b=some o)->Q v { s₂ with heap:=h',toks:=tk }) E
      { s with heap:=s.heap.push { cls:=.type "tuple", data:=.seq #[a,b,c,d] } }) :
    wpAny (Mo w) A (call (.builtin "max") [a,b,c,d]) Q E s:=by
  have hname:(toString "max" ++ toString ".loop" : String) = "max.loop" := by decide
  refine call_function_tree F.kind_max F.plain_max F.entry_max (args_max4 _ _ _ _) ?_
  show wpAny _ A.in1 (Builtin.Builtins.bindParams "max" ["key", "default"] 0 ⟨[],[]⟩ >>= _) _ _ s
  refine wpAny_bind (wpAny_of_eq (show Builtin.Builtins.bindParams "max" ["key", "default"] 0 ⟨[],[]⟩=pure [none,none] from rfl) ?_)
  show wpAny _ A.in1 (newTuple [a,b,c,d] >>= _) _ _ s
  refine wpAny_bind (wpAny_newObj_type ?_)
  refine wpAny_bind (wpAny_mono h (fun it s₂ h₂=>?_) fun θ θ e=>e)
  obtain ⟨I,fp,wr,n,P,St,bt,rfl,W,hst,hfp,hn,hcmp,hQ⟩:=h₂
  refine wpAny_bind (wpAny_newObj_type ?_)
  have hSf:s₂.heap.objs.size∉fp:=fun hm=>Nat.lt_irrefl _ (hfp _ hm)
  rw [hname]
  refine wpAny_pure ⟨plainId_quiet F.plain_max_loop _,codeAny_max_loop_first W bt hcmp s₂.heap.objs.size hSf hn (W.frame _ _ _ hst fun b θ o e=>Heap.get?_push_of_some _ e) (Heap.get?_push_size _ rfl) fun v h' tk hP hk=>?_⟩
  exact hQ v h' tk hP fun b o hbw e=>hk b o hbw (Nat.ne_of_lt (Heap.lt_size e)) (Heap.get?_push_of_some _ e)
theorem op_max4 (hh:A.handled=none) {a b c d:Int}:∀ N s vs,BearsAll N s.heap [.int a,.int b,.int c,.int d] vs->Op w s₁ N A s (call (.builtin "max") vs) fun v s'=>Bears N s'.heap (.int (maxL [a,b,c,d])) v:=fun N s vs x θ θ=>by
  obtain ⟨xs,rfl,hx⟩:=all_ints (ns:=[a,b,c,d]) x
  obtain ⟨p1,p2,p3,p4,rfl⟩:=len4 (by have:=congrArg List.length hx;rwa [List.length_map] at this)
  have hT:(s.heap.push { cls:=.type "tuple", data:=.seq #[.int p1.1 p1.2,.int p2.1 p2.2,.int p3.1 p3.2,.int p4.1 p4.2] }).IsTuple s.heap.objs.size (intItems #[p1,p2,p3,p4]):=⟨_,Heap.get?_push_size _ rfl,rfl,0,by simp [intItems]⟩
  refine call_max_four (wpAny_pyIter_tuple hT ?_)
  have hsz:(s.heap.push { cls:=.type "tuple", data:=.seq #[.int p1.1 p1.2,.int p2.1 p2.2,.int p3.1 p3.2,.int p4.1 p4.2] }).objs.size=s.heap.objs.size+1:=Heap.size_push ..
  refine ⟨_,[_,s.heap.objs.size],[_],_,_,_,_,rfl,Walks.tuple (A:=A.in1) hh _ s.heap.objs.size (by rw [hsz];exact Nat.ne_of_lt (Nat.lt_succ_self _)) (intItems #[p1,p2,p3,p4]),
    ⟨⟨_,Heap.get?_push_size _ rfl,rfl,rfl⟩,hT.push _⟩,fun d hd=>?_,by simp [intItems],CmpOf.ints_gt (numAt #[p1,p2,p3,p4]) (fun θ θ=>intItems_at),fun v h' tk hP hk=>?_⟩
  · show d<((s.heap.push _).push _).objs.size
    rw [Heap.size_push,hsz]
    rcases List.mem_cons.mp hd with rfl | hd
    · rw [hsz];exact Nat.lt_succ_self _
    · rcases List.mem_cons.mp hd with rfl | hd
      · exact Nat.lt_succ_of_lt (Nat.lt_succ_self _)
      · cases hd
  · have hold:∀ d o,s.heap.get? d=some o->h'.get? d=some o:=fun d o e=>by
      refine hk d o (fun hm=>?_) (Heap.get?_push_of_some _ (Heap.get?_push_of_some _ e))
      rcases List.mem_cons.mp hm with e1 | hm
      · have:=Heap.lt_size e;rw [e1,hsz] at this;exact Nat.lt_irrefl _ (Nat.lt_of_succ_lt this)
      · cases hm
    refine ⟨To.heap hold,?_⟩
    have hP':(intItems #[p1,p2,p3,p4])[argBest (fun i j=>decide (numAt #[p1,p2,p3,p4] i>numAt #[p1,p2,p3,p4] j)) 3]?=some v:=by
      have hsz2:(intItems #[p1,p2,p3,p4]).size-1=3:=by unfold intItems;rw [Array.size_map];rfl
      rw [← hsz2];exact hP
    obtain ⟨t,rfl⟩:=intItems_at hP'
    obtain ⟨h1,h2⟩:=argBest_gt (numAt #[p1,p2,p3,p4]) 3
    have hx':[a,b,c,d]=#[p1,p2,p3,p4].toList.map (·.1):=hx.symm
    rw [hx',maxL_eq (M:=numAt #[p1,p2,p3,p4] (argBest (fun i j=>decide (numAt #[p1,p2,p3,p4] i>numAt #[p1,p2,p3,p4] j)) 3))]
    · exact bears_int
    · rw [numAt_eq];exact getD_mem (Nat.lt_of_le_of_lt h1 (show 3<4 by decide))
    · intro a ha
      obtain ⟨j,hj,rfl⟩:=mem_getD ha
      rw [List.length_map,Array.length_toList] at hj
      rw [← numAt_eq];exact h2 j (Nat.le_of_lt_succ hj)
end
mutual
noncomputable def py:D->PyData
  | .none=>.none
  | .bool b=>.bool b
  | .int i=>.int i
  | .str x=>.str x
  | .val _=>.none
  | .tup ds=>.tuple (pys ds)
  | .lst ds=>.list (pys ds)
noncomputable def pys:List D->List PyData
  | []=>[]
  | d::ds=>py d::pys ds
end
mutual
noncomputable def noval:D->Bool
  | .val _=>false
  | .tup ds=>novals ds
  | .lst ds=>novals ds
  | _=>true
noncomputable def novals:List D->Bool
  | []=>true
  | d::ds=>noval d&&novals ds
end
mutual
theorem Bears.reads {N:Addr->Prop} {h:Heap}:∀ {d:D} {v:Value},noval d=true->Bears N h d v->∃ as,Reads h v (py d) as
  | .none,v,_,b=>by rw [of_none b,py];exact ⟨_,.none⟩
  | .bool x,v,_,b=>by rw [of_bool b,py];exact ⟨_,.bool _⟩
  | .int i,v,_,b=>by obtain ⟨t,rfl⟩:=of_int b;rw [py];exact ⟨_,.int _ _⟩
  | .str i,v,_,b=>by obtain ⟨t,rfl⟩:=of_str b;rw [py];exact ⟨_,.str _ _⟩
  | .val u,v,n,b=>by rw [noval] at n;cases n
  | .tup ds,v,n,b=>by
    rw [noval] at n
    obtain ⟨a,vs,rfl,_,⟨o,ho,hc,k,hd⟩,ba⟩:=of_tup b
    obtain ⟨as,r⟩:=BearsAll.reads n ba
    rw [py];exact ⟨_,.tuple ho hc hd r⟩
  | .lst ds,v,n,b=>by
    rw [noval] at n
    obtain ⟨a,vs,rfl,_,⟨o,ho,hc,k,hd⟩,ba⟩:=of_lst b
    obtain ⟨as,r⟩:=BearsAll.reads n ba
    rw [py];exact ⟨_,.list ho hc hd r⟩
theorem BearsAll.reads {N:Addr->Prop} {h:Heap}:∀ {ds:List D} {vs:List Value},novals ds=true->BearsAll N h ds vs->∃ as,ReadsAll h vs (pys ds) as
  | [],vs,_,b=>by rw [all_nil_iff] at b;subst b;rw [pys];exact ⟨_,.nil⟩
  | d::ds,vs,n,b=>by
    rw [novals,Bool.and_eq_true] at n
    obtain ⟨v,r,rfl,b1,b2⟩:=all_cons_iff.mp b
    obtain ⟨as,r1⟩:=Bears.reads n.1 b1
    obtain ⟨bs,r2⟩:=BearsAll.reads n.2 b2
    rw [pys];exact ⟨_,.cons r1 r2⟩
end
section
variable {w:World} {s₁:Shared} {A:Around}
noncomputable def okD (d:D):Bool:=noval d&&PySem.SeqAt.shaped (py d)
theorem op_eq_data (hu:A.units+64<cLine) {a b:D} (ha:okD a=true) (hb:okD b=true):∀ N s u v,Bears N s.heap a u->Bears N s.heap b v->Op w s₁ N A s (compareOp .Eq u v) fun z s'=>Bears N s'.heap (.bool (PyData.eqv (py a) (py b))) z:=fun N s u v x y θ θ=>by
  unfold okD at ha hb
  rw [Bool.and_eq_true] at ha hb
  obtain ⟨as,ra⟩:=x.reads ha.1
  obtain ⟨bs,rb⟩:=y.reads hb.1
  exact eq_dataH ra rb ha.2 hb.2 hu ⟨To.refl _ _,bears_bool⟩
theorem op_ne_data (hu:A.units+64<cLine) {a b:D} (ha:okD a=true) (hb:okD b=true):∀ N s u v,Bears N s.heap a u->Bears N s.heap b v->Op w s₁ N A s (compareOp .NotEq u v) fun z s'=>Bears N s'.heap (.bool (!PyData.eqv (py a) (py b))) z:=fun N s u v x y θ θ=>by
  unfold okD at ha hb
  rw [Bool.and_eq_true] at ha hb
  obtain ⟨as,ra⟩:=x.reads ha.1
  obtain ⟨bs,rb⟩:=y.reads hb.1
  exact ne_dataH ra rb ha.2 hb.2 hu ⟨To.refl _ _,bears_bool⟩
theorem eqv_self {a:D} (ha:okD a=true):PyData.eqv (py a) (py a)=true:=by
  unfold okD PySem.SeqAt.shaped at ha
  rw [Bool.and_eq_true,Bool.and_eq_true] at ha
  exact PySem.SeqAt.eqv_refl _ ha.2.1
noncomputable def isN:D->Bool
  | .none=>true
  | _=>false
theorem isN_of {N:Addr->Prop} {h:Heap} {d:D} {u:Value} (hv:noval d=true) (x:Bears N h d u):(u==Value.none)=isN d:=by
  cases d with
  | none=>rw [of_none x];rfl
  | bool b=>rw [of_bool x];rfl
  | int b=>obtain ⟨t,rfl⟩:=of_int x;rfl
  | str b=>obtain ⟨t,rfl⟩:=of_str x;rfl
  | val b=>rw [noval] at hv;cases hv
  | tup b=>obtain ⟨a,vs,rfl,_⟩:=of_tup x;rfl
  | lst b=>obtain ⟨a,vs,rfl,_⟩:=of_lst x;rfl
theorem op_is_none {d:D} (hv:noval d=true):∀ N s u v,Bears N s.heap d u->Bears N s.heap .none v->Op w s₁ N A s (compareOp .Is u v) fun z s'=>Bears N s'.heap (.bool (isN d)) z:=fun N s u v x y θ θ=>by
  rw [of_none y]
  exact is_none_gen ⟨To.refl _ _,by rw [isN_of hv x];exact bears_bool⟩
theorem op_isnot_none {d:D} (hv:noval d=true):∀ N s u v,Bears N s.heap d u->Bears N s.heap .none v->Op w s₁ N A s (compareOp .IsNot u v) fun z s'=>Bears N s'.heap (.bool (!isN d)) z:=fun N s u v x y θ θ=>by
  rw [of_none y]
  exact isnot_none_gen ⟨To.refl _ _,by rw [isN_of hv x];exact bears_bool⟩
theorem op_isnot_bool {c d:Bool}:∀ N s u v,Bears N s.heap (.bool c) u->Bears N s.heap (.bool d) v->Op w s₁ N A s (compareOp .IsNot u v) fun z s'=>Bears N s'.heap (.bool (c != d)) z:=fun N s u v x y θ θ=>by
  rw [of_bool x,of_bool y];exact isnot_bool ⟨To.refl _ _,bears_bool⟩
theorem op_add_lst {a b:List D} (h:a.length+b.length≤sizeLine):∀ N s u v,Bears N s.heap (.lst a) u->Bears N s.heap (.lst b) v->Op w s₁ N A s (binaryOp .Add u v) fun z s'=>Bears N s'.heap (.lst (a++b)) z:=fun N s u v x y θ nex=>by
  obtain ⟨l,vs,rfl,_,⟨n,hl⟩,ba⟩:=of_lst' x
  obtain ⟨m,us,rfl,_,⟨k,hm⟩,bb⟩:=of_lst' y
  refine P.add_list hl hm ⟨To.push _ _,?_⟩ (by rw [List.size_toArray,List.size_toArray,all_length ba,all_length bb];exact h)
  rw [show vs.toArray++us.toArray=(vs++us).toArray by simp]
  exact bears_lst nex.size ⟨_,Heap.get?_push_size _ rfl⟩ ((all_append ba bb).to (To.push s _))
theorem op_len_lst {a:List D} (h:a.length<2^63):∀ N s vs,BearsAll N s.heap [.lst a] vs->Op w s₁ N A s (call (.builtin "len") vs) fun v s'=>Bears N s'.heap (.int a.length) v:=fun N s vs b θ θ=>by
  obtain ⟨v,rfl,b'⟩:=one_arg b
  obtain ⟨l,vs,rfl,_,hl,ba⟩:=of_lst b'
  refine PyProof.Rows.len_list hl (by rw [List.size_toArray,all_length ba];exact_mod_cast h) ⟨To.toks _ _,?_⟩
  rw [List.size_toArray,all_length ba];exact bears_int
theorem ints_are:∀ (xs:List (Int × Tok)),IntsAre (xs.map fun p=>Value.int p.1 p.2) (xs.map (·.1))
  | []=>.nil
  | (n,t)::r=>.cons n t (ints_are r)
theorem op_count {ns:List Int} {k:Int}:∀ N s u vs,Bears N s.heap (.lst (ns.map D.int)) u->BearsAll N s.heap [.int k] vs->Op w s₁ N A s (call (.builtin "list.count") (u::vs)) fun v s'=>Bears N s'.heap (.int (ns.count k:Nat)) v:=fun N s u vs b bs θ θ=>by
  obtain ⟨v,rfl,b'⟩:=one_arg bs
  obtain ⟨t,rfl⟩:=of_int b'
  obtain ⟨l,us,rfl,_,hl,ba⟩:=of_lst b
  obtain ⟨xs,rfl,rfl⟩:=all_ints ba
  exact count_list_ints hl (ints_are xs) ⟨To.toks _ _,bears_int⟩
theorem is_lst {N:Addr->Prop} {s:Shared} {x:List D} {u:Value} (b:Bears N s.heap (.lst x) u):s.TypeIs u "list" ∧ ∀ a,u=.ref a->∃ ob,s.heap.get? a=some ob∧ob.dict=none:=by
  obtain ⟨l,us,rfl,_,⟨n,hl⟩,ba⟩:=of_lst' b
  exact ⟨⟨_,hl,rfl⟩,fun a e=>by cases e;exact ⟨_,hl,rfl⟩⟩
theorem is_int {N:Addr->Prop} {s:Shared} {x:Int} {u:Value} (b:Bears N s.heap (.int x) u):s.TypeIs u "int" ∧ ∀ a,u=.ref a->∃ ob,s.heap.get? a=some ob∧ob.dict=none:=by
  obtain ⟨t,rfl⟩:=of_int b
  exact ⟨typeIs_int _ _ _,fun a e=>by cases e⟩
theorem op_bitlen {a:Int}:∀ N s u vs,Bears N s.heap (.int a) u->BearsAll N s.heap [] vs->Op w s₁ N A s (call (.builtin "int.bit_length") (u::vs)) fun v s'=>Bears N s'.heap (.int (Builtin.Int.intBits a:Nat)) v:=fun N s u vs b bs θ θ=>by
  rw [all_nil_iff] at bs;subst bs
  obtain ⟨t,rfl⟩:=of_int b
  exact call_int_bit_length ⟨To.toks _ _,bears_int⟩
theorem op_int_bool {b:Bool}:∀ N s vs,BearsAll N s.heap [.bool b] vs->Op w s₁ N A s (call (.type "int") vs) fun v s'=>Bears N s'.heap (.int (if b then 1 else 0)) v:=fun N s vs x θ θ=>by
  obtain ⟨v,rfl,x'⟩:=one_arg x
  rw [of_bool x']
  exact call_int_bool ⟨To.toks _ _,bears_int⟩
theorem op_divmod {a b:Int} (hb:b≠0) (hp:Builtin.divisionGoesByPylong a b=false):∀ N s vs,BearsAll N s.heap [.int a,.int b] vs->Op w s₁ N A s (call (.builtin "divmod") vs) fun v s'=>Bears N s'.heap (.tup [.int (a.fdiv b),.int (a.fmod b)]) v:=fun N s vs x θ nex=>by
  obtain ⟨u,v,rfl,x',y⟩:=two_args x
  obtain ⟨t,rfl⟩:=of_int x'
  obtain ⟨t',rfl⟩:=of_int y
  refine divmod_int hb ⟨To.heap (fun b o e=>Heap.get?_push_of_some _ e),?_⟩ (.inl hp)
  exact bears_tup nex.size ⟨_,Heap.get?_push_size _ rfl,rfl,_,rfl⟩ (all_cons bears_int (all_cons bears_int all_nil))
theorem op_notin_str {x y:Str}:∀ N s u v,Bears N s.heap (.str y) u->Bears N s.heap (.str x) v->Op w s₁ N A s (compareOp .NotIn u v) fun z s'=>Bears N s'.heap (.bool (!Txt.contains x y)) z:=fun N s u v a b θ θ=>by
  obtain ⟨t,rfl⟩:=of_str a
  obtain ⟨t',rfl⟩:=of_str b
  exact SB.notContains ⟨To.refl _ _,bears_bool⟩
theorem op_mul_str {x:Str} {n:Int} (hok:MulOk x n):∀ N s u v,Bears N s.heap (.str x) u->Bears N s.heap (.int n) v->Op w s₁ N A s (binaryOp .Mult u v) fun z s'=>Bears N s'.heap (.str (Txt.mul x n)) z:=fun N s u v a b θ θ=>by
  obtain ⟨t,rfl⟩:=of_str a
  obtain ⟨t',rfl⟩:=of_int b
  exact SB.mul hok fun t' k=>⟨To.toks _ _,bears_str⟩
end
theorem ty_ne {a b:String} (h:a≠b):Value.type a≠Value.type b:=fun q=>h (by cases q;rfl)
theorem To.keeps {X:Loc->Prop} {s:Shared} {h:Heap} {t:Nat} (hk:∀ b o,¬ X (.inl b)->s.heap.get? b=some o->h.get? b=some o) (ht:∀ a,X (.inl a)->Turns s a):To X s { s with heap:=h,toks:=t }:=
  ⟨fun b o hb θ e=>hk b o hb e,fun P hP vs e=>⟨#[],by rw [Array.append_empty];exact hk P _ (fun q=>(ht P q).nt hP) e,.nil⟩,fun b o hr e=>hk b o (fun q=>(ht b q).nr o e hr) e,fun θ θ θ e=>e,id,rfl⟩
theorem Kp.keeps {s:Shared} {h:Heap} {t:Nat} (hk:∀ b o,(o.cls=.type "tuple" ∨ o.cls=.type "list")->s.heap.get? b=some o->h.get? b=some o):Kp s { s with heap:=h,toks:=t }:=
  ⟨fun b=>b.keeps (fun a o θ e hc=>hk a o hc e) fun θ θ n θ=>n⟩
section
variable {w:World} {s₁:Shared} {A:Around} {env:Env} {ρ:List (Str × D)}
theorem evit_of {n:Nat} {tg:Expr->Prop} {e:Expr} {ds:List D} {P:(Addr->Prop)->Value->Shared->Prop} (x:Gv w s₁ A env ρ (eval e env) P)
    (h:∀ N t s v,To no t s->At s₁ t->Nex N s->P N v s->Itb w s₁ N n tg ds t v s):EvIt w s₁ A env ρ n tg e ds:=⟨fun N X sb γ s R=>x.use R fun v s' T p=>⟨T,h N s s' v T R.inv (R.step T).nex p⟩⟩
noncomputable def upto (a:Int) (k:Nat):List D:=(List.range k).map fun (i:Nat)=>D.int (a+i)
noncomputable def PRange (a b:Int) (_:Addr->Prop) (v:Value) (s:Shared):Prop:=∃ r t u x,v=.ref r∧IsRange s.heap r a b 1 t u x
theorem op_range1 {a:Int}:∀ N s vs,BearsAll N s.heap [.int a] vs->Op w s₁ N A s (call (.type "range") vs) (PRange 0 a N):=fun N s vs b θ θ=>by
  obtain ⟨v,rfl,b'⟩:=one_arg b
  obtain ⟨t,rfl⟩:=of_int b'
  exact call_range_1 ⟨To.heap (fun b o e=>Heap.get?_push_of_some _ e),_,_,_,_,rfl,Heap.get?_push_size _ rfl⟩
theorem op_range2 {a b:Int}:∀ N s vs,BearsAll N s.heap [.int a,.int b] vs->Op w s₁ N A s (call (.type "range") vs) (PRange a b N):=fun N s vs x θ θ=>by
  obtain ⟨u,v,rfl,x',y⟩:=two_args x
  obtain ⟨t,rfl⟩:=of_int x'
  obtain ⟨t',rfl⟩:=of_int y
  exact call_range_2 ⟨To.heap (fun b o e=>Heap.get?_push_of_some _ e),_,_,_,_,rfl,Heap.get?_push_size _ rfl⟩
theorem itb_range (G:GW w s₁) {n:Nat} {tg:Expr->Prop} {a b:Int} (ha:-(2^62)≤a) (ha':a<2^62) (hb:-(2^62)≤b) (hb':b<2^62) {N:Addr->Prop} {v:Value} {t s:Shared} (T₀:To no t s) (H₀:At s₁ t) (p:PRange a b N v s):Itb w s₁ N n tg (upto a (b-a).toNat) t v s:=fun A hA hh H=>by
  obtain ⟨r,t₁,u,x,rfl,hr⟩:=p
  refine wpAny_pyIter_range hr (small_one ha ha' hb hb') ?_
  have T:To no s { s with heap:=s.heap.push { cls:=.type "range_iterator", data:=.fields #[rawInt a,rawInt (Builtin.Range.rangeSize a b 1),rawInt 1] } }:=To.push _ _
  have hsz:Builtin.Range.rangeSize a b 1=((b-a).toNat:Int):=by rw [rangeSize_one];split<;>omega
  have hit:IsRangeIter (s.heap.push { cls:=.type "range_iterator", data:=.fields #[rawInt a,rawInt (Builtin.Range.rangeSize a b 1),rawInt 1] }) s.heap.objs.size a (b-a).toNat 1:=by rw [hsz];exact Heap.get?_push_size _ rfl
  refine ⟨[],one s.heap.objs.size,T,fun l q=>by rw [q];exact ⟨new_size G H₀ T₀,there_get hit⟩,(fun p hp=>by cases hp),fun N'=>⟨yld_range G (b-a).toNat a _ hit,fun A X s' H' T' D'=>?_⟩⟩
  have ho':=kept_get T' (fun q=>D' _ q rfl) hit rfl
  exact wpAny_pyIter_rangeiter ho' ⟨rfl,rfl⟩
noncomputable def isTup:Expr->Prop:=fun e=>∃ elts k p,e=.Tuple elts k p
noncomputable def enumD:Nat->List D->List D
  | _,[]=>[]
  | i,d::ds=>.tup [.int i,d]::enumD (i+1) ds
noncomputable def twoL (e it:Addr):Loc->Prop:=fun l=>l=.inl e∨l=.inl it
structure Inner (w:World) (N:Addr->Prop) (nd:List (D × Value)) (all:List D) (it:Addr) (In:Nat->Heap->Prop):Prop where
  obj:∀ i h,In i h->∃ o c,h.get? it=some o∧o.cls=.type c∧c ≠ "tuple" ∧ c ≠ "list" ∧ c ≠ "code"
  frame:∀ i h h',In i h->(∀ o,h.get? it=some o->h'.get? it=some o)->In i h'
  step:∀ A (s:Shared) i e oe,A.handled=none->In i s.heap->(∀ p,p∈nd->Bears N s.heap p.1 p.2)->e≠it->s.heap.get? e=some oe->oe.cls=.type "enumerate" ->
    ∃ fp P St,Draws prog w A it fp all.length P St∧St i s.heap∧e∉fp∧(∀ h,St (i+1) h->In (i+1) h)∧∀ x d,all[i]?=some d->P i x->Bears N s.heap d x
theorem yld_enum (G:GW w s₁) {N:Addr->Prop} {n:Nat} {nd:List (D × Value)} {all:List D} {e it:Addr} {In:Nat->Heap->Prop} (I:Inner w N nd all it In) (hei:e≠it) :
    ∀ (ds:List D) (i:Nat) (s:Shared),i≤all.length->all.drop i=ds->(∃ old,IsEnum s.heap e it i old)->In i s.heap->Yld w s₁ N n isTup nd (enumD i ds) (.ref e) (twoL e it) s
  | [],i,s,hle,hd,he,hi=>fun A X s' hA hh H T D nx K=>by
    obtain ⟨old,he⟩:=he
    have he':=kept_get T (fun q=>D _ q (.inl rfl)) he rfl
    have hi':In i s'.heap:=I.frame _ _ _ hi fun o ho=>by
      obtain ⟨o',c,ho',hc,_⟩:=I.obj _ _ hi
      rw [ho'] at ho;cases ho
      exact kept_get T (fun q=>D _ q (.inr rfl)) ho' hc
    obtain ⟨o,c,ho,hc,h1,h2,h3⟩:=I.obj _ _ hi'
    obtain ⟨fp,P,St,Dr,st,hef,_,_⟩:=I.step A.in1 s' i e _ hh hi' K hei he' rfl
    have hlen:i=all.length:=Nat.le_antisymm hle (List.drop_eq_nil_iff.mp hd)
    refine wpAny_pyNext_enum_endD Dr he' (by rw [← hlen];exact st) fun h' hs=>⟨rfl,To.ext (t:=s'.toks) hs (.inr rfl) (free_of (G.tabOk H) ho hc h3),Kp.ext (t:=s'.toks) hs ho hc h1 h2⟩
  | d::ds,i,s,hle,hd,he,hi=>fun A X s' hA hh H T D nx K=>by
    obtain ⟨old,he⟩:=he
    obtain ⟨hlt,hget,hrest⟩:=drop_get hd
    have he':=kept_get T (fun q=>D _ q (.inl rfl)) he rfl
    have hi':In i s'.heap:=I.frame _ _ _ hi fun o ho=>by
      obtain ⟨o',c,ho',hc,_⟩:=I.obj _ _ hi
      rw [ho'] at ho;cases ho
      exact kept_get T (fun q=>D _ q (.inr rfl)) ho' hc
    obtain ⟨o,c,ho,hc,h1,h2,h3⟩:=I.obj _ _ hi'
    obtain ⟨fp,P,St,Dr,st,hef,hnext,hb⟩:=I.step A.in1 s' i e _ hh hi' K hei he' rfl
    refine wpAny_pyNext_enum_itemD Dr he' st hlt hei hef fun x h' tk hP hout st' hT hsz hk=>?_
    have ht:∀ a,twoL e it (.inl a)->Turns s' a:=fun P q=>by
      rcases q with q | q
      · cases q;exact free_of (G.tabOk H) he' rfl
      · cases q;exact free_of (G.tabOk H) ho hc h3
    have T':To (twoL e it) s' { s' with heap:=h',toks:=tk+1 }:=To.keeps (fun b o hb e'=>hk b o (fun q=>hb (.inl (by rw [q]))) (fun q=>hb (.inr (by rw [q]))) e') ht
    have K':Kp s' { s' with heap:=h',toks:=tk+1 }:=Kp.keeps fun b o' hcl e'=>by
      refine hk b o' (fun q=>?_) (fun q=>?_) e'
      · subst q;rw [he'] at e';cases e';exact hcl.elim (ty_ne (by decide)) (ty_ne (by decide))
      · subst q;rw [ho] at e';cases e';rw [hc] at hcl;exact hcl.elim (ty_ne h1) (ty_ne h2)
    refine ⟨_,twoL e it,rfl,T',K',fun θ q=>.inl q,?_,fun target ht=>?_⟩
    · exact bears_tup (vs:=[.int i tk,x]) nx.size ⟨_,hT,rfl,_,rfl⟩ (all_cons bears_int (all_cons (K'.k (hb x d hget hP)) all_nil))
    · obtain ⟨elts,k,p,rfl⟩:=ht
      refine wpAny_letOwnedTupleGo_enum hout fun h₂ he₂ hs₂=>?_
      have hte:Turns { s' with heap:=h',toks:=tk+1 } e:=turns_cls (notab_of (G.tabOk H) he' rfl) hout rfl (by decide)
      refine ⟨To.but (s:={ s' with heap:=h',toks:=tk+1 }) (t:=tk+1) hs₂ (.inl rfl) hte,Kp.ext (s:={ s' with heap:=h',toks:=tk+1 }) (t:=tk+1) hs₂.extBut hout rfl (by decide) (by decide),?_⟩
      exact yld_enum G I hei ds (i+1) _ hlt hrest ⟨_,by exact_mod_cast he₂⟩ (I.frame _ _ _ (hnext _ st') fun o ho=>(hs₂.2 it (Ne.symm hei)).trans ho)
theorem inner_list {N:Addr->Prop} {all:List D} {l it:Addr}:Inner w N [(.lst all,.ref l)] all it (fun i h=>h.IsListIter it l i) where
  obj:=fun i h ⟨o,ho,hc,_⟩=>⟨o,_,ho,hc,by decide,by decide,by decide⟩
  frame:=fun i h h' ⟨o,ho,r⟩ k=>⟨o,k o ho,r⟩
  step:=fun A s i e oe hh hi K hei he hce=>by
    obtain ⟨a,vs,eq,hn,hl,ba⟩:=of_lst (K _ (.head _))
    cases eq
    have hli:l≠it:=fun q=>by
      subst q
      obtain ⟨o,ho,hc,_⟩:=hi
      obtain ⟨o',ho',hc',_⟩:=hl
      rw [ho] at ho';cases ho';rw [hc] at hc';exact ty_ne (by decide) hc'
    have hel:e≠l:=fun q=>by
      subst q
      obtain ⟨o',ho',hc',_⟩:=hl
      rw [he] at ho';cases ho';rw [hce] at hc';exact ty_ne (by decide) hc'
    have hlen:=all_length ba
    have Dr:=Draws.list (prog:=prog) (w:=w) hh it l hli vs.toArray
    rw [List.size_toArray,hlen] at Dr
    refine ⟨_,_,_,Dr,⟨hi,hl⟩,by simp [hei,hel],fun h st=>st.1,fun x d hd hx=>?_⟩
    obtain ⟨v,hv,b⟩:=all_get ba hd
    have:vs.toArray[i]?=some x:=hx
    rw [List.getElem?_toArray,hv] at this
    cases this
    exact b
theorem inner_str {N:Addr->Prop} {x:Str} {t:Tok} {it:Addr}:Inner w N [] (chars x) it (fun i h=>h.IsStrIter it "str_ascii_iterator" x t i) where
  obj:=fun i h ⟨o,ho,hc,_⟩=>⟨o,_,ho,hc,by decide,by decide,by decide⟩
  frame:=fun i h h' ⟨o,ho,r⟩ k=>⟨o,k o ho,r⟩
  step:=fun A s i e oe hh hi K hei he hce=>by
    have Dr:=Draws.strAscii (prog:=prog) (w:=w) hh it x t
    have hlen:x.cps.size=(chars x).length:=by simp [chars]
    rw [hlen] at Dr
    refine ⟨_,_,_,Dr,hi,by simp [hei],fun h st=>st,fun v d hd hx=>?_⟩
    obtain ⟨c,u,hc,rfl⟩:=hx
    unfold chars at hd
    rw [List.getElem?_map,Array.getElem?_toList,hc] at hd
    cases hd
    exact bears_str
theorem Itb.back (G:GW w s₁) {N:Addr->Prop} {n:Nat} {tg:Expr->Prop} {ds:List D} {v:Value} {t s s':Shared} (H₀:At s₁ t) (T:To no t s) (x:Itb w s₁ N n tg ds s v s'):Itb w s₁ N n tg ds t v s':=fun A hA hh H=>
  wpAny_mono (x A hA hh H) (fun it s₂ h=>by
    obtain ⟨nd,fp,T₂,hfp,hnd,itr⟩:=h
    exact ⟨nd,fp,T₂,fun l hl=>⟨NewAt.to (G.tabOk H₀) T (hfp l hl).1,(hfp l hl).2⟩,hnd,itr⟩) fun θ θ h=>h
theorem evit_callT (G:GW w s₁) {f e:Expr} {args:List Expr} {pos:Pos} {id:String} {n:Nat} {tg:Expr->Prop} {ds ds':List D} (x:Ev w s₁ A env ρ f (.val (.type id))) (y:Evs w s₁ A env ρ (backTo pos (starEach (e::args) env)) ds)
    (hc:eval (.Call f (e::args) [] pos) env=(do callWith pos (← eval f env) [] (backTo pos (starEach (e::args) env)) [])) (hs:starEach (e::args) env=(false,eval e env)::starEach args env) (hp:(backTo pos (starEach (e::args) env)).any (·.1)=false)
    (h:∀ N s vs,BearsAll N s.heap ds vs->At s₁ s->Nex N s->wpAny (Mo w) A (call (.type id) vs) (fun v s'=>To no s s'∧Itb w s₁ N n tg ds' s v s') (fun θ θ=>False) s):EvIt w s₁ A env ρ n tg (.Call f (e::args) [] pos) ds':=⟨fun N X sb γ s R=>by
  rw [hc]
  refine wpAny_bind (x.use R fun u s' T bu=>?_)
  obtain rfl:=of_val bu
  refine PyProof.Rows.callWith_type hp ?_
  rw [hs] at y ⊢
  exact Calls.evalArgs_plain (y.use (R.step T) fun vs s'' T' bs=>wpAny_mono (h N s'' vs bs (R.inv.trans (T.trans T')) ((R.step T).step T').nex) (fun θ θ z=>⟨(T.trans T').trans z.1,z.2.back G R.inv (T.trans T')⟩) fun θ θ z=>z.elim)⟩
theorem itb_enum (G:GW w s₁) {n:Nat} {N:Addr->Prop} {nd:List (D × Value)} {all:List D} {e it:Addr} {In:Nat->Heap->Prop} (hei:e≠it) {s s':Shared} (hne:NewAt s (.inl e)) (hni:NewAt s (.inl it)) (he:∃ old,IsEnum s'.heap e it 0 old) (hi:In 0 s'.heap)
    (hnd:∀ p,p∈nd->Bears N s'.heap p.1 p.2) (I:∀ N',Inner w N' nd all it In):Itb w s₁ N n isTup (enumD 0 all) s (.ref e) s':=fun A hA hh H=>by
  obtain ⟨old,he⟩:=he
  refine wpAny_pyIter_enum he ⟨nd,twoL e it,To.refl _ _,fun l q=>?_,hnd,fun N'=>⟨yld_enum G (I N') hei all 0 s' (Nat.zero_le _) (by simp) ⟨old,he⟩ hi,fun A X s'' H' T' D'=>?_⟩⟩
  · obtain ⟨o,c,ho,_⟩:=(I N).obj _ _ hi
    rcases q with rfl | rfl
    · exact ⟨hne,there_get he⟩
    · exact ⟨hni,there_get ho⟩
  · exact wpAny_pyIter_enum (kept_get T' (fun q=>D' _ q (.inl rfl)) he rfl) ⟨rfl,rfl⟩
theorem call_enum_lst (G:GW w s₁) {n:Nat} {all:List D}:∀ N s vs,BearsAll N s.heap [.lst all] vs->At s₁ s->Nex N s->wpAny (Mo w) A (call (.type "enumerate") vs) (fun v s'=>To no s s'∧Itb w s₁ N n isTup (enumD 0 all) s v s') (fun θ θ=>False) s:=fun N s vs b H nex=>by
  obtain ⟨v,rfl,b'⟩:=one_arg b
  obtain ⟨l,us,rfl,hn,hl,ba⟩:=of_lst b'
  refine call_enumerate_list hl fun h' he hit hsz hk=>⟨To.heap (t:=s.toks) hk,?_⟩
  refine itb_enum G (nd:=[(.lst all,.ref l)]) (In:=fun i h=>h.IsListIter s.heap.objs.size l i) (Nat.succ_ne_self _) (newAt_ge (Nat.le_succ _)) (newAt_ge (Nat.le_refl _)) ⟨_,he⟩ hit (fun p hp=>?_) fun N'=>inner_list
  rw [List.mem_singleton] at hp;subst hp
  exact b'.to (To.heap (t:=s.toks) hk)
end
noncomputable def isVar:Option NameKind->Bool
  | some .local=>true
  | some .cell=>true
  | some .free=>true
  | _=>false
theorem EnvOk.comp {env:Env} {scope:Scope} {C:Addr} {cells:List (Str × Addr)} (K:EnvOk env) (h:scope.kind=.function):EnvOk (compEnv scope env C cells):=⟨h,K.g,K.b⟩
section
variable {w:World} {s₁:Shared} {A:Around} {env:Env} {ρ:List (Str × D)}
theorem ev_var (K:EnvOk env) {x:Str} {pos:Pos} {d:D} (hl:isVar (env.kindOf x)=true) (hd:ρ.lookup x=some d) (hn:(x==("__debug__" : Str)||x==("__classdict__" : Str))=false):Ev w s₁ A env ρ (.Name x pos) d:=by
  rw [Bool.or_eq_false_iff] at hn
  cases h:env.kindOf x with
  | none=>rw [h] at hl;cases hl
  | some k=>
    cases k with
    | «local»=>exact ev_local K.k h hd hn.1
    | cell=>exact ev_cell K.k h hd hn.1
    | free=>exact ev_free K.k h hd hn.1 hn.2
    | _=>rw [h] at hl;cases hl
theorem ev_bi (G:GW w s₁) (K:EnvOk env) {x:Str} {pos:Pos} {v:Value} (hl:env.kindOf x=some .globalImplicit) (he:nsIn (Kw w) mainGlobals x=some none) (hv:bootBuiltins x=some v) (hx:(x==("__name__" : Str)||x==("__debug__" : Str))=false):Ev w s₁ A env ρ (.Name x pos) (.val v):=by
  rw [Bool.or_eq_false_iff] at hx
  exact ev_builtin G K.k K.g K.b hl he hv (fun q=>by rw [q] at hx;simp at hx) hx.2
theorem ev_gl (G:GW w s₁) (K:EnvOk env) {x:Str} {pos:Pos} {v:Value} (hl:env.kindOf x=some .globalImplicit) (he:nsIn (Kw w) mainGlobals x=some (some v)) (hn:(x==("__debug__" : Str))=false):Ev w s₁ A env ρ (.Name x pos) (.val v):=ev_global G K.k K.g hl he hn
end
section
variable {w:World}
theorem hv_len:bootBuiltins "len" = some (.builtin "len"):=by kernel_rfl
theorem hv_min:bootBuiltins "min" = some (.builtin "min"):=by kernel_rfl
theorem hv_max:bootBuiltins "max" = some (.builtin "max"):=by kernel_rfl
theorem hv_sum:bootBuiltins "sum" = some (.builtin "sum"):=by kernel_rfl
theorem hv_range:bootBuiltins "range" = some (.type "range"):=by kernel_rfl
theorem hv_enumerate:bootBuiltins "enumerate" = some (.type "enumerate"):=by kernel_rfl
theorem hv_zip:bootBuiltins "zip" = some (.type "zip"):=by kernel_rfl
theorem hv_reversed:bootBuiltins "reversed" = some (.type "reversed"):=by kernel_rfl
theorem hv_int:bootBuiltins "int" = some (.type "int"):=by kernel_rfl
theorem hv_str:bootBuiltins "str" = some (.type "str"):=by kernel_rfl
theorem hv_list:bootBuiltins "list" = some (.type "list"):=by kernel_rfl
theorem hv_hex:bootBuiltins "hex" = some (.builtin "hex"):=by kernel_rfl
theorem hv_divmod:bootBuiltins "divmod" = some (.builtin "divmod"):=by kernel_rfl
theorem hv_iter:bootBuiltins "iter" = some (.builtin "iter"):=by kernel_rfl
theorem hv_next:bootBuiltins "next" = some (.builtin "next"):=by kernel_rfl
theorem he_len:nsIn (Kw w) mainGlobals "len" = some none:=by kernel_rfl
end
section
variable {w:World} {s₁ sb s:Shared} {N:Addr->Prop} {A:Around} {env:Env} {ρ:List (Str × D)} {γ:List (D × Value)} {X:Loc->Prop} {E:Value->Shared->Prop} {Q:Flow->Shared->Prop}
theorem Rel.same {x:Str} {a:D} (R:Rel s₁ N X sb env ρ γ s) (h:ρ.lookup x=some a):Rel s₁ N X sb env ((x,a)::ρ) γ s:=R.weaken (fun y d e=>by
  by_cases q:y=x
  · subst q;rw [lookup_eq] at e;cases e;exact h
  · rw [lookup_ne q] at e;exact e) fun θ h=>h
theorem xs_ifset {t e:Expr} {x:Str} {p pos pos':Pos} {c:Bool} {a d dd:D} {rest:List Stmt} (R:Rel s₁ N X sb env ρ γ s) (y:Ts w s₁ A env ρ t c) (v:c=true->Ev w s₁ A env ρ e d) (S:Sto X env x) (ha:ρ.lookup x=some a)
    (hs:swapsWith e (some (.Name x p)) pos.line env=pure false) (hd:dd=if c then d else a)
    (h:∀ s',To X s s'->Kp s s'->Rel s₁ N X sb env ((x,dd)::ρ) γ s'->Xs w A env rest Q E s'):Xs w A env (.If t [.Assign [.Name x p] e pos] [] pos'::rest) Q E s:=by
  subst hd
  refine xs_if R y (fun hc s' T R'=>?_) fun hc s' T R'=>?_
  · refine xs_assign R' (v hc) S hs fun s'' T' K' R''=>xs_nil ?_
    rw [if_pos hc] at h
    exact h s'' (T.of_no.trans T') ((Kp.of_to T).trans K') R''
  · rw [if_neg (by rw [hc];decide)] at h
    exact xs_nil (h s' T.of_no (Kp.of_to T) (R'.same ha))
theorem m_str1 {o e:Expr} {name:Str} {apos pos:Pos} {x:Str} {b d:D} {id:String} (u:Ev w s₁ A env ρ o (.str x)) (y:Ev w s₁ A env ρ e b) (slot:Slot "str" name id) (ty:typeOf (.builtin id)=pure (.type "method_descriptor"))
    (hs:starEach [e] env=[(false,eval e env)]) (hbase:attributeBase o name env (eval o env)=eval o env) (hk:backToKw pos (keywordEach [] env)=[]) (hline:(apos.endLine==pos.line)=true)
    (h:∀ N s u vs,Bears N s.heap (.str x) u->BearsAll N s.heap [b] vs->Op w s₁ N A s (call (.builtin id) (u::vs)) fun v s'=>Bears N s'.heap d v):Ev w s₁ A env ρ (.Call (.Attribute o name apos) [e] [] pos) d:=by
  have hs':starEach [e] env=(false,eval e env)::starEach [] env:=by rw [hs];rfl
  have hb:backTo pos (starEach [e] env)=[(false,eval e env)]:=by rw [hs];rfl
  have y':Evs w s₁ A env ρ (backTo pos (starEach [e] env)) [b]:=by rw [hb];exact evs_cons y evs_nil
  refine ev_meth u y' PySem.F.plainAttrs_str slot ty (fun N s u b=>is_str b) hbase ?_ hline ?_ (hev1 hs') h
  · rw [hb,hk];rfl
  · rw [hb];rfl
theorem m_str3 {o e f g:Expr} {name:Str} {apos pos:Pos} {x:Str} {b b' b'' d:D} {id:String} (u:Ev w s₁ A env ρ o (.str x)) (y:Ev w s₁ A env ρ e b) (y':Ev w s₁ A env ρ f b') (y'':Ev w s₁ A env ρ g b'') (slot:Slot "str" name id) (ty:typeOf (.builtin id)=pure (.type "method_descriptor"))
    (hs:starEach [e,f,g] env=[(false,eval e env),(false,eval f env),(false,eval g env)]) (hbase:attributeBase o name env (eval o env)=eval o env) (hk:backToKw pos (keywordEach [] env)=[]) (hline:(apos.endLine==pos.line)=true)
    (hs':starEach [e,f,g] env=(false,eval e env)::starEach [f,g] env)
    (h:∀ N s u vs,Bears N s.heap (.str x) u->BearsAll N s.heap [b,b',b''] vs->Op w s₁ N A s (call (.builtin id) (u::vs)) fun v s'=>Bears N s'.heap d v):Ev w s₁ A env ρ (.Call (.Attribute o name apos) [e,f,g] [] pos) d:=by
  have hb:backTo pos (starEach [e,f,g] env)=[(false,eval e env),(false,eval f env),(false,eval g env)]:=by rw [hs];rfl
  have z:Evs w s₁ A env ρ (backTo pos (starEach [e,f,g] env)) [b,b',b'']:=by rw [hb];exact evs_cons y (evs_cons y' (evs_cons y'' evs_nil))
  refine ev_meth u z PySem.F.plainAttrs_str slot ty (fun N s u b=>is_str b) hbase ?_ hline ?_ (hev1 hs') h
  · rw [hb,hk];rfl
  · rw [hb];rfl
end
section
variable {w:World} {s₁ sb s:Shared} {N:Addr->Prop} {A:Around} {env:Env} {ρ:List (Str × D)} {γ:List (D × Value)} {X:Loc->Prop} {E:Value->Shared->Prop} {Q:Flow->Shared->Prop}
theorem Rel.rebase {sc:Shared} (T:To X sb sc) (R:Rel s₁ N X sc env ρ γ s):Rel s₁ N X sb env ρ γ s:={ R with to:=T.trans R.to }
theorem xs_forP (G:GW w s₁) {n:Nat} {tg:Expr->Prop} (hA:Rm n A) (hh:A.handled=none) {target iter:Expr} (ht:tg target) {body orelse rest:List Stmt} {pos:Pos} {ds:List D}
    (R:Rel s₁ N (Own env) sb env ρ γ s) (y:EvIt w s₁ A env ρ n tg iter ds) (hf:∀ x,foldedSetIterable iter env x=pure x)
    (J:List D->List (Str × D)->Prop) (j₀:J ds ρ)
    (step:∀ γ' d ds ρ s' v,J (d::ds) ρ->To (Own env) sb s'->Rel s₁ N (Own env) s' env ρ γ' s'->(∀ p,p∈γ->p∈γ')->Bears N s'.heap d v->wpAny (Mo w) A (assign target env v) (fun θ s₂=>Xs w A env body (fun fl s₃=>match fl with
      | .next | .cont=>∃ ρ',J ds ρ'∧Rel s₁ N (Own env) s' env ρ' γ' s₃
      | .brk=>Xs w A env rest Q E s₃
      | .ret v=>Q (.ret v) s₃) (fun θ θ=>False) s₂) (fun θ θ=>False) s')
    (fin:∀ ρ s',J [] ρ->Rel s₁ N (Own env) sb env ρ γ s'->Xs w A env orelse (fun fl s₃=>match fl with | .next=>Xs w A env rest Q E s₃ | f=>Q f s₃) (fun θ θ=>False) s') :
    Xs w A env (.For target iter body orelse pos::rest) Q E s:=
  xs_for G hA hh ht R y hf (own_there R) (fun ds ρ θ=>J ds ρ) (fun θ θ=>j₀) (fun θ θ θ θ θ j θ θ θ=>j) (fun θ θ θ θ θ R'=>own_there R')
    (fun γ' d ds ρ s' v j R' T b=>step (γ'++γ) d ds ρ s' v j (R.to.trans T) R' (fun p h=>List.mem_append_right _ h) b)
    (fun γ' ρ s' j R'=>fin ρ s' j ((R.back R').weaken (fun θ θ h=>h) fun θ h=>List.mem_append_right _ h))
theorem ev_b1 {f e:Expr} {pos:Pos} {id:String} {b d:D} (x:Ev w s₁ A env ρ f (.val (.builtin id))) (y:Ev w s₁ A env ρ e b)
    (hc:eval (.Call f [e] [] pos) env=(do callWith pos (← eval f env) [] (backTo pos (starEach [e] env)) [])) (hs:starEach [e] env=[(false,eval e env)])
    (h:∀ N s vs,BearsAll N s.heap [b] vs->Op w s₁ N A s (call (.builtin id) vs) fun v s'=>Bears N s'.heap d v):Ev w s₁ A env ρ (.Call f [e] [] pos) d:=by
  have hb:backTo pos (starEach [e] env)=[(false,eval e env)]:=by rw [hs];rfl
  exact ev_callB x (by rw [hb];exact evs_cons y evs_nil) hc (by rw [hs];rfl) (by rw [hb];rfl) h
theorem ev_b2 {f e e':Expr} {pos:Pos} {id:String} {b b' d:D} (x:Ev w s₁ A env ρ f (.val (.builtin id))) (y:Ev w s₁ A env ρ e b) (y':Ev w s₁ A env ρ e' b')
    (hc:eval (.Call f [e,e'] [] pos) env=(do callWith pos (← eval f env) [] (backTo pos (starEach [e,e'] env)) [])) (hs:starEach [e,e'] env=[(false,eval e env),(false,eval e' env)]) (hs':starEach [e,e'] env=(false,eval e env)::starEach [e'] env)
    (h:∀ N s vs,BearsAll N s.heap [b,b'] vs->Op w s₁ N A s (call (.builtin id) vs) fun v s'=>Bears N s'.heap d v):Ev w s₁ A env ρ (.Call f [e,e'] [] pos) d:=by
  have hb:backTo pos (starEach [e,e'] env)=[(false,eval e env),(false,eval e' env)]:=by rw [hs];rfl
  exact ev_callB x (by rw [hb];exact evs_cons y (evs_cons y' evs_nil)) hc hs' (by rw [hb];rfl) h
theorem ev_t1 {f e:Expr} {pos:Pos} {id:String} {b d:D} (x:Ev w s₁ A env ρ f (.val (.type id))) (y:Ev w s₁ A env ρ e b)
    (hc:eval (.Call f [e] [] pos) env=(do callWith pos (← eval f env) [] (backTo pos (starEach [e] env)) [])) (hs:starEach [e] env=[(false,eval e env)])
    (h:∀ N s vs,BearsAll N s.heap [b] vs->Op w s₁ N A s (call (.type id) vs) fun v s'=>Bears N s'.heap d v):Ev w s₁ A env ρ (.Call f [e] [] pos) d:=by
  have hb:backTo pos (starEach [e] env)=[(false,eval e env)]:=by rw [hs];rfl
  exact ev_callT x (by rw [hb];exact evs_cons y evs_nil) hc (by rw [hs];rfl) (by rw [hb];rfl) h
theorem ev_len_l (G:GW w s₁) (K:EnvOk env) {e:Expr} {p pos:Pos} {ds:List D} (y:Ev w s₁ A env ρ e (.lst ds)) (hl:env.kindOf "len" = some .globalImplicit) (hc:eval (.Call (.Name "len" p) [e] [] pos) env=(do callWith pos (← eval (.Name "len" p) env) [] (backTo pos (starEach [e] env)) [])) (hs:starEach [e] env=[(false,eval e env)]) (h:ds.length<2^63):Ev w s₁ A env ρ (.Call (.Name "len" p) [e] [] pos) (.int ds.length):=
  ev_b1 (ev_bi G K hl he_len hv_len rfl) y hc hs (op_len_lst h)
theorem ev_len_s (G:GW w s₁) (K:EnvOk env) {e:Expr} {p pos:Pos} {x:Str} (y:Ev w s₁ A env ρ e (.str x)) (hl:env.kindOf "len" = some .globalImplicit) (hc:eval (.Call (.Name "len" p) [e] [] pos) env=(do callWith pos (← eval (.Name "len" p) env) [] (backTo pos (starEach [e] env)) [])) (hs:starEach [e] env=[(false,eval e env)]) (h:x.length<2^63):Ev w s₁ A env ρ (.Call (.Name "len" p) [e] [] pos) (.int x.length):=
  ev_b1 (ev_bi G K hl he_len hv_len rfl) y hc hs (op_len_str h)
theorem ev_intb (G:GW w s₁) (K:EnvOk env) {e:Expr} {p pos:Pos} {b:Bool} (y:Ev w s₁ A env ρ e (.bool b)) (hl:env.kindOf "int" = some .globalImplicit) (hc:eval (.Call (.Name "int" p) [e] [] pos) env=(do callWith pos (← eval (.Name "int" p) env) [] (backTo pos (starEach [e] env)) [])) (hs:starEach [e] env=[(false,eval e env)]):Ev w s₁ A env ρ (.Call (.Name "int" p) [e] [] pos) (.int (if b then 1 else 0)):=
  ev_t1 (ev_bi G K hl (by kernel_rfl) hv_int rfl) y hc hs op_int_bool
end
theorem f_strip {w:World} {s₁:Shared} (G:GW w s₁) {n:Nat} {x:Str} (hx:x.length≤sizeLine):Fn w s₁ HOk (n+1) 99 [.str x] (.str (stripFn x)):=by
  refine fn_enter (fun A s s' env h T=>h.to T) ["msg"] G rfl rfl (by kernel_rfl) (fun s vs h=>by obtain ⟨a,rfl⟩:=len1 h;exact BindsTo.of_eq rfl) (by decide) (by decide) (by decide) rfl rfl rfl fun N A s L hA hh ⟨s₀,h₀,hown⟩ K R=>?_
  refine xs_tuple_swap G hh (h₀.toX hown) R (ev_tuple (evs_cons ev_int (evs_cons (ev_callB (ev_bi G K rfl he_len hv_len rfl) (evs_cons (ev_var K rfl rfl rfl) evs_nil) rfl rfl rfl (op_len_str (by unfold sizeLine at hx;omega))) evs_nil)) (Nat.le_of_ble_eq_true rfl)) rfl (.cons (as_bind (.local rfl rfl)) (.cons (as_bind (.local rfl rfl)) .nil)) rfl rfl fun s T K' R=>?_
  refine xs_assign R (m_str1 (ev_var K rfl rfl rfl) ev_str PySem.F.slot_str_find PySem.F.type_str_find rfl rfl rfl rfl op_find2) (.local rfl rfl) rfl fun s T K' R=>?_
  refine xs_ifset R (ts_cmp (ev_var K rfl rfl rfl) ev_int op_ge rfl) (fun θ=>ev_var K rfl rfl rfl) (.local rfl rfl) rfl rfl (apply_ite D.int _ _ _).symm.symm fun s T K' R=>?_
  refine xs_assign R (m_str3 (ev_var K rfl rfl rfl) ev_str ev_int (ev_var K rfl rfl rfl) PySem.F.slot_str_find PySem.F.type_str_find rfl rfl rfl rfl rfl op_find4) (.local rfl rfl) rfl fun s T K' R=>?_
  refine xs_ifset R (ts_cmp (ev_var K rfl rfl rfl) ev_int op_ge rfl) (fun θ=>ev_var K rfl rfl rfl) (.local rfl rfl) rfl rfl (apply_ite D.int _ _ _).symm.symm fun s T K' R=>?_
  refine xs_assign R (m_str3 (ev_var K rfl rfl rfl) ev_str ev_int (ev_var K rfl rfl rfl) PySem.F.slot_str_rfind PySem.F.type_str_rfind rfl rfl rfl rfl rfl op_rfind4) (.local rfl rfl) rfl fun s T K' R=>?_
  refine xs_ifset R (ts_cmp (ev_var K rfl rfl rfl) ev_int op_ge rfl) (fun θ=>ev_add (ev_var K rfl rfl rfl) ev_int) (.local rfl rfl) rfl rfl (apply_ite D.int _ _ _).symm.symm fun s T K' R=>?_
  refine xs_return R (Ev.conv (ev_slice_str hx (ev_var K rfl rfl rfl) (pt_some (ev_var K rfl rfl rfl)) (pt_some (ev_var K rfl rfl rfl))) ?_) fun v s' T b=>⟨R.to.trans T.of_no,b⟩
  congr 1
  unfold stripFn
  dsimp only
  simp only [decide_eq_true_eq]
noncomputable def lackStep (p:Int × Int) (c:Nat):Int × Int:=(if p.2+(if c==40 then 1 else -1)<p.1 then p.2+(if c==40 then 1 else -1) else p.1,p.2+(if c==40 then 1 else -1))
noncomputable def lackEnd (cs:List Nat):Int × Int:=cs.foldl lackStep (0,0)
theorem eq_paren (c:Nat):((⟨#[c]⟩:Str).cps.toList==(Str.ofString "(").cps.toList)=(c==40):=by
  have:(Str.ofString "(").cps.toList=[40]:=by decide +kernel
  rw [this]
  simp
inductive LkI (x:Str) (ds:List D) (ρ:List (Str × D)):Prop
  | mk (cs:List Nat) (l h:Int) (e:ds=(cs.map fun c=>D.str ⟨#[c]⟩)) (l1:ρ.lookup ("low" : Str)=some (.int l)) (l2:ρ.lookup ("height" : Str)=some (.int h)) (hf:cs.foldl lackStep (l,h)=lackEnd x.cps.toList)
theorem f_lacks {w:World} {s₁:Shared} (G:GW w s₁) {n:Nat} {x:Str} (hx:x.cps.all (·<128)=true):Fn w s₁ h0 (n+2) 121 [.str x] (.tup [.int (-(lackEnd x.cps.toList).1),.int ((lackEnd x.cps.toList).2-(lackEnd x.cps.toList).1)]):=by
  refine fn_enter (fun A s s' env h T=>h) ["row"] G rfl rfl (by kernel_rfl) (fun s vs h=>by obtain ⟨a,rfl⟩:=len1 h;exact BindsTo.of_eq rfl) (by decide) (by decide) (by decide) rfl rfl rfl fun N A s L hA hh ⟨s₀,h₀,hown⟩ K R=>?_
  refine xs_tuple G (.inl hh) (fun θ θ θ θ=>.inl hh) R (ev_tuple (evs_cons ev_int (evs_cons ev_int evs_nil)) (Nat.le_of_ble_eq_true rfl)) (.cons (as_name (.local rfl rfl)) (.cons (as_name (.local rfl rfl)) .nil)) rfl rfl rfl fun s T K' R=>?_
  refine xs_forP (n:=n+1) G hA hh trivial (tg:=fun θ=>True) R (evit_str G hx (ev_var K rfl rfl rfl)) (fun θ=>rfl)
    (LkI x) ⟨_,0,0,rfl,rfl,rfl,rfl⟩ (fun γ' d ds ρ s' v j TT R θ b=>?_) (fun ρ s' j R=>?_)
  · obtain ⟨cs,l,h,e,hl,hh',hf⟩:=j
    cases cs with
    | nil=>cases e
    | cons c cs=>
      obtain ⟨rfl,rfl⟩:=List.cons.inj e
      refine as_name (H:=fun θ=>True) (.local rfl rfl) _ _ _ _ _ _ _ trivial R b fun s T K' R=>?_
      refine xs_aug R (.local rfl rfl) (a:=.int h) hh' (ev_if (d:=.int (if (c==40) then 1 else -1)) (ts_cmp (ev_var K rfl rfl rfl) ev_str op_eq_str rfl) (fun q=>?_) fun q=>?_) i_add fun s T K' R=>?_
      · rw [eq_paren] at q;rw [if_pos q];exact ev_int
      · rw [eq_paren] at q;rw [if_neg (by rw [q];decide)];exact Ev.conv (ev_neg ev_int) rfl
      refine xs_assign R (ev_callB (ev_bi G K rfl (by kernel_rfl) hv_min rfl) (evs_cons (ev_var K rfl hl rfl) (evs_cons (ev_var K rfl rfl rfl) evs_nil)) rfl rfl rfl (op_min2 hh)) (.local rfl rfl) rfl fun s T K' R=>?_
      refine xs_nil ⟨_,⟨cs,_,_,rfl,rfl,rfl,?_⟩,R⟩
      rw [← hf];rfl
  · obtain ⟨cs,l,h,e,hl,hh',hf⟩:=j
    have:cs=[]:=by cases cs with | nil=>rfl | cons _ _=>cases e
    subst this
    have hf':(l,h)=lackEnd x.cps.toList:=hf
    refine xs_nil (xs_return R (Ev.conv (ev_tuple (evs_cons (ev_neg (ev_var K rfl hl rfl)) (evs_cons (ev_sub (ev_var K rfl hh' rfl) (ev_var K rfl hl rfl)) evs_nil)) (Nat.le_of_ble_eq_true rfl)) (by rw [← hf'])) fun v s' T b=>⟨R.to.trans T.of_no,b⟩)
noncomputable def bound (scope:Scope) (x:Str):Bool:=scope.names.lookup x==some .local||scope.names.lookup x==some .cell
theorem sto_comp {scope:Scope} {env:Env} {C acc:Addr} {cells:List (Str × Addr)} {x:Str} (hk:scope.kind=.function) (h:bound scope x=true):Sto (Xc scope C acc cells) (compEnv scope env C cells) x:=by
  unfold bound at h
  rw [Bool.or_eq_true,beq_iff_eq,beq_iff_eq] at h
  refine ⟨hk,h.imp (fun h=>?_) fun h=>⟨?_,fun c hc=>.inr (.inr ⟨x,c,h,hc,rfl⟩)⟩⟩
  · rw [comp_kind,h];rfl
  · rw [comp_kind,h];rfl
theorem ownB_one {scope:Scope} {x:Str} {d:D} (h:bound scope x=true):ownB scope [(x,d)]=true:=by
  unfold bound at h
  unfold ownB
  rw [Bool.or_eq_true,beq_iff_eq,beq_iff_eq] at h
  rcases h with h | h<;>simp [h]
section
variable {w:World} {s₁:Shared} {N:Addr->Prop} {A:Around} {env:Env} {ρ:List (Str × D)} {γ:List (D × Value)} {X:Loc->Prop}
variable {elt iter c:Expr} {x:Str} {px pos:Pos} {scope:Scope} {n:Nat} {tg:Expr->Prop} {ds:List D}
theorem ev_lc (G:GW w s₁) (K:EnvOk env) (hA:Rm n A) (hh:A.handled=none) (y:EvIt w s₁ A env ρ n tg iter ds) (ht:tg (.Name x px)) (sc:ScOk scope env) (hf:∀ v,foldedSetIterable iter env v=pure v) (hx:bound scope x=true)
    (P:D->Prop) (g:D->D) (he:∀ C cells d,EnvOk (compEnv scope env C cells)->P d->Ev w s₁ A (compEnv scope env C cells) ((x,d)::capt scope ρ) elt (g d)) (hP:∀ d,d∈ds->P d) (hK:ds.length≤sizeLine) :
    Ev w s₁ A env ρ (.ListComp elt [⟨.Name x px,iter,[],0⟩] scope pos) (.lst (ds.map g)):=
  Ev.conv (ev_comp_of G hA hh y ht sc hf (fun d=>[g d]) P _ (fun θ θ θ=>shape1) (turn_map (fun d=>[(x,d)]) g (fun d θ=>ownB_one hx) (fun θ θ θ θ θ θ=>as_name (sto_comp sc.k hx)) fun C cells d h=>he C cells d (K.comp sc.k) h) hP (by rw [flat_map,List.length_map];exact hK)) (by rw [flat_map])
theorem ev_lcf (G:GW w s₁) (K:EnvOk env) (hA:Rm n A) (hh:A.handled=none) (y:EvIt w s₁ A env ρ n tg iter ds) (ht:tg (.Name x px)) (sc:ScOk scope env) (hf:∀ v,foldedSetIterable iter env v=pure v) (hx:bound scope x=true)
    (P:D->Prop) (p:D->Bool) (g:D->D) (hc:∀ C cells d,EnvOk (compEnv scope env C cells)->P d->Ts w s₁ A (compEnv scope env C cells) ((x,d)::capt scope ρ) c (p d)) (he:∀ C cells d,EnvOk (compEnv scope env C cells)->P d->p d=true->Ev w s₁ A (compEnv scope env C cells) ((x,d)::capt scope ρ) elt (g d)) (hP:∀ d,d∈ds->P d) (hK:ds.length≤sizeLine) :
    Ev w s₁ A env ρ (.ListComp elt [⟨.Name x px,iter,[c],0⟩] scope pos) (.lst ((ds.filter p).map g)):=
  Ev.conv (ev_comp_of G hA hh y ht sc hf (fun d=>if p d then [g d] else []) P _ (fun θ θ θ=>shape1c) (turn_filter (fun d=>[(x,d)]) g p (fun d θ=>ownB_one hx) (fun θ θ θ θ θ θ=>as_name (sto_comp sc.k hx)) (fun C cells d h=>hc C cells d (K.comp sc.k) h) fun C cells d h=>he C cells d (K.comp sc.k) h) hP (by rw [flat_filter,List.length_map];exact Nat.le_trans (List.length_filter_le _ _) hK)) (by rw [flat_filter])
variable {z:Str} {p spos:Pos} {sb s:Shared} {Q:Flow->Shared->Prop} {E:Value->Shared->Prop} {ss:List Stmt}
theorem xs_lc (G:GW w s₁) (K:EnvOk env) (hA:Rm n A) (hh:A.handled=none) (R:Rel s₁ N (Own env) sb env ρ γ s) (y:EvIt w s₁ A env ρ n tg iter ds) (ht:tg (.Name x px)) (sc:ScOk scope env) (hf:∀ v,foldedSetIterable iter env v=pure v) (hx:bound scope x=true)
    (P:D->Prop) (g:D->D) (he:∀ C cells d,EnvOk (compEnv scope env C cells)->P d->Ev w s₁ A (compEnv scope env C cells) ((x,d)::capt scope ρ) elt (g d)) (hP:∀ d,d∈ds->P d) (hK:ds.length≤sizeLine) (S:Sto (Own env) env z)
    (hsw:swapsWith (.ListComp elt [⟨.Name x px,iter,[],0⟩] scope pos) (some (.Name z p)) spos.line env=pure true)
    (h:∀ s',To (Own env) s s'->Kp s s'->Rel s₁ N (Own env) sb env ((z,.lst (ds.map g))::ρ) γ s'->Xs w A env ss Q E s'):Xs w A env (.Assign [.Name z p] (.ListComp elt [⟨.Name x px,iter,[],0⟩] scope pos) spos::ss) Q E s:=
  xs_comp_of G hA hh y ht sc hf (fun d=>[g d]) P _ (fun θ θ θ=>shape1) (turn_map (fun d=>[(x,d)]) g (fun d θ=>ownB_one hx) (fun θ θ θ θ θ θ=>as_name (sto_comp sc.k hx)) fun C cells d h=>he C cells d (K.comp sc.k) h) hP (by rw [flat_map,List.length_map];exact hK) S hsw R (own_there R) (by rw [flat_map];exact h)
theorem xs_lcf (G:GW w s₁) (K:EnvOk env) (hA:Rm n A) (hh:A.handled=none) (R:Rel s₁ N (Own env) sb env ρ γ s) (y:EvIt w s₁ A env ρ n tg iter ds) (ht:tg (.Name x px)) (sc:ScOk scope env) (hf:∀ v,foldedSetIterable iter env v=pure v) (hx:bound scope x=true)
    (P:D->Prop) (q:D->Bool) (g:D->D) (hc:∀ C cells d,EnvOk (compEnv scope env C cells)->P d->Ts w s₁ A (compEnv scope env C cells) ((x,d)::capt scope ρ) c (q d)) (he:∀ C cells d,EnvOk (compEnv scope env C cells)->P d->q d=true->Ev w s₁ A (compEnv scope env C cells) ((x,d)::capt scope ρ) elt (g d)) (hP:∀ d,d∈ds->P d) (hK:ds.length≤sizeLine) (S:Sto (Own env) env z)
    (hsw:swapsWith (.ListComp elt [⟨.Name x px,iter,[c],0⟩] scope pos) (some (.Name z p)) spos.line env=pure true)
    (h:∀ s',To (Own env) s s'->Kp s s'->Rel s₁ N (Own env) sb env ((z,.lst ((ds.filter q).map g))::ρ) γ s'->Xs w A env ss Q E s'):Xs w A env (.Assign [.Name z p] (.ListComp elt [⟨.Name x px,iter,[c],0⟩] scope pos) spos::ss) Q E s:=
  xs_comp_of G hA hh y ht sc hf (fun d=>if q d then [g d] else []) P _ (fun θ θ θ=>shape1c) (turn_filter (fun d=>[(x,d)]) g q (fun d θ=>ownB_one hx) (fun θ θ θ θ θ θ=>as_name (sto_comp sc.k hx)) (fun C cells d h=>hc C cells d (K.comp sc.k) h) fun C cells d h=>he C cells d (K.comp sc.k) h) hP (by rw [flat_filter,List.length_map];exact Nat.le_trans (List.length_filter_le _ _) hK) S hsw R (own_there R) (by rw [flat_filter];exact h)
noncomputable def onT (g:D->D->D):D->D
  | .tup [a,b]=>g a b
  | d=>d
noncomputable def bs2 (x y:Str):D->List (Str × D)
  | .tup [a,b]=>[(y,b),(x,a)]
  | _=>[]
theorem ownB_two {scope:Scope} {x y:Str} {a b:D} (hx:bound scope x=true) (hy:bound scope y=true):ownB scope [(y,b),(x,a)]=true:=by
  have h1:=ownB_one (d:=a) hx
  have h2:=ownB_one (d:=b) hy
  unfold ownB at *
  simp only [List.all_cons,List.all_nil,Bool.and_true] at *
  rw [h1,h2];rfl
theorem as_two (G:GW w s₁) (hh:A.handled=none) {x y:Str} {px py pt:Pos} {k:Nat} {H:Shared->Prop} (hH2:∀ s s',H s->To X s s'->H s') (Sx:Sto X env x) (Sy:Sto X env y) {a b:D}:As w s₁ N A env X H (assign (.Tuple [.Name x px,.Name y py] k pt) env) (.tup [a,b]) [(y,b),(x,a)]:=
  as_tuple G (fun θ θ=>.inl hh) hH2 (.cons (as_name Sx) (.cons (as_name Sy) .nil)) rfl
theorem ev_lc2 {y:Str} {py pt:Pos} {k:Nat} (G:GW w s₁) (K:EnvOk env) (hA:Rm n A) (hh:A.handled=none) (v:EvIt w s₁ A env ρ n tg iter ds) (ht:tg (.Tuple [.Name x px,.Name y py] k pt)) (sc:ScOk scope env) (hf:∀ v,foldedSetIterable iter env v=pure v) (hx:bound scope x=true) (hy:bound scope y=true)
    (P:D->D->Prop) (g:D->D->D) (he:∀ C cells a b,EnvOk (compEnv scope env C cells)->P a b->Ev w s₁ A (compEnv scope env C cells) ((y,b)::(x,a)::capt scope ρ) elt (g a b)) (hP:∀ d,d∈ds->∃ a b,d=.tup [a,b]∧P a b) (hK:ds.length≤sizeLine) :
    Ev w s₁ A env ρ (.ListComp elt [⟨.Tuple [.Name x px,.Name y py] k pt,iter,[],0⟩] scope pos) (.lst (ds.map (onT g))):=
  Ev.conv (ev_comp_of G hA hh v ht sc hf (fun d=>[onT g d]) (fun d=>∃ a b,d=.tup [a,b]∧P a b) _ (fun θ θ θ=>shape1) (turn_map (bs2 x y) (onT g) (fun d ⟨a,b,e,_⟩=>by subst e;exact ownB_two hx hy)
    (fun N' C cells acc d ⟨a,b,e,_⟩=>by subst e;exact as_two G hh (fun θ θ θ θ=>trivial) (sto_comp sc.k hx) (sto_comp sc.k hy)) fun C cells d ⟨a,b,e,h⟩=>by subst e;exact he C cells a b (K.comp sc.k) h) hP (by rw [flat_map,List.length_map];exact hK)) (by rw [flat_map])
theorem evit_enum (G:GW w s₁) (K:EnvOk env) {e:Expr} {rp rpos:Pos} {all:List D} (x:Ev w s₁ A env ρ e (.lst all)) (hl:env.kindOf "enumerate" = some .globalImplicit)
    (hc:eval (.Call (.Name "enumerate" rp) [e] [] rpos) env=(do callWith rpos (← eval (.Name "enumerate" rp) env) [] (backTo rpos (starEach [e] env)) [])) (hs:starEach [e] env=[(false,eval e env)]) :
    EvIt w s₁ A env ρ n isTup (.Call (.Name "enumerate" rp) [e] [] rpos) (enumD 0 all):=by
  have hb:backTo rpos (starEach [e] env)=[(false,eval e env)]:=by rw [hs];rfl
  exact evit_callT G (ev_bi G K hl (by kernel_rfl) hv_enumerate rfl) (ds:=[.lst all]) (by rw [hb];exact evs_cons x evs_nil) hc (by rw [hs];rfl) (by rw [hb];rfl) (call_enum_lst G)
theorem evit_range1 (G:GW w s₁) (K:EnvOk env) {e:Expr} {rp rpos:Pos} {a:Int} (x:Ev w s₁ A env ρ e (.int a)) (ha:-(2^62)≤a) (ha':a<2^62) (hl:env.kindOf "range" = some .globalImplicit)
    (hc:eval (.Call (.Name "range" rp) [e] [] rpos) env=(do callWith rpos (← eval (.Name "range" rp) env) [] (backTo rpos (starEach [e] env)) [])) (hs:starEach [e] env=[(false,eval e env)]) :
    EvIt w s₁ A env ρ n tg (.Call (.Name "range" rp) [e] [] rpos) (upto 0 a.toNat):=by
  have hb:backTo rpos (starEach [e] env)=[(false,eval e env)]:=by rw [hs];rfl
  refine evit_of (ev_callT (ev_bi G K hl (by kernel_rfl) hv_range rfl) (ds:=[.int a]) (by rw [hb];exact evs_cons x evs_nil) hc (by rw [hs];rfl) (by rw [hb];rfl) op_range1) fun N t s v T H θ p=>?_
  have:=itb_range G (n:=n) (tg:=tg) (by omega) (by omega) ha ha' T H p
  rw [Int.sub_zero] at this
  exact this
theorem evit_range2 (G:GW w s₁) (K:EnvOk env) {e f:Expr} {rp rpos:Pos} {a b:Int} (x:Ev w s₁ A env ρ e (.int a)) (y:Ev w s₁ A env ρ f (.int b)) (ha:-(2^62)≤a) (ha':a<2^62) (hb:-(2^62)≤b) (hb':b<2^62) (hl:env.kindOf "range" = some .globalImplicit)
    (hc:eval (.Call (.Name "range" rp) [e,f] [] rpos) env=(do callWith rpos (← eval (.Name "range" rp) env) [] (backTo rpos (starEach [e,f] env)) [])) (hs:starEach [e,f] env=[(false,eval e env),(false,eval f env)]) (hs':starEach [e,f] env=(false,eval e env)::starEach [f] env) :
    EvIt w s₁ A env ρ n tg (.Call (.Name "range" rp) [e,f] [] rpos) (upto a (b-a).toNat):=by
  have hq:backTo rpos (starEach [e,f] env)=[(false,eval e env),(false,eval f env)]:=by rw [hs];rfl
  exact evit_of (ev_callT (ev_bi G K hl (by kernel_rfl) hv_range rfl) (ds:=[.int a,.int b]) (by rw [hq];exact evs_cons x (evs_cons y evs_nil)) hc hs' (by rw [hq];rfl) op_range2) fun N t s v T H θ p=>itb_range G ha ha' hb hb' T H p
end
noncomputable def onI (f:Int->D):D->D
  | .int i=>f i
  | d=>d
theorem upto_map {f:Int->D} {k:Nat}:(upto 0 k).map (onI f)=(List.range k).map fun (i:Nat)=>f i:=by
  unfold upto
  rw [List.map_map]
  apply List.map_congr_left
  intro i _
  show f (0+i)=f i
  rw [Int.zero_add]
noncomputable def inUp (k:Nat) (d:D):Prop:=∃ i:Nat,i<k∧d=.int i
theorem upto_in {k:Nat}:∀ d,d∈upto 0 k->inUp k d:=fun d h=>by
  unfold upto at h
  rw [List.mem_map] at h
  obtain ⟨i,hi,rfl⟩:=h
  exact ⟨i,List.mem_range.mp hi,by rw [Int.zero_add]⟩
theorem enumD_mem {P:Nat->D->Prop}:∀ {ds:List D} {i:Nat},(∀ j d,ds[j]?=some d->P (i+j) d)->∀ d,d∈enumD i ds->∃ a b,d=.tup [a,b]∧∃ k:Nat,a=.int k∧P k b
  | [],_,_,d,h=>by cases h
  | e::ds,i,hP,d,h=>by
    rcases List.mem_cons.mp h with rfl | h
    · exact ⟨_,_,rfl,i,rfl,hP 0 e rfl⟩
    · exact enumD_mem (fun j d e=>by have:=hP (j+1) d e;rwa [show i+(j+1)=i+1+j by omega] at this) d h
theorem enumD_len:∀ {ds:List D} {i:Nat},(enumD i ds).length=ds.length
  | [],_=>rfl
  | _::ds,i=>by rw [enumD,List.length_cons,List.length_cons,enumD_len]
theorem enumD_map {f:D->D->D}:∀ {ds:List D} {i:Nat},(enumD i ds).map (onT f)=(ds.zipIdx i).map fun p=>f (.int p.2) p.1
  | [],_=>rfl
  | d::ds,i=>by rw [enumD,List.map_cons,List.zipIdx_cons,List.map_cons,enumD_map];rfl
theorem upto_len {k:Nat} {a:Int}:(upto a k).length=k:=by unfold upto;simp
noncomputable def wordFn (num:Int):List Int:=
  let kind:=num.fmod 4
  let rest:=num.fdiv 4
  if kind=2 then (List.range (2+rest.fmod 3).toNat).map fun (i:Nat)=>(rest.fdiv (4^i)).fmod 2
  else
    let block:=(List.range 4).map fun (i:Nat)=>((i:Int)+(i:Int).fdiv 2+rest).fmod 2
    if kind=3 then [(rest.fdiv 2).fmod 2]++block else block
theorem map_D (f:Nat->Int) (k:Nat):((List.range k).map fun i=>D.int (f i))=((List.range k).map f).map D.int:=by rw [List.map_map];rfl
theorem no_py {a b:Int} (h:b.natAbs<1073741824):Builtin.divisionGoesByPylong a b=false:=PyProof.noPylong_small h
theorem pow4_ne (i:Nat):(4:Int)^i≠0:=Int.ne_of_gt (Int.pow_pos (by decide))
theorem pow4_lt (i:Nat) (h:i<5):((4:Int)^i).natAbs<1073741824:=by
  have:∀ i:Fin 5,((4:Int)^i.val).natAbs<1073741824:=by decide
  exact this ⟨i,h⟩
theorem f_word {w:World} {s₁:Shared} (G:GW w s₁) {n:Nat} {num:Int} (h0':0≤num) (h1:num<1000000000):Fn w s₁ h0 (n+2) 104 [.int num] (.lst ((wordFn num).map D.int)):=by
  refine fn_enter (fun A s s' env h T=>h) ["number"] G rfl rfl (by kernel_rfl) (fun s vs h=>by obtain ⟨a,rfl⟩:=len1 h;exact BindsTo.of_eq rfl) (by decide) (by decide) (by decide) rfl rfl rfl fun N A s L hA hh ⟨s₀,h₀,hown⟩ K R=>?_
  have hr0:(num.fdiv 4).fmod 3<3:=Int.fmod_lt_of_pos _ (by decide)
  have hr1:0≤(num.fdiv 4).fmod 3:=Int.fmod_nonneg_of_pos _ (by decide)
  refine xs_tuple G (.inl hh) (fun θ θ θ θ=>.inl hh) R (ev_tuple (evs_cons (ev_mod (ev_var K rfl rfl rfl) ev_int (by decide)) (evs_cons (ev_div (ev_var K rfl rfl rfl) ev_int (by decide) (no_py (by decide))) evs_nil)) (Nat.le_of_ble_eq_true rfl)) (.cons (as_name (.local rfl rfl)) (.cons (as_name (.cell rfl rfl (own_cell rfl))) .nil)) rfl rfl rfl fun s T K' R=>?_
  refine xs_if R (ts_cmp (ev_var K rfl rfl rfl) ev_int op_eq rfl) (fun hc s' T R=>?_) fun hc s' T R=>?_
  · refine xs_return R (Ev.conv (ev_lc (n:=n+1) (tg:=fun θ=>True) G K hA hh (evit_range1 G K (ev_add ev_int (ev_mod (ev_var K rfl rfl rfl) ev_int (by decide))) (by omega) (by omega +splitNatSub) rfl rfl rfl) trivial (ScOk.of rfl) (fun θ=>rfl) rfl (inUp (2+(num.fdiv 4).fmod 3).toNat) (onI fun i=>.int (((num.fdiv 4).fdiv (4^i.toNat)).fmod 2)) (fun C cells d K₁ ⟨i,hi,e⟩=>?_) upto_in (by rw [upto_len];unfold sizeLine;omega)) ?_) fun v s' T b=>⟨R.to.trans T.of_no,b⟩
    · subst e
      refine ev_mod (ev_div (ev_var K₁ rfl rfl rfl) (ev_pow ev_int (ev_var K₁ rfl rfl rfl) (by omega) ?_) ?_ ?_) ev_int (by decide)
      · have:Builtin.Int.intBits 4=3:=by decide +kernel
        rw [this];omega
      · exact pow4_ne _
      · exact no_py (pow4_lt _ (by omega))
    · rw [upto_map,map_D,wordFn,if_pos (by simpa using hc)]
      rfl
  · have hk:num.fmod 4≠2:=by simpa using hc
    refine xs_nil (xs_lc (n:=n+1) (tg:=fun θ=>True) G K hA hh R (evit_range1 G K ev_int (by decide) (by decide) rfl rfl rfl) trivial (ScOk.of rfl) (fun θ=>rfl) rfl (inUp 4) (onI fun i=>.int ((i+i.fdiv 2+num.fdiv 4).fmod 2)) (fun C cells d K₁ ⟨i,hi,e⟩=>?_) upto_in (by rw [upto_len];exact Nat.le_of_ble_eq_true rfl) (.local rfl rfl) rfl fun s T K' R=>?_)
    · subst e
      exact ev_mod (ev_add (ev_add (ev_var K₁ rfl rfl rfl) (ev_div (ev_var K₁ rfl rfl rfl) ev_int (by decide) (no_py (by decide)))) (ev_var K₁ rfl rfl rfl)) ev_int (by decide)
    · have hb:((upto 0 (4:Int).toNat).map (onI fun i=>D.int ((i+i.fdiv 2+num.fdiv 4).fmod 2)))=((List.range 4).map fun (i:Nat)=>((i:Int)+(i:Int).fdiv 2+num.fdiv 4).fmod 2).map D.int:=by rw [upto_map,map_D];rfl
      rw [hb] at R
      refine xs_return R (ev_if (c:=num.fmod 4==3) (ts_cmp (ev_var K rfl rfl rfl) ev_int op_eq rfl) (fun q=>?_) fun q=>?_) fun v s' T b=>⟨R.to.trans T.of_no,b⟩
      · rw [wordFn,if_neg hk,if_pos (by simpa using q),List.map_append]
        exact ev_bin (ev_list (ds:=[D.int (((num.fdiv 4).fdiv 2).fmod 2)]) (evs_cons (ev_mod (ev_div (ev_var K rfl rfl rfl) ev_int (by decide) (no_py (by decide))) ev_int (by decide)) evs_nil) (Nat.le_of_ble_eq_true rfl)) (ev_var K rfl rfl rfl) (op_add_lst (Nat.le_of_ble_eq_true rfl))
      · rw [wordFn,if_neg hk,if_neg (by simpa using q)]
        exact ev_var K rfl rfl rfl
noncomputable def digitsFn (v:Int):List Int:=(([5,4,3,2,1,0]:List Int).filter fun i=>i==0||v.fdiv (64^i.toNat) != 0).map fun i=>(v.fdiv (64^i.toNat)).fmod 64
noncomputable def octetsFn (v:Int):List Int:=(digitsFn v).zipIdx.map fun p=>p.1+128*(1-p.1.fmod 2)+64*(if (p.2:Int)<(digitsFn v).length-1 then 1 else 0)
noncomputable def onB (f:Int->Bool):D->Bool
  | .int i=>f i
  | _=>false
theorem filter_ints {f:Int->Bool}:∀ l:List Int,(l.map D.int).filter (onB f)=(l.filter f).map D.int
  | []=>rfl
  | a::r=>by
    rw [List.map_cons,List.filter_cons,List.filter_cons,filter_ints r]
    show (if f a=true then _ else _)=_
    cases f a<;>rfl
theorem map_ints {f:Int->Int} (l:List Int):(l.map D.int).map (onI fun i=>.int (f i))=(l.map f).map D.int:=by
  rw [List.map_map,List.map_map];rfl
noncomputable def among (l:List Int) (d:D):Prop:=∃ i,i∈l∧d=.int i
theorem among_of {l:List Int}:∀ d,d∈l.map D.int->among l d:=fun d h=>by
  rw [List.mem_map] at h
  obtain ⟨i,hi,rfl⟩:=h
  exact ⟨i,hi,rfl⟩
theorem pow64_ne (i:Nat):(64:Int)^i≠0:=Int.ne_of_gt (Int.pow_pos (by decide))
theorem pow64_ok:∀ i:Int,i∈([5,4,3,2,1,0]:List Int)->((64:Int)^i.toNat).natAbs.log2<9000∧0≤i∧(Builtin.Int.intBits 64:Int)*i≤2^27:=by
  have h7:Builtin.Int.intBits 64=7:=by decide +kernel
  rw [h7]
  decide +kernel
theorem digits_len (v:Int):(digitsFn v).length≤6:=by
  unfold digitsFn
  rw [List.length_map]
  exact List.length_filter_le _ _
theorem f_octets {w:World} {s₁:Shared} (G:GW w s₁) {n:Nat} {v:Int}:Fn w s₁ h0 (n+2) 126 [.int v] (.lst ((octetsFn v).map D.int)):=by
  refine fn_enter (fun A s s' env h T=>h) ["value"] G rfl rfl (by kernel_rfl) (fun s vs h=>by obtain ⟨a,rfl⟩:=len1 h;exact BindsTo.of_eq rfl) (by decide) (by decide) (by decide) rfl rfl rfl fun N A s L hA hh ⟨s₀,h₀,hown⟩ K R=>?_
  refine xs_assign R (Ev.conv (d':=.lst ((digitsFn v).map D.int)) (ev_lcf (n:=n+1) (tg:=fun θ=>True) (ds:=([5,4,3,2,1,0]:List Int).map D.int) G K hA hh (by exact evit_tup G (ev_tuple (evs_cons ev_int (evs_cons ev_int (evs_cons ev_int (evs_cons ev_int (evs_cons ev_int (evs_cons ev_int evs_nil)))))) (Nat.le_of_ble_eq_true rfl))) trivial (ScOk.of rfl) (fun θ=>rfl) rfl (among [5,4,3,2,1,0]) (onB fun i=>i==0||v.fdiv (64^i.toNat) != 0) (onI fun i=>.int ((v.fdiv (64^i.toNat)).fmod 64)) (fun C cells d K₁ ⟨i,hi,e⟩=>?_) (fun C cells d K₁ ⟨i,hi,e⟩ _=>?_) among_of (Nat.le_of_ble_eq_true rfl)) (by rw [filter_ints,map_ints];rfl)) (.cell rfl rfl (own_cell rfl)) rfl fun s T K' R=>?_
  · subst e
    obtain ⟨h1,h2,h3⟩:=pow64_ok i hi
    exact ts_or (ts_cmp (ev_var K₁ rfl rfl rfl) ev_int op_eq rfl) fun θ=>ts_plain (ev_div (ev_var K₁ rfl rfl rfl) (ev_pow ev_int (ev_var K₁ rfl rfl rfl) h2 h3) (pow64_ne _) (PyProof.noPylong_of_log2 h1)) tr_int (fun θ=>rfl)
  · subst e
    obtain ⟨h1,h2,h3⟩:=pow64_ok i hi
    exact ev_mod (ev_div (ev_var K₁ rfl rfl rfl) (ev_pow ev_int (ev_var K₁ rfl rfl rfl) h2 h3) (pow64_ne _) (PyProof.noPylong_of_log2 h1)) ev_int (by decide)
  have hl:=digits_len v
  refine xs_return R (Ev.conv (ev_lc2 (n:=n+1) G K hA hh (evit_enum G K (ev_var K rfl rfl rfl) rfl rfl rfl) ⟨_,_,_,rfl⟩ (ScOk.of rfl) (fun θ=>rfl) rfl rfl (fun a b=>∃ (k:Nat) (i:Int),k<6∧a=.int k∧i∈digitsFn v∧b=.int i)
    (fun a b=>onI (fun k=>onI (fun i=>.int (i+128*(1-i.fmod 2)+64*(if k<(digitsFn v).length-1 then 1 else 0))) b) a) (fun C cells a b K₁ ⟨k,i,hk,e1,hi,e2⟩=>?_) (fun d hd=>?_) (by rw [enumD_len,List.length_map];unfold sizeLine;omega)) ?_) fun v s' T b=>⟨R.to.trans T.of_no,b⟩
  · subst e1;subst e2
    exact ev_add (ev_add (ev_var K₁ rfl rfl rfl) (ev_mul ev_int (ev_sub ev_int (ev_mod (ev_var K₁ rfl rfl rfl) ev_int (by decide))) (.of_left (Nat.le_of_ble_eq_true rfl)))) (Ev.conv (ev_mul ev_int (ev_intb G K₁ (ev_cmp (ev_var K₁ rfl rfl rfl) (ev_sub (ev_len_l G K₁ (ev_var K₁ rfl rfl rfl) rfl rfl rfl (by rw [List.length_map];omega)) ev_int) op_lt rfl) rfl rfl rfl) (.of_left (Nat.le_of_ble_eq_true rfl))) (by rw [List.length_map];simp only [decide_eq_true_eq]))
  · have hm:∀ j d,((digitsFn v).map D.int)[j]?=some d->∃ i,d=D.int i∧0+j<6∧i∈digitsFn v:=fun j d hd=>by
      rw [List.getElem?_map] at hd
      obtain ⟨i,hi,rfl⟩:=Option.map_eq_some_iff.mp hd
      have:=(List.getElem?_eq_some_iff.mp hi).1
      exact ⟨i,rfl,by omega,List.mem_of_getElem? hi⟩
    obtain ⟨a,b,e,k,ea,i,eb,hk⟩:=enumD_mem (P:=fun k b=>∃ i,b=D.int i∧k<6∧i∈digitsFn v) hm d hd
    exact ⟨a,b,e,k,i,hk.1,ea,hk.2,eb⟩
  · rw [enumD_map]
    unfold octetsFn
    rw [List.zipIdx_map,List.map_map,List.map_map]
    rfl
open Builtin.Str
section
variable {w:World} {s₁:Shared} {A:Around}
noncomputable abbrev hexS (i:Int):Str:=baseText "0x" 16 i
theorem op_hex {i:Int} (h:(hexS i).length≤sizeLine):∀ N s vs,BearsAll N s.heap [.int i] vs->Op w s₁ N A s (call (.builtin "hex") vs) fun v s'=>Bears N s'.heap (.str (hexS i)) v:=fun N s vs b θ θ=>by
  obtain ⟨v,rfl,b'⟩:=one_arg b
  obtain ⟨t,rfl⟩:=of_int b'
  exact PySem.P.hex_of_int ⟨To.toks _ _,bears_str⟩ h
theorem all_strs {N:Addr->Prop} {h:Heap}:∀ {ns:List Str} {vs:List Value},BearsAll N h (ns.map D.str) vs->∃ xs:List (Str × Tok),vs=strValues xs∧xs.map (·.1)=ns
  | [],vs,b=>by rw [List.map_nil,all_nil_iff] at b;exact ⟨[],b,rfl⟩
  | n::ns,vs,b=>by
    rw [List.map_cons] at b
    obtain ⟨v,r,rfl,b1,b2⟩:=all_cons_iff.mp b
    obtain ⟨t,rfl⟩:=of_str b1
    obtain ⟨xs,rfl,rfl⟩:=all_strs b2
    exact ⟨(n,t)::xs,rfl,rfl⟩
theorem op_join {sep:Str} {xs:List Str} (h:(xs.map (·.length)).sum+xs.length*sep.length≤sizeLine):∀ N s u vs,Bears N s.heap (.str sep) u->BearsAll N s.heap [.lst (xs.map D.str)] vs->Op w s₁ N A s (call (.builtin "str.join") (u::vs)) fun v s'=>Bears N s'.heap (.str (glued sep xs)) v:=fun N s u vs b bs θ θ=>by
  obtain ⟨t,rfl⟩:=of_str b
  obtain ⟨v,rfl,b'⟩:=one_arg bs
  obtain ⟨l,us,rfl,_,hl,ba⟩:=of_lst b'
  obtain ⟨ys,rfl,rfl⟩:=all_strs ba
  have hl':tooLong ((ys.map (·.1)).toArray.foldl (·+·.length+sep.length) 0)=false:=by
    rw [List.foldl_toArray,StrLaws.foldl_total]
    unfold tooLong
    exact decide_eq_false (by omega)
  have hg:(glued sep (ys.map (·.1))).length≤sizeLine:=by
    rw [PySem.size_glued]
    have:((ys.map (·.1)).length-1)*sep.length≤(ys.map (·.1)).length*sep.length:=Nat.mul_le_mul_right _ (Nat.sub_le _ _)
    omega
  refine call_meets PySem.F.slot_str_join (typeIs_str s sep t) PySem.F.entry_str_join (PySem.F.args_str_join_2 _ _) (meets_str_join_list sep t l ys hl') ⟨hl,?_⟩
  match ys,hg with
  | [],hg=>exact ⟨hg,To.toks _ _,bears_str⟩
  | [p],hg=>exact ⟨To.refl _ _,bears_str⟩
  | p::q::r,hg=>exact ⟨hg,To.toks _ _,bears_str⟩
theorem all_strsFrom {N:Addr->Prop} {h:Heap}:∀ (xs:List Str) (k:Nat),BearsAll N h (xs.map D.str) (strsFrom k xs)
  | [],_=>all_nil
  | x::r,k=>all_cons bears_str (all_strsFrom r (k+1))
theorem op_split {x:Str} {ws:List Str} (hx:x.length≤sizeLine) (hn:(spaceWords x (x.length+1)).length≤sizeLine) (h1:(spaceWords x (x.length+1)==[(0,x.length)])=false) (hw:PySem.wordsOf x=ws):∀ N s u vs,Bears N s.heap (.str x) u->BearsAll N s.heap [] vs->Op w s₁ N A s (call (.builtin "str.split") (u::vs)) fun v s'=>Bears N s'.heap (.lst (ws.map D.str)) v:=fun N s u vs b bs θ nex=>by
  rw [all_nil_iff] at bs;subst bs
  obtain ⟨t,rfl⟩:=of_str b
  refine call_meets PySem.F.slot_str_split (typeIs_str s x t) PySem.F.entry_str_split (PySem.F.args_str_split_1 _) (meets_str_split_space x t hx hn) ?_
  rw [h1,hw]
  refine ⟨To.heap (fun b o e=>Heap.get?_push_of_some _ e),?_⟩
  exact bears_lst nex.size ⟨_,Heap.get?_push_size _ rfl⟩ (all_strsFrom _ _)
noncomputable def flagKvs:List (Int × Value):=[(1,.str "OPTIMIZED" 306),(2,.str "NEWLOCALS" 308),(4,.str "VARARGS" 310),(8,.str "VARKEYWORDS" 312),(16,.str "NESTED" 314),(32,.str "GENERATOR" 316),(64,.str "NOFREE" 318),(128,.str "COROUTINE" 320),(256,.str "ITERABLE_COROUTINE" 322),(512,.str "ASYNC_GENERATOR" 324)]
noncomputable def flagName (i:Int):Option Str:=(flagKvs.find? fun kv=>kv.1=i).bind fun kv=>match kv.2 with | .str x _=>some x | _=>none
theorem flagDictOf {h:Heap} (ho:h.get? 78=some flagDict):h.DictOf (intKind prog w) 78 flagKvs:=by
  refine ⟨_,_,_,ho,⟨rfl,rfl,rfl⟩,rfl,?_,?_,by decide⟩
  · intro e he
    have:=Array.mem_toList_iff.mpr he
    simp only [List.mem_cons,List.not_mem_nil,or_false] at this
    rcases this with rfl | rfl | rfl | rfl | rfl | rfl | rfl | rfl | rfl | rfl<;>exact ⟨_,intKind_is prog w _ _,by simp only [intKind];decide +kernel⟩
  · repeat (first | exact .nil | refine .cons rfl rfl ?_)
theorem op_get (G:GW w s₁) {i:Int} {x:Str}:∀ N s u vs,Bears N s.heap (.val (.ref 78)) u->BearsAll N s.heap [.int i,.str x] vs->Op w s₁ N A s (call (.builtin "dict.get") (u::vs)) fun v s'=>Bears N s'.heap (.str ((flagName i).getD x)) v:=fun N s u vs b bs H θ=>by
  obtain rfl:=of_val b
  obtain ⟨v,v',rfl,b1,b2⟩:=two_args bs
  obtain ⟨t,rfl⟩:=of_int b1
  obtain ⟨t',rfl⟩:=of_str b2
  have hd:=flagDictOf (w:=w) (G.get H (a:=78) rfl rfl)
  refine call_meetsIn PySem.F.slot_dict_get hd.typeIs PySem.F.entry_dict_get (PySem.F.args_dict_get_3 _ _ _) (meets_dict_get_default (intKind prog w) 78 (intKind_is prog w i t) rfl (.str x t')) ⟨_,hd.mapOf,To.toks _ _,?_⟩
  show Bears N s.heap _ ((valueAt flagKvs i).getD _)
  unfold valueAt flagName
  cases hf:flagKvs.find? (fun kv=>kv.1=i) with
  | none=>exact bears_str
  | some kv=>
    have hm:=List.mem_of_find?_eq_some hf
    have hall:∀ kv∈flagKvs,∃ y t,kv.2=Value.str y t:=by
      intro kv h
      simp only [flagKvs,List.mem_cons,List.not_mem_nil,or_false] at h
      rcases h with rfl | rfl | rfl | rfl | rfl | rfl | rfl | rfl | rfl | rfl<;>exact ⟨_,_,rfl⟩
    obtain ⟨y,t₂,e⟩:=hall kv hm
    simp only [Option.map_some,Option.getD_some,Option.bind_some,e]
    exact bears_str
end
mutual
noncomputable def dOk:D->Nat->Bool
  | .none,_=>true
  | .bool _,_=>true
  | .int _,_=>true
  | .str x,_=>PyData.strOk x
  | .val _,_=>false
  | .tup ds,k=>decide (0<k)&&dOks ds (k-1)
  | .lst ds,k=>decide (0<k)&&dOks ds (k-1)
noncomputable def dOks:List D->Nat->Bool
  | [],_=>true
  | d::ds,k=>dOk d k&&dOks ds k
end
mutual
theorem dOk_spec:∀ {d:D} {k:Nat},dOk d k=true->noval d=true∧(py d).canLay0=true∧(py d).depth≤k
  | .none,k,_=>by simp [noval,py,PyData.canLay0,PyData.depth]
  | .bool _,k,_=>by simp [noval,py,PyData.canLay0,PyData.depth]
  | .int _,k,_=>by simp [noval,py,PyData.canLay0,PyData.depth]
  | .str x,k,h=>by rw [dOk] at h;simp [noval,py,PyData.canLay0,PyData.depth,h]
  | .val _,k,h=>by rw [dOk] at h;cases h
  | .tup ds,k,h=>by
    rw [dOk,Bool.and_eq_true,decide_eq_true_eq] at h
    obtain ⟨h1,h2,h3⟩:=dOks_spec h.2
    refine ⟨by rw [noval];exact h1,by rw [py,PyData.canLay0];exact h2,by rw [py,PyData.depth];omega⟩
  | .lst ds,k,h=>by
    rw [dOk,Bool.and_eq_true,decide_eq_true_eq] at h
    obtain ⟨h1,h2,h3⟩:=dOks_spec h.2
    refine ⟨by rw [noval];exact h1,by rw [py,PyData.canLay0];exact h2,by rw [py,PyData.depth];omega⟩
theorem dOks_spec:∀ {ds:List D} {k:Nat},dOks ds k=true->novals ds=true∧PyData.canLayAll0 (pys ds)=true∧PyData.depthAll (pys ds)≤k
  | [],k,_=>by simp [novals,pys,PyData.canLayAll0,PyData.depthAll]
  | d::ds,k,h=>by
    rw [dOks,Bool.and_eq_true] at h
    obtain ⟨a1,a2,a3⟩:=dOk_spec h.1
    obtain ⟨b1,b2,b3⟩:=dOks_spec h.2
    refine ⟨by rw [novals,a1,b1];rfl,by rw [pys,PyData.canLayAll0,a2,b2];rfl,by rw [pys,PyData.depthAll];omega⟩
end
theorem okD_of {d:D} {k:Nat} (h:dOk d k=true) (hk:k≤64):okD d=true:=by
  obtain ⟨h1,h2,h3⟩:=dOk_spec h
  unfold okD PySem.SeqAt.shaped
  rw [h1,h2]
  simp only [Bool.true_and,decide_eq_true_eq]
  omega
theorem dOks_iff:∀ {ds:List D} {k:Nat},dOks ds k=true↔∀ d,d∈ds->dOk d k=true
  | [],k=>by simp [dOks]
  | d::ds,k=>by rw [dOks,Bool.and_eq_true,dOks_iff];simp
theorem dOks_map {α:Type} {f:α->D} {l:List α} {k:Nat} (h:∀ a,a∈l->dOk (f a) k=true):dOks (l.map f) k=true:=dOks_iff.mpr fun d hd=>by
  obtain ⟨a,ha,rfl⟩:=List.mem_map.mp hd
  exact h a ha
theorem okD_strs {l:List Str} (h:∀ x,x∈l->PyData.strOk x=true):okD (.lst (l.map D.str))=true:=okD_of (k:=1) (by rw [dOk];exact dOks_map fun x hx=>by rw [dOk];exact h x hx) (by decide)
theorem okD_nil:okD (.lst [])=true:=rfl
theorem eqv_nil {l:List D}:PyData.eqv (py (.lst l)) (py (.lst []))=l.isEmpty:=by
  cases l with
  | nil=>rw [py,pys,PyData.eqv,PyData.eqvAll];rfl
  | cons d r=>rw [py,py,pys,pys,PyData.eqv,PyData.eqvAll];rfl
theorem ofString_cps (s:String):(Str.ofString s).cps=(s.toList.map Char.toNat).toArray:=by
  rw [Str.ofString_eq_byList];rfl
theorem strOk_ofString (s:String):PyData.strOk (Str.ofString s)=true:=by
  unfold PyData.strOk
  rw [ofString_cps,Array.all_eq_true_iff_forall_mem]
  intro c hc
  rw [List.mem_toArray,List.mem_map] at hc
  obtain ⟨ch,_,rfl⟩:=hc
  have:=ch.valid
  simp only [decide_eq_true_eq]
  have h2:ch.toNat=ch.val.toNat:=rfl
  rw [h2]
  rcases this with h | h<;>omega
theorem cps_append (x y:Str):(x++y).cps=x.cps++y.cps:=rfl
theorem strOk_append {x y:Str} (hx:PyData.strOk x=true) (hy:PyData.strOk y=true):PyData.strOk (x++y)=true:=by
  unfold PyData.strOk at *
  rw [cps_append,Array.all_append,hx,hy];rfl
theorem len_append (x y:Str):(x++y).length=x.length+y.length:=strLen_append x y
theorem len_ofString (s:String):(Str.ofString s).length=s.toList.length:=by
  show (Str.ofString s).cps.size=_
  rw [ofString_cps];simp
theorem len_hex {i:Int} {k:Nat} (hk:1≤k) (h:i.natAbs<16^k):(hexS i).length≤k+3:=by
  unfold hexS baseText
  have h4:(String.ofList (Nat.toDigits 16 i.natAbs)).toList=Nat.toDigits 16 i.natAbs:=String.toList_ofList
  rw [len_append,len_append,len_ofString,len_ofString,len_ofString,h4]
  have h1:=StrLaws.toDigits_len hk h
  have h2:(if i<0 then "-" else "").toList.length≤1:=by split<;>decide
  have h3:("0x" : String).toList.length=2:=by decide
  omega
noncomputable def flagTable:List Str:=["OPTIMIZED", "NEWLOCALS", "VARARGS", "VARKEYWORDS", "NESTED", "GENERATOR", "NOFREE", "COROUTINE", "ITERABLE_COROUTINE", "ASYNC_GENERATOR"]
noncomputable def nameAt (i:Int):Str:=if i<10 then flagTable.getD i.toNat Str.empty else hexS (2^i.toNat)
noncomputable def bitOn (v:Int) (i:Int):Bool:=(v.fdiv (2^i.toNat)).fmod 2 != 0
noncomputable def namesFn (v:Int):List Str:=((List.range 32).filter fun (i:Nat)=>bitOn v i).map fun (i:Nat)=>nameAt i
noncomputable def namedFn (v:Int):Str:=Builtin.Str.glued (Str.ofString ", ") (if v.fdiv (2^32)*2^32=0∧namesFn v≠[] then namesFn v else namesFn v++[hexS (v.fdiv (2^32)*2^32)])
theorem upto_filter {f:Int->Bool} {k:Nat}:(upto 0 k).filter (onB f)=((List.range k).filter fun (i:Nat)=>f i).map fun (i:Nat)=>D.int i:=by
  have e:upto 0 k=(List.range k).map fun (i:Nat)=>D.int i:=by
    unfold upto
    apply List.map_congr_left
    intro i _
    rw [Int.zero_add]
  rw [e,List.filter_map]
  rfl
theorem pow2_ne (i:Nat):(2:Int)^i≠0:=Int.ne_of_gt (Int.pow_pos (by decide))
theorem pow2_log (i:Nat):((2:Int)^i).natAbs.log2=i:=by
  rw [Int.natAbs_pow]
  show (2^i).log2=i
  exact Nat.log2_two_pow
theorem bits2:Builtin.Int.intBits 2=2:=by decide +kernel
theorem table_words:PySem.wordsOf (Str.ofString "OPTIMIZED NEWLOCALS VARARGS VARKEYWORDS NESTED GENERATOR NOFREE COROUTINE ITERABLE_COROUTINE ASYNC_GENERATOR")=flagTable:=by decide +kernel
theorem nameAt_len (i:Nat) (h:i<32):(nameAt i).length≤20:=by
  have:∀ i:Fin 32,(nameAt i.val).length≤20:=by decide +kernel
  exact this ⟨i,h⟩
theorem nameAt_ok (i:Nat) (h:i<32):PyData.strOk (nameAt i)=true:=by
  have:∀ i:Fin 32,PyData.strOk (nameAt i.val)=true:=by decide +kernel
  exact this ⟨i,h⟩
theorem Ts.conv {w:World} {s₁:Shared} {A:Around} {env:Env} {ρ:List (Str × D)} {e:Expr} {b b':Bool} (x:Ts w s₁ A env ρ e b) (h:b=b'):Ts w s₁ A env ρ e b':=h▸x
theorem f_named {w:World} {s₁:Shared} (G:GW w s₁) {n:Nat} {v:Int} (hv:v.natAbs<2^60):Fn w s₁ h0 (n+20) 131 [.int v] (.str (namedFn v)):=by
  refine fn_enter (fun A s s' env h T=>h) ["value"] G rfl rfl (by kernel_rfl) (fun s vs h=>by obtain ⟨a,rfl⟩:=len1 h;exact BindsTo.of_eq rfl) (by decide) (by decide) (by decide) rfl rfl rfl fun N A s L hA hh ⟨s₀,h₀,hown⟩ K R=>?_
  refine xs_assign R (d:=.lst (flagTable.map D.str)) (ev_meth (d₀:=.str "OPTIMIZED NEWLOCALS VARARGS VARKEYWORDS NESTED GENERATOR NOFREE COROUTINE ITERABLE_COROUTINE ASYNC_GENERATOR") (by exact ev_str) (by exact evs_nil) PySem.F.plainAttrs_str PySem.F.slot_str_split PySem.F.type_str_split (fun N s u b=>is_str b) rfl rfl rfl rfl hev0 (op_split (by decide +kernel) (by decide +kernel) (by decide +kernel) table_words)) (.cell rfl rfl (own_cell rfl)) rfl fun s T K' R=>?_
  refine xs_lcf (n:=n+19) (tg:=fun θ=>True) G K hA hh R (evit_range1 G K ev_int (by decide) (by decide) rfl rfl rfl) trivial (ScOk.of rfl) (fun θ=>rfl) rfl (inUp 32) (onB (bitOn v)) (onI fun i=>.str (nameAt i)) (fun C cells d K₁ ⟨i,hi,e⟩=>?_) (fun C cells d K₁ ⟨i,hi,e⟩ _=>?_) upto_in (by rw [upto_len];exact Nat.le_of_ble_eq_true rfl) (.local rfl rfl) rfl fun s T K' R=>?_
  · subst e
    exact ts_plain (ev_mod (ev_div (ev_var K₁ rfl rfl rfl) (ev_pow ev_int (ev_var K₁ rfl rfl rfl) (by omega) (by rw [bits2];omega)) (pow2_ne _) (PyProof.noPylong_of_log2 (by rw [pow2_log];omega))) ev_int (by decide)) tr_int (fun θ=>rfl)
  · subst e
    refine ev_if (c:=decide ((i:Int)<10)) (ts_cmp (ev_var K₁ rfl rfl rfl) ev_int op_lt rfl) (fun q=>?_) fun q=>?_
    · have hi10:i<10:=by have:=of_decide_eq_true q;omega
      refine ev_item_lst (i:=(i:Int)) (ev_var K₁ rfl rfl rfl) (ev_var K₁ rfl rfl rfl) (by omega) (by omega) ?_ (fun θ θ=>⟨_,rfl⟩)
      have:∀ j:Fin 10,(flagTable.map D.str)[j.val]?=some (.str (flagTable.getD j.val Str.empty)):=by
        intro j
        rw [List.getElem?_map]
        have:flagTable[j.val]?=some (flagTable.getD j.val Str.empty):=by
          have hl:j.val<flagTable.length:=j.isLt
          rw [List.getD_eq_getElem?_getD,List.getElem?_eq_getElem hl];rfl
        rw [this];rfl
      show _=some (D.str (nameAt i))
      rw [nameAt,if_pos (by omega)]
      exact this ⟨i,hi10⟩
    · have hi10:¬ (i:Int)<10:=of_decide_eq_false q
      show Ev _ _ _ _ _ _ (.str (nameAt i))
      rw [nameAt,if_neg hi10]
      refine ev_b1 (ev_bi G K₁ rfl (by kernel_rfl) hv_hex rfl) (ev_pow ev_int (ev_var K₁ rfl rfl rfl) (by omega) (by rw [bits2];omega)) rfl rfl (op_hex ?_)
      refine Nat.le_trans (len_hex (k:=10) (by decide) ?_) (Nat.le_of_ble_eq_true rfl)
      rw [Int.natAbs_pow]
      exact Nat.lt_of_lt_of_le (Nat.pow_lt_pow_right (by decide) (show (i:Int).toNat<32 by omega)) (by decide)
  have hn:(((upto 0 (32:Int).toNat).filter (onB (bitOn v))).map (onI fun i=>D.str (nameAt i)))=(namesFn v).map D.str:=by
    rw [upto_filter,List.map_map]
    unfold namesFn
    rw [List.map_map];rfl
  rw [hn] at R
  have hab:(v.fdiv (2^32)*2^32).natAbs<2^62:=hiw hv
  have hp:((2:Int)^(32:Int).toNat)=2^32:=rfl
  refine xs_assign R (d:=.int (v.fdiv (2^32)*2^32)) (ev_mul (ev_div (ev_var K rfl rfl rfl) (ev_pow ev_int ev_int (by decide) (by rw [bits2];decide)) (pow2_ne _) (PyProof.noPylong_of_log2 (by rw [pow2_log];decide))) (ev_pow ev_int ev_int (by decide) (by rw [bits2];decide)) (.of_right (by decide +kernel))) (.local rfl rfl) rfl fun s T K' R=>?_
  have hlen:(namesFn v).length≤32:=by
    unfold namesFn;rw [List.length_map];exact Nat.le_trans (List.length_filter_le _ _) (by simp)
  have hmem:∀ x,x∈namesFn v->x.length≤20∧PyData.strOk x=true:=fun x hx=>by
    unfold namesFn at hx
    obtain ⟨i,hi,rfl⟩:=List.mem_map.mp hx
    have:=List.mem_range.mp (List.mem_filter.mp hi).1
    exact ⟨nameAt_len i this,nameAt_ok i this⟩
  have hhex:(hexS (v.fdiv (2^32)*2^32)).length≤20:=Nat.le_trans (len_hex (k:=16) (by decide) (Nat.lt_of_lt_of_le hab (by decide))) (by decide)
  have hsum:∀ l:List Str,(∀ x,x∈l->x.length≤20)->(l.map (·.length)).sum≤20*l.length:=by
    intro l
    induction l with
    | nil=>intro _;simp
    | cons a r ih=>
      intro h
      have h1:=h a List.mem_cons_self
      have h2:=ih fun x hx=>h x (List.mem_cons_of_mem _ hx)
      simp only [List.map_cons,List.sum_cons,List.length_cons]
      omega
  have huA:A.units+64<cLine:=by have:=hA.u;show A.units+64<9900;omega
  refine xs_return R (m_str1 (x:=Str.ofString ", ") (by exact ev_str) (b:=.lst ((if v.fdiv (2^32)*2^32=0∧namesFn v≠[] then namesFn v else namesFn v++[hexS (v.fdiv (2^32)*2^32)]).map D.str)) (ev_if (c:=decide (v.fdiv (2^32)*2^32=0∧namesFn v≠[])) ?_ (fun q=>?_) fun q=>?_) PySem.F.slot_str_join PySem.F.type_str_join rfl rfl rfl rfl (op_join ?_)) fun v s' T b=>⟨R.to.trans T.of_no,b⟩
  · refine Ts.conv (ts_and (p:=v.fdiv (2^32)*2^32==0) (q:=!PyData.eqv (py (.lst ((namesFn v).map D.str))) (py (.lst []))) (ts_cmp (ev_var K rfl rfl rfl) ev_int op_eq rfl) fun θ=>ts_cmp (ev_var K rfl rfl rfl) (ev_list (ds:=[]) (by exact evs_nil) (Nat.zero_le _)) (op_ne_data huA (okD_strs fun x hx=>(hmem x hx).2) okD_nil) rfl) ?_
    rw [eqv_nil,List.isEmpty_map]
    rw [Bool.eq_iff_iff]
    simp only [Bool.and_eq_true,beq_iff_eq,decide_eq_true_eq,Bool.not_eq_true',List.isEmpty_eq_false_iff]
  · rw [if_pos (of_decide_eq_true q)]
    exact ev_var K rfl rfl rfl
  · rw [if_neg (of_decide_eq_false q),List.map_append]
    exact ev_bin (ev_var K rfl rfl rfl) (ev_list (ds:=[D.str (hexS (v.fdiv (2^32)*2^32))]) (evs_cons (ev_b1 (ev_bi G K rfl (by kernel_rfl) hv_hex rfl) (ev_var K rfl rfl rfl) rfl rfl (op_hex (by unfold sizeLine;omega))) evs_nil) (Nat.le_of_ble_eq_true rfl)) (op_add_lst (by rw [List.length_map];unfold sizeLine;show _+1≤_;omega))
  · have h1:=hsum (namesFn v) fun x hx=>(hmem x hx).1
    have h2:=hsum (namesFn v++[hexS (v.fdiv (2^32)*2^32)]) fun x hx=>by
      rcases List.mem_append.mp hx with q | q
      · exact (hmem x q).1
      · rw [List.mem_singleton] at q;rw [q];exact hhex
    have h3:(Str.ofString ", ").length=2:=by decide +kernel
    rw [h3]
    unfold sizeLine
    split
    · omega
    · rw [List.length_append] at *;simp only [List.length_singleton] at *;omega
noncomputable def OwnL (env:Env) (l:Addr):Loc->Prop:=fun p=>Own env p∨p=.inl l
theorem To.less {X Y:Loc->Prop} {s s':Shared} (x:To Y s s') (h:∀ l,Y l->X l∨NewAt s l):To X s s':=
  ⟨fun b o hb ht e=>x.keep b o (fun q=>(h _ q).elim hb fun z=>by rw [show s.heap.get? b=none from z] at e;cases e) ht e,x.tab,x.code,
   fun g x' hg e=>x.gkeep g x' (fun q=>(h _ q).elim hg fun z=>by rw [show s.gens[g]?=none from z] at e;cases e) e,x.bare,x.os⟩
theorem out_nots {N:Addr->Prop} {l:Addr} {done:List D} {s:Shared} (o:Out N l done s):¬ NewAt s (.inl l):=fun q=>by
  obtain ⟨us,⟨m,ho⟩,_⟩:=o
  rw [show s.heap.get? l=none from q] at ho;cases ho
section
variable {w:World} {s₁ sb s:Shared} {N:Addr->Prop} {A:Around} {env:Env} {ρ:List (Str × D)} {γ:List (D × Value)} {X:Loc->Prop} {E:Value->Shared->Prop} {Q:Flow->Shared->Prop}
theorem ownL_there {l:Addr} {done:List D} (R:Rel s₁ N (OwnL env l) sb env ρ γ s) (o:Out N l done s):∀ p,OwnL env l p->¬ NewAt s p:=fun p hp=>by
  rcases hp with h | rfl
  · rcases h with rfl | ⟨x,c,hk,hc,rfl⟩
    · obtain ⟨m,hm,_⟩:=R.ns
      exact ns_there hm
    · obtain ⟨c',ov,hc',hi,_⟩:=R.cel x _ hk (.inl rfl)
      rw [hc] at hc';cases hc'
      exact cell_there hi
  · exact out_nots o
theorem sto_more {Y:Loc->Prop} (h:∀ l,X l->Y l) {x:Str} (S:Sto X env x):Sto Y env x:=⟨S.1,S.2.imp id fun q=>⟨q.1,fun c hc=>h _ (q.2 c hc)⟩⟩
theorem xs_newlist (G:GW w s₁) {x:Str} {p lp pos:Pos} {elts:List Expr} {ds:List D} {rest:List Stmt} (R:Rel s₁ N (Own env) sb env ρ γ s) (y:Evs w s₁ A env ρ (backTo lp (starEach elts env)) ds) (hz:ds.length≤sizeLine) (S:Sto (Own env) env x)
    (hs:swapsWith (.List elts lp) (some (.Name x p)) pos.line env=pure false)
    (h:∀ l s',NewAt sb (.inl l)->¬ N l->¬ Own env (.inl l)->Out (orN N l) l ds s'->Rel s₁ (orN N l) (OwnL env l) sb env ((x,.val (.ref l))::ρ) γ s'->Xs w A env rest Q E s'):Xs w A env (.Assign [.Name x p] (.List elts lp) pos::rest) Q E s:=by
  refine xs_cons ⟨wpAny_Assign_Name (List_ (y.use R fun vs s' T b=>?_)) hs⟩
  refine wpAny_newObj_type ?_ (by show vs.toArray.size≤sizeLine;rw [List.size_toArray,all_length b];exact hz)
  have R':=R.step T
  have T':To no s' { s' with heap:=s'.heap.push { cls:=.type "list", data:=.seq vs.toArray } }:=To.push _ _
  have hnew:NewAt s' (.inl s'.heap.objs.size):=newAt_ge (Nat.le_refl _)
  have hnb:NewAt sb (.inl s'.heap.objs.size):=by
    have key:∀ b,sb.heap.get? b≠none->(Own env (.inl b))∨s'.heap.get? b≠none:=fun b hb=>by
      by_cases q:Own env (.inl b)
      · exact .inl q
      · refine .inr ?_
        cases e:sb.heap.get? b with
        | none=>exact absurd e hb
        | some o=>
          by_cases ht:b∈tabs
          · obtain ⟨us,eu⟩:=R'.tabs b ht
            rw [eu];exact fun z=>nomatch z
          · rw [R'.to.keep b o q (fun z=>absurd z ht) e];exact fun z=>nomatch z
    show sb.heap.get? _=none
    cases e:sb.heap.get? s'.heap.objs.size with
    | none=>rfl
    | some o=>
      rcases key s'.heap.objs.size (by rw [e];exact fun z=>nomatch z) with q | q
      · exact absurd hnew (own_there R' _ q)
      · exact absurd hnew q
  have hno:¬ Own env (.inl s'.heap.objs.size):=fun q=>own_there R' _ q hnew
  have hl:Lst (s'.heap.push { cls:=.type "list", data:=.seq vs.toArray }) s'.heap.objs.size vs:=⟨_,Heap.get?_push_size _ rfl⟩
  have R₁:Rel s₁ (orN N s'.heap.objs.size) (OwnL env s'.heap.objs.size) sb env ρ γ { s' with heap:=s'.heap.push { cls:=.type "list", data:=.seq vs.toArray } }:=by
    refine ⟨R'.inv.trans T',(R'.to.mono fun θ h=>.inl h).trans T'.of_no,fun l h=>h.elim (R'.xnew l) fun e=>by rw [e];exact At.of_new G R'.inv hnew,.inl R'.xloc,?_,fun y k hk hq=>?_,R'.apart,R'.ltab,fun p hp=>((R'.gh p hp).more hnew).to T',fun a ha=>?_,R'.tabs.to T'⟩
    · obtain ⟨m,hm,k⟩:=R'.ns
      exact ⟨m,ns_to' T' id R'.ltab hm,fun y d hk hd=>let ⟨v,e,b⟩:=k y d hk hd;⟨v,e,(b.more hnew).to T'⟩⟩
    · obtain ⟨c,ov,hc,hi,ht,r⟩:=R'.cel y k hk hq
      exact ⟨c,ov,hc,cell_to T' ht hi,ht,fun d hd=>let ⟨v,e,b⟩:=r d hd;⟨v,e,(b.more hnew).to T'⟩⟩
    · rcases ha with ha | rfl
      · exact (R'.nex.to R'.tabs T') a ha
      · obtain ⟨m,ho⟩:=hl
        exact there_get (s:={ s' with heap:=s'.heap.push { cls:=.type "list", data:=.seq vs.toArray } }) ho
  have o₁:Out (orN N s'.heap.objs.size) s'.heap.objs.size ds { s' with heap:=s'.heap.push { cls:=.type "list", data:=.seq vs.toArray } }:=⟨vs,hl,(b.more hnew).to T'⟩
  exact R₁.store bears_val (sto_more (fun θ h=>.inl h) S) fun s₂ T₂ K₂ R₂=>h _ s₂ hnb (R'.nex.new hnew) hno (o₁.kept K₂) R₂
theorem xs_append (G:GW w s₁) {l:Addr} {done:List D} {d:D} {x:Expr} {e:Expr} {apos pos spos:Pos} {rest:List Stmt} (R:Rel s₁ N X sb env ρ γ s) (hX:X (.inl l)) (hN:N l) (o:Out N l done s) (xv:Ev w s₁ A env ρ x (.val (.ref l))) (y:Ev w s₁ A env ρ e d) (hsz:done.length≤sizeLine)
    (hs:starEach [e] env=[(false,eval e env)]) (hbase:attributeBase x "append" env (eval x env)=eval x env) (hk:backToKw pos (keywordEach [] env)=[]) (hline:(apos.endLine==pos.line)=true)
    (hi:interactive env=false) (hsw:swapsWith (.Call (.Attribute x "append" apos) [e] [] pos) none spos.line env=pure false)
    (h:∀ s',Out N l (done++[d]) s'->Rel s₁ N X sb env ρ γ s'->Xs w A env rest Q E s'):Xs w A env (.Expr (.Call (.Attribute x "append" apos) [e] [] pos) spos::rest) Q E s:=by
  have hb:backTo pos (starEach [e] env)=[(false,eval e env)]:=by rw [hs];rfl
  refine xs_cons ⟨wpAny_Expr_any (wpAny_Call_method_lateS hbase ?_ hline (xv.use R fun u s' T bu=>?_)) hi hsw⟩
  · rw [hb,hk];rfl
  obtain rfl:=of_val bu
  obtain ⟨us,⟨m,ho⟩,bs⟩:=o.to T
  refine ⟨"list", "list.append", PySem.F.plainAttrs_list,PySem.F.slot_list_append,PySem.F.type_list_append,⟨_,ho,rfl⟩,fun a ea=>by cases ea;exact ⟨_,ho,rfl⟩,Calls.callWith_builtin (by rw [hb];rfl) ?_⟩
  rw [hb]
  refine Calls.evalArgs_plain (Calls.spliced_cons (y.use (R.step T) fun v s'' T' bv=>Calls.spliced_nil ?_))
  obtain ⟨us',hl,bs'⟩:=(o.to T).to T'
  refine append_lst hl (by rw [all_length bs'];exact hsz) fun h' hl' hsb=>?_
  exact h { s'' with heap:=h' } ⟨us'++[v],hl',(all_append bs' (all_cons bv all_nil)).butN hsb hN⟩ (((R.step T).step T').listed hl.isList hl'.isList hsb hX hN)
theorem Rel.closeL {N₀:Addr->Prop} {l:Addr} {done:List D} {x:Str} (R:Rel s₁ (orN N₀ l) X sb env ρ γ s) (o:Out (orN N₀ l) l done s) (hn:¬ N₀ l) (hx:ρ.lookup x=some (.val (.ref l))) (hv:isVar (env.kindOf x)=true) :
    Rel s₁ N₀ X sb env ((x,.lst done)::ρ) γ s:=by
  have R':=R.fewer (N':=N₀) fun θ h=>.inl h
  obtain ⟨us,hl,b⟩:=o
  have bl:Bears N₀ s.heap (.lst done) (.ref l):=bears_lst hn hl (b.fewer fun θ h=>.inl h)
  refine { R' with ns:=?_,cel:=?_ }
  · obtain ⟨m,hm,k⟩:=R'.ns
    refine ⟨m,hm,fun y d hk hd=>?_⟩
    by_cases q:y=x
    · subst q
      rw [lookup_eq] at hd;cases hd
      obtain ⟨v,e,bv⟩:=k y _ hk hx
      rw [of_val bv] at e
      exact ⟨_,e,bl⟩
    · rw [lookup_ne q] at hd
      exact k y d hk hd
  · intro y k hk hq
    obtain ⟨c,ov,hc,hi,ht,r⟩:=R'.cel y k hk hq
    refine ⟨c,ov,hc,hi,ht,fun d hd=>?_⟩
    by_cases q:y=x
    · subst q
      rw [lookup_eq] at hd;cases hd
      obtain ⟨v,e,bv⟩:=r _ hx
      rw [of_val bv] at e
      exact ⟨_,e,bl⟩
    · rw [lookup_ne q] at hd
      exact r d hd
end
noncomputable def pLoop:List Nat->List Str->Int->List Str
  | [],names,fl=>names++[hexS fl]
  | i::r,names,fl=>
    if Builtin.bitAnd fl (1*2^i) != 0 then
      if Builtin.bitXor fl (1*2^i) != 0 then pLoop r (names++[(flagName (1*2^i)).getD (hexS (1*2^i))]) (Builtin.bitXor fl (1*2^i))
      else names++[(flagName (1*2^i)).getD (hexS (1*2^i))]
    else pLoop r names fl
noncomputable def prettyFn (v:Int):Str:=Builtin.Str.glued (Str.ofString ", ") (pLoop (List.range 32) [] v)
theorem pname_len (i:Nat) (h:i<32):((flagName (1*2^i)).getD (hexS (1*2^i))).length≤20:=by
  have:∀ i:Fin 32,((flagName (1*2^i.val)).getD (hexS (1*2^i.val))).length≤20:=by decide +kernel
  exact this ⟨i,h⟩
theorem hex_ok {i:Int} (h:i.natAbs<2^62):(hexS i).length≤20:=Nat.le_trans (len_hex (k:=16) (by decide) (Nat.lt_of_lt_of_le h (by decide))) (by decide)
theorem xor_bound {x y:Int} (hy:0≤y):(Builtin.bitXor x y).natAbs≤x.natAbs+y.natAbs:=by
  have h1:=bitXor_and x y
  have h2:=bitAnd_range x hy
  rw [h1,Int.add_sub_assoc]
  refine Nat.le_trans (Int.natAbs_add_le _ _) (Nat.add_le_add_left ?_ _)
  obtain ⟨a,ha⟩:=Int.eq_ofNat_of_zero_le h2.1
  obtain ⟨b,rfl⟩:=Int.eq_ofNat_of_zero_le hy
  rw [ha] at h2 ⊢
  clear h1 ha;omega
theorem one_pow_bound (i:Nat) (h:i<32):(0:Int)≤1*2^i∧((1:Int)*2^i).natAbs≤2^31:=by
  have:∀ i:Fin 32,(0:Int)≤1*2^i.val∧((1:Int)*2^i.val).natAbs≤2^31:=by decide
  exact this ⟨i,h⟩
theorem x_break {w:World} {A:Around} {env:Env} {pos:Pos} {rest:List Stmt} {Q:Flow->Shared->Prop} {E:Value->Shared->Prop} {s:Shared} (h:Q .brk s):Xs w A env (.Break pos::rest) Q E s:=xs_cons ⟨wpAny_Break h⟩
theorem strSum {l:List Str} (h:∀ x,x∈l->x.length≤20):(l.map (·.length)).sum≤20*l.length:=by
  induction l with
  | nil=>simp
  | cons a r ih=>
    have h1:=h a List.mem_cons_self
    have h2:=ih fun x hx=>h x (List.mem_cons_of_mem _ hx)
    simp only [List.map_cons,List.sum_cons,List.length_cons]
    omega
theorem m_flag {w:World} {s₁:Shared} {A:Around} {env:Env} {ρ:List (Str × D)} (G:GW w s₁) {o e f:Expr} {apos pos:Pos} {i:Int} {x:Str} (u:Ev w s₁ A env ρ o (.val (.ref 78))) (y:Ev w s₁ A env ρ e (.int i)) (y':Ev w s₁ A env ρ f (.str x))
    (hs:starEach [e,f] env=[(false,eval e env),(false,eval f env)]) (hs':starEach [e,f] env=(false,eval e env)::starEach [f] env) (hbase:attributeBase o "get" env (eval o env)=eval o env) (hk:backToKw pos (keywordEach [] env)=[]) (hline:(apos.endLine==pos.line)=true) :
    Ev w s₁ A env ρ (.Call (.Attribute o "get" apos) [e,f] [] pos) (.str ((flagName i).getD x)):=Gv.mk <| fun N X sb γ s R=>by
  have hb:backTo pos (starEach [e,f] env)=[(false,eval e env),(false,eval f env)]:=by rw [hs];rfl
  have z:Evs w s₁ A env ρ (backTo pos (starEach [e,f] env)) [.int i,.str x]:=by rw [hb];exact evs_cons y (evs_cons y' evs_nil)
  refine wpAny_Call_method_lateS hbase ?_ hline (u.use R fun v s' T' bu=>?_)
  · rw [hb,hk];rfl
  obtain rfl:=of_val bu
  have ho:=G.get (R.inv.trans T') (a:=78) (o:=flagDict) rfl rfl
  exact ⟨"dict", "dict.get", PySem.F.plainAttrs_dict,PySem.F.slot_dict_get,PySem.F.type_dict_get,⟨_,ho,rfl⟩,fun a ea=>by cases ea;exact ⟨_,ho,rfl⟩,Calls.callWith_builtin (by rw [hb];rfl) (hev1 hs' (z.use (R.step T') fun vs s'' T'' bs=>
    wpAny_mono (op_get G N s'' (.ref 78) vs bears_val bs (R.inv.trans (T'.trans T'')) ((R.step T').step T'').nex) (fun θ θ z=>⟨(T'.trans T'').trans z.1,z.2⟩) fun θ θ z=>z.elim))⟩
theorem x_join {w:World} {s₁ sb s:Shared} {N:Addr->Prop} {A:Around} {env:Env} {ρ:List (Str × D)} {γ:List (D × Value)} {l:Addr} {names:List Str} {sep x r:Str} (hr:r=Builtin.Str.glued sep names) {k:Nat} {p0 apos pos p1 rp:Pos} {rest:List Stmt} {E:Value->Shared->Prop}
    (K:EnvOk env) (R:Rel s₁ (orN N l) (OwnL env l) sb env ρ γ s) (o:Out (orN N l) l (names.map D.str) s) (hn:¬ N l) (hb:NewAt sb (.inl l)) (hx:ρ.lookup x=some (.val (.ref l))) (hv:isVar (env.kindOf x)=true) (hd:(x==("__debug__" : Str)||x==("__classdict__" : Str))=false)
    (hz:(names.map (·.length)).sum+names.length*sep.length≤sizeLine) (hs:starEach [.Name x p1] env=[(false,eval (.Name x p1) env)]) (hbase:attributeBase (.Constant (.str sep) k p0) "join" env (eval (.Constant (.str sep) k p0) env)=eval (.Constant (.str sep) k p0) env)
    (hk:backToKw pos (keywordEach [] env)=[]) (hline:(apos.endLine==pos.line)=true) :
    Xs w A env (.Return (some (.Call (.Attribute (.Constant (.str sep) k p0) "join" apos) [.Name x p1] [] pos)) rp::rest) (fun fl s'=>To (Own env) sb s'∧Bears N s'.heap (.str r) (match fl with | .ret v=>v | _=>.none)) E s:=
  xs_return (R.closeL o hn hx hv) (Ev.conv (m_str1 ev_str (ev_var K hv lookup_eq hd) PySem.F.slot_str_join PySem.F.type_str_join hs hbase hk hline (op_join hz)) (by rw [hr])) fun v s' T b=>⟨(R.to.trans T.of_no).less fun p h=>h.imp id fun e=>by rw [e];exact hb,b⟩
inductive PrI (v:Int) (l:Addr) (N:Addr->Prop) (ds:List D) (ρ:List (Str × D)) (s':Shared):Prop
  | mk (is:List Nat) (names:List Str) (fl:Int) (e:ds=(is.map fun (i:Nat)=>D.int ((0:Int)+(i:Int)))) (h1:∀ i,i∈is->i<32) (h2:ρ.lookup ("names" : Str)=some (.val (.ref l))) (h3:ρ.lookup ("flags" : Str)=some (.int fl)) (h4:names.length+is.length≤32) (h5:∀ x,x∈names->x.length≤20)
    (h6:fl.natAbs+is.length*2^31<2^61) (o:Out (orN N l) l (names.map D.str) s') (h7:pLoop is names fl=pLoop (List.range 32) [] v)
theorem f_pretty {w:World} {s₁:Shared} (G:GW w s₁) {n:Nat} {v:Int} (hv:v.natAbs<2^60):Fn w s₁ h0 (n+2) 85 [.int v] (.str (prettyFn v)):=by
  refine fn_enter (fun A s s' env h T=>h) ["flags"] G rfl rfl (by kernel_rfl) (fun s vs h=>by obtain ⟨a,rfl⟩:=len1 h;exact BindsTo.of_eq rfl) (by decide) (by decide) (by decide) rfl rfl rfl fun N A s L hA hh ⟨s₀,h₀,hown⟩ K R=>?_
  refine xs_newlist G (ds:=[]) R (by exact evs_nil) (Nat.zero_le _) (.local rfl rfl) rfl fun l s hnl hNl hol o R=>?_
  refine xs_for (X:=OwnL _ l) (n:=n+1) (tg:=fun θ=>True) G hA hh trivial R (evit_range1 G K ev_int (by decide) (by decide) rfl rfl rfl) (fun θ=>rfl) (ownL_there R o)
    (PrI v l N)
    (fun s' T=>⟨List.range 32,[],v,rfl,fun i h=>List.mem_range.mp h,rfl,rfl,by simp,by simp,by simp;omega,o.to T,rfl⟩)
    (fun ds ρ s' s'' Y j T K' hY=>?_) (fun γ' ds ρ s' j R'=>?_) (fun γ' d ds ρ s' v' j R' T b=>?_) (fun γ' ρ s' j R'=>?_)
  · obtain ⟨is,names,fl,e,h1,h2,h3,h4,h5,h6,o',h7⟩:=j
    exact ⟨is,names,fl,e,h1,h2,h3,h4,h5,h6,o'.kp T K' (fun q=>out_nots o (hY _ q)),h7⟩
  · obtain ⟨is,names,fl,e,h1,h2,h3,h4,h5,h6,o',h7⟩:=j
    exact ownL_there R' o'
  · obtain ⟨is,names,fl,e,h1,h2,h3,h4,h5,h6,o',h7⟩:=j
    have TT:=R.to.trans T
    cases is with
    | nil=>cases e
    | cons i is=>
      obtain ⟨rfl,rfl⟩:=List.cons.inj e
      replace b:Bears (orN N l) s'.heap (.int (i:Int)) v':=by
        have b':Bears (orN N l) s'.heap (.int (0+(i:Int))) v':=b
        rwa [Int.zero_add] at b'
      have hi:=h1 i List.mem_cons_self
      obtain ⟨hp0,hpb⟩:=one_pow_bound i hi
      simp only [List.length_cons] at h4 h6
      refine as_name (H:=fun θ=>True) (sto_more (fun θ h=>.inl h) (.local rfl rfl)) _ _ _ _ _ _ _ trivial R' b fun s T₁ K₁ R'=>?_
      have o₁:=o'.kept K₁
      refine xs_assign R' (ev_shl ev_int (ev_var K rfl rfl rfl) (by omega) ?_) (sto_more (fun θ h=>.inl h) (.local rfl rfl)) rfl fun s T₂ K₂ R'=>?_
      · have:Builtin.Int.intBits 1=1:=by decide +kernel
        rw [this];omega
      have o₂:=o₁.kept K₂
      have hflag:(1:Int)*2^((i:Int)).toNat=1*2^i:=rfl
      refine xs_if R' (ts_plain (ev_band (ev_var K rfl h3 rfl) (ev_var K rfl rfl rfl)) tr_int (fun θ=>rfl)) (fun hc s T₃ R'=>?_) fun hc s T₃ R'=>?_
      · refine xs_append G R' (.inr rfl) (.inr rfl) (o₂.to T₃) (ev_var K rfl h2 rfl) (m_flag G (ev_gl G K rfl (by kernel_rfl) rfl) (ev_var K rfl rfl rfl) (ev_b1 (ev_bi G K rfl (by kernel_rfl) hv_hex rfl) (ev_var K rfl rfl rfl) rfl rfl (op_hex (Nat.le_trans (hex_ok (Nat.lt_of_le_of_lt hpb (by decide))) (Nat.le_of_ble_eq_true rfl)))) rfl rfl rfl rfl rfl) (by rw [List.length_map];unfold sizeLine;omega) rfl rfl rfl rfl rfl rfl fun s o₃ R'=>?_
        have o₃':Out (orN N l) l ((names++[(flagName (1*2^i)).getD (hexS (1*2^i))]).map D.str) s:=by rw [List.map_append];exact o₃
        refine xs_aug R' (sto_more (fun θ h=>.inl h) (.local rfl rfl)) (a:=.int fl) h3 (ev_var K rfl rfl rfl) i_xor fun s T₄ K₄ R'=>?_
        have o₄:=o₃'.kept K₄
        have hx5:∀ x,x∈names++[(flagName (1*2^i)).getD (hexS (1*2^i))]->x.length≤20:=fun x hx=>by
          rcases List.mem_append.mp hx with q | q
          · exact h5 x q
          · rw [List.mem_singleton] at q;rw [q];exact pname_len i hi
        refine xs_if R' (ts_not (ts_plain (ev_var K rfl rfl rfl) tr_int (fun θ=>rfl))) (fun hd s T₅ R'=>?_) fun hd s T₅ R'=>?_
        · have hz0:Builtin.bitXor fl (1*2^i)=0:=by simpa using hd
          have hbit:(Builtin.bitAnd fl (1*2^i) != 0)=true:=hc
          refine x_break (x_join (names:=names++[(flagName (1*2^i)).getD (hexS (1*2^i))]) ?_ K (R'.rebase TT) (o₄.to T₅) hNl hnl h2 rfl rfl ?_ rfl rfl rfl rfl)
          · rw [prettyFn,← h7,pLoop,if_pos hbit,if_neg (by rw [hz0];decide)]
          · have h3':(Str.ofString ", ").length=2:=by decide +kernel
            have:=strSum hx5
            rw [h3']
            rw [List.length_append] at *
            simp only [List.length_singleton] at *
            unfold sizeLine;omega
        · have hnz:(Builtin.bitXor fl (1*2^i) != 0)=true:=by simpa using hd
          have hbit:(Builtin.bitAnd fl (1*2^i) != 0)=true:=hc
          refine xs_nil (xs_nil (xs_nil ⟨_,?_,R'⟩))
          refine ⟨is,names++[(flagName (1*2^i)).getD (hexS (1*2^i))],Builtin.bitXor fl (1*2^i),rfl,fun j h=>h1 j (List.mem_cons_of_mem _ h),h2,rfl,?_,hx5,?_,o₄.to T₅,?_⟩
          · rw [List.length_append];simp only [List.length_singleton];omega
          · have:=xor_bound (x:=fl) hp0
            omega
          · rw [← h7,pLoop,if_pos hbit,if_pos hnz]
      · have hbit:¬ (Builtin.bitAnd fl (1*2^i) != 0)=true:=by
          have:(Builtin.bitAnd fl (1*2^i) != 0)=false:=hc
          rw [this];decide
        refine xs_nil (xs_nil ⟨_,?_,R'⟩)
        have q4:names.length+is.length≤32:=by clear hc hbit;omega
        have q6:fl.natAbs+is.length*2^31<2^61:=Nat.lt_of_le_of_lt (Nat.add_le_add_left (Nat.mul_le_mul_right _ (Nat.le_succ _)) _) h6
        refine ⟨is,names,fl,rfl,fun j h=>h1 j (List.mem_cons_of_mem _ h),?_,?_,q4,h5,q6,?_,?_⟩
        · exact h2
        · exact h3
        · exact o₂.to T₃
        rw [← h7,pLoop,if_neg hbit]
  · obtain ⟨is,names,fl,e,h1,h2,h3,h4,h5,h6,o',h7⟩:=j
    have:is=[]:=by cases is with | nil=>rfl | cons _ _=>cases e
    subst this
    simp only [List.length_nil] at h4 h6
    have hfl:fl.natAbs<2^62:=by omega
    have hfz:(hexS fl).length≤sizeLine:=Nat.le_trans (hex_ok hfl) (Nat.le_of_ble_eq_true rfl)
    refine xs_append G R' (.inr rfl) (.inr rfl) o' (ev_var K rfl h2 rfl) (ev_b1 (ev_bi G K rfl (by kernel_rfl) hv_hex rfl) (ev_var K rfl h3 rfl) rfl rfl (op_hex hfz)) (by rw [List.length_map];unfold sizeLine;omega) rfl rfl rfl rfl rfl rfl fun s o₃ R'=>?_
    have o₃':Out (orN N l) l ((names++[hexS fl]).map D.str) s:=by rw [List.map_append];exact o₃
    have hx5:∀ x,x∈names++[hexS fl]->x.length≤20:=fun x hx=>by
      rcases List.mem_append.mp hx with q | q
      · exact h5 x q
      · rw [List.mem_singleton] at q;rw [q];exact hex_ok hfl
    refine xs_nil (x_join (names:=names++[hexS fl]) ?_ K (R'.rebase R.to) o₃' hNl hnl h2 rfl rfl ?_ rfl rfl rfl rfl)
    · rw [prettyFn,← h7];rfl
    · have h3':(Str.ofString ", ").length=2:=by decide +kernel
      have:=strSum hx5
      rw [h3']
      rw [List.length_append] at *
      simp only [List.length_singleton] at *
      unfold sizeLine;omega
section
variable {w:World} {s₁:Shared} {A:Around} {env:Env} {ρ:List (Str × D)}
theorem ev_gint (G:GW w s₁) (K:EnvOk env) {x:Str} {pos:Pos} {i:Int} {t:Tok} (hl:env.kindOf x=some .globalImplicit) (he:nsIn (Kw w) mainGlobals x=some (some (.int i t))) (hn:(x==("__debug__" : Str))=false):Ev w s₁ A env ρ (.Name x pos) (.int i):=
  (ev_gl G K hl he hn).mono fun N v s b=>by rw [of_val b];exact bears_int
theorem m_bits {o:Expr} {apos pos:Pos} {a:Int} (u:Ev w s₁ A env ρ o (.int a)) (hbase:attributeBase o "bit_length" env (eval o env)=eval o env) (hk:backToKw pos (keywordEach [] env)=[]) (hline:(apos.endLine==pos.line)=true) (hs:starEach [] env=[]) :
    Ev w s₁ A env ρ (.Call (.Attribute o "bit_length" apos) [] [] pos) (.int (Builtin.Int.intBits a:Nat)):=by
  have hb:backTo pos (starEach [] env)=[]:=by rw [hs];rfl
  refine ev_meth u (by rw [hb];exact evs_nil) PySem.F.plainAttrs_int PySem.F.slot_int_bit_length PySem.F.type_int_bit_length (fun N s u b=>is_int b) hbase ?_ hline ?_ hev0 op_bitlen
  · rw [hb,hk];rfl
  · rw [hb];rfl
end
noncomputable abbrev divD (a b:Int):D:=.tup [.int (a.fdiv b),.int (a.fmod b)]
theorem f_div2s {w:World} {s₁:Shared} (G:GW w s₁) {n:Nat} {a b m:Int} (hb:b≠0) (hl:b.natAbs.log2<9000) (hn:(Builtin.Int.intBits a:Int)-m≤4000):Fn w s₁ h0 (n+1) 42 [.int a,.int b,.int m] (divD a b):=by
  refine fn_enter (fun A s s' env h T=>h) ["a", "b", "n"] G rfl rfl (by kernel_rfl) (fun s vs h=>by obtain ⟨a,b,c,rfl⟩:=len3 h;exact BindsTo.of_eq rfl) (by decide) (by decide) (by decide) rfl rfl rfl fun N A s L hA hh ⟨s₀,h₀,hown⟩ K R=>?_
  refine xs_if R (ts_cmp (ev_sub (m_bits (ev_var K rfl rfl rfl) rfl rfl rfl rfl) (ev_var K rfl rfl rfl)) (ev_gint (i:=4000) (t:=223) G K rfl (by kernel_rfl) rfl) op_le rfl) (fun hc s T R=>?_) fun hc s T R=>?_
  · exact xs_return R (ev_b2 (ev_bi G K rfl (by kernel_rfl) hv_divmod rfl) (ev_var K rfl rfl rfl) (ev_var K rfl rfl rfl) rfl rfl rfl (op_divmod hb (PyProof.noPylong_of_log2 hl))) fun v s' T b=>⟨R.to.trans T.of_no,b⟩
  · exact absurd hn (of_decide_eq_false hc)
theorem xs_join {w:World} {s₁ sb s:Shared} {N:Addr->Prop} {A:Around} {env:Env} {ρ:List (Str × D)} {γ:List (D × Value)} {X:Loc->Prop} {E:Value->Shared->Prop} {Q:Flow->Shared->Prop} {t:Expr} {b o:List Stmt} {pos:Pos} {c:Bool} {rest:List Stmt}
    (P:List (Str × D)->Prop) (R:Rel s₁ N X sb env ρ γ s) (x:Ts w s₁ A env ρ t c)
    (y:c=true->∀ s',Rel s₁ N X sb env ρ γ s'->Xs w A env b (fun f s''=>match f with | .next=>∃ ρ',P ρ'∧Rel s₁ N X sb env ρ' γ s'' | f=>Q f s'') (fun θ θ=>False) s')
    (z:c=false->∀ s',Rel s₁ N X sb env ρ γ s'->Xs w A env o (fun f s''=>match f with | .next=>∃ ρ',P ρ'∧Rel s₁ N X sb env ρ' γ s'' | f=>Q f s'') (fun θ θ=>False) s')
    (h:∀ ρ' s',P ρ'->Rel s₁ N X sb env ρ' γ s'->Xs w A env rest Q E s'):Xs w A env (.If t b o pos::rest) Q E s:=by
  refine xs_if R x (fun hc s' T R'=>((y hc s' R').mono fun f s'' q=>?_).weakE) fun hc s' T R'=>((z hc s' R').mono fun f s'' q=>?_).weakE
  · cases f with
    | next=>obtain ⟨ρ',p,R''⟩:=q;exact h ρ' s'' p R''
    | _=>exact q
  · cases f with
    | next=>obtain ⟨ρ',p,R''⟩:=q;exact h ρ' s'' p R''
    | _=>exact q
theorem or_shift {r a:Int} {m:Nat} (hr:0≤r) (ha:0≤a) (hm:a<2^m):Builtin.bitOr (r*2^m) a=r*2^m+a:=by
  obtain ⟨r,rfl⟩:=Int.eq_ofNat_of_zero_le hr
  obtain ⟨a,rfl⟩:=Int.eq_ofNat_of_zero_le ha
  have hlt:a<2^m:=by exact_mod_cast hm
  have h1:(0:Int)≤(r:Int)*2^m:=Int.mul_nonneg (by omega +splitNatSub) (Int.pow_nonneg (by decide))
  have e:((r:Int)*2^m).toNat=r*2^m:=by
    have:((r*2^m:Nat):Int)=(r:Int)*2^m:=by push_cast;rfl
    rw [← this];rfl
  have ez:(r*2^m) &&& a=0:=by
    apply Nat.eq_of_testBit_eq
    intro i
    rw [Nat.testBit_and,← Nat.shiftLeft_eq,Nat.testBit_shiftLeft,Nat.zero_testBit]
    by_cases hi:m≤i
    · rw [Nat.testBit_lt_two_pow (Nat.lt_of_lt_of_le hlt (Nat.pow_le_pow_right (by decide) hi)),Bool.and_false]
    · have:decide (i≥m)=false:=decide_eq_false hi
      rw [this];rfl
  rw [bitOr_and,bitAnd_pp h1 ha,e,Int.toNat_natCast,ez]
  simp
theorem bits_le {x:Int} {k:Nat} (h:x.natAbs<2^k):Builtin.Int.intBits x≤k:=intBits_le_iff.mpr h
noncomputable def intOf (ρ:List (Str × D)) (x:Str):Int:=match ρ.lookup x with | some (.int i)=>i | _=>0
theorem d3_a (a12 a3 b b1 b2 P:Int) (hb:b=b1*P+b2):((a12-b1*P+b1)*P+a3)-(1*P-1)*b2=(a12*P+a3)-b*P+b:=by grind
theorem d3_b (a12 a3 b b1 b2 P q r:Int) (hb:b=b1*P+b2) (h:q*b1+r=a12):q*b+(r*P+a3-q*b2)=a12*P+a3:=by grind
theorem d3_c (a12 b1 P:Int):(1*P-1)*b1+(a12-b1*P+b1)=a12:=by grind
theorem div_pair {A b q r:Int} (hb:0<b) (h0:0≤r) (h1:r<b) (h:q*b+r=A):A.fdiv b=q∧A.fmod b=r:=by
  have e1:A.fmod b=r:=by
    rw [← h,Int.add_comm,Int.add_mul_fmod_self_right,Int.fmod_eq_emod_of_nonneg _ (Int.le_of_lt hb),Int.emod_eq_of_lt h0 h1]
  have e2:=Int.mul_fdiv_add_fmod A b
  rw [e1,← h] at e2
  refine ⟨?_,e1⟩
  have e3:b*A.fdiv b=b*q:=by rw [← h];rw [Int.mul_comm b q];omega
  exact Int.eq_of_mul_eq_mul_left (by omega) e3
inductive DvI (a12 a3 b b1 b2:Int) (m:Nat) (ρ':List (Str × D)):Prop
  | mk (q r:Int) (lq:ρ'.lookup ("q" : Str)=some (.int q)) (lr:ρ'.lookup ("r" : Str)=some (.int r)) (ln:ρ'.lookup ("n" : Str)=some (.int m)) (la:ρ'.lookup ("a3" : Str)=some (.int a3)) (lb2:ρ'.lookup ("b2" : Str)=some (.int b2)) (lb:ρ'.lookup ("b" : Str)=some (.int b))
    (g1:q*b1+r=a12) (g2:0≤r) (g3:r.natAbs<2^20001) (g4:q.natAbs<2^20000) (g5:(r*2^m+a3)-q*b2<b)
inductive DwI (b c:Int) (k:Nat) (ρ':List (Str × D)):Prop
  | mk (q r:Int) (lq:ρ'.lookup ("q" : Str)=some (.int q)) (lr:ρ'.lookup ("r" : Str)=some (.int r)) (lb:ρ'.lookup ("b" : Str)=some (.int b)) (e1:q*b+r=c) (e2:r<b) (e3:k=(-r).toNat)
theorem f_div3 {w:World} {s₁:Shared} (G:GW w s₁) {n:Nat} {a12 a3 b b1 b2:Int} {m:Nat} (h1:0≤a12) (h2:0≤a3) (h3:a3<2^m) (h4:0<b1) (h5:0≤b2) (h6:b2<2^m) (hb:b=b1*2^m+b2) (hlt:a12*2^m+a3<b*2^m)
    (z1:a12.natAbs<2^20000) (z2:b1.natAbs<2^20000) (hm:m≤20000) (hl:b1.natAbs.log2<9000) (hn:(Builtin.Int.intBits a12:Int)-m≤4000) :
    Fn w s₁ h0 (n+3) 49 [.int a12,.int a3,.int b,.int b1,.int b2,.int m] (divD (a12*2^m+a3) b):=by
  refine fn_enter (fun A s s' env h T=>h) ["a12", "a3", "b", "b1", "b2", "n"] G rfl rfl (by kernel_rfl) (fun s vs h=>by obtain ⟨a,b,c,d,e,f,rfl⟩:=len6 h;exact BindsTo.of_eq rfl) (by decide) (by decide) (by decide) rfl rfl rfl fun N A s L hA hh ⟨s₀,h₀,hown⟩ K R=>?_
  have hm2:((m:Nat):Int).toNat=m:=rfl
  have hpos:(0:Int)<2^m:=Int.pow_pos (by decide)
  have hb0:0<b:=by rw [hb];exact Int.add_pos_of_pos_of_nonneg (Int.mul_pos h4 hpos) h5
  refine xs_join (DvI a12 a3 b b1 b2 m) R
    (ts_cmp (ev_shr (ev_var K rfl rfl rfl) (ev_var K rfl rfl rfl) (by omega)) (ev_var K rfl rfl rfl) op_eq rfl) (fun hc s R=>?_) (fun hc s R=>?_) fun ρ' s hI R=>?_
  · refine xs_tuple_swap G (.inl hh) (fun θ θ θ θ=>.inl hh) R (ev_tuple (evs_cons (ev_sub (ev_shl ev_int (ev_var K rfl rfl rfl) (by omega) ?_) ev_int) (evs_cons (ev_add (ev_sub (ev_var K rfl rfl rfl) (ev_shl (ev_var K rfl rfl rfl) (ev_var K rfl rfl rfl) (by omega) ?_)) (ev_var K rfl rfl rfl)) evs_nil)) (Nat.le_of_ble_eq_true rfl)) rfl (.cons (as_bind (.local rfl rfl)) (.cons (as_bind (.local rfl rfl)) .nil)) rfl rfl fun s T K' R=>xs_nil ⟨_,?_,R⟩
    · have:Builtin.Int.intBits 1=1:=by decide +kernel
      rw [this];omega
    · have:=bits_le z2
      omega
    · have hq:a12.fdiv (2^m)=b1:=by simpa using hc
      have k1:=Int.mul_fdiv_self_le (x:=a12) (k:=2^m) hpos
      have k2:=Int.lt_mul_fdiv_self_add (x:=a12) (k:=2^m) hpos
      rw [hq,Int.mul_comm] at k1 k2
      have e:=d3_a a12 a3 b b1 b2 (2^m) hb
      have hpb:((2:Int)^m).natAbs≤2^20000:=by
        rw [Int.natAbs_pow];exact Nat.pow_le_pow_right (by decide) hm
      refine ⟨1*2^m-1,a12-b1*2^m+b1,rfl,rfl,rfl,rfl,rfl,rfl,d3_c _ _ _,Int.add_nonneg (Int.sub_nonneg_of_le k1) (Int.le_of_lt h4),?_,Nat.lt_of_lt_of_le (pm1 hpos) hpb,by rw [e];have:=Int.add_lt_add_right (Int.sub_neg_of_lt hlt) b;rwa [Int.zero_add] at this⟩
      rw [Nat.pow_succ,Nat.mul_two]
      exact Nat.lt_of_le_of_lt (Int.natAbs_add_le _ _) (Nat.add_lt_add_of_le_of_lt (Nat.le_trans (nabM (Int.sub_nonneg_of_le k1) (Int.le_of_lt (Int.sub_left_lt_of_lt_add k2))) hpb) z2)
  · have F:=f_div2s G (n:=n+1) (a:=a12) (b:=b1) (m:=m) (by omega) hl hn
    refine xs_tuple G (.inl hh) (fun θ θ θ θ=>.inl hh) R (ev_callF G hA hh F (ev_gl G K rfl (by kernel_rfl) rfl) (evs_cons (ev_var K rfl rfl rfl) (evs_cons (ev_var K rfl rfl rfl) (evs_cons (ev_var K rfl rfl rfl) evs_nil))) rfl rfl rfl rfl) (.cons (as_name (.local rfl rfl)) (.cons (as_name (.local rfl rfl)) .nil)) rfl rfl rfl fun s T K' R=>xs_nil ⟨_,?_,R⟩
    have k1:=Int.mul_fdiv_add_fmod a12 b1
    have k2:0≤a12.fmod b1:=Int.fmod_nonneg_of_pos _ h4
    have k3:a12.fmod b1<b1:=Int.fmod_lt_of_pos _ h4
    have k4:0≤a12.fdiv b1:=Int.fdiv_nonneg h1 (Int.le_of_lt h4)
    have k5:=natAbs_fdiv_le a12 b1
    have k6:a12.fmod b1*2^m≤(b1-1)*2^m:=Int.mul_le_mul_of_nonneg_right (by omega) (Int.le_of_lt hpos)
    have k7:0≤a12.fdiv b1*b2:=Int.mul_nonneg k4 h5
    rw [Int.sub_mul,Int.one_mul] at k6
    refine ⟨a12.fdiv b1,a12.fmod b1,rfl,rfl,rfl,rfl,rfl,rfl,by rw [Int.mul_comm];exact k1,k2,?_,Nat.lt_of_le_of_lt k5 z1,Int.lt_of_le_of_lt (Int.sub_le_self _ k7) (Int.lt_of_lt_of_le (sl_lt k6 h3) (by rw [hb];exact Int.le_add_of_nonneg_right h5))⟩
    exact Nat.lt_of_le_of_lt (nabM k2 (Int.le_of_lt k3)) (Nat.lt_of_lt_of_le z2 (Nat.pow_le_pow_right (by decide) (by decide)))
  · obtain ⟨q,r,lq,lr,ln,la,lb2,lb,g1,g2,g3,g4,g5⟩:=hI
    refine xs_assign R (d:=.int (r*2^m+a3-q*b2)) (Ev.conv (ev_sub (ev_bor (ev_shl (ev_var K rfl lr rfl) (ev_var K rfl ln rfl) (by omega) ?_) (ev_var K rfl la rfl)) (ev_mul (ev_var K rfl lq rfl) (ev_var K rfl lb2 rfl) ?_)) ?_) (.local rfl rfl) rfl fun s T K' R=>?_
    · have:=bits_le g3
      omega
    · have h6':(b2.natAbs:Int)<2^m:=by omega
      have h6'':b2.natAbs<2^m:=by exact_mod_cast h6'
      have hpb:b2.natAbs<2^20000:=Nat.lt_of_lt_of_le h6'' (Nat.pow_le_pow_right (by decide) hm)
      exact IntMulOk.of_le (bits_le g4) (bits_le hpb) (by decide)
    · rw [or_shift g2 h2 (by exact h3)];rfl
    refine xs_while R (DwI b (a12*2^m+a3)) (fun ρ'=>decide (intOf ρ' "r" < 0)) _ ⟨q,_,lq,rfl,lb,?_,g5,rfl⟩
      (fun k ρ' hI=>?_) (fun k ρ' s' hI hc R=>?_) (fun k ρ' s' hI hc R=>?_)
    · exact d3_b _ _ _ _ _ _ _ _ hb g1
    · obtain ⟨q,r,lq,lr,lb,e1,e2,e3⟩:=hI
      have:intOf ρ' "r" = r:=by unfold intOf;rw [lr]
      rw [this]
      exact ts_cmp (ev_var K rfl lr rfl) ev_int op_lt rfl
    · obtain ⟨q,r,lq,lr,lb,e1,e2,e3⟩:=hI
      have hr:intOf ρ' "r" = r:=by unfold intOf;rw [lr]
      rw [hr] at hc
      have hr0:r<0:=of_decide_eq_true hc
      refine xs_aug R (.local rfl rfl) (a:=.int q) lq ev_int i_sub fun s T K' R=>?_
      refine xs_aug R (.local rfl rfl) (a:=.int r) lr (ev_var K rfl lb rfl) i_add fun s T K' R=>?_
      refine xs_nil ⟨(-(r+b)).toNat,_,?_,?_,R⟩
      · rw [e3];exact (Int.toNat_lt_toNat (Int.neg_pos_of_neg hr0)).mpr (Int.neg_lt_neg (Int.lt_add_of_pos_right r hb0))
      · exact ⟨q-1,r+b,rfl,rfl,lb,by rw [Int.sub_mul];omega,by omega,rfl⟩
    · obtain ⟨q,r,lq,lr,lb,e1,e2,e3⟩:=hI
      have hr:intOf ρ' "r" = r:=by unfold intOf;rw [lr]
      rw [hr] at hc
      have hr0:¬ r<0:=of_decide_eq_false hc
      refine xs_nil (xs_return R (Ev.conv (ev_tuple (evs_cons (ev_var K rfl lq rfl) (evs_cons (ev_var K rfl lr rfl) evs_nil)) (Nat.le_of_ble_eq_true rfl)) ?_) fun v s' T b=>⟨R.to.trans T.of_no,b⟩)
      obtain ⟨x,y⟩:=div_pair hb0 (by omega) e2 e1
      unfold divD
      rw [x,y]
theorem and_mask {x:Int} {h:Nat} (hx:0≤x):Builtin.bitAnd x (1*2^h-1)=x % 2^h:=by
  obtain ⟨x,rfl⟩:=Int.eq_ofNat_of_zero_le hx
  have hp:0<2^h:=Nat.pow_pos (by decide)
  have e:(1*2^h-1:Int)=((2^h-1:Nat):Int):=by
    rw [Int.one_mul,Int.natCast_sub hp];push_cast;rfl
  rw [e,bitAnd_pp (by omega +splitNatSub) (by omega),Int.toNat_natCast,Int.toNat_natCast,Nat.and_two_pow_sub_one_eq_mod]
  push_cast;rfl
theorem step_div {b V d P:Int} (hb:0<b) (hP:0<P) (hd0:0≤d) (hd1:d<P):(d+V*P).fdiv b=(V.fmod b*P+d).fdiv b+V.fdiv b*P∧(d+V*P).fmod b=(V.fmod b*P+d).fmod b∧0≤(V.fmod b*P+d).fdiv b∧(V.fmod b*P+d).fdiv b<P∧0≤V.fmod b*P+d∧V.fmod b*P+d<b*P:=by
  have r0:0≤V.fmod b:=Int.fmod_nonneg_of_pos _ hb
  have r1:V.fmod b<b:=Int.fmod_lt_of_pos _ hb
  have k1:=Int.mul_fdiv_add_fmod V b
  have k2:=Int.mul_fdiv_add_fmod (V.fmod b*P+d) b
  have s0:0≤(V.fmod b*P+d).fmod b:=Int.fmod_nonneg_of_pos _ hb
  have s1:(V.fmod b*P+d).fmod b<b:=Int.fmod_lt_of_pos _ hb
  have u0:0≤V.fmod b*P+d:=Int.add_nonneg (Int.mul_nonneg r0 (Int.le_of_lt hP)) hd0
  have u1:V.fmod b*P+d<b*P:=by
    have:V.fmod b*P≤(b-1)*P:=Int.mul_le_mul_of_nonneg_right (by omega) (Int.le_of_lt hP)
    rw [Int.sub_mul,Int.one_mul] at this
    exact sl_lt this hd1
  have v:((V.fmod b*P+d).fdiv b+V.fdiv b*P)*b+(V.fmod b*P+d).fmod b=d+V*P:=by grind
  obtain ⟨x,y⟩:=div_pair hb s0 s1 v
  refine ⟨x,y,Int.fdiv_nonneg u0 (Int.le_of_lt hb),?_,u0,u1⟩
  rw [Int.fdiv_eq_ediv_of_nonneg _ (Int.le_of_lt hb)]
  exact Int.ediv_lt_of_lt_mul hb (by rw [Int.mul_comm P b];exact u1)
theorem d2_main {a b P:Int} (ha:0≤a) (hb:0<b) (hP:0<P):a.fdiv b=(a.fdiv P).fdiv b*P+((a.fdiv P).fmod b*P+a % P).fdiv b∧a.fmod b=((a.fdiv P).fmod b*P+a % P).fmod b ∧
    0≤(a.fdiv P).fdiv b∧0≤((a.fdiv P).fmod b*P+a % P).fdiv b∧((a.fdiv P).fmod b*P+a % P).fdiv b<P:=by
  have k1:a % P+a.fdiv P*P=a:=by
    rw [Int.fdiv_eq_ediv_of_nonneg _ (Int.le_of_lt hP),Int.add_comm,Int.mul_comm];exact Int.mul_ediv_add_emod _ _
  obtain ⟨x,y,z,t,_,_⟩:=step_div (V:=a.fdiv P) (d:=a % P) hb hP (Int.emod_nonneg _ (Int.ne_of_gt hP)) (Int.emod_lt_of_pos _ hP)
  rw [k1] at x y
  exact ⟨x.trans (Int.add_comm _ _),y,Int.fdiv_nonneg (Int.fdiv_nonneg ha (Int.le_of_lt hP)) (Int.le_of_lt hb),z,t⟩
inductive D2I (a b:Int) (m:Nat) (ρ':List (Str × D)):Prop
  | mk (a' b':Int) (h:Nat) (la:ρ'.lookup ("a" : Str)=some (.int a')) (lb:ρ'.lookup ("b" : Str)=some (.int b')) (ln:ρ'.lookup ("n" : Str)=some (.int ((h+h:Nat):Int))) (lp:ρ'.lookup ("pad" : Str)=some (.int (m % 2))) (ea:a'=a*2^(m % 2)) (eb:b'=b*2^(m % 2)) (eh:h+h=m+m % 2)
theorem f_div2 {w:World} {s₁:Shared} (G:GW w s₁) {n:Nat} {a b:Int} {m:Nat} (h1:0≤a) (h2:0<b) (h3:2^m≤2*b) (h4:b<2^m) (h5:a<b*2^m) (hm:2≤m) (hm2:m≤7999):Fn w s₁ h0 (n+5) 42 [.int a,.int b,.int m] (divD a b):=by
  have hbn:b.natAbs<2^m:=nabP (Int.le_of_lt h2) h4
  have han:a.natAbs<2^16000:=by
    have e:((b.natAbs*2^m:Nat):Int)=b*2^m:=by push_cast;rw [Int.natAbs_of_nonneg (Int.le_of_lt h2)]
    have h5':(a.natAbs:Int)<((b.natAbs*2^m:Nat):Int):=by rw [e,Int.natAbs_of_nonneg h1];exact h5
    have h6:a.natAbs<b.natAbs*2^m:=by exact_mod_cast h5'
    have h7:b.natAbs*2^m≤2^m*2^m:=Nat.mul_le_mul_right _ (Nat.le_of_lt hbn)
    rw [← Nat.pow_add] at h7
    exact Nat.lt_of_lt_of_le h6 (Nat.le_trans h7 (Nat.pow_le_pow_right (by decide) (by omega)))
  have hb8:b.natAbs<2^8000:=Nat.lt_of_lt_of_le hbn (Nat.pow_le_pow_right (by decide) (by omega))
  by_cases hs:(Builtin.Int.intBits a:Int)-m≤4000
  · exact f_div2s G (n:=n+4) (by omega) (Nat.lt_of_lt_of_le ((Nat.log2_lt (by omega)).mpr hbn) (by omega)) hs
  refine fn_enter (fun A s s' env h T=>h) ["a", "b", "n"] G rfl rfl (by kernel_rfl) (fun s vs h=>by obtain ⟨a,b,c,rfl⟩:=len3 h;exact BindsTo.of_eq rfl) (by decide) (by decide) (by decide) rfl rfl rfl fun N A s L hA hh ⟨s₀,h₀,hown⟩ K R=>?_
  refine xs_if R (ts_cmp (ev_sub (m_bits (ev_var K rfl rfl rfl) rfl rfl rfl rfl) (ev_var K rfl rfl rfl)) (ev_gint (i:=4000) (t:=223) G K rfl (by kernel_rfl) rfl) op_le rfl) (fun hc s T R=>absurd (of_decide_eq_true hc) hs) fun hc s T R=>xs_nil ?_
  refine xs_assign R (d:=.int (m % 2)) (Ev.conv (ev_band (ev_var K rfl rfl rfl) ev_int) (by rw [bitAnd_m1])) (.local rfl rfl) rfl fun s T K' R=>?_
  refine xs_join (D2I a b m) R
    (ts_plain (ev_var K rfl rfl rfl) tr_int (fun θ=>rfl)) (fun hc s R=>?_) (fun hc s R=>?_) fun ρ' s hI R=>?_
  · have hpad:(m:Int) % 2=1:=by
      have:((m:Int) % 2 != 0)=true:=hc
      have:(m:Int) % 2≠0:=by simpa using this
      omega
    have hpn:m % 2=1:=by omega
    refine xs_aug R (.local rfl rfl) (a:=.int a) rfl ev_int (i_shl (by decide) ?_) fun s T K' R=>?_
    · have:=bits_le han
      omega
    refine xs_aug R (.local rfl rfl) (a:=.int b) rfl ev_int (i_shl (by decide) ?_) fun s T K' R=>?_
    · have:=bits_le hb8
      omega
    refine xs_aug R (.local rfl rfl) (a:=.int m) rfl ev_int i_add fun s T K' R=>xs_nil ⟨_,?_,R⟩
    refine ⟨a*2^1,b*2^1,(m+1) / 2,rfl,rfl,?_,rfl,by rw [hpn],by rw [hpn],by omega⟩
    show some (D.int ((m:Int)+1))=_
    congr 2
    omega
  · have hpad:(m:Int) % 2=0:=by
      have:((m:Int) % 2 != 0)=false:=hc
      simpa using this
    have hpn:m % 2=0:=by omega
    refine xs_nil ⟨_,?_,R⟩
    refine ⟨a,b,m / 2,rfl,rfl,?_,rfl,by rw [hpn];exact (Int.mul_one a).symm,by rw [hpn];exact (Int.mul_one b).symm,by omega⟩
    show some (D.int (m:Int))=_
    congr 2
    omega
  · obtain ⟨a',b',h,la,lb,ln,lp,ea,eb,eh⟩:=hI
    have hP:(0:Int)<2^h:=Int.pow_pos (by decide)
    have hE:(0:Int)<2^(m % 2):=Int.pow_pos (by decide)
    have ha0:0≤a':=by rw [ea];exact Int.mul_nonneg h1 (Int.le_of_lt hE)
    have hbp:0<b':=by rw [eb];exact Int.mul_pos h2 hE
    have hb0:0≤b':=Int.le_of_lt hbp
    have haz:a'.natAbs<2^20000:=by
      rw [ea,Int.natAbs_mul,Int.natAbs_pow]
      have e1:(2:Int).natAbs^(m % 2)≤2^1:=Nat.pow_le_pow_right (by decide) (by omega)
      have e2:a.natAbs*(2:Int).natAbs^(m % 2)≤2^16000*2^1:=Nat.mul_le_mul (Nat.le_of_lt han) e1
      rw [← Nat.pow_add] at e2
      exact Nat.lt_of_le_of_lt e2 (Nat.pow_lt_pow_right (by decide) (by decide))
    have hq0:0≤a'.fdiv (2^h):=Int.fdiv_nonneg ha0 (Int.le_of_lt hP)
    have hh2:(((h+h:Nat):Int).fdiv (2^(1:Int).toNat))=h:=by
      show ((h+h:Nat):Int).fdiv 2=h
      rw [Int.fdiv_eq_ediv_of_nonneg _ (by decide)];omega
    refine xs_assign R (d:=.int h) (Ev.conv (ev_shr (ev_var K rfl ln rfl) ev_int (by decide)) (by rw [hh2])) (.local rfl rfl) rfl fun s T K' R=>?_
    refine xs_assign R (d:=.int (1*2^h-1)) (ev_sub (ev_shl ev_int (ev_var K rfl rfl rfl) (Int.natCast_nonneg _) ?_) ev_int) (.local rfl rfl) rfl fun s T K' R=>?_
    · have:Builtin.Int.intBits 1=1:=by decide +kernel
      rw [this];omega
    refine xs_tuple_swap (ds:=[.int (b'.fdiv (2^h)),.int (b' % 2^h)]) G (.inl hh) (fun θ θ θ θ=>.inl hh) R (Ev.conv (ev_tuple (evs_cons (ev_shr (ev_var K rfl lb rfl) (ev_var K rfl rfl rfl) (Int.natCast_nonneg _)) (evs_cons (ev_band (ev_var K rfl lb rfl) (ev_var K rfl rfl rfl)) evs_nil)) (Nat.le_of_ble_eq_true rfl)) (by rw [and_mask (by assumption)];rfl)) rfl (.cons (as_bind (.local rfl rfl)) (.cons (as_bind (.local rfl rfl)) .nil)) rfl rfl fun s T K' R=>?_
    have hbP:b'=b'.fdiv (2^h)*2^h+b' % 2^h:=by
      rw [Int.fdiv_eq_ediv_of_nonneg _ (Int.le_of_lt hP),Int.mul_comm];exact (Int.mul_ediv_add_emod _ _).symm
    have hPP:(2:Int)^(h+h)=2^h*2^h:=Int.pow_add _ _ _
    have hme:(2:Int)^(h+h)=2^m*2^(m % 2):=by rw [eh];exact Int.pow_add _ _ _
    have hbu:b'<2^h*2^h:=by rw [← hPP,hme,eb];exact Int.mul_lt_mul_of_pos_right h4 hE
    have hbl:2^h*2^h≤2*b':=by rw [← hPP,hme,eb,← Int.mul_assoc];exact Int.mul_le_mul_of_nonneg_right h3 (Int.le_of_lt hE)
    have hal:a'<b'*2^h*2^h:=by
      have e1:a'<b*2^m*2^(m % 2):=by rw [ea];exact Int.mul_lt_mul_of_pos_right h5 hE
      have e2:b*2^m*2^(m % 2)≤b'*2^h*2^h:=by
        rw [Int.mul_assoc b',← hPP,hme,Int.mul_assoc b]
        have:(0:Int)≤2^m*2^(m % 2):=by rw [← hme];exact Int.pow_nonneg (by decide)
        refine Int.mul_le_mul_of_nonneg_right ?_ this
        have:b*1≤b*2^(m % 2):=Int.mul_le_mul_of_nonneg_left (by omega) (Int.le_of_lt h2)
        rw [eb];omega
      exact Int.lt_of_lt_of_le e1 e2
    have hP2:(2:Int)≤2^h:=by
      have:2^1≤2^h:=Nat.pow_le_pow_right (by decide) (show 1≤h by omega)
      exact_mod_cast this
    have hPb:2^h≤b':=by
      have:(2:Int)*2^h≤2^h*2^h:=Int.mul_le_mul_of_nonneg_right hP2 (Int.le_of_lt hP)
      omega
    have hb1:0<b'.fdiv (2^h):=by
      rw [Int.fdiv_eq_ediv_of_nonneg _ (Int.le_of_lt hP)]
      have:=Int.le_ediv_of_mul_le hP (show 1*2^h≤b' by omega)
      omega
    have m0:∀ x:Int,0≤x % 2^h:=fun x=>Int.emod_nonneg _ (by omega)
    have m1:∀ x:Int,x % 2^h<2^h:=fun x=>Int.emod_lt_of_pos _ hP
    have haP:a'.fdiv (2^h)<b'*2^h:=by
      rw [Int.fdiv_eq_ediv_of_nonneg _ (Int.le_of_lt hP)]
      exact Int.ediv_lt_of_lt_mul hP hal
    have hbn':b'.natAbs<2^(h+h):=nabP (Int.le_of_lt hbp) (by rw [hPP];exact hbu)
    have hb1n:(b'.fdiv (2^h)).natAbs<2^(h+h):=Nat.lt_of_le_of_lt (natAbs_fdiv_le _ _) hbn'
    have hb1z:(b'.fdiv (2^h)).natAbs<2^20000:=Nat.lt_of_lt_of_le hb1n (Nat.pow_le_pow_right (by decide) (by omega))
    have hlog:(b'.fdiv (2^h)).natAbs.log2<9000:=Nat.lt_of_lt_of_le ((Nat.log2_lt (Int.natAbs_ne_zero.mpr (Int.ne_of_gt hb1))).mpr hb1n) (by omega)
    have F1:Fn w s₁ h0 (n+4) 49 [.int (a'.fdiv (2^(h+h))),.int (a'.fdiv (2^h) % 2^h),.int b',.int (b'.fdiv (2^h)),.int (b' % 2^h),.int h] (divD (a'.fdiv (2^h)) b'):=by
      have hPP0:(0:Int)≤2^(h+h):=Int.pow_nonneg (by decide)
      have e12:a'.fdiv (2^(h+h))*2^h+a'.fdiv (2^h) % 2^h=a'.fdiv (2^h):=by
        rw [Int.fdiv_eq_ediv_of_nonneg _ hPP0,Int.fdiv_eq_ediv_of_nonneg _ (Int.le_of_lt hP),hPP,← Int.ediv_ediv_of_nonneg (Int.le_of_lt hP),Int.mul_comm]
        exact Int.mul_ediv_add_emod _ _
      have g:=f_div3 G (n:=n+1) (a12:=a'.fdiv (2^(h+h))) (a3:=a'.fdiv (2^h) % 2^h) (b:=b') (b1:=b'.fdiv (2^h)) (b2:=b' % 2^h) (m:=h) (Int.fdiv_nonneg ha0 hPP0) (m0 _) (m1 _) hb1 (m0 _) (m1 _) hbP (by rw [e12];exact haP)
        (Nat.lt_of_le_of_lt (natAbs_fdiv_le _ _) haz) hb1z (by omega) hlog ?_
      · rw [e12] at g;exact g
      · have:(a'.fdiv (2^(h+h))).natAbs<2^(h+h):=by
          have q1:a'.fdiv (2^(h+h))<b':=by
            rw [Int.fdiv_eq_ediv_of_nonneg _ hPP0]
            exact Int.ediv_lt_of_lt_mul (by rw [hPP];exact Int.mul_pos hP hP) (by rw [hPP,← Int.mul_assoc];exact hal)
          exact Nat.lt_of_le_of_lt (nabM (Int.fdiv_nonneg ha0 hPP0) (Int.le_of_lt q1)) hbn'
        have:=bits_le this
        omega
    have F2:Fn w s₁ h0 (n+4) 49 [.int ((a'.fdiv (2^h)).fmod b'),.int (a' % 2^h),.int b',.int (b'.fdiv (2^h)),.int (b' % 2^h),.int h] (divD ((a'.fdiv (2^h)).fmod b'*2^h+a' % 2^h) b'):=by
      have r0:0≤(a'.fdiv (2^h)).fmod b':=Int.fmod_nonneg_of_pos _ hbp
      have r1:(a'.fdiv (2^h)).fmod b'<b':=Int.fmod_lt_of_pos _ hbp
      have rn:((a'.fdiv (2^h)).fmod b').natAbs<2^(h+h):=Nat.lt_of_le_of_lt (nabM r0 (Int.le_of_lt r1)) hbn'
      refine f_div3 G (n:=n+1) r0 (m0 _) (m1 _) hb1 (m0 _) (m1 _) hbP ?_ (Nat.lt_of_lt_of_le rn (Nat.pow_le_pow_right (by decide) (by omega))) hb1z (by omega) hlog ?_
      · have k:=Int.mul_le_mul_of_nonneg_right (show (a'.fdiv (2^h)).fmod b'≤b'-1 from Int.le_sub_one_of_lt r1) (Int.le_of_lt hP)
        rw [Int.sub_mul,Int.one_mul] at k
        exact sl_lt k (m1 a')
      · have:=bits_le rn
        omega
    refine xs_tuple G (.inl hh) (fun θ θ θ θ=>.inl hh) R (ev_callF G hA hh F1 (ev_gl G K rfl (by kernel_rfl) rfl) (evs_cons (by exact Ev.conv (ev_shr (ev_var K rfl la rfl) (ev_var K rfl ln rfl) (Int.natCast_nonneg _)) rfl) (evs_cons (by exact Ev.conv (ev_band (ev_shr (ev_var K rfl la rfl) (ev_var K rfl rfl rfl) (Int.natCast_nonneg _)) (ev_var K rfl rfl rfl)) (by rw [and_mask (by assumption)];rfl)) (evs_cons (by exact ev_var K rfl lb rfl) (evs_cons (ev_var K rfl rfl rfl) (evs_cons (ev_var K rfl rfl rfl) (evs_cons (ev_var K rfl rfl rfl) evs_nil)))))) rfl rfl rfl rfl) (.cons (as_name (.local rfl rfl)) (.cons (as_name (.local rfl rfl)) .nil)) rfl rfl rfl fun s T K' R=>?_
    refine xs_tuple G (.inl hh) (fun θ θ θ θ=>.inl hh) R (ev_callF G hA hh F2 (ev_gl G K rfl (by kernel_rfl) rfl) (evs_cons (ev_var K rfl rfl rfl) (evs_cons (by exact Ev.conv (ev_band (ev_var K rfl la rfl) (ev_var K rfl rfl rfl)) (by rw [and_mask (by assumption)])) (evs_cons (by exact ev_var K rfl lb rfl) (evs_cons (ev_var K rfl rfl rfl) (evs_cons (ev_var K rfl rfl rfl) (evs_cons (ev_var K rfl rfl rfl) evs_nil)))))) rfl rfl rfl rfl) (.cons (as_name (.local rfl rfl)) (.cons (as_name (.local rfl rfl)) .nil)) rfl rfl rfl fun s T K' R=>?_
    obtain ⟨d1,d2,d3,d4,d5⟩:=d2_main (P:=2^h) ha0 hbp hP
    have hsz:(Builtin.Int.intBits ((a'.fdiv (2^h)).fdiv b'):Int)+h≤2^27:=by
      have q1:=natAbs_fdiv_le (a'.fdiv (2^h)) b'
      have q2:=natAbs_fdiv_le a' (2^h)
      have:=bits_le (Nat.lt_of_le_of_lt (Nat.le_trans q1 q2) haz)
      omega
    have hfin:a'.fdiv b'=a.fdiv b∧a'.fmod b'=a.fmod b*2^(m % 2):=by
      have k:=Int.mul_fdiv_add_fmod a b
      have r0:0≤a.fmod b:=Int.fmod_nonneg_of_pos _ h2
      have r1:a.fmod b<b:=Int.fmod_lt_of_pos _ h2
      refine div_pair hbp (Int.mul_nonneg r0 (Int.le_of_lt hE)) ?_ ?_
      · rw [eb];exact Int.mul_lt_mul_of_pos_right r1 hE
      · rw [ea,eb];grind
    refine xs_join (fun ρ''=>(ρ''.lookup ("q1" : Str)=some (.int ((a'.fdiv (2^h)).fdiv b'))∧ρ''.lookup ("q2" : Str)=some (.int (((a'.fdiv (2^h)).fmod b'*2^h+a' % 2^h).fdiv b'))∧ρ''.lookup ("half_n" : Str)=some (.int h))∧ρ''.lookup ("r" : Str)=some (.int (a.fmod b))) R
      (ts_plain (ev_var K rfl lp rfl) tr_int (fun θ=>rfl)) (fun hc s R=>?_) (fun hc s R=>?_) fun ρ'' s ⟨⟨lq1,lq2,lh⟩,lr⟩ R=>?_
    · have hpad:m % 2=1:=by
        have h7:((m:Int) % 2 != 0)=true:=hc
        have:(m:Int) % 2≠0:=by simpa using h7
        omega
      refine xs_aug R (.local rfl rfl) (a:=.int (((a'.fdiv (2^h)).fmod b'*2^h+a' % 2^h).fmod b')) rfl ev_int (i_shr (by decide)) fun s T K' R=>xs_nil ⟨_,?_,R⟩
      refine ⟨⟨rfl,rfl,rfl⟩,?_⟩
      show some (D.int _)=_
      congr 2
      rw [← d2,hfin.2,hpad]
      exact Int.mul_fdiv_cancel _ (by decide)
    · have hpad:m % 2=0:=by
        have h7:((m:Int) % 2 != 0)=false:=hc
        have:(m:Int) % 2=0:=by simpa using h7
        omega
      refine xs_nil ⟨_,?_,R⟩
      refine ⟨⟨rfl,rfl,rfl⟩,?_⟩
      show some (D.int _)=_
      congr 2
      rw [← d2,hfin.2,hpad]
      exact Int.mul_one _
    · refine xs_return R (Ev.conv (ev_tuple (evs_cons (by exact ev_bor (ev_shl (ev_var K rfl lq1 rfl) (ev_var K rfl lh rfl) (Int.natCast_nonneg _) hsz) (ev_var K rfl lq2 rfl)) (evs_cons (by exact ev_var K rfl lr rfl) evs_nil)) (Nat.le_of_ble_eq_true rfl)) ?_) fun v s' T b=>⟨R.to.trans T.of_no,b⟩
      show D.tup [.int (Builtin.bitOr _ _),_]=_
      unfold divD
      rw [← hfin.1,d1]
      congr 3
      exact or_shift d3 d4 d5
theorem bit_at (k i r:Nat) (h:r<2^i):(k*2^i+r) &&& 2^i=(k % 2)*2^i:=by
  have e:(k*2^i+r).testBit i=decide (k % 2=1):=by
    rw [Nat.testBit_eq_decide_div_mod_eq,Nat.mul_comm,Nat.mul_add_div (Nat.two_pow_pos i),Nat.div_eq_of_lt h,Nat.add_zero]
  apply Nat.eq_of_testBit_eq
  intro j
  rw [Nat.testBit_and,Nat.testBit_two_pow]
  by_cases q:i=j
  · subst q
    rw [e]
    rcases Nat.mod_two_eq_zero_or_one k with z | z<;>rw [z]
    · simp
    · simp [Nat.testBit_two_pow]
  · rcases Nat.mod_two_eq_zero_or_one k with z | z<;>rw [z]
    · simp [q]
    · simp [q,Nat.testBit_two_pow]
theorem and_pow (k:Int) (i:Nat):Builtin.bitAnd (k*2^i) (2^i)=(k % 2)*2^i:=by
  have hp:(0:Int)<2^i:=Int.pow_pos (by decide)
  have hpn:((2:Int)^i).toNat=2^i:=by
    have:((2^i:Nat):Int)=(2:Int)^i:=by push_cast;rfl
    rw [← this];rfl
  by_cases hk:0≤k
  · obtain ⟨k,rfl⟩:=Int.eq_ofNat_of_zero_le hk
    have e:((k:Int)*2^i).toNat=k*2^i:=by
      have:((k*2^i:Nat):Int)=(k:Int)*2^i:=by push_cast;rfl
      rw [← this];rfl
    rw [bitAnd_pp (Int.mul_nonneg hk (Int.le_of_lt hp)) (Int.le_of_lt hp),e,hpn]
    have:=bit_at k i 0 (Nat.two_pow_pos i)
    rw [Nat.add_zero] at this
    rw [this];push_cast;rfl
  · have hneg:¬ 0≤k*2^i:=by
      have:k*2^i≤(-1)*2^i:=Int.mul_le_mul_of_nonneg_right (by omega) (Int.le_of_lt hp)
      omega
    obtain ⟨j,hj⟩:=Int.eq_ofNat_of_zero_le (show 0≤-k-1 by omega)
    have hkj:k=-(j:Int)-1:=by omega
    rw [bitAnd_np hneg (Int.le_of_lt hp),hpn]
    have e:(Builtin.bitNot (k*2^i)).toNat=j*2^i+(2^i-1):=by
      have hp':0<2^i:=Nat.two_pow_pos i
      have h1:((j*2^i+(2^i-1):Nat):Int)=Builtin.bitNot (k*2^i):=by
        unfold Builtin.bitNot
        rw [Int.natCast_add,Int.natCast_sub hp']
        push_cast
        rw [hkj];grind
      rw [← h1];rfl
    rw [e,Nat.and_comm,bit_at j i _ (by have:=Nat.two_pow_pos i;omega)]
    have:k % 2=1-(j:Int) % 2:=by omega
    rw [this];push_cast;grind
theorem pname_eq (i:Nat) (h:i<32):(flagName (1*2^i)).getD (hexS (1*2^i))=nameAt i:=by
  have:∀ i:Fin 32,(flagName (1*2^i.val)).getD (hexS (1*2^i.val))=nameAt i.val:=by decide +kernel
  exact this ⟨i,h⟩
noncomputable def restNames (v:Int) (j k:Nat):List Str:=((List.range' j k).filter fun (i:Nat)=>bitOn v i).map fun (i:Nat)=>nameAt i
theorem fdiv_step (v:Int) (j:Nat):v.fdiv (2^j)=2*v.fdiv (2^(j+1))+v.fdiv (2^j) % 2:=by
  have hp:(0:Int)≤2^j:=Int.pow_nonneg (by decide)
  have hp':(0:Int)≤2^(j+1):=Int.pow_nonneg (by decide)
  rw [Int.fdiv_eq_ediv_of_nonneg _ hp,Int.fdiv_eq_ediv_of_nonneg _ hp',Int.pow_succ,← Int.ediv_ediv_of_nonneg hp]
  exact (Int.mul_ediv_add_emod _ _).symm
theorem bitOn_eq (v:Int) (j:Nat):bitOn v j=(v.fdiv (2^j) % 2 != 0):=by
  unfold bitOn
  rw [show ((j:Int)).toNat=j from rfl,Int.fmod_eq_emod_of_nonneg _ (by decide)]
theorem rest_succ (v:Int) (j k:Nat):restNames v j (k+1)=(if bitOn v j then [nameAt j] else [])++restNames v (j+1) k:=by
  unfold restNames
  rw [List.range'_succ,List.filter_cons]
  cases bitOn v j<;>simp
theorem rest_zero (v:Int):∀ (k j:Nat),v.fdiv (2^j)=0->restNames v j k=[]∧v.fdiv (2^(j+k))=0
  | 0,j,h=>⟨rfl,h⟩
  | k+1,j,h=>by
    have st:=fdiv_step v j
    have h1:v.fdiv (2^(j+1))=0:=by omega +splitNatSub
    obtain ⟨a,b⟩:=rest_zero v k (j+1) h1
    refine ⟨?_,by rw [show j+(k+1)=j+1+k by omega];exact b⟩
    rw [rest_succ,a,bitOn_eq,h];rfl
theorem rest_nil (v:Int):∀ (k j:Nat),restNames v j k=[]->v.fdiv (2^j)*2^j=v.fdiv (2^(j+k))*2^(j+k)
  | 0,j,_=>rfl
  | k+1,j,h=>by
    have st:=fdiv_step v j
    rw [rest_succ,List.append_eq_nil_iff] at h
    have hb:bitOn v j=false:=by
      cases q:bitOn v j with
      | false=>rfl
      | true=>rw [q] at h;cases h.1
    rw [bitOn_eq] at hb
    have h0:v.fdiv (2^j) % 2=0:=by simpa using hb
    have ih:=rest_nil v k (j+1) h.2
    rw [show j+(k+1)=j+1+k by omega,← ih,st,h0,Int.pow_succ]
    grind
theorem flags_loop (v:Int):∀ (k j:Nat) (names:List Str),j+k=32->pLoop (List.range' j k) names (v.fdiv (2^j)*2^j) =
    if v.fdiv (2^32)*2^32=0∧restNames v j k≠[] then names++restNames v j k else names++restNames v j k++[hexS (v.fdiv (2^32)*2^32)]
  | 0,j,names,h=>by
    have:j=32:=by omega +splitNatSub
    subst this
    simp [pLoop,restNames]
  | k+1,j,names,h=>by
    have hj:j<32:=by omega
    have st:=fdiv_step v j
    have ihk:=fun nm=>flags_loop v k (j+1) nm (by omega)
    rw [List.range'_succ,pLoop,Int.one_mul,and_pow,bitXor_and,and_pow]
    have hp:(0:Int)<2^j:=Int.pow_pos (by decide)
    have hps:(2:Int)^(j+1)=2^j*2:=Int.pow_succ _ _
    have e0:=bitOn_eq v j
    have hr:=rest_succ v j k
    have hx:∀ c:Int,v.fdiv (2^j) % 2=c->v.fdiv (2^j)*2^j=v.fdiv (2^(j+1))*2^(j+1)+c*2^j:=fun c hc=>by rw [hps];rw [st,hc];grind
    by_cases hbit:v.fdiv (2^j) % 2=0
    · have hoff:bitOn v j=false:=by rw [e0,hbit];rfl
      rw [hbit,if_neg (by simp),hx 0 hbit,Int.zero_mul,Int.add_zero,ihk,hr,hoff]
      simp
    · have h1:v.fdiv (2^j) % 2=1:=by omega
      have hon:bitOn v j=true:=by rw [e0,h1];rfl
      have hfl:v.fdiv (2^j)*2^j+2^j-2*(1*2^j)=v.fdiv (2^(j+1))*2^(j+1):=by rw [hx 1 h1];grind
      rw [h1,if_pos (by simp;omega),hfl]
      have hnm:=pname_eq j hj
      rw [Int.one_mul] at hnm
      rw [hnm,hr,hon,if_pos rfl]
      by_cases hz:v.fdiv (2^(j+1))*2^(j+1)=0
      · have hz':v.fdiv (2^(j+1))=0:=by
          rcases Int.mul_eq_zero.mp hz with q | q
          · exact q
          · have:(0:Int)<2^(j+1):=Int.pow_pos (by decide)
            omega
        obtain ⟨a,b⟩:=rest_zero v k (j+1) hz'
        rw [show j+1+k=32 by omega] at b
        rw [hz,if_neg (by simp),a,b]
        simp
      · rw [if_pos (by simpa using hz),ihk]
        by_cases hab:v.fdiv (2^32)*2^32=0
        · have hne:restNames v (j+1) k≠[]:=fun q=>by
            have:=rest_nil v k (j+1) q
            rw [show j+1+k=32 by omega,hab] at this
            exact hz this
          rw [if_pos ⟨hab,hne⟩,if_pos ⟨hab,by simp⟩]
          simp
        · rw [if_neg (fun q=>hab q.1),if_neg (fun q=>hab q.1)]
          simp
theorem pretty_named (v:Int):prettyFn v=namedFn v:=by
  unfold prettyFn namedFn
  have h:=flags_loop v 32 0 [] rfl
  have e:v.fdiv (2^0)*2^0=v:=by simp
  have e2:restNames v 0 32=namesFn v:=by unfold restNames namesFn;rw [List.range_eq_range']
  rw [e,e2] at h
  rw [List.range_eq_range',h]
  simp
noncomputable def pvLoop:Int->Int->List Int->Option (Int × List Int)
  | val,b,[]=>if Builtin.bitAnd b 64 != 0 then none else some (val,[])
  | val,b,c::r=>if Builtin.bitAnd b 64 != 0 then pvLoop (Builtin.bitOr (val*2^6) (Builtin.bitAnd c 63)) c r else some (val,c::r)
noncomputable def parseV:List Int->Option (Int × List Int)
  | []=>none
  | b::r=>pvLoop (Builtin.bitAnd b 63) b r
noncomputable def octet (d:Int) (more:Bool):Int:=d+128*(1-d.fmod 2)+64*(if more then 1 else 0)
theorem octet_ok:∀ (d:Fin 64) (m:Bool),Builtin.bitAnd (octet d.val m) 63=d.val∧(Builtin.bitAnd (octet d.val m) 64 != 0)=m:=by decide +kernel
theorem octet_int {d:Int} (h0:0≤d) (h1:d<64) (m:Bool):Builtin.bitAnd (octet d m) 63=d∧(Builtin.bitAnd (octet d m) 64 != 0)=m:=by
  obtain ⟨k,rfl⟩:=Int.eq_ofNat_of_zero_le h0
  exact octet_ok ⟨k,by omega⟩ m
noncomputable def enc:List Int->List Int
  | []=>[]
  | d::r=>octet d (!r.isEmpty)::enc r
theorem pv_enc:∀ (ds:List Int) (d acc:Int) (t:List Int),0≤acc->0≤d->d<64->(∀ x,x∈ds->0≤x∧x<64)->pvLoop acc (octet d (!ds.isEmpty)) (enc ds++t)=some (ds.foldl (fun a x=>a*64+x) acc,t)
  | [],d,acc,t,ha,h0,h1,_=>by
    have:=(octet_int h0 h1 false).2
    show pvLoop acc (octet d false) t=some (acc,t)
    cases t<;>rw [pvLoop,this]<;>rfl
  | e::r,d,acc,t,ha,h0,h1,h=>by
    have:=(octet_int h0 h1 true).2
    obtain ⟨e0,e1⟩:=h e List.mem_cons_self
    show pvLoop acc (octet d true) (octet e (!r.isEmpty)::(enc r++t))=_
    rw [pvLoop,this,if_pos rfl,(octet_int e0 e1 _).1,or_shift ha e0 (by simpa using e1)]
    rw [pv_enc r e _ t (by have:(0:Int)≤acc*2^6:=Int.mul_nonneg ha (by decide);omega) e0 e1 fun x hx=>h x (List.mem_cons_of_mem _ hx)]
    rfl
theorem parse_enc {d:Int} {ds t:List Int} (h0:0≤d) (h1:d<64) (h:∀ x,x∈ds->0≤x∧x<64):parseV (enc (d::ds)++t)=some (ds.foldl (fun a x=>a*64+x) d,t):=by
  show pvLoop (Builtin.bitAnd (octet d (!ds.isEmpty)) 63) (octet d (!ds.isEmpty)) (enc ds++t)=_
  rw [(octet_int h0 h1 _).1]
  exact pv_enc ds d d t h0 h0 h1 h
theorem enc_zip (n:Nat):∀ (l:List Int) (i:Nat),i+l.length=n->(l.zipIdx i).map (fun p=>p.1+128*(1-p.1.fmod 2)+64*(if (p.2:Int)<(n:Int)-1 then 1 else 0))=enc l
  | [],_,_=>rfl
  | d::r,i,h=>by
    rw [List.zipIdx_cons,List.map_cons,enc,enc_zip n r (i+1) (by simp at h;omega)]
    congr 1
    unfold octet
    congr 2
    simp only [List.length_cons] at h
    cases r with
    | nil=>rw [if_neg (by simp at h;omega)];rfl
    | cons e r=>rw [if_pos (by simp at h;omega)];rfl
theorem octets_enc (v:Int):octetsFn v=enc (digitsFn v):=enc_zip _ _ 0 (by simp)
structure Slo (F:Addr->Prop) (s s':Shared):Prop where
  k:∀ b o,F b->s.heap.get? b=some o->∃ sl,s'.heap.get? b=some { o with slots:=sl }
noncomputable def ExcAt (h:Heap) (cls:String) (e t:Addr) (head:Value):Prop:=
  ∃ o vs,h.get? e=some o∧o.cls=.type cls∧o.data=.fields vs∧vs[0]?=some (.ref t)∧vs[1]?=some head∧vs[2]?=some .none
noncomputable def TbAt (h:Heap) (e T:Addr) (fl:Value):Prop:=T≠e∧∃ o ts,h.get? T=some o∧o.cls=.type "traceback" ∧ o.data=.fields ts∧ts[3]?=some fl
noncomputable def HeadOk (h:Heap) (e:Addr) (head:Value):Prop:=head=.none∨∃ T,head=.ref T∧TbAt h e T .none
noncomputable def frs (l:List Env):Addr->Prop:=fun b=>b∈l.filterMap (·.frame)
noncomputable def Zof (l:List Env) (e:Addr) (head:Value):Loc->Prop:=fun p=>(∃ b,frs l b∧p=.inl b)∨p=.inl e∨∃ T,head=.ref T∧p=.inl T
theorem To.heapX {Z:Loc->Prop} {s:Shared} {h:Heap} {t:Nat} (k:∀ b o,¬ Z (.inl b)->s.heap.get? b=some o->h.get? b=some o) (ht:∀ a,Z (.inl a)->Turns s a):To Z s { s with heap:=h,toks:=t }:=
  ⟨fun b o hb θ e=>k b o hb e,fun P hP vs e=>⟨#[],by rw [Array.append_empty];exact k P _ (fun q=>(ht P q).nt hP) e,.nil⟩,fun b o hr e=>k b o (fun q=>(ht b q).nr o e hr) e,fun θ θ θ e=>e,id,rfl⟩
section
variable {M:Model} {A:Around} {E:Value->Shared->Prop} {s:Shared}
theorem note_ {env:Env} {outer:List Env} {L e t:Addr} {cls:String} {head:Value} {Q:Unit->Shared->Prop}
    (hfr:A.frames=some (env::outer)) (hF:s.heap.FunFrames {} (env::outer)) (hf:env.frame=some L) (he:ExcAt s.heap cls e t head) (hd:HeadOk s.heap e head)
    (ht:∀ a,Zof (env::outer) e head (.inl a)->Turns s a)
    (h:∀ h' T,To (Zof (env::outer) e head) s { s with heap:=h' }->Slo (frs (env::outer)) s { s with heap:=h' }->ExcAt h' cls e t (.ref T)->TbAt h' e T (rawInt L)->NewAt s (.inl T)->Q () { s with heap:=h' }) :
    wpAny M A (noteFrame (.ref e) env) Q E s:=by
  obtain ⟨oe,vs,ho,hc,hdt,h0,h1,h2⟩:=he
  have key:∀ (s₁:Shared) (hadNext:Bool),(∀ b o,¬ Zof (env::outer) e head (.inl b)->s.heap.get? b=some o->s₁.heap.get? b=some o)->(∀ b o,frs (env::outer) b->s.heap.get? b=some o->s₁.heap.get? b=some o)->s₁.heap.get? e=some oe->s₁.heap.FunFrames {} (env::outer)->s₁.heap.objs.size=s.heap.objs.size ->
      (∃ h₁,s₁={ s with heap:=h₁ }) ->
      wpAny M A (do let a ← frameOf env;let pl ← entryPlaceOf L hadNext;let b ← EntryCells.newEntry head a .none (rawInt L) .none pl;setField (.ref e) 1 b) Q E s₁:=by
    intro s₁ hadNext kz kf he₁ hF₁ hsz hs₁
    obtain ⟨h₀,rfl⟩:=hs₁
    refine wpAny_bind (wpAny_frameOf_fun hfr hF₁ hf fun h₁ so=>?_)
    obtain ⟨so1,so2,so3⟩:=so
    have hene:e∉(env::outer).filterMap (·.frame):=fun hm=>by
      obtain ⟨_,o,ho',hnf⟩:=hF₁.mem hm
      rw [he₁] at ho';cases ho';exact hnf vs hdt
    have he₂:h₁.get? e=some oe:=(so2 e hene).trans he₁
    refine wpAny_bind (wpAny_entryPlaceOf fun pl hpl=>?_)
    unfold EntryCells.newEntry newFields
    refine wpAny_bind (wpAny_newObj_type ?_ (hpl.sizeOk5 _ _ _ _ _))
    have he₃:=Heap.get?_push_of_some (h:=h₁) { cls:=.type "traceback", dict:=none,data:=.fields ([head,.ref L,.none,rawInt L,.none]++(if pl.isEmpty then List.replicate 6 Value.none else pl)).toArray } he₂
    have hv1:1<vs.size:=(Array.getElem?_eq_some_iff.mp h1).1
    refine wpAny_setField he₃ hdt hv1 ?_
    have hTe:h₁.objs.size≠e:=Nat.ne_of_gt (Heap.lt_size he₂)
    have hd₃:=Obj.data_mapFields hdt (·.setIfInBounds 1 (Value.ref h₁.objs.size))
    have he₄:=Heap.get?_update_self (Obj.mapFields (·.setIfInBounds 1 (Value.ref h₁.objs.size))) he₃ (Obj.isFreed_of_fields hd₃)
    have hT₄:=(Heap.get?_update_other (h₁.push { cls:=.type "traceback", dict:=none,data:=.fields ([head,.ref L,.none,rawInt L,.none]++(if pl.isEmpty then List.replicate 6 Value.none else pl)).toArray })
      (Obj.mapFields (·.setIfInBounds 1 (Value.ref h₁.objs.size))) (Ne.symm hTe)).trans (Heap.get?_push_size h₁ rfl)
    have keep:∀ b o,b≠e->h₁.get? b=some o ->
        ((h₁.push { cls:=.type "traceback", dict:=none,data:=.fields ([head,.ref L,.none,rawInt L,.none]++(if pl.isEmpty then List.replicate 6 Value.none else pl)).toArray }).update e (Obj.mapFields (·.setIfInBounds 1 (Value.ref h₁.objs.size)))).get? b=some o:=fun b o hbe hb=>by
      rw [Heap.get?_update_other _ _ (Ne.symm hbe)]
      exact Heap.get?_push_of_some _ hb
    refine h _ h₁.objs.size (To.heapX (t:=s.toks) (fun b o hb eo=>?_) ht) ⟨fun b o hb eo=>?_⟩ ⟨_,_,he₄,(Obj.cls_mapFields _ _).trans hc,hd₃,?_,?_,?_⟩ ⟨hTe,_,_,hT₄,rfl,rfl,?_⟩ ?_
    · have hbe:b≠e:=fun q=>hb (.inr (.inl (by rw [q])))
      have hbf:b∉(env::outer).filterMap (·.frame):=fun q=>hb (.inl ⟨b,q,rfl⟩)
      exact keep b o hbe ((so2 b hbf).trans (kz b o hb eo))
    · obtain ⟨sl,es⟩:=so3 b o (kf b o hb eo)
      exact ⟨sl,keep b _ (fun q=>hene (q▸hb)) es⟩
    · rw [Array.getElem?_setIfInBounds_ne (by decide)];exact h0
    · simp [hv1]
    · rw [Array.getElem?_setIfInBounds_ne (by decide)];exact h2
    · first | (simp;done) | (rcases hpl with rfl | ⟨_,_,_,_,_,_,_,rfl⟩<;>simp)
    · exact newAt_ge (by rw [so1];exact Nat.le_of_eq hsz.symm)
  unfold noteFrame
  simp only [hf]
  refine wpAny_bind (wpAny_field ho hdt h1 ?_)
  rcases hd with rfl | ⟨T,rfl,hTe,oT,ts,hT,hcT,hdT,h3⟩
  · rw [if_neg (by decide)]
    exact key s _ (fun θ θ θ e=>e) (fun θ θ θ e=>e) ho hF rfl ⟨s.heap,rfl⟩
  · rw [if_pos (show (Value.ref T != Value.none)=true from by simp)]
    refine wpAny_bind (wpAny_field hT hdT h3 ?_)
    rw [if_neg (show ¬ ((Value.none==rawInt L)=true) from by simp [rawInt])]
    refine wpAny_bind (wpAny_setField hT hdT (Array.getElem?_eq_some_iff.mp h3).1 ?_)
    have other:∀ b,b≠T->(s.heap.update T (Obj.mapFields (·.setIfInBounds 3 Value.none))).get? b=s.heap.get? b:=fun b hb=>Heap.get?_update_other _ _ (Ne.symm hb)
    have noRecord:∀ b o,s.heap.get? b=some o->(∀ vs,o.data≠.fields vs)->b≠T:=fun b o hb hnf q=>by
      rw [q,hT] at hb;cases hb;exact hnf ts hdT
    refine key _ _ (fun b o hb eo=>(other b fun q=>hb (.inr (.inr ⟨T,rfl,by rw [q]⟩))).trans eo) (fun b o hb eo=>(other b fun q=>?_).trans eo) ((other e (Ne.symm hTe)).trans ho) (hF.of_keeps fun b o hb hnf=>⟨o,(other b (noRecord b o hb hnf)).trans hb,rfl⟩) (Heap.size_after_update ..) ⟨_,rfl⟩
    obtain ⟨_,o',ho',hnf⟩:=hF.mem hb
    rw [q,hT] at ho';cases ho';exact hnf ts hdT
theorem note_in {env:Env} {L e t T:Addr} {cls:String} {Q:Unit->Shared->Prop} (hf:env.frame=some L) (he:ExcAt s.heap cls e t (.ref T)) (hd:TbAt s.heap e T (rawInt L)) (h:Q () s):wpAny M A (noteFrame (.ref e) env) Q E s:=by
  obtain ⟨oe,vs,ho,hc,hdt,h0,h1,h2⟩:=he
  obtain ⟨_,o,ts,hT,_,hdT,h3⟩:=hd
  exact wpAny_noteFrame_inFlight hf ho hdt h1 hT hdT h3 h
theorem flight_ {f:Option Addr} {e t T:Addr} {cls:String} {fl:Value} {Q:Unit->Shared->Prop} (he:ExcAt s.heap cls e t (.ref T)) (hd:TbAt s.heap e T fl)
    (h:∀ h',Heap.SameBut T s.heap h'->ExcAt h' cls e t (.ref T)->TbAt h' e T (f.elim .none fun a=>rawInt a)->Q () { s with heap:=h' }):wpAny M A (setFlight (.ref e) f) Q E s:=by
  obtain ⟨oe,vs,ho,hc,hdt,h0,h1,h2⟩:=he
  obtain ⟨hTe,o,ts,hT,hcT,hdT,h3⟩:=hd
  unfold setFlight
  refine wpAny_bind (wpAny_field ho hdt h1 ?_)
  rw [if_pos (show (Value.ref T != Value.none)=true from by simp)]
  have h3s:=(Array.getElem?_eq_some_iff.mp h3).1
  refine wpAny_setField hT hdT h3s ?_
  refine h _ (Heap.SameBut.update ..) ⟨oe,vs,(Heap.get?_update_other _ _ hTe).trans ho,hc,hdt,h0,h1,h2⟩ ⟨hTe,_,_,Heap.get?_update_self _ hT (Obj.isFreed_of_fields (Obj.data_mapFields hdT _)),(Obj.cls_mapFields _ _).trans hcT,Obj.data_mapFields hdT _,?_⟩
  simp [h3s]
end
theorem en_next:entryFor table "next" = some Builtin.«next»:=entryFor_of_fast (by kernel_rfl)
theorem ar_next (a:Value):argsOk "next" ⟨[a],[]⟩:=by unfold argsOk;kernel_rfl
theorem en_iter:entryFor table "iter" = some Builtin.«iter»:=entryFor_of_fast (by kernel_rfl)
theorem ar_iter (a:Value):argsOk "iter" ⟨[a],[]⟩:=by unfold argsOk;kernel_rfl
section
variable {w:World} {A:Around} {E:Value->Shared->Prop} {s:Shared}
theorem iter_lst {l:Addr} {items:Array Value} {Q:Value->Shared->Prop} (hl:s.heap.IsList l items)
    (hQ:Q (.ref s.heap.objs.size) { s with heap:=s.heap.push { cls:=.type "list_iterator", data:=.fields #[.ref l,.int 0 0] } }):wpAny (Mo w) A (call (.builtin "iter") [.ref l]) Q E s:=by
  refine Calls.call_function_entry (b:=Builtin.«iter») (by decide +kernel) (by decide +kernel) en_iter (ar_iter _) ?_
  unfold Builtin.«iter»
  refine wpAny_bind (m:=someArgs "iter" 1 2 _) (wpAny_of_eq (a:=[Value.ref l]) rfl ?_)
  exact wpAny_bind (wpAny_pyIter_list hl (wpAny_pure ⟨_,rfl,hQ⟩))
theorem next_open {it l:Addr} {i:Nat} {Q:Value->Shared->Prop} (hit:s.heap.IsListIter it l i)
    (h:wpAny (Mo w) A.in1.in1 (Builtin.«list_iterator.__next__» ⟨[.ref it],[]⟩) (fun fin s'=>∃ v,fin=.done (.ret v)∧Q v s') E s):wpAny (Mo w) A (call (.builtin "next") [.ref it]) Q E s:=by
  refine Calls.call_function_entry (b:=Builtin.«next») (by decide +kernel) (by decide +kernel) en_next (ar_next _) ?_
  unfold Builtin.«next»
  refine wpAny_bind (m:=someArgs "next" 1 2 _) (wpAny_of_eq (a:=[Value.ref it]) rfl ?_)
  refine wpAny_bind (wpAny_specialOf hit.typeIs slot_listiter_next.lookup ?_)
  refine wpAny_bind (wpAny_callSpecial?_slot (name:=Str.ofString "__next__") hit.typeIs slot_listiter_next
    (wpAny_call_entry slot_listiter_next hit.typeIs entry_listiter_next (wpAny_mono h (fun fin s' q=>?_) fun θ θ z=>z) (args_listiter_next _)))
  obtain ⟨v,rfl,q⟩:=q
  exact ⟨v,rfl,wpAny_pure ⟨v,rfl,q⟩⟩
theorem next_item {it l:Addr} {i:Nat} {items:Array Value} {x:Value} {Q:Value->Shared->Prop} (hit:s.heap.IsListIter it l i) (hl:s.heap.IsList l items) (hx:items[i]?=some x)
    (hQ:∀ h',h'.IsListIter it l (i+1)->Heap.SameBut it s.heap h'->Q x { s with heap:=h' }):wpAny (Mo w) A (call (.builtin "next") [.ref it]) Q E s:=by
  refine next_open hit ?_
  obtain ⟨o,ho,hc,hd⟩:=id hit
  obtain ⟨ol,hol,_,nl,hdl⟩:=hl
  show wpAny _ _ (field (.ref it) 0 >>= _) _ _ s
  refine wpAny_bind (wpAny_field ho hd (x:=.ref l) rfl ?_)
  show wpAny _ _ (if (Value.ref l==Value.none)=true then _ else _) _ _ s
  rw [if_neg (show ¬ ((Value.ref l==Value.none)=true) from Bool.false_ne_true)]
  show wpAny _ _ (field (.ref it) 1 >>= _) _ _ s
  refine wpAny_bind (wpAny_field ho hd (x:=.int i 0) rfl ?_)
  show wpAny _ _ (seqItems? (.ref l) >>= _) _ _ s
  refine wpAny_bind (wpAny_seqItems hol hdl ?_)
  simp only [Int.toNat_natCast,hx]
  refine wpAny_bind (wpAny_setField ho hd (by simp) (wpAny_pure ⟨x,rfl,hQ _ ?_ (Heap.SameBut.update ..)⟩))
  exact ⟨_,Heap.get?_update_self _ ho (Obj.isFreed_of_fields (Obj.data_mapFields hd _)),(Obj.cls_mapFields ..).trans hc,by
    rw [Obj.data_mapFields hd];simp [rawInt]⟩
theorem next_end {it l:Addr} {i:Nat} {items:Array Value} {Q:Value->Shared->Prop} (hh:A.handled=none) (hit:s.heap.IsListIter it l i) (hl:s.heap.IsList l items) (hx:items[i]?=none)
    (hE:∀ h' e t,Heap.ExtBut it s.heap h'->ExcAt h' "StopIteration" e t .none->IsTup h' t #[]->NewAt s (.inl e)->NewAt s (.inl t)->h'.get? it≠none->E (.ref e) { s with heap:=h' }):wpAny (Mo w) A (call (.builtin "next") [.ref it]) Q E s:=by
  refine next_open hit ?_
  obtain ⟨o,ho,hc,hd⟩:=id hit
  obtain ⟨ol,hol,_,nl,hdl⟩:=hl
  show wpAny _ _ (field (.ref it) 0 >>= _) _ _ s
  refine wpAny_bind (wpAny_field ho hd (x:=.ref l) rfl ?_)
  show wpAny _ _ (if (Value.ref l==Value.none)=true then _ else _) _ _ s
  rw [if_neg (show ¬ ((Value.ref l==Value.none)=true) from Bool.false_ne_true)]
  show wpAny _ _ (field (.ref it) 1 >>= _) _ _ s
  refine wpAny_bind (wpAny_field ho hd (x:=.int i 0) rfl ?_)
  show wpAny _ _ (seqItems? (.ref l) >>= _) _ _ s
  refine wpAny_bind (wpAny_seqItems hol hdl ?_)
  simp only [Int.toNat_natCast,hx]
  refine wpAny_bind (wpAny_rule (wpAny_bind (wpAny_setField ho hd (by simp) ?_)))
  show wpAny _ _ (newExc (.type "StopIteration") [] >>= _) _ _ _
  refine wpAny_bind ?_
  simp only [newExc,newTuple]
  refine wpAny_bind (wpAny_newObj_type ?_ (by size_fits))
  refine wpAny_bind (m:=firstArgMember _ _) (wpAny_of_eq (a:=Value.none) (by first | rfl | (simp only [firstArgMember];rfl)) ?_)
  refine wpAny_newObj_type ?_ (by size_fits)
  simp only [raiseNew]
  refine wpAny_bind (wpAny_handled ?_)
  rw [show A.in1.in1.handled=none from hh]
  refine wpAny_bind (wpAny_pure (wpAny_throw ?_))
  have hsz:(((s.heap.update it (Obj.mapFields fun x=>x.setIfInBounds 0 Value.none)).push { cls:=.type "tuple", data:=.seq #[] }).objs.size)=s.heap.objs.size+1:=by
    rw [Heap.size_push,Heap.size_after_update]
  refine hE _ _ _ (((Heap.SameBut.update ..).extBut.push _).push _) ⟨_,_,Heap.get?_push_size _ rfl,rfl,rfl,rfl,rfl,rfl⟩ ⟨_,Heap.get?_push_of_some _ (Heap.get?_push_size _ rfl),rfl,_,rfl⟩ (newAt_ge ?_) (newAt_ge ?_) ?_
  · show s.heap.objs.size≤_
    rw [hsz];omega
  · show s.heap.objs.size≤_
    rw [Heap.size_after_update];exact Nat.le_refl _
  · rw [Heap.get?_push_of_some _ (Heap.get?_push_of_some _ (Heap.get?_update_self _ ho (Obj.isFreed_of_fields (Obj.data_mapFields hd _))))]
    exact fun q=>nomatch q
end
noncomputable def FrOk (s:Shared) (l:List Env):Prop:=∀ env,env∈l->env.scope.kind=.function∧∃ L m,env.frame=some L∧s.heap.Ns L m∧L∉tabs
theorem frs_iff {l:List Env} {b:Addr}:frs l b↔∃ env,env∈l∧env.frame=some b:=by
  unfold frs;rw [List.mem_filterMap]
theorem FrOk.fun {s:Shared}:∀ {l:List Env},FrOk s l->s.heap.FunFrames {} l
  | [],_=>trivial
  | env::r,h=>by
    obtain ⟨hk,L,m,hf,⟨o,es,ep,ho,hd,_⟩,_⟩:=h env List.mem_cons_self
    exact ⟨by rw [hk];decide,⟨L,o,hf,rfl,ho,fun vs q=>by rw [hd] at q;cases q⟩,FrOk.fun fun e he=>h e (List.mem_cons_of_mem _ he)⟩
theorem FrOk.ns {s:Shared} {l:List Env} (h:FrOk s l) {b:Addr} (hb:frs l b):(∃ m,s.heap.Ns b m)∧b∉tabs:=by
  obtain ⟨env,he,hf⟩:=frs_iff.mp hb
  obtain ⟨_,L,m,hf',hn,ht⟩:=h env he
  rw [hf] at hf';cases hf'
  exact ⟨⟨m,hn⟩,ht⟩
theorem Slo.ns {F:Addr->Prop} {s s':Shared} (x:Slo F s s') {a:Addr} {m:Str->Option Value} (hF:F a) (h:s.heap.Ns a m):s'.heap.Ns a m:=by
  obtain ⟨o,es,ep,ho,hd,r⟩:=h
  obtain ⟨sl,e⟩:=x.k a o hF ho
  exact ⟨_,es,ep,e,hd,r⟩
theorem Slo.trans {F:Addr->Prop} {s s' s'':Shared} (x:Slo F s s') (y:Slo F s' s''):Slo F s s'':=⟨fun b o hb e=>by
  obtain ⟨sl,e'⟩:=x.k b o hb e
  obtain ⟨sl',e''⟩:=y.k b _ hb e'
  exact ⟨sl',e''⟩⟩
theorem Slo.mono {F G:Addr->Prop} {s s':Shared} (x:Slo G s s') (h:∀ b,F b->G b):Slo F s s':=⟨fun b o hb e=>x.k b o (h b hb) e⟩
theorem Slo.of_to {F:Addr->Prop} {X:Loc->Prop} {s s':Shared} (x:To X s s') (h:∀ b,F b->¬ X (.inl b)∧b∉tabs):Slo F s s':=⟨fun b o hb e=>⟨o.slots,x.keep b o (h b hb).1 (fun q=>absurd q (h b hb).2) e⟩⟩
theorem FrOk.slo {F:Addr->Prop} {s s':Shared} {l:List Env} (h:FrOk s l) (x:Slo F s s') (hF:∀ b,frs l b->F b):FrOk s' l:=fun env he=>by
  obtain ⟨hk,L,m,hf,hn,ht⟩:=h env he
  exact ⟨hk,L,m,hf,x.ns (hF L (frs_iff.mpr ⟨env,he,hf⟩)) hn,ht⟩
theorem FrOk.to {X:Loc->Prop} {s s':Shared} {l:List Env} (h:FrOk s l) (x:To X s s') (hX:∀ b,frs l b->¬ X (.inl b)):FrOk s' l:=
  h.slo (Slo.of_to x fun b hb=>⟨hX b hb,(h.ns hb).2⟩) fun θ q=>q
theorem FrOk.tail {s:Shared} {env:Env} {l:List Env} (h:FrOk s (env::l)):FrOk s l:=fun e he=>h e (List.mem_cons_of_mem _ he)
mutual
theorem Bears.keepsS {N:Addr->Prop} {h h':Heap} (k:∀ a o xs n,h.get? a=some o->o.data=.seq xs n->o.cls≠.none->h'.get? a=some o):∀ {d:D} {v:Value},Bears N h d v->Bears N h' d v
  | .none,_,x=>by unfold Bears at *;exact x
  | .bool _,_,x=>by unfold Bears at *;exact x
  | .int _,_,x=>by unfold Bears at *;exact x
  | .str _,_,x=>by unfold Bears at *;exact x
  | .val _,_,x=>by unfold Bears at *;exact x
  | .tup ds,_,x=>by
    unfold Bears at *
    obtain ⟨b,vs,e,n,⟨o,ho,hc,m,hd⟩,y⟩:=x
    exact ⟨b,vs,e,n,⟨o,k b o _ _ ho hd (by rw [hc];exact fun q=>nomatch q),hc,m,hd⟩,BearsAll.keepsS k y⟩
  | .lst ds,_,x=>by
    unfold Bears at *
    obtain ⟨b,vs,e,n,⟨m,ho⟩,y⟩:=x
    exact ⟨b,vs,e,n,⟨m,k b _ _ _ ho rfl (fun q=>nomatch q)⟩,BearsAll.keepsS k y⟩
theorem BearsAll.keepsS {N:Addr->Prop} {h h':Heap} (k:∀ a o xs n,h.get? a=some o->o.data=.seq xs n->o.cls≠.none->h'.get? a=some o):∀ {ds:List D} {vs:List Value},BearsAll N h ds vs->BearsAll N h' ds vs
  | [],_,x=>by unfold BearsAll at *;exact x
  | d::ds,_,x=>by
    unfold BearsAll at *
    obtain ⟨v,r,e,b,c⟩:=x
    exact ⟨v,r,e,Bears.keepsS k b,BearsAll.keepsS k c⟩
end
theorem Kp.of_toX {Z:Loc->Prop} {s s':Shared} (x:To Z s s') (h:∀ b,Z (.inl b)->NoSeq s.heap b):Kp s s':=⟨fun b=>b.keepsS fun a o xs n ho hd hc=>x.keep a o (fun q=>h a q o ho xs n hd) (fun θ=>hc) ho⟩
theorem noSeq_fields {h:Heap} {a:Addr} {o:Obj} {fs:Array Value} (ho:h.get? a=some o) (hd:o.data=.fields fs):NoSeq h a:=fun o' e xs n q=>by rw [ho] at e;cases e;rw [hd] at q;cases q
structure Rz (l:List Env) (Y:Loc->Prop) (sb:Shared) (cls:String) (e t:Addr) (head:Value) (s:Shared):Prop where
  to:To (fun p=>Y p∨∃ b,frs l b∧p=.inl b) sb s
  slo:Slo (frs l) sb s
  kp:Kp sb s
  exc:ExcAt s.heap cls e t head
  en:NewAt sb (.inl e)
  hn:∀ T,head=.ref T->NewAt sb (.inl T)
  tn:NewAt sb (.inl t)∧IsTup s.heap t #[]
  fr:FrOk s l
  tb:TabOk sb
  yb:∀ l,Y l->¬ NewAt sb l
  yt:∀ l,Y l->¬ NewAt s l
theorem newAt_notab {s:Shared} (h:TabOk s) {a:Addr} (n:NewAt s (.inl a)):a∉tabs:=fun q=>by
  obtain ⟨vs,e⟩:=h a q
  rw [show s.heap.get? a=none from n] at e;cases e
section
variable {w:World} {A:Around} {E:Value->Shared->Prop} {s sb:Shared} {Y:Loc->Prop} {cls:String} {e t T:Addr} {head:Value} {env:Env} {outer:List Env} {L:Addr}
theorem Rz.note {Q:Unit->Shared->Prop} (hcls:cls ≠ "code" := by decide) (z:Rz (env::outer) Y sb cls e t head s) (hfr:A.frames=some (env::outer)) (hf:env.frame=some L) (hd:HeadOk s.heap e head)
    (h:∀ s' T,Rz (env::outer) Y sb cls e t (.ref T) s'->TbAt s'.heap e T (rawInt L)->Q () s'):wpAny (Mo w) A (noteFrame (.ref e) env) Q E s:=by
  have hz:∀ p,Zof (env::outer) e head p->(∃ b,frs (env::outer) b∧p=.inl b)∨∃ b,p=.inl b∧NewAt sb (.inl b):=fun p hp=>by
    rcases hp with h | rfl | ⟨T,hT,rfl⟩
    · exact .inl h
    · exact .inr ⟨_,rfl,z.en⟩
    · exact .inr ⟨_,rfl,z.hn T hT⟩
  obtain ⟨oe,vs,ho,hc,hdt,h0,h1,h2⟩:=id z.exc
  obtain ⟨ot,hot,hct,nt,hdtt⟩:=id z.tn.2
  have hseq:∀ b,Zof (env::outer) e head (.inl b)->NoSeq s.heap b:=fun b hb=>by
    rcases hb with ⟨c,hc',q⟩ | q | ⟨T,hT,q⟩
    · cases q;obtain ⟨⟨m,hm⟩,_⟩:=z.fr.ns hc';exact NoSeq.ns hm
    · cases q;exact noSeq_fields ho hdt
    · cases q
      rcases hd with hd | ⟨T',hT',_,o',ts,hT2,_,hdT,_⟩
      · rw [hd] at hT;cases hT
      · rw [hT'] at hT;cases hT;exact noSeq_fields hT2 hdT
  refine note_ hfr z.fr.fun hf z.exc hd (fun P q=>?_) fun h' T To' S' ex tb nT=>?_
  · rcases q with ⟨b,hb,qb⟩ | qb | ⟨T,hT,qb⟩
    · cases qb;obtain ⟨⟨m,hm⟩,ht⟩:=z.fr.ns hb;exact turns_ns ht hm
    · cases qb;exact turns_cls (newAt_notab z.tb z.en) ho hc hcls
    · cases qb
      rcases hd with hd | ⟨T',hT',_,o',ts,hT2,hcT2,hdT,_⟩
      · rw [hd] at hT;cases hT
      · rw [hT'] at hT;cases hT
        exact turns_cls (newAt_notab z.tb (z.hn _ hT')) hT2 hcT2 (by decide)
  have K':=Kp.of_toX To' hseq
  have to':To (fun p=>Y p∨∃ b,frs (env::outer) b∧p=.inl b) sb { s with heap:=h' }:=z.to.forget' To' fun p hp=>(hz p hp).imp .inr fun ⟨b,q,n⟩=>q▸n
  have fr':=z.fr.slo S' fun θ q=>q
  refine h _ T ⟨to',z.slo.trans S',z.kp.trans K',ex,z.en,fun T' q=>?_,⟨z.tn.1,?_⟩,fr',z.tb,z.yb,fun l hl n=>?_⟩ tb
  · cases q
    rcases newAt_back z.tb z.to nT with q | q | ⟨b,hb,q⟩
    · exact q
    · exact absurd nT (z.yt _ q)
    · cases q
      obtain ⟨⟨m,hm⟩,_⟩:=z.fr.ns hb
      exact absurd nT (ns_there hm)
  · exact ⟨ot,To'.keep t ot (fun q=>hseq t q ot hot _ _ hdtt) (fun θ q=>by rw [hct] at q;cases q) hot,hct,nt,hdtt⟩
  · rcases newAt_back (z.tb.to z.to) To' n with q | q
    · exact z.yt l hl q
    · rcases hz _ q with ⟨b,hb,q⟩ | ⟨b,q,hb⟩
      · subst q
        obtain ⟨⟨m,hm⟩,_⟩:=fr'.ns hb
        exact ns_there hm n
      · subst q;exact z.yb _ hl hb
theorem Rz.noteIn {Q:Unit->Shared->Prop} (z:Rz (env::outer) Y sb cls e t (.ref T) s) (hf:env.frame=some L) (hd:TbAt s.heap e T (rawInt L)) (h:Q () s):wpAny (Mo w) A (noteFrame (.ref e) env) Q E s:=note_in hf z.exc hd h
theorem Rz.flight {f:Option Addr} {fl:Value} {l:List Env} {Q:Unit->Shared->Prop} (z:Rz l Y sb cls e t (.ref T) s) (hd:TbAt s.heap e T fl)
    (h:∀ s',Rz l Y sb cls e t (.ref T) s'->TbAt s'.heap e T (f.elim .none fun a=>rawInt a)->Q () s'):wpAny (Mo w) A (setFlight (.ref e) f) Q E s:=by
  obtain ⟨hTe,o,ts,hT,hcT,hdT,h3⟩:=id hd
  obtain ⟨ot,hot,hct,nt,hdtt⟩:=id z.tn.2
  have hTn:=z.hn T rfl
  refine flight_ z.exc hd fun h' hs ex tb=>?_
  have hnt:T∉tabs:=newAt_notab z.tb hTn
  have T₁:To (one T) s { s with heap:=h' }:=To.but (t:=s.toks) hs rfl (turns_cls hnt hT hcT (by decide))
  have K₁:Kp s { s with heap:=h' }:=Kp.of_toX T₁ fun b hb=>by cases hb;exact noSeq_fields hT hdT
  have hF:∀ b,frs l b->¬ one T (.inl b)∧b∉tabs:=fun b hb=>⟨fun q=>(by
    cases q
    obtain ⟨⟨m,o',es,ep,ho',hd',_⟩,_⟩:=z.fr.ns hb
    rw [hT] at ho';cases ho';rw [hdT] at hd';cases hd'),(z.fr.ns hb).2⟩
  have S₁:=Slo.of_to T₁ hF
  have h'T:h'.get? T≠none:=by obtain ⟨_,o',_,ho',_⟩:=tb;rw [ho'];exact fun q=>nomatch q
  refine h _ ⟨z.to.forget' T₁ fun p hp=>.inr (by rw [hp];exact hTn),z.slo.trans S₁,z.kp.trans K₁,ex,z.en,fun T' q=>by cases q;exact hTn,⟨z.tn.1,ot,T₁.keep t ot (fun q=>by
    cases q;rw [hT] at hot;cases hot;rw [hcT] at hct;exact absurd (Value.type.inj hct) (by decide)) (fun θ q=>by rw [hct] at q;cases q) hot,hct,nt,hdtt⟩,z.fr.slo S₁ fun θ q=>q,z.tb,z.yb,fun p hp n=>?_⟩ tb
  rcases newAt_back (z.tb.to z.to) T₁ n with q | q
  · exact z.yt p hp q
  · cases q;exact h'T n
theorem Rz.back {l:List Env} {Q:Value->Shared->Prop} (z:Rz l Y sb cls e t (.ref T) s) {fl:Value} (hd:TbAt s.heap e T fl) (hf:env.frame=some L)
    (h:∀ s',Rz l Y sb cls e t (.ref T) s'->TbAt s'.heap e T (rawInt L)->Q (.ref e) s'):cameBackBy (Mo w) A env Q (.ref e) s:=by
  unfold cameBackBy
  obtain ⟨oe,vs,ho,hc,hdt,h0,h1,h2⟩:=id z.exc
  refine wpAny_bind (wpAny_field ho hdt h1 ?_)
  rw [if_neg (show ¬ ((Value.ref T==Value.none)=true) from by simp)]
  refine z.flight hd fun s' z' hd'=>?_
  rw [hf] at hd'
  exact h s' z' hd'
theorem Rz.pop (z:Rz (env::outer) Y sb cls e t head s) (hf:env.frame=some L) (hn:NewAt sb (.inl L)):Rz outer Y sb cls e t head s:=
  { z with
    to:=z.to.less fun p hp=>hp.elim (fun q=>.inl (.inl q)) fun ⟨b,hb,q⟩=>by
      obtain ⟨env',he,hf'⟩:=frs_iff.mp hb
      rcases List.mem_cons.mp he with rfl | he
      · rw [hf] at hf';cases hf';rw [q];exact .inr hn
      · exact .inl (.inr ⟨b,frs_iff.mpr ⟨env',he,hf'⟩,q⟩)
    slo:=z.slo.mono fun b hb=>by
      obtain ⟨env',he,hf'⟩:=frs_iff.mp hb
      exact frs_iff.mpr ⟨env',List.mem_cons_of_mem _ he,hf'⟩
    fr:=z.fr.tail }
theorem Rz.leave {Q:Unit->Shared->Prop} (hcls:cls ≠ "code" := by decide) (z:Rz (env::outer) Y sb cls e t head s) (hfr:A.frames=some (env::outer)) (hf:env.frame=some L) (hn:NewAt sb (.inl L)) (hd:HeadOk s.heap e head)
    (h:∀ s' T,Rz outer Y sb cls e t (.ref T) s'->TbAt s'.heap e T .none->Q () s'):wpAny (Mo w) A (leaving env (.ref e)) Q E s:=by
  unfold leaving
  exact wpAny_bind (Rz.note hcls z hfr hf hd fun s' T z' hd'=>z'.flight hd' fun s'' z'' hd''=>h s'' T (z''.pop hf hn) hd'')
theorem Rz.leaveIn {Q:Unit->Shared->Prop} (z:Rz (env::outer) Y sb cls e t (.ref T) s) (hf:env.frame=some L) (hn:NewAt sb (.inl L)) (hd:TbAt s.heap e T (rawInt L))
    (h:∀ s' T,Rz outer Y sb cls e t (.ref T) s'->TbAt s'.heap e T .none->Q () s'):wpAny (Mo w) A (leaving env (.ref e)) Q E s:=by
  unfold leaving
  exact wpAny_bind (z.noteIn hf hd (z.flight hd fun s'' z'' hd''=>h s'' T (z''.pop hf hn) hd''))
end
section
variable {w:World} {s₁ sb s:Shared} {N:Addr->Prop} {A:Around} {env:Env} {ρ:List (Str × D)} {γ:List (D × Value)} {X:Loc->Prop} {E:Value->Shared->Prop} {Q:Flow->Shared->Prop}
theorem Rel.after {Z X':Loc->Prop} {F:Addr->Prop} {s':Shared} (R:Rel s₁ N X sb env ρ γ s) (T:To Z s s') (K:Kp s s') (S:Slo F s s') (hX:∀ l,X l->X' l) (hZ:∀ l,Z l->X' l∨NewAt s l) (hn:∀ l,X' l->NewAt s₁ l)
    (hloc:Z (.inl env.locals)->F env.locals) (hcell:∀ x c k,env.kindOf x=some k->k=.cell∨k=.free->env.cells.lookup x=some c->¬ Z (.inl c)) (hN:∀ a,N a->¬ Z (.inl a)):Rel s₁ N X' sb env ρ γ s' where
  inv:=R.inv.forget (T.less hZ) hn
  to:=(R.to.mono hX).trans (T.less hZ)
  xnew:=hn
  xloc:=hX _ R.xloc
  ns:=by
    obtain ⟨m,h,k⟩:=R.ns
    refine ⟨m,?_,fun y d hk hl=>let ⟨v,e,b⟩:=k y d hk hl;⟨v,e,K.k b⟩⟩
    by_cases q:Z (.inl env.locals)
    · exact S.ns (hloc q) h
    · exact ns_to' T q R.ltab h
  cel:=fun y k hk hq=>by
    obtain ⟨c,ov,hc,⟨o,ho,hd⟩,ht,r⟩:=R.cel y k hk hq
    exact ⟨c,ov,hc,⟨o,T.keep c o (hcell y c k hk hq hc) (fun q=>absurd q ht) ho,hd⟩,ht,fun d hd=>let ⟨v,e,b⟩:=r d hd;⟨v,e,K.k b⟩⟩
  apart:=R.apart
  ltab:=R.ltab
  gh:=fun p hp=>K.k (R.gh p hp)
  nex:=fun a h q=>(newAt_back R.tabs T q).elim (R.nex a h) fun z=>hN a h z
  tabs:=R.tabs.to T
theorem xs_whileE {test:Expr} {body orelse rest:List Stmt} {pos:Pos} (R:Rel s₁ N X sb env ρ γ s)
    (J:Nat->List (Str × D)->Shared->Prop) (c:List (Str × D)->Bool) (m₀:Nat) (j₀:J m₀ ρ s) (hJ:∀ m ρ s s',J m ρ s->To no s s'->J m ρ s')
    (ht:∀ m ρ' s',J m ρ' s'->Ts w s₁ A env ρ' test (c ρ'))
    (turn:∀ m ρ' s',J m ρ' s'->c ρ'=true->Rel s₁ N X sb env ρ' γ s'->Xs w A env body (fun f s''=>match f with
      | .next | .cont=>∃ m' ρ'',m'<m∧J m' ρ'' s''∧Rel s₁ N X sb env ρ'' γ s''
      | .brk=>Xs w A env rest Q E s''
      | .ret v=>Q (.ret v) s'') (notedBy (Mo w) A env (cameBackBy (Mo w) A env E)) s')
    (fin:∀ m ρ' s',J m ρ' s'->c ρ'=false->Rel s₁ N X sb env ρ' γ s'->Xs w A env orelse (fun f s''=>match f with | .next=>Xs w A env rest Q E s'' | f=>Q f s'') (notedBy (Mo w) A env (cameBackBy (Mo w) A env E)) s') :
    Xs w A env (.While test body orelse pos::rest) Q E s:=by
  refine xs_cons ⟨wpAny_While (codeAny_whileLoop (fun m s'=>∃ ρ',J m ρ' s'∧Rel s₁ N X sb env ρ' γ s') (fun m s' h=>?_) m₀ ⟨ρ,j₀,R⟩)⟩
  obtain ⟨ρ',j,R'⟩:=h
  refine (ht m ρ' s' j).use R' fun b s'' T e=>?_
  subst e
  have j':=hJ m ρ' s' s'' j T
  cases hc:c ρ' with
  | true=>
    simp only [if_true]
    refine wpAny_mono (turn m ρ' s'' j' hc (R'.step T)).run (fun f s₃ h=>?_) fun θ θ h=>h
    cases f with
    | next=>obtain ⟨m',ρ'',hm,j',R''⟩:=h;exact ⟨m',hm,ρ'',j',R''⟩
    | cont=>obtain ⟨m',ρ'',hm,j',R''⟩:=h;exact ⟨m',hm,ρ'',j',R''⟩
    | brk=>exact h
    | ret v=>exact h
  | false=>
    simp only [Bool.false_eq_true,if_false]
    exact wpAny_mono (fin m ρ' s'' j' hc (R'.step T)).run (fun f s₃ h=>by cases f<;>exact h) fun θ θ h=>h
end
theorem fn_enterX {w:World} {s₁:Shared} {N:Addr->Prop} {A:Around} {s:Shared} {vs:List Value} {R:Result->Shared->Prop} {n:Nat} {f:Addr} {args:List D} {oc:Value} {od:Option Addr} {osl:Array (Option Value)} {name qual:Str} {params:Arguments} {body:List Stmt} {scope:Scope} {dV kV doc pm cdv ct:Value} {an:Option Addr} (names:List Str)
    (G:GW w s₁) (ho:(Kw w).lookup f=some ⟨oc,od,.func (fnOf name qual params body scope dV kV doc pm an cdv ct),osl⟩) (hf:(f==58||f==51)=false)
    (hcd:codeIn (Kw w) cdv qual=true) (hb:∀ s vs,vs.length=args.length->BindsTo s (fnOf name qual params body scope dV kV doc pm an cdv ct) ⟨vs,[]⟩ (names.zip vs))
    (hnd:names.Nodup) (hnk:∀ x∈names,scope.names.lookup x=some .local∨scope.names.lookup x=some .cell) (hfree:∀ x∈scope.names,x.2≠.free)
    (hk:scope.kind=.function) (hco:scope.isCoroutine=false) (hgen:scope.isGenerator=false)
    (hA:Rm (n+1) A) (HH:At s₁ s) (nex:Nex N s) (b:BearsAll N s.heap args vs)
    (h:∀ L s',To no s s'->Rm n (A.deeper (envOfC qual scope L f cdv))->(∀ l,Own (envOfC qual scope L f cdv) l->NewAt s l)->EnvOk (envOfC qual scope L f cdv)->Rel s₁ N (Own (envOfC qual scope L f cdv)) s' (envOfC qual scope L f cdv) (names.zip args) [] s' ->
      Xs w (A.deeper (envOfC qual scope L f cdv)) (envOfC qual scope L f cdv) body (fun fl s''=>R (.ok (.ret (match fl with | .ret v=>v | _=>.none))) s'')
        (fun e s''=>wpAny (Mo w) (A.deeper (envOfC qual scope L f cdv)) (leaving (envOfC qual scope L f cdv) e) (fun θ s₃=>R (.error e) s₃) (fun e' s₃=>R (.error e') s₃) s'') s') :
    codeAny (Mo w) A (.call (.ref f) ⟨vs,[]⟩) R s:=by
  have ho':s.heap.get? f=some _:=G.get HH ho hf
  have hcr:s.heap.CodeRec cdv qual:=by
    obtain ⟨c,o,vs',t,e,hc,hr⟩:=codeRec_of G.kin hcd
    refine ⟨c,o,vs',t,e,?_,hr⟩
    refine HH.keep c o id (fun q=>?_) hc
    rw [G.tab c q] at hc;cases hc
    obtain ⟨hd,hv⟩:=hr
    cases hd;simp at hv
  refine codeAny_call_function (fd:=fnOf name qual params body scope dV kV doc pm an cdv ct) hA.lt ho' rfl hco hgen rfl hcr (hb s vs (all_length b) _ _ _ _ ?_)
  refine wpAny_newFunctionEnv_cells hk (fun x hx=>?_) fun env he s' x=>?_
  · have hm:x.1∈names:=(zip_names (vs:=vs) hnd).2 _ (List.mem_map_of_mem hx)
    refine (hnk _ hm).imp id fun q=>⟨q,?_⟩
    obtain ⟨c,hc⟩:=cellsFrom_has scope.names (s.heap.objs.size+1) [] (.inl q)
    rw [hc];rfl
  · have he':env=envOfC qual scope s.heap.objs.size f cdv:=he
    subst he'
    obtain ⟨h₁,tk,rfl,hkeep⟩:=x.done
    have hlt:∀ a o,s.heap.get? a=some o->h₁.get? a=some o:=hkeep
    have T:To no s { s with heap:=h₁,toks:=tk }:=To.heap hlt
    have hn:=(zip_names (vs:=vs) hnd).1
    have htab:∀ P,P∈tabs->P<s.heap.objs.size:=fun P hP=>by
      obtain ⟨more,e,_⟩:=HH.tab P hP _ (G.tab P hP)
      exact Heap.lt_size e
    have hLt:s.heap.objs.size∉tabs:=fun q=>Nat.lt_irrefl _ (htab _ q)
    have habove:∀ x' c,(envOfC qual scope s.heap.objs.size f cdv).cells.lookup x'=some c->s.heap.objs.size<c:=fun x' c hc=>x.above x' c (mem_of_lookup hc)
    have hown:∀ l,Own (envOfC qual scope s.heap.objs.size f cdv) l->NewAt s l:=fun l hl=>by
      rcases hl with rfl | ⟨x',c,_,hc,rfl⟩
      · exact newAt_ge (Nat.le_refl _)
      · exact newAt_ge (Nat.le_of_lt (habove x' c hc))
    have R₀:Rel s₁ N (Own (envOfC qual scope s.heap.objs.size f cdv)) { s with heap:=h₁,toks:=tk } (envOfC qual scope s.heap.objs.size f cdv) (names.zip args) [] { s with heap:=h₁,toks:=tk }:=by
      refine ⟨HH.trans T,To.refl _ _,fun l hl=>(hown l hl).to (fun P hP=>⟨_,G.tab P hP⟩) HH,.inl rfl,⟨_,x.toInCall.ns,fun y d' hk' hd'=>?_⟩,fun y k hk' hq=>?_,fun y z c hy hz=>?_,hLt,(fun p hp=>nomatch hp),nex.to (G.tabOk HH) T,(G.tabOk HH).to T⟩
      · obtain ⟨v,e,b'⟩:=zip_look b hd'
        exact ⟨v,bindL_look hn e hk',b'.to T⟩
      · have hkc:scope.names.lookup y=some .cell:=by
          have:scope.names.lookup y=some k:=hk'
          rcases hq with rfl | rfl
          · exact this
          · exact absurd rfl (hfree _ (mem_of_lookup this))
        obtain ⟨c,hc⟩:=cellsFrom_has scope.names (s.heap.objs.size+1) [] (.inl hkc)
        have hc':(envOfC qual scope s.heap.objs.size f cdv).cells.lookup y=some c:=hc
        refine ⟨c,_,hc',x.cell y c hc',fun q=>Nat.lt_irrefl _ (Nat.lt_trans (htab _ q) (habove y c hc')),fun d' hd'=>?_⟩
        obtain ⟨v,e,b'⟩:=zip_look b hd'
        have hk2:(envOfC qual scope s.heap.objs.size f cdv).kindOf y=some .cell:=hkc
        exact ⟨v,bindC_look hn e (by rw [hk2];exact fun q=>nomatch q),b'.to T⟩
      · exact name_of_addr x.apart (mem_of_lookup hy) (mem_of_lookup hz)
    refine ⟨G.nolimit (HH.trans T),codeAny_func ?_⟩
    exact (h _ _ T hA.deeper hown ⟨hk,rfl,rfl⟩ R₀).run
section
variable {w:World} {s₁ sb s:Shared} {N:Addr->Prop} {A:Around} {env:Env} {ρ:List (Str × D)} {γ:List (D × Value)} {X:Loc->Prop} {E:Value->Shared->Prop} {Q:Flow->Shared->Prop}
theorem Rel.widen {X':Loc->Prop} (R:Rel s₁ N X sb env ρ γ s) (hX:∀ l,X l->X' l) (hn:∀ l,X' l->NewAt s₁ l):Rel s₁ N X' sb env ρ γ s:={ R with to:=R.to.mono hX,xnew:=hn,xloc:=hX _ R.xloc }
theorem iter_ne_ns {h:Heap} {a it l:Addr} {i:Nat} {m:Str->Option Value} (x:h.Ns a m) (y:h.IsListIter it l i):a≠it:=fun q=>by
  subst q
  obtain ⟨o',es,ep,ho,hd,_⟩:=x
  obtain ⟨o,ho',_,hd'⟩:=y
  rw [ho] at ho';cases ho';rw [hd] at hd';cases hd'
theorem iter_ne_cell {h:Heap} {a it l:Addr} {i:Nat} {m:Option Value} (x:h.IsCell a m) (y:h.IsListIter it l i):a≠it:=fun q=>by
  subst q
  obtain ⟨o',ho,hd⟩:=x
  obtain ⟨o,ho',_,hd'⟩:=y
  rw [ho] at ho';cases ho';rw [hd] at hd';cases hd'
theorem iter_to {s':Shared} {it l:Addr} {i:Nat} {Y:Loc->Prop} (y:s.heap.IsListIter it l i) (T:To Y s s') (h:¬ Y (.inl it)):s'.heap.IsListIter it l i:=by
  obtain ⟨o,ho,hc,hd⟩:=y
  exact ⟨o,kept_get T h ho hc,hc,hd⟩
theorem Rel.turned {it l:Addr} {i:Nat} {s':Shared} (R:Rel s₁ N X sb env ρ γ s) (hX:X (.inl it)) (hN:¬ N it) (hit:s.heap.IsListIter it l i) (T:To (one it) s s') (K:Kp s s'):Rel s₁ N X sb env ρ γ s':=
  R.after (F:=fun θ=>False) T K ⟨fun θ θ q=>q.elim⟩ (fun θ h=>h) (fun p hp=>by rw [hp];exact .inl hX) R.xnew (fun q=>by
    obtain ⟨m,hm,_⟩:=R.ns
    exact absurd (Sum.inl.inj q) (iter_ne_ns hm hit)) (fun x c k hk hq hc q=>by
    obtain ⟨c',ov,hc',hi,_⟩:=R.cel x k hk hq
    rw [hc] at hc';cases hc'
    exact iter_ne_cell hi hit (Sum.inl.inj q)) fun a ha q=>hN (Sum.inl.inj q▸ha)
theorem kp_iter {it l:Addr} {i:Nat} {s':Shared} (hit:s.heap.IsListIter it l i) (T:To (one it) s s'):Kp s s':=Kp.of_toX T fun b hb=>by
  obtain ⟨o,ho,_,hd⟩:=hit
  cases hb;exact noSeq_fields ho hd
theorem ev_next (G:GW w s₁) {f arg:Expr} {pos:Pos} {it l:Addr} {i:Nat} {ds:List D} {Q:Value->Shared->Prop} (R:Rel s₁ N X sb env ρ γ s) (hX:X (.inl it)) (hN:¬ N it) (hh:A.handled=none) (hg:(.lst ds,.ref l)∈γ) (hit:s.heap.IsListIter it l i) (xf:Ev w s₁ A env ρ f (.val (.builtin "next"))) (ya:Ev w s₁ A env ρ arg (.val (.ref it)))
    (hc:eval (.Call f [arg] [] pos) env=(do callWith pos (← eval f env) [] (backTo pos (starEach [arg] env)) [])) (hs:starEach [arg] env=[(false,eval arg env)])
    (item:∀ d v s',ds[i]?=some d->s'.heap.IsListIter it l (i+1)->Rel s₁ N X sb env ρ γ s'->Bears N s'.heap d v->Q v s')
    (fin:ds[i]?=none->∀ s' e t,¬ NewAt s' (.inl it)->Rel s₁ N X sb env ρ γ s'->ExcAt s'.heap "StopIteration" e t .none->IsTup s'.heap t #[]->NewAt s (.inl e)->NewAt s (.inl t)->E (.ref e) s') :
    wpAny (Mo w) A (eval (.Call f [arg] [] pos) env) Q E s:=by
  have hb:backTo pos (starEach [arg] env)=[(false,eval arg env)]:=by rw [hs];rfl
  rw [hc,hb]
  refine wpAny_bind (xf.use R fun u s' T bu=>?_)
  obtain rfl:=of_val bu
  refine Calls.callWith_builtin rfl (Calls.evalArgs_plain (Calls.spliced_cons (ya.use (R.step T) fun v s'' T' bv=>Calls.spliced_nil ?_)))
  obtain rfl:=of_val bv
  have TT:=T.trans T'
  have R':=R.step TT
  have hit':=iter_to hit TT id
  obtain ⟨a,vs,ea,hn,hl,ba⟩:=of_lst (R'.gh _ hg)
  cases ea
  have nt:Turns s'' it:=by obtain ⟨o,ho,hcl,_⟩:=hit';exact free_of (G.tabOk R'.inv) ho hcl
  cases hx:ds[i]? with
  | some d=>
    obtain ⟨v,hv,bv⟩:=all_get ba hx
    refine next_item hit' hl (x:=v) (by simpa using hv) fun h' hit₂ hs₂=>?_
    have T₂:To (one it) s'' { s'' with heap:=h' }:=To.but (t:=s''.toks) hs₂ rfl nt
    have K₂:=kp_iter hit' T₂
    exact item d v _ hx hit₂ (R'.turned hX hN hit' T₂ K₂) (K₂.k bv)
  | none=>
    have hlen:=all_length ba
    refine next_end hh hit' hl (by rw [List.getElem?_eq_none_iff] at hx;simp;omega) fun h' e t hs₂ ex tn ne nt' there=>?_
    have T₂:To (one it) s'' { s'' with heap:=h' }:=To.ext (t:=s''.toks) hs₂ rfl nt
    have K₂:=kp_iter hit' T₂
    have tk:=G.tabOk R.inv
    exact fin hx _ e t (fun q=>there q) (R'.turned hX hN hit' T₂ K₂) ex tn (NewAt.to tk TT ne) (NewAt.to tk TT nt')
theorem Rel.storeN {x:Str} {v:Value} {d:D} {Q:Unit->Shared->Prop} (R:Rel s₁ N X sb env ρ γ s) (b:Bears N s.heap d v) (hk:env.scope.kind=.function) (hl:env.kindOf x=some .local)
    (h:∀ s',To (one env.locals) s s'->Rel s₁ N X sb env ((x,d)::ρ) γ s'->Q () s'):wpAny (Mo w) A (storeName env x v) Q E s:=by
  have R₀:Rel s₁ N (one env.locals) s env ρ γ s:={ R with to:=To.refl _ _,xnew:=fun l hl=>by rw [hl];exact R.xnew _ R.xloc,xloc:=rfl }
  exact R₀.storeL b hk hl fun s' T K R'=>h s' T (R.back (R'.widen (fun l hl=>by rw [hl];exact R.xloc) R.xnew))
theorem xs_assignN {x:Str} {p pos:Pos} {e:Expr} {d:D} {rest:List Stmt} (R:Rel s₁ N X sb env ρ γ s) (v:Ev w s₁ A env ρ e d) (hk:env.scope.kind=.function) (hl:env.kindOf x=some .local)
    (hs:swapsWith e (some (.Name x p)) pos.line env=pure false)
    (h:∀ s',To (one env.locals) s s'->Rel s₁ N X sb env ((x,d)::ρ) γ s'->Xs w A env rest Q E s'):Xs w A env (.Assign [.Name x p] e pos::rest) Q E s:=
  xs_cons ⟨wpAny_Assign_Name (v.use R fun u s' T b=>(R.step T).storeN b hk hl fun s'' T' R''=>h s'' (T.of_no.trans T') R'') hs⟩
theorem xs_augN {x:Str} {p pos:Pos} {op:Operator} {e:Expr} {a b d:D} {rest:List Stmt} (R:Rel s₁ N X sb env ρ γ s) (hk:env.scope.kind=.function) (hl:env.kindOf x=some .local) (hd:ρ.lookup x=some a) (v:Ev w s₁ A env ρ e b)
    (ho:∀ N s u v,Bears N s.heap a u->Bears N s.heap b v->Op w s₁ N A s (inplaceOp op u v) fun z s'=>Bears N s'.heap d z)
    (h:∀ s',To (one env.locals) s s'->Rel s₁ N X sb env ((x,d)::ρ) γ s'->Xs w A env rest Q E s'):Xs w A env (.AugAssign (.Name x p) op e pos::rest) Q E s:=
  xs_cons ⟨wpAny_AugAssign_Name (R.load hk (.inl hl) hd fun u bu=>v.use R fun z s' T bz=>wpAny_mono (ho N s' u z (bu.to T) bz (R.inv.trans T) (R.step T).nex) (fun r s'' h'=>
    ((R.step T).step h'.1).storeN h'.2 hk hl fun s₃ T₃ R₃=>h s₃ ((T.trans h'.1).of_no.trans T₃) R₃) fun θ θ h=>h.elim)⟩
theorem xs_next (G:GW w s₁) {x:Str} {f arg:Expr} {p cp pos:Pos} {it l:Addr} {i:Nat} {ds:List D} {rest:List Stmt} (R:Rel s₁ N X sb env ρ γ s) (hX:X (.inl it)) (hN:¬ N it) (hh:A.handled=none) (hg:(.lst ds,.ref l)∈γ) (hit:s.heap.IsListIter it l i) (xf:Ev w s₁ A env ρ f (.val (.builtin "next"))) (ya:Ev w s₁ A env ρ arg (.val (.ref it))) (hl:it≠env.locals) (hk:env.scope.kind=.function) (hl2:env.kindOf x=some .local)
    (hc:eval (.Call f [arg] [] cp) env=(do callWith cp (← eval f env) [] (backTo cp (starEach [arg] env)) [])) (hs:starEach [arg] env=[(false,eval arg env)]) (hsw:swapsWith (.Call f [arg] [] cp) (some (.Name x p)) pos.line env=pure false)
    (item:∀ d s',ds[i]?=some d->s'.heap.IsListIter it l (i+1)->Rel s₁ N X sb env ((x,d)::ρ) γ s'->Xs w A env rest Q E s')
    (fin:ds[i]?=none->∀ s' e t,¬ NewAt s' (.inl it)->Rel s₁ N X sb env ρ γ s'->ExcAt s'.heap "StopIteration" e t .none->IsTup s'.heap t #[]->NewAt s (.inl e)->NewAt s (.inl t)->E (.ref e) s') :
    Xs w A env (.Assign [.Name x p] (.Call f [arg] [] cp) pos::rest) Q E s:=by
  refine xs_cons ⟨wpAny_Assign_Name (ev_next G R hX hN hh hg hit xf ya hc hs (fun d v s' hd hit' R' b=>?_) fin) hsw⟩
  refine R'.storeN b hk hl2 fun s₃ T₃ R₃=>?_
  exact item d s₃ hd (iter_to hit' T₃ fun q=>hl (Sum.inl.inj q)) R₃
theorem new_call (G:GW w s₁) {sc s₀:Shared} {it l a:Addr} {i:Nat} (H:At s₁ sc) (T₀:To no sc s₀) (R:Rel s₁ N (OwnL env it) s₀ env ρ γ s) (hit:s.heap.IsListIter it l i) (h:NewAt s (.inl a)):NewAt sc (.inl a):=by
  have tk:=G.tabOk H
  rcases newAt_back (tk.to T₀) R.to h with q | q | q
  · exact NewAt.to tk T₀ q
  · rcases q with q | ⟨x,c,hk,hc,q⟩
    · obtain ⟨m,hm,_⟩:=R.ns
      exact absurd (q▸h) (ns_there hm)
    · obtain ⟨c',ov,hc',hi,_⟩:=R.cel x _ hk (.inl rfl)
      rw [hc] at hc';cases hc'
      exact absurd (q▸h) (cell_there hi)
  · obtain ⟨o,ho,_⟩:=hit
    exact absurd (q▸h) (there_get ho)
theorem rz_make (G:GW w s₁) {sc s₀ s':Shared} {it l e t:Addr} {i:Nat} {cls:String} {outer:List Env} (H:At s₁ sc) (T₀:To no sc s₀) (hown:∀ l,Own env l->NewAt sc l) (FO:FrOk sc outer) (hit:sc.heap.IsListIter it l i) (hk:env.scope.kind=.function) (hf:env.frame=some env.locals)
    (R:Rel s₁ N (OwnL env it) s₀ env ρ γ s') (there:¬ NewAt s' (.inl it)) (ex:ExcAt s'.heap cls e t .none) (tn:IsTup s'.heap t #[]) (ne:NewAt sc (.inl e)) (nt:NewAt sc (.inl t)):Rz (env::outer) (one it) sc cls e t .none s':=by
  have tk:=G.tabOk H
  obtain ⟨oi,hoi,hci,hdi⟩:=id hit
  have hout:∀ b,frs outer b->¬ OwnL env it (.inl b):=fun b hb q=>by
    obtain ⟨⟨m,hm⟩,_⟩:=FO.ns hb
    rcases q with q | q
    · exact ns_there hm (hown _ q)
    · exact iter_ne_ns hm hit (Sum.inl.inj q)
  have T₁:To (OwnL env it) sc s':=T₀.of_no.trans R.to
  have T₂:To (one it) sc s':=T₁.less fun p hp=>hp.elim (fun q=>.inr (hown _ q)) .inl
  have kp:=kp_iter hit T₂
  have fr:FrOk s' (env::outer):=fun env' he=>by
    rcases List.mem_cons.mp he with rfl | he
    · obtain ⟨m,hm,_⟩:=R.ns
      exact ⟨hk,_,m,hf,hm,R.ltab⟩
    · exact FO.to T₁ hout env' he
  have hfrs:∀ b,frs (env::outer) b->b=env.locals∨frs outer b:=fun b hb=>by
    obtain ⟨env',he,hf'⟩:=frs_iff.mp hb
    rcases List.mem_cons.mp he with rfl | he
    · rw [hf] at hf';cases hf';exact .inl rfl
    · exact .inr (frs_iff.mpr ⟨env',he,hf'⟩)
  refine ⟨T₂.mono fun p hp=>.inl hp,⟨fun b o hb eb=>?_⟩,kp,ex,ne,(fun T q=>nomatch q),⟨nt,tn⟩,fr,tk,fun p hp=>by rw [hp];exact there_get hoi,fun p hp=>by rw [hp];exact there⟩
  rcases hfrs b hb with rfl | hb'
  · have:NewAt sc (.inl env.locals):=hown _ (.inl rfl)
    rw [show sc.heap.get? _=none from this] at eb;cases eb
  · exact (Slo.of_to T₁ (F:=frs outer) fun c hc=>⟨hout c hc,(FO.ns hc).2⟩).k b o hb' eb
end
theorem and63 (b:Int):0≤Builtin.bitAnd b 63∧Builtin.bitAnd b 63<64:=by
  have:=bitAnd_range b (y:=63) (by decide)
  omega
noncomputable def PvR (outer:List Env) (s:Shared) (it l:Addr) (tape:List Int) (o:Option (Int × List Int)) (r:Result) (s':Shared):Prop:=match o with
  | some (v,rest)=>∃ t j,r=.ok (.ret (.int v t))∧To (one it) s s'∧Kp s s'∧s'.heap.IsListIter it l j∧tape.drop j=rest∧j≤tape.length
  | none=>∃ e t T,r=.error (.ref e)∧Rz outer (one it) s "StopIteration" e t (.ref T) s'∧TbAt s'.heap e T .none
inductive VaI (it:Addr) (l:Addr) (tape:List Int) (c:Option (Int × List Int)) (m:Nat) (ρ':List (Str × D)) (s':Shared):Prop
  | mk (val b:Int) (j:Nat) (l1:ρ'.lookup ("iterator" : Str)=some (.val (.ref it))) (l2:ρ'.lookup ("val" : Str)=some (.int val)) (l3:ρ'.lookup ("b" : Str)=some (.int b)) (hit:s'.heap.IsListIter it l j) (hm:j+m=tape.length) (h1:0≤val) (h2:val<2^(6*j)) (h4:pvLoop val b (tape.drop j)=c)
theorem f_varint {w:World} {s₁:Shared} (G:GW w s₁) {n:Nat} {N:Addr->Prop} {A:Around} {sc:Shared} {it l:Addr} {i:Nat} {tape:List Int} {outer:List Env} (hA:Rm (n+1) A) (hh:A.handled=none) (hfr:A.frames=some outer) (FO:FrOk sc outer) (H:At s₁ sc) (nex:Nex N sc)
    (hitc:sc.heap.IsListIter it l i) (hn:NewAt s₁ (.inl it)) (hN:¬ N it) (b:Bears N sc.heap (.lst (tape.map D.int)) (.ref l)) (hz:tape.length≤2^20):codeAny (Mo w) A (.call (.ref 92) ⟨[.ref it],[]⟩) (PvR outer sc it l tape (parseV (tape.drop i))) sc:=by
  refine fn_enterX (args:=[.val (.ref it)]) ["iterator"] G rfl rfl (by kernel_rfl) (fun s vs h=>by obtain ⟨a,rfl⟩:=len1 h;exact BindsTo.of_eq rfl) (by decide) (by decide) (by decide) rfl rfl rfl hA H nex (all_cons bears_val all_nil) fun L s₀ T₀ hA hown K R=>?_
  have hit₀:=iter_to hitc T₀ id
  have hfr':∀ env,(A.deeper env).frames=some (env::outer):=fun env=>by show A.frames.map _=_;rw [hfr];rfl
  replace R:=(R.widen (X':=OwnL _ it) (fun θ h=>.inl h) fun p hp=>hp.elim (R.xnew p) fun q=>by rw [q];exact hn).ghost (γ':=[(.lst (tape.map D.int),.ref l)]) (fun p hp=>by rw [List.mem_singleton] at hp;subst hp;exact b.to T₀)
  have hne:it≠L:=fun q=>by
    obtain ⟨m,hm,_⟩:=R.ns
    exact iter_ne_ns hm hit₀ q.symm
  refine xs_next G R (.inr rfl) hN hh (List.mem_append_left _ (List.mem_singleton.mpr rfl)) hit₀ (ev_bi G K rfl (by kernel_rfl) hv_next rfl) (ev_var K rfl rfl rfl) hne rfl rfl rfl rfl rfl (fun d s₂ hd hit R=>?_) fun hd s₂ e t there R' ex tn ne nt=>?_
  · obtain ⟨b₀,hb₀,rfl⟩:∃ b₀,tape[i]?=some b₀∧d=.int b₀:=by
      rw [List.getElem?_map] at hd
      cases e:tape[i]? with
      | none=>rw [e] at hd;cases hd
      | some b₀=>rw [e] at hd;exact ⟨b₀,rfl,(Option.some.inj hd).symm⟩
    have hdrop:tape.drop i=b₀::tape.drop (i+1):=by
      obtain ⟨hi,e⟩:=List.getElem?_eq_some_iff.mp hb₀
      rw [List.drop_eq_getElem_cons hi,e]
    have hi:i<tape.length:=(List.getElem?_eq_some_iff.mp hb₀).1
    have hpv:parseV (tape.drop i)=pvLoop (Builtin.bitAnd b₀ 63) b₀ (tape.drop (i+1)):=by rw [hdrop];rfl
    refine xs_assignN R (ev_band (ev_var K rfl rfl rfl) ev_int) rfl rfl rfl fun s T R=>?_
    replace hit:=iter_to hit T fun q=>hne (Sum.inl.inj q)
    refine xs_whileE R (VaI it l tape (parseV (tape.drop i)))
      (fun ρ'=>Builtin.bitAnd (intOf ρ' "b") 64 != 0) (tape.length-(i+1)) ⟨_,b₀,i+1,rfl,rfl,rfl,hit,Nat.add_sub_cancel' hi,(and63 b₀).1,?_,hpv.symm⟩ (fun m ρ s s' hI T=>by obtain ⟨val,b,j,l1,l2,l3,i1,h1,h2,h3,h4⟩:=hI;exact ⟨val,b,j,l1,l2,l3,iter_to i1 T id,h1,h2,h3,h4⟩)
      (fun m ρ' s' hI=>?_) (fun m ρ' s' hI hc R=>?_) (fun m ρ' s' hI hc R=>?_)
    · have:=(and63 b₀).2
      have h6:(2:Int)^6≤2^(6*(i+1)):=by
        have:(2:Nat)^6≤2^(6*(i+1)):=Nat.pow_le_pow_right (by decide) (by omega)
        exact_mod_cast this
      have:(2:Int)^6=64:=by decide
      omega +splitNatSub
    · obtain ⟨val,b,j,l1,l2,l3,_⟩:=hI
      have hb:intOf ρ' "b" = b:=by unfold intOf;rw [l3]
      rw [hb]
      exact ts_plain (ev_band (ev_var K rfl l3 rfl) ev_int) tr_int fun θ=>rfl
    · obtain ⟨val,b,j,l1,l2,l3,hit,hm,h1,h2,h4⟩:=hI
      have hb:intOf ρ' "b" = b:=by unfold intOf;rw [l3]
      rw [hb] at hc
      have h64:val*2^6<2^(6*(j+1)):=by
        have e:(2:Int)^(6*(j+1))=2^(6*j)*2^6:=by rw [Nat.mul_add,Int.pow_add]
        rw [e];exact Int.mul_lt_mul_of_pos_right h2 (by decide)
      refine xs_augN R rfl rfl (a:=.int val) l2 ev_int (i_shl (by decide) ?_) fun s T R=>?_
      · have:val.natAbs<2^(6*j):=nabP h1 h2
        have:=bits_le this
        omega
      replace hit:=iter_to hit T fun q=>hne (Sum.inl.inj q)
      refine xs_next G R (.inr rfl) hN hh (List.mem_append_left _ (List.mem_singleton.mpr rfl)) hit (ev_bi G K rfl (by kernel_rfl) hv_next rfl) (ev_var K rfl l1 rfl) hne rfl rfl rfl rfl rfl (fun d s₂ hd hit R=>?_) fun hd s₂ e t there R' ex tn ne nt=>?_
      · obtain ⟨c,hcj,rfl⟩:∃ c,tape[j]?=some c∧d=.int c:=by
          rw [List.getElem?_map] at hd
          cases e:tape[j]? with
          | none=>rw [e] at hd;cases hd
          | some c=>rw [e] at hd;exact ⟨c,rfl,(Option.some.inj hd).symm⟩
        have hdj:tape.drop j=c::tape.drop (j+1):=by
          obtain ⟨hi,e⟩:=List.getElem?_eq_some_iff.mp hcj
          rw [List.drop_eq_getElem_cons hi,e]
        have hj:j<tape.length:=(List.getElem?_eq_some_iff.mp hcj).1
        obtain ⟨c0,c1⟩:=and63 c
        refine xs_augN R rfl rfl (a:=.int (val*2^6)) rfl (ev_band (ev_var K rfl rfl rfl) ev_int) i_or fun s T R=>?_
        replace hit:=iter_to hit T fun q=>hne (Sum.inl.inj q)
        have m0:0<m:=Nat.lt_of_add_lt_add_left (hm.symm▸hj)
        refine xs_nil ⟨m-1,_,Nat.sub_lt m0 Nat.one_pos,?_,R⟩
        refine ⟨_,c,j+1,l1,rfl,rfl,hit,by rw [Nat.add_assoc,Nat.add_sub_cancel' m0];exact hm,?_,?_,?_⟩
        · rw [or_shift h1 c0 c1]
          have:=Int.mul_nonneg h1 (show (0:Int)≤2^6 by decide)
          omega
        · rw [or_shift h1 c0 c1]
          have e:(2:Int)^(6*(j+1))=2^(6*j)*2^6:=by rw [Nat.mul_add,Int.pow_add]
          have:(val+1)*2^6≤2^(6*j)*2^6:=Int.mul_le_mul_of_nonneg_right (by omega) (by decide)
          rw [e]
          rw [Int.add_mul] at this
          have e6:(2:Int)^6=64:=by decide
          omega
        · rw [← h4,hdj,pvLoop,if_pos hc]
      · have hp:parseV (tape.drop i)=none:=by
          rw [List.getElem?_eq_none_iff,List.length_map] at hd
          rw [← h4,List.drop_eq_nil_of_le hd,pvLoop,if_pos hc]
        have z:=rz_make G H T₀ hown FO hitc rfl rfl R' there ex tn (new_call G H T₀ R hit ne) (new_call G H T₀ R hit nt)
        exact Rz.note (by decide) z (hfr' _) rfl (.inl rfl) fun s₃ T z tb=>z.back tb rfl fun s₄ z tb=>z.leaveIn rfl (hown _ (.inl rfl)) tb fun s₅ T z tb=>by
          rw [hp];exact ⟨e,t,T,rfl,z,tb⟩
    · obtain ⟨val,b,j,l1,l2,l3,hit,hm,h1,h2,h4⟩:=hI
      have hb:intOf ρ' "b" = b:=by unfold intOf;rw [l3]
      rw [hb] at hc
      have hp:parseV (tape.drop i)=some (val,tape.drop j):=by
        rw [← h4]
        cases tape.drop j with
        | nil=>rw [pvLoop,if_neg (by rw [hc];decide)]
        | cons c r=>rw [pvLoop,if_neg (by rw [hc];decide)]
      refine xs_nil (xs_return R (ev_var K rfl l2 rfl) fun v s' T b=>?_)
      rw [hp]
      obtain ⟨t,rfl⟩:=of_int b
      have T₁:=(R.to.trans T.of_no)
      have T₂:To (one it) _ s':=(T₀.of_no.trans T₁).less fun p hp=>hp.elim (fun q=>.inr (hown _ q)) .inl
      exact ⟨t,j,rfl,T₂,kp_iter hitc T₂,iter_to hit T id,rfl,by omega⟩
  · have hp:parseV (tape.drop i)=none:=by
      rw [List.getElem?_eq_none_iff,List.length_map] at hd
      rw [List.drop_eq_nil_of_le hd];rfl
    rw [hp]
    have z:=rz_make G H T₀ hown FO hitc rfl rfl R' there ex tn (new_call G H T₀ R hit₀ ne) (new_call G H T₀ R hit₀ nt)
    exact Rz.leave (by decide) z (hfr' _) rfl (hown _ (.inl rfl)) (.inl rfl) fun s₃ T z tb=>⟨e,t,T,rfl,z,tb⟩
noncomputable def Sg (M:Model) (A:Around) (c:Code) (t:Sem Fin) (fs:List Frame) (s:Shared) (P:End->Shared->Prop):Prop:=
  ∀ Γ p,Γ.code=c->Γ.Woken A->∃ e s',Runs M Γ p t fs s e s'∧e.quiet=true∧P e s'
section
variable {M:Model} {A:Around} {c:Code} {fs:List Frame} {s:Shared} {P:End->Shared->Prop}
theorem sg_wrap {α:Type} {m:Sem α} {K:α->Sem Fin} {H:Value->Sem Fin} {gd:Bool->Bool} {lv:List Value->List Value}
    (h:wpAny M (A.over c fs) m (fun a s'=>Sg M A c (K a) fs s' P) (fun x s'=>Sg M A c (H x) fs s' P) s):Sg M A c (m.wrap K H gd lv) fs s P:=by
  rintro Γ p rfl hΓ
  obtain ⟨e,s',hr,hq⟩:=runs_wrap_of_wp (Φ:=fun e s'=>e.quiet=true∧P e s') K H gd lv m (h (Γ.over fs) p (hΓ.over fs)) (fun a p' s' h'=>h' Γ p' rfl hΓ) (fun x p' s' h'=>h' Γ p' rfl hΓ)
  exact ⟨e,s',hr,hq⟩
theorem sg_at {p':Pos} {k:Unit->Sem Fin} (h:Sg M A c (k ()) fs s P):Sg M A c (.at p' k) fs s P:=
  sg_wrap (m:=standAt p') (K:=k) (H:=.raise) (gd:=id) (lv:=id) (wpAny_standAt h)
theorem sg_point {l:List Value} {k:Unit->Sem Fin} (h:Sg M A c (k ()) fs s P):Sg M A c (.point l k) fs s P:=
  sg_wrap (m:=point) (K:=k) (H:=.raise) (gd:=id) (lv:=fun θ=>l) (wpAny_point h)
theorem sg_call {c':Code} {h:Option Value} {g:Bool} {l:List Value} {k:Result->Sem Fin} (hc:∀ p,Sg M A c' (M.den c') (.ret k h g l c p []::fs) s P):Sg M A c (.call c' h g l k) fs s P:=by
  rintro Γ p rfl hΓ
  obtain ⟨e,s',hr,he⟩:=hc p (Γ.goto c') p rfl (hΓ.goto c')
  exact ⟨e,s',runs_call_seg hr,he⟩
theorem sg_leaf {k:Result->Sem Fin} {h:Option Value} {g:Bool} {l:List Value} {c₁:Code} {p₁:Pos} {kp} (r:Result) (hk:Sg M A c₁ (k r) fs s P):Sg M A c (leafOf r) (.ret k h g l c₁ p₁ kp::fs) s P:=by
  rintro Γ p rfl hΓ
  obtain ⟨e,s',hr,he⟩:=hk (Γ.goto c₁) p₁ rfl (hΓ.goto c₁)
  exact ⟨e,s',Runs.pop r hr,he⟩
theorem sg_again {c':Code} (hq:c'.quiet=true) (hc:Sg M A c' (M.den c') fs s P):Sg M A c (.pure (.again c')) fs s P:=by
  rintro Γ p rfl hΓ
  obtain ⟨e,s',hr,he⟩:=hc (Γ.goto c') p rfl (hΓ.goto c')
  exact ⟨e,s',Runs.head (c₁:=c') (fun θ θ x=>.again hq x) hr,he⟩
theorem sg_end (r:Result) (h:P (.ret r) s):Sg M A c (leafOf r) [] s P:=by
  rintro Γ p rfl _
  exact ⟨.ret r,s,Runs.leaf r,rfl,h⟩
theorem sg_yield {v:Value} {l:List Value} {k:Resume->Sem Fin} (hfs:splitAtGen fs=none) (hfg:fs.any Frame.guarded=false) (h:∀ p,P (.susp v false l k c p fs) s):Sg M A c (.yield v false l k) fs s P:=by
  rintro Γ p rfl _
  exact ⟨_,s,Runs.yield' fs hfs,by simp [End.quiet,hfg],h p⟩
end
noncomputable def Gs (w:World) (A:Around) (c:Code) (env:Env) (ss:List Stmt) (K:Flow->Sem Fin) (H:Value->Sem Fin) (fs:List Frame) (s:Shared) (P:End->Shared->Prop):Prop:=Sg (Mo w) A c ((execs ss env).wrap K H id id) fs s P
theorem execs_one (st:Stmt) (env:Env):execs [st] env=exec st env:=by
  rw [execs_cons]
  exact (bind_congr (g:=pure) fun f=>by cases f<;>rfl).trans (bind_pure _)
section
variable {w:World} {s₁ sb s:Shared} {N:Addr->Prop} {A:Around} {c:Code} {env:Env} {ρ:List (Str × D)} {γ:List (D × Value)} {X:Loc->Prop} {fs:List Frame} {P:End->Shared->Prop} {K:Flow->Sem Fin} {H:Value->Sem Fin} {rest:List Stmt}
theorem gs_nil (h:Sg (Mo w) A c (K .next) fs s P):Gs w A c env [] K H fs s P:=h
theorem gs_cons {st:Stmt} (h:Sg (Mo w) A c ((exec st env).wrap (fun f=>match f with | .next=>(execs rest env).wrap K H id id | f=>K f) H id id) fs s P):Gs w A c env (st::rest) K H fs s P:=by
  unfold Gs
  rw [execs_cons_wrap];exact h
theorem gs_xs {st:Stmt} (x:Xs w (A.over c fs) env [st] (fun f s'=>f=.next∧Gs w A c env rest K H fs s' P) (fun θ θ=>False) s):Gs w A c env (st::rest) K H fs s P:=by
  have:=x.run
  rw [execs_one] at this
  refine gs_cons (sg_wrap (wpAny_mono this (fun f s' h=>?_) fun θ θ h=>h.elim))
  obtain ⟨rfl,h⟩:=h
  exact h
theorem gs_if {t:Expr} {b o:List Stmt} {pos:Pos} {cnd:Bool} (R:Rel s₁ N X sb env ρ γ s) (x:Ts w s₁ (A.over c fs) env ρ t cnd)
    (y:cnd=true->∀ s',To no s s'->Rel s₁ N X sb env ρ γ s'->Gs w A c env b (fun f=>match f with | .next=>(execs rest env).wrap K H id id | f=>K f) H fs s' P)
    (z:cnd=false->∀ s',To no s s'->Rel s₁ N X sb env ρ γ s'->Gs w A c env o (fun f=>match f with | .next=>(execs rest env).wrap K H id id | f=>K f) H fs s' P):Gs w A c env (.If t b o pos::rest) K H fs s P:=by
  refine gs_cons ?_
  rw [arm_exec_If]
  show Sg _ A c (.at pos fun θ=>((isTrue t env (eval t env)) >>= fun b'=>if b'=true then execs b env else execs o env).wrap _ H id id) fs s P
  refine sg_at ?_
  rw [Sem.bind_eq_wrap',Sem.wrap_wrap]
  refine sg_wrap (x.use R fun b' s' T e=>?_)
  subst e
  cases b' with
  | true=>exact y rfl s' T (R.step T)
  | false=>exact z rfl s' T (R.step T)
theorem gs_yield {e:Expr} {d:D} {ypos pos:Pos} (R:Rel s₁ N X sb env ρ γ s) (x:Ev w s₁ (A.over c fs) env ρ e d) (hfs:splitAtGen fs=none) (hfg:fs.any Frame.guarded=false)
    (h:∀ v s' l k p,To no s s'->Rel s₁ N X sb env ρ γ s'->Bears N s'.heap d v->(∀ A' P' s'',Gs w A' c env rest K H fs s'' P'->Sg (Mo w) A' c (k (.send .none)) fs s'' P')->P (.susp v false l k c p fs) s')
    (hco:env.scope.isCoroutine=false:=by rfl) (hi:interactive env=false:=by rfl):Gs w A c env (.Expr (.Yield (some e) ypos) pos::rest) K H fs s P:=by
  refine gs_cons ?_
  rw [exec_Expr env _ pos hi rfl]
  show Sg _ A c (.at pos fun θ=>((eval e env >>= fun v=>(standAt ypos >>= fun θ=>yieldOut env v)) >>= fun x=>
    dropValue (.Yield (some e) ypos) pos x).wrap _ H id id) fs s P
  have hy:∀ v,yieldOut env v=yieldValue v:=fun v=>by simp only [yieldOut,hco,Bool.false_eq_true,if_false]
  simp only [hy]
  refine sg_at ?_
  rw [Sem.bind_eq_wrap',Sem.bind_eq_wrap',Sem.wrap_wrap,Sem.wrap_wrap]
  refine sg_wrap (x.use R fun v s' T b=>?_)
  refine sg_at (sg_yield hfs hfg fun p=>h v s' _ _ p T (R.step T) b fun A' P' s'' g=>g)
theorem sg_forTurn {target:Expr} {it:Value} {body:List Stmt} {A:Around} {fs:List Frame} {s:Shared} {P:End->Shared->Prop}
    (h:wpAny (Mo w) (A.over (.forLoop target it body [] env) fs) (pyNext it) (fun r s₁=>match r with
      | none=>Sg (Mo w) A (.block [] env) ((Mo w).den (.block [] env)) fs s₁ P
      | some v=>wpAny (Mo w) (A.over (.forLoop target it body [] env) fs) (letOwnedTupleGo target it v) (fun θ s₂=>wpAny (Mo w) (A.over (.forLoop target it body [] env) fs) (assign target env v) (fun θ s₃=>
          ∀ H,Gs w A (.forLoop target it body [] env) env body (fun f=>match f with
            | .next | .cont=>.pure (.again (.forLoop target it body [] env))
            | .brk=>.pure (.done .next)
            | .ret v=>.pure (.done (.ret v))) H fs s₃ P) (fun θ θ=>False) s₂) (fun θ θ=>False) s₁) (fun θ θ=>False) s) :
    Sg (Mo w) A (.forLoop target it body [] env) ((Mo w).den (.forLoop target it body [] env)) fs s P:=by
  show Sg _ A _ ((forTurn target it body [] env).onRaise (fun x=>do noteFrame x env;theTreesLotGoes x)) fs s P
  unfold forTurn
  rw [Sem.onRaise_eq_wrap]
  refine sg_at ?_
  show Sg _ A _ (Sem.wrap .pure _ id id ((pyNext it).onRaise _ >>= _)) fs s P
  rw [Sem.bind_eq_wrap',Sem.wrap_wrap]
  refine sg_wrap (wpAny_onRaise (wpAny_mono h (fun r s₁ h₁=>?_) fun θ θ h=>h.elim))
  cases r with
  | none=>exact sg_again rfl h₁
  | some v=>
    show Sg _ A _ (Sem.wrap _ _ _ _ (letOwnedTupleGo target it v >>= _)) fs s₁ P
    rw [Sem.bind_eq_wrap',Sem.wrap_wrap]
    refine sg_wrap (wpAny_mono h₁ (fun θ s₂ h₂=>?_) fun θ θ h=>h.elim)
    rw [Sem.bind_eq_wrap',Sem.wrap_wrap]
    refine sg_wrap (wpAny_mono h₂ (fun θ s₃ h₃=>?_) fun θ θ h=>h.elim)
    rw [Sem.bind_eq_wrap',Sem.wrap_wrap]
    rw [Sem.wrap_congr (execs body env) _ _ (K':=fun f=>match f with
            | .next | .cont=>.pure (.again (.forLoop target it body [] env))
            | .brk=>.pure (.done .next)
            | .ret v=>.pure (.done (.ret v))) (fun f=>by cases f<;>rfl) (fun e=>rfl)]
    exact h₃ _
theorem sg_block_nil {A:Around} {k:Result->Sem Fin} {hd:Option Value} {g:Bool} {l:List Value} {c₁:Code} {p₁:Pos} {kp} {fs:List Frame} {s:Shared} {P:End->Shared->Prop} (h:Sg (Mo w) A c₁ (k (.ok .next)) fs s P) :
    Sg (Mo w) A (.block [] env) ((Mo w).den (.block [] env)) (.ret k hd g l c₁ p₁ kp::fs) s P:=sg_leaf (.ok .next) h
theorem gs_for {target iter:Expr} {body:List Stmt} {pos:Pos} {A:Around} {PI:Value->Shared->Prop}
    (x:wpAny (Mo w) (A.over c fs) (eval iter env) (fun v s₁=>wpAny (Mo w) (A.over c fs) (pyIter v) (fun it s₂=>∀ k p,(∀ A' P' s'',Gs w A' c env rest K H fs s'' P'->Sg (Mo w) A' c (k (.ok .next)) fs s'' P') ->
      Sg (Mo w) A (.forLoop target it body [] env) ((Mo w).den (.forLoop target it body [] env)) (.ret k none false [] c p []::fs) s₂ P) (fun θ θ=>False) s₁) (fun θ θ=>False) s)
    (hf:∀ x,foldedSetIterable iter env x=pure x):Gs w A c env (.For target iter body [] pos::rest) K H fs s P:=by
  refine gs_cons ?_
  rw [exec_For]
  refine sg_at ?_
  show Sg _ A c (Sem.wrap _ H id id (eval iter env >>= _)) fs s P
  rw [Sem.bind_eq_wrap',Sem.wrap_wrap]
  refine sg_wrap (wpAny_mono x (fun v s₁ h₁=>?_) fun θ θ h=>h.elim)
  rw [hf,pure_bind]
  refine sg_at ?_
  show Sg _ A c (Sem.wrap _ H id id (holding [v] (pyIter v) >>= _)) fs s₁ P
  rw [Sem.bind_eq_wrap',Sem.wrap_wrap]
  refine sg_wrap (wpAny_holding (wpAny_mono h₁ (fun it s₂ h₂=>?_) fun θ θ h=>h.elim))
  exact sg_call fun p=>h₂ _ p fun A' P' s'' g=>g
theorem sg_func {body:List Stmt} {A:Around} {fs:List Frame} {s:Shared} {P:End->Shared->Prop} (h:∀ H,Gs w A (.func body env) env body (fun f=>.pure (.done (.ret (match f with | .ret v=>v | _=>.none)))) H fs s P) :
    Sg (Mo w) A (.func body env) ((Mo w).den (.func body env)) fs s P:=by
  show Sg _ A _ (.point [] fun θ=>((execs body env).onRaise (leaving env)) >>= _) fs s P
  refine sg_point ?_
  rw [Sem.onRaise_eq_wrap,Sem.bind_eq_wrap',Sem.wrap_wrap]
  rw [Sem.wrap_congr (execs body env) _ _ (K':=fun f=>.pure (.done (.ret (match f with | .ret v=>v | _=>.none))))
    (H':=fun e=>(leaving env e).wrap (fun θ=>.raise e) .raise id id) (fun f=>by cases f<;>rfl)
    (fun e=>by rw [Sem.bind_eq_wrap,Sem.wrap_wrap];rfl)]
  exact h _
end
noncomputable def Goes (M:Model) (A:Around) (gs:GenState) (s:Shared) (P:End->Shared->Prop):Prop:=
  match gs with
  | .fresh c=>Sg M A c (M.den c) [] s P
  | .suspended k _ c _ fs _=>Sg M A c (k (.send .none)) fs s P
  | _=>False
theorem resume_ {M:Model} {A:Around} {E:Value->Shared->Prop} {s:Shared} {g:Nat} {gs:GenState} {l:List Value} {α:Type} {k:GenResult->Sem α} {Q:α->Shared->Prop} {P:End->Shared->Prop} (hg:s.gens[g]?=some gs)
    (hgo:Goes M A gs (s.setGen g .running) P) (hP:∀ e s₁,e.quiet=true->P e s₁->wpAny M A (k e.result) Q E (s₁.setGen g e.genState)):wpAny M A (.resume g (.send .none) l k) Q E s:=by
  intro Γ p hΓ
  rw [Sem.wp_resume]
  have hB:∀ c,(Γ.wake c p).Woken A:=fun c=>hΓ.wake c p
  cases gs with
  | fresh c=>
    obtain ⟨e₁,s₁,hr,hqt,he⟩:=hgo (Γ.wake c p) p rfl (hB c)
    exact ⟨_,_,by unfold Wakes;rw [hg];exact ⟨e₁,s₁,hr,hqt,rfl,rfl⟩,hP e₁ s₁ hqt he Γ p hΓ⟩
  | suspended k₀ l₀ c₀ p₀ fs₀ cl=>
    obtain ⟨e₁,s₁,hr,hqt,he⟩:=hgo (Γ.wake c₀ p) p₀ rfl (hB c₀)
    exact ⟨_,_,by unfold Wakes;rw [hg];exact ⟨e₁,s₁,hr,hqt,rfl,rfl⟩,hP e₁ s₁ hqt he Γ p hΓ⟩
  | running=>exact hgo.elim
  | finished=>exact hgo.elim
theorem next_gen {w:World} {A:Around} {E:Value->Shared->Prop} {s:Shared} {a:Addr} {g:Nat} {gs:GenState} {Q:Option Value->Shared->Prop} {P:End->Shared->Prop} (hh:A.handled=none) (hl:s.heap.NoLimit) (hroom:A.depth<recursionLimit) (hg:s.heap.IsGen a g) (hgs:s.gens[g]?=some gs)
    (hgo:Goes (Mo w) A.in1 gs (s.setGen g .running) P)
    (hY:∀ e s₁,e.quiet=true->P e s₁->match e with
      | .susp v _ _ _ _ _ _=>Q (some v) (s₁.setGen g e.genState)
      | .ret r=>r=.ok (.ret .none)∧∀ h',(∀ b o,s₁.heap.get? b=some o->h'.get? b=some o)->Q none { s₁.setGen g .finished with heap:=h' }) :
    wpAny (Mo w) A (pyNext (.ref a)) Q E s:=by
  unfold pyNext
  refine wpAny_bind (wpAny_attempt (wpAny_callSpecial?_slot (name:=Str.ofString "__next__") hg.typeIs slot_gen_next
    (wpAny_call_entry slot_gen_next hg.typeIs entry_gen_next ?_ (args_gen_next _))))
  show wpAny _ _ (Builtin.Generator.genWake (.ref a) (.send .none)) _ _ s
  unfold Builtin.Generator.genWake
  refine wpAny_bind (wpAny_holding (wpAny_genNumber hg (wpAny_bind (wpAny_genState hgs ?_))))
  cases gs with
  | running=>exact hgo.elim
  | finished=>exact hgo.elim
  | _=>
    refine wpAny_bind (wpAny_roomToWake hl hroom ?_)
    show wpAny _ _ (.resume g (.send .none) [] _) _ _ s
    refine resume_ hgs hgo fun e s₁ hq hp=>?_
    have hy:=hY e s₁ hq hp
    cases e with
    | ret r=>
      obtain ⟨rfl,hz⟩:=hy
      show wpAny _ _ (newExc (.type "StopIteration") [] >>= _) _ _ _
      refine wpAny_bind ?_
      simp only [newExc,newTuple]
      refine wpAny_bind (wpAny_newObj_type ?_ (by size_fits))
      refine wpAny_bind (m:=firstArgMember _ _) (wpAny_of_eq (a:=Value.none) (by first | rfl | (simp only [firstArgMember];rfl)) ?_)
      refine wpAny_newObj_type ?_ (by size_fits)
      simp only [raiseNew]
      refine wpAny_bind (wpAny_bind (wpAny_handled ?_))
      rw [show A.in1.handled=none from hh]
      refine wpAny_throw ?_
      refine wpAny_bind (wpAny_isInstance (T := "StopIteration") (b:=true) ⟨_,Heap.get?_push_size _ rfl,rfl⟩ isSubtype_stop ?_)
      exact wpAny_pure (hz _ fun b o hb=>Heap.get?_push_of_some _ (Heap.get?_push_of_some _ hb))
    | susp v g₀ l₀ k₀ c₀ p₀ fs₀=>exact wpAny_pure ⟨v,rfl,wpAny_pure hy⟩
section
variable (w:World) (s₁:Shared) (N:Addr->Prop) (n g:Nat)
noncomputable def GP (G:List D->(Loc->Prop)->GenState->Shared->Prop) (ds:List D) (fp:Loc->Prop) (s₀:Shared):End->Shared->Prop:=fun e s=>To fp s₀ s∧Kp s₀ s∧match ds with
  | []=>e=.ret (.ok (.ret .none))
  | d::r=>∃ v l k c p fs fp',e=.susp v false l k c p fs∧(∀ l,fp' l->fp l∨NewAt s₀ l)∧Bears N s.heap d v∧G r fp' e.genState (s.setGen g e.genState)
noncomputable def GSt:List D->(Loc->Prop)->GenState->Shared->Prop
  | [],fp,gs,s=>∀ A X s',Rm n A->A.handled=none->At s₁ s'->To X s s'->Dis X fp->Nex N s'->¬ NewAt s' (.inr g)->Goes (Mo w) A gs (s'.setGen g .running) fun e s''=>To fp (s'.setGen g .running) s''∧Kp (s'.setGen g .running) s''∧e=.ret (.ok (.ret .none))
  | d::r,fp,gs,s=>∀ A X s',Rm n A->A.handled=none->At s₁ s'->To X s s'->Dis X fp->Nex N s'->¬ NewAt s' (.inr g)->Goes (Mo w) A gs (s'.setGen g .running) fun e s''=>To fp (s'.setGen g .running) s''∧Kp (s'.setGen g .running) s'' ∧
      ∃ v l k c p fs fp',e=.susp v false l k c p fs∧(∀ l,fp' l->fp l∨NewAt (s'.setGen g .running) l)∧Bears N s''.heap d v∧GSt r fp' e.genState (s''.setGen g e.genState)
end
section
variable {w:World} {s₁:Shared} {N:Addr->Prop} {n g:Nat}
theorem gst_iff {ds:List D} {fp:Loc->Prop} {gs:GenState} {s:Shared}:GSt w s₁ N n g ds fp gs s↔∀ A X s',Rm n A->A.handled=none->At s₁ s'->To X s s'->Dis X fp->Nex N s'->¬ NewAt s' (.inr g)->Goes (Mo w) A gs (s'.setGen g .running) (GP N g (GSt w s₁ N n g) ds fp (s'.setGen g .running)):=by
  cases ds<;>exact Iff.rfl
noncomputable def oneG (g:Nat):Loc->Prop:=fun l=>l=.inr g
theorem to_setGen {X:Loc->Prop} {s:Shared} {g:Nat} {x:GenState} (hX:X (.inr g)) (hb:x.bare=true):To X s (s.setGen g x):=
  ⟨fun θ θ θ θ e=>e,fun θ θ vs e=>⟨#[],by rw [Array.append_empty];exact e,.nil⟩,fun θ θ θ e=>e,fun g' x' hg e=>by
    have:g'≠g:=fun q=>hg (q▸hX)
    show (s.gens.setIfInBounds g x)[g']?=_
    rw [Array.getElem?_setIfInBounds_ne (Ne.symm this)];exact e,fun h y hy=>by
    have hy':y∈s.gens.setIfInBounds g x:=hy
    obtain ⟨i,hi,rfl⟩:=Array.mem_iff_getElem.mp hy'
    by_cases e:i=g
    · subst e;simpa using hb
    · rw [Array.getElem_setIfInBounds_ne (by simpa using hi) (Ne.symm e)]
      exact h _ (Array.getElem_mem (by simpa using hi)),rfl⟩
theorem kp_setGen {s:Shared} {g:Nat} {x:GenState}:Kp s (s.setGen g x):=⟨fun b=>b⟩
theorem setGen_get {s:Shared} {g:Nat} {x y:GenState} (h:s.gens[g]?=some x):(s.setGen g y).gens[g]?=some y:=by
  show (s.gens.setIfInBounds g y)[g]?=_
  obtain ⟨hi,_⟩:=Array.getElem?_eq_some_iff.mp h
  rw [Array.getElem?_setIfInBounds_self_of_lt hi]
noncomputable def GenFp (a:Addr) (g:Nat) (fp:Loc->Prop):Loc->Prop:=fun l=>l=.inl a∨l=.inr g∨fp l
theorem newAt_setGen {s:Shared} {g:Nat} {x y:GenState} (hg:s.gens[g]?=some y) {l:Loc} (h:NewAt (s.setGen g x) l):NewAt s l:=by
  cases l with
  | inl a=>exact h
  | inr g'=>
    show s.gens[g']?=none
    by_cases e:g'=g
    · subst e
      have:(s.setGen g' x).gens[g']?=none:=h
      rw [setGen_get hg] at this;cases this
    · have h':(s.gens.setIfInBounds g x)[g']?=none:=h
      rwa [Array.getElem?_setIfInBounds_ne (Ne.symm e)] at h'
theorem yld_gen (G:GW w s₁) {tg:Expr->Prop} {a:Addr}:∀ (ds:List D) (fp:Loc->Prop) (gs:GenState) (s:Shared),GSt w s₁ N n g ds fp gs s->s.heap.IsGen a g->s.gens[g]?=some gs->¬ fp (.inl a)->¬ fp (.inr g) ->
    Yld w s₁ N (n+1) tg [] ds (.ref a) (GenFp a g fp) s
  | [],fp,gs,s,y,hg,hgs,ha,hgf=>fun A X s' hA hh H T hD nx θ=>by
    have hg':s'.heap.IsGen a g:=by
      obtain ⟨o,nm,qn,ho,hc,r⟩:=hg
      exact ⟨o,nm,qn,kept_get T (fun q=>hD _ q (.inl rfl)) ho hc,hc,r⟩
    have hgs':s'.gens[g]?=some gs:=T.gkeep g gs (fun q=>hD _ q (.inr (.inl rfl))) hgs
    have go:=gst_iff.mp y A.in1 X s' hA.in1 hh H T (fun l q f=>hD l q (.inr (.inr f))) nx (fun q=>by rw [show s'.gens[g]?=none from q] at hgs';cases hgs')
    refine next_gen hh (G.nolimit H) hA.lt hg' hgs' go fun e s₂ hq hp=>?_
    obtain ⟨T₂,K₂,rfl⟩:=hp
    refine ⟨rfl,fun h' hk=>⟨rfl,?_,?_⟩⟩
    · refine (((to_setGen (.inr (.inl rfl)) rfl).trans (T₂.mono fun l h=>.inr (.inr h))).trans (to_setGen (.inr (.inl rfl)) rfl)).trans (To.heap (s:=s₂.setGen g .finished) (t:=s₂.toks) hk)
    · exact (kp_setGen.trans K₂).trans (kp_setGen.trans (Kp.of_to (To.heap (s:=s₂.setGen g .finished) (t:=s₂.toks) hk)))
  | d::r,fp,gs,s,y,hg,hgs,ha,hgf=>fun A X s' hA hh H T hD nx θ=>by
    have hg':s'.heap.IsGen a g:=by
      obtain ⟨o,nm,qn,ho,hc,r⟩:=hg
      exact ⟨o,nm,qn,kept_get T (fun q=>hD _ q (.inl rfl)) ho hc,hc,r⟩
    have hgs':s'.gens[g]?=some gs:=T.gkeep g gs (fun q=>hD _ q (.inr (.inl rfl))) hgs
    have go:=gst_iff.mp y A.in1 X s' hA.in1 hh H T (fun l q f=>hD l q (.inr (.inr f))) nx (fun q=>by rw [show s'.gens[g]?=none from q] at hgs';cases hgs')
    refine next_gen hh (G.nolimit H) hA.lt hg' hgs' go fun e s₂ hq hp=>?_
    obtain ⟨T₂,K₂,v,l,k,c,p,fs,fp',rfl,hfp,b,y'⟩:=hp
    have hb:=End.bare_of_quiet hq
    have hgr:s₂.gens[g]?=some .running:=T₂.gkeep g _ hgf (setGen_get hgs')
    have T₃:To (GenFp a g fp) s' (s₂.setGen g (End.susp v false l k c p fs).genState):=((to_setGen (.inr (.inl rfl)) rfl).trans (T₂.mono fun l h=>.inr (.inr h))).trans (to_setGen (.inr (.inl rfl)) hb)
    refine ⟨v,GenFp a g fp',rfl,T₃,(kp_setGen.trans K₂).trans kp_setGen,fun l hl=>?_,b,fun target θ=>?_⟩
    · rcases hl with h | h | h
      · exact .inl (.inl h)
      · exact .inl (.inr (.inl h))
      · exact (hfp l h).elim (fun q=>.inl (.inr (.inr q))) fun q=>.inr (newAt_setGen hgs' q)
    · have hg₂:(s₂.setGen g (End.susp v false l k c p fs).genState).heap.IsGen a g:=by
        obtain ⟨o,nm,qn,ho,hc,r⟩:=hg'
        exact ⟨o,nm,qn,kept_get (s:=s'.setGen g .running) T₂ ha ho hc,hc,r⟩
      have hnew:∀ l,fp' l->fp l∨NewAt s' l:=fun l h=>(hfp l h).imp id fun q=>newAt_setGen hgs' q
      obtain ⟨o,nm,qn,ho,hc,r'⟩:=id hg₂
      refine lot_none ho hc (by decide) ⟨To.refl _ _,Kp.refl _,yld_gen G r fp' _ _ y' hg₂ (setGen_get hgr) (fun q=>?_) fun q=>?_⟩
      · rcases hnew _ q with q | q
        · exact ha q
        · obtain ⟨o,nm,qn,ho,_⟩:=hg'
          exact there_get ho q
      · rcases hnew _ q with q | q
        · exact hgf q
        · have q':s'.gens[g]?=none:=q
          rw [hgs'] at q';cases q'
end
noncomputable def Flat:D->Prop
  | .tup _=>False
  | .lst _=>False
  | _=>True
theorem Flat.any {N N':Addr->Prop} {h h':Heap}:∀ {d:D} {v:Value},Flat d->Bears N h d v->Bears N' h' d v
  | .none,_,_,x=>by unfold Bears at *;exact x
  | .bool _,_,_,x=>by unfold Bears at *;exact x
  | .int _,_,_,x=>by unfold Bears at *;exact x
  | .str _,_,_,x=>by unfold Bears at *;exact x
  | .val _,_,_,x=>by unfold Bears at *;exact x
section
variable {w:World} {s₁ sb s:Shared} {N:Addr->Prop} {env:Env} {ρ:List (Str × D)} {X:Loc->Prop}
theorem Rel.resume {N':Addr->Prop} {Y:Loc->Prop} {s':Shared} {γ:List (D × Value)} (R:Rel s₁ N X sb env ρ γ s) (hf:∀ x d,ρ.lookup x=some d->Flat d) (hc:∀ x k,env.kindOf x=some k->k≠.cell∧k≠.free) (T:To Y s s') (hY:¬ Y (.inl env.locals)) (H:At s₁ s') (nx:Nex N' s'):Rel s₁ N' X s' env ρ [] s' where
  inv:=H
  to:=To.refl _ _
  xnew:=R.xnew
  xloc:=R.xloc
  ns:=by
    obtain ⟨m,h,k⟩:=R.ns
    exact ⟨m,ns_to' T hY R.ltab h,fun y d hk hl=>let ⟨v,e,b⟩:=k y d hk hl;⟨v,e,(hf y d hl).any b⟩⟩
  cel:=fun y k hk hq=>(hq.elim (hc y k hk).1 (hc y k hk).2).elim
  apart:=R.apart
  ltab:=R.ltab
  gh:=fun p hp=>nomatch hp
  nex:=nx
  tabs:=R.tabs.to T
end
noncomputable def escD:Nat->Bool->List Nat->List D
  | i,esc,[]=>if esc then [.tup [.int ((i:Int)-1),.str ⟨#[92]⟩]] else []
  | i,esc,c::r=>if esc then .tup [.int i,.str ⟨#[92,c]⟩]::escD (i+1) false r else if c==92 then escD (i+1) true r else .tup [.int i,.str ⟨#[c]⟩]::escD (i+1) false r
noncomputable def escDef:List Stmt × Scope:=match (prog.main.body[1]?:Option Stmt) with
  | some (.FunctionDef _ _ body _ _ _ scope _ _ _)=>(body,scope)
  | _=>([],default)
noncomputable def escFor:(Expr × Expr × List Stmt) × List Stmt:=match escDef.1 with
  | _::_::.For t i b _ _::r=>((t,i,b),r)
  | _=>((.Constant .none 0 default,.Constant .none 0 default,[]),[])
noncomputable abbrev escEnv (L:Addr):Env:=envOfC "_iter_escaped_chars" escDef.2 L 21 (.ref 20)
noncomputable abbrev escKind (f:Flow):Sem PySem.Fin:=.pure (.done (.ret (match f with | .ret v=>v | _=>.none)))
theorem esc_nocell:∀ x k,(escEnv 0).kindOf x=some k->k≠.cell∧k≠.free:=by
  intro x k h
  have h':escDef.2.names.lookup x=some k:=h
  have:=mem_of_lookup h'
  have key:∀ p,p∈escDef.2.names->p.2≠.cell∧p.2≠.free:=by decide
  exact key _ this
section
variable {w:World} {s₁:Shared} {N:Addr->Prop} {n g:Nat}
theorem rm_loop {A:Around} {env:Env} {body:List Stmt} {t:Expr} {it:Value} {b o:List Stmt} {k:Result->Sem PySem.Fin} {p:Pos} {m:Nat} (hA:Rm (m+1) A):Rm m (A.over (.forLoop t it b o env) [.ret k none false [] (.func body env) p []]):=by
  refine ⟨?_,?_⟩
  · have:=hA.d
    show A.depth+frameCount [(.func body env,p)]+(Code.forLoop t it b o env).weight+m≤1000
    rw [frameCount_cons]
    show A.depth+(1+0)+0+m≤1000
    omega
  · have:=hA.u
    show A.units+unitsOf [(.func body env,p)]+(Code.forLoop t it b o env).cUnits+4*m≤9900
    rw [unitsOf_cons]
    show A.units+(3+0)+0+4*m≤9900
    omega
theorem hh_loop {A:Around} {env:Env} {body:List Stmt} {c:Code} {k:Result->Sem PySem.Fin} {p:Pos} (hh:A.handled=none):(A.over c [.ret k none false [] (.func body env) p []]).handled=none:=by
  show (marksOver [.ret k none false [] (.func body env) p []] (A.handled,A.handled)).1=none
  rw [hh];rfl
theorem Rel.turn (G:GW w s₁) {F X' X:Loc->Prop} {sb s s':Shared} {env:Env} {ρ:List (Str × D)} (R:Rel s₁ N X sb env ρ [] s) (T:To F s s') (K:Kp s s') (hX:∀ l,X l->X' l) (hF:∀ l,F l->X' l) (hn:∀ l,X' l->NewAt s₁ l) (hL:¬ F (.inl env.locals)) (hc:∀ x k,env.kindOf x=some k->k≠.cell∧k≠.free) (hN:∀ a,N a->¬ F (.inl a)):Rel s₁ N X' sb env ρ [] s':=
  R.after (F:=fun θ=>False) T K ⟨fun θ θ q=>q.elim⟩ hX (fun l h=>.inl (hF l h)) hn (fun q=>absurd q hL) (fun x c k hk hq θ=>(hq.elim (hc x k hk).1 (hc x k hk).2).elim) hN
theorem newAt_setGen' {s:Shared} {x:GenState} (h:NewAt (s.setGen g x) (.inr g)):NewAt s (.inr g):=by
  cases e:s.gens[g]? with
  | none=>exact e
  | some y=>exact newAt_setGen e h
theorem Rel.narrow {X:Loc->Prop} {sb s:Shared} {env:Env} {ρ:List (Str × D)} {γ:List (D × Value)} (R:Rel s₁ N X sb env ρ γ s):Rel s₁ N (one env.locals) s env ρ γ s:={ R with to:=To.refl _ _,xnew:=fun l hl=>by rw [hl];exact R.xnew _ R.xloc,xloc:=rfl }
theorem Rel.rejoin {X:Loc->Prop} {sb s s':Shared} {env:Env} {ρ ρ':List (Str × D)} {γ γ':List (D × Value)} (R:Rel s₁ N X sb env ρ γ s) (R':Rel s₁ N (one env.locals) s env ρ' γ' s'):Rel s₁ N X sb env ρ' γ' s':=R.back (R'.widen (fun l hl=>by rw [hl];exact R.xloc) R.xnew)
theorem esc_nocell' {L:Addr}:∀ x k,(escEnv L).kindOf x=some k->k≠.cell∧k≠.free:=esc_nocell
theorem esc_loop (G:GW w s₁) {L e:Addr} (K₀:EnvOk (escEnv L)) {H₀:Value->Sem PySem.Fin} {m:Nat} (hn:n=m+1) (hg₁:NewAt s₁ (.inr g)) :
    ∀ (cs:List Nat) (i:Nat) (esc:Bool) (A:Around) (X₀ X F:Loc->Prop) (ρ:List (Str × D)) (s₀ s:Shared) (k:Result->Sem PySem.Fin) (p:Pos),Rm n A->A.handled=none->TabOk s₀->Rel s₁ N X s₀ (escEnv L) ρ [] s->Kp s₀ s->(∀ x d,ρ.lookup x=some d->Flat d) ->
      (ρ.lookup ("escape" : Str)=some (.bool esc)∧(esc=true->ρ.lookup ("pos" : Str)=some (.int ((i:Int)-1))))->Yld w s₁ N m isTup [] (enumD i (cs.map fun c=>D.str ⟨#[c]⟩)) (.ref e) F s->(∀ l,F l->X l)->¬ F (.inl L)->(∀ a,N a->¬ F (.inl a))->(∀ l,X l->X₀ l∨NewAt s₀ l)->¬ X (.inr g)->¬ NewAt s₀ (.inr g) ->
      (∀ A' P' s'',Gs w A' (.func escDef.1 (escEnv L)) (escEnv L) escFor.2 escKind H₀ [] s'' P'->Sg (Mo w) A' (.func escDef.1 (escEnv L)) (k (.ok .next)) [] s'' P') ->
      Sg (Mo w) A (.forLoop escFor.1.1 (.ref e) escFor.1.2.2 [] (escEnv L)) ((Mo w).den (.forLoop escFor.1.1 (.ref e) escFor.1.2.2 [] (escEnv L))) [.ret k none false [] (.func escDef.1 (escEnv L)) p []] s (GP N g (GSt w s₁ N n g) (escD i esc cs) X₀ s₀)
  | [],i,esc,A,X₀,X,F,ρ,s₀,s,k,p,hA,hh,tk,R,K,hfl,⟨hesc,hpos⟩,y,hFX,hFL,hFN,hX0,hXg,hg0,hk=>by
    have hA':=hn▸hA
    refine sg_forTurn (wpAny_mono (y _ no s (rm_loop hA') (hh_loop hh) R.inv (To.refl _ _) (fun θ h=>h.elim) R.nex (fun p hp=>nomatch hp)) (fun r s' h=>?_) fun θ θ h=>h.elim)
    obtain ⟨rfl,T,K'⟩:=h
    have R':Rel s₁ N X s₀ (escEnv L) ρ [] s':=R.turn G T K' (fun θ h=>h) hFX R.xnew hFL esc_nocell' hFN
    refine sg_block_nil (hk A _ s' ?_)
    refine gs_if (c:=.func escDef.1 (escEnv L)) R' (ts_plain (ev_var K₀ rfl hesc rfl) tr_bool (fun θ=>rfl)) (fun hc s T₂ R=>?_) (fun hc s T₂ R=>?_)
    · subst hc
      refine gs_yield R (ev_tuple (evs_cons (ev_var K₀ rfl (hpos rfl) rfl) (evs_cons ev_str evs_nil)) (Nat.le_of_ble_eq_true rfl)) rfl rfl (fun v s₂ l k p T₃ R₃ b hk=>?_) rfl rfl
      refine ⟨R₃.to.less hX0,(K.trans K').trans ((Kp.of_to T₂).trans (Kp.of_to T₃)),v,_,_,_,_,_,X,rfl,hX0,b,?_⟩
      refine gst_iff.mpr fun A₂ Y s₃ hA₂ hh₂ H T₄ hD nx ng=>?_
      refine hk A₂ _ _ (gs_nil (gs_nil (sg_end (.ok (.ret .none)) ⟨To.refl _ _,Kp.refl _,rfl⟩)))
    · subst hc
      exact gs_nil (gs_nil (sg_end (.ok (.ret .none)) ⟨R.to.less hX0,(K.trans K').trans (Kp.of_to T₂),rfl⟩))
  | c::cs,i,esc,A,X₀,X,F,ρ,s₀,s,k,p,hA,hh,tk,R,K,hfl,⟨hesc,hpos⟩,y,hFX,hFL,hFN,hX0,hXg,hg0,hk=>by
    have hA':=hn▸hA
    refine sg_forTurn (wpAny_mono (y _ no s (rm_loop hA') (hh_loop hh) R.inv (To.refl _ _) (fun θ h=>h.elim) R.nex (fun p hp=>nomatch hp)) (fun r s' h=>?_) fun θ θ h=>h.elim)
    obtain ⟨v,fp',rfl,T,K',hfp,b,lot⟩:=h
    have R':Rel s₁ N X s₀ (escEnv L) ρ [] s':=R.turn G T K' (fun θ h=>h) hFX R.xnew hFL esc_nocell' hFN
    have hFL':¬ fp' (.inl L):=fun q=>(hfp _ q).elim hFL fun q=>by
      obtain ⟨mm,hm,_⟩:=R.ns
      exact ns_there hm q
    have hFN':∀ a,N a->¬ fp' (.inl a):=fun a ha q=>(hfp _ q).elim (hFN a ha) (R.nex a ha)
    refine wpAny_mono (lot escFor.1.1 ⟨_,_,_,rfl⟩) (fun θ s₃ h₃=>?_) fun θ θ h=>h.elim
    obtain ⟨T₃,K₃,y₃⟩:=h₃
    have hX1:∀ l,(X l∨fp' l)->X₀ l∨NewAt s₀ l:=fun l h=>by
      rcases h with h | h
      · exact hX0 l h
      · rcases hfp l h with h | h
        · exact hX0 l (hFX l h)
        · exact (newAt_back tk R.to h).elim .inr fun q=>hX0 l q
    have R₃:Rel s₁ N (fun l=>X l∨fp' l) s₀ (escEnv L) ρ [] s₃:=R'.turn G T₃ K₃ (fun θ h=>.inl h) (fun θ h=>.inr h) (fun l h=>h.elim (R.xnew l) fun q=>(hfp l q).elim (fun q=>R.xnew l (hFX l q)) fun q=>At.of_new G R.inv q) hFL' esc_nocell' hFN'
    have hA₂:Rm m (A.over (.forLoop escFor.1.1 (.ref e) escFor.1.2.2 [] (escEnv L)) [.ret k none false [] (.func escDef.1 (escEnv L)) p []]):=rm_loop hA'
    have hh₂:(A.over (.forLoop escFor.1.1 (.ref e) escFor.1.2.2 [] (escEnv L)) [.ret k none false [] (.func escDef.1 (escEnv L)) p []]).handled=none:=hh_loop hh
    have b₃:Bears N s₃.heap (.tup [.int i,.str ⟨#[c]⟩]) v:=K₃.k b
    have hXg':¬ (X (.inr g)∨fp' (.inr g)):=fun q=>q.elim hXg fun q=>(hfp _ q).elim (fun q=>hXg (hFX _ q)) fun q=>(newAt_back tk R.to q).elim hg0 hXg
    have Rn:=R₃.narrow
    have hflat:∀ ρ':List (Str × D),(∀ p,p∈ρ'->Flat p.2)->∀ x d,(ρ'++ρ).lookup x=some d->Flat d:=fun ρ' h x d e=>by
      rw [List.lookup_append] at e
      cases e':ρ'.lookup x with
      | none=>rw [e'] at e;exact hfl x d e
      | some d'=>rw [e'] at e;cases e;exact h _ (mem_of_lookup e')
    have on:∀ ρ' s₅ esc',(∀ x d,ρ'.lookup x=some d->Flat d)->Rel s₁ N (one L) s₃ (escEnv L) ρ' [] s₅->Kp s₃ s₅->ρ'.lookup ("escape" : Str)=some (.bool esc')->ρ'.lookup ("pos" : Str)=some (.int i) ->
        Sg (Mo w) A (.forLoop escFor.1.1 (.ref e) escFor.1.2.2 [] (escEnv L)) (.pure (.again (.forLoop escFor.1.1 (.ref e) escFor.1.2.2 [] (escEnv L)))) [.ret k none false [] (.func escDef.1 (escEnv L)) p []] s₅ (GP N g (GSt w s₁ N n g) (escD (i+1) esc' cs) X₀ s₀):=fun ρ' s₅ esc' hf R₅ K₅ l1 l2=>
      sg_again rfl (esc_loop G K₀ hn hg₁ cs (i+1) esc' A X₀ (fun l=>X l∨fp' l) fp' ρ' s₀ s₅ k p hA hh tk (R₃.rejoin R₅) (((K.trans K').trans K₃).trans K₅) hf ⟨l1,fun θ=>by rw [l2];congr 2;push_cast;omega⟩ (y₃.frame R₅.to fun l hl=>by rw [hl];exact hFL') (fun θ h=>.inr h) hFL' hFN' hX1 hXg' hg0 hk)
    have after:∀ v' s₅ l' k' p' ρ',(∀ x d,ρ'.lookup x=some d->Flat d)->Rel s₁ N (one L) s₃ (escEnv L) ρ' [] s₅->Kp s₃ s₅->ρ'.lookup ("pos" : Str)=some (.int i)->ρ'.lookup ("escape" : Str)=some (.bool esc) ->
        Bears N s₅.heap (.tup [.int i,.str (if esc then ⟨#[92,c]⟩ else ⟨#[c]⟩)]) v' ->
        (∀ A₂ s₆ sa,Rel s₁ N (fun l=>X l∨fp' l) sa (escEnv L) ρ' [] sa->s₆=sa->(∀ ρ'' s₇,(∀ x d,ρ''.lookup x=some d->Flat d)->Rel s₁ N (one L) sa (escEnv L) ρ'' [] s₇->Kp sa s₇->ρ''.lookup ("escape" : Str)=some (.bool false)->ρ''.lookup ("pos" : Str)=some (.int i) ->
            Sg (Mo w) A₂ (.forLoop escFor.1.1 (.ref e) escFor.1.2.2 [] (escEnv L)) (.pure (.again (.forLoop escFor.1.1 (.ref e) escFor.1.2.2 [] (escEnv L)))) [.ret k none false [] (.func escDef.1 (escEnv L)) p []] s₇ (GP N g (GSt w s₁ N n g) (escD (i+1) false cs) (fun l=>X l∨fp' l) sa)) ->
          Rm m (A₂.over (.forLoop escFor.1.1 (.ref e) escFor.1.2.2 [] (escEnv L)) [.ret k none false [] (.func escDef.1 (escEnv L)) p []]) ->
          Sg (Mo w) A₂ (.forLoop escFor.1.1 (.ref e) escFor.1.2.2 [] (escEnv L)) (k' (.send .none)) [.ret k none false [] (.func escDef.1 (escEnv L)) p []] s₆ (GP N g (GSt w s₁ N n g) (escD (i+1) false cs) (fun l=>X l∨fp' l) sa)) ->
        GP N g (GSt w s₁ N n g) (.tup [.int i,.str (if esc then ⟨#[92,c]⟩ else ⟨#[c]⟩)]::escD (i+1) false cs) X₀ s₀ (.susp v' false l' k' (.forLoop escFor.1.1 (.ref e) escFor.1.2.2 [] (escEnv L)) p' [.ret k none false [] (.func escDef.1 (escEnv L)) p []]) s₅:=by
      intro v' s₅ l' k' p' ρ' hf R₅ K₅ l1 l2 b₅ hgo
      have R₅':=R₃.rejoin R₅
      refine ⟨R₅'.to.less hX1,((K.trans K').trans K₃).trans K₅,v',_,_,_,_,_,_,rfl,hX1,b₅,?_⟩
      refine gst_iff.mpr fun A₂ Y s₆ hA₂ hh₂ H T₆ hD nx ng=>?_
      have hbare:(End.susp v' false l' k' (.forLoop escFor.1.1 (.ref e) escFor.1.2.2 [] (escEnv L)) p' [.ret k none false [] (.func escDef.1 (escEnv L)) p []]).genState.bare=true:=rfl
      have TT:To (fun l=>Y l∨oneG g l) s₅ (s₆.setGen g .running):=((to_setGen (.inr rfl) hbare).trans (T₆.mono fun θ h=>.inl h)).trans (to_setGen (.inr rfl) rfl)
      have hYL:¬ (Y (.inl L)∨oneG g (.inl L)):=fun q=>q.elim (fun q=>hD _ q (.inl R.xloc)) fun q=>nomatch q
      have H':At s₁ (s₆.setGen g .running):=H.forget (to_setGen (X:=oneG g) rfl rfl) fun l h=>by rw [h];exact hg₁
      have R₆:Rel s₁ N (fun l=>X l∨fp' l) (s₆.setGen g .running) (escEnv L) ρ' [] (s₆.setGen g .running):=R₅'.resume hf esc_nocell' TT hYL H' fun a h q=>nx a h q
      have y₆:Yld w s₁ N m isTup [] (enumD (i+1) (cs.map fun c=>D.str ⟨#[c]⟩)) (.ref e) fp' (s₆.setGen g .running):=(y₃.frame R₅.to fun l hl=>by rw [hl];exact hFL').frame TT fun l hl q=>hl.elim (fun z=>hD l z (.inr q)) fun z=>hXg' (.inr (by rw [← z];exact q))
      refine hgo A₂ _ _ R₆ rfl (fun ρ'' s₇ hf' R₇ K₇ l3 l4=>?_) (rm_loop (hn▸hA₂))
      exact sg_again rfl (esc_loop G K₀ hn hg₁ cs (i+1) false A₂ (fun l=>X l∨fp' l) (fun l=>X l∨fp' l) fp' ρ'' _ s₇ k p hA₂ hh₂ R₆.tabs (R₆.rejoin R₇) K₇ hf' ⟨l3,fun q=>nomatch q⟩ (y₆.frame R₇.to fun l hl=>by rw [hl];exact hFL') (fun θ h=>.inr h) hFL' hFN' (fun θ h=>.inl h) hXg' (fun q=>ng (newAt_setGen' q)) hk)
    refine as_tuple (X:=one L) (H:=fun θ=>True) G (fun θ θ=>.inl hh₂) (fun θ θ θ θ=>trivial) (.cons (as_name (.local rfl rfl)) (.cons (as_name (.local rfl rfl)) .nil)) rfl _ _ _ _ _ _ _ trivial Rn b₃ fun s₄ T₄ K₄ R₄ H=>?_
    refine gs_if R₄ (ts_plain (ev_var K₀ rfl hesc rfl) tr_bool (fun θ=>rfl)) (fun hc s₅ T₅ R₅=>?_) (fun hc s₅ T₅ R₅=>?_)
    · subst hc
      refine gs_yield R₅ (ev_tuple (evs_cons (ev_var K₀ rfl rfl rfl) (evs_cons (ev_add_str (x:=⟨#[92]⟩) ev_str (ev_var K₀ rfl rfl rfl) (by show 2≤sizeLine;exact Nat.le_of_ble_eq_true rfl)) evs_nil)) (Nat.le_of_ble_eq_true rfl)) rfl rfl (fun v' s₆ l' k' p' T₆ R₆ b₆ hk'=>?_) rfl rfl
      refine after v' s₆ l' k' p' _ (hflat [_,_] (by intro p hp;simp at hp;rcases hp with rfl | rfl<;>exact trivial)) R₆ (K₄.trans ((Kp.of_to T₅).trans (Kp.of_to T₆))) rfl hesc b₆ fun A₂ s₇ sa Ra e hgo hr=>?_
      subst e
      refine hk' A₂ _ _ (gs_xs (xs_assign Ra.narrow ev_bool (.local rfl rfl) rfl fun s₈ T₈ K₈ R₈=>xs_nil ⟨rfl,gs_nil (gs_nil (hgo _ s₈ (hflat [_,_,_] (by intro p hp;simp at hp;rcases hp with rfl | rfl | rfl<;>exact trivial)) R₈ K₈ rfl rfl))⟩))
    · subst hc
      refine gs_if R₅ (ts_cmp (ev_var K₀ rfl rfl rfl) ev_str op_eq_str rfl) (fun hc s₆ T₆ R₆=>?_) (fun hc s₆ T₆ R₆=>?_)
      · have hc':(c==92)=true:=by
          have:(([c]:List Nat)==[92])=true:=hc
          simpa using this
        have he:escD i false (c::cs)=escD (i+1) true cs:=by rw [escD,if_neg (by decide),if_pos hc']
        rw [he]
        exact gs_xs (xs_assign R₆ ev_bool (.local rfl rfl) rfl fun s₇ T₇ K₇ R₇=>xs_nil ⟨rfl,gs_nil (gs_nil (gs_nil (on _ s₇ true (hflat [_,_,_] (by intro p hp;simp at hp;rcases hp with rfl | rfl | rfl<;>exact trivial)) R₇ (K₄.trans ((Kp.of_to T₅).trans ((Kp.of_to T₆).trans K₇))) rfl rfl)))⟩)
      · have hc':¬ (c==92)=true:=by
          have:(([c]:List Nat)==[92])=false:=hc
          simpa using this
        have he:escD i false (c::cs)=.tup [.int i,.str ⟨#[c]⟩]::escD (i+1) false cs:=by rw [escD,if_neg (by decide),if_neg hc']
        rw [he]
        refine gs_yield R₆ (ev_tuple (evs_cons (ev_var K₀ rfl rfl rfl) (evs_cons (ev_var K₀ rfl rfl rfl) evs_nil)) (Nat.le_of_ble_eq_true rfl)) rfl rfl (fun v' s₇ l' k' p' T₇ R₇ b₇ hk'=>?_) rfl rfl
        refine after v' s₇ l' k' p' _ (hflat [_,_] (by intro p hp;simp at hp;rcases hp with rfl | rfl<;>exact trivial)) R₇ (K₄.trans ((Kp.of_to T₅).trans ((Kp.of_to T₆).trans (Kp.of_to T₇)))) rfl hesc b₇ fun A₂ s₇ sa Ra e hgo hr=>?_
        subst e
        exact hk' A₂ _ _ (gs_nil (gs_nil (gs_nil (hgo _ s₇ (hflat [_,_] (by intro p hp;simp at hp;rcases hp with rfl | rfl<;>exact trivial)) Ra.narrow (Kp.refl _) hesc rfl))))
end
theorem gen_enter {w:World} {s₁:Shared} {N:Addr->Prop} {A:Around} {s:Shared} {vs:List Value} {R:Result->Shared->Prop} {n:Nat} {f:Addr} {args:List D} {oc:Value} {od:Option Addr} {osl:Array (Option Value)} {name qual:Str} {params:Arguments} {body:List Stmt} {scope:Scope} {dV kV doc pm cdv ct:Value} {an:Option Addr} (names:List Str)
    (G:GW w s₁) (ho:(Kw w).lookup f=some ⟨oc,od,.func (fnOf name qual params body scope dV kV doc pm an cdv ct),osl⟩) (hf:(f==58||f==51)=false)
    (hcd:codeIn (Kw w) cdv qual=true) (hb:∀ s vs,vs.length=args.length->BindsTo s (fnOf name qual params body scope dV kV doc pm an cdv ct) ⟨vs,[]⟩ (names.zip vs))
    (hnd:names.Nodup) (hnk:∀ x∈names,scope.names.lookup x=some .local∨scope.names.lookup x=some .cell) (hfree:∀ x∈scope.names,x.2≠.free)
    (hk:scope.kind=.function) (hco:scope.isCoroutine=false) (hgen:scope.isGenerator=true)
    (hA:Rm (n+1) A) (HH:At s₁ s) (nex:Nex N s) (b:BearsAll N s.heap args vs)
    (h:∀ L s',To no s s'->(∀ l,Own (envOfC qual scope L f cdv) l->NewAt s l)->EnvOk (envOfC qual scope L f cdv)->Rel s₁ N (Own (envOfC qual scope L f cdv)) s' (envOfC qual scope L f cdv) (names.zip args) [] s' ->
      R (.ok (.ret (.ref s'.heap.objs.size))) { s' with gens:=s'.gens.push (.fresh (.func body (envOfC qual scope L f cdv))),toks:=s'.toks+1+1,heap:=s'.heap.push { cls:=.type "generator", data:=.fields #[.int s'.gens.size 0,.str name s'.toks,.str qual (s'.toks+1)] } }) :
    codeAny (Mo w) A (.call (.ref f) ⟨vs,[]⟩) R s:=by
  have ho':s.heap.get? f=some _:=G.get HH ho hf
  have hcr:s.heap.CodeRec cdv qual:=by
    obtain ⟨c,o,vs',t,e,hc,hr⟩:=codeRec_of G.kin hcd
    refine ⟨c,o,vs',t,e,?_,hr⟩
    refine HH.keep c o id (fun q=>?_) hc
    rw [G.tab c q] at hc;cases hc
    obtain ⟨hd,hv⟩:=hr
    cases hd;simp at hv
  refine codeAny_call_generator (fd:=fnOf name qual params body scope dV kV doc pm an cdv ct) hA.lt ho' rfl hco hgen rfl hcr (hb s vs (all_length b) _ _ _ _ ?_)
  refine wpAny_newFunctionEnv_cells hk (fun x hx=>?_) fun env he s' x=>?_
  · have hm:x.1∈names:=(zip_names (vs:=vs) hnd).2 _ (List.mem_map_of_mem hx)
    refine (hnk _ hm).imp id fun q=>⟨q,?_⟩
    obtain ⟨c,hc⟩:=cellsFrom_has scope.names (s.heap.objs.size+1) [] (.inl q)
    rw [hc];rfl
  · have he':env=envOfC qual scope s.heap.objs.size f cdv:=he
    subst he'
    obtain ⟨h₁,tk,rfl,hkeep⟩:=x.done
    have hlt:∀ a o,s.heap.get? a=some o->h₁.get? a=some o:=hkeep
    have T:To no s { s with heap:=h₁,toks:=tk }:=To.heap hlt
    have hn:=(zip_names (vs:=vs) hnd).1
    have htab:∀ P,P∈tabs->P<s.heap.objs.size:=fun P hP=>by
      obtain ⟨more,e,_⟩:=HH.tab P hP _ (G.tab P hP)
      exact Heap.lt_size e
    have hLt:s.heap.objs.size∉tabs:=fun q=>Nat.lt_irrefl _ (htab _ q)
    have habove:∀ x' c,(envOfC qual scope s.heap.objs.size f cdv).cells.lookup x'=some c->s.heap.objs.size<c:=fun x' c hc=>x.above x' c (mem_of_lookup hc)
    have hown:∀ l,Own (envOfC qual scope s.heap.objs.size f cdv) l->NewAt s l:=fun l hl=>by
      rcases hl with rfl | ⟨x',c,_,hc,rfl⟩
      · exact newAt_ge (Nat.le_refl _)
      · exact newAt_ge (Nat.le_of_lt (habove x' c hc))
    have R₀:Rel s₁ N (Own (envOfC qual scope s.heap.objs.size f cdv)) { s with heap:=h₁,toks:=tk } (envOfC qual scope s.heap.objs.size f cdv) (names.zip args) [] { s with heap:=h₁,toks:=tk }:=by
      refine ⟨HH.trans T,To.refl _ _,fun l hl=>(hown l hl).to (fun P hP=>⟨_,G.tab P hP⟩) HH,.inl rfl,⟨_,x.toInCall.ns,fun y d' hk' hd'=>?_⟩,fun y k hk' hq=>?_,fun y z c hy hz=>?_,hLt,(fun p hp=>nomatch hp),nex.to (G.tabOk HH) T,(G.tabOk HH).to T⟩
      · obtain ⟨v,e,b'⟩:=zip_look b hd'
        exact ⟨v,bindL_look hn e hk',b'.to T⟩
      · have hkc:scope.names.lookup y=some .cell:=by
          have:scope.names.lookup y=some k:=hk'
          rcases hq with rfl | rfl
          · exact this
          · exact absurd rfl (hfree _ (mem_of_lookup this))
        obtain ⟨c,hc⟩:=cellsFrom_has scope.names (s.heap.objs.size+1) [] (.inl hkc)
        have hc':(envOfC qual scope s.heap.objs.size f cdv).cells.lookup y=some c:=hc
        refine ⟨c,_,hc',x.cell y c hc',fun q=>Nat.lt_irrefl _ (Nat.lt_trans (htab _ q) (habove y c hc')),fun d' hd'=>?_⟩
        obtain ⟨v,e,b'⟩:=zip_look b hd'
        have hk2:(envOfC qual scope s.heap.objs.size f cdv).kindOf y=some .cell:=hkc
        exact ⟨v,bindC_look hn e (by rw [hk2];exact fun q=>nomatch q),b'.to T⟩
      · exact name_of_addr x.apart (mem_of_lookup hy) (mem_of_lookup hz)
    refine ⟨G.nolimit (HH.trans T),?_⟩
    exact h _ _ T hown ⟨hk,rfl,rfl⟩ R₀
section
variable {w:World} {s₁:Shared}
theorem enum_str (G:GW w s₁) {N:Addr->Prop} {A:Around} {env:Env} {ρ:List (Str × D)} {γ:List (D × Value)} {X:Loc->Prop} {sb s:Shared} {n:Nat} {f e:Expr} {pos:Pos} {x:Str} (hx:x.cps.all (·<128)=true) (R:Rel s₁ N X sb env ρ γ s) (xf:Ev w s₁ A env ρ f (.val (.type "enumerate"))) (y:Ev w s₁ A env ρ e (.str x))
    (hc:eval (.Call f [e] [] pos) env=(do callWith pos (← eval f env) [] (backTo pos (starEach [e] env)) [])) (hs:starEach [e] env=[(false,eval e env)])
    {Q:Value->Shared->Prop} {E:Value->Shared->Prop}
    (h:∀ s' ea it,To no s s'->NewAt s (.inl ea)->NewAt s (.inl it)->Yld w s₁ N n isTup [] (enumD 0 (chars x)) (.ref ea) (twoL ea it) s'->(∀ A',wpAny (Mo w) A' (pyIter (.ref ea)) (fun v s''=>v=.ref ea∧s''=s') (fun θ θ=>False) s')->Q (.ref ea) s'):wpAny (Mo w) A (eval (.Call f [e] [] pos) env) Q E s:=by
  rw [hc]
  refine wpAny_bind (xf.use R fun u s' T bu=>?_)
  obtain rfl:=of_val bu
  refine PyProof.Rows.callWith_type (by rw [hs];rfl) ?_
  rw [hs]
  refine Calls.evalArgs_plain (Calls.spliced_cons (y.use (R.step T) fun v s'' T' b=>Calls.spliced_nil ?_))
  obtain ⟨t,rfl⟩:=of_str b
  have TT:=T.trans T'
  have tk:=R.tabs
  refine call_enumerate_str fun h' he hit hsz hk=>?_
  have T₃:To no s'' { s'' with heap:=h' }:=To.heap (t:=s''.toks) hk
  have hit':h'.IsStrIter s''.heap.objs.size "str_ascii_iterator" x t 0:=by simpa [strIterType,hx] using hit
  exact h { s'' with heap:=h' } _ _ (TT.trans T₃) (NewAt.to tk TT (newAt_ge (Nat.le_succ _))) (NewAt.to tk TT (newAt_ge (Nat.le_refl _))) (yld_enum G (In:=fun i h=>h.IsStrIter s''.heap.objs.size "str_ascii_iterator" x t i) inner_str (Nat.succ_ne_self _) (chars x) 0 _ (Nat.zero_le _) (by simp) ⟨_,he⟩ hit')
    fun A'=>wpAny_pyIter_enum he ⟨rfl,rfl⟩
theorem gst_esc (G:GW w s₁) {N N₀:Addr->Prop} {m g:Nat} {L:Addr} {x:Str} (hx:x.cps.all (·<128)=true) (K₀:EnvOk (escEnv L)) (hg₁:NewAt s₁ (.inr g)) {s s':Shared} {sb:Shared} (R:Rel s₁ N₀ (Own (escEnv L)) sb (escEnv L) [("addr", .str x)] [] s) (T:To no s s') :
    GSt w s₁ N (m+1) g (escD 0 false x.cps.toList) (one L) (.fresh (.func escDef.1 (escEnv L))) s':=gst_iff.mpr fun A X s₂ hA hh H T₂ hD nx ng=>by
  have TT:To (fun l=>X l∨oneG g l) s (s₂.setGen g .running):=(T.of_no.trans (T₂.mono fun θ h=>.inl h)).trans (to_setGen (.inr rfl) rfl)
  have hYL:¬ (X (.inl L)∨oneG g (.inl L)):=fun q=>q.elim (fun q=>hD _ q rfl) fun q=>nomatch q
  have H':At s₁ (s₂.setGen g .running):=H.forget (to_setGen (X:=oneG g) rfl rfl) fun l h=>by rw [h];exact hg₁
  have R₁:Rel s₁ N (one L) (s₂.setGen g .running) (escEnv L) [("addr", .str x)] [] (s₂.setGen g .running):=by
    have:=R.resume (N':=N) (fun y d e=>by
      have:=mem_of_lookup e
      rw [List.mem_singleton] at this;cases this;trivial) esc_nocell' TT hYL H' fun a h q=>nx a h q
    exact this.narrow
  have tk₀:=R₁.tabs
  refine sg_func fun H₀=>?_
  refine gs_xs (xs_assign R₁ ev_int (.local rfl rfl) rfl fun s₃ T₃ K₃ R₃=>xs_nil ⟨rfl,?_⟩)
  refine gs_xs (xs_assign R₃ ev_bool (.local rfl rfl) rfl fun s₄ T₄ K₄ R₄=>xs_nil ⟨rfl,?_⟩)
  refine gs_for (PI:=fun θ θ=>True) (enum_str (n:=m) G hx R₄ (ev_bi G K₀ rfl (by kernel_rfl) hv_enumerate rfl) (ev_var K₀ rfl rfl rfl) rfl rfl fun s₅ ea it T₅ ne ni y hself=>?_) (fun θ=>rfl)
  refine wpAny_mono (hself _) (fun v s₆ hv k p hk=>?_) fun θ θ h=>h
  obtain ⟨rfl,rfl⟩:=hv
  have R₅:=R₄.step T₅
  have hne:∀ l,twoL ea it l->NewAt s₄ l:=fun l h=>by rcases h with rfl | rfl;exact ne;exact ni
  have hb:∀ l,twoL ea it l->NewAt (s₂.setGen g .running) l:=fun l h=>(newAt_back tk₀ R₄.to (hne l h)).elim id fun q=>by
    rw [q] at h
    obtain ⟨mm,hm,_⟩:=R₄.ns
    exact absurd (hne _ h) (ns_there hm)
  refine esc_loop G K₀ rfl hg₁ x.cps.toList 0 false A (one L) (fun l=>one L l∨twoL ea it l) (twoL ea it) _ _ _ k p hA hh tk₀ (R₅.widen (fun θ h=>.inl h) fun l h=>h.elim (R₅.xnew l) fun q=>At.of_new G R₄.inv (hne l q)) ((K₃.trans K₄).trans (Kp.of_to T₅)) (fun y d e=>?_) ⟨rfl,fun q=>nomatch q⟩ y (fun θ h=>.inr h) (fun q=>?_) (fun a ha q=>R₄.nex a ha (hne _ q)) (fun l h=>h.imp id (hb l)) (fun q=>q.elim (fun q=>nomatch q) fun q=>q.elim (fun q=>nomatch q) fun q=>nomatch q) (fun q=>ng (newAt_setGen' q)) hk
  · have:=mem_of_lookup e
    simp at this
    rcases this with ⟨_,rfl⟩ | ⟨_,rfl⟩ | ⟨_,rfl⟩<;>trivial
  · obtain ⟨mm,hm,_⟩:=R₄.ns
    exact ns_there hm (hne _ q)
theorem to_newGen {s:Shared} {c:Code} {t:Nat} {h:Heap} (hk:∀ b o,s.heap.get? b=some o->h.get? b=some o):To no s { s with gens:=s.gens.push (.fresh c),toks:=t,heap:=h }:=
  ⟨fun b o θ θ e=>hk b o e,fun P θ vs e=>⟨#[],by rw [Array.append_empty];exact hk P _ e,.nil⟩,fun b o θ e=>hk b o e,fun g x θ e=>by
    show (s.gens.push _)[g]?=_
    rw [Array.getElem?_push]
    have:g<s.gens.size:=(Array.getElem?_eq_some_iff.mp e).1
    rw [if_neg (Nat.ne_of_lt this)];exact e,fun h=>h.push rfl,rfl⟩
theorem evit_esc (G:GW w s₁) {A:Around} {env:Env} {ρ:List (Str × D)} {m k:Nat} {tg:Expr->Prop} {f e:Expr} {pos:Pos} {x:Str} {oc:Value} {od:Option Addr} {fd:FuncData} {osl:Array (Option Value)} (ho:(Kw w).lookup 21=some ⟨oc,od,.func fd,osl⟩) (hA:Rm (k+1) A) (hx:x.cps.all (·<128)=true) (xf:Ev w s₁ A env ρ f (.val (.ref 21))) (y:Ev w s₁ A env ρ e (.str x))
    (hc:eval (.Call f [e] [] pos) env=(do callWith pos (← eval f env) [] (backTo pos (starEach [e] env)) [])) (hs:starEach [e] env=[(false,eval e env)]):EvIt w s₁ A env ρ (m+2) tg (.Call f [e] [] pos) (escD 0 false x.cps.toList):=⟨fun N X sb γ s R=>by
  rw [hc]
  refine wpAny_bind (xf.use R fun u s' T bu=>?_)
  obtain rfl:=of_val bu
  refine Calls.callWith_function (o:=⟨oc,od,.func fd,osl⟩) (fd:=fd) ?_
  rw [hs]
  refine Calls.evalArgs_plain (Calls.spliced_cons (y.use (R.step T) fun v s'' T' b=>Calls.spliced_nil ⟨⟨G.get (R.inv.trans (T.trans T')) ho rfl,rfl⟩,wpAny_call ?_⟩))
  have TT:=T.trans T'
  have R₂:=R.step TT
  have tk:=R.tabs
  refine gen_enter (args:=[.str x]) ["addr"] G rfl rfl (by kernel_rfl) (fun s vs h=>by obtain ⟨a,rfl⟩:=len1 h;exact BindsTo.of_eq rfl) (by decide) (by decide) (by decide) rfl rfl rfl hA R₂.inv R₂.nex (all_cons b all_nil) fun L s₃ T₃ hown K R₃=>?_
  have hgen:NewAt s₃ (.inr s₃.gens.size):=by show s₃.gens[s₃.gens.size]?=none;simp
  have T₄:To no s₃ { s₃ with gens:=s₃.gens.push (.fresh (.func escDef.1 (escEnv L))),toks:=s₃.toks+1+1,heap:=s₃.heap.push { cls:=.type "generator", data:=.fields #[.int s₃.gens.size 0,.str "_iter_escaped_chars" s₃.toks,.str "_iter_escaped_chars" (s₃.toks+1)] } }:=to_newGen fun θ θ e=>Heap.get?_push_of_some _ e
  have TTT:=TT.trans T₃
  refine ⟨TTT.trans T₄,fun A' hA' hh' H'=>?_⟩
  have hig:(s₃.heap.push { cls:=.type "generator", data:=.fields #[.int s₃.gens.size 0,.str "_iter_escaped_chars" s₃.toks,.str "_iter_escaped_chars" (s₃.toks+1)] }).IsGen s₃.heap.objs.size s₃.gens.size:=⟨_,_,_,Heap.get?_push_size _ rfl,rfl,rfl,rfl⟩
  have hgs:(s₃.gens.push (.fresh (.func escDef.1 (escEnv L))))[s₃.gens.size]?=some (.fresh (.func escDef.1 (escEnv L))):=Array.getElem?_push_size ..
  have hL:¬ NewAt s₃ (.inl L):=by obtain ⟨mm,hm,_⟩:=R₃.ns;exact ns_there hm
  refine wpAny_pyIter_gen hig ⟨[],GenFp s₃.heap.objs.size s₃.gens.size (one L),To.refl _ _,fun l hl=>?_,(fun p hp=>nomatch hp),fun N'=>⟨yld_gen G _ _ _ _ (gst_esc G hx K (At.of_new G R₃.inv hgen) R₃ T₄) hig hgs (fun q=>?_) (fun q=>nomatch q),fun A'' X' s₅ H₅ T₅ D₅=>?_⟩⟩
  · rcases hl with rfl | rfl | rfl
    · exact ⟨NewAt.to tk TTT (newAt_ge (Nat.le_refl _)),there_get hig.choose_spec.choose_spec.choose_spec.1⟩
    · exact ⟨NewAt.to tk TTT hgen,fun q=>by have q':(s₃.gens.push (.fresh (.func escDef.1 (escEnv L))))[s₃.gens.size]?=none:=q;rw [hgs] at q';cases q'⟩
    · exact ⟨NewAt.to tk TT (hown _ (.inl rfl)),fun q=>hL (NewAt.to R₃.tabs T₄ q)⟩
  · cases q;exact hL (newAt_ge (Nat.le_refl _))
  · obtain ⟨o,nm,qn,ho,hc,r⟩:=hig
    exact wpAny_pyIter_gen ⟨o,nm,qn,kept_get T₅ (fun q=>D₅ _ q (.inl rfl)) ho hc,hc,r⟩ ⟨rfl,rfl⟩⟩
end
noncomputable def escP:Nat->Bool->List Nat->List (Int × Str)
  | i,esc,[]=>if esc then [((i:Int)-1,⟨#[92]⟩)] else []
  | i,esc,c::r=>if esc then ((i:Int),⟨#[92,c]⟩)::escP (i+1) false r else if c==92 then escP (i+1) true r else ((i:Int),⟨#[c]⟩)::escP (i+1) false r
noncomputable def pairD (p:Int × Str):D:=.tup [.int p.1,.str p.2]
theorem escD_map:∀ (cs:List Nat) (i:Nat) (esc:Bool),escD i esc cs=(escP i esc cs).map pairD
  | [],i,esc=>by cases esc<;>rfl
  | c::r,i,esc=>by
    unfold escD escP
    rw [escD_map r,escD_map r]
    cases esc<;>cases (c==92)<;>rfl
theorem escP_ok:∀ (cs:List Nat) (i:Nat) (esc:Bool),(escP i esc cs).length≤cs.length+(if esc then 1 else 0)∧∀ p,p∈escP i esc cs->-1≤p.1∧p.1≤i+cs.length
  | [],i,esc=>by cases esc<;>simp [escP];omega
  | c::r,i,esc=>by
    obtain ⟨h1,h2⟩:=escP_ok r (i+1) false
    obtain ⟨h3,h4⟩:=escP_ok r (i+1) true
    simp only [Bool.false_eq_true,if_false,if_true] at h1 h3
    unfold escP
    simp only [List.length_cons]
    cases esc with
    | true=>
      simp only [if_true,List.length_cons]
      refine ⟨by omega,fun p hp=>?_⟩
      rcases List.mem_cons.mp hp with rfl | hp
      · simp only;omega
      · have:=h2 p hp;push_cast at *;omega
    | false=>
      simp only [Bool.false_eq_true,if_false]
      split
      · refine ⟨by omega +splitNatSub,fun p hp=>?_⟩
        have:=h4 p hp;push_cast at *;omega
      · refine ⟨by simp only [List.length_cons];omega,fun p hp=>?_⟩
        rcases List.mem_cons.mp hp with rfl | hp
        · simp only;omega
        · have:=h2 p hp;push_cast at *;omega
noncomputable def sqLoop (a:Str):List (Int × Str)->Int->Option Int->List Str->Int × List Str
  | [],st,_,res=>(st,res)
  | p::r,st,op,res=>if p.2.cps.toList==[34] then (match op with
      | none=>sqLoop a r st (some p.1) res
      | some o=>sqLoop a r (p.1+1) none (if st != o then res++[Txt.slice a (some st) (some o)] else res)) else sqLoop a r st op res
noncomputable def sqFn (a:Str):Str:=if Txt.contains a ⟨#[34]⟩ then
    Builtin.Str.glued ⟨#[]⟩ (if (sqLoop a (escP 0 false a.cps.toList) 0 none []).1<a.length then (sqLoop a (escP 0 false a.cps.toList) 0 none []).2++[Txt.slice a (some (sqLoop a (escP 0 false a.cps.toList) 0 none []).1) none] else (sqLoop a (escP 0 false a.cps.toList) 0 none []).2) else a
noncomputable def optD:Option Int->D
  | none=>.none
  | some i=>.int i
theorem strSum' {l:List Str} {k:Nat} (h:∀ x,x∈l->x.length≤k):(l.map (·.length)).sum≤k*l.length:=by
  induction l with
  | nil=>simp
  | cons a r ih=>
    have h1:=h a List.mem_cons_self
    have h2:=ih fun x hx=>h x (List.mem_cons_of_mem _ hx)
    simp only [List.map_cons,List.sum_cons,List.length_cons,Nat.mul_succ]
    omega
theorem s34:Str.ofString "\"" = ⟨#[34]⟩:=by decide +kernel
theorem xs_ifS {w:World} {s₁ sb s:Shared} {N:Addr->Prop} {A:Around} {env:Env} {ρ:List (Str × D)} {γ:List (D × Value)} {X:Loc->Prop} {E:Value->Shared->Prop} {Q:Flow->Shared->Prop} {t:Expr} {b:List Stmt} {pos:Pos} {c:Bool} {rest:List Stmt}
    (P:Shared->Prop) (R:Rel s₁ N X sb env ρ γ s) (x:Ts w s₁ A env ρ t c)
    (y:c=true->∀ s',To no s s'->Rel s₁ N X sb env ρ γ s'->Xs w A env b (fun f s''=>f=.next∧P s''∧Rel s₁ N X sb env ρ γ s'') (fun θ θ=>False) s')
    (z:c=false->∀ s',To no s s'->Rel s₁ N X sb env ρ γ s'->P s')
    (h:∀ s',P s'->Rel s₁ N X sb env ρ γ s'->Xs w A env rest Q E s'):Xs w A env (.If t b [] pos::rest) Q E s:=
  xs_if R x (fun hc s' T R'=>((y hc s' T R').mono fun f s'' q=>by obtain ⟨rfl,p,R''⟩:=q;exact h s'' p R'').weakE) fun hc s' T R'=>xs_nil (h s' (z hc s' T R') R')
inductive SqI (a:Str) (l:Addr) (N:Addr->Prop) (ds:List D) (ρ:List (Str × D)) (s':Shared):Prop
  | mk (ps:List (Int × Str)) (st:Int) (op:Option Int) (res:List Str) (e:ds=ps.map pairD) (l1:ρ.lookup ("result" : Str)=some (.val (.ref l))) (l2:ρ.lookup ("start" : Str)=some (.int st)) (l3:ρ.lookup ("open_pos" : Str)=some (optD op)) (l4:ρ.lookup ("addr" : Str)=some (.str a))
    (h3:res.length+ps.length≤a.length) (h4:∀ x,x∈res->x.length≤1000) (o:Out (orN N l) l (res.map D.str) s') (h5:sqLoop a ps st op res=sqLoop a (escP 0 false a.cps.toList) 0 none [])
theorem f_strip_q {w:World} {s₁:Shared} (G:GW w s₁) {n:Nat} {a:Str} (ha:a.cps.all (·<128)=true) (hz:a.length≤1000):Fn w s₁ h0 (n+4) 28 [.str a] (.str (sqFn a)):=by
  refine fn_enter (fun A s s' env h T=>h) ["addr"] G rfl rfl (by kernel_rfl) (fun s vs h=>by obtain ⟨a,rfl⟩:=len1 h;exact BindsTo.of_eq rfl) (by decide) (by decide) (by decide) rfl rfl rfl fun N A s L hA hh ⟨s₀,h₀,hown⟩ K R=>?_
  have hsz:∀ i j,(Txt.slice a i j).length≤1000:=fun i j=>Nat.le_trans (Txt.slice_le a i j) hz
  have hzl:a.length≤sizeLine:=Nat.le_trans hz (Nat.le_of_ble_eq_true rfl)
  refine xs_if R (ts_cmp ev_str (ev_var K rfl rfl rfl) op_notin_str rfl) (fun hc s T R=>?_) fun hc s T R=>xs_nil ?_
  · have hc':Txt.contains a ⟨#[34]⟩=false:=by
      have:(!Txt.contains a (Str.ofString "\""))=true:=hc
      rw [s34] at this;simpa using this
    refine xs_return R (Ev.conv (ev_var K rfl rfl rfl) ?_) fun v s' T b=>⟨R.to.trans T.of_no,b⟩
    rw [sqFn,hc'];rfl
  have hc':Txt.contains a ⟨#[34]⟩=true:=by
    have:(!Txt.contains a (Str.ofString "\""))=false:=hc
    rw [s34] at this;simpa using this
  refine xs_assign R ev_int (.local rfl rfl) rfl fun s T K' R=>?_
  refine xs_assign R ev_none (.local rfl rfl) rfl fun s T K' R=>?_
  refine xs_newlist G (ds:=[]) R (by exact evs_nil) (Nat.zero_le _) (.local rfl rfl) rfl fun l s hnl hNl hol o R=>?_
  obtain ⟨hp1,hp2⟩:=escP_ok a.cps.toList 0 false
  have hlen:a.cps.toList.length=a.length:=by rw [Array.length_toList];rfl
  refine xs_for (X:=OwnL _ l) (n:=n+2) (tg:=fun θ=>True) G (hA.mono (by omega)) hh trivial R (evit_esc G rfl (k:=n+2) (m:=n) hA ha (ev_gl G K rfl (by kernel_rfl) rfl) (ev_var K rfl rfl rfl) rfl rfl) (fun θ=>rfl) (ownL_there R o)
    (SqI a l N)
    (fun s' T=>⟨escP 0 false a.cps.toList,0,none,[],escD_map _ _ _,rfl,rfl,rfl,rfl,by rw [hlen] at hp1;simpa using hp1,(fun x hx=>nomatch hx),o.to T,rfl⟩)
    (fun ds ρ s' s'' Y j T K' hY=>?_) (fun γ' ds ρ s' j R'=>?_) (fun γ' d ds ρ s' v' j R' T b=>?_) (fun γ' ρ s' j R'=>?_)
  · obtain ⟨ps,st,op,res,e,l1,l2,l3,l4,h3,h4,o',h5⟩:=j
    exact ⟨ps,st,op,res,e,l1,l2,l3,l4,h3,h4,o'.kp T K' (fun q=>out_nots o (hY _ q)),h5⟩
  · obtain ⟨ps,st,op,res,e,l1,l2,l3,l4,h3,h4,o',h5⟩:=j
    exact ownL_there R' o'
  · obtain ⟨ps,st,op,res,e,l1,l2,l3,l4,h3,h4,o',h5⟩:=j
    cases ps with
    | nil=>cases e
    | cons p ps=>
      obtain ⟨rfl,rfl⟩:=List.cons.inj e
      obtain ⟨i,ch⟩:=p
      simp only [List.length_cons] at h3
      refine as_tuple (X:=OwnL _ l) (H:=fun θ=>True) G (fun θ θ=>.inl hh) (fun θ θ θ θ=>trivial) (.cons (as_name (sto_more (fun θ h=>.inl h) (.local rfl rfl))) (.cons (as_name (sto_more (fun θ h=>.inl h) (.local rfl rfl))) .nil)) rfl _ _ _ _ _ _ _ trivial R' b fun s T₁ K₁ R'=>?_
      have o₁:=o'.kept K₁
      refine xs_if R' (ts_cmp (ev_var K rfl rfl rfl) ev_str op_eq_str rfl) (fun hq s T₂ R'=>?_) fun hq s T₂ R'=>?_
      · have hq':(ch.cps.toList==[34])=true:=hq
        have o₂:=o₁.to T₂
        refine xs_if R' (ts_cmp (ev_var K rfl l3 rfl) ev_none (op_is_none (by cases op<;>rfl)) rfl) (fun hn s T₃ R'=>?_) fun hn s T₃ R'=>?_
        · cases op with
          | some o=>cases hn
          | none=>
            refine xs_assign R' (ev_var K rfl rfl rfl) (sto_more (fun θ h=>.inl h) (.local rfl rfl)) rfl fun s T₄ K₄ R'=>?_
            refine xs_nil (xs_nil (xs_nil ⟨_,?_,R'⟩))
            refine ⟨ps,st,some i,res,rfl,l1,l2,rfl,l4,by omega,h4,(o₂.to T₃).kept K₄,?_⟩
            rw [← h5];show _=(if (ch.cps.toList==[34])=true then _ else _);rw [if_pos hq']
        · cases op with
          | none=>cases hn
          | some ov=>
            refine xs_ifS (fun s=>Out (orN N l) l ((if st != ov then res++[Txt.slice a (some st) (some ov)] else res).map D.str) s) R' (ts_cmp (ev_var K rfl l2 rfl) (ev_var K rfl l3 rfl) op_ne rfl) (fun hm s T₄ R'=>?_) (fun hm s T₄ R'=>?_) fun s o₄ R'=>?_
            · refine xs_append G R' (.inr rfl) (.inr rfl) ((o₂.to T₃).to T₄) (ev_var K rfl l1 rfl) (ev_slice_str hzl (ev_var K rfl l4 rfl) (pt_some (ev_var K rfl l2 rfl)) (pt_some (ev_var K rfl l3 rfl))) (by rw [List.length_map];unfold sizeLine;omega) rfl rfl rfl rfl rfl rfl fun s o₃ R'=>xs_nil ⟨rfl,?_,R'⟩
              rw [if_pos hm,List.map_append];exact o₃
            · rw [if_neg (by rw [hm];decide)];exact (o₂.to T₃).to T₄
            · refine xs_assign R' (ev_add (ev_var K rfl rfl rfl) ev_int) (sto_more (fun θ h=>.inl h) (.local rfl rfl)) rfl fun s T₅ K₅ R'=>?_
              refine xs_assign R' ev_none (sto_more (fun θ h=>.inl h) (.local rfl rfl)) rfl fun s T₆ K₆ R'=>?_
              refine xs_nil (xs_nil (xs_nil ⟨_,?_,R'⟩))
              refine ⟨ps,i+1,none,_,rfl,l1,rfl,rfl,l4,?_,fun x hx=>?_,(o₄.kept K₅).kept K₆,?_⟩
              · split
                · rw [List.length_append,List.length_singleton];omega
                · omega
              · split at hx
                · rcases List.mem_append.mp hx with hx | hx
                  · exact h4 x hx
                  · rw [List.mem_singleton] at hx;rw [hx];exact hsz _ _
                · exact h4 x hx
              · rw [← h5];show _=(if (ch.cps.toList==[34])=true then _ else _);rw [if_pos hq']
      · have hq':¬ (ch.cps.toList==[34])=true:=by
          have:(ch.cps.toList==[34])=false:=hq
          rw [this];decide
        refine xs_nil (xs_nil ⟨_,?_,R'⟩)
        refine ⟨ps,st,op,res,rfl,l1,l2,l3,l4,by omega,h4,o₁.to T₂,?_⟩
        rw [← h5];show _=(if (ch.cps.toList==[34])=true then _ else _);rw [if_neg hq']
  · obtain ⟨ps,st,op,res,e,l1,l2,l3,l4,h3,h4,o',h5⟩:=j
    have:ps=[]:=by cases ps with | nil=>rfl | cons _ _=>cases e
    subst this
    have h5':sqLoop a (escP 0 false a.cps.toList) 0 none []=(st,res):=h5.symm
    have hlen0:(Str.ofString "").length=0:=by decide +kernel
    have hj:∀ l:List Str,l.length≤1001->(∀ x,x∈l->x.length≤1000)->(l.map (·.length)).sum+l.length*(Str.ofString "").length≤sizeLine:=fun l h1 h2=>by
      have:=strSum' h2
      rw [hlen0]
      have:1000*l.length≤1000*1001:=Nat.mul_le_mul_left _ h1
      unfold sizeLine;omega
    have hj0:Str.ofString "" = ⟨#[]⟩:=by decide +kernel
    have R':=R'.rebase R.to
    refine xs_nil (xs_ifS (fun s=>Out (orN N l) l ((if st<a.length then res++[Txt.slice a (some st) none] else res).map D.str) s) R' (ts_cmp (ev_var K rfl l2 rfl) (ev_len_s G K (ev_var K rfl l4 rfl) rfl rfl rfl (Nat.lt_of_le_of_lt hz (by decide))) op_lt rfl) (fun hm s T₄ R'=>?_) (fun hm s T₄ R'=>?_) fun s o₄ R'=>?_)
    · refine xs_append G R' (.inr rfl) (.inr rfl) (o'.to T₄) (ev_var K rfl l1 rfl) (ev_slice_str hzl (ev_var K rfl l4 rfl) (pt_some (ev_var K rfl l2 rfl)) pt_none) (by rw [List.length_map];unfold sizeLine;omega) rfl rfl rfl rfl rfl rfl fun s o₃ R'=>xs_nil ⟨rfl,?_,R'⟩
      rw [if_pos (of_decide_eq_true hm),List.map_append];exact o₃
    · rw [if_neg (of_decide_eq_false hm)];exact o'.to T₄
    · refine x_join (names:=if st<a.length then res++[Txt.slice a (some st) none] else res) ?_ K R' o₄ hNl hnl l1 rfl rfl ?_ rfl rfl rfl rfl
      · rw [sqFn,if_pos hc',h5',hj0]
      · refine hj _ ?_ ?_
        · split
          · rw [List.length_append,List.length_singleton];omega
          · omega
        · intro x hx
          split at hx
          · rcases List.mem_append.mp hx with hx | hx
            · exact h4 x hx
            · rw [List.mem_singleton] at hx;rw [hx];exact hsz _ _
          · exact h4 x hx
noncomputable def cpLoop:List (Int × Str)->Int->Bool
  | [],o=>o==0
  | p::r,o=>if p.2.cps.toList==[40] then cpLoop r (o+1) else if p.2.cps.toList==[41] then (if o-1<0 then false else cpLoop r (o-1)) else cpLoop r o
noncomputable def checkFn (a:Str):Bool:=cpLoop (escP 0 false (sqFn a).cps.toList) 0
inductive CkI (a:Str) (ds:List D) (ρ:List (Str × D)):Prop
  | mk (ps:List (Int × Str)) (o:Int) (e:ds=ps.map pairD) (l1:ρ.lookup ("opens" : Str)=some (.int o)) (h:cpLoop ps o=checkFn a)
theorem f_check {w:World} {s₁:Shared} (G:GW w s₁) {n:Nat} {a:Str} (ha:a.cps.all (·<128)=true) (hz:a.length≤1000) (hs:(sqFn a).cps.all (·<128)=true):Fn w s₁ h0 (n+5) 35 [.str a] (.bool (checkFn a)):=by
  refine fn_enter (fun A s s' env h T=>h) ["addr"] G rfl rfl (by kernel_rfl) (fun s vs h=>by obtain ⟨a,rfl⟩:=len1 h;exact BindsTo.of_eq rfl) (by decide) (by decide) (by decide) rfl rfl rfl fun N A s L hA hh ⟨s₀,h₀,hown⟩ K R=>?_
  have F:=f_strip_q G (n:=n) ha hz
  refine xs_assign R (ev_callF G hA hh F (ev_gl G K rfl (by kernel_rfl) rfl) (evs_cons (ev_var K rfl rfl rfl) evs_nil) rfl rfl rfl rfl) (.local rfl rfl) rfl fun s T K' R=>?_
  refine xs_assign R ev_int (.local rfl rfl) rfl fun s T K' R=>?_
  refine xs_forP (n:=n+2) G (hA.mono (by omega)) hh trivial (tg:=fun θ=>True) R (evit_esc G rfl (k:=n+3) (m:=n) hA hs (ev_gl G K rfl (by kernel_rfl) rfl) (ev_var K rfl rfl rfl) rfl rfl) (fun θ=>rfl)
    (CkI a) ⟨_,0,escD_map _ _ _,rfl,rfl⟩ (fun γ' d ds ρ s' v j TT R θ b=>?_) (fun ρ s' j R=>?_)
  · obtain ⟨ps,o,e,l1,hf⟩:=j
    cases ps with
    | nil=>cases e
    | cons p ps=>
      obtain ⟨rfl,rfl⟩:=List.cons.inj e
      obtain ⟨i,ch⟩:=p
      have hf':(if (ch.cps.toList==[40])=true then cpLoop ps (o+1) else if (ch.cps.toList==[41])=true then (if o-1<0 then false else cpLoop ps (o-1)) else cpLoop ps o)=checkFn a:=hf
      refine as_tuple (X:=Own _) (H:=fun θ=>True) G (fun θ θ=>.inl hh) (fun θ θ θ θ=>trivial) (.cons (as_name (.local rfl rfl)) (.cons (as_name (.local rfl rfl)) .nil)) rfl _ _ _ _ _ _ _ trivial R b fun s T₁ K₁ R=>?_
      refine xs_if R (ts_cmp (ev_var K rfl rfl rfl) ev_str op_eq_str rfl) (fun hq s T₂ R=>?_) fun hq s T₂ R=>?_
      · have hq':(ch.cps.toList==[40])=true:=hq
        rw [if_pos hq'] at hf'
        refine xs_aug R (.local rfl rfl) (a:=.int o) l1 ev_int i_add fun s T₃ K₃ R=>xs_nil (xs_nil ⟨_,⟨ps,o+1,rfl,rfl,hf'⟩,R⟩)
      · have hq':(ch.cps.toList==[40])=false:=hq
        rw [if_neg (by rw [hq'];decide)] at hf'
        refine xs_if R (ts_cmp (ev_var K rfl rfl rfl) ev_str op_eq_str rfl) (fun hr s T₃ R=>?_) fun hr s T₃ R=>?_
        · have hr':(ch.cps.toList==[41])=true:=hr
          rw [if_pos hr'] at hf'
          refine xs_aug R (.local rfl rfl) (a:=.int o) l1 ev_int i_sub fun s T₄ K₄ R=>?_
          refine xs_if R (ts_cmp (ev_var K rfl rfl rfl) ev_int op_lt rfl) (fun hn s T₅ R=>?_) fun hn s T₅ R=>?_
          · rw [if_pos (of_decide_eq_true hn)] at hf'
            refine xs_return R (Ev.conv ev_bool (by rw [← hf'])) fun v s₆ T₆ b=>⟨(TT.trans R.to).trans T₆.of_no,b⟩
          · rw [if_neg (of_decide_eq_false hn)] at hf'
            exact xs_nil (xs_nil (xs_nil (xs_nil ⟨_,⟨ps,o-1,rfl,rfl,hf'⟩,R⟩)))
        · have hr':(ch.cps.toList==[41])=false:=hr
          rw [if_neg (by rw [hr'];decide)] at hf'
          refine xs_nil (xs_nil (xs_nil ⟨_,?_,R⟩))
          exact ⟨ps,o,rfl,l1,hf'⟩
  · obtain ⟨ps,o,e,l1,hf⟩:=j
    have:ps=[]:=by cases ps with | nil=>rfl | cons _ _=>cases e
    subst this
    refine xs_nil (xs_return R (Ev.conv (ev_cmp (ev_var K rfl l1 rfl) ev_int op_eq rfl) (by rw [← hf];rfl)) fun v s' T b=>⟨R.to.trans T.of_no,b⟩)
section
variable {M:Model} {A:Around} {E:Value->Shared->Prop} {s:Shared}
theorem code_new {env:Env} {c P:Addr} {pos:Pos} {firstLine:Nat} {name qualname:Str} {p:Arguments} {scope:Scope} {body:FuncBody} {Q:Value->Shared->Prop} (hc:env.code=.ref c) (hok:s.heap.IsCode c P #[]) (hP:s.heap.get? P=some (tabObj #[]))
    (hQ:∀ c' h' tk,Heap.ExtBut P s.heap h'->h'.get? P=some (tabObj #[rawInt pos.line,rawInt pos.col,.ref c'])->(∃ o fs t,h'.get? c'=some o∧o.cls=.type "code" ∧ o.data=.fields fs∧fs[1]?=some (.str qualname t))->Q (.ref c') { s with heap:=h',toks:=tk }) :
    wpAny M A (functionCode env pos firstLine name qualname p scope body) Q E s:=by
  obtain ⟨o,vs,file,tf,flags,tg,inF,text,tt,op,ho,hd,h11,h2,h7,h9,h10,hop,hpd,htr,hne⟩:=id hok
  rw [hP] at hop;cases hop
  unfold functionCode codeAt
  rw [hc,if_neg (show ¬ ((Value.ref c==Value.none)=true) from Bool.false_ne_true)]
  refine wpAny_bind (wpAny_fieldsOf ho hd ?_)
  rw [h11]
  refine wpAny_bind (wpAny_fieldsOf hP rfl ?_)
  show wpAny M A (match codeAmong pos [] with | some c=>pure c | none=>_) Q E s
  rw [h2,h7,h9,h10]
  refine wpAny_bind (wpAny_newCodeX fun c' P' h₁ tk hk hc' hP' hcode' htab' hrec'=>?_)
  have hP₁:=hk _ _ hP
  refine wpAny_bind (wpAny_updateFieldsOfTheText hP₁ rfl ?_)
  have hget:=Heap.get?_update_self (h:=h₁) (Obj.mapFields (fun vs=>if (codeAmong pos vs.toList).isSome=true then vs else vs++#[rawInt pos.line,rawInt pos.col,.ref c'])) hP₁ (Obj.isFreed_of_fields (Obj.data_mapFields rfl _))
  have hget':(h₁.update P (Obj.mapFields (fun vs=>if (codeAmong pos vs.toList).isSome=true then vs else vs++#[rawInt pos.line,rawInt pos.col,.ref c']))).get? P=some (tabObj #[rawInt pos.line,rawInt pos.col,.ref c']):=hget
  refine wpAny_bind (wpAny_fieldsOf hget' rfl ?_)
  have hca:codeAmong pos [rawInt pos.line,rawInt pos.col,.ref c']=some (.ref c'):=codeAmong_snoc (pos:=pos) (c:=.ref c') [] trivial rfl
  rw [show codeAmong pos (#[rawInt pos.line,rawInt pos.col,Value.ref c']:Array Value).toList=some (.ref c') from hca]
  obtain ⟨⟨oc,vc,hoc,hcc,hdc,_⟩,_⟩:=htab'
  obtain ⟨c₂,o₂,vs₂,t₂,e₂,g₂,hd₂,hf₂⟩:=hrec'
  cases e₂
  rw [hoc] at g₂;cases g₂
  have hcP:c'≠P:=Nat.ne_of_gt (Nat.lt_of_lt_of_le (Heap.lt_size hP) hc')
  refine wpAny_pure (hQ _ _ _ (fun b o' hb e=>(Heap.SameBut.update ..).extBut b o' hb (hk b o' e)) hget' ⟨oc,vs₂,t₂,(Heap.SameBut.update ..).extBut _ _ hcP hoc,hcc,hd₂,hf₂⟩)
end
noncomputable def RecAt (h:Heap) (c:Addr) (q:Str):Prop:=∃ o fs t,h.get? c=some o∧o.cls=.type "code" ∧ o.data=.fields fs∧fs[1]?=some (.str q t)
theorem RecAt.rec {h:Heap} {c:Addr} {q:Str} (x:RecAt h c q):h.CodeRec (.ref c) q:=by
  obtain ⟨o,fs,t,ho,_,hd,hf⟩:=x
  exact ⟨c,o,fs,t,rfl,ho,hd,hf⟩
theorem RecAt.to {X:Loc->Prop} {s s':Shared} {c:Addr} {q:Str} (x:RecAt s.heap c q) (T:To X s s'):RecAt s'.heap c q:=by
  obtain ⟨o,fs,t,ho,hc,hd,hf⟩:=x
  exact ⟨o,fs,t,T.code c o ⟨hc,fs,hd⟩ ho,hc,hd,hf⟩
noncomputable abbrev innFn (name qual:Str) (params:Arguments) (body:List Stmt) (scope:Scope) (clo:List (Str × Addr)) (ct cd pm:Value):Obj:=
  { cls:=.type "function", data:=.func ({ name:=name,qualname:=qual,params:=params,body:=.stmts body,scope:=scope,globals:=mainGlobals,closure:=clo,closureTuple:=ct,code:=cd,builtins:=builtinsNs,defaults:=.none,kwdefaults:=.none,annotations:=none,pyModule:=pm,doc:=.none }:FuncData) }
section
variable {w:World} {s₁ sb s:Shared} {N:Addr->Prop} {A:Around} {env:Env} {ρ:List (Str × D)} {γ:List (D × Value)} {X:Loc->Prop} {E:Value->Shared->Prop} {Q:Flow->Shared->Prop}
theorem tab_now (G:GW w s₁) (H:At s₁ s) {P:Addr} (hP:P∈tabs):s.heap.get? P=some (tabObj #[])∨∃ c o fs t,s.heap.get? P=some (tabObj #[rawInt (inAt P).1,rawInt (inAt P).2.1,.ref c])∧s.heap.get? c=some o∧o.cls=.type "code" ∧ o.data=.fields fs∧fs[1]?=some (.str (inAt P).2.2 t):=by
  obtain ⟨more,e,r⟩:=H.tab P hP _ (G.tab P hP)
  rw [Array.empty_append] at e
  rcases r with rfl | ⟨_,c,o,fs,t,rfl,r⟩
  · exact .inl e
  · exact .inr ⟨c,o,fs,t,e,r⟩
theorem code_inner (G:GW w s₁) (H:At s₁ s) {c P:Addr} {pos:Pos} {firstLine:Nat} {name qual:Str} {p:Arguments} {scope:Scope} {body:FuncBody} {oc:Obj} {Q:Value->Shared->Prop} (hP:P∈tabs) (hc:env.code=.ref c) (hcK:(Kw w).lookup c=some oc) (hct:(c==58||c==51)=false)
    (hIs:∀ h:Heap,∀ ps,h.get? c=some oc->h.get? P=some (tabObj ps)->TriplesOk ps.toList->h.IsCode c P ps) (hl:(pos.line:Int)=(inAt P).1) (hk:(pos.col:Int)=(inAt P).2.1) (hq:qual=(inAt P).2.2)
    (h:∀ c' s',To no s s'->RecAt s'.heap c' qual->Q (.ref c') s'):wpAny (Mo w) A (functionCode env pos firstLine name qual p scope body) Q E s:=by
  have hco:=G.get H hcK hct
  rcases tab_now G H hP with hp | ⟨c',o,fs,t,hp,ho,hcl,hd,hf⟩
  · refine code_new hc (hIs _ _ hco hp trivial) hp fun c' h' tk hx hp' hr=>h c' _ ?_ ?_
    · obtain ⟨o,fs,t,ho,hcl,hd,hf⟩:=hr
      refine ⟨fun b o' θ ht e=>hx b o' (fun q=>?_) e,fun P' hP' vs e=>?_,fun b o' hr e=>hx b o' (fun q=>?_) e,fun θ θ θ e=>e,id,rfl⟩
      · subst q
        rw [hp] at e;cases e
        exact ht hP rfl
      · by_cases q:P'=P
        · subst q
          rw [hp] at e
          have:vs=#[]:=by cases e;rfl
          subst this
          refine ⟨#[rawInt (inAt P').1,rawInt (inAt P').2.1,.ref c'],?_,.inr ⟨rfl,c',o,fs,t,rfl,ho,hcl,hd,by rw [← hq];exact hf⟩⟩
          rw [Array.empty_append,← hl,← hk];exact hp'
        · exact ⟨#[],by rw [Array.append_empty];exact hx P' _ q e,.nil⟩
      · subst q
        rw [hp] at e;cases e
        exact nomatch hr.1
    · exact hr
  · refine wpAny_functionCode_hit hc (hIs _ _ hco hp trivial) ?_ (h c' s (To.refl _ _) ⟨o,fs,t,ho,hcl,hd,by rw [hq];exact hf⟩)
    show codeAmong pos [rawInt (inAt P).1,rawInt (inAt P).2.1,.ref c']=_
    rw [← hl,← hk]
    exact codeAmong_snoc (pos:=pos) (c:=.ref c') [] trivial rfl
theorem make_inner (G:GW w s₁) (H:At s₁ s) (K:EnvOk env) {c P:Addr} {pos:Pos} {firstLine:Nat} {name qual:Str} {p:Arguments} {scope:Scope} {body:List Stmt} {oc:Obj} {Q:Value->Shared->Prop} (hP:P∈tabs) (hc:env.code=.ref c) (hcK:(Kw w).lookup c=some oc) (hct:(c==58||c==51)=false)
    (hIs:∀ h:Heap,∀ ps,h.get? c=some oc->h.get? P=some (tabObj ps)->TriplesOk ps.toList->h.IsCode c P ps) (hl:(pos.line:Int)=(inAt P).1) (hk:(pos.col:Int)=(inAt P).2.1) (hq:qual=(inAt P).2.2) (hdoc:docOf body=none)
    (hclo:∀ x,(x,NameKind.free)∈scope.names->∃ c,env.cells.lookup x=some c) (hne:(closeFrom env.cells scope.names []).isEmpty=false)
    (h:∀ f ct c' pm s',To no s s'->NewAt s (.inl f)->s'.heap.get? f=some (innFn name qual p body scope (closeFrom env.cells scope.names []) ct (.ref c') pm)->RecAt s'.heap c' qual->Q (.ref f) s') :
    wpAny (Mo w) A (makeFunction name qual p (.stmts body) scope env [] [] [] pos firstLine) Q E s:=by
  simp only [makeFunction,List.zip_nil_right,List.filterMap_nil,List.isEmpty_nil,if_true,pure_bind,hdoc]
  refine wpAny_bind (closure_for hclo ?_)
  rw [hne]
  simp only [Bool.false_eq_true,if_false]
  refine wpAny_bind (wpAny_newTextTuple ?_)
  have T₁:To no s { s with heap:=s.heap.push { cls:=.type "tuple", data:=.seq ((List.mergeSort (closeFrom env.cells scope.names []) fun a b=>a.1.cps.toList≤b.1.cps.toList).map (Value.ref ·.2)).toArray } }:=To.push _ _
  refine wpAny_bind (code_inner G (H.trans T₁) hP hc hcK hct hIs hl hk hq fun c' s₂ T₂ hr=>?_)
  have T:=T₁.trans T₂
  obtain ⟨mg,bm,ob,hg,hbm,hne0,hob,hcl,hdi,hda⟩:=G.bmain
  have H₂:=H.trans T
  have hg₂:s₂.heap.Ns env.globals mg:=by rw [K.g];exact ns_to H₂ id (by decide) hg
  have hbt:bm∉tabs:=fun q=>by rw [G.tab bm q] at hob;cases hob;cases hcl
  refine wpAny_bind (wpAny_builtinsFor hg₂ hbm hne0 (H₂.keep bm ob id (fun q=>absurd q hbt) hob) hcl hdi hda ?_)
  refine wpAny_bind (wpAny_nsGet hg₂ ?_)
  rw [K.g]
  refine wpAny_newObj_type ?_ (by size_fits)
  refine h _ _ c' ((mg "__name__").getD .none) _ (T.trans (To.push s₂ _)) (NewAt.to (G.tabOk H) T (newAt_ge (Nat.le_refl _))) (Heap.get?_push_size _ rfl) (hr.to (To.push (X:=no) s₂ _))
theorem xs_def (G:GW w s₁) (R:Rel s₁ N X sb env ρ γ s) (K:EnvOk env) {c P:Addr} {pos:Pos} {name:Str} {p:Arguments} {scope:Scope} {body rest:List Stmt} {oc:Obj} (htree:PlainDefTree name p body scope pos) (hP:P∈tabs) (hc:env.code=.ref c) (hcK:(Kw w).lookup c=some oc) (hct:(c==58||c==51)=false)
    (hIs:∀ h:Heap,∀ ps,h.get? c=some oc->h.get? P=some (tabObj ps)->TriplesOk ps.toList->h.IsCode c P ps) (hl:(pos.line:Int)=(inAt P).1) (hk:(pos.col:Int)=(inAt P).2.1) (hq:qualnameIn env name name=(inAt P).2.2) (hdoc:docOf body=none)
    (hclo:∀ x,(x,NameKind.free)∈scope.names->∃ c,env.cells.lookup x=some c) (hne:(closeFrom env.cells scope.names []).isEmpty=false) (S:Sto X env name) (hX:∀ l,X l->¬ NewAt s l)
    (h:∀ f ct c' pm s',NewAt s (.inl f)->s'.heap.get? f=some (innFn name (inAt P).2.2 p body scope (closeFrom env.cells scope.names []) ct (.ref c') pm)->RecAt s'.heap c' (inAt P).2.2->To X s s'->Kp s s'->Rel s₁ N X sb env ((name,.val (.ref f))::ρ) γ s'->Xs w A env rest Q E s') :
    Xs w A env (.FunctionDef name p body [] none [] scope none name pos::rest) Q E s:=by
  refine xs_cons ⟨?_⟩
  rw [htree]
  refine wpAny_bind (wpAny_standAt (wpAny_bind (wpAny_holding (make_inner G R.inv K hP hc hcK hct hIs hl hk hq hdoc hclo hne fun f ct c' pm s' T nf hf hr=>?_))))
  refine wpAny_bind (wpAny_standAt (wpAny_bind (wpAny_bindName ((R.step T).store bears_val S fun s'' T' K' R'=>wpAny_pure ?_))))
  rw [hq] at hf hr
  have hfX:¬ X (.inl f):=fun q=>hX _ q nf
  have hf':=kept_get T' hfX hf rfl
  exact h f ct c' pm s'' nf hf' (hr.to T') (T.of_no.trans T') ((Kp.of_to T).trans K') R'
end
noncomputable abbrev envIn (qual:Str) (scope:Scope) (clo:List (Str × Addr)) (L f:Addr) (cd:Value):Env:=
  { scope:=scope,locals:=L,globals:=mainGlobals,cells:=clo,qual:=qual ++ ".<locals>.", func:=some f,code:=cd,frame:=some L,builtins:=builtinsNs }
theorem clos_enter {w:World} {s₁:Shared} {N:Addr->Prop} {A:Around} {s:Shared} {vs:List Value} {R:Result->Shared->Prop} {n:Nat} {f:Addr} {args:List D} {name qual:Str} {params:Arguments} {body:List Stmt} {scope:Scope} {clo:List (Str × Addr)} {ct pm:Value} {c':Addr} (names:List Str) (ρf:List (Str × D))
    (G:GW w s₁) (ho:s.heap.get? f=some (innFn name qual params body scope clo ct (.ref c') pm)) (hrec:RecAt s.heap c' qual)
    (hb:bindArgs { name:=name,qualname:=qual,params:=params,body:=.stmts body,scope:=scope,globals:=mainGlobals,closure:=clo,closureTuple:=ct,code:=.ref c',builtins:=builtinsNs,defaults:=.none,kwdefaults:=.none,annotations:=none,pyModule:=pm,doc:=.none } ⟨vs,[]⟩=pure (names.zip vs))
    (hnd:names.Nodup) (hnk:∀ x∈names,scope.names.lookup x=some .local) (hnc:∀ x∈scope.names,x.2≠.cell) (hk:scope.kind=.function) (hco:scope.isCoroutine=false) (hgen:scope.isGenerator=false)
    (hA:Rm (n+1) A) (HH:At s₁ s) (nex:Nex N s) (b:BearsAll N s.heap args vs) (hlen:args.length=names.length)
    (hcel:∀ y,scope.names.lookup y=some .free->∃ c ov,clo.lookup y=some c∧s.heap.IsCell c ov∧c∉tabs∧∀ d,ρf.lookup y=some d->∃ v,ov=some v∧Bears N s.heap d v)
    (hap:∀ x y c,clo.lookup x=some c->clo.lookup y=some c->x=y) (hρf:∀ y,scope.names.lookup y=some .local->ρf.lookup y=none)
    (h:∀ L s',To no s s'->Rm n (A.deeper (envIn qual scope clo L f (.ref c')))->NewAt s (.inl L)->EnvOk (envIn qual scope clo L f (.ref c'))->Rel s₁ N (one L) s' (envIn qual scope clo L f (.ref c')) (names.zip args++ρf) [] s' ->
      Xs w (A.deeper (envIn qual scope clo L f (.ref c'))) (envIn qual scope clo L f (.ref c')) body (fun fl s''=>R (.ok (.ret (match fl with | .ret v=>v | _=>.none))) s'')
        (fun e s''=>wpAny (Mo w) (A.deeper (envIn qual scope clo L f (.ref c'))) (leaving (envIn qual scope clo L f (.ref c')) e) (fun θ s₃=>R (.error e) s₃) (fun e' s₃=>R (.error e') s₃) s'') s') :
    codeAny (Mo w) A (.call (.ref f) ⟨vs,[]⟩) R s:=by
  refine codeAny_call_function hA.lt ho rfl hco hgen rfl hrec.rec ?_
  rw [hb]
  have hlv:vs.length=names.length:=(all_length b).trans hlen
  refine wpAny_pure (wpAny_newFunctionEnv hnc (fun x hx=>hnk _ ((zip_names (vs:=vs) hnd).2 _ (List.mem_map_of_mem hx))) (fun h' hn hs=>?_) hk)
  have hL:NewAt s (.inl s.heap.objs.size):=newAt_ge (Nat.le_refl _)
  have T:To no s { s with heap:=h',toks:=s.toks+(names.zip vs).length }:=To.heap fun a o e=>(hs.2 a (Nat.ne_of_lt (Heap.lt_size e))).trans (Heap.get?_push_of_some _ e)
  have htab:=G.tabOk HH
  have hLt:s.heap.objs.size∉tabs:=newAt_notab htab hL
  have hrev:∀ x v,(names.zip vs).lookup x=some v->(names.zip vs).reverse.lookup x=some v:=fun x v e=>by
    have hn1:=(zip_names (vs:=vs) hnd).1
    have:∀ (l:List (Str × Value)),(l.map (·.1)).Nodup->l.lookup x=some v->l.reverse.lookup x=some v:=by
      intro l
      induction l with
      | nil=>intro _ e;simp at e
      | cons p r ih=>
        intro hn e
        obtain ⟨y,u⟩:=p
        rw [List.map_cons,List.nodup_cons] at hn
        rw [List.reverse_cons,List.lookup_append]
        by_cases q:x=y
        · subst q
          rw [lookup_eq] at e;cases e
          have:r.reverse.lookup x=none:=by
            rw [List.lookup_eq_none_iff]
            intro z hz
            rw [List.mem_reverse] at hz
            have:z.1≠x:=fun q=>hn.1 (List.mem_map.mpr ⟨z,hz,q⟩)
            exact bne_iff_ne.mpr (Ne.symm this)
          rw [this];exact lookup_eq
        · rw [lookup_ne q] at e
          rw [ih hn.2 e];rfl
    exact this _ hn1 e
  have hz:∀ y,scope.names.lookup y=some .free->(names.zip args).lookup y=none:=fun y hy=>by
    rw [List.lookup_eq_none_iff]
    intro z hz
    have hm:=(zip_names (vs:=args) hnd).2 _ (List.mem_map_of_mem hz)
    have hl:=hnk _ hm
    refine bne_iff_ne.mpr fun q=>?_
    rw [← q,hy] at hl;cases hl
  have R₀:Rel s₁ N (one s.heap.objs.size) { s with heap:=h',toks:=s.toks+(names.zip vs).length } (envIn qual scope clo s.heap.objs.size f (.ref c')) (names.zip args++ρf) [] { s with heap:=h',toks:=s.toks+(names.zip vs).length }:=by
    refine ⟨HH.trans T,To.refl _ _,fun l hl=>by rw [hl];exact At.of_new G HH hL,rfl,⟨_,hn,fun y d' hk' hd'=>?_⟩,fun y k hk' hq=>?_,hap,hLt,(fun p hp=>nomatch hp),nex.to htab T,htab.to T⟩
    · have hk2:scope.names.lookup y=some .local:=hk'
      rw [List.lookup_append,hρf y hk2,Option.or_none] at hd'
      obtain ⟨v,e,b'⟩:=zip_look b hd'
      exact ⟨v,hrev _ _ e,b'.to T⟩
    · have hk2:scope.names.lookup y=some k:=hk'
      rcases hq with rfl | rfl
      · exact absurd rfl (hnc _ (mem_of_lookup hk2))
      · obtain ⟨c,ov,hc,hi,ht,r⟩:=hcel y hk2
        refine ⟨c,ov,hc,cell_to T ht hi,ht,fun d hd=>?_⟩
        rw [List.lookup_append,hz y hk2,Option.none_or] at hd
        obtain ⟨v,e,b'⟩:=r d hd
        exact ⟨v,e,b'.to T⟩
  exact ⟨G.nolimit (HH.trans T),codeAny_func (h _ _ T hA.deeper hL ⟨hk,rfl,rfl⟩ R₀).run⟩
structure Clos (N:Addr->Prop) (f:Addr) (fn:Obj) (c':Addr) (qual:Str) (clo:List (Str × Addr)) (scope:Scope) (ρf:List (Str × D)) (s:Shared):Prop where
  fo:s.heap.get? f=some fn
  fr:RecAt s.heap c' qual
  cel:∀ y,scope.names.lookup y=some .free->∃ c ov,clo.lookup y=some c∧s.heap.IsCell c ov∧c∉tabs∧∀ d,ρf.lookup y=some d->∃ v,ov=some v∧Bears N s.heap d v
  ap:∀ x y c,clo.lookup x=some c->clo.lookup y=some c->x=y
theorem Clos.to {N:Addr->Prop} {f:Addr} {fn:Obj} {c':Addr} {qual:Str} {clo:List (Str × Addr)} {scope:Scope} {ρf:List (Str × D)} {s s':Shared} (x:Clos N f fn c' qual clo scope ρf s) (hf:fn.cls=.type "function") (T:To no s s'):Clos N f fn c' qual clo scope ρf s':=
  ⟨kept_get T id x.fo hf,x.fr.to T,fun y hy=>by
    obtain ⟨c,ov,hc,hi,ht,r⟩:=x.cel y hy
    exact ⟨c,ov,hc,cell_to T ht hi,ht,fun d hd=>let ⟨v,e,b⟩:=r d hd;⟨v,e,b.to T⟩⟩,x.ap⟩
theorem close_apart {cells:List (Str × Addr)} {names:List (Str × NameKind)} (h:∀ x y c,cells.lookup x=some c->cells.lookup y=some c->x=y) (hc:∀ x,(x,NameKind.free)∈names->∃ c,cells.lookup x=some c):∀ x y c,(closeFrom cells names []).lookup x=some c->(closeFrom cells names []).lookup y=some c->x=y:=fun x y c hx hy=>by
  have key:∀ x,(closeFrom cells names []).lookup x=some c->cells.lookup x=some c:=fun x hx=>by
    rcases closeFrom_look _ _ _ _ hx with ⟨hm,e⟩ | h
    · obtain ⟨c',hc'⟩:=hc x hm
      rw [hc'] at e;rw [hc',e];rfl
    · simp at h
  exact h x y c (key x hx) (key y hy)
theorem look_none {α:Type} {ρ:List (Str × α)} {y:Str} (h:y∉ρ.map (·.1)):ρ.lookup y=none:=by
  rw [List.lookup_eq_none_iff]
  intro p hp
  exact bne_iff_ne.mpr fun q=>h (List.mem_map.mpr ⟨p,hp,q.symm⟩)
section
variable {w:World} {s₁ sb s:Shared} {N:Addr->Prop} {A:Around} {env:Env} {ρ:List (Str × D)} {γ:List (D × Value)} {X:Loc->Prop}
theorem eval_callC {f e:Expr} {args:List Expr} {pos:Pos} {fa:Addr} {ds:List D} {o:Obj} {fd:FuncData} {Q:Value->Shared->Prop} {E:Value->Shared->Prop} (R:Rel s₁ N X sb env ρ γ s)
    (x:Ev w s₁ A env ρ f (.val (.ref fa))) (y:Evs w s₁ A env ρ (backTo pos (starEach (e::args) env)) ds)
    (ho:s.heap.get? fa=some o) (hof:o.cls=.type "function") (hod:o.data=.func fd)
    (hc:eval (.Call f (e::args) [] pos) env=(do callWith pos (← eval f env) [] (backTo pos (starEach (e::args) env)) [])) (hs:starEach (e::args) env=(false,eval e env)::starEach args env)
    (h:∀ vs s',To no s s'->BearsAll N s'.heap ds vs->codeAny (Mo w) A (.call (.ref fa) ⟨vs,[]⟩) (fun r s''=>match r with | .ok (.ret v)=>Q v s'' | .ok _=>False | .error e=>E e s'') s'):wpAny (Mo w) A (eval (.Call f (e::args) [] pos) env) Q E s:=by
  rw [hc]
  refine wpAny_bind (x.use R fun u s' T bu=>?_)
  obtain rfl:=of_val bu
  refine Calls.callWith_function (o:=o) (fd:=fd) ?_
  rw [hs] at y ⊢
  refine Calls.evalArgs_plain (y.use (R.step T) fun vs s'' T' bs=>⟨⟨kept_get (T.trans T') id ho hof,hod⟩,wpAny_call ?_⟩)
  exact h vs s'' (T.trans T') bs
end
noncomputable def makerOf (i:Nat):List Stmt × Scope:=match (prog.main.body[i]?:Option Stmt) with
  | some (.FunctionDef _ _ body _ _ _ scope _ _ _)=>(body,scope)
  | _=>([],default)
noncomputable def innOf:List Stmt->Arguments × List Stmt × Scope
  | .FunctionDef _ p body _ _ _ scope _ _ _::_=>(p,body,scope)
  | _::r=>innOf r
  | []=>(default,[],default)
noncomputable def valOf (m:Nat):List Int->Int
  | []=>0
  | d::r=>d+valOf m r*2^m
theorem valOf_append (m:Nat):∀ xs ys:List Int,valOf m (xs++ys)=valOf m xs+valOf m ys*2^(m*xs.length)
  | [],ys=>by simp [valOf]
  | x::xs,ys=>by
    rw [List.cons_append,valOf,valOf,valOf_append m xs ys,List.length_cons,Nat.mul_succ,Int.pow_add]
    grind
theorem valOf_range (m:Nat):∀ xs:List Int,(∀ x,x∈xs->0≤x∧x<2^m)->0≤valOf m xs∧valOf m xs<2^(m*xs.length)
  | [],_=>by simp [valOf]
  | x::xs,h=>by
    obtain ⟨h1,h2⟩:=valOf_range m xs fun y hy=>h y (List.mem_cons_of_mem _ hy)
    obtain ⟨h3,h4⟩:=h x List.mem_cons_self
    have hp:(0:Int)<2^m:=Int.pow_pos (by decide)
    rw [valOf,List.length_cons,Nat.mul_succ,Int.pow_add]
    have h5:=Int.mul_nonneg h1 (Int.le_of_lt hp)
    have h6:(valOf m xs+1)*2^m≤2^(m*xs.length)*2^m:=Int.mul_le_mul_of_nonneg_right (by omega) (Int.le_of_lt hp)
    rw [Int.add_mul,Int.one_mul] at h6
    exact ⟨by omega,by omega⟩
noncomputable abbrev d2iInn:Arguments × List Stmt × Scope:=innOf (makerOf 9).1
noncomputable abbrev d2iEnv (L:Addr):Env:=envOfC "_digits2int" (makerOf 9).2 L 63 (.ref 62)
noncomputable abbrev d2iClo (L:Addr):List (Str × Addr):=closeFrom (d2iEnv L).cells d2iInn.2.2.names []
noncomputable abbrev d2iFn (L:Addr) (ct:Value) (c':Addr) (pm:Value):Obj:=innFn "inner" "_digits2int.<locals>.inner" d2iInn.1 d2iInn.2.1 d2iInn.2.2 (d2iClo L) ct (.ref c') pm
noncomputable abbrev d2iKnown (ds:List Int) (m:Nat) (f:Addr):List (Str × D):=[("digits", .lst (ds.map D.int)),("n", .int m),("inner", .val (.ref f))]
theorem half {L R:Nat} (h:L+1<R):L<(L+R) / 2∧(L+R) / 2<R:=by omega +splitNatSub
theorem shr1 (x:Nat):((x:Int).fdiv (2^(1:Int).toNat))=((x / 2:Nat):Int):=by
  show (x:Int).fdiv 2=_
  rw [Int.fdiv_eq_ediv_of_nonneg _ (by decide)];push_cast;rfl
theorem d2i_loc {ds:List Int} {m:Nat} {f:Addr}:∀ y,d2iInn.2.2.names.lookup y=some .local->(d2iKnown ds m f).lookup y=none:=fun y hy=>by
  have key:∀ p,p∈d2iInn.2.2.names->p.2=.local->p.1∉(["digits", "n", "inner"]:List Str):=by decide
  exact look_none (key _ (mem_of_lookup hy) rfl)
noncomputable def sl (ds:List Int) (L R:Nat):List Int:=(ds.drop L).take (R-L)
theorem sl_one {ds:List Int} {L:Nat} (h:L<ds.length):sl ds L (L+1)=[ds[L]]:=by
  unfold sl
  rw [List.drop_eq_getElem_cons h,show L+1-L=1 by omega];rfl
theorem sl_app {ds:List Int} {L M R:Nat} (h1:L≤M) (h2:M≤R):sl ds L R=sl ds L M++sl ds M R:=by
  unfold sl
  have e:=ssub h1 h2
  rw [e,List.take_add,List.drop_drop]
  congr 3;omega
theorem sl_len {ds:List Int} {L R:Nat} (h:R≤ds.length):(sl ds L R).length=R-L:=by
  unfold sl
  rw [List.length_take,List.length_drop,Nat.min_eq_left (Nat.sub_le_sub_right h L)]
theorem sl_mem {ds:List Int} {L R:Nat} {x:Int} (h:x∈sl ds L R):x∈ds:=List.mem_of_mem_drop (List.mem_of_mem_take h)
theorem int_1 {N:Addr->Prop} {h:Heap} {a:Int} {vs:List Value} (b:BearsAll N h [.int a] vs):∃ t,vs=[.int a t]:=by
  obtain ⟨v,e,b⟩:=one_arg b
  obtain ⟨t,e'⟩:=of_int b
  exact ⟨t,by rw [e,e']⟩
theorem int_2 {N:Addr->Prop} {h:Heap} {a b:Int} {vs:List Value} (x:BearsAll N h [.int a,.int b] vs):∃ t u,vs=[.int a t,.int b u]:=by
  obtain ⟨_,_,e,b1,x⟩:=all_cons_iff.mp x
  obtain ⟨u,e2⟩:=int_1 x
  obtain ⟨t,e1⟩:=of_int b1
  exact ⟨t,u,by rw [e,e1,e2]⟩
theorem int_3 {N:Addr->Prop} {h:Heap} {a b c:Int} {vs:List Value} (x:BearsAll N h [.int a,.int b,.int c] vs):∃ t u v,vs=[.int a t,.int b u,.int c v]:=by
  obtain ⟨_,_,e,b1,x⟩:=all_cons_iff.mp x
  obtain ⟨u,v,e2⟩:=int_2 x
  obtain ⟨t,e1⟩:=of_int b1
  exact ⟨t,u,v,by rw [e,e1,e2]⟩
noncomputable def D2i (w:World) (s₁:Shared) (m:Nat) (ds:List Int) (f c' Lm:Addr) (ct pm:Value) (k:Nat):Prop:=
  ∀ (L R:Nat) (N:Addr->Prop) (A:Around) (s:Shared) (P:Result->Shared->Prop),L<R->R≤ds.length->R-L≤2^k->Rm (k+1) A->A.handled=none->At s₁ s->Nex N s->Clos N f (d2iFn Lm ct c' pm) c' "_digits2int.<locals>.inner" (d2iClo Lm) d2iInn.2.2 (d2iKnown ds m f) s ->
    (∀ t s',To no s s'->P (.ok (.ret (.int (valOf m (sl ds L R)) t))) s')->∀ vs,BearsAll N s.heap [.int L,.int R] vs->codeAny (Mo w) A (.call (.ref f) ⟨vs,[]⟩) P s
theorem d2i_size {m L M R:Nat} {ds:List Int} (hds:∀ x,x∈ds->0≤x∧x<2^m) (hz:m*ds.length≤2^25) (hz2:ds.length≤2^20) (h1:L<M) (h2:M<R) (hR:R≤ds.length):IntMulOk ((M:Int)-L) m∧(Builtin.Int.intBits (valOf m (sl ds M R)):Int)+((m*(M-L):Nat):Int)≤2^27:=by
  have hMR:=Nat.le_trans (Nat.le_of_lt h2) hR
  have hmM:m*(M-L)≤2^25:=Nat.le_trans (Nat.mul_le_mul_left m (Nat.le_trans (Nat.sub_le _ _) hMR)) hz
  have hmR:m*(R-M)≤2^25:=Nat.le_trans (Nat.mul_le_mul_left m (Nat.le_trans (Nat.sub_le _ _) hR)) hz
  have hm1:m≤2^25:=Nat.le_trans (Nat.le_mul_of_pos_right m (Nat.sub_pos_of_lt h1)) hmM
  refine ⟨IntMulOk.of_le (m:=30) (n:=30) (bits_le (subN h1 hMR hz2)) (bits_le (Nat.lt_of_le_of_lt hm1 (by decide))) (by decide),?_⟩
  obtain ⟨v0,v1⟩:=valOf_range m (sl ds M R) fun x hx=>hds x (sl_mem hx)
  rw [sl_len hR] at v1
  have h':((valOf m (sl ds M R)).natAbs:Int)<2^(m*(R-M)):=by omega
  have hb:(valOf m (sl ds M R)).natAbs<2^(m*(R-M)):=by exact_mod_cast h'
  have:=bits_le hb
  omega
theorem d2i_join {m L M R:Nat} {ds:List Int} (h1:L<M) (h2:M<R) (hR:R≤ds.length):valOf m (sl ds M R)*2^(((m*(M-L):Nat):Int)).toNat+valOf m (sl ds L M)=valOf m (sl ds L R):=by
  rw [sl_app (Nat.le_of_lt h1) (Nat.le_of_lt h2),valOf_append,sl_len (by omega),Int.add_comm,Int.toNat_natCast]
theorem d2i_body {w:World} {s₁:Shared} (G:GW w s₁) {m:Nat} {ds:List Int} {Lm f c':Addr} {ct pm:Value} (hds:∀ x,x∈ds->0≤x∧x<2^m) (hz:m*ds.length≤2^25) (hz2:ds.length≤2^20) (k:Nat) (IH:∀ j,j+1=k->D2i w s₁ m ds f c' Lm ct pm j):D2i w s₁ m ds f c' Lm ct pm k:=by
  intro L R N A s P hLR hR hk hA hh H nex C hP vs bvs
  refine clos_enter (args:=[.int L,.int R]) ["L", "R"] (d2iKnown ds m f) G C.fo C.fr (by obtain ⟨_,_,rfl⟩:=int_2 bvs;rfl) (by decide) (by decide) (by decide) rfl rfl rfl hA H nex bvs rfl C.cel C.ap d2i_loc fun L' s' T₀ hA' hL' K R'=>?_
  have TT:∀ s₅,To (one L') s' s₅->To no s s₅:=fun s₅ T=>(T₀.of_no.trans T).less fun p hp=>.inr (by rw [hp];exact hL')
  have Cat:∀ s₅,To (one L') s' s₅->Clos N f (d2iFn Lm ct c' pm) c' "_digits2int.<locals>.inner" (d2iClo Lm) d2iInn.2.2 (d2iKnown ds m f) s₅:=fun s₅ T=>C.to rfl (TT _ T)
  generalize hAe:A.deeper _=A' at hA' ⊢
  have hh':A'.handled=none:=by rw [← hAe];exact hh
  clear hAe hh hA T₀ C bvs hL' nex H
  refine xs_if R' (ts_cmp (ev_add (ev_var K rfl rfl rfl) ev_int) (ev_var K rfl rfl rfl) op_eq rfl) (fun hc s₂ T R₂=>?_) fun hc s₂ T R₂=>xs_nil ?_
  · have e:R=L+1:=by
      have:(((L:Int)+1)==(R:Int))=true:=hc
      simp only [beq_iff_eq] at this;omega
    subst e
    have hL:L<ds.length:=hR
    refine xs_return R₂ (d:=.int ds[L]) (ev_item_lst (i:=(L:Int)) (ev_var K rfl rfl rfl) (ev_var K rfl rfl rfl) (Int.natCast_nonneg _) (by omega) (by simp [hL]) (fun θ θ=>⟨_,rfl⟩)) fun v s₃ T₃ b=>?_
    obtain ⟨t,rfl⟩:=of_int b
    have:=hP t s₃ (TT _ (R₂.to.trans T₃.of_no))
    rw [sl_one hL] at this
    simpa [valOf] using this
  · have e:L+1<R:=by
      have:(((L:Int)+1)==(R:Int))=false:=hc
      have:¬ ((L:Int)+1=R):=by simpa using this
      omega
    obtain ⟨h1,h2⟩:=half e
    obtain ⟨j,hj⟩:∃ j,j+1=k:=by
      cases k with
      | zero=>exact absurd hk (one_lt_sub e)
      | succ k=>exact ⟨k,rfl⟩
    have IH:=IH j hj
    obtain ⟨M,hM,hML,hRM⟩:∃ M,(L+R) / 2=M∧M-L≤2^j∧R-M≤2^j:=⟨_,rfl,by rw [← hj,Nat.pow_succ] at hk;exact halves e hk⟩
    rw [hM] at h1 h2
    rw [← hj] at hA'
    clear hj hk e hc
    obtain ⟨z1,z2⟩:=d2i_size hds hz hz2 h1 h2 hR
    refine xs_assign R₂ (d:=.int (M:Int)) (Ev.conv (ev_shr (ev_add (ev_var K rfl rfl rfl) (ev_var K rfl rfl rfl)) ev_int (by decide)) (by rw [← Int.natCast_add,shr1,hM])) (.local rfl rfl) rfl fun s₃ T₃ θ R₃=>?_
    refine xs_assign R₃ (d:=.int ((m*(M-L):Nat):Int)) (Ev.conv (ev_mul (ev_sub (ev_var K rfl rfl rfl) (ev_var K rfl rfl rfl)) (ev_var K rfl rfl rfl) z1) (by rw [Nat.mul_comm,Int.natCast_mul,Int.natCast_sub (Nat.le_of_lt h1)])) (.local rfl rfl) rfl fun s₄ T₄ θ R₄=>?_
    clear T T₃ T₄ R₂ R₃ R' z1
    refine xs_cons ⟨wpAny_Return_some (wpAny_BinOp (wpAny_BinOp ?_))⟩
    refine eval_callC (ds:=[.int M,.int R]) R₄ (ev_var K rfl rfl rfl) (by exact evs_cons (ev_var K rfl rfl rfl) (evs_cons (ev_var K rfl rfl rfl) evs_nil)) (Cat _ R₄.to).fo rfl rfl rfl rfl fun vs s₅ T₅ bs=>?_
    have R₅:=R₄.step T₅
    refine IH M R N _ s₅ _ h2 hR hRM hA' hh' R₅.inv R₅.nex (Cat _ R₅.to) (fun t3 s₆ T₆=>?_) vs bs
    have R₆:=R₅.step T₆
    refine (ev_var (w:=w) (s₁:=s₁) (x := "shift") K rfl rfl rfl).use R₆ fun u s₇ T₇ bu=>?_
    obtain ⟨t4,rfl⟩:=of_int bu
    refine lshift_int (Int.natCast_nonneg _) z2 ?_
    have R₈:=(R₆.step T₇).step (s':={ s₇ with toks:=s₇.toks+1 }) (To.toks _ _)
    refine eval_callC (ds:=[.int L,.int M]) R₈ (ev_var K rfl rfl rfl) (by exact evs_cons (ev_var K rfl rfl rfl) (evs_cons (ev_var K rfl rfl rfl) evs_nil)) (Cat _ R₈.to).fo rfl rfl rfl rfl fun vs s₉ T₉ bs=>?_
    have R₉:=R₈.step T₉
    refine IH L M N _ s₉ _ h1 (by omega) hML hA' hh' R₉.inv R₉.nex (Cat _ R₉.to) (fun t7 sa Ta=>?_) vs bs
    refine add_int ?_
    rw [d2i_join h1 h2 hR]
    exact hP _ _ (TT _ ((R₉.step Ta).to.trans (To.toks _ _)))
theorem d2i_inner {w:World} {s₁:Shared} (G:GW w s₁) {m:Nat} {ds:List Int} {Lm f c':Addr} {ct pm:Value} (hds:∀ x,x∈ds->0≤x∧x<2^m) (hz:m*ds.length≤2^25) (hz2:ds.length≤2^20):∀ k,D2i w s₁ m ds f c' Lm ct pm k
  | 0=>d2i_body G hds hz hz2 0 fun j h=>nomatch h
  | k+1=>d2i_body G hds hz hz2 (k+1) fun j h=>Nat.succ.inj h▸d2i_inner G hds hz hz2 k
theorem tr_list {w:World} {s₁:Shared} {A:Around} {ds:List D} (hz:ds.length<2^63):∀ N s u,Bears N s.heap (.lst ds) u->Op w s₁ N A s (truthy u) fun c θ=>c=!ds.isEmpty:=fun N s u b θ θ=>by
  obtain ⟨a,vs,rfl,_,hl,ba⟩:=of_lst b
  have hlen:=all_length ba
  refine wpAny_truthy_list hl (by rw [List.size_toArray,hlen];exact_mod_cast hz) ⟨To.toks s (s.toks+1+1),?_⟩
  cases ds with
  | nil=>rw [all_nil_iff.mp ba];rfl
  | cons d r=>obtain ⟨v,r',rfl,_⟩:=all_cons_iff.mp ba;rfl
theorem clos_make {N:Addr->Prop} {s₁ sb s:Shared} {X:Loc->Prop} {env:Env} {ρ ρf:List (Str × D)} {γ:List (D × Value)} {f c':Addr} {fn:Obj} {qual:Str} {scope:Scope} (R:Rel s₁ N X sb env ρ γ s) (fo:s.heap.get? f=some fn) (fr:RecAt s.heap c' qual) (hclo:∀ x,(x,NameKind.free)∈scope.names->∃ c,env.cells.lookup x=some c)
    (hc:∀ y,scope.names.lookup y=some .free->env.kindOf y=some .cell) (hρ:∀ y,scope.names.lookup y=some .free->∀ d,ρf.lookup y=some d->ρ.lookup y=some d):Clos N f fn c' qual (closeFrom env.cells scope.names []) scope ρf s:=by
  refine ⟨fo,fr,fun y hy=>?_,close_apart R.apart hclo⟩
  obtain ⟨c,ov,h1,h2,h3,h4⟩:=R.cel y .cell (hc y hy) (.inl rfl)
  refine ⟨c,ov,?_,h2,h3,fun d hd=>h4 d (hρ y hy d hd)⟩
  obtain ⟨c₂,e₂⟩:=closeFrom_has (cells:=env.cells) scope.names [] y (.inl (mem_of_lookup hy))
  rcases closeFrom_look _ _ _ _ e₂ with ⟨_,e⟩ | e
  · rw [h1] at e;rw [e₂,e];rfl
  · simp at e
theorem d2i_clo {L:Addr}:∀ x,(x,NameKind.free)∈d2iInn.2.2.names->∃ c,(d2iEnv L).cells.lookup x=some c:=fun x hx=>cellsFrom_has _ _ _ (.inl (by
  have key:∀ p,p∈d2iInn.2.2.names->p.2=.free->(makerOf 9).2.names.lookup p.1=some .cell:=by decide
  exact key _ hx rfl))
theorem f_d2i {w:World} {s₁:Shared} (G:GW w s₁) {n m:Nat} {ds:List Int} (hds:∀ x,x∈ds->0≤x∧x<2^m) (hz:m*ds.length≤2^25) (hz2:ds.length≤2^10):Fn w s₁ h0 (n+12) 63 [.lst (ds.map D.int),.int m] (.int (valOf m ds)):=by
  refine fn_enter (fun A s s' env h T=>h) ["digits", "n"] G rfl rfl (by kernel_rfl) (fun s vs h=>by obtain ⟨a,b,rfl⟩:=len2 h;exact BindsTo.of_eq rfl) (by decide) (by decide) (by decide) rfl rfl rfl fun N A s L hA hh ⟨s₀,h₀,hown⟩ K R=>?_
  refine xs_def (c:=62) (P:=58) (oc:=c62) G R K (fun θ=>rfl) (by decide) rfl rfl rfl (fun h ps h1 h2 h3=>⟨_,_,_,_,_,_,_,_,_,_,h1,rfl,rfl,rfl,rfl,rfl,rfl,h2,rfl,h3,by decide⟩) rfl rfl rfl rfl d2i_clo rfl (.cell rfl rfl (own_cell rfl)) (own_there R) fun f ct c' pm s₂ nf fo fr T K' R₂=>?_
  have C:Clos N f (d2iFn L ct c' pm) c' "_digits2int.<locals>.inner" (d2iClo L) d2iInn.2.2 (d2iKnown ds m f) s₂:=clos_make R₂ fo fr d2i_clo (fun y hy=>by
    have key:∀ p,p∈d2iInn.2.2.names->p.2=.free->(makerOf 9).2.names.lookup p.1=some .cell:=by decide
    exact key _ (mem_of_lookup hy) rfl) (fun y hy d hd=>by
    have h:=mem_of_lookup hd
    simp only [d2iKnown,List.mem_cons,Prod.mk.injEq,List.not_mem_nil,or_false] at h
    rcases h with ⟨rfl,rfl⟩ | ⟨rfl,rfl⟩ | ⟨rfl,rfl⟩<;>rfl)
  refine xs_cons ⟨wpAny_Return_some (wpAny_IfExp ((ts_plain (ev_var K rfl rfl rfl) (tr_list (by rw [List.length_map];omega)) (fun θ=>rfl)).use R₂ fun cb s₃ T₃ e=>?_))⟩
  have R₃:=R₂.step T₃
  subst e
  by_cases hds0:ds=[]
  · rw [if_neg (by rw [hds0];decide)]
    refine (ev_int (i:=0)).use R₃ fun v s₄ T₄ b=>?_
    rw [hds0]
    exact ⟨R₃.to.trans T₄.of_no,b⟩
  · have hl0:0<ds.length:=List.length_pos_iff.mpr hds0
    rw [if_pos (by rw [List.isEmpty_map];simpa using hds0)]
    have C₃:=C.to rfl T₃
    refine eval_callC (ds:=[.int (0:Nat),.int ((ds.map D.int).length:Nat)]) R₃ (ev_var K rfl rfl rfl) (by exact evs_cons ev_int (evs_cons (ev_len_l G K (ev_var K rfl rfl rfl) rfl rfl rfl (by rw [List.length_map];omega)) evs_nil)) C₃.fo rfl rfl rfl rfl fun vs s₄ T₄ bs=>?_
    have R₄:=R₃.step T₄
    rw [List.length_map] at bs
    refine d2i_inner G hds hz (Nat.le_trans hz2 (by decide)) 10 0 ds.length N A s₄ _ hl0 (Nat.le_refl _) (by omega +splitNatSub) (hA.mono (by omega)) hh R₄.inv R₄.nex (C₃.to rfl T₄) (fun t3 s₅ T₅=>?_) vs bs
    have hsl:sl ds 0 ds.length=ds:=by unfold sl;simp
    refine ⟨R₄.to.trans T₅.of_no,?_⟩
    rw [hsl]
    exact bears_int
section
variable {w:World} {s₁ sb s:Shared} {N:Addr->Prop} {A:Around} {env:Env} {ρ:List (Str × D)} {γ:List (D × Value)} {X:Loc->Prop} {E:Value->Shared->Prop} {Q:Flow->Shared->Prop}
theorem xs_newl (G:GW w s₁) {x:Str} {p pos:Pos} {e:Expr} {ds:List D} {rest:List Stmt} (R:Rel s₁ N (Own env) sb env ρ γ s) (he:∀ (Q:Value->Shared->Prop) (E:Value->Shared->Prop),(∀ vs s',To no s s'->BearsAll N s'.heap ds vs->Q (.ref s'.heap.objs.size) { s' with heap:=s'.heap.push { cls:=.type "list", data:=.seq vs.toArray } })->wpAny (Mo w) A (eval e env) Q E s) (S:Sto (Own env) env x)
    (hs:swapsWith e (some (.Name x p)) pos.line env=pure false)
    (h:∀ l s',NewAt sb (.inl l)->¬ N l->¬ Own env (.inl l)->Out (orN N l) l ds s'->Rel s₁ (orN N l) (OwnL env l) sb env ((x,.val (.ref l))::ρ) γ s'->Xs w A env rest Q E s'):Xs w A env (.Assign [.Name x p] e pos::rest) Q E s:=by
  refine xs_cons ⟨wpAny_Assign_Name (he _ _ fun vs s' T b=>?_) hs⟩
  have R':=R.step T
  have T':To no s' { s' with heap:=s'.heap.push { cls:=.type "list", data:=.seq vs.toArray } }:=To.push _ _
  have hnew:NewAt s' (.inl s'.heap.objs.size):=newAt_ge (Nat.le_refl _)
  have hnb:NewAt sb (.inl s'.heap.objs.size):=by
    have key:∀ b,sb.heap.get? b≠none->(Own env (.inl b))∨s'.heap.get? b≠none:=fun b hb=>by
      by_cases q:Own env (.inl b)
      · exact .inl q
      · refine .inr ?_
        cases eb:sb.heap.get? b with
        | none=>exact absurd eb hb
        | some o=>
          by_cases ht:b∈tabs
          · obtain ⟨us,eu⟩:=R'.tabs b ht
            rw [eu];exact fun z=>nomatch z
          · rw [R'.to.keep b o q (fun z=>absurd z ht) eb];exact fun z=>nomatch z
    show sb.heap.get? _=none
    cases eb:sb.heap.get? s'.heap.objs.size with
    | none=>rfl
    | some o=>
      rcases key s'.heap.objs.size (by rw [eb];exact fun z=>nomatch z) with q | q
      · exact absurd hnew (own_there R' _ q)
      · exact absurd hnew q
  have hno:¬ Own env (.inl s'.heap.objs.size):=fun q=>own_there R' _ q hnew
  have hl:Lst (s'.heap.push { cls:=.type "list", data:=.seq vs.toArray }) s'.heap.objs.size vs:=⟨_,Heap.get?_push_size _ rfl⟩
  have R₁:Rel s₁ (orN N s'.heap.objs.size) (OwnL env s'.heap.objs.size) sb env ρ γ { s' with heap:=s'.heap.push { cls:=.type "list", data:=.seq vs.toArray } }:=by
    refine ⟨R'.inv.trans T',(R'.to.mono fun θ h=>.inl h).trans T'.of_no,fun l h=>h.elim (R'.xnew l) fun e=>by rw [e];exact At.of_new G R'.inv hnew,.inl R'.xloc,?_,fun y k hk hq=>?_,R'.apart,R'.ltab,fun p hp=>((R'.gh p hp).more hnew).to T',fun a ha=>?_,R'.tabs.to T'⟩
    · obtain ⟨m,hm,k⟩:=R'.ns
      exact ⟨m,ns_to' T' id R'.ltab hm,fun y d hk hd=>let ⟨v,e,b⟩:=k y d hk hd;⟨v,e,(b.more hnew).to T'⟩⟩
    · obtain ⟨c,ov,hc,hi,ht,r⟩:=R'.cel y k hk hq
      exact ⟨c,ov,hc,cell_to T' ht hi,ht,fun d hd=>let ⟨v,e,b⟩:=r d hd;⟨v,e,(b.more hnew).to T'⟩⟩
    · rcases ha with ha | rfl
      · exact (R'.nex.to R'.tabs T') a ha
      · obtain ⟨m,ho⟩:=hl
        exact there_get (s:={ s' with heap:=s'.heap.push { cls:=.type "list", data:=.seq vs.toArray } }) ho
  have o₁:Out (orN N s'.heap.objs.size) s'.heap.objs.size ds { s' with heap:=s'.heap.push { cls:=.type "list", data:=.seq vs.toArray } }:=⟨vs,hl,(b.more hnew).to T'⟩
  exact R₁.store bears_val (sto_more (fun θ h=>.inl h) S) fun s₂ T₂ K₂ R₂=>h _ s₂ hnb (R'.nex.new hnew) hno (o₁.kept K₂) R₂
theorem set_lst {l:Addr} {us:List Value} {x:Int} {k:Nat} {t:Tok} {v:Value} {Q:Unit->Shared->Prop} (hl:Lst s.heap l us) (hx:x=k) (hk:k<us.length) (hfit:x<2^63) (h:∀ h',Lst h' l (us.set k v)->Heap.SameBut l s.heap h'->Q () { s with heap:=h' }) :
    wpAny (Mo w) A (setItem (.ref l) (.int x t) v) Q E s:=by
  obtain ⟨n,ho⟩:=hl
  have hT:s.TypeIs (.ref l) "list" := ⟨_,ho,rfl⟩
  unfold setItem
  refine wpAny_holding ?_
  refine wpAny_bind (wpAny_sequenceKey hT (by decide) ?_)
  refine wpAny_bind (wpAny_callSpecial?_slot (name:=Str.ofString "__setitem__") hT slot_list_setitem (wpAny_call_entry slot_list_setitem hT entry_list_setitem ?_ (args_list_setitem _ _ _)))
  show wpAny _ _ (Builtin.List.listSubscript? (.int x t) >>= _) _ _ s
  refine wpAny_bind (wpAny_listSubscript_int (fitsIndex_of (by rw [hx];exact Int.natCast_nonneg k) hfit) ?_)
  subst hx
  show wpAny _ _ ((seqItemAt l k >>= fun r=>pure (r.map (k,·))) >>= _) _ _ s
  refine wpAny_bind (wpAny_bind (wpAny_seqItemAt ho rfl (wpAny_pure ?_)))
  rw [show us.toArray[k]?=some us[k] by simp [hk]]
  show wpAny _ _ (setSeqItemAt l k v >>= _) _ _ s
  refine wpAny_bind (wpAny_setSeqItemAt ho rfl ?_)
  have hu:=IsL.update ho (·.setIfInBounds k v)
  rw [show us.toArray.setIfInBounds k v=(us.set k v).toArray by simp] at hu
  exact wpAny_pure ⟨.none,rfl,wpAny_pure (h _ ⟨_,hu⟩ (Heap.SameBut.update ..))⟩
theorem all_set {h:Heap}:∀ {ds:List D} {vs:List Value} {k:Nat} {d:D} {v:Value},BearsAll N h ds vs->Bears N h d v->BearsAll N h (ds.set k d) (vs.set k v)
  | [],_,k,_,_,b,_=>by rw [all_nil_iff.mp b];simpa using all_nil
  | a::r,_,0,_,_,b,b'=>by obtain ⟨u,us,rfl,_,c⟩:=all_cons_iff.mp b;exact all_cons b' c
  | a::r,_,k+1,_,_,b,b'=>by obtain ⟨u,us,rfl,c,e⟩:=all_cons_iff.mp b;exact all_cons c (all_set e b')
theorem rev_lst {l:Addr} {us:List Value} {Q:Value->Shared->Prop} (hl:Lst s.heap l us) (hz:us.length≤sizeLine) (h:∀ h',Lst h' l us.reverse->Heap.SameBut l s.heap h'->Q .none { s with heap:=h' }):wpAny (Mo w) A (call (.builtin "list.reverse") [.ref l]) Q E s:=by
  obtain ⟨n,ho⟩:=hl
  have hu:=IsL.update ho (fun x=>x.reverse)
  rw [show us.toArray.reverse=us.reverse.toArray by simp] at hu
  exact call_meets PySem.F.slot_list_reverse ⟨_,ho,rfl⟩ PySem.F.entry_list_reverse (PySem.F.args_list_reverse_1 _) (AutoSeq1.list_reverse_list_0 l us.toArray n (by simpa using hz)) ⟨ho,h _ ⟨_,hu⟩ (Heap.SameBut.update ..)⟩
theorem fold_rep (v:Value):∀ k:Nat,∀ acc:Array Value,List.foldl (fun x1 x2=>x1++x2) acc (List.replicate k #[v])=acc++(List.replicate k v).toArray
  | 0,acc=>by simp
  | k+1,acc=>by
    rw [List.replicate_succ,List.foldl_cons,fold_rep v k,List.replicate_succ,Array.append_assoc]
    congr 1
    simp
theorem mul_lst1 {l:Addr} {v:Value} {x:Int} {k:Nat} {t:Tok} {Q:Value->Shared->Prop} (hl:Lst s.heap l [v]) (hx:x=k) (hk:k≤2^24) (h:Q (.ref s.heap.objs.size) { s with heap:=s.heap.push { cls:=.type "list", data:=.seq (List.replicate k v).toArray } }) :
    wpAny (Mo w) A (binaryOp .Mult (.ref l) (.int x t)) Q E s:=by
  obtain ⟨n,ho⟩:=hl
  have hfin:Q (.ref s.heap.objs.size) { s with heap:=s.heap.push { cls:=.type "list", data:=.seq (List.foldl (fun x1 x2=>x1++x2) #[] (List.replicate (if ([v].toArray).isEmpty=true then 0 else x.toNat) [v].toArray)) } }:=by
    rw [if_neg (by simp),hx,Int.toNat_natCast,fold_rep v k #[],Array.empty_append];exact h
  exact wpAny_binaryOp_repeat_ref (T := "list") (U := "int") (by decide) ⟨_,ho,rfl⟩ (fun s'=>typeIs_int s' _ _) noFill_list_mul F.fills_int_mul F.slot_int_rmul repeat_list F.slot_int_index.lookup
    (call_meets F.slot_int_rmul (typeIs_int s _ _) F.entry_int_rmul (F.args_int_rmul_2 _ _) (int___rmul___int_list x t l [v].toArray n)
      ⟨ho,rfl,⟨_,ho,rfl⟩,call_meets F.slot_list_mul ⟨_,ho,rfl⟩ F.entry_list_mul (F.args_list_mul_2 _ _)
        (AutoListH.list___mul___list_int_3 l [v].toArray n x t (by simp [Builtin.List.listFitsIndex];omega) (by simp;omega) (by simp [Builtin.List.listTooLong,sizeLine];omega)) ⟨ho,hfin⟩⟩)
end
noncomputable def digs (m:Nat):Int->Nat->List Int
  | _,0=>[]
  | x,k+1=>(x % 2^m)::digs m (x / 2^m) k
theorem digs_len (m:Nat):∀ (k:Nat) (x:Int),(digs m x k).length=k
  | 0,_=>rfl
  | k+1,x=>by rw [digs,List.length_cons,digs_len m k]
theorem digs_mem (m:Nat):∀ (k:Nat) (x d:Int),d∈digs m x k->0≤d∧d<2^m
  | 0,_,_,h=>nomatch h
  | k+1,x,d,h=>by
    have hp:(0:Int)<2^m:=Int.pow_pos (by decide)
    rw [digs] at h
    rcases List.mem_cons.mp h with rfl | h
    · exact ⟨Int.emod_nonneg _ (by omega),Int.emod_lt_of_pos _ hp⟩
    · exact digs_mem m k _ d h
theorem digs_val (m:Nat):∀ (k:Nat) (x:Int),0≤x->x<2^(m*k)->valOf m (digs m x k)=x
  | 0,x,h0,h1=>by simp at h1;rw [digs,valOf];omega
  | k+1,x,h0,h1=>by
    have hp:(0:Int)<2^m:=Int.pow_pos (by decide)
    rw [Nat.mul_succ,Int.pow_add] at h1
    rw [digs,valOf,digs_val m k (x / 2^m) (Int.ediv_nonneg h0 (Int.le_of_lt hp)) (Int.ediv_lt_of_lt_mul hp h1)]
    have:=Int.mul_ediv_add_emod x (2^m)
    rw [Int.mul_comm] at this
    omega
theorem mod_mod_pow {x:Int} {a b:Nat} (h:a≤b):x % 2^b % 2^a=x % 2^a:=Int.emod_emod_of_dvd _ ⟨2^(b-a),by rw [← Int.pow_add];congr 1;omega⟩
theorem div_mod_pow {x:Int} {a b:Nat}:x % 2^(a+b) / 2^a=x / 2^a % 2^b:=by
  have hp:(0:Int)<2^a:=Int.pow_pos (by decide)
  have e1:=Int.mul_ediv_add_emod x (2^(a+b))
  have e2:x / 2^a / 2^b=x / 2^(a+b):=by rw [Int.ediv_ediv_of_nonneg (Int.le_of_lt hp),← Int.pow_add]
  have e3:x % 2^(a+b)=x-2^a*(2^b*(x / 2^(a+b))):=by rw [← Int.mul_assoc,← Int.pow_add];omega
  rw [e3,Int.sub_ediv_of_dvd _ ⟨_,rfl⟩,Int.mul_ediv_cancel_left _ (by omega),Int.emod_def,e2]
theorem digs_split (m:Nat):∀ (a b:Nat) (x:Int),digs m x (a+b)=digs m (x % 2^(m*a)) a++digs m (x / 2^(m*a)) b
  | 0,b,x=>by simp [digs]
  | a+1,b,x=>by
    have hp:(0:Int)<2^m:=Int.pow_pos (by decide)
    rw [show a+1+b=(a+b)+1 by omega,digs,digs,digs_split m a b,List.cons_append]
    have e:m*(a+1)=m+m*a:=by rw [Nat.mul_succ,Nat.add_comm]
    rw [e,mod_mod_pow (Nat.le_add_right _ _),div_mod_pow,Int.ediv_ediv_of_nonneg (Int.le_of_lt hp),← Int.pow_add]
theorem nat_high (x s:Nat):x &&& (x / 2^s*2^s)=x / 2^s*2^s:=by
  apply Nat.eq_of_testBit_eq
  intro i
  rw [Nat.testBit_and,← Nat.shiftLeft_eq,Nat.testBit_shiftLeft,← Nat.shiftRight_eq_div_pow,Nat.testBit_shiftRight]
  by_cases h:s≤i
  · rw [show s+(i-s)=i by omega];cases x.testBit i<;>simp
  · have:decide (i≥s)=false:=decide_eq_false h
    rw [this];simp
theorem xor_high {x:Int} (h:0≤x) (s:Nat):Builtin.bitXor x (x.fdiv (2^s)*2^s)=x % 2^s:=by
  obtain ⟨n,rfl⟩:=Int.eq_ofNat_of_zero_le h
  have hp:(0:Int)<2^s:=Int.pow_pos (by decide)
  have e:((n:Int).fdiv (2^s)*2^s)=((n / 2^s*2^s:Nat):Int):=by
    rw [Int.fdiv_eq_ediv_of_nonneg _ (Int.le_of_lt hp)];push_cast;rfl
  have e2:(n:Int) % 2^s=((n % 2^s:Nat):Int):=by push_cast;rfl
  rw [e,bitXor_and,bitAnd_pp (Int.natCast_nonneg _) (Int.natCast_nonneg _),Int.toNat_natCast,Int.toNat_natCast,nat_high,e2]
  have:=Nat.div_add_mod n (2^s)
  rw [Nat.mul_comm] at this
  omega
section
variable {w:World} {s₁ sb s:Shared} {N:Addr->Prop} {A:Around} {env:Env} {ρ:List (Str × D)} {γ:List (D × Value)} {X:Loc->Prop} {E:Value->Shared->Prop} {Q:Flow->Shared->Prop}
theorem Bears.toN {Z:Loc->Prop} {s s':Shared} (x:To Z s s') (hN:∀ a,Z (.inl a)->N a) {d:D} {v:Value} (b:Bears N s.heap d v):Bears N s'.heap d v:=
  b.keeps (fun a o hn e hc=>x.keep a o (fun q=>hn (hN a q)) (fun θ q=>by rcases hc with z | z<;>rw [z] at q<;>cases q) e) fun θ θ n θ=>n
theorem BearsAll.toN {Z:Loc->Prop} {s s':Shared} (x:To Z s s') (hN:∀ a,Z (.inl a)->N a) {d:List D} {v:List Value} (b:BearsAll N s.heap d v):BearsAll N s'.heap d v:=
  b.keeps (fun a o hn e hc=>x.keep a o (fun q=>hn (hN a q)) (fun θ q=>by rcases hc with z | z<;>rw [z] at q<;>cases q) e) fun θ θ n θ=>n
theorem Rel.outer {Z:Loc->Prop} {s':Shared} (R:Rel s₁ N X sb env ρ γ s) (T:To Z s s') (hZ:∀ l,Z l->X l) (hN:∀ a,Z (.inl a)->N a) (hloc:¬ Z (.inl env.locals)) (hcell:∀ x c k,env.kindOf x=some k->k=.cell∨k=.free->env.cells.lookup x=some c->¬ Z (.inl c)) (nx:Nex N s'):Rel s₁ N X sb env ρ γ s' where
  inv:=R.inv.forget (T.mono hZ) R.xnew
  to:=R.to.trans (T.mono hZ)
  xnew:=R.xnew
  xloc:=R.xloc
  ns:=by
    obtain ⟨m,h,k⟩:=R.ns
    exact ⟨m,ns_to' T hloc R.ltab h,fun y d hk hl=>let ⟨v,e,b⟩:=k y d hk hl;⟨v,e,b.toN T hN⟩⟩
  cel:=fun y k hk hq=>by
    obtain ⟨c,ov,hc,⟨o,ho,hd⟩,ht,r⟩:=R.cel y k hk hq
    exact ⟨c,ov,hc,⟨o,T.keep c o (hcell y c k hk hq hc) (fun q=>absurd q ht) ho,hd⟩,ht,fun d hd=>let ⟨v,e,b⟩:=r d hd;⟨v,e,b.toN T hN⟩⟩
  apart:=R.apart
  ltab:=R.ltab
  gh:=fun p hp=>(R.gh p hp).toN T hN
  nex:=nx
  tabs:=R.tabs.to T
theorem Clos.turn {f c' l:Addr} {fn:Obj} {qual:Str} {clo:List (Str × Addr)} {scope:Scope} {ρf:List (Str × D)} {s s':Shared} {us:List Value} (x:Clos N f fn c' qual clo scope ρf s) (hf:fn.cls=.type "function") (T:To (one l) s s') (hl:Lst s.heap l us) (hN:N l):Clos N f fn c' qual clo scope ρf s':=by
  obtain ⟨n,ho⟩:=hl
  refine ⟨kept_get T (fun q=>?_) x.fo hf,x.fr.to T,fun y hy=>?_,x.ap⟩
  · cases q
    rw [x.fo] at ho;cases ho;exact absurd (Value.type.inj hf) (by decide)
  · obtain ⟨c,ov,hc,⟨o,hoc,hd⟩,ht,r⟩:=x.cel y hy
    refine ⟨c,ov,hc,⟨o,T.keep c o (fun q=>?_) (fun q=>absurd q ht) hoc,hd⟩,ht,fun d hd=>let ⟨v,e,b⟩:=r d hd;⟨v,e,b.toN T fun a q=>by cases q;exact hN⟩⟩
    cases q
    rw [hoc] at ho;cases ho;cases hd
end
noncomputable abbrev i2dInn:Arguments × List Stmt × Scope:=innOf (makerOf 8).1
noncomputable abbrev i2dEnv (L:Addr):Env:=envOfC "_int2digits" (makerOf 8).2 L 56 (.ref 55)
noncomputable abbrev i2dClo (L:Addr):List (Str × Addr):=closeFrom (i2dEnv L).cells i2dInn.2.2.names []
noncomputable abbrev i2dFn (L:Addr) (ct:Value) (c':Addr) (pm:Value):Obj:=innFn "inner" "_int2digits.<locals>.inner" i2dInn.1 i2dInn.2.1 i2dInn.2.2 (i2dClo L) ct (.ref c') pm
noncomputable abbrev i2dKnown (l:Addr) (m:Nat) (f:Addr):List (Str × D):=[("a_digits", .val (.ref l)),("n", .int m),("inner", .val (.ref f))]
theorem i2d_loc {l:Addr} {m:Nat} {f:Addr}:∀ y,i2dInn.2.2.names.lookup y=some .local->(i2dKnown l m f).lookup y=none:=fun y hy=>by
  have key:∀ p,p∈i2dInn.2.2.names->p.2=.local->p.1∉(["a_digits", "n", "inner"]:List Str):=by decide
  exact look_none (key _ (mem_of_lookup hy) rfl)
theorem nex_turn {N:Addr->Prop} {s s':Shared} {l:Addr} {ds:List D} (tk:TabOk s) (nx:Nex N s) (T:To (one l) s s') (o:Out N l ds s'):Nex N s':=fun a ha q=>(newAt_back tk T q).elim (nx a ha) fun z=>by cases z;exact out_nots o q
theorem splice {ds B:List Int} {L M R:Nat} (h1:L≤M) (h2:M≤R) (h3:R≤ds.length) (hB:B.length=M-L):(ds.take L++B++ds.drop M).length=ds.length∧(ds.take L++B++ds.drop M).take M=ds.take L++B∧(ds.take L++B++ds.drop M).drop R=ds.drop R:=by
  have hA:(ds.take L).length=L:=by rw [List.length_take];omega
  have hAB:(ds.take L++B).length=M:=by rw [List.length_append,hA,hB];omega
  refine ⟨?_,?_,?_⟩
  · rw [List.length_append,hAB,List.length_drop];omega
  · rw [List.take_append_of_le_length (by omega),List.take_of_length_le (by omega)]
  · rw [List.drop_append,hAB,List.drop_drop,List.drop_eq_nil_of_le (by omega),List.nil_append]
    congr 1;omega
theorem set_splice {ds:List Int} {L:Nat} {x:Int} (h:L<ds.length):ds.set L x=ds.take L++[x]++ds.drop (L+1):=by
  rw [List.set_eq_take_append_cons_drop,if_pos h,List.append_assoc];rfl
theorem i2d_bounds {x:Int} {m L M R:Nat} (h1:L<M) (h2:M<R) (hx0:0≤x) (hx1:x<2^(m*(R-L))):(0≤x.fdiv (2^(m*(M-L)))∧x.fdiv (2^(m*(M-L)))<2^(m*(R-M)))∧0≤x % 2^(m*(M-L))∧x % 2^(m*(M-L))<2^(m*(M-L)):=by
  have hp:(0:Int)<2^(m*(M-L)):=Int.pow_pos (by decide)
  refine ⟨⟨Int.fdiv_nonneg hx0 (Int.le_of_lt hp),?_⟩,Int.emod_nonneg _ (Int.ne_of_gt hp),Int.emod_lt_of_pos _ hp⟩
  rw [Int.fdiv_eq_ediv_of_nonneg _ (Int.le_of_lt hp)]
  refine Int.ediv_lt_of_lt_mul hp ?_
  rw [← Int.pow_add,← Nat.mul_add,Nat.sub_add_sub_cancel (Nat.le_of_lt h2) (Nat.le_of_lt h1)];exact hx1
theorem i2d_sizes {n m L M R:Nat} (h1:L<M) (h2:M<R) (hR:R≤n) (hz:m*n≤2^25) (hz2:n≤2^20):IntMulOk ((M:Int)-L) m∧m*(M-L)≤2^25∧∀ u:Int,0≤u->u<2^(m*(R-M))->(Builtin.Int.intBits u:Int)+((m*(M-L):Nat):Int)≤2^27:=by
  have hMR:=Nat.le_trans (Nat.le_of_lt h2) hR
  have hmM:m*(M-L)≤2^25:=Nat.le_trans (Nat.mul_le_mul_left m (Nat.le_trans (Nat.sub_le _ _) hMR)) hz
  have hmR:m*(R-M)≤2^25:=Nat.le_trans (Nat.mul_le_mul_left m (Nat.le_trans (Nat.sub_le _ _) hR)) hz
  have hm1:m≤2^25:=Nat.le_trans (Nat.le_mul_of_pos_right m (Nat.sub_pos_of_lt h1)) hmM
  refine ⟨IntMulOk.of_le (m:=30) (n:=30) (bits_le (subN h1 hMR hz2)) (bits_le (Nat.lt_of_le_of_lt hm1 (by decide))) (by decide),hmM,fun u h0 hu=>?_⟩
  have:=bits_le (nabP h0 hu)
  omega
theorem i2d_join {x:Int} {m L M R:Nat} {ds:List Int} (h1:L<M) (h2:M<R):ds.take L++digs m (x % 2^(m*(M-L))) (M-L)++digs m (x.fdiv (2^(m*(M-L)))) (R-M)++ds.drop R=ds.take L++digs m x (R-L)++ds.drop R:=by
  have hp:(0:Int)<2^(m*(M-L)):=Int.pow_pos (by decide)
  rw [ssub (Nat.le_of_lt h1) (Nat.le_of_lt h2),digs_split,Int.fdiv_eq_ediv_of_nonneg _ (Int.le_of_lt hp)]
  simp only [List.append_assoc]
noncomputable def I2d (w:World) (s₁:Shared) (m:Nat) (l f c' Lm:Addr) (ct pm:Value) (k:Nat):Prop:=
  ∀ (L R:Nat) (x:Int) (ds:List Int) (N:Addr->Prop) (A:Around) (s:Shared) (P:Result->Shared->Prop),L<R->R≤ds.length->R-L≤2^k->0≤x->x<2^(m*(R-L))->m*ds.length≤2^25->ds.length≤2^20->Rm (k+1) A->A.handled=none->At s₁ s->Nex N s->N l ->
      Clos N f (i2dFn Lm ct c' pm) c' "_int2digits.<locals>.inner" (i2dClo Lm) i2dInn.2.2 (i2dKnown l m f) s->Out N l (ds.map D.int) s->(∀ s',To (one l) s s'->Out N l ((ds.take L++digs m x (R-L)++ds.drop R).map D.int) s'->P (.ok (.ret .none)) s')->∀ vs,BearsAll N s.heap [.int x,.int L,.int R] vs ->
      codeAny (Mo w) A (.call (.ref f) ⟨vs,[]⟩) P s
section
variable {w:World} {s₁ sb s s':Shared} {m:Nat} {Lm f c' l L':Addr} {ct pm:Value} {N:Addr->Prop} {A:Around} {ρ:List (Str × D)} {Q:Flow->Shared->Prop} {E:Value->Shared->Prop}
noncomputable abbrev I2dRel (s₁:Shared) (N:Addr->Prop) (l L' f c' Lm:Addr) (sb:Shared) (ρ:List (Str × D)) (s:Shared):Prop:=Rel s₁ N (fun p=>one L' p∨p=.inl l) sb (envIn "_int2digits.<locals>.inner" i2dInn.2.2 (i2dClo Lm) L' f (.ref c')) ρ [] s
theorem i2d_turn {ds ds':List D} (hNl:N l) (hlL:l≠L') (R:I2dRel s₁ N l L' f c' Lm sb ρ s) (O:Out N l ds s) (T:To (one l) s s') (O':Out N l ds' s'):I2dRel s₁ N l L' f c' Lm sb ρ s':=by
  refine R.outer T (fun p hp=>.inr hp) (fun a q=>by cases q;exact hNl) (fun q=>hlL (Sum.inl.inj q).symm) (fun y cc kk hk' hq' hc' q=>?_) (nex_turn R.tabs R.nex T O')
  obtain ⟨cc',ov,hc2,hi2,_⟩:=R.cel y kk hk' hq'
  rw [hc'] at hc2;cases hc2
  obtain ⟨us,hl,_⟩:=O
  exact list_ne_cell hi2 hl.isList (Sum.inl.inj q)
theorem i2d_sub {k L R:Nat} {x:Int} {ds:List Int} {e0 e1 e2:Expr} {pos p2 p3:Pos} {rest:List Stmt} (IH:I2d w s₁ m l f c' Lm ct pm k) (hh:A.handled=none) (hA:Rm (k+1) A) (h1:L<R) (h2:R≤ds.length) (h3:R-L≤2^k) (h4:0≤x) (h5:x<2^(m*(R-L))) (h6:m*ds.length≤2^25) (h7:ds.length≤2^20) (hNl:N l) (hlL:l≠L')
    (Rw:I2dRel s₁ N l L' f c' Lm sb ρ s) (C:Clos N f (i2dFn Lm ct c' pm) c' "_int2digits.<locals>.inner" (i2dClo Lm) i2dInn.2.2 (i2dKnown l m f) s) (O:Out N l (ds.map D.int) s)
    (xf:Ev w s₁ A (envIn "_int2digits.<locals>.inner" i2dInn.2.2 (i2dClo Lm) L' f (.ref c')) ρ (.Name "inner" p2) (.val (.ref f)))
    (xs:Evs w s₁ A (envIn "_int2digits.<locals>.inner" i2dInn.2.2 (i2dClo Lm) L' f (.ref c')) ρ (backTo pos (starEach [e0,e1,e2] (envIn "_int2digits.<locals>.inner" i2dInn.2.2 (i2dClo Lm) L' f (.ref c')))) [.int x,.int L,.int R])
    (hc:eval (.Call (.Name "inner" p2) [e0,e1,e2] [] pos) (envIn "_int2digits.<locals>.inner" i2dInn.2.2 (i2dClo Lm) L' f (.ref c'))=(do callWith pos (← eval (.Name "inner" p2) (envIn "_int2digits.<locals>.inner" i2dInn.2.2 (i2dClo Lm) L' f (.ref c'))) [] (backTo pos (starEach [e0,e1,e2] (envIn "_int2digits.<locals>.inner" i2dInn.2.2 (i2dClo Lm) L' f (.ref c')))) []))
    (hs:starEach [e0,e1,e2] (envIn "_int2digits.<locals>.inner" i2dInn.2.2 (i2dClo Lm) L' f (.ref c'))=(false,eval e0 (envIn "_int2digits.<locals>.inner" i2dInn.2.2 (i2dClo Lm) L' f (.ref c')))::starEach [e1,e2] (envIn "_int2digits.<locals>.inner" i2dInn.2.2 (i2dClo Lm) L' f (.ref c')))
    (h:∀ s',To (fun p=>one L' p∨p=.inl l) s s'->I2dRel s₁ N l L' f c' Lm sb ρ s'->Out N l ((ds.take L++digs m x (R-L)++ds.drop R).map D.int) s'->Xs w A (envIn "_int2digits.<locals>.inner" i2dInn.2.2 (i2dClo Lm) L' f (.ref c')) rest Q E s') :
    Xs w A (envIn "_int2digits.<locals>.inner" i2dInn.2.2 (i2dClo Lm) L' f (.ref c')) (.Expr (.Call (.Name "inner" p2) [e0,e1,e2] [] pos) p3::rest) Q E s:=by
  refine xs_cons ⟨wpAny_Expr_any (eval_callC Rw xf xs C.fo rfl rfl hc hs fun vs s₇ T₇ bs=>?_) rfl rfl⟩
  have R₇:=Rw.step T₇
  exact IH L R x ds N A s₇ _ h1 h2 h3 h4 h5 h6 h7 hA hh R₇.inv R₇.nex hNl (C.to rfl T₇) (O.to T₇) (fun s₈ T₈ O₈=>(h s₈ (T₇.of_no.trans (T₈.mono fun θ h=>.inr h)) (i2d_turn hNl hlL R₇ (O.to T₇) T₈ O₈) O₈)) vs bs
end
theorem i2d_body {w:World} {s₁:Shared} (G:GW w s₁) {m:Nat} {Lm f c' l:Addr} {ct pm:Value} (hn₁:NewAt s₁ (.inl l)) (k:Nat) (IH:∀ j,j+1=k->I2d w s₁ m l f c' Lm ct pm j):I2d w s₁ m l f c' Lm ct pm k:=by
  intro L R x ds N A s P hLR hR hk hx0 hx1 hz hz2 hA hh H nex hNl C O hP vs bvs
  refine clos_enter (args:=[.int x,.int L,.int R]) ["x", "L", "R"] (i2dKnown l m f) G C.fo C.fr (by obtain ⟨_,_,_,rfl⟩:=int_3 bvs;rfl) (by decide) (by decide) (by decide) rfl rfl rfl hA H nex bvs rfl C.cel C.ap i2d_loc fun L' s' T₀ hA' hL' K R'=>?_
  have hlL:l≠L':=fun q=>out_nots O (by rw [q];exact hL')
  have hX:∀ p,(one L' p∨p=.inl l)->NewAt s₁ p:=fun p hp=>hp.elim (R'.xnew p) fun q=>by rw [q];exact hn₁
  have Rw:I2dRel s₁ N l L' f c' Lm s' _ s':=R'.widen (X':=fun p=>one L' p∨p=.inl l) (fun θ h=>.inl h) hX
  have TT:∀ s₅,To (fun p=>one L' p∨p=.inl l) s' s₅->To (one l) s s₅:=fun s₅ T=>(T₀.of_no.trans T).less fun p hp=>hp.elim (fun q=>.inr (by rw [q];exact hL')) .inl
  have O':=O.to T₀
  obtain ⟨us₀,hus₀,_⟩:=id O
  have Cat:∀ s₅,To (fun p=>one L' p∨p=.inl l) s' s₅->Clos N f (i2dFn Lm ct c' pm) c' "_int2digits.<locals>.inner" (i2dClo Lm) i2dInn.2.2 (i2dKnown l m f) s₅:=fun s₅ T=>C.turn rfl (TT _ T) hus₀ hNl
  generalize hAe:A.deeper _=A' at hA' ⊢
  have hh':A'.handled=none:=by rw [← hAe];exact hh
  clear hAe hh hA T₀ O C bvs hus₀ hL' hX nex H R'
  refine xs_if Rw (ts_cmp (ev_add (ev_var K rfl rfl rfl) ev_int) (ev_var K rfl rfl rfl) op_eq rfl) (fun hc s₂ T R₂=>?_) fun hc s₂ T R₂=>xs_nil ?_
  · have e:R=L+1:=by
      have:(((L:Int)+1)==(R:Int))=true:=hc
      simp only [beq_iff_eq] at this;omega
    subst e
    have hL:L<ds.length:=by omega
    refine xs_cons ⟨wpAny_Assign_Subscript ((ev_var (x := "x") K rfl rfl rfl).use R₂ fun v s₃ T₃ bx=>(ev_var (x := "a_digits") K rfl rfl rfl).use (R₂.step T₃) fun ov s₄ T₄ bo=>(ev_var (x := "L") K rfl rfl rfl).use ((R₂.step T₃).step T₄) fun iv s₅ T₅ bi=>?_) rfl⟩
    obtain rfl:=of_val bo
    obtain ⟨ti,rfl⟩:=of_int bi
    have R₅:=((R₂.step T₃).step T₄).step T₅
    obtain ⟨us,hl,ba⟩:=(((O'.to T).to T₃).to T₄).to T₅
    have hlen:=all_length ba
    rw [List.length_map] at hlen
    have bx':Bears N s₅.heap (.int x) v:=(bx.to T₄).to T₅
    refine set_lst hl rfl (by omega) (by omega) fun h' hl' hs=>?_
    have R₆:=R₅.listed hl.isList hl'.isList hs (.inr rfl) hNl
    refine xs_cons ⟨wpAny_Return_none (hP _ (TT _ R₆.to) ⟨us.set L v,hl',?_⟩)⟩
    have e2:(ds.take L++digs m x (L+1-L)++ds.drop (L+1)).map D.int=(ds.map D.int).set L (.int x):=by
      rw [show L+1-L=1 by omega] at hx1 ⊢
      rw [Nat.mul_one] at hx1
      rw [← List.map_set,set_splice hL,digs,digs,Int.emod_eq_of_lt hx0 hx1]
    rw [e2]
    exact (all_set ba bx').butN hs hNl
  · have e:L+1<R:=by
      have:(((L:Int)+1)==(R:Int))=false:=hc
      have:¬ ((L:Int)+1=R):=by simpa using this
      omega
    obtain ⟨h1,h2⟩:=half e
    obtain ⟨j,hj⟩:∃ j,j+1=k:=by
      cases k with
      | zero=>exact absurd hk (one_lt_sub e)
      | succ k=>exact ⟨k,rfl⟩
    have IH:=IH j hj
    obtain ⟨M,hM,hML,hRM⟩:∃ M,(L+R) / 2=M∧M-L≤2^j∧R-M≤2^j:=⟨_,rfl,by rw [← hj,Nat.pow_succ] at hk;exact halves e hk⟩
    rw [hM] at h1 h2
    rw [← hj] at hA'
    clear hj hk e hc
    obtain ⟨hu,hl⟩:=i2d_bounds h1 h2 hx0 hx1
    obtain ⟨z1,z2,z3⟩:=i2d_sizes h1 h2 hR hz hz2
    refine xs_assign R₂ (d:=.int (M:Int)) (Ev.conv (ev_shr (ev_add (ev_var K rfl rfl rfl) (ev_var K rfl rfl rfl)) ev_int (by decide)) (by rw [← Int.natCast_add,shr1,hM])) (.local rfl rfl) rfl fun s₃ T₃ K₃ R₃=>?_
    refine xs_assign R₃ (d:=.int ((m*(M-L):Nat):Int)) (Ev.conv (ev_mul (ev_sub (ev_var K rfl rfl rfl) (ev_var K rfl rfl rfl)) (ev_var K rfl rfl rfl) z1) (by rw [Nat.mul_comm,Int.natCast_mul,Int.natCast_sub (Nat.le_of_lt h1)])) (.local rfl rfl) rfl fun s₄ T₄ K₄ R₄=>?_
    refine xs_assign R₄ (d:=.int (x.fdiv (2^(m*(M-L))))) (Ev.conv (ev_shr (ev_var K rfl rfl rfl) (ev_var K rfl rfl rfl) (Int.natCast_nonneg _)) (by rw [Int.toNat_natCast])) (.local rfl rfl) rfl fun s₅ T₅ K₅ R₅=>?_
    refine xs_assign R₅ (d:=.int (x % 2^(m*(M-L)))) (Ev.conv (ev_bxor (ev_var K rfl rfl rfl) (ev_shl (ev_var K rfl rfl rfl) (ev_var K rfl rfl rfl) (Int.natCast_nonneg _) (z3 _ hu.1 hu.2))) (by rw [Int.toNat_natCast,xor_high hx0])) (.local rfl rfl) rfl fun s₆ T₆ K₆ R₆=>?_
    have O₆:=((((O'.to T).kept K₃).kept K₄).kept K₅).kept K₆
    clear T T₃ T₄ T₅ T₆ K₃ K₄ K₅ K₆ R₂ R₃ R₄ R₅ O' z1 z3
    refine i2d_sub IH hh' hA' h1 (by omega) hML hl.1 hl.2 hz hz2 hNl hlL R₆ (Cat _ R₆.to) O₆ (ev_var K rfl rfl rfl) (by exact evs_cons (ev_var K rfl rfl rfl) (evs_cons (ev_var K rfl rfl rfl) (evs_cons (ev_var K rfl rfl rfl) evs_nil))) rfl rfl fun s₈ T₈ R₈ O₈=>?_
    obtain ⟨q1,q2,q3⟩:=splice (ds:=ds) (B:=digs m (x % 2^(m*(M-L))) (M-L)) (Nat.le_of_lt h1) (Nat.le_of_lt h2) hR (digs_len _ _ _)
    refine i2d_sub IH hh' hA' h2 (by rw [q1];exact hR) hRM hu.1 hu.2 (by rw [q1];exact hz) (by rw [q1];exact hz2) hNl hlL R₈ (Cat _ R₈.to) O₈ (ev_var K rfl rfl rfl) (by exact evs_cons (ev_var K rfl rfl rfl) (evs_cons (ev_var K rfl rfl rfl) (evs_cons (ev_var K rfl rfl rfl) evs_nil))) rfl rfl fun sa Ta Ra Oa=>?_
    refine xs_nil (hP _ (TT _ Ra.to) ?_)
    rw [q2,q3,i2d_join h1 h2] at Oa
    exact Oa
theorem i2d_inner {w:World} {s₁:Shared} (G:GW w s₁) {m:Nat} {Lm f c' l:Addr} {ct pm:Value} (hn₁:NewAt s₁ (.inl l)):∀ k,I2d w s₁ m l f c' Lm ct pm k
  | 0=>i2d_body G hn₁ 0 fun j h=>nomatch h
  | k+1=>i2d_body G hn₁ (k+1) fun j h=>Nat.succ.inj h▸i2d_inner G hn₁ k
theorem i2d_clo {L:Addr}:∀ x,(x,NameKind.free)∈i2dInn.2.2.names->∃ c,(i2dEnv L).cells.lookup x=some c:=fun x hx=>cellsFrom_has _ _ _ (.inl (by
  have key:∀ p,p∈i2dInn.2.2.names->p.2=.free->(makerOf 8).2.names.lookup p.1=some .cell:=by decide
  exact key _ hx rfl))
theorem eval_callC2 {w:World} {s₁ sb sb' s:Shared} {N N':Addr->Prop} {A:Around} {env:Env} {ρ ρ':List (Str × D)} {γ γ':List (D × Value)} {X X':Loc->Prop} {f e:Expr} {args:List Expr} {pos:Pos} {fa:Addr} {ds:List D} {o:Obj} {fd:FuncData} {Q:Value->Shared->Prop} {E:Value->Shared->Prop} (R:Rel s₁ N X sb env ρ γ s) (R':Rel s₁ N' X' sb' env ρ' γ' s)
    (x:Ev w s₁ A env ρ f (.val (.ref fa))) (y:Evs w s₁ A env ρ' (backTo pos (starEach (e::args) env)) ds)
    (ho:s.heap.get? fa=some o) (hof:o.cls=.type "function") (hod:o.data=.func fd)
    (hc:eval (.Call f (e::args) [] pos) env=(do callWith pos (← eval f env) [] (backTo pos (starEach (e::args) env)) [])) (hs:starEach (e::args) env=(false,eval e env)::starEach args env)
    (h:∀ vs s',To no s s'->BearsAll N' s'.heap ds vs->codeAny (Mo w) A (.call (.ref fa) ⟨vs,[]⟩) (fun r s''=>match r with | .ok (.ret v)=>Q v s'' | .ok _=>False | .error e=>E e s'') s'):wpAny (Mo w) A (eval (.Call f (e::args) [] pos) env) Q E s:=by
  rw [hc]
  refine wpAny_bind (x.use R fun u s' T bu=>?_)
  obtain rfl:=of_val bu
  refine Calls.callWith_function (o:=o) (fd:=fd) ?_
  rw [hs] at y ⊢
  refine Calls.evalArgs_plain (y.use (R'.step T) fun vs s'' T' bs=>⟨⟨kept_get (T.trans T') id ho hof,hod⟩,wpAny_call ?_⟩)
  exact h vs s'' (T.trans T') bs
noncomputable def cnt (a:Int) (m:Nat):Nat:=(Builtin.Int.intBits a+m-1) / m
theorem cnt_ok {a:Int} {m:Nat} (hm:0<m):a.natAbs<2^(m*cnt a m)∧m*cnt a m≤Builtin.Int.intBits a+m-1:=by
  have h1:Builtin.Int.intBits a≤m*cnt a m:=by
    unfold cnt
    have:=Nat.div_add_mod (Builtin.Int.intBits a+m-1) m
    have h2:=Nat.mod_lt (Builtin.Int.intBits a+m-1) hm
    omega
  exact ⟨intBits_le_iff.mp h1,Nat.mul_div_le _ _⟩
theorem f_i2d {w:World} {s₁:Shared} (G:GW w s₁) {n m:Nat} {a:Int} (ha:0≤a) (hm:0<m) (hm2:m≤2^13) (hz:Builtin.Int.intBits a≤2^24) (hk:cnt a m≤2^10):Fn w s₁ h0 (n+12) 56 [.int a,.int m] (.lst ((digs m a (cnt a m)).map D.int)):=by
  obtain ⟨hc1,hc2⟩:=cnt_ok (a:=a) hm
  have hax:a<2^(m*cnt a m):=by
    have h':(a.natAbs:Int)<2^(m*cnt a m):=by exact_mod_cast hc1
    omega
  have hmk:m*cnt a m≤2^25:=Nat.le_trans hc2 (Nat.le_trans (Nat.sub_le _ _) (Nat.le_trans (Nat.add_le_add hz hm2) (by decide)))
  refine fn_enter (fun A s s' env h T=>h) ["a", "n"] G rfl rfl (by kernel_rfl) (fun s vs h=>by obtain ⟨a,b,rfl⟩:=len2 h;exact BindsTo.of_eq rfl) (by decide) (by decide) (by decide) rfl rfl rfl fun N A s L hA hh ⟨s₀,h₀,hown⟩ K R=>?_
  have hcount:((Builtin.Int.intBits a:Int)+m-1).fdiv m=(cnt a m:Nat):=by
    rw [Int.fdiv_eq_ediv_of_nonneg _ (by omega)]
    have:((Builtin.Int.intBits a:Int)+m-1)=((Builtin.Int.intBits a+m-1:Nat):Int):=by rw [Int.natCast_sub (Nat.le_trans hm (Nat.le_add_left _ _))];rfl
    rw [this];unfold cnt;push_cast;rfl
  refine xs_newl G (ds:=(List.replicate (cnt a m) (0:Int)).map D.int) R (fun Q E h=>wpAny_BinOp (List_ (Gv.use (P:=fun N vs s=>BearsAll N s.heap [.int 0] vs) (by exact evs_cons ev_int evs_nil) R fun vs s₂ T₂ bs=>?_))) (.cell rfl rfl (own_cell rfl)) rfl fun l s hnl hNl hol o R=>?_
  · obtain ⟨v,_,rfl,b0,bs⟩:=all_cons_iff.mp bs
    obtain rfl:=all_nil_iff.mp bs
    refine wpAny_newObj_type ?_ (Nat.le_of_ble_eq_true rfl)
    have T₃:To no s₂ { s₂ with heap:=s₂.heap.push { cls:=.type "list", data:=.seq [v].toArray } }:=To.push _ _
    have R₃:=(R.step T₂).step T₃
    refine (Ev.conv (ev_div (ev_sub (ev_add (m_bits (ev_var (x := "a") K rfl rfl rfl) rfl rfl rfl rfl) (ev_var (x := "n") K rfl rfl rfl)) ev_int) (ev_var (x := "n") K rfl rfl rfl) (by omega) (PyProof.noPylong_of_log2 (by
      have:((m:Int)).natAbs.log2<14:=by
        rw [Int.natAbs_natCast]
        by_cases h0:m=0
        · omega
        · rw [Nat.log2_lt h0];omega
      omega))) (by rw [hcount])).use R₃ fun u s₄ T₄ bu=>?_
    obtain ⟨t,rfl⟩:=of_int bu
    have hl₀:Lst s₄.heap s₂.heap.objs.size [v]:=⟨0,kept_get T₄ id (Heap.get?_push_size _ rfl) rfl⟩
    refine mul_lst1 hl₀ rfl (Nat.le_trans hk (by decide)) (h _ _ ((T₂.trans T₃).trans T₄) ?_)
    have key:∀ k:Nat,BearsAll N s₄.heap ((List.replicate k (0:Int)).map D.int) (List.replicate k v):=fun k=>by
      induction k with
      | zero=>exact all_nil
      | succ k ih=>exact all_cons ((b0.to T₃).to T₄) ih
    exact key _
  have hNl':orN N l l:=.inr rfl
  refine xs_def (c:=55) (P:=51) (oc:=c55) G R K (fun θ=>rfl) (by decide) rfl rfl rfl (fun h ps h1 h2 h3=>⟨_,_,_,_,_,_,_,_,_,_,h1,rfl,rfl,rfl,rfl,rfl,rfl,h2,rfl,h3,by decide⟩) rfl rfl rfl rfl i2d_clo rfl (sto_more (fun θ h=>.inl h) (.cell rfl rfl (own_cell rfl))) (ownL_there R o) fun f ct c' pm s₂ nf fo fr T K' R₂=>?_
  have C:Clos (orN N l) f (i2dFn L ct c' pm) c' "_int2digits.<locals>.inner" (i2dClo L) i2dInn.2.2 (i2dKnown l m f) s₂:=clos_make R₂ fo fr i2d_clo (fun y hy=>by
    have key:∀ p,p∈i2dInn.2.2.names->p.2=.free->(makerOf 8).2.names.lookup p.1=some .cell:=by decide
    exact key _ (mem_of_lookup hy) rfl) (fun y hy d hd=>by
    have h:=mem_of_lookup hd
    simp only [i2dKnown,List.mem_cons,Prod.mk.injEq,List.not_mem_nil,or_false] at h
    rcases h with ⟨rfl,rfl⟩ | ⟨rfl,rfl⟩ | ⟨rfl,rfl⟩<;>rfl)
  have o₂:=o.kept K'
  have hl1:NewAt s₁ (.inl l):=R₂.xnew _ (.inr rfl)
  refine xs_ifS (fun s=>Out (orN N l) l ((digs m a (cnt a m)).map D.int) s) R₂ (ts_plain (ev_var K rfl rfl rfl) tr_int (fun θ=>rfl)) (fun hc s₃ T₃ R₃=>?_) (fun hc s₃ T₃ R₃=>?_) fun s₃ o₃ R₃=>?_
  · have ha0:a≠0:=by
      have:(a != 0)=true:=hc
      simpa using this
    have hk0:0<cnt a m:=by
      apply Nat.pos_of_ne_zero
      intro h0
      rw [h0] at hc1;simp at hc1;exact ha0 hc1
    have C₃:=C.to rfl T₃
    have o₃:=o₂.to T₃
    have R₃':=Rel.closeL (x := "a_digits") R₃ o₃ hNl rfl rfl
    refine xs_cons ⟨wpAny_Expr_any (eval_callC2 (ds:=[.int a,.int (0:Nat),.int (((List.replicate (cnt a m) (0:Int)).map D.int).length:Nat)]) R₃ R₃' (ev_var K rfl rfl rfl) (by exact evs_cons (ev_var K rfl rfl rfl) (evs_cons ev_int (evs_cons (ev_len_l G K (ev_var K rfl lookup_eq rfl) rfl rfl rfl (by rw [List.length_map,List.length_replicate];omega)) evs_nil))) C₃.fo rfl rfl rfl rfl fun vs s₄ T₄ bs=>?_) rfl rfl⟩
    have R₄:=R₃.step T₄
    have hlen:(List.replicate (cnt a m) (0:Int)).length=cnt a m:=List.length_replicate
    rw [List.length_map,hlen] at bs
    refine i2d_inner G hl1 10 0 (cnt a m) a (List.replicate (cnt a m) 0) (orN N l) A s₄ _ hk0 (by rw [hlen];exact Nat.le_refl _) (by omega +splitNatSub) ha (by rw [Nat.sub_zero];exact hax) (by rw [hlen];exact hmk) (by rw [hlen];omega) (hA.mono (by omega)) hh R₄.inv R₄.nex hNl' (C₃.to rfl T₄) (o₃.to T₄) (fun s₅ T₅ o₅=>?_) vs bs
    have o₅':Out (orN N l) l ((digs m a (cnt a m)).map D.int) s₅:=by
      have e:(List.replicate (cnt a m) (0:Int)).take 0++digs m a (cnt a m-0)++(List.replicate (cnt a m) (0:Int)).drop (cnt a m)=digs m a (cnt a m):=by
        rw [List.drop_eq_nil_of_le (by rw [hlen];exact Nat.le_refl _)];simp
      rw [e] at o₅;exact o₅
    obtain ⟨us,hus,_⟩:=o₃.to T₄
    refine xs_nil ⟨rfl,o₅',R₄.outer T₅ (fun p hp=>.inr hp) (fun q hq=>by cases hq;exact hNl') (fun q=>hol (.inl q.symm)) (fun y cc kk hk' hq' hc' q=>?_) (nex_turn R₄.tabs R₄.nex T₅ o₅)⟩
    obtain ⟨cc',ov,hc2,hi2,_⟩:=R₄.cel y kk hk' hq'
    rw [hc'] at hc2;cases hc2
    exact list_ne_cell hi2 hus.isList (Sum.inl.inj q)
  · have ha0:a=0:=by
      have:(a != 0)=false:=hc
      simpa using this
    have hk0:cnt a m=0:=by
      subst ha0
      unfold cnt
      have:Builtin.Int.intBits 0=0:=by decide +kernel
      rw [this];exact Nat.div_eq_of_lt (by omega)
    have:=o₂.to T₃
    rw [hk0] at this ⊢
    exact this
  · exact xs_return (R₃.closeL o₃ hNl rfl rfl) (ev_var K rfl lookup_eq rfl) fun v s' T b=>⟨(R₃.to.trans T.of_no).less fun p h=>h.imp id fun e=>by rw [e];exact hnl,b⟩
theorem rv_slot:Slot "list_reverseiterator" "__next__" "list_reverseiterator.__next__" :=
  .of (owner := "list_reverseiterator") (n := "__next__") (by rw [typeLookup_type,builtinLookup_eq_fast];kernel_rfl) (by decide +kernel) (by decide +kernel) (by decide +kernel) (.inl (by decide +kernel)) (by rw [isSubtype_type];kernel_rfl)
theorem rv_entry:entryFor table "list_reverseiterator.__next__" = some Builtin.«list_reverseiterator.__next__»:=entryFor_of_tree (by kernel_rfl)
theorem rv_args (a:Value):argsOk "list_reverseiterator.__next__" ⟨[a],[]⟩:=by unfold argsOk;kernel_rfl
theorem rv_islot:Slot "list_reverseiterator" "__iter__" "list_reverseiterator.__iter__" :=
  .of (owner := "list_reverseiterator") (n := "__iter__") (by rw [typeLookup_type,builtinLookup_eq_fast];kernel_rfl) (by decide +kernel) (by decide +kernel) (by decide +kernel) (.inl (by decide +kernel)) (by rw [isSubtype_type];kernel_rfl)
theorem rv_iargs (a:Value):argsOk "list_reverseiterator.__iter__" ⟨[a],[]⟩:=by unfold argsOk;kernel_rfl
theorem rv_ientry:entryFor table "list_reverseiterator.__iter__" = some Builtin.«dict_keyiterator.__iter__»:=
  entryFor_alias (id' := "dict_keyiterator.__iter__") (by kernel_rfl) (by decide +kernel) (by decide +kernel) (by kernel_rfl)
theorem rv_mro:mroOf (.type "reversed")=pure [.type "reversed", .type "object"]:=by rw [mroOf_type];kernel_rfl
theorem rv_made:Bind.madeBy (.type "reversed")=pure (some "reversed.__new__"):=madeBy_type rv_mro (by rw [typeLookup_type,builtinLookup_eq_fast];kernel_rfl) (by decide +kernel)
theorem rv_plain:plainId "reversed.__new__" = true:=by decide +kernel
theorem rv_nentry:entryFor table "reversed.__new__" = some Builtin.«reversed.__new__»:=entryFor_of_tree (by kernel_rfl)
theorem rv_create:((Manifest.find? "reversed").bind (·.mro.findSome? fun t=>(Manifest.find? t).bind fun b=>if b.noNew then some true else if b.attrs.any (·.1 == "__new__") then some false else none)).getD false=false:=by decide +kernel
theorem rv_tcheck (a:Value):checkTypeCall "reversed" ⟨[a],[]⟩=pure ():=by kernel_rfl
theorem rv_ncheck (a:Value):checkBuiltinCall "reversed.__new__" ⟨[.type "reversed", a],[]⟩=pure ():=by kernel_rfl
theorem rv_sub:isSubtype (.type "list_reverseiterator") (.type "reversed")=pure false:=by rw [isSubtype_type];kernel_rfl
theorem rv_self:isSubtype (.type "reversed") (.type "reversed")=pure true:=by rw [isSubtype_type];kernel_rfl
noncomputable abbrev rvObj (l:Addr) (i:Int):Obj:={ cls:=.type "list_reverseiterator", data:=.fields #[.ref l,rawInt i] }
noncomputable def IsRv (h:Heap) (a l:Addr) (i:Int):Prop:=h.get? a=some (rvObj l i)
section
variable {w:World} {A:Around} {E:Value->Shared->Prop} {s:Shared}
theorem rv_new {l:Addr} {items:Array Value} {n:Nat} {R:Result->Shared->Prop} (hl:IsL s.heap l items n)
    (h:R (.ok (.ret (.ref s.heap.objs.size))) { s with heap:=s.heap.push (rvObj l ((items.size:Int)-1)) }):codeAny (Mo w) A (.call (.builtin "reversed.__new__") ⟨[.type "reversed", .ref l],[]⟩) R s:=by
  have hT:s.TypeIs (.ref l) "list" := ⟨_,hl,rfl⟩
  refine codeAny_of_tree ?_
  show wpAny _ A.in1 (do checkBuiltinCall "reversed.__new__" ⟨[.type "reversed", .ref l],[]⟩;again (.builtin "reversed.__new__" ⟨[.type "reversed", .ref l],[]⟩)) _ _ s
  refine wpAny_bind (wpAny_of_eq (rv_ncheck _) (wpAny_pure ⟨plainId_quiet rv_plain _,codeAny_builtin rv_nentry ?_⟩))
  rw [Around.under_plainId rv_plain _]
  unfold Builtin.«reversed.__new__»
  have hcl:Builtin.SmallTypes.newClass "reversed" ⟨[.type "reversed", .ref l],[]⟩=pure (.type "reversed", [.ref l]):=by
    unfold Builtin.SmallTypes.newClass
    simp only [isType,rv_self,pure_bind,Bool.not_true,Bool.false_eq_true,if_false]
  refine wpAny_bind (wpAny_of_eq hcl ?_)
  refine wpAny_bind (wpAny_of_eq (a:=()) (by first | rfl | kernel_rfl) ?_)
  refine wpAny_bind (wpAny_of_eq (a:=()) (by first | rfl | kernel_rfl) ?_)
  refine wpAny_bind (wpAny_specialOf hT F.slot_list_reversed.lookup ?_)
  refine wpAny_bind (wpAny_of_eq (F.slot_list_reversed.bind _) ?_)
  show wpAny _ _ (if (Value.builtin "list.__reversed__" == Value.none)=true then _ else _) _ _ _
  rw [if_neg (show ¬ ((Value.builtin "list.__reversed__" == Value.none)=true) from Bool.false_ne_true)]
  refine wpAny_bind (wpAny_rule ?_)
  refine wpAny_bind (m:=runValue (.call (.builtin "list.__reversed__") ⟨[.ref l],[]⟩)) (show wpAny _ _ (call (.builtin "list.__reversed__") [.ref l]) _ _ _ from ?_)
  exact call_meets F.slot_list_reversed hT F.entry_list_reversed (F.args_list_reversed_1 _) (AutoListH.list___reversed___list_0 l items n) ⟨hl,wpAny_pure h⟩
set_option maxHeartbeats 2000000 in
theorem rv_call {l:Addr} {items:Array Value} {n:Nat} {Q:Value->Shared->Prop} (hl:IsL s.heap l items n)
    (h:Q (.ref s.heap.objs.size) { s with heap:=s.heap.push (rvObj l ((items.size:Int)-1)) }):wpAny (Mo w) A (call (.type "reversed") [.ref l]) Q E s:=by
  refine wpAny_call (codeAny_of_tree ?_)
  show wpAny _ _ (callAny (.type "reversed") _) _ _ _
  refine wpAny_pure ⟨Code.quiet_builtin _ (by decide +kernel),codeAny_builtin F.entry_type_call ?_⟩
  rw [Around.under_plain (weight_type_call_type "reversed" [.ref l] []) rfl]
  have hct:=rv_tcheck (.ref l)
  have hmade:=rv_made
  have hmro:=rv_mro
  have hsub:=rv_sub
  have h2:=rv_create
  have h1:(Value.type "reversed" == Value.type "type")=false:=by decide +kernel
  have hnew:codeAny (Mo w) A.in1 (.call (.builtin "reversed.__new__") ⟨[.type "reversed", .ref l],[]⟩) (wants (fun obj s₁=>obj=.ref s.heap.objs.size∧s₁={ s with heap:=s.heap.push (rvObj l ((items.size:Int)-1)) }) E) s:=rv_new hl ⟨rfl,rfl⟩
  repeat (any_goals (first | assumption | wp_step))
  refine codeAny_mono hnew fun r s₁ hr=>?_
  cases r with
  | error e=>exact hr
  | ok fl=>
    cases fl with
    | ret obj=>
      obtain ⟨rfl,rfl⟩:=hr
      have hTo:({ s with heap:=s.heap.push (rvObj l ((items.size:Int)-1)) }:Shared).TypeIs (.ref s.heap.objs.size) "list_reverseiterator" := ⟨_,Heap.get?_push_size _ rfl,rfl⟩
      repeat (any_goals (first | assumption | wp_step))
    | _=>exact hr.elim
end
section
variable {w:World} {s₁:Shared} {N:Addr->Prop} {A:Around} {E:Value->Shared->Prop} {s:Shared}
theorem rv_item {it l:Addr} {x:Int} {i:Nat} {items:Array Value} {v:Value} {Q:Option Value->Shared->Prop} (hit:IsRv s.heap it l x) (hxi:x=i) (hl:s.heap.IsList l items) (hx:items[i]?=some v)
    (hQ:∀ h',IsRv h' it l (x-1)->Heap.SameBut it s.heap h'->Q (some v) { s with heap:=h' }):wpAny (Mo w) A (pyNext (.ref it)) Q E s:=by
  obtain ⟨ol,hol,_,nl,hdl⟩:=hl
  have ho:s.heap.get? it=some (rvObj l x):=hit
  have hT:s.TypeIs (.ref it) "list_reverseiterator" := ⟨_,ho,rfl⟩
  unfold pyNext
  refine wpAny_bind (wpAny_attempt (wpAny_callSpecial?_slot (name:=Str.ofString "__next__") hT rv_slot (wpAny_call_entry rv_slot hT rv_entry ?_ (rv_args _))))
  unfold Builtin.«list_reverseiterator.__next__»
  refine wpAny_bind (wpAny_of_eq (a:=(Value.ref it,[])) rfl ?_)
  refine wpAny_bind (wpAny_field ho rfl (x:=rawInt x) rfl ?_)
  show wpAny _ _ (if x<0 then _ else _) _ _ s
  rw [if_neg (by omega)]
  show wpAny _ _ (field (.ref it) 0 >>= _) _ _ s
  refine wpAny_bind (wpAny_field ho rfl (x:=.ref l) rfl ?_)
  show wpAny _ _ (seqItems? (.ref l) >>= _) _ _ s
  refine wpAny_bind (wpAny_seqItems hol hdl ?_)
  have hx':items[x.toNat]?=some v:=by rw [hxi,Int.toNat_natCast];exact hx
  simp only [hx']
  refine wpAny_bind (wpAny_setField ho rfl (by simp) ?_)
  refine wpAny_pure ⟨v,rfl,wpAny_pure (hQ _ ?_ (Heap.SameBut.update ..))⟩
  exact Heap.get?_update_self _ ho rfl
theorem rv_end {it l:Addr} {Q:Option Value->Shared->Prop} (hh:A.handled=none) (hit:IsRv s.heap it l (-1)) (hQ:∀ h',(∀ b o,s.heap.get? b=some o->h'.get? b=some o)->Q none { s with heap:=h' }):wpAny (Mo w) A (pyNext (.ref it)) Q E s:=by
  have ho:s.heap.get? it=some (rvObj l (-1)):=hit
  have hT:s.TypeIs (.ref it) "list_reverseiterator" := ⟨_,ho,rfl⟩
  unfold pyNext
  refine wpAny_bind (wpAny_attempt (wpAny_callSpecial?_slot (name:=Str.ofString "__next__") hT rv_slot (wpAny_call_entry rv_slot hT rv_entry ?_ (rv_args _))))
  unfold Builtin.«list_reverseiterator.__next__»
  refine wpAny_bind (wpAny_of_eq (a:=(Value.ref it,[])) rfl ?_)
  refine wpAny_bind (wpAny_field ho rfl (x:=rawInt (-1)) rfl ?_)
  show wpAny _ _ (if (-1:Int)<0 then _ else _) _ _ s
  rw [if_pos (by decide)]
  refine wpAny_bind (wpAny_rule ?_)
  first
  | show wpAny _ _ (newExc (.type "StopIteration") [] >>= _) _ _ _
  | (refine wpAny_bind ?_;show wpAny _ _ (newExc (.type "StopIteration") [] >>= _) _ _ _)
  refine wpAny_bind ?_
  simp only [newExc,newTuple]
  refine wpAny_bind (wpAny_newObj_type ?_ (by size_fits))
  refine wpAny_bind (m:=firstArgMember _ _) (wpAny_of_eq (a:=Value.none) (by first | rfl | (simp only [firstArgMember];rfl)) ?_)
  refine wpAny_newObj_type ?_ (by size_fits)
  simp only [raiseNew]
  refine wpAny_bind (wpAny_handled ?_)
  rw [show A.in1.handled=none from hh]
  refine wpAny_bind (wpAny_pure (wpAny_throw ?_))
  refine wpAny_bind (wpAny_isInstance (T := "StopIteration") (b:=true) ⟨_,Heap.get?_push_size _ rfl,rfl⟩ isSubtype_stop ?_)
  exact wpAny_pure (hQ _ fun b o hb=>Heap.get?_push_of_some _ (Heap.get?_push_of_some _ hb))
theorem rv_iter {it l:Addr} {x:Int} {Q:Value->Shared->Prop} (hit:IsRv s.heap it l x) (h:Q (.ref it) s):wpAny (Mo w) A (pyIter (.ref it)) Q E s:=by
  have hT:s.TypeIs (.ref it) "list_reverseiterator" := ⟨_,hit,rfl⟩
  refine wpAny_pyIter_slot hT rv_islot (wpAny_call_entry rv_islot hT rv_ientry ?_ (rv_iargs _))
  show wpAny _ _ (ret (.ref it)) _ _ s
  exact wpAny_pure ⟨_,rfl, "list_reverseiterator", _,hT,rv_slot.lookup,h⟩
theorem yld_rev (G:GW w s₁) {n:Nat} {tg:Expr->Prop} {all:List D} {l it:Addr}:∀ (i:Nat) (x:Int) (s:Shared),i≤all.length->x=(i:Int)-1->IsRv s.heap it l x->Yld w s₁ N n tg [(.lst all,.ref l)] (all.take i).reverse (.ref it) (one it) s
  | 0,x,s,hi,hx,hit=>fun A X s' hA hh H T D nx K=>by
    have ho':=kept_get T (fun q=>D _ q rfl) hit rfl
    have hx':x=-1:=by omega
    subst hx'
    exact rv_end hh ho' fun h' hk=>⟨rfl,To.heap (t:=s'.toks) hk,Kp.of_to (To.heap (t:=s'.toks) hk)⟩
  | i+1,x,s,hi,hx,hit=>by
    have hlt:i<all.length:=by omega
    rw [List.take_succ_eq_append_getElem hlt,List.reverse_append]
    show Yld w s₁ N n tg _ (all[i]::(all.take i).reverse) _ _ s
    intro A X s' hA hh H T D nx K
    have ho':=kept_get T (fun q=>D _ q rfl) hit rfl
    obtain ⟨a,vs,e,hn,hl',ba⟩:=of_lst (K _ (.head _))
    cases e
    obtain ⟨v,hv,bv⟩:=all_get ba (List.getElem?_eq_getElem hlt)
    refine rv_item (i:=i) ho' (by omega) hl' (v:=v) (by simpa using hv) fun h' hit' hs=>?_
    have K':Kp s' { s' with heap:=h' }:=Kp.ext (t:=s'.toks) hs.extBut ho' rfl (by decide) (by decide)
    have y':Yld w s₁ N n tg [(.lst all,.ref l)] (all.take i).reverse (.ref it) (one it) { s' with heap:=h' }:=yld_rev G i (x-1) _ (by omega) (by omega) hit'
    refine ⟨v,one it,rfl,To.but (t:=s'.toks) hs rfl (free_of (G.tabOk H) ho' rfl),K',fun θ q=>.inl q,K'.k bv,fun target θ=>?_⟩
    exact lot_none hit' rfl (by decide) ⟨To.refl _ _,Kp.refl _,y'⟩
theorem evit_rev (G:GW w s₁) {env:Env} {ρ:List (Str × D)} {n:Nat} {tg:Expr->Prop} {f e:Expr} {pos:Pos} {ds:List D} (x:Ev w s₁ A env ρ f (.val (.type "reversed"))) (y:Ev w s₁ A env ρ e (.lst ds))
    (hc:eval (.Call f [e] [] pos) env=(do callWith pos (← eval f env) [] (backTo pos (starEach [e] env)) [])) (hs:starEach [e] env=[(false,eval e env)]):EvIt w s₁ A env ρ n tg (.Call f [e] [] pos) ds.reverse:=by
  have hb:backTo pos (starEach [e] env)=[(false,eval e env)]:=by rw [hs];rfl
  refine evit_callT G x (ds:=[.lst ds]) (by rw [hb];exact evs_cons y evs_nil) hc (by rw [hs];rfl) (by rw [hb];rfl) fun N s vs b H nex=>?_
  obtain ⟨v,rfl,b'⟩:=one_arg b
  obtain ⟨l,us,rfl,hn,⟨m,hl⟩,ba⟩:=of_lst' b'
  have hlen:=all_length ba
  refine rv_call hl ?_
  have T₁:To no s { s with heap:=s.heap.push (rvObj l ((us.toArray.size:Int)-1)) }:=To.push _ _
  refine ⟨T₁,fun A' hA hh H'=>?_⟩
  have hit:IsRv (s.heap.push (rvObj l ((us.toArray.size:Int)-1))) s.heap.objs.size l ((us.toArray.size:Int)-1):=Heap.get?_push_size _ rfl
  refine rv_iter hit ⟨[(.lst ds,.ref l)],one s.heap.objs.size,To.refl _ _,fun p q=>by rw [q];exact ⟨newAt_ge (Nat.le_refl _),there_get hit⟩,fun p hp=>?_,fun N'=>⟨?_,fun A'' X s' H' T' D'=>?_⟩⟩
  · rw [List.mem_singleton] at hp;subst hp;exact b'.to T₁
  · have:=yld_rev G (N:=N') (n:=n) (tg:=tg) (all:=ds) (l:=l) (it:=s.heap.objs.size) ds.length ((us.toArray.size:Int)-1) { s with heap:=s.heap.push (rvObj l ((us.toArray.size:Int)-1)) } (Nat.le_refl _) (by rw [List.size_toArray,hlen]) hit
    rwa [List.take_length] at this
  · exact rv_iter (kept_get T' (fun q=>D' _ q rfl) hit rfl) ⟨rfl,rfl⟩
end
section
variable {w:World} {s₁ sb s:Shared} {N:Addr->Prop} {A:Around} {env:Env} {ρ:List (Str × D)} {γ:List (D × Value)} {X:Loc->Prop} {E:Value->Shared->Prop} {Q:Flow->Shared->Prop}
theorem xs_reverse (G:GW w s₁) {l:Addr} {done:List D} {x:Expr} {apos pos spos:Pos} {rest:List Stmt} (R:Rel s₁ N X sb env ρ γ s) (hX:X (.inl l)) (hN:N l) (o:Out N l done s) (xv:Ev w s₁ A env ρ x (.val (.ref l))) (hsz:done.length≤sizeLine)
    (hbase:attributeBase x "reverse" env (eval x env)=eval x env) (hk:backToKw pos (keywordEach [] env)=[]) (hline:(apos.endLine==pos.line)=true)
    (hi:interactive env=false) (hsw:swapsWith (.Call (.Attribute x "reverse" apos) [] [] pos) none spos.line env=pure false)
    (h:∀ s',Out N l done.reverse s'->Rel s₁ N X sb env ρ γ s'->Xs w A env rest Q E s'):Xs w A env (.Expr (.Call (.Attribute x "reverse" apos) [] [] pos) spos::rest) Q E s:=by
  refine xs_cons ⟨wpAny_Expr_any (wpAny_Call_method_lateS hbase ?_ hline (xv.use R fun u s' T bu=>?_)) hi hsw⟩
  · rw [hk];rfl
  obtain rfl:=of_val bu
  obtain ⟨us,hl,bs⟩:=o.to T
  obtain ⟨m,ho⟩:=id hl
  refine ⟨"list", "list.reverse", PySem.F.plainAttrs_list,PySem.F.slot_list_reverse,PySem.F.type_list_reverse,⟨_,ho,rfl⟩,fun a ea=>by cases ea;exact ⟨_,ho,rfl⟩,Calls.callWith_builtin rfl ?_⟩
  refine hev0 (pos:=pos) (Calls.spliced_nil ?_)
  refine rev_lst hl (by rw [all_length bs];exact hsz) fun h' hl' hsb=>?_
  exact h { s' with heap:=h' } ⟨us.reverse,hl',(all_reverse bs).butN hsb hN⟩ ((R.step T).listed hl.isList hl'.isList hsb hX hN)
end
theorem bits_of {b:Int} (hb:0<b):b<2^Builtin.Int.intBits b∧2^Builtin.Int.intBits b≤2*b:=by
  have h1:b.natAbs<2^Builtin.Int.intBits b:=intBits_le_iff.mp (Nat.le_refl _)
  have h1':(b.natAbs:Int)<2^Builtin.Int.intBits b:=by exact_mod_cast h1
  refine ⟨by omega,?_⟩
  cases hm:Builtin.Int.intBits b with
  | zero=>rw [hm] at h1;simp at h1;omega
  | succ k=>
    have h2:¬ b.natAbs<2^k:=fun q=>by have:=intBits_le_iff.mpr q;omega
    have h3:(2:Int)^k≤b.natAbs:=by
      have:2^k≤b.natAbs:=Nat.le_of_not_lt h2
      exact_mod_cast this
    rw [Int.pow_succ];omega
inductive DpI (dg:List Int) (b:Int) (m:Nat) (l:Addr) (N:Addr->Prop) (ds:List D) (ρ:List (Str × D)) (s':Shared):Prop
  | mk (pre suf qs:List Int) (e:ds=(pre.map D.int).reverse) (e2:dg=pre++suf) (l1:ρ.lookup ("q_digits" : Str)=some (.val (.ref l))) (l2:ρ.lookup ("r" : Str)=some (.int ((valOf m suf).fmod b))) (l3:ρ.lookup ("b" : Str)=some (.int b)) (l4:ρ.lookup ("n" : Str)=some (.int m))
    (h3:qs.length=suf.length) (h4:valOf m qs.reverse=(valOf m suf).fdiv b) (h5:∀ x,x∈qs->0≤x∧x<2^m) (o:Out (orN N l) l (qs.map D.int) s')
theorem f_dpos {w:World} {s₁:Shared} (G:GW w s₁) {n:Nat} {a b:Int} (ha:0≤a) (hb:2≤b) (hm2:Builtin.Int.intBits b≤7999) (hz:Builtin.Int.intBits a≤2^24) (hk:cnt a (Builtin.Int.intBits b)≤2^10):Fn w s₁ h0 (n+13) 70 [.int a,.int b] (divD a b):=by
  obtain ⟨hb1,hb2⟩:=bits_of (b:=b) (by omega)
  have hm:2≤Builtin.Int.intBits b:=by
    apply Nat.le_of_not_lt
    intro h
    have h3:(2:Int)^Builtin.Int.intBits b≤2^1:=by
      have:2^Builtin.Int.intBits b≤2^1:=Nat.pow_le_pow_right (by decide) (by omega)
      exact_mod_cast this
    omega
  generalize hmm:Builtin.Int.intBits b=m at *
  obtain ⟨hc1,hc2⟩:=cnt_ok (a:=a) (m:=m) (by omega)
  have hax:a<2^(m*cnt a m):=by
    have h':(a.natAbs:Int)<2^(m*cnt a m):=by exact_mod_cast hc1
    omega
  have hP:(0:Int)<2^m:=Int.pow_pos (by decide)
  have hval:=digs_val m (cnt a m) a ha hax
  have hlenD:=digs_len m (cnt a m) a
  have hmem:=digs_mem m (cnt a m) a
  generalize hDD:digs m a (cnt a m)=dg at *
  refine fn_enter (fun A s s' env h T=>h) ["a", "b"] G rfl rfl (by kernel_rfl) (fun s vs h=>by obtain ⟨a,b,rfl⟩:=len2 h;exact BindsTo.of_eq rfl) (by decide) (by decide) (by decide) rfl rfl rfl fun N A s L hA hh ⟨s₀,h₀,hown⟩ K R=>?_
  refine xs_assign R (d:=.int (m:Int)) (Ev.conv (m_bits (ev_var K rfl rfl rfl) rfl rfl rfl rfl) (by rw [hmm])) (.local rfl rfl) rfl fun s T θ R=>?_
  have F1:=f_i2d G (n:=n) (m:=m) (a:=a) ha (by omega) (by omega) hz hk
  rw [hDD] at F1
  refine xs_assign R (ev_callF G hA hh F1 (ev_gl G K rfl (by kernel_rfl) rfl) (evs_cons (ev_var K rfl rfl rfl) (evs_cons (ev_var K rfl rfl rfl) evs_nil)) rfl rfl rfl rfl) (.local rfl rfl) rfl fun s T θ R=>?_
  refine xs_assign R ev_int (.local rfl rfl) rfl fun s T θ R=>?_
  refine xs_newlist G (ds:=[]) R (by exact evs_nil) (Nat.zero_le _) (.local rfl rfl) rfl fun l s hnl hNl hol o R=>?_
  refine xs_for (X:=OwnL _ l) (n:=n+12) (tg:=fun θ=>True) G hA hh trivial R (evit_rev G (ev_bi G K rfl (by kernel_rfl) hv_reversed rfl) (ev_var K rfl rfl rfl) rfl rfl) (fun θ=>rfl) (ownL_there R o)
    (DpI dg b m l N)
    (fun s' T=>⟨dg,[],[],rfl,(List.append_nil _).symm,rfl,by show some (D.int 0)=some (D.int ((0:Int).fmod b));rw [Int.zero_fmod],rfl,rfl,rfl,by show (0:Int)=(0:Int).fdiv b;rw [Int.zero_fdiv],(fun x h=>nomatch h),o.to T⟩)
    (fun ds ρ s' s'' Y j T K' hY=>?_) (fun γ' ds ρ s' j R'=>?_) (fun γ' d ds ρ s' v' j R' T b'=>?_) (fun γ' ρ s' j R'=>?_)
  · obtain ⟨pre,suf,qs,e,e2,l1,l2,l3,l4,h3,h4,h5,o'⟩:=j
    exact ⟨pre,suf,qs,e,e2,l1,l2,l3,l4,h3,h4,h5,o'.kp T K' (fun q=>out_nots o (hY _ q))⟩
  · obtain ⟨pre,suf,qs,e,e2,l1,l2,l3,l4,h3,h4,h5,o'⟩:=j
    exact ownL_there R' o'
  · obtain ⟨pre,suf,qs,e,e2,l1,l2,l3,l4,h3,h4,h5,o'⟩:=j
    rcases pre.eq_nil_or_concat with rfl | ⟨pre,x,rfl⟩
    · cases e
    rw [List.concat_eq_append] at e e2
    rw [List.map_append,List.reverse_append] at e
    obtain ⟨rfl,rfl⟩:=List.cons.inj e
    obtain ⟨x0,x1⟩:=hmem x (by rw [e2];simp)
    obtain ⟨d1,d2,d3,d4,d5,d6⟩:=step_div (b:=b) (V:=valOf m suf) (d:=x) (P:=2^m) (by omega) hP x0 x1
    have hl2:qs.length≤2^10:=by
      rw [h3]
      have:=congrArg List.length e2
      simp at this;omega
    have hr0:0≤(valOf m suf).fmod b:=Int.fmod_nonneg_of_pos _ (by omega)
    have hr1:(valOf m suf).fmod b<b:=Int.fmod_lt_of_pos _ (by omega)
    have hrb:((valOf m suf).fmod b).natAbs<2^m:=nabP hr0 (Int.lt_trans hr1 hb1)
    have hrb':=bits_le hrb
    refine as_name (H:=fun θ=>True) (sto_more (fun θ h=>.inl h) (.local rfl rfl)) _ _ _ _ _ _ _ trivial R' b' fun s T₁ K₁ R'=>?_
    have o₁:=o'.kept K₁
    have F2:=f_div2 G (n:=n+7) (a:=(valOf m suf).fmod b*2^m+x) (b:=b) (m:=m) d5 (by omega) hb2 hb1 d6 hm hm2
    refine xs_tuple (X:=OwnL _ l) G (.inl hh) (fun θ θ θ θ=>.inl hh) R' (ev_callF G hA hh F2 (ev_gl G K rfl (by kernel_rfl) rfl) (by exact evs_cons (Ev.conv (ev_add (ev_shl (ev_var K rfl l2 rfl) (ev_var K rfl l4 rfl) (Int.natCast_nonneg _) (by omega)) (ev_var K rfl rfl rfl)) (by rw [Int.toNat_natCast])) (evs_cons (ev_var K rfl l3 rfl) (evs_cons (ev_var K rfl l4 rfl) evs_nil))) rfl rfl rfl rfl)
      (.cons (as_name (sto_more (fun θ h=>.inl h) (.local rfl rfl))) (.cons (as_name (sto_more (fun θ h=>.inl h) (.local rfl rfl))) .nil)) rfl rfl rfl fun s T₂ K₂ R'=>?_
    have o₂:=o₁.kept K₂
    refine xs_append G R' (.inr rfl) (.inr rfl) o₂ (ev_var K rfl l1 rfl) (ev_var K rfl rfl rfl) (by rw [List.length_map];unfold sizeLine;omega) rfl rfl rfl rfl rfl rfl fun s o₃ R'=>xs_nil ⟨_,?_,R'⟩
    refine ⟨pre,x::suf,qs++[((valOf m suf).fmod b*2^m+x).fdiv b],rfl,by rw [e2,List.append_assoc];rfl,l1,?_,l3,l4,?_,?_,fun y hy=>?_,?_⟩
    · show some (D.int _)=_
      rw [valOf,← d2]
    · rw [List.length_append,h3];rfl
    · rw [List.reverse_append]
      show valOf m (_::qs.reverse)=_
      rw [valOf,h4,valOf,← d1]
    · rcases List.mem_append.mp hy with hy | hy
      · exact h5 y hy
      · rw [List.mem_singleton] at hy;rw [hy];exact ⟨d3,d4⟩
    · rw [List.map_append];exact o₃
  · obtain ⟨pre,suf,qs,e,e2,l1,l2,l3,l4,h3,h4,h5,o'⟩:=j
    have hpre:pre=[]:=by
      have:=congrArg List.length e
      simp at this
      exact List.length_eq_zero_iff.mp this.symm
    subst hpre
    rw [List.nil_append] at e2
    subst e2
    have R':=R'.rebase R.to
    have hl2:qs.length≤2^10:=by omega
    refine xs_nil (xs_reverse G R' (.inr rfl) (.inr rfl) o' (ev_var K rfl l1 rfl) (by rw [List.length_map];unfold sizeLine;omega) rfl rfl rfl rfl rfl fun s o₃ R'=>?_)
    rw [← List.map_reverse] at o₃
    have R₂:=Rel.closeL (x := "q_digits") R' o₃ hNl l1 rfl
    have F3:=f_d2i G (n:=n) (m:=m) (ds:=qs.reverse) (fun x hx=>h5 x (List.mem_reverse.mp hx)) (by rw [List.length_reverse,h3,hlenD];exact Nat.le_trans hc2 (Nat.le_trans (Nat.sub_le _ _) (Nat.le_trans (Nat.add_le_add hz hm2) (by decide)))) (by rw [List.length_reverse];exact hl2)
    refine xs_assign R₂ (ev_callF G hA hh F3 (ev_gl G K rfl (by kernel_rfl) rfl) (by exact evs_cons (ev_var K rfl lookup_eq rfl) (evs_cons (ev_var K rfl l4 rfl) evs_nil)) rfl rfl rfl rfl) (sto_more (fun θ h=>.inl h) (.local rfl rfl)) rfl fun s T θ R₃=>?_
    refine xs_return R₃ (Ev.conv (ev_tuple (evs_cons (ev_var K rfl rfl rfl) (evs_cons (ev_var K rfl l2 rfl) evs_nil)) (Nat.le_of_ble_eq_true rfl)) ?_) fun v s' T b=>⟨(R₃.to.trans T.of_no).less fun p h=>h.imp id fun e=>by rw [e];exact hnl,b⟩
    rw [h4,hval]
theorem cnt_le {a:Int} {m Z k:Nat} (h:Builtin.Int.intBits a≤Z) (hk:(Z+m-1) / m≤k):cnt a m≤k:=Nat.le_trans (Nat.div_le_div_right (Nat.sub_le_sub_right (Nat.add_le_add_right h m) 1)) hk
theorem f_id0 {w:World} {s₁:Shared} (G:GW w s₁) {n:Nat} {a b:Int} (ha:0≤a) (hb:2≤b) (hm2:Builtin.Int.intBits b≤7999) (hz:Builtin.Int.intBits a≤2^24) (hk:cnt a (Builtin.Int.intBits b)≤2^10):Fn w s₁ h0 (n+14) 77 [.int a,.int b] (divD a b):=by
  refine fn_enter (fun A s s' env h T=>h) ["a", "b"] G rfl rfl (by kernel_rfl) (fun s vs h=>by obtain ⟨a,b,rfl⟩:=len2 h;exact BindsTo.of_eq rfl) (by decide) (by decide) (by decide) rfl rfl rfl fun N A s L hA hh ⟨s₀,h₀,hown⟩ K R=>?_
  refine xs_if R (ts_cmp (ev_var K rfl rfl rfl) ev_int op_eq rfl) (fun hc s T R=>?_) fun hc s T R=>?_
  · have:(b==0)=true:=hc
    simp only [beq_iff_eq] at this;omega
  refine xs_if R (ts_cmp (ev_var K rfl rfl rfl) ev_int op_lt rfl) (fun hc s T R=>absurd (of_decide_eq_true hc) (by omega)) fun hc s T R=>?_
  refine xs_if R (ts_cmp (ev_var K rfl rfl rfl) ev_int op_lt rfl) (fun hc s T R=>absurd (of_decide_eq_true hc) (by omega)) fun hc s T R=>?_
  exact xs_return R (ev_callF G hA hh (f_dpos G (n:=n) ha hb hm2 hz hk) (ev_gl G K rfl (by kernel_rfl) rfl) (by exact evs_cons (ev_var K rfl rfl rfl) (evs_cons (ev_var K rfl rfl rfl) evs_nil)) rfl rfl rfl rfl) fun v s' T b=>⟨R.to.trans T.of_no,b⟩
theorem not_div {a b:Int} (hb:0<b):Builtin.bitNot ((Builtin.bitNot a).fdiv b)=a.fdiv b∧b+Builtin.bitNot ((Builtin.bitNot a).fmod b)=a.fmod b:=by
  have e:∀ x,Builtin.bitNot x=-x-1:=fun x=>by unfold Builtin.bitNot;omega
  rw [e,e,e]
  have k1:=Int.mul_fdiv_add_fmod (-a-1) b
  have k2:0≤(-a-1).fmod b:=Int.fmod_nonneg_of_pos _ hb
  have k3:(-a-1).fmod b<b:=Int.fmod_lt_of_pos _ hb
  obtain ⟨x,y⟩:=div_pair (A:=a) (q:=-(-a-1).fdiv b-1) (r:=b+(-(-a-1).fmod b-1)) hb (by clear k1 k2 e;generalize (-a-1).fmod b=r at *;omega) (by clear k1 k3 e hb;generalize (-a-1).fmod b=r at *;omega) (by clear k2 k3 e hb;rw [Int.sub_mul,Int.one_mul,Int.neg_mul,Int.mul_comm _ b];omega)
  exact ⟨x.symm,y.symm⟩
theorem f_id1 {w:World} {s₁:Shared} (G:GW w s₁) {n Z:Nat} {a b:Int} (hb:2≤b) (hm2:Builtin.Int.intBits b≤7999) (hZ:a.natAbs<2^Z) (hz:Z≤2^24) (hk:(Z+Builtin.Int.intBits b-1) / Builtin.Int.intBits b≤2^10):Fn w s₁ h0 (n+15) 77 [.int a,.int b] (divD a b):=by
  by_cases ha:0≤a
  · exact f_id0 G (n:=n+1) ha hb hm2 (Nat.le_trans (bits_le hZ) hz) (cnt_le (bits_le hZ) hk)
  have e:Builtin.bitNot a=-a-1:=by unfold Builtin.bitNot;omega
  have hZ':(Builtin.bitNot a).natAbs<2^Z:=by rw [e];exact Nat.lt_of_le_of_lt (Int.natAbs_neg a▸nabM (by omega) (Int.sub_le_self _ (by decide))) hZ
  have F:=f_id0 G (n:=n) (a:=Builtin.bitNot a) (b:=b) (by rw [e];omega) hb hm2 (Nat.le_trans (bits_le hZ') hz) (cnt_le (bits_le hZ') hk)
  refine fn_enter (fun A s s' env h T=>h) ["a", "b"] G rfl rfl (by kernel_rfl) (fun s vs h=>by obtain ⟨a,b,rfl⟩:=len2 h;exact BindsTo.of_eq rfl) (by decide) (by decide) (by decide) rfl rfl rfl fun N A s L hA hh ⟨s₀,h₀,hown⟩ K R=>?_
  refine xs_if R (ts_cmp (ev_var K rfl rfl rfl) ev_int op_eq rfl) (fun hc s T R=>?_) fun hc s T R=>?_
  · have:(b==0)=true:=hc
    simp only [beq_iff_eq] at this;omega
  refine xs_if R (ts_cmp (ev_var K rfl rfl rfl) ev_int op_lt rfl) (fun hc s T R=>absurd (of_decide_eq_true hc) (by omega)) fun hc s T R=>?_
  refine xs_if R (ts_cmp (ev_var K rfl rfl rfl) ev_int op_lt rfl) (fun hc s T R=>?_) fun hc s T R=>absurd (Int.not_le.mp ha) (of_decide_eq_false hc)
  refine xs_tuple G (.inl hh) (fun θ θ θ θ=>.inl hh) R (ev_callF G hA hh F (ev_gl G K rfl (by kernel_rfl) rfl) (by exact evs_cons (ev_inv (ev_var K rfl rfl rfl)) (evs_cons (ev_var K rfl rfl rfl) evs_nil)) rfl rfl rfl rfl) (.cons (as_name (.local rfl rfl)) (.cons (as_name (.local rfl rfl)) .nil)) rfl rfl rfl fun s T θ R=>?_
  refine xs_return R (Ev.conv (ev_tuple (evs_cons (ev_inv (ev_var K rfl rfl rfl)) (evs_cons (ev_add (ev_var K rfl rfl rfl) (ev_inv (ev_var K rfl rfl rfl))) evs_nil)) (Nat.le_of_ble_eq_true rfl)) ?_) fun v s' T b=>⟨R.to.trans T.of_no,b⟩
  obtain ⟨x,y⟩:=not_div (a:=a) (b:=b) (by omega)
  rw [x,y]
theorem neg_div {a b:Int} (hb:b<0):(-a).fdiv (-b)=a.fdiv b∧-((-a).fmod (-b))=a.fmod b:=by
  have k1:=Int.mul_fdiv_add_fmod (-a) (-b)
  have k2:=Int.neg_fdiv_neg a b
  have k3:=Int.mul_fdiv_add_fmod a b
  rw [k2] at k1
  refine ⟨k2,?_⟩
  have:-b*a.fdiv b=-(b*a.fdiv b):=Int.neg_mul _ _
  have t:=congrArg (fun z=>-z) k1
  rw [this,Int.neg_add,Int.neg_neg,Int.neg_neg] at t
  exact Int.add_left_cancel (t.trans k3.symm)
theorem bits_neg (b:Int):Builtin.Int.intBits (-b)=Builtin.Int.intBits b:=by
  apply Nat.le_antisymm
  · exact intBits_le_iff.mpr (by rw [Int.natAbs_neg];exact intBits_le_iff.mp (Nat.le_refl _))
  · exact intBits_le_iff.mpr (by rw [← Int.natAbs_neg];exact intBits_le_iff.mp (Nat.le_refl _))
theorem f_idiv {w:World} {s₁:Shared} (G:GW w s₁) {n Z:Nat} {a b:Int} (hb:2≤b.natAbs) (hm2:Builtin.Int.intBits b≤7999) (hZ:a.natAbs<2^Z) (hz:Z≤2^24) (hk:(Z+Builtin.Int.intBits b-1) / Builtin.Int.intBits b≤2^10):Fn w s₁ h0 (n+16) 77 [.int a,.int b] (divD a b):=by
  by_cases hb0:0<b
  · exact f_id1 G (n:=n+1) (Z:=Z) (by omega) hm2 hZ hz hk
  have F:=f_id1 G (n:=n) (Z:=Z) (a:=-a) (b:=-b) (by omega) (by rw [bits_neg];exact hm2) (by rw [Int.natAbs_neg];exact hZ) hz (by rw [bits_neg];exact hk)
  refine fn_enter (fun A s s' env h T=>h) ["a", "b"] G rfl rfl (by kernel_rfl) (fun s vs h=>by obtain ⟨a,b,rfl⟩:=len2 h;exact BindsTo.of_eq rfl) (by decide) (by decide) (by decide) rfl rfl rfl fun N A s L hA hh ⟨s₀,h₀,hown⟩ K R=>?_
  refine xs_if R (ts_cmp (ev_var K rfl rfl rfl) ev_int op_eq rfl) (fun hc s T R=>?_) fun hc s T R=>?_
  · have:(b==0)=true:=hc
    simp only [beq_iff_eq] at this;omega
  refine xs_if R (ts_cmp (ev_var K rfl rfl rfl) ev_int op_lt rfl) (fun hc s T R=>?_) fun hc s T R=>absurd (show b<0 by omega) (of_decide_eq_false hc)
  refine xs_tuple G (.inl hh) (fun θ θ θ θ=>.inl hh) R (ev_callF G hA hh F (ev_gl G K rfl (by kernel_rfl) rfl) (by exact evs_cons (ev_neg (ev_var K rfl rfl rfl)) (evs_cons (ev_neg (ev_var K rfl rfl rfl)) evs_nil)) rfl rfl rfl rfl) (.cons (as_name (.local rfl rfl)) (.cons (as_name (.local rfl rfl)) .nil)) rfl rfl rfl fun s T θ R=>?_
  refine xs_return R (Ev.conv (ev_tuple (evs_cons (ev_var K rfl rfl rfl) (evs_cons (ev_neg (ev_var K rfl rfl rfl)) evs_nil)) (Nat.le_of_ble_eq_true rfl)) ?_) fun v s' T b=>⟨R.to.trans T.of_no,b⟩
  obtain ⟨x,y⟩:=neg_div (a:=a) (b:=b) (by omega)
  rw [x,y]
structure Zst (z TI TO i1 i2 l1 l2:Addr) (k:Nat) (h:Heap):Prop where
  zz:IsZip h z TI TO .none
  ti:IsPair h TI (.ref i1) (.ref i2)
  to:∃ a b,IsPair h TO a b
  h1:h.IsListIter i1 l1 k
  h2:h.IsListIter i2 l2 k
noncomputable def zfp (z TO i1 i2:Addr):Loc->Prop:=fun l=>l=.inl z∨l=.inl TO∨l=.inl i1∨l=.inl i2
section
variable {w:World} {s₁:Shared} {N:Addr->Prop} {A:Around} {env:Env} {ρ:List (Str × D)} {γ:List (D × Value)} {X:Loc->Prop}
theorem Rel.shift {sb s s':Shared} {Z:Loc->Prop} (R:Rel s₁ N X sb env ρ γ s) (T:To Z s s') (k:∀ {d:D} {v:Value},Bears N s.heap d v->Bears N s'.heap d v) (H:At s₁ s') (TX:To X sb s') (hloc:¬ Z (.inl env.locals))
    (hcell:∀ x c kk,env.kindOf x=some kk->kk=.cell∨kk=.free->env.cells.lookup x=some c->¬ Z (.inl c)) (nx:Nex N s'):Rel s₁ N X sb env ρ γ s' where
  inv:=H
  to:=TX
  xnew:=R.xnew
  xloc:=R.xloc
  ns:=by
    obtain ⟨m,h,r⟩:=R.ns
    exact ⟨m,ns_to' T hloc R.ltab h,fun y d hk hl=>let ⟨v,e,b⟩:=r y d hk hl;⟨v,e,k b⟩⟩
  cel:=fun y kk hk hq=>by
    obtain ⟨c,ov,hc,⟨o,ho,hd⟩,ht,r⟩:=R.cel y kk hk hq
    exact ⟨c,ov,hc,⟨o,T.keep c o (hcell y c kk hk hq hc) (fun q=>absurd q ht) ho,hd⟩,ht,fun d hd=>let ⟨v,e,b⟩:=r d hd;⟨v,e,k b⟩⟩
  apart:=R.apart
  ltab:=R.ltab
  gh:=fun p hp=>k (R.gh p hp)
  nex:=nx
  tabs:=R.tabs.to T
theorem zip_to (G:GW w s₁) {s:Shared} {h':Heap} {z TI TO i1 i2 l1 l2:Addr} {k:Nat} (H:At s₁ s) (Z:Zst z TI TO i1 i2 l1 l2 k s.heap) (hk:∀ c o,c≠z->c≠TO->c≠i1->c≠i2->s.heap.get? c=some o->h'.get? c=some o) (hN:N TO) :
    To (zfp z TO i1 i2) s { s with heap:=h' }∧(∀ {d:D} {v:Value},Bears N s.heap d v->Bears N h' d v)∧(∀ {ds:List D} {vs:List Value},BearsAll N s.heap ds vs->BearsAll N h' ds vs):=by
  obtain ⟨a,b,hTO⟩:=Z.to
  obtain ⟨o1,ho1,hc1,_⟩:=Z.h1
  obtain ⟨o2,ho2,hc2,_⟩:=Z.h2
  have tk:=G.tabOk H
  have kk:∀ c o,¬ N c->s.heap.get? c=some o->(o.cls=.type "tuple" ∨ o.cls=.type "list")->h'.get? c=some o:=fun c o hn e hc=>by
    refine hk c o (fun q=>?_) (fun q=>hn (q▸hN)) (fun q=>?_) (fun q=>?_) e
    · subst q;rw [Z.zz] at e;cases e;exact hc.elim (ty_ne (by decide)) (ty_ne (by decide))
    · subst q;rw [ho1] at e;cases e;rw [hc1] at hc;exact hc.elim (ty_ne (by decide)) (ty_ne (by decide))
    · subst q;rw [ho2] at e;cases e;rw [hc2] at hc;exact hc.elim (ty_ne (by decide)) (ty_ne (by decide))
  refine ⟨To.keeps (t:=s.toks) (fun b o hb e=>hk b o (fun q=>hb (.inl (by rw [q]))) (fun q=>hb (.inr (.inl (by rw [q])))) (fun q=>hb (.inr (.inr (.inl (by rw [q]))))) (fun q=>hb (.inr (.inr (.inr (by rw [q]))))) e) fun a ha=>?_,fun b=>b.keeps kk fun θ θ n θ=>n,fun b=>b.keeps kk fun θ θ n θ=>n⟩
  rcases ha with q | q | q | q<;>cases q
  · exact free_of tk Z.zz rfl
  · exact free_of tk hTO rfl
  · exact free_of tk ho1 hc1
  · exact free_of tk ho2 hc2
theorem zip_loop (G:GW w s₁) (hh:A.handled=none) {elt iter:Expr} {elts:List Expr} {tk:Nat} {tp pos:Pos} {scope:Scope} {acc:Addr} {z TI TO i1 i2 l1 l2:Addr} (D₀:ZipApart z TI TO i1 i2 l1 l2) {xs ys:List D} (hg1:(.lst xs,.ref l1)∈γ) (hg2:(.lst ys,.ref l2)∈γ) {sI:Shared}
    (hz:∀ l,zfp z TO i1 i2 l->NewAt sI l) (hNT:N TO) (hNo:∀ a,N a->a≠z∧a≠i1∧a≠i2) (hlo:¬ zfp z TO i1 i2 (.inl env.locals)) (hce:∀ x c kk,env.kindOf x=some kk->kk=.cell∨kk=.free->env.cells.lookup x=some c->¬ zfp z TO i1 i2 (.inl c)) (H₀:At s₁ sI)
    (hX:∀ l,X l->¬ zfp z TO i1 i2 l) (hXT:¬ X (.inl TI)) (hacc:X (.inl acc)) (g:D->D->D)
    (hturn:∀ d1 d2 sb s v done,d1∈xs->d2∈ys->done.length<sizeLine->Rel s₁ N X sb env ρ γ s->Bears N s.heap (.tup [d1,d2]) v->Out N acc done s->wpAny (Mo w) A (assign (.Tuple elts tk tp) env v) (fun θ s'=>wpAny (Mo w) A (emitOf elt acc env >>= fun θ=>againOf (.ListComp elt [⟨.Tuple elts tk tp,iter,[],0⟩] scope pos) 0 (.ref z) acc env) (fun fin s''=>fin=.again (.compLoop (.ListComp elt [⟨.Tuple elts tk tp,iter,[],0⟩] scope pos) 0 (.ref z) (.ref acc) env)∧Out N acc (done++[g d1 d2]) s''∧Rel s₁ N X sb env ρ γ s'') (fun θ θ=>False) s') (fun θ θ=>False) s) :
    ∀ (k m:Nat) (done:List D) (s:Shared),k+m=min xs.length ys.length->done.length+m≤sizeLine->Rel s₁ N X sI env ρ γ s->Out N acc done s->Zst z TI TO i1 i2 l1 l2 k s.heap ->
      codeAny (Mo w) A (.compLoop (.ListComp elt [⟨.Tuple elts tk tp,iter,[],0⟩] scope pos) 0 (.ref z) (.ref acc) env) (fun r s'=>r=.ok .next∧To X sI s'∧(∃ m,s'.heap.Ns env.locals m)∧∃ us,Lst s'.heap acc us∧BearsAll N s'.heap (done++((xs.zip ys).drop k).map fun p=>g p.1 p.2) us) s:=by
  intro k m
  induction m generalizing k with
  | zero=>
    intro done s hk hK R o Z
    obtain ⟨a,b,hTO⟩:=Z.to
    obtain ⟨_,vs1,e1,_,hl1,ba1⟩:=of_lst (R.gh _ hg1)
    cases e1
    obtain ⟨_,vs2,e2,_,hl2,ba2⟩:=of_lst (R.gh _ hg2)
    cases e2
    have hlen1:=all_length ba1
    have hlen2:=all_length ba2
    refine codeAny_of_tree ?_
    show wpAny _ _ ((compTurn (.ListComp elt [⟨.Tuple elts tk tp,iter,[],0⟩] scope pos) 0 (.ref z) (.ref acc) env).onRaise (fun x=>do noteFrame x env;theTreesLotGoes x)) _ _ s
    refine wpAny_noted ?_
    rw [shape1]
    refine wpAny_bind (wpAny_standAt (wpAny_bind (wpAny_pyNext_zip_end hh D₀ Z.zz Z.ti hTO Z.h1 Z.h2 hl1 hl2 ?_ fun h' hk'=>?_)))
    · by_cases q:xs.length≤ys.length
      · left;simp;omega
      · right;simp;omega
    obtain ⟨T,kb,ka⟩:=zip_to G R.inv Z hk' hNT
    obtain ⟨m,hm,_⟩:=R.ns
    obtain ⟨us,⟨mm,ho⟩,bs⟩:=o
    refine wpAny_pure ⟨rfl,R.to.forget' T fun l h=>.inr (hz l h),⟨m,ns_to' T hlo R.ltab hm⟩,us,⟨mm,kept_get T (hX _ hacc) ho rfl⟩,?_⟩
    rw [List.drop_eq_nil_of_le (by rw [List.length_zip];omega),List.map_nil,List.append_nil]
    exact ka bs
  | succ m ih=>
    intro done s hk hK R o Z
    obtain ⟨a,b,hTO⟩:=Z.to
    obtain ⟨_,vs1,e1,_,hl1,ba1⟩:=of_lst (R.gh _ hg1)
    cases e1
    obtain ⟨_,vs2,e2,_,hl2,ba2⟩:=of_lst (R.gh _ hg2)
    cases e2
    have hk1:k<xs.length:=by omega
    have hk2:k<ys.length:=by omega
    obtain ⟨v1,hv1,b1⟩:=all_get ba1 (List.getElem?_eq_getElem hk1)
    obtain ⟨v2,hv2,b2⟩:=all_get ba2 (List.getElem?_eq_getElem hk2)
    refine codeAny_of_tree ?_
    show wpAny _ _ ((compTurn (.ListComp elt [⟨.Tuple elts tk tp,iter,[],0⟩] scope pos) 0 (.ref z) (.ref acc) env).onRaise (fun x=>do noteFrame x env;theTreesLotGoes x)) _ _ s
    refine wpAny_noted ?_
    rw [shape1]
    refine wpAny_bind (wpAny_standAt (wpAny_bind (wpAny_pyNext_zip_item D₀ Z.zz Z.ti hTO Z.h1 Z.h2 hl1 hl2 (x:=v1) (y:=v2) (by simpa using hv1) (by simpa using hv2) fun h' a1 a2 a3 a4 a5 a6 a7=>?_)))
    obtain ⟨T,kb,ka⟩:=zip_to G R.inv Z a7 hNT
    have tkk:=G.tabOk R.inv
    obtain ⟨oi1,hoi1,hci1,hdi1⟩:=id a3
    obtain ⟨oi2,hoi2,hci2,hdi2⟩:=id a4
    have nx:Nex N { s with heap:=h' }:=fun c hc q=>(newAt_back tkk T q).elim (R.nex c hc) fun w=>by
      rcases w with w | w | w | w<;>cases w
      · exact there_get (s:={ s with heap:=h' }) a1 q
      · exact there_get (s:={ s with heap:=h' }) a2 q
      · exact there_get (s:={ s with heap:=h' }) hoi1 q
      · exact there_get (s:={ s with heap:=h' }) hoi2 q
    have R₁:=R.shift T kb (R.inv.forget T fun l h=>At.of_new G H₀ (hz l h)) (R.to.forget' T fun l h=>.inr (hz l h)) hlo hce nx
    have bt:Bears N h' (.tup [xs[k],ys[k]]) (.ref s.heap.objs.size):=bears_tup (vs:=[v1,v2]) R.nex.size ⟨_,a5,rfl,_,rfl⟩ (all_cons (kb b1) (all_cons (kb b2) all_nil))
    refine wpAny_bind (wpAny_letOwnedTupleGo_zip (s:={ s with heap:=h' }) a1 fun h₂ hz₂ hs₂=>?_)
    have T₂:To (one z) { s with heap:=h' } { s with heap:=h₂ }:=To.but (s:={ s with heap:=h' }) (t:=s.toks) hs₂ rfl (free_of (G.tabOk R₁.inv) a1 rfl)
    have K₂:Kp { s with heap:=h' } { s with heap:=h₂ }:=Kp.of_toX T₂ fun b hb=>by cases hb;exact noSeq_fields a1 rfl
    have hzz:zfp z TO i1 i2 (.inl z):=.inl rfl
    have R₂:=R₁.shift T₂ (fun b=>K₂.k b) (R₁.inv.forget T₂ fun l h=>by rw [h];exact At.of_new G H₀ (hz _ hzz)) (R₁.to.forget' T₂ fun l h=>.inr (by rw [h];exact hz _ hzz)) (fun q=>hlo (by rw [q];exact hzz)) (fun x c kk h1 h2 h3 q=>hce x c kk h1 h2 h3 (by rw [q];exact hzz)) (fun c hc q=>(newAt_back (G.tabOk R₁.inv) T₂ q).elim (nx c hc) fun w=>by cases w;exact (hNo _ hc).1 rfl)
    have o₂:Out N acc done { s with heap:=h₂ }:=by
      obtain ⟨us,⟨mm,ho⟩,bs⟩:=o
      exact ⟨us,⟨mm,kept_get T₂ (fun q=>hX _ hacc (by rw [q];exact hzz)) (kept_get T (hX _ hacc) ho rfl) rfl⟩,K₂.all (ka bs)⟩
    have Z₂:Zst z TI TO i1 i2 l1 l2 (k+1) h₂:=⟨hz₂,kept_get T₂ (fun q=>D₀.TIz (Sum.inl.inj q)) (a7 _ _ D₀.TIz D₀.TITO D₀.TIi1 D₀.TIi2 Z.ti) rfl,⟨v1,v2,kept_get T₂ (fun q=>D₀.TOz (Sum.inl.inj q)) a2 rfl⟩,a3.extBut hs₂.extBut D₀.i1z,a4.extBut hs₂.extBut D₀.i2z⟩
    refine wpAny_bind (wpAny_mono (hturn xs[k] ys[k] { s with heap:=h₂ } { s with heap:=h₂ } _ done (List.getElem_mem _) (List.getElem_mem _) (by omega) R₂.here (K₂.k bt) o₂) (fun θ s₃ h₃=>wpAny_mono h₃ (fun fin s₄ h₄=>?_) fun θ θ h=>h.elim) fun θ θ h=>h.elim)
    obtain ⟨rfl,o₄,R₄⟩:=h₄
    have kg:∀ {a:Addr} {o:Obj} {c:String},¬ X (.inl a)->h₂.get? a=some o->o.cls=.type c->s₄.heap.get? a=some o:=fun ha e hc=>kept_get R₄.to ha e hc
    have nX:∀ a,zfp z TO i1 i2 (.inl a)->¬ X (.inl a):=fun a h q=>hX _ q h
    have Z₄:Zst z TI TO i1 i2 l1 l2 (k+1) s₄.heap:=by
      obtain ⟨a',b',hTO'⟩:=Z₂.to
      obtain ⟨p1,q1,r1,t1⟩:=Z₂.h1
      obtain ⟨p2,q2,r2,t2⟩:=Z₂.h2
      exact ⟨kg (nX _ hzz) Z₂.zz rfl,kg hXT Z₂.ti rfl,⟨a',b',kg (nX _ (.inr (.inl rfl))) hTO' rfl⟩,⟨p1,kg (nX _ (.inr (.inr (.inl rfl)))) q1 r1,r1,t1⟩,⟨p2,kg (nX _ (.inr (.inr (.inr rfl)))) q2 r2,r2,t2⟩⟩
    refine ⟨rfl,codeAny_mono (ih (k+1) (done++[g xs[k] ys[k]]) s₄ (by omega) (by rw [List.length_append,List.length_singleton];omega) (R₂.back R₄) o₄ Z₄) fun r s' h=>?_⟩
    obtain ⟨e,T',hm,us,hl,bs⟩:=h
    refine ⟨e,T',hm,us,hl,?_⟩
    have hd:(xs.zip ys).drop k=(xs[k],ys[k])::(xs.zip ys).drop (k+1):=by
      have hkz:k<(xs.zip ys).length:=by rw [List.length_zip];omega
      rw [List.drop_eq_getElem_cons hkz,List.getElem_zip]
    rw [hd,List.map_cons]
    rw [List.append_assoc] at bs
    exact bs
theorem Rel.moreM {M:Addr->Prop} {sb s s':Shared} (R:Rel s₁ N X sb env ρ γ s) (T:To no s s') (hM:∀ a,M a->NewAt s (.inl a)∧¬ NewAt s' (.inl a)):Rel s₁ (fun a=>N a∨M a) X sb env ρ γ s':=by
  have k:∀ {d:D} {v:Value},Bears N s.heap d v->Bears (fun a=>N a∨M a) s'.heap d v:=fun b=>Bears.to T (b.keeps (fun θ θ θ e θ=>e) fun c o hn e q=>q.elim hn fun z=>by
    have:=(hM c z).1
    rw [show s.heap.get? c=none from this] at e;cases e)
  have R':=R.step T
  exact ⟨R'.inv,R'.to,R'.xnew,R'.xloc,let ⟨m,h,r⟩:=R.ns;⟨m,ns_to' T id R.ltab h,fun y d hk hl=>let ⟨v,e,b⟩:=r y d hk hl;⟨v,e,k b⟩⟩,fun y kk hk hq=>let ⟨c,ov,hc,hi,ht,r⟩:=R.cel y kk hk hq;⟨c,ov,hc,cell_to T ht hi,ht,fun d hd=>let ⟨v,e,b⟩:=r d hd;⟨v,e,k b⟩⟩,
    R'.apart,R'.ltab,fun p hp=>k (R.gh p hp),fun a ha q=>ha.elim (fun h=>R'.nex a h q) fun h=>(hM a h).2 q,R'.tabs⟩
theorem ev_zip (G:GW w s₁) (K:EnvOk env) (hh:A.handled=none) {f e1 e2 elt:Expr} {elts:List Expr} {kt:Nat} {tp cp pos:Pos} {scope:Scope} {xs ys:List D} (xf:Ev w s₁ A env ρ f (.val (.type "zip"))) (y1:Ev w s₁ A env ρ e1 (.lst xs)) (y2:Ev w s₁ A env ρ e2 (.lst ys))
    (hc:eval (.Call f [e1,e2] [] cp) env=(do callWith cp (← eval f env) [] (backTo cp (starEach [e1,e2] env)) [])) (hs:starEach [e1,e2] env=[(false,eval e1 env),(false,eval e2 env)]) (sc:ScOk scope env) (bs:D->D->List (Str × D)) (hb:∀ d1 d2,d1∈xs->d2∈ys->ownB scope (bs d1 d2)=true)
    (ha:∀ N' C cells acc d1 d2,d1∈xs->d2∈ys->As w s₁ N' A (compEnv scope env C cells) (Xc scope C acc cells) (fun θ=>True) (assign (.Tuple elts kt tp) (compEnv scope env C cells)) (.tup [d1,d2]) (bs d1 d2)) (g:D->D->D)
    (he:∀ C cells d1 d2,EnvOk (compEnv scope env C cells)->d1∈xs->d2∈ys->Ev w s₁ A (compEnv scope env C cells) (bs d1 d2++capt scope ρ) elt (g d1 d2)) (hK:xs.length≤sizeLine) :
    Ev w s₁ A env ρ (.ListComp elt [⟨.Tuple elts kt tp,.Call f [e1,e2] [] cp,[],0⟩] scope pos) (.lst ((xs.zip ys).map fun p=>g p.1 p.2)):=Gv.mk fun N X sb γ s R=>by
  rw [eval_ListComp]
  refine wpAny_comprehension_free (use:=none) rfl (fun θ=>rfl) (closure_eq (scOk_cells sc R)) sc.k (scOk_names sc) ?_
  show wpAny _ _ (eval (.Call f [e1,e2] [] cp) env) _ _ s
  rw [hc]
  refine wpAny_bind (xf.use R fun u sa Ta bu=>?_)
  obtain rfl:=of_val bu
  refine PyProof.Rows.callWith_type (by rw [hs];rfl) ?_
  rw [hs]
  refine Calls.evalArgs_plain (Calls.spliced_cons (y1.use (R.step Ta) fun v1 sb' Tb b1=>Calls.spliced_cons (y2.use ((R.step Ta).step Tb) fun v2 sc' Tc b2=>Calls.spliced_nil ?_)))
  have b1':=b1.to Tc
  obtain ⟨l1,us1,rfl,hn1,hl1,ba1⟩:=of_lst b1'
  obtain ⟨l2,us2,rfl,hn2,hl2,ba2⟩:=of_lst b2
  have T₀:=(Ta.trans Tb).trans Tc
  have lt1:l1<sc'.heap.objs.size:=by obtain ⟨o,ho,_⟩:=hl1;exact Heap.lt_size ho
  have lt2:l2<sc'.heap.objs.size:=by obtain ⟨o,ho,_⟩:=hl2;exact Heap.lt_size ho
  have D₀:=zipApart_new lt1 lt2
  refine call_zip_2 hl1 hl2 fun h' hz hTI hTO hi1 hi2 hsz hkeep=>?_
  generalize hn:sc'.heap.objs.size=n at *
  have Tz:To no sc' { sc' with heap:=h' }:=To.heap (t:=sc'.toks) hkeep
  have T₁₂:=T₀.trans Tz
  have hnew:∀ a,n≤a->NewAt s (.inl a):=fun a ha=>NewAt.to R.tabs T₀ (newAt_ge (by omega))
  have hM:∀ a,a=n+3->NewAt s (.inl a)∧¬ NewAt { sc' with heap:=h' } (.inl a):=fun a q=>by
    subst q
    exact ⟨hnew _ (by omega),there_get (s:={ sc' with heap:=h' }) hTO⟩
  have mb:∀ {d:D} {v:Value},Bears N sc'.heap d v->Bears (fun a=>N a∨a=n+3) h' d v:=fun b=>Bears.to Tz (b.keeps (fun θ θ θ e θ=>e) fun c o hcN e q=>q.elim hcN fun z=>by
    have z':c=n+3:=z
    exact absurd (Heap.lt_size e) (by rw [z',hn];exact Nat.not_lt.mpr (Nat.le_add_right _ _)))
  have R₂:Rel s₁ (fun a=>N a∨a=n+3) X s env ρ ([(.lst xs,.ref l1),(.lst ys,.ref l2)]++γ) { sc' with heap:=h' }:=(R.here.moreM T₁₂ hM).ghost fun p hp=>by
    simp only [List.mem_cons,List.not_mem_nil,or_false] at hp
    rcases hp with rfl | rfl
    · exact mb b1'
    · exact mb b2
  refine wpAny_pyIter_zip hz ?_
  refine wpAny_newList ?_
  generalize hs2:({ sc' with heap:=h' }:Shared)=s₂ at *
  have hh2:s₂.heap=h':=by rw [← hs2]
  have T₃:To no s₂ { s₂ with heap:=s₂.heap.push { cls:=.type "list", data:=.seq ([]:List Value).toArray } }:=To.push _ _
  have nacc:NewAt s₂ (.inl s₂.heap.objs.size):=newAt_ge (Nat.le_refl _)
  have nacc0:NewAt s (.inl s₂.heap.objs.size):=NewAt.to R.tabs T₁₂ nacc
  have hl:({ s₂ with heap:=s₂.heap.push { cls:=.type "list", data:=.seq ([]:List Value).toArray } }:Shared).heap.get? s₂.heap.objs.size=some { cls:=.type "list", data:=.seq ([]:List Value).toArray }:=Heap.get?_push_size _ rfl
  refine comp_rel G (A:=A) R₂ T₃ nacc ⟨_,hl⟩ sc.k sc.fr sc.nd fun C cells s₄ T₄ nC hXn hkp R₄ hthere hcells=>?_
  have o₄:Out (orN (fun a=>N a∨a=n+3) s₂.heap.objs.size) s₂.heap.objs.size [] s₄:=⟨[],⟨_,hkp _ hl⟩,all_nil⟩
  have T₀₄:=T₁₂.trans T₄
  have hXs:∀ l,Xc scope C s₂.heap.objs.size cells l->NewAt s l:=fun l hl=>NewAt.to R.tabs T₁₂ (hXn l hl)
  have hfz:∀ l,zfp (n+4) (n+3) n (n+1) l->NewAt s l∧¬ NewAt s₂ l:=fun l h=>by
    rcases h with rfl | rfl | rfl | rfl
    · exact ⟨hnew _ (by omega),there_get (s:=s₂) (by rw [hh2];exact hz)⟩
    · exact ⟨hnew _ (by omega),there_get (s:=s₂) (by rw [hh2];exact hTO)⟩
    · obtain ⟨o,ho,_⟩:=hi1
      exact ⟨hnew _ (Nat.le_refl _),there_get (s:=s₂) (by rw [hh2];exact ho)⟩
    · obtain ⟨o,ho,_⟩:=hi2
      exact ⟨hnew _ (by omega),there_get (s:=s₂) (by rw [hh2];exact ho)⟩
  have hTIt:¬ NewAt s₂ (.inl (n+2)):=there_get (s:=s₂) (by rw [hh2];exact hTI)
  have disX:∀ l,Xc scope C s₂.heap.objs.size cells l->¬ zfp (n+4) (n+3) n (n+1) l:=fun l hl hf=>(hfz l hf).2 (hXn l hl)
  have R₅:Rel s₁ (orN (fun a=>N a∨a=n+3) s₂.heap.objs.size) (Xc scope C s₂.heap.objs.size cells) s (compEnv scope env C cells) (capt scope ρ) ([(.lst xs,.ref l1),(.lst ys,.ref l2)]++γ) s₄:={ R₄ with to:=T₀₄.of_no }
  have Z₄:Zst (n+4) (n+2) (n+3) n (n+1) l1 l2 0 s₄.heap:=by
    have kk:∀ {a:Addr} {o:Obj} {c:String},h'.get? a=some o->o.cls=.type c->s₄.heap.get? a=some o:=fun e hcl=>kept_get T₄ id (by rw [hh2];exact e) hcl
    obtain ⟨p1,q1,r1,t1⟩:=hi1
    obtain ⟨p2,q2,r2,t2⟩:=hi2
    exact ⟨kk hz rfl,kk hTI rfl,⟨_,_,kk hTO rfl⟩,⟨p1,kk q1 r1,r1,t1⟩,⟨p2,kk q2 r2,r2,t2⟩⟩
  have hloop:=zip_loop (elt:=elt) (iter:=.Call f [e1,e2] [] cp) (elts:=elts) (tk:=kt) (tp:=tp) (pos:=pos) (scope:=scope) (acc:=s₂.heap.objs.size) (xs:=xs) (ys:=ys) (sI:=s) (A:=A) (γ:=[(.lst xs,.ref l1),(.lst ys,.ref l2)]++γ) (ρ:=capt scope ρ) (env:=compEnv scope env C cells) (X:=Xc scope C s₂.heap.objs.size cells) (N:=orN (fun a=>N a∨a=n+3) s₂.heap.objs.size) G hh D₀ (by simp) (by simp) (fun l h=>(hfz l h).1) (.inl (.inr rfl))
    (fun a ha=>by
      have hnz:∀ b,zfp (n+4) (n+3) n (n+1) (.inl b)->b≠n+3->a≠b:=fun b hb hb3 q=>by
        subst q
        rcases ha with (h | h) | h
        · exact R.nex a h (hfz _ hb).1
        · exact hb3 h
        · exact (hfz _ hb).2 (by rw [h];exact nacc)
      exact ⟨hnz _ (.inl rfl) (by omega),hnz _ (.inr (.inr (.inl rfl))) (by omega),hnz _ (.inr (.inr (.inr rfl))) (by omega)⟩)
    (disX _ (.inl rfl)) (fun x c kk hk hq hcl hf=>by
      rcases hcells x c hcl with h | ⟨h,h'⟩
      · exact (hfz _ hf).2 h
      · obtain ⟨c₁,ov,hc₁,hi,_⟩:=(sc.fr x h).elim (fun q=>R.cel x _ q (.inl rfl)) fun q=>R.cel x _ q (.inr rfl)
        rw [h'] at hc₁;cases hc₁
        exact cell_there hi (hfz _ hf).1) R.inv disX (fun q=>hTIt (hXn _ q)) (.inr (.inl rfl)) g
    (fun d1 d2 sb s v done h1 h2 hlen R b o=>by
      refine ha _ C cells _ d1 d2 h1 h2 sb _ _ s v _ _ trivial R b fun s' T K' R'=>?_
      exact wpAny_bind (emit_ok R' (o.kept K') (.inr (.inl rfl)) (.inr rfl) (he C cells d1 d2 (K.comp sc.k) h1 h2) (by omega) fun s'' o'' R''=>wpAny_pure ⟨rfl,o'',R''.weaken (ownB_weak (hb d1 d2 h1 h2)) fun θ h=>h⟩))
    0 (min xs.length ys.length) [] s₄ (Nat.zero_add _) (by simp;omega) R₅ o₄ Z₄
  have fin:codeAny (Mo w) A (.compLoop (.ListComp elt [⟨.Tuple elts kt tp,.Call f [e1,e2] [] cp,[],0⟩] scope pos) 0 (.ref (n+4)) (.ref s₂.heap.objs.size) (compEnv scope env C cells)) (fun r s'=>r=.ok .next∧∃ m,To no s s'∧s'.heap.Ns C m∧NewAt s (.inl C)∧C∉tabs∧Bears N s'.heap (.lst ((xs.zip ys).map fun p=>g p.1 p.2)) (.ref s₂.heap.objs.size)) s₄:=by
    refine codeAny_mono hloop fun r s' h=>?_
    obtain ⟨e,T',⟨m,hm⟩,us,hl',bs⟩:=h
    exact ⟨e,m,To.forget (To.refl _ _) T' hXs,hm,hXs _ (.inl rfl),R₅.ltab,bears_lst (R.nex.new nacc0) hl' (BearsAll.fewer (fun θ h=>.inl (.inl h)) bs)⟩
  have goal:∀ {R'':Result->Shared->Prop},(∀ m s',To no s s'->s'.heap.Ns C m->NewAt s (.inl C)->C∉tabs->Bears N s'.heap (.lst ((xs.zip ys).map fun p=>g p.1 p.2)) (.ref s₂.heap.objs.size)->R'' (.ok .next) s')->codeAny (Mo w) A (.compStart (.ListComp elt [⟨.Tuple elts kt tp,.Call f [e1,e2] [] cp,[],0⟩] scope pos) 0 (.ref (n+4)) (.ref s₂.heap.objs.size) (compEnv scope env C cells)) R'' s₄:=fun hR=>by
    have hl2:=codeAny_mono fin fun r s' h=>by
      obtain ⟨rfl,m,a1,a2,a3,a4,a5⟩:=h
      exact hR m s' a1 a2 a3 a4 a5
    exact comp_start rfl rfl hl2 (wpAny_pyIter_zip Z₄.zz hl2)
  refine goal fun m s' T hm nC' hC b=>?_
  refine ⟨m,hm,fun h' hs=>⟨?_,b.butSeq hs (NoSeq.ns hm)⟩⟩
  exact To.forget T (To.but (s:=s') (t:=s'.toks) (X:=one C) hs rfl (turns_ns hC hm)) fun l q=>by rw [q];exact nC'
end
noncomputable abbrev Tri:=Int × Int × Int
noncomputable def tri (x:Tri):D:=.tup [.int x.1,.int x.2.1,.int x.2.2]
noncomputable def lt3 (x y:Tri):Bool:=if x.1==y.1 then (if x.2.1==y.2.1 then (if x.2.2==y.2.2 then false else decide (x.2.2<y.2.2)) else decide (x.2.1<y.2.1)) else decide (x.1<y.1)
theorem of_tri {N:Addr->Prop} {h:Heap} {x:Tri} {v:Value} (b:Bears N h (tri x) v):∃ a t1 t2 t3,v=.ref a∧IsTup h a #[.int x.1 t1,.int x.2.1 t2,.int x.2.2 t3]:=by
  obtain ⟨a,vs,rfl,_,ht,ba⟩:=of_tup b
  obtain ⟨_,_,rfl,b1,ba⟩:=all_cons_iff.mp ba
  obtain ⟨_,_,rfl,b2,ba⟩:=all_cons_iff.mp ba
  obtain ⟨_,_,rfl,b3,ba⟩:=all_cons_iff.mp ba
  obtain rfl:=all_nil_iff.mp ba
  obtain ⟨t1,rfl⟩:=of_int b1
  obtain ⟨t2,rfl⟩:=of_int b2
  obtain ⟨t3,rfl⟩:=of_int b3
  exact ⟨a,t1,t2,t3,rfl,ht⟩
section
variable {w:World} {s₁:Shared} {N:Addr->Prop} {A:Around} {E:Value->Shared->Prop} {s:Shared}
theorem lt_body {a b:Addr} {x y:Tri} {t1 t2 t3 u1 u2 u3:Tok} {Q:Fin->Shared->Prop} (ha:IsTup s.heap a #[.int x.1 t1,.int x.2.1 t2,.int x.2.2 t3]) (hb:IsTup s.heap b #[.int y.1 u1,.int y.2.1 u2,.int y.2.2 u3])
    (h:Q (.done (.ret (.bool (lt3 x y)))) s):wpAny (Mo w) A (Builtin.«tuple.__lt__» ⟨[.ref a,.ref b],[]⟩) Q E s:=by
  obtain ⟨oa,ho,hc,na,hd⟩:=ha
  obtain ⟨ob,ho',hc',nb,hd'⟩:=hb
  refine wpAny_bind (wpAny_of_eq (a:=(Value.ref a,[Value.ref b])) rfl ?_)
  have hsub:isSubtype (.type "tuple") (.type "tuple")=pure true:=by rw [isSubtype_type];kernel_rfl
  refine wpAny_bind (wpAny_isInstance (T := "tuple") (b:=true) ⟨_,ho',hc'⟩ hsub ?_)
  simp only [Bool.not_true,Bool.false_eq_true,if_false]
  refine wpAny_bind ?_
  unfold Builtin.Tuple.tupleItemsOf
  refine wpAny_bind (wpAny_seqItems ho hd (wpAny_pure ?_))
  refine wpAny_bind (wpAny_bind (wpAny_seqItems ho' hd' (wpAny_pure ?_)))
  show wpAny _ _ (forIn [(Value.int x.1 t1,Value.int y.1 u1),(Value.int x.2.1 t2,Value.int y.2.1 u2),(Value.int x.2.2 t3,Value.int y.2.2 u3)] _ _ >>= _) _ _ s
  refine wpAny_bind ?_
  unfold lt3 at h
  rw [List.forIn_cons]
  refine wpAny_bind (wpAny_bind (wpAny_eqBool_int ?_))
  cases h1:x.1==y.1 with
  | false=>
    simp only [h1,Bool.false_eq_true,if_false,if_true] at h
    exact wpAny_bind (wpAny_rule (wpAny_bind (wpAny_lt_int (wpAny_bind (wpAny_pure (wpAny_pure (wpAny_pure (wpAny_pure h))))))))
  | true=>
    refine wpAny_pure ?_
    dsimp only
    rw [List.forIn_cons]
    refine wpAny_bind (wpAny_bind (wpAny_eqBool_int ?_))
    cases h2:x.2.1==y.2.1 with
    | false=>
      simp only [h1,h2,Bool.false_eq_true,if_false,if_true] at h
      exact wpAny_bind (wpAny_rule (wpAny_bind (wpAny_lt_int (wpAny_bind (wpAny_pure (wpAny_pure (wpAny_pure (wpAny_pure h))))))))
    | true=>
      refine wpAny_pure ?_
      dsimp only
      rw [List.forIn_cons]
      refine wpAny_bind (wpAny_bind (wpAny_eqBool_int ?_))
      cases h3:x.2.2==y.2.2 with
      | false=>
        simp only [h1,h2,h3,Bool.false_eq_true,if_false,if_true] at h
        exact wpAny_bind (wpAny_rule (wpAny_bind (wpAny_lt_int (wpAny_bind (wpAny_pure (wpAny_pure (wpAny_pure (wpAny_pure h))))))))
      | true=>
        refine wpAny_pure ?_
        dsimp only
        simp only [h1,h2,h3,if_true] at h
        exact wpAny_pure (wpAny_pure h)
theorem tri_typ {N:Addr->Prop} {x:Tri} {v:Value} (b:Bears N s.heap (tri x) v):s.TypeIs v "tuple" := by
  obtain ⟨_,_,_,_,rfl,o,ho,hc,_⟩:=of_tri b
  exact ⟨o,ho,hc⟩
theorem lt_tri {x y:Tri} {u v:Value} {Q:Value->Shared->Prop} (hu:A.units+1<cLine) (bx:Bears N s.heap (tri x) u) (by':Bears N s.heap (tri y) v) (h:Q (.bool (lt3 x y)) s):wpAny (Mo w) A (richCompare .Lt u v) Q E s:=by
  have tx:=tri_typ bx
  refine wpAny_richCompare_same_room tx (tri_typ by') F.slot_tuple_lt (wpAny_call_entry F.slot_tuple_lt tx F.entry_tuple_lt ?_ (F.args_tuple_lt_2 _ _)) (Nat.lt_of_succ_lt hu)
  obtain ⟨a,t1,t2,t3,rfl,ha⟩:=of_tri bx
  obtain ⟨b,u1,u2,u3,rfl,hb⟩:=of_tri by'
  exact lt_body ha hb ⟨_,rfl,by simp,h⟩
noncomputable def mn (b x:Tri):Tri:=if lt3 x b then x else b
theorem min_run {s₀:Shared} {R:Result->Shared->Prop} (hh:A.handled=none) (hu:A.units+2<cLine) {l S it:Addr} {all:List Tri} {vs:List Value} (hl:s₀.heap.IsList l vs.toArray) (bs:BearsAll N s₀.heap (all.map tri) vs)
    (hS:s₀.heap.get? S=none) (hI:s₀.heap.get? it=none) (hne:S≠it) :
    ∀ (ts:List Tri) (i:Nat) (b:Tri) (vb:Value) (c:Nat) (h:Heap) (t:Nat),all.drop i=ts->(∀ a o,s₀.heap.get? a=some o->h.get? a=some o)->h.IsListIter it l i ->
    h.get? S=some { cls:=.type "list", dict:=none,data:=.seq #[vb,vb] c,slots:=#[] }->Bears N s₀.heap (tri b) vb ->
    (∀ v h' t',(∀ a o,s₀.heap.get? a=some o->h'.get? a=some o)->Bears N s₀.heap (tri (ts.foldl mn b)) v->R (.ok (.ret v)) { s₀ with heap:=h',toks:=t' }) ->
    codeAny (Mo w) A (.builtin "min.loop" ⟨[.ref it,.none,.ref S],[]⟩) R { s₀ with heap:=h,toks:=t }
  | [],i,b,vb,c,h,t,hd,hk,hit,hSe,bb,hR=>by
    have hlen:=all_length bs
    rw [List.length_map] at hlen
    obtain ⟨ol,ho1,hl2⟩:=hl
    refine codeAny_builtin F.entry_min_loop ?_
    rw [Around.under_plainId F.plain_min_loop _]
    show wpAny _ A.in1 (seqItems? (.ref S) >>= _) _ _ _
    refine wpAny_bind (wpAny_seqItems hSe rfl ?_)
    show wpAny _ A.in1 (tryCatch (pyNext (.ref it)) _ >>= _) _ _ _
    refine wpAny_bind (wpAny_tryCatch (wpAny_pyNext_list_end hh hit ⟨ol,hk _ _ ho1,hl2⟩ ?_ fun h' hs=>?_))
    · have:all.length≤i:=by rw [← List.drop_eq_nil_iff];exact hd
      simp;omega
    have hS':=hs S _ hne hSe
    show wpAny _ A.in1 (updateSeq S (fun θ=>#[]) >>= _) _ _ _
    refine wpAny_bind ?_
    refine wpAny_updateSeq hS' rfl (wpAny_bind (wpAny_letGo (wpAny_pure ?_)))
    refine hR vb _ _ (fun a o e=>?_) bb
    have n1:a≠S:=fun q=>by rw [q,hS] at e;cases e
    have n2:a≠it:=fun q=>by rw [q,hI] at e;cases e
    exact (Heap.get?_update_other _ _ (Ne.symm n1)).trans (hs a o n2 (hk a o e))
  | x::ts,i,b,vb,c,h,t,hd,hk,hit,hSe,bb,hR=>by
    have hlt:i<all.length:=dropLt hd
    have hx:=List.drop_eq_getElem_cons hlt
    rw [hd] at hx
    obtain ⟨hx1,hx2⟩:=List.cons.inj hx
    obtain ⟨v,hv,bv⟩:=all_get bs (i:=i) (d:=tri x) (by rw [List.getElem?_map,List.getElem?_eq_getElem hlt,← hx1];rfl)
    obtain ⟨ol,ho1,hl2⟩:=id hl
    refine codeAny_builtin F.entry_min_loop ?_
    rw [Around.under_plainId F.plain_min_loop _]
    show wpAny _ A.in1 (seqItems? (.ref S) >>= _) _ _ _
    refine wpAny_bind (wpAny_seqItems hSe rfl ?_)
    show wpAny _ A.in1 (tryCatch (pyNext (.ref it)) _ >>= _) _ _ _
    refine wpAny_bind (wpAny_tryCatch (wpAny_pyNext_list_item hit ⟨ol,hk _ _ ho1,hl2⟩ (x:=v) (by simpa using hv) fun h' hit' hs=>?_))
    have hS':=hs.extBut S _ hne hSe
    have hk':∀ a o,s₀.heap.get? a=some o->h'.get? a=some o:=fun a o e=>hs.extBut a o (fun q=>by rw [q,hI] at e;cases e) (hk a o e)
    have up:∀ {d:D} {v:Value},Bears N s₀.heap d v->Bears N h' d v:=fun z=>z.keeps (fun a o θ e θ=>hk' a o e) fun θ θ n θ=>n
    show wpAny _ A.in1 (tryCatch (holding [v,v] (richCompare .Lt v vb >>= _)) _ >>= _) _ _ _
    refine wpAny_bind (wpAny_tryCatch (wpAny_holding (wpAny_bind (lt_tri (N:=N) (x:=x) (y:=b) hu (up bv) (up bb) ?_))))
    refine wpAny_bind (wpAny_holding (wpAny_truthy_bool ?_))
    refine wpAny_bind (wpAny_letGo (wpAny_pure ?_))
    have hname:(toString "min" ++ toString ".loop" : String) = "min.loop" := by decide
    have hmn:mn b x=if lt3 x b then x else b:=rfl
    rw [List.foldl_cons,hmn] at hR
    cases hb:lt3 x b with
    | true=>
      rw [hb] at hR
      simp only [if_true] at hR ⊢
      refine wpAny_bind ?_
      refine wpAny_updateSeq hS' rfl (wpAny_bind (wpAny_letGo ?_))
      rw [hname]
      refine wpAny_pure ⟨plainId_quiet F.plain_min_loop _,min_run hh hu hl bs hS hI hne ts (i+1) x v _ _ _ hx2.symm (fun a o e=>?_) ?_ (Heap.get?_update_self _ hS' rfl) bv hR⟩
      · exact (Heap.get?_update_other _ _ (fun q=>by rw [← q,hS] at e;cases e)).trans (hk' a o e)
      · obtain ⟨oi,hoi,hi2⟩:=hit'
        exact ⟨oi,(Heap.get?_update_other _ _ hne).trans hoi,hi2⟩
    | false=>
      rw [hb] at hR
      simp only [Bool.false_eq_true,if_false] at hR ⊢
      refine wpAny_bind (wpAny_letGo ?_)
      rw [hname]
      exact wpAny_pure ⟨plainId_quiet F.plain_min_loop _,min_run hh hu hl bs hS hI hne ts (i+1) b vb c _ _ hx2.symm hk' hit' hS' bb hR⟩
end
noncomputable def minT:List Tri->Tri
  | []=>(0,0,0)
  | b::ts=>ts.foldl mn b
theorem op_min_tri {w:World} {s₁:Shared} {A:Around} (hh:A.handled=none) (hu:A.units+64<cLine) {all:List Tri} (hne:all≠[]):∀ N s vs,BearsAll N s.heap [.lst (all.map tri)] vs->Op w s₁ N A s (call (.builtin "min") vs) fun v s'=>Bears N s'.heap (tri (minT all)) v:=fun N s vs b θ θ=>by
  obtain ⟨v,rfl,b'⟩:=one_arg b
  obtain ⟨l,us,rfl,_,hl,bs⟩:=of_lst b'
  cases all with
  | nil=>exact absurd rfl hne
  | cons x ts=>
  obtain ⟨v,hv,bv⟩:=all_get bs (i:=0) (d:=tri x) rfl
  have hname:(toString "min" ++ toString ".loop" : String) = "min.loop" := by decide
  refine call_function_tree F.kind_min F.plain_min F.entry_min (F.args_min1 _) ?_
  show wpAny _ A.in1 (Builtin.Builtins.bindParams "min" ["key", "default"] 0 ⟨[],[]⟩ >>= _) _ _ s
  refine wpAny_bind (wpAny_of_eq (show Builtin.Builtins.bindParams "min" ["key", "default"] 0 ⟨[],[]⟩=pure [none,none] from rfl) ?_)
  refine wpAny_bind (wpAny_pure ?_)
  refine wpAny_bind (wpAny_pyIter_list hl ?_)
  refine wpAny_bind (wpAny_newObj_type ?_)
  have hI:s.heap.get? s.heap.objs.size=none:=newAt_ge (Nat.le_refl _)
  have hsz:(s.heap.push { cls:=.type "list_iterator", data:=.fields #[.ref l,.int 0 0] }).objs.size=s.heap.objs.size+1:=Heap.size_push ..
  have hS:s.heap.get? (s.heap.push { cls:=.type "list_iterator", data:=.fields #[.ref l,.int 0 0] }).objs.size=none:=newAt_ge (by rw [hsz];exact Nat.le_succ _)
  have hne':(s.heap.push { cls:=.type "list_iterator", data:=.fields #[.ref l,.int 0 0] }).objs.size≠s.heap.objs.size:=by rw [hsz];exact Nat.succ_ne_self _
  obtain ⟨ol,ho1,hl2⟩:=id hl
  have hk:∀ a o,s.heap.get? a=some o->((s.heap.push { cls:=.type "list_iterator", data:=.fields #[.ref l,.int 0 0] }).push { cls:=.type "list", data:=.seq #[] }).get? a=some o:=fun a o e=>Heap.get?_push_of_some _ (Heap.get?_push_of_some _ e)
  have hit:((s.heap.push { cls:=.type "list_iterator", data:=.fields #[.ref l,.int 0 0] }).push { cls:=.type "list", data:=.seq #[] }).IsListIter s.heap.objs.size l 0:=⟨_,Heap.get?_push_of_some _ (Heap.get?_push_size _ rfl),rfl,rfl⟩
  rw [hname]
  refine wpAny_pure ⟨plainId_quiet F.plain_min_loop _,?_⟩
  refine codeAny_builtin F.entry_min_loop ?_
  rw [Around.under_plainId F.plain_min_loop _]
  show wpAny _ A.in1 (seqItems? (.ref _) >>= _) _ _ _
  refine wpAny_bind (wpAny_seqItems (Heap.get?_push_size _ rfl) rfl ?_)
  show wpAny _ A.in1 (tryCatch (pyNext (.ref _)) _ >>= _) _ _ _
  refine wpAny_bind (wpAny_tryCatch (wpAny_pyNext_list_item hit ⟨ol,hk _ _ ho1,hl2⟩ (x:=v) (by simpa using hv) fun h' hit' hs=>?_))
  have hS':=hs.extBut _ _ hne' (Heap.get?_push_size _ rfl)
  show wpAny _ A.in1 (updateSeq (s.heap.push _).objs.size (fun θ=>#[v,v]) >>= _) _ _ _
  refine wpAny_bind ?_
  refine wpAny_updateSeq hS' rfl ?_
  rw [hname]
  refine wpAny_pure ⟨plainId_quiet F.plain_min_loop _,min_run (s₀:=s) (t:=s.toks) hh (Nat.lt_of_le_of_lt (Nat.add_le_add_left (by decide) _) hu) hl bs hS hI hne' ts 1 x v _ _ rfl (fun a o e=>?_) ?_ (Heap.get?_update_self _ hS' rfl) bv fun v' h'' t' hk'' b'=>?_⟩
  · exact (Heap.get?_update_other _ _ (fun q=>by rw [← q,hS] at e;cases e)).trans (hs.extBut a o (fun q=>by rw [q,hI] at e;cases e) (hk a o e))
  · obtain ⟨oi,hoi,hi2⟩:=hit'
    exact ⟨oi,(Heap.get?_update_other _ _ hne').trans hoi,hi2⟩
  · exact ⟨To.heap hk'',b'.keeps (fun a o θ e θ=>hk'' a o e) fun θ θ n θ=>n⟩
theorem pick_list {ds:List D} (a k:Nat):((List.range k).map (a+·)).filterMap (ds[·]?)=(ds.drop a).take k:=by
  have h:=PySem.pick_run ds.toArray a k
  simpa using h
theorem slD_plain (ds:List D) (lo hi:Option Int):slD ds lo hi none=(ds.drop (lo.elim 0 (clipAt ds.length))).take (hi.elim ds.length (clipAt ds.length)-lo.elim 0 (clipAt ds.length)):=by
  unfold slD
  rw [sliceBounds_plain]
  simp only [sliceRange_one,pick_list]
theorem slD_from (ds:List D) (i:Nat):slD ds (some (i:Int)) none none=ds.drop i:=by
  rw [slD_plain]
  simp only [Option.elim,clipAt_nat]
  rcases Nat.le_total i ds.length with h | h
  · rw [Nat.min_eq_left h,List.take_of_length_le (by rw [List.length_drop];omega)]
  · rw [Nat.min_eq_right h,List.drop_eq_nil_of_le h,List.drop_eq_nil_of_le (Nat.le_refl _)];simp
theorem slD_upto (ds:List D) (i:Nat):slD ds none (some (i:Int)) none=ds.take i:=by
  rw [slD_plain]
  simp only [Option.elim,clipAt_nat,List.drop_zero,Nat.sub_zero]
  rcases Nat.le_total i ds.length with h | h
  · rw [Nat.min_eq_left h]
  · rw [Nat.min_eq_right h,List.take_of_length_le (Nat.le_refl _),List.take_of_length_le h]
theorem slD_init (ds:List D):slD ds none (some (-1)) none=ds.dropLast:=by
  rw [slD_plain]
  have h:=clipAt_neg ds.length 1 (Nat.le_refl _)
  simp only [Option.elim,List.drop_zero,Nat.sub_zero]
  rw [show clipAt ds.length (-1)=ds.length-1 from h,List.dropLast_eq_take]
theorem fm_congr {f g:Nat->Option D}:∀ l:List Nat,(∀ k,k∈l->f k=g k)->l.filterMap f=l.filterMap g
  | [],_=>rfl
  | a::r,h=>by rw [List.filterMap_cons,List.filterMap_cons,h a List.mem_cons_self,fm_congr r fun k hk=>h k (List.mem_cons_of_mem _ hk)]
theorem slD_rev (ds:List D):slD ds none none (some (-1))=ds.reverse:=by
  unfold slD
  have hb:sliceBounds none none (some (-1)) ds.length=((ds.length:Int)-1,-1,-1):=by first | rfl | simp [sliceBounds]
  have hr:sliceRange ((ds.length:Int)-1) (-1) (-1)=(List.range ds.length).map fun k=>ds.length-1-k:=by
    unfold sliceRange
    have h1:¬ ((-1:Int)>0):=by decide
    by_cases h:(ds.length:Int)-1>-1
    · have e:((ds.length:Int)-1 - -1 - -1-1) / (- -1)=(ds.length:Int):=by
        rw [show (- -1:Int)=1 by decide,Int.ediv_one];omega
      simp only [h1,if_false,h,if_true,e,Int.toNat_natCast]
      exact List.map_congr_left fun k hk=>by have:=List.mem_range.mp hk;omega
    · have e:ds.length=0:=by omega
      rw [e];rfl
  rw [hb];simp only []
  rw [hr,List.filterMap_map]
  have h2:List.filterMap ((fun x=>ds[x]?) ∘ fun k=>ds.length-1-k) (List.range ds.length)=List.filterMap (ds.reverse[·]?) (List.range ds.length):=by
    refine fm_congr _ fun k hk=>?_
    have:=List.mem_range.mp hk
    show ds[ds.length-1-k]?=_
    rw [List.getElem?_reverse this]
  rw [h2]
  have h3:=pick_list (ds:=ds.reverse) 0 ds.length
  rw [List.drop_zero,List.take_of_length_le (by simp)] at h3
  rw [show (List.range ds.length).map (0+·)=List.range ds.length by rw [show ((0+·):Nat->Nat)=id from funext fun k=>Nat.zero_add k,List.map_id]] at h3
  exact h3
section
variable {w:World} {s₁:Shared} {A:Around} {env:Env} {ρ:List (Str × D)} {n:Nat} {tg:Expr->Prop} {scope:Scope} {iter elt:Expr} {N:Addr->Prop} {γ:List (D × Value)}
theorem m_count {o e:Expr} {apos pos:Pos} {ns:List Int} {k:Int} (u:Ev w s₁ A env ρ o (.lst (ns.map D.int))) (y:Ev w s₁ A env ρ e (.int k))
    (hs:starEach [e] env=[(false,eval e env)]) (hbase:attributeBase o "count" env (eval o env)=eval o env) (hk:backToKw pos (keywordEach [] env)=[]) (hline:(apos.endLine==pos.line)=true) :
    Ev w s₁ A env ρ (.Call (.Attribute o "count" apos) [e] [] pos) (.int (ns.count k:Nat)):=by
  have hs':starEach [e] env=(false,eval e env)::starEach [] env:=by rw [hs];rfl
  have hb:backTo pos (starEach [e] env)=[(false,eval e env)]:=by rw [hs];rfl
  have y':Evs w s₁ A env ρ (backTo pos (starEach [e] env)) [.int k]:=by rw [hb];exact evs_cons y evs_nil
  refine ev_meth u y' PySem.F.plainAttrs_list PySem.F.slot_list_count PySem.F.type_list_count (fun N s u b=>is_lst b) hbase ?_ hline ?_ (hev1 hs') op_count
  · rw [hb,hk];rfl
  · rw [hb];rfl
theorem ev_from {value lo:Expr} {p pos:Pos} {ds:List D} {i:Nat} (hz:ds.length≤sizeLine) (v:Ev w s₁ A env ρ value (.lst ds)) (l:Ev w s₁ A env ρ lo (.int i)):Ev w s₁ A env ρ (.Subscript value (.Slice (some lo) none none p) pos) (.lst (ds.drop i)):=
  Ev.conv (ev_slice_lst (lo:=some (i:Int)) (hi:=none) (st:=none) (by decide) hz v (pt_some l) pt_none pt_none (fun θ θ=>⟨_,rfl⟩)) (by rw [slD_from])
theorem ev_upto {value hi:Expr} {p pos:Pos} {ds:List D} {i:Nat} (hz:ds.length≤sizeLine) (v:Ev w s₁ A env ρ value (.lst ds)) (l:Ev w s₁ A env ρ hi (.int i)):Ev w s₁ A env ρ (.Subscript value (.Slice none (some hi) none p) pos) (.lst (ds.take i)):=
  Ev.conv (ev_slice_lst (lo:=none) (hi:=some (i:Int)) (st:=none) (by decide) hz v pt_none (pt_some l) pt_none (fun θ θ=>⟨_,rfl⟩)) (by rw [slD_upto])
noncomputable abbrev P2:=Int × Int
noncomputable def ppD (p:P2):D:=.tup [.int p.1,.int p.2]
noncomputable def unP:D->P2
  | .tup [.int i,.int j]=>(i,j)
  | _=>(0,0)
theorem unP_pp (p:P2):unP (ppD p)=p:=rfl
variable {x y u v:Str} {px py pt pu pv pt2 pos:Pos} {k k2:Nat}
noncomputable def isPP (l:List P2) (d:D):Prop:=∃ p,p∈l∧d=ppD p
theorem isPP_of {l:List P2}:∀ d,d∈l.map ppD->isPP l d:=fun d h=>by
  obtain ⟨p,hp,rfl⟩:=List.mem_map.mp h
  exact ⟨p,hp,rfl⟩
theorem asP (G:GW w s₁) (hh:A.handled=none) (sc:ScOk scope env) (hx:bound scope x=true) (hy:bound scope y=true) {l:List P2}:∀ N' C cells acc d,isPP l d->As w s₁ N' A (compEnv scope env C cells) (Xc scope C acc cells) (fun θ=>True) (assign (.Tuple [.Name x px,.Name y py] k pt) (compEnv scope env C cells)) d (bs2 x y d):=
  fun N' C cells acc d ⟨p,_,e⟩=>by subst e;exact as_two G hh (fun θ θ θ θ=>trivial) (sto_comp sc.k hx) (sto_comp sc.k hy)
theorem turnP (G:GW w s₁) (K:EnvOk env) (hh:A.handled=none) (sc:ScOk scope env) (hx:bound scope x=true) (hy:bound scope y=true) {l:List P2} {g:P2->D} {e:Expr}
    (he:∀ C cells p,EnvOk (compEnv scope env C cells)->p∈l->Ev w s₁ A (compEnv scope env C cells) ((y,.int p.2)::(x,.int p.1)::capt scope ρ) elt (g p)) :
    TurnOk w s₁ A env ρ e scope (.Tuple [.Name x px,.Name y py] k pt) (fun d=>[g (unP d)]) (isPP l) (fun it acc env'=>emitOf elt acc env' >>= fun θ=>againOf e 0 it acc env'):=
  turn_map (bs2 x y) (fun d=>g (unP d)) (fun d ⟨p,_,e⟩=>by subst e;exact ownB_two hx hy) (asP G hh sc hx hy) fun C cells d ⟨p,hp,e⟩=>by subst e;exact he C cells p (K.comp sc.k) hp
theorem turnPf (G:GW w s₁) (K:EnvOk env) (hh:A.handled=none) (sc:ScOk scope env) (hx:bound scope x=true) (hy:bound scope y=true) {l:List P2} {q:P2->Bool} {g:P2->D} {c e:Expr}
    (hc:∀ C cells p,EnvOk (compEnv scope env C cells)->p∈l->Ts w s₁ A (compEnv scope env C cells) ((y,.int p.2)::(x,.int p.1)::capt scope ρ) c (q p))
    (he:∀ C cells p,EnvOk (compEnv scope env C cells)->p∈l->q p=true->Ev w s₁ A (compEnv scope env C cells) ((y,.int p.2)::(x,.int p.1)::capt scope ρ) elt (g p)) :
    TurnOk w s₁ A env ρ e scope (.Tuple [.Name x px,.Name y py] k pt) (fun d=>if q (unP d) then [g (unP d)] else []) (isPP l) (fun it acc env'=>testOf c env' >>= fun ok=>if ok=true then (emitOf elt acc env' >>= fun θ=>againOf e 0 it acc env') else againOf e 0 it acc env'):=
  turn_filter (bs2 x y) (fun d=>g (unP d)) (fun d=>q (unP d)) (fun d ⟨p,_,e⟩=>by subst e;exact ownB_two hx hy) (asP G hh sc hx hy) (fun C cells d ⟨p,hp,e⟩=>by subst e;exact hc C cells p (K.comp sc.k) hp) fun C cells d ⟨p,hp,e⟩ hq=>by subst e;exact he C cells p (K.comp sc.k) hp hq
theorem bound_free {scope:Scope} {x z:Str} (hx:bound scope x=true) {ρ:List (Str × D)} {e:D} (h:(capt scope ρ).lookup z=some e):z≠x:=fun q=>by
  subst q
  have:=(capt_look h).2
  unfold bound at hx
  rw [this] at hx
  exact absurd hx (by decide)
theorem turn22 (G:GW w s₁) (K:EnvOk env) (hA:Rm n A) (hh:A.handled=none) (sc:ScOk scope env) {i2:Expr} (hx:bound scope x=true) (hy:bound scope y=true) (hu:bound scope u=true) (hv:bound scope v=true) (hxu:[x,y].all (fun z=>z != u&&z != v)=true) {l l2:List P2} {g:P2->P2->D}
    (y2:∀ C cells p,EnvOk (compEnv scope env C cells)->p∈l->EvIt w s₁ A (compEnv scope env C cells) ((y,.int p.2)::(x,.int p.1)::capt scope ρ) n (fun θ=>True) i2 (l2.map ppD)) (hf:∀ env' x,foldedSetIterable i2 env' x=pure x)
    (he:∀ C cells p q,EnvOk (compEnv scope env C cells)->p∈l->q∈l2->Ev w s₁ A (compEnv scope env C cells) ((v,.int q.2)::(u,.int q.1)::(y,.int p.2)::(x,.int p.1)::capt scope ρ) elt (g p q)) :
    TurnOk w s₁ A env ρ (two elt (.Tuple [.Name x px,.Name y py] k pt) iter (.Tuple [.Name u pu,.Name v pv] k2 pt2) i2 scope pos) scope (.Tuple [.Name x px,.Name y py] k pt) (fun d=>(l2.map ppD).map fun d2=>g (unP d) (unP d2)) (isPP l) (tail2 elt (.Tuple [.Name x px,.Name y py] k pt) iter (.Tuple [.Name u pu,.Name v pv] k2 pt2) i2 scope pos):=by
  refine turn_two G hA hh sc (bs2 x y) (fun θ=>l2.map ppD) (fun θ=>bs2 u v) (fun d d2=>g (unP d) (unP d2)) (fun d ⟨p,_,e⟩=>by subst e;exact ownB_two hx hy) (asP G hh sc hx hy) (tg:=fun θ=>True) (fun C cells d ⟨p,hp,e⟩=>by subst e;exact y2 C cells p (K.comp sc.k) hp) trivial hf ?_ (fun N' C cells acc d d2 θ h2=>asP G hh sc hu hv N' C cells acc d2 (isPP_of d2 h2)) fun C cells d d2 ⟨p,hp,e⟩ h2=>by
    obtain ⟨q,hq,rfl⟩:=List.mem_map.mp h2
    subst e
    exact he C cells p q (K.comp sc.k) hp hq
  intro d d2 z e ⟨p,_,ed⟩ h2 hz
  subst ed
  obtain ⟨q,_,rfl⟩:=List.mem_map.mp h2
  have hne:z≠u∧z≠v:=by
    simp only [List.all_cons,List.all_nil,Bool.and_true,Bool.and_eq_true,bne_iff_ne] at hxu
    have hz':((y,D.int p.2)::(x,D.int p.1)::capt scope ρ).lookup z=some e:=hz
    by_cases h1:z=y
    · rw [h1];exact hxu.2
    · rw [lookup_ne h1] at hz'
      by_cases h2:z=x
      · rw [h2];exact hxu.1
      · rw [lookup_ne h2] at hz'
        exact ⟨bound_free hu hz',bound_free hv hz'⟩
  show ((v,D.int q.2)::(u,D.int q.1)::_).lookup z=some e
  rw [lookup_ne hne.2,lookup_ne hne.1]
  exact hz
theorem map_un {α:Type} (g:P2->α) (l:List P2):(l.map ppD).map (fun d=>g (unP d))=l.map g:=by rw [List.map_map];rfl
theorem flat_un (f:P2->List D) (l:List P2):(l.map ppD).flatMap (fun d=>f (unP d))=l.flatMap f:=by
  induction l with
  | nil=>rfl
  | cons a r ih=>rw [List.map_cons,List.flatMap_cons,List.flatMap_cons,ih,unP_pp]
theorem flat_un2 (g:P2->P2->D) (l l2:List P2):((l.map ppD).flatMap fun d=>(l2.map ppD).map fun d2=>g (unP d) (unP d2))=l.flatMap fun p=>l2.map (g p):=by
  rw [flat_un (fun p=>(l2.map ppD).map fun d2=>g p (unP d2))]
  simp only [map_un]
theorem len22 {α:Type} (g:P2->P2->α) (l l2:List P2):(l.flatMap fun p=>l2.map (g p)).length=l.length*l2.length:=by
  induction l with
  | nil=>simp
  | cons a r ih=>rw [List.flatMap_cons,List.length_append,ih,List.length_map,List.length_cons,Nat.succ_mul,Nat.add_comm]
theorem ev_lcP (G:GW w s₁) (K:EnvOk env) (hA:Rm n A) (hh:A.handled=none) {l:List P2} {g:P2->D} (yl:Ev w s₁ A env ρ iter (.lst (l.map ppD))) (sc:ScOk scope env) (hf:∀ v,foldedSetIterable iter env v=pure v) (hx:bound scope x=true) (hy:bound scope y=true)
    (he:∀ C cells p,EnvOk (compEnv scope env C cells)->p∈l->Ev w s₁ A (compEnv scope env C cells) ((y,.int p.2)::(x,.int p.1)::capt scope ρ) elt (g p)) (hK:l.length≤sizeLine) :
    Ev w s₁ A env ρ (.ListComp elt [⟨.Tuple [.Name x px,.Name y py] k pt,iter,[],0⟩] scope pos) (.lst (l.map g)):=
  Ev.conv (ev_comp_of (n:=n) (tg:=fun θ=>True) G hA hh (evit_list G yl) trivial sc hf _ _ _ (fun θ θ θ=>shape1) (turnP G K hh sc hx hy he) isPP_of (by rw [flat_un (fun p=>[g p]),flat_map,List.length_map];exact hK)) (by rw [flat_un (fun p=>[g p]),flat_map])
variable {z:Str} {p spos:Pos} {sb s:Shared} {Q:Flow->Shared->Prop} {E:Value->Shared->Prop} {ss:List Stmt}
theorem xs_lcP (G:GW w s₁) (K:EnvOk env) (hA:Rm n A) (hh:A.handled=none) (R:Rel s₁ N (Own env) sb env ρ γ s) {l:List P2} {g:P2->D} (yl:Ev w s₁ A env ρ iter (.lst (l.map ppD))) (sc:ScOk scope env) (hf:∀ v,foldedSetIterable iter env v=pure v) (hx:bound scope x=true) (hy:bound scope y=true)
    (he:∀ C cells p,EnvOk (compEnv scope env C cells)->p∈l->Ev w s₁ A (compEnv scope env C cells) ((y,.int p.2)::(x,.int p.1)::capt scope ρ) elt (g p)) (hK:l.length≤sizeLine) (S:Sto (Own env) env z)
    (hsw:swapsWith (.ListComp elt [⟨.Tuple [.Name x px,.Name y py] k pt,iter,[],0⟩] scope pos) (some (.Name z p)) spos.line env=pure true)
    (h:∀ s',To (Own env) s s'->Kp s s'->Rel s₁ N (Own env) sb env ((z,.lst (l.map g))::ρ) γ s'->Xs w A env ss Q E s'):Xs w A env (.Assign [.Name z p] (.ListComp elt [⟨.Tuple [.Name x px,.Name y py] k pt,iter,[],0⟩] scope pos) spos::ss) Q E s:=
  xs_comp_of (n:=n) (tg:=fun θ=>True) G hA hh (evit_list G yl) trivial sc hf _ _ _ (fun θ θ θ=>shape1) (turnP G K hh sc hx hy he) isPP_of (by rw [flat_un (fun p=>[g p]),flat_map,List.length_map];exact hK) S hsw R (own_there R) (by rw [flat_un (fun p=>[g p]),flat_map];exact h)
theorem xs_lcPf (G:GW w s₁) (K:EnvOk env) (hA:Rm n A) (hh:A.handled=none) (R:Rel s₁ N (Own env) sb env ρ γ s) {l:List P2} {q:P2->Bool} {g:P2->D} {c:Expr} (yl:Ev w s₁ A env ρ iter (.lst (l.map ppD))) (sc:ScOk scope env) (hf:∀ v,foldedSetIterable iter env v=pure v) (hx:bound scope x=true) (hy:bound scope y=true)
    (hc:∀ C cells p,EnvOk (compEnv scope env C cells)->p∈l->Ts w s₁ A (compEnv scope env C cells) ((y,.int p.2)::(x,.int p.1)::capt scope ρ) c (q p))
    (he:∀ C cells p,EnvOk (compEnv scope env C cells)->p∈l->q p=true->Ev w s₁ A (compEnv scope env C cells) ((y,.int p.2)::(x,.int p.1)::capt scope ρ) elt (g p)) (hK:l.length≤sizeLine) (S:Sto (Own env) env z)
    (hsw:swapsWith (.ListComp elt [⟨.Tuple [.Name x px,.Name y py] k pt,iter,[c],0⟩] scope pos) (some (.Name z p)) spos.line env=pure true)
    (h:∀ s',To (Own env) s s'->Kp s s'->Rel s₁ N (Own env) sb env ((z,.lst ((l.filter q).map g))::ρ) γ s'->Xs w A env ss Q E s'):Xs w A env (.Assign [.Name z p] (.ListComp elt [⟨.Tuple [.Name x px,.Name y py] k pt,iter,[c],0⟩] scope pos) spos::ss) Q E s:=
  xs_comp_of (n:=n) (tg:=fun θ=>True) G hA hh (evit_list G yl) trivial sc hf _ _ _ (fun θ θ θ=>shape1c) (turnPf G K hh sc hx hy hc he) isPP_of (by rw [flat_un (fun p=>if q p then [g p] else []),flat_filter,List.length_map];exact Nat.le_trans (List.length_filter_le _ _) hK) S hsw R (own_there R) (by rw [flat_un (fun p=>if q p then [g p] else []),flat_filter];exact h)
theorem xs_lc22 (G:GW w s₁) (K:EnvOk env) (hA:Rm n A) (hh:A.handled=none) (R:Rel s₁ N (Own env) sb env ρ γ s) {i2:Expr} {l l2:List P2} {g:P2->P2->D} (yl:Ev w s₁ A env ρ iter (.lst (l.map ppD))) (sc:ScOk scope env) (hf:∀ v,foldedSetIterable iter env v=pure v) (hx:bound scope x=true) (hy:bound scope y=true) (hu:bound scope u=true) (hv:bound scope v=true) (hxu:[x,y].all (fun z=>z != u&&z != v)=true)
    (y2:∀ C cells p,EnvOk (compEnv scope env C cells)->p∈l->Ev w s₁ A (compEnv scope env C cells) ((y,.int p.2)::(x,.int p.1)::capt scope ρ) i2 (.lst (l2.map ppD))) (hf2:∀ env' x,foldedSetIterable i2 env' x=pure x)
    (he:∀ C cells p q,EnvOk (compEnv scope env C cells)->p∈l->q∈l2->Ev w s₁ A (compEnv scope env C cells) ((v,.int q.2)::(u,.int q.1)::(y,.int p.2)::(x,.int p.1)::capt scope ρ) elt (g p q)) (hK:l.length*l2.length≤sizeLine) (S:Sto (Own env) env z)
    (hsw:swapsWith (two elt (.Tuple [.Name x px,.Name y py] k pt) iter (.Tuple [.Name u pu,.Name v pv] k2 pt2) i2 scope pos) (some (.Name z p)) spos.line env=pure true)
    (h:∀ s',To (Own env) s s'->Kp s s'->Rel s₁ N (Own env) sb env ((z,.lst (l.flatMap fun p=>l2.map (g p)))::ρ) γ s'->Xs w A env ss Q E s'):Xs w A env (.Assign [.Name z p] (two elt (.Tuple [.Name x px,.Name y py] k pt) iter (.Tuple [.Name u pu,.Name v pv] k2 pt2) i2 scope pos) spos::ss) Q E s:=
  xs_comp_of (n:=n) (tg:=fun θ=>True) G hA hh (evit_list G yl) trivial sc hf _ _ _ (fun θ θ θ=>shape2) (turn22 G K hA hh sc hx hy hu hv hxu (fun C cells p K' hp=>evit_list G (y2 C cells p K' hp)) hf2 he) isPP_of (by rw [flat_un2,len22];exact hK) S hsw R (own_there R) (by rw [flat_un2];exact h)
end
theorem Xs.cut {w:World} {A:Around} {env:Env} {ss:List Stmt} {Q₀:Flow->Shared->Prop} {E₀:Value->Shared->Prop} {s:Shared} (h:∀ (Q:Flow->Shared->Prop) (E:Value->Shared->Prop),(∀ fl s',Q₀ fl s'->Q fl s')->Xs w A env ss Q E s):Xs w A env ss Q₀ E₀ s:=h Q₀ E₀ fun θ θ x=>x
noncomputable def Looks (ρ:List (Str × D)):List (Str × D)->Prop
  | []=>True
  | p::r=>ρ.lookup p.1=some p.2∧Looks ρ r
theorem Looks.mem {ρ:List (Str × D)}:∀ {l:List (Str × D)},Looks ρ l->∀ p,p∈l->ρ.lookup p.1=some p.2
  | _::_,h,_,.head _=>h.1
  | _::_,h,_,.tail _ m=>h.2.mem _ m
theorem Rel.only {s₁ sb s:Shared} {N:Addr->Prop} {X:Loc->Prop} {env:Env} {ρ:List (Str × D)} {γ:List (D × Value)} (R:Rel s₁ N X sb env ρ γ s) (l:List (Str × D)) (h:Looks ρ l):Rel s₁ N X sb env l γ s:=
  R.weaken (fun x d hd=>h.mem _ (mem_of_lookup hd)) fun θ h=>h
noncomputable def behindL (front:List Int) (letter over up:Int):List P2:=((List.range front.length).filter fun i=>front.getD i 0==letter).map fun i=>(((front.drop i).count 0:Nat)+over,((front.drop i).count 1:Nat)+up)
noncomputable def aheadL (back:List Int) (letter over up:Int):List P2:=((List.range back.length).filter fun i=>back.getD i 0==letter).map fun i=>(1+((back.take i).count 0:Nat)-over,1+((back.take i).count 1:Nat)-up)
noncomputable def cross (p q:P2):Int:=p.1*q.2-p.2*q.1
noncomputable def crossesL (b a:List P2):List Int:=b.flatMap fun p=>a.map fun q=>cross p q
noncomputable def sumsL (b a:List P2):List P2:=b.flatMap fun p=>a.map fun q=>(p.1+q.1,p.2+q.2)
noncomputable def within (b a:List P2) (sign:Int) (r:P2):List Int:=b.map (fun p=>sign*cross p r)++a.map fun q=>sign*cross r q
noncomputable def raysL (b a:List P2) (sign:Int):List P2:=(sumsL b a).filter fun r=>decide (minL (within b a sign r)>0)
noncomputable def onesL (r:P2):List Int:=((List.range r.1.toNat).map fun (i:Nat)=>1+(i:Int)).filter fun o=>r.1.fmod o==0&&r.2.fmod o==0
noncomputable def redT (r:P2) (z:Int):Tri:=((r.1+r.2).fdiv z,r.1.fdiv z,r.2.fdiv z)
noncomputable def rayEnd (b a:List P2) (letter sign:Int):Tri:=
  let t:=minT ((raysL b a sign).map fun r=>redT r (maxL (onesL r)))
  (letter,t.2.2*sign,-t.2.1*sign)
noncomputable def signOf (b a:List P2):Int:=if minL (crossesL b a)>0 then 1 else -1
noncomputable def parts (b a:List P2):Bool:=decide (minL (crossesL b a)>0)||decide (maxL (crossesL b a)<0)
noncomputable def rayStep (front back:List Int) (letter far:Int):Option Tri:=
  let b:=behindL front letter (far*letter) (far*(1-letter))
  let a:=aheadL back letter (far*letter) (far*(1-letter))
  if b.isEmpty||a.isEmpty then some (if a.isEmpty then (letter,1,1) else (letter,-1,-1))
  else if parts b a then some (rayEnd b a letter (signOf b a)) else none
noncomputable def stepOk (front back:List Int) (letter far:Int):Bool:=
  let b:=behindL front letter (far*letter) (far*(1-letter))
  let a:=aheadL back letter (far*letter) (far*(1-letter))
  b.isEmpty||a.isEmpty||!parts b a||!(raysL b a (signOf b a)).isEmpty
noncomputable def goOk (front back:List Int):List P2->Bool
  | []=>true
  | p::r=>stepOk front back p.1 p.2&&((rayStep front back p.1 p.2).isSome||goOk front back r)
noncomputable def four:List P2:=[(0,0),(0,1),(1,0),(1,1)]
noncomputable def rayFn (front back:List Int):Option Tri:=four.findSome? fun p=>rayStep front back p.1 p.2
noncomputable def rayD:Option Tri->D
  | none=>.none
  | some t=>tri t
noncomputable def smallP (p:P2):Prop:=p.1.natAbs≤100∧p.2.natAbs≤100
theorem behind_small {front:List Int} {letter over up:Int} (hl:front.length≤16) (h1:0≤over∧over≤1) (h2:0≤up∧up≤1):∀ p,p∈behindL front letter over up->smallP p∧over≤p.1:=fun p hp=>by
  unfold behindL at hp
  obtain ⟨i,_,rfl⟩:=List.mem_map.mp hp
  have c0:=Nat.le_trans (List.count_le_length (a:=(0:Int)) (l:=front.drop i)) (by rw [List.length_drop];exact Nat.sub_le _ _)
  have c1:=Nat.le_trans (List.count_le_length (a:=(1:Int)) (l:=front.drop i)) (by rw [List.length_drop];exact Nat.sub_le _ _)
  exact ⟨⟨sm0 (Nat.le_trans c0 hl) h1,sm0 (Nat.le_trans c1 hl) h2⟩,Int.le_add_of_nonneg_left (Int.natCast_nonneg _)⟩
theorem ahead_small {back:List Int} {letter over up:Int} (hl:back.length≤16) (h1:0≤over∧over≤1) (h2:0≤up∧up≤1):∀ p,p∈aheadL back letter over up->smallP p∧1-over≤p.1:=fun p hp=>by
  unfold aheadL at hp
  obtain ⟨i,_,rfl⟩:=List.mem_map.mp hp
  have c0:=Nat.le_trans (List.count_le_length (a:=(0:Int)) (l:=back.take i)) (by rw [List.length_take];exact Nat.min_le_right _ _)
  have c1:=Nat.le_trans (List.count_le_length (a:=(1:Int)) (l:=back.take i)) (by rw [List.length_take];exact Nat.min_le_right _ _)
  exact ⟨⟨sm1 (Nat.le_trans c0 hl) h1,sm1 (Nat.le_trans c1 hl) h2⟩,Int.sub_le_sub_right (Int.le_add_of_nonneg_right (Int.natCast_nonneg _)) _⟩
theorem behind_len (front:List Int) (letter over up:Int):(behindL front letter over up).length≤front.length:=by
  unfold behindL;rw [List.length_map];exact Nat.le_trans (List.length_filter_le _ _) (by simp)
theorem ahead_len (back:List Int) (letter over up:Int):(aheadL back letter over up).length≤back.length:=by
  unfold aheadL;rw [List.length_map];exact Nat.le_trans (List.length_filter_le _ _) (by simp)
theorem sums_mem {b a:List P2} {r:P2} (h:r∈sumsL b a):∃ p q,p∈b∧q∈a∧r=(p.1+q.1,p.2+q.2):=by
  unfold sumsL at h
  obtain ⟨p,hp,h⟩:=List.mem_flatMap.mp h
  obtain ⟨q,hq,rfl⟩:=List.mem_map.mp h
  exact ⟨p,q,hp,hq,rfl⟩
theorem mulS {a b:Int} (ha:a.natAbs≤1000000):IntMulOk a b:=.of_left (Nat.le_trans (bits_le (k:=20) (by omega)) (by decide))
theorem mulR {a b:Int} (hb:b.natAbs≤1000000):IntMulOk a b:=.of_right (Nat.le_trans (bits_le (k:=20) (by omega)) (by decide))
theorem maxL_mem {l:List Int} (h:l≠[]):maxL l∈l:=by
  unfold maxL
  cases e:l.max? with
  | none=>rw [List.max?_eq_none_iff] at e;exact absurd e h
  | some a=>exact List.max?_mem e
theorem ones_mem {r:P2} {o:Int} (h:o∈onesL r):1≤o∧o≤r.1:=by
  unfold onesL at h
  obtain ⟨i,hi,rfl⟩:=List.mem_map.mp (List.mem_filter.mp h).1
  have:=List.mem_range.mp hi
  omega
theorem ones_ne {r:P2} (h:1≤r.1):onesL r≠[]:=by
  refine List.ne_nil_of_mem (a:=1) ?_
  unfold onesL
  refine List.mem_filter.mpr ⟨List.mem_map.mpr ⟨0,List.mem_range.mpr (by omega),rfl⟩,?_⟩
  simp [Int.fmod_one]
theorem flat_ne {α β γ:Type} {l:List α} {l2:List β} {g:α->β->γ} (h1:l≠[]) (h2:l2≠[]):(l.flatMap fun p=>l2.map (g p))≠[]:=by
  cases l with
  | nil=>exact absurd rfl h1
  | cons a r=>cases l2 with
    | nil=>exact absurd rfl h2
    | cons b t=>simp
theorem flat_ints {l l2:List P2} {g:P2->P2->Int}:(l.flatMap fun p=>l2.map fun q=>D.int (g p q))=(l.flatMap fun p=>l2.map fun q=>g p q).map D.int:=by
  rw [List.map_flatMap];simp only [List.map_map];rfl
theorem flat_pps {l l2:List P2} {g:P2->P2->P2}:(l.flatMap fun p=>l2.map fun q=>ppD (g p q))=(l.flatMap fun p=>l2.map fun q=>g p q).map ppD:=by
  rw [List.map_flatMap];simp only [List.map_map];rfl
theorem okD_pps {l:List P2}:okD (.lst (l.map ppD))=true:=okD_of (k:=2) (by rw [dOk];exact dOks_map fun θ θ=>by unfold ppD;simp [dOk,dOks]) (by decide)
theorem upto_pick {l:List Int} {letter:Int} {g:Int->D}:(((upto 0 (l.length:Int).toNat).filter (onB fun i=>l.getD i.toNat 0==letter)).map (onI g))=((List.range l.length).filter fun i=>l.getD i 0==letter).map fun (i:Nat)=>g i:=by
  rw [upto_filter,List.map_map,Int.toNat_natCast];rfl
theorem get_ints {l:List Int} {i:Nat} (h:i<l.length):(l.map D.int)[((i:Int)).toNat]?=some (.int (l.getD i 0)):=by
  rw [Int.toNat_natCast,List.getElem?_map,List.getElem?_eq_getElem h,List.getD_eq_getElem?_getD,List.getElem?_eq_getElem h];rfl
theorem upto1 {k:Nat} {f:Int->Bool}:((upto 1 k).filter (onB f)).map (fun d=>d)=(((List.range k).map fun (i:Nat)=>1+(i:Int)).filter f).map D.int:=by
  have e:upto 1 k=((List.range k).map fun (i:Nat)=>1+(i:Int)).map D.int:=by unfold upto;rw [List.map_map];rfl
  rw [e,filter_ints,List.map_id']
theorem upto1_in {k:Nat}:∀ d,d∈upto 1 k->∃ o:Int,(1≤o∧o≤k)∧d=.int o:=fun d h=>by
  unfold upto at h
  obtain ⟨i,hi,rfl⟩:=List.mem_map.mp h
  have:=List.mem_range.mp hi
  exact ⟨_,by omega,rfl⟩
theorem sign_of (b a:List P2):signOf b a=1∨signOf b a=-1:=by unfold signOf;split<;>simp
theorem within_ne {b a:List P2} {z:Int} {r:P2} (h:b≠[]):within b a z r≠[]:=by unfold within;cases b with | nil=>exact absurd rfl h | cons x t=>simp
theorem within_D {b a:List P2} {z:Int} {r:P2}:b.map (fun p=>D.int (z*cross p r))++a.map (fun q=>D.int (z*cross r q))=(within b a z r).map D.int:=by unfold within;rw [List.map_append,List.map_map,List.map_map];rfl
theorem zip_same {α:Type} {f g:α->D} {h:D->D->D}:∀ l:List α,((l.map f).zip (l.map g)).map (fun p=>h p.1 p.2)=l.map fun r=>h (f r) (g r)
  | []=>rfl
  | a::l=>by rw [List.map_cons,List.map_cons,List.zip_cons_cons,List.map_cons,zip_same l];rfl
noncomputable def unI:D->Int
  | .int i=>i
  | _=>0
theorem rays_ok {b a:List P2} {o z:Int} (sB:∀ p,p∈b->smallP p∧o≤p.1) (sA:∀ p,p∈a->smallP p∧1-o≤p.1) {r:P2} (h:r∈raysL b a z):1≤r.1∧r.1≤200:=by
  obtain ⟨p,q,hp,hq,rfl⟩:=sums_mem (List.mem_filter.mp h).1
  have h1:=sB p hp
  have h2:=sA q hq
  exact ⟨by have:=Int.add_le_add h1.2 h2.2;rwa [Int.add_comm o,Int.sub_add_cancel] at this,Int.add_le_add (nabI h1.1.1) (nabI h2.1.1)⟩
theorem size_ok {b a:List P2} {o z:Int} (sB:∀ p,p∈b->smallP p∧o≤p.1) (sA:∀ p,p∈a->smallP p∧1-o≤p.1) {d:D} (h:d∈(raysL b a z).map fun r=>D.int (maxL (onesL r))):∃ k:Int,d=.int k∧1≤k∧k≤200:=by
  obtain ⟨r,hr,rfl⟩:=List.mem_map.mp h
  have:=rays_ok sB sA hr
  have:=ones_mem (maxL_mem (ones_ne this.1))
  exact ⟨_,rfl,by omega⟩
theorem sums_len {b a:List P2} (hb:b.length≤16) (ha:a.length≤16):(sumsL b a).length≤256:=by
  unfold sumsL
  rw [len22 (fun p q:P2=>(p.1+q.1,p.2+q.2)) b a]
  exact Nat.mul_le_mul hb ha
inductive RyI (front back:List Int) (ds:List D) (ρ:List (Str × D)):Prop
  | mk (ps:List P2) (e:ds=ps.map ppD) (hl:Looks ρ [("front", .lst (front.map D.int)),("back", .lst (back.map D.int))]) (hm:∀ p,p∈ps->p∈four) (hr:(ps.findSome? fun p=>rayStep front back p.1 p.2)=rayFn front back) (hgo:goOk front back ps=true)
theorem f_ray {w:World} {s₁:Shared} (G:GW w s₁) {n:Nat} {front back:List Int} (hf:front.length≤16) (hb:back.length≤16) (hok:goOk front back four=true):Fn w s₁ h0 (n+20) 109 [.lst (front.map D.int),.lst (back.map D.int)] (rayD (rayFn front back)):=by
  refine fn_enter (fun A s s' env h T=>h) ["front", "back"] G rfl rfl (by kernel_rfl) (fun s vs h=>by obtain ⟨a,b,rfl⟩:=len2 h;exact BindsTo.of_eq rfl) (by decide) (by decide) (by decide) rfl rfl rfl fun N A s L hA hh ⟨s₀,h₀,hown⟩ K R=>?_
  have huA:A.units+64<cLine:=by have:=hA.u;show A.units+64<9900;omega
  have R:=R.only [("front", .lst (front.map D.int)),("back", .lst (back.map D.int))] ⟨rfl,rfl,trivial⟩
  refine Xs.cut fun Q E hQ=>?_
  refine xs_forP (n:=n+19) G hA hh trivial (tg:=fun θ=>True) R (evit_tup (ds:=four.map ppD) G (by exact ev_tuple (evs_cons (ev_tuple (evs_cons ev_int (evs_cons ev_int evs_nil)) (Nat.le_of_ble_eq_true rfl)) (evs_cons (ev_tuple (evs_cons ev_int (evs_cons ev_int evs_nil)) (Nat.le_of_ble_eq_true rfl)) (evs_cons (ev_tuple (evs_cons ev_int (evs_cons ev_int evs_nil)) (Nat.le_of_ble_eq_true rfl)) (evs_cons (ev_tuple (evs_cons ev_int (evs_cons ev_int evs_nil)) (Nat.le_of_ble_eq_true rfl)) evs_nil)))) (Nat.le_of_ble_eq_true rfl))) (fun θ=>rfl)
    (RyI front back) ⟨four,rfl,⟨rfl,rfl,trivial⟩,fun θ h=>h,rfl,hok⟩ (fun γ' d ds ρ s' v hI TT R θ b=>?_) (fun ρ s' hI R=>?_)
  · obtain ⟨ps,e,hl,hm,hr,hgo⟩:=hI
    cases ps with
    | nil=>cases e
    | cons p ps=>
    obtain ⟨rfl,rfl⟩:=List.cons.inj e
    obtain ⟨letter,far⟩:=p
    have hlf:(letter=0∨letter=1)∧(far=0∨far=1):=by
      have:∀ p,p∈four->(p.1=0∨p.1=1)∧(p.2=0∨p.2=1):=by decide
      exact this _ (hm _ List.mem_cons_self)
    unfold goOk at hgo
    rw [Bool.and_eq_true,Bool.or_eq_true] at hgo
    obtain ⟨hst,hgo⟩:=hgo
    rw [List.findSome?_cons] at hr
    have R:=R.only _ hl
    refine as_tuple (X:=Own _) (H:=fun θ=>True) G (fun θ θ=>.inl hh) (fun θ θ θ θ=>trivial) (.cons (as_name (.cell rfl rfl (own_cell rfl))) (.cons (as_name (.local rfl rfl)) .nil)) rfl _ _ _ _ _ _ _ trivial R b fun s T₁ K₁ R=>?_
    refine Xs.cut fun Q' E' hQ'=>?_
    have ho:(0≤far*letter∧far*letter≤1)∧0≤far*(1-letter)∧far*(1-letter)≤1:=by
      rcases hlf with ⟨rfl | rfl,rfl | rfl⟩<;>decide
    refine xs_tuple G (.inl hh) (fun θ θ θ θ=>.inl hh) R (ev_tuple (evs_cons (ev_mul (ev_var K rfl rfl rfl) (ev_var K rfl rfl rfl) (mulS (by omega +splitNatSub))) (evs_cons (ev_mul (ev_var K rfl rfl rfl) (ev_sub ev_int (ev_var K rfl rfl rfl)) (mulS (by omega))) evs_nil)) (Nat.le_of_ble_eq_true rfl)) (.cons (as_name (.cell rfl rfl (own_cell rfl))) (.cons (as_name (.cell rfl rfl (own_cell rfl))) .nil)) rfl rfl rfl fun s T K' R=>?_
    have hS:∀ t,rayStep front back letter far=some t->some t=rayFn front back:=fun t h=>by rw [← hr];simp [h]
    have hN:rayStep front back letter far=none->(ps.findSome? fun p=>rayStep front back p.1 p.2)=rayFn front back∧goOk front back ps=true:=fun h=>⟨by rw [← hr];simp [h],hgo.resolve_left (by rw [h];decide)⟩
    clear hr hgo
    have eS:rayStep front back letter far=(if (behindL front letter (far*letter) (far*(1-letter))).isEmpty||(aheadL back letter (far*letter) (far*(1-letter))).isEmpty then some (if (aheadL back letter (far*letter) (far*(1-letter))).isEmpty then (letter,1,1) else (letter,-1,-1)) else if parts (behindL front letter (far*letter) (far*(1-letter))) (aheadL back letter (far*letter) (far*(1-letter))) then some (rayEnd (behindL front letter (far*letter) (far*(1-letter))) (aheadL back letter (far*letter) (far*(1-letter))) letter (signOf (behindL front letter (far*letter) (far*(1-letter))) (aheadL back letter (far*letter) (far*(1-letter))))) else none):=rfl
    generalize rayStep front back letter far=vv at hS hN eS
    unfold stepOk at hst
    dsimp only at hst
    have sB:=behind_small (letter:=letter) hf ho.1 ho.2
    have sA:=ahead_small (letter:=letter) hb ho.1 ho.2
    have lB:=behind_len front letter (far*letter) (far*(1-letter))
    have lA:=ahead_len back letter (far*letter) (far*(1-letter))
    refine xs_assign R (Ev.conv (d':=.lst ((behindL front letter (far*letter) (far*(1-letter))).map ppD)) (ev_lcf (n:=n+19) (tg:=fun θ=>True) G K hA hh (evit_range1 G K (ev_len_l G K (ev_var K rfl rfl rfl) rfl rfl rfl (by rw [List.length_map];omega)) (by omega) (by rw [List.length_map];omega) rfl rfl rfl) trivial (ScOk.of rfl) (fun θ=>rfl) rfl (inUp front.length)
      (onB fun i=>front.getD i.toNat 0==letter) (onI fun i=>ppD (((front.drop i.toNat).count 0:Nat)+far*letter,((front.drop i.toNat).count 1:Nat)+far*(1-letter))) (fun C cells d K₁ ⟨i,hi,e⟩=>?_) (fun C cells d K₁ ⟨i,hi,e⟩ _=>?_) (by rw [List.length_map,Int.toNat_natCast];exact upto_in) (by rw [upto_len,List.length_map];exact Nat.le_trans hf (Nat.le_of_ble_eq_true rfl))) (by rw [List.length_map,upto_pick];unfold behindL;rw [List.map_map];rfl)) (.cell rfl rfl (own_cell rfl)) rfl fun s T K' R=>?_
    · subst e
      exact ts_cmp (ev_item_lst (i:=i) (ev_var K₁ rfl rfl rfl) (ev_var K₁ rfl rfl rfl) (Int.natCast_nonneg _) (by omega) (d:=.int (front.getD i 0)) (get_ints hi) (fun θ θ=>⟨_,rfl⟩)) (ev_var K₁ rfl rfl rfl) op_eq rfl
    · subst e
      exact ev_tuple (evs_cons (ev_add (m_count (Ev.conv (ev_from (i:=i) (by rw [List.length_map];unfold sizeLine;omega) (ev_var K₁ rfl rfl rfl) (ev_var K₁ rfl rfl rfl)) (by rw [← List.map_drop,Int.toNat_natCast])) ev_int rfl rfl rfl rfl) (ev_var K₁ rfl rfl rfl)) (evs_cons (ev_add (m_count (Ev.conv (ev_from (i:=i) (by rw [List.length_map];unfold sizeLine;omega) (ev_var K₁ rfl rfl rfl) (ev_var K₁ rfl rfl rfl)) (by rw [← List.map_drop,Int.toNat_natCast])) ev_int rfl rfl rfl rfl) (ev_var K₁ rfl rfl rfl)) evs_nil)) (Nat.le_of_ble_eq_true rfl)
    refine xs_assign R (Ev.conv (d':=.lst ((aheadL back letter (far*letter) (far*(1-letter))).map ppD)) (ev_lcf (n:=n+19) (tg:=fun θ=>True) G K hA hh (evit_range1 G K (ev_len_l G K (ev_var K rfl rfl rfl) rfl rfl rfl (by rw [List.length_map];omega)) (by omega) (by rw [List.length_map];omega) rfl rfl rfl) trivial (ScOk.of rfl) (fun θ=>rfl) rfl (inUp back.length)
      (onB fun i=>back.getD i.toNat 0==letter) (onI fun i=>ppD (1+((back.take i.toNat).count 0:Nat)-far*letter,1+((back.take i.toNat).count 1:Nat)-far*(1-letter))) (fun C cells d K₁ ⟨i,hi,e⟩=>?_) (fun C cells d K₁ ⟨i,hi,e⟩ _=>?_) (by rw [List.length_map,Int.toNat_natCast];exact upto_in) (by rw [upto_len,List.length_map];exact Nat.le_trans hb (Nat.le_of_ble_eq_true rfl))) (by rw [List.length_map,upto_pick];unfold aheadL;rw [List.map_map];rfl)) (.cell rfl rfl (own_cell rfl)) rfl fun s T K' R=>?_
    · subst e
      exact ts_cmp (ev_item_lst (i:=i) (ev_var K₁ rfl rfl rfl) (ev_var K₁ rfl rfl rfl) (Int.natCast_nonneg _) (by omega) (d:=.int (back.getD i 0)) (get_ints hi) (fun θ θ=>⟨_,rfl⟩)) (ev_var K₁ rfl rfl rfl) op_eq rfl
    · subst e
      exact ev_tuple (evs_cons (ev_sub (ev_add ev_int (m_count (Ev.conv (ev_upto (i:=i) (by rw [List.length_map];unfold sizeLine;omega) (ev_var K₁ rfl rfl rfl) (ev_var K₁ rfl rfl rfl)) (by rw [← List.map_take,Int.toNat_natCast])) ev_int rfl rfl rfl rfl)) (ev_var K₁ rfl rfl rfl)) (evs_cons (ev_sub (ev_add ev_int (m_count (Ev.conv (ev_upto (i:=i) (by rw [List.length_map];unfold sizeLine;omega) (ev_var K₁ rfl rfl rfl) (ev_var K₁ rfl rfl rfl)) (by rw [← List.map_take,Int.toNat_natCast])) ev_int rfl rfl rfl rfl)) (ev_var K₁ rfl rfl rfl)) evs_nil)) (Nat.le_of_ble_eq_true rfl)
    have R:=R.only [("front", .lst (front.map D.int)),("back", .lst (back.map D.int)),("letter", .int letter),("behind", .lst ((behindL front letter (far*letter) (far*(1-letter))).map ppD)),("ahead", .lst ((aheadL back letter (far*letter) (far*(1-letter))).map ppD))] ⟨rfl,rfl,rfl,rfl,rfl,trivial⟩
    generalize behindL front letter (far*letter) (far*(1-letter))=B at *
    generalize aheadL back letter (far*letter) (far*(1-letter))=Ah at *
    have done:=fun (t:Tri) (v:Value) (s₄:Shared) (e:some t=rayFn front back) T (b:Bears N s₄.heap (tri t) v)=>hQ' (.ret v) s₄ (hQ (.ret v) s₄ ⟨To.trans TT T,(by rw [← e];exact b)⟩)
    refine xs_if R (ts_or (p:=B.isEmpty) (q:=Ah.isEmpty) (Ts.conv (ts_cmp (ev_var K rfl rfl rfl) (ev_list (ds:=[]) (by exact evs_nil) (Nat.zero_le _)) (op_eq_data huA okD_pps okD_nil) rfl) (by rw [eqv_nil,List.isEmpty_map])) fun θ=>Ts.conv (ts_cmp (ev_var K rfl rfl rfl) (ev_list (ds:=[]) (by exact evs_nil) (Nat.zero_le _)) (op_eq_data huA okD_pps okD_nil) rfl) (by rw [eqv_nil,List.isEmpty_map])) (fun hc s T R=>?_) fun hc s T R=>xs_nil ?_
    · refine xs_return R (d:=tri (if Ah.isEmpty then (letter,1,1) else (letter,-1,-1))) (ev_if (c:=Ah.isEmpty) (Ts.conv (ts_cmp (ev_var K rfl rfl rfl) (ev_list (ds:=[]) (by exact evs_nil) (Nat.zero_le _)) (op_eq_data huA okD_pps okD_nil) rfl) (by rw [eqv_nil,List.isEmpty_map])) (fun q=>?_) fun q=>?_) fun v s T b=>done _ v s (hS _ (eS.trans (if_pos hc))) (R.to.trans T.of_no) b
      · rw [if_pos q]
        exact ev_tuple (evs_cons (ev_var K rfl rfl rfl) (evs_cons ev_int (evs_cons ev_int evs_nil))) (Nat.le_of_ble_eq_true rfl)
      · rw [if_neg (by rw [q];decide)]
        exact ev_tuple (evs_cons (ev_var K rfl rfl rfl) (evs_cons (Ev.conv (ev_neg ev_int) rfl) (evs_cons (Ev.conv (ev_neg ev_int) rfl) evs_nil))) (Nat.le_of_ble_eq_true rfl)
    rw [hc] at eS
    rw [Bool.or_eq_false_iff] at hc
    obtain ⟨eB,eA⟩:=hc
    have hB:=List.isEmpty_eq_false_iff.mp eB
    have hAh:=List.isEmpty_eq_false_iff.mp eA
    simp only [Bool.false_eq_true,if_false] at eS
    refine xs_lc22 (n:=n+19) (l:=B) (l2:=Ah) (g:=fun p q=>.int (cross p q)) G K hA hh R (ev_var K rfl rfl rfl) (ScOk.of rfl) (fun θ=>rfl) rfl rfl rfl rfl rfl (fun C cells p K₁ hp=>ev_var K₁ rfl rfl rfl) (fun θ θ=>rfl) (fun C cells p q K₁ hp hq=>?_) (Nat.le_trans (Nat.mul_le_mul (Nat.le_trans lB hf) (Nat.le_trans lA hb)) (Nat.le_of_ble_eq_true rfl)) (.local rfl rfl) rfl fun s T K' R=>?_
    · have h1:=(sB p hp).1
      unfold smallP at h1
      exact ev_sub (ev_mul (ev_var K₁ rfl rfl rfl) (ev_var K₁ rfl rfl rfl) (mulS (by omega))) (ev_mul (ev_var K₁ rfl rfl rfl) (ev_var K₁ rfl rfl rfl) (mulS (by omega)))
    have R:=R.only [("front", .lst (front.map D.int)),("back", .lst (back.map D.int)),("letter", .int letter),("behind", .lst (B.map ppD)),("ahead", .lst (Ah.map ppD)),("crosses", .lst ((crossesL B Ah).map D.int))] ⟨rfl,rfl,rfl,rfl,rfl,congrArg (fun l=>some (D.lst l)) flat_ints,trivial⟩
    have hcr:crossesL B Ah≠[]:=flat_ne hB hAh
    refine xs_if R (c:=parts B Ah) (ts_or (ts_cmp (ev_b1 (ev_bi G K rfl (by kernel_rfl) hv_min rfl) (ev_var K rfl rfl rfl) rfl rfl (op_min_lst hh hcr)) ev_int op_gt rfl) fun θ=>ts_cmp (ev_b1 (ev_bi G K rfl (by kernel_rfl) hv_max rfl) (ev_var K rfl rfl rfl) rfl rfl (op_max_lst hh hcr)) ev_int op_lt rfl) (fun hc s T R=>?_) fun hc s T R=>xs_nil (xs_nil (hQ' .next _ ⟨_,⟨ps,rfl,⟨rfl,rfl,trivial⟩,fun p h=>hm p (.tail _ h),(hN (by rw [eS,hc];rfl)).1,(hN (by rw [eS,hc];rfl)).2⟩,R⟩))
    have hray:raysL B Ah (signOf B Ah)≠[]:=by
      intro q
      rw [hc,q,eB,eA] at hst
      exact absurd hst (by decide)
    rw [hc] at eS
    simp only [if_true] at eS
    refine xs_assign R (d:=.int (signOf B Ah)) (ev_if (ts_cmp (ev_b1 (ev_bi G K rfl (by kernel_rfl) hv_min rfl) (ev_var K rfl rfl rfl) rfl rfl (op_min_lst hh hcr)) ev_int op_gt rfl) (fun q=>Ev.conv ev_int (by rw [signOf,if_pos (of_decide_eq_true q)])) fun q=>Ev.conv (ev_neg ev_int) (by rw [signOf,if_neg (of_decide_eq_false q)])) (.cell rfl rfl (own_cell rfl)) rfl fun s T K' R=>?_
    have hz:(signOf B Ah).natAbs≤1000000:=by rcases sign_of B Ah with h | h<;>rw [h]<;>decide
    generalize signOf B Ah=z at *
    refine xs_lc22 (n:=n+19) (l:=B) (l2:=Ah) (g:=fun p q=>ppD (p.1+q.1,p.2+q.2)) G K hA hh R (ev_var K rfl rfl rfl) (ScOk.of rfl) (fun θ=>rfl) rfl rfl rfl rfl rfl (fun C cells p K₁ hp=>ev_var K₁ rfl rfl rfl) (fun θ θ=>rfl) (fun C cells p q K₁ hp hq=>?_) (Nat.le_trans (Nat.mul_le_mul (Nat.le_trans lB hf) (Nat.le_trans lA hb)) (Nat.le_of_ble_eq_true rfl)) (.local rfl rfl) rfl fun s T K' R=>?_
    · exact ev_tuple (evs_cons (ev_add (ev_var K₁ rfl rfl rfl) (ev_var K₁ rfl rfl rfl)) (evs_cons (ev_add (ev_var K₁ rfl rfl rfl) (ev_var K₁ rfl rfl rfl)) evs_nil)) (Nat.le_of_ble_eq_true rfl)
    have R:=R.only [("letter", .int letter),("behind", .lst (B.map ppD)),("ahead", .lst (Ah.map ppD)),("sign", .int z),("rays", .lst ((sumsL B Ah).map ppD))] ⟨rfl,rfl,rfl,rfl,congrArg (fun l=>some (D.lst l)) flat_pps,trivial⟩
    refine xs_lcPf (n:=n+19) (l:=sumsL B Ah) (q:=fun r=>decide (minL (within B Ah z r)>0)) (g:=ppD) G K hA hh R (ev_var K rfl rfl rfl) (ScOk.of rfl) (fun θ=>rfl) rfl rfl (fun C cells r K₁ hr=>?_) (fun C cells r K₁ hr θ=>?_) (Nat.le_trans (sums_len (Nat.le_trans lB hf) (Nat.le_trans lA hb)) (Nat.le_of_ble_eq_true rfl)) (.local rfl rfl) rfl fun s T K' R=>?_
    · refine ts_cmp (ev_b1 (ev_bi G K₁ rfl (by kernel_rfl) hv_min rfl) (Ev.conv (ev_bin (ev_lcP (n:=n+19) (l:=B) (g:=fun p=>.int (z*cross p r)) G K₁ hA hh (ev_var K₁ rfl rfl rfl) (ScOk.of rfl) (fun θ=>rfl) rfl rfl (fun C cells p K₂ hp=>?_) (by unfold sizeLine;omega))
        (ev_lcP (n:=n+19) (l:=Ah) (g:=fun q=>.int (z*cross r q)) G K₁ hA hh (ev_var K₁ rfl rfl rfl) (ScOk.of rfl) (fun θ=>rfl) rfl rfl (fun C cells q K₂ hq=>?_) (by unfold sizeLine;omega)) (op_add_lst (by rw [List.length_map,List.length_map];unfold sizeLine;omega))) (congrArg D.lst within_D)) rfl rfl (op_min_lst hh (within_ne hB))) ev_int op_gt rfl
      · have h1:=(sB p hp).1
        unfold smallP at h1
        exact ev_mul (ev_var K₂ rfl rfl rfl) (ev_sub (ev_mul (ev_var K₂ rfl rfl rfl) (ev_var K₂ rfl rfl rfl) (mulS (by omega))) (ev_mul (ev_var K₂ rfl rfl rfl) (ev_var K₂ rfl rfl rfl) (mulS (by omega)))) (mulS hz)
      · have h1:=(sA q hq).1
        unfold smallP at h1
        exact ev_mul (ev_var K₂ rfl rfl rfl) (ev_sub (ev_mul (ev_var K₂ rfl rfl rfl) (ev_var K₂ rfl rfl rfl) (mulR (by omega))) (ev_mul (ev_var K₂ rfl rfl rfl) (ev_var K₂ rfl rfl rfl) (mulR (by omega)))) (mulS hz)
    · exact ev_tuple (evs_cons (ev_var K₁ rfl rfl rfl) (evs_cons (ev_var K₁ rfl rfl rfl) evs_nil)) (Nat.le_of_ble_eq_true rfl)
    have hz2:=fun r (h:r∈raysL B Ah z)=>rays_ok sB sA h
    have hz3:=fun d h=>size_ok (z:=z) sB sA (d:=d) h
    have hlen:(raysL B Ah z).length≤256:=Nat.le_trans (List.length_filter_le _ _) (sums_len (Nat.le_trans lB hf) (Nat.le_trans lA hb))
    have R:=R.only [("letter", .int letter),("sign", .int z),("rays", .lst ((raysL B Ah z).map ppD))] ⟨rfl,rfl,rfl,trivial⟩
    unfold rayEnd at eS
    dsimp only at eS
    generalize raysL B Ah z=rs at *
    refine xs_lcP (n:=n+19) (l:=rs) (g:=fun r=>.int (maxL (onesL r))) G K hA hh R (ev_var K rfl rfl rfl) (ScOk.of rfl) (fun θ=>rfl) rfl rfl (fun C cells r K₁ hr=>?_) (Nat.le_trans hlen (Nat.le_of_ble_eq_true rfl)) (.local rfl rfl) rfl fun s T K' R=>?_
    · have hr1:=hz2 r hr
      refine ev_b1 (ev_bi G K₁ rfl (by kernel_rfl) hv_max rfl) (Ev.conv (ev_lcf (n:=n+19) (tg:=fun θ=>True) G K₁ hA hh (evit_range2 G K₁ ev_int (ev_add (ev_var K₁ rfl rfl rfl) ev_int) (by decide) (by decide) (by omega) (by omega) rfl rfl rfl rfl) trivial (ScOk.of rfl) (fun θ=>rfl) rfl (fun d=>∃ o:Int,(1≤o∧o≤((r.1+1-1).toNat:Int))∧d=.int o)
        (onB fun o=>r.1.fmod o==0&&r.2.fmod o==0) (fun d=>d) (fun C cells d K₂ ⟨o,ho,e⟩=>?_) (fun C cells d K₂ ⟨o,ho,e⟩ _=>?_) upto1_in (by rw [upto_len,Int.add_sub_cancel];exact Nat.le_trans (toL 200 hr1.2) (Nat.le_of_ble_eq_true rfl))) (by rw [upto1,Int.add_sub_cancel];rfl)) rfl rfl (op_max_lst hh (ones_ne hr1.1))
      · subst e
        exact ts_and (ts_cmp (ev_mod (ev_var K₂ rfl rfl rfl) (ev_var K₂ rfl rfl rfl) (by omega)) ev_int op_eq rfl) fun θ=>ts_cmp (ev_mod (ev_var K₂ rfl rfl rfl) (ev_var K₂ rfl rfl rfl) (by omega)) ev_int op_eq rfl
      · subst e
        exact ev_var K₂ rfl rfl rfl
    have huA':A.units+64<cLine:=huA
    refine xs_tuple G (.inl hh) (fun θ θ θ θ=>.inl hh) R (Ev.conv (d':=tri (minT (rs.map fun r=>redT r (maxL (onesL r))))) (ev_b1 (ev_bi G K rfl (by kernel_rfl) hv_min rfl) (Ev.conv (ev_zip (xs:=rs.map ppD) (ys:=rs.map fun r=>.int (maxL (onesL r))) G K hh (ev_bi G K rfl (by kernel_rfl) hv_zip rfl) (ev_var K rfl rfl rfl) (ev_var K rfl rfl rfl) rfl rfl (ScOk.of rfl) (fun d1 d2=>(("size" : Str),d2)::bs2 "m" "n" d1) (fun d1 d2 h1 h2=>?_) (fun N' C cells acc d1 d2 h1 h2=>?_) (fun d1 d2=>tri (redT (unP d1) (unI d2))) (fun C cells d1 d2 K₁ h1 h2=>?_) (by rw [List.length_map];exact Nat.le_trans hlen (Nat.le_of_ble_eq_true rfl))) ?_) rfl rfl (op_min_tri hh huA (all:=rs.map fun r=>redT r (maxL (onesL r))) ?_)) rfl) (.cons (as_name (.local rfl rfl)) (.cons (as_name (.local rfl rfl)) (.cons (as_name (.local rfl rfl)) .nil))) rfl rfl rfl fun s T K' R=>?_
    · obtain ⟨p,hp,rfl⟩:=List.mem_map.mp h1
      rfl
    · obtain ⟨p,hp,rfl⟩:=List.mem_map.mp h1
      refine as_tuple (ds:=[ppD p,d2]) (bs:=([]++[(("size" : Str),d2)])++bs2 "m" "n" (ppD p)) G (fun θ θ=>.inl hh) (fun θ θ θ θ=>trivial) ?_ ?_
      rotate_left
      · rfl
      refine .cons ?_ (.cons ?_ .nil)
      · exact as_two (k:=0) G hh (fun θ θ θ θ=>trivial) (sto_comp rfl rfl) (sto_comp rfl rfl)
      · exact as_name (sto_comp rfl rfl)
    · obtain ⟨p,hp,rfl⟩:=List.mem_map.mp h1
      obtain ⟨k,rfl,hk⟩:=hz3 d2 h2
      have hk0:k≠0:=by omega
      have hk3 {a:Int}:=no_py (a:=a) (nabl (x:=k) (Int.le_trans (by decide) hk.1) (Int.lt_of_le_of_lt hk.2 (show (200:Int)<(1073741824:Nat) by decide)))
      exact ev_tuple (evs_cons (ev_div (ev_add (ev_var K₁ rfl rfl rfl) (ev_var K₁ rfl rfl rfl)) (ev_var K₁ rfl rfl rfl) hk0 hk3) (evs_cons (ev_div (ev_var K₁ rfl rfl rfl) (ev_var K₁ rfl rfl rfl) hk0 hk3) (evs_cons (ev_div (ev_var K₁ rfl rfl rfl) (ev_var K₁ rfl rfl rfl) hk0 hk3) evs_nil))) (Nat.le_of_ble_eq_true rfl)
    · rw [zip_same (h:=fun d1 d2=>tri (redT (unP d1) (unI d2))),List.map_map];rfl
    · intro q
      rw [List.map_eq_nil_iff] at q
      exact hray q
    refine xs_return R (ev_tuple (evs_cons (ev_var K rfl rfl rfl) (evs_cons (ev_mul (ev_var K rfl rfl rfl) (ev_var K rfl rfl rfl) (mulR hz)) (evs_cons (ev_mul (ev_neg (ev_var K rfl rfl rfl)) (ev_var K rfl rfl rfl) (mulR hz)) evs_nil))) (Nat.le_of_ble_eq_true rfl)) fun v s T b=>done _ v s (hS _ eS) (R.to.trans T.of_no) b
  · obtain ⟨ps,e,hl,hm,hr,hgo⟩:=hI
    cases ps with
    | cons p ps=>cases e
    | nil=>
    exact xs_nil (xs_return R ev_none fun v s' T b=>hQ (.ret v) s' ⟨R.to.trans T.of_no,by rw [← hr];exact b⟩)
section
variable {w:World} {s₁:Shared} {A:Around} {env:Env} {ρ:List (Str × D)}
theorem ev_from_tup {value lo:Expr} {p pos:Pos} {ds:List D} {i:Nat} (h1:1≤i) (hi:i≤ds.length) (hz:ds.length≤sizeLine) (v:Ev w s₁ A env ρ value (.tup ds)) (l:Ev w s₁ A env ρ lo (.int i)):Ev w s₁ A env ρ (.Subscript value (.Slice (some lo) none none p) pos) (.tup (ds.drop i)):=
  ev_at v (gv_slice (pt_some l) pt_none pt_none) slot_tuple_getitem.lookup (fun θ θ=>⟨_,rfl⟩) fun N s o k b q=>by
    obtain ⟨a,lo,u,t,rfl,hs,e1,e2,e3⟩:=q
    obtain ⟨c,vs,rfl,hn,hl,ba⟩:=of_tup b
    have hlen:=all_length ba
    cases u with
    | some _=>cases e2
    | none=>
    cases t with
    | some _=>cases e3
    | none=>
    cases lo with
    | none=>cases e1
    | some lo=>
    obtain ⟨z,tk⟩:=lo
    obtain rfl:z=(i:Int):=Option.some.inj e1
    refine ⟨hl.typeIs,fun θ nex=>getItem_tuple_from hl hs h1 (by rw [List.size_toArray,hlen];exact hi) ⟨To.push _ _,?_⟩ (by rw [List.size_toArray,hlen];exact hz)⟩
    exact bears_tup nex.size ⟨_,Heap.get?_push_size _ rfl,rfl,_,rfl⟩ ((all_drop i ba).to (To.push s _))
end
noncomputable def wD (x:List Int):D:=.lst (x.map D.int)
noncomputable def unW:D->List Int
  | .lst ds=>ds.map unI
  | _=>[]
theorem unW_wD (x:List Int):unW (wD x)=x:=by
  show (x.map D.int).map unI=x
  rw [List.map_map]
  exact List.map_id' x
noncomputable def apVals (p0 p1:Int) (x:List Int) (one:Int):List Int:=((List.range x.length).filter fun i=>x.getD i 0==one).map fun i=>p0*((x.take i).count 0:Nat)+p1*((x.take i).count 1:Nat)
noncomputable def apTop (p0 p1:Int) (x:List Int) (one:Int):Int:=maxL (apVals p0 p1 x one)
noncomputable def apTops (p0 p1:Int) (ws:List (List Int)) (one:Int):List Int:=ws.map fun x=>apTop p0 p1 x one
noncomputable def pick {α:Type} (a b:α) (k:Int):α:=if k=0 then a else b
noncomputable def apOther (l p0 p1:Int):Int:=if pick p0 p1 (1-l)>0 then pick p0 p1 (1-l) else 0
noncomputable def apLead (ws:List (List Int)) (l p0 p1:Int):Int:=maxL [0,pick p0 p1 l,apOther l p0 p1+maxL (apTops p0 p1 ws (1-l))-minL (apTops p0 p1 ws l),-minL (apTops p0 p1 ws l)]
noncomputable def apLack (ws:List (List Int)) (l p0 p1:Int) (k:Int):Int:=if l==0 then pick (apLead ws l p0 p1) (apOther l p0 p1) k else pick (apOther l p0 p1) (apLead ws l p0 p1) k
noncomputable def apStr (ws:List (List Int)) (l p0 p1:Int) (k:Int):Str:=Txt.mul ")" (apLack ws l p0 p1 k)++Txt.mul "(" (apLack ws l p0 p1 k-pick p0 p1 k)
noncomputable def one2 (k:Int):Prop:=k=0∨k=1
theorem pick_get {a b:D} {k:Int} (h:one2 k):([a,b]:List D)[k.toNat]?=some (pick a b k):=by rcases h with rfl | rfl<;>rfl
theorem pick_seq {k:Int} (h:one2 k):seqIndex? k 2=some k.toNat:=by rcases h with rfl | rfl<;>decide
theorem pick_int {a b k:Int}:pick (D.int a) (D.int b) k=.int (pick a b k):=by unfold pick;split<;>rfl
theorem pick_wD {a b:List Int} {k:Int}:pick (wD a) (wD b) k=wD (pick a b k):=by unfold pick;split<;>rfl
theorem pick_ap {f:Int->List Int} {k:Int} (h:one2 k):pick (f 0) (f 1) k=f k:=by rcases h with rfl | rfl<;>rfl
theorem one2_sub {k:Int} (h:one2 k):one2 (1-k):=by rcases h with rfl | rfl;exact .inr rfl;exact .inl rfl
theorem mul_ok {n:Int} (h:n.natAbs≤1000) {x:Str} (hx:x.length≤1):MulOk x n:=by
  refine ⟨?_,fun h1 θ=>?_,fun h1 θ=>?_⟩
  · rw [Bool.or_eq_false_iff];exact ⟨decide_eq_false (by omega),decide_eq_false (by omega)⟩
  · have:(1:Int)≤(2^63-1) / n:=by
      rw [Int.le_ediv_iff_mul_le (by omega +splitNatSub)];omega
    omega
  · show decide (x.length*n.toNat>sizeLine)=false
    have:x.length*n.toNat≤1*1000:=Nat.mul_le_mul hx (toN h)
    simp only [decide_eq_false_iff_not]
    unfold sizeLine
    omega
theorem fold_len (y:Array Nat):∀ (k:Nat) (a:Array Nat),((List.replicate k y).foldl (·++·) a).size=a.size+k*y.size
  | 0,a=>by simp
  | k+1,a=>by rw [List.replicate_succ,List.foldl_cons,fold_len y k,Array.size_append,Nat.succ_mul];omega
theorem mul_len {n:Int} {x:Str} (h:n.natAbs≤1000) (hx:x.length≤1):(Txt.mul x n).length≤1000:=by
  unfold Txt.mul
  split
  · exact Nat.zero_le _
  · split
    · omega
    · show (Array.size _)≤1000
      rw [fold_len]
      have:n.toNat*x.cps.size≤1000*1:=Nat.mul_le_mul (toN h) hx
      simpa using this
section
variable {w:World} {s₁:Shared} {A:Around} {env:Env} {ρ:List (Str × D)} {value slice:Expr} {pos:Pos} {k:Int}
theorem ev_pick {a b:List Int} (hk:one2 k) (v:Ev w s₁ A env ρ value (.lst [wD a,wD b])) (x:Ev w s₁ A env ρ slice (.int k)) (hs:∀ o i,∃ ops,subscripted slice false o i=operate ops (getItem o i)):Ev w s₁ A env ρ (.Subscript value slice pos) (.lst ((pick a b k).map D.int)):=
  ev_item_lst (i:=k) v x (by unfold one2 at hk;omega) (by unfold one2 at hk;omega) ((pick_get hk).trans (congrArg some pick_wD)) hs
theorem ev_pickT {a b:Int} (hk:one2 k) (v:Ev w s₁ A env ρ value (.tup [.int a,.int b])) (x:Ev w s₁ A env ρ slice (.int k)) (hs:∀ o i,∃ ops,subscripted slice false o i=operate ops (getItem o i)):Ev w s₁ A env ρ (.Subscript value slice pos) (.int (pick a b k)):=
  ev_item_tup (i:=k) v x (by unfold one2 at hk;omega) (by unfold one2 at hk;omega) (pick_seq hk) ((pick_get hk).trans (congrArg some pick_int)) hs
theorem ev_pickL {a b:Int} (hk:one2 k) (v:Ev w s₁ A env ρ value (.lst [.int a,.int b])) (x:Ev w s₁ A env ρ slice (.int k)) (hs:∀ o i,∃ ops,subscripted slice false o i=operate ops (getItem o i)):Ev w s₁ A env ρ (.Subscript value slice pos) (.int (pick a b k)):=
  ev_item_lst (i:=k) v x (by unfold one2 at hk;omega) (by unfold one2 at hk;omega) ((pick_get hk).trans (congrArg some pick_int)) hs
end
theorem f_apart {w:World} {s₁:Shared} (G:GW w s₁) {n:Nat} {ws:List (List Int)} {l p0 p1:Int} (hl:one2 l) (hp0:p0.natAbs≤1000000) (hp1:p1.natAbs≤1000000) (hne:ws≠[]) (hws:ws.length≤2) (hw:∀ x,x∈ws->x.length≤16∧(0:Int)∈x∧(1:Int)∈x)
    (hz:∀ k,one2 k->(apLack ws l p0 p1 k).natAbs≤1000∧(apLack ws l p0 p1 k-pick p0 p1 k).natAbs≤1000):Fn w s₁ h0 (n+4) 114 [.lst (ws.map wD),tri (l,p0,p1)] (.lst [.str (apStr ws l p0 p1 0),.str (apStr ws l p0 p1 1)]):=by
  refine fn_enter (fun A s s' env h T=>h) ["words", "ray"] G rfl rfl (by kernel_rfl) (fun s vs h=>by obtain ⟨a,b,rfl⟩:=len2 h;exact BindsTo.of_eq rfl) (by decide) (by decide) (by decide) rfl rfl rfl fun N A s L hA hh ⟨s₀,h₀,hown⟩ K R=>?_
  refine Xs.cut fun Q E hQ=>?_
  refine xs_tuple G (.inl hh) (fun θ θ θ θ=>.inl hh) R (ev_tuple (ds:=[.int l,.tup [.int p0,.int p1]]) (evs_cons (ev_item_tup (i:=0) (j:=0) (ev_var K rfl rfl rfl) ev_int (by decide) (by decide) rfl rfl (fun θ θ=>⟨_,rfl⟩)) (evs_cons (ev_from_tup (ds:=[.int l,.int p0,.int p1]) (i:=1) (Nat.le_refl _) (Nat.le_of_ble_eq_true rfl) (Nat.le_of_ble_eq_true rfl) (ev_var K rfl rfl rfl) ev_int) evs_nil)) (Nat.le_of_ble_eq_true rfl)) (.cons (as_name (.local rfl rfl)) (.cons (as_name (.cell rfl rfl (own_cell rfl))) .nil)) rfl rfl rfl fun s T K' R=>?_
  have R:=R.only [("words", .lst (ws.map wD)),("letter", .int l),("parts", .tup [.int p0,.int p1])] ⟨rfl,rfl,rfl,trivial⟩
  have hset:∀ x,x∈ws->∀ k,one2 k->apVals p0 p1 x k≠[]:=fun x hx k hk q=>by
    have hm:k∈x:=by rcases hk with rfl | rfl;exact (hw x hx).2.1;exact (hw x hx).2.2
    obtain ⟨i,hi,e⟩:=List.mem_iff_getElem.mp hm
    unfold apVals at q
    rw [List.map_eq_nil_iff,List.filter_eq_nil_iff] at q
    refine q i (List.mem_range.mpr hi) ?_
    rw [List.getD_eq_getElem?_getD,List.getElem?_eq_getElem hi]
    simp [e]
  refine xs_lc (n:=n+3) (tg:=fun θ=>True) (ds:=([0,1]:List Int).map D.int) G K hA hh R (by exact evit_tup G (ev_tuple (evs_cons ev_int (evs_cons ev_int evs_nil)) (Nat.le_of_ble_eq_true rfl))) trivial (ScOk.of rfl) (fun θ=>rfl) rfl (among [0,1]) (onI fun k=>.lst ((apTops p0 p1 ws k).map D.int)) (fun C cells d K₁ ⟨k,hk,e⟩=>?_) among_of (Nat.le_of_ble_eq_true rfl) (.local rfl rfl) rfl fun s T K' R=>?_
  · subst e
    have hk:one2 k:=by simpa [one2] using hk
    refine Ev.conv (ev_lc (n:=n+3) (tg:=fun θ=>True) (ds:=ws.map wD) G K₁ hA hh (evit_list G (ev_var K₁ rfl rfl rfl)) trivial (ScOk.of rfl) (fun θ=>rfl) rfl (fun d=>∃ x,x∈ws∧d=wD x) (fun d=>.int (apTop p0 p1 (unW d) k)) (fun C cells d K₂ ⟨x,hx,e⟩=>?_) (fun d h=>by obtain ⟨x,hx,rfl⟩:=List.mem_map.mp h;exact ⟨x,hx,rfl⟩) (by rw [List.length_map];exact Nat.le_trans hws (by decide))) ?_
    · subst e
      have hxl:=(hw x hx).1
      rw [unW_wD]
      refine ev_b1 (ev_bi G K₂ rfl (by kernel_rfl) hv_max rfl) (Ev.conv (d':=.lst ((apVals p0 p1 x k).map D.int)) (ev_lcf (n:=n+3) (tg:=fun θ=>True) G K₂ hA hh (evit_range1 G K₂ (ev_len_l (ds:=x.map D.int) G K₂ (ev_var K₂ rfl rfl rfl) rfl rfl rfl (by rw [List.length_map];omega)) (by omega) (by rw [List.length_map];omega) rfl rfl rfl) trivial (ScOk.of rfl) (fun θ=>rfl) rfl (inUp x.length)
        (onB fun i=>x.getD i.toNat 0==k) (onI fun i=>.int (p0*((x.take i.toNat).count 0:Nat)+p1*((x.take i.toNat).count 1:Nat))) (fun C cells d K₃ ⟨i,hi,e⟩=>?_) (fun C cells d K₃ ⟨i,hi,e⟩ _=>?_) (by rw [List.length_map,Int.toNat_natCast];exact upto_in) (by rw [upto_len,List.length_map];unfold sizeLine;omega)) (by rw [List.length_map,upto_pick];unfold apVals;rw [List.map_map];rfl)) rfl rfl (op_max_lst hh (hset x hx k hk))
      · subst e
        exact ts_cmp (ev_item_lst (ds:=x.map D.int) (i:=i) (ev_var K₃ rfl rfl rfl) (ev_var K₃ rfl rfl rfl) (Int.natCast_nonneg _) (by omega) (d:=.int (x.getD i 0)) (get_ints hi) (fun θ θ=>⟨_,rfl⟩)) (ev_var K₃ rfl rfl rfl) op_eq rfl
      · subst e
        exact ev_add (ev_mul (ev_item_tup (ds:=[.int p0,.int p1]) (i:=0) (j:=0) (ev_var K₃ rfl rfl rfl) ev_int (by decide) (by decide) rfl rfl (fun θ θ=>⟨_,rfl⟩)) (m_count (Ev.conv (ev_upto (ds:=x.map D.int) (i:=i) (by rw [List.length_map];unfold sizeLine;omega) (ev_var K₃ rfl rfl rfl) (ev_var K₃ rfl rfl rfl)) (by rw [← List.map_take,Int.toNat_natCast])) ev_int rfl rfl rfl rfl) (mulS hp0))
          (ev_mul (ev_item_tup (ds:=[.int p0,.int p1]) (i:=1) (j:=1) (ev_var K₃ rfl rfl rfl) ev_int (by decide) (by decide) rfl rfl (fun θ θ=>⟨_,rfl⟩)) (m_count (Ev.conv (ev_upto (ds:=x.map D.int) (i:=i) (by rw [List.length_map];unfold sizeLine;omega) (ev_var K₃ rfl rfl rfl) (ev_var K₃ rfl rfl rfl)) (by rw [← List.map_take,Int.toNat_natCast])) ev_int rfl rfl rfl rfl) (mulS hp1))
    · show D.lst _=.lst ((apTops p0 p1 ws k).map D.int)
      unfold apTops
      rw [List.map_map,List.map_map]
      exact congrArg D.lst (List.map_congr_left fun x θ=>by show D.int (apTop p0 p1 (unW (wD x)) k)=_;rw [unW_wD];rfl)
  have hT:∀ k,apTops p0 p1 ws k≠[]:=fun k q=>by unfold apTops at q;rw [List.map_eq_nil_iff] at q;exact hne q
  have R:=R.only [("words", .lst (ws.map wD)),("letter", .int l),("parts", .tup [.int p0,.int p1]),("tops", .lst [wD (apTops p0 p1 ws 0),wD (apTops p0 p1 ws 1)])] ⟨rfl,rfl,rfl,rfl,trivial⟩
  have hl':=one2_sub hl
  refine xs_assign R (d:=.int (apOther l p0 p1)) (ev_callB (ev_bi G K rfl (by kernel_rfl) hv_max rfl) (evs_cons ev_int (evs_cons (ev_pickT hl' (ev_var K rfl rfl rfl) (ev_sub ev_int (ev_var K rfl rfl rfl)) (fun θ θ=>⟨_,rfl⟩)) evs_nil)) rfl rfl rfl (op_max2 hh)) (.local rfl rfl) rfl fun s T K' R=>?_
  have hT2:∀ k,pick (apTops p0 p1 ws 0) (apTops p0 p1 ws 1) k≠[]:=fun k=>by unfold pick;split<;>exact hT _
  refine xs_assign R (d:=.int (apLead ws l p0 p1)) (Ev.conv (ev_callB (ev_bi G K rfl (by kernel_rfl) hv_max rfl) (evs_cons ev_int (evs_cons (ev_pickT hl (ev_var K rfl rfl rfl) (ev_var K rfl rfl rfl) (fun θ θ=>⟨_,rfl⟩)) (evs_cons (ev_sub (ev_add (ev_var K rfl rfl rfl) (ev_b1 (ev_bi G K rfl (by kernel_rfl) hv_max rfl) (ev_pick hl' (ev_var K rfl rfl rfl) (ev_sub ev_int (ev_var K rfl rfl rfl)) (fun θ θ=>⟨_,rfl⟩)) rfl rfl (op_max_lst hh (hT2 _)))) (ev_b1 (ev_bi G K rfl (by kernel_rfl) hv_min rfl) (ev_pick hl (ev_var K rfl rfl rfl) (ev_var K rfl rfl rfl) (fun θ θ=>⟨_,rfl⟩)) rfl rfl (op_min_lst hh (hT2 _))))
    (evs_cons (ev_neg (ev_b1 (ev_bi G K rfl (by kernel_rfl) hv_min rfl) (ev_pick hl (ev_var K rfl rfl rfl) (ev_var K rfl rfl rfl) (fun θ θ=>⟨_,rfl⟩)) rfl rfl (op_min_lst hh (hT2 _)))) evs_nil)))) rfl rfl rfl (op_max4 hh)) (by unfold apLead;rw [pick_ap hl,pick_ap hl'])) (.local rfl rfl) rfl fun s T K' R=>?_
  refine xs_assign R (d:=.lst [.int (apLack ws l p0 p1 0),.int (apLack ws l p0 p1 1)]) (ev_if (c:=l==0) (ts_cmp (ev_var K rfl rfl rfl) ev_int op_eq rfl) (fun q=>?_) fun q=>?_) (.cell rfl rfl (own_cell rfl)) rfl fun s T K' R=>?_
  · unfold apLack
    rw [if_pos q,if_pos q]
    exact ev_list (evs_cons (ev_var K rfl rfl rfl) (evs_cons (ev_var K rfl rfl rfl) evs_nil)) (Nat.le_of_ble_eq_true rfl)
  · unfold apLack
    rw [if_neg (by rw [q];decide),if_neg (by rw [q];decide)]
    exact ev_list (evs_cons (ev_var K rfl rfl rfl) (evs_cons (ev_var K rfl rfl rfl) evs_nil)) (Nat.le_of_ble_eq_true rfl)
  have R:=R.only [("parts", .tup [.int p0,.int p1]),("lacks", .lst [.int (apLack ws l p0 p1 0),.int (apLack ws l p0 p1 1)])] ⟨rfl,rfl,trivial⟩
  have hpk:∀ {k},one2 k->pick (apLack ws l p0 p1 0) (apLack ws l p0 p1 1) k=apLack ws l p0 p1 k:=fun {k} h=>by rcases h with rfl | rfl<;>rfl
  refine xs_return R (Ev.conv (ev_lc (n:=n+3) (tg:=fun θ=>True) (ds:=([0,1]:List Int).map D.int) G K hA hh (by exact evit_tup G (ev_tuple (evs_cons ev_int (evs_cons ev_int evs_nil)) (Nat.le_of_ble_eq_true rfl))) trivial (ScOk.of rfl) (fun θ=>rfl) rfl (among [0,1]) (onI fun k=>.str (apStr ws l p0 p1 k)) (fun C cells d K₁ ⟨k,hk,e⟩=>?_) among_of (Nat.le_of_ble_eq_true rfl)) rfl) fun v s' T b=>hQ (.ret v) s' ⟨R.to.trans T.of_no,b⟩
  subst e
  have hk:one2 k:=by simpa [one2] using hk
  obtain ⟨z1,z2⟩:=hz k hk
  refine ev_bin (ev_bin ev_str (Ev.conv (ev_pickL hk (ev_var K₁ rfl rfl rfl) (ev_var K₁ rfl rfl rfl) (fun θ θ=>⟨_,rfl⟩)) (by rw [hpk hk])) (op_mul_str (mul_ok z1 (Nat.le_of_ble_eq_true rfl)))) (ev_bin ev_str (ev_sub (Ev.conv (ev_pickL hk (ev_var K₁ rfl rfl rfl) (ev_var K₁ rfl rfl rfl) (fun θ θ=>⟨_,rfl⟩)) (by rw [hpk hk])) (ev_pickT hk (ev_var K₁ rfl rfl rfl) (ev_var K₁ rfl rfl rfl) (fun θ θ=>⟨_,rfl⟩))) (op_mul_str (mul_ok z2 (Nat.le_of_ble_eq_true rfl)))) (op_add_str ?_)
  have l1:=mul_len (x := ")") z1 (Nat.le_of_ble_eq_true rfl)
  have l2:=mul_len (x := "(") z2 (Nat.le_of_ble_eq_true rfl)
  show (_++_:Array Nat).size≤_
  rw [Array.size_append]
  exact Nat.le_trans (Nat.add_le_add l1 l2) (Nat.le_of_ble_eq_true rfl)
theorem li_len:typeLookup (.type "list_iterator") (Str.ofString "__len__")=pure none:=by rw [typeLookup_type,builtinLookup_eq_fast];kernel_rfl
theorem li_hint:typeLookup (.type "list_iterator") (Str.ofString "__length_hint__")=pure (some (.builtin "list_iterator.__length_hint__")):=by rw [typeLookup_type,builtinLookup_eq_fast];kernel_rfl
section
variable {w:World} {A:Around} {E:Value->Shared->Prop} {s:Shared}
theorem hint_iter {it:Addr} {Q:Bool->Shared->Prop} (hT:s.TypeIs (.ref it) "list_iterator") (h:Q false s):wpAny (Mo w) A (Builtin.List.listLengthHint (.ref it)) Q E s:=by
  unfold Builtin.List.listLengthHint
  refine wpAny_bind (wpAny_specialOf hT li_len ?_)
  refine wpAny_ite_split (fun hab=>absurd hab (by decide)) (fun θ=>?_)
  refine wpAny_ite_split (fun hab=>absurd hab (by decide)) (fun θ=>?_)
  refine wpAny_bind (wpAny_specialOf hT li_hint ?_)
  generalize hid:("list_iterator.__length_hint__" : String)=id0
  wp_delta
  rw [show splitId id0=some ("list_iterator", "__length_hint__") from by subst hid;decide +kernel]
  subst hid
  refine wpAny_bind (wpAny_isInstance (T := "list_iterator") (b:=true) hT (by rw [isSubtype_type];kernel_rfl) ?_)
  refine wpAny_ite_split (fun hab=>absurd hab (by decide)) (fun θ=>?_)
  refine wpAny_ite_split (fun θ=>?_) (fun hab=>absurd (by decide +kernel) hab)
  refine wpAny_ite_split (fun hab=>absurd hab (by decide)) (fun θ=>?_)
  exact wpAny_pure h
theorem walks_rest (hh:A.handled=none) (it l:Addr) (hne:l≠it) (items:Array Value) (j:Nat) (hj:j≤items.size) :
    Walks prog w A it [it,l] [it] (items.size-j) (fun i v=>items[j+i]?=some v) (fun i h=>h.IsListIter it l (j+i)∧h.IsList l items):=by
  have W:=Walks.list (prog:=prog) (w:=w) hh it l hne items
  refine ⟨W.sub,fun i h h' st hk=>W.frame (j+i) h h' st hk,fun i s Q E hi st hQ=>W.item (j+i) s Q E (by omega) st hQ,fun s Q E st hQ=>W.done s Q E ?_ hQ,fun i s Q E st hQ=>W.self (j+i) s Q E st hQ⟩
  rw [Nat.add_sub_cancel' hj] at st
  exact st
theorem drop_of {items acc:Array Value} {j:Nat} (h:ItemsOf (fun i v=>items[j+i]?=some v) acc (items.size-j)):acc=(items.toList.drop j).toArray:=by
  apply Array.ext_getElem?
  intro i
  have e:(items.toList.drop j).toArray[i]?=items[j+i]?:=by simp
  rw [e]
  cases hi:acc[i]? with
  | some v=>exact (h.2 i v hi).symm
  | none=>
    rw [Array.getElem?_eq_none_iff,h.1] at hi
    exact (Array.getElem?_eq_none_iff.mpr (by omega)).symm
theorem call_list_iter {it l:Addr} {j:Nat} {items:Array Value} {Q:Value->Shared->Prop} (hh:A.handled=none) (hit:s.heap.IsListIter it l j) (hl:s.heap.IsList l items) (hj:j≤items.size) (hz:items.size≤sizeLine)
    (hQ:∀ h' tk c',(∀ b o,b≠it->s.heap.get? b=some o->h'.get? b=some o)->h'.get? s.heap.objs.size=some { cls:=.type "list", dict:=none,data:=.seq (items.toList.drop j).toArray c',slots:=#[] }->Q (.ref s.heap.objs.size) { s with heap:=h',toks:=tk }) :
    wpAny (Mo w) A (call (.type "list") [.ref it]) Q E s:=by
  have hne:l≠it:=fun q=>by
    obtain ⟨o,ho,hc,_⟩:=hit
    obtain ⟨o',ho',hc',_⟩:=hl
    rw [q,ho] at ho';cases ho';rw [hc] at hc';exact absurd (Value.type.inj hc') (by decide)
  refine callType_codes (Q₁:=fun obj s₁=>obj=.ref s.heap.objs.size∧s₁={ s with heap:=s.heap.push { cls:=.type "list", data:=.seq #[] } }) F.called_list (F.typeCall_list_1 _) F.entry_list_init
    (code_list_new _ ⟨rfl,rfl⟩) fun obj s₁ h₁=>?_
  obtain ⟨rfl,rfl⟩:=h₁
  have hS:(s.heap.push { cls:=.type "list", data:=.seq #[] }).get? s.heap.objs.size=some { cls:=.type "list", data:=.seq #[] }:=Heap.get?_push_size _ rfl
  refine ⟨⟨_,hS,rfl⟩,F.args_list_init_2 _ _,?_⟩
  have hSit:s.heap.objs.size≠it:=fun q=>by obtain ⟨o,ho,_⟩:=hit;exact absurd (Heap.lt_size ho) (by rw [q];exact Nat.lt_irrefl _)
  have hSl:s.heap.objs.size≠l:=fun q=>by obtain ⟨o,ho,_⟩:=hl;exact absurd (Heap.lt_size ho) (by rw [q];exact Nat.lt_irrefl _)
  show wpAny _ A.in1.in1 (do let old ← Builtin.List.listItems (.ref s.heap.objs.size);Builtin.List.listUpdate (.ref s.heap.objs.size) (fun θ=>#[]);letGo old.toList.reverse;Builtin.List.listExtendWith (.ref s.heap.objs.size) (.ref it) .none) _ _ _
  refine wpAny_bind ?_
  unfold Builtin.List.listItems
  refine wpAny_bind (wpAny_seqItems hS rfl (wpAny_pure ?_))
  show wpAny _ A.in1.in1 (updateSeq s.heap.objs.size (fun θ=>#[]) >>= fun θ=>letGo (#[]:Array Value).toList.reverse >>= fun θ=>Builtin.List.listExtendWith (.ref s.heap.objs.size) (.ref it) .none) _ _ _
  refine wpAny_bind (wpAny_updateSeq hS rfl ?_)
  have hS₂:=Heap.get?_update_self (Obj.mapSeq (fun θ=>(#[]:Array Value))) hS rfl
  have oth:∀ b o,s.heap.get? b=some o->((s.heap.push { cls:=.type "list", data:=.seq #[] }).update s.heap.objs.size (Obj.mapSeq (fun θ=>(#[]:Array Value)))).get? b=some o:=
    fun b o e=>(Heap.get?_update_other _ _ (Ne.symm (Nat.ne_of_lt (Heap.lt_size e)))).trans (Heap.get?_push_of_some _ e)
  refine wpAny_bind (wpAny_letGo ?_)
  unfold Builtin.List.listExtendWith
  obtain ⟨oi,hoi,hci,hdi⟩:=id hit
  obtain ⟨ol,hol,hl2⟩:=id hl
  have hit₂:((s.heap.push { cls:=.type "list", data:=.seq #[] }).update s.heap.objs.size (Obj.mapSeq (fun θ=>(#[]:Array Value)))).IsListIter it l (j+0):=⟨oi,oth _ _ hoi,hci,hdi⟩
  have hTi:Shared.TypeIs { s with heap:=(s.heap.push { cls:=.type "list", data:=.seq #[] }).update s.heap.objs.size (Obj.mapSeq (fun θ=>(#[]:Array Value))) } (.ref it) "list_iterator" := ⟨oi,oth _ _ hoi,hci⟩
  refine wpAny_bind (wpAny_typeOf hTi ?_)
  have h1:Builtin.List.listSameRef (.ref s.heap.objs.size) (.ref it)=false:=by simp [Builtin.List.listSameRef,hSit]
  have h2:(Value.type "list_iterator" == Value.type "list")=false:=by decide
  have h3:(Value.type "list_iterator" == Value.type "tuple")=false:=by decide
  simp only [h1,h2,h3,Bool.or_false,Bool.false_eq_true,if_false]
  refine wpAny_bind (wpAny_pyIter_listiter hit₂ ?_)
  refine wpAny_bind (wpAny_holding (hint_iter hTi ?_))
  have W:=(walks_rest (w:=w) (A:=A.in1.in1) hh it l hne items j hj).toS
  have hSf:s.heap.objs.size∉[it,l]:=fun hm=>by
    rcases List.mem_cons.mp hm with q | hm
    · exact hSit q
    · exact hSl (List.mem_singleton.mp hm)
  refine wpAny_ite_split (fun hab=>absurd hab (by decide +kernel)) (fun θ=>wpAny_pure ⟨plainId_quiet F.plain_extend_loop _,?_⟩)
  refine codeAny_extend_loopS W (Nat.le_trans (Nat.sub_le _ _) hz) s.heap.objs.size hSf .none (items.size-j) 0 _ #[] _ rfl (Nat.zero_le _) ⟨hit₂,ol,oth _ _ hol,hl2⟩ hS₂ (ItemsOf.nil _) fun s' acc' c' hm hS' hacc=>?_
  rw [drop_of hacc] at hS'
  rw [Moved.eq_with hm]
  refine ⟨rfl,hQ s'.heap s'.toks c' (fun b o hb e=>hm.heap b o (fun hmem=>?_) (oth b o e)) hS'⟩
  rcases List.mem_cons.mp hmem with e' | hmem
  · exact absurd (Heap.lt_size e) (by rw [e'];exact Nat.lt_irrefl _)
  · exact hb (List.mem_singleton.mp hmem)
end
noncomputable abbrev Thing:=Int × List Int × Str
noncomputable def thingD (t:Thing):D:=.tup [.int t.1,.lst (t.2.1.map D.int),.str t.2.2]
noncomputable def deedD:Option Thing->D
  | none=>.none
  | some t=>thingD t
structure RunSt where
  pile:List Thing
  tape:List Int
  number:Int
  names:Str
noncomputable def told (base number:Int):Int × Int:=if base=0 then (0,0) else (number.fdiv base,number.fmod base)
noncomputable def signI (base:Int):Int:=(if base>0 then 1 else 0)-(if base<0 then 1 else 0)
noncomputable def runEnd (tail:Str) (s:RunSt) (b:Bool):D:=.tup [.int s.number,.lst (s.tape.map D.int),.str (stripFn (s.names++tail)),.bool b]
noncomputable def chopped (names name:Str):Str:=Txt.slice names none (some ((names.length:Int)-name.length-1))
noncomputable def pushed (base:Int) (s:RunSt) (t:Thing):RunSt:=⟨s.pile++[t],t.2.1++s.tape,s.number*base+signI base*t.1,s.names ++ "." ++ t.2.2⟩
noncomputable def fits (base:Int) (tail:Str) (s:RunSt) (value:Int) (t:Thing):Bool:=PyData.eqv (py (.tup [.int value,.tup [.int (told base s.number).1,.int (told base s.number).2],.str (stripFn (s.names++tail))])) (py (.tup [.int t.1,.tup [.int (told base s.number).1,.int (signI base*t.1)],.str t.2.2]))
noncomputable def popped (base:Int) (tail:Str) (s:RunSt) (rest:List Int):RunSt:=⟨s.pile.dropLast,rest,(told base s.number).1,chopped s.names (stripFn (s.names++tail))⟩
noncomputable def runFn (base:Int) (tail:Str):List (Option Thing)->RunSt->D
  | [],s=>runEnd tail s false
  | some t::r,s=>runFn base tail r (pushed base s t)
  | none::r,s=>match parseV s.tape with
    | none=>runEnd tail s s.pile.isEmpty
    | some (value,rest)=>match s.pile.getLast? with
      | none=>.none
      | some t=>if fits base tail s value t then runFn base tail r (popped base tail s rest) else .none
theorem cps_len (x y:Str):(x++y).length=x.length+y.length:=by
  show (_++_:Array Nat).size=_
  rw [Array.size_append];rfl
section
variable {w:World} {s₁ sb s:Shared} {N:Addr->Prop} {A:Around} {env:Env} {ρ:List (Str × D)} {γ:List (D × Value)} {X:Loc->Prop} {E:Value->Shared->Prop} {Q:Flow->Shared->Prop}
theorem ev_subB {l r:Expr} {pos:Pos} {p q:Bool} (x:Ev w s₁ A env ρ l (.bool p)) (y:Ev w s₁ A env ρ r (.bool q)):Ev w s₁ A env ρ (.BinOp l .Sub r pos) (.int (b2i p-b2i q)):=
  ev_bin x y fun N s u v bu bv θ θ=>by
    obtain rfl:=of_bool bu
    obtain rfl:=of_bool bv
    exact sub_bool ⟨To.toks _ _,bears_int⟩
theorem x_cont {pos:Pos} {rest:List Stmt} (h:Q .cont s):Xs w A env (.Continue pos::rest) Q E s:=xs_cons ⟨wpAny_Continue h⟩
theorem Rel.shed {it:Addr} (R:Rel s₁ N (OwnL env it) sb env ρ γ s) (h:NewAt sb (.inl it)):Rel s₁ N (Own env) sb env ρ γ s:=
  { R with to:=R.to.less fun p hp=>hp.imp id fun q=>by rw [q];exact h,xnew:=fun p hp=>R.xnew p (.inl hp),xloc:=.inl rfl }
theorem xs_iter (G:GW w s₁) {x:Str} {f arg:Expr} {p cp pos:Pos} {ds:List D} {rest:List Stmt} (R:Rel s₁ N (Own env) sb env ρ γ s) (xf:Ev w s₁ A env ρ f (.val (.builtin "iter"))) (ya:Ev w s₁ A env ρ arg (.lst ds)) (hk:env.scope.kind=.function) (hl2:env.kindOf x=some .local)
    (hc:eval (.Call f [arg] [] cp) env=(do callWith cp (← eval f env) [] (backTo cp (starEach [arg] env)) [])) (hs:starEach [arg] env=[(false,eval arg env)]) (hsw:swapsWith (.Call f [arg] [] cp) (some (.Name x p)) pos.line env=pure false)
    (h:∀ it l s',NewAt s (.inl it)->s'.heap.IsListIter it l 0->¬ N it->Rel s₁ N (OwnL env it) sb env ((x,.val (.ref it))::ρ) ((.lst ds,.ref l)::γ) s'->Xs w A env rest Q E s'):Xs w A env (.Assign [.Name x p] (.Call f [arg] [] cp) pos::rest) Q E s:=by
  have hb:backTo cp (starEach [arg] env)=[(false,eval arg env)]:=by rw [hs];rfl
  refine xs_cons ⟨wpAny_Assign_Name ?_ hsw⟩
  rw [hc,hb]
  refine wpAny_bind (xf.use R fun u s' T bu=>?_)
  obtain rfl:=of_val bu
  refine Calls.callWith_builtin rfl (Calls.evalArgs_plain (Calls.spliced_cons (ya.use (R.step T) fun v s'' T' bv=>Calls.spliced_nil ?_)))
  obtain ⟨l,vs,rfl,hn,hl,ba⟩:=of_lst bv
  refine iter_lst hl ?_
  have T₂:To no s'' { s'' with heap:=s''.heap.push { cls:=.type "list_iterator", data:=.fields #[.ref l,.int 0 0] } }:=To.push _ _
  have hnew:NewAt s'' (.inl s''.heap.objs.size):=newAt_ge (Nat.le_refl _)
  have R₂:=((R.step T).step T').step T₂
  have hit:(s''.heap.push { cls:=.type "list_iterator", data:=.fields #[.ref l,.int 0 0] }).IsListIter s''.heap.objs.size l 0:=⟨_,Heap.get?_push_size _ rfl,rfl,rfl⟩
  have hn₁:=NewAt.to R.tabs (T.trans T') hnew
  have hnN:¬ N s''.heap.objs.size:=fun q=>((R.step T).step T').nex _ q hnew
  have R₃:=(R₂.widen (X':=OwnL env s''.heap.objs.size) (fun θ h=>.inl h) fun p hp=>hp.elim (R.xnew p) fun q=>by rw [q];exact At.of_new G R.inv hn₁).ghost (γ':=[(.lst ds,.ref l)]) fun p hp=>by
    rw [List.mem_singleton] at hp;subst hp;exact bv.to T₂
  refine R₃.storeN bears_val hk hl2 fun s₄ T₄ R₄=>h _ l s₄ hn₁ (iter_to hit T₄ fun q=>?_) hnN R₄
  obtain ⟨m,hm,_⟩:=R₃.ns
  exact iter_ne_ns hm hit (Sum.inl.inj q).symm
theorem eval_listit (G:GW w s₁) {f arg:Expr} {pos:Pos} {it l:Addr} {j:Nat} {ds:List D} {Q:Value->Shared->Prop} (R:Rel s₁ N X sb env ρ γ s) (hX:X (.inl it)) (hN:¬ N it) (hh:A.handled=none) (hg:(.lst ds,.ref l)∈γ) (hit:s.heap.IsListIter it l j) (hj:j≤ds.length) (hz:ds.length≤sizeLine)
    (xf:Ev w s₁ A env ρ f (.val (.type "list"))) (ya:Ev w s₁ A env ρ arg (.val (.ref it)))
    (hc:eval (.Call f [arg] [] pos) env=(do callWith pos (← eval f env) [] (backTo pos (starEach [arg] env)) [])) (hs:starEach [arg] env=[(false,eval arg env)])
    (h:∀ v s',Rel s₁ N X sb env ρ γ s'->Kp s s'->Bears N s'.heap (.lst (ds.drop j)) v->Q v s'):wpAny (Mo w) A (eval (.Call f [arg] [] pos) env) Q E s:=by
  have hb:backTo pos (starEach [arg] env)=[(false,eval arg env)]:=by rw [hs];rfl
  rw [hc,hb]
  refine wpAny_bind (xf.use R fun u s' T bu=>?_)
  obtain rfl:=of_val bu
  refine PyProof.Rows.callWith_type rfl (Calls.evalArgs_plain (Calls.spliced_cons (ya.use (R.step T) fun v s'' T' bv=>Calls.spliced_nil ?_)))
  obtain rfl:=of_val bv
  have TT:=T.trans T'
  have R':=R.step TT
  have hit':=iter_to hit TT id
  obtain ⟨a,vs,ea,hn,hl,ba⟩:=of_lst (R'.gh _ hg)
  cases ea
  have hlen:=all_length ba
  refine call_list_iter hh hit' hl (by rw [List.size_toArray,hlen];exact hj) (by rw [List.size_toArray,hlen];exact hz) fun h' tk c' hk hS=>?_
  obtain ⟨o,ho,hcl,_⟩:=id hit'
  have T₂:To (one it) s'' { s'' with heap:=h',toks:=tk }:=To.heapX (fun b o hb e=>hk b o (fun q=>hb (by rw [q];rfl)) e) fun b hb=>by cases hb;exact free_of (G.tabOk R'.inv) ho hcl
  have K₂:=kp_iter hit' T₂
  have R₂:=R'.turned hX hN hit' T₂ K₂
  refine h _ _ R₂ ((Kp.of_to TT).trans K₂) (bears_lst (vs:=vs.drop j) ?_ ⟨c',by simpa using hS⟩ ((BearsAll.fewer (fun θ h=>h) (Kp.all K₂ (all_drop j ba)))))
  exact R'.nex.size
theorem eval_strip (G:GW w s₁) {n:Nat} {f arg:Expr} {pos:Pos} {x:Str} {Q:Value->Shared->Prop} (hA:Rm (n+1) A) (R:Rel s₁ N X sb env ρ γ s) (hH:HOk A s) (hx:x.length≤sizeLine) (xf:Ev w s₁ A env ρ f (.val (.ref 99))) (ya:Ev w s₁ A env ρ arg (.str x))
    (hc:eval (.Call f [arg] [] pos) env=(do callWith pos (← eval f env) [] (backTo pos (starEach [arg] env)) [])) (hs:starEach [arg] env=[(false,eval arg env)])
    (h:∀ v s',To no s s'->Bears N s'.heap (.str (stripFn x)) v->Q v s'):wpAny (Mo w) A (eval (.Call f [arg] [] pos) env) Q E s:=by
  have hb:backTo pos (starEach [arg] env)=[(false,eval arg env)]:=by rw [hs];rfl
  rw [hc,hb]
  refine wpAny_bind (xf.use R fun u s' T bu=>?_)
  obtain rfl:=of_val bu
  have hf:∃ o fd,(Kw w).lookup 99=some o∧o.data=.func fd:=⟨_,_,rfl,rfl⟩
  obtain ⟨o,fd,ho,hd⟩:=hf
  refine Calls.callWith_function (o:=o) (fd:=fd) (Calls.evalArgs_plain (Calls.spliced_cons (ya.use (R.step T) fun v s'' T' bv=>Calls.spliced_nil ?_)))
  have TT:=T.trans T'
  refine ⟨⟨G.get (R.inv.trans TT) ho rfl,hd⟩,wpAny_call (codeAny_mono ((f_strip G hx).run N A s'' [v] hA (hH.to TT) (R.inv.trans TT) (R.step TT).nex (all_cons bv all_nil)) fun r s₃ z=>?_)⟩
  obtain ⟨v',rfl,T₃,b⟩:=z
  exact h v' s₃ (TT.trans T₃) b
end
theorem all_slice {p:Nat->Bool} {x:Str} {l u:Option Int} (h:x.cps.all p=true):(Txt.slice x l u).cps.all p=true:=by
  unfold Txt.slice
  split
  · exact h
  · rw [Array.all_eq_true_iff_forall_mem] at h ⊢
    intro c hc
    rw [List.mem_toArray,List.mem_filterMap] at hc
    obtain ⟨i,_,e⟩:=hc
    exact h c (Array.mem_of_getElem? e)
theorem strip_all {p:Nat->Bool} {x:Str} (h:x.cps.all p=true):(stripFn x).cps.all p=true:=all_slice h
theorem strip_le (x:Str):(stripFn x).length≤x.length:=Txt.slice_le _ _ _
noncomputable def thingOk (base:Int) (t:Thing):Prop:=(base≠0->t.1.natAbs<base.natAbs)∧t.2.1.length≤6∧t.2.2.length≤1000∧PyData.strOk t.2.2=true
structure StOk (base:Int) (k:Nat) (s:RunSt):Prop where
  pile:∀ t,t∈s.pile->thingOk base t
  plen:s.pile.length≤k
  tape:s.tape.length≤6*k
  names:s.names.length≤1002*(k+1)
  nok:PyData.strOk s.names=true
  num:base≠0->s.number.natAbs+1≤2^(Builtin.Int.intBits base*(k+1))
theorem sign_le (base:Int):(signI base).natAbs≤1:=by unfold signI;split<;>split<;>decide
theorem bits_up (a:Int):a.natAbs<2^Builtin.Int.intBits a:=intBits_le_iff.mp (Nat.le_refl _)
theorem pushed_ok {base:Int} {k:Nat} {s:RunSt} {t:Thing} (h:StOk base k s) (ht:thingOk base t):StOk base (k+1) (pushed base s t) where
  pile:=fun x hx=>by
    rcases List.mem_append.mp hx with q | q
    · exact h.pile x q
    · rw [List.mem_singleton] at q;rw [q];exact ht
  plen:=by show (s.pile++[t]).length≤_;have:=h.plen;simp;omega +splitNatSub
  tape:=by show (t.2.1++s.tape).length≤_;have:=h.tape;have:=ht.2.1;rw [List.length_append];omega
  names:=by
    show ((s.names ++ "." ++ t.2.2:Str)).length≤_
    rw [cps_len,cps_len]
    have h1:=h.names;have h2:=ht.2.2.1
    have:(Str.ofString ".").length=1:=by decide +kernel
    rw [this];omega
  nok:=strOk_append (strOk_append h.nok (strOk_ofString _)) ht.2.2.2
  num:=fun hb=>by
    show (s.number*base+signI base*t.1).natAbs+1≤_
    have h1:=h.num hb
    have h2:=ht.1 hb
    have h3:=bits_up base
    have e1:(s.number*base+signI base*t.1).natAbs≤s.number.natAbs*base.natAbs+t.1.natAbs:=by
      refine Nat.le_trans (Int.natAbs_add_le _ _) ?_
      rw [Int.natAbs_mul,Int.natAbs_mul]
      have:=Nat.mul_le_mul_right t.1.natAbs (sign_le base)
      omega
    rw [Nat.mul_succ,Nat.pow_add]
    have e2:(s.number.natAbs+1)*(base.natAbs+1)≤2^(Builtin.Int.intBits base*(k+1))*2^Builtin.Int.intBits base:=Nat.mul_le_mul h1 h3
    have e3:(s.number.natAbs+1)*(base.natAbs+1)=s.number.natAbs*base.natAbs+s.number.natAbs+base.natAbs+1:=by rw [Nat.add_mul,Nat.mul_add];omega
    omega
theorem told_le {base number:Int}:(told base number).1.natAbs≤number.natAbs:=by
  unfold told
  split
  · exact Nat.zero_le _
  · exact natAbs_fdiv_le _ _
theorem popped_ok {base:Int} {k:Nat} {s:RunSt} {tail:Str} {rest:List Int} (h:StOk base k s) (hr:rest.length≤s.tape.length):StOk base (k+1) (popped base tail s rest) where
  pile:=fun x hx=>h.pile x (List.dropLast_subset _ hx)
  plen:=by show s.pile.dropLast.length≤_;have:=h.plen;rw [List.length_dropLast];omega
  tape:=by show rest.length≤_;have:=h.tape;omega
  names:=by
    show (chopped s.names _).length≤_
    unfold chopped
    have:=Txt.slice_le s.names none (some ((s.names.length:Int)-(stripFn (s.names++tail)).length-1))
    have:=h.names
    omega
  nok:=all_slice h.nok
  num:=fun hb=>by
    show (told base s.number).1.natAbs+1≤_
    have h1:=h.num hb
    have h2:=told_le (base:=base) (number:=s.number)
    have:2^(Builtin.Int.intBits base*(k+1))≤2^(Builtin.Int.intBits base*(k+1+1)):=Nat.pow_le_pow_right (by decide) (Nat.mul_le_mul_left _ (Nat.le_succ _))
    omega
theorem okD_fits {a b c:Int} {x:Str} (h:PyData.strOk x=true):okD (.tup [.int a,.tup [.int b,.int c],.str x])=true:=okD_of (k:=3) (by simp [dOk,dOks,h]) (by decide)
theorem okD_things {base:Int} {l:List Thing} (h:∀ t,t∈l->thingOk base t):okD (.lst (l.map thingD))=true:=okD_of (k:=4) (by
  rw [dOk,Bool.and_eq_true]
  refine ⟨by decide,dOks_map fun t ht=>?_⟩
  unfold thingD
  have h1:=(h t ht).2.2.2
  have h2:dOks (t.2.1.map D.int) 1=true:=dOks_map fun θ θ=>rfl
  simp [dOk,dOks,h1,h2]) (by decide)
section
variable {w:World} {s₁:Shared} {A:Around} {env:Env} {ρ:List (Str × D)}
theorem ev_last {value slice:Expr} {pos:Pos} {ds:List D} {d:D} (v:Ev w s₁ A env ρ value (.lst ds)) (x:Ev w s₁ A env ρ slice (.int (-1))) (hd:ds.getLast?=some d)
    (hs:∀ o i,∃ ops,subscripted slice false o i=operate ops (getItem o i)):Ev w s₁ A env ρ (.Subscript value slice pos) d:=
  ev_at v x F.slot_list_getitem.lookup hs fun N s o j b q=>by
    obtain ⟨a,vs,rfl,hn,hl,ba⟩:=of_lst b
    obtain ⟨t,rfl⟩:=of_int q
    have hlen:=all_length ba
    rw [List.getLast?_eq_getElem?] at hd
    have hlt:ds.length-1<ds.length:=(List.getElem?_eq_some_iff.mp hd).1
    obtain ⟨y,hy,by_⟩:=all_get ba hd
    refine ⟨hl.typeIs,fun θ θ=>wpAny_getItem_list_neg hl (by decide) (by rw [List.size_toArray,hlen];omega) (by decide) (x:=y) ?_ ⟨To.refl _ _,by_⟩⟩
    rw [List.size_toArray,hlen,show ((-1:Int)+(ds.length:Int)).toNat=ds.length-1 from by rw [Int.add_comm];exact Int.toNat_sub ds.length 1]
    simpa using hy
end
theorem map_last {l:List Thing} {t:Thing} (h:l.getLast?=some t):(l.map thingD).getLast?=some (thingD t):=by rw [List.getLast?_map,h];rfl
noncomputable def RunR (outer:List Env) (N:Addr->Prop) (sc:Shared) (d:D) (r:Result) (s':Shared):Prop:=
  ∃ v,r=.ok (.ret v)∧Bears N s'.heap d v∧To (fun p=>∃ b,frs outer b∧p=.inl b) sc s'∧Slo (frs outer) sc s'∧Kp sc s'
theorem hv_stop:bootBuiltins "StopIteration" = some (.type "StopIteration"):=by kernel_rfl
section
variable {w:World} {s₁ sb s s':Shared} {N:Addr->Prop} {A:Around} {env:Env} {ρ:List (Str × D)} {γ:List (D × Value)} {X Y:Loc->Prop} {E:Value->Shared->Prop} {outer l:List Env} {cls:String} {e t T:Addr} {head:Value}
theorem Rz.step (z:Rz l Y sb cls e t head s) (x:To no s s'):Rz l Y sb cls e t head s':=by
  have tk:=z.tb.to z.to
  obtain ⟨o,vs,ho,hc,hd,h0,h1,h2⟩:=z.exc
  obtain ⟨ot,hot,hct,nt,hdtt⟩:=z.tn.2
  exact ⟨z.to.trans x.of_no,z.slo.trans (Slo.of_to x fun b hb=>⟨id,(z.fr.ns hb).2⟩),z.kp.trans (Kp.of_to x),⟨o,vs,x.keep e o id (fun q=>absurd q (newAt_notab z.tb z.en)) ho,hc,hd,h0,h1,h2⟩,z.en,z.hn,⟨z.tn.1,ot,x.keep t ot id (fun q=>absurd q (newAt_notab z.tb z.tn.1)) hot,hct,nt,hdtt⟩,z.fr.to x fun θ θ q=>q,z.tb,z.yb,fun p hp n=>z.yt p hp (NewAt.to tk x n)⟩
theorem TbAt.to {fl:Value} (h:TbAt s.heap e T fl) (hT:T∉tabs) (x:To no s s'):TbAt s'.heap e T fl:=by
  obtain ⟨n,o,ts,ho,r⟩:=h
  exact ⟨n,o,ts,x.keep T o id (fun q=>absurd q hT) ho,r⟩
theorem frs_cons {L b:Addr} (hf:env.frame=some L):frs (env::outer) b↔b=L∨frs outer b:=by
  rw [frs_iff,frs_iff]
  constructor
  · rintro ⟨e',he,h⟩
    rcases List.mem_cons.mp he with rfl | he
    · rw [hf] at h;cases h;exact .inl rfl
    · exact .inr ⟨e',he,h⟩
  · rintro (rfl | ⟨e',he,h⟩)
    · exact ⟨env,.head _,hf⟩
    · exact ⟨e',.tail _ he,h⟩
theorem catch_stop {it:Addr} {b₀:Stmt} {suite:List Stmt} {te:Expr} {pos:Pos} {Q:Flow->Shared->Prop} (hfr:A.frames=some (env::outer)) (hf:env.frame=some env.locals) (R:Rel s₁ N (OwnL env it) sb env ρ γ s) (z:Rz (env::outer) (one it) s "StopIteration" e t (.ref T) s') (tb:TbAt s'.heap e T .none)
    (hnew:∀ b,frs outer b->NewAt s₁ (.inl b)) (hNf:∀ b,frs outer b->¬ N b) (hnN:¬ N it) (hNl:¬ N env.locals) (hcells:∀ x k,env.kindOf x=some k->k≠.cell∧k≠.free) (xt:Ev w s₁ (A.mark (some (.ref e))) env ρ te (.val (.type "StopIteration")))
    (h:∀ s₆,Rel s₁ N (fun p=>OwnL env it p∨∃ b,frs outer b∧p=.inl b) sb env ρ γ s₆->HOk (A.mark (some (.ref e))) s₆->Slo (frs outer) s s₆->Kp s s₆->∀ E',Xs w (A.mark (some (.ref e))) env (b₀::suite) Q E' s₆) :
    wpAny (Mo w) A (noteFrame (.ref e) env) (fun θ s₂=>wpAny (Mo w) A (setFlight (.ref e) none) (fun θ s₃=>wpAny (Mo w) A (handleBy (.ref e) env [.ExceptHandler (some te) none (b₀::suite) pos]) Q E s₃) E s₂) E s':=by
  have rel:∀ {s₅:Shared} {T:Addr},Rz (env::outer) (one it) s "StopIteration" e t (.ref T) s₅->Rel s₁ N (fun p=>OwnL env it p∨∃ b,frs outer b∧p=.inl b) sb env ρ γ s₅:=fun {s₅ T} z=>
    R.after (F:=frs (env::outer)) z.to z.kp z.slo (fun θ h=>.inl h) (fun p hp=>.inl (by
        rcases hp with q | ⟨b,hb,q⟩
        · exact .inl (.inr q)
        · rcases (frs_cons hf).mp hb with rfl | hb
          · exact .inl (.inl (.inl q))
          · exact .inr ⟨b,hb,q⟩))
      (fun p hp=>hp.elim (R.xnew p) fun ⟨b,hb,q⟩=>by rw [q];exact hnew b hb) (fun θ=>(frs_cons hf).mpr (.inl rfl)) (fun x c k hk hq=>absurd hq (by have:=hcells x k hk;simp [this])) fun a ha q=>by
        rcases q with q | ⟨b,hb,q⟩
        · cases q;exact hnN ha
        · cases q
          rcases (frs_cons hf).mp hb with rfl | hb
          · exact hNl ha
          · exact hNf a hb ha
  refine Rz.note (by decide) z hfr hf (.inr ⟨T,rfl,tb⟩) fun s₂ T₂ z₂ tb₂=>z₂.flight tb₂ fun s₃ z₃ tb₃=>?_
  refine wpAny_handleBy_builtin (X := "StopIteration") (T := "StopIteration") (b:=true) (by rw [isSubtype_type];kernel_rfl) (by rw [isSubtype_type];kernel_rfl) isSubtype_stop (xt.use (rel z₃) fun c s₄ T₄ bc=>?_)
  have z₄:=z₃.step T₄
  have tb₄:=tb₃.to (newAt_notab z₃.tb (z₃.hn _ rfl)) T₄
  obtain ⟨o,vs,ho,hc,hd,h0,h1,h2⟩:=id z₄.exc
  refine ⟨of_val bc,⟨o,ho,hc⟩,?_⟩
  simp only [if_true]
  refine z₄.flight tb₄ fun s₅ z₅ tb₅=>?_
  obtain ⟨o,vs,ho,hc,hd,h0,h1,h2⟩:=id z₅.exc
  exact (h s₅ (rel z₅) (.inr ⟨e,o,vs,rfl,ho,hd,h2,newAt_notab z₅.tb z₅.en⟩) (z₅.slo.mono fun b hb=>(frs_cons hf).mpr (.inr hb)) z₅.kp _).run
theorem eval_varint (G:GW w s₁) {n:Nat} {f arg:Expr} {pos:Pos} {it l₀:Addr} {j:Nat} {tape:List Int} {Q:Value->Shared->Prop} (hA:Rm (n+1) A) (hh:A.handled=none) (hfr:A.frames=some (env::outer)) (FO:FrOk s (env::outer)) (R:Rel s₁ N (OwnL env it) sb env ρ γ s) (hN:¬ N it) (hg:(.lst (tape.map D.int),.ref l₀)∈γ) (hit:s.heap.IsListIter it l₀ j) (hz:tape.length≤2^20)
    (xf:Ev w s₁ A env ρ f (.val (.ref 92))) (ya:Ev w s₁ A env ρ arg (.val (.ref it)))
    (hc:eval (.Call f [arg] [] pos) env=(do callWith pos (← eval f env) [] (backTo pos (starEach [arg] env)) [])) (hs:starEach [arg] env=[(false,eval arg env)])
    (h1:∀ v rest k t' s',parseV (tape.drop j)=some (v,rest)->tape.drop k=rest->k≤tape.length->s'.heap.IsListIter it l₀ k->Rel s₁ N (OwnL env it) sb env ρ γ s'->Q (.int v t') s')
    (h2:parseV (tape.drop j)=none->∀ s₂ e t T s',To no s s₂->Rz (env::outer) (one it) s₂ "StopIteration" e t (.ref T) s'->TbAt s'.heap e T .none->E (.ref e) s'):wpAny (Mo w) A (eval (.Call f [arg] [] pos) env) Q E s:=by
  have hb:backTo pos (starEach [arg] env)=[(false,eval arg env)]:=by rw [hs];rfl
  rw [hc,hb]
  refine wpAny_bind (xf.use R fun u s' T bu=>?_)
  obtain rfl:=of_val bu
  have hf:∃ o fd,(Kw w).lookup 92=some o∧o.data=.func fd:=⟨_,_,rfl,rfl⟩
  obtain ⟨o,fd,ho,hd⟩:=hf
  refine Calls.callWith_function (o:=o) (fd:=fd) (Calls.evalArgs_plain (Calls.spliced_cons (ya.use (R.step T) fun v s'' T' bv=>Calls.spliced_nil ?_)))
  obtain rfl:=of_val bv
  have TT:=T.trans T'
  have R':=R.step TT
  have hit':=iter_to hit TT id
  have FO':=FO.to TT fun θ θ q=>q
  refine ⟨⟨G.get R'.inv ho rfl,hd⟩,wpAny_call (codeAny_mono (f_varint G hA hh hfr FO' R'.inv R'.nex hit' (R.xnew _ (.inr rfl)) hN (R'.gh _ hg) hz) fun r s₃ z=>?_)⟩
  cases hp:parseV (tape.drop j) with
  | none=>
    rw [hp] at z
    obtain ⟨e,t,T₂,rfl,z,tb⟩:=z
    exact h2 hp s'' e t T₂ s₃ TT z tb
  | some p=>
    obtain ⟨v,rest⟩:=p
    rw [hp] at z
    obtain ⟨t,k,rfl,T₃,K₃,hit₃,hk,hkl⟩:=z
    exact h1 v rest k t s₃ hp hk hkl hit₃ (R'.turned (.inr rfl) hN hit' T₃ K₃)
end
theorem num_mul {base:Int} {k:Nat} {s:RunSt} (h:StOk base k s) (hk:k≤60) (hb:base=0∨(2≤base.natAbs∧Builtin.Int.intBits base≤7999)):IntMulOk s.number base:=by
  rcases hb with rfl | ⟨h1,h2⟩
  · exact .of_right (by decide +kernel)
  · have h3:=h.num (by omega)
    have h4:=bits_le (Nat.lt_of_succ_le h3)
    have h5:Builtin.Int.intBits base*(k+1)≤7999*61:=Nat.mul_le_mul h2 (by omega)
    exact IntMulOk.of_le (m:=2^19) (n:=2^13) (by omega) (by omega) (by decide)
theorem run_div {w:World} {s₁:Shared} (G:GW w s₁) {n k:Nat} {base:Int} {s:RunSt} (h:StOk base k s) (hk:k≤60) (hb:2≤base.natAbs∧Builtin.Int.intBits base≤7999):Fn w s₁ h0 (n+16) 77 [.int s.number,.int base] (divD s.number base):=by
  have h3:=h.num (by omega)
  have h5:Builtin.Int.intBits base*(k+1)≤7999*61:=Nat.mul_le_mul hb.2 (by omega)
  have hpos:0<Builtin.Int.intBits base:=by
    rcases Nat.eq_zero_or_pos (Builtin.Int.intBits base) with q | q
    · have:=bits_up base;rw [q] at this;omega
    · exact q
  refine f_idiv G hb.1 hb.2 (Z:=Builtin.Int.intBits base*(k+1)) (Nat.lt_of_succ_le h3) (by omega) ?_
  have:(Builtin.Int.intBits base*(k+1)+Builtin.Int.intBits base-1) / Builtin.Int.intBits base≤(Builtin.Int.intBits base*(k+2)) / Builtin.Int.intBits base:=Nat.div_le_div_right (by rw [Nat.mul_succ _ (k+1)];exact Nat.sub_le _ _)
  rw [Nat.mul_div_cancel_left _ hpos] at this
  omega
theorem things_app (l:List Thing) (t:Thing):(l++[t]).map thingD=l.map thingD++[thingD t]:=by rw [List.map_append];rfl
theorem ints_app (a b:List Int):(a++b).map D.int=a.map D.int++b.map D.int:=List.map_append
theorem names_le {base:Int} {k:Nat} {s:RunSt} {tail:Str} (h:StOk base k s) (hk:k≤60) (ht:tail.length≤10):(s.names++tail).length≤70000:=by rw [cps_len];have:=h.names;omega
noncomputable abbrev runEnv (L:Addr):Env:=envOfC "_law_run" (makerOf 25).2 L 138 (.ref 137)
theorem run_nocell {L:Addr}:∀ x k,(runEnv L).kindOf x=some k->k≠.cell∧k≠.free:=fun x k hk=>by
  have key:∀ p,p∈(makerOf 25).2.names->p.2≠.cell∧p.2≠.free:=by decide
  exact key _ (mem_of_lookup hk)
theorem ev_nilL {w:World} {s₁:Shared} {A:Around} {env:Env} {ρ:List (Str × D)} {pos:Pos}:Ev w s₁ A env ρ (.List [] pos) (.lst []):=by
  have h:backTo pos (starEach [] env)=[]:=rfl
  exact ev_list (ds:=[]) (by rw [h];exact evs_nil) (Nat.zero_le _)
theorem noval_thing (t:Thing):noval (thingD t)=true:=by
  have h:∀ l:List Int,novals (l.map D.int)=true:=fun l=>by
    induction l with
    | nil=>rfl
    | cons a r ih=>rw [List.map_cons,novals,ih];rfl
  unfold thingD
  simp [noval,novals,h]
noncomputable abbrev runNames (base:Int) (tail:Str) (st:RunSt):List (Str × D):=[("number", .int st.number),("base", .int base),("names", .str st.names),("tail", .str tail),("sign", .int (signI base)),("pile", .lst (st.pile.map thingD)),("tape", .lst (st.tape.map D.int))]
theorem Fn.h0 {w:World} {s₁:Shared} {n:Nat} {f:Addr} {args:List D} {d:D} (F:Fn w s₁ HOk n f args d):Fn w s₁ Mine.h0 n f args d:=⟨fun N A s vs hA hh H nex b=>F.run N A s vs hA (HOk.of hh) H nex b⟩
section
variable {w:World} {s₁ sb s:Shared} {N:Addr->Prop} {A:Around} {env:Env} {ρ:List (Str × D)} {γ:List (D × Value)} {X:Loc->Prop} {E:Value->Shared->Prop}
theorem eval_tup4 {e1 e2 e3 e4:Expr} {k:Nat} {pos:Pos} {d1 d2 d3 d4:D} {it l₀:Addr} {j:Nat} {Q:Value->Shared->Prop} (R:Rel s₁ N X sb env ρ γ s) (hit:s.heap.IsListIter it l₀ j)
    (hs:starEach [e1,e2,e3,e4] env=[(false,eval e1 env),(false,eval e2 env),(false,eval e3 env),(false,eval e4 env)]) (x1:Ev w s₁ A env ρ e1 d1) (x3:Ev w s₁ A env ρ e3 d3) (x4:Ev w s₁ A env ρ e4 d4)
    (x2:∀ {s:Shared} {Q:Value->Shared->Prop} {E:Value->Shared->Prop},Rel s₁ N X sb env ρ γ s->s.heap.IsListIter it l₀ j->(∀ v s',Rel s₁ N X sb env ρ γ s'->Kp s s'->Bears N s'.heap d2 v->Q v s')->wpAny (Mo w) A (eval e2 env) Q E s)
    (h:∀ v s',Rel s₁ N X sb env ρ γ s'->Bears N s'.heap (.tup [d1,d2,d3,d4]) v->Q v s'):wpAny (Mo w) A (eval (.Tuple [e1,e2,e3,e4] k pos) env) Q E s:=by
  have hb:backTo pos (starEach [e1,e2,e3,e4] env)=[(false,eval e1 env),(false,eval e2 env),(false,eval e3 env),(false,eval e4 env)]:=by rw [hs];rfl
  refine Tuple_ ?_
  rw [hb]
  refine Calls.spliced_cons (x1.use R fun v1 s1 T1 b1=>Calls.spliced_cons (x2 (R.step T1) (iter_to hit T1 id) fun v2 s2 R2 K2 b2=>Calls.spliced_cons (x3.use R2 fun v3 s3 T3 b3=>Calls.spliced_cons (x4.use (R2.step T3) fun v4 s4 T4 b4=>Calls.spliced_nil ?_))))
  have R4:=(R2.step T3).step T4
  refine wpAny_newObj_type (h _ _ (R4.step (To.push _ _)) (bears_tup (vs:=[v1,v2,v3,v4]) R4.nex.size ⟨_,Heap.get?_push_size _ rfl,rfl,_,rfl⟩ ?_)) (Nat.le_of_ble_eq_true rfl)
  have TT:=(T3.trans T4).trans (To.push s4 { cls:=.type "tuple", data:=.seq (List.toArray [v1,v2,v3,v4]) })
  exact all_cons ((K2.k b1).to TT) (all_cons (b2.to TT) (all_cons (b3.to (T4.trans (To.push s4 _))) (all_cons (b4.to (To.push s4 _)) all_nil)))
end
inductive RnI (base:Int) (tail:Str) (F:D) (ds:List D) (ρ:List (Str × D)):Prop
  | mk (rest:List (Option Thing)) (k:Nat) (st:RunSt) (e:ds=rest.map deedD) (hl:Looks ρ (runNames base tail st)) (ht:∀ t,some t∈rest->thingOk base t) (hk:rest.length+k≤60) (so:StOk base k st) (hr:runFn base tail rest st=F)
theorem f_run {w:World} {s₁:Shared} (G:GW w s₁) {n:Nat} {N:Addr->Prop} {A:Around} {sc:Shared} {outer:List Env} {vs:List Value} {deeds:List (Option Thing)} {number base:Int} {names tail:Str} (hA₀:Rm (n+60) A) (hh:A.handled=none) (hfr:A.frames=some outer) (FO:FrOk sc outer) (hnew:∀ b,frs outer b->NewAt s₁ (.inl b)) (hNf:∀ b,frs outer b->¬ N b) (H:At s₁ sc) (nex:Nex N sc)
    (hbase:base=0∨(2≤base.natAbs∧Builtin.Int.intBits base≤7999)) (hd:∀ t,some t∈deeds->thingOk base t) (hdl:deeds.length≤60) (htl:tail.length≤10) (hto:PyData.strOk tail=true) (h₀:StOk base 0 ⟨[],[],number,names⟩)
    (bvs:BearsAll N sc.heap [.lst (deeds.map deedD),.int number,.int base,.str names,.str tail] vs):codeAny (Mo w) A (.call (.ref 138) ⟨vs,[]⟩) (RunR outer N sc (runFn base tail deeds ⟨[],[],number,names⟩)) sc:=by
  refine fn_enterX (args:=[.lst (deeds.map deedD),.int number,.int base,.str names,.str tail]) ["deeds", "number", "base", "names", "tail"] G rfl rfl (by kernel_rfl) (fun s vs h=>by obtain ⟨a,b,c,d,e,rfl⟩:=len5 h;exact BindsTo.of_eq rfl) (by decide) (by decide) (by decide) rfl rfl rfl hA₀ H nex bvs fun L s₀ T₀ hA hown K R=>?_
  refine Xs.cut fun Q E hQ=>?_
  have huA:A.units+80<cLine:=by have:=hA₀.u;show A.units+80<9900;omega
  generalize hAe:A.deeper _=A' at hA ⊢
  have hfr':A'.frames=some (runEnv L::outer):=by rw [← hAe];show A.frames.map _=_;rw [hfr];rfl
  have hNl:¬ N L:=nex.new (hown _ (.inl rfl))
  have hcells:=run_nocell (L:=L)
  have out1:∀ {d:D} {v:Value} {s':Shared},d=runFn base tail deeds ⟨[],[],number,names⟩->To (Own (runEnv L)) s₀ s'->Bears N s'.heap d v->Q (.ret v) s':=fun {d v s'} e T b=>by
    have T₁:To no sc s':=(T₀.of_no.trans T).less fun p hp=>.inr (hown _ hp)
    exact hQ (.ret v) s' ⟨v,rfl,e▸b,T₁.of_no,Slo.of_to T₁ fun b hb=>⟨id,(FO.ns hb).2⟩,Kp.of_to T₁⟩
  have hfu:∀ s',To (Own (runEnv L)) s₀ s'->FrOk s' outer:=fun s' T=>by
    have T₁:To no sc s':=(T₀.of_no.trans T).less fun p hp=>.inr (hown _ hp)
    exact FO.to T₁ fun θ θ q=>q
  have hh':A'.handled=none:=by rw [← hAe];exact hh
  have huA':A'.units+64<cLine:=by rw [← hAe];show A.units+3+64<cLine;omega
  clear hAe huA hA₀ hh hfr
  have hsg:(b2i (decide (base>0))-b2i (decide (base<0)))=signI base:=by unfold signI b2i;simp only [decide_eq_true_eq]
  refine xs_tuple_swap (names:=["sign", "pile", "tape"]) G (.inl hh') (fun θ θ θ θ=>.inl hh') R (ds:=[.int (signI base),.lst [],.lst []]) ?_ rfl (.cons (as_bind (.local rfl rfl)) (.cons (as_bind (.local rfl rfl)) (.cons (as_bind (.local rfl rfl)) .nil))) ?_ ?_ fun s T K' R=>?_
  rotate_left
  · rfl
  · rfl
  rotate_left
  · exact ev_tuple (evs_cons (Ev.conv (ev_subB (ev_cmp (ev_var K rfl rfl rfl) ev_int op_gt rfl) (ev_cmp (ev_var K rfl rfl rfl) ev_int op_lt rfl)) (congrArg D.int hsg)) (evs_cons ev_nilL (evs_cons ev_nilL evs_nil))) (Nat.le_of_ble_eq_true rfl)
  refine xs_forP (n:=n+59) G hA hh' trivial (tg:=fun θ=>True) R (evit_list G (ev_var K rfl rfl rfl)) (fun θ=>rfl)
    (RnI base tail (runFn base tail deeds ⟨[],[],number,names⟩))
    ⟨deeds,0,⟨[],[],number,names⟩,rfl,⟨rfl,rfl,rfl,rfl,rfl,rfl,rfl,trivial⟩,hd,hdl,h₀,rfl⟩ (fun γ' d ds ρ s' v hI TT R θ b=>?_) (fun ρ s' hI R=>?_)
  · obtain ⟨rest,k,st,e,hl,ht,hk,so,hr⟩:=hI
    cases rest with
    | nil=>cases e
    | cons o rest=>
    obtain ⟨rfl,rfl⟩:=List.cons.inj e
    rw [List.length_cons] at hk
    have R:=R.only _ hl
    refine as_name (H:=fun θ=>True) (.local rfl rfl) _ _ _ _ _ _ _ trivial R b fun s T₁ K₁ R=>?_
    refine Xs.cut fun Q' E' hQ'=>?_
    have tsl:=so.tape
    have hnl:=names_le so (by omega) htl
    cases o with
    | some t=>
      have htk:=ht t (.head _)
      obtain ⟨tv,tl,tx⟩:=t
      have hn':=so.names
      have e1:(Str.ofString ".").length=1:=by decide +kernel
      have e2:=htk.2.2.1
      have e3:=htk.2.1
      dsimp only at e2 e3
      refine xs_if R (ts_cmp (ev_var K rfl rfl rfl) ev_none (op_isnot_none (d:=deedD (some (tv,tl,tx))) (noval_thing _)) rfl) (fun hc s T R=>?_) fun hc s T R=>nomatch hc
      refine xs_tuple G (.inl hh') (fun θ θ θ θ=>.inl hh') R (ev_tuple (evs_cons (ev_bin (ev_var K rfl rfl rfl) (ev_list (evs_cons (ev_var K rfl rfl rfl) evs_nil) (Nat.le_of_ble_eq_true rfl)) (op_add_lst (by have:=so.plen;rw [List.length_map];unfold sizeLine;show _+1≤_;omega)))
        (evs_cons (ev_bin (ev_item_tup (ds:=[.int tv,.lst (tl.map D.int),.str tx]) (i:=1) (j:=1) (ev_var K rfl rfl rfl) ev_int (by decide) (by decide) rfl rfl (fun θ θ=>⟨_,rfl⟩)) (ev_var K rfl rfl rfl) (op_add_lst (by rw [List.length_map,List.length_map];unfold sizeLine;omega)))
        (evs_cons (ev_add (ev_mul (ev_var K rfl rfl rfl) (ev_var K rfl rfl rfl) (num_mul so (by omega) hbase)) (ev_mul (ev_var K rfl rfl rfl) (ev_item_tup (ds:=[.int tv,.lst (tl.map D.int),.str tx]) (i:=0) (j:=0) (ev_var K rfl rfl rfl) ev_int (by decide) (by decide) rfl rfl (fun θ θ=>⟨_,rfl⟩)) (mulS (by have:=sign_le base;omega))))
        (evs_cons (ev_bin (ev_bin (ev_var K rfl rfl rfl) ev_str (op_add_str (by rw [cps_len,e1];unfold sizeLine;omega))) (ev_item_tup (ds:=[.int tv,.lst (tl.map D.int),.str tx]) (i:=2) (j:=2) (ev_var K rfl rfl rfl) ev_int (by decide) (by decide) rfl rfl (fun θ θ=>⟨_,rfl⟩)) (op_add_str (by rw [cps_len,cps_len,e1];unfold sizeLine;omega))) evs_nil)))) (Nat.le_of_ble_eq_true rfl)) (.cons (as_name (.local rfl rfl)) (.cons (as_name (.local rfl rfl)) (.cons (as_name (.local rfl rfl)) (.cons (as_name (.local rfl rfl)) .nil)))) rfl rfl rfl fun s T K' R=>?_
      refine x_cont (hQ' .cont _ ⟨_,?_,R⟩)
      exact ⟨rest,k+1,pushed base st (tv,tl,tx),rfl,⟨rfl,rfl,rfl,rfl,rfl,congrArg (fun l=>some (D.lst l)) (things_app _ _).symm,congrArg (fun l=>some (D.lst l)) (ints_app _ _).symm,trivial⟩,fun t h=>ht t (.tail _ h),by omega,pushed_ok so htk,hr⟩
    | none=>
      refine xs_if R (ts_cmp (ev_var K rfl rfl rfl) ev_none (op_isnot_none (d:=deedD none) rfl) rfl) (fun hc s T R=>nomatch hc) fun hc s T R=>xs_nil ?_
      have R:=R.only (runNames base tail st) ⟨rfl,rfl,rfl,rfl,rfl,rfl,rfl,trivial⟩
      have Rp:=R
      refine xs_iter G R (ev_bi G K rfl (by kernel_rfl) hv_iter rfl) (ev_var K rfl rfl rfl) rfl rfl rfl rfl rfl fun it l₀ s itn hit hnN R=>?_
      have TT':To (Own (runEnv L)) s₀ s':=TT
      have tkc:=G.tabOk H
      have T₁:To no sc s':=(T₀.of_no.trans TT').less fun p hp=>.inr (hown _ hp)
      have itn':NewAt s' (.inl it):=(newAt_back (tkc.to T₁) Rp.to itn).elim id fun q=>absurd itn (own_there Rp _ q)
      have itc:NewAt sc (.inl it):=NewAt.to tkc T₁ itn'
      have hne:it≠L:=fun q=>by
        obtain ⟨m,hm,_⟩:=Rp.ns
        exact ns_there hm (q▸itn)
      have hX:∀ b,frs outer b->¬ OwnL (runEnv L) it (.inl b):=fun b hb q=>by
        obtain ⟨⟨m,hm⟩,_⟩:=FO.ns hb
        rcases q with q | q
        · exact ns_there hm (hown _ q)
        · exact ns_there hm (Sum.inl.inj q▸itc)
      refine xs_cons ⟨wpAny_Try_except (xs_cons ⟨wpAny_Assign_Name (eval_varint (n:=n+58) G hA hh' hfr' ?_ R hnN (.head _) hit ?_ (ev_gl G K rfl (by kernel_rfl) rfl) (ev_var K rfl rfl rfl) rfl rfl (fun value rs j t' s₂ hp hdr hj hit R=>?_) fun hp s₂ e t T s₃ T₂ z tb=>?_) rfl⟩).run⟩
      · intro env' he
        rcases List.mem_cons.mp he with rfl | he
        · obtain ⟨m,hm,_⟩:=R.ns
          exact ⟨rfl,L,m,rfl,hm,R.ltab⟩
        · exact (hfu s' TT').to R.to hX env' he
      · omega
      · refine R.storeN bears_int rfl rfl fun s₃ T₃ R=>?_
        have hit:=iter_to hit T₃ fun q=>hne (Sum.inl.inj q)
        refine (xs_nil ?_:Xs w A' _ [] _ _ s₃)
        refine (xs_nil ?_:Xs w A' _ [] _ _ s₃).run
        have hsx:(st.names++tail).length≤sizeLine:=Nat.le_trans hnl (Nat.le_of_ble_eq_true rfl)
        refine xs_assignN R (ev_callF (n:=n+59) G hA hh' (f_strip G (n:=n+58) hsx).h0 (ev_gl G K rfl (by kernel_rfl) rfl) (evs_cons (ev_bin (ev_var K rfl rfl rfl) (ev_var K rfl rfl rfl) (op_add_str hsx)) evs_nil) rfl rfl rfl rfl) rfl rfl rfl fun s₄ T₄ R=>?_
        refine xs_assignN R (d:=.tup [.int (told base st.number).1,.int (told base st.number).2]) (ev_if (c:=base != 0) (ts_plain (ev_var K rfl rfl rfl) tr_int (fun θ=>rfl)) (fun q=>?_) fun q=>?_) rfl rfl rfl fun s₅ T₅ R=>?_
        · have hb0:base≠0:=by simpa using q
          have e:told base st.number=(st.number.fdiv base,st.number.fmod base):=if_neg hb0
          rw [e]
          exact ev_callF (n:=n+59) G hA hh' (run_div (n:=n+43) G so (by omega) (hbase.resolve_left hb0)) (ev_gl G K rfl (by kernel_rfl) rfl) (evs_cons (ev_var K rfl rfl rfl) (evs_cons (ev_var K rfl rfl rfl) evs_nil)) rfl rfl rfl rfl
        · have hb0:base=0:=by simpa using q
          have e:told base st.number=(0,0):=if_pos hb0
          rw [e]
          exact ev_tuple (evs_cons ev_int (evs_cons ev_int evs_nil)) (Nat.le_of_ble_eq_true rfl)
        have hit:=iter_to (iter_to hit T₄ fun q=>hne (Sum.inl.inj q)) T₅ fun q=>hne (Sum.inl.inj q)
        have tow:∀ {s₂},To (OwnL (runEnv L) it) s' s₂->To (Own (runEnv L)) s₀ s₂:=fun T=>TT'.trans (T.less fun p hp=>hp.imp id fun q=>by rw [q];exact itn')
        have hpt:parseV st.tape=some (value,rs):=hp
        have hno:PyData.strOk (stripFn (st.names++tail))=true:=strip_all (p:=fun c=>decide (c<0x110000)) (strOk_append so.nok hto)
        cases hL:st.pile.getLast? with
        | none=>
          have e:runFn base tail (none::rest) st=.none:=by rw [runFn,hpt];dsimp only;rw [hL]
          have hp0:st.pile.isEmpty=true:=by rw [List.getLast?_eq_none_iff.mp hL];rfl
          refine xs_if R (ts_or (p:=st.pile.isEmpty) (q:=false) (Ts.conv (ts_cmp (ev_var K rfl rfl rfl) ev_nilL (op_eq_data huA' (okD_things so.pile) okD_nil) rfl) (by rw [eqv_nil,List.isEmpty_map])) fun h=>absurd (hp0.symm.trans h) (by decide)) (fun hc s T R=>?_) fun hc s T R=>absurd hc (by rw [hp0];decide)
          exact xs_return R ev_none fun v s T b=>hQ' (.ret v) s (out1 (e.symm.trans hr) ((tow R.to).trans T.of_no) b)
        | some t=>
          have hmem:=List.mem_of_getLast? hL
          have hp0:st.pile.isEmpty=false:=by rw [List.isEmpty_eq_false_iff];exact List.ne_nil_of_mem hmem
          have e:runFn base tail (none::rest) st=if fits base tail st value t then runFn base tail rest (popped base tail st rs) else .none:=by rw [runFn,hpt];dsimp only;rw [hL]
          rw [e] at hr
          obtain ⟨tv,tl,tx⟩:=t
          refine xs_if R (ts_or (p:=st.pile.isEmpty) (q:=!fits base tail st value (tv,tl,tx)) (Ts.conv (ts_cmp (ev_var K rfl rfl rfl) ev_nilL (op_eq_data huA' (okD_things so.pile) okD_nil) rfl) (by rw [eqv_nil,List.isEmpty_map])) fun θ=>ts_cmp
            (ev_tuple (ds:=[.int value,.tup [.int (told base st.number).1,.int (told base st.number).2],.str (stripFn (st.names++tail))]) (evs_cons (ev_var K rfl rfl rfl) (evs_cons (ev_var K rfl rfl rfl) (evs_cons (ev_var K rfl rfl rfl) evs_nil))) (Nat.le_of_ble_eq_true rfl))
            (ev_tuple (ds:=[.int tv,.tup [.int (told base st.number).1,.int (signI base*tv)],.str tx]) (evs_cons (ev_item_tup (ds:=[.int tv,.lst (tl.map D.int),.str tx]) (i:=0) (j:=0) (ev_last (ev_var K rfl rfl rfl) (Ev.conv (ev_neg ev_int) rfl) (map_last hL) (fun θ θ=>⟨_,rfl⟩)) ev_int (by decide) (by decide) rfl rfl (fun θ θ=>⟨_,rfl⟩))
              (evs_cons (ev_tuple (evs_cons (ev_item_tup (ds:=[.int (told base st.number).1,.int (told base st.number).2]) (i:=0) (j:=0) (ev_var K rfl rfl rfl) ev_int (by decide) (by decide) rfl rfl (fun θ θ=>⟨_,rfl⟩)) (evs_cons (ev_mul (ev_var K rfl rfl rfl) (ev_item_tup (ds:=[.int tv,.lst (tl.map D.int),.str tx]) (i:=0) (j:=0) (ev_last (ev_var K rfl rfl rfl) (Ev.conv (ev_neg ev_int) rfl) (map_last hL) (fun θ θ=>⟨_,rfl⟩)) ev_int (by decide) (by decide) rfl rfl (fun θ θ=>⟨_,rfl⟩)) (mulS (by have:=sign_le base;omega))) evs_nil)) (Nat.le_of_ble_eq_true rfl))
              (evs_cons (ev_item_tup (ds:=[.int tv,.lst (tl.map D.int),.str tx]) (i:=2) (j:=2) (ev_last (ev_var K rfl rfl rfl) (Ev.conv (ev_neg ev_int) rfl) (map_last hL) (fun θ θ=>⟨_,rfl⟩)) ev_int (by decide) (by decide) rfl rfl (fun θ θ=>⟨_,rfl⟩)) evs_nil))) (Nat.le_of_ble_eq_true rfl))
            (op_ne_data huA' (okD_fits hno) (okD_fits (so.pile _ hmem).2.2.2)) rfl) (fun hc s T R=>?_) fun hc s T R=>xs_nil ?_
          · rw [hp0,Bool.false_or,Bool.not_eq_true'] at hc
            rw [hc] at hr
            exact xs_return R ev_none fun v s T b=>hQ' (.ret v) s (out1 hr ((tow R.to).trans T.of_no) b)
          · rw [hp0,Bool.false_or,Bool.not_eq_false'] at hc
            rw [hc,if_pos rfl] at hr
            have hit:=iter_to hit T id
            have hsl:(stripFn (st.names++tail)).length≤sizeLine:=Nat.le_trans (strip_le _) hsx
            have hsn:st.names.length≤sizeLine:=by rw [cps_len] at hsx;omega
            refine xs_cons ⟨Assign_Tuple (eval_tup4 (d1:=.lst (st.pile.dropLast.map thingD)) (d2:=.lst (rs.map D.int)) (d3:=.int (told base st.number).1) (d4:=.str (chopped st.names (stripFn (st.names++tail)))) R hit rfl
              (Ev.conv (ev_slice_lst (lo:=none) (hi:=some (-1)) (st:=none) (by decide) (by have:=so.plen;rw [List.length_map];unfold sizeLine;omega) (ev_var K rfl rfl rfl) pt_none (pt_some (Ev.conv (ev_neg ev_int) rfl)) pt_none (fun θ θ=>⟨_,rfl⟩)) (by rw [slD_init,List.map_dropLast]))
              (ev_item_tup (ds:=[.int (told base st.number).1,.int (told base st.number).2]) (i:=0) (j:=0) (ev_var K rfl rfl rfl) ev_int (by decide) (by decide) rfl rfl (fun θ θ=>⟨_,rfl⟩))
              (ev_slice_str (lo:=none) (hi:=some ((st.names.length:Int)-(stripFn (st.names++tail)).length-1)) hsn (ev_var K rfl rfl rfl) pt_none (pt_some (ev_sub (ev_sub (ev_len_s G K (ev_var K rfl rfl rfl) rfl rfl rfl (by unfold sizeLine at hsn;omega)) (ev_len_s G K (ev_var K rfl rfl rfl) rfl rfl rfl (by unfold sizeLine at hsl;omega))) ev_int)))
              (fun R hit h=>eval_listit G R (.inr rfl) hnN hh' (.head _) hit (by rw [List.length_map];exact hj) (by rw [List.length_map];unfold sizeLine;omega) (ev_bi G K rfl (by kernel_rfl) hv_list rfl) (ev_var K rfl rfl rfl) rfl rfl fun v s' R K b=>h v s' R K (by rw [← hdr,List.map_drop];exact b)) fun v s₆ R b=>?_) rfl rfl⟩
            refine as_tuple (X:=OwnL (runEnv L) it) (H:=fun θ=>True) G (fun θ θ=>.inl hh') (fun θ θ θ θ=>trivial) (.cons (as_name (sto_more (fun θ h=>.inl h) (.local rfl rfl))) (.cons (as_name (sto_more (fun θ h=>.inl h) (.local rfl rfl))) (.cons (as_name (sto_more (fun θ h=>.inl h) (.local rfl rfl))) (.cons (as_name (sto_more (fun θ h=>.inl h) (.local rfl rfl))) .nil)))) rfl _ _ _ _ _ _ _ trivial R b fun s₇ T₇ K₇ R=>?_
            refine xs_nil (hQ' .next _ ⟨_,?_,(R.shed itn').weaken (fun θ θ h=>h) (fun p hp=>.tail _ hp)⟩)
            refine ⟨rest,k+1,popped base tail st rs,rfl,⟨rfl,rfl,rfl,rfl,rfl,rfl,rfl,trivial⟩,fun t h=>ht t (.tail _ h),by omega,popped_ok so ?_,hr⟩
            rw [← hdr,List.length_drop];omega
      · have R₂:=R.step T₂
        refine catch_stop hfr' rfl R₂ z tb hnew hNf hnN hNl hcells (ev_bi G K rfl (by kernel_rfl) hv_stop rfl) fun s₆ R₆ hO S K₆ E''=>?_
        have T₂c:To no sc s₂:=(T₁.of_no.trans R₂.to).less fun p hp=>.inr (hp.elim (hown _) fun q=>by rw [q];exact itc)
        have T₆c:To (fun p=>∃ b,frs outer b∧p=.inl b) sc s₆:=(T₁.of_no.trans R₆.to).less fun p hp=>hp.elim (fun q=>.inr (q.elim (hown _) fun q=>by rw [q];exact itc)) .inl
        have S₆:Slo (frs outer) sc s₆:=(Slo.of_to T₂c fun b hb=>⟨id,(FO.ns hb).2⟩).trans S
        have K₆c:Kp sc s₆:=(Kp.of_to T₂c).trans K₆
        have F₆:FrOk s₆ outer:=FO.slo S₆ fun θ q=>q
        refine xs_cons ⟨wpAny_Return_some (Tuple_ (Calls.spliced_cons ((ev_var (d:=.int st.number) K rfl rfl rfl).use R₆ fun v1 s1 T1 b1=>Calls.spliced_cons ((ev_var (d:=.lst (st.tape.map D.int)) K rfl rfl rfl).use (R₆.step T1) fun v2 s2 T2 b2=>Calls.spliced_cons (eval_strip (n:=n+58) G ⟨hA.d,hA.u⟩ ((R₆.step T1).step T2) ((hO.to T1).to T2) (Nat.le_trans hnl (Nat.le_of_ble_eq_true rfl)) (ev_gl G K rfl (by kernel_rfl) rfl) (ev_bin (ev_var K rfl rfl rfl) (ev_var K rfl rfl rfl) (op_add_str (Nat.le_trans hnl (Nat.le_of_ble_eq_true rfl)))) rfl rfl fun v3 s3 T3 b3=>Calls.spliced_cons ((Ev.conv (d':=.bool st.pile.isEmpty) (ev_cmp (ev_var K rfl rfl rfl) ev_nilL (op_eq_data (A:=A'.mark (some (.ref e))) huA' (okD_things so.pile) okD_nil) rfl) (by rw [eqv_nil,List.isEmpty_map])).use (((R₆.step T1).step T2).step T3) fun v4 s4 T4 b4=>Calls.spliced_nil ?_))))))⟩
        have R4:=(((R₆.step T1).step T2).step T3).step T4
        refine wpAny_newObj_type (hQ' (.ret _) _ (hQ (.ret _) _ ⟨_,rfl,?_,?_,?_,?_⟩)) (Nat.le_of_ble_eq_true rfl)
        · rw [← hr]
          have e:runFn base tail (none::rest) st=runEnd tail st st.pile.isEmpty:=by rw [runFn,show parseV st.tape=none from hp]
          rw [e]
          have TT:=T4.trans (To.push s4 { cls:=.type "tuple", data:=.seq (List.toArray [v1,v2,v3,v4]) })
          exact bears_tup (vs:=[v1,v2,v3,v4]) R4.nex.size ⟨_,Heap.get?_push_size _ rfl,rfl,_,rfl⟩ (all_cons (((b1.to T2).to T3).to TT) (all_cons ((b2.to T3).to TT) (all_cons (b3.to TT) (all_cons (b4.to (To.push s4 _)) all_nil))))
        · exact T₆c.trans ((((T1.trans T2).trans T3).trans T4).trans (To.push s4 _)).of_no
        · exact S₆.trans (Slo.of_to ((((T1.trans T2).trans T3).trans T4).trans (To.push s4 _)) fun b hb=>⟨id,(F₆.ns hb).2⟩)
        · exact K₆c.trans (Kp.of_to ((((T1.trans T2).trans T3).trans T4).trans (To.push s4 _)))
  · obtain ⟨rest,k,st,e,hl,ht,hk,so,hr⟩:=hI
    cases rest with
    | cons _ _=>cases e
    | nil=>
    have R:=R.only _ hl
    have hnl:=names_le so (by omega) htl
    refine xs_nil (xs_return R (ev_tuple (evs_cons (ev_var K rfl rfl rfl) (evs_cons (ev_var K rfl rfl rfl) (evs_cons (ev_callF (n:=n+59) G hA hh' (f_strip G (n:=n+58) (Nat.le_trans hnl (Nat.le_of_ble_eq_true rfl))).h0 (ev_gl G K rfl (by kernel_rfl) rfl) (evs_cons (ev_bin (ev_var K rfl rfl rfl) (ev_var K rfl rfl rfl) (op_add_str (Nat.le_trans hnl (Nat.le_of_ble_eq_true rfl)))) evs_nil) rfl rfl rfl rfl) (evs_cons ev_bool evs_nil)))) (Nat.le_of_ble_eq_true rfl)) fun v s' T b=>out1 hr (R.to.trans T.of_no) b)
theorem hv_zero:bootBuiltins "ZeroDivisionError" = some (.type "ZeroDivisionError"):=by kernel_rfl
section
variable {w:World} {A:Around} {E:Value->Shared->Prop} {s:Shared} {env:Env}
theorem raise_zero {x:Str} {np pos:Pos} {Q:Flow->Shared->Prop} (hh:A.handled=none)
    (hx:wpAny (Mo w) A (eval (.Name x np) env) (fun v s₁=>v=.type "ZeroDivisionError" ∧ ∀ h' e,Heap.MadeExc s₁.heap h' e "ZeroDivisionError" []->E (.ref e) { s₁ with heap:=h' }) E s) :
    wpAny (Mo w) A (exec (.Raise (some (.Name x np)) none pos) env) Q E s:=by
  show wpAny (Mo w) A (do standAt pos;raiseStmt env (some (do let v ← eval (.Name x np) env;standAt pos;pure v)) none) Q E s
  have hc:=excClass_ZeroDivisionError
  have hself:isSubtype (.type "ZeroDivisionError") (.type "ZeroDivisionError")=pure true:=by rw [isSubtype_type];kernel_rfl
  refine wpAny_bind (wpAny_standAt ?_)
  unfold raiseStmt
  dsimp only
  refine wpAny_bind (wpAny_bind (wpAny_mono hx (fun v s₁ h₁=>wpAny_bind (wpAny_standAt (wpAny_pure ?_))) fun θ θ e=>e))
  obtain ⟨rfl,h⟩:=h₁
  refine wpAny_bind (wpAny_pure ?_)
  dsimp only
  refine wpAny_bind (wpAny_holding ?_)
  unfold excFromValue isExcClass
  refine wpAny_bind (wpAny_bind (wpAny_pure ?_))
  simp only [if_true]
  rw [hc.base]
  refine wpAny_pure ?_
  simp only [if_true]
  obtain ⟨hp,g,d,tk,os⟩:=s₁
  refine wpAny_bind (wpAny_call_exc F.excCall_ZeroDivisionError fun h' e hn=>?_)
  obtain ⟨t,he,_,ht⟩:=hn.there
  have hT:({ heap:=h',gens:=g,drawn:=d,toks:=tk,os:=os }:Shared).TypeIs (.ref e) "ZeroDivisionError" := ⟨_,he,rfl⟩
  refine wpAny_bind (wpAny_isInstance hT hc.base ?_)
  simp only [Bool.not_true,Bool.false_eq_true,if_false]
  refine wpAny_pure ?_
  refine wpAny_bind (m:=isType (.type "ZeroDivisionError")) (wpAny_pure ?_)
  rw [if_pos rfl]
  refine wpAny_bind (wpAny_holding ?_)
  unfold raisedFor
  simp only [Bool.false_eq_true,if_false]
  refine wpAny_bind (wpAny_typeOf hT ?_)
  refine wpAny_bind (call_issubclass (issubclass_self hc hself) ?_)
  dsimp only [wants]
  refine wpAny_bind (wpAny_truthy_bool ?_)
  rw [if_pos rfl]
  refine wpAny_pure ?_
  unfold setFlight raiseNew
  refine wpAny_bind (wpAny_bind (wpAny_field (i:=1) (x:=Value.none) he rfl rfl ?_))
  rw [if_neg (by decide)]
  refine wpAny_pure (wpAny_bind (wpAny_handled ?_))
  rw [hh]
  exact wpAny_bind (wpAny_pure (wpAny_throw (h h' e hn)))
end
section
variable {w:World} {s₁ sb s s':Shared} {N:Addr->Prop} {A:Around} {env:Env} {ρ:List (Str × D)} {γ:List (D × Value)} {X Z:Loc->Prop} {E:Value->Shared->Prop}
theorem cell_ne_ns {h:Heap} {a b:Addr} {m:Str->Option Value} {ov:Option Value} (x:h.Ns a m) (y:h.IsCell b ov):b≠a:=fun q=>by
  subst q
  obtain ⟨o',es,ep,ho,hd,_⟩:=x
  obtain ⟨o,ho',hd'⟩:=y
  rw [ho] at ho';cases ho';rw [hd] at hd';cases hd'
theorem Rel.slots (R:Rel s₁ N X sb env ρ γ s) (hf:env.frame=some env.locals) (hNl:¬ N env.locals) (T:To (fun p=>∃ b,frs [env] b∧p=.inl b) s s') (K:Kp s s') (S:Slo (frs [env]) s s'):Rel s₁ N X sb env ρ γ s':=by
  have one_:∀ b,frs [env] b->b=env.locals:=fun b hb=>((frs_cons hf).mp hb).elim id fun q=>by obtain ⟨_,h,_⟩:=frs_iff.mp q;cases h
  obtain ⟨m,hm,_⟩:=id R.ns
  refine R.after T K S (fun θ h=>h) (fun p ⟨b,hb,q⟩=>.inl (by rw [q,one_ b hb];exact R.xloc)) R.xnew (fun θ=>(frs_cons hf).mpr (.inl rfl)) (fun x c k hk hq hc ⟨b,hb,q⟩=>?_) fun a ha ⟨b,hb,q⟩=>hNl (by cases q;rw [one_ _ hb] at ha;exact ha)
  obtain ⟨c',ov,hc',hi,_⟩:=R.cel x k hk hq
  rw [hc] at hc';cases hc'
  cases q
  exact cell_ne_ns hm hi (one_ _ hb)
end
theorem f_idiv0 {w:World} {s₁:Shared} (G:GW w s₁) {n:Nat} {N:Addr->Prop} {A:Around} {sc:Shared} {outer:List Env} {a:Int} {vs:List Value} (hA:Rm (n+1) A) (hh:A.handled=none) (hfr:A.frames=some outer) (FO:FrOk sc outer) (H:At s₁ sc) (nex:Nex N sc) (bvs:BearsAll N sc.heap [.int a,.int 0] vs) :
    codeAny (Mo w) A (.call (.ref 77) ⟨vs,[]⟩) (fun r s'=>∃ e t T,r=.error (.ref e)∧Rz outer no sc "ZeroDivisionError" e t (.ref T) s'∧TbAt s'.heap e T .none) sc:=by
  refine fn_enterX (args:=[.int a,.int 0]) ["a", "b"] G rfl rfl (by kernel_rfl) (fun s vs h=>by obtain ⟨a,b,rfl⟩:=len2 h;exact BindsTo.of_eq rfl) (by decide) (by decide) (by decide) rfl rfl rfl hA H nex bvs fun L s₀ T₀ hA hown K R=>?_
  have hfr':∀ env,(A.deeper env).frames=some (env::outer):=fun env=>by show A.frames.map _=_;rw [hfr];rfl
  refine xs_if R (ts_cmp (ev_var K rfl rfl rfl) ev_int op_eq rfl) (fun hc s T R=>?_) fun hc s T R=>nomatch hc
  refine xs_cons ⟨raise_zero hh ((ev_bi (ρ:=[]) (x := "ZeroDivisionError") G K rfl (by kernel_rfl) hv_zero rfl).use (R.only [] trivial) fun v s₂ T₂ b=>⟨of_val b,fun h' e x=>?_⟩)⟩
  have R₂:=R.step T₂
  obtain ⟨t,he,hnt,ht⟩:=x.there
  have T₃:To no s₂ { s₂ with heap:=h' }:=To.heap (t:=s₂.toks) x.keeps
  have T₁:To no sc { s₂ with heap:=h' }:=(T₀.of_no.trans (R₂.to.trans T₃.of_no)).less fun p hp=>.inr (hown _ hp)
  have T₁':To no sc s₂:=(T₀.of_no.trans R₂.to).less fun p hp=>.inr (hown _ hp)
  have tk:=G.tabOk H
  have z:Rz (envOfC "int_divmod" (makerOf 11).2 L 77 (.ref 76)::outer) no sc "ZeroDivisionError" e t .none { s₂ with heap:=h' }:=by
    refine ⟨T₁.of_no,⟨fun b o hb eb=>?_⟩,Kp.of_to T₁,⟨_,_,he,rfl,rfl,rfl,rfl,rfl⟩,NewAt.to tk T₁' x.new,(fun T q=>nomatch q),⟨NewAt.to tk T₁' hnt,_,ht,rfl,_,rfl⟩,fun env' he=>?_,tk,fun θ q=>q.elim,fun θ q=>q.elim⟩
    · rcases (frs_cons (L:=L) rfl).mp hb with rfl | hb
      · have:NewAt sc (.inl b):=hown _ (.inl rfl)
        rw [show sc.heap.get? b=none from this] at eb;cases eb
      · exact (Slo.of_to T₁ (F:=frs outer) fun c hc=>⟨id,(FO.ns hc).2⟩).k b o hb eb
    · rcases List.mem_cons.mp he with rfl | he
      · obtain ⟨m,hm,_⟩:=(R₂.step T₃).ns
        exact ⟨rfl,_,m,rfl,hm,R₂.ltab⟩
      · exact FO.to T₁ (fun θ θ q=>q) env' he
  exact Rz.leave (by decide) z (hfr' _) rfl (hown _ (.inl rfl)) (.inl rfl) fun s₃ T z tb=>⟨e,t,T,rfl,z,tb⟩
open AutoSeq1 (wpAny_loadPart')
set_option maxHeartbeats 1000000 in
theorem meets_enumT (l:Addr) (items:Array Value) (n:Nat) (dct:Option Addr) (sl:Array (Option Value)) :
    Meets (Builtin.«enumerate.__new__» ⟨[.type "enumerate", .ref l],[]⟩) (fun θ R s=>s.heap.get? l=some { cls:=.type "tuple", dict:=dct,data:=.seq items n,slots:=sl } ∧
      R (.ok (.ret (.ref (s.heap.push { cls:=.type "tuple_iterator", data:=.fields #[.ref l,.int 0 0] }).objs.size)))
        { s with heap:=(s.heap.push { cls:=.type "tuple_iterator", data:=.fields #[.ref l,.int 0 0] }).push { cls:=.type "enumerate", data:=.fields #[.none,.bool false,.ref s.heap.objs.size,rawInt 0,.none,.none] } }):=
  .of_wp fun prog w A R s h=>by
    obtain ⟨hp,g,d,tk,os⟩:=s;obtain ⟨hl,h⟩:=h
    have hsub:=sub_enumerate
    have hL:IsTup (Shared.heap ⟨hp,g,d,tk,os⟩) l items:=⟨_,hl,rfl,n,rfl⟩
    wp_walk using wpAny_loadPart' hl
    refine wpAny_stack_any fun st=>wpAny_pure ?_
    split
    · rename_i c _ _ _ _ _
      cases (c==Value.type "enumerate")
      · wp_walk using wpAny_loadPart' hl,iter_tuple hL
        exact ⟨_,rfl,h⟩
      · wp_walk using wpAny_loadPart' hl,iter_tuple hL
        exact ⟨_,rfl,h⟩
    · wp_walk using wpAny_loadPart' hl,iter_tuple hL
      exact ⟨_,rfl,h⟩
section
variable {w:World} {A:Around} {E:Value->Shared->Prop} {s:Shared}
theorem call_enum_t {l:Addr} {items:Array Value} {Q:Value->Shared->Prop} (hL:IsTup s.heap l items)
    (h:∀ h',IsEnum h' (s.heap.objs.size+1) s.heap.objs.size 0 .none->IsTupIter h' s.heap.objs.size l 0->(∀ b o,s.heap.get? b=some o->h'.get? b=some o)->Q (.ref (s.heap.objs.size+1)) { s with heap:=h' }) :
    wpAny (Mo w) A (call (.type "enumerate") [.ref l]) Q E s:=by
  obtain ⟨⟨c,dct,dt,sl⟩,hl,hc,n,hd⟩:=hL
  replace hc:c=.type "tuple" := hc
  replace hd:dt=.seq items n:=hd
  subst hc hd
  refine callType_new F.called_enumerate (by decide) (F.typeCall_enumerate_1 _) (F.newCall_enumerate_1 _) (fun obj=>F.args_object_init_2 obj _) F.entry_enumerate_new
    (meets_enumT l items n dct sl) ⟨hl,?_⟩
  have hz:(s.heap.push { cls:=.type "tuple_iterator", data:=.fields #[.ref l,.int 0 0] }).objs.size=s.heap.objs.size+1:=Heap.size_push ..
  show _∧_
  rw [hz]
  have he:IsEnum ((s.heap.push { cls:=.type "tuple_iterator", data:=.fields #[.ref l,.int 0 0] }).push
      { cls:=.type "enumerate", data:=.fields #[.none,.bool false,.ref s.heap.objs.size,rawInt 0,.none,.none] }) (s.heap.objs.size+1) s.heap.objs.size 0 .none:=by
    have:=Heap.get?_push_size (s.heap.push { cls:=.type "tuple_iterator", data:=.fields #[.ref l,.int 0 0] })
      (o:={ cls:=.type "enumerate", data:=.fields #[.none,.bool false,.ref s.heap.objs.size,rawInt 0,.none,.none] }) rfl
    rw [hz] at this;exact this
  exact ⟨⟨_,he,rfl⟩,h _ he ⟨_,Heap.get?_push_of_some _ (Heap.get?_push_size _ rfl),rfl,rfl⟩ fun b o x=>Heap.get?_push_of_some _ (Heap.get?_push_of_some _ x)⟩
theorem nextOf_t {it t:Addr} {i:Nat} {items:Array Value} {Q:Value->Shared->Prop} (hit:IsTupIter s.heap it t i) (ht:IsTup s.heap t items)
    (h:wpAny (Mo w) A.in1 (Builtin.«tuple_iterator.__next__» ⟨[.ref it],[]⟩) (fun fin s'=>∃ v,fin=.done (.ret v)∧Q v s') E s):wpAny (Mo w) A (Builtin.SmallTypes.nextOf (.ref it)) Q E s:=by
  unfold Builtin.SmallTypes.nextOf
  refine wpAny_bind (wpAny_callSpecial?_slot (name:=Str.ofString "__next__") hit.typeIs slot_tupleiter_next
    (wpAny_call_entry slot_tupleiter_next hit.typeIs entry_tupleiter_next (wpAny_mono h (fun fin s' q=>?_) fun θ θ z=>z) (args_tupleiter_next _)))
  obtain ⟨v,rfl,q⟩:=q
  exact ⟨v,rfl,wpAny_pure q⟩
theorem draws_t (hh:A.handled=none) (it t:Addr) (hne:t≠it) (items:Array Value) :
    Draws prog w A it [it,t] items.size (fun i v=>items[i]?=some v) (fun i h=>IsTupIter h it t i∧IsTup h t items) where
  live:=fun θ θ st=>let ⟨o,ho,_⟩:=st.1;⟨o,ho⟩
  frame:=fun θ θ θ st hk=>⟨let ⟨o,ho,r⟩:=st.1;⟨o,hk it (by simp) o ho,r⟩,let ⟨o,ho,r⟩:=st.2;⟨o,hk t (by simp) o ho,r⟩⟩
  item:=fun i s Q E hi st hQ=>by
    obtain ⟨o,ho,hc,hd⟩:=id st.1
    obtain ⟨ol,hol,hcl,nl,hdl⟩:=id st.2
    refine nextOf_t st.1 st.2 ?_
    show wpAny _ _ (field (.ref it) 0 >>= _) _ _ s
    refine wpAny_bind (wpAny_field ho hd (x:=.ref t) rfl ?_)
    show wpAny _ _ (if (Value.ref t==Value.none)=true then _ else _) _ _ s
    rw [if_neg (show ¬ ((Value.ref t==Value.none)=true) from Bool.false_ne_true)]
    show wpAny _ _ (field (.ref it) 1 >>= _) _ _ s
    refine wpAny_bind (wpAny_field ho hd (x:=.int i 0) rfl ?_)
    show wpAny _ _ (seqItems? (.ref t) >>= _) _ _ s
    refine wpAny_bind (wpAny_seqItems hol hdl ?_)
    have hx:items[i]?=some items[i]:=by simp [hi]
    simp only [Int.toNat_natCast,hx]
    have hsb:=Heap.SameBut.update s.heap it (Obj.mapFields fun x=>x.setIfInBounds 1 (rawInt ((i:Int)+1)))
    refine wpAny_bind (wpAny_setField ho hd (by simp) (wpAny_pure ⟨_,rfl,hQ _ _ s.toks hx ⟨⟨_,Heap.get?_update_self _ ho (Obj.isFreed_of_fields (Obj.data_mapFields hd _)),(Obj.cls_mapFields ..).trans hc,by
      rw [Obj.data_mapFields hd];simp [rawInt]⟩,ol,(hsb.2 t hne).trans hol,hcl,nl,hdl⟩ hsb⟩))
  done:=fun s Q E st hE=>by
    obtain ⟨o,ho,hc,hd⟩:=id st.1
    obtain ⟨ol,hol,hcl,nl,hdl⟩:=id st.2
    refine nextOf_t st.1 st.2 ?_
    show wpAny _ _ (field (.ref it) 0 >>= _) _ _ s
    refine wpAny_bind (wpAny_field ho hd (x:=.ref t) rfl ?_)
    show wpAny _ _ (if (Value.ref t==Value.none)=true then _ else _) _ _ s
    rw [if_neg (show ¬ ((Value.ref t==Value.none)=true) from Bool.false_ne_true)]
    show wpAny _ _ (field (.ref it) 1 >>= _) _ _ s
    refine wpAny_bind (wpAny_field ho hd (x:=.int items.size 0) rfl ?_)
    show wpAny _ _ (seqItems? (.ref t) >>= _) _ _ s
    refine wpAny_bind (wpAny_seqItems hol hdl ?_)
    have hx:items[items.size]?=none:=by simp
    simp only [Int.toNat_natCast,hx]
    refine wpAny_bind (wpAny_rule (wpAny_bind (wpAny_setField ho hd (by simp) ?_)))
    show wpAny _ _ (newExc (.type "StopIteration") [] >>= _) _ _ _
    refine wpAny_bind ?_
    simp only [newExc,newTuple]
    refine wpAny_bind (wpAny_newObj_type ?_ (by size_fits))
    refine wpAny_bind (m:=firstArgMember _ _) (wpAny_of_eq (a:=Value.none) (by first | rfl | (simp only [firstArgMember];rfl)) ?_)
    refine wpAny_newObj_type ?_ (by size_fits)
    simp only [raiseNew]
    refine wpAny_bind (wpAny_handled ?_)
    rw [show A.in1.handled=none from hh]
    refine wpAny_bind (wpAny_pure (wpAny_throw ?_))
    exact hE _ _ (((Heap.SameBut.update ..).extBut.push _).push _) ⟨_,Heap.get?_push_size _ rfl,rfl⟩
end
section
variable {w:World} {s₁:Shared} {A:Around} {env:Env} {ρ:List (Str × D)} {N:Addr->Prop} {X:Loc->Prop}
theorem inner_tup {N:Addr->Prop} {all:List D} {l it:Addr}:Inner w N [(.tup all,.ref l)] all it (fun i h=>IsTupIter h it l i) where
  obj:=fun i h ⟨o,ho,hc,_⟩=>⟨o,_,ho,hc,by decide,by decide,by decide⟩
  frame:=fun i h h' ⟨o,ho,r⟩ k=>⟨o,k o ho,r⟩
  step:=fun A s i e oe hh hi K hei he hce=>by
    obtain ⟨a,vs,eq,hn,hl,ba⟩:=of_tup (K _ (.head _))
    cases eq
    have hli:l≠it:=fun q=>by
      subst q
      obtain ⟨o,ho,hc,_⟩:=hi
      obtain ⟨o',ho',hc',_⟩:=hl
      rw [ho] at ho';cases ho';rw [hc] at hc';exact ty_ne (by decide) hc'
    have hel:e≠l:=fun q=>by
      subst q
      obtain ⟨o',ho',hc',_⟩:=hl
      rw [he] at ho';cases ho';rw [hce] at hc';exact ty_ne (by decide) hc'
    have hlen:=all_length ba
    have Dr:=draws_t (w:=w) (A:=A) hh it l hli vs.toArray
    rw [List.size_toArray,hlen] at Dr
    refine ⟨_,_,_,Dr,⟨hi,hl⟩,by simp [hei,hel],fun h st=>st.1,fun x d hd hx=>?_⟩
    obtain ⟨v,hv,b⟩:=all_get ba hd
    have:vs.toArray[i]?=some x:=hx
    rw [List.getElem?_toArray,hv] at this
    cases this
    exact b
theorem call_enum_tup (G:GW w s₁) {n:Nat} {all:List D}:∀ N s vs,BearsAll N s.heap [.tup all] vs->At s₁ s->Nex N s->wpAny (Mo w) A (call (.type "enumerate") vs) (fun v s'=>To no s s'∧Itb w s₁ N n isTup (enumD 0 all) s v s') (fun θ θ=>False) s:=fun N s vs b H nex=>by
  obtain ⟨v,rfl,b'⟩:=one_arg b
  obtain ⟨l,us,rfl,hn,hl,ba⟩:=of_tup b'
  refine call_enum_t hl fun h' he hit hk=>⟨To.heap (t:=s.toks) hk,?_⟩
  refine itb_enum G (nd:=[(.tup all,.ref l)]) (In:=fun i h=>IsTupIter h s.heap.objs.size l i) (Nat.succ_ne_self _) (newAt_ge (Nat.le_succ _)) (newAt_ge (Nat.le_refl _)) ⟨_,he⟩ hit (fun p hp=>?_) fun N'=>inner_tup
  rw [List.mem_singleton] at hp;subst hp
  exact b'.to (To.heap (t:=s.toks) hk)
theorem evit_enumT (G:GW w s₁) (K:EnvOk env) {n:Nat} {e:Expr} {rp rpos:Pos} {all:List D} (x:Ev w s₁ A env ρ e (.tup all)) (hl:env.kindOf "enumerate" = some .globalImplicit)
    (hc:eval (.Call (.Name "enumerate" rp) [e] [] rpos) env=(do callWith rpos (← eval (.Name "enumerate" rp) env) [] (backTo rpos (starEach [e] env)) [])) (hs:starEach [e] env=[(false,eval e env)]) :
    EvIt w s₁ A env ρ n isTup (.Call (.Name "enumerate" rp) [e] [] rpos) (enumD 0 all):=by
  have hb:backTo rpos (starEach [e] env)=[(false,eval e env)]:=by rw [hs];rfl
  exact evit_callT G (ev_bi G K hl (by kernel_rfl) hv_enumerate rfl) (ds:=[.tup all]) (by rw [hb];exact evs_cons x evs_nil) hc (by rw [hs];rfl) (by rw [hb];rfl) (call_enum_tup G)
theorem draw_lst {it t:Addr} {items:Array Value} {E:Value->Shared->Prop} (hne:t≠it):∀ (n i:Nat) (s:Shared) (Q:List Value->Shared->Prop),s.heap.IsListIter it t i->s.heap.IsList t items->i+n≤items.size ->
    (∀ h',h'.IsListIter it t (i+n)->Heap.SameBut it s.heap h'->Q ((items.toList.drop i).take n) { s with heap:=h' })->wpAny (Mo w) A (draw (.ref it) n) Q E s
  | 0,i,s,Q,hit,_,_,hQ=>by
    show wpAny _ _ (pure []) Q E s
    exact wpAny_pure (by simpa using hQ s.heap hit (Heap.SameBut.refl ..))
  | n+1,i,s,Q,hit,ht,hle,hQ=>by
    have hlt:i<items.size:=by omega
    show wpAny _ _ (pyNext (.ref it) >>= _) Q E s
    refine wpAny_bind (wpAny_pyNext_list_item hit ht (x:=items[i]) (by simp [hlt]) fun h₁ hit₁ hs₁=>?_)
    refine wpAny_bind (wpAny_holding (draw_lst hne n (i+1) _ _ hit₁ (ht.extBut hs₁.extBut hne) (by omega) fun h₂ hit₂ hs₂=>wpAny_pure ?_))
    have hd:items.toList.drop i=items[i]::items.toList.drop (i+1):=by simp [List.drop_eq_getElem_cons,hlt]
    have:=hQ h₂ (by rw [show i+(n+1)=i+1+n by omega];exact hit₂) (hs₁.trans hs₂)
    rw [hd,List.take_succ_cons] at this
    exact this
theorem unpack_lst (G:GW w s₁) {s:Shared} {ds:List D} {v:Value} {n:Nat} (hn:n=ds.length) (b:Bears N s.heap (.lst ds) v) (H:At s₁ s) (hh:A.handled=none) {Q:List Value->Shared->Prop} {E:Value->Shared->Prop}
    (h:∀ vs s',To no s s'->BearsAll N s'.heap ds vs->Q vs s'):wpAny (Mo w) A (unpackItems v n none) Q E s:=by
  obtain ⟨t,vs,rfl,hnN,ht,ba⟩:=of_lst b
  have hlen:=all_length ba
  have hsz:n=vs.toArray.size:=by rw [hn,List.size_toArray,hlen]
  rw [hsz]
  have hlt:t≠s.heap.objs.size:=by obtain ⟨o,ho,_⟩:=ht;exact Nat.ne_of_lt (Heap.lt_size ho)
  unfold unpackItems
  refine wpAny_bind ?_
  unfold notIterableAtAll
  refine wpAny_bind (wpAny_specialOf ht.typeIs slot_list_iter.lookup ?_)
  refine wpAny_pure ?_
  simp only [Bool.false_eq_true,if_false]
  refine wpAny_bind (wpAny_holding (wpAny_pyIter_list ht ?_))
  have T₁:To no s { s with heap:=s.heap.push { cls:=.type "list_iterator", data:=.fields #[.ref t,.int 0 0] } }:=To.push _ _
  have hnt:s.heap.objs.size∉tabs:=fun q=>by
    obtain ⟨us,e⟩:=G.tabOk H _ q
    exact Nat.lt_irrefl _ (Heap.lt_size e)
  have htp:(s.heap.push { cls:=.type "list_iterator", data:=.fields #[.ref t,.int 0 0] }).IsList t vs.toArray:=by
    obtain ⟨o,ho,r⟩:=ht;exact ⟨o,Heap.get?_push_of_some _ ho,r⟩
  refine wpAny_bind (wpAny_holding (draw_lst hlt vs.toArray.size 0 _ _ ⟨_,Heap.get?_push_size _ rfl,rfl,rfl⟩ htp (by omega) fun h₁ hit₁ hs₁=>?_))
  have hall:List.take vs.toArray.size (List.drop 0 vs.toArray.toList)=vs:=by simp
  rw [hall]
  rw [if_neg (by simp)]
  have T₂:To no s { s with heap:=h₁ }:=To.forget T₁ (X:=one s.heap.objs.size) (To.but (s:={ s with heap:=s.heap.push { cls:=.type "list_iterator", data:=.fields #[.ref t,.int 0 0] } }) (t:=s.toks) hs₁ rfl (turns_cls hnt (Heap.get?_push_size _ rfl) rfl (by decide))) fun l q=>by rw [q];exact newAt_ge (Nat.le_refl _)
  have ht₁:h₁.IsList t vs.toArray:=htp.extBut hs₁.extBut hlt
  refine wpAny_bind (wpAny_holding (wpAny_pyNext_list_end hh hit₁ ht₁ (by simp) fun h₂ he₂=>?_))
  simp only [Option.isSome_none,Bool.false_eq_true,if_false]
  have hnt₂:Turns { s with heap:=h₁ } s.heap.objs.size:=by
    obtain ⟨oi,hoi,hci,_⟩:=hit₁
    exact turns_cls hnt hoi hci (by decide)
  have T₃:To no s { s with heap:=h₂ }:=To.forget T₂ (X:=one s.heap.objs.size) (To.ext (s:={ s with heap:=h₁ }) (t:=s.toks) he₂ rfl hnt₂) fun l q=>by rw [q];exact newAt_ge (Nat.le_refl _)
  exact wpAny_pure (h vs _ T₃ (ba.to T₃))
theorem as_tupleL (G:GW w s₁) (hh:A.handled=none) {elts:List Expr} {k:Nat} {p:Pos} {ds:List D} {bs:List (Str × D)} (y:AsL w s₁ N A env X (fun θ=>True) ((assignEach elts env).map (·.2)) ds bs)
    (hst:(assignEach elts env).findIdx? (·.1)=none):As w s₁ N A env X (fun θ=>True) (assign (.Tuple elts k p) env) (.lst ds) bs:=fun sb ρ γ s v Q E h R b hQ=>by
  rw [arm_assign_Tuple]
  refine wpAny_bind (wpAny_standAt ?_)
  unfold unpack
  rw [hst]
  have hl:(assignEach elts env).length=ds.length:=by rw [← y.length,List.length_map]
  refine wpAny_bind (wpAny_holding (unpack_lst G hl b R.inv hh fun vs s' T ba=>?_))
  exact y.run (fun θ θ θ θ=>trivial) trivial (R.step T) ba fun s'' T' K' R'=>hQ s'' (T.of_no.trans T') ((Kp.of_to T).trans K') R'
end
noncomputable def bitsL:Nat->List (List Int)
  | 0=>[[]]
  | n+1=>(bitsL n).flatMap fun x=>[0::x,1::x]
noncomputable def allWords:List (List Int):=bitsL 2++bitsL 3++bitsL 4++[[0,0,1,1,0],[1,0,1,1,0],[0,1,0,0,1],[1,1,0,0,1]]
noncomputable def joinP (p q:P2):P2:=(if p.2+q.1<p.1 then p.2+q.1 else p.1,p.2+q.2)
noncomputable def rowP (a b:P2) (x:List Int):P2:=x.foldl (fun p k=>joinP p (pick a b k)) (0,0)
noncomputable def smallRows:List P2:=[(0,1),(-1,-1),(0,2),(0,0),(-1,0),(-2,-2),(0,3),(-1,1),(-2,-1),(-3,-3)]
noncomputable def wrd0 (f b:List Int):List Int:=f++[0,1]++b
noncomputable def wrd1 (f b:List Int):List Int:=f++[1,0]++b
noncomputable def lens (x:List Int) (a c p0 p1:Int):Int:=x.foldl (fun n k=>n+(pick a c k+(pick a c k-pick p0 p1 k))) 0
noncomputable def farOk' (f b:List Int) (l p0 p1 a c:Int):Bool:=
  (l==0||l==1)&&decide (p0.natAbs≤100)&&decide (p1.natAbs≤100)&&decide (0≤a)&&decide (0≤c)&&decide (0≤a-p0)&&decide (0≤c-p1)&&decide (lens (wrd0 f b) a c p0 p1≤300)&&decide (lens (wrd1 f b) a c p0 p1≤300) &&
  ((rowP (-a,-p0) (-c,-p1) (wrd0 f b)).1 != (rowP (-a,-p0) (-c,-p1) (wrd1 f b)).1)
noncomputable def farOk (f b:List Int) (l p0 p1:Int):Bool:=farOk' f b l p0 p1 (apLack [wrd0 f b,wrd1 f b] l p0 p1 0) (apLack [wrd0 f b,wrd1 f b] l p0 p1 1)
noncomputable def pairOk (f b:List Int):Bool:=goOk f b four&&match rayFn f b with
  | none=>smallRows.all fun p=>smallRows.all fun q=>rowP p q (wrd0 f b)==rowP p q (wrd1 f b)
  | some (l,p0,p1)=>farOk f b l p0 p1
open Builtin Builtin.Str
noncomputable def chAt (x:Str) (c hi i:Nat):Bool:=decide (i+1≤hi)&&decide (x.cps.toList[i]?=some c)
theorem sub_at {x:Str} {c hi i:Nat} (h:hi≤x.length):(i+(⟨#[c]⟩:Str).length≤hi∧subAt x ⟨#[c]⟩ i=true)↔chAt x c hi i=true:=by
  have:=StrLaws.subAt_one x c i
  unfold chAt
  rw [Bool.and_eq_true,decide_eq_true_eq,decide_eq_true_eq]
  show (i+1≤hi∧_)↔_
  have e:(i+1≤x.length∧subAt x ⟨#[c]⟩ i=true)↔x.cps.toList[i]?=some c:=this
  exact ⟨fun h'=>⟨h'.1,e.mp ⟨Nat.le_trans h'.1 h,h'.2⟩⟩,fun h'=>⟨h'.1,(e.mpr h'.2).2⟩⟩
theorem occ_full (x y:Str) (hi:Nat):∀ (l:List Nat) (st:Array Nat × Nat),1≤st.fst.size->(forIn l st (StrLaws.occBody x y hi 1)).run.fst=st.fst
  | [],st,_=>rfl
  | a::l,st,h=>by
    rw [List.forIn_cons]
    unfold StrLaws.occBody
    rw [if_neg fun q=>absurd q.1.1.1 (Nat.not_lt.mpr h)]
    exact occ_full x y hi l st h
theorem occ_find (x:Str) (c hi:Nat) (hx:hi≤x.length):∀ (l:List Nat) (free:Nat),(∀ i∈l,free≤i)->(forIn l ((#[]:Array Nat),free) (StrLaws.occBody x ⟨#[c]⟩ hi 1)).run.fst.toList=(l.find? (chAt x c hi)).toList
  | [],_,_=>rfl
  | a::l,free,hf=>by
    rw [List.forIn_cons,List.find?_cons]
    unfold StrLaws.occBody
    cases hc:chAt x c hi a with
    | true=>
      obtain ⟨h1,h2⟩:=(sub_at hx).mpr hc
      rw [if_pos ⟨⟨⟨Nat.zero_lt_one,hf a (.head _)⟩,h1⟩,h2⟩]
      exact congrArg Array.toList (occ_full x ⟨#[c]⟩ hi l _ (Nat.le_refl 1))
    | false=>
      rw [if_neg fun q=>absurd ((sub_at hx).mp ⟨q.1.2,q.2⟩) (by rw [hc];decide)]
      exact occ_find x c hi hx l free fun i h=>hf i (.tail _ h)
theorem find_eq (x:Str) (c hi:Nat) (hx:hi≤x.length):findIn x ⟨#[c]⟩ 0 hi=match (List.range' 0 (hi+1)).find? (chAt x c hi) with | some k=>(k:Int) | none=>-1:=by
  unfold findIn
  rw [StrLaws.occ_eq,occ_find x c hi hx _ 0 fun θ θ=>Nat.zero_le _,Nat.sub_zero]
  cases (List.range' 0 (hi+1)).find? (chAt x c hi)<;>rfl
theorem last_find (x:Str) (c hi:Nat) (hx:hi≤x.length):∀ (l:List Nat) (init:Option Nat),(forIn (m:=Id) l init fun i last=>if i+(⟨#[c]⟩:Str).length≤hi∧subAt x ⟨#[c]⟩ i=true then pure (ForInStep.yield (some i)) else pure (ForInStep.yield last)).run=(l.reverse.find? (chAt x c hi)).or init
  | [],init=>rfl
  | a::l,init=>by
    rw [List.forIn_cons,List.reverse_cons,List.find?_append]
    cases hc:chAt x c hi a with
    | true=>
      rw [if_pos ((sub_at hx).mpr hc)]
      refine (last_find x c hi hx l (some a)).trans ?_
      rw [List.find?_cons,hc]
      cases l.reverse.find? (chAt x c hi)<;>rfl
    | false=>
      rw [if_neg fun q=>absurd ((sub_at hx).mp q) (by rw [hc];decide)]
      refine (last_find x c hi hx l init).trans ?_
      rw [List.find?_cons,hc]
      cases l.reverse.find? (chAt x c hi)<;>rfl
theorem rfind_eq (x:Str) (c hi:Nat) (hx:hi≤x.length):rfindIn x ⟨#[c]⟩ 0 hi=match (List.range' 0 (hi+1)).reverse.find? (chAt x c hi) with | some k=>(k:Int) | none=>-1:=by
  have:lastOccurrence x ⟨#[c]⟩ 0 hi=(List.range' 0 (hi+1)).reverse.find? (chAt x c hi):=by
    have:=last_find x c hi hx (List.range' 0 (hi+1)) none
    rw [Option.or_none] at this
    rw [← this]
    unfold lastOccurrence
    simp
  unfold rfindIn
  rw [this]
  try (cases (List.range' 0 (hi+1)).reverse.find? (chAt x c hi)<;>rfl)
theorem range_split {n k:Nat} (h:k<n):List.range' 0 n=List.range' 0 k++k::List.range' (k+1) (n-k-1):=by
  have e:n=k+(n-k-1+1):=by rw [Nat.sub_add_cancel (Nat.sub_pos_of_lt h)];exact (Nat.add_sub_cancel' (Nat.le_of_lt h)).symm
  rw [e,← List.range'_append_1,Nat.zero_add,List.range'_succ,← e]
theorem find_at {x:Str} {c hi k:Nat} (hx:hi≤x.length) (hk:k<hi) (h:x.cps.toList[k]?=some c) (hn:∀ i,i<k->x.cps.toList[i]?≠some c):findIn x ⟨#[c]⟩ 0 hi=k:=by
  rw [find_eq x c hi hx,range_split (Nat.lt_succ_of_lt hk),List.find?_append,List.find?_eq_none.mpr,List.find?_cons]
  · have:chAt x c hi k=true:=by unfold chAt;rw [h];exact Bool.and_eq_true_iff.mpr ⟨decide_eq_true hk,decide_eq_true rfl⟩
    rw [this];rfl
  · intro i hi' q
    have:i<k:=by simpa using (List.mem_range'.mp hi')
    unfold chAt at q
    rw [Bool.and_eq_true,decide_eq_true_eq,decide_eq_true_eq] at q
    exact hn i this q.2
theorem find_no {x:Str} {c hi:Nat} (hx:hi≤x.length) (hn:∀ i,i<hi->x.cps.toList[i]?≠some c):findIn x ⟨#[c]⟩ 0 hi=-1:=by
  rw [find_eq x c hi hx,List.find?_eq_none.mpr]
  intro i _ q
  unfold chAt at q
  rw [Bool.and_eq_true,decide_eq_true_eq,decide_eq_true_eq] at q
  exact hn i q.1 q.2
theorem rfind_at {x:Str} {c hi k:Nat} (hx:hi≤x.length) (hk:k<hi) (h:x.cps.toList[k]?=some c) (hn:∀ i,k<i->i<hi->x.cps.toList[i]?≠some c):rfindIn x ⟨#[c]⟩ 0 hi=k:=by
  rw [rfind_eq x c hi hx,range_split (Nat.lt_succ_of_lt hk),List.reverse_append,List.reverse_cons,List.append_assoc,List.find?_append,List.find?_eq_none.mpr,List.singleton_append,List.find?_cons]
  · have:chAt x c hi k=true:=by unfold chAt;rw [h];exact Bool.and_eq_true_iff.mpr ⟨decide_eq_true hk,decide_eq_true rfl⟩
    rw [this];rfl
  · intro i hi' q
    have:k<i:=by
      obtain ⟨j,_,e⟩:=List.mem_range'.mp (List.mem_reverse.mp hi')
      omega
    unfold chAt at q
    rw [Bool.and_eq_true,decide_eq_true_eq,decide_eq_true_eq] at q
    exact hn i this q.1 q.2
theorem rfind_no {x:Str} {c hi:Nat} (hx:hi≤x.length) (hn:∀ i,i<hi->x.cps.toList[i]?≠some c):rfindIn x ⟨#[c]⟩ 0 hi=-1:=by
  rw [rfind_eq x c hi hx,List.find?_eq_none.mpr]
  intro i _ q
  unfold chAt at q
  rw [Bool.and_eq_true,decide_eq_true_eq,decide_eq_true_eq] at q
  exact hn i q.1 q.2
theorem s10:Str.ofString "\n" = ⟨#[10]⟩:=by decide +kernel
theorem s58:Str.ofString ":" = ⟨#[58]⟩:=by decide +kernel
theorem s46:Str.ofString "." = ⟨#[46]⟩:=by decide +kernel
theorem from_nat (n k:Nat):fromIndex n (k:Int)=k:=by unfold fromIndex;rw [if_neg (by omega),Int.max_eq_right (by omega)];rfl
theorem len_cps (x:Str):x.length=x.cps.toList.length:=by unfold Str.length;simp
theorem slice_seg {x:Str} {i j:Nat} (h1:i≤j) (h2:j≤x.length):(Txt.slice x (some (i:Int)) (some (j:Int))).cps.toList=(x.cps.toList.drop i).take (j-i):=by
  have:=slice_closesL (x:=x) (i:=i) (j:=j) (Int.natCast_nonneg _) (by omega) (by omega)
  rw [beq_iff_eq.mp this]
  show ((x.cps.toList.drop i).take ((j:Int)-i).toNat)=_
  rw [Int.toNat_sub]
theorem slice_init {x:Str} {j:Nat} (h2:j≤x.length):(Txt.slice x none (some (j:Int))).cps.toList=x.cps.toList.take j:=by
  have:=slice_closes_toL (x:=x) (j:=j) (Int.natCast_nonneg _) (by omega)
  rw [beq_iff_eq.mp this]
  show ((x.cps.toList.drop (0:Int).toNat).take ((j:Int)-0).toNat)=_
  rw [show ((j:Int)-0).toNat=j by omega];rfl
theorem slice_tail {x:Str} {i:Nat} (h2:i≤x.length):(Txt.slice x (some (i:Int)) none).cps.toList=x.cps.toList.drop i:=by
  have:=slice_closes_fromL (x:=x) (i:=i) (b:=x.length) (Int.natCast_nonneg _) (by omega) rfl
  rw [beq_iff_eq.mp this]
  show ((x.cps.toList.drop i).take ((x.length:Int)-i).toNat)=_
  rw [List.take_of_length_le]
  rw [List.length_drop,len_cps,Int.toNat_sub];exact Nat.le_refl _
theorem strip_last {x:Str} {P n T:List Nat} (hx:x.cps.toList=(P++n)++T) (hP:P=[]∨∃ P',P=P'++[46]) (hc:∀ c,c∈P++n->c≠10∧c≠58) (hn:46∉n) (hT:T=[]∨∃ c r,T=c::r∧(c=10∨c=58)):(stripFn x).cps.toList=n:=by
  have hl:x.length=(P++n).length+T.length:=by rw [len_cps,hx,List.length_append]
  have hk:(P++n).length≤x.length:=by omega
  have hin:∀ i,i<(P++n).length->∀ c,x.cps.toList[i]?=some c->c≠10∧c≠58:=fun i hi c h=>by
    rw [hx,List.getElem?_append_left hi] at h
    exact hc c (List.mem_of_getElem? h)
  have key:∃ e₁:Nat,(if findIn x ⟨#[10]⟩ 0 x.length≥0 then findIn x ⟨#[10]⟩ 0 x.length else (x.length:Int))=e₁∧e₁≤x.length∧(if findIn x ⟨#[58]⟩ 0 e₁≥0 then findIn x ⟨#[58]⟩ 0 e₁ else (e₁:Int))=(P++n).length:=by
    have hfind:∃ e₁:Nat,(if findIn x ⟨#[10]⟩ 0 x.length≥0 then findIn x ⟨#[10]⟩ 0 x.length else (x.length:Int))=e₁∧e₁≤x.length∧(P++n).length≤e₁:=by
      cases hf:(x.cps.toList.findIdx? (·==10)) with
      | none=>
        rw [find_no (Nat.le_refl _) fun i hi q=>by
          have:=List.findIdx?_eq_none_iff.mp hf 10 (List.mem_of_getElem? q)
          simp at this]
        exact ⟨x.length,rfl,Nat.le_refl _,hk⟩
      | some k=>
        obtain ⟨hlt,h1,h2⟩:=List.findIdx?_eq_some_iff_getElem.mp hf
        have hkx:k<x.length:=by rw [len_cps];exact hlt
        have hg:x.cps.toList[k]?=some 10:=by rw [List.getElem?_eq_getElem hlt];exact congrArg some (beq_iff_eq.mp h1)
        rw [find_at (Nat.le_refl _) hkx hg fun i hi q=>by
          obtain ⟨hlt',e⟩:=List.getElem?_eq_some_iff.mp q
          have:=h2 i hi
          rw [e] at this
          exact this rfl]
        refine ⟨k,if_pos (Int.natCast_nonneg _),Nat.le_of_lt hkx,Nat.le_of_not_lt fun q=>?_⟩
        exact (hin k q 10 hg).1 rfl
    obtain ⟨e₁,he,hle,hge⟩:=hfind
    refine ⟨e₁,he,hle,?_⟩
    rcases hT with rfl | ⟨c,r,rfl,rfl | rfl⟩
    · have:e₁=(P++n).length:=by rw [List.length_nil] at hl;omega
      rw [find_no hle fun i hi q=>(hin i (by omega) 58 q).2 rfl,if_neg (by decide),this]
    · have hg:x.cps.toList[(P++n).length]?=some 10:=by rw [hx,List.getElem?_append_right (Nat.le_refl _),Nat.sub_self];rfl
      have hlt:(P++n).length<x.length:=by rw [List.length_cons] at hl;omega
      rw [find_at (Nat.le_refl _) hlt hg fun i hi q=>(hin i hi 10 q).1 rfl,if_pos (Int.natCast_nonneg _)] at he
      have:e₁=(P++n).length:=by omega
      rw [find_no hle fun i hi q=>(hin i (by omega) 58 q).2 rfl,if_neg (by decide),this]
    · have hg:x.cps.toList[(P++n).length]?=some 58:=by rw [hx,List.getElem?_append_right (Nat.le_refl _),Nat.sub_self];rfl
      have hlt:(P++n).length<e₁:=by
        rcases Nat.lt_or_eq_of_le hge with q | q
        · exact q
        · exfalso
          rw [← q] at he
          have hlt:(P++n).length<x.length:=by rw [List.length_cons] at hl;omega
          cases hf:(x.cps.toList.findIdx? (·==10)) with
          | none=>
            rw [find_no (Nat.le_refl _) fun i hi q=>by
              have:=List.findIdx?_eq_none_iff.mp hf 10 (List.mem_of_getElem? q)
              simp at this,if_neg (by decide)] at he
            omega
          | some k=>
            obtain ⟨hlt',h1,h2⟩:=List.findIdx?_eq_some_iff_getElem.mp hf
            have hgk:x.cps.toList[k]?=some 10:=by rw [List.getElem?_eq_getElem hlt'];exact congrArg some (beq_iff_eq.mp h1)
            rw [find_at (Nat.le_refl _) (by rw [len_cps];exact hlt') hgk fun i hi q=>by
              obtain ⟨hlt',e⟩:=List.getElem?_eq_some_iff.mp q
              have:=h2 i hi
              rw [e] at this
              exact this rfl,if_pos (Int.natCast_nonneg _)] at he
            have:k=(P++n).length:=by omega
            rw [this,hg] at hgk
            cases hgk
      rw [find_at hle hlt hg fun i hi q=>(hin i hi 58 q).2 rfl,if_pos (Int.natCast_nonneg _)]
  obtain ⟨e₁,he₁,hle,he₂⟩:=key
  have hst:(if rfindIn x ⟨#[46]⟩ 0 (P++n).length≥0 then rfindIn x ⟨#[46]⟩ 0 (P++n).length+1 else 0)=(P.length:Int):=by
    rcases hP with rfl | ⟨P',rfl⟩
    · rw [rfind_no hk fun i hi q=>by
        rw [hx,List.getElem?_append_left hi] at q
        exact hn (List.mem_of_getElem? q)]
      rfl
    · have hg:x.cps.toList[P'.length]?=some 46:=by rw [hx,List.append_assoc,List.append_assoc,List.getElem?_append_right (Nat.le_refl _),Nat.sub_self];rfl
      have hlt:P'.length<(P'++[46]++n).length:=by simp
      rw [rfind_at hk hlt hg fun i h1 h2 q=>by
        rw [hx,List.getElem?_append_left h2,List.getElem?_append_right (by simp;omega)] at q
        exact hn (List.mem_of_getElem? q),if_pos (Int.natCast_nonneg _),List.length_append]
      rfl
  unfold stripFn
  rw [s10,s58,s46]
  dsimp only
  rw [he₁,from_nat,show fromIndex x.length 0=0 from from_nat x.length 0,Nat.min_eq_left hle,he₂,from_nat,Nat.min_eq_left hk,hst,slice_seg (by rw [List.length_append];omega) hk,hx,List.append_assoc,List.drop_left,List.length_append,Nat.add_sub_cancel_left,List.take_left]
noncomputable abbrev Lc (x:Str):List Nat:=x.cps.toList
noncomputable def flat (l:List Str):List Nat:=(l.map Lc).flatten
theorem flat_snoc (l:List Str) (x:Str):flat (l++[x])=flat l++Lc x:=by unfold flat;rw [List.map_append,List.flatten_append];simp
theorem glue_fold:∀ (l:List Str) (acc:Array Nat),(l.foldl (fun acc p=>acc++(⟨#[]⟩:Str).cps++p.cps) acc).toList=acc.toList++flat l
  | [],acc=>by simp [flat]
  | x::r,acc=>by rw [List.foldl_cons,glue_fold r];simp [flat,Lc]
theorem glue_flat (l:List Str):Lc (Builtin.Str.glued ⟨#[]⟩ l)=flat l:=by
  unfold Builtin.Str.glued Lc
  cases l with
  | nil=>rfl
  | cons x r=>exact (glue_fold r x.cps).trans (by simp [flat,Lc])
noncomputable def toks:Bool->List Nat->List (List Nat)
  | e,[]=>if e then [[92]] else []
  | e,c::r=>if e then [92,c]::toks false r else if c==92 then toks true r else [c]::toks false r
theorem esc_toks:∀ (cs:List Nat) (i:Nat) (e:Bool),(escP i e cs).map (fun p=>p.2.cps.toList)=toks e cs
  | [],i,e=>by cases e<;>rfl
  | c::r,i,e=>by
    unfold escP toks
    cases e with
    | true=>exact congrArg ([92,c]::·) (esc_toks r (i+1) false)
    | false=>
      cases hc:c==92 with
      | true=>exact esc_toks r (i+1) true
      | false=>exact congrArg ([c]::·) (esc_toks r (i+1) false)
noncomputable def sqM:Option (List (List Nat))->List (List Nat)->List (List Nat)
  | none,[]=>[]
  | some p,[]=>p
  | none,t::r=>if t==[34] then sqM (some [t]) r else t::sqM none r
  | some p,t::r=>if t==[34] then sqM none r else sqM (some (p++[t])) r
noncomputable def escI (e:Bool):List Nat:=if e then [92] else []
noncomputable def finS (a:Str) (r:Int × List Str):List Nat:=flat r.2++(Lc a).drop r.1.toNat
theorem slice_mid {a:Str} {A B T:List Nat} (h:Lc a=A++B++T):Lc (Txt.slice a (some (A.length:Int)) (some ((A.length+B.length:Nat):Int)))=B:=by
  have hl:a.length=A.length+B.length+T.length:=by rw [len_cps,show a.cps.toList=_ from h];simp [Nat.add_assoc]
  refine (slice_seg (Nat.le_add_right _ _) (by rw [hl];exact Nat.le_add_right _ _)).trans ?_
  rw [show a.cps.toList=_ from h,List.append_assoc,List.drop_left,Nat.add_sub_cancel_left,List.take_left]
theorem ap3 (A B C D:List Nat):A++B++(C++D)=A++(B++C)++D:=by rw [← List.append_assoc A B C,List.append_assoc (A++B)]
theorem sq_run (a:Str):∀ (rest:List Nat) (e:Bool) (res:List Str),
    (∀ A B i,Lc a=A++B++(escI e++rest)->i=A.length+B.length+(escI e).length->finS a (sqLoop a (escP i e rest) (A.length:Nat) none res)=flat res++B++(sqM none (toks e rest)).flatten) ∧
    (∀ A B C p i,Lc a=A++B++(C++(escI e++rest))->p.flatten=C->i=A.length+B.length+C.length+(escI e).length->finS a (sqLoop a (escP i e rest) (A.length:Nat) (some ((A.length+B.length:Nat):Int)) res)=flat res++B++(sqM (some p) (toks e rest)).flatten)
  | [],e,res=>by
    have hd:∀ A T,Lc a=A++T->finS a ((A.length:Nat),res)=flat res++T:=fun A T h=>by unfold finS;rw [h];simp
    refine ⟨fun A B i h hi=>?_,fun A B C p i h hp hi=>?_⟩
    · cases e with
      | false=>exact (hd _ _ (h.trans (List.append_assoc _ _ _))).trans (List.append_assoc _ _ _).symm
      | true=>exact (hd _ _ (h.trans (List.append_assoc _ _ _))).trans (List.append_assoc _ _ _).symm
    · cases e with
      | false=>
        refine (hd _ _ (h.trans (List.append_assoc _ _ _))).trans ?_
        show flat res++(B++(C++[]))=flat res++B++p.flatten
        rw [hp,List.append_nil,List.append_assoc]
      | true=>
        refine (hd _ _ (h.trans (List.append_assoc _ _ _))).trans ?_
        show flat res++(B++(C++[92]))=flat res++B++(p++[[92]]).flatten
        rw [List.flatten_append,hp,List.append_assoc];rfl
  | c::r,true,res=>by
    obtain ⟨ih1,ih2⟩:=sq_run a r false res
    refine ⟨fun A B i h hi=>?_,fun A B C p i h hp hi=>?_⟩
    · exact (ih1 A (B++[92,c]) (i+1) (h.trans (ap3 A B [92,c] r)) (by rw [hi,List.length_append];rfl)).trans (ap3 _ _ _ _).symm
    · exact ih2 A B (C++[92,c]) (p++[[92,c]]) (i+1) (h.trans (congrArg (A++B++·) (List.append_assoc C [92,c] r).symm)) (by rw [List.flatten_append,hp];rfl) (by rw [hi,List.length_append];rfl)
  | c::r,false,res=>by
    by_cases hb:c=92
    · subst hb
      obtain ⟨ih1,ih2⟩:=sq_run a r true res
      exact ⟨fun A B i h hi=>ih1 A B (i+1) h (congrArg Nat.succ hi),fun A B C p i h hp hi=>ih2 A B C p (i+1) h hp (congrArg Nat.succ hi)⟩
    · have hbb:(c==92)=false:=beq_eq_false_iff_ne.mpr hb
      by_cases hq:c=34
      · subst hq
        refine ⟨fun A B i h hi=>?_,fun A B C p i h hp hi=>?_⟩
        · obtain ⟨ih1,ih2⟩:=sq_run a r false res
          have hi':i=A.length+B.length:=hi
          have:=ih2 A B [34] [[34]] (i+1) h rfl (congrArg Nat.succ hi)
          rw [← hi'] at this
          exact this
        · have hi':i=A.length+B.length+C.length:=hi
          have hs:=slice_mid h
          obtain ⟨ih1,ih2⟩:=sq_run a r false (if (A.length:Int) != ((A.length+B.length:Nat):Int) then res++[Txt.slice a (some (A.length:Int)) (some ((A.length+B.length:Nat):Int))] else res)
          have:=ih1 (A++B++C++[34]) [] (i+1) (h.trans (by rw [List.append_nil,List.append_assoc (A++B++C),List.append_assoc (A++B)];rfl)) (by rw [hi',List.length_append,List.length_append,List.length_append];rfl)
          have hn:((A++B++C++[34]).length:Int)=(i:Int)+1:=by rw [hi',List.length_append,List.length_append,List.length_append];rfl
          rw [hn] at this
          refine this.trans ?_
          have hf:flat (if (A.length:Int) != ((A.length+B.length:Nat):Int) then res++[Txt.slice a (some (A.length:Int)) (some ((A.length+B.length:Nat):Int))] else res)=flat res++B:=by
            split
            · rw [flat_snoc,hs]
            · rename_i hz
              have:B=[]:=by
                cases B with
                | nil=>rfl
                | cons b B'=>exact absurd (bne_iff_ne.mpr fun q=>absurd (Int.ofNat.inj q) (Nat.ne_of_lt (Nat.lt_add_of_pos_right (Nat.succ_pos _)))) hz
              rw [this,List.append_nil]
          rw [hf,List.append_nil]
          rfl
      · have hqq:([c]==[34])=false:=by simp [hq]
        obtain ⟨ih1,ih2⟩:=sq_run a r false res
        refine ⟨fun A B i h hi=>?_,fun A B C p i h hp hi=>?_⟩
        · have:=ih1 A (B++[c]) (i+1) (h.trans (ap3 A B [c] r)) (by rw [hi,List.length_append];rfl)
          unfold escP toks
          simp only [hbb,if_false,Bool.false_eq_true]
          unfold sqLoop sqM
          simp only [hqq,if_false,Bool.false_eq_true]
          exact this.trans (ap3 _ _ _ _).symm
        · have:=ih2 A B (C++[c]) (p++[[c]]) (i+1) (h.trans (congrArg (A++B++·) (List.append_assoc C [c] r).symm)) (by rw [List.flatten_append,hp];rfl) (by rw [hi,List.length_append];rfl)
          unfold escP toks
          simp only [hbb,if_false,Bool.false_eq_true]
          unfold sqLoop sqM
          simp only [hqq,if_false,Bool.false_eq_true]
          exact this
theorem toks_flat:∀ (cs:List Nat) (e:Bool),(toks e cs).flatten=escI e++cs
  | [],e=>by cases e<;>rfl
  | c::r,true=>by
    show [92,c]++(toks false r).flatten=_
    rw [toks_flat r false];rfl
  | c::r,false=>by
    unfold toks
    by_cases hb:c=92
    · subst hb
      exact toks_flat r true
    · simp only [beq_eq_false_iff_ne.mpr hb,if_false,Bool.false_eq_true]
      show [c]++(toks false r).flatten=_
      rw [toks_flat r false];rfl
theorem sqM_none:∀ ts:List (List Nat),[34]∉ts->sqM none ts=ts
  | [],_=>rfl
  | t::r,h=>by
    rw [List.mem_cons,not_or] at h
    unfold sqM
    rw [if_neg (by simpa using Ne.symm h.1),sqM_none r h.2]
theorem sqM_some:∀ (ts p:List (List Nat)),[34]∉ts->sqM (some p) ts=p++ts
  | [],p,_=>by simp [sqM]
  | t::r,p,h=>by
    rw [List.mem_cons,not_or] at h
    unfold sqM
    rw [if_neg (by simpa using Ne.symm h.1),sqM_some r _ h.2,List.append_assoc];rfl
theorem sq_pos (a:Str):∀ (ps:List (Int × Str)) (st:Int) (op:Option Int) (res:List Str),0≤st->(∀ p,p∈ps->-1≤p.1)->0≤(sqLoop a ps st op res).1
  | [],st,op,res,h,_=>h
  | p::r,st,op,res,h,hp=>by
    have hr:∀ q,q∈r->-1≤q.1:=fun q hq=>hp q (.tail _ hq)
    unfold sqLoop
    split
    · cases op with
      | none=>exact sq_pos a r st _ res h hr
      | some o=>exact sq_pos a r _ none _ (by have:=hp p (.head _);omega) hr
    · exact sq_pos a r st op res h hr
theorem sqFn_cps (a:Str):Lc (sqFn a)=(sqM none (toks false (Lc a))).flatten:=by
  unfold sqFn
  split
  · rw [glue_flat]
    have key:=(sq_run a (Lc a) false []).1 [] [] 0 rfl rfl
    have e0:finS a (sqLoop a (escP 0 false (Lc a)) 0 none [])=(sqM none (toks false (Lc a))).flatten:=key
    rw [← e0]
    have hp:=sq_pos a (escP 0 false a.cps.toList) 0 none [] (Int.le_refl _) fun p hp=>((escP_ok _ _ _).2 p hp).1
    generalize sqLoop a (escP 0 false a.cps.toList) 0 none []=z at *
    obtain ⟨st,res⟩:=z
    obtain ⟨k,rfl⟩:=Int.eq_ofNat_of_zero_le hp
    unfold finS
    split
    · rename_i hlt
      have hk:k≤a.length:=by have:(k:Int)<a.length:=hlt;omega
      rw [flat_snoc]
      exact congrArg (flat res++·) (slice_tail hk)
    · rename_i hlt
      have hk:a.length≤k:=by have:¬ (k:Int)<a.length:=hlt;omega
      have e:(Lc a).drop k=[]:=List.drop_eq_nil_of_le (by rw [len_cps] at hk;exact hk)
      show flat res=flat res++(Lc a).drop k
      rw [e,List.append_nil]
  · rename_i h
    have h34:34∉Lc a:=fun q=>h (by unfold Txt.contains;rw [StrLaws.found_one,decide_eq_true_eq];exact q)
    rw [sqM_none _ fun q=>h34 ?_,toks_flat]
    · rfl
    · have:=List.mem_flatten_of_mem q (List.mem_singleton.mpr rfl:34∈[34])
      rw [toks_flat] at this
      exact this
noncomputable def tokOk:List (List Nat)->Prop
  | []=>True
  | t::r=>((∃ c,c≠92∧t=[c])∧tokOk r)∨((∃ c,t=[92,c])∧tokOk r)∨(t=[92]∧r=[])
theorem toks_ok:∀ (cs:List Nat) (e:Bool),tokOk (toks e cs)
  | [],true=>.inr (.inr ⟨rfl,rfl⟩)
  | [],false=>trivial
  | c::r,true=>.inr (.inl ⟨⟨c,rfl⟩,toks_ok r false⟩)
  | c::r,false=>by
    unfold toks
    by_cases hb:c=92
    · subst hb
      exact toks_ok r true
    · simp only [beq_eq_false_iff_ne.mpr hb,if_false,Bool.false_eq_true]
      exact .inl ⟨⟨c,hb,rfl⟩,toks_ok r false⟩
theorem tokOk_tail {t:List Nat} {r:List (List Nat)} (h:tokOk (t::r)):tokOk r:=by
  rcases h with h | h | h
  · exact h.2
  · exact h.2
  · rw [h.2];trivial
theorem tokOk_drop:∀ (p:List (List Nat)) {r:List (List Nat)},tokOk (p++r)->tokOk r
  | [],_,h=>h
  | _::p,_,h=>tokOk_drop p (tokOk_tail h)
theorem tok_again:∀ ts:List (List Nat),tokOk ts->toks false ts.flatten=ts
  | [],_=>rfl
  | t::r,h=>by
    rcases h with ⟨⟨c,hc,rfl⟩,h⟩ | ⟨⟨c,rfl⟩,h⟩ | ⟨rfl,rfl⟩
    · show toks false (c::r.flatten)=_
      unfold toks
      simp only [beq_eq_false_iff_ne.mpr hc,if_false,Bool.false_eq_true]
      rw [tok_again r h]
    · show [92,c]::toks false r.flatten=_
      rw [tok_again r h]
    · rfl
theorem sq_ok:∀ (ts:List (List Nat)),(tokOk ts->tokOk (sqM none ts))∧∀ p,tokOk (p++ts)->tokOk (sqM (some p) ts)
  | []=>⟨id,fun p h=>by simpa [sqM] using h⟩
  | t::r=>by
    obtain ⟨ih1,ih2⟩:=sq_ok r
    refine ⟨fun h=>?_,fun p h=>?_⟩
    · unfold sqM
      split
      · exact ih2 [t] h
      · rcases h with h | h | h
        · exact .inl ⟨h.1,ih1 h.2⟩
        · exact .inr (.inl ⟨h.1,ih1 h.2⟩)
        · exact .inr (.inr ⟨h.1,by rw [h.2];rfl⟩)
    · unfold sqM
      split
      · exact ih1 (tokOk_tail (tokOk_drop p h))
      · exact ih2 (p++[t]) (by rw [List.append_assoc];exact h)
noncomputable def cpT:List (List Nat)->Int->Bool
  | [],o=>o==0
  | t::r,o=>if t==[40] then cpT r (o+1) else if t==[41] then (if o-1<0 then false else cpT r (o-1)) else cpT r o
theorem cp_toks:∀ (ps:List (Int × Str)) (o:Int),cpLoop ps o=cpT (ps.map fun p=>p.2.cps.toList) o
  | [],_=>rfl
  | p::r,o=>by
    unfold cpLoop
    show _=cpT (p.2.cps.toList::r.map fun p=>p.2.cps.toList) o
    unfold cpT
    rw [cp_toks r,cp_toks r,cp_toks r]
theorem check_toks (a:Str):checkFn a=cpT (sqM none (toks false (Lc a))) 0:=by
  unfold checkFn
  rw [cp_toks,esc_toks,show (sqFn a).cps.toList=_ from sqFn_cps a,tok_again _ ((sq_ok _).1 (toks_ok _ _))]
noncomputable def parL (l:List Nat):Prop:=∀ c,c∈l->c=40∨c=41
noncomputable def balL:List Nat->Int->Bool
  | [],o=>o==0
  | c::r,o=>if c==40 then balL r (o+1) else if o-1<0 then false else balL r (o-1)
theorem parL_app {a b:List Nat} (h:parL a) (k:parL b):parL (a++b):=fun c hc=>(List.mem_append.mp hc).elim (h c) (k c)
theorem parL_left {a b:List Nat} (h:parL (a++b)):parL a:=fun c hc=>h c (List.mem_append_left _ hc)
theorem parL_right {a b:List Nat} (h:parL (a++b)):parL b:=fun c hc=>h c (List.mem_append_right _ hc)
theorem toks_cons {c:Nat} {x:List Nat} (hc:c≠92):toks false (c::x)=[c]::toks false x:=by
  show (if false then _ else if c==92 then _ else _)=_
  rw [beq_eq_false_iff_ne.mpr hc];rfl
theorem tok_par:∀ (l r:List Nat),parL l->toks false (l++r)=l.map ([·])++toks false r
  | [],_,_=>rfl
  | c::l,r,h=>(toks_cons (by rcases h c (.head _) with rfl | rfl<;>decide)).trans (congrArg ([c]::·) (tok_par l r fun c hc=>h c (.tail _ hc)))
noncomputable def mute (M:List (List Nat)):Prop:=∀ ts o,cpT (sqM none (M++ts)) o=cpT (sqM none ts) o
theorem cp_par:∀ (l:List Nat) (ts:List (List Nat)) (r:List Nat) (o:Int),parL l->(∀ o,cpT (sqM none ts) o=balL r o)->cpT (sqM none (l.map ([·])++ts)) o=balL (l++r) o
  | [],_,_,o,_,h=>h o
  | c::l,ts,r,o,hp,h=>by
    have hc:([c]==[34])=false:=by rcases hp c (.head _) with rfl | rfl<;>decide
    have ih:=fun o=>cp_par l ts r o (fun c hc=>hp c (.tail _ hc)) h
    show cpT (sqM none ([c]::(l.map ([·])++ts))) o=balL (c::(l++r)) o
    unfold sqM
    rw [hc]
    show cpT ([c]::sqM none (l.map ([·])++ts)) o=_
    unfold cpT balL
    rw [ih,ih]
    rcases hp c (.head _) with rfl | rfl
    · rfl
    · rfl
theorem cp_bare:∀ (l:List Nat) (z:Bool) (o:Int),parL l->cpT (l.map ([·])++(if z then [[92]] else [])) o=balL l o
  | [],true,_,_=>rfl
  | [],false,_,_=>rfl
  | c::l,z,o,hp=>by
    have ih:=fun o=>cp_bare l z o fun c hc=>hp c (.tail _ hc)
    show cpT ([c]::(l.map ([·])++_)) o=balL (c::l) o
    unfold cpT balL
    rw [ih,ih]
    rcases hp c (.head _) with rfl | rfl
    · rfl
    · rfl
noncomputable def menuL:List (List Nat):=[[],[34,41,34],[92,40],[92,92],[34,40,34],[34,92,34,41,34],[97,92,34],[92,41]]
theorem menu_tok {M:List Nat} (h:M∈menuL) (X:List Nat):toks false (M++X)=toks false M++toks false X:=by
  unfold menuL at h
  simp only [List.mem_cons,List.not_mem_nil,or_false] at h
  rcases h with rfl | rfl | rfl | rfl | rfl | rfl | rfl | rfl<;>rfl
theorem menu_mute {M:List Nat} (h:M∈menuL):mute (toks false M):=fun ts o=>by
  unfold menuL at h
  simp only [List.mem_cons,List.not_mem_nil,or_false] at h
  rcases h with rfl | rfl | rfl | rfl | rfl | rfl | rfl | rfl<;>rfl
theorem no34:∀ (l:List Nat) (z:Bool),parL l -> [34]∉l.map ([·])++(if z then [[92]] else []):=fun l z hp q=>by
  rcases List.mem_append.mp q with q | q
  · obtain ⟨c,hc,e⟩:=List.mem_map.mp q
    rcases hp c hc with rfl | rfl<;>cases e
  · cases z
    · cases q
    · rcases List.mem_singleton.mp q with q;cases q
theorem check_hidden {a:Str} {P r1 r2 Q M1 M2:List Nat} {q z:Bool} (h:Lc a=P++(M1++(r1++(M2++(r2++((if q then [34] else [])++(Q++(if z then [92] else []))))))))
    (hP:parL P) (h1:parL r1) (h2:parL r2) (hQ:parL Q) (m1:M1∈menuL) (m2:M2∈menuL):checkFn a=balL (P++(r1++(r2++Q))) 0:=by
  rw [check_toks,h,tok_par _ _ hP,menu_tok m1,tok_par _ _ h1,menu_tok m2,tok_par _ _ h2]
  have hz:toks false (Q++(if z then [92] else []))=Q.map ([·])++(if z then [[92]] else []):=by
    rw [tok_par _ _ hQ];cases z<;>rfl
  have hq:∀ o,cpT (sqM none (toks false ((if q then [34] else [])++(Q++(if z then [92] else []))))) o=balL Q o:=fun o=>by
    cases q with
    | false=>
      show cpT (sqM none (toks false (Q++(if z then [92] else [])))) o=_
      rw [hz,sqM_none _ (no34 Q z hQ),cp_bare Q z o hQ]
    | true=>
      show cpT (sqM none (toks false (34::(Q++(if z then [92] else []))))) o=_
      rw [toks_cons (by decide),hz]
      show cpT (sqM (some [[34]]) _) o=_
      rw [sqM_some _ _ (no34 Q z hQ)]
      exact cp_bare Q z o hQ
  refine cp_par P _ _ 0 hP fun o=>(menu_mute m1 _ o).trans (cp_par r1 _ _ o h1 fun o=>(menu_mute m2 _ o).trans (cp_par r2 _ _ o h2 hq))
theorem check_par {a:Str} (h:parL (Lc a)):checkFn a=balL (Lc a) 0:=by
  have:=check_hidden (a:=a) (P:=Lc a) (M1:=[]) (r1:=[]) (M2:=[]) (r2:=[]) (Q:=[]) (q:=false) (z:=false) (by simp) h (fun θ h=>nomatch h) (fun θ h=>nomatch h) (fun θ h=>nomatch h) (.head _) (.head _)
  simpa using this
theorem sq_sub:∀ (ts:List (List Nat)),(∀ c,c∈(sqM none ts).flatten->c∈ts.flatten)∧∀ p c,c∈(sqM (some p) ts).flatten->c∈(p++ts).flatten
  | []=>⟨fun c h=>h,fun p c h=>by simpa [sqM] using h⟩
  | t::r=>by
    obtain ⟨ih1,ih2⟩:=sq_sub r
    refine ⟨fun c h=>?_,fun p c h=>?_⟩
    · unfold sqM at h
      split at h
      · exact ih2 [t] c h
      · rw [List.flatten_cons] at *
        exact (List.mem_append.mp h).elim (List.mem_append_left _) fun q=>List.mem_append_right _ (ih1 c q)
    · unfold sqM at h
      rw [List.flatten_append,List.flatten_cons]
      split at h
      · exact List.mem_append_right _ (List.mem_append_right _ (ih1 c h))
      · have:=ih2 (p++[t]) c h
        rw [List.append_assoc,List.flatten_append] at this
        exact this
theorem sqFn_all {p:Nat->Bool} {a:Str} (h:a.cps.all p=true):(sqFn a).cps.all p=true:=by
  rw [← Array.all_toList] at *
  rw [List.all_eq_true] at *
  intro c hc
  rw [show (sqFn a).cps.toList=_ from sqFn_cps a] at hc
  have:=(sq_sub _).1 c hc
  rw [toks_flat] at this
  exact h c this
noncomputable abbrev pairsOk (f:List Int):Prop:=allWords.all (fun b=>pairOk f b.reverse)=true
theorem fin_w0:pairsOk [0,0]:=by decide +kernel
theorem fin_w1:pairsOk [1,0]:=by decide +kernel
theorem fin_w2:pairsOk [0,1]:=by decide +kernel
theorem fin_w3:pairsOk [1,1]:=by decide +kernel
theorem fin_w4:pairsOk [0,0,0]:=by decide +kernel
theorem fin_w5:pairsOk [1,0,0]:=by decide +kernel
theorem fin_w6:pairsOk [0,1,0]:=by decide +kernel
theorem fin_w7:pairsOk [1,1,0]:=by decide +kernel
theorem fin_w8:pairsOk [0,0,1]:=by decide +kernel
theorem fin_w9:pairsOk [1,0,1]:=by decide +kernel
theorem fin_w10:pairsOk [0,1,1]:=by decide +kernel
theorem fin_w11:pairsOk [1,1,1]:=by decide +kernel
theorem fin_w12:pairsOk [0,0,0,0]:=by decide +kernel
theorem fin_w13:pairsOk [1,0,0,0]:=by decide +kernel
theorem fin_w14:pairsOk [0,1,0,0]:=by decide +kernel
theorem fin_w15:pairsOk [1,1,0,0]:=by decide +kernel
theorem fin_w16:pairsOk [0,0,1,0]:=by decide +kernel
theorem fin_w17:pairsOk [1,0,1,0]:=by decide +kernel
theorem fin_w18:pairsOk [0,1,1,0]:=by decide +kernel
theorem fin_w19:pairsOk [1,1,1,0]:=by decide +kernel
theorem fin_w20:pairsOk [0,0,0,1]:=by decide +kernel
theorem fin_w21:pairsOk [1,0,0,1]:=by decide +kernel
theorem fin_w22:pairsOk [0,1,0,1]:=by decide +kernel
theorem fin_w23:pairsOk [1,1,0,1]:=by decide +kernel
theorem fin_w24:pairsOk [0,0,1,1]:=by decide +kernel
theorem fin_w25:pairsOk [1,0,1,1]:=by decide +kernel
theorem fin_w26:pairsOk [0,1,1,1]:=by decide +kernel
theorem fin_w27:pairsOk [1,1,1,1]:=by decide +kernel
theorem fin_w28:pairsOk [0,0,1,1,0]:=by decide +kernel
theorem fin_w29:pairsOk [1,0,1,1,0]:=by decide +kernel
theorem fin_w30:pairsOk [0,1,0,0,1]:=by decide +kernel
theorem fin_w31:pairsOk [1,1,0,0,1]:=by decide +kernel
theorem words_are:allWords=[[0,0],[1,0],[0,1],[1,1],[0,0,0],[1,0,0],[0,1,0],[1,1,0],[0,0,1],[1,0,1],[0,1,1],[1,1,1],[0,0,0,0],[1,0,0,0],[0,1,0,0],[1,1,0,0],[0,0,1,0],[1,0,1,0],[0,1,1,0],[1,1,1,0],[0,0,0,1],[1,0,0,1],[0,1,0,1],[1,1,0,1],[0,0,1,1],[1,0,1,1],[0,1,1,1],[1,1,1,1],[0,0,1,1,0],[1,0,1,1,0],[0,1,0,0,1],[1,1,0,0,1]]:=by decide +kernel
theorem pairs_ok {f b:List Int} (hf:f∈allWords) (hb:b∈allWords):pairOk f b.reverse=true:=by
  have h:∀ f,f∈allWords->pairsOk f:=by
    rw [words_are]
    exact (List.forall_mem_cons.mpr ⟨fin_w0,(List.forall_mem_cons.mpr ⟨fin_w1,(List.forall_mem_cons.mpr ⟨fin_w2,(List.forall_mem_cons.mpr ⟨fin_w3,(List.forall_mem_cons.mpr ⟨fin_w4,(List.forall_mem_cons.mpr ⟨fin_w5,(List.forall_mem_cons.mpr ⟨fin_w6,(List.forall_mem_cons.mpr ⟨fin_w7,(List.forall_mem_cons.mpr ⟨fin_w8,(List.forall_mem_cons.mpr ⟨fin_w9,(List.forall_mem_cons.mpr ⟨fin_w10,(List.forall_mem_cons.mpr ⟨fin_w11,(List.forall_mem_cons.mpr ⟨fin_w12,(List.forall_mem_cons.mpr ⟨fin_w13,(List.forall_mem_cons.mpr ⟨fin_w14,(List.forall_mem_cons.mpr ⟨fin_w15,(List.forall_mem_cons.mpr ⟨fin_w16,(List.forall_mem_cons.mpr ⟨fin_w17,(List.forall_mem_cons.mpr ⟨fin_w18,(List.forall_mem_cons.mpr ⟨fin_w19,(List.forall_mem_cons.mpr ⟨fin_w20,(List.forall_mem_cons.mpr ⟨fin_w21,(List.forall_mem_cons.mpr ⟨fin_w22,(List.forall_mem_cons.mpr ⟨fin_w23,(List.forall_mem_cons.mpr ⟨fin_w24,(List.forall_mem_cons.mpr ⟨fin_w25,(List.forall_mem_cons.mpr ⟨fin_w26,(List.forall_mem_cons.mpr ⟨fin_w27,(List.forall_mem_cons.mpr ⟨fin_w28,(List.forall_mem_cons.mpr ⟨fin_w29,(List.forall_mem_cons.mpr ⟨fin_w30,(List.forall_mem_cons.mpr ⟨fin_w31,(fun θ h=>nomatch h)⟩)⟩)⟩)⟩)⟩)⟩)⟩)⟩)⟩)⟩)⟩)⟩)⟩)⟩)⟩)⟩)⟩)⟩)⟩)⟩)⟩)⟩)⟩)⟩)⟩)⟩)⟩)⟩)⟩)⟩)⟩)⟩)
  exact List.all_eq_true.mp (h f hf) b hb
theorem bits_mem:∀ x:List Int,(∀ k,k∈x->one2 k)->x∈bitsL x.length
  | [],_=>.head _
  | k::x,h=>by
    have ih:=bits_mem x fun j hj=>h j (.tail _ hj)
    unfold bitsL
    refine List.mem_flatMap.mpr ⟨x,ih,?_⟩
    rcases h k (.head _) with rfl | rfl
    · exact .head _
    · exact .tail _ (.head _)
theorem mod2 (a:Int):one2 (a.fmod 2):=by
  rw [Int.fmod_eq_emod_of_nonneg _ (by decide)]
  unfold one2;omega
theorem word_in (num:Int):wordFn num∈allWords:=by
  unfold wordFn
  dsimp only
  split
  · have h3:num.fdiv 4 |>.fmod 3 |> fun r=>r=0∨r=1∨r=2:=by
      show (num.fdiv 4).fmod 3=0∨(num.fdiv 4).fmod 3=1∨(num.fdiv 4).fmod 3=2
      rw [Int.fmod_eq_emod_of_nonneg _ (by decide)];omega
    have hm:∀ n:Nat,((List.range n).map fun (i:Nat)=>((num.fdiv 4).fdiv (4^i)).fmod 2)∈bitsL n:=fun n=>by
      have:=bits_mem ((List.range n).map fun (i:Nat)=>((num.fdiv 4).fdiv (4^i)).fmod 2) fun k hk=>by
        obtain ⟨i,_,rfl⟩:=List.mem_map.mp hk
        exact mod2 _
      rw [List.length_map,List.length_range] at this
      exact this
    unfold allWords
    rcases h3 with h | h | h
    · rw [h];exact List.mem_append_left _ (List.mem_append_left _ (List.mem_append_left _ (hm 2)))
    · rw [h];exact List.mem_append_left _ (List.mem_append_left _ (List.mem_append_right _ (hm 3)))
    · rw [h];exact List.mem_append_left _ (List.mem_append_right _ (hm 4))
  · generalize num.fdiv 4=rest
    have hb:((List.range 4).map fun (i:Nat)=>((i:Int)+(i:Int).fdiv 2+rest).fmod 2)=[0,1,1,0]∨((List.range 4).map fun (i:Nat)=>((i:Int)+(i:Int).fdiv 2+rest).fmod 2)=[1,0,0,1]:=by
      have e:∀ c:Int,(c+rest).fmod 2=(c+rest.fmod 2).fmod 2:=fun c=>by
        rw [Int.fmod_eq_emod_of_nonneg _ (by decide),Int.fmod_eq_emod_of_nonneg _ (by decide),Int.fmod_eq_emod_of_nonneg _ (by decide),Int.add_emod_emod]
      show [(0+0+rest).fmod 2,(1+0+rest).fmod 2,(2+1+rest).fmod 2,(3+1+rest).fmod 2]=_∨[(0+0+rest).fmod 2,(1+0+rest).fmod 2,(2+1+rest).fmod 2,(3+1+rest).fmod 2]=_
      rw [e,e,e,e]
      rcases mod2 rest with h | h<;>rw [h]
      · exact .inl rfl
      · exact .inr rfl
    have h5:∀ k,one2 k->∀ b,b=[0,1,1,0]∨b=[1,0,0,1] -> [k]++b∈allWords:=by
      intro k hk b hb
      rcases hk with rfl | rfl<;>rcases hb with rfl | rfl<;>decide +kernel
    have h4:∀ b,b=[0,1,1,0]∨b=[1,0,0,1]->b∈allWords:=by
      intro b hb
      rcases hb with rfl | rfl<;>decide +kernel
    split
    · exact h5 _ (mod2 _) _ hb
    · exact h4 _ hb
theorem words_all:∀ x,x∈allWords->x.length≤5∧∀ k,k∈x->one2 k:=by
  unfold one2
  rw [words_are]
  decide
noncomputable def pol:List Nat->P2
  | []=>(0,0)
  | c::r=>(if (if c==40 then 1 else -1)+(pol r).1<0 then (if c==40 then 1 else -1)+(pol r).1 else 0,(if c==40 then 1 else -1)+(pol r).2)
theorem pol_c (c:Nat) (r:List Nat):pol (c::r)=(if (if c==40 then 1 else -1)+(pol r).1<0 then (if c==40 then 1 else -1)+(pol r).1 else 0,(if c==40 then 1 else -1)+(pol r).2):=rfl
theorem pol_le:∀ l,(pol l).1≤0
  | []=>Int.le_refl _
  | c::r=>by unfold pol;dsimp only;split<;>omega
theorem pol_hi:∀ l,(pol l).1≤(pol l).2
  | []=>Int.le_refl _
  | c::r=>by have:=pol_hi r;have:=pol_le r;unfold pol;dsimp only;split<;>split<;>omega
theorem pol_len:∀ l,-(l.length:Int)≤(pol l).1∧(pol l).2≤l.length
  | []=>⟨Int.le_refl _,Int.le_refl _⟩
  | c::r=>by have:=pol_len r;unfold pol;dsimp only;rw [List.length_cons];split<;>split<;>omega
theorem low_step (lo h s x:Int) (hl:lo≤h) (hx:x≤0):(if h+s+x<(if h+s<lo then h+s else lo) then h+s+x else (if h+s<lo then h+s else lo))=(if h+(if s+x<0 then s+x else 0)<lo then h+(if s+x<0 then s+x else 0) else lo):=by
  by_cases h1:h+s<lo
  · rw [if_pos h1,if_pos (show s+x<0 by omega),if_pos (show h+(s+x)<lo by omega),Int.add_assoc]
    split<;>omega
  · rw [if_neg h1]
    by_cases h2:s+x<0
    · rw [if_pos h2,Int.add_assoc]
    · rw [if_neg h2,if_neg (by omega),if_neg (by omega)]
theorem low_join (s x y b:Int) (hb:b≤0):(if s+(if y+b<x then y+b else x)<0 then s+(if y+b<x then y+b else x) else 0)=(if s+y+b<(if s+x<0 then s+x else 0) then s+y+b else (if s+x<0 then s+x else 0)):=by
  by_cases h1:s+x<0
  · rw [if_pos h1]
    by_cases h2:y+b<x
    · rw [if_pos h2,if_pos (by omega),if_pos (by omega)];omega
    · rw [if_neg h2,if_pos (by omega +splitNatSub),if_neg (by omega)]
  · rw [if_neg h1]
    by_cases h2:y+b<x
    · rw [if_pos h2,Int.add_assoc]
    · rw [if_neg h2,if_neg (by omega),if_neg (by omega)]
theorem lack_go:∀ (l:List Nat) (lo h:Int),lo≤h->l.foldl lackStep (lo,h)=(if h+(pol l).1<lo then h+(pol l).1 else lo,h+(pol l).2)
  | [],lo,h,hl=>by
    show (lo,h)=(if h+0<lo then h+0 else lo,h+0)
    rw [if_neg (by omega),Int.add_zero]
  | c::r,lo,h,hl=>by
    have:=pol_le r
    have e:lackStep (lo,h) c=(if h+(if c==40 then 1 else -1)<lo then h+(if c==40 then 1 else -1) else lo,h+(if c==40 then 1 else -1)):=rfl
    rw [List.foldl_cons,e,pol_c]
    generalize (if (c==40)=true then (1:Int) else -1)=s
    rw [lack_go r _ _ (by split<;>omega)]
    refine Prod.ext ?_ (Int.add_assoc _ _ _)
    exact low_step lo h s (pol r).1 hl this
theorem lack_pol (l:List Nat):lackEnd l=pol l:=by
  have:=pol_le l
  unfold lackEnd
  rw [lack_go l 0 0 (Int.le_refl _),Int.zero_add,Int.zero_add]
  refine Prod.ext ?_ rfl
  show (if _ then _ else _)=_
  split
  · rfl
  · exact Int.le_antisymm (Int.not_lt.mp (by assumption)) this
theorem pol_app:∀ a b,pol (a++b)=joinP (pol a) (pol b)
  | [],b=>by
    have:=pol_le b
    unfold joinP
    refine Prod.ext ?_ (Int.zero_add _).symm
    show (pol b).1=if 0+(pol b).1<0 then 0+(pol b).1 else 0
    rw [Int.zero_add]
    split
    · rfl
    · exact Int.le_antisymm this (Int.not_lt.mp (by assumption))
  | c::r,b=>by
    show pol (c::(r++b))=_
    rw [pol_c,pol_c,pol_app r b]
    generalize (if (c==40)=true then (1:Int) else -1)=s
    unfold joinP
    dsimp only
    refine Prod.ext ?_ (Int.add_assoc _ _ _).symm
    exact low_join s (pol r).1 (pol r).2 (pol b).1 (pol_le b)
noncomputable def flatW (r0 r1:List Nat) (x:List Int):List Nat:=x.flatMap fun k=>pick r0 r1 k
theorem pick_app {α β:Type} (f:α->β) (a b:α) (k:Int):pick (f a) (f b) k=f (pick a b k):=by unfold pick;split<;>rfl
theorem pol_word (r0 r1:List Nat):∀ (x:List Int) (pre:List Nat),x.foldl (fun p k=>joinP p (pick (pol r0) (pol r1) k)) (pol pre)=pol (pre++flatW r0 r1 x)
  | [],pre=>by show pol pre=pol (pre++[]);rw [List.append_nil]
  | k::x,pre=>by
    show x.foldl _ (joinP (pol pre) (pick (pol r0) (pol r1) k))=pol (pre++(pick r0 r1 k++flatW r0 r1 x))
    rw [pick_app pol,← pol_app,pol_word r0 r1 x,List.append_assoc]
theorem pol_row (r0 r1:List Nat) (x:List Int):pol (flatW r0 r1 x)=rowP (pol r0) (pol r1) x:=(pol_word r0 r1 x []).symm
theorem par_word {r0 r1:List Nat} (h0:parL r0) (h1:parL r1) (x:List Int):parL (flatW r0 r1 x):=fun c hc=>by
  obtain ⟨k,_,h⟩:=List.mem_flatMap.mp hc
  unfold pick at h
  split at h
  · exact h0 c h
  · exact h1 c h
theorem height_sum (a b:P2):∀ (x:List Int) (p:P2),(x.foldl (fun p k=>joinP p (pick a b k)) p).2=p.2+(x.map fun k=>(pick a b k).2).sum
  | [],p=>(Int.add_zero _).symm
  | k::x,p=>by
    rw [List.foldl_cons,height_sum a b x,List.map_cons,List.sum_cons,← Int.add_assoc];rfl
theorem height_swap (a b:P2) (f g:List Int):(rowP a b (wrd0 f g)).2=(rowP a b (wrd1 f g)).2:=by
  unfold rowP wrd0 wrd1
  rw [height_sum,height_sum]
  simp only [List.map_append,List.sum_append,List.map_cons,List.sum_cons,List.map_nil,List.sum_nil]
  omega
theorem bal_c (c:Nat) (r:List Nat) (o:Int):balL (c::r) o=if c==40 then balL r (o+1) else if o-1<0 then false else balL r (o-1):=rfl
theorem bal_row:∀ (row r:List Nat) (o:Int),0≤o->parL row->balL (row++r) o=if o+(pol row).1<0 then false else balL r (o+(pol row).2)
  | [],r,o,h,_=>by show balL r o=if o+0<0 then false else balL r (o+0);rw [Int.add_zero,if_neg (Int.not_lt.mpr h)]
  | c::l,r,o,h,hp=>by
    have hl:parL l:=fun c hc=>hp c (.tail _ hc)
    have:=pol_le l
    show balL (c::(l++r)) o=_
    rw [bal_c,pol_c]
    dsimp only
    rcases hp c (.head _) with rfl | rfl
    · simp only [beq_self_eq_true,if_true]
      rw [bal_row l r (o+1) (by omega) hl,Int.add_assoc,Int.add_assoc]
      (repeat' split)<;>first | rfl | omega
    · simp only [show ((41:Nat)==40)=false from rfl,Bool.false_eq_true,if_false]
      by_cases h1:o-1<0
      · rw [if_pos h1,if_pos (by split<;>omega)]
      · rw [if_neg h1,bal_row l r (o-1) (by omega) hl,show o-1+(pol l).1=o+(-1+(pol l).1) by omega,show o-1+(pol l).2=o+(-1+(pol l).2) by omega]
        (repeat' split)<;>first | rfl | omega +splitNatSub
noncomputable abbrev opn (n:Nat):List Nat:=List.replicate n 40
noncomputable abbrev cls (n:Nat):List Nat:=List.replicate n 41
theorem par_opn (n:Nat):parL (opn n):=fun c hc=>.inl (List.eq_of_mem_replicate hc)
theorem par_cls (n:Nat):parL (cls n):=fun c hc=>.inr (List.eq_of_mem_replicate hc)
theorem pol_opn:∀ n:Nat,pol (opn n)=((0:Int),(n:Int))
  | 0=>rfl
  | n+1=>by
    show pol (40::opn n)=_
    rw [pol_c,pol_opn n]
    refine Prod.ext rfl ?_
    show (1:Int)+n=((n+1:Nat):Int)
    omega
theorem pol_cls:∀ n:Nat,pol (cls n)=(-(n:Int),-(n:Int))
  | 0=>rfl
  | n+1=>by
    show pol (41::cls n)=_
    rw [pol_c,pol_cls n]
    refine Prod.ext ?_ ?_
    · show (if -1+-(n:Int)<0 then -1+-(n:Int) else 0)=-((n+1:Nat):Int)
      split<;>omega
    · show -1+-(n:Int)=-((n+1:Nat):Int)
      omega
theorem bal_framed {row:List Nat} (hp:parL row) (m k:Nat):balL (opn m++(row++cls k)) 0=(decide (0≤(m:Int)+(pol row).1)&&decide ((m:Int)+(pol row).2=k)):=by
  have h1:=pol_hi row
  rw [bal_row _ _ 0 (Int.le_refl _) (par_opn m),pol_opn]
  show (if (0:Int)+0<0 then false else balL (row++cls k) (0+m))=_
  rw [if_neg (by decide),Int.zero_add,bal_row _ _ _ (Int.natCast_nonneg _) hp]
  by_cases h:(m:Int)+(pol row).1<0
  · rw [if_pos h,decide_eq_false (by omega)];rfl
  · rw [if_neg h,decide_eq_true (show 0≤(m:Int)+(pol row).1 by omega),Bool.true_and]
    have e:=bal_row (cls k) [] ((m:Int)+(pol row).2) (by omega) (par_cls k)
    rw [List.append_nil,pol_cls] at e
    rw [e]
    show (if (m:Int)+(pol row).2+-(k:Int)<0 then false else ((m:Int)+(pol row).2+-(k:Int))==0)=_
    rw [Bool.eq_iff_iff]
    split<;>simp<;>omega
theorem whole_bal {row:List Nat} (hp:parL row):balL (opn (-(pol row).1).toNat++(row++cls ((pol row).2-(pol row).1).toNat)) 0=true:=by
  have h1:=pol_hi row
  have h2:=pol_le row
  rw [bal_framed hp,Int.toNat_of_nonneg (Int.neg_nonneg_of_nonpos h2),Int.toNat_of_nonneg (Int.sub_nonneg_of_le h1),decide_eq_true (Int.le_of_eq (Int.add_left_neg _).symm),decide_eq_true (show -(pol row).1+(pol row).2=(pol row).2-(pol row).1 from Int.add_comm _ _)];rfl
theorem more_bal {row:List Nat} (hp:parL row):balL (opn ((-(pol row).1).toNat+1)++(row++cls ((pol row).2-(pol row).1).toNat)) 0=false:=by
  have h1:=pol_hi row
  have h2:=pol_le row
  rw [bal_framed hp,Int.natCast_add,Int.toNat_of_nonneg (Int.neg_nonneg_of_nonpos h2),Int.toNat_of_nonneg (Int.sub_nonneg_of_le h1),decide_eq_false (p:=_=_) (by clear h1 h2;omega),Bool.and_false]
theorem short_bal {row:List Nat} (hp:parL row) (Q:List Nat):balL ((if (pol row).1=0 then [41] else opn ((-(pol row).1).toNat-1))++(row++Q)) 0=false:=by
  have h2:=pol_le row
  split
  · rfl
  · rw [bal_row _ _ 0 (Int.le_refl _) (par_opn _),pol_opn]
    show (if (0:Int)+0<0 then false else balL (row++Q) (0+_))=_
    rw [if_neg (by decide),Int.zero_add,bal_row _ _ _ (Int.natCast_nonneg _) hp,if_pos (by omega)]
theorem taken_ok {R0 R1:List Nat} (h0:parL R0) (h1:parL R1) (hh:(pol R0).2=(pol R1).2) (hn:(pol R0).1≠(pol R1).1) {m k:Int} (hm:m=if -(pol R1).1 < -(pol R0).1 then -(pol R1).1 else -(pol R0).1)
    (hk:k=if (pol R1).2-(pol R1).1<(pol R0).2-(pol R0).1 then (pol R1).2-(pol R1).1 else (pol R0).2-(pol R0).1) :
    balL (opn m.toNat++(R0++cls k.toNat)) 0=decide (-(pol R0).1 < -(pol R1).1)∧balL (opn m.toNat++(R1++cls k.toNat)) 0=decide (-(pol R1).1 < -(pol R0).1):=by
  have a0:=pol_hi R0
  have b0:=pol_le R0
  have a1:=pol_hi R1
  have b1:=pol_le R1
  rw [← hh] at hk a1
  obtain ⟨t0,t1,t2,t3,t4⟩:=tk b0 b1 a0 a1 hn hm hk
  rw [bal_framed h0,bal_framed h1,← hh,Int.toNat_of_nonneg t0,Int.toNat_of_nonneg t1,decide_eq_true t2,Bool.and_true,Bool.and_true]
  exact ⟨decide_eq_decide.mpr t3,decide_eq_decide.mpr t4⟩
noncomputable def farRow (a p:Int):List Nat:=cls a.toNat++opn (a-p).toNat
theorem par_far (a p:Int):parL (farRow a p):=parL_app (par_cls _) (par_opn _)
theorem pol_far {a p:Int} (h0:0≤a) (h1:0≤a-p):pol (farRow a p)=(-a,-p):=by
  unfold farRow
  rw [pol_app,pol_cls,pol_opn]
  unfold joinP
  dsimp only
  rw [if_neg (by omega)]
  refine Prod.ext ?_ ?_
  · exact congrArg (- ·) (Int.toNat_of_nonneg h0)
  · show -(a.toNat:Int)+((a-p).toNat:Int)=-p
    rw [Int.toNat_of_nonneg h0,Int.toNat_of_nonneg h1];clear h0 h1;omega
theorem len_word {a c p0 p1:Int} (h1:0≤a) (h2:0≤a-p0) (h3:0≤c) (h4:0≤c-p1):∀ (x:List Int) (n:Int),n+((flatW (farRow a p0) (farRow c p1) x).length:Int)=x.foldl (fun n k=>n+(pick a c k+(pick a c k-pick p0 p1 k))) n
  | [],n=>Int.add_zero n
  | k::x,n=>by
    rw [List.foldl_cons,← len_word h1 h2 h3 h4 x]
    show n+((pick (farRow a p0) (farRow c p1) k++flatW _ _ x).length:Int)=_
    rw [List.length_append]
    unfold pick farRow
    split
    · rw [List.length_append,List.length_replicate,List.length_replicate,Int.natCast_add,Int.natCast_add,Int.toNat_of_nonneg h1,Int.toNat_of_nonneg h2];exact (Int.add_assoc _ _ _).symm
    · rw [List.length_append,List.length_replicate,List.length_replicate,Int.natCast_add,Int.natCast_add,Int.toNat_of_nonneg h3,Int.toNat_of_nonneg h4];exact (Int.add_assoc _ _ _).symm
structure FarF (f b:List Int) (l p0 p1 a c:Int):Prop where
  l2:one2 l
  q0:p0.natAbs≤100
  q1:p1.natAbs≤100
  a0:0≤a
  c0:0≤c
  a1:0≤a-p0
  c1:0≤c-p1
  n0:(flatW (farRow a p0) (farRow c p1) (wrd0 f b)).length≤300
  n1:(flatW (farRow a p0) (farRow c p1) (wrd1 f b)).length≤300
  ne:(pol (flatW (farRow a p0) (farRow c p1) (wrd0 f b))).1≠(pol (flatW (farRow a p0) (farRow c p1) (wrd1 f b))).1
  eq:(pol (flatW (farRow a p0) (farRow c p1) (wrd0 f b))).2=(pol (flatW (farRow a p0) (farRow c p1) (wrd1 f b))).2
theorem far_of {f b:List Int} {l p0 p1 a c:Int} (h:farOk' f b l p0 p1 a c=true):FarF f b l p0 p1 a c:=by
  unfold farOk' at h
  simp only [Bool.and_eq_true,Bool.or_eq_true,beq_iff_eq,decide_eq_true_eq,bne_iff_ne] at h
  obtain ⟨⟨⟨⟨⟨⟨⟨⟨⟨h1,h2⟩,h3⟩,h4⟩,h5⟩,h6⟩,h7⟩,h8⟩,h9⟩,h10⟩:=h
  have e:∀ x,pol (flatW (farRow a p0) (farRow c p1) x)=rowP (-a,-p0) (-c,-p1) x:=fun x=>by rw [pol_row,pol_far h4 h6,pol_far h5 h7]
  have n:=fun x=>len_word h4 h6 h5 h7 x 0
  refine ⟨h1,h2,h3,h4,h5,h6,h7,?_,?_,?_,?_⟩
  · have:=n (wrd0 f b);unfold lens at h8;omega
  · have:=n (wrd1 f b);unfold lens at h9;omega
  · rw [e,e];exact h10
  · rw [e,e];exact height_swap _ _ f b
theorem pair_ray {f b:List Int} (h:pairOk f b=true):goOk f b four=true∧(∀ l p0 p1,rayFn f b=some (l,p0,p1)->FarF f b l p0 p1 (apLack [wrd0 f b,wrd1 f b] l p0 p1 0) (apLack [wrd0 f b,wrd1 f b] l p0 p1 1)) ∧
    (rayFn f b=none->∀ r0 r1:List Nat,pol r0∈smallRows->pol r1∈smallRows->pol (flatW r0 r1 (wrd0 f b))=pol (flatW r0 r1 (wrd1 f b))):=by
  unfold pairOk at h
  rw [Bool.and_eq_true] at h
  refine ⟨h.1,fun l p0 p1 e=>?_,fun e r0 r1 h0 h1=>?_⟩
  · have h2:=h.2
    rw [e] at h2
    exact far_of h2
  · have h2:=h.2
    rw [e] at h2
    have:=List.all_eq_true.mp (List.all_eq_true.mp h2 _ h0) _ h1
    rw [pol_row,pol_row]
    exact beq_iff_eq.mp this
theorem small_pol {l:List Nat} (hp:parL l) (h1:1≤l.length) (h3:l.length≤3):pol l∈smallRows:=by
  obtain ⟨a,t,rfl,_⟩:=lenS (Nat.sub_add_cancel h1).symm
  have hA:=hp a (.head _)
  cases t with
  | nil=>rcases hA with rfl | rfl<;>decide
  | cons b t=>
  have hB:=hp b (.tail _ (.head _))
  cases t with
  | nil=>rcases hA with rfl | rfl<;>rcases hB with rfl | rfl<;>decide
  | cons c t=>
  have hC:=hp c (.tail _ (.tail _ (.head _)))
  obtain rfl:=List.eq_nil_of_length_eq_zero (Nat.le_zero.mp (Nat.le_of_succ_le_succ (Nat.le_of_succ_le_succ (Nat.le_of_succ_le_succ h3))))
  rcases hA with rfl | rfl<;>rcases hB with rfl | rfl<;>rcases hC with rfl | rfl<;>decide
theorem fold_rep' (c:Nat):∀ (k:Nat) (acc:Array Nat),((List.replicate k (#[c]:Array Nat)).foldl (·++·) acc).toList=acc.toList++List.replicate k c
  | 0,acc=>by simp
  | k+1,acc=>by rw [List.replicate_succ,List.foldl_cons,fold_rep' c k,List.replicate_succ];simp
theorem mul_one (c:Nat) (n:Int):Lc (Txt.mul ⟨#[c]⟩ n)=List.replicate n.toNat c:=by
  unfold Txt.mul
  split
  · rw [show n.toNat=0 by omega];rfl
  · split
    · rename_i h
      have:n=1:=by simpa [Str.length] using h
      subst this;rfl
    · exact fold_rep' c n.toNat #[]
theorem Lc_app (x y:Str):Lc (x++y)=Lc x++Lc y:=by unfold Lc;rw [cps_append];simp
theorem str_ext {x y:Str} (h:Lc x=Lc y):x=y:=by
  obtain ⟨a⟩:=x
  obtain ⟨b⟩:=y
  exact congrArg Str.mk (Array.toList_inj.mp h)
noncomputable def dgs:Nat->Int->List Int
  | 0,x=>[x % 64]
  | n+1,x=>dgs n (x / 64)++[x % 64]
noncomputable def ends0:Nat->Int->Prop
  | 0,x=>x / 64=0
  | n+1,x=>ends0 n (x / 64)
theorem dgs_fold:∀ (n:Nat) (x:Int),ends0 n x->(dgs n x).foldl (fun a x=>a*64+x) 0=x∧∀ d,d∈dgs n x->0≤d∧d<64
  | n,x,h=>by
    have hm:0≤x % 64∧x % 64<64:=⟨Int.emod_nonneg _ (by decide),Int.emod_lt_of_pos _ (by decide)⟩
    have hx:=Int.ediv_mul_add_emod x 64
    cases n with
    | zero=>
      rw [show x / 64=0 from h] at hx
      exact ⟨hx,fun d hd=>by rw [List.mem_singleton.mp hd];exact hm⟩
    | succ n=>
      obtain ⟨i1,i2⟩:=dgs_fold n (x / 64) h
      unfold dgs
      refine ⟨?_,fun d hd=>(List.mem_append.mp hd).elim (i2 d) fun q=>by rw [List.mem_singleton.mp q];exact hm⟩
      rw [List.foldl_append,i1]
      exact hx
theorem flt_one (i q:Int) (hi:(i==0)=false) (l:List Int):(if (i==0||q != 0)=true then i::l else l)=(if q=0 then [] else [i])++l:=by
  rw [hi]
  by_cases h:q=0
  · rw [h];rfl
  · rw [if_neg h,if_pos (by simpa using h)];rfl
theorem digits_ok {v:Int} (h0:0≤v) (h1:v<2^36):∃ d ds,digitsFn v=d::ds∧(∀ x,x∈d::ds->0≤x∧x<64)∧ds.foldl (fun a x=>a*64+x) d=v:=by
  have e:∀ i:Int,v.fdiv (64^i.toNat)=v / 64^i.toNat:=fun i=>Int.fdiv_eq_ediv_of_nonneg _ (Int.le_of_lt (Int.pow_pos (by decide)))
  have dd:∀ n:Nat,v / 64^(n+1)=v / 64^n / 64:=fun n=>by rw [Int.pow_succ];exact (Int.ediv_ediv_of_nonneg (Int.le_of_lt (Int.pow_pos (by decide)))).symm
  have d1:v / 64^(1:Int).toNat=v / 64:=(dd 0).trans (by rw [Int.pow_zero,Int.ediv_one])
  have d2:v / 64^(2:Int).toNat=v / 64 / 64:=(dd 1).trans (congrArg (· / 64) d1)
  have d3:v / 64^(3:Int).toNat=v / 64 / 64 / 64:=(dd 2).trans (congrArg (· / 64) d2)
  have d4:v / 64^(4:Int).toNat=v / 64 / 64 / 64 / 64:=(dd 3).trans (congrArg (· / 64) d3)
  have d5:v / 64^(5:Int).toNat=v / 64 / 64 / 64 / 64 / 64:=(dd 4).trans (congrArg (· / 64) d4)
  have d6:v / 64 / 64 / 64 / 64 / 64 / 64=0:=((dd 5).trans (congrArg (· / 64) d5)).symm.trans (Int.ediv_eq_zero_of_lt h0 h1)
  have hd:digitsFn v=(([5,4,3,2,1,0]:List Int).filter fun i=>i==0||v.fdiv (64^i.toNat) != 0).map fun i=>(v / 64^i.toNat) % 64:=by
    unfold digitsFn
    refine List.map_congr_left fun i θ=>?_
    rw [e i,Int.fmod_eq_emod_of_nonneg _ (by decide)]
  have hf:(([5,4,3,2,1,0]:List Int).filter fun i=>i==0||v.fdiv (64^i.toNat) != 0) =
      (if v / 64 / 64 / 64 / 64 / 64=0 then [] else [5])++((if v / 64 / 64 / 64 / 64=0 then [] else [4])++((if v / 64 / 64 / 64=0 then [] else [3])++((if v / 64 / 64=0 then [] else [2])++((if v / 64=0 then [] else [1])++[0])))):=by
    rw [List.filter_cons,List.filter_cons,List.filter_cons,List.filter_cons,List.filter_cons,flt_one _ _ rfl,flt_one _ _ rfl,flt_one _ _ rfl,flt_one _ _ rfl,flt_one _ _ rfl,e,e,e,e,e,d1,d2,d3,d4,d5]
    rfl
  rw [hf] at hd
  have fin:∀ n,digitsFn v=dgs n v->ends0 n v->∃ d ds,digitsFn v=d::ds∧(∀ x,x∈d::ds->0≤x∧x<64)∧ds.foldl (fun a x=>a*64+x) d=v:=fun n hn hz=>by
    obtain ⟨f1,f2⟩:=dgs_fold n v hz
    rw [hn]
    cases hl:dgs n v with
    | nil=>cases n<;>simp [dgs] at hl
    | cons d ds=>
      rw [hl] at f1 f2
      exact ⟨d,ds,rfl,f2,by rw [List.foldl_cons,Int.zero_mul,Int.zero_add] at f1;exact f1⟩
  have d0:v / 64^(0:Int).toNat=v:=Int.ediv_one v
  by_cases q1:v / 64=0
  · refine fin 0 (hd.trans ?_) q1
    rw [q1,if_pos rfl,if_pos (by decide),if_pos (by decide),if_pos (by decide),if_pos (by decide)]
    show [v / 64^(0:Int).toNat % 64]=[v % 64]
    rw [d0]
  rw [if_neg q1] at hd
  by_cases q2:v / 64 / 64=0
  · refine fin 1 (hd.trans ?_) q2
    rw [q2,if_pos rfl,if_pos (by decide),if_pos (by decide),if_pos (by decide)]
    show [v / 64^(1:Int).toNat % 64,v / 64^(0:Int).toNat % 64]=[v / 64 % 64,v % 64]
    rw [d1,d0]
  rw [if_neg q2] at hd
  by_cases q3:v / 64 / 64 / 64=0
  · refine fin 2 (hd.trans ?_) q3
    rw [q3,if_pos rfl,if_pos (by decide),if_pos (by decide)]
    show [v / 64^(2:Int).toNat % 64,v / 64^(1:Int).toNat % 64,v / 64^(0:Int).toNat % 64]=[v / 64 / 64 % 64,v / 64 % 64,v % 64]
    rw [d2,d1,d0]
  rw [if_neg q3] at hd
  by_cases q4:v / 64 / 64 / 64 / 64=0
  · refine fin 3 (hd.trans ?_) q4
    rw [q4,if_pos rfl,if_pos (by decide)]
    show [v / 64^(3:Int).toNat % 64,v / 64^(2:Int).toNat % 64,v / 64^(1:Int).toNat % 64,v / 64^(0:Int).toNat % 64]=[v / 64 / 64 / 64 % 64,v / 64 / 64 % 64,v / 64 % 64,v % 64]
    rw [d3,d2,d1,d0]
  rw [if_neg q4] at hd
  by_cases q5:v / 64 / 64 / 64 / 64 / 64=0
  · refine fin 4 (hd.trans ?_) q5
    rw [q5,if_pos rfl]
    show [v / 64^(4:Int).toNat % 64,v / 64^(3:Int).toNat % 64,v / 64^(2:Int).toNat % 64,v / 64^(1:Int).toNat % 64,v / 64^(0:Int).toNat % 64]=[v / 64 / 64 / 64 / 64 % 64,v / 64 / 64 / 64 % 64,v / 64 / 64 % 64,v / 64 % 64,v % 64]
    rw [d4,d3,d2,d1,d0]
  · refine fin 5 (hd.trans ?_) d6
    rw [if_neg q5]
    show [v / 64^(5:Int).toNat % 64,v / 64^(4:Int).toNat % 64,v / 64^(3:Int).toNat % 64,v / 64^(2:Int).toNat % 64,v / 64^(1:Int).toNat % 64,v / 64^(0:Int).toNat % 64]=[v / 64 / 64 / 64 / 64 / 64 % 64,v / 64 / 64 / 64 / 64 % 64,v / 64 / 64 / 64 % 64,v / 64 / 64 % 64,v / 64 % 64,v % 64]
    rw [d5,d4,d3,d2,d1,d0]
theorem parse_ok {v:Int} (h0:0≤v) (h1:v<2^36) (t:List Int):parseV (octetsFn v++t)=some (v,t):=by
  obtain ⟨d,ds,e,hm,hv⟩:=digits_ok h0 h1
  have hd:=hm d (.head _)
  rw [octets_enc,e,parse_enc hd.1 hd.2 fun x hx=>hm x (.tail _ hx),hv]
structure GoodT (base:Int) (t:Thing):Prop where
  v0:0≤t.1
  v1:t.1<2^36
  oc:t.2.1=octetsFn t.1
  nm:∀ c,c∈Lc t.2.2->c≠10∧c≠58∧c≠46
  no:PyData.strOk t.2.2=true
  vb:base≠0->t.1<base.natAbs
structure GoodS (base:Int) (s:RunSt):Prop where
  nm:∀ c,c∈Lc s.names->c≠10∧c≠58
  z:base=0->s.number=0
noncomputable def TailOk (tail:Str):Prop:=Lc tail=[]∨∃ c r,Lc tail=c::r∧(c=10∨c=58)
theorem told_push {base number v:Int} (h0:0≤v) (hv:base≠0->v<base.natAbs) (hz:base=0->number=0):told base (number*base+signI base*v)=(number,signI base*v):=by
  unfold told
  by_cases hb:base=0
  · rw [if_pos hb,hz hb]
    subst hb
    show _=((0:Int),(1-1)*v)
    rw [Int.sub_self,Int.zero_mul]
  · rw [if_neg hb]
    have hv:=hv hb
    by_cases hp:0<base
    · have hs:signI base=1:=by unfold signI;rw [if_pos hp,if_neg (by omega)];rfl
      rw [hs,Int.one_mul]
      obtain ⟨x,y⟩:=div_pair hp h0 (by omega +splitNatSub) (show number*base+v=_ from rfl)
      rw [x,y]
    · have hn:base<0:=by omega
      have hs:signI base=-1:=by unfold signI;rw [if_neg (by omega +splitNatSub),if_pos hn];rfl
      rw [hs]
      obtain ⟨x,y⟩:=neg_div (a:=number*base+-1*v) hn
      obtain ⟨x',y'⟩:=div_pair (A:=-(number*base+-1*v)) (b:=-base) (q:=number) (r:=v) (by omega +splitNatSub) h0 (by omega) (by rw [Int.mul_neg];omega)
      rw [← x,← y,x',y']
      refine Prod.ext rfl ?_
      show -v=-1*v
      omega
theorem strip_push {s:RunSt} {base:Int} {t:Thing} {tail:Str} (hs:GoodS base s) (ht:GoodT base t) (hT:TailOk tail):stripFn ((pushed base s t).names++tail)=t.2.2:=by
  refine str_ext (strip_last (P:=Lc s.names++[46]) (n:=Lc t.2.2) (T:=Lc tail) ?_ (.inr ⟨_,rfl⟩) (fun c hc=>?_) (fun h=>(ht.nm _ h).2.2 rfl) hT)
  · show Lc (((s.names ++ ".")++t.2.2)++tail)=_
    rw [Lc_app,Lc_app,Lc_app]
    rw [show Lc "." = [46] by rw [show (Str.ofString ".")=⟨#[46]⟩ from s46]]
  · rcases List.mem_append.mp hc with hc | hc
    · rcases List.mem_append.mp hc with hc | hc
      · exact hs.nm c hc
      · rw [List.mem_singleton.mp hc];decide
    · exact ⟨(ht.nm c hc).1,(ht.nm c hc).2.1⟩
theorem chop_push {s:RunSt} {base:Int} {t:Thing}:chopped (pushed base s t).names t.2.2=s.names:=by
  refine str_ext ?_
  have h:Lc ((s.names ++ ".")++t.2.2)=Lc s.names++([46]++Lc t.2.2):=by rw [Lc_app,Lc_app,show Lc "." = [46] by rw [show (Str.ofString ".")=⟨#[46]⟩ from s46],List.append_assoc]
  have hl:((s.names ++ ".")++t.2.2).length=s.names.length+(1+t.2.2.length):=by rw [len_cps,show ((s.names ++ ".")++t.2.2).cps.toList=_ from h,len_cps,len_cps];simp [Nat.add_comm]
  unfold chopped
  show Lc (Txt.slice ((s.names ++ ".")++t.2.2) none (some ((((s.names ++ ".")++t.2.2).length:Int)-t.2.2.length-1)))=_
  rw [hl,show (((s.names.length+(1+t.2.2.length):Nat):Int)-t.2.2.length-1)=(s.names.length:Int) by omega]
  refine (slice_init (by rw [hl];omega)).trans ?_
  rw [show ((s.names ++ ".")++t.2.2).cps.toList=_ from h,len_cps]
  exact List.take_left
theorem pop_push {s:RunSt} {base:Int} {t:Thing} {tail:Str} (hs:GoodS base s) (ht:GoodT base t) (hT:TailOk tail) (r:List (Option Thing)):runFn base tail (none::r) (pushed base s t)=runFn base tail r s:=by
  have e1:parseV (pushed base s t).tape=some (t.1,s.tape):=by
    show parseV (t.2.1++s.tape)=_
    rw [ht.oc,parse_ok ht.v0 ht.v1]
  have e2:(pushed base s t).pile.getLast?=some t:=List.getLast?_concat
  have e3:told base (pushed base s t).number=(s.number,signI base*t.1):=told_push ht.v0 ht.vb hs.z
  have e4:=strip_push hs ht hT
  have e5:fits base tail (pushed base s t) t.1 t=true:=by
    unfold fits
    rw [e3,e4]
    exact eqv_self (okD_fits ht.no)
  have e6:popped base tail (pushed base s t) s.tape=s:=by
    unfold popped
    rw [e3,e4,chop_push,show (pushed base s t).pile.dropLast=s.pile from List.dropLast_concat]
  rw [runFn,e1]
  dsimp only
  rw [e2]
  dsimp only
  rw [e5,if_pos rfl,e6]
theorem good_push {s:RunSt} {base:Int} {t:Thing} (hs:GoodS base s) (ht:GoodT base t):GoodS base (pushed base s t):=by
  refine ⟨fun c hc=>?_,fun hb=>?_⟩
  · have hc:c∈Lc ((s.names ++ ".")++t.2.2):=hc
    rw [Lc_app,Lc_app,show Lc "." = [46] by rw [show (Str.ofString ".")=⟨#[46]⟩ from s46]] at hc
    rcases List.mem_append.mp hc with hc | hc
    · rcases List.mem_append.mp hc with hc | hc
      · exact hs.nm c hc
      · rw [List.mem_singleton.mp hc];decide
    · exact ⟨(ht.nm c hc).1,(ht.nm c hc).2.1⟩
  · show s.number*base+signI base*t.1=0
    rw [hs.z hb,hb]
    show 0*0+(1-1)*t.1=0
    rw [Int.sub_self,Int.zero_mul,Int.zero_mul];rfl
noncomputable abbrev stOf (base:Int) (s:RunSt) (P:List Thing):RunSt:=P.foldl (pushed base) s
theorem st_snoc (base:Int) (s:RunSt) (P:List Thing) (t:Thing):stOf base s (P++[t])=pushed base (stOf base s P) t:=by unfold stOf;rw [List.foldl_append];rfl
theorem st_good {base:Int}:∀ {P:List Thing} {s:RunSt},GoodS base s->(∀ t,t∈P->GoodT base t)->GoodS base (stOf base s P)
  | [],_,h,_=>h
  | t::P,s,h,hP=>st_good (P:=P) (good_push h (hP t (.head _))) fun u hu=>hP u (.tail _ hu)
noncomputable def deedOf (T:Thing) (c:Nat):Option Thing:=if c==40 then some T else none
noncomputable def left (T:Thing):List Nat->List Thing->List Thing × Bool
  | [],P=>(P,false)
  | c::r,P=>if c==40 then left T r (P++[T]) else if P.isEmpty then ([],true) else left T r P.dropLast
theorem run_left {base:Int} {tail:Str} {T:Thing} {s:RunSt} (hs:GoodS base s) (hT:GoodT base T) (hl:TailOk tail) (hp:s.pile=[]) (ht:s.tape=[]):∀ (row:List Nat) (P:List Thing),(∀ t,t∈P->GoodT base t) ->
    runFn base tail (row.map (deedOf T)) (stOf base s P)=runEnd tail (stOf base s (left T row P).1) (left T row P).2
  | [],P,_=>rfl
  | c::r,P,hP=>by
    unfold left
    show runFn base tail (deedOf T c::r.map (deedOf T)) (stOf base s P)=_
    cases hc:c==40 with
    | true=>
      have e:deedOf T c=some T:=by unfold deedOf;rw [hc];rfl
      rw [e,runFn,← st_snoc,run_left hs hT hl hp ht r (P++[T]) fun t h=>(List.mem_append.mp h).elim (hP t) fun q=>by rw [List.mem_singleton.mp q];exact hT]
      rfl
    | false=>
      have e:deedOf T c=none:=by unfold deedOf;rw [hc];rfl
      rw [e]
      rcases List.eq_nil_or_concat P with rfl | ⟨P',t,rfl⟩
      · show runFn base tail (none::_) s=runEnd tail s true
        rw [runFn,ht,hp]
        rfl
      · rw [List.concat_eq_append] at *
        have hP':∀ u,u∈P'->GoodT base u:=fun u hu=>hP u (List.mem_append_left _ hu)
        rw [st_snoc,pop_push (st_good hs hP') (hP t (List.mem_append_right _ (.head _))) hl,run_left hs hT hl hp ht r P' hP']
        have:(P'++[t]).isEmpty=false:=by cases P'<;>rfl
        simp only [this,Bool.false_eq_true,if_false,List.dropLast_concat]
theorem left_is (T:Thing):∀ (row:List Nat) (P:List Thing),parL row->left T row P=if (P.length:Int)+(pol row).1<0 then ([],true) else (P.take ((P.length:Int)+(pol row).1).toNat++List.replicate ((pol row).2-(pol row).1).toNat T,false)
  | [],P,_=>by
    show (P,false)=if (P.length:Int)+0<0 then _ else (P.take ((P.length:Int)+0).toNat++List.replicate ((0:Int)-0).toNat T,false)
    rw [if_neg (by omega),Int.add_zero,Int.toNat_natCast,List.take_length]
    simp
  | c::r,P,hp=>by
    have hr:parL r:=fun c hc=>hp c (.tail _ hc)
    have h1:=pol_le r
    have h2:=pol_hi r
    unfold left
    rw [pol_c]
    dsimp only
    rcases hp c (.head _) with rfl | rfl
    · simp only [beq_self_eq_true,if_true]
      rw [left_is T r (P++[T]) hr,List.length_append,List.length_singleton]
      by_cases h:1+(pol r).1<0
      · rw [if_pos h]
        by_cases q:(P.length:Int)+(1+(pol r).1)<0
        · rw [if_pos (by omega),if_pos q]
        · rw [if_neg (by omega),if_neg q,List.take_append_of_le_length (by omega)]
          rw [show (((P.length+1:Nat):Int)+(pol r).1).toNat=((P.length:Int)+(1+(pol r).1)).toNat by omega,show (1+(pol r).2-(1+(pol r).1)).toNat=((pol r).2-(pol r).1).toNat by omega]
      · rw [if_neg h,if_neg (by omega),if_neg (by omega)]
        rcases Int.lt_or_eq_of_le h1 with q | q
        · have q:(pol r).1=-1:=by omega
          rw [q,show (((P.length+1:Nat):Int)+-1).toNat=P.length by omega,show ((P.length:Int)+0).toNat=P.length by omega,List.take_left,List.take_length,show ((pol r).2 - -1).toNat=(1+(pol r).2-0).toNat by omega]
        · rw [q,show (((P.length+1:Nat):Int)+0).toNat=(P++[T]).length by simp,show ((P.length:Int)+0).toNat=P.length by omega,List.take_length,List.take_length,show (1+(pol r).2-0).toNat=((pol r).2-0).toNat+1 by omega,List.replicate_succ,List.append_assoc]
          rfl
    · simp only [show ((41:Nat)==40)=false from rfl,Bool.false_eq_true,if_false]
      rw [if_pos (show -1+(pol r).1<0 by omega)]
      rcases List.eq_nil_or_concat P with rfl | ⟨P',t,rfl⟩
      · rw [if_pos (show ([]:List Thing).isEmpty=true from rfl),if_pos (show (([]:List Thing).length:Int)+(-1+(pol r).1)<0 by show (0:Int)+_<0;omega)]
      · rw [List.concat_eq_append]
        have:(P'++[t]).isEmpty=false:=by cases P'<;>rfl
        simp only [this,Bool.false_eq_true,if_false,List.dropLast_concat]
        rw [left_is T r P' hr,List.length_append,List.length_singleton,show ((P'.length+1:Nat):Int)+(-1+(pol r).1)=(P'.length:Int)+(pol r).1 by omega,show (-1+(pol r).2-(-1+(pol r).1))=(pol r).2-(pol r).1 by omega]
        by_cases q:(P'.length:Int)+(pol r).1<0
        · rw [if_pos q,if_pos q]
        · rw [if_neg q,if_neg q,List.take_append_of_le_length (by omega)]
theorem run_push (base:Int) (tail:Str):∀ (P:List Thing) (r:List (Option Thing)) (s:RunSt),runFn base tail (P.map some++r) s=runFn base tail r (stOf base s P)
  | [],_,_=>rfl
  | t::P,r,s=>by
    show runFn base tail (some t::(P.map some++r)) s=_
    rw [runFn,run_push base tail P r];rfl
theorem st_tape (base:Int):∀ (P:List Thing) (s:RunSt),(stOf base s P).tape=P.reverse.flatMap (·.2.1)++s.tape
  | [],_=>rfl
  | t::P,s=>by
    show (stOf base (pushed base s t) P).tape=_
    rw [st_tape base P,List.reverse_cons,List.flatMap_append,List.append_assoc]
    show _++(t.2.1++s.tape)=_
    simp
noncomputable def numL (base:Int) (P:List Thing):List Int:=P.reverse.zipIdx.map fun p=>signI base*p.1.1*base^p.2
theorem sum_shift (base:Int):∀ (l:List Thing) (i:Nat),((l.zipIdx (i+1)).map fun p=>signI base*p.1.1*base^p.2).sum=((l.zipIdx i).map fun p=>signI base*p.1.1*base^p.2).sum*base
  | [],_=>(Int.zero_mul _).symm
  | t::l,i=>by
    rw [List.zipIdx_cons,List.zipIdx_cons,List.map_cons,List.map_cons,List.sum_cons,List.sum_cons,sum_shift base l (i+1),Int.add_mul]
    dsimp only
    rw [Int.pow_succ,Int.mul_assoc _ _ base]
theorem num_snoc (base:Int) (P:List Thing) (t:Thing):(numL base (P++[t])).sum=(numL base P).sum*base+signI base*t.1:=by
  unfold numL
  rw [List.reverse_append]
  show ((t::P.reverse).zipIdx.map _).sum=_
  rw [List.zipIdx_cons,List.map_cons,List.sum_cons,sum_shift base P.reverse 0,Int.add_comm]
  show _+signI base*t.1*base^0=_
  rw [Int.pow_zero,Int.mul_one]
theorem st_num (base:Int) (s:RunSt):∀ (n:Nat) (P:List Thing),P.length=n->(stOf base s P).number=s.number*base^P.length+(numL base P).sum
  | 0,P,h=>by
    rw [List.length_eq_zero_iff.mp h]
    show s.number=s.number*base^0+0
    rw [Int.pow_zero,Int.mul_one,Int.add_zero]
  | n+1,P,h=>by
    rcases List.eq_nil_or_concat P with rfl | ⟨P',t,rfl⟩
    · cases h
    · rw [List.concat_eq_append] at *
      rw [List.length_append,List.length_singleton] at h
      rw [st_snoc,num_snoc]
      show (stOf base s P').number*base+signI base*t.1=_
      rw [st_num base s n P' (by omega),List.length_append,List.length_singleton,Int.pow_succ,Int.add_mul,← Int.mul_assoc,Int.add_assoc]
noncomputable def lastName (bottom:Str) (P:List Thing):Str:=match P.getLast? with
  | some t=>t.2.2
  | none=>bottom
theorem st_strip {base:Int} {s:RunSt} {tail:Str} {P:List Thing} (hs:GoodS base s) (hb:∀ c,c∈Lc s.names->c≠46) (hP:∀ t,t∈P->GoodT base t) (hT:TailOk tail):stripFn ((stOf base s P).names++tail)=lastName s.names P:=by
  rcases List.eq_nil_or_concat P with rfl | ⟨P',t,rfl⟩
  · refine str_ext (strip_last (P:=[]) (n:=Lc s.names) (T:=Lc tail) ?_ (.inl rfl) hs.nm (fun h=>hb _ h rfl) hT)
    exact Lc_app _ _
  · rw [List.concat_eq_append] at *
    unfold lastName
    rw [st_snoc,strip_push (st_good hs fun u hu=>hP u (List.mem_append_left _ hu)) (hP t (List.mem_append_right _ (.head _))) hT,List.getLast?_concat]
noncomputable def stayOf (P:List Thing) (T:Thing) (row:List Nat):List Thing:=if (P.length:Int)≥-(pol row).1 then P.take ((P.length:Int) - -(pol row).1).toNat++List.replicate ((pol row).2-(pol row).1).toNat T else []
theorem run_gives {base ground:Int} {bottom tail:Str} {P:List Thing} {T:Thing} {row:List Nat} (hz:base=0->ground=0) (hb:∀ c,c∈Lc bottom->c≠10∧c≠58∧c≠46) (hP:∀ t,t∈P->GoodT base t) (hT:GoodT base T) (hl:TailOk tail) (hr:parL row) :
    runFn base tail (P.map some++row.map (deedOf T)) ⟨[],[],ground,bottom⟩=.tup [.int (ground*base^(stayOf P T row).length+(numL base (stayOf P T row)).sum),.lst (((stayOf P T row).reverse.flatMap (·.2.1)).map D.int),.str (lastName bottom (stayOf P T row)),.bool (decide ((P.length:Int) < -(pol row).1))]:=by
  have hs:GoodS base ⟨[],[],ground,bottom⟩:=⟨fun c hc=>⟨(hb c hc).1,(hb c hc).2.1⟩,hz⟩
  have e:left T row P=(stayOf P T row,decide ((P.length:Int) < -(pol row).1)):=by
    rw [left_is T row P hr]
    unfold stayOf
    by_cases h:(P.length:Int) < -(pol row).1
    · rw [if_pos (by omega),if_neg (by omega),decide_eq_true h]
    · rw [if_neg (by omega),if_pos (by omega),decide_eq_false h,Int.sub_neg]
  have hm:∀ t,t∈stayOf P T row->GoodT base t:=fun t ht=>by
    unfold stayOf at ht
    split at ht
    · rcases List.mem_append.mp ht with q | q
      · exact hP t (List.mem_of_mem_take q)
      · rw [List.eq_of_mem_replicate q];exact hT
    · cases ht
  rw [run_push,run_left hs hT hl rfl rfl row P hP,e]
  unfold runEnd
  dsimp only
  rw [st_num base _ _ _ rfl,st_tape,List.append_nil,st_strip hs (fun c hc=>(hb c hc).2.2) hm hl]
noncomputable abbrev lawEnv (L:Addr):Env:=envOfC "law" (makerOf 26).2 L 143 (.ref 142)
noncomputable abbrev lawBody:List Stmt:=(makerOf 26).1
noncomputable def headOf (l:List Stmt):Stmt:=l.headD (.Pass default)
noncomputable abbrev stAt (i:Nat):Stmt:=headOf (lawBody.drop i)
structure LawAt (w:World) (s₁:Shared) (A:Around) (L:Addr) (N:Addr->Prop):Prop where
  G:GW w s₁
  hA:Rm 200 A
  hh:A.handled=none
  hfr:A.frames=some [lawEnv L]
  K:EnvOk (lawEnv L)
  hu:A.units+80<cLine
  hN:∀ a,¬ N a
noncomputable def LawQ (sb:Shared) (L:Addr) (Q:Flow->Shared->Prop):Prop:=∀ s',To (Own (lawEnv L)) sb s'->Q (.ret (.bool true)) s'
noncomputable def slI (xs:List Int) (lo hi st:Option Int):List Int:=(sliceRange (sliceBounds lo hi st xs.length).1 (sliceBounds lo hi st xs.length).2.1 (sliceBounds lo hi st xs.length).2.2).filterMap (xs[·]?)
theorem slD_ints (xs:List Int) (lo hi st:Option Int):slD (xs.map D.int) lo hi st=(slI xs lo hi st).map D.int:=by
  unfold slD slI
  rw [List.length_map,List.map_filterMap]
  exact fm_congr _ fun k θ=>by rw [List.getElem?_map]
noncomputable def sumFn (xs:List Int) (k i:Int):Int:=(i+((slI xs (some k) (some 60) (some 7)).map fun v=>v.fmod (10^9)).sum).fmod (10^9)
theorem sum_range (xs:List Int) (k i:Int):0≤sumFn xs k i∧sumFn xs k i<1000000000:=⟨Int.fmod_nonneg_of_pos _ (by decide),Int.fmod_lt_of_pos _ (by decide)⟩
theorem bits10:Builtin.Int.intBits 10=4:=by decide +kernel
theorem slI_len (xs:List Int) (lo hi st:Option Int):(slI xs lo hi st).length≤(sliceRange (sliceBounds lo hi st xs.length).1 (sliceBounds lo hi st xs.length).2.1 (sliceBounds lo hi st xs.length).2.2).length:=List.length_filterMap_le _ _
section
variable {w:World} {s₁ sb s:Shared} {N:Addr->Prop} {A:Around} {L:Addr} {ρ:List (Str × D)} {γ:List (D × Value)} {Q:Flow->Shared->Prop} {E:Value->Shared->Prop}
theorem ev_10_9 {env:Env} {l r:Expr} {pos:Pos} (x:Ev w s₁ A env ρ l (.int 10)) (y:Ev w s₁ A env ρ r (.int 9)):Ev w s₁ A env ρ (.BinOp l .Pow r pos) (.int (10^9)):=ev_pow x y (by decide) (by rw [bits10];decide)
theorem law_0 (C:LawAt w s₁ A L N) {rest:List Stmt} {xs:List Int} (hx:xs.length≤63) (R:Rel s₁ N (Own (lawEnv L)) sb (lawEnv L) [("script", .lst (xs.map D.int))] γ s)
    (h:∀ S0 S1 S2 S3 S4 S5 S6:Int,(∀ x,x∈[S0,S1,S2,S3,S4,S5,S6]->0≤x∧x<1000000000)->∀ s',Rel s₁ N (Own (lawEnv L)) sb (lawEnv L) [("sums", .lst [.int S0,.int S1,.int S2,.int S3,.int S4,.int S5,.int S6])] γ s'->Xs w A (lawEnv L) rest Q E s'):Xs w A (lawEnv L) (stAt 0::rest) Q E s:=by
  obtain ⟨G,hA,hh,hfr,K,hu,hN⟩:=C
  refine xs_assign R (d:=.lst [.int (sumFn xs 0 0),.int (sumFn xs 1 5),.int (sumFn xs 2 11),.int (sumFn xs 3 0),.int (sumFn xs 4 2557),.int (sumFn xs 5 3),.int (sumFn xs 6 26905)])
    (Ev.conv (ev_lc2 (n:=200) G K hA hh (evit_enumT (all:=([0,5,11,0,2557,3,26905]:List Int).map D.int) G K (by exact ev_tuple (evs_cons ev_int (evs_cons ev_int (evs_cons ev_int (evs_cons ev_int (evs_cons ev_int (evs_cons ev_int (evs_cons ev_int evs_nil))))))) (Nat.le_of_ble_eq_true rfl)) rfl rfl rfl) ⟨_,_,_,rfl⟩ (ScOk.of rfl) (fun θ=>rfl) rfl rfl
      (fun a b=>∃ (k:Nat) (i:Int),k<7∧a=.int k∧b=.int i) (fun a b=>onI (fun k=>onI (fun i=>.int (sumFn xs k i)) b) a) (fun C cells a b K₁ ⟨k,i,hk,e1,e2⟩=>?_) (fun d hd=>?_) (Nat.le_of_ble_eq_true rfl)) rfl) (.cell rfl rfl (own_cell rfl)) rfl fun s T K' R=>?_
  · subst e1;subst e2
    have hl:(slI xs (some (k:Int)) (some 60) (some 7)).length≤sizeLine:=by
      refine Nat.le_trans (slI_len _ _ _ _) ?_
      unfold sliceRange
      rw [List.length_map,List.length_range]
      have h1:(sliceBounds (some (k:Int)) (some 60) (some 7) xs.length).2.2=7:=rfl
      have h2:(sliceBounds (some (k:Int)) (some 60) (some 7) xs.length).2.1≤60:=by
        show max (0:Int) (min 60 (xs.length:Int))≤60;exact Int.max_le.mpr ⟨by decide,Int.min_le_left _ _⟩
      have h3:0≤(sliceBounds (some (k:Int)) (some 60) (some 7) xs.length).1:=by
        show 0≤max (0:Int) _;exact Int.le_max_left _ _
      rw [h1]
      unfold sizeLine
      split
      · split
        · omega
        · decide
      · split
        · omega
        · decide
    exact ev_mod (ev_add (ev_var K₁ rfl rfl rfl) (ev_b1 (ev_bi G K₁ rfl (by kernel_rfl) hv_sum rfl) (Ev.conv (d':=.lst (((slI xs (some (k:Int)) (some 60) (some 7)).map fun v=>v.fmod (10^9)).map D.int)) (ev_lc (n:=200) (tg:=fun θ=>True) (ds:=(slI xs (some (k:Int)) (some 60) (some 7)).map D.int) G K₁ hA hh
      (evit_list G (Ev.conv (ev_slice_lst (ds:=xs.map D.int) (lo:=some (k:Int)) (hi:=some 60) (st:=some 7) (by decide) (by rw [List.length_map];exact Nat.le_trans hx (Nat.le_of_ble_eq_true rfl)) (ev_var K₁ rfl rfl rfl) (pt_some (ev_var K₁ rfl rfl rfl)) (pt_some ev_int) (pt_some ev_int) (fun θ θ=>⟨_,rfl⟩)) (by rw [slD_ints])))
      trivial (ScOk.of rfl) (fun θ=>rfl) rfl (fun d=>∃ v,d=.int v) (onI fun v=>.int (v.fmod (10^9))) (fun C cells d K₂ ⟨v,e⟩=>by subst e;exact ev_mod (ev_var K₂ rfl rfl rfl) (ev_10_9 ev_int ev_int) (by decide)) (fun d hd=>by obtain ⟨v,_,e⟩:=List.mem_map.mp hd;exact ⟨v,e.symm⟩) (by rw [List.length_map];exact hl)) (by rw [map_ints])) rfl rfl (op_sum hh))) (ev_10_9 ev_int ev_int) (by decide)
  · obtain ⟨a,b,e,k,ea,i,eb,hk⟩:=enumD_mem (P:=fun k b=>∃ i,b=D.int i∧k<7) (fun j d hd=>by
      rw [List.getElem?_map] at hd
      obtain ⟨i,hi,rfl⟩:=Option.map_eq_some_iff.mp hd
      have:=(List.getElem?_eq_some_iff.mp hi).1
      exact ⟨i,rfl,by simpa using this⟩) d hd
    exact ⟨a,b,e,k,i,hk,ea,eb⟩
  · refine h _ _ _ _ _ _ _ (fun x hx=>?_) s (R.only _ ⟨rfl,trivial⟩)
    simp only [List.mem_cons,List.not_mem_nil,or_false] at hx
    rcases hx with rfl | rfl | rfl | rfl | rfl | rfl | rfl<;>exact sum_range _ _ _
end
section
variable {w:World} {s₁ sb s:Shared} {N:Addr->Prop} {A:Around} {L:Addr} {ρ:List (Str × D)} {γ:List (D × Value)} {Q:Flow->Shared->Prop} {E:Value->Shared->Prop}
noncomputable abbrev sumsD (S0 S1 S2 S3 S4 S5 S6:Int):D:=.lst [.int S0,.int S1,.int S2,.int S3,.int S4,.int S5,.int S6]
theorem law_1 (C:LawAt w s₁ A L N) {rest:List Stmt} {S0 S1 S2 S3 S4 S5 S6:Int} (h0:0≤S0∧S0<1000000000) (h1:0≤S1∧S1<1000000000) (R:Rel s₁ N (Own (lawEnv L)) sb (lawEnv L) [("sums", sumsD S0 S1 S2 S3 S4 S5 S6)] γ s)
    (h:∀ f b:List Int,f∈allWords->b∈allWords->∀ s',Rel s₁ N (Own (lawEnv L)) sb (lawEnv L) [("sums", sumsD S0 S1 S2 S3 S4 S5 S6),("words", .lst [wD (wrd0 f b.reverse),wD (wrd1 f b.reverse)]),("ray", rayD (rayFn f b.reverse))] γ s'->Xs w A (lawEnv L) rest Q E s'):Xs w A (lawEnv L) (stAt 1::stAt 2::stAt 3::rest) Q E s:=by
  obtain ⟨G,hA,hh,hfr,K,hu,hN⟩:=C
  have hf:=word_in S0
  have hb:=word_in S1
  have h:=h _ _ hf hb
  have lf:=(words_all _ hf).1
  have lb:=(words_all _ hb).1
  have hp:=(pair_ray (pairs_ok hf hb)).1
  have F0:=f_word (n:=198) G h0.1 h0.2
  have F1:=f_word (n:=198) G h1.1 h1.2
  generalize wordFn S0=f at *
  generalize wordFn S1=b at *
  refine xs_tuple_swap (names:=["front", "back"]) G (.inl hh) (fun θ θ θ θ=>.inl hh) R (ds:=[wD f,wD b.reverse]) ?_ rfl (.cons (as_bind (.local rfl rfl)) (.cons (as_bind (.local rfl rfl)) .nil)) ?_ ?_ fun s T K' R=>?_
  rotate_left
  · rfl
  · rfl
  rotate_left
  · exact ev_tuple (evs_cons (ev_callF (n:=200) G hA hh F0 (ev_gl G K rfl (by kernel_rfl) rfl) (evs_cons (ev_item_lst (i:=0) (ev_var K rfl rfl rfl) ev_int (by decide) (by decide) rfl (fun θ θ=>⟨_,rfl⟩)) evs_nil) rfl rfl rfl rfl)
      (evs_cons (Ev.conv (ev_slice_lst (ds:=b.map D.int) (lo:=none) (hi:=none) (st:=some (-1)) (by decide) (by rw [List.length_map];unfold sizeLine;omega) (ev_callF (n:=200) G hA hh F1 (ev_gl G K rfl (by kernel_rfl) rfl) (evs_cons (ev_item_lst (i:=1) (ev_var K rfl rfl rfl) ev_int (by decide) (by decide) rfl (fun θ θ=>⟨_,rfl⟩)) evs_nil) rfl rfl rfl rfl) pt_none pt_none (pt_some (Ev.conv (ev_neg ev_int) rfl)) (fun θ θ=>⟨_,rfl⟩)) (by rw [slD_rev];unfold wD;rw [List.map_reverse])) evs_nil)) (Nat.le_of_ble_eq_true rfl)
  have lb':b.reverse.length≤5:=by rw [List.length_reverse];exact lb
  generalize b.reverse=b' at *
  have hz:∀ m:List Int,m.length=2->((f.map D.int).length+(m.map D.int).length≤sizeLine∧(f.map D.int++m.map D.int).length+(b'.map D.int).length≤sizeLine):=fun m hm=>by
    rw [List.length_append,List.length_map,List.length_map,List.length_map];unfold sizeLine;omega
  have hw:∀ m:List Int,D.lst (f.map D.int++m.map D.int++b'.map D.int)=wD (f++m++b'):=fun m=>by unfold wD;rw [List.map_append,List.map_append]
  refine xs_assign R (d:=.lst [wD (wrd0 f b'),wD (wrd1 f b')]) (ev_list (evs_cons (Ev.conv (ev_bin (ev_bin (ev_var K rfl rfl rfl) (ev_list (ds:=([0,1]:List Int).map D.int) (by exact evs_cons ev_int (evs_cons ev_int evs_nil)) (Nat.le_of_ble_eq_true rfl)) (op_add_lst (hz [0,1] rfl).1)) (ev_var K rfl rfl rfl) (op_add_lst (hz [0,1] rfl).2)) (hw [0,1]))
    (evs_cons (Ev.conv (ev_bin (ev_bin (ev_var K rfl rfl rfl) (ev_list (ds:=([1,0]:List Int).map D.int) (by exact evs_cons ev_int (evs_cons ev_int evs_nil)) (Nat.le_of_ble_eq_true rfl)) (op_add_lst (hz [1,0] rfl).1)) (ev_var K rfl rfl rfl) (op_add_lst (hz [1,0] rfl).2)) (hw [1,0])) evs_nil)) (Nat.le_of_ble_eq_true rfl)) (.local rfl rfl) rfl fun s T K' R=>?_
  refine xs_assign R (d:=rayD (rayFn f b')) (ev_callF (n:=200) G hA hh (f_ray (n:=180) G (by omega) (by omega) hp) (ev_gl G K rfl (by kernel_rfl) rfl) (evs_cons (ev_var K rfl rfl rfl) (evs_cons (ev_var K rfl rfl rfl) evs_nil)) rfl rfl rfl rfl) (.local rfl rfl) rfl fun s T K' R=>?_
  exact h s (R.only _ ⟨rfl,rfl,rfl,trivial⟩)
end
theorem s40:Str.ofString "(" = ⟨#[40]⟩:=by decide +kernel
theorem s41:Str.ofString ")" = ⟨#[41]⟩:=by decide +kernel
theorem s00:Str.ofString "" = ⟨#[]⟩:=by decide +kernel
theorem par_ascii {x:Str} (h:parL (Lc x)):x.cps.all (·<128)=true:=by
  rw [← Array.all_toList,List.all_eq_true]
  intro c hc
  rcases h c hc with rfl | rfl<;>decide
noncomputable def drawnS (a b:Str) (x:List Int):Str:=Builtin.Str.glued (Str.ofString "") (x.map fun k=>pick a b k)
theorem drawn_cps (a b:Str) (x:List Int):Lc (drawnS a b x)=flatW (Lc a) (Lc b) x:=by
  unfold drawnS flatW
  rw [s00,glue_flat]
  unfold flat
  rw [List.map_map,List.flatMap_def]
  congr 1
  exact List.map_congr_left fun k θ=>(pick_app Lc a b k).symm
theorem sum_le {l:List Str} {m:Nat} (h:∀ x,x∈l->x.length≤m):(l.map (·.length)).sum≤m*l.length:=strSum' h
noncomputable def unS:D->Str
  | .str x=>x
  | _=>Str.empty
section
variable {w:World} {s₁ sb s:Shared} {N:Addr->Prop} {A:Around} {L:Addr} {ρ:List (Str × D)} {γ:List (D × Value)} {Q:Flow->Shared->Prop} {E:Value->Shared->Prop} {env:Env}
theorem ev_pickS {value slice:Expr} {pos:Pos} {k:Int} {a b:Str} (hk:one2 k) (v:Ev w s₁ A env ρ value (.lst [.str a,.str b])) (x:Ev w s₁ A env ρ slice (.int k)) (hs:∀ o i,∃ ops,subscripted slice false o i=operate ops (getItem o i)):Ev w s₁ A env ρ (.Subscript value slice pos) (.str (pick a b k)):=by
  have h:=ev_item_lst (pos:=pos) v x (by rcases hk with rfl | rfl<;>decide) (by rcases hk with rfl | rfl<;>decide) (pick_get hk) hs
  refine Ev.conv h ?_
  unfold pick;split<;>rfl
theorem ev_glue {o e:Expr} {apos pos:Pos} {l:List Str} (u:Ev w s₁ A env ρ o (.str (Str.ofString ""))) (y:Ev w s₁ A env ρ e (.lst (l.map D.str))) (hm:∀ x,x∈l->x.length≤1000) (hl:l.length≤100)
    (hs:starEach [e] env=[(false,eval e env)]) (hbase:attributeBase o "join" env (eval o env)=eval o env) (hk:backToKw pos (keywordEach [] env)=[]) (hline:(apos.endLine==pos.line)=true):Ev w s₁ A env ρ (.Call (.Attribute o "join" apos) [e] [] pos) (.str (Builtin.Str.glued (Str.ofString "") l)):=
  m_str1 u y PySem.F.slot_str_join PySem.F.type_str_join hs hbase hk hline (op_join (by
    have h:=sum_le hm
    rw [show (Str.ofString "").length=0 by rw [s00];rfl]
    have:1000*l.length≤1000*100:=Nat.mul_le_mul_left _ hl
    exact Nat.le_trans (Nat.le_trans h this) (Nat.le_of_ble_eq_true rfl)))
noncomputable def lackD (x:Str):D:=.tup [.int (-(pol (Lc x)).1),.int ((pol (Lc x)).2-(pol (Lc x)).1)]
theorem f_lacks' (G:GW w s₁) {n:Nat} {x:Str} (hx:parL (Lc x)):Fn w s₁ h0 (n+2) 121 [.str x] (lackD x):=by
  have:=f_lacks G (n:=n) (par_ascii hx)
  rw [lack_pol] at this
  exact this
noncomputable def takenS (m k:Int) (x:Str):Str:=Txt.mul "(" m++x++Txt.mul ")" k
theorem taken_cps (m k:Int) (x:Str):Lc (takenS m k x)=opn m.toNat++(Lc x++cls k.toNat):=by
  unfold takenS
  rw [Lc_app,Lc_app,s40,s41,mul_one,mul_one,List.append_assoc]
theorem ap_cps {ws:List (List Int)} {l p0 p1 k:Int}:Lc (apStr ws l p0 p1 k)=farRow (apLack ws l p0 p1 k) (pick p0 p1 k):=by
  unfold apStr farRow
  rw [Lc_app,s40,s41,mul_one,mul_one]
end
section
variable {w:World} {s₁ sb s:Shared} {N:Addr->Prop} {A:Around} {L:Addr} {ρ:List (Str × D)} {γ:List (D × Value)} {Q:Flow->Shared->Prop} {E:Value->Shared->Prop}
theorem pol_span:∀ l:List Nat,(pol l).2-(pol l).1≤l.length
  | []=>Int.le_refl _
  | c::r=>by
    have h1:=pol_span r
    have h2:=pol_le r
    rw [pol_c,List.length_cons]
    dsimp only
    by_cases hc:(c==40)=true
    · rw [if_pos hc];split<;>omega
    · rw [if_neg hc,if_pos (by omega)];omega
theorem pol_nat {l:List Nat} {n:Nat} (h:l.length≤n):(-(pol l).1).natAbs≤n∧((pol l).2-(pol l).1).natAbs≤n:=by
  have h1:=pol_len l
  have h2:=pol_span l
  have h3:=pol_hi l
  have h4:=pol_le l
  exact ⟨nab0 (Int.neg_nonneg_of_nonpos h4) (Int.le_trans (Int.neg_le_of_neg_le h1.1) (Int.ofNat_le.mpr h)),nab0 (Int.sub_nonneg_of_le h3) (Int.le_trans h2 (Int.ofNat_le.mpr h))⟩
theorem wpair {f b:List Int} (lf:f.length≤5) (lb:b.length≤5) (mf:∀ k,k∈f->one2 k) (mb:∀ k,k∈b->one2 k):∀ x,x∈[wrd0 f b,wrd1 f b]->x.length≤12∧∀ k,k∈x->one2 k:=fun x hx=>by
  have ha:∀ m:List Int,m.length=2->(∀ k,k∈m->one2 k)->(f++m++b).length≤12∧∀ k,k∈f++m++b->one2 k:=fun m hm h2=>by
    refine ⟨by rw [List.length_append,List.length_append,hm];exact Nat.add_le_add (Nat.add_le_add_right lf 2) lb,fun k hk=>?_⟩
    rcases List.mem_append.mp hk with hk | hk
    · exact (List.mem_append.mp hk).elim (mf k) (h2 k)
    · exact mb k hk
  rcases List.mem_cons.mp hx with rfl | hx
  · exact ha [0,1] rfl (fun k hk=>by unfold one2;simpa using hk)
  · rw [List.mem_singleton.mp hx]
    exact ha [1,0] rfl (fun k hk=>Or.symm (by simpa using hk))
theorem wpair01 (f b:List Int):∀ x,x∈[wrd0 f b,wrd1 f b]->(0:Int)∈x∧(1:Int)∈x:=fun x hx=>by
  have ha:∀ m:List Int,0∈m->1∈m->0∈f++m++b∧1∈f++m++b:=fun m h0 h1=>⟨List.mem_append_left _ (List.mem_append_right _ h0),List.mem_append_left _ (List.mem_append_right _ h1)⟩
  rcases List.mem_cons.mp hx with rfl | hx
  · exact ha [0,1] (by decide) (by decide)
  · rw [List.mem_singleton.mp hx]
    exact ha [1,0] (by decide) (by decide)
theorem flat_ge (r0 r1:List Nat) {x:List Int} {k:Int} (h:k∈x):(pick r0 r1 k).length≤(flatW r0 r1 x).length:=by
  obtain ⟨s,t,rfl⟩:=List.append_of_mem h
  unfold flatW
  rw [List.flatMap_append,List.flatMap_cons,List.length_append,List.length_append]
  exact Nat.le_trans (Nat.le_add_right _ _) (Nat.le_add_left _ _)
theorem law_4 (C:LawAt w s₁ A L N) {rest:List Stmt} {S:D} {f b:List Int} (hf:f∈allWords) (hb:b∈allWords) (R:Rel s₁ N (Own (lawEnv L)) sb (lawEnv L) [("sums", S),("words", .lst [wD (wrd0 f b.reverse),wD (wrd1 f b.reverse)]),("ray", rayD (rayFn f b.reverse))] γ s)
    (h:∀ s',Rel s₁ N (Own (lawEnv L)) sb (lawEnv L) [("sums", S),("words", .lst [wD (wrd0 f b.reverse),wD (wrd1 f b.reverse)]),("ray", rayD (rayFn f b.reverse))] γ s'->Xs w A (lawEnv L) rest Q E s'):Xs w A (lawEnv L) (stAt 4::rest) Q E s:=by
  obtain ⟨G,hA,hh,hfr,K,hu,hN⟩:=C
  have hp:=(pair_ray (pairs_ok hf hb)).2.1
  obtain ⟨lf,mf⟩:=words_all f hf
  obtain ⟨lb,mb⟩:=words_all b hb
  have lb':b.reverse.length≤5:=by rw [List.length_reverse];exact lb
  have mb':∀ k,k∈b.reverse->one2 k:=fun k hk=>mb k (List.mem_reverse.mp hk)
  generalize b.reverse=b' at *
  clear hf hb lb mb
  have hno:noval (rayD (rayFn f b'))=true:=by
    cases rayFn f b' with
    | none=>rfl
    | some t=>rfl
  refine xs_if R (ts_cmp (ev_var K rfl rfl rfl) ev_none (op_isnot_none hno) rfl) (fun hc s T R=>?_) fun hc s T R=>xs_nil (h s R)
  cases hr:rayFn f b' with
  | none=>rw [hr] at hc;cases hc
  | some t=>
  rw [hr] at R h
  obtain ⟨l,p0,p1⟩:=t
  obtain ⟨l2,q0,q1,a0,c0,a1,c1,n0,n1,ne,eq⟩:=hp l p0 p1 hr
  have lw:=fun x hx=>(⟨(wpair lf lb' mf mb' x hx).1,(wpair lf lb' mf mb' x hx).2,wpair01 f b' x hx⟩:x.length≤12∧(∀ k,k∈x->one2 k)∧(0:Int)∈x∧(1:Int)∈x)
  have le0:(farRow (apLack [wrd0 f b',wrd1 f b'] l p0 p1 0) p0).length≤300:=Nat.le_trans (flat_ge _ _ (wpair01 f b' _ (.head _)).1) n0
  have le1:(farRow (apLack [wrd0 f b',wrd1 f b'] l p0 p1 1) p1).length≤300:=Nat.le_trans (flat_ge _ _ (wpair01 f b' _ (.tail _ (.head _))).2) n1
  have z0:(apLack [wrd0 f b',wrd1 f b'] l p0 p1 0).natAbs≤1000∧(apLack [wrd0 f b',wrd1 f b'] l p0 p1 0-p0).natAbs≤1000:=by
    unfold farRow at le0
    rw [List.length_append,List.length_replicate,List.length_replicate] at le0
    exact nabT2 a0 a1 le0
  have z1:(apLack [wrd0 f b',wrd1 f b'] l p0 p1 1).natAbs≤1000∧(apLack [wrd0 f b',wrd1 f b'] l p0 p1 1-p1).natAbs≤1000:=by
    unfold farRow at le1
    rw [List.length_append,List.length_replicate,List.length_replicate] at le1
    exact nabT2 c0 c1 le1
  have FA:=f_apart (n:=196) G l2 (Nat.le_trans q0 (by decide)) (Nat.le_trans q1 (by decide)) (List.cons_ne_nil (wrd0 f b') [wrd1 f b']) (Nat.le_refl 2) (fun x hx=>⟨Nat.le_trans (lw x hx).1 (by decide),(lw x hx).2.2⟩) (fun k hk=>by
    rcases hk with rfl | rfl
    · exact z0
    · exact z1)
  have ca:Lc (apStr [wrd0 f b',wrd1 f b'] l p0 p1 0)=farRow (apLack [wrd0 f b',wrd1 f b'] l p0 p1 0) p0:=ap_cps
  have cb:Lc (apStr [wrd0 f b',wrd1 f b'] l p0 p1 1)=farRow (apLack [wrd0 f b',wrd1 f b'] l p0 p1 1) p1:=ap_cps
  refine xs_assign R (d:=.lst [.str (apStr [wrd0 f b',wrd1 f b'] l p0 p1 0),.str (apStr [wrd0 f b',wrd1 f b'] l p0 p1 1)]) (ev_callF (n:=200) G hA hh FA (ev_gl G K rfl (by kernel_rfl) rfl) (evs_cons (ev_var K rfl rfl rfl) (evs_cons (ev_var K rfl rfl rfl) evs_nil)) rfl rfl rfl rfl) (.cell rfl rfl (own_cell rfl)) rfl fun s T K' R=>?_
  rw [← ca] at le0
  rw [← cb] at le1
  rw [← ca,← cb] at n0 n1 ne eq
  have pa:parL (Lc (apStr [wrd0 f b',wrd1 f b'] l p0 p1 0)):=by rw [ca];exact par_far _ _
  have pb:parL (Lc (apStr [wrd0 f b',wrd1 f b'] l p0 p1 1)):=by rw [cb];exact par_far _ _
  clear FA ca cb z0 z1 hp
  generalize apStr [wrd0 f b',wrd1 f b'] l p0 p1 0=ra at *
  generalize apStr [wrd0 f b',wrd1 f b'] l p0 p1 1=rb at *
  have R:=R.only [("sums", S),("words", .lst ([wrd0 f b',wrd1 f b'].map wD)),("ray", rayD (some (l,p0,p1))),("apart", .lst [.str ra,.str rb])] ⟨rfl,rfl,rfl,rfl,trivial⟩
  rw [← drawn_cps] at n0 n1
  rw [← drawn_cps,← drawn_cps] at ne eq
  have p0':parL (Lc (drawnS ra rb (wrd0 f b'))):=by rw [drawn_cps];exact par_word pa pb _
  have p1':parL (Lc (drawnS ra rb (wrd1 f b'))):=by rw [drawn_cps];exact par_word pa pb _
  refine xs_lc (n:=200) (tg:=fun θ=>True) (ds:=[wrd0 f b',wrd1 f b'].map wD) G K hA hh R (evit_list G (ev_var K rfl rfl rfl)) trivial (ScOk.of rfl) (fun θ=>rfl) rfl (fun d=>∃ x,x∈[wrd0 f b',wrd1 f b']∧d=wD x) (fun d=>.str (drawnS ra rb (unW d))) (fun C cells d K₁ ⟨x,hx,e⟩=>?_) (fun d hd=>by obtain ⟨x,hx,rfl⟩:=List.mem_map.mp hd;exact ⟨x,hx,rfl⟩) (Nat.le_of_ble_eq_true rfl) (.local rfl rfl) rfl fun s T K' R=>?_
  · subst e
    rw [unW_wD]
    obtain ⟨x1,x2,_⟩:=lw x hx
    refine ev_glue (by exact ev_str) (Ev.conv (ev_lc (n:=200) (tg:=fun θ=>True) (ds:=x.map D.int) G K₁ hA hh (evit_list G (ev_var K₁ rfl rfl rfl)) trivial (ScOk.of rfl) (fun θ=>rfl) rfl (among x) (onI fun k=>.str (pick ra rb k)) (fun C cells d K₂ ⟨k,hk,e⟩=>by subst e;exact ev_pickS (x2 k hk) (ev_var K₂ rfl rfl rfl) (ev_var K₂ rfl rfl rfl) (fun θ θ=>⟨_,rfl⟩)) among_of (by rw [List.length_map];unfold sizeLine;omega)) (by rw [List.map_map,List.map_map];rfl)) (fun y hy=>?_) (by rw [List.length_map];omega) rfl rfl rfl rfl
    obtain ⟨k,hk,rfl⟩:=List.mem_map.mp hy
    rw [len_cps] at *
    unfold pick
    split
    · exact Nat.le_trans le0 (by decide)
    · exact Nat.le_trans le1 (by decide)
  rw [show (([wrd0 f b',wrd1 f b'].map wD).map fun d=>D.str (drawnS ra rb (unW d)))=[D.str (drawnS ra rb (wrd0 f b')),D.str (drawnS ra rb (wrd1 f b'))] by simp only [List.map_cons,List.map_nil,unW_wD]] at R
  generalize drawnS ra rb (wrd0 f b')=r0 at *
  generalize drawnS ra rb (wrd1 f b')=r1 at *
  have R:=R.only [("sums", S),("words", .lst ([wrd0 f b',wrd1 f b'].map wD)),("ray", rayD (some (l,p0,p1))),("far", .lst ([r0,r1].map D.str))] ⟨rfl,rfl,rfl,rfl,trivial⟩
  have hin:∀ d,d∈[r0,r1].map D.str->∃ x,x∈[r0,r1]∧d=.str x:=fun d hd=>by obtain ⟨x,hx,rfl⟩:=List.mem_map.mp hd;exact ⟨x,hx,rfl⟩
  have hpar:∀ x,x∈[r0,r1]->parL (Lc x)∧(Lc x).length≤300:=fun x hx=>by
    rcases List.mem_cons.mp hx with rfl | hx
    · exact ⟨p0',n0⟩
    · rw [List.mem_singleton.mp hx];exact ⟨p1',n1⟩
  refine xs_cons ⟨Assign_Tuple ((ev_lc (n:=200) (tg:=fun θ=>True) (ds:=[r0,r1].map D.str) G K hA hh (evit_list G (ev_var K rfl rfl rfl)) trivial (ScOk.of rfl) (fun θ=>rfl) rfl (fun d=>∃ x,x∈[r0,r1]∧d=.str x) (fun d=>lackD (unS d)) (fun C cells d K₁ ⟨x,hx,e⟩=>by subst e;exact ev_callF (n:=200) G hA hh (f_lacks' (n:=198) G (hpar x hx).1) (ev_gl G K₁ rfl (by kernel_rfl) rfl) (evs_cons (ev_var K₁ rfl rfl rfl) evs_nil) rfl rfl rfl rfl) hin (Nat.le_of_ble_eq_true rfl)).use R fun v s' T b=>?_) rfl rfl⟩
  refine as_tupleL (ds:=[lackD r0,lackD r1]) (bs:=([]++[(("more" : Str),.int ((pol (Lc r1)).2-(pol (Lc r1)).1)),(("other" : Str),.int (-(pol (Lc r1)).1))])++[(("left" : Str),.int ((pol (Lc r0)).2-(pol (Lc r0)).1)),(("one" : Str),.int (-(pol (Lc r0)).1))]) G hh ?_ ?_ _ _ _ _ _ _ _ trivial (R.step T) b fun s T K' R=>?_
  · refine .cons ?_ (.cons ?_ .nil)
    · exact as_two (k:=0) G hh (fun θ θ θ θ=>trivial) (.cell rfl rfl (own_cell rfl)) (.cell rfl rfl (own_cell rfl))
    · exact as_two (k:=0) G hh (fun θ θ θ θ=>trivial) (.cell rfl rfl (own_cell rfl)) (.cell rfl rfl (own_cell rfl))
  · rfl
  have R:=R.only [("sums", S),("words", .lst ([wrd0 f b',wrd1 f b'].map wD)),("ray", rayD (some (l,p0,p1))),("far", .lst ([r0,r1].map D.str)),("one", .int (-(pol (Lc r0)).1)),("left", .int ((pol (Lc r0)).2-(pol (Lc r0)).1)),("other", .int (-(pol (Lc r1)).1)),("more", .int ((pol (Lc r1)).2-(pol (Lc r1)).1))] ⟨rfl,rfl,rfl,rfl,rfl,rfl,rfl,rfl,trivial⟩
  have tk:=taken_ok p0' p1' eq ne (m:=if -(pol (Lc r1)).1 < -(pol (Lc r0)).1 then -(pol (Lc r1)).1 else -(pol (Lc r0)).1) (k:=if (pol (Lc r1)).2-(pol (Lc r1)).1<(pol (Lc r0)).2-(pol (Lc r0)).1 then (pol (Lc r1)).2-(pol (Lc r1)).1 else (pol (Lc r0)).2-(pol (Lc r0)).1) rfl rfl
  have bm:(if -(pol (Lc r1)).1 < -(pol (Lc r0)).1 then -(pol (Lc r1)).1 else -(pol (Lc r0)).1).natAbs≤300:=by
    have k0:=(pol_nat n0).1
    have k1:=(pol_nat n1).1
    split
    · exact k1
    · exact k0
  have bk:(if (pol (Lc r1)).2-(pol (Lc r1)).1<(pol (Lc r0)).2-(pol (Lc r0)).1 then (pol (Lc r1)).2-(pol (Lc r1)).1 else (pol (Lc r0)).2-(pol (Lc r0)).1).natAbs≤300:=by
    have k0:=(pol_nat n0).2
    have k1:=(pol_nat n1).2
    split
    · exact k1
    · exact k0
  generalize hm:(if -(pol (Lc r1)).1 < -(pol (Lc r0)).1 then -(pol (Lc r1)).1 else -(pol (Lc r0)).1)=m at *
  generalize hk:(if (pol (Lc r1)).2-(pol (Lc r1)).1<(pol (Lc r0)).2-(pol (Lc r0)).1 then (pol (Lc r1)).2-(pol (Lc r1)).1 else (pol (Lc r0)).2-(pol (Lc r0)).1)=k at *
  have htp:∀ x,x∈[r0,r1]->parL (Lc (takenS m k x))∧(takenS m k x).length≤1000∧(Txt.mul "(" m++x).length≤1000:=fun x hx=>by
    obtain ⟨h1,h2⟩:=hpar x hx
    rw [len_cps,len_cps,show (takenS m k x).cps.toList=_ from taken_cps m k x,show (Txt.mul "(" m++x).cps.toList=_ from Lc_app _ _,s40,mul_one,taken_cps]
    refine ⟨parL_app (par_opn _) (parL_app h1 (par_cls _)),?_,?_⟩
    · rw [List.length_append,List.length_append,List.length_replicate,List.length_replicate];exact Nat.le_trans (Nat.add_le_add (toN bm) (Nat.add_le_add h2 (toN bk))) (by decide)
    · rw [List.length_append,List.length_replicate];exact Nat.le_trans (Nat.add_le_add (toN bm) h2) (by decide)
  have ht:∀ x,x∈[r0,r1]->checkFn (takenS m k x)=balL (opn m.toNat++(Lc x++cls k.toNat)) 0:=fun x hx=>by rw [check_par (htp x hx).1,taken_cps]
  refine xs_lc (n:=200) (tg:=fun θ=>True) (ds:=[r0,r1].map D.str) G K hA hh R (evit_list G (ev_var K rfl rfl rfl)) trivial (ScOk.of rfl) (fun θ=>rfl) rfl (fun d=>∃ x,x∈[r0,r1]∧d=.str x) (fun d=>.bool (checkFn (takenS m k (unS d)))) (fun C cells d K₁ ⟨x,hx,e⟩=>?_) hin (Nat.le_of_ble_eq_true rfl) (.local rfl rfl) rfl fun s T K' R=>?_
  · subst e
    obtain ⟨t1,t2,t3⟩:=htp x hx
    exact ev_callF (n:=200) G hA hh (f_check (n:=195) G (par_ascii t1) t2 (sqFn_all (par_ascii t1))) (ev_gl G K₁ rfl (by kernel_rfl) rfl) (evs_cons (ev_bin (ev_bin (ev_bin ev_str (Ev.conv (ev_callB (ev_bi G K₁ rfl (by kernel_rfl) hv_min rfl) (evs_cons (ev_var K₁ rfl rfl rfl) (evs_cons (ev_var K₁ rfl rfl rfl) evs_nil)) rfl rfl rfl (op_min2 hh)) (congrArg D.int hm)) (op_mul_str (mul_ok (Nat.le_trans bm (by decide)) (Nat.le_of_ble_eq_true rfl)))) (ev_var K₁ rfl rfl rfl) (op_add_str (Nat.le_trans t3 (by decide)))) (ev_bin ev_str (Ev.conv (ev_callB (ev_bi G K₁ rfl (by kernel_rfl) hv_min rfl) (evs_cons (ev_var K₁ rfl rfl rfl) (evs_cons (ev_var K₁ rfl rfl rfl) evs_nil)) rfl rfl rfl (op_min2 hh)) (congrArg D.int hk)) (op_mul_str (mul_ok (Nat.le_trans bk (by decide)) (Nat.le_of_ble_eq_true rfl)))) (op_add_str (Nat.le_trans t2 (by decide)))) evs_nil) rfl rfl rfl rfl
  have e0:checkFn (takenS m k r0)=decide (-(pol (Lc r0)).1 < -(pol (Lc r1)).1):=(ht r0 (.head _)).trans tk.1
  have e1:checkFn (takenS m k r1)=decide (-(pol (Lc r1)).1 < -(pol (Lc r0)).1):=(ht r1 (.tail _ (.head _))).trans tk.2
  refine xs_if R (c:=false) (Ts.conv (ts_or (ts_cmp (ev_item_lst (ds:=[.bool (checkFn (takenS m k r0)),.bool (checkFn (takenS m k r1))]) (i:=0) (ev_var K rfl rfl rfl) ev_int (by decide) (by decide) rfl (fun θ θ=>⟨_,rfl⟩)) (ev_cmp (ev_var K rfl rfl rfl) (ev_var K rfl rfl rfl) op_lt rfl) op_isnot_bool rfl) fun θ=>ts_cmp (ev_item_lst (ds:=[.bool (checkFn (takenS m k r0)),.bool (checkFn (takenS m k r1))]) (i:=1) (ev_var K rfl rfl rfl) ev_int (by decide) (by decide) rfl (fun θ θ=>⟨_,rfl⟩)) (ev_cmp (ev_var K rfl rfl rfl) (ev_var K rfl rfl rfl) op_lt rfl) op_isnot_bool rfl) (by rw [e0,e1];simp)) (fun hc s T R=>nomatch hc) fun θ s T R=>xs_nil (xs_nil (h s (R.only _ ⟨rfl,rfl,rfl,trivial⟩)))
end
noncomputable def rowC (S:Int) (i:Nat):Nat:=if ((S.fdiv 3).fdiv (2^i)).fmod 2=0 then 40 else 41
noncomputable def rowStr (S:Int):Str:=Builtin.Str.glued (Str.ofString "") ((List.range (1+S.fmod 3).toNat).map fun i=>⟨#[rowC S i]⟩)
theorem row_cps (S:Int):Lc (rowStr S)=(List.range (1+S.fmod 3).toNat).map (rowC S):=by
  unfold rowStr
  rw [s00,glue_flat]
  unfold flat
  rw [List.map_map]
  show (List.map (fun i=>[rowC S i]) _).flatten=_
  rw [← List.flatMap_def]
  exact flat_map (rowC S) _
theorem row_par (S:Int):parL (Lc (rowStr S))∧1≤(Lc (rowStr S)).length∧(Lc (rowStr S)).length≤3:=by
  have h1:0≤S.fmod 3:=Int.fmod_nonneg_of_pos _ (by decide)
  have h2:S.fmod 3<3:=Int.fmod_lt_of_pos _ (by decide)
  rw [row_cps,List.length_map,List.length_range]
  refine ⟨fun c hc=>?_,by omega,by omega⟩
  obtain ⟨i,_,rfl⟩:=List.mem_map.mp hc
  unfold rowC
  split
  · exact .inl rfl
  · exact .inr rfl
theorem par_get {i:Int} (h:one2 i):(seqIndex? i (Str.ofString "()").length).bind ((Str.ofString "()").cps[·]?)=some (if i=0 then 40 else 41):=by
  rcases h with rfl | rfl<;>decide +kernel
noncomputable def cntOf (l s:Int):Int:=if (if l<11 then l else 11)+s.fmod 3-1>0 then (if l<11 then l else 11)+s.fmod 3-1 else 0
theorem cnt_range {l s:Int}:0≤cntOf l s∧cntOf l s≤12:=by
  have h2:s.fmod 3<3:=Int.fmod_lt_of_pos _ (by decide)
  unfold cntOf
  split<;>split at*<;> omega
theorem flatW_len {r0 r1:List Nat} {m:Nat} (h0:r0.length≤m) (h1:r1.length≤m):∀ x:List Int,(flatW r0 r1 x).length≤m*x.length
  | []=>Nat.zero_le _
  | k::x=>by
    show (pick r0 r1 k++flatW r0 r1 x).length≤_
    have ih:=flatW_len h0 h1 x
    have hk:(pick r0 r1 k).length≤m:=by
      unfold pick
      split
      · exact h0
      · exact h1
    rw [List.length_append,List.length_cons,Nat.mul_succ,Nat.add_comm]
    exact Nat.add_le_add ih hk
section
variable {w:World} {s₁ sb s:Shared} {N:Addr->Prop} {A:Around} {L:Addr} {ρ:List (Str × D)} {γ:List (D × Value)} {Q:Flow->Shared->Prop} {E:Value->Shared->Prop}
theorem law_5 (C:LawAt w s₁ A L N) {rest:List Stmt} {S0 S1 S2 S3 S4 S5 S6:Int} {f b:List Int} (hf:f∈allWords) (hb:b∈allWords) (R:Rel s₁ N (Own (lawEnv L)) sb (lawEnv L) [("sums", sumsD S0 S1 S2 S3 S4 S5 S6),("words", .lst [wD (wrd0 f b.reverse),wD (wrd1 f b.reverse)]),("ray", rayD (rayFn f b.reverse))] γ s)
    (h:∀ d0 d1:Str,(parL (Lc d0)∧(Lc d0).length≤36)->(parL (Lc d1)∧(Lc d1).length≤36)->(Lc d0).length=(Lc d1).length->∀ s',Rel s₁ N (Own (lawEnv L)) sb (lawEnv L) [("sums", sumsD S0 S1 S2 S3 S4 S5 S6),("drawn", .lst [.str d0,.str d1]),("lacks", .lst [lackD d0,lackD d1]),("count", .int (cntOf (-(pol (Lc d0)).1) S6))] γ s'->Xs w A (lawEnv L) rest Q E s'):Xs w A (lawEnv L) (stAt 5::stAt 6::stAt 7::stAt 8::rest) Q E s:=by
  obtain ⟨G,hA,hh,hfr,K,hu,hN⟩:=C
  have hp:=(pair_ray (pairs_ok hf hb)).2.2
  obtain ⟨lf,mf⟩:=words_all f hf
  obtain ⟨lb,mb⟩:=words_all b hb
  have lb':b.reverse.length≤5:=by rw [List.length_reverse];exact lb
  have mb':∀ k,k∈b.reverse->one2 k:=fun k hk=>mb k (List.mem_reverse.mp hk)
  generalize b.reverse=b' at *
  clear hf hb lb mb
  refine xs_assign R (d:=.lst [.str (rowStr S2),.str (rowStr S3)]) (Ev.conv (ev_lc (n:=200) (tg:=fun θ=>True) (ds:=([2,3]:List Int).map D.int) G K hA hh (by exact evit_tup G (ev_tuple (evs_cons ev_int (evs_cons ev_int evs_nil)) (Nat.le_of_ble_eq_true rfl))) trivial (ScOk.of rfl) (fun θ=>rfl) rfl (fun d=>∃ (k:Nat) (S:Int),d=.int k∧k<7∧([.int S0,.int S1,.int S2,.int S3,.int S4,.int S5,.int S6]:List D)[k]?=some (.int S)∧S=if (k:Int)=2 then S2 else S3) (onI fun k=>.str (rowStr (if k=2 then S2 else S3))) (fun C cells d K₁ ⟨k,S,e,hk,hS,eS⟩=>?_) (fun d hd=>?_) (Nat.le_of_ble_eq_true rfl)) rfl) (.cell rfl rfl (own_cell rfl)) rfl fun s T K' R=>?_
  · subst e
    show Ev _ _ _ _ _ _ (.str (rowStr (if (k:Int)=2 then S2 else S3)))
    rw [← eS]
    have h1:0≤S.fmod 3:=Int.fmod_nonneg_of_pos _ (by decide)
    have h2:S.fmod 3<3:=Int.fmod_lt_of_pos _ (by decide)
    have ht3:(1+S.fmod 3).toNat≤3:=toL 3 (by omega)
    refine ev_glue (by exact ev_str) (Ev.conv (ev_lc (n:=200) (tg:=fun θ=>True) G K₁ hA hh (evit_range1 G K₁ (ev_add ev_int (ev_mod (ev_item_lst (i:=k) (ev_var K₁ rfl rfl rfl) (ev_var K₁ rfl rfl rfl) (Int.natCast_nonneg _) (by omega) (by rw [Int.toNat_natCast];exact hS) (fun θ θ=>⟨_,rfl⟩)) ev_int (by decide))) (by omega) (by omega) rfl rfl rfl) trivial (ScOk.of rfl) (fun θ=>rfl) rfl (inUp (1+S.fmod 3).toNat) (onI fun i=>.str ⟨#[rowC S i.toNat]⟩) (fun C cells d K₂ ⟨i,hi,e⟩=>?_) upto_in (by rw [upto_len];exact Nat.le_trans ht3 (Nat.le_of_ble_eq_true rfl))) (by rw [upto_map,List.map_map];rfl)) (fun y hy=>by obtain ⟨i,_,rfl⟩:=List.mem_map.mp hy;show 1≤1000;decide) (by rw [List.length_map,List.length_range];exact Nat.le_trans ht3 (by decide)) rfl rfl rfl rfl
    subst e
    have hi3:=Nat.le_trans (Nat.le_of_lt hi) ht3
    refine ev_item_str (by exact ev_str) (ev_mod (ev_div (ev_div (ev_item_lst (i:=k) (ev_var K₂ rfl rfl rfl) (ev_var K₂ rfl rfl rfl) (Int.natCast_nonneg _) (by omega) (by rw [Int.toNat_natCast];exact hS) (fun θ θ=>⟨_,rfl⟩)) ev_int (by decide) (no_py (by decide))) (ev_pow ev_int (ev_var K₂ rfl rfl rfl) (Int.natCast_nonneg _) (by rw [bits2];exact Int.le_trans (Int.mul_le_mul_of_nonneg_left (Int.ofNat_le.mpr hi3) (by decide)) (by decide))) (pow2_ne _) (PyProof.noPylong_of_log2 (by rw [pow2_log];exact Nat.lt_of_le_of_lt hi3 (by decide)))) ev_int (by decide)) ?_ (par_get (mod2 _)) (fun θ θ=>⟨_,rfl⟩)
    rcases mod2 ((S.fdiv 3).fdiv (2^(i:Int).toNat)) with q | q<;>rw [q]<;>rfl
  · simp only [List.map_cons,List.map_nil,List.mem_cons,List.not_mem_nil,or_false] at hd
    rcases hd with rfl | rfl
    · exact ⟨2,S2,rfl,by decide,rfl,rfl⟩
    · exact ⟨3,S3,rfl,by decide,rfl,rfl⟩
  obtain ⟨p0,l0,m0⟩:=row_par S2
  obtain ⟨p1,l1,m1⟩:=row_par S3
  have hd0:=drawn_cps (rowStr S2) (rowStr S3) (wrd0 f b')
  have hd1:=drawn_cps (rowStr S2) (rowStr S3) (wrd1 f b')
  have lw:=wpair lf lb' mf mb'
  have R:=R.only [("sums", sumsD S0 S1 S2 S3 S4 S5 S6),("words", .lst ([wrd0 f b',wrd1 f b'].map wD)),("ray", rayD (rayFn f b')),("rows", .lst [.str (rowStr S2),.str (rowStr S3)])] ⟨rfl,rfl,rfl,rfl,trivial⟩
  have hq:=fun e=>hp e (Lc (rowStr S2)) (Lc (rowStr S3)) (small_pol p0 l0 m0) (small_pol p1 l1 m1)
  rw [← hd0,← hd1] at hq
  generalize rowStr S2=ra at *
  generalize rowStr S3=rb at *
  refine xs_lc (n:=200) (tg:=fun θ=>True) (ds:=[wrd0 f b',wrd1 f b'].map wD) G K hA hh R (evit_list G (ev_var K rfl rfl rfl)) trivial (ScOk.of rfl) (fun θ=>rfl) rfl (fun d=>∃ x,x∈[wrd0 f b',wrd1 f b']∧d=wD x) (fun d=>.str (drawnS ra rb (unW d))) (fun C cells d K₁ ⟨x,hx,e⟩=>?_) (fun d hd=>by obtain ⟨x,hx,rfl⟩:=List.mem_map.mp hd;exact ⟨x,hx,rfl⟩) (Nat.le_of_ble_eq_true rfl) (.local rfl rfl) rfl fun s T K' R=>?_
  · subst e
    rw [unW_wD]
    obtain ⟨x1,x2⟩:=lw x hx
    refine ev_glue (by exact ev_str) (Ev.conv (ev_lc (n:=200) (tg:=fun θ=>True) (ds:=x.map D.int) G K₁ hA hh (evit_list G (ev_var K₁ rfl rfl rfl)) trivial (ScOk.of rfl) (fun θ=>rfl) rfl (among x) (onI fun k=>.str (pick ra rb k)) (fun C cells d K₂ ⟨k,hk,e⟩=>by subst e;exact ev_pickS (x2 k hk) (ev_var K₂ rfl rfl rfl) (ev_var K₂ rfl rfl rfl) (fun θ θ=>⟨_,rfl⟩)) among_of (by rw [List.length_map];unfold sizeLine;omega)) (by rw [List.map_map,List.map_map];rfl)) (fun y hy=>?_) (by rw [List.length_map];omega) rfl rfl rfl rfl
    obtain ⟨k,hk,rfl⟩:=List.mem_map.mp hy
    rw [len_cps] at *
    unfold pick
    split
    · exact Nat.le_trans m0 (by decide)
    · exact Nat.le_trans m1 (by decide)
  rw [show (([wrd0 f b',wrd1 f b'].map wD).map fun d=>D.str (drawnS ra rb (unW d)))=[D.str (drawnS ra rb (wrd0 f b')),D.str (drawnS ra rb (wrd1 f b'))] by simp only [List.map_cons,List.map_nil,unW_wD]] at R
  have z0:parL (Lc (drawnS ra rb (wrd0 f b')))∧(Lc (drawnS ra rb (wrd0 f b'))).length≤36:=by
    rw [hd0]
    exact ⟨par_word p0 p1 _,Nat.le_trans (flatW_len m0 m1 _) (Nat.mul_le_mul_left 3 (lw _ (.head _)).1)⟩
  have z1:parL (Lc (drawnS ra rb (wrd1 f b')))∧(Lc (drawnS ra rb (wrd1 f b'))).length≤36:=by
    rw [hd1]
    exact ⟨par_word p0 p1 _,Nat.le_trans (flatW_len m0 m1 _) (Nat.mul_le_mul_left 3 (lw _ (.tail _ (.head _))).1)⟩
  have zl:(Lc (drawnS ra rb (wrd0 f b'))).length=(Lc (drawnS ra rb (wrd1 f b'))).length:=by
    rw [hd0,hd1]
    unfold flatW wrd0 wrd1
    simp only [List.flatMap_append,List.flatMap_cons,List.flatMap_nil,List.length_append]
    omega
  generalize drawnS ra rb (wrd0 f b')=d0 at *
  generalize drawnS ra rb (wrd1 f b')=d1 at *
  have R:=R.only [("sums", sumsD S0 S1 S2 S3 S4 S5 S6),("ray", rayD (rayFn f b')),("drawn", .lst [.str d0,.str d1])] ⟨rfl,rfl,rfl,trivial⟩
  have F0:=f_lacks' (w:=w) (s₁:=s₁) (n:=198) G z0.1
  have F1:=f_lacks' (w:=w) (s₁:=s₁) (n:=198) G z1.1
  have hno:noval (rayD (rayFn f b'))=true:=by
    cases rayFn f b' with
    | none=>rfl
    | some t=>rfl
  refine xs_assign R (d:=.lst [lackD d0,lackD d1]) (ev_list (evs_cons (ev_callF (n:=200) G hA hh F0 (ev_gl G K rfl (by kernel_rfl) rfl) (evs_cons (ev_item_lst (i:=0) (ev_var K rfl rfl rfl) ev_int (by decide) (by decide) rfl (fun θ θ=>⟨_,rfl⟩)) evs_nil) rfl rfl rfl rfl) (evs_cons ?_ evs_nil)) (Nat.le_of_ble_eq_true rfl)) (.local rfl rfl) rfl fun s T K' R=>?_
  · cases hr:rayFn f b' with
    | none=>
      have e:lackD d1=lackD d0:=by unfold lackD;rw [hq hr]
      rw [e]
      exact ev_callF (n:=200) G hA hh F0 (ev_gl G K rfl (by kernel_rfl) rfl) (evs_cons (ev_item_lst (i:=0) (ev_var K rfl rfl rfl) (ev_if (c:=true) (ts_cmp (ev_var K rfl rfl rfl) ev_none (op_is_none (d:=rayD none) rfl) rfl) (fun θ=>ev_int) fun q=>nomatch q) (by decide) (by decide) rfl (fun θ θ=>⟨_,rfl⟩)) evs_nil) rfl rfl rfl rfl
    | some t=>
      exact ev_callF (n:=200) G hA hh F1 (ev_gl G K rfl (by kernel_rfl) rfl) (evs_cons (ev_item_lst (i:=1) (ev_var K rfl rfl rfl) (ev_if (c:=false) (ts_cmp (ev_var K rfl rfl rfl) ev_none (op_is_none (d:=rayD (some t)) rfl) rfl) (fun q=>nomatch q) fun θ=>ev_int) (by decide) (by decide) rfl (fun θ θ=>⟨_,rfl⟩)) evs_nil) rfl rfl rfl rfl
  refine xs_assign R (d:=.int (cntOf (-(pol (Lc d0)).1) S6)) (ev_callB (ev_bi G K rfl (by kernel_rfl) hv_max rfl) (evs_cons ev_int (evs_cons (ev_sub (ev_add (ev_callB (ev_bi G K rfl (by kernel_rfl) hv_min rfl) (evs_cons ev_int (evs_cons (ev_item_tup (ds:=[.int (-(pol (Lc d0)).1),.int ((pol (Lc d0)).2-(pol (Lc d0)).1)]) (i:=0) (j:=0) (ev_item_lst (i:=0) (ev_var K rfl rfl rfl) ev_int (by decide) (by decide) rfl (fun θ θ=>⟨_,rfl⟩)) ev_int (by decide) (by decide) rfl rfl (fun θ θ=>⟨_,rfl⟩)) evs_nil)) rfl rfl rfl (op_min2 hh)) (ev_mod (ev_item_lst (i:=6) (ev_var K rfl rfl rfl) ev_int (by decide) (by decide) rfl (fun θ θ=>⟨_,rfl⟩)) ev_int (by decide))) ev_int) evs_nil)) rfl rfl rfl (op_max2 hh)) (.cell rfl rfl (own_cell rfl)) rfl fun s T K' R=>?_
  exact h d0 d1 z0 z1 zl s (R.only _ ⟨rfl,rfl,rfl,rfl,trivial⟩)
end
noncomputable def niceC (c:Nat):Bool:=c != 10&&c != 58&&c != 46&&decide (c<128)
noncomputable def Nice (x:Str):Prop:=∀ c,c∈Lc x->niceC c=true
theorem nice_of {x:Str} (h:x.cps.all niceC=true):Nice x:=by
  rw [← Array.all_toList,List.all_eq_true] at h
  exact h
theorem nice_app {x y:Str} (hx:Nice x) (hy:Nice y):Nice (x++y):=fun c hc=>by
  rw [Lc_app] at hc
  exact (List.mem_append.mp hc).elim (hx c) (hy c)
theorem nice_c {c:Nat} (h:niceC c=true):c≠10∧c≠58∧c≠46∧c<128:=by
  unfold niceC at h
  simp only [Bool.and_eq_true,bne_iff_ne,decide_eq_true_eq] at h
  exact ⟨h.1.1.1,h.1.1.2,h.1.2,h.2⟩
theorem nice_strOk {x:Str} (h:Nice x):PyData.strOk x=true:=by
  unfold PyData.strOk
  rw [← Array.all_toList,List.all_eq_true]
  intro c hc
  exact decide_eq_true (Nat.lt_trans (nice_c (h c hc)).2.2.2 (by decide))
theorem nice_dig (d:Nat):niceC (Nat.digitChar d).toNat=true:=by
  by_cases h:d<16
  · have:∀ d:Fin 16,niceC (Nat.digitChar d.val).toNat=true:=by decide
    exact this ⟨d,h⟩
  · have:Nat.digitChar d='*':=by
      unfold Nat.digitChar
      (repeat rw [if_neg (by omega)])
    rw [this];rfl
theorem nice_core (b:Nat):∀ (k n:Nat) (ds:List Char),(∀ c,c∈ds->niceC c.toNat=true)->∀ c,c∈Nat.toDigitsCore b k n ds->niceC c.toNat=true
  | 0,n,ds,h,c,hc=>h c hc
  | k+1,n,ds,h,c,hc=>by
    rw [Nat.toDigitsCore] at hc
    have h':∀ c,c∈Nat.digitChar (n % b)::ds->niceC c.toNat=true:=fun c hc=>(List.mem_cons.mp hc).elim (fun q=>by rw [q];exact nice_dig _) (h c)
    split at hc
    · exact h' c hc
    · exact nice_core b k _ _ h' c hc
theorem nice_ofString {t:String} (h:∀ c,c∈t.toList->niceC c.toNat=true):Nice (Str.ofString t):=fun c hc=>by
  unfold Lc at hc
  rw [ofString_cps] at hc
  have hc:c∈t.toList.map Char.toNat:=hc
  obtain ⟨d,hd,rfl⟩:=List.mem_map.mp hc
  exact h d hd
theorem nice_hex (i:Int):Nice (hexS i):=by
  unfold hexS PySem.baseText
  refine nice_app (nice_app (nice_ofString ?_) (nice_of (by decide +kernel))) (nice_ofString fun c hc=>?_)
  · split<;>decide
  · rw [String.toList_ofList] at hc
    exact nice_core 16 _ _ [] (fun θ h=>nomatch h) c hc
theorem nice_name (i:Nat):Nice (nameAt i):=by
  unfold nameAt
  split
  · rename_i h
    have:∀ x,x∈flagTable->Nice x:=by
      have h:flagTable.all (fun x=>x.cps.all niceC)=true:=by decide +kernel
      exact fun x hx=>nice_of (List.all_eq_true.mp h x hx)
    have hl:(i:Int).toNat<flagTable.length:=by show _<10;omega
    rw [List.getD_eq_getElem?_getD,List.getElem?_eq_getElem hl]
    exact this _ (List.getElem_mem _)
  · exact nice_hex _
theorem glued_mem (sep:Str):∀ (l:List Str) (acc:Array Nat) (c:Nat),c∈(l.foldl (fun acc p=>acc++sep.cps++p.cps) acc).toList->c∈acc.toList∨c∈Lc sep∨∃ p,p∈l∧c∈Lc p
  | [],acc,c,h=>.inl h
  | x::r,acc,c,h=>by
    rcases glued_mem sep r _ c h with q | q | ⟨p,hp,q⟩
    · rw [Array.toList_append,Array.toList_append] at q
      rcases List.mem_append.mp q with q | q
      · exact (List.mem_append.mp q).elim .inl fun q=>.inr (.inl q)
      · exact .inr (.inr ⟨x,.head _,q⟩)
    · exact .inr (.inl q)
    · exact .inr (.inr ⟨p,.tail _ hp,q⟩)
theorem nice_glued {sep:Str} {l:List Str} (hs:Nice sep) (h:∀ x,x∈l->Nice x):Nice (Builtin.Str.glued sep l):=fun c hc=>by
  unfold Builtin.Str.glued at hc
  cases l with
  | nil=>cases hc
  | cons x r=>
    rcases glued_mem sep r x.cps c hc with q | q | ⟨p,hp,q⟩
    · exact h x (.head _) c q
    · exact hs c q
    · exact h p (.tail _ hp) c q
theorem nice_pretty (v:Int):Nice (prettyFn v):=by
  have hn:∀ x,x∈namesFn v->Nice x:=fun x hx=>by
    unfold namesFn at hx
    obtain ⟨i,_,rfl⟩:=List.mem_map.mp hx
    exact nice_name i
  rw [pretty_named]
  unfold namedFn
  refine nice_glued (nice_of (by decide +kernel)) fun x hx=>?_
  split at hx
  · exact hn x hx
  · rcases List.mem_append.mp hx with q | q
    · exact hn x q
    · rw [List.mem_singleton.mp q];exact nice_hex _
theorem len_pretty {v:Int} (hv:v.natAbs<2^60):(prettyFn v).length≤800:=by
  have hab:(v.fdiv (2^32)*2^32).natAbs<16^16:=Nat.lt_trans (hiw hv) (by decide)
  have hlen:(namesFn v).length≤32:=by
    unfold namesFn;rw [List.length_map];exact Nat.le_trans (List.length_filter_le _ _) (by simp)
  have hmem:∀ x,x∈namesFn v++[hexS (v.fdiv (2^32)*2^32)]->x.length≤20:=fun x hx=>by
    rcases List.mem_append.mp hx with hx | hx
    · unfold namesFn at hx
      obtain ⟨i,hi,rfl⟩:=List.mem_map.mp hx
      exact nameAt_len i (List.mem_range.mp (List.mem_filter.mp hi).1)
    · rw [List.mem_singleton.mp hx]
      exact Nat.le_trans (len_hex (k:=16) (by decide) hab) (by decide)
  have key:∀ l:List Str,(∀ x,x∈l->x∈namesFn v++[hexS (v.fdiv (2^32)*2^32)])->l.length≤33->(Builtin.Str.glued (Str.ofString ", ") l).length≤800:=fun l hl hz=>by
    have h3:(Str.ofString ", ").length=2:=by decide +kernel
    have h4:=strSum fun x hx=>hmem x (hl x hx)
    rw [size_glued,h3]
    omega +splitNatSub
  rw [pretty_named]
  unfold namedFn
  split
  · exact key _ (fun x hx=>List.mem_append_left _ hx) (by omega)
  · exact key _ (fun x hx=>hx) (by rw [List.length_append,List.length_singleton];omega)
noncomputable def spacedS (v:Int):Str:=Txt.mul " " (v.fmod 2)++prettyFn v++Txt.mul " " (v.fmod 2)
noncomputable def thingOf (v:Int):Thing:=(v,octetsFn v,spacedS v)
theorem s32:Str.ofString " " = ⟨#[32]⟩:=by decide +kernel
theorem nice_spaced (v:Int):Nice (spacedS v):=by
  have h:Nice (Txt.mul " " (v.fmod 2)):=fun c hc=>by
    rw [s32,mul_one] at hc
    rw [List.eq_of_mem_replicate hc];rfl
  exact nice_app (nice_app h (nice_pretty v)) h
theorem len_mul32 (v:Int):(Txt.mul " " (v.fmod 2)).length≤1:=by
  rw [len_cps,s32]
  show (Lc (Txt.mul ⟨#[32]⟩ (v.fmod 2))).length≤1
  rw [mul_one,List.length_replicate]
  rcases mod2 v with q | q<;>rw [q]<;>decide
theorem len_spaced {v:Int} (hv:v.natAbs<2^60):(spacedS v).length≤802∧(Txt.mul " " (v.fmod 2)++prettyFn v).length≤801:=by
  have h1:=len_mul32 v
  have h2:=len_pretty hv
  unfold spacedS
  rw [len_append,len_append]
  omega
theorem octets_len (v:Int):(octetsFn v).length≤6:=by
  unfold octetsFn
  rw [List.length_map,List.length_zipIdx]
  exact digits_len v
theorem thing_good {base v:Int} (h0:0≤v) (h1:v<2^36) (hb:base≠0->2^36≤base.natAbs):GoodT base (thingOf v)∧thingOk base (thingOf v):=by
  have hn:v.natAbs<2^60:=by omega
  refine ⟨⟨h0,h1,rfl,fun c hc=>?_,nice_strOk (nice_spaced v),fun q=>?_⟩,fun q=>?_,octets_len v,Nat.le_trans (len_spaced hn).1 (by decide),nice_strOk (nice_spaced v)⟩
  · have:=nice_c (nice_spaced v c hc)
    exact ⟨this.1,this.2.1,this.2.2.1⟩
  · have:=hb q;show v<_;omega
  · have:=hb q;show v.natAbs<_;omega
noncomputable def modL:List Int:=[64,4096,2^18,2^36]
noncomputable def modAt (j:Int):Int:=modL.getD j.toNat 1
noncomputable def valAt (S5 S6 i:Int):Int:=((S5+31*i)^2).fmod (modAt ((S6.fdiv 3+i).fmod 4))
noncomputable def valsOf (S5 S6:Int) (c:Nat):List Int:=(List.range (c+1)).map fun (i:Nat)=>valAt S5 S6 i
theorem mod4 (a:Int):a.fmod 4=0∨a.fmod 4=1∨a.fmod 4=2∨a.fmod 4=3:=by
  rw [Int.fmod_eq_emod_of_nonneg _ (by decide)];omega
theorem modAt_ok (a:Int):0<modAt (a.fmod 4)∧modAt (a.fmod 4)≤2^36:=by
  rcases mod4 a with h | h | h | h<;>rw [h]<;>decide
theorem mod_get (a:Int):seqIndex? (a.fmod 4) 4=some (a.fmod 4).toNat∧(modL.map D.int)[(a.fmod 4).toNat]?=some (.int (modAt (a.fmod 4)))∧-(2^63)≤a.fmod 4∧a.fmod 4<2^63:=by
  rcases mod4 a with h | h | h | h<;>rw [h]<;>exact ⟨by decide,rfl,by decide,by decide⟩
theorem val_range (S5 S6 i:Int):0≤valAt S5 S6 i∧valAt S5 S6 i<2^36:=by
  have h:=modAt_ok (S6.fdiv 3+i)
  exact ⟨Int.fmod_nonneg_of_pos _ h.1,Int.lt_of_lt_of_le (Int.fmod_lt_of_pos _ h.1) h.2⟩
noncomputable def floOf (S5 S6:Int):Int:=((S6.fdiv 12).fmod 7-3)*2^28+(S5.fdiv 1000).fmod 1000
theorem flo_lt (S5 S6:Int):(floOf S5 S6).natAbs<2^36:=by
  have h1:0≤(S6.fdiv 12).fmod 7:=Int.fmod_nonneg_of_pos _ (by decide)
  have h2:(S6.fdiv 12).fmod 7<7:=Int.fmod_lt_of_pos _ (by decide)
  have h3:0≤(S5.fdiv 1000).fmod 1000:=Int.fmod_nonneg_of_pos _ (by decide)
  have h4:(S5.fdiv 1000).fmod 1000<1000:=Int.fmod_lt_of_pos _ (by decide)
  unfold floOf
  omega
theorem flo_range (S5 S6:Int):(floOf S5 S6).natAbs<2^60:=Nat.lt_trans (flo_lt S5 S6) (by decide)
noncomputable def expOf (S6:Int):Int:=36+(S6.fdiv 84).fmod 20+4100*(if (S6.fdiv 1680).fmod 16==15 then 1 else 0)
theorem exp_range (S6:Int):36≤expOf S6∧expOf S6≤4155:=by
  have h1:0≤(S6.fdiv 84).fmod 20:=Int.fmod_nonneg_of_pos _ (by decide)
  have h2:(S6.fdiv 84).fmod 20<20:=Int.fmod_lt_of_pos _ (by decide)
  unfold expOf
  split<;>omega
noncomputable def basOf (S5 S6:Int):Int:=(2^(expOf S6).toNat+S5.fmod 1000)*(1-2*(S6.fdiv 26880).fmod 2)
theorem sgn_one (a:Int):(1-2*a.fmod 2)=1∨(1-2*a.fmod 2)=-1:=by
  rcases mod2 a with h | h<;>rw [h]
  · exact .inl rfl
  · exact .inr rfl
theorem bas_abs (S5 S6:Int):((basOf S5 S6).natAbs:Int)=2^(expOf S6).toNat+S5.fmod 1000:=by
  have h3:0≤S5.fmod 1000:=Int.fmod_nonneg_of_pos _ (by decide)
  have h4:(0:Int)<2^(expOf S6).toNat:=Int.pow_pos (by decide)
  unfold basOf
  rcases sgn_one (S6.fdiv 26880) with h | h<;>rw [h]
  · rw [Int.mul_one,Int.natAbs_of_nonneg (Int.add_nonneg (Int.le_of_lt h4) h3)]
  · rw [Int.mul_neg,Int.mul_one,Int.natAbs_neg,Int.natAbs_of_nonneg (Int.add_nonneg (Int.le_of_lt h4) h3)]
theorem bas_range (S5 S6:Int):2^36≤(basOf S5 S6).natAbs∧Builtin.Int.intBits (basOf S5 S6)≤7999:=by
  have h:=bas_abs S5 S6
  have h3:0≤S5.fmod 1000:=Int.fmod_nonneg_of_pos _ (by decide)
  have h4:S5.fmod 1000<1000:=Int.fmod_lt_of_pos _ (by decide)
  obtain ⟨e1,e2⟩:=exp_range S6
  have p1:(2:Int)^36≤2^(expOf S6).toNat:=by exact_mod_cast Nat.pow_le_pow_right (by decide) (show 36≤(expOf S6).toNat by omega)
  have p2:(2:Nat)^(expOf S6).toNat≤2^4155:=Nat.pow_le_pow_right (by decide) (by omega)
  refine ⟨by omega,Nat.le_trans (bits_le (k:=4156) ?_) (by decide)⟩
  have p3:(1000:Nat)≤2^4155:=Nat.le_trans (by decide:1000≤2^10) (Nat.pow_le_pow_right (by decide) (by decide))
  have p4:(2:Nat)^4156=2^4155*2:=Nat.pow_succ ..
  have p5:((2:Int)^(expOf S6).toNat)=((2^(expOf S6).toNat:Nat):Int):=by exact_mod_cast rfl
  rw [p4]
  rw [p5] at h
  generalize (2:Nat)^4155=z at *
  omega
noncomputable def tailL:List Str:=["", ": 1.5", "\n.Q", ":\n.", "\n: a.b"]
noncomputable def tailAt (S5:Int):Str:=tailL.getD (S5.fmod 5).toNat Str.empty
theorem mod5 (a:Int):a.fmod 5=0∨a.fmod 5=1∨a.fmod 5=2∨a.fmod 5=3∨a.fmod 5=4:=by
  rw [Int.fmod_eq_emod_of_nonneg _ (by decide)];omega
theorem tail_get (a:Int):seqIndex? (a.fmod 5) 5=some (a.fmod 5).toNat∧(tailL.map D.str)[(a.fmod 5).toNat]?=some (.str (tailAt a))∧-(2^63)≤a.fmod 5∧a.fmod 5<2^63:=by
  unfold tailAt
  rcases mod5 a with h | h | h | h | h<;>rw [h]<;>exact ⟨by decide,rfl,by decide,by decide⟩
theorem tail_facts (a:Int):TailOk (tailAt a)∧(tailAt a).length≤10∧PyData.strOk (tailAt a)=true:=by
  unfold tailAt TailOk
  have l0:Lc "" = []:=by decide +kernel
  have l1:Lc ": 1.5" = [58,32,49,46,53]:=by decide +kernel
  have l2:Lc "\n.Q" = [10,46,81]:=by decide +kernel
  have l3:Lc ":\n." = [58,10,46]:=by decide +kernel
  have l4:Lc "\n: a.b" = [10,58,32,97,46,98]:=by decide +kernel
  rcases mod5 a with h | h | h | h | h<;>rw [h]
  · exact ⟨.inl l0,by decide +kernel,by decide +kernel⟩
  · exact ⟨.inr ⟨_,_,l1,.inr rfl⟩,by decide +kernel,by decide +kernel⟩
  · exact ⟨.inr ⟨_,_,l2,.inl rfl⟩,by decide +kernel,by decide +kernel⟩
  · exact ⟨.inr ⟨_,_,l3,.inr rfl⟩,by decide +kernel,by decide +kernel⟩
  · exact ⟨.inr ⟨_,_,l4,.inl rfl⟩,by decide +kernel,by decide +kernel⟩
section
variable {w:World} {s₁ sb s:Shared} {N:Addr->Prop} {A:Around} {L:Addr} {ρ:List (Str × D)} {γ:List (D × Value)} {Q:Flow->Shared->Prop} {E:Value->Shared->Prop}
theorem law_9 (C:LawAt w s₁ A L N) {rest:List Stmt} {S0 S1 S2 S3 S4 S5 S6:Int} (hS5:0≤S5∧S5<1000000000) {c:Nat} (hc:c≤12) {Dr Lk:D} (R:Rel s₁ N (Own (lawEnv L)) sb (lawEnv L) [("sums", sumsD S0 S1 S2 S3 S4 S5 S6),("drawn", Dr),("lacks", Lk),("count", .int c)] γ s)
    (h:∀ s',Rel s₁ N (Own (lawEnv L)) sb (lawEnv L) [("sums", sumsD S0 S1 S2 S3 S4 S5 S6),("drawn", Dr),("lacks", Lk),("count", .int c),("values", .lst ((valsOf S5 S6 c).map D.int)),("floor", .int (floOf S5 S6)),("base", .int (basOf S5 S6))] γ s'->Xs w A (lawEnv L) rest Q E s'):Xs w A (lawEnv L) (stAt 9::stAt 10::stAt 11::rest) Q E s:=by
  obtain ⟨G,hA,hh,hfr,K,hu,hN⟩:=C
  refine xs_lc (n:=200) (tg:=fun θ=>True) G K hA hh R (evit_range1 G K (ev_add (ev_var (d:=.int c) K rfl rfl rfl) ev_int) (by omega) (by omega) rfl rfl rfl) trivial (ScOk.of rfl) (fun θ=>rfl) rfl (inUp ((c:Int)+1).toNat) (onI fun i=>.int (valAt S5 S6 i)) (fun C cells d K₁ ⟨i,hi,e⟩=>?_) upto_in (by rw [upto_len];unfold sizeLine;omega) (.local rfl rfl) rfl fun s T K' R=>?_
  · subst e
    obtain ⟨g1,g2,g3,g4⟩:=mod_get (S6.fdiv 3+(i:Int))
    refine ev_mod (ev_pow (ev_add (ev_item_lst (i:=5) (ev_var K₁ rfl rfl rfl) ev_int (by decide) (by decide) rfl (fun θ θ=>⟨_,rfl⟩)) (ev_mul ev_int (ev_var K₁ rfl rfl rfl) (mulS (by decide)))) ev_int (by decide) ?_) (ev_item_tup (ds:=modL.map D.int) (by exact ev_tuple (evs_cons ev_int (evs_cons ev_int (evs_cons (Ev.conv (ev_pow ev_int ev_int (by decide) (by rw [bits2];decide)) rfl) (evs_cons (Ev.conv (ev_pow ev_int ev_int (by decide) (by rw [bits2];decide)) rfl) evs_nil)))) (Nat.le_of_ble_eq_true rfl)) (ev_mod (ev_add (ev_div (ev_item_lst (i:=6) (ev_var K₁ rfl rfl rfl) ev_int (by decide) (by decide) rfl (fun θ θ=>⟨_,rfl⟩)) ev_int (by decide) (no_py (by decide))) (ev_var K₁ rfl rfl rfl)) ev_int (by decide)) g3 g4 g1 g2 (fun θ θ=>⟨_,rfl⟩)) ?_
    · have:=bits_le (x:=S5+31*(i:Int)) (k:=31) (by omega)
      omega
    · have:=(modAt_ok (S6.fdiv 3+(i:Int))).1
      omega
  have e:((upto 0 ((c:Int)+1).toNat).map (onI fun i=>D.int (valAt S5 S6 i)))=(valsOf S5 S6 c).map D.int:=by
    rw [upto_map]
    unfold valsOf
    rw [List.map_map,show ((c:Int)+1).toNat=c+1 by omega];rfl
  rw [e] at R
  obtain ⟨e1,e2⟩:=exp_range S6
  refine xs_assign R (d:=.int (floOf S5 S6)) (ev_add (ev_mul (ev_sub (ev_mod (ev_div (ev_item_lst (i:=6) (ev_var K rfl rfl rfl) ev_int (by decide) (by decide) rfl (fun θ θ=>⟨_,rfl⟩)) ev_int (by decide) (no_py (by decide))) ev_int (by decide)) ev_int) (Ev.conv (ev_pow ev_int ev_int (by decide) (by rw [bits2];decide)) rfl) (.of_right (by decide +kernel))) (ev_mod (ev_div (ev_item_lst (i:=5) (ev_var K rfl rfl rfl) ev_int (by decide) (by decide) rfl (fun θ θ=>⟨_,rfl⟩)) ev_int (by decide) (no_py (by decide))) ev_int (by decide))) (.local rfl rfl) rfl fun s T K' R=>?_
  refine xs_assign R (d:=.int (basOf S5 S6)) (ev_mul (ev_add (ev_pow ev_int (b:=expOf S6) (ev_add (ev_add ev_int (ev_mod (ev_div (ev_item_lst (i:=6) (ev_var K rfl rfl rfl) ev_int (by decide) (by decide) rfl (fun θ θ=>⟨_,rfl⟩)) ev_int (by decide) (no_py (by decide))) ev_int (by decide))) (ev_mul ev_int (ev_intb G K (ev_cmp (ev_mod (ev_div (ev_item_lst (i:=6) (ev_var K rfl rfl rfl) ev_int (by decide) (by decide) rfl (fun θ θ=>⟨_,rfl⟩)) ev_int (by decide) (no_py (by decide))) ev_int (by decide)) ev_int op_eq rfl) rfl rfl rfl) (mulS (by decide)))) (by omega) (by rw [bits2];omega)) (ev_mod (ev_item_lst (i:=5) (ev_var K rfl rfl rfl) ev_int (by decide) (by decide) rfl (fun θ θ=>⟨_,rfl⟩)) ev_int (by decide))) (ev_sub ev_int (ev_mul ev_int (ev_mod (ev_div (ev_item_lst (i:=6) (ev_var K rfl rfl rfl) ev_int (by decide) (by decide) rfl (fun θ θ=>⟨_,rfl⟩)) ev_int (by decide) (no_py (by decide))) ev_int (by decide)) (mulS (by decide)))) (mulR (by rcases sgn_one (S6.fdiv 26880) with q | q<;>rw [q]<;>decide))) (.local rfl rfl) rfl fun s T K' R=>?_
  exact h s (R.only _ ⟨rfl,rfl,rfl,rfl,rfl,rfl,rfl,trivial⟩)
end
section
variable {w:World} {s₁ sb s:Shared} {N:Addr->Prop} {A:Around} {L:Addr} {ρ:List (Str × D)} {γ:List (D × Value)} {Q:Flow->Shared->Prop} {E:Value->Shared->Prop}
theorem vals_mem {S5 S6:Int} {c:Nat}:∀ v,v∈valsOf S5 S6 c->0≤v∧v<2^36:=fun v hv=>by
  unfold valsOf at hv
  obtain ⟨i,_,rfl⟩:=List.mem_map.mp hv
  exact val_range _ _ _
theorem vals_len {S5 S6:Int} {c:Nat}:(valsOf S5 S6 c).length=c+1:=by unfold valsOf;rw [List.length_map,List.length_range]
theorem ev_spaced {env:Env} {e0 e1 e2 e3:Expr} {p0 p1 p2 p3:Pos} {v:Int} (hv:0≤v∧v<2^36) (x:Ev w s₁ A env ρ e0 (.str " ")) (y:Ev w s₁ A env ρ e1 (.int (v.fmod 2))) (z:Ev w s₁ A env ρ e2 (.str (prettyFn v))) (x':Ev w s₁ A env ρ e3 (.str " ")) {e4:Expr} (y':Ev w s₁ A env ρ e4 (.int (v.fmod 2))) :
    Ev w s₁ A env ρ (.BinOp (.BinOp (.BinOp e0 .Mult e1 p0) .Add e2 p1) .Add (.BinOp e3 .Mult e4 p2) p3) (.str (spacedS v)):=by
  have hm:(v.fmod 2).natAbs≤1000:=by rcases mod2 v with q | q<;>rw [q]<;>decide
  obtain ⟨l1,l2⟩:=len_spaced (v:=v) (by omega)
  exact ev_bin (ev_bin (ev_bin x y (op_mul_str (mul_ok hm (by rw [s32];exact Nat.le_refl 1)))) z (op_add_str (Nat.le_trans l2 (by decide)))) (ev_bin x' y' (op_mul_str (mul_ok hm (by rw [s32];exact Nat.le_refl 1)))) (op_add_str (Nat.le_trans l1 (by decide)))
theorem law_12 (C:LawAt w s₁ A L N) {rest:List Stmt} {S0 S1 S2 S3 S4 S5 S6:Int} {c:Nat} (hc:c≤12) {Dr Lk:D} (R:Rel s₁ N (Own (lawEnv L)) sb (lawEnv L) [("sums", sumsD S0 S1 S2 S3 S4 S5 S6),("drawn", Dr),("lacks", Lk),("count", .int c),("values", .lst ((valsOf S5 S6 c).map D.int)),("floor", .int (floOf S5 S6)),("base", .int (basOf S5 S6))] γ s)
    (h:∀ s',Rel s₁ N (Own (lawEnv L)) sb (lawEnv L) [("sums", sumsD S0 S1 S2 S3 S4 S5 S6),("drawn", Dr),("lacks", Lk),("count", .int c),("floor", .int (floOf S5 S6)),("base", .int (basOf S5 S6)),("things", .lst (((valsOf S5 S6 c).map thingOf).map thingD)),("bottom", .str (prettyFn (floOf S5 S6))),("tail", .str (tailAt S5))] γ s'->Xs w A (lawEnv L) rest Q E s'):Xs w A (lawEnv L) (stAt 12::stAt 13::stAt 14::rest) Q E s:=by
  obtain ⟨G,hA,hh,hfr,K,hu,hN⟩:=C
  have hv:=vals_mem (S5:=S5) (S6:=S6) (c:=c)
  have hl:=vals_len (S5:=S5) (S6:=S6) (c:=c)
  have hflo:=flo_range S5 S6
  generalize valsOf S5 S6 c=vs at *
  generalize floOf S5 S6=fl at *
  refine xs_assign R (d:=.lst ((vs.map thingOf).map thingD)) (Ev.conv (ev_lc (n:=200) (tg:=fun θ=>True) (ds:=vs.map D.int) G K hA hh (evit_list G (ev_var K rfl rfl rfl)) trivial (ScOk.of rfl) (fun θ=>rfl) rfl (among vs) (onI fun v=>thingD (thingOf v)) (fun C cells d K₁ ⟨v,hv',e⟩=>?_) among_of (by rw [List.length_map];unfold sizeLine;omega)) (by rw [List.map_map,List.map_map];rfl)) (.cell rfl rfl (own_cell rfl)) rfl fun s T K' R=>?_
  · subst e
    obtain ⟨v0,v1⟩:=hv v hv'
    exact ev_tuple (evs_cons (ev_var K₁ rfl rfl rfl) (evs_cons (ev_callF (n:=200) G hA hh (f_octets G (n:=198)) (ev_gl G K₁ rfl (by kernel_rfl) rfl) (evs_cons (ev_var K₁ rfl rfl rfl) evs_nil) rfl rfl rfl rfl) (evs_cons (ev_spaced ⟨v0,v1⟩ (by exact ev_str) (ev_mod (ev_var K₁ rfl rfl rfl) ev_int (by decide)) (ev_callF (n:=200) G hA hh (f_pretty G (n:=198) (by omega)) (ev_gl G K₁ rfl (by kernel_rfl) rfl) (evs_cons (ev_var K₁ rfl rfl rfl) evs_nil) rfl rfl rfl rfl) (by exact ev_str) (ev_mod (ev_var K₁ rfl rfl rfl) ev_int (by decide))) evs_nil))) (Nat.le_of_ble_eq_true rfl)
  obtain ⟨g1,g2,g3,g4⟩:=tail_get S5
  refine xs_tuple_swap (names:=["bottom", "tail"]) G (.inl hh) (fun θ θ θ θ=>.inl hh) R (ds:=[.str (prettyFn fl),.str (tailAt S5)]) ?_ rfl (.cons (as_bind (.local rfl rfl)) (.cons (as_bind (.local rfl rfl)) .nil)) ?_ ?_ fun s T K' R=>?_
  rotate_left
  · rfl
  · rfl
  rotate_left
  · exact ev_tuple (evs_cons (ev_callF (n:=200) G hA hh (f_pretty G (n:=198) hflo) (ev_gl G K rfl (by kernel_rfl) rfl) (evs_cons (ev_var K rfl rfl rfl) evs_nil) rfl rfl rfl rfl) (evs_cons (ev_item_tup (ds:=tailL.map D.str) (by exact ev_tuple (evs_cons ev_str (evs_cons ev_str (evs_cons ev_str (evs_cons ev_str (evs_cons ev_str evs_nil))))) (Nat.le_of_ble_eq_true rfl)) (ev_mod (ev_item_lst (i:=5) (ev_var K rfl rfl rfl) ev_int (by decide) (by decide) rfl (fun θ θ=>⟨_,rfl⟩)) ev_int (by decide)) g3 g4 g1 g2 (fun θ θ=>⟨_,rfl⟩)) evs_nil)) (Nat.le_of_ble_eq_true rfl)
  have R:=R.only [("sums", sumsD S0 S1 S2 S3 S4 S5 S6),("drawn", Dr),("lacks", Lk),("count", .int c),("values", .lst (vs.map D.int)),("floor", .int fl),("base", .int (basOf S5 S6)),("things", .lst ((vs.map thingOf).map thingD)),("bottom", .str (prettyFn fl)),("tail", .str (tailAt S5))] ⟨rfl,rfl,rfl,rfl,rfl,rfl,rfl,rfl,rfl,rfl,trivial⟩
  have hnm:PyData.strOk (prettyFn fl)=true:=nice_strOk (nice_pretty fl)
  have hok:okD (.lst ((vs.map spacedS++[prettyFn fl]).map D.str))=true:=okD_strs fun x hx=>by
    rcases List.mem_append.mp hx with q | q
    · obtain ⟨v,_,rfl⟩:=List.mem_map.mp q
      exact nice_strOk (nice_spaced v)
    · rw [List.mem_singleton.mp q];exact hnm
  have hsz:∀ l:List D,l.length=vs.length->l.length+([D.str (prettyFn fl)]:List D).length≤sizeLine:=fun l h=>by
    show l.length+1≤_
    unfold sizeLine;omega
  refine xs_if R (c:=false) (Ts.conv (ts_cmp (Ev.conv (d':=.lst ((vs.map spacedS++[prettyFn fl]).map D.str)) (ev_bin (ev_lc (n:=200) (tg:=fun θ=>True) (ds:=(vs.map thingOf).map thingD) G K hA hh (evit_list G (ev_var K rfl rfl rfl)) trivial (ScOk.of rfl) (fun θ=>rfl) rfl (fun d=>∃ v,d=thingD (thingOf v)) (fun d=>match d with | .tup [_,_,n]=>n | d=>d) (fun C cells d K₁ ⟨v,e⟩=>by subst e;exact ev_item_tup (ds:=[.int v,.lst ((octetsFn v).map D.int),.str (spacedS v)]) (i:=2) (j:=2) (ev_var K₁ rfl rfl rfl) ev_int (by decide) (by decide) rfl rfl (fun θ θ=>⟨_,rfl⟩)) (fun d hd=>by rw [List.map_map] at hd;obtain ⟨v,_,e⟩:=List.mem_map.mp hd;exact ⟨v,e.symm⟩) (by rw [List.length_map,List.length_map];unfold sizeLine;omega)) (ev_list (ds:=[.str (prettyFn fl)]) (evs_cons (ev_var K rfl rfl rfl) evs_nil) (Nat.le_of_ble_eq_true rfl)) (op_add_lst (hsz _ (by rw [List.length_map,List.length_map,List.length_map])))) (by rw [List.map_append,List.map_map,List.map_map,List.map_map];rfl))
    (Ev.conv (d':=.lst ((vs.map spacedS++[prettyFn fl]).map D.str)) (ev_bin (ev_lc (n:=200) (tg:=fun θ=>True) (ds:=vs.map D.int) G K hA hh (evit_list G (ev_var K rfl rfl rfl)) trivial (ScOk.of rfl) (fun θ=>rfl) rfl (among vs) (onI fun v=>.str (spacedS v)) (fun C cells d K₁ ⟨v,hv',e⟩=>by
      subst e
      have hv2:=hv v hv'
      exact ev_spaced hv2 (by exact ev_str) (ev_mod (ev_var K₁ rfl rfl rfl) ev_int (by decide)) (Ev.conv (ev_callF (n:=200) G hA hh (f_named G (n:=180) (v:=v) (by omega)) (ev_gl G K₁ rfl (by kernel_rfl) rfl) (evs_cons (ev_var K₁ rfl rfl rfl) evs_nil) rfl rfl rfl rfl) (by rw [pretty_named])) (by exact ev_str) (ev_mod (ev_var K₁ rfl rfl rfl) ev_int (by decide))) among_of (by rw [List.length_map];unfold sizeLine;omega)) (ev_list (ds:=[.str (prettyFn fl)]) (evs_cons (Ev.conv (ev_callF (n:=200) G hA hh (f_named G (n:=180) hflo) (ev_gl G K rfl (by kernel_rfl) rfl) (evs_cons (ev_var K rfl rfl rfl) evs_nil) rfl rfl rfl rfl) (by rw [pretty_named])) evs_nil) (Nat.le_of_ble_eq_true rfl)) (op_add_lst (hsz _ (by rw [List.length_map,List.length_map])))) (by rw [List.map_append,List.map_map,List.map_map];rfl))
    (op_ne_data (by omega) hok hok) rfl) (by rw [eqv_self hok];rfl)) (fun hc s T R=>nomatch hc) fun θ s T R=>xs_nil (h s (R.only _ ⟨rfl,rfl,rfl,rfl,rfl,rfl,rfl,rfl,rfl,trivial⟩))
end
noncomputable def menuS:List Str:=["", "\")\"", "\\(", "\\\\", "\"(\"", "\"\\\")\"", "a\\\"", "\\)"]
noncomputable def menuAt (j:Int):Str:=menuS.getD j.toNat Str.empty
theorem menu_cps:menuS.map Lc=menuL:=by decide +kernel
theorem mod8 (a:Int):a.fmod 8=0∨a.fmod 8=1∨a.fmod 8=2∨a.fmod 8=3∨a.fmod 8=4∨a.fmod 8=5∨a.fmod 8=6∨a.fmod 8=7:=by
  rw [Int.fmod_eq_emod_of_nonneg _ (by decide)];omega
theorem menu_get (a:Int):seqIndex? (a.fmod 8) 8=some (a.fmod 8).toNat∧(menuS.map D.str)[(a.fmod 8).toNat]?=some (.str (menuAt (a.fmod 8)))∧-(2^63)≤a.fmod 8∧a.fmod 8<2^63∧menuAt (a.fmod 8)∈menuS:=by
  have hm:∀ j:Fin 8,menuAt (j.val:Int)∈menuS:=fun j=>by
    have hl:((j.val:Int)).toNat<menuS.length:=j.isLt
    unfold menuAt
    rw [List.getD_eq_getElem?_getD,List.getElem?_eq_getElem hl]
    exact List.getElem_mem _
  rcases mod8 a with h | h | h | h | h | h | h | h<;>rw [h]
  · exact ⟨by decide,rfl,by decide,by decide,hm 0⟩
  · exact ⟨by decide,rfl,by decide,by decide,hm 1⟩
  · exact ⟨by decide,rfl,by decide,by decide,hm 2⟩
  · exact ⟨by decide,rfl,by decide,by decide,hm 3⟩
  · exact ⟨by decide,rfl,by decide,by decide,hm 4⟩
  · exact ⟨by decide,rfl,by decide,by decide,hm 5⟩
  · exact ⟨by decide,rfl,by decide,by decide,hm 6⟩
  · exact ⟨by decide,rfl,by decide,by decide,hm 7⟩
theorem menu_mem {x:Str} (h:x∈menuS):Lc x∈menuL:=by rw [← menu_cps];exact List.mem_map_of_mem h
noncomputable def asc (l:List Nat):Prop:=∀ c,c∈l->c<128
theorem asc_app {a b:List Nat} (h:asc a) (k:asc b):asc (a++b):=fun c hc=>(List.mem_append.mp hc).elim (h c) (k c)
theorem asc_par {a:List Nat} (h:parL a):asc a:=fun c hc=>by rcases h c hc with rfl | rfl<;>decide
theorem menu_asc:∀ l,l∈menuL->asc l∧l.length≤5:=by unfold asc;decide
theorem asc_ascii {x:Str} (h:asc (Lc x)):x.cps.all (·<128)=true:=by
  rw [← Array.all_toList,List.all_eq_true]
  intro c hc
  exact decide_eq_true (h c hc)
theorem s34':Str.ofString "\"" = ⟨#[34]⟩:=by decide +kernel
theorem s92:Str.ofString "\\" = ⟨#[92]⟩:=by decide +kernel
theorem rep_bit (c:Nat) (a:Int):List.replicate (a.fmod 2).toNat c=if decide (a.fmod 2=1) then [c] else []:=by
  rcases mod2 a with h | h<;>rw [h]<;>rfl
noncomputable def textS (M1 M2 a b:Str) (q:Int):Str:=M1++a++M2++b++Txt.mul "\"" q
noncomputable def wholeS (lk lf z:Int) (t:Str):Str:=Txt.mul "(" lk++t++Txt.mul ")" lf++Txt.mul "\\" z
noncomputable def headS (lk:Int):Str:=if lk=0 then ")" else Txt.mul "(" (lk-1)
noncomputable def footS (lf:Int):Str:=if lf=0 then "(" else Txt.mul ")" (lf-1)
noncomputable def shortS (lk lf:Int) (t:Str):Str:=headS lk++t++footS lf
theorem text_cps (M1 M2 a b:Str) (q:Int):Lc (textS M1 M2 a b (q.fmod 2))=Lc M1++(Lc a++(Lc M2++(Lc b++(if decide (q.fmod 2=1) then [34] else [])))):=by
  unfold textS
  rw [Lc_app,Lc_app,Lc_app,Lc_app,s34',mul_one,rep_bit]
  simp only [List.append_assoc]
theorem head_cps (lk:Int):Lc (headS lk)=if lk=0 then [41] else opn (lk-1).toNat:=by
  unfold headS
  split
  · rw [s41]
  · rw [s40,mul_one]
theorem foot_par (lf:Int):parL (Lc (footS lf))∧(0≤lf->(Lc (footS lf)).length≤lf.toNat+1):=by
  unfold footS
  split
  · rw [s40]
    exact ⟨fun c hc=>.inl (List.mem_singleton.mp hc),fun θ=>Nat.le_add_left _ _⟩
  · rw [s41,mul_one]
    exact ⟨par_cls _,fun h=>by rw [List.length_replicate,Int.pred_toNat];exact Nat.le_trans (Nat.sub_le _ _) (Nat.le_succ _)⟩
structure RowF (row a b M1 M2:Str):Prop where
  par:parL (Lc row)
  cut:Lc row=Lc a++Lc b
  len:(Lc row).length≤36
  m1:M1∈menuS
  m2:M2∈menuS
theorem RowF.pars {row a b M1 M2:Str} (h:RowF row a b M1 M2):parL (Lc a)∧parL (Lc b):=by
  have:=h.par
  rw [h.cut] at this
  exact ⟨parL_left this,parL_right this⟩
theorem RowF.text {row a b M1 M2:Str} (h:RowF row a b M1 M2) (q:Int):asc (Lc (textS M1 M2 a b (q.fmod 2)))∧(Lc (textS M1 M2 a b (q.fmod 2))).length≤47:=by
  obtain ⟨pa,pb⟩:=h.pars
  obtain ⟨a1,l1⟩:=menu_asc _ (menu_mem h.m1)
  obtain ⟨a2,l2⟩:=menu_asc _ (menu_mem h.m2)
  have hl:=h.len
  rw [h.cut,List.length_append] at hl
  rw [text_cps]
  refine ⟨asc_app a1 (asc_app (asc_par pa) (asc_app a2 (asc_app (asc_par pb) ?_))),?_⟩
  · split
    · intro c hc;rw [List.mem_singleton.mp hc];decide
    · intro c hc;cases hc
  · rw [List.length_append,List.length_append,List.length_append,List.length_append]
    have:(if decide (q.fmod 2=1) then [34] else ([]:List Nat)).length≤1:=by split<;>decide
    omega
theorem RowF.lacks {row a b M1 M2:Str} (h:RowF row a b M1 M2):0≤-(pol (Lc row)).1∧-(pol (Lc row)).1≤36∧0≤(pol (Lc row)).2-(pol (Lc row)).1∧(pol (Lc row)).2-(pol (Lc row)).1≤36:=by
  have h1:=pol_le (Lc row)
  have h2:=pol_hi (Lc row)
  have h3:=pol_nat h.len
  exact ⟨Int.neg_nonneg_of_nonpos h1,nabI h3.1,Int.sub_nonneg_of_le h2,nabI h3.2⟩
theorem RowF.whole {row a b M1 M2:Str} (h:RowF row a b M1 M2) (q z:Int):checkFn (wholeS (-(pol (Lc row)).1) ((pol (Lc row)).2-(pol (Lc row)).1) (z.fmod 2) (textS M1 M2 a b (q.fmod 2)))=true∧checkFn ("(" ++ wholeS (-(pol (Lc row)).1) ((pol (Lc row)).2-(pol (Lc row)).1) (z.fmod 2) (textS M1 M2 a b (q.fmod 2)))=false ∧
    asc (Lc (wholeS (-(pol (Lc row)).1) ((pol (Lc row)).2-(pol (Lc row)).1) (z.fmod 2) (textS M1 M2 a b (q.fmod 2))))∧(Lc (wholeS (-(pol (Lc row)).1) ((pol (Lc row)).2-(pol (Lc row)).1) (z.fmod 2) (textS M1 M2 a b (q.fmod 2)))).length≤200:=by
  obtain ⟨pa,pb⟩:=h.pars
  obtain ⟨ta,tl⟩:=h.text q
  obtain ⟨k1,k2,k3,k4⟩:=h.lacks
  have e:Lc (wholeS (-(pol (Lc row)).1) ((pol (Lc row)).2-(pol (Lc row)).1) (z.fmod 2) (textS M1 M2 a b (q.fmod 2)))=opn (-(pol (Lc row)).1).toNat++(Lc (textS M1 M2 a b (q.fmod 2))++(cls ((pol (Lc row)).2-(pol (Lc row)).1).toNat++(if decide (z.fmod 2=1) then [92] else []))):=by
    unfold wholeS
    rw [Lc_app,Lc_app,Lc_app,s40,s41,s92,mul_one,mul_one,mul_one,rep_bit]
    simp only [List.append_assoc]
  have hc:∀ (x:Str) (n:Nat),Lc x=opn n++(Lc (textS M1 M2 a b (q.fmod 2))++(cls ((pol (Lc row)).2-(pol (Lc row)).1).toNat++(if decide (z.fmod 2=1) then [92] else [])))->checkFn x=balL (opn n++(Lc row++cls ((pol (Lc row)).2-(pol (Lc row)).1).toNat)) 0:=fun x n hx=>by
    rw [text_cps] at hx
    simp only [List.append_assoc] at hx
    rw [check_hidden (q:=decide (q.fmod 2=1)) (z:=decide (z.fmod 2=1)) hx (par_opn _) pa pb (par_cls _) (menu_mem h.m1) (menu_mem h.m2),h.cut,List.append_assoc]
  refine ⟨(hc _ _ e).trans (whole_bal h.par),(hc _ ((-(pol (Lc row)).1).toNat+1) ?_).trans (more_bal h.par),?_,?_⟩
  · rw [Lc_app,e,s40];rfl
  · rw [e]
    refine asc_app (asc_par (par_opn _)) (asc_app ta (asc_app (asc_par (par_cls _)) ?_))
    split
    · intro c hc;rw [List.mem_singleton.mp hc];decide
    · intro c hc;cases hc
  · rw [e,List.length_append,List.length_append,List.length_append,List.length_replicate,List.length_replicate]
    have:(if decide (z.fmod 2=1) then [92] else ([]:List Nat)).length≤1:=by split<;>decide
    exact Nat.le_trans (Nat.add_le_add (toL 36 k2) (Nat.add_le_add tl (Nat.add_le_add (toL 36 k4) this))) (by decide)
theorem RowF.short {row a b M1 M2:Str} (h:RowF row a b M1 M2) (q:Int):checkFn (shortS (-(pol (Lc row)).1) ((pol (Lc row)).2-(pol (Lc row)).1) (textS M1 M2 a b (q.fmod 2)))=false ∧
    asc (Lc (shortS (-(pol (Lc row)).1) ((pol (Lc row)).2-(pol (Lc row)).1) (textS M1 M2 a b (q.fmod 2))))∧(Lc (shortS (-(pol (Lc row)).1) ((pol (Lc row)).2-(pol (Lc row)).1) (textS M1 M2 a b (q.fmod 2)))).length≤200∧(Lc (headS (-(pol (Lc row)).1))).length≤37∧(Lc (footS ((pol (Lc row)).2-(pol (Lc row)).1))).length≤37:=by
  obtain ⟨pa,pb⟩:=h.pars
  obtain ⟨ta,tl⟩:=h.text q
  obtain ⟨k1,k2,k3,k4⟩:=h.lacks
  obtain ⟨f1,f2⟩:=foot_par ((pol (Lc row)).2-(pol (Lc row)).1)
  have f2:=f2 k3
  have hh:Lc (headS (-(pol (Lc row)).1))=if (pol (Lc row)).1=0 then [41] else opn ((-(pol (Lc row)).1).toNat-1):=by
    rw [head_cps]
    by_cases q:(pol (Lc row)).1=0
    · rw [if_pos q,if_pos (by omega)]
    · rw [if_neg q,if_neg (by omega),Int.pred_toNat]
  have hp:parL (Lc (headS (-(pol (Lc row)).1))):=by
    rw [hh]
    split
    · exact fun c hc=>.inr (List.mem_singleton.mp hc)
    · exact par_opn _
  have hl:(Lc (headS (-(pol (Lc row)).1))).length≤37:=by
    rw [hh]
    split
    · decide
    · rw [List.length_replicate];exact Nat.le_trans (Nat.sub_le _ _) (Nat.le_trans (toL 36 k2) (by decide))
  have e:Lc (shortS (-(pol (Lc row)).1) ((pol (Lc row)).2-(pol (Lc row)).1) (textS M1 M2 a b (q.fmod 2)))=Lc (headS (-(pol (Lc row)).1))++(Lc (textS M1 M2 a b (q.fmod 2))++Lc (footS ((pol (Lc row)).2-(pol (Lc row)).1))):=by
    unfold shortS
    rw [Lc_app,Lc_app,List.append_assoc]
  have f2:=Nat.le_trans f2 (Nat.succ_le_succ (toL 36 k4))
  refine ⟨?_,?_,?_,hl,f2⟩
  · have hx:=e
    rw [text_cps] at hx
    simp only [List.append_assoc] at hx
    rw [check_hidden (q:=decide (q.fmod 2=1)) (z:=false) (hx.trans (by simp)) hp pa pb f1 (menu_mem h.m1) (menu_mem h.m2),← List.append_assoc (Lc a),← h.cut,hh]
    exact short_bal h.par _
  · rw [e];exact asc_app (asc_par hp) (asc_app ta (asc_par f1))
  · rw [e,List.length_append,List.length_append];exact Nat.le_trans (Nat.add_le_add hl (Nat.add_le_add tl f2)) (by decide)
noncomputable def forBody:List Stmt->List Stmt
  | .For _ _ b _ _::_=>b
  | _=>[]
noncomputable abbrev turnBody:List Stmt:=forBody (lawBody.drop 16)
noncomputable abbrev tuAt (i:Nat):Stmt:=headOf (turnBody.drop i)
noncomputable abbrev turnNames (S0 S1 S2 S3 S4 S5 S6:Int) (d0 d1:Str) (c:Nat) (fl bs:Int) (th:List Thing) (bt tl:Str) (a:Nat) (more:List (Str × D)):List (Str × D):=("sums", sumsD S0 S1 S2 S3 S4 S5 S6)::("lacks", .lst [lackD d0,lackD d1])::("count", .int c)::("floor", .int fl)::("base", .int bs)::("things", .lst (th.map thingD))::("bottom", .str bt)::("tail", .str tl)::("menu", .tup (menuS.map D.str))::("at", .int a)::more
section
variable {w:World} {s₁ sb s:Shared} {N:Addr->Prop} {A:Around} {L:Addr} {ρ:List (Str × D)} {γ:List (D × Value)} {Q:Flow->Shared->Prop} {E:Value->Shared->Prop}
theorem sz {x:Str} {n:Nat} (h:(Lc x).length≤n) (hn:Nat.ble n 16777216=true):x.length≤sizeLine:=by
  rw [len_cps]
  exact Nat.le_trans h (Nat.le_of_ble_eq_true hn)
theorem turn_1 (C:LawAt w s₁ A L N) {rest:List Stmt} {S0 S1 S2 S3 S4 S5 S6:Int} {d0 d1 row bt tl:Str} {c t a:Nat} {fl bs:Int} {th:List Thing} (ht:t<2) (hr:parL (Lc row)∧(Lc row).length≤36) (ha:a≤(Lc row).length) (hL:([lackD d0,lackD d1]:List D)[t]?=some (lackD row))
    (R:Rel s₁ N (Own (lawEnv L)) sb (lawEnv L) (turnNames S0 S1 S2 S3 S4 S5 S6 d0 d1 c fl bs th bt tl a [("turn", .int t),("row", .str row)]) γ s)
    (h:∀ s',Rel s₁ N (Own (lawEnv L)) sb (lawEnv L) (turnNames S0 S1 S2 S3 S4 S5 S6 d0 d1 c fl bs th bt tl a [("turn", .int t),("row", .str row),("lack", .int (-(pol (Lc row)).1)),("left", .int ((pol (Lc row)).2-(pol (Lc row)).1))]) γ s'->Xs w A (lawEnv L) rest Q E s'):Xs w A (lawEnv L) (tuAt 0::tuAt 1::tuAt 2::tuAt 3::tuAt 4::rest) Q E s:=by
  obtain ⟨G,hA,hh,hfr,K,hu,hN⟩:=C
  obtain ⟨g1,g2,g3,g4,gm⟩:=menu_get S4
  obtain ⟨k1,k2,k3,k4,km⟩:=menu_get (S4.fdiv 8)
  have hlen:row.length=(Lc row).length:=len_cps row
  have F:RowF row (Txt.slice row none (some (a:Int))) (Txt.slice row (some (a:Int)) none) (menuAt (S4.fmod 8)) (menuAt ((S4.fdiv 8).fmod 8)):=by
    refine ⟨hr.1,?_,hr.2,gm,km⟩
    rw [show Lc (Txt.slice row none (some (a:Int)))=_ from slice_init (by omega),show Lc (Txt.slice row (some (a:Int)) none)=_ from slice_tail (by omega)]
    exact (List.take_append_drop a (Lc row)).symm
  obtain ⟨l0,l1,l2,l3⟩:=F.lacks
  obtain ⟨pa,pb⟩:=F.pars
  have cut:=F.cut
  have q1:=F.whole (S4.fdiv 64) (S4.fdiv 128)
  have q2:=F.short (S4.fdiv 64)
  have q3:=F.text (S4.fdiv 64)
  have b1:=menu_asc _ (menu_mem gm)
  have b2:=menu_asc _ (menu_mem km)
  have clen:(Lc (Txt.slice row none (some (a:Int)))).length+(Lc (Txt.slice row (some (a:Int)) none)).length≤36:=by
    rw [← List.length_append,← cut];exact hr.2
  have LA:∀ {x y:Str} {m n:Nat},(Lc x).length≤m->(Lc y).length≤n->(Lc (x++y)).length≤m+n:=fun {x y m n} h1 h2=>by rw [Lc_app,List.length_append];exact Nat.add_le_add h1 h2
  have hbit:∀ v:Int,(v.fmod 2).natAbs≤1000:=fun v=>by rcases mod2 v with q | q<;>rw [q]<;>decide
  have z1:(Lc (menuAt (S4.fmod 8))).length≤5:=b1.2
  have z2:(Lc (menuAt ((S4.fdiv 8).fmod 8))).length≤5:=b2.2
  have z3:(Lc (Txt.slice row none (some (a:Int)))).length≤36:=by omega
  have z4:(Lc (Txt.slice row (some (a:Int)) none)).length≤36:=by omega
  refine xs_tuple G (.inl hh) (fun θ θ θ θ=>.inl hh) R (ds:=[.int (-(pol (Lc row)).1),.int ((pol (Lc row)).2-(pol (Lc row)).1)]) (ev_item_lst (i:=t) (ds:=[lackD d0,lackD d1]) (ev_var K rfl rfl rfl) (ev_var K rfl rfl rfl) (Int.natCast_nonneg _) (by omega) (by rw [Int.toNat_natCast];exact hL) (fun θ θ=>⟨_,rfl⟩)) (.cons (as_name (.local rfl rfl)) (.cons (as_name (.cell rfl rfl (own_cell rfl))) .nil)) rfl rfl rfl fun s T K' R=>?_
  refine xs_assign R (d:=.str (textS (menuAt (S4.fmod 8)) (menuAt ((S4.fdiv 8).fmod 8)) (Txt.slice row none (some (a:Int))) (Txt.slice row (some (a:Int)) none) ((S4.fdiv 64).fmod 2))) (ev_bin (ev_bin (ev_bin (ev_bin (ev_item_tup (ds:=menuS.map D.str) (ev_var K rfl rfl rfl) (ev_mod (ev_item_lst (i:=4) (ev_var K rfl rfl rfl) ev_int (by decide) (by decide) rfl (fun θ θ=>⟨_,rfl⟩)) ev_int (by decide)) g3 g4 g1 g2 (fun θ θ=>⟨_,rfl⟩))
    (ev_slice_str (lo:=none) (hi:=some (a:Int)) (sz hr.2 rfl) (ev_var K rfl rfl rfl) pt_none (pt_some (ev_var K rfl rfl rfl))) (op_add_str (sz (LA z1 z3) rfl)))
    (ev_item_tup (ds:=menuS.map D.str) (ev_var K rfl rfl rfl) (ev_mod (ev_div (ev_item_lst (i:=4) (ev_var K rfl rfl rfl) ev_int (by decide) (by decide) rfl (fun θ θ=>⟨_,rfl⟩)) ev_int (by decide) (no_py (by decide))) ev_int (by decide)) k3 k4 k1 k2 (fun θ θ=>⟨_,rfl⟩)) (op_add_str (sz (LA (LA z1 z3) z2) rfl)))
    (ev_slice_str (lo:=some (a:Int)) (hi:=none) (sz hr.2 rfl) (ev_var K rfl rfl rfl) (pt_some (ev_var K rfl rfl rfl)) pt_none) (op_add_str (sz (LA (LA (LA z1 z3) z2) z4) rfl)))
    (ev_bin ev_str (ev_mod (ev_div (ev_item_lst (i:=4) (ev_var K rfl rfl rfl) ev_int (by decide) (by decide) rfl (fun θ θ=>⟨_,rfl⟩)) ev_int (by decide) (no_py (by decide))) ev_int (by decide)) (op_mul_str (mul_ok (hbit _) (by rw [s34'];exact Nat.le_refl 1)))) (op_add_str (sz q3.2 rfl))) (.local rfl rfl) rfl fun s T K' R=>?_
  have R:=R.only (turnNames S0 S1 S2 S3 S4 S5 S6 d0 d1 c fl bs th bt tl a [("turn", .int t),("row", .str row),("lack", .int (-(pol (Lc row)).1)),("left", .int ((pol (Lc row)).2-(pol (Lc row)).1)),("text", .str (textS (menuAt (S4.fmod 8)) (menuAt ((S4.fdiv 8).fmod 8)) (Txt.slice row none (some (a:Int))) (Txt.slice row (some (a:Int)) none) ((S4.fdiv 64).fmod 2)))]) ⟨rfl,rfl,rfl,rfl,rfl,rfl,rfl,rfl,rfl,rfl,rfl,rfl,rfl,rfl,rfl,trivial⟩
  clear F cut clen b1 b2 z1 z2 z3 z4 pa pb g1 g2 g3 g4 k1 k2 k3 k4 gm km
  generalize textS (menuAt (S4.fmod 8)) (menuAt ((S4.fdiv 8).fmod 8)) (Txt.slice row none (some (a:Int))) (Txt.slice row (some (a:Int)) none) ((S4.fdiv 64).fmod 2)=tx at *
  obtain ⟨w1,w2,w3,w4⟩:=q1
  obtain ⟨u1,u2,u3,u4,u5⟩:=q2
  obtain ⟨-,v2⟩:=q3
  generalize -(pol (Lc row)).1=lk at *
  generalize (pol (Lc row)).2-(pol (Lc row)).1=lf at *
  have n1:(Lc (Txt.mul "(" lk)).length≤36:=by rw [s40,mul_one,List.length_replicate];omega
  have n2:(Lc (Txt.mul ")" lf)).length≤36:=by rw [s41,mul_one,List.length_replicate];omega
  have hz:=(S4.fdiv 128).fmod 2
  refine xs_assign R (d:=.str (wholeS lk lf ((S4.fdiv 128).fmod 2) tx)) (ev_bin (ev_bin (ev_bin (ev_bin ev_str (ev_var K rfl rfl rfl) (op_mul_str (mul_ok (by omega) (by rw [s40];exact Nat.le_refl 1)))) (ev_var K rfl rfl rfl) (op_add_str (sz (LA n1 v2) rfl))) (ev_bin ev_str (ev_var K rfl rfl rfl) (op_mul_str (mul_ok (by omega) (by rw [s41];exact Nat.le_refl 1)))) (op_add_str (sz (LA (LA n1 v2) n2) rfl)))
    (ev_bin ev_str (ev_mod (ev_div (ev_item_lst (i:=4) (ev_var K rfl rfl rfl) ev_int (by decide) (by decide) rfl (fun θ θ=>⟨_,rfl⟩)) ev_int (by decide) (no_py (by decide))) ev_int (by decide)) (op_mul_str (mul_ok (hbit _) (by rw [s92];exact Nat.le_refl 1)))) (op_add_str (sz w4 rfl))) (.local rfl rfl) rfl fun s T K' R=>?_
  refine xs_assign R (d:=.str (shortS lk lf tx)) (ev_bin (ev_bin (a:=.str (headS lk)) (ev_if (c:=lk != 0) (ts_plain (ev_var K rfl rfl rfl) tr_int (fun θ=>rfl)) (fun q=>?_) fun q=>?_) (ev_var K rfl rfl rfl) (op_add_str (sz (LA u4 v2) rfl))) (b:=.str (footS lf)) (ev_if (c:=lf != 0) (ts_plain (ev_var K rfl rfl rfl) tr_int (fun θ=>rfl)) (fun q=>?_) fun q=>?_) (op_add_str (sz u3 rfl))) (.local rfl rfl) rfl fun s T K' R=>?_
  · have q':lk≠0:=by simpa using q
    unfold headS
    rw [if_neg q']
    exact ev_bin ev_str (ev_sub (ev_var K rfl rfl rfl) ev_int) (op_mul_str (mul_ok (by omega) (by rw [s40];exact Nat.le_refl 1)))
  · have q':lk=0:=by simpa using q
    unfold headS
    rw [if_pos q']
    exact ev_str
  · have q':lf≠0:=by simpa using q
    unfold footS
    rw [if_neg q']
    exact ev_bin ev_str (ev_sub (ev_var K rfl rfl rfl) ev_int) (op_mul_str (mul_ok (by omega) (by rw [s41];exact Nat.le_refl 1)))
  · have q':lf=0:=by simpa using q
    unfold footS
    rw [if_pos q']
    exact ev_str
  have w5:asc (Lc ("(" ++ wholeS lk lf ((S4.fdiv 128).fmod 2) tx))∧(Lc ("(" ++ wholeS lk lf ((S4.fdiv 128).fmod 2) tx)).length≤1+200:=by
    refine ⟨?_,LA (by rw [s40];exact Nat.le_refl 1) w4⟩
    rw [Lc_app,s40]
    exact asc_app (fun c hc=>by rw [List.mem_singleton.mp hc];decide) w3
  have R:=R.only (turnNames S0 S1 S2 S3 S4 S5 S6 d0 d1 c fl bs th bt tl a [("turn", .int t),("row", .str row),("lack", .int lk),("left", .int lf),("whole", .str (wholeS lk lf ((S4.fdiv 128).fmod 2) tx)),("short", .str (shortS lk lf tx))]) ⟨rfl,rfl,rfl,rfl,rfl,rfl,rfl,rfl,rfl,rfl,rfl,rfl,rfl,rfl,rfl,rfl,trivial⟩
  generalize wholeS lk lf ((S4.fdiv 128).fmod 2) tx=wh at *
  generalize shortS lk lf tx=sh at *
  have hk:=mod2 ((t:Int)+S4)
  have hpick:checkFn (pick sh ("(" ++ wh) (((t:Int)+S4).fmod 2))=false∧asc (Lc (pick sh ("(" ++ wh) (((t:Int)+S4).fmod 2)))∧(Lc (pick sh ("(" ++ wh) (((t:Int)+S4).fmod 2))).length≤1000:=by
    rcases hk with q | q<;>rw [q]
    · exact ⟨u1,u2,Nat.le_trans u3 (by decide)⟩
    · exact ⟨w2,w5.1,Nat.le_trans w5.2 (by decide)⟩
  have aw:=asc_ascii w3
  have ap:=asc_ascii hpick.2.1
  refine xs_if R (c:=false) (Ts.conv (ts_or (ts_cmp (ev_callF (n:=200) G hA hh (f_check (n:=195) G aw (by rw [len_cps];exact Nat.le_trans w4 (by decide)) (sqFn_all aw)) (ev_gl G K rfl (by kernel_rfl) rfl) (evs_cons (ev_var K rfl rfl rfl) evs_nil) rfl rfl rfl rfl) ev_bool op_isnot_bool rfl) fun θ=>ts_cmp (ev_callF (n:=200) G hA hh (f_check (n:=195) G ap (by rw [len_cps];exact hpick.2.2) (sqFn_all ap)) (ev_gl G K rfl (by kernel_rfl) rfl) (evs_cons (ev_pickS hk (ev_list (evs_cons (ev_var K rfl rfl rfl) (evs_cons (ev_bin ev_str (ev_var K rfl rfl rfl) (op_add_str (sz w5.2 rfl))) evs_nil)) (Nat.le_of_ble_eq_true rfl)) (ev_mod (ev_add (ev_var K rfl rfl rfl) (ev_item_lst (i:=4) (ev_var K rfl rfl rfl) ev_int (by decide) (by decide) rfl (fun θ θ=>⟨_,rfl⟩))) ev_int (by decide)) (fun θ θ=>⟨_,rfl⟩)) evs_nil) rfl rfl rfl rfl) ev_bool op_isnot_bool rfl) (by rw [w1,hpick.1];rfl)) (fun hc s T R=>nomatch hc) fun θ s T R=>xs_nil (h s (R.only _ ⟨rfl,rfl,rfl,rfl,rfl,rfl,rfl,rfl,rfl,rfl,rfl,rfl,rfl,rfl,trivial⟩))
end
theorem all_rep {N:Addr->Prop} {h:Heap} {d:D} {v:Value} (b:Bears N h d v):∀ k:Nat,BearsAll N h (List.replicate k d) (List.replicate k v)
  | 0=>all_nil
  | k+1=>all_cons b (all_rep b k)
section
variable {w:World} {s₁ sb s:Shared} {N:Addr->Prop} {A:Around} {env:Env} {L:Addr} {ρ:List (Str × D)} {γ:List (D × Value)} {Q:Flow->Shared->Prop} {E:Value->Shared->Prop}
theorem op_rep {d:D} {k:Nat} {i:Int} (hi:i=k) (hk:k≤2^24):∀ N s u v,Bears N s.heap (.lst [d]) u->Bears N s.heap (.int i) v->Op w s₁ N A s (binaryOp .Mult u v) fun z s'=>Bears N s'.heap (.lst (List.replicate k d)) z:=fun N s u v bu bv H nex=>by
  obtain ⟨l,us,rfl,hn,hl,ba⟩:=of_lst' bu
  obtain ⟨t,rfl⟩:=of_int bv
  obtain ⟨v',r,rfl,bd,br⟩:=all_cons_iff.mp ba
  obtain rfl:=all_nil_iff.mp br
  exact mul_lst1 hl hi hk ⟨To.push _ _,bears_lst nex.size ⟨_,Heap.get?_push_size _ rfl⟩ (all_rep (bd.to (To.push _ _)) k)⟩
variable {elt iter i2:Expr} {x u z:Str} {px pu pos p spos:Pos} {scope:Scope} {n:Nat} {ss:List Stmt}
theorem xs_lc11 (G:GW w s₁) (K:EnvOk env) (hA:Rm n A) (hh:A.handled=none) (R:Rel s₁ N (Own env) sb env ρ γ s) {ds:List D} {ds2:D->List D} {g:D->D->D} (yl:Ev w s₁ A env ρ iter (.lst ds)) (sc:ScOk scope env) (hf:∀ v,foldedSetIterable iter env v=pure v) (hx:bound scope x=true) (hu:bound scope u=true) (hxu:(x != u)=true)
    (y2:∀ C cells d,EnvOk (compEnv scope env C cells)->d∈ds->Ev w s₁ A (compEnv scope env C cells) ((x,d)::capt scope ρ) i2 (.lst (ds2 d))) (hf2:∀ env' x,foldedSetIterable i2 env' x=pure x)
    (he:∀ C cells d d2,EnvOk (compEnv scope env C cells)->d∈ds->d2∈ds2 d->Ev w s₁ A (compEnv scope env C cells) ((u,d2)::(x,d)::capt scope ρ) elt (g d d2)) (hK:(ds.flatMap fun d=>(ds2 d).map (g d)).length≤sizeLine) (S:Sto (Own env) env z)
    (hsw:swapsWith (two elt (.Name x px) iter (.Name u pu) i2 scope pos) (some (.Name z p)) spos.line env=pure true)
    (h:∀ s',To (Own env) s s'->Kp s s'->Rel s₁ N (Own env) sb env ((z,.lst (ds.flatMap fun d=>(ds2 d).map (g d)))::ρ) γ s'->Xs w A env ss Q E s'):Xs w A env (.Assign [.Name z p] (two elt (.Name x px) iter (.Name u pu) i2 scope pos) spos::ss) Q E s:=
  xs_comp_of (n:=n) (tg:=fun θ=>True) (P:=fun d=>d∈ds) G hA hh (evit_list G yl) trivial sc hf _ _ (fun θ θ θ=>shape2)
    (turn_two G hA hh sc (fun d=>[(x,d)]) ds2 (fun θ d2=>[(u,d2)]) g (fun d θ=>ownB_one hx) (fun N' C cells acc d θ=>as_name (sto_comp sc.k hx)) (tg:=fun θ=>True) (fun C cells d hd=>evit_list G (y2 C cells d (K.comp sc.k) hd)) trivial hf2
      (fun d d2 y e hd h2 hl=>by
        show ((u,d2)::_).lookup y=some e
        refine (lookup_ne ?_).trans hl
        intro q
        subst q
        have hl':((x,d)::capt scope ρ).lookup y=some e:=hl
        rw [lookup_ne (Ne.symm (bne_iff_ne.mp hxu))] at hl'
        exact bound_free hu hl' rfl)
      (fun N' C cells acc d d2 θ θ=>as_name (sto_comp sc.k hu)) fun C cells d d2 hd h2=>he C cells d d2 (K.comp sc.k) hd h2)
    (fun d h=>h) hK S hsw R (own_there R) h
end
theorem stay_len {P:List Thing} {T:Thing} {row:List Nat} {n m:Nat} (hP:P.length≤n) (hr:row.length≤m):(stayOf P T row).length≤n+m:=by
  have h:=pol_span row
  unfold stayOf
  split
  · rw [List.length_append,List.length_replicate,List.length_take];exact Nat.add_le_add (Nat.le_trans (Nat.min_le_right _ _) hP) (Int.toNat_le.mpr (Int.le_trans h (Int.ofNat_le.mpr hr)))
  · exact Nat.zero_le _
theorem stay_mem {P:List Thing} {T:Thing} {row:List Nat} {q:Thing->Prop} (hP:∀ t,t∈P->q t) (hT:q T):∀ t,t∈stayOf P T row->q t:=fun t ht=>by
  unfold stayOf at ht
  split at ht
  · rcases List.mem_append.mp ht with h | h
    · exact hP t (List.mem_of_mem_take h)
    · rw [List.eq_of_mem_replicate h];exact hT
  · cases ht
theorem deeds_map (T:Thing) (l:List Nat) (P:List Thing):P.map thingD++(l.map fun c=>deedD (deedOf T c))=(P.map some++l.map (deedOf T)).map deedD:=by
  rw [List.map_append,List.map_map,List.map_map];rfl
theorem thing_get {th:List Thing} {c:Nat} {T:Thing} (h:th[c]?=some T):(th.map thingD)[((c:Int)).toNat]?=some (thingD T):=by rw [Int.toNat_natCast,List.getElem?_map,h];rfl
theorem num_list (ft:Int) (P:List Thing):(enumD 0 (P.map thingD).reverse).map (onT fun a b=>onI (fun k=>match b with | .tup [.int v,_,_]=>.int (signI ft*v*ft^k.toNat) | d=>d) a)=(numL ft P).map D.int:=by
  rw [enumD_map,← List.map_reverse]
  unfold numL
  rw [List.zipIdx_map,List.map_map,List.map_map]
  rfl
noncomputable def octD:D->List D
  | .tup [_,.lst o,_]=>o
  | _=>[]
theorem tape_flat (st:List Thing):((st.map thingD).reverse.flatMap fun d=>(octD d).map fun d=>d)=(st.reverse.flatMap (·.2.1)).map D.int:=by
  rw [← List.map_reverse,List.map_flatMap,List.flatMap_map]
  congr 1
  funext u
  exact List.map_id' _
theorem flat_len {n:Nat}:∀ {l:List Thing},(∀ u,u∈l->u.2.1.length≤n)->(l.flatMap (·.2.1)).length≤n*l.length
  | [],_=>Nat.zero_le _
  | u::l,h=>by
    rw [List.flatMap_cons,List.length_append,List.length_cons,Nat.mul_succ,Nat.add_comm]
    exact Nat.add_le_add (flat_len fun v hv=>h v (.tail _ hv)) (h u (.head _))
section
variable {w:World} {s₁ sb s:Shared} {N:Addr->Prop} {A:Around} {L:Addr} {ρ:List (Str × D)} {γ:List (D × Value)} {Q:Flow->Shared->Prop} {E:Value->Shared->Prop}
theorem turn_2 (C:LawAt w s₁ A L N) {rest:List Stmt} {S0 S1 S2 S3 S4 S5 S6:Int} {d0 d1 row bt tl:Str} {c t a:Nat} {fl bs:Int} {th:List Thing} {T:Thing} (hr:parL (Lc row)∧(Lc row).length≤36) (hc:c≤12) (hl:th.length=c+1) (hT:th[c]?=some T) (hth:∀ u,u∈th->0≤u.1∧u.1<2^36∧u.2.1.length≤6) (hfl:fl.natAbs<2^60) (hbs:Builtin.Int.intBits bs≤7999)
    (R:Rel s₁ N (Own (lawEnv L)) sb (lawEnv L) (turnNames S0 S1 S2 S3 S4 S5 S6 d0 d1 c fl bs th bt tl a [("turn", .int t),("row", .str row),("lack", .int (-(pol (Lc row)).1)),("left", .int ((pol (Lc row)).2-(pol (Lc row)).1))]) γ s)
    (h:∀ gr ft:Int,((ft=0∧gr=0)∨(ft=bs∧gr=fl∧(Lc row).length<24))->∀ s',Rel s₁ N (Own (lawEnv L)) sb (lawEnv L) (turnNames S0 S1 S2 S3 S4 S5 S6 d0 d1 c fl bs th bt tl a [("lack", .int (-(pol (Lc row)).1)),("deeds", .lst (((th.take c).map some++(Lc row).map (deedOf T)).map deedD)),("ground", .int gr),("foot", .int ft),("stay", .lst ((stayOf (th.take c) T (Lc row)).map thingD)),
      ("due", .int (gr*ft^(stayOf (th.take c) T (Lc row)).length+(numL ft (stayOf (th.take c) T (Lc row))).sum)),("tape", .lst (((stayOf (th.take c) T (Lc row)).reverse.flatMap (·.2.1)).map D.int))]) γ s'->Xs w A (lawEnv L) rest Q E s'):Xs w A (lawEnv L) (tuAt 5::tuAt 6::tuAt 7::tuAt 8::tuAt 9::rest) Q E s:=by
  obtain ⟨G,hA,hh,hfr,K,hu,hN⟩:=C
  have hrl:row.length=(Lc row).length:=len_cps row
  obtain ⟨gr,ft,hgf,e1,e2⟩:∃ gr ft:Int,((ft=0∧gr=0)∨(ft=bs∧gr=fl∧(Lc row).length<24))∧((((t:Int)==S6.fmod 2)&&decide ((row.length:Int)<24))=true->fl=gr∧bs=ft)∧((((t:Int)==S6.fmod 2)&&decide ((row.length:Int)<24))=false->0=gr∧0=ft):=by
    cases hq:(((t:Int)==S6.fmod 2)&&decide ((row.length:Int)<24)) with
    | true=>
      rw [Bool.and_eq_true,decide_eq_true_eq] at hq
      exact ⟨fl,bs,.inr ⟨rfl,rfl,by omega⟩,(fun θ=>⟨rfl,rfl⟩),(fun q=>nomatch q)⟩
    | false=>exact ⟨0,0,.inl ⟨rfl,rfl⟩,(fun q=>nomatch q),(fun θ=>⟨rfl,rfl⟩)⟩
  have hg60:gr.natAbs<2^60:=by rcases hgf with q | q<;>omega
  have hfb:Builtin.Int.intBits ft≤7999:=by
    rcases hgf with q | q
    · rw [q.1];decide
    · rw [q.1];exact hbs
  refine xs_tuple G (.inl hh) (fun θ θ θ θ=>.inl hh) R (ds:=[.int gr,.int ft]) (ev_if (c:=((t:Int)==S6.fmod 2)&&decide ((row.length:Int)<24)) (ts_and (ts_cmp (ev_var K rfl rfl rfl) (ev_mod (ev_item_lst (i:=6) (ev_var K rfl rfl rfl) ev_int (by decide) (by decide) rfl (fun θ θ=>⟨_,rfl⟩)) ev_int (by decide)) op_eq rfl) fun θ=>ts_cmp (ev_len_s G K (ev_var K rfl rfl rfl) rfl rfl rfl (by omega)) ev_int op_lt rfl) (fun q=>?_) fun q=>?_) (.cons (as_name (.local rfl rfl)) (.cons (as_name (.cell rfl rfl (own_cell rfl))) .nil)) rfl rfl rfl fun s T' K' R=>?_
  · obtain ⟨x,y⟩:=e1 q
    rw [← x,← y]
    exact ev_tuple (evs_cons (ev_var K rfl rfl rfl) (evs_cons (ev_var K rfl rfl rfl) evs_nil)) (Nat.le_of_ble_eq_true rfl)
  · obtain ⟨x,y⟩:=e2 q
    rw [← x,← y]
    exact ev_tuple (evs_cons ev_int (evs_cons ev_int evs_nil)) (Nat.le_of_ble_eq_true rfl)
  have h:=h gr ft hgf
  clear e1 e2 hgf
  refine xs_assign R (d:=.lst (((th.take c).map some++(Lc row).map (deedOf T)).map deedD)) (Ev.conv (ev_bin (a:=.lst ((th.take c).map thingD)) (b:=.lst ((Lc row).map fun c=>deedD (deedOf T c))) (Ev.conv (ev_upto (i:=c) (by rw [List.length_map];unfold sizeLine;omega) (ev_var K rfl rfl rfl) (ev_var K rfl rfl rfl)) (by rw [List.map_take]))
    (Ev.conv (ev_lc (n:=200) (tg:=fun θ=>True) G K hA hh (evit_str G (par_ascii hr.1) (ev_var K rfl rfl rfl)) trivial (ScOk.of rfl) (fun θ=>rfl) rfl (fun d=>∃ k,d=.str ⟨#[k]⟩) (fun d=>match d with | .str x=>deedD (deedOf T (x.cps.toList.headD 0)) | d=>d) (fun C cells d K₁ ⟨k,e⟩=>?_) (fun d hd=>by obtain ⟨k,_,rfl⟩:=List.mem_map.mp hd;exact ⟨k,rfl⟩) (by unfold chars;rw [List.length_map];exact Nat.le_trans hr.2 (Nat.le_of_ble_eq_true rfl))) (by unfold chars;rw [List.map_map];rfl)) (op_add_lst (by rw [List.length_map,List.length_map,List.length_take];unfold sizeLine;omega))) (by rw [deeds_map])) (.local rfl rfl) rfl fun s T' K' R=>?_
  · subst e
    show Ev _ _ _ _ _ _ (deedD (deedOf T k))
    refine ev_if (c:=k==40) (Ts.conv (ts_cmp (ev_var K₁ rfl rfl rfl) ev_str op_eq_str rfl) (eq_paren k)) (fun q=>?_) fun q=>?_
    · have e:deedOf T k=some T:=by unfold deedOf;rw [q];rfl
      rw [e]
      exact ev_item_lst (i:=c) (ds:=th.map thingD) (ev_var K₁ rfl rfl rfl) (ev_var K₁ rfl rfl rfl) (Int.natCast_nonneg _) (by omega) (thing_get hT) (fun θ θ=>⟨_,rfl⟩)
    · have e:deedOf T k=none:=by unfold deedOf;rw [q];rfl
      rw [e]
      exact ev_none
  have hsl:(stayOf (th.take c) T (Lc row)).length≤12+36:=stay_len (by rw [List.length_take];omega) hr.2
  have hsm:∀ u,u∈stayOf (th.take c) T (Lc row)->0≤u.1∧u.1<2^36∧u.2.1.length≤6:=stay_mem (fun u hu=>hth u (List.mem_of_mem_take hu)) (hth T (List.mem_of_getElem? hT))
  have hpl:(th.take c).length=c:=by rw [List.length_take,Nat.min_eq_left (Nat.le_trans (Nat.le_succ c) (Nat.le_of_eq hl.symm))]
  have hspan:=pol_span (Lc row)
  have hpo:=pol_hi (Lc row)
  refine xs_assign R (d:=.lst ((stayOf (th.take c) T (Lc row)).map thingD)) (ev_if (c:=decide ((c:Int)≥-(pol (Lc row)).1)) (ts_cmp (ev_var K rfl rfl rfl) (ev_var K rfl rfl rfl) op_ge rfl) (fun q=>?_) fun q=>?_) (.local rfl rfl) rfl fun s T' K' R=>?_
  · have q:=of_decide_eq_true q
    have ec:(c:Int) - -(pol (Lc row)).1=(((c:Int) - -(pol (Lc row)).1).toNat:Int):=(Int.toNat_of_nonneg (Int.sub_nonneg_of_le q)).symm
    have el:(pol (Lc row)).2-(pol (Lc row)).1=(((pol (Lc row)).2-(pol (Lc row)).1).toNat:Int):=(Int.toNat_of_nonneg (Int.sub_nonneg_of_le hpo)).symm
    have est:(stayOf (th.take c) T (Lc row)).map thingD=(th.map thingD).take ((c:Int) - -(pol (Lc row)).1).toNat++List.replicate ((pol (Lc row)).2-(pol (Lc row)).1).toNat (thingD T):=by
      unfold stayOf
      rw [hpl,if_pos q,List.map_append,List.map_replicate,List.take_take,Nat.min_eq_left (by have:=pol_le (Lc row);omega),List.map_take]
    rw [est]
    exact ev_bin (ev_upto (i:=((c:Int) - -(pol (Lc row)).1).toNat) (by rw [List.length_map];unfold sizeLine;omega) (ev_var K rfl rfl rfl) (Ev.conv (ev_sub (ev_var K rfl rfl rfl) (ev_var K rfl rfl rfl)) (congrArg D.int ec))) (ev_bin (ev_list (evs_cons (ev_item_lst (i:=c) (ds:=th.map thingD) (ev_var K rfl rfl rfl) (ev_var K rfl rfl rfl) (Int.natCast_nonneg _) (by omega) (thing_get hT) (fun θ θ=>⟨_,rfl⟩)) evs_nil) (Nat.le_of_ble_eq_true rfl)) (ev_var K rfl rfl rfl) (op_rep el (by omega))) (op_add_lst (by rw [List.length_replicate,List.length_take,List.length_map];exact Nat.le_trans (Nat.add_le_add (Nat.le_trans (Nat.min_le_right _ _) (Nat.le_trans (Nat.le_of_eq hl) (Nat.succ_le_succ hc))) (Int.toNat_le.mpr (Int.le_trans hspan (Int.ofNat_le.mpr hr.2)))) (by decide)))
  · have q:=of_decide_eq_false q
    have est:(stayOf (th.take c) T (Lc row)).map thingD=[]:=by
      unfold stayOf
      rw [hpl,if_neg q];rfl
    rw [est]
    exact ev_nilL
  have R:=R.only (turnNames S0 S1 S2 S3 S4 S5 S6 d0 d1 c fl bs th bt tl a [("lack", .int (-(pol (Lc row)).1)),("deeds", .lst (((th.take c).map some++(Lc row).map (deedOf T)).map deedD)),("ground", .int gr),("foot", .int ft),("stay", .lst ((stayOf (th.take c) T (Lc row)).map thingD))]) ⟨rfl,rfl,rfl,rfl,rfl,rfl,rfl,rfl,rfl,rfl,rfl,rfl,rfl,rfl,rfl,trivial⟩
  generalize stayOf (th.take c) T (Lc row)=st at *
  generalize ((th.take c).map some++(Lc row).map (deedOf T)).map deedD=dd at *
  have hrv:slD (st.map thingD) none none (some (-1))=(st.map thingD).reverse:=slD_rev _
  have hflat:=tape_flat st
  have hsz:(st.map thingD).length≤sizeLine:=by rw [List.length_map];unfold sizeLine;omega
  have hsg:(b2i (decide (ft>0))-b2i (decide (ft<0)))=signI ft:=by unfold signI b2i;simp only [decide_eq_true_eq]
  refine xs_assign R (d:=.int (gr*ft^st.length+(numL ft st).sum)) (ev_add (Ev.conv (ev_mul (ev_var K rfl rfl rfl) (ev_pow (ev_var K rfl rfl rfl) (ev_len_l (ds:=st.map thingD) G K (ev_var K rfl rfl rfl) rfl rfl rfl (by rw [List.length_map];omega)) (Int.natCast_nonneg _) ?_) (.of_left (Nat.le_trans (bits_le hg60) (by decide)))) (by rw [List.length_map,Int.toNat_natCast]))
    (ev_b1 (ev_bi G K rfl (by kernel_rfl) hv_sum rfl) (Ev.conv (ev_lc2 (n:=200) G K hA hh (evit_enum (all:=(st.map thingD).reverse) G K (Ev.conv (ev_slice_lst (ds:=st.map thingD) (lo:=none) (hi:=none) (st:=some (-1)) (by decide) hsz (ev_var K rfl rfl rfl) pt_none pt_none (pt_some (Ev.conv (ev_neg ev_int) rfl)) (fun θ θ=>⟨_,rfl⟩)) (congrArg D.lst hrv)) rfl rfl rfl) ⟨_,_,_,rfl⟩ (ScOk.of rfl) (fun θ=>rfl) rfl rfl
      (fun a b=>∃ (k:Nat) (u:Thing),k<48∧a=.int k∧b=thingD u∧u∈st) (fun a b=>onI (fun k=>match b with | .tup [.int v,_,_]=>.int (signI ft*v*ft^k.toNat) | d=>d) a) (fun C cells a b K₁ ⟨k,u,hk,ea,eb,hu'⟩=>?_) (fun d hd=>?_) (by rw [enumD_len,List.length_reverse];exact hsz)) (congrArg D.lst (num_list ft st))) rfl rfl (op_sum hh))) (.local rfl rfl) rfl fun s T' K' R=>?_
  · rw [List.length_map]
    have:Builtin.Int.intBits ft*st.length≤7999*48:=Nat.mul_le_mul hfb hsl
    rw [← Int.natCast_mul];omega
  · subst ea;subst eb
    obtain ⟨v,o,nm⟩:=u
    have hv:=hsm _ hu'
    show Ev _ _ _ _ _ _ (.int (signI ft*v*ft^(k:Int).toNat))
    have hp:(Builtin.Int.intBits ft:Int)*k≤2^27:=by
      have:Builtin.Int.intBits ft*k≤7999*48:=Nat.mul_le_mul hfb (Nat.le_of_lt hk)
      rw [← Int.natCast_mul];omega
    have hs1:=sign_le ft
    have hsv:(signI ft*v).natAbs<2^37:=by
      rw [Int.natAbs_mul]
      have:(signI ft).natAbs*v.natAbs≤1*v.natAbs:=Nat.mul_le_mul_right _ hs1
      have hv:=hv.1;have hv2:=hsm _ hu' |>.2.1
      dsimp only at hv hv2
      omega
    refine ev_mul (ev_mul (Ev.conv (ev_subB (ev_cmp (ev_var K₁ rfl rfl rfl) ev_int op_gt rfl) (ev_cmp (ev_var K₁ rfl rfl rfl) ev_int op_lt rfl)) (congrArg D.int hsg)) (ev_item_tup (ds:=[.int v,.lst (o.map D.int),.str nm]) (i:=0) (j:=0) (ev_var K₁ rfl rfl rfl) ev_int (by decide) (by decide) rfl rfl (fun θ θ=>⟨_,rfl⟩)) (mulS (Nat.le_trans hs1 (by decide)))) (ev_pow (ev_var K₁ rfl rfl rfl) (ev_var K₁ rfl rfl rfl) (Int.natCast_nonneg _) hp) (.of_left (Nat.le_trans (bits_le hsv) (by decide)))
  · obtain ⟨x,y,e,k,ex,u,ey,hk,hm⟩:=enumD_mem (P:=fun k b=>∃ u,b=thingD u∧k<48∧u∈st) (fun j d hd=>by
      rw [← List.map_reverse,List.getElem?_map] at hd
      obtain ⟨u,hu',rfl⟩:=Option.map_eq_some_iff.mp hd
      have h1:=(List.getElem?_eq_some_iff.mp hu').1
      rw [List.length_reverse] at h1
      exact ⟨u,rfl,by omega,List.mem_reverse.mp (List.mem_of_getElem? hu')⟩) d hd
    exact ⟨x,y,e,k,u,hk,ex,ey,hm⟩
  refine xs_lc11 (n:=200) (ds:=(st.map thingD).reverse) (ds2:=octD) (g:=fun θ d=>d) G K hA hh R (Ev.conv (ev_slice_lst (ds:=st.map thingD) (lo:=none) (hi:=none) (st:=some (-1)) (by decide) hsz (ev_var K rfl rfl rfl) pt_none pt_none (pt_some (Ev.conv (ev_neg ev_int) rfl)) (fun θ θ=>⟨_,rfl⟩)) (congrArg D.lst hrv)) (ScOk.of rfl) (fun θ=>rfl) rfl rfl rfl (fun C cells d K₁ hd=>?_) (fun θ θ=>rfl) (fun C cells d d2 K₁ hd h2=>ev_var K₁ rfl rfl rfl) ?_ (.local rfl rfl) rfl fun s T' K' R=>?_
  · rw [← List.map_reverse] at hd
    obtain ⟨u,_,rfl⟩:=List.mem_map.mp hd
    exact ev_item_tup (ds:=[.int u.1,.lst (u.2.1.map D.int),.str u.2.2]) (i:=1) (j:=1) (ev_var K₁ rfl rfl rfl) ev_int (by decide) (by decide) rfl rfl (fun θ θ=>⟨_,rfl⟩)
  · rw [hflat,List.length_map]
    exact Nat.le_trans (flat_len fun u hu'=>(hsm u (List.mem_reverse.mp hu')).2.2) (by rw [List.length_reverse];unfold sizeLine;omega)
  · rw [hflat] at R
    exact h s (R.only _ ⟨rfl,rfl,rfl,rfl,rfl,rfl,rfl,rfl,rfl,rfl,rfl,rfl,rfl,rfl,rfl,rfl,rfl,trivial⟩)
end
theorem okD_res {a:Int} {l:List Int} {x:Str} {b:Bool} (h:PyData.strOk x=true):okD (.tup [.int a,.lst (l.map D.int),.str x,.bool b])=true:=by
  refine okD_of (k:=3) ?_ (by decide)
  have hi:dOks (l.map D.int) 1=true:=dOks_map fun θ θ=>rfl
  simp [dOk,dOks,h,hi]
theorem last_is (bt:Str) (st:List Thing):([D.str bt]++st.map fun u=>D.str u.2.2).getLast?=some (.str (lastName bt st)):=by
  rcases List.eq_nil_or_concat st with rfl | ⟨P',t,rfl⟩
  · rfl
  · rw [List.concat_eq_append,List.map_append,← List.append_assoc]
    unfold lastName
    rw [List.getLast?_concat]
    exact List.getLast?_concat
noncomputable def nmD:D->D
  | .tup [_,_,n]=>n
  | d=>d
section
variable {w:World} {s₁ sb s:Shared} {N:Addr->Prop} {A:Around} {L:Addr} {ρ:List (Str × D)} {γ:List (D × Value)} {Q:Flow->Shared->Prop} {E:Value->Shared->Prop}
theorem turn_3 (C:LawAt w s₁ A L N) {S0 S1 S2 S3 S4 S5 S6:Int} {d0 d1 row bt tl:Str} {c a:Nat} {fl bs gr ft:Int} {th:List Thing} {T:Thing} (hr:parL (Lc row)∧(Lc row).length≤36) (hc:c≤12) (hl:th.length=c+1) (hT:th[c]?=some T) (hth:∀ u,u∈th->∃ v:Int,u=thingOf v∧0≤v∧v<2^36)
    (hfl:fl.natAbs<2^36) (hbs:2^36≤bs.natAbs∧Builtin.Int.intBits bs≤7999) (hgf:(ft=0∧gr=0)∨(ft=bs∧gr=fl∧(Lc row).length<24)) (hbt:Nice bt∧bt.length≤800) (htl:TailOk tl∧tl.length≤10∧PyData.strOk tl=true)
    (R:Rel s₁ N (Own (lawEnv L)) sb (lawEnv L) (turnNames S0 S1 S2 S3 S4 S5 S6 d0 d1 c fl bs th bt tl a [("lack", .int (-(pol (Lc row)).1)),("deeds", .lst (((th.take c).map some++(Lc row).map (deedOf T)).map deedD)),("ground", .int gr),("foot", .int ft),("stay", .lst ((stayOf (th.take c) T (Lc row)).map thingD)),
      ("due", .int (gr*ft^(stayOf (th.take c) T (Lc row)).length+(numL ft (stayOf (th.take c) T (Lc row))).sum)),("tape", .lst (((stayOf (th.take c) T (Lc row)).reverse.flatMap (·.2.1)).map D.int))]) γ s)
    (h:∀ s',Rel s₁ N (Own (lawEnv L)) sb (lawEnv L) (turnNames S0 S1 S2 S3 S4 S5 S6 d0 d1 c fl bs th bt tl a []) γ s'->Q .next s'):Xs w A (lawEnv L) [tuAt 10] Q E s:=by
  obtain ⟨G,hA,hh,hfr,K,hu,hN⟩:=C
  have hft:ft=0∨(2^36≤ft.natAbs∧Builtin.Int.intBits ft≤7999):=by
    rcases hgf with q | q
    · exact .inl q.1
    · rw [q.1];exact .inr hbs
  have hft0:ft≠0->2^36≤ft.natAbs:=fun q=>(hft.resolve_left q).1
  have hg:∀ u,u∈th->GoodT ft u∧thingOk ft u:=fun u hu'=>by
    obtain ⟨v,rfl,v0,v1⟩:=hth u hu'
    exact thing_good v0 v1 hft0
  have hTm:=List.mem_of_getElem? hT
  have hpl:(th.take c).length=c:=by rw [List.length_take,Nat.min_eq_left (Nat.le_trans (Nat.le_succ c) (Nat.le_of_eq hl.symm))]
  have hz:ft=0->gr=0:=fun q=>by
    rcases hgf with z | z
    · exact z.2
    · have:=hbs.1;rw [← z.1,q] at this;exact absurd this (by decide)
  have hgr:gr.natAbs<2^36:=by rcases hgf with z | z<;>omega
  have gives:=run_gives (base:=ft) (ground:=gr) (bottom:=bt) (tail:=tl) (P:=th.take c) (T:=T) (row:=Lc row) hz (fun c hc=>by have:=nice_c (hbt.1 c hc);exact ⟨this.1,this.2.1,this.2.2.1⟩) (fun u hu'=>(hg u (List.mem_of_mem_take hu')).1) (hg T hTm).1 htl.1 hr.1
  rw [hpl] at gives
  have hdl:((th.take c).map some++(Lc row).map (deedOf T)).length≤60:=by rw [List.length_append,List.length_map,List.length_map,hpl];omega
  have hdt:∀ u,some u∈(th.take c).map some++(Lc row).map (deedOf T)->thingOk ft u:=fun u hu'=>by
    rcases List.mem_append.mp hu' with q | q
    · obtain ⟨v,hv,e⟩:=List.mem_map.mp q
      cases e
      exact (hg u (List.mem_of_mem_take hv)).2
    · obtain ⟨k,_,e⟩:=List.mem_map.mp q
      unfold deedOf at e
      split at e
      · cases e;exact (hg _ hTm).2
      · cases e
  have hso:StOk ft 0 ⟨[],[],gr,bt⟩:=⟨(fun θ h=>nomatch h),Nat.le_refl _,Nat.le_refl _,Nat.le_trans hbt.2 (by decide),nice_strOk hbt.1,fun q=>by
    have h1:=hft0 q
    have h2:=bits_up ft
    show gr.natAbs+1≤2^(Builtin.Int.intBits ft*(0+1))
    rw [Nat.zero_add,Nat.mul_one];omega⟩
  have hsn:PyData.strOk (lastName bt (stayOf (th.take c) T (Lc row)))=true:=by
    unfold lastName
    split
    · rename_i u hu'
      exact (stay_mem (q:=fun u=>PyData.strOk u.2.2=true) (fun u hu'=>(hg u (List.mem_of_mem_take hu')).1.no) (hg T hTm).1.no) u (List.mem_of_getLast? hu')
    · exact nice_strOk hbt.1
  have hstl:(stayOf (th.take c) T (Lc row)).length≤12+36:=stay_len (by omega) hr.2
  generalize stayOf (th.take c) T (Lc row)=st at *
  generalize (th.take c).map some++(Lc row).map (deedOf T)=dd at *
  have hok:=okD_res (a:=gr*ft^st.length+(numL ft st).sum) (l:=st.reverse.flatMap (·.2.1)) (b:=decide ((c:Int) < -(pol (Lc row)).1)) hsn
  refine xs_cons ⟨wpAny_If (wpAny_isTrue_Compare1 (eval_callC (fa:=138) (ds:=[.lst (dd.map deedD),.int gr,.int ft,.str bt,.str tl]) R (ev_gl G K rfl (by kernel_rfl) rfl) (evs_cons (ev_var K rfl rfl rfl) (evs_cons (ev_var K rfl rfl rfl) (evs_cons (ev_var K rfl rfl rfl) (evs_cons (ev_var K rfl rfl rfl) (evs_cons (ev_var K rfl rfl rfl) evs_nil))))) (G.get R.inv (by rfl) rfl) rfl rfl rfl rfl fun vs s₂ T₂ bv=>?_) rfl)⟩
  have R₂:=R.step T₂
  have one_:∀ b,frs [lawEnv L] b->b=L:=fun b hb=>((frs_cons (env:=lawEnv L) (L:=L) rfl).mp hb).elim id fun q=>by obtain ⟨_,h,_⟩:=frs_iff.mp q;cases h
  refine codeAny_mono (f_run G (n:=100) (outer:=[lawEnv L]) (hA.mono (by decide)) hh hfr (fun env he=>?_) (fun b hb=>by rw [one_ b hb];exact R₂.xnew _ (.inl rfl)) (fun b θ=>hN b) R₂.inv R₂.nex (hft.imp id fun q=>⟨Nat.le_trans (by decide) q.1,q.2⟩) hdt hdl htl.2.1 htl.2.2 hso bv) fun r s₃ ⟨v,er,bv,T₃,S₃,K₃⟩=>?_
  · rw [List.mem_singleton.mp he]
    obtain ⟨m,hm,_⟩:=R₂.ns
    exact ⟨rfl,L,m,rfl,hm,R₂.ltab⟩
  subst er
  have R₃:=R₂.slots rfl (hN _) T₃ K₃ S₃
  rw [gives] at bv
  refine (ev_tuple (evs_cons (ev_var K rfl rfl rfl) (evs_cons (ev_var K rfl rfl rfl) (evs_cons (ev_last (ds:=[D.str bt]++st.map fun u=>D.str u.2.2) (ev_bin (ev_list (ds:=[D.str bt]) (evs_cons (ev_var K rfl rfl rfl) evs_nil) (Nat.le_of_ble_eq_true rfl)) (Ev.conv (ev_lc (n:=200) (tg:=fun θ=>True) (ds:=st.map thingD) G K hA hh (evit_list G (ev_var K rfl rfl rfl)) trivial (ScOk.of rfl) (fun θ=>rfl) rfl (fun d=>∃ u:Thing,d=thingD u) nmD (fun C cells d K₁ ⟨u,e⟩=>by subst e;exact ev_item_tup (ds:=[.int u.1,.lst (u.2.1.map D.int),.str u.2.2]) (i:=2) (j:=2) (ev_var K₁ rfl rfl rfl) ev_int (by decide) (by decide) rfl rfl (fun θ θ=>⟨_,rfl⟩)) (fun d hd=>by obtain ⟨u,_,e⟩:=List.mem_map.mp hd;exact ⟨u,e.symm⟩) (by rw [List.length_map];unfold sizeLine;omega)) (by rw [List.map_map];rfl)) (op_add_lst (by rw [List.length_map];unfold sizeLine;show 1+_≤_;omega))) (Ev.conv (ev_neg ev_int) rfl) (last_is bt st) (fun θ θ=>⟨_,rfl⟩)) (evs_cons (ev_cmp (ev_var K rfl rfl rfl) (ev_var K rfl rfl rfl) op_lt rfl) evs_nil)))) (Nat.le_of_ble_eq_true rfl)).use R₃ fun u s₄ T₄ bu=>?_
  have R₄:=R₃.step T₄
  refine wpAny_mono (op_ne_data (by omega) hok hok N s₄ v u (bv.to T₄) bu R₄.inv R₄.nex) (fun z s₅ q=>?_) fun θ θ q=>q.elim
  obtain ⟨T₅,bz⟩:=q
  rw [eqv_self hok] at bz
  obtain rfl:=of_bool bz
  refine fun θ θ θ=>(xs_nil (xs_nil (h s₅ ((R₄.step T₅).only _ ⟨rfl,rfl,rfl,rfl,rfl,rfl,rfl,rfl,rfl,rfl,trivial⟩))):Xs w A (lawEnv L) [] _ _ s₅).run
end
section
variable {w:World} {s₁ sb s:Shared} {N:Addr->Prop} {A:Around} {L:Addr} {ρ:List (Str × D)} {γ:List (D × Value)} {Q:Flow->Shared->Prop} {E:Value->Shared->Prop}
theorem excAt_to {X:Loc->Prop} {s s':Shared} {cls:String} {e t:Addr} {head:Value} (T:To X s s') (hX:¬ X (.inl e)) (he:e∉tabs) (x:ExcAt s.heap cls e t head):ExcAt s'.heap cls e t head:=by
  obtain ⟨o,vs,ho,r⟩:=x
  exact ⟨o,vs,T.keep e o hX (fun q=>absurd q he) ho,r⟩
theorem tup_to {X:Loc->Prop} {s s':Shared} {t:Addr} {vs:Array Value} (T:To X s s') (hX:¬ X (.inl t)) (he:t∉tabs) (x:IsTup s.heap t vs):IsTup s'.heap t vs:=by
  obtain ⟨o,ho,r⟩:=x
  exact ⟨o,T.keep t o hX (fun q=>absurd q he) ho,r⟩
theorem eval_strexc {env:Env} {X:Loc->Prop} {f arg:Expr} {pos:Pos} {e t:Addr} {head:Value} {Q:Value->Shared->Prop} (R:Rel s₁ N X sb env ρ γ s) (hu:A.units+2<cLine) (he:ExcAt s.heap "ZeroDivisionError" e t head) (ht:IsTup s.heap t #[]) (en:e∉tabs) (tn:t∉tabs)
    (xf:Ev w s₁ A env ρ f (.val (.type "str"))) (ya:Ev w s₁ A env ρ arg (.val (.ref e)))
    (hc:eval (.Call f [arg] [] pos) env=(do callWith pos (← eval f env) [] (backTo pos (starEach [arg] env)) [])) (hs:starEach [arg] env=[(false,eval arg env)])
    (h:∀ v s',To no s s'->Bears N s'.heap (.str Str.empty) v->Q v s'):wpAny (Mo w) A (eval (.Call f [arg] [] pos) env) Q E s:=by
  have hb:backTo pos (starEach [arg] env)=[(false,eval arg env)]:=by rw [hs];rfl
  rw [hc,hb]
  refine wpAny_bind (xf.use R fun u s' T bu=>?_)
  obtain rfl:=of_val bu
  refine PyProof.Rows.callWith_type rfl (Calls.evalArgs_plain (Calls.spliced_cons (ya.use (R.step T) fun v s'' T' bv=>Calls.spliced_nil ?_)))
  obtain rfl:=of_val bv
  have TT:=T.trans T'
  obtain ⟨o,vs,ho,hcl,hd,h0,_⟩:=excAt_to TT id en he
  obtain ⟨ot,hot,hct,nt,hdt⟩:=tup_to TT id tn ht
  exact P.str_of_exc_none F.excStr_ZeroDivisionError hu ⟨o,vs,ho,hcl,hd,h0⟩ ⟨ot,nt,hot,hct,hdt⟩ (h _ _ (TT.trans (To.toks _ _)) bears_str)
theorem law_17 (C:LawAt w s₁ A L N) {rest:List Stmt} {fl:Int} (R:Rel s₁ N (Own (lawEnv L)) sb (lawEnv L) [("floor", .int fl)] γ s) (hQ:LawQ sb L Q):Xs w A (lawEnv L) (stAt 17::rest) Q E s:=by
  obtain ⟨G,hA,hh,hfr,K,hu,hN⟩:=C
  refine xs_cons ⟨wpAny_Try_except (xs_cons ⟨wpAny_Expr_any (eval_callC (fa:=77) (ds:=[.int fl,.int 0]) R (ev_gl G K rfl (by kernel_rfl) rfl) (by exact evs_cons (ev_var K rfl rfl rfl) (evs_cons ev_int evs_nil)) (G.get R.inv (by rfl) rfl) rfl rfl rfl rfl fun vs s₂ T₂ bv=>?_) rfl rfl⟩).run⟩
  have R₂:=R.step T₂
  refine codeAny_mono (f_idiv0 G (n:=199) hA hh hfr (fun env he=>?_) R₂.inv R₂.nex bv) fun r s₃ ⟨e,t,T,er,z,tb⟩=>?_
  · rw [List.mem_singleton.mp he]
    obtain ⟨m,hm,_⟩:=R₂.ns
    exact ⟨rfl,L,m,rfl,hm,R₂.ltab⟩
  subst er
  have rel:∀ {s₅:Shared} {T:Addr},Rz [lawEnv L] no s₂ "ZeroDivisionError" e t (.ref T) s₅->Rel s₁ N (Own (lawEnv L)) sb (lawEnv L) [("floor", .int fl)] γ s₅:=fun {s₅ T} z=>R₂.slots rfl (hN _) (z.to.mono fun l q=>q.elim (fun q=>q.elim) id) z.kp z.slo
  refine Rz.note (by decide) z hfr rfl (.inr ⟨T,rfl,tb⟩) fun s₄ T₄ z₄ tb₄=>z₄.flight tb₄ fun s₅ z₅ tb₅=>?_
  refine wpAny_handleBy_builtin_as (X := "ZeroDivisionError") (T := "ZeroDivisionError") (b:=true) (by rw [isSubtype_type];kernel_rfl) (by rw [isSubtype_type];kernel_rfl) (by rw [isSubtype_type];kernel_rfl) ((ev_bi (A:=A.mark (some (.ref e))) G K rfl (by kernel_rfl) hv_zero rfl).use (rel z₅) fun c s₆ T₆ bc=>?_)
  have z₆:=z₅.step T₆
  have tb₆:=tb₅.to (newAt_notab z₅.tb (z₅.hn _ rfl)) T₆
  obtain ⟨o,vs',ho,hc,_⟩:=id z₆.exc
  refine ⟨of_val bc,⟨o,ho,hc⟩,?_⟩
  simp only [if_true]
  refine z₆.flight tb₆ fun s₇ z₇ tb₇=>?_
  have R₇:=rel z₇
  have nl:¬ NewAt s₂ (.inl L):=own_there R₂ _ (.inl rfl)
  have hne:e≠L:=fun q=>nl (q▸z₇.en)
  have hnt:t≠L:=fun q=>nl (q▸z₇.tn.1)
  have en:=newAt_notab z₇.tb z₇.en
  have tn:=newAt_notab z₇.tb z₇.tn.1
  refine R₇.storeN (d:=.val (.ref e)) bears_val rfl rfl fun s₈ T₈ R₈=>?_
  have x₈:=excAt_to T₈ (fun q=>hne (Sum.inl.inj q)) en z₇.exc
  have t₈:=tup_to T₈ (fun q=>hnt (Sum.inl.inj q)) tn z₇.tn.2
  refine (xs_cons ⟨wpAny_Return_some (wpAny_Compare1 (eval_strexc R₈ (by show A.units+2<cLine;omega) x₈ t₈ en tn (ev_bi G K rfl (by kernel_rfl) hv_str rfl) (ev_var K rfl rfl rfl) rfl rfl fun v s₉ T₉ b₉=>(ev_str).use (R₈.step T₉) fun u s₁₀ T₁₀ b₁₀=>?_) rfl)⟩:Xs w (A.mark (some (.ref e))) (lawEnv L) _ _ _ s₈).run
  have R₁₀:=(R₈.step T₉).step T₁₀
  refine wpAny_mono (op_eq_str N s₁₀ v u (b₉.to T₁₀) b₁₀ R₁₀.inv R₁₀.nex) (fun y s₁₁ ⟨T₁₁,by'⟩=>?_) fun θ θ q=>q.elim
  have ey:((Str.empty).cps.toList==(Str.ofString "").cps.toList)=true:=by decide +kernel
  rw [ey] at by'
  obtain rfl:=of_bool by'
  have R₁₁:=R₁₀.step T₁₁
  obtain ⟨m,hm,_⟩:=id R₁₁.ns
  refine wpAny_nameGoes rfl hm rfl fun h' m' hn' hs'=>?_
  exact hQ _ (R₁₁.to.trans (To.but hs' (.inl rfl) (turns_ns R₁₁.ltab hm)))
end
section
variable {w:World} {s₁ sb s:Shared} {N:Addr->Prop} {A:Around} {L:Addr} {ρ:List (Str × D)} {γ:List (D × Value)} {Q:Flow->Shared->Prop} {E:Value->Shared->Prop}
theorem law_15 (C:LawAt w s₁ A L N) {rest:List Stmt} {S0 S1 S2 S3 S4 S5 S6:Int} {d0 d1 bt tl:Str} {c:Nat} {fl bs:Int} {th:List Thing} (hr0:parL (Lc d0)∧(Lc d0).length≤36) (hr1:parL (Lc d1)∧(Lc d1).length≤36) (hrl:(Lc d0).length=(Lc d1).length) (hc:c≤12) (hl:th.length=c+1) (hth:∀ u,u∈th->∃ v:Int,u=thingOf v∧0≤v∧v<2^36)
    (hfl:fl.natAbs<2^36) (hbs:2^36≤bs.natAbs∧Builtin.Int.intBits bs≤7999) (hbt:Nice bt∧bt.length≤800) (htl:TailOk tl∧tl.length≤10∧PyData.strOk tl=true)
    (R:Rel s₁ N (Own (lawEnv L)) sb (lawEnv L) [("sums", sumsD S0 S1 S2 S3 S4 S5 S6),("drawn", .lst [.str d0,.str d1]),("lacks", .lst [lackD d0,lackD d1]),("count", .int c),("floor", .int fl),("base", .int bs),("things", .lst (th.map thingD)),("bottom", .str bt),("tail", .str tl)] γ s)
    (h:∀ s',Rel s₁ N (Own (lawEnv L)) sb (lawEnv L) [("floor", .int fl)] γ s'->Xs w A (lawEnv L) rest Q E s'):Xs w A (lawEnv L) (stAt 15::stAt 16::rest) Q E s:=by
  have C':=C
  obtain ⟨G,hA,hh,hfr,K,hu,hN⟩:=C
  have hd0:d0.length=(Lc d0).length:=len_cps d0
  have ha0:0≤(S4.fdiv 256).fmod ((d0.length:Int)+1):=Int.fmod_nonneg_of_pos _ (by omega)
  have ha1:(S4.fdiv 256).fmod ((d0.length:Int)+1)<(d0.length:Int)+1:=Int.fmod_lt_of_pos _ (by omega)
  obtain ⟨a,ea⟩:=Int.eq_ofNat_of_zero_le ha0
  have ha:a≤(Lc d0).length:=by rw [← hd0];exact Int.ofNat_le.mp (Int.le_of_lt_add_one (ea▸ha1))
  refine xs_tuple_swap (names:=["menu", "at"]) G (.inl hh) (fun θ θ θ θ=>.inl hh) R (ds:=[.tup (menuS.map D.str),.int a]) ?_ rfl (.cons (as_bind (.local rfl rfl)) (.cons (as_bind (.local rfl rfl)) .nil)) ?_ ?_ fun s T K' R=>?_
  rotate_left
  · rfl
  · rfl
  rotate_left
  · refine ev_tuple (evs_cons (ev_tuple (ds:=menuS.map D.str) (by exact evs_cons ev_str (evs_cons ev_str (evs_cons ev_str (evs_cons ev_str (evs_cons ev_str (evs_cons ev_str (evs_cons ev_str (evs_cons ev_str evs_nil)))))))) (Nat.le_of_ble_eq_true rfl)) (evs_cons (Ev.conv (ev_mod (ev_div (ev_item_lst (i:=4) (ev_var K rfl rfl rfl) ev_int (by decide) (by decide) rfl (fun θ θ=>⟨_,rfl⟩)) ev_int (by decide) (no_py (by decide))) (ev_add (ev_len_s (x:=d0) G K (ev_item_lst (i:=0) (ev_var K rfl rfl rfl) ev_int (by decide) (by decide) rfl (fun θ θ=>⟨_,rfl⟩)) rfl rfl rfl (by omega)) ev_int) (by omega)) (congrArg D.int ea)) evs_nil)) (Nat.le_of_ble_eq_true rfl)
  have hT:∃ T,th[c]?=some T:=⟨_,List.getElem?_eq_getElem (by omega)⟩
  obtain ⟨Th,hT⟩:=hT
  have hth3:∀ u,u∈th->0≤u.1∧u.1<2^36∧u.2.1.length≤6:=fun u hu=>by
    obtain ⟨v,rfl,v0,v1⟩:=hth u hu
    exact ⟨v0,v1,octets_len v⟩
  have turn:∀ {sb:Shared} {γ:List (D × Value)} {s:Shared} {Q:Flow->Shared->Prop} {E:Value->Shared->Prop} (row:Str) (t:Nat),t<2->(parL (Lc row)∧(Lc row).length≤36)->a≤(Lc row).length->([lackD d0,lackD d1]:List D)[t]?=some (lackD row)->Rel s₁ N (Own (lawEnv L)) sb (lawEnv L) (turnNames S0 S1 S2 S3 S4 S5 S6 d0 d1 c fl bs th bt tl a [("turn", .int t),("row", .str row)]) γ s ->
      (∀ s',Rel s₁ N (Own (lawEnv L)) sb (lawEnv L) (turnNames S0 S1 S2 S3 S4 S5 S6 d0 d1 c fl bs th bt tl a []) γ s'->Q .next s')->Xs w A (lawEnv L) turnBody Q E s:=fun row t ht hr hal hL R hQ=>
    turn_1 (rest:=turnBody.drop 5) C' ht hr hal hL R fun s R=>turn_2 (rest:=turnBody.drop 10) C' hr hc hl hT hth3 (Nat.lt_of_lt_of_le hfl (by decide)) hbs.2 R fun gr ft hgf s R=>turn_3 C' hr hc hl hT hth hfl hbs hgf hbt htl R hQ
  refine xs_forP (n:=200) G hA hh (tg:=isTup) ⟨_,_,_,rfl⟩ R (evit_enum (all:=[.str d0,.str d1]) G K (ev_var K rfl rfl rfl) rfl rfl rfl) (fun θ=>rfl)
    (fun ds ρ=>(∃ k,k≤2∧ds=(enumD 0 [.str d0,.str d1]).drop k)∧Looks ρ (turnNames S0 S1 S2 S3 S4 S5 S6 d0 d1 c fl bs th bt tl a [])) ⟨⟨0,by decide,rfl⟩,rfl,rfl,rfl,rfl,rfl,rfl,rfl,rfl,rfl,rfl,trivial⟩ (fun γ' d ds ρ s' v ⟨⟨k,hk,e⟩,hlk⟩ TT R _ b=>?_) (fun ρ s' ⟨_,hlk⟩ R=>?_)
  · have R:=R.only _ hlk
    match k,hk,e with
    | 0,_,e=>
      obtain ⟨rfl,rfl⟩:=List.cons.inj e
      refine as_tuple (X:=Own (lawEnv L)) (H:=fun θ=>True) G (fun θ θ=>.inl hh) (fun θ θ θ θ=>trivial) (.cons (as_name (.local rfl rfl)) (.cons (as_name (.local rfl rfl)) .nil)) rfl _ _ _ _ _ _ _ trivial R b fun s T₁ K₁ R=>?_
      exact turn d0 0 (by decide) hr0 ha rfl (R.only _ ⟨rfl,rfl,rfl,rfl,rfl,rfl,rfl,rfl,rfl,rfl,rfl,rfl,trivial⟩) fun s' R=>⟨_,⟨⟨1,by decide,rfl⟩,rfl,rfl,rfl,rfl,rfl,rfl,rfl,rfl,rfl,rfl,trivial⟩,R⟩
    | 1,_,e=>
      obtain ⟨rfl,rfl⟩:=List.cons.inj e
      refine as_tuple (X:=Own (lawEnv L)) (H:=fun θ=>True) G (fun θ θ=>.inl hh) (fun θ θ θ θ=>trivial) (.cons (as_name (.local rfl rfl)) (.cons (as_name (.local rfl rfl)) .nil)) rfl _ _ _ _ _ _ _ trivial R b fun s T₁ K₁ R=>?_
      exact turn d1 1 (by decide) hr1 (hrl▸ha) rfl (R.only _ ⟨rfl,rfl,rfl,rfl,rfl,rfl,rfl,rfl,rfl,rfl,rfl,rfl,trivial⟩) fun s' R=>⟨_,⟨⟨2,by decide,rfl⟩,rfl,rfl,rfl,rfl,rfl,rfl,rfl,rfl,rfl,rfl,trivial⟩,R⟩
    | 2,_,e=>cases e
  · have R:=R.only _ hlk
    exact xs_nil (h s' (R.only _ ⟨rfl,trivial⟩))
theorem law_body (C:LawAt w s₁ A L N) {xs:List Int} (hx:xs.length≤63) (R:Rel s₁ N (Own (lawEnv L)) sb (lawEnv L) [("script", .lst (xs.map D.int))] γ s) (hQ:LawQ sb L Q):Xs w A (lawEnv L) lawBody Q E s:=by
  refine law_0 (rest:=lawBody.drop 1) C hx R fun S0 S1 S2 S3 S4 S5 S6 hS s R=>?_
  have h0:=hS S0 (by simp)
  have h1:=hS S1 (by simp)
  have h5:=hS S5 (by simp)
  refine law_1 (rest:=lawBody.drop 4) C h0 h1 R fun f b hf hb s R=>?_
  refine law_4 (rest:=lawBody.drop 5) C hf hb R fun s R=>?_
  refine law_5 (rest:=lawBody.drop 9) C hf hb R fun d0 d1 hd0 hd1 hdl s R=>?_
  obtain ⟨c0,c1⟩:=cnt_range (l:=-(pol (Lc d0)).1) (s:=S6)
  obtain ⟨c,ec⟩:=Int.eq_ofNat_of_zero_le c0
  rw [ec] at R c1
  have hc:c≤12:=by omega
  refine law_9 (rest:=lawBody.drop 12) C h5 hc R fun s R=>?_
  refine law_12 (rest:=lawBody.drop 15) C hc R fun s R=>?_
  have hfl:=flo_range S5 S6
  refine law_15 (rest:=lawBody.drop 17) C hd0 hd1 hdl hc (by rw [List.length_map,vals_len]) (fun u hu=>?_) (flo_lt S5 S6) (bas_range S5 S6) ⟨nice_pretty _,len_pretty hfl⟩ (tail_facts S5) R fun s R=>law_17 (rest:=lawBody.drop 18) C R hQ
  obtain ⟨v,hv,rfl⟩:=List.mem_map.mp hu
  exact ⟨v,rfl,vals_mem v hv⟩
end
theorem f_law {w:World} {s₁:Shared} (G:GW w s₁) {xs:List Int} (hx:xs.length≤63) {vs:List Value} (b:BearsAll (fun θ=>False) s₁.heap [.lst (xs.map D.int)] vs) {P:Result->Shared->Prop} (h:∀ s',To no s₁ s'->P (.ok (.ret (.bool true))) s'):codeAny (Mo w) callerA (.call (.ref 143) ⟨vs,[]⟩) P s₁:=by
  refine fn_enterX (n:=200) (body:=lawBody) (scope:=(makerOf 26).2) (N:=fun θ=>False) (args:=[.lst (xs.map D.int)]) ["script"] G rfl rfl (by kernel_rfl) (fun s vs h=>by obtain ⟨a,rfl⟩:=len1 h;exact BindsTo.of_eq rfl) (by decide) (by decide) (by decide) rfl rfl rfl ⟨by decide,by decide⟩ (To.refl _ _) (fun a q=>q.elim) b fun L s' T hA hown K R=>?_
  refine law_body (L:=L) ⟨G,hA,rfl,rfl,K,(by have:=hA.u;show (callerA.deeper _).units+80<9900;omega),(fun a q=>q)⟩ hx R fun s'' T'=>?_
  exact h s'' ((T.of_no.trans T').less fun p hp=>.inr (hown p hp))
theorem old_to {w:World} {s₁ s':Shared} (G:GW w s₁) (T:To no s₁ s'):OldK s₁.heap s'.heap:=by
  have tabs_:∀ P,P∈tabs->∃ more,s'.heap.get? P=some (tabObj (#[]++more)):=fun P hP=>let ⟨m,e,_⟩:=T.tab P hP _ (G.tab P hP);⟨m,e⟩
  have code_:∀ P,P∈tabs->isCodeTable s₁.heap P:=fun P hP=>by
    simp only [tabs,List.mem_cons,List.not_mem_nil,or_false] at hP
    rcases hP with rfl | rfl
    · exact ⟨62,c62,_,G.kin 62 _ rfl,rfl,rfl,rfl⟩
    · exact ⟨55,c55,_,G.kin 55 _ rfl,rfl,rfl,rfl⟩
  refine ⟨fun b o e=>?_,fun b o e=>?_⟩
  · by_cases hb:b∈tabs
    · obtain ⟨m,em⟩:=tabs_ b hb
      have:=G.tab b hb
      rw [e] at this
      cases this
      exact .inr (.inl ⟨code_ b hb,rfl,_,m,rfl,em⟩)
    · exact .inl (T.keep b o id (fun q=>absurd q hb) e)
  · by_cases hb:b∈tabs
    · obtain ⟨m,em⟩:=tabs_ b hb
      exact ⟨_,em⟩
    · exact ⟨o,T.keep b o id (fun q=>absurd q hb) e⟩
theorem reads_ints {R:WRecords} {cl:Str->Option Addr} {h:Heap} {N:Addr->Prop}:∀ {ns:List Int} {vs:List Value} {as:List Addr},ReadsAllW R cl h vs (ns.map WData.int) as->BearsAll N h (ns.map D.int) vs
  | [],_,_,r=>by
    obtain ⟨rfl,_⟩:=readsAllW_nil_inv r
    exact all_nil
  | n::ns,_,_,r=>by
    obtain ⟨v,vs,a,b,rfl,_,r1,r2⟩:=readsAllW_cons_inv r
    obtain ⟨t,rfl,_⟩:=readsW_int_inv r1
    exact all_cons bears_int (reads_ints r2)
theorem law_pre {ns:List Int} (h:(PySem.Challenge.rw_tc0022_01.pre).holds [] { args:=[WData.list (ns.map .int)] }=true):ns.length≤63:=by
  have h':(WTm.and (.not (.lt (.lit (.int 63)) (.len (.arg 0)))) (.lit (.bool true))).holds [] { args:=[WData.list (ns.map .int)] }=true:=h
  have h1:=condW_of (X:=!decide ((63:Int)<((ns.map WData.int).length:Int))) (holds_andW h').1 rfl
  rw [List.length_map,Bool.not_eq_true',decide_eq_false_iff_not] at h1
  omega
theorem law_end {q:Program} {loose:List Str} {XP:(Str->Option Value)->Heap->Prop} {d:DefRec} {kwd:List (Str × Expr)} (hd:d.name = "law"):WalkO q loose XP hook.says PySem.Challenge.rw_tc0022_01.row.toRowW d kwd fun f vs=>PySem.call f vs:=by
  intro w s₀ s₁ mg mb G Y a o pm cd doc dV kV ho hdat hcd hD hmg hg args vals as hpre hlay hrd hwl hlo
  have GL:GW w s₁:=by
    obtain ⟨bm,ob,h1,h2,h3,h4,h5,h6⟩:=G.T.bmain
    exact ⟨Y.1,⟨mg,mb,G.T.g,G.T.b,G.T.builtins⟩,G.T.nolimit,fun P hP=>Y.2 P hP,⟨mg,bm,ob,G.T.g,h1,h2,h3,h4,h5,h6⟩⟩
  have ea:mg "law" = some (.ref 143):=mg_of GL.kin G.T.g (by kernel_rfl)
  rw [hd,ea] at hmg
  cases hmg
  obtain ⟨hsh,hcond⟩:=pre_splitW hpre
  obtain ⟨d0,r,rfl,hd0,hr⟩:=hasAllW_cons hsh
  obtain rfl:=hasAllW_nil hr
  obtain ⟨xs,rfl,hit⟩:=hasW_list hd0
  obtain ⟨ns,rfl⟩:=items_int hit
  have hx:=law_pre (ns:=ns) hcond
  have hb:BearsAll (fun θ=>False) s₁.heap [.lst (ns.map D.int)] vals:=by
    obtain ⟨v,vs,as1,as2,rfl,_,r1,r2⟩:=readsAllW_cons_inv hrd
    obtain ⟨rfl,_⟩:=readsAllW_nil_inv r2
    obtain ⟨l,o',its,n,ai,rfl,ho',_,hd',hr',_⟩:=readsW_list_open r1
    cases hwl with
    | cons w1 w2=>
      cases w1 with
      | list hg hw=>
        rw [hg] at ho';cases ho';cases hd'
        exact all_cons (bears_lst id ⟨_,hg⟩ (reads_ints hr')) all_nil
  refine enter_call (f_law GL hx hb fun s' T=>⟨.inl ⟨_,.bool true,[],rfl,fun cls=>rfl,.bool true,postW_of (r:=PySem.Challenge.rw_tc0022_01.row.toRowW) (by kernel_rfl) (w_eq_bool (k:=true) (l:=true) rfl rfl) rfl,fun θ=>⟨List.nodup_nil,fun a h=>nomatch h⟩⟩,old_to GL T,T.os,T.bare (.of_eq hg)⟩)
set_option maxHeartbeats 8000000 in
theorem said1:PySem.Challenge.rw_tc0022_01.wellSaid=true:=by kernel_rfl
end Mine
set_option maxRecDepth 100000 in
set_option maxHeartbeats 8000000 in
theorem PySem.Challenge.cw_tc0022_01_holds : PySem.Challenge.rw_tc0022_01.Holds := by
  w_on
  refine holds_law Mine.said1 fun said=>?_
  o_head Mine.hook
  (case hw=>w_witness2)
  exact Mine.law_end rfl
