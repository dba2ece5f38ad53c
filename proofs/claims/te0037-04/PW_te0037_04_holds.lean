import PyProof.Rows.All
import Wide.All
import OpenK.AllK
import Wide.FinOn
import KE.KPar
import KE.LcTurns
import KE.KPairTest
import Lean
import PySem.Challenge.RW_te0037_04
set_option Elab.async false
set_option compiler.extract_closed false
set_option bootstrap.genMatcherCode false
set_option genInjectivity false
set_option genSizeOf false
set_option maxRecDepth 100000
set_option maxHeartbeats 4000000
set_option linter.unusedVariables false
set_option linter.unusedSimpArgs false
open PySem PySem.W PySem.Calls PyProof.Rows
noncomputable abbrev SQ:=List Nat
abbrev SU:=Value->Shared->Prop
local macro_rules | `(tactic| omega) => `(tactic| lia)
namespace Mine
theorem aa{α:Type _}{a:α}{l:List α}:a ∈ a::l:=List.mem_cons_self
theorem ad{α:Type _}(y:α){a:α}{l:List α}(h:a ∈ l):a ∈ y::l:=List.mem_cons_of_mem y h
theorem ae{α:Type _}{x y:List α}:(x++y).length=x.length+y.length:=List.length_append
theorem af{α:Type _}(x y z:List α):x++y++z=x++(y++z):=List.append_assoc x y z
theorem ag{α:Type _}{a:α}{x:List α}:(a::x).length=x.length+1:=List.length_cons
theorem ah{α β:Type _}{x:List α}(f:α->β):(x.map f).length=x.length:=List.length_map f
theorem ai{α β:Type _}{b:β}{x:Option α}{f:α->β}(h:x.map f=some b):∃a,x=some a/\f a=b:=Option.map_eq_some_iff.mp h
theorem aj{α:Type _}{a b:α}(h:some a=some b):a=b:=Option.some.inj h
theorem ak{a b c:Nat}(h:a<=b)(k:b<=c):a<=c:=Nat.le_trans h k
theorem al(a b:Nat):a<=a+b:=Nat.le_add_right a b
theorem am(a b:Nat):a<=b+a:=Nat.le_add_left a b
theorem an{a b:Nat}(h:a=b):a<=b:=Nat.le_of_eq h
theorem ao(a:Nat):a<=a:=Nat.le_refl a
theorem aq{α:Type _}{p:α->Bool}{l:List α}(h:l.all p=true):∀x ∈ l,p x=true:=List.all_eq_true.mp h
theorem ar{c:Prop}{h:Decidable c}(n:¬c){α:Sort _}{t e:α}:ite c t e=e:=if_neg n
theorem au{c:Prop}{h:Decidable c}(n:c){α:Sort _}{t e:α}:ite c t e=t:=if_pos n
end Mine
section
set_option maxHeartbeats 0
namespace Mine
theorem nK{a b:Bool}(h:a=true)(k:b=true):(a&&b)=true:=by cases h;cases k;rfl
noncomputable def wi(s:Stmt):List Stmt:=if h:s.ctorIdx=2 then Stmt.ClassDef.elim (motive_2:=fun _=>List Stmt) s h fun _ _ _ b _ _ _ _ _ _ _=>b else []
noncomputable def wf(s:Stmt):Stmt:=if h:s.ctorIdx=2 then Stmt.ClassDef.elim (motive_2:=fun _=>Stmt) s h fun a b c _ d e f g h i j=>.ClassDef a b c [] d e f g h i j else s
theorem G3{lk:Look}{b:List Stmt}(hb:noRoadLSs lk b=true):∀{a:List Stmt},noRoadLSs lk a=true->noRoadLSs lk (a++b)=true:=by
 intro a
 induction a with
 |nil=>exact fun _=>hb
 |cons s r ih=>
  intro h
  have h:(noRoadLS lk s&&noRoadLSs lk r)=true:=h
  show (noRoadLS lk s&&noRoadLSs lk (r++b))=true
  rw[Bool.and_eq_true] at h ⊢
  exact⟨h.1,ih h.2⟩
theorem qY{lk:Look}{l:List Stmt}(n:Nat)(h1:Fast.tw8326940854005059898 lk (l.take n)=true)(h2:Fast.tw8326940854005059898 lk (l.drop n)=true):Fast.tw8326940854005059898 lk l=true:=by
 rw[←Fast.te8326940854005059898] at *
 have:=G3 h2 h1
 rwa[List.take_append_drop] at this
theorem G4{lk:Look}{s:Stmt}{r:List Stmt}(hs:s.ctorIdx=2)(h1:Fast.tw8326940854005059898 lk [wf s]=true)(h2:Fast.tw8326940854005059898 lk.inClass (wi s)=true)(h3:Fast.tw8326940854005059898 lk r=true):Fast.tw8326940854005059898 lk (s::r)=true:=by
 rw[←Fast.te8326940854005059898] at *
 revert h1 h2
 refine Stmt.ClassDef.elim (motive_2:=fun s=>noRoadLSs lk [wf s]=true->noRoadLSs lk.inClass (wi s)=true->noRoadLSs lk (s::r)=true) s hs fun a b c d e f g h i j k h1 h2=>?_
 have h1:((noRoadLs lk b&&noRoadLKws lk c&&true&&noRoadLs lk e&&noRoadLTps lk f)&&true)=true:=h1
 show ((noRoadLs lk b&&noRoadLKws lk c&&noRoadLSs lk.inClass d&&noRoadLs lk e&&noRoadLTps lk f)&&noRoadLSs lk r)=true
 have h2:noRoadLSs lk.inClass d=true:=h2
 rw[h2,h3];exact h1
theorem CH{lk:Look}{l:List Stmt}(n:Nat)(hn:Nat.ble (n+1) l.length=true)(h0:Fast.tw8326940854005059898 lk (l.take n)=true)(hs:(l[n]'(Nat.le_of_ble_eq_true hn)).ctorIdx=2)(h1:Fast.tw8326940854005059898 lk [wf (l[n]'(Nat.le_of_ble_eq_true hn))]=true)(h2:Fast.tw8326940854005059898 lk.inClass (wi (l[n]'(Nat.le_of_ble_eq_true hn)))=true)(h3:Fast.tw8326940854005059898 lk (l.drop (n+1))=true):Fast.tw8326940854005059898 lk l=true:=
 qY n h0 ((List.drop_eq_getElem_cons (Nat.le_of_ble_eq_true hn)).symm▸G4 hs h1 h2 h3)
theorem K2{lk lk':Look}{l:List Stmt}(e:lk=lk')(h:Fast.tw8326940854005059898 lk' l=true):Fast.tw8326940854005059898 lk l=true:=e▸h
theorem said0:OpenLaw.wellSaid PySem.Challenge.rw_te0037_04=true:=by
 refine (congrFun PySem.W.Fast.te9446332074065402090 PySem.Challenge.rw_te0037_04).trans ?_
 delta PySem.W.Fast.tw9446332074065402090
 iterate 22 (all_goals (try with_reducible refine nK ?_ ?_))
 all_goals first|(show Fast.tw17960256430627541270 _ = _;delta PySem.W.Fast.tw17960256430627541270)|skip
 iterate 4 (all_goals (try with_reducible refine nK ?_ ?_))
 all_goals first|(show Fast.tw2436336058641802641 _ = _;delta PySem.W.Fast.tw2436336058641802641)|skip
 iterate 16 (all_goals (try with_reducible refine nK ?_ ?_))
 all_goals first|(show Fast.tw12908688711261696721 _ = _;delta PySem.W.Fast.tw12908688711261696721)|skip
 iterate 6 (all_goals (try with_reducible refine nK ?_ ?_))
 rotate_left 4
 refine K2 (lk':=⟨false,none,false,none,false,false,false,false,[],none⟩) ?_ (CH 21 ?_ ?_ ?_ ?_ (qY 20 ?_ (qY 26 ?_ ?_)) ?_)
 all_goals (as_aux_lemma=>kernel_rfl)
end Mine
end
section
set_option maxHeartbeats 0
namespace Mine.H
noncomputable section
noncomputable abbrev pw:Program:=PySem.Challenge.pw_te0037_04
noncomputable abbrev rw0:OpenLaw:=PySem.Challenge.rw_te0037_04
noncomputable abbrev K0:Stmt:=.Pass ⟨0,0,0,0⟩
noncomputable def bd:List Stmt:=behindTheImports pw
noncomputable def st(i:Nat):Stmt:=bd.getD i K0
noncomputable def mt(i j:Nat):Stmt:=if h:(st i).ctorIdx=2 then Stmt.ClassDef.elim (motive_2:=fun _=>Stmt) (st i) h fun _ _ _ b _ _ _ _ _ _ _=>b.getD j K0 else st i
noncomputable def MP{α:Type}(z:α)(f:Arguments->List Stmt->Scope->Pos->α)(s:Stmt):α:=if h:s.ctorIdx=0 then Stmt.FunctionDef.elim (motive_2:=fun _=>α) s h fun _ a b _ _ _ c _ _ p=>f a b c p else z
noncomputable def N0:Stmt->Arguments:=MP ⟨[],[],none,[],[],none,[]⟩ fun a _ _ _=>a
noncomputable def fnB:Stmt->List Stmt:=MP [] fun _ b _ _=>b
noncomputable def N1:Stmt->Scope:=MP ⟨.function,[],false,false,[]⟩ fun _ _ c _=>c
noncomputable abbrev vs(s:String)(t:Nat):Value:=.str (Str.ofString s) t
noncomputable abbrev vi(i:Int):Value:=.int i 0
noncomputable abbrev vr(a:Nat):Value:=.ref a
noncomputable abbrev de(P:Params)(s:String)(t:Nat)(v:Value):DictEntry:=⟨PyData.keyHash P (Str.ofString s),.str (Str.ofString s) t,v⟩
noncomputable abbrev tp(l:List Value):Obj:=⟨.type "tuple", none,.seq l.toArray 0,#[]⟩
noncomputable abbrev co(l:List Value):Obj:=⟨.type "code", none,.fields l.toArray,#[]⟩
noncomputable abbrev tb(l:List Value):Obj:=⟨.none,none,.fields l.toArray,#[]⟩
noncomputable abbrev fo(s:Stmt)(name qual:String)(dv kv doc pm cd ct:Value):Data:=
 .func { name:=Str.ofString name,qualname:=Str.ofString qual,params:=N0 s,body:=.stmts (fnB s),scope:=N1 s,globals:=mainGlobals,closure:=[],defaults:=dv,kwdefaults:=kv,doc:=doc,pyModule:=pm,annotations:=none,code:=cd,closureTuple:=ct,builtins:=builtinsNs }
noncomputable abbrev fz(s:Stmt)(name qual:String)(dv kv doc pm cd ct:Value):Data:=
 .func { name:=Str.ofString name,qualname:=Str.ofString qual,params:=N0 s,body:=.stmts (fnB s),scope:=N1 s,globals:=0,closure:=[],defaults:=dv,kwdefaults:=kv,doc:=doc,pyModule:=pm,annotations:=none,code:=cd,closureTuple:=ct,builtins:=0 }
noncomputable abbrev cf(n q:String)(a:Nat)(l p:Int)(x z:Nat):Obj:=co [vs n a,vs q (a+1),vs "/claim/cut.py" (a+2),vi l,vi p,vi 0,vi 0,vi 3,vr x,.bool true,vi 181,vr (x+1),.none,vr (x+2),vr (x+3),vr (x+4),vi z,vi l,vs "/claim/cut.py" (z+1)]
noncomputable abbrev fx(s:Stmt)(n q m:String)(t c:Nat):Obj:=⟨.type "function", none,fo s n q .none .none .none (vs m t) (vr c) .none,#[]⟩
noncomputable abbrev uy(s:Stmt)(n q:String)(c:Nat):Obj:=fx s n q "html5lib._tokenizer" 827 c
noncomputable abbrev xo(s:Stmt)(n q:String)(c:Nat):Obj:=fx s n q "html5lib._inputstream" 564 c
noncomputable abbrev Ao(s:Stmt)(n q:String)(c:Nat):Obj:=fx s n q "law_te0037_04" 1444 c
noncomputable abbrev II(s:Stmt)(n q:String)(c:Nat):Obj:=fx s n q "html5lib._trie.py" 738 c
noncomputable def o0:Obj:=tp []
noncomputable def o1:Obj:=tb []
noncomputable def o2:Obj:=co [vs "<module>" 182,vs "<module>" 183,vs "/claim/cut.py" 184,vi 1,vi 0,vi 0,vi 0,vi 0,vr 11,.bool false,vi 181,vr 12,.none,.none,.none,.none,vi 185,vi 1,vs "/claim/cut.py" 186]
noncomputable def o3:Obj:=⟨(.type "frame"),none,.plain,#[some (vr 13),some (vr 3),some (vr 3),none,some (vs "__main__" 164),none,some (vr 0)]⟩
noncomputable def lA(P:Params):List Obj:=[boot_o_0 P,boot_o_1 P,boot_o_2 P,boot_o_3 P,boot_o_4 P,boot_o_5 P,boot_o_6 P,boot_o_7 P,boot_o_8 P,boot_o_9 P,boot_o_10 P,o0,o1,o2,o3]
noncomputable def nA:Nat:=15
noncomputable def kA:Nat:=187
noncomputable def o4(P:Params):Obj:=⟨(.type "dict"),none,(.dict #[de P "__name__" 165 (vs "html5lib.constants" 194),de P "__doc__" 166 .none,de P "__package__" 167 .none,de P "__loader__" 168 (.builtin "__main__.__loader__#opaque"),de P "__spec__" 169 .none,de P "__annotations__" 170 (vr 6),de P "__builtins__" 171 (vr 4),de P "__file__" 173 (vs "/claim/cut.py" 172),de P "__cached__" 174 .none,de P "_wall" 193 (vr 21),de P "EOF" 196 .none,de P "spaceCharacters" 202 (vr 22),de P "asciiLetters" 256 (vr 27),de P "digits" 268 (vr 32),de P "hexDigits" 292 (vr 37),de P "asciiLower" 298 (vr 42),de P "entities" 428 (vr 43),de P "replacementCharacters" 531 (vr 46),de P "tokenTypes" 556 (vr 48),de P "tagTokenTypes" 563 (vr 49)] 20),#[]⟩
noncomputable def o6:Obj:=tp [vs "k" 190]
noncomputable def o7:Obj:=⟨.none,none,(fz (st 0) "_wall" "_wall" .none .none .none .none .none .none),#[]⟩
noncomputable def o8:Obj:=cf "_wall" "_wall" 187 1 1 15 191
noncomputable def o9:Obj:=fx (st 0) "_wall" "_wall" "__main__" 164 20
noncomputable def OS:Obj:=tp [(vs "\x09" 197), (vs "\x0a" 198), (vs "\x0c" 199), vs " " 200, (vs "\x0d" 201)]
noncomputable def QD:Obj:=⟨(.type "list"),none,(.seq #[vs "a" 204,vs "b" 205,vs "c" 206,vs "d" 207,vs "e" 208,vs "f" 209,vs "g" 210,vs "h" 211,vs "i" 212,vs "j" 213,vs "k" 214,vs "l" 215,vs "m" 216,vs "n" 217,vs "o" 218,vs "p" 219,vs "q" 220,vs "r" 221,vs "s" 222,vs "t" 223,vs "u" 224,vs "v" 225,vs "w" 226,vs "x" 227,vs "y" 228,vs "z" 229,vs "A" 230,vs "B" 231,vs "C" 232,vs "D" 233,vs "E" 234,vs "F" 235,vs "G" 236,vs "H" 237,vs "I" 238,vs "J" 239,vs "K" 240,vs "L" 241,vs "M" 242,vs "N" 243,vs "O" 244,vs "P" 245,vs "Q" 246,vs "R" 247,vs "S" 248,vs "T" 249,vs "U" 250,vs "V" 251,vs "W" 252,vs "X" 253,vs "Y" 254,vs "Z" 255] 52),#[]⟩
noncomputable def QE:Obj:=⟨(.type "str_ascii_iterator"),none,(.fields #[.none,vi 52]),#[]⟩
noncomputable def QF:Obj:=⟨(.type "StopIteration"),none,(.fields #[vr 25,.none,.none,.none,.bool false,.none]),#[]⟩
noncomputable def OT:Obj:=tp [vs "a" 204,vs "b" 205,vs "c" 206,vs "d" 207,vs "e" 208,vs "f" 209,vs "g" 210,vs "h" 211,vs "i" 212,vs "j" 213,vs "k" 214,vs "l" 215,vs "m" 216,vs "n" 217,vs "o" 218,vs "p" 219,vs "q" 220,vs "r" 221,vs "s" 222,vs "t" 223,vs "u" 224,vs "v" 225,vs "w" 226,vs "x" 227,vs "y" 228,vs "z" 229,vs "A" 230,vs "B" 231,vs "C" 232,vs "D" 233,vs "E" 234,vs "F" 235,vs "G" 236,vs "H" 237,vs "I" 238,vs "J" 239,vs "K" 240,vs "L" 241,vs "M" 242,vs "N" 243,vs "O" 244,vs "P" 245,vs "Q" 246,vs "R" 247,vs "S" 248,vs "T" 249,vs "U" 250,vs "V" 251,vs "W" 252,vs "X" 253,vs "Y" 254,vs "Z" 255]
noncomputable def QG:Obj:=⟨(.type "list"),none,(.seq #[vs "0" 258,vs "1" 259,vs "2" 260,vs "3" 261,vs "4" 262,vs "5" 263,vs "6" 264,vs "7" 265,vs "8" 266,vs "9" 267] 10),#[]⟩
noncomputable def QH:Obj:=⟨(.type "str_ascii_iterator"),none,(.fields #[.none,vi 10]),#[]⟩
noncomputable def QI:Obj:=⟨(.type "StopIteration"),none,(.fields #[vr 30,.none,.none,.none,.bool false,.none]),#[]⟩
noncomputable def OU:Obj:=tp [vs "0" 258,vs "1" 259,vs "2" 260,vs "3" 261,vs "4" 262,vs "5" 263,vs "6" 264,vs "7" 265,vs "8" 266,vs "9" 267]
noncomputable def QJ:Obj:=⟨(.type "list"),none,(.seq #[vs "0" 270,vs "1" 271,vs "2" 272,vs "3" 273,vs "4" 274,vs "5" 275,vs "6" 276,vs "7" 277,vs "8" 278,vs "9" 279,vs "a" 280,vs "b" 281,vs "c" 282,vs "d" 283,vs "e" 284,vs "f" 285,vs "A" 286,vs "B" 287,vs "C" 288,vs "D" 289,vs "E" 290,vs "F" 291] 22),#[]⟩
noncomputable def QK:Obj:=⟨(.type "str_ascii_iterator"),none,(.fields #[.none,vi 22]),#[]⟩
noncomputable def QL:Obj:=⟨(.type "StopIteration"),none,(.fields #[vr 35,.none,.none,.none,.bool false,.none]),#[]⟩
noncomputable def OV:Obj:=tp [vs "0" 270,vs "1" 271,vs "2" 272,vs "3" 273,vs "4" 274,vs "5" 275,vs "6" 276,vs "7" 277,vs "8" 278,vs "9" 279,vs "a" 280,vs "b" 281,vs "c" 282,vs "d" 283,vs "e" 284,vs "f" 285,vs "A" 286,vs "B" 287,vs "C" 288,vs "D" 289,vs "E" 290,vs "F" 291]
noncomputable def QM:Obj:=⟨.none,none,(fz (st 7) "asciiLower" "asciiLower" .none .none .none .none .none .none),#[]⟩
noncomputable def OW:Obj:=co [vs "asciiLower" 293,vs "asciiLower" 294,vs "/claim/cut.py" 295,vi 10,vi 1,vi 0,vi 0,vi 3,vr 38,.bool true,vi 181,vr 39,.none,.none,.none,vr 40,vi 296,vi 10,vs "/claim/cut.py" 297]
noncomputable def OX:Obj:=fx (st 7) "asciiLower" "asciiLower" "html5lib.constants" 194 41
noncomputable def OY(P:Params):Obj:=⟨(.type "dict"),none,(.dict #[de P "AMP" 299 (vs "&" 300),de P "AMP;" 302 (vs "&" 303),de P "Eacute" 305 (vs "\u00c9" 306), de P "Eacute;" 308 (vs "\u00c9" 309), de P "Mopf;" 311 (vs "𝕄" 312), de P "ac;" 314 (vs "\u223e" 315), de P "acE;" 317 (vs "\u223e\u0333" 318), de P "acute" 320 (vs "\u00b4" 321), de P "acute;" 323 (vs "\u00b4" 324), de P "amp" 326 (vs "&" 327), de P "amp;" 329 (vs "&" 330), de P "ang;" 332 (vs "\u2220" 333), de P "angle;" 335 (vs "\u2220" 336), de P "bne;" 338 (vs "=\u20e5" 339), de P "copy" 341 (vs "\u00a9" 342), de P "copy;" 344 (vs "\u00a9" 345), de P "eacute" 347 (vs "\u00e9" 348), de P "eacute;" 350 (vs "\u00e9" 351), de P "frac12" 353 (vs "\u00bd" 354), de P "frac12;" 356 (vs "\u00bd" 357), de P "gt" 359 (vs ">" 360), de P "gt;" 362 (vs ">" 363), de P "lt" 365 (vs "<" 366), de P "lt;" 368 (vs "<" 369), de P "nbsp" 371 (vs "\u00a0" 372), de P "nbsp;" 374 (vs "\u00a0" 375), de P "not" 377 (vs "\u00ac" 378), de P "not;" 380 (vs "\u00ac" 381), de P "notin;" 383 (vs "\u2209" 384), de P "notni;" 386 (vs "\u220c" 387), de P "para" 389 (vs "\u00b6" 390), de P "para;" 392 (vs "\u00b6" 393), de P "parallel;" 395 (vs "\u2225" 396), de P "quot" 398 (vs "\"" 399),de P "quot;" 401 (vs "\"" 402),de P "sup1" 403 (vs "\u00b9" 404), de P "sup1;" 405 (vs "\u00b9" 406), de P "sup2" 407 (vs "\u00b2" 408), de P "sup2;" 409 (vs "\u00b2" 410), de P "sup;" 411 (vs "\u2283" 412), de P "times" 413 (vs "\u00d7" 414), de P "times;" 415 (vs "\u00d7" 416), de P "timesb;" 417 (vs "\u22a0" 418)] 43),#[]⟩
noncomputable def QN(P:Params):Obj:=⟨(.type "dict"),none,(.dict #[de P "eacute;" 350 (vs "\u00e9" 351), de P "frac12" 353 (vs "\u00bd" 354), de P "frac12;" 356 (vs "\u00bd" 357), de P "gt" 359 (vs ">" 360), de P "gt;" 362 (vs ">" 363), de P "lt" 365 (vs "<" 366), de P "lt;" 368 (vs "<" 369), de P "nbsp" 371 (vs "\u00a0" 372), de P "nbsp;" 374 (vs "\u00a0" 375), de P "not" 377 (vs "\u00ac" 378), de P "not;" 380 (vs "\u00ac" 381), de P "notin;" 383 (vs "\u2209" 384), de P "notni;" 386 (vs "\u220c" 387), de P "para" 389 (vs "\u00b6" 390), de P "para;" 392 (vs "\u00b6" 393), de P "parallel;" 395 (vs "\u2225" 396), de P "quot" 398 (vs "\"" 399)] 17),#[]⟩
noncomputable def QO(P:Params):Obj:=⟨(.type "dict"),none,(.dict #[de P "quot;" 401 (vs "\"" 402),de P "sup1" 403 (vs "\u00b9" 404), de P "sup1;" 405 (vs "\u00b9" 406), de P "sup2" 407 (vs "\u00b2" 408), de P "sup2;" 409 (vs "\u00b2" 410), de P "sup;" 411 (vs "\u2283" 412), de P "times" 413 (vs "\u00d7" 414), de P "times;" 415 (vs "\u00d7" 416), de P "timesb;" 417 (vs "\u22a0" 418)] 9),#[]⟩
noncomputable def OZ:Obj:=⟨(.type "dict"),none,(.dict #[⟨0,(.int 0 429),(vs "\ufffd" 430)⟩, ⟨13, (.int 13 432), (vs "\x0d" 433)⟩, ⟨128, (.int 128 435), (vs "\u20ac" 436)⟩, ⟨129, (.int 129 438), (vs "\u0081" 439)⟩, ⟨130, (.int 130 441), (vs "\u201a" 442)⟩, ⟨131, (.int 131 444), (vs "\u0192" 445)⟩, ⟨132, (.int 132 447), (vs "\u201e" 448)⟩, ⟨133, (.int 133 450), (vs "\u2026" 451)⟩, ⟨134, (.int 134 453), (vs "\u2020" 454)⟩, ⟨135, (.int 135 456), (vs "\u2021" 457)⟩, ⟨136, (.int 136 459), (vs "\u02c6" 460)⟩, ⟨137, (.int 137 462), (vs "\u2030" 463)⟩, ⟨138, (.int 138 465), (vs "\u0160" 466)⟩, ⟨139, (.int 139 468), (vs "\u2039" 469)⟩, ⟨140, (.int 140 471), (vs "\u0152" 472)⟩, ⟨141, (.int 141 474), (vs "\u008d" 475)⟩, ⟨142, (.int 142 477), (vs "\u017d" 478)⟩, ⟨143, (.int 143 480), (vs "\u008f" 481)⟩, ⟨144, (.int 144 483), (vs "\u0090" 484)⟩, ⟨145, (.int 145 486), (vs "\u2018" 487)⟩, ⟨146, (.int 146 489), (vs "\u2019" 490)⟩, ⟨147, (.int 147 492), (vs "\u201c" 493)⟩, ⟨148, (.int 148 495), (vs "\u201d" 496)⟩, ⟨149, (.int 149 498), (vs "\u2022" 499)⟩, ⟨150, (.int 150 501), (vs "\u2013" 502)⟩, ⟨151, (.int 151 504), (vs "\u2014" 505)⟩, ⟨152, (.int 152 507), (vs "\u02dc" 508)⟩, ⟨153, (.int 153 510), (vs "\u2122" 511)⟩, ⟨154, (.int 154 513), (vs "\u0161" 514)⟩, ⟨155, (.int 155 516), (vs "\u203a" 517)⟩, ⟨156, (.int 156 519), (vs "\u0153" 520)⟩, ⟨157, (.int 157 522), (vs "\u009d" 523)⟩, ⟨158, (.int 158 525), (vs "\u017e" 526)⟩, ⟨159, (.int 159 528), (vs "\u0178" 529)⟩] 34),#[]⟩
noncomputable def QP:Obj:=⟨(.type "dict"),none,(.dict #[⟨143,(.int 143 480),(vs "\u008f" 481)⟩, ⟨144, (.int 144 483), (vs "\u0090" 484)⟩, ⟨145, (.int 145 486), (vs "\u2018" 487)⟩, ⟨146, (.int 146 489), (vs "\u2019" 490)⟩, ⟨147, (.int 147 492), (vs "\u201c" 493)⟩, ⟨148, (.int 148 495), (vs "\u201d" 496)⟩, ⟨149, (.int 149 498), (vs "\u2022" 499)⟩, ⟨150, (.int 150 501), (vs "\u2013" 502)⟩, ⟨151, (.int 151 504), (vs "\u2014" 505)⟩, ⟨152, (.int 152 507), (vs "\u02dc" 508)⟩, ⟨153, (.int 153 510), (vs "\u2122" 511)⟩, ⟨154, (.int 154 513), (vs "\u0161" 514)⟩, ⟨155, (.int 155 516), (vs "\u203a" 517)⟩, ⟨156, (.int 156 519), (vs "\u0153" 520)⟩, ⟨157, (.int 157 522), (vs "\u009d" 523)⟩, ⟨158, (.int 158 525), (vs "\u017e" 526)⟩, ⟨159, (.int 159 528), (vs "\u0178" 529)⟩] 17),#[]⟩
noncomputable def O0(P:Params):Obj:=⟨(.type "dict"),none,(.dict #[de P "Doctype" 532 (.int 0 533),de P "Characters" 534 (.int 1 535),de P "SpaceCharacters" 536 (.int 2 537),de P "StartTag" 538 (.int 3 539),de P "EndTag" 540 (.int 4 541),de P "EmptyTag" 542 (.int 5 543),de P "Comment" 544 (.int 6 545),de P "ParseError" 546 (.int 7 547)] 8),#[]⟩
noncomputable def O1:Obj:=tp [(.int 3 539),(.int 4 541),(.int 5 543)]
noncomputable def Sf(P:Params):List Obj:=[boot_o_0 P,boot_o_1 P,boot_o_2 P,o4 P,boot_o_4 P,boot_o_5 P,boot_o_6 P,boot_o_7 P,boot_o_8 P,boot_o_9 P,boot_o_10 P,o0,tb [vi 1,vi 0,vr 20,vi 10,vi 0,vr 41],o2,o3,o0,o1,o6,o0,o7,o8,o9,OS,QD,QE,o0,QF,OT,QG,QH,o0,QI,OU,QJ,QK,o0,QL,OV,o0,o1,QM,OW,OX,OY P,QN P,QO P,OZ,QP,O0 P,O1]
noncomputable def So:Nat:=50
noncomputable def RX:Nat:=564
noncomputable def EH:Pos:=⟨15,0,15,13⟩
noncomputable def O2:Obj:=tp [(.type "object")]
noncomputable def O3:Obj:=⟨(.type "builtin_function_or_method"),none,(.fields #[(.builtin "type.__prepare__"),(.type "type")]),#[]⟩
noncomputable def QQ:Obj:=cf "__init__" "Text.__init__" 578 19 2 57 583
noncomputable def QR:Obj:=xo (mt 13 0) "__init__" "Text.__init__" 62
noncomputable def QS:Obj:=cf "read" "Text.read" 586 23 2 64 592
noncomputable def QT:Obj:=xo (mt 13 1) "read" "Text.read" 69
noncomputable def QU:Obj:=tp [vs "place" 595,vs "text" 596]
noncomputable def QV(P:Params):Obj:=⟨(.type "dict"),none,(.dict #[de P "__module__" 573 (vs "html5lib._inputstream" 564),de P "__firstlineno__" 577 (.int 17 576),de P "__init__" 585 (vr 63),de P "read" 594 (vr 70),de P "__static_attributes__" 597 (vr 71),de P "__dict__" 599 (vr 74),de P "__weakref__" 601 (vr 75),de P "__doc__" 602 .none] 4),#[]⟩
noncomputable def QW:Obj:=⟨(.type "type"),none,(.cls { name:=Str.ofString "Text", bases:=[(.type "object")],mro:=[vr 73,(.type "object")],ns:=72,qualname:=Str.ofString "Text", hasDict:=true,slotNames:=[],subclasses:=[],abstract:=false,collection:=none,hasDel:=false }),#[some (vr 50),none,some (vs "Text" 566),some (vs "Text" 574),some (.builtin "object.__new__"),some (.bool true)]⟩
noncomputable def QX:Obj:=cf "_is_invalid" "_is_invalid" 605 27 1 78 609
noncomputable def QY:Obj:=xo (st 14) "_is_invalid" "_is_invalid" 83
noncomputable def QZ:Obj:=cf "__init__" "HTMLUnicodeInputStream.__init__" 626 32 2 92 631
noncomputable def Q2:Obj:=xo (mt 15 1) "__init__" "HTMLUnicodeInputStream.__init__" 97
noncomputable def Q3:Obj:=cf "reset" "HTMLUnicodeInputStream.reset" 634 38 1 99 638
noncomputable def Q4:Obj:=xo (mt 15 2) "reset" "HTMLUnicodeInputStream.reset" 104
noncomputable def Q5:Obj:=cf "openStream" "HTMLUnicodeInputStream.openStream" 641 47 2 106 647
noncomputable def Q6:Obj:=xo (mt 15 3) "openStream" "HTMLUnicodeInputStream.openStream" 111
noncomputable def Q7:Obj:=cf "_position" "HTMLUnicodeInputStream._position" 650 51 2 113 660
noncomputable def Q8:Obj:=xo (mt 15 4) "_position" "HTMLUnicodeInputStream._position" 118
noncomputable def Q9:Obj:=cf "position" "HTMLUnicodeInputStream.position" 663 62 1 120 669
noncomputable def Ra:Obj:=xo (mt 15 5) "position" "HTMLUnicodeInputStream.position" 125
noncomputable def Rb:Obj:=cf "char" "HTMLUnicodeInputStream.char" 672 66 1 127 678
noncomputable def Rc:Obj:=xo (mt 15 6) "char" "HTMLUnicodeInputStream.char" 132
noncomputable def O4:Obj:=tp [.none]
noncomputable def Rd:Obj:=cf "readChunk" "HTMLUnicodeInputStream.readChunk" 681 75 2 135 688
noncomputable def Re:Obj:=⟨(.type "function"),none,(fo (mt 15 7) "readChunk" "HTMLUnicodeInputStream.readChunk" (vr 134) .none .none (vs "html5lib._inputstream" 564) (vr 140) .none),#[]⟩
noncomputable def Rf:Obj:=cf "characterErrorsUCS4" "HTMLUnicodeInputStream.characterErrorsUCS4" 691 101 2 142 697
noncomputable def Rg:Obj:=xo (mt 15 8) "characterErrorsUCS4" "HTMLUnicodeInputStream.characterErrorsUCS4" 147
noncomputable def Rh:Obj:=tp [.bool false]
noncomputable def K3:Obj:=cf "charsUntil" "HTMLUnicodeInputStream.charsUntil" 700 106 3 150 709
noncomputable def K4:Obj:=⟨(.type "function"),none,(fo (mt 15 9) "charsUntil" "HTMLUnicodeInputStream.charsUntil" (vr 149) .none .none (vs "html5lib._inputstream" 564) (vr 155) .none),#[]⟩
noncomputable def K5:Obj:=cf "unget" "HTMLUnicodeInputStream.unget" 712 125 2 157 717
noncomputable def K6:Obj:=xo (mt 15 10) "unget" "HTMLUnicodeInputStream.unget" 162
noncomputable def K7:Obj:=tp [vs "_bufferedCharacter" 720,vs "chunk" 721,vs "chunkOffset" 722,vs "chunkSize" 723,vs "dataStream" 724,vs "errors" 725,vs "newLines" 726,vs "prevNumCols" 727,vs "prevNumLines" 728,vs "reportCharacterErrors" 729]
noncomputable def K8(P:Params):Obj:=⟨(.type "dict"),none,(.dict #[de P "__module__" 619 (vs "html5lib._inputstream" 564),de P "__firstlineno__" 623 (.int 29 622),de P "_defaultChunkSize" 625 (.int 10240 624),de P "__init__" 633 (vr 98),de P "reset" 640 (vr 105),de P "openStream" 649 (vr 112),de P "_position" 662 (vr 119),de P "position" 671 (vr 126),de P "char" 680 (vr 133),de P "readChunk" 690 (vr 141),de P "characterErrorsUCS4" 699 (vr 148),de P "charsUntil" 711 (vr 156),de P "unget" 719 (vr 163),de P "__static_attributes__" 730 (vr 164),de P "__dict__" 732 (vr 167),de P "__weakref__" 734 (vr 168),de P "__doc__" 735 .none] 4),#[]⟩
noncomputable def K9:Obj:=⟨(.type "type"),none,(.cls { name:=Str.ofString "HTMLUnicodeInputStream", bases:=[(.type "object")],mro:=[vr 166,(.type "object")],ns:=165,qualname:=Str.ofString "HTMLUnicodeInputStream", hasDict:=true,slotNames:=[],subclasses:=[],abstract:=false,collection:=none,hasDel:=false }),#[some (vr 85),none,some (vs "HTMLUnicodeInputStream" 612),some (vs "HTMLUnicodeInputStream" 620),some (.builtin "object.__new__"),some (.bool true)]⟩
noncomputable def La:Obj:=tp [(.int 0 740),.none]
noncomputable def Lb:Obj:=tp [vs "_cachepoints" 815,vs "_cachestr" 816,vs "_data" 817,vs "_keys" 818]
noncomputable def Lc(P:Params):Obj:=⟨(.type "dict"),none,(.dict #[de P "__module__" 759 (vs "html5lib._trie.py" 738),de P "__firstlineno__" 763 (.int 144 762),de P "__init__" 771 (vr 192),de P "__contains__" 779 (vr 199),de P "__len__" 786 (vr 206),de P "__getitem__" 794 (vr 213),de P "has_keys_with_prefix" 805 (vr 220),de P "longest_prefix" 814 (vr 227),de P "__static_attributes__" 819 (vr 228),de P "__dict__" 821 (vr 231),de P "__weakref__" 823 (vr 232),de P "__doc__" 824 .none] 4),#[]⟩
noncomputable def Ld:Obj:=⟨(.type "type"),none,(.cls { name:=Str.ofString "Trie", bases:=[(.type "object")],mro:=[vr 230,(.type "object")],ns:=229,qualname:=Str.ofString "Trie", hasDict:=true,slotNames:=[],subclasses:=[],abstract:=false,collection:=none,hasDel:=false }),#[some (vr 179),none,some (vs "Trie" 752),some (vs "Trie" 760),some (.builtin "object.__new__"),some (.bool true)]⟩
noncomputable def Lf(P:Params):Obj:=⟨(.type "dict"),none,(.dict #[de P "_data" 832 (vr 43),de P "_keys" 834 (vr 243),de P "_cachestr" 837 (vs "" 835),de P "_cachepoints" 842 (vr 246)] 4),#[]⟩
noncomputable def Lj:Obj:=⟨(vr 230),some 235,.plain,#[]⟩
noncomputable def Ll:Obj:=⟨(.type "list"),none,(.seq #[vs "AMP" 299,vs "AMP;" 302,vs "Eacute" 305,vs "Eacute;" 308,vs "Mopf;" 311,vs "ac;" 314,vs "acE;" 317,vs "acute" 320,vs "acute;" 323,vs "amp" 326,vs "amp;" 329,vs "ang;" 332,vs "angle;" 335,vs "bne;" 338,vs "copy" 341,vs "copy;" 344,vs "eacute" 347,vs "eacute;" 350,vs "frac12" 353,vs "frac12;" 356,vs "gt" 359,vs "gt;" 362,vs "lt" 365,vs "lt;" 368,vs "nbsp" 371,vs "nbsp;" 374,vs "not" 377,vs "not;" 380,vs "notin;" 383,vs "notni;" 386,vs "para" 389,vs "para;" 392,vs "parallel;" 395,vs "quot" 398,vs "quot;" 401,vs "sup1" 403,vs "sup1;" 405,vs "sup2" 407,vs "sup2;" 409,vs "sup;" 411,vs "times" 413,vs "times;" 415,vs "timesb;" 417] 2),#[]⟩
noncomputable def Lm:Obj:=tp [(.int 0 838),(.int 43 840)]
noncomputable def Sg(P:Params):List Obj:=[boot_o_0 P,boot_o_1 P,boot_o_2 P,⟨(.type "dict"),none,(.dict #[de P "__name__" 165 (vs "html5lib._tokenizer" 827),de P "__doc__" 166 .none,de P "__package__" 167 .none,de P "__loader__" 168 (.builtin "__main__.__loader__#opaque"),de P "__spec__" 169 .none,de P "__annotations__" 170 (vr 6),de P "__builtins__" 171 (vr 4),de P "__file__" 173 (vs "/claim/cut.py" 172),de P "__cached__" 174 .none,de P "_wall" 193 (vr 21),de P "EOF" 196 .none,de P "spaceCharacters" 202 (vr 22),de P "asciiLetters" 256 (vr 27),de P "digits" 268 (vr 32),de P "hexDigits" 292 (vr 37),de P "asciiLower" 298 (vr 42),de P "entities" 428 (vr 43),de P "replacementCharacters" 531 (vr 46),de P "tokenTypes" 556 (vr 48),de P "tagTokenTypes" 563 (vr 49),de P "Text" 604 (vr 73),de P "_is_invalid" 611 (vr 84),de P "HTMLUnicodeInputStream" 737 (vr 166),de P "bisect_left" 751 (vr 178),de P "Trie" 826 (vr 230),de P "entitiesTrie" 843 (vr 236)] 26),#[]⟩,boot_o_4 P,boot_o_5 P,boot_o_6 P,boot_o_7 P,boot_o_8 P,boot_o_9 P,boot_o_10 P,o0,tb [vi 1,vi 0,vr 20,vi 10,vi 0,vr 41,vi 17,vi 0,vr 55,vi 27,vi 0,vr 83,vi 29,vi 0,vr 90,vi 134,vi 0,vr 177,vi 144,vi 0,vr 184],o2,o3,o0,o1,o6,o0,o7,o8,o9,OS,QD,QE,o0,QF,OT,QG,QH,o0,QI,OU,QJ,QK,o0,QL,OV,o0,o1,QM,OW,OX,OY P,QN P,QO P,OZ,QP,O0 P,O1,O2,O3,⟨(.type "dict"),none,(.dict #[de P "__module__" 573 (vs "html5lib._inputstream" 564),de P "__qualname__" 575 (vs "Text" 574),de P "__firstlineno__" 577 (.int 17 576),de P "__init__" 585 (vr 63),de P "read" 594 (vr 70),de P "__static_attributes__" 597 (vr 71)] 6),#[]⟩,o0,tb [vi 19,vi 4,vr 62,vi 23,vi 4,vr 69],co [vs "Text" 568,vs "Text" 569,vs "/claim/cut.py" 570,vi 17,vi 0,vi 0,vi 0,vi 0,vr 53,.bool false,vi 181,vr 54,.none,.none,.none,.none,vi 571,vi 17,vs "/claim/cut.py" 572],⟨(.type "frame"),none,.plain,#[some (vr 55),some (vr 3),some (vr 52),none,some (vs "html5lib._inputstream" 564),none,some (vr 0)]⟩,o0,o1,tp [vs "self" 581,vs "text" 582],o0,⟨.none,none,(fz (mt 13 0) "__init__" "Text.__init__" .none .none .none .none .none .none),#[]⟩,QQ,QR,o0,o1,tp [vs "self" 589,vs "size" 590,vs "part" 591],o0,⟨.none,none,(fz (mt 13 1) "read" "Text.read" .none .none .none .none .none .none),#[]⟩,QS,QT,QU,QV P,QW,⟨(.type "getset_descriptor"),none,(.fields #[vs "__dict__" 598,vr 73,(.builtin "function.__dict__"),(.builtin "function.__dict__#set")]),#[]⟩,⟨(.type "getset_descriptor"),none,(.fields #[vs "__weakref__" 600,vr 73,(.builtin "ExceptionGroup.__weakref__"),.none]),#[]⟩,⟨(.type "super"),none,(.fields #[vr 73,vr 73,vr 73]),#[]⟩,⟨(.type "builtin_function_or_method"),none,(.fields #[(.builtin "object.__init_subclass__"),vr 73]),#[]⟩,o0,o1,tp [vs "codepoint" 608],o0,⟨.none,none,(fz (st 14) "_is_invalid" "_is_invalid" .none .none .none .none .none .none),#[]⟩,QX,QY,O2,O3,⟨(.type "dict"),none,(.dict #[de P "__module__" 619 (vs "html5lib._inputstream" 564),de P "__qualname__" 621 (vs "HTMLUnicodeInputStream" 620),de P "__firstlineno__" 623 (.int 29 622),de P "_defaultChunkSize" 625 (.int 10240 624),de P "__init__" 633 (vr 98),de P "reset" 640 (vr 105),de P "openStream" 649 (vr 112),de P "_position" 662 (vr 119),de P "position" 671 (vr 126),de P "char" 680 (vr 133),de P "readChunk" 690 (vr 141),de P "characterErrorsUCS4" 699 (vr 148),de P "charsUntil" 711 (vr 156),de P "unget" 719 (vr 163),de P "__static_attributes__" 730 (vr 164)] 15),#[]⟩,o0,tb [vi 32,vi 4,vr 97,vi 38,vi 4,vr 104,vi 47,vi 4,vr 111,vi 51,vi 4,vr 118,vi 62,vi 4,vr 125,vi 66,vi 4,vr 132,vi 75,vi 4,vr 140,vi 101,vi 4,vr 147,vi 106,vi 4,vr 155,vi 125,vi 4,vr 162],co [vs "HTMLUnicodeInputStream" 614,vs "HTMLUnicodeInputStream" 615,vs "/claim/cut.py" 616,vi 29,vi 0,vi 0,vi 0,vi 0,vr 88,.bool false,vi 181,vr 89,.none,.none,.none,.none,vi 617,vi 29,vs "/claim/cut.py" 618],⟨(.type "frame"),none,.plain,#[some (vr 90),some (vr 3),some (vr 87),none,some (vs "html5lib._inputstream" 564),none,some (vr 0)]⟩,o0,o1,tp [vs "self" 629,vs "source" 630],o0,⟨.none,none,(fz (mt 15 1) "__init__" "HTMLUnicodeInputStream.__init__" .none .none .none .none .none .none),#[]⟩,QZ,Q2,o0,o1,tp [vs "self" 637],o0,⟨.none,none,(fz (mt 15 2) "reset" "HTMLUnicodeInputStream.reset" .none .none .none .none .none .none),#[]⟩,Q3,Q4,o0,o1,tp [vs "self" 644,vs "source" 645,vs "stream" 646],o0,⟨.none,none,(fz (mt 15 3) "openStream" "HTMLUnicodeInputStream.openStream" .none .none .none .none .none .none),#[]⟩,Q5,Q6,o0,o1,tp [vs "self" 653,vs "offset" 654,vs "chunk" 655,vs "nLines" 656,vs "positionLine" 657,vs "lastLinePos" 658,vs "positionColumn" 659],o0,⟨.none,none,(fz (mt 15 4) "_position" "HTMLUnicodeInputStream._position" .none .none .none .none .none .none),#[]⟩,Q7,Q8,o0,o1,tp [vs "self" 666,vs "line" 667,vs "col" 668],o0,⟨.none,none,(fz (mt 15 5) "position" "HTMLUnicodeInputStream.position" .none .none .none .none .none .none),#[]⟩,Q9,Ra,o0,o1,tp [vs "self" 675,vs "chunkOffset" 676,vs "char" 677],o0,⟨.none,none,(fz (mt 15 6) "char" "HTMLUnicodeInputStream.char" .none .none .none .none .none .none),#[]⟩,Rb,Rc,O4,o0,o1,tp [vs "self" 684,vs "chunkSize" 685,vs "data" 686,vs "lastv" 687],o0,⟨.none,none,(fz (mt 15 7) "readChunk" "HTMLUnicodeInputStream.readChunk" .none .none .none .none .none .none),#[]⟩,Rd,Re,o0,o1,tp [vs "self" 694,vs "data" 695,vs "c" 696],o0,⟨.none,none,(fz (mt 15 8) "characterErrorsUCS4" "HTMLUnicodeInputStream.characterErrorsUCS4" .none .none .none .none .none .none),#[]⟩,Rf,Rg,Rh,o0,o1,tp [vs "self" 703,vs "characters" 704,vs "opposite" 705,vs "rv" 706,vs "end" 707,vs "r" 708],o0,⟨.none,none,(fz (mt 15 9) "charsUntil" "HTMLUnicodeInputStream.charsUntil" .none .none .none .none .none .none),#[]⟩,K3,K4,o0,o1,tp [vs "self" 715,vs "char" 716],o0,⟨.none,none,(fz (mt 15 10) "unget" "HTMLUnicodeInputStream.unget" .none .none .none .none .none .none),#[]⟩,K5,K6,K7,K8 P,K9,⟨(.type "getset_descriptor"),none,(.fields #[vs "__dict__" 731,vr 166,(.builtin "function.__dict__"),(.builtin "function.__dict__#set")]),#[]⟩,⟨(.type "getset_descriptor"),none,(.fields #[vs "__weakref__" 733,vr 166,(.builtin "ExceptionGroup.__weakref__"),.none]),#[]⟩,⟨(.type "super"),none,(.fields #[vr 166,vr 166,vr 166]),#[]⟩,⟨(.type "builtin_function_or_method"),none,(.fields #[(.builtin "object.__init_subclass__"),vr 166]),#[]⟩,La,o0,o1,tp [vs "rows" 744,vs "key" 745,vs "low" 746,vs "high" 747,vs "middle" 748],o0,⟨.none,none,(fz (st 17) "bisect_left" "bisect_left" .none .none .none .none .none .none),#[]⟩,cf "bisect_left" "bisect_left" 741 134 4 172 749,⟨(.type "function"),none,(fo (st 17) "bisect_left" "bisect_left" (vr 171) .none .none (vs "html5lib._trie.py" 738) (vr 177) .none),#[]⟩,O2,O3,⟨(.type "dict"),none,(.dict #[de P "__module__" 759 (vs "html5lib._trie.py" 738),de P "__qualname__" 761 (vs "Trie" 760),de P "__firstlineno__" 763 (.int 144 762),de P "__init__" 771 (vr 192),de P "__contains__" 779 (vr 199),de P "__len__" 786 (vr 206),de P "__getitem__" 794 (vr 213),de P "has_keys_with_prefix" 805 (vr 220),de P "longest_prefix" 814 (vr 227),de P "__static_attributes__" 819 (vr 228)] 10),#[]⟩,o0,tb [vi 146,vi 4,vr 191,vi 152,vi 4,vr 198,vi 155,vi 4,vr 205,vi 158,vi 4,vr 212,vi 161,vi 4,vr 219,vi 173,vi 4,vr 226],co [vs "Trie" 754,vs "Trie" 755,vs "/claim/cut.py" 756,vi 144,vi 0,vi 0,vi 0,vi 0,vr 182,.bool false,vi 181,vr 183,.none,.none,.none,.none,vi 757,vi 144,vs "/claim/cut.py" 758],⟨(.type "frame"),none,.plain,#[some (vr 184),some (vr 3),some (vr 181),none,some (vs "html5lib._trie.py" 738),none,some (vr 0)]⟩,o0,o1,tp [vs "self" 767,vs "data" 768],o0,⟨.none,none,(fz (mt 18 0) "__init__" "Trie.__init__" .none .none .none .none .none .none),#[]⟩,cf "__init__" "Trie.__init__" 764 146 2 186 769,II (mt 18 0) "__init__" "Trie.__init__" 191,o0,o1,tp [vs "self" 775,vs "key" 776],o0,⟨.none,none,(fz (mt 18 1) "__contains__" "Trie.__contains__" .none .none .none .none .none .none),#[]⟩,cf "__contains__" "Trie.__contains__" 772 152 2 193 777,II (mt 18 1) "__contains__" "Trie.__contains__" 198,o0,o1,tp [vs "self" 783],o0,⟨.none,none,(fz (mt 18 2) "__len__" "Trie.__len__" .none .none .none .none .none .none),#[]⟩,cf "__len__" "Trie.__len__" 780 155 1 200 784,II (mt 18 2) "__len__" "Trie.__len__" 205,o0,o1,tp [vs "self" 790,vs "key" 791],o0,⟨.none,none,(fz (mt 18 3) "__getitem__" "Trie.__getitem__" .none .none .none .none .none .none),#[]⟩,cf "__getitem__" "Trie.__getitem__" 787 158 2 207 792,II (mt 18 3) "__getitem__" "Trie.__getitem__" 212,o0,o1,tp [vs "self" 798,vs "prefix" 799,vs "lo" 800,vs "hi" 801,vs "i" 802],o0,⟨.none,none,(fz (mt 18 4) "has_keys_with_prefix" "Trie.has_keys_with_prefix" .none .none .none .none .none .none),#[]⟩,cf "has_keys_with_prefix" "Trie.has_keys_with_prefix" 795 161 2 214 803,II (mt 18 4) "has_keys_with_prefix" "Trie.has_keys_with_prefix" 219,o0,o1,tp [vs "self" 809,vs "prefix" 810,vs "i" 811],o0,⟨.none,none,(fz (mt 18 5) "longest_prefix" "Trie.longest_prefix" .none .none .none .none .none .none),#[]⟩,cf "longest_prefix" "Trie.longest_prefix" 806 173 2 221 812,II (mt 18 5) "longest_prefix" "Trie.longest_prefix" 226,Lb,Lc P,Ld,⟨(.type "getset_descriptor"),none,(.fields #[vs "__dict__" 820,vr 230,(.builtin "function.__dict__"),(.builtin "function.__dict__#set")]),#[]⟩,⟨(.type "getset_descriptor"),none,(.fields #[vs "__weakref__" 822,vr 230,(.builtin "ExceptionGroup.__weakref__"),.none]),#[]⟩,⟨(.type "super"),none,(.fields #[vr 230,vr 230,vr 230]),#[]⟩,⟨(.type "builtin_function_or_method"),none,(.fields #[(.builtin "object.__init_subclass__"),vr 230]),#[]⟩,Lf P,Lj,⟨(.type "frame"),none,(.dict #[de P "self" 829 (vr 236),de P "data" 830 (vr 43)] 2),#[]⟩,⟨(.type "dict_keys"),none,(.fields #[vr 43]),#[]⟩,⟨(.type "list"),none,(.seq #[vs "AMP" 299,vs "AMP;" 302,vs "Eacute" 305,vs "Eacute;" 308,vs "Mopf;" 311,vs "ac;" 314,vs "acE;" 317,vs "acute" 320,vs "acute;" 323,vs "amp" 326,vs "amp;" 329,vs "ang;" 332,vs "angle;" 335,vs "bne;" 338,vs "copy" 341,vs "copy;" 344,vs "eacute" 347,vs "eacute;" 350,vs "frac12" 353,vs "frac12;" 356,vs "gt" 359,vs "gt;" 362,vs "lt" 365,vs "lt;" 368,vs "nbsp" 371,vs "nbsp;" 374,vs "not" 377,vs "not;" 380,vs "notin;" 383,vs "notni;" 386,vs "para" 389,vs "para;" 392,vs "parallel;" 395,vs "quot" 398,vs "quot;" 401,vs "sup1" 403,vs "sup1;" 405,vs "sup2" 407,vs "sup2;" 409,vs "sup;" 411,vs "times" 413,vs "times;" 415,vs "timesb;" 417] 45),#[]⟩,⟨(.type "dict_keyiterator"),none,(.fields #[.none,vi 43,vi 43,vi 43]),#[]⟩,o0,⟨(.type "StopIteration"),none,(.fields #[vr 241,.none,.none,.none,.bool false,.none]),#[]⟩,Ll,tp [vs "AMP" 299,vs "AMP;" 302,vs "Eacute" 305,vs "Eacute;" 308,vs "Mopf;" 311,vs "ac;" 314,vs "acE;" 317,vs "acute" 320,vs "acute;" 323,vs "amp" 326,vs "amp;" 329,vs "ang;" 332,vs "angle;" 335,vs "bne;" 338,vs "copy" 341,vs "copy;" 344,vs "eacute" 347,vs "eacute;" 350,vs "frac12" 353,vs "frac12;" 356,vs "gt" 359,vs "gt;" 362,vs "lt" 365,vs "lt;" 368,vs "nbsp" 371,vs "nbsp;" 374,vs "not" 377,vs "not;" 380,vs "notin;" 383,vs "notni;" 386,vs "para" 389,vs "para;" 392,vs "parallel;" 395,vs "quot" 398,vs "quot;" 401,vs "sup1" 403,vs "sup1;" 405,vs "sup2" 407,vs "sup2;" 409,vs "sup;" 411,vs "times" 413,vs "times;" 415,vs "timesb;" 417],⟨(.type "list"),none,(.seq #[] 0),#[]⟩,Lm]
noncomputable def Sp:Nat:=247
noncomputable def Kd:Nat:=844
noncomputable def IL:Pos:=⟨181,0,181,12⟩
noncomputable def m0:Nat:=3036
noncomputable def m1:Nat:=2530
noncomputable def m2:Nat:=2802
noncomputable def qZ:Pos:=⟨1260,0,1281,87⟩
noncomputable def kZ:Nat:=1522
noncomputable def nZ:Nat:=831
noncomputable def K(P:Params):Frag:=
 [(0,boot_o_0 P),
  (1,boot_o_1 P),
  (2,boot_o_2 P),
  (3,⟨(.type "dict"),none,(.dict #[de P "__name__" 165 (vs "law_te0037_04" 1444),de P "__doc__" 166 .none,de P "__package__" 167 .none,de P "__loader__" 168 (.builtin "__main__.__loader__#opaque"),de P "__spec__" 169 .none,de P "__annotations__" 170 (vr 6),de P "__builtins__" 171 (vr 4),de P "__file__" 173 (vs "/claim/cut.py" 172),de P "__cached__" 174 .none,de P "_wall" 193 (vr 21),de P "EOF" 196 .none,de P "spaceCharacters" 202 (vr 22),de P "asciiLetters" 256 (vr 27),de P "digits" 268 (vr 32),de P "hexDigits" 292 (vr 37),de P "asciiLower" 298 (vr 42),de P "entities" 428 (vr 43),de P "replacementCharacters" 531 (vr 46),de P "tokenTypes" 556 (vr 48),de P "tagTokenTypes" 563 (vr 49),de P "Text" 604 (vr 73),de P "_is_invalid" 611 (vr 84),de P "HTMLUnicodeInputStream" 737 (vr 166),de P "bisect_left" 751 (vr 178),de P "Trie" 826 (vr 230),de P "entitiesTrie" 843 (vr 236),de P "HTMLTokenizer" 1443 (vr 762),de P "_law_SIGNS" 1451 (vr 773),de P "_law_LETTERS" 1457 (vr 780),de P "_law_BLANKS" 1463 (vr 787),de P "_law_BOGUS" 1469 (vr 794),de P "_law_text" 1480 (vr 801),de P "_law_mended" 1486 (vr 806),de P "_law_last" 1496 (vr 813),de P "_law_tag" 1502 (vr 818),de P "_law_row" 1515 (vr 825),de P "law" 1521 (vr 830)] 37),#[]⟩),
  (4,boot_o_4 P),
  (5,boot_o_5 P),
  (6,boot_o_6 P),
  (7,boot_o_7 P),
  (8,boot_o_8 P),
  (9,boot_o_9 P),
  (10,boot_o_10 P),
  (22,OS),
  (27,OT),
  (32,OU),
  (37,OV),
  (41,OW),
  (42,OX),
  (43,OY P),
  (46,OZ),
  (48,O0 P),
  (49,O1),
  (62,QQ),
  (63,QR),
  (69,QS),
  (70,QT),
  (71,QU),
  (72,QV P),
  (73,QW),
  (83,QX),
  (84,QY),
  (97,QZ),
  (98,Q2),
  (104,Q3),
  (105,Q4),
  (111,Q5),
  (112,Q6),
  (118,Q7),
  (119,Q8),
  (125,Q9),
  (126,Ra),
  (132,Rb),
  (133,Rc),
  (134,O4),
  (140,Rd),
  (141,Re),
  (147,Rf),
  (148,Rg),
  (149,Rh),
  (155,K3),
  (156,K4),
  (162,K5),
  (163,K6),
  (164,K7),
  (165,K8 P),
  (166,K9),
  (171,La),
  (228,Lb),
  (229,Lc P),
  (230,Ld),
  (235,Lf P),
  (236,Lj),
  (243,Ll),
  (246,Lm),
  (254,O4),
  (260,cf "__init__" "HTMLTokenizer.__init__" 856 184 3 255 862),
  (261,⟨(.type "function"),none,(fo (mt 21 0) "__init__" "HTMLTokenizer.__init__" (vr 254) .none .none (vs "html5lib._tokenizer" 827) (vr 260) .none),#[]⟩),
  (267,co [vs "__iter__" 865,vs "HTMLTokenizer.__iter__" 866,vs "/claim/cut.py" 867,vi 193,vi 1,vi 0,vi 0,vi 35,vr 262,.bool true,vi 181,vr 263,.none,vr 264,vr 265,vr 266,vi 869,vi 193,vs "/claim/cut.py" 870]),
  (268,uy (mt 21 1) "__iter__" "HTMLTokenizer.__iter__" 267),
  (276,tp [.none,.bool false]),
  (296,cf "emitCurrentToken" "HTMLTokenizer.emitCurrentToken" 910 286 1 291 917),
  (297,uy (mt 21 5) "emitCurrentToken" "HTMLTokenizer.emitCurrentToken" 296),
  (303,cf "dataState" "HTMLTokenizer.dataState" 920 304 1 298 926),
  (304,uy (mt 21 6) "dataState" "HTMLTokenizer.dataState" 303),
  (310,cf "entityDataState" "HTMLTokenizer.entityDataState" 929 322 1 305 933),
  (311,uy (mt 21 7) "entityDataState" "HTMLTokenizer.entityDataState" 310),
  (352,cf "tagOpenState" "HTMLTokenizer.tagOpenState" 971 342 1 347 976),
  (353,uy (mt 21 13) "tagOpenState" "HTMLTokenizer.tagOpenState" 352),
  (359,cf "closeTagOpenState" "HTMLTokenizer.closeTagOpenState" 979 366 1 354 984),
  (360,uy (mt 21 14) "closeTagOpenState" "HTMLTokenizer.closeTagOpenState" 359),
  (366,cf "tagNameState" "HTMLTokenizer.tagNameState" 987 384 1 361 992),
  (367,uy (mt 21 15) "tagNameState" "HTMLTokenizer.tagNameState" 366),
  (534,cf "beforeAttributeNameState" "HTMLTokenizer.beforeAttributeNameState" 1156 471 1 529 1161),
  (535,uy (mt 21 39) "beforeAttributeNameState" "HTMLTokenizer.beforeAttributeNameState" 534),
  (590,cf "selfClosingStartTagState" "HTMLTokenizer.selfClosingStartTagState" 1224 667 1 585 1229),
  (591,uy (mt 21 47) "selfClosingStartTagState" "HTMLTokenizer.selfClosingStartTagState" 590),
  (597,cf "bogusCommentState" "HTMLTokenizer.bogusCommentState" 1232 682 1 592 1237),
  (598,uy (mt 21 48) "bogusCommentState" "HTMLTokenizer.bogusCommentState" 597),
  (604,cf "markupDeclarationOpenState" "HTMLTokenizer.markupDeclarationOpenState" 1240 690 1 599 1247),
  (605,uy (mt 21 49) "markupDeclarationOpenState" "HTMLTokenizer.markupDeclarationOpenState" 604),
  (611,cf "commentStartState" "HTMLTokenizer.commentStartState" 1250 715 1 606 1255),
  (612,uy (mt 21 50) "commentStartState" "HTMLTokenizer.commentStartState" 611),
  (653,cf "doctypeState" "HTMLTokenizer.doctypeState" 1298 833 1 648 1303),
  (654,uy (mt 21 56) "doctypeState" "HTMLTokenizer.doctypeState" 653),
  (760,tp [vs "currentToken" 1428,vs "escape" 1429,vs "escapeFlag" 1430,vs "lastFourChars" 1431,vs "parser" 1432,vs "state" 1433,vs "stream" 1434,vs "tokenQueue" 1435]),
  (761,⟨(.type "dict"),none,(.dict #[de P "__module__" 851 (vs "html5lib._tokenizer" 827),de P "__firstlineno__" 855 (.int 182 854),de P "__init__" 864 (vr 261),de P "__iter__" 871 (vr 268),de P "consumeNumberEntity" 886 (vr 275),de P "consumeEntity" 901 (vr 283),de P "processEntityInAttribute" 909 (vr 290),de P "emitCurrentToken" 919 (vr 297),de P "dataState" 928 (vr 304),de P "entityDataState" 935 (vr 311),de P "rcdataState" 942 (vr 318),de P "characterReferenceInRcdata" 949 (vr 325),de P "rawtextState" 956 (vr 332),de P "scriptDataState" 963 (vr 339),de P "plaintextState" 970 (vr 346),de P "tagOpenState" 978 (vr 353),de P "closeTagOpenState" 986 (vr 360),de P "tagNameState" 994 (vr 367),de P "rcdataLessThanSignState" 1001 (vr 374),de P "rcdataEndTagOpenState" 1008 (vr 381),de P "rcdataEndTagNameState" 1015 (vr 388),de P "rawtextLessThanSignState" 1022 (vr 395),de P "rawtextEndTagOpenState" 1029 (vr 402),de P "rawtextEndTagNameState" 1036 (vr 409),de P "scriptDataLessThanSignState" 1043 (vr 416),de P "scriptDataEndTagOpenState" 1050 (vr 423),de P "scriptDataEndTagNameState" 1057 (vr 430),de P "scriptDataEscapeStartState" 1064 (vr 437),de P "scriptDataEscapeStartDashState" 1071 (vr 444),de P "scriptDataEscapedState" 1078 (vr 451),de P "scriptDataEscapedDashState" 1085 (vr 458),de P "scriptDataEscapedDashDashState" 1092 (vr 465),de P "scriptDataEscapedLessThanSignState" 1099 (vr 472),de P "scriptDataEscapedEndTagOpenState" 1106 (vr 479),de P "scriptDataEscapedEndTagNameState" 1113 (vr 486),de P "scriptDataDoubleEscapeStartState" 1120 (vr 493),de P "scriptDataDoubleEscapedState" 1127 (vr 500),de P "scriptDataDoubleEscapedDashState" 1134 (vr 507),de P "scriptDataDoubleEscapedDashDashState" 1141 (vr 514),de P "scriptDataDoubleEscapedLessThanSignState" 1148 (vr 521),de P "scriptDataDoubleEscapeEndState" 1155 (vr 528),de P "beforeAttributeNameState" 1163 (vr 535),de P "attributeNameState" 1175 (vr 542),de P "afterAttributeNameState" 1183 (vr 549),de P "beforeAttributeValueState" 1191 (vr 556),de P "attributeValueDoubleQuotedState" 1199 (vr 563),de P "attributeValueSingleQuotedState" 1207 (vr 570),de P "attributeValueUnQuotedState" 1215 (vr 577),de P "afterAttributeValueState" 1223 (vr 584),de P "selfClosingStartTagState" 1231 (vr 591),de P "bogusCommentState" 1239 (vr 598),de P "markupDeclarationOpenState" 1249 (vr 605),de P "commentStartState" 1257 (vr 612),de P "commentStartDashState" 1265 (vr 619),de P "commentState" 1273 (vr 626),de P "commentEndDashState" 1281 (vr 633),de P "commentEndState" 1289 (vr 640),de P "commentEndBangState" 1297 (vr 647),de P "doctypeState" 1305 (vr 654),de P "beforeDoctypeNameState" 1313 (vr 661),de P "doctypeNameState" 1321 (vr 668),de P "afterDoctypeNameState" 1331 (vr 675),de P "afterDoctypePublicKeywordState" 1339 (vr 682),de P "beforeDoctypePublicIdentifierState" 1347 (vr 689),de P "doctypePublicIdentifierDoubleQuotedState" 1355 (vr 696),de P "doctypePublicIdentifierSingleQuotedState" 1363 (vr 703),de P "afterDoctypePublicIdentifierState" 1371 (vr 710),de P "betweenDoctypePublicAndSystemIdentifiersState" 1379 (vr 717),de P "afterDoctypeSystemKeywordState" 1387 (vr 724),de P "beforeDoctypeSystemIdentifierState" 1395 (vr 731),de P "doctypeSystemIdentifierDoubleQuotedState" 1403 (vr 738),de P "doctypeSystemIdentifierSingleQuotedState" 1411 (vr 745),de P "afterDoctypeSystemIdentifierState" 1419 (vr 752),de P "bogusDoctypeState" 1427 (vr 759),de P "__static_attributes__" 1436 (vr 760),de P "__dict__" 1438 (vr 763),de P "__weakref__" 1440 (vr 764),de P "__doc__" 1441 .none] 4),#[]⟩),
  (762,⟨(.type "type"),none,(.cls { name:=Str.ofString "HTMLTokenizer", bases:=[(.type "object")],mro:=[vr 762,(.type "object")],ns:=761,qualname:=Str.ofString "HTMLTokenizer", hasDict:=true,slotNames:=[],subclasses:=[],abstract:=false,collection:=none,hasDel:=false }),#[some (vr 247),none,some (vs "HTMLTokenizer" 844),some (vs "HTMLTokenizer" 852),some (.builtin "object.__new__"),some (.bool true)]⟩),
  (772,cf "_law_SIGNS" "_law_SIGNS" 1446 1186 0 767 1449),
  (773,Ao (st 23) "_law_SIGNS" "_law_SIGNS" 772),
  (779,cf "_law_LETTERS" "_law_LETTERS" 1452 1188 0 774 1455),
  (780,Ao (st 24) "_law_LETTERS" "_law_LETTERS" 779),
  (786,cf "_law_BLANKS" "_law_BLANKS" 1458 1190 0 781 1461),
  (787,Ao (st 25) "_law_BLANKS" "_law_BLANKS" 786),
  (793,cf "_law_BOGUS" "_law_BOGUS" 1464 1192 0 788 1467),
  (794,Ao (st 26) "_law_BOGUS" "_law_BOGUS" 793),
  (800,cf "_law_text" "_law_text" 1470 1194 1 795 1478),
  (801,Ao (st 27) "_law_text" "_law_text" 800),
  (805,co [vs "_law_mended" 1481,vs "_law_mended" 1482,vs "/claim/cut.py" 1483,vi 1204,vi 1,vi 0,vi 0,vi 3,vr 802,.bool true,vi 181,vr 803,.none,.none,.none,vr 804,vi 1484,vi 1204,vs "/claim/cut.py" 1485]),
  (806,Ao (st 28) "_law_mended" "_law_mended" 805),
  (812,cf "_law_last" "_law_last" 1487 1206 1 807 1494),
  (813,Ao (st 29) "_law_last" "_law_last" 812),
  (817,co [vs "_law_tag" 1497,vs "_law_tag" 1498,vs "/claim/cut.py" 1499,vi 1215,vi 3,vi 0,vi 0,vi 3,vr 814,.bool true,vi 181,vr 815,.none,.none,.none,vr 816,vi 1500,vi 1215,vs "/claim/cut.py" 1501]),
  (818,Ao (st 30) "_law_tag" "_law_tag" 817),
  (824,cf "_law_row" "_law_row" 1503 1221 1 819 1513),
  (825,Ao (st 31) "_law_row" "_law_row" 824),
  (829,co [vs "law" 1516,vs "law" 1517,vs "/claim/cut.py" 1518,vi 1260,vi 1,vi 0,vi 0,vi 3,vr 826,.bool true,vi 181,vr 827,.none,.none,.none,vr 828,vi 1519,vi 1260,vs "/claim/cut.py" 1520]),
  (830,Ao (st 32) "law" "law" 829)]
noncomputable def asK:List Addr:=[0,1,2,3,4,5,6,7,8,9,10,22,27,32,37,41,42,43,46,48,49,62,63,69,70,71,72,73,83,84,97,98,104,105,111,112,118,119,125,126,132,133,134,140,141,147,148,149,155,156,162,163,164,165,166,171,228,229,230,235,236,243,246,254,260,261,267,268,276,296,297,303,304,310,311,352,353,359,360,366,367,534,535,590,591,597,598,604,605,611,612,653,654,760,761,762,772,773,779,780,786,787,793,794,800,801,805,806,812,813,817,818,824,825,829,830]
noncomputable def kl:Nat:=32
noncomputable def Ih(l:List Obj):BT:=(l.foldl (fun (t:BT×Nat) o=>(t.1.ins t.2 o,t.2+1)) (.nil,0)).1
noncomputable def PK(l:List Obj)(n k:Nat)(os:OsState):SharedT:=⟨Ih l,n,{},#[],{},k,os⟩
noncomputable abbrev q0:Pos:=⟨0,0,0,0⟩
noncomputable def iD:Env:={ scope:=pw.main.scope,locals:=mainNs,globals:=mainNs,cells:=[],code:=.ref 13,frame:=some 14 }
noncomputable def c0:Code:=.body bd iD
noncomputable abbrev ql:Option Value:=some (.ref 6)
noncomputable def row:String := "special-get-raises"
noncomputable def vo:List Stmt:=bd.take 12
noncomputable def vp:List Stmt:=(bd.drop 12).take 9
noncomputable def Dl:List Stmt:=(bd.drop 12).drop 9
theorem v6:bd=vo++(vp++(Dl++[])):=by
 unfold vo vp Dl
 rw[List.append_nil,List.take_append_drop,List.take_append_drop]
noncomputable def sA(P:Params)(os:OsState):SharedT:=PK (lA P) nA kA os
noncomputable def EL(P:Params)(os:OsState):SharedT:=PK (Sf P) So RX os
noncomputable def IO(P:Params)(os:OsState):SharedT:=PK (Sg P) Sp Kd os
theorem RQ(w:World)(os:OsState):topGo treeTable pw w 11 ql 12 ⟨boot_heap w.params,#[],boot_drawn,boot_toks,os⟩ (topStub pw)=some ((sA w.params os).abs,⟨denote treeTable c0,c0,q0,[topFrame q0]⟩):=by
 rw[PySem.W.Fast.te15667345088766844465,PySem.W.Fast.te14364793385576792824,PySem.W.Fast.te11892475500146522536];kernel_rfl
theorem RF(w:World)(os:OsState):segRun treeTable pw w 11 ql 1 1 (sA w.params os).abs (blockOf bd iD c0 q0 [topFrame q0])=some (.next,(sA w.params os).abs,c0,q0):=by
 kernel_rfl
theorem RJ(w:World)(os:OsState):PySem.W.Fast.tw10110043849684766642 PySem.W.Fast.tw14364793385576792824 pw (w.withFollow row false) 11 ql 1 (m0+1) (sA (w.withFollow row false).params os) (piecesOf vo iD c0 q0 [topFrame q0])=some (.next,EL (w.withFollow row false).params os,c0,EH):=by kernel_rfl
theorem RK(w:World)(os:OsState):PySem.W.Fast.tw10110043849684766642 PySem.W.Fast.tw14364793385576792824 pw (w.withFollow row true) 11 ql 1 (m0+1) (sA (w.withFollow row true).params os) (piecesOf vo iD c0 q0 [topFrame q0])=some (.next,EL (w.withFollow row true).params os,c0,EH):=by kernel_rfl
theorem RM(w:World)(os:OsState):PySem.W.Fast.tw10110043849684766642 PySem.W.Fast.tw14364793385576792824 pw (w.withFollow row false) 11 ql 1 (m1+1) (EL (w.withFollow row false).params os) (piecesOf vp iD c0 EH [topFrame q0])=some (.next,IO (w.withFollow row false).params os,c0,IL):=by kernel_rfl
theorem RO(w:World)(os:OsState):PySem.W.Fast.tw10110043849684766642 PySem.W.Fast.tw14364793385576792824 pw (w.withFollow row true) 11 ql 1 (m1+1) (EL (w.withFollow row true).params os) (piecesOf vp iD c0 EH [topFrame q0])=some (.next,IO (w.withFollow row true).params os,c0,IL):=by kernel_rfl
theorem g0(w:World)(os:OsState):segRunT treeTable pw w 11 ql 1 (m0+1) (sA w.params os) (piecesOf vo iD c0 q0 [topFrame q0])=some (.next,EL w.params os,c0,EH):=by
 rw[PySem.W.Fast.te10110043849684766642,PySem.W.Fast.te14364793385576792824]
 exact byRow2 row (P:=fun w=>PySem.W.Fast.tw10110043849684766642 PySem.W.Fast.tw14364793385576792824 pw w 11 ql 1 (m0+1) (sA w.params os) (piecesOf vo iD c0 q0 [topFrame q0])=some (.next,EL w.params os,c0,EH)) (fun w=>RJ w os) (fun w=>RK w os) w
theorem g1(w:World)(os:OsState):segRunT treeTable pw w 11 ql 1 (m1+1) (EL w.params os) (piecesOf vp iD c0 EH [topFrame q0])=some (.next,IO w.params os,c0,IL):=by
 rw[PySem.W.Fast.te10110043849684766642,PySem.W.Fast.te14364793385576792824]
 exact byRow2 row (P:=fun w=>PySem.W.Fast.tw10110043849684766642 PySem.W.Fast.tw14364793385576792824 pw w 11 ql 1 (m1+1) (EL w.params os) (piecesOf vp iD c0 EH [topFrame q0])=some (.next,IO w.params os,c0,IL)) (fun w=>RM w os) (fun w=>RO w os) w
noncomputable def vw:Program:={ pw with main:={ pw.main with body:=[st kl] } }
noncomputable def ls:List Str:=pw.boundNames.filter fun n=>n != rw0.name
noncomputable def Xt:Shared->Bool:=fun _=>true
noncomputable def yj:List Str:=importedModules pw.main.body
noncomputable def Yf(s:Shared):List (Option Obj):=asK.map s.heap.get?
noncomputable def Ya(w:World):List (Option Obj):=(K w.params).map fun p=>some p.2
noncomputable def qS(P:Params)(s:Shared):Bool:=staticsOk yj (boot_heap P) s.heap&&namesBound pw s.heap&&gensDone s&&laidKept (boot_heap P) s.heap
noncomputable def Ef(w:World)(r:Flow×SharedT×Code×Pos):=(r.1,r.2.2,qS w.params r.2.1.abs,PySem.W.Fast.tw4187177175401517315 vw ls yj Xt true r.2.1.abs,Yf r.2.1.abs)
theorem RP(w:World)(os:OsState):(PySem.W.Fast.tw10110043849684766642 PySem.W.Fast.tw14364793385576792824 pw w 11 ql 1 (m2+1) (IO w.params os) (piecesOf Dl iD c0 IL [topFrame q0])).map (Ef w)=some (.next,(c0,qZ),true,openGood vw ls,Ya w):=by kernel_rfl
theorem g2(w:World)(os:OsState):∃s,segRunT treeTable pw w 11 ql 1 (m2+1) (IO w.params os) (piecesOf Dl iD c0 IL [topFrame q0])=some (.next,s,c0,qZ)/\qS w.params s.abs=true/\openSeen vw ls yj Xt true s.abs=openGood vw ls/\Yf s.abs=Ya w:=by
 have h:=RP w os
 rw[←PySem.W.Fast.te10110043849684766642,←PySem.W.Fast.te14364793385576792824] at h
 obtain⟨⟨fl,s,c,q⟩,e,e'⟩:=ai h
 unfold Ef at e'
 rw[←PySem.W.Fast.te4187177175401517315] at e'
 simp only[Prod.mk.injEq] at e'
 obtain⟨rfl,⟨rfl,rfl⟩,h1,h2,h3⟩:=e'
 exact⟨s,e,h1,h2,h3⟩
theorem NZ(w:World)(s:Shared):topRun treeTable pw w 11 ql 2 s ⟨doneF .next,c0,qZ,[topFrame q0]⟩=some s:=by kernel_rfl
noncomputable def tN:Nat:=12+(1+((m0+1)+((m1+1)+((m2+1)+2))))
theorem Pz(w:World)(os:OsState):∃s,topRun treeTable pw w 11 ql tN ⟨boot_heap w.params,#[],boot_drawn,boot_toks,os⟩ (topStub pw)=some s/\qS w.params s=true/\openSeen vw ls yj Xt true s=openGood vw ls/\Yf s=Ya w:=by
 obtain⟨s,h,h1,h2,h3⟩:=g2 w os
 refine⟨s.abs,?_,h1,h2,h3⟩
 refine go_top (RQ w os) (piece_block (RF w os) ?_)
 have k:=piece_app (rest:=[]) (segRun_of h) (piece_nil (N:=2) (env:=iD) (NZ w s.abs))
 have k:=piece_app (segRun_of (g1 w os)) k
 have k:=piece_app (segRun_of (g0 w os)) k
 rw[←v6] at k
 exact k
theorem L7(P:Params):((boot_heap P).isNs mainGlobals,(boot_heap P).objs.size,(boot_heap P).nsMap mainGlobals "__annotations__")=(true,11,ql):=by kernel_rfl
theorem Sr:opening pw=plainProg pw.main.scope.names:=by kernel_rfl
theorem RI(s:Shared):fenceModules? pw s=some s:=by kernel_rfl
theorem KC:LeftO pw vw ls Xt Yf Ya tN true:=fun w=>by
 obtain⟨⟨h,gs,d,k,os⟩,e,e'⟩:=ai (boot_open Sr (N:=tN) (by decide +kernel) RI w)
 obtain⟨rfl,rfl,rfl,rfl⟩:h=boot_heap w.params/\gs=#[]/\d=boot_drawn/\k=boot_toks:=by simpa using e'
 obtain⟨s,r,h1,h2,h3⟩:=Pz w os
 obtain⟨z1,z2,z3⟩:_/\_/\_:=by simpa only [Prod.mk.injEq] using L7 w.params
 have t:topFrom treeTable pw w tN ⟨boot_heap w.params,#[],boot_drawn,boot_toks,os⟩=some s:=by
  unfold topFrom
  dsimp only
  rw[z1,z2,z3,r]
  dsimp only[Bool.true_and,Option.bind]
  have h1':(staticsOk (importedModules pw.main.body) (boot_heap w.params) s.heap&&namesBound pw s.heap&&gensDone s&&laidKept (boot_heap w.params) s.heap)=true:=h1
  rw[h1']
  rfl
 unfold openEnds
 rw[e]
 show (topFrom treeTable pw w tN _).map _ = _
 rw[t]
 show some (openSeen vw ls yj Xt true s,Yf s) = _
 rw[h2,h3]
def InK(w:World)(h:Heap):Prop:=(K w.params).In h
theorem E8(P:Params):asK=(K P).map (·.1):=by kernel_rfl
abbrev XPt:(Str->Option Value)->Heap->Prop:=fun _ _=>True
end
end Mine.H
end
section
set_option maxHeartbeats 0
namespace Mine.H
noncomputable section
noncomputable def Lw:Stmt->Pos:=MP ⟨0,0,0,0⟩ fun _ _ _ p=>p
noncomputable def lawRec:DefRec:=⟨rw0.name,N0 (st kl),fnB (st kl),N1 (st kl),Lw (st kl)⟩
theorem Fo:defOf vw rw0.row.name=some (lawRec,[]):=by kernel_rfl
theorem Dn:rw0.row.prog.theDef rw0.row.name=some (lawRec.params,lawRec.body,lawRec.scope):=by kernel_rfl
theorem Se:kwWritten? lawRec.params.kwonlyargs lawRec.params.kw_defaults=some []:=by kernel_rfl
theorem Pu(s:Shared):Xt s=true->RecFacts rw0.row.records s.heap:=fun _=>recFacts_nil rfl
theorem Sq:(chainsOk vw&&opensWell rw0.row.prog&&(frees rw0.row.toRowW&&rw0.row.within.isEmpty))=true:=by decide +kernel
theorem Jm:rw0.row.prog.bare:=⟨rfl,rfl,rfl,rfl,rfl,by decide +kernel⟩
theorem Ly:rw0.row.toRowW.promised:=⟨[.list []],by decide +kernel,by decide +kernel⟩
theorem holds_of(said:rw0.wellSaid=true)(call:WalkO vw ls XPt InK rw0.row.toRowW lawRec [] fun f vs=>PySem.call f vs):rw0.Holds:=by
 refine holds_law said fun h'=>?_
 exact holds_open (q:=vw) (loose:=ls) (Xt:=Xt) (XP:=XPt) (Yf:=Yf) (Ya:=Ya) (YP:=InK) (N:=tN) KC (fun w s e=>Frag.in_of (E8 w.params) e) (fun w h h' x k=>x.keeps k) (fun _ _=>trivial) (fun _ _ _ _ _=>trivial) Fo Dn Se Pu rfl h' Sq Jm Ly call
end
end Mine.H
end
namespace Mine
theorem qk{e m:Nat}(b:m<=1000)(h:e<=m):(e:Int).natAbs<9223372036854775808:=Nat.lt_of_le_of_lt (ak h b) (by decide)
theorem Nj{p o:Nat}(h:1<=o):p-1 - (o-1)=p-o:=by rw[Nat.sub_sub,Nat.add_sub_cancel' h]
theorem M0{p o l t:Nat}(h:o<=l)(k:o<=p):p+(l-o+t)=p-o+l+t:=by
 rw[←Nat.add_assoc,←Nat.add_sub_assoc h,Nat.sub_add_comm k]
theorem M8{x c m n:Nat}(h:m-x<n+1)(k:0<c)(b:x-0+c<=m):m - (x-0+c)<n:=
 Nat.lt_of_lt_of_le (Nat.sub_lt_sub_left (Nat.lt_of_lt_of_le (Nat.lt_add_of_pos_right k) b) (Nat.lt_add_of_pos_right k)) (Nat.le_of_lt_succ h)
theorem M9{l:Nat}(h:0<l):(-1+(l:Int)).toNat=l-1:=by
 cases l with
 |zero=>exact absurd h (Nat.lt_irrefl 0)
 |succ n=>rw[Int.natCast_succ,Int.add_comm,Int.add_neg_cancel_right];rfl
theorem I9{a b c d:Nat}(h:d<=1000)(k:1000<=c):min a (d-b)<=c:=ak (Nat.min_le_right _ _) (ak (Nat.sub_le _ _) (ak h k))
theorem Ni{m x:Nat}(h:m<=1000):m-x<1001:=Nat.lt_of_le_of_lt (Nat.sub_le _ _) (Nat.lt_succ_of_le h)
theorem M3{o:Nat}(h:1<=o):(o:Int) - 1=((o-1:Nat):Int):=(Int.ofNat_sub h).symm
theorem M4{o:Nat}(h:1<=o):((o-1:Nat):Int)=(o:Int) - 1:=Int.ofNat_sub h
theorem MZ{a b:Nat}(h:(a:Int)<(b:Int)):(((b:Int) - a+1-1) / 1).toNat=b-a:=by
 rw[Int.add_sub_cancel,Int.ediv_one];exact Int.toNat_sub b a
theorem I7{a b:Nat}(h:¬ (a:Int)<(b:Int)):b-a=0:=Nat.sub_eq_zero_of_le (Nat.le_of_not_lt fun k=>h (Int.ofNat_lt.mpr k))
theorem EZ{c a:Nat}(h:a<=c):a+(c-a)=c:=Nat.add_sub_cancel' h
theorem Nh{pos n o:Nat}:pos+n - (o+n)=pos-o:=Nat.add_sub_add_right _ _ _
theorem I8{n l:Nat}(h:¬ n<l)(k:n-l=0):n=l:=Nat.le_antisymm (Nat.le_of_sub_eq_zero k) (Nat.le_of_not_lt h)
theorem Ja{p m:Nat}(h:p<=m)(k:¬ p<m):min (p+1) m=p:=by rw[Nat.le_antisymm h (Nat.le_of_not_lt k)];exact Nat.min_eq_right (Nat.le_succ _)
theorem Jb{p m:Nat}(h:p<m):min (p+1) m=p+1:=Nat.min_eq_left h
theorem Nc{p o l:Nat}(h:l<=o)(k:o<=l)(m:o<=p):p-o+l=p:=by rw[Nat.le_antisymm h k,Nat.sub_add_cancel m]
theorem Nb{p o i:Nat}(h:o<=p):p+i=p-o+(o+i):=by rw[←Nat.add_assoc,Nat.sub_add_cancel h]
theorem Jc{p o:Nat}(h:o<=p):p=p-o+o:=(Nat.sub_add_cancel h).symm
theorem E3{m p o c n:Nat}(h:m - (p-o)=c+n)(k:p<=m):p-o+c<=m:=by
 have:=Nat.sub_add_cancel (ak (Nat.sub_le p o) k);rw[←this,h,Nat.add_comm];exact Nat.add_le_add_right (al _ _) _
theorem Nl{m p o c n:Nat}(h:m - (p-o)=c+n)(k:p<=m)(z:n=0):p-o+c=m:=by
 have:=Nat.sub_add_cancel (ak (Nat.sub_le p o) k);rw[←this,h,z,Nat.add_comm];rfl
theorem M7{m n c q:Nat}(b:m<=1000)(h:m-q=c+n):c<=1000:=ak (al c n) (h▸ak (Nat.sub_le _ _) b)
theorem M1{s t p:Nat}(h:¬ s<=t-p):t<=p+min s (t-p):=by
 rw[Nat.min_eq_right (Nat.le_of_lt (Nat.lt_of_not_le h))];exact (Nat.sub_le_iff_le_add').mp (ao _)
theorem M2{s t p:Nat}(h:p<=t):p+min s (t-p)<=t:=ak (Nat.add_le_add_left (Nat.min_le_right _ _) p) (an (Nat.add_sub_cancel' h))
theorem Ng{n:Nat}:n-1<=n:=Nat.sub_le n 1
theorem Jd{a b:Nat}(h:a<=b):a-1<=b:=ak (Nat.sub_le a 1) h
theorem Nd{a b:Nat}(h:a<=b):a-1<=b-1:=Nat.sub_le_sub_right h 1
theorem Nm{o n l:Nat}(h:n<l)(k:l=o):(o:Int) - (((o-1-n:Nat):Int)+1)=(n:Int):=by
 rw[k] at h
 have e:o-1-n+1=o-n:=by rw[Nat.sub_sub,Nat.add_comm 1,←Nat.sub_sub];exact Nat.sub_add_cancel (Nat.sub_pos_of_lt h)
 rw[show (((o-1-n:Nat):Int)+1)=((o-n:Nat):Int) from congrArg Int.ofNat e,Int.ofNat_sub (Nat.le_of_lt h)]
 exact Int.sub_sub_self _ _
theorem M6{hi lo:Nat}(k:lo+1<=hi):lo=hi-1 - (hi - (lo+1)):=by
 rw[Nat.add_comm lo 1,←Nat.sub_sub];exact (Nat.sub_sub_self (Nat.le_sub_of_add_le k)).symm
theorem I6{l k r:Nat}(h:l-k=r+2):k+2<=l:=by
 have:k<=l:=Nat.le_of_lt (Nat.lt_of_sub_pos (h▸Nat.succ_pos _))
 rw[←Nat.sub_add_cancel this,h,Nat.add_comm];exact Nat.add_le_add_right (am 2 r) k
theorem Nf{a c x t:Nat}(h:a<=c)(k:x-c=t+2):a+(c-a)<=x:=by
 rw[Nat.add_sub_cancel' h];exact Nat.le_of_lt (Nat.lt_of_sub_pos (k▸Nat.succ_pos _))
theorem E2{a b:Nat}(h:¬ b<=a):a<b:=Nat.lt_of_not_le h
theorem Nk{a b l:Nat}(h:b<=l)(k:(a:Int)<(b:Int)):a+(b-a)<=l:=by
 rw[Nat.add_sub_cancel' (Nat.le_of_lt (Int.ofNat_lt.mp k))];exact h
theorem M5{c a b:Nat}(h:b<=c)(k:b-a=c)(z:¬ c=0):a=0:=by
 have:c<=b:=k▸Nat.sub_le b a
 have e:=Nat.le_antisymm h this
 subst e
 cases a with
 |zero=>rfl
 |succ n=>exact absurd k (Nat.ne_of_lt (Nat.sub_lt (Nat.pos_of_ne_zero z) (Nat.succ_pos n)))
theorem Na{a k:Nat}:((a:Int)+1 * (k:Int)).toNat=a+k:=by rw[Int.one_mul];rfl
theorem Rr{j n l:Nat}(h:j+n=l+1)(k:j<l):2<=n:=Nat.le_of_add_le_add_left (a:=j) (by rw[h];exact Nat.succ_le_succ k)
theorem Rt{j n l:Nat}(h:j+n=l+1)(k:1<=n):j<=l:=Nat.le_of_succ_le_succ (ak (Nat.add_le_add_left k j) (an h))
theorem SD{q:Nat}(h:1<=q):q-1<q:=Nat.sub_lt h Nat.one_pos
theorem SE{j q n:Nat}(h:j+q=n+1)(k:1<=q):j+1+(q-1)=n+1:=by rw[Nat.add_assoc,Nat.add_sub_cancel' k];exact h
theorem SF{j q n:Nat}(h:j+q=n+1)(k:j<n):1<=q-1:=Nat.le_sub_of_add_le (Rr h k)
theorem SG{j q n:Nat}(h:j+q=n+1)(k:1<=q)(z:¬ j<n):j=n:=Nat.le_antisymm (Rt h k) (Nat.le_of_not_lt z)
theorem SH{j n l:Nat}(h:j+(n+1)=l):j<l:=h▸Nat.lt_add_of_pos_right (Nat.succ_pos n)
theorem SI{j n l:Nat}(h:j+(n+1)=l):j+1+n=l:=by rw[Nat.add_right_comm];exact h
theorem O6:(2:Int) ^ 63=9223372036854775808:=by decide
theorem H9{i:Int}{b:Nat}(h:i.natAbs<b):-(b:Int)<=i/\i<b:=
 ⟨Int.neg_le_of_neg_le (Int.le_of_lt (Int.lt_of_le_of_lt Int.le_natAbs (by rw[Int.natAbs_neg];exact Int.ofNat_lt.mpr h))),Int.lt_of_le_of_lt Int.le_natAbs (Int.ofNat_lt.mpr h)⟩
theorem IQ{i:Int}(h:i.natAbs<9223372036854775808):(-2 ^ 63<=i/\i<2 ^ 63)/\(¬ i < -2 ^ 63/\¬ 2 ^ 63<=i):=by
 rw[O6];exact⟨H9 h,Int.not_lt.mpr (H9 h).1,Int.not_le.mpr (H9 h).2⟩
theorem SL{i:Int}(h:¬ i<0):0<=i:=Int.not_lt.mp h
theorem Rv{n:Nat}(h:n<=16777216):(n:Int)<9223372036854775808:=Int.ofNat_lt.mpr (Nat.lt_of_le_of_lt h (by decide))
theorem Rw{a b:Nat}(h:(a:Int)<(b:Int)):(((b:Int) - a+1-1) / 1).toNat=b-a:=MZ h
theorem SN{a b:Nat}(h:¬ (a:Int)<(b:Int)):b-a=0:=I7 h
theorem SJ{a b:Nat}(h:¬ (a:Int)<(b:Int)):Int.toNat 0=b-a:=(I7 h).symm
theorem SM{l n:Nat}(h:(1==1&&n==l)=true){a b:Nat}(hb:b<=l)(e:n=b-a):(¬ l=0->a=0)/\b=l:=by
 have:n=l:=eq_of_beq (Bool.and_eq_true_iff.mp h).2
 have q:b-a=l:=e▸this
 exact⟨M5 hb q,Nat.le_antisymm hb (q▸Nat.sub_le b a)⟩
theorem t_2k{k:Nat}:k+2-k=2:=Nat.add_sub_cancel_left k 2
theorem PN{f l:Nat}(h:f<=l):f+(l-f)<=l:=an (Nat.add_sub_cancel' h)
theorem Mj{a n l:Nat}(h:a+(n+1)<=l):a+1+n<=l:=by rw[Nat.add_right_comm];exact h
theorem Ru{a w c x b:Nat}(h:a+(x+c)<=b)(k:w<=c):a+w+x<=b:=ak (by rw[Nat.add_assoc,Nat.add_comm w];exact Nat.add_le_add_left (Nat.add_le_add_left k x) a) h
theorem Mm{a r w:Nat}(h:a+20 * (r+1)<=900)(k:w<=3):a+w+20 * r<=900:=Ru (c:=20) h (ak k (by decide))
theorem Mq{a r w:Nat}(h:a+40 * (r+1)+200<=9900)(k:w<=4):a+w+40 * r+200<=9900:=ak (Nat.add_le_add_right (Ru (c:=40) (ao _) (ak k (by decide))) 200) h
theorem Ml{a r:Nat}(h:a+20 * (r+1)<=900):a<1000/\a+1+20 * r<=900:=⟨Nat.lt_of_le_of_lt (ak (al _ _) h) (by decide),Mm h (by decide)⟩
theorem PZ{a r:Nat}(h:a+40 * (r+1)+200<=9900):a+3+40 * r+200<=9900:=Mq h (by decide)
theorem PY{u r:Nat}(h:u+40 * r+200<=9900):u+66<9900:=
 Nat.lt_of_lt_of_le (Nat.add_lt_add_left (show 66<200 by decide) u) (ak (Nat.add_le_add_right (al u (40 * r)) 200) h)
theorem PM{n l:Nat}(h:n<=l+1)(k:l<=900):n<=1000:=ak h (ak (Nat.succ_le_succ k) (by decide))
theorem MD{f x:Nat}(h:f+(x+1)<=1000):f<=1000/\f+1+x<=1000:=⟨ak (al _ _) h,Mj h⟩
theorem PS{H k n:Nat}(h:min k H<=n)(z:n<k):H<=n:=by
 cases Nat.le_total k H with
 |inl q=>rw[Nat.min_eq_left q] at h;exact absurd z (Nat.not_lt_of_le h)
 |inr q=>rw[Nat.min_eq_right q] at h;exact h
theorem PQ{H k n:Nat}(h:H<=k)(z:¬ n<k):H<=n:=ak h (Nat.le_of_not_lt z)
noncomputable abbrev D:=PyData
set_option genCtorIdx false in
inductive V where
 |d (x:D)
 |r (n:Nat)
 |g (v:Value)
 |m (f:Addr) (n:Nat)
 |el
 |junk
 deriving Inhabited
noncomputable def V.ctorIdx(x:V):Nat:=V.casesOn x (fun _=>0) (fun _=>1) (fun _=>2) (fun _ _=>3) 4 5
set_option genCtorIdx false in
inductive Cell where
 |inst (cls:Addr) (fs:List (Nat×V))
 |list (vs:List V)
 |dlist (ds:List D)
 |dict (kvs:List (Nat×V))
 deriving Inhabited
noncomputable def Cell.ctorIdx(x:Cell):Nat:=Cell.casesOn x (fun _ _=>0) (fun _=>1) (fun _=>2) (fun _=>3)
noncomputable abbrev Hp:=List (Option Cell)
abbrev SV:=V->Hp->Prop
noncomputable abbrev aD:=List (Nat×V)
set_option genCtorIdx false in
inductive Fl where
 |next|brk
 |ret (v:V)
noncomputable def Fl.ctorIdx(x:Fl):Nat:=Fl.casesOn x 0 1 (fun _=>2)
inductive e7 where
 |add|sub|mod
inductive eY where
 |eq|ne|lt|le|gt|ge|is|isn|mem|nin
inductive Bi where
 |len|ord|chr|join|replace|count3|rfind3
theorem eF{p:Prop}(k:∀q:Prop,(p->q)->q):p:=k p fun h=>h
theorem e8{α β:Type}{a:α}{b:β}{M:α->β->Prop}(h:M a b):∀x y,x=a/\y=b->M x y:=by rintro _ _ ⟨rfl,rfl⟩;exact h
theorem Jj{α β γ:Type}{a:α}{b:β}{M:α->β->γ->Prop}(h:∀z,M a b z):∀x y z,x=a/\y=b->M x y z:=by rintro _ _ z ⟨rfl,rfl⟩;exact h z
theorem ax{α β:Type}{o:Option α}{f:α->Option β}{b:β}{p:Prop}(h:o.bind f=some b)(k:∀a,o=some a->f a=some b->p):p:=(Option.bind_eq_some_iff.mp h).elim fun a q=>k a q.1 q.2
theorem cY{α β:Type}{o:Option α}{f:α->β}{b:β}{p:Prop}(h:o.map f=some b)(k:∀a,o=some a->f a=b->p):p:=(ai h).elim fun a q=>k a q.1 q.2
theorem ay{a b:Bool}(h:(a&&b)=true):a=true/\b=true:=Bool.and_eq_true_iff.mp h
theorem aS{a b:Bool}{p:Prop}(h:(a&&b)=true)(k:a=true->b=true->p):p:=k (ay h).1 (ay h).2
theorem dJ{α:Type}{o:Option α}{f:α->Bool}{p:Prop}(h:o.any f=true)(k:∀a,o=some a->f a=true->p):p:=by
 cases o with
 |none=>cases h
 |some a=>exact k a rfl h
theorem oh{α:Type}{l:List α}{i:Nat}{a:α}(h:l[i]?=some a):i<l.length:=(List.getElem?_eq_some_iff.mp h).1
theorem OR{p:Prop}(h:true=false):p:=nomatch h
theorem nof2{p:Prop}(h:false=true):p:=nomatch h
theorem nope{α:Type}{x:α}{p:Prop}(h:none=some x):p:=nomatch h
end Mine
local macro_rules | `(tactic| nomatch $h) => `(tactic| first | exact Mine.nope $h | exact Mine.nof2 $h | cases $h:term)
namespace Mine
theorem Ep{α:Type}{x:α}{p:Prop}(h:some x=none):p:=nomatch h
noncomputable abbrev Ph:=Nat->Option (Addr×Addr)
noncomputable abbrev bY:Obj:=⟨.none,none,.freed,#[]⟩
noncomputable def aI(B:Heap)(a:Addr)(o:Obj):Heap:=
 ⟨Array.ofFn (n:=max B.objs.size (a+1)) fun i=>if i.1=a then o else (B.objs[i.1]?).getD bY,B.life⟩
theorem aU(B:Heap)(a:Addr)(o:Obj)(ho:o.isFreed=false)(b:Addr):(aI B a o).get? b=if b=a then some o else B.get? b:=by
 have hdead:∀x:Option Obj,(match (some (x.getD bY):Option Obj) with|some ⟨_,_,.freed,_⟩=>none|o=>o)=(match x with|some ⟨_,_,.freed,_⟩=>none|o=>o):=by
  intro x
  cases x with
  |none=>rfl
  |some y=>rfl
 unfold Heap.get? aI
 by_cases hb:b<max B.objs.size (a+1)
 ·have e:(Array.ofFn (n:=max B.objs.size (a+1)) fun i=>if i.1=a then o else (B.objs[i.1]?).getD bY)[b]?=some (if b=a then o else (B.objs[b]?).getD bY):=by
   rw[Array.getElem?_ofFn];simp[hb]
  dsimp only
  rw[e]
  by_cases q:b=a
  ·simp only[q,if_true]
   obtain⟨x,y,z,t⟩:=o
   cases z<;>first|rfl|(simp[Obj.isFreed] at ho)
  ·simp only[q,if_false]
   exact hdead _
 ·have e:(Array.ofFn (n:=max B.objs.size (a+1)) fun i=>if i.1=a then o else (B.objs[i.1]?).getD bY)[b]?=none:=by
   rw[Array.getElem?_ofFn];simp[hb]
  dsimp only
  rw[e]
  have hba:b≠a:=fun q=>hb (Nat.lt_of_lt_of_le (q▸Nat.lt_succ_self _) (Nat.le_max_right _ _))
  have hbs:B.objs[b]?=none:=by
   rw[Array.getElem?_eq_none];exact Nat.le_of_not_lt fun q=>hb (Nat.lt_of_lt_of_le q (Nat.le_max_left _ _))
  rw[hbs,ar hba]
def Sub(B B':Heap):Prop:=∀b o,B.get? b=some o->B'.get? b=some o
theorem Sub.refl(B:Heap):Sub B B:=fun _ _ e=>e
theorem Sub.trans{A B C:Heap}(x:Sub A B)(y:Sub B C):Sub A C:=fun b o e=>y b o (x b o e)
theorem Sub.put{B:Heap}{a:Addr}{o:Obj}(ho:o.isFreed=false)(ha:B.get? a=none):Sub B (aI B a o):=fun b o' e=>by
 rw[aU _ _ _ ho]
 by_cases q:b=a
 ·subst q;rw[ha] at e;nomatch e
 ·rw[ar q];exact e
theorem Sub.put_in{B h:Heap}{a:Addr}{o:Obj}(ho:o.isFreed=false)(x:Sub B h)(ha:h.get? a=some o):Sub (aI B a o) h:=fun b o' e=>by
 rw[aU _ _ _ ho] at e
 by_cases q:b=a
 ·subst q;rw[au rfl] at e;cases e;exact ha
 ·rw[ar q] at e;exact x b o' e
theorem aE{B:Heap}{a b:Addr}{o:Obj}(ho:o.isFreed=false)(q:b≠a):(aI B a o).get? b=B.get? b:=by
 rw[aU _ _ _ ho,ar q]
theorem aH{B:Heap}{a:Addr}{o:Obj}(ho:o.isFreed=false):(aI B a o).get? a=some o:=by
 rw[aU _ _ _ ho,au rfl]
def PSub(U U':Ph):Prop:=∀n p,U n=some p->U' n=some p
theorem PSub.refl(U:Ph):PSub U U:=fun _ _ e=>e
theorem PSub.trans{a b c:Ph}(x:PSub a b)(y:PSub b c):PSub a c:=fun n p e=>y n p (x n p e)
mutual
noncomputable def Ln:D->Bool
 |.none|.bool _|.int _=>true
 |.str x=>x.cps.all (·<0x110000)
 |.list xs=>nj xs
 |.tuple xs=>nj xs
 |.dict _=>true
noncomputable def nj:List D->Bool
 |[]=>true
 |x::xs=>Ln x&&nj xs
end
def P7(B:Heap)(a:Addr):Prop:=∃o,B.get? a=some o/\((∃xs n,o.data=.seq xs n)\/(a≠sysModules/\o.ExactDict/\∃n,o.data=.dict #[] n))
def OkAs(B:Heap)(as:List Addr):Prop:=∀a∈as,P7 B a
theorem OkAs.mono{B B':Heap}{as:List Addr}(s:Sub B B')(h:OkAs B as):OkAs B' as:=fun a ha=>(h a ha).imp fun o e=>⟨s _ _ e.1,e.2⟩
theorem OkAs.nil{B:Heap}:OkAs B []:=fun a h=>nomatch h
theorem OkAs.cons{B:Heap}{a:Addr}{as:List Addr}(h:P7 B a)(t:OkAs B as):OkAs B (a::as):=List.forall_mem_cons.mpr ⟨h,t⟩
theorem OkAs.append{B:Heap}{as bs:List Addr}(h:OkAs B as)(t:OkAs B bs):OkAs B (as++bs):=List.forall_mem_append.mpr ⟨h,t⟩
def DV(B:Heap)(v:Value)(d:D):Prop:=Ln d=true/\∃as,Reads B v d as/\OkAs B as
theorem DV.mono{B B':Heap}(s:Sub B B'){v:Value}{d:D}(x:DV B v d):DV B' v d:=
 ⟨x.1,x.2.imp fun _ r=>⟨Reads.keeps s r.1,r.2.mono s⟩⟩
def DVs(B:Heap)(vs:List Value)(ds:List D):Prop:=nj ds=true/\∃as,ReadsAll B vs ds as/\OkAs B as
theorem DVs.mono{B B':Heap}(s:Sub B B'){vs:List Value}{ds:List D}(x:DVs B vs ds):DVs B' vs ds:=
 ⟨x.1,x.2.imp fun _ r=>⟨ReadsAll.keeps s r.1,r.2.mono s⟩⟩
structure Cx where
 prog:Program
 w:World
 K:Frag
 G:Heap
 mg:Str->Option Value
 mb:Str->Option Value
 X:K.In G
 gns:G.Ns mainGlobals mg
 bns:G.Ns builtinsNs mb
 lim:G.NoLimit
 blt:∀x:Str,x ≠ "__name__" -> mb x=bootBuiltins x
 nm:Nat->Str
 E:Heap
 fr:List (Nat×Addr×D)
 frOk:∀i a d,(i,a,d)∈fr->∃v,E.IsCell a (some v)/\DV E v d
 inj:∀i j,nm i=nm j->i=j
 cs:List (Nat×Addr)
noncomputable abbrev Cx.M(c:Cx):Model:=model c.prog c.w
inductive VR(B:Heap)(U:Ph):Value->V->Prop
 |d {v:Value}{x:D}:DV B v x->VR B U v (.d x)
 |r {n:Nat}{p:Addr×Addr}:U n=some p->VR B U (.ref p.1) (.r n)
 |g (v:Value):VR B U v (.g v)
 |m {f:Addr}{n:Nat}{p:Addr×Addr}{q:Addr}:U n=some p->B.get? q=some (methodObj (.ref f) (.ref p.1))->VR B U (.ref q) (.m f n)
 |el {a:Addr}{n:Nat}:B.get? a=some (listOf #[] n)->VR B U (.ref a) .el
 |junk (v:Value):VR B U v .junk
theorem VR.mono{B B':Heap}{U U':Ph}(s:Sub B B')(p:PSub U U'){v:Value}{x:V}(h:VR B U v x):VR B' U' v x:=by
 cases h with
 |d h=>exact .d (h.mono s)
 |r h=>exact .r (p _ _ h)
 |g=>exact .g _
 |m h k=>exact .m (p _ _ h) (s _ _ k)
 |el h=>exact .el (s _ _ h)
 |junk=>exact .junk _
inductive VRs(B:Heap)(U:Ph):List Value->List V->Prop
 |nil:VRs B U [] []
 |cons {v:Value}{x:V}{vs:List Value}{xs:List V}:VR B U v x->VRs B U vs xs->VRs B U (v::vs) (x::xs)
theorem VRs.mono{B B':Heap}{U U':Ph}(s:Sub B B')(p:PSub U U')  {vs:List Value}{xs:List V}(h:VRs B U vs xs):VRs B' U' vs xs:=by
 induction h with
 |nil=>exact .nil
 |cons h _ ih=>exact .cons (h.mono s p) ih
theorem VRs.length{B:Heap}{U:Ph}  {vs:List Value}{xs:List V}(h:VRs B U vs xs):vs.length=xs.length:=by
 induction h with
 |nil=>rfl
 |cons _ _ ih=>exact congrArg Nat.succ ih
inductive FR(c:Cx)(B:Heap)(U:Ph):List DictEntry->List (Nat×V)->Prop
 |nil:FR c B U [] []
 |cons {e:DictEntry}{i:Nat}{x:V}{t:Tok}{es:List DictEntry}{fs:List (Nat×V)} :
   e.key=.str (c.nm i) t->e.hash=PyData.keyHash c.w.params (c.nm i)->VR B U e.val x->FR c B U es fs->FR c B U (e::es) ((i,x)::fs)
theorem FR.mono{c:Cx}{B B':Heap}{U U':Ph}(s:Sub B B')(p:PSub U U')  {es:List DictEntry}{fs:List (Nat×V)}(h:FR c B U es fs):FR c B' U' es fs:=by
 induction h with
 |nil=>exact .nil
 |cons h k v _ ih=>exact .cons h k (v.mono s p) ih
noncomputable def lk(i:Nat):List (Nat×V)->Option V
 |[]=>none
 |p::r=>match p.1==i with
  |true=>some p.2
  |false=>lk i r
theorem x7{i:Nat}:lk i []=none:=rfl
theorem a6{i:Nat}{p:Nat×V}{r:List (Nat×V)}:lk i (p::r)=if p.1=i then some p.2 else lk i r:=by
 show (match p.1==i with|true=>some p.2|false=>lk i r) = _
 by_cases q:p.1=i
 ·rw[au q,beq_iff_eq.mpr q]
 ·rw[ar q,beq_eq_false_iff_ne.mpr q]
inductive KR(c:Cx)(B:Heap)(U:Ph):List (Str×Value)->List (Nat×V)->Prop
 |nil:KR c B U [] []
 |cons {v:Value}{i:Nat}{x:V}{es:List (Str×Value)}{fs:List (Nat×V)}:VR B U v x->KR c B U es fs->KR c B U ((c.nm i,v)::es) ((i,x)::fs)
theorem KR.mono{c:Cx}{B B':Heap}{U U':Ph}(s:Sub B B')(p:PSub U U')  {es:List (Str×Value)}{fs:List (Nat×V)}(h:KR c B U es fs):KR c B' U' es fs:=by
 induction h with
 |nil=>exact .nil
 |cons v _ ih=>exact .cons (v.mono s p) ih
noncomputable def uH(o:Option (Option Value)):Bool:=match o with|some none=>true|_=>false
noncomputable def uG(o:Option (Option Value))(v:Value):Bool:=(o.bind id).any fun w=>w==v
theorem gS{o:Option (Option Value)}(h:uH o=true):o=some none:=by
 rcases o with _|_|v
 ·exact nof2 h
 ·rfl
 ·exact nof2 h
theorem gQ{o:Option (Option Value)}{v:Value}(h:uG o v=true):o=some (some v):=
 dJ h fun w h1 h2=>(Option.bind_eq_some_iff.mp h1).elim fun x q=>q.1.trans (congrArg some (q.2.trans (congrArg some (eq_of_beq h2))))
noncomputable def fc(K:Frag)(C:Addr):Bool:=
 hasDictIn K C&&plainOver K C&&uG (findIn K (.ref C) "__getattribute__") (.builtin "object.__getattribute__")&&uG (findIn K (.ref C) "__setattr__") (.builtin "object.__setattr__")
 && (uH (findIn K (.ref C) "__getattr__")&&(uH (findIn K (.ref C) "__bool__")&&uH (findIn K (.ref C) "__len__")))
noncomputable def gJ(K:Frag)(C:Addr)(name:Str):Bool:=uH (findIn K (.ref C) name)
section
variable {K:Frag}{C:Addr}(h:fc K C=true)
include h
theorem wz:hasDictIn K C=true:=(ay (ay (ay (ay h).1).1).1).1
theorem JA:plainOver K C=true:=(ay (ay (ay (ay h).1).1).1).2
theorem t0:findIn K (.ref C) "__getattribute__" = some (some (.builtin "object.__getattribute__")):=gQ (ay (ay (ay h).1).1).2
theorem NH:findIn K (.ref C) "__setattr__" = some (some (.builtin "object.__setattr__")):=gQ (ay (ay h).1).2
theorem Fm:findIn K (.ref C) "__getattr__" = some none:=gS (ay (ay h).2).1
theorem NI:findIn K (.ref C) "__bool__" = some none:=gS (ay (ay (ay h).2).2).1
theorem NJ:findIn K (.ref C) "__len__" = some none:=gS (ay (ay (ay h).2).2).2
end
inductive InstAt(c:Cx)(h B:Heap)(U:Ph)(p:Addr×Addr)(C:Addr)(fs:List (Nat×V)):Prop
 |mk (g:h.get? p.1=some (instObj C p.2)) (ne:p.1≠p.2) (es:List DictEntry) (k:Nat) (gd:h.get? p.2=some (dictOf es k)) (fr:FR c B U es fs) (cl:fc c.K C=true) (fo:∀i x,lk i fs=some x->gJ c.K C (c.nm i)=true)
inductive vU(h:Heap)(p:Addr×Addr)(P:List Value->Prop):Prop
 |mk (e:p.2=p.1) (vs:List Value) (k:Nat) (g:h.get? p.1=some (listOf vs.toArray k)) (v:P vs)
inductive DictAt(c:Cx)(h B:Heap)(U:Ph)(p:Addr×Addr)(fs:List (Nat×V)):Prop
 |mk (e:p.2=p.1) (ns:(p.1==sysModules)=false) (o:Obj) (es:List (Str×Value)) (g:h.get? p.1=some o) (d:o.IsDictOf (PySem.strKind c.prog c.w) es) (kr:KR c B U es fs)
def CellAt(c:Cx)(h B:Heap)(U:Ph)(p:Addr×Addr):Cell->Prop
 |.inst C fs=>InstAt c h B U p C fs
 |.list xs=>vU h p fun vs=>VRs B U vs xs
 |.dlist ds=>vU h p fun vs=>DVs B vs ds
 |.dict fs=>DictAt c h B U p fs
theorem CellAt.mono{c:Cx}{h h' B B':Heap}{U U':Ph}{p:Addr×Addr}(s:Sub B B')(q:PSub U U')(k1:∀o,h.get? p.1=some o->h'.get? p.1=some o)(k2:∀o,h.get? p.2=some o->h'.get? p.2=some o) :
  ∀{cl:Cell},CellAt c h B U p cl->CellAt c h' B' U' p cl:=by
 intro cl x
 cases cl with
 |inst=>obtain⟨a,n,es,k,b,f,g1,g2⟩:=x;exact⟨k1 _ a,n,es,k,k2 _ b,f.mono s q,g1,g2⟩
 |list=>obtain⟨e,vs,k,a,f⟩:=x;exact⟨e,vs,k,k1 _ a,f.mono s q⟩
 |dlist=>obtain⟨e,vs,k,a,f⟩:=x;exact⟨e,vs,k,k1 _ a,f.mono s⟩
 |dict=>obtain⟨e,ns,o,es,a,b,f⟩:=x;exact⟨e,ns,o,es,k1 _ a,b,f.mono s q⟩
def dD(H:Hp)(n:Nat):Prop:=∃cl,H[n]?=some (some cl)
def Bs(c:Cx)(B:Heap):Prop:=Sub c.G B/\Sub c.E B
theorem Bs.trans{c:Cx}{B B':Heap}(x:Bs c B)(s:Sub B B'):Bs c B':=⟨x.1.trans s,x.2.trans s⟩
structure Rel(c:Cx)(B Z:Heap)(U:Ph)(L:Addr)(H:Hp)(h:Heap):Prop where
 base:Bs c B
 kB:Sub B h
 kZ:Sub Z h
 cell:∀n cl,H[n]?=some (some cl)->∃p,U n=some p/\CellAt c h B U p cl
 free:∀n p,dD H n->U n=some p->(B.get? p.1=none/\B.get? p.2=none)/\(Z.get? p.1=none/\Z.get? p.2=none)/\p.1≠L/\p.2≠L
 apart:∀n n' p p',n≠n'->dD H n->dD H n'->U n=some p->U n'=some p'->p.1≠p'.1/\p.1≠p'.2/\p.2≠p'.1/\p.2≠p'.2
 dom:∀n,H.length<=n->U n=none
 LB:B.get? L=none
 LZ:Z.get? L=none
 LG:c.G.objs.size<=L
 BZ:∀b o,Z.get? b=some o->B.get? b=none
noncomputable def x6(i:Nat):List (Nat×Addr)->Option Addr
 |[]=>none
 |p::r=>match p.1==i with
  |true=>some p.2
  |false=>x6 i r
def Stands(c:Cx)(B:Heap)(mm:Str->Option Value)(i:Nat)(v:Value):Prop:=match x6 i c.cs with
 |none=>mm (c.nm i)=some v
 |some a=>B.IsCell a (some v)
theorem Stands.mono{c:Cx}{B B':Heap}{mm:Str->Option Value}{i:Nat}{v:Value}(s:Sub B B')(h:Stands c B mm i v):Stands c B' mm i v:=by
 unfold Stands at h ⊢
 cases e:x6 i c.cs with
 |none=>rw[e] at h;exact h
 |some a=>rw[e] at h;exact h.imp fun o q=>⟨s _ _ q.1,q.2⟩
theorem Stands.own{c:Cx}{B:Heap}{mm:Str->Option Value}{i:Nat}{v:Value}(e:x6 i c.cs=none):Stands c B mm i v↔mm (c.nm i)=some v:=by unfold Stands;rw[e]
theorem Stands.other{c:Cx}{B:Heap}{mm mm':Str->Option Value}{i:Nat}{v:Value}(h:Stands c B mm i v)(e:mm' (c.nm i)=mm (c.nm i)):Stands c B mm' i v:=by
 unfold Stands at h ⊢
 cases q:x6 i c.cs with
 |none=>rw[q] at h;exact e.trans h
 |some a=>rw[q] at h;exact h
theorem bR{cs:List (Nat×Addr)}(h:cs=[])(i:Nat):x6 i cs=none:=by rw[h];rfl
structure FrR(c:Cx)(B:Heap)(U:Ph)(L:Addr)(m:aD)(h:Heap):Prop where
 ex:∃mm,h.Ns L mm/\∀i x,lk i m=some x->∃v,Stands c B mm i v/\VR B U v x
theorem Rel.keep{c:Cx}{B Z:Heap}{U:Ph}{L:Addr}{H:Hp}{h h':Heap}(R:Rel c B Z U L H h)(k:∀b o,b≠L->h.get? b=some o->h'.get? b=some o):Rel c B Z U L H h' where
 base:=R.base
 kB b o e:=k b o (fun q=>by subst q;rw[R.LB] at e;nomatch e) (R.kB b o e)
 kZ b o e:=k b o (fun q=>by subst q;rw[R.LZ] at e;nomatch e) (R.kZ b o e)
 cell n cl e:=by
  obtain⟨p,hp,hc⟩:=R.cell n cl e
  obtain⟨_,_,l1,l2⟩:=R.free n p ⟨cl,e⟩ hp
  exact⟨p,hp,hc.mono (Sub.refl _) (PSub.refl _) (fun o q=>k _ o l1 q) fun o q=>k _ o l2 q⟩
 free:=R.free
 apart:=R.apart
 dom:=R.dom
 LB:=R.LB
 LZ:=R.LZ
 LG:=R.LG
 BZ:=R.BZ
theorem FrR.keep{c:Cx}{B:Heap}{U:Ph}{L:Addr}{m:aD}{h h':Heap}(F:FrR c B U L m h)(k:∀o,h.get? L=some o->h'.get? L=some o):FrR c B U L m h':=by
 obtain⟨mm,⟨o,es,ep,e,r⟩,f⟩:=F.ex
 exact⟨mm,⟨o,es,ep,k o e,r⟩,f⟩
theorem FrR.mono{c:Cx}{B B':Heap}{U U':Ph}{L:Addr}{m:aD}{h:Heap}(F:FrR c B U L m h)(s:Sub B B')(p:PSub U U'):FrR c B' U' L m h:=by
 obtain⟨mm,n,f⟩:=F.ex
 exact⟨mm,n,fun i x e=>(f i x e).imp fun v q=>⟨q.1.mono s,q.2.mono s p⟩⟩
theorem Rel.frozen{c:Cx}{B Z:Heap}{U:Ph}{L a:Addr}{H:Hp}{h h':Heap}{o:Obj}(R:Rel c B Z U L H h)(aL:a≠L)(k:∀b o,b≠L->h.get? b=some o->h'.get? b=some o)(ho:o.isFreed=false)(ha:h'.get? a=some o)(hn:h.get? a=none) :
  Rel c (aI B a o) Z U L H h'/\Sub B (aI B a o):=by
 have hB:B.get? a=none:=by
  cases q:B.get? a with
  |none=>rfl
  |some x=>have:=R.kB _ _ q;rw[hn] at this;nomatch this
 have s:Sub B (aI B a o):=Sub.put ho hB
 have ne:∀n p,dD H n->U n=some p->p.1≠a/\p.2≠a:=by
  rintro n p ⟨cl,hl⟩ hp
  obtain⟨p',hp',hc⟩:=R.cell n cl hl
  rw[hp] at hp';nomatch hp'
  constructor
  ·rintro rfl
   cases cl with
   |inst C fs=>obtain⟨q,_⟩:=hc;rw[hn] at q;nomatch q
   |list xs=>obtain⟨_,_,_,q,_⟩:=hc;rw[hn] at q;nomatch q
   |dlist ds=>obtain⟨_,_,_,q,_⟩:=hc;rw[hn] at q;nomatch q
   |dict fs=>obtain⟨_,_,_,_,q,_⟩:=hc;rw[hn] at q;nomatch q
  ·rintro rfl
   cases cl with
   |inst C fs=>obtain⟨_,_,_,_,q,_⟩:=hc;rw[hn] at q;nomatch q
   |list xs=>obtain⟨e,_,_,q,_⟩:=hc;rw[←e,hn] at q;nomatch q
   |dlist ds=>obtain⟨e,_,_,q,_⟩:=hc;rw[←e,hn] at q;nomatch q
   |dict fs=>obtain⟨e,_,_,_,q,_⟩:=hc;rw[←e,hn] at q;nomatch q
 have R1:=R.keep k
 refine⟨⟨R.base.trans s,Sub.put_in ho R1.kB ha,R1.kZ,fun n cl e=>?_,fun n p hl hp=>?_,R.apart,R.dom,?_,R.LZ,R.LG,fun b o' e=>?_⟩,s⟩
 ·obtain⟨p,hp,hc⟩:=R1.cell n cl e
  exact⟨p,hp,hc.mono s (PSub.refl _) (fun o q=>q) fun o q=>q⟩
 ·obtain⟨n1,n2⟩:=ne n p hl hp
  rw[aE ho n1,aE ho n2]
  exact R.free n p hl hp
 ·rw[aE ho (Ne.symm aL)];exact R.LB
 ·rw[aE ho (fun q=>by subst q;have:=R.kZ _ _ e;rw[hn] at this;nomatch this)];exact R.BZ b o' e
noncomputable def iO(G h:Heap)(L:Addr)(skip:Addr->Bool):List (Addr×Obj):=
 (List.range h.objs.size).filterMap fun a=>if a=L\/skip a=true then none else match G.get? a with
  |some _=>none
  |none=>(h.get? a).map fun o=>(a,o)
theorem mem_ledger{G h:Heap}{L:Addr}{skip:Addr->Bool}{p:Addr×Obj}:p∈iO G h L skip↔p.1≠L/\skip p.1=false/\G.get? p.1=none/\h.get? p.1=some p.2:=by
 unfold iO
 rw[List.mem_filterMap]
 constructor
 ·rintro ⟨a,ha,e⟩
  by_cases q:a=L\/skip a=true
  ·rw[au q] at e;nomatch e
  ·rw[ar q] at e
   cases g:G.get? a with
   |some o=>rw[g] at e;nomatch e
   |none=>
    rw[g] at e
    obtain⟨o,ho,rfl⟩:=ai e
    exact⟨fun z=>q (.inl z),by cases z:skip a with|false=>rfl|true=>exact absurd (.inr z) q,g,ho⟩
 ·rintro ⟨h1,h2,h3,h4⟩
  refine⟨p.1,List.mem_range.mpr (Heap.lt_size h4),?_⟩
  have q:¬ (p.1=L\/skip p.1=true):=by rintro (z|z);exact h1 z;rw[h2] at z;nomatch z
  rw[ar q,h3,h4];rfl
theorem pt(G h:Heap)(L:Addr)(skip:Addr->Bool):News G L h (iO G h L skip):=fun p hp=>by
 obtain⟨h1,_,h3,h4⟩:=mem_ledger.mp hp
 exact⟨h4,h1,h3⟩
def Room(r:Nat)(A:Around):Prop:=A.depth+20 * r<=900/\A.units+40 * r+200<=9900/\A.handled=none/\∃l,A.frames=some l
theorem Ro{a r n d m:Nat}(k:n<=d)(h:a+d * (r+1)<=m):a+n+d * r<=m:=by rw[Nat.add_assoc,Nat.add_comm n];exact ak (Nat.add_le_add_left (Nat.add_le_add_left k _) a) h
theorem IM{a r n:Nat}(k:Nat.ble n 20=true)(h:a+20 * (r+1)<=900):a+n+20 * r<=900:=Ro (Nat.le_of_ble_eq_true k) h
theorem IN{a r n:Nat}(k:Nat.ble n 40=true)(h:a+40 * (r+1)+200<=9900):a+n+40 * r+200<=9900:=ak (Nat.add_le_add_right (Ro (Nat.le_of_ble_eq_true k) (ao _)) 200) h
theorem Room.less{r:Nat}{A:Around}(h:Room (r+1) A):Room r A:=⟨IM (n:=0) rfl h.1,IN (n:=0) rfl h.2.1,h.2.2⟩
theorem un{a n m k:Nat}(h:a+n<k)(q:Nat.ble m n=true):a+m<k:=Nat.lt_of_le_of_lt (Nat.add_le_add_left (Nat.le_of_ble_eq_true q) a) h
inductive EndT{α β:Type}(R:Heap->Ph->α->β->Prop)(c:Cx)(B Z:Heap)(U:Ph)(L:Addr)(m:aD)(Q:β->Hp->Prop)(s:Shared)(v:α)(s':Shared):Prop
 |mk (h':Heap) (tk:Nat) (B':Heap) (U':Ph) (x:β) (H':Hp) (e:s'={ s with heap:=h',toks:=tk }) (sb:Sub B B') (ps:PSub U U') (rl:Rel c B' Z U' L H' h') (fr:FrR c B' U' L m h') (rv:R B' U' v x) (q:Q x H')
def Tr{α β:Type}(R:Heap->Ph->α->β->Prop)(c:Cx)(r:Nat)(L:Addr)(m:aD)(P:Heap->Ph->Prop)(H:Hp)(t:Sem α)(Q:β->Hp->Prop):Prop:=
 ∀A (E:SU) s B Z U,Room r A->1<=s.toks->Rel c B Z U L H s.heap->FrR c B U L m s.heap->P B U->wpAny c.M A t (fun v s'=>EndT R c B Z U L m Q s v s') E s
def Mono(P:Heap->Ph->Prop):Prop:=∀B B' U U',Sub B B'->PSub U U'->P B U->P B' U'
section
variable {α β γ δ:Type}{R:Heap->Ph->α->β->Prop}{R':Heap->Ph->γ->δ->Prop}{c:Cx}{r:Nat}{L:Addr}{m:aD}{P P':Heap->Ph->Prop}{H:Hp}
theorem EndT.trans{B B' Z:Heap}{U U':Ph}{Q:δ->Hp->Prop}{s s₁ s₂:Shared}{v:γ}{h':Heap}{tk:Nat}(e:s₁={ s with heap:=h',toks:=tk })(b:Sub B B')(p:PSub U U')(x:EndT R' c B' Z U' L m Q s₁ v s₂):EndT R' c B Z U L m Q s v s₂:=by
 obtain⟨h2,t2,B2,U2,y,H2,e2,b2,p2,r1,r2,r3,r4⟩:=x
 exact⟨h2,t2,B2,U2,y,H2,by rw[e2,e],b.trans b2,p.trans p2,r1,r2,r3,r4⟩
theorem Tr.run{t:Sem α}{Q:β->Hp->Prop}(h:Tr R c r L m P H t Q){A:Around}{E:SU}{s:Shared}{B Z:Heap}{U:Ph}(hA:Room r A)(ht:1<=s.toks)(hR:Rel c B Z U L H s.heap)(hF:FrR c B U L m s.heap)(hp:P B U){K:α->Shared->Prop}
  (k:∀v h' tk B' U' x H',1<=tk->Sub B B'->PSub U U'->Rel c B' Z U' L H' h'->FrR c B' U' L m h'->R B' U' v x->Q x H'->K v { s with heap:=h',toks:=tk }):wpAny c.M A t K E s:=by
 refine wpAny_mono (wpAny_toks_of ht (h A E s B Z U hA ht hR hF hp)) ?_ fun _ _ x=>x.2
 rintro v s' ⟨ht',h',tk,B',U',x,H',rfl,b,p,R1,F1,rv,q⟩
 exact k v h' tk B' U' x H' ht' b p R1 F1 rv q
theorem Tr.bind{t:Sem α}{k:α->Sem γ}{Q:δ->Hp->Prop}(hP:Mono P)(h:Tr R c r L m P H t fun x H'=>∀v,Tr R' c r L m (fun B U=>P B U/\R B U v x) H' (k v) Q):Tr R' c r L m P H (t >>= k) Q:=by
 intro A E s B Z U hA ht hR hF hp
 refine wpAny_bind (h.run hA ht hR hF hp fun v h' tk B' U' x H' ht' b p R1 F1 rv q=>?_)
 exact wpAny_mono (q v A E _ B' Z U' hA ht' R1 F1 ⟨hP _ _ _ _ b p hp,rv⟩) (fun v' s'' z=>z.trans rfl b p) fun _ _ x=>x
theorem Tr.mono{t:Sem α}{Q Q':β->Hp->Prop}(h:Tr R c r L m P H t Q)(hq:∀x H',Q x H'->Q' x H'):Tr R c r L m P H t Q':=by
 intro A E s B Z U hA ht hR hF hp
 refine wpAny_mono (h A E s B Z U hA ht hR hF hp) ?_ fun _ _ x=>x
 rintro v s' ⟨h',tk,B',U',x,H',e,b,p,R1,F1,rv,q⟩
 exact⟨h',tk,B',U',x,H',e,b,p,R1,F1,rv,hq _ _ q⟩
theorem Tr.weak{t:Sem α}{Q:β->Hp->Prop}(h:Tr R c r L m P H t Q)(hp:∀B U,P' B U->P B U):Tr R c r L m P' H t Q:=
 fun A E s B Z U hA ht hR hF k=>h A E s B Z U hA ht hR hF (hp _ _ k)
theorem Tr.pure{v:α}{x:β}{Q:β->Hp->Prop}(hv:∀B U,P B U->R B U v x)(q:Q x H):Tr R c r L m P H (Pure.pure v) Q:=
 fun A E s B Z U _ ht hR hF hp=>wpAny_pure ⟨s.heap,s.toks,B,U,x,H,rfl,Sub.refl _,PSub.refl _,hR,hF,hv _ _ hp,q⟩
theorem Tr.holding{vs:List Value}{t:Sem α}{Q:β->Hp->Prop}(h:Tr R c r L m P H t Q):Tr R c r L m P H (PySem.holding vs t) Q:=
 fun A E s B Z U hA ht hR hF hp=>wpAny_holding (h A E s B Z U hA ht hR hF hp)
theorem Tr.operate{vs:List Value}{t:Sem Value}{R:Heap->Ph->Value->β->Prop}{Q:β->Hp->Prop}(h:Tr R c r L m P H t Q):Tr R c r L m P H (PySem.operate vs t) Q:=
 fun A E s B Z U hA ht hR hF hp=>wpAny_operate' (h A E s B Z U hA ht hR hF hp)
def tS(t:Sem Unit):Prop:=∀(M:Model) (A:Around) (E:SU) (s:Shared) (Q:Unit->Shared->Prop),Q () s->wpAny M A t Q E s
theorem Tr.skip{t:Sem Unit}{k:Unit->Sem α}{Q:β->Hp->Prop}(hs:tS t)(h:Tr R c r L m P H (k ()) Q):Tr R c r L m P H (t >>= k) Q:=
 fun A E s B Z U hA ht hR hF hp=>wpAny_bind (hs _ _ _ _ _ (h A E s B Z U hA ht hR hF hp))
theorem aw(p:Pos):tS (standAt p):=fun _ _ _ _ _ h=>wpAny_standAt h
theorem b5(vs ks:List Value):tS (release vs ks):=fun _ _ _ _ _ h=>wpAny_release' h
end
noncomputable def lP(i:Nat):List (Nat×Addr×D)->Option (Addr×D)
 |[]=>none
 |p::r=>match p.1==i with
  |true=>some p.2
  |false=>lP i r
theorem Co{i:Nat}{p:Addr×D}{l:List (Nat×Addr×D)}(e:lP i l=some p):(i,p)∈l:=by
 induction l with
 |nil=>nomatch e
 |cons q r ih=>
  have e:(match q.1==i with|true=>some q.2|false=>lP i r)=some p:=e
  cases h:q.1==i with
  |true=>
   rw[h] at e
   cases e
   rw[←eq_of_beq h];exact List.mem_cons_self ..
  |false=>rw[h] at e;exact ad _ (ih e)
noncomputable def cI:NameKind->Bool
 |.cell=>true
 |.free=>true
 |_=>false
structure aZ(c:Cx)(sc:Scope)(L:Addr)(env:Env):Prop where
 scope:env.scope=sc
 locals:env.locals=L
 globals:env.globals=mainGlobals
 builtins:env.builtins=builtinsNs
 kind:sc.kind=.function
 cells:∀i p,lP i c.fr=some p->(sc.names.lookup (c.nm i)).any cI=true->env.cells.lookup (c.nm i)=some p.1
 cs1:∀i,sc.names.lookup (c.nm i)=some .local->x6 i c.cs=none
 cs2:∀i,c.cs≠[]->sc.names.lookup (c.nm i)=some .cell->∃a,x6 i c.cs=some a/\env.cells.lookup (c.nm i)=some a
section
variable {c:Cx}{r:Nat}{L:Addr}{m:aD}{P:Heap->Ph->Prop}{H:Hp}{env:Env}{sc:Scope}
theorem Rel.kIn{B Z:Heap}{U:Ph}{h:Heap}(R:Rel c B Z U L H h):c.K.In h:=c.X.keeps (R.base.1.trans R.kB)
theorem aM{α β:Type}{R:Heap->Ph->α->β->Prop}{B Z:Heap}{U:Ph}{Q:β->Hp->Prop}{s:Shared}{tk:Nat}{v:α}{x:β}(hR:Rel c B Z U L H s.heap)(hF:FrR c B U L m s.heap)(hv:R B U v x)(q:Q x H) :
  EndT R c B Z U L m Q s v { s with toks:=tk }:=⟨s.heap,tk,B,U,x,H,rfl,Sub.refl _,PSub.refl _,hR,hF,hv,q⟩
theorem DV.none{B:Heap}:DV B .none .none:=⟨rfl,_,.none,.nil⟩
theorem DV.bool{B:Heap}(b:Bool):DV B (.bool b) (.bool b):=⟨rfl,_,.bool b,.nil⟩
theorem DV.int{B:Heap}(i:Int)(t:Tok):DV B (.int i t) (.int i):=⟨rfl,_,.int i t,.nil⟩
theorem DV.str{B:Heap}(x:Str)(t:Tok)(h:x.cps.all (·<0x110000)=true):DV B (.str x t) (.str x):=⟨by exact h,_,.str x t,.nil⟩
theorem DV.str_ok{B:Heap}{v:Value}{x:Str}(h:DV B v (.str x)):∃t,v=.str x t/\x.cps.all (·<0x110000)=true:=by
 obtain⟨h1,as,h2,_⟩:=h
 cases h2
 exact⟨_,rfl,by exact h1⟩
theorem DV.int_of{B:Heap}{v:Value}{i:Int}(h:DV B v (.int i)):∃t,v=.int i t:=by
 obtain⟨h1,as,h2,_⟩:=h
 cases h2
 exact⟨_,rfl⟩
theorem DV.bool_of{B:Heap}{v:Value}{i:Bool}(h:DV B v (.bool i)):v=.bool i:=by
 obtain⟨h1,as,h2,_⟩:=h
 cases h2
 rfl
theorem DV.none_of{B:Heap}{v:Value}(h:DV B v .none):v=.none:=by
 obtain⟨h1,as,h2,_⟩:=h
 cases h2
 rfl
noncomputable def JB:Const->Option D
 |.none=>some .none
 |.bool b=>some (.bool b)
 |.int i=>some (.int i)
 |.str x=>if x.cps.all (·<0x110000) then some (.str x) else none
 |_=>none
theorem kW{k:Const}{d:D}{n:Nat}{p:Pos}{Q:SV}(e:JB k=some d)(q:Q (.d d) H):Tr VR c r L m P H (eval (.Constant k n p) env) Q:=by
 intro A E s B Z U hA ht hR hF hp
 cases k with
 |none=>cases e;exact wpAny_pure (aM (tk:=s.toks) hR hF (.d DV.none) q)
 |bool=>cases e;exact wpAny_pure (aM (tk:=s.toks) hR hF (.d (DV.bool _)) q)
 |int=>cases e;exact wpAny_mkInt (aM hR hF (.d (DV.int _ _)) q)
 |str x=>
  by_cases hx:x.cps.all (·<0x110000)=true
  ·cases (au hx).symm.trans e
   exact wpAny_mkText (aM hR hF (.d (DV.str _ _ hx)) q)
  ·cases (ar hx).symm.trans e
 |_=>nomatch e
theorem z7{i:Nat}{x:V}{p:Pos}{Q:SV}(hE:aZ c sc L env)(hl:sc.names.lookup (c.nm i)=some .local)(hd:(c.nm i==("__debug__":Str))=false)(e:lk i m=some x)(q:Q x H) :
  Tr VR c r L m P H (eval (.Name (c.nm i) p) env) Q:=by
 intro A E s B Z U hA ht hR hF hp
 obtain⟨mm,hn,hm⟩:=hF.ex
 obtain⟨v,hv,rv⟩:=hm i x e
 refine wpAny_Name (wpAny_loadName_local (m:=mm) (by rw[hE.scope];exact hE.kind) (by unfold Env.kindOf;rw[hE.scope];exact hl) (by rw[hE.locals];exact hn) ((Stands.own (hE.cs1 i hl)).mp hv) ?_) hd
 exact aM (tk:=s.toks) hR hF rv q
theorem z4{i:Nat}{x:V}{p:Pos}{Q:SV}(hE:aZ c sc L env)(hs:c.cs≠[])(hl:sc.names.lookup (c.nm i)=some .cell)(hd:(c.nm i==("__debug__":Str))=false)(e:lk i m=some x)(q:Q x H) :
  Tr VR c r L m P H (eval (.Name (c.nm i) p) env) Q:=by
 intro A E s B Z U hA ht hR hF hp
 obtain⟨mm,hn,hm⟩:=hF.ex
 obtain⟨v,hv,rv⟩:=hm i x e
 obtain⟨a,ha,hc⟩:=hE.cs2 i hs hl
 unfold Stands at hv
 rw[ha] at hv
 obtain⟨o,ho,hdt⟩:=hv
 exact wpAny_Name (wpAny_loadName_cell (by rw[hE.scope];exact hE.kind) (by unfold Env.kindOf;rw[hE.scope];exact hl) hc ⟨o,hR.kB _ _ ho,hdt⟩ (aM (tk:=s.toks) hR hF rv q)) hd
theorem Id{i:Nat}{p:Addr×D}{ps:Pos}{Q:SV}(hE:aZ c sc L env)(hl:(sc.names.lookup (c.nm i)).any cI=true)(hd:(c.nm i==("__debug__":Str))=false)(hn:(c.nm i==("__classdict__":Str))=false)(e:lP i c.fr=some p)(q:Q (.d p.2) H) :
  Tr VR c r L m P H (eval (.Name (c.nm i) ps) env) Q:=by
 intro A E s B Z U hA ht hR hF hp
 obtain⟨v,⟨o,ho,hdt⟩,dv⟩:=c.frOk i p.1 p.2 (Co e)
 have hv:s.heap.IsCell p.1 (some v):=⟨o,hR.kB _ _ (hR.base.2 _ _ ho),hdt⟩
 have done:EndT VR c B Z U L m Q s v { s with toks:=s.toks }:=aM hR hF (.d (dv.mono hR.base.2)) q
 have hc:=hE.cells i p e hl
 have hk:env.scope.kind=.function:=by rw[hE.scope];exact hE.kind
 cases hz:sc.names.lookup (c.nm i) with
 |none=>rw[hz] at hl;exact nof2 hl
 |some k=>
  rw[hz] at hl
  cases k with
  |cell=>exact wpAny_Name (wpAny_loadName_cell hk (by unfold Env.kindOf;rw[hE.scope];exact hz) hc hv done) hd
  |free=>exact wpAny_Name (wpAny_loadName_free hk (by unfold Env.kindOf;rw[hE.scope];exact hz) hc hv done hn) hd
  |_=>exact nof2 hl
theorem ma{x:Str}{v:Value}{y:V}{p:Pos}{Q:SV}(hE:aZ c sc L env)(hl:sc.names.lookup x=some .globalImplicit)(hd:(x==("__debug__":Str))=false)(e:c.mg x=some v)(hv:∀B U,Sub c.G B->VR B U v y)(q:Q y H) :
  Tr VR c r L m P H (eval (.Name x p) env) Q:=by
 intro A E s B Z U hA ht hR hF hp
 refine Name_function_global (by rw[hE.scope];exact hE.kind) (by unfold Env.kindOf;rw[hE.scope];exact hl) (loadGlobal_global (mg:=c.mg) (by rw[hE.globals];exact c.gns.keeps (hR.base.1.trans hR.kB)) e ?_) hd
 exact aM (tk:=s.toks) hR hF (hv _ _ hR.base.1) q
end
section
variable {c:Cx}{r:Nat}{L:Addr}{m:aD}{P:Heap->Ph->Prop}{H:Hp}{env:Env}{sc:Scope}{B Z h h':Heap}{U:Ph}
theorem D6{mm:Str->Option Value}(hR:Rel c B Z U L H h)(hn:h.Ns L mm):Fr c.G L h mm:=⟨hn,hR.base.1.trans hR.kB,hR.LG⟩
noncomputable abbrev qX:Addr->Bool:=fun _=>false
noncomputable def dE(U:Ph)(n:Nat)(p:Addr×Addr):Ph:=fun k=>if k=n then some p else U k
theorem iZ{n:Nat}{p:Addr×Addr}(h:U n=none):PSub U (dE U n p):=fun k q e=>by
 unfold dE
 by_cases z:k=n
 ·subst z;rw[h] at e;nomatch e
 ·rw[ar z];exact e
theorem fM{cl:Cell}{n:Nat}(h:dD (H++[some cl]) n):n=H.length\/(dD H n/\n<H.length):=by
 obtain⟨x,e⟩:=h
 rw[List.getElem?_append] at e
 by_cases z:n<H.length
 ·rw[au z] at e;exact .inr ⟨⟨x,e⟩,z⟩
 ·rw[ar z] at e
  left
  cases q:n-H.length with
  |zero=>exact I8 ‹_› ‹_›
  |succ k=>rw[q] at e;simp at e
theorem eb{p:Addr×Addr}{cl:Cell}(x:CellAt c h B U p cl):(∃o,h.get? p.1=some o)/\∃o,h.get? p.2=some o:=by
 cases cl with
 |inst C fs=>obtain⟨a,_,_,_,b,_⟩:=x;exact⟨⟨_,a⟩,_,b⟩
 |list xs=>obtain⟨e,_,_,a,_⟩:=x;exact⟨⟨_,a⟩,_,by rw[e];exact a⟩
 |dlist ds=>obtain⟨e,_,_,a,_⟩:=x;exact⟨⟨_,a⟩,_,by rw[e];exact a⟩
 |dict fs=>obtain⟨e,_,_,_,a,_⟩:=x;exact⟨⟨_,a⟩,_,by rw[e];exact a⟩
theorem Rel.new_cell{p:Addr×Addr}{cl:Cell}(R:Rel c B Z U L H h)(k:∀b o,b≠L->h.get? b=some o->h'.get? b=some o)(n1:h.get? p.1=none)(n2:h.get? p.2=none)(l1:p.1≠L)(l2:p.2≠L)
  (hc:CellAt c h' B (dE U H.length p) p cl):Rel c B Z (dE U H.length p) L (H++[some cl]) h'/\PSub U (dE U H.length p):=by
 have R1:=R.keep k
 have s:=iZ (U:=U) (p:=p) (R.dom _ (ao _))
 have off:∀X:Heap,Sub X h->X.get? p.1=none/\X.get? p.2=none:=fun X sx=>by
  constructor
  ·cases q:X.get? p.1 with
   |none=>rfl
   |some o=>have:=sx _ _ q;rw[n1] at this;nomatch this
  ·cases q:X.get? p.2 with
   |none=>rfl
   |some o=>have:=sx _ _ q;rw[n2] at this;nomatch this
 have apart:∀n q,dD H n->U n=some q->q.1≠p.1/\q.1≠p.2/\q.2≠p.1/\q.2≠p.2:=by
  rintro n q ⟨x,hx⟩ hq
  obtain⟨q',hq',hcl⟩:=R.cell n x hx
  rw[hq] at hq';nomatch hq'
  obtain⟨⟨o1,e1⟩,o2,e2⟩:=eb hcl
  refine⟨?_,?_,?_,?_⟩<;>intro z
  ·rw[z,n1] at e1;nomatch e1
  ·rw[z,n2] at e1;nomatch e1
  ·rw[z,n1] at e2;nomatch e2
  ·rw[z,n2] at e2;nomatch e2
 have here:dE U H.length p H.length=some p:=by unfold dE;rw[au rfl]
 have there:∀n,n<H.length->dE U H.length p n=U n:=fun n hn=>by unfold dE;rw[ar (Nat.ne_of_lt hn)]
 refine⟨⟨R.base,R1.kB,R1.kZ,fun n x e=>?_,fun n q hl hq=>?_,fun n n' q q' hne hl hl' hq hq'=>?_,fun n hn=>?_,R.LB,R.LZ,R.LG,R.BZ⟩,s⟩
 ·rw[List.getElem?_append] at e
  by_cases z:n<H.length
  ·rw[au z] at e
   obtain⟨q,hq,hcl⟩:=R1.cell n x e
   exact⟨q,s _ _ hq,hcl.mono (Sub.refl _) s (fun _ e=>e) fun _ e=>e⟩
  ·rw[ar z] at e
   have hn:n=H.length:=by
    cases w:n-H.length with
    |zero=>exact I8 ‹_› ‹_›
    |succ k=>rw[w] at e;simp at e
   subst hn
   simp at e
   subst e
   exact⟨p,here,hc⟩
 ·rcases fM hl with rfl|⟨hl,hn⟩
  ·rw[here] at hq;nomatch hq
   exact⟨off B R.kB,off Z R.kZ,l1,l2⟩
  ·rw[there n hn] at hq
   exact R.free n q hl hq
 ·rcases fM hl with rfl|⟨hl,hn⟩
  ·rcases fM hl' with rfl|⟨hl',hn'⟩
   ·exact absurd rfl hne
   ·rw[here] at hq;nomatch hq
    rw[there n' hn'] at hq'
    obtain⟨a,b,d,e⟩:=apart n' q' hl' hq'
    exact⟨Ne.symm a,Ne.symm d,Ne.symm b,Ne.symm e⟩
  ·rw[there n hn] at hq
   rcases fM hl' with rfl|⟨hl',hn'⟩
   ·rw[here] at hq';nomatch hq'
    exact apart n q hl hq
   ·rw[there n' hn'] at hq'
    exact R.apart n n' q q' hne hl hl' hq hq'
 ·rw[ae,List.length_singleton] at hn
  unfold dE
  rw[ar (Nat.ne_of_gt hn)]
  exact R.dom n (Nat.le_of_succ_le hn)
theorem aG:h.get? h.objs.size=none:=by
 cases q:h.get? h.objs.size with
 |none=>rfl
 |some o=>exact absurd (Heap.lt_size q) (Nat.lt_irrefl _)
theorem ba(o:Obj):∀b x,b≠L->h.get? b=some x->(h.push o).get? b=some x:=fun b x _ e=>Heap.get?_push_of_some _ e
theorem FrR.keepL{B:Heap}{mm:Str->Option Value}(f:∀i x,lk i m=some x->∃v,Stands c B mm i v/\VR B U v x)(F:Fr c.G L h' mm):FrR c B U L m h':=⟨mm,F.ns,f⟩
theorem DVs.nil:DVs B [] []:=⟨rfl,_,.nil,.nil⟩
theorem DVs.cons{v:Value}{d:D}{vs:List Value}{ds:List D}(a:DV B v d)(b:DVs B vs ds):DVs B (v::vs) (d::ds):=by
 obtain⟨a1,as,a2,a3⟩:=a
 obtain⟨b1,bs,b2,b3⟩:=b
 exact⟨by rw[nj];rw[a1,b1];rfl,_,.cons a2 b2,a3.append b3⟩
theorem DVs.uncons{vs:List Value}{d:D}{ds:List D}(a:DVs B vs (d::ds)):∃v ws,vs=v::ws/\DV B v d/\DVs B ws ds:=by
 obtain⟨a1,as,a2,a9⟩:=a
 rw[nj] at a1
 refine aS a1 fun a1 a3=>?_
 cases a2 with
 |cons x y=>exact⟨_,_,rfl,⟨a1,_,x,fun a h=>a9 a (List.mem_append_left _ h)⟩,a3,_,y,fun a h=>a9 a (List.mem_append_right _ h)⟩
theorem DVs.unnil{vs:List Value}(a:DVs B vs []):vs=[]:=by
 obtain⟨_,_,a2,_⟩:=a
 cases a2;rfl
theorem DVs.length:∀{ds:List D}{vs:List Value},DVs B vs ds->vs.length=ds.length:=by
 intro ds
 induction ds with
 |nil=>intro vs a;rw[a.unnil];rfl
 |cons d ds ih=>intro vs a;obtain⟨v,ws,rfl,_,y⟩:=a.uncons;rw[ag,ag,ih y]
theorem DVs.append:∀{ds:List D}{vs ws:List Value}{es:List D},DVs B vs ds->DVs B ws es->DVs B (vs++ws) (ds++es):=by
 intro ds
 induction ds with
 |nil=>intro vs ws es a b;rw[a.unnil];exact b
 |cons d ds ih=>intro vs ws es a b;obtain⟨v,us,rfl,x,y⟩:=a.uncons;exact .cons x (ih y b)
theorem DVs.get:∀{ds:List D}{vs:List Value}{k:Nat}{d:D},DVs B vs ds->ds[k]?=some d->∃v,vs[k]?=some v/\DV B v d:=by
 intro ds
 induction ds with
 |nil=>intro vs k d _ e;nomatch e
 |cons x ds ih=>
  intro vs k d a e
  obtain⟨v,us,rfl,p,q⟩:=a.uncons
  cases k with
  |zero=>cases e;exact⟨v,rfl,p⟩
  |succ k=>exact ih (vs:=us) (k:=k) q e
theorem DV.list_at{a:Addr}{vs:List Value}{n:Nat}{ds:List D}(h:B.get? a=some (listOf vs.toArray n))(x:DVs B vs ds):DV B (.ref a) (.list ds):=
 ⟨by exact x.1,by obtain⟨_,as,y,z⟩:=x;exact⟨_,.list h rfl rfl (by simpa using y),OkAs.cons ⟨_,h,.inl ⟨_,_,rfl⟩⟩ z⟩⟩
theorem DV.tuple_at{a:Addr}{vs:List Value}{n:Nat}{ds:List D}(h:B.get? a=some ({ cls:=.type "tuple", data:=.seq vs.toArray n }:Obj))(x:DVs B vs ds):DV B (.ref a) (.tuple ds):=
 ⟨by exact x.1,by obtain⟨_,as,y,z⟩:=x;exact⟨_,.tuple h rfl rfl (by simpa using y),z⟩⟩
theorem DV.list_of{v:Value}{ds:List D}(x:DV B v (.list ds)):∃a o vs n,v=.ref a/\B.get? a=some o/\o.cls=.type "list" /\ o.data=.seq (vs:List Value).toArray n/\DVs B vs ds:=by
 obtain⟨x1,as,x2,x3⟩:=x
 cases x2 with
 |list h1 h2 h3 h4=>exact⟨_,_,_,_,rfl,h1,h2,by rw[h3],by exact x1,_,h4,(List.forall_mem_cons.mp x3).2⟩
theorem DV.tuple_of{v:Value}{ds:List D}(x:DV B v (.tuple ds)):∃a o vs n,v=.ref a/\B.get? a=some o/\o.cls=.type "tuple" /\ o.data=.seq (vs:List Value).toArray n/\DVs B vs ds:=by
 obtain⟨x1,as,x2,x3⟩:=x
 cases x2 with
 |tuple h1 h2 h3 h4=>exact⟨_,_,_,_,rfl,h1,h2,by rw[h3],by exact x1,_,h4,x3⟩
theorem p7{vs:List Value}{ds:List D}{Q:SV}(hv:∀B U,P B U->DVs B vs ds)(hz:ds.length<=16777216)(q:Q (.d (.tuple ds)) H):Tr VR c r L m P H (newTuple vs) Q:=by
 intro A E s B Z U hA ht hR hF hp
 have x:=hv _ _ hp
 refine wpAny_newTuple ?_ (by rw[x.length];exact hz)
 obtain⟨mm,hn,f⟩:=hF.ex
 have aL:s.heap.objs.size≠L:=Nat.ne_of_gt hn.lt
 have g:(s.heap.push ({ cls:=.type "tuple", data:=.seq vs.toArray }:Obj)).get? s.heap.objs.size=some ({ cls:=.type "tuple", data:=.seq vs.toArray }:Obj):=Heap.get?_push_size _ rfl
 obtain⟨R1,S1⟩:=hR.frozen aL (ba _) rfl g aG
 exact⟨_,s.toks,_,U,_,H,rfl,S1,PSub.refl _,R1,(hF.keep (fun o e=>Heap.get?_push_of_some _ e)).mono S1 (PSub.refl _),.d (DV.tuple_at (aH rfl) (x.mono S1)),q⟩
theorem pY{vs:List Value}{ds:List D}{Q:SV}(hv:∀B U,P B U->DVs B vs ds)(hz:ds.length<=16777216)(q:Q (.d (.list ds)) H):Tr VR c r L m P H (newList vs) Q:=by
 intro A E s B Z U hA ht hR hF hp
 have x:=hv _ _ hp
 refine wpAny_newList ?_ (by rw[x.length];exact hz)
 obtain⟨mm,hn,f⟩:=hF.ex
 have aL:s.heap.objs.size≠L:=Nat.ne_of_gt hn.lt
 have g:(s.heap.push ({ cls:=.type "list", data:=.seq vs.toArray }:Obj)).get? s.heap.objs.size=some ({ cls:=.type "list", data:=.seq vs.toArray }:Obj):=Heap.get?_push_size _ rfl
 obtain⟨R1,S1⟩:=hR.frozen aL (ba _) rfl g aG
 exact⟨_,s.toks,_,U,_,H,rfl,S1,PSub.refl _,R1,(hF.keep (fun o e=>Heap.get?_push_of_some _ e)).mono S1 (PSub.refl _),.d (DV.list_at (n:=0) (aH rfl) (x.mono S1)),q⟩
theorem z8{Q:SV}(q:Q .el H):Tr VR c r L m P H (newList []) Q:=by
 intro A E s B Z U hA ht hR hF hp
 refine wpAny_newList ?_ (Nat.zero_le _)
 obtain⟨mm,hn,f⟩:=hF.ex
 have g:(s.heap.push ({ cls:=.type "list", data:=.seq #[] }:Obj)).get? s.heap.objs.size=some ({ cls:=.type "list", data:=.seq #[] }:Obj):=Heap.get?_push_size _ rfl
 obtain⟨R1,S1⟩:=hR.frozen (Nat.ne_of_gt hn.lt) (ba _) rfl g aG
 exact⟨_,s.toks,_,U,_,H,rfl,S1,PSub.refl _,R1,(hF.keep (fun o e=>Heap.get?_push_of_some _ e)).mono S1 (PSub.refl _),.el (n:=0) (aH rfl),q⟩
theorem f6{cl:Cell}{vs:List Value}{A:Around}{E:SU}{s:Shared}{Q:SV}(hR:Rel c B Z U L H s.heap)(hF:FrR c B U L m s.heap)(hz:vs.length<=16777216)
  (hc:∀h' U' p,PSub U U'->p.2=p.1->h'.get? p.1=some (listOf vs.toArray 0)->CellAt c h' B U' p cl)(q:Q (.r H.length) (H++[some cl])):wpAny c.M A (newList vs) (fun v s'=>EndT VR c B Z U L m Q s v s') E s:=by
 refine wpAny_newList ?_ hz
 obtain⟨mm,hn,f⟩:=hF.ex
 have aL:s.heap.objs.size≠L:=Nat.ne_of_gt hn.lt
 have g:(s.heap.push ({ cls:=.type "list", data:=.seq vs.toArray }:Obj)).get? s.heap.objs.size=some ({ cls:=.type "list", data:=.seq vs.toArray }:Obj):=Heap.get?_push_size _ rfl
 have s1:=iZ (U:=U) (p:=(s.heap.objs.size,s.heap.objs.size)) (hR.dom _ (ao _))
 obtain⟨R1,S1⟩:=hR.new_cell (p:=(s.heap.objs.size,s.heap.objs.size)) (cl:=cl) (h':=s.heap.push ({ cls:=.type "list", data:=.seq vs.toArray }:Obj)) (ba _) aG aG aL aL (hc _ _ _ s1 rfl g)
 refine⟨_,s.toks,B,_,_,_,rfl,Sub.refl _,S1,R1,(hF.keep (fun o e=>Heap.get?_push_of_some _ e)).mono (Sub.refl _) S1,?_,q⟩
 exact .r (p:=(s.heap.objs.size,s.heap.objs.size)) (by unfold dE;rw[au rfl])
theorem pX{vs:List Value}{ds:List D}{Q:SV}(hv:∀B U,P B U->DVs B vs ds)(hz:ds.length<=16777216)(q:Q (.r H.length) (H++[some (.dlist ds)])):Tr VR c r L m P H (newList vs) Q:=by
 intro A E s B Z U hA ht hR hF hp
 have x:=hv _ _ hp
 exact f6 (cl:=.dlist ds) hR hF (by rw[x.length];exact hz) (fun h' U' p _ e g=>⟨e,vs,0,g,x⟩) q
theorem pZ{vs:List Value}{xs:List V}{Q:SV}(hv:∀B U,P B U->VRs B U vs xs)(hz:xs.length<=16777216)(q:Q (.r H.length) (H++[some (.list xs)])):Tr VR c r L m P H (newList vs) Q:=by
 intro A E s B Z U hA ht hR hF hp
 have x:=hv _ _ hp
 exact f6 (cl:=.list xs) hR hF (by rw[x.length];exact hz) (fun h' U' p s e g=>⟨e,vs,0,g,x.mono (Sub.refl _) s⟩) q
end
mutual
noncomputable def b7:Nat->D->Bool
 |0,.none|0,.bool _|0,.int _|0,.str _=>true
 |_+1,.none|_+1,.bool _|_+1,.int _|_+1,.str _=>true
 |0,.list _|0,.tuple _|0,.dict _|_+1,.dict _=>false
 |n+1,.list xs=>bK n xs
 |n+1,.tuple xs=>bK n xs
noncomputable def bK:Nat->List D->Bool
 |_,[]=>true
 |n,x::xs=>b7 n x&&bK n xs
end
mutual
theorem dL:∀(n:Nat) (d:D),b7 n d=true->Ln d=true->d.canLay0=true/\d.depth<=n
 |0,.none,_,_|0,.bool _,_,_|0,.int _,_,_=>⟨rfl,Nat.zero_le _⟩
 |0,.str x,_,h=>⟨by unfold PyData.canLay0;exact h,Nat.zero_le _⟩
 |_+1,.none,_,_|_+1,.bool _,_,_|_+1,.int _,_,_=>⟨rfl,Nat.zero_le _⟩
 |_+1,.str x,_,h=>⟨by unfold PyData.canLay0;exact h,Nat.zero_le _⟩
 |0,.list xs,h,_|0,.tuple xs,h,_|0,.dict _,h,_|_+1,.dict _,h,_=>nof2 h
 |n+1,.list xs,h,k=>by
  have:=di n xs h k
  unfold PyData.canLay0 PyData.depth
  exact⟨this.1,Nat.succ_le_succ this.2⟩
 |n+1,.tuple xs,h,k=>by
  have:=di n xs h k
  unfold PyData.canLay0 PyData.depth
  exact⟨this.1,Nat.succ_le_succ this.2⟩
theorem di:∀(n:Nat) (ds:List D),bK n ds=true->nj ds=true->PyData.canLayAll0 ds=true/\PyData.depthAll ds<=n
 |_,[],_,_=>⟨rfl,Nat.zero_le _⟩
 |n,x::xs,h,k=>by
  rw[bK] at h
  rw[nj] at k
  refine aS h fun h1 h2=>?_
  refine aS k fun k1 k2=>?_
  have a:=dL n x h1 k1
  have b:=di n xs h2 k2
  unfold PyData.canLayAll0 PyData.depthAll
  rw[a.1,b.1]
  exact⟨rfl,Nat.max_le.mpr ⟨a.2,b.2⟩⟩
end
theorem dW{d:D}(h:b7 30 d=true)(k:Ln d=true):SeqAt.shaped d=true:=by
 have:=dL 30 d h k
 unfold SeqAt.shaped
 rw[this.1,decide_eq_true (ak this.2 (by decide))];rfl
theorem DV.dict_of{B:Heap}{v:Value}(x:DV B v (.dict [])):∃a o n,v=.ref a/\a≠sysModules/\B.get? a=some o/\o.ExactDict/\o.data=.dict #[] n:=by
 obtain⟨_,as,r,q⟩:=x
 cases r with
 |@dict a o es n _ _ _ h1 h2 h3 h4 h5=>
  refine eF fun _ hK9=>?_
  obtain⟨o',e,k⟩:=q a (List.mem_append_left _ aa)
  obtain rfl:=aj (h1.symm.trans e)
  refine hK9 ?_
  rcases k with ⟨xs,m,k⟩|⟨k1,k2,k3⟩
  ·rw[h3] at k;nomatch k
  ·obtain⟨m,k3⟩:=k3
   exact⟨a,o,m,rfl,k1,h1,k2,k3⟩
theorem DV.isDict{B:Heap}{v:Value}(x:DV B v (.dict []))(p:Program)(w:World):∃a,v=.ref a/\(a==sysModules)=false/\B.DictOf (PySem.strKind p w) a []:=by
 obtain⟨a,o,n,rfl,k1,k2,k3,k4⟩:=x.dict_of
 exact⟨a,rfl,beq_eq_false_iff_ne.mpr k1,o,#[],n,k2,k3,k4,(by intro e he;simp at he),.nil,List.nodup_nil⟩
noncomputable def BP(d:D):Bool:=match d with
 |.dict kvs=>kvs.isEmpty
 |_=>false
theorem mZ{d:D}(h:BP d=true):d=.dict []:=by
 cases d with
 |dict kvs=>cases kvs with
  |nil=>rfl
  |cons=>nomatch h
 |_=>nomatch h
noncomputable def HL(f:D->Bool)(d:D):Bool:=match d with
 |.list xs=>xs.all f
 |.tuple xs=>xs.all f
 |_=>false
noncomputable def x4(d:D):Bool:=b7 28 d||BP d
noncomputable def DY(d:D):Bool:=x4 d||HL x4 d
noncomputable def Mt(d:D):Bool:=BP d||HL DY d
def vV(A:Around)(s:Shared)(d:D):Prop:=∀a b,DV s.heap a d->DV s.heap b d->SeqAt.EqAt A s a b true
theorem DVs.at{B:Heap}{vs:List Value}{ds:List D}(x:DVs B vs ds):∀j (h:j<vs.length),∃d,ds[j]?=some d/\DV B vs[j] d:=by
 induction vs generalizing ds with
 |nil=>intro j h;exact absurd h (Nat.not_lt_zero j)
 |cons v vs ih=>
  obtain⟨e,_⟩:=x.length▸(⟨Nat.succ_pos vs.length,trivial⟩:0<(v::vs).length/\True)
  cases ds with
  |nil=>exact absurd e (Nat.not_lt_zero 0)
  |cons d ds=>
   obtain⟨v',vs',e,h1,h2⟩:=x.uncons
   cases e
   intro j h
   cases j with
   |zero=>exact⟨d,rfl,h1⟩
   |succ j=>exact ih h2 j (Nat.lt_of_succ_lt_succ h)
section
variable {A:Around}{s:Shared}
theorem vh{d:D}(h:b7 28 d=true)(hu:A.units+64<cLine):vV A s d:=by
 intro a b ha hb
 obtain⟨k,as,ra,_⟩:=ha
 obtain⟨_,bs,rb,_⟩:=hb
 obtain⟨q1,q2⟩:=dL 28 d h k
 have:=SeqAt.eqAt_reads d d A s a b as bs ra rb q1 q1 (by rw[Nat.min_self];omega)
 rw[SeqAt.eqv_refl d q1] at this
 exact this
theorem EI{a b:Addr}(ha:DV s.heap (.ref a) (.dict []))(hb:DV s.heap (.ref b) (.dict []))(hu:A.units<cLine):SeqAt.RcAt A s (.ref a) (.ref b) true/\SeqAt.RcNeAt A s (.ref a) (.ref b) false:=by
 constructor
 ·intro p w E Q h
  refine eF fun _ hK9=>?_
  obtain⟨_,e1,n1,d1⟩:=ha.isDict p w
  obtain⟨_,e2,n2,d2⟩:=hb.isDict p w
  refine hK9 ?_
  cases e1;cases e2
  exact keq_eq (knd:=PySem.strKind p w) n1 n2 d1 d2 hu (fun _=>.nil) h
 ·intro p w E Q h
  refine eF fun _ hK9=>?_
  obtain⟨_,e1,n1,d1⟩:=ha.isDict p w
  obtain⟨_,e2,n2,d2⟩:=hb.isDict p w
  refine hK9 ?_
  cases e1;cases e2
  exact keq_ne (knd:=PySem.strKind p w) n1 n2 d1 d2 hu (fun _=>.nil) h
theorem rK{l b:Addr}(h:SeqAt.RcAt A s (.ref l) (.ref b) true):SeqAt.EqAt A s (.ref l) (.ref b) true:=by
 by_cases e:l=b
 ·subst e;exact SeqAt.EqAt.same _
 ·exact SeqAt.EqAt.of_refs e h
theorem Da(hu:A.units<cLine):vV A s (.dict []):=fun a b ha hb=>by
 obtain⟨_,_,_,rfl,_⟩:=ha.dict_of
 obtain⟨_,_,_,rfl,_⟩:=hb.dict_of
 exact rK (EI ha hb hu).1
theorem ol(n:Nat):(List.range n).all (fun _=>true)=true:=by simp
theorem zf{f:D->Bool}(hf:∀x,f x=true->vV A.in1 s x){d:D}(h:HL f d=true)(hu:A.units<cLine){a b:Value}(ha:DV s.heap a d)(hb:DV s.heap b d) :
  ∃l l',a=.ref l/\b=.ref l'/\SeqAt.RcAt A s (.ref l) (.ref l') true/\SeqAt.RcNeAt A s (.ref l) (.ref l') false:=by
 have el:∀(xs:List D) (vs ws:List Value),xs.all f=true->DVs s.heap vs xs->DVs s.heap ws xs->∀j (h1:j<vs.toArray.size) (h2:j<ws.toArray.size),SeqAt.EqAt A.in1 s vs.toArray[j] ws.toArray[j] true:=by
  intro xs vs ws hx hv hw j h1 h2
  refine eF fun _ hK9=>?_
  obtain⟨d,e,k⟩:=hv.at j (by simpa using h1)
  obtain⟨d',e',k'⟩:=hw.at j (by simpa using h2)
  obtain rfl:=aj (e.symm.trans e')
  refine hK9 ?_
  exact hf d (aq hx d (List.mem_of_getElem? e)) _ _ (by simpa using k) (by simpa using k')
 cases d with
 |list xs=>
  refine eF fun _ hK9=>?_
  obtain⟨l,o,vs,n,rfl,h1,h2,h3,h4⟩:=ha.list_of
  obtain⟨l',o',ws,n',rfl,k1,k2,k3,k4⟩:=hb.list_of
  refine hK9 ?_
  have hs:vs.toArray.size=ws.toArray.size:=h4.length.trans k4.length.symm
  have e:=el xs vs ws h h4 k4
  have r1:=SeqAt.RcAt.lists (e:=fun _=>true) ⟨o,h1,h2,n,h3⟩ ⟨o',k1,k2,n',k3⟩ hs hu e
  have r2:=SeqAt.RcNeAt.lists (e:=fun _=>true) ⟨o,h1,h2,n,h3⟩ ⟨o',k1,k2,n',k3⟩ hs hu e
  rw[ol] at r1 r2
  exact⟨l,l',rfl,rfl,r1,r2⟩
 |tuple xs=>
  refine eF fun _ hK9=>?_
  obtain⟨l,o,vs,n,rfl,h1,h2,h3,h4⟩:=ha.tuple_of
  obtain⟨l',o',ws,n',rfl,k1,k2,k3,k4⟩:=hb.tuple_of
  refine hK9 ?_
  have hs:(vs.toArray.size==ws.toArray.size)=true:=beq_iff_eq.mpr (h4.length.trans k4.length.symm)
  have e:=el xs vs ws h h4 k4
  have r1:=SeqAt.RcAt.tuples (e:=fun _=>true) ⟨o,h1,h2,n,h3⟩ ⟨o',k1,k2,n',k3⟩ hu e
  have r2:=SeqAt.RcNeAt.tuples (e:=fun _=>true) ⟨o,h1,h2,n,h3⟩ ⟨o',k1,k2,n',k3⟩ hu e
  rw[ol,hs] at r1 r2
  exact⟨l,l',rfl,rfl,r1,r2⟩
 |_=>nomatch h
theorem l9(hu:A.units+64<cLine)(d:D)(h:x4 d=true):vV A s d:=by
 rcases Bool.or_eq_true_iff.mp h with h|h
 ·exact vh h hu
 ·rw[mZ h];exact Da (un (m:=0) hu rfl)
theorem vg(hu:A.units+65<cLine)(d:D)(h:DY d=true):vV A s d:=by
 rcases Bool.or_eq_true_iff.mp h with h|h
 ·exact l9 (un hu rfl) d h
 ·intro a b ha hb
  obtain⟨l,l',rfl,rfl,k,_⟩:=zf (l9 (A:=A.in1) hu) h (un (m:=0) hu rfl) ha hb
  exact rK k
theorem zh(hu:A.units+66<cLine){d:D}(h:Mt d=true){a b:Value}(ha:DV s.heap a d)(hb:DV s.heap b d):SeqAt.RcAt A s a b true/\SeqAt.RcNeAt A s a b false:=by
 rcases Bool.or_eq_true_iff.mp h with h|h
 ·rw[mZ h] at ha hb
  obtain⟨_,_,_,rfl,_⟩:=ha.dict_of
  obtain⟨_,_,_,rfl,_⟩:=hb.dict_of
  exact EI ha hb (un (m:=0) hu rfl)
 ·obtain⟨l,l',rfl,rfl,k⟩:=zf (vg (A:=A.in1) hu) h (un (m:=0) hu rfl) ha hb
  exact k
theorem eW(l b:Addr)(items:Array Value)(n:Nat)(dd dd2:Option Addr)(sl sl2:Array (Option Value))(es:Array DictEntry)(n2:Nat) :
  Meets (Builtin.«list.__eq__» ⟨[.ref l,.ref b],[]⟩) (fun _ R s=>s.heap.get? l=some { cls:=.type "list", dict:=dd,data:=.seq items n,slots:=sl }/\s.heap.get? b=some { cls:=.type "dict", dict:=dd2,data:=.dict es n2,slots:=sl2 }/\R (.ok (.ret .notImplemented)) s):=
 .of_wp fun prog w A R s h=>by obtain⟨hp,g,d,tk,os⟩:=s;obtain⟨hl,hb,h⟩:=h;have f1:=F.sub_dict_list;wp_walk using wpAny_loadPart' hl,wpAny_loadPart' hb;exact⟨_,rfl,h⟩
theorem rf{v w:Value}{xs:List D}(ha:DV s.heap v (.list xs))(hb:DV s.heap w (.dict []))(hu:A.units<cLine):SeqAt.RcAt A s v w false:=fun prog wd E Q h=>by
 refine eF fun _ hK9=>?_
 obtain⟨l,⟨cls,dd,data,sl⟩,vs,n,rfl,ho,hc,hd,_⟩:=ha.list_of
 obtain⟨b,⟨JA,dd2,data2,sl2⟩,n2,rfl,ns,ho2,hx,hd2⟩:=hb.dict_of
 refine hK9 ?_
 have hc2:=hx.1
 simp only at hc hd hc2 hd2
 subst hc hd hc2 hd2
 have hne:l≠b:=fun e=>by subst e;exact absurd (congrArg Obj.data (aj (ho.symm.trans ho2))) (by simp)
 have hT:s.TypeIs (.ref b) "dict":=⟨_,ho2,rfl⟩
 have hL:s.TypeIs (.ref l) "list":=⟨_,ho,rfl⟩
 refine SeqAt.rc_eq_decline_or (k:=false) hL hT (by decide) F.sub_dict_list F.slot_list_eq F.slot_dict_eq_refl
  (fun _ hq=>call_meets F.slot_list_eq hL F.entry_list_eq (F.args_list_eq_2 _ _) (eW l b _ n dd dd2 sl sl2 _ n2) ⟨ho,ho2,hq⟩)
  (fun _ hq=>wpAny_call_entry F.slot_dict_eq_refl hT F.entry_dict_eq ?_ (F.args_dict_eq_2 _ _))
  (fun _ hq=>wpAny_isSame_ref_other hne ho ho2 (by simp) hq) (.inr hu) h
 show wpAny _ _ (Builtin.Dict.dictSlotArgs "__eq__" ⟨[.ref b,.ref l],[]⟩ >>= _) _ _ s
 refine wpAny_bind ?_
 unfold Builtin.Dict.dictSlotArgs
 refine wpAny_bind (wpAny_notOrdered_dict hT ?_)
 show wpAny _ _ (pure (Value.ref b,Value.ref l)) _ _ s
 refine wpAny_pure ?_
 refine wpAny_bind (wpAny_isInstance (T := "list") hL PySem.F.sub_list_dict ?_)
 refine wpAny_bind (wpAny_rule ?_)
 exact wpAny_pure ⟨_,rfl,hq⟩
end
noncomputable def Sl(l:SQ):Str:=⟨l.toArray⟩
noncomputable def st(l:SQ):D:=.str (Sl l)
noncomputable def _root_.PySem.Str.l(x:Str):SQ:=x.cps.toList
@[simp] theorem da(l:SQ):(Sl l).l=l:=rfl
theorem bW(x:Str):Sl x.l=x:=by cases x;simp[Sl,PySem.Str.l]
theorem su(x y:Str):(x++y)=Sl (x.l++y.l):=by
 show Str.append x y = _
 cases x;cases y;simp[Str.append,Sl,PySem.Str.l]
theorem bt(x:Str):x.length=x.l.length:=by cases x;simp[Str.length,PySem.Str.l]
noncomputable def eU(l:SQ):Bool:=l.all (·<0x110000)
theorem jB(x:Str):x.cps.all (·<0x110000)=eU x.l:=by
 unfold eU PySem.Str.l
 rw[Bool.eq_iff_iff,Array.all_eq_true,List.all_eq_true]
 constructor
 ·intro h n hn
  obtain⟨i,hi,e⟩:=List.mem_iff_getElem.mp hn
  have:=h i (by simpa using hi)
  simp at e;rw[←e];exact this
 ·intro h i hi
  exact h _ (by simp)
theorem DV.st{B:Heap}(l:SQ)(t:Tok)(h:eU l=true):DV B (.str (Sl l) t) (st l):=DV.str _ _ (by rw[jB];exact h)
theorem DV.str_okL{B:Heap}{v:Value}{x:Str}(h:DV B v (.str x)):∃t,v=.str x t/\eU x.l=true:=by
 obtain⟨t,e,k⟩:=h.str_ok
 exact⟨t,e,by rw[←jB];exact k⟩
noncomputable def bc{α:Type}(b:Bool)(o:Option α):Option α:=match b with
 |true=>o
 |false=>none
theorem qJ{α:Type}(o:Option α):bc true o=o:=rfl
theorem Ge{α:Type}(o:Option α):bc false o=none:=rfl
theorem aX{α:Type}{b:Bool}{a z:α}(e:bc b (some a)=some z):b=true/\a=z:=by
 cases b with
 |true=>exact⟨rfl,aj e⟩
 |false=>nomatch e
noncomputable def jm(n k:Nat):Bool:=n-k==0
theorem LH(n k:Nat):jm n k=(n-k==0):=rfl
theorem fj{n k:Nat}(h:jm n k=true):n<=k:=Nat.le_of_sub_eq_zero (eq_of_beq h)
theorem r0(n k:Nat)(h:n<=k):(n-k==0)=true:=by rw[Nat.sub_eq_zero_of_le h];rfl
noncomputable def gO:D->Option Int
 |.int a=>some a
 |_=>none
noncomputable def ic:D->Option Str
 |.str x=>some x
 |_=>none
theorem bF{d:D}{a:Int}(h:gO d=some a):d=.int a:=by
 cases d<;>first|(nomatch h;done)|(cases h;rfl)
theorem bG{d:D}{a:Str}(h:ic d=some a):d=.str a:=by
 cases d<;>first|(nomatch h;done)|(cases h;rfl)
noncomputable def DO:D->D->Option D
 |.int a,y=>(gO y).bind fun b=>some (.int (a+b))
 |.str x,y=>(ic y).bind fun y=>if x.l.length+y.l.length<=16777216 then some (Mine.st (x.l++y.l)) else none
 |_,_=>none
noncomputable def Nn:D->D->Option D
 |.list xs,.list ys=>if xs.length+ys.length<=1000 then some (.list (xs++ys)) else none
 |x,y=>DO x y
noncomputable def xy(x y:D)(f:Int->Int->Option D):Option D:=(gO x).bind fun a=>(gO y).bind fun b=>f a b
noncomputable def fS(o:e7)(x y:D):Option D:=match o with
 |.add=>Nn x y
 |.sub=>xy x y fun a b=>some (.int (a-b))
 |.mod=>xy x y fun a b=>if b=0 then none else some (.int (a.fmod b))
theorem kg{x y:D}{f:Int->Int->Option D}{z:D}(h:xy x y f=some z):∃a b,x=.int a/\y=.int b/\f a b=some z:=by
 refine ax h fun a h1 h=>?_
 refine ax h fun b h2 h=>?_
 exact⟨a,b,bF h1,bF h2,h⟩
noncomputable def nF:e7->Operator
 |.add=>.Add|.sub=>.Sub|.mod=>.Mod
noncomputable def rt(x y:SQ):Bool:=!(Builtin.Str.occurrences (Sl y) (Sl x) 0 (Sl y).length 1).isEmpty
noncomputable def J6:D->Option Bool
 |.none=>some true
 |.bool _=>some false
 |.int _=>some false
 |.str _=>some false
 |.list _=>some false
 |.tuple _=>some false
 |.dict _=>none
noncomputable def isB(b:Bool):D->Option Bool
 |.none=>some false
 |.bool a=>some (a==b)
 |.int _=>some false
 |.str _=>some false
 |.list _=>some false
 |.tuple _=>some false
 |.dict _=>none
noncomputable def Gj(f:D->Option Bool):V->Option Bool
 |.d x=>f x
 |.r _=>some false
 |.m _ _=>some false
 |.el=>some false
 |.g _=>none
 |.junk=>none
noncomputable def vQ(v:V):D->Option Bool
 |.none=>Gj J6 v
 |.bool b=>Gj (isB b) v
 |.int _=>none
 |.str _=>none
 |.list _=>none
 |.tuple _=>none
 |.dict _=>none
noncomputable def Sk:D->D->Option Bool
 |.int a,y=>(gO y).bind fun b=>some (decide (a<b))
 |.str a,y=>(ic y).bind fun b=>some (decide (a.l<b.l))
 |_,_=>none
noncomputable def Sj:D->D->Option Bool
 |.int a,y=>(gO y).bind fun b=>some (decide (a<=b))
 |.str a,y=>(ic y).bind fun b=>some (!(decide (b.l<a.l)))
 |_,_=>none
noncomputable def ON(x:D):D->Option Bool
 |.tuple xs=>bc (bK 30 xs&&b7 30 x) (some (xs.any fun y=>PyData.eqv y x))
 |.list xs=>bc (bK 30 xs&&b7 30 x) (some (xs.any fun y=>PyData.eqv y x))
 |.str y=>(ic x).bind fun x=>some (rt x.l y.l)
 |_=>none
noncomputable def OO(x:D):D->Option Bool
 |.tuple xs=>bc (bK 30 xs&&b7 30 x) (some (!xs.any fun y=>PyData.eqv y x))
 |.list xs=>bc (bK 30 xs&&b7 30 x) (some (!xs.any fun y=>PyData.eqv y x))
 |.str y=>(ic x).bind fun x=>some (!rt x.l y.l)
 |_=>none
noncomputable def pick{α:Type}(b:Bool)(x y:α):α:=match b with
 |true=>x
 |false=>y
theorem y7{α:Type}(x y:α):pick true x y=x:=rfl
theorem Hn{α:Type}(x y:α):pick false x y=y:=rfl
noncomputable def isLs(d:D):Bool:=match d with
 |.list _=>true
 |_=>false
theorem BO{d:D}(h:isLs d=true):∃xs,d=.list xs:=by
 cases d with
 |list xs=>exact⟨xs,rfl⟩
 |_=>nomatch h
inductive DG:D->D->Bool->Prop
 |same {x:D} (h:Mt x=true):DG x x true
 |ld {x y:D} (h:isLs x=true) (k:BP y=true):DG x y false
open Classical in
noncomputable def wP(x y:D):Option Bool:=if DG x y true then some true else if DG x y false then some false else none
theorem wQ{x y:D}{z:Bool}(e:wP x y=some z):DG x y z:=by
 unfold wP at e
 by_cases h:DG x y true
 ·cases (au h).symm.trans e;exact h
 ·by_cases k:DG x y false
  ·cases ((ar h).trans (au k)).symm.trans e;exact k
  ·cases ((ar h).trans (ar k)).symm.trans e
noncomputable def MU:Bool->Option Bool
 |true=>some false
 |false=>none
noncomputable def bB(o:eY)(x y:D):Option Bool:=match o with
 |.eq=>pick (b7 30 x&&b7 30 y) (some (PyData.eqv x y)) (wP x y)
 |.ne=>pick (b7 30 x&&b7 30 y) (some (!PyData.eqv x y)) ((wP x y).bind MU)
 |.lt=>Sk x y
 |.le=>Sj x y
 |.gt=>(gO x).bind fun a=>(gO y).bind fun b=>some (decide (b<a))
 |.ge=>(gO x).bind fun a=>(gO y).bind fun b=>some (decide (b<=a))
 |.mem=>ON x y
 |.nin=>OO x y
 |.is=>none
 |.isn=>none
noncomputable def dOf:V->Option D
 |.d x=>some x
 |.el=>some (.list [])
 |_=>none
theorem VR.dOf{a:Value}{v:V}{x:D}(h:VR B U a v)(e:dOf v=some x):DV B a x:=by
 cases h with
 |d h=>cases e;exact h
 |el h=>cases e;exact DV.list_at (vs:=[]) h DVs.nil
 |_=>cases e
noncomputable def k9(o:eY)(x y:V):Option Bool:=match o with
 |.is=>(dOf y).bind fun y=>vQ x y
 |.isn=>(dOf y).bind fun y=>(vQ x y).map (!·)
 |.eq=>(dOf x).bind fun x=>(dOf y).bind fun y=>bB .eq x y
 |.ne=>(dOf x).bind fun x=>(dOf y).bind fun y=>bB .ne x y
 |.lt=>(dOf x).bind fun x=>(dOf y).bind fun y=>bB .lt x y
 |.le=>(dOf x).bind fun x=>(dOf y).bind fun y=>bB .le x y
 |.gt=>(dOf x).bind fun x=>(dOf y).bind fun y=>bB .gt x y
 |.ge=>(dOf x).bind fun x=>(dOf y).bind fun y=>bB .ge x y
 |.mem=>(dOf x).bind fun x=>(dOf y).bind fun y=>bB .mem x y
 |.nin=>(dOf x).bind fun x=>(dOf y).bind fun y=>bB .nin x y
noncomputable def jL:eY->CmpOp
 |.eq=>.Eq|.ne=>.NotEq|.lt=>.Lt|.le=>.LtE|.gt=>.Gt|.ge=>.GtE|.is=>.Is|.isn=>.IsNot|.mem=>.In|.nin=>.NotIn
section
variable {c:Cx}{r:Nat}{L:Addr}{m:aD}{P:Heap->Ph->Prop}{H:Hp}{env:Env}{sc:Scope}{B Z h h':Heap}{U:Ph}
theorem Room.u{A:Around}(x:Room r A):A.units+40 * r+200<=cLine:=x.2.1
theorem jA{a b:SQ}(h:eU a=true)(k:eU b=true):eU (a++b)=true:=by
 unfold eU at *;rw[List.all_append,h,k];rfl
theorem Ic{o:e7}{a b:Value}{x y z:D}{Q:SV}(hv:∀B U,P B U->DV B a x/\DV B b y)(e:fS o x y=some z)(q:Q (.d z) H):Tr VR c r L m P H (binaryOp (nF o) a b) Q:=by
 intro A E s B Z U hA ht hR hF hp
 obtain⟨ha,hb⟩:=hv _ _ hp
 have done:∀tk v,DV B v z->EndT VR c B Z U L m Q s v { s with toks:=tk }:=fun tk v hz=>aM hR hF (.d hz) q
 have lists:∀xs ys,xs.length+ys.length<=1000->DV B a (.list xs)->DV B b (.list ys)->z=.list (xs++ys)->wpAny c.M A (binaryOp .Add a b) (fun v s'=>EndT VR c B Z U L m Q s v s') E s:=by
  intro xs ys hl h1 h2 hz
  subst hz
  obtain⟨a1,⟨c1,dd1,dt1,sl1⟩,vs,n1,rfl,g1,cc1,hd1,dv1⟩:=h1.list_of
  obtain⟨a2,⟨c2,dd2,dt2,sl2⟩,us,n2,rfl,g2,cc2,hd2,dv2⟩:=h2.list_of
  dsimp only at cc1 hd1 cc2 hd2
  subst cc1 hd1 cc2 hd2
  refine concat_meets ⟨_,hR.kB _ _ g1,rfl⟩ ⟨_,hR.kB _ _ g2,rfl⟩ noFill_list_add seq_list_add PySem.F.slot_list_add PySem.F.entry_list_add (PySem.F.args_list_add_2 _ _) (list_addW a1 a2 vs.toArray us.toArray n1 n2 dd1 dd2 sl1 sl2 (by
   rw[List.size_toArray,List.size_toArray,dv1.length,dv2.length];exact ak hl (by decide))) ⟨hR.kB _ _ g1,hR.kB _ _ g2,?_⟩
  obtain⟨mm,hns,hm⟩:=hF.ex
  have aL:s.heap.objs.size≠L:=Nat.ne_of_gt hns.lt
  have g:=Heap.get?_push_size (s.heap) (o:=({ cls:=.type "list", data:=.seq (vs.toArray++us.toArray) }:Obj)) rfl
  obtain⟨R1,S1⟩:=hR.frozen aL (ba _) rfl g aG
  exact⟨_,s.toks,_,U,_,H,rfl,S1,PSub.refl _,R1,(hF.keep (fun o e=>Heap.get?_push_of_some _ e)).mono S1 (PSub.refl _),.d (DV.list_at (n:=0) (by rw[List.append_toArray];exact aH rfl) ((dv1.append dv2).mono S1)),q⟩
 clear hA ht hR hF hp hv q
 cases o with
 |add=>
  cases x with
  |int a=>
   refine ax e fun b hb1 e=>?_
   obtain rfl:=bF hb1;nomatch e
   obtain⟨t,rfl⟩:=ha.int_of
   obtain⟨u,rfl⟩:=hb.int_of
   exact add_int (done _ _ (DV.int _ _))
  |str x=>
   refine ax e fun y hb1 e=>?_
   obtain rfl:=bG hb1
   obtain⟨t,rfl,k1⟩:=ha.str_okL
   obtain⟨u,rfl,k2⟩:=hb.str_okL
   by_cases hl:x.l.length+y.l.length<=16777216
   ·cases (au hl).symm.trans e
    refine add_str (fun t' tk=>?_) (by rw[bt,bt];exact hl)
    rw[su]
    exact done _ _ (DV.st _ _ (jA k1 k2))
   ·cases (ar hl).symm.trans e
  |list xs=>
   cases y with
   |list ys=>
    by_cases hl:xs.length+ys.length<=1000
    ·cases (au hl).symm.trans e
     exact lists xs ys hl ha hb rfl
    ·cases (ar hl).symm.trans e
   |_=>nomatch e
  |_=>nomatch e
 |sub=>
  obtain⟨a,b,rfl,rfl,e⟩:=kg e
  obtain⟨t,rfl⟩:=ha.int_of
  obtain⟨u,rfl⟩:=hb.int_of
  cases e
  exact sub_int (done _ _ (DV.int _ _))
 |mod=>
  obtain⟨a,b,rfl,rfl,e⟩:=kg e
  obtain⟨t,rfl⟩:=ha.int_of
  obtain⟨u,rfl⟩:=hb.int_of
  by_cases h0:b=0
  ·cases (au h0).symm.trans e
  ·cases (ar h0).symm.trans e
   exact mod_int' h0 (done _ _ (DV.int _ _))
theorem VR.d_of{v:Value}{x:D}(h:VR B U v (.d x)):DV B v x:=by cases h;assumption
noncomputable def vI:Value->Nat
 |.none=>0
 |.bool b=>b.toNat+1
 |.int _ _=>3
 |.str _ _=>3
 |.ref _=>3
 |_=>9
noncomputable def dK:D->Nat
 |.none=>0
 |.bool b=>b.toNat+1
 |.dict _=>9
 |_=>3
noncomputable def vK:V->Nat
 |.d x=>dK x
 |.r _=>3
 |.m _ _=>3
 |.el=>3
 |_=>9
theorem JE{a:Value}{x:D}(h:DV B a x)(k:dK x≠9):vI a=dK x:=by
 cases x with
 |none=>rw[h.none_of];rfl
 |bool v=>rw[h.bool_of];rfl
 |int v=>obtain⟨t,e⟩:=h.int_of;rw[e];rfl
 |str v=>obtain⟨t,e,_⟩:=h.str_ok;rw[e];rfl
 |list v=>obtain⟨t,o,vs,n,e,_⟩:=h.list_of;rw[e];rfl
 |tuple v=>obtain⟨t,o,vs,n,e,_⟩:=h.tuple_of;rw[e];rfl
 |dict v=>exact absurd rfl k
theorem EQ{a:Value}{x:V}(h:VR B U a x)(k:vK x≠9):vI a=vK x:=by
 cases h with
 |d h=>exact JE h k
 |r=>rfl
 |m=>rfl
 |el=>rfl
 |g=>exact absurd rfl k
 |junk=>exact absurd rfl k
theorem HG{a:Value}(h:vI a≠9):isSame a .none=pure (vI a==0):=by
 cases a<;>first|exact absurd rfl h|(show _ = pure false;rfl)|(show _ = pure true;rfl)|(rename_i b;cases b<;>first|(show _ = pure false;rfl))
theorem HF{a:Value}{b:Bool}(h:vI a≠9):isSame a (.bool b)=pure (vI a==b.toNat+1):=by
 cases a with
 |bool c=>cases b<;>cases c<;>first|(show _ = pure false;rfl)|(show _ = pure true;rfl)
 |_=>first|exact absurd rfl h|(cases b<;>(show _ = pure false;rfl))
theorem MT:(3:Nat)≠9:=by decide
theorem QA:(0:Nat)≠9:=by decide
theorem QB:∀b:Bool,b.toNat+1≠9:=by decide
theorem xJ{x:V}{z:Bool}(e:Gj J6 x=some z):vK x≠9/\z=(vK x==0):=by
 cases x with
 |d x=>
  cases x with
  |dict=>nomatch e
  |none=>cases e;exact⟨QA,rfl⟩
  |bool b=>cases e;exact⟨QB b,by cases b<;>rfl⟩
  |_=>cases e;exact⟨MT,rfl⟩
 |g|junk=>nomatch e
 |_=>cases e;exact⟨MT,rfl⟩
theorem xF{x:V}{b z:Bool}(e:Gj (isB b) x=some z):vK x≠9/\z=(vK x==b.toNat+1):=by
 cases x with
 |d x=>
  cases x with
  |dict=>nomatch e
  |bool a=>cases e;exact⟨QB a,by cases a<;>cases b<;>rfl⟩
  |none=>cases e;exact⟨QA,by cases b<;>rfl⟩
  |_=>cases e;exact⟨MT,by cases b<;>rfl⟩
 |g|junk=>nomatch e
 |_=>cases e;exact⟨MT,by cases b<;>rfl⟩
theorem zr{A:Around}{M:Model}{E:SU}{s:Shared}{a b:Value}{x:V}{y:D}{z:Bool}{Q:Bool->Shared->Prop}(ha:VR B U a x)(hb:DV B b y)(e:vQ x y=some z)(q:Q z s):wpAny M A (isSame a b) Q E s:=by
 cases y with
 |none=>
  have k:=EQ ha (xJ e).1
  rw[hb.none_of,HG (k▸(xJ e).1),k,←(xJ e).2]
  exact wpAny_pure q
 |bool b=>
  have k:=EQ ha (xF e).1
  rw[hb.bool_of,HF (k▸(xF e).1),k,←(xF e).2]
  exact wpAny_pure q
 |_=>nomatch e
theorem gI{xs:List D}{x:D}(h:(bK 30 xs&&b7 30 x)=true)(h1:nj xs=true)(h2:Ln x=true):PyData.canLayAll0 xs=true/\x.canLay0=true/\min (PyData.depthAll xs) x.depth<=30:=by
 refine aS h fun f1 f2=>?_
 have k2:=(dL _ _ f2 h2)
 exact⟨(di _ _ f1 h1).1,k2.1,ak (Nat.min_le_right _ _) k2.2⟩
theorem tn{A:Around}{s:Shared}{a b:Value}{x y:D}{z:Bool}(hu:A.units+66<cLine)(ha:DV s.heap a x)(hb:DV s.heap b y)(h:DG x y z):SeqAt.RcAt A s a b z/\(z=true->SeqAt.RcNeAt A s a b false):=by
 cases h with
 |same h=>exact⟨(zh hu h ha hb).1,fun _=>(zh hu h ha hb).2⟩
 |ld h k=>
  obtain⟨xs,rfl⟩:=BO h
  rw[mZ k] at hb
  exact⟨rf ha hb (un (m:=0) hu rfl),fun e=>nof2 e⟩
theorem kL{A:Around}{E:SU}{s:Shared}{a b:Value}{o:eY}{x y:D}{z:Bool}{Q:SU}(hu:A.units+66<cLine)(hS:Sub B s.heap)(ha:DV B a x)(hb:DV B b y)(e:bB o x y=some z)(done:Q (.bool z) s):wpAny c.M A (compareOp (jL o) a b) Q E s:=by
 obtain⟨as,ra,qa⟩:=(ha.mono hS).2
 obtain⟨bs,rb,qb⟩:=(hb.mono hS).2
 cases o with
 |eq=>
  cases hf:(b7 30 x&&b7 30 y) with
  |true=>
   obtain rfl:=aj ((congrArg (pick · (some (PyData.eqv x y)) (wP x y)) hf).symm.trans e)
   exact eq_dataH ra rb (dW (ay hf).1 ha.1) (dW (ay hf).2 hb.1) (un hu rfl) done
  |false=>exact (tn hu (ha.mono hS) (hb.mono hS) (wQ ((congrArg (pick · (some (PyData.eqv x y)) (wP x y)) hf).symm.trans e))).1 _ _ _ _ done
 |ne=>
  cases hf:(b7 30 x&&b7 30 y) with
  |true=>
   obtain rfl:=aj ((congrArg (pick · (some (!PyData.eqv x y)) ((wP x y).bind MU)) hf).symm.trans e)
   exact ne_dataH ra rb (dW (ay hf).1 ha.1) (dW (ay hf).2 hb.1) (un hu rfl) done
  |false=>
   refine ax ((congrArg (pick · (some (!PyData.eqv x y)) ((wP x y).bind MU)) hf).symm.trans e) fun z' e' e2=>?_
   cases z' with
   |true=>cases e2;exact (tn hu (ha.mono hS) (hb.mono hS) (wQ e')).2 rfl _ _ _ _ done
   |false=>nomatch e2
 |lt=>
  cases x with
  |int a=>refine ax e fun b h1 e=>?_;obtain rfl:=bF h1;obtain⟨t,rfl⟩:=ha.int_of;obtain⟨u,rfl⟩:=hb.int_of;cases e;exact lt_int done
  |str a=>refine ax e fun b h1 e=>?_;obtain rfl:=bG h1;obtain⟨t,rfl,_⟩:=ha.str_ok;obtain⟨u,rfl,_⟩:=hb.str_ok;cases e;exact PyProof.Rows.lt_str done
  |_=>nomatch e
 |le=>
  cases x with
  |int a=>refine ax e fun b h1 e=>?_;obtain rfl:=bF h1;obtain⟨t,rfl⟩:=ha.int_of;obtain⟨u,rfl⟩:=hb.int_of;cases e;exact le_int done
  |str a=>refine ax e fun b h1 e=>?_;obtain rfl:=bG h1;obtain⟨t,rfl,_⟩:=ha.str_ok;obtain⟨u,rfl,_⟩:=hb.str_ok;cases e;exact PySem.P.le_str done
  |_=>nomatch e
 |gt=>
  refine ax e fun a h1 e=>?_
  refine ax e fun b h2 e=>?_
  obtain rfl:=bF h1;obtain rfl:=bF h2;obtain⟨t,rfl⟩:=ha.int_of;obtain⟨u,rfl⟩:=hb.int_of;cases e;exact gt_int done
 |ge=>
  refine ax e fun a h1 e=>?_
  refine ax e fun b h2 e=>?_
  obtain rfl:=bF h1;obtain rfl:=bF h2;obtain⟨t,rfl⟩:=ha.int_of;obtain⟨u,rfl⟩:=hb.int_of;cases e;exact ge_int done
 |mem=>
  cases y with
  |tuple xs=>
   obtain⟨hf,rfl⟩:=aX e
   obtain⟨k1,k2,k3⟩:=gI hf (by have:=hb.1;exact this) ha.1
   exact SeqAt.in_tuple_reads rb ra k1 k2 (by omega) done
  |list xs=>
   obtain⟨hf,rfl⟩:=aX e
   obtain⟨k1,k2,k3⟩:=gI hf (by have:=hb.1;exact this) ha.1
   exact SeqAt.in_list_reads rb ra k1 k2 (by omega) done
  |str y=>
   refine ax e fun x h1 e=>?_
   obtain rfl:=bG h1;obtain⟨t,rfl,_⟩:=ha.str_ok;obtain⟨u,rfl,_⟩:=hb.str_ok;nomatch e
   refine PyProof.Rows.in_str ?_
   unfold rt at done
   rw[bW,bW] at done
   exact done
  |_=>nomatch e
 |nin=>
  cases y with
  |tuple xs=>
   obtain⟨hf,rfl⟩:=aX e
   obtain⟨k1,k2,k3⟩:=gI hf (by have:=hb.1;exact this) ha.1
   exact SeqAt.notIn_tuple_reads rb ra k1 k2 (by omega) done
  |list xs=>
   obtain⟨hf,rfl⟩:=aX e
   obtain⟨k1,k2,k3⟩:=gI hf (by have:=hb.1;exact this) ha.1
   exact SeqAt.notIn_list_reads rb ra k1 k2 (by omega) done
  |str y=>
   refine ax e fun x h1 e=>?_
   obtain rfl:=bG h1;obtain⟨t,rfl,_⟩:=ha.str_ok;obtain⟨u,rfl,_⟩:=hb.str_ok;nomatch e
   refine PyProof.Rows.notIn_str ?_
   unfold rt at done
   rw[bW,bW] at done
   exact done
  |_=>nomatch e
 |is=>nomatch e
 |isn=>nomatch e
theorem rx{o:eY}{a b:Value}{x y:V}{z:Bool}{Q:SV}(hv:∀B U,P B U->VR B U a x/\VR B U b y)(e:k9 o x y=some z)(q:Q (.d (.bool z)) H):Tr VR c r L m P H (compareOp (jL o) a b) Q:=by
 intro A E s B Z U hA ht hR hF hp
 obtain⟨ha,hb⟩:=hv _ _ hp
 have done:EndT VR c B Z U L m Q s (.bool z) { s with toks:=s.toks }:=aM hR hF (.d (DV.bool _)) q
 have hu:A.units+66<cLine:=PY hA.u
 have main:∀{o:eY},((dOf x).bind fun x=>(dOf y).bind fun y=>bB o x y)=some z->wpAny c.M A (compareOp (jL o) a b) (fun v s'=>EndT VR c B Z U L m Q s v s') E s:=by
  intro o e
  refine ax e fun x h1 e=>?_
  refine ax e fun y h2 e=>?_
  exact kL hu hR.kB (ha.dOf h1) (hb.dOf h2) e done
 cases o with
 |is=>
  refine ax e fun y h2 e=>?_
  exact wpAny_bind (zr ha (hb.dOf h2) e (wpAny_pure done))
 |isn=>
  refine ax e fun y h2 e=>?_
  obtain⟨z',e',rfl⟩:=ai e
  exact wpAny_bind (zr ha (hb.dOf h2) e' (wpAny_pure done))
 |_=>exact main e
noncomputable def Mx:D->Option Bool
 |.none=>some false
 |.bool b=>some b
 |.int i=>some (i != 0)
 |.str x=>if x.l.length<=16777216 then some (!x.l.isEmpty) else none
 |.list xs=>if xs.length<=16777216 then some (!xs.isEmpty) else none
 |.tuple xs=>if xs.length<=16777216 then some (!xs.isEmpty) else none
 |.dict _=>none
end
noncomputable def pk(i:Nat)(x:V):List (Nat×V)->List (Nat×V)
 |[]=>[(i,x)]
 |p::r=>match p.1==i with
  |true=>(i,x)::r
  |false=>p::pk i x r
theorem g8{i:Nat}{x:V}{p:Nat×V}{r:List (Nat×V)}:pk i x (p::r)=if p.1=i then (i,x)::r else p::pk i x r:=by
 show (match p.1==i with|true=>(i,x)::r|false=>p::pk i x r) = _
 by_cases q:p.1=i
 ·rw[au q,beq_iff_eq.mpr q]
 ·rw[ar q,beq_eq_false_iff_ne.mpr q]
section
variable {c:Cx}{r:Nat}{L:Addr}{m:aD}{P:Heap->Ph->Prop}{H:Hp}{env:Env}{sc:Scope}{B Z h h':Heap}{U:Ph}
theorem ky(c:Cx)(i j:Nat)(t:Tok):(Value.str (c.nm i) t).isStr (c.nm j)=decide (i=j):=by
 show (c.nm i==c.nm j) = _
 by_cases q:i=j
 ·subst q;simp
 ·rw[decide_eq_false q];exact beq_eq_false_iff_ne.mpr fun e=>q (c.inj _ _ e)
theorem FR.find{es:List DictEntry}{fs:List (Nat×V)}{i:Nat}{x:V}(h:FR c B U es fs)(q:lk i fs=some x):∃e,es.find? (·.key.isStr (c.nm i))=some e/\VR B U e.val x:=by
 induction h with
 |nil=>nomatch q
 |@cons e j _ _ _ _ h k v r ih=>
  rw[a6] at q
  rw[List.find?_cons,h,ky]
  by_cases z:j=i
  ·rw[au z] at q;nomatch q
   rw[decide_eq_true z];exact⟨_,rfl,v⟩
  ·rw[ar z] at q
   rw[decide_eq_false z];exact ih q
theorem FR.find_none{es:List DictEntry}{fs:List (Nat×V)}{i:Nat}(h:FR c B U es fs)(q:lk i fs=none):es.find? (·.key.isStr (c.nm i))=none:=by
 induction h with
 |nil=>rfl
 |@cons e j _ _ _ _ h k v r ih=>
  rw[a6] at q
  rw[List.find?_cons,h,ky]
  by_cases z:j=i
  ·rw[au z] at q;nomatch q
  ·rw[ar z] at q
   rw[decide_eq_false z];exact ih q
theorem FR.noRef{es:List DictEntry}{fs:List (Nat×V)}(h:FR c B U es fs):es.any (·.refKey)=false:=by
 induction h with
 |nil=>rfl
 |@cons e _ _ _ _ _ h k v r ih=>
  rw[List.any_cons,ih]
  have:e.refKey=false:=by unfold DictEntry.refKey;rw[h]
  rw[this];rfl
theorem FR.getL{es:List DictEntry}{fs:List (Nat×V)}{i:Nat}{x:V}(f:FR c B U es fs)(e:lk i fs=some x):∃v,PySem.W.getL (c.nm i) es=some (some v)/\VR B U v x:=by
 obtain⟨en,h1,h2⟩:=f.find e
 exact⟨_,by unfold PySem.W.getL;rw[h1],h2⟩
theorem FR.getL_none{es:List DictEntry}{fs:List (Nat×V)}{i:Nat}(f:FR c B U es fs)(e:lk i fs=none):PySem.W.getL (c.nm i) es=some none:=by
 unfold PySem.W.getL
 rw[f.find_none e,f.noRef];rfl
theorem FR.getL_isSome{es:List DictEntry}{fs:List (Nat×V)}(i:Nat)(f:FR c B U es fs):(PySem.W.getL (c.nm i) es).isSome=true:=by
 cases q:lk i fs with
 |none=>rw[f.getL_none q];rfl
 |some x=>obtain⟨v,e,_⟩:=f.getL q;rw[e];rfl
theorem FR.length{es:List DictEntry}{fs:List (Nat×V)}(h:FR c B U es fs):es.length=fs.length:=by
 induction h with
 |nil=>rfl
 |cons _ _ _ _ ih=>exact congrArg Nat.succ ih
theorem FR.put{i:Nat}{x:V}{v:Value}{t:Tok}(hv:VR B U v x){es:List DictEntry}{fs:List (Nat×V)}(h:FR c B U es fs):FR c B U (putL (c.nm i) (PyData.keyHash c.w.params (c.nm i)) (.str (c.nm i) t) v es) (pk i x fs):=by
 induction h with
 |nil=>exact .cons rfl rfl hv .nil
 |@cons e j _ _ _ _ h k w r ih=>
  unfold putL
  rw[g8]
  rw[h,ky]
  by_cases z:j=i
  ·rw[decide_eq_true z,au rfl,au z]
   subst z
   exact .cons (e:=⟨e.hash,.str (c.nm j) _,v⟩) rfl k hv r
  ·rw[decide_eq_false z,ar (by decide),ar z]
   exact .cons h k w ih
theorem va(i:Nat)(x:V):∀fs:List (Nat×V),(pk i x fs).length<=fs.length+1:=by
 intro fs
 induction fs with
 |nil=>exact ao _
 |cons p r ihr=>
  rw[g8]
  split
  ·simp
  ·have:=ihr;simp;exact this
theorem ko(i j:Nat)(x:V):∀fs:List (Nat×V),lk j (pk i x fs)=if i=j then some x else lk j fs:=by
 intro fs
 induction fs with
 |nil=>show lk j [(i,x)] = _;rw[a6]
 |cons p r ihr=>
  have ih:=ihr
  rw[g8]
  by_cases z:p.1=i
  ·rw[au z]
   rw[a6,a6]
   by_cases q:i=j
   ·rw[au q,au q]
   ·rw[ar q,ar q,z,ar q]
  ·rw[ar z]
   rw[a6,a6]
   rw[ih]
   by_cases q:p.1=j
   ·rw[au q,au q,ar (fun h=>z (q.trans h.symm))]
   ·rw[ar q,ar q]
theorem bD(R:Rel c B Z U L H h){o:Value}{n:Nat}(ho:VR B U o (.r n)){cl:Cell}(e:H[n]?=some (some cl)):∃p,o=.ref p.1/\U n=some p/\CellAt c h B U p cl:=by
 cases ho with
 |r hp=>
  obtain⟨q,hq,hc⟩:=R.cell n cl e
  rw[hp] at hq;nomatch hq
  exact⟨_,rfl,hp,hc⟩
theorem mX{p:Addr×Addr}{C:Addr}{fs:List (Nat×V)}{G:Prop}(x:CellAt c h B U p (.inst C fs))(k:∀es j,W.InstAt h p.1 (instObj C p.2) C (some (dictOf es j))->FR c B U es fs->fc c.K C=true->(∀i x,lk i fs=some x->gJ c.K C (c.nm i)=true)->G):G:=by
 cases x with
 |mk g ne es j gd fr cl fo=>exact k es j ⟨g,rfl,rfl,gd⟩ fr cl fo
@[elab_as_elim] theorem gN(R:Rel c B Z U L H h){o:Value}{n:Nat}(ho:VR B U o (.r n)){C:Addr}{fs:List (Nat×V)}{G:Value->Prop}(e:H[n]?=some (some (.inst C fs)))
  (k:∀p es j,U n=some p->W.InstAt h p.1 (instObj C p.2) C (some (dictOf es j))->FR c B U es fs->fc c.K C=true->(∀i x,lk i fs=some x->gJ c.K C (c.nm i)=true)->G (.ref p.1)):G o:=by
 obtain⟨p,rfl,hφ,hc⟩:=bD R ho e
 exact mX hc fun es j a b cl d=>k p es j hφ a b cl d
theorem jV{K:Frag}{C:Addr}{x:Str}(e:gJ K C x=true):findIn K (.ref C) x=some none:=gS e
noncomputable def eK:V->Bool
 |.d _=>true
 |.r _=>true
 |.m _ _=>true
 |.el=>true
 |.g _=>false
 |.junk=>false
theorem nJ{h:Heap}{v:Value}{d:D}{as:List Addr}(r:Reads h v d as):handedIn v=true:=by cases r<;>rfl
theorem jg{v:Value}{x:V}(hv:VR B U v x)(hx:eK x=true):handedIn v=true:=by
 cases hv with
 |d h=>exact h.2.elim fun _ r=>nJ r.1
 |r _=>rfl
 |m _ _=>rfl
 |el _=>rfl
 |g v=>exact nof2 hx
 |junk=>exact nof2 hx
theorem Ig{o:Value}{n i:Nat}{C:Addr}{fs:List (Nat×V)}{x:V}{Q:SV}(hv:∀B U,P B U->VR B U o (.r n))(hn:H[n]?=some (some (.inst C fs)))(hi:lk i fs=some x)(hx:eK x=true)(q:Q x H) :
  Tr VR c r L m P H (getAttr o (c.nm i) true) Q:=by
 intro A E s B Z U hA ht hR hF hp
 refine gN hR (hv _ _ hp) hn fun p es k hφ I f hcls hf=>?_
 obtain⟨v,hg,rv⟩:=f.getL hi
 exact get_value hR.kIn I (t0 hcls) (findObj_own (wz hcls) (jV (hf i x hi)) rfl (by rw[lookIn_dict];exact hg)) (jg rv hx) (aM hR hF rv q)
theorem Rel.turn{p:Addr×Addr}{n:Nat}{cl cl':Cell}(R:Rel c B Z U L H h)(hφ:U n=some p)(hn:H[n]?=some (some cl))(k:∀b o,b≠L->b≠p.2->h.get? b=some o->h'.get? b=some o)(hc:CellAt c h' B U p cl') :
  Rel c B Z U L (H.set n (some cl')) h':=by
 have ln:n<H.length:=by
  rcases Nat.lt_or_ge n H.length with z|z
  ·exact z
  ·rw[List.getElem?_eq_none z] at hn;nomatch hn
 obtain⟨⟨b1,b2⟩,⟨z1,z2⟩,l1,l2⟩:=R.free n p ⟨cl,hn⟩ hφ
 have lv:∀j,dD (H.set n (some cl')) j->dD H j:=by
  rintro j ⟨x,e⟩
  rw[List.getElem?_set] at e
  by_cases z:n=j
  ·subst z;exact⟨cl,hn⟩
  ·rw[ar z] at e;exact⟨x,e⟩
 refine⟨R.base,fun b o e=>k b o (fun q=>by subst q;rw[R.LB] at e;nomatch e) (fun q=>by subst q;rw[b2] at e;nomatch e) (R.kB b o e),fun b o e=>k b o (fun q=>by subst q;rw[R.LZ] at e;nomatch e) (fun q=>by subst q;rw[z2] at e;nomatch e) (R.kZ b o e),
  fun j x e=>?_,fun j q hl hq=>R.free j q (lv j hl) hq,fun j j' q q' ne hl hl' hq hq'=>R.apart j j' q q' ne (lv j hl) (lv j' hl') hq hq',fun j hj=>R.dom j (by rw[List.length_set] at hj;exact hj),R.LB,R.LZ,R.LG,R.BZ⟩
 rw[List.getElem?_set] at e
 by_cases z:n=j
 ·subst z
  rw[au rfl,au ln] at e
  cases e
  exact⟨p,hφ,hc⟩
 ·rw[ar z] at e
  obtain⟨q,hq,hcl⟩:=R.cell j x e
  obtain⟨_,_,m1,m2⟩:=R.free j q ⟨x,e⟩ hq
  obtain⟨a1,a2,a3,a4⟩:=R.apart n j p q z ⟨cl,hn⟩ ⟨x,e⟩ hφ hq
  exact⟨q,hq,hcl.mono (Sub.refl _) (PSub.refl _) (fun o w=>k _ o m1 (fun y=>a3 y.symm) w) fun o w=>k _ o m2 (fun y=>a4 y.symm) w⟩
theorem Io{d:Addr}{o o':Obj}:∀{l:List (Addr×Obj)},(l.map (·.1)).Nodup->(d,o)∈l->∃l',Upd d o o' l l'/\∀p∈l,p.1≠d->p∈l':=by
 intro l
 induction l with
 |nil=>intro _ h;nomatch h
 |cons p l ihr=>
  intro nd h
  rw[List.map_cons,List.nodup_cons] at nd
  rcases List.mem_cons.mp h with e|h
  ·subst e
   refine⟨(d,o')::l,.head fun q hq e=>nd.1 ?_,fun q hq ne=>?_⟩
   ·have:=List.mem_map_of_mem (f:=Prod.fst) hq;rw[e] at this;exact this
   ·rcases List.mem_cons.mp hq with e|hq
    ·subst e;exact absurd rfl ne
    ·exact ad _ hq
  ·obtain⟨l',u,k⟩:=ihr nd.2 h
   refine⟨p::l',.tail (fun e=>nd.1 (e▸List.mem_map_of_mem h)) u,fun q hq ne=>?_⟩
   rcases List.mem_cons.mp hq with e|hq
   ·subst e;exact List.mem_cons_self ..
   ·exact ad _ (k q hq ne)
theorem Dy{d:Addr}{o o':Obj}{l l':List (Addr×Obj)}(u:Upd d o o' l l'):(d,o')∈l':=by
 induction u with
 |head _=>exact List.mem_cons_self ..
 |tail _ _ ih=>exact ad _ ih
theorem m7(G h:Heap)(L:Addr)(skip:Addr->Bool):((iO G h L skip).map (·.1)).Nodup:=by
 unfold iO
 have key:∀l:SQ,l.Nodup->((l.filterMap fun a=>if a=L\/skip a=true then none else match G.get? a with|some _=>none|none=>(h.get? a).map fun o=>(a,o)).map (·.1)).Nodup ∧
   ∀q∈(l.filterMap fun a=>if a=L\/skip a=true then none else match G.get? a with|some _=>none|none=>(h.get? a).map fun o=>(a,o)).map (·.1),q∈l:=by
  intro l
  induction l with
  |nil=>intro _;exact⟨List.nodup_nil,fun q hq=>hq⟩
  |cons a l ih=>
   intro nd
   rw[List.nodup_cons] at nd
   obtain⟨i1,i2⟩:=ih nd.2
   rw[List.filterMap_cons]
   split
   ·exact⟨i1,fun q hq=>ad _ (i2 q hq)⟩
   ·rename_i b e
    have hb:b.1=a:=by
     split at e
     ·nomatch e
     ·split at e
      ·nomatch e
      ·obtain⟨o,_,rfl⟩:=ai e;rfl
    rw[List.map_cons,hb]
    refine⟨List.nodup_cons.mpr ⟨fun hm=>nd.1 (i2 _ hm),i1⟩,fun q hq=>?_⟩
    rcases List.mem_cons.mp hq with e|hq
    ·rw[e];exact List.mem_cons_self ..
    ·exact ad _ (i2 q hq)
 exact (key _ List.nodup_range).1
theorem vA{o v:Value}{n i:Nat}{C:Addr}{fs:List (Nat×V)}{x:V}{Q:Unit->Hp->Prop}(hv:∀B U,P B U->VR B U o (.r n)/\VR B U v x)(hn:H[n]?=some (some (.inst C fs)))(hi:gJ c.K C (c.nm i)=true\/(lk i fs).isSome=true)(hl:fs.length<=900)
  (q:Q () (H.set n (some (.inst C (pk i x fs))))):Tr (fun _ _ _ (_:Unit)=>True) c r L m P H (setAttr o (c.nm i) v) Q:=by
 intro A E s B Z U hA ht hR hF hp
 obtain⟨ho,hx⟩:=hv _ _ hp
 obtain⟨p,rfl,hφ,hc⟩:=bD hR ho hn
 have hc0:=hc
 obtain⟨hi1,hne,es0,k0,hi2,f0,hcls,hf⟩:=hc0
 have I:W.InstAt s.heap p.1 (instObj C p.2) C (some (dictOf es0 k0)):=⟨hi1,rfl,rfl,hi2⟩
 have hfld:gJ c.K C (c.nm i)=true:=by
  rcases hi with h|h
  ·exact h
  ·obtain⟨y,hy⟩:=Option.isSome_iff_exists.mp h;exact hf i y hy
 have h8:=jV hfld
 obtain⟨mm,hns,hm⟩:=hF.ex
 obtain⟨⟨b1,b2⟩,⟨z1,z2⟩,l1,l2⟩:=hR.free n p ⟨_,hn⟩ hφ
 have g2:c.G.get? p.2=none:=by
  cases w:c.G.get? p.2 with
  |none=>rfl
  |some o=>have:=hR.base.1 _ _ w;rw[b2] at this;nomatch this
 have mem:(p.2,dictOf es0 k0)∈iO c.G s.heap L qX:=mem_ledger.mpr ⟨l2,rfl,g2,hi2⟩
 obtain⟨es',e1⟩:∃es',es'=putL (c.nm i) (PyData.keyHash c.w.params (c.nm i)) (.str (c.nm i) (s.toks+1)) v es0:=⟨_,rfl⟩
 obtain⟨n',e2⟩:∃n',n'=putN (c.nm i) es0 k0:=⟨_,rfl⟩
 have f':FR c B U es' (pk i x fs):=by rw[e1];exact f0.put hx
 obtain⟨l',u,kk⟩:=Io (o':=dictOf es' n') (m7 c.G s.heap L qX) mem
 refine set_dict (h₀:=c.G) (m:=mm) (D6 hR hns) c.X (pt c.G s.heap L qX) I rfl (NH hcls) (JA hcls) (by unfold takerIn;rw[h8];rfl) (wz hcls) (f0.getL_isSome i) (by rw[←e1,←e2]) u ?_ fun hh F N=>?_
 ·rw[f'.length];exact PM (va i x fs) hl
 ·have keep:∀b o,b≠L->b≠p.2->s.heap.get? b=some o->hh.get? b=some o:=by
   intro b o hb hb2 e
   cases g:c.G.get? b with
   |some o'=>have:=(hR.base.1.trans hR.kB) _ _ g;rw[e] at this;cases this;exact F.keep _ _ g
   |none=>exact (N _ (kk (b,o) (mem_ledger.mpr ⟨hb,rfl,g,e⟩) hb2)).1
  have here:hh.get? p.2=some (dictOf es' n'):=(N _ (Dy u)).1
  refine⟨hh,s.toks+2,B,U,(),_,rfl,Sub.refl _,PSub.refl _,hR.turn (cl':=.inst C (pk i x fs)) hφ hn keep ⟨keep _ _ l1 hne hi1,hne,es',n',here,f',hcls,fun j y hy=>?_⟩,FrR.keepL hm F,trivial,q⟩
  rw[ko] at hy
  split at hy
  ·subst_vars;exact hfld
  ·exact hf j y hy
end
section
variable {c:Cx}{r:Nat}{L:Addr}{m:aD}{P:Heap->Ph->Prop}{H:Hp}{env:Env}{sc:Scope}{B Z h h':Heap}{U:Ph}
noncomputable def aN(H:Hp):V->Option Bool
 |.d x=>Mx x
 |.m _ _=>some true
 |.el=>some false
 |.r n=>match H[n]? with
  |some (some (.inst _ _))=>some true
  |some (some (.list xs))=>if xs.length<=16777216 then some (!xs.isEmpty) else none
  |some (some (.dlist xs))=>if xs.length<=16777216 then some (!xs.isEmpty) else none
  |some (some (.dict fs))=>if fs.length<=900 then some (!fs.isEmpty) else none
  |_=>none
 |_=>none
theorem f7:typeLookup (.type "method") "__bool__" = pure none:=by rw[typeLookup_type,builtinLookup_eq_fast];kernel_rfl
theorem gX:typeLookup (.type "method") "__len__" = pure none:=by rw[typeLookup_type,builtinLookup_eq_fast];kernel_rfl
theorem ly{M:Model}{A:Around}{E:SU}{s:Shared}{q:Addr}{f o:Value}{Q:Bool->Shared->Prop}(e:s.heap.get? q=some (methodObj f o))(h:Q true s):wpAny M A (truthy (.ref q)) Q E s:=by
 have hT:s.TypeIs (.ref q) "method":=⟨_,e,rfl⟩
 unfold truthy
 first
  |refine wpAny_bind (wpAny_callSpecial?_none (name:=Str.ofString "__bool__") hT f7 ?_)
  |refine wpAny_bind (wpAny_pure (wpAny_bind (wpAny_callSpecial?_none (name:=Str.ofString "__bool__") hT f7 ?_)))
 first
  |refine wpAny_bind (wpAny_specialOf (name:=Str.ofString "__len__") hT gX ?_)
  |refine wpAny_bind (wpAny_pure (wpAny_bind (wpAny_specialOf (name:=Str.ofString "__len__") hT gX ?_)))
 exact wpAny_pure h
theorem KR.lenT{c:Cx}{B:Heap}{U:Ph}{es:List (Str×Value)}{fs:List (Nat×V)}(x:KR c B U es fs):es.length=fs.length:=by
 induction x with
 |nil=>rfl
 |cons _ _ ih=>rw[ag,ag,ih]
theorem dA{α:Type}{p:Prop}[Decidable p]{a z:α}(e:(if p then some a else none)=some z):p/\a=z:=by
 by_cases h:p
 ·exact⟨h,aj ((au h).symm.trans e)⟩
 ·cases (ar h).symm.trans e
theorem qo{n:Nat}(h:n<=16777216):(n:Int)<2 ^ 63:=Int.lt_of_le_of_lt (Int.ofNat_le.mpr h) (by decide)
section
variable {p0:Program}{w0:World}{A:Around}{E:SU}{s:Shared}{z:Bool}{Post:Bool->Shared->Prop}
theorem ji{n:Nat}{vs:List Value}(h:n=vs.length):(!vs.toArray.isEmpty)=!(n==0):=by
 subst h;cases vs<;>rfl
theorem hU{a:Addr}{vs:List Value}{n:Nat}(hl:s.heap.IsList a vs.toArray)(hn:vs.length=n)(hb:n<=16777216)(done:∀tk,Post (!(n==0)) { s with toks:=tk }):wpAny (model p0 w0) A (truthy (.ref a)) Post E s:=by
 refine wpAny_truthy_list hl (by rw[List.size_toArray,hn];exact qo hb) ?_
 rw[ji hn.symm];exact done _
theorem jy{α:Type}(l:List α):(!(l.length==0))=!l.isEmpty:=by cases l<;>rfl
theorem zt{v:Value}{d:D}(hS:Sub B s.heap)(hd:DV B v d)(e:Mx d=some z)(done:∀tk,Post z { s with toks:=tk }):wpAny (model p0 w0) A (truthy v) Post E s:=by
 cases d with
 |none=>cases e;rw[hd.none_of];exact truthy_none (done s.toks)
 |bool b=>cases e;rw[hd.bool_of];exact wpAny_truthy_bool (done s.toks)
 |int i=>obtain⟨t,rfl⟩:=hd.int_of;cases e;exact PyProof.Rows.truthy_int (done s.toks)
 |str x=>
  obtain⟨t,rfl,hok⟩:=hd.str_ok
  obtain⟨hl,rfl⟩:=dA e
  refine PySem.P.truthy_str (by rw[bt];exact Int.not_le.mpr (qo hl)) ?_
  have:((x.length:Int) != 0)=!x.l.isEmpty:=by
   rw[bt]
   cases x.l with
   |nil=>rfl
   |cons a b=>exact bne_iff_ne.mpr (Int.ofNat_ne_zero.mpr (Nat.succ_ne_zero _))
  rw[this];exact done _
 |list xs=>
  obtain⟨a',o,vs,n,rfl,h1,h2,h3,h4⟩:=hd.list_of
  obtain⟨hl,rfl⟩:=dA e
  exact hU ⟨o,hS _ _ h1,h2,n,h3⟩ h4.length hl (by rw[jy];exact done)
 |tuple xs=>
  obtain⟨a',o,vs,n,rfl,h1,h2,h3,h4⟩:=hd.tuple_of
  obtain⟨hl,rfl⟩:=dA e
  refine PyProof.Rows.truthy_tuple (items:=vs.toArray) ⟨o,hS _ _ h1,h2,n,h3⟩ (by rw[List.size_toArray,h4.length];exact qo hl) ?_
  rw[ji h4.length.symm,jy];exact done _
 |dict _=>nomatch e
end
theorem c8{a:Value}{x:V}{z:Bool}{Q:Bool->Hp->Prop}(hv:∀B U,P B U->VR B U a x)(e:aN H x=some z)(q:Q z H):Tr (fun _ _ v y=>v=y) c r L m P H (truthy a) Q:=by
 intro A E s B Z U hA ht hR hF hp
 have ha:=hv _ _ hp
 have done:∀tk,EndT (fun _ _ v y=>v=y) c B Z U L m Q s z { s with toks:=tk }:=fun tk=>aM hR hF rfl q
 cases x with
 |d x=>exact zt hR.kB ha.d_of e done
 |m f n=>cases e;cases ha with
  |m hn hq=>exact ly (hR.kB _ _ hq) (done s.toks)
 |r n=>
  unfold aN at e
  dsimp only at e
  rcases hn:H[n]? with _|_|cl
  ·rw[hn] at e;nomatch e
  ·rw[hn] at e;nomatch e
  ·rw[hn] at e
   obtain⟨p,rfl,hφ,hc⟩:=bD hR ha hn
   cases cl with
   |inst C fs=>
    cases e
    exact mX hc fun es k I f hcls _=>hF.ex.elim fun mm hns=>truthy_K0 (D6 hR hns.1) c.X I (NI hcls) (NJ hcls) (done s.toks)
   |list xs=>
    obtain⟨hl,rfl⟩:=dA e
    obtain⟨_,vs,k,h1,h4⟩:=hc
    exact hU ⟨_,h1,rfl,k,rfl⟩ h4.length hl (by rw[jy];exact done)
   |dlist xs=>
    obtain⟨hl,rfl⟩:=dA e
    obtain⟨_,vs,k,h1,h4⟩:=hc
    exact hU ⟨_,h1,rfl,k,rfl⟩ h4.length hl (by rw[jy];exact done)
   |dict fs=>
    obtain⟨hl,rfl⟩:=dA e
    obtain⟨_,h0,o,es,h1,h2,h3⟩:=hc
    refine wpAny_truthy_dict h0 (Heap.dictOf_iff.mpr ⟨o,h1,h2⟩) (Rv (ak (ak (an h3.lenT) hl) (by decide))) ?_
    have:(!es.isEmpty)=!fs.isEmpty:=by cases h3<;>rfl
    rw[this];exact done _
 |el=>cases e;cases ha with
  |el h=>exact hU (n:=0) (vs:=[]) ⟨_,hR.kB _ _ h,rfl,_,rfl⟩ rfl (Nat.zero_le _) done
 |g _=>nomatch e
 |junk=>nomatch e
noncomputable def ku(K:Frag)(C:Addr)(name:Str)(f:Addr):Bool:=
 uG (findIn K (.ref C) name) (.ref f)&&fnIn K f&&isTy (typeIn K (.ref f)) "function" && (uG (specialIn K (.ref f) "__get__") (.builtin "function.__get__")&&(isF (takesIn K (.ref f))&&!copiedNames.contains name))
where
 isTy (o:Option Value) (x:String):Bool:=o.any fun v=>v==.type x
 isF (o:Option Bool):Bool:=o.any fun b=>b==false
section
variable {K:Frag}{C:Addr}{name:Str}{f:Addr}(e:ku K C name f=true)
include e
theorem Ej:findIn K (.ref C) name=some (some (.ref f)):=gQ (ay (ay (ay e).1).1).1
theorem KO:fnIn K f=true:=(ay (ay (ay e).1).1).2
theorem Ek:typeIn K (.ref f)=some (.type "function"):=dJ (ay (ay e).1).2 fun v h1 h2=>h1.trans (congrArg some (eq_of_beq h2))
theorem KP:specialIn K (.ref f) "__get__" = some (some (.builtin "function.__get__")):=gQ (ay (ay e).2).1
theorem KQ:takesIn K (.ref f)=some false:=dJ (ay (ay (ay e).2).2).1 fun v h1 h2=>h1.trans (congrArg some (eq_of_beq h2))
theorem KS:copiedNames.contains name=false:=by
 have:=(ay (ay (ay e).2).2).2
 cases h:copiedNames.contains name with
 |false=>rfl
 |true=>rw[h] at this;exact nof2 this
end
theorem zZ{o:Value}{n i:Nat}{C f:Addr}{fs:List (Nat×V)}{Q:SV}(hv:∀B U,P B U->VR B U o (.r n))(hn:H[n]?=some (some (.inst C fs)))(hi:lk i fs=none)(hm:ku c.K C (c.nm i) f=true)(q:Q (.m f n) H) :
  Tr VR c r L m P H (getAttr o (c.nm i) true) Q:=by
 intro A E s B Z U hA ht hR hF hp
 refine gN hR (hv _ _ hp) hn fun p es k hφ I fr hcls hf=>?_
 refine get_bind hR.kIn I (t0 hcls) (findObj_fn (wz hcls) (Ej hm) (KP hm) (KQ hm) (KS hm) (by rw[lookIn_dict];exact fr.getL_none hi)) (Fm hcls)
  (wpAny_call (fn_get (s:={ s with toks:=s.toks+1 }) hR.kIn (Ek hm) ?_))
 have aL:s.heap.objs.size≠L:=hF.ex.elim fun mm hns=>Nat.ne_of_gt hns.1.lt
 have g:(s.heap.push (methodObj (.ref f) (.ref p.1))).get? s.heap.objs.size=some (methodObj (.ref f) (.ref p.1)):=Heap.get?_push_size _ rfl
 obtain⟨R1,S1⟩:=hR.frozen aL (ba _) rfl g aG
 show wpAny _ _ (handedOut (.ref s.heap.objs.size)) _ _ _
 exact wpAny_pure ⟨_,s.toks+1,_,U,_,H,rfl,S1,PSub.refl _,R1,(hF.keep (fun o e=>Heap.get?_push_of_some _ e)).mono S1 (PSub.refl _),.m hφ (aH rfl),q⟩
noncomputable def mz(K:Frag)(C:Addr)(name:Str)(v:Value):Bool:=uG (findIn K (.ref C) name) v&&uH (specialIn K v "__get__")&&(handedIn v&&!copiedNames.contains name)
theorem z5{o v:Value}{n i:Nat}{C:Addr}{fs:List (Nat×V)}{x:V}{Q:SV}(hv:∀B U,P B U->VR B U o (.r n))(hn:H[n]?=some (some (.inst C fs)))(hi:lk i fs=none)(hm:mz c.K C (c.nm i) v=true)(hx:∀B U,Sub c.G B->VR B U v x)(q:Q x H) :
  Tr VR c r L m P H (getAttr o (c.nm i) true) Q:=by
 intro A E s B Z U hA ht hR hF hp
 refine gN hR (hv _ _ hp) hn fun p es k hφ I fr hcls hf=>?_
 have d:=(ay (ay hm).2).1
 have e:copiedNames.contains (c.nm i)=false:=by
  have:=(ay (ay hm).2).2
  cases h:copiedNames.contains (c.nm i) with
  |false=>rfl
  |true=>rw[h] at this;exact nof2 this
 exact get_value hR.kIn I (t0 hcls) (findObj_cls (wz hcls) (gQ (ay (ay hm).1).1) (gS (ay (ay hm).1).2) d e (by rw[lookIn_dict];exact fr.getL_none hi)) d (aM hR hF (hx _ _ hR.base.1) q)
set_option genCtorIdx false in
inductive Callee where
 |fn (f:Addr) (n:Nat)
 |bound (f:Addr) (n:Nat)
noncomputable def Callee.ctorIdx(x:Callee):Nat:=Callee.casesOn x (fun _ _=>0) (fun _ _=>1)
inductive CR(B:Heap)(U:Ph):Value×List Value->Callee->Prop
 |fn {f:Addr}{n:Nat}{p:Addr×Addr}:U n=some p->CR B U (.ref f,[.ref p.1]) (.fn f n)
 |bound {f:Addr}{n:Nat}{v:Value}:VR B U v (.m f n)->CR B U (v,[]) (.bound f n)
theorem nV{o:Value}{n i:Nat}{C f:Addr}{fs:List (Nat×V)}{pl:Sem Bool}{Q:Callee->Hp->Prop}(hv:∀B U,P B U->VR B U o (.r n))(hn:H[n]?=some (some (.inst C fs)))(hi:lk i fs=none)(hm:ku c.K C (c.nm i) f=true)(q:Q (.fn f n) H) :
  Tr CR c r L m P H (getMethod o (c.nm i) pl) Q:=by
 intro A E s B Z U hA ht hR hF hp
 refine gN hR (hv _ _ hp) hn fun p es k hφ I fr hcls hf=>?_
 exact method_fn hR.kIn I (t0 hcls) (Fm hcls) (Ej hm) (Ek hm) (by show (lookIn _ _).map _ = _;rw[lookIn_dict,fr.getL_none hi];rfl) (aM (tk:=s.toks) hR hF (.fn hφ) q)
theorem i7{o:Value}{n i k:Nat}{C f:Addr}{fs:List (Nat×V)}{pl:Sem Bool}{Q:Callee->Hp->Prop}(hv:∀B U,P B U->VR B U o (.r n))(hn:H[n]?=some (some (.inst C fs)))(hi:lk i fs=some (.m f k))(q:Q (.bound f k) H) :
  Tr CR c r L m P H (getMethod o (c.nm i) pl) Q:=by
 intro A E s B Z U hA ht hR hF hp
 refine gN hR (hv _ _ hp) hn fun p es kk hφ I fr hcls hf=>?_
 have h8:=jV (hf i _ hi)
 obtain⟨v,hg,rv⟩:=fr.getL hi
 refine method_usual hR.kIn I (t0 hcls) (Fm hcls) h8 rfl ?_
 exact get_value hR.kIn I (t0 hcls) (findObj_own (wz hcls) h8 rfl (by rw[lookIn_dict];exact hg)) (jg rv rfl) (aM hR hF (.bound rv) q)
end
inductive DH(B:Heap)(U:Ph):Flow->Fl->Prop
 |next:DH B U .next .next
 |brk:DH B U .brk .brk
 |ret {v:Value}{x:V}:VR B U v x->DH B U (.ret v) (.ret x)
inductive EndS(c:Cx)(B Z:Heap)(U:Ph)(L:Addr)(k:Nat)(Q:Fl->aD->Hp->Prop)(s:Shared)(f:Flow)(s':Shared):Prop
 |mk (h':Heap) (tk:Nat) (B':Heap) (U':Ph) (fl:Fl) (m':aD) (H':Hp) (e:s'={ s with heap:=h',toks:=tk }) (sb:Sub B B') (ps:∀n p,n<k->U n=some p->U' n=some p) (rl:Rel c B' Z U' L H' h') (fr:FrR c B' U' L m' h') (ff:DH B' U' f fl) (q:Q fl m' H')
def TrS(c:Cx)(r:Nat)(L:Addr)(k:Nat)(m:aD)(H:Hp)(t:Sem Flow)(Q:Fl->aD->Hp->Prop):Prop:=
 ∀A (E:SU) s B Z U,Room r A->1<=s.toks->Rel c B Z U L H s.heap->FrR c B U L m s.heap->wpAny c.M A t (fun f s'=>EndS c B Z U L k Q s f s') E s
inductive EndC(c:Cx)(B Z:Heap)(U:Ph)(Q:SV)(s:Shared)(v:Value)(s':Shared):Prop
 |mk (h':Heap) (tk:Nat) (B':Heap) (U':Ph) (x:V) (H':Hp) (L':Addr) (e:s'={ s with heap:=h',toks:=tk }) (sb:Sub B B') (ps:PSub U U') (rl:Rel c B' Z U' L' H' h') (rv:VR B' U' v x) (q:Q x H')
theorem EndC.at{c:Cx}{B Z:Heap}{U:Ph}{Q:SV}{s s₁ s':Shared}{v:Value}{h1:Heap}{t1:Nat}(e:s₁={ s with heap:=h1,toks:=t1 })(x:EndC c B Z U Q s₁ v s'):EndC c B Z U Q s v s':=by
 subst e
 obtain⟨h',tk,B',U',x,H',L',rfl,q1,q2,q3,q4,q5⟩:=x
 exact⟨h',tk,B',U',x,H',L',rfl,q1,q2,q3,q4,q5⟩
def SemCall(c:Cx)(r:Nat)(f:Value)(xs:List V)(H:Hp)(Q:SV):Prop:=
 ∀A (E:SU) s B Z U vals,Room r A->1<=s.toks->Rel c B Z U s.heap.objs.size H s.heap->VRs B U vals xs ->
  codeAny c.M A (.call f ⟨vals,[]⟩) (fun r s'=>match r with|.ok (.ret v)=>EndC c B Z U Q s v s'|.ok _=>False|.error e=>E e s') s
section
variable {c:Cx}{r:Nat}{L:Addr}{m:aD}{P:Heap->Ph->Prop}{H:Hp}{env:Env}{sc:Scope}{B Z h h':Heap}{U:Ph}
theorem TrS.run{k:Nat}{t:Sem Flow}{Q:Fl->aD->Hp->Prop}(h:TrS c r L k m H t Q){A:Around}{E:SU}{s:Shared}{B Z:Heap}{U:Ph}(hA:Room r A)(ht:1<=s.toks)(hR:Rel c B Z U L H s.heap)(hF:FrR c B U L m s.heap){K:Flow->Shared->Prop}
  (g:∀f h' tk B' U' fl m' H',1<=tk->Sub B B'->(∀n p,n<k->U n=some p->U' n=some p)->Rel c B' Z U' L H' h'->FrR c B' U' L m' h'->DH B' U' f fl->Q fl m' H'->K f { s with heap:=h',toks:=tk }):wpAny c.M A t K E s:=by
 refine wpAny_mono (wpAny_toks_of ht (h A E s B Z U hA ht hR hF)) ?_ fun _ _ x=>x.2
 rintro f s' ⟨ht',h',tk,B',U',fl,m',H',rfl,b,p,R1,F1,fr,q⟩
 exact g f h' tk B' U' fl m' H' ht' b p R1 F1 fr q
theorem SemCall.mono{f:Value}{xs:List V}{Q Q':SV}(x:SemCall c r f xs H Q)(q:∀x H',Q x H'->Q' x H'):SemCall c r f xs H Q':=by
 intro A E s B Z U vals hA ht hR hv
 refine codeAny_mono (x A E s B Z U vals hA ht hR hv) fun r s' hr=>?_
 rcases r with e|fl
 ·exact hr
 ·cases fl with
  |ret v=>obtain⟨h',tk,B',U',y,H',L',e,b,p,R,rv,k⟩:=hr;exact⟨h',tk,B',U',y,H',L',e,b,p,R,rv,q _ _ k⟩
  |next=>exact hr
  |brk=>exact hr
  |cont=>exact hr
theorem aT{a:Addr}{o:Obj}(e:h.get? a=some o):o.isFreed=false:=by
 unfold Heap.get? at e
 rcases hx:h.objs[a]? with _|⟨c1,d1,dt,sl⟩
 ·rw[hx] at e;nomatch e
 ·rw[hx] at e
  cases dt<;>first|(cases e;rfl)|exact nope e
theorem Rel.enter{o:Obj}(R:Rel c B Z U L H h)(e:h.get? L=some o):Rel c B (aI Z L o) U h.objs.size H h:=by
 have hlt:=Heap.lt_size e
 have ho:=aT e
 have nB:B.get? h.objs.size=none:=by
  cases q:B.get? h.objs.size with
  |none=>rfl
  |some x=>have:=R.kB _ _ q;rw[aG] at this;nomatch this
 have nZ:Z.get? h.objs.size=none:=by
  cases q:Z.get? h.objs.size with
  |none=>rfl
  |some x=>have:=R.kZ _ _ q;rw[aG] at this;nomatch this
 refine⟨R.base,R.kB,Sub.put_in ho R.kZ e,R.cell,fun n p hl hp=>?_,R.apart,R.dom,nB,?_,ak R.LG (Nat.le_of_lt hlt),fun b o' e'=>?_⟩
 ·obtain⟨⟨b1,b2⟩,⟨z1,z2⟩,l1,l2⟩:=R.free n p hl hp
  refine⟨⟨b1,b2⟩,⟨by rw[aE ho l1];exact z1,by rw[aE ho l2];exact z2⟩,?_,?_⟩
  ·obtain⟨cl,hcl⟩:=hl
   obtain⟨q,hq,hc⟩:=R.cell n cl hcl
   rw[hp] at hq;nomatch hq
   obtain⟨⟨o1,e1⟩,_⟩:=eb hc
   exact Nat.ne_of_lt (Heap.lt_size e1)
  ·obtain⟨cl,hcl⟩:=hl
   obtain⟨q,hq,hc⟩:=R.cell n cl hcl
   rw[hp] at hq;nomatch hq
   obtain⟨_,o1,e1⟩:=eb hc
   exact Nat.ne_of_lt (Heap.lt_size e1)
 ·rw[aE ho (Ne.symm (Nat.ne_of_lt hlt))];exact nZ
 ·rw[aU _ _ _ ho] at e'
  by_cases q:b=L
  ·subst q;exact R.LB
  ·rw[ar q] at e';exact R.BZ b o' e'
theorem Rel.leave{o:Obj}{L':Addr}(R:Rel c B (aI Z L o) U L' H h)(ho:o.isFreed=false)(hZ:Z.get? L=none)(hG:c.G.objs.size<=L):Rel c B Z U L H h/\h.get? L=some o:=by
 have s:Sub Z (aI Z L o):=Sub.put ho hZ
 have here:h.get? L=some o:=R.kZ _ _ (aH ho)
 refine⟨⟨R.base,R.kB,s.trans R.kZ,R.cell,fun n p hl hp=>?_,R.apart,R.dom,R.BZ _ _ (aH ho),hZ,hG,fun b o' e=>R.BZ b o' (s _ _ e)⟩,here⟩
 obtain⟨b12,⟨z1,z2⟩,_,_⟩:=R.free n p hl hp
 have ne:∀a,(aI Z L o).get? a=none->a≠L/\Z.get? a=none:=by
  intro a ha
  by_cases q:a=L
  ·subst q;rw[aH ho] at ha;nomatch ha
  ·rw[aE ho q] at ha;exact⟨q,ha⟩
 exact⟨b12,⟨(ne _ z1).2,(ne _ z2).2⟩,(ne _ z1).1,(ne _ z2).1⟩
theorem tA{f:Value}{vals:List Value}{xs:List V}{Q:SV}(hv:∀B U,P B U->VRs B U vals xs)(h:SemCall c r f xs H Q):Tr VR c r L m P H (call f vals) Q:=by
 intro A E s B Z U hA ht hR hF hp
 obtain⟨mm,⟨o,es,ep,e,hd⟩,hm⟩:=hF.ex
 refine wpAny_call (codeAny_mono (h A E s B _ U vals hA ht (hR.enter e) (hv _ _ hp)) fun r s' hr=>?_)
 rcases r with e'|fl
 ·exact hr
 ·cases fl with
  |ret v=>
   obtain⟨h',tk,B',U',y,H',L',rfl,b,p,R,rv,k⟩:=hr
   obtain⟨R1,here⟩:=R.leave (aT e) hR.LZ hR.LG
   exact⟨h',tk,B',U',y,H',rfl,b,p,R1,⟨mm,⟨o,es,ep,here,hd⟩,fun i x q=>(hm i x q).imp fun w z=>⟨z.1.mono b,z.2.mono b p⟩⟩,rv,k⟩
  |next=>exact hr
  |brk=>exact hr
  |cont=>exact hr
theorem vj{f:Addr}{n:Nat}{q:Value}{xs:List V}{Q:SV}(h:SemCall c r (.ref f) (.r n::xs) H Q) :
  ∀A (E:SU) s B Z U vals,Room r A->1<=s.toks->Rel c B Z U s.heap.objs.size H s.heap->VRs B U vals xs->VR B U q (.m f n) ->
  codeAny c.M A (.call q ⟨vals,[]⟩) (fun r s'=>match r with|.ok (.ret v)=>EndC c B Z U Q s v s'|.ok _=>False|.error e=>E e s') s:=by
 intro A E s B Z U vals hA ht hR hv hq
 cases hq with
 |m hn hq=>exact method_call (hR.kB _ _ hq) (h A E s B Z U _ hA ht hR (.cons (.r hn) hv))
theorem lw{f:Addr}{n:Nat}{q:Value}{vals:List Value}{xs:List V}{Q:SV}(hv:∀B U,P B U->VRs B U vals xs/\VR B U q (.m f n))(h:SemCall c r (.ref f) (.r n::xs) H Q):Tr VR c r L m P H (call q vals) Q:=by
 intro A E s B Z U hA ht hR hF hp
 obtain⟨mm,⟨o,es,ep,e,hd⟩,hm⟩:=hF.ex
 obtain⟨h1,h2⟩:=hv _ _ hp
 refine wpAny_call (codeAny_mono (vj h A E s B _ U vals hA ht (hR.enter e) h1 h2) fun r s' hr=>?_)
 rcases r with e'|fl
 ·exact hr
 ·cases fl with
  |ret v=>
   obtain⟨h',tk,B',U',y,H',L',rfl,b,p,R,rv,k⟩:=hr
   obtain⟨R1,here⟩:=R.leave (aT e) hR.LZ hR.LG
   exact⟨h',tk,B',U',y,H',rfl,b,p,R1,⟨mm,⟨o,es,ep,here,hd⟩,fun i x q=>(hm i x q).imp fun w z=>⟨z.1.mono b,z.2.mono b p⟩⟩,rv,k⟩
  |next=>exact hr
  |brk=>exact hr
  |cont=>exact hr
theorem bI{Q:List V->Hp->Prop}(q:Q [] H):Tr VRs c r L m P H (spliced []) Q:=
 fun A E s B Z U hA ht hR hF hp=>spliced_nil (aM (tk:=s.toks) hR hF .nil q)
theorem cv{t:Sem Value}{rest:List (Bool×Sem Value)}{Q:List V->Hp->Prop}(hP:Mono P)
  (h:Tr VR c r L m P H t fun x H'=>∀v,Tr VRs c r L m (fun B U=>P B U/\VR B U v x) H' (spliced rest) fun xs H''=>Q (x::xs) H''):Tr VRs c r L m P H (spliced ((false,t)::rest)) Q:=by
 intro A E s B Z U hA ht hR hF hp
 refine spliced_cons (Tr.run (h) hA ht hR hF hp fun v h' tk B' U' x H' ht' b p R1 F1 rv q=>?_)
 refine wpAny_mono (q v A E _ B' Z U' hA ht' R1 F1 ⟨hP _ _ _ _ b p hp,rv⟩) ?_ fun _ _ x=>x
 rintro vs s'' ⟨h2,tk2,B2,U2,xs,H2,rfl,b2,p2,R2,F2,rvs,q2⟩
 exact⟨h2,tk2,B2,U2,_,H2,rfl,b.trans b2,p.trans p2,R2,F2,.cons (rv.mono b2 p2) rvs,q2⟩
theorem Mono.true:Mono fun _ _=>True:=fun _ _ _ _ _ _ _=>trivial
theorem Mono.and{P P':Heap->Ph->Prop}(a:Mono P)(b:Mono P'):Mono fun B U=>P B U/\P' B U:=fun _ _ _ _ s p x=>⟨a _ _ _ _ s p x.1,b _ _ _ _ s p x.2⟩
theorem Mono.vr(v:Value)(x:V):Mono fun B U=>VR B U v x:=fun _ _ _ _ s p h=>h.mono s p
theorem dS{v:Value}{x:V}:Mono fun B U=>True/\VR B U v x:=Mono.and Mono.true (Mono.vr v x)
theorem Mono.cr(v:Value×List Value)(x:Callee):Mono fun B U=>CR B U v x:=fun _ _ _ _ s p h=>by
 cases h with
 |fn h=>exact .fn (p _ _ h)
 |bound h=>exact .bound (h.mono s p)
theorem bP{β:Type}{R:Heap->Ph->Value->β->Prop}{pos:Pos}{f:Value}{first:List Value}{ts:List (Sem Value)}{Q:β->Hp->Prop}(hP:Mono P)
  (hk:∀B U,P B U->∀h,c.K.In h->Sub B h->∃k,(k=Keeper.frame\/k=Keeper.machine\/k=Keeper.boundFrame)/\Looks c.M h (keeperOf f) k)
  (h:Tr VRs c r L m P H (spliced (ts.map fun t=>(false,t))) fun xs H'=>∀vals,Tr R c r L m (fun B U=>P B U/\VRs B U vals xs) H' (call f (first++vals)) Q) :
  Tr R c r L m P H (callWith pos f first (ts.map fun t=>(false,t)) []) Q:=by
 intro A E s B Z U hA ht hR hF hp
 refine callWith_of (P:=fun h=>c.K.In h/\Sub B h) (by induction ts<;>simp_all) (fun h hh=>hk B U hp h hh.1 hh.2) ?_
 have main:wpAny c.M A (spliced (ts.map fun t=>(false,t))) (fun vs s₁=>(c.K.In s₁.heap/\Sub B s₁.heap)/\wpAny c.M A (call f (first++vs)) (fun v s'=>EndT R c B Z U L m Q s v s') E s₁) E s:=by
  refine Tr.run (h) hA ht hR hF hp fun vals h' tk B' U' xs H' ht' b p R1 F1 rv q=>?_
  exact⟨⟨R1.kIn,b.trans R1.kB⟩,wpAny_mono (q vals A E _ B' Z U' hA ht' R1 F1 ⟨hP _ _ _ _ b p hp,rv⟩) (fun v' s'' z=>z.trans rfl b p) fun _ _ x=>x⟩
 cases ts with
 |nil=>
  unfold evalArgs
  show wpAny c.M A (spliced [] >>= _) _ _ _
  refine wpAny_bind (wpAny_mono main (fun vs s' h'=>?_) fun _ _ x=>x)
  refine wpAny_holding ?_
  exact wpAny_bind (wpAny_pure (wpAny_bind (wpAny_pure (wpAny_pure h'))))
 |cons t ts=>exact evalArgs_plain main
end
noncomputable def lq(k:Nat):V->Bool
 |.r n=>decide (n<k)
 |.m _ n=>decide (n<k)
 |_=>true
noncomputable def bj(k:Nat):List (Nat×V)->Bool
 |[]=>true
 |p::r=>lq k p.2&&bj k r
noncomputable def th(k:Nat):List V->Bool
 |[]=>true
 |p::r=>lq k p&&th k r
noncomputable def pL(k:Nat):Cell->Bool
 |.inst _ fs=>bj k fs
 |.list vs=>th k vs
 |.dlist _=>true
 |.dict fs=>bj k fs
noncomputable def lp(k:Nat):Hp->Bool
 |[]=>true
 |none::r=>lp k r
 |some cl::r=>pL k cl&&lp k r
noncomputable def eD(k:Nat)(U:Ph):Ph:=fun n=>if n<k then U n else none
noncomputable def ve(k:Nat)(H:Hp):V->Option V
 |.r n=>if n<k then some (.r n) else match H[n]? with
  |some (some (.dlist ds))=>some (.d (.list ds))
  |_=>none
 |.m f n=>if n<k then some (.m f n) else none
 |x=>some x
noncomputable def Pw:Fl->V
 |.ret x=>x
 |_=>.d .none
def ip(k:Nat)(Q:SV)(fl:Fl)(_m:aD)(H:Hp):Prop:=
 ∃kk,k<=kk/\(H.length<=kk\/lp kk (H.take kk)=true)/\∃y,ve kk H (Pw fl)=some y/\Q y (H.take kk)
section
variable {c:Cx}{r:Nat}{L:Addr}{m:aD}{P:Heap->Ph->Prop}{H:Hp}{env:Env}{sc:Scope}{B Z h h':Heap}{U:Ph}
theorem VR.cut{k:Nat}{v:Value}{x:V}(h:VR B U v x)(e:lq k x=true):VR B (eD k U) v x:=by
 cases h with
 |d h=>exact .d h
 |r h=>exact .r (by unfold eD;rw[au (of_decide_eq_true e)];exact h)
 |g=>exact .g _
 |m h q=>exact .m (by unfold eD;rw[au (of_decide_eq_true e)];exact h) q
 |el h=>exact .el h
 |junk=>exact .junk _
theorem VRs.cut{k:Nat}  {vs:List Value}{xs:List V}(h:VRs B U vs xs)(e:th k xs=true):VRs B (eD k U) vs xs:=by
 induction h with
 |nil=>exact .nil
 |cons h r ih=>
  refine aS e fun e1 e2=>?_
  exact .cons (h.cut e1) (ih e2)
theorem FR.cut{k:Nat}  {es:List DictEntry}{fs:List (Nat×V)}(h:FR c B U es fs)(e:bj k fs=true):FR c B (eD k U) es fs:=by
 induction h with
 |nil=>exact .nil
 |cons h q v r ih=>
  refine aS e fun e1 e2=>?_
  exact .cons h q (v.cut e1) (ih e2)
theorem KR.cut{k:Nat}  {es:List (Str×Value)}{fs:List (Nat×V)}(h:KR c B U es fs)(e:bj k fs=true):KR c B (eD k U) es fs:=by
 induction h with
 |nil=>exact .nil
 |cons v r ih=>
  refine aS e fun e1 e2=>?_
  exact .cons (v.cut e1) (ih e2)
theorem CellAt.cut{k:Nat}{p:Addr×Addr}:∀{cl:Cell},CellAt c h B U p cl->pL k cl=true->CellAt c h B (eD k U) p cl
 :=by
 intro cl x e
 cases cl with
 |inst=>obtain⟨a,n,es,j,b,f,g,g2⟩:=x;exact⟨a,n,es,j,b,f.cut e,g,g2⟩
 |list=>obtain⟨e1,vs,j,a,f⟩:=x;exact⟨e1,vs,j,a,f.cut e⟩
 |dlist=>exact x
 |dict=>obtain⟨e1,ns,o,es,a,b,f⟩:=x;exact⟨e1,ns,o,es,a,b,f.cut e⟩
theorem CZ{k:Nat}:∀{H:Hp}{n:Nat}{cl:Cell},lp k H=true->H[n]?=some (some cl)->pL k cl=true:=by
 intro H
 induction H with
 |nil=>intro n cl _ e;nomatch e
 |cons o r ih=>
  intro n cl h e
  have hr:lp k r=true:=by
   cases o with
   |none=>exact h
   |some cl'=>exact (ay h).2
  cases n with
  |zero=>
   cases e
   exact (ay h).1
  |succ n=>exact ih hr e
theorem nS{k n:Nat}{x:Option Cell}(e:(H.take k)[n]?=some x):H[n]?=some x/\n<k:=by
 rw[List.getElem?_take] at e
 split at e
 ·exact⟨e,‹_›⟩
 ·nomatch e
theorem Rel.cut(R:Rel c B Z U L H h){k:Nat}(e:lp k (H.take k)=true):Rel c B Z (eD k U) L (H.take k) h:=by
 have lv:∀n,dD (H.take k) n->dD H n:=fun n ⟨cl,x⟩=>⟨cl,(nS x).1⟩
 have pv:∀n p,eD k U n=some p->U n=some p:=fun n p x=>by
  unfold eD at x
  split at x
  ·exact x
  ·nomatch x
 refine⟨R.base,R.kB,R.kZ,fun n cl x=>?_,fun n p hl hp=>R.free n p (lv n hl) (pv n p hp),fun n n' p p' ne hl hl' hp hp'=>R.apart n n' p p' ne (lv n hl) (lv n' hl') (pv n p hp) (pv n' p' hp'),fun n hn=>?_,R.LB,R.LZ,R.LG,R.BZ⟩
 ·obtain⟨p,hp,hc⟩:=R.cell n cl (nS x).1
  exact⟨p,by unfold eD;rw[au (nS x).2];exact hp,hc.cut (CZ e x)⟩
 ·unfold eD
  split
  ·rename_i q
   rw[List.length_take] at hn
   exact R.dom n (PS hn q)
  ·rfl
theorem Rel.cut2(R:Rel c B Z U L H h){k:Nat}(e:H.length<=k\/lp k (H.take k)=true):Rel c B Z (eD k U) L (H.take k) h:=by
 rcases e with e|e
 ·have e1:eD k U=U:=by
   funext n
   unfold eD
   split
   ·rfl
   ·exact (R.dom n (PQ e (by assumption))).symm
  rw[e1,List.take_of_length_le e];exact R
 ·exact R.cut e
theorem Rel.freeze{n:Nat}{p:Addr×Addr}{ds:List D}(R:Rel c B Z U L H h)(hφ:U n=some p)(hn:H[n]?=some (some (.dlist ds))):∃B',Sub B B'/\Rel c B' Z U L (H.set n none) h/\DV B' (.ref p.1) (.list ds):=by
 obtain⟨p',hp',hc⟩:=R.cell n _ hn
 rw[hφ] at hp';nomatch hp'
 obtain⟨hpp,vs,k,ha,hd⟩:=hc
 obtain⟨⟨b1,b2⟩,⟨z1,z2⟩,l1,l2⟩:=R.free n p ⟨_,hn⟩ hφ
 have s:Sub B (aI B p.1 (listOf vs.toArray k)):=Sub.put rfl b1
 have lv:∀j,dD (H.set n none) j->dD H j/\n≠j:=by
  rintro j ⟨cl,e⟩
  rw[List.getElem?_set] at e
  by_cases z:n=j
  ·rw[au z] at e;split at e<;>cases e
  ·rw[ar z] at e;exact⟨⟨cl,e⟩,z⟩
 refine⟨_,s,⟨R.base.trans s,Sub.put_in rfl R.kB ha,R.kZ,fun j cl e=>?_,fun j q hl hq=>?_,fun j j' q q' ne hl hl'=>R.apart j j' q q' ne (lv j hl).1 (lv j' hl').1,fun j hj=>R.dom j (by rw[List.length_set] at hj;exact hj),?_,R.LZ,R.LG,fun b o e=>?_⟩,DV.list_at (aH rfl) (hd.mono s)⟩
 ·have z:n≠j:=(lv j ⟨cl,e⟩).2
  rw[List.getElem?_set,ar z] at e
  obtain⟨q,hq,hcl⟩:=R.cell j cl e
  exact⟨q,hq,hcl.mono s (PSub.refl _) (fun _ x=>x) fun _ x=>x⟩
 ·obtain⟨hl,z⟩:=lv j hl
  obtain⟨⟨c1,c2⟩,zz,ll⟩:=R.free j q hl hq
  obtain⟨a1,a2,a3,a4⟩:=R.apart n j p q z ⟨_,hn⟩ hl hφ hq
  exact⟨⟨by rw[aE rfl (Ne.symm a1)];exact c1,by rw[aE rfl (Ne.symm a2)];exact c2⟩,zz,ll⟩
 ·rw[aE rfl (Ne.symm l1)];exact R.LB
 ·rw[aE rfl (fun q=>by subst q;rw[z1] at e;nomatch e)];exact R.BZ b o e
theorem C1{kk:Nat}{v:Value}{x y:V}(R:Rel c B Z U L H h)(hr:H.length<=kk\/lp kk (H.take kk)=true)(hv:VR B U v x)(hx:ve kk H x=some y):∃B2,Sub B B2/\Rel c B2 Z (eD kk U) L (H.take kk) h/\VR B2 (eD kk U) v y:=by
 cases x with
 |r n=>
  unfold ve at hx
  dsimp only at hx
  by_cases hn:n<kk
  ·rw[au hn] at hx;nomatch hx
   exact⟨B,Sub.refl _,R.cut2 hr,hv.cut (decide_eq_true hn)⟩
  ·rw[ar hn] at hx
   rcases hds:H[n]? with _|_|cl
   ·rw[hds] at hx;nomatch hx
   ·rw[hds] at hx;nomatch hx
   ·rw[hds] at hx
    cases cl with
    |dlist ds=>
     cases hx
     cases hv with
     |r hp=>
      obtain⟨B2,s2,R2,dv⟩:=R.freeze hp hds
      have et:(H.set n none).take kk=H.take kk:=by rw[List.take_set_of_le (Nat.le_of_not_lt hn)]
      have R3:=R2.cut2 (k:=kk) (by rw[et,List.length_set];exact hr)
      rw[et] at R3
      exact⟨B2,s2,R3,.d dv⟩
    |_=>nomatch hx
 |m f n=>
  unfold ve at hx
  dsimp only at hx
  by_cases hn:n<kk
  ·rw[au hn] at hx;nomatch hx
   exact⟨B,Sub.refl _,R.cut2 hr,hv.cut (decide_eq_true hn)⟩
  ·rw[ar hn] at hx;nomatch hx
 |d x=>cases hx;exact⟨B,Sub.refl _,R.cut2 hr,hv.cut rfl⟩
 |g x=>cases hx;exact⟨B,Sub.refl _,R.cut2 hr,hv.cut rfl⟩
 |el=>cases hx;exact⟨B,Sub.refl _,R.cut2 hr,hv.cut rfl⟩
 |junk=>cases hx;exact⟨B,Sub.refl _,R.cut2 hr,hv.cut rfl⟩
theorem oH{s:Shared}{k:Nat}{Q:SV}{f:Flow}{s':Shared}(hd:∀n,k<=n->U n=none)(x:EndS c B Z U L k (ip k Q) s f s'):EndC c B Z U Q s (match f with|.ret v=>v|_=>.none) s':=by
 obtain⟨h',tk,B',U',fl,m',H',e,b,p,R,F,fr,kk,hk,hr,y,hy,q⟩:=x
 have ps:PSub U (eD kk U'):=fun n pp hp=>by
  have hn:n<k:=Nat.lt_of_not_le fun z=>by rw[hd n z] at hp;nomatch hp
  unfold eD
  rw[au (Nat.lt_of_lt_of_le hn hk)]
  exact p n pp hn hp
 have go:∀v x,VR B' U' v x->ve kk H' x=some y->EndC c B Z U Q s v s':=fun v x hv hx=>by
  obtain⟨B2,s2,R2,v2⟩:=C1 R hr hv hx
  exact⟨h',tk,B2,_,_,_,_,e,b.trans s2,ps,R2,v2,q⟩
 cases fr with
 |ret hv=>exact go _ _ hv hy
 |next=>exact go _ _ (.d DV.none) hy
 |brk=>exact go _ _ (.d DV.none) hy
noncomputable def nv(f:FuncData->Bool)(d:Data):Bool:=if h:d.ctorIdx=7 then Data.func.elim (motive:=fun _=>Bool) d h f else false
@[elab_as_elim] theorem sW{f:FuncData->Bool}{C:Data->Prop}{d:Data}(h:nv f d=true)(k:∀fd,f fd=true->C (.func fd)):C d:=by
 by_cases hi:d.ctorIdx=7
 ·exact Data.func.elim (motive:=fun d=>nv f d=true->C d) d hi k h
 ·exact nof2 ((dif_neg hi).symm.trans h)
noncomputable def kC(f:Array Value->Bool)(d:Data):Bool:=if h:d.ctorIdx=9 then Data.fields.elim (motive:=fun _=>Bool) d h f else false
@[elab_as_elim] theorem u8{f:Array Value->Bool}{C:Data->Prop}{d:Data}(h:kC f d=true)(k:∀vs,f vs=true->C (.fields vs)):C d:=by
 by_cases hi:d.ctorIdx=9
 ·exact Data.fields.elim (motive:=fun d=>kC f d=true->C d) d hi k h
 ·exact nof2 ((dif_neg hi).symm.trans h)
noncomputable def yG(f:Addr->Bool)(d:Value):Bool:=if h:d.ctorIdx=10 then Value.ref.elim (motive:=fun _=>Bool) d h f else false
@[elab_as_elim] theorem Hc{f:Addr->Bool}{C:Value->Prop}{d:Value}(h:yG f d=true)(k:∀a,f a=true->C (.ref a)):C d:=by
 by_cases hi:d.ctorIdx=10
 ·exact Value.ref.elim (motive:=fun d=>yG f d=true->C d) d hi k h
 ·exact nof2 ((dif_neg hi).symm.trans h)
noncomputable def yL(f:Str->Bool)(d:Value):Bool:=if h:d.ctorIdx=6 then Value.str.elim (motive:=fun _=>Bool) d h fun x _=>f x else false
@[elab_as_elim] theorem He{f:Str->Bool}{C:Value->Prop}{d:Value}(h:yL f d=true)(k:∀x t,f x=true->C (.str x t)):C d:=by
 by_cases hi:d.ctorIdx=6
 ·exact Value.str.elim (motive:=fun d=>yL f d=true->C d) d hi k h
 ·exact nof2 ((dif_neg hi).symm.trans h)
noncomputable def nq(f:List Stmt->Bool)(d:FuncBody):Bool:=if h:d.ctorIdx=0 then FuncBody.stmts.elim (motive:=fun _=>Bool) d h f else false
@[elab_as_elim] theorem sN{f:List Stmt->Bool}{C:FuncBody->Prop}{d:FuncBody}(h:nq f d=true)(k:∀b,f b=true->C (.stmts b)):C d:=by
 by_cases hi:d.ctorIdx=0
 ·exact FuncBody.stmts.elim (motive:=fun d=>nq f d=true->C d) d hi k h
 ·exact nof2 ((dif_neg hi).symm.trans h)
noncomputable def qw(K:Frag)(q:Str)(v:Value):Bool:=yG (fun cc=>(K.lookup cc).any fun o=>kC (fun vs=>(vs[1]?).any (yL fun x=>x==q)) o.data) v
inductive CodeAt(K:Frag)(q:Str):Value->Prop
 |mk {cc:Addr}{oc:Obj}{vs:Array Value}{t:Tok} (h1:K.lookup cc=some oc) (h2:oc.data=.fields vs) (h3:vs[1]?=some (.str q t)):CodeAt K q (.ref cc)
theorem CodeAt.recd{K:Frag}{q:Str}{v:Value}{h:Heap}(x:CodeAt K q v)(hK:K.In h):h.CodeRec v q:=by
 cases x with
 |mk a1 a2 a3=>exact⟨_,_,_,_,rfl,hK _ _ a1,a2,a3⟩
theorem lD{K:Frag}{q:Str}{v:Value}(h:qw K q v=true):CodeAt K q v:=
 Hc h fun cc h=>dJ h fun o h1 h=>(u8 (C:=fun d=>o.data=d->CodeAt K q (.ref cc)) h fun vs h e=>dJ h fun w h2 h=>(He (C:=fun w=>vs[1]?=some w->CodeAt K q (.ref cc)) h fun x t h h3=>.mk h1 e (h3.trans (congrArg (fun y=>some (Value.str y t)) (eq_of_beq h)))) h2) rfl
noncomputable def jW(K:Frag)(a:Addr)(chk:Scope->List Stmt->Bool):Bool:=(K.lookup a).any fun o=>nv (fun fd=>
  nq (chk fd.scope) fd.body&&decide (fd.scope.kind=.function)&&(!fd.scope.isCoroutine&&!fd.scope.isGenerator)
  && fd.scope.names.all (fun x=>!cI x.2)&&(Nat.beq fd.globals mainGlobals&&(Nat.beq fd.builtins builtinsNs&&qw K fd.qualname fd.code))) o.data
noncomputable def a8(K:Frag)(S:Setting)(a:Addr)(vals:List Value):Option (List (Str×Value)):=match K.lookup a with
 |some ⟨_,_,.func fd,_⟩=>peek K S (bindArgs fd ⟨vals,[]⟩)
 |_=>none
theorem Eo{c:Cx}{sc:Scope}{env:Env}(h:∀x∈sc.names,cI x.2=false):∀i p,lP i c.fr=some p->(sc.names.lookup (c.nm i)).any cI=true->env.cells.lookup (c.nm i)=some p.1:=fun i p _ e=>by
 refine dJ e fun k h1 h2=>?_
 rw[h _ (mem_of_lookup h1)] at h2;exact nof2 h2
theorem pG{b:Bool}(h:(!b)=true):b=false:=by cases b;rfl;exact nof2 h
inductive EV(K:Frag)(a:Addr)(chk:Scope->List Stmt->Bool):Prop
 |mk {o:Obj}{fd:FuncData}{body:List Stmt} (h1:K.lookup a=some o) (h2:o.data=.func fd) (h3:fd.body=.stmts body) (h4:chk fd.scope body=true) (h5:fd.scope.kind=.function) (h6:fd.scope.isCoroutine=false) (h7:fd.scope.isGenerator=false)
  (h8:∀x∈fd.scope.names,cI x.2=false) (h9:fd.globals=mainGlobals) (h10:fd.builtins=builtinsNs) (h11:CodeAt K fd.qualname fd.code)
theorem BD{K:Frag}{a:Addr}{chk:Scope->List Stmt->Bool}(e:jW K a chk=true):EV K a chk:=
 dJ e fun o h1 e=>(sW (C:=fun d=>o.data=d->EV K a chk) e fun fd e h2=>aS e fun e e9=>aS e fun e e5=>aS e fun e e3=>aS e fun e1 e2=>
  (sN (C:=fun b=>fd.body=b->EV K a chk) e1 fun body h4 h3=>.mk h1 h2 h3 h4 (of_decide_eq_true e2) (pG (ay e3).1) (pG (ay e3).2) (fun x hx=>pG (aq e5 x hx))
   (Nat.eq_of_beq_eq_true (ay e9).1) (Nat.eq_of_beq_eq_true (ay (ay e9).2).1) (lD (ay (ay e9).2).2)) rfl) rfl
theorem tX{i:Nat}{x:V}:∀{ids:SQ}{xs:List V}{vs:List Value},ids.Nodup->VRs B U vs xs->lk i (ids.zip xs)=some x->∃v,((ids.map c.nm).zip vs).reverse.lookup (c.nm i)=some v/\VR B U v x:=by
 intro ids
 induction ids with
 |nil=>intro xs vs _ hv e;cases xs<;>cases e
 |cons j ids ih=>
  intro xs vs nd hv e
  cases hv with
  |nil=>nomatch e
  |cons hv hr=>
  rename_i v x' vs xs
  rw[List.zip_cons_cons] at e
  rw[a6] at e
  rw[List.nodup_cons] at nd
  rw[List.map_cons,List.zip_cons_cons,List.reverse_cons,List.lookup_append]
  by_cases q:j=i
  ·rw[au q] at e
   cases e
   subst q
   have none:((ids.map c.nm).zip vs).reverse.lookup (c.nm j)=none:=by
    rw[List.lookup_eq_none_iff]
    intro p hp
    have:=List.mem_reverse.mp hp
    obtain⟨a,ha,he⟩:=List.mem_map.mp (List.of_mem_zip this).1
    rw[←he]
    exact bne_iff_ne.mpr fun w=>nd.1 (by rw[c.inj _ _ w];exact ha)
   rw[none]
   exact⟨v,by simp[List.lookup],hv⟩
  ·rw[ar q] at e
   obtain⟨w,h1,h2⟩:=ih nd.2 hr e
   rw[h1];exact⟨w,rfl,h2⟩
theorem VRs.append{vs ws:List Value}{xs ys:List V}(h:VRs B U vs xs)(b:VRs B U ws ys):VRs B U (vs++ws) (xs++ys):=by
 induction h with
 |nil=>exact b
 |cons h _ ih=>exact .cons h ih
end
variable {c:Cx}{r:Nat}{H:Hp}
theorem iq{a:Addr}{chk:Scope->List Stmt->Bool}{ids:SQ}{xs dxs:List V}{dvals:List Value}{Q:SV}(hcs:c.cs=[])(hf:jW c.K a chk=true)
  (hb:∀S vals,vals.length=xs.length->a8 c.K S a vals=some ((ids.map c.nm).zip (vals++dvals)))(hl:∀sc body,chk sc body=true->∀i∈ids,sc.names.lookup (c.nm i)=some .local)(nd:ids.Nodup)
  (hd:∀B U,Sub c.G B->VRs B U dvals dxs)
  (h:∀L env sc body,aZ c sc L env->chk sc body=true->TrS c r L H.length (ids.zip (xs++dxs)) H (execs body env) (ip H.length Q)):∀A (E:SU) s B Z U vals,Room (r+1) A->1<=s.toks+((ids.map c.nm).zip (vals++dvals)).length->Rel c B Z U s.heap.objs.size H s.heap->VRs B U vals xs ->
  codeAny c.M A (.call (.ref a) ⟨vals,[]⟩) (fun r s'=>match r with|.ok (.ret v)=>EndC c B Z U Q s v s'|.ok _=>False|.error e=>E e s') s:=by
 intro A E s B Z U vals hA ht hR hv
 cases BD hf with
 |@mk o fd body h1 h2 h3 h4 h5 h6 h7 h8 h9 h10 h11=>
  have hK:=hR.kIn
  have hcd:s.heap.CodeRec fd.code fd.qualname:=h11.recd hK
  have hbind:BindsTo s fd ⟨vals,[]⟩ ((ids.map c.nm).zip (vals++dvals)):=kp_binds hK fun S=>by
   have:=hb S vals hv.length
   unfold a8 at this
   rw[h1] at this
   obtain⟨c1,d1,dt,s1⟩:=o
   dsimp only at h2
   subst h2
   exact this
  refine codeAny_call_def (Ml hA.1).1 (hK _ _ h1) h2 (c.lim.keeps (hR.base.1.trans hR.kB)) hcd h3 hbind (fun x hx q=>by have:=h8 x hx;rw[q] at this;exact OR this) (fun x hx=>?_) (fun h₀ hns keep=>?_) h6 h7 h5
  ·obtain⟨i,hi,e⟩:=List.mem_map.mp (List.of_mem_zip hx).1
   rw[←e];exact hl _ _ h4 i hi
  ·have R1:Rel c B Z U s.heap.objs.size H h₀:=hR.keep fun b o _ e=>keep b o e
   have F1:FrR c B U s.heap.objs.size (ids.zip (xs++dxs)) h₀:=⟨_,hns,fun i x e=>(tX nd (hv.append (hd _ _ hR.base.1)) e).imp fun v q=>⟨(Stands.own (bR hcs i)).mpr q.1,q.2⟩⟩
   have hA':Room r (A.deeper (callEnv fd s.heap.objs.size a)):=by
    obtain⟨a1,a2,a3,l,a4⟩:=hA
    refine⟨?_,?_,a3,?_⟩
    ·exact (Ml (by assumption)).2
    ·exact PZ (by assumption)
    ·exact⟨callEnv fd s.heap.objs.size a::l,by show A.frames.map _ = _;rw[a4];rfl⟩
   have E1:aZ c fd.scope s.heap.objs.size (callEnv fd s.heap.objs.size a):=⟨rfl,rfl,h9,h10,h5,Eo h8,fun i _=>bR hcs i,fun i n=>absurd hcs n⟩
   refine wpAny_mono (h _ _ _ _ E1 h4 _ _ _ B Z U hA' ht R1 F1) (fun f s' hs=>?_) fun _ _ x=>x
   have:=oH (fun n hn=>hR.dom n hn) hs
   cases f<;>exact EndC.at rfl this
theorem jk{a:Addr}{chk:Scope->List Stmt->Bool}{ids:SQ}{xs dxs:List V}{dvals:List Value}{Q:SV}(hcs:c.cs=[])(hf:jW c.K a chk=true)
  (hb:∀S vals,vals.length=xs.length->a8 c.K S a vals=some ((ids.map c.nm).zip (vals++dvals)))(hl:∀sc body,chk sc body=true->∀i∈ids,sc.names.lookup (c.nm i)=some .local)(nd:ids.Nodup)
  (hd:∀B U,Sub c.G B->VRs B U dvals dxs)
  (h:∀L env sc body,aZ c sc L env->chk sc body=true->TrS c r L H.length (ids.zip (xs++dxs)) H (execs body env) (ip H.length Q)):SemCall c (r+1) (.ref a) xs H Q:=
 fun A E s B Z U vals hA ht hR hv=>iq hcs hf hb hl nd hd h A E s B Z U vals hA (ak ht (al _ _)) hR hv
end Mine
namespace Mine
noncomputable def kG(σ:Nat->Nat):V->V
 |.r n=>.r (σ n)
 |.m f n=>.m f (σ n)
 |x=>x
noncomputable def hD(σ:Nat->Nat):List (Nat×V)->List (Nat×V)
 |[]=>[]
 |p::r=>(p.1,kG σ p.2)::hD σ r
noncomputable def ti(σ:Nat->Nat):List V->List V
 |[]=>[]
 |p::r=>kG σ p::ti σ r
noncomputable def zk(σ:Nat->Nat):Cell->Cell
 |.inst C fs=>.inst C (hD σ fs)
 |.list vs=>.list (ti σ vs)
 |.dlist ds=>.dlist ds
 |.dict fs=>.dict (hD σ fs)
structure vX(k:Nat)(σ:Nat->Nat)(m':aD)(H':Hp)(m:aD)(H:Hp):Prop where
 fix:∀n,n<k->σ n=n
 loc:∀i x,lk i m'=some x->lk i m=some (kG σ x)/\lq H'.length x=true
 cell:∀n cl,H'[n]?=some (some cl)->H[σ n]?=some (some (zk σ cl))/\pL H'.length cl=true
 inj:∀n n' cl cl',n≠n'->H'[n]?=some (some cl)->H'[n']?=some (some cl')->σ n≠σ n'
 len:k<=H'.length
section
variable {c:Cx}{r:Nat}{L:Addr}{m m':aD}{H H':Hp}{env:Env}{sc:Scope}{B Z h h':Heap}{U:Ph}{σ:Nat->Nat}
noncomputable def dI(σ:Nat->Nat)(k:Nat)(U:Ph):Ph:=fun n=>if n<k then U (σ n) else none
theorem VR.view{k:Nat}{v:Value}{x:V}(h:VR B U v (kG σ x))(e:lq k x=true):VR B (dI σ k U) v x:=by
 cases x with
 |d x=>
  cases h with
  |d h=>exact .d h
 |r n=>
  cases h with
  |r h=>exact .r (by unfold dI;rw[au (of_decide_eq_true e)];exact h)
 |g v=>cases h;exact .g _
 |m f n=>
  cases h with
  |m h q=>exact .m (by unfold dI;rw[au (of_decide_eq_true e)];exact h) q
 |el=>
  cases h with
  |el h=>exact .el h
 |junk=>exact .junk _
theorem VRs.view{k:Nat}:∀{vs:List Value}{xs:List V},VRs B U vs (ti σ xs)->th k xs=true->VRs B (dI σ k U) vs xs:=by
 intro vs xs
 induction xs generalizing vs with
 |nil=>intro h _;cases h;exact .nil
 |cons x xs ih=>
  intro h e
  refine aS e fun e1 e2=>?_
  have h:VRs B U vs (kG σ x::ti σ xs):=h
  cases h with
  |cons h r=>exact .cons (h.view e1) (ih r e2)
theorem FR.view{k:Nat}:∀{es:List DictEntry}{fs:List (Nat×V)},FR c B U es (hD σ fs)->bj k fs=true->FR c B (dI σ k U) es fs:=by
 intro es fs
 induction fs generalizing es with
 |nil=>intro h _;cases h;exact .nil
 |cons x xs ih=>
  intro h e
  refine aS e fun e1 e2=>?_
  have h:FR c B U es ((x.1,kG σ x.2)::hD σ xs):=h
  cases h with|cons h q v r=>exact .cons h q (v.view e1) (ih r e2)
theorem KR.view{k:Nat}:∀{es:List (Str×Value)}{fs:List (Nat×V)},KR c B U es (hD σ fs)->bj k fs=true->KR c B (dI σ k U) es fs:=by
 intro es fs
 induction fs generalizing es with
 |nil=>intro h _;cases h;exact .nil
 |cons x xs ih=>
  intro h e
  refine aS e fun e1 e2=>?_
  have h:KR c B U es ((x.1,kG σ x.2)::hD σ xs):=h
  cases h with
  |cons v r=>exact .cons (v.view e1) (ih r e2)
theorem GJ:∀{fs:List (Nat×V)}{i:Nat}{x:V},lk i fs=some x->lk i (hD σ fs)=some (kG σ x):=by
 intro fs
 induction fs with
 |nil=>intro i x e;nomatch e
 |cons p r ihr=>
  intro i x e
  rw[a6] at e
  show lk i ((p.1,kG σ p.2)::hD σ r) = _
  rw[a6]
  split at e
  ·cases e;rw[au ‹_›]
  ·rw[ar ‹_›];exact ihr e
theorem CellAt.view{k:Nat}{p:Addr×Addr}:∀{cl:Cell},CellAt c h B U p (zk σ cl)->pL k cl=true->CellAt c h B (dI σ k U) p cl
 :=by
 intro cl x e
 cases cl with
 |inst=>obtain⟨a,n,es,j,b,f,g1,g2⟩:=x;exact⟨a,n,es,j,b,f.view e,g1,fun i x q=>g2 i _ (GJ q)⟩
 |list=>obtain⟨e1,vs,j,a,f⟩:=x;exact⟨e1,vs,j,a,f.view e⟩
 |dlist=>exact x
 |dict=>obtain⟨e1,ns,o,es,a,b,f⟩:=x;exact⟨e1,ns,o,es,a,b,f.view e⟩
theorem Rel.view{k:Nat}(R:Rel c B Z U L H h)(W:vX k σ m' H' m H):Rel c B Z (dI σ H'.length U) L H' h:=by
 have lt:∀{n:Nat}{x:Option Cell},H'[n]?=some x->n<H'.length:=fun {n x} e=>by
  rcases Nat.lt_or_ge n H'.length with z|z
  ·exact z
  ·rw[List.getElem?_eq_none z] at e;nomatch e
 have pv:∀n p,dI σ H'.length U n=some p->U (σ n)=some p:=fun n p e=>by
  unfold dI at e
  split at e
  ·exact e
  ·nomatch e
 refine⟨R.base,R.kB,R.kZ,fun n cl e=>?_,fun n p ⟨cl,hl⟩ hp=>R.free _ p ⟨_,(W.cell n cl hl).1⟩ (pv n p hp),fun n n' p p' ne ⟨cl,hl⟩ ⟨cl',hl'⟩ hp hp'=>R.apart _ _ p p' (W.inj n n' cl cl' ne hl hl') ⟨_,(W.cell n cl hl).1⟩ ⟨_,(W.cell n' cl' hl').1⟩ (pv n p hp) (pv n' p' hp'),fun n hn=>?_,R.LB,R.LZ,R.LG,R.BZ⟩
 ·obtain⟨e1,e2⟩:=W.cell n cl e
  obtain⟨p,hp,hc⟩:=R.cell _ _ e1
  exact⟨p,by unfold dI;rw[au (lt e)];exact hp,hc.view e2⟩
 ·unfold dI;rw[ar (Nat.not_lt.mpr (by assumption))]
theorem FrR.view{k:Nat}(F:FrR c B U L m h)(W:vX k σ m' H' m H):FrR c B (dI σ H'.length U) L m' h:=by
 obtain⟨mm,n,f⟩:=F.ex
 exact⟨mm,n,fun i x e=>by obtain⟨e1,e2⟩:=W.loc i x e;obtain⟨v,h1,h2⟩:=f i _ e1;exact⟨v,h1,h2.view e2⟩⟩
theorem md{k:Nat}(W:vX k σ m' H' m H):∀n p,n<k->U n=some p->dI σ H'.length U n=some p:=fun n p hn e=>by
 unfold dI
 rw[au (Nat.lt_of_lt_of_le hn W.len),W.fix n hn];exact e
end
variable {c:Cx}{r:Nat}{H:Hp}
theorem ow(C:Addr)(rest:List Value):(Code.builtin "type.__call__" ⟨.ref C::rest,[]⟩).weight<=3/\(Code.builtin "type.__call__" ⟨.ref C::rest,[]⟩).cUnits<=4:=by
 have h1:(Code.builtin "type.__call__" ⟨.ref C::rest,[]⟩).frames<=1:=by
  have e:(Code.builtin "type.__call__" ⟨.ref C::rest,[]⟩).frames=(if (Code.builtin "type.__call__" ⟨.ref C::rest,[]⟩).isFrame=true then 1 else 0):=rfl
  rw[e]
  split
  ·exact ao _
  ·exact Nat.zero_le _
 have h2:(Code.builtin "type.__call__" ⟨.ref C::rest,[]⟩).isCaller=false:=rfl
 refine⟨?_,?_⟩
 ·unfold Code.weight;rw[h2]
  have a:∀b:Bool,(if b=true then 1 else 0:Nat)<=1:=by intro b;cases b<;>simp
  have:=a (Code.builtin "type.__call__" ⟨.ref C::rest,[]⟩).isCreation
  have:=a (Code.builtin "type.__call__" ⟨.ref C::rest,[]⟩).isGuard
  simp only[Bool.false_eq_true,if_false]
  omega
 ·exact Nat.add_le_add_left (Nat.mul_le_mul_left 3 h1) 1
theorem ez{C fI:Addr}{xs:List V}{Q:SV}(hm:makesIn c.K C=true)(hi:findIn c.K (.ref C) "__init__" = some (some (.ref fI)))(hty:typeIn c.K (.ref fI)=some (.type "function"))(hc:fc c.K C=true)
  (h:SemCall c r (.ref fI) (.r H.length::xs) (H++[some (.inst C [])]) fun v H'=>v=.d .none/\Q (.r H.length) H'):SemCall c (r+1) (.ref C) xs H Q:=by
 intro A E s B Z U vals hA ht hR hv
 obtain⟨hh,g,d,t,os⟩:=s
 dsimp only at hR
 have X:=hR.kIn
 refine make_core (makes_of X hm) (looks_findIn X hi) (fun self=>bind_fn X self hty) (.inl rfl) ?_
 have e1:((hh.push emptyDict).push (instObj C hh.objs.size)).get? (hh.objs.size+1)=some (instObj C hh.objs.size):=by
  have:=Heap.get?_push_size (hh.push emptyDict) (o:=instObj C hh.objs.size) rfl
  rwa[Heap.size_push] at this
 have e2:((hh.push emptyDict).push (instObj C hh.objs.size)).get? hh.objs.size=some emptyDict:=Heap.get?_push_of_some _ (Heap.get?_push_size _ rfl)
 have above:∀(X:Heap),Sub X hh->∀k:Nat,hh.objs.size<=k->X.get? k=none:=by
  intro X sx k hk
  cases q:X.get? k with
  |none=>rfl
  |some o=>exact absurd (Heap.lt_size (sx _ _ q)) (Nat.not_lt.mpr hk)
 have n1:hh.get? (hh.objs.size+1)=none:=above hh (Sub.refl _) _ (Nat.le_succ _)
 have lt2:∀a:Nat,a<hh.objs.size->@Ne Nat a (hh.objs.size+2):=fun a ha=>Nat.ne_of_lt (Nat.lt_add_right 2 ha)
 have s1:=iZ (U:=U) (p:=(hh.objs.size+1,hh.objs.size)) (hR.dom _ (ao _))
 have R0:Rel c B Z U (hh.objs.size+2) H hh:=by
  refine⟨hR.base,hR.kB,hR.kZ,hR.cell,fun n p hl hp=>?_,hR.apart,hR.dom,?_,?_,ak hR.LG (al _ _),hR.BZ⟩
  ·obtain⟨cl,hcl⟩:=hl
   obtain⟨q,hq,hcc⟩:=hR.cell n cl hcl
   rw[hp] at hq;nomatch hq
   obtain⟨⟨o1,e1⟩,o2,e2⟩:=eb hcc
   exact⟨(hR.free n p ⟨cl,hcl⟩ hp).1,(hR.free n p ⟨cl,hcl⟩ hp).2.1,lt2 _ (Heap.lt_size e1),lt2 _ (Heap.lt_size e2)⟩
  ·exact above B hR.kB _ (al _ _)
  ·exact above Z hR.kZ _ (al _ _)
 have fl:∀i x,lk i ([]:List (Nat×V))=some x->gJ c.K C (c.nm i)=true:=fun i x e=>by nomatch e
 obtain⟨R1,S1⟩:=R0.new_cell (p:=(hh.objs.size+1,hh.objs.size)) (cl:=.inst C []) (h':=(hh.push emptyDict).push (instObj C hh.objs.size))
  (fun b o _ e=>Heap.get?_push_of_some _ (Heap.get?_push_of_some _ e)) n1 aG (Nat.ne_of_lt (Nat.lt_succ_self _)) (Nat.ne_of_lt (Nat.lt_add_of_pos_right (Nat.succ_pos 1))) ⟨e1,Nat.succ_ne_self _,[],0,e2,.nil,hc,fl⟩
 have hA':Room r (A.under (.builtin "type.__call__" ⟨.ref C::vals,[]⟩)):=by
  obtain⟨a1,a2,a3,l,a4⟩:=hA
  obtain⟨w1,w2⟩:=ow C vals
  refine⟨?_,?_,a3,l,?_⟩
  ·exact Mm a1 w1
  ·exact Mq a2 w2
  ·show pushEnvs [] A.frames = _;rw[a4];rfl
 have sz:((hh.push emptyDict).push (instObj C hh.objs.size)).objs.size=hh.objs.size+2:=by rw[Heap.size_push,Heap.size_push]
 have:=h _ E ⟨(hh.push emptyDict).push (instObj C hh.objs.size),g,d,t,os⟩ B Z _ (.ref (hh.objs.size+1)::vals) hA' ht (by dsimp only;rw[sz];exact R1)
  (.cons (.r (p:=(hh.objs.size+1,hh.objs.size)) (by unfold dE;rw[au rfl])) (hv.mono (Sub.refl _) S1))
 refine codeAny_mono this fun rr s' hr=>?_
 rcases rr with e|f
 ·exact hr
 ·cases f with
  |ret v=>
   obtain⟨h',tk,B',U',x,H',L',rfl,b,p,R2,rv,rfl,q⟩:=hr
   refine⟨rv.d_of.none_of,h',tk,B',U',_,H',L',rfl,b,S1.trans p,R2,.r (p:=(hh.objs.size+1,hh.objs.size)) (p _ _ (by unfold dE;rw[au rfl])),q⟩
  |next=>exact hr
  |brk=>exact hr
  |cont=>exact hr
end Mine
namespace Mine
open PySem.Builtin PySem.Builtin.Str
noncomputable def gk:List D->Option (List Str)
 |[]=>some []
 |.str x::r=>(gk r).map (x::·)
 |_=>none
noncomputable def iP(c:Nat):Nat:=if 65<=c/\c<=90 then c+32 else c
noncomputable def t6(x y:SQ)(lo hi:Int):Int:=(occurrences (Sl x) (Sl y) (fromIndex (Sl x).length lo) (min (fromIndex (Sl x).length hi) (Sl x).length) ((Sl x).length+1)).length
noncomputable def EJ(x y:SQ)(lo hi:Int):Int:=match lastOccurrence (Sl x) (Sl y) (fromIndex (Sl x).length lo) (min (fromIndex (Sl x).length hi) (Sl x).length) with|some i=>(i:Int)|none=>-1
noncomputable def bU(x y z:SQ):SQ:=(Txt.replace (Sl x) (Sl y) (Sl z)).l
noncomputable def bL(sep:SQ):List (SQ)->SQ
 |[]=>[]
 |[x]=>x
 |x::r=>x++sep++bL sep r
noncomputable def x5:D->Option (List D)
 |.list xs=>some xs
 |_=>none
theorem pz{d:D}{a:List D}(h:x5 d=some a):d=.list a:=by
 cases d<;>first|(nomatch h;done)|(cases h;rfl)
noncomputable def CU:List D->Option D
 |[d]=>some d
 |_=>none
noncomputable def MA:List D->Option (D×D)
 |[a,b]=>some (a,b)
 |_=>none
noncomputable def D5:List D->Option (D×D×D×D)
 |[a,b,i,j]=>some (a,b,i,j)
 |_=>none
theorem nE{ds:List D}{d:D}(h:CU ds=some d):ds=[d]:=by
 rcases ds with _|⟨a,_|⟨b,r⟩⟩<;>first|(nomatch h;done)|(cases h;rfl)
theorem Dw{ds:List D}{d:D×D}(h:MA ds=some d):ds=[d.1,d.2]:=by
 rcases ds with _|⟨a,_|⟨b,_|⟨e,r⟩⟩⟩<;>first|(nomatch h;done)|(cases h;rfl)
theorem oQ{ds:List D}{d:D×D×D×D}(h:D5 ds=some d):ds=[d.1,d.2.1,d.2.2.1,d.2.2.2]:=by
 rcases ds with _|⟨a,_|⟨b,_|⟨e,_|⟨f,_|⟨g,r⟩⟩⟩⟩⟩<;>first|(nomatch h;done)|(cases h;rfl)
noncomputable def OJ:D->Option Nat
 |.str x=>some x.l.length
 |.list xs=>some xs.length
 |.tuple xs=>some xs.length
 |.dict []=>some 0
 |_=>none
noncomputable def O5:SQ->Option D
 |[c]=>some (.int c)
 |_=>none
noncomputable def KG(ds:List D):Option D:=(CU ds).bind fun d=>(OJ d).bind fun n=>if n<=16777216 then some (.int n) else none
noncomputable def Lv(ds:List D):Option D:=(CU ds).bind fun d=>(ic d).bind fun x=>O5 x.l
noncomputable def Jz(ds:List D):Option D:=(CU ds).bind fun d=>(gO d).bind fun i=>if 0<=i/\i<1114112 then some (st [i.toNat]) else none
noncomputable def Ec(ds:List D):Option D:=(MA ds).bind fun p=>(ic p.1).bind fun x=>(x5 p.2).bind fun ds=>(gk ds).bind fun ts=>if (ts.map (·.l.length)).sum+ts.length * x.l.length<=16777216 then some (st (bL x.l (ts.map (·.l)))) else none
noncomputable def r6(f:SQ->SQ->Int->Int->Int)(ds:List D):Option D:=(D5 ds).bind fun p=>(ic p.1).bind fun x=>(ic p.2.1).bind fun y=>(gO p.2.2.1).bind fun lo=>(gO p.2.2.2).bind fun hi=>some (.int (f x.l y.l lo hi))
noncomputable def mw(b:Bi)(ds:List D):Option D:=match b with
 |.len=>KG ds
 |.ord=>Lv ds
 |.chr=>Jz ds
 |.join=>Ec ds
 |.count3=>r6 t6 ds
 |.rfind3=>r6 EJ ds
 |_=>none
noncomputable def qn:Bi->String
 |.len => "len" |.ord => "ord" |.chr => "chr"
 |.join => "str.join" |.count3 => "str.count" |.rfind3 => "str.rfind"
 |.replace => "str.replace"
theorem mM(x y:Str)(i j:Int)(t u v w:Tok):Gives («str.count» ⟨[.str x t,.str y u,.int i v,.int j w],[]⟩) (.int (occurrences x y (fromIndex x.length i) (min (fromIndex x.length j) x.length) (x.length+1)).length):=by
 exact .of_eq rfl
theorem mN(x y:Str)(i j:Int)(t u v w:Tok):Gives («str.rfind» ⟨[.str x t,.str y u,.int i v,.int j w],[]⟩) (.int (match lastOccurrence x y (fromIndex x.length i) (min (fromIndex x.length j) x.length) with|some i=>(i:Int)|none=>-1)):=by
 show Gives (match lastOccurrence x y (fromIndex x.length i) (min (fromIndex x.length j) x.length) with|some i=>retInt i|none=>(do rule "str.rfind.not-found"; retInt (-1))) _
 cases lastOccurrence x y (fromIndex x.length i) (min (fromIndex x.length j) x.length) with
 |none=>exact .rule (.of_eq rfl)
 |some i=>exact .of_eq rfl
section
variable {B:Heap}{U:Ph}
theorem Dk{ds:List D}{ts:List Str}{vals:List Value}(e:gk ds=some ts)(h:DVs B vals ds):∃l:List (Str×Tok),vals=strValues l/\l.map (·.1)=ts/\∀t∈ts,eU t.l=true:=by
 induction ds generalizing ts vals with
 |nil=>cases e;rw[h.unnil];exact⟨[],rfl,rfl,fun _ h=>nomatch h⟩
 |cons d r ih=>
  cases d with
  |str x=>
   obtain⟨ts',e',rfl⟩:=ai (show (gk r).map (x::·)=some ts from e)
   obtain⟨v,vs,rfl,h1,h2⟩:=h.uncons
   obtain⟨t,rfl,ok⟩:=h1.str_okL
   obtain⟨l,rfl,rfl,oks⟩:=ih e' h2
   exact⟨(x,t)::l,rfl,rfl,List.forall_mem_cons.mpr ⟨ok,oks⟩⟩
  |_=>nomatch e
theorem B3(sep:Str):∀(x:Str) (ts:List Str),((x::ts).drop 1).foldl (fun acc p=>acc++sep.cps++p.cps) ((x::ts).headD Str.empty).cps=(bL sep.l ((x::ts).map (·.l))).toArray:=by
 have key:∀(ts:List Str) (acc:Array Nat),ts.foldl (fun acc p=>acc++sep.cps++p.cps) acc=(acc.toList++(match ts with|[]=>[]|y::r=>sep.l++bL sep.l ((y::r).map (·.l)))).toArray:=by
  intro ts
  induction ts with
  |nil=>intro acc;simp
  |cons y r ih=>
   intro acc
   rw[List.foldl_cons,ih]
   cases r with
   |nil=>simp[bL,PySem.Str.l]
   |cons z q=>simp[bL,PySem.Str.l]
 intro x ts
 show ts.foldl _ x.cps = _
 rw[key]
 cases ts with
 |nil=>simp[bL,PySem.Str.l]
 |cons z q=>simp[bL,PySem.Str.l]
theorem qc(sep:Str)(ts:List Str):Txt.join sep ts=Sl (bL sep.l (ts.map (·.l))):=by
 cases ts with
 |nil=>rfl
 |cons x ts=>
  show (⟨_⟩:Str)=⟨_⟩
  rw[B3]
theorem iS{sep:SQ}(h:eU sep=true):∀ts:List (SQ),(∀t∈ts,eU t=true)->eU (bL sep ts)=true
 |[],_=>rfl
 |[x],k=>k x aa
 |x::y::r,k=>by
  unfold bL
  exact jA (jA (k x aa) h) (iS h (y::r) fun t ht=>k t (ad _ ht))
theorem uP(sep:Str)(ts:List Str)(h:(ts.map (·.l.length)).sum+ts.length * sep.l.length<=16777216):JoinOk sep ts=true:=by
 have key:∀(ts:List Str) (a:Nat),ts.toArray.foldl (fun a t=>a+t.length+sep.length) a=a+(ts.map (·.l.length)).sum+ts.length * sep.l.length:=by
  intro ts
  induction ts with
  |nil=>intro a;simp
  |cons y r ih=>
   intro a
   have:=ih (a+y.length+sep.length)
   simp only[List.foldl_toArray,List.foldl_cons] at this ⊢
   rw[this,bt,bt]
   simp only[List.map_cons,List.sum_cons,ag,Nat.succ_mul]
   ac_rfl
 unfold JoinOk tooLong
 rw[key ts 0]
 unfold sizeLine
 simp
 omega
theorem CI{x:Str}(h:eU x.l=true)(i j:Nat):eU (strSub x i j).l=true:=by
 unfold eU at *
 rw[List.all_eq_true] at *
 intro c hc
 refine h c ?_
 unfold strSub PySem.Str.l at hc
 rw[Array.toList_extract] at hc
 exact List.mem_of_mem_drop (List.mem_of_mem_take hc)
theorem u6{x:Str}(h:eU x.l=true)(cuts:SQ)(w:Nat):∀p∈partsBetween x cuts w,eU p.l=true:=by
 intro p hp
 unfold partsBetween at hp
 obtain⟨⟨i,j⟩,_,rfl⟩:=List.mem_map.mp hp
 exact CI h i j
theorem yu{x y z:Str}(h:eU x.l=true)(k:eU z.l=true):eU (Txt.replace x y z).l=true:=by
 unfold Txt.replace
 split
 ·exact h
 ·have:=qc z (partsBetween x (occurrences x y 0 x.length (x.length+1)) y.length)
  unfold Txt.join at this
  rw[this,da]
  exact iS k _ fun t ht=>by obtain⟨p,hp,rfl⟩:=List.mem_map.mp ht;exact u6 h _ _ p hp
end
section
variable {c:Cx}{r:Nat}{L:Addr}{m:aD}{P:Heap->Ph->Prop}{H:Hp}{B Z h h':Heap}{U:Ph}
theorem Rel.isList(hR:Rel c B Z U L H h){v:Value}{ds:List D}(x:DV B v (.list ds)):∃a vs,v=.ref a/\h.IsList a (vs:List Value).toArray/\DVs B vs ds:=by
 obtain⟨a,o,vs,n,e,h1,h2,h3,h4⟩:=x.list_of
 exact⟨a,vs,e,⟨o,hR.kB _ _ h1,h2,n,h3⟩,h4⟩
theorem Rel.isTup(hR:Rel c B Z U L H h){v:Value}{ds:List D}(x:DV B v (.tuple ds)):∃a vs,v=.ref a/\IsTup h a (vs:List Value).toArray/\DVs B vs ds:=by
 obtain⟨a,o,vs,n,e,h1,h2,h3,h4⟩:=x.tuple_of
 exact⟨a,vs,e,⟨o,hR.kB _ _ h1,h2,n,h3⟩,h4⟩
theorem DV.isList{h:Heap}{v:Value}{ds:List D}(x:DV h v (.list ds)):∃a vs,v=.ref a/\h.IsList a (vs:List Value).toArray/\DVs h vs ds:=by
 obtain⟨a,o,vs,n,e,h1,h2,h3,h4⟩:=x.list_of
 exact⟨a,vs,e,⟨o,h1,h2,n,h3⟩,h4⟩
theorem DV.isTup{h:Heap}{v:Value}{ds:List D}(x:DV h v (.tuple ds)):∃a vs,v=.ref a/\IsTup h a (vs:List Value).toArray/\DVs h vs ds:=by
 obtain⟨a,o,vs,n,e,h1,h2,h3,h4⟩:=x.tuple_of
 exact⟨a,vs,e,⟨o,h1,h2,n,h3⟩,h4⟩
theorem DVs.one{h:Heap}{vals:List Value}{d:D}(x:DVs h vals [d]):∃v,vals=[v]/\DV h v d:=by
 obtain⟨v,_,rfl,h1,h2⟩:=x.uncons
 cases h2.unnil
 exact⟨v,rfl,h1⟩
theorem DVs.two{h:Heap}{vals:List Value}{d e:D}(x:DVs h vals [d,e]):∃v w,vals=[v,w]/\DV h v d/\DV h w e:=by
 obtain⟨v,_,rfl,h1,h2⟩:=x.uncons
 obtain⟨w,rfl,h3⟩:=h2.one
 exact⟨v,w,rfl,h1,h3⟩
section
variable {B:Heap}{p0:Program}{w0:World}{A:Around}{E:SU}{s:Shared}{vals:List Value}{ds:List D}{z:D}{Post:SU}
theorem C6(hd:DVs s.heap vals ds)(e:KG ds=some z)(done:∀tk v,DV B v z->Post v { s with toks:=tk }):wpAny (model p0 w0) A (call (.builtin "len") vals) Post E s:=by
 refine ax e fun d h0 e91=>?_
 refine ax e91 fun n h1 e92=>?_
 obtain rfl:=nE h0
 obtain⟨v,rfl,hd9⟩:=hd.one
 by_cases hl:n<=16777216
 ·cases (au hl).symm.trans e92
  have big:(n:Int)<2 ^ 63:=Rv (by assumption)
  cases d with
  |str x=>
   cases h1
   obtain⟨t,rfl,_⟩:=hd9.str_okL
   refine PyProof.Rows.len_str (by rw[bt];omega) ?_
   rw[bt];exact done _ _ (DV.int _ _)
  |list xs=>
   cases h1
   obtain⟨a,vs,rfl,hl,hvs⟩:=hd9.isList
   refine PyProof.Rows.len_list hl (by have:=hvs.length;simp;omega) ?_
   rw[show vs.toArray.size = _ from hvs.length]
   exact done _ _ (DV.int _ _)
  |tuple xs=>
   cases h1
   obtain⟨a,vs,rfl,hl,hvs⟩:=hd9.isTup
   refine PyProof.Rows.len_tuple hl (by have:=hvs.length;simp;omega) ?_
   rw[show vs.toArray.size = _ from hvs.length]
   exact done _ _ (DV.int _ _)
  |dict kvs=>
   cases kvs with
   |nil=>
    cases h1
    obtain⟨a,rfl,ne,hd⟩:=hd9.isDict p0 w0
    exact call_len_dict ne hd (by decide) (done _ _ (DV.int _ _))
   |cons=>nomatch h1
  |_=>nomatch h1
 ·cases (ar hl).symm.trans e92
theorem C7(hd:DVs s.heap vals ds)(e:Lv ds=some z)(done:∀tk v,DV B v z->Post v { s with toks:=tk }):wpAny (model p0 w0) A (call (.builtin "ord") vals) Post E s:=by
 refine ax e fun d h0 e91=>?_
 refine ax e91 fun x h1 e92=>?_
 obtain rfl:=nE h0;obtain rfl:=bG h1
 obtain⟨v,rfl,hd9⟩:=hd.one
 obtain⟨t,rfl,hok⟩:=hd9.str_okL
 have ex:=bW x
 rcases hx:x.l with _|⟨ch,_|⟨c2,r⟩⟩
 ·rw[hx] at e92;nomatch e92
 ·rw[hx] at e92 ex;nomatch e92
  rw[←ex]
  exact PySem.P.ord_of_char (done _ _ (DV.int _ _))
 ·rw[hx] at e92;nomatch e92
theorem C5(hd:DVs s.heap vals ds)(e:Jz ds=some z)(done:∀tk v,DV B v z->Post v { s with toks:=tk }):wpAny (model p0 w0) A (call (.builtin "chr") vals) Post E s:=by
 refine ax e fun d h0 e91=>?_
 refine ax e91 fun i h1 e92=>?_
 obtain rfl:=nE h0;obtain rfl:=bF h1
 obtain⟨v,rfl,hd9⟩:=hd.one
 obtain⟨t,rfl⟩:=hd9.int_of
 by_cases hi:0<=i/\i<1114112
 ·cases (au hi).symm.trans e92
  refine PySem.P.chr_of_int (by rw[decide_eq_false (by omega),decide_eq_false (by omega)];rfl) (done _ _ (DV.st [i.toNat] _ ?_))
  unfold eU
  simp;omega
 ·cases (ar hi).symm.trans e92
theorem zs(hd:DVs s.heap vals ds)(e:Ec ds=some z)(done:∀tk v,DV B v z->Post v { s with toks:=tk }):wpAny (model p0 w0) A (call (.builtin "str.join") vals) Post E s:=by
 refine ax e fun p h0 e91=>?_
 refine ax e91 fun x k1 e92=>?_
 refine ax e92 fun xs k2 e93=>?_
 refine ax e93 fun ts e1 e2=>?_
 obtain rfl:=Dw h0
 rw[bG k1,pz k2] at hd
 obtain⟨v,w,rfl,h1,h3⟩:=hd.two
 obtain⟨t,rfl,ok1⟩:=h1.str_okL
 obtain⟨a,vs,rfl,hl,hvs⟩:=h3.isList
 by_cases hsz:(ts.map (·.l.length)).sum+ts.length * x.l.length<=16777216
 ·cases (au hsz).symm.trans e2
  obtain⟨l,rfl,rfl,oks⟩:=Dk e1 hvs
  refine SC.join hl rfl (uP _ _ hsz) fun t' k=>?_
  rw[qc]
  exact done _ _ (DV.st _ _ (iS ok1 _ fun y hy=>by obtain⟨p,hp,rfl⟩:=List.mem_map.mp hy;exact oks p hp))
 ·cases (ar hsz).symm.trans e2
theorem ro(hd:DVs s.heap vals ds)(e:r6 t6 ds=some z)(done:∀tk v,DV B v z->Post v { s with toks:=tk }):wpAny (model p0 w0) A (call (.builtin "str.count") vals) Post E s:=by
 refine ax e fun p h0 e91=>?_
 refine ax e91 fun x k1 e92=>?_
 refine ax e92 fun y k2 e93=>?_
 refine ax e93 fun i k3 e94=>?_
 refine ax e94 fun j k4 e95=>?_
 obtain rfl:=oQ h0
 rw[bG k1,bG k2,bF k3,bF k4] at hd
 obtain⟨v,_,rfl,h1,h2⟩:=hd.uncons
 obtain⟨w,_,rfl,h3,h4⟩:=h2.uncons
 obtain⟨v3,v4,rfl,h5,h7⟩:=h4.two
 obtain⟨t,rfl,ok1⟩:=h1.str_okL
 obtain⟨u,rfl,ok2⟩:=h3.str_okL
 obtain⟨t3,rfl⟩:=h5.int_of
 obtain⟨t4,rfl⟩:=h7.int_of
 cases e95
 refine call_gives PySem.F.slot_str_count (typeIs_str _ _ _) PySem.F.entry_str_count (PySem.F.args_str_count_4 _ _ _ _) (mM _ _ _ _ _ _ _ _) ?_
 unfold t6 at done
 rw[bW,bW] at done
 exact done _ _ (DV.int _ _)
theorem rp(hd:DVs s.heap vals ds)(e:r6 EJ ds=some z)(done:∀tk v,DV B v z->Post v { s with toks:=tk }):wpAny (model p0 w0) A (call (.builtin "str.rfind") vals) Post E s:=by
 refine ax e fun p h0 e91=>?_
 refine ax e91 fun x k1 e92=>?_
 refine ax e92 fun y k2 e93=>?_
 refine ax e93 fun i k3 e94=>?_
 refine ax e94 fun j k4 e95=>?_
 obtain rfl:=oQ h0
 rw[bG k1,bG k2,bF k3,bF k4] at hd
 obtain⟨v,_,rfl,h1,h2⟩:=hd.uncons
 obtain⟨w,_,rfl,h3,h4⟩:=h2.uncons
 obtain⟨v3,v4,rfl,h5,h7⟩:=h4.two
 obtain⟨t,rfl,ok1⟩:=h1.str_okL
 obtain⟨u,rfl,ok2⟩:=h3.str_okL
 obtain⟨t3,rfl⟩:=h5.int_of
 obtain⟨t4,rfl⟩:=h7.int_of
 cases e95
 refine call_gives PySem.F.slot_str_rfind (typeIs_str _ _ _) PySem.F.entry_str_rfind (PySem.F.args_str_rfind_4 _ _ _ _) (mN _ _ _ _ _ _ _ _) ?_
 unfold EJ at done
 rw[bW,bW] at done
 exact done _ _ (DV.int _ _)
end
theorem EO{b:Bi}{vals:List Value}{ds:List D}{z:D}{Q:SV}(hv:∀B U Z h,P B U->Rel c B Z U L H h->DVs h vals ds)(e:mw b ds=some z)(q:Q (.d z) H):Tr VR c r L m P H (call (.builtin (qn b)) vals) Q:=by
 intro A E s B Z U hA ht hR hF hp
 have hd:=hv _ _ _ _ hp hR
 have done:∀tk v,DV B v z->EndT VR c B Z U L m Q s v { s with toks:=tk }:=fun tk v hz=>aM hR hF (.d hz) q
 cases b with
 |len=>exact C6 hd e done
 |ord=>exact C7 hd e done
 |chr=>exact C5 hd e done
 |join=>exact zs hd e done
 |count3=>exact ro hd e done
 |rfind3=>exact rp hd e done
 |_=>nomatch e
end
end Mine
namespace Mine
open PySem.Builtin PySem.Builtin.Str
structure aW where
 nms:List (SQ)
 gnm:List (SQ)
 gl:List V
 fn:Addr->Bool
 kp:Nat->Bool
 cd:Addr->List (Nat×V)
 meth:Addr->Nat->Option Addr
 fld:Addr->Nat->Bool
 cat:Addr->Nat->Option (Value×V)
 fl:Bool:=false
noncomputable def d9(nms:List (SQ))(s:SQ):List (Nat×V)->Option (Option V)
 |[]=>some none
 |p::r=>match nms[p.1]? with
  |none=>none
  |some l=>if l=s then some (some p.2) else d9 nms s r
noncomputable def rQ(nms:List (SQ))(s:SQ):List (Nat×V)->Option Nat
 |[]=>none
 |p::r=>match nms[p.1]? with
  |none=>none
  |some l=>if l=s then some p.1 else rQ nms s r
noncomputable def RW:D->Int->Option D
 |.str x,i=>if 9223372036854775808<=i.natAbs then none else ((seqIndex? i x.l.length).bind (x.l[·]?)).map fun ch=>st [ch]
 |.list xs,i=>if 9223372036854775808<=i.natAbs then none else (seqIndex? i xs.length).bind (xs[·]?)
 |.tuple xs,i=>if 9223372036854775808<=i.natAbs then none else (seqIndex? i xs.length).bind (xs[·]?)
 |_,_=>none
noncomputable def k6(x i:D):Option D:=(gO i).bind (RW x)
noncomputable def vc:Value->Option Addr
 |.ref a=>some a
 |_=>none
theorem g9{v:Value}{a:Addr}(h:vc v=some a):v=.ref a:=by
 cases v<;>first|(nomatch h;done)|(cases h;rfl)
noncomputable def Ap(T:aW)(H:Hp)(n:Nat):D->Option V
 |.str s=>match H[n]? with
  |some (some (.dict fs))=>(d9 T.nms s.l fs).bind id
  |_=>none
 |.int i=>if 9223372036854775808<=i.natAbs then none else match H[n]? with
  |some (some (.dlist xs))=>((seqIndex? i xs.length).bind (xs[·]?)).map .d
  |some (some (.list xs))=>(seqIndex? i xs.length).bind (xs[·]?)
  |_=>none
 |_=>none
noncomputable def uO(T:aW)(H:Hp)(x y:V):Option V:=match x with
 |.d x=>(dOf y).bind fun i=>(k6 x i).map .d
 |.g v=>(vc v).bind fun a=>(dOf y).bind fun d=>(ic d).bind fun s=>(d9 T.nms s.l (T.cd a)).bind id
 |.r n=>(dOf y).bind (Ap T H n)
 |.m _ _=>none
 |.el=>none
 |.junk=>none
def IT(c:Cx)(a:Addr)(fs:List (Nat×V)):Prop:=∃o es,c.G.get? a=some o/\o.IsDictOf (PySem.strKind c.prog c.w) es/\KR c c.G (fun _=>none) es fs
structure TabOk(c:Cx)(T:aW):Prop where
 nm:∀i l,T.nms[i]?=some l->c.nm i=Sl l
 cd:∀a,T.cd a≠[]->IT c a (T.cd a)
 meth:∀C i f,T.meth C i=some f->ku c.K C (c.nm i) f=true
 fld:∀C i,T.fld C i=true->gJ c.K C (c.nm i)=true
 cat:∀C i v x,T.cat C i=some (v,x)->mz c.K C (c.nm i) v=true/\∀B U,Sub c.G B->VR B U v x
 big:sysModules<c.G.objs.size
 gl:∀(k:Nat) (x:V) (l:SQ),T.gl[k]?=some x->T.gnm[k]?=some l->∃w,c.mg (Sl l)=some w/\∀B U,Sub c.G B->VR B U w x
 fn:∀f,T.fn f=true->fnIn c.K f=true
 kp:∀(k:Nat) (f:Value),T.kp k=true->T.gl[k]?=some (.g f)->keepIn c.K f=true
 bn:∀x∈([("len":Str), "ord", "chr", "min", "sum", "range", "dict", "enumerate"]:List Str),c.mg x=none
 cs:if T.fl=true then c.cs≠[] else c.cs=[]
theorem TabOk.boxed{c:Cx}{T:aW}(h:TabOk c T)(e:T.fl=true):c.cs≠[]:=by have:=h.cs;rwa[au e] at this
theorem TabOk.nocs{c:Cx}{T:aW}(h:TabOk c T)(e:T.fl=false):c.cs=[]:=by have:=h.cs;rwa[ar (by rw[e];exact Bool.false_ne_true)] at this
section
variable {c:Cx}{r:Nat}{L:Addr}{m:aD}{P:Heap->Ph->Prop}{H:Hp}{B Z h h':Heap}{U:Ph}{T:aW}
theorem KR.nomap{es:List (Str×Value)}{fs:List (Nat×V)}(k:KR c c.G (fun _=>none) es fs)(s:Sub c.G B):KR c B U es fs:=k.mono s (fun n p e=>by nomatch e)
theorem KR.look(hT:TabOk c T){s:SQ}{y:Option V}{es:List (Str×Value)}{fs:List (Nat×V)}(h:KR c B U es fs)(e:d9 T.nms s fs=some y) :
  match (generalizing:=false) y with|some x=>∃v,valueAt es (Sl s)=some v/\VR B U v x|none=>valueAt es (Sl s)=none:=by
 induction h with
 |nil=>cases e;rfl
 |@cons v i x _ fs1 hv r ih=>
  have e:(match T.nms[i]? with|none=>none|some l=>if l=s then some (some x) else d9 T.nms s fs1)=some y:=e
  rcases hl:T.nms[i]? with _|l
  ·rw[hl] at e;nomatch e
  ·rw[hl] at e
   dsimp only at e
   have hn:=hT.nm _ _ hl
   unfold valueAt
   rw[List.find?_cons]
   split at e
   ·rename_i hs
    cases e
    subst hs
    have:decide (c.nm i=Sl l)=true:=decide_eq_true hn
    rw[this]
    exact⟨v,rfl,hv⟩
   ·rename_i hs
    have:decide (c.nm i=Sl s)=false:=decide_eq_false fun q=>hs (by rw[hn] at q;exact congrArg PySem.Str.l q)
    rw[this]
    exact ih e
theorem fm{a:Addr}{o:Obj}{es:List (Str×Value)}(e:h.get? a=some o)(d:o.IsDictOf (PySem.strKind c.prog c.w) es):h.DictOf (PySem.strKind c.prog c.w) a es:=Heap.dictOf_iff.mpr ⟨o,e,d⟩
theorem cx(x:Str)(t:Tok):(PySem.strKind c.prog c.w).is x (.str x t)=true:=by
 show (x==x)=true;simp
theorem DVs.getElem{vs:List Value}{ds:List D}{k:Nat}{d:D}(x:DVs B vs ds)(e:ds[k]?=some d):∃v,vs.toArray[k]?=some v/\DV B v d:=by
 obtain⟨v,h1,h2⟩:=x.get e
 exact⟨v,by simpa using h1,h2⟩
theorem VRs.getElem{vs:List Value}{xs:List V}{k:Nat}{x:V}(h:VRs B U vs xs)(e:xs[k]?=some x):∃v,vs[k]?=some v/\VR B U v x:=by
 induction h generalizing k with
 |nil=>nomatch e
 |cons h r ih=>
  cases k with
  |zero=>cases e;exact⟨_,rfl,h⟩
  |succ k=>exact ih (k:=k) e
theorem m8{M:Model}{prog:Program}{w:World}{A:Around}{E:SU}{s:Shared}{a:Addr}{vs:List Value}{i:Int}{t:Tok}{j:Nat}{x:Value}{Q:SU}(hl:s.heap.IsList a vs.toArray)(hs:i.natAbs<9223372036854775808)
  (hj:seqIndex? i vs.length=some j)(hx:vs[j]?=some x)(q:Q x s):wpAny (model prog w) A (getItem (.ref a) (.int i t)) Q E s:=by
 have key:∀k:Int,(if (decide (0<=k)&&decide (k<(vs.length:Int)))=true then some k.toNat else none)=some j->0<=k/\k<vs.length/\vs[k.toNat]?=some x:=by
  intro k e
  split at e
  ·rename_i hc
   refine aS hc fun c1 c2=>?_
   cases e
   exact⟨of_decide_eq_true c1,of_decide_eq_true c2,hx⟩
  ·nomatch e
 unfold seqIndex? at hj
 by_cases hi:i<0
 ·rw[au hi] at hj
  obtain⟨c1,c2,c3⟩:=key _ hj
  exact wpAny_getItem_list_neg hl hi (by simp;omega) (IQ (by assumption)).1.1 (by simpa using c3) q
 ·rw[ar hi] at hj
  obtain⟨c1,c2,c3⟩:=key _ hj
  exact wpAny_getItem_list hl (SL hi) (IQ (by assumption)).1.2 (by simpa using c3) q
theorem jz{i:Int}{α:Type}{t:Option α}{z:α}(h:(if 9223372036854775808<=i.natAbs then none else t)=some z):i.natAbs<9223372036854775808/\t=some z:=by
 by_cases q:9223372036854775808<=i.natAbs
 ·cases (au q).symm.trans h
 ·exact⟨Nat.lt_of_not_le q,(ar q).symm.trans h⟩
section
variable {A:Around}{E:SU}{s:Shared}{value slice:Expr}{Post:SU}{i:Value}{a:Addr}{vs:List Value}{j:Int}{u:Tok}{n k:Nat}{v:Value}
abbrev jc(slice:Expr):Prop:=∀o i,subscripted slice false o i=operate [o,i] (getItem o i)
theorem Gl(hs:jc slice){x:Str}{t:Tok}{ch:Nat}(ok:eU x.l=true)(hb:j.natAbs<9223372036854775808)(hx:seqIndex? j x.l.length=some k)(hc:x.l[k]?=some ch)(done:∀tk v,DV B v (st [ch])->Post v { s with toks:=tk }) :
  wpAny c.M A (subscriptTail value slice (.str x t) (.int j u)) Post E s:=by
 refine tail_any (typeIs_str _ _ _) PySem.F.slot_str_getitem.lookup (PySem.P.getItem_str (c:=ch) ?_ ?_ (done _ _ (DV.st [ch] _ ?_))) (hs _ _)
 ·rw[decide_eq_false (IQ hb).2.1,decide_eq_false (IQ hb).2.2];rfl
 ·rw[bt,hx];simpa [PySem.Str.l] using hc
 ·unfold eU
  rw[List.all_cons,List.all_nil,aq ok ch (List.mem_of_getElem? hc)];rfl
theorem m5(hs:jc slice)(hl:s.heap.IsList a vs.toArray)(hn:vs.length=n)(hb:j.natAbs<9223372036854775808)(h1:seqIndex? j n=some k)(h3:vs[k]?=some v)(q:Post v s):wpAny c.M A (subscriptTail value slice (.ref a) (.int j u)) Post E s:=
 tail_any hl.typeIs PySem.F.slot_list_getitem.lookup (m8 (M:=c.M) hl hb (by rw[hn];exact h1) h3 q) (hs _ _)
theorem Gm(hs:jc slice)(hl:IsTup s.heap a vs.toArray)(hn:vs.length=n)(hb:j.natAbs<9223372036854775808)(h1:seqIndex? j n=some k)(h3:vs.toArray[k]?=some v)(q:Post v s):wpAny c.M A (subscriptTail value slice (.ref a) (.int j u)) Post E s:=
 tail_any hl.typeIs PySem.F.slot_tuple_getitem.lookup (getItem_tuple hl (IQ hb).1.1 (IQ hb).1.2 (by rw[show vs.toArray.size = _ from hn];exact h1) h3 q) (hs _ _)
theorem BX(hs:jc slice)(hR:Rel c B Z U L H s.heap){x y z:D}{o:Value}(ho:DV B o x)(hi:DV B i y)(e:k6 x y=some z)(done:∀tk v,DV B v z->Post v { s with toks:=tk }):wpAny c.M A (subscriptTail value slice o i) Post E s:=by
 refine ax e fun j h2 e3=>?_
 rw[bF h2] at hi
 obtain⟨u,rfl⟩:=hi.int_of
 clear e h2
 cases x with
 |str x=>
  obtain⟨t,rfl,ok⟩:=ho.str_okL
  obtain⟨hb,e4⟩:=jz e3
  obtain⟨ch,hc,rfl⟩:=ai e4
  refine ax hc fun k hx hc=>?_
  exact Gl hs ok hb hx hc done
 |list xs=>
  obtain⟨a,vs,rfl,hl,hvs⟩:=hR.isList ho
  obtain⟨hb,e4⟩:=jz e3
  refine ax e4 fun k h1 h2=>?_
  obtain⟨v,h3,h4⟩:=hvs.get h2
  exact m5 hs hl hvs.length hb h1 h3 (done _ _ h4)
 |tuple xs=>
  obtain⟨a,vs,rfl,hl,hvs⟩:=hR.isTup ho
  obtain⟨hb,e4⟩:=jz e3
  refine ax e4 fun k h1 h2=>?_
  obtain⟨v,h3,h4⟩:=hvs.getElem h2
  exact Gm hs hl hvs.length hb h1 h3 (done _ _ h4)
 |_=>nomatch e3
theorem sq(hT:TabOk c T)(hs:jc slice){es:List (Str×Value)}{fs:List (Nat×V)}{sx:Str}{z:V}(hm:s.heap.DictOf (PySem.strKind c.prog c.w) a es)(hk:KR c B U es fs)(e:(d9 T.nms sx.l fs).bind id=some z)(done:∀tk v,VR B U v z->Post v { s with toks:=tk }) :
  wpAny c.M A (subscriptTail value slice (.ref a) (.str sx u)) Post E s:=by
 refine ax e fun y h3 h4=>?_
 cases h4
 obtain⟨v,hv1,hv2⟩:=hk.look hT h3
 rw[bW] at hv1
 exact tail_any hm.typeIs PySem.F.slot_dict_getitem.lookup (wpAny_getItem_of (cx _ _) hm.mapOf hv1 (done _ _ hv2)) (hs _ _)
theorem BY(hT:TabOk c T)(hs:jc slice)(hR:Rel c B Z U L H s.heap){g:Value}{y z:V}(hi:VR B U i y)(e:uO T H (.g g) y=some z)(done:∀tk v,VR B U v z->Post v { s with toks:=tk }):wpAny c.M A (subscriptTail value slice g i) Post E s:=by
 refine ax e fun a h0 e1=>?_
 refine ax e1 fun d h1 e2=>?_
 refine ax e2 fun sx h2 e3=>?_
 have hi:=hi.dOf h1
 rw[bG h2] at hi
 obtain⟨t,rfl,ok⟩:=hi.str_okL
 have hne:T.cd a≠[]:=fun q=>by rw[q] at e3;nomatch e3
 obtain⟨od,es,hg,hd,hk⟩:=hT.cd a hne
 rw[g9 h0]
 exact sq hT hs (fm ((hR.base.1.trans hR.kB) _ _ hg) hd) (hk.nomap hR.base.1) e3 done
theorem BW(hT:TabOk c T)(hs:jc slice)(hR:Rel c B Z U L H s.heap){m0:Nat}{o:Value}{y z:V}(ho:VR B U o (.r m0))(hi:VR B U i y)(e:uO T H (.r m0) y=some z)(done:∀tk v,VR B U v z->Post v { s with toks:=tk }):wpAny c.M A (subscriptTail value slice o i) Post E s:=by
 refine ax e fun d h1 e1=>?_
 replace hi:=hi.dOf h1
 clear e h1
 cases d with
 |str sx=>
  obtain⟨t,rfl,ok⟩:=hi.str_okL
  obtain⟨fs,hn,e2⟩:∃fs,H[m0]?=some (some (.dict fs))/\(d9 T.nms sx.l fs).bind id=some z:=by
   rcases hn:H[m0]? with _|_|cl
   ·unfold Ap at e1;rw[hn] at e1;nomatch e1
   ·unfold Ap at e1;rw[hn] at e1;nomatch e1
   ·unfold Ap at e1;rw[hn] at e1
    cases cl with
    |dict fs=>exact⟨_,rfl,e1⟩
    |_=>nomatch e1
  obtain⟨p,rfl,hφ,_,_,od,es,hg,hd,hk⟩:=bD hR ho hn
  exact sq hT hs (fm hg hd) hk e2 done
 |int j=>
  obtain⟨u,rfl⟩:=hi.int_of
  obtain⟨hb,e2⟩:=jz e1
  rcases hn:H[m0]? with _|_|cl
  ·rw[hn] at e2;nomatch e2
  ·rw[hn] at e2;nomatch e2
  ·rw[hn] at e2
   obtain⟨p,rfl,hφ,hc⟩:=bD hR ho hn
   clear hn ho
   cases cl with
   |dlist xs=>
    obtain⟨d,h1,rfl⟩:=ai e2
    refine ax h1 fun k h1 h2=>?_
    obtain⟨_,vs,kk,hg,hvs⟩:=hc
    obtain⟨v,h3,h4⟩:=hvs.get h2
    exact m5 hs ⟨_,hg,rfl,kk,rfl⟩ hvs.length hb h1 h3 (done s.toks _ (.d h4))
   |list xs=>
    refine ax e2 fun k h1 h2=>?_
    obtain⟨_,vs,kk,hg,hvs⟩:=hc
    obtain⟨v,h3,h4⟩:=hvs.getElem h2
    exact m5 hs ⟨_,hg,rfl,kk,rfl⟩ hvs.length hb h1 h3 (done s.toks _ h4)
   |_=>nomatch e2
 |_=>nomatch e1
end
theorem Mv{o i:Value}{x y z:V}{value slice:Expr}{Q:SV}(hT:TabOk c T)(hs:jc slice)(hv:∀B U,P B U->VR B U o x/\VR B U i y)(e:uO T H x y=some z)(q:Q z H) :
  Tr VR c r L m P H (subscriptTail value slice o i) Q:=by
 intro A E s B Z U hA ht hR hF hp
 obtain⟨ho,hi⟩:=hv _ _ hp
 have done:∀tk v,VR B U v z->EndT VR c B Z U L m Q s v { s with toks:=tk }:=fun tk v hz=>aM hR hF hz q
 clear hv hp hF
 cases x with
 |d x=>
  refine ax e fun y h1 e1=>?_
  obtain⟨d,e2,rfl⟩:=ai e1
  exact BX hs hR ho.d_of (hi.dOf h1) e2 fun tk v h=>done tk v (.d h)
 |g v=>cases ho;exact BY hT hs hR hi e done
 |r n=>exact BW hT hs hR ho hi e done
 |m f n=>nomatch e
 |el=>nomatch e
 |junk=>nomatch e
end
end Mine
namespace Mine
open PySem.Builtin PySem.Builtin.Str
noncomputable def qT(T:aW)(H:Hp)(x:V):V->Option Bool
 |.r n=>((dOf x).bind ic).bind fun s=>match H[n]? with
  |some (some (.dict fs))=>(d9 T.nms s.l fs).map (·.isSome)
  |_=>none
 |y=>k9 .mem x y
noncomputable def qB(H:Hp)(n:Nat):Option (List D):=match H[n]? with
 |some (some (.dlist xs))=>some xs
 |some (some (.list []))=>some []
 |_=>none
noncomputable def JR(H:Hp)(o:eY)(x y:V):Option Bool:=match x with
 |.r n=>((dOf y).bind x5).bind fun ys=>(qB H n).bind fun xs=>bB o (.list xs) (.list ys)
 |x=>k9 o x y
noncomputable def cw(T:aW)(H:Hp)(o:eY)(x y:V):Option Bool:=match o with
 |.mem=>qT T H x y
 |.ne=>JR H .ne x y
 |.eq=>JR H .eq x y
 |o=>k9 o x y
noncomputable def k7(x:SQ)(lo hi:Option Int):SQ:=(Txt.slice (Sl x) lo hi).l
noncomputable def IP{α:Type}(xs:List α)(lo hi:Option Int):List α:=(sliceRange (sliceBounds lo hi none xs.length).1 (sliceBounds lo hi none xs.length).2.1 (sliceBounds lo hi none xs.length).2.2).filterMap (xs[·]?)
noncomputable def EN:D->Option Int->Option Int->Option D
 |.str x,lo,hi=>if x.l.length<=16777216 then some (st (k7 x.l lo hi)) else none
 |.list xs,lo,hi=>if xs.length<=16777216 then some (.list (IP xs lo hi)) else none
 |_,_,_=>none
def SR(B:Heap)(v:Value)(lo hi:Option Int):Prop:=∃a vl vu,v=.ref a/\B.get? a=some { cls:=.type "slice", data:=.fields #[vl,vu,.none] }/\IsPart vl lo/\IsPart vu hi
section
variable {c:Cx}{r:Nat}{L:Addr}{m:aD}{P:Heap->Ph->Prop}{H:Hp}{B Z h h':Heap}{U:Ph}{T:aW}
theorem fe(R:Rel c B Z U L H h){o:Value}{n:Nat}{xs:List D}(ho:VR B U o (.r n))(e:H[n]?=some (some (.dlist xs))\/(H[n]?=some (some (.list []))/\xs=[])):DV h o (.list xs):=by
 rcases e with e|⟨e,rfl⟩
 ·obtain⟨p,rfl,hφ,hc⟩:=bD R ho e
  obtain⟨_,vs,k,h1,h2⟩:=hc
  obtain⟨k1,as,k2,k3⟩:=h2.mono R.kB
  exact⟨by exact k1,_,.list h1 rfl rfl (by simpa using k2),OkAs.cons ⟨_,h1,.inl ⟨_,_,rfl⟩⟩ k3⟩
 ·obtain⟨p,rfl,hφ,hc⟩:=bD R ho e
  obtain⟨_,vs,k,h1,h2⟩:=hc
  cases h2
  exact⟨rfl,_,.list h1 rfl rfl .nil,OkAs.cons ⟨_,h1,.inl ⟨_,_,rfl⟩⟩ .nil⟩
theorem AZ{n:Nat}{xs:List D}(e:qB H n=some xs):H[n]?=some (some (.dlist xs))\/(H[n]?=some (some (.list []))/\xs=[]):=by
 unfold qB at e
 rcases hn:H[n]? with _|_|cl
 ·rw[hn] at e;nomatch e
 ·rw[hn] at e;nomatch e
 ·rw[hn] at e
  cases cl with
  |dlist ys=>cases e;exact .inl rfl
  |list ys=>cases ys with
   |nil=>cases e;exact .inr ⟨rfl,rfl⟩
   |cons=>nomatch e
  |_=>nomatch e
theorem z6{o:eY}{a b:Value}{x y:V}{z:Bool}{Q:SV}(ho:o=.eq\/o=.ne)(hv:∀B U,P B U->VR B U a x/\VR B U b y)(e:JR H o x y=some z)(q:Q (.d (.bool z)) H):Tr VR c r L m P H (compareOp (jL o) a b) Q:=by
 cases x with
 |r n=>
  refine ax e fun ys h1 e1=>?_
  refine ax h1 fun d h2 h1=>?_
  refine ax e1 fun xs h3 e2=>?_
  obtain rfl:=pz h1
  intro A E s B Z U hA ht hR hF hp
  obtain⟨ha,hb⟩:=hv _ _ hp
  replace hb:=hb.dOf h2
  have done:EndT VR c B Z U L m Q s (.bool z) { s with toks:=s.toks }:=aM hR hF (.d (DV.bool _)) q
  have k:=fe hR ha (AZ h3)
  rcases ho with rfl|rfl
  ·exact kL (o:=.eq) (PY hA.u) (Sub.refl _) k (hb.mono hR.kB) e2 done
  ·exact kL (o:=.ne) (PY hA.u) (Sub.refl _) k (hb.mono hR.kB) e2 done
 |_=>exact rx hv e q
theorem Dq{a b:Value}{x y:V}{z:Bool}{Q:SV}(hT:TabOk c T)(hv:∀B U,P B U->VR B U a x/\VR B U b y)(e:qT T H x y=some z)(q:Q (.d (.bool z)) H):Tr VR c r L m P H (compareOp .In a b) Q:=by
 cases y with
 |r n=>
  refine ax e fun sx h1 e1=>?_
  refine ax h1 fun d h2 h1=>?_
  obtain rfl:=bG h1
  rcases hn:H[n]? with _|_|cl
  ·rw[hn] at e1;nomatch e1
  ·rw[hn] at e1;nomatch e1
  ·rw[hn] at e1
   cases cl with
   |dict fs=>
    intro A E s B Z U hA ht hR hF hp
    obtain⟨ha,hb⟩:=hv _ _ hp
    obtain⟨y,h1,rfl⟩:=ai e1
    obtain⟨t,rfl,ok⟩:=(ha.dOf h2).str_okL
    obtain⟨p,rfl,hφ,hc⟩:=bD hR hb hn
    obtain⟨_,hns,od,es,hg,hd,hk⟩:=hc
    have hm:s.heap.DictOf (PySem.strKind c.prog c.w) p.1 es:=fm hg hd
    refine wpAny_in_of (cx _ _) hns hm.mapOf ?_
    have:=hk.look hT h1
    rw[bW] at this
    have ev:(valueAt es sx).isSome=y.isSome:=by
     cases y with
     |none=>dsimp only at this;rw[this];rfl
     |some x=>obtain⟨v,hv,_⟩:=this;rw[hv];rfl
    rw[ev]
    exact aM hR hF (.d (DV.bool _)) q
   |_=>nomatch e1
 |_=>exact rx (o:=.mem) hv e q
theorem fQ{o:eY}{a b:Value}{x y:V}{z:Bool}{Q:SV}(hT:TabOk c T)(hv:∀B U,P B U->VR B U a x/\VR B U b y)(e:cw T H o x y=some z)(q:Q (.d (.bool z)) H):Tr VR c r L m P H (compareOp (jL o) a b) Q:=by
 cases o with
 |mem=>exact Dq hT hv e q
 |eq=>exact z6 (.inl rfl) hv e q
 |ne=>exact z6 (.inr rfl) hv e q
 |_=>exact rx hv e q
theorem u7{x:Str}(h:eU x.l=true)(lo hi:Option Int):eU (Txt.slice x lo hi).l=true:=by
 unfold Txt.slice
 split
 ·exact h
 ·unfold eU at *
  rw[List.all_eq_true] at *
  intro ch hc
  obtain⟨i,_,hi⟩:=List.mem_filterMap.mp hc
  rw[←Array.getElem?_toList] at hi
  exact h ch (List.mem_of_getElem? hi)
theorem DVs.pick{vs:List Value}{ds:List D}(x:DVs B vs ds):∀is:SQ,DVs B (is.filterMap (vs[·]?)) (is.filterMap (ds[·]?)):=by
 intro is
 induction is with
 |nil=>exact DVs.nil
 |cons i is ih=>
  rw[List.filterMap_cons,List.filterMap_cons]
  cases e:ds[i]? with
  |none=>
   have:vs[i]?=none:=by rw[List.getElem?_eq_none_iff] at e ⊢;rw[x.length];exact e
   rw[this];exact ih
  |some d=>
   obtain⟨v,h1,h2⟩:=x.get e
   rw[h1];exact .cons h2 ih
theorem Mw{o i:Value}{x z:D}{lo hi:Option Int}{value lower upper:Expr}{Q:SV}{slice:Expr}(hs:∀o i,subscripted slice false o i=operate [i,o] (getItem o i))(hv:∀B U,P B U->VR B U o (.d x)/\SR B i lo hi)(e:EN x lo hi=some z)(q:Q (.d z) H) :
  Tr VR c r L m P H (subscriptTail value slice o i) Q:=by
 intro A E s B Z U hA ht hR hF hp
 obtain⟨ho,a,vl,vu,rfl,hg,pl,pu⟩:=hv _ _ hp
 replace ho:=ho.d_of
 cases x with
 |str x=>
   obtain⟨hl,rfl⟩:=dA e
   obtain⟨t,rfl,ok⟩:=ho.str_okL
   have done:∀t' k,EndT VR c B Z U L m Q s (.str (Txt.slice x lo hi) t') { s with toks:=k }:=fun t' k=>by
    have:=u7 ok lo hi
    refine aM hR hF (.d ?_) q
    have:=DV.st (B:=B) (k7 x.l lo hi) t' (by unfold k7;rw[bW];exact this)
    unfold k7 at this
    rw[bW,bW] at this
    unfold k7
    rw[bW];exact this
   refine tail_any (typeIs_str _ _ _) PySem.F.slot_str_getitem.lookup ?_ (hs _ _)
   have hsz:=ak (Txt.slice_le x lo hi) (by rw[bt];exact hl)
   cases pl with
   |none=>
    cases pu with
    |none=>exact wpAny_getItem_str_slice (l:=none) (u:=none) (st:=none) ⟨_,hR.kB _ _ hg,rfl,rfl⟩ rfl (post_val_or_str ⟨hsz,done⟩)
    |int j uj=>exact wpAny_getItem_str_slice (l:=none) (u:=some (j,uj)) (st:=none) ⟨_,hR.kB _ _ hg,rfl,rfl⟩ rfl (post_val_or_str ⟨hsz,done⟩)
   |int i ui=>
    cases pu with
    |none=>exact wpAny_getItem_str_slice (l:=some (i,ui)) (u:=none) (st:=none) ⟨_,hR.kB _ _ hg,rfl,rfl⟩ rfl (post_val_or_str ⟨hsz,done⟩)
    |int j uj=>exact wpAny_getItem_str_slice (l:=some (i,ui)) (u:=some (j,uj)) (st:=none) ⟨_,hR.kB _ _ hg,rfl,rfl⟩ rfl (post_val_or_str ⟨hsz,done⟩)
 |list xs=>
   obtain⟨hl,rfl⟩:=dA e
   obtain⟨a',vs,rfl,hlst,hvs⟩:=hR.isList ho
   refine tail_any hlst.typeIs PySem.F.slot_list_getitem.lookup ?_ (hs _ _)
   refine wpAny_getItem_list_slice hlst ⟨_,hR.kB _ _ hg,rfl,rfl⟩ pl pu .none (by simp) ?_ (by rw[show vs.toArray.size = _ from hvs.length];exact hl)
   obtain⟨mm,hns,hm⟩:=hF.ex
   have aL:s.heap.objs.size≠L:=Nat.ne_of_gt hns.lt
   have e1:slicePick vs.toArray lo hi none=((sliceRange (sliceBounds lo hi none xs.length).1 (sliceBounds lo hi none xs.length).2.1 (sliceBounds lo hi none xs.length).2.2).filterMap (vs[·]?)).toArray:=by
    unfold slicePick
    rw[show vs.toArray.size=xs.length from hvs.length]
    have ef:(fun i=>vs.toArray[i]?)=fun i:Nat=>vs[i]?:=funext fun i=>by simp
    rw[ef]
   rw[e1]
   have g:=Heap.get?_push_size (s.heap) (o:=({ cls:=.type "list", data:=.seq ((sliceRange (sliceBounds lo hi none xs.length).1 (sliceBounds lo hi none xs.length).2.1 (sliceBounds lo hi none xs.length).2.2).filterMap (vs[·]?)).toArray }:Obj)) rfl
   obtain⟨R1,S1⟩:=hR.frozen aL (ba _) rfl g aG
   exact⟨_,s.toks,_,U,_,H,rfl,S1,PSub.refl _,R1,(hF.keep (fun o e=>Heap.get?_push_of_some _ e)).mono S1 (PSub.refl _),.d (DV.list_at (n:=0) (aH rfl) ((hvs.pick _).mono S1)),q⟩
 |_=>nomatch e
theorem p6{vl vu:Value}{lo hi:Option Int}{Q:Unit->Hp->Prop}(hl:IsPart vl lo)(hu:IsPart vu hi)(q:Q () H):Tr (fun B _ v (_:Unit)=>SR B v lo hi) c r L m P H (newFields "slice" [vl,vu,.none]) Q:=by
 intro A E s B Z U hA ht hR hF hp
 refine wpAny_newObj_type ?_
 obtain⟨mm,hns,hm⟩:=hF.ex
 have aL:s.heap.objs.size≠L:=Nat.ne_of_gt hns.lt
 have g:=Heap.get?_push_size (s.heap) (o:=({ cls:=.type "slice", data:=.fields #[vl,vu,.none] }:Obj)) rfl
 obtain⟨R1,S1⟩:=hR.frozen aL (ba _) rfl g aG
 exact⟨_,s.toks,_,U,(),H,rfl,S1,PSub.refl _,R1,(hF.keep (fun o e=>Heap.get?_push_of_some _ e)).mono S1 (PSub.refl _),⟨_,vl,vu,rfl,aH rfl,hl,hu⟩,q⟩
noncomputable def mn:Cell->V->Option Cell
 |.list vs,x=>if vs.length<=16777215 then some (.list (vs++[x])) else none
 |.dlist ds,.d d=>if ds.length<=16777215 then some (.dlist (ds++[d])) else none
 |_,_=>none
theorem vy{o v:Value}{n:Nat}{x:V}{cl cl':Cell}{Q:SV}(hv:∀B U,P B U->VR B U o (.r n)/\VR B U v x)(hn:H[n]?=some (some cl))(e:mn cl x=some cl')(q:Q (.d .none) (H.set n (some cl'))) :
  Tr VR c r L m P H (call (.builtin "list.append") [o,v]) Q:=by
 intro A E s B Z U hA ht hR hF hp
 obtain⟨ho,hx⟩:=hv _ _ hp
 obtain⟨p,rfl,hφ,hc⟩:=bD hR ho hn
 obtain⟨_,_,l1,l2⟩:=hR.free n p ⟨_,hn⟩ hφ
 have db:∀(vs:List Value) (k:Nat),p.2=p.1->s.heap.get? p.1=some (listOf vs.toArray k)->vs.length<=16777215->(∀h',h'.get? p.1=some (listOf (vs++[v]).toArray (k+1))->CellAt c h' B U p cl') ->
   wpAny c.M A (call (.builtin "list.append") [.ref p.1,v]) (fun v s'=>EndT VR c B Z U L m Q s v s') E s:=by
  intro vs k e1 h1 hl hc'
  refine append_at h1 (fun h' hs ho=>?_) (ak hl (by decide))
  have keep:∀b o,b≠L->b≠p.2->s.heap.get? b=some o->h'.get? b=some o:=fun b o _ hb e=>by rw[hs.2 b (by rw[←e1];exact hb)];exact e
  refine⟨h',s.toks,B,U,_,_,rfl,Sub.refl _,PSub.refl _,hR.turn hφ hn keep (hc' h' (by rw[ho];simp)),hF.keep (fun o e=>?_),.d DV.none,q⟩
  rw[hs.2 L (Ne.symm l1)];exact e
 cases cl with
 |list xs=>
  obtain⟨hl,rfl⟩:=dA e
  obtain⟨e1,vs,k,h1,h2⟩:=hc
  exact db vs k e1 h1 (ak (an h2.length) hl) fun h' g=>⟨e1,_,_,g,h2.append (.cons hx .nil)⟩
 |dlist ds=>
  cases x with
  |d d=>
   obtain⟨hl,rfl⟩:=dA e
   obtain⟨e1,vs,k,h1,h2⟩:=hc
   exact db vs k e1 h1 (ak (an h2.length) hl) fun h' g=>⟨e1,_,_,g,h2.append (.cons hx.d_of .nil)⟩
  |_=>nomatch e
 |_=>nomatch e
end
end Mine
namespace Mine
open PySem.Builtin PySem.Builtin.Str
section
variable {c:Cx}{r:Nat}{L:Addr}{m:aD}{P:Heap->Ph->Prop}{H:Hp}{B Z h h':Heap}{U:Ph}{T:aW}{env:Env}
theorem zE{α:Type}{H:List α}{n:Nat}{x:α}(e:H[n]?=some x):H.set n x=H:=by
 apply List.ext_getElem?
 intro k
 rw[List.getElem?_set]
 by_cases w:n=k
 ·subst w
  rw[au rfl,e]
  rcases Nat.lt_or_ge n H.length with z|z
  ·rw[au z]
  ·rw[List.getElem?_eq_none z] at e;nomatch e
 ·rw[ar w]
theorem KR.keys{es:List (Str×Value)}{fs:List (Nat×V)}(h:KR c B U es fs):es.map (·.1)=fs.map fun p=>c.nm p.1:=by
 induction h with
 |nil=>rfl
 |cons v r ih=>exact congrArg (_::·) ih
theorem KR.put{i:Nat}{x:V}{v:Value}(hv:VR B U v x){es:List (Str×Value)}{fs:List (Nat×V)}(h:KR c B U es fs)(nd:(es.map (·.1)).Nodup)(e:(lk i fs).isSome=true):KR c B U (es.map fun kv=>if kv.1=c.nm i then (kv.1,v) else kv) (pk i x fs):=by
 induction h with
 |nil=>nomatch e
 |@cons w j y es fs hw r ih=>
  rw[List.map_cons,List.nodup_cons] at nd
  rw[List.map_cons]
  rw[g8]
  rw[a6] at e
  by_cases q:j=i
  ·subst q
   rw[au rfl,au rfl]
   have:(es.map fun kv=>if kv.1=c.nm j then (kv.1,v) else kv)=es:=by
    conv=>rhs;rw[←List.map_id es]
    refine List.map_congr_left fun kv hkv=>?_
    rw[ar fun z=>nd.1 (by have:=List.mem_map_of_mem (f:=Prod.fst) hkv;rw[z] at this;exact this)];rfl
   rw[this]
   exact .cons hv r
  ·rw[ar q] at e ⊢
   rw[ar fun z=>q (c.inj _ _ z)]
   exact .cons hw (ih nd.2 e)
theorem KR.any{i:Nat}{es:List (Str×Value)}{fs:List (Nat×V)}(h:KR c B U es fs):es.any (fun kv=>decide (kv.1=c.nm i))=(lk i fs).isSome:=by
 induction h with
 |nil=>rfl
 |@cons w j y es fs hw r ih=>
  rw[List.any_cons,ih,a6]
  by_cases q:j=i
  ·subst q;simp
  ·rw[ar q,decide_eq_false fun z=>q (c.inj _ _ z)];rfl
theorem KR.snoc{i:Nat}{x:V}{v:Value}(hv:VR B U v x){es:List (Str×Value)}{fs:List (Nat×V)}(h:KR c B U es fs):KR c B U (es++[(c.nm i,v)]) (fs++[(i,x)]):=by
 induction h with
 |nil=>exact .cons hv .nil
 |cons w r ih=>exact .cons w ih
theorem KR.stored{i:Nat}{x:V}{v:Value}{es:List (Str×Value)}{fs:List (Nat×V)}(hv:VR B U v x)(k:KR c B U es fs)(nd:(es.map (·.1)).Nodup):KR c B U (stored es (c.nm i) v) (if (lk i fs).isSome=true then pk i x fs else fs++[(i,x)]):=by
 unfold PySem.stored
 rw[k.any (i:=i)]
 split
 ·exact k.put hv nd ‹_›
 ·exact k.snoc hv
theorem KR.length{es:List (Str×Value)}{fs:List (Nat×V)}(k:KR c B U es fs):es.length=fs.length:=by
 have:=congrArg List.length k.keys;simpa using this
theorem pR{n i:Nat}{x:V}{v:Value}{p:Addr×Addr}{fs:List (Nat×V)}{s:Shared}(hR:Rel c B Z U L H s.heap)(hF:FrR c B U L m s.heap)(hφ:U n=some p)(hn:H[n]?=some (some (.dict fs)))(hv:VR B U v x)(hl:fs.length<=1000) :
  ∃es,s.heap.DictOf (PySem.strKind c.prog c.w) p.1 es/\es.length<=sizeLine/\∀h',h'.DictOf (PySem.strKind c.prog c.w) p.1 (stored es (c.nm i) v)->Heap.SameBut p.1 s.heap h' ->
   Rel c B Z U L (H.set n (some (.dict (if (lk i fs).isSome=true then pk i x fs else fs++[(i,x)])))) h'/\FrR c B U L m h':=by
 obtain⟨q,hq,hc⟩:=hR.cell n _ hn
 rw[hφ] at hq;nomatch hq
 obtain⟨e1,hns,o,es,hg,hd,hk⟩:=hc
 obtain⟨_,_,l1,l2⟩:=hR.free n p ⟨_,hn⟩ hφ
 have hm:=fm hg hd
 refine⟨es,hm,?_,fun h' hd' hs=>⟨?_,hF.keep (fun o e=>by rw[hs.2 L (Ne.symm l1)];exact e)⟩⟩
 ·rw[hk.length];unfold sizeLine;omega
 ·obtain⟨o',ho',hd''⟩:=Heap.dictOf_iff.mp hd'
  have nd:(es.map (·.1)).Nodup:=by obtain⟨_,_,_,_,_,_,nd⟩:=hd;exact nd
  exact hR.turn hφ hn (fun b o _ hb e=>by rw[hs.2 b (by rw[←e1];exact hb)];exact e) ⟨e1,hns,o',_,ho',hd'',hk.stored hv nd⟩
theorem rz{o k v:Value}{n i:Nat}{x:V}{sx:Str}{fs:List (Nat×V)}{Q:Unit->Hp->Prop}(hnm:c.nm i=sx)(hv:∀B U,P B U->VR B U o (.r n)/\VR B U k (.d (.str sx))/\VR B U v x)(hn:H[n]?=some (some (.dict fs)))(hl:fs.length<=1000)
  (q:Q () (H.set n (some (.dict (if (lk i fs).isSome=true then pk i x fs else fs++[(i,x)]))))):Tr (fun _ _ _ (_:Unit)=>True) c r L m P H (setItem o k v) Q:=by
 intro A E s B Z U hA ht hR hF hp
 obtain⟨ho,hk,hx⟩:=hv _ _ hp
 obtain⟨p,rfl,hφ,hc⟩:=bD hR ho hn
 obtain⟨t,rfl,ok⟩:=hk.d_of.str_okL
 subst hnm
 obtain⟨es,hm,hz,db⟩:=pR (i:=i) hR hF hφ hn hx hl
 refine wpAny_setItem_pairs (cx _ _) hm (fun h' hd hs=>?_) hz
 obtain⟨R1,F1⟩:=db h' hd hs
 exact⟨h',s.toks+1,B,U,(),_,rfl,Sub.refl _,PSub.refl _,R1,F1,trivial,q⟩
inductive PR(c:Cx)(B:Heap)(U:Ph):List (Value×Value)->List (Nat×V)->Prop
 |nil:PR c B U [] []
 |cons {i:Nat}{t:Tok}{v:Value}{x:V}{vs:List (Value×Value)}{xs:List (Nat×V)}:VR B U v x->PR c B U vs xs->PR c B U ((.str (c.nm i) t,v)::vs) ((i,x)::xs)
theorem Cp{i j:Nat}{x:V}:∀{fs:List (Nat×V)},lk j fs=none->i≠j->lk j (fs++[(i,x)])=none:=by
 intro fs
 induction fs with
 |nil=>intro _ n;rw[List.nil_append,a6,ar n];rfl
 |cons p r ihr=>
  intro e n
  rw[List.cons_append]
  rw[a6] at e ⊢
  split at e
  ·nomatch e
  ·rw[ar ‹_›];exact ihr e n
theorem nP{M:Unit}{A:Around}{E:SU}{n:Nat}{p:Addr×Addr}:∀{vs:List (Value×Value)}{xs:List (Nat×V)}{fs:List (Nat×V)}{H:Hp}{s:Shared}{Q:PUnit->Shared->Prop},PR c B U vs xs->Rel c B Z U L H s.heap->FrR c B U L m s.heap->U n=some p ->
  H[n]?=some (some (.dict fs))->(xs.map (·.1)).Nodup->(∀q∈xs,lk q.1 fs=none)->fs.length+xs.length<=1000 ->
  (∀h' tk,Rel c B Z U L (H.set n (some (.dict (fs++xs)))) h'->FrR c B U L m h'->Q ⟨⟩ { s with heap:=h',toks:=tk })->wpAny c.M A (storeAll p.1 vs) Q E s:=by
 intro vs xs fs H s Q hr
 induction hr generalizing fs H s Q with
 |nil=>
  intro R F hφ hn nd ap hl q
  refine wpAny_pure ?_
  have:=q s.heap s.toks (by rw[List.append_nil,zE hn];exact R) F
  exact this
 |cons hv r ih=>
  rename_i i t v x vs xs
  intro R F hφ hn nd ap hl q
  rw[ag] at hl
  rw[List.map_cons,List.nodup_cons] at nd
  obtain⟨es,hm,hz,db⟩:=pR (i:=i) R F hφ hn hv (MD hl).1
  unfold storeAll
  rw[List.forIn_cons]
  refine wpAny_bind (wpAny_bind (wpAny_dictSet_pairs (cx _ _) hm (fun h' hd hs=>?_) hz))
  obtain⟨R1,F1⟩:=db h' hd hs
  refine wpAny_pure ?_
  have e0:lk i fs=none:=ap _ aa
  rw[e0] at R1
  have ln:n<H.length:=by
   rcases Nat.lt_or_ge n H.length with z|z
   ·exact z
   ·rw[List.getElem?_eq_none z] at hn;nomatch hn
  refine ih (fs:=fs++[(i,x)]) R1 F1 hφ (by rw[List.getElem?_set,au rfl,au ln];rfl) nd.2 (fun z hz=>Cp (ap z (ad _ hz)) fun w=>nd.1 (by have:=List.mem_map_of_mem (f:=Prod.fst) hz;rw[←w] at this;exact this)) (by simp;omega) fun h2 tk R2 F2=>?_
  refine q h2 tk ?_ F2
  rw[List.set_set,af] at R2
  exact R2
theorem i6{Q:List (Nat×V)->Hp->Prop}(q:Q [] H):Tr (PR c) c r L m P H (evalPairs []) Q:=
 fun A E s B Z U hA ht hR hF hp=>wpAny_pure (aM (tk:=s.toks) hR hF .nil q)
theorem ie{i k:Nat}{sx:Str}{kp pos:Pos}{t:Sem Value}{rest:List (Sem Value×Sem Value)}{Q:List (Nat×V)->Hp->Prop}(hP:Mono P)(hnm:c.nm i=sx)
  (h:Tr VR c r L m P H t fun x H'=>∀v,Tr (PR c) c r L m (fun B U=>P B U/\VR B U v x) H' (evalPairs rest) fun xs H''=>Q ((i,x)::xs) H'') :
  Tr (PR c) c r L m P H (evalPairs ((eval (.Constant (.str sx) k kp) env,do let x ← t;standAt pos;pure x)::rest)) Q:=by
 subst hnm
 intro A E s B Z U hA ht hR hF hp
 show wpAny c.M A (evalPairs ((_,_)::rest)) _ _ _
 unfold evalPairs
 refine wpAny_bind (wpAny_mkText (wpAny_bind (wpAny_holding ?_)))
 refine wpAny_bind (Tr.run (s:={ s with toks:=s.toks+1 }) h hA (ak ht (Nat.le_succ _)) hR hF hp fun v h' tk B' U' x H' ht' b p R1 F1 rv q=>?_)
 refine wpAny_bind (wpAny_standAt (wpAny_pure ?_))
 refine wpAny_bind (wpAny_holding (wpAny_mono (q v A E _ B' Z U' hA ht' R1 F1 ⟨hP _ _ _ _ b p hp,rv⟩) ?_ fun _ _ x=>x))
 rintro vs s'' ⟨h2,tk2,B2,U2,xs,H2,rfl,b2,p2,R2,F2,rvs,q2⟩
 exact wpAny_pure ⟨h2,tk2,B2,U2,_,H2,rfl,b.trans b2,p.trans p2,R2,F2,.cons (rv.mono b2 p2) rvs,q2⟩
theorem Do{keys:List (Option Expr)}{values:List Expr}{pos:Pos}{Q:SV}(hT:TabOk c T)(hall:keys.all (·.isSome)=true)(hlen:keys.length=values.length)(h0:keys≠[])(h15:keys.length<=15)(hP:Mono P)
  (h:Tr (PR c) c r L m P (H++[some (.dict [])]) (evalPairs (pairTrees keys values env pos)) fun xs H'=>H'[H.length]?=some (some (.dict []))/\(xs.map (·.1)).Nodup/\xs.length<=900/\Q (.r H.length) (H'.set H.length (some (.dict xs)))) :
  Tr VR c r L m P H (eval (.Dict keys values pos) env) Q:=by
 intro A E s B Z U hA ht hR hF hp
 refine wpAny_Dict_any hall hlen h0 h15 ?_
 obtain⟨mm,hns,hm⟩:=hF.ex
 have aL:s.heap.objs.size≠L:=Nat.ne_of_gt hns.lt
 have g:(s.heap.push ({ cls:=.type "dict", data:=.dict #[] }:Obj)).get? s.heap.objs.size=some ({ cls:=.type "dict", data:=.dict #[] }:Obj):=Heap.get?_push_size _ rfl
 have hbig:(s.heap.objs.size==sysModules)=false:=by
  have h1:=hT.big
  have h2:=hR.LG
  have h3:=hns.lt
  exact beq_eq_false_iff_ne.mpr (Nat.ne_of_gt (Nat.lt_of_lt_of_le h1 (ak h2 (Nat.le_of_lt h3))))
 obtain⟨od,hod,hdd⟩:=Heap.dictOf_iff.mp (Heap.DictOf.new (knd:=PySem.strKind c.prog c.w) s.heap)
 rw[g] at hod
 cases hod
 obtain⟨R1,S1⟩:=hR.new_cell (p:=(s.heap.objs.size,s.heap.objs.size)) (cl:=.dict []) (h':=s.heap.push ({ cls:=.type "dict", data:=.dict #[] }:Obj)) (ba _) aG aG aL aL ⟨rfl,hbig,_,_,g,hdd,.nil⟩
 have F1:FrR c B (dE U H.length (s.heap.objs.size,s.heap.objs.size)) L m (s.heap.push ({ cls:=.type "dict", data:=.dict #[] }:Obj)):=(hF.keep (fun o e=>Heap.get?_push_of_some _ e)).mono (Sub.refl _) S1
 refine wpAny_mono (h A E { s with heap:=s.heap.push ({ cls:=.type "dict", data:=.dict #[] }:Obj) } B Z _ hA ht R1 F1 (hP _ _ _ _ (Sub.refl _) S1 hp)) ?_ fun _ _ x=>x
 rintro vs s' ⟨h',tk,B',U',xs,H',rfl,b,p,R2,F2,rvs,e1,nd,hx,q⟩
 have hφ:U' H.length=some (s.heap.objs.size,s.heap.objs.size):=p _ _ (by unfold dE;rw[au rfl])
 refine nP (M:=()) (p:=(s.heap.objs.size,s.heap.objs.size)) rvs R2 F2 hφ e1 nd (fun _ _=>rfl) (by simp;omega) fun h2 tk2 R3 F3=>?_
 rw[List.nil_append] at R3
 exact⟨h2,tk2,B',U',_,_,rfl,b,S1.trans p,R3,F3,.r (p:=(s.heap.objs.size,s.heap.objs.size)) hφ,q⟩
theorem ry{o:Value}{pos:Pos}{x y z:Str}{k1 k2:Nat}{p1 p2:Pos}{Q:SV}(hv:∀B U,P B U->DV B o (.str x))(hok:eU z.l=true)(hyz:(y==z)=false)(hl:x.l.length+(x.l.length+1) * z.l.length<=16777216)(q:Q (.d (st (bU x.l y.l z.l))) H) :
  Tr VR c r L m P H (callWith pos (.builtin "str.replace") [o] [(false,eval (.Constant (.str y) k1 p1) env),(false,eval (.Constant (.str z) k2 p2) env)] []) Q:=by
 intro A E s B Z U hA ht hR hF hp
 obtain⟨t,rfl,ok⟩:=(hv _ _ hp).str_okL
 refine callWith_of (P:=fun _=>True) rfl (fun h _=>⟨.machine,.inr (.inl rfl),Looks.of_pure rfl⟩) (evalArgs_plain (spliced_cons (wpAny_mkText (spliced_cons (wpAny_mkText (spliced_nil ⟨trivial,?_⟩))))))
 refine SC.replace (Nat.ne_of_gt ht) (Nat.succ_ne_zero _) (Nat.ne_of_lt (Nat.lt_succ_self _)) hyz (by rw[bt,bt];exact hl) fun t' k=>?_
 have:Txt.replace x y z=Sl (bU x.l y.l z.l):=by unfold bU;rw[bW,bW,bW,bW]
 rw[this]
 refine aM (tk:=k) hR hF (.d (DV.st _ _ ?_)) q
 unfold bU
 rw[bW,bW,bW]
 exact yu ok hok
noncomputable def qp:Bi->Option Str
 |.join=>some "join" |.count3=>some "count" |.rfind3=>some "rfind" |.replace=>some "replace"
 |_=>none
theorem ij{b:Bi}{o:Value}{x:Str}{nm:Str}{pl:Sem Bool}{Q:Unit->Hp->Prop}(hv:∀B U,P B U->VR B U o (.d (.str x)))(e:qp b=some nm)(q:Q () H):Tr (fun _ _ v (_:Unit)=>v=(.builtin (qn b),[o])) c r L m P H (getMethod o nm pl) Q:=by
 intro A E s B Z U hA ht hR hF hp
 obtain⟨t,rfl,ok⟩:=(hv _ _ hp).d_of.str_okL
 have done:∀i,i=qn b->EndT (fun _ _ (v:Value×List Value) (_:Unit)=>v=(.builtin (qn b),[.str x t])) c B Z U L m Q s (Value.builtin i,[Value.str x t]) s:=fun i e=>aM hR hF (e▸rfl) q
 cases b<;>cases e
 ·with_reducible exact GM.of (.str x t) (typeIs_str _ _ _) PySem.F.slot_str_join PySem.F.type_str_join GM.noRef (done _ rfl)
 ·with_reducible exact GM.of (.str x t) (typeIs_str _ _ _) PySem.F.slot_str_replace PySem.F.type_str_replace GM.noRef (done _ rfl)
 ·with_reducible exact GM.of (.str x t) (typeIs_str _ _ _) PySem.F.slot_str_count PySem.F.type_str_count GM.noRef (done _ rfl)
 ·with_reducible exact GM.of (.str x t) (typeIs_str _ _ _) PySem.F.slot_str_rfind PySem.F.type_str_rfind GM.noRef (done _ rfl)
theorem lx{o:Value}{n:Nat}{cl:Cell}{pl:Sem Bool}{Q:Unit->Hp->Prop}(hv:∀B U,P B U->VR B U o (.r n))(hn:H[n]?=some (some cl))(hc:(match cl with|.list _=>true|.dlist _=>true|_=>false)=true)(q:Q () H) :
  Tr (fun _ _ v (_:Unit)=>v=(.builtin "list.append", [o])) c r L m P H (getMethod o "append" pl) Q:=by
 intro A E s B Z U hA ht hR hF hp
 obtain⟨p,rfl,hφ,hcc⟩:=bD hR (hv _ _ hp) hn
 have done:EndT (fun _ _ (v:Value×List Value) (_:Unit)=>v=(.builtin "list.append", [.ref p.1])) c B Z U L m Q s (Value.builtin "list.append", [Value.ref p.1]) { s with toks:=s.toks }:=aM hR hF rfl q
 cases cl with
 |inst=>nomatch hc
 |dict=>nomatch hc
 |list xs=>
  obtain⟨_,vs,k,h1,_⟩:=hcc
  exact getMethod_builtin (T := "list") ⟨_,h1,rfl⟩ PySem.F.plainAttrs_list PySem.F.slot_list_append PySem.F.type_list_append (fun a e=>by cases e;exact⟨_,h1,rfl⟩) done
 |dlist xs=>
  obtain⟨_,vs,k,h1,_⟩:=hcc
  exact getMethod_builtin (T := "list") ⟨_,h1,rfl⟩ PySem.F.plainAttrs_list PySem.F.slot_list_append PySem.F.type_list_append (fun a e=>by cases e;exact⟨_,h1,rfl⟩) done
end
end Mine
namespace Mine
noncomputable def popE{α:Type}:List α->Option (α×List α)
 |[]=>none
 |x::r=>match popE r with
  |none=>some (x,[])
  |some p=>some (p.1,x::p.2)
theorem i3{α:Type}(x:α)(r:List α):popE (x::r)=(match popE r with|none=>some (x,[])|some p=>some (p.1,x::p.2)):=rfl
noncomputable def popL{α:Type}(z:Bool)(l:List α):Option (α×List α):=match z with
 |true=>match l with
  |[]=>none
  |x::r=>some (x,r)
 |false=>popE l
theorem vb{α:Type}{l:List α}(h:popE l=none):l=[]:=by
 cases l with
 |nil=>rfl
 |cons x r=>
  rw[i3] at h
  cases e:popE r with
  |none=>rw[e] at h;exact Ep h
  |some p=>rw[e] at h;exact Ep h
theorem CW{α:Type}{l:List α}{x:α}{r:List α}(h:popE l=some (x,r)):l=r++[x]:=by
 induction l generalizing x r with
 |nil=>nomatch h
 |cons y l ih=>
  rw[i3] at h
  cases e:popE l with
  |none=>rw[e] at h;cases h;rw[vb e];rfl
  |some p=>rw[e] at h;cases h;rw[ih (x:=p.1) (r:=p.2) e];rfl
section
variable {c:Cx}{r:Nat}{L:Addr}{m:aD}{P:Heap->Ph->Prop}{H:Hp}{B Z h h':Heap}{U:Ph}
theorem VRs.popE{vs:List Value}{xs:List V}(h:VRs B U vs xs):match (generalizing:=false) popE xs with|none=>vs=[]|some p=>∃v vs',popE vs=some (v,vs')/\VR B U v p.1/\VRs B U vs' p.2:=by
 induction h with
 |nil=>rfl
 |@cons v x vs xs hv r ih=>
  rw[i3]
  cases e:Mine.popE xs with
  |none=>rw[e] at ih;dsimp only at ih;subst ih;exact⟨v,[],rfl,hv,.nil⟩
  |some p=>
   rw[e] at ih
   obtain⟨w,ws,h1,h2,h3⟩:=ih
   exact⟨w,v::ws,by rw[i3,h1],h2,.cons hv h3⟩
theorem VRs.popL{z:Bool}{vs:List Value}{xs:List V}(h:VRs B U vs xs){p:V×List V}(e:popL z xs=some p):∃v vs',popL z vs=some (v,vs')/\VR B U v p.1/\VRs B U vs' p.2:=by
 cases z with
 |true=>
  cases h with
  |nil=>nomatch e
  |cons hv r=>cases e;exact⟨_,_,rfl,hv,r⟩
 |false=>
  have e:Mine.popE xs=some p:=e
  have:=h.popE
  rw[e] at this
  exact this
theorem DVs.popE{vs:List Value}{xs:List D}(h:DVs B vs xs):match (generalizing:=false) Mine.popE xs with|none=>vs=[]|some p=>∃v vs',Mine.popE vs=some (v,vs')/\DV B v p.1/\DVs B vs' p.2:=by
 induction xs generalizing vs with
 |nil=>exact h.unnil
 |cons x xs ih=>
  refine eF fun _ hK9=>?_
  obtain⟨v,vs,rfl,hv,hr⟩:=h.uncons
  refine hK9 ?_
  have ih:=ih hr
  rw[i3]
  cases e:Mine.popE xs with
  |none=>rw[e] at ih;dsimp only at ih;subst ih;exact⟨v,[],rfl,hv,.nil⟩
  |some p=>
   rw[e] at ih
   refine eF fun _ hK9=>?_
   obtain⟨w,ws,h1,h2,h3⟩:=ih
   refine hK9 ?_
   exact⟨w,v::ws,by rw[i3,h1],h2,.cons hv h3⟩
theorem DVs.popL{z:Bool}{vs:List Value}{xs:List D}(h:DVs B vs xs){p:D×List D}(e:Mine.popL z xs=some p):∃v vs',Mine.popL z vs=some (v,vs')/\DV B v p.1/\DVs B vs' p.2:=by
 cases z with
 |true=>
  cases xs with
  |nil=>nomatch e
  |cons x xs=>
   obtain⟨v,vs,rfl,hv,hr⟩:=h.uncons
   cases e;exact⟨_,_,rfl,hv,hr⟩
 |false=>
  have e:Mine.popE xs=some p:=e
  have:=h.popE
  rw[e] at this
  exact this
theorem D7{α:Type}{b:Bool}{o:Option α}{z:α}(e:bc b o=some z):b=true/\o=some z:=by
 cases b with
 |true=>exact⟨rfl,e⟩
 |false=>nomatch e
noncomputable def nH(z:Bool)(a:Value)(t:Tok):List Value:=match z with
 |true=>[a,.int 0 t]
 |false=>[a]
theorem y8{A:Around}{E:SU}{s:Shared}{D:Addr}{vs vs':List Value}{v:Value}{n:Nat}{t:Tok}{z:Bool}{Q:SU}(g:s.heap.get? D=some (listOf vs.toArray n))(e:popL z vs=some (v,vs'))(hl:vs.length<=1000)
  (q:∀h' k,Heap.SameBut D s.heap h'->h'.get? D=some (listOf vs'.toArray k)->Q v { s with heap:=h' }):wpAny c.M A (call (.builtin "list.pop") (nH z (.ref D) t)) Q E s:=by
 have hz:vs.toArray.size<=sizeLine:=by rw[List.size_toArray];exact ak hl (by decide)
 cases z with
 |true=>
  cases vs with
  |nil=>nomatch e
  |cons y r=>
   cases e
   have hy:(v::vs').toArray[0]?=some v:=rfl
   have this:=PySem.IsL.update (n:=n) g fun xs=>xs.eraseIdxIfInBounds 0
   have e0:(v::vs').toArray.eraseIdxIfInBounds 0=vs'.toArray:=by simp
   rw[e0] at this
   exact call_meets PySem.F.slot_list_pop ⟨_,g,rfl⟩ PySem.F.entry_list_pop (PySem.F.args_list_pop_2 _ _) (PySem.MeetsSeq.list_pop_at D _ n 0 t 0 v (by decide) (by unfold seqIndex?;simp) hy hz) ⟨g,q _ _ (Heap.SameBut.update ..) this⟩
 |false=>
  have e1:=CW e
  subst e1
  have hk:(vs'++[v]).toArray.size-1=vs'.length:=by rw[List.size_toArray,ae];rfl
  have hy:(vs'++[v]).toArray[(vs'++[v]).toArray.size-1]?=some v:=by rw[hk];simp
  have this:=PySem.IsL.update (n:=n) g fun xs=>xs.eraseIdxIfInBounds ((vs'++[v]).toArray.size-1)
  have e0:(vs'++[v]).toArray.eraseIdxIfInBounds ((vs'++[v]).toArray.size-1)=vs'.toArray:=by rw[hk];simp[List.eraseIdx_append_of_length_le]
  rw[e0] at this
  exact call_meets PySem.F.slot_list_pop ⟨_,g,rfl⟩ PySem.F.entry_list_pop (PySem.F.args_list_pop_1 _) (PySem.MeetsSeq.list_pop_last D _ n v hy hz) ⟨g,q _ _ (Heap.SameBut.update ..) this⟩
noncomputable def nI(z:Bool):Cell->Option (V×Cell)
 |.list vs=>bc (jm vs.length 900) ((popL z vs).map fun p=>(p.1,.list p.2))
 |.dlist ds=>bc (jm ds.length 900) ((popL z ds).map fun p=>(.d p.1,.dlist p.2))
 |_=>none
noncomputable def J5:Cell->Bool
 |.list _=>true
 |.dlist _=>true
 |_=>false
theorem CV{z:Bool}{cl:Cell}{p:V×Cell}(h:nI z cl=some p):J5 cl=true:=by
 cases cl<;>first|rfl|nomatch h
theorem Aa{o:Value}{n:Nat}{z:Bool}{t:Tok}{cl:Cell}{p:V×Cell}{Q:SV}(hv:∀B U,P B U->VR B U o (.r n))(hn:H[n]?=some (some cl))(e:nI z cl=some p)(q:Q p.1 (H.set n (some p.2))) :
  Tr VR c r L m P H (call (.builtin "list.pop") (nH z o t)) Q:=by
 intro A E s B Z U hA ht hR hF hp
 refine eF fun _ hK9=>?_
 obtain⟨a,rfl,hφ,hc⟩:=bD hR (hv _ _ hp) hn
 obtain⟨_,_,l1,l2⟩:=hR.free n a ⟨_,hn⟩ hφ
 refine hK9 ?_
 have db:∀(vs:List Value) (k:Nat) (v:Value) (vs':List Value),a.2=a.1->s.heap.get? a.1=some (listOf vs.toArray k)->vs.length<=1000->popL z vs=some (v,vs')->VR B U v p.1->(∀h' k,h'.get? a.1=some (listOf vs'.toArray k)->CellAt c h' B U a p.2) ->
   wpAny c.M A (call (.builtin "list.pop") (nH z (.ref a.1) t)) (fun v s'=>EndT VR c B Z U L m Q s v s') E s:=by
  intro vs k v vs' e1 h1 hl hpop hv hc'
  refine y8 h1 hpop hl fun h' k' hs ho=>?_
  have keep:∀b o,b≠L->b≠a.2->s.heap.get? b=some o->h'.get? b=some o:=fun b o _ hb e=>by rw[hs.2 b (by rw[←e1];exact hb)];exact e
  refine⟨h',s.toks,B,U,_,_,rfl,Sub.refl _,PSub.refl _,hR.turn hφ hn keep (hc' h' k' ho),hF.keep (fun o e=>?_),hv,q⟩
  rw[hs.2 L (Ne.symm l1)];exact e
 cases cl with
 |list xs=>
  obtain⟨hl,e⟩:=D7 e
  refine cY e fun y hy e=>?_
  subst e
  refine eF fun _ hK9=>?_
  obtain⟨e1,vs,k,h1,h2⟩:=hc
  obtain⟨v,vs',g1,g2,g3⟩:=h2.popL hy
  refine hK9 ?_
  exact db vs k v vs' e1 h1 (by rw[h2.length];exact ak (fj hl) (by decide)) g1 g2 fun h' k g=>⟨e1,_,_,g,g3⟩
 |dlist ds=>
  obtain⟨hl,e⟩:=D7 e
  refine cY e fun y hy e=>?_
  subst e
  refine eF fun _ hK9=>?_
  obtain⟨e1,vs,k,h1,h2⟩:=hc
  obtain⟨v,vs',g1,g2,g3⟩:=h2.popL hy
  refine hK9 ?_
  exact db vs k v vs' e1 h1 (by rw[h2.length];exact ak (fj hl) (by decide)) g1 (.d g2) fun h' k g=>⟨e1,_,_,g,g3⟩
 |_=>nomatch e
theorem nX{o:Value}{n:Nat}{cl:Cell}{pl:Sem Bool}{Q:Unit->Hp->Prop}(hv:∀B U,P B U->VR B U o (.r n))(hn:H[n]?=some (some cl))(hc:J5 cl=true)(q:Q () H) :
  Tr (fun _ _ v (_:Unit)=>v=(.builtin "list.pop", [o])) c r L m P H (getMethod o "pop" pl) Q:=by
 intro A E s B Z U hA ht hR hF hp
 obtain⟨p,rfl,hφ,hcc⟩:=bD hR (hv _ _ hp) hn
 have done:EndT (fun _ _ (v:Value×List Value) (_:Unit)=>v=(.builtin "list.pop", [.ref p.1])) c B Z U L m Q s (Value.builtin "list.pop", [Value.ref p.1]) { s with toks:=s.toks }:=aM hR hF rfl q
 cases cl with
 |inst=>nomatch hc
 |dict=>nomatch hc
 |list xs=>
  obtain⟨_,vs,k,h1,_⟩:=hcc
  exact getMethod_builtin (T := "list") ⟨_,h1,rfl⟩ PySem.F.plainAttrs_list PySem.F.slot_list_pop PySem.F.type_list_pop (fun a e=>by cases e;exact⟨_,h1,rfl⟩) done
 |dlist xs=>
  obtain⟨_,vs,k,h1,_⟩:=hcc
  exact getMethod_builtin (T := "list") ⟨_,h1,rfl⟩ PySem.F.plainAttrs_list PySem.F.slot_list_pop PySem.F.type_list_pop (fun a e=>by cases e;exact⟨_,h1,rfl⟩) done
theorem qR(l b:Addr)(items items2:Array Value)(n n2:Nat)(dd2:Option Addr)(sl2:Array (Option Value))(hs0:¬(!items.isEmpty&&Builtin.List.listTooLong (items.size+items2.size))=true)(hs1:items.size<=sizeLine)(hs2:items.size+items2.size<=sizeLine+1) :
  Meets (Builtin.«list.__iadd__» ⟨[.ref l,.ref b],[]⟩) (fun _ R s=>s.heap.get? l=some { cls:=.type "list", dict:=none,data:=.seq items n,slots:=#[] }/\s.heap.get? b=some { cls:=.type "list", dict:=dd2,data:=.seq items2 n2,slots:=sl2 }/\R (.ok (.ret (Value.ref l))) { s with heap:=s.heap.update l (Obj.mapSeq fun x=>x++items2),toks:=s.toks }):=
 .of_wp fun prog w A R s h=>by
  obtain⟨hp,g,d,tk,os⟩:=s;obtain⟨hl,hb,h⟩:=h;have f1:=AutoSeq1.idx_int;have f2:=AutoSeq1.sub_tuple_tuple;have f3:=AutoSeq1.sub_list_list;have f4:=AutoSeq1.sub_tuple_list;have f5:=AutoSeq1.sub_list_tuple
  have hz':(items++items2).size<=sizeLine+1:=by rw[Array.size_append];exact hs2
  wp_walk using (wpAny_updateSeq hl rfl (hz:=hs1) (_hz':=hz')),wpAny_loadPart' hl,wpAny_loadPart' hb;exact⟨_,rfl,h⟩
theorem mW{M:Model}{A:Around}{E:SU}{s:Shared}{a b:Value}{Q:SU}(ha:s.TypeIs a "list")(hb:s.TypeIs b "list")(hc:wpAny M A (call (.builtin "list.__iadd__") [a,b]) Q E s):wpAny M A (inplaceOp .Add a b) Q E s:=by
 unfold inplaceOp
 refine wpAny_holding ?_
 have hfi:fillsInplaceSlot (.type "list") "add" (Operator.Add==.Add)=pure false:=by
  unfold fillsInplaceSlot
  show (typeLookup (.type "list") (dunderI "add") >>= fun fi=>pure (fi.isSome&&!isSeqSlot fi))=pure false
  rw[PySem.F.slot_list_iadd.lookup];rfl
 have hsi:seqSlot? (.type "list") (dunderI "add")=pure (some (.builtin "list.__iadd__")):=PySem.seqSlot_of PySem.F.slot_list_iadd.lookup (by decide +kernel)
 refine wpAny_bind (wpAny_typeOf ha (wpAny_bind (wpAny_of_eq hfi ?_)))
 show wpAny M A (if false=true then _ else _) Q E s
 rw[ar Bool.false_ne_true]
 refine wpAny_bind (wpAny_binaryOp1_none (nm := "add") ha hb noFill_list_add ?_)
 refine wpAny_bind (wpAny_of_eq hsi ?_)
 exact wpAny_bind (wpAny_rule hc)
theorem vz{o b:Value}{n:Nat}{ds xs:List D}{Q:SV}(hv:∀B U,P B U->VR B U o (.r n)/\DV B b (.list xs))(hn:H[n]?=some (some (.dlist ds)))(hl:ds.length+xs.length<=1000)(q:Q (.r n) (H.set n (some (.dlist (ds++xs))))) :
  Tr VR c r L m P H (inplaceOp .Add o b) Q:=by
 intro A E s B Z U hA ht hR hF hp
 refine eF fun _ hK9=>?_
 obtain⟨ho,hb⟩:=hv _ _ hp
 obtain⟨a,rfl,hφ,hc⟩:=bD hR ho hn
 obtain⟨_,_,l1,l2⟩:=hR.free n a ⟨_,hn⟩ hφ
 obtain⟨e1,vs,k,h1,h2⟩:=hc
 obtain⟨a2,⟨c2,dd2,dt2,sl2⟩,us,n2,rfl,g2,cc2,hd2,dv2⟩:=hb.list_of
 refine hK9 ?_
 dsimp only at cc2 hd2
 subst cc2 hd2
 have g2:=hR.kB _ _ g2
 have l1':=h2.length
 have l2':=dv2.length
 have sm:vs.length+us.length<=1000:=by rw[l1',l2'];exact hl
 have hk:(1000:Nat)<=sizeLine:=by decide
 refine mW ⟨_,h1,rfl⟩ ⟨_,g2,rfl⟩ (call_meets PySem.F.slot_list_iadd ⟨_,h1,rfl⟩ PySem.F.entry_list_iadd (PySem.F.args_list_iadd_2 _ _) (qR a.1 a2 vs.toArray us.toArray k n2 dd2 sl2 ?_ ?_ ?_) ⟨h1,g2,?_⟩)
 ·intro hh
  have:=(ay hh).2
  unfold Builtin.List.listTooLong at this
  rw[List.size_toArray,List.size_toArray] at this
  exact absurd (of_decide_eq_true this) (Nat.not_lt.mpr (ak sm hk))
 ·exact ak (ak (al _ _) sm) hk
 ·exact ak sm (Nat.le_succ_of_le hk)
 ·have hs:Heap.SameBut a.1 s.heap (s.heap.update a.1 (Obj.mapSeq fun x=>x++us.toArray)):=Heap.SameBut.update ..
  have keep:∀b o,b≠L->b≠a.2->s.heap.get? b=some o->(s.heap.update a.1 (Obj.mapSeq fun x=>x++us.toArray)).get? b=some o:=fun b o _ hb e=>by rw[hs.2 b (by rw[←e1];exact hb)];exact e
  have ho:=PySem.IsL.update (n:=k) h1 fun x=>x++us.toArray
  refine⟨_,s.toks,B,U,_,_,rfl,Sub.refl _,PSub.refl _,hR.turn (cl':=.dlist (ds++xs)) hφ hn keep ⟨e1,vs++us,_,by rw[ho,List.append_toArray],h2.append dv2⟩,hF.keep (fun o e=>?_),.r hφ,q⟩
  rw[hs.2 L (Ne.symm l1)];exact e
end
section
variable {c:Cx}{r:Nat}{L:Addr}{m:aD}{P:Heap->Ph->Prop}{H:Hp}{B Z Z' h h':Heap}{U:Ph}{T:aW}{env:Env}
theorem FrR.lt(F:FrR c B U L m h):L<h.objs.size:=by
 obtain⟨mm,n,f⟩:=F.ex
 exact n.lt
theorem Rel.noZ{a:Addr}(R:Rel c B Z U L H h)(e:h.get? a=none):Z.get? a=none:=by
 cases q:Z.get? a with
 |none=>rfl
 |some x=>exact nope (e.symm.trans (R.kZ _ _ q))
theorem bX{a b:Addr}{o:Obj}(ho:o.isFreed=false)(e:(aI Z a o).get? b=none):b≠a/\Z.get? b=none:=by
 rw[aU _ _ _ ho] at e
 by_cases q:b=a
 ·rw[au q] at e;nomatch e
 ·rw[ar q] at e;exact⟨q,e⟩
theorem cn{a b:Addr}{o:Obj}(ho:o.isFreed=false)(n:b≠a)(e:Z.get? b=none):(aI Z a o).get? b=none:=by rw[aE ho n];exact e
theorem Rel.weakZ(s:Sub Z Z')(R:Rel c B Z' U L H h):Rel c B Z U L H h:=by
 have no:∀a,Z'.get? a=none->Z.get? a=none:=fun a e=>by
  cases q:Z.get? a with
  |none=>rfl
  |some o=>have:=s _ _ q;rw[e] at this;nomatch this
 exact⟨R.base,R.kB,s.trans R.kZ,R.cell,fun n p hl hp=>by obtain⟨b,⟨z1,z2⟩,l⟩:=R.free n p hl hp;exact⟨b,⟨no _ z1,no _ z2⟩,l⟩,R.apart,R.dom,R.LB,no _ R.LZ,R.LG,fun b o e=>R.BZ b o (s _ _ e)⟩
theorem Rel.repin{a:Addr}{o o':Obj}(R:Rel c B (aI Z a o) U L H h)(ho:o.isFreed=false)(ho':o'.isFreed=false)(keep:∀b x,b≠L->b≠a->h.get? b=some x->h'.get? b=some x)(here:h'.get? a=some o'):Rel c B (aI Z a o') U L H h':=by
 have pa:(aI Z a o).get? a=some o:=aH ho
 have aB:B.get? a=none:=R.BZ _ _ pa
 have aL:L≠a:=fun q=>by have:=R.LZ;rw[q,pa] at this;nomatch this
 refine⟨R.base,fun b x e=>keep b x (fun q=>by subst q;rw[R.LB] at e;nomatch e) (fun q=>by subst q;rw[aB] at e;nomatch e) (R.kB b x e),fun b x e=>?_,fun n cl e=>?_,fun n p hl hp=>?_,R.apart,R.dom,R.LB,?_,R.LG,fun b x e=>?_⟩
 ·rw[aU _ _ _ ho'] at e
  by_cases q:b=a
  ·subst q;rw[au rfl] at e;cases e;exact here
  ·rw[ar q] at e
   have e':(aI Z a o).get? b=some x:=by rw[aE ho q];exact e
   exact keep b x (fun w=>by subst w;rw[R.LZ] at e';nomatch e') q (R.kZ b x e')
 ·obtain⟨p,hp,hc⟩:=R.cell n cl e
  obtain⟨_,⟨z1,z2⟩,l1,l2⟩:=R.free n p ⟨cl,e⟩ hp
  exact⟨p,hp,hc.mono (Sub.refl _) (PSub.refl _) (fun x w=>keep _ x l1 (bX ho z1).1 w) fun x w=>keep _ x l2 (bX ho z2).1 w⟩
 ·obtain⟨b,⟨z1,z2⟩,l⟩:=R.free n p hl hp
  obtain⟨n1,y1⟩:=bX ho z1
  obtain⟨n2,y2⟩:=bX ho z2
  exact⟨b,⟨cn ho' n1 y1,cn ho' n2 y2⟩,l⟩
 ·exact cn ho' aL (bX ho R.LZ).2
 ·rw[aU _ _ _ ho'] at e
  by_cases q:b=a
  ·subst q;exact aB
  ·rw[ar q] at e;exact R.BZ b x (by rw[aE ho q];exact e)
theorem Rel.unpin{a:Addr}{o:Obj}(R:Rel c B (aI Z a o) U L H h)(ho:o.isFreed=false)(hZ:Z.get? a=none)(keep:∀b x,b≠L->b≠a->h.get? b=some x->h'.get? b=some x):Rel c B Z U L H h':=by
 have pa:(aI Z a o).get? a=some o:=aH ho
 have aB:B.get? a=none:=R.BZ _ _ pa
 have W:=R.weakZ (Sub.put ho hZ)
 refine⟨W.base,fun b x e=>keep b x (fun q=>by subst q;rw[W.LB] at e;nomatch e) (fun q=>by subst q;rw[aB] at e;nomatch e) (W.kB b x e),
  fun b x e=>keep b x (fun q=>by subst q;rw[W.LZ] at e;nomatch e) (fun q=>by subst q;rw[hZ] at e;nomatch e) (W.kZ b x e),fun n cl e=>?_,W.free,W.apart,W.dom,W.LB,W.LZ,W.LG,W.BZ⟩
 obtain⟨p,hp,hc⟩:=R.cell n cl e
 obtain⟨_,⟨z1,z2⟩,l1,l2⟩:=R.free n p ⟨cl,e⟩ hp
 exact⟨p,hp,hc.mono (Sub.refl _) (PSub.refl _) (fun x w=>keep _ x l1 (bX ho z1).1 w) fun x w=>keep _ x l2 (bX ho z2).1 w⟩
theorem Rel.pinNew{a:Addr}{o:Obj}(R:Rel c B Z U L H h)(ho:o.isFreed=false)(aL:a≠L)(k:∀b x,b≠L->h.get? b=some x->h'.get? b=some x)(hn:h.get? a=none)(here:h'.get? a=some o):Rel c B (aI Z a o) U L H h'/\Sub Z (aI Z a o):=by
 have hZ:Z.get? a=none:=by
  cases q:Z.get? a with
  |none=>rfl
  |some x=>have:=R.kZ _ _ q;rw[hn] at this;nomatch this
 have hB:B.get? a=none:=by
  cases q:B.get? a with
  |none=>rfl
  |some x=>have:=R.kB _ _ q;rw[hn] at this;nomatch this
 have s:Sub Z (aI Z a o):=Sub.put ho hZ
 have R1:=R.keep k
 refine⟨⟨R.base,R1.kB,Sub.put_in ho R1.kZ here,R1.cell,fun n p hl hp=>?_,R.apart,R.dom,R.LB,cn ho (Ne.symm aL) R.LZ,R.LG,fun b x e=>?_⟩,s⟩
 ·obtain⟨b,⟨z1,z2⟩,l⟩:=R.free n p hl hp
  obtain⟨cl,hcl⟩:=hl
  obtain⟨q,hq,hc⟩:=R.cell n cl hcl
  rw[hp] at hq;nomatch hq
  obtain⟨⟨o1,e1⟩,o2,e2⟩:=eb hc
  exact⟨b,⟨cn ho (fun w=>by rw[w,hn] at e1;nomatch e1) z1,cn ho (fun w=>by rw[w,hn] at e2;nomatch e2) z2⟩,l⟩
 ·rw[aU _ _ _ ho] at e
  by_cases q:b=a
  ·subst q;exact hB
  ·rw[ar q] at e;exact R.BZ b x e
theorem Rel.freezeZ{a:Addr}{o:Obj}(R:Rel c B (aI Z a o) U L H h)(ho:o.isFreed=false)(hZ:Z.get? a=none):Rel c (aI B a o) Z U L H h/\Sub B (aI B a o):=by
 have pa:(aI Z a o).get? a=some o:=aH ho
 have aB:B.get? a=none:=R.BZ _ _ pa
 have s:Sub B (aI B a o):=Sub.put ho aB
 have aL:L≠a:=fun q=>by have:=R.LZ;rw[q,pa] at this;nomatch this
 refine⟨⟨R.base.trans s,Sub.put_in ho R.kB (R.kZ _ _ pa),(Sub.put ho hZ).trans R.kZ,fun n cl e=>?_,fun n p hl hp=>?_,R.apart,R.dom,cn ho aL R.LB,(bX ho R.LZ).2,R.LG,fun b x e=>?_⟩,s⟩
 ·obtain⟨p,hp,hc⟩:=R.cell n cl e
  exact⟨p,hp,hc.mono s (PSub.refl _) (fun _ x=>x) fun _ x=>x⟩
 ·obtain⟨⟨b1,b2⟩,⟨z1,z2⟩,l⟩:=R.free n p hl hp
  obtain⟨n1,y1⟩:=bX ho z1
  obtain⟨n2,y2⟩:=bX ho z2
  exact⟨⟨cn ho n1 b1,cn ho n2 b2⟩,⟨y1,y2⟩,l⟩
 ·have ne:b≠a:=fun q=>by subst q;rw[hZ] at e;nomatch e
  exact cn ho ne (R.BZ b x (by rw[aE ho ne];exact e))
noncomputable def b8:D->Option (List D)
 |.list ds=>some ds
 |.tuple ds=>some ds
 |.str x=>some (x.l.map fun ch=>st [ch])
 |_=>none
structure Its(c:Cx)(B Z:Heap)(U:Ph)(I:Addr)(ft:List Addr)(xs:List V)(Pi:Nat->Value->Prop)(St:Nat->Heap->Prop):Prop where
 W:∀A:Around,A.handled=none->Walks c.prog c.w A I ft [I] xs.length Pi St
 item:∀i v,Pi i v->∃x,xs[i]?=some x/\VR B U v x
 fp:∀b∈ft,b=I\/(∃o,B.get? b=some o)\/∃o,Z.get? b=some o
 own:I∈ft
 here:∀i h,St i h->∃o,h.get? I=some o
theorem Its.mono{I:Addr}{ft:List Addr}{xs:List V}{Pi:Nat->Value->Prop}{St:Nat->Heap->Prop}{B':Heap}{U':Ph}(x:Its c B Z U I ft xs Pi St)(s:Sub B B')(z:Sub Z Z')(p:PSub U U'):Its c B' Z' U' I ft xs Pi St:=
 ⟨x.W,fun i v h=>(x.item i v h).imp fun y q=>⟨q.1,q.2.mono s p⟩,fun b hb=>by
  rcases x.fp b hb with e|⟨o,e⟩|⟨o,e⟩
  ·exact .inl e
  ·exact .inr (.inl ⟨o,s _ _ e⟩)
  ·exact .inr (.inr ⟨o,z _ _ e⟩),x.own,x.here⟩
theorem pg{Lk:Heap->Addr->Array Value->Prop}{a I:Addr}{vs:List Value}{xs:List V}{St:Nat->Heap->Prop}(hx:VRs B U vs xs)(W:∀A:Around,A.handled=none->Walks c.prog c.w A I [I,a] [I] vs.toArray.size (fun i v=>vs.toArray[i]?=some v) St)
  (ha:(∃o,B.get? a=some o)\/∃o,Z.get? a=some o)(here:∀i h,St i h->∃o,h.get? I=some o):Its c B Z U I [I,a] xs (fun i v=>vs.toArray[i]?=some v) St:=by
 refine⟨fun A hh=>?_,fun i v hi=>?_,fun b hb=>?_,List.mem_cons_self ..,here⟩
 ·have:=W A hh
  rwa[show vs.toArray.size=xs.length from hx.length] at this
 ·have hi':vs[i]?=some v:=by simpa using hi
  cases q:xs[i]? with
  |none=>
   rw[List.getElem?_eq_none_iff] at q
   rw[List.getElem?_eq_none (by rw[hx.length];exact q)] at hi'
   cases hi'
  |some x=>
   obtain⟨w,w1,w2⟩:=hx.getElem q
   rw[w1] at hi'
   cases hi'
   exact⟨x,rfl,w2⟩
 ·rcases List.mem_cons.mp hb with e|hb
  ·exact .inl e
  ·rw[List.mem_singleton.mp hb];exact .inr ha
theorem DVs.vrs:∀{vs:List Value}{ds:List D},DVs B vs ds->VRs B U vs (ds.map .d)
 |vs,[],x=>by rw[x.unnil];exact .nil
 |vs,d::ds,x=>by obtain⟨v,ws,rfl,a,b⟩:=x.uncons;exact .cons (.d a) b.vrs
noncomputable def goers:List String:=["enumerate", "zip", "dict_itemiterator", "dict_reverseitemiterator", "odict_iterator", "itertools.zip_longest", "itertools.pairwise"]
def vS(I:Addr)(St:Nat->Heap->Prop):Prop:=∀i h,St i h->∃o n,h.get? I=some o/\o.cls=.type n/\goers.contains n=false
theorem ki{it:Value}{x:D}{ds:List D}{A:Around}{E:SU}{s:Shared}{Q:SU}(hR:Rel c B Z U L H s.heap)(hv:DV B it x)(e:b8 x=some ds)
  (q:∀o ft Pi St,o.isFreed=false->Its c B Z U s.heap.objs.size ft (ds.map .d) Pi St->vS s.heap.objs.size St->St 0 (s.heap.push o)->Q (.ref s.heap.objs.size) { s with heap:=s.heap.push o }):wpAny c.M A (pyIter it) Q E s:=by
 cases x with
 |none=>nomatch e
 |bool=>nomatch e
 |int=>nomatch e
 |dict=>nomatch e
 |list xs=>
  cases e
  obtain⟨a,o,vs,n,rfl,h1,h2,h3,h4⟩:=hv.list_of
  have hl:s.heap.IsList a vs.toArray:=⟨o,hR.kB _ _ h1,h2,n,h3⟩
  have na:a≠s.heap.objs.size:=Nat.ne_of_lt (Heap.lt_size (hR.kB _ _ h1))
  exact wpAny_pyIter_list hl (q _ [s.heap.objs.size,a] _ (fun i h=>h.IsListIter s.heap.objs.size a i/\h.IsList a vs.toArray) rfl (pg (Lk:=Heap.IsList) h4.vrs (fun A hh=>Walks.list hh _ a na vs.toArray) (.inl ⟨_,h1⟩) fun i h st=>let ⟨⟨o,ho,_⟩,_⟩:=st;⟨o,ho⟩)
   (fun i h st=>let ⟨⟨o,ho,hc,_⟩,_⟩:=st;⟨o,_,ho,hc,by decide⟩) ⟨⟨_,Heap.get?_push_size _ rfl,rfl,rfl⟩,hl.push _⟩)
 |tuple xs=>
  cases e
  obtain⟨a,o,vs,n,rfl,h1,h2,h3,h4⟩:=hv.tuple_of
  have hl:s.heap.IsTuple a vs.toArray:=⟨o,hR.kB _ _ h1,h2,n,h3⟩
  have na:a≠s.heap.objs.size:=Nat.ne_of_lt (Heap.lt_size (hR.kB _ _ h1))
  exact wpAny_pyIter_tuple hl (q _ [s.heap.objs.size,a] _ (fun i h=>h.IsTupleIter s.heap.objs.size a i/\h.IsTuple a vs.toArray) rfl (pg (Lk:=Heap.IsTuple) h4.vrs (fun A hh=>Walks.tuple hh _ a na vs.toArray) (.inl ⟨_,h1⟩) fun i h st=>let ⟨⟨o,ho,_⟩,_⟩:=st;⟨o,ho⟩)
   (fun i h st=>let ⟨⟨o,ho,hc,_⟩,_⟩:=st;⟨o,_,ho,hc,by decide⟩) ⟨⟨_,Heap.get?_push_size _ rfl,rfl,rfl⟩,hl.push _⟩)
 |str x=>
  cases e
  obtain⟨t,rfl,ok⟩:=hv.str_okL
  have hlen:x.cps.size=((x.l.map fun ch=>st [ch]).map V.d).length:=by simp[PySem.Str.l]
  have item:∀i v,SignAt x i v->∃y,((x.l.map fun ch=>st [ch]).map V.d)[i]?=some y/\VR B U v y:=by
   rintro i v ⟨ch,u,h1,rfl⟩
   have h2:x.l[i]?=some ch:=by unfold PySem.Str.l;simpa using h1
   refine⟨.d (st [ch]),by rw[List.getElem?_map,List.getElem?_map,h2];rfl,.d (DV.st [ch] u ?_)⟩
   unfold eU at ok ⊢
   rw[List.all_cons,List.all_nil,aq ok ch (List.mem_of_getElem? h2)];rfl
  cases ha:x.cps.all (·<128)
  ·exact wpAny_pyIter_wide ha (q _ [s.heap.objs.size] _ (fun i h=>h.IsStrIter s.heap.objs.size "str_iterator" x t i) rfl ⟨fun A hh=>by rw[←hlen];exact Walks.strWide hh _ x t,item,fun b hb=>.inl (List.mem_singleton.mp hb),List.mem_singleton.mpr rfl,fun i h st=>let ⟨o,ho,_⟩:=st;⟨o,ho⟩⟩
    (fun i h st=>let ⟨o,ho,hc,_⟩:=st;⟨o,_,ho,hc,by decide⟩) ⟨_,Heap.get?_push_size _ rfl,rfl,rfl⟩)
  ·exact wpAny_pyIter_ascii ha (q _ [s.heap.objs.size] _ (fun i h=>h.IsStrIter s.heap.objs.size "str_ascii_iterator" x t i) rfl ⟨fun A hh=>by rw[←hlen];exact Walks.strAscii hh _ x t,item,fun b hb=>.inl (List.mem_singleton.mp hb),List.mem_singleton.mpr rfl,fun i h st=>let ⟨o,ho,_⟩:=st;⟨o,ho⟩⟩
    (fun i h st=>let ⟨o,ho,hc,_⟩:=st;⟨o,_,ho,hc,by decide⟩) ⟨_,Heap.get?_push_size _ rfl,rfl,rfl⟩)
theorem fJ{it:Value}{x:D}{ds:List D}{A:Around}{E:SU}{s:Shared}{Q:SU}(hR:Rel c B Z U L H s.heap)(hv:DV B it x)(e:b8 x=some ds)
  (q:∀o ft Pi St,o.isFreed=false->Its c B Z U s.heap.objs.size ft (ds.map .d) Pi St->St 0 (s.heap.push o)->Q (.ref s.heap.objs.size) { s with heap:=s.heap.push o }):wpAny c.M A (pyIter it) Q E s:=
 ki hR hv e fun o ft Pi St ho its _ st=>q o ft Pi St ho its st
end
def dY{α:Type}(step:V->α->Hp->(α->Hp->Prop)->Prop):List V->α->Hp->(α->Hp->Prop)->Prop
 |[],a,H,Q=>Q a H
 |x::xs,a,H,Q=>step x a H fun a' H'=>dY step xs a' H' Q
noncomputable def tv(ifs:List Expr)(env:Env):Sem Bool:=forIn ifs true fun c r=>if r=true then do let ok ← isTrue c env (eval c env);pure (ForInStep.yield ok) else pure (ForInStep.yield r)
section
variable {c:Cx}{r:Nat}{L:Addr}{m:aD}{P:Heap->Ph->Prop}{H:Hp}{B Z Z' h h':Heap}{U:Ph}{T:aW}{env:Env}{sc:Scope}
theorem Rel.turnTo{L':Addr}{o o':Obj}(R:Rel c B (aI Z L' o') U L H h)(ho':o'.isFreed=false)(hZ:Z.get? L'=none)(hG:c.G.objs.size<=L')(e:h.get? L=some o):Rel c B (aI Z L o) U L' H h:=by
 have ho:=aT e
 have sZ:Sub Z (aI Z L' o'):=Sub.put ho' hZ
 obtain⟨ne,nL⟩:=bX ho' R.LZ
 have no:∀b,(aI Z L' o').get? b=none->b≠L'/\Z.get? b=none:=fun b q=>bX ho' q
 refine⟨R.base,R.kB,Sub.put_in ho (sZ.trans R.kZ) e,R.cell,fun n p hl hp=>?_,R.apart,R.dom,R.BZ _ _ (aH ho'),?_,hG,fun b x g=>?_⟩
 ·obtain⟨b,⟨z1,z2⟩,l1,l2⟩:=R.free n p hl hp
  exact⟨b,⟨by rw[aE ho l1];exact (no _ z1).2,by rw[aE ho l2];exact (no _ z2).2⟩,(no _ z1).1,(no _ z2).1⟩
 ·rw[aE ho (Ne.symm ne)];exact hZ
 ·rw[aU _ _ _ ho] at g
  by_cases q:b=L
  ·subst q;exact R.LB
  ·rw[ar q] at g;exact R.BZ _ _ (sZ _ _ g)
theorem FrR.less(F:FrR c B U L m h):FrR c B U L [] h:=by
 obtain⟨mm,n,f⟩:=F.ex
 exact⟨mm,n,fun i x e=>nope e⟩
theorem dX{A:Around}{E:SU}{s:Shared}{i:Nat}{v:Value}{x:V}{Q:Unit->Shared->Prop}(hE:aZ c sc L env)(hl:sc.names.lookup (c.nm i)=some .local)(hR:Rel c B Z U L H s.heap)(hF:FrR c B U L m s.heap)(hv:VR B U v x)
  (q:∀h',Rel c B Z U L H h'->FrR c B U L (pk i x m) h'->(∀b o,b≠L->s.heap.get? b=some o->h'.get? b=some o)->Q () { s with heap:=h',toks:=s.toks+1 }):wpAny c.M A (storeName env (c.nm i) v) Q E s:=by
 obtain⟨mm,hn,hm⟩:=hF.ex
 refine wpAny_storeName_local (m:=mm) (by unfold Env.kindOf;rw[hE.scope];exact hl) (by rw[hE.locals];exact hn) (fun h' hns hs=>?_) (by rw[hE.scope,hE.kind];rfl)
 rw[hE.locals] at hns hs
 have keep:∀b o,b≠L->s.heap.get? b=some o->h'.get? b=some o:=fun b o hb e=>by rw[hs.2 b hb];exact e
 refine q h' (hR.keep keep) ⟨_,hns,fun j y e=>?_⟩ keep
 rw[ko] at e
 by_cases w:i=j
 ·subst w
  rw[au rfl] at e
  cases e
  exact⟨v,(Stands.own (hE.cs1 i hl)).mpr (by simp),hv⟩
 ·rw[ar w] at e
  obtain⟨u,h1,h2⟩:=hm j y e
  exact⟨u,h1.other (ar fun z=>w (c.inj _ _ z).symm),h2⟩
theorem c6{a b:Addr}{x y:Obj}(hx:x.isFreed=false)(hy:y.isFreed=false)(ne:a≠b):Sub (aI (aI Z a x) b y) (aI (aI Z b y) a x):=fun q o e=>by
 rw[aU _ _ _ hy,aU _ _ _ hx] at e
 rw[aU _ _ _ hx,aU _ _ _ hy]
 by_cases q1:q=b
 ·subst q1;rw[au rfl] at e;rw[ar (Ne.symm ne),au rfl];exact e
 ·rw[ar q1] at e
  by_cases q2:q=a
  ·rw[au q2] at e ⊢;exact e
  ·rw[ar q2] at e ⊢;rw[ar q1];exact e
theorem Sub.put_both{a:Addr}{x:Obj}(hx:x.isFreed=false)(s:Sub Z Z'):Sub (aI Z a x) (aI Z' a x):=fun q o e=>by
 rw[aU _ _ _ hx] at e ⊢
 by_cases q1:q=a
 ·rw[au q1] at e ⊢;exact e
 ·rw[ar q1] at e ⊢;exact s _ _ e
theorem Its.keep{I:Addr}{ft:List Addr}{xs:List V}{Pi:Nat->Value->Prop}{St:Nat->Heap->Prop}{q:Nat}{A:Around}{L1:Addr}{U1:Ph}{H1:Hp}(its:Its c B Z U I ft xs Pi St)(hA:A.handled=none)(R:Rel c B Z U1 L1 H1 h)(k1:Sub Z h')(k2:Sub B h')(hI:∃o,Z.get? I=some o)(st:St q h):St q h':=
 (its.W A hA).frame _ _ _ st fun b hb o e=>by
  have go:(∃o,B.get? b=some o)\/(∃o,Z.get? b=some o)->h'.get? b=some o:=by
   rintro (⟨o',e'⟩|⟨o',e'⟩)
   ·have:=R.kB _ _ e';rw[e] at this;cases this;exact k2 _ _ e'
   ·have:=R.kZ _ _ e';rw[e] at this;cases this;exact k1 _ _ e'
  rcases its.fp b hb with w|w|w
  ·subst w;exact go (.inr hI)
  ·exact go (.inl w)
  ·exact go (.inr w)
def jb(c:Cx)(r:Nat)(scope:Scope)(i:Nat)(elt:Expr)(ifs:List Expr)(step:V->List D->Hp->(List D->Hp->Prop)->Prop):Prop:=
 ∀C env' x acc H K,aZ c scope C env'->step x acc H K ->
  Tr (fun _ _ v y=>v=y) c r C [(i,x)] (fun _ _=>True) H (tv ifs env') fun ok H1=>
   if ok=true then Tr VR c r C [(i,x)] (fun _ _=>True) H1 (eval elt env') fun v H2=>∃d,v=.d d/\acc.length<=16777215/\K (acc++[d]) H2 else K acc H1
theorem P8{n:Nat}(h:2<=n):n-1<n:=Nat.sub_lt (Nat.lt_of_lt_of_le Nat.two_pos h) Nat.one_pos
theorem P9{n:Nat}(h:2<=n):1<=n-1:=Nat.le_sub_of_add_le h
theorem Qa{j n l:Nat}(h:j+n=l+2)(k:2<=n):j+(n-1)=l+1:=(Nat.add_sub_assoc (Nat.le_of_succ_le k) j).symm.trans (congrArg (· - 1) h)
theorem Rz{j n l:Nat}(h:j+n=l+1):j+1+n=l+2:=(Nat.add_right_comm j 1 n).trans (congrArg (·+1) h)
theorem RC{j n l:Nat}(h:j+n=l+1)(k:j<l):2<=n:=Rr h k
theorem RD{j n l:Nat}(h:j+n=l+1)(k:1<=n):j<=l:=Rt h k
noncomputable def cZ(Z:Heap)(L:Addr)(oL:Obj)(I:Addr)(o:Obj)(D:Addr)(l:Obj):Heap:=aI (aI (aI Z L oL) I o) D l
inductive CG(Z:Heap)(L:Addr)(oL:Obj)(I D:Addr):Prop
 |mk (hoL:oL.isFreed=false) (nL:Z.get? L=none) (hZI:Z.get? I=none) (hZD:Z.get? D=none) (DI:D≠I) (LI:L≠I) (DL:D≠L)
section
variable {oL o o' l:Obj}{I D C:Addr}
theorem Fd(g:CG Z L oL I D)(ho:o.isFreed=false)(hl:l.isFreed=false):(cZ Z L oL I o D l).get? I=some o:=by
 cases g with|mk hoL nL hZI hZD DI LI DL=>exact (aE hl (Ne.symm DI)).trans (aH ho)
theorem qr(g:CG Z L oL I D)(ho:o.isFreed=false)(hl:l.isFreed=false):Sub Z (cZ Z L oL I o D l):=by
 cases g with|mk hoL nL hZI hZD DI LI DL=>exact ((Sub.put hoL nL).trans (Sub.put ho ((aE hoL (Ne.symm LI)).trans hZI))).trans (Sub.put hl ((aE ho DI).trans ((aE hoL DL).trans hZD)))
theorem rN(g:CG Z L oL I D)(ho:o.isFreed=false)(hl:l.isFreed=false):Sub (aI Z I o) (cZ Z L oL I o D l):=by
 cases g with|mk hoL nL hZI hZD DI LI DL=>exact (Sub.put_both ho (Sub.put hoL nL)).trans (Sub.put hl ((aE ho DI).trans ((aE hoL DL).trans hZD)))
theorem rO(g:CG Z L oL I D)(ho:o.isFreed=false)(hl:l.isFreed=false)(R:Rel c B (cZ Z L oL I o D l) U C H h):Rel c B (aI (aI (aI Z L oL) D l) I o) U C H h:=by
 cases g with|mk hoL nL hZI hZD DI LI DL=>exact R.weakZ (c6 hl ho DI)
theorem wl(g:CG Z L oL I D)(ho:o.isFreed=false)(hl:l.isFreed=false)(R:Rel c B (cZ Z L oL I o D l) U C H h)(k:∀b x,b∉[I]->h.get? b=some x->h'.get? b=some x)(e:h'.get? I=some o'):Rel c B (cZ Z L oL I o' D l) U C H h':=by
 have r:=(rO g ho hl R).repin ho (aT e) (fun b x _ hb e=>k b x (fun q=>hb (List.mem_singleton.mp q)) e) e
 cases g with|mk hoL nL hZI hZD DI LI DL=>exact r.weakZ (c6 (aT e) hl (Ne.symm DI))
theorem wm(g:CG Z L oL I D)(ho:o.isFreed=false)(hl:l.isFreed=false)(R:Rel c B (cZ Z L oL I o D l) U C H h)(k:∀b x,b∉[I]->h.get? b=some x->h'.get? b=some x):Rel c B (aI (aI Z L oL) D l) U C H h':=by
 have r:=rO g ho hl R
 cases g with|mk hoL nL hZI hZD DI LI DL=>exact r.unpin ho ((aE hl (Ne.symm DI)).trans ((aE hoL (Ne.symm LI)).trans hZI)) fun b x _ hb e=>k b x (fun q=>hb (List.mem_singleton.mp q)) e
theorem DS(g:CG Z L oL I D)(ho:o.isFreed=false)(hl:l.isFreed=false)(R:Rel c B (cZ Z L oL I o D l) U C H h):C∉[I]:=fun q=>by
 have e:=R.LZ
 rw[List.mem_singleton.mp q,Fd g ho hl] at e;nomatch e
theorem Jp(hl:l.isFreed=false)(R:Rel c B (cZ Z L oL I o D l) U C H h):C≠D:=(bX hl R.LZ).1
end
structure CP where
 elt:Expr
 iter:Expr
 i:Nat
 px:Pos
 ifs:List Expr
 scope:Scope
 pos:Pos
 cl:List (Str×Addr)
noncomputable def CP.e(c:Cx)(p:CP):Expr:=.ListComp p.elt [⟨.Name (c.nm p.i) p.px,p.iter,p.ifs,0⟩] p.scope p.pos
def wk(c:Cx)(A:Around)(E:SU)(p:CP)(env:Env)(PP:Value->Addr->Result->Shared->Prop)(it:Value)(s₂:Shared):Prop:=
 wpAny c.M A (newList []) (fun acc s₃=>wpAny c.M A (newFunctionEnv p.scope env.globals p.cl [] env.qual none .none (some env)) (fun cenv s₄=>
  codeAny c.M A (.compStart (p.e c) 0 it acc { cenv with scope:=relabel p.scope env }) (PP acc cenv.locals) s₄) E s₃) E s₂
def wj(c:Cx)(A:Around)(E:SU)(p:CP)(env:Env)(Qv:SU)(it:Value)(s₂:Shared):Prop:=wk c A E p env (compPost c.M A E none Qv) it s₂
def rM(c:Cx)(A:Around)(cenv:Env)(R:Result->Shared->Prop):SU:=notedBy c.M A cenv fun e s'=>R (.error e) s'
def Qb(c:Cx)(A:Around)(cenv:Env)(acc:Value)(R:Result->Shared->Prop)(J:Nat->Shared->Prop)(n:Nat)(x:Value)(s₄:Shared):Prop:=
 wpAny c.M A (call (.builtin "list.append") [acc,x]) (fun _ s₅=>∃m,m<n/\J m s₅) (rM c A cenv R) s₄
def Qc(c:Cx)(A:Around)(p:CP)(cenv:Env)(acc:Value)(R:Result->Shared->Prop)(J:Nat->Shared->Prop)(n:Nat)(ok:Bool)(s₃:Shared):Prop:=
 if ok=true then wpAny c.M A (eval p.elt cenv) (Qb c A cenv acc R J n) (rM c A cenv R) s₃ else ∃m,m<n/\J m s₃
def Jo(c:Cx)(A:Around)(p:CP)(cenv:Env)(acc:Value)(R:Result->Shared->Prop)(J:Nat->Shared->Prop)(n:Nat)(v:Value)(s₁:Shared):Prop:=
 wpAny c.M A (assign (.Name (c.nm p.i) p.px) cenv v) (fun _ s₂=>wpAny c.M A (tv p.ifs cenv) (Qc c A p cenv acc R J n) (rM c A cenv R) s₂) (rM c A cenv R) s₁
inductive CMid(c:Cx)(B Z:Heap)(U:Ph)(L:Addr)(oL:Obj)(I D C:Addr)(St:Nat->Heap->Prop)(m:aD)(j:Nat)(acc:List PyData)(vs:List Value)(kk:Nat)(o:Obj)(h:Heap)(tk:Nat)(B':Heap)(U':Ph)(H':Hp):Prop
 |mk (ht:1<=tk) (sB:Sub B B') (sP:PSub U U') (ho:o.isFreed=false) (hs:St j h) (R:Rel c B' (cZ Z L oL I o D (listOf vs.toArray kk)) U' C H' h) (F:FrR c B' U' C m h) (dv:DVs B' vs acc)
inductive MI(c:Cx)(B Z:Heap)(U:Ph)(L:Addr)(oL:Obj)(I D C:Addr)(St:Nat->Heap->Prop)(step:V->List PyData->Hp->(List PyData->Hp->Prop)->Prop)(xs:List V)(Qf:List PyData->Hp->Prop)(j:Nat)(h:Heap)(tk:Nat):Prop
 |mk (acc:List PyData) (vs:List Value) (kk:Nat) (o:Obj) (B':Heap) (U':Ph) (H':Hp) (M:CMid c B Z U L oL I D C St [] j acc vs kk o h tk B' U' H') (hw:dY step (xs.drop j) acc H' Qf)
inductive Aw(c:Cx)(B Z:Heap)(U:Ph)(L:Addr)(oL:Obj)(I D C:Addr)(s₂:Shared)(St:Nat->Heap->Prop)(step:V->List PyData->Hp->(List PyData->Hp->Prop)->Prop)(xs:List V)(Qf:List PyData->Hp->Prop)(k:Nat)(s':Shared):Prop
 |mk (j:Nat) (h':Heap) (tk:Nat) (e:s'={ s₂ with heap:=h',toks:=tk }) (hj:j+k=xs.length+1) (hk:1<=k) (a:MI c B Z U L oL I D C St step xs Qf j h' tk)
section
variable {oL o:Obj}{I D C:Addr}{ft:List Addr}{xs:List V}{Pi:Nat->Value->Prop}{St:Nat->Heap->Prop}{m2:aD}{j n:Nat}{acc:List PyData}{vs:List Value}{kk tk tk2:Nat}{B' B2 h2:Heap}{U' U2:Ph}{H' H2:Hp}{A:Around}{p:CP}{cenv:Env}{s₂:Shared}
 {step:V->List PyData->Hp->(List PyData->Hp->Prop)->Prop}{Qf:List PyData->Hp->Prop}{R:Result->Shared->Prop}
theorem CMid.next(g:CG Z L oL I D)(hA:A.handled=none)(its:Its c B Z U I ft xs Pi St)(M:CMid c B Z U L oL I D C St m j acc vs kk o h tk B' U' H')(ht:1<=tk2)(sB2:Sub B' B2)(sP2:PSub U' U2)
  (R2:Rel c B2 (cZ Z L oL I o D (listOf vs.toArray kk)) U2 C H2 h2)(F2:FrR c B2 U2 C m2 h2):CMid c B Z U L oL I D C St m2 j acc vs kk o h2 tk2 B2 U2 H2:=by
 cases M with
 |mk _ sB sP ho hs R F dv=>exact .mk ht (sB.trans sB2) (sP.trans sP2) ho ((its.mono sB (qr g ho rfl) sP).keep hA R R2.kZ (sB2.trans R2.kB) ⟨o,Fd g ho rfl⟩ hs) R2 F2 (dv.mono sB2)
theorem Jq(g:CG Z L oL I D)(hA:A.handled=none)(its:Its c B Z U I ft xs Pi St)(hj:j+n=xs.length+2)(hn:2<=n)(M:CMid c B Z U L oL I D C St m j acc vs kk o h tk B' U' H'){y:Value}{d:PyData}(hd:DV B' y d)(hl:acc.length<=16777215)(q:dY step (xs.drop j) (acc++[d]) H' Qf) :
  Qb c A cenv (.ref D) R (Aw c B Z U L oL I D C s₂ St step xs Qf) n y { s₂ with heap:=h,toks:=tk }:=by
 cases M with
 |mk ht sB sP ho hs R F dv=>
  refine append_at (R.kZ _ _ (aH rfl)) (fun h9 hs9 ho9=>?_) (ak (an dv.length) (ak hl (by decide)))
  have ho9':h9.get? D=some (listOf (vs++[y]).toArray (kk+1)):=ho9.trans (by rw[List.push_toArray])
  have R9:=Rel.repin R rfl rfl (fun b x _ hb e=>(hs9.2 b hb).trans e) ho9'
  exact⟨n-1,P8 hn,.mk j h9 tk rfl (Qa hj hn) (P9 hn) (.mk (acc++[d]) (vs++[y]) (kk+1) o B' U' H' (.mk ht sB sP ho ((its.mono sB (Sub.put ho (by cases g;assumption)) sP).keep hA (R.weakZ (rN g ho rfl)) ((rN g ho rfl).trans (Rel.kZ R9)) R9.kB ⟨o,aH ho⟩ hs) R9
   (F.less.keep fun x e=>(hs9.2 _ (Jp rfl R)).trans e) (dv.append (.cons hd .nil))) q)⟩
theorem NB(g:CG Z L oL I D)(hA:Room r A)(its:Its c B Z U I ft xs Pi St)(hj:j+n=xs.length+2)(hn:2<=n)(M:CMid c B Z U L oL I D C St m j acc vs kk o h tk B' U' H'){ok:Bool}
  (q:if ok=true then Tr VR c r C m (fun _ _=>True) H' (eval p.elt cenv) fun v H2=>∃d,v=.d d/\acc.length<=16777215/\dY step (xs.drop j) (acc++[d]) H2 Qf else dY step (xs.drop j) acc H' Qf) :
  Qc c A p cenv (.ref D) R (Aw c B Z U L oL I D C s₂ St step xs Qf) n ok { s₂ with heap:=h,toks:=tk }:=by
 cases ok with
 |false=>
  cases M with
  |mk ht sB sP ho hs R F dv=>exact⟨n-1,P8 hn,.mk j h tk rfl (Qa hj hn) (P9 hn) (.mk acc vs kk o B' U' H' (.mk ht sB sP ho hs R F.less dv) q)⟩
 |true=>
  have M':=M
  cases M' with
  |mk ht sB sP ho hs R F dv=>
   refine Tr.run (q) hA ht R F trivial fun y h₈ tk₈ B₈ U₈ yv H₈ ht8 sB8 sP8 R8 F8 hy e5=>?_
   obtain⟨d,rfl,hl,q2⟩:=e5
   exact Jq g hA.2.2.1 its hj hn (M.next g hA.2.2.1 its ht8 sB8 sP8 R8 F8) hy.d_of hl q2
theorem Fe(g:CG Z L oL I D)(hA:Room r A)(its:Its c B Z U I ft xs Pi St)(hE:aZ c sc C cenv)(hx:sc.names.lookup (c.nm p.i)=some .local)(hstep:jb c r sc p.i p.elt p.ifs step)(hj:j+n=xs.length+1)(hlt:j<xs.length)
  (a:MI c B Z U L oL I D C St step xs Qf j h tk){v:Value}(hP:Pi j v)(hst:St (j+1) h2)(hk:∀b x,b∉[I]->h.get? b=some x->h2.get? b=some x)(ht2:1<=tk2) :
  Jo c A p cenv (.ref D) R (Aw c B Z U L oL I D C s₂ St step xs Qf) n v { s₂ with heap:=h2,toks:=tk2 }:=by
 cases a with
 |mk acc vs kk o B' U' H' M hw=>
  cases M with
  |mk ht sB sP ho hs R F dv=>
   obtain⟨o',eo⟩:=its.here (j+1) h2 hst
   have ho':=aT eo
   have R2:=wl g ho rfl R hk eo
   obtain⟨x,hx1,hx2⟩:=(its.mono sB (qr (o:=o') (l:=listOf vs.toArray kk) g ho' rfl) sP).item j v hP
   have hdrop:xs.drop j=x::xs.drop (j+1):=by
    obtain⟨h1,h2⟩:=List.getElem?_eq_some_iff.mp hx1
    rw[List.drop_eq_getElem_cons h1,h2]
   rw[hdrop] at hw
   have hs:=hstep _ _ x acc H' _ hE hw
   refine wpAny_assign_Name (dX hE hx R2 (F.keep fun y e=>hk _ y (DS g ho rfl R) e) hx2 fun h₆ R6 F6 keep6=>?_)
   refine Tr.run (hs) hA (ak ht2 (Nat.le_succ _)) R6 F6 trivial fun ok h₇ tk₇ B₇ U₇ ok' H₇ ht7 sB7 sP7 R7 F7 e4 q=>?_
   subst e4
   exact NB g hA its (Rz hj) (RC hj hlt) (.mk ht7 (sB.trans sB7) (sP.trans sP7) ho' ((its.mono sB (qr (o:=o') (l:=listOf vs.toArray kk) g ho' rfl) sP).keep hA.2.2.1 R2 R7.kZ (sB7.trans R7.kB) ⟨o',Fd g ho' rfl⟩ hst) R7 F7 (dv.mono sB7)) q
end
section
variable {oL o oI:Obj}{I D C:Addr}{ft:List Addr}{xs:List V}{Pi:Nat->Value->Prop}{St:Nat->Heap->Prop}{A:Around}{E:SU}{p:CP}{cenv:Env}{s₂:Shared}
 {step:V->List PyData->Hp->(List PyData->Hp->Prop)->Prop}{Qf:List PyData->Hp->Prop}{Qv:SU}{mm:Str->Option Value}
inductive tJ(c:Cx)(B Z:Heap)(U:Ph)(L:Addr)(oL:Obj)(D C:Addr)(Qf:List PyData->Hp->Prop)(h2:Heap):Prop
 |mk (acc:List PyData) (vs:List Value) (kk:Nat) (B':Heap) (U':Ph) (H':Hp) (sB:Sub B B') (sP:PSub U U') (R:Rel c B' (aI (aI Z L oL) D (listOf vs.toArray kk)) U' C H' h2) (FC:FrR c B' U' C [] h2) (dv:DVs B' vs acc) (q:Qf acc H')
theorem Js{j tk:Nat}{h2:Heap}(g:CG Z L oL I D)(hj:xs.length<=j)(a:MI c B Z U L oL I D C St step xs Qf j h tk)(hk:∀b x,b∉[I]->h.get? b=some x->h2.get? b=some x):tJ c B Z U L oL D C Qf h2:=by
 cases a with
 |mk acc vs kk o B' U' H' M hw=>
  cases M with
  |mk ht sB sP ho hs R F dv=>
   rw[List.drop_eq_nil_of_le hj] at hw
   exact .mk acc vs kk B' U' H' sB sP (wm g ho rfl R hk) (F.keep (h':=h2) fun x e=>hk _ x (DS g ho rfl R) e) dv hw
theorem DT{tk2:Nat}{h2:Heap}(hoL:oL.isFreed=false)(nL:Z.get? L=none)(zD:Z.get? D=none)(DL:D≠L)(hLG:c.G.objs.size<=L)(e:tJ c B Z U L oL D C Qf h2)
  (db:∀h' tk B' U' H' acc v,Sub B B'->PSub U U'->Rel c B' Z U' L H' h'->h'.get? L=some oL->DV B' v (.list acc)->Qf acc H'->Qv v { s₂ with heap:=h',toks:=tk }) :
  compPost c.M A E none Qv (.ref D) C (.ok .next) { s₂ with heap:=h2,toks:=tk2 }:=by
 cases e with
 |mk acc vs kk B' U' H' sB sP R FC dv q=>
  obtain⟨mC,hmC,_⟩:=FC.ex
  refine⟨mC,hmC,fun h₆ hs6=>?_⟩
  have R6:=R.keep fun b x hb e=>(hs6.2 b hb).trans e
  obtain⟨R8,s7⟩:=R6.freezeZ rfl ((aE hoL DL).trans zD)
  obtain⟨R9,here⟩:=R8.leave hoL nL hLG
  exact db h₆ tk2 _ U' H' acc _ (sB.trans s7) sP R9 here (DV.list_at (aH rfl) (dv.mono s7)) q
theorem Ff{RR:Result->Shared->Prop}(g:CG Z L oL I D)(hA:Room r A)(its:Its c B Z U I ft xs Pi St)(hE:xs≠[]->aZ c sc C cenv)(hx:sc.names.lookup (c.nm p.i)=some .local)(hstep:jb c r sc p.i p.elt p.ifs step)
  (a:MI c B Z U L oL I D C St step xs Qf 0 h s₂.toks)(db:∀h2 tk2,tJ c B Z U L oL D C Qf h2->RR (.ok .next) { s₂ with heap:=h2,toks:=tk2 }) :
  codeAny c.M A (.compLoop (p.e c) 0 (.ref I) (.ref D) cenv) RR { s₂ with heap:=h }:=by
 refine codeAny_compLoop_tests (Aw c B Z U L oL I D C s₂ St step xs Qf) (fun n s' i=>?_) (xs.length+1) (.mk 0 h s₂.toks rfl (Nat.zero_add _) (Nat.succ_pos _) a)
 obtain⟨j,h',tk,rfl,hj,hk,a⟩:=i
 ·have hst:St j h':=by cases a with|mk _ _ _ _ _ _ _ M _=>cases M;assumption
  have htk:1<=tk:=by cases a with|mk _ _ _ _ _ _ _ M _=>cases M;assumption
  by_cases hlt:j<xs.length
  ·exact wpAny_with_toks (n:=1) htk ((its.W A hA.2.2.1).item j _ _ _ hlt hst fun v h₅ tk₅ hP hs hk5 ht5=>Fe g hA its (hE fun q=>by rw[q] at hlt;exact Nat.not_lt_zero _ hlt) hx hstep hj hlt a hP hs hk5 ht5)
  ·exact (its.W A hA.2.2.1).done _ _ _ (Nat.le_antisymm (RD hj hk) (Nat.le_of_not_lt hlt)▸hst) fun h₅ tk₅ hk5=>db h₅ tk₅ (Js g (Nat.le_of_not_lt hlt) a hk5)
theorem jM{PP:Value->Addr->Result->Shared->Prop}(hA:Room r A)(ht:1<=s₂.toks)(hcell:∀y∈p.scope.names,y.2≠.cell)(hkind:p.scope.kind=.function)(hx:p.scope.names.lookup (c.nm p.i)=some .local)
  (hE:aZ c sc L env)(hcl:xs≠[]->c.cs=[]/\∀i q,lP i c.fr=some q->((relabel p.scope env).names.lookup (c.nm i)).any cI=true->p.cl.lookup (c.nm i)=some q.1)(hstep:jb c r (relabel p.scope env) p.i p.elt p.ifs step)(hI:oI.isFreed=false)(hZI:Z.get? I=none)(its:Its c B Z U I ft xs Pi St)(st0:St 0 s₂.heap)(hR:Rel c B (aI Z I oI) U L H s₂.heap)(hF:FrR c B U L m s₂.heap)(hw:dY step xs [] H Qf)
  (db:∀D C oL h2 tk2,s₂.heap.get? L=some oL->oL.isFreed=false->Z.get? L=none->Z.get? D=none->D≠L->tJ c B Z U L oL D C Qf h2->PP (.ref D) C (.ok .next) { s₂ with heap:=h2,toks:=tk2 }) :
  wk c A E p env PP (.ref I) s₂:=by
 obtain⟨mm,⟨oL,es,ep,eL,hd⟩,hm⟩:=id hF.ex
 have hoL:=aT eL
 have zI:(aI Z I oI).get? I=some oI:=aH hI
 have DI:s₂.heap.objs.size≠I:=fun q=>nope ((q▸aG:s₂.heap.get? I=none).symm.trans (hR.kZ _ _ zI))
 have DL:s₂.heap.objs.size≠L:=Nat.ne_of_gt (Heap.lt_size eL)
 have nL:=bX hI hR.LZ
 have zD:=bX hI (hR.noZ aG)
 have g:CG Z L oL I s₂.heap.objs.size:=.mk hoL nL.2 hZI zD.2 DI nL.1 DL
 refine wpAny_newList ?_ (Nat.zero_le _)
 generalize hl:({ cls:=.type "list", data:=.seq ([]:List Value).toArray }:Obj)=l
 have gD:(s₂.heap.push l).get? s₂.heap.objs.size=some l:=Heap.get?_push_size _ (by rw[←hl];rfl)
 have R1:=(hR.pinNew (a:=s₂.heap.objs.size) (o:=l) (by rw[←hl];rfl) DL (ba _) aG gD).1
 have eL1:(s₂.heap.push l).get? L=some oL:=Heap.get?_push_of_some _ eL
 have R2:=R1.enter eL1
 refine wpAny_newFunctionEnv hcell (fun y hy=>absurd hy List.not_mem_nil) (fun h₁ hns₁ hsb₁=>?_) hkind
 have k2:∀b o,(s₂.heap.push l).get? b=some o->h₁.get? b=some o:=fun b o e=>(hsb₁.2 b (Nat.ne_of_lt (Heap.lt_size e))).trans (Heap.get?_push_of_some _ e)
 have R3:=R2.keep fun b o _ e=>k2 b o e
 have R4:Rel c B (cZ Z L oL I oI s₂.heap.objs.size l) U (s₂.heap.push l).objs.size H h₁:=R3.weakZ ((Sub.put_both (by rw[←hl];rfl) (c6 hoL hI nL.1)).trans (c6 hoL (by rw[←hl];rfl) (Ne.symm DL)))
 have st1:St 0 h₁:=(its.W A hA.2.2.1).frame _ _ _ st0 fun b _ o e=>k2 _ _ (Heap.get?_push_of_some _ e)
 subst hl
 have loop:=fun tk (q:tk=s₂.toks)=>Ff (RR:=PP (.ref s₂.heap.objs.size) (s₂.heap.push _).objs.size) (s₂:={ s₂ with toks:=tk }) (Qf:=Qf) (cenv:={ (newEnv p.scope (s₂.heap.push _).objs.size env.globals p.cl env.qual none .none (some env) 0) with scope:=relabel p.scope env }) g hA its (fun n=>⟨rfl,rfl,hE.globals,hE.builtins,hkind,(hcl n).2,fun i _=>bR (hcl n).1 i,fun i q=>absurd (hcl n).1 q⟩) (lookup_relabel_local hx) hstep
  (.mk [] [] 0 oI B U H (.mk (q▸ht) (Sub.refl _) (PSub.refl _) hI st1 R4 ⟨_,hns₁,fun i x e=>nope e⟩ DVs.nil) hw)
  fun h2 tk2 e=>db _ _ oL h2 tk2 eL hoL nL.2 zD.2 DL e
 exact codeAny_compStart_list (loop _ rfl) ((its.W A hA.2.2.1).self _ _ _ _ st1 (loop _ rfl))
theorem lF(hA:Room r A)(ht:1<=s₂.toks)(hcell:∀y∈p.scope.names,y.2≠.cell)(hkind:p.scope.kind=.function)(hx:p.scope.names.lookup (c.nm p.i)=some .local)
  (hE:aZ c sc L env)(hcl:xs≠[]->c.cs=[]/\∀i q,lP i c.fr=some q->((relabel p.scope env).names.lookup (c.nm i)).any cI=true->p.cl.lookup (c.nm i)=some q.1)(hstep:jb c r (relabel p.scope env) p.i p.elt p.ifs step)(hI:oI.isFreed=false)(hZI:Z.get? I=none)(its:Its c B Z U I ft xs Pi St)(st0:St 0 s₂.heap)(hR:Rel c B (aI Z I oI) U L H s₂.heap)(hF:FrR c B U L m s₂.heap)(hw:dY step xs [] H Qf)
  (db:∀h' tk B' U' H' acc v,Sub B B'->PSub U U'->Rel c B' Z U' L H' h'->FrR c B' U' L m h'->DV B' v (.list acc)->Qf acc H'->Qv v { s₂ with heap:=h',toks:=tk }) :
  wj c A E p env Qv (.ref I) s₂:=by
 obtain⟨mm,⟨oL0,es,ep,eL,hd⟩,hm⟩:=id hF.ex
 refine jM hA ht hcell hkind hx hE hcl hstep hI hZI its st0 hR hF hw fun D C oL h2 tk2 e1 hoL nL zD DL e=>?_
 obtain rfl:oL0=oL:=by rw[eL] at e1;cases e1;rfl
 exact DT hoL nL zD DL hR.LG e fun h' tk B' U' H' acc v sB sP R here dv q=>db h' tk B' U' H' acc v sB sP R ⟨mm,⟨oL0,es,ep,here,hd⟩,fun i x q=>(hm i x q).imp fun u z=>⟨z.1.mono sB,z.2.mono sB sP⟩⟩ dv q
end
end
inductive EndA(c:Cx)(B Z:Heap)(U:Ph)(L:Addr)(Q:aD->Hp->Prop)(s s':Shared):Prop
 |mk (h':Heap) (tk:Nat) (B':Heap) (U':Ph) (m':aD) (H':Hp) (e:s'={ s with heap:=h',toks:=tk }) (sb:Sub B B') (ps:PSub U U') (rl:Rel c B' Z U' L H' h') (fr:FrR c B' U' L m' h') (q:Q m' H')
theorem EndA.at{c:Cx}{B Z:Heap}{U:Ph}{L:Addr}{Q:aD->Hp->Prop}{s s₁ s':Shared}{h1:Heap}{t1:Nat}(e:s₁={ s with heap:=h1,toks:=t1 })(x:EndA c B Z U L Q s₁ s'):EndA c B Z U L Q s s':=by
 subst e
 obtain⟨h',tk,B',U',m',H',rfl,q1,q2,q3,q4,q5⟩:=x
 exact⟨h',tk,B',U',m',H',rfl,q1,q2,q3,q4,q5⟩
def TrA(c:Cx)(r:Nat)(L:Addr)(m:aD)(P:Heap->Ph->Prop)(H:Hp)(t:Sem Unit)(Q:aD->Hp->Prop):Prop:=
 ∀A (E:SU) s B Z U,Room r A->1<=s.toks->Rel c B Z U L H s.heap->FrR c B U L m s.heap->P B U->wpAny c.M A t (fun _ s'=>EndA c B Z U L Q s s') E s
section
variable {c:Cx}{r:Nat}{L:Addr}{m:aD}{P:Heap->Ph->Prop}{H:Hp}{B Z Z' h h':Heap}{U:Ph}{T:aW}{env:Env}{sc:Scope}
theorem TrA.run{t:Sem Unit}{Q:aD->Hp->Prop}(h:TrA c r L m P H t Q){A:Around}{E:SU}{s:Shared}(hA:Room r A)(ht:1<=s.toks)(hR:Rel c B Z U L H s.heap)(hF:FrR c B U L m s.heap)(hp:P B U){K:Unit->Shared->Prop}
  (g:∀u h' tk B' U' m' H',1<=tk->Sub B B'->PSub U U'->Rel c B' Z U' L H' h'->FrR c B' U' L m' h'->Q m' H'->K u { s with heap:=h',toks:=tk }):wpAny c.M A t K E s:=by
 refine wpAny_mono (wpAny_toks_of ht (h A E s B Z U hA ht hR hF hp)) ?_ fun _ _ x=>x.2
 rintro u s' ⟨ht',h',tk,B',U',m',H',rfl,b,p,R1,F1,q⟩
 exact g u h' tk B' U' m' H' ht' b p R1 F1 q
theorem zY{i:Nat}{v:Value}{x:V}{pos:Pos}{Q:aD->Hp->Prop}(hE:aZ c sc L env)(hl:sc.names.lookup (c.nm i)=some .local)(hv:∀B U,P B U->VR B U v x)(q:Q (pk i x m) H):TrA c r L m P H (assign (.Name (c.nm i) pos) env v) Q:=by
 intro A E s B Z U hA ht hR hF hp
 refine wpAny_assign_Name (dX hE hl hR hF (hv _ _ hp) fun h' R F _=>?_)
 exact⟨h',s.toks+1,B,U,_,H,rfl,Sub.refl _,PSub.refl _,R,F,q⟩
theorem xO{I:Addr}{ft:List Addr}{ds:List D}{Pi:Nat->Value->Prop}{St:Nat->Heap->Prop}{A:Around}{E:SU}(hA:A.handled=none)(its:Its c B Z U I ft (ds.map .d) Pi St) :
  ∀(n j:Nat) (s:Shared) (Q:List Value->Shared->Prop),St j s.heap->j+n=ds.length ->
   (∀h' tk vs,St ds.length h'->(∀b o,b∉[I]->s.heap.get? b=some o->h'.get? b=some o)->DVs B vs (ds.drop j)->Q vs { s with heap:=h',toks:=tk })->wpAny c.M A (draw (.ref I) n) Q E s:=by
 intro n
 induction n with
 |zero=>
  intro j s Q st e q
  have hj:j=ds.length:=e
  subst hj
  exact wpAny_pure (q s.heap s.toks [] st (fun _ _ _ e=>e) (by rw[List.drop_length];exact DVs.nil))
 |succ n ih=>
  intro j s Q st e q
  show wpAny _ _ (pyNext (.ref I) >>= _) Q E s
  refine wpAny_bind ((its.W A hA).item j _ _ _ (by rw[ah];exact SH (by assumption)) st fun v h₁ tk₁ hP st₁ hk₁=>?_)
  obtain⟨x,hx,hv⟩:=its.item j v hP
  rw[List.getElem?_map] at hx
  obtain⟨d,hd,rfl⟩:=ai hx
  refine wpAny_bind (wpAny_holding (ih (j+1) _ _ st₁ (SI (by assumption)) fun h₂ tk₂ vs st₂ hk₂ dv=>wpAny_pure ?_))
  refine q h₂ tk₂ (v::vs) st₂ (fun b o hb e=>hk₂ b o hb (hk₁ b o hb e)) ?_
  have:ds.drop j=d::ds.drop (j+1):=by
   obtain⟨h1,h2⟩:=List.getElem?_eq_some_iff.mp hd
   rw[List.drop_eq_getElem_cons h1,h2]
  rw[this]
  exact .cons hv.d_of dv
theorem uN{v:Value}{x:D}{ds:List D}{s:Shared}(hR:Rel c B Z U L H s.heap)(hv:DV B v x)(e:b8 x=some ds):∃Ty id,s.TypeIs v Ty/\typeLookup (.type Ty) "__iter__" = pure (some (.builtin id)):=by
 cases x with
 |none=>nomatch e
 |bool=>nomatch e
 |int=>nomatch e
 |dict=>nomatch e
 |list xs=>obtain⟨a,o,vs,n,rfl,h1,h2,_⟩:=hv.list_of;exact⟨"list", _,⟨o,hR.kB _ _ h1,h2⟩,PySem.F.slot_list_iter.lookup⟩
 |tuple xs=>obtain⟨a,o,vs,n,rfl,h1,h2,_⟩:=hv.tuple_of;exact⟨"tuple", _,⟨o,hR.kB _ _ h1,h2⟩,PySem.F.slot_tuple_iter.lookup⟩
 |str y=>obtain⟨t,rfl,_⟩:=hv.str_okL;exact⟨"str", _,typeIs_str _ _ _,PySem.F.slot_str_iter.lookup⟩
theorem qd{A:Around}{E:SU}{s:Shared}{v:Value}{x:D}{ds:List D}{Q:List Value->Shared->Prop}(hA:A.handled=none)(hR:Rel c B Z U L H s.heap)(hv:DV B v x)(e:b8 x=some ds)
  (q:∀h' tk vs,(∀b o,s.heap.get? b=some o->h'.get? b=some o)->DVs B vs ds->Q vs { s with heap:=h',toks:=tk }):wpAny c.M A (unpackItems v ds.length none) Q E s:=by
 obtain⟨Ty,id,hty,hlk⟩:=uN hR hv e
 unfold unpackItems
 refine wpAny_bind ?_
 unfold notIterableAtAll
 refine wpAny_bind (wpAny_specialOf hty hlk ?_)
 refine wpAny_pure ?_
 simp only[Bool.false_eq_true,if_false]
 refine wpAny_bind (wpAny_holding (fJ hR hv e fun o ft Pi St ho its st=>?_))
 have W:=its.W A hA
 refine wpAny_bind (wpAny_holding (xO hA its ds.length 0 _ _ st (Nat.zero_add _) fun h₁ tk₁ vs st₁ hk₁ dv=>?_))
 rw[List.drop_zero] at dv
 rw[ar (by rw[dv.length];omega)]
 rw[←ah (f:=V.d)] at st₁
 refine wpAny_bind (wpAny_holding (W.done _ _ _ st₁ fun h₂ tk₂ hk₂=>?_))
 simp only[Option.isSome_none,Bool.false_eq_true,if_false]
 refine wpAny_pure (q h₂ tk₂ vs (fun b o e=>?_) dv)
 have nb:b∉[s.heap.objs.size]:=by
  intro hb
  rw[List.mem_singleton] at hb
  subst hb
  rw[aG] at e;nomatch e
 exact hk₂ b o nb (hk₁ b o nb (Heap.get?_push_of_some _ e))
def Vw(k:Nat)(m':aD)(H':Hp)(m:aD)(H:Hp):Prop:=(∃σ,vX k σ m' H' m H)\/(H'=H/\∀i x,lk i m'=some x->lk i m=some x)
 \/ ∃n i C fs σ,H[n]?=some (some (.inst C fs))/\(lk i fs).isSome=true/\vX k σ m' H' m (H.set n (some (.inst C (pk i .junk fs))))
theorem FR.junk{es:List DictEntry}{fs:List (Nat×V)}(f:FR c B U es fs)(i:Nat)(hi:(lk i fs).isSome=true):FR c B U es (pk i .junk fs):=by
 induction f with
 |nil=>nomatch hi
 |cons h1 h2 hv r ih=>
  rename_i e j x t es fs
  rw[g8]
  split
  ·rename_i q
   subst q
   exact .cons h1 h2 (.junk _) r
  ·rename_i q
   rw[a6] at hi
   rw[ar q] at hi
   exact .cons h1 h2 hv (ih hi)
theorem Rel.junk{n i:Nat}{C:Addr}{fs:List (Nat×V)}(R:Rel c B Z U L H h)(hn:H[n]?=some (some (.inst C fs)))(hi:(lk i fs).isSome=true):Rel c B Z U L (H.set n (some (.inst C (pk i .junk fs)))) h:=by
 have hlt:=oh hn
 have lv:∀j,dD (H.set n (some (.inst C (pk i .junk fs)))) j->dD H j:=by
  rintro j ⟨cl,e⟩
  rw[List.getElem?_set] at e
  by_cases q:n=j
  ·subst q;exact⟨_,hn⟩
  ·rw[ar q] at e;exact⟨cl,e⟩
 refine⟨R.base,R.kB,R.kZ,fun j cl e=>?_,fun j p hl hp=>R.free j p (lv j hl) hp,fun j j' p p' ne hl hl' hp hp'=>R.apart j j' p p' ne (lv j hl) (lv j' hl') hp hp',fun j hj=>R.dom j (by rw[List.length_set] at hj;exact hj),R.LB,R.LZ,R.LG,R.BZ⟩
 rw[List.getElem?_set] at e
 by_cases q:n=j
 ·subst q
  rw[au rfl,au hlt] at e
  cases e
  obtain⟨p,hp,a,ne,es,k,b,f,g1,g2⟩:=R.cell n _ hn
  refine⟨p,hp,a,ne,es,k,b,f.junk i hi,g1,fun j x hx=>?_⟩
  rw[ko] at hx
  by_cases q:i=j
  ·subst q
   obtain⟨y,hy⟩:=Option.isSome_iff_exists.mp hi
   exact g2 _ _ hy
  ·rw[ar q] at hx;exact g2 _ _ hx
 ·rw[ar q] at e;exact R.cell j cl e
def i8(k:Nat)(test:aD->Hp->(Bool->Hp->Prop)->Prop)(body:aD->Hp->(Fl->aD->Hp->Prop)->Prop):Nat->aD->Hp->(Fl->aD->Hp->Prop)->Prop
 |0,_,_,_=>False
 |n+1,m,H,Q=>test m H fun b H1=>if b=true then body m H1 fun fl m2 H2=>match fl with
   |.next=>∃m3 H3,Vw k m3 H3 m2 H2/\i8 k test body n m3 H3 Q
   |.brk=>Q .next m2 H2
   |.ret v=>Q (.ret v) m2 H2
  else Q .next m H1
def il(k:Nat)(asg:D->aD->Hp->(aD->Hp->Prop)->Prop)(body:aD->Hp->(Fl->aD->Hp->Prop)->Prop):List D->aD->Hp->(Fl->aD->Hp->Prop)->Prop
 |[],m,H,Q=>Q .next m H
 |x::xs,m,H,Q=>asg x m H fun m1 H1=>body m1 H1 fun fl m2 H2=>match fl with
   |.next=>∃m3 H3,Vw k m3 H3 m2 H2/\il k asg body xs m3 H3 Q
   |.brk=>Q .next m2 H2
   |.ret v=>Q (.ret v) m2 H2
def vW(c:Cx)(r:Nat)(L:Addr)(m:aD)(H:Hp)(t:Sem Bool)(Q:Bool->Hp->Prop):Prop:=Tr (fun _ _ v y=>v=y) c r L m (fun _ _=>True) H t Q
theorem FrR.fewer{m':aD}{h:Heap}(F:FrR c B U L m h)(q:∀i x,lk i m'=some x->lk i m=some x):FrR c B U L m' h:=by
 obtain⟨mm,n,f⟩:=F.ex
 exact⟨mm,n,fun i x e=>f i x (q i x e)⟩
theorem eT{k:Nat}{U U' U'':Ph}(a:∀n p,n<k->U n=some p->U' n=some p)(b:∀n p,n<k->U' n=some p->U'' n=some p):∀n p,n<k->U n=some p->U'' n=some p:=fun n p hn e=>b n p hn (a n p hn e)
theorem PSub.k{k:Nat}{U U':Ph}(a:PSub U U'):∀n p,n<k->U n=some p->U' n=some p:=fun n p _ e=>a n p e
theorem Vw.go{k:Nat}{m4:aD}{H4:Hp}(V:Vw k m4 H4 m H)(R:Rel c B Z U L H h)(F:FrR c B U L m h):∃U',(∀j p,j<k->U j=some p->U' j=some p)/\Rel c B Z U' L H4 h/\FrR c B U' L m4 h:=by
 rcases V with ⟨σ,V⟩|⟨rfl,V⟩|⟨n,i,C,fs,σ,h1,h2,V⟩
 ·exact⟨_,md V,R.view V,F.view V⟩
 ·exact⟨U,fun _ _ _ e=>e,R,F.fewer V⟩
 ·exact⟨_,md V,(R.junk h1 h2).view V,F.view V⟩
inductive I5(c:Cx)(B Z:Heap)(U:Ph)(L:Addr)(k:Nat)(s:Shared)(wt:aD->Hp->(Bool->Hp->Prop)->Prop)(wb:aD->Hp->(Fl->aD->Hp->Prop)->Prop)(Q:Fl->aD->Hp->Prop)(n:Nat)(s':Shared):Prop
 |mk (h':Heap) (tk:Nat) (B':Heap) (U':Ph) (m':aD) (H':Hp) (e:s'={ s with heap:=h',toks:=tk }) (ht:1<=tk) (sB:Sub B B') (kp:∀j p,j<k->U j=some p->U' j=some p) (R:Rel c B' Z U' L H' h') (F:FrR c B' U' L m' h') (hw:i8 k wt wb n m' H' Q)
inductive IV(c:Cx)(B Z:Heap)(U:Ph)(L:Addr)(k:Nat)(s:Shared)(I:Addr)(St:Nat->Heap->Prop)(asg:D->aD->Hp->(aD->Hp->Prop)->Prop)(wb:aD->Hp->(Fl->aD->Hp->Prop)->Prop)(ds:List D)(Q:Fl->aD->Hp->Prop)(q:Nat)(s':Shared):Prop
 |mk (j:Nat) (h':Heap) (tk:Nat) (B':Heap) (U':Ph) (m':aD) (H':Hp) (o:Obj) (e:s'={ s with heap:=h',toks:=tk }) (ht:1<=tk) (hj:j+q=ds.length+1) (hq:1<=q) (sB:Sub B B') (kp:∀j p,j<k->U j=some p->U' j=some p) (ho:o.isFreed=false) (hs:St j h')
  (R:Rel c B' (aI Z I o) U' L H' h') (F:FrR c B' U' L m' h') (hw:il k asg wb (ds.drop j) m' H' Q)
theorem vx{k n:Nat}{test:Expr}{body:List Stmt}{pos:Pos}{wt:aD->Hp->(Bool->Hp->Prop)->Prop}{wb:aD->Hp->(Fl->aD->Hp->Prop)->Prop}{Q:Fl->aD->Hp->Prop}
  (ht:∀m H Q,wt m H Q->vW c r L m H (isTrue test env (eval test env)) Q)(hb:∀m H Q,wb m H Q->TrS c r L k m H (execs body env) Q)(h:i8 k wt wb n m H Q):TrS c r L k m H (exec (.While test body [] pos) env) Q:=by
 intro A E s B Z U hA htk hR hF
 refine wpAny_While ?_
 refine codeAny_whileLoop (I5 c B Z U L k s wt wb Q) ?_ n
  ⟨s.heap,s.toks,B,U,m,H,rfl,htk,Sub.refl _,fun _ _ _ e=>e,hR,hF,h⟩
 rintro n s' ⟨h',tk,B',U',m',H',rfl,htk',sB,sP,R,F,hw⟩
 cases n with
 |zero=>exact hw.elim
 |succ n=>
  refine Tr.run (ht m' H' _ hw) hA htk' R F trivial fun b h₂ tk₂ B₂ U₂ b' H₂ ht2 sB2 sP2 R2 F2 e4 hq=>?_
  subst e4
  cases b with
  |false=>
   simp only[Bool.false_eq_true,if_false] at hq ⊢
   exact wpAny_execs_nil ⟨h₂,tk₂,B₂,U₂,.next,m',H₂,rfl,sB.trans sB2,eT sP sP2.k,R2,F2,.next,hq⟩
  |true=>
   simp only[if_true] at hq ⊢
   refine TrS.run (hb m' H₂ _ hq) hA ht2 R2 F2 fun f h₃ tk₃ B₃ U₃ fl m₃ H₃ ht3 sB3 sP3 R3 F3 fr hq3=>?_
   have goOn:(∃m4 H4,Vw k m4 H4 m₃ H₃/\i8 k wt wb n m4 H4 Q)->∃q,q<n+1/\I5 c B Z U L k s wt wb Q q { s with heap:=h₃,toks:=tk₃ }:=by
    rintro ⟨m4,H4,V,hw4⟩
    obtain⟨U4,k4,R4,F4⟩:=V.go R3 F3
    exact⟨n,Nat.lt_succ_self _,h₃,tk₃,B₃,U4,m4,H4,rfl,ht3,sB.trans (sB2.trans sB3),eT sP (eT sP2.k (eT sP3 k4)),R4,F4,hw4⟩
   cases fr with
   |next=>exact goOn hq3
   |brk=>exact⟨h₃,tk₃,B₃,U₃,.next,m₃,H₃,rfl,sB.trans (sB2.trans sB3),eT sP (eT sP2.k sP3),R3,F3,.next,hq3⟩
   |ret hv=>exact⟨h₃,tk₃,B₃,U₃,.ret _,m₃,H₃,rfl,sB.trans (sB2.trans sB3),eT sP (eT sP2.k sP3),R3,F3,.ret hv,hq3⟩
theorem Its.any{I:Addr}{ft:List Addr}{ds:List D}{Pi:Nat->Value->Prop}{St:Nat->Heap->Prop}{B':Heap}{U':Ph}(x:Its c B Z U I ft (ds.map .d) Pi St)(s:Sub B B')(z:Sub Z Z'):Its c B' Z' U' I ft (ds.map .d) Pi St:=
 ⟨x.W,fun i v h=>by
  obtain⟨y,h1,h2⟩:=x.item i v h
  rw[List.getElem?_map] at h1
  obtain⟨d,hd,rfl⟩:=ai h1
  exact⟨_,by rw[List.getElem?_map,hd];rfl,.d (h2.d_of.mono s)⟩,fun b hb=>by
  rcases x.fp b hb with e|⟨o,e⟩|⟨o,e⟩
  ·exact .inl e
  ·exact .inr (.inl ⟨o,s _ _ e⟩)
  ·exact .inr (.inr ⟨o,z _ _ e⟩),x.own,x.here⟩
theorem nU{k:Nat}{target:Expr}{body:List Stmt}{asg:D->aD->Hp->(aD->Hp->Prop)->Prop}{wb:aD->Hp->(Fl->aD->Hp->Prop)->Prop}{Q:Fl->aD->Hp->Prop}{A:Around}{s:Shared}{R:Result->Shared->Prop}{I:Addr}{ft:List Addr}{ds:List D}{Pi:Nat->Value->Prop}{St:Nat->Heap->Prop}{oI:Obj}
  (hA:Room r A)(htk:1<=s.toks)(hasg:∀x m H Q,asg x m H Q->∀v,TrA c r L m (fun B U=>DV B v x) H (assign target env v) Q)(hb:∀m H Q,wb m H Q->TrS c r L k m H (execs body env) Q)
  (hgo:∀i v (s:Shared) (Q:Unit->Shared->Prop) (E:SU),St i s.heap->Q () s->wpAny c.M A (letOwnedTupleGo target (.ref I) v) Q E s)
  (hI:oI.isFreed=false)(hZI:Z.get? I=none)(its:Its c B Z U I ft (ds.map .d) Pi St)(st0:St 0 s.heap)(hR:Rel c B (aI Z I oI) U L H s.heap)(hF:FrR c B U L m s.heap)(hw:il k asg wb ds m H Q)
  (db:∀f h' tk B' U' fl m' H',Sub B B'->(∀j p,j<k->U j=some p->U' j=some p)->Rel c B' Z U' L H' h'->FrR c B' U' L m' h'->DH B' U' f fl->Q fl m' H'->R (.ok f) { s with heap:=h',toks:=tk }) :
  codeAny c.M A (.forLoop target (.ref I) body [] env) R s:=by
 have LI:L≠I:=fun q=>by have:=hR.LZ;rw[q,aH hI] at this;nomatch this
 refine codeAny_forLoop_any
  (IV c B Z U L k s I St asg wb ds Q) ?_ (ds.length+1)
  ⟨0,s.heap,s.toks,B,U,m,H,oI,rfl,htk,Nat.zero_add _,Nat.succ_le_succ (Nat.zero_le _),Sub.refl _,fun _ _ _ e=>e,hI,st0,hR,hF,hw⟩
 rintro q s' ⟨j,h',tk,B',U',m',H',o,rfl,htk',hjq,hq1,sB,sP,ho,hst,R1,F1,hw⟩
 have W:=its.W A hA.2.2.1
 by_cases hlt:j<ds.length
 ·refine wpAny_with_toks (n:=1) htk' (W.item j _ _ _ (by rw[ah];exact hlt) hst fun v h₅ tk₅ hPv hst₅ hk₅ ht₅=>?_)
  obtain⟨o',eo⟩:=its.here (j+1) h₅ hst₅
  have ho':=aT eo
  have R5:=R1.repin ho ho' (fun b x _ hb e=>hk₅ b x (by simpa using hb) e) eo
  have F5:FrR c B' U' L m' h₅:=F1.keep fun x e=>hk₅ _ x (by simpa using LI) e
  have its':Its c B' (aI Z I o') U' I ft (ds.map .d) Pi St:=its.any sB (Sub.put ho' hZI)
  obtain⟨y,hy1,hy2⟩:=its'.item j v hPv
  rw[List.getElem?_map] at hy1
  obtain⟨d,hd,rfl⟩:=ai hy1
  have hdrop:ds.drop j=d::ds.drop (j+1):=by
   obtain⟨h1,h2⟩:=List.getElem?_eq_some_iff.mp hd
   rw[List.drop_eq_getElem_cons h1,h2]
  rw[hdrop] at hw
  refine hgo (j+1) v _ _ _ hst₅ ?_
  refine TrA.run (hasg d m' H' _ hw v) hA ht₅ R5 F5 hy2.d_of fun _ h₆ tk₆ B₆ U₆ m₆ H₆ ht6 sB6 sP6 R6 F6 hq6=>?_
  have hIz:∃y,(aI Z I o').get? I=some y:=⟨o',aH ho'⟩
  have st6:St (j+1) h₆:=its'.keep hA.2.2.1 R5 R6.kZ (sB6.trans R6.kB) hIz hst₅
  refine TrS.run (hb m₆ H₆ _ hq6) hA ht6 R6 F6 fun f h₇ tk₇ B₇ U₇ fl m₇ H₇ ht7 sB7 sP7 R7 F7 fr hq7=>?_
  have st7:St (j+1) h₇:=(its.any (U':=U) (sB.trans sB6) (Sub.put ho' hZI)).keep hA.2.2.1 R6 R7.kZ (sB7.trans R7.kB) hIz st6
  have kk:∀j p,j<k->U j=some p->U₇ j=some p:=eT sP (eT sP6.k sP7)
  have goOn:(∃m4 H4,Vw k m4 H4 m₇ H₇/\il k asg wb (ds.drop (j+1)) m4 H4 Q)->∃q',q'<q/\IV c B Z U L k s I St asg wb ds Q q' { s with heap:=h₇,toks:=tk₇ }:=by
   rintro ⟨m4,H4,V,hw4⟩
   obtain⟨U4,k4,R4,F4⟩:=V.go R7 F7
   exact⟨q-1,SD hq1,j+1,h₇,tk₇,B₇,U4,m4,H4,o',rfl,ht7,SE hjq hq1,SF hjq hlt,sB.trans (sB6.trans sB7),eT kk k4,ho',st7,R4,F4,hw4⟩
  have R8:=R7.weakZ (Sub.put ho' hZI)
  cases fr with
  |next=>exact goOn hq7
  |brk=>exact db .next h₇ tk₇ B₇ U₇ .next m₇ H₇ (sB.trans (sB6.trans sB7)) kk R8 F7 .next hq7
  |ret hv=>exact db _ h₇ tk₇ B₇ U₇ (.ret _) m₇ H₇ (sB.trans (sB6.trans sB7)) kk R8 F7 (.ret hv) hq7
 ·have hjn:j=ds.length:=SG hjq hq1 hlt
  subst hjn
  rw[List.drop_length] at hw
  have st':=hst
  rw[←ah (f:=V.d)] at st'
  refine W.done _ _ _ st' fun h₅ tk₅ hk₅=>wpAny_execs_nil ?_
  have Rk:=R1.unpin (h':=h₅) ho hZI (fun b x _ hb e=>hk₅ b x (by simpa using hb) e)
  have Fk:FrR c B' U' L m' h₅:=F1.keep fun x e=>hk₅ _ x (by simpa using LI) e
  exact db .next h₅ tk₅ B' U' .next m' H' sB sP Rk Fk .next hw
end
set_option genCtorIdx false in
inductive X where
 |c (d:D)
 |v (i:Nat)
 |g (k:Nat)
 |at (e:X) (a:Nat)
 |ix (e i:X)
 |sl (e lo hi:X)
 |bin (o:e7) (l r:X)
 |cmp (l:X) (o:eY) (r:X)
 |cmp2 (l:X) (o1:eY) (e:X) (o2:eY) (r:X)
 |and (a b:X)
 |or (a b:X)
 |not (e:X)
 |neg (e:X)
 |ife (t a b:X)
 |tup (es:X)
 |lst (mu:Nat) (es:X)
 |dct (ks:SQ) (es:X)
 |comp (elt:X) (i:Nat) (it t:X)
 |f (i:Nat)
 |bi (b:Bi) (es:X)
 |bm (b:Bi) (o es:X)
 |repl (o:X) (y z:SQ)
 |app (o e:X)
 |pop (o:X) (z:Bool)
 |cemp (fs:SQ) (i:Nat) (it:X)
 |compE (fs:SQ) (elt:X) (i j:Nat) (es t:X)
 |call (k:Nat) (es:X)
 |mc (o:X) (a:Nat) (es:X)
 |nl
 |dic (e:X)
 |nil
 |cons (e es:X)
 |non
 deriving Inhabited
noncomputable def X.ctorIdx(x:X):Nat:=X.casesOn x (fun _=>0) (fun _=>1) (fun _=>2) (fun _ _=>3) (fun _ _=>4) (fun _ _ _=>5) (fun _ _ _=>6) (fun _ _ _=>7) (fun _ _ _ _ _=>8) (fun _ _=>9) (fun _ _=>10) (fun _=>11) (fun _=>12) (fun _ _ _=>13) (fun _=>14) (fun _ _=>15) (fun _ _=>16) (fun _ _ _ _=>17) (fun _=>18) (fun _ _=>19) (fun _ _ _=>20) (fun _ _ _=>21) (fun _ _=>22) (fun _ _=>23) (fun _ _ _=>24) (fun _ _ _ _ _ _=>25) (fun _ _=>26) (fun _ _ _=>27) 28 (fun _=>29) 30 (fun _ _=>31) 32
def ok{α:Type}(o:Option α)(K:α->Prop):Prop:=match o with|some x=>K x|none=>False
@[simp] theorem g6{α:Type}(x:α)(K:α->Prop):ok (some x) K=K x:=rfl
theorem ek{α:Type}{o:Option α}{K:α->Prop}(h:ok o K):∃x,o=some x/\K x:=by
 cases o with
 |none=>exact h.elim
 |some x=>exact⟨x,rfl,h⟩
theorem aQ{α:Type}{o:Option α}{K:α->Prop}{p:Prop}(h:ok o K)(f:∀x,o=some x->K x->p):p:=by
 cases o with
 |none=>exact h.elim
 |some x=>exact f x rfl h
noncomputable def mq(H:Hp):V->Option D
 |.d x=>some x
 |.el=>some (.list [])
 |.r n=>match H[n]? with
  |some (some (.dlist ds))=>some (.list ds)
  |some (some (.list []))=>some (.list [])
  |_=>none
 |_=>none
noncomputable def cz(H:Hp):List V->Option (List D)
 |[]=>some []
 |v::vs=>(mq H v).bind fun d=>(cz H vs).map (d::·)
noncomputable def dZ:List V->Option (List D)
 |[]=>some []
 |.d x::vs=>(dZ vs).map (x::·)
 |.el::vs=>(dZ vs).map (.list []::·)
 |_=>none
noncomputable def ej(T:aW)(H:Hp)(o:V)(a:Nat):Option V:=match o with
 |.r n=>match H[n]? with
  |some (some (.inst C fs))=>match lk a fs with
   |some x=>match eK x with
    |true=>some x
    |false=>none
   |none=>match T.meth C a with
    |some f=>some (.m f n)
    |none=>(T.cat C a).map (·.2)
  |_=>none
 |_=>none
noncomputable def dp(T:aW)(H:Hp)(o:V)(a:Nat):Option (Addr×Nat):=match o with
 |.r n=>match H[n]? with
  |some (some (.inst C fs))=>match lk a fs with
   |some (.m f k)=>if T.fn f=true then some (f,k) else none
   |some _=>none
   |none=>(T.meth C a).map fun f=>(f,n)
  |_=>none
 |_=>none
noncomputable def cJ(H:Hp):V->Bool
 |.r n=>match H[n]? with
  |some (some (.list _))=>true
  |some (some (.dlist _))=>true
  |_=>false
 |_=>false
noncomputable def cellOf(H:Hp):V->Option (Nat×Cell)
 |.r n=>match H[n]? with
  |some (some cl)=>some (n,cl)
  |_=>none
 |_=>none
noncomputable def RU:V->Option Int
 |.d (.int i)=>some i
 |_=>none
noncomputable def xz:V->Option (Option Int)
 |.d (.int i)=>some (some i)
 |_=>none
noncomputable def JY:V->Option Value
 |.g f=>some f
 |_=>none
noncomputable def X.isNon(x:X):Bool:=x.ctorIdx==32
def tC(b:Bool)(w:aD->Hp->(SV)->Prop)(m:aD)(H:Hp)(Q:Option Int->Hp->Prop):Prop:=match b with
 |true=>Q none H
 |false=>w m H fun v H1=>ok (xz v) fun i=>Q i H1
def ER(b:Bool)(w:aD->Hp->(SV)->Prop)(m:aD)(H:Hp)(Q:Bool->Hp->Prop):Prop:=match b with
 |true=>Q true H
 |false=>w m H fun v H1=>ok (aN H1 v) fun b=>Q b H1
def ee(b:Bool)(wt we:aD->Hp->(SV)->Prop)(i:Nat)(x:V)(acc:List D)(H:Hp)(K:List D->Hp->Prop):Prop:=
 ER b wt [(i,x)] H fun b H1=>if b=true then we [(i,x)] H1 fun v H2=>∃d,v=.d d/\acc.length<=16777215/\K (acc++[d]) H2 else K acc H1
def SP(step:V->List D->Hp->(List D->Hp->Prop)->Prop)(Q:SV)(v:V)(H1:Hp):Prop:=match v with
 |.d x=>ok (b8 x) fun ds=>dY step (ds.map .d) [] H1 fun acc H2=>Q (.d (.list acc)) H2
 |_=>False
noncomputable def Mi:List V->Option (SQ)
 |[.d (.str x)]=>some x.l
 |_=>none
def H6(wt:aD->Hp->(Bool->Hp->Prop)->Prop)(we:aD->Hp->(SV)->Prop)(i j:Nat)(k ch:Nat)(acc:List PyData)(H:Hp)(K:List PyData->Hp->Prop):Prop:=
 wt [(i,.d (.int k)),(j,.d (st [ch]))] H fun z H1=>if z=true then we [(i,.d (.int k)),(j,.d (st [ch]))] H1 fun v H2=>∃d,v=.d d/\acc.length<=16777215/\K (acc++[d]) H2 else K acc H1
def ME(step:Nat->Nat->List PyData->Hp->(List PyData->Hp->Prop)->Prop)(Q:List PyData->Hp->Prop):SQ->Nat->List PyData->Hp->Prop
 |[],_,acc,H=>Q acc H
 |ch::r,k,acc,H=>step k ch acc H fun acc' H'=>ME step Q r (k+1) acc' H'
noncomputable def GX:V->Bool
 |.el=>true
 |.d (.list [])=>true
 |.d (.dict [])=>true
 |_=>false
mutual
def wX(c:Cx)(T:aW)(r:Nat):X->aD->Hp->(SV)->Prop
 |.c d,_,H,Q=>Q (.d d) H
 |.v i,m,H,Q=>ok (lk i m) fun x=>Q x H
 |.g k,_,H,Q=>ok T.gl[k]? fun x=>Q x H
 |.at e a,m,H,Q=>wX c T r e m H fun o H1=>ok (ej T H1 o a) fun x=>Q x H1
 |.ix e i,m,H,Q=>wX c T r e m H fun o H1=>wX c T r i m H1 fun j H2=>ok (uO T H2 o j) fun x=>Q x H2
 |.sl e lo hi,m,H,Q=>wX c T r e m H fun o H1=>tC lo.isNon (wX c T r lo) m H1 fun l H2=>tC hi.isNon (wX c T r hi) m H2 fun u H3=>match o with
  |.d x=>ok (EN x l u) fun z=>Q (.d z) H3
  |_=>False
 |.bin o a b,m,H,Q=>wX c T r a m H fun x H1=>wX c T r b m H1 fun y H2=>match x,y with
  |.d x,.d y=>ok (fS o x y) fun z=>Q (.d z) H2
  |_,_=>False
 |.cmp a o b,m,H,Q=>wX c T r a m H fun x H1=>wX c T r b m H1 fun y H2=>ok (cw T H2 o x y) fun z=>Q (.d (.bool z)) H2
 |.cmp2 a o1 e o2 b,m,H,Q=>wX c T r a m H fun x H1=>wX c T r e m H1 fun y H2=>ok (cw T H2 o1 x y) fun z=>
   if z=true then wX c T r b m H2 fun u H3=>ok (cw T H3 o2 y u) fun z2=>Q (.d (.bool z2)) H3 else Q (.d (.bool false)) H2
 |.and a b,m,H,Q=>wX c T r a m H fun x H1=>ok (aN H1 x) fun t=>if t=true then wX c T r b m H1 Q else Q x H1
 |.or a b,m,H,Q=>wX c T r a m H fun x H1=>ok (aN H1 x) fun t=>if t=true then Q x H1 else wX c T r b m H1 Q
 |.not e,m,H,Q=>wX c T r e m H fun x H1=>ok (aN H1 x) fun t=>Q (.d (.bool !t)) H1
 |.neg e,m,H,Q=>wX c T r e m H fun x H1=>match x with
  |.d (.int i)=>Q (.d (.int (-i))) H1
  |_=>False
 |.ife t a b,m,H,Q=>wX c T r t m H fun x H1=>ok (aN H1 x) fun t=>if t=true then wX c T r a m H1 Q else wX c T r b m H1 Q
 |.tup es,m,H,Q=>kY c T r es m H fun vs H1=>ok (dZ vs) fun ds=>ds.length<=16777216/\Q (.d (.tuple ds)) H1
 |.lst mu es,m,H,Q=>kY c T r es m H fun vs H1=>match mu with
  |0=>ok (dZ vs) fun ds=>ds.length<=16777216/\Q (.d (.list ds)) H1
  |1=>ok (dZ vs) fun ds=>ds.length<=16777216/\Q (.r H1.length) (H1++[some (.dlist ds)])
  |_=>vs.length<=16777216/\Q (.r H1.length) (H1++[some (.list vs)])
 |.dct ks es,m,H,Q=>kY c T r es m (H++[some (.dict [])]) fun vs H1=>H1[H.length]?=some (some (.dict []))/\((ks.zip vs).map (·.1)).Nodup/\(ks.zip vs).length<=900/\Q (.r H.length) (H1.set H.length (some (.dict (ks.zip vs))))
 |.comp elt i it t,m,H,Q=>wX c T r it m H fun v H1=>SP (ee t.isNon (wX c T r t) (wX c T r elt) i) Q v H1
 |.f i,_,H,Q=>ok (lP i c.fr) fun p=>Q (.d p.2) H
 |.compE fs elt i j es t,m,H,Q=>(fs.all fun k=>(lP k c.fr).isSome)=true/\kY c T r es m H fun vs H1=>ok (Mi vs) fun x=>ME (H6 (fun m H K=>wX c T r t m H fun v H1=>ok (aN H1 v) fun z=>K z H1) (wX c T r elt) i j) (fun acc H2=>Q (.d (.list acc)) H2) x 0 [] H1
 |.bi b es,m,H,Q=>kY c T r es m H fun vs H1=>ok (cz H1 vs) fun ds=>ok (mw b ds) fun z=>Q (.d z) H1
 |.bm b o es,m,H,Q=>wX c T r o m H fun ov H1=>match ov with
  |.d (.str x)=>kY c T r es m H1 fun vs H2=>ok (cz H2 vs) fun ds=>ok (mw b (.str x::ds)) fun z=>Q (.d z) H2
  |_=>False
 |.repl o y z,m,H,Q=>wX c T r o m H fun ov H1=>match ov with
  |.d (.str x)=>x.l.length+(x.l.length+1) * z.length<=16777216/\Q (.d (st (bU x.l y z))) H1
  |_=>False
 |.app o e,m,H,Q=>wX c T r o m H fun ov H1=>cJ H1 ov=true/\wX c T r e m H1 fun v H2=>ok (cellOf H2 ov) fun p=>ok (mn p.2 v) fun cl=>Q (.d .none) (H2.set p.1 (some cl))
 |.pop o z,m,H,Q=>wX c T r o m H fun ov H1=>ok (cellOf H1 ov) fun p=>ok (nI z p.2) fun y=>Q y.1 (H1.set p.1 (some y.2))
 |.cemp _ _ it,m,H,Q=>wX c T r it m H fun v H1=>GX v=true/\Q (.d (.list [])) H1
 |.call k es,m,H,Q=>ok (T.gl[k]?.bind JY) fun f=>kY c T r es m H fun vs H1=>SemCall c r f vs H1 Q
 |.mc o a es,m,H,Q=>wX c T r o m H fun ov H1=>ok (dp T H1 ov a) fun p=>kY c T r es m H1 fun vs H2=>SemCall c r (.ref p.1) (.r p.2::vs) H2 Q
 |.nl,_,H,Q=>Q .el H
 |.dic e,m,H,Q=>wX c T r e m H fun v H1=>v=.el/\Q (.d (.dict [])) H1
 |.nil,_,_,_=>False
 |.cons _ _,_,_,_=>False
 |.non,_,_,_=>False
termination_by structural x=>x
def kY(c:Cx)(T:aW)(r:Nat):X->aD->Hp->(List V->Hp->Prop)->Prop
 |.nil,_,H,Q=>Q [] H
 |.cons e es,m,H,Q=>wX c T r e m H fun v H1=>kY c T r es m H1 fun vs H2=>Q (v::vs) H2
 |_,_,_,_=>False
termination_by structural x=>x
end
example (c:Cx) (T:aW) (H:Hp) (Q:SV):wX c T 0 (.v 0) [(0,.d .none)] H Q=Q (.d .none) H:=rfl
noncomputable def b0(T:aW)(i:Nat)(x:Str):Bool:=match T.nms[i]? with|some l=>x.l==l|none=>false
noncomputable def uz(T:aW)(k:Nat)(x:Str):Bool:=match T.gnm[k]? with|some l=>x.l==l|none=>false
noncomputable def a5(sc:Scope)(x:Str)(k:NameKind):Bool:=match sc.names.lookup x with|some k'=>k'==k|none=>false
noncomputable def ck(x:Str):Bool:=!(x==("__debug__":Str))
noncomputable def rV:Const->D->Bool
 |.none,.none=>true
 |.bool a,.bool b=>a==b
 |.int a,.int b=>a==b
 |.str x,.str y=>x.l==y.l&&eU x.l
 |_,_=>false
noncomputable def dr:Bi->Str
 |.len => "len" |.ord => "ord" |.chr => "chr" |_ => "range"
noncomputable def qP:Bi->Bool
 |.len|.ord|.chr=>true
 |_=>false
noncomputable def rc(o:e7)(o':Operator):Bool:=decide (nF o=o')
noncomputable def je(o:eY)(o':CmpOp):Bool:=decide (jL o=o')
noncomputable def iQ:SQ->Bool
 |[]=>true
 |x::r=>!r.contains x&&iQ r
noncomputable def mB(T:aW)(scope:Scope)(i:Nat)(xn:Str):Bool:=
 (b0 T i xn&&!T.fl)&&(match scope.kind with|.function=>true|_=>false)&&scope.names.all (fun y=>(match y.2 with|.free=>false|.cell=>false|_=>true)&&(match y.2 with|.local=>a5 scope y.1 .local|_=>true))&&a5 scope xn .local
noncomputable def fy(scope sc:Scope):Scope:={ scope with names:=scope.names.map fun (n,k)=>if (k==.free&&sc.kind==.function&&sc.names.lookup n==some .cell) then (n,.cell) else (n,k) }
noncomputable def jr(T:aW)(sc scope:Scope)(fs:SQ)(i:Nat)(xn:Str):Bool:=
 (b0 T i xn&&!T.fl)&&(match scope.kind with|.function=>true|_=>false)&&scope.names.all (fun y=>match y.2 with|.cell=>false|.free=>(sc.names.lookup y.1).any cI&&fs.any (fun j=>b0 T j y.1)|.local=>a5 scope y.1 .local|_=>true)&&a5 scope xn .local
noncomputable def jq(T:aW)(sc scope:Scope)(fs:SQ)(i:Nat)(xn:Str):Bool:=
 b0 T i xn&&(match scope.kind with|.function=>true|_=>false)&&scope.names.all (fun y=>match y.2 with|.cell=>false|.free=>T.fl&&a5 sc y.1 .cell&&fs.any (fun j=>b0 T j y.1)|.local=>a5 scope y.1 .local|_=>true)&&a5 scope xn .local
noncomputable def fq(args:List Expr)(apos pos:Pos):Bool:=decide (args.length<20)&&(apos.endLine==pos.line)
noncomputable def dj(b:Bool)(w:Expr->Bool):Option Expr->Bool
 |none=>b
 |some e=>!b&&w e
noncomputable def gz(b:Bool)(w:Expr->Bool):List Expr->Bool
 |[]=>b
 |[e]=>!b&&w e
 |_=>false
noncomputable def fP(f:Const->Bool)(e:Expr):Bool:=if h:e.ctorIdx=19 then Expr.Constant.elim (motive_1:=fun _=>Bool) e h fun k _ _=>f k else false
noncomputable def cK(f:Str->Bool)(e:Expr):Bool:=if h:e.ctorIdx=23 then Expr.Name.elim (motive_1:=fun _=>Bool) e h fun x _=>f x else false
noncomputable def gf(f:Expr->Str->Pos->Bool)(e:Expr):Bool:=if h:e.ctorIdx=20 then Expr.Attribute.elim (motive_1:=fun _=>Bool) e h fun a x p=>f a x p else false
noncomputable def lX(f:Expr->Expr->Bool)(e:Expr):Bool:=if h:e.ctorIdx=21 then Expr.Subscript.elim (motive_1:=fun _=>Bool) e h fun a i _=>f a i else false
noncomputable def nw(f:Option Expr->Option Expr->Option Expr->Bool)(e:Expr):Bool:=if h:e.ctorIdx=26 then Expr.Slice.elim (motive_1:=fun _=>Bool) e h fun l u s _=>f l u s else false
noncomputable def yx(f:Expr->Operator->Expr->Bool)(e:Expr):Bool:=if h:e.ctorIdx=2 then Expr.BinOp.elim (motive_1:=fun _=>Bool) e h fun a o b _=>f a o b else false
noncomputable def sR(f:Expr->List CmpOp->List Expr->Bool)(e:Expr):Bool:=if h:e.ctorIdx=15 then Expr.Compare.elim (motive_1:=fun _=>Bool) e h fun a os bs _=>f a os bs else false
noncomputable def nr(f:BoolOp->List Expr->Pos->Bool)(e:Expr):Bool:=if h:e.ctorIdx=0 then Expr.BoolOp.elim (motive_1:=fun _=>Bool) e h fun o vs p=>f o vs p else false
noncomputable def CN(f:UnaryOp->Expr->Bool)(e:Expr):Bool:=if h:e.ctorIdx=3 then Expr.UnaryOp.elim (motive_1:=fun _=>Bool) e h fun o a _=>f o a else false
noncomputable def yF(f:Expr->Expr->Expr->Bool)(e:Expr):Bool:=if h:e.ctorIdx=5 then Expr.IfExp.elim (motive_1:=fun _=>Bool) e h fun t a b _=>f t a b else false
noncomputable def pJ(f:List Expr->Bool)(e:Expr):Bool:=if h:e.ctorIdx=25 then Expr.Tuple.elim (motive_1:=fun _=>Bool) e h fun es _ _=>f es else false
noncomputable def sX(f:List Expr->Bool)(e:Expr):Bool:=if h:e.ctorIdx=24 then Expr.List.elim (motive_1:=fun _=>Bool) e h fun es _=>f es else false
noncomputable def yz(f:List (Option Expr)->List Expr->Bool)(e:Expr):Bool:=if h:e.ctorIdx=6 then Expr.Dict.elim (motive_1:=fun _=>Bool) e h fun ks es _=>f ks es else false
noncomputable def iT(f:Expr->List Comprehension->Scope->Bool)(e:Expr):Bool:=if h:e.ctorIdx=8 then Expr.ListComp.elim (motive_1:=fun _=>Bool) e h fun a gs sc _=>f a gs sc else false
noncomputable def kz(f:Expr->List Expr->List Keyword->Pos->Bool)(e:Expr):Bool:=if h:e.ctorIdx=16 then Expr.Call.elim (motive_1:=fun _=>Bool) e h fun g as ks p=>f g as ks p else false
noncomputable def b6(e:Expr):Bool:=!(e.ctorIdx==16)||kz (fun g _ _ _=>gf (fun _ _ _=>true) g) e
noncomputable def fu(e:Expr):Bool:=!(e.ctorIdx==7||e.ctorIdx==22||e.ctorIdx==26)
noncomputable def yA(f:Str->List Expr->Bool):Expr->Bool:=kz fun g as ks _=>ks.isEmpty&&cK (fun x=>f x as) g
noncomputable def iU(f:Expr->Str->Pos->List Expr->Pos->Bool):Expr->Bool:=kz fun g as ks p=>ks.isEmpty&&gf (fun a x q=>f a x q as p) g
noncomputable def qu(w1 w2:Expr->Bool)(k:List Expr->Expr):List Expr->Bool
 |[a',b']=>w1 a'&&w2 b'
 |a'::b'::b''::r=>w1 a'&&w2 (k (b'::b''::r))
 |_=>false
noncomputable def em{α:Type}(w:α->Bool):List α->Bool
 |[a]=>w a
 |_=>false
noncomputable def jh{α:Type}(w:α->α->Bool):List α->Bool
 |[a,b]=>w a b
 |_=>false
noncomputable def yD(f:Str->Str->Expr->List Expr->Bool)(g:Comprehension):Bool:=(g.is_async==0)&&pJ (jh fun a b=>cK (fun x=>cK (fun y=>f x y g.iter g.ifs) b) a) g.target
noncomputable def yC(f:Str->Expr->List Expr->Bool)(g:Comprehension):Bool:=(g.is_async==0)&&cK (fun x=>f x g.iter g.ifs) g.target
noncomputable def yJ(f:Str->Bool):Expr->Bool:=fP fun k=>match k with
 |.str x=>f x
 |_=>false
noncomputable def Ed(T:aW)(i:Nat)(o:Option Expr):Bool:=o.any (yJ (b0 T i))
noncomputable def m6(T:aW):SQ->List (Option Expr)->Bool
 |[],[]=>true
 |i::ks,e::es=>Ed T i e&&m6 T ks es
 |_,_=>false
noncomputable def xG:Expr->Bool:=fP fun k=>match k with
 |.int i=>i==0
 |_=>false
noncomputable def EE(z:Bool)(as:List Expr):Bool:=match z with
 |true=>em xG as
 |false=>as.isEmpty
noncomputable def isStr(y:SQ):Expr->Bool:=yJ fun x=>x.l==y
noncomputable def Nt(b:Bi)(x:Str):Bool:=(qp b).any fun nm=>x==nm
mutual
noncomputable def aC(T:aW)(sc:Scope):X->Expr->Bool
 |.c d,e=>fP (fun k=>rV k d) e
 |.v i,e=>cK (fun x=>b0 T i x&&(a5 sc x .local||(T.fl&&a5 sc x .cell))&&ck x) e
 |.g k,e=>cK (fun x=>uz T k x&&a5 sc x .globalImplicit&&ck x) e
 |.at a i,e=>gf (fun b x _=>aC T sc a b&&b0 T i x&&b6 b) e
 |.ix a i,e=>lX (fun b j=>fu j&&aC T sc a b&&aC T sc i j) e
 |.sl a lo hi,e=>lX (fun b j=>nw (fun l u s=>s.isNone&&aC T sc a b&&dj lo.isNon (aC T sc lo) l&&dj hi.isNon (aC T sc hi) u) j) e
 |.bin o a b,e=>yx (fun a' o' b'=>rc o o'&&aC T sc a a'&&aC T sc b b') e
 |.cmp a o b,e=>sR (fun a' os bs=>em (fun o'=>em (fun b'=>je o o'&&fu b'&&aC T sc a a'&&aC T sc b b') bs) os) e
 |.cmp2 a o1 x o2 b,e=>sR (fun a' os bs=>jh (fun p q=>jh (fun y z=>je o1 p&&(fu y&&fu z)&&je o2 q&&aC T sc a a'&&aC T sc x y&&aC T sc b z) bs) os) e
 |.and a b,e=>nr (fun o vs p=>(match o with|.And=>true|_=>false)&&qu (aC T sc a) (aC T sc b) (fun vs=>.BoolOp .And vs p) vs) e
 |.or a b,e=>nr (fun o vs p=>(match o with|.Or=>true|_=>false)&&qu (aC T sc a) (aC T sc b) (fun vs=>.BoolOp .Or vs p) vs) e
 |.not a,e=>CN (fun o a'=>(match o with|.Not=>true|_=>false)&&aC T sc a a') e
 |.neg a,e=>CN (fun o a'=>(match o with|.USub=>true|_=>false)&&aC T sc a a') e
 |.ife t a b,e=>yF (fun t' a' b'=>aC T sc t t'&&aC T sc a a'&&aC T sc b b') e
 |.tup es,e=>pJ (bz T sc es) e
 |.lst _ es,e=>sX (bz T sc es) e
 |.dct ks es,e=>yz (fun ks' es'=>m6 T ks ks'&&iQ ks&&bz T sc es es'&&decide (ks.length<=15)&&!ks.isEmpty&&(ks.length==es'.length)) e
 |.comp elt i it t,e=>iT (fun elt' gs scope=>em (yC fun x it' ts=>mB T scope i x&&(fu it'&&aC T sc it it')&&aC T (fy scope sc) elt elt'&&gz t.isNon (aC T (fy scope sc) t) ts) gs) e
 |.f i,e=>cK (fun x=>b0 T i x&&(sc.names.lookup x).any cI&&ck x&&!(x==("__classdict__":Str))) e
 |.compE fs elt i j es t,e=>iT (fun elt' gs scope=>em (yD fun x y it' ts=>yA (fun f as=>jr T sc scope fs i x&&(b0 T j y&&a5 scope y .local&&!(i==j))&&(f==("enumerate":Str))&&a5 sc f .globalImplicit&&(bz T sc es as&&aC T (fy scope sc) elt elt'&&em (fun t'=>aC T (fy scope sc) t t') ts)) it') gs) e
 |.bi b es,e=>yA (fun x as=>qP b&&(x==dr b)&&a5 sc x .globalImplicit&&bz T sc es as) e
 |.bm b o es,e=>iU (fun o' x ap as p=>Nt b x&&aC T sc o o'&&b6 o'&&fq as ap p&&bz T sc es as) e
 |.repl o y z,e=>iU (fun o' x ap as p=>(x==("replace":Str))&&aC T sc o o'&&b6 o'&&(ap.endLine==p.line)&&eU z&&!(y==z)&&jh (fun a b=>isStr y a&&isStr z b) as) e
 |.app o a,e=>iU (fun o' x ap as p=>(x==("append":Str))&&aC T sc o o'&&b6 o'&&(ap.endLine==p.line)&&em (fun a'=>fu a'&&aC T sc a a') as) e
 |.pop o z,e=>iU (fun o' x ap as p=>(x==("pop":Str))&&aC T sc o o'&&b6 o'&&(ap.endLine==p.line)&&EE z as) e
 |.cemp fs i it,e=>iT (fun _ gs scope=>em (yC fun x it' _=>jq T sc scope fs i x&&(fu it'&&aC T sc it it')) gs) e
 |.call k es,e=>yA (fun x as=>uz T k x&&a5 sc x .globalImplicit&&ck x&&T.kp k&&bz T sc es as) e
 |.mc o a es,e=>iU (fun o' x ap as p=>b0 T a x&&aC T sc o o'&&b6 o'&&fq as ap p&&bz T sc es as) e
 |.nl,e=>sX (fun es=>es.isEmpty) e
 |.dic a,e=>yA (fun x as=>(x==("dict":Str))&&a5 sc x .globalImplicit&&em (fun a'=>fu a'&&aC T sc a a') as) e
 |_,_=>false
termination_by structural x=>x
noncomputable def bz(T:aW)(sc:Scope):X->List Expr->Bool
 |.nil,[]=>true
 |.cons e es,e'::es'=>fu e'&&(aC T sc e e'&&bz T sc es es')
 |_,_=>false
termination_by structural x=>x
end
theorem qm{a b c:Bool}(h:(a&&b&&c)=true):a=true/\b=true/\c=true:=⟨(ay (ay h).1).1,(ay (ay h).1).2,(ay h).2⟩
theorem om{a b c d:Bool}(h:(a&&b&&c&&d)=true):a=true/\b=true/\c=true/\d=true:=⟨(qm (ay h).1).1,(qm (ay h).1).2.1,(qm (ay h).1).2.2,(ay h).2⟩
theorem vY{a b c d e:Bool}(h:(a&&b&&c&&d&&e)=true):a=true/\b=true/\c=true/\d=true/\e=true:=⟨(om (ay h).1).1,(om (ay h).1).2.1,(om (ay h).1).2.2.1,(om (ay h).1).2.2.2,(ay h).2⟩
theorem eO{a b c:Bool}{p:Prop}(h:(a&&b&&c)=true)(k:a=true->b=true->c=true->p):p:=k (qm h).1 (qm h).2.1 (qm h).2.2
theorem d8{a b c d:Bool}{p:Prop}(h:(a&&b&&c&&d)=true)(k:a=true->b=true->c=true->d=true->p):p:=k (om h).1 (om h).2.1 (om h).2.2.1 (om h).2.2.2
theorem gr{a b c d e:Bool}{p:Prop}(h:(a&&b&&c&&d&&e)=true)(k:a=true->b=true->c=true->d=true->e=true->p):p:=k (vY h).1 (vY h).2.1 (vY h).2.2.1 (vY h).2.2.2.1 (vY h).2.2.2.2
@[elab_as_elim] theorem fw{f:Const->Bool}{C:Expr->Prop}{e:Expr}(h:fP f e=true)(k:∀k n p,f k=true->C (.Constant k n p)):C e:=by
 by_cases hi:e.ctorIdx=19
 ·exact Expr.Constant.elim (motive_1:=fun e=>fP f e=true->C e) e hi k h
 ·exact nof2 ((dif_neg hi).symm.trans h)
@[elab_as_elim] theorem bT{f:Str->Bool}{C:Expr->Prop}{e:Expr}(h:cK f e=true)(k:∀x p,f x=true->C (.Name x p)):C e:=by
 by_cases hi:e.ctorIdx=23
 ·exact Expr.Name.elim (motive_1:=fun e=>cK f e=true->C e) e hi k h
 ·exact nof2 ((dif_neg hi).symm.trans h)
@[elab_as_elim] theorem eJ{f:Expr->Str->Pos->Bool}{C:Expr->Prop}{e:Expr}(h:gf f e=true)(k:∀a x p,f a x p=true->C (.Attribute a x p)):C e:=by
 by_cases hi:e.ctorIdx=20
 ·exact Expr.Attribute.elim (motive_1:=fun e=>gf f e=true->C e) e hi k h
 ·exact nof2 ((dif_neg hi).symm.trans h)
@[elab_as_elim] theorem iV{f:Expr->Expr->Bool}{C:Expr->Prop}{e:Expr}(h:lX f e=true)(k:∀a i p,f a i=true->C (.Subscript a i p)):C e:=by
 by_cases hi:e.ctorIdx=21
 ·exact Expr.Subscript.elim (motive_1:=fun e=>lX f e=true->C e) e hi k h
 ·exact nof2 ((dif_neg hi).symm.trans h)
@[elab_as_elim] theorem yI{f:Option Expr->Option Expr->Option Expr->Bool}{C:Expr->Prop}{e:Expr}(h:nw f e=true)(k:∀l u s p,f l u s=true->C (.Slice l u s p)):C e:=by
 by_cases hi:e.ctorIdx=26
 ·exact Expr.Slice.elim (motive_1:=fun e=>nw f e=true->C e) e hi k h
 ·exact nof2 ((dif_neg hi).symm.trans h)
@[elab_as_elim] theorem G8{f:Expr->Operator->Expr->Bool}{C:Expr->Prop}{e:Expr}(h:yx f e=true)(k:∀a o b p,f a o b=true->C (.BinOp a o b p)):C e:=by
 by_cases hi:e.ctorIdx=2
 ·exact Expr.BinOp.elim (motive_1:=fun e=>yx f e=true->C e) e hi k h
 ·exact nof2 ((dif_neg hi).symm.trans h)
@[elab_as_elim] theorem yy{f:Expr->List CmpOp->List Expr->Bool}{C:Expr->Prop}{e:Expr}(h:sR f e=true)(k:∀a os bs p,f a os bs=true->C (.Compare a os bs p)):C e:=by
 by_cases hi:e.ctorIdx=15
 ·exact Expr.Compare.elim (motive_1:=fun e=>sR f e=true->C e) e hi k h
 ·exact nof2 ((dif_neg hi).symm.trans h)
@[elab_as_elim] theorem sQ{f:BoolOp->List Expr->Pos->Bool}{C:Expr->Prop}{e:Expr}(h:nr f e=true)(k:∀o vs p,f o vs p=true->C (.BoolOp o vs p)):C e:=by
 by_cases hi:e.ctorIdx=0
 ·exact Expr.BoolOp.elim (motive_1:=fun e=>nr f e=true->C e) e hi k h
 ·exact nof2 ((dif_neg hi).symm.trans h)
@[elab_as_elim] theorem Es{f:UnaryOp->Expr->Bool}{C:Expr->Prop}{e:Expr}(h:CN f e=true)(k:∀o a p,f o a=true->C (.UnaryOp o a p)):C e:=by
 by_cases hi:e.ctorIdx=3
 ·exact Expr.UnaryOp.elim (motive_1:=fun e=>CN f e=true->C e) e hi k h
 ·exact nof2 ((dif_neg hi).symm.trans h)
@[elab_as_elim] theorem Hb{f:Expr->Expr->Expr->Bool}{C:Expr->Prop}{e:Expr}(h:yF f e=true)(k:∀t a b p,f t a b=true->C (.IfExp t a b p)):C e:=by
 by_cases hi:e.ctorIdx=5
 ·exact Expr.IfExp.elim (motive_1:=fun e=>yF f e=true->C e) e hi k h
 ·exact nof2 ((dif_neg hi).symm.trans h)
@[elab_as_elim] theorem iW{f:List Expr->Bool}{C:Expr->Prop}{e:Expr}(h:pJ f e=true)(k:∀es k p,f es=true->C (.Tuple es k p)):C e:=by
 by_cases hi:e.ctorIdx=25
 ·exact Expr.Tuple.elim (motive_1:=fun e=>pJ f e=true->C e) e hi k h
 ·exact nof2 ((dif_neg hi).symm.trans h)
@[elab_as_elim] theorem q9{f:List Expr->Bool}{C:Expr->Prop}{e:Expr}(h:sX f e=true)(k:∀es p,f es=true->C (.List es p)):C e:=by
 by_cases hi:e.ctorIdx=24
 ·exact Expr.List.elim (motive_1:=fun e=>sX f e=true->C e) e hi k h
 ·exact nof2 ((dif_neg hi).symm.trans h)
@[elab_as_elim] theorem G9{f:List (Option Expr)->List Expr->Bool}{C:Expr->Prop}{e:Expr}(h:yz f e=true)(k:∀ks es p,f ks es=true->C (.Dict ks es p)):C e:=by
 by_cases hi:e.ctorIdx=6
 ·exact Expr.Dict.elim (motive_1:=fun e=>yz f e=true->C e) e hi k h
 ·exact nof2 ((dif_neg hi).symm.trans h)
@[elab_as_elim] theorem nu{f:Expr->List Comprehension->Scope->Bool}{C:Expr->Prop}{e:Expr}(h:iT f e=true)(k:∀a gs sc p,f a gs sc=true->C (.ListComp a gs sc p)):C e:=by
 by_cases hi:e.ctorIdx=8
 ·exact Expr.ListComp.elim (motive_1:=fun e=>iT f e=true->C e) e hi k h
 ·exact nof2 ((dif_neg hi).symm.trans h)
@[elab_as_elim] theorem nt{f:Expr->List Expr->List Keyword->Pos->Bool}{C:Expr->Prop}{e:Expr}(h:kz f e=true)(k:∀g as ks p,f g as ks p=true->C (.Call g as ks p)):C e:=by
 by_cases hi:e.ctorIdx=16
 ·exact Expr.Call.elim (motive_1:=fun e=>kz f e=true->C e) e hi k h
 ·exact nof2 ((dif_neg hi).symm.trans h)
@[elab_as_elim] theorem sU{f:Str->List Expr->Bool}{C:Expr->Prop}{e:Expr}(h:yA f e=true)(k:∀x p as pos,f x as=true->C (.Call (.Name x p) as [] pos)):C e:=
 nt h fun g as ks p h=>aS h fun h1 h2=>(List.isEmpty_iff.mp h1)▸bT (C:=fun g=>C (.Call g as [] p)) h2 fun x q h=>k x q as p h
@[elab_as_elim] theorem g7{f:Expr->Str->Pos->List Expr->Pos->Bool}{C:Expr->Prop}{e:Expr}(h:iU f e=true)(k:∀a x q as p,f a x q as p=true->C (.Call (.Attribute a x q) as [] p)):C e:=
 nt h fun g as ks p h=>aS h fun h1 h2=>(List.isEmpty_iff.mp h1)▸eJ (C:=fun g=>C (.Call g as [] p)) h2 fun a x q h=>k a x q as p h
theorem dc{α:Type}{w:α->Bool}{C:List α->Prop}{l:List α}(h:em w l=true)(k:∀a,w a=true->C [a]):C l:=by
 rcases l with _|⟨x,_|⟨y,r⟩⟩
 ·exact nof2 h
 ·exact k x h
 ·exact nof2 h
theorem ny{α:Type}{w:α->α->Bool}{C:List α->Prop}{l:List α}(h:jh w l=true)(k:∀a b,w a b=true->C [a,b]):C l:=by
 rcases l with _|⟨x,_|⟨y,_|⟨z,r⟩⟩⟩
 ·exact nof2 h
 ·exact nof2 h
 ·exact k x y h
 ·exact nof2 h
@[elab_as_elim] theorem CM{f:Str->Str->Expr->List Expr->Bool}{C:Comprehension->Prop}{g:Comprehension}(h:yD f g=true)(k:∀x px y py kk tp it ts,f x y it ts=true->C ⟨.Tuple [.Name x px,.Name y py] kk tp,it,ts,0⟩):C g:=by
 obtain⟨tg,it,ts,as⟩:=g
 refine aS h fun h1 h2=>?_
 obtain rfl:as=0:=eq_of_beq h1
 exact iW (C:=fun tg=>C ⟨tg,it,ts,0⟩) h2 fun es kk tp h=>ny (C:=fun es=>C ⟨.Tuple es kk tp,it,ts,0⟩) h fun a b h=>
  bT (C:=fun a=>C ⟨.Tuple [a,b] kk tp,it,ts,0⟩) h fun x px h=>bT (C:=fun b=>C ⟨.Tuple [.Name x px,b] kk tp,it,ts,0⟩) h fun y py h=>k x px y py kk tp it ts h
@[elab_as_elim] theorem yE{f:Str->Expr->List Expr->Bool}{C:Comprehension->Prop}{g:Comprehension}(h:yC f g=true)(k:∀x p it ts,f x it ts=true->C ⟨.Name x p,it,ts,0⟩):C g:=by
 cases g with
 |mk t it ts n=>exact aS h fun h1 h2=>by obtain rfl:=eq_of_beq h1;exact bT (C:=fun t=>C ⟨t,it,ts,0⟩) h2 fun x p h=>k x p it ts h
@[elab_as_elim] theorem yK{f:Str->Bool}{C:Expr->Prop}{e:Expr}(h:yJ f e=true)(k:∀x n p,f x=true->C (.Constant (.str x) n p)):C e:=
 fw h fun a n p h=>by cases a<;>first|exact k _ n p h|exact nof2 h
theorem xM{y:SQ}{C:Expr->Prop}{e:Expr}(h:isStr y e=true)(k:∀n p,C (.Constant (.str (Sl y)) n p)):C e:=
 yK h fun x n p h=>by obtain rfl:=eq_of_beq h;have:=k n p;rw[bW] at this;exact this
theorem rS{w1 w2:Expr->Bool}{g:List Expr->Expr}{C:List Expr->Prop}{vs:List Expr}(h:qu w1 w2 g vs=true)(k:∀a b r,w1 a=true->(r=[]/\w2 b=true\/r≠[]/\w2 (g (b::r))=true)->C (a::b::r)):C vs:=by
 rcases vs with _|⟨a',_|⟨b',_|⟨b'',r⟩⟩⟩
 ·exact nof2 h
 ·exact nof2 h
 ·exact k _ _ _ (ay h).1 (.inl ⟨rfl,(ay h).2⟩)
 ·exact k _ _ _ (ay h).1 (.inr ⟨nofun,(ay h).2⟩)
section
variable {T:aW}{sc:Scope}{e:Expr}{C:Expr->Prop}
@[elab_as_elim] theorem Lu{i:Nat}(hc:aC T sc (.v i) e=true)(k:∀x p,b0 T i x=true->(a5 sc x .local||(T.fl&&a5 sc x .cell))=true->ck x=true->C (.Name x p)):C e:=
 bT hc fun x p h=>eO h fun h1 h2 h3=>k x p h1 h2 h3
@[elab_as_elim] theorem Ls{j:Nat}(hc:aC T sc (.g j) e=true)(k:∀x p,uz T j x=true->a5 sc x .globalImplicit=true->ck x=true->C (.Name x p)):C e:=
 bT hc fun x p h=>eO h fun h1 h2 h3=>k x p h1 h2 h3
@[elab_as_elim] theorem Et{a:X}{i:Nat}(hc:aC T sc (.at a i) e=true)(k:∀e' x p,aC T sc a e'=true->b0 T i x=true->b6 e'=true->C (.Attribute e' x p)):C e:=
 eJ hc fun b x p h=>eO h fun h1 h2 h3=>k b x p h1 h2 h3
@[elab_as_elim] theorem Ex{a i:X}(hc:aC T sc (.ix a i) e=true)(k:∀e' i' p,fu i'=true->aC T sc a e'=true->aC T sc i i'=true->C (.Subscript e' i' p)):C e:=
 iV hc fun b j p h=>eO h fun h0 h1 h2=>k b j p h0 h1 h2
@[elab_as_elim] theorem EB{a lo hi:X}(hc:aC T sc (.sl a lo hi) e=true)(k:∀e' l u p q,aC T sc a e'=true->dj lo.isNon (aC T sc lo) l=true->dj hi.isNon (aC T sc hi) u=true->C (.Subscript e' (.Slice l u none p) q)):C e:=
 iV hc fun b j q h=>yI (C:=fun j=>C (.Subscript b j q)) h fun l u s p h=>d8 h fun h0 h1 h2 h3=>(Option.isNone_iff_eq_none.mp h0)▸k b l u p q h1 h2 h3
@[elab_as_elim] theorem yP{o:e7}{a b:X}(hc:aC T sc (.bin o a b) e=true)(k:∀a' o' b' p,rc o o'=true->aC T sc a a'=true->aC T sc b b'=true->C (.BinOp a' o' b' p)):C e:=
 G8 hc fun a' o' b' p h=>eO h fun h1 h2 h3=>k a' o' b' p h1 h2 h3
@[elab_as_elim] theorem yQ{o:eY}{a b:X}(hc:aC T sc (.cmp a o b) e=true)(k:∀a' o' b' p,je o o'=true->fu b'=true->aC T sc a a'=true->aC T sc b b'=true->C (.Compare a' [o'] [b'] p)):C e:=
 yy hc fun a' os bs p h=>dc (C:=fun os=>C (.Compare a' os bs p)) h fun o' h=>dc (C:=fun bs=>C (.Compare a' [o'] bs p)) h fun b' h=>d8 h fun h1 h0 h2 h3=>k a' o' b' p h1 h0 h2 h3
@[elab_as_elim] theorem ta{o1 o2:eY}{a m b:X}(hc:aC T sc (.cmp2 a o1 m o2 b) e=true)(k:∀a' m' b' o1' o2' p,je o1 o1'=true->(fu m'&&fu b')=true->je o2 o2'=true->aC T sc a a'=true->aC T sc m m'=true->aC T sc b b'=true->C (.Compare a' [o1',o2'] [m',b'] p)):C e:=
 yy hc fun a' os bs p h=>ny (C:=fun os=>C (.Compare a' os bs p)) h fun o1' o2' h=>ny (C:=fun bs=>C (.Compare a' [o1',o2'] bs p)) h fun m' b' h=>aS h fun h h5=>gr h fun h1 h0 h2 h3 h4=>k a' m' b' o1' o2' p h1 h0 h2 h3 h4 h5
@[elab_as_elim] theorem yN{a b:X}(hc:aC T sc (.and a b) e=true)(k:∀a' b' r p,aC T sc a a'=true->(r=[]/\aC T sc b b'=true\/r≠[]/\aC T sc b (.BoolOp .And (b'::r) p)=true)->C (.BoolOp .And (a'::b'::r) p)):C e:=
 sQ hc fun o vs p h=>aS h fun h1 h2=>by
  cases o with
  |And=>exact rS (C:=fun vs=>C (.BoolOp .And vs p)) h2 fun a' b' r h3 h4=>k a' b' r p h3 h4
  |Or=>exact nof2 h1
@[elab_as_elim] theorem EA{a b:X}(hc:aC T sc (.or a b) e=true)(k:∀a' b' r p,aC T sc a a'=true->(r=[]/\aC T sc b b'=true\/r≠[]/\aC T sc b (.BoolOp .Or (b'::r) p)=true)->C (.BoolOp .Or (a'::b'::r) p)):C e:=
 sQ hc fun o vs p h=>aS h fun h1 h2=>by
  cases o with
  |Or=>exact rS (C:=fun vs=>C (.BoolOp .Or vs p)) h2 fun a' b' r h3 h4=>k a' b' r p h3 h4
  |And=>exact nof2 h1
@[elab_as_elim] theorem yV{a:X}(hc:aC T sc (.not a) e=true)(k:∀a' p,aC T sc a a'=true->C (.UnaryOp .Not a' p)):C e:=
 Es hc fun o a' p h=>aS h fun h1 h2=>by cases o<;>first|exact nof2 h1|exact k a' p h2
@[elab_as_elim] theorem yU{a:X}(hc:aC T sc (.neg a) e=true)(k:∀a' p,aC T sc a a'=true->C (.UnaryOp .USub a' p)):C e:=
 Es hc fun o a' p h=>aS h fun h1 h2=>by cases o<;>first|exact nof2 h1|exact k a' p h2
@[elab_as_elim] theorem yT{t a b:X}(hc:aC T sc (.ife t a b) e=true)(k:∀t' a' b' p,aC T sc t t'=true->aC T sc a a'=true->aC T sc b b'=true->C (.IfExp t' a' b' p)):C e:=
 Hb hc fun t' a' b' p h=>eO h fun h1 h2 h3=>k t' a' b' p h1 h2 h3
@[elab_as_elim] theorem yR{ks:SQ}{es:X}(hc:aC T sc (.dct ks es) e=true)(k:∀ks' es' p,m6 T ks ks'=true->iQ ks=true->bz T sc es es'=true->ks.length<=15->ks≠[]->ks.length=es'.length->C (.Dict ks' es' p)):C e:=
 G9 hc fun ks' es' p h=>aS h fun h h6=>gr h fun h1 h2 h3 h4 h5=>k ks' es' p h1 h2 h3 (of_decide_eq_true h4) (fun q=>by subst q;exact nof2 h5) (eq_of_beq h6)
theorem BN{C:Expr->Prop}{e:Expr}(h:xG e=true)(k:∀n p,C (.Constant (.int 0) n p)):C e:=
 fw h fun c n p h=>by cases c<;>first|exact nof2 h|(rw[eq_of_beq h];exact k n p)
noncomputable def EF(z:Bool)(n:Nat)(p:Pos):List Expr:=match z with
 |true=>[.Constant (.int 0) n p]
 |false=>[]
theorem Hq{z:Bool}{C:List Expr->Prop}{as:List Expr}(h:EE z as=true)(k:∀n p,C (EF z n p)):C as:=by
 cases z with
 |true=>exact dc h fun a h=>BN (C:=fun a=>C [a]) h fun n p=>k n p
 |false=>rw[List.isEmpty_iff.mp h];exact k 0 default
@[elab_as_elim] theorem yW{o:X}{z:Bool}(hc:aC T sc (.pop o z) e=true)(k:∀o' n q apos pos,aC T sc o o'=true->b6 o'=true->(apos.endLine==pos.line)=true->C (.Call (.Attribute o' "pop" apos) (EF z n q) [] pos)):C e:=
 g7 hc fun o' x ap as p h=>gr h fun h1 h2 h3 h4 h5=>by rw[eq_of_beq h1];exact Hq (C:=fun as=>C (.Call (.Attribute o' "pop" ap) as [] p)) h5 fun n q=>k o' n q ap p h2 h3 h4
@[elab_as_elim] theorem s9{fs:SQ}{i:Nat}{it:X}(hc:aC T sc (.cemp fs i it) e=true)(k:∀elt' it' x px ts scope p,jq T sc scope fs i x=true->(fu it'&&aC T sc it it')=true->C (.ListComp elt' [⟨.Name x px,it',ts,0⟩] scope p)):C e:=
 nu hc fun elt' gs scope p h=>dc (C:=fun gs=>C (.ListComp elt' gs scope p)) h fun g h=>yE (C:=fun g=>C (.ListComp elt' [g] scope p)) h fun x px it' ts h=>aS h fun h1 h2=>k elt' it' x px ts scope p h1 h2
@[elab_as_elim] theorem nC{elt it t:X}{i:Nat}(hc:aC T sc (.comp elt i it t) e=true)(k:∀elt' it' x px ts scope p,mB T scope i x=true->(fu it'&&aC T sc it it')=true->aC T (fy scope sc) elt elt'=true->gz t.isNon (aC T (fy scope sc) t) ts=true->C (.ListComp elt' [⟨.Name x px,it',ts,0⟩] scope p)):C e:=
 nu hc fun elt' gs scope p h=>dc (C:=fun gs=>C (.ListComp elt' gs scope p)) h fun g h=>yE (C:=fun g=>C (.ListComp elt' [g] scope p)) h fun x px it' ts h=>d8 h fun h1 h2 h3 h4=>k elt' it' x px ts scope p h1 h2 h3 h4
@[elab_as_elim] theorem Lr{i:Nat}(hc:aC T sc (.f i) e=true)(k:∀x p,b0 T i x=true->(sc.names.lookup x).any cI=true->ck x=true->(x==("__classdict__":Str))=false->C (.Name x p)):C e:=
 bT hc fun x p h=>d8 h fun h1 h2 h3 h4=>k x p h1 h2 h3 (by simpa using h4)
@[elab_as_elim] theorem pK{elt es t:X}{fs:SQ}{i j:Nat}(hc:aC T sc (.compE fs elt i j es t) e=true)(k:∀elt' x px y py kk tp pf pc args t' scope p,jr T sc scope fs i x=true->(b0 T j y&&a5 scope y .local&&!(i==j))=true->a5 sc "enumerate" .globalImplicit=true->bz T sc es args=true->aC T (fy scope sc) elt elt'=true->aC T (fy scope sc) t t'=true ->
  C (.ListComp elt' [⟨.Tuple [.Name x px,.Name y py] kk tp,.Call (.Name "enumerate" pf) args [] pc,[t'],0⟩] scope p)):C e:=
 nu hc fun elt' gs scope p h=>dc (C:=fun gs=>C (.ListComp elt' gs scope p)) h fun g h=>CM (C:=fun g=>C (.ListComp elt' [g] scope p)) h fun x px y py kk tp it' ts h=>
  sU (C:=fun it'=>C (.ListComp elt' [⟨.Tuple [.Name x px,.Name y py] kk tp,it',ts,0⟩] scope p)) h fun f pf as pc h=>gr h fun h1 h2 h3 h4 h5=>by
   rw[eq_of_beq h3] at h4 ⊢
   refine eO h5 fun h6 h7 h8=>?_
   exact dc (C:=fun ts=>C (.ListComp elt' [⟨.Tuple [.Name x px,.Name y py] kk tp,.Call (.Name "enumerate" pf) as [] pc,ts,0⟩] scope p)) h8 fun t' h8=>k elt' x px y py kk tp pf pc as t' scope p h1 h2 h4 h6 h7 h8
@[elab_as_elim] theorem Eu{b:Bi}{es:X}(hc:aC T sc (.bi b es) e=true)(k:∀p args q,qP b=true->a5 sc (dr b) .globalImplicit=true->bz T sc es args=true->C (.Call (.Name (dr b) p) args [] q)):C e:=
 sU hc fun x p as q h=>d8 h fun h1 h2 h3 h4=>by rw[eq_of_beq h2] at h3 ⊢;exact k p as q h1 h3 h4
@[elab_as_elim] theorem s8{j:Nat}{es:X}(hc:aC T sc (.call j es) e=true)(k:∀x p args q,uz T j x=true->a5 sc x .globalImplicit=true->ck x=true->T.kp j=true->bz T sc es args=true->C (.Call (.Name x p) args [] q)):C e:=
 sU hc fun x p as q h=>gr h fun h1 h2 h3 h4 h5=>k x p as q h1 h2 h3 h4 h5
@[elab_as_elim] theorem Ew{b:Bi}{o es:X}(hc:aC T sc (.bm b o es) e=true)(k:∀o' x apos args pos,qp b=some x->aC T sc o o'=true->b6 o'=true->fq args apos pos=true->bz T sc es args=true->C (.Call (.Attribute o' x apos) args [] pos)):C e:=
 g7 hc fun o' x ap as p h=>gr h fun h1 h2 h3 h4 h5=>dJ h1 fun nm e1 e2=>k o' x ap as p (e1.trans (congrArg some (eq_of_beq e2).symm)) h2 h3 h4 h5
@[elab_as_elim] theorem Ey{a:Nat}{o es:X}(hc:aC T sc (.mc o a es) e=true)(k:∀o' x apos args pos,b0 T a x=true->aC T sc o o'=true->b6 o'=true->fq args apos pos=true->bz T sc es args=true->C (.Call (.Attribute o' x apos) args [] pos)):C e:=
 g7 hc fun o' x ap as p h=>gr h fun h1 h2 h3 h4 h5=>k o' x ap as p h1 h2 h3 h4 h5
@[elab_as_elim] theorem yO{o a:X}(hc:aC T sc (.app o a) e=true)(k:∀o' a' apos pos,aC T sc o o'=true->b6 o'=true->(apos.endLine==pos.line)=true->(fu a'&&aC T sc a a')=true->C (.Call (.Attribute o' "append" apos) [a'] [] pos)):C e:=
 g7 hc fun o' x ap as p h=>gr h fun h1 h2 h3 h4 h5=>by rw[eq_of_beq h1];exact dc (C:=fun as=>C (.Call (.Attribute o' "append" ap) as [] p)) h5 fun a' h=>k o' a' ap p h2 h3 h4 h
@[elab_as_elim] theorem tc{o:X}{y z:SQ}(hc:aC T sc (.repl o y z) e=true)(k:∀o' apos p1 p2 pos k1 k2,aC T sc o o'=true->b6 o'=true->(apos.endLine==pos.line)=true->eU z=true->(!(y==z))=true ->
  C (.Call (.Attribute o' "replace" apos) [.Constant (.str (Sl y)) k1 p1,.Constant (.str (Sl z)) k2 p2] [] pos)):C e:=
 g7 hc fun o' x ap as p h=>aS h fun h h7=>aS h fun h h6=>gr h fun h1 h2 h3 h4 h5=>by
  rw[eq_of_beq h1]
  exact ny (C:=fun as=>C (.Call (.Attribute o' "replace" ap) as [] p)) h7 fun a b h=>aS h fun ha hb=>
   xM (C:=fun a=>C (.Call (.Attribute o' "replace" ap) [a,b] [] p)) ha fun k1 p1=>xM (C:=fun b=>C (.Call (.Attribute o' "replace" ap) [.Constant (.str (Sl y)) k1 p1,b] [] p)) hb fun k2 p2=>k o' ap p1 p2 p k1 k2 h2 h3 h4 h5 h6
@[elab_as_elim] theorem Ez(hc:aC T sc .nl e=true)(k:∀p,C (.List [] p)):C e:=q9 hc fun es p h=>(List.isEmpty_iff.mp h)▸k p
@[elab_as_elim] theorem yS{a:X}(hc:aC T sc (.dic a) e=true)(k:∀a' p q,a5 sc "dict" .globalImplicit=true->fu a'=true->aC T sc a a'=true->C (.Call (.Name "dict" p) [a'] [] q)):C e:=
 sU hc fun x p as q h=>eO h fun h1 h2 h3=>by
  rw[eq_of_beq h1] at h2 ⊢
  exact dc (C:=fun as=>C (.Call (.Name "dict" p) as [] q)) h3 fun a' h=>k a' p q h2 (ay h).1 (ay h).2
theorem se{es:List Expr}(h:bz T sc .nil es=true):es=[]:=by cases es<;>first|rfl|cases h
@[elab_as_elim] theorem CT{a r:X}{es:List Expr}{C:List Expr->Prop}(h:bz T sc (.cons a r) es=true)(k:∀e' es',aC T sc a e'=true->bz T sc r es'=true->C (e'::es')):C es:=by
 cases es with
 |nil=>exact nof2 h
 |cons e' es'=>exact k e' es' (ay (ay h).2).1 (ay (ay h).2).2
noncomputable def iM(v:Expr):Bool:=v.ctorIdx==8||v.ctorIdx==9||v.ctorIdx==10
noncomputable abbrev FT:Type:=(List Expr->Env->List (Bool×Sem Value))×(Env->Value->Sem Value)×(Value->Value->Sem Value)×(CmpOp->Bool)×(List Expr->Env->List (Bool×(Value->Sem Unit)))×(Option Expr->Nat->Env->Sem Bool)×(List Expr->Nat->Pos->Env->Sem (Option (List Str)))×(Str->Env->Sem Value->Sem Value)
noncomputable def fL(e:Expr):FT:=(fun es env=>starEach (e::es) env,foldedSetIterable e,subscripted e false,fun o=>behindInMarks o e,fun es env=>assignEach (e::es) env,swapsWith e,fun es k p env=>swappedStores [.Tuple es k p] e env,attributeBase e)
noncomputable def fR(e:Expr):FT:=(cond (fu e) (fun es env=>(false,eval e env)::starEach es env) (fL e).1,cond (fu e) (fun _ z=>pure z) (fL e).2.1,cond (fu e) (fun o i=>operate [o,i] (getItem o i)) (fL e).2.2.1,cond (fu e) (fun _=>false) (fL e).2.2.2.1,
 cond (fu e) (fun es env=>(false,assign e env)::assignEach es env) (fL e).2.2.2.2.1,cond (iM e) (fL e).2.2.2.2.2.1 (fun _ _ _=>pure false),cond (e.ctorIdx==25) (fL e).2.2.2.2.2.2.1 (fun _ _ _ _=>pure none),cond (e.ctorIdx==16) (fL e).2.2.2.2.2.2.2 (fun _ _ t=>t))
theorem D1:∀e:Expr,fL e=fR e:=by intro e;cases e<;>rfl
theorem Ju{α:Type}{a b x:α}{z:Bool}(h:x=cond z a b)(hz:z=true):x=a:=by rw[hz] at h;exact h
theorem Nw{α:Type}{a b x:α}{z:Bool}(h:x=cond z a b)(hz:z=false):x=b:=by rw[hz] at h;exact h
noncomputable def tL(e:Expr):Env->Sem Value->Sem Bool:=isTrue e
noncomputable def tR(e:Expr):Env->Sem Value->Sem Bool:=fun _ t=>do let v ← t;standAt e.pos;holding [v] (truthy v)
theorem Ry(h:(e.ctorIdx==16)=false):attributeBase e=fun _ _ t=>t:=Nw (congrArg (fun p:FT=>p.2.2.2.2.2.2.2) (D1 e)) h
theorem mv{x:Str}{env:Env}{t:Sem Value}(h:b6 e=true):attributeBase e x env t=t:=by
 cases hb:e.ctorIdx==16 with
 |false=>rw[Ry hb]
 |true=>
  unfold b6 at h
  rw[hb] at h
  exact nt h fun g as ks p h=>eJ (C:=fun g=>attributeBase (.Call g as ks p) x env t=t) h fun _ _ _ _=>rfl
theorem gZ(h:fu e=true)(env:Env)(z:Value):foldedSetIterable e env z=pure z:=congrFun (congrFun (Ju (congrArg (fun p:FT=>p.2.1) (D1 e)) h) env) z
theorem yq(h:fu e=true)(o i:Value):subscripted e false o i=operate [o,i] (getItem o i):=congrFun (congrFun (Ju (congrArg (fun p:FT=>p.2.2.1) (D1 e)) h) o) i
theorem yp{o:CmpOp}(h:fu e=true):behindInMarks o e=false:=congrFun (Ju (congrArg (fun p:FT=>p.2.2.2.1) (D1 e)) h) o
theorem kS{es:List Expr}{env:Env}(h:fu e=true):starEach (e::es) env=(false,eval e env)::starEach es env:=congrFun (congrFun (Ju (congrArg (fun p:FT=>p.1) (D1 e)) h) es) env
theorem A5{es:List Expr}{env:Env}(h:fu e=true):assignEach (e::es) env=(false,assign e env)::assignEach es env:=congrFun (congrFun (Ju (congrArg (fun p:FT=>p.2.2.2.2.1) (D1 e)) h) es) env
theorem pT{t:Option Expr}{n:Nat}{env:Env}(h:iM e=false):swapsWith e t n env=pure false:=congrFun (congrFun (congrFun (Nw (congrArg (fun p:FT=>p.2.2.2.2.2.1) (D1 e)) h) t) n) env
theorem zR{es:List Expr}{k:Nat}{p:Pos}{env:Env}(h:(e.ctorIdx==25)=false):swappedStores [.Tuple es k p] e env=pure none:=congrFun (congrFun (congrFun (congrFun (Nw (congrArg (fun p:FT=>p.2.2.2.2.2.2.1) (D1 e)) h) es) k) p) env
end
def SX(c:Cx)(T:aW)(r:Nat)(x:X):Prop:=∀sc L env e m H Q,aZ c sc L env->aC T sc x e=true->wX c T r x m H Q->Tr VR c r L m (fun _ _=>True) H (eval e env) Q
def ST(c:Cx)(T:aW)(r:Nat)(x:X):Prop:=∀sc L env e m H (K:SV),aZ c sc L env->aC T sc x e=true->(∀v H',K v H'->∃b,aN H' v=some b)->wX c T r x m H K->vW c r L m H (isTrue e env (eval e env)) fun b H'=>∃v,aN H' v=some b/\K v H'
noncomputable def iw(es:List Expr)(env:Env):List (Sem Value):=es.map fun e=>eval e env
def MN(c:Cx)(T:aW)(r:Nat)(x:X):Prop:=∀sc L env es m H Q,aZ c sc L env->bz T sc x es=true->kY c T r x m H Q->Tr VRs c r L m (fun _ _=>True) H (spliced ((iw es env).map fun t=>(false,t))) Q
section
variable {c:Cx}{T:aW}{r:Nat}{sc:Scope}{L:Addr}{env:Env}{m:aD}{H:Hp}{P:Heap->Ph->Prop}{B Z h:Heap}{U:Ph}
theorem Tr.lift{α β:Type}{R:Heap->Ph->α->β->Prop}{t:Sem α}{Q:β->Hp->Prop}(h:Tr R c r L m (fun _ _=>True) H t Q):Tr R c r L m P H t Q:=h.weak fun _ _ _=>trivial
theorem Tr.thn{α β γ δ:Type}{R:Heap->Ph->α->β->Prop}{R':Heap->Ph->γ->δ->Prop}{t:Sem α}{k:α->Sem γ}{Q1:β->Hp->Prop}{Q:δ->Hp->Prop}(hP:Mono P)(h:Tr R c r L m (fun _ _=>True) H t Q1)(g:∀x H' v,Q1 x H'->Tr R' c r L m (fun B U=>P B U/\R B U v x) H' (k v) Q):Tr R' c r L m P H (t >>= k) Q:=
 Tr.bind hP (h.lift.mono fun x H' q v=>g x H' v q)
theorem cC(hT:TabOk c T){i:Nat}{x:Str}(h:b0 T i x=true):c.nm i=x:=by
 unfold b0 at h
 split at h
 ·rename_i l hl
  rw[hT.nm _ _ hl,←eq_of_beq h,bW]
 ·nomatch h
theorem D8{k:Nat}{x:Str}(h:uz T k x=true):T.gnm[k]?=some x.l:=by
 unfold uz at h
 split at h
 ·rename_i l hl
  rw[hl,eq_of_beq h]
 ·nomatch h
theorem bb{x:Str}{k:NameKind}(h:a5 sc x k=true):sc.names.lookup x=some k:=by
 unfold a5 at h
 split at h
 ·rename_i k' hk
  rw[hk,eq_of_beq h]
 ·nomatch h
theorem c4{x:Str}(h:ck x=true):(x==("__debug__":Str))=false:=by
 unfold ck at h;simpa using h
noncomputable def _root_.Mine.X.isLs(x:X):Bool:=x.ctorIdx==30||x.ctorIdx==31
theorem bp{x:X}(hn:x.isLs=false):∀T sc es,bz T sc x es=false:=by
 intro T sc es
 cases x<;>first|(nomatch hn;done)|rfl
theorem KJ{x:X}{es:List Expr}(h:bz T sc x es=true):x=.nil\/∃a b,x=.cons a b:=by
 cases hn:x.isLs with
 |false=>rw[bp hn] at h;nomatch h
 |true=>cases x with
  |nil=>exact .inl rfl
  |cons=>exact .inr ⟨_,_,rfl⟩
  |_=>nomatch hn
theorem bN{x:X}{es:List Expr}(h:bz T sc x es=true):starEach es env=(iw es env).map fun t=>(false,t):=by
 induction es generalizing x with
 |nil=>rfl
 |cons e es ih=>
  rcases KJ h with rfl|⟨a,b,rfl⟩
  ·nomatch h
  ·rw[kS (ay h).1,ih (ay (ay h).2).2];rfl
theorem bv(pos:Pos)(ts:List (Sem Value)):backTo pos (ts.map fun t=>(false,t))=ts.map fun t=>(false,t):=by
 unfold backTo
 rw[List.map_map]
 rfl
theorem ml{vs:List V}{ds:List D}(e:dZ vs=some ds){vals:List Value}(h:VRs B U vals vs):DVs B vals ds:=by
 induction h generalizing ds with
 |nil=>cases e;exact DVs.nil
 |cons hv hr ih=>
  rename_i v x vs xs
  cases x with
  |d d=>
   obtain⟨ds',e',rfl⟩:=ai (show (dZ xs).map (d::·)=some ds from e)
   exact .cons hv.d_of (ih e')
  |el=>
   obtain⟨ds',e',rfl⟩:=ai (show (dZ xs).map (.list []::·)=some ds from e)
   exact .cons (hv.dOf rfl) (ih e')
  |_=>nomatch e
theorem AB{v:Value}{x:V}{d:D}(R:Rel c B Z U L H h)(e:mq H x=some d)(hv:VR B U v x):DV h v d:=by
 cases x with
 |d y=>cases e;exact hv.d_of.mono R.kB
 |el=>cases e;exact (hv.dOf rfl).mono R.kB
 |r n=>
  have e:(match H[n]? with|some (some (.dlist ds))=>some (.list ds)|some (some (.list []))=>some (.list [])|_=>none)=some d:=e
  rcases hn:H[n]? with _|_|cl
  ·rw[hn] at e;nomatch e
  ·rw[hn] at e;nomatch e
  ·rw[hn] at e
   cases cl with
   |dlist ds=>cases e;exact fe R hv (.inl hn)
   |list xs=>cases xs with
    |nil=>cases e;exact fe R hv (.inr ⟨hn,rfl⟩)
    |cons=>nomatch e
   |_=>nomatch e
 |_=>nomatch e
theorem oq{vs:List V}{ds:List D}(R:Rel c B Z U L H h)(e:cz H vs=some ds){vals:List Value}(hv:VRs B U vals vs):DVs h vals ds:=by
 induction hv generalizing ds with
 |nil=>cases e;exact DVs.nil
 |cons hv hr ih=>
  refine ax e fun d e1 e2=>?_
  obtain⟨ds',e3,rfl⟩:=ai e2
  exact .cons (AB R e1 hv) (ih e3)
end
section
variable {c:Cx}{T:aW}{r:Nat}{sc:Scope}{L:Addr}{env:Env}{m:aD}{H:Hp}{P:Heap->Ph->Prop}{B Z h:Heap}{U:Ph}
def aR(c:Cx)(T:aW)(r:Nat)(x:X):Prop:=SX c T r x/\ST c T r x/\MN c T r x
theorem Ho{x:X}(hx:SX c T r x)(hp:∀sc e,aC T sc x e=true->tL e=tR e):ST c T r x:=by
 intro sc L env e m H Q hE hc hk hw
 unfold vW
 rw[show isTrue e env (eval e env)=tR e env (eval e env) from congrFun (congrFun (hp sc e hc) env) _]
 refine Tr.thn Mono.true (hx sc L env e m H _ hE hc hw) fun v H1 a h1=>?_
 obtain⟨b,hb⟩:=hk _ _ h1
 exact Tr.skip (aw _) (Tr.holding (c8 (fun B U h=>h.2) hb ⟨v,hb,h1⟩))
theorem G1{x:X}(h:∀T sc es,bz T sc x es=false):MN c T r x:=fun sc L env es m H Q hE hc hw=>by rw[h] at hc;nomatch hc
theorem pW(hT:TabOk c T){o:Value}{ov x:V}{a:Nat}{Q:SV}(hv:∀B U,P B U->VR B U o ov)(e:ej T H ov a=some x)(q:Q x H):Tr VR c r L m P H (getAttr o (c.nm a) true) Q:=by
 cases ov with
 |r n=>
  unfold ej at e
  dsimp only at e
  rcases hn:H[n]? with _|_|cl
  ·rw[hn] at e;nomatch e
  ·rw[hn] at e;nomatch e
  ·rw[hn] at e
   cases cl with
   |inst C fs=>
    dsimp only at e
    rcases hy:lk a fs with _|y
    ·rw[hy] at e
     dsimp only at e
     rcases hf:T.meth C a with _|f
     ·rw[hf] at e
      obtain⟨⟨v,y⟩,hc,rfl⟩:=ai e
      obtain⟨h1,h2⟩:=hT.cat _ _ _ _ hc
      exact z5 hv hn hy h1 h2 q
     ·rw[hf] at e;cases e
      exact zZ hv hn hy (hT.meth _ _ _ hf) q
    ·rw[hy] at e
     dsimp only at e
     cases hp:eK y with
     |true=>rw[hp] at e;cases e;exact Ig hv hn hy hp q
     |false=>rw[hp] at e;nomatch e
   |_=>nomatch e
 |_=>nomatch e
theorem uQ{K:Frag}{f:Addr}(h:fnIn K f=true):keepIn K (.ref f)=true:=by
 unfold fnIn at h
 rcases q:K.lookup f with _|⟨o1,o2,dt,o4⟩
 ·rw[q] at h;nomatch h
 ·rw[q] at h
  cases dt with
  |func fd=>unfold keepIn;dsimp only;rw[q]
  |_=>nomatch h
theorem xR{K:Frag}{f:Addr}{M:Model}(h:fnIn K f=true):∀h,K.In h->∃k,(k=Keeper.frame\/k=Keeper.machine\/k=Keeper.boundFrame)/\Looks M h (keeperOf (.ref f)) k:=fun h' X=>keeps_K (uQ h) h' X
theorem LT{o:e7}{a b:X}(ha:aR c T r a)(hb:aR c T r b):SX c T r (.bin o a b):=by
 intro sc L env e m H Q hE hc hw
 refine yP hc fun a' o' b' p h1 h2 h3=>?_
 rw[arm_eval_BinOp]
 refine Tr.thn Mono.true (ha.1 _ _ _ _ _ _ _ hE h2 hw) fun x H1 v w1=>?_
 refine Tr.thn dS (Tr.holding (hb.1 _ _ _ _ _ _ _ hE h3 w1)) fun y H2 u w2=>?_
 refine Tr.skip (aw _) (Tr.operate ?_)
 have ho:nF o=o':=of_decide_eq_true h1
 rw[←ho]
 cases x with
 |d x=>cases y with
  |d y=>
   refine aQ w2 fun z hz q=>?_
   exact Ic (fun B U h=>⟨h.1.2.d_of,h.2.d_of⟩) hz q
  |_=>exact False.elim w2
 |_=>exact False.elim w2
theorem ed{o:eY}{o':CmpOp}(h:je o o'=true):jL o=o':=of_decide_eq_true h
theorem LU(hT:TabOk c T){o:eY}{a b:X}(ha:aR c T r a)(hb:aR c T r b):SX c T r (.cmp a o b)/\ST c T r (.cmp a o b):=by
 have core:∀{sc L env a' b' o' m H Q}{pos:Pos},aZ c sc L env->je o o'=true->aC T sc a a'=true->aC T sc b b'=true->wX c T r (.cmp a o b) m H Q ->
   Tr VR c r L m (fun _ _=>True) H (do let v ← eval a' env;let u ← holding [v] (eval b' env);standAt pos;operate [v,u] (compareOp o' v u)) Q:=by
  intro sc L env a' b' o' m H Q pos hE h1 h2 h3 hw
  refine Tr.thn Mono.true (ha.1 _ _ _ _ _ _ _ hE h2 hw) fun x H1 v w1=>?_
  refine Tr.thn dS (Tr.holding (hb.1 _ _ _ _ _ _ _ hE h3 w1)) fun y H2 u w2=>?_
  refine Tr.skip (aw _) (Tr.operate ?_)
  refine aQ w2 fun z hz q=>?_
  rw[←ed h1]
  exact fQ hT (fun B U h=>⟨h.1.2,h.2⟩) hz q
 have mk:∀{b':Expr}{o':CmpOp}{env:Env},fu b'=true->markedEach [o'] [b'] (evalEach [b'] env)=[eval b' env]:=by
  intro b' o' env h3
  show [markedBehindIn o' b' (eval b' env)] = _
  unfold markedBehindIn
  rw[yp h3]
 constructor
 ·intro sc L env e m H Q hE hc hw
  refine yQ hc fun a' o' b' p h1 h0 h2 h3=>?_
  rw[arm_eval_Compare,mk h0]
  exact core hE h1 h2 h3 hw
 ·intro sc L env e m H Q hE hc hk hw
  refine yQ hc fun a' o' b' p h1 h0 h2 h3=>?_
  unfold vW
  rw[arm_isTrue_Compare,mk h0]
  refine Tr.thn Mono.true (ha.1 _ _ _ _ _ _ _ hE h2 hw) fun x H1 v w1=>?_
  show Tr _ _ _ _ _ _ _ (holding [v] (eval b' env) >>= _) _
  refine Tr.thn dS (Tr.holding (hb.1 _ _ _ _ _ _ _ hE h3 w1)) fun y H2 u w2=>?_
  refine Tr.skip (aw _) ?_
  refine aQ w2 fun z hz q=>?_
  rw[←ed h1]
  refine Tr.bind (Mono.and dS (Mono.vr _ _)) (Tr.operate (fQ (Q:=fun x H'=>x=.d (.bool z)/\H'=H2) hT (fun B U h=>⟨h.1.2,h.2⟩) hz ⟨rfl,rfl⟩) |>.mono ?_)
  refine e8 fun k=>?_
  exact Tr.holding (c8 (z:=z) (fun B U h=>h.2) rfl ⟨_,rfl,q⟩)
end
section
variable {c:Cx}{T:aW}{r:Nat}{sc:Scope}{L:Addr}{env:Env}{m:aD}{H:Hp}{P:Heap->Ph->Prop}{B Z h:Heap}{U:Ph}
theorem wD{k:Const}{d:D}(h1:rV k d=true):JB k=some d:=by
 cases k with
 |none=>cases d with
  |none=>rfl
  |_=>nomatch h1
 |bool b=>cases d with
  |bool a=>rw[eq_of_beq h1];rfl
  |_=>nomatch h1
 |int b=>cases d with
  |int a=>rw[eq_of_beq h1];rfl
  |_=>nomatch h1
 |str x=>cases d with
  |str y=>
   refine aS h1 fun e1 e2=>?_
   have:x=y:=by rw[←bW x,←bW y,eq_of_beq e1]
   subst this
   show (if _ then _ else _) = _
   rw[au (by rw[jB];exact e2)]
  |_=>nomatch h1
 |_=>nomatch h1
theorem Sx{d:D}:SX c T r (.c d):=by
 intro sc L env e m H Q hE hc hw
 refine fw hc fun k n p h1=>?_
 exact kW (d:=d) (wD h1) hw
theorem SA(hT:TabOk c T){i:Nat}:SX c T r (.v i):=by
 intro sc L env e m H Q hE hc hw
 refine Lu hc fun x p h1 h2 h3=>?_
 refine aQ hw fun y hy q=>?_
 have e:=cC hT h1
 subst e
 rcases Bool.or_eq_true_iff.mp h2 with h2|h2
 ·exact z7 hE (bb h2) (c4 h3) hy q
 ·exact z4 hE (hT.boxed (ay h2).1) (bb (ay h2).2) (c4 h3) hy q
theorem Sy(hT:TabOk c T){i:Nat}:SX c T r (.f i):=by
 intro sc L env e m H Q hE hc hw
 refine Lr hc fun x p h1 h2 h3 h4=>?_
 refine aQ hw fun p hp q=>?_
 have e:=cC hT h1
 subst e
 exact Id hE h2 (c4 h3) h4 hp q
theorem Sz(hT:TabOk c T){k:Nat}:SX c T r (.g k):=by
 intro sc L env e m H Q hE hc hw
 refine Ls hc fun x p h1 h2 h3=>?_
 refine aQ hw fun y hy q=>?_
 obtain⟨w,hw1,hw2⟩:=hT.gl _ _ _ hy (D8 h1)
 rw[bW] at hw1
 exact ma hE (bb h2) (c4 h3) hw1 hw2 q
theorem Tr.letGo{α:Type}{β:Type}{R:Heap->Ph->α->β->Prop}{value:Expr}{o x:Value}{k:Unit->Sem α}{Q:β->Hp->Prop}(h:Tr R c r L m P H (k ()) Q):Tr R c r L m P H (letTemporaryGo value o x >>= k) Q:=
 fun A E s B Z U hA ht hR hF hp=>wpAny_bind (wpAny_letTemporaryGo (h A E s B Z U hA ht hR hF hp))
theorem Tr.keepv{t:Sem Value}{value:Expr}{o:Value}{Q:SV}(hP:Mono P)(h:Tr VR c r L m P H t Q):Tr VR c r L m P H (do let x ← t;letTemporaryGo value o x;Pure.pure x) Q:=
 Tr.bind hP (h.mono fun x H' q v=>Tr.letGo (Tr.pure (fun B U h=>h.2) q))
theorem PA(hT:TabOk c T){a:X}{i:Nat}(ha:aR c T r a):SX c T r (.at a i):=by
 intro sc L env e m H Q hE hc hw
 refine Et hc fun e' x p h1 h2 h3=>?_
 rw[arm_eval_Attribute,mv h3]
 have e:=cC hT h2
 subst e
 refine Tr.thn Mono.true (ha.1 _ _ _ _ _ _ _ hE h1 hw) fun ov H1 v w1=>?_
 refine aQ w1 fun y hy q=>?_
 exact Tr.skip (aw _) (Tr.keepv dS (Tr.holding (pW hT (fun B U h=>h.2) hy q)))
theorem oM(value slice:Expr)(pos:Pos):eval (.Subscript value slice pos) env=(do
  let o ← eval value env
  let i ← holding [o] (eval slice env)
  standAt pos
  subscriptTail value slice o i):=rfl
theorem PD(hT:TabOk c T){a i:X}(ha:aR c T r a)(hi:aR c T r i):SX c T r (.ix a i):=by
 intro sc L env e m H Q hE hc hw
 refine Ex hc fun e' i' p h0 h1 h2=>?_
 rw[oM]
 refine Tr.thn Mono.true (ha.1 _ _ _ _ _ _ _ hE h1 hw) fun ov H1 v w1=>?_
 refine Tr.thn dS (Tr.holding (hi.1 _ _ _ _ _ _ _ hE h2 w1)) fun y H2 u w2=>?_
 refine aQ w2 fun z hz q=>?_
 exact Tr.skip (aw _) (Mv hT (yq h0) (fun B U h=>⟨h.1.2,h.2⟩) hz q)
def PV(_B:Heap)(_φ:Ph)(v:Value)(o:Option Int):Prop:=IsPart v o
theorem zw{x:X}(hx:aR c T r x){l:Option Expr}{m:aD}{H:Hp}{Q:Option Int->Hp->Prop}(hE:aZ c sc L env)(hc:dj x.isNon (aC T sc x) l=true)(hw:tC x.isNon (wX c T r x) m H Q) :
  Tr PV c r L m (fun _ _=>True) H (valueOrNone (evalOpt l env)) Q:=by
 cases hb:x.isNon with
 |true=>
  rw[hb] at hc hw
  cases l with
  |none=>exact Tr.pure (fun B U h=>.none) hw
  |some e=>nomatch hc
 |false=>
  rw[hb] at hc hw
  cases l with
  |none=>nomatch hc
  |some e=>
   have hc':aC T sc x e=true:=by simpa [dj] using hc
   show Tr PV _ _ _ _ _ _ (eval e env) _
   intro A E s B Z U hA ht hR hF hp
   refine wpAny_mono (hx.1 _ _ _ _ _ _ _ hE hc' hw A E s B Z U hA ht hR hF trivial) ?_ fun _ _ y=>y
   rintro v s' ⟨h',tk,B',U',xv,H',e1,b,p,R1,F1,rv,q⟩
   refine aQ q fun i hi q=>?_
   refine⟨h',tk,B',U',i,H',e1,b,p,R1,F1,?_,q⟩
   cases xv with
   |d d=>cases d with
    |int k=>
     cases hi
     obtain⟨t,rfl⟩:=rv.d_of.int_of
     exact .int _ _
    |_=>nomatch hi
   |_=>nomatch hi
theorem Mono.part(v:Value)(o:Option Int):Mono fun B U=>PV B U v o:=fun _ _ _ _ _ _ h=>h
theorem PH{a lo hi:X}(ha:aR c T r a)(hl:aR c T r lo)(hh:aR c T r hi):SX c T r (.sl a lo hi):=by
 intro sc L env e m H Q hE hc hw
 refine EB hc fun e' l u p q h1 h2 h3=>?_
 rw[oM,arm_eval_Slice]
 refine Tr.thn Mono.true (ha.1 _ _ _ _ _ _ _ hE h1 hw) fun ov H1 v w1=>?_
 refine Tr.bind (R:=fun B U v (x:Option Int×Option Int)=>SR B v x.1 x.2) dS (Tr.holding ?_) (β:=Option Int×Option Int)
 refine Tr.thn dS (zw hl hE h2 w1) fun lo' H2 vl w2=>?_
 refine Tr.thn (Mono.and dS (Mono.part _ _)) (Tr.holding (zw hh hE h3 w2)) fun hi' H3 vu w3=>?_
 intro A E s B Z U hA ht hR hF hp
 obtain⟨⟨⟨_,hv⟩,pl⟩,pu⟩:=hp
 refine wpAny_bind (wpAny_holding (wpAny_pure ?_))
 refine wpAny_mono (p6 (P:=fun _ _=>True) (Q:=fun _ H'=>H'=H3) pl pu rfl A E s B Z U hA ht hR hF trivial) ?_ fun _ _ y=>y
 rintro i s' ⟨h',tk,B',U',xv,H',e1,b,p,R1,F1,rv,rfl⟩
 refine⟨h',tk,B',U',(lo',hi'),H',e1,b,p,R1,F1,rv,fun i=>?_⟩
 refine Tr.skip (aw _) ?_
 cases ov with
 |d x=>
  refine aQ w3 fun z hz q=>?_
  exact Mw (value:=e') (lower:=e') (upper:=e') (fun o i=>rfl) (fun B U h=>⟨h.1.2,h.2⟩) hz q
 |_=>exact False.elim w3
end
section
variable {c:Cx}{T:aW}{r:Nat}{sc:Scope}{L:Addr}{env:Env}{m:aD}{H:Hp}{P:Heap->Ph->Prop}{B Z h:Heap}{U:Ph}
theorem Tr.ite{α β:Type}{R:Heap->Ph->α->β->Prop}{b:Bool}{t e:Sem α}{Q:β->Hp->Prop}(h1:b=true->Tr R c r L m P H t Q)(h2:b=false->Tr R c r L m P H e Q):Tr R c r L m P H (if b=true then t else e) Q:=by
 cases b with
 |true=>exact h1 rfl
 |false=>exact h2 rfl
theorem Tr.known{α β:Type}{R:Heap->Ph->α->β->Prop}{b:Bool}{t:Sem Bool}{k:Bool->Sem α}{Q:β->Hp->Prop}(hP:Mono P)(h:Tr (fun _ _ v y=>v=y) c r L m P H t fun y H'=>y=b/\H'=H)(g:Tr R c r L m P H (k b) Q):Tr R c r L m P H (t >>= k) Q:=by
 refine Tr.bind hP (h.mono ?_)
 refine e8 fun v=>?_
 intro A E s B Z U hA ht hR hF hp
 obtain⟨h1,rfl⟩:=hp
 exact g A E s B Z U hA ht hR hF h1
theorem Tr.tst{α β:Type}{R:Heap->Ph->α->β->Prop}{t:Sem Bool}{k:Bool->Sem α}{Q1:Bool->Hp->Prop}{Q:β->Hp->Prop}(h:vW c r L m H t Q1)(g:∀b H',Q1 b H'->Tr R c r L m (fun _ _=>True) H' (k b) Q):Tr R c r L m (fun _ _=>True) H (t >>= k) Q:=by
 refine Tr.thn Mono.true h fun b H' v q=>?_
 intro A E s B Z U hA ht hR hF hp
 obtain⟨_,rfl⟩:=hp
 exact g _ H' q A E s B Z U hA ht hR hF trivial
theorem LX{t a b:X}(ht:aR c T r t)(ha:aR c T r a)(hb:aR c T r b):SX c T r (.ife t a b)/\ST c T r (.ife t a b):=by
 constructor
 ·intro sc L env e m H Q hE hc hw
  refine yT hc fun t' a' b' p h1 h2 h3=>?_
  rw[arm_eval_IfExp]
  refine Tr.tst (ht.2.1 _ _ _ _ _ _ _ hE h1 (fun v H' h=>(ek h).imp fun _ q=>q.1) hw) fun z H1 q=>?_
  obtain⟨v,hv,q⟩:=q
  rw[hv,g6] at q
  exact Tr.ite (fun e=>by rw[au e] at q;exact ha.1 _ _ _ _ _ _ _ hE h2 q) fun e=>by rw[ar (by rw[e];decide)] at q;exact hb.1 _ _ _ _ _ _ _ hE h3 q
 ·intro sc L env e m H Q hE hc hk hw
  refine yT hc fun t' a' b' p h1 h2 h3=>?_
  unfold vW
  rw[arm_isTrue_IfExp]
  refine Tr.tst (ht.2.1 _ _ _ _ _ _ _ hE h1 (fun v H' h=>(ek h).imp fun _ q=>q.1) hw) fun z H1 q=>?_
  obtain⟨v,hv,q⟩:=q
  rw[hv,g6] at q
  exact Tr.ite (fun e=>by rw[au e] at q;exact ha.2.1 _ _ _ _ _ _ _ hE h2 hk q) fun e=>by rw[ar (by rw[e];decide)] at q;exact hb.2.1 _ _ _ _ _ _ _ hE h3 hk q
theorem L3{a:X}(ha:aR c T r a):SX c T r (.not a)/\ST c T r (.not a):=by
 constructor
 ·intro sc L env e m H Q hE hc hw
  refine yV hc fun a' p h1=>?_
  rw[arm_eval_UnaryOp]
  refine Tr.thn Mono.true (ha.1 _ _ _ _ _ _ _ hE h1 hw) fun x H1 v w1=>Tr.skip (aw _) (Tr.holding ?_)
  refine aQ w1 fun b hb q=>?_
  intro A E s B Z U hA ht hR hF hp
  refine not_of (wpAny_mono (c8 (P:=fun B U=>VR B U v x) (Q:=fun y H'=>y=b/\H'=H1) (fun B U h=>h) hb ⟨rfl,rfl⟩ A E s B Z U hA ht hR hF hp.2) ?_ fun _ _ y=>y)
  rintro z s' ⟨h',tk,B',U',zz,H',e1,b1,p1,R1,F1,rfl,rfl,rfl⟩
  exact⟨h',tk,B',U',_,_,e1,b1,p1,R1,F1,.d (DV.bool _),q⟩
 ·intro sc L env e m H Q hE hc hk hw
  refine yV hc fun a' p h1=>?_
  unfold vW
  rw[arm_isTrue_UnaryOp]
  refine Tr.tst (ha.2.1 _ _ _ _ _ _ _ hE h1 (fun v H' h=>(ek h).imp fun _ q=>q.1) hw) fun z H1 q=>?_
  obtain⟨v,hv,q⟩:=q
  rw[hv,g6] at q
  exact Tr.pure (fun _ _ _=>rfl) ⟨_,rfl,q⟩
theorem L0{a:X}(ha:aR c T r a):SX c T r (.neg a):=by
 intro sc L env e m H Q hE hc hw
 refine yU hc fun a' p h1=>?_
 rw[arm_eval_UnaryOp]
 refine Tr.thn Mono.true (ha.1 _ _ _ _ _ _ _ hE h1 hw) fun x H1 v w1=>Tr.skip (aw _) (Tr.holding ?_)
 cases x with
 |d d=>cases d with
  |int i=>
   intro A E s B Z U hA ht hR hF hp
   obtain⟨t,rfl⟩:=hp.2.d_of.int_of
   exact PySem.P.neg_int (aM hR hF (.d (DV.int _ _)) w1)
  |_=>exact False.elim w1
 |_=>exact False.elim w1
theorem jd(pos:Pos)(op:BoolOp)(x y:Sem Value)(r:List (Sem Value)):boolOp pos op (x::y::r)=(do
  let v ← x
  standAt pos
  let t ← holding [v] (truthy v)
  match op,t with
  |.And,false|.Or,true=>pure v
  |_,_=>boolOp pos op (y::r)):=rfl
theorem LR{a b:X}(ha:aR c T r a)(hb:aR c T r b):SX c T r (.and a b)/\ST c T r (.and a b):=by
 constructor
 ·intro sc L env e m H Q hE hc hw
  refine yN hc fun a' b' rs p h1 h2=>?_
  rw[arm_eval_BoolOp,arm_evalEach_cons,arm_evalEach_cons,jd]
  refine Tr.thn Mono.true (ha.1 _ _ _ _ _ _ _ hE h1 hw) fun x H1 v w1=>Tr.skip (aw _) ?_
  refine aQ w1 fun z hz q=>?_
  refine Tr.known (b:=z) dS (Tr.holding (c8 (fun B U h=>h.2) hz ⟨rfl,rfl⟩)) ?_
  cases z with
  |false=>rw[ar (by decide)] at q;exact Tr.pure (fun B U h=>h.2) q
  |true=>
   rw[au rfl] at q
   rcases h2 with ⟨rfl,h2⟩|⟨hr,h2⟩
   ·exact (hb.1 _ _ _ _ _ _ _ hE h2 q).lift
   ·exact (hb.1 _ _ _ _ _ _ _ hE h2 q).lift
 ·intro sc L env e m H Q hE hc hk hw
  refine yN hc fun a' b' rs p h1 h2=>?_
  unfold vW
  rw[arm_isTrue_BoolOp]
  show Tr _ _ _ _ _ _ _ (isTrue a' env (eval a' env) >>= fun t=>match BoolOp.And,t with|.And,false=>pure false|.Or,true=>pure true|_,_=>allTrue .And (b'::rs) env) _
  refine Tr.tst (ha.2.1 _ _ _ _ _ _ _ hE h1 (fun v H' h=>(ek h).imp fun _ q=>q.1) hw) fun z H1 q=>?_
  obtain⟨v,hv,q⟩:=q
  rw[hv,g6] at q
  cases z with
  |false=>rw[ar (by decide)] at q;exact Tr.pure (fun _ _ _=>rfl) ⟨v,hv,q⟩
  |true=>
   rw[au rfl] at q
   rcases h2 with ⟨rfl,h2⟩|⟨hr,h2⟩
   ·show Tr _ _ _ _ _ _ _ (isTrue b' env (eval b' env) >>= fun t=>match BoolOp.And,t with|.And,false=>pure false|.Or,true=>pure true|_,_=>allTrue .And [] env) _
    refine Tr.tst (hb.2.1 _ _ _ _ _ _ _ hE h2 hk q) fun z H2 q=>?_
    cases z<;>exact Tr.pure (fun _ _ _=>rfl) q
   ·exact hb.2.1 _ _ _ _ _ _ _ hE h2 hk q
theorem PG{a b:X}(ha:aR c T r a)(hb:aR c T r b):SX c T r (.or a b)/\ST c T r (.or a b):=by
 constructor
 ·intro sc L env e m H Q hE hc hw
  refine EA hc fun a' b' rs p h1 h2=>?_
  rw[arm_eval_BoolOp,arm_evalEach_cons,arm_evalEach_cons,jd]
  refine Tr.thn Mono.true (ha.1 _ _ _ _ _ _ _ hE h1 hw) fun x H1 v w1=>Tr.skip (aw _) ?_
  refine aQ w1 fun z hz q=>?_
  refine Tr.known (b:=z) dS (Tr.holding (c8 (fun B U h=>h.2) hz ⟨rfl,rfl⟩)) ?_
  cases z with
  |true=>rw[au rfl] at q;exact Tr.pure (fun B U h=>h.2) q
  |false=>
   rw[ar (by decide)] at q
   rcases h2 with ⟨rfl,h2⟩|⟨hr,h2⟩
   ·exact (hb.1 _ _ _ _ _ _ _ hE h2 q).lift
   ·exact (hb.1 _ _ _ _ _ _ _ hE h2 q).lift
 ·intro sc L env e m H Q hE hc hk hw
  refine EA hc fun a' b' rs p h1 h2=>?_
  unfold vW
  rw[arm_isTrue_BoolOp]
  show Tr _ _ _ _ _ _ _ (isTrue a' env (eval a' env) >>= fun t=>match BoolOp.Or,t with|.And,false=>pure false|.Or,true=>pure true|_,_=>allTrue .Or (b'::rs) env) _
  refine Tr.tst (ha.2.1 _ _ _ _ _ _ _ hE h1 (fun v H' h=>(ek h).imp fun _ q=>q.1) hw) fun z H1 q=>?_
  obtain⟨v,hv,q⟩:=q
  rw[hv,g6] at q
  cases z with
  |true=>rw[au rfl] at q;exact Tr.pure (fun _ _ _=>rfl) ⟨v,hv,q⟩
  |false=>
   rw[ar (by decide)] at q
   rcases h2 with ⟨rfl,h2⟩|⟨hr,h2⟩
   ·show Tr _ _ _ _ _ _ _ (isTrue b' env (eval b' env) >>= fun t=>match BoolOp.Or,t with|.And,false=>pure false|.Or,true=>pure true|_,_=>allTrue .Or [] env) _
    refine Tr.tst (hb.2.1 _ _ _ _ _ _ _ hE h2 hk q) fun z H2 q=>?_
    cases z<;>exact Tr.pure (fun _ _ _=>rfl) q
   ·exact hb.2.1 _ _ _ _ _ _ _ hE h2 hk q
theorem L5{es:X}(he:aR c T r es):SX c T r (.tup es):=by
 intro sc L env e m H Q hE hc hw
 refine iW hc fun es' k p h1=>?_
 rw[arm_eval_Tuple,bN h1,bv]
 refine Tr.skip (aw _) (Tr.thn Mono.true (he.2.2 _ _ _ _ _ _ _ hE h1 hw) fun vs H1 vals w=>?_)
 obtain⟨ds,hd,hl,q⟩:=ek w
 exact p7 (fun B U h=>ml hd h.2) hl q
theorem LY{mu:Nat}{es:X}(he:aR c T r es):SX c T r (.lst mu es):=by
 intro sc L env e m H Q hE hc hw
 refine q9 hc fun es' p h1=>?_
 rw[arm_eval_List,bN h1,bv]
 refine Tr.skip (aw _) (Tr.thn Mono.true (he.2.2 _ _ _ _ _ _ _ hE h1 hw) fun vs H1 vals w=>?_)
 rcases mu with _|_|mu
 ·obtain⟨ds,hd,hl,q⟩:=ek w
  exact pY (fun B U h=>ml hd h.2) hl q
 ·obtain⟨ds,hd,hl,q⟩:=ek w
  exact pX (fun B U h=>ml hd h.2) hl q
 ·exact pZ (fun B U h=>h.2) w.1 w.2
theorem L2:MN c T r .nil:=by
 intro sc L env es m H Q hE hc hw
 rw[se hc]
 exact bI hw
theorem HC{a b:X}(ha:aR c T r a)(hb:aR c T r b):MN c T r (.cons a b):=by
 intro sc L env es m H Q hE hc hw
 refine CT hc fun e' es' h1 h2=>?_
 exact cv Mono.true ((ha.1 _ _ _ _ _ _ _ hE h1 hw).mono fun x H' q v=>(hb.2.2 _ _ _ _ _ _ _ hE h2 q).lift)
end
section
variable {c:Cx}{T:aW}{r:Nat}{sc:Scope}{L:Addr}{env:Env}{m:aD}{H:Hp}{P:Heap->Ph->Prop}{B Z h:Heap}{U:Ph}
theorem HA(hT:TabOk c T){o1 o2:eY}{a e b:X}(ha:aR c T r a)(he:aR c T r e)(hb:aR c T r b):SX c T r (.cmp2 a o1 e o2 b)/\ST c T r (.cmp2 a o1 e o2 b):=by
 have mk:∀{m' b':Expr}{p1 p2:CmpOp}{env:Env},fu b'=true->markedEach [p1,p2] [m',b'] (evalEach [m',b'] env)=[eval m' env,eval b' env]:=by
  intro m' b' p1 p2 env h3
  show [eval m' env,markedBehindIn p2 b' (eval b' env)] = _
  unfold markedBehindIn
  rw[yp h3]
 constructor
 ·intro sc L env ex m H Q hE hc hw
  refine ta hc fun a' m' b' p1 p2 pos h1 h0 h2 h3 h4 h5=>?_
  rw[arm_eval_Compare,mk (ay h0).2]
  refine Tr.thn Mono.true (ha.1 _ _ _ _ _ _ _ hE h3 hw) fun x H1 v w1=>?_
  show Tr _ _ _ _ _ _ _ (holding [v] (eval m' env) >>= _) _
  refine Tr.thn dS (Tr.holding (he.1 _ _ _ _ _ _ _ hE h4 w1)) fun y H2 u w2=>?_
  refine Tr.skip (aw _) ?_
  refine aQ w2 fun z hz q=>?_
  rw[←ed h1]
  refine Tr.bind (Mono.and dS (Mono.vr _ _)) ((Tr.holding (fQ (Q:=fun x H'=>x=.d (.bool z)/\H'=H2) hT (fun B U h=>⟨h.1.2,h.2⟩) hz ⟨rfl,rfl⟩)).mono ?_)
  refine e8 fun k=>?_
  refine Tr.skip (b5 _ _) ?_
  refine Tr.known (b:=z) (Mono.and (Mono.and dS (Mono.vr _ _)) (Mono.vr _ _)) (Tr.holding (c8 (z:=z) (fun B U h=>h.2) rfl ⟨rfl,rfl⟩)) ?_
  cases z with
  |false=>rw[ar (by decide)] at q;exact Tr.pure (fun B U h=>h.2) q
  |true=>
   rw[au rfl] at q
   show Tr _ _ _ _ _ _ _ (holding [u] (eval b' env) >>= fun rv=>standAt pos >>= fun _=>operate [u,rv] (compareOp p2 u rv)) _
   refine Tr.thn (Mono.and (Mono.and dS (Mono.vr _ _)) (Mono.vr _ _)) (Tr.holding (hb.1 _ _ _ _ _ _ _ hE h5 q)) fun y3 H3 u3 w3=>?_
   refine aQ w3 fun z2 hz2 q2=>?_
   refine Tr.skip (aw _) (Tr.operate ?_)
   rw[←ed h2]
   exact fQ hT (fun B U h=>⟨h.1.1.2,h.2⟩) hz2 q2
 ·intro sc L env ex m H Q hE hc hk hw
  refine ta hc fun a' m' b' p1 p2 pos h1 h0 h2 h3 h4 h5=>?_
  unfold vW
  rw[arm_isTrue_Compare,mk (ay h0).2]
  refine Tr.thn Mono.true (ha.1 _ _ _ _ _ _ _ hE h3 hw) fun x H1 v w1=>?_
  show Tr _ _ _ _ _ _ _ (holding [v] (eval m' env) >>= _) _
  refine Tr.thn dS (Tr.holding (he.1 _ _ _ _ _ _ _ hE h4 w1)) fun y H2 u w2=>?_
  refine Tr.skip (aw _) ?_
  refine aQ w2 fun z hz q=>?_
  rw[←ed h1]
  refine Tr.bind (Mono.and dS (Mono.vr _ _)) ((Tr.holding (fQ (Q:=fun x H'=>x=.d (.bool z)/\H'=H2) hT (fun B U h=>⟨h.1.2,h.2⟩) hz ⟨rfl,rfl⟩)).mono ?_)
  refine e8 fun k=>?_
  refine Tr.skip (b5 _ _) ?_
  refine Tr.known (b:=z) (Mono.and (Mono.and dS (Mono.vr _ _)) (Mono.vr _ _)) (Tr.holding (c8 (z:=z) (fun B U h=>h.2) rfl ⟨rfl,rfl⟩)) ?_
  cases z with
  |false=>rw[ar (by decide)] at q;exact Tr.pure (fun _ _ _=>rfl) ⟨_,rfl,q⟩
  |true=>
   rw[au rfl] at q
   show Tr _ _ _ _ _ _ _ (holding [u] (eval b' env) >>= fun rv=>standAt pos >>= fun _=>operate [u,rv] (compareOp p2 u rv) >>= fun c=>holding [c] (truthy c)) _
   refine Tr.thn (Mono.and (Mono.and dS (Mono.vr _ _)) (Mono.vr _ _)) (Tr.holding (hb.1 _ _ _ _ _ _ _ hE h5 q)) fun y3 H3 u3 w3=>?_
   refine aQ w3 fun z2 hz2 q2=>?_
   refine Tr.skip (aw _) ?_
   rw[←ed h2]
   refine Tr.bind (Mono.and (Mono.and (Mono.and dS (Mono.vr _ _)) (Mono.vr _ _)) (Mono.vr _ _)) ((Tr.operate (fQ (Q:=fun x H'=>x=.d (.bool z2)/\H'=H3) hT (fun B U h=>⟨h.1.1.2,h.2⟩) hz2 ⟨rfl,rfl⟩)).mono ?_)
   refine e8 fun k2=>?_
   exact Tr.holding (c8 (z:=z2) (fun B U h=>h.2) rfl ⟨_,rfl,q2⟩)
theorem xT{env:Env}(pos:Pos):backToKw pos (keywordEach [] env)=[]:=rfl
theorem r5{n:Nat}{ts:List (Bool×Sem Value)}(ha:ts.all (fun x=>!x.1)=true)(hn:n<20):methodCallForm n ts []=true:=by
 show (ts.all (fun x=>!x.1)&&true&&decide (n+0<30))=true
 rw[ha,decide_eq_true (Nat.lt_of_lt_of_le hn (by decide):n+0<30)];rfl
theorem tU:∀ts:List (Sem Value),(ts.map fun t=>(false,t)).all (fun x=>!x.1)=true:=by
 intro ts
 induction ts with
 |nil=>exact rfl
 |cons _ ts ihr=>exact ihr
theorem qU{args:List Expr}{pos:Pos}{es:X}(hc:bz T sc es args=true)(hl:args.length<20):methodCallForm (args.length+([]:List Keyword).length) (backTo pos (starEach args env)) (backToKw pos (keywordEach [] env))=true:=by
 rw[bN hc,bv,xT]
 exact r5 (tU _) hl
theorem jR{o:Expr}{x:Str}{apos pos:Pos}{args:List Expr}{es:X}(hb:b6 o=true)(hf:fq args apos pos=true)(hc:bz T sc es args=true):eval (.Call (.Attribute o x apos) args [] pos) env=(do
  let ov ← eval o env
  standAt apos.atName
  let fx ← holding [ov] (getMethod ov x (do return (← importBound o env).getD true))
  callWith pos fx.1 fx.2 ((iw args env).map fun t=>(false,t)) []):=by
 refine aS hf fun h1 h2=>?_
 rw[arm_eval_Call,mv hb]
 unfold methodCall
 rw[qU hc (of_decide_eq_true h1)]
 have e1:methodCallPos true o env apos pos=pure pos:=by unfold methodCallPos;simp[h2]
 rw[e1,bN hc,bv]
 rfl
theorem bx{M:Model}{f:Value}(hf:(∃id,f=.builtin id)\/∃t,f=.type t)(h:Heap):∃k,(k=Keeper.frame\/k=Keeper.machine\/k=Keeper.boundFrame)/\Looks M h (keeperOf f) k:=by
 refine⟨.machine,.inr (.inl rfl),?_⟩
 rcases hf with ⟨id,rfl⟩|⟨t,rfl⟩
 ·exact Looks.of_pure rfl
 ·exact Looks.of_pure rfl
theorem v7{b:Bi}(h:qP b=true):bootBuiltins (dr b)=some (.builtin (qn b))/\dr b∈([("len":Str), "ord", "chr", "min", "sum", "range", "dict", "enumerate"]:List Str)/\(dr b==("__debug__":Str))=false/\dr b ≠ "__name__":=by
 cases b with
 |len=>exact⟨boot_len,.head _,by decide,by decide⟩
 |ord=>exact⟨boot_ord,.tail _ (.head _),by decide,by decide⟩
 |chr=>exact⟨boot_chr,.tail _ (.tail _ (.head _)),by decide,by decide⟩
 |_=>nomatch h
theorem PB(hT:TabOk c T){b:Bi}{es:X}(he:aR c T r es):SX c T r (.bi b es):=by
 intro sc L env e m H Q hE hc hw
 refine Eu hc fun p args q h1 h3 h4=>?_
 have ev:eval (.Call (.Name (dr b) p) args [] q) env=(eval (.Name (dr b) p) env >>= fun f=>callWith q f [] ((iw args env).map fun t=>(false,t)) []):=by
  show (eval (.Name (dr b) p) env >>= fun f=>callWith q f [] (backTo q (starEach args env)) (backToKw q (keywordEach [] env))) = _
  rw[bN h4,bv]
  rfl
 rw[ev]
 obtain⟨boot,hmem,nd,nn⟩:=v7 h1
 have name:Tr (fun _ _ v (_:Unit)=>v=.builtin (qn b)) c r L m (fun _ _=>True) H (eval (.Name (dr b) p) env) fun _ H'=>H'=H:=by
  intro A E s B Z U hA ht hR hF hp
  refine Name_function_global (by rw[hE.scope];exact hE.kind) (by unfold Env.kindOf;rw[hE.scope];exact bb h3) ?_ nd
  refine loadGlobal_builtin (mg:=c.mg) (mb:=c.mb) (by rw[hE.globals];exact c.gns.keeps (hR.base.1.trans hR.kB)) (hT.bn _ hmem) (by rw[hE.builtins];exact c.bns.keeps (hR.base.1.trans hR.kB)) (by rw[c.blt _ nn];exact boot) ?_
  exact aM (x:=()) (tk:=s.toks) hR hF rfl rfl
 refine Tr.thn Mono.true name fun _ H1 f hH=>?_
 subst hH
 refine bP (fun _ _ _ _ _ _ h=>h) (fun B U h h' _ _=>bx (.inl ⟨_,h.2⟩) h') ?_
 refine (he.2.2 _ _ _ _ _ _ _ hE h4 hw).lift.mono fun vs H2 w vals=>?_
 refine aQ w fun ds hd w=>?_
 refine aQ w fun z hz q=>?_
 intro A E s B Z U hA ht hR hF hp
 obtain⟨⟨_,rfl⟩,hv⟩:=hp
 exact EO (P:=fun B U=>VRs B U vals vs) (fun B U Z h hv R=>oq R hd hv) hz q A E s B Z U hA ht hR hF hv
theorem Hy(hT:TabOk c T){k:Nat}{es:X}(he:aR c T r es):SX c T r (.call k es):=by
 intro sc L env e m H Q hE hc hw
 refine s8 hc fun x p args q h1 h2 h3 h4 h5=>?_
 refine aQ hw fun f hf w=>?_
 refine ax hf fun gv hg hfv=>?_
 have eg:gv=.g f:=by cases gv<;>first|(cases hfv;rfl)|cases hfv
 subst eg
 have ev:eval (.Call (.Name x p) args [] q) env=(eval (.Name x p) env >>= fun f=>callWith q f [] ((iw args env).map fun t=>(false,t)) []):=by
  show (eval (.Name x p) env >>= fun f=>callWith q f [] (backTo q (starEach args env)) (backToKw q (keywordEach [] env))) = _
  rw[bN h5,bv]
  rfl
 rw[ev]
 obtain⟨wv,hw1,hw2⟩:=hT.gl _ _ _ hg (D8 h1)
 rw[bW] at hw1
 have name:=ma (P:=fun _ _=>True) (H:=H) (m:=m) (r:=r) (p:=p) (Q:=fun y H'=>y=.g f/\H'=H) hE (bb h2) (c4 h3) hw1 hw2 ⟨rfl,rfl⟩
 refine Tr.thn Mono.true name ?_
 rintro _ H1 fv ⟨rfl,rfl⟩
 refine bP dS (fun B U h h' X _=>?_) ?_
 ·obtain⟨_,hv⟩:=h
  cases hv
  exact keeps_K (hT.kp _ _ h4 hg) h' X
 refine (he.2.2 _ _ _ _ _ _ _ hE h5 w).lift.mono fun vs H2 w vals=>?_
 intro A E s B Z U hA ht hR hF hp
 obtain⟨⟨_,hv⟩,hvs⟩:=hp
 cases hv
 exact tA (P:=fun B U=>VRs B U vals vs) (fun B U h=>h) w A E s B Z U hA ht hR hF hvs
theorem pV(hT:TabOk c T){o:Value}{ov:V}{a:Nat}{pl:Sem Bool}{p:Addr×Nat}{Q:Callee->Hp->Prop}(hv:∀B U,P B U->VR B U o ov)(e:dp T H ov a=some p)(q1:fnIn c.K p.1=true->Q (.fn p.1 p.2) H)(q2:fnIn c.K p.1=true->Q (.bound p.1 p.2) H):Tr CR c r L m P H (getMethod o (c.nm a) pl) Q:=by
 cases ov with
 |r n=>
  unfold dp at e
  dsimp only at e
  rcases hn:H[n]? with _|_|cl
  ·rw[hn] at e;nomatch e
  ·rw[hn] at e;nomatch e
  ·rw[hn] at e
   cases cl with
   |inst C fs=>
    dsimp only at e
    rcases hy:lk a fs with _|y
    ·rw[hy] at e
     obtain⟨f,hf,rfl⟩:=ai e
     have hm:=hT.meth _ _ _ hf
     exact nV hv hn hy hm (q1 (KO hm))
    ·rw[hy] at e
     cases y with
     |m f k=>
      obtain⟨hf,rfl⟩:=dA e
      exact i7 hv hn hy (q2 (hT.fn _ hf))
     |_=>nomatch e
   |_=>nomatch e
 |_=>nomatch e
theorem PE(hT:TabOk c T){o es:X}{a:Nat}(ho:aR c T r o)(he:aR c T r es):SX c T r (.mc o a es):=by
 intro sc L env e m H Q hE hc hw
 refine Ey hc fun o' x apos args pos h1 h2 h3 h4 h5=>?_
 rw[jR h3 h4 h5]
 have e:=cC hT h1
 subst e
 refine Tr.thn Mono.true (ho.1 _ _ _ _ _ _ _ hE h2 hw) fun ov H1 v w1=>Tr.skip (aw _) ?_
 refine aQ w1 fun p hp w=>?_
 refine Tr.bind dS (Tr.holding (pV (Q:=fun y H'=>(y=.fn p.1 p.2\/y=.bound p.1 p.2)/\fnIn c.K p.1=true/\H'=H1) hT (fun B U h=>h.2) hp (fun h=>⟨.inl rfl,h,rfl⟩) fun h=>⟨.inr rfl,h,rfl⟩)|>.mono ?_)
 rintro y _ ⟨hy,hfn,rfl⟩ fx
 refine bP (Mono.and dS (Mono.cr _ _)) (fun B U h h' X sB=>?_) ?_
 ·obtain⟨_,hcr⟩:=h
  rcases hy with rfl|rfl
  ·cases hcr with
   |fn hφ=>exact xR hfn h' X
  ·cases hcr with
   |bound hb=>
    cases hb with
    |m hφ hq=>exact keeps_M hfn h' ⟨sB _ _ hq,X⟩
 refine (he.2.2 _ _ _ _ _ _ _ hE h5 w).lift.mono fun vs H2 w vals=>?_
 intro A E s B Z U hA ht hR hF hp
 obtain⟨⟨_,hcr⟩,hvs⟩:=hp
 rcases hy with rfl|rfl
 ·cases hcr with
  |fn hφ=>exact tA (P:=fun B U=>VRs B U (.ref _::vals) (.r p.2::vs)) (fun B U h=>h) w A E s B Z U hA ht hR hF (.cons (.r hφ) hvs)
 ·cases hcr with
  |bound hb=>exact lw (P:=fun B U=>VRs B U vals vs/\VR B U _ (.m p.1 p.2)) (fun B U h=>h) w A E s B Z U hA ht hR hF ⟨hvs,hb⟩
end
section
variable {c:Cx}{T:aW}{r:Nat}{sc:Scope}{L:Addr}{env:Env}{m:aD}{H:Hp}{P:Heap->Ph->Prop}{B Z h:Heap}{U:Ph}
theorem PC{b:Bi}{o es:X}(ho:aR c T r o)(he:aR c T r es):SX c T r (.bm b o es):=by
 intro sc L env e m H Q hE hc hw
 refine Ew hc fun o' x apos args pos h1 h2 h3 h4 h5=>?_
 rw[jR h3 h4 h5]
 refine Tr.thn Mono.true (ho.1 _ _ _ _ _ _ _ hE h2 hw) fun ov H1 v w1=>Tr.skip (aw _) ?_
 cases ov with
 |d d=>cases d with
  |str sx=>
    refine Tr.bind dS ((Tr.holding (ij (Q:=fun _ H'=>H'=H1) (fun B U h=>h.2) h1 rfl)).mono ?_)
    rintro _ _ rfl fx
    refine bP (P:=fun B U=>(True/\VR B U v (.d (.str sx)))/\fx=(.builtin (qn b),[v])) (Mono.and dS fun _ _ _ _ _ _ h=>h) (fun B U h h' _ _=>by rw[h.2];exact bx (.inl ⟨_,rfl⟩) h') ?_
    refine (he.2.2 _ _ _ _ _ _ _ hE h5 w1).lift.mono fun vs H2 w vals=>?_
    refine aQ w fun ds hd w=>?_
    refine aQ w fun z hz q=>?_
    intro A E s B Z U hA ht hR hF hp
    obtain⟨⟨⟨_,hv⟩,rfl⟩,hvs⟩:=hp
    exact EO (P:=fun B U=>VR B U v (.d (.str sx))/\VRs B U vals vs) (fun B U Z h hh R=>.cons (hh.1.d_of.mono R.kB) (oq R hd hh.2)) hz q A E s B Z U hA ht hR hF ⟨hv,hvs⟩
  |_=>exact False.elim w1
 |_=>exact False.elim w1
theorem dN{o:Expr}{x:Str}{apos pos:Pos}{args:List Expr}(hb:b6 o=true)(hp:(apos.endLine==pos.line)=true)(hl:args.length<20){ts:List (Bool×Sem Value)}(hs:backTo pos (starEach args env)=ts)(hall:ts.all (fun x=>!x.1)=true):eval (.Call (.Attribute o x apos) args [] pos) env=(do
  let ov ← eval o env
  standAt apos.atName
  let fx ← holding [ov] (getMethod ov x (do return (← importBound o env).getD true))
  callWith pos fx.1 fx.2 ts []):=by
 rw[arm_eval_Call,mv hb]
 unfold methodCall
 have hf:methodCallForm (args.length+([]:List Keyword).length) (backTo pos (starEach args env)) (backToKw pos (keywordEach [] env))=true:=by
  rw[hs,xT];exact r5 hall hl
 rw[hf]
 have e1:methodCallPos true o env apos pos=pure pos:=by unfold methodCallPos;simp[hp]
 rw[e1,hs]
 rfl
theorem Ma{y z:SQ}(h:(!(y==z))=true):(Sl y==Sl z)=false:=by
 cases q:Sl y==Sl z with
 |false=>rfl
 |true=>rw[show y=z from congrArg PySem.Str.l (eq_of_beq q),beq_self_eq_true] at h;nomatch h
theorem HD{o:X}{y z:SQ}(ho:aR c T r o):SX c T r (.repl o y z):=by
 intro sc L env e m H Q hE hc hw
 refine tc hc fun o' apos p1 p2 pos k1 k2 h1 h2 h3 h4 h5=>?_
 rw[dN (ts:=[(false,eval (.Constant (.str (Sl y)) k1 p1) env),(false,eval (.Constant (.str (Sl z)) k2 p2) env)]) h2 h3 (by simp) rfl rfl]
 refine Tr.thn Mono.true (ho.1 _ _ _ _ _ _ _ hE h1 hw) fun ov H1 v w1=>Tr.skip (aw _) ?_
 cases ov with
 |d d=>cases d with
  |str sx=>
    refine Tr.bind dS ((Tr.holding (ij (b:=.replace) (Q:=fun _ H'=>H'=H1) (fun B U h=>h.2) rfl rfl)).mono ?_)
    rintro _ _ rfl fx
    intro A E s B Z U hA ht hR hF hp
    obtain⟨⟨_,hv⟩,rfl⟩:=hp
    exact ry (P:=fun B U=>DV B v (.str sx)) (x:=sx) (y:=Sl y) (z:=Sl z) (fun B U h=>h) h4 (Ma h5) w1.1 w1.2 A E s B Z U hA ht hR hF hv.d_of
  |_=>exact False.elim w1
 |_=>exact False.elim w1
theorem iB{H:Hp}{v:V}{p:Nat×Cell}(h:cellOf H v=some p):v=.r p.1/\H[p.1]?=some (some p.2):=by
 cases v with
 |r n=>
  unfold cellOf at h
  dsimp only at h
  rcases hn:H[n]? with _|_|cl
  ·rw[hn] at h;nomatch h
  ·rw[hn] at h;nomatch h
  ·rw[hn] at h;cases h;exact⟨rfl,hn⟩
 |_=>nomatch h
theorem LS{o a:X}(ho:aR c T r o)(ha:aR c T r a):SX c T r (.app o a):=by
 intro sc L env e m H Q hE hc hw
 refine yO hc fun o' a' apos pos h1 h2 h3 h4=>?_
 have ns:starEach [a'] env=[(false,eval a' env)]:=kS (ay h4).1
 rw[dN (ts:=[(false,eval a' env)]) h2 h3 (by simp) (by rw[ns];rfl) rfl]
 refine Tr.thn Mono.true (ho.1 _ _ _ _ _ _ _ hE h1 hw) fun ov H1 v w1=>Tr.skip (aw _) ?_
 obtain⟨hl,w1⟩:=w1
 obtain⟨n,cl,rfl,hn,hcl⟩:∃n cl,ov=.r n/\H1[n]?=some (some cl)/\(match cl with|.list _=>true|.dlist _=>true|_=>false)=true:=by
  cases ov with
  |r n=>
   unfold cJ at hl
   dsimp only at hl
   rcases hn:H1[n]? with _|_|cl
   ·rw[hn] at hl;exact nof2 hl
   ·rw[hn] at hl;exact nof2 hl
   ·rw[hn] at hl
    cases cl with
    |list=>exact⟨_,_,rfl,hn,rfl⟩
    |dlist=>exact⟨_,_,rfl,hn,rfl⟩
    |_=>exact nof2 hl
  |_=>exact nof2 hl
 refine Tr.bind dS ((Tr.holding (lx (Q:=fun _ H'=>H'=H1) (fun B U h=>h.2) hn (by cases cl<;>first|rfl|cases hcl) rfl)).mono ?_)
 rintro _ _ rfl fx
 refine bP (ts:=[eval a' env]) (P:=fun B U=>(True/\VR B U v (.r n))/\fx=(.builtin "list.append", [v])) (Mono.and dS fun _ _ _ _ _ _ h=>h) (fun B U h h' _ _=>by rw[h.2];exact bx (.inl ⟨_,rfl⟩) h') ?_
 refine cv (Mono.and dS fun _ _ _ _ _ _ h=>h) ((ha.1 _ _ _ _ _ _ _ hE (ay h4).2 w1).lift.mono fun x H2 w u=>bI fun vals=>?_)
 refine aQ w fun p hp w=>?_
 refine aQ w fun cl' hcl' q=>?_
 have ep:H2[n]?=some (some p.2)/\p.1=n:=by
  obtain⟨e1,e2⟩:=iB hp
  cases e1;exact⟨e2,rfl⟩
 obtain⟨ep,rfl⟩:=ep
 intro A E s B Z U hA ht hR hF hh
 obtain⟨⟨⟨_,hv⟩,rfl⟩,hvs⟩:=hh
 cases hvs with
 |cons hu hr=>
  cases hr
  exact vy (P:=fun B U=>VR B U v (.r p.1)/\VR B U _ x) (fun B U h=>h) ep hcl' q A E s B Z U hA ht hR hF ⟨hv,hu⟩
theorem tf{o':Expr}{o:X}{z:Bool}{apos:Pos}{pl:Sem Bool}{k:Value×List Value->Sem Value}{sc:Scope}{L:Addr}{env:Env}{m:aD}{H:Hp}{Q:SV}(ho:aR c T r o)(hE:aZ c sc L env)(h1:aC T sc o o'=true)(hw:wX c T r (.pop o z) m H Q)
  (kk:∀(n:Nat) (cl:Cell) (v:Value) (y:V×Cell) (H1:Hp),H1[n]?=some (some cl)->nI z cl=some y->Q y.1 (H1.set n (some y.2))->Tr VR c r L m (fun B U=>True/\VR B U v (.r n)) H1 (k (.builtin "list.pop", [v])) Q) :
  Tr VR c r L m (fun _ _=>True) H (do
   let ov ← eval o' env
   standAt apos.atName
   let fx ← holding [ov] (getMethod ov "pop" pl)
   k fx) Q:=by
 refine Tr.thn Mono.true (ho.1 _ _ _ _ _ _ _ hE h1 hw) fun ov H1 v w1=>Tr.skip (aw _) ?_
 refine aQ w1 fun p hp w=>aQ w fun y hy q=>?_
 obtain⟨rfl,hn⟩:=iB hp
 refine Tr.bind dS ((Tr.holding (nX (Q:=fun _ H'=>H'=H1) (fun B U h=>h.2) hn (CV hy) rfl)).mono ?_)
 rintro _ _ rfl fx
 intro A E s B Z U hA ht hR hF hh
 obtain⟨hh,rfl⟩:=hh
 exact kk _ _ v y _ hn hy q A E s B Z U hA ht hR hF hh
theorem L4{o:X}{z:Bool}(ho:aR c T r o):SX c T r (.pop o z):=by
 intro sc L env e m H Q hE hc hw
 refine yW hc fun o' k q apos pos h1 h2 h3=>?_
 cases z with
 |true=>
  show Tr VR c r L m _ H (eval (.Call (.Attribute o' "pop" apos) [.Constant (.int 0) k q] [] pos) env) Q
  rw[dN (ts:=[(false,eval (.Constant (.int 0) k q) env)]) h2 h3 (by simp) rfl rfl]
  refine tf ho hE h1 hw fun n cl v y H1 hn hy qq=>?_
  refine bP (ts:=[eval (.Constant (.int 0) k q) env]) dS (fun B U h h' _ _=>bx (.inl ⟨_,rfl⟩) h') ?_
  refine cv dS ((kW (d:=.int 0) (Q:=fun x H'=>x=.d (.int 0)/\H'=H1) rfl ⟨rfl,rfl⟩).mono fun x H2 w u=>bI fun vals=>?_)
  obtain⟨rfl,rfl⟩:=w
  intro A E s B Z U hA ht hR hF hh
  obtain⟨⟨_,hv⟩,hvs⟩:=hh
  cases hvs with
  |cons hu hr=>
   cases hr
   obtain⟨t,rfl⟩:=hu.d_of.int_of
   exact Aa (P:=fun B U=>VR B U v (.r n)) (z:=true) (t:=t) (fun B U h=>h) hn hy qq A E s B Z U hA ht hR hF hv
 |false=>
  show Tr VR c r L m _ H (eval (.Call (.Attribute o' "pop" apos) [] [] pos) env) Q
  rw[dN (ts:=[]) h2 h3 (by simp) rfl rfl]
  refine tf ho hE h1 hw fun n cl v y H1 hn hy qq=>?_
  refine bP (ts:=[]) dS (fun B U h h' _ _=>bx (.inl ⟨_,rfl⟩) h') ?_
  refine bI fun vals=>?_
  intro A E s B Z U hA ht hR hF hh
  obtain⟨⟨_,hv⟩,hvs⟩:=hh
  cases hvs
  exact Aa (P:=fun B U=>VR B U v (.r n)) (z:=false) (t:=0) (fun B U h=>h) hn hy qq A E s B Z U hA ht hR hF hv
end
section
variable {c:Cx}{T:aW}{r:Nat}{sc:Scope}{L:Addr}{env:Env}{m:aD}{H:Hp}{P:Heap->Ph->Prop}{B Z h:Heap}{U:Ph}
inductive jH(c:Cx)(T:aW)(r:Nat):X->Prop
 |nil:jH c T r .nil
 |cons {a b:X}:SX c T r a->jH c T r b->jH c T r (.cons a b)
 |bad {x:X}:(∀sc es,bz T sc x es=false)->jH c T r x
inductive ML(T:aW)(i:Nat):Option Expr->Prop
 |mk {x:Str}{k:Nat}{p:Pos} (h:b0 T i x=true):ML T i (some (.Constant (.str x) k p))
theorem xS{i:Nat}{o:Option Expr}(h:Ed T i o=true):ML T i o:=by
 refine dJ h fun e h1 h=>?_
 rw[h1];exact yK (C:=fun e=>ML T i (some e)) h fun x n p h=>.mk h
inductive tK(T:aW):SQ->List (Option Expr)->Prop
 |nil:tK T [] []
 |cons {i:Nat}{o:Option Expr}{ks:SQ}{es:List (Option Expr)} (h:ML T i o) (t:tK T ks es):tK T (i::ks) (o::es)
theorem Ca{ks:SQ}{es:List (Option Expr)}(h:m6 T ks es=true):tK T ks es:=by
 induction ks generalizing es with
 |nil=>cases es with
  |nil=>exact .nil
  |cons=>nomatch h
 |cons i ks ih=>cases es with
  |nil=>nomatch h
  |cons e es=>exact .cons (xS (ay h).1) (ih (ay h).2)
theorem z9(hT:TabOk c T){es:X}(hs:jH c T r es){ks:SQ}{ks':List (Option Expr)}{es':List Expr}{pos:Pos}{m:aD}{H:Hp}{P:Heap->Ph->Prop}{Q:List (Nat×V)->Hp->Prop}(hP:Mono P)(hE:aZ c sc L env)(hk:tK T ks ks')(hc:bz T sc es es'=true)(hl:ks.length=es'.length)
  (hw:kY c T r es m H fun vs H1=>Q (ks.zip vs) H1):Tr (PR c) c r L m P H (evalPairs (pairTrees ks' es' env pos)) Q:=by
 induction hs generalizing ks ks' es' H P Q with
 |nil=>
  obtain rfl:=se hc
  cases hk with
  |nil=>exact i6 hw
  |cons=>nomatch hl
 |cons ha hb ih=>
  cases es' with
  |nil=>exact nof2 hc
  |cons e' es''=>
   have h1:=(ay (ay hc).2).1
   have h2:=(ay (ay hc).2).2
   cases hk with
   |nil=>nomatch hl
   |cons h t=>
    cases h with
    |mk h=>exact ie hP (cC hT h) ((ha _ _ _ _ _ _ _ hE h1 hw).lift.mono fun x H' w v=>ih (Mono.and hP (Mono.vr _ _)) t h2 (Nat.succ.inj hl) w)
 |bad h=>rw[h] at hc;nomatch hc
theorem uR{ks:SQ}{ks':List (Option Expr)}(h:tK T ks ks'):ks'.all (·.isSome)=true/\ks'.length=ks.length:=by
 induction h with
 |nil=>exact⟨rfl,rfl⟩
 |cons h t ih=>cases h with|mk=>exact⟨ih.1,congrArg (·+1) ih.2⟩
theorem pI{ks:SQ}(h:iQ ks=true):ks.Nodup:=by
 induction ks with
 |nil=>exact List.nodup_nil
 |cons x r ih=>exact List.nodup_cons.mpr ⟨fun q=>(by have h1:=(ay h).1;rw[List.contains_iff_mem.mpr q] at h1;nomatch h1),ih (ay h).2⟩
theorem LV(hT:TabOk c T){ks:SQ}{es:X}(he:jH c T r es):SX c T r (.dct ks es):=by
 intro sc L env e m H Q hE hc hw
 refine yR hc fun ks' es' p h1 h2 h3 h4 h5 h6=>?_
 have h1:=Ca h1
 obtain⟨a1,a2⟩:=uR h1
 refine Do hT a1 (a2.trans h6) (fun q=>h5 (List.length_eq_zero_iff.mp (a2.symm.trans (congrArg List.length q)))) (by rw[a2];omega) Mono.true ?_
 have hw':kY c T r es m (H++[some (.dict [])]) fun vs H1=>H1[H.length]?=some (some (.dict []))/\((ks.zip vs).map fun p:Nat×V=>p.1).Nodup/\(ks.zip vs).length<=900/\Q (.r H.length) (H1.set H.length (some (.dict (ks.zip vs)))):=hw
 exact z9 (Q:=fun (xs:List (Nat×V)) (H':Hp)=>H'[H.length]?=some (some (.dict []))/\(xs.map fun p:Nat×V=>p.1).Nodup/\xs.length<=900/\Q (.r H.length) (H'.set H.length (some (.dict xs)))) hT he Mono.true hE h1 h3 h6 hw'
inductive CF(sc:Scope)(x:Str):Prop
 |mk (hk:sc.kind=.function) (hf:∀y∈sc.names,y.2≠.free) (hc:∀y∈sc.names,y.2≠.cell) (hl:∀y∈sc.names,y.2=.local->sc.names.lookup y.1=some .local) (hx:sc.names.lookup x=some .local)
theorem lE{i:Nat}{x:Str}(h:mB T sc i x=true):(b0 T i x=true/\T.fl=false)/\CF sc x:=by
 unfold mB at h
 refine d8 h fun h1 h2 h3 hx=>?_
 have h3:=aq h3
 refine⟨⟨(ay h1).1,by simpa using (ay h1).2⟩,?_,fun y hy q=>?_,fun y hy q=>?_,fun y hy q=>?_,bb hx⟩
 ·revert h2
  cases sc.kind<;>intro h2<;>first|rfl|cases h2
 all_goals have:=h3 y hy;rw[q] at this
 ·nomatch this
 ·nomatch this
 ·exact bb (ay this).2
theorem HE{t:X}(ht:aR c T r t){i:Nat}{ts:List Expr}(h4:gz t.isNon (aC T sc t) ts=true){x:V}{Q:Bool->Hp->Prop}(hE:aZ c sc L env)(hs:ER t.isNon (wX c T r t) [(i,x)] H Q) :
  Tr (fun _ _ v y=>v=y) c r L [(i,x)] (fun _ _=>True) H (tv ts env) Q:=by
 unfold tv
 revert h4 hs
 cases t.isNon with
 |true=>
  intro h4 hs
  rcases ts with _|⟨t',_|⟨t2,r'⟩⟩
  ·exact fun A E s B Z U hA ht hR hF hp=>wpAny_tests_nil (aM (tk:=s.toks) hR hF rfl hs)
  ·nomatch h4
  ·nomatch h4
 |false=>
  intro h4 hs
  rcases ts with _|⟨t',_|⟨t2,r'⟩⟩
  ·nomatch h4
  ·refine fun A E s B Z U hA htk hR hF hp=>wpAny_tests_one ((ht.2.1 _ _ _ _ _ _ _ hE h4 (fun v H' h=>(ek h).imp fun _ q=>q.1) hs).mono ?_ A E s B Z U hA htk hR hF hp)
   rintro b H1 ⟨v,hv,q⟩
   rw[hv] at q
   exact q
  ·nomatch h4
theorem zx{elt t:X}{elt':Expr}{ts:List Expr}{i:Nat}(helt:aR c T r elt)(ht:aR c T r t)(h3:aC T sc elt elt'=true)(h4:gz t.isNon (aC T sc t) ts=true):jb c r sc i elt' ts (ee t.isNon (wX c T r t) (wX c T r elt) i):=by
 intro C env' x acc H K hE' hs
 refine (HE ht h4 hE' hs).mono fun b H1 q=>?_
 cases b with
 |true=>exact helt.1 _ _ _ _ _ _ _ hE' h3 q
 |false=>exact q
section
variable {A:Around}{E:SU}{s s₁:Shared}{p:CP}{Q:SV}{Qv:SU}{v:Value}{step:V->List D->Hp->(List D->Hp->Prop)->Prop}
theorem t7(hA:Room r A)(ht:1<=s₁.toks)(hc:CF p.scope (c.nm p.i))(hE:aZ c sc L env)(hcp:c.cs=[]/\∀i q,lP i c.fr=some q->((relabel p.scope env).names.lookup (c.nm i)).any cI=true->p.cl.lookup (c.nm i)=some q.1)(hstep:jb c r (relabel p.scope env) p.i p.elt p.ifs step)(R1:Rel c B Z U L H s₁.heap)(F1:FrR c B U L m s₁.heap){d:D}{ds:List D}(hv:DV B v d)(hds:b8 d=some ds)
  (w:dY step (ds.map .d) [] H fun acc H2=>Q (.d (.list acc)) H2)(db:∀v s',EndT VR c B Z U L m Q s₁ v s'->Qv v s'):wpAny c.M A (pyIter v) (wj c A E p env Qv) E s₁:=by
 refine fJ R1 hv hds fun o ft Pi St ho its st=>?_
 obtain⟨R2,S2⟩:=R1.pinNew (a:=s₁.heap.objs.size) ho (Nat.ne_of_gt F1.lt) (ba o) aG (Heap.get?_push_size _ ho)
 cases hc with
 |mk hk hf hc hl hx=>
  exact lF hA ht hc hk hx hE (fun _=>hcp) hstep ho (R1.noZ aG) its st R2 (F1.keep fun x e=>Heap.get?_push_of_some _ e) w
   fun h' tk B' U' H' acc v b p R F dv q=>db _ _ (.mk h' tk B' U' _ H' rfl b p R F (.d dv) q)
end
theorem lG{A:Around}{E:SU}{s:Shared}{p:CP}{Qv:SU}(hclos:closureFor p.scope env=pure p.cl)(hk:p.scope.kind=.function)(hl:∀y∈p.scope.names,y.2=.local->p.scope.names.lookup y.1=some .local)(hs:∀z,foldedSetIterable p.iter env z=pure z)
  (h:wpAny c.M A (eval p.iter env) (fun v s₁=>wpAny c.M A (pyIter v) (wj c A E p env Qv) E s₁) E s):wpAny c.M A (eval (p.e c) env) Qv E s:=by
 unfold CP.e
 rw[eval_ListComp]
 exact wpAny_comprehension_free (use:=none) rfl hs hclos hk hl h
theorem i4{env:Env}{scope:Scope}{n:Str}{k:NameKind}(hc:∀y∈scope.names,y.2≠.cell)(h:((relabel scope env).names.lookup n)=some k)(hk:cI k=true):(n,NameKind.free)∈scope.names:=by
 obtain⟨⟨n',k'⟩,hm,e⟩:=List.mem_map.mp (mem_of_lookup h)
 have e:(if (k'==.free&&env.scope.kind==.function&&env.kindOf n'==some .cell)=true then (n',NameKind.cell) else (n',k'))=(n,k):=e
 have hne:=hc _ hm
 by_cases q:(k'==.free&&env.scope.kind==.function&&env.kindOf n'==some .cell)=true
 ·rw[au q] at e
  cases e
  have:k'=.free:=eq_of_beq (ay (ay q).1).1
  rw[←this];exact hm
 ·rw[ar q] at e
  cases e
  cases k with
  |free=>exact hm
  |cell=>exact absurd rfl hne
  |_=>exact nof2 hk
theorem HB{elt it t:X}{i:Nat}(hT:TabOk c T)(helt:aR c T r elt)(hit:aR c T r it)(ht:aR c T r t):SX c T r (.comp elt i it t):=by
 intro sc L env e m H Q hE hc hw
 refine nC hc fun elt' it' x px ts scope p h1 h2 h3 h4=>?_
 obtain⟨⟨hn,h0⟩,hCF⟩:=lE h1
 obtain rfl:=cC hT hn
 obtain rfl:=hE.scope
 intro A E s B Z U hA htk hR hF hp
 have hf:∀y∈scope.names,y.2≠.free:=by cases hCF;assumption
 refine lG (p:=⟨elt',it',i,px,ts,scope,p,[]⟩) (closureFor_none hf) (by cases hCF;assumption) (by cases hCF;assumption) (gZ (ay h2).1 env) (wpAny_mono (wpAny_toks_of htk (hit.1 _ _ _ _ _ _ _ hE (ay h2).2 hw A E s B Z U hA htk hR hF trivial)) (fun v s₁ h=>?_) fun _ _ y=>y.2)
 have hcl:∀i q,lP i c.fr=some q->((relabel scope env).names.lookup (c.nm i)).any cI=true->([]:List (Str×Addr)).lookup (c.nm i)=some q.1:=fun i q _ h=>by
  refine dJ h fun k h1 h2=>?_
  exact absurd rfl (hf _ (i4 (by cases hCF;assumption) h1 h2))
 obtain⟨ht1,h₁,tk₁,B₁,U₁,xv,H₁,rfl,sB,sP,R1,F1,rv,w⟩:=h
 have st:jb c r (relabel scope env) i elt' ts _:=zx (i:=i) helt ht h3 h4
 cases xv with
 |d d=>refine aQ w fun ds hds w=>?_;exact t7 hA ht1 hCF hE ⟨hT.nocs h0,hcl⟩ st R1 F1 rv.d_of hds w fun v s' x=>x.trans rfl sB sP
 |_=>exact w.elim
noncomputable def AV(env:Env):List (Str×NameKind)->List (Str×Addr)->List (Str×Addr)
 |[],acc=>acc
 |x::r,acc=>AV env r (if (x.2==.free)=true then (x.1,(env.cells.lookup x.1).getD 0)::acc else acc)
theorem wy{env:Env}(f:Str×NameKind->List (Str×Addr)->Sem (ForInStep (List (Str×Addr))))(hf:∀x acc,f x acc=if (x.2==.free)=true then (do let a ← PySem.cellOf env x.1;pure (.yield ((x.1,a)::acc))) else pure (.yield acc)) :
  ∀(names:List (Str×NameKind)) (acc:List (Str×Addr)),(∀x∈names,x.2=.free->∃a,env.cells.lookup x.1=some a)->(forIn names acc f:Sem _)=pure (AV env names acc):=by
 intro names
 induction names with
 |nil=>intro acc _;rw[List.forIn_nil];rfl
 |cons x r ihr=>
  intro acc h
  rw[List.forIn_cons,hf]
  have ih:=fun acc=>ihr acc fun y hy=>h y (ad _ hy)
  by_cases q:(x.2==.free)=true
  ·obtain⟨a,ha⟩:=h x aa (eq_of_beq q)
   rw[au q]
   unfold PySem.cellOf
   rw[ha]
   show (forIn r ((x.1,a)::acc) f:Sem _) = _
   rw[ih]
   show _ = pure (AV env r (if (x.2==.free)=true then (x.1,(env.cells.lookup x.1).getD 0)::acc else acc))
   rw[au q,ha];rfl
  ·rw[ar q]
   show (forIn r acc f:Sem _) = _
   rw[ih]
   show _ = pure (AV env r (if (x.2==.free)=true then (x.1,(env.cells.lookup x.1).getD 0)::acc else acc))
   rw[ar q]
theorem Fj{env:Env}{n:Str}{a:Addr}(ha:env.cells.lookup n=some a):∀(names:List (Str×NameKind)) (acc:List (Str×Addr)),(n,NameKind.free)∈names\/acc.lookup n=some a->(AV env names acc).lookup n=some a:=by
 intro names
 induction names with
 |nil=>intro acc h;exact h.elim (fun h=>by cases h) id
 |cons x r ihr=>
  intro acc h
  refine ihr _ ?_
  have keep:acc.lookup n=some a->(if (x.2==.free)=true then (x.1,(env.cells.lookup x.1).getD 0)::acc else acc).lookup n=some a:=fun h=>by
   split
   ·rw[List.lookup_cons]
    cases q:n==x.1 with
    |true=>rw[←eq_of_beq q,ha];rfl
    |false=>exact h
   ·exact h
  rcases h with h|h
  ·rcases List.mem_cons.mp h with e|h
   ·refine .inr ?_
    rw[←e]
    show ((n,(env.cells.lookup n).getD 0)::acc).lookup n=some a
    rw[ha,List.lookup_cons,beq_self_eq_true];rfl
   ·exact .inl h
  ·exact .inr (keep h)
inductive Rx(c:Cx)(sc scope:Scope)(fs:SQ)(x:Str):Prop
 |mk (hk:scope.kind=.function) (hc:∀y∈scope.names,y.2≠.cell) (hl:∀y∈scope.names,y.2=.local->scope.names.lookup y.1=some .local) (hx:scope.names.lookup x=some .local)
  (hf:∀n,(n,NameKind.free)∈scope.names->(sc.names.lookup n).any cI=true/\∃j∈fs,c.nm j=n)
theorem qy(hT:TabOk c T){fs:SQ}{scope:Scope}{i:Nat}{x:Str}(h:jr T sc scope fs i x=true):(b0 T i x=true/\T.fl=false)/\Rx c sc scope fs x:=by
 unfold jr at h
 refine d8 h fun h1 h2 h3 hx=>?_
 have h3:=aq h3
 refine⟨⟨(ay h1).1,by simpa using (ay h1).2⟩,?_,fun y hy q=>?_,fun y hy q=>?_,bb hx,fun n hn=>?_⟩
 ·revert h2
  cases scope.kind<;>intro h2<;>first|rfl|cases h2
 ·have:=h3 y hy;rw[q] at this;nomatch this
 ·have:=h3 y hy;rw[q] at this;exact bb this
 ·obtain⟨a1,a2⟩:=ay (h3 _ hn)
  obtain⟨j,hj,e⟩:=List.any_eq_true.mp a2
  exact⟨a1,j,hj,cC hT e⟩
theorem BU{v:Value}{x:V}{A:Around}{E:SU}{s:Shared}{Q:SU}(hR:Rel c B Z U L H s.heap)(rv:VR B U v x)(e:GX x=true)
  (q:∀o ft Pi St,o.isFreed=false->Its c B Z U s.heap.objs.size ft ([]:List V) Pi St->St 0 (s.heap.push o)->Q (.ref s.heap.objs.size) { s with heap:=s.heap.push o }):wpAny c.M A (pyIter v) Q E s:=by
 have lst:DV B v (.list [])->wpAny c.M A (pyIter v) Q E s:=fun dv=>fJ hR dv (ds:=[]) rfl q
 cases rv with
 |@el a n hb=>exact lst (DV.list_at (vs:=[]) hb DVs.nil)
 |@d v x hd=>
  cases x with
  |list xs=>cases xs with
   |nil=>exact lst hd
   |cons=>nomatch e
  |dict kvs=>cases kvs with
   |cons=>nomatch e
   |nil=>
    obtain⟨a,o,n,rfl,h1,h2,h3,h4⟩:=hd.dict_of
    have hm:s.heap.DictAt (PySem.strKind c.prog c.w) a [] n:=⟨o,#[],hR.kB _ _ h2,h3,h4,fun e h=>by simp at h,.nil,List.nodup_nil⟩
    have na:a≠s.heap.objs.size:=Nat.ne_of_lt (Heap.lt_size (hR.kB _ _ h2))
    refine wpAny_pyIter_dict (knd:=PySem.strKind c.prog c.w) (by simpa using h1) hm (q _ [s.heap.objs.size,a] _ _ rfl ⟨fun A hh=>Walks.dictKeys (knd:=PySem.strKind c.prog c.w) hh s.heap.objs.size a na [] n,fun i v h=>?_,fun b hb=>?_,List.mem_cons_self ..,fun i h st=>?_⟩ ⟨⟨_,Heap.get?_push_size _ rfl,rfl,rfl⟩,hm.push _⟩)
    ·obtain⟨k,y,h,_⟩:=h;nomatch h
    ·rcases List.mem_cons.mp hb with h|h
     ·exact .inl h
     ·exact .inr (.inl ⟨o,(List.mem_singleton.mp h)▸h2⟩)
    ·obtain⟨⟨o,ho,_⟩,_⟩:=st;exact⟨o,ho⟩
  |_=>nomatch e
 |_=>nomatch e
theorem qx(hT:TabOk c T){fs:SQ}{scope:Scope}{i:Nat}{x:Str}(h:jq T sc scope fs i x=true):b0 T i x=true/\scope.kind=.function/\(∀y∈scope.names,y.2≠.cell)/\(∀y∈scope.names,y.2=.local->scope.names.lookup y.1=some .local)/\scope.names.lookup x=some .local ∧
  ∀n,(n,NameKind.free)∈scope.names->T.fl=true/\sc.names.lookup n=some .cell/\∃j∈fs,c.nm j=n:=by
 unfold jq at h
 refine d8 h fun h1 h2 h3 hx=>?_
 have h3:=aq h3
 refine⟨h1,?_,fun y hy q=>?_,fun y hy q=>?_,bb hx,fun n hn=>?_⟩
 ·revert h2
  cases scope.kind<;>intro h2<;>first|rfl|cases h2
 ·have:=h3 y hy;rw[q] at this;nomatch this
 ·have:=h3 y hy;rw[q] at this;exact bb this
 ·obtain⟨a0,a2⟩:=ay (h3 _ hn)
  obtain⟨j,hj,e⟩:=List.any_eq_true.mp a2
  exact⟨(ay a0).1,bb (ay a0).2,j,hj,cC hT e⟩
theorem Hz{it:X}{fs:SQ}{i:Nat}(hT:TabOk c T)(hit:aR c T r it):SX c T r (.cemp fs i it):=by
 intro sc L env e m H Q hE hc hw
 refine s9 hc fun elt' it' x px ts scope p h1 h2=>?_
 obtain⟨hn,hk,hnc,hl,hx,hf⟩:=qx hT h1
 obtain rfl:=cC hT hn
 have hclos:closureFor scope env=pure (AV env scope.names []):=by
  have H:∀y∈scope.names,y.2=.free->∃a,env.cells.lookup y.1=some a:=fun y hy q=>by
   obtain⟨a1,a2,j,hj,e⟩:=hf y.1 (by rw[←q];exact hy)
   obtain⟨a,_,ha⟩:=hE.cs2 j (hT.boxed a1) (by rw[e];exact a2)
   exact⟨a,e▸ha⟩
  simp only[closureFor]
  rw[wy (env:=env) _ ?hf scope.names [] H]
  ·rfl
  case hf=>rintro ⟨n,k⟩ acc;rfl
 intro A E s B Z U hA htk hR hF hp
 refine lG (p:=⟨elt',it',i,px,ts,scope,p,_⟩) hclos hk hl (gZ (ay h2).1 env) (Tr.run (hit.1 _ _ _ _ _ _ _ hE (ay h2).2 hw) hA htk hR hF trivial fun v h₁ tk₁ B₁ U₁ xv H₁ ht1 sB sP R1 F1 rv w=>?_)
 refine BU (s:={ s with heap:=h₁,toks:=tk₁ }) R1 rv w.1 fun o ft Pi St ho its st=>?_
 obtain⟨R2,S2⟩:=R1.pinNew (a:=h₁.objs.size) ho (Nat.ne_of_gt F1.lt) (ba o) aG (Heap.get?_push_size _ ho)
 exact lF (s₂:={ s with heap:=h₁.push o,toks:=tk₁ }) (step:=fun _ _ _ _=>False) (Qf:=fun acc H2=>acc=[]/\H2=H₁) hA ht1 hnc hk hx hE (fun n=>absurd rfl n) (fun C env' x acc H K hE' hs=>hs.elim) ho (R1.noZ aG) its st R2 (F1.keep fun x e=>Heap.get?_push_of_some _ e) ⟨rfl,rfl⟩
  fun h' tk B' U' H' acc v b p R F dv q=>by obtain⟨rfl,rfl⟩:=q;exact .mk h' tk B' U' _ H' rfl (sB.trans b) (sP.trans p) R F (.d dv) w.2
end
theorem gU:typeLookup (.type "list") "keys" = pure none:=by rw[typeLookup_type,builtinLookup_eq_fast];kernel_rfl
section
variable {prog:Program}{w:World}{A:Around}{E:SU}{s:Shared}
theorem CD{l:Addr}{n:Nat}{Q:Option Value->Shared->Prop}(ho:s.heap.get? l=some (listOf #[] n))(hh:A.handled=none)
  (h:∀h' tk,(∀b o,s.heap.get? b=some o->h'.get? b=some o)->Q none { s with heap:=h',toks:=tk }) :
  wpAny (model prog w) A (getAttr? (.ref l) "keys") Q E s:=by
 obtain⟨hp,g,d,t,os⟩:=s
 have hT:(⟨hp,g,d,t,os⟩:Shared).TypeIs (.ref l) "list":=⟨_,ho,rfl⟩
 have f2:=PySem.F.slot_list_getattribute.lookup
 have f3:=PySem.F.slot_list_getattribute.bind (.ref l)
 have f4:=gU
 unfold getAttr? getAttrBy?
 repeat (any_goals (first|assumption|((with_reducible show wpAny _ _ (call (Value.builtin "list.__getattribute__") _ _) _ _ _);refine call_meets PySem.F.slot_list_getattribute ⟨_,ho,rfl⟩ am_entry_list_getattribute (PySem.F.args_list_getattribute_2 _ _) (meets_getattribute_miss_list l #[] n #[] "keys" _ gU (by decide +kernel)) ⟨ho,hh,fun h' tk e hx=>?_⟩)|wp_step))
 have k:=hx.1
 obtain⟨t',u',he⟩:=hx.there
 have f1:=sub_AttributeError
 have f5:=am_list_getattr_none
 dsimp only
 unfold getattributeRaised
 repeat (any_goals (first|assumption|wp_step))
 exact h _ _ k
theorem k8{o:Addr}{n:Nat}{Q:SU}(ho:s.heap.get? o=some (listOf #[] n))(hh:A.handled=none)
  (h:∀h' tk,(∀b ob,(s.heap.push { cls:=.type "dict", data:=.dict #[] }).get? b=some ob->h'.get? b=some ob)->Q (.ref s.heap.objs.size) { s with heap:=h',toks:=tk }) :
  wpAny (model prog w) A (call (.type "dict") [.ref o]) Q E s:=by
 refine callType_codes (Q₁:=fun obj s₁=>obj=.ref s.heap.objs.size/\s₁={ s with heap:=s.heap.push { cls:=.type "dict", data:=.dict #[] } }) F.kt_called_dict (F.kt_typeCall_dict_1 _) F.entry_dict_init (kt_code_dict_new _ ⟨rfl,rfl⟩) ?_
 rintro obj s₁ ⟨rfl,rfl⟩
 have hd:(s.heap.push { cls:=.type "dict", data:=.dict #[] }).get? s.heap.objs.size=some { cls:=.type "dict", data:=.dict #[] }:=Heap.get?_push_size _ rfl
 have hT:({ s with heap:=s.heap.push { cls:=.type "dict", data:=.dict #[] } }:Shared).TypeIs (.ref s.heap.objs.size) "dict":=⟨_,hd,rfl⟩
 have ho':(s.heap.push { cls:=.type "dict", data:=.dict #[] }).get? o=some (listOf #[] n):=Heap.get?_push_of_some _ ho
 have hL:({ s with heap:=s.heap.push { cls:=.type "dict", data:=.dict #[] } }:Shared).TypeIs (.ref o) "list":=⟨_,ho',rfl⟩
 refine⟨hT,F.args_dict_init_2 _ _,?_⟩
 unfold Builtin.«dict.__init__»
 refine wpAny_bind ?_
 unfold Builtin.Dict.selfAndRest
 refine wpAny_bind (wpAny_notOrdered_dict hT ?_)
 show wpAny _ _ (pure (s.heap.objs.size,[Value.ref o])) _ _ _
 refine wpAny_pure ?_
 show wpAny _ _ (Builtin.Dict.updateFrom "dict.__init__" s.heap.objs.size (.ref o) [] .none) _ _ _
 unfold Builtin.Dict.updateFrom
 refine wpAny_bind (wpAny_typeOf hL ?_)
 rw[au (by decide)]
 refine wpAny_bind (CD (A:=A.in1.in1) ho' hh fun h' tk hk=>?_)
 rw[au (show (Option.none:Option Value).isNone=true from rfl)]
 refine wpAny_bind (wpAny_rule ?_)
 have hl:h'.IsList o #[]:=⟨_,hk _ _ ho',rfl,n,rfl⟩
 refine wpAny_bind (wpAny_pyIter_list hl ?_)
 refine wpAny_pure ⟨Code.quiet_builtin _ (by decide +kernel),?_⟩
 refine codeAny_builtin (b:=Builtin.«dict.update.loop») (entryFor_of_tree (by kernel_rfl)) ?_
 unfold Builtin.«dict.update.loop»
 have hi:(h'.push { cls:=.type "list_iterator", data:=.fields #[.ref o,.int 0 0] }).get? h'.objs.size=some { cls:=.type "list_iterator", data:=.fields #[.ref o,.int 0 0] }:=Heap.get?_push_size _ rfl
 have hl2:(h'.push { cls:=.type "list_iterator", data:=.fields #[.ref o,.int 0 0] }).IsList o #[]:=hl.push _
 refine wpAny_bind (wpAny_pyNext_list_end (i:=0) hh ⟨_,hi,rfl,rfl⟩ hl2 rfl fun h2 e2=>?_)
 refine wpAny_bind (wpAny_pure ?_)
 refine wpAny_pure ?_
 refine⟨rfl,h _ _ fun b ob hb=>?_⟩
 have q:=hk b ob hb
 exact e2 b ob (Nat.ne_of_lt (Heap.lt_size q)) (Heap.get?_push_of_some _ q)
end
section
variable {c:Cx}{T:aW}{r:Nat}
theorem PF:SX c T r .nl:=by
 intro sc L env e m H Q hE hc hw
 refine Ez hc fun p=>?_
 rw[arm_eval_List,bN (T:=T) (sc:=sc) (x:=.nil) rfl,bv]
 refine Tr.skip (aw _) (Tr.thn Mono.true (bI (Q:=fun vs H1=>vs=[]/\Q .el H1) ⟨rfl,hw⟩) fun vs H1 vals w=>?_)
 intro A E s B Z U hA ht hR hF hp
 obtain⟨_,hv⟩:=hp
 rw[w.1] at hv
 cases hv
 exact z8 (P:=fun _ _=>True) w.2 A E s B Z U hA ht hR hF trivial
theorem yl(hT:TabOk c T){L:Addr}{B:Heap}{a:Addr}(hG:c.G.objs.size<=L)(hn:L<a)(e:B.get? a=some ({ cls:=.type "dict", data:=.dict #[] }:Obj)):DV B (.ref a) (.dict []):=
 ⟨rfl,_,Reads.dict (n:=0) (kvs:=[]) e rfl rfl .nil .nil,OkAs.cons ⟨_,e,.inr ⟨Nat.ne_of_gt (Nat.lt_of_lt_of_le hT.big (ak hG (Nat.le_of_lt hn))),⟨rfl,rfl,rfl⟩,_,rfl⟩⟩ .nil⟩
theorem tY:bootBuiltins ("dict":Str)=some (.type "dict"):=by kernel_rfl
theorem Ie(hT:TabOk c T){v:Value}{L:Addr}{m:aD}{H:Hp}{P:Heap->Ph->Prop}{Q:SV}(hv:∀B U,P B U->VR B U v .el)(q:Q (.d (.dict [])) H):Tr VR c r L m P H (call (.type "dict") [v]) Q:=by
 intro A E s B Z U hA ht hR hF hp
 obtain⟨mm,hn,f⟩:=hF.ex
 have x:=hv _ _ hp
 cases x with
 |el x=>
  refine k8 (hR.kB _ _ x) hA.2.2.1 fun h' tk hk=>?_
  have g:h'.get? s.heap.objs.size=some ({ cls:=.type "dict", data:=.dict #[] }:Obj):=hk _ _ (Heap.get?_push_size _ rfl)
  have k:∀b o,s.heap.get? b=some o->h'.get? b=some o:=fun b o e=>hk _ _ (Heap.get?_push_of_some _ e)
  obtain⟨R1,S1⟩:=hR.frozen (Nat.ne_of_gt hn.lt) (fun b o _ e=>k b o e) rfl g aG
  exact⟨h',tk,_,U,_,H,rfl,S1,PSub.refl _,R1,(hF.keep (fun o e=>k _ o e)).mono S1 (PSub.refl _),.d (yl hT hR.LG hn.lt (aH rfl)),q⟩
theorem LW(hT:TabOk c T){a:X}(ha:aR c T r a):SX c T r (.dic a):=by
 intro sc L env e m H Q hE hc hw
 refine yS hc fun a' p q h3 h4 h5=>?_
 have ns:starEach [a'] env=[(false,eval a' env)]:=kS h4
 have ev:eval (.Call (.Name "dict" p) [a'] [] q) env=(eval (.Name "dict" p) env >>= fun f=>callWith q f [] ([eval a' env].map fun t=>(false,t)) []):=by
  show (eval (.Name "dict" p) env >>= fun f=>callWith q f [] (backTo q (starEach [a'] env)) (backToKw q (keywordEach [] env))) = _
  rw[ns]
  rfl
 rw[ev]
 have name:Tr (fun _ _ v (_:Unit)=>v=.type "dict") c r L m (fun _ _=>True) H (eval (.Name "dict" p) env) fun _ H'=>H'=H:=by
  intro A E s B Z U hA ht hR hF hp
  refine Name_function_global (by rw[hE.scope];exact hE.kind) (by unfold Env.kindOf;rw[hE.scope];exact bb h3) ?_ (by decide)
  refine loadGlobal_builtin (mg:=c.mg) (mb:=c.mb) (by rw[hE.globals];exact c.gns.keeps (hR.base.1.trans hR.kB)) (hT.bn _ (.tail _ (.tail _ (.tail _ (.tail _ (.tail _ (.tail _ (.head _)))))))) (by rw[hE.builtins];exact c.bns.keeps (hR.base.1.trans hR.kB)) (by rw[c.blt _ (by decide)];exact tY) ?_
  exact aM (x:=()) (tk:=s.toks) hR hF rfl rfl
 refine Tr.thn Mono.true name fun _ H1 f hH=>?_
 subst hH
 refine bP (fun _ _ _ _ _ _ h=>h) (fun B U h h' _ _=>bx (.inr ⟨_,h.2⟩) h') ?_
 refine cv (fun _ _ _ _ _ _ h=>h) ((ha.1 _ _ _ _ _ _ _ hE h5 hw).lift.mono fun x H' q v=>?_)
 refine bI fun vals=>?_
 intro A E s B Z U hA ht hR hF hp
 obtain⟨⟨_,rfl⟩,hv⟩:=hp
 cases hv with
 |cons hv hn=>
  cases hn
  exact Ie hT (P:=fun B U=>VR B U _ .el) (fun B U h=>h) q.2 A E s B Z U hA ht hR hF (q.1▸hv)
end
section
variable {c:Cx}{r:Nat}{L:Addr}{m:aD}{H:Hp}{B Z Z1 Z2 h h':Heap}{U:Ph}
theorem Rel.repins(R:Rel c B Z1 U L H h)(dom:∀b,Z1.get? b=none->Z2.get? b=none)(here:Sub Z2 h')(keep:∀b x,b≠L->Z1.get? b=none->h.get? b=some x->h'.get? b=some x):Rel c B Z2 U L H h':=by
 have bn:∀b x,B.get? b=some x->b≠L/\Z1.get? b=none:=fun b x e=>by
  refine⟨fun q=>?_,?_⟩
  ·rw[q,R.LB] at e;nomatch e
  ·cases q:Z1.get? b with
   |none=>rfl
   |some o=>rw[R.BZ _ _ q] at e;nomatch e
 refine⟨R.base,fun b x e=>keep b x (bn b x e).1 (bn b x e).2 (R.kB b x e),here,fun n cl e=>?_,fun n p hl hp=>?_,R.apart,R.dom,R.LB,dom _ R.LZ,R.LG,fun b o e=>?_⟩
 ·obtain⟨p,hp,hc⟩:=R.cell n cl e
  obtain⟨_,⟨z1,z2⟩,l1,l2⟩:=R.free n p ⟨cl,e⟩ hp
  exact⟨p,hp,hc.mono (Sub.refl _) (PSub.refl _) (fun x w=>keep _ x l1 z1 w) fun x w=>keep _ x l2 z2 w⟩
 ·obtain⟨b,⟨z1,z2⟩,l⟩:=R.free n p hl hp
  exact⟨b,⟨dom _ z1,dom _ z2⟩,l⟩
 ·cases q:Z1.get? b with
  |none=>rw[dom _ q] at e;nomatch e
  |some o1=>exact R.BZ _ _ q
noncomputable def eZ(Z:Heap)(L:Addr)(oL:Obj)(it:Addr)(oi:Obj)(e:Addr)(oe:Obj)(D:Addr)(l:Obj):Heap:=aI (aI (aI (aI Z L oL) it oi) e oe) D l
variable {oL oi oe l oi' oe' l':Obj}{it e D:Addr}
theorem fh(hL:oL.isFreed=false)(hi:oi.isFreed=false)(he:oe.isFreed=false)(hl:l.isFreed=false)(b:Addr):(eZ Z L oL it oi e oe D l).get? b=if b=D then some l else if b=e then some oe else if b=it then some oi else if b=L then some oL else Z.get? b:=by
 unfold eZ
 rw[aU _ _ _ hl,aU _ _ _ he,aU _ _ _ hi,aU _ _ _ hL]
theorem fG(hL:oL.isFreed=false)(hi:oi.isFreed=false)(he:oe.isFreed=false)(hl:l.isFreed=false){b:Addr}:(eZ Z L oL it oi e oe D l).get? b=none↔(b≠D/\b≠e/\b≠it/\b≠L)/\Z.get? b=none:=by
 rw[fh hL hi he hl]
 by_cases h1:b=D
 ·rw[au h1];exact⟨fun q=>nope q.symm,fun q=>absurd h1 q.1.1⟩
 rw[ar h1]
 by_cases h2:b=e
 ·rw[au h2];exact⟨fun q=>nope q.symm,fun q=>absurd h2 q.1.2.1⟩
 rw[ar h2]
 by_cases h3:b=it
 ·rw[au h3];exact⟨fun q=>nope q.symm,fun q=>absurd h3 q.1.2.2.1⟩
 rw[ar h3]
 by_cases h4:b=L
 ·rw[au h4];exact⟨fun q=>nope q.symm,fun q=>absurd h4 q.1.2.2.2⟩
 rw[ar h4]
 exact⟨fun q=>⟨⟨h1,h2,h3,h4⟩,q⟩,fun q=>q.2⟩
def me(c:Cx)(r:Nat)(scope:Scope)(i j:Nat)(elt tst:Expr)(step:Nat->Nat->List PyData->Hp->(List PyData->Hp->Prop)->Prop):Prop:=
 ∀C env' k ch acc H K,aZ c scope C env'->step k ch acc H K ->
  Tr (fun _ _ v y=>v=y) c r C [(i,.d (.int k)),(j,.d (st [ch]))] (fun _ _=>True) H (isTrue tst env' (eval tst env')) fun ok H1=>
   if ok=true then Tr VR c r C [(i,.d (.int k)),(j,.d (st [ch]))] (fun _ _=>True) H1 (eval elt env') fun v H2=>∃d,v=.d d/\acc.length<=16777215/\K (acc++[d]) H2 else K acc H1
structure EG(Z:Heap)(L:Addr)(oL:Obj)(it e D:Addr):Prop where
 hL:oL.isFreed=false
 zL:Z.get? L=none
 zi:Z.get? it=none
 ze:Z.get? e=none
 zD:Z.get? D=none
 iL:it≠L
 eL:e≠L
 DL:D≠L
 ei:e≠it
 Di:D≠it
 De:D≠e
inductive MJ(c:Cx)(B Z:Heap)(U:Ph)(L:Addr)(oL:Obj)(it e D C:Addr)(x:Str)(St:Nat->Heap->Prop)(step:Nat->Nat->List PyData->Hp->(List PyData->Hp->Prop)->Prop)(Qf:List PyData->Hp->Prop)(j:Nat)(h:Heap)(tk:Nat):Prop
 |mk (acc:List PyData) (vs:List Value) (kk:Nat) (oe oi:Obj) (old:Value) (B':Heap) (U':Ph) (H':Hp) (ht:1<=tk) (sB:Sub B B') (sP:PSub U U') (he:oe.isFreed=false) (hi:oi.isFreed=false) (hen:PySem.IsEnum h e it j old) (hst:St j h)
   (R:Rel c B' (eZ Z L oL it oi e oe D (listOf vs.toArray kk)) U' C H' h) (F:FrR c B' U' C [] h) (dv:DVs B' vs acc) (hw:ME step Qf (x.l.drop j) j acc H')
variable {C:Addr}{f:Str->Option Value}{x:Str}{tk0:Tok}{nm:String}{step:Nat->Nat->List PyData->Hp->(List PyData->Hp->Prop)->Prop}{Qf:List PyData->Hp->Prop}{A:Around}{E:SU}{R:Result->Shared->Prop}{s₂:Shared}{sc:Scope}{cenv:Env}{elt tst:Expr}{i j:Nat}{px py tp:Pos}{kk:Nat}{k n:Nat}{tk:Nat}
inductive IU(c:Cx)(B Z:Heap)(U:Ph)(L:Addr)(oL:Obj)(it e D C:Addr)(x:Str)(s₂:Shared)(St:Nat->Heap->Prop)(step:Nat->Nat->List PyData->Hp->(List PyData->Hp->Prop)->Prop)(Qf:List PyData->Hp->Prop)(n:Nat)(s':Shared):Prop
 |mk (k:Nat) (h':Heap) (tk:Nat) (e':s'={ s₂ with heap:=h',toks:=tk }) (hk:k+n=x.l.length+1) (hn:1<=n) (a:MJ c B Z U L oL it e D C x St step Qf k h' tk)
theorem wO(g:EG Z L oL it e D)(he:oe.isFreed=false)(hi:oi.isFreed=false)(hl:l.isFreed=false)(R:Rel c B (eZ Z L oL it oi e oe D l) U C H h):C≠D/\C≠e/\C≠it/\C≠L:=((fG g.hL hi he hl).mp R.LZ).1
theorem Fs{P:Addr->Obj->Prop}(hL:oL.isFreed=false)(hi:oi.isFreed=false)(he:oe.isFreed=false)(hl:l.isFreed=false)(pD:P D l)(pe:P e oe)(pi:P it oi)(po:∀b o,b≠D->b≠e->b≠it->(if b=L then some oL else Z.get? b)=some o->P b o):∀b o,(eZ Z L oL it oi e oe D l).get? b=some o->P b o:=fun b o w=>by
 rw[fh hL hi he hl] at w
 by_cases a1:b=D
 ·rw[au a1] at w;cases w;rw[a1];exact pD
 rw[ar a1] at w
 by_cases a2:b=e
 ·rw[au a2] at w;cases w;rw[a2];exact pe
 rw[ar a2] at w
 by_cases a3:b=it
 ·rw[au a3] at w;cases w;rw[a3];exact pi
 rw[ar a3] at w
 exact po b o a1 a2 a3 w
theorem Rel.e_pins(g:EG Z L oL it e D)(he:oe.isFreed=false)(hi:oi.isFreed=false)(hl:l.isFreed=false)(R:Rel c B (eZ Z L oL it oi e oe D l) U C H h)(pD:h'.get? D=some l')(pe:h'.get? e=some oe')(pi:h'.get? it=some oi')(kp:∀b o,b≠C->b≠D->b≠e->b≠it->h.get? b=some o->h'.get? b=some o):Rel c B (eZ Z L oL it oi' e oe' D l') U C H h':=by
 have he':=aT pe
 have hi':=aT pi
 have hl':=aT pD
 refine R.repins (fun b w=>(fG g.hL hi' he' hl').mpr ((fG g.hL hi he hl).mp w)) (Fs g.hL hi' he' hl' pD pe pi fun b o a1 a2 a3 w=>?_) fun b o q1 q2 w=>?_
 ·have w2:(eZ Z L oL it oi e oe D l).get? b=some o:=by rw[fh g.hL hi he hl,ar a1,ar a2,ar a3];exact w
  exact kp b o (fun q=>nope ((q▸R.LZ).symm.trans w2)) a1 a2 a3 (R.kZ _ _ w2)
 ·have z:=((fG g.hL hi he hl).mp q2).1
  exact kp b o q1 z.1 z.2.1 z.2.2.1 w
theorem Rel.e_at(g:EG Z L oL it e D)(he:oe.isFreed=false)(hi:oi.isFreed=false)(hl:l.isFreed=false)(R:Rel c B (eZ Z L oL it oi e oe D l) U C H h):h.get? e=some oe/\h.get? it=some oi/\h.get? D=some l:=by
 refine⟨R.kZ _ _ ?_,R.kZ _ _ ?_,R.kZ _ _ ?_⟩
 ·rw[fh g.hL hi he hl,ar (Ne.symm g.De),au rfl]
 ·rw[fh g.hL hi he hl,ar (Ne.symm g.Di),ar (Ne.symm g.ei),au rfl]
 ·rw[fh g.hL hi he hl,au rfl]
theorem A0{u v:Value}{x y:PyData}(hE:aZ c sc C cenv)(hli:sc.names.lookup (c.nm i)=some .local)(hlj:sc.names.lookup (c.nm j)=some .local)(hij:i≠j)(hu:DV B u x)(hv:DV B v y)(hns:h.Ns C (fun z=>if z=c.nm j then some v else if z=c.nm i then some u else f z)):FrR c B U C [(i,.d x),(j,.d y)] h:=by
 refine⟨_,hns,fun q z w=>?_⟩
 rw[a6] at w
 by_cases a1:i=q
 ·rw[au a1] at w;cases w;rw[←a1]
  refine⟨u,(Stands.own (hE.cs1 i hli)).mpr ?_,.d hu⟩
  rw[ar fun w=>hij (c.inj _ _ w),au rfl]
 ·rw[ar a1,a6] at w
  by_cases a2:j=q
  ·rw[au a2] at w;cases w;rw[←a2]
   exact⟨v,(Stands.own (hE.cs1 j hlj)).mpr (au rfl),.d hv⟩
  ·rw[ar a2,x7] at w;exact nope w
theorem Fx{St:Nat->Heap->Prop}{K:Unit->Shared->Prop}{RN:Shared->Prop}{B':Heap}{U':Ph}{H':Hp}{old:Value}(g:EG Z L oL it e D)(hA:A.handled=none)(Dr:∀A:Around,A.handled=none->Draws c.prog c.w A it [it] x.l.length (fun i v=>∃ch u,x.l[i]?=some ch/\v=.str ⟨#[ch]⟩ u) St)(dD:∀k h,St k h->∃o,h.get? it=some o)(hx:eU x.l=true)
  (hE:aZ c sc C cenv)(hli:sc.names.lookup (c.nm i)=some .local)(hlj:sc.names.lookup (c.nm j)=some .local)(hij:i≠j)(hlt:k<x.l.length)(he:oe.isFreed=false)(hi:oi.isFreed=false)(hl:l.isFreed=false)(hen:PySem.IsEnum h e it k old)(hst:St k h)
  (R0:Rel c B' (eZ Z L oL it oi e oe D l) U' C H' h)(F:FrR c B' U' C [] h)
  (go:∀ch oe3 oi3 old3 h3 tk3,x.l[k]?=some ch->oe3.isFreed=false->oi3.isFreed=false->(∀h5:Heap,h5.get? e=some oe3->PySem.IsEnum h5 e it ((k+1:Nat):Int) old3)->(∀h5:Heap,h5.get? it=some oi3->St (k+1) h5)->1<=tk3 ->
   Rel c B' (eZ Z L oL it oi3 e oe3 D l) U' C H' h3->FrR c B' U' C [(i,.d (.int k)),(j,.d (st [ch]))] h3->K () { s₂ with heap:=h3,toks:=tk3 }) :
  wpAny c.M A (pyNext (.ref e)) (fun r s₁=>match r with
   |none=>RN s₁
   |some v=>wpAny c.M A (letOwnedTupleGo (.Tuple [.Name (c.nm i) px,.Name (c.nm j) py] kk tp) (.ref e) v) (fun _ s₀=>wpAny c.M A (assign (.Tuple [.Name (c.nm i) px,.Name (c.nm j) py] kk tp) cenv v) K E s₀) E s₁) E { s₂ with heap:=h,toks:=tk }:=by
 have ne:=wO g he hi hl R0
 refine wpAny_pyNext_enum_itemD (Dr A.in1 hA) hen hst hlt g.ei (fun q=>g.ei (List.mem_singleton.mp q)) fun y h1 tk1 hP ho1 hs1 hT1 hz1 hk1=>?_
 obtain⟨ch,u,hch,rfl⟩:=hP
 have hTe:h.objs.size≠e:=Nat.ne_of_gt (Heap.lt_size hen)
 refine wpAny_letOwnedTupleGo_enum ho1 fun h2 he2 hs2=>?_
 have k2:∀b o,b≠e->b≠it->h.get? b=some o->h2.get? b=some o:=fun b o q1 q2 w=>(hs2.2 b q1).trans (hk1 b o q1 q2 w)
 have hT2:h2.IsTuple h.objs.size #[.int k tk1,.str ⟨#[ch]⟩ u]:=⟨_,(hs2.2 _ hTe).trans hT1,rfl,_,rfl⟩
 obtain⟨mm,hmm,_⟩:=F.ex
 obtain⟨oi3,ei1⟩:=dD _ _ hs1
 have ei2:h2.get? it=some oi3:=(hs2.2 _ (Ne.symm g.ei)).trans ei1
 refine wpAny_mono (wpAny_toks_of (am 1 tk1) (kcp_assign (m:=mm) (Q:=fun _ s'=>∃h3 tk3,s'={ s₂ with heap:=h3,toks:=tk3 }/\h3.Ns C (fun z=>if z=c.nm j then some (.str ⟨#[ch]⟩ u) else if z=c.nm i then some (.int k tk1) else mm z)/\∀b o,b≠C->h2.get? b=some o->h3.get? b=some o) hA hT2 (by unfold Env.kindOf;rw[hE.scope];exact hli) (by unfold Env.kindOf;rw[hE.scope];exact hlj) (by rw[hE.scope,hE.kind];rfl) (by rw[hE.locals];exact hmm.at' fun o w=>k2 C o ne.2.1 ne.2.2.1 w) fun h3 tk3 hns3 hk3=>⟨h3,tk3,rfl,by rw[←hE.locals];exact hns3,by rw[←hE.locals];exact hk3⟩)) ?_ fun _ _ z=>z.2
 rintro _ s' ⟨ht3,h3,tk3,rfl,hns3,hk3⟩
 refine go ch _ oi3 _ h3 tk3 hch (aT he2) (aT ei2) (fun h5 w=>w) (fun h5 w=>(Dr A hA).frame _ _ _ hs1 fun b hb o z=>?_) ht3
  (R0.e_pins g he hi hl (hk3 _ _ (Ne.symm ne.1) (k2 _ _ g.De g.Di (R0.e_at g he hi hl).2.2)) (hk3 _ _ (Ne.symm ne.2.1) he2) (hk3 _ _ (Ne.symm ne.2.2.1) ei2) fun b o q1 _ q3 q4 w=>hk3 b o q1 (k2 b o q3 q4 w))
  (A0 hE hli hlj hij (DV.int _ _) (DV.st [ch] u ?_) hns3)
 ·rw[List.mem_singleton.mp hb] at z ⊢
  exact w.trans (ei1.symm.trans z)
 ·unfold eU at hx ⊢
  rw[List.all_cons,List.all_nil,aq hx ch (List.mem_of_getElem? hch)];rfl
theorem JF{k n l:Nat}(hk:k+n=l+1)(hlt:k<l):∃m,m<n/\k+1+m=l+1/\1<=m:=by
 have e1:n=l-k+1:=(Nat.add_sub_cancel_left k n).symm.trans ((congrArg (· - k) hk).trans (Nat.succ_sub (Nat.le_of_lt hlt)))
 exact⟨l-k,e1▸Nat.lt_succ_self _,(Nat.succ_add _ _).trans (congrArg Nat.succ (Nat.add_sub_of_le (Nat.le_of_lt hlt))),Nat.sub_pos_of_lt hlt⟩
def DF(c:Cx)(B Z:Heap)(U:Ph)(L:Addr)(oL:Obj)(it e D C:Addr)(x:Str)(s₂:Shared)(St:Nat->Heap->Prop)(step:Nat->Nat->List PyData->Hp->(List PyData->Hp->Prop)->Prop)(Qf:List PyData->Hp->Prop)(n:Nat)(s:Shared):Prop:=∃m,m<n/\IU c B Z U L oL it e D C x s₂ St step Qf m s
theorem FH{St:Nat->Heap->Prop}(g:EG Z L oL it e D)(hA:Room r A)(Dr:∀A:Around,A.handled=none->Draws c.prog c.w A it [it] x.l.length (fun i v=>∃ch u,x.l[i]?=some ch/\v=.str ⟨#[ch]⟩ u) St)(dD:∀k h,St k h->∃o,h.get? it=some o)(hx:eU x.l=true)
  (hE:aZ c sc C cenv)(hli:sc.names.lookup (c.nm i)=some .local)(hlj:sc.names.lookup (c.nm j)=some .local)(hij:i≠j)(hstep:me c r sc i j elt tst step)(hk:k+n=x.l.length+1)(hlt:k<x.l.length)(a:MJ c B Z U L oL it e D C x St step Qf k h tk)
  (E':SU) :
  wpAny c.M A (pyNext (.ref e)) (fun r s₁=>match r with
   |none=>R (.ok .next) s₁
   |some v=>wpAny c.M A (letOwnedTupleGo (.Tuple [.Name (c.nm i) px,.Name (c.nm j) py] kk tp) (.ref e) v) (fun _ s₀=>wpAny c.M A (assign (.Tuple [.Name (c.nm i) px,.Name (c.nm j) py] kk tp) cenv v) (fun _ s₂'=>
     wpAny c.M A (isTrue tst cenv (eval tst cenv)) (fun ok s₃=>if ok=true then wpAny c.M A (eval elt cenv) (fun x' s₄=>
      wpAny c.M A (call (.builtin "list.append") [.ref D,x']) (fun _=>DF c B Z U L oL it e D C x s₂ St step Qf n) E' s₄) E' s₃
      else DF c B Z U L oL it e D C x s₂ St step Qf n s₃) E' s₂')
     E' s₀) E' s₁) E' { s₂ with heap:=h,toks:=tk }:=by
 cases a with
 |mk acc vs kq oe oi old B' U' H' ht sB sP he hi hen hst R0 F dv hw=>
  refine Fx (RN:=fun s₁=>R (.ok .next) s₁) g hA.2.2.1 Dr dD hx hE hli hlj hij hlt he hi rfl hen hst R0 F fun ch oe3 oi3 old3 h3 tk3 hch hoe3 hoi3 en stt ht3 R3 F3=>?_
  have hdrop:x.l.drop k=ch::x.l.drop (k+1):=(List.drop_eq_getElem_cons hlt).trans (congrArg (·::_) (aj ((List.getElem?_eq_getElem hlt).symm.trans hch)))
  rw[hdrop] at hw
  refine Tr.run (hstep _ _ k ch acc H' _ hE hw) hA ht3 R3 F3 trivial fun ok h4 tk4 B4 U4 ok' H4 ht4 sB4 sP4 R4 F4 e4 q=>?_
  rw[←e4] at q
  cases ok with
  |false=>
   have p:=R4.e_at g hoe3 hoi3 rfl
   exact (JF hk hlt).imp fun m z=>⟨z.1,.mk (k+1) h4 tk4 rfl z.2.1 z.2.2 (.mk acc vs kq oe3 oi3 _ B4 U4 H4 ht4 (sB.trans sB4) (sP.trans sP4) hoe3 hoi3 (en _ p.1) (stt _ p.2.1) R4 F4.less (dv.mono sB4) q)⟩
  |true=>
   refine Tr.run q hA ht4 R4 F4 trivial fun y h5 tk5 B5 U5 yv H5 ht5 sB5 sP5 R5 F5 hy e5=>?_
   obtain⟨d,rfl,hl,q2⟩:=e5
   have p:=R5.e_at g hoe3 hoi3 rfl
   have dv5:=(dv.mono sB4).mono sB5
   refine append_at p.2.2 (fun h9 hs9 ho9=>?_) (ak (an dv5.length) (ak hl (by decide)))
   have p1:=(hs9.2 _ (Ne.symm g.De)).trans p.1
   have p2:=(hs9.2 _ (Ne.symm g.Di)).trans p.2.1
   exact (JF hk hlt).imp fun m z=>⟨z.1,.mk (k+1) h9 tk5 rfl z.2.1 z.2.2 (.mk (acc++[d]) (vs++[y]) (kq+1) oe3 oi3 _ B5 U5 H5 ht5 ((sB.trans sB4).trans sB5) ((sP.trans sP4).trans sP5) hoe3 hoi3 (en _ p1) (stt _ p2)
    (R5.e_pins g hoe3 hoi3 rfl (ho9.trans (by rw[List.push_toArray])) p1 p2 fun b o _ q2 _ _ w=>(hs9.2 b q2).trans w) (F5.less.keep fun z w=>(hs9.2 _ (wO g hoe3 hoi3 rfl R5).1).trans w) (dv5.append (.cons hy.d_of .nil)) q2)⟩
theorem Fw{St:Nat->Heap->Prop}(g:EG Z L oL it e D)(hA:A.handled=none)(Dr:∀A:Around,A.handled=none->Draws c.prog c.w A it [it] x.l.length (fun i v=>∃ch u,x.l[i]?=some ch/\v=.str ⟨#[ch]⟩ u) St)(a:MJ c B Z U L oL it e D C x St step Qf x.l.length h tk){Q:Option Value->Shared->Prop}
  (db:∀h2,tJ c B Z U L oL D C Qf h2->Q none { s₂ with heap:=h2,toks:=tk }):wpAny c.M A (pyNext (.ref e)) Q E { s₂ with heap:=h,toks:=tk }:=by
 cases a with
 |mk acc vs kq oe oi old B' U' H' ht sB sP he hi hen hst R0 F dv hw=>
  have ne:=wO g he hi rfl R0
  refine wpAny_pyNext_enum_endD (Dr A.in1 hA) hen hst fun h' hx=>db h' ?_
  rw[List.drop_eq_nil_of_le (ao _)] at hw
  have zg:∀b,(aI (aI Z L oL) D (listOf vs.toArray kq)).get? b=if b=D then some (listOf vs.toArray kq) else if b=L then some oL else Z.get? b:=fun b=>by rw[aU _ _ _ rfl,aU _ _ _ g.hL]
  have up:∀b o,(aI (aI Z L oL) D (listOf vs.toArray kq)).get? b=some o->(eZ Z L oL it oi e oe D (listOf vs.toArray kq)).get? b=some o/\b≠it:=fun b o w=>by
   rw[zg] at w
   rw[fh g.hL hi he rfl]
   by_cases a1:b=D
   ·rw[au a1] at w ⊢;exact⟨w,a1▸g.Di⟩
   rw[ar a1] at w ⊢
   have n:b≠e/\b≠it:=by
    by_cases a4:b=L
    ·rw[a4];exact⟨Ne.symm g.eL,Ne.symm g.iL⟩
    ·rw[ar a4] at w;exact⟨fun q=>nope ((q▸g.ze).symm.trans w),fun q=>nope ((q▸g.zi).symm.trans w)⟩
   rw[ar n.1,ar n.2];exact⟨w,n.2⟩
  refine .mk acc vs kq B' U' H' sB sP (R0.repins (fun b w=>?_) (fun b o w=>hx _ _ (up b o w).2 (R0.kZ _ _ (up b o w).1)) fun b o q1 q2 w=>hx _ _ ((fG g.hL hi he rfl).mp q2).1.2.2.1 w) (F.keep fun z w=>hx _ z ne.2.2.1 w) dv hw
  have z:=(fG g.hL hi he rfl).mp w
  rw[zg,ar z.1.1,ar z.1.2.2.2];exact z.2
theorem Fz{St:Nat->Heap->Prop}{RR:Result->Shared->Prop}{iter:Expr}{scope:Scope}{pos:Pos}(g:EG Z L oL it e D)(hA:Room r A)(Dr:∀A:Around,A.handled=none->Draws c.prog c.w A it [it] x.l.length (fun i v=>∃ch u,x.l[i]?=some ch/\v=.str ⟨#[ch]⟩ u) St)(dD:∀k h,St k h->∃o,h.get? it=some o)(hx:eU x.l=true)
  (hE:aZ c sc C cenv)(hli:sc.names.lookup (c.nm i)=some .local)(hlj:sc.names.lookup (c.nm j)=some .local)(hij:i≠j)(hstep:me c r sc i j elt tst step)(a:MJ c B Z U L oL it e D C x St step Qf 0 h s₂.toks)(db:∀h2 tk2,tJ c B Z U L oL D C Qf h2->RR (.ok .next) { s₂ with heap:=h2,toks:=tk2 }) :
  codeAny c.M A (.compLoop (.ListComp elt [⟨.Tuple [.Name (c.nm i) px,.Name (c.nm j) py] kk tp,iter,[tst],0⟩] scope pos) 0 (.ref e) (.ref D) cenv) RR { s₂ with heap:=h }:=by
 refine kct_loop (IU c B Z U L oL it e D C x s₂ St step Qf) (fun n s' I=>?_) (x.l.length+1) (.mk 0 h s₂.toks rfl (Nat.zero_add _) (Nat.succ_pos _) a)
 obtain⟨k,h',tk,rfl,hk,hn,a⟩:=I
 by_cases hlt:k<x.l.length
 ·exact FH (R:=RR) g hA Dr dD hx hE hli hlj hij hstep hk hlt a _
 ·obtain rfl:k=x.l.length:=Nat.le_antisymm (Nat.le_of_succ_le_succ (ak (Nat.add_le_add_left hn k) (an hk))) (Nat.le_of_not_lt hlt)
  exact Fw g hA.2.2.1 Dr a fun h2 ce=>db h2 tk ce
theorem Fv{St:Nat->Heap->Prop}{iter:Expr}{scope:Scope}{pos:Pos}{cl:List (Str×Addr)}{env:Env}{sc0:Scope}{Qv:SU}{old:Value}(hA:Room r A)(ht:1<=s₂.toks)(hcell:∀y∈scope.names,y.2≠.cell)(hkind:scope.kind=.function)(hli:scope.names.lookup (c.nm i)=some .local)(hlj:scope.names.lookup (c.nm j)=some .local)(hij:i≠j)
  (Dr:∀A:Around,A.handled=none->Draws c.prog c.w A it [it] x.l.length (fun i v=>∃ch u,x.l[i]?=some ch/\v=.str ⟨#[ch]⟩ u) St)(dD:∀k h,St k h->∃o,h.get? it=some o)(hx:eU x.l=true)
  (hE:aZ c sc0 L env)(hcl:c.cs=[]/\∀i q,lP i c.fr=some q->((relabel scope env).names.lookup (c.nm i)).any cI=true->cl.lookup (c.nm i)=some q.1)(hstep:me c r (relabel scope env) i j elt tst step)
  (hi:oi.isFreed=false)(he:oe.isFreed=false)(zi:Z.get? it=none)(ze:Z.get? e=none)(ei:e≠it)(hen:PySem.IsEnum s₂.heap e it 0 old)(hst:St 0 s₂.heap)(hR:Rel c B (aI (aI Z it oi) e oe) U L H s₂.heap)(hF:FrR c B U L m s₂.heap)(hw:ME step Qf x.l 0 [] H)
  (db:∀h' tk B' U' H' acc v,Sub B B'->PSub U U'->Rel c B' Z U' L H' h'->FrR c B' U' L m h'->DV B' v (.list acc)->Qf acc H'->Qv v { s₂ with heap:=h',toks:=tk }) :
  wpAny c.M A (newList []) (fun acc s₃=>wpAny c.M A (newFunctionEnv scope env.globals cl [] env.qual none .none (some env)) (fun cenv s₄=>
   codeAny c.M A (.compStart (.ListComp elt [⟨.Tuple [.Name (c.nm i) px,.Name (c.nm j) py] kk tp,iter,[tst],0⟩] scope pos) 0 (.ref e) acc { cenv with scope:=relabel scope env }) (compPost c.M A E none Qv acc cenv.locals) s₄) E s₃) E s₂:=by
 obtain⟨mm,⟨oL,es,ep,eL,hd⟩,hm⟩:=id hF.ex
 have hoL:=aT eL
 have zg:∀b,(aI (aI Z it oi) e oe).get? b=if b=e then some oe else if b=it then some oi else Z.get? b:=fun b=>by rw[aU _ _ _ he,aU _ _ _ hi]
 have pe:(aI (aI Z it oi) e oe).get? e=some oe:=by rw[zg,au rfl]
 have pi:(aI (aI Z it oi) e oe).get? it=some oi:=by rw[zg,ar (Ne.symm ei),au rfl]
 have Le:L≠e:=fun q=>by have:=hR.LZ;rw[q,pe] at this;nomatch this
 have Li:L≠it:=fun q=>by have:=hR.LZ;rw[q,pi] at this;nomatch this
 have zL:Z.get? L=none:=by have:=hR.LZ;rw[zg,ar Le,ar Li] at this;exact this
 have De:s₂.heap.objs.size≠e:=fun q=>nope ((q▸aG:s₂.heap.get? e=none).symm.trans (hR.kZ _ _ pe))
 have Di:s₂.heap.objs.size≠it:=fun q=>nope ((q▸aG:s₂.heap.get? it=none).symm.trans (hR.kZ _ _ pi))
 have DL:s₂.heap.objs.size≠L:=Nat.ne_of_gt (Heap.lt_size eL)
 have zD:Z.get? s₂.heap.objs.size=none:=by have:=hR.noZ aG;rw[zg,ar De,ar Di] at this;exact this
 have g:EG Z L oL it e s₂.heap.objs.size:=⟨hoL,zL,zi,ze,zD,Ne.symm Li,Ne.symm Le,DL,ei,Di,De⟩
 refine wpAny_newList ?_ (Nat.zero_le _)
 generalize hl:({ cls:=.type "list", data:=.seq ([]:List Value).toArray }:Obj)=l
 have hlf:l.isFreed=false:=by rw[←hl];rfl
 have gD:(s₂.heap.push l).get? s₂.heap.objs.size=some l:=Heap.get?_push_size _ hlf
 have R1:=(hR.pinNew (a:=s₂.heap.objs.size) (o:=l) hlf DL (ba _) aG gD).1
 have eL1:(s₂.heap.push l).get? L=some oL:=Heap.get?_push_of_some _ eL
 have R2:=R1.enter eL1
 refine wpAny_newFunctionEnv hcell (fun y hy=>absurd hy List.not_mem_nil) (fun h₁ hns₁ hsb₁=>?_) hkind
 have k2:∀b o,(s₂.heap.push l).get? b=some o->h₁.get? b=some o:=fun b o w=>(hsb₁.2 b (Nat.ne_of_lt (Heap.lt_size w))).trans (Heap.get?_push_of_some _ w)
 have R3:=R2.keep fun b o _ w=>k2 b o w
 have zz:∀b,(aI (aI (aI (aI Z it oi) e oe) s₂.heap.objs.size l) L oL).get? b=(eZ Z L oL it oi e oe s₂.heap.objs.size l).get? b:=fun b=>by
  rw[aU _ _ _ hoL,aU _ _ _ hlf,zg,fh hoL hi he hlf]
  by_cases a1:b=L
  ·subst a1;rw[au rfl,ar (Ne.symm DL),ar Le,ar Li,au rfl]
  ·rw[ar a1]
   by_cases a2:b=s₂.heap.objs.size
   ·rw[au a2,au a2]
   ·rw[ar a2,ar a2,ar a1]
 have R4:Rel c B (eZ Z L oL it oi e oe s₂.heap.objs.size l) U (s₂.heap.push l).objs.size H h₁:=R3.repins (fun b w=>by rw[←zz];exact w) (fun b o w=>R3.kZ _ _ (by rw[zz];exact w)) fun b o _ _ w=>w
 have st1:St 0 h₁:=(Dr A hA.2.2.1).frame _ _ _ hst fun b _ o w=>k2 _ _ (Heap.get?_push_of_some _ w)
 have en1:PySem.IsEnum h₁ e it 0 old:=k2 _ _ (Heap.get?_push_of_some _ hen)
 subst hl
 have loop:=fun tk (q:tk=s₂.toks)=>Fz (px:=px) (py:=py) (tp:=tp) (kk:=kk) (iter:=iter) (scope:=scope) (pos:=pos) (RR:=compPost c.M A E none Qv (.ref s₂.heap.objs.size) (s₂.heap.push _).objs.size) (s₂:={ s₂ with toks:=tk }) (Qf:=Qf) (cenv:={ (newEnv scope (s₂.heap.push _).objs.size env.globals cl env.qual none .none (some env) 0) with scope:=relabel scope env }) g hA Dr dD hx ⟨rfl,rfl,hE.globals,hE.builtins,hkind,hcl.2,fun i _=>bR hcl.1 i,fun i q=>absurd hcl.1 q⟩ (lookup_relabel_local hli) (lookup_relabel_local hlj) hij hstep
  (.mk [] [] 0 oe oi old B U H (q▸ht) (Sub.refl _) (PSub.refl _) he hi en1 st1 R4 ⟨_,hns₁,fun i x e=>nope e⟩ DVs.nil hw)
  fun h2 tk2 ce=>DT (s₂:=s₂) hoL zL zD DL hR.LG ce fun h' tk B' U' H' acc v sB sP R here dv q=>db h' tk B' U' H' acc v sB sP R ⟨mm,⟨oL,es,ep,here,hd⟩,fun i x q=>(hm i x q).imp fun u z=>⟨z.1.mono sB,z.2.mono sB sP⟩⟩ dv q
 exact codeAny_compStart_list (loop _ rfl) (wpAny_pyIter_enum en1 (loop _ rfl))
end
section
variable {c:Cx}{T:aW}{r:Nat}{sc:Scope}{L:Addr}{env:Env}{m:aD}{H:Hp}{B Z h h':Heap}{U:Ph}
theorem qh{f:Value}{ts:List (Sem Value)}{Q:List V->Hp->Prop}{K:SU}{pos:Pos}{A:Around}{E:SU}{s:Shared}(hk:∀h,c.K.In h->∃k,(k=Keeper.frame\/k=Keeper.machine\/k=Keeper.boundFrame)/\Looks c.M h (keeperOf f) k)
  (h:Tr VRs c r L m (fun _ _=>True) H (spliced (ts.map fun t=>(false,t))) Q)(hA:Room r A)(ht:1<=s.toks)(hR:Rel c B Z U L H s.heap)(hF:FrR c B U L m s.heap)
  (k:∀vals h' tk B' U' xs H',1<=tk->Sub B B'->PSub U U'->Rel c B' Z U' L H' h'->FrR c B' U' L m h'->VRs B' U' vals xs->Q xs H'->wpAny c.M A (call f vals) K E { s with heap:=h',toks:=tk }) :
  wpAny c.M A (callWith pos f [] (ts.map fun t=>(false,t)) []) K E s:=by
 refine callWith_of (P:=fun h=>c.K.In h) (by induction ts<;>simp_all) (fun h hh=>hk h hh) ?_
 have main:wpAny c.M A (spliced (ts.map fun t=>(false,t))) (fun vs s₁=>c.K.In s₁.heap/\wpAny c.M A (call f ([]++vs)) K E s₁) E s:=by
  refine Tr.run h hA ht hR hF trivial fun vals h' tk B' U' xs H' ht' b p R1 F1 rv q=>?_
  exact⟨R1.kIn,k vals h' tk B' U' xs H' ht' b p R1 F1 rv q⟩
 cases ts with
 |nil=>
  unfold evalArgs
  show wpAny c.M A (spliced [] >>= _) _ _ _
  refine wpAny_bind (wpAny_mono main (fun vs s' h'=>?_) fun _ _ x=>x)
  refine wpAny_holding ?_
  exact wpAny_bind (wpAny_pure (wpAny_bind (wpAny_pure (wpAny_pure h'))))
 |cons t ts=>exact evalArgs_plain main
theorem t9(hT:TabOk c T){es:X}{pf pc:Pos}{args:List Expr}{Q:SQ->Hp->Prop}{A:Around}{E:SU}{s:Shared}{K:SU}(hs:aR c T r es)(hE:aZ c sc L env)(hk:a5 sc "enumerate" .globalImplicit=true)(hcs:bz T sc es args=true)
  (hw:kY c T r es m H fun vs H2=>ok (Mi vs) fun p=>Q p H2)(hA:Room r A)(ht:1<=s.toks)(hR:Rel c B Z U L H s.heap)(hF:FrR c B U L m s.heap)
  (k:∀x t h' tk B' U' H',eU x.l=true->1<=tk->Sub B B'->PSub U U'->Rel c B' Z U' L H' h'->FrR c B' U' L m h'->Q x.l H'->wpAny c.M A (call (.type "enumerate") [.str x t]) K E { s with heap:=h',toks:=tk }) :
  wpAny c.M A (eval (.Call (.Name "enumerate" pf) args [] pc) env) K E s:=by
 have ev:eval (.Call (.Name "enumerate" pf) args [] pc) env=(eval (.Name "enumerate" pf) env >>= fun f=>callWith pc f [] ((iw args env).map fun t=>(false,t)) []):=by
  show (eval (.Name "enumerate" pf) env >>= fun f=>callWith pc f [] (backTo pc (starEach args env)) (backToKw pc (keywordEach [] env))) = _
  rw[bN hcs,bv]
  rfl
 rw[ev]
 refine wpAny_bind (Name_function_global (by rw[hE.scope];exact hE.kind) (by unfold Env.kindOf;rw[hE.scope];exact bb hk) ?_ (by decide))
 refine loadGlobal_builtin (mg:=c.mg) (mb:=c.mb) (by rw[hE.globals];exact c.gns.keeps (hR.base.1.trans hR.kB)) (hT.bn _ (by simp)) (by rw[hE.builtins];exact c.bns.keeps (hR.base.1.trans hR.kB)) (by rw[c.blt _ (by decide)];exact boot_enumerate) ?_
 refine qh (fun h _=>bx (.inr ⟨_,rfl⟩) h) (hs.2.2 _ _ _ _ _ _ _ hE hcs hw) hA ht hR hF fun vals h' tk B' U' xs H' ht' b p R1 F1 rv q=>?_
 obtain⟨x,e1,q⟩:=ek q
 obtain⟨x',rfl,rfl⟩:∃x':Str,xs=[.d (.str x')]/\x'.l=x:=by
  rcases xs with _|⟨v,_|⟨w,r⟩⟩
  ·nomatch e1
  ·cases v with
   |d d=>cases d with
    |str s=>exact⟨s,rfl,aj e1⟩
    |_=>nomatch e1
   |_=>nomatch e1
  ·cases v with
   |d d=>cases d<;>nomatch e1
   |_=>nomatch e1
 cases rv with
 |cons r1 r2=>
  cases r2
  cases r1 with
  |d hd=>
   obtain⟨t,rfl,okx⟩:=hd.str_okL
   exact k x' t h' tk B' U' H' okx ht' b p R1 F1 q
theorem zb{h:Heap}{o o1:Obj}{b:Addr}(q:b≠h.objs.size)(w:(h.push o).get? b=some o1):h.get? b=some o1:=by
 rcases Heap.get?_push_cases w with ⟨h1,_⟩|h1
 ·exact absurd h1 q
 ·exact h1
theorem CC{h:Heap}{a:Addr}(q:h.objs.size<=a):h.get? a=none:=Heap.get?_none_of_le q
theorem C8{elt es tt:X}{fs:SQ}{i j:Nat}(hT:TabOk c T)(helt:aR c T r elt)(hes:aR c T r es)(htt:aR c T r tt):SX c T r (.compE fs elt i j es tt):=by
 intro sc L env e m H Q hE hc hw
 refine pK hc fun elt' x px y py kk tp pf pc args t' scope p h1 h1b h2 h3 h4 h5=>?_
 obtain⟨⟨hn,h0⟩,hk,hnc,hl,hx,hf⟩:=qy hT h1
 obtain rfl:=cC hT hn
 have hb:=qm h1b
 obtain rfl:=cC hT hb.1
 have hy:scope.names.lookup (c.nm j)=some .local:=bb hb.2.1
 have hij:i≠j:=by simpa using hb.2.2
 obtain rfl:=hE.scope
 obtain⟨hfs,hw⟩:=hw
 have cell:∀n,(n,NameKind.free)∈scope.names->∃j q,c.nm j=n/\lP j c.fr=some q/\env.cells.lookup n=some q.1:=fun n hm=>by
  obtain⟨a1,j,hj,rfl⟩:=hf n hm
  obtain⟨q,hq⟩:=Option.isSome_iff_exists.mp (aq hfs j hj)
  exact⟨j,q,rfl,hq,hE.cells j q hq a1⟩
 have hclos:closureFor scope env=pure (AV env scope.names []):=by
  have H:∀y∈scope.names,y.2=.free->∃a,env.cells.lookup y.1=some a:=fun y hy q=>by
   obtain⟨j,q',_,_,e⟩:=cell y.1 (by rw[←q];exact hy)
   exact⟨_,e⟩
  simp only[closureFor]
  rw[wy (env:=env) _ ?hf scope.names [] H]
  ·rfl
  case hf=>rintro ⟨n,k⟩ acc;rfl
 have hcl:∀i q,lP i c.fr=some q->((relabel scope env).names.lookup (c.nm i)).any cI=true->(AV env scope.names []).lookup (c.nm i)=some q.1:=fun i q hq h=>by
  refine dJ h fun k h1 h2=>?_
  have hm:=i4 hnc h1 h2
  obtain⟨a1,_⟩:=hf _ hm
  exact Fj (hE.cells i q hq a1) _ _ (.inl hm)
 intro A E s B Z U hA htk hR hF hp
 rw[eval_ListComp]
 refine wpAny_comprehension_free (use:=none) rfl (fun z=>rfl) hclos hk hl ?_
 refine t9 (s:=s) hT hes hE h2 h3 hw hA htk hR hF fun x t h₁ tk₁ B₁ U₁ H₁ okx ht1 sB sP R1 F1 w=>?_
 refine call_enumerate_str fun h₂ he hit hz hkp=>?_
 refine wpAny_pyIter_enum he ?_
 have stp:me c r (relabel scope env) i j elt' t' (H6 (fun m H K=>wX c T r tt m H fun v H1=>ok (aN H1 v) fun z=>K z H1) (wX c T r elt) i j):=fun C env' k ch acc H K hE' hs=>by
  refine (htt.2.1 _ _ _ _ _ _ _ hE' h5 (fun v H' h=>(ek h).imp fun _ q=>q.1) hs).mono ?_
  rintro b H1 ⟨v,hv,q⟩
  rw[hv] at q
  cases b with
  |true=>exact helt.1 _ _ _ _ _ _ _ hE' h4 q
  |false=>exact q
 have hlen:x.l.length=x.cps.size:=by simp[PySem.Str.l]
 have hP:(fun (i:Nat) (v:Value)=>∃ch u,x.l[i]?=some ch/\v=.str ⟨#[ch]⟩ u)=fun i v=>∃ch u,x.cps[i]?=some ch/\v=.str ⟨#[ch]⟩ u:=by
  funext i v
  rw[show x.l[i]?=x.cps[i]? by simp[PySem.Str.l]]
 obtain⟨oi,ei,ri⟩:=id hit
 have hoi:=aT ei
 have hoe:=aT he
 have sz:(h₁.push oi).objs.size=h₁.objs.size+1:=Heap.size_push ..
 have Lh:=F1.lt
 have RA:=(R1.pinNew (a:=h₁.objs.size) (o:=oi) hoi (Nat.ne_of_gt Lh) (ba oi) aG (Heap.get?_push_size _ hoi)).1
 have RB:=(RA.pinNew (a:=h₁.objs.size+1) (h':=h₂) hoe (Nat.ne_of_gt (Nat.lt_succ_of_lt Lh)) (fun b o _ w=>by
  by_cases q:b=h₁.objs.size
  ·subst q;rw[Heap.get?_push_size _ hoi] at w;cases w;exact ei
  ·exact hkp b o (zb q w)) (by rw[←sz];exact aG) he).1
 have FB:FrR c B₁ U₁ env.locals m h₂:=by rw[hE.locals];exact F1.keep fun o w=>hkp _ o w
 have core:=fun (nm:String) (St:Nat->Heap->Prop) (hS:St=fun i h=>h.IsStrIter h₁.objs.size nm x t i) (Dr:∀A:Around,A.handled=none->Draws c.prog c.w A h₁.objs.size [h₁.objs.size] x.cps.size (fun i v=>∃ch u,x.cps[i]?=some ch/\v=.str ⟨#[ch]⟩ u) St) (hs0:St 0 h₂)=>
  Fv (c:=c) (r:=r) (s₂:={ s with heap:=h₂,toks:=tk₁ }) (x:=x) (St:=St) (px:=px) (py:=py) (tp:=tp) (kk:=kk) (iter:=.Call (.Name "enumerate" pf) args [] pc) (pos:=p) (cl:=AV env scope.names []) (env:=env) (E:=E) (Qv:=EndT VR c B Z U L m Q s) hA ht1 hnc hk hx hy hij (by rw[hlen,hP];exact Dr) (fun k h w=>by rw[hS] at w;obtain⟨o,ho,_⟩:=w;exact⟨o,ho⟩) okx hE ⟨hT.nocs h0,hcl⟩ stp hoi hoe (R1.noZ aG) (R1.noZ (CC (Nat.le_succ _))) (Nat.succ_ne_self _) he hs0 RB (F1.keep fun o w=>hkp _ o w) w
   fun h' tk B' U' H' acc v b p R F dv q=>.mk h' tk B' U' _ H' rfl (sB.trans b) (sP.trans p) R F (.d dv) q
 cases ha:x.cps.all (·<128)
 ·exact core "str_iterator" _ rfl (fun A hh=>Draws.strWide hh _ x t) (by simpa [strIterType,ha] using hit)
 ·exact core "str_ascii_iterator" _ rfl (fun A hh=>Draws.strAscii hh _ x t) (by simpa [strIterType,ha] using hit)
end
section
variable {c:Cx}{T:aW}{r:Nat}
def I3(T:aW)(x:X):Prop:=∀sc e,aC T sc x e=true->tL e=tR e
theorem jx{x:X}(hx:SX c T r x)(hp:I3 T x)(h7:x.isLs=false):aR c T r x:=⟨hx,Ho hx hp,G1 (bp h7)⟩
theorem IJ{x:X}(hx:SX c T r x/\ST c T r x)(h7:x.isLs=false):aR c T r x:=⟨hx.1,hx.2,G1 (bp h7)⟩
theorem nR{x:X}(h:∀sc e,aC T sc x e=false):SX c T r x/\ST c T r x:=
 ⟨fun sc L env e m H Q hE hc hw=>(by rw[h] at hc;nomatch hc),fun sc L env e m H Q hE hc hk hw=>(by rw[h] at hc;nomatch hc)⟩
theorem HR(hT:TabOk c T):∀x:X,aR c T r x/\jH c T r x:=by
 intro x
 induction x with
 |c d=>exact⟨jx Sx (fun sc e h=>fw h fun _ _ _ _=>rfl) rfl,.bad (bp rfl T)⟩
 |v i=>exact⟨jx (SA hT) (fun sc e h=>Lu h fun _ _ _ _ _=>rfl) rfl,.bad (bp rfl T)⟩
 |g k=>exact⟨jx (Sz hT) (fun sc e h=>Ls h fun _ _ _ _ _=>rfl) rfl,.bad (bp rfl T)⟩
 |«at» e a ih=>exact⟨jx (PA hT ih.1) (fun sc e h=>Et h fun _ _ _ _ _ _=>rfl) rfl,.bad (bp rfl T)⟩
 |ix e i h1 h2=>exact⟨jx (PD hT h1.1 h2.1) (fun sc e h=>Ex h fun _ _ _ _ _ _=>rfl) rfl,.bad (bp rfl T)⟩
 |sl e lo hi h1 h2 h3=>exact⟨jx (PH h1.1 h2.1 h3.1) (fun sc e h=>EB h fun _ _ _ _ _ _ _ _=>rfl) rfl,.bad (bp rfl T)⟩
 |bin o a b h1 h2=>exact⟨jx (LT h1.1 h2.1) (fun sc e h=>yP h fun _ _ _ _ _ _ _=>rfl) rfl,.bad (bp rfl T)⟩
 |cmp a o b h1 h2=>exact⟨IJ (LU hT h1.1 h2.1) rfl,.bad (bp rfl T)⟩
 |cmp2 a o1 e o2 b h1 h2 h3=>exact⟨IJ (HA hT h1.1 h2.1 h3.1) rfl,.bad (bp rfl T)⟩
 |and a b h1 h2=>exact⟨IJ (LR h1.1 h2.1) rfl,.bad (bp rfl T)⟩
 |or a b h1 h2=>exact⟨IJ (PG h1.1 h2.1) rfl,.bad (bp rfl T)⟩
 |not e h1=>exact⟨IJ (L3 h1.1) rfl,.bad (bp rfl T)⟩
 |neg e h1=>exact⟨jx (L0 h1.1) (fun sc e h=>yU h fun _ _ _=>rfl) rfl,.bad (bp rfl T)⟩
 |ife t a b h1 h2 h3=>exact⟨IJ (LX h1.1 h2.1 h3.1) rfl,.bad (bp rfl T)⟩
 |tup es h1=>exact⟨jx (L5 h1.1) (fun sc e h=>iW h fun _ _ _ _=>rfl) rfl,.bad (bp rfl T)⟩
 |lst mu es h1=>exact⟨jx (LY h1.1) (fun sc e h=>q9 h fun _ _ _=>rfl) rfl,.bad (bp rfl T)⟩
 |dct ks es h1=>exact⟨jx (LV hT h1.2) (fun sc e h=>yR h fun _ _ _ _ _ _ _ _ _=>rfl) rfl,.bad (bp rfl T)⟩
 |comp elt i it t h1 h2 h3=>exact⟨jx (HB hT h1.1 h2.1 h3.1) (fun sc e h=>nC h fun _ _ _ _ _ _ _ _ _ _ _=>rfl) rfl,.bad (bp rfl T)⟩
 |f i=>exact⟨jx (Sy hT) (fun sc e h=>Lr h fun _ _ _ _ _ _=>rfl) rfl,.bad (bp rfl T)⟩
 |compE fs elt i j es t h1 h2 h3=>exact⟨jx (C8 hT h1.1 h2.1 h3.1) (fun sc e h=>pK h fun _ _ _ _ _ _ _ _ _ _ _ _ _ _ _ _ _ _ _=>rfl) rfl,.bad (bp rfl T)⟩
 |bi b es h1=>exact⟨jx (PB hT h1.1) (fun sc e h=>Eu h fun _ _ _ _ _ _=>rfl) rfl,.bad (bp rfl T)⟩
 |bm b o es h1 h2=>exact⟨jx (PC h1.1 h2.1) (fun sc e h=>Ew h fun _ _ _ _ _ _ _ _ _ _=>rfl) rfl,.bad (bp rfl T)⟩
 |repl o y z h1=>exact⟨jx (HD h1.1) (fun sc e h=>tc h fun _ _ _ _ _ _ _ _ _ _ _ _=>rfl) rfl,.bad (bp rfl T)⟩
 |app o e h1 h2=>exact⟨jx (LS h1.1 h2.1) (fun sc e h=>yO h fun _ _ _ _ _ _ _ _=>rfl) rfl,.bad (bp rfl T)⟩
 |pop o z h1=>exact⟨jx (L4 h1.1) (fun sc e h=>yW h fun _ _ _ _ _ _ _ _=>rfl) rfl,.bad (bp rfl T)⟩
 |cemp fs i it h1=>exact⟨jx (Hz hT h1.1) (fun sc e h=>s9 h fun _ _ _ _ _ _ _ _ _=>rfl) rfl,.bad (bp rfl T)⟩
 |call k es h1=>exact⟨jx (Hy hT h1.1) (fun sc e h=>s8 h fun _ _ _ _ _ _ _ _ _=>rfl) rfl,.bad (bp rfl T)⟩
 |mc o a es h1 h2=>exact⟨jx (PE hT h1.1 h2.1) (fun sc e h=>Ey h fun _ _ _ _ _ _ _ _ _ _=>rfl) rfl,.bad (bp rfl T)⟩
 |nl=>exact⟨jx PF (fun sc e h=>Ez h fun _=>rfl) rfl,.bad (bp rfl T)⟩
 |dic e h1=>exact⟨jx (LW hT h1.1) (fun sc e h=>yS h fun _ _ _ _ _ _=>rfl) rfl,.bad (bp rfl T)⟩
 |nil=>
  have h:=nR (c:=c) (T:=T) (r:=r) (x:=.nil) (fun sc e=>rfl)
  exact⟨⟨h.1,h.2,L2⟩,.nil⟩
 |cons a b h1 h2=>
  have h:=nR (c:=c) (T:=T) (r:=r) (x:=.cons a b) (fun sc e=>rfl)
  exact⟨⟨h.1,h.2,HC h1.1 h2.1⟩,.cons h1.1.1 h2.2⟩
 |non=>
  have h:=nR (c:=c) (T:=T) (r:=r) (x:=.non) (fun sc e=>rfl)
  exact⟨⟨h.1,h.2,G1 (bp rfl)⟩,.bad (bp rfl T)⟩
theorem cp(hT:TabOk c T)(x:X):aR c T r x:=(HR hT x).1
end
set_option genCtorIdx false in
inductive Tg where
 |nm (i:Nat)
 |at (e:X) (a:Nat)
 |ix (e i:X)
 |tup (ts:Tg)
 |tnil
 |tcons (t r:Tg)
 deriving Inhabited
noncomputable def Tg.ctorIdx(x:Tg):Nat:=Tg.casesOn x (fun _=>0) (fun _ _=>1) (fun _ _=>2) (fun _=>3) 4 (fun _ _=>5)
noncomputable def Tg.len:Tg->Nat
 |.tcons _ r=>r.len+1
 |_=>0
noncomputable def dG(T:aW)(H:Hp)(o:V)(a:Nat)(x:V):Option Hp:=match cellOf H o with
 |some (n,.inst C fs)=>bc (((lk a fs).isSome||T.fld C a)&&jm fs.length 900) (some (H.set n (some (.inst C (pk a x fs)))))
 |_=>none
noncomputable def wJ:Cell->Option (List (Nat×V))
 |.dict fs=>some fs
 |_=>none
noncomputable def xr(T:aW)(H:Hp)(o:V)(d:D):Option V:=(cellOf H o).bind fun p=>(wJ p.2).bind fun fs=>(ic d).bind fun s=>(d9 T.nms s.l fs).bind id
noncomputable def hV(T:aW)(H:Hp)(o i x:V):Option Hp:=(cellOf H o).bind fun p=>(wJ p.2).bind fun fs=>(dOf i).bind fun d=>(ic d).bind fun s=>(rQ T.nms s.l fs).bind fun k=>
 bc ((lk k fs).isSome&&jm fs.length 900) (some (H.set p.1 (some (.dict (pk k x fs)))))
mutual
def rB(c:Cx)(T:aW)(r:Nat):Tg->V->aD->Hp->(aD->Hp->Prop)->Prop
 |.nm i,x,m,H,Q=>Q (pk i x m) H
 |.at e a,x,m,H,Q=>wX c T r e m H fun o H1=>ok (dG T H1 o a x) fun H2=>Q m H2
 |.ix e i,x,m,H,Q=>wX c T r e m H fun o H1=>wX c T r i m H1 fun j H2=>ok (hV T H2 o j x) fun H3=>Q m H3
 |.tup ts,x,m,H,Q=>match x with
  |.d d=>ok (b8 d) fun ds=>ds.length=ts.len/\Ae c T r ts ds m H Q
  |_=>False
 |.tnil,_,_,_,_=>False
 |.tcons _ _,_,_,_,_=>False
termination_by structural t=>t
def Ae(c:Cx)(T:aW)(r:Nat):Tg->List D->aD->Hp->(aD->Hp->Prop)->Prop
 |.tnil,ds,m,H,Q=>ds=[]/\Q m H
 |.tcons t ts,ds,m,H,Q=>match ds with
  |d::ds=>rB c T r t (.d d) m H fun m1 H1=>Ae c T r ts ds m1 H1 Q
  |[]=>False
 |_,_,_,_,_=>False
termination_by structural t=>t
end
mutual
noncomputable def ec(T:aW)(sc:Scope):Tg->Expr->Bool
 |.nm i,e=>cK (fun x=>b0 T i x&&a5 sc x .local) e
 |.at a i,e=>gf (fun b x _=>aC T sc a b&&b0 T i x) e
 |.ix a i,e=>lX (fun b j=>aC T sc a b&&aC T sc i j) e
 |.tup ts,e=>pJ (f9 T sc ts) e
 |_,_=>false
termination_by structural t=>t
noncomputable def f9(T:aW)(sc:Scope):Tg->List Expr->Bool
 |.tnil,[]=>true
 |.tcons t r,e::es=>ec T sc t e&&f9 T sc r es
 |_,_=>false
termination_by structural t=>t
end
set_option genCtorIdx false in
inductive S where
 |nil
 |seq (s r:S)
 |asg (t:Tg) (e:X)
 |augN (i:Nat) (o:e7) (e:X)
 |ext (i:Nat) (e:X)
 |asgC (y:Nat) (elt:X) (i:Nat) (it t:X)
 |augA (b:X) (a:Nat) (o:e7) (e:X)
 |augI (b:X) (d:D) (o:e7) (e:X)
 |ex (e:X)
 |ite (t:X) (a b:S)
 |whl (t:X) (b:S)
 |for (t:Tg) (e:X) (b:S)
 |ret (e:X)
 |brk
 |asrt (t:X)
 |dead
 deriving Inhabited
noncomputable def S.ctorIdx(x:S):Nat:=S.casesOn x 0 (fun _ _=>1) (fun _ _=>2) (fun _ _ _=>3) (fun _ _=>4) (fun _ _ _ _ _=>5) (fun _ _ _ _=>6) (fun _ _ _ _=>7) (fun _=>8) (fun _ _ _=>9) (fun _ _=>10) (fun _ _ _=>11) (fun _=>12) 13 (fun _=>14) 15
noncomputable def dV:V->Option D
 |.d d=>some d
 |_=>none
noncomputable def fY:e7->D->D->Option D
 |.add,x,y=>DO x y
 |.sub,x,y=>fS .sub x y
 |_,_,_=>none
noncomputable def NR:Cell->Option (List D)
 |.dlist ds=>some ds
 |_=>none
noncomputable def Qz:D->Option (List D)
 |.list xs=>some xs
 |_=>none
noncomputable def xc(H:Hp)(o v:V):Option (Nat×Cell):=(cellOf H o).bind fun p=>(NR p.2).bind fun ds=>((dV v).bind Qz).bind fun xs=>bc (jm (ds.length+xs.length) 900) (some (p.1,.dlist (ds++xs)))
def wS(c:Cx)(T:aW)(r k:Nat):S->aD->Hp->(Fl->aD->Hp->Prop)->Prop
 |.nil,m,H,Q=>Q .next m H
 |.seq s rest,m,H,Q=>wS c T r k s m H fun fl m1 H1=>match fl with
  |.next=>wS c T r k rest m1 H1 Q
  |f=>Q f m1 H1
 |.asg t e,m,H,Q=>wX c T r e m H fun v H1=>rB c T r t v m H1 fun m1 H2=>Q .next m1 H2
 |.augN i o e,m,H,Q=>ok ((lk i m).bind dV) fun old=>wX c T r e m H fun v H1=>ok (dV v) fun d=>ok (fY o old d) fun z=>Q .next (pk i (.d z) m) H1
 |.ext i e,m,H,Q=>ok (lk i m) fun o=>wX c T r e m H fun v H1=>ok (xc H1 o v) fun p=>Q .next (pk i o m) (H1.set p.1 (some p.2))
 |.asgC y elt i it t,m,H,Q=>wX c T r it m H fun v H1=>ok ((dV v).bind b8) fun ds=>dY (ee t.isNon (wX c T r t) (wX c T r elt) i) (ds.map .d) [] H1 fun acc H2=>Q .next (pk y (.d (.list acc)) m) H2
 |.augA b a o e,m,H,Q=>wX c T r b m H fun ov H1=>ok ((ej T H1 ov a).bind dV) fun old=>wX c T r e m H1 fun v H2=>ok (dV v) fun d=>ok (fY o old d) fun z=>ok (dG T H2 ov a (.d z)) fun H3=>Q .next m H3
 |.augI b i o e,m,H,Q=>wX c T r b m H fun ov H1=>ok ((xr T H1 ov i).bind dV) fun old=>wX c T r e m H1 fun v H2=>ok (dV v) fun d=>ok (fY o old d) fun z=>ok (hV T H2 ov (.d i) (.d z)) fun H3=>Q .next m H3
 |.ex e,m,H,Q=>wX c T r e m H fun _ H1=>Q .next m H1
 |.ite t a b,m,H,Q=>wX c T r t m H fun v H1=>ok (aN H1 v) fun z=>if z=true then wS c T r k a m H1 Q else wS c T r k b m H1 Q
 |.whl t b,m,H,Q=>∃n,i8 k (fun m H K=>wX c T r t m H fun v H1=>ok (aN H1 v) fun z=>K z H1) (wS c T r k b) n m H Q
 |.for t e b,m,H,Q=>wX c T r e m H fun v H1=>ok ((dV v).bind b8) fun ds=>il k (fun d m H K=>rB c T r t (.d d) m H K) (wS c T r k b) ds m H1 Q
 |.ret e,m,H,Q=>wTestRet e.isNon (wX c T r e) m H fun v H1=>Q (.ret v) m H1
 |.brk,m,H,Q=>Q .brk m H
 |.asrt t,m,H,Q=>wX c T r t m H fun v H1=>aN H1 v=some true/\Q .next m H1
 |.dead,_,_,_=>False
termination_by structural s=>s
where wTestRet (b:Bool) (w:aD->Hp->(SV)->Prop) (m:aD) (H:Hp) (Q:SV):Prop:=match b with
 |true=>Q (.d .none) H
 |false=>w m H Q
section
variable {c:Cx}{T:aW}{r:Nat}{sc:Scope}{L:Addr}{env:Env}{m:aD}{H:Hp}{P:Heap->Ph->Prop}{B Z h:Heap}{U:Ph}
theorem TrA.bindX{α β:Type}{R:Heap->Ph->α->β->Prop}{t:Sem α}{k:α->Sem Unit}{Q1:β->Hp->Prop}{Q:aD->Hp->Prop}(hP:Mono P)(h:Tr R c r L m (fun _ _=>True) H t Q1)(g:∀x H' v,Q1 x H'->TrA c r L m (fun B U=>P B U/\R B U v x) H' (k v) Q):TrA c r L m P H (t >>= k) Q:=by
 intro A E s B Z U hA ht hR hF hp
 refine wpAny_bind (Tr.run (h) hA ht hR hF trivial fun v h' tk B' U' x H' ht' b p R1 F1 rv q=>?_)
 refine wpAny_mono (g x H' v q A E _ B' Z U' hA ht' R1 F1 ⟨hP _ _ _ _ b p hp,rv⟩) ?_ fun _ _ x=>x
 rintro _ s'' ⟨h2,tk2,B2,U2,m2,H2,rfl,b2,p2,R2,F2,q2⟩
 exact⟨h2,tk2,B2,U2,m2,H2,rfl,b.trans b2,p.trans p2,R2,F2,q2⟩
theorem TrA.skip{t:Sem Unit}{k:Unit->Sem Unit}{Q:aD->Hp->Prop}(hs:tS t)(h:TrA c r L m P H (k ()) Q):TrA c r L m P H (t >>= k) Q:=
 fun A E s B Z U hA ht hR hF hp=>wpAny_bind (hs _ _ _ _ _ (h A E s B Z U hA ht hR hF hp))
theorem TrA.ofTr{β:Type}{R:Heap->Ph->Unit->β->Prop}{t:Sem Unit}{Q1:β->Hp->Prop}{Q:aD->Hp->Prop}(h:Tr R c r L m P H t Q1)(q:∀x H',Q1 x H'->Q m H'):TrA c r L m P H t Q:=by
 intro A E s B Z U hA ht hR hF hp
 refine wpAny_mono (h A E s B Z U hA ht hR hF hp) ?_ fun _ _ x=>x
 rintro _ s' ⟨h',tk,B',U',x,H',rfl,b,p,R1,F1,_,k⟩
 exact⟨h',tk,B',U',m,H',rfl,b,p,R1,F1,q _ _ k⟩
theorem TrA.weak{P':Heap->Ph->Prop}{t:Sem Unit}{Q:aD->Hp->Prop}(h:TrA c r L m P H t Q)(hp:∀B U,P' B U->P B U):TrA c r L m P' H t Q:=
 fun A E s B Z U hA ht hR hF k=>h A E s B Z U hA ht hR hF (hp _ _ k)
theorem dn{ov:V}{n:Nat}{cl:Cell}(hc:cellOf H ov=some (n,cl)):ov=.r n/\H[n]?=some (some cl):=by
 cases ov with
 |r k=>
  unfold cellOf at hc
  dsimp only at hc
  rcases hn:H[k]? with _|_|cl'
  ·rw[hn] at hc;nomatch hc
  ·rw[hn] at hc;nomatch hc
  ·rw[hn] at hc;cases hc;exact⟨rfl,hn⟩
 |_=>nomatch hc
theorem p8(hT:TabOk c T){o v:Value}{ov x:V}{a:Nat}{H2:Hp}{Q:Unit->Hp->Prop}(hv:∀B U,P B U->VR B U o ov/\VR B U v x)(e:dG T H ov a x=some H2)(q:Q () H2):Tr (fun _ _ _ (_:Unit)=>True) c r L m P H (setAttr o (c.nm a) v) Q:=by
 unfold dG at e
 rcases hc:cellOf H ov with _|⟨n,cl⟩
 ·rw[hc] at e;nomatch e
 ·rw[hc] at e
  cases cl with
  |inst C fs=>
   obtain⟨hb,rfl⟩:=aX e
   refine aS hb fun h1 h2=>?_
   obtain⟨rfl,hn⟩:=dn hc
   refine vA hv hn ?_ (fj h2) q
   rcases Bool.or_eq_true_iff.mp h1 with h|h
   ·exact .inr h
   ·exact .inl (hT.fld _ _ h)
  |_=>nomatch e
theorem oD{cl:Cell}{fs:List (Nat×V)}(h:wJ cl=some fs):cl=.dict fs:=by
 cases cl with
 |dict=>cases h;rfl
 |_=>nomatch h
theorem wq(hT:TabOk c T){s:SQ}{fs:List (Nat×V)}{k:Nat}(e:rQ T.nms s fs=some k):c.nm k=Sl s:=by
 induction fs with
 |nil=>nomatch e
 |cons p r ih=>
  have e:(match T.nms[p.1]? with|none=>none|some l=>if l=s then some p.1 else rQ T.nms s r)=some k:=e
  rcases hl:T.nms[p.1]? with _|l
  ·rw[hl] at e;nomatch e
  ·rw[hl] at e
   dsimp only at e
   split at e
   ·rename_i hs
    cases e
    rw[hT.nm _ _ hl,hs]
   ·exact ih e
theorem p9(hT:TabOk c T){o i v:Value}{ov iv x:V}{H2:Hp}{Q:Unit->Hp->Prop}(hv:∀B U,P B U->VR B U o ov/\VR B U i iv/\VR B U v x)(e:hV T H ov iv x=some H2)(q:Q () H2):Tr (fun _ _ _ (_:Unit)=>True) c r L m P H (setItem o i v) Q:=by
 refine ax e fun p hc e=>ax e fun fs hd e=>ax e fun d h1 e=>ax e fun sx h2 e=>ax e fun k hk e=>?_
 obtain⟨hb,rfl⟩:=aX e
 obtain⟨rfl,hn⟩:=dn (n:=p.1) (cl:=p.2) hc
 rw[oD hd] at hn
 have hnm:=wq hT hk
 rw[bW] at hnm
 refine rz hnm (fun B U h=>⟨(hv B U h).1,.d (bG h2▸(hv B U h).2.1.dOf h1),(hv B U h).2.2⟩) hn (ak (fj (ay hb).2) (by decide)) ?_
 rw[au (ay hb).1];exact q
theorem Dp(hT:TabOk c T){o i:Value}{ov:V}{d:D}{z:V}{Q:SV}(hv:∀B U,P B U->VR B U o ov/\VR B U i (.d d))(e:xr T H ov d=some z)(q:Q z H):Tr VR c r L m P H (getItem o i) Q:=by
 refine ax e fun p hc e=>ax e fun fs hd e=>ax e fun sx h2 e=>ax e fun y h3 h4=>?_
 cases h4
 obtain⟨rfl,hn⟩:=dn (n:=p.1) (cl:=p.2) hc
 rw[oD hd] at hn
 intro A E s B Z U hA ht hR hF hp
 obtain⟨ho,hi⟩:=hv _ _ hp
 rw[bG h2] at hi
 obtain⟨t,rfl,ok⟩:=hi.d_of.str_okL
 obtain⟨p',rfl,hφ,_,_,od,es,hg,hdd,hk⟩:=bD hR ho hn
 obtain⟨v,hv1,hv2⟩:=hk.look hT h3
 rw[bW] at hv1
 exact wpAny_getItem_of (cx _ _) (fm hg hdd).mapOf hv1 (aM (tk:=s.toks+1) hR hF hv2 q)
theorem Tr.holdA{vs:List Value}{t:Sem Unit}{Q:aD->Hp->Prop}(h:TrA c r L m P H t Q):TrA c r L m P H (PySem.holding vs t) Q:=
 fun A E s B Z U hA ht hR hF hp=>wpAny_holding (h A E s B Z U hA ht hR hF hp)
theorem TrA.thenSkip{t:Sem Unit}{k:Unit->Sem Unit}{Q:aD->Hp->Prop}(h:TrA c r L m P H t Q)(hs:tS (k ())):TrA c r L m P H (t >>= k) Q:=
 fun A E s B Z U hA ht hR hF hp=>wpAny_bind (wpAny_mono (h A E s B Z U hA ht hR hF hp) (fun _ s' q=>hs _ _ _ _ _ q) fun _ _ x=>x)
end
section
variable {c:Cx}{T:aW}{r:Nat}{sc:Scope}{L:Addr}{env:Env}{m:aD}{H:Hp}{P:Heap->Ph->Prop}{B Z h:Heap}{U:Ph}
def DM(c:Cx)(T:aW)(r:Nat)(t:Tg):Prop:=∀sc L env e m H (x:V) (v:Value) (Q:aD->Hp->Prop),aZ c sc L env->ec T sc t e=true->rB c T r t x m H Q->TrA c r L m (fun B U=>VR B U v x) H (assign e env v) Q
def tP(c:Cx)(T:aW)(r:Nat)(t:Tg):Prop:=∀sc L env es m H (ds:List D) (vs:List Value) (Q:aD->Hp->Prop),aZ c sc L env->f9 T sc t es=true->Ae c T r t ds m H Q ->
 TrA c r L m (fun B U=>DVs B vs ds) H (assignInOrder ((assignEach es env).map (·.2)) vs) Q
theorem Mr{t:Tg}{e:Expr}(h:ec T sc t e=true):fu e=true:=by
 cases t with
 |nm i=>exact bT h fun _ _ _=>rfl
 |«at» a i=>exact eJ h fun _ _ _ _=>rfl
 |ix a i=>exact iV h fun _ _ _ _=>rfl
 |tup ts=>exact iW h fun _ _ _ _=>rfl
 |tnil=>exact nof2 h
 |tcons t ts=>exact nof2 h
theorem jN{t:Tg}{e:Expr}{es:List Expr}(h:ec T sc t e=true):assignEach (e::es) env=(false,assign e env)::assignEach es env:=A5 (Mr h)
theorem zW{t:Tg}{es:List Expr}(h:f9 T sc t es=true):t=.tnil/\es=[]\/∃a r e es',t=.tcons a r/\es=e::es'/\ec T sc a e=true/\f9 T sc r es'=true:=by
 cases t with
 |tnil=>cases es with
  |nil=>exact .inl ⟨rfl,rfl⟩
  |cons=>exact nof2 h
 |tcons a r=>cases es with
  |nil=>exact nof2 h
  |cons e es=>exact .inr ⟨a,r,e,es,rfl,rfl,ay h⟩
 |_=>exact nof2 h
theorem zV{t:Tg}{es:List Expr}(h:f9 T sc t es=true):(assignEach es env).length=t.len/\(assignEach es env).findIdx? (·.1)=none:=by
 induction es generalizing t with
 |nil=>
  rcases zW h with ⟨rfl,_⟩|⟨_,_,_,_,_,q,_⟩
  ·exact⟨rfl,rfl⟩
  ·nomatch q
 |cons e es ih=>
  rcases zW h with ⟨_,q⟩|⟨a,r,e',es',rfl,q,c1,c2⟩
  ·nomatch q
  ·cases q
   obtain⟨h1,h2⟩:=ih c2
   rw[jN c1]
   exact⟨by rw[ag,h1];rfl,by rw[List.findIdx?_cons];simp[h2]⟩
theorem Me(hT:TabOk c T){a:X}{i:Nat}:DM c T r (.at a i):=by
 intro sc L env e m H x v Q hE hc hw
 refine eJ hc fun e' nm p hc=>?_
 refine aS hc fun h1 h2=>?_
 have en:=cC hT h2
 subst en
 show TrA _ _ _ _ _ _ (holding [v] (eval e' env) >>= fun ov=>standAt p.atName >>= fun _=>holding [v,ov] (setAttr ov (c.nm i) v) >>= fun _=>release [v,ov] []) _
 refine TrA.bindX (Mono.vr _ _) (Tr.holding ((cp hT a).1 _ _ _ _ _ _ _ hE h1 hw)) fun ov H1 o w=>TrA.skip (aw _) ?_
 refine aQ w fun H2 h2 q=>?_
 exact TrA.thenSkip (Tr.holdA (TrA.ofTr (p8 (Q:=fun _ H'=>H'=H2) hT (fun B U h=>⟨h.2,h.1⟩) h2 rfl) fun _ H' e=>by rw[e];exact q)) (b5 _ _)
theorem E9(e' i':Expr)(p:Pos)(v:Value):∃rl:Value->Value->List Value,assign (.Subscript e' i' p) env v=(holding [v] (eval e' env) >>= fun ov=>holding [v,ov] (eval i' env) >>= fun iv=>standAt p >>= fun _=>holding [v,ov,iv] (setItem ov iv v) >>= fun _=>release (rl ov iv) []):=
 ⟨_,rfl⟩
theorem Mf(hT:TabOk c T){a i:X}:DM c T r (.ix a i):=by
 intro sc L env e m H x v Q hE hc hw
 refine iV hc fun e' i' p hc=>?_
 refine aS hc fun h1 h2=>?_
 obtain⟨rl,er⟩:=E9 (env:=env) e' i' p v
 rw[er]
 refine TrA.bindX (Mono.vr _ _) (Tr.holding ((cp hT a).1 _ _ _ _ _ _ _ hE h1 hw)) fun ov H1 o w=>?_
 refine TrA.bindX (Mono.and (Mono.vr _ _) (Mono.vr _ _)) (Tr.holding ((cp hT i).1 _ _ _ _ _ _ _ hE h2 w)) fun iv H2 j w=>TrA.skip (aw _) ?_
 refine aQ w fun H3 h3 q=>?_
 exact TrA.thenSkip (Tr.holdA (TrA.ofTr (p9 (Q:=fun _ H'=>H'=H3) hT (fun B U h=>⟨h.1.2,h.2,h.1.1⟩) h3 rfl) fun _ H' e=>by rw[e];exact q)) (b5 _ _)
theorem Mg(hT:TabOk c T){i:Nat}:DM c T r (.nm i):=by
 intro sc L env e m H x v Q hE hc hw
 refine bT hc fun nm p hc=>?_
 refine aS hc fun h1 h2=>?_
 have en:=cC hT h1
 subst en
 exact zY hE (bb h2) (fun B U h=>h) hw
theorem HZ{ts:Tg}(h:tP c T r ts):DM c T r (.tup ts):=by
 intro sc L env e m H x v Q hE hc hw
 refine iW hc fun es k p hc=>?_
 show TrA _ _ _ _ _ _ (standAt p >>= fun _=>unpack v (assignEach es env)) _
 refine TrA.skip (aw _) ?_
 dsimp only[rB] at hw
 split at hw
 ·rename_i d
  obtain⟨ds,hds,hlen,w⟩:=ek hw
  intro A E s B Z U hA ht hR hF hp
  obtain⟨h1,h2⟩:=zV (env:=env) hc
  unfold unpack
  rw[h1,h2,←hlen]
  refine wpAny_bind (wpAny_holding (wpAny_with_toks (n:=1) ht (qd hA.2.2.1 hR hp.d_of hds fun h' tk vs keep dv ht'=>?_)))
  have h3:=h _ _ _ _ _ _ ds vs _ hE hc w
  have:=h3 A E { s with heap:=h',toks:=tk } B Z U hA ht' (hR.keep fun b o _ e=>keep b o e) (hF.keep fun o e=>keep _ o e) dv
  exact wpAny_mono this (fun _ _ x=>x.at rfl) fun _ _ x=>x
 ·exact hw.elim
theorem Dj:tP c T r .tnil:=by
 intro sc L env es m H ds vs Q hE hc hw
 cases es with
 |nil=>
  obtain⟨rfl,q⟩:=hw
  intro A E s B Z U hA ht hR hF hp
  exact wpAny_pure ⟨s.heap,s.toks,B,U,m,H,rfl,Sub.refl _,PSub.refl _,hR,hF,q⟩
 |cons=>nomatch hc
theorem zM{t ts:Tg}(h1:DM c T r t)(h2:tP c T r ts):tP c T r (.tcons t ts):=by
 intro sc L env es m H ds vs Q hE hc hw
 cases es with
 |nil=>nomatch hc
 |cons e es=>
  refine aS hc fun c1 c2=>?_
  have ns:assignEach (e::es) env=(false,assign e env)::assignEach es env:=jN c1
  cases ds with
  |nil=>exact hw.elim
  |cons d ds=>
   have hw:rB c T r t (.d d) m H fun m1 H1=>Ae c T r ts ds m1 H1 Q:=hw
   intro A E s B Z U hA ht hR hF hp
   obtain⟨v,ws,rfl,hv,hvs⟩:=hp.uncons
   rw[ns]
   show wpAny c.M A (PySem.holding ws (assign e env v) >>= fun _=>assignInOrder ((assignEach es env).map (·.2)) ws) _ _ _
   refine wpAny_bind (wpAny_holding (TrA.run (h1 _ _ _ _ _ _ (.d d) v _ hE c1 hw) hA ht hR hF (.d hv) fun _ h' tk B' U' m' H' ht' b p R1 F1 q=>?_))
   refine wpAny_mono (h2 _ _ _ _ _ _ ds ws _ hE c2 q A E _ B' Z U' hA ht' R1 F1 (hvs.mono b)) ?_ fun _ _ x=>x
   rintro _ s'' ⟨h3,tk2,B2,U2,m2,H2,rfl,b2,p2,R2,F2,q2⟩
   exact⟨h3,tk2,B2,U2,m2,H2,rfl,b.trans b2,p.trans p2,R2,F2,q2⟩
theorem zU(hT:TabOk c T)(t:Tg):DM c T r t/\tP c T r t:=by
 have no:∀{t:Tg},(∀sc es,f9 T sc t es=false)->tP c T r t:=fun h sc L env es m H ds vs Q hE hc hw=>by rw[h] at hc;nomatch hc
 have no':∀{t:Tg},(∀sc e,ec T sc t e=false)->DM c T r t:=fun h sc L env es m H x v Q hE hc hw=>by rw[h] at hc;nomatch hc
 induction t with
 |nm i=>exact⟨Mg hT,no fun sc es=>rfl⟩
 |«at» e a=>exact⟨Me hT,no fun sc es=>rfl⟩
 |ix e i=>exact⟨Mf hT,no fun sc es=>rfl⟩
 |tup ts ih=>exact⟨HZ ih.2,no fun sc es=>rfl⟩
 |tnil=>exact⟨no' fun sc e=>rfl,Dj⟩
 |tcons t ts h1 h2=>exact⟨no' fun sc e=>rfl,zM h1.1 h2.2⟩
theorem tz(hT:TabOk c T)(t:Tg):DM c T r t:=(zU hT t).1
end
noncomputable def dB(e:Expr):Bool:=e.ctorIdx==25
noncomputable def rJ(t v:Expr):Bool:=(!iM v&&!(dB v&&dB t))||(dB t&&v.ctorIdx==8)
noncomputable def sM(f:List Expr->Expr->Bool)(x:Stmt):Bool:=if h:x.ctorIdx=5 then Stmt.Assign.elim (motive_2:=fun _=>Bool) x h fun ts e _=>f ts e else false
noncomputable def lW(f:Expr->Operator->Expr->Bool)(x:Stmt):Bool:=if h:x.ctorIdx=7 then Stmt.AugAssign.elim (motive_2:=fun _=>Bool) x h fun t o e _=>f t o e else false
noncomputable def sV(f:Expr->Expr->List Stmt->List Stmt->Bool)(x:Stmt):Bool:=if h:x.ctorIdx=9 then Stmt.For.elim (motive_2:=fun _=>Bool) x h fun t e b o _=>f t e b o else false
noncomputable def lY(f:Expr->List Stmt->List Stmt->Bool)(x:Stmt):Bool:=if h:x.ctorIdx=11 then Stmt.While.elim (motive_2:=fun _=>Bool) x h fun t b o _=>f t b o else false
noncomputable def Ha(f:Expr->List Stmt->List Stmt->Bool)(x:Stmt):Bool:=if h:x.ctorIdx=12 then Stmt.If.elim (motive_2:=fun _=>Bool) x h fun t a b _=>f t a b else false
noncomputable def CK(f:Expr->Bool)(x:Stmt):Bool:=if h:x.ctorIdx=24 then Stmt.Expr.elim (motive_2:=fun _=>Bool) x h fun e _=>f e else false
noncomputable def yH(f:Option Expr->Bool)(x:Stmt):Bool:=if h:x.ctorIdx=3 then Stmt.Return.elim (motive_2:=fun _=>Bool) x h fun e _=>f e else false
noncomputable def q8(f:Expr->Bool)(x:Stmt):Bool:=if h:x.ctorIdx=19 then Stmt.Assert.elim (motive_2:=fun _=>Bool) x h fun t _ _=>f t else false
noncomputable def r7(z:Str)(e:Expr):Bool:=iT (fun _ _ scope=>!(scope.names.any fun (n,k)=>n==z&&(k==.local||k==.cell))) e
mutual
noncomputable def iC(T:aW)(sc:Scope):S->Stmt->Bool
 |.asg t e,x=>sM (fun ts e'=>em (fun t'=>ec T sc t t'&&aC T sc e e'&&rJ t' e') ts) x
 |.asgC y elt i it t,x=>sM (fun ts e'=>em (fun t'=>cK (fun z=>b0 T y z&&a5 sc z .local&&r7 z e') t'&&((t'.pos.line==e'.pos.line)&&aC T sc (.comp elt i it t) e')) ts) x
 |.ext i e,x=>lW (fun t o' e'=>cK (fun y=>b0 T i y&&a5 sc y .local&&rc .add o'&&aC T sc e e') t) x
 |.augN i o e,x=>lW (fun t o' e'=>cK (fun y=>b0 T i y&&a5 sc y .local&&rc o o'&&aC T sc e e') t) x
 |.augA b a o e,x=>lW (fun t o' e'=>gf (fun b' y _=>aC T sc b b'&&b0 T a y&&rc o o'&&aC T sc e e') t) x
 |.ex e,x=>CK (fun e'=>aC T sc e e'&&!iM e') x
 |.ite t a b,x=>Ha (fun t' a' b'=>aC T sc t t'&&d4 T sc a a'&&d4 T sc b b') x
 |.whl t b,x=>lY (fun t' b' o=>o.isEmpty&&aC T sc t t'&&d4 T sc b b') x
 |.for t e b,x=>sV (fun t' e' b' o=>o.isEmpty&&ec T sc t t'&&(fu e'&&aC T sc e e')&&d4 T sc b b') x
 |.ret e,x=>yH (fun q=>dj e.isNon (aC T sc e) q) x
 |.brk,x=>x.ctorIdx==26
 |.asrt t,x=>q8 (fun t'=>aC T sc t t') x
 |.dead,_=>true
 |.nil,_=>false
 |.seq _ _,_=>false
 |.augI b d o e,x=>lW (fun t o' e'=>lX (fun b' j=>fP (fun k=>aC T sc b b'&&rV k d&&rc o o'&&aC T sc e e') j) t) x
termination_by structural s=>s
noncomputable def d4(T:aW)(sc:Scope):S->List Stmt->Bool
 |.nil,[]=>true
 |.seq s r,x::xs=>iC T sc s x&&d4 T sc r xs
 |_,_=>false
termination_by structural s=>s
end
@[elab_as_elim] theorem yw{f:List Expr->Expr->Bool}{C:Stmt->Prop}{x:Stmt}(h:sM f x=true)(k:∀ts e p,f ts e=true->C (.Assign ts e p)):C x:=by
 by_cases hi:x.ctorIdx=5
 ·exact Stmt.Assign.elim (motive_2:=fun x=>sM f x=true->C x) x hi k h
 ·exact nof2 ((dif_neg hi).symm.trans h)
@[elab_as_elim] theorem nk{f:Expr->Operator->Expr->Bool}{C:Stmt->Prop}{x:Stmt}(h:lW f x=true)(k:∀t o e p,f t o e=true->C (.AugAssign t o e p)):C x:=by
 by_cases hi:x.ctorIdx=7
 ·exact Stmt.AugAssign.elim (motive_2:=fun x=>lW f x=true->C x) x hi k h
 ·exact nof2 ((dif_neg hi).symm.trans h)
@[elab_as_elim] theorem yB{f:Expr->Expr->List Stmt->List Stmt->Bool}{C:Stmt->Prop}{x:Stmt}(h:sV f x=true)(k:∀t e b o p,f t e b o=true->C (.For t e b o p)):C x:=by
 by_cases hi:x.ctorIdx=9
 ·exact Stmt.For.elim (motive_2:=fun x=>sV f x=true->C x) x hi k h
 ·exact nof2 ((dif_neg hi).symm.trans h)
@[elab_as_elim] theorem nz{f:Expr->List Stmt->List Stmt->Bool}{C:Stmt->Prop}{x:Stmt}(h:lY f x=true)(k:∀t b o p,f t b o=true->C (.While t b o p)):C x:=by
 by_cases hi:x.ctorIdx=11
 ·exact Stmt.While.elim (motive_2:=fun x=>lY f x=true->C x) x hi k h
 ·exact nof2 ((dif_neg hi).symm.trans h)
@[elab_as_elim] theorem Lq{f:Expr->List Stmt->List Stmt->Bool}{C:Stmt->Prop}{x:Stmt}(h:Ha f x=true)(k:∀t a b p,f t a b=true->C (.If t a b p)):C x:=by
 by_cases hi:x.ctorIdx=12
 ·exact Stmt.If.elim (motive_2:=fun x=>Ha f x=true->C x) x hi k h
 ·exact nof2 ((dif_neg hi).symm.trans h)
@[elab_as_elim] theorem Er{f:Expr->Bool}{C:Stmt->Prop}{x:Stmt}(h:CK f x=true)(k:∀e p,f e=true->C (.Expr e p)):C x:=by
 by_cases hi:x.ctorIdx=24
 ·exact Stmt.Expr.elim (motive_2:=fun x=>CK f x=true->C x) x hi k h
 ·exact nof2 ((dif_neg hi).symm.trans h)
@[elab_as_elim] theorem Hd{f:Option Expr->Bool}{C:Stmt->Prop}{x:Stmt}(h:yH f x=true)(k:∀e p,f e=true->C (.Return e p)):C x:=by
 by_cases hi:x.ctorIdx=3
 ·exact Stmt.Return.elim (motive_2:=fun x=>yH f x=true->C x) x hi k h
 ·exact nof2 ((dif_neg hi).symm.trans h)
@[elab_as_elim] theorem CJ{f:Expr->Bool}{C:Stmt->Prop}{x:Stmt}(h:q8 f x=true)(k:∀t m p,f t=true->C (.Assert t m p)):C x:=by
 by_cases hi:x.ctorIdx=19
 ·exact Stmt.Assert.elim (motive_2:=fun x=>q8 f x=true->C x) x hi k h
 ·exact nof2 ((dif_neg hi).symm.trans h)
section
variable {T:aW}{sc:Scope}{x:Stmt}{C:Stmt->Prop}
theorem td{o:e7}{o':Operator}(h:rc o o'=true):o'=nF o:=(of_decide_eq_true h).symm
@[elab_as_elim] theorem Hg{t:Tg}{e:X}(hc:iC T sc (.asg t e) x=true)(k:∀t' e' p,ec T sc t t'=true->aC T sc e e'=true->rJ t' e'=true->C (.Assign [t'] e' p)):C x:=
 yw hc fun ts e' p h=>dc (C:=fun ts=>C (.Assign ts e' p)) h fun t' h=>eO h fun h1 h2 h3=>k t' e' p h1 h2 h3
@[elab_as_elim] theorem Hj{t:X}{b:S}(hc:iC T sc (.whl t b) x=true)(k:∀t' b' p,aC T sc t t'=true->d4 T sc b b'=true->C (.While t' b' [] p)):C x:=
 nz hc fun t' b' o p h=>eO h fun h0 h1 h2=>(List.isEmpty_iff.mp h0)▸k t' b' p h1 h2
@[elab_as_elim] theorem Hi{t:Tg}{e:X}{b:S}(hc:iC T sc (.for t e b) x=true)(k:∀t' e' b' p,ec T sc t t'=true->(fu e'&&aC T sc e e')=true->d4 T sc b b'=true->C (.For t' e' b' [] p)):C x:=
 yB hc fun t' e' b' o p h=>d8 h fun h0 h1 h2 h3=>(List.isEmpty_iff.mp h0)▸k t' e' b' p h1 h2 h3
@[elab_as_elim] theorem Hh{i:Nat}{e:X}(hc:iC T sc (.ext i e) x=true)(k:∀y e' np p,b0 T i y=true->a5 sc y .local=true->aC T sc e e'=true->C (.AugAssign (.Name y np) (nF .add) e' p)):C x:=
 nk hc fun t o' e' p h=>bT (C:=fun t=>C (.AugAssign t o' e' p)) h fun y np h=>d8 h fun h1 h2 h3 h4=>(td h3).symm▸k y e' np p h1 h2 h4
@[elab_as_elim] theorem CS{i:Nat}{o:e7}{e:X}(hc:iC T sc (.augN i o e) x=true)(k:∀y e' np p,b0 T i y=true->a5 sc y .local=true->aC T sc e e'=true->C (.AugAssign (.Name y np) (nF o) e' p)):C x:=
 nk hc fun t o' e' p h=>bT (C:=fun t=>C (.AugAssign t o' e' p)) h fun y np h=>d8 h fun h1 h2 h3 h4=>(td h3).symm▸k y e' np p h1 h2 h4
@[elab_as_elim] theorem CO{b:X}{a:Nat}{o:e7}{e:X}(hc:iC T sc (.augA b a o e) x=true)(k:∀b' e' y np p,aC T sc b b'=true->b0 T a y=true->aC T sc e e'=true->C (.AugAssign (.Attribute b' y np) (nF o) e' p)):C x:=
 nk hc fun t o' e' p h=>eJ (C:=fun t=>C (.AugAssign t o' e' p)) h fun b' y np h=>d8 h fun h1 h2 h3 h4=>(td h3).symm▸k b' e' y np p h1 h2 h4
@[elab_as_elim] theorem CQ{b:X}{d:D}{o:e7}{e:X}(hc:iC T sc (.augI b d o e) x=true)(k:∀b' e' n kk np pp p,aC T sc b b'=true->rV n d=true->aC T sc e e'=true->C (.AugAssign (.Subscript b' (.Constant n kk np) pp) (nF o) e' p)):C x:=
 nk hc fun t o' e' p h=>iV (C:=fun t=>C (.AugAssign t o' e' p)) h fun b' j pp h=>fw (C:=fun j=>C (.AugAssign (.Subscript b' j pp) o' e' p)) h fun n kk np h=>d8 h fun h1 h2 h3 h4=>(td h3).symm▸k b' e' n kk np pp p h1 h2 h4
end
def TrSP(c:Cx)(r:Nat)(L:Addr)(k:Nat)(m:aD)(P:Heap->Ph->Prop)(H:Hp)(t:Sem Flow)(Q:Fl->aD->Hp->Prop):Prop:=
 ∀A (E:SU) s B Z U,Room r A->1<=s.toks->Rel c B Z U L H s.heap->FrR c B U L m s.heap->P B U->wpAny c.M A t (fun f s'=>EndS c B Z U L k Q s f s') E s
section
variable {c:Cx}{T:aW}{r k:Nat}{sc:Scope}{L:Addr}{env:Env}{m:aD}{H:Hp}{P:Heap->Ph->Prop}{B Z h:Heap}{U:Ph}{Q:Fl->aD->Hp->Prop}
theorem TrSP.s{t:Sem Flow}(h:TrSP c r L k m (fun _ _=>True) H t Q):TrS c r L k m H t Q:=fun A E s B Z U hA ht hR hF=>h A E s B Z U hA ht hR hF trivial
theorem EndS.trans{B':Heap}{U':Ph}{s s₁ s₂:Shared}{f:Flow}{h':Heap}{tk:Nat}(e:s₁={ s with heap:=h',toks:=tk })(b:Sub B B')(p:∀n q,n<k->U n=some q->U' n=some q)(x:EndS c B' Z U' L k Q s₁ f s₂):EndS c B Z U L k Q s f s₂:=by
 obtain⟨h2,t2,B2,U2,fl,m2,H2,e2,b2,p2,r1,r2,r3,r4⟩:=x
 exact⟨h2,t2,B2,U2,fl,m2,H2,by rw[e2,e],b.trans b2,eT p p2,r1,r2,r3,r4⟩
theorem TrSP.bindX{α β:Type}{R:Heap->Ph->α->β->Prop}{t:Sem α}{g:α->Sem Flow}{Q1:β->Hp->Prop}(hP:Mono P)(h:Tr R c r L m (fun _ _=>True) H t Q1)(hg:∀x H' v,Q1 x H'->TrSP c r L k m (fun B U=>P B U/\R B U v x) H' (g v) Q):TrSP c r L k m P H (t >>= g) Q:=by
 intro A E s B Z U hA ht hR hF hp
 refine wpAny_bind (Tr.run (h) hA ht hR hF trivial fun v h' tk B' U' x H' ht' b p R1 F1 rv q=>?_)
 exact wpAny_mono (hg x H' v q A E _ B' Z U' hA ht' R1 F1 ⟨hP _ _ _ _ b p hp,rv⟩) (fun f s'' z=>z.trans rfl b p.k) fun _ _ x=>x
theorem TrSP.bindP{α β:Type}{R:Heap->Ph->α->β->Prop}{t:Sem α}{g:α->Sem Flow}{Q1:β->Hp->Prop}(hP:Mono P)(h:Tr R c r L m P H t Q1)(hg:∀x H' v,Q1 x H'->TrSP c r L k m (fun B U=>P B U/\R B U v x) H' (g v) Q):TrSP c r L k m P H (t >>= g) Q:=by
 intro A E s B Z U hA ht hR hF hp
 refine wpAny_bind (Tr.run (h) hA ht hR hF hp fun v h' tk B' U' x H' ht' b p R1 F1 rv q=>?_)
 exact wpAny_mono (hg x H' v q A E _ B' Z U' hA ht' R1 F1 ⟨hP _ _ _ _ b p hp,rv⟩) (fun f s'' z=>z.trans rfl b p.k) fun _ _ x=>x
theorem TrSP.skip{t:Sem Unit}{g:Unit->Sem Flow}(hs:tS t)(h:TrSP c r L k m P H (g ()) Q):TrSP c r L k m P H (t >>= g) Q:=
 fun A E s B Z U hA ht hR hF hp=>wpAny_bind (hs _ _ _ _ _ (h A E s B Z U hA ht hR hF hp))
theorem TrSP.pure{f:Flow}{fl:Fl}(hf:∀B U,P B U->DH B U f fl)(q:Q fl m H):TrSP c r L k m P H (Pure.pure f) Q:=
 fun A E s B Z U hA ht hR hF hp=>wpAny_pure ⟨s.heap,s.toks,B,U,fl,m,H,rfl,Sub.refl _,fun _ _ _ e=>e,hR,hF,hf _ _ hp,q⟩
theorem TrSP.asg{t:Sem Unit}{Q1:aD->Hp->Prop}(h:TrA c r L m P H t Q1)(q:∀m' H',Q1 m' H'->Q .next m' H'):TrSP c r L k m P H (t >>= fun _=>Pure.pure .next) Q:=by
 intro A E s B Z U hA ht hR hF hp
 refine wpAny_bind (wpAny_mono (h A E s B Z U hA ht hR hF hp) ?_ fun _ _ x=>x)
 rintro _ s' ⟨h',tk,B',U',m',H',rfl,b,p,R1,F1,k1⟩
 exact wpAny_pure ⟨h',tk,B',U',.next,m',H',rfl,b,p.k,R1,F1,.next,q _ _ k1⟩
end
def SS(c:Cx)(T:aW)(r k:Nat)(s:S):Prop:=∀sc L env x m H Q,aZ c sc L env->iC T sc s x=true->wS c T r k s m H Q->TrS c r L k m H (exec x env) Q
def SB(c:Cx)(T:aW)(r k:Nat)(s:S):Prop:=∀sc L env xs m H Q,aZ c sc L env->d4 T sc s xs=true->wS c T r k s m H Q->TrS c r L k m H (execs xs env) Q
section
variable {c:Cx}{T:aW}{r k:Nat}{sc:Scope}{L:Addr}{env:Env}{m:aD}{H:Hp}{P:Heap->Ph->Prop}{B Z h:Heap}{U:Ph}
theorem nW{o:e7}{a b:Value}{x y z:D}{Q:SV}(hv:∀B U,P B U->DV B a x/\DV B b y)(e:fY o x y=some z)(q:Q (.d z) H):Tr VR c r L m P H (inplaceOp (nF o) a b) Q:=by
 intro A E s B Z U hA ht hR hF hp
 obtain⟨ha,hb⟩:=hv _ _ hp
 have done:∀tk v,DV B v z->EndT VR c B Z U L m Q s v { s with toks:=tk }:=fun tk v hz=>aM hR hF (.d hz) q
 cases o with
 |add=>
  cases x with
  |int a=>
   refine ax e fun b h1 e1=>?_
   obtain rfl:=bF h1;nomatch e1
   obtain⟨t,rfl⟩:=ha.int_of
   obtain⟨u,rfl⟩:=hb.int_of
   exact PyProof.Rows.iadd_int (done _ _ (DV.int _ _))
  |str x=>
   refine ax e fun y h1 e1=>?_
   obtain rfl:=bG h1
   obtain⟨t,rfl,k1⟩:=ha.str_okL
   obtain⟨u,rfl,k2⟩:=hb.str_okL
   by_cases hl:x.l.length+y.l.length<=16777216
   ·cases (au hl).symm.trans e1
    refine iadd_str (fun t' tk=>?_) (by rw[bt,bt];exact hl)
    rw[su]
    exact done _ _ (DV.st _ _ (jA k1 k2))
   ·cases (ar hl).symm.trans e1
  |_=>nomatch e
 |sub=>
  obtain⟨a,b,rfl,rfl,e1⟩:=kg e
  obtain⟨t,rfl⟩:=ha.int_of
  obtain⟨u,rfl⟩:=hb.int_of
  cases e1
  exact PyProof.Rows.isub_int (done _ _ (DV.int _ _))
 |mod=>nomatch e
theorem HT:SS c T r k .brk:=by
 intro sc L env x m H Q hE hc hw
 refine Stmt.Break.elim (motive_2:=fun x=>TrS c r L k m H (exec x env) Q) x (eq_of_beq hc) fun p=>?_
 rw[arm_exec_Break];exact (TrSP.skip (aw _) (TrSP.pure (P:=fun _ _=>True) (fun _ _ _=>.brk) hw)).s
end
section
variable {c:Cx}{T:aW}{r k:Nat}{sc:Scope}{L:Addr}{env:Env}{m:aD}{H:Hp}{P:Heap->Ph->Prop}{B Z h:Heap}{U:Ph}
theorem wI{x:V}{d:D}(h:dV x=some d):x=.d d:=by
 cases x<;>first|(cases h;rfl)|cases h
@[elab_as_elim] theorem ni{v:V}{K:D->Prop}{M:V->Prop}(h:ok (dV v) K)(f:∀d,K d->M (.d d)):M v:=by
 cases v with
 |d d=>exact f d h
 |_=>exact h.elim
theorem q7{v:V}{K:D->Prop}{p:Prop}(h:ok (dV v) K)(f:∀d,v=.d d->K d->p):p:=by
 cases v with
 |d d=>exact f d rfl h
 |_=>exact h.elim
theorem nh{α:Type}{o:Option α}{f:α->Option D}{K:D->Prop}{p:Prop}(h:ok (o.bind f) K)(g:∀x,o=some x->ok (f x) K->p):p:=by
 cases o with
 |none=>exact h.elim
 |some x=>exact g x rfl h
theorem CA{xs:List Stmt}(h:d4 T sc .nil xs=true):xs=[]:=by
 cases xs<;>first|rfl|cases h
theorem HI:SB c T r k .nil:=by
 intro sc L env xs m H Q hE hc hw
 obtain rfl:=CA hc
 intro A E s B Z U hA ht hR hF
 exact wpAny_execs_nil ⟨s.heap,s.toks,B,U,.next,m,H,rfl,Sub.refl _,fun _ _ _ e=>e,hR,hF,.next,hw⟩
theorem HJ{a b:S}(ha:SS c T r k a)(hb:SB c T r k b):SB c T r k (.seq a b):=by
 intro sc L env xs m H Q hE hc hw
 cases xs with
 |nil=>nomatch hc
 |cons x xs=>
  refine aS hc fun c1 c2=>?_
  intro A E s B Z U hA ht hR hF
  refine wpAny_execs_cons (TrS.run (ha _ _ _ _ _ _ _ hE c1 hw) hA ht hR hF fun f h' tk B' U' fl m' H' ht' sB sP R1 F1 fr q=>?_)
  cases fr with
  |next=>exact wpAny_mono (hb _ _ _ _ _ _ _ hE c2 q A E _ B' Z U' hA ht' R1 F1) (fun f s'' z=>z.trans rfl sB sP) fun _ _ x=>x
  |brk=>exact⟨h',tk,B',U',.brk,m',H',rfl,sB,sP,R1,F1,.brk,q⟩
  |ret hv=>exact⟨h',tk,B',U',.ret _,m',H',rfl,sB,sP,R1,F1,.ret hv,q⟩
theorem zQ{t:Tg}{t' v:Expr}(hc:ec T sc t t'=true):dB t'=false->swappedStores [t'] v env=pure none:=by
 cases t with
 |nm i=>exact bT (C:=fun t'=>dB t'=false->swappedStores [t'] v env=pure none) hc fun _ _ _ _=>rfl
 |«at» a i=>exact eJ (C:=fun t'=>dB t'=false->swappedStores [t'] v env=pure none) hc fun _ _ _ _ _=>rfl
 |ix a i=>exact iV (C:=fun t'=>dB t'=false->swappedStores [t'] v env=pure none) hc fun _ _ _ _ _=>rfl
 |tup ts=>exact iW (C:=fun t'=>dB t'=false->swappedStores [t'] v env=pure none) hc fun _ _ _ _ z=>OR z
 |tnil=>exact nof2 hc
 |tcons t ts=>exact nof2 hc
theorem My{t':Expr}{C:Expr->Prop}(h:dB t'=true)(k:∀es n p,C (.Tuple es n p)):C t':=Expr.Tuple.elim (motive_1:=C) t' (eq_of_beq h) k
theorem vq{t' v:Expr}{n:Nat}(h:rJ t' v=true):swapsWith v (some t') n env=pure false:=by
 rcases Bool.or_eq_true_iff.mp h with h|h
 ·refine pT ?_
  cases hv:iM v with
  |false=>rfl
  |true=>have:=(ay h).1;rw[hv] at this;exact nof2 this
 ·exact My (C:=fun t'=>swapsWith v (some t') n env=pure false) (ay h).1 fun es k p=>Expr.ListComp.elim (motive_1:=fun v=>swapsWith v (some (.Tuple es k p)) n env=pure false) v (eq_of_beq (ay h).2) fun a b c d=>rfl
theorem nQ{t:Tg}{t' v:Expr}(hc:ec T sc t t'=true)(h:rJ t' v=true):swappedStores [t'] v env=pure none:=by
 cases ht:dB t' with
 |false=>exact zQ hc ht
 |true=>
  refine My (C:=fun t'=>swappedStores [t'] v env=pure none) ht fun es k p=>zR ?_
  rcases Bool.or_eq_true_iff.mp h with h|h
  ·cases hv:v.ctorIdx==25 with
   |false=>rfl
   |true=>
    have:=(ay h).2
    rw[ht,show dB v=true from hv] at this
    exact nof2 this
  ·rw[eq_of_beq (ay h).2];rfl
theorem u9{t:Tg}{t':Expr}(hc:ec T sc t t'=true):(assignEach [t'] env).map (·.2)=[assign t' env]:=by
 rw[jN hc];rfl
theorem HS(hT:TabOk c T){t:Tg}{e:X}:SS c T r k (.asg t e):=by
 intro sc L env x m H Q hE hc hw
 refine Hg hc fun t' e' p h1 h2 h3=>?_
 rw[arm_exec_Assign]
 have sw:swapsWithSole [t'] e' p.line env=pure false:=vq h3
 refine (TrSP.skip (aw _) ?_:TrSP c r L k m (fun _ _=>True) H _ Q).s
 rw[sw]
 show TrSP c r L k m (fun _ _=>True) H (eval e' env >>= fun v=>swappedStores [t'] e' env >>= fun w=>assignStores env v w ((assignEach [t'] env).map (·.2))) Q
 refine TrSP.bindX Mono.true ((cp hT e).1 _ _ _ _ _ _ _ hE h2 hw) fun v H1 vv w=>?_
 rw[nQ h1 h3,u9 h1]
 show TrSP c r L k m _ H1 (assign t' env vv >>= fun _=>Pure.pure .next) Q
 exact TrSP.asg (TrA.weak ((tz hT t) _ _ _ _ _ _ _ _ _ hE h1 w) fun B U h=>h.2) fun _ _ q=>q
theorem ii{i:Nat}{x:V}{Q:SV}(hE:aZ c sc L env)(hl:sc.names.lookup (c.nm i)=some .local)(e:lk i m=some x)(q:Q x H) :
  Tr VR c r L m P H (loadName env (c.nm i)) Q:=by
 intro A E s B Z U hA ht hR hF hp
 obtain⟨mm,hn,hm⟩:=hF.ex
 obtain⟨v,hv,rv⟩:=hm i x e
 refine wpAny_loadName_local (m:=mm) (by rw[hE.scope];exact hE.kind) (by unfold Env.kindOf;rw[hE.scope];exact hl) (by rw[hE.locals];exact hn) ((Stands.own (hE.cs1 i hl)).mp hv) ?_
 exact aM (tk:=s.toks) hR hF rv q
theorem pU{i:Nat}{v:Value}{x:V}{Q:aD->Hp->Prop}(hE:aZ c sc L env)(hl:sc.names.lookup (c.nm i)=some .local)(hv:∀B U,P B U->VR B U v x)(q:Q (pk i x m) H):TrA c r L m P H (bindName env (c.nm i) v) Q:=by
 intro A E s B Z U hA ht hR hF hp
 refine wpAny_bindName (dX hE hl hR hF (hv _ _ hp) fun h' R F _=>?_)
 exact⟨h',s.toks+1,B,U,_,H,rfl,Sub.refl _,PSub.refl _,R,F,q⟩
theorem Dh(hT:TabOk c T){i:Nat}{o:e7}{e:X}:SS c T r k (.augN i o e):=by
 intro sc L env x m H Q hE hc hw
 refine CS hc fun nm e' np p h1 h2 h4=>?_
 obtain rfl:=cC hT h1
 rw[arm_exec_AugAssign]
 refine nh hw fun ov hov w=>q7 w fun old e0 w=>?_
 refine (TrSP.skip (aw _) ?_:TrSP c r L k m (fun _ _=>True) H _ Q).s
 refine TrSP.bindX Mono.true (ii (Q:=fun x H'=>x=.d old/\H'=H) hE (bb h2) (hov.trans (congrArg some e0)) ⟨rfl,rfl⟩) ?_
 refine Jj fun v0=>?_
 refine TrSP.bindX dS (Tr.holding ((cp hT e).1 _ _ _ _ _ _ _ hE h4 w)) fun v H2 v1 w=>?_
 refine ni w ?_
 refine fun d w=>aQ w fun z hz q=>?_
 refine TrSP.skip (aw _) ?_
 refine TrSP.bindP (Mono.and dS (Mono.vr _ _)) (Tr.operate (nW (Q:=fun x H'=>x=.d z/\H'=H2) (fun B U h=>⟨h.1.2.d_of,h.2.d_of⟩) hz ⟨rfl,rfl⟩)) ?_
 refine Jj fun v2=>?_
 refine TrSP.skip (aw _) ?_
 exact TrSP.asg (pU (Q:=fun m' H'=>m'=pk i (.d z) m/\H'=H2) hE (bb h2) (fun B U h=>h.2) ⟨rfl,rfl⟩) (e8 q)
theorem Fp{cl:Cell}{ds:List D}(h:NR cl=some ds):cl=.dlist ds:=by
 cases cl<;>first|(nomatch h;done)|(cases h;rfl)
theorem GP{d:D}{ds:List D}(h:Qz d=some ds):d=.list ds:=by
 cases d<;>first|(nomatch h;done)|(cases h;rfl)
theorem Bw{H:Hp}{o v:V}{p:Nat×Cell}(h:xc H o v=some p):∃n ds xs,o=.r n/\v=.d (.list xs)/\H[n]?=some (some (.dlist ds))/\ds.length+xs.length<=1000/\p=(n,.dlist (ds++xs)):=by
 refine ax h fun q hq h=>ax h fun ds hd h=>ax h fun xs hx h4=>?_
 refine ax hx fun d h1 h2=>?_
 obtain⟨rfl,hn⟩:=iB hq
 rw[Fp hd] at hn
 obtain rfl:=GP h2
 obtain⟨g1,g2⟩:=aX h4
 exact⟨_,ds,xs,rfl,wI h1,hn,ak (fj g1) (by decide),g2.symm⟩
theorem HU(hT:TabOk c T){i:Nat}{e:X}:SS c T r k (.ext i e):=by
 intro sc L env x m H Q hE hc hw
 refine Hh hc fun nm e' np p h1 h2 h4=>?_
 obtain rfl:=cC hT h1
 rw[arm_exec_AugAssign]
 refine aQ hw fun o ho w=>?_
 refine (TrSP.skip (aw _) ?_:TrSP c r L k m (fun _ _=>True) H _ Q).s
 refine TrSP.bindX Mono.true (ii (Q:=fun x H'=>x=o/\H'=H) hE (bb h2) ho ⟨rfl,rfl⟩) ?_
 refine Jj fun v0=>?_
 refine TrSP.bindX dS (Tr.holding ((cp hT e).1 _ _ _ _ _ _ _ hE h4 w)) fun v H2 v1 w=>?_
 refine aQ w fun q hq w2=>?_
 refine eF fun _ hK9=>?_
 obtain⟨n,ds,xs,rfl,rfl,hn,hl,rfl⟩:=Bw hq
 refine hK9 ?_
 refine TrSP.skip (aw _) ?_
 refine TrSP.bindP (Mono.and dS (Mono.vr _ _)) (Tr.operate (vz (Q:=fun x H'=>x=.r n/\H'=H2.set n (some (.dlist (ds++xs)))) (fun B U h=>⟨h.1.2,h.2.d_of⟩) hn hl ⟨rfl,rfl⟩)) ?_
 refine Jj fun v2=>?_
 refine TrSP.skip (aw _) ?_
 exact TrSP.asg (pU (Q:=fun m' H'=>m'=pk i (.r n) m/\H'=H2.set n (some (.dlist (ds++xs)))) hE (bb h2) (fun B U h=>h.2) ⟨rfl,rfl⟩) (e8 w2)
theorem Dc(hT:TabOk c T){y i:Nat}{elt it t:X}:SS c T r k (.asgC y elt i it t):=by
 intro sc L env x m H Q hE hc hw
 refine yw hc fun ts e' ps j1=>?_
 refine dc (C:=fun ts=>TrS c r L k m H (exec (.Assign ts e' ps) env) Q) j1 fun t' j2=>?_
 have j3:=(ay j2).2
 have j4:=(ay j2).1
 revert j3
 refine bT (C:=fun t'=>((t'.pos.line==e'.pos.line)&&aC T sc (.comp elt i it t) e')=true->TrS c r L k m H (exec (.Assign [t'] e' ps) env) Q) j4 fun z py j5 j3=>?_
 refine eO j5 fun a1 a2 a3=>?_
 obtain rfl:=cC hT a1
 have j6:=(ay j3).1
 revert a3 j6
 refine nC (C:=fun e'=>r7 (c.nm y) e'=true->((Expr.Name (c.nm y) py).pos.line==e'.pos.line)=true->TrS c r L k m H (exec (.Assign [.Name (c.nm y) py] e' ps) env) Q) (ay j3).2 fun elt' it' x px ts scope p h1 h2 h3 h4 a3 j6=>?_
 refine eF fun _ hK9=>?_
 obtain⟨⟨hn,h0⟩,hCF⟩:=lE h1
 obtain rfl:=cC hT hn
 obtain rfl:=hE.scope
 refine hK9 ?_
 have hsw:swapsWith (.ListComp elt' [⟨.Name (c.nm i) px,it',ts,0⟩] scope p) (some (.Name (c.nm y) py)) ps.line env=pure true:=by
  have a3':(!(scope.names.any fun (n,k)=>n==c.nm y&&(k==.local||k==.cell)))=true:=a3
  have bk:env.blockKind=.function:=by unfold Env.blockKind;rw[hE.kind];rfl
  have kd:env.kindOf (c.nm y)=some .local:=by unfold Env.kindOf;exact bb a2
  have j7:(py.line==p.line)=true:=j6
  show (pure (env.blockKind==.function&&env.kindOf (c.nm y)==some .local&&py.line==p.line&&!(scope.names.any fun (n,k)=>n==c.nm y&&(k==.local||k==.cell))):Sem Bool)=pure true
  rw[a3',bk,kd,j7];rfl
 have hf:∀z∈scope.names,z.2≠.free:=by cases hCF;assumption
 intro A E s B Z U hA htk hR hF
 rw[exec_Assign_Name_used _ _ _ _ hsw]
 refine wpAny_bind (wpAny_standAt (wpAny_bind ?_))
 show wpAny _ A (do let _ ← comprehension (.ListComp elt' [⟨.Name (c.nm i) px,it',ts,0⟩] scope p) scope env _ (newList []) false (eval it' env) (some (assign (.Name (c.nm y) py) env))) _ _ s
 refine wpAny_bind (wpAny_mono (wpAny_comprehension_free (use:=some (assign (.Name (c.nm y) py) env)) (Q:=fun _ s'=>EndS c B Z U L k Q s .next s') rfl (gZ (ay h2).1 env) (closureFor_none hf) (by cases hCF;assumption) (by cases hCF;assumption) (Tr.run ((cp hT it).1 _ _ _ _ _ _ _ hE (ay h2).2 hw) hA htk hR hF trivial fun v h₁ tk₁ B₁ U₁ xv H₁ ht1 sB sP R1 F1 rv w=>?_)) (fun _ s' hq=>wpAny_pure (wpAny_pure hq)) fun _ _ e=>e)
 refine aQ w fun ds hds w2=>ax hds fun d hd hi=>?_
 refine fJ (s:={ s with heap:=h₁,toks:=tk₁ }) R1 (wI hd▸rv).d_of hi fun o ft Pi St ho its st=>?_
 refine eF fun _ hK9=>?_
 obtain⟨R2,S2⟩:=R1.pinNew (a:=h₁.objs.size) ho (Nat.ne_of_gt F1.lt) (ba o) aG (Heap.get?_push_size _ ho)
 obtain⟨mm,⟨oL0,es,ep,eL,hdd⟩,hm⟩:=id F1.ex
 refine hK9 ?_
 have stp:jb c r (relabel scope env) i elt' ts _:=zx (i:=i) (cp hT elt) (cp hT t) h3 h4
 cases hCF with
 |mk hk hf hcc hl hx=>
  refine jM (p:=⟨elt',it',i,px,ts,scope,p,[]⟩) (PP:=compPost c.M A E (some (assign (.Name (c.nm y) py) env)) fun _ s'=>EndS c B Z U L k Q s .next s') (s₂:={ s with heap:=h₁.push o,toks:=tk₁ }) hA ht1 hcc hk hx hE (fun n=>⟨hT.nocs h0,fun j q _ h=>?_⟩) stp ho (R1.noZ aG) its st R2 (F1.keep fun x e=>Heap.get?_push_of_some _ e) w2 fun D C oL h2' tk2 e1 hoL nL zD DL ce=>?_
  ·refine dJ h fun kk g1 g2=>?_
   exact absurd rfl (hf _ (i4 hcc g1 g2))
  ·cases ce with
   |mk acc vs kk B' U' H' sB2 sP2 R3 FC dv q=>
    refine eF fun _ hK9=>?_
    obtain⟨R4,s7⟩:=R3.freezeZ rfl ((aE hoL DL).trans zD)
    obtain⟨mC,⟨oC,esC,epC,eC,hdC⟩,_⟩:=FC.ex
    refine hK9 ?_
    have hoC:=aT eC
    obtain⟨CL,zC⟩:=bX hoL R4.LZ
    have R5:=R4.turnTo hoL nL hR.LG eC
    have here:h2'.get? L=some oL:=R4.kZ _ _ (aH hoL)
    obtain rfl:oL0=oL:=by
     have:(h₁.push o).get? L=some oL:=e1
     rw[Heap.get?_push_of_some _ eL] at this;cases this;rfl
    have F5:FrR c (aI B' D (listOf vs.toArray kk)) U' L m h2':=⟨mm,⟨oL0,es,ep,here,hdd⟩,fun j x e=>(hm j x e).imp fun u z=>⟨z.1.mono (sB2.trans s7),z.2.mono (sB2.trans s7) sP2⟩⟩
    show wpAny c.M A (assign (.Name (c.nm y) py) env (.ref D)) _ _ _
    refine wpAny_assign_Name (dX hE (bb a2) R5 F5 (.d (DV.list_at (aH rfl) (dv.mono s7))) fun h6 R6 F6 keep6=>?_)
    have eC6:h6.get? C=some oC:=R6.kZ _ _ (aH hoC)
    refine⟨mC,⟨oC,esC,epC,eC6,hdC⟩,fun h7 hs7=>?_⟩
    have R7:=R6.unpin (h':=h7) hoC zC fun b x _ hb e=>(hs7.2 b hb).trans e
    exact⟨h7,_,_,U',.next,_,H',rfl,sB.trans (sB2.trans s7),fun n z _ e=>sP2 _ _ (sP _ _ e),R7,F6.keep fun x e=>(hs7.2 L (Ne.symm CL)).trans e,.next,q⟩
theorem Df(hT:TabOk c T){b:X}{a:Nat}{o:e7}{e:X}:SS c T r k (.augA b a o e):=by
 intro sc L env x m H Q hE hc hw
 refine CO hc fun b' e' nm np p h1 h2 h4=>?_
 obtain rfl:=cC hT h2
 rw[arm_exec_AugAssign_2]
 refine (TrSP.skip (aw _) ?_:TrSP c r L k m (fun _ _=>True) H _ Q).s
 refine TrSP.bindX Mono.true ((cp hT b).1 _ _ _ _ _ _ _ hE h1 hw) fun ov H1 o1 w=>?_
 refine nh w fun oo hoo w=>q7 w fun old e0 w=>?_
 refine TrSP.bindP (R:=VR) (Q1:=fun zv H4=>∃z,zv=.d z/\ok (dG T H4 ov a (.d z)) fun H3=>Q .next m H3) dS (Tr.holding ?_) ?_
 ·refine Tr.skip (aw _) ?_
  refine Tr.bind dS ((pW (Q:=fun x H'=>x=.d old/\H'=H1) hT (fun B U h=>h.2) (hoo.trans (congrArg some e0)) ⟨rfl,rfl⟩).mono ?_)
  refine e8 fun v0=>?_
  refine Tr.thn (Mono.and dS (Mono.vr _ _)) (Tr.holding ((cp hT e).1 _ _ _ _ _ _ _ hE h4 w)) fun v H3 v1 w=>?_
  refine ni w ?_
  refine fun d w=>aQ w fun z hz w2=>?_
  refine Tr.skip (aw _) (Tr.operate ?_)
  exact nW (fun B U h=>⟨h.1.2.d_of,h.2.d_of⟩) hz ⟨z,rfl,w2⟩
 ·rintro _ H3 v2 ⟨z,rfl,w⟩
  refine aQ w fun H4 h4' q=>?_
  refine TrSP.skip (aw _) ?_
  show TrSP c r L k m _ H3 (PySem.holding [v2,o1] (setAttr o1 (c.nm a) v2) >>= fun _=>release [v2,o1] [] >>= fun _=>Pure.pure .next) Q
  have:=TrA.thenSkip (k:=fun _=>release [v2,o1] []) (Tr.holdA (vs:=[v2,o1]) (TrA.ofTr (Q:=fun m' H'=>m'=m/\H'=H4) (p8 (c:=c) (r:=r) (L:=L) (m:=m) (P:=fun B U=>(True/\VR B U o1 ov)/\VR B U v2 (.d z)) (Q:=fun _ H'=>H'=H4) hT (fun B U h=>⟨h.1.2,h.2⟩) h4' rfl) fun _ H' e=>⟨rfl,e⟩)) (b5 _ _)
  have asg:=TrSP.asg (k:=k) (Q:=Q) this (e8 q)
  rwa[bind_assoc] at asg
theorem Dg(hT:TabOk c T){b:X}{i:D}{o:e7}{e:X}:SS c T r k (.augI b i o e):=by
 intro sc L env x m H Q hE hc hw
 refine CQ hc fun b' e' n kk np pp p h1 h2 h4=>?_
 rw[arm_exec_AugAssign_3]
 refine (TrSP.skip (aw _) ?_:TrSP c r L k m (fun _ _=>True) H _ Q).s
 refine TrSP.bindX Mono.true ((cp hT b).1 _ _ _ _ _ _ _ hE h1 hw) fun ov H1 o1 w=>?_
 refine nh w fun oo hoo w=>q7 w fun old e0 w=>?_
 refine TrSP.bindX dS (Tr.holding (kW (d:=i) (Q:=fun x H'=>x=.d i/\H'=H1) (wD h2) ⟨rfl,rfl⟩)) (Jj fun i1=>?_)
 refine TrSP.bindP (R:=VR) (Q1:=fun zv H4=>∃z,zv=.d z/\ok (hV T H4 ov (.d i) (.d z)) fun H3=>Q .next m H3) (Mono.and dS (Mono.vr _ _)) (Tr.holding ?_) ?_
 ·refine Tr.skip (aw _) ?_
  refine Tr.bind (Mono.and dS (Mono.vr _ _)) ((Dp (Q:=fun x H'=>x=.d old/\H'=H1) hT (fun B U h=>⟨h.1.2,h.2⟩) (hoo.trans (congrArg some e0)) ⟨rfl,rfl⟩).mono ?_)
  refine e8 fun v0=>?_
  refine Tr.thn (Mono.and (Mono.and dS (Mono.vr _ _)) (Mono.vr _ _)) (Tr.holding ((cp hT e).1 _ _ _ _ _ _ _ hE h4 w)) fun v H3 v1 w=>?_
  refine ni w ?_
  refine fun d w=>aQ w fun z hz w2=>?_
  refine Tr.skip (aw _) (Tr.operate ?_)
  exact nW (fun B U h=>⟨h.1.2.d_of,h.2.d_of⟩) hz ⟨z,rfl,w2⟩
 ·rintro _ H3 v2 ⟨z,rfl,w⟩
  refine aQ w fun H4 h4' q=>?_
  refine TrSP.skip (aw _) ?_
  show TrSP c r L k m _ H3 (PySem.holding [v2,o1,i1] (setItem o1 i1 v2) >>= fun _=>release [v2,o1,i1] [] >>= fun _=>Pure.pure .next) Q
  have:=TrA.thenSkip (k:=fun _=>release [v2,o1,i1] []) (Tr.holdA (vs:=[v2,o1,i1]) (TrA.ofTr (Q:=fun m' H'=>m'=m/\H'=H4) (p9 (c:=c) (r:=r) (L:=L) (m:=m) (P:=fun B U=>((True/\VR B U o1 ov)/\VR B U i1 (.d i))/\VR B U v2 (.d z)) (Q:=fun _ H'=>H'=H4) hT (fun B U h=>⟨h.1.1.2,h.1.2,h.2⟩) h4' rfl) fun _ H' e=>⟨rfl,e⟩)) (b5 _ _)
  have asg:=TrSP.asg (k:=k) (Q:=Q) this (e8 q)
  rwa[bind_assoc] at asg
theorem Mb(hT:TabOk c T){e:X}:SS c T r k (.ex e):=by
 intro sc L env x m H Q hE hc hw
 refine Er hc fun e' p hc=>?_
 refine aS hc fun h1 h2=>?_
 have hs:swapsWith e' none p.line env=pure false:=pT (by cases hv:iM e' with|false=>rfl|true=>rw[hv] at h2;exact nof2 h2)
 have hi:interactive env=false:=by unfold interactive;rw[hE.scope,hE.kind];rfl
 intro A E s B Z U hA ht hR hF
 refine wpAny_Expr_any (wpAny_mono ((cp hT e).1 _ _ _ _ _ _ _ hE h1 hw A E s B Z U hA ht hR hF trivial) ?_ fun _ _ x=>x) hi hs
 rintro v s' ⟨h',tk,B',U',x,H',rfl,b,p,R1,F1,rv,q⟩
 exact⟨h',tk,B',U',.next,m,H',rfl,b,p.k,R1,F1,.next,q⟩
theorem Ab(hT:TabOk c T){t:X}{e:Expr}{K:Bool->Hp->Prop}(hE:aZ c sc L env)(hc:aC T sc t e=true)(hw:wX c T r t m H fun v H1=>ok (aN H1 v) fun z=>K z H1):vW c r L m H (isTrue e env (eval e env)) K:=by
 refine ((cp hT t).2.1 _ _ _ _ _ _ _ hE hc (fun v H' h=>(ek h).imp fun _ q=>q.1) hw).mono ?_
 rintro b H1 ⟨v,hv,q⟩
 rw[hv] at q
 exact q
theorem HW(hT:TabOk c T){t:X}{a b:S}(ha:SB c T r k a)(hb:SB c T r k b):SS c T r k (.ite t a b):=by
 intro sc L env x m H Q hE hc hw
 refine Lq hc fun t' a' b' p hc=>?_
 refine eO hc fun h1 h2 h3=>?_
 intro A E s B Z U hA ht hR hF
 refine wpAny_If (Tr.run (Ab (K:=fun z H1=>if z=true then wS c T r k a m H1 Q else wS c T r k b m H1 Q) hT hE h1 hw) hA ht hR hF trivial fun v h' tk B' U' x H' ht' sb sp R1 F1 e4 q=>?_)
 subst e4
 cases v with
 |true=>
  exact wpAny_mono (ha _ _ _ _ _ _ _ hE h2 q A E _ B' Z U' hA ht' R1 F1) (fun f s'' z=>z.trans rfl sb sp.k) fun _ _ x=>x
 |false=>
  exact wpAny_mono (hb _ _ _ _ _ _ _ hE h3 q A E _ B' Z U' hA ht' R1 F1) (fun f s'' z=>z.trans rfl sb sp.k) fun _ _ x=>x
theorem HY(hT:TabOk c T){t:X}{b:S}(hb:SB c T r k b):SS c T r k (.whl t b):=by
 intro sc L env x m H Q hE hc hw
 refine Hj hc fun t' b' p h1 h2=>?_
 obtain⟨n,w⟩:=hw
 exact vx (fun m H Q h=>Ab hT hE h1 h) (fun m H Q h=>hb _ _ _ _ _ _ _ hE h2 h) w
theorem HX(hT:TabOk c T){e:X}:SS c T r k (.ret e):=by
 intro sc L env x m H Q hE hc hw
 refine Hd hc fun e' p hc=>?_
 cases hb:e.isNon with
 |true=>
  have hc:dj e.isNon (aC T sc e) e'=true:=hc
  have hw:wS.wTestRet e.isNon (wX c T r e) m H fun v H1=>Q (.ret v) m H1:=hw
  rw[hb] at hc hw
  cases e' with
  |none=>
   intro A E s B Z U hA ht hR hF
   exact wpAny_Return_none ⟨s.heap,s.toks,B,U,.ret (.d .none),m,H,rfl,Sub.refl _,fun _ _ _ e=>e,hR,hF,.ret (.d DV.none),hw⟩
  |some e'=>nomatch hc
 |false=>
  have hc:dj e.isNon (aC T sc e) e'=true:=hc
  have hw:wS.wTestRet e.isNon (wX c T r e) m H fun v H1=>Q (.ret v) m H1:=hw
  rw[hb] at hc hw
  cases e' with
  |none=>nomatch hc
  |some e'=>
   intro A E s B Z U hA ht hR hF
   refine wpAny_Return_some (wpAny_mono ((cp hT e).1 _ _ _ _ _ _ _ hE hc hw A E s B Z U hA ht hR hF trivial) ?_ fun _ _ x=>x)
   rintro v s' ⟨h',tk,B',U',x,H',rfl,b,p,R1,F1,rv,q⟩
   exact⟨h',tk,B',U',.ret x,m,H',rfl,b,p.k,R1,F1,.ret rv,q⟩
theorem Dd(hT:TabOk c T){t:X}:SS c T r k (.asrt t):=by
 intro sc L env x m H Q hE hc hw
 refine CJ hc fun t' ms p hc=>?_
 intro A E s B Z U hA ht hR hF
 have hw:wX c T r t m H fun v H1=>aN H1 v=some true/\Q .next m H1:=hw
 refine wpAny_Assert_holds (wpAny_mono ((cp hT t).2.1 _ _ _ _ _ _ _ hE hc (fun v H' h=>⟨true,h.1⟩) hw A E s B Z U hA ht hR hF trivial) ?_ fun _ _ x=>x)
 rintro v s' ⟨h',tk,B',U',x,H',rfl,b,p,R1,F1,rfl,u,h1,h2,q⟩
 rw[h1] at h2
 exact⟨aj h2,h',tk,B',U',.next,m,H',rfl,b,p.k,R1,F1,.next,q⟩
end
section
variable {c:Cx}{T:aW}{r k:Nat}{sc:Scope}{L:Addr}{env:Env}{m:aD}{H:Hp}{P:Heap->Ph->Prop}{B Z h:Heap}{U:Ph}
theorem xw{prog:Program}{w:World}{A:Around}{E:SU}{s:Shared}{I:Addr}{St:Nat->Heap->Prop}{i:Nat}{target:Expr}{v:Value}{Q:Unit->Shared->Prop}(hg:vS I St)(st:St i s.heap)(q:Q () s) :
  wpAny (model prog w) A (letOwnedTupleGo target (.ref I) v) Q E s:=by
 obtain⟨o,n,ho,hc,hn⟩:=hg i _ st
 have key:∀a:Addr,wpAny (model prog w) A (do
   let o ← load I
   match o.cls,o.data with
   |.type n,.fields vs=>
    if goers.contains n&&vs[0]?==some (rawInt a) then
     rule "for.unpacks-the-owned-tuple"
     updateField I 0 .none
   |_,_=>pure ()) Q E s:=by
  intro a
  refine wpAny_bind (wpAny_load ho ?_)
  rw[hc]
  obtain⟨oc,od,dt,sl⟩:=o
  cases dt<;>first|exact wpAny_pure q|skip
  dsimp only
  rw[hn,Bool.false_and]
  exact wpAny_pure q
 unfold letOwnedTupleGo
 cases target with
 |Tuple=>cases v<;>first|exact key _|exact wpAny_pure q
 |List=>cases v<;>first|exact key _|exact wpAny_pure q
 |_=>exact wpAny_pure q
theorem xm{Q:Fl->aD->Hp->Prop}{A:Around}{s:Shared}{R:Result->Shared->Prop}{t':Expr}{b':List Stmt}{asg:D->aD->Hp->(aD->Hp->Prop)->Prop}{wb:aD->Hp->(Fl->aD->Hp->Prop)->Prop}{ft:List Addr}{ds:List D}{Pi:Nat->Value->Prop}{St:Nat->Heap->Prop}{o:Obj}
  (hA:Room r A)(ht:1<=s.toks)(hasg:∀x m H Q,asg x m H Q->∀v,TrA c r L m (fun B U=>DV B v x) H (assign t' env v) Q)(hb:∀m H Q,wb m H Q->TrS c r L k m H (execs b' env) Q)
  (ho:o.isFreed=false)(its:Its c B Z U s.heap.objs.size ft (ds.map .d) Pi St)(go:vS s.heap.objs.size St)(st:St 0 (s.heap.push o))(R1:Rel c B Z U L H s.heap)(F1:FrR c B U L m s.heap)(w:il k asg wb ds m H Q)
  (db:∀f s',EndS c B Z U L k Q s f s'->R (.ok f) s'):codeAny c.M A (.forLoop t' (.ref s.heap.objs.size) b' [] env) R { s with heap:=s.heap.push o }:=by
 obtain⟨R2,S2⟩:=R1.pinNew (a:=s.heap.objs.size) ho (Nat.ne_of_gt F1.lt) (ba o) aG (Heap.get?_push_size _ ho)
 exact nU (k:=k) hA ht hasg hb (fun i v s Q E st q=>xw go st q) ho (R1.noZ aG) its st R2 (F1.keep fun x e=>Heap.get?_push_of_some _ e) w
  fun f h' tk B' U' fl m' H' b kk R F fr q=>db f _ (.mk h' tk B' U' fl m' H' rfl b kk R F fr q)
theorem HV(hT:TabOk c T){t:Tg}{e:X}{b:S}(hb:SB c T r k b):SS c T r k (.for t e b):=by
 intro sc L env x m H Q hE hc hw
 refine Hi hc fun t' e' b' p h1 h2 h3=>?_
 intro A E s B Z U hA ht hR hF
 refine wpAny_For (Tr.run ((cp hT e).1 _ _ _ _ _ _ _ hE (ay h2).2 hw) hA ht hR hF trivial fun v h₁ tk₁ B₁ U₁ xv H₁ ht1 sB sP R1 F1 rv w=>?_) (gZ (ay h2).1 env)
 refine aQ w fun ds hds w2=>?_
 refine ax hds fun d hd hi=>?_
 refine ki R1 (wI hd▸rv).d_of hi fun o ft Pi St ho its go st=>?_
 exact xm (s:={ s with heap:=h₁,toks:=tk₁ }) hA ht1 (fun x m H Q h v=>TrA.weak ((tz hT t) _ _ _ _ _ _ _ v _ hE h1 h) fun B U h=>.d h) (fun m H Q h=>hb _ _ _ _ _ _ _ hE h3 h) ho its go st R1 F1 w2
  fun f s' z=>z.trans rfl sB sP.k
noncomputable def S.isB(x:S):Bool:=Nat.ble x.ctorIdx 1
theorem cL{s:S}(h:s.isB=false):SB c T r k s:=by
 intro sc L env xs m H Q hE hc hw
 have:d4 T sc s xs=false:=by cases s<;>first|(nomatch h;done)|rfl
 rw[this] at hc;nomatch hc
theorem zK{s:S}(h:∀T sc x,iC T sc s x=false):SS c T r k s:=by
 intro sc L env x m H Q hE hc hw
 rw[h] at hc;nomatch hc
theorem sS(hT:TabOk c T)(s:S):SS c T r k s/\SB c T r k s:=by
 induction s with
 |nil=>exact⟨zK fun _ _ _=>rfl,HI⟩
 |seq a b h1 h2=>exact⟨zK fun _ _ _=>rfl,HJ h1.1 h2.2⟩
 |asg t e=>exact⟨HS hT,cL rfl⟩
 |augN i o e=>exact⟨Dh hT,cL rfl⟩
 |ext i e=>exact⟨HU hT,cL rfl⟩
 |asgC y elt i it t=>exact⟨Dc hT,cL rfl⟩
 |augA b a o e=>exact⟨Df hT,cL rfl⟩
 |augI b i o e=>exact⟨Dg hT,cL rfl⟩
 |ex e=>exact⟨Mb hT,cL rfl⟩
 |ite t a b h1 h2=>exact⟨HW hT h1.2 h2.2,cL rfl⟩
 |whl t b h1=>exact⟨HY hT h1.2,cL rfl⟩
 |«for» t e b h1=>exact⟨HV hT h1.2,cL rfl⟩
 |ret e=>exact⟨HX hT,cL rfl⟩
 |brk=>exact⟨HT,cL rfl⟩
 |asrt t=>exact⟨Dd hT,cL rfl⟩
 |dead=>exact⟨fun _ _ _ _ _ _ _ _ _ hw=>hw.elim,cL rfl⟩
theorem kR(hT:TabOk c T)(s:S):SB c T r k s:=(sS hT s).2
end
noncomputable def sk:Value->Bool
 |.none=>true
 |_=>false
noncomputable def DR:Value->Option Bool
 |.bool b=>some b
 |_=>none
noncomputable def xA:Value->Option Int
 |.int i _=>some i
 |_=>none
noncomputable def zN:Value->Option Str
 |.str x _=>some x
 |_=>none
noncomputable def wA(ty:String):Value->Bool
 |.type t=>t==ty
 |_=>false
noncomputable def EM:Data->Option (Array Value×Nat)
 |.seq vs n=>some (vs,n)
 |_=>none
noncomputable def zy(K:Frag)(ty:String)(v:Value):Option (List Value):=(vc v).bind fun a=>(K.lookup a).bind fun o=>match wA ty o.cls with
 |true=>(EM o.data).map fun p=>p.1.toList
 |false=>none
mutual
noncomputable def MR(K:Frag):D->Value->Bool
 |.none,v=>sk v
 |.bool b,v=>DR v==some b
 |.int i,v=>xA v==some i
 |.str x,v=>(zN v).any fun y=>y.l==x.l&&eU x.l
 |.list ds,v=>(zy K "list" v).any (BM K ds)
 |.tuple ds,v=>(zy K "tuple" v).any (BM K ds)
 |.dict _,_=>false
noncomputable def BM(K:Frag):List D->List Value->Bool
 |[],vs=>vs.isEmpty
 |d::ds,vs=>match vs with
  |v::vs=>MR K d v&&BM K ds vs
  |[]=>false
end
section
variable {K:Frag}{B:Heap}
theorem wB{ty:String}{v:Value}(h:wA ty v=true):v=.type ty:=by
 cases v<;>first|exact nof2 h|exact congrArg Value.type (eq_of_beq h)
theorem zB{d:Data}{p:Array Value×Nat}(h:EM d=some p):d=.seq p.1 p.2:=by
 cases d<;>first|(nomatch h;done)|(cases h;rfl)
theorem uL{v:Value}(h:sk v=true):v=.none:=by cases v<;>first|rfl|cases h
theorem wa{v:Value}{b:Bool}(h:DR v=some b):v=.bool b:=by cases v<;>first|(nomatch h;done)|(cases h;rfl)
theorem uF{v:Value}{i:Int}(h:xA v=some i):∃t,v=.int i t:=by cases v<;>first|(nomatch h;done)|(cases h;exact⟨_,rfl⟩)
theorem vm{v:Value}{x:Str}(h:zN v=some x):∃t,v=.str x t:=by cases v<;>first|(nomatch h;done)|(cases h;exact⟨_,rfl⟩)
inductive I4(B:Heap)(ty:String)(vs:List Value):Value->Prop
 |mk {a:Addr}{o:Obj}{arr:Array Value}{n:Nat} (ho:B.get? a=some o) (hc:o.cls=.type ty) (hd:o.data=.seq arr n) (hr:arr.toList=vs):I4 B ty vs (.ref a)
theorem pP{ty:String}{v:Value}{vs:List Value}(X:K.In B)(e:zy K ty v=some vs):I4 B ty vs v:=by
 refine ax e fun a h1 e=>?_
 refine ax e fun o h2 e=>?_
 cases hc:wA ty o.cls with
 |false=>rw[hc] at e;nomatch e
 |true=>
  rw[hc] at e
  refine cY e fun p h3 e=>?_
  rw[g9 h1]
  exact .mk (X _ _ h2) (wB hc) (zB h3) e
mutual
theorem qO(X:K.In B):∀(d:D) (v:Value),MR K d v=true->DV B v d
 |.none,v,h=>by rw[uL h];exact DV.none
 |.bool b,v,h=>by rw[wa (eq_of_beq h)];exact DV.bool _
 |.int i,v,h=>by obtain⟨t,e⟩:=uF (eq_of_beq h);rw[e];exact DV.int _ _
 |.str x,v,h=>by
  refine dJ h fun y h1 h=>?_
  obtain⟨t,e⟩:=vm h1
  rw[e,←bW y,eq_of_beq (ay h).1,bW]
  exact DV.str _ _ (by rw[jB];exact (ay h).2)
 |.list ds,v,h=>by
  refine dJ h fun vs h1 g=>?_
  obtain⟨k,as,r,q⟩:=mY X ds _ g
  clear h g
  obtain⟨ho,hc,hd,rfl⟩:=pP X h1
  exact⟨k,_,.list ho hc hd r,OkAs.cons ⟨_,ho,.inl ⟨_,_,hd⟩⟩ q⟩
 |.tuple ds,v,h=>by
  refine dJ h fun vs h1 g=>?_
  obtain⟨k,as,r,q⟩:=mY X ds _ g
  clear h g
  obtain⟨ho,hc,hd,rfl⟩:=pP X h1
  exact⟨k,_,.tuple ho hc hd r,q⟩
 |.dict _,v,h=>nof2 h
theorem mY(X:K.In B):∀(ds:List D) (vs:List Value),BM K ds vs=true->DVs B vs ds
 |[],vs,h=>by cases vs with
  |nil=>exact DVs.nil
  |cons=>nomatch h
 |d::ds,vs,h=>by cases vs with
  |nil=>nomatch h
  |cons v vs=>exact .cons (qO X d v (ay h).1) (mY X ds vs (ay h).2)
end
end
structure TL where
 nms:List (SQ)
 gnm:List (SQ)
 gl:List V
 fns:List Addr
 kps:SQ
 cds:List (Addr×List (Nat×V))
 meths:List ((Addr×Nat)×Addr)
 flds:List (Addr×Nat)
 cats:List ((Addr×Nat)×(Value×V))
noncomputable def IA{α:Type}(a:Addr)(i:Nat):List ((Addr×Nat)×α)->Option α
 |[]=>none
 |p::r=>match p.1.1==a&&p.1.2==i with
  |true=>some p.2
  |false=>IA a i r
noncomputable def Jf(a i:Nat):List (Addr×Nat)->Bool
 |[]=>false
 |p::r=>match p.1==a&&p.2==i with
  |true=>true
  |false=>Jf a i r
noncomputable def Jh(a:Nat):SQ->Bool
 |[]=>false
 |x::r=>match x==a with
  |true=>true
  |false=>Jh a r
theorem Je{α:Type}(a i:Nat)(p:(Addr×Nat)×α)(r:List ((Addr×Nat)×α)):IA a i (p::r)=match p.1.1==a&&p.1.2==i with
  |true=>some p.2
  |false=>IA a i r:=rfl
theorem Jg(a i:Nat)(p:Addr×Nat)(r:List (Addr×Nat)):Jf a i (p::r)=match p.1==a&&p.2==i with
  |true=>true
  |false=>Jf a i r:=rfl
theorem Ji(a x:Nat)(r:SQ):Jh a (x::r)=match x==a with
  |true=>true
  |false=>Jh a r:=rfl
noncomputable def IB(a:Addr):List (Addr×List (Nat×V))->List (Nat×V)
 |[]=>[]
 |p::r=>if Nat.beq p.1 a then p.2 else IB a r
noncomputable def TL.tab(t:TL):aW where
 nms:=t.nms
 gnm:=t.gnm
 gl:=t.gl
 fn:=fun f=>Jh f t.fns
 kp:=fun k=>t.kps.any (Nat.beq k)
 cd:=fun a=>IB a t.cds
 meth:=fun C i=>IA C i t.meths
 fld:=fun C i=>Jf C i t.flds
 cat:=fun C i=>IA C i t.cats
theorem rI{α:Type}{a:Addr}{i:Nat}{x:α}{l:List ((Addr×Nat)×α)}(e:IA a i l=some x):((a,i),x)∈l:=by
 induction l with
 |nil=>nomatch e
 |cons p r ih=>
  rw[Je] at e
  cases h:p.1.1==a&&p.1.2==i with
  |true=>
   rw[h] at e
   cases e
   refine aS h fun h1 h2=>?_
   rw[←eq_of_beq h1,←eq_of_beq h2]
   exact List.mem_cons_self ..
  |false=>rw[h] at e;exact ad _ (ih e)
theorem AE{a i:Nat}{l:List (Addr×Nat)}(e:Jf a i l=true):(a,i)∈l:=by
 induction l with
 |nil=>nomatch e
 |cons p r ih=>
  rw[Jg] at e
  cases h:p.1==a&&p.2==i with
  |true=>
   refine aS h fun h1 h2=>?_
   rw[←eq_of_beq h1,←eq_of_beq h2]
   exact List.mem_cons_self ..
  |false=>rw[h] at e;exact ad _ (ih e)
theorem AG{a:Nat}{l:SQ}(e:Jh a l=true):a∈l:=by
 induction l with
 |nil=>nomatch e
 |cons x r ih=>
  rw[Ji] at e
  cases h:x==a with
  |true=>rw[←eq_of_beq h];exact List.mem_cons_self ..
  |false=>rw[h] at e;exact ad _ (ih e)
theorem AF{a:Addr}:∀{l:List (Addr×List (Nat×V))},IB a l≠[]->(a,IB a l)∈l:=by
 intro l
 induction l with
 |nil=>intro e;exact absurd rfl e
 |cons p r ihr=>
  intro e
  rw[show IB a (p::r)=if Nat.beq p.1 a=true then p.2 else IB a r from rfl] at e ⊢
  by_cases h:Nat.beq p.1 a=true
  ·rw[au h,←Nat.eq_of_beq_eq_true h];exact List.mem_cons_self ..
  ·rw[ar h] at e ⊢
   exact ad _ (ihr e)
noncomputable def b9(nms:List (SQ))(i:Nat):Str:=match nms[i]? with
 |some l=>Sl l
 |none=>Sl (List.replicate (i+1000) 0)
theorem iu{a b:SQ}(h:Sl a=Sl b):a=b:=by rw[←da a,h,da]
noncomputable def iR:List (SQ)->Bool
 |[]=>true
 |x::r=>r.all (fun y=>!(x==y))&&iR r
theorem lU:∀{l:List (SQ)},iR l=true->l.Nodup:=by
 intro l
 induction l with
 |nil=>intro _;exact List.nodup_nil
 |cons x r ihr=>
  intro h
  refine aS h fun h1 h2=>?_
  refine List.nodup_cons.mpr ⟨fun hm=>?_,ihr h2⟩
  have:=aq h1 x hm
  simp at this
theorem yo{nms:List (SQ)}(h:iR nms=true)(hl:nms.all (fun l=>decide (l.length<1000))=true):∀i j,b9 nms i=b9 nms j->i=j:=by
 have hl:=aq hl
 have short:∀{i:Nat}{l:SQ},nms[i]?=some l->l.length<1000:=fun e=>by simpa using hl _ (List.mem_of_getElem? e)
 intro i j e
 unfold b9 at e
 cases hi:nms[i]? with
 |none=>
  cases hj:nms[j]? with
  |none=>
   rw[hi,hj] at e
   have:=congrArg List.length (iu e)
   simpa using this
  |some l=>
   rw[hi,hj] at e
   have:=congrArg List.length (iu e)
   have:=short hj
   simp at *;omega
 |some l=>
  cases hj:nms[j]? with
  |none=>
   rw[hi,hj] at e
   have:=congrArg List.length (iu e)
   have:=short hi
   simp at *;omega
  |some l'=>
   rw[hi,hj] at e
   have:=iu e
   subst this
   exact (List.getElem?_inj (oh hi) (lU h)).mp (by rw[hi,hj])
noncomputable def qE(P:Params)(l:List (SQ×Tok×Value)):List DictEntry:=l.map fun x=>⟨PyData.keyHash P (Sl x.1),.str (Sl x.1) x.2.1,x.2.2⟩
noncomputable def Oa(K:Frag)(v:Value):V->Bool
 |.d d=>MR K d v
 |.g w=>(vc v).any fun b=>(vc w).any (Nat.beq b)
 |_=>false
noncomputable def Gf(K:Frag)(l:SQ)(x:V):Bool:=((nsIn K mainGlobals (Sl l)).bind id).any fun v=>Oa K v x
noncomputable def qA(K:Frag)(v:Value):V->Bool
 |.d d=>MR K d v
 |_=>false
theorem lH{K:Frag}{B:Heap}{U:Ph}{v:Value}{x:V}(X:K.In B)(h:qA K v x=true):VR B U v x:=by
 cases x with
 |d d=>exact .d (qO X d v h)
 |_=>exact nof2 h
noncomputable def MQ(K:Frag):List (SQ)->List V->Bool
 |l::ls,x::xs=>Gf K l x&&MQ K ls xs
 |[],[]=>true
 |_,_=>false
noncomputable def CB(t:TL)(i:Nat)(f:Str->Bool):Bool:=t.nms[i]?.any fun l=>f (Sl l)
noncomputable def sG(K:Frag)(t:TL):Bool:=t.meths.all fun p=>CB t p.1.2 fun x=>ku K p.1.1 x p.2
noncomputable def xk(K:Frag)(t:TL):Bool:=t.flds.all fun p=>CB t p.2 fun x=>gJ K p.1 x
noncomputable def wo(K:Frag)(t:TL):Bool:=t.cats.all fun p=>CB t p.1.2 (fun x=>mz K p.1.1 x p.2.1)&&qA K p.2.1 p.2.2
noncomputable def D4(K:Frag)(t:TL):Bool:=t.fns.all (fnIn K)
noncomputable def Ee(K:Frag)(t:TL):Bool:=t.kps.all fun k=>match t.gl[k]? with|some (.g f)=>keepIn K f|_=>false
noncomputable def DQ(K:Frag):Bool:=([("len":Str), "ord", "chr", "min", "sum", "range", "dict", "enumerate"]:List Str).all fun x=>match nsIn K mainGlobals x with|some none=>true|_=>false
def mf(K:Frag)(P:Params)(nms:List (SQ))(a:Addr)(l:List (SQ×Tok×Value))(n:Nat):Prop:=K.lookup a=some ⟨.type "dict", none,.dict (qE P l).toArray n,#[]⟩
noncomputable def AR(K:Frag)(nms:List (SQ)):List (SQ×Tok×Value)->List (Nat×V)->Bool
 |[],[]=>true
 |e::es,p::ps=>(nms[p.1]?.any fun l=>l==e.1)&&qA K e.2.2 p.2&&AR K nms es ps
 |_,_=>false
section
variable {c:Cx}{t:TL}
theorem J2{K:Frag}{ls:List (SQ)}{xs:List V}(h:MQ K ls xs=true){k:Nat}{x:V}{l:SQ}(e1:xs[k]?=some x)(e2:ls[k]?=some l):Gf K l x=true:=by
 induction ls generalizing xs k with
 |nil=>nomatch e2
 |cons l ls ih=>
  cases xs with
  |nil=>nomatch e1
  |cons y xs=>
   cases k with
   |zero=>cases e1;cases e2;exact (ay h).1
   |succ k=>exact ih (ay h).2 (k:=k) e1 e2
theorem Av{a:Addr}{l:List (SQ×Tok×Value)}{n:Nat}{fs:List (Nat×V)}(hn:∀i x,t.nms[i]?=some x->c.nm i=Sl x)(hd:mf c.K c.w.params t.nms a l n)(nd:iR (l.map (·.1))=true)(h:AR c.K t.nms l fs=true):IT c a fs:=by
 have key:∀{l:List (SQ×Tok×Value)}{fs:List (Nat×V)},AR c.K t.nms l fs=true->KR c c.G (fun _=>none) (l.map fun e=>(Sl e.1,e.2.2)) fs:=by
  intro l
  induction l with
  |nil=>intro fs h;cases fs with
   |nil=>exact .nil
   |cons=>nomatch h
  |cons e es ih=>
   intro fs h
   cases fs with
   |nil=>nomatch h
   |cons p ps=>
    refine aS h fun h h3=>?_
    refine aS h fun h1 h2=>?_
    obtain⟨i,x⟩:=p
    have nm:c.nm i=Sl e.1:=by
     refine dJ h1 fun l' hl h1=>?_
     rw[hn _ _ hl,eq_of_beq h1]
    rw[List.map_cons,←nm]
    exact .cons (lH c.X h2) (ih h3)
 have pairs:∀l:List (SQ×Tok×Value),Pairs (PySem.strKind c.prog c.w) (qE c.w.params l) (l.map fun e=>(Sl e.1,e.2.2)):=by
  intro l
  induction l with
  |nil=>exact .nil
  |cons e es ih=>exact .cons (cx _ _) rfl ih
 refine⟨_,l.map fun e=>(Sl e.1,e.2.2),c.X _ _ hd,⟨_,_,⟨rfl,rfl,rfl⟩,rfl,fun e he=>?_,by simpa using pairs l,?_⟩,key h⟩
 ·have he:=Array.mem_toList_iff.mpr he
  unfold qE at he
  simp only[List.mem_map] at he
  obtain⟨x,hx,rfl⟩:=he
  exact⟨Sl x.1,cx _ _,rfl⟩
 ·rw[List.map_map]
  have:=lU nd
  have e:((fun kv:Str×Value=>kv.1) ∘ fun e:SQ×Tok×Value=>(Sl e.1,e.2.2))=Sl ∘ fun e=>e.1:=rfl
  rw[e,←List.map_map]
  exact List.Pairwise.map _ (fun a b h q=>h (iu q)) this
theorem BI{l:SQ}{x:V}(g:Gf c.K l x=true):∃w,c.mg (Sl l)=some w/\∀B U,Sub c.G B->VR B U w x:=by
 refine dJ g fun v hv g=>?_
 refine ax hv fun o hv e=>?_
 rw[show o=some v from e] at hv
 refine⟨v,mg_of c.X c.gns hv,fun B U s=>?_⟩
 cases x with
 |d d=>exact .d (qO (c.X.keeps s) d v g)
 |g w=>
  refine dJ g fun b h1 g=>?_
  refine dJ g fun a h2 g=>?_
  rw[g9 h1,g9 h2,Nat.eq_of_beq_eq_true g]
  exact .g _
 |_=>nomatch g
theorem zS(hn:c.nm=b9 t.nms)(h1:sG c.K t=true)(h2:xk c.K t=true)(h3:wo c.K t=true)(h4:D4 c.K t=true)(h5:Ee c.K t=true)(h6:DQ c.K=true)(h7:MQ c.K t.gnm t.gl=true)(h8:sysModules<c.G.objs.size)(hcs:c.cs=[])
  (h9:∀p∈t.cds,∃l n,mf c.K c.w.params t.nms p.1 l n/\iR (l.map (·.1))=true/\AR c.K t.nms l p.2=true):TabOk c t.tab:=by
 have nm:∀i l,t.nms[i]?=some l->c.nm i=Sl l:=fun i l e=>by rw[hn];unfold b9;rw[e]
 have at_:∀{i:Nat}{f:Str->Bool},CB t i f=true->f (c.nm i)=true:=fun {i f} h=>by
  refine dJ h fun l hl h=>?_
  rw[nm _ _ hl];exact h
 refine⟨nm,fun a ha=>?_,fun C i f e=>?_,fun C i e=>?_,fun C i v x e=>?_,h8,fun k x l e1 e2=>?_,fun f e=>?_,fun k f e1 e2=>?_,fun x hx=>?_,(ar Bool.false_ne_true).mpr hcs⟩
 ·obtain⟨l,n,d1,d2,d3⟩:=h9 _ (AF ha)
  exact Av nm d1 d2 d3
 ·exact at_ (aq h1 _ (rI e))
 ·exact at_ (aq h2 _ (AE e))
 ·refine aS ((aq h3 _ (rI e))) fun a1 a2=>?_
  exact⟨at_ a1,fun B U s=>lH (c.X.keeps s) a2⟩
 ·exact BI (J2 h7 e1 e2)
 ·exact aq h4 _ (AG e)
 ·obtain⟨p,hp,e⟩:=List.any_eq_true.mp e1
  have:=aq h5 _ hp
  rw[←Nat.eq_of_beq_eq_true e] at this
  have e2:t.gl[k]?=some (.g f):=e2
  rw[e2] at this
  exact this
 ·have:=aq h6 x hx
  rcases hq:nsIn c.K mainGlobals x with _|_|v
  ·rw[hq] at this;nomatch this
  ·exact mg_none_of c.X c.gns hq
  ·rw[hq] at this;nomatch this
end
noncomputable def jf(T:aW)(ids:SQ)(ir:S)(sc:Scope)(b:List Stmt):Bool:=d4 T sc ir b&&ids.all fun i=>match T.nms[i]? with|some l=>a5 sc (Sl l) .local|none=>false
theorem kn{α:Type}{l:List α}{n:Nat}(h:l.length=n+1):∃a r,l=a::r/\r.length=n:=by
 cases l with
 |nil=>nomatch h
 |cons a r=>exact⟨a,r,rfl,Nat.succ.inj h⟩
theorem KD{α:Type}{l:List α}(h:l.length=0):l=[]:=List.length_eq_zero_iff.mp h
theorem km{α:Type}{l:List α}(h:l.length=1):∃a,l=[a]:=by
 obtain⟨a,r,rfl,h2⟩:=kn h
 cases KD h2;exact⟨_,rfl⟩
theorem Cn{α:Type}{l:List α}(h:l.length=2):∃a b,l=[a,b]:=by
 obtain⟨a,r,rfl,h2⟩:=kn h
 obtain⟨b,rfl⟩:=km h2
 exact⟨_,_,rfl⟩
theorem KF{α:Type}{l:List α}(h:l.length=3):∃a b c,l=[a,b,c]:=by
 obtain⟨a,r,rfl,h2⟩:=kn h
 obtain⟨b,c,rfl⟩:=Cn h2
 exact⟨_,_,_,rfl⟩
theorem bV{c:Cx}{T:aW}{r:Nat}{H:Hp}{a:Addr}{ids:SQ}{ir:S}{xs dxs:List V}{dvals:List Value}{Q:SV}(hT:TabOk c T)(hfl:T.fl=false)(hf:jW c.K a (jf T ids ir)=true)
  (hb:∀S vals,vals.length=xs.length->a8 c.K S a vals=some ((ids.map c.nm).zip (vals++dvals)))(nd:ids.Nodup)(hd:∀B U,Sub c.G B->VRs B U dvals dxs)
  (hw:wS c T r H.length ir (ids.zip (xs++dxs)) H (ip H.length Q)):SemCall c (r+1) (.ref a) xs H Q:=by
 refine jk (hT.nocs hfl) hf hb (fun sc body h i hi=>?_) nd hd fun L env sc body hE hc=>kR hT ir _ _ _ _ _ _ _ hE (ay hc).1 hw
 have:=aq (ay h).2 i hi
 split at this
 ·rename_i l hl
  rw[hT.nm _ _ hl];exact bb this
 ·nomatch this
end Mine
section
open PySem PySem.W PySem.Calls PyProof.Rows PySem.StrLaws PySem.Builtin PySem.Builtin.Str
namespace Mine
theorem eB(a:SQ):(Sl a).cps.toList=a:=da a
theorem jI(a:SQ):(Sl a).length=a.length:=by rw[bt,da]
theorem EY(a b:SQ):(Sl a==Sl b)=decide (a=b):=by
 by_cases h:a=b
 ·subst h;simp
 ·rw[decide_eq_false h]
  exact beq_eq_false_iff_ne.mpr fun q=>h (iu q)
@[simp] theorem jQ(a b:SQ):PyData.eqv (st a) (st b)=decide (a=b):=by
 show (Sl a==Sl b) = _
 exact EY a b
@[simp] theorem A6(a b:Int):PyData.eqv (.int a) (.int b)=(a==b):=rfl
@[simp] theorem wR(a b:Bool):PyData.eqv (.bool a) (.bool b)=(a==b):=rfl
@[simp] theorem oJ(a b:D)(r s:List D):PyData.eqvAll (a::r) (b::s)=(PyData.eqv a b&&PyData.eqvAll r s):=rfl
theorem Rq{α:Type}(xs:List α){a b:Nat}(hb:b<=xs.length):(sliceRange (a:Int) (b:Int) 1).filterMap (xs[·]?)=(xs.drop a).take (b-a):=by
 unfold sliceRange
 simp only[show ((1:Int) > 0)=True from by simp,if_true]
 by_cases hlt:(a:Int)<b
 ·have e3:(((b:Int) - a+1-1) / 1).toNat=b-a:=Rw (by assumption)
  simp only[hlt,if_true,e3]
  rw[←picks xs (b-a) a (Nk (by assumption) (by assumption))]
  congr 1
  refine List.map_congr_left fun k _=>?_
  exact Na
 ·have:b-a=0:=SN (by assumption)
  simp[hlt,this]
noncomputable def dh(n:Nat)(i:Int):Nat:=(max 0 (min (if i<0 then i+n else i) n)).toNat
noncomputable def vR(n:Nat):Option Int->Nat
 |none=>0
 |some i=>dh n i
noncomputable def D9(n:Nat):Option Int->Nat
 |none=>n
 |some i=>dh n i
theorem rT(n:Nat)(i:Int):max 0 (min (if i<0 then i+n else i) (n:Int))=((dh n i:Nat):Int):=(Int.toNat_of_nonneg (Int.le_max_left ..)).symm
theorem oy(a n:Nat):((min a n:Nat):Int)=min (a:Int) n:=by
 rcases Nat.le_total a n with h|h
 ·rw[Nat.min_eq_left h,Int.min_eq_left (Int.ofNat_le.mpr h)]
 ·rw[Nat.min_eq_right h,Int.min_eq_right (Int.ofNat_le.mpr h)]
theorem fa(n a:Nat):dh n (a:Int)=min a n:=by
 unfold dh
 rw[ar (Int.not_lt.mpr (Int.natCast_nonneg a)),←oy,Int.max_eq_right (Int.natCast_nonneg _),Int.toNat_natCast]
theorem fC{α:Type}(x:List α)(b:Nat):x.take (min b x.length)=x.take b:=by
 rcases Nat.le_total b x.length with h|h
 ·rw[Nat.min_eq_left h]
 ·rw[Nat.min_eq_right h,List.take_length,List.take_of_length_le h]
theorem oF{α:Type}{x y:List α}{a:Nat}(h:y.length<=x.length):y.drop (min a x.length)=y.drop a:=by
 rcases Nat.le_total a x.length with q|q
 ·rw[Nat.min_eq_left q]
 ·rw[Nat.min_eq_right q,List.drop_of_length_le h,List.drop_of_length_le (ak h q)]
theorem lz(lo hi:Option Int)(n:Nat):sliceBounds lo hi none n=(((vR n lo:Nat):Int),((D9 n hi:Nat):Int),1):=by
 unfold sliceBounds
 simp only[Option.getD,show ((1:Int) > 0)=True from by simp,if_true]
 cases lo<;>cases hi<;>simp only[rT]<;>rfl
theorem jK(n:Nat)(i:Int):dh n i<=n:=Int.ofNat_le.mp (by rw[←rT];exact Int.max_le.mpr ⟨Int.natCast_nonneg n,Int.min_le_right ..⟩)
theorem HO{α:Type}(xs:List α)(lo hi:Option Int):IP xs lo hi=(xs.drop (vR xs.length lo)).take (D9 xs.length hi-vR xs.length lo):=by
 unfold IP
 rw[lz]
 exact Rq xs (by cases hi<;>first|exact ao _|exact jK _ _)
theorem nO(x:SQ)(lo hi:Option Int):k7 x lo hi=(x.drop (vR x.length lo)).take (D9 x.length hi-vR x.length lo):=by
 have key:strSliceIndices lo hi 1 x.length=sliceRange ((vR x.length lo:Nat):Int) ((D9 x.length hi:Nat):Int) 1:=by
  have:=lz lo hi x.length
  unfold strSliceIndices
  unfold sliceBounds at this
  simp only[Option.getD] at this
  simp only[Prod.mk.injEq] at this
  rw[←this.1,←this.2.1]
  rfl
 have hle:D9 x.length hi<=x.length:=by cases hi<;>first|exact ao _|exact jK _ _
 have main:=Rq x (a:=vR x.length lo) hle
 unfold k7 Txt.slice
 rw[jI,key]
 split
 ·rename_i h
  rw[da]
  have h2:(sliceRange ((vR x.length lo:Nat):Int) ((D9 x.length hi:Nat):Int) 1).length=x.length:=by simpa using h
  have h3:(sliceRange ((vR x.length lo:Nat):Int) ((D9 x.length hi:Nat):Int) 1).length=D9 x.length hi-vR x.length lo:=by
   unfold sliceRange
   simp only[show ((1:Int) > 0)=True from by simp,if_true,ah,List.length_range]
   split
   ·exact Rw (by assumption)
   ·exact SJ (by assumption)
  have w:=SM h hle h3
  have e0:vR x.length lo=0:=by
   by_cases q:x.length=0
   ·have:vR x.length lo<=x.length:=by cases lo<;>first|exact Nat.zero_le _|exact jK _ _
    exact Nat.le_zero.mp (q▸this)
   ·exact w.1 q
  rw[e0,Nat.sub_zero,List.drop_zero,w.2,List.take_length]
 ·show ((sliceRange _ _ 1).filterMap ((Sl x).cps[·]?)).toArray.toList = _
  rw[←main]
  have:∀i:Nat,(Sl x).cps[i]?=x[i]?:=fun i=>by rw[←Array.getElem?_toList,eB]
  simp only[this,List.toList_toArray]
@[simp] theorem kQ(x:SQ)(a b:Nat):k7 x (some (a:Int)) (some (b:Int))=(x.take b).drop a:=by
 rw[nO]
 show List.take (dh x.length b-dh x.length a) (x.drop (dh x.length a)) = _
 rw[fa,fa,←List.drop_take,fC,oF (by rw[List.length_take];exact Nat.min_le_right ..)]
@[simp] theorem zH(x:SQ)(a:Nat):k7 x (some (a:Int)) none=x.drop a:=by
 rw[nO]
 show List.take (x.length-dh x.length a) (x.drop (dh x.length a)) = _
 rw[fa,←List.drop_take,List.take_length,oF (ao _)]
@[simp] theorem HP(x:SQ)(b:Nat):k7 x none (some (b:Int))=x.take b:=by
 rw[nO]
 show List.take (dh x.length b-0) (x.drop 0) = _
 rw[fa,Nat.sub_zero,List.drop_zero,fC]
theorem AU(n:Nat):dh n (-1)=n-1:=by
 unfold dh
 cases n with
 |zero=>rfl
 |succ k=>
  have e:(-1:Int)+((k+1:Nat):Int)=(k:Int):=by rw[Int.natCast_add,Int.add_comm,Int.add_assoc];exact Int.add_zero _
  rw[au (by decide),e,←oy,Int.max_eq_right (Int.natCast_nonneg _),Int.toNat_natCast,Nat.min_eq_left (Nat.le_succ k)];rfl
theorem zG(x:SQ):k7 x none (some (-1))=x.dropLast:=by
 rw[nO]
 show List.take (dh x.length (-1) - 0) (x.drop 0) = _
 rw[AU,Nat.sub_zero,List.drop_zero,List.dropLast_eq_take]
theorem HN{α:Type}(x:List α)(b:Nat):IP x none (some (b:Int))=x.take b:=by
 rw[HO]
 show List.take (dh x.length b-0) (x.drop 0) = _
 rw[fa,Nat.sub_zero,List.drop_zero,fC]
theorem jC(x:SQ)(c i:Nat):subAt (Sl x) (Sl [c]) i=true↔x[i]?=some c:=by
 have k:=subAt_one (Sl x) c i
 rw[eB] at k
 constructor
 ·intro h
  refine k.mp ⟨?_,h⟩
  have h2:((Sl x).cps.extract i (i+(Sl [c]).length))=(Sl [c]).cps:=by unfold subAt at h;exact eq_of_beq h
  have h3:=congrArg Array.size h2
  rw[Array.size_extract] at h3
  have h4:(Sl [c]).cps.size=1:=rfl
  have h5:(Sl [c]).length=1:=rfl
  have h6:(Sl x).cps.size=(Sl x).length:=rfl
  have h7:min (i+(Sl [c]).length) (Sl x).cps.size-i=1:=h3.trans h4
  have h8:i<=min (i+(Sl [c]).length) (Sl x).cps.size:=Nat.le_of_lt (Nat.lt_of_sub_ne_zero (by rw[h7];decide))
  exact ak (Nat.add_le_of_le_sub' h8 (an h7.symm)) (Nat.min_le_right _ _)
 ·intro h;exact (k.mpr h).2
theorem fF{α:Type}{l:List α}{i:Nat}{a:α}(h:l[i]?=some a):l.drop i=a::l.drop (i+1):=by
 obtain⟨hi,e⟩:=List.getElem?_eq_some_iff.mp h
 rw[List.drop_eq_getElem_cons hi,e]
theorem fE{α:Type}{l:List α}{i:Nat}(h:l[i]?=none):l.drop i=[]/\l.drop (i+1)=[]:=
 ⟨List.drop_of_length_le (List.getElem?_eq_none_iff.mp h),List.drop_of_length_le (Nat.le_succ_of_le (List.getElem?_eq_none_iff.mp h))⟩
theorem fB{x:SQ}{hi i c:Nat}(h:(x.take hi)[i]?=some c):i+1<=hi/\x[i]?=some c:=by
 rw[List.getElem?_take] at h
 by_cases q:i<hi
 ·exact⟨q,(au q).symm.trans h⟩
 ·cases (ar q).symm.trans h
theorem oZ{x:SQ}{hi i c:Nat}(h:i+1<=hi)(e:x[i]?=some c):(x.take hi)[i]?=some c:=by
 rw[List.getElem?_take,au (show i<hi from h),e]
theorem oE(x:SQ){hi lo:Nat}(h:lo+0=hi+1):(x.take hi).drop lo=[]:=
 List.drop_of_length_le (by rw[List.length_take];exact ak (Nat.min_le_left ..) (Nat.le_of_succ_le (an h.symm)))
theorem qz(x:SQ)(c hi limit:Nat):∀(n lo:Nat) (st:Array Nat×Nat),st.2<=lo->st.1.size+n<=limit->lo+n=hi+1 ->
  (forIn (List.range' lo n) st (occBody (Sl x) (Sl [c]) hi limit)).run.1.size=st.1.size+((x.take hi).drop lo).count c:=by
 intro n
 induction n with
 |zero=>intro lo st h1 h2 h3;rw[oE x h3];rfl
 |succ n ihr=>
  intro lo st h1 h2 h3
  rw[List.range'_succ,List.forIn_cons]
  unfold occBody
  have km:(Sl [c]).length=1:=rfl
  have hs:(lo+1)+n=hi+1:=by rw[←h3,Nat.add_assoc,Nat.add_comm 1 n]
  have no:(x.take hi)[lo]?≠some c->((x.take hi).drop lo).count c=((x.take hi).drop (lo+1)).count c:=fun q=>by
   cases e:(x.take hi)[lo]? with
   |none=>rw[(fE e).1,(fE e).2]
   |some a=>rw[fF e,List.count_cons_of_ne (fun z=>q (by rw[e,z]))]
  by_cases hc:(x.take hi)[lo]?=some c
  ·rw[au ⟨⟨⟨Nat.lt_of_lt_of_le (Nat.lt_add_of_pos_right (Nat.succ_pos n)) h2,h1⟩,by rw[km];exact (fB hc).1⟩,(jC x c lo).mpr (fB hc).2⟩]
   have ih:=ihr (lo+1) (st.1.push lo,lo+(Sl [c]).length) (by rw[km];exact ao _) (by rw[Array.size_push,Nat.add_assoc,Nat.add_comm 1 n];exact h2) hs
   unfold occBody at ih
   refine Eq.trans ih ?_
   rw[fF hc,List.count_cons_self,Array.size_push,Nat.add_assoc,Nat.add_comm 1]
  ·rw[ar (fun h=>hc (oZ (by have:=h.1.2;rw[km] at this;exact this) ((jC x c lo).mp h.2)))]
   have ih:=ihr (lo+1) (st.1,st.2) (Nat.le_succ_of_le h1) (ak (Nat.le_succ _) h2) hs
   unfold occBody at ih
   refine Eq.trans ih ?_
   rw[no hc]
theorem oR(x:SQ)(b:Nat):min (fromIndex (Sl x).length (b:Int)) (Sl x).length=min b x.length:=by
 unfold fromIndex
 rw[jI,ar (Int.not_lt.mpr (Int.natCast_nonneg b))];rfl
theorem rU(x:SQ)(c b:Nat):t6 x [c] 0 (b:Int)=((x.take b).count c:Nat):=by
 unfold t6
 rw[occ_eq]
 have e1:fromIndex (Sl x).length 0=0:=by unfold fromIndex;simp
 rw[e1,oR]
 have:=qz x c (min b x.length) ((Sl x).length+1) (min b x.length+1-0) 0 (#[],0) (ao _) (by rw[jI,Nat.sub_zero];show 0+_<=_;rw[Nat.zero_add];exact Nat.succ_le_succ (Nat.min_le_right ..)) (Nat.zero_add _)
 rw[Array.length_toList,this,fC]
 show ((0+List.count c (x.take b):Nat):Int) = _
 rw[Nat.zero_add]
noncomputable def cT(c:Nat):SQ->SQ
 |[]=>[]
 |k::r=>if c∈r then cT c r else if k=c then r else k::r
theorem bJ(c k:Nat)(r:SQ):cT c (k::r)=if c∈r then cT c r else if k=c then r else k::r:=rfl
theorem uS(x:SQ)(c hi:Nat):∀(n lo:Nat) (st:Option Nat),lo+n=hi+1->hi<=x.length ->
  (forIn (List.range' lo n) st (lastBody (Sl x) (Sl [c]) hi)).run=if c∈(x.take hi).drop lo then some (hi-1 - (cT c ((x.take hi).drop lo)).length) else st:=by
 intro n
 induction n with
 |zero=>intro lo st h hh;rw[oE x h];rfl
 |succ n ihr=>
  intro lo st h hh
  rw[List.range'_succ,List.forIn_cons]
  unfold lastBody
  have km:(Sl [c]).length=1:=rfl
  have hs:(lo+1)+n=hi+1:=by rw[←h,Nat.add_assoc,Nat.add_comm 1 n]
  by_cases hc:(x.take hi)[lo]?=some c
  ·rw[au ⟨by rw[km];exact (fB hc).1,(jC x c lo).mpr (fB hc).2⟩]
   have ih:=ihr (lo+1) (some lo) hs hh
   unfold lastBody at ih
   refine Eq.trans ih ?_
   rw[fF hc,au aa,bJ]
   by_cases m:c∈(x.take hi).drop (lo+1)
   ·rw[au m,au m]
   ·rw[ar m,ar m,au rfl,List.length_drop,List.length_take,Nat.min_eq_left hh]
    congr 1
    have:=(fB hc).1
    exact M6 ‹_›
  ·rw[ar (fun h=>hc (oZ (by have:=h.1;rw[km] at this;exact this) ((jC x c lo).mp h.2)))]
   have ih:=ihr (lo+1) st hs hh
   unfold lastBody at ih
   refine Eq.trans ih ?_
   cases e:(x.take hi)[lo]? with
   |none=>rw[(fE e).1,(fE e).2]
   |some a=>
    have ne:a≠c:=fun z=>hc (by rw[e,z])
    rw[fF e,bJ]
    by_cases m:c∈(x.take hi).drop (lo+1)
    ·rw[au m,au (ad _ m),au m]
    ·rw[ar m,ar (fun z=>by rcases List.mem_cons.mp z with z|z;exact ne z.symm;exact m z)]
theorem zm(x:SQ)(c b:Nat):EJ x [c] 0 (b:Int)=if c∈x.take b then ((min b x.length-1 - (cT c (x.take b)).length:Nat):Int) else -1:=by
 unfold EJ
 rw[last_eq]
 have e1:fromIndex (Sl x).length 0=0:=by unfold fromIndex;simp
 rw[e1,oR,uS x c (min b x.length) (min b x.length+1-0) 0 none (Nat.zero_add _) (Nat.min_le_right ..),List.drop_zero,fC]
 by_cases q:c∈x.take b
 ·rw[au q,au q]
 ·rw[ar q,ar q]
end Mine
end
section
open PySem PySem.W PySem.Calls PyProof.Rows PySem.StrLaws PySem.Builtin PySem.Builtin.Str
namespace Mine
noncomputable def c5:Bool->SQ->SQ
 |_,[]=>[]
 |b,c::r=>if b=true/\c=10 then c5 false r else if c=13 then 10::c5 true r else c::c5 false r
noncomputable def oG:Bool->SQ->Bool
 |b,[]=>b
 |_,c::r=>oG (decide (c=13)) r
theorem bH(b:Bool)(c:Nat)(r:SQ):c5 b (c::r)=if b=true/\c=10 then c5 false r else if c=13 then 10::c5 true r else c::c5 false r:=rfl
theorem jO(b:Bool)(c:Nat)(r:SQ):oG b (c::r)=oG (decide (c=13)) r:=rfl
theorem q6:∀(x y:SQ) (b:Bool),c5 b (x++y)=c5 b x++c5 (oG b x) y:=by
 intro x
 induction x with
 |nil=>intro y b;exact rfl
 |cons c r ihr=>
  intro y b
  rw[List.cons_append,bH,bH,jO]
  by_cases h1:b=true/\c=10
  ·rw[au h1,au h1,ihr y false,h1.2];rfl
  ·rw[ar h1,ar h1]
   by_cases h2:c=13
   ·rw[au h2,au h2,ihr y true,decide_eq_true h2];rfl
   ·rw[ar h2,ar h2,ihr y false,decide_eq_false h2];rfl
theorem lV{r:SQ}(h:∀r',r≠10::r'):c5 true r=c5 false r:=by
 cases r with
 |nil=>rfl
 |cons c r=>
  have:c≠10:=fun e=>h r (by rw[e])
  rw[bH,bH,ar (fun z:true=true/\c=10=>this z.2),ar (fun z:false=true/\c=10=>this z.2)]
noncomputable def fA:SQ->SQ
 |[]=>[]
 |[c]=>[c]
 |c::d::r=>if c=13/\d=10 then 10::fA r else c::fA (d::r)
noncomputable def Bx(c:Nat):Nat:=if c=13 then 10 else c
theorem kJ:∀x:SQ,(fA x).map Bx=c5 false x
 |[]=>rfl
 |[c]=>by
  show [Bx c] = _
  rw[bH,ar (fun z=>by cases z.1)]
  unfold Bx
  split<;>rfl
 |c::d::r=>by
  unfold fA
  by_cases h:c=13/\d=10
  ·obtain⟨rfl,rfl⟩:=h
   rw[au ⟨rfl,rfl⟩,List.map_cons,kJ r]
   rfl
  ·rw[ar h,List.map_cons,kJ (d::r),bH false c,ar (fun z:false=true/\c=10=>by cases z.1)]
   unfold Bx
   by_cases h2:c=13
   ·rw[au h2,au h2,lV]
    rintro r' e
    cases e
    exact h ⟨h2,rfl⟩
   ·rw[ar h2,ar h2]
theorem lM:∀P:List (SQ),bL [] P=P.flatten
 |[]=>rfl
 |[p]=>by simp[bL]
 |p::q::r=>by
  show p++[]++bL [] (q::r) = _
  rw[lM (q::r)];simp
theorem iN(sep:SQ):∀parts:List Str,(Str.join (Sl sep) parts).l=bL sep (parts.map (·.l)):=by
 intro parts
 induction parts with
 |nil=>exact rfl
 |cons p P ihr=>
  cases P with
  |nil=>exact rfl
  |cons q r=>
  have ih:=ihr
  show (p++Sl sep++Str.join (Sl sep) (q::r)).l=p.l++sep++bL sep ((q::r).map (·.l))
  rw[←ih,su,su,da,da,da]
theorem pA:∀p:SQ,13∉p->p.map Bx=p:=by
 intro p
 induction p with
 |nil=>intro _;exact rfl
 |cons k r ihr=>
  intro h
  rw[List.map_cons,ihr fun m=>h (ad _ m)]
  unfold Bx
  rw[ar fun e=>h (by rw[e];exact List.mem_cons_self ..)]
theorem pj:∀P:List (SQ),(∀p∈P,13∉p)->bL [10] P=(bL [13] P).map Bx
 |[],_=>rfl
 |[p],h=>(pA p (h p (List.mem_singleton.mpr rfl))).symm
 |p::q::r,h=>by
  have b:=pj (q::r) fun z hz=>h z (ad _ hz)
  show p++[10]++bL [10] (q::r)=(p++[13]++bL [13] (q::r)).map Bx
  rw[List.map_append,List.map_append,pA p (h p aa),←b];rfl
theorem zl(x:SQ):bU x [13] [10]=x.map Bx:=by
 unfold bU
 have h:=replace_one (Sl x) (Sl [10]) 13
 have h':Txt.replace (Sl x) (Sl [13]) (Sl [10])=Str.join (Sl [10]) (Txt.split (Sl x) (Sl [13])):=h
 rw[h',iN]
 have h2:=split_free (Sl x) 13
 rw[pj _ fun p hp=>by
  obtain⟨q,hq,rfl⟩:=List.mem_map.mp hp
  exact h2 q hq]
 have e:(Str.join (Sl [13]) (Txt.split (Sl x) (Sl [13]))).l=(Sl x).l:=by rw[join_split (Sl x) (Sl [13])]
 rw[iN,da] at e
 rw[e]
theorem No(x:SQ)(k:Nat):At (Sl x) (Sl [13,10]) (Sl x).length k↔∃r,x.drop k=13::10::r:=by
 unfold At subAt
 rw[beq_iff_eq]
 have e1:(Sl [13,10]).length=2:=rfl
 rw[e1,jI]
 constructor
 ·rintro ⟨h1,h2⟩
  have h3:(x.drop k).take 2=[13,10]:=by
   have:=congrArg Array.toList h2
   rw[Array.toList_extract,eB,eB] at this
   rw[←this,List.extract_eq_take_drop]
   congr 1;exact t_2k.symm
  refine⟨(x.drop k).drop 2,?_⟩
  conv=>lhs;rw[←List.take_append_drop 2 (x.drop k)]
  rw[h3];rfl
 ·rintro ⟨r,h⟩
  have hl:x.length-k=r.length+2:=by rw[←List.length_drop,h];rfl
  refine⟨by exact I6 ‹_›,?_⟩
  apply Array.toList_inj.mp
  rw[Array.toList_extract,eB,eB,List.extract_eq_take_drop,h,show k+2-k=2 from t_2k]
  rfl
theorem vd{x:SQ}{k:Nat}(hk:k<x.length)(h:¬ ∃r,x.drop k=13::10::r):fA (x.drop k)=x[k]::fA (x.drop (k+1)):=by
 rw[List.drop_eq_getElem_cons hk] at h ⊢
 cases hr:x.drop (k+1) with
 |nil=>rfl
 |cons d r=>
  rw[hr] at h
  show (if x[k]=13/\d=10 then 10::fA r else x[k]::fA (d::r)) = _
  rw[ar fun z=>h ⟨r,by rw[z.1,z.2]⟩]
theorem pM{x:SQ}:∀(n a:Nat),a+n<=x.length->(∀k,a<=k->k<a+n->¬ ∃r,x.drop k=13::10::r)->fA (x.drop a)=(x.drop a).take n++fA (x.drop (a+n)):=by
 intro n
 induction n with
 |zero=>intro a _ _;simp
 |succ n ihr=>
  intro a h1 h2
  have hlt:a<x.length:=Nat.lt_of_lt_of_le (Nat.lt_add_of_pos_right (Nat.succ_pos n)) h1
  rw[vd hlt (h2 a (ao _) (Nat.lt_add_of_pos_right (Nat.succ_pos n))),ihr (a+1) (Mj (by assumption)) fun k h3 h4=>h2 k (Nat.le_of_succ_le h3) (Nat.lt_of_lt_of_eq h4 (by rw[Nat.add_assoc,Nat.add_comm 1]))]
  conv=>rhs;rw[List.drop_eq_getElem_cons hlt]
  rw[List.take_succ_cons,List.cons_append,show a+1+n=a+(n+1) by rw[Nat.add_assoc,Nat.add_comm 1]]
theorem rg(x:SQ):∀(cuts:SQ) (a f:Nat),a<=x.length->ChainG (Sl x) (Sl [13,10]) (Sl x).length a cuts f->(∀k,f<=k->¬ At (Sl x) (Sl [13,10]) (Sl x).length k) ->
  (Str.join (Sl [10]) (partsFrom (Sl x) (Sl [13,10]).length a cuts)).l=fA (x.drop a):=by
 intro cuts
 induction cuts with
 |nil=>
  intro a f ha h hn
  have e:f=a:=h
  subst e
  show (strSub (Sl x) f (Sl x).length).cps.toList = _
  rw[strSub_toList,eB,jI]
  have:=pM (x:=x) (x.length-f) f (PN (by assumption)) fun k h1 h2=>fun z=>hn k h1 ((No x k).mpr z)
  rw[this,show f+(x.length-f)=x.length by exact EZ ‹_›,List.drop_length]
  simp[fA]
 |cons c r ihr=>
  intro a f ha h hn
  obtain⟨h1,h2,h3,h4⟩:=h
  obtain⟨t,ht⟩:=(No x c).mp h2
  have hl:x.length-c=t.length+2:=by rw[←List.length_drop,ht];rfl
  have ih:=ihr (c+(Sl [13,10]).length) f (by show c+2<=_;exact I6 ‹_›) h4 hn
  obtain⟨p,ps,hp⟩:=partsFrom_ne (Sl x) (Sl [13,10]).length (c+(Sl [13,10]).length) r
  have j:(Str.join (Sl [10]) (partsFrom (Sl x) (Sl [13,10]).length a (c::r))).l=(strSub (Sl x) a c).l++[10]++(Str.join (Sl [10]) (partsFrom (Sl x) (Sl [13,10]).length (c+(Sl [13,10]).length) r)).l:=by
   show (Str.join (Sl [10]) (strSub (Sl x) a c::partsFrom (Sl x) (Sl [13,10]).length (c+(Sl [13,10]).length) r)).l = _
   rw[iN,iN,hp];rfl
  rw[j,ih]
  have s1:(strSub (Sl x) a c).l=(x.drop a).take (c-a):=by
   show (strSub (Sl x) a c).cps.toList = _
   rw[strSub_toList,eB]
  have run:=pM (x:=x) (c-a) a (by exact Nf ‹_› ‹_›) fun k k1 k2=>fun z=>h3 k k1 (Nat.lt_of_lt_of_eq k2 (by exact EZ ‹_›)) ((No x k).mpr z)
  rw[run,s1,show a+(c-a)=c by exact EZ ‹_›,ht]
  have e2:x.drop (c+(Sl [13,10]).length)=t:=by
   show x.drop (c+2)=t
   rw[←List.drop_drop,ht];rfl
  rw[e2]
  simp[fA]
theorem kK(x:SQ):bU x [13,10] [10]=fA x:=by
 obtain⟨f,h1,h2⟩:=occ_tight (Sl x) (Sl [13,10]) (by decide)
 have main:=rg x _ 0 f (Nat.zero_le _) h1 h2
 rw[List.drop_zero] at main
 rw[←main]
 unfold bU Txt.replace
 have e0:((Sl [13,10]).length==0)=false:=rfl
 rw[e0,Bool.false_and,Bool.or_false]
 cases hc:occurrences (Sl x) (Sl [13,10]) 0 (Sl x).length ((Sl x).length+1) with
 |nil=>
  show (Sl x).l=(strSub (Sl x) 0 (Sl x).length).l
  rw[sub_whole]
 |cons i r=>
  rw[ar (by simp),glued_eq_join,partsBetween_eq]
theorem rh(x:SQ):bU (bU x [13,10] [10]) [13] [10]=c5 false x:=by
 rw[zl,kK,kJ]
end Mine
end
namespace Mine
noncomputable def eE(b:Bool)(w:Option (V×Hp))(H:Hp):Option (Option Int×Hp):=match b with
 |true=>some (none,H)
 |false=>w.bind fun p=>(xz p.1).map fun i=>(i,p.2)
noncomputable def tT(x y:V)(o:e7):Option V:=match x,y with
 |.d x,.d y=>(fS o x y).map .d
 |_,_=>none
noncomputable def L8(x:V)(l u:Option Int):Option V:=match x with
 |.d x=>(EN x l u).map .d
 |_=>none
noncomputable def yk:V->Option V
 |.d (.int i)=>some (.d (.int (-i)))
 |_=>none
noncomputable def Ii(ds:List D):Option V:=bc (jm ds.length 99) (some (.d (.tuple ds)))
noncomputable def Ds(vs:List V):Option V:=(dZ vs).bind Ii
noncomputable def GN(H:Hp)(ds:List D):Option (V×Hp):=bc (jm ds.length 99) (some (.d (.list ds),H))
noncomputable def GO(H:Hp)(ds:List D):Option (V×Hp):=bc (jm ds.length 99) (some (.r H.length,H++[some (.dlist ds)]))
noncomputable def x9(mu:Nat)(vs:List V)(H:Hp):Option (V×Hp):=match mu with
 |0=>(dZ vs).bind (GN H)
 |1=>(dZ vs).bind (GO H)
 |_=>bc (jm vs.length 99) (some (.r H.length,H++[some (.list vs)]))
noncomputable def BL:Option (Option Cell)->Bool
 |some (some (.dict []))=>true
 |_=>false
noncomputable def NQ(ks:SQ)(vs:List V)(n:Nat)(H1:Hp):Option (V×Hp):=
 bc (BL H1[n]?&&(iQ ((ks.zip vs).map (·.1))&&jm (ks.zip vs).length 900)) (some (.r n,H1.set n (some (.dict (ks.zip vs)))))
noncomputable def IC(b:Bi)(ov:V)(vs:List V)(H:Hp):Option V:=match ov with
 |.d (.str x)=>(cz H vs).bind fun ds=>(mw b (.str x::ds)).map .d
 |_=>none
noncomputable def tj(ov:V)(y z:SQ):Option V:=match ov with
 |.d (.str x)=>if x.l.length+(x.l.length+1) * z.length<=16777216 then some (.d (st (bU x.l y z))) else none
 |_=>none
noncomputable def mo(ov v:V)(H:Hp):Option (V×Hp):=(cellOf H ov).bind fun p=>(mn p.2 v).map fun cl=>(.d .none,H.set p.1 (some cl))
noncomputable def Gi:V->Bool
 |.el=>true
 |_=>false
theorem sj{v:V}(h:Gi v=true):v=.el:=by
 cases v with
 |el=>rfl
 |_=>nomatch h
mutual
noncomputable def aO(T:aW):X->aD->Hp->Option (V×Hp)
 |.c d,_,H=>some (.d d,H)
 |.v i,m,H=>(lk i m).map fun x=>(x,H)
 |.g k,_,H=>T.gl[k]?.map fun x=>(x,H)
 |.at e a,m,H=>(aO T e m H).bind fun p=>(ej T p.2 p.1 a).map fun x=>(x,p.2)
 |.ix e i,m,H=>(aO T e m H).bind fun p=>(aO T i m p.2).bind fun q=>(uO T q.2 p.1 q.1).map fun x=>(x,q.2)
 |.sl e lo hi,m,H=>(aO T e m H).bind fun p=>(eE lo.isNon (aO T lo m p.2) p.2).bind fun l=>(eE hi.isNon (aO T hi m l.2) l.2).bind fun u=>(L8 p.1 l.1 u.1).map fun x=>(x,u.2)
 |.bin o a b,m,H=>(aO T a m H).bind fun p=>(aO T b m p.2).bind fun q=>(tT p.1 q.1 o).map fun x=>(x,q.2)
 |.cmp a o b,m,H=>(aO T a m H).bind fun p=>(aO T b m p.2).bind fun q=>(cw T q.2 o p.1 q.1).map fun z=>(.d (.bool z),q.2)
 |.cmp2 a o1 e o2 b,m,H=>(aO T a m H).bind fun p=>(aO T e m p.2).bind fun q=>(cw T q.2 o1 p.1 q.1).bind fun z=>
   pick z ((aO T b m q.2).bind fun u=>(cw T u.2 o2 q.1 u.1).map fun z2=>(.d (.bool z2),u.2)) (some (.d (.bool false),q.2))
 |.and a b,m,H=>(aO T a m H).bind fun p=>(aN p.2 p.1).bind fun t=>pick t (aO T b m p.2) (some p)
 |.or a b,m,H=>(aO T a m H).bind fun p=>(aN p.2 p.1).bind fun t=>pick t (some p) (aO T b m p.2)
 |.not e,m,H=>(aO T e m H).bind fun p=>(aN p.2 p.1).map fun t=>(.d (.bool !t),p.2)
 |.neg e,m,H=>(aO T e m H).bind fun p=>(yk p.1).map fun x=>(x,p.2)
 |.ife t a b,m,H=>(aO T t m H).bind fun p=>(aN p.2 p.1).bind fun z=>pick z (aO T a m p.2) (aO T b m p.2)
 |.tup es,m,H=>(dk T es m H).bind fun p=>(Ds p.1).map fun x=>(x,p.2)
 |.lst mu es,m,H=>(dk T es m H).bind fun p=>x9 mu p.1 p.2
 |.dct ks es,m,H=>(dk T es m (H++[some (.dict [])])).bind fun p=>NQ ks p.1 H.length p.2
 |.bi b es,m,H=>(dk T es m H).bind fun p=>(cz p.2 p.1).bind fun ds=>(mw b ds).map fun z=>(.d z,p.2)
 |.bm b o es,m,H=>(aO T o m H).bind fun p=>(dk T es m p.2).bind fun q=>(IC b p.1 q.1 q.2).map fun x=>(x,q.2)
 |.repl o y z,m,H=>(aO T o m H).bind fun p=>(tj p.1 y z).map fun x=>(x,p.2)
 |.app o e,m,H=>(aO T o m H).bind fun p=>bc (cJ p.2 p.1) ((aO T e m p.2).bind fun q=>mo p.1 q.1 q.2)
 |.pop o z,m,H=>(aO T o m H).bind fun p=>(cellOf p.2 p.1).bind fun q=>(nI z q.2).map fun y=>(y.1,p.2.set q.1 (some y.2))
 |.cemp _ _ it,m,H=>(aO T it m H).bind fun p=>bc (GX p.1) (some (.d (.list []),p.2))
 |.nl,_,H=>some (.el,H)
 |.dic e,m,H=>(aO T e m H).bind fun p=>bc (Gi p.1) (some (.d (.dict []),p.2))
 |_,_,_=>none
termination_by structural x=>x
noncomputable def dk(T:aW):X->aD->Hp->Option (List V×Hp)
 |.nil,_,H=>some ([],H)
 |.cons e es,m,H=>(aO T e m H).bind fun p=>(dk T es m p.2).map fun q=>(p.1::q.1,q.2)
 |_,_,_=>none
termination_by structural x=>x
end
noncomputable def kP(H:Hp)(x:V):V×Hp:=(x,H)
noncomputable def kB(H:Hp)(z:Bool):V×Hp:=(.d (.bool z),H)
noncomputable def kN(H:Hp)(z:Bool):V×Hp:=(.d (.bool !z),H)
noncomputable def kD(H:Hp)(z:D):V×Hp:=(.d z,H)
noncomputable def kI(H:Hp)(i:Option Int):Option Int×Hp:=(i,H)
noncomputable def Ke(p:V×Hp):Option (Option Int×Hp):=(xz p.1).map (kI p.2)
noncomputable def Ql(T:aW)(a:Nat)(p:V×Hp):Option (V×Hp):=(ej T p.2 p.1 a).map (kP p.2)
noncomputable def Gu(T:aW)(o:V)(q:V×Hp):Option (V×Hp):=(uO T q.2 o q.1).map (kP q.2)
noncomputable def Qt(T:aW)(i:X)(m:aD)(p:V×Hp):Option (V×Hp):=(aO T i m p.2).bind (Gu T p.1)
noncomputable def Gw(o:V)(l:Option Int)(u:Option Int×Hp):Option (V×Hp):=(L8 o l u.1).map (kP u.2)
noncomputable def Gv(T:aW)(hi:X)(m:aD)(o:V)(l:Option Int×Hp):Option (V×Hp):=(eE hi.isNon (aO T hi m l.2) l.2).bind (Gw o l.1)
noncomputable def Qx(T:aW)(lo hi:X)(m:aD)(p:V×Hp):Option (V×Hp):=(eE lo.isNon (aO T lo m p.2) p.2).bind (Gv T hi m p.1)
noncomputable def xP(o:e7)(x:V)(q:V×Hp):Option (V×Hp):=(tT x q.1 o).map (kP q.2)
noncomputable def Kc(T:aW)(o:e7)(b:X)(m:aD)(p:V×Hp):Option (V×Hp):=(aO T b m p.2).bind (xP o p.1)
noncomputable def B6(T:aW)(o:eY)(x:V)(q:V×Hp):Option (V×Hp):=(cw T q.2 o x q.1).map (kB q.2)
noncomputable def Qr(T:aW)(o:eY)(b:X)(m:aD)(p:V×Hp):Option (V×Hp):=(aO T b m p.2).bind (B6 T o p.1)
noncomputable def Gs(T:aW)(o2:eY)(b:X)(m:aD)(y:V)(H:Hp)(z:Bool):Option (V×Hp):=pick z ((aO T b m H).bind (B6 T o2 y)) (some (.d (.bool false),H))
noncomputable def Gr(T:aW)(o1 o2:eY)(b:X)(m:aD)(x:V)(q:V×Hp):Option (V×Hp):=(cw T q.2 o1 x q.1).bind (Gs T o2 b m q.1 q.2)
noncomputable def Qp(T:aW)(o1:eY)(e:X)(o2:eY)(b:X)(m:aD)(p:V×Hp):Option (V×Hp):=(aO T e m p.2).bind (Gr T o1 o2 b m p.1)
noncomputable def ss(T:aW)(b:X)(m:aD)(v:V)(H:Hp)(t:Bool):Option (V×Hp):=pick t (aO T b m H) (some (v,H))
noncomputable def Kb(T:aW)(b:X)(m:aD)(p:V×Hp):Option (V×Hp):=(aN p.2 p.1).bind (ss T b m p.1 p.2)
noncomputable def B7(T:aW)(b:X)(m:aD)(v:V)(H:Hp)(t:Bool):Option (V×Hp):=pick t (some (v,H)) (aO T b m H)
noncomputable def Qu(T:aW)(b:X)(m:aD)(p:V×Hp):Option (V×Hp):=(aN p.2 p.1).bind (B7 T b m p.1 p.2)
noncomputable def Kh(p:V×Hp):Option (V×Hp):=(aN p.2 p.1).map (kN p.2)
noncomputable def Kg(p:V×Hp):Option (V×Hp):=(yk p.1).map (kP p.2)
noncomputable def Ki(p:List V×Hp):Option (V×Hp):=(Ds p.1).map (kP p.2)
noncomputable def Kf(mu:Nat)(p:List V×Hp):Option (V×Hp):=x9 mu p.1 p.2
noncomputable def Gp(b:Bi)(H:Hp)(ds:List D):Option (V×Hp):=(mw b ds).map (kD H)
noncomputable def Qm(b:Bi)(p:List V×Hp):Option (V×Hp):=(cz p.2 p.1).bind (Gp b p.2)
noncomputable def Gq(b:Bi)(o:V)(q:List V×Hp):Option (V×Hp):=(IC b o q.1 q.2).map (kP q.2)
noncomputable def Qn(T:aW)(b:Bi)(es:X)(m:aD)(p:V×Hp):Option (V×Hp):=(dk T es m p.2).bind (Gq b p.1)
noncomputable def Qw(y z:SQ)(p:V×Hp):Option (V×Hp):=(tj p.1 y z).map (kP p.2)
noncomputable def Go(o:V)(q:V×Hp):Option (V×Hp):=mo o q.1 q.2
noncomputable def Qj(T:aW)(e:X)(m:aD)(p:V×Hp):Option (V×Hp):=bc (cJ p.2 p.1) ((aO T e m p.2).bind (Go p.1))
noncomputable def Qq(p:V×Hp):Option (V×Hp):=bc (GX p.1) (some (.d (.list []),p.2))
noncomputable def Kd(v:V)(q:List V×Hp):List V×Hp:=(v::q.1,q.2)
noncomputable def Qs(T:aW)(es:X)(m:aD)(p:V×Hp):Option (List V×Hp):=(dk T es m p.2).map (Kd p.1)
section
variable {T:aW}{m:aD}{H:Hp}{v w:V}{vs:List V}{a b d e es:X}{o:eY}{p:e7}
theorem JS{d:D}:aO T (X.c d) m H=some (.d d,H):=rfl
theorem JU{i:Nat}:aO T (X.v i) m H=(lk i m).map (kP H):=rfl
theorem JT{k:Nat}:aO T (X.g k) m H=T.gl[k]?.map (kP H):=rfl
theorem FI{i:Nat}:aO T (X.at e i) m H=(aO T e m H).bind (Ql T i):=rfl
theorem FM:aO T (X.ix e a) m H=(aO T e m H).bind (Qt T a m):=rfl
theorem FO:aO T (X.sl e a b) m H=(aO T e m H).bind (Qx T a b m):=rfl
theorem Bc:aO T (X.bin p a b) m H=(aO T a m H).bind (Kc T p b m):=rfl
theorem Bd:aO T (X.cmp a o b) m H=(aO T a m H).bind (Qr T o b m):=rfl
theorem wY{o2:eY}:aO T (X.cmp2 a o e o2 b) m H=(aO T a m H).bind (Qp T o e o2 b m):=rfl
theorem Ba:aO T (X.and a b) m H=(aO T a m H).bind (Kb T b m):=rfl
theorem FN:aO T (X.or a b) m H=(aO T a m H).bind (Qu T b m):=rfl
theorem Bg:aO T (X.not e) m H=(aO T e m H).bind Kh:=rfl
theorem Bf:aO T (X.neg e) m H=(aO T e m H).bind Kg:=rfl
theorem Bh:aO T (X.tup es) m H=(dk T es m H).bind Ki:=rfl
theorem Be{mu:Nat}:aO T (X.lst mu es) m H=(dk T es m H).bind (Kf mu):=rfl
theorem FJ{b:Bi}:aO T (X.bi b es) m H=(dk T es m H).bind (Qm b):=rfl
theorem FK{b:Bi}:aO T (X.bm b e es) m H=(aO T e m H).bind (Qn T b es m):=rfl
theorem wZ{y z:SQ}:aO T (X.repl e y z) m H=(aO T e m H).bind (Qw y z):=rfl
theorem wW{fs:SQ}{i:Nat}:aO T (X.cemp fs i e) m H=(aO T e m H).bind Qq:=rfl
theorem Bb:aO T (X.app e a) m H=(aO T e m H).bind (Qj T a m):=rfl
theorem w4:dk T (X.nil) m H=some ([],H):=rfl
theorem t8:dk T (X.cons e es) m H=(aO T e m H).bind (Qs T es m):=rfl
theorem Sd:kP H v=(v,H):=rfl
theorem RZ{z:Bool}:kB H z=(.d (.bool z),H):=rfl
theorem Sc{z:Bool}:kN H z=(.d (.bool !z),H):=rfl
theorem Sa{z:D}:kD H z=(.d z,H):=rfl
theorem Sb{i:Option Int}:kI H i=(i,H):=rfl
theorem Kr:Ke (v,H)=(xz v).map (kI H):=rfl
theorem Ou{i:Nat}:Ql T i (v,H)=(ej T H v i).map (kP H):=rfl
theorem OD:Qt T e m (v,H)=(aO T e m H).bind (Gu T v):=rfl
theorem Kt:Gu T v (w,H)=(uO T H v w).map (kP H):=rfl
theorem OG:Qx T a b m (v,H)=(eE a.isNon (aO T a m H) H).bind (Gv T b m v):=rfl
theorem Kz{l:Option Int}:Gv T b m v (l,H)=(eE b.isNon (aO T b m H) H).bind (Gw v l):=rfl
theorem KA{l u:Option Int}:Gw v l (u,H)=(L8 v l u).map (kP H):=rfl
theorem Km:Kc T p b m (v,H)=(aO T b m H).bind (xP p v):=rfl
theorem Gx:xP p v (w,H)=(tT v w p).map (kP H):=rfl
theorem OB:Qr T o b m (v,H)=(aO T b m H).bind (B6 T o v):=rfl
theorem Kq:B6 T o v (w,H)=(cw T H o v w).map (kB H):=rfl
theorem Oz{o2:eY}:Qp T o e o2 b m (v,H)=(aO T e m H).bind (Gr T o o2 b m v):=rfl
theorem Ko{o2:eY}:Gr T o o2 b m v (w,H)=(cw T H o v w).bind (Gs T o2 b m w H):=rfl
theorem Kp:Gs T o b m v H false=some (.d (.bool false),H):=rfl
theorem Kj:Kb T b m (v,H)=(aN H v).bind (ss T b m v H):=rfl
theorem B9:ss T b m v H true=aO T b m H:=rfl
theorem B8:ss T b m v H false=some (v,H):=rfl
theorem OE:Qu T b m (v,H)=(aN H v).bind (B7 T b m v H):=rfl
theorem GB:B7 T b m v H true=some (v,H):=rfl
theorem GA:B7 T b m v H false=aO T b m H:=rfl
theorem Ky:Kh (v,H)=(aN H v).map (kN H):=rfl
theorem Kx:Kg (v,H)=(yk v).map (kP H):=rfl
theorem KB:Ki (vs,H)=(Ds vs).map (kP H):=rfl
theorem GD:Ds vs=(dZ vs).bind Ii:=rfl
theorem GC{ds:List D}:Ii ds=bc (jm ds.length 99) (some (.d (.tuple ds))):=rfl
theorem Kw{mu:Nat}:Kf mu (vs,H)=x9 mu vs H:=rfl
theorem Gy:x9 0 vs H=(dZ vs).bind (GN H):=rfl
theorem Gz:x9 1 vs H=(dZ vs).bind (GO H):=rfl
theorem Ku{ds:List D}:GN H ds=bc (jm ds.length 99) (some (.d (.list ds),H)):=rfl
theorem Kv{ds:List D}:GO H ds=bc (jm ds.length 99) (some (.r H.length,H++[some (.dlist ds)])):=rfl
theorem Ov{b:Bi}:Qm b (vs,H)=(cz H vs).bind (Gp b H):=rfl
theorem Kl{b:Bi}{ds:List D}:Gp b H ds=(mw b ds).map (kD H):=rfl
theorem Ow{b:Bi}:Qn T b es m (v,H)=(dk T es m H).bind (Gq b v):=rfl
theorem Kn{b:Bi}:Gq b v (vs,H)=(IC b v vs H).map (kP H):=rfl
theorem OF{y z:SQ}:Qw y z (v,H)=(tj v y z).map (kP H):=rfl
theorem Os:Qj T e m (v,H)=bc (cJ H v) ((aO T e m H).bind (Go v)):=rfl
theorem OA:Qq (v,H)=bc (GX v) (some (.d (.list []),H)):=rfl
theorem Kk:Go v (w,H)=mo v w H:=rfl
theorem Oy:Kd v (vs,H)=(v::vs,H):=rfl
theorem OC:Qs T es m (v,H)=(dk T es m H).map (Kd v):=rfl
theorem uK:X.isNon .non=true:=rfl
theorem BQ{d:D}:X.isNon (.c d)=false:=rfl
theorem BR{i:Nat}:X.isNon (.v i)=false:=rfl
theorem xK{i:Nat}:X.isNon (X.at e i)=false:=rfl
theorem uI:X.isNon (.bin p a b)=false:=rfl
theorem uJ:X.isNon (.neg a)=false:=rfl
theorem wU{w:Option (V×Hp)}:eE true w H=some (none,H):=rfl
theorem wT{w:Option (V×Hp)}:eE false w H=w.bind Ke:=rfl
end
section
variable {c:Cx}{T:aW}{r:Nat}
def bh(c:Cx)(T:aW)(r:Nat)(x:X):Prop:=∀m H p (Q:SV),aO T x m H=some p->Q p.1 p.2->wX c T r x m H Q
def gp(c:Cx)(T:aW)(r:Nat)(x:X):Prop:=∀m H p (Q:List V->Hp->Prop),dk T x m H=some p->Q p.1 p.2->kY c T r x m H Q
theorem av{α:Type}{o:Option α}{x:α}{K:α->Prop}(e:o=some x)(k:K x):ok o K:=by rw[e];exact k
theorem aJ{α β:Type}{o:Option α}{f:α->Option β}{z:β}(e:o.bind f=some z):∃a,o=some a/\f a=some z:=Option.bind_eq_some_iff.mp e
theorem bl{α β:Type}{o:Option α}{f:α->β}{z:β}(e:o.map f=some z):∃a,o=some a/\f a=z:=ai e
theorem pd{α:Type}{p:Prop}[Decidable p]{a:α}{z:α}(e:(if p then some a else none)=some z):p/\a=z:=by
 by_cases h:p
 ·exact⟨h,aj ((au h).symm.trans e)⟩
 ·cases (ar h).symm.trans e
theorem te{x:X}(hx:bh c T r x){m:aD}{H:Hp}{p:Option Int×Hp}{Q:Option Int->Hp->Prop}(e:eE x.isNon (aO T x m H) H=some p)(q:Q p.1 p.2):tC x.isNon (wX c T r x) m H Q:=by
 cases hb:x.isNon with
 |true=>rw[hb] at e;cases e;exact q
 |false=>
  rw[hb] at e
  obtain⟨p1,h1,h2⟩:=aJ e
  obtain⟨i,h3,rfl⟩:=bl h2
  exact hx _ _ _ _ h1 (av h3 q)
section
variable {a b d t es lo hi:X}
theorem JX{i:Nat}:bh c T r (.v i):=fun m H p Q e q=>by
 obtain⟨x,h,rfl⟩:=bl e
 exact av h q
theorem JW{k:Nat}:bh c T r (.g k):=fun m H p Q e q=>by
 obtain⟨x,h,rfl⟩:=bl e
 exact av h q
theorem FQ{i:Nat}(h1:bh c T r a):bh c T r (X.at a i):=fun m H p Q e q=>by
 obtain⟨p1,e1,e⟩:=aJ e
 obtain⟨x,h,rfl⟩:=bl e
 exact h1 _ _ _ _ e1 (av h q)
theorem FV(h1:bh c T r a)(h2:bh c T r b):bh c T r (.ix a b):=fun m H p Q e q=>by
 obtain⟨p1,e1,e⟩:=aJ e
 obtain⟨p2,e2,e⟩:=aJ e
 obtain⟨x,h,rfl⟩:=bl e
 exact h1 _ _ _ _ e1 (h2 _ _ _ _ e2 (av h q))
theorem HQ{o:V}{l u:Option Int}{z:V}{H:Hp}{Q:SV}(e:L8 o l u=some z)(q:Q z H):(match (generalizing:=false) o with|.d x=>ok (EN x l u) fun z=>Q (.d z) H|_=>False):=by
 cases o with
 |d y=>obtain⟨z,hz,rfl⟩:=bl e;exact av hz q
 |_=>nomatch e
theorem FX(h1:bh c T r a)(h2:bh c T r lo)(h3:bh c T r hi):bh c T r (.sl a lo hi):=fun m H p Q e q=>by
 obtain⟨p1,e1,e⟩:=aJ e
 obtain⟨p2,e2,e⟩:=aJ e
 obtain⟨p3,e3,e⟩:=aJ e
 obtain⟨x,h,rfl⟩:=bl e
 exact h1 _ _ _ _ e1 (te h2 e2 (te h3 e3 (HQ h q)))
theorem Ay{o:e7}{x y z:V}{H:Hp}{Q:SV}(e:tT x y o=some z)(q:Q z H):(match (generalizing:=false) x,y with|.d x,.d y=>ok (fS o x y) fun z=>Q (.d z) H|_,_=>False):=by
 cases x with
 |d x=>
  cases y with
  |d y=>obtain⟨z,hz,rfl⟩:=bl e;exact av hz q
  |_=>nomatch e
 |_=>nomatch e
theorem Bl{o:e7}(h1:bh c T r a)(h2:bh c T r b):bh c T r (.bin o a b):=fun m H p Q e q=>by
 obtain⟨p1,e1,e⟩:=aJ e
 obtain⟨p2,e2,e⟩:=aJ e
 obtain⟨x,h,rfl⟩:=bl e
 exact h1 _ _ _ _ e1 (h2 _ _ _ _ e2 (Ay h q))
theorem Bm{o:eY}(h1:bh c T r a)(h2:bh c T r b):bh c T r (.cmp a o b):=fun m H p Q e q=>by
 obtain⟨p1,e1,e⟩:=aJ e
 obtain⟨p2,e2,e⟩:=aJ e
 obtain⟨x,h,rfl⟩:=bl e
 exact h1 _ _ _ _ e1 (h2 _ _ _ _ e2 (av h q))
theorem w9{o1 o2:eY}(h1:bh c T r a)(h2:bh c T r b)(h3:bh c T r d):bh c T r (.cmp2 a o1 b o2 d):=fun m H p Q e q=>by
 obtain⟨p1,e1,e⟩:=aJ e
 obtain⟨p2,e2,e⟩:=aJ e
 obtain⟨z,h,e⟩:=aJ e
 refine h1 _ _ _ _ e1 (h2 _ _ _ _ e2 (av h ?_))
 cases z with
 |true=>
  obtain⟨p3,e3,e⟩:=aJ e
  obtain⟨x,h4,rfl⟩:=bl e
  exact h3 _ _ _ _ e3 (av h4 q)
 |false=>cases e;exact q
theorem Bj(h1:bh c T r a)(h2:bh c T r b):bh c T r (.and a b):=fun m H p Q e q=>by
 obtain⟨p1,e1,e⟩:=aJ e
 obtain⟨z,h,e⟩:=aJ e
 refine h1 _ _ _ _ e1 (av h ?_)
 cases z with
 |true=>exact h2 _ _ _ _ e q
 |false=>cases e;exact q
theorem FW(h1:bh c T r a)(h2:bh c T r b):bh c T r (.or a b):=fun m H p Q e q=>by
 obtain⟨p1,e1,e⟩:=aJ e
 obtain⟨z,h,e⟩:=aJ e
 refine h1 _ _ _ _ e1 (av h ?_)
 cases z with
 |true=>cases e;exact q
 |false=>exact h2 _ _ _ _ e q
theorem Bt(h1:bh c T r a):bh c T r (.not a):=fun m H p Q e q=>by
 obtain⟨p1,e1,e⟩:=aJ e
 obtain⟨z,h,rfl⟩:=bl e
 exact h1 _ _ _ _ e1 (av h q)
theorem Cz{x z:V}{H:Hp}{Q:SV}(e:yk x=some z)(q:Q z H):(match (generalizing:=false) x with|.d (.int i)=>Q (.d (.int (-i))) H|_=>False):=by
 cases x with
 |d x=>cases x with
  |int i=>cases e;exact q
  |_=>nomatch e
 |_=>nomatch e
theorem Br(h1:bh c T r a):bh c T r (.neg a):=fun m H p Q e q=>by
 obtain⟨p1,e1,e⟩:=aJ e
 obtain⟨z,h,rfl⟩:=bl e
 exact h1 _ _ _ _ e1 (Cz h q)
theorem Bo(h1:bh c T r a):bh c T r (.dic a):=fun m H p Q e q=>by
 obtain⟨p1,e1,e⟩:=aJ e
 obtain⟨hg,rfl⟩:=aX e
 exact h1 _ _ _ _ e1 ⟨sj hg,q⟩
theorem Bp(h1:bh c T r t)(h2:bh c T r a)(h3:bh c T r b):bh c T r (.ife t a b):=fun m H p Q e q=>by
 obtain⟨p1,e1,e⟩:=aJ e
 obtain⟨z,h,e⟩:=aJ e
 refine h1 _ _ _ _ e1 (av h ?_)
 cases z with
 |true=>exact h2 _ _ _ _ e q
 |false=>exact h3 _ _ _ _ e q
theorem oN{n:Nat}(h:jm n 99=true):n<=16777216:=ak (fj h) (by decide)
theorem Bv(h1:gp c T r es):bh c T r (.tup es):=fun m H p Q e q=>by
 obtain⟨p1,e1,e⟩:=aJ e
 obtain⟨z,h,rfl⟩:=bl e
 obtain⟨ds,hd,h⟩:=aJ h
 obtain⟨hl,rfl⟩:=aX h
 exact h1 _ _ _ _ e1 (av hd ⟨oN hl,q⟩)
theorem Bq{mu:Nat}(h1:gp c T r es):bh c T r (.lst mu es):=fun m H p Q e q=>by
 obtain⟨p1,e1,e⟩:=aJ e
 refine h1 _ _ _ _ e1 ?_
 rcases mu with _|_|mu
 ·obtain⟨ds,hd,h⟩:=aJ e
  obtain⟨hl,rfl⟩:=aX h
  exact av hd ⟨oN hl,q⟩
 ·obtain⟨ds,hd,h⟩:=aJ e
  obtain⟨hl,rfl⟩:=aX h
  exact av hd ⟨oN hl,q⟩
 ·obtain⟨hl,rfl⟩:=aX e
  exact⟨oN hl,q⟩
theorem si{x:Option (Option Cell)}(h:BL x=true):x=some (some (.dict [])):=by
 rcases x with _|_|cl
 ·nomatch h
 ·nomatch h
 ·cases cl with
  |dict fs=>cases fs with
   |nil=>rfl
   |cons=>nomatch h
  |_=>nomatch h
theorem Bn{ks:SQ}(h1:gp c T r es):bh c T r (.dct ks es):=fun m H p Q e q=>by
 obtain⟨p1,e1,e⟩:=aJ e
 obtain⟨hg,rfl⟩:=aX e
 have g2:=ay (ay hg).2
 exact h1 _ _ _ _ e1 ⟨si (ay hg).1,pI g2.1,fj g2.2,q⟩
theorem FS{k:Bi}(h1:gp c T r es):bh c T r (.bi k es):=fun m H p Q e q=>by
 obtain⟨p1,e1,e⟩:=aJ e
 obtain⟨ds,h,e⟩:=aJ e
 obtain⟨z,h2,rfl⟩:=bl e
 exact h1 _ _ _ _ e1 (av h (av h2 q))
theorem FU{k:Bi}(h1:bh c T r a)(h2:gp c T r es):bh c T r (.bm k a es):=fun m H p Q e q=>by
 obtain⟨⟨x,H1⟩,e1,e⟩:=aJ e
 obtain⟨p2,e2,e⟩:=aJ e
 obtain⟨z,h,rfl⟩:=bl e
 refine h1 _ _ _ _ e1 ?_
 cases x with
 |d x=>cases x with
  |str x=>
   obtain⟨ds,h3,e⟩:=aJ h
   obtain⟨w,h4,rfl⟩:=bl e
   exact h2 _ _ _ _ e2 (av h3 (av h4 q))
  |_=>nomatch h
 |_=>nomatch h
theorem xb{y z:SQ}(h1:bh c T r a):bh c T r (.repl a y z):=fun m H p Q e q=>by
 obtain⟨⟨x,H1⟩,e1,e⟩:=aJ e
 obtain⟨z,h,rfl⟩:=bl e
 refine h1 _ _ _ _ e1 ?_
 cases x with
 |d x=>cases x with
  |str x=>obtain⟨hl,rfl⟩:=pd h;exact⟨hl,q⟩
  |_=>nomatch h
 |_=>nomatch h
theorem Bk(h1:bh c T r a)(h2:bh c T r b):bh c T r (.app a b):=fun m H p Q e q=>by
 obtain⟨p1,e1,e⟩:=aJ e
 cases hl:cJ p1.2 p1.1 with
 |true=>
  rw[hl] at e
  obtain⟨p2,e2,e⟩:=aJ (o:=aO T b m p1.2) e
  obtain⟨p3,h3,e⟩:=aJ e
  obtain⟨cl,h4,rfl⟩:=bl e
  exact h1 _ _ _ _ e1 ⟨hl,h2 _ _ _ _ e2 (av h3 (av h4 q))⟩
 |false=>rw[hl] at e;nomatch e
theorem Bu{z:Bool}(h1:bh c T r a):bh c T r (.pop a z):=fun m H p Q e q=>by
 obtain⟨p1,e1,e⟩:=aJ e
 obtain⟨p3,h3,e⟩:=aJ e
 obtain⟨y,h4,rfl⟩:=bl e
 exact h1 _ _ _ _ e1 (av h3 (av h4 q))
theorem w8{fs:SQ}{i:Nat}(h1:bh c T r a):bh c T r (.cemp fs i a):=fun m H p Q e q=>by
 obtain⟨p1,e1,e⟩:=aJ e
 obtain⟨h3,rfl⟩:=aX e
 exact h1 _ _ _ _ e1 ⟨h3,q⟩
theorem xa(h1:bh c T r a)(h2:gp c T r b):gp c T r (.cons a b):=fun m H p Q e q=>by
 obtain⟨p1,e1,e⟩:=aJ e
 obtain⟨p2,e2,rfl⟩:=bl e
 exact h1 _ _ _ _ e1 (h2 _ _ _ _ e2 q)
theorem aV{x:X}(h:∀m H,dk T x m H=none):gp c T r x:=fun m H p Q e=>by rw[h] at e;nomatch e
theorem dO{x:X}(h:∀m H,aO T x m H=none):bh c T r x:=fun m H p Q e=>by rw[h] at e;nomatch e
end
theorem Qd(x:X):bh c T r x/\gp c T r x:=by
 induction x with
 |c d=>exact⟨fun m H p Q e q=>by cases e;exact q,aV fun _ _=>rfl⟩
 |v i=>exact⟨JX,aV fun _ _=>rfl⟩
 |g k=>exact⟨JW,aV fun _ _=>rfl⟩
 |«at» a i h1=>exact⟨FQ h1.1,aV fun _ _=>rfl⟩
 |ix a i h1 h2=>exact⟨FV h1.1 h2.1,aV fun _ _=>rfl⟩
 |sl a lo hi h1 h2 h3=>exact⟨FX h1.1 h2.1 h3.1,aV fun _ _=>rfl⟩
 |bin o a b h1 h2=>exact⟨Bl h1.1 h2.1,aV fun _ _=>rfl⟩
 |cmp a o b h1 h2=>exact⟨Bm h1.1 h2.1,aV fun _ _=>rfl⟩
 |cmp2 a o1 b o2 d h1 h2 h3=>exact⟨w9 h1.1 h2.1 h3.1,aV fun _ _=>rfl⟩
 |and a b h1 h2=>exact⟨Bj h1.1 h2.1,aV fun _ _=>rfl⟩
 |or a b h1 h2=>exact⟨FW h1.1 h2.1,aV fun _ _=>rfl⟩
 |not a h1=>exact⟨Bt h1.1,aV fun _ _=>rfl⟩
 |neg a h1=>exact⟨Br h1.1,aV fun _ _=>rfl⟩
 |ife t a b h1 h2 h3=>exact⟨Bp h1.1 h2.1 h3.1,aV fun _ _=>rfl⟩
 |tup es h1=>exact⟨Bv h1.2,aV fun _ _=>rfl⟩
 |lst mu es h1=>exact⟨Bq h1.2,aV fun _ _=>rfl⟩
 |dct ks es h1=>exact⟨Bn h1.2,aV fun _ _=>rfl⟩
 |comp elt i it t=>exact⟨dO fun _ _=>rfl,aV fun _ _=>rfl⟩
 |f i=>exact⟨dO fun _ _=>rfl,aV fun _ _=>rfl⟩
 |compE fs elt i j es t=>exact⟨dO fun _ _=>rfl,aV fun _ _=>rfl⟩
 |bi b es h1=>exact⟨FS h1.2,aV fun _ _=>rfl⟩
 |bm b o es h1 h2=>exact⟨FU h1.1 h2.2,aV fun _ _=>rfl⟩
 |repl o y z h1=>exact⟨xb h1.1,aV fun _ _=>rfl⟩
 |pop o z h1=>exact⟨Bu h1.1,aV fun _ _=>rfl⟩
 |cemp fs i o h1=>exact⟨w8 h1.1,aV fun _ _=>rfl⟩
 |app o a h1 h2=>exact⟨Bk h1.1 h2.1,aV fun _ _=>rfl⟩
 |call k es=>exact⟨dO fun _ _=>rfl,aV fun _ _=>rfl⟩
 |mc o a es=>exact⟨dO fun _ _=>rfl,aV fun _ _=>rfl⟩
 |nl=>exact⟨fun m H p Q e q=>by cases e;exact q,aV fun _ _=>rfl⟩
 |dic e h1=>exact⟨Bo h1.1,aV fun _ _=>rfl⟩
 |nil=>exact⟨dO fun _ _=>rfl,fun m H p Q e q=>by cases e;exact q⟩
 |cons a b h1 h2=>exact⟨dO fun _ _=>rfl,xa h1.1 h2.2⟩
 |non=>exact⟨dO fun _ _=>rfl,aV fun _ _=>rfl⟩
theorem ev{x:X}{m:aD}{H:Hp}{v:V}{H':Hp}{Q:SV}(e:aO T x m H=some (v,H'))(q:Q v H'):wX c T r x m H Q:=(Qd x).1 _ _ _ _ e q
theorem Qg{x:X}{m:aD}{H:Hp}{v:List V}{H':Hp}{Q:List V->Hp->Prop}(e:dk T x m H=some (v,H'))(q:Q v H'):kY c T r x m H Q:=(Qd x).2 _ _ _ _ e q
end
mutual
noncomputable def qG(T:aW):Tg->V->aD->Hp->Option (aD×Hp)
 |.nm i,x,m,H=>some (pk i x m,H)
 |.at e a,x,m,H=>(aO T e m H).bind fun p=>(dG T p.2 p.1 a x).map fun H2=>(m,H2)
 |.ix e i,x,m,H=>(aO T e m H).bind fun p=>(aO T i m p.2).bind fun q=>(hV T q.2 p.1 q.1 x).map fun H2=>(m,H2)
 |.tup ts,x,m,H=>match x with
  |.d d=>(b8 d).bind fun ds=>if ds.length=ts.len then rZ T ts ds m H else none
  |_=>none
 |_,_,_,_=>none
termination_by structural t=>t
noncomputable def rZ(T:aW):Tg->List D->aD->Hp->Option (aD×Hp)
 |.tnil,ds,m,H=>match ds with
  |[]=>some (m,H)
  |_=>none
 |.tcons t ts,ds,m,H=>match ds with
  |d::ds=>(qG T t (.d d) m H).bind fun p=>rZ T ts ds p.1 p.2
  |[]=>none
 |_,_,_,_=>none
termination_by structural t=>t
end
section
variable {c:Cx}{T:aW}{r k:Nat}{m:aD}{H:Hp}
noncomputable def Oq(m:aD)(H:Hp):aD×Hp:=(m,H)
noncomputable def Qy(T:aW)(a:Nat)(x:V)(m:aD)(p:V×Hp):Option (aD×Hp):=(dG T p.2 p.1 a x).map (Oq m)
noncomputable def RY(T:aW)(ts:Tg)(m:aD)(H:Hp)(ds:List D):Option (aD×Hp):=if ds.length=ts.len then rZ T ts ds m H else none
theorem A9{i:Nat}{x:V}:qG T (.nm i) x m H=some (pk i x m,H):=rfl
theorem A8{e:X}{a:Nat}{x:V}:qG T (Tg.at e a) x m H=(aO T e m H).bind (Qy T a x m):=rfl
theorem wV{ts:Tg}{d:D}:qG T (.tup ts) (.d d) m H=(b8 d).bind (RY T ts m H):=rfl
theorem OI:Oq m H=(m,H):=rfl
theorem OH{a:Nat}{x v:V}:Qy T a x m (v,H)=(dG T H v a x).map (Oq m):=rfl
theorem SO:∀t:Tg,(∀x m H m' H' (Q:aD->Hp->Prop),qG T t x m H=some (m',H')->Q m' H'->rB c T r t x m H Q)/\(∀ds m H m' H' (Q:aD->Hp->Prop),rZ T t ds m H=some (m',H')->Q m' H'->Ae c T r t ds m H Q):=by
 intro t
 induction t with
 |nm i=>exact⟨fun x m H m' H' Q e q=>(by cases e;exact q),fun ds m H m' H' Q e q=>(by nomatch e)⟩
 |«at» a i=>
  refine⟨fun x m H m' H' Q e q=>?_,fun ds m H m' H' Q e q=>(by nomatch e)⟩
  obtain⟨⟨o,H1⟩,h1,e⟩:=Option.bind_eq_some_iff.mp e
  refine cY e fun y h e=>?_
  cases e
  exact ev h1 (av h q)
 |ix a i=>
  refine⟨fun x m H m' H' Q e q=>?_,fun ds m H m' H' Q e q=>(by nomatch e)⟩
  obtain⟨⟨o,H1⟩,h1,e⟩:=Option.bind_eq_some_iff.mp e
  obtain⟨⟨j,H2⟩,h2,e⟩:=Option.bind_eq_some_iff.mp e
  refine cY e fun y h e=>?_
  cases e
  exact ev h1 (ev h2 (av h q))
 |tup ts ih=>
  refine⟨fun x m H m' H' Q e q=>?_,fun ds m H m' H' Q e q=>(by nomatch e)⟩
  cases x with
  |d d=>
   refine ax e fun ds hd e=>?_
   split at e
   ·exact av hd ⟨‹_›,ih.2 _ _ _ _ _ _ e q⟩
   ·nomatch e
  |_=>nomatch e
 |tnil=>exact⟨fun x m H m' H' Q e q=>(by nomatch e),fun ds m H m' H' Q e q=>(by
   cases ds with
   |nil=>cases e;exact⟨rfl,q⟩
   |cons=>cases e)⟩
 |tcons t ts h1 h2=>
  refine⟨fun x m H m' H' Q e q=>(by nomatch e),fun ds m H m' H' Q e q=>?_⟩
  cases ds with
  |nil=>nomatch e
  |cons d ds=>
   obtain⟨⟨m1,H1⟩,e1,e⟩:=Option.bind_eq_some_iff.mp e
   exact h1.1 _ _ _ _ _ _ e1 (h2.2 _ _ _ _ _ _ e q)
theorem tg{t:Tg}{x:V}{m':aD}{H':Hp}{Q:aD->Hp->Prop}(e:qG T t x m H=some (m',H'))(q:Q m' H'):rB c T r t x m H Q:=(SO t).1 _ _ _ _ _ _ e q
variable {Q:Fl->aD->Hp->Prop}{rest:S}
theorem aF(q:Q .next m H):wS c T r k .nil m H Q:=q
theorem aK{t:Tg}{e:X}{v:V}{H1 H2:Hp}{m1:aD}(h1:aO T e m H=some (v,H1))(h2:qG T t v m H1=some (m1,H2))(h:wS c T r k rest m1 H2 Q):wS c T r k (.seq (.asg t e) rest) m H Q:=ev h1 (tg h2 h)
theorem iY{e:X}{v:V}{H1:Hp}(h1:aO T e m H=some (v,H1))(h:wS c T r k rest m H1 Q):wS c T r k (.seq (.ex e) rest) m H Q:=ev h1 h
theorem iX{i:Nat}{o:e7}{e:X}{old d z:D}{H1:Hp}(h0:(lk i m).bind dV=some old)(h1:aO T e m H=some (.d d,H1))(h2:fY o old d=some z)(h:wS c T r k rest (pk i (.d z) m) H1 Q):wS c T r k (.seq (.augN i o e) rest) m H Q:=
 av h0 (ev h1 (av rfl (av h2 h)))
theorem ED{i:Nat}{e:X}{o v:V}{p:Nat×Cell}{H1:Hp}(h0:lk i m=some o)(h1:aO T e m H=some (v,H1))(h2:xc H1 o v=some p)(h:wS c T r k rest (pk i o m) (H1.set p.1 (some p.2)) Q):wS c T r k (.seq (.ext i e) rest) m H Q:=av h0 (ev h1 (av h2 h))
theorem yY{b:X}{a:Nat}{o:e7}{e:X}{ov:V}{old d z:D}{H1 H2 H3:Hp}(h0:aO T b m H=some (ov,H1))(ho:(ej T H1 ov a).bind dV=some old)(h1:aO T e m H1=some (.d d,H2))(h2:fY o old d=some z)(h3:dG T H2 ov a (.d z)=some H3)(h:wS c T r k rest m H3 Q):wS c T r k (.seq (.augA b a o e) rest) m H Q:=
 ev h0 (av ho (ev h1 (av rfl (av h2 (av h3 h)))))
theorem cm{e:X}{v:V}{H1:Hp}(hb:e.isNon=false)(h1:aO T e m H=some (v,H1))(q:Q (.ret v) m H1):wS c T r k (.seq (.ret e) rest) m H Q:=by
 show wS.wTestRet e.isNon (wX c T r e) m H fun v H1=>Q (.ret v) m H1
 rw[hb];exact ev h1 q
theorem rd{e:X}(hb:e.isNon=false)(h:wX c T r e m H fun v H1=>Q (.ret v) m H1):wS c T r k (.seq (.ret e) rest) m H Q:=by
 show wS.wTestRet e.isNon (wX c T r e) m H fun v H1=>Q (.ret v) m H1
 rw[hb];exact h
theorem yZ(q:Q .brk m H):wS c T r k (.seq .brk rest) m H Q:=q
theorem Hm{t:X}{v:V}{H1:Hp}(h1:aO T t m H=some (v,H1))(h2:aN H1 v=some true)(h:wS c T r k rest m H1 Q):wS c T r k (.seq (.asrt t) rest) m H Q:=ev h1 ⟨h2,h⟩
def andThen(c:Cx)(T:aW)(r k:Nat)(rest:S)(Q:Fl->aD->Hp->Prop)(fl:Fl)(m:aD)(H:Hp):Prop:=match fl with
 |.next=>wS c T r k rest m H Q
 |f=>Q f m H
theorem dT{t:X}{a b:S}{v:V}{z:Bool}{H1:Hp}(h1:aO T t m H=some (v,H1))(h2:aN H1 v=some z)(ha:z=true->wS c T r k a m H1 (andThen c T r k rest Q))(hb:z=false->wS c T r k b m H1 (andThen c T r k rest Q)):wS c T r k (.seq (.ite t a b) rest) m H Q:=by
 refine ev h1 (av h2 ?_)
 cases z with
 |true=>rw[au rfl];exact ha rfl
 |false=>rw[ar (by decide)];exact hb rfl
theorem cb{t:X}{a b:S}{v:V}{H1:Hp}(h1:aO T t m H=some (v,H1))(h2:aN H1 v=some true)(h:wS c T r k a m H1 (andThen c T r k rest Q)):wS c T r k (.seq (.ite t a b) rest) m H Q:=dT h1 h2 (fun _=>h) fun q=>nomatch q
theorem be{t:X}{a b:S}{v:V}{H1:Hp}(h1:aO T t m H=some (v,H1))(h2:aN H1 v=some false)(h:wS c T r k b m H1 (andThen c T r k rest Q)):wS c T r k (.seq (.ite t a b) rest) m H Q:=dT h1 h2 (fun q=>nomatch q) fun _=>h
theorem gg{t:X}{a b:S}(h:wX c T r t m H fun v H1=>ok (aN H1 v) fun z=>if z=true then wS c T r k a m H1 (andThen c T r k rest Q) else wS c T r k b m H1 (andThen c T r k rest Q)):wS c T r k (.seq (.ite t a b) rest) m H Q:=h
theorem df{t:Tg}{e:X}(h:wX c T r e m H fun v H1=>rB c T r t v m H1 fun m1 H2=>wS c T r k rest m1 H2 Q):wS c T r k (.seq (.asg t e) rest) m H Q:=h
theorem y0{e:X}(h:wX c T r e m H fun v H1=>wS c T r k rest m H1 Q):wS c T r k (.seq (.ex e) rest) m H Q:=h
theorem kE{t:X}{b:S}(h:∃n,i8 k (fun m H K=>wX c T r t m H fun v H1=>ok (aN H1 v) fun z=>K z H1) (wS c T r k b) n m H (andThen c T r k rest Q)):wS c T r k (.seq (.whl t b) rest) m H Q:=h
theorem y6{t:Tg}{e:X}{b:S}{d:D}{ds:List D}{H1:Hp}(h1:aO T e m H=some (.d d,H1))(h2:b8 d=some ds)(h:il k (fun d m H K=>rB c T r t (.d d) m H K) (wS c T r k b) ds m H1 (andThen c T r k rest Q)):wS c T r k (.seq (.for t e b) rest) m H Q:=
 ev h1 (av (show (dV (.d d)).bind b8=some ds from h2) h)
theorem az(h:wS c T r k rest m H Q):andThen c T r k rest Q .next m H:=h
theorem oj(h:Q .brk m H):andThen c T r k rest Q .brk m H:=h
theorem DN{v:V}(h:Q (.ret v) m H):andThen c T r k rest Q (.ret v) m H:=h
variable {K:SV}
theorem ja{o es:X}{a:Nat}{ov:V}{p:Addr×Nat}{vs:List V}{H1 H2:Hp}{Q0:SV}(e1:aO T o m H=some (ov,H1))(e2:dp T H1 ov a=some p)(e3:dk T es m H1=some (vs,H2))(h:SemCall c r (.ref p.1) (.r p.2::vs) H2 Q0)(q:∀x H',Q0 x H'->K x H'):wX c T r (.mc o a es) m H K:=
 show wX c T r o m H (fun ov H1=>ok (dp T H1 ov a) fun p=>kY c T r es m H1 fun vs H2=>SemCall c r (.ref p.1) (.r p.2::vs) H2 K) from ev e1 (av e2 (Qg e3 (h.mono q)))
theorem cg{k:Nat}{es:X}{f:Value}{vs:List V}{H2:Hp}{Q0:SV}(e2:T.gl[k]?.bind JY=some f)(e3:dk T es m H=some (vs,H2))(h:SemCall c r f vs H2 Q0)(q:∀x H',Q0 x H'->K x H'):wX c T r (.call k es) m H K:=
 show ok (T.gl[k]?.bind JY) (fun f=>kY c T r es m H fun vs H1=>SemCall c r f vs H1 K) from av e2 (Qg e3 (h.mono q))
theorem bg{n:Nat}{Q:SV}{v y:V}(hk:n<=H.length)(hy:ve H.length H v=some y)(q:Q y H):ip n Q (.ret v) m H:=⟨H.length,hk,.inl (ao _),y,hy,by rw[List.take_length];exact q⟩
theorem dF{n:Nat}{Q:SV}(hk:n<=H.length)(q:Q (.d .none) H):ip n Q .next m H:=⟨H.length,hk,.inl (ao _),_,rfl,by rw[List.take_length];exact q⟩
end
section
variable {T:aW}{H:Hp}
theorem NY(x:SQ)(l u:Option Int)(h:x.length<=16777216):EN (st x) l u=some (st (k7 x l u)):=by
 show (if (Sl x).l.length<=16777216 then some (st (k7 (Sl x).l l u)) else none) = _
 rw[da,au h]
theorem JP(x:List D)(l u:Option Int)(h:x.length<=16777216):EN (.list x) l u=some (.list (IP x l u)):=au h
theorem Fu(a b:Int):fS .add (.int a) (.int b)=some (.int (a+b)):=rfl
theorem FF(a b:Int):fS .sub (.int a) (.int b)=some (.int (a-b)):=rfl
theorem wM(a b:SQ)(h:a.length+b.length<=16777216):fS .add (st a) (st b)=some (st (a++b)):=by
 show (if (Sl a).l.length+(Sl b).l.length<=16777216 then some (Mine.st ((Sl a).l++(Sl b).l)) else none) = _
 rw[da,da,au h]
theorem JM(a b:Int)(h:b≠0):fS .mod (.int a) (.int b)=some (.int (a.fmod b)):=ar h
theorem A2(a b:Int):fY .add (.int a) (.int b)=some (.int (a+b)):=rfl
theorem A4(a b:Int):fY .sub (.int a) (.int b)=some (.int (a-b)):=rfl
theorem A3(a b:SQ)(h:a.length+b.length<=16777216):fY .add (st a) (st b)=some (st (a++b)):=wM a b h
theorem Ft(x y:D)(o:e7):tT (.d x) (.d y) o=(fS o x y).map .d:=rfl
theorem JQ(x:D)(l u:Option Int):L8 (.d x) l u=(EN x l u).map .d:=rfl
theorem JO(i:Int):yk (.d (.int i))=some (.d (.int (-i))):=rfl
theorem Fy(i:Int):xz (.d (.int i))=some (some i):=rfl
theorem NT(d:D):dV (.d d)=some d:=rfl
theorem JJ(x y:D):uO T H (.d x) (.d y)=(k6 x y).map .d:=rfl
theorem fX(x:SQ)(i:Int)(c:Nat)(h:i.natAbs<9223372036854775808)(k:((seqIndex? i x.length).bind (x[·]?))=some c):k6 (st x) (.int i)=some (st [c]):=by
 show (if 9223372036854775808<=i.natAbs then none else ((seqIndex? i (Sl x).l.length).bind ((Sl x).l[·]?)).map fun ch=>st [ch]) = _
 rw[da,ar (Nat.not_le.mpr h),k];rfl
theorem dm{α:Type}{x:List α}{n:Nat}{c:α}(h:x[n]?=some c):((seqIndex? (n:Int) x.length).bind (x[·]?))=some c:=by
 have:=oh h
 unfold seqIndex?
 have e:¬ ((n:Int)<0):=Int.not_lt.mpr (Int.natCast_nonneg n)
 simp only[e,if_false]
 rw[au (by simp;omega)]
 simpa using h
theorem ph{x:SQ}(h:x≠[]):((seqIndex? (-1) x.length).bind (x[·]?))=some (x.getLast h):=by
 have hl:0<x.length:=List.length_pos_iff.mpr h
 unfold seqIndex?
 simp only[show ((-1:Int)<0)=True from by simp,if_true]
 rw[au (by simp;omega)]
 have:(-1+(x.length:Int)).toNat=x.length-1:=by exact M9 ‹_›
 show x[(-1+(x.length:Int)).toNat]? = _
 rw[this,List.getLast_eq_getElem,List.getElem?_eq_getElem]
theorem JK(x:List D)(i:Int)(h:i.natAbs<9223372036854775808):k6 (.list x) (.int i)=(seqIndex? i x.length).bind (x[·]?):=ar (Nat.not_le.mpr h)
theorem JL(n:Nat)(s:SQ):uO T H (.r n) (.d (st s))=match H[n]? with
  |some (some (.dict fs))=>(d9 T.nms s fs).bind id
  |_=>none:=rfl
theorem Nv(x y:D):cw T H .eq (.d x) (.d y)=bB .eq x y:=rfl
theorem NA(x y:D):cw T H .ne (.d x) (.d y)=bB .ne x y:=rfl
theorem Nz(x y:D):cw T H .le (.d x) (.d y)=k9 .le (.d x) (.d y):=rfl
theorem Ny(x y:D):cw T H .gt (.d x) (.d y)=k9 .gt (.d x) (.d y):=rfl
theorem Nx(x y:D):cw T H .ge (.d x) (.d y)=k9 .ge (.d x) (.d y):=rfl
theorem Jt(x y:D):cw T H .mem (.d x) (.d y)=bB .mem x y:=rfl
theorem CY:(!true)=false:=rfl
theorem CX:(!false)=true:=rfl
theorem NW(x:V)(y:D):cw T H .is x (.d y)=vQ x y:=rfl
theorem JI(x:V)(y:D):cw T H .isn x (.d y)=(vQ x y).map (!·):=rfl
theorem NX(a b:Int):k9 .le (.d (.int a)) (.d (.int b))=some (decide (a<=b)):=rfl
theorem NV(a b:Int):k9 .gt (.d (.int a)) (.d (.int b))=some (decide (b<a)):=rfl
theorem NU(a b:Int):k9 .ge (.d (.int a)) (.d (.int b))=some (decide (b<=a)):=rfl
theorem BC(n:Nat)(x:SQ):b7 (n+1) (st x)=true:=rfl
theorem xg(n:Nat)(x:Int):b7 (n+1) (.int x)=true:=rfl
theorem uw(n:Nat)(x:Bool):b7 (n+1) (.bool x)=true:=rfl
theorem dq(n:Nat)(x:D)(xs:List D):bK (n+1) (x::xs)=(b7 (n+1) x&&bK (n+1) xs):=rfl
theorem FD(a b:SQ):bB .mem (st a) (st b)=some (rt a b):=rfl
theorem a7(b:Bool):aN H (.d (.bool b))=some b:=rfl
theorem Ia:aN H (.d .none)=some false:=rfl
theorem PW(x:SQ)(h:x.length<=16777216):aN H (.d (st x))=some (!x.isEmpty):=by
 show (if (Sl x).l.length<=16777216 then some (!(Sl x).l.isEmpty) else none) = _
 rw[da,au h]
theorem SK(f:Addr)(n:Nat):aN H (.m f n)=some true:=rfl
theorem v5(x:SQ)(h:x.length<=16777216):mw .len [st x]=some (.int x.length):=by
 show (if (Sl x).l.length<=16777216 then some (PyData.int (Sl x).l.length) else none) = _
 rw[da,au h]
theorem Jl(c:Nat):mw .ord [st [c]]=some (.int c):=rfl
theorem AH(x y:SQ)(a b:Int):mw .count3 [st x,st y,.int a,.int b]=some (.int (t6 x y a b)):=rfl
theorem AI(x y:SQ)(a b:Int):mw .rfind3 [st x,st y,.int a,.int b]=some (.int (EJ x y a b)):=rfl
theorem vn:∀L:List (SQ),gk (L.map st)=some (L.map Sl):=by
 intro L
 induction L with
 |nil=>exact rfl
 |cons x r ihr=>
  rw[List.map_cons,List.map_cons]
  show (gk (r.map st)).map (Sl x::·) = _
  rw[ihr];rfl
theorem GR(L:List (SQ)):(L.map Sl).map (·.l)=L:=by
 rw[List.map_map]
 conv=>rhs;rw[←List.map_id L]
 exact List.map_congr_left fun x _=>da x
theorem mr(L:List (SQ))(h:(L.map List.length).sum<=16777216):mw .join [st [],.list (L.map st)]=some (st L.flatten):=by
 show ((gk (L.map st)).bind fun ts=>if (ts.map (·.l.length)).sum+ts.length * (Sl []).l.length<=16777216 then some (st (bL (Sl []).l (ts.map (·.l)))) else none) = _
 rw[vn]
 show (if ((L.map Sl).map (·.l.length)).sum+(L.map Sl).length * (Sl []).l.length<=16777216 then some (st (bL (Sl []).l ((L.map Sl).map (·.l)))) else none) = _
 have e:(L.map Sl).map (·.l.length)=L.map List.length:=by
  rw[List.map_map]
  exact List.map_congr_left fun x _=>by show (Sl x).l.length = _;rw[da]
 rw[e,GR,da,au (by simpa using h),lM]
theorem tV:cz H []=some []:=rfl
noncomputable def Qk(H:Hp)(vs:List V)(d:D):Option (List D):=(cz H vs).map (d::·)
theorem jJ(v:V)(vs:List V):cz H (v::vs)=(mq H v).bind (Qk H vs):=rfl
theorem Ot(vs:List V)(d:D):Qk H vs d=(cz H vs).map (List.cons d):=rfl
theorem E5:dZ []=some []:=rfl
theorem E4(d:D)(vs:List V):dZ (.d d::vs)=(dZ vs).map (List.cons d):=rfl
theorem E7(d:D):mq H (.d d)=some d:=rfl
noncomputable def Qo(b:Bi)(x:D)(ds:List D):Option V:=(mw b (x::ds)).map .d
theorem DP(b:Bi)(x:SQ)(vs:List V):IC b (.d (st x)) vs H=(cz H vs).bind (Qo b (st x)):=rfl
theorem Ox(b:Bi)(x:D)(ds:List D):Qo b x ds=(mw b (x::ds)).map .d:=rfl
theorem LL(x y z:SQ)(h:x.length+(x.length+1) * z.length<=16777216):tj (.d (st x)) y z=some (.d (st (bU x y z))):=by
 show (if (Sl x).l.length+((Sl x).l.length+1) * z.length<=16777216 then some (V.d (st (bU (Sl x).l y z))) else none) = _
 rw[da,au h]
theorem sn(x:SQ):b8 (st x)=some (x.map fun ch=>st [ch]):=rfl
theorem O9(d:D):eK (.d d)=true:=rfl
theorem zO(c:Nat)(x:SQ):rt [c] x=decide (c∈x):=by
 unfold rt
 have:=PySem.StrLaws.found_one (Sl x) c
 rw[eB] at this
 exact this
end
section
variable {T:aW}{H:Hp}
theorem OL(i:Nat):lk i []=none:=rfl
theorem OK(i:Nat)(p:Nat×V)(r:List (Nat×V)):lk i (p::r)=pick (p.1==i) (some p.2) (lk i r):=rfl
theorem O8(i:Nat)(x:V):pk i x []=[(i,x)]:=rfl
theorem O7(i:Nat)(x:V)(p:Nat×V)(r:List (Nat×V)):pk i x (p::r)=pick (p.1==i) ((i,x)::r) (p::pk i x r):=rfl
theorem Oo(v:V):vQ v .none=Gj J6 v:=rfl
theorem On(v:V)(b:Bool):vQ v (.bool b)=Gj (isB b) v:=rfl
section
variable (f:D->Option Bool)(n:Nat)
theorem Op(x:D):Gj f (.d x)=f x:=rfl
end
theorem Ok:J6 .none=some true:=rfl
theorem Oj(i:Int):J6 (.int i)=some false:=rfl
section
variable (b:Bool)
theorem Og(a:Bool):isB b (.bool a)=some (a==b):=rfl
end
theorem N3(f:Value):JY (.g f)=some f:=rfl
theorem Pb(n:Nat):eK (.r n)=true:=rfl
theorem Pa(f:Addr)(n:Nat):eK (.m f n)=true:=rfl
noncomputable def gC(T:aW)(n C a:Nat):Option Addr->Option V
 |some f=>some (.m f n)
 |none=>(T.cat C a).map (·.2)
noncomputable def gB(T:aW)(n C a:Nat):Option V->Option V
 |some x=>pick (eK x) (some x) none
 |none=>gC T n C a (T.meth C a)
noncomputable def gA(T:aW)(n a:Nat):Option (Option Cell)->Option V
 |some (some (.inst C fs))=>gB T n C a (lk a fs)
 |_=>none
theorem N5(n a:Nat):ej T H (.r n) a=gA T n a H[n]?:=rfl
theorem N4(n a C:Nat)(fs:List (Nat×V)):gA T n a (some (some (.inst C fs)))=gB T n C a (lk a fs):=rfl
theorem N7(n a C:Nat)(x:V):gB T n C a (some x)=pick (eK x) (some x) none:=rfl
theorem N6(n a C:Nat):gB T n C a none=gC T n C a (T.meth C a):=rfl
theorem N9(n a C:Nat)(f:Addr):gC T n C a (some f)=some (.m f n):=rfl
theorem N8(n a C:Nat):gC T n C a none=(T.cat C a).map (·.2):=rfl
noncomputable def cB(T:aW)(n C a:Nat):Option V->Option (Addr×Nat)
 |some (.m f k)=>if T.fn f=true then some (f,k) else none
 |some _=>none
 |none=>(T.meth C a).map fun f=>(f,n)
noncomputable def cA(T:aW)(n a:Nat):Option (Option Cell)->Option (Addr×Nat)
 |some (some (.inst C fs))=>cB T n C a (lk a fs)
 |_=>none
theorem ND(n a:Nat):dp T H (.r n) a=cA T n a H[n]?:=rfl
theorem NC(n a C:Nat)(fs:List (Nat×V)):cA T n a (some (some (.inst C fs)))=cB T n C a (lk a fs):=rfl
theorem NF(n a C:Nat):cB T n C a none=(T.meth C a).map fun f=>(f,n):=rfl
theorem NE(n a C f k:Nat):cB T n C a (some (.m f k))=if T.fn f=true then some (f,k) else none:=rfl
noncomputable def cO(n:Nat):Option (Option Cell)->Option (Nat×Cell)
 |some (some cl)=>some (n,cl)
 |_=>none
theorem NK(n:Nat):cellOf H (.r n)=cO n H[n]?:=rfl
theorem NL(n:Nat)(cl:Cell):cO n (some (some cl))=some (n,cl):=rfl
noncomputable def lO:Option (Option Cell)->Bool
 |some (some (.list _))=>true
 |some (some (.dlist _))=>true
 |_=>false
theorem Oi(n:Nat):cJ H (.r n)=lO H[n]?:=rfl
theorem Oh(x:List D):lO (some (some (.dlist x)))=true:=rfl
noncomputable def sO(T:aW)(H:Hp)(a:Nat)(x:V):Option (Nat×Cell)->Option Hp
 |some (n,.inst C fs)=>bc (((lk a fs).isSome||T.fld C a)&&jm fs.length 900) (some (H.set n (some (.inst C (pk a x fs)))))
 |_=>none
theorem PJ(o x:V)(a:Nat):dG T H o a x=sO T H a x (cellOf H o):=rfl
theorem PI(n a C:Nat)(x:V)(fs:List (Nat×V)):sO T H a x (some (n,.inst C fs))=bc (((lk a fs).isSome||T.fld C a)&&jm fs.length 900) (some (H.set n (some (.inst C (pk a x fs))))):=rfl
end
section
variable {c:Cx}{T:aW}{r k:Nat}{sc:Scope}{L:Addr}{env:Env}{m:aD}{H:Hp}{P:Heap->Ph->Prop}{B Z h:Heap}{U:Ph}
end
section
variable {c:Cx}{T:aW}{r:Nat}{sc:Scope}{L:Addr}{env:Env}{m:aD}{H:Hp}{B B' Z h h':Heap}{U U':Ph}{i:Nat}{a:Addr}
noncomputable def _root_.Mine.Cx.box(c:Cx)(i:Nat)(a:Addr):Cx:={ c with cs:=[(i,a)] }
inductive rG(c c':Cx):Prop
 |mk (nm:c'.nm=c.nm) (w:c'.w=c.w) (prog:c'.prog=c.prog) (K:c'.K=c.K) (G:c'.G=c.G) (E:c'.E=c.E)
theorem FR.alike{c':Cx}(h1:c'.nm=c.nm)(h2:c'.w=c.w){es:List DictEntry}{fs:List (Nat×V)}(h:FR c B U es fs):FR c' B U es fs:=by
 induction h with
 |nil=>exact .nil
 |cons h k v _ ih=>exact .cons (by rw[h1];exact h) (by rw[h1,h2];exact k) v ih
theorem KR.alike{c c':Cx}(h1:c'.nm=c.nm){es:List (Str×Value)}{fs:List (Nat×V)}(h:KR c B U es fs):KR c' B U es fs:=by
 induction h with
 |nil=>exact .nil
 |cons v _ ih=>rw[←h1];exact .cons v ih
theorem CellAt.alike{c':Cx}(S:rG c c'){p:Addr×Addr}{cl:Cell}(x:CellAt c h B U p cl):CellAt c' h B U p cl:=by
 obtain⟨s1,s2,s3,s4,s5,s6⟩:=S
 cases cl with
 |inst=>obtain⟨a,n,es,k,b,f,g1,g2⟩:=x;exact⟨a,n,es,k,b,f.alike s1 s2,by rw[s4];exact g1,fun i x e=>by rw[s4,s1];exact g2 i x e⟩
 |list=>exact x
 |dlist=>exact x
 |dict=>obtain⟨e,ns,o,es,a,b,f⟩:=x;exact⟨e,ns,o,es,a,by rw[s3,s2];exact b,f.alike s1⟩
theorem Rel.alike{c':Cx}(S:rG c c')(R:Rel c B Z U L H h):Rel c' B Z U L H h where
 base:=by obtain⟨s1,s2,s3,s4,s5,s6⟩:=S;unfold Bs;rw[s5,s6];exact R.base
 kB:=R.kB
 kZ:=R.kZ
 cell n cl e:=(R.cell n cl e).imp fun p q=>⟨q.1,q.2.alike S⟩
 free:=R.free
 apart:=R.apart
 dom:=R.dom
 LB:=R.LB
 LZ:=R.LZ
 LG:=by obtain⟨s1,s2,s3,s4,s5,s6⟩:=S;rw[s5];exact R.LG
 BZ:=R.BZ
theorem Fc:rG c (c.box i a):=⟨rfl,rfl,rfl,rfl,rfl,rfl⟩
theorem wc:rG (c.box i a) c:=⟨rfl,rfl,rfl,rfl,rfl,rfl⟩
theorem jw(j:Nat):x6 j (c.box i a).cs=if i=j then some a else none:=by
 show (match i==j with|true=>some a|false=>none) = _
 by_cases q:i=j
 ·rw[au q,beq_iff_eq.mpr q]
 ·rw[ar q,beq_eq_false_iff_ne.mpr q]
theorem AL(hE:aZ c sc L env)(hk:sc.names.lookup (c.nm i)=some .cell)(ho:∀j,sc.names.lookup (c.nm j)=some .cell->j=i)(ha:env.cells.lookup (c.nm i)=some a):aZ (c.box i a) sc L env:=
 have h1:∀j,sc.names.lookup (c.nm j)=some .local->x6 j (c.box i a).cs=none:=fun j hj=>by
  rw[jw]
  refine ar fun q=>?_
  subst q
  rw[hk] at hj;cases hj
 have h2:∀j,sc.names.lookup (c.nm j)=some .cell->∃b,x6 j (c.box i a).cs=some b/\env.cells.lookup (c.nm j)=some b:=fun j hj=>by
  obtain rfl:=ho j hj
  exact⟨a,by rw[jw,au rfl],ha⟩
 ⟨hE.scope,hE.locals,hE.globals,hE.builtins,hE.kind,hE.cells,h1,fun j _=>h2 j⟩
theorem Fb{v:Value}{x:V}(hcs:c.cs=[])(F:FrR c B U L m h)(hc:B.IsCell a (some v))(hv:VR B U v x):FrR (c.box i a) B U L (pk i x m) h:=by
 obtain⟨mm,n,f⟩:=F.ex
 refine⟨mm,n,fun j y e=>?_⟩
 rw[ko] at e
 unfold Stands
 rw[jw]
 by_cases q:i=j
 ·rw[au q] at e ⊢
  cases e
  exact⟨v,hc,hv⟩
 ·rw[ar q] at e ⊢
  obtain⟨w,h1,h2⟩:=f j y e
  exact⟨w,(Stands.own (bR hcs j)).mp h1,h2⟩
theorem Ad{m':aD}(hcs:c.cs=[])(F:FrR (c.box i a) B U L m h)(q:∀j x,lk j m'=some x->i≠j/\lk j m=some x):FrR c B U L m' h:=by
 obtain⟨mm,n,f⟩:=F.ex
 refine⟨mm,n,fun j y e=>?_⟩
 obtain⟨n1,e⟩:=q j y e
 obtain⟨w,h1,h2⟩:=f j y e
 refine⟨w,(Stands.own (bR hcs j)).mpr ?_,h2⟩
 unfold Stands at h1
 rw[jw,ar n1] at h1
 exact h1
theorem AM(hT:TabOk c T):TabOk (c.box i a) { T with fl:=true } where
 nm:=hT.nm
 cd b hb:=by
  obtain⟨o,es,g1,g2,g3⟩:=hT.cd b hb
  exact⟨o,es,g1,g2,KR.alike (c:=c) (c':=c.box i a) rfl g3⟩
 meth:=hT.meth
 fld:=hT.fld
 cat:=hT.cat
 big:=hT.big
 gl:=hT.gl
 fn:=hT.fn
 kp:=hT.kp
 bn:=hT.bn
 cs:=by rw[au rfl];exact nofun
noncomputable def iK(B:Heap)(a:Addr):Heap:=aI B a bY
theorem dx(b:Addr):(iK B a).get? b=if b=a then none else B.get? b:=by
 have hdead:∀x:Option Obj,(match (some (x.getD bY):Option Obj) with|some ⟨_,_,.freed,_⟩=>none|o=>o)=(match x with|some ⟨_,_,.freed,_⟩=>none|o=>o):=by
  intro x
  cases x<;>rfl
 unfold Heap.get? iK aI
 by_cases hb:b<max B.objs.size (a+1)
 ·have e:(Array.ofFn (n:=max B.objs.size (a+1)) fun i=>if i.1=a then bY else (B.objs[i.1]?).getD bY)[b]?=some (if b=a then bY else (B.objs[b]?).getD bY):=by
   rw[Array.getElem?_ofFn];simp[hb]
  dsimp only
  rw[e]
  by_cases q:b=a
  ·rw[au q,au q]
  ·rw[ar q,ar q];exact hdead _
 ·have e:(Array.ofFn (n:=max B.objs.size (a+1)) fun i=>if i.1=a then bY else (B.objs[i.1]?).getD bY)[b]?=none:=by
   rw[Array.getElem?_ofFn];simp[hb]
  dsimp only
  rw[e]
  have hba:b≠a:=fun q=>hb (Nat.lt_of_lt_of_le (q▸Nat.lt_succ_self _) (Nat.le_max_right _ _))
  have hbs:B.objs[b]?=none:=by
   rw[Array.getElem?_eq_none];exact Nat.le_of_not_lt fun q=>hb (Nat.lt_of_lt_of_le q (Nat.le_max_left _ _))
  rw[hbs,ar hba]
theorem hdel_sub:Sub (iK B a) B:=fun b o e=>by
 rw[dx] at e
 by_cases q:b=a
 ·rw[au q] at e;nomatch e
 ·rw[ar q] at e;exact e
theorem xx{o:Obj}(hB:B.get? a=none)(ho:o.isFreed=false):Sub B (iK (aI B a o) a):=fun b x e=>by
 have q:b≠a:=fun q=>by rw[q,hB] at e;nomatch e
 rw[dx,ar q,aE ho q];exact e
theorem uA(s:Sub B B'):Sub (iK B a) (iK B' a):=fun b o e=>by
 rw[dx] at e ⊢
 by_cases q:b=a
 ·rw[au q] at e;nomatch e
 ·rw[ar q] at e ⊢;exact s _ _ e
def c9(B B':Heap):Prop:=∀b o,(∀x,o.data≠.cell x)->B.get? b=some o->B'.get? b=some o
theorem r9{o:Obj}{x:Option Value}(e:B.get? a=some o)(hd:o.data=.cell x):c9 B (iK B a):=fun b o' h g=>by
 rw[dx]
 by_cases q:b=a
 ·subst q;rw[e] at g;cases g;exact absurd hd (h x)
 ·rw[ar q];exact g
theorem pC(k:c9 B B'){v:Value}{d:PyData}{as:List Addr}(h:Reads B v d as):Reads B' v d as:=by
 refine Reads.rec (h:=B) (motive_1:=fun v d as _=>Reads B' v d as) (motive_2:=fun vs ds as _=>ReadsAll B' vs ds as) .none .bool .int .str (fun h1 h2 h3 _ ih=>.list (k _ _ (fun x q=>by rw[h3] at q;nomatch q) h1) h2 h3 ih) (fun h1 h2 h3 _ ih=>.tuple (k _ _ (fun x q=>by rw[h3] at q;nomatch q) h1) h2 h3 ih)
  (fun h1 h2 h3 _ _ i1 i2=>.dict (k _ _ (fun x q=>by rw[h3] at q;nomatch q) h1) h2 h3 i1 i2) .nil (fun _ _ i1 i2=>.cons i1 i2) h
theorem pF(k:c9 B B'):∀{vs:List Value}{ds:List PyData}{as:List Addr},ReadsAll B vs ds as->ReadsAll B' vs ds as:=by
 intro vs
 induction vs with
 |nil=>intro ds as h;cases h;exact .nil
 |cons v vs ih=>intro ds as h;cases h with|cons h1 h2=>exact .cons (pC k h1) (ih h2)
theorem OkAs.nc{as:List Addr}(k:c9 B B')(h:OkAs B as):OkAs B' as:=fun b hb=>by
 obtain⟨o,h1,h2⟩:=h b hb
 refine⟨o,k _ _ (fun x q=>?_) h1,h2⟩
 rcases h2 with ⟨xs,n,e⟩|⟨_,_,n,e⟩<;>(rw[e] at q;nomatch q)
theorem DV.nc{v:Value}{d:D}(k:c9 B B')(h:DV B v d):DV B' v d:=⟨h.1,h.2.imp fun as r=>⟨pC k r.1,r.2.nc k⟩⟩
theorem DVs.nc{v:List Value}{d:List D}(k:c9 B B')(h:DVs B v d):DVs B' v d:=⟨h.1,h.2.imp fun as r=>⟨pF k r.1,r.2.nc k⟩⟩
theorem VR.nc{v:Value}{x:V}(k:c9 B B')(h:VR B U v x):VR B' U v x:=by
 cases h with
 |d h=>exact .d (h.nc k)
 |r h=>exact .r h
 |g=>exact .g _
 |m h q=>exact .m h (k _ _ (fun x e=>by nomatch e) q)
 |el h=>exact .el (k _ _ (fun x e=>by nomatch e) h)
 |junk=>exact .junk _
theorem VRs.nc{vs:List Value}{xs:List V}(k:c9 B B')(h:VRs B U vs xs):VRs B' U vs xs:=by
 induction h with
 |nil=>exact .nil
 |cons h _ ih=>exact .cons (h.nc k) ih
theorem FR.nc{es:List DictEntry}{fs:List (Nat×V)}(k:c9 B B')(h:FR c B U es fs):FR c B' U es fs:=by
 induction h with
 |nil=>exact .nil
 |cons h q v _ ih=>exact .cons h q (v.nc k) ih
theorem KR.nc{es:List (Str×Value)}{fs:List (Nat×V)}(k:c9 B B')(h:KR c B U es fs):KR c B' U es fs:=by
 induction h with
 |nil=>exact .nil
 |cons v _ ih=>exact .cons (v.nc k) ih
theorem CellAt.nc{p:Addr×Addr}{cl:Cell}(k:c9 B B')(x:CellAt c h B U p cl):CellAt c h B' U p cl:=by
 cases cl with
 |inst=>obtain⟨a,n,es,j,b,f,g1,g2⟩:=x;exact⟨a,n,es,j,b,f.nc k,g1,g2⟩
 |list=>obtain⟨e,vs,j,a,f⟩:=x;exact⟨e,vs,j,a,f.nc k⟩
 |dlist=>obtain⟨e,vs,j,a,f⟩:=x;exact⟨e,vs,j,a,f.nc k⟩
 |dict=>obtain⟨e,ns,o,es,a,b,f⟩:=x;exact⟨e,ns,o,es,a,b,f.nc k⟩
theorem Rel.thaw{o:Obj}{x:Option Value}(R:Rel c B Z U L H h)(e:B.get? a=some o)(hd:o.data=.cell x)(hG:c.G.get? a=none)(hE:c.E.get? a=none):Rel c (iK B a) (aI Z a o) U L H h:=by
 have ho:o.isFreed=false:=aT (R.kB _ _ e)
 have nB:∀b,B.get? b=none->b≠a/\(iK B a).get? b=none:=fun b q=>by
  have n:b≠a:=fun w=>by rw[w,e] at q;nomatch q
  exact⟨n,by rw[dx,ar n];exact q⟩
 have nZ:∀b,b≠a->Z.get? b=none->(aI Z a o).get? b=none:=fun b n q=>by rw[aE ho n];exact q
 have sub:∀X:Heap,X.get? a=none->Sub X B->Sub X (iK B a):=fun X n s b y g=>by
  rw[dx,ar fun q=>by rw[q,n] at g;nomatch g];exact s _ _ g
 refine⟨⟨sub _ hG R.base.1,sub _ hE R.base.2⟩,hdel_sub.trans R.kB,Sub.put_in ho R.kZ (R.kB _ _ e),fun n cl q=>(R.cell n cl q).imp fun p w=>⟨w.1,w.2.nc (r9 e hd)⟩,fun n p hl hp=>?_,R.apart,R.dom,(nB _ R.LB).2,nZ _ (nB _ R.LB).1 R.LZ,R.LG,fun b o' g=>?_⟩
 ·obtain⟨⟨b1,b2⟩,⟨z1,z2⟩,l⟩:=R.free n p hl hp
  exact⟨⟨(nB _ b1).2,(nB _ b2).2⟩,⟨nZ _ (nB _ b1).1 z1,nZ _ (nB _ b2).1 z2⟩,l⟩
 ·rw[dx]
  by_cases q:b=a
  ·rw[au q]
  ·rw[aE ho q] at g;rw[ar q];exact R.BZ _ _ g
theorem FrR.nc(k:c9 B B')(hcs:c.cs=[])(F:FrR c B U L m h):FrR c B' U L m h:=by
 obtain⟨mm,n,f⟩:=F.ex
 exact⟨mm,n,fun i x e=>(f i x e).imp fun v q=>⟨(Stands.own (bR hcs i)).mpr ((Stands.own (bR hcs i)).mp q.1),q.2.nc k⟩⟩
theorem VR.lower{k:Nat}{v:Value}{x:V}(s:Sub B B')(kp:∀n p,n<k->U n=some p->U' n=some p)(h:VR B U v x)(e:lq k x=true):VR B' U' v x:=by
 cases h with
 |d h=>exact .d (h.mono s)
 |r h=>exact .r (kp _ _ (of_decide_eq_true e) h)
 |g=>exact .g _
 |m h q=>exact .m (kp _ _ (of_decide_eq_true e) h) (s _ _ q)
 |el h=>exact .el (s _ _ h)
 |junk=>exact .junk _
theorem FrR.lower{k:Nat}(hcs:c.cs=[])(hm:∀i x,lk i m=some x->lq k x=true)(F:FrR c B U L m h)(s:Sub B B')(kp:∀n p,n<k->U n=some p->U' n=some p)(kh:∀o,h.get? L=some o->h'.get? L=some o):FrR c B' U' L m h':=by
 obtain⟨mm,⟨o,es,ep,e,r⟩,f⟩:=F.ex
 exact⟨mm,⟨o,es,ep,kh o e,r⟩,fun i x e=>(f i x e).imp fun v q=>⟨(Stands.own (bR hcs i)).mpr ((Stands.own (bR hcs i)).mp q.1),q.2.lower s kp (hm i x e)⟩⟩
end
theorem kF{k:Nat}{m:aD}(h:bj k m=true){i:Nat}{x:V}(e:lk i m=some x):lq k x=true:=by
 induction m with
 |nil=>nomatch e
 |cons p r ih=>
  refine aS h fun h1 h2=>?_
  rw[a6] at e
  by_cases q:p.1=i
  ·rw[au q] at e;cases e;exact h1
  ·rw[ar q] at e;exact ih h2 e
structure vP(c:Cx) where
 Z:Heap
 a:Addr
 k:Nat
 B0:Heap
 U0:Ph
 s0:Shared
inductive Two(c:Cx)(W:vP c)(A P:Addr)(mA mP:aD)(H:Hp)(G:Array GenState)(X:Heap->Ph->Prop)(s':Shared):Prop
 |mk (h:Heap) (tk:Nat) (B:Heap) (U:Ph) (oa oP:Obj) (x:Option Value) (e:s'={ W.s0 with heap:=h,toks:=tk,gens:=G }) (ht:1<=tk) (sB:Sub W.B0 B) (kp:∀n p,n<W.k->W.U0 n=some p->U n=some p) (ha:oa.data=.cell x) (hoa:oa.isFreed=false) (hoP:oP.isFreed=false)
  (R:Rel c B (aI (aI W.Z W.a oa) P oP) U A H h) (FA:FrR c B U A mA h) (FP:FrR c B U P mP h) (ex:X B U)
structure Still(c:Cx)(W:vP c)(A P:Addr):Prop where
 cs:c.cs=[]
 zA:W.Z.get? A=none
 zP:W.Z.get? P=none
 za:W.Z.get? W.a=none
 aA:A≠W.a
 aP:P≠W.a
 AP:A≠P
 gA:c.G.objs.size<=A
 gP:c.G.objs.size<=P
 ga:c.G.get? W.a=none
 ea:c.E.get? W.a=none
theorem Still.sym{c:Cx}{W:vP c}{A P:Addr}(S:Still c W A P):Still c W P A:=⟨S.cs,S.zP,S.zA,S.za,S.aP,S.aA,Ne.symm S.AP,S.gP,S.gA,S.ga,S.ea⟩
section
variable {c:Cx}{W:vP c}{A P:Addr}{mA mP:aD}{H:Hp}{G G':Array GenState}{X:Heap->Ph->Prop}{s':Shared}{r:Nat}
theorem Two.swap(S:Still c W A P)(T:Two c W A P mA mP H G X s'):Two c W P A mP mA H G X s':=by
 obtain⟨h,tk,B,U,oa,oP,x,e,ht,sB,kp,ha,hoa,hoP,R,FA,FP,ex⟩:=T
 obtain⟨mm,⟨oA,es,ep,eA,hd⟩,f⟩:=id FA.ex
 have hoA:=aT eA
 exact⟨h,tk,B,U,oa,oA,x,e,ht,sB,kp,ha,hoa,hoA,R.turnTo hoP ((aE hoa S.aP).trans S.zP) S.gP eA,FP,FA,ex⟩
theorem Two.gens(T:Two c W A P mA mP H G X s'):Two c W A P mA mP H G' X { s' with gens:=G' }:=by
 obtain⟨h,tk,B,U,oa,oP,x,e,ht,sB,kp,ha,hoa,hoP,R,FA,FP,ex⟩:=T
 exact⟨h,tk,B,U,oa,oP,x,by rw[e],ht,sB,kp,ha,hoa,hoP,R,FA,FP,ex⟩
theorem Two.ex_(T:Two c W A P mA mP H G X s'){Y:Heap->Ph->Prop}(q:∀B U,X B U->Y B U):Two c W A P mA mP H G Y s':=by
 obtain⟨h,tk,B,U,oa,oP,x,e,ht,sB,kp,ha,hoa,hoP,R,FA,FP,ex⟩:=T
 exact⟨h,tk,B,U,oa,oP,x,e,ht,sB,kp,ha,hoa,hoP,R,FA,FP,q _ _ ex⟩
theorem Two.view(S:Still c W A P)(hA:bj W.k mA=true)(hP:bj W.k mP=true)(T:Two c W A P mA mP H G (fun _ _=>True) s'){H0:Hp}{m0:aD}(V:Vw W.k m0 H0 mA H):Two c W A P mA mP H0 G (fun _ _=>True) s':=by
 obtain⟨h,tk,B,U,oa,oP,x,e,ht,sB,kp,ha,hoa,hoP,R,FA,FP,ex⟩:=T
 obtain⟨U',k',R',_⟩:=V.go R FA
 exact⟨h,tk,B,U',oa,oP,x,e,ht,sB,fun n p hn q=>k' n p hn (kp n p hn q),ha,hoa,hoP,R',FA.lower S.cs (fun i x e=>kF hA e) (Sub.refl _) k' fun _ q=>q,FP.lower S.cs (fun i x e=>kF hP e) (Sub.refl _) k' fun _ q=>q,trivial⟩
theorem i5{B B' Z:Heap}{U U':Ph}{h h':Heap}{oP:Obj}(S:Still c W A P)(hP:bj W.k mP=true)(FP:FrR c B U P mP h)(hz:Z.get? P=some oP)(k1:Sub Z h)(k2:Sub Z h')(s:Sub B B')(kp:∀n p,n<W.k->U n=some p->U' n=some p):FrR c B' U' P mP h':=
 FP.lower S.cs (fun i x e=>kF hP e) s kp fun o q=>by
  have:=k1 _ _ hz
  rw[this] at q;cases q;exact k2 _ _ hz
theorem Two.runX{α β:Type}{RR:Heap->Ph->α->β->Prop}{t:Sem α}{Q:β->Hp->Prop}{Ar:Around}{E:SU}{K:α->Shared->Prop}(S:Still c W A P)(hP:bj W.k mP=true)(T:Two c W A P mA mP H G X s')(hT:Tr RR c r A mA (fun _ _=>True) H t Q)(hA:Room r Ar)
  (k:∀v x H' s'',Q x H'->Two c W A P mA mP H' G (fun B U=>RR B U v x) s''->K v s''):wpAny c.M Ar t K E s':=by
 obtain⟨h,tk,B,U,oa,oP,x,rfl,ht,sB,kp,ha,hoa,hoP,R,FA,FP,ex⟩:=T
 refine Tr.run (s:={ W.s0 with heap:=h,toks:=tk,gens:=G }) hT hA ht R FA trivial fun v h' tk' B' U' y H' ht' b p R1 F1 rv q=>?_
 exact k v y H' _ q ⟨h',tk',B',U',oa,oP,x,rfl,ht',sB.trans b,fun n z hn w=>p n z (kp n z hn w),ha,hoa,hoP,R1,F1,i5 S hP FP (aH hoP) R.kZ R1.kZ b fun n z _ w=>p n z w,rv⟩
theorem Two.runS{t:Sem Flow}{Q:Fl->aD->Hp->Prop}{Ar:Around}{E:SU}{K:Flow->Shared->Prop}(S:Still c W A P)(hP:bj W.k mP=true)(T:Two c W A P mA mP H G X s')(hT:TrS c r A W.k mA H t Q)(hA:Room r Ar)
  (k:∀f fl m' H' s'',Q fl m' H'->Two c W A P m' mP H' G (fun B U=>DH B U f fl) s''->K f s''):wpAny c.M Ar t K E s':=by
 obtain⟨h,tk,B,U,oa,oP,x,rfl,ht,sB,kp,ha,hoa,hoP,R,FA,FP,ex⟩:=T
 refine TrS.run (s:={ W.s0 with heap:=h,toks:=tk,gens:=G }) hT hA ht R FA fun f h' tk' B' U' fl m' H' ht' b p R1 F1 fr q=>?_
 exact k f fl m' H' _ q ⟨h',tk',B',U',oa,oP,x,rfl,ht',sB.trans b,fun n z hn w=>p n z hn (kp n z hn w),ha,hoa,hoP,R1,F1,i5 S hP FP (aH hoP) R.kZ R1.kZ b p,fr⟩
theorem Two.turn{T:aW}{sc:Scope}{env:Env}{i:Nat}{v:Value}{y:V}{pos:Pos}{ir:S}{body:List Stmt}{Ar:Around}{E:SU}{K:Flow->Shared->Prop}{Q:aD->Hp->Prop}(S:Still c W A P)(hP:bj W.k mP=true)(hT:TabOk c T)(hE:aZ c sc A env)
  (hk:sc.names.lookup (c.nm i)=some .cell)(ho:∀j,sc.names.lookup (c.nm j)=some .cell->j=i)(hca:env.cells.lookup (c.nm i)=some W.a)(hc:d4 { T with fl:=true } sc ir body=true)
  (hw:wS (c.box i W.a) { T with fl:=true } r W.k ir (pk i y mA) H fun fl m' H'=>fl=.next/\∃m2,(∀j x,lk j m2=some x->i≠j/\lk j m'=some x)/\Q m2 H')
  (hA:Room r Ar)(Tw:Two c W A P mA mP H G (fun B U=>VR B U v y) s')(k:∀m2 H' s'',Q m2 H'->Two c W A P m2 mP H' G (fun _ _=>True) s''->K .next s'') :
  wpAny c.M Ar (assign (.Name (c.nm i) pos) env v) (fun _ s2=>wpAny c.M Ar (execs body env) K E s2) E s':=by
 obtain⟨h,tk,B,U,oa,oP,x,rfl,ht,sB,kp,ha,hoa,hoP,R,FA,FP,ex⟩:=Tw
 have za:W.Z.get? W.a=none:=S.za
 have R0:Rel c B (aI (aI W.Z P oP) W.a oa) U A H h:=R.weakZ (c6 hoP hoa S.aP)
 have here:h.get? W.a=some oa:=R0.kZ _ _ (aH hoa)
 refine wpAny_assign_Name (wpAny_storeName_cell (by rw[hE.scope];exact hE.kind) (by unfold Env.kindOf;rw[hE.scope];exact hk) hca ⟨oa,here,ha⟩ fun h2 hc2 hs2=>?_)
 obtain⟨ob,hob,hbd⟩:=hc2
 have lb:=aT hob
 have R1:=R0.repin hoa lb (fun b z _ hb e=>(hs2.2 b hb).trans e) hob
 have zPa:(aI W.Z P oP).get? W.a=none:=by rw[aE hoP (Ne.symm S.aP)];exact za
 have nB:B.get? W.a=none:=R1.BZ _ _ (aH lb)
 obtain⟨R2,s2⟩:=R1.freezeZ lb zPa
 have F2:FrR c (aI B W.a ob) U A mA h2:=(FA.keep fun z e=>(hs2.2 A S.aA).trans e).mono s2 (PSub.refl _)
 have F3:FrR (c.box i W.a) (aI B W.a ob) U A (pk i y mA) h2:=Fb S.cs F2 ⟨ob,aH lb,hbd⟩ (ex.mono s2 (PSub.refl _))
 have R3:=R2.alike (c':=c.box i W.a) Fc
 refine TrS.run (c:=c.box i W.a) (s:={ W.s0 with heap:=h2,toks:=tk,gens:=G }) (kR (AM hT) ir _ _ _ _ _ _ _ (AL hE hk ho hca) hc hw) hA ht R3 F3 fun f h' tk' B' U' fl m' H' ht' b p R4 F4 fr q=>?_
 obtain⟨rfl,m2,hm2,q⟩:=q
 cases fr
 have R5:=R4.alike (c':=c) wc
 have at_:B'.get? W.a=some ob:=b _ _ (aH lb)
 have R6:=R5.thaw at_ hbd S.ga S.ea
 have nc:=r9 at_ hbd
 have sub:Sub B (iK B' W.a):=(xx nB lb).trans (uA b)
 have R7:Rel c (iK B' W.a) (aI (aI W.Z W.a ob) P oP) U' A H' h':=R6.weakZ (c6 lb hoP (Ne.symm S.aP))
 have F5:FrR c (iK B' W.a) U' A m2 h':=(Ad S.cs F4 hm2).nc nc S.cs
 exact k m2 H' _ q ⟨h',tk',_,U',ob,oP,_,rfl,ht',sB.trans sub,fun n z hn w=>p n z hn (kp n z hn w),hbd,lb,hoP,R7,F5,i5 (Z:=aI W.Z P oP) S hP FP (aH hoP) ((Sub.put_both hoP (Sub.put hoa za)).trans R.kZ) R4.kZ sub p,trivial⟩
end
section
variable (c:Cx)(T:aW)(r k:Nat)(mg:aD)(xs xe xq xp:X)(turn:V->aD->Hp->(aD->Hp->Prop)->Prop)(Qe:aD->Hp->Prop)
def wG:Nat->Bool->aD->Hp->Prop
 |0,_,_,_=>False
 |n+1,false,m,H=>∃m0 H0,Vw k m0 H0 mg H/\wX c T r xs mg H0 fun v H1=>ok (aN H1 v) fun z=>if z=true then wX c T r xe mg H1 fun u H2=>aN H2 u=some false/\wG n true m H2 else Qe m H1
 |n+1,true,m,H=>wX c T r xq mg H fun v H1=>ok (aN H1 v) fun z=>if z=true then wX c T r xp mg H1 fun x H2=>turn x m H2 fun m' H'=>bj k m'=true/\wG n true m' H' else wG n false m H1
end
structure GT where
 env:Env
 sc:Scope
 tO:Expr
 tE:Expr
 bE:List Stmt
 tQ:Expr
 eP:Expr
 py:Pos
 px:Pos
 pE:Pos
 pQ:Pos
 pO:Pos
noncomputable def GT.bQ(g:GT):List Stmt:=[.Expr (.Yield (some g.eP) g.py) g.px]
noncomputable def GT.cQ(g:GT):Code:=.whileLoop g.tQ g.bQ [] g.env
noncomputable def GT.bO(g:GT):List Stmt:=[.While g.tE g.bE [] g.pE,.While g.tQ g.bQ [] g.pQ]
noncomputable def GT.cO(g:GT):Code:=.whileLoop g.tO g.bO [] g.env
structure EW(c:Cx)(T:aW)(g:GT)(Lg:Addr)(xs xe xq xp:X):Prop where
 env:aZ c g.sc Lg g.env
 cO:aC T g.sc xs g.tO=true
 cE:aC T g.sc xe g.tE=true
 cQ:aC T g.sc xq g.tQ=true
 cP:aC T g.sc xp g.eP=true
 co:g.env.scope.isCoroutine=false
 ia:interactive g.env=false
section
variable {c:Cx}{T:aW}{r:Nat}{W:vP c}{L Lg:Addr}{mg m:aD}{H:Hp}{Gn:Array GenState}{xs xe xq xp:X}{turn:V->aD->Hp->(aD->Hp->Prop)->Prop}{Qe:aD->Hp->Prop}{g:GT}{A:Around}
noncomputable def gY(c:Cx)(T:aW)(r:Nat)(W:vP c)(L Lg:Addr)(mg:aD)(Gn:Array GenState)(xs xe xq xp:X)(turn:V->aD->Hp->(aD->Hp->Prop)->Prop)(Qe:aD->Hp->Prop):Protocol:=fun N _ v s' kap=>
 ∃x m H n,n<=N/\bj W.k m=true/\Two c W Lg L mg m H Gn (fun B U=>VR B U v x) s'/\turn x m H (fun m' H'=>bj W.k m'=true/\wG c T r W.k mg xs xe xq xp turn Qe n true m' H') ∧
  ∀s'' m' H',Two c W Lg L mg m' H' Gn (fun _ _=>True) s''->bj W.k m'=true->wG c T r W.k mg xs xe xq xp turn Qe n true m' H'->kap (.send .none) s''
def gR(c:Cx)(W:vP c)(L Lg:Addr)(mg:aD)(Gn:Array GenState)(Qe:aD->Hp->Prop):Nat->Shared->Shared->Prop:=fun _ _ s'=>∃m H,bj W.k m=true/\Two c W Lg L mg m H Gn (fun _ _=>True) s'/\Qe m H
noncomputable abbrev gE(c:Cx)(W:vP c)(L Lg:Addr)(mg:aD)(Gn:Array GenState)(Qe:aD->Hp->Prop):GenEnd:=fun n s₀ x s₁=>x=.ok (.ret .none)/\gR c W L Lg mg Gn Qe n s₀ s₁
theorem rj(hA:Room (r+1) A){b:List Stmt}{e:Env}:Room r (A.over (.func b e) []):=by
 obtain⟨a1,a2,a3,l,a4⟩:=hA
 refine⟨?_,?_,a3,?_⟩
 ·exact IM (n:=1) rfl a1
 ·exact IN (n:=3) rfl a2
 ·exact⟨_,by show (pushEnvs [e] (pushEnvs [] A.frames)) = _;rw[a4];rfl⟩
theorem rk(hA:Room (r+1) A){b:List Stmt}{e e':Env}{t:Expr}{b1 b2:List Stmt}{k:Result->Sem Fin}{l0 kp:List Value}{p:Pos}{gu:Bool}:Room r (A.over (.whileLoop t b1 b2 e') [.ret k none gu l0 (.func b e) p kp]):=by
 obtain⟨a1,a2,a3,l,a4⟩:=hA
 refine⟨?_,?_,a3,?_⟩
 ·exact IM (n:=1) rfl a1
 ·exact IN (n:=3) rfl a2
 ·exact⟨_,by show (pushEnvs [] (pushEnvs [e] A.frames)) = _;rw[a4];rfl⟩
theorem gh(hA:Room (r+1) A){b:List Stmt}{e e' e2:Env}{t t2:Expr}{b1 b2 b3 b4:List Stmt}{k k2:Result->Sem Fin}{l0 kp l2 kp2:List Value}{p p2:Pos}{gu gu2:Bool}:Room r (A.over (.whileLoop t b1 b2 e') [.ret k2 none gu2 l2 (.whileLoop t2 b3 b4 e2) p2 kp2,.ret k none gu l0 (.func b e) p kp]):=by
 obtain⟨a1,a2,a3,l,a4⟩:=hA
 refine⟨?_,?_,a3,?_⟩
 ·exact IM (n:=1) rfl a1
 ·exact IN (n:=3) rfl a2
 ·exact⟨_,by show (pushEnvs [] (pushEnvs [e] A.frames)) = _;rw[a4];rfl⟩
theorem qI(hT:TabOk c T)(S:Still c W Lg L)(hE:aZ c g.sc Lg g.env){x:X}{e:Expr}(hc:aC T g.sc x e=true){s:Shared}(hm:bj W.k m=true){X0:Heap->Ph->Prop}(Tw:Two c W Lg L mg m H Gn X0 s){K:SV}(hw:wX c T r x mg H K)(ht:∀v H',K v H'->∃b,aN H' v=some b)
  {Ar:Around}(hA:Room r Ar){E:SU}{Q:Bool->Shared->Prop}(q:∀b v H' s',aN H' v=some b->K v H'->Two c W Lg L mg m H' Gn (fun _ _=>True) s'->Q b s'):wpAny c.M Ar (isTrue e g.env (eval e g.env)) Q E s:=
 Two.runX S hm Tw ((cp hT x).2.1 _ _ _ _ _ _ _ hE hc ht hw) hA fun v b H' s'' hq T'=>by
  obtain⟨y,h1,h2⟩:=hq
  obtain⟨h,tk,B,U,oa,oP,z,e,ht,sB,kp,ha,hoa,hoP,R,FA,FP,ex⟩:=T'
  obtain rfl:=ex
  exact q _ y H' _ h1 h2 ⟨h,tk,B,U,oa,oP,z,e,ht,sB,kp,ha,hoa,hoP,R,FA,FP,trivial⟩
theorem Ri{H:Hp}{v:V}{K:Bool->Prop}(h:ok (aN H v) K){b:Bool}(e:aN H v=some b):K b:=by rw[e] at h;exact h
theorem BG(hT:TabOk c T)(S:Still c W Lg L)(ok:EW c T g Lg xs xe xq xp)(hA:Room (r+1) A)(hmg:bj W.k mg=true){bd:List Stmt}{ev:Env}{kO:Result->Sem Fin}{lO kpO:List Value}{pO:Pos}
  (hend:∀N s₀ s m H,bj W.k m=true->Two c W Lg L mg m H Gn (fun _ _=>True) s->Qe m H->Seg c.M A (gE c W L Lg mg Gn Qe) (gY c T r W L Lg mg Gn xs xe xq xp turn Qe) N s₀ (.func bd ev) (kO (.ok .next)) [] s) :
  ∀n,(∀N,n<=N->∀s₀ s m H,bj W.k m=true->Two c W Lg L mg m H Gn (fun _ _=>True) s->wG c T r W.k mg xs xe xq xp turn Qe n false m H->Seg c.M A (gE c W L Lg mg Gn Qe) (gY c T r W L Lg mg Gn xs xe xq xp turn Qe) N s₀ g.cO (c.M.den g.cO) [.ret kO none false lO (.func bd ev) pO kpO] s) ∧
   (∀N,n<=N->∀(kk:Result->Sem Fin) (p:Pos),(∀n' N',n'<n->n'<=N'->∀s₀ s m H,bj W.k m=true->Two c W Lg L mg m H Gn (fun _ _=>True) s->wG c T r W.k mg xs xe xq xp turn Qe n' false m H->Seg c.M A (gE c W L Lg mg Gn Qe) (gY c T r W L Lg mg Gn xs xe xq xp turn Qe) N' s₀ g.cO (kk (.ok .next)) [.ret kO none false lO (.func bd ev) pO kpO] s) ->
    ∀s₀ s m H,bj W.k m=true->Two c W Lg L mg m H Gn (fun _ _=>True) s->wG c T r W.k mg xs xe xq xp turn Qe n true m H->Seg c.M A (gE c W L Lg mg Gn Qe) (gY c T r W L Lg mg Gn xs xe xq xp turn Qe) N s₀ g.cQ (c.M.den g.cQ) [.ret kk none false [] g.cO p [],.ret kO none false lO (.func bd ev) pO kpO] s):=by
 intro n
 induction n using Nat.strongRecOn with
 |ind n IH=>
  refine⟨fun N hN s₀ s m H hm Tw hw=>?_,fun N hN kk p hexit s₀ s m H hm Tw hw=>?_⟩
  ·cases n with
   |zero=>exact hw.elim
   |succ n=>
    obtain⟨m0,H0,V,hw⟩:=hw
    refine seg_whileLoop (qI hT S ok.env ok.cO hm (Tw.view S hmg hm V) hw (fun v H' h=>aQ h fun b hb _=>⟨b,hb⟩) (rk hA) fun b v H1 s1 hb hK T1=>?_)
    have hK:=Ri hK hb
    cases b with
    |false=>
     rw[ar Bool.false_ne_true] at hK ⊢
     exact seg_execs_nil (env:=g.env) (seg_leaf (.ok .next) (hend N s₀ s1 m H1 hm T1 hK))
    |true=>
     rw[au rfl] at hK ⊢
     refine seg_execs_cons (seg_While fun p1=>?_)
     refine seg_whileLoop (qI hT S ok.env ok.cE hm T1 hK (fun v H' h=>⟨_,h.1⟩) (gh hA) fun b v H2 s2 hb hK T2=>?_)
     obtain rfl:b=false:=by have:=hb.symm.trans hK.1;cases this;rfl
     rw[ar Bool.false_ne_true]
     refine seg_execs_nil (env:=g.env) (seg_leaf (.ok .next) ?_)
     refine seg_execs_cons (seg_While fun p2=>?_)
     exact (IH n (Nat.lt_succ_self _)).2 N (Nat.le_of_succ_le hN) _ p2 (fun n' N' hlt hle s₀ s m H hm Tw hw=>seg_execs_nil (env:=g.env) (seg_again rfl ((IH n' (Nat.lt_succ_of_lt hlt)).1 N' hle s₀ s m H hm Tw hw))) s₀ s2 m H2 hm T2 hK.2
  ·cases n with
   |zero=>exact hw.elim
   |succ n=>
    refine seg_whileLoop (qI hT S ok.env ok.cQ hm Tw hw (fun v H' h=>aQ h fun b hb _=>⟨b,hb⟩) (gh hA) fun b v H1 s1 hb hK T1=>?_)
    have hK:=Ri hK hb
    cases b with
    |false=>
     rw[ar Bool.false_ne_true] at hK ⊢
     exact seg_execs_nil (env:=g.env) (seg_leaf (.ok .next) (hexit n N (Nat.lt_succ_self _) (Nat.le_of_succ_le hN) s₀ s1 m H1 hm T1 hK))
    |true=>
     rw[au rfl] at hK ⊢
     obtain⟨N',rfl⟩:∃N',N=N'+1:=⟨N-1,(Nat.succ_pred_eq_of_pos (Nat.lt_of_lt_of_le (Nat.succ_pos _) hN)).symm⟩
     refine seg_execs_cons (seg_Expr_Yield (n:=N') rfl rfl rfl ?_ ok.co ok.ia)
     refine Two.runX S hm T1 ((cp hT xp).1 _ _ _ _ _ _ _ ok.env ok.cP hK) (gh hA) fun v x H2 s2 hq T2 kap hkap=>?_
     refine⟨x,m,H2,n,Nat.le_of_succ_le_succ hN,hm,T2,hq,fun s'' m' H' T' hm' hw'=>hkap .none s'' ?_⟩
     exact seg_execs_nil (env:=g.env) (seg_again rfl ((IH n (Nat.lt_succ_self _)).2 N' (Nat.le_of_succ_le_succ hN) kk p (fun n' N' hlt=>hexit n' N' (Nat.lt_succ_of_lt hlt)) s'' s'' m' H' hm' T' hw'))
end
noncomputable def BJ(K:Frag)(a:Addr)(chk:Scope->List Stmt->Bool):Bool:=(K.lookup a).any fun o=>nv (fun fd=>
  nq (chk fd.scope) fd.body&&decide (fd.scope.kind=.function)&&(!fd.scope.isCoroutine&&fd.scope.isGenerator)
  && fd.scope.names.all (fun x=>!cI x.2)&&(Nat.beq fd.globals mainGlobals&&(Nat.beq fd.builtins builtinsNs&&qw K fd.qualname fd.code))) o.data
inductive EX(K:Frag)(a:Addr)(chk:Scope->List Stmt->Bool):Prop
 |mk {o:Obj}{fd:FuncData}{body:List Stmt} (h1:K.lookup a=some o) (h2:o.data=.func fd) (h3:fd.body=.stmts body) (h4:chk fd.scope body=true) (h5:fd.scope.kind=.function) (h6:fd.scope.isCoroutine=false) (h7:fd.scope.isGenerator=true)
  (h8:∀x∈fd.scope.names,cI x.2=false) (h9:fd.globals=mainGlobals) (h10:fd.builtins=builtinsNs) (h11:CodeAt K fd.qualname fd.code)
theorem BK{K:Frag}{a:Addr}{chk:Scope->List Stmt->Bool}(e:BJ K a chk=true):EX K a chk:=
 dJ e fun o h1 e=>(sW (C:=fun d=>o.data=d->EX K a chk) e fun fd e h2=>aS e fun e e9=>aS e fun e e5=>aS e fun e e3=>aS e fun e1 e2=>
  (sN (C:=fun b=>fd.body=b->EX K a chk) e1 fun body h4 h3=>.mk h1 h2 h3 h4 (of_decide_eq_true e2) (pG (ay e3).1) (ay e3).2 (fun x hx=>pG (aq e5 x hx))
   (Nat.eq_of_beq_eq_true (ay e9).1) (Nat.eq_of_beq_eq_true (ay (ay e9).2).1) (lD (ay (ay e9).2).2)) rfl) rfl
section
variable {c:Cx}{r:Nat}{L:Addr}{m:aD}{H:Hp}{B Z:Heap}{U:Ph}{A:Around}{E:SU}{s:Shared}
theorem xN{x C f:Addr}{ox:Obj}{od:Option Obj}{Q:SU}(X:c.K.In s.heap)(I:W.InstAt s.heap x ox C od)(hs:findIn c.K (.ref C) "__iter__" = some (some (.ref f)))(hf:typeIn c.K (.ref f)=some (.type "function"))
  (h:wpAny c.M A (call (.ref f) [.ref x]) (fun it s'=>∃T' y,s'.TypeIs it T'/\typeLookup (.type T') "__next__" = pure (some y)/\Q it s') E s):wpAny c.M A (pyIter (.ref x)) Q E s:=by
 have look:Looks c.M s.heap (specialOf (.ref x) "__iter__") (some (.ref f)):=I.type.andThen (looks_findIn X hs)
 unfold pyIter
 refine wpAny_bind (look.here ?_)
 show wpAny c.M A (callSpecialIfBoundUnlessNone? (.ref x) "__iter__" _ >>= _) Q E s
 refine wpAny_bind ?_
 simp only[callSpecialIfBoundUnlessNone?,bindSpecialIfBound?]
 refine wpAny_holding (wpAny_bind (wpAny_bind (look.here ?_)))
 refine wpAny_bind (wpAny_askSetting (wpAny_ite ?_))
 have bd:Looks c.M s.heap (bindSpecial (.ref f) (.ref x)) (.ref f,[.ref x]):=bind_fn X _ hf
 have db:∀K:Sem Value,wpAny c.M A (call (.ref f) [.ref x] >>= fun v=>pure (some v)) (fun a s'=>wpAny c.M A (match a with|some it=>(do match ← specialOf it "__next__" with|none=>(do rule "iter.non-iterator"; raiseError "TypeError" s!"iter() returned non-iterator of type '{← typeNameOf it}'")|some _=>pure it)|none=>K) Q E s') E s:=fun K=>
  wpAny_bind (wpAny_mono h (fun it s' h'=>by
   obtain⟨T',y,hT',hl,hQ⟩:=h'
   exact wpAny_pure (wpAny_bind (wpAny_specialOf hT' hl (wpAny_pure hQ)))) fun _ _ x=>x)
 split
 ·exact wpAny_bind (bd.here (wpAny_pure (db _)))
 ·exact wpAny_tryCatch (wpAny_bind (bd.here (wpAny_pure (db _))))
theorem yb{f:Addr}{chk:Scope->List Stmt->Bool}{v:Value}{x:V}{i:Nat}(hcs:c.cs=[])(hf:BJ c.K f chk=true)(hb:∀S,a8 c.K S f [v]=some [(c.nm i,v)])(hl:∀sc body,chk sc body=true->sc.names.lookup (c.nm i)=some .local)
  (hA:A.depth<recursionLimit)(R:Rel c B Z U L H s.heap)(F:FrR c B U L m s.heap)(hv:VR B U v x){Q:SU}
  (q:∀Lg ga h' tk og ogn env sc body,s.toks<=tk->chk sc body=true->aZ c sc Lg env->env.scope.isCoroutine=false->interactive env=false->c.G.objs.size<=Lg->og.isFreed=false->ogn.isFreed=false->h'.IsGen ga s.gens.size->s.heap.get? Lg=none->s.heap.get? ga=none->Lg≠ga ->
   Rel c B (aI (aI Z Lg og) ga ogn) U L H h'->FrR c B U L m h'->FrR c B U Lg [(i,x)] h'->Q (.ref ga) { s with heap:=h',toks:=tk,gens:=s.gens.push (.fresh (.func body env)) }) :
  wpAny c.M A (call (.ref f) [v]) Q E s:=by
 cases BK hf with
 |@mk o fd body h1 h2 h3 h4 h5 h6 h7 h8 h9 h10 h11=>
  have hK:=R.kIn
  have hcd:s.heap.CodeRec fd.code fd.qualname:=h11.recd hK
  have hbind:BindsTo s fd ⟨[v],[]⟩ [(c.nm i,v)]:=kp_binds hK fun S=>by
   have:=hb S
   unfold a8 at this
   rw[h1] at this
   refine eF fun _ hK9=>?_
   obtain⟨c1,d1,dt,s1⟩:=o
   refine hK9 ?_
   dsimp only at h2
   subst h2
   exact this
  have hlim:s.heap.NoLimit:=c.lim.keeps (R.base.1.trans R.kB)
  refine wpAny_call (codeAny_call_generator hA (hK _ _ h1) h2 h6 h7 h3 hcd (hbind _ _ _ _ ?_))
  refine wpAny_newFunctionEnv (fun x hx q=>by have:=h8 x hx;rw[q] at this;exact OR this) (fun y hy=>by rw[List.mem_singleton.mp hy];exact hl _ _ h4) (fun h₀ hns₀ hsb₀=>⟨hlim.fresh _ hsb₀,?_⟩) h5
  have k0:∀b o,s.heap.get? b=some o->h₀.get? b=some o:=fun b o e=>(hsb₀.2 b (Nat.ne_of_lt (Heap.lt_size e))).trans (Heap.get?_push_of_some _ e)
  refine eF fun _ hK9=>?_
  obtain⟨mm,og,es,ep,eog,hd⟩:=(⟨_,hns₀⟩:∃mm,h₀.Ns s.heap.objs.size mm)
  refine hK9 ?_
  have log:=aT eog
  have nL:s.heap.objs.size≠L:=Nat.ne_of_gt F.lt
  obtain⟨R1,_⟩:=R.pinNew (a:=s.heap.objs.size) log nL (fun b o _ e=>k0 b o e) aG eog
  have F1:FrR c B U L m h₀:=F.keep fun o e=>k0 _ o e
  have lt0:s.heap.objs.size<h₀.objs.size:=Heap.lt_size eog
  generalize hgo:({ cls:=.type "generator", data:=.fields #[.int s.gens.size 0,.str fd.name _,.str fd.qualname _] }:Obj)=ogn
  have lgn:ogn.isFreed=false:=by rw[←hgo];rfl
  have gn:(h₀.push ogn).get? h₀.objs.size=some ogn:=Heap.get?_push_size _ lgn
  have n2:h₀.objs.size≠L:=Nat.ne_of_gt F1.lt
  obtain⟨R2,_⟩:=R1.pinNew (a:=h₀.objs.size) lgn n2 (ba ogn) aG gn
  have Fg:FrR c B U s.heap.objs.size [(i,x)] h₀:=⟨_,hns₀,fun j y e=>by
   rw[a6] at e
   by_cases w:i=j
   ·subst w
    rw[au rfl] at e
    cases e
    exact⟨v,(Stands.own (bR hcs i)).mpr (by simp),hv⟩
   ·rw[ar w] at e;nomatch e⟩
  refine q s.heap.objs.size h₀.objs.size _ _ og ogn _ fd.scope body ?_ h4 ⟨rfl,rfl,h9,h10,h5,Eo h8,fun j _=>bR hcs j,fun j n=>absurd hcs n⟩ h6 (by show (fd.scope.kind==.module&&_)=false;rw[h5];rfl) (ak R.LG (Nat.le_of_lt F.lt)) log lgn ⟨ogn,.str fd.name _,.str fd.qualname _,gn,by rw[←hgo],by rw[←hgo],by rw[←hgo]⟩ aG ?_ (Nat.ne_of_lt lt0) R2 (F1.keep fun o e=>Heap.get?_push_of_some _ e) (Fg.keep fun o e=>Heap.get?_push_of_some _ e)
  ·exact al s.toks 3
  ·cases w:s.heap.get? h₀.objs.size with
   |none=>rfl
   |some o=>exact absurd (Heap.lt_size (k0 _ _ w)) (Nat.lt_irrefl _)
end
noncomputable def yM(f:Option Expr->Bool)(e:Expr):Bool:=if h:e.ctorIdx=13 then Expr.Yield.elim (motive_1:=fun _=>Bool) e h fun v _=>f v else false
@[elab_as_elim] theorem Hf{f:Option Expr->Bool}{C:Expr->Prop}{e:Expr}(h:yM f e=true)(k:∀v p,f v=true->C (.Yield v p)):C e:=by
 by_cases hi:e.ctorIdx=13
 ·exact Expr.Yield.elim (motive_1:=fun x=>yM f x=true->C x) e hi k h
 ·exact nof2 ((dif_neg hi).symm.trans h)
noncomputable def xt(T:aW)(i:Nat)(s0:S)(xs xe xq xp:X)(sc:Scope)(b:List Stmt):Bool:=
 jh (fun st w=>iC T sc s0 st&&lY (fun tO b1 o=>o.isEmpty&&(aC T sc xs tO&&jh (fun w1 w2=>lY (fun tE _ o=>o.isEmpty&&aC T sc xe tE) w1&&lY (fun tQ b2 o=>o.isEmpty&&(aC T sc xq tQ&&em (CK (yM fun v=>v.any (aC T sc xp))) b2)) w2) b1)) w) b
 && (match T.nms[i]? with|some l=>a5 sc (Sl l) .local|none=>false)
theorem sY{α:Type}{w:α->α->Bool}{C:List α->Prop}{l:List α}(h:jh w l=true)(k:∀a b,w a b=true->C [a,b]):C l:=by
 rcases l with _|⟨a,_|⟨b,_|⟨d,r⟩⟩⟩
 ·exact nof2 h
 ·exact nof2 h
 ·exact k a b h
 ·exact nof2 h
section
variable {c:Cx}{T:aW}{r:Nat}{sc:Scope}
inductive cX(T:aW)(i:Nat)(s0:S)(xs xe xq xp:X)(sc:Scope):List Stmt->Prop
 |mk (g:GT) (st:Stmt) (h0:iC T sc s0 st=true) (hO:aC T sc xs g.tO=true) (hE:aC T sc xe g.tE=true) (hQ:aC T sc xq g.tQ=true) (hP:aC T sc xp g.eP=true):cX T i s0 xs xe xq xp sc [st,.While g.tO g.bO [] g.pO]
theorem xu{i:Nat}{s0:S}{xs xe xq xp:X}{b:List Stmt}(h:xt T i s0 xs xe xq xp sc b=true):cX T i s0 xs xe xq xp sc b:=by
 refine sY (C:=fun b=>cX T i s0 xs xe xq xp sc b) (ay h).1 fun st w j1=>?_
 refine nz (C:=fun w=>cX T i s0 xs xe xq xp sc [st,w]) (ay j1).2 fun tO b1 o pO j2=>?_
 obtain rfl:=List.isEmpty_iff.mp (ay j2).1
 refine sY (C:=fun b1=>cX T i s0 xs xe xq xp sc [st,.While tO b1 [] pO]) (ay (ay j2).2).2 fun w1 w2 j3=>?_
 refine nz (C:=fun w1=>cX T i s0 xs xe xq xp sc [st,.While tO [w1,w2] [] pO]) (ay j3).1 fun tE bE o pE j4=>?_
 obtain rfl:=List.isEmpty_iff.mp (ay j4).1
 refine nz (C:=fun w2=>cX T i s0 xs xe xq xp sc [st,.While tO [.While tE bE [] pE,w2] [] pO]) (ay j3).2 fun tQ b2 o pQ j5=>?_
 obtain rfl:=List.isEmpty_iff.mp (ay j5).1
 refine dc (C:=fun b2=>cX T i s0 xs xe xq xp sc [st,.While tO [.While tE bE [] pE,.While tQ b2 [] pQ] [] pO]) (ay (ay j5).2).2 fun w3 j6=>?_
 refine Er (C:=fun w3=>cX T i s0 xs xe xq xp sc [st,.While tO [.While tE bE [] pE,.While tQ [w3] [] pQ] [] pO]) j6 fun e px j7=>?_
 refine Hf (C:=fun e=>cX T i s0 xs xe xq xp sc [st,.While tO [.While tE bE [] pE,.While tQ [.Expr e px] [] pQ] [] pO]) j7 fun v py j8=>dJ j8 fun eP hv hP=>?_
 subst hv
 exact .mk ⟨default,sc,tO,tE,bE,tQ,eP,py,px,pE,pQ,pO⟩ st (ay j1).1 (ay (ay j2).2).1 (ay j4).2 (ay (ay j5).2).1 hP
theorem zn{A:Around}(hA:Room (r+1) A):Room r A.in1:=by
 obtain⟨a1,a2,a3,l,a4⟩:=hA
 refine⟨?_,?_,a3,l,a4⟩
 ·exact IM (n:=0) rfl a1
 ·exact IN (n:=1) rfl a2
theorem BH{W:vP c}{L Lg:Addr}{mg m:aD}{H:Hp}{Gn:Array GenState}{s0:S}{xs xe xq xp:X}{turn:V->aD->Hp->(aD->Hp->Prop)->Prop}{Qe:aD->Hp->Prop}{g:GT}{A:Around}{st:Stmt}{n N:Nat}{s s₀:Shared}(hT:TabOk c T)(S:Still c W Lg L)(ok:EW c T g Lg xs xe xq xp)(hA:Room (r+1) A)(hmg:bj W.k mg=true)
  (h0:iC T g.sc s0 st=true)(hn:n<=N)(hm:bj W.k m=true)(Tw:Two c W Lg L mg m H Gn (fun _ _=>True) s)(hw:wS c T r W.k s0 mg H fun fl m' H'=>fl=.next/\m'=mg/\wG c T r W.k mg xs xe xq xp turn Qe n false m H') :
  Seg c.M A (gE c W L Lg mg Gn Qe) (gY c T r W L Lg mg Gn xs xe xq xp turn Qe) N s₀ (.func [st,.While g.tO g.bO [] g.pO] g.env) (c.M.den (.func [st,.While g.tO g.bO [] g.pO] g.env)) [] s:=by
 refine seg_func (seg_execs_cons (seg_wrap (Two.runS S hm Tw ((sS hT s0).1 _ _ _ _ _ _ _ ok.env h0 hw) (rj hA) fun f fl m' H' s'' hq T'=>?_)))
 obtain⟨rfl,rfl,hq⟩:=hq
 obtain rfl:f=.next:=by
  obtain⟨_,_,_,_,_,_,_,_,_,_,_,_,_,_,_,_,_,ff⟩:=T'
  cases ff;rfl
 refine seg_execs_cons (seg_While fun p=>?_)
 refine (BG hT S ok hA hmg (fun N s₀ s m H hm Tw hq=>?_) n).1 N hn s₀ s'' m H' hm (T'.ex_ fun _ _ _=>trivial) hq
 exact seg_execs_nil (env:=g.env) (seg_end (.ok (.ret .none)) ⟨rfl,m,H,hm,Tw,hq⟩)
theorem Two.grow{W:vP c}{A P:Addr}{mA mP:aD}{H:Hp}{G:Array GenState}{s':Shared}(T:Two c W A P mA mP H G (fun _ _=>True) s'){h1:Heap}(k:∀b o,s'.heap.get? b=some o->h1.get? b=some o):Two c W A P mA mP H G (fun _ _=>True) { s' with heap:=h1 }:=by
 obtain⟨h,tk,B,U,oa,oP,x,rfl,ht,sB,kp,ha,hoa,hoP,R,FA,FP,ex⟩:=T
 exact⟨h1,tk,B,U,oa,oP,x,rfl,ht,sB,kp,ha,hoa,hoP,R.keep fun b o _ e=>k b o e,FA.keep fun o e=>k _ o e,FP.keep fun o e=>k _ o e,trivial⟩
theorem hY(G:Array GenState)(x y:GenState):(G.push x).setIfInBounds G.size y=G.push y:=by
 apply Array.toList_inj.mp
 simp[List.set_append]
def eu(c:Cx)(T:aW)(r k i:Nat)(a:Addr)(ib:S)(x:V)(m:aD)(H:Hp)(K:aD->Hp->Prop):Prop:=
 wS (c.box i a) { T with fl:=true } r k ib (pk i x m) H fun fl m' H'=>fl=.next/\∃m2,(∀j y,lk j m2=some y->i≠j/\lk j m'=some y)/\K m2 H'
theorem xl{W:vP c}{L Lg ga:Addr}{mg:aD}{i:Nat}{xs xe xq xp:X}{ib:S}{Qe:aD->Hp->Prop}{A:Around}{env:Env}{body:List Stmt}{tp:Pos}{G0:Array GenState}{gs0:GenState}{m0:aD}{H0:Hp}{ogn:Obj}{R:Result->Shared->Prop}{s:Shared}{N:Nat}
  (hT:TabOk c T)(S:Still c W L Lg)(hE:aZ c sc L env)(hA:Room (r+1) A)(hmg:bj W.k mg=true)(hk:sc.names.lookup (c.nm i)=some .cell)(ho:∀j,sc.names.lookup (c.nm j)=some .cell->j=i)(hca:env.cells.lookup (c.nm i)=some W.a)(hc:d4 { T with fl:=true } sc ib body=true)
  (hgn:W.Z.get? ga=some ogn)(hig:∀h:Heap,h.get? ga=some ogn->h.IsGen ga G0.size)(hm0:bj W.k m0=true)(Tw:Two c W L Lg m0 mg H0 (G0.push gs0) (fun _ _=>True) s)
  (hgo:gs0.Goes c.M A.in1 (gE c W L Lg mg (G0.push .running) Qe) (gY c T r W L Lg mg (G0.push .running) xs xe xq xp (eu c T r W.k i W.a ib) Qe) N (.send .none) (s.setGen G0.size .running))
  (db:∀m H s',bj W.k m=true->Two c W L Lg m mg H (G0.push .finished) (fun _ _=>True) s'->Qe m H->R (.ok .next) s') :
  codeAny c.M A (.forLoop (.Name (c.nm i) tp) (.ref ga) body [] env) R s:=by
 refine codeAny_forLoop_any (fun q s'=>∃j,q=j+1/\∃gs m H,bj W.k m=true/\Two c W L Lg m mg H (G0.push gs) (fun _ _=>True) s'/\gs.Goes c.M A.in1 (gE c W L Lg mg (G0.push .running) Qe) (gY c T r W L Lg mg (G0.push .running) xs xe xq xp (eu c T r W.k i W.a ib) Qe) j (.send .none) (s'.setGen G0.size .running)) ?_ (N+1) ⟨N,rfl,gs0,m0,H0,hm0,Tw,hgo⟩
 rintro q s1 ⟨j,rfl,gs,m,H,hm,T1,hgo⟩
 have hA':=hA.less
 obtain⟨hN,hG,hgs⟩:s1.heap.NoLimit/\s1.heap.get? ga=some ogn/\s1.gens[G0.size]?=some gs:=by
  obtain⟨h,tk,B,U,oa,oP,x,rfl,ht,sB,kp,ha,hoa,hoP,R,FA,FP,ex⟩:=T1
  exact⟨c.lim.keeps (R.base.1.trans R.kB),R.kZ _ _ (((Sub.put hoa S.za).trans (Sub.put hoP ((aE hoa S.aP).trans S.zP))) _ _ hgn),by simp⟩
 refine wpAny_pyNext_gen (P:=gR c W L Lg mg (G0.push .running) Qe) (Y:=gY c T r W L Lg mg (G0.push .running) xs xe xq xp (eu c T r W.k i W.a ib) Qe) (n:=j) hA'.2.2.1 hN (Nat.lt_of_le_of_lt (ak (al _ _) hA'.1) (by decide)) (hig _ hG) hgs hgo (fun v s2 gs' hv=>?_) (fun s2 hp h' hk'=>?_)
 ·obtain⟨x,m1,H1,nn,hle,hm1,T2,hturn,hkap⟩:=hv
  have T3:Two c W L Lg m1 mg H1 (G0.push gs') (fun B U=>VR B U v x) (s2.setGen G0.size gs'):=by
   have e2:(s2.setGen G0.size gs')={ s2 with gens:=G0.push gs' }:=by
    obtain⟨h,tk,B,U,oa,oP,x,rfl,_⟩:=T2
    show ({ W.s0 with heap:=h,toks:=tk,gens:=(G0.push GenState.running).setIfInBounds G0.size gs' }:Shared) = _
    rw[hY]
   rw[e2];exact (T2.swap S.sym).gens
  show wpAny c.M A (letOwnedTupleGo (.Name (c.nm i) tp) (.ref ga) v) _ _ _
  refine wpAny_pure ?_
  refine Two.turn (Q:=fun m' H'=>bj W.k m'=true/\wG c T r W.k mg xs xe xq xp (eu c T r W.k i W.a ib) Qe nn true m' H') S hmg hT hE hk ho hca hc hturn hA' T3 fun m2 H2 s3 hq T4=>?_
  cases j with
  |zero=>obtain rfl:=Nat.le_zero.mp hle;exact hq.2.elim
  |succ j=>
   refine⟨j+1,Nat.lt_succ_self _,j,rfl,gs',m2,H2,hq.1,T4,hkap _ m2 H2 ?_ hq.1 hq.2⟩
   have e2:(s3.setGen G0.size .running)={ s3 with gens:=G0.push .running }:=by
    obtain⟨h,tk,B,U,oa,oP,x,rfl,_⟩:=T4
    show ({ W.s0 with heap:=h,toks:=tk,gens:=(G0.push gs').setIfInBounds G0.size .running }:Shared) = _
    rw[hY]
   rw[e2];exact (T4.swap S).gens
 ·obtain⟨m1,H1,hm1,T2,hq⟩:=hp
  refine wpAny_execs_nil (db m1 H1 _ hm1 ?_ hq)
  have e2:(s2.setGen G0.size .finished)={ s2 with gens:=G0.push .finished }:=by
   obtain⟨h,tk,B,U,oa,oP,x,rfl,_⟩:=T2
   show ({ W.s0 with heap:=h,toks:=tk,gens:=(G0.push GenState.running).setIfInBounds G0.size .finished }:Shared) = _
   rw[hY]
  have T3:Two c W L Lg m1 mg H1 (G0.push .finished) (fun _ _=>True) (s2.setGen G0.size .finished):=by rw[e2];exact (T2.swap S.sym).gens
  exact T3.grow hk'
end
section
variable {c:Cx}{T:aW}{r:Nat}{sc:Scope}
theorem BE{L a f C:Addr}{i ig n0 k N:Nat}{s0:S}{xi xs xe xq xp:X}{ib:S}{Qe:aD->Hp->Prop}{A:Around}{E:SU}{env:Env}{it':Expr}{body:List Stmt}{tp pos:Pos}{m:aD}{H:Hp}{B Z:Heap}{U:Ph}{oa:Obj}{x0:Option Value}{fs:List (Nat×V)}{Q:Flow->Shared->Prop}{s:Shared}
  (hT:TabOk c T)(hcs:c.cs=[])(hE:aZ c sc L env)(hA:Room (r+2) A)(ht:1<=s.toks)(R:Rel c B (aI Z a oa) U L H s.heap)(F:FrR c B U L m s.heap)(hoa:oa.isFreed=false)(had:oa.data=.cell x0)(hZ:Z.get? a=none)(hGa:c.G.get? a=none)(hEa:c.E.get? a=none)
  (hk:sc.names.lookup (c.nm i)=some .cell)(ho:∀j,sc.names.lookup (c.nm j)=some .cell->j=i)(hca:env.cells.lookup (c.nm i)=some a)(hci:(fu it'&&aC T sc xi it')=true)(hwi:∀K:SV,K (.r n0) H->wX c T r xi m H K)(hn:H[n0]?=some (some (.inst C fs)))
  (hs:findIn c.K (.ref C) "__iter__" = some (some (.ref f)))(hf:typeIn c.K (.ref f)=some (.type "function"))(hgf:BJ c.K f (xt T ig s0 xs xe xq xp)=true)(hb:∀S v,a8 c.K S f [v]=some [(c.nm ig,v)])(hc:d4 { T with fl:=true } sc ib body=true)
  (hn0:n0<k)(hm:bj k m=true)(hw:wS c T r k s0 [(ig,.r n0)] H fun fl m' H'=>fl=.next/\m'=[(ig,.r n0)]/\wG c T r k [(ig,.r n0)] xs xe xq xp (eu c T r k i a ib) Qe N false m H')
  (db:∀h' tk B' U' oa' x' m' H',1<=tk->Sub B B'->(∀n p,n<k->U n=some p->U' n=some p)->oa'.data=.cell x'->oa'.isFreed=false->Rel c B' (aI Z a oa') U' L H' h'->FrR c B' U' L m' h'->bj k m'=true->Qe m' H'->Q .next { s with heap:=h',toks:=tk,gens:=s.gens.push .finished }) :
  wpAny c.M A (exec (.For (.Name (c.nm i) tp) it' body [] pos) env) Q E s:=by
 have hA1:Room (r+1) A:=hA.less
 have hA0:Room r A:=hA1.less
 refine wpAny_For (Tr.run ((cp hT xi).1 _ _ _ _ _ _ (fun v H'=>v=.r n0/\H'=H) hE (ay hci).2 (hwi _ ⟨rfl,rfl⟩)) hA0 ht R F trivial fun v h1 tk1 B1 U1 xv H1 ht1 sB1 sP1 R1 F1 rv q=>?_) (gZ (ay hci).1 env)
 obtain⟨rfl,rfl⟩:=q
 obtain⟨p,rfl,hφ,hcl⟩:=bD R1 rv hn
 refine mX hcl fun es j I fr cl fo=>?_
 refine xN (s:={ s with heap:=h1,toks:=tk1 }) R1.kIn I hs hf (yb (s:={ s with heap:=h1,toks:=tk1 }) hcs hgf (fun S=>hb S _) (fun sc' body' h=>?_) (Nat.lt_of_le_of_lt (ak (al _ _) hA.1) (by decide)) R1 F1 rv fun Lg ga h' tk og ogn envg scg bodyg htk hchk hEg hco hia hG lg lgn hgen n1 n2 n3 R2 FL FG=>?_)
 ·have:=(ay h).2
  split at this
  ·rename_i l hl
   rw[hT.nm _ _ hl];exact bb this
  ·nomatch this
 refine⟨"generator", _,hgen.typeIs,slot_gen_next.lookup,?_⟩
 obtain⟨ne1,zL1⟩:=bX hoa R1.LZ
 have nza:∀b,h1.get? b=none->b≠a/\Z.get? b=none/\b≠L:=fun b hb=>by
  refine⟨fun q=>?_,?_,fun q=>?_⟩
  ·rw[q,R1.kZ _ _ (aH hoa)] at hb;nomatch hb
  ·cases w:Z.get? b with
   |none=>rfl
   |some o=>rw[R1.kZ _ _ ((Sub.put hoa hZ) _ _ w)] at hb;nomatch hb
  ·obtain⟨mm,⟨o,_,_,e,_⟩,_⟩:=F1.ex
   rw[q,e] at hb;nomatch hb
 obtain⟨q1,q2,q3⟩:=nza Lg n1
 obtain⟨g1,g2,g3⟩:=nza ga n2
 let W:vP c:=⟨aI Z ga ogn,a,k,B1,U1,{ s with heap:=h1,toks:=tk1 }⟩
 have S:Still c W L Lg:=by
  refine⟨hcs,?_,?_,?_,ne1,q1,Ne.symm q3,R1.LG,hG,hGa,hEa⟩
  ·show (aI Z ga ogn).get? L=none;rw[aE lgn (Ne.symm g3)];exact zL1
  ·show (aI Z ga ogn).get? Lg=none;rw[aE lgn n3];exact q2
  ·show (aI Z ga ogn).get? a=none;rw[aE lgn (Ne.symm g1)];exact hZ
 have R3:Rel c B1 (aI (aI (aI Z ga ogn) a oa) Lg og) U1 L H1 h':=R2.weakZ ((Sub.put_both lg (c6 lgn hoa g1)).trans (c6 lgn lg (Ne.symm n3)))
 have ht':1<=tk:=ak ht1 htk
 have hmg:bj k [(ig,.r n0)]=true:=by show (decide (n0<k)&&true)=true;rw[decide_eq_true hn0];rfl
 have Tw:∀gs,Two c W L Lg m [(ig,.r n0)] H1 (s.gens.push gs) (fun _ _=>True) { s with heap:=h',toks:=tk,gens:=s.gens.push gs }:=fun gs=>⟨h',tk,B1,U1,oa,og,x0,rfl,ht',Sub.refl _,fun n p _ e=>e,had,hoa,lg,R3,FL,FG,trivial⟩
 obtain⟨o',nm',qn',e1,e2,e3,e4⟩:=hgen
 have here:h'.get? ga=some ogn:=R2.kZ _ _ (aH lgn)
 have hig:∀h:Heap,h.get? ga=some ogn->h.IsGen ga s.gens.size:=fun h e=>⟨ogn,nm',qn',e,by rw[here] at e1;cases e1;exact e2,by rw[here] at e1;cases e1;exact e3,by rw[here] at e1;cases e1;exact e4⟩
 cases xu hchk with
 |mk g st h0 hO hEr hQ hP=>
  have ok:EW c T { g with env:=envg,sc:=scg } Lg xs xe xq xp:=⟨hEg,hO,hEr,hQ,hP,hco,hia⟩
  refine xl (W:=W) (mg:=[(ig,.r n0)]) (xs:=xs) (xe:=xe) (xq:=xq) (xp:=xp) (ib:=ib) (Qe:=Qe) (N:=N) hT S hE hA1 hmg hk ho hca hc (aH lgn) hig hm (Tw _) ?_ fun m' H' s' hm' T' hq=>?_
  ·have e5:({ s with heap:=h',toks:=tk,gens:=s.gens.push (.fresh (.func [st,.While g.tO g.bO [] g.pO] envg)) }:Shared).setGen s.gens.size .running={ s with heap:=h',toks:=tk,gens:=s.gens.push .running }:=by
    show ({ s with heap:=h',toks:=tk,gens:=(s.gens.push _).setIfInBounds s.gens.size .running }:Shared) = _
    rw[hY]
   refine⟨rfl,?_⟩
   rw[e5]
   exact BH (g:={ g with env:=envg,sc:=scg }) hT S.sym ok (zn hA) hmg h0 (ao N) hm ((Tw .running).swap S) hw
  ·obtain⟨h2,tk2,B2,U2,oa2,oP2,x2,rfl,ht2,sB2,kp2,ha2,hoa2,hoP2,R4,F4,FP4,ex⟩:=T'
   refine db h2 tk2 B2 U2 oa2 x2 m' H' ht2 (sB1.trans sB2) (fun n p hn e=>kp2 n p hn (sP1 _ _ e)) ha2 hoa2 (R4.weakZ ?_) F4 hm' hq
   exact ((Sub.put_both hoa2 (Sub.put lgn g2)).trans (Sub.put hoP2 ((aE hoa2 q1).trans S.zP)))
end
section
variable {c:Cx}{T:aW}{r:Nat}{sc:Scope}{L:Addr}{env:Env}{m:aD}{H:Hp}{B Z h h':Heap}{U:Ph}
theorem C0(base:Bs c B)(kB:Sub B h)(kZ:Sub Z h)(dom:∀n,U n=none)(LB:B.get? L=none)(LZ:Z.get? L=none)(LG:c.G.objs.size<=L)(BZ:∀b o,Z.get? b=some o->B.get? b=none):Rel c B Z U L [] h where
 base:=base
 kB:=kB
 kZ:=kZ
 cell n cl e:=by nomatch e
 free n p hl:=by obtain⟨cl,e⟩:=hl;nomatch e
 apart n n' p p' _ hl:=by obtain⟨cl,e⟩:=hl;nomatch e
 dom n _:=dom n
 LB:=LB
 LZ:=LZ
 LG:=LG
 BZ:=BZ
theorem Fi{i:Nat}{a:Addr}{d:D}(s:Sub c.E B)(hc:∃v,B.IsCell a (some v)/\DV B v d)(j:Nat)(b:Addr)(y:D)(hm:(j,b,y)∈(i,a,d)::c.fr):∃v,B.IsCell b (some v)/\DV B v y:=by
 rcases List.mem_cons.mp hm with e|hm
 ·cases e;exact hc
 ·obtain⟨v,⟨o,ho,hd⟩,dv⟩:=c.frOk j b y hm
  exact⟨v,⟨o,s _ _ ho,hd⟩,dv.mono s⟩
noncomputable def _root_.Mine.Cx.cap(c:Cx)(i:Nat)(a:Addr)(d:D)(B:Heap)(s:Sub c.E B)(hc:∃v,B.IsCell a (some v)/\DV B v d):Cx:={ c with E:=B,fr:=(i,a,d)::c.fr,frOk:=Fi s hc }
end
theorem Iv{M:Model}{Γ:Ctx}{ys:List Stmt}{env:Env}{Q:Flow->Pos->Shared->Prop}{E:Value->Pos->Shared->Prop}:∀(xs:List Stmt) (p:Pos) (s:Shared),Sem.wp M Γ (execs xs env) (fun f p' s'=>match f with|.next=>Sem.wp M Γ (execs ys env) Q E p' s'|f=>Q f p' s') E p s->Sem.wp M Γ (execs (xs++ys) env) Q E p s:=by
 intro xs
 induction xs with
 |nil=>intro p s h;exact h
 |cons x xs ihr=>
  intro p s h
  rw[List.cons_append,execs_cons,Sem.wp_bind']
  rw[execs_cons,Sem.wp_bind'] at h
  refine Sem.wp_mono M Γ _ (fun f p' s' h'=>?_) (fun _ _ _ h'=>h') _ _ h
  cases f<;>first|exact ihr p' s' h'|exact h'
theorem ua{M:Model}{A:Around}{E:SU}{Q:Flow->Shared->Prop}{env:Env}{xs ys:List Stmt}{s:Shared}(h:wpAny M A (execs xs env) (fun f s'=>match f with|.next=>wpAny M A (execs ys env) Q E s'|f=>Q f s') E s):wpAny M A (execs (xs++ys) env) Q E s:=fun Γ p hΓ=>by
 refine Iv xs p s (Sem.wp_mono M Γ _ (fun f p' s' h'=>?_) (fun _ _ _ h'=>h') _ _ (h Γ p hΓ))
 cases f<;>first|exact h' Γ p' hΓ|exact h'
section
variable {c:Cx}{T:aW}{r:Nat}{sc:Scope}{L:Addr}{env:Env}{m:aD}{H:Hp}{B Z h h':Heap}{U:Ph}
theorem u4{M:Model}{A:Around}{E:SU}{s:Shared}{scope:Scope}{globals:Addr}{x:Str}{v:Value}{qual:Str}{func:Option Addr}{code:Value}{builtins:Addr}{Q:Env->Shared->Prop}
  (hk:scope.kind=.function)(hl:scope.names.lookup x=some .local)
  (hQ:∀h',h'.Ns s.heap.objs.size (fun y=>if y=x then some v else none)->(∀b o,s.heap.get? b=some o->h'.get? b=some o)->CellsOk h' (s.heap.objs.size+1) (cellsFrom (s.heap.objs.size+1) scope.names []) ->
   Q (newEnv scope s.heap.objs.size globals (cellsFrom (s.heap.objs.size+1) scope.names []) qual func code none builtins) { s with heap:=h',toks:=s.toks+1 }) :
  wpAny M A (newFunctionEnv scope globals [] [(x,v)] qual func code none builtins) Q E s:=by
 simp only[newFunctionEnv,Option.isSome_none,Bool.false_eq_true,if_false]
 refine wpAny_bind (wpAny_alloc ?_)
 refine wpAny_bind (wpAny_layCells _ (fun name kind cells=>by cases hkc:kind==NameKind.cell<;>simp[hkc]) _ _ _ _ ?_)
 have ok:=cellsFrom_ok scope.names (s.heap.push { cls:=.type "frame", data:=.dict #[] }) (s.heap.objs.size+1) [] ⟨fun _ _ hm=>(nomatch hm),List.Pairwise.nil⟩ (by rw[Heap.size_push];exact ao _)
 rw[Heap.size_push] at ok
 rw[show ({ s with heap:=s.heap.push { cls:=.type "frame", data:=.dict #[] } }:Shared).heap.objs.size=s.heap.objs.size+1 from Heap.size_push ..]
 refine wpAny_bind ?_
 rw[List.forIn_cons]
 refine wpAny_bind (wpAny_bind ?_)
 refine wpAny_storeName_local (m:=fun _=>none) hl ((Heap.Ns.new s.heap (.type "frame")).keeps (pushCells_keeps _ _)) (fun h' hns hs=>wpAny_pure ?_) (by show (scope.kind==.class||_)=false;rw[hk];rfl)
 show wpAny M A (forIn [] _ _) _ _ _
 rw[List.forIn_nil]
 refine wpAny_pure (wpAny_pure (hQ h' hns (fun b o e=>(hs.2 b (Nat.ne_of_lt (Heap.lt_size e))).trans (pushCells_keeps _ _ b o (Heap.get?_push_of_some _ e))) ⟨fun n c hm=>?_,ok.apart⟩))
 obtain⟨h1,h2⟩:=ok.empty n c hm
 exact⟨h1.sameBut hs (Nat.ne_of_gt h2),h2⟩
end
open H (vi vs vr)
noncomputable def qK:D:=.none
noncomputable def iJ:D:=(.tuple [(.int 3),(.int 4),(.int 5)])
noncomputable def dw:D:=(.tuple [(st [9]),(st [10]),(st [12]),(st [32]),(st [13])])
noncomputable def eS:D:=(.tuple [(st [97]),(st [98]),(st [99]),(st [100]),(st [101]),(st [102]),(st [103]),(st [104]),(st [105]),(st [106]),(st [107]),(st [108]),(st [109]),(st [110]),(st [111]),(st [112]),(st [113]),(st [114]),(st [115]),(st [116]),(st [117]),(st [118]),(st [119]),(st [120]),(st [121]),(st [122]),(st [65]),(st [66]),(st [67]),(st [68]),(st [69]),(st [70]),(st [71]),(st [72]),(st [73]),(st [74]),(st [75]),(st [76]),(st [77]),(st [78]),(st [79]),(st [80]),(st [81]),(st [82]),(st [83]),(st [84]),(st [85]),(st [86]),(st [87]),(st [88]),(st [89]),(st [90])])
noncomputable def tl:TL where
 nms:=[[99],[116,101,120,116],[115,101,108,102],[112,108,97,99,101],[112,97,114,116],[115,105,122,101],[99,111,100,101,112,111,105,110,116],[114,101,112,111,114,116,67,104,97,114,97,99,116,101,114,69,114,114,111,114,115],[99,104,97,114,97,99,116,101,114,69,114,114,111,114,115,85,67,83,52],[110,101,119,76,105,110,101,115],[100,97,116,97,83,116,114,101,97,109],[111,112,101,110,83,116,114,101,97,109],[115,111,117,114,99,101],[114,101,115,101,116],[99,104,117,110,107],[99,104,117,110,107,83,105,122,101],[99,104,117,110,107,79,102,102,115,101,116],[101,114,114,111,114,115],[112,114,101,118,78,117,109,76,105,110,101,115],[112,114,101,118,78,117,109,67,111,108,115],[95,98,117,102,102,101,114,101,100,67,104,97,114,97,99,116,101,114],[115,116,114,101,97,109],[110,76,105,110,101,115],[111,102,102,115,101,116],[112,111,115,105,116,105,111,110,76,105,110,101],[108,97,115,116,76,105,110,101,80,111,115],[112,111,115,105,116,105,111,110,67,111,108,117,109,110],[108,105,110,101],[99,111,108],[95,112,111,115,105,116,105,111,110],[114,101,97,100,67,104,117,110,107],[99,104,97,114],[95,100,101,102,97,117,108,116,67,104,117,110,107,83,105,122,101],[100,97,116,97],[114,101,97,100],[108,97,115,116,118],[114,118],[101,110,100],[99,104,97,114,97,99,116,101,114,115],[111,112,112,111,115,105,116,101],[114],[112,97,114,115,101,114],[101,115,99,97,112,101,70,108,97,103],[108,97,115,116,70,111,117,114,67,104,97,114,115],[115,116,97,116,101],[100,97,116,97,83,116,97,116,101],[101,115,99,97,112,101],[99,117,114,114,101,110,116,84,111,107,101,110],[116,111,107,101,110],[114,97,119],[116,111,107,101,110,81,117,101,117,101],[116,121,112,101],[115,99,114,105,112,116],[110],[99,104,97,114,115,85,110,116,105,108],[99,104,97,114,115],[115,105,103,110],[105,110,115,105,100,101],[117,110,103,101,116],[116,111,108,100],[119,104,111,108,101],[105,110,110,101,114],[110,97,109,101],[115,101,108,102,67,108,111,115,105,110,103],[98,101,102,111,114,101,65,116,116,114,105,98,117,116,101,78,97,109,101,83,116,97,116,101],[115,101,108,102,67,108,111,115,105,110,103,83,116,97,114,116,84,97,103,83,116,97,116,101],[101,109,105,116,67,117,114,114,101,110,116,84,111,107,101,110],[110,111,116,101],[109,101,110,100,101,100],[114,111,119],[99,111,108,117,109,110],[103,111,116],[116,111,107,101,110,105,122,101,114],[107,105,110,100],[107,101,121],[107],[112,97,105,114],[99,104,97,114,83,116,97,99,107],[109,97,116,99,104,101,100],[101,120,112,101,99,116,101,100],[112,117,98,108,105,99,73,100],[115,121,115,116,101,109,73,100],[99,111,114,114,101,99,116],[99,111,109,109,101,110,116,83,116,97,114,116,83,116,97,116,101],[100,111,99,116,121,112,101,83,116,97,116,101],[47],[33],[63],[95,49],[95,50],[95,51],[95,52],[95,53],[112,111,115,105,116,105,111,110],[68,111,99,116,121,112,101],[67,104,97,114,97,99,116,101,114,115],[83,112,97,99,101,67,104,97,114,97,99,116,101,114,115],[83,116,97,114,116,84,97,103],[69,110,100,84,97,103],[69,109,112,116,121,84,97,103],[67,111,109,109,101,110,116],[80,97,114,115,101,69,114,114,111,114],[95,54],[101,110,116,105,116,121,68,97,116,97,83,116,97,116,101],[116,97,103,79,112,101,110,83,116,97,116,101],[95,55],[95,56],[109,97,114,107,117,112,68,101,99,108,97,114,97,116,105,111,110,79,112,101,110,83,116,97,116,101],[99,108,111,115,101,84,97,103,79,112,101,110,83,116,97,116,101],[115,101,108,102,67,108,111,115,105,110,103,65,99,107,110,111,119,108,101,100,103,101,100],[116,97,103,78,97,109,101,83,116,97,116,101],[98,111,103,117,115,67,111,109,109,101,110,116,83,116,97,116,101],[100,97,116,97,118,97,114,115],[95,95,105,116,101,114,95,95]]
 gnm:=[[84,101,120,116],[69,79,70],[95,105,115,95,105,110,118,97,108,105,100],[72,84,77,76,85,110,105,99,111,100,101,73,110,112,117,116,83,116,114,101,97,109],[116,97,103,84,111,107,101,110,84,121,112,101,115],[97,115,99,105,105,76,111,119,101,114],[116,111,107,101,110,84,121,112,101,115],[115,112,97,99,101,67,104,97,114,97,99,116,101,114,115],[97,115,99,105,105,76,101,116,116,101,114,115],[95,108,97,119,95,83,73,71,78,83],[95,108,97,119,95,76,69,84,84,69,82,83],[95,108,97,119,95,66,76,65,78,75,83],[95,108,97,119,95,66,79,71,85,83],[95,108,97,119,95,116,101,120,116],[95,108,97,119,95,109,101,110,100,101,100],[95,108,97,119,95,108,97,115,116],[95,108,97,119,95,116,97,103],[95,108,97,119,95,114,111,119],[72,84,77,76,84,111,107,101,110,105,122,101,114]]
 gl:=[.g (.ref 73),.d qK,.g (.ref 84),.g (.ref 166),.d iJ,.g (.ref 42),.g (.ref 48),.d dw,.d eS,.g (.ref 773),.g (.ref 780),.g (.ref 787),.g (.ref 794),.g (.ref 801),.g (.ref 806),.g (.ref 813),.g (.ref 818),.g (.ref 825),.g (.ref 762)]
 fns:=[63,70,98,105,112,119,126,133,141,148,156,163,261,268,297,304,353,360,367,605,598]
 kps:=[0,2,3,5,9,10,11,12,13,14,15,16,17,18]
 cds:=[(48,[(94,.d (.int 0)),(95,.d (.int 1)),(96,.d (.int 2)),(97,.d (.int 3)),(98,.d (.int 4)),(99,.d (.int 5)),(100,.d (.int 6)),(101,.d (.int 7))])]
 meths:=[((73,34),70),((166,13),105),((166,11),112),((166,29),119),((166,93),126),((166,31),133),((166,30),141),((166,8),148),((166,54),156),((166,58),163),((762,113),268),((762,66),297),((762,45),304),((762,104),353),((762,108),360),((762,110),367),((762,107),605),((762,111),598),((762,103),311),((762,64),535),((762,65),591),((762,83),612),((762,84),654)]
 flds:=[(73,3),(73,1),(166,20),(166,14),(166,16),(166,15),(166,10),(166,17),(166,9),(166,19),(166,18),(166,7),(762,47),(762,46),(762,42),(762,43),(762,41),(762,44),(762,21),(762,50)]
 cats:=[((166,32),((.int 10240 624),.d (.int 10240)))]
noncomputable def mO:S:=
 (.seq (.ret (.bm .join (.c (st [])) (.cons (.comp (.ife (.cmp2 (.c (st [65])) .le (.v 0) .le (.c (st [90]))) (.bi .chr (.cons (.bin .add (.bi .ord (.cons (.v 0) .nil)) (.c (.int 32))) .nil)) (.v 0)) 0 (.v 1) .non) .nil)))
  .nil)
noncomputable def uD:S:=
 (.seq (.asg (.at (.v 2) 1) (.v 1))
  (.seq (.asg (.at (.v 2) 3) (.c (.int 0)))
  .nil))
noncomputable def uE:S:=
 (.seq (.asg (.nm 4) (.sl (.at (.v 2) 1) (.at (.v 2) 3) (.bin .add (.at (.v 2) 3) (.v 5))))
  (.seq (.augA (.v 2) 3 .add (.bi .len (.cons (.v 4) .nil)))
  (.seq (.ret (.v 4))
  .nil)))
noncomputable def mQ:S:=
 (.seq (.ret (.or (.cmp2 (.c (.int 1)) .le (.v 6) .le (.c (.int 8))) (.or (.cmp (.v 6) .eq (.c (.int 11))) (.or (.cmp2 (.c (.int 14)) .le (.v 6) .le (.c (.int 31))) (.or (.cmp2 (.c (.int 127)) .le (.v 6) .le (.c (.int 159))) (.or (.cmp2 (.c (.int 64976)) .le (.v 6) .le (.c (.int 65007))) (.or (.cmp (.bin .mod (.v 6) (.c (.int 65536))) .mem (.tup (.cons (.c (.int 65534)) (.cons (.c (.int 65535)) .nil)))) (.cmp2 (.c (.int 55296)) .le (.v 6) .le (.c (.int 57343))))))))))
  .nil)
noncomputable def uC:S:=
 (.seq (.asg (.at (.v 2) 7) (.at (.v 2) 8))
  (.seq (.asg (.at (.v 2) 9) (.lst 0 (.cons (.c (.int 0)) .nil)))
  (.seq (.asg (.at (.v 2) 10) (.mc (.v 2) 11 (.cons (.v 12) .nil)))
  (.seq (.ex (.mc (.v 2) 13 .nil))
  .nil))))
noncomputable def qM:S:=
 (.seq (.asg (.at (.v 2) 14) (.c (st [])))
  (.seq (.asg (.at (.v 2) 15) (.c (.int 0)))
  (.seq (.asg (.at (.v 2) 16) (.c (.int 0)))
  (.seq (.asg (.at (.v 2) 17) (.lst 1 .nil))
  (.seq (.asg (.at (.v 2) 18) (.c (.int 0)))
  (.seq (.asg (.at (.v 2) 19) (.c (.int 0)))
  (.seq (.asg (.at (.v 2) 20) (.c .none))
  .nil)))))))
noncomputable def jp:S:=
 (.seq (.asg (.nm 21) (.call 0 (.cons (.v 12) .nil)))
  (.seq (.ret (.v 21))
  .nil))
noncomputable def kf:S:=
 (.seq (.asg (.nm 14) (.at (.v 2) 14))
  (.seq (.asg (.nm 22) (.bm .count3 (.v 14) (.cons (.c (st [10])) (.cons (.c (.int 0)) (.cons (.v 23) .nil)))))
  (.seq (.asg (.nm 24) (.bin .add (.at (.v 2) 18) (.v 22)))
  (.seq (.asg (.nm 25) (.bm .rfind3 (.v 14) (.cons (.c (st [10])) (.cons (.c (.int 0)) (.cons (.v 23) .nil)))))
  (.seq (.ite (.cmp (.v 25) .eq (.neg (.c (.int 1))))
  (.seq (.asg (.nm 26) (.bin .add (.at (.v 2) 19) (.v 23)))
  .nil)
  (.seq (.asg (.nm 26) (.bin .sub (.v 23) (.bin .add (.v 25) (.c (.int 1)))))
  .nil))
  (.seq (.ret (.tup (.cons (.v 24) (.cons (.v 26) .nil))))
  .nil))))))
noncomputable def li:S:=
 (.seq (.asg (.tup (.tcons (.nm 27) (.tcons (.nm 28) .tnil))) (.mc (.v 2) 29 (.cons (.at (.v 2) 16) .nil)))
  (.seq (.ret (.tup (.cons (.bin .add (.v 27) (.c (.int 1))) (.cons (.v 28) .nil))))
  .nil))
noncomputable def lK:S:=
 (.seq (.ite (.cmp (.at (.v 2) 16) .ge (.at (.v 2) 15))
  (.seq (.ite (.not (.mc (.v 2) 30 .nil))
  (.seq (.ret (.g 1))
  .nil)
  .nil)
  .nil)
  .nil)
  (.seq (.asg (.nm 16) (.at (.v 2) 16))
  (.seq (.asg (.nm 31) (.ix (.at (.v 2) 14) (.v 16)))
  (.seq (.asg (.at (.v 2) 16) (.bin .add (.v 16) (.c (.int 1))))
  (.seq (.ret (.v 31))
  .nil)))))
noncomputable def dz:S:=
 (.seq (.ite (.cmp (.v 15) .is (.c .none))
  (.seq (.asg (.nm 15) (.at (.v 2) 32))
  .nil)
  .nil)
  (.seq (.asg (.tup (.tcons (.at (.v 2) 18) (.tcons (.at (.v 2) 19) .tnil))) (.mc (.v 2) 29 (.cons (.at (.v 2) 15) .nil)))
  (.seq (.asg (.at (.v 2) 14) (.c (st [])))
  (.seq (.asg (.at (.v 2) 15) (.c (.int 0)))
  (.seq (.asg (.at (.v 2) 16) (.c (.int 0)))
  (.seq (.asg (.nm 33) (.mc (.at (.v 2) 10) 34 (.cons (.v 15) .nil)))
  (.seq (.ite (.at (.v 2) 20)
  (.seq (.asg (.nm 33) (.bin .add (.at (.v 2) 20) (.v 33)))
  (.seq (.asg (.at (.v 2) 20) (.c .none))
  .nil))
  (.seq (.ite (.not (.v 33))
  (.seq (.ret (.c (.bool false)))
  .nil)
  .nil)
  .nil))
  (.seq (.ite (.cmp (.bi .len (.cons (.v 33) .nil)) .gt (.c (.int 1)))
  (.seq (.asg (.nm 35) (.bi .ord (.cons (.ix (.v 33) (.neg (.c (.int 1)))) .nil)))
  (.seq (.ite (.or (.cmp (.v 35) .eq (.c (.int 13))) (.cmp2 (.c (.int 55296)) .le (.v 35) .le (.c (.int 56319))))
  (.seq (.asg (.at (.v 2) 20) (.ix (.v 33) (.neg (.c (.int 1)))))
  (.seq (.asg (.nm 33) (.sl (.v 33) .non (.neg (.c (.int 1)))))
  .nil))
  .nil)
  .nil))
  .nil)
  (.seq (.ite (.at (.v 2) 7)
  (.seq (.ex (.mc (.v 2) 7 (.cons (.v 33) .nil)))
  .nil)
  .nil)
  (.seq (.asg (.nm 33) (.repl (.v 33) [13,10] [10]))
  (.seq (.asg (.nm 33) (.repl (.v 33) [13] [10]))
  (.seq (.asg (.at (.v 2) 14) (.v 33))
  (.seq (.asg (.at (.v 2) 15) (.bi .len (.cons (.v 33) .nil)))
  (.seq (.ret (.c (.bool true)))
  .nil))))))))))))))
noncomputable def ci:S:=
 (.seq (.for (.nm 0) (.v 33)
  (.seq (.ite (.call 2 (.cons (.bi .ord (.cons (.v 0) .nil)) .nil))
  (.seq (.ex (.app (.at (.v 2) 17) (.c (st [105,110,118,97,108,105,100,45,99,111,100,101,112,111,105,110,116]))))
  .nil)
  .nil)
  .nil))
  .nil)
noncomputable def bu:S:=
 (.seq (.asg (.nm 36) (.lst 1 .nil))
  (.seq (.whl (.c (.bool true))
  (.seq (.asg (.nm 37) (.at (.v 2) 16))
  (.seq (.whl (.and (.cmp (.v 37) .ne (.at (.v 2) 15)) (.cmp (.cmp (.ix (.at (.v 2) 14) (.v 37)) .mem (.v 38)) .eq (.v 39)))
  (.seq (.augN 37 .add (.c (.int 1)))
  .nil))
  (.seq (.ite (.cmp (.v 37) .eq (.at (.v 2) 16))
  (.seq (.ite (.cmp (.at (.v 2) 16) .ne (.at (.v 2) 15))
  (.seq .brk
  .nil)
  .nil)
  .nil)
  (.seq (.ite (.cmp (.v 37) .ne (.at (.v 2) 15))
  (.seq (.ex (.app (.v 36) (.sl (.at (.v 2) 14) (.at (.v 2) 16) (.v 37))))
  (.seq (.asg (.at (.v 2) 16) (.v 37))
  (.seq .brk
  .nil)))
  .nil)
  .nil))
  (.seq (.ex (.app (.v 36) (.sl (.at (.v 2) 14) (.at (.v 2) 16) .non)))
  (.seq (.ite (.not (.mc (.v 2) 30 .nil))
  (.seq .brk
  .nil)
  .nil)
  .nil))))))
  (.seq (.asg (.nm 40) (.bm .join (.c (st [])) (.cons (.v 36) .nil)))
  (.seq (.ret (.v 40))
  .nil))))
noncomputable def qN:S:=
 (.seq (.ite (.cmp (.v 31) .isn (.g 1))
  (.seq (.ite (.cmp (.at (.v 2) 16) .eq (.c (.int 0)))
  (.seq (.asg (.at (.v 2) 14) (.bin .add (.v 31) (.at (.v 2) 14)))
  (.seq (.augA (.v 2) 15 .add (.c (.int 1)))
  .nil))
  (.seq (.augA (.v 2) 16 .sub (.c (.int 1)))
  (.seq (.asrt (.cmp (.ix (.at (.v 2) 14) (.at (.v 2) 16)) .eq (.v 31)))
  .nil)))
  .nil)
  .nil)
  .nil)
noncomputable def lL:S:=
 (.seq (.asg (.at (.v 2) 21) (.call 3 (.cons (.v 21) .nil)))
  (.seq (.asg (.at (.v 2) 41) (.v 41))
  (.seq (.asg (.at (.v 2) 42) (.c (.bool false)))
  (.seq (.asg (.at (.v 2) 43) (.lst 0 .nil))
  (.seq (.asg (.at (.v 2) 44) (.at (.v 2) 45))
  (.seq (.asg (.at (.v 2) 46) (.c (.bool false)))
  (.seq (.asg (.at (.v 2) 47) (.c .none))
  .nil)))))))
noncomputable def mR:S:=
 (.asg (.at (.v 2) 50) (.lst 2 .nil))
noncomputable def n7:X:=(.mc (.v 2) 44 .nil)
noncomputable def n6:X:=(.at (.at (.v 2) 21) 17)
noncomputable def io:X:=(.at (.v 2) 50)
noncomputable def jE:X:=(.pop (.at (.v 2) 50) true)
noncomputable def cN:S:=
 (.seq (.asg (.nm 48) (.at (.v 2) 47))
  (.seq (.ite (.cmp (.ix (.v 48) (.c (st [116,121,112,101]))) .mem (.g 4))
  (.seq (.asg (.ix (.v 48) (.c (st [110,97,109,101]))) (.call 5 (.cons (.ix (.v 48) (.c (st [110,97,109,101]))) .nil)))
  (.seq (.ite (.cmp (.ix (.v 48) (.c (st [116,121,112,101]))) .eq (.ix (.g 6) (.c (st [83,116,97,114,116,84,97,103]))))
  (.seq (.asg (.nm 49) (.ix (.v 48) (.c (st [100,97,116,97]))))
  (.seq (.asg (.nm 33) (.dic (.v 49)))
  (.seq (.ite (.cmp (.bi .len (.cons (.v 49) .nil)) .gt (.bi .len (.cons (.v 33) .nil)))
  (.seq .dead
  .nil)
  .nil)
  (.seq (.asg (.ix (.v 48) (.c (st [100,97,116,97]))) (.v 33))
  .nil))))
  .nil)
  (.seq (.ite (.cmp (.ix (.v 48) (.c (st [116,121,112,101]))) .eq (.ix (.g 6) (.c (st [69,110,100,84,97,103]))))
  (.seq (.ite (.ix (.v 48) (.c (st [100,97,116,97])))
  (.seq (.ex (.app (.at (.v 2) 50) (.dct [51,33] (.cons (.ix (.g 6) (.c (st [80,97,114,115,101,69,114,114,111,114]))) (.cons (.c (st [97,116,116,114,105,98,117,116,101,115,45,105,110,45,101,110,100,45,116,97,103])) .nil)))))
  .nil)
  .nil)
  (.seq (.ite (.ix (.v 48) (.c (st [115,101,108,102,67,108,111,115,105,110,103])))
  (.seq (.ex (.app (.at (.v 2) 50) (.dct [51,33] (.cons (.ix (.g 6) (.c (st [80,97,114,115,101,69,114,114,111,114]))) (.cons (.c (st [115,101,108,102,45,99,108,111,115,105,110,103,45,102,108,97,103,45,111,110,45,101,110,100,45,116,97,103])) .nil)))))
  .nil)
  .nil)
  .nil))
  .nil)
  .nil)))
  .nil)
  (.seq (.ex (.app (.at (.v 2) 50) (.v 48)))
  (.seq (.asg (.at (.v 2) 44) (.at (.v 2) 45))
  .nil))))
noncomputable def fk:S:=
 (.seq (.asg (.nm 33) (.mc (.at (.v 2) 21) 31 .nil))
  (.seq (.ite (.cmp (.v 33) .eq (.c (st [38])))
  (.seq (.asg (.at (.v 2) 44) (.at (.v 2) 103))
  .nil)
  (.seq (.ite (.cmp (.v 33) .eq (.c (st [60])))
  (.seq (.asg (.at (.v 2) 44) (.at (.v 2) 104))
  .nil)
  (.seq (.ite (.cmp (.v 33) .eq (.c (st [0])))
  (.seq (.ex (.app (.at (.v 2) 50) (.dct [51,33] (.cons (.ix (.g 6) (.c (st [80,97,114,115,101,69,114,114,111,114]))) (.cons (.c (st [105,110,118,97,108,105,100,45,99,111,100,101,112,111,105,110,116])) .nil)))))
  (.seq (.ex (.app (.at (.v 2) 50) (.dct [51,33] (.cons (.ix (.g 6) (.c (st [67,104,97,114,97,99,116,101,114,115]))) (.cons (.c (st [0])) .nil)))))
  .nil))
  (.seq (.ite (.cmp (.v 33) .is (.g 1))
  (.seq (.ret (.c (.bool false)))
  .nil)
  (.seq (.ite (.cmp (.v 33) .mem (.g 7))
  (.seq (.ex (.app (.at (.v 2) 50) (.dct [51,33] (.cons (.ix (.g 6) (.c (st [83,112,97,99,101,67,104,97,114,97,99,116,101,114,115]))) (.cons (.bin .add (.v 33) (.mc (.at (.v 2) 21) 54 (.cons (.g 7) (.cons (.c (.bool true)) .nil)))) .nil)))))
  .nil)
  (.seq (.asg (.nm 55) (.mc (.at (.v 2) 21) 54 (.cons (.tup (.cons (.c (st [38])) (.cons (.c (st [60])) (.cons (.c (st [0])) .nil)))) .nil)))
  (.seq (.ex (.app (.at (.v 2) 50) (.dct [51,33] (.cons (.ix (.g 6) (.c (st [67,104,97,114,97,99,116,101,114,115]))) (.cons (.bin .add (.v 33) (.v 55)) .nil)))))
  .nil)))
  .nil))
  .nil))
  .nil))
  .nil))
  (.seq (.ret (.c (.bool true)))
  .nil)))
noncomputable def dQ:S:=
 (.seq (.asg (.nm 33) (.mc (.at (.v 2) 21) 31 .nil))
  (.seq (.ite (.cmp (.v 33) .eq (.c (st [33])))
  (.seq (.asg (.at (.v 2) 44) (.at (.v 2) 107))
  .nil)
  (.seq (.ite (.cmp (.v 33) .eq (.c (st [47])))
  (.seq (.asg (.at (.v 2) 44) (.at (.v 2) 108))
  .nil)
  (.seq (.ite (.cmp (.v 33) .mem (.g 8))
  (.seq (.asg (.at (.v 2) 47) (.dct [51,62,33,63,109] (.cons (.ix (.g 6) (.c (st [83,116,97,114,116,84,97,103]))) (.cons (.v 33) (.cons .nl (.cons (.c (.bool false)) (.cons (.c (.bool false)) .nil)))))))
  (.seq (.asg (.at (.v 2) 44) (.at (.v 2) 110))
  .nil))
  (.seq (.ite (.cmp (.v 33) .eq (.c (st [62])))
  (.seq (.ex (.app (.at (.v 2) 50) (.dct [51,33] (.cons (.ix (.g 6) (.c (st [80,97,114,115,101,69,114,114,111,114]))) (.cons (.c (st [101,120,112,101,99,116,101,100,45,116,97,103,45,110,97,109,101,45,98,117,116,45,103,111,116,45,114,105,103,104,116,45,98,114,97,99,107,101,116])) .nil)))))
  (.seq (.ex (.app (.at (.v 2) 50) (.dct [51,33] (.cons (.ix (.g 6) (.c (st [67,104,97,114,97,99,116,101,114,115]))) (.cons (.c (st [60,62])) .nil)))))
  (.seq (.asg (.at (.v 2) 44) (.at (.v 2) 45))
  .nil)))
  (.seq (.ite (.cmp (.v 33) .eq (.c (st [63])))
  (.seq (.ex (.app (.at (.v 2) 50) (.dct [51,33] (.cons (.ix (.g 6) (.c (st [80,97,114,115,101,69,114,114,111,114]))) (.cons (.c (st [101,120,112,101,99,116,101,100,45,116,97,103,45,110,97,109,101,45,98,117,116,45,103,111,116,45,113,117,101,115,116,105,111,110,45,109,97,114,107])) .nil)))))
  (.seq (.ex (.mc (.at (.v 2) 21) 58 (.cons (.v 33) .nil)))
  (.seq (.asg (.at (.v 2) 44) (.at (.v 2) 111))
  .nil)))
  (.seq (.ex (.app (.at (.v 2) 50) (.dct [51,33] (.cons (.ix (.g 6) (.c (st [80,97,114,115,101,69,114,114,111,114]))) (.cons (.c (st [101,120,112,101,99,116,101,100,45,116,97,103,45,110,97,109,101])) .nil)))))
  (.seq (.ex (.app (.at (.v 2) 50) (.dct [51,33] (.cons (.ix (.g 6) (.c (st [67,104,97,114,97,99,116,101,114,115]))) (.cons (.c (st [60])) .nil)))))
  (.seq (.ex (.mc (.at (.v 2) 21) 58 (.cons (.v 33) .nil)))
  (.seq (.asg (.at (.v 2) 44) (.at (.v 2) 45))
  .nil)))))
  .nil))
  .nil))
  .nil))
  .nil))
  (.seq (.ret (.c (.bool true)))
  .nil)))
noncomputable def cH:S:=
 (.seq (.asg (.nm 33) (.mc (.at (.v 2) 21) 31 .nil))
  (.seq (.ite (.cmp (.v 33) .mem (.g 8))
  (.seq (.asg (.at (.v 2) 47) (.dct [51,62,33,63] (.cons (.ix (.g 6) (.c (st [69,110,100,84,97,103]))) (.cons (.v 33) (.cons .nl (.cons (.c (.bool false)) .nil))))))
  (.seq (.asg (.at (.v 2) 44) (.at (.v 2) 110))
  .nil))
  (.seq (.ite (.cmp (.v 33) .eq (.c (st [62])))
  (.seq (.ex (.app (.at (.v 2) 50) (.dct [51,33] (.cons (.ix (.g 6) (.c (st [80,97,114,115,101,69,114,114,111,114]))) (.cons (.c (st [101,120,112,101,99,116,101,100,45,99,108,111,115,105,110,103,45,116,97,103,45,98,117,116,45,103,111,116,45,114,105,103,104,116,45,98,114,97,99,107,101,116])) .nil)))))
  (.seq (.asg (.at (.v 2) 44) (.at (.v 2) 45))
  .nil))
  (.seq (.ite (.cmp (.v 33) .is (.g 1))
  (.seq (.ex (.app (.at (.v 2) 50) (.dct [51,33] (.cons (.ix (.g 6) (.c (st [80,97,114,115,101,69,114,114,111,114]))) (.cons (.c (st [101,120,112,101,99,116,101,100,45,99,108,111,115,105,110,103,45,116,97,103,45,98,117,116,45,103,111,116,45,101,111,102])) .nil)))))
  (.seq (.ex (.app (.at (.v 2) 50) (.dct [51,33] (.cons (.ix (.g 6) (.c (st [67,104,97,114,97,99,116,101,114,115]))) (.cons (.c (st [60,47])) .nil)))))
  (.seq (.asg (.at (.v 2) 44) (.at (.v 2) 45))
  .nil)))
  (.seq (.ex (.app (.at (.v 2) 50) (.dct [51,33,112] (.cons (.ix (.g 6) (.c (st [80,97,114,115,101,69,114,114,111,114]))) (.cons (.c (st [101,120,112,101,99,116,101,100,45,99,108,111,115,105,110,103,45,116,97,103,45,98,117,116,45,103,111,116,45,99,104,97,114])) (.cons (.dct [33] (.cons (.v 33) .nil)) .nil))))))
  (.seq (.ex (.mc (.at (.v 2) 21) 58 (.cons (.v 33) .nil)))
  (.seq (.asg (.at (.v 2) 44) (.at (.v 2) 111))
  .nil))))
  .nil))
  .nil))
  (.seq (.ret (.c (.bool true)))
  .nil)))
noncomputable def dP:S:=
 (.seq (.asg (.nm 33) (.mc (.at (.v 2) 21) 31 .nil))
  (.seq (.ite (.cmp (.v 33) .mem (.g 7))
  (.seq (.asg (.at (.v 2) 44) (.at (.v 2) 64))
  .nil)
  (.seq (.ite (.cmp (.v 33) .eq (.c (st [62])))
  (.seq (.ex (.mc (.v 2) 66 .nil))
  .nil)
  (.seq (.ite (.cmp (.v 33) .is (.g 1))
  (.seq (.ex (.app (.at (.v 2) 50) (.dct [51,33] (.cons (.ix (.g 6) (.c (st [80,97,114,115,101,69,114,114,111,114]))) (.cons (.c (st [101,111,102,45,105,110,45,116,97,103,45,110,97,109,101])) .nil)))))
  (.seq (.asg (.at (.v 2) 44) (.at (.v 2) 45))
  .nil))
  (.seq (.ite (.cmp (.v 33) .eq (.c (st [47])))
  (.seq (.asg (.at (.v 2) 44) (.at (.v 2) 65))
  .nil)
  (.seq (.ite (.cmp (.v 33) .eq (.c (st [0])))
  (.seq (.ex (.app (.at (.v 2) 50) (.dct [51,33] (.cons (.ix (.g 6) (.c (st [80,97,114,115,101,69,114,114,111,114]))) (.cons (.c (st [105,110,118,97,108,105,100,45,99,111,100,101,112,111,105,110,116])) .nil)))))
  (.seq (.augI (.at (.v 2) 47) (st [110,97,109,101]) .add (.c (st [65533])))
  .nil))
  (.seq (.augI (.at (.v 2) 47) (st [110,97,109,101]) .add (.v 33))
  .nil))
  .nil))
  .nil))
  .nil))
  .nil))
  (.seq (.ret (.c (.bool true)))
  .nil)))
noncomputable def bA:S:=
 (.seq (.asg (.nm 77) (.lst 1 (.cons (.mc (.at (.v 2) 21) 31 .nil) .nil)))
  (.seq (.ite (.cmp (.ix (.v 77) (.neg (.c (.int 1)))) .eq (.c (st [45])))
  (.seq (.ex (.app (.v 77) (.mc (.at (.v 2) 21) 31 .nil)))
  (.seq (.ite (.cmp (.ix (.v 77) (.neg (.c (.int 1)))) .eq (.c (st [45])))
  (.seq (.asg (.at (.v 2) 47) (.dct [51,33] (.cons (.ix (.g 6) (.c (st [67,111,109,109,101,110,116]))) (.cons (.c (st [])) .nil))))
  (.seq (.asg (.at (.v 2) 44) (.at (.v 2) 83))
  (.seq (.ret (.c (.bool true)))
  .nil)))
  .nil)
  .nil))
  (.seq (.ite (.cmp (.ix (.v 77) (.neg (.c (.int 1)))) .mem (.tup (.cons (.c (st [100])) (.cons (.c (st [68])) .nil))))
  (.seq (.asg (.nm 78) (.c (.bool true)))
  (.seq (.for (.nm 79) (.tup (.cons (.tup (.cons (.c (st [111])) (.cons (.c (st [79])) .nil))) (.cons (.tup (.cons (.c (st [99])) (.cons (.c (st [67])) .nil))) (.cons (.tup (.cons (.c (st [116])) (.cons (.c (st [84])) .nil))) (.cons (.tup (.cons (.c (st [121])) (.cons (.c (st [89])) .nil))) (.cons (.tup (.cons (.c (st [112])) (.cons (.c (st [80])) .nil))) (.cons (.tup (.cons (.c (st [101])) (.cons (.c (st [69])) .nil))) .nil)))))))
  (.seq (.ex (.app (.v 77) (.mc (.at (.v 2) 21) 31 .nil)))
  (.seq (.ite (.cmp (.ix (.v 77) (.neg (.c (.int 1)))) .nin (.v 79))
  (.seq (.asg (.nm 78) (.c (.bool false)))
  (.seq .brk
  .nil))
  .nil)
  .nil)))
  (.seq (.ite (.v 78)
  (.seq (.asg (.at (.v 2) 47) (.dct [51,62,80,81,82] (.cons (.ix (.g 6) (.c (st [68,111,99,116,121,112,101]))) (.cons (.c (st [])) (.cons (.c .none) (.cons (.c .none) (.cons (.c (.bool true)) .nil)))))))
  (.seq (.asg (.at (.v 2) 44) (.at (.v 2) 84))
  (.seq (.ret (.c (.bool true)))
  .nil)))
  .nil)
  .nil)))
  .nil)
  .nil))
  (.seq (.ex (.app (.at (.v 2) 50) (.dct [51,33] (.cons (.ix (.g 6) (.c (st [80,97,114,115,101,69,114,114,111,114]))) (.cons (.c (st [101,120,112,101,99,116,101,100,45,100,97,115,104,101,115,45,111,114,45,100,111,99,116,121,112,101])) .nil)))))
  (.seq (.whl (.v 77)
  (.seq (.ex (.mc (.at (.v 2) 21) 58 (.cons (.pop (.v 77) false) .nil)))
  .nil))
  (.seq (.asg (.at (.v 2) 44) (.at (.v 2) 111))
  (.seq (.ret (.c (.bool true)))
  .nil))))))
noncomputable def cG:S:=
 (.seq (.asg (.nm 33) (.mc (.at (.v 2) 21) 54 (.cons (.c (st [62])) .nil)))
  (.seq (.asg (.nm 33) (.repl (.v 33) [0] [65533]))
  (.seq (.ex (.app (.at (.v 2) 50) (.dct [51,33] (.cons (.ix (.g 6) (.c (st [67,111,109,109,101,110,116]))) (.cons (.v 33) .nil)))))
  (.seq (.ex (.mc (.at (.v 2) 21) 31 .nil))
  (.seq (.asg (.at (.v 2) 44) (.at (.v 2) 45))
  (.seq (.ret (.c (.bool true)))
  .nil))))))
noncomputable def pb:S:=
 (.seq (.ret (.lst 0 (.cons (.c (st [60])) (.cons (.c (st [97])) (.cons (.c (st [62])) (.cons (.c (st [60,47])) (.cons (.c (st [66])) (.cons (.c (st [32])) (.cons (.c (st [33])) (.cons (.c (st [13])) (.cons (.c (st [49])) (.cons (.c (st [63])) (.cons (.c (st [10])) (.cons (.c (st [44])) (.cons (.c (st [0])) (.cons (.c (st [60,122])) (.cons (.c (st [81])) (.cons (.c (st [9])) (.cons (.c (st [201])) (.cons (.c (st [160])) .nil))))))))))))))))))))
  .nil)
noncomputable def lh:S:=
 (.seq (.ret (.lst 0 (.cons (.c (st [97])) (.cons (.c (st [66])) (.cons (.c (st [122])) (.cons (.c (st [81])) .nil))))))
  .nil)
noncomputable def mU:S:=
 (.seq (.ret (.lst 0 (.cons (.c (st [9])) (.cons (.c (st [10])) (.cons (.c (st [32])) .nil)))))
  .nil)
noncomputable def o5:S:=
 (.seq (.ret (.dct [85,86,87] (.cons (.c (st [101,120,112,101,99,116,101,100,45,99,108,111,115,105,110,103,45,116,97,103,45,98,117,116,45,103,111,116,45,99,104,97,114])) (.cons (.c (st [101,120,112,101,99,116,101,100,45,100,97,115,104,101,115,45,111,114,45,100,111,99,116,121,112,101])) (.cons (.c (st [101,120,112,101,99,116,101,100,45,116,97,103,45,110,97,109,101,45,98,117,116,45,103,111,116,45,113,117,101,115,116,105,111,110,45,109,97,114,107])) .nil)))))
  .nil)
noncomputable def ke:S:=
 (.seq (.asg (.nm 1) (.c (st [])))
  (.seq (.asg (.nm 57) (.c (.bool false)))
  (.seq (.for (.nm 53) (.sl (.v 52) .non (.c (.int 24)))
  (.seq (.asg (.nm 56) (.ix (.call 9 .nil) (.bin .mod (.v 53) (.c (.int 18)))))
  (.seq (.ite (.and (.v 57) (.cmp (.v 56) .mem (.lst 0 (.cons (.c (st [60,47])) (.cons (.c (st [32])) (.cons (.c (st [9])) (.cons (.c (st [10])) (.cons (.c (st [13])) .nil))))))))
  (.seq (.asg (.nm 56) (.c (st [44])))
  .nil)
  .nil)
  (.seq (.asg (.nm 57) (.or (.cmp (.ix (.v 56) (.c (.int 0))) .eq (.c (st [60]))) (.and (.v 57) (.cmp (.v 56) .ne (.c (st [62]))))))
  (.seq (.augN 1 .add (.v 56))
  .nil)))))
  (.seq (.ret (.v 1))
  .nil))))
noncomputable def kc:S:=
 (.seq (.asg (.nm 27) (.c (.int 1)))
  (.seq (.asg (.nm 70) (.c (.int 0)))
  (.seq (.for (.nm 0) (.v 1)
  (.seq (.augN 70 .add (.c (.int 1)))
  (.seq (.ite (.cmp (.v 0) .eq (.c (st [10])))
  (.seq (.augN 27 .add (.c (.int 1)))
  (.seq (.asg (.nm 70) (.c (.int 0)))
  .nil))
  .nil)
  .nil)))
  (.seq (.ret (.tup (.cons (.v 27) (.cons (.v 70) .nil))))
  .nil))))
noncomputable def uB:S:=
 (.seq (.asgC 59 (.tup (.cons (.c (st [116,111,108,100])) (.cons (.c (st [105,110,118,97,108,105,100,45,99,111,100,101,112,111,105,110,116])) .nil))) 0 (.v 49) (.cmp (.v 0) .eq (.c (st [0]))))
  (.seq (.ite (.not (.v 60))
  (.seq (.ret (.bin .add (.v 59) (.lst 0 (.cons (.tup (.cons (.c (st [116,111,108,100])) (.cons (.c (st [101,111,102,45,105,110,45,116,97,103,45,110,97,109,101])) .nil))) .nil))))
  .nil)
  .nil)
  (.seq (.asg (.nm 62) (.repl (.repl (.repl (.v 49) [66] [98]) [81] [113]) [0] [65533]))
  (.seq (.ret (.bin .add (.v 59) (.lst 0 (.cons (.tup (.cons (.v 73) (.cons (.v 62) (.cons (.lst 0 .nil) (.cons (.c (.bool false)) (.cons (.c (.bool true)) .nil)))))) .nil))))
  .nil))))
noncomputable def lJ:S:=
 (.seq (.asg (.nm 69) (.lst 1 .nil))
  (.seq (.asg (.nm 3) (.c (.int 0)))
  (.seq (.whl (.cmp (.v 3) .lt (.bi .len (.cons (.v 1) .nil)))
  (.seq (.asg (.nm 37) (.bin .add (.v 3) (.c (.int 1))))
  (.seq (.ite (.cmp (.ix (.v 1) (.v 3)) .eq (.c (st [60])))
  (.seq (.whl (.and (.cmp (.v 37) .lt (.bi .len (.cons (.v 1) .nil))) (.cmp (.ix (.v 1) (.v 37)) .ne (.c (st [62]))))
  (.seq (.augN 37 .add (.c (.int 1)))
  .nil))
  (.seq (.asg (.nm 61) (.sl (.v 1) (.bin .add (.v 3) (.c (.int 1))) (.v 37)))
  (.seq (.asg (.nm 60) (.cmp (.v 37) .lt (.bi .len (.cons (.v 1) .nil))))
  (.seq (.augN 37 .add (.c (.int 1)))
  (.seq (.ite (.cmp (.sl (.v 61) .non (.c (.int 1))) .mem (.call 10 .nil))
  (.seq (.ext 69 (.call 16 (.cons (.c (st [115,116,97,114,116])) (.cons (.v 61) (.cons (.v 60) .nil)))))
  .nil)
  (.seq (.ite (.and (.cmp (.sl (.v 61) .non (.c (.int 1))) .eq (.c (st [47]))) (.cmp (.sl (.v 61) (.c (.int 1)) (.c (.int 2))) .mem (.call 10 .nil)))
  (.seq (.ext 69 (.call 16 (.cons (.c (st [101,110,100])) (.cons (.sl (.v 61) (.c (.int 1)) .non) (.cons (.v 60) .nil)))))
  .nil)
  (.seq (.ite (.and (.cmp (.v 61) .eq (.c (st []))) (.v 60))
  (.seq (.ext 69 (.lst 0 (.cons (.tup (.cons (.c (st [116,111,108,100])) (.cons (.c (st [101,120,112,101,99,116,101,100,45,116,97,103,45,110,97,109,101,45,98,117,116,45,103,111,116,45,114,105,103,104,116,45,98,114,97,99,107,101,116])) .nil))) (.cons (.tup (.cons (.c (st [116,101,120,116])) (.cons (.c (st [60,62])) .nil))) .nil))))
  .nil)
  (.seq (.ite (.and (.cmp (.v 61) .eq (.c (st [47]))) (.v 60))
  (.seq (.ext 69 (.lst 0 (.cons (.tup (.cons (.c (st [116,111,108,100])) (.cons (.c (st [101,120,112,101,99,116,101,100,45,99,108,111,115,105,110,103,45,116,97,103,45,98,117,116,45,103,111,116,45,114,105,103,104,116,45,98,114,97,99,107,101,116])) .nil))) .nil)))
  .nil)
  (.seq (.ite (.cmp (.v 61) .eq (.c (st [47])))
  (.seq (.ext 69 (.lst 0 (.cons (.tup (.cons (.c (st [116,111,108,100])) (.cons (.c (st [101,120,112,101,99,116,101,100,45,99,108,111,115,105,110,103,45,116,97,103,45,98,117,116,45,103,111,116,45,101,111,102])) .nil))) (.cons (.tup (.cons (.c (st [116,101,120,116])) (.cons (.c (st [60,47])) .nil))) .nil))))
  .nil)
  (.seq (.ite (.cmp (.sl (.v 61) .non (.c (.int 1))) .mem (.call 12 .nil))
  (.seq (.asg (.nm 67) (.ife (.cmp (.ix (.v 61) (.c (.int 0))) .eq (.c (st [63]))) (.v 61) (.sl (.v 61) (.c (.int 1)) .non)))
  (.seq (.ext 69 (.lst 0 (.cons (.tup (.cons (.c (st [116,111,108,100])) (.cons (.ix (.call 12 .nil) (.ix (.v 61) (.c (.int 0)))) .nil))) (.cons (.tup (.cons (.c (st [110,111,116,101])) (.cons (.repl (.v 67) [0] [65533]) .nil))) .nil))))
  .nil))
  (.seq (.ext 69 (.lst 0 (.cons (.tup (.cons (.c (st [116,111,108,100])) (.cons (.c (st [101,120,112,101,99,116,101,100,45,116,97,103,45,110,97,109,101])) .nil))) (.cons (.tup (.cons (.c (st [116,101,120,116])) (.cons (.c (st [60])) .nil))) .nil))))
  (.seq (.asg (.nm 37) (.bin .add (.v 3) (.c (.int 1))))
  .nil)))
  .nil))
  .nil))
  .nil))
  .nil))
  .nil))
  .nil)))))
  (.seq (.ite (.cmp (.ix (.v 1) (.v 3)) .eq (.c (st [0])))
  (.seq (.ext 69 (.lst 0 (.cons (.tup (.cons (.c (st [116,111,108,100])) (.cons (.c (st [105,110,118,97,108,105,100,45,99,111,100,101,112,111,105,110,116])) .nil))) (.cons (.tup (.cons (.c (st [116,101,120,116])) (.cons (.c (st [0])) .nil))) .nil))))
  .nil)
  (.seq (.ite (.cmp (.ix (.v 1) (.v 3)) .mem (.call 11 .nil))
  (.seq (.whl (.and (.cmp (.v 37) .lt (.bi .len (.cons (.v 1) .nil))) (.cmp (.ix (.v 1) (.v 37)) .mem (.call 11 .nil)))
  (.seq (.augN 37 .add (.c (.int 1)))
  .nil))
  (.seq (.ex (.app (.v 69) (.tup (.cons (.c (st [98,108,97,110,107])) (.cons (.sl (.v 1) (.v 3) (.v 37)) .nil)))))
  .nil))
  (.seq (.whl (.and (.cmp (.v 37) .lt (.bi .len (.cons (.v 1) .nil))) (.and (.cmp (.ix (.v 1) (.v 37)) .ne (.c (st [60]))) (.cmp (.ix (.v 1) (.v 37)) .ne (.c (st [0])))))
  (.seq (.augN 37 .add (.c (.int 1)))
  .nil))
  (.seq (.ex (.app (.v 69) (.tup (.cons (.c (st [116,101,120,116])) (.cons (.sl (.v 1) (.v 3) (.v 37)) .nil)))))
  .nil)))
  .nil))
  .nil))
  (.seq (.asg (.nm 3) (.v 37))
  .nil))))
  (.seq (.ret (.v 69))
  .nil))))
noncomputable def mS:S:=
 (.seq (.asg (.nm 1) (.call 13 (.cons (.v 52) .nil)))
  (.seq (.asg (.nm 72) (.call 18 (.cons (.v 1) .nil)))
  (.seq (.asg (.nm 71) (.lst 1 .nil))
  .nil)))
noncomputable def dy:S:=
 (.seq (.asg (.nm 73) (.ix (.v 48) (.c (st [116,121,112,101]))))
  (.seq (.ite (.cmp (.v 73) .eq (.ix (.g 6) (.c (st [80,97,114,115,101,69,114,114,111,114]))))
  (.seq (.ex (.app (.v 71) (.tup (.cons (.c (st [116,111,108,100])) (.cons (.ix (.v 48) (.c (st [100,97,116,97]))) .nil)))))
  .nil)
  (.seq (.ite (.cmp (.v 73) .eq (.ix (.g 6) (.c (st [67,104,97,114,97,99,116,101,114,115]))))
  (.seq (.ex (.app (.v 71) (.tup (.cons (.c (st [116,101,120,116])) (.cons (.ix (.v 48) (.c (st [100,97,116,97]))) .nil)))))
  .nil)
  (.seq (.ite (.cmp (.v 73) .eq (.ix (.g 6) (.c (st [83,112,97,99,101,67,104,97,114,97,99,116,101,114,115]))))
  (.seq (.ex (.app (.v 71) (.tup (.cons (.c (st [98,108,97,110,107])) (.cons (.ix (.v 48) (.c (st [100,97,116,97]))) .nil)))))
  .nil)
  (.seq (.ite (.cmp (.v 73) .eq (.ix (.g 6) (.c (st [67,111,109,109,101,110,116]))))
  (.seq (.ex (.app (.v 71) (.tup (.cons (.c (st [110,111,116,101])) (.cons (.ix (.v 48) (.c (st [100,97,116,97]))) .nil)))))
  .nil)
  (.seq (.ite (.cmp (.v 73) .eq (.ix (.g 6) (.c (st [83,116,97,114,116,84,97,103]))))
  (.seq (.ex (.app (.v 71) (.tup (.cons (.c (st [115,116,97,114,116])) (.cons (.ix (.v 48) (.c (st [110,97,109,101]))) (.cons (.cemp [48] 74 (.ix (.v 48) (.c (st [100,97,116,97])))) (.cons (.cmp (.ix (.v 48) (.c (st [115,101,108,102,67,108,111,115,105,110,103]))) .is (.c (.bool true))) (.cons (.cmp (.ix (.v 48) (.c (st [115,101,108,102,67,108,111,115,105,110,103]))) .is (.c (.bool false))) .nil))))))))
  .nil)
  (.seq (.ite (.cmp (.v 73) .eq (.ix (.g 6) (.c (st [69,110,100,84,97,103]))))
  (.seq (.ex (.app (.v 71) (.tup (.cons (.c (st [101,110,100])) (.cons (.ix (.v 48) (.c (st [110,97,109,101]))) (.cons (.cemp [] 76 (.ix (.v 48) (.c (st [100,97,116,97])))) (.cons (.cmp (.ix (.v 48) (.c (st [115,101,108,102,67,108,111,115,105,110,103]))) .is (.c (.bool true))) (.cons (.cmp (.ix (.v 48) (.c (st [115,101,108,102,67,108,111,115,105,110,103]))) .is (.c (.bool false))) .nil))))))))
  .nil)
  (.seq (.ret (.c (.bool false)))
  .nil))
  .nil))
  .nil))
  .nil))
  .nil))
  .nil))
  .nil))
noncomputable def rF:X:=(.v 72)
noncomputable def mT:S:=
 (.seq (.asg (.nm 68) (.call 14 (.cons (.v 1) .nil)))
  (.seq (.ret (.and (.cmp (.v 71) .eq (.call 17 (.cons (.v 68) .nil))) (.cmp (.mc (.at (.v 72) 21) 93 .nil) .eq (.call 15 (.cons (.v 68) .nil)))))
  .nil))
noncomputable abbrev TT:aW:=tl.tab
noncomputable def DW:List (SQ×Tok×Value):=[([68,111,99,116,121,112,101],532,(.int 0 533)),([67,104,97,114,97,99,116,101,114,115],534,(.int 1 535)),([83,112,97,99,101,67,104,97,114,97,99,116,101,114,115],536,(.int 2 537)),([83,116,97,114,116,84,97,103],538,(.int 3 539)),([69,110,100,84,97,103],540,(.int 4 541)),([69,109,112,116,121,84,97,103],542,(.int 5 543)),([67,111,109,109,101,110,116],544,(.int 6 545)),([80,97,114,115,101,69,114,114,111,114],546,(.int 7 547))]
theorem Jv(P:Params):mf (H.K P) P tl.nms 48 DW 8:=by unfold mf;kernel_rfl
theorem Dm(P:Params):sG (H.K P) tl=true:=by kernel_rfl
theorem H8(P:Params):xk (H.K P) tl=true:=by kernel_rfl
theorem H7(P:Params):wo (H.K P) tl=true:=by kernel_rfl
theorem Mn(P:Params):D4 (H.K P) tl=true:=by kernel_rfl
theorem Mp(P:Params):Ee (H.K P) tl=true:=by kernel_rfl
theorem Mk(P:Params):DQ (H.K P)=true:=by kernel_rfl
theorem Mo(P:Params):MQ (H.K P) tl.gnm tl.gl=true:=by kernel_rfl
theorem PT:iR tl.nms=true:=by kernel_rfl
theorem PU:tl.nms.all (fun l=>decide (l.length<1000))=true:=by kernel_rfl
theorem jT(P:Params):jW (H.K P) 141 (jf TT [2,15] dz)=true:=by kernel_rfl
theorem eR(P:Params):jW (H.K P) 156 (jf TT [2,38,39] bu)=true:=by kernel_rfl
theorem ub(P:Params):jW (H.K P) 261 (jf TT [2,21,41] lL)=true:=by kernel_rfl
theorem FY(P:Params):BJ (H.K P) 268 (xt TT 2 mR n7 n6 io jE)=true:=by kernel_rfl
theorem Fa(P:Params)(S:Setting)(v:Value):a8 (Mine.H.K P) S 268 [v]=some [(b9 tl.nms 2,v)]:=by kernel_rfl
@[simp] theorem Ob:TT.gl[0]?=some (.g (.ref 73)):=rfl
@[simp] theorem Oc:TT.gl[1]?=some (.d qK):=rfl
@[simp] theorem Od:TT.gl[2]?=some (.g (.ref 84)):=rfl
@[simp] theorem Oe:TT.gl[3]?=some (.g (.ref 166)):=rfl
@[simp] theorem Of:TT.gl[6]?=some (.g (.ref 48)):=rfl
@[simp] theorem ye:TT.meth 73 34=some 70:=rfl
@[simp] theorem uX:TT.meth 166 13=some 105:=rfl
@[simp] theorem uW:TT.meth 166 11=some 112:=rfl
@[simp] theorem uY:TT.meth 166 29=some 119:=rfl
@[simp] theorem uZ:TT.meth 166 30=some 141:=rfl
@[simp] theorem yd:TT.meth 166 8=some 148:=rfl
@[simp] theorem u0:TT.meth 762 45=some 304:=rfl
@[simp] theorem Bz:TT.fld 73 3=true:=rfl
@[simp] theorem By:TT.fld 73 1=true:=rfl
@[simp] theorem ul:TT.fld 166 20=true:=rfl
@[simp] theorem ud:TT.fld 166 14=true:=rfl
@[simp] theorem uf:TT.fld 166 16=true:=rfl
@[simp] theorem ue:TT.fld 166 15=true:=rfl
@[simp] theorem uc:TT.fld 166 10=true:=rfl
@[simp] theorem ug:TT.fld 166 17=true:=rfl
@[simp] theorem xf:TT.fld 166 9=true:=rfl
@[simp] theorem uk:TT.fld 166 19=true:=rfl
@[simp] theorem uh:TT.fld 166 18=true:=rfl
@[simp] theorem xd:TT.fld 166 7=true:=rfl
@[simp] theorem uv:TT.fld 762 47=true:=rfl
@[simp] theorem uu:TT.fld 762 46=true:=rfl
@[simp] theorem uq:TT.fld 762 42=true:=rfl
@[simp] theorem ur:TT.fld 762 43=true:=rfl
@[simp] theorem uo:TT.fld 762 41=true:=rfl
@[simp] theorem ut:TT.fld 762 44=true:=rfl
@[simp] theorem um:TT.fld 762 21=true:=rfl
@[simp] theorem tZ:TT.cat 166 32=some ((.int 10240 624),.d (.int 10240)):=rfl
@[simp] theorem u1:TT.meth 166 32=none:=rfl
@[simp] theorem KU:TT.nms[33]?=some [100,97,116,97]:=rfl
@[simp] theorem KV:TT.nms[51]?=some [116,121,112,101]:=rfl
@[simp] theorem KW:TT.nms[62]?=some [110,97,109,101]:=rfl
@[simp] theorem KX:TT.nms[63]?=some [115,101,108,102,67,108,111,115,105,110,103]:=rfl
@[simp] theorem KY:TT.nms[85]?=some [47]:=rfl
@[simp] theorem GZ:TT.nms[109]?=some [115,101,108,102,67,108,111,115,105,110,103,65,99,107,110,111,119,108,101,100,103,101,100]:=rfl
@[simp] theorem F9:TT.fn 148=true:=rfl
structure aY(c:Cx):Prop where
 K:c.K=H.K c.w.params
 nm:c.nm=b9 tl.nms
 T:TabOk c TT
section
variable {c:Cx}{r:Nat}{H:Hp}{Q:SV}
def IW(f:Nat)(b:S):Prop:=∀{c:Cx}{r:Nat}{H:Hp}{Q:SV} (e:aY c) (hw:wS c TT r H.length b [] H (ip H.length Q)),SemCall c (r+1) (.ref f) [] H Q
theorem MS{f:Nat}{b:S}(hf:∀P,jW (Mine.H.K P) f (jf TT [] b)=true)(hb:∀(P:Params) (S:Setting),a8 (Mine.H.K P) S f []=some []):IW f  b:=fun {c r H Q} e hw=>
 bV (ids:=[]) (dxs:=[]) (dvals:=[]) e.T rfl (by rw[e.K];exact hf _) (fun S vals h=>by
  cases KD h;rw[e.K,e.nm];exact hb _ S) (by simp) (fun B U _=>.nil) hw
def qi(f i0:Nat)(b:S):Prop:=∀{c:Cx}{r:Nat}{H:Hp}{Q:SV} (e:aY c){x0:V} (hw:wS c TT r H.length b [(i0,x0)] H (ip H.length Q)),SemCall c (r+1) (.ref f) [x0] H Q
theorem qV{f i0:Nat}{b:S}(hf:∀P,jW (Mine.H.K P) f (jf TT [i0] b)=true)(hb:∀(P:Params) (S:Setting) (v0:Value),a8 (Mine.H.K P) S f [v0]=some [(b9 tl.nms i0,v0)]):qi f i0 b:=fun {c r H Q} e {x0} hw=>
 bV (ids:=[i0]) (dxs:=[]) (dvals:=[]) e.T rfl (by rw[e.K];exact hf _) (fun S vals h=>by
  obtain⟨v0,rfl⟩:=km h;rw[e.K,e.nm];exact hb _ S v0) (by simp) (fun B U _=>.nil) hw
def DJ(f i0 i1:Nat)(b:S):Prop:=∀{c:Cx}{r:Nat}{H:Hp}{Q:SV} (e:aY c){x0 x1:V} (hw:wS c TT r H.length b [(i0,x0),(i1,x1)] H (ip H.length Q)),SemCall c (r+1) (.ref f) [x0,x1] H Q
theorem GW{f i0 i1:Nat}{b:S}(hf:∀P,jW (Mine.H.K P) f (jf TT [i0,i1] b)=true)(hb:∀(P:Params) (S:Setting) (v0 v1:Value),a8 (Mine.H.K P) S f [v0,v1]=some [(b9 tl.nms i0,v0),(b9 tl.nms i1,v1)])(nd:[i0,i1].Nodup):DJ f i0 i1 b:=fun {c r H Q} e {x0 x1} hw=>
 bV (ids:=[i0,i1]) (dxs:=[]) (dvals:=[]) e.T rfl (by rw[e.K];exact hf _) (fun S vals h=>by
  obtain⟨v0,v1,rfl⟩:=Cn h;rw[e.K,e.nm];exact hb _ S v0 v1) nd (fun B U _=>.nil) hw
def P6(f i0 i1 i2:Nat)(b:S):Prop:=∀{c:Cx}{r:Nat}{H:Hp}{Q:SV} (e:aY c){x0 x1 x2:V} (hw:wS c TT r H.length b [(i0,x0),(i1,x1),(i2,x2)] H (ip H.length Q)),SemCall c (r+1) (.ref f) [x0,x1,x2] H Q
theorem Sn{f i0 i1 i2:Nat}{b:S}(hf:∀P,jW (Mine.H.K P) f (jf TT [i0,i1,i2] b)=true)(hb:∀(P:Params) (S:Setting) (v0 v1 v2:Value),a8 (Mine.H.K P) S f [v0,v1,v2]=some [(b9 tl.nms i0,v0),(b9 tl.nms i1,v1),(b9 tl.nms i2,v2)])(nd:[i0,i1,i2].Nodup):P6 f i0 i1 i2 b:=fun {c r H Q} e {x0 x1 x2} hw=>
 bV (ids:=[i0,i1,i2]) (dxs:=[]) (dvals:=[]) e.T rfl (by rw[e.K];exact hf _) (fun S vals h=>by
  obtain⟨v0,v1,v2,rfl⟩:=KF h;rw[e.K,e.nm];exact hb _ S v0 v1 v2) nd (fun B U _=>.nil) hw
theorem jX:qi 42 1 mO:=qV (fun _=>by kernel_rfl) (fun _ _ _=>by kernel_rfl)
theorem oX:DJ 63 2 1 uD:=GW (fun _=>by kernel_rfl) (fun _ _ _ _=>by kernel_rfl) (by decide)
theorem oY:DJ 70 2 5 uE:=GW (fun _=>by kernel_rfl) (fun _ _ _ _=>by kernel_rfl) (by decide)
theorem jY:qi 84 6 mQ:=qV (fun _=>by kernel_rfl) (fun _ _ _=>by kernel_rfl)
theorem oV:DJ 98 2 12 uC:=GW (fun _=>by kernel_rfl) (fun _ _ _ _=>by kernel_rfl) (by decide)
theorem mJ:qi 105 2 qM:=qV (fun _=>by kernel_rfl) (fun _ _ _=>by kernel_rfl)
theorem gM:DJ 112 2 12 jp:=GW (fun _=>by kernel_rfl) (fun _ _ _ _=>by kernel_rfl) (by decide)
theorem iG:DJ 119 2 23 kf:=GW (fun _=>by kernel_rfl) (fun _ _ _ _=>by kernel_rfl) (by decide)
theorem jo:qi 126 2 li:=qV (fun _=>by kernel_rfl) (fun _ _ _=>by kernel_rfl)
theorem oU:qi 133 2 lK:=qV (fun _=>by kernel_rfl) (fun _ _ _=>by kernel_rfl)
theorem iy(P:Params)(S:Setting)(v0:Value):a8 (Mine.H.K P) S 141 [v0]=some [(b9 tl.nms 2,v0),(b9 tl.nms 15,.none)]:=by kernel_rfl
theorem iH(e:aY c){x0:V}(hw:wS c TT r H.length dz [(2,x0),(15,.d .none)] H (ip H.length Q)):SemCall c (r+1) (.ref 141) [x0] H Q:=
 bV (ids:=[2,15]) (dxs:=[.d .none]) (dvals:=[.none]) e.T rfl (by rw[e.K];exact jT _) (fun S vals h=>by
  obtain⟨v0,rfl⟩:=km h;rw[e.K,e.nm];exact iy _ S v0) (by decide) (fun B U _=>.cons (.d DV.none) (.nil)) hw
theorem du:DJ 148 2 33 ci:=GW (fun _=>by kernel_rfl) (fun _ _ _ _=>by kernel_rfl) (by decide)
theorem gw(P:Params)(S:Setting)(v0 v1:Value):a8 (Mine.H.K P) S 156 [v0,v1]=some [(b9 tl.nms 2,v0),(b9 tl.nms 38,v1),(b9 tl.nms 39,.bool false)]:=by kernel_rfl
theorem gK(e:aY c){x0 x1:V}(hw:wS c TT r H.length bu [(2,x0),(38,x1),(39,.d (.bool false))] H (ip H.length Q)):SemCall c (r+1) (.ref 156) [x0,x1] H Q:=
 bV (ids:=[2,38,39]) (dxs:=[.d (.bool false)]) (dvals:=[.bool false]) e.T rfl (by rw[e.K];exact eR _) (fun S vals h=>by
  obtain⟨v0,v1,rfl⟩:=Cn h;rw[e.K,e.nm];exact gw _ S v0 v1) (by decide) (fun B U _=>.cons (.d (DV.bool _)) (.nil)) hw
theorem gx(P:Params)(S:Setting)(v0 v1 v2:Value):a8 (Mine.H.K P) S 156 [v0,v1,v2]=some [(b9 tl.nms 2,v0),(b9 tl.nms 38,v1),(b9 tl.nms 39,v2)]:=by kernel_rfl
theorem gL(e:aY c){x0 x1 x2:V}(hw:wS c TT r H.length bu [(2,x0),(38,x1),(39,x2)] H (ip H.length Q)):SemCall c (r+1) (.ref 156) [x0,x1,x2] H Q:=
 bV (ids:=[2,38,39]) (dxs:=[]) (dvals:=[]) e.T rfl (by rw[e.K];exact eR _) (fun S vals h=>by
  obtain⟨v0,v1,v2,rfl⟩:=KF h;rw[e.K,e.nm];exact gx _ S v0 v1 v2) (by decide) (fun B U _=>.nil) hw
theorem mK:DJ 163 2 31 qN:=GW (fun _=>by kernel_rfl) (fun _ _ _ _=>by kernel_rfl) (by decide)
theorem ot(P:Params)(S:Setting)(v0 v1:Value):a8 (Mine.H.K P) S 261 [v0,v1]=some [(b9 tl.nms 2,v0),(b9 tl.nms 21,v1),(b9 tl.nms 41,.none)]:=by kernel_rfl
theorem oW(e:aY c){x0 x1:V}(hw:wS c TT r H.length lL [(2,x0),(21,x1),(41,.d .none)] H (ip H.length Q)):SemCall c (r+1) (.ref 261) [x0,x1] H Q:=
 bV (ids:=[2,21,41]) (dxs:=[.d .none]) (dvals:=[.none]) e.T rfl (by rw[e.K];exact ub _) (fun S vals h=>by
  obtain⟨v0,v1,rfl⟩:=Cn h;rw[e.K,e.nm];exact ot _ S v0 v1) (by decide) (fun B U _=>.cons (.d DV.none) (.nil)) hw
theorem eh:qi 297 2 cN:=qV (fun _=>by kernel_rfl) (fun _ _ _=>by kernel_rfl)
theorem iI:qi 304 2 fk:=qV (fun _=>by kernel_rfl) (fun _ _ _=>by kernel_rfl)
theorem fU:qi 353 2 dQ:=qV (fun _=>by kernel_rfl) (fun _ _ _=>by kernel_rfl)
theorem d6:qi 360 2 cH:=qV (fun _=>by kernel_rfl) (fun _ _ _=>by kernel_rfl)
theorem fT:qi 367 2 dP:=qV (fun _=>by kernel_rfl) (fun _ _ _=>by kernel_rfl)
theorem cF:qi 605 2 bA:=qV (fun _=>by kernel_rfl) (fun _ _ _=>by kernel_rfl)
theorem d5:qi 598 2 cG:=qV (fun _=>by kernel_rfl) (fun _ _ _=>by kernel_rfl)
theorem lc:IW 773 pb:=MS (fun _=>by kernel_rfl) (fun _ _=>by kernel_rfl)
theorem jn:IW 780 lh:=MS (fun _=>by kernel_rfl) (fun _ _=>by kernel_rfl)
theorem jZ:IW 787 mU:=MS (fun _=>by kernel_rfl) (fun _ _=>by kernel_rfl)
theorem la:IW 794 o5:=MS (fun _=>by kernel_rfl) (fun _ _=>by kernel_rfl)
theorem mI:qi 801 52 ke:=qV (fun _=>by kernel_rfl) (fun _ _ _=>by kernel_rfl)
theorem mH:qi 813 1 kc:=qV (fun _=>by kernel_rfl) (fun _ _ _=>by kernel_rfl)
theorem oT:P6 818 73 49 60 uB:=Sn (fun _=>by kernel_rfl) (fun _ _ _ _ _=>by kernel_rfl) (by decide)
theorem oS:qi 825 1 lJ:=qV (fun _=>by kernel_rfl) (fun _ _ _=>by kernel_rfl)
end
end Mine
namespace Mine
theorem DX(x y:D):bB .eq x y=pick (b7 30 x&&b7 30 y) (some (PyData.eqv x y)) (wP x y):=rfl
theorem JN(x y:D):bB .ne x y=pick (b7 30 x&&b7 30 y) (some (!PyData.eqv x y)) ((wP x y).bind MU):=rfl
theorem CE{a:Bool}{p:Prop}(h:a=!a):p:=by cases a<;>nomatch h
noncomputable def sT:S->S
 |.seq _ r=>r
 |s=>s
noncomputable def sH:S->S
 |.seq a _=>a
 |s=>s
noncomputable def sA:S->S
 |.ite _ a _=>a
 |s=>s
noncomputable def sE:S->S
 |.ite _ _ b=>b
 |s=>s
noncomputable def sB:S->S
 |.whl _ b=>b
 |.for _ _ b=>b
 |s=>s
theorem kx{a b:Nat}(h:a≠b):(((a:Nat):Int)==((b:Nat):Int))=false:=beq_eq_false_iff_ne.mpr fun z=>h (Int.ofNat.inj z)
theorem sK{t:Nat}(h:t<=2000):t+(t+1) * 1<=16777216:=by omega
theorem bq{a b c:Nat}(h:a<=b)(k:Nat.ble b c=true:=by rfl):a<=c:=ak h (Nat.le_of_ble_eq_true k)
theorem FE(x:D)(xs:List D):bB .mem x (.tuple xs)=bc (bK 30 xs&&b7 30 x) (some (xs.any fun y=>PyData.eqv y x)):=rfl
theorem vZ(ds:List D)(d:D)(h:ds.length<=16777215):mn (.dlist ds) (.d d)=some (.dlist (ds++[d])):=au h
noncomputable def Jn:Option Nat->D
 |none=>.none
 |some c=>st [c]
noncomputable def rR:Option Nat->D
 |none=>.none
 |some c=>st [c]
noncomputable def QC:Option (SQ)->D
 |none=>.none
 |some n=>st n
theorem Np:Jn none=.none:=rfl
theorem Nq(x:Nat):Jn (some x)=st [x]:=rfl
theorem Jw:rR none=.none:=rfl
theorem Jx(x:Nat):rR (some x)=st [x]:=rfl
theorem Cv:bB .mem .none dw=some false:=rfl
theorem yf:bB .mem .none eS=some false:=rfl
theorem J8(x:SQ):vQ (.d (st x)) .none=some false:=rfl
theorem J7:vQ (.d .none) .none=some true:=rfl
theorem JG(b:Bool):vQ (.d (.bool b)) (.bool true)=some (b==true):=rfl
theorem RV(a b d f:D):k6 (.tuple [a,b,d,f]) (.int 0)=some a:=rfl
theorem Gk(l:List D):vQ (.d (.tuple l)) .none=some false:=rfl
theorem JH(b:Bool):vQ (.d (.bool b)) (.bool false)=some (b==false):=rfl
theorem OP:QC none=.none:=rfl
theorem OQ(n:SQ):QC (some n)=st n:=rfl
local macro_rules | `(tactic| simpa! only [$es,*]) => do
  let l <- ("qJ Ge y7 LH Nat.reduceSub JS JU JT FI FM FO Bc Bd wY Ba FN Bg Bf Bh Be FJ FK wZ Bb wW OA w4 t8 Sd RZ Sc Sa Sb Kr Ou OD Kt OG Kz KA Km Gx OB Kq Oz Ko Kp Kj B9 B8 OE GB GA Ky Kx KB GD GC Kw Gy Gz Ku Kv Ov Kl Ow Kn OF Os Kk Oy OC OI OH Ot Ox E5 E4 A9 A8 wV wU wT uK BQ BR xK uI uJ Option.bind_some Option.map_some Option.bind_none Option.map_none Option.getD_some OL OK Hn O8 O7 N5 N4 N7 N6 N9 N8 PJ PI NK NL ND NC NF NE Oi Oh mo vZ List.getElem?_cons_zero List.getElem?_cons_succ List.getElem?_nil List.set_cons_zero List.set_cons_succ List.length_cons List.length_nil List.cons_append List.nil_append List.zip_cons_cons List.zip_nil_left List.zip_nil_right List.contains_cons List.contains_nil List.elem_cons List.elem_nil reduceIte ite_true ite_false Nat.reduceEqDiff Nat.reduceAdd Nat.reduceLeDiff Nat.reduceBEq Nat.reduceBNe decide_true decide_false Bool.and_true Bool.and_false Bool.or_true Bool.or_false Option.isSome_some Option.isSome_none and_true true_and and_self not_false_eq_true not_true_eq_false ne_eq Bool.false_eq_true decide_eq_true_eq N3 d9 id_eq reduceCtorEq List.cons.injEq false_and and_false List.length_append List.length_set Nat.lt_add_one Int.reduceNeg Int.reduceAdd Int.reduceSub Int.reduceBEq Int.reduceBNe Int.reduceLE Int.reduceLT Int.reduceEq Int.cast_ofNat_Int CY CX Fu FF A2 A4 Ft JQ JO Fy NT JJ JL Nv NA Nz Ny Nx Jt NW JI NX NV NU a7 Ia SK Jl AH AI tV jJ E7 DP O9 Pb Pa BC xg uw DX JN List.any_cons List.any_nil jQ A6 wR NY wM PW v5 LL Oo On Ok Oj Og Op Ob Oc Od Oe Of ye uX uW uY uZ yd u0 Bz By ul ud uf ue uc ug xf uk uh xd uv uu uq ur uo ut um tZ u1 KU KV KW KX GZ F9 Np Nq Jw Jx Cv yf Bool.not_not J8 J7 OP OQ JG RV Gk JH".splitOn " ").toArray.mapM fun s => `(Lean.Parser.Tactic.simpLemma| $(Lean.mkIdent s.toName):ident)
  `(tactic| (simp (disch := first | assumption | omega) only [$l,*, $es,*] <;> try rfl))
local macro_rules | `(tactic| trivial) => `(tactic| simpa! only [id_eq])
section
variable {c:Cx}{r:Nat}
theorem iA{z:Bool}{A B:Prop}(ha:z=true->A)(hb:z=false->B):if z=true then A else B:=by
 cases z with
 |true=>rw[au rfl];exact ha rfl
 |false=>rw[ar (by decide)];exact hb rfl
def mF(k:Nat)(asg:D->aD->Hp->(aD->Hp->Prop)->Prop)(body:aD->Hp->(Fl->aD->Hp->Prop)->Prop)(xs:List D)(Q:Fl->aD->Hp->Prop)(fl:Fl)(m2:aD)(H2:Hp):Prop:=match fl with
 |.next=>∃m3 H3,Vw k m3 H3 m2 H2/\il k asg body xs m3 H3 Q
 |.brk=>Q .next m2 H2
 |.ret v=>Q (.ret v) m2 H2
theorem D2{k:Nat}{asg:D->aD->Hp->(aD->Hp->Prop)->Prop}{body:aD->Hp->(Fl->aD->Hp->Prop)->Prop}{Q:Fl->aD->Hp->Prop}{m:aD}{H:Hp}(q:Q .next m H):il k asg body [] m H Q:=q
theorem qH{k:Nat}{asg:D->aD->Hp->(aD->Hp->Prop)->Prop}{body:aD->Hp->(Fl->aD->Hp->Prop)->Prop}{x:D}{xs:List D}{Q:Fl->aD->Hp->Prop}{m:aD}{H:Hp}(h:asg x m H fun m1 H1=>body m1 H1 (mF k asg body xs Q)):il k asg body (x::xs) m H Q:=h
theorem jS{k:Nat}{asg:D->aD->Hp->(aD->Hp->Prop)->Prop}{body:aD->Hp->(Fl->aD->Hp->Prop)->Prop}{xs:List D}{Q:Fl->aD->Hp->Prop}{m m3:aD}{H:Hp}(hm:∀i x,lk i m3=some x->lk i m=some x)(h:il k asg body xs m3 H Q):mF k asg body xs Q .next m H:=⟨m3,H,.inr (.inl ⟨rfl,hm⟩),h⟩
def jD(k n:Nat)(test:aD->Hp->(Bool->Hp->Prop)->Prop)(body:aD->Hp->(Fl->aD->Hp->Prop)->Prop)(Q:Fl->aD->Hp->Prop)(fl:Fl)(m2:aD)(H2:Hp):Prop:=match fl with
 |.next=>∃m3 H3,Vw k m3 H3 m2 H2/\i8 k test body n m3 H3 Q
 |.brk=>Q .next m2 H2
 |.ret v=>Q (.ret v) m2 H2
theorem gb{k n:Nat}{t:X}{T:aW}{body:aD->Hp->(Fl->aD->Hp->Prop)->Prop}{Q:Fl->aD->Hp->Prop}{m:aD}{H H1:Hp}{v:V}{z:Bool}(h1:aO T t m H=some (v,H1))(h2:aN H1 v=some z)
  (ha:z=true->body m H1 (jD k n (fun m H K=>wX c T r t m H fun v H1=>ok (aN H1 v) fun z=>K z H1) body Q))(hb:z=false->Q .next m H1):i8 k (fun m H K=>wX c T r t m H fun v H1=>ok (aN H1 v) fun z=>K z H1) body (n+1) m H Q:=by
 refine ev h1 (av h2 ?_)
 cases z with
 |true=>rw[au rfl];exact ha rfl
 |false=>rw[ar (by decide)];exact hb rfl
theorem qL{k n:Nat}{test:aD->Hp->(Bool->Hp->Prop)->Prop}{body:aD->Hp->(Fl->aD->Hp->Prop)->Prop}{Q:Fl->aD->Hp->Prop}{m m3:aD}{H:Hp}(hm:∀i x,lk i m3=some x->lk i m=some x)(h:i8 k test body n m3 H Q):jD k n test body Q .next m H:=⟨m3,H,.inr (.inl ⟨rfl,hm⟩),h⟩
noncomputable abbrev AN(text:SQ)(place:Nat):Option Cell:=some (.inst 73 [(1,.d (st text)),(3,.d (.int place))])
theorem Ir(e:aY c){x0 x1:Option Cell}{text:SQ}{place sz:Nat}{rest:Hp}(h1:text.length<=1000) :
  SemCall c (r+1) (.ref 70) [.r 2,.d (.int sz)] (x0::x1::AN text place::rest) fun y H'=>y=.d (st ((text.drop place).take sz))/\H'=x0::x1::AN text (place+((text.drop place).take sz).length)::rest:=by
 refine oY e ?_
 have e1:k7 text (some (place:Int)) (some ((place:Int)+(sz:Int)))=(text.drop place).take sz:=by
  rw[show (place:Int)+(sz:Int)=((place+sz:Nat):Int) by omega,kQ,List.drop_take]
  congr 1;omega
 have h3:(k7 text (some (place:Int)) (some ((place:Int)+(sz:Int)))).length<=16777216:=by
  rw[e1,List.length_take,List.length_drop];exact I9 ‹_› (by decide)
 refine aK (by trivial) (by trivial) ?_
 refine yY (by trivial) (by trivial) (by trivial) (by trivial) (by trivial) ?_
 refine cm rfl (by trivial) (bg (by simp) (by rfl) ?_)
 rw[e1]
 exact⟨rfl,by simp⟩
noncomputable abbrev cS(ch:SQ)(sz off pl pc:Nat)(bf:Option Nat):Option Cell:=some (.inst 166 [(7,.m 148 1),(9,.d (.list [.int 0])),(10,.r 2),(14,.d (st ch)),(15,.d (.int sz)),(16,.d (.int off)),(17,.r 3),(18,.d (.int pl)),(19,.d (.int pc)),(20,.d (Jn bf))])
theorem tW(c:Nat):∀x:SQ,c∈x->(cT c x).length<x.length:=by
 intro x
 induction x with
 |nil=>intro h;nomatch h
 |cons k r ihr=>
  intro h
  rw[bJ]
  by_cases m:c∈r
  ·rw[au m];have:=ihr m;simp;omega
  ·rw[ar m]
   have:k=c:=by rcases List.mem_cons.mp h with e|e;exact e.symm;exact absurd e m
   rw[au this];simp
noncomputable def cV(l:Nat)(x:SQ):Nat:=l+x.count 10
noncomputable def cU(k:Nat)(x:SQ):Nat:=if 10∈x then (cT 10 x).length else k+x.length
theorem jj(e:aY c){x0:Option Cell}{ch:SQ}{sz off pl pc o:Nat}{bf:Option Nat}{rest:Hp}(h1:ch.length<=1000)(h2:o<=ch.length) :
  SemCall c (r+1) (.ref 119) [.r 1,.d (.int o)] (x0::cS ch sz off pl pc bf::rest) fun y H'=>y=.d (.tuple [.int (cV pl (ch.take o):Nat),.int (cU pc (ch.take o):Nat)])/\H'=x0::cS ch sz off pl pc bf::rest:=by
 refine iG e ?_
 have hl:(ch.take o).length=o:=by rw[List.length_take];omega
 refine aK (by trivial) (by trivial) ?_
 refine aK (by trivial) (by trivial) ?_
 refine aK (by trivial) (by trivial) ?_
 refine aK (by trivial) (by trivial) ?_
 refine dT (by trivial) (by trivial) (fun hz=>?_) (fun hz=>?_)
 ·refine aK (by trivial) (by trivial) (aF (az ?_))
  refine cm rfl (by trivial) (bg (by simp) (by rfl) ?_)
  have hz:EJ ch [10] 0 (o:Int) = -1:=by simpa using hz
  rw[zm] at hz
  have h10:¬ 10∈ch.take o:=by
   intro m;rw[au m] at hz;omega
  rw[rU]
  unfold cV cU
  rw[ar h10,hl]
  refine⟨?_,rfl⟩
  simp
 ·refine aK (by trivial) (by trivial) (aF (az ?_))
  refine cm rfl (by trivial) (bg (by simp) (by rfl) ?_)
  have hz:¬ EJ ch [10] 0 (o:Int) = -1:=by simpa using hz
  rw[zm] at hz ⊢
  have h10:10∈ch.take o:=by
   apply Classical.byContradiction
   intro m;rw[ar m] at hz;exact hz rfl
  rw[au h10,rU]
  have:=tW 10 _ h10
  unfold cV cU
  rw[au h10]
  refine⟨?_,rfl⟩
  congr 1
  congr 1
  rw[show min o ch.length=o by omega]
  have e2:(o:Int) - (((o-1 - (cT 10 (ch.take o)).length:Nat):Int)+1)=((cT 10 (ch.take o)).length:Int):=by exact Nm ‹_› ‹_›
  rw[e2]
  simp
end
section
variable {c:Cx}{r:Nat}
def ey(x:Nat):Prop:=x∈[60,97,62,47,66,32,33,13,49,63,10,44,0,122,81,9,201,160]
theorem vM(e:aY c){x:Nat}(hx:ey x){H:Hp}:SemCall c (r+1) (.ref 84) [.d (.int x)] H fun y H'=>y=.d (.bool (x==1))/\H'=H:=by
 refine jY e ?_
 refine cm (v:=.d (.bool (x==1))) (H1:=H) rfl ?_ (bg (ao _) rfl ⟨rfl,rfl⟩)
 unfold ey at hx
 simp only[List.mem_cons,List.not_mem_nil,or_false] at hx
 rcases hx with rfl|rfl|rfl|rfl|rfl|rfl|rfl|rfl|rfl|rfl|rfl|rfl|rfl|rfl|rfl|rfl|rfl|rfl<;>rfl
noncomputable abbrev Gg:D:=st [105,110,118,97,108,105,100,45,99,111,100,101,112,111,105,110,116]
noncomputable abbrev cE(n:Nat):Option Cell:=some (.dlist (List.replicate n Gg))
theorem gc{i:Nat}{x:V}:∀{m r:aD},lk i m=some x->lk i (m++r)=some x:=by
 intro m
 induction m with
 |nil=>intro _ h;nomatch h
 |cons p m ihr=>
  intro r h
  rw[List.cons_append]
  rw[a6] at h ⊢
  split
  ·rename_i q;rw[au q] at h;exact h
  ·rename_i q;rw[ar q] at h;exact ihr h
noncomputable def RH:S:=sB (sH ci)
theorem Ip(e:aY c){x0 x2:Option Cell}{ch:SQ}{sz off pl pc n:Nat}{bf:Option Nat}{rest:Hp}{d0:SQ}(hd0:∀x∈d0,ey x)(hl:n+d0.length<=100000) :
  SemCall c (r+2) (.ref 148) [.r 1,.d (st d0)] (x0::cS ch sz off pl pc bf::x2::cE n::rest) fun y H'=>y=.d .none/\H'=x0::cS ch sz off pl pc bf::x2::cE (n+d0.count 1)::rest:=by
 refine du e ?_
 refine y6 (by trivial) (sn d0) ?_
 have main:∀(d:SQ) (n n':Nat),(∀x∈d,ey x)->n+d.length<=100000->n'=n+d.count 1 ->
   il (x0::cS ch sz off pl pc bf::x2::cE 0::rest).length (fun d m H K=>rB c TT (r+1) (.nm 0) (.d d) m H K)
    (wS c TT (r+1) (x0::cS ch sz off pl pc bf::x2::cE 0::rest).length RH) (d.map fun ch=>st [ch]) [(2,.r 1),(33,.d (st d0))] (x0::cS ch sz off pl pc bf::x2::cE n::rest)
    (andThen c TT (r+1) (x0::cS ch sz off pl pc bf::x2::cE 0::rest).length .nil (ip (x0::cS ch sz off pl pc bf::x2::cE 0::rest).length fun y H'=>y=.d .none/\H'=x0::cS ch sz off pl pc bf::x2::cE n'::rest)):=by
  intro d
  induction d with
  |nil=>
   intro n n' _ _ e1
   subst e1
   exact az (aF (dF (by simp) ⟨rfl,by simp⟩))
  |cons x d ih=>
   intro n n' hx hn e1
   have hx1:=hx x aa
   have ih':=fun n h e=>ih n n' (fun y hy=>hx y (ad _ hy)) h e
   rw[List.map_cons]
   refine qH (tg (by trivial) ?_)
   refine gg ?_
   refine cg (by trivial) (by trivial) (vM e hx1) ?_
   refine e8 ?_
   refine av (a7 _) ?_
   refine iA (fun h1=>?_) (fun h1=>?_)
   ·have h1:x=1:=by simpa using h1
    subst h1
    have hlen:(List.replicate n Gg).length<=16777215:=by rw[List.length_replicate];simp at hn;omega
    refine iY (by trivial) (aF (az (aF ?_)))
    refine jS (fun i x h=>gc (m:=[(2,_),(33,_)]) (r:=[(0,_)]) h) ?_
    have e2:List.replicate n Gg++[Gg]=List.replicate (n+1) Gg:=by rw[List.replicate_succ']
    rw[e2]
    exact ih' (n+1) (by simp at hn;omega) (by rw[e1,List.count_cons_self];omega)
   ·have h1:x≠1:=by simpa using h1
    refine aF (az (aF ?_))
    refine jS (fun i x h=>gc (m:=[(2,_),(33,_)]) (r:=[(0,_)]) h) ?_
    exact ih' n (by simp at hn;omega) (by rw[e1,List.count_cons_of_ne h1])
 exact main d0 n _ hd0 hl rfl
end
structure Sm where
 tx:SQ
 place:Nat
 ch:SQ
 off:Nat
 pl:Nat
 pc:Nat
 bf:Option Nat
 er:Nat
noncomputable abbrev Hs(x0:Option Cell)(s:Sm)(rest:Hp):Hp:=x0::cS s.ch s.ch.length s.off s.pl s.pc s.bf::AN s.tx s.place::cE s.er::rest
structure e6(M:SQ)(pos:Nat)(s:Sm):Prop where
 len:s.tx.length<=1000
 sg:∀x∈s.tx,ey x
 mend:M=c5 false s.tx
 bf:s.bf=none\/s.bf=some 13
 off:s.off<=s.ch.length
 q:s.off<=pos
 rest:M.drop (pos-s.off)=s.ch++c5 false (s.bf.toList++s.tx.drop s.place)
 ln:s.pl=cV 0 (M.take (pos-s.off))
 cl:s.pc=cU 0 (M.take (pos-s.off))
 er:s.er=(s.tx.take s.place).count 1
 chl:s.ch.length<=1000
 place:s.place<=s.tx.length
 posle:pos<=M.length
theorem fO:∀(x:SQ) (b:Bool),(c5 b x).length<=x.length:=by
 intro x
 induction x with
 |nil=>intro b;exact ao _
 |cons c r ihr=>
  intro b
  rw[bH]
  split
  ·have:=ihr false;simp;omega
  ·split
   ·have:=ihr true;simp;omega
   ·have:=ihr false;simp;omega
noncomputable def bS(d:SQ):Option Nat:=if 1<d.length/\d.getLast?=some 13 then some 13 else none
noncomputable def bM(d:SQ):SQ:=if 1<d.length/\d.getLast?=some 13 then d.dropLast else d
section
variable {c:Cx}{r:Nat}
noncomputable def re:S:=sT dz
noncomputable def zd:S:=sT (sT (sT (sT (sT (sT re)))))
theorem G7{x:Nat}(h:ey x):x<55296:=by
 have key:∀y∈[60,97,62,47,66,32,33,13,49,63,10,44,0,122,81,9,201,160],y<55296:=by decide
 exact key x h
theorem kH:∀x:SQ,(fA x).length<=x.length
 |[]=>ao _
 |[c]=>ao _
 |c::d::r=>by
  show (if c=13/\d=10 then 10::fA r else c::fA (d::r)).length<=_
  split
  ·have:=kH r;simp;omega
  ·have:=kH (d::r);simp at this ⊢;omega
theorem Ai(e:aY c){x0 x2:Option Cell}{n pl pc:Nat}{rest:Hp}{d:SQ}{sz:D}{Q:SV}{k:Nat}(hk:k=(x0::cS [] 0 0 pl pc none::x2::cE n::rest).length)
  (hd0:∀x∈d,ey x)(hl:d.length<=1500)(hn:n<=1500)(hne:d≠[])
  (q:Q (.d (.bool true)) (x0::cS (c5 false (bM d)) (c5 false (bM d)).length 0 pl pc (bS d)::x2::cE (n+(bM d).count 1)::rest)) :
  wS c TT (r+2) k zd [(2,.r 1),(15,.d sz),(33,.d (st d))] (x0::cS [] 0 0 pl pc none::x2::cE n::rest) (ip k Q):=by
 have body:∀(d':SQ) (ext:aD) (bf:Option Nat),(∀x∈d',ey x)->d'.length<=1500->d'=bM d->bf=bS d ->
   wS c TT (r+2) k (sT zd) ((2,.r 1)::(15,.d sz)::(33,.d (st d'))::ext) (x0::cS [] 0 0 pl pc bf::x2::cE n::rest) (ip k Q):=by
  intro d' ext bf hx hl' e1 e2
  have hb1:d'.length+(d'.length+1) * [10].length<=16777216:=sK (bq hl')
  have hr:(bU d' [13,10] [10]).length<=1500:=by rw[kK];exact ak (kH d') hl'
  have hb2:(bU d' [13,10] [10]).length+((bU d' [13,10] [10]).length+1) * [10].length<=16777216:=sK (bq hr)
  have hn3:(c5 false d').length<=16777216:=bq (ak (fO d' false) hl')
  refine cb (by trivial) (by trivial) ?_
  refine y0 (ja (by trivial) (by trivial) (by trivial) (Ip e hx (ak (Nat.add_le_add hn hl') (by decide))) ?_)
  refine e8 ?_
  refine aF (az ?_)
  refine aK (by trivial) (by trivial) ?_
  refine aK (by trivial) (by trivial) ?_
  rw[rh]
  refine aK (by trivial) (by trivial) ?_
  refine aK (by trivial) (by trivial) ?_
  refine cm rfl (by trivial) (bg (by simp[hk]) (by rfl) ?_)
  subst e1 e2
  exact q
 have hok:ey (d.getLast hne):=hd0 _ (List.getLast_mem hne)
 have hlt:=G7 hok
 have hd2:d.length<=16777216:=bq hl
 have gl:d.getLast?=some (d.getLast hne):=List.getLast?_eq_some_getLast hne
 have hdl:d.dropLast.length<=d.length:=by rw[List.length_dropLast];exact Ng
 by_cases h1:1<d.length
 ·refine dT (by trivial) (by trivial) (fun _=>?_) (fun h=>absurd h (by simp;omega))
  by_cases h13:d.getLast hne=13
  ·have hix:k6 (st d) (.int (-1))=some (st [13]):=by rw[fX d (-1) (d.getLast hne) (by decide) (ph hne),h13]
   refine aK (by (simpa! only [hix])) (by trivial) ?_
   refine cb (by trivial) (by trivial) ?_
   refine aK (by (simpa! only [hix])) (by trivial) ?_
   refine aK (by trivial) (by trivial) ?_
   refine aF (az (aF (az ?_)))
   rw[zG]
   have kd:d.dropLast=bM d:=by unfold bM;rw[au ⟨h1,by rw[gl,h13]⟩]
   have kb:some 13=bS d:=by unfold bS;rw[au ⟨h1,by rw[gl,h13]⟩]
   exact body d.dropLast _ (some 13) (fun x hx=>hd0 x (List.mem_of_mem_take (by rw[←List.dropLast_eq_take];exact hx))) (ak hdl hl) kd kb
  ·have hix:k6 (st d) (.int (-1))=some (st [d.getLast hne]):=fX d (-1) (d.getLast hne) (by decide) (ph hne)
   have hA:(((d.getLast hne:Nat):Int)==13)=false:=kx (b:=13) h13
   have hB:decide ((55296:Int)<=((d.getLast hne:Nat):Int))=false:=decide_eq_false fun z=>Nat.not_le.mpr hlt (Int.ofNat_le.mp z)
   refine aK (by (simpa! only [hix])) (by trivial) ?_
   refine be (by (simpa! only [hA,hB])) (by trivial) ?_
   refine aF (az (aF (az ?_)))
   have kd:d=bM d:=by unfold bM;rw[ar fun h=>h13 (by have:=h.2;rw[gl] at this;exact aj this)]
   have kb:none=bS d:=by unfold bS;rw[ar fun h=>h13 (by have:=h.2;rw[gl] at this;exact aj this)]
   exact body d _ none hd0 hl kd kb
 ·refine dT (by trivial) (by trivial) (fun h=>absurd h (by simp;omega)) (fun _=>?_)
  refine aF (az ?_)
  have kd:d=bM d:=by unfold bM;rw[ar fun h=>h1 h.1]
  have kb:none=bS d:=by unfold bS;rw[ar fun h=>h1 h.1]
  exact body d [] none hd0 hl kd kb
theorem It(e:aY c){x0:Option Cell}{tx ch:SQ}{place off pl pc er sz:Nat}{bf:Option Nat}{rest:Hp}{Q:SV}{k:Nat}(hk:k=4+rest.length)
  (ht:tx.length<=1000)(hsg:∀x∈tx,ey x)(hch:ch.length<=1000)(hbf:bf=none\/bf=some 13)(her:er<=1000)(hpl:place<=tx.length)
  (qf:bf.toList++(tx.drop place).take sz=[]->Q (.d (.bool false)) (Hs x0 ⟨tx,place,[],0,cV pl ch,cU pc ch,none,er⟩ rest))
  (qt:bf.toList++(tx.drop place).take sz≠[]->Q (.d (.bool true)) (Hs x0 ⟨tx,place+((tx.drop place).take sz).length,c5 false (bM (bf.toList++(tx.drop place).take sz)),0,cV pl ch,cU pc ch,bS (bf.toList++(tx.drop place).take sz),er+(bM (bf.toList++(tx.drop place).take sz)).count 1⟩ rest)) :
  wS c TT (r+2) k re [(2,.r 1),(15,.d (.int sz))] (Hs x0 ⟨tx,place,ch,off,pl,pc,bf,er⟩ rest) (ip k Q):=by
 have hd:((tx.drop place).take sz).length<=1000:=by rw[List.length_take,List.length_drop];exact I9 ‹_› (by decide)
 refine df (ja (by trivial) (by trivial) (by trivial) (jj e hch (ao _)) ?_)
 refine e8 ?_
 rw[List.take_length]
 refine tg (by trivial) ?_
 refine aK (by trivial) (by trivial) ?_
 refine aK (by trivial) (by trivial) ?_
 refine aK (by trivial) (by trivial) ?_
 refine df (ja (by trivial) (by trivial) (by trivial) (Ir e ht) ?_)
 refine e8 ?_
 refine tg (by trivial) ?_
 have mem:∀x∈(tx.drop place).take sz,ey x:=fun x hx=>hsg x (List.mem_of_mem_drop (List.mem_of_mem_take hx))
 generalize (tx.drop place).take sz=data at qf qt hd mem ⊢
 have hd2:data.length<=16777216:=by omega
 rcases hbf with rfl|rfl
 ·refine be (by trivial) (by trivial) ?_
  cases hde:data with
  |nil=>
   refine cb (by trivial) (by trivial) ?_
   refine cm rfl (by trivial) ?_
   have:=qf (by rw[hde];rfl)
   exact bg (m:=[]) (by simp[hk];omega) (by rfl) this
  |cons a b=>
   rw[hde] at hd2
   refine be (by trivial) (by trivial) ?_
   refine aF (az (aF (az ?_)))
   rw[hde] at qt mem hd
   exact Ai (sz:=.int sz) e (by simp[hk];omega) mem (by omega) (by omega) (by simp) (qt (by simp))
 ·refine cb (by trivial) (by trivial) ?_
  have hs2:([13]:SQ).length+data.length<=16777216:=by simp;omega
  refine aK (by trivial) (by trivial) ?_
  refine aK (by trivial) (by trivial) ?_
  refine aF (az ?_)
  refine Ai (sz:=.int sz) e (by simp[hk];omega) (fun x hx=>?_) (by simp;omega) (by omega) (by simp) (qt (by simp))
  rcases List.mem_cons.mp hx with rfl|hx
  ·unfold ey;simp
  ·exact mem x hx
end
theorem iz(c:Nat):∀(a b:SQ),c∈b->cT c (a++b)=cT c b:=by
 intro a
 induction a with
 |nil=>intro b h;exact rfl
 |cons k r ihr=>
  intro b h
  rw[List.cons_append,bJ,au (List.mem_append_right r h),ihr b h]
theorem gy(c:Nat):∀(a b:SQ),c∉b->c∈a->cT c (a++b)=cT c a++b:=by
 intro a
 induction a with
 |nil=>intro b _ h;nomatch h
 |cons k r ihr=>
  intro b h m
  rw[List.cons_append,bJ,bJ]
  by_cases hr:c∈r
  ·rw[au (List.mem_append_left b hr),au hr,ihr b h hr]
  ·have hk:k=c:=by rcases List.mem_cons.mp m with e|e;exact e.symm;exact absurd e hr
   rw[ar (fun z=>by rcases List.mem_append.mp z with z|z;exact hr z;exact h z),ar hr,au hk,au hk]
theorem lQ(l:Nat)(a b:SQ):cV l (a++b)=cV (cV l a) b:=by unfold cV;rw[List.count_append];omega
theorem lC(k:Nat)(a b:SQ):cU k (a++b)=cU (cU k a) b:=by
 unfold cU
 by_cases hb:10∈b
 ·rw[au (List.mem_append_right a hb),au hb,iz _ _ _ hb]
 ·rw[ar hb]
  by_cases ha:10∈a
  ·rw[au (List.mem_append_left b ha),au ha,gy _ _ _ hb ha,ae]
  ·rw[ar ha,ar (fun z=>by rcases List.mem_append.mp z with z|z;exact ha z;exact hb z),ae];omega
theorem jP:∀(x:SQ) (b:Bool),oG b x=match x.getLast? with|none=>b|some c=>decide (c=13)
 |[],b=>rfl
 |[c],b=>rfl
 |c::d::r,b=>by
  rw[jO,jP (d::r),List.getLast?_cons_cons]
  cases h:(d::r).getLast? with
  |none=>simp at h
  |some x=>rfl
theorem kj(d:SQ):bM d++(bS d).toList=d:=by
 unfold bM bS
 by_cases h:1<d.length/\d.getLast?=some 13
 ·rw[au h,au h]
  have hne:d≠[]:=by intro e;rw[e] at h;simp at h
  have:=List.dropLast_concat_getLast hne
  rw[List.getLast?_eq_some_getLast hne] at h
  rw[aj h.2] at this
  exact this
 ·rw[ar h,ar h];simp
theorem xQ(d rem:SQ)(h:d.length<=1->rem=[]):c5 false (d++rem)=c5 false (bM d)++c5 false ((bS d).toList++rem):=by
 conv=>lhs;rw[←kj d]
 rw[af,q6]
 congr 1
 rw[jP]
 cases hl:(bM d).getLast? with
 |none=>rfl
 |some x=>
  dsimp only
  by_cases hx:x=13
  ·rw[decide_eq_true hx]
   by_cases hk:1<d.length/\d.getLast?=some 13
   ·have:bS d=some 13:=by unfold bS;rw[au hk]
    rw[this]
    exact lV (by intro r' e;nomatch e)
   ·have e1:bS d=none:=by unfold bS;rw[ar hk]
    have e2:bM d=d:=by unfold bM;rw[ar hk]
    rw[e2,hx] at hl
    have:d.length<=1:=by
     apply Classical.byContradiction
     intro q;exact hk ⟨by exact E2 ‹_›,hl⟩
    rw[e1,h this];rfl
  ·rw[decide_eq_false hx]
theorem lu{α:Type}(x:List α)(n:Nat):x.take (x.take n).length=x.take n:=by
 rw[List.length_take]
 by_cases q:n<=x.length
 ·rw[Nat.min_eq_left q]
 ·rw[Nat.min_eq_right (by omega),List.take_of_length_le (by omega),List.take_of_length_le (by omega)]
noncomputable def lZ(M:SQ)(s:Sm)(sz:Nat):Sm:=
 let d:=s.bf.toList++(s.tx.drop s.place).take sz
 if d=[] then ⟨s.tx,s.place,[],0,cV s.pl s.ch,cU s.pc s.ch,none,s.er⟩
 else ⟨s.tx,s.place+((s.tx.drop s.place).take sz).length,c5 false (bM d),0,cV s.pl s.ch,cU s.pc s.ch,bS d,s.er+(bM d).count 1⟩
theorem pn{d:SQ}(h:d≠[]):bM d≠[]:=by
 unfold bM
 split
 ·rename_i q
  intro e
  have:=congrArg List.length e
  rw[List.length_dropLast] at this
  simp at this;omega
 ·exact h
theorem yr:∀{x:SQ},x≠[]->c5 false x≠[]
 |[],h=>absurd rfl h
 |c::r,_=>by
  rw[bH,ar (fun z:false=true/\c=10=>by cases z.1)]
  split<;>simp
theorem zj{M:SQ}{pos:Nat}{s:Sm}{sz:Nat}(I:e6 M pos s)(hsz:2<=sz):e6 M (pos-s.off+s.ch.length) (lZ M s sz)/\(lZ M s sz).off=0/\((lZ M s sz).ch=[]->pos-s.off+s.ch.length=M.length)/\(lZ M s sz).tx=s.tx:=by
 have hML:M.length<=1000:=by rw[I.mend];exact ak (fO s.tx false) I.len
 have hp:=I.posle
 have hq:=I.q
 have hlen:=congrArg List.length I.rest
 rw[List.length_drop,ae] at hlen
 have htake:M.take (pos-s.off+s.ch.length)=M.take (pos-s.off)++s.ch:=by
  rw[List.take_add,I.rest,List.take_left]
 have hdrop:M.drop (pos-s.off+s.ch.length)=c5 false (s.bf.toList++s.tx.drop s.place):=by
  rw[←List.drop_drop,I.rest,List.drop_left]
 have l1:cV s.pl s.ch=cV 0 (M.take (pos-s.off+s.ch.length)):=by rw[htake,lQ,I.ln]
 have l2:cU s.pc s.ch=cU 0 (M.take (pos-s.off+s.ch.length)):=by rw[htake,lC,I.cl]
 unfold lZ
 dsimp only
 by_cases hd:s.bf.toList++(s.tx.drop s.place).take sz=[]
 ·rw[au hd]
  obtain⟨h1,h2⟩:=List.append_eq_nil_iff.mp hd
  have h3:s.tx.drop s.place=[]:=by
   rcases List.take_eq_nil_iff.mp h2 with h|h
   ·exact absurd (h▸hsz) (by decide)
   ·exact h
  have hb:s.bf=none:=by cases hb:s.bf with
   |none=>rfl
   |some x=>rw[hb] at h1;nomatch h1
  have hend:pos-s.off+s.ch.length=M.length:=by
   rw[h1,h3] at hlen
   have:(c5 false ([]++[])).length=0:=rfl
   exact Nl ‹_› ‹_› ‹_›
  refine⟨⟨I.len,I.sg,I.mend,.inl rfl,ao _,Nat.zero_le _,?_,by rw[Nat.sub_zero];exact l1,by rw[Nat.sub_zero];exact l2,I.er,by simp,I.place,by exact E3 ‹_› ‹_›⟩,rfl,fun _=>hend,rfl⟩
  dsimp only
  rw[Nat.sub_zero,hdrop,hb,h3];rfl
 ·rw[ar hd]
  have hpl:=I.place
  have hdl:((s.tx.drop s.place).take sz).length=min sz (s.tx.length-s.place):=by rw[List.length_take,List.length_drop]
  have hsplit:s.tx.drop s.place=(s.tx.drop s.place).take sz++s.tx.drop (s.place+((s.tx.drop s.place).take sz).length):=by
   conv=>lhs;rw[←List.take_append_drop sz (s.tx.drop s.place)]
   congr 1
   rw[List.drop_drop,hdl]
   by_cases q:sz<=s.tx.length-s.place
   ·rw[Nat.min_eq_left q]
   ·rw[List.drop_of_length_le (by exact Nat.sub_le_iff_le_add'.mp (Nat.le_of_lt (Nat.lt_of_not_le q))),List.drop_of_length_le (by exact M1 ‹_›)]
  have hk:=xQ (s.bf.toList++(s.tx.drop s.place).take sz) (s.tx.drop (s.place+((s.tx.drop s.place).take sz).length)) (fun h=>by
   rw[ae] at h
   rw[List.drop_of_length_le]
   rw[hdl] at h ⊢
   have q:¬ sz<=s.tx.length-s.place:=fun q=>by rw[Nat.min_eq_left q] at h;exact absurd (ak hsz (ak (am _ _) h)) (by decide)
   rw[Nat.min_eq_right (Nat.le_of_lt (Nat.lt_of_not_le q))];exact Nat.sub_le_iff_le_add'.mp (ao _))
  have hrest:M.drop (pos-s.off+s.ch.length)=c5 false (bM (s.bf.toList++(s.tx.drop s.place).take sz))++c5 false ((bS (s.bf.toList++(s.tx.drop s.place).take sz)).toList++s.tx.drop (s.place+((s.tx.drop s.place).take sz).length)):=by
   rw[hdrop,←hk,af,←hsplit]
  have hcount:(bM (s.bf.toList++(s.tx.drop s.place).take sz)).count 1=((s.tx.drop s.place).take sz).count 1:=by
   have h1:=congrArg (List.count 1) (kj (s.bf.toList++(s.tx.drop s.place).take sz))
   rw[List.count_append,List.count_append] at h1
   have h2:(bS (s.bf.toList++(s.tx.drop s.place).take sz)).toList.count 1=0:=by
    unfold bS;split<;>rfl
   have h3:s.bf.toList.count 1=0:=by
    rcases I.bf with h|h<;>rw[h]<;>rfl
   rw[h2,h3,Nat.add_zero,Nat.zero_add] at h1;exact h1
  have hcl:=congrArg List.length hrest
  rw[List.length_drop,ae] at hcl
  refine⟨⟨I.len,I.sg,I.mend,?_,Nat.zero_le _,Nat.zero_le _,?_,by rw[Nat.sub_zero];exact l1,by rw[Nat.sub_zero];exact l2,?_,?_,?_,by exact E3 ‹_› ‹_›⟩,rfl,fun h=>absurd h (yr (pn hd)),rfl⟩
  ·show bS _ = none\/bS _ = some 13
   unfold bS;split
   ·exact .inr rfl
   ·exact .inl rfl
  ·dsimp only
   rw[Nat.sub_zero];exact hrest
  ·dsimp only
   rw[List.take_add,List.count_append,I.er,hcount]
   rw[lu]
  ·dsimp only
   exact M7 ‹_› ‹_›
  ·dsimp only
   rw[hdl];exact M2 ‹_›
section
variable {c:Cx}{r:Nat}
theorem qg(e:aY c){M:SQ}{pos:Nat}{s:Sm}{sz:Nat}{x0:Option Cell}{rest:Hp}(I:e6 M pos s)(hsz:2<=sz){k:Nat}(hk:k=4+rest.length) :
  wS c TT (r+2) k re [(2,.r 1),(15,.d (.int sz))] (Hs x0 s rest) (ip k fun y H'=>y=.d (.bool (decide ((lZ M s sz).ch≠[])))/\H'=Hs x0 (lZ M s sz) rest):=by
 have her:s.er<=1000:=by
  rw[I.er]
  have h1:(s.tx.take s.place).count 1<=(s.tx.take s.place).length:=List.count_le_length
  rw[List.length_take] at h1
  exact ak h1 (ak (Nat.min_le_right _ _) (bq I.len))
 refine It e hk I.len I.sg I.chl I.bf her I.place (fun h=>?_) fun h=>?_
 ·have e1:lZ M s sz=⟨s.tx,s.place,[],0,cV s.pl s.ch,cU s.pc s.ch,none,s.er⟩:=by unfold lZ;exact au h
  rw[e1];exact⟨rfl,rfl⟩
 ·have e1:lZ M s sz=⟨s.tx,s.place+((s.tx.drop s.place).take sz).length,c5 false (bM (s.bf.toList++(s.tx.drop s.place).take sz)),0,cV s.pl s.ch,cU s.pc s.ch,bS (s.bf.toList++(s.tx.drop s.place).take sz),s.er+(bM (s.bf.toList++(s.tx.drop s.place).take sz)).count 1⟩:=by unfold lZ;exact ar h
  rw[e1]
  refine⟨?_,rfl⟩
  rw[decide_eq_true (yr (pn h))]
theorem im(e:aY c){M:SQ}{pos:Nat}{s:Sm}{x0:Option Cell}{rest:Hp}(I:e6 M pos s) :
  SemCall c (r+3) (.ref 141) [.r 1] (Hs x0 s rest) fun y H'=>y=.d (.bool (decide ((lZ M s 10240).ch≠[])))/\H'=Hs x0 (lZ M s 10240) rest:=by
 refine iH e ?_
 refine cb (by trivial) (by trivial) ?_
 refine aK (by trivial) (by trivial) (aF (az ?_))
 exact qg (sz:=10240) e I (by decide) (Nat.add_comm _ 4)
theorem rD(e:aY c){M:SQ}{pos:Nat}{s:Sm}{x0:Option Cell}{rest:Hp}(I:e6 M pos s) :
  SemCall c (r+2) (.ref 126) [.r 1] (Hs x0 s rest) fun y H'=>y=.d (.tuple [.int ((cV 0 (M.take pos):Nat)+1),.int (cU 0 (M.take pos):Nat)])/\H'=Hs x0 s rest:=by
 refine jo e ?_
 refine df (ja (by trivial) (by trivial) (by trivial) (jj e I.chl I.off) ?_)
 refine e8 ?_
 refine tg (by trivial) ?_
 refine cm rfl (by trivial) (bg (by simp) (by rfl) ?_)
 have hp:=I.posle
 have hq:=I.q
 have ho:=I.off
 have e1:M.take pos=M.take (pos-s.off)++s.ch.take s.off:=by
  have:pos=(pos-s.off)+s.off:=by exact Jc ‹_›
  conv=>lhs;rw[this,List.take_add,I.rest]
  rw[List.take_append_of_le_length ho]
 rw[e1,lQ,lC,←I.ln,←I.cl]
 exact⟨rfl,rfl⟩
theorem so{M:SQ}{pos:Nat}{s:Sm}(I:e6 M pos s){i:Nat}(h:s.off+i<s.ch.length):s.ch[s.off+i]?=M[pos+i]?:=by
 have hq:=I.q
 have e1:M[pos+i]?=(M.drop (pos-s.off))[s.off+i]?:=by
  rw[List.getElem?_drop];congr 1;exact Nb ‹_›
 rw[e1,I.rest,List.getElem?_append_left h]
theorem sd{M:SQ}{pos:Nat}{s:Sm}(I:e6 M pos s):pos-s.off+s.ch.length<=M.length:=by
 have hlen:=congrArg List.length I.rest
 rw[List.length_drop,ae] at hlen
 have:=I.posle;have:=I.q
 exact E3 ‹_› ‹_›
theorem xD{M:SQ}{pos:Nat}{s:Sm}(I:e6 M pos s){n:Nat}(h:s.off+n<=s.ch.length):e6 M (pos+n) { s with off:=s.off+n }:=by
 have hq:=I.q
 have e1:pos+n - (s.off+n)=pos-s.off:=by exact Nh
 have:=sd I
 exact⟨I.len,I.sg,I.mend,I.bf,h,Nat.add_le_add_right hq n,by show M.drop (pos+n - (s.off+n)) = _;rw[e1];exact I.rest,by show _ = cV 0 (M.take (pos+n - (s.off+n)));rw[e1];exact I.ln,by show _ = cU 0 (M.take (pos+n - (s.off+n)));rw[e1];exact I.cl,I.er,I.chl,I.place,by have h2:=Nat.add_le_add_left h (pos-s.off);rw[←Nat.add_assoc,Nat.sub_add_cancel hq] at h2;exact ak h2 this⟩
theorem xC{M:SQ}{pos:Nat}{s:Sm}(I:e6 M pos s)(h:1<=s.off):e6 M (pos-1) { s with off:=s.off-1 }:=by
 have hq:=I.q
 have ho:=I.off
 have e1:pos-1 - (s.off-1)=pos-s.off:=by exact Nj ‹_›
 have:=I.posle
 exact⟨I.len,I.sg,I.mend,I.bf,(by dsimp only;exact Jd ‹_›),(by dsimp only;exact Nd ‹_›),by show M.drop (pos-1 - (s.off-1)) = _;rw[e1];exact I.rest,by show _ = cV 0 (M.take (pos-1 - (s.off-1)));rw[e1];exact I.ln,by show _ = cU 0 (M.take (pos-1 - (s.off-1)));rw[e1];exact I.cl,I.er,I.chl,I.place,by exact Jd ‹_›⟩
def DE(M:SQ)(pos:Nat)(x0:Option Cell)(rest:Hp)(tx:SQ)(y:V)(H':Hp):Prop:=
 ∃s',y=.d (rR M[pos]?)/\H'=Hs x0 s' rest/\e6 M (min (pos+1) M.length) s'/\(pos<M.length->1<=s'.off)/\s'.tx=tx
theorem Af(e:aY c){M:SQ}{pos:Nat}{s:Sm}{x0:Option Cell}{rest:Hp}(I:e6 M pos s) :
  SemCall c (r+4) (.ref 133) [.r 1] (Hs x0 s rest) (DE M pos x0 rest s.tx):=by
 refine oU e ?_
 have tail:∀(s:Sm) (ch:Nat) (k:Nat),e6 M pos s->s.off<s.ch.length->M[pos]?=some ch->k=4+rest.length ->
   wS c TT (r+3) k (sT lK) [(2,.r 1)] (Hs x0 s rest) (ip k (DE M pos x0 rest s.tx)):=by
  intro s ch k I hlt hM hk
  have h1:=so I (i:=0) hlt
  rw[Nat.add_zero,Nat.add_zero,hM] at h1
  have hix:k6 (st s.ch) (.int (s.off:Int))=some (st [ch]):=fX _ _ ch (by have:=I.chl;exact qk ‹_› (Nat.le_of_lt ‹_›)) (dm h1)
  refine aK (by trivial) (by trivial) ?_
  refine aK (by (simpa! only [hix])) (by trivial) ?_
  refine aK (by trivial) (by trivial) ?_
  refine cm rfl (by trivial) (bg (an (hk.trans (Nat.add_comm 4 _))) (by rfl) ?_)
  have hpl:pos<M.length:=oh hM
  refine⟨{ s with off:=s.off+1 },by rw[hM];rfl,?_,?_,fun _=>am _ _,rfl⟩
  ·show _ = x0::cS s.ch s.ch.length (s.off+1) s.pl s.pc s.bf::AN s.tx s.place::cE s.er::rest
   simp
  ·rw[show min (pos+1) M.length=pos+1 by exact Jb ‹_›]
   exact xD I hlt
 by_cases hge:s.ch.length<=s.off
 ·refine dT (by trivial) (by trivial) (fun _=>?_) (fun h=>absurd h (by simp;omega))
  refine gg ?_
  show wX c TT (r+3) (.mc (.v 2) 30 .nil) _ _ _
  refine ja (by trivial) (by trivial) (by trivial) (im e I) ?_
  refine e8 ?_
  obtain⟨J,j0,jend,jt⟩:=zj (sz:=10240) I (by decide)
  have ho:=I.off
  have hpos:pos-s.off+s.ch.length=pos:=by have:=I.q;exact Nc ‹_› ‹_› ‹_›
  rw[hpos] at J jend
  refine av (a7 _) (av (a7 _) (iA (fun h=>?_) (fun h=>?_)))
  ·have hnil:(lZ M s 10240).ch=[]:=by simpa using h
   have hend:=jend hnil
   refine cm rfl (by trivial) (DN (bg (m:=[]) (by simp) (by rfl) ?_))
   refine⟨lZ M s 10240,?_,rfl,?_,fun h=>absurd hend (Nat.ne_of_lt h),jt⟩
   ·rw[List.getElem?_eq_none (an hend.symm)];rfl
   ·rw[show min (pos+1) M.length=pos by rw[←hend];exact Nat.min_eq_right (Nat.le_succ _)];exact J
  ·have hne:(lZ M s 10240).ch≠[]:=by simpa using h
   refine aF (az (aF (az ?_)))
   have hlt:(lZ M s 10240).off<(lZ M s 10240).ch.length:=by rw[j0];exact List.length_pos_iff.mpr hne
   have h1:=so J (i:=0) hlt
   rw[Nat.add_zero,Nat.add_zero] at h1
   rw[←jt]
   exact tail _ _ _ J hlt (by rw[←h1];exact List.getElem?_eq_getElem hlt) (Nat.add_comm _ 4)
 ·refine dT (by trivial) (by trivial) (fun h=>absurd h (by simp;exact E2 ‹_›)) (fun _=>aF (az ?_))
  have hlt:s.off<s.ch.length:=by exact E2 ‹_›
  have h1:=so I (i:=0) hlt
  rw[Nat.add_zero,Nat.add_zero] at h1
  exact tail s _ _ I hlt (by rw[←h1];exact List.getElem?_eq_getElem hlt) (Nat.add_comm _ 4)
theorem tF(e:aY c){M:SQ}{pos:Nat}{s:Sm}{x0:Option Cell}{rest:Hp}{ch:Option Nat}(I:e6 M (min (pos+1) M.length) s)(hch:ch=M[pos]?)(ho:pos<M.length->1<=s.off)(hp:pos<=M.length) :
  SemCall c (r+1) (.ref 163) [.r 1,.d (rR ch)] (Hs x0 s rest) fun y H'=>y=.d .none/\∃s',H'=Hs x0 s' rest/\e6 M pos s'/\s'.tx=s.tx:=by
 refine mK e ?_
 subst hch
 by_cases hlt:pos<M.length
 ·have hM:M[pos]?=some M[pos]:=List.getElem?_eq_getElem hlt
  have h1:=ho hlt
  rw[hM]
  rw[show min (pos+1) M.length=pos+1 by exact Jb ‹_›] at I
  have J:=xC I h1
  rw[Nat.add_sub_cancel] at J
  have hix:k6 (st s.ch) (.int ((s.off:Int) - 1))=some (st [M[pos]]):=by
   have h2:=so J (i:=0) (Nat.lt_of_lt_of_le (Nat.sub_lt h1 Nat.one_pos) I.off)
   rw[Nat.add_zero,Nat.add_zero,hM] at h2
   have:=fX s.ch ((s.off-1:Nat):Int) M[pos] (qk I.chl (ak (Nat.sub_le _ _) I.off)) (dm h2)
   rwa[show ((s.off-1:Nat):Int)=(s.off:Int) - 1 by exact M4 ‹_›] at this
  have h0:((s.off:Int)==0)=false:=kx (b:=0) (Nat.ne_of_gt h1)
  refine cb (by (simpa! only [rR])) (by trivial) ?_
  refine be (by (simpa! only [h0])) (by trivial) ?_
  refine yY (by trivial) (by trivial) (by trivial) (by trivial) (by trivial) ?_
  refine Hm (by (simpa! only [hix,rR])) (by (simpa! only [decide_eq_true_eq])) ?_
  refine aF (az (aF (az (aF (dF (by simp) ⟨rfl,{ s with off:=s.off-1 },?_,J,rfl⟩)))))
  show _ = x0::cS s.ch s.ch.length (s.off-1) s.pl s.pc s.bf::AN s.tx s.place::cE s.er::rest
  rw[show (s.off:Int) - 1=((s.off-1:Nat):Int) by exact M3 ‹_›]
 ·have hM:M[pos]?=none:=List.getElem?_eq_none (Nat.not_lt.mp hlt)
  rw[hM]
  refine be (by (simpa! only [rR,qK])) (by trivial) ?_
  refine aF (az (aF (dF (by simp) ⟨rfl,s,rfl,?_,rfl⟩)))
  rw[show min (pos+1) M.length=pos by exact Ja ‹_› ‹_›] at I
  exact I
end
section
variable {c:Cx}{r:Nat}{T:aW}
theorem w5{o e:X}{m:aD}{H H1 H2:Hp}{n:Nat}{ds:List D}{d:D}(h1:aO T o m H=some (.r n,H1))(h0:H1[n]?=some (some (.dlist ds)))(h3:aO T e m H1=some (.d d,H2))(h2:H2[n]?=some (some (.dlist ds)))(hl:ds.length<=16777215) :
  aO T (.app o e) m H=some (.d .none,H2.set n (some (.dlist (ds++[d])))):=by
 have a1:cJ H1 (.r n)=true:=by unfold cJ;dsimp only;rw[h0]
 have a2:cellOf H2 (.r n)=some (n,.dlist ds):=by unfold cellOf;dsimp only;rw[h2]
 show ((aO T o m H).bind fun p=>bc (cJ p.2 p.1) ((aO T e m p.2).bind fun q=>mo p.1 q.1 q.2)) = _
 rw[h1]
 show bc (cJ H1 (.r n)) ((aO T e m H1).bind fun q=>mo (.r n) q.1 q.2) = _
 rw[a1,qJ,h3]
 show mo (.r n) (.d d) H2 = _
 unfold mo
 rw[a2]
 show (mn (.dlist ds) (.d d)).map _ = _
 rw[vZ _ _ hl];rfl
theorem w6{o:X}{m:aD}{H H1:Hp}{n:Nat}{L:List (SQ)}(h1:aO T o m H=some (.r n,H1))(h0:H1[n]?=some (some (.dlist (L.map st))))(hl:(L.map List.length).sum<=16777216) :
  aO T (.bm .join (.c (st [])) (.cons o .nil)) m H=some (.d (st L.flatten),H1):=by
 show ((dk T (.cons o .nil) m H).bind fun q=>(IC .join (.d (st [])) q.1 q.2).map fun x=>(x,q.2)) = _
 have e1:dk T (.cons o .nil) m H=some ([.r n],H1):=by
  show ((aO T o m H).bind fun p=>(dk T .nil m p.2).map fun q=>(p.1::q.1,q.2)) = _
  rw[h1];rfl
 rw[e1]
 show (IC .join (.d (st [])) [.r n] H1).map (fun x=>(x,H1)) = _
 rw[DP]
 have e2:cz H1 [.r n]=some [.list (L.map st)]:=by
  rw[jJ]
  have:mq H1 (.r n)=some (.list (L.map st)):=by unfold mq;dsimp only;rw[h0]
  rw[this];rfl
 rw[e2]
 show (((mw .join [st [],.list (L.map st)]).map V.d).map fun x=>(x,H1)) = _
 rw[mr L hl];rfl
theorem jG(x0:Option Cell)(s:Sm)(rest:Hp)(z:Option Cell):(Hs x0 s (rest++[z]))[rest.length+4]?=some z:=by
 show (x0::cS s.ch s.ch.length s.off s.pl s.pc s.bf::AN s.tx s.place::cE s.er::(rest++[z]))[rest.length+4]?=some z
 simp
theorem mh(x0:Option Cell)(s:Sm)(rest:Hp)(z w:Option Cell):(Hs x0 s (rest++[z])).set (rest.length+4) w=Hs x0 s (rest++[w]):=by
 show (x0::cS s.ch s.ch.length s.off s.pl s.pc s.bf::AN s.tx s.place::cE s.er::(rest++[z])).set (rest.length+4) w = _
 simp
theorem BV{M:SQ}{pos:Nat}{s:Sm}(I:e6 M pos s):M.drop pos=s.ch.drop s.off++M.drop (pos-s.off+s.ch.length):=by
 have hq:=I.q
 have ho:=I.off
 have e1:M.drop pos=(M.drop (pos-s.off)).drop s.off:=by rw[List.drop_drop];congr 1;exact Jc ‹_›
 have e2:M.drop (pos-s.off+s.ch.length)=(M.drop (pos-s.off)).drop s.ch.length:=by rw[List.drop_drop]
 rw[e1,e2,I.rest,List.drop_append_of_le_length ho,List.drop_left]
theorem vG{f:Nat->Bool}:∀(a b:SQ),(a++b).takeWhile f=if (a.takeWhile f).length<a.length then a.takeWhile f else a++b.takeWhile f:=by
 intro a
 induction a with
 |nil=>intro b;exact rfl
 |cons x a ihr=>
  intro b
  rw[List.cons_append,List.takeWhile_cons,List.takeWhile_cons]
  cases hx:f x with
  |false=>simp
  |true=>
   simp only[if_true]
   rw[ihr b]
   by_cases q:(a.takeWhile f).length<a.length
   ·rw[au q,au (by simpa using q)]
   ·rw[ar q,ar (by simpa using q)];rfl
theorem kX{f:Nat->Bool}(a:SQ):(a.takeWhile f).length<=a.length:=by
 have:=congrArg List.length (List.takeWhile_append_dropWhile (p:=f) (l:=a))
 rw[ae] at this;exact Nat.le.intro this
theorem ik{f:Nat->Bool}(a:SQ):a.take (a.takeWhile f).length=a.takeWhile f:=by
 conv=>lhs;rw[←List.takeWhile_append_dropWhile (p:=f) (l:=a)]
 rw[List.takeWhile_append_dropWhile]
 have:a=a.takeWhile f++a.dropWhile f:=(List.takeWhile_append_dropWhile).symm
 conv=>lhs;arg 2;rw[this]
 exact List.take_left
theorem Ij{f:Nat->Bool}:∀(a:SQ) (x:Nat),x∈a.takeWhile f->f x=true:=by
 intro a
 induction a with
 |nil=>intro x h;nomatch h
 |cons y a ihr=>
  intro x h
  rw[List.takeWhile_cons] at h
  cases hy:f y with
  |false=>rw[hy] at h;nomatch h
  |true=>
   rw[hy] at h
   rcases List.mem_cons.mp h with e|e
   ·rw[e];exact hy
   ·exact ihr x e
theorem Mz{f:Nat->Bool}{a:SQ}{j:Nat}(h:j<(a.takeWhile f).length):∃x,a[j]?=some x/\f x=true:=by
 have hl:=kX (f:=f) a
 refine⟨a[j],List.getElem?_eq_getElem (Nat.lt_of_lt_of_le h hl),?_⟩
 have e:(a.takeWhile f)[j]?=a[j]?:=by
  rw[←ik a,List.getElem?_take_of_lt h]
 rw[List.getElem?_eq_getElem h,List.getElem?_eq_getElem (Nat.lt_of_lt_of_le h hl)] at e
 have:=Ij a _ (List.getElem_mem h)
 rw[aj e] at this
 exact this
theorem Ik{f:Nat->Bool}:∀{a:SQ}{x:Nat},a[(a.takeWhile f).length]?=some x->f x=false:=by
 intro a
 induction a with
 |nil=>intro x h;nomatch h
 |cons y a ihr=>
  intro x h
  rw[List.takeWhile_cons] at h
  cases hy:f y with
  |false=>
   rw[hy] at h
   simp at h
   rw[←h];exact hy
  |true=>
   rw[hy] at h
   simp at h
   exact ihr h
noncomputable def NM:S:=sB (sH (sT (sB (sH (sT bu)))))
noncomputable abbrev JD:X:=.and (.cmp (.v 37) .ne (.at (.v 2) 15)) (.cmp (.cmp (.ix (.at (.v 2) 14) (.v 37)) .mem (.v 38)) .eq (.v 39))
noncomputable def wE:S:=sB (sH (sT bu))
noncomputable abbrev Fn(n:Nat)(cs:D)(o:Bool)(ext:aD):aD:=(2,.r 1)::(38,.d cs)::(39,.d (.bool o))::(36,.r n)::ext
theorem wF{x0:Option Cell}{s:Sm}{rest:Hp}{cs:D}{o:Bool}{p:Nat->Bool}{k n:Nat}{Q:Fl->aD->Hp->Prop}(hcs:∀x∈s.ch,bB .mem (st [x]) cs=some (p x))(hch:s.ch.length<=1000)(ho:s.off<=s.ch.length)
  (q:Q .next (Fn n cs o [(37,.d (.int ((s.off+((s.ch.drop s.off).takeWhile fun x=>p x==o).length:Nat):Int)))]) (Hs x0 s rest)) :
  ∀(t j:Nat),j+t=((s.ch.drop s.off).takeWhile fun x=>p x==o).length ->
  i8 k (fun m H K=>wX c TT r JD m H fun v H1=>ok (aN H1 v) fun z=>K z H1) (wS c TT r k NM) (t+1) (Fn n cs o [(37,.d (.int ((s.off+j:Nat):Int)))]) (Hs x0 s rest) Q:=by
 have hl:=kX (f:=fun x=>p x==o) (s.ch.drop s.off)
 rw[List.length_drop] at hl
 intro t
 induction t with
 |zero=>
  intro j hj
  rw[Nat.add_zero] at hj
  subst hj
  by_cases hend:s.off+((s.ch.drop s.off).takeWhile fun x=>p x==o).length=s.ch.length
  ·have hne:((((s.off+((s.ch.drop s.off).takeWhile fun x=>p x==o).length:Nat):Int))==(s.ch.length:Int))=true:=by rw[hend];simp
   refine gb (z:=false) (by (simpa! only [hne,Bool.not_true])) (by trivial) CE (fun _=>q)
  ·have hlt:s.off+((s.ch.drop s.off).takeWhile fun x=>p x==o).length<s.ch.length:=by
    have:=kX (f:=fun x=>p x==o) (s.ch.drop s.off)
    rw[List.length_drop] at this
    exact Nat.lt_of_le_of_ne (ak (Nat.add_le_add_left this _) (an (Nat.add_sub_cancel' ho))) hend
   obtain⟨x,hx⟩:∃x,s.ch[s.off+((s.ch.drop s.off).takeWhile fun x=>p x==o).length]?=some x:=⟨_,List.getElem?_eq_getElem hlt⟩
   have hf:(p x==o)=false:=by
    have:(s.ch.drop s.off)[((s.ch.drop s.off).takeWhile fun x=>p x==o).length]?=some x:=by rw[List.getElem?_drop];exact hx
    exact Ik (f:=fun x=>p x==o) this
   have hne:((((s.off+((s.ch.drop s.off).takeWhile fun x=>p x==o).length:Nat):Int))==(s.ch.length:Int))=false:=kx hend
   have hix:k6 (st s.ch) (.int ((s.off+((s.ch.drop s.off).takeWhile fun x=>p x==o).length:Nat):Int))=some (st [x]):=fX _ _ x (by exact qk ‹_› (Nat.le_of_lt ‹_›)) (dm hx)
   have hm:=hcs x (List.mem_of_getElem? hx)
   refine gb (z:=false) (by (simpa! only [hne,hix,hm,hf])) (by trivial) CE (fun _=>q)
 |succ t ih=>
  intro j hj
  have hjl:j<((s.ch.drop s.off).takeWhile fun x=>p x==o).length:=hj▸Nat.lt_add_of_pos_right (Nat.succ_pos t)
  obtain⟨x,hx,hf⟩:=Mz hjl
  rw[List.getElem?_drop] at hx
  have hlt:=oh hx
  have hne:((((s.off+j:Nat):Int))==(s.ch.length:Int))=false:=kx (Nat.ne_of_lt hlt)
  have hix:k6 (st s.ch) (.int ((s.off+j:Nat):Int))=some (st [x]):=fX _ _ x (by exact qk ‹_› (Nat.le_of_lt ‹_›)) (dm hx)
  have hm:=hcs x (List.mem_of_getElem? hx)
  refine gb (z:=true) (by (simpa! only [hne,hix,hm,hf])) (by trivial) (fun _=>?_) CE
  refine iX (by trivial) (by trivial) (by trivial) (aF ?_)
  refine qL (m3:=Fn n cs o [(37,.d (.int ((s.off+(j+1):Nat):Int)))]) (fun i x h=>?_) (ih (j+1) ((Nat.succ_add_eq_add_succ j t).trans hj))
  rw[show ((s.off+(j+1):Nat):Int)=((s.off+j:Nat):Int)+1 from rfl] at h
  exact h
theorem sL:∀(t:SQ) (b:Bool) (x:Nat),x∈c5 b t->x=10\/x∈t:=by
 intro t
 induction t with
 |nil=>intro b x h;nomatch h
 |cons c r ihr=>
  intro b x h
  rw[bH] at h
  split at h
  ·rcases ihr _ x h with e|e
   ·exact .inl e
   ·exact .inr (ad _ e)
  ·split at h
   ·rcases List.mem_cons.mp h with e|h
    ·exact .inl e
    ·rcases ihr _ x h with e|e
     ·exact .inl e
     ·exact .inr (ad _ e)
   ·rcases List.mem_cons.mp h with e|h
    ·exact .inr (by rw[e];exact List.mem_cons_self ..)
    ·rcases ihr _ x h with e|e
     ·exact .inl e
     ·exact .inr (ad _ e)
theorem Ka{M:SQ}{pos:Nat}{s:Sm}(I:e6 M pos s):∀x∈M,ey x:=by
 intro x hx
 rw[I.mend] at hx
 rcases sL _ _ _ hx with e|e
 ·rw[e];unfold ey;simp
 ·exact I.sg x e
theorem J9{M:SQ}{pos:Nat}{s:Sm}(I:e6 M pos s):∀x∈s.ch,ey x:=by
 intro x hx
 refine Ka I x (List.mem_of_mem_drop (i:=pos-s.off) ?_)
 rw[I.rest];exact List.mem_append_left _ hx
noncomputable def NN:S:=sT (sT (sT wE))
theorem wH(e:aY c){M:SQ}{x0:Option Cell}{rest:Hp}{cs:D}{o:Bool}{p:Nat->Bool}{k:Nat}{Q:Fl->aD->Hp->Prop}{tx W:SQ}{P:Nat}(hcs:∀x,ey x->bB .mem (st [x]) cs=some (p x))
  (hQ:∀(s':Sm) (parts':List (SQ)) (ext':aD),e6 M P s'->s'.tx=tx->parts'.flatten=W->Q .next (Fn (rest.length+4) cs o ext') (Hs x0 s' (rest++[some (.dlist (parts'.map st))]))) :
  ∀(n:Nat) (s:Sm) (pos:Nat) (parts:List (SQ)),e6 M pos s->M.length - (pos-s.off+s.ch.length)<n->parts.length+n<=5000->parts.flatten++(M.drop pos).takeWhile (fun x=>p x==o)=W->P=pos+((M.drop pos).takeWhile fun x=>p x==o).length->s.tx=tx ->
   i8 k (fun m H K=>wX c TT (r+3) (.c (.bool true)) m H fun v H1=>ok (aN H1 v) fun z=>K z H1) (wS c TT (r+3) k wE) n (Fn (rest.length+4) cs o []) (Hs x0 s (rest++[some (.dlist (parts.map st))])) Q:=by
 intro n
 induction n with
 |zero=>intro s pos parts _ h;exact absurd h (Nat.not_lt_zero _)
 |succ n ih=>
  intro s pos parts I hn hp hW hP ht
  have ho:=I.off
  have hch:=I.chl
  have hch2:s.ch.length<=16777216:=bq hch
  have hpl:(parts.map st).length<=16777215:=by rw[ah];exact bq (ak (al _ _) hp)
  have hdr:=BV I
  have hlen:=J9 I
  refine gb (z:=true) rfl (a7 _) (fun _=>?_) CE
  refine aK (by trivial) (by trivial) ?_
  have inner:=fun Q' q'=>wF (c:=c) (r:=r+3) (x0:=x0) (s:=s) (rest:=rest++[some (.dlist (parts.map st))]) (cs:=cs) (o:=o) (p:=p) (k:=k) (n:=rest.length+4) (Q:=Q') (fun x hx=>hcs x (hlen x hx)) hch ho q' ((s.ch.drop s.off).takeWhile fun x=>p x==o).length 0 (Nat.zero_add _)
  simp only[Nat.add_zero] at inner
  refine kE ⟨_,inner _ ?_⟩
  refine az ?_
  have hl:=kX (f:=fun x=>p x==o) (s.ch.drop s.off)
  have htk:=ik (f:=fun x=>p x==o) (s.ch.drop s.off)
  have hap:=vG (f:=fun x=>p x==o) (s.ch.drop s.off) (M.drop (pos-s.off+s.ch.length))
  rw[←hdr] at hap
  rw[List.length_drop] at hl
  rw[List.length_drop] at hap
  generalize hk0:((s.ch.drop s.off).takeWhile fun x=>p x==o)=tw at *
  have tail:∀v37:V,s.off+tw.length=s.ch.length ->
    wS c TT (r+3) k NN (Fn (rest.length+4) cs o [(37,v37)]) (Hs x0 s (rest++[some (.dlist (parts.map st))]))
     (jD k n (fun m H K=>wX c TT (r+3) (.c (.bool true)) m H fun v H1=>ok (aN H1 v) fun z=>K z H1) (wS c TT (r+3) k wE) Q):=by
   intro v37 hfull
   rw[ar (Nat.not_lt.mpr (an (by rw[←hfull,Nat.add_sub_cancel_left])))] at hap
   have hsl:k7 s.ch (some (s.off:Int)) none=s.ch.drop s.off:=zH _ _
   refine iY (w5 (by trivial) (jG _ _ _ _) (by (simpa! only [hsl])) (jG _ _ _ _) hpl) ?_
   rw[mh]
   have emap:parts.map st++[st (s.ch.drop s.off)]=(parts++[s.ch.drop s.off]).map st:=by rw[List.map_append];rfl
   rw[emap]
   refine gg ?_
   show wX c TT (r+3) (.mc (.v 2) 30 .nil) _ _ _
   refine ja (by trivial) (by trivial) (by trivial) (im e I) ?_
   refine e8 ?_
   obtain⟨J,j0,jend,jt⟩:=zj (sz:=10240) I (by decide)
   have hflat:(parts++[s.ch.drop s.off]).flatten++(M.drop (pos-s.off+s.ch.length)).takeWhile (fun x=>p x==o)=W:=by
    rw[←hW,hap];simp
   have hPe:P=(pos-s.off+s.ch.length)+((M.drop (pos-s.off+s.ch.length)).takeWhile fun x=>p x==o).length:=by
    rw[hP,hap,ae,List.length_drop]
    have:=I.q;exact M0 ‹_› ‹_›
   refine av (a7 _) (av (a7 _) (iA (fun h=>?_) (fun h=>?_)))
   ·have hnil:(lZ M s 10240).ch=[]:=by simpa using h
    have hend:=jend hnil
    refine yZ (oj ?_)
    have e0:M.drop (pos-s.off+s.ch.length)=[]:=List.drop_of_length_le (an hend.symm)
    rw[e0] at hflat hPe
    refine hQ _ _ _ ?_ (by rw[jt,ht]) (by rw[←hflat];simp)
    rw[hPe];exact J
   ·have hne:(lZ M s 10240).ch≠[]:=by simpa using h
    refine aF (az (aF ?_))
    refine qL (m3:=Fn (rest.length+4) cs o []) (fun i x h=>gc (r:=[(37,v37)]) h) ?_
    have hpos:=List.length_pos_iff.mpr hne
    have hj:=sd J
    refine ih _ _ _ J ?_ (by rw[ae,List.length_singleton,Nat.add_assoc,Nat.add_comm 1];exact hp) hflat hPe (by rw[jt,ht])
    rw[j0] at hj ⊢
    exact M8 ‹_› ‹_› ‹_›
  by_cases hk:tw.length=0
  ·have e1:(((s.off+tw.length:Nat):Int)==(s.off:Int))=true:=by rw[hk];simp
   refine cb (by (simpa! only [e1])) (by trivial) ?_
   by_cases hsz:s.off=s.ch.length
   ·have e2:((s.off:Int)==(s.ch.length:Int))=true:=by rw[hsz];simp
    refine be (by (simpa! only [e2])) (by trivial) (aF (az (aF (az ?_))))
    exact tail _ (by rw[hk];exact hsz)
   ·have e2:((s.off:Int)==(s.ch.length:Int))=false:=kx hsz
    refine cb (by (simpa! only [e2])) (by trivial) (yZ (oj (oj ?_)))
    rw[au (by rw[hk];exact Nat.sub_pos_of_lt (Nat.lt_of_le_of_ne ho hsz))] at hap
    have etw:tw=[]:=List.length_eq_zero_iff.mp hk
    rw[hap,etw] at hW hP
    refine hQ _ _ _ ?_ ht (by rw[←hW];simp)
    rw[hP];exact I
  ·have e1:(((s.off+tw.length:Nat):Int)==(s.off:Int))=false:=kx fun z=>hk (Nat.add_left_cancel (z.trans (Nat.add_zero _).symm))
   refine be (by (simpa! only [e1])) (by trivial) ?_
   by_cases hsz:s.off+tw.length=s.ch.length
   ·have e2:(((s.off+tw.length:Nat):Int)==(s.ch.length:Int))=true:=by rw[hsz];simp
    refine be (by (simpa! only [e2])) (by trivial) (aF (az (aF (az ?_))))
    exact tail _ hsz
   ·have e2:(((s.off+tw.length:Nat):Int)==(s.ch.length:Int))=false:=kx hsz
    refine cb (by (simpa! only [e2])) (by trivial) ?_
    have hsl:k7 s.ch (some (s.off:Int)) (some ((s.off+tw.length:Nat):Int))=tw:=by
     rw[kQ,List.drop_take,Nat.add_sub_cancel_left,htk]
    refine iY (w5 (by trivial) (jG _ _ _ _) (by (simpa! only [hsl])) (jG _ _ _ _) hpl) ?_
    rw[mh]
    refine aK (by trivial) (by trivial) (yZ (oj (oj ?_)))
    rw[au (Nat.lt_of_le_of_ne hl fun z=>hsz (by rw[z];exact Nat.add_sub_of_le ho))] at hap
    rw[hap] at hW hP
    have emap:parts.map st++[st tw]=(parts++[tw]).map st:=by rw[List.map_append];rfl
    rw[emap]
    have J:=xD I (n:=tw.length) (ak (Nat.add_le_add_left hl _) (an (Nat.add_sub_of_le ho)))
    rw[←hP] at J
    exact hQ { s with off:=s.off+tw.length } (parts++[tw]) _ J ht (by rw[←hW];simp)
end
noncomputable def zo(row:SQ):List D:=row.map fun c=>st [c]
theorem ux:∀row:SQ,bK 30 (zo row)=true:=by
 intro row
 induction row with
 |nil=>exact rfl
 |cons c r ihr=>exact ihr
theorem AA(x:Nat):∀row:SQ,((zo row).any fun y=>PyData.eqv y (st [x]))=decide (x∈row):=by
 intro row
 induction row with
 |nil=>exact rfl
 |cons c r ihr=>
  show (PyData.eqv (st [c]) (st [x])||(zo r).any fun y=>PyData.eqv y (st [x])) = _
  rw[ihr,jQ]
  by_cases h:x=c
  ·subst h;simp
  ·have:¬ ([c]:SQ)=[x]:=fun e=>h (List.cons.inj e).1.symm
   simp[this,h]
theorem sF(x:Nat)(row:SQ):bB .mem (st [x]) (.tuple (zo row))=some (decide (x∈row)):=by
 rw[FE,ux,AA];rfl
noncomputable abbrev nT(sv cur qv:V)(tb:aD):Option Cell:=some (.inst 762 ((21,.r 1)::(41,.d .none)::(42,.d (.bool false))::(43,.d (.list []))::(44,sv)::(46,.d (.bool false))::(47,cur)::(50,qv)::tb))
section
variable {c:Cx}{r k:Nat}{T:aW}{m:aD}{H:Hp}{K:SV}
theorem tG{step:V->List D->Hp->(List D->Hp->Prop)->Prop}{x:V}{xs:List V}{acc:List D}{Q:List D->Hp->Prop}(h:step x acc H fun a' H'=>dY step xs a' H' Q):dY step (x::xs) acc H Q:=h
theorem Mh{wt we:aD->Hp->(SV)->Prop}{i:Nat}{x:V}{acc:List D}{K:List D->Hp->Prop}(h:we [(i,x)] H fun v H2=>∃d,v=.d d/\acc.length<=16777215/\K (acc++[d]) H2):ee true wt we i x acc H K:=h
theorem DC{elt it:X}{i:Nat}{d:D}{ds:List D}{g:D->D}(h1:aO T it m H=some (.d d,H))(h2:b8 d=some ds)(h3:∀x∈ds,aO T elt [(i,.d x)] H=some (.d (g x),H))(hl:ds.length<=16777215)(h:K (.d (.list (ds.map g))) H):wX c T r (.comp elt i it .non) m H K:=by
 have main:∀(ds:List D) (acc:List D),(∀x∈ds,aO T elt [(i,.d x)] H=some (.d (g x),H))->acc.length+ds.length<=16777215->K (.d (.list (acc++ds.map g))) H ->
   dY (ee true (wX c T r .non) (wX c T r elt) i) (ds.map .d) acc H fun acc H2=>K (.d (.list acc)) H2:=by
  intro ds
  induction ds with
  |nil=>intro acc _ _ h;rw[List.map_nil,List.append_nil] at h;exact h
  |cons x ds ih=>
   intro acc hx hl h
   refine tG (Mh (ev (hx x aa) ⟨_,rfl,ak (al _ _) hl,?_⟩))
   refine ih _ (fun y hy=>hx y (ad _ hy)) (by rw[ae];exact (Nat.add_assoc _ 1 _▸(Nat.add_comm 1 _▸hl))) ?_
   rw[af];exact h
 show wX c T r it m H _
 exact ev h1 (av h2 (main ds [] h3 (by simpa using hl) h))
noncomputable def lm(t:SQ):SQ:=t.map iP
def Aq(x:Nat):Prop:=ey x\/x=65533
theorem Cr{ch:Nat}(h:Aq ch):aO TT (.ife (.cmp2 (.c (st [65])) .le (.v 0) .le (.c (st [90]))) (.bi .chr (.cons (.bin .add (.bi .ord (.cons (.v 0) .nil)) (.c (.int 32))) .nil)) (.v 0)) [(0,.d (st [ch]))] H=some (.d (st [iP ch]),H):=by
 rcases h with h|rfl
 rotate_left
 ·rfl
 unfold ey at h
 simp only[List.mem_cons,List.not_mem_nil,or_false] at h
 rcases h with rfl|rfl|rfl|rfl|rfl|rfl|rfl|rfl|rfl|rfl|rfl|rfl|rfl|rfl|rfl|rfl|rfl|rfl<;>rfl
noncomputable def L6:D->Nat
 |.str x=>x.l.headD 0
 |_=>0
theorem zF(c:Nat):L6 (st [c])=c:=by
 show (Sl [c]).l.headD 0=c
 rw[da];rfl
theorem D3:∀t:SQ,(t.map fun ch=>[iP ch]).flatten=lm t:=by
 intro t
 induction t with
 |nil=>exact rfl
 |cons x t ihr=>
  rw[List.map_cons,List.flatten_cons,ihr];rfl
theorem x8{i:Nat}{t:SQ}(hok:∀x∈t,Aq x)(hl:t.length<=1000)(h1:lk i m=some (.d (st t)))(h:K (.d (st (lm t))) H) :
  wX c TT r (.bm .join (.c (st [])) (.cons (.comp (.ife (.cmp2 (.c (st [65])) .le (.v 0) .le (.c (st [90]))) (.bi .chr (.cons (.bin .add (.bi .ord (.cons (.v 0) .nil)) (.c (.int 32))) .nil)) (.v 0)) 0 (.v i) .non) .nil)) m H K:=by
 show wX c TT r (.comp (.ife (.cmp2 (.c (st [65])) .le (.v 0) .le (.c (st [90]))) (.bi .chr (.cons (.bin .add (.bi .ord (.cons (.v 0) .nil)) (.c (.int 32))) .nil)) (.v 0)) 0 (.v i) .non) m H (fun v H2=>ok (cz H2 [v]) fun ds=>ok (mw .join (.str (Sl [])::ds)) fun z=>K (.d z) H2)
 refine DC (g:=fun d=>st [iP (L6 d)]) (by show (lk i m).map _ = _;rw[h1];rfl) (sn t) (fun x hx=>?_) (by rw[ah];omega) ?_
 ·obtain⟨ch,hch,rfl⟩:=List.mem_map.mp hx
  rw[zF];exact Cr (hok ch hch)
 ·refine av rfl ?_
  have e:(t.map fun ch=>st [ch]).map (fun d=>st [iP (L6 d)])=(t.map fun ch=>[iP ch]).map st:=by
   rw[List.map_map,List.map_map]
   exact List.map_congr_left fun x _=>by show st [iP (L6 (st [x]))]=st [iP x];rw[zF]
  have hsum:((t.map fun ch=>[iP ch]).map List.length).sum<=16777216:=by
   rw[←List.length_flatten,D3]
   unfold lm
   rw[ah];omega
  have:=mr (t.map fun ch=>[iP ch]) hsum
  rw[D3] at this
  refine av (x:=st (lm t)) ?_ h
  show mw .join [st [],.list ((t.map fun ch=>st [ch]).map (fun d=>st [iP (L6 d)]))] = _
  rw[e];exact this
theorem nY(e:aY c){t:SQ}(hok:∀x∈t,Aq x)(hl:t.length<=1000):SemCall c (r+1) (.ref 42) [.d (st t)] H fun y H'=>y=.d (st (lm t))/\H'=H:=by
 refine jX e ?_
 exact rd rfl (x8 hok hl rfl (bg (ao _) rfl ⟨rfl,rfl⟩))
end
structure As where
 H:Hp
 rb:SQ
 a:SQ
 fr:Bool
 cut:Option (SQ×SQ)
 ob:Prop
noncomputable def br(s:Sm):Hp->Hp
 |x0::_::_::_::rest=>Hs x0 s rest
 |H=>H
inductive Sh:Hp->Prop
 |mk (c0:Cell) (rest:Hp):Sh (some c0::none::none::none::rest)
structure Rs(A:As)(s:Sm):Prop where
 sh:Sh A.H
 iv:e6 (A.rb.reverse++A.a) A.rb.length s
 fr:A.fr=true->1<=s.off
def Le(H H':Hp):Prop:=∀(n:Nat) (cl:Cell),H[n]?=some (some cl)->H'[n]?=some (some cl)
theorem bZ{H:Hp}(s:Sm)(h:Sh H):Le H (br s H):=by
 obtain⟨c0,rest⟩:=h
 intro n cl e
 match n,e with
 |0,e=>exact e
 |1,e=>exact nope (aj e)
 |2,e=>exact nope (aj e)
 |3,e=>exact nope (aj e)
 |n+4,e=>exact e
theorem jU{H:Hp}(s:Sm)(h:Sh H):(br s H).length=H.length:=by obtain⟨c0,rest⟩:=h;rfl
theorem Sh.app{H:Hp}(l:Hp)(h:Sh H):Sh (H++l)/\∀s,br s (H++l)=br s H++l:=by obtain⟨c0,rest⟩:=h;exact⟨⟨c0,rest++l⟩,fun _=>rfl⟩
theorem Sh.set{H:Hp}{n:Nat}{cl cl':Cell}(h:Sh H)(e:H[n]?=some (some cl)):Sh (H.set n (some cl'))/\∀s,br s (H.set n (some cl'))=(br s H).set n (some cl'):=by
 obtain⟨c0,rest⟩:=h
 match n,e with
 |0,e=>exact⟨⟨cl',rest⟩,fun _=>rfl⟩
 |1,e=>exact nope (aj e)
 |2,e=>exact nope (aj e)
 |3,e=>exact nope (aj e)
 |n+4,e=>exact⟨⟨c0,rest.set n (some cl')⟩,fun _=>rfl⟩
section
variable {T:aW}{H H':Hp}(L:Le H H')
include L
theorem xZ{o x:V}{a:Nat}(e:ej T H o a=some x):ej T H' o a=some x:=by
 cases o with
 |r n=>
  unfold ej at e ⊢
  dsimp only at e ⊢
  rcases hn:H[n]? with _|_|cl
  ·rw[hn] at e;exact nope e
  ·rw[hn] at e;exact nope e
  ·rw[hn] at e;rw[L _ _ hn];exact e
 |_=>exact nope e
theorem GG{n:Nat}{d:D}{x:V}(e:Ap T H n d=some x):Ap T H' n d=some x:=by
 cases d with
 |str s=>
  unfold Ap at e ⊢
  dsimp only at e ⊢
  rcases hn:H[n]? with _|_|cl
  ·rw[hn] at e;exact nope e
  ·rw[hn] at e;exact nope e
  ·rw[hn] at e;rw[L _ _ hn];exact e
 |int i=>
  unfold Ap at e ⊢
  dsimp only at e ⊢
  by_cases hi:9223372036854775808<=i.natAbs
  ·rw[au hi] at e;exact nope e
  ·rw[ar hi] at e ⊢
   rcases hn:H[n]? with _|_|cl
   ·rw[hn] at e;exact nope e
   ·rw[hn] at e;exact nope e
   ·rw[hn] at e;rw[L _ _ hn];exact e
 |_=>exact nope e
theorem GH{o i x:V}(e:uO T H o i=some x):uO T H' o i=some x:=by
 cases o with
 |r n=>exact ax e fun d h1 h2=>(congrArg (·.bind (Ap T H' n)) h1).trans (GG L h2)
 |_=>exact e
theorem pq{v:V}{z:Bool}(e:aN H v=some z):aN H' v=some z:=by
 cases v with
 |r n=>
  unfold aN at e ⊢
  dsimp only at e ⊢
  rcases hn:H[n]? with _|_|cl
  ·rw[hn] at e;exact nope e
  ·rw[hn] at e;exact nope e
  ·rw[hn] at e;rw[L _ _ hn];exact e
 |_=>exact e
theorem Ck{n:Nat}{xs:List D}(e:qB H n=some xs):qB H' n=some xs:=
 by
 unfold qB at e ⊢
 rcases hn:H[n]? with _|_|cl
 ·rw[hn] at e;exact nope e
 ·rw[hn] at e;exact nope e
 ·rw[hn] at e;rw[L _ _ hn];exact e
theorem xY{o:eY}{x y:V}{z:Bool}(e:JR H o x y=some z):JR H' o x y=some z:=by
 cases x with
 |r n=>exact ax e fun ys h1 e=>(congrArg (·.bind fun ys=>(qB H' n).bind fun xs=>bB o (.list xs) (.list ys)) h1).trans (ax e fun xs h2 e=>(congrArg (·.bind fun xs=>bB o (.list xs) (.list ys)) (Ck L h2)).trans e)
 |_=>exact e
theorem Cm{x y:V}{z:Bool}(e:qT T H x y=some z):qT T H' x y=some z:=by
 cases y with
 |r n=>
  refine ax e fun s h1 e=>?_
  unfold qT
  rw[h1]
  show (match H'[n]? with|some (some (.dict fs))=>(d9 T.nms s.l fs).map (fun z:Option V=>z.isSome)|_=>none) = _
  rcases hn:H[n]? with _|_|cl
  ·rw[hn] at e;exact nope e
  ·rw[hn] at e;exact nope e
  ·rw[hn] at e;rw[L _ _ hn];exact e
 |_=>exact e
theorem Cj{o:eY}{x y:V}{z:Bool}(e:cw T H o x y=some z):cw T H' o x y=some z:=by
 cases o with
 |eq=>exact xY L e
 |ne=>exact xY L e
 |mem=>exact Cm L e
 |_=>exact e
theorem uV{o:V}{a:Nat}{x:Addr×Nat}(e:dp T H o a=some x):dp T H' o a=some x:=by
 cases o with
 |r n=>
  unfold dp at e ⊢
  dsimp only at e ⊢
  rcases hn:H[n]? with _|_|cl
  ·rw[hn] at e;exact nope e
  ·rw[hn] at e;exact nope e
  ·rw[hn] at e;rw[L _ _ hn];exact e
 |_=>exact nope e
theorem fK{o:V}{x:Nat×Cell}(e:cellOf H o=some x):cellOf H' o=some x:=by
 cases o with
 |r n=>
  unfold cellOf at e ⊢
  dsimp only at e ⊢
  rcases hn:H[n]? with _|_|cl
  ·rw[hn] at e;exact nope e
  ·rw[hn] at e;exact nope e
  ·rw[hn] at e;rw[L _ _ hn];exact e
 |_=>exact nope e
theorem Ci{v:V}{d:D}(e:mq H v=some d):mq H' v=some d:=by
 cases v with
 |r n=>
  unfold mq at e ⊢
  dsimp only at e ⊢
  rcases hn:H[n]? with _|_|cl
  ·rw[hn] at e;exact nope e
  ·rw[hn] at e;exact nope e
  ·rw[hn] at e;rw[L _ _ hn];exact e
 |_=>exact e
theorem xX{vs:List V}{ds:List D}(e:cz H vs=some ds):cz H' vs=some ds:=by
 induction vs generalizing ds with
 |nil=>exact e
 |cons v vs ih=>
  exact ax e fun d h1 e=>(congrArg (·.bind fun d=>(cz H' vs).map (d::·)) (Ci L h1)).trans (cY e fun r h2 e=>(congrArg (·.map (d::·)) (ih h2)).trans (congrArg some e))
end
noncomputable abbrev qj:=Addr->List V->As->Option (V×As)
noncomputable def kT:V->Option (SQ)
 |.d (.str x)=>some x.l
 |_=>none
noncomputable def xL(x y:V):Bool:=(kT x).isSome&&(kT y).isSome
noncomputable def sf:e7->Bool
 |.add=>true
 |_=>false
noncomputable def MW(v:V):SQ:=(kT v).getD []
noncomputable def AJ(o:e7)(x y:V)(A:As):Option (V×As):=pick (sf o&&xL x y)
 (some (.d (st (MW x++MW y)),{ A with ob:=A.ob/\(MW x).length+(MW y).length<=16777216 })) ((tT x y o).map fun z=>(z,A))
noncomputable def Pv(x:V)(y z:SQ)(A:As):Option (V×As):=(kT x).map fun t=>(.d (st (bU t y z)),{ A with ob:=A.ob/\t.length+(t.length+1) * z.length<=16777216 })
noncomputable def Eb:Bi->Bool
 |.len=>true
 |_=>false
noncomputable def uM:V->Bool
 |.r n=>n==1
 |_=>false
noncomputable def Fh(T:aW)(H:Hp)(o:V)(a:Nat):Option (Addr×Nat):=pick (uM o) (bc (a==31||a==54||a==58) ((T.meth 166 a).map fun f=>(f,1))) (dp T H o a)
mutual
noncomputable def runX(T:aW)(O:qj):X->aD->As->Option (V×As)
 |.c d,_,A=>some (.d d,A)
 |.v i,m,A=>(lk i m).map fun x=>(x,A)
 |.g k,_,A=>T.gl[k]?.map fun x=>(x,A)
 |.at e a,m,A=>(runX T O e m A).bind fun p=>(ej T p.2.H p.1 a).map fun x=>(x,p.2)
 |.ix e i,m,A=>(runX T O e m A).bind fun p=>(runX T O i m p.2).bind fun q=>(uO T q.2.H p.1 q.1).map fun x=>(x,q.2)
 |.bin o a b,m,A=>(runX T O a m A).bind fun p=>(runX T O b m p.2).bind fun q=>AJ o p.1 q.1 q.2
 |.cmp a o b,m,A=>(runX T O a m A).bind fun p=>(runX T O b m p.2).bind fun q=>(cw T q.2.H o p.1 q.1).map fun z=>(.d (.bool z),q.2)
 |.tup es,m,A=>(pN T O es m A).bind fun p=>(dZ p.1).bind fun ds=>bc (jm ds.length 99) (some (.d (.tuple ds),p.2))
 |.dct ks es,m,A=>(pN T O es m { A with H:=A.H++[some (.dict [])] }).bind fun p=>bc (BL p.2.H[A.H.length]?&&(iQ ((ks.zip p.1).map (·.1))&&jm (ks.zip p.1).length 900)) (some (.r A.H.length,{ p.2 with H:=p.2.H.set A.H.length (some (.dict (ks.zip p.1))) }))
 |.bi b es,m,A=>bc (Eb b) ((pN T O es m A).bind fun p=>(cz p.2.H p.1).bind fun ds=>(mw .len ds).map fun z=>(.d z,p.2))
 |.repl o y z,m,A=>(runX T O o m A).bind fun p=>Pv p.1 y z p.2
 |.app o e,m,A=>(runX T O o m A).bind fun p=>bc (cJ p.2.H p.1) ((runX T O e m p.2).bind fun q=>(cellOf q.2.H p.1).bind fun z=>(mn z.2 q.1).map fun cl=>(.d .none,{ q.2 with H:=q.2.H.set z.1 (some cl) }))
 |.mc o a es,m,A=>(runX T O o m A).bind fun p=>(Fh T p.2.H p.1 a).bind fun z=>(pN T O es m p.2).bind fun q=>O z.1 (.r z.2::q.1) q.2
 |.call k es,m,A=>(T.gl[k]?.bind JY).bind fun f=>(vc f).bind fun f=>(pN T O es m A).bind fun q=>O f q.1 q.2
 |.nl,_,A=>some (.el,A)
 |.dic e,m,A=>(runX T O e m A).bind fun p=>bc (Gi p.1) (some (.d (.dict []),p.2))
 |_,_,_=>none
termination_by structural x=>x
noncomputable def pN(T:aW)(O:qj):X->aD->As->Option (List V×As)
 |.nil,_,A=>some ([],A)
 |.cons e es,m,A=>(runX T O e m A).bind fun p=>(pN T O es m p.2).map fun q=>(p.1::q.1,q.2)
 |_,_,_=>none
termination_by structural x=>x
end
section
variable {c:Cx}{r:Nat}{T:aW}{O:qj}{a b es:X}
def Am(c:Cx)(r:Nat)(O:qj):Prop:=∀f vs A v A',O f vs A=some (v,A')->A'.ob->A.ob/\∀s,Rs A s->SemCall c r (.ref f) vs (br s A.H) fun y H'=>y=v/\∃s',H'=br s' A'.H/\Rs A' s'
def RE(c:Cx)(T:aW)(r:Nat)(x:X)(m:aD)(A:As)(v:V)(A':As):Prop:=A'.ob->A.ob/\∀s,Rs A s->∀K:SV,(∀s',Rs A' s'->K v (br s' A'.H))->wX c T r x m (br s A.H) K
def RL(c:Cx)(T:aW)(r:Nat)(x:X)(m:aD)(A:As)(v:List V)(A':As):Prop:=A'.ob->A.ob/\∀s,Rs A s->∀K:List V->Hp->Prop,(∀s',Rs A' s'->K v (br s' A'.H))->kY c T r x m (br s A.H) K
def cR(c:Cx)(T:aW)(r:Nat)(O:qj)(x:X):Prop:=∀m A v A',runX T O x m A=some (v,A')->RE c T r x m A v A'
def mi(c:Cx)(T:aW)(r:Nat)(O:qj)(x:X):Prop:=∀m A v A',pN T O x m A=some (v,A')->RL c T r x m A v A'
theorem Rs.same{A A':As}{s:Sm}(R:Rs A s)(h1:A'.H=A.H)(h2:A'.rb=A.rb)(h3:A'.a=A.a)(h4:A'.fr=A.fr):Rs A' s:=by
 obtain⟨a1,a2,a3⟩:=R
 exact⟨h1▸a1,by rw[h2,h3];exact a2,by rw[h4];exact a3⟩
inductive Flat(A A':As):Prop
 |mk (ob:A'.ob->A.ob) (H:A'.H=A.H) (rs:∀s,Rs A s->Rs A' s)
theorem Flat.id{A:As}:Flat A A:=⟨fun o=>o,rfl,fun _ R=>R⟩
theorem kU{v:V}(h:(kT v).isSome=true):∃x,v=.d (.str x):=by
 cases v with
 |d d=>cases d with
  |str x=>exact⟨x,rfl⟩
  |_=>exact nof2 h
 |_=>exact nof2 h
theorem pS{v:V}{t:SQ}(h:kT v=some t):∃x,v=.d (.str x)/\x.l=t:=by
 obtain⟨x,rfl⟩:=kU (v:=v) (by rw[h];rfl)
 exact⟨x,rfl,aj h⟩
inductive MX(o:e7)(x y v:V):Prop
 |mk (a b z:D) (h1:x=.d a) (h2:y=.d b) (h3:fS o a b=some z) (h4:v=.d z)
theorem rL{o:e7}{x y v:V}{A A':As}(e:AJ o x y A=some (v,A'))(ob:A'.ob):Flat A A'/\MX o x y v:=by
 unfold AJ at e
 cases hp:sf o&&xL x y with
 |true=>
  rw[hp] at e
  cases e
  refine aS hp fun h1 h2=>aS h2 fun h3 h4=>?_
  obtain⟨a,rfl⟩:=kU h3
  obtain⟨b,rfl⟩:=kU h4
  cases o with
  |add=>exact⟨⟨fun o=>o.1,rfl,fun s R=>R.same rfl rfl rfl rfl⟩,⟨_,_,_,rfl,rfl,au ob.2,rfl⟩⟩
  |_=>exact nof2 h1
 |false=>
  rw[hp] at e
  refine cY e fun z hz e=>?_
  cases e
  refine⟨.id,?_⟩
  cases x with
  |d a=>cases y with
   |d b=>exact cY hz fun z h e=>⟨_,_,z,rfl,rfl,h,e.symm⟩
   |_=>exact nope hz
  |_=>exact nope hz
theorem Pc{i:Nat}(h1:cR c T r O a):cR c T r O (.at a i):=fun m A v A' e ob=>ax e fun p e1 e=>cY e fun x hx e=>by
 cases e
 exact (h1 _ _ _ _ e1 ob).imp id fun k s R K hK=>k s R _ fun s' R'=>av (xZ (bZ s' R'.sh) hx) (hK s' R')
theorem Pm(h1:cR c T r O a)(h2:cR c T r O b):cR c T r O (.ix a b):=fun m A v A' e ob=>ax e fun p e1 e=>ax e fun q e2 e=>cY e fun x hx e=>by
 cases e
 have k2:=h2 _ _ _ _ e2 ob
 exact (h1 _ _ _ _ e1 k2.1).imp id fun k s R K hK=>k s R _ fun s1 R1=>k2.2 s1 R1 _ fun s' R'=>av (GH (bZ s' R'.sh) hx) (hK s' R')
theorem LA{o:e7}(h1:cR c T r O a)(h2:cR c T r O b):cR c T r O (.bin o a b):=fun m A v A' e ob=>ax e fun p e1 e=>ax e fun q e2 e=>by
 obtain⟨⟨f1,f2,f3⟩,x,y,z,g1,g2,g3,rfl⟩:=rL e ob
 have k2:=h2 _ _ _ _ e2 (f1 ob)
 refine (h1 _ _ _ _ e1 k2.1).imp id fun k s R K hK=>k s R _ fun s1 R1=>k2.2 s1 R1 _ fun s' R'=>?_
 have:=hK s' (f3 s' R')
 rw[f2] at this
 show (match p.1,q.1 with|.d x,.d y=>ok (fS o x y) fun z=>K (.d z) (br s' q.2.H)|_,_=>False)
 rw[g1,g2]
 exact av g3 this
theorem LC{o:eY}(h1:cR c T r O a)(h2:cR c T r O b):cR c T r O (.cmp a o b):=fun m A v A' e ob=>ax e fun p e1 e=>ax e fun q e2 e=>cY e fun z g3 e=>by
 cases e
 have k2:=h2 _ _ _ _ e2 ob
 exact (h1 _ _ _ _ e1 k2.1).imp id fun k s R K hK=>k s R _ fun s1 R1=>k2.2 s1 R1 _ fun s' R'=>av (Cj (bZ s' R'.sh) g3) (hK s' R')
theorem LJ(h1:mi c T r O es):cR c T r O (.tup es):=fun m A v A' e ob=>ax e fun p e1 e=>ax e fun ds hd e=>by
 obtain⟨hl,e⟩:=aX e
 cases e
 exact (h1 _ _ _ _ e1 ob).imp id fun k s R K hK=>k s R _ fun s1 R1=>av hd ⟨oN hl,hK s1 R1⟩
theorem LD{ks:SQ}(h1:mi c T r O es):cR c T r O (.dct ks es):=fun m A v A' e ob=>ax e fun p e1 e=>by
 obtain⟨hg,e⟩:=aX e
 cases e
 have g2:=ay (ay hg).2
 have g1:=si (ay hg).1
 refine (h1 _ _ _ _ e1 ob).imp id fun k s R K hK=>?_
 obtain⟨sh,ap⟩:=R.sh.app [some (.dict [])]
 have ln:=jU s R.sh
 have w:=k s ⟨sh,R.iv,R.fr⟩
 dsimp only at w
 rw[ap] at w
 refine w _ fun s1 R1=>?_
 obtain⟨sh2,st2⟩:=R1.sh.set (cl':=.dict (ks.zip p.1)) g1
 rw[ln]
 refine⟨bZ s1 R1.sh _ _ g1,pI g2.1,fj g2.2,?_⟩
 rw[←st2]
 exact hK s1 ⟨sh2,R1.iv,R1.fr⟩
theorem cu{α:Type}{b:Bool}{o:Option α}{z:α}(e:bc b o=some z):b=true/\o=some z:=by
 cases b with
 |true=>exact⟨rfl,e⟩
 |false=>exact nope e
theorem xH{x:Bi}(h:Eb x=true):x=.len:=by
 cases x<;>first|exact nof2 h|rfl
theorem Pf{o:Bi}(h1:mi c T r O es):cR c T r O (.bi o es):=fun m A v A' e ob=>by
 obtain⟨g,e⟩:=cu e
 obtain rfl:=xH g
 refine ax e fun p e1 e=>ax e fun ds hd e=>cY e fun z hz e=>?_
 cases e
 exact (h1 _ _ _ _ e1 ob).imp id fun k s R K hK=>k s R _ fun s1 R1=>av (xX (bZ s1 R1.sh) hd) (av hz (hK s1 R1))
theorem Hw{y z:SQ}(h1:cR c T r O a):cR c T r O (.repl a y z):=fun m A v A' e ob=>ax e fun p e1 e=>cY e fun t ht e=>by
 cases e
 refine (h1 _ _ _ _ e1 ob.1).imp id fun k s R K hK=>k s R _ fun s1 R1=>?_
 obtain⟨x,hx,rfl⟩:=pS ht
 rw[hx]
 exact⟨ob.2,hK s1 (R1.same rfl rfl rfl rfl)⟩
theorem xI{H H':Hp}(L:Le H H'){v:V}(h:cJ H v=true):cJ H' v=true:=by
 cases v with
 |r n=>
  unfold cJ at h ⊢
  dsimp only at h ⊢
  rcases hn:H[n]? with _|_|cl
  ·rw[hn] at h;exact nof2 h
  ·rw[hn] at h;exact nof2 h
  ·rw[hn] at h;rw[L _ _ hn];exact h
 |_=>exact nof2 h
theorem Lz(h1:cR c T r O a)(h2:cR c T r O b):cR c T r O (.app a b):=fun m A v A' e ob=>ax e fun p e1 e=>by
 cases hl:cJ p.2.H p.1 with
 |false=>rw[hl] at e;exact nope e
 |true=>
  rw[hl] at e
  refine ax ((qJ _).symm.trans e) fun q e2 e=>ax e fun z hz e=>cY e fun cl hc e=>?_
  cases e
  have k2:=h2 _ _ _ _ e2 ob
  refine (h1 _ _ _ _ e1 k2.1).imp id fun k s R K hK=>k s R _ fun s1 R1=>⟨xI (bZ s1 R1.sh) hl,k2.2 s1 R1 _ fun s2 R2=>?_⟩
  obtain⟨sh2,st2⟩:=R2.sh.set (cl':=cl) (dn hz).2
  have:=hK s2 ⟨sh2,R2.iv,R2.fr⟩
  dsimp only at this
  rw[st2] at this
  exact av (fK (bZ s2 R2.sh) hz) (av hc this)
theorem ju{v:V}(h:uM v=true):v=.r 1:=by
 cases v with
 |r n=>rw[eq_of_beq h]
 |_=>exact nof2 h
theorem AO{H:Hp}{o:V}{i:Nat}{z:Addr×Nat}(sh:Sh H)(s:Sm)(e:Fh T H o i=some z):dp T (br s H) o i=some z:=by
 unfold Fh at e
 cases h:uM o with
 |true=>
  rw[h] at e
  obtain rfl:=ju h
  obtain⟨g,e1⟩:=cu ((y7 _ _).symm.trans e)
  obtain⟨c0,rest⟩:=sh
  have hl:lk i [(7,V.m 148 1),(9,.d (.list [.int 0])),(10,.r 2),(14,.d (st s.ch)),(15,.d (.int s.ch.length)),(16,.d (.int s.off)),(17,.r 3),(18,.d (.int s.pl)),(19,.d (.int s.pc)),(20,.d (Jn s.bf))]=none:=by
   rcases Bool.or_eq_true_iff.mp g with g|g
   ·rcases Bool.or_eq_true_iff.mp g with g|g
    ·rw[eq_of_beq g];rfl
    ·rw[eq_of_beq g];rfl
   ·rw[eq_of_beq g];rfl
  show (match lk i [(7,V.m 148 1),(9,.d (.list [.int 0])),(10,.r 2),(14,.d (st s.ch)),(15,.d (.int s.ch.length)),(16,.d (.int s.off)),(17,.r 3),(18,.d (.int s.pl)),(19,.d (.int s.pc)),(20,.d (Jn s.bf))] with|some (.m f k)=>if T.fn f=true then some (f,k) else none|some _=>none|none=>(T.meth 166 i).map fun f=>(f,1)) = _
  rw[hl];exact e1
 |false=>
  rw[h] at e
  exact uV (bZ s sh) e
theorem Pn{i:Nat}(hO:Am c r O)(h1:cR c T r O a)(h2:mi c T r O es):cR c T r O (.mc a i es):=fun m A v A' e ob=>ax e fun p e1 e=>ax e fun z hz e=>ax e fun q e2 e=>by
 have k3:=hO _ _ _ _ _ e ob
 have k2:=h2 _ _ _ _ e2 k3.1
 refine (h1 _ _ _ _ e1 k2.1).imp id fun k s R K hK=>k s R _ fun s1 R1=>av (AO R1.sh s1 hz) (k2.2 s1 R1 _ fun s2 R2=>(k3.2 s2 R2).mono ?_)
 rintro _ _ ⟨rfl,s3,rfl,R3⟩
 exact hK s3 R3
theorem Hu{i:Nat}(hO:Am c r O)(h2:mi c T r O es):cR c T r O (.call i es):=fun m A v A' e ob=>ax e fun f hf e=>ax e fun g hg e=>ax e fun q e2 e=>by
 have k3:=hO _ _ _ _ _ e ob
 obtain rfl:=g9 hg
 refine (h2 _ _ _ _ e2 k3.1).imp id fun k s R K hK=>av hf (k s R _ fun s2 R2=>(k3.2 s2 R2).mono ?_)
 rintro _ _ ⟨rfl,s3,rfl,R3⟩
 exact hK s3 R3
theorem LE(h1:cR c T r O a):cR c T r O (.dic a):=fun m A v A' e ob=>ax e fun p e1 e=>by
 obtain⟨hl,e⟩:=aX e
 cases e
 exact (h1 _ _ _ _ e1 ob).imp id fun k s R K hK=>k s R _ fun s1 R1=>⟨sj hl,hK s1 R1⟩
theorem Hv(h1:cR c T r O a)(h2:mi c T r O es):mi c T r O (.cons a es):=fun m A v A' e ob=>ax e fun p e1 e=>cY e fun q e2 e=>by
 cases e
 have k2:=h2 _ _ _ _ e2 ob
 exact (h1 _ _ _ _ e1 k2.1).imp id fun k s R K hK=>k s R _ fun s1 R1=>k2.2 s1 R1 _ fun s2 R2=>hK s2 R2
theorem c7{x:X}(h:∀m A,pN T O x m A=none):mi c T r O x:=fun m A v A' e=>by rw[h] at e;exact nope e
theorem zc{x:X}(h:∀m A,runX T O x m A=none):cR c T r O x:=fun m A v A' e=>by rw[h] at e;exact nope e
theorem d7(hO:Am c r O)(x:X):cR c T r O x/\mi c T r O x:=by
 induction x with
 |c d=>exact⟨fun m A v A' e ob=>by cases e;exact⟨ob,fun s R K h=>h s R⟩,c7 fun _ _=>rfl⟩
 |v i=>exact⟨fun m A v A' e ob=>cY e fun x hx e=>by cases e;exact⟨ob,fun s R K h=>av hx (h s R)⟩,c7 fun _ _=>rfl⟩
 |g k=>exact⟨fun m A v A' e ob=>cY e fun x hx e=>by cases e;exact⟨ob,fun s R K h=>av hx (h s R)⟩,c7 fun _ _=>rfl⟩
 |«at» a i h1=>exact⟨Pc h1.1,c7 fun _ _=>rfl⟩
 |ix a i h1 h2=>exact⟨Pm h1.1 h2.1,c7 fun _ _=>rfl⟩
 |bin o a b h1 h2=>exact⟨LA h1.1 h2.1,c7 fun _ _=>rfl⟩
 |cmp a o b h1 h2=>exact⟨LC h1.1 h2.1,c7 fun _ _=>rfl⟩
 |tup es h1=>exact⟨LJ h1.2,c7 fun _ _=>rfl⟩
 |dct ks es h1=>exact⟨LD h1.2,c7 fun _ _=>rfl⟩
 |bi b es h1=>exact⟨Pf h1.2,c7 fun _ _=>rfl⟩
 |repl o y z h1=>exact⟨Hw h1.1,c7 fun _ _=>rfl⟩
 |app o a h1 h2=>exact⟨Lz h1.1 h2.1,c7 fun _ _=>rfl⟩
 |call k es h1=>exact⟨Hu hO h1.2,c7 fun _ _=>rfl⟩
 |mc o a es h1 h2=>exact⟨Pn hO h1.1 h2.2,c7 fun _ _=>rfl⟩
 |nl=>exact⟨fun m A v A' e ob=>by cases e;exact⟨ob,fun s R K h=>h s R⟩,c7 fun _ _=>rfl⟩
 |dic e h1=>exact⟨LE h1.1,c7 fun _ _=>rfl⟩
 |nil=>exact⟨zc fun _ _=>rfl,fun m A v A' e ob=>by cases e;exact⟨ob,fun s R K h=>h s R⟩⟩
 |cons a b h1 h2=>exact⟨zc fun _ _=>rfl,Hv h1.1 h2.2⟩
 |_=>exact⟨zc fun _ _=>rfl,c7 fun _ _=>rfl⟩
end
noncomputable def Om:Fl->Bool
 |.next=>true
 |_=>false
noncomputable abbrev As.h(A:As)(H:Hp):As:={ A with H:=H }
noncomputable def LP(T:aW)(O:qj):Tg->V->aD->As->Option (aD×As)
 |.nm i,x,m,A=>some (pk i x m,A)
 |.at e a,x,m,A=>(runX T O e m A).bind fun p=>(dG T p.2.H p.1 a x).map fun H=>(m,p.2.h H)
 |.ix e i,x,m,A=>(runX T O e m A).bind fun p=>(runX T O i m p.2).bind fun q=>(hV T q.2.H p.1 q.1 x).map fun H=>(m,q.2.h H)
 |_,_,_,_=>none
noncomputable def nx(m:aD)(A:As):Fl×aD×As:=(.next,m,A)
noncomputable def KZ:V->Bool
 |.d (.list _)=>false
 |_=>true
noncomputable def runS(T:aW)(O:qj):S->aD->As->Option (Fl×aD×As)
 |.nil,m,A=>some (.next,m,A)
 |.seq s r,m,A=>(runS T O s m A).bind fun p=>pick (Om p.1) (runS T O r p.2.1 p.2.2) (some p)
 |.asg t e,m,A=>(runX T O e m A).bind fun p=>(LP T O t p.1 m p.2).map fun q=>nx q.1 q.2
 |.augI b i o e,m,A=>bc (sf o) ((runX T O b m A).bind fun p=>(xr T p.2.H p.1 i).bind fun old=>(runX T O e m p.2).bind fun q=>(AJ .add old q.1 q.2).bind fun z=>bc (KZ z.1) ((hV T z.2.H p.1 (.d i) z.1).map fun H=>nx m (z.2.h H)))
 |.ex e,m,A=>(runX T O e m A).map fun p=>nx m p.2
 |.ite t a b,m,A=>(runX T O t m A).bind fun p=>(aN p.2.H p.1).bind fun z=>pick z (runS T O a m p.2) (runS T O b m p.2)
 |.ret e,m,A=>bc (!e.isNon) ((runX T O e m A).map fun p=>(.ret p.1,m,p.2))
 |_,_,_=>none
termination_by structural s=>s
noncomputable abbrev DK:=List (Addr×SQ×S)
noncomputable def lR(f:Addr):DK->Option (SQ×S)
 |[]=>none
 |p::r=>pick (p.1==f) (some p.2) (lR f r)
noncomputable def LK:Fl->Option D
 |.next=>some .none
 |.ret v=>dV v
 |_=>none
noncomputable def db(n:Nat)(p:Fl×aD×As):Option (V×As):=(LK p.1).bind fun d=>bc (Nat.ble n p.2.2.H.length) (some (.d d,p.2.2))
noncomputable def IK(T:aW)(F:DK)(pr:qj):Nat->qj
 |0,f,vs,A=>pr f vs A
 |n+1,f,vs,A=>match lR f F with
  |some p=>bc (vs.length==p.1.length) ((runS T (IK T F pr n) p.2 (p.1.zip vs) A).bind (db A.H.length))
  |none=>pr f vs A
noncomputable def Jy:D->Option Nat
 |.str x=>match x.l with
  |[c]=>some c
  |_=>none
 |_=>none
noncomputable def rn:List D->Option (SQ)
 |[]=>some []
 |d::r=>(Jy d).bind fun c=>(rn r).map (c::·)
noncomputable def EK:D->Option (SQ)
 |.str x=>some x.l
 |.tuple ds=>rn ds
 |_=>none
noncomputable def dH(row:SQ)(o:Bool)(a:SQ):SQ:=a.takeWhile fun x=>decide (x∈row)==o
noncomputable def wu(A:As):V×As:=match A.a with
 |[]=>(.d .none,{ A with fr:=false })
 |x::a=>(.d (st [x]),{ A with rb:=x::A.rb,a:=a,fr:=true })
noncomputable def Il(v:V)(A:As):Option (V×As):=match v with
 |.d .none=>match A.a with
  |[]=>some (.d .none,{ A with fr:=false })
  |_=>none
 |.d (.str x)=>match A.rb with
  |y::rb=>bc A.fr (some (.d .none,{ A with rb:=rb,a:=y::A.a,fr:=false,ob:=A.ob/\x.l=[y] }))
  |[]=>none
 |_=>none
noncomputable def NO(w:SQ)(A:As):V×As:=(.d (st w),{ A with H:=A.H++[none],rb:=w.reverse++A.rb,a:=A.a.drop w.length,fr:=false })
noncomputable def NP(w r row:SQ)(o:Bool)(A:As):V×As:=(.d (st w),{ A with H:=A.H++[none],rb:=w.reverse++A.rb,a:=r,fr:=false,cut:=none,ob:=A.ob/\A.a=w++r/\dH row o A.a=w })
noncomputable def Im(v:V)(o:Bool)(A:As):Option (V×As):=(dV v).bind fun d=>(EK d).map fun row=>match A.cut with
 |none=>NO (dH row o A.a) A
 |some p=>NP p.1 p.2 row o A
noncomputable def Nu:V->Option Bool
 |.d (.bool b)=>some b
 |_=>none
noncomputable def KI(v:V)(A:As):Option (V×As):=(kT v).map fun t=>(.d (st (lm t)),{ A with ob:=A.ob/\(∀y∈t,Aq y)/\t.length<=1000 })
noncomputable def Rj(f:Addr)(vs:List V)(A:As):Option (V×As):=match vs with
 |[x]=>pick (f==133) (bc (uM x) (some (wu A))) (bc (f==42) (KI x A))
 |[x,y]=>bc (uM x) (pick (f==163) (Il y A) (bc (f==156) (Im y false A)))
 |[x,y,z]=>bc (uM x&&f==156) ((Nu z).bind fun o=>Im y o A)
 |_=>none
noncomputable def N2:DK:=[(297,[2],cN),(304,[2],fk),(353,[2],dQ),(360,[2],cH),(367,[2],dP),(598,[2],cG)]
noncomputable abbrev yX(n:Nat):qj:=IK TT N2 Rj n
theorem Rel.forget{c:Cx}{B Z h:Heap}{U:Ph}{L:Addr}{H:Hp}(R:Rel c B Z U L H h)(k:Nat):Rel c B Z U L (H.set k none) h:=by
 have lv:∀n cl,(H.set k none)[n]?=some (some cl)->H[n]?=some (some cl):=fun n cl e=>by
  by_cases q:k=n
  ·subst q
   rw[List.getElem?_set_self'] at e
   rcases hn:H[k]? with _|z
   ·rw[hn] at e;exact nope e
   ·rw[hn] at e;exact nope (aj e)
  ·rwa[List.getElem?_set_ne q] at e
 exact⟨R.base,R.kB,R.kZ,fun n cl e=>R.cell n cl (lv n cl e),fun n p ⟨cl,e⟩ hp=>R.free n p ⟨cl,lv n cl e⟩ hp,fun n n' p p' ne ⟨cl,e⟩ ⟨cl',e'⟩ hp hp'=>R.apart n n' p p' ne ⟨cl,lv n cl e⟩ ⟨cl',lv n' cl' e'⟩ hp hp',fun n hn=>R.dom n (by rw[List.length_set] at hn;exact hn),R.LB,R.LZ,R.LG,R.BZ⟩
section
variable {c:Cx}{r:Nat}{T:aW}{O:qj}{m:aD}{A A':As}
theorem SemCall.forget{f:Value}{xs:List V}{H:Hp}{Q Q':SV}(h:SemCall c r f xs H Q')(k:∀y H',Q' y H'->∃n,Q y (H'.set n none)):SemCall c r f xs H Q:=by
 intro A E s B Z U vals hA ht hR hv
 refine codeAny_mono (h A E s B Z U vals hA ht hR hv) fun r s' hr=>?_
 rcases r with e|fl
 ·exact hr
 ·cases fl with
  |ret v=>
   obtain⟨h',tk,B',U',y,H',L',e,b,p,R,rv,q⟩:=hr
   obtain⟨n,q⟩:=k _ _ q
   exact⟨h',tk,B',U',y,_,L',e,b,p,R.forget n,rv,q⟩
  |next=>exact hr
  |brk=>exact hr
  |cont=>exact hr
theorem bo{α β:Type}{o:Option α}{f:α->Option β}{a:α}{b:β}(h:o=some a)(k:f a=some b):o.bind f=some b:=Option.bind_eq_some_iff.mpr ⟨a,h,k⟩
theorem r8{α:Type}{b:Bool}{x:α}(h:b=true):bc b (some x)=some x:=by rw[h];rfl
theorem rq{H H2:Hp}{o x:V}{a:Nat}(sh:Sh H)(e:dG T H o a x=some H2):Sh H2/\∀s,dG T (br s H) o a x=some (br s H2):=by
 unfold dG at e
 rcases hc:cellOf H o with _|⟨n,cl⟩
 ·rw[hc] at e;exact nope e
 ·rw[hc] at e
  cases cl with
  |inst C fs=>
   obtain⟨hb,rfl⟩:=aX e
   obtain⟨s1,s2⟩:=sh.set (cl':=.inst C (pk a x fs)) (dn hc).2
   refine⟨s1,fun s=>?_⟩
   unfold dG
   rw[fK (bZ s sh) hc,s2]
   exact r8 hb
  |_=>exact nope e
theorem kM{H H2:Hp}{o i x:V}(sh:Sh H)(e:hV T H o i x=some H2):Sh H2/\∀s,hV T (br s H) o i x=some (br s H2):=by
 refine ax e fun p hc e=>ax e fun fs hd e=>ax e fun d h1 e=>ax e fun sx h2 e=>ax e fun k hk e=>?_
 obtain⟨hb,rfl⟩:=aX e
 obtain⟨s1,s2⟩:=sh.set (cl':=.dict (pk k x fs)) (dn hc).2
 refine⟨s1,fun s=>?_⟩
 rw[s2]
 exact bo (fK (bZ s sh) hc) (bo hd (bo h1 (bo h2 (bo hk (r8 hb)))))
theorem Cl{H H':Hp}(L:Le H H'){o x:V}{d:D}(e:xr T H o d=some x):xr T H' o d=some x:=
 ax e fun p hc e=>bo (fK L hc) e
def RT(c:Cx)(T:aW)(r:Nat)(O:qj)(t:Tg):Prop:=∀x m A q,LP T O t x m A=some q->q.2.ob->A.ob/\∀s,Rs A s->∀K:aD->Hp->Prop,(∀s',Rs q.2 s'->K q.1 (br s' q.2.H))->rB c T r t x m (br s A.H) K
theorem LN(hO:Am c r O)(t:Tg):RT c T r O t:=by
 intro x m A q e ob
 cases t with
 |nm i=>cases e;exact⟨ob,fun s R K h=>h s R⟩
 |«at» a i=>
  refine ax e fun p e1 e=>cY e fun H2 hx e=>?_
  cases e
  refine ((d7 hO a).1 _ _ _ _ e1 ob).imp id fun k s R K hK=>k s R _ fun s1 R1=>?_
  obtain⟨s2,s3⟩:=rq R1.sh hx
  exact av (s3 s1) (hK s1 ⟨s2,R1.iv,R1.fr⟩)
 |ix a i=>
  refine ax e fun p e1 e=>ax e fun q e2 e=>cY e fun H2 hx e=>?_
  cases e
  have k2:=(d7 hO i).1 _ _ _ _ e2 ob
  refine ((d7 hO a).1 _ _ _ _ e1 k2.1).imp id fun k s R K hK=>k s R _ fun s1 R1=>k2.2 s1 R1 _ fun s2 R2=>?_
  obtain⟨s3,s4⟩:=kM R2.sh hx
  exact av (s4 s2) (hK s2 ⟨s3,R2.iv,R2.fr⟩)
 |_=>exact nope e
variable {k:Nat}
def RS(c:Cx)(T:aW)(r k:Nat)(O:qj)(x:S):Prop:=∀m A p,runS T O x m A=some p->p.2.2.ob->A.ob/\∀s,Rs A s->∀Q:Fl->aD->Hp->Prop,(∀s',Rs p.2.2 s'->Q p.1 p.2.1 (br s' p.2.2.H))->wS c T r k x m (br s A.H) Q
theorem xE{o:e7}(h:sf o=true):o=.add:=by cases o<;>first|exact nof2 h|rfl
theorem Hx{x y:S}(h1:RS c T r k O x)(h2:RS c T r k O y):RS c T r k O (.seq x y):=fun m A p e ob=>ax e fun q e1 e=>by
 obtain⟨fl,m1,A1⟩:=q
 cases fl with
 |next=>
  have k2:=h2 _ _ _ e ob
  exact (h1 _ _ _ e1 k2.1).imp id fun k s R Q hQ=>k s R _ fun s1 R1=>k2.2 s1 R1 Q hQ
 |_=>cases e;exact (h1 _ _ _ e1 ob).imp id fun k s R Q hQ=>k s R _ fun s1 R1=>hQ s1 R1
theorem K1{x y w:D}(h:fS .add x y=some w)(g:KZ (.d w)=true):fY .add x y=some w:=by
 cases x with
 |list xs=>
  cases y with
  |list ys=>rw[(pd h).2.symm] at g;exact nof2 g
  |_=>exact nope h
 |_=>exact h
theorem C3(hO:Am c r O){b e:X}{a:D}{o:e7}:RS c T r k O (.augI b a o e):=fun m A p h ob=>by
 obtain⟨g,h⟩:=cu h
 obtain rfl:=xE g
 refine ax h fun p1 e1 h=>ax h fun old ho h=>ax h fun q e2 h=>ax h fun z hz h=>?_
 obtain⟨gl,h⟩:=cu h
 refine cY h fun H2 hs h=>?_
 cases h
 obtain⟨⟨f1,f2,f3⟩,x,y,w,g1,g2,g3,g4⟩:=rL hz ob
 have k2:=(d7 hO e).1 _ _ _ _ e2 (f1 ob)
 refine ((d7 hO b).1 _ _ _ _ e1 k2.1).imp id fun k s R Q hQ=>k s R _ fun s1 R1=>?_
 refine av (x:=x) (by rw[Cl (bZ s1 R1.sh) ho,g1];rfl) (k2.2 s1 R1 _ fun s2 R2=>?_)
 obtain⟨s3,s4⟩:=kM (f3 s2 R2).sh hs
 have s4:=s4 s2
 rw[f2,g4] at s4
 exact av (x:=y) (by rw[g2];rfl) (av (x:=w) (K1 g3 (by rw[g4] at gl;exact gl)) (av s4 (hQ s2 ⟨s3,(f3 s2 R2).iv,(f3 s2 R2).fr⟩)))
theorem LM(hO:Am c r O)(x:S):RS c T r k O x:=by
 induction x with
 |nil=>intro m A p e ob;cases e;exact⟨ob,fun s R Q h=>h s R⟩
 |seq s r h1 h2=>exact Hx h1 h2
 |asg t e=>
  intro m A p h ob
  refine ax h fun p1 e1 h=>cY h fun q e2 h=>?_
  cases h
  have k2:=LN (T:=T) hO t _ _ _ _ e2 ob
  exact ((d7 hO e).1 _ _ _ _ e1 k2.1).imp id fun k s R Q hQ=>k s R _ fun s1 R1=>k2.2 s1 R1 _ fun s2 R2=>hQ s2 R2
 |augI b a o e=>exact C3 hO
 |ex e=>
  intro m A p h ob
  refine cY h fun p1 e1 h=>?_
  cases h
  exact ((d7 hO e).1 _ _ _ _ e1 ob).imp id fun k s R Q hQ=>k s R _ fun s1 R1=>hQ s1 R1
 |ite t a b h1 h2=>
  intro m A p h ob
  refine ax h fun p1 e1 h=>ax h fun z hz h=>?_
  cases z with
  |true=>
   have k2:=h1 _ _ _ h ob
   exact ((d7 hO t).1 _ _ _ _ e1 k2.1).imp id fun k s R Q hQ=>k s R _ fun s1 R1=>av (pq (bZ s1 R1.sh) hz) (by rw[au rfl];exact k2.2 s1 R1 Q hQ)
  |false=>
   have k2:=h2 _ _ _ h ob
   exact ((d7 hO t).1 _ _ _ _ e1 k2.1).imp id fun k s R Q hQ=>k s R _ fun s1 R1=>av (pq (bZ s1 R1.sh) hz) (by rw[ar (by decide)];exact k2.2 s1 R1 Q hQ)
 |ret e=>
  intro m A p h ob
  obtain⟨g,h⟩:=cu h
  refine cY h fun p1 e1 h=>?_
  cases h
  refine ((d7 hO e).1 _ _ _ _ e1 ob).imp id fun k s R Q hQ=>?_
  show wS.wTestRet e.isNon _ _ _ _
  rw[show e.isNon=false by simpa using g]
  exact k s R _ fun s1 R1=>hQ s1 R1
 |_=>intro m A p e;exact nope e
theorem C2{n:Nat}{fl:Fl}{H:Hp}{d:D}{Q:SV}(hk:n<=H.length)(hd:LK fl=some d)(q:Q (.d d) H):ip n Q fl m H:=by
 refine⟨H.length,hk,.inl (ao _),.d d,?_,by rw[List.take_length];exact q⟩
 cases fl with
 |next=>cases hd;rfl
 |ret v=>cases v with
  |d x=>cases hd;rfl
  |_=>exact nope hd
 |_=>exact nope hd
def IX(c:Cx)(T:aW)(F:DK):Prop:=∀f p,lR f F=some p->∀r vs H Q,vs.length=p.1.length->wS c T r H.length p.2 (p.1.zip vs) H (ip H.length Q)->SemCall c (r+1) (.ref f) vs H Q
theorem EC{F:DK}{pr:qj}{n:Nat}{f:Addr}{vs:List V}:IK T F pr (n+1) f vs A=(match lR f F with|some p=>bc (vs.length==p.1.length) ((runS T (IK T F pr n) p.2 (p.1.zip vs) A).bind (db A.H.length))|none=>pr f vs A):=rfl
theorem Hl{F:DK}{pr:qj}(hF:IX c T F)(hp:∀r,Am c (r+5) pr):∀n r,Am c (r+5+n) (IK T F pr n):=by
 intro n
 induction n with
 |zero=>exact hp
 |succ n ih=>
  intro r f vs A v A' e ob
  rcases hl:lR f F with _|p
  ·exact (show r+1+5+n=r+5+(n+1) by omega)▸(show r+n+1+5=r+1+5+n by omega)▸hp (r+n+1) f vs A v A' (by rw[EC,hl] at e;exact e) ob
  ·obtain⟨g,e⟩:=cu (show bc (vs.length==p.1.length) ((runS T (IK T F pr n) p.2 (p.1.zip vs) A).bind (db A.H.length))=some (v,A') by rw[EC,hl] at e;exact e)
   refine ax e fun q e1 e=>ax e fun d hd e=>?_
   obtain⟨hk,e⟩:=cu e
   cases e
   have k:=LM (T:=T) (k:=A.H.length) (ih r) p.2 _ _ _ e1 ob
   refine k.imp id fun k s R=>hF f p hl (r+5+n) vs _ _ (eq_of_beq g) ?_
   rw[jU s R.sh]
   exact k s R _ fun s' R'=>C2 (by rw[jU s' R'.sh];exact Nat.le_of_ble_eq_true hk) hd ⟨rfl,s',rfl,R'⟩
end
theorem ww{c:Cx}(e:aY c){r:Nat}{M:SQ}{pos:Nat}{s:Sm}{x0:Option Cell}{rest:Hp}{cs:D}{o:Bool}{p:Nat->Bool}(I:e6 M pos s)(hcs:∀x,ey x->bB .mem (st [x]) cs=some (p x)) :
  wS c TT (r+3) (Hs x0 s rest).length bu [(2,.r 1),(38,.d cs),(39,.d (.bool o))] (Hs x0 s rest) (ip (Hs x0 s rest).length fun y H'=>∃s' ds,y=.d (st ((M.drop pos).takeWhile fun x=>p x==o))/\H'=Hs x0 s' (rest++[some (.dlist ds)])/\e6 M (pos+((M.drop pos).takeWhile fun x=>p x==o).length) s'):=by
 have hML:M.length<=1000:=by rw[I.mend];exact ak (fO s.tx false) I.len
 refine aK (v:=.r (rest.length+4)) (H1:=Hs x0 s (rest++[some (.dlist [])])) (by trivial) (by trivial) ?_
 refine kE ⟨1001,?_⟩
 refine wH e (W:=(M.drop pos).takeWhile fun x=>p x==o) (P:=pos+((M.drop pos).takeWhile fun x=>p x==o).length) (tx:=s.tx) hcs ?_ 1001 s pos [] I (by exact Ni ‹_›) (by simp) (by simp) rfl rfl
 intro s' parts' ext' J jt hflat
 refine az ?_
 have hsum:(parts'.map List.length).sum<=16777216:=by
  rw[←List.length_flatten,hflat]
  have:=kX (f:=fun x=>p x==o) (M.drop pos)
  rw[List.length_drop] at this;exact ak this (ak (Nat.sub_le _ _) (bq hML))
 refine aK (w6 (by trivial) (jG _ _ _ _) hsum) (by trivial) ?_
 refine cm rfl (by (simpa! only [ko])) ?_
 rw[hflat]
 exact bg (by simp) (by rfl) ⟨s',_,rfl,rfl,J⟩
theorem DB{c:Cx}(e:aY c){r:Nat}{M:SQ}{pos:Nat}{s:Sm}{x0:Option Cell}{rest:Hp}{cs:D}{o:Bool}{p:Nat->Bool}(I:e6 M pos s)(hcs:∀x,ey x->bB .mem (st [x]) cs=some (p x)) :
  SemCall c (r+4) (.ref 156) [.r 1,.d cs,.d (.bool o)] (Hs x0 s rest) fun y H'=>∃s',y=.d (st ((M.drop pos).takeWhile fun x=>p x==o))/\H'=Hs x0 s' (rest++[none])/\e6 M (pos+((M.drop pos).takeWhile fun x=>p x==o).length) s':=by
 refine (gL e (ww e I hcs)).forget ?_
 rintro _ _ ⟨s',ds,rfl,rfl,J⟩
 exact⟨rest.length+4,s',rfl,mh _ _ _ _ _,J⟩
theorem Aj{c:Cx}(e:aY c){r:Nat}{M:SQ}{pos:Nat}{s:Sm}{x0:Option Cell}{rest:Hp}{cs:D}{p:Nat->Bool}(I:e6 M pos s)(hcs:∀x,ey x->bB .mem (st [x]) cs=some (p x)) :
  SemCall c (r+4) (.ref 156) [.r 1,.d cs] (Hs x0 s rest) fun y H'=>∃s',y=.d (st ((M.drop pos).takeWhile fun x=>p x==false))/\H'=Hs x0 s' (rest++[none])/\e6 M (pos+((M.drop pos).takeWhile fun x=>p x==false).length) s':=by
 refine (gK e (ww e I hcs)).forget ?_
 rintro _ _ ⟨s',ds,rfl,rfl,J⟩
 exact⟨rest.length+4,s',rfl,mh _ _ _ _ _,J⟩
theorem AS{d:D}{x:Nat}(h:Jy d=some x):d=st [x]:=by
 cases d with
 |str s=>
  have h:(match s.l with|[c]=>some c|_=>none)=some x:=h
  rcases hs:s.l with _|⟨y,_|⟨z,w⟩⟩
  ·rw[hs] at h;exact nope h
  ·rw[hs] at h;cases h;rw[←bW s,hs];rfl
  ·rw[hs] at h;exact nope h
 |_=>exact nope h
theorem vf{ds:List D}{row:SQ}(h:rn ds=some row):ds=zo row:=by
 induction ds generalizing row with
 |nil=>cases h;rfl
 |cons d r ih=>exact ax h fun c h1 h=>cY h fun w h2 h=>by rw[←h,AS h1,ih h2];rfl
theorem l7{d:D}{row:SQ}(h:EK d=some row)(x:Nat):bB .mem (st [x]) d=some (decide (x∈row)):=by
 cases d with
 |str s=>
  cases h
  have:=FD [x] s.l
  rw[zO] at this
  rw[←this]
  show bB .mem _ (.str s)=bB .mem _ (.str (Sl s.l))
  rw[bW]
 |tuple ds=>rw[vf h];exact sF x row
 |_=>exact nope h
theorem k5(rb a:SQ):(rb.reverse++a).drop rb.length=a:=by
 have:=List.drop_left (l₁:=rb.reverse) (l₂:=a)
 rwa[List.length_reverse] at this
theorem n9(rb a:SQ):(rb.reverse++a)[rb.length]?=a.head?:=by
 rw[←List.head?_drop,k5]
theorem jF(rb a:SQ):(rb.reverse++a).length=rb.length+a.length:=by rw[ae,List.length_reverse]
theorem AY(rb a:SQ)(row:SQ)(o:Bool):((dH row o a).reverse++rb).reverse++a.drop (dH row o a).length=rb.reverse++a:=by
 rw[List.reverse_append,List.reverse_reverse,af]
 have h:=List.take_append_drop (dH row o a).length a
 rw[show a.take (dH row o a).length=dH row o a from ik a] at h
 rw[h]
theorem oz(rb a:SQ)(x:Nat):(x::rb).reverse++a=rb.reverse++x::a:=by
 rw[List.reverse_cons,af];rfl
section
variable {c:Cx}{r:Nat}{A A':As}{v:V}
abbrev Iz(c:Cx)(r:Nat)(f:Addr)(vs:List V)(A:As)(v:V)(A':As):Prop:=∀s,Rs A s->SemCall c r (.ref f) vs (br s A.H) fun y H'=>y=v/\∃s',H'=br s' A'.H/\Rs A' s'
theorem ya(e:aY c)(h:wu A=(v,A')):(A'.ob->A.ob)/\Iz c (r+5) 133 [.r 1] A v A':=by
 obtain⟨H,rb,a,fr,cut,ob⟩:=A
 cases a with
 |nil=>
  cases h
  refine⟨fun o=>o,fun s R=>?_⟩
  obtain⟨⟨c0,rest⟩,iv,rfr⟩:=R
  refine (Af (r:=r+1) e iv).mono ?_
  rintro _ _ ⟨s',rfl,rfl,J,_,_⟩
  have hl:=jF rb []
  rw[n9]
  rw[show min (rb.length+1) (rb.reverse++([]:SQ)).length=rb.length by rw[hl];simp] at J
  exact⟨rfl,s',rfl,⟨⟨_,_⟩,J,fun q=>nof2 q⟩⟩
 |cons x a=>
  cases h
  refine⟨fun o=>o,fun s R=>?_⟩
  obtain⟨⟨c0,rest⟩,iv,rfr⟩:=R
  refine (Af (r:=r+1) e iv).mono ?_
  rintro _ _ ⟨s',rfl,rfl,J,j2,_⟩
  have hl:=jF rb (x::a)
  rw[n9]
  rw[show min (rb.length+1) (rb.reverse++x::a).length=rb.length+1 by rw[hl,ag];exact Nat.min_eq_left (Nat.add_le_add_left (Nat.succ_le_succ (Nat.zero_le _)) _),←oz] at J
  exact⟨rfl,s',rfl,⟨⟨_,_⟩,J,fun _=>j2 (by rw[hl,ag];exact Nat.lt_add_of_pos_right (Nat.succ_pos _))⟩⟩
theorem Eg(e:aY c){w:V}(h:Il w A=some (v,A'))(o:A'.ob):A.ob/\Iz c (r+5) 163 [.r 1,w] A v A':=by
 obtain⟨H,rb,a,fr,cut,ob⟩:=A
 cases w with
 |d d=>cases d with
  |none=>
   cases a with
   |nil=>
    cases h
    refine⟨o,fun s R=>?_⟩
    obtain⟨⟨c0,rest⟩,iv,rfr⟩:=R
    have hl:=jF rb []
    refine (tF (r:=r+4) (ch:=none) (pos:=rb.length) e (by rw[hl];simpa using iv) (by rw[n9];rfl) (fun q=>absurd q (by rw[hl];simp)) (by rw[hl];simp)).mono ?_
    rintro _ _ ⟨rfl,s',rfl,J,_⟩
    exact⟨rfl,s',rfl,⟨⟨_,_⟩,J,fun q=>nof2 q⟩⟩
   |cons=>exact nope h
  |str x=>
   cases rb with
   |nil=>exact nope h
   |cons y rb=>
    obtain⟨g,h⟩:=aX h
    cases h
    refine⟨o.1,fun s R=>?_⟩
    obtain⟨⟨c0,rest⟩,iv,rfr⟩:=R
    have hl:=jF rb (y::a)
    dsimp only at iv rfr
    rw[oz] at iv
    have hx:PyData.str x=rR (some y):=by rw[←bW x,o.2];rfl
    rw[hx]
    refine (tF (r:=r+4) (ch:=some y) (pos:=rb.length) e (by rw[show min (rb.length+1) (rb.reverse++y::a).length=rb.length+1 by rw[hl,ag];exact Nat.min_eq_left (Nat.add_le_add_left (Nat.succ_le_succ (Nat.zero_le _)) _)];exact iv) (by rw[n9];rfl) (fun _=>rfr g) (by rw[hl];omega)).mono ?_
    rintro _ _ ⟨rfl,s',rfl,J,_⟩
    exact⟨rfl,s',rfl,⟨⟨_,_⟩,J,fun q=>nof2 q⟩⟩
  |_=>exact nope h
 |_=>exact nope h
theorem Eh(e:aY c){w:V}{o:Bool}(h:Im w o A=some (v,A'))(ob:A'.ob):A.ob/\Iz c (r+5) 156 [.r 1,w,.d (.bool o)] A v A'/\(o=false->Iz c (r+5) 156 [.r 1,w] A v A'):=by
 refine ax h fun d hd h1=>cY h1 fun row hr h2=>?_
 obtain rfl:w=.d d:=by cases w<;>first|(cases hd;rfl)|exact nope hd
 have key:v=.d (st (dH row o A.a))/\A.ob/\A'.H=A.H++[none]/\A'.rb=(dH row o A.a).reverse++A.rb/\A'.a=A.a.drop (dH row o A.a).length/\A'.fr=false:=by
  cases hc:A.cut with
  |none=>
   rw[hc] at h2
   cases h2
   exact⟨rfl,ob,rfl,rfl,rfl,rfl⟩
  |some p=>
   rw[hc] at h2
   cases h2
   obtain⟨o1,o2,o3⟩:=ob
   refine⟨by rw[o3],o1,rfl,by rw[o3],?_,rfl⟩
   rw[o3,o2,List.drop_left]
 obtain⟨rfl,k0,k1,k2,k3,k4⟩:=key
 have db:∀s',e6 (A.rb.reverse++A.a) (A.rb.length+(dH row o A.a).length) s'->Sh A'.H->Rs A' s':=fun s' J sh=>by
  refine⟨sh,?_,fun q=>by rw[k4] at q;exact nof2 q⟩
  rw[k2,k3,AY,ae,List.length_reverse,Nat.add_comm];exact J
 refine⟨k0,fun s R=>?_,fun ho s R=>?_⟩
 ·obtain⟨H,rb,a,fr,cut,ob⟩:=A
  obtain⟨⟨c0,rest⟩,iv,rfr⟩:=R
  refine (DB (r:=r+1) (o:=o) e iv fun x _=>l7 hr x).mono ?_
  rintro _ _ ⟨s',rfl,rfl,J⟩
  dsimp only at J k1 ⊢
  rw[k5] at J ⊢
  exact⟨rfl,s',by rw[k1];rfl,db s' J (by rw[k1];exact⟨_,_⟩)⟩
 ·subst ho
  obtain⟨H,rb,a,fr,cut,ob⟩:=A
  obtain⟨⟨c0,rest⟩,iv,rfr⟩:=R
  refine (Aj (r:=r+1) e iv fun x _=>l7 hr x).mono ?_
  rintro _ _ ⟨s',rfl,rfl,J⟩
  dsimp only at J k1 ⊢
  rw[k5] at J ⊢
  exact⟨rfl,s',by rw[k1];rfl,db s' J (by rw[k1];exact⟨_,_⟩)⟩
theorem nG{α:Type}{b:Bool}{x y z:α}(h:pick b x y=z):(b=true/\x=z)\/(b=false/\y=z):=by
 cases b with
 |true=>exact .inl ⟨rfl,h⟩
 |false=>exact .inr ⟨rfl,h⟩
theorem Ht(e:aY c)(r:Nat):Am c (r+5) Rj:=by
 intro f vs A v A' h ob
 rcases vs with _|⟨x,_|⟨y,_|⟨z,_|⟨w,t⟩⟩⟩⟩
 ·exact nope h
 ·rcases nG h with ⟨g,h⟩|⟨g,h⟩
  ·obtain rfl:=eq_of_beq g
   obtain⟨g,h⟩:=cu h
   obtain rfl:=ju g
   exact (ya e (aj h)).imp (fun k=>k ob) id
  ·obtain⟨g,h⟩:=cu h
   obtain rfl:=eq_of_beq g
   refine cY h fun t ht h=>?_
   cases h
   obtain⟨x,rfl,rfl⟩:=pS ht
   refine⟨ob.1,fun s R=>(nY (r:=r+4) e ob.2.1 ob.2.2).mono ?_⟩
   rintro _ _ ⟨rfl,rfl⟩
   exact⟨rfl,s,rfl,R.same rfl rfl rfl rfl⟩
 ·obtain⟨g,h⟩:=cu h
  obtain rfl:=ju g
  rcases nG h with ⟨g,h⟩|⟨g,h⟩
  ·obtain rfl:=eq_of_beq g
   exact Eg e h ob
  ·obtain⟨g,h⟩:=cu h
   obtain rfl:=eq_of_beq g
   obtain⟨k1,_,k2⟩:=Eh (r:=r) e h ob
   exact⟨k1,k2 rfl⟩
 ·obtain⟨g,h⟩:=cu h
  refine aS g fun g1 g2=>ax h fun o ho h=>?_
  obtain rfl:=ju g1
  obtain rfl:=eq_of_beq g2
  obtain rfl:z=.d (.bool o):=by
   cases z with
   |d d=>cases d<;>first|(cases ho;rfl)|exact nope ho
   |_=>exact nope ho
  obtain⟨k1,k2,_⟩:=Eh (r:=r) e h ob
  exact⟨k1,k2⟩
 ·exact nope h
end
section
variable {c:Cx}{r:Nat}
def MY(c:Cx)(f:Addr)(p:SQ×S):Prop:=∀r vs H Q,vs.length=p.1.length->wS c TT r H.length p.2 (p.1.zip vs) H (ip H.length Q)->SemCall c (r+1) (.ref f) vs H Q
def IS(c:Cx):DK->Prop
 |[]=>True
 |p::r=>MY c p.1 p.2/\IS c r
theorem Az{F:DK}(h:IS c F){f:Addr}{p:SQ×S}(e:lR f F=some p):MY c f p:=by
 induction F with
 |nil=>exact nope e
 |cons q F ih=>
  rcases nG e with ⟨g,e⟩|⟨g,e⟩
  ·cases e;rw[←eq_of_beq g];exact h.1
  ·exact ih h.2 e
theorem IG{f:Addr}{b:S}(g:∀(r:Nat) (x0:V) (H:Hp) (Q:SV),wS c TT r H.length b [(2,x0)] H (ip H.length Q)->SemCall c (r+1) (.ref f) [x0] H Q):MY c f ([2],b):=fun r vs H Q hl hw=>by
 obtain⟨v,rfl⟩:=km hl
 exact g r v H Q hw
theorem JZ(e:aY c):IX c TT N2:=fun f p h=>Az (c:=c) (F:=N2) ⟨IG fun _ _ _ _=>eh e,IG fun _ _ _ _=>iI e,IG fun _ _ _ _=>fU e,IG fun _ _ _ _=>d6 e,IG fun _ _ _ _=>fT e,IG fun _ _ _ _=>d5 e,trivial⟩ h
theorem LO(e:aY c)(n:Nat):Am c (r+5+n) (yX n):=Hl (JZ e) (Ht e) n r
end
noncomputable abbrev TTb:aW:={ TT with fl:=true }
theorem ca:TTb.nms=TT.nms:=rfl
theorem fV:TTb.gl=TT.gl:=rfl
noncomputable def l8:SQ:=[116,111,108,100]
noncomputable def tq:SQ:=[116,101,120,116]
noncomputable def gj:SQ:=[98,108,97,110,107]
noncomputable def dU:SQ:=[110,111,116,101]
noncomputable def eM:SQ:=[115,116,97,114,116]
noncomputable def lr:SQ:=[101,110,100]
noncomputable def fH(w:SQ)(x:D):D:=.tuple [st w,x]
noncomputable def BS(w:SQ)(x:D):D:=.tuple [st w,x,.list [],.bool false,.bool true]
noncomputable def mL(script text:D):aD:=[(52,.d script),(1,.d text),(72,.r 0),(71,.r 4)]
section
variable {c:Cx}{r k:Nat}{a:Addr}{H:Hp}{K:aD->Hp->Prop}{script text:D}{j:Nat}{ds:List D}
theorem ew{m' m:aD}{H':Hp}(hm:∀i x,lk i m=some x->48≠i/\lk i m'=some x)(q:K m H'):(fun (fl:Fl) (m':aD) (H':Hp)=>fl=.next/\∃m2,(∀j y,lk j m2=some y->48≠j/\lk j m'=some y)/\K m2 H') .next m' H':=⟨rfl,m,hm,q⟩
theorem lS{x v:V}:∀i y,lk i (mL script text)=some y->48≠i/\lk i (pk 73 v (pk 48 x (mL script text)))=some y:=by
 intro i y e
 rw[ko,ko]
 unfold mL at e
 rw[a6,a6,a6,a6,x7] at e
 by_cases h1:52=i
 ·subst h1;rw[au rfl] at e;exact⟨by decide,e⟩
 ·rw[ar h1] at e
  by_cases h2:1=i
  ·subst h2;rw[au rfl] at e;exact⟨by decide,e⟩
  ·rw[ar h2] at e
   by_cases h3:72=i
   ·subst h3;rw[au rfl] at e;exact⟨by decide,e⟩
   ·rw[ar h3] at e
    by_cases h4:71=i
    ·subst h4;rw[au rfl] at e;exact⟨by decide,e⟩
    ·rw[ar h4] at e;nomatch e
theorem vF{fs:List (Nat×V)}{x:D}(hj:H[j]?=some (some (.dict ((51,.d (.int 7))::(33,.d x)::fs))))(h4:H[4]?=some (some (.dlist ds)))(hl:ds.length<=1000)(q:K (mL script text) (H.set 4 (some (.dlist (ds++[fH l8 x]))))) :
  eu c TT r k 48 a dy (.r j) (mL script text) H K:=by
 have l:ds.length<=16777215:=ak hl (by decide)
 refine aK (v:=.d (.int 7)) (H1:=H) (by unfold mL;(simpa! only [hj,ca,fV])) (by trivial) ?_
 refine cb (v:=.d (.bool true)) (H1:=H) (by unfold mL;(simpa! only [hj,ca,fV])) rfl ?_
 refine iY (v:=.d .none) (H1:=H.set 4 (some (.dlist (ds++[fH l8 x])))) (by unfold mL;(simpa! only [hj,h4,l,ca,fV])) ?_
 exact az (ew lS q)
theorem vE{x:D}(hj:H[j]?=some (some (.dict [(51,.d (.int 1)),(33,.d x)])))(h4:H[4]?=some (some (.dlist ds)))(hl:ds.length<=1000)(q:K (mL script text) (H.set 4 (some (.dlist (ds++[fH tq x]))))) :
  eu c TT r k 48 a dy (.r j) (mL script text) H K:=by
 have l:ds.length<=16777215:=ak hl (by decide)
 refine aK (v:=.d (.int 1)) (H1:=H) (by unfold mL;(simpa! only [hj,ca,fV])) (by trivial) ?_
 refine be (v:=.d (.bool false)) (H1:=H) (by unfold mL;(simpa! only [hj,ca,fV])) rfl ?_
 refine cb (v:=.d (.bool true)) (H1:=H) (by unfold mL;(simpa! only [hj,ca,fV])) rfl ?_
 refine iY (v:=.d .none) (H1:=H.set 4 (some (.dlist (ds++[fH tq x])))) (by unfold mL;(simpa! only [hj,h4,l,ca,fV])) ?_
 exact az (aF (az (ew lS q)))
theorem rA{x:D}(hj:H[j]?=some (some (.dict [(51,.d (.int 2)),(33,.d x)])))(h4:H[4]?=some (some (.dlist ds)))(hl:ds.length<=1000)(q:K (mL script text) (H.set 4 (some (.dlist (ds++[fH gj x]))))) :
  eu c TT r k 48 a dy (.r j) (mL script text) H K:=by
 have l:ds.length<=16777215:=ak hl (by decide)
 refine aK (v:=.d (.int 2)) (H1:=H) (by unfold mL;(simpa! only [hj,ca,fV])) (by trivial) ?_
 refine be (v:=.d (.bool false)) (H1:=H) (by unfold mL;(simpa! only [hj,ca,fV])) rfl ?_
 refine be (v:=.d (.bool false)) (H1:=H) (by unfold mL;(simpa! only [hj,ca,fV])) rfl ?_
 refine cb (v:=.d (.bool true)) (H1:=H) (by unfold mL;(simpa! only [hj,ca,fV])) rfl ?_
 refine iY (v:=.d .none) (H1:=H.set 4 (some (.dlist (ds++[fH gj x])))) (by unfold mL;(simpa! only [hj,h4,l,ca,fV])) ?_
 exact az (aF (az (aF (az (ew lS q)))))
theorem vC{x:D}(hj:H[j]?=some (some (.dict [(51,.d (.int 6)),(33,.d x)])))(h4:H[4]?=some (some (.dlist ds)))(hl:ds.length<=1000)(q:K (mL script text) (H.set 4 (some (.dlist (ds++[fH dU x]))))) :
  eu c TT r k 48 a dy (.r j) (mL script text) H K:=by
 have l:ds.length<=16777215:=ak hl (by decide)
 refine aK (v:=.d (.int 6)) (H1:=H) (by unfold mL;(simpa! only [hj,ca,fV])) (by trivial) ?_
 refine be (v:=.d (.bool false)) (H1:=H) (by unfold mL;(simpa! only [hj,ca,fV])) rfl ?_
 refine be (v:=.d (.bool false)) (H1:=H) (by unfold mL;(simpa! only [hj,ca,fV])) rfl ?_
 refine be (v:=.d (.bool false)) (H1:=H) (by unfold mL;(simpa! only [hj,ca,fV])) rfl ?_
 refine cb (v:=.d (.bool true)) (H1:=H) (by unfold mL;(simpa! only [hj,ca,fV])) rfl ?_
 refine iY (v:=.d .none) (H1:=H.set 4 (some (.dlist (ds++[fH dU x])))) (by unfold mL;(simpa! only [hj,h4,l,ca,fV])) ?_
 exact az (aF (az (aF (az (aF (az (ew lS q)))))))
theorem El:GX (.d (.dict []))=true:=rfl
theorem Em:GX .el=true:=rfl
theorem vD{x:D}(hj:H[j]?=some (some (.dict [(51,.d (.int 3)),(62,.d x),(33,.d (.dict [])),(63,.d (.bool false)),(109,.d (.bool false))])))(h4:H[4]?=some (some (.dlist ds)))(hl:ds.length<=1000)(q:K (mL script text) (H.set 4 (some (.dlist (ds++[BS eM x]))))) :
  eu c TT r k 48 a dy (.r j) (mL script text) H K:=by
 have l:ds.length<=16777215:=ak hl (by decide)
 refine aK (v:=.d (.int 3)) (H1:=H) (by unfold mL;(simpa! only [hj,ca,fV])) (by trivial) ?_
 refine be (v:=.d (.bool false)) (H1:=H) (by unfold mL;(simpa! only [hj,ca,fV])) rfl ?_
 refine be (v:=.d (.bool false)) (H1:=H) (by unfold mL;(simpa! only [hj,ca,fV])) rfl ?_
 refine be (v:=.d (.bool false)) (H1:=H) (by unfold mL;(simpa! only [hj,ca,fV])) rfl ?_
 refine be (v:=.d (.bool false)) (H1:=H) (by unfold mL;(simpa! only [hj,ca,fV])) rfl ?_
 refine cb (v:=.d (.bool true)) (H1:=H) (by unfold mL;(simpa! only [hj,ca,fV])) rfl ?_
 refine iY (v:=.d .none) (H1:=H.set 4 (some (.dlist (ds++[BS eM x])))) (by unfold mL;(simpa! only [hj,h4,l,ca,fV,El,Em])) ?_
 exact az (aF (az (aF (az (aF (az (aF (az (ew lS q)))))))))
theorem vB{x:D}(hj:H[j]?=some (some (.dict [(51,.d (.int 4)),(62,.d x),(33,.el),(63,.d (.bool false))])))(h4:H[4]?=some (some (.dlist ds)))(hl:ds.length<=1000)(q:K (mL script text) (H.set 4 (some (.dlist (ds++[BS lr x]))))) :
  eu c TT r k 48 a dy (.r j) (mL script text) H K:=by
 have l:ds.length<=16777215:=ak hl (by decide)
 refine aK (v:=.d (.int 4)) (H1:=H) (by unfold mL;(simpa! only [hj,ca,fV])) (by trivial) ?_
 refine be (v:=.d (.bool false)) (H1:=H) (by unfold mL;(simpa! only [hj,ca,fV])) rfl ?_
 refine be (v:=.d (.bool false)) (H1:=H) (by unfold mL;(simpa! only [hj,ca,fV])) rfl ?_
 refine be (v:=.d (.bool false)) (H1:=H) (by unfold mL;(simpa! only [hj,ca,fV])) rfl ?_
 refine be (v:=.d (.bool false)) (H1:=H) (by unfold mL;(simpa! only [hj,ca,fV])) rfl ?_
 refine be (v:=.d (.bool false)) (H1:=H) (by unfold mL;(simpa! only [hj,ca,fV])) rfl ?_
 refine cb (v:=.d (.bool true)) (H1:=H) (by unfold mL;(simpa! only [hj,ca,fV])) rfl ?_
 refine iY (v:=.d .none) (H1:=H.set 4 (some (.dlist (ds++[BS lr x])))) (by unfold mL;(simpa! only [hj,h4,l,ca,fV,El,Em])) ?_
 exact az (aF (az (aF (az (aF (az (aF (az (aF (az (ew lS q)))))))))))
inductive Ev(H:Hp):V->D->Prop
 |told {n:Nat}{x:D}{fs:List (Nat×V)} (hn:6<=n) (e:H[n]?=some (some (.dict ((51,.d (.int 7))::(33,.d x)::fs)))):Ev H (.r n) (fH l8 x)
 |text {n:Nat}{x:D} (hn:6<=n) (e:H[n]?=some (some (.dict [(51,.d (.int 1)),(33,.d x)]))):Ev H (.r n) (fH tq x)
 |blank {n:Nat}{x:D} (hn:6<=n) (e:H[n]?=some (some (.dict [(51,.d (.int 2)),(33,.d x)]))):Ev H (.r n) (fH gj x)
 |note {n:Nat}{x:D} (hn:6<=n) (e:H[n]?=some (some (.dict [(51,.d (.int 6)),(33,.d x)]))):Ev H (.r n) (fH dU x)
 |stag {n:Nat}{x:D} (hn:6<=n) (e:H[n]?=some (some (.dict [(51,.d (.int 3)),(62,.d x),(33,.d (.dict [])),(63,.d (.bool false)),(109,.d (.bool false))]))):Ev H (.r n) (BS eM x)
 |etag {n:Nat}{x:D} (hn:6<=n) (e:H[n]?=some (some (.dict [(51,.d (.int 4)),(62,.d x),(33,.el),(63,.d (.bool false))]))):Ev H (.r n) (BS lr x)
theorem Dt{q:V}{it:D}(h:Ev H q it)(h4:H[4]?=some (some (.dlist ds)))(hl:ds.length<=1000)(k0:K (mL script text) (H.set 4 (some (.dlist (ds++[it]))))):eu c TT r k 48 a dy q (mL script text) H K:=by
 cases h with
 |told _ e=>exact vF e h4 hl k0
 |text _ e=>exact vE e h4 hl k0
 |blank _ e=>exact rA e h4 hl k0
 |note _ e=>exact vC e h4 hl k0
 |stag _ e=>exact vD e h4 hl k0
 |etag _ e=>exact vB e h4 hl k0
theorem Ev.keep{H':Hp}(k:∀n,6<=n->H'[n]?=H[n]?){q:V}{it:D}(h:Ev H q it):Ev H' q it:=by
 cases h with
 |told hn e=>exact .told hn ((k _ hn).trans e)
 |text hn e=>exact .text hn ((k _ hn).trans e)
 |blank hn e=>exact .blank hn ((k _ hn).trans e)
 |note hn e=>exact .note hn ((k _ hn).trans e)
 |stag hn e=>exact .stag hn ((k _ hn).trans e)
 |etag hn e=>exact .etag hn ((k _ hn).trans e)
inductive EvL(H:Hp):List V->List D->Prop
 |nil:EvL H [] []
 |cons {q:V}{it:D}{qs:List V}{its:List D}:Ev H q it->EvL H qs its->EvL H (q::qs) (it::its)
theorem EvL.keep{H':Hp}(k:∀n,6<=n->H'[n]?=H[n]?){qs:List V}{its:List D}(h:EvL H qs its):EvL H' qs its:=by
 induction h with
 |nil=>exact .nil
 |cons h _ ih=>exact .cons (h.keep k) ih
end
noncomputable abbrev mG:aD:=[(2,.r 0)]
abbrev gW(c:Cx)(r:Nat)(a:Addr)(Qe:aD->Hp->Prop):Nat->Bool->aD->Hp->Prop:=wG c TT r 6 mG n7 n6 io jE (eu c TT r 6 48 a dy) Qe
section
variable {c:Cx}{r:Nat}{a:Addr}{H:Hp}{Qe:aD->Hp->Prop}{script text:D}{sv cur:V}
theorem zX(h0:H[0]?=some (nT sv cur (.r 5) [])):aO TT io mG H=some (.r 5,H):=by
 unfold io
 (simpa! only [h0])
theorem Mu{q:V}{qs:List V}(h0:H[0]?=some (nT sv cur (.r 5) []))(h5:H[5]?=some (some (.list (q::qs))))(hl:(q::qs).length<=900):aO TT jE mG H=some (q,H.set 5 (some (.list qs))):=by
 have h1:aO TT (.at (.v 2) 50) mG H=some (.r 5,H):=zX h0
 have h2:cellOf H (.r 5)=some (5,.list (q::qs)):=by unfold cellOf;dsimp only;rw[h5]
 have h3:nI true (.list (q::qs))=some (q,.list qs):=by
  show bc (jm (q::qs).length 900) (some (q,Cell.list qs)) = _
  unfold jm
  rw[r0 _ _ hl];rfl
 show ((aO TT (.at (.v 2) 50) mG H).bind fun p=>(cellOf p.2 p.1).bind fun q=>(nI true q.2).map fun y=>(y.1,p.2.set q.1 (some y.2))) = _
 rw[h1]
 show ((cellOf H (.r 5)).bind fun q=>(nI true q.2).map fun y=>(y.1,H.set q.1 (some y.2))) = _
 rw[h2]
 show ((nI true (.list (q::qs))).map fun y=>(y.1,H.set 5 (some y.2))) = _
 rw[h3];rfl
theorem EP{qs:List V}(h5:H[5]?=some (some (.list qs)))(hl:qs.length<=900):aN H (.r 5)=some (!qs.isEmpty):=by
 unfold aN
 dsimp only
 rw[h5]
 exact au (ak hl (by decide))
theorem GK:bj 6 (mL script text)=true:=rfl
theorem BF{its:List D}{qs:List V}:∀{ds:List D}{H:Hp}{n:Nat},EvL H qs its->H[0]?=some (nT sv cur (.r 5) [])->H[5]?=some (some (.list qs))->H[4]?=some (some (.dlist ds))->ds.length+its.length<=900->qs.length<=900 ->
  gW c r a Qe n false (mL script text) ((H.set 5 (some (.list []))).set 4 (some (.dlist (ds++its))))->gW c r a Qe (n+qs.length+1) true (mL script text) H:=by
 induction qs generalizing its with
 |nil=>
  intro ds H n hE h0 h5 h4 hl hq k
  cases hE
  refine ev (zX h0) (av (EP h5 hq) ?_)
  rw[ar (by decide)]
  have e5:H.set 5 (some (.list []))=H:=by
   refine List.ext_getElem? fun n=>?_
   rw[List.getElem?_set]
   by_cases q:5=n
   ·subst q;rw[au rfl,au (oh h5),h5]
   ·rw[ar q]
  have e4:H.set 4 (some (.dlist (ds++[])))=H:=by
   rw[List.append_nil]
   refine List.ext_getElem? fun n=>?_
   rw[List.getElem?_set]
   by_cases q:4=n
   ·subst q;rw[au rfl,au (oh h4),h4]
   ·rw[ar q]
  rw[e5,e4] at k
  exact k
 |cons q qs ih=>
  intro ds H n hE h0 h5 h4 hl hq k
  cases hE with
  |@cons q it qs its h1 h2=>
   have l5:=oh h5
   refine ev (zX h0) (av (EP h5 hq) ?_)
   show (if true=true then _ else _)
   rw[au rfl]
   refine ev (Mu h0 h5 hq) ?_
   have h4':(H.set 5 (some (.list qs)))[4]?=some (some (.dlist ds)):=by rw[List.getElem?_set_ne (by decide)];exact h4
   have l4:=oh h4'
   rw[ag] at hl hq
   refine Dt (h1.keep fun n hn=>List.getElem?_set_ne (Nat.ne_of_lt (Nat.lt_of_lt_of_le (by decide) hn))) h4' (by omega) ⟨GK,?_⟩
   show gW c r a Qe (n+qs.length+1) true _ _
   have kp:∀n,6<=n->((H.set 5 (some (.list qs))).set 4 (some (.dlist (ds++[it]))))[n]?=H[n]?:=fun n hn=>by rw[List.getElem?_set_ne (Nat.ne_of_lt (Nat.lt_of_lt_of_le (by decide) hn)),List.getElem?_set_ne (Nat.ne_of_lt (Nat.lt_of_lt_of_le (by decide) hn))]
   refine ih (h2.keep kp) (by rw[List.getElem?_set_ne (by decide),List.getElem?_set_ne (by decide)];exact h0) (by rw[List.getElem?_set_ne (by decide),List.getElem?_set_self l5]) (by rw[List.getElem?_set_self l4]) (by rw[ae,List.length_singleton];omega) (by omega) ?_
   have e:(((H.set 5 (some (.list qs))).set 4 (some (.dlist (ds++[it])))).set 5 (some (.list []))).set 4 (some (.dlist (ds++[it]++its)))=(H.set 5 (some (.list []))).set 4 (some (.dlist (ds++it::its))):=by
    rw[af]
    rw[List.set_comm _ _ (by decide:(4:Nat)≠5),List.set_set,List.set_set]
    rfl
   rw[e];exact k
end
set_option genCtorIdx false in
inductive Tk where
 |no
 |s0 (n:SQ)
 |s1 (n:SQ)
 |e (n:SQ)
noncomputable def Tk.ctorIdx(x:Tk):Nat:=Tk.casesOn x 0 (fun _=>1) (fun _=>2) (fun _=>3)
noncomputable def oB(k:Nat):Tk->V
 |.no=>.d .none
 |_=>.r k
noncomputable def sC(n:SQ)(d:V):Option Cell:=some (.dict [(51,.d (.int 3)),(62,.d (st n)),(33,d),(63,.d (.bool false)),(109,.d (.bool false))])
noncomputable def rW:Tk->Option Cell
 |.no=>none
 |.s0 n=>sC n .el
 |.s1 n=>sC n (.d (.dict []))
 |.e n=>some (.dict [(51,.d (.int 4)),(62,.d (st n)),(33,.el),(63,.d (.bool false))])
noncomputable abbrev cq(q:List V):Option Cell:=some (.list q)
noncomputable abbrev vT:V:=.d (.bool true)
noncomputable def tr(f:Addr)(got:Option Cell)(tk:Tk)(rb a:SQ)(cut:Option (SQ×SQ)):As:=⟨[nT (.m f 0) (oB 6 tk) (.r 5) [],none,none,none,got,cq [],rW tk],rb,a,false,cut,True⟩
structure DD where
 k:Nat
 f:Addr
 ct:Option Cell
 qs:List V
 cells:Hp
 fr:Bool
noncomputable def wN(b:DD)(got:Option Cell)(tk:Tk)(rb a:SQ)(ob:Prop):As:=⟨nT (.m b.f 0) (oB b.k tk) (.r 5) []::none::none::none::got::cq b.qs::b.ct::b.cells,rb,a,b.fr,none,ob⟩
def IZ(b:DD)(tk:Tk):Prop:=(b.k=6/\b.ct=rW tk)\/∃j,b.k=7+j/\b.cells[j]?=some (rW tk)
def MK(b:DD)(its:List D):Prop:=∀p0 p1 p2 p3 p4 p5,EvL (p0::p1::p2::p3::p4::p5::b.ct::b.cells) b.qs its
inductive Row4(f:Addr)(tk:Tk)(rb a:SQ)(f':Addr)(tk':Tk)(rb' a':SQ)(its:List D):Prop
 |mk (cut:Option (SQ×SQ)) (b:DD) (ob:Prop) (hf:b.f=f') (hob:ob) (run:∀got,yX 2 f [.r 0] (tr f got tk rb a cut)=some (vT,wN b got tk' rb' a' ob)) (hk:IZ b tk') (ev:MK b its) (hq:b.qs.length<=9):Row4 f tk rb a f' tk' rb' a' its
theorem gi{f:Addr}{tk tk':Tk}{rb rb' a a':SQ}{its:List D}{ob:Prop}(cut:Option (SQ×SQ))(b:DD)
  (w:(∀got,yX 2 f [.r 0] (tr f got tk rb a cut)=some (vT,wN b got tk' rb' a' ob))/\IZ b tk'/\Nat.ble b.qs.length 9=true)(hob:ob)(ev:MK b its):Row4 f tk rb a b.f tk' rb' a' its:=.mk cut b ob rfl hob w.1 w.2.1 ev (Nat.le_of_ble_eq_true w.2.2)
theorem rm{f f':Addr}{xs:SQ}{tk:Tk}{rb:SQ}{tk':Nat->Tk}{rb' a a':Nat->SQ}{its:Nat->List D}{ob:Nat->Prop}(cut:Option (SQ×SQ))(b:Nat->DD)
  (w:(∀got,(xs.map fun x=>yX 2 f [.r 0] (tr f got tk rb (a x) cut))=xs.map fun x=>some (vT,wN (b x) got (tk' x) (rb' x) (a' x) (ob x)))/\∀x,(b x).f=f'/\IZ (b x) (tk' x)/\Nat.ble (b x).qs.length 9=true)(hob:∀x,ob x)(ev:∀x,MK (b x) (its x)) :
  ∀x∈xs,Row4 f tk rb (a x) f' (tk' x) (rb' x) (a' x) (its x):=fun x hx=>.mk cut (b x) (ob x) (w.2 x).1 (hob x) (fun got=>List.map_inj_left.mp (w.1 got) x hx) (w.2 x).2.1 (ev x) (Nat.le_of_ble_eq_true (w.2 x).2.2)
noncomputable def c2(k:Int)(x:SQ):Option Cell:=some (.dict [(51,.d (.int k)),(33,.d (st x))])
noncomputable def mV:SQ:=[105,110,118,97,108,105,100,45,99,111,100,101,112,111,105,110,116]
noncomputable def IF:SQ:=[101,120,112,101,99,116,101,100,45,116,97,103,45,110,97,109,101,45,98,117,116,45,103,111,116,45,114,105,103,104,116,45,98,114,97,99,107,101,116]
noncomputable def eQ:SQ:=[101,120,112,101,99,116,101,100,45,116,97,103,45,110,97,109,101,45,98,117,116,45,103,111,116,45,113,117,101,115,116,105,111,110,45,109,97,114,107]
noncomputable def rX:SQ:=[101,120,112,101,99,116,101,100,45,116,97,103,45,110,97,109,101]
noncomputable def IE:SQ:=[101,120,112,101,99,116,101,100,45,99,108,111,115,105,110,103,45,116,97,103,45,98,117,116,45,103,111,116,45,114,105,103,104,116,45,98,114,97,99,107,101,116]
noncomputable def ID:SQ:=[101,120,112,101,99,116,101,100,45,99,108,111,115,105,110,103,45,116,97,103,45,98,117,116,45,103,111,116,45,101,111,102]
noncomputable def An:SQ:=[101,120,112,101,99,116,101,100,45,99,108,111,115,105,110,103,45,116,97,103,45,98,117,116,45,103,111,116,45,99,104,97,114]
noncomputable def MO:SQ:=[101,111,102,45,105,110,45,116,97,103,45,110,97,109,101]
noncomputable def qD:SQ:=[101,120,112,101,99,116,101,100,45,100,97,115,104,101,115,45,111,114,45,100,111,99,116,121,112,101]
noncomputable abbrev cM(x:SQ):D:=fH l8 (st x)
noncomputable abbrev f8(x:SQ):D:=fH tq (st x)
section
variable {tk:Tk}{rb a w r n:SQ}
noncomputable def Nr:SQ:=[32,10,9]
noncomputable def sy:SQ:=[97,66,122,81]
noncomputable def NS:SQ:=[97,62,47,66,33,49,63,44,122,81,201,160]
noncomputable def P2:SQ:=[60,32,10,9,49,44,0,201,160]
noncomputable def NG:SQ:=[60,47,32,33,49,63,10,44,0,9,201,160]
noncomputable def GY:SQ:=[60,97,66,33,49,63,44,122,81,201,160]
theorem Ms{n:Nat}{H:Hp}{x y:SQ}(h1:6<=n)(e1:H[n]?=some (c2 7 x))(e2:H[n+1]?=some (c2 1 y)):EvL H [.r n,.r (n+1)] [cM x,f8 y]:=.cons (.told h1 e1) (.cons (.text (Nat.le_succ_of_le h1) e2) .nil)
theorem r_d0:Row4 304 tk rb (0::a) 304 tk (0::rb) a [cM mV,f8 [0]]:=gi none ⟨6,304,_,[.r 7,.r 8],[c2 7 mV,c2 1 [0]],true⟩ ⟨fun _=>by kernel_rfl,.inl ⟨rfl,rfl⟩,rfl⟩ trivial fun _ _ _ _ _ _=>Ms (by decide) rfl rfl
theorem r_dl:Row4 304 tk rb (60::a) 353 tk (60::rb) a []:=gi none ⟨6,353,_,[],[],true⟩ ⟨fun _=>by kernel_rfl,.inl ⟨rfl,rfl⟩,rfl⟩ trivial fun _ _ _ _ _ _=>.nil
theorem Pk(h:dH [9,10,12,32,13] true (w++r)=w)(hl:w.length<=1000):∀x∈Nr,Row4 304 tk rb (x::(w++r)) 304 tk (w.reverse++x::rb) r [fH gj (st (x::w))]:=
 rm (ob:=fun x=>(True/\w++r=w++r/\dH [9,10,12,32,13] true (w++r)=w)/\[x].length+w.length<=16777216) (some (w,r)) (fun x=>⟨6,304,_,[.r 7],[c2 2 (x::w),none],false⟩) ⟨fun _=>by kernel_rfl,fun _=>⟨rfl,.inl ⟨rfl,rfl⟩,rfl⟩⟩ (fun x=>⟨⟨trivial,rfl,h⟩,by simp;omega⟩) fun _ _ _ _ _ _ _=>.cons (.blank (by decide) rfl) .nil
theorem Pl(h:dH [38,60,0] false (w++r)=w)(hl:w.length<=1000):∀x∈NS,Row4 304 tk rb (x::(w++r)) 304 tk (w.reverse++x::rb) r [f8 (x::w)]:=
 rm (ob:=fun x=>(True/\w++r=w++r/\dH [38,60,0] false (w++r)=w)/\[x].length+w.length<=16777216) (some (w,r)) (fun x=>⟨6,304,_,[.r 8],[none,c2 1 (x::w)],false⟩) ⟨fun _=>by kernel_rfl,fun _=>⟨rfl,.inl ⟨rfl,rfl⟩,rfl⟩⟩ (fun x=>⟨⟨trivial,rfl,h⟩,by simp;omega⟩) fun _ _ _ _ _ _ _=>.cons (.text (by decide) rfl) .nil
theorem r_t1:Row4 353 tk rb (33::a) 605 tk (33::rb) a []:=gi none ⟨6,605,_,[],[],true⟩ ⟨fun _=>by kernel_rfl,.inl ⟨rfl,rfl⟩,rfl⟩ trivial fun _ _ _ _ _ _=>.nil
theorem r_ts:Row4 353 tk rb (47::a) 360 tk (47::rb) a []:=gi none ⟨6,360,_,[],[],true⟩ ⟨fun _=>by kernel_rfl,.inl ⟨rfl,rfl⟩,rfl⟩ trivial fun _ _ _ _ _ _=>.nil
theorem Ps:∀x∈sy,Row4 353 tk rb (x::a) 367 (.s0 [x]) (x::rb) a []:=rm (ob:=fun _=>True) none (fun x=>⟨7,367,rW tk,[],[rW (.s0 [x])],true⟩) ⟨fun _=>by kernel_rfl,fun _=>⟨rfl,.inr ⟨0,rfl,rfl⟩,rfl⟩⟩ (fun _=>trivial) fun _ _ _ _ _ _ _=>.nil
theorem r_tg:Row4 353 tk rb (62::a) 304 tk (62::rb) a [cM IF,f8 [60,62]]:=gi none ⟨6,304,_,[.r 7,.r 8],[c2 7 IF,c2 1 [60,62]],true⟩ ⟨fun _=>by kernel_rfl,.inl ⟨rfl,rfl⟩,rfl⟩ trivial fun _ _ _ _ _ _=>Ms (by decide) rfl rfl
theorem r_tq:Row4 353 tk rb (63::a) 598 tk rb (63::a) [cM eQ]:=gi (ob:=True/\[63]=[63]) none ⟨6,598,_,[.r 7],[c2 7 eQ],false⟩ ⟨fun _=>by kernel_rfl,.inl ⟨rfl,rfl⟩,rfl⟩ ⟨trivial,rfl⟩ fun _ _ _ _ _ _=>.cons (.told (by decide) rfl) .nil
theorem Pt:∀x∈P2,Row4 353 tk rb (x::a) 304 tk rb (x::a) [cM rX,f8 [60]]:=rm (ob:=fun x=>True/\[x]=[x]) none (fun x=>⟨6,304,_,[.r 7,.r 8],[c2 7 rX,c2 1 [60]],false⟩) ⟨fun _=>by kernel_rfl,fun _=>⟨rfl,.inl ⟨rfl,rfl⟩,rfl⟩⟩ (fun x=>⟨trivial,rfl⟩) fun _ _ _ _ _ _ _=>Ms (by decide) rfl rfl
theorem r_te:Row4 353 tk rb [] 304 tk rb [] [cM rX,f8 [60]]:=gi none ⟨6,304,_,[.r 7,.r 8],[c2 7 rX,c2 1 [60]],false⟩ ⟨fun _=>by kernel_rfl,.inl ⟨rfl,rfl⟩,rfl⟩ trivial fun _ _ _ _ _ _=>Ms (by decide) rfl rfl
theorem Pg:∀x∈sy,Row4 360 tk rb (x::a) 367 (.e [x]) (x::rb) a []:=rm (ob:=fun _=>True) none (fun x=>⟨7,367,rW tk,[],[rW (.e [x])],true⟩) ⟨fun _=>by kernel_rfl,fun _=>⟨rfl,.inr ⟨0,rfl,rfl⟩,rfl⟩⟩ (fun _=>trivial) fun _ _ _ _ _ _ _=>.nil
theorem r_cg:Row4 360 tk rb (62::a) 304 tk (62::rb) a [cM IE]:=gi none ⟨6,304,_,[.r 7],[c2 7 IE],true⟩ ⟨fun _=>by kernel_rfl,.inl ⟨rfl,rfl⟩,rfl⟩ trivial fun _ _ _ _ _ _=>.cons (.told (by decide) rfl) .nil
theorem r_ce:Row4 360 tk rb [] 304 tk rb [] [cM ID,f8 [60,47]]:=gi none ⟨6,304,_,[.r 7,.r 8],[c2 7 ID,c2 1 [60,47]],false⟩ ⟨fun _=>by kernel_rfl,.inl ⟨rfl,rfl⟩,rfl⟩ trivial fun _ _ _ _ _ _=>Ms (by decide) rfl rfl
theorem Pj:∀x∈NG,Row4 360 tk rb (x::a) 598 tk rb (x::a) [cM An]:=rm (ob:=fun x=>True/\[x]=[x]) none (fun x=>⟨6,598,_,[.r 7],[some (.dict [(51,.d (.int 7)),(33,.d (st An)),(112,.r 8)]),some (.dict [(33,.d (st [x]))])],false⟩) ⟨fun _=>by kernel_rfl,fun _=>⟨rfl,.inl ⟨rfl,rfl⟩,rfl⟩⟩ (fun x=>⟨trivial,rfl⟩) fun _ _ _ _ _ _ _=>.cons (.told (by decide) rfl) .nil
noncomputable def Ac(b:Bool)(n:SQ):Tk:=if b then .e n else .s0 n
noncomputable def Qh(b:Bool)(n:SQ):Tk:=if b then .e n else .s1 n
noncomputable def LQ(b:Bool):SQ:=if b then lr else eM
theorem Pp(b:Bool)(hn:n.length<=1000):∀x∈GY,Row4 367 (Ac b n) rb (x::a) 367 (Ac b (n++[x])) (x::rb) a []:=by
 cases b<;>exact rm (ob:=fun x=>True/\n.length+[x].length<=16777216) none (fun x=>⟨6,367,_,[],[],true⟩) ⟨fun _=>by kernel_rfl,fun _=>⟨rfl,.inl ⟨rfl,rfl⟩,rfl⟩⟩ (fun x=>⟨trivial,by simp;omega⟩) fun _ _ _ _ _ _ _=>.nil
theorem Po(b:Bool)(hn:n.length<=1000):Row4 367 (Ac b n) rb (0::a) 367 (Ac b (n++[65533])) (0::rb) a [cM mV]:=by
 cases b<;>exact gi (ob:=True/\n.length+[65533].length<=16777216) none ⟨6,367,_,[.r 7],[c2 7 mV],true⟩ ⟨fun _=>by kernel_rfl,.inl ⟨rfl,rfl⟩,rfl⟩ ⟨trivial,by simp;omega⟩ fun _ _ _ _ _ _=>.cons (.told (by decide) rfl) .nil
theorem Pq(b:Bool):Row4 367 (Ac b n) rb [] 304 (Ac b n) rb [] [cM MO]:=by
 cases b<;>exact gi none ⟨6,304,_,[.r 7],[c2 7 MO],false⟩ ⟨fun _=>by kernel_rfl,.inl ⟨rfl,rfl⟩,rfl⟩ trivial fun _ _ _ _ _ _=>.cons (.told (by decide) rfl) .nil
theorem Pr(b:Bool)(hk:∀y∈n,Aq y)(hn:n.length<=1000):Row4 367 (Ac b n) rb (62::a) 304 (Qh b (lm n)) (62::rb) a [BS (LQ b) (st (lm n))]:=by
 cases b
 ·exact gi (ob:=True/\(∀y∈n,Aq y)/\n.length<=1000) none ⟨6,304,_,[.r 6],[],true⟩ ⟨fun _=>by kernel_rfl,.inl ⟨rfl,rfl⟩,rfl⟩ ⟨trivial,hk,hn⟩ fun _ _ _ _ _ _=>.cons (.stag (by decide) rfl) .nil
 ·exact gi (ob:=True/\(∀y∈n,Aq y)/\n.length<=1000) none ⟨6,304,_,[.r 6],[],true⟩ ⟨fun _=>by kernel_rfl,.inl ⟨rfl,rfl⟩,rfl⟩ ⟨trivial,hk,hn⟩ fun _ _ _ _ _ _=>.cons (.etag (by decide) rfl) .nil
theorem Pd(h:dH [62] false (w++[])=w)(hl:w.length<=1000):Row4 598 tk rb (w++[]) 304 tk (w.reverse++rb) [] [fH dU (st (bU w [0] [65533]))]:=gi (ob:=(True/\w++[]=w++[]/\dH [62] false (w++[])=w)/\w.length+(w.length+1) * [65533].length<=16777216) (some (w,[])) ⟨6,304,_,[.r 8],[none,some (.dict [(51,.d (.int 6)),(33,.d (st (bU w [0] [65533])))])],false⟩ ⟨fun _=>by kernel_rfl,.inl ⟨rfl,rfl⟩,rfl⟩ ⟨⟨trivial,rfl,h⟩,by simp;omega⟩ fun _ _ _ _ _ _=>.cons (.note (by decide) rfl) .nil
theorem Pe(h:dH [62] false (w++62::a)=w)(hl:w.length<=1000):Row4 598 tk rb (w++62::a) 304 tk (62::(w.reverse++rb)) a [fH dU (st (bU w [0] [65533]))]:=gi (ob:=(True/\w++62::a=w++62::a/\dH [62] false (w++62::a)=w)/\w.length+(w.length+1) * [65533].length<=16777216) (some (w,62::a)) ⟨6,304,_,[.r 8],[none,some (.dict [(51,.d (.int 6)),(33,.d (st (bU w [0] [65533])))])],true⟩ ⟨fun _=>by kernel_rfl,.inl ⟨rfl,rfl⟩,rfl⟩ ⟨⟨trivial,rfl,h⟩,by simp;omega⟩ fun _ _ _ _ _ _=>.cons (.note (by decide) rfl) .nil
theorem LF:∀got,yX 2 304 [.r 0] (tr 304 got tk rb [] none)=some (.d (.bool false),wN ⟨6,304,rW tk,[],[],false⟩ got tk rb [] True):=by intro got;kernel_rfl
end
section
variable {c:Cx}{r:Nat}
inductive gq(c:Cx)(r:Nat)(f:Addr)(tk:Tk)(rb a:SQ)(f':Addr)(tk':Tk)(rb' a':SQ)(its:List D):Prop
 |mk (b:DD) (hf:b.f=f') (run:∀got,Iz c r f [.r 0] (tr f got tk rb a none) vT (wN b got tk' rb' a' True)) (hk:IZ b tk') (ev:MK b its) (hq:b.qs.length<=9):gq c r f tk rb a f' tk' rb' a' its
theorem Row4.step(e:aY c){f f':Addr}{tk tk':Tk}{rb a rb' a':SQ}{its:List D}(h:Row4 f tk rb a f' tk' rb' a' its):gq c (r+7) f tk rb a f' tk' rb' a' its:=by
 obtain⟨cut,b,ob,hf,hob,run,hk,ev,hq⟩:=h
 refine .mk b hf (fun got s R=>?_) hk ev hq
 exact ((LO (r:=r) e 2 f [.r 0] _ vT _ (run got) hob).2 s (R.same rfl rfl rfl rfl)).mono fun y H' ⟨q1,s',q2,q3⟩=>⟨q1,s',q2,q3.same rfl rfl rfl rfl⟩
theorem Iy{T:aW}{x:X}{m:aD}{H:Hp}{Q:SV}(h:wX c T r x m H fun v H1=>ok (dZ [v]) fun ds=>ds.length<=16777216/\Q (.r H1.length) (H1++[some (.dlist ds)])):wX c T r (.lst 1 (.cons x .nil)) m H Q:=h
noncomputable abbrev j9(got:Option Cell)(tk:Tk)(rb a:SQ)(qs:List V)(x:Hp):Hp:=(wN ⟨6,605,rW tk,qs,x,false⟩ got tk rb a True).H
noncomputable abbrev Fq(got:Option Cell)(tk:Tk)(rb a:SQ):As:=wN ⟨6,598,rW tk,[.r 8],[some (.dlist []),c2 7 qD],false⟩ got tk rb a True
theorem ES(e:aY c){got:Option Cell}{tk:Tk}{rb a rb1 a1:SQ}{f1:Bool}{ob:Prop}(ch:Option Nat)(hch:∀y,ch=some y->y≠45/\y≠100/\y≠68/\y≠91)(hob:ob)
  (h1:∀H,wu ⟨H,rb,a,false,none,True⟩=(.d (rR ch),⟨H,rb1,a1,f1,none,True⟩))
  (h2:∀H,Il (.d (rR ch)) ⟨H,rb1,a1,f1,none,True⟩=some (.d .none,⟨H,rb,a,false,none,ob⟩)) :
  Iz c (r+6) 605 [.r 0] (tr 605 got tk rb a none) vT (Fq got tk rb a):=by
 intro s R
 refine cF e ?_
 refine df (Iy (ja (ov:=.r 1) (by rfl) (p:=(133,1)) (by rfl) (by rfl) ((ya e (h1 _)).2 s R) ?_))
 rintro _ _ ⟨rfl,s1,rfl,R1⟩
 refine av (x:=[rR ch]) rfl ⟨Nat.le_of_ble_eq_true rfl,?_⟩
 have pp:dk TT (.cons (.pop (.v 77) false) .nil) [(2,.r 0),(77,.r 7)] (br s1 (j9 got tk rb1 a1 [.r 8] [some (.dlist [rR ch]),c2 7 qD]))=some ([.d (rR ch)],br s1 (j9 got tk rb1 a1 [.r 8] [some (.dlist []),c2 7 qD])):=rfl
 have loop:wS c TT (r+5) 7 (sT (sT (sT bA))) [(2,.r 0),(77,.r 7)] (br s1 (j9 got tk rb1 a1 [.r 8] [some (.dlist [rR ch]),c2 7 qD])) (ip 7 (fun y H'=>y=vT/\∃s',H'=br s' (Fq got tk rb a).H/\Rs (Fq got tk rb a) s')):=by
  refine kE ⟨2,?_⟩
  refine ev (v:=.r 7) (by rfl) (av (x:=true) (by rfl) ?_)
  show (if true=true then _ else _)
  rw[au rfl]
  refine y0 (ja (ov:=.r 1) (by rfl) (p:=(163,1)) (by rfl) pp ((Eg e (A:=⟨j9 got tk rb1 a1 [.r 8] [some (.dlist []),c2 7 qD],rb1,a1,f1,none,True⟩) (h2 _) hob).2 s1 ⟨⟨_,_⟩,R1.iv,R1.fr⟩) ?_)
  rintro _ _ ⟨rfl,s2,rfl,R2⟩
  refine aF ⟨_,_,.inr (.inl ⟨rfl,fun _ _ h=>h⟩),?_⟩
  refine ev (v:=.r 7) (by rfl) (av (x:=false) (by rfl) ?_)
  show (if false=true then _ else _)
  rw[ar (by decide)]
  refine az (aK (v:=.m 598 0) (by rfl) (by rfl) (cm (v:=vT) rfl (by rfl) (bg (y:=vT) (by exact Nat.le_of_ble_eq_true rfl) (by rfl) ⟨rfl,s2,rfl,⟨⟨_,_⟩,R2.iv,R2.fr⟩⟩)))
 rcases ch with _|y
 ·refine tg (by rfl) ?_
  refine be (v:=.d (.bool false)) (by rfl) (by rfl) ?_
  refine be (v:=.d (.bool false)) (by rfl) (by rfl) ?_
  refine aF (az (aF (az ?_)))
  exact iY (v:=.d .none) (by rfl) loop
 ·obtain⟨y1,y2,y3,y4⟩:=hch y rfl
  refine tg (by rfl) ?_
  have e1:bB .eq (st [y]) (st [45])=some false:=by (simpa! only [y1])
  have e2:bB .mem (st [y]) (.tuple [st [100],st [68]])=some false:=(sF y [100,68]).trans (congrArg some (decide_eq_false (by simp[y2,y3])))
  have q:∀o t w,aO TT t [(2,.r 0),(77,.r 7)] (br s1 (j9 got tk rb1 a1 [] [some (.dlist [st [y]])]))=some (.d w,(br s1 (j9 got tk rb1 a1 [] [some (.dlist [st [y]])])))->bB o (st [y]) w=some false->cw TT (br s1 (j9 got tk rb1 a1 [] [some (.dlist [st [y]])])) o (.d (st [y])) (.d w)=bB o (st [y]) w ->
    aO TT (.cmp (.ix (.v 77) (.neg (.c (.int 1)))) o t) [(2,.r 0),(77,.r 7)] (br s1 (j9 got tk rb1 a1 [] [some (.dlist [st [y]])]))=some (.d (.bool false),br s1 (j9 got tk rb1 a1 [] [some (.dlist [st [y]])])):=by
   intro o t w h1 h2 h3
   have i1:aO TT (.ix (.v 77) (.neg (.c (.int 1)))) [(2,.r 0),(77,.r 7)] (br s1 (j9 got tk rb1 a1 [] [some (.dlist [st [y]])]))=some (.d (st [y]),br s1 (j9 got tk rb1 a1 [] [some (.dlist [st [y]])])):=rfl
   exact bo i1 (bo h1 (by show (cw TT _ o _ _).map _ = _;rw[h3,h2];rfl))
  refine be (v:=.d (.bool false)) (q .eq _ _ rfl e1 rfl) (by rfl) ?_
  refine be (v:=.d (.bool false)) (q .mem _ _ rfl e2 rfl) (by rfl) ?_
  refine aF (az (aF (az ?_)))
  exact iY (v:=.d .none) (by rfl) loop
theorem Mc(e:aY c){tk:Tk}{rb a:SQ}{y:Nat}(hy:y≠45/\y≠100/\y≠68/\y≠91):gq c (r+6) 605 tk rb (y::a) 598 tk rb (y::a) [cM qD]:=
 .mk _ rfl (fun got=>ES e (some y) (fun _ q=>aj q▸hy) (rb1:=y::rb) (a1:=a) (f1:=true) (ob:=True/\[y]=[y]) ⟨trivial,rfl⟩ (fun _=>rfl) fun _=>rfl) (.inl ⟨rfl,rfl⟩) (fun _ _ _ _ _ _=>.cons (.told (by decide) rfl) .nil) (Nat.le_of_ble_eq_true rfl)
theorem Md(e:aY c){tk:Tk}{rb:SQ}:gq c (r+6) 605 tk rb [] 598 tk rb [] [cM qD]:=
 .mk _ rfl (fun got=>ES e none (fun _ q=>nope q) (rb1:=rb) (a1:=[]) (f1:=false) (ob:=True) trivial (fun _=>rfl) fun _=>rfl) (.inl ⟨rfl,rfl⟩) (fun _ _ _ _ _ _=>.cons (.told (by decide) rfl) .nil) (Nat.le_of_ble_eq_true rfl)
end
section
variable {c:Cx}{r:Nat}
def IR(P:Nat->Cell->Prop)(k:Nat):Hp->Prop
 |[]=>True
 |o::r=>(∀cl,o=some cl->P k cl)/\IR P (k+1) r
theorem Qi{P:Nat->Cell->Prop}{H:Hp}{k:Nat}(h:IR P k H){n:Nat}{cl:Cell}(e:H[n]?=some (some cl)):P (k+n) cl:=by
 induction H generalizing k n with
 |nil=>nomatch e
 |cons o r ih=>
  cases n with
  |zero=>exact h.1 cl (aj e)
  |succ n=>exact (Nat.succ_add_eq_add_succ k n)▸ih h.2 e
theorem jl{P:Cell->Prop}{c:Cell}(h:P c):∀cl,some c=some cl->P cl:=fun _ e=>aj e▸h
noncomputable def Db(k n:Nat):Nat:=if n=6 then k else n
theorem HM{k:Nat}(hk:6<=k):∀n n',n≠n'->n<7->n'<7->Db k n≠Db k n':=by
 intro n n' ne h h'
 unfold Db
 split<;>split<;>omega
theorem JC(σ:Nat->Nat)(n:Nat)(tk:Tk)(cl:Cell)(h:rW tk=some cl):zk σ cl=cl/\pL n cl=true:=by
 cases tk<;>cases h<;>exact⟨rfl,rfl⟩
def IY(f:Addr)(tk:Tk)(rb a:SQ)(got:List D)(H:Hp):Prop:=∃s,Vw 6 mG (br s (tr f (some (.dlist got)) tk rb a none).H) mG H/\e6 (rb.reverse++a) rb.length s
theorem Gb{b:DD}{s:Sm}{tk:Tk}{rb a:SQ}{got:List D}(hk:IZ b tk):Vw 6 mG (br s (tr b.f (some (.dlist got)) tk rb a none).H) mG (br s (wN { b with qs:=[] } (some (.dlist got)) tk rb a True).H):=by
 obtain⟨k,f,ct,qs,cells,fr⟩:=b
 have hk6:6<=k/\(br s (wN ⟨k,f,ct,[],cells,fr⟩ (some (.dlist got)) tk rb a True).H)[k]?=some (rW tk):=by
  rcases hk with ⟨q1,q2⟩|⟨j,q1,q2⟩
  ·have q1:k=6:=q1
   have q2:ct=rW tk:=q2
   rw[q1,q2];exact⟨ao _,rfl⟩
  ·have q1:k=7+j:=q1
   have q2:cells[j]?=some (rW tk):=q2
   rw[q1,←q2,Nat.add_comm];exact⟨by omega,rfl⟩
 obtain⟨hk6,hct⟩:=hk6
 have hcu:kG (Db k) (oB 6 tk)=oB k tk/\lq 7 (oB 6 tk)=true:=by cases tk<;>exact⟨rfl,rfl⟩
 refine .inl ⟨Db k,fun n hn=>ar (by omega),fun i x h=>?_,fun n cl e=>?_,fun n n' _ _ ne e e'=>HM hk6 n n' ne (oh e) (oh e'),by exact Nat.le_of_ble_eq_true rfl⟩
 ·rw[a6] at h
  by_cases q:(2:Nat)=i
  ·rw[au q] at h;cases h;subst q;exact⟨rfl,rfl⟩
  ·rw[ar q] at h;exact nope h
 refine (Nat.zero_add n▸Qi (P:=fun n cl=>(br s (wN ⟨k,f,ct,[],cells,fr⟩ (some (.dlist got)) tk rb a True).H)[Db k n]?=some (some (zk (Db k) cl))/\pL 7 cl=true) ?_ e :)
 refine And.intro (jl ⟨?_,?_⟩) (And.intro (jl ⟨rfl,rfl⟩) (And.intro (jl ⟨rfl,rfl⟩) (And.intro (jl ⟨rfl,rfl⟩) (And.intro (jl ⟨rfl,rfl⟩) (And.intro (jl ⟨rfl,rfl⟩) (And.intro (fun cl e=>?_) trivial))))))
 ·show some (nT (.m f 0) (oB k tk) (.r 5) [])=some (some (.inst 762 ((21,.r 1)::(41,.d .none)::(42,.d (.bool false))::(43,.d (.list []))::(44,.m f 0)::(46,.d (.bool false))::(47,kG (Db k) (oB 6 tk))::(50,.r 5)::[])))
  rw[hcu.1]
 ·show (true&&(true&&(true&&(true&&(true&&(true&&(lq 7 (oB 6 tk)&&(true&&true))))))))=true
  rw[hcu.2];rfl
 ·obtain⟨c1,c2⟩:=JC (Db k) 7 tk cl e
  refine⟨?_,c2⟩
  rw[c1,←e];exact hct
theorem A7{M:SQ}{pos:Nat}{s:Sm}(I:e6 M pos s):s.er=0:=by
 rw[I.er]
 refine List.count_eq_zero.mpr fun h=>?_
 have:=I.sg 1 (List.mem_of_mem_take h)
 revert this
 unfold ey;decide
theorem Gd{A:Addr}{Qe:aD->Hp->Prop}{script text:D}{f f':Addr}{tk tk':Tk}{rb a rb' a':SQ}{its:List D}(st:gq c r f tk rb a f' tk' rb' a' its)(hf:TT.fn f=true){got:List D}(hl:got.length+its.length<=900) :
  ∃j,∀n,(∀H',IY f' tk' rb' a' (got++its) H'->gW c r A Qe n false (mL script text) H')->∀H,IY f tk rb a got H->gW c r A Qe (n+j) false (mL script text) H:=by
 obtain⟨b,rfl,run,hk,hev,hq⟩:=st
 refine⟨b.qs.length+2,fun n k H hd=>?_⟩
 obtain⟨s,V,I⟩:=hd
 show gW c r A Qe (n+b.qs.length+1+1) false (mL script text) _
 refine⟨_,_,V,?_⟩
 refine ja (ov:=.r 0) (H1:=br s (tr f (some (.dlist got)) tk rb a none).H) (by rfl) (p:=(f,0)) ?_ (by rfl) (run (some (.dlist got)) s ⟨⟨_,_⟩,I,fun q=>nof2 q⟩) ?_
 ·show (if TT.fn f=true then some (f,0) else none) = _
  rw[au hf]
 rintro _ _ ⟨rfl,s1,rfl,R1⟩
 refine av (x:=true) (by rfl) ?_
 rw[au rfl]
 have e0:=A7 R1.iv
 refine ev (v:=.r 3) (H':=br s1 (wN b (some (.dlist got)) tk' rb' a' True).H) (by rfl) ⟨?_,?_⟩
 ·show aN (Hs _ s1 _) (.r 3) = _
  unfold aN
  show (if (List.replicate s1.er Gg).length<=16777216 then some (!(List.replicate s1.er Gg).isEmpty) else none) = _
  rw[e0];rfl
 refine BF (hev _ _ _ _ _ _) rfl rfl rfl hl (ak hq (by decide)) (k _ ⟨s1,Gb hk,R1.iv⟩)
inductive Run4(c:Cx)(r:Nat):Addr->Tk->SQ->SQ->Addr->Tk->SQ->SQ->List D->Prop
 |nil (f:Addr) (tk:Tk) (rb a:SQ):Run4 c r f tk rb a f tk rb a []
 |cons {f f1 f2:Addr}{tk tk1 tk2:Tk}{rb a rb1 a1 rb2 a2:SQ}{its js:List D} (st:gq c r f tk rb a f1 tk1 rb1 a1 its) (hf:TT.fn f=true) (t:Run4 c r f1 tk1 rb1 a1 f2 tk2 rb2 a2 js):Run4 c r f tk rb a f2 tk2 rb2 a2 (its++js)
theorem Run4.app{f f1 f2:Addr}{tk tk1 tk2:Tk}{rb a rb1 a1 rb2 a2:SQ}{its js:List D}(x:Run4 c r f tk rb a f1 tk1 rb1 a1 its)(y:Run4 c r f1 tk1 rb1 a1 f2 tk2 rb2 a2 js):Run4 c r f tk rb a f2 tk2 rb2 a2 (its++js):=by
 induction x with
 |nil=>exact y
 |cons st hf _ ih=>rw[af];exact .cons st hf (ih y)
theorem J1{A:Addr}{Qe:aD->Hp->Prop}{script text:D}{f f':Addr}{tk tk':Tk}{rb a rb' a':SQ}{its:List D}(h:Run4 c r f tk rb a f' tk' rb' a' its):∀{got:List D},got.length+its.length<=900 ->
  ∃j,∀n,(∀H',IY f' tk' rb' a' (got++its) H'->gW c r A Qe n false (mL script text) H')->∀H,IY f tk rb a got H->gW c r A Qe (n+j) false (mL script text) H:=by
 induction h with
 |nil=>intro got _;exact⟨0,fun n k H hd=>k H (by rw[List.append_nil];exact hd)⟩
 |@cons f f1 f2 tk tk1 tk2 rb a rb1 a1 rb2 a2 its js st hf _ ih=>
  intro got hl
  rw[ae] at hl
  obtain⟨j1,k1⟩:=Gd (A:=A) (Qe:=Qe) (script:=script) (text:=text) st hf (got:=got) (by omega)
  obtain⟨j2,k2⟩:=@ih (got++its) (by rw[ae];omega)
  exact⟨j2+j1,fun n k H hd=>(Nat.add_assoc n j2 j1)▸k1 (n+j2) (k2 n fun H' h=>k H' (by rw[←af];exact h)) H hd⟩
theorem J0(e:aY c){A:Addr}{Qe:aD->Hp->Prop}{script text:D}{tk:Tk}{rb:SQ}{got:List D}{H:Hp}(hd:IY 304 tk rb [] got H)(k:∀s,e6 rb.reverse rb.length s->Qe (mL script text) (br s (tr 304 (some (.dlist got)) tk rb [] none).H)) :
  gW c (r+7) A Qe 1 false (mL script text) H:=by
 obtain⟨s,V,I⟩:=hd
 refine⟨_,_,V,?_⟩
 refine ja (ov:=.r 0) (H1:=br s (tr 304 (some (.dlist got)) tk rb [] none).H) (by rfl) (p:=(304,0)) (by rfl) (by rfl) ((LO (r:=r) e 2 304 [.r 0] _ _ _ (LF (some (.dlist got))) trivial).2 s ⟨⟨_,_⟩,I,fun q=>nof2 q⟩) ?_
 rintro _ _ ⟨rfl,s1,rfl,R1⟩
 refine av (x:=false) (by rfl) ?_
 rw[ar (by decide)]
 have I1:=R1.iv
 refine k s1 ?_
 have e:rb.reverse++[]=rb.reverse:=List.append_nil _
 rw[←e];exact I1
theorem Gc{s:Sm}{a:SQ}:Vw 6 mG (br s (tr 304 (some (.dlist [])) .no [] a none).H) mG (Hs (nT (.m 304 0) (.d .none) (.r 5) []) s [some (.dlist []),cq []]):=by
 refine .inl ⟨id,fun n hn=>rfl,fun i x h=>?_,fun n cl e=>?_,fun n n' _ _ ne e e'=>ne,by exact Nat.le_of_ble_eq_true rfl⟩
 ·rw[a6] at h
  by_cases q:(2:Nat)=i
  ·rw[au q] at h;cases h;subst q;exact⟨rfl,rfl⟩
  ·rw[ar q] at h;exact nope h
 refine (Nat.zero_add n▸Qi (P:=fun n cl=>(Hs (nT (.m 304 0) (.d .none) (.r 5) []) s [some (.dlist []),cq []])[n]?=some (some (zk id cl))/\pL 7 cl=true) ?_ e :)
 exact And.intro (jl ⟨rfl,rfl⟩) (And.intro (jl ⟨rfl,rfl⟩) (And.intro (jl ⟨rfl,rfl⟩) (And.intro (jl ⟨rfl,rfl⟩) (And.intro (jl ⟨rfl,rfl⟩) (And.intro (jl ⟨rfl,rfl⟩) (And.intro (fun cl e=>nope e) trivial))))))
end
theorem G5:∀(t:SQ) (b:Bool),13∉c5 b t:=by
 intro t
 induction t with
 |nil=>intro b h;nomatch h
 |cons c r ihr=>
  intro b h
  rw[bH] at h
  split at h
  ·exact ihr _ h
  ·split at h
   ·rcases List.mem_cons.mp h with e|h
    ·nomatch e
    ·exact ihr _ h
   ·rcases List.mem_cons.mp h with e|h
    ·rename_i q;exact q e.symm
    ·exact ihr _ h
theorem Ol{T:SQ}(hl:T.length<=1000)(hok:∀x∈T,ey x):e6 (c5 false T) 0 ⟨T,0,[],0,0,0,none,0⟩:=
 ⟨hl,hok,rfl,.inl rfl,ao _,ao _,rfl,rfl,rfl,rfl,Nat.zero_le _,Nat.zero_le _,Nat.zero_le _⟩
theorem G6{t:SQ}(h:∀x∈t,ey x):∀x∈c5 false t,ey x:=fun x hx=>by
 rcases sL _ _ _ hx with e|e
 ·rw[e];unfold ey;simp
 ·exact h x e
section
variable {c:Cx}{r k:Nat}{T:aW}{m:aD}{H:Hp}{K:SV}
theorem KT(P:Params):(makesIn (Mine.H.K P) 73&&makesIn (Mine.H.K P) 166&&makesIn (Mine.H.K P) 762&&fc (Mine.H.K P) 73&&fc (Mine.H.K P) 166&&fc (Mine.H.K P) 762)=true:=by kernel_rfl
theorem ng(P:Params):findIn (Mine.H.K P) (.ref 73) "__init__" = some (some (.ref 63))/\findIn (Mine.H.K P) (.ref 166) "__init__" = some (some (.ref 98))/\findIn (Mine.H.K P) (.ref 762) "__init__" = some (some (.ref 261)):=⟨by kernel_rfl,by kernel_rfl,by kernel_rfl⟩
theorem yi(P:Params):typeIn (Mine.H.K P) (.ref 63)=some (.type "function")/\typeIn (Mine.H.K P) (.ref 98)=some (.type "function")/\typeIn (Mine.H.K P) (.ref 261)=some (.type "function"):=⟨by kernel_rfl,by kernel_rfl,by kernel_rfl⟩
theorem qW(e:aY c):(makesIn c.K 73=true/\makesIn c.K 166=true/\makesIn c.K 762=true)/\fc c.K 73=true/\fc c.K 166=true/\fc c.K 762=true:=by
 have:=KT c.w.params
 rw[←e.K] at this
 simp only[Bool.and_eq_true] at this
 obtain⟨⟨⟨⟨⟨a,b⟩,d⟩,f⟩,g⟩,h⟩:=this
 exact⟨⟨a,b,d⟩,f,g,h⟩
theorem Ah(e:aY c){text:SQ}{a b:Option Cell}:SemCall c (r+2) (.ref 73) [.d (st text)] [a,b] fun y H'=>y=.r 2/\H'=[a,b,AN text 0]:=by
 obtain⟨⟨m1,m2,m3⟩,k1,k2,k3⟩:=qW e
 refine ez m1 (by rw[e.K];exact (ng _).1) (by rw[e.K];exact (yi _).1) k1 ?_
 refine oX e ?_
 refine aK (by trivial) (by trivial) ?_
 refine aK (by trivial) (by trivial) (aF (dF (by simp) ⟨rfl,rfl,rfl⟩))
theorem rC(e:aY c){text:SQ}{a:Option Cell}:SemCall c (r+5) (.ref 166) [.d (st text)] [a] fun y H'=>y=.r 1/\H'=Hs a ⟨text,0,[],0,0,0,none,0⟩ []:=by
 obtain⟨⟨m1,m2,m3⟩,k1,k2,k3⟩:=qW e
 refine ez m2 (by rw[e.K];exact (ng _).2.1) (by rw[e.K];exact (yi _).2.1) k2 ?_
 refine oV e ?_
 refine aK (by trivial) (by trivial) ?_
 refine aK (by trivial) (by trivial) ?_
 have hop:∀b:Option Cell,SemCall c (r+3) (.ref 112) [.r 1,.d (st text)] [a,b] fun y H'=>y=.r 2/\H'=[a,b,AN text 0]:=by
  intro b
  refine gM e ?_
  refine df (cg (by trivial) (by trivial) (Ah e) ?_)
  refine e8 ?_
  refine tg (by trivial) ?_
  exact cm rfl (by trivial) (bg (by simp) (by rfl) ⟨rfl,rfl⟩)
 refine df (ja (by trivial) (by trivial) (by trivial) (hop _) ?_)
 refine e8 ?_
 refine tg (by trivial) ?_
 have hre:∀tx:Option Cell,SemCall c (r+3) (.ref 105) [.r 1] [a,some (.inst 166 [(7,.m 148 1),(9,.d (.list [.int 0])),(10,.r 2)]),tx] fun y H'=>H'=[a,some (.inst 166 [(7,.m 148 1),(9,.d (.list [.int 0])),(10,.r 2),(14,.d (st [])),(15,.d (.int 0)),(16,.d (.int 0)),(17,.r 3),(18,.d (.int 0)),(19,.d (.int 0)),(20,.d .none)]),tx,some (.dlist [])]:=by
  intro tx
  refine mJ e ?_
  refine aK (by trivial) (by trivial) ?_
  refine aK (by trivial) (by trivial) ?_
  refine aK (by trivial) (by trivial) ?_
  refine aK (by trivial) (by trivial) ?_
  refine aK (by trivial) (by trivial) ?_
  refine aK (by trivial) (by trivial) ?_
  exact aK (by trivial) (by trivial) (aF (dF (by simp) rfl))
 refine y0 (ja (by trivial) (by trivial) (by trivial) (hre _) ?_)
 rintro _ _ rfl
 exact aF (dF (by simp) ⟨rfl,rfl,rfl⟩)
abbrev vN(text:SQ):SV:=fun y H'=>y=.r 0/\H'=Hs (some (.inst 762 [(21,.r 1),(41,.d .none),(42,.d (.bool false)),(43,.d (.list [])),(44,.m 304 0),(46,.d (.bool false)),(47,.d .none)])) ⟨text,0,[],0,0,0,none,0⟩ []
theorem DA(e:aY c){text:SQ}:SemCall c (r+7) (.ref 762) [.d (st text)] [] (vN text):=by
 obtain⟨⟨m1,m2,m3⟩,k1,k2,k3⟩:=qW e
 refine ez m3 (by rw[e.K];exact (ng _).2.2) (by rw[e.K];exact (yi _).2.2) k3 ?_
 refine oW e ?_
 refine df (cg (by trivial) (by trivial) (rC e) ?_)
 refine e8 ?_
 refine tg (by trivial) ?_
 refine aK (by trivial) (by trivial) ?_
 refine aK (by trivial) (by trivial) ?_
 refine aK (by trivial) (by trivial) ?_
 refine aK (by trivial) (by trivial) ?_
 refine aK (by trivial) (by trivial) ?_
 exact aK (by trivial) (by trivial) (aF (dF (by simp) ⟨rfl,rfl,rfl⟩))
end
noncomputable def sgs:List (SQ):=[[60],[97],[62],[60,47],[66],[32],[33],[13],[49],[63],[10],[44],[0],[60,122],[81],[9],[201],[160]]
noncomputable def dg(n:Int):SQ:=(sgs[(n.fmod 18).toNat]?).getD []
noncomputable def AX:List (SQ):=[[60,47],[32],[9],[10],[13]]
noncomputable def fZ(b:Bool)(s:SQ):SQ:=if b&&decide (s∈AX) then [44] else s
noncomputable def lj(b:Bool)(s:SQ):Bool:=(s.head?==some 60)||(b&&(s != [62]))
noncomputable def cD:Bool->List Int->SQ
 |_,[]=>[]
 |b,n::ns=>fZ b (dg n)++cD (lj b (fZ b (dg n))) ns
theorem nM:∀p∈sgs,(∀x∈p,ey x)/\p.length<=2:=by unfold ey;decide
theorem nf:∀(b:Bool),∀s∈sgs,fZ b s∈sgs:=by decide
theorem nN(n:Int):k6 (.list (sgs.map st)) (.int (n.fmod 18))=some (st (dg n))/\dg n∈sgs:=by
 have h1:0<=n.fmod 18:=Int.fmod_nonneg_of_pos _ (by decide)
 have h2:n.fmod 18<18:=Int.fmod_lt_of_pos _ (by decide)
 unfold dg
 generalize n.fmod 18=i at h1 h2
 obtain⟨k,rfl⟩:=Int.eq_ofNat_of_zero_le h1
 have hk:k<sgs.length:=Int.ofNat_lt.mp h2
 have e1:(sgs[((k:Nat):Int).toNat]?).getD []=sgs[k]:=by
  show (sgs[k]?).getD [] = _
  rw[List.getElem?_eq_getElem hk];rfl
 rw[e1]
 refine⟨?_,List.getElem_mem hk⟩
 rw[JK _ _ (qk (m:=sgs.length) (by decide) (Nat.le_of_lt hk)),dm (n:=k) (c:=st sgs[k]) (by rw[List.getElem?_map,List.getElem?_eq_getElem hk];rfl)]
theorem zT:∀(ns:List Int) (b:Bool),(cD b ns).length<=2 * ns.length/\∀x∈cD b ns,ey x:=by
 intro ns
 induction ns with
 |nil=>intro b;exact⟨ao _,fun x h=>by cases h⟩
 |cons n ns ih=>
  intro b
  obtain⟨h1,h2⟩:=ih (lj b (fZ b (dg n)))
  obtain⟨k1,k2⟩:=nM _ (nf b _ (nN n).2)
  rw[cD]
  refine⟨by rw[ae,ag];omega,fun x hx=>?_⟩
  rcases List.mem_append.mp hx with h|h
  ·exact k1 x h
  ·exact h2 x h
section
variable {c:Cx}{r k:Nat}{T:aW}{m:aD}{H:Hp}{K:SV}
theorem Ak{a b:X}(h:wX c T r a m H fun o H1=>wX c T r b m H1 fun j H2=>ok (uO T H2 o j) fun x=>K x H2):wX c T r (.ix a b) m H K:=h
theorem Dz(e:aY c):SemCall c (r+1) (.ref 773) [] H fun y H'=>y=.d (.list (sgs.map st))/\H'=H:=
 lc e (cm (v:=.d (.list (sgs.map st))) (H1:=H) rfl (by rfl) (bg (ao _) rfl ⟨rfl,rfl⟩))
theorem vL(e:aY c):SemCall c (r+1) (.ref 780) [] H fun y H'=>y=.d (.list ([[97],[66],[122],[81]].map st))/\H'=H:=
 jn e (cm (v:=.d (.list ([[97],[66],[122],[81]].map st))) (H1:=H) rfl (by rfl) (bg (ao _) rfl ⟨rfl,rfl⟩))
theorem qe(e:aY c):SemCall c (r+1) (.ref 787) [] H fun y H'=>y=.d (.list ([[9],[10],[32]].map st))/\H'=H:=
 jZ e (cm (v:=.d (.list ([[9],[10],[32]].map st))) (H1:=H) rfl (by rfl) (bg (ao _) rfl ⟨rfl,rfl⟩))
noncomputable def P3:S:=sB (sH (sT (sT ke)))
theorem MB{sc n:D}{t:SQ}(b:Bool):∀s∈sgs,aO TT (.and (.v 57) (.cmp (.v 56) .mem (.lst 0 (.cons (.c (st [60,47])) (.cons (.c (st [32])) (.cons (.c (st [9])) (.cons (.c (st [10])) (.cons (.c (st [13])) .nil)))))))) [(52,.d sc),(1,.d (st t)),(57,.d (.bool b)),(53,.d n),(56,.d (st s))] []=some (.d (.bool (b&&decide (s∈AX))),[]):=by
 refine List.map_inj_left.mp ?_
 cases b<;>kernel_rfl
theorem MC{sc n:D}{t:SQ}(b:Bool):∀s∈sgs,aO TT (.or (.cmp (.ix (.v 56) (.c (.int 0))) .eq (.c (st [60]))) (.and (.v 57) (.cmp (.v 56) .ne (.c (st [62]))))) [(52,.d sc),(1,.d (st t)),(57,.d (.bool b)),(53,.d n),(56,.d (st s))] []=some (.d (.bool (lj b s)),[]):=by
 refine List.map_inj_left.mp ?_
 cases b<;>kernel_rfl
theorem Dx(e:aY c){sc:D}{Q:Fl->aD->Hp->Prop}:∀(ns:List Int) (t:SQ) (b:Bool),t.length+2 * ns.length<=1000->(∀b',Q .next [(52,.d sc),(1,.d (st (t++cD b ns))),(57,.d (.bool b'))] []) ->
  il 0 (fun d m H K=>rB c TT (r+1) (.nm 53) (.d d) m H K) (wS c TT (r+1) 0 P3) (ns.map .int) [(52,.d sc),(1,.d (st t)),(57,.d (.bool b))] [] Q:=by
 intro ns
 induction ns with
 |nil=>intro t b _ q;exact D2 (by have:=q b;rw[show cD b []=[] from rfl,List.append_nil] at this;exact this)
 |cons n ns ih=>
  intro t b hl q
  obtain⟨s1,s2⟩:=nN n
  have hmd:=JM n 18 (by decide)
  have s3:=nf b _ s2
  have s4:=(nM _ s3).2
  rw[ag] at hl
  refine qH (tg (m':=[(52,.d sc),(1,.d (st t)),(57,.d (.bool b)),(53,.d (.int n))]) (H':=[]) (by rfl) ?_)
  refine df (Ak (cg (vs:=[]) (H2:=[]) (by rfl) (by rfl) (Dz e) (e8 (ev (v:=.d (.int (n.fmod 18))) (H':=[]) (by (simpa! only [↓hmd])) (av (x:=.d (st (dg n))) (by show (k6 (.list (sgs.map st)) (.int (n.fmod 18))).map V.d = _;rw[s1];rfl) ?_)))))
  refine tg (m':=[(52,.d sc),(1,.d (st t)),(57,.d (.bool b)),(53,.d (.int n)),(56,.d (st (dg n)))]) (H':=[]) (by rfl) ?_
  have rest:∀s∈sgs,fZ b (dg n)=s->wS c TT (r+1) 0 (sT (sT P3)) [(52,.d sc),(1,.d (st t)),(57,.d (.bool b)),(53,.d (.int n)),(56,.d (st s))] [] (mF 0 (fun d m H K=>rB c TT (r+1) (.nm 53) (.d d) m H K) (wS c TT (r+1) 0 P3) (ns.map .int) Q):=by
   intro s hs he
   have hb:t.length+s.length<=16777216:=by have:=(nM _ hs).2;omega
   refine aK (v:=.d (.bool (lj b s))) (H1:=[]) (MC b s hs) (m1:=[(52,.d sc),(1,.d (st t)),(57,.d (.bool (lj b s))),(53,.d (.int n)),(56,.d (st s))]) (H2:=[]) (by rfl) ?_
   refine iX (old:=st t) (d:=st s) (z:=st (t++s)) (H1:=[]) (by rfl) (by rfl) (A3 t s hb) (aF ?_)
   refine jS (m3:=[(52,.d sc),(1,.d (st (t++s))),(57,.d (.bool (lj b s)))]) (fun i x h=>gc (m:=[(52,.d sc),(1,.d (st (t++s))),(57,.d (.bool (lj b s)))]) (r:=[(53,.d (.int n)),(56,.d (st s))]) h) (ih (t++s) _ (by rw[ae];have:=(nM _ hs).2;omega) fun b'=>?_)
   have:=q b'
   rw[show cD b (n::ns)=fZ b (dg n)++cD (lj b (fZ b (dg n))) ns from rfl,he,←af] at this
   exact this
  refine dT (MB b _ s2) (a7 _) (fun hz=>?_) fun hz=>?_
  ·refine aK (v:=.d (st [44])) (H1:=[]) (m1:=[(52,.d sc),(1,.d (st t)),(57,.d (.bool b)),(53,.d (.int n)),(56,.d (st [44]))]) (H2:=[]) (by rfl) (by rfl) (aF (az ?_))
   exact rest [44] (by decide) (by unfold fZ;rw[hz];rfl)
  ·refine aF (az (rest (dg n) s2 ?_))
   unfold fZ;rw[hz];rfl
theorem Iu(e:aY c){L:List Int}(hL:L.length<=63):SemCall c (r+2) (.ref 801) [.d (.list (L.map .int))] [] fun y H'=>y=.d (st (cD false (L.take 24)))/\H'=[]:=by
 refine mI e ?_
 have hl1:(L.map PyData.int).length<=16777216:=by rw[ah];exact bq hL
 have hs0:IP (L.map PyData.int) none (some 24)=(L.take 24).map .int:=by
  have:=HN (L.map PyData.int) 24
  rw[←List.map_take] at this;exact this
 have hsl:EN (.list (L.map .int)) none (some 24)=some (.list ((L.take 24).map .int)):=by rw[JP _ _ _ hl1,hs0]
 have hnl:(L.take 24).length<=24:=by rw[List.length_take];exact Nat.min_le_left _ _
 generalize L.take 24=N at hsl hnl
 refine aK (v:=.d (st [])) (H1:=[]) (m1:=[(52,.d (.list (L.map .int))),(1,.d (st []))]) (H2:=[]) (by rfl) (by rfl) ?_
 refine aK (v:=.d (.bool false)) (H1:=[]) (m1:=[(52,.d (.list (L.map .int))),(1,.d (st [])),(57,.d (.bool false))]) (H2:=[]) (by rfl) (by rfl) ?_
 refine y6 (d:=.list (N.map .int)) (ds:=N.map .int) (H1:=[]) (by (simpa! only [↓hsl])) rfl ?_
 refine Dx e N [] false (by simp;omega) fun b'=>az ?_
 exact cm (v:=.d (st (cD false N))) (H1:=[]) rfl (by rfl) (bg (ao _) rfl ⟨rfl,rfl⟩)
end
noncomputable def iF(a b c:Nat):Nat:=if c=a then b else c
theorem lT{a b:Nat}:∀p:SQ,a∉p->p.map (iF a b)=p:=by
 intro p
 induction p with
 |nil=>intro _;exact rfl
 |cons k r ihr=>
  intro h
  rw[List.map_cons,ihr fun m=>h (ad _ m)]
  unfold iF
  rw[ar fun e=>h (by rw[e];exact List.mem_cons_self ..)]
theorem sr{a b:Nat}:∀P:List (SQ),(∀p∈P,a∉p)->bL [b] P=(bL [a] P).map (iF a b)
 |[],_=>rfl
 |[p],h=>(lT p (h p (List.mem_singleton.mpr rfl))).symm
 |p::q::r,h=>by
  have k:=sr (b:=b) (q::r) fun z hz=>h z (ad _ hz)
  show p++[b]++bL [b] (q::r)=(p++[a]++bL [a] (q::r)).map (iF a b)
  rw[List.map_append,List.map_append,lT p (h p aa),←k]
  show _ = p++[iF a b a]++_
  unfold iF;rw[au rfl]
theorem hJ(x:SQ)(a b:Nat):bU x [a] [b]=x.map (iF a b):=by
 unfold bU
 have h':Txt.replace (Sl x) (Sl [a]) (Sl [b])=Str.join (Sl [b]) (Txt.split (Sl x) (Sl [a])):=StrLaws.replace_one (Sl x) (Sl [b]) a
 rw[h',iN]
 have h2:=StrLaws.split_free (Sl x) a
 rw[sr _ fun p hp=>by
  obtain⟨q,hq,rfl⟩:=List.mem_map.mp hp
  exact h2 q hq]
 have e:(Str.join (Sl [a]) (Txt.split (Sl x) (Sl [a]))).l=(Sl x).l:=by rw[StrLaws.join_split (Sl x) (Sl [a])]
 rw[iN,da] at e
 rw[e]
noncomputable def En(raw:SQ):SQ:=((raw.map (iF 66 98)).map (iF 81 113)).map (iF 0 65533)
noncomputable def fW(kind raw:SQ)(whole:Bool):List D:=List.replicate (raw.count 0) (cM mV)++(if whole=true then [BS kind (st (En raw))] else [cM MO])
theorem AT(k x:Nat)(M:SQ):cU k (x::M)=if x=10 then cU 0 M else cU (k+1) M:=by
 unfold cU
 by_cases h:10∈M
 ·rw[au (ad _ h),au h,au h,bJ,au h,ite_self]
 ·rw[ar h,ar h,bJ,ar h]
  by_cases q:x=10
  ·rw[au (by rw[q];exact List.mem_cons_self ..),au q,au q,Nat.zero_add]
  ·rw[ar (by intro w;rcases List.mem_cons.mp w with w|w;exact q w.symm;exact h w),ar q,ag];omega
theorem Cq(l x:Nat)(M:SQ):cV l (x::M)=if x=10 then cV (l+1) M else cV l M:=by
 unfold cV
 by_cases q:x=10
 ·rw[au q,q,List.count_cons_self];omega
 ·rw[ar q,List.count_cons_of_ne q]
section
variable {c:Cx}{r k:Nat}{T:aW}{m:aD}{H:Hp}{K:SV}
noncomputable def Si:S:=sB (sH (sT (sT kc)))
theorem Cb{tx:D}{Q:Fl->aD->Hp->Prop}{H:Hp}{k0:Nat}:∀(M:SQ) (l k:Nat),Q .next [(1,.d tx),(27,.d (.int ((cV l M:Nat)+1))),(70,.d (.int (cU k M:Nat)))] H ->
  il k0 (fun d m H K=>rB c TT r (.nm 0) (.d d) m H K) (wS c TT r k0 Si) (M.map fun ch=>st [ch]) [(1,.d tx),(27,.d (.int ((l:Nat)+1))),(70,.d (.int (k:Nat)))] H Q:=by
 intro M
 induction M with
 |nil=>intro l k q;exact D2 q
 |cons x M ih=>
  intro l k q
  refine qH (tg (m':=[(1,.d tx),(27,.d (.int ((l:Nat)+1))),(70,.d (.int (k:Nat))),(0,.d (st [x]))]) (H':=H) (by rfl) ?_)
  refine iX (old:=.int k) (d:=.int 1) (z:=.int ((k:Int)+1)) (H1:=H) (by rfl) (by rfl) (by rfl) ?_
  have hc:aO TT (.cmp (.v 0) .eq (.c (st [10]))) [(1,.d tx),(27,.d (.int ((l:Nat)+1))),(70,.d (.int ((k:Int)+1))),(0,.d (st [x]))] H=some (.d (.bool (decide (x=10))),H):=by
   have e1:bB .eq (st [x]) (st [10])=some (decide (x=10)):=by
    by_cases h:x=10
    ·subst h;rfl
    ·rw[decide_eq_false h];(simpa! only [h])
   exact bo (a:=(.d (st [x]),H)) rfl (bo (a:=(.d (st [10]),H)) rfl (by show (cw TT H .eq (.d (st [x])) (.d (st [10]))).map _ = _;rw[show cw TT H .eq (.d (st [x])) (.d (st [10])) = _ from e1];rfl))
  rw[Cq,AT] at q
  refine dT hc (a7 _) (fun h=>?_) fun h=>?_
  ·have h:=of_decide_eq_true h
   rw[au h,au h] at q
   refine iX (old:=.int ((l:Int)+1)) (d:=.int 1) (z:=.int (((l+1:Nat):Int)+1)) (H1:=H) (by rfl) (by rfl) (by rfl) ?_
   refine aK (v:=.d (.int ((0:Nat):Int))) (H1:=H) (m1:=[(1,.d tx),(27,.d (.int (((l+1:Nat):Int)+1))),(70,.d (.int ((0:Nat):Int))),(0,.d (st [x]))]) (H2:=H) (by rfl) (by rfl) (aF (az (aF ?_)))
   exact jS (m3:=[(1,.d tx),(27,.d (.int (((l+1:Nat):Int)+1))),(70,.d (.int ((0:Nat):Int)))]) (fun i x h=>gc (m:=[(1,.d tx),(27,.d (.int (((l+1:Nat):Int)+1))),(70,.d (.int ((0:Nat):Int)))]) (r:=[(0,_)]) h) (ih (l+1) 0 q)
  ·have h:=of_decide_eq_false h
   rw[ar h,ar h] at q
   refine aF (az (aF ?_))
   exact jS (m3:=[(1,.d tx),(27,.d (.int ((l:Nat)+1))),(70,.d (.int ((k+1:Nat):Int)))]) (fun i x h=>gc (m:=[(1,.d tx),(27,.d (.int ((l:Nat)+1))),(70,.d (.int ((k+1:Nat):Int)))]) (r:=[(0,_)]) h) (ih l (k+1) q)
theorem Iq(e:aY c){M:SQ}:SemCall c (r+1) (.ref 813) [.d (st M)] H fun y H'=>y=.d (.tuple [.int ((cV 0 M:Nat)+1),.int (cU 0 M:Nat)])/\H'=H:=by
 refine mH e ?_
 refine aK (v:=.d (.int ((0:Nat)+1))) (H1:=H) (m1:=[(1,.d (st M)),(27,.d (.int ((0:Nat)+1)))]) (H2:=H) (by rfl) (by rfl) ?_
 refine aK (v:=.d (.int (0:Nat))) (H1:=H) (m1:=[(1,.d (st M)),(27,.d (.int ((0:Nat)+1))),(70,.d (.int (0:Nat)))]) (H2:=H) (by rfl) (by rfl) ?_
 refine y6 (d:=st M) (ds:=M.map fun ch=>st [ch]) (H1:=H) (by rfl) (sn M) ?_
 refine Cb M 0 0 (az ?_)
 exact cm (v:=.d (.tuple [.int ((cV 0 M:Nat)+1),.int (cU 0 M:Nat)])) (H1:=H) rfl (by rfl) (bg (ao _) rfl ⟨rfl,rfl⟩)
theorem C9{y:Nat}{elt it t:X}{i:Nat}{d:D}{ds:List D}{g:D}{q:D->Bool}{rest:S}{Q:Fl->aD->Hp->Prop}(ht:t.isNon=false)(h1:aO T it m H=some (.d d,H))(h2:b8 d=some ds)(h3:∀x∈ds,aO T t [(i,.d x)] H=some (.d (.bool (q x)),H))(h4:∀x,aO T elt [(i,.d x)] H=some (.d g,H))(hl:ds.length<=16777215)
  (h:wS c T r k rest (pk y (.d (.list (List.replicate (ds.countP q) g))) m) H Q):wS c T r k (.seq (.asgC y elt i it t) rest) m H Q:=by
 have main:∀(ds:List D) (n:Nat),(∀x∈ds,aO T t [(i,.d x)] H=some (.d (.bool (q x)),H))->n+ds.length<=16777215->wS c T r k rest (pk y (.d (.list (List.replicate (n+ds.countP q) g))) m) H Q ->
   dY (ee t.isNon (wX c T r t) (wX c T r elt) i) (ds.map .d) (List.replicate n g) H fun acc H2=>andThen c T r k rest Q .next (pk y (.d (.list acc)) m) H2:=by
  intro ds
  induction ds with
  |nil=>intro n _ _ h;exact az h
  |cons x ds ih=>
   intro n hx hl h
   rw[ht] at ih ⊢
   rw[ag] at hl
   refine tG (ev (hx x aa) (av (a7 _) (iA (fun hq=>?_) fun hq=>?_)))
   ·refine ev (h4 x) ⟨_,rfl,by rw[List.length_replicate];omega,?_⟩
    rw[←List.replicate_succ']
    refine ih (n+1) (fun y hy=>hx y (ad _ hy)) (by omega) ?_
    rw[List.countP_cons_of_pos hq] at h
    rw[show n+1+ds.countP q=n+(ds.countP q+1) by omega];exact h
   ·refine ih n (fun y hy=>hx y (ad _ hy)) (by omega) ?_
    rw[List.countP_cons_of_neg (by rw[hq];decide)] at h;exact h
 show wX c T r it m H _
 exact ev h1 (av h2 (main ds 0 h3 (by omega) (by rw[Nat.zero_add];exact h)))
theorem AW(M:SQ)(q:D->Bool)(hq:∀x∈M,q (st [x])=decide (x=0)):(M.map fun ch=>st [ch]).countP q=M.count 0:=by
 induction M with
 |nil=>rfl
 |cons x M ih=>
  have ih:=ih fun y hy=>hq y (ad _ hy)
  have hx:=hq x aa
  rw[List.map_cons]
  by_cases h:x=0
  ·subst h;rw[List.countP_cons_of_pos (by rw[hx];rfl),List.count_cons_self,ih]
  ·rw[List.countP_cons_of_neg (by rw[hx,decide_eq_false h];decide),List.count_cons_of_ne h,ih]
theorem ET(e:aY c){kind raw:SQ}{whole:Bool}(hl:raw.length<=900):SemCall c (r+1) (.ref 818) [.d (st kind),.d (st raw),.d (.bool whole)] H fun y H'=>y=.d (.list (fW kind raw whole))/\H'=H:=by
 refine oT e ?_
 have hc:raw.count 0<=raw.length:=List.count_le_length
 have hs1:(List.replicate (raw.count 0) (cM mV)).length+1<=1000:=by rw[List.length_replicate];omega
 refine C9 (g:=cM mV) (q:=fun d=>PyData.eqv d (st [0])) (d:=st raw) (ds:=raw.map fun ch=>st [ch]) rfl (by rfl) (sn raw) (fun x hx=>?_) (fun x=>rfl) (by rw[ah];omega) ?_
 ·obtain⟨ch,_,rfl⟩:=List.mem_map.mp hx
  rfl
 rw[AW raw _ fun x _=>by rw[jQ];simp]
 show wS c TT r _ _ [(73,.d (st kind)),(49,.d (st raw)),(60,.d (.bool whole)),(59,.d (.list (List.replicate (raw.count 0) (cM mV))))] H _
 have hadd:∀z,fS .add (.list (List.replicate (raw.count 0) (cM mV))) (.list [z])=some (.list (List.replicate (raw.count 0) (cM mV)++[z])):=fun z=>au hs1
 cases whole with
 |false=>
  refine cb (v:=.d (.bool true)) (H1:=H) (by rfl) (a7 _) ?_
  refine cm (v:=.d (.list (fW kind raw false))) (H1:=H) rfl ?_ (DN (bg (ao _) rfl ⟨rfl,rfl⟩))
  show ((fS .add (.list (List.replicate (raw.count 0) (cM mV))) (.list [cM MO])).map V.d).map _ = _
  rw[hadd];rfl
 |true=>
  refine be (v:=.d (.bool false)) (H1:=H) (by rfl) (a7 _) (aF (az ?_))
  have l1:raw.length+(raw.length+1) * [98].length<=16777216:=sK (bq hl)
  have l2:(raw.map (iF 66 98)).length+((raw.map (iF 66 98)).length+1) * [113].length<=16777216:=by rw[ah];exact l1
  have l3:((raw.map (iF 66 98)).map (iF 81 113)).length+(((raw.map (iF 66 98)).map (iF 81 113)).length+1) * [65533].length<=16777216:=by rw[ah,ah];exact l1
  refine aK (v:=.d (st (En raw))) (H1:=H) (m1:=[(73,.d (st kind)),(49,.d (st raw)),(60,.d (.bool true)),(59,.d (.list (List.replicate (raw.count 0) (cM mV)))),(62,.d (st (En raw)))]) (H2:=H) ?_ (by rfl) ?_
  ·unfold En
   rw[←hJ raw 66 98] at l2 l3 ⊢
   rw[←hJ _ 81 113] at l3 ⊢
   rw[←hJ _ 0 65533]
   trivial
  refine cm (v:=.d (.list (fW kind raw true))) (H1:=H) rfl ?_ (bg (ao _) rfl ⟨rfl,rfl⟩)
  show ((fS .add (.list (List.replicate (raw.count 0) (cM mV))) (.list [BS kind (st (En raw))])).map V.d).map _ = _
  rw[hadd];rfl
end
noncomputable def cj(x:Nat):Bool:=decide (x∈[9,10,32])
noncomputable def dC(x:Nat):Bool:=(x != 60)&&(x != 0)
noncomputable def bC(x:Nat):Bool:=x != 62
noncomputable def ou(h:Nat):SQ:=if h=47 then An else if h=33 then qD else eQ
noncomputable def g5(inner:SQ):SQ:=(if inner.take 1=[63] then inner else inner.drop 1).map (iF 0 65533)
noncomputable abbrev gT:List (SQ):=[[97],[66],[122],[81]]
noncomputable abbrev my:List (SQ):=[[47],[33],[63]]
noncomputable def fN(inner:SQ)(whole:Bool):Option (List D):=
 if inner.take 1∈gT then some (fW eM inner whole)
 else if inner.take 1=[47]/\(inner.drop 1).take 1∈gT then some (fW lr (inner.drop 1) whole)
 else if inner=[]/\whole=true then some [cM IF,f8 [60,62]]
 else if inner=[47]/\whole=true then some [cM IE]
 else if inner=[47] then some [cM ID,f8 [60,47]]
 else if inner.take 1∈my then some [cM (ou (inner.headD 0)),fH dU (st (g5 inner))]
 else none
noncomputable def i9(a:SQ):Bool:=!(a.dropWhile bC).isEmpty
noncomputable def cy:Nat->SQ->List D
 |0,_=>[]
 |_+1,[]=>[]
 |n+1,x::a=>
  if x=60 then match fN (a.takeWhile bC) (i9 a) with
   |some its=>its++cy n ((a.dropWhile bC).drop 1)
   |none=>[cM rX,f8 [60]]++cy n a
  else if x=0 then [cM mV,f8 [0]]++cy n a
  else if cj x=true then fH gj (st (x::a.takeWhile cj))::cy n (a.dropWhile cj)
  else f8 (x::a.takeWhile dC)::cy n (a.dropWhile dC)
section
variable {c:Cx}{r k:Nat}{m:aD}{H:Hp}{K:SV}{M:SQ}
theorem EU{a b:X}(h:wX c TT r a m H fun x H1=>ok (aN H1 x) fun t=>if t=true then K x H1 else wX c TT r b m H1 K):wX c TT r (.or a b) m H K:=h
theorem rE{a b:X}(h:wX c TT r a m H fun x H1=>ok (aN H1 x) fun t=>if t=true then wX c TT r b m H1 K else K x H1):wX c TT r (.and a b) m H K:=h
theorem gm{a b:X}{o:eY}(h:wX c TT r a m H fun x H1=>wX c TT r b m H1 fun y H2=>ok (cw TT H2 o x y) fun z=>K (.d (.bool z)) H2):wX c TT r (.cmp a o b) m H K:=h
theorem dM{a b:X}{o:eY}{x y:V}{z:Bool}(h1:aO TT a m H=some (x,H))(h2:aO TT b m H=some (y,H))(h3:cw TT H o x y=some z):aO TT (.cmp a o b) m H=some (.d (.bool z),H):=
 bo h1 (bo h2 (by show (cw TT H o x y).map _ = _;rw[h3];rfl))
theorem qF(x y:Nat):bB .eq (st [x]) (st [y])=some (decide (x=y)):=by
 by_cases h:x=y
 ·subst h;rw[decide_eq_true rfl];trivial
 ·rw[decide_eq_false h];(simpa! only [h])
theorem kw(x y:Nat):bB .ne (st [x]) (st [y])=some (x != y):=by
 by_cases h:x=y
 ·subst h;rw[bne_self_eq_false];trivial
 ·rw[show (x != y)=true from bne_iff_ne.mpr h];(simpa! only [h])
theorem oK{i p x:Nat}(hM:M.length<=1000)(h1:lk 1 m=some (.d (st M)))(h2:lk i m=some (.d (.int p)))(h3:M[p]?=some x):aO TT (.ix (.v 1) (.v i)) m H=some (.d (st [x]),H):=by
 have hp:=oh h3
 have e1:aO TT (.v 1) m H=some (.d (st M),H):=by show (lk 1 m).map _ = _;rw[h1];rfl
 have e2:aO TT (.v i) m H=some (.d (.int p),H):=by show (lk i m).map _ = _;rw[h2];rfl
 have e3:k6 (st M) (.int (p:Int))=some (st [x]):=fX _ _ x (qk hM (Nat.le_of_lt hp)) (dm h3)
 exact bo e1 (bo e2 (by show ((k6 (st M) (.int (p:Int))).map V.d).map _ = _;rw[e3];rfl))
theorem lI{i p:Nat}(hM:M.length<=1000)(h1:lk 1 m=some (.d (st M)))(h2:lk i m=some (.d (.int p))):aO TT (.cmp (.v i) .lt (.bi .len (.cons (.v 1) .nil))) m H=some (.d (.bool (decide (p<M.length))),H):=by
 have e2:aO TT (.v i) m H=some (.d (.int p),H):=by show (lk i m).map _ = _;rw[h2];rfl
 have hl:=v5 M (bq hM)
 have e3:aO TT (.bi .len (.cons (.v 1) .nil)) m H=some (.d (.int M.length),H):=by (simpa! only [h1,hl])
 refine dM e2 e3 ?_
 show some (decide ((p:Int)<(M.length:Int))) = _
 exact congrArg some (decide_eq_decide.mpr Int.ofNat_lt)
theorem xj:∀ws:List (SQ),bK 30 (ws.map st)=true:=by
 intro ws
 induction ws with
 |nil=>exact rfl
 |cons w ws ih=>exact ih
theorem E6(w:SQ):∀ws:List (SQ),((ws.map st).any fun y=>PyData.eqv y (st w))=decide (w∈ws):=by
 intro ws
 induction ws with
 |nil=>rfl
 |cons v ws ih=>
  show (PyData.eqv (st v) (st w)||(ws.map st).any fun y=>PyData.eqv y (st w)) = _
  rw[ih,jQ]
  by_cases h:v=w
  ·subst h;rw[decide_eq_true rfl,decide_eq_true aa];rfl
  ·rw[decide_eq_false h,Bool.false_or]
   exact decide_eq_decide.mpr ⟨fun q=>ad _ q,fun q=>by rcases List.mem_cons.mp q with q|q;exact absurd q.symm h;exact q⟩
theorem kt(w:SQ)(ws:List (SQ)):bB .mem (st w) (.list (ws.map st))=some (decide (w∈ws)):=by
 show bc (bK 30 (ws.map st)&&b7 30 (st w)) (some ((ws.map st).any fun y=>PyData.eqv y (st w))) = _
 rw[xj,E6];rfl
noncomputable abbrev mj(M:SQ)(k p j:Nat):aD:=[(1,.d (st M)),(69,.r k),(3,.d (.int (p:Nat))),(37,.d (.int (j:Nat)))]
theorem fD{j x:Nat}{a:SQ}(h:M.drop j=x::a):M[j]?=some x/\M.drop (j+1)=a:=by
 refine⟨by rw[←List.head?_drop,h];rfl,?_⟩
 rw[←List.drop_drop,h];rfl
theorem mD{j:Nat}(h:M.drop j=[]):M[j]?=none/\M.length<=j:=⟨by rw[←List.head?_drop,h];rfl,List.drop_eq_nil_iff.mp h⟩
theorem HK{q:Nat->Bool}{t:X}{kk p:Nat}{Q:Fl->aD->Hp->Prop}(ht:∀(j:Nat) (K:SV),K (.d (.bool ((M[j]?).any q))) H->wX c TT r t (mj M k p j) H K):∀(n:Nat) (a:SQ) (j:Nat),M.drop j=a->a.length<=n->Q .next (mj M k p (j+(a.takeWhile q).length)) H ->
  i8 kk (fun m H K=>wX c TT r t m H fun v H1=>ok (aN H1 v) fun z=>K z H1) (wS c TT r kk (.seq (.augN 37 .add (.c (.int 1))) .nil)) (n+1) (mj M k p j) H Q:=by
 intro n
 induction n with
 |zero=>
  intro a j ha hl h
  obtain rfl:=List.length_eq_zero_iff.mp (Nat.le_zero.mp hl)
  refine ht j _ (av (a7 _) ?_)
  rw[(mD ha).1]
  exact h
 |succ n ih=>
  intro a j ha hl h
  cases a with
  |nil=>
   refine ht j _ (av (a7 _) ?_)
   rw[(mD ha).1]
   exact h
  |cons x a=>
   obtain⟨h1,h2⟩:=fD ha
   refine ht j _ (av (a7 _) ?_)
   rw[h1]
   show (if q x=true then _ else _)
   cases hq:q x with
   |false=>
    rw[ar (by decide)]
    rw[List.takeWhile_cons,hq] at h
    exact h
   |true=>
    rw[au rfl]
    rw[List.takeWhile_cons,hq,au rfl,ag] at h
    refine iX (old:=.int (j:Nat)) (d:=.int 1) (z:=.int ((j+1:Nat):Int)) (H1:=H) (by rfl) (by rfl) (by rfl) (aF ⟨mj M k p (j+1),H,.inr (.inl ⟨rfl,fun _ _ h=>h⟩),?_⟩)
    refine ih a (j+1) h2 (Nat.le_of_succ_le_succ hl) ?_
    rw[show j+1+(a.takeWhile q).length=j+((a.takeWhile q).length+1) by omega]
    exact h
theorem PO{p:Nat}(hM:M.length<=1000)(j:Nat):aO TT (.and (.cmp (.v 37) .lt (.bi .len (.cons (.v 1) .nil))) (.cmp (.ix (.v 1) (.v 37)) .ne (.c (st [62])))) (mj M k p j) H=some (.d (.bool ((M[j]?).any bC)),H):=by
 have h1:=lI (m:=mj M k p j) (H:=H) (i:=37) (p:=j) hM rfl rfl
 rcases h:M[j]? with _|x
 ·have hn:decide (j<M.length)=false:=decide_eq_false (Nat.not_lt.mpr (List.getElem?_eq_none_iff.mp h))
  rw[hn] at h1
  exact bo h1 (bo (a:=false) rfl rfl)
 ·have hn:decide (j<M.length)=true:=decide_eq_true (oh h)
  rw[hn] at h1
  exact bo h1 (bo (a:=true) rfl (dM (oK hM rfl rfl h) rfl (kw x 62)))
theorem PX{p:Nat}(hM:M.length<=1000)(j:Nat):aO TT (.and (.cmp (.v 37) .lt (.bi .len (.cons (.v 1) .nil))) (.and (.cmp (.ix (.v 1) (.v 37)) .ne (.c (st [60]))) (.cmp (.ix (.v 1) (.v 37)) .ne (.c (st [0]))))) (mj M k p j) H=some (.d (.bool ((M[j]?).any dC)),H):=by
 have h1:=lI (m:=mj M k p j) (H:=H) (i:=37) (p:=j) hM rfl rfl
 rcases h:M[j]? with _|x
 ·have hn:decide (j<M.length)=false:=decide_eq_false (Nat.not_lt.mpr (List.getElem?_eq_none_iff.mp h))
  rw[hn] at h1
  exact bo h1 (bo (a:=false) rfl rfl)
 ·have hn:decide (j<M.length)=true:=decide_eq_true (oh h)
  rw[hn] at h1
  refine bo h1 (bo (a:=true) rfl ?_)
  have h2:=dM (H:=H) (o:=.ne) (oK (m:=mj M k p j) (i:=37) hM rfl rfl h) (b:=.c (st [60])) rfl (kw x 60)
  refine bo h2 (bo (a:=(x != 60)) rfl ?_)
  show pick (x != 60) (aO TT (.cmp (.ix (.v 1) (.v 37)) .ne (.c (st [0]))) (mj M k p j) H) (some (V.d (.bool (x != 60)),H))=some (V.d (.bool ((x != 60)&&(x != 0))),H)
  cases x != 60 with
  |false=>rfl
  |true=>exact dM (oK hM rfl rfl h) rfl (kw x 0)
theorem v8(x:Nat):decide ([x]∈[[9],[10],[32]])=cj x:=by
 unfold cj
 exact decide_eq_decide.mpr (by simp)
theorem PL(e:aY c){p:Nat}(hM:M.length<=1000)(j:Nat)(K:SV)(h0:K (.d (.bool ((M[j]?).any cj))) H) :
  wX c TT (r+1) (.and (.cmp (.v 37) .lt (.bi .len (.cons (.v 1) .nil))) (.cmp (.ix (.v 1) (.v 37)) .mem (.call 11 .nil))) (mj M k p j) H K:=by
 have h1:=lI (m:=mj M k p j) (H:=H) (i:=37) (p:=j) hM rfl rfl
 refine rE (ev h1 (av (a7 _) ?_))
 rcases h:M[j]? with _|x
 ·have hn:decide (j<M.length)=false:=decide_eq_false (Nat.not_lt.mpr (List.getElem?_eq_none_iff.mp h))
  rw[hn,ar (by decide)]
  rw[h] at h0;exact h0
 ·have hn:decide (j<M.length)=true:=decide_eq_true (oh h)
  rw[hn,au rfl]
  refine gm (ev (oK hM rfl rfl h) (cg (vs:=[]) (H2:=H) (by rfl) (by rfl) (qe e) (e8 (av (x:=cj x) ?_ ?_))))
  ·exact (kt [x] [[9],[10],[32]]).trans (congrArg some (v8 x))
  ·rw[h] at h0;exact h0
end
noncomputable def eV:Cell:=.dict [(85,.d (st An)),(86,.d (st qD)),(87,.d (st eQ))]
theorem tu(k raw:SQ)(w:Bool):(fW k raw w).length<=raw.length+1:=by
 unfold fW
 have:=List.count_le_length (a:=0) (l:=raw)
 rw[ae,List.length_replicate]
 cases w<;>exact Nat.succ_le_succ this
theorem eI{inner:SQ}{w:Bool}{its:List D}(h:fN inner w=some its):its.length<=inner.length+2:=by
 unfold fN at h
 split at h
 ·cases h;exact ak (tu _ _ _) (Nat.le_succ _)
 split at h
 ·cases h;exact ak (tu _ _ _) (by rw[List.length_drop];exact ak (Nat.succ_le_succ (Nat.sub_le _ _)) (Nat.le_succ _))
 split at h
 ·cases h;simp
 split at h
 ·cases h;simp
 split at h
 ·cases h;simp
 split at h
 ·cases h;simp
 ·cases h
theorem fg{f:Nat->Bool}(a:SQ):(a.takeWhile f).length+(a.dropWhile f).length=a.length:=by
 rw[←ae,List.takeWhile_append_dropWhile]
theorem Du{f:Nat->Bool}(a:SQ):a.drop (a.takeWhile f).length=a.dropWhile f:=by
 conv=>lhs;rw[←List.takeWhile_append_dropWhile (p:=f) (l:=a)]
 rw[List.takeWhile_append_dropWhile]
 have h:=List.drop_left (l₁:=a.takeWhile f) (l₂:=a.dropWhile f)
 rwa[List.takeWhile_append_dropWhile] at h
theorem Rn{i r t d A:Nat}(hb:t+d=A)(hi:i<=t+2)(hr:r<=2 * d):i+r<=2 * (A+1):=by
 refine ak (Nat.add_le_add hi hr) ?_
 rw[←hb,Nat.mul_add,Nat.mul_add,Nat.add_right_comm t 2]
 exact Nat.add_le_add_right (Nat.add_le_add_right (Nat.le_mul_of_pos_left t Nat.two_pos) _) 2
theorem zp:∀(n:Nat) (a:SQ),(cy n a).length<=2 * a.length:=by
 intro n
 induction n with
 |zero=>intro a;exact Nat.zero_le _
 |succ n ih=>
  intro a
  cases a with
  |nil=>exact Nat.zero_le _
  |cons x a=>
   rw[ag]
   rw[cy]
   split
   ·have hd:=fg (f:=bC) a
    split
    ·rename_i its h
     have h1:=eI h
     have h2:=ih ((a.dropWhile bC).drop 1)
     rw[List.length_drop] at h2
     rw[ae];exact Rn hd h1 (ak h2 (Nat.mul_le_mul_left 2 (Nat.sub_le _ _)))
    ·have h2:=ih a
     rw[ae];exact ak (Nat.add_le_add_left h2 2) (an (Nat.add_comm 2 _))
   ·split
    ·have h2:=ih a
     rw[ae];exact ak (Nat.add_le_add_left h2 2) (an (Nat.add_comm 2 _))
    ·split
     ·have h2:=ih (a.dropWhile cj)
      have hd:=fg (f:=cj) a
      rw[ag];exact ak (Nat.add_le_add_right (ak h2 (Nat.mul_le_mul_left 2 (Nat.le.intro ((Nat.add_comm _ _).trans hd)))) 1) (Nat.le_succ _)
     ·have h2:=ih (a.dropWhile dC)
      have hd:=fg (f:=dC) a
      rw[ag];exact ak (Nat.add_le_add_right (ak h2 (Nat.mul_le_mul_left 2 (Nat.le.intro ((Nat.add_comm _ _).trans hd)))) 1) (Nat.le_succ _)
theorem v9(w:SQ):d9 TT.nms w [(85,.d (st An)),(86,.d (st qD)),(87,.d (st eQ))]=some (if [47]=w then some (.d (st An)) else if [33]=w then some (.d (st qD)) else if [63]=w then some (.d (st eQ)) else none):=by
 rw[d9]
 dsimp only
 rw[KY]
 dsimp only
 split
 ·rfl
 rw[d9]
 dsimp only
 rw[show TT.nms[86]?=some [33] from rfl]
 dsimp only
 split
 ·rfl
 rw[d9]
 dsimp only
 rw[show TT.nms[87]?=some [63] from rfl]
 dsimp only
 split<;>rfl
theorem gF(a b:SQ):bB .eq (st a) (st b)=some (decide (a=b)):=by
 show pick (b7 30 (st a)&&b7 30 (st b)) (some (PyData.eqv (st a) (st b))) (wP (st a) (st b)) = _
 rw[jQ];rfl
section
variable {c:Cx}{r k:Nat}{m:aD}{H:Hp}{K:SV}{M:SQ}
theorem tD(e:aY c):SemCall c (r+1) (.ref 794) [] H fun y H'=>y=.r H.length/\H'=H++[some eV]:=by
 refine la e (cm (v:=.r H.length) (H1:=H++[some eV]) rfl ?_ (bg (by simp) ?_ ⟨rfl,rfl⟩))
 ·have hz:(H++[some (Cell.dict [])])[H.length]?=some (some (Cell.dict [])):=by rw[List.getElem?_append_right (ao _),Nat.sub_self];rfl
  have hs:(H++[some (Cell.dict [])]).set H.length (some eV)=H++[some eV]:=by rw[List.set_append_right _ _ (ao _),Nat.sub_self];rfl
  refine bo (a:=([.d (st An),.d (st qD),.d (st eQ)],H++[some (.dict [])])) rfl ?_
  show bc (BL (H++[some (Cell.dict [])])[H.length]?&&true) (some (V.r H.length,(H++[some (Cell.dict [])]).set H.length (some eV))) = _
  rw[hz,hs];rfl
 ·show (if H.length<(H++[some eV]).length then some (V.r H.length) else _) = _
  rw[au (by simp)]
noncomputable abbrev mC(M:SQ)(k p:Nat):aD:=[(1,.d (st M)),(69,.r k),(3,.d (.int (p:Nat)))]
noncomputable abbrev Hr(H:Hp)(acc:List D)(G:Hp):Hp:=H++some (.dlist acc)::G
theorem sa{acc:List D}{G:Hp}:(Hr H acc G)[H.length]?=some (some (.dlist acc)):=by rw[List.getElem?_append_right (ao _),Nat.sub_self];rfl
theorem ka{acc acc':List D}{G:Hp}:(Hr H acc G).set H.length (some (.dlist acc'))=Hr H acc' G:=by rw[List.set_append_right _ _ (ao _),Nat.sub_self];rfl
theorem mE{acc xs:List D}{G:Hp}(hl:acc.length+xs.length<=900):xc (Hr H acc G) (.r H.length) (.d (.list xs))=some (H.length,.dlist (acc++xs)):=by
 show ((match (Hr H acc G)[H.length]? with|some (some cl)=>some (H.length,cl)|_=>none).bind fun p=>(NR p.2).bind fun ds=>bc (jm (ds.length+xs.length) 900) (some (p.1,Cell.dlist (ds++xs)))) = _
 rw[sa]
 show bc (jm (acc.length+xs.length) 900) (some (H.length,Cell.dlist (acc++xs))) = _
 unfold jm
 rw[r0 _ _ hl];rfl
theorem y5{i:Nat}{x:X}{rest:S}{Q:Fl->aD->Hp->Prop}{kk:Nat}(h:ok (lk i m) fun o=>wX c TT r x m H fun v H1=>ok (xc H1 o v) fun p=>wS c TT r kk rest (pk i o m) (H1.set p.1 (some p.2)) Q):wS c TT r kk (.seq (.ext i x) rest) m H Q:=h
end
section
variable {c:Cx}{r k:Nat}{m:aD}{H:Hp}{K:SV}{M:SQ}
theorem w7{i:Nat}{w:SQ}(h1:lk i m=some (.d (st w)))(hw:w.length<=1000):aO TT (.sl (.v i) .non (.c (.int 1))) m H=some (.d (st (w.take 1)),H):=by
 have hs:k7 w none (some (1:Int))=w.take 1:=HP w 1
 have hl:w.length<=16777216:=bq hw
 (simpa! only [h1,hs])
theorem D0{i:Nat}{w:SQ}(h1:lk i m=some (.d (st w)))(hw:w.length<=1000):aO TT (.sl (.v i) (.c (.int 1)) .non) m H=some (.d (st (w.drop 1)),H):=by
 have hs:k7 w (some (1:Int)) none=w.drop 1:=zH w 1
 have hl:w.length<=16777216:=bq hw
 (simpa! only [h1,hs])
theorem JV{i:Nat}{w:SQ}(h1:lk i m=some (.d (st w)))(hw:w.length<=1000):aO TT (.sl (.v i) (.c (.int 1)) (.c (.int 2))) m H=some (.d (st ((w.drop 1).take 1)),H):=by
 have hs:k7 w (some (1:Int)) (some (2:Int))=(w.drop 1).take 1:=(kQ w 1 2).trans (List.drop_take (i:=1) (j:=2))
 have hl:w.length<=16777216:=bq hw
 (simpa! only [h1,hs])
theorem DZ{a b:X}{b1 b2:Bool}(h1:aO TT a m H=some (.d (.bool b1),H))(h2:aO TT b m H=some (.d (.bool b2),H)):aO TT (.and a b) m H=some (.d (.bool (b1&&b2)),H):=by
 refine bo h1 (bo (a:=b1) rfl ?_)
 show pick b1 (aO TT b m H) (some (V.d (.bool b1),H)) = _
 cases b1 with
 |true=>exact h2
 |false=>rfl
theorem DU(e:aY c){a:X}{w:SQ}(h:aO TT a m H=some (.d (st w),H))(h0:K (.d (.bool (decide (w∈gT)))) H):wX c TT (r+1) (.cmp a .mem (.call 10 .nil)) m H K:=
 gm (ev h (cg (vs:=[]) (H2:=H) (by rfl) (by rfl) (vL e) (e8 (av (x:=decide (w∈gT)) (kt w gT) h0))))
theorem Jr(e:aY c){a:X}{w:SQ}(h:aO TT a m H=some (.d (st w),H))(h0:K (.d (.bool (decide (w∈my)))) (H++[some eV])):wX c TT (r+1) (.cmp a .mem (.call 12 .nil)) m H K:=by
 refine gm (ev h (cg (vs:=[]) (H2:=H) (by rfl) (by rfl) (tD e) (e8 (av (x:=decide (w∈my)) ?_ h0))))
 show qT TT (H++[some eV]) (.d (st w)) (.r H.length) = _
 unfold qT
 show (match (H++[some eV])[H.length]? with|some (some (.dict fs))=>(d9 TT.nms (Sl w).l fs).map (fun z:Option V=>z.isSome)|_=>none) = _
 rw[List.getElem?_append_right (ao _),Nat.sub_self]
 show (d9 TT.nms (Sl w).l [(85,.d (st An)),(86,.d (st qD)),(87,.d (st eQ))]).map (fun z:Option V=>z.isSome) = _
 rw[da,v9]
 show some _ = some _
 congr 1
 by_cases h1:[47]=w
 ·subst h1;rfl
 ·by_cases h2:[33]=w
  ·subst h2;rfl
  ·by_cases h3:[63]=w
   ·subst h3;rfl
   ·rw[ar h1,ar h2,ar h3]
    exact (decide_eq_false fun q=>by
     rcases List.mem_cons.mp q with q|q
     ·exact h1 q.symm
     rcases List.mem_cons.mp q with q|q
     ·exact h2 q.symm
     exact h3 (List.mem_singleton.mp q).symm).symm
theorem MH(e:aY c){a:X}{h:Nat}(hh:[h]∈my)(h1:∀H,aO TT a m H=some (.d (st [h]),H))(h0:K (.d (st (ou h))) (H++[some eV])):wX c TT (r+1) (.ix (.call 12 .nil) a) m H K:=by
 refine Ak (cg (vs:=[]) (H2:=H) (by rfl) (by rfl) (tD e) (e8 (ev (h1 _) (av (x:=.d (st (ou h))) ?_ h0))))
 show Ap TT (H++[some eV]) H.length (st [h]) = _
 show (match (H++[some eV])[H.length]? with|some (some (.dict fs))=>(d9 TT.nms (Sl [h]).l fs).bind id|_=>none) = _
 rw[List.getElem?_append_right (ao _),Nat.sub_self]
 show (d9 TT.nms (Sl [h]).l [(85,.d (st An)),(86,.d (st qD)),(87,.d (st eQ))]).bind id = _
 rw[da,v9]
 rcases List.mem_cons.mp hh with q|q
 ·cases q;rfl
 rcases List.mem_cons.mp q with q|q
 ·cases q;rfl
 ·have q:=List.mem_singleton.mp q
  cases q;rfl
theorem m9(j:Nat):decide (j<M.length)=!(M.drop j).isEmpty:=by
 cases h:M.drop j with
 |nil=>exact decide_eq_false (Nat.not_lt.mpr (mD h).2)
 |cons x a=>exact decide_eq_true (oh (fD h).1)
end
section
variable {c:Cx}{r k:Nat}{m:aD}{H:Hp}{K:SV}{M:SQ}
noncomputable def MV:S:=sB (sH (sT (sT lJ)))
noncomputable def Sw:X:=.cmp (.v 3) .lt (.bi .len (.cons (.v 1) .nil))
noncomputable def Su:S:=sT (sT MV)
noncomputable def Sv:S:=sA (sH (sT MV))
noncomputable def Rp:S:=sT (sT (sT (sT Sv)))
noncomputable def Ss:S:=sE (sH (sE (sH (sE (sH (sE (sH (sE (sH Rp)))))))))
theorem Ix{es:X}(h:kY c TT r es m H fun vs H1=>ok (dZ vs) fun ds=>ds.length<=16777216/\K (.d (.list ds)) H1):wX c TT r (.lst 0 es) m H K:=h
theorem Al{es:X}(h:kY c TT r es m H fun vs H1=>ok (dZ vs) fun ds=>ds.length<=16777216/\K (.d (.tuple ds)) H1):wX c TT r (.tup es) m H K:=h
theorem Iw{t a b:X}(h:wX c TT r t m H fun x H1=>ok (aN H1 x) fun t=>if t=true then wX c TT r a m H1 K else wX c TT r b m H1 K):wX c TT r (.ife t a b) m H K:=h
theorem eN{x es:X}{Ks:List V->Hp->Prop}(h:wX c TT r x m H fun v H1=>kY c TT r es m H1 fun vs H2=>Ks (v::vs) H2):kY c TT r (.cons x es) m H Ks:=h
theorem n8{Ks:List V->Hp->Prop}(h:Ks [] H):kY c TT r .nil m H Ks:=h
theorem RG(e:aY c){w:SQ}(h61:lk 61 m=some (.d (st w)))(hw:w.length<=1000)(h0:K (.d (.bool (decide (w.take 1=[47])&&decide ((w.drop 1).take 1∈gT)))) H) :
  wX c TT (r+1) (.and (.cmp (.sl (.v 61) .non (.c (.int 1))) .eq (.c (st [47]))) (.cmp (.sl (.v 61) (.c (.int 1)) (.c (.int 2))) .mem (.call 10 .nil))) m H K:=by
 refine rE (ev (dM (o:=.eq) (w7 h61 hw) (b:=.c (st [47])) rfl (gF _ _)) (av (a7 _) (iA (fun h=>?_) fun h=>?_)))
 ·rw[h,Bool.true_and] at h0
  exact DU e (JV h61 hw) h0
 ·rw[h,Bool.false_and] at h0
  rw[h];exact h0
theorem Cs(e:aY c)(hM:M.length<=400){kk p j:Nat}{inner:SQ}{whole:Bool}{acc:List D}{G:Hp}{Q:Fl->aD->Hp->Prop}(hi:inner.length<=400)(ha:acc.length+inner.length+2<=900)
  (q1:∀its,fN inner whole=some its->∀G' ext,Q .next (mj M H.length p j++ext) (Hr H (acc++its) G'))
  (q2:fN inner whole=none->∀G' ext,Q .next (mj M H.length p (p+1)++ext) (Hr H (acc++[cM rX,f8 [60]]) G')) :
  wS c TT (r+2) kk Rp (mj M H.length p j++[(61,.d (st inner)),(60,.d (.bool whole))]) (Hr H acc G) Q:=by
 have hi1:inner.length<=1000:=bq hi
 have put:∀(its:List D) (G:Hp) (ext:aD) (x:X) (rest:S) (Q:Fl->aD->Hp->Prop),its.length<=inner.length+2->(∀K:SV,(∀G',K (.d (.list its)) (Hr H acc G'))->wX c TT (r+2) x (mj M H.length p j++ext) (Hr H acc G) K) ->
   (∀G',wS c TT (r+2) kk rest (mj M H.length p j++ext) (Hr H (acc++its) G') Q)->wS c TT (r+2) kk (.seq (.ext 69 x) rest) (mj M H.length p j++ext) (Hr H acc G) Q:=by
  intro its G ext x rest Q hl hx hr
  refine y5 (av (x:=.r H.length) (by rfl) (hx _ fun G'=>av (mE (ak (Nat.add_le_add_left hl _) ha)) ?_))
  rw[ka]
  exact hr G'
 have h61:lk 61 (mj M H.length p j++[(61,.d (st inner)),(60,.d (.bool whole))])=some (.d (st inner)):=rfl
 have hw:∀G,aO TT (.v 60) (mj M H.length p j++[(61,.d (st inner)),(60,.d (.bool whole))]) (Hr H acc G)=some (.d (.bool whole),Hr H acc G):=fun G=>rfl
 have h61e:∀G,aO TT (.v 61) (mj M H.length p j++[(61,.d (st inner)),(60,.d (.bool whole))]) (Hr H acc G)=some (.d (st inner),Hr H acc G):=fun G=>rfl
 refine gg (DU (r:=r+1) e (w7 h61 hi1) (av (a7 _) (iA (fun h=>?_) fun h=>?_)))
 ·have h:=of_decide_eq_true h
  have hx:fN inner whole=some (fW eM inner whole):=by unfold fN;rw[au h]
  refine put (fW eM inner whole) G [(61,.d (st inner)),(60,.d (.bool whole))] _ _ _ (eI hx) (fun K hK=>cg (vs:=[.d (st eM),.d (st inner),.d (.bool whole)]) (H2:=Hr H acc G) (by rfl) (by rfl) (ET e (bq hi)) (e8 (hK G))) fun G'=>?_
  repeat refine aF (az ?_)
  exact aF (q1 _ hx G' _)
 have n1:=of_decide_eq_false h
 refine gg (RG (r:=r+1) e h61 hi1 (av (a7 _) (iA (fun h=>?_) fun h=>?_)))
 ·have h:=ay h
  have h2:inner.take 1=[47]/\(inner.drop 1).take 1∈gT:=⟨of_decide_eq_true h.1,of_decide_eq_true h.2⟩
  have hx:fN inner whole=some (fW lr (inner.drop 1) whole):=by unfold fN;rw[ar n1,au h2]
  refine put (fW lr (inner.drop 1) whole) G [(61,.d (st inner)),(60,.d (.bool whole))] _ _ _ (eI hx) (fun K hK=>cg (vs:=[.d (st lr),.d (st (inner.drop 1)),.d (.bool whole)]) (H2:=Hr H acc G) (by rfl) ?_ (ET e (show (inner.drop 1).length<=900 by rw[List.length_drop];exact bq (ak (Nat.sub_le _ _) hi))) (e8 (hK G))) fun G'=>?_
  ·exact bo (a:=(.d (st lr),Hr H acc G)) rfl (by show ((aO TT (.sl (.v 61) (.c (.int 1)) .non) _ _).bind _).map _ = _;rw[D0 h61 hi1];rfl)
  ·repeat refine aF (az ?_)
   exact aF (q1 _ hx G' _)
 have n2:¬ (inner.take 1=[47]/\(inner.drop 1).take 1∈gT):=fun q=>by rw[decide_eq_true q.1,decide_eq_true q.2] at h;exact nof2 h.symm
 clear h
 refine dT (DZ (dM (o:=.eq) (h61e G) (b:=.c (st [])) rfl (gF _ _)) (hw G)) (a7 _) (fun h=>?_) fun h=>?_
 ·have h:=ay h
  have h2:inner=[]/\whole=true:=⟨of_decide_eq_true h.1,h.2⟩
  have hx:fN inner whole=some [cM IF,f8 [60,62]]:=by unfold fN;rw[ar n1,ar n2,au h2]
  refine put [cM IF,f8 [60,62]] G [(61,.d (st inner)),(60,.d (.bool whole))] _ _ _ (eI hx) (fun K hK=>ev (v:=.d (.list [cM IF,f8 [60,62]])) (by rfl) (hK G)) fun G'=>?_
  repeat refine aF (az ?_)
  exact aF (q1 _ hx G' _)
 have n3:¬ (inner=[]/\whole=true):=fun q=>by rw[decide_eq_true q.1,q.2] at h;exact nof2 h.symm
 clear h
 refine dT (DZ (dM (o:=.eq) (h61e G) (b:=.c (st [47])) rfl (gF _ _)) (hw G)) (a7 _) (fun h=>?_) fun h=>?_
 ·have h:=ay h
  have h2:inner=[47]/\whole=true:=⟨of_decide_eq_true h.1,h.2⟩
  have hx:fN inner whole=some [cM IE]:=by unfold fN;rw[ar n1,ar n2,ar n3,au h2]
  refine put [cM IE] G [(61,.d (st inner)),(60,.d (.bool whole))] _ _ _ (eI hx) (fun K hK=>ev (v:=.d (.list [cM IE])) (by rfl) (hK G)) fun G'=>?_
  repeat refine aF (az ?_)
  exact aF (q1 _ hx G' _)
 have n4:¬ (inner=[47]/\whole=true):=fun q=>by rw[decide_eq_true q.1,q.2] at h;exact nof2 h.symm
 clear h
 refine dT (dM (o:=.eq) (h61e G) (b:=.c (st [47])) rfl (gF _ _)) (a7 _) (fun h=>?_) fun h=>?_
 ·have h2:=of_decide_eq_true h
  have hx:fN inner whole=some [cM ID,f8 [60,47]]:=by unfold fN;rw[ar n1,ar n2,ar n3,ar n4,au h2]
  refine put [cM ID,f8 [60,47]] G [(61,.d (st inner)),(60,.d (.bool whole))] _ _ _ (eI hx) (fun K hK=>ev (v:=.d (.list [cM ID,f8 [60,47]])) (by rfl) (hK G)) fun G'=>?_
  repeat refine aF (az ?_)
  exact aF (q1 _ hx G' _)
 have n5:=of_decide_eq_false h
 clear h
 have hG:∀(G:Hp) (z:Option Cell),Hr H acc G++[z]=Hr H acc (G++[z]):=fun G z=>by show (H++some (.dlist acc)::G)++[z] = _;rw[af];rfl
 refine gg (Jr (r:=r+1) e (w7 h61 hi1) (av (a7 _) (iA (fun h=>?_) fun h=>?_)))
 ·have h2:=of_decide_eq_true h
  obtain⟨y,i,rfl⟩:∃y i,inner=y::i:=by
   cases inner with
   |nil=>exact absurd h2 (by decide)
   |cons y i=>exact⟨y,i,rfl⟩
  have h3:[y]∈my:=h2
  have hx:fN (y::i) whole=some [cM (ou y),fH dU (st (g5 (y::i)))]:=by unfold fN;rw[ar n1,ar n2,ar n3,ar n4,ar n5,au h2];rfl
  rw[hG]
  have hy:∀G,aO TT (.ix (.v 61) (.c (.int 0))) (mj M H.length p j++[(61,.d (st (y::i))),(60,.d (.bool whole))]) (Hr H acc G)=some (.d (st [y]),Hr H acc G):=fun G=>by
   have e3:k6 (st (y::i)) (.int 0)=some (st [y]):=fX _ _ y (by decide) (dm (n:=0) rfl)
   exact bo (h61e G) (bo (a:=(.d (.int 0),Hr H acc G)) rfl (by show ((k6 (st (y::i)) (.int 0)).map V.d).map _ = _;rw[e3];rfl))
  have fin2:∀(w:SQ) (G:Hp) (Q':Fl->aD->Hp->Prop),(if (y::i).take 1=[63] then y::i else (y::i).drop 1)=w->(∀G' ext,Q' .next (mj M H.length p j++ext) (Hr H (acc++[cM (ou y),fH dU (st (g5 (y::i)))]) G'))->wS c TT (r+2) kk (sT (sA (sH Ss))) (mj M H.length p j++[(61,.d (st (y::i))),(60,.d (.bool whole)),(67,.d (st w))]) (Hr H acc G) Q':=by
   intro w G Q' hw1 hQ
   have hwl:w.length<=1000:=by
    rw[←hw1];split
    ·exact bq hi
    ·rw[List.length_drop];exact bq (ak (Nat.sub_le _ _) hi)
   have hb:w.length+(w.length+1) * [65533].length<=16777216:=sK (bq hwl)
   have hr:∀G,aO TT (.repl (.v 67) [0] [65533]) (mj M H.length p j++[(61,.d (st (y::i))),(60,.d (.bool whole)),(67,.d (st w))]) (Hr H acc G)=some (.d (st (g5 (y::i))),Hr H acc G):=fun G=>by
    unfold g5
    rw[hw1,←hJ]
    have h67:lk 67 (mj M H.length p j++[(61,.d (st (y::i))),(60,.d (.bool whole)),(67,.d (st w))])=some (.d (st w)):=rfl
    (simpa! only [h67])
   refine y5 (av (x:=.r H.length) (by rfl) (Ix (eN (Al (eN (ev (v:=.d (st l8)) (H':=Hr H acc G) (by rfl) (eN (MH (r:=r+1) e h3 (fun H1=>?_) ?_))))))))
   ·have e3:k6 (st (y::i)) (.int 0)=some (st [y]):=fX _ _ y (by decide) (dm (n:=0) rfl)
    exact bo (a:=(.d (st (y::i)),H1)) rfl (bo (a:=(.d (.int 0),H1)) rfl (by show ((k6 (st (y::i)) (.int 0)).map V.d).map _ = _;rw[e3];rfl))
   rw[hG]
   refine n8 (av (x:=[st l8,st (ou y)]) rfl ⟨by exact Nat.le_of_ble_eq_true rfl,?_⟩)
   refine eN (Al (eN (ev (v:=.d (st dU)) (H':=Hr H acc (G++[some eV])) (by rfl) (eN (ev (hr _) ?_)))))
   refine n8 (av (x:=[st dU,st (g5 (y::i))]) rfl ⟨by exact Nat.le_of_ble_eq_true rfl,?_⟩)
   refine n8 (av (x:=[cM (ou y),fH dU (st (g5 (y::i)))]) rfl ⟨by exact Nat.le_of_ble_eq_true rfl,?_⟩)
   refine av (mE (ak (Nat.add_le_add_right (al _ _) 2) ha)) ?_
   rw[ka]
   exact aF (hQ _ _)
  refine df (Iw (ev (dM (o:=.eq) (hy _) (b:=.c (st [63])) rfl (gF _ _)) (av (a7 _) (iA (fun h=>?_) fun h=>?_))))
  ·refine ev (h61e _) (tg (m':=mj M H.length p j++[(61,.d (st (y::i))),(60,.d (.bool whole)),(67,.d (st (y::i)))]) (H':=Hr H acc (G++[some eV])) (by rfl) ?_)
   refine fin2 _ _ _ (au (of_decide_eq_true h)) fun G' ext=>?_
   repeat refine az (aF ?_)
   exact q1 _ hx _ _
  ·refine ev (D0 h61 hi1) (tg (m':=mj M H.length p j++[(61,.d (st (y::i))),(60,.d (.bool whole)),(67,.d (st i))]) (H':=Hr H acc (G++[some eV])) (by rfl) ?_)
   refine fin2 _ _ _ (ar (of_decide_eq_false h)) fun G' ext=>?_
   repeat refine az (aF ?_)
   exact q1 _ hx _ _
 ·have h2:=of_decide_eq_false h
  have hx:fN inner whole=none:=by unfold fN;rw[ar n1,ar n2,ar n3,ar n4,ar n5,ar h2]
  rw[hG]
  refine ED (o:=.r H.length) (v:=.d (.list [cM rX,f8 [60]])) (H1:=Hr H acc (G++[some eV])) (by rfl) (by rfl) (mE (ak (Nat.add_le_add_right (al _ _) 2) ha)) ?_
  rw[ka]
  refine aK (v:=.d (.int ((p+1:Nat):Int))) (H1:=Hr H (acc++[cM rX,f8 [60]]) (G++[some eV])) (m1:=mj M H.length p (p+1)++[(61,.d (st inner)),(60,.d (.bool whole))]) (H2:=Hr H (acc++[cM rX,f8 [60]]) (G++[some eV])) (by rfl) (by rfl) ?_
  repeat refine aF (az ?_)
  exact aF (q2 hx _ _)
end
section
variable {c:Cx}{r k:Nat}{m:aD}{H:Hp}{K:SV}{M:SQ}
theorem zJ{p x:Nat}{a:SQ}{q:Nat->Bool}(h:M.drop p=x::a):(M.take (p+1+(a.takeWhile q).length)).drop p=x::a.takeWhile q:=by
 rw[List.drop_take,h,show p+1+(a.takeWhile q).length-p=(a.takeWhile q).length+1 by rw[Nat.add_assoc,Nat.add_sub_cancel_left,Nat.add_comm],List.take_succ_cons,ik]
theorem L9{p x:Nat}{a:SQ}{q:Nat->Bool}(h:M.drop p=x::a):(M.take (p+1+(a.takeWhile q).length)).drop (p+1)=a.takeWhile q:=by
 rw[List.drop_take,(fD h).2,show p+1+(a.takeWhile q).length - (p+1)=(a.takeWhile q).length from Nat.add_sub_cancel_left _ _,ik]
theorem wK{p x:Nat}{a:SQ}{q:Nat->Bool}(h:M.drop p=x::a):M.drop (p+1+(a.takeWhile q).length)=a.dropWhile q:=by
 rw[←List.drop_drop,(fD h).2,Du]
theorem tm{p j:Nat}{w s:SQ}{acc:List D}{G:Hp}(hM:M.length<=400)(hs:(M.take j).drop p=s)(hl:acc.length<=900) :
  aO TT (.app (.v 69) (.tup (.cons (.c (st w)) (.cons (.sl (.v 1) (.v 3) (.v 37)) .nil)))) (mj M H.length p j) (Hr H acc G)=some (.d .none,Hr H (acc++[fH w (st s)]) G):=by
 have hs2:k7 M (some (p:Int)) (some (j:Int))=s:=(kQ M p j).trans hs
 have hm:M.length<=16777216:=bq hM
 have e1:aO TT (.tup (.cons (.c (st w)) (.cons (.sl (.v 1) (.v 3) (.v 37)) .nil))) (mj M H.length p j) (Hr H acc G)=some (.d (fH w (st s)),Hr H acc G):=by
  have a1:lk 1 (mj M H.length p j)=some (.d (st M)):=rfl
  have a3:lk 3 (mj M H.length p j)=some (.d (.int (p:Nat))):=rfl
  have a37:lk 37 (mj M H.length p j)=some (.d (.int (j:Nat))):=rfl
  generalize mj M H.length p j=mm at a1 a3 a37
  (simpa! only [a1,a3,a37,hs2])
 refine bo (a:=(.r H.length,Hr H acc G)) rfl ?_
 have hL:cJ (Hr H acc G) (.r H.length)=true:=by unfold cJ;dsimp only;rw[sa]
 have hC:cellOf (Hr H acc G) (.r H.length)=some (H.length,.dlist acc):=by unfold cellOf;dsimp only;rw[sa]
 have hA:mn (.dlist acc) (.d (fH w (st s)))=some (.dlist (acc++[fH w (st s)])):=au (ak hl (by decide))
 show bc (cJ (Hr H acc G) (.r H.length)) ((aO TT (.tup (.cons (.c (st w)) (.cons (.sl (.v 1) (.v 3) (.v 37)) .nil))) (mj M H.length p j) (Hr H acc G)).bind fun q=>mo (.r H.length) q.1 q.2) = _
 rw[hL,e1]
 show ((cellOf (Hr H acc G) (.r H.length)).bind fun q=>(mn q.2 (.d (fH w (st s)))).map fun cl=>(V.d .none,(Hr H acc G).set q.1 (some cl))) = _
 rw[hC]
 show ((mn (.dlist acc) (.d (fH w (st s)))).map fun cl=>(V.d .none,(Hr H acc G).set H.length (some cl))) = _
 rw[hA]
 show some (V.d .none,(Hr H acc G).set H.length (some (.dlist (acc++[fH w (st s)])))) = _
 rw[ka]
abbrev zu(c:Cx)(r:Nat):aD->Hp->(Bool->Hp->Prop)->Prop:=fun m H K=>wX c TT r Sw m H fun v H1=>ok (aN H1 v) fun z=>K z H1
theorem cW(n x:Nat)(a:SQ):cy (n+1) (x::a)=if x=60 then (match fN (a.takeWhile bC) (i9 a) with
   |some its=>its++cy n ((a.dropWhile bC).drop 1)
   |none=>[cM rX,f8 [60]]++cy n a)
  else if x=0 then [cM mV,f8 [0]]++cy n a
  else if cj x=true then fH gj (st (x::a.takeWhile cj))::cy n (a.dropWhile cj)
  else f8 (x::a.takeWhile dC)::cy n (a.dropWhile dC):=rfl
theorem Py{t d A n:Nat}(hb:t+d=A)(hn:A+1<=n+1):d<=n:=ak (Nat.le.intro ((Nat.add_comm _ _).trans hb)) (Nat.le_of_succ_le_succ hn)
theorem Rl{c t A m:Nat}(h:c+2 * (A+1)<=m)(k:t<=A):c+t+2<=m:=ak (by rw[Nat.add_assoc];exact Nat.add_le_add_left (Nat.add_le_add_right (ak k (Nat.le_mul_of_pos_left A Nat.two_pos)) 2) c) h
theorem Px{c i t d A m:Nat}(h:c+2 * (A+1)<=m)(hb:t+d=A)(hi:i<=t+2):c+i+2 * d<=m:=by
 rw[Nat.add_assoc];exact ak (Nat.add_le_add_left (Rn hb hi (ao _)) c) h
theorem Rm{c A m:Nat}(h:c+2 * (A+1)<=m):c+2+2 * A<=m:=by rw[Nat.add_assoc,Nat.add_comm 2];exact h
theorem zq(e:aY c)(hM:M.length<=400){kk:Nat}{Q:Fl->aD->Hp->Prop}:∀(n:Nat) (a:SQ) (p:Nat) (acc:List D) (G:Hp),M.drop p=a->a.length<=n->acc.length+2 * a.length<=880 ->
  (∀p' G',Q .next (mC M H.length p') (Hr H (acc++cy n a) G'))->i8 kk (zu c (r+2)) (wS c TT (r+2) kk MV) (n+1) (mC M H.length p) (Hr H acc G) Q:=by
 have hM1:M.length<=1000:=bq hM
 intro n
 induction n with
 |zero=>
  intro a p acc G ha hn hl q
  obtain rfl:=List.length_eq_zero_iff.mp (Nat.le_zero.mp hn)
  have h1:=lI (m:=mC M H.length p) (H:=Hr H acc G) (i:=3) (p:=p) hM1 rfl rfl
  refine gb h1 (a7 _) (fun h=>?_) fun _=>?_
  ·rw[m9,ha] at h;exact nof2 h
  ·have:=q p G;rw[show cy 0 []=[] from rfl,List.append_nil] at this;exact this
 |succ n ih=>
  intro a p acc G ha hn hl q
  have h1:=lI (m:=mC M H.length p) (H:=Hr H acc G) (i:=3) (p:=p) hM1 rfl rfl
  cases a with
  |nil=>
   refine gb h1 (a7 _) (fun h=>?_) fun _=>?_
   ·rw[m9,ha] at h;exact nof2 h
   ·have:=q p G;rw[show cy (n+1) []=[] from rfl,List.append_nil] at this;exact this
  |cons x a=>
   refine gb h1 (a7 _) (fun _=>?_) fun h=>?_
   rotate_left
   ·rw[m9,ha] at h;exact nof2 h.symm
   obtain⟨hx,ha1⟩:=fD ha
   rw[ag] at hn hl
   have db:∀(j:Nat) (b:SQ) (its:List D) (G':Hp) (ext:aD),M.drop j=b->b.length<=n->acc.length+its.length+2 * b.length<=880->cy (n+1) (x::a)=its++cy n b ->
     wS c TT (r+2) kk Su (mj M H.length p j++ext) (Hr H (acc++its) G') (jD kk (n+1) (zu c (r+2)) (wS c TT (r+2) kk MV) Q):=by
    intro j b its G' ext hb hbn hbl he
    refine aK (v:=.d (.int (j:Nat))) (H1:=Hr H (acc++its) G') (m1:=mC M H.length j++(37,.d (.int (j:Nat)))::ext) (H2:=Hr H (acc++its) G') (by rfl) (by rfl) (aF ?_)
    refine qL (m3:=mC M H.length j) (fun i x h=>gc h) (ih b j (acc++its) G' hb hbn (by rw[ae];exact hbl) fun p' G'=>?_)
    have:=q p' G'
    rw[he,←af] at this
    exact this
   have htl:∀f:Nat->Bool,(a.takeWhile f).length+(a.dropWhile f).length=a.length:=fun f=>fg a
   refine aK (v:=.d (.int ((p+1:Nat):Int))) (H1:=Hr H acc G) (m1:=mj M H.length p (p+1)) (H2:=Hr H acc G) (by rfl) (by rfl) ?_
   have hat:∀j,aO TT (.ix (.v 1) (.v 3)) (mj M H.length p j) (Hr H acc G)=some (.d (st [x]),Hr H acc G):=fun j=>oK hM1 rfl rfl hx
   refine dT (dM (o:=.eq) (hat _) (b:=.c (st [60])) rfl (qF x 60)) (a7 _) (fun h=>?_) fun h=>?_
   ·obtain rfl:=of_decide_eq_true h
    have hb:=htl bC
    have hd:=wK (q:=bC) ha
    have hs2:k7 M (some ((p:Int)+1)) (some ((p+1+(a.takeWhile bC).length:Nat):Int))=a.takeWhile bC:=(kQ M (p+1) _).trans (L9 ha)
    have hm:M.length<=16777216:=bq hM
    have hal:a.length+1<=M.length:=by have:=congrArg List.length ha;rw[List.length_drop,ag] at this;exact ak (an this.symm) (Nat.sub_le _ _)
    refine kE ⟨a.length+1,?_⟩
    refine HK (q:=bC) (fun j K hK=>ev (PO hM1 j) hK) a.length a (p+1) ha1 (ao _) (az ?_)
    have hwh:decide (p+1+(a.takeWhile bC).length<M.length)=i9 a:=by rw[m9,hd];rfl
    have hd1:M.drop (p+1+(a.takeWhile bC).length+1)=(a.dropWhile bC).drop 1:=by rw[←List.drop_drop,hd]
    generalize hj:p+1+(a.takeWhile bC).length=j1 at hs2 hwh hd1
    refine aK (v:=.d (st (a.takeWhile bC))) (H1:=Hr H acc G) (m1:=mj M H.length p j1++[(61,.d (st (a.takeWhile bC)))]) (H2:=Hr H acc G) ?_ (by rfl) ?_
    ·have a1:lk 1 (mj M H.length p j1)=some (.d (st M)):=rfl
     have a3:lk 3 (mj M H.length p j1)=some (.d (.int (p:Nat))):=rfl
     have a37:lk 37 (mj M H.length p j1)=some (.d (.int (j1:Nat))):=rfl
     generalize mj M H.length p j1=mm at a1 a3 a37
     (simpa! only [a1,a3,a37,hs2])
    refine aK (v:=.d (.bool (i9 a))) (H1:=Hr H acc G) (m1:=mj M H.length p j1++[(61,.d (st (a.takeWhile bC))),(60,.d (.bool (i9 a)))]) (H2:=Hr H acc G) (hwh▸lI (i:=37) (p:=j1) hM1 rfl rfl) (by rfl) ?_
    refine iX (old:=.int (j1:Nat)) (d:=.int 1) (z:=.int ((j1+1:Nat):Int)) (H1:=Hr H acc G) (by rfl) (by rfl) (by rfl) ?_
    refine Cs (r:=r) (p:=p) (j:=j1+1) (inner:=a.takeWhile bC) (whole:=i9 a) e hM (ak (Nat.le.intro hb) (ak (Nat.le_of_succ_le hal) hM)) (bq (Rl hl (Nat.le.intro hb))) (fun its hi G' ext=>az ?_) fun hi G' ext=>az ?_
    ·have hil:=eI hi
     refine db (j1+1) ((a.dropWhile bC).drop 1) its G' ext hd1 (by rw[List.length_drop];exact ak (Nat.sub_le _ _) (Py hb hn)) ?_ (by rw[cW,au rfl,hi])
     rw[List.length_drop]
     exact ak (Nat.add_le_add_left (Nat.mul_le_mul_left 2 (Nat.sub_le _ _)) _) (Px hl hb hil)
    ·exact db (p+1) a [cM rX,f8 [60]] G' ext ha1 (Nat.le_of_succ_le_succ hn) (Rm hl) (by rw[cW,au rfl,hi])
   have n1:=of_decide_eq_false h
   refine dT (dM (o:=.eq) (hat _) (b:=.c (st [0])) rfl (qF x 0)) (a7 _) (fun h=>?_) fun h=>?_
   ·obtain rfl:=of_decide_eq_true h
    refine ED (o:=.r H.length) (v:=.d (.list [cM mV,f8 [0]])) (H1:=Hr H acc G) (by rfl) (by rfl) (mE (bq (Rl hl (Nat.zero_le _)))) ?_
    rw[ka]
    refine aF (az (aF (az ?_)))
    exact db (p+1) a [cM mV,f8 [0]] G [] ha1 (Nat.le_of_succ_le_succ hn) (Rm hl) (by rw[cW,ar (by decide),au rfl])
   have n2:=of_decide_eq_false h
   refine gg (gm (ev (hat _) (cg (vs:=[]) (H2:=Hr H acc G) (by rfl) (by rfl) (qe (r:=r+1) e) (e8 (av (x:=cj x) ((kt [x] [[9],[10],[32]]).trans (congrArg some (v8 x))) (av (a7 _) (iA (fun h=>?_) fun h=>?_)))))))
   ·have hb:=htl cj
    refine kE ⟨a.length+1,?_⟩
    refine HK (q:=cj) (fun j K hK=>PL (r:=r+1) e hM1 j K hK) a.length a (p+1) ha1 (ao _) (az ?_)
    refine iY (tm hM (zJ ha) (bq (ak (al _ _) hl))) ?_
    refine aF (az (aF (az (aF (az ?_)))))
    exact db _ (a.dropWhile cj) [fH gj (st (x::a.takeWhile cj))] G [] (wK ha) (Py hb hn) (Px hl hb (Nat.succ_le_succ (Nat.zero_le _))) (by rw[cW,ar n1,ar n2,au h];rfl)
   ·have hb:=htl dC
    refine kE ⟨a.length+1,?_⟩
    refine HK (q:=dC) (fun j K hK=>ev (PX hM1 j) hK) a.length a (p+1) ha1 (ao _) (az ?_)
    refine iY (tm hM (zJ ha) (bq (ak (al _ _) hl))) ?_
    refine aF (az (aF (az (aF (az ?_)))))
    exact db _ (a.dropWhile dC) [f8 (x::a.takeWhile dC)] G [] (wK ha) (Py hb hn) (Px hl hb (Nat.succ_le_succ (Nat.zero_le _))) (by rw[cW,ar n1,ar n2,ar (by rw[h];decide)];rfl)
theorem MG(e:aY c)(hM:M.length<=400)(hr:lp H.length H=true):SemCall c (r+3) (.ref 825) [.d (st M)] H fun y H'=>y=.d (.list (cy M.length M))/\H'=H:=by
 refine oS e ?_
 refine aK (v:=.r H.length) (H1:=Hr H [] []) (m1:=[(1,.d (st M)),(69,.r H.length)]) (H2:=Hr H [] []) (by rfl) (by rfl) ?_
 refine aK (v:=.d (.int ((0:Nat):Int))) (H1:=Hr H [] []) (m1:=mC M H.length 0) (H2:=Hr H [] []) (by rfl) (by rfl) ?_
 refine kE ⟨M.length+1,zq (r:=r) e hM M.length M 0 [] [] rfl (ao _) (by rw[List.length_nil,Nat.zero_add];exact bq (Nat.mul_le_mul_left 2 hM)) fun p' G'=>az ?_⟩
 rw[List.nil_append]
 refine cm (v:=.r H.length) (H1:=Hr H (cy M.length M) G') rfl (by rfl) ⟨H.length,ao _,.inr ?_,.d (.list (cy M.length M)),?_,rfl,?_⟩
 ·rw[List.take_left];exact hr
 ·show (if H.length<H.length then some (V.r H.length) else match (Hr H (cy M.length M) G')[H.length]? with|some (some (.dlist ds))=>some (.d (.list ds))|_=>none) = _
  rw[ar (Nat.lt_irrefl _),sa]
 ·rw[List.take_left]
end
noncomputable def u5(s x:Nat):Nat:=if x=62 then 0 else if s=0 then (if x=60 then 1 else 0) else 2
def eX:Nat->SQ->Prop
 |_,[]=>True
 |s,x::a=>(s≠0->x∉[9,10,32,13])/\(s=2->x≠47)/\eX (u5 s x) a
theorem ym{u v:SQ}:∀s,eX s (u++v)->∃s',eX s' v:=by
 induction u with
 |nil=>intro s h;exact⟨s,h⟩
 |cons x u ih=>intro s h;exact ih _ h.2.2
theorem sI{f:Nat->Bool}{a:SQ}{s:Nat}(h:eX s a):∃s',eX s' (a.dropWhile f):=by
 rw[←List.takeWhile_append_dropWhile (p:=f) (l:=a)] at h
 exact ym s h
theorem yn:∀(t:SQ) (s:Nat) (b:Bool),(b=true->s=0)->eX s t->eX s (c5 b t):=by
 intro t
 induction t with
 |nil=>intro s b _ h;exact h
 |cons x r ih=>
  intro s b hb h
  obtain⟨h1,h2,h3⟩:=h
  rw[bH]
  split
  ·rename_i q
   have hs:=hb q.1
   subst hs
   rw[q.2] at h3
   exact ih 0 false (fun q=>nof2 q) h3
  ·split
   ·rename_i q
    have hs:s=0:=Classical.byContradiction fun w=>h1 w (by rw[q];decide)
    subst hs
    rw[q] at h3
    exact⟨fun w=>absurd rfl w,fun w=>(nomatch w),ih 0 true (fun _=>rfl) h3⟩
   ·exact⟨h1,h2,ih _ false (fun q=>nof2 q) h3⟩
theorem sJ{a:SQ}:∀s,s≠0->eX s a->(∀x∈a.takeWhile bC,x∉[9,10,32,13])/\(s=2->47∉a.takeWhile bC)/\eX 0 ((a.dropWhile bC).drop 1):=by
 induction a with
 |nil=>intro s _ _;exact⟨fun x h=>(by cases h),fun _ h=>(by cases h),trivial⟩
 |cons x a ih=>
  intro s hs h
  obtain⟨h1,h2,h3⟩:=h
  by_cases q:x=62
  ·subst q
   exact⟨fun x h=>(by cases h),fun _ h=>(by cases h),h3⟩
  ·have hx:bC x=true:=bne_iff_ne.mpr q
   have e2:u5 s x=2:=by unfold u5;rw[ar q,ar hs]
   rw[e2] at h3
   obtain⟨k1,k2,k3⟩:=ih 2 (by decide) h3
   rw[List.takeWhile_cons,hx,au rfl,List.dropWhile_cons,hx,au rfl]
   refine⟨fun y hy=>?_,fun w hy=>?_,k3⟩
   ·rcases List.mem_cons.mp hy with e|e
    ·rw[e];exact h1 hs
    ·exact k1 y e
   ·rcases List.mem_cons.mp hy with e|e
    ·exact h2 w e.symm
    ·exact k2 rfl e
theorem pH{u v:SQ}:∀s,eX s u->eX (u.foldl u5 s) v->eX s (u++v):=by
 induction u with
 |nil=>intro s _ h;exact h
 |cons x u ih=>intro s h k;exact⟨h.1,h.2.1,ih _ h.2.2 k⟩
noncomputable instance decNice:∀(a:SQ) (s:Nat),Decidable (eX s a)
 |[],_=>isTrue trivial
 |x::a,s=>@instDecidableAnd (s≠0->x∉[9,10,32,13]) _ inferInstance (@instDecidableAnd (s=2->x≠47) _ inferInstance (decNice a (u5 s x)))
abbrev FZ(b:Bool)(s:Nat):Prop:=(b=false/\s=0)\/(b=true/\(s=1\/s=2))
theorem vk:∀s∈sgs,(eX 0 s/\FZ (lj false s) (s.foldl u5 0))/\(s∉AX->∀k∈[1,2],eX k s/\FZ (lj true s) (s.foldl u5 k)):=by decide
theorem yh:∀s∈sgs,fZ true s∉AX:=by decide
theorem vt:∀(ns:List Int) (b:Bool) (k:Nat),FZ b k->eX k (cD b ns):=by
 intro ns
 induction ns with
 |nil=>intro b k _;exact trivial
 |cons n ns ih=>
  intro b k hf
  have hs:=(nN n).2
  have hm:=vk _ (nf b _ hs)
  rw[cD]
  rcases hf with ⟨rfl,rfl⟩|⟨rfl,hk⟩
  ·exact pH _ hm.1.1 (ih _ _ hm.1.2)
  ·have h2:=hm.2 (yh _ hs) k (by rcases hk with rfl|rfl<;>decide)
   exact pH _ h2.1 (ih _ _ h2.2)
section
variable {c:Cx}{r:Nat}{tk:Tk}{rb a:SQ}
theorem one{f f':Addr}{tk tk':Tk}{rb a rb' a':SQ}{its:List D}(h:gq c r f tk rb a f' tk' rb' a' its)(hf:TT.fn f=true):Run4 c r f tk rb a f' tk' rb' a' its:=by
 have:=Run4.cons h hf (.nil f' tk' rb' a')
 rwa[List.append_nil] at this
noncomputable abbrev vO:Nat->Nat:=iF 0 65533
theorem Lo{x:Nat}(h:ey x):Aq (vO x):=by
 show Aq (if x=0 then 65533 else x)
 split
 ·exact .inr rfl
 ·exact .inl h
theorem Cy(e:aY c)(b:Bool):∀(w n rb a:SQ),(∀x∈w,x∈GY\/x=0)->n.length+w.length<=900 ->
  Run4 c (r+7) 367 (Ac b n) rb (w++a) 367 (Ac b (n++w.map vO)) (w.reverse++rb) a (List.replicate (w.count 0) (cM mV)):=by
 intro w
 induction w with
 |nil=>intro n rb a _ _;rw[List.map_nil,List.append_nil];exact .nil _ _ _ _
 |cons x w ih=>
  intro n rb a hw hl
  rw[ag] at hl
  have hw':∀y∈w,y∈GY\/y=0:=fun y hy=>hw y (ad _ hy)
  rw[List.reverse_cons,af,List.map_cons]
  by_cases h0:x=0
  ·subst h0
   rw[List.count_cons_self,List.replicate_succ]
   have k:=ih (n++[65533]) (0::rb) a hw' (by rw[ae];simp;omega)
   rw[af] at k
   exact .cons ((Po (rb:=rb) (a:=w++a) b (by omega)).step e) rfl k
  ·rw[List.count_cons_of_ne h0]
   have hx:x∈GY:=(hw x aa).resolve_right h0
   have k:=ih (n++[x]) (x::rb) a hw' (by rw[ae];simp;omega)
   rw[af] at k
   rw[show vO x=x from ar h0]
   exact .cons ((Pp (rb:=rb) (a:=w++a) b (by omega) x hx).step e) rfl k
theorem GL:∀raw:SQ,(∀x∈raw,ey x)->lm (raw.map vO)=En raw:=by
 have key:∀x∈[60,97,62,47,66,32,33,13,49,63,10,44,0,122,81,9,201,160],iP (iF 0 65533 x)=iF 0 65533 (iF 81 113 (iF 66 98 x)):=by decide
 intro raw
 induction raw with
 |nil=>intro _;rfl
 |cons x w ih=>
  intro h
  have h1:=key x (h x aa)
  have h2:=ih fun y hy=>h y (ad _ hy)
  show iP (iF 0 65533 x)::lm (w.map vO)=iF 0 65533 (iF 81 113 (iF 66 98 x))::En w
  rw[h1,h2]
theorem pB(e:aY c)(b:Bool){x:Nat}{w after rb:SQ}(hx:ey x)(hx0:x≠0)(ha:after=[]\/∃r,after=62::r)(hw:∀x∈w,x∈GY\/x=0)(hok:∀x∈w,ey x)(hl:w.length<=800) :
  ∃tk' rb',Run4 c (r+7) 367 (Ac b [x]) rb (w++after) 304 tk' rb' (after.drop 1) (fW (LQ b) (x::w) (!after.isEmpty))/\rb'.reverse++after.drop 1=rb.reverse++(w++after):=by
 have g:=Cy (r:=r) e b w [x] rb after hw (by simp;omega)
 have hc:(x::w).count 0=w.count 0:=List.count_cons_of_ne hx0
 have hm:[x]++w.map vO=(x::w).map vO:=by rw[List.map_cons,show vO x=x from ar hx0];rfl
 rw[hm] at g
 have hn:=GL (x::w) fun y hy=>by rcases List.mem_cons.mp hy with q|q;rw[q];exact hx;exact hok y q
 have hln:((x::w).map vO).length<=1000:=by rw[ah,ag];omega
 have hkn:∀y∈(x::w).map vO,Aq y:=fun y hy=>by
  obtain⟨u,hu,rfl⟩:=List.mem_map.mp hy
  exact Lo (by rcases List.mem_cons.mp hu with q|q;rw[q];exact hx;exact hok u q)
 rcases ha with rfl|⟨q,rfl⟩
 ·refine⟨Ac b ((x::w).map vO),w.reverse++rb,?_,?_⟩
  ·have:=g.app (one ((Pq (n:=(x::w).map vO) (rb:=w.reverse++rb) b).step e) rfl)
   rw[←hc] at this
   exact this
  ·rw[List.reverse_append,List.reverse_reverse,af];rfl
 ·refine⟨Qh b (En (x::w)),62::(w.reverse++rb),?_,?_⟩
  ·have:=g.app (one ((Pr (n:=(x::w).map vO) (rb:=w.reverse++rb) (a:=q) b hkn hln).step e) rfl)
   rw[←hc,hn] at this
   exact this
  ·rw[List.reverse_cons,List.reverse_append,List.reverse_reverse,af,af];rfl
theorem Ib:∀(w after:SQ),(∀x∈w,x≠62)->(after=[]\/∃r,after=62::r)->dH [62] false (w++after)=w:=by
 intro w
 induction w with
 |nil=>intro after _ h;rcases h with rfl|⟨r,rfl⟩<;>rfl
 |cons x w ih=>
  intro after hw h
  have h1:=ih after (fun y hy=>hw y (ad _ hy)) h
  have hx:=hw x aa
  unfold dH at h1 ⊢
  rw[List.cons_append,List.takeWhile_cons,show (decide (x∈[62])==false)=true by simp[hx],au rfl,h1]
theorem mx(e:aY c){w after rb:SQ}(ha:after=[]\/∃r,after=62::r)(hw:∀x∈w,x≠62)(hl:w.length<=800) :
  ∃rb',Run4 c (r+7) 598 tk rb (w++after) 304 tk rb' (after.drop 1) [fH dU (st (w.map (iF 0 65533)))]/\rb'.reverse++after.drop 1=rb.reverse++(w++after):=by
 have ht:=Ib w after hw ha
 rw[←hJ]
 rcases ha with rfl|⟨q,rfl⟩
 ·refine⟨w.reverse++rb,one ((Pd ht (by omega)).step e) rfl,?_⟩
  rw[List.reverse_append,List.reverse_reverse,af];rfl
 ·refine⟨62::(w.reverse++rb),one ((Pe ht (by omega)).step e) rfl,?_⟩
  rw[List.reverse_cons,List.reverse_append,List.reverse_reverse,af,af];rfl
end
theorem jv(x:Nat):[x]∈gT↔x∈sy:=by simp[gT,sy]
theorem AK(x:Nat):[x]∈my↔x∈[47,33,63]:=by simp[my]
theorem Hk(x y:Nat):[x]=[y]↔x=y:=⟨fun h=>by cases h;rfl,fun h=>by rw[h]⟩
section
variable {i:SQ}{x:Nat}{wh:Bool}
theorem GQ(h:x∈sy):fN (x::i) wh=some (fW eM (x::i) wh):=au ((jv x).mpr h)
theorem Ct(h:x∉sy)(h2:x≠47):fN (x::i) wh=if [x]∈my then some [cM (ou x),fH dU (st (g5 (x::i)))] else none:=by
 have a1:¬ ((x::i).take 1∈gT):=fun q=>h ((jv x).mp q)
 have a2:¬ ((x::i).take 1=[47]):=fun q=>h2 ((Hk x 47).mp q)
 have a3:¬ (x::i=[47]):=fun q=>h2 (List.cons.inj q).1
 unfold fN
 rw[ar a1,ar fun q=>a2 q.1,ar fun q=>(nomatch q.1),ar fun q=>a3 q.1,ar a3]
 rfl
theorem KM(h:i.take 1∈gT):fN (47::i) wh=some (fW lr i wh):=by
 unfold fN
 rw[ar (by show ¬ ([47]∈gT);decide),au ⟨rfl,h⟩]
 rfl
theorem KL{y:Nat}(h:y∉sy):fN (47::y::i) wh=some [cM An,fH dU (st (g5 (47::y::i)))]:=by
 have a3:¬ (47::y::i=[47]):=fun q=>(nomatch (List.cons.inj q).2)
 unfold fN
 rw[ar (by show ¬ ([47]∈gT);decide),ar fun q=>h ((jv y).mp q.2),ar fun q=>(nomatch q.1),ar fun q=>a3 q.1,ar a3,au (by show [47]∈my;decide)]
 rfl
end
section
variable {c:Cx}{r:Nat}{tk:Tk}{rb a:SQ}
theorem wC{f f1 f2:Addr}{tk tk1 tk2:Tk}{rb a rb1 a1 rb2 a2:SQ}{js:List D}(st:gq c r f tk rb a f1 tk1 rb1 a1 [])(hf:TT.fn f=true)(t:Run4 c r f1 tk1 rb1 a1 f2 tk2 rb2 a2 js):Run4 c r f tk rb a f2 tk2 rb2 a2 js:=.cons st hf t
def tM(c:Cx)(r:Nat)(tk:Tk)(rb inner after:SQ):Prop:=match fN inner (!after.isEmpty) with
 |some its=>∃tk' rb',Run4 c (r+7) 353 tk rb (inner++after) 304 tk' rb' (after.drop 1) its/\rb'.reverse++after.drop 1=rb.reverse++(inner++after)
 |none=>Run4 c (r+7) 353 tk rb (inner++after) 304 tk rb (inner++after) [cM rX,f8 [60]]
theorem dR{inner after:SQ}{its:List D}(h:fN inner (!after.isEmpty)=some its)(k:∃tk' rb',Run4 c (r+7) 353 tk rb (inner++after) 304 tk' rb' (after.drop 1) its/\rb'.reverse++after.drop 1=rb.reverse++(inner++after)):tM c r tk rb inner after:=by
 unfold tM;rw[h];exact k
theorem sD{inner after:SQ}(h:fN inner (!after.isEmpty)=none)(k:Run4 c (r+7) 353 tk rb (inner++after) 304 tk rb (inner++after) [cM rX,f8 [60]]):tM c r tk rb inner after:=by
 unfold tM;rw[h];exact k
def Gh(x:Nat):Prop:=ey x/\x≠62/\x∉[9,10,32,13]
theorem Ea{x:Nat}(h:Gh x)(h2:x≠47):x∈GY\/x=0:=by
 have key:∀x∈[60,97,62,47,66,32,33,13,49,63,10,44,0,122,81,9,201,160],x≠62->x∉[9,10,32,13]->x≠47->x∈GY\/x=0:=by decide
 exact key x h.1 h.2.1 h.2.2 h2
theorem J4{x:Nat}(h:Gh x)(h2:x∉sy)(h3:x∉[47,33,63]):x∈P2:=by
 have key:∀x∈[60,97,62,47,66,32,33,13,49,63,10,44,0,122,81,9,201,160],x≠62->x∉[9,10,32,13]->x∉sy->x∉[47,33,63]->x∈P2:=by decide
 exact key x h.1 h.2.1 h.2.2 h2 h3
theorem J3{x:Nat}(h:Gh x)(h2:x∉sy):x∈NG:=by
 have key:∀x∈[60,97,62,47,66,32,33,13,49,63,10,44,0,122,81,9,201,160],x≠62->x∉[9,10,32,13]->x∉sy->x∈NG:=by decide
 exact key x h.1 h.2.1 h.2.2 h2
theorem Lp{x:Nat}(h:ey x):x≠45/\x≠100/\x≠68/\x≠91:=by
 have key:∀x∈[60,97,62,47,66,32,33,13,49,63,10,44,0,122,81,9,201,160],x≠45/\x≠100/\x≠68/\x≠91:=by decide
 exact key x h
theorem KH:∀x∈sy,x≠0:=by decide
theorem bw(x:Nat)(rb a:SQ):(x::rb).reverse++a=rb.reverse++x::a:=by rw[List.reverse_cons,af];rfl
theorem KK(e:aY c){inner after:SQ}(ha:after=[]\/∃q,after=62::q)(hi:∀x∈inner,Gh x)(h47:47∉inner.drop 1)(hl:inner.length<=700):tM c r tk rb inner after:=by
 have ok62:∀x∈after,True:=fun _ _=>trivial
 cases inner with
 |nil=>
  rcases ha with rfl|⟨q,rfl⟩
  ·exact sD rfl (one (r_te.step e) rfl)
  ·exact dR rfl ⟨tk,62::rb,one (r_tg.step e) rfl,bw _ _ _⟩
 |cons x i=>
  have hx:=hi x aa
  have hi':∀y∈i,Gh y:=fun y hy=>hi y (ad _ hy)
  have h47:47∉i:=h47
  rw[ag] at hl
  by_cases hL:x∈sy
  ·refine dR (GQ hL) ?_
   obtain⟨tk',rb',k1,k2⟩:=pB (r:=r) (rb:=x::rb) e false hx.1 (KH x hL) ha (fun y hy=>Ea (hi' y hy) fun q=>h47 (q▸hy)) (fun y hy=>(hi' y hy).1) (by omega)
   exact⟨tk',rb',wC ((Ps x hL).step e) rfl k1,by rw[k2];exact bw _ _ _⟩
  by_cases h7:x=47
  ·subst h7
   cases i with
   |nil=>
    rcases ha with rfl|⟨q,rfl⟩
    ·exact dR rfl ⟨tk,47::rb,.cons (r_ts.step e) rfl (one (r_ce.step e) rfl),bw _ _ _⟩
    ·exact dR rfl ⟨tk,62::47::rb,.cons (r_ts.step e) rfl (one (r_cg.step e) rfl),by rw[bw,bw];rfl⟩
   |cons y j=>
    have hy:=hi' y aa
    have hj:∀z∈j,Gh z:=fun z hz=>hi' z (ad _ hz)
    rw[ag] at hl
    by_cases hM:y∈sy
    ·refine dR (KM ((jv y).mpr hM)) ?_
     obtain⟨tk',rb',k1,k2⟩:=pB (r:=r) (rb:=y::47::rb) e true hy.1 (KH y hM) ha (fun z hz=>Ea (hj z hz) fun q=>h47 (q▸ad _ hz)) (fun z hz=>(hj z hz).1) (by omega)
     exact⟨tk',rb',wC (r_ts.step e) rfl (wC ((Pg y hM).step e) rfl k1),by rw[k2,bw,bw];rfl⟩
    ·refine dR (KL hM) ?_
     obtain⟨rb',k1,k2⟩:=mx (r:=r) (tk:=tk) (rb:=47::rb) e ha (w:=y::j) (fun z hz=>(hi' z hz).2.1) (by rw[ag];omega)
     exact⟨tk,rb',.cons (r_ts.step e) rfl (.cons ((Pj y (J3 hy hM)).step e) rfl k1),by rw[k2];exact bw _ _ _⟩
  have hr:=Ct (i:=i) (wh:=!after.isEmpty) hL h7
  by_cases h3:x=33
  ·subst h3
   rw[au (by decide)] at hr
   refine dR hr ?_
   obtain⟨rb',k1,k2⟩:=mx (r:=r) (tk:=tk) (rb:=33::rb) e ha (w:=i) (fun z hz=>(hi' z hz).2.1) (by omega)
   have key:gq c (r+7) 605 tk (33::rb) (i++after) 598 tk (33::rb) (i++after) [cM qD]:=by
    cases h:i++after with
    |nil=>exact Md e
    |cons y u=>
     refine Mc e (Lp ?_)
     cases i with
     |nil=>
      rcases ha with rfl|⟨q,rfl⟩
      ·cases h
      ·cases h;unfold ey;decide
     |cons z i=>cases h;exact (hi' _ aa).1
   exact⟨tk,rb',.cons (r_t1.step e) rfl (.cons key rfl k1),by rw[k2];exact bw _ _ _⟩
  by_cases h6:x=63
  ·subst h6
   rw[au (by decide)] at hr
   refine dR hr ?_
   obtain⟨rb',k1,k2⟩:=mx (r:=r) (tk:=tk) (rb:=rb) e ha (w:=63::i) (fun z hz=>(hi z hz).2.1) (by rw[ag];omega)
   exact⟨tk,rb',.cons (r_tq.step e) rfl k1,k2⟩
  ·have hn:x∉[47,33,63]:=by simp[h7,h3,h6]
   rw[ar fun q=>hn ((AK x).mp q)] at hr
   exact sD hr (one ((Pt x (J4 hx hL hn)).step e) rfl)
end
theorem wL(a:SQ):a.dropWhile bC=[]\/∃q,a.dropWhile bC=62::q:=by
 induction a with
 |nil=>exact .inl rfl
 |cons x a ih=>
  rw[List.dropWhile_cons]
  by_cases h:x=62
  ·subst h;exact .inr ⟨a,rfl⟩
  ·rw[au (show bC x=true from bne_iff_ne.mpr h)];exact ih
theorem Dv{f:Nat->Bool}:∀(a:SQ),∀x∈a.takeWhile f,x∈a/\f x=true:=by
 intro a
 induction a with
 |nil=>intro x h;cases h
 |cons y a ih=>
  intro x h
  rw[List.takeWhile_cons] at h
  by_cases q:f y=true
  ·rw[au q] at h
   rcases List.mem_cons.mp h with e|e
   ·rw[e];exact⟨List.mem_cons_self ..,q⟩
   ·exact⟨ad _ (ih x e).1,(ih x e).2⟩
  ·rw[ar q] at h;cases h
theorem tB{f g:Nat->Bool}:∀(a:SQ),(∀x∈a,f x=g x)->a.takeWhile f=a.takeWhile g:=by
 intro a
 induction a with
 |nil=>intro _;rfl
 |cons y a ih=>
  intro h
  rw[List.takeWhile_cons,List.takeWhile_cons,h y aa,ih fun x hx=>h x (ad _ hx)]
theorem yt(s:Nat):u5 s 60≠0:=by unfold u5;rw[ar (by decide)];split<;>decide
theorem qC{f:Nat->Bool}{a:SQ}{x:Nat}(h:x∈a.dropWhile f):x∈a:=by
 rw[←List.takeWhile_append_dropWhile (p:=f) (l:=a)]
 exact List.mem_append_right _ h
section
variable {c:Cx}{r:Nat}
theorem C4(e:aY c):∀(n:Nat) (a rb:SQ) (tk:Tk) (s:Nat),a.length<=n->a.length<=600->eX s a->(∀x∈a,ey x/\x≠13) ->
  ∃tk' rb',Run4 c (r+7) 304 tk rb a 304 tk' rb' [] (cy n a)/\rb'.reverse=rb.reverse++a:=by
 intro n
 induction n with
 |zero=>
  intro a rb tk s hn _ _ _
  obtain rfl:=List.length_eq_zero_iff.mp (Nat.le_zero.mp hn)
  exact⟨tk,rb,.nil _ _ _ _,(List.append_nil _).symm⟩
 |succ n ih=>
  intro a rb tk s hn hl hs hc
  cases a with
  |nil=>exact⟨tk,rb,.nil _ _ _ _,(List.append_nil _).symm⟩
  |cons x a=>
   obtain⟨s1,s2,s3⟩:=hs
   have hx:=hc x aa
   have hc':∀y∈a,ey y/\y≠13:=fun y hy=>hc y (ad _ hy)
   have hn':=Nat.le_of_succ_le_succ hn
   have hl':=Nat.le_of_succ_le hl
   have tl:∀f:Nat->Bool,(a.takeWhile f).length<=1000:=fun f=>bq (ak (kX a) hl')
   have dl:∀f:Nat->Bool,(a.dropWhile f).length<=a.length:=fun f=>Nat.le.intro ((Nat.add_comm _ _).trans (fg a))
   rw[cW]
   by_cases h60:x=60
   ·subst h60
    rw[au rfl]
    obtain⟨k1,k2,k3⟩:=sJ _ (yt s) s3
    have hd:=fg (f:=bC) a
    have h47:47∉(a.takeWhile bC).drop 1:=by
     cases a with
     |nil=>intro h;cases h
     |cons y a=>
      rw[List.takeWhile_cons]
      by_cases q:y=62
      ·subst q;rw[ar (show ¬ bC 62=true by decide)];intro h;cases h
      ·rw[au (show bC y=true from bne_iff_ne.mpr q)]
       have e2:u5 (u5 s 60) y=2:=by
        have:=yt s
        generalize u5 s 60=t at this
        unfold u5;rw[ar q,ar this]
       have s4:=s3.2.2
       rw[e2] at s4
       exact (sJ 2 (by decide) s4).2.1 rfl
    have hin:∀y∈a.takeWhile bC,Gh y:=fun y hy=>by
     obtain⟨m1,m2⟩:=Dv a y hy
     exact⟨(hc' y m1).1,bne_iff_ne.mp m2,k1 y hy⟩
    have g:=KK (r:=r) (tk:=tk) (rb:=60::rb) e (wL a) hin h47 (bq (ak (kX a) hl'))
    unfold tM at g
    rw[List.takeWhile_append_dropWhile] at g
    show ∃tk' rb',Run4 c (r+7) 304 tk rb (60::a) 304 tk' rb' [] (match fN (a.takeWhile bC) (!(a.dropWhile bC).isEmpty) with
     |some its=>its++cy n ((a.dropWhile bC).drop 1)
     |none=>[cM rX,f8 [60]]++cy n a)/\_
    cases hq:fN (a.takeWhile bC) (!(a.dropWhile bC).isEmpty) with
    |none=>
     rw[hq] at g
     obtain⟨tk',rb',p1,p2⟩:=ih a (60::rb) tk _ hn' hl' s3 hc'
     exact⟨tk',rb',wC (r_dl.step e) rfl (Run4.app g p1),by rw[p2];exact bw _ _ _⟩
    |some its=>
     rw[hq] at g
     obtain⟨tk1,rb1,g1,g2⟩:=g
     obtain⟨tk',rb',p1,p2⟩:=ih ((a.dropWhile bC).drop 1) rb1 tk1 0 (by rw[List.length_drop];exact ak (Nat.sub_le _ _) (ak (dl bC) hn')) (by rw[List.length_drop];exact ak (Nat.sub_le _ _) (ak (dl bC) hl')) k3 fun y hy=>hc' y (qC (List.mem_of_mem_drop hy))
     exact⟨tk',rb',wC (r_dl.step e) rfl (Run4.app g1 p1),by rw[p2,g2];exact bw _ _ _⟩
   rw[ar h60]
   by_cases h0:x=0
   ·subst h0
    rw[au rfl]
    obtain⟨tk',rb',p1,p2⟩:=ih a (0::rb) tk _ hn' hl' s3 hc'
    exact⟨tk',rb',.cons (r_d0.step e) rfl p1,by rw[p2];exact bw _ _ _⟩
   rw[ar h0]
   by_cases hb:cj x=true
   ·rw[au hb]
    have hd:=fg (f:=cj) a
    obtain⟨s',s4⟩:=sI (f:=cj) s3
    obtain⟨tk',rb',p1,p2⟩:=ih (a.dropWhile cj) ((a.takeWhile cj).reverse++x::rb) tk s' (ak (dl cj) hn') (ak (dl cj) hl') s4 fun y hy=>hc' y (qC hy)
    have ht:dH [9,10,12,32,13] true (a.takeWhile cj++a.dropWhile cj)=a.takeWhile cj:=by
     rw[List.takeWhile_append_dropWhile]
     refine tB a fun y hy=>?_
     have key:∀y∈[60,97,62,47,66,32,33,13,49,63,10,44,0,122,81,9,201,160],y≠13->(decide (y∈[9,10,12,32,13])==true)=cj y:=by unfold cj;decide
     exact key y (hc' y hy).1 (hc' y hy).2
    have hxb:x∈Nr:=by
     have:=of_decide_eq_true hb
     revert this;simp[Nr];omega
    have st:=(Pk (tk:=tk) (rb:=rb) ht (tl cj) x hxb).step (r:=r) e
    rw[List.takeWhile_append_dropWhile] at st
    refine⟨tk',rb',.cons st rfl p1,?_⟩
    rw[p2,List.reverse_append,List.reverse_reverse,af,List.takeWhile_append_dropWhile]
    exact bw _ _ _
   ·rw[ar hb]
    have hd:=fg (f:=dC) a
    obtain⟨s',s4⟩:=sI (f:=dC) s3
    obtain⟨tk',rb',p1,p2⟩:=ih (a.dropWhile dC) ((a.takeWhile dC).reverse++x::rb) tk s' (ak (dl dC) hn') (ak (dl dC) hl') s4 fun y hy=>hc' y (qC hy)
    have ht:dH [38,60,0] false (a.takeWhile dC++a.dropWhile dC)=a.takeWhile dC:=by
     rw[List.takeWhile_append_dropWhile]
     refine tB a fun y hy=>?_
     have key:∀y∈[60,97,62,47,66,32,33,13,49,63,10,44,0,122,81,9,201,160],(decide (y∈[38,60,0])==false)=dC y:=by unfold dC;decide
     exact key y (hc' y hy).1
    have hxt:x∈NS:=by
     have key:∀y∈[60,97,62,47,66,32,33,13,49,63,10,44,0,122,81,9,201,160],y≠60->y≠0->y≠13->¬ cj y=true->y∈NS:=by unfold cj;decide
     exact key x hx.1 h60 h0 hx.2 hb
    have st:=(Pl (tk:=tk) (rb:=rb) ht (tl dC) x hxt).step (r:=r) e
    rw[List.takeWhile_append_dropWhile] at st
    refine⟨tk',rb',.cons st rfl p1,?_⟩
    rw[p2,List.reverse_append,List.reverse_reverse,af,List.takeWhile_append_dropWhile]
    exact bw _ _ _
end
theorem gH{n:Nat}:∀(xs ys:List D),bK (n+1) xs=true->bK (n+1) ys=true->bK (n+1) (xs++ys)=true:=by
 intro xs ys
 induction xs with
 |nil=>intro _ h;exact h
 |cons x xs ih=>
  intro h k
  rw[dq] at h
  have h:=ay h
  show bK (n+1) (x::(xs++ys))=true
  rw[dq,h.1,ih h.2 k];rfl
theorem BB:∀n:Nat,bK 29 (List.replicate n (cM mV))=true:=by
 intro n
 induction n with
 |zero=>exact rfl
 |succ n ih=>rw[List.replicate_succ,dq,ih];rfl
theorem oO(k raw:SQ)(w:Bool):bK 29 (fW k raw w)=true:=by
 unfold fW
 refine gH _ _ (BB _) ?_
 cases w<;>rfl
theorem BA{inner:SQ}{w:Bool}{its:List D}(h:fN inner w=some its):bK 29 its=true:=by
 unfold fN at h
 split at h
 ·cases h;exact oO _ _ _
 split at h
 ·cases h;exact oO _ _ _
 split at h
 ·cases h;rfl
 split at h
 ·cases h;rfl
 split at h
 ·cases h;rfl
 split at h
 ·cases h;rfl
 ·cases h
theorem xh:∀(n:Nat) (a:SQ),bK 29 (cy n a)=true:=by
 intro n
 induction n with
 |zero=>intro a;rfl
 |succ n ih=>
  intro a
  cases a with
  |nil=>rfl
  |cons x a=>
   rw[cW]
   split
   ·split
    ·rename_i its h
     exact gH _ _ (BA h) (ih _)
    ·exact gH _ _ rfl (ih _)
   ·split
    ·exact gH _ _ rfl (ih _)
    ·split
     ·rw[dq,ih];rfl
     ·rw[dq,ih];rfl
mutual
theorem eqv_refl:∀(n:Nat) (d:D),b7 n d=true->PyData.eqv d d=true
 |n,.none,_=>rfl
 |n,.bool b,_=>by cases b<;>rfl
 |n,.int i,_=>by show (i==i)=true;simp
 |n,.str x,_=>by show (x==x)=true;simp
 |n+1,.list xs,h=>iE n xs h
 |n+1,.tuple xs,h=>iE n xs h
 |0,.list xs,h=>by nomatch h
 |0,.tuple xs,h=>by nomatch h
 |n,.dict xs,h=>by cases n<;>cases h
theorem iE:∀(n:Nat) (xs:List D),bK n xs=true->PyData.eqvAll xs xs=true
 |n,[],_=>rfl
 |n,x::xs,h=>by
  have h:(b7 n x&&bK n xs)=true:=by cases n<;>exact h
  refine aS h fun h1 h2=>?_
  rw[oJ,eqv_refl n x h1,iE n xs h2];rfl
end
theorem rY{d:D}(h:b7 30 d=true):bB .eq d d=some true:=by
 rw[DX,h,eqv_refl 30 d h];rfl
section
variable {c:Cx}{r:Nat}
noncomputable abbrev ru:Option Cell:=some (.inst 762 [(21,.r 1),(41,.d .none),(42,.d (.bool false)),(43,.d (.list [])),(44,.m 304 0),(46,.d (.bool false)),(47,.d .none)])
noncomputable abbrev Au(T:SQ):Sm:=⟨T,0,[],0,0,0,none,0⟩
theorem P4(e:aY c){L:List Int}(hL:L.length<=63){k:Nat}{Q:Fl->aD->Hp->Prop}(q:Q .next (mL (.list (L.map .int)) (st (cD false (L.take 24)))) (Hs ru (Au (cD false (L.take 24))) [some (.dlist [])])):wS c TT (r+8) k mS [(52,.d (.list (L.map .int)))] [] Q:=by
 refine df (cg (vs:=[.d (.list (L.map .int))]) (H2:=[]) (by rfl) (by rfl) (Iu (r:=r+6) e hL) (e8 ?_))
 refine tg (m':=[(52,.d (.list (L.map .int))),(1,.d (st (cD false (L.take 24))))]) (H':=[]) (by rfl) ?_
 generalize cD false (L.take 24)=T at q
 refine df (cg (vs:=[.d (st T)]) (H2:=[]) (by rfl) (by rfl) (DA (r:=r+1) e) (e8 ?_))
 refine tg (m':=[(52,.d (.list (L.map .int))),(1,.d (st T)),(72,.r 0)]) (H':=Hs ru (Au T) []) (by rfl) ?_
 exact aK (v:=.r 4) (H1:=Hs ru (Au T) [some (.dlist [])]) (m1:=mL (.list (L.map .int)) (st T)) (H2:=Hs ru (Au T) [some (.dlist [])]) (by rfl) (by rfl) (aF q)
noncomputable abbrev lf(M:SQ)(tk:Tk)(rb:SQ)(s:Sm):Hp:=br s (tr 304 (some (.dlist (cy M.length M))) tk rb [] none).H
def MM(script text:D)(M:SQ)(m':aD)(H':Hp):Prop:=m'=mL script text/\∃tk rb s,rb.reverse=M/\e6 M M.length s/\H'=br s (tr 304 (some (.dlist (cy M.length M))) tk rb [] none).H
theorem MF(e:aY c){a:Addr}{script text:D}{T:SQ}(hl:(c5 false T).length<=200)(I:e6 (c5 false T) 0 (Au T))(hn:eX 0 (c5 false T))(hc:∀x∈c5 false T,ey x/\x≠13) :
  ∃N,wS c TT (r+7) 6 mR mG (Hs ru (Au T) [some (.dlist [])]) fun fl m' H'=>fl=.next/\m'=mG/\gW c (r+7) a (MM script text (c5 false T)) N false (mL script text) H':=by
 generalize c5 false T=M at hl I hn hc
 obtain⟨tk',rb',run,hz⟩:=C4 (r:=r) e M.length M [] .no 0 (ao _) (bq hl) hn hc
 have hz:rb'.reverse=M:=hz
 obtain⟨j,k⟩:=J1 (A:=a) (Qe:=MM script text M) (script:=script) (text:=text) run (got:=[]) (ak (an (Nat.zero_add _)) (ak (zp _ _) (bq (Nat.mul_le_mul_left 2 hl))))
 refine⟨1+j,?_⟩
 refine ev (v:=.r 5) (H':=Hs ru (Au T) [some (.dlist []),cq []]) (by rfl) (tg (m':=mG) (H':=Hs (nT (.m 304 0) (.d .none) (.r 5) []) (Au T) [some (.dlist []),cq []]) (by rfl) ⟨rfl,rfl,?_⟩)
 refine k 1 (fun H' hd=>J0 e hd fun s J=>⟨rfl,tk',rb',s,hz,?_,rfl⟩) _ ⟨Au T,Gc,I⟩
 have hl:M.length=rb'.length:=by rw[←hz,List.length_reverse]
 rw[hl,←hz];exact J
theorem P5(e:aY c){script:D}{T M:SQ}(hl:M.length<=200)(hmd:∀H,SemCall c (r+8) (.ref 806) [.d (st T)] H fun y H'=>y=.d (st M)/\H'=H){m':aD}{H':Hp}(h:MM script (st T) M m' H'){k:Nat}{Q:Fl->aD->Hp->Prop}(q:∀m H,Q (.ret (.d (.bool true))) m H) :
  wS c TT (r+8) k mT m' H' Q:=by
 obtain⟨rfl,tk,rb,s,hz,I,rfl⟩:=h
 have hM:∀H:Hp,True:=fun _=>trivial
 have hr:lp (lf M tk rb s).length (lf M tk rb s)=true:=by cases tk<;>rfl
 refine df (cg (vs:=[.d (st T)]) (H2:=lf M tk rb s) (by rfl) (by rfl) (hmd _) (e8 ?_))
 refine tg (m':=mL script (st T)++[(68,.d (st M))]) (H':=lf M tk rb s) (by rfl) ?_
 refine rd rfl (rE (gm (ev (v:=.r 4) (H':=lf M tk rb s) (by rfl) ?_)))
 refine cg (vs:=[.d (st M)]) (H2:=lf M tk rb s) (by rfl) (by rfl) (MG (r:=r+5) e (bq hl) hr) (e8 ?_)
 have hc:cw TT (lf M tk rb s) .eq (.r 4) (.d (.list (cy M.length M)))=some true:=by
  show bB .eq (.list (cy M.length M)) (.list (cy M.length M))=some true
  exact rY (xh _ _)
 refine av hc (av (a7 _) ?_)
 rw[au rfl]
 have I2:e6 M M.length s:=I
 refine gm (ja (ov:=.r 1) (p:=(126,1)) (vs:=[]) (H1:=lf M tk rb s) (H2:=lf M tk rb s) (by rfl) (by rfl) (by rfl) (rD (r:=r+6) e I2) (e8 ?_))
 refine cg (vs:=[.d (st M)]) (H2:=lf M tk rb s) (by rfl) (by rfl) (Iq (r:=r+7) e) (e8 ?_)
 rw[List.take_length]
 exact av (rY (d:=.tuple [.int ((cV 0 M:Nat)+1),.int (cU 0 M:Nat)]) rfl) (q _ _)
end
section
variable {c:Cx}{r:Nat}{L:Addr}{m:aD}{H:Hp}{B Z h h':Heap}{U:Ph}
theorem u2{M:Model}{A:Around}{E:SU}{s:Shared}{scope:Scope}{globals:Addr}{x:Str}{v:Value}{qual:Str}{func:Option Addr}{code:Value}{builtins:Addr}{Q:Env->Shared->Prop}
  (hk:scope.kind=.function)(hl:scope.names.lookup x=some .cell)(hc:∀n,cellsFrom n scope.names []=[(x,n)])
  (hQ:∀h',h'.Ns s.heap.objs.size (fun _=>none)->(∀b o,s.heap.get? b=some o->h'.get? b=some o)->h'.IsCell (s.heap.objs.size+1) (some v) ->
   Q (newEnv scope s.heap.objs.size globals [(x,s.heap.objs.size+1)] qual func code none builtins) { s with heap:=h' }) :
  wpAny M A (newFunctionEnv scope globals [] [(x,v)] qual func code none builtins) Q E s:=by
 simp only[newFunctionEnv,Option.isSome_none,Bool.false_eq_true,if_false]
 refine wpAny_bind (wpAny_alloc ?_)
 refine wpAny_bind (wpAny_layCells _ (fun name kind cells=>by cases hkc:kind==NameKind.cell<;>simp[hkc]) _ _ _ _ ?_)
 have ok:=cellsFrom_ok scope.names (s.heap.push { cls:=.type "frame", data:=.dict #[] }) (s.heap.objs.size+1) [] ⟨fun _ _ hm=>(nomatch hm),List.Pairwise.nil⟩ (by rw[Heap.size_push];exact ao _)
 rw[Heap.size_push] at ok
 rw[show ({ s with heap:=s.heap.push { cls:=.type "frame", data:=.dict #[] } }:Shared).heap.objs.size=s.heap.objs.size+1 from Heap.size_push ..]
 rw[hc] at ok ⊢
 obtain⟨h1,h2⟩:=ok.empty _ _ (.head _)
 refine wpAny_bind ?_
 rw[List.forIn_cons]
 refine wpAny_bind (wpAny_bind ?_)
 refine wpAny_storeName_cell (v₀:=none) hk hl (by show List.lookup x [(x,_)] = _;rw[List.lookup_cons,beq_self_eq_true]) h1 fun h' hcell hsame=>wpAny_pure ?_
 show wpAny M A (forIn [] _ _) _ _ _
 rw[List.forIn_nil]
 refine wpAny_pure (wpAny_pure (hQ h' ?_ (fun b o e=>(hsame.2 b ?_).trans (pushCells_keeps _ _ b o (Heap.get?_push_of_some _ e))) hcell))
 ·exact ((Heap.Ns.new s.heap (.type "frame")).keeps (pushCells_keeps _ _)).at' fun o e=>(hsame.2 _ (Nat.ne_of_lt (Nat.lt_succ_self _))).trans e
 ·exact Nat.ne_of_lt (Nat.lt_succ_of_lt (Heap.lt_size e))
end
noncomputable def AQ(K:Frag)(cc:Addr)(q:Str):Bool:=match K.lookup cc with
 |some ⟨_,_,.fields vs,_⟩=>(match (vs:Array Value)[1]? with|some (Value.str x _)=>x==q|_=>false)
 |_=>false
theorem rP{K:Frag}{cc:Addr}{q:Str}(h:AQ K cc q=true):∃oc vs t,K.lookup cc=some oc/\oc.data=.fields vs/\vs[1]?=some (.str q t):=by
 unfold AQ at h
 rcases hl:K.lookup cc with _|⟨o1,o2,dt,o4⟩
 ·rw[hl] at h;nomatch h
 ·rw[hl] at h
  cases dt with
  |fields vs=>
   dsimp only at h
   rcases hv:(vs:Array Value)[1]? with _|x
   ·rw[hv] at h;nomatch h
   ·rw[hv] at h
    cases x with
    |str x t=>exact⟨_,vs,t,rfl,rfl,by rw[hv,eq_of_beq h]⟩
    |_=>nomatch h
  |_=>nomatch h
noncomputable def tH:X:=.ife (.cmp (.v 0) .eq (.c (st [13]))) (.c (st [10])) (.v 0)
noncomputable def tI:X:=.or (.cmp (.v 0) .ne (.c (st [10]))) (.or (.cmp (.v 75) .eq (.c (.int 0))) (.cmp (.ix (.f 1) (.bin .sub (.v 75) (.c (.int 1)))) .ne (.c (st [13]))))
noncomputable def eG:S:=.seq (.ret (.bm .join (.c (st [])) (.cons (.compE [1] tH 75 0 (.cons (.f 1) .nil) tI) .nil))) .nil
noncomputable def mdFd:FuncData:=match H.fo (H.st 28) "_law_mended" "_law_mended" .none .none .none (.str (Str.ofString "law_te0037_04") 1444) (.ref 805) .none with
 |.func fd=>fd
 |_=>default
theorem Ei(P:Params):(H.K P).lookup 806=some ⟨.type "function", none,.func mdFd,#[]⟩:=by kernel_rfl
theorem KN(P:Params):AQ (H.K P) 805 mdFd.qualname=true:=by kernel_rfl
theorem gV:(mdFd.scope.isCoroutine=false/\mdFd.scope.isGenerator=false/\mdFd.scope.kind=.function)/\mdFd.closure=[]/\mdFd.globals=mainGlobals/\mdFd.builtins=builtinsNs/\mdFd.code=.ref 805/\mdFd.body=.stmts (H.fnB (H.st 28)):=⟨⟨by kernel_rfl,by kernel_rfl,by kernel_rfl⟩,by kernel_rfl,by kernel_rfl,by kernel_rfl,by kernel_rfl,by kernel_rfl⟩
theorem GS:mdFd.scope.names.lookup (b9 tl.nms 1)=some .cell:=by kernel_rfl
theorem yc(n:Nat):cellsFrom n mdFd.scope.names []=[(b9 tl.nms 1,n)]:=by kernel_rfl
theorem OM(P:Params)(S:Setting)(v:Value):a8 (Mine.H.K P) S 806 [v]=some [(b9 tl.nms 1,v)]:=by kernel_rfl
theorem GU:d4 TT mdFd.scope eG (H.fnB (H.st 28))=true:=by kernel_rfl
theorem Cu{c:Cx}(e:aY c){s:Shared}(h:c.K.In s.heap)(v:Value):BindsTo s mdFd ⟨[v],[]⟩ [(c.nm 1,v)]:=kp_binds h fun S=>by
 have:=OM c.w.params S v
 rw[←e.nm] at this
 unfold a8 at this
 rw[Ei] at this
 rw[e.K];exact this
theorem GV{c:Cx}(e:aY c){h:Heap}(x:c.K.In h):h.CodeRec mdFd.code mdFd.qualname:=by
 obtain⟨oc,vs,t,c1,c2,c3⟩:=rP (KN c.w.params)
 exact⟨805,oc,vs,t,gV.2.2.2.2.1,x _ _ (by rw[e.K];exact c1),c2,c3⟩
section
variable {c:Cx}{r:Nat}{H:Hp}{T:SQ}
theorem l6{r:Nat}{A:Around}(hA:Room (r+1) A)(env:Env):Room r (A.deeper env):=by
 obtain⟨a1,a2,a3,l,a4⟩:=hA
 refine⟨?_,?_,a3,?_⟩
 ·exact IM (n:=1) rfl a1
 ·exact IN (n:=3) rfl a2
 ·exact⟨env::l,by show A.frames.map _ = _;rw[a4];rfl⟩
noncomputable def y9(T:SQ)(k:Nat):Bool:=k != 0&&decide (T[k-1]?=some 13)
theorem yg{a:Addr}(hf:lP 1 c.fr=some (a,st T))(hl:T.length<=1000){Q:List D->Hp->Prop}:∀(u:SQ) (k:Nat) (acc:List D),T.drop k=u->acc.length+u.length<=2000->Q (acc++(c5 (y9 T k) u).map fun x=>st [x]) H ->
  ME (H6 (fun m H K=>wX c TT r tI m H fun v H1=>ok (aN H1 v) fun z=>K z H1) (wX c TT r tH) 75 0) Q u k acc H:=by
 intro u
 induction u with
 |nil=>intro k acc _ _ q;have:=q;rw[show c5 (y9 T k) []=[] from rfl,List.map_nil,List.append_nil] at this;exact this
 |cons x u ih=>
  intro k acc hu hal q
  obtain⟨hx,hu1⟩:=fD hu
  have hkT:=oh hx
  rw[ag] at hal
  have hp1:y9 T (k+1)=decide (x=13):=by
   show ((k+1) != 0&&decide (T[k+1-1]?=some 13)) = _
   rw[Nat.add_sub_cancel,hx]
   show (true&&_) = _
   rw[Bool.true_and]
   exact decide_eq_decide.mpr ⟨fun w=>aj w,fun w=>by rw[w]⟩
  have tst:∀K:SV,K (.d (.bool (!(y9 T k&&decide (x=10))))) H->wX c TT r tI [(75,.d (.int k)),(0,.d (st [x]))] H K:=by
   intro K hK
   refine EU (ev (dM (o:=.ne) (a:=.v 0) (b:=.c (st [10])) (x:=.d (st [x])) rfl rfl (kw x 10)) (av (a7 _) (iA (fun h=>?_) fun h=>?_)))
   ·rw[decide_eq_false (bne_iff_ne.mp h),Bool.and_false] at hK
    rw[h];exact hK
   ·have h10:x=10:=by simpa using h
    rw[decide_eq_true h10,Bool.and_true] at hK
    have e1:cw TT H .eq (.d (.int k)) (.d (.int 0))=some (decide (k=0)):=by
     show some ((k:Int)==0) = _
     congr 1
     by_cases w:k=0
     ·subst w;rfl
     ·rw[decide_eq_false w];exact beq_eq_false_iff_ne.mpr fun q=>w (Int.ofNat_eq_zero.mp q)
    refine EU (ev (dM (o:=.eq) (a:=.v 75) (b:=.c (.int 0)) (x:=.d (.int k)) rfl rfl e1) (av (a7 _) (iA (fun h=>?_) fun h=>?_)))
    ·have h0:=of_decide_eq_true h
     rw[h];rw[h0] at hK;exact hK
    ·have h0:=of_decide_eq_false h
     have hk1:k-1<T.length:=Nat.lt_of_le_of_lt (Nat.sub_le _ _) hkT
     have hy:T[k-1]?=some T[k-1]:=List.getElem?_eq_getElem hk1
     have e3:k6 (st T) (.int ((k-1:Nat):Int))=some (st [T[k-1]]):=fX _ _ _ (qk hl (Nat.le_of_lt hk1)) (dm hy)
     have e4:aO TT (.bin .sub (.v 75) (.c (.int 1))) [(75,.d (.int k)),(0,.d (st [x]))] H=some (.d (.int ((k-1:Nat):Int)),H):=by
      rw[show ((k-1:Nat):Int)=(k:Int) - 1 from Int.ofNat_sub (Nat.pos_of_ne_zero h0)];rfl
     refine gm (Ak (av hf (ev e4 (av (x:=.d (st [T[k-1]])) ?_ (ev (v:=.d (st [13])) rfl (av (kw T[k-1] 13) ?_))))))
     ·show (k6 (st T) (.int ((k-1:Nat):Int))).map V.d = _
      rw[e3];rfl
     ·have hv:(!y9 T k)=(T[k-1] != 13):=by
       unfold y9
       rw[show (k != 0)=true from bne_iff_ne.mpr h0,Bool.true_and,hy]
       by_cases w:T[k-1]=13
       ·rw[w];rfl
       ·rw[decide_eq_false fun q=>w (aj q)];exact (bne_iff_ne.mpr w).symm
      rw[hv] at hK;exact hK
  have elt:aO TT tH [(75,.d (.int k)),(0,.d (st [x]))] H=some (.d (st [if x=13 then 10 else x]),H):=by
   have c1:=dM (m:=[(75,.d (.int k)),(0,.d (st [x]))]) (H:=H) (o:=.eq) (a:=.v 0) (b:=.c (st [13])) (x:=.d (st [x])) rfl rfl (qF x 13)
   refine bo c1 (bo (a:=decide (x=13)) rfl ?_)
   by_cases w:x=13
   ·rw[decide_eq_true w,au w];rfl
   ·rw[decide_eq_false w,ar w];rfl
  refine tst _ (av (a7 _) (iA (fun h=>?_) fun h=>?_))
  ·refine ev elt ⟨_,rfl,ak (al _ _) (ak hal (by decide)),ih (k+1) _ hu1 (by rw[ae,Nat.add_assoc,List.length_singleton,Nat.add_comm 1];exact hal) ?_⟩
   rw[bH] at q
   have hn:¬ (y9 T k=true/\x=10):=fun w=>by rw[w.1,decide_eq_true w.2] at h;exact nof2 h
   rw[ar hn] at q
   rw[hp1,af]
   by_cases h13:x=13
   ·rw[au h13] at q
    rw[au h13,decide_eq_true h13];exact q
   ·rw[ar h13] at q
    rw[ar h13,decide_eq_false h13];exact q
  ·refine ih (k+1) acc hu1 (Nat.le_of_succ_le hal) ?_
   rw[bH] at q
   have hn:y9 T k=true/\x=10:=by
    have h2:(y9 T k&&decide (x=10))=true:=by
     cases w:(y9 T k&&decide (x=10)) with
     |true=>rfl
     |false=>rw[w] at h;exact nof2 h.symm
    exact⟨(ay h2).1,of_decide_eq_true (ay h2).2⟩
   rw[au hn] at q
   rw[hp1,hn.2];exact q
theorem lB{c':Cx}(s1:c'.nm=c.nm)(s2:c'.w=c.w)(s3:c'.prog=c.prog)(s4:c'.K=c.K){h B:Heap}{U:Ph}{p:Addr×Addr}{cl:Cell}(x:CellAt c h B U p cl):CellAt c' h B U p cl:=by
 cases cl with
 |inst=>obtain⟨a,n,es,k,b,f,g1,g2⟩:=x;exact⟨a,n,es,k,b,f.alike s1 s2,by rw[s4];exact g1,fun i x e=>by rw[s4,s1];exact g2 i x e⟩
 |list=>exact x
 |dlist=>exact x
 |dict=>obtain⟨e,ns,o,es,a,b,f⟩:=x;exact⟨e,ns,o,es,a,by rw[s3,s2];exact b,f.alike s1⟩
theorem wn{B Z h:Heap}{U:Ph}{L:Addr}{i:Nat}{a:Addr}{d:D}{s:Sub c.E B}{hc:∃v,B.IsCell a (some v)/\DV B v d}(R:Rel c B Z U L H h):Rel (c.cap i a d B s hc) B Z U L H h:=
 ⟨⟨R.base.1,Sub.refl _⟩,R.kB,R.kZ,fun n cl e=>(R.cell n cl e).imp fun p q=>⟨q.1,lB (c:=c) (c':=c.cap i a d B s hc) rfl rfl rfl rfl q.2⟩,R.free,R.apart,R.dom,R.LB,R.LZ,R.LG,R.BZ⟩
theorem vH{B B2 Z h:Heap}{U:Ph}{L:Addr}{i:Nat}{a:Addr}{d:D}{s:Sub c.E B}{hc:∃v,B.IsCell a (some v)/\DV B v d}(R:Rel (c.cap i a d B s hc) B2 Z U L H h):Rel c B2 Z U L H h:=
 ⟨⟨R.base.1,s.trans R.base.2⟩,R.kB,R.kZ,fun n cl e=>(R.cell n cl e).imp fun p q=>⟨q.1,lB (c:=c.cap i a d B s hc) (c':=c) rfl rfl rfl rfl q.2⟩,R.free,R.apart,R.dom,R.LB,R.LZ,R.LG,R.BZ⟩
theorem vJ{a:Addr}(hf:lP 1 c.fr=some (a,st T))(hl:T.length<=1000):wS c TT r H.length eG [] H (ip H.length fun y H'=>y=.d (st (c5 false T))/\H'=H):=by
 refine rd rfl ?_
 show wX c TT r (.compE [1] tH 75 0 (.cons (.f 1) .nil) tI) [] H (fun v H2=>ok (cz H2 [v]) fun ds=>ok (mw .join (st []::ds)) fun z=>ip H.length _ (.ret (.d z)) [] H2)
 refine⟨by show ((lP 1 c.fr).isSome&&true)=true;rw[hf];rfl,?_⟩
 refine eN (av hf (n8 (av (x:=(Sl T).l) rfl ?_)))
 rw[da]
 have hn:=fO T false
 refine yg hf hl T 0 [] rfl (by rw[List.length_nil,Nat.zero_add];exact ak hl (by decide)) ?_
 rw[List.nil_append,show y9 T 0=false from rfl]
 have hb:=mr ((c5 false T).map fun x=>[x]) (by rw[List.map_map];show ((c5 false T).map fun _=>1).sum<=_;rw[List.map_const',List.sum_replicate_nat];exact ak (an (Nat.mul_one _)) (ak (fO T false) (bq hl)))
 rw[List.map_map] at hb
 refine av rfl (av hb (bg (ao _) rfl ⟨?_,rfl⟩))
 rw[show ((c5 false T).map fun x=>[x]).flatten=c5 false T from by induction c5 false T with|nil=>rfl|cons x u ih=>rw[List.map_cons,List.flatten_cons,ih];rfl]
theorem Ag(e:aY c)(hcs:c.cs=[])(hfr:c.fr=[])(hl:T.length<=200)(hc:∀x∈T,ey x)(H:Hp):SemCall c (r+8) (.ref 806) [.d (st T)] H fun y H'=>y=.d (st (c5 false T))/\H'=H:=by
 intro A E s B Z U vals hA ht hR hv
 obtain⟨v,rfl,hv0⟩:∃v,vals=[v]/\DV B v (st T):=by
  cases hv with
  |cons r1 r2=>cases r2;exact⟨_,rfl,r1.d_of⟩
 have hXs:c.K.In s.heap:=hR.kIn
 refine codeAny_call_function (Nat.lt_of_le_of_lt (ak (al _ _) hA.1) (by decide)) (hXs _ _ (by rw[e.K];exact Ei _)) rfl gV.1.1 gV.1.2.1 gV.2.2.2.2.2 (GV e hXs) (Cu e hXs v _ _ _ _ ?_)
 rw[gV.2.1]
 refine u2 gV.1.2.2 (by rw[e.nm];exact GS) (fun n=>by rw[e.nm];exact yc n) fun h₀ hns keep hcell=>⟨(c.lim.keeps (hR.base.1.trans hR.kB)).keeps keep,codeAny_func ?_⟩
 obtain⟨o',ho',hd'⟩:=hcell
 have ns:s.heap.get? (s.heap.objs.size+1)=none:=Heap.get?_none_of_le (Nat.le_succ _)
 have R1:=(hR.pinNew (h':=h₀) (a:=s.heap.objs.size+1) (o:=o') (aT ho') (Nat.succ_ne_self _) (fun b x _ w=>keep b x w) ns ho').1
 obtain⟨R2,s2⟩:=R1.freezeZ (aT ho') (hR.noZ ns)
 have hcc:∃v,(aI B (s.heap.objs.size+1) o').IsCell (s.heap.objs.size+1) (some v)/\DV (aI B (s.heap.objs.size+1) o') v (st T):=⟨v,⟨o',aH (aT ho'),hd'⟩,hv0.mono s2⟩
 have R3:=wn (i:=1) (s:=hR.base.2.trans s2) (hc:=hcc) R2
 have T':TabOk (c.cap 1 (s.heap.objs.size+1) (st T) (aI B (s.heap.objs.size+1) o') (hR.base.2.trans s2) hcc) TT:=⟨e.T.nm,fun a h=>let ⟨o,es,g1,g2,g3⟩:=e.T.cd a h;⟨o,es,g1,g2,KR.alike (c:=c) (c':=c.cap 1 (s.heap.objs.size+1) (st T) (aI B (s.heap.objs.size+1) o') (hR.base.2.trans s2) hcc) rfl g3⟩,e.T.meth,e.T.fld,e.T.cat,e.T.big,e.T.gl,e.T.fn,e.T.kp,e.T.bn,e.T.cs⟩
 have hf:lP 1 (c.cap 1 (s.heap.objs.size+1) (st T) (aI B (s.heap.objs.size+1) o') (hR.base.2.trans s2) hcc).fr=some (s.heap.objs.size+1,st T):=rfl
 refine wpAny_mono ((kR T' eG _ _ _ _ _ _ _ ⟨rfl,rfl,gV.2.2.1,gV.2.2.2.1,gV.1.2.2,fun i p w _=>?_,fun i _=>bR hcs i,fun i n=>absurd hcs n⟩ GU (vJ (r:=r+7) (H:=H) hf (ak hl (by decide)))) _ _ _ _ _ _ (l6 hA _) ht R3 ⟨_,hns,fun i x w=>nope w⟩) (fun f s' hs=>?_) fun _ _ x=>x
 ·have w:(match 1==i with|true=>some (s.heap.objs.size+1,st T)|false=>lP i c.fr)=some p:=w
  cases q:1==i with
  |true=>
   rw[q] at w;cases w
   rw[←eq_of_beq q]
   show List.lookup (c.nm 1) [(c.nm 1,_)] = _
   rw[List.lookup_cons,beq_self_eq_true]
  |false=>rw[q,hfr] at w;nomatch w
 ·have:=oH (fun n hn=>hR.dom n hn) hs
  cases f<;>(obtain⟨h',tk,B',U',y,H',L',rfl,b,p,R,rv,q⟩:=this;exact⟨h',tk,B',U',y,H',L',rfl,s2.trans b,p,vH R,rv,q⟩)
end
theorem xB{R:WRecords}{cl:Str->Option Addr}{h:Heap}{ns:List Int}{vs:List Value}{as:List Addr}(r:ReadsAllW R cl h vs (ns.map WData.int) as):DVs h vs (ns.map PyData.int):=by
 induction ns generalizing vs as with
 |nil=>cases r;exact DVs.nil
 |cons n ns ih=>cases r with
  |cons r rs=>cases r with
   |int i t=>exact .cons (DV.int _ _) (ih rs)
theorem AD{R:WRecords}{cl:Str->Option Addr}{h:Heap}{ns:List Int}{vals:List Value}{as:List Addr}(r:ReadsAllW R cl h vals [.list (ns.map .int)] as):∃v,vals=[v]/\DV h v (.list (ns.map .int)):=by
 cases r with
 |cons r1 r2=>
  cases r2
  cases r1 with
  |list ho hc hd hr=>
   obtain⟨k,as,r,q⟩:=xB hr
   exact⟨_,rfl,k,_,.list ho hc hd r,OkAs.cons ⟨_,ho,.inl ⟨_,_,hd⟩⟩ q⟩
theorem Cw{p:Program}{name:Str}{R:WRecords}{ab:List Str}{ft k:Nat}{wr:Bool}{xs:List WData}
  (h:(OpenLaw.pre ⟨p,name,ab,ft,some k,none,wr⟩).holds R { args:=[.list xs] }=true):xs.length<=k:=by
 have h:WTm.holds R (.and (.not (.lt (.lit (.int k)) (.len (.arg 0)))) (.lit (.bool true))) { args:=[.list xs] }=true:=h
 dsimp only[WTm.holds,WTm.value,List.getElem?_cons_zero] at h
 by_cases q:(k:Int)<(xs.length:Int)
 ·have e:less? (WData.int k) (WData.int xs.length)=some true:=by
   show some (decide ((k:Int)<(xs.length:Int))) = _
   rw[decide_eq_true q]
  rw[e] at h
  cases h
 ·exact Int.ofNat_le.mp (Int.not_lt.mp q)
theorem AC{p:Program}{name:Str}{ab:List Str}{ft k:Nat}{wr:Bool}{args:List WData}(hpre:(OpenLaw.row ⟨p,name,ab,ft,some k,none,wr⟩).toRowW.claim.pre args=true):∃ns:List Int,args=[.list (ns.map .int)]/\ns.length<=k:=by
 obtain⟨h1,h2⟩:=pre_splitW hpre
 obtain⟨d,r,rfl,hd,hr⟩:=hasAllW_cons (e:=.list .int) (es:=[]) h1
 obtain⟨xs,rfl,hx⟩:=hasW_list hd
 obtain⟨ns,rfl⟩:=items_int hx
 cases r with
 |cons=>exact nof2 hr
 |nil=>
  refine⟨ns,rfl,?_⟩
  have:=Cw (p:=p) (name:=name) (ab:=ab) (ft:=ft) (wr:=wr) h2
  simpa using this
theorem P1{c:Cx}(hK:c.K=H.K c.w.params)(hn:c.nm=b9 tl.nms)(hcs:c.cs=[])(low:sysModules<c.G.objs.size):TabOk c TT:=by
 refine zS hn (by rw[hK];exact Dm _) (by rw[hK];exact H8 _) (by rw[hK];exact H7 _) (by rw[hK];exact Mn _) (by rw[hK];exact Mp _) (by rw[hK];exact Mk _) (by rw[hK];exact Mo _) low hcs fun p hp=>?_
 rw[hK]
 have hp:p∈tl.cds:=hp
 rw[List.mem_singleton.mp (show p∈[_] from hp)]
 exact⟨DW,8,Jv _,by kernel_rfl,by kernel_rfl⟩
noncomputable def lawFd:FuncData:=match H.fo (H.st 32) "law" "law" .none .none .none (.str (Str.ofString "law_te0037_04") 1444) (.ref 829) .none with
 |.func fd=>fd
 |_=>default
theorem xW(P:Params):(H.K P).lookup 830=some ⟨.type "function", none,.func lawFd,#[]⟩:=by kernel_rfl
theorem GF(P:Params):AQ (H.K P) 829 lawFd.qualname=true:=by kernel_rfl
theorem eH:(lawFd.scope.isCoroutine=false/\lawFd.scope.isGenerator=false/\lawFd.scope.kind=.function)/\lawFd.closure=[]/\lawFd.globals=mainGlobals/\lawFd.builtins=builtinsNs/\lawFd.code=.ref 829/\lawFd.body=.stmts (H.fnB (H.st 32)):=⟨⟨by kernel_rfl,by kernel_rfl,by kernel_rfl⟩,by kernel_rfl,by kernel_rfl,by kernel_rfl,by kernel_rfl,by kernel_rfl⟩
theorem Cc:lawFd.scope.names.lookup (b9 tl.nms 52)=some .local:=by kernel_rfl
theorem Ch:lawFd.scope.names.lookup (b9 tl.nms 48)=some .cell:=by kernel_rfl
theorem lN(n:Nat):cellsFrom n lawFd.scope.names []=[(b9 tl.nms 48,n)]:=by kernel_rfl
theorem Jk(P:Params)(S:Setting)(v:Value):a8 (Mine.H.K P) S 830 [v]=some [(b9 tl.nms 52,v)]:=by kernel_rfl
noncomputable def nD(sc:Scope):Bool:=sc.names.all fun y=>match y.2 with|.cell=>b0 TT 48 y.1|_=>true
theorem Ce:nD lawFd.scope=true:=by kernel_rfl
theorem GI{α β:Type}[BEq α][LawfulBEq α]{x:α}{y:β}:∀{l:List (α×β)},l.lookup x=some y->(x,y)∈l:=by
 intro l
 induction l with
 |nil=>intro h;nomatch h
 |cons p l ih=>
  intro h
  rw[List.lookup_cons] at h
  cases q:x==p.1 with
  |true=>rw[q] at h;cases h;rw[eq_of_beq q];exact List.mem_cons_self ..
  |false=>rw[q] at h;exact ad _ (ih h)
noncomputable def wx(sc:Scope)(x:Stmt):Bool:=sV (fun t it' body els=>els.isEmpty&&(cK (b0 TT 48) t&&((fu it'&&aC TT sc rF it')&&d4 { TT with fl:=true } sc dy body))) x
inductive rH(sc:Scope):Stmt->Prop
 |mk (y:Str) (tp:Pos) (it':Expr) (body:List Stmt) (pos:Pos) (h1:b0 TT 48 y=true) (h2:(fu it'&&aC TT sc rF it')=true) (h3:d4 { TT with fl:=true } sc dy body=true):rH sc (.For (.Name y tp) it' body [] pos)
theorem Ga{sc:Scope}{x:Stmt}(h:wx sc x=true):rH sc x:=yB h fun t it' body els p h=>by
 have h0:=ay h
 have h1:=ay h0.2
 have h2:=ay h1.2
 rw[List.isEmpty_iff.mp h0.1]
 exact bT (C:=fun t=>rH sc (.For t it' body [] p)) h1.1 fun y tp hy=>.mk y tp it' body p hy h2.1 h2.2
noncomputable def xU(sc:Scope)(xs:List Stmt):Bool:=d4 TT sc mS (xs.take 3)&&(xs[3]?.any (wx sc))&&d4 TT sc mT (xs.drop 4)
theorem Cd:xU lawFd.scope (H.fnB (H.st 32))=true:=by kernel_rfl
inductive Ax(sc:Scope):List Stmt->Prop
 |mk {xs0 xs2:List Stmt}{x1:Stmt} (h0:d4 TT sc mS xs0=true) (h1:rH sc x1) (h2:d4 TT sc mT xs2=true):Ax sc (xs0++(x1::xs2))
theorem uU{sc:Scope}{xs:List Stmt}(h:xU sc xs=true):Ax sc xs:=by
 have h:=ay h
 have h':=ay h.1
 obtain⟨x1,e1,h1⟩:=any_some h'.2
 have l1:=oh e1
 have d3:xs.drop 3=x1::xs.drop 4:=by rw[List.drop_eq_getElem_cons l1,(List.getElem?_eq_some_iff.mp e1).2]
 rw[←List.take_append_drop 3 xs,d3]
 exact .mk h'.1 (Ga h1) h.2
theorem G2{h:Heap}{a:Addr}(q:h.objs.size<=a):h.get? a=none:=by
 cases e:h.get? a with
 |none=>rfl
 |some o=>exact absurd (Heap.lt_size e) (Nat.not_lt.mpr q)
theorem qQ{c:Cx}(e:aY c)(hcs:c.cs=[])(hfr:c.fr=[]){sc:Scope}{L:Addr}{env:Env}{body:List Stmt}(parts:Ax sc body)(hone:nD sc=true)(htok:sc.names.lookup (c.nm 48)=some .cell)(E0:aZ c sc L env){a:Addr}(hca:env.cells.lookup (c.nm 48)=some a){o:Obj}(v1:o.isFreed=false)(d1:o.data=.cell none)
  {B Z:Heap}{U:Ph}(z1:Z.get? a=none)(gG:c.G.get? a=none)(gE:c.E.get? a=none){ns:List Int}(hn:ns.length<=63){A:Around}{E:SU}{s:Shared}{Q:Flow->Shared->Prop}(hA:Room 9 A)(ht:1<=s.toks)(R0:Rel c B (aI Z a o) U L [] s.heap)(F0:FrR c B U L [(52,.d (.list (ns.map .int)))] s.heap)
  (q:∀h' tk,Sub c.G h'->Q (.ret (.bool true)) { s with heap:=h',toks:=tk,gens:=s.gens.push .finished }):wpAny c.M A (execs body env) Q E s:=by
 cases parts with
 |mk k0 k1 k2=>
  have hA8:Room 8 A:=hA.less
  have hT1:=zT (ns.take 24) false
  have hT2:(cD false (ns.take 24)).length<=48:=ak hT1.1 (by rw[List.length_take];exact Nat.mul_le_mul_left 2 (Nat.min_le_left _ _))
  have hT3:=vt (ns.take 24) false 0 (.inl ⟨rfl,rfl⟩)
  refine ua (TrS.run (kR e.T mS _ _ _ _ _ _ _ E0 k0 (P4 (r:=0) (k:=0) (Q:=fun fl mm HH=>fl=.next/\mm=mL (.list (ns.map .int)) (st (cD false (ns.take 24)))/\HH=Hs ru (Au (cD false (ns.take 24))) [some (.dlist [])]) e hn ⟨rfl,rfl,rfl⟩)) hA8 ht R0 F0 fun f h1 tk1 B1 U1 fl mm H1 t1 sB1 ps1 R1 F1 fr q1=>?_)
  obtain⟨rfl,rfl,rfl⟩:=q1
  cases fr
  generalize cD false (ns.take 24)=T at hT1 hT2 hT3 R1 F1
  have hMl:(c5 false T).length<=200:=ak (fO T false) (ak hT2 (by decide))
  have hMo:=G6 hT1.2
  have I0:=Ol (T:=T) (ak hT2 (by decide)) hT1.2
  obtain⟨N,wg⟩:=MF (r:=0) (a:=a) (script:=.list (ns.map .int)) (text:=st T) e hMl I0 (yn T 0 false (fun q=>nof2 q) hT3) fun x hx=>⟨hMo x hx,fun q=>G5 T false (q▸hx)⟩
  refine wpAny_execs_cons ?_
  cases k1 with
  |mk y tp it' fb pos g1 g2 g3=>
   obtain rfl:=cC e.T g1
   have P0:=c.w.params
   refine BE (s:={ s with heap:=h1,toks:=tk1 }) (n0:=0) (k:=6) (N:=N) (ig:=2) (f:=268) (C:=762) (s0:=mR) (xi:=rF) (xs:=n7) (xe:=n6) (xq:=io) (xp:=jE) (ib:=dy) (Qe:=MM (.list (ns.map .int)) (st T) (c5 false T)) e.T hcs E0 hA t1 R1 F1 v1 d1 z1 gG gE htok (fun j hj=>?_) hca g2 (fun K hK=>av (x:=.r 0) rfl hK) rfl (by rw[e.K];kernel_rfl) (by rw[e.K];kernel_rfl) (by rw[e.K];exact FY _) (fun S v=>by rw[e.K,e.nm];exact Fa _ S v) g3 (by decide) rfl wg fun h2 tk2 B2 U2 oa2 x2 m2 H2 t2 sB2 ps2 d2 v2 R2 F2 _ hq=>?_
   ·have h1:=aq hone _ (GI hj)
    exact (c.inj 48 j (cC e.T h1)).symm
   ·refine TrS.run (kR e.T mT _ _ _ _ _ _ _ E0 k2 (P5 (r:=0) (k:=0) (Q:=fun fl _ _=>fl=.ret (.d (.bool true))) e hMl (fun H=>Ag (r:=0) e hcs hfr (ak hT2 (by decide)) hT1.2 H) hq fun _ _=>rfl)) hA8 t2 R2 F2 fun f h5 tk5 B5 U5 fl mm H5 t5 sB5 ps5 R5 F5 fr hfl=>?_
    subst hfl
    cases fr with
    |ret rv=>
     obtain rfl:=rv.d_of.bool_of
     exact q h5 tk5 (R5.base.1.trans R5.kB)
theorem uT{c:Cx}(e:aY c)(hcs:c.cs=[])(hfr:c.fr=[])(hE:c.E=c.G){sc:Scope}{L:Addr}{env:Env}{body:List Stmt}(hL:c.G.objs.size=L)(parts:Ax sc body)(hone:nD sc=true)(htok:sc.names.lookup (c.nm 48)=some .cell)(E0:aZ c sc L env)(hcells:env.cells=[(c.nm 48,L+1)]){s:Shared}{v0:Value}(keep:Sub c.G s.heap)(hns:s.heap.Ns L fun y=>if y=c.nm 52 then some v0 else none)
  (cell1:s.heap.IsCell (L+1) none){ns:List Int}(hn:ns.length<=63)(hv:DV c.G v0 (.list (ns.map .int))){A:Around}{E:SU}{Q:Flow->Shared->Prop}(hA:Room 9 A)(ht:1<=s.toks)
  (q:∀h' tk,Sub c.G h'->Q (.ret (.bool true)) { s with heap:=h',toks:=tk,gens:=s.gens.push .finished }):wpAny c.M A (execs body env) Q E s:=by
 obtain⟨o1,g1,d1⟩:=cell1
 have v1:=aT g1
 have z0:∀b,(⟨#[],c.G.life⟩:Heap).get? b=none:=fun b=>by simp[Heap.get?]
 have n0:∀b,L<=b->c.G.get? b=none:=fun b h=>G2 (by rw[hL];exact h)
 refine qQ e hcs hfr parts hone htok E0 (a:=L+1) ?_ v1 d1 (z0 _) (n0 _ (Nat.le_succ _)) (by rw[hE];exact n0 _ (Nat.le_succ _)) hn hA ht (C0 (U:=fun _=>none) ⟨Sub.refl _,fun b o x=>by rw[hE] at x;exact x⟩ keep (Sub.put_in v1 (fun b o x=>by rw[z0] at x;nomatch x) g1) (fun _=>rfl) (n0 _ (ao _)) ?_ (an hL) fun b o x=>?_) ⟨_,hns,fun i x w=>?_⟩ q
 ·rw[hcells,List.lookup_cons,beq_self_eq_true]
 ·exact (aE v1 (Nat.ne_of_lt (Nat.lt_succ_self _))).trans (z0 _)
 ·refine n0 b ?_
  rw[aU _ _ _ v1] at x
  by_cases q1:b=L+1
  ·rw[q1];exact Nat.le_succ _
  ·rw[ar q1,z0] at x;nomatch x
 ·rw[a6] at w
  by_cases q:52=i
  ·rw[au q] at w;cases w;subst q;exact⟨v0,(Stands.own (bR hcs 52)).mpr (au rfl),.d hv⟩
  ·rw[ar q] at w;nomatch w
theorem xV{c:Cx}(e:aY c){s:Shared}(h:c.K.In s.heap)(v:Value):BindsTo s lawFd ⟨[v],[]⟩ [(c.nm 52,v)]:=kp_binds h fun S=>by
 have:=Jk c.w.params S v
 rw[←e.nm] at this
 unfold a8 at this
 rw[xW] at this
 rw[e.K];exact this
theorem Cf{c:Cx}(e:aY c){h:Heap}(x:c.K.In h):h.CodeRec lawFd.code lawFd.qualname:=by
 obtain⟨oc,vs,t,c1,c2,c3⟩:=rP (GF c.w.params)
 exact⟨829,oc,vs,t,eH.2.2.2.2.1,x _ _ (by rw[e.K];exact c1),c2,c3⟩
theorem Cg{c:Cx}(e:aY c)(hcs:c.cs=[])(hfr:c.fr=[])(hE:c.E=c.G){ns:List Int}(hn:ns.length<=63){A:Around}{E:SU}{s:Shared}{v0:Value}{Q:SU}(hA:Room 10 A)(hs:s.heap=c.G)(hv:DV c.G v0 (.list (ns.map .int)))
  (q:∀h' tk,Sub c.G h'->Q (.bool true) { s with heap:=h',toks:=tk,gens:=s.gens.push .finished }):codeAny c.M A (.call (.ref 830) ⟨[v0],[]⟩) (fun r s'=>match r with|.ok (.ret v)=>Q v s'|.ok _=>False|.error e=>E e s') s:=by
 have hXs:c.K.In s.heap:=hs▸c.X
 refine codeAny_call_function (Nat.lt_of_le_of_lt (ak (al _ _) hA.1) (by decide)) (hXs _ _ (by rw[e.K];exact xW _)) rfl eH.1.1 eH.1.2.1 eH.2.2.2.2.2 (Cf e hXs) (xV e hXs v0 _ _ _ _ ?_)
 rw[eH.2.1]
 refine u4 eH.1.2.2 (by rw[e.nm];exact Cc) fun h₀ hns keep ok=>⟨(hs▸c.lim).keeps keep,codeAny_func ?_⟩
 rw[lN,←e.nm] at ok
 exact uT e hcs hfr hE (L:=s.heap.objs.size) (s:={ s with heap:=h₀,toks:=s.toks+1 }) (congrArg (fun h:Heap=>h.objs.size) hs.symm) (uU Cd) Ce (by rw[e.nm];exact Ch) ⟨rfl,rfl,eH.2.2.1,eH.2.2.2.1,eH.1.2.2,fun i p w=>by (rw[hfr] at w;nomatch w),fun i _=>bR hcs i,fun i n=>absurd hcs n⟩ (by rw[e.nm];exact lN _) (hs▸keep) hns (ok.empty _ _ (.head _)).1 hn hv (l6 hA _) (am 1 _) q
theorem GE(P:Params):nsIn (H.K P) mainGlobals H.rw0.name=some (some (.ref 830)):=by kernel_rfl
theorem Lx(ns:List Int):WTm.holds [] (.eq .res (.lit (.bool true))) { args:=[WData.list (ns.map .int)],res:=some (.bool true),after:=[WData.list (ns.map .int)] }=true:=by
 simp[WTm.holds,WTm.value,same]
theorem walk1:WalkO H.vw H.ls H.XPt H.InK H.rw0.row.toRowW H.lawRec [] (fun f vs=>PySem.call f vs):=by
 intro w s₀ s₁ mg mb G X a o pm cd doc dV kV ho hod hcr hdf hmg hgens args vals as hpre hlay hrd hwl hlo
 obtain⟨ns,rfl,hn⟩:=AC hpre
 have hX:(H.K w.params).In s₁.heap:=X
 obtain rfl:a=830:=by
  have e:=mg_of hX G.T.g (GE _)
  have hmg:mg H.rw0.name=some (.ref a):=hmg
  rw[e] at hmg
  cases hmg;rfl
 let c:Cx:=⟨H.pw,w,H.K w.params,s₁.heap,mg,mb,hX,G.T.g,G.T.b,G.T.nolimit,G.T.builtins,b9 tl.nms,s₁.heap,[],nofun,yo PT PU,[]⟩
 have e:aY c:=⟨rfl,rfl,P1 rfl rfl rfl G.low⟩
 obtain⟨v0,rfl,hv0⟩:=AD hrd
 refine wpAny_call (codeAny_mono (Cg (c:=c) (E:=fun _ _=>False) (Q:=fun v s'=>∃h' tk,v=.bool true/\s'={ s₁ with heap:=h',toks:=tk,gens:=s₁.gens.push .finished }/\Sub c.G h') e rfl rfl rfl hn (A:=callerA) ⟨by decide,by decide,rfl,_,rfl⟩ rfl hv0 fun h' tk hs=>⟨h',tk,rfl,rfl,hs⟩) fun r s' hr=>?_)
 rcases r with e'|fl
 ·exact hr.elim
 ·cases fl with
  |ret v=>
   obtain⟨h',tk,rfl,rfl,hs⟩:=hr
   exact⟨.inl ⟨.bool true,.bool true,[],rfl,fun _=>rfl,.bool _,Lx ns,fun _=>⟨List.nodup_nil,nofun⟩⟩,.of_keep hs,rfl,by
    show AllBare (s₁.gens.push .finished)
    rw[hgens]
    exact .push .empty rfl⟩
  |next=>exact hr.elim
  |brk=>exact hr.elim
  |cont=>exact hr.elim
end Mine
theorem PySem.Challenge.cw_te0037_04_holds : PySem.Challenge.rw_te0037_04.Holds := by
 exact Mine.H.holds_of Mine.said0 Mine.walk1
