import PyProof.Rows.All
import Wide.All
import OpenK.AllK
import Wide.FinOn
import PySem.Challenge.RW_in0220_01
set_option Elab.async false
set_option maxRecDepth 100000
set_option linter.all false
set_option genSizeOf false
set_option genInjectivity false
set_option bootstrap.genMatcherCode false
set_option backward.match.sparseCases false
namespace Mine
open PySem PySem.W PyProof.Rows
abbrev lawR:OpenRow:=PySem.Challenge.rw_in0220_01.row
abbrev pgm:Program:=lawR.prog
noncomputable def defAt (k:Nat):Str × Arguments × List Stmt × Scope:=match pgm.main.body[k]? with
 | some (.FunctionDef n a b _ _ _ s _ _ _)=>(n,a,b,s)
 | _=>default
noncomputable def fileS:Str:=Str.ofString "/claim/cut.py"
noncomputable def fnO (k cd mt:Nat) (md:Str):Obj := { cls := .type "function",data := .func { name:=(defAt k).1,qualname:=(defAt k).1,params:=(defAt k).2.1,body := .stmts (defAt k).2.2.1,scope:=(defAt k).2.2.2,globals:=3,closure:=[],defaults := .none,kwdefaults := .none,pyModule := .str md mt,code := .ref cd } }
noncomputable def cdO (k cd t ln ac x:Nat) (r0:Nat) (two:Value × Value):Obj := { cls := .type "code",data := .fields #[.str (defAt k).1 t,.str (defAt k).1 (t + 1),.str fileS (t + 2),.int ln 0,.int ac 0,.int 0 0,.int 0 0,.int 3 0,.ref r0,.bool true,.int 276 0,.ref (r0 + 1),.none,two.1,two.2,.ref (cd - 1),.int x 0,.int ln 0,.str fileS (x + 1)] }
noncomputable def tupO (l:List Int):Obj := { cls := .type "tuple",data := .seq (l.map fun n=>Value.int n 0).toArray }
noncomputable def patO (p:Str) (t f u g c:Nat):Obj := { cls := .type "re.Pattern",data := .fields #[.str p t,.int f u,.int g 0,.none,.none,.ref c,.int 0 0] }
noncomputable def m4 (P:Params) (x:Str) (t:Nat) (v:Value):DictEntry := { hash:=PyData.keyHash P x,key := .str x t,val:=v }
noncomputable def spE (i:Nat) (c:Nat):DictEntry := { hash:=c,key := .int c (350 + 6 * i),val := .str ⟨#[92,c]⟩ (354 + 6 * i) }
noncomputable def glE (P:Params):List DictEntry:=[
 m4 P (Str.ofString "__name__") 165 (.str (Str.ofString "law_in0220_01") 600),
 m4 P (Str.ofString "__doc__") 166 (.none),
 m4 P (Str.ofString "__package__") 167 (.none),
 m4 P (Str.ofString "__loader__") 168 (.builtin "__main__.__loader__#opaque"),
 m4 P (Str.ofString "__spec__") 169 (.none),
 m4 P (Str.ofString "__annotations__") 170 (.ref 6),
 m4 P (Str.ofString "__builtins__") 171 (.ref 4),
 m4 P (Str.ofString "__file__") 173 (.str fileS 172),
 m4 P (Str.ofString "__cached__") 174 (.none),
 m4 P (Str.ofString "_sre") 275 (.ref 12),
 m4 P (Str.ofString "sorted_list_difference") 297 (.ref 38),
 m4 P (Str.ofString "_twin_re_1") 337 (.ref 43),
 m4 P (Str.ofString "translate") 346 (.ref 50),
 m4 P (Str.ofString "_special_chars_map") 494 (.ref 52),
 m4 P (Str.ofString "escape") 501 (.ref 62),
 m4 P (Str.ofString "_translate") 522 (.ref 69),
 m4 P (Str.ofString "_join_translated_parts") 535 (.ref 76),
 m4 P (Str.ofString "IPV4_RE") 567 (.ref 81),
 m4 P (Str.ofString "is_HDN") 574 (.ref 88),
 m4 P (Str.ofString "liberal_is_HDN") 581 (.ref 95),
 m4 P (Str.ofString "user_domain_match") 590 (.ref 102),
 m4 P (Str.ofString "reach") 599 (.ref 109),
 m4 P (Str.ofString "_law_pair") 611 (.ref 116),
 m4 P (Str.ofString "_law_item") 619 (.ref 123),
 m4 P (Str.ofString "_law_pattern") 625 (.ref 128),
 m4 P (Str.ofString "_law_plain") 639 (.ref 135),
 m4 P (Str.ofString "_law_read") 651 (.ref 142),
 m4 P (Str.ofString "_law_fits") 661 (.ref 149),
 m4 P (Str.ofString "_law_taken") 676 (.ref 156),
 m4 P (Str.ofString "_law_language") 682 (.ref 161),
 m4 P (Str.ofString "_law_beginnings") 688 (.ref 166),
 m4 P (Str.ofString "_law_endings") 694 (.ref 171),
 m4 P (Str.ofString "_law_rank") 706 (.ref 178),
 m4 P (Str.ofString "_law_right") 712 (.ref 183),
 m4 P (Str.ofString "law") 718 (.ref 188)]
noncomputable def frK (P:Params):Frag:=[
 (3,{ cls := .type "dict",data := .dict (glE P).toArray 35 }),
 (52,{ cls := .type "dict",data := .dict ([spE 0 40,spE 1 41,spE 2 91,spE 3 93,spE 4 123,spE 5 125,spE 6 63,spE 7 42,spE 8 43,spE 9 45,spE 10 124,spE 11 94,spE 12 36,spE 13 92,spE 14 46,spE 15 38,spE 16 126,spE 17 35,spE 18 32,spE 19 9,spE 20 10,spE 21 13,spE 22 11,spE 23 12]).toArray 24 }),
 (42,tupO [14,14,4,1,1,9,0,64,0,1342177280,0,0,0,0,0,17,0,13,11,9,0,64,0,1342177280,0,0,0,0,0,17,1,1]),
 (43,patO (Str.ofString "([&~|])") 301 32 336 1 42),
 (80,tupO [14,8,1,2,4294967295,1,1,46,0,16,46,24,9,1,4294967295,13,4,8,0,0,1,6,5,1]),
 (81,patO (Str.ofString "\\.\\d+$") 539 256 566 0 80),
 (38,fnO 2 37 282 (Str.ofString "cpy313.unittest.util")),
 (37,cdO 2 37 284 3 2 295 32 (.ref 34,.ref 35)),
 (50,fnO 5 49 298 (Str.ofString "cpy313.fnmatch")),
 (49,cdO 5 49 338 37 1 344 44 (.ref 46,.ref 47)),
 (62,fnO 8 61 347 (Str.ofString "re")),
 (61,cdO 8 61 495 43 1 499 56 (.ref 58,.ref 59)),
 (69,fnO 10 68 502 (Str.ofString "cpy313.fnmatch")),
 (68,cdO 10 68 504 50 3 520 63 (.ref 65,.ref 66)),
 (76,fnO 11 75 502 (Str.ofString "cpy313.fnmatch")),
 (75,cdO 11 75 523 112 2 533 70 (.ref 72,.ref 73)),
 (88,fnO 14 87 536 (Str.ofString "cpy313.http.cookiejar")),
 (87,cdO 14 87 568 141 1 572 82 (.ref 84,.ref 85)),
 (95,fnO 15 94 536 (Str.ofString "cpy313.http.cookiejar")),
 (94,cdO 15 94 575 149 1 579 89 (.ref 91,.ref 92)),
 (102,fnO 16 101 536 (Str.ofString "cpy313.http.cookiejar")),
 (101,cdO 16 101 582 153 2 588 96 (.ref 98,.ref 99)),
 (109,fnO 17 108 536 (Str.ofString "cpy313.http.cookiejar")),
 (108,cdO 17 108 591 166 1 597 103 (.ref 105,.ref 106)),
 (116,fnO 19 115 600 (Str.ofString "law_in0220_01")),
 (115,cdO 19 115 602 175 1 609 110 (.ref 112,.ref 113)),
 (123,fnO 20 122 600 (Str.ofString "law_in0220_01")),
 (122,cdO 20 122 612 180 2 617 117 (.ref 119,.ref 120)),
 (128,fnO 21 127 600 (Str.ofString "law_in0220_01")),
 (127,cdO 21 127 620 188 2 623 124 (.none,.none)),
 (135,fnO 22 134 600 (Str.ofString "law_in0220_01")),
 (134,cdO 22 134 626 194 3 637 129 (.ref 131,.ref 132)),
 (142,fnO 23 141 600 (Str.ofString "law_in0220_01")),
 (141,cdO 23 141 640 204 1 649 136 (.ref 138,.ref 139)),
 (149,fnO 24 148 600 (Str.ofString "law_in0220_01")),
 (148,cdO 24 148 652 237 2 659 143 (.ref 145,.ref 146)),
 (156,fnO 25 155 600 (Str.ofString "law_in0220_01")),
 (155,cdO 25 155 662 242 2 674 150 (.ref 152,.ref 153)),
 (161,fnO 26 160 600 (Str.ofString "law_in0220_01")),
 (160,cdO 26 160 677 253 3 680 157 (.none,.none)),
 (166,fnO 27 165 600 (Str.ofString "law_in0220_01")),
 (165,cdO 27 165 683 268 3 686 162 (.none,.none)),
 (171,fnO 28 170 600 (Str.ofString "law_in0220_01")),
 (170,cdO 28 170 689 278 2 692 167 (.none,.none)),
 (178,fnO 29 177 600 (Str.ofString "law_in0220_01")),
 (177,cdO 29 177 695 286 1 704 172 (.ref 174,.ref 175)),
 (183,fnO 30 182 600 (Str.ofString "law_in0220_01")),
 (182,cdO 30 182 707 297 2 710 179 (.none,.none)),
 (188,fnO 31 187 600 (Str.ofString "law_in0220_01")),
 (187,cdO 31 187 713 313 1 716 184 (.none,.none))]
noncomputable abbrev adK:List Addr:=[3,52,42,43,80,81,38,37,50,49,62,61,69,68,76,75,88,87,95,94,102,101,109,108,116,115,123,122,128,127,135,134,142,141,149,148,156,155,161,160,166,165,171,170,178,177,183,182,188,187]
theorem frK_ad (P:Params):adK=(frK P).map (·.1):=by kernel_rfl
noncomputable abbrev hkK:Hook:=kmHook frK adK frK_ad [64]
noncomputable def viewP:Program := { pgm with main := { pgm.main with body:=[0,2,4,5,7,8,10,11,13,14,15,16,17,19,20,21,22,23,24,25,26,27,28,29,30,31].filterMap fun i=>pgm.main.body[i]? } }
noncomputable abbrev looseL:List Str:=[Str.ofString "_twin_re_1",Str.ofString "_special_chars_map",Str.ofString "IPV4_RE"]
noncomputable abbrev seenX (s:Shared):Bool:=xlAt viewP [] s && recOk (RowW.records lawR.toRowW) s
noncomputable abbrev T8 (w:World):Prop:=(openEnds treeTable pgm w 4412).map (fun s=>(openSeen viewP looseL (importedModules pgm.main.body) seenX true s,Hook.obs hkK s))=some (openGood viewP looseL,Hook.val hkK w)
noncomputable abbrev w4 (w:World) (a b:Bool):World:=(w.withFollow "special-get-raises" b).withFollow "comprehension-iter-twice" a
theorem left_ff (w:World):T8 (w4 w false false):=by kernel_rfl
theorem left_ft (w:World):T8 (w4 w false true):=by kernel_rfl
theorem left_tf (w:World):T8 (w4 w true false):=by kernel_rfl
theorem left_tt (w:World):T8 (w4 w true true):=by kernel_rfl
theorem leftK:LeftO pgm viewP looseL seenX hkK.obs hkK.val 4412 :=
 byRow2 "comprehension-iter-twice" (P:=T8) (byRow2 "special-get-raises" (P:=fun w=>T8 (w.withFollow "comprehension-iter-twice" false)) left_ff left_ft) (byRow2 "special-get-raises" (P:=fun w=>T8 (w.withFollow "comprehension-iter-twice" true)) left_tf left_tt)
end Mine
namespace Mine
open PySem
inductive PV where
 | nul
 | bool (b:Bool)
 | int (i:Int)
 | str (s:List Nat)
 | list (xs:List PV)
 | tup (xs:List PV)
 | ob (a:Addr)
 | fn (v:Value)
 deriving Inhabited
inductive Slot where
 | unset
 | val (v:PV)
 | own (xs:List PV)
 | app (r:Nat)
 deriving Inhabited
noncomputable abbrev z9:=List Slot
inductive Tgt where
 | one (x:Nat)
 | two (x y:Nat)
inductive IK where
 | plain | range | zip | enum
 deriving DecidableEq
set_option genCtorIdx false in
inductive PE where
 | lit (v:PV)
 | var (i:Nat)
 | gl (v:Value)
 | bin (op:Operator) (a b:PE)
 | neg (i:Int)
 | cmp (op:CmpOp) (a b:PE)
 | nt (a:PE)
 | bop (conj:Bool) (a b:PE)
 | ife (c a b:PE)
 | idx (a i:PE)
 | slc (a lo hi:PE)
 | len (e:PE)
 | call (f:Value) (args:List PE)
 | meth (m:Str) (o:PE) (args:List PE)
 | repl (o:PE) (c:Nat) (r:List Nat)
 | lst (es:List PE)
 | tpl (es:List PE)
 | comp (elt:PE) (t:Tgt) (k:IK) (a b:PE) (ifs:List PE) (cap:List (Option Nat))
 | comp2 (elt:PE) (t:Tgt) (k:IK) (a b:PE) (t2:Tgt) (a2:PE) (cap:List (Option Nat))
 | fstr (es:List PE)
 | bad
 deriving Inhabited
set_option genCtorIdx false in
inductive PS where
 | assign (x:Nat) (e:PE)
 | own (x:Nat)
 | app (a x:Nat)
 | push (x:Nat) (e:PE)
 | pushA (a x:Nat) (e:PE)
 | asg2 (x y:Nat) (e:PE)
 | tup2 (x y:Nat) (a b:PE)
 | aug (x:Nat) (op:Operator) (e:PE)
 | ite (c:PE) (a b:List PS)
 | whl (c:PE) (b:List PS)
 | for (t:Tgt) (k:IK) (a b:PE) (body:List PS)
 | forOwn (t:Tgt) (x:Nat) (body:List PS)
 | down (x:Nat) (a b:PE)
 | ret (e:PE)
 | brk
 | asrt (e:PE)
 | obj (x:Nat)
 | resub (x:Nat)
 | djoin (x y:Nat)
 | bad (n:Nat)
 deriving Inhabited
noncomputable def small:Nat:=1048576
mutual
noncomputable def l7:PV→PyData
 | .nul => .none
 | .bool b => .bool b
 | .int i => .int i
 | .str l => .str ⟨l.toArray⟩
 | .list xs => .list (m8 xs)
 | .tup xs => .tuple (m8 xs)
 | _ => .none
noncomputable def m8:List PV→List PyData
 | []=>[]
 | x::xs=>l7 x::m8 xs
end
theorem z6 {P:Prop} (h:(P→False)→False):P:=Classical.byContradiction h
theorem sPr {α β:Type} {a c:α} {b d:β} (h:some (a,b)=some (c,d)):c=a∧d=b:=by
 cases h
 exact ⟨rfl,rfl⟩
theorem fn_inj {a b:Value} (h:PV.fn a=PV.fn b):a=b:=by cases h;rfl
theorem w9 {α:Type} {a:α} {P:Prop} (h:none=some a):P:=nomatch h
theorem w7 {p0 p1:Prop} {C:Prop} (t:p0∧p1) (k:p0→p1→C):C:=k t.1 t.2
theorem x03 {p0 p1 p2:Prop} {C:Prop} (t:p0∧p1∧p2) (k:p0→p1→p2→C):C:=k t.1 t.2.1 t.2.2
theorem x04 {p0 p1 p2 p3:Prop} {C:Prop} (t:p0∧p1∧p2∧p3) (k:p0→p1→p2→p3→C):C:=k t.1 t.2.1 t.2.2.1 t.2.2.2
theorem x05 {p0 p1 p2 p3 p4:Prop} {C:Prop} (t:p0∧p1∧p2∧p3∧p4) (k:p0→p1→p2→p3→p4→C):C:=k t.1 t.2.1 t.2.2.1 t.2.2.2.1 t.2.2.2.2
theorem x06 {p0 p1 p2 p3 p4 p5:Prop} {C:Prop} (t:p0∧p1∧p2∧p3∧p4∧p5) (k:p0→p1→p2→p3→p4→p5→C):C:=k t.1 t.2.1 t.2.2.1 t.2.2.2.1 t.2.2.2.2.1 t.2.2.2.2.2
theorem x07 {p0 p1 p2 p3 p4 p5 p6:Prop} {C:Prop} (t:p0∧p1∧p2∧p3∧p4∧p5∧p6) (k:p0→p1→p2→p3→p4→p5→p6→C):C:=k t.1 t.2.1 t.2.2.1 t.2.2.2.1 t.2.2.2.2.1 t.2.2.2.2.2.1 t.2.2.2.2.2.2
theorem x010 {p0 p1 p2 p3 p4 p5 p6 p7 p8 p9:Prop} {C:Prop} (t:p0∧p1∧p2∧p3∧p4∧p5∧p6∧p7∧p8∧p9) (k:p0→p1→p2→p3→p4→p5→p6→p7→p8→p9→C):C:=k t.1 t.2.1 t.2.2.1 t.2.2.2.1 t.2.2.2.2.1 t.2.2.2.2.2.1 t.2.2.2.2.2.2.1 t.2.2.2.2.2.2.2.1 t.2.2.2.2.2.2.2.2.1 t.2.2.2.2.2.2.2.2.2
theorem x12.{u0} {α₀:Sort u0} {p0 p1:α₀→Prop} {C:Prop} (t:∃ a0,p0 a0∧p1 a0) (k:∀ a0,p0 a0→p1 a0→C):C:=t.elim fun a0 t=>k a0 t.1 t.2
theorem x13.{u0} {α₀:Sort u0} {p0 p1 p2:α₀→Prop} {C:Prop} (t:∃ a0,p0 a0∧p1 a0∧p2 a0) (k:∀ a0,p0 a0→p1 a0→p2 a0→C):C:=t.elim fun a0 t=>k a0 t.1 t.2.1 t.2.2
theorem x14.{u0} {α₀:Sort u0} {p0 p1 p2 p3:α₀→Prop} {C:Prop} (t:∃ a0,p0 a0∧p1 a0∧p2 a0∧p3 a0) (k:∀ a0,p0 a0→p1 a0→p2 a0→p3 a0→C):C:=t.elim fun a0 t=>k a0 t.1 t.2.1 t.2.2.1 t.2.2.2
theorem x15.{u0} {α₀:Sort u0} {p0 p1 p2 p3 p4:α₀→Prop} {C:Prop} (t:∃ a0,p0 a0∧p1 a0∧p2 a0∧p3 a0∧p4 a0) (k:∀ a0,p0 a0→p1 a0→p2 a0→p3 a0→p4 a0→C):C:=t.elim fun a0 t=>k a0 t.1 t.2.1 t.2.2.1 t.2.2.2.1 t.2.2.2.2
theorem x21.{u0,u1} {α₀:Sort u0} {α₁:Sort u1} {p0:α₀→α₁→Prop} {C:Prop} (t:∃ a0 a1,p0 a0 a1) (k:∀ a0 a1,p0 a0 a1→C):C:=t.elim fun a0 t=>t.elim fun a1 t=>k a0 a1 t
theorem x22.{u0,u1} {α₀:Sort u0} {α₁:Sort u1} {p0 p1:α₀→α₁→Prop} {C:Prop} (t:∃ a0 a1,p0 a0 a1∧p1 a0 a1) (k:∀ a0 a1,p0 a0 a1→p1 a0 a1→C):C:=t.elim fun a0 t=>t.elim fun a1 t=>k a0 a1 t.1 t.2
theorem x23.{u0,u1} {α₀:Sort u0} {α₁:Sort u1} {p0 p1 p2:α₀→α₁→Prop} {C:Prop} (t:∃ a0 a1,p0 a0 a1∧p1 a0 a1∧p2 a0 a1) (k:∀ a0 a1,p0 a0 a1→p1 a0 a1→p2 a0 a1→C):C:=t.elim fun a0 t=>t.elim fun a1 t=>k a0 a1 t.1 t.2.1 t.2.2
theorem x24.{u0,u1} {α₀:Sort u0} {α₁:Sort u1} {p0 p1 p2 p3:α₀→α₁→Prop} {C:Prop} (t:∃ a0 a1,p0 a0 a1∧p1 a0 a1∧p2 a0 a1∧p3 a0 a1) (k:∀ a0 a1,p0 a0 a1→p1 a0 a1→p2 a0 a1→p3 a0 a1→C):C:=t.elim fun a0 t=>t.elim fun a1 t=>k a0 a1 t.1 t.2.1 t.2.2.1 t.2.2.2
theorem x26.{u0,u1} {α₀:Sort u0} {α₁:Sort u1} {p0 p1 p2 p3 p4 p5:α₀→α₁→Prop} {C:Prop} (t:∃ a0 a1,p0 a0 a1∧p1 a0 a1∧p2 a0 a1∧p3 a0 a1∧p4 a0 a1∧p5 a0 a1) (k:∀ a0 a1,p0 a0 a1→p1 a0 a1→p2 a0 a1→p3 a0 a1→p4 a0 a1→p5 a0 a1→C):C:=t.elim fun a0 t=>t.elim fun a1 t=>k a0 a1 t.1 t.2.1 t.2.2.1 t.2.2.2.1 t.2.2.2.2.1 t.2.2.2.2.2
theorem x31.{u0,u1,u2} {α₀:Sort u0} {α₁:Sort u1} {α₂:Sort u2} {p0:α₀→α₁→α₂→Prop} {C:Prop} (t:∃ a0 a1 a2,p0 a0 a1 a2) (k:∀ a0 a1 a2,p0 a0 a1 a2→C):C:=t.elim fun a0 t=>t.elim fun a1 t=>t.elim fun a2 t=>k a0 a1 a2 t
theorem x32.{u0,u1,u2} {α₀:Sort u0} {α₁:Sort u1} {α₂:Sort u2} {p0 p1:α₀→α₁→α₂→Prop} {C:Prop} (t:∃ a0 a1 a2,p0 a0 a1 a2∧p1 a0 a1 a2) (k:∀ a0 a1 a2,p0 a0 a1 a2→p1 a0 a1 a2→C):C:=t.elim fun a0 t=>t.elim fun a1 t=>t.elim fun a2 t=>k a0 a1 a2 t.1 t.2
theorem x33.{u0,u1,u2} {α₀:Sort u0} {α₁:Sort u1} {α₂:Sort u2} {p0 p1 p2:α₀→α₁→α₂→Prop} {C:Prop} (t:∃ a0 a1 a2,p0 a0 a1 a2∧p1 a0 a1 a2∧p2 a0 a1 a2) (k:∀ a0 a1 a2,p0 a0 a1 a2→p1 a0 a1 a2→p2 a0 a1 a2→C):C:=t.elim fun a0 t=>t.elim fun a1 t=>t.elim fun a2 t=>k a0 a1 a2 t.1 t.2.1 t.2.2
theorem x34.{u0,u1,u2} {α₀:Sort u0} {α₁:Sort u1} {α₂:Sort u2} {p0 p1 p2 p3:α₀→α₁→α₂→Prop} {C:Prop} (t:∃ a0 a1 a2,p0 a0 a1 a2∧p1 a0 a1 a2∧p2 a0 a1 a2∧p3 a0 a1 a2) (k:∀ a0 a1 a2,p0 a0 a1 a2→p1 a0 a1 a2→p2 a0 a1 a2→p3 a0 a1 a2→C):C:=t.elim fun a0 t=>t.elim fun a1 t=>t.elim fun a2 t=>k a0 a1 a2 t.1 t.2.1 t.2.2.1 t.2.2.2
theorem x36.{u0,u1,u2} {α₀:Sort u0} {α₁:Sort u1} {α₂:Sort u2} {p0 p1 p2 p3 p4 p5:α₀→α₁→α₂→Prop} {C:Prop} (t:∃ a0 a1 a2,p0 a0 a1 a2∧p1 a0 a1 a2∧p2 a0 a1 a2∧p3 a0 a1 a2∧p4 a0 a1 a2∧p5 a0 a1 a2) (k:∀ a0 a1 a2,p0 a0 a1 a2→p1 a0 a1 a2→p2 a0 a1 a2→p3 a0 a1 a2→p4 a0 a1 a2→p5 a0 a1 a2→C):C:=t.elim fun a0 t=>t.elim fun a1 t=>t.elim fun a2 t=>k a0 a1 a2 t.1 t.2.1 t.2.2.1 t.2.2.2.1 t.2.2.2.2.1 t.2.2.2.2.2
theorem x37.{u0,u1,u2} {α₀:Sort u0} {α₁:Sort u1} {α₂:Sort u2} {p0 p1 p2 p3 p4 p5 p6:α₀→α₁→α₂→Prop} {C:Prop} (t:∃ a0 a1 a2,p0 a0 a1 a2∧p1 a0 a1 a2∧p2 a0 a1 a2∧p3 a0 a1 a2∧p4 a0 a1 a2∧p5 a0 a1 a2∧p6 a0 a1 a2) (k:∀ a0 a1 a2,p0 a0 a1 a2→p1 a0 a1 a2→p2 a0 a1 a2→p3 a0 a1 a2→p4 a0 a1 a2→p5 a0 a1 a2→p6 a0 a1 a2→C):C:=t.elim fun a0 t=>t.elim fun a1 t=>t.elim fun a2 t=>k a0 a1 a2 t.1 t.2.1 t.2.2.1 t.2.2.2.1 t.2.2.2.2.1 t.2.2.2.2.2.1 t.2.2.2.2.2.2
theorem x41.{u0,u1,u2,u3} {α₀:Sort u0} {α₁:Sort u1} {α₂:Sort u2} {α₃:Sort u3} {p0:α₀→α₁→α₂→α₃→Prop} {C:Prop} (t:∃ a0 a1 a2 a3,p0 a0 a1 a2 a3) (k:∀ a0 a1 a2 a3,p0 a0 a1 a2 a3→C):C:=t.elim fun a0 t=>t.elim fun a1 t=>t.elim fun a2 t=>t.elim fun a3 t=>k a0 a1 a2 a3 t
theorem x43.{u0,u1,u2,u3} {α₀:Sort u0} {α₁:Sort u1} {α₂:Sort u2} {α₃:Sort u3} {p0 p1 p2:α₀→α₁→α₂→α₃→Prop} {C:Prop} (t:∃ a0 a1 a2 a3,p0 a0 a1 a2 a3∧p1 a0 a1 a2 a3∧p2 a0 a1 a2 a3) (k:∀ a0 a1 a2 a3,p0 a0 a1 a2 a3→p1 a0 a1 a2 a3→p2 a0 a1 a2 a3→C):C:=t.elim fun a0 t=>t.elim fun a1 t=>t.elim fun a2 t=>t.elim fun a3 t=>k a0 a1 a2 a3 t.1 t.2.1 t.2.2
theorem x44.{u0,u1,u2,u3} {α₀:Sort u0} {α₁:Sort u1} {α₂:Sort u2} {α₃:Sort u3} {p0 p1 p2 p3:α₀→α₁→α₂→α₃→Prop} {C:Prop} (t:∃ a0 a1 a2 a3,p0 a0 a1 a2 a3∧p1 a0 a1 a2 a3∧p2 a0 a1 a2 a3∧p3 a0 a1 a2 a3) (k:∀ a0 a1 a2 a3,p0 a0 a1 a2 a3→p1 a0 a1 a2 a3→p2 a0 a1 a2 a3→p3 a0 a1 a2 a3→C):C:=t.elim fun a0 t=>t.elim fun a1 t=>t.elim fun a2 t=>t.elim fun a3 t=>k a0 a1 a2 a3 t.1 t.2.1 t.2.2.1 t.2.2.2
theorem x51.{u0,u1,u2,u3,u4} {α₀:Sort u0} {α₁:Sort u1} {α₂:Sort u2} {α₃:Sort u3} {α₄:Sort u4} {p0:α₀→α₁→α₂→α₃→α₄→Prop} {C:Prop} (t:∃ a0 a1 a2 a3 a4,p0 a0 a1 a2 a3 a4) (k:∀ a0 a1 a2 a3 a4,p0 a0 a1 a2 a3 a4→C):C:=t.elim fun a0 t=>t.elim fun a1 t=>t.elim fun a2 t=>t.elim fun a3 t=>t.elim fun a4 t=>k a0 a1 a2 a3 a4 t
theorem x52.{u0,u1,u2,u3,u4} {α₀:Sort u0} {α₁:Sort u1} {α₂:Sort u2} {α₃:Sort u3} {α₄:Sort u4} {p0 p1:α₀→α₁→α₂→α₃→α₄→Prop} {C:Prop} (t:∃ a0 a1 a2 a3 a4,p0 a0 a1 a2 a3 a4∧p1 a0 a1 a2 a3 a4) (k:∀ a0 a1 a2 a3 a4,p0 a0 a1 a2 a3 a4→p1 a0 a1 a2 a3 a4→C):C:=t.elim fun a0 t=>t.elim fun a1 t=>t.elim fun a2 t=>t.elim fun a3 t=>t.elim fun a4 t=>k a0 a1 a2 a3 a4 t.1 t.2
theorem x61.{u0,u1,u2,u3,u4,u5} {α₀:Sort u0} {α₁:Sort u1} {α₂:Sort u2} {α₃:Sort u3} {α₄:Sort u4} {α₅:Sort u5} {p0:α₀→α₁→α₂→α₃→α₄→α₅→Prop} {C:Prop} (t:∃ a0 a1 a2 a3 a4 a5,p0 a0 a1 a2 a3 a4 a5) (k:∀ a0 a1 a2 a3 a4 a5,p0 a0 a1 a2 a3 a4 a5→C):C:=t.elim fun a0 t=>t.elim fun a1 t=>t.elim fun a2 t=>t.elim fun a3 t=>t.elim fun a4 t=>t.elim fun a5 t=>k a0 a1 a2 a3 a4 a5 t
theorem x62.{u0,u1,u2,u3,u4,u5} {α₀:Sort u0} {α₁:Sort u1} {α₂:Sort u2} {α₃:Sort u3} {α₄:Sort u4} {α₅:Sort u5} {p0 p1:α₀→α₁→α₂→α₃→α₄→α₅→Prop} {C:Prop} (t:∃ a0 a1 a2 a3 a4 a5,p0 a0 a1 a2 a3 a4 a5∧p1 a0 a1 a2 a3 a4 a5) (k:∀ a0 a1 a2 a3 a4 a5,p0 a0 a1 a2 a3 a4 a5→p1 a0 a1 a2 a3 a4 a5→C):C:=t.elim fun a0 t=>t.elim fun a1 t=>t.elim fun a2 t=>t.elim fun a3 t=>t.elim fun a4 t=>t.elim fun a5 t=>k a0 a1 a2 a3 a4 a5 t.1 t.2
theorem y4 {α β:Type} {x:Option α} {f:α→Option β} {b:β} {C:Prop} (h:x.bind f=some b) (k:∀ a,x=some a→f a=some b→C):C:=(Option.bind_eq_some_iff.mp h).elim fun a t=>k a t.1 t.2
theorem v8 {α β:Type} {x:Option α} {f:α→β} {b:β} {C:Prop} (h:x.map f=some b) (k:∀ a,x=some a→f a=b→C):C:=(Option.map_eq_some_iff.mp h).elim fun a t=>k a t.1 t.2
theorem bind_some {α β:Type} {x:Option α} {f:α→Option β} {b:β} (h:x.bind f=some b):∃ a,x=some a∧f a=some b:=Option.bind_eq_some_iff.mp h
theorem map_some {α β:Type} {x:Option α} {f:α→β} {b:β} (h:x.map f=some b):∃ a,x=some a∧f a=b:=Option.map_eq_some_iff.mp h
theorem d0 {α:Type} {p:Prop} [Decidable p] {x:Option α} {b:α} (h:(if p then x else none)=some b):p∧x=some b:=by
 by_cases hp:p
 ·exact ⟨hp,(if_pos hp).symm.trans h⟩
 ·exact w9 ((if_neg hp).symm.trans h)
theorem if_none {α:Type} {p:Prop} [Decidable p] {x:Option α} {b:α} (h:(if p then none else x)=some b):¬ p∧x=some b:=by
 by_cases hp:p
 ·exact w9 ((if_pos hp).symm.trans h)
 ·exact ⟨hp,(if_neg hp).symm.trans h⟩
theorem v9 {α:Type} {p:Prop} [Decidable p] {x:Option α} {b:α} {C:Prop} (h:(if p then x else none)=some b) (k:p→x=some b→C):C:=k (d0 h).1 (d0 h).2
theorem ifn_k {α:Type} {p:Prop} [Decidable p] {x:Option α} {b:α} {C:Prop} (h:(if p then none else x)=some b) (k:¬ p→x=some b→C):C:=k (if_none h).1 (if_none h).2
theorem j6 {α:Type} {x y:Option α} {b:α} (h:x.or y=some b):x=some b∨y=some b:=by
 cases x with
 | none=>exact .inr h
 | some a=>exact .inl h
noncomputable def i9:PV→Option Int
 | .int i=>some i
 | _=>none
theorem U6 {v:PV} {i:Int} (h:i9 v=some i):v = .int i:=by
 cases v with
 | int j=>exact congrArg _ (Option.some.inj h)
 | _=>exact w9 h
noncomputable def j8:PV→Option (List Nat)
 | .str i=>some i
 | _=>none
theorem a9 {v:PV} {i:List Nat} (h:j8 v=some i):v = .str i:=by
 cases v with
 | str j=>exact congrArg _ (Option.some.inj h)
 | _=>exact w9 h
noncomputable def lstP:PV→Option (List PV)
 | .list i=>some i
 | _=>none
theorem X8 {v:PV} {i:List PV} (h:lstP v=some i):v = .list i:=by
 cases v with
 | list j=>exact congrArg _ (Option.some.inj h)
 | _=>exact w9 h
noncomputable def seqP:PV→Option (List PV)
 | .list i=>some i
 | .tup i=>some i
 | _=>none
theorem seqP_ok {v:PV} {i:List PV} (h:seqP v=some i):v = .list i∨v = .tup i:=by
 cases v with
 | list j=>exact .inl (congrArg _ (Option.some.inj h))
 | tup j=>exact .inr (congrArg _ (Option.some.inj h))
 | _=>exact w9 h
noncomputable def boolP:PV→Option Bool
 | .bool i=>some i
 | _=>none
theorem boolP_ok {v:PV} {i:Bool} (h:boolP v=some i):v = .bool i:=by
 cases v with
 | bool j=>exact congrArg _ (Option.some.inj h)
 | _=>exact w9 h
noncomputable def obP:PV→Option Addr
 | .ob i=>some i
 | _=>none
theorem obP_ok {v:PV} {i:Addr} (h:obP v=some i):v = .ob i:=by
 cases v with
 | ob j=>exact congrArg _ (Option.some.inj h)
 | _=>exact w9 h
noncomputable def nulP:PV→Option Unit
 | .nul=>some ()
 | _=>none
theorem nulP_ok {v:PV} {i:Unit} (h:nulP v=some i):v = .nul:=by
 cases v with
 | nul=>rfl
 | _=>exact w9 h
noncomputable def vTy:Value→Option String
 | .type n=>some n
 | _=>none
noncomputable def vRef:Value→Option Addr
 | .ref n=>some n
 | _=>none
noncomputable def fnP:PV→Option Value
 | .fn f=>some f
 | _=>none
theorem fnP_ok {v:PV} {i:Value} (h:fnP v=some i):v = .fn i:=by
 cases v with
 | fn j=>exact congrArg _ (Option.some.inj h)
 | _=>exact w9 h
noncomputable def tyP (v:PV):Option String:=(fnP v).bind vTy
theorem tyP_ok {v:PV} {i:String} (h:tyP v=some i):v = .fn (.type i):=by
 obtain ⟨f,e,h⟩:=bind_some h;rw [fnP_ok e]
 cases f with
 | type n=>exact congrArg (fun n=>PV.fn (.type n)) (Option.some.inj h)
 | _=>exact w9 h
noncomputable def refP (v:PV):Option Addr:=(fnP v).bind vRef
theorem refP_ok {v:PV} {i:Addr} (h:refP v=some i):v = .fn (.ref i):=by
 obtain ⟨f,e,h⟩:=bind_some h;rw [fnP_ok e]
 cases f with
 | ref n=>exact congrArg (fun n=>PV.fn (.ref n)) (Option.some.inj h)
 | _=>exact w9 h
noncomputable def one1 {α:Type} : List α→Option α
 | [c]=>some c
 | _=>none
theorem T4 {α:Type} {l:List α} {c:α} (h:one1 l=some c):l=[c]:=by
 cases l with
 | nil=>exact w9 h
 | cons a r=>cases r with
  | nil=>exact congrArg (fun c=>[c]) (Option.some.inj h)
  | cons=>exact w9 h
noncomputable def two2 {α:Type} : List α→Option (α × α)
 | [c,d]=>some (c,d)
 | _=>none
theorem two2_ok {α:Type} {l:List α} {c:α × α} (h:two2 l=some c):l=[c.1,c.2]:=by
 cases l with
 | nil=>exact w9 h
 | cons a r=>cases r with
  | nil=>exact w9 h
  | cons b q=>cases q with
   | nil=>rw [← Option.some.inj h]
   | cons=>exact w9 h
noncomputable def nil0 {α:Type} : List α→Option Unit
 | []=>some ()
 | _=>none
theorem nil0_ok {α:Type} {l:List α} {c:Unit} (h:nil0 l=some c):l=[]:=by
 cases l with
 | nil=>rfl
 | cons=>exact w9 h
noncomputable def tri3 {α:Type} : List α→Option (α × α × α)
 | [a,b,c]=>some (a,b,c)
 | _=>none
theorem tri3_ok {α:Type} {l:List α} {c:α × α × α} (h:tri3 l=some c):l=[c.1,c.2.1,c.2.2]:=by
 cases l with
 | nil=>exact w9 h
 | cons a r=>cases r with
  | nil=>exact w9 h
  | cons b q=>cases q with
   | nil=>exact w9 h
   | cons d q=>cases q with
    | nil=>rw [← Option.some.inj h]
    | cons=>exact w9 h
theorem Z9 {α:Type} {p:Prop} [Decidable p] {x y:Option α} {b:α} (h:(if p then x else y)=some b):p∧x=some b∨¬ p∧y=some b:=by
 by_cases hp:p
 ·exact .inl ⟨hp,(if_pos hp).symm.trans h⟩
 ·exact .inr ⟨hp,(if_neg hp).symm.trans h⟩
noncomputable def chrP (v:PV):Option Nat:=(j8 v).bind one1
theorem R6 {v:PV} {c:Nat} (h:chrP v=some c):v = .str [c]:=by
 obtain ⟨l,e,h⟩:=bind_some h;rw [a9 e,T4 h]
noncomputable def tupP:PV→Option (List PV)
 | .tup i=>some i
 | _=>none
theorem tupP_ok {v:PV} {i:List PV} (h:tupP v=some i):v = .tup i:=by
 cases v with
 | tup j=>exact congrArg _ (Option.some.inj h)
 | _=>exact w9 h
noncomputable def pairP (v:PV):Option (PV × PV):=(tupP v).bind two2
theorem pairP_ok {v:PV} {c:PV × PV} (h:pairP v=some c):v = .tup [c.1,c.2]:=by
 obtain ⟨l,e,h⟩:=bind_some h;rw [tupP_ok e,two2_ok h]
noncomputable def pv2 {α β:Type} (p:PV→Option α) (f:α→α→Option β) (a b:PV):Option β:=(p a).bind fun x=>(p b).bind (f x)
theorem pv2_ok {α β:Type} {p:PV→Option α} {f:α→α→Option β} {a b:PV} {r:β} (h:pv2 p f a b=some r):∃ x y,p a=some x∧p b=some y∧f x y=some r:=by
 obtain ⟨x,h1,h⟩:=bind_some h;obtain ⟨y,h2,h⟩:=bind_some h;exact ⟨x,y,h1,h2,h⟩
theorem two_int {β:Type} {f:Int→Int→Option β} {a b:PV} {r:β} (h:pv2 i9 f a b=some r):∃ x y,a = .int x∧b = .int y∧f x y=some r :=
 let ⟨x,y,h1,h2,h3⟩:=pv2_ok h;⟨x,y,U6 h1,U6 h2,h3⟩
theorem V1 {β:Type} {f:Int→Int→Option β} {a b:PV} {r:β} {C:Prop} (h:pv2 i9 f a b=some r) (k:∀ x y,a = .int x→b = .int y→f x y=some r→C):C:=(two_int h).elim fun x t=>t.elim fun y t=>k x y t.1 t.2.1 t.2.2
theorem two_str {β:Type} {f:List Nat→List Nat→Option β} {a b:PV} {r:β} (h:pv2 j8 f a b=some r):∃ x y,a = .str x∧b = .str y∧f x y=some r :=
 let ⟨x,y,h1,h2,h3⟩:=pv2_ok h;⟨x,y,a9 h1,a9 h2,h3⟩
theorem two_lst {β:Type} {f:List PV→List PV→Option β} {a b:PV} {r:β} (h:pv2 lstP f a b=some r):∃ x y,a = .list x∧b = .list y∧f x y=some r :=
 let ⟨x,y,h1,h2,h3⟩:=pv2_ok h;⟨x,y,X8 h1,X8 h2,h3⟩
theorem two_bool {β:Type} {f:Bool→Bool→Option β} {a b:PV} {r:β} (h:pv2 boolP f a b=some r):∃ x y,a = .bool x∧b = .bool y∧f x y=some r :=
 let ⟨x,y,h1,h2,h3⟩:=pv2_ok h;⟨x,y,boolP_ok h1,boolP_ok h2,h3⟩
mutual
noncomputable def b9:Nat→PV→Bool
 | _,.nul=>true
 | _,.bool _=>true
 | _,.int _=>true
 | _,.str _=>true
 | n,.list xs => !Nat.beq n 0 && b6 (n - 1) xs
 | n,.tup xs => !Nat.beq n 0 && b6 (n - 1) xs
 | _,.fn _=>false
 | _,.ob _=>false
noncomputable def b6:Nat→List PV→Bool
 | _,[]=>true
 | n,x::xs=>b9 n x && b6 n xs
end
noncomputable def eqo (x y:PV):Option Bool :=
 (pv2 j8 (fun a b=>some (decide (a=b))) x y).or ((pv2 i9 (fun a b=>some (decide (a=b))) x y).or ((pv2 boolP (fun a b=>some (a == b)) x y).or
  (if (b9 8 x && b9 8 y)=true then some (PyData.eqv (l7 x) (l7 y)) else none)))
noncomputable def Z3:List Nat→List Nat→Bool
 | [],_=>true
 | _::_,[]=>false
 | a::as,b::bs=>a == b && Z3 as bs
noncomputable def truthy:PV→Option Bool
 | .nul=>some false
 | .bool b=>some b
 | .int i=>some (decide (i≠0))
 | .str s=>some (!s.isEmpty)
 | .list s=>some (!s.isEmpty)
 | .tup s=>some (!s.isEmpty)
 | _=>none
noncomputable def b5 (x:PV) (ys:List PV):Option Bool :=
 if b9 8 x && b6 8 ys then some ((m8 ys).any fun y=>PyData.eqv y (l7 x)) else none
noncomputable def isop (x y:PV):Option Bool:=match x with
 | .nul=>(nulP y).map fun _=>true
 | .list _=>(nulP y).map fun _=>false
 | .ob a=>(obP y).map fun b=>decide (a=b)
 | .str _=>(obP y).map fun _=>false
 | .fn f=>(vTy f).bind fun a=>(tyP y).map fun b=>decide (a=b)
 | _=>none
noncomputable def inS (a b:PV):Option Bool:=(chrP a).bind fun c=>(j8 b).map fun s=>decide (c∈s)
noncomputable def u7 (op:CmpOp) (a b:PV):Option Bool:=match op with
 | .Eq=>eqo a b
 | .NotEq=>(eqo a b).map (!·)
 | .Lt=>(pv2 i9 (fun a b=>some (decide (a<b))) a b).or (pv2 j8 (fun a b=>some (decide (a<b))) a b)
 | .LtE=>pv2 i9 (fun a b=>some (decide (a≤b))) a b
 | .Gt=>(pv2 i9 (fun a b=>some (decide (b<a))) a b).or (pv2 j8 (fun a b=>some (decide (b<a))) a b)
 | .GtE=>pv2 i9 (fun a b=>some (decide (b≤a))) a b
 | .Is=>isop a b
 | .IsNot=>(isop a b).map (!·)
 | .In=>(inS a b).or ((seqP b).bind (b5 a))
 | .NotIn=>((inS a b).or ((lstP b).bind (b5 a))).map (!·)
noncomputable def l4 (op:Operator) (a b:PV):Option PV:=match op with
 | .Add=>(pv2 i9 (fun a b=>some (.int (a + b))) a b).or ((pv2 j8 (fun a b=>if a.length + b.length≤small then some (.str (a ++ b)) else none) a b).or
  (pv2 lstP (fun a b=>if a.length + b.length≤small then some (.list (a ++ b)) else none) a b))
 | .Sub=>pv2 i9 (fun a b=>some (.int (a - b))) a b
 | .Mod=>pv2 i9 (fun a b=>if 0<b then some (.int (a % b)) else none) a b
 | .FloorDiv=>pv2 i9 (fun a b=>if 0<b∧b<1000000000 then some (.int (a / b)) else none) a b
 | .Pow=>pv2 i9 (fun a b=>if 0≤b∧b≤16∧0≤a∧a≤64 then some (.int (a ^ b.toNat)) else none) a b
 | _=>none
noncomputable def b8 (n:Nat) (i:Int):Option Nat :=
 if 0≤i then (if i<(n:Int) then some i.toNat else none) else if -(n:Int)≤i then some ((n:Int) + i).toNat else none
noncomputable def itx {α:Type} (s:List α) (i:Int):Option α:=(b8 s.length i).bind fun k=>s[k]?
noncomputable def v4 (x y:PV):Option PV:=(i9 y).bind fun i=>match x with
 | .str s=>(itx s i).map fun c => .str [c]
 | .list s=>itx s i
 | .tup s=>itx s i
 | _=>none
noncomputable def i6 (n:Nat) (i:Int):Nat:=if i<0 then (i + (n:Int)).toNat else min i.toNat n
noncomputable def bound (n d:Nat):PV→Option Nat
 | .nul=>some d
 | .int i=>some (i6 n i)
 | _=>none
theorem bound_int {n d:Nat} {i:Int} : bound n d (.int i)=some (i6 n i):=rfl
theorem bound_nul {n d:Nat} : bound n d .nul=some d:=rfl
noncomputable def cut {α:Type} (xs:List α) (lo hi:Nat):List α:=(xs.take hi).drop lo
noncomputable def slcL {α:Type} (s:List α) (lo hi:PV):Option (List α):=(bound s.length 0 lo).bind fun l=>(bound s.length s.length hi).map fun h=>cut s l h
noncomputable def n8 (a lo hi:PV):Option PV:=match a with
 | .str s=>(slcL s lo hi).map .str
 | .list s=>(slcL s lo hi).map .list
 | _=>none
noncomputable def i4?:List PV→Option (List (List Nat))
 | []=>some []
 | .str s::r=>(i4? r).map (s :: ·)
 | _=>none
noncomputable def insS (x:List Nat):List (List Nat)→List (List Nat)
 | []=>[x]
 | y::ys=>if x<y then x::y::ys else y::insS x ys
noncomputable def Y2:List (List Nat)→List (List Nat)
 | []=>[]
 | x::xs=>insS x (Y2 xs)
noncomputable def u6 (sep:List Nat):List (List Nat)→List Nat
 | []=>[]
 | [x]=>x
 | x::xs=>x ++ sep ++ u6 sep xs
noncomputable def sumB:List PV→Option Int
 | []=>some 0
 | .bool b::r=>(sumB r).map ((if b then 1 else 0) + ·)
 | _=>none
theorem sumB_cons {b:Bool} {r:List PV} : sumB (.bool b::r)=(sumB r).map ((if b then 1 else 0) + ·):=rfl
noncomputable def X2 (c:Nat):List Nat→Option Nat
 | []=>none
 | x::xs=>if x=c then some 0 else (X2 c xs).map (· + 1)
noncomputable def m3 (c:Nat):List Nat→List (List Nat)
 | []=>[[]]
 | x::xs=>if x=c then []::m3 c xs else match m3 c xs with
  | []=>[[x]]
  | w::ws=>(x::w)::ws
noncomputable def i3 (c:Nat) (r:List Nat):List Nat→List Nat
 | []=>[]
 | x::xs=>(if x=c then r else [x]) ++ i3 c r xs
noncomputable def lowC (c:Nat):Nat:=if 65≤c∧c≤90 then c + 32 else c
noncomputable def upC (c:Nat):Nat:=if 97≤c∧c≤122 then c - 32 else c
noncomputable def g0 (s:List Nat):Bool:=s.all (· < 128)
noncomputable def U4 (x:PV) (ys:List PV):Option Nat :=
 if b9 8 x && b6 8 ys then (m8 ys).findIdx? fun y=>PyData.eqv y (l7 x) else none
noncomputable def specials:List Nat:=[40,41,91,93,123,125,63,42,43,45,124,94,36,92,46,38,126,35,32,9,10,13,11,12]
noncomputable def escC (c:Nat):List Nat:=if specials.contains c then [92,c] else [c]
noncomputable def lenM (args:List PV):Option PV:=(one1 args).bind fun v=>match v with
 | .str s=>some (.int s.length)
 | .list s=>some (.int s.length)
 | _=>none
noncomputable def sumM (args:List PV):Option PV:=(one1 args).bind fun v=>(lstP v).bind fun s=>(sumB s).map .int
noncomputable def sortedM (args:List PV):Option PV:=(one1 args).bind fun v=>(lstP v).bind fun s=>if s.length<64 then (i4? s).map fun l => .list ((Y2 l).map .str) else none
noncomputable def isinstM (args:List PV):Option PV:=(two2 args).bind fun p=>(j8 p.1).bind fun _=>(tyP p.2).bind fun n=>if n = "str" then some (.bool true) else none
noncomputable def Z1 (f:String) (args:List PV):Option PV :=
 if f = "len" then lenM args else if f = "sum" then sumM args else if f = "sorted" then sortedM args else if f = "isinstance" then isinstM args else none
noncomputable def callT (f:String) (args:List PV):Option PV :=
 if f = "list" then (one1 args).bind fun v=>(lstP v).map .list
 else if f = "type" then (one1 args).bind fun v=>(boolP v).map fun _ => .fn (.type "bool")
 else none
noncomputable def joinM (o:PV) (args:List PV):Option PV:=(j8 o).bind fun s=>(one1 args).bind fun x=>(lstP x).bind fun xs=>(i4? xs).bind fun l=>if (u6 s l).length≤small then some (.str (u6 s l)) else none
noncomputable def splitM (o:PV) (args:List PV):Option PV:=(j8 o).bind fun s=>(one1 args).bind fun x=>(chrP x).bind fun c=>if s.length<small then some (.list ((m3 c s).map .str)) else none
noncomputable def upperM (o:PV) (args:List PV):Option PV:=(j8 o).bind fun s=>(nil0 args).bind fun _=>if g0 s then some (.str (s.map upC)) else none
noncomputable def lowerM (o:PV) (args:List PV):Option PV:=(j8 o).bind fun s=>(nil0 args).bind fun _=>if g0 s then some (.str (s.map lowC)) else none
noncomputable def startsM (o:PV) (args:List PV):Option PV:=(j8 o).bind fun s=>(one1 args).bind fun x=>(j8 x).map fun p => .bool (Z3 p s)
noncomputable def endsM (o:PV) (args:List PV):Option PV:=(j8 o).bind fun s=>(one1 args).bind fun x=>(j8 x).map fun p => .bool (Z3 p.reverse s.reverse)
noncomputable def find1 (s:List Nat) (x:PV):Option PV:=(chrP x).map fun c => .int (match X2 c s with | some k=>(k:Int) | none => -1)
noncomputable def find3 (s:List Nat) (p:PV × PV × PV):Option PV:=(chrP p.1).bind fun c=>(i9 p.2.1).bind fun lo=>(i9 p.2.2).bind fun hi=>if c<128∧0≤lo∧lo=hi∧hi≤(s.length:Int) then some (.int (-1)) else none
noncomputable def findM (o:PV) (args:List PV):Option PV:=(j8 o).bind fun s=>((one1 args).bind (find1 s)).or ((tri3 args).bind (find3 s))
noncomputable def indexM (o:PV) (args:List PV):Option PV:=(lstP o).bind fun s=>(one1 args).bind fun x=>(U4 x s).map fun (k:Nat) => .int (k:Int)
noncomputable def transM (o:PV) (args:List PV):Option PV:=(chrP o).bind fun c=>(one1 args).bind fun x=>(refP x).bind fun a=>if a=52∧c<128 then some (.str (escC c)) else none
noncomputable def searchM (o:PV) (args:List PV):Option PV:=(refP o).bind fun a=>(one1 args).bind fun x=>(j8 x).bind fun s=>if a=81∧(s.all (fun c=>decide (c<128) && !(decide (48≤c) && decide (c≤57)))=true∧s.length≤64) then some .nul else none
noncomputable def n9 (m:Str) (o:PV) (args:List PV):Option PV :=
 if m = "join" then joinM o args else if m = "split" then splitM o args else if m = "upper" then upperM o args else if m = "lower" then lowerM o args
 else if m = "startswith" then startsM o args else if m = "endswith" then endsM o args else if m = "find" then findM o args
 else if m = "index" then indexM o args else if m = "translate" then transM o args else if m = "search" then searchM o args else none
noncomputable def itemsOf (v:PV):Option (List PV):=lstP v
noncomputable def itemsZ (v:PV):Option (List PV):=match v with
 | .list xs=>some xs
 | .str s=>if g0 s then some (s.map fun c => .str [c]) else none
 | _=>none
noncomputable def Y1:Nat→Nat→List PV
 | _,0=>[]
 | i,n + 1 => .int i::Y1 (i + 1) n
noncomputable def W7:Nat→List PV→List PV
 | _,[]=>[]
 | i,x::xs => .tup [.int i,x]::W7 (i + 1) xs
noncomputable def zipL:List PV→List PV→List PV
 | x::xs,y::ys => .tup [x,y]::zipL xs ys
 | _,_=>[]
noncomputable def f9 (k:IK) (a b:PV):Option (List PV):=match k with
 | .plain=>itemsOf a
 | .range=>(i9 a).bind fun n=>if -4096≤n∧n≤4096 then some (Y1 0 n.toNat) else none
 | .zip=>(itemsOf a).bind fun x=>(itemsZ b).map fun y=>zipL x y
 | .enum=>(itemsOf a).map (W7 0)
noncomputable def valS:Slot→Option PV
 | .val v=>some v
 | _=>none
noncomputable def peekS:Slot→Option PV
 | .val v=>some v
 | .own xs=>some (.list xs)
 | _=>none
noncomputable def j5 (σ:z9) (i:Nat):Option PV:=σ[i]?.bind valS
noncomputable def X7 (σ:z9) (i:Nat):Option PV:=σ[i]?.bind peekS
noncomputable def z7 (σ:z9) (i:Nat) (s:Slot):z9:=(σ.map fun t=>match t with | .app r=>if r=i then .unset else t | t=>t).set i s
noncomputable def Tgt.put (t:Tgt) (σ:z9) (v:PV):Option z9:=match t with
 | .one x=>some (z7 σ x (.val v))
 | .two x y=>(pairP v).map fun p=>z7 (z7 σ x (.val p.1)) y (.val p.2)
noncomputable def i7 (σ:z9) (cap:List (Option Nat)):z9:=cap.map fun c=>match c with
 | some j=>(match j5 σ j with | some v => .val v | none => .unset)
 | none => .unset
noncomputable def m5 (t:Tgt) (σ:z9) (test:z9→Option Bool) (elt:z9→Option PV):List PV→Option (List PV)
 | []=>some []
 | x::xs=>(t.put σ x).bind fun σ1=>(test σ1).bind fun b=>if b=true then (elt σ1).bind fun v=>(m5 t σ test elt xs).map (v :: ·) else m5 t σ test elt xs
noncomputable def X0 (t:Tgt) (σ:z9) (inner:z9→Option (List PV)):List PV→Option (List PV)
 | []=>some []
 | x::xs=>(t.put σ x).bind fun σ1=>(inner σ1).bind fun vs=>(X0 t σ inner xs).bind fun r=>if vs.length + r.length≤small then some (vs ++ r) else none
noncomputable abbrev y9:=Value→List PV→Option PV
inductive Md where
 | val | peek | test
 deriving DecidableEq
noncomputable def fin (m:Md) (v:Option PV):Option PV:=match m with
 | .test=>v.bind fun x=>(truthy x).map .bool
 | _=>v
noncomputable def y8 (v:Option PV):Option Bool:=v.bind boolP
noncomputable def callF (Γ:y9) (f:Value) (vs:List PV):Option PV:=match f with
 | .builtin n=>Z1 n vs
 | .type n=>callT n vs
 | f=>Γ f vs
noncomputable def Q2 (v:PV) (c:Nat) (r:List Nat):Option PV:=match v with
 | .str s=>if s.length≤65536∧r.length≤14∧([c]:List Nat)≠r∧(i3 c r s).length≤small then some (.str (i3 c r s)) else none
 | _=>none
noncomputable def W9 (vs:List PV):Option PV:=(i4? vs).bind fun l=>if (u6 [] l).length≤small then some (.str (u6 [] l)) else none
mutual
noncomputable def z8 (Γ:y9):PE→Md→z9→Option PV
 | .lit v,m,_=>fin m (some v)
 | .var i,m,σ=>match m with
  | .val=>j5 σ i
  | .peek=>X7 σ i
  | .test=>fin .test (X7 σ i)
 | .gl v,m,_=>fin m (some (.fn v))
 | .bin op a b,m,σ=>fin m ((z8 Γ a .val σ).bind fun x=>(z8 Γ b .val σ).bind fun y=>l4 op x y)
 | .neg i,m,_=>fin m (some (.int (-i)))
 | .cmp op a b,m,σ=>fin m ((z8 Γ a .val σ).bind fun x=>(z8 Γ b .val σ).bind fun y=>(u7 op x y).map .bool)
 | .nt a,m,σ=>match m with
  | .test=>(y8 (z8 Γ a .test σ)).map fun b => .bool (!b)
  | _=>none
 | .bop c a b,m,σ=>match m with
  | .test=>(y8 (z8 Γ a .test σ)).bind fun t=>if t == c then z8 Γ b .test σ else some (.bool t)
  | m=>(z8 Γ a .val σ).bind fun x=>(truthy x).bind fun t=>if t == c then z8 Γ b m σ else some x
 | .ife c a b,m,σ=>(y8 (z8 Γ c .test σ)).bind fun t=>if t=true then z8 Γ a m σ else z8 Γ b m σ
 | .idx a i,m,σ=>fin m ((z8 Γ a .peek σ).bind fun x=>(z8 Γ i .val σ).bind fun y=>v4 x y)
 | .slc a lo hi,m,σ=>fin m ((z8 Γ a .val σ).bind fun x=>(z8 Γ lo .val σ).bind fun y=>(z8 Γ hi .val σ).bind fun z=>n8 x y z)
 | .len e,m,σ=>fin m ((z8 Γ e .peek σ).bind fun x=>Z1 "len" [x])
 | .call f args,m,σ=>fin m ((m6 Γ args σ).bind fun vs=>callF Γ f vs)
 | .meth w o args,m,σ=>fin m ((z8 Γ o .val σ).bind fun x=>(m6 Γ args σ).bind fun vs=>n9 w x vs)
 | .repl o c r,m,σ=>fin m ((z8 Γ o .val σ).bind fun x=>Q2 x c r)
 | .lst es,m,σ=>fin m ((m6 Γ es σ).map .list)
 | .tpl es,m,σ=>fin m ((m6 Γ es σ).map .tup)
 | .comp elt t k a b ifs cap,m,σ=>fin m ((z8 Γ a .val σ).bind fun x=>(z8 Γ b .val σ).bind fun y=>(f9 k x y).bind fun items=>(m5 t (i7 σ cap) (f0 Γ ifs) (z8 Γ elt .val) items).map .list)
 | .comp2 elt t k a b t2 a2 cap,m,σ=>fin m ((z8 Γ a .val σ).bind fun x=>(z8 Γ b .val σ).bind fun y=>(f9 k x y).bind fun items =>
   (X0 t (i7 σ cap) (fun σ1=>(z8 Γ a2 .val σ1).bind fun z=>(f9 .plain z .nul).bind fun items2=>m5 t2 σ1 (fun _=>some true) (z8 Γ elt .val) items2) items).map .list)
 | .fstr es,m,σ=>fin m ((m6 Γ es σ).bind W9)
 | .bad,_,_=>none
noncomputable def m6 (Γ:y9):List PE→z9→Option (List PV)
 | [],_=>some []
 | e::es,σ=>(z8 Γ e .val σ).bind fun v=>(m6 Γ es σ).map (v :: ·)
noncomputable def f0 (Γ:y9):List PE→z9→Option Bool
 | [],_=>some true
 | e::es,σ=>(y8 (z8 Γ e .test σ)).bind fun t=>if t=true then f0 Γ es σ else some false
end
theorem test_some {x:Option PV} {b:Bool} (h:y8 (fin .test x)=some b):∃ v,x=some v∧truthy v=some b:=by
 obtain ⟨v',h1,h2⟩:=bind_some h;obtain ⟨v,hx,h1⟩:=bind_some h1;obtain ⟨b',htr,rfl⟩:=map_some h1;exact ⟨v,hx,htr.trans h2⟩
inductive Fl where
 | next | brk | cont
 | ret (v:PV)
 deriving Inhabited
noncomputable def frzA (σ:z9):z9:=σ.map fun s=>match s with | .own xs => .val (.list xs) | s=>s
noncomputable def frz1 (σ:z9) (i:Nat):z9:=match σ[i]? with | some (.own xs)=>σ.set i (.val (.list xs)) | _=>σ
noncomputable def Y0 (σ:z9) (x:Nat):Option (List PV):=match σ[x]? with
 | some (.own xs)=>some xs
 | _=>none
theorem O6 {σ:z9} {x:Nat} {xs:List PV} (h:Y0 σ x=some xs):σ[x]?=some (.own xs):=by
 unfold Y0 at h;revert h
 cases σ[x]? with
 | none=>exact w9
 | some s=>cases s with
  | own ys=>exact fun h=>congrArg (fun l=>some (Slot.own l)) (Option.some.inj h)
  | _=>exact w9
noncomputable def appAt (σ:z9) (x:Nat):Option Nat:=match σ[x]? with
 | some (.app r)=>some r
 | _=>none
theorem appAt_ok {σ:z9} {x r:Nat} (h:appAt σ x=some r):σ[x]?=some (.app r):=by
 unfold appAt at h;revert h
 cases σ[x]? with
 | none=>exact w9
 | some s=>cases s with
  | app ys=>exact fun h=>congrArg (fun l=>some (Slot.app l)) (Option.some.inj h)
  | _=>exact w9
noncomputable def seqF (k:z9→Option (Fl × z9)) (q:Fl × z9):Option (Fl × z9):=match q.1 with
 | .next=>k q.2
 | _=>some q
noncomputable def turnF (k:z9→Option (Fl × z9)) (q:Fl × z9):Option (Fl × z9):=match q.1 with
 | .next=>k q.2
 | .cont=>k q.2
 | .brk=>some (.next,q.2)
 | .ret v=>some (.ret v,q.2)
noncomputable def b7 (c:z9→Option Bool) (b:z9→Option (Fl × z9)):Nat→z9→Option (Fl × z9)
 | 0,_=>none
 | n + 1,σ=>(c σ).bind fun t=>if t=true then (b σ).bind (turnF (b7 c b n)) else some (.next,σ)
noncomputable def c7 (t:Tgt) (b:z9→Option (Fl × z9)):List PV→z9→Option (Fl × z9)
 | [],σ=>some (.next,σ)
 | x::xs,σ=>(t.put σ x).bind fun σ1=>(b σ1).bind (turnF (c7 t b xs))
noncomputable def V6 (t:Tgt) (x:Nat) (b:z9→Option (Fl × z9)):Nat→Nat→z9→Option (Fl × z9)
 | _,0,_=>none
 | i,n + 1,σ=>(Y0 σ x).bind fun ys=>match ys[i]? with
  | none=>some (.next,σ)
  | some y=>(t.put σ y).bind fun σ1=>(b σ1).bind (turnF (V6 t x b (i + 1) n))
noncomputable def augop (op:Operator) (u v:PV):Option PV:=match op with
 | .Add=>match u with
  | .int a=>(i9 v).map fun b => .int (a + b)
  | .str a=>(j8 v).bind fun b=>if a.length + b.length≤small then some (.str (a ++ b)) else none
  | _=>none
 | _=>none
noncomputable def R1:List (List Nat):=[[42],[63],[91],[33,97],[33,98],[33,42],[33,63],[33,91],[33,93],[33,33],[33,92,92],[33,92,45],[33,94],[33,32],[33,36],[33,43]]
noncomputable def U7:List (List Nat):=[[33,38],[33,126],[33,124]]
noncomputable def T5 (s:List Nat):List Nat:=s.flatMap fun c=>if c=38∨c=126∨c=124 then [92,c] else [c]
noncomputable def j4:Nat:=100000
noncomputable def S8 (v:PV):Option PV:=(j8 v).bind fun s=>if s∈R1∨s∈U7 then some (.str (T5 s)) else none
noncomputable def djoinop:PV→Option PV
 | .list [v]=>(j8 v).bind fun s=>if s=[33,45] then some (.str [33,92,45]) else none
 | _=>none
mutual
noncomputable def w8 (Γ:y9) (A:Addr):PS→z9→Option (Fl × z9)
 | .assign x e,σ=>(z8 Γ e .val (frz1 σ x)).map fun v=>(.next,z7 (frz1 σ x) x (.val v))
 | .own x,σ=>some (.next,z7 σ x (.own []))
 | .app a x,σ=>(Y0 σ x).bind fun _=>if a=x then none else some (.next,z7 σ a (.app x))
 | .push x e,σ=>(z8 Γ e .val σ).bind fun v=>(Y0 σ x).bind fun xs=>if xs.length<small then some (.next,σ.set x (.own (xs ++ [v]))) else none
 | .pushA a x e,σ=>(appAt σ a).bind fun r=>if r=x then (z8 Γ e .val σ).bind fun v=>(Y0 σ x).bind fun xs=>if xs.length<small then some (.next,σ.set x (.own (xs ++ [v]))) else none else none
 | .asg2 _ _ _,_=>none
 | .tup2 x y a b,σ=>(z8 Γ a .val σ).bind fun u=>(z8 Γ b .val σ).bind fun v=>if x=y then none else some (.next,z7 (z7 σ x (.val u)) y (.val v))
 | .aug x op e,σ=>(j5 σ x).bind fun u=>(z8 Γ e .val σ).bind fun v=>(augop op u v).map fun r=>(.next,z7 σ x (.val r))
 | .ite c a b,σ=>(y8 (z8 Γ c .test σ)).bind fun t=>if t=true then y7 Γ A a σ else y7 Γ A b σ
 | .whl c b,σ=>b7 (fun σ=>y8 (z8 Γ c .test σ)) (y7 Γ A b) j4 σ
 | .for t k a b body,σ=>(z8 Γ a .val σ).bind fun x=>(z8 Γ b .val σ).bind fun y=>(f9 k x y).bind fun items=>c7 t (y7 Γ A body) items σ
 | .forOwn t x body,σ=>V6 t x (y7 Γ A body) 0 j4 σ
 | .down _ a b,σ=>(z8 Γ a .val σ).bind fun u=>(z8 Γ b .val σ).bind fun v=>(i9 u).bind fun x=>(i9 v).bind fun y=>if x≤y∧0≤x∧y≤4096 then some (.next,σ) else none
 | .ret e,σ=>(z8 Γ e .val (frzA σ)).map fun v=>(.ret v,frzA σ)
 | .brk,σ=>some (.brk,σ)
 | .asrt e,σ=>(y8 (z8 Γ e .test σ)).bind fun t=>if t=true then some (.next,σ) else none
 | .obj _,_=>none
 | .resub x,σ=>(j5 σ x).bind fun v=>(S8 v).map fun r=>(.next,z7 σ x (.val r))
 | .djoin x y,σ=>(X7 σ y).bind fun v=>(djoinop v).map fun r=>(.next,z7 σ x (.val r))
 | .bad _,_=>none
noncomputable def y7 (Γ:y9) (A:Addr):List PS→z9→Option (Fl × z9)
 | [],σ=>some (.next,σ)
 | s::r,σ=>(w8 Γ A s σ).bind (seqF (y7 Γ A r))
end
mutual
noncomputable def sets:PS→Nat→Bool
 | .assign i _,j=>i == j
 | .own i,j=>i == j
 | .ite _ a b,j=>d5 a j || d5 b j
 | .whl _ b,j=>d5 b j
 | .for _ _ _ _ b,j=>d5 b j
 | .forOwn _ _ b,j=>d5 b j
 | .resub i,j=>i == j
 | .djoin i _,j=>i == j
 | _,_=>false
noncomputable def d5:List PS→Nat→Bool
 | [],_=>false
 | s::r,j=>sets s j || d5 r j
end
noncomputable def outF:Fl→Option PV
 | .ret v=>some v
 | .next=>some .nul
 | _=>none
noncomputable def evF (Γ:y9) (A:Addr) (n:Nat) (body:List PS) (args:List PV):Option PV :=
 (y7 Γ A body (args.map Slot.val ++ List.replicate (n - args.length) .unset)).bind fun r=>outF r.1
end Mine
namespace Mine
open PySem
structure CT where
 ns:List Str
 kind:List (Str × NameKind)
 gl:List (Str × Value)
 own:List Str:=[]
 app:List (Str × Str):=[]
 inT:Bool:=false
noncomputable def P7 (k:NameKind):Bool:=k == .local || k == .cell || k == .free
noncomputable def CT.slot (c:CT) (id:Str):Option Nat:=(c.kind.lookup id).bind fun k=>if P7 k then c.ns.idxOf? id else none
noncomputable def CT.glob (c:CT) (id:Str):Option Value:=(c.kind.lookup id).bind fun k=>if k == .globalImplicit then c.gl.lookup id else none
theorem N4 {c:CT} {id:Str} {i:Nat} (h:c.slot id=some i):∃ k,c.kind.lookup id=some k∧(k = .local∨k = .cell∨k = .free)∧c.ns.idxOf? id=some i :=
 y4 h fun k h1 h2=>let ⟨h3,h4⟩:=d0 h2
 ⟨k,h1,(Bool.or_eq_true_iff.mp h3).elim (fun x=>(Bool.or_eq_true_iff.mp x).imp beq_iff_eq.mp fun y => .inl (beq_iff_eq.mp y)) fun x => .inr (.inr (beq_iff_eq.mp x)),h4⟩
theorem glob_ok {c:CT} {id:Str} {v:Value} (h:c.glob id=some v):c.kind.lookup id=some .globalImplicit∧c.gl.lookup id=some v :=
 y4 h fun _ h1 h2=>v9 h2 fun h3 h4=>⟨beq_iff_eq.mp h3▸h1,h4⟩
noncomputable def two {α β γ:Type} (x:Option α) (y:Option β) (f:α→β→γ):Option γ:=x.bind fun a=>y.map fun b=>f a b
theorem two_some {α β γ:Type} {x:Option α} {y:Option β} {f:α→β→γ} {r:γ} (h:two x y f=some r):∃ a b,x=some a∧y=some b∧f a b=r :=
 y4 h fun a ha h=>v8 h fun b hb h=>⟨a,b,ha,hb,h⟩
theorem Y4 {α β γ:Type} {x:Option α} {y:Option β} {f:α→β→γ} {r:γ} {C:Prop} (h:two x y f=some r) (k:∀ a b,x=some a→y=some b→f a b=r→C):C:=(two_some h).elim fun a t=>t.elim fun b t=>k a b t.1 t.2.1 t.2.2
structure Vw (e:Expr) where
 nm:Option {x:Str // ∃ p,e = .Name x p} := none
 cst:Option {k:Const // ∃ n p,e = .Constant k n p} := none
 att:Option {q:Expr × Str × Pos // e = .Attribute q.1 q.2.1 q.2.2} := none
 cal:Option {q:Expr × List Expr × Pos // e = .Call q.1 q.2.1 [] q.2.2} := none
 tup:Option {es:List Expr // ∃ k p,e = .Tuple es k p} := none
 nil:Option (PLift (∃ p,e = .List [] p)):=none
 lam:Option {q:Arguments × Expr × Scope // ∃ p,e = .Lambda q.1 q.2.1 q.2.2 p} := none
 gex:Option {q:Expr × List Comprehension × Scope // ∃ p,e = .GeneratorExp q.1 q.2.1 q.2.2 p} := none
 slc:Option {q:Option Expr × Option Expr // ∃ p,e = .Slice q.1 q.2 none p} := none
 neg:Option {x:Expr // ∃ p,e = .UnaryOp .USub x p} := none
 add:Option {q:Expr × Expr // ∃ p,e = .BinOp q.1 .Add q.2 p} := none
 orr:Option {vs:List Expr // ∃ p,e = .BoolOp .Or vs p} := none
noncomputable def vw:(e:Expr)→Vw e
 | .Name x p => { nm:=some ⟨x,p,rfl⟩ }
 | .Constant k n p => { cst:=some ⟨k,n,p,rfl⟩ }
 | .Attribute o m p => { att:=some ⟨(o,m,p),rfl⟩ }
 | .Call f as [] p => { cal:=some ⟨(f,as,p),rfl⟩ }
 | .Tuple es k p => { tup:=some ⟨es,k,p,rfl⟩ }
 | .List [] p => { nil:=some ⟨p,rfl⟩ }
 | .Lambda la lb ls p => { lam:=some ⟨(la,lb,ls),p,rfl⟩ }
 | .GeneratorExp e g s p => { gex:=some ⟨(e,g,s),p,rfl⟩ }
 | .Slice lo hi none p => { slc:=some ⟨(lo,hi),p,rfl⟩ }
 | .UnaryOp .USub x p => { neg:=some ⟨x,p,rfl⟩ }
 | .BinOp a .Add b p => { add:=some ⟨(a,b),p,rfl⟩ }
 | .BoolOp .Or vs p => { orr:=some ⟨vs,p,rfl⟩ }
 | _ => {}
noncomputable def val {α:Type} {p:α→Prop} (x:Option {a:α // p a}):Option α:=x.map Subtype.val
theorem c8 {α:Type} {p:α→Prop} {x:Option {a:α // p a}} {a:α} (h:val x=some a):p a :=
 let ⟨⟨_,h2⟩,_,h3⟩:=map_some h;h3▸h2
noncomputable def nm (e:Expr):Option Str:=val (vw e).nm
theorem d9 {e:Expr} {x:Str} (h:nm e=some x):∃ p,e = .Name x p:=(c8 (x:=(vw e).nm) h :)
noncomputable def cst (e:Expr):Option Const:=val (vw e).cst
theorem cst_ok {e:Expr} {x:Const} (h:cst e=some x):∃ k p,e = .Constant x k p:=(c8 (x:=(vw e).cst) h :)
noncomputable def strV:(k:Const)→Option {s:Str // k = .str s}
 | .str s=>some ⟨s,rfl⟩
 | _=>none
noncomputable def strC (k:Const):Option Str:=val (strV k)
theorem strC_ok {k:Const} {s:Str} (h:strC k=some s):k = .str s:=(c8 (x:=(strV k)) h :)
noncomputable def intV:(k:Const)→Option {s:Int // k = .int s}
 | .int s=>some ⟨s,rfl⟩
 | _=>none
noncomputable def intC (k:Const):Option Int:=val (intV k)
theorem intC_ok {k:Const} {s:Int} (h:intC k=some s):k = .int s:=(c8 (x:=(intV k)) h :)
noncomputable def strE (e:Expr):Option Str:=(cst e).bind strC
theorem strE_ok {e:Expr} {s:Str} (h:strE e=some s):∃ k p,e = .Constant (.str s) k p :=
 y4 h fun _ hx h1=>strC_ok h1▸cst_ok hx
noncomputable def intE (e:Expr):Option Int:=(cst e).bind intC
theorem intE_ok {e:Expr} {s:Int} (h:intE e=some s):∃ k p,e = .Constant (.int s) k p :=
 y4 h fun _ hx h1=>intC_ok h1▸cst_ok hx
noncomputable def strIs (e:Expr) (s:Str):Bool:=strE e == some s
theorem J3 {e:Expr} {s:Str} (h:strIs e s=true):∃ k p,e = .Constant (.str s) k p:=strE_ok (beq_iff_eq.mp h)
noncomputable def intIs (e:Expr) (s:Int):Bool:=intE e == some s
theorem intIs_ok {e:Expr} {s:Int} (h:intIs e s=true):∃ k p,e = .Constant (.int s) k p:=intE_ok (beq_iff_eq.mp h)
noncomputable def att (e:Expr):Option (Expr × Str × Pos):=val (vw e).att
theorem att_ok {e:Expr} {x:Expr × Str × Pos} (h:att e=some x):e = .Attribute x.1 x.2.1 x.2.2:=(c8 (x:=(vw e).att) h :)
noncomputable def cal (e:Expr):Option (Expr × List Expr × Pos):=val (vw e).cal
theorem cal_ok {e:Expr} {x:Expr × List Expr × Pos} (h:cal e=some x):e = .Call x.1 x.2.1 [] x.2.2:=(c8 (x:=(vw e).cal) h :)
noncomputable def tupE (e:Expr):Option (List Expr):=val (vw e).tup
theorem tupE_ok {e:Expr} {x:List Expr} (h:tupE e=some x):∃ k p,e = .Tuple x k p:=(c8 (x:=(vw e).tup) h :)
noncomputable def oneV {α:Type} : (l:List α)→Option {x:α // l=[x]}
 | [x]=>some ⟨x,rfl⟩
 | _=>none
noncomputable def one {α:Type} (l:List α):Option α:=val (oneV l)
theorem X3 {α:Type} {l:List α} {x:α} (h:one l=some x):l=[x]:=(c8 (x:=(oneV l)) h :)
noncomputable def pairW {α:Type} : (l:List α)→Option {x:α × α // l=[x.1,x.2]}
 | [x,y]=>some ⟨(x,y),rfl⟩
 | _=>none
noncomputable def pair {α:Type} (l:List α):Option (α × α):=val (pairW l)
theorem V7 {α:Type} {l:List α} {x:α × α} (h:pair l=some x):l=[x.1,x.2]:=(c8 (x:=(pairW l)) h :)
noncomputable def tripV {α:Type} : (l:List α)→Option {x:α × α × α // l=[x.1,x.2.1,x.2.2]}
 | [x,y,z]=>some ⟨(x,y,z),rfl⟩
 | _=>none
noncomputable def trip {α:Type} (l:List α):Option (α × α × α):=val (tripV l)
theorem trip_ok {α:Type} {l:List α} {x:α × α × α} (h:trip l=some x):l=[x.1,x.2.1,x.2.2]:=(c8 (x:=(tripV l)) h :)
noncomputable def tyV:(v:Value)→Option {s:String // v = .type s}
 | .type s=>some ⟨s,rfl⟩
 | _=>none
noncomputable def isTy (v:Value) (s:String):Bool:=val (tyV v) == some s
theorem isTy_ok {v:Value} {s:String} (h:isTy v s=true):v = .type s:=(c8 (x:=(tyV v)) (beq_iff_eq.mp h) :)
noncomputable def blV:(v:Value)→Option {s:String // v = .builtin s}
 | .builtin s=>some ⟨s,rfl⟩
 | _=>none
noncomputable def isLen (v:Value):Bool:=val (blV v) == some "len"
theorem isLen_ok {v:Value} (h:isLen v=true):v = .builtin "len" := (c8 (x:=(blV v)) (beq_iff_eq.mp h) :)
theorem y5 {a b:Bool} (h:(a && b)=true):a=true:=(Bool.and_eq_true_iff.mp h).1
theorem v6 {a b:Bool} (h:(a && b)=true):b=true:=(Bool.and_eq_true_iff.mp h).2
theorem j3 {α:Type} [BEq α] [LawfulBEq α] {a b:α} (h:(a == b)=true):a=b:=beq_iff_eq.mp h
noncomputable def v7 (x:Str):Bool := !(x == ("__debug__" : Str)) && !(x == ("__classdict__" : Str))
noncomputable def i5 (c:CT) (e:Expr):Option Tgt :=
 ((nm e).bind fun x=>(c.slot x).map .one).or ((tupE e).bind fun es=>(pair es).bind fun q=>two ((nm q.1).bind c.slot) ((nm q.2).bind c.slot) .two)
theorem N9 {c:CT} {tg:Expr} {t:Tgt} (ht:i5 c tg=some t):(∃ x p i,tg = .Name x p∧c.slot x=some i∧t = .one i) ∨
  (∃ x p y q k r i j,tg = .Tuple [.Name x p,.Name y q] k r∧c.slot x=some i∧c.slot y=some j∧t = .two i j):=by
 rcases j6 ht with h | h
 ·refine z6 fun K0=>?_
  refine y4 h fun x hx h1=>?_
  refine v8 h1 fun i hi e=>?_
  refine Exists.elim (d9 hx :) fun p hp=>?_
  refine K0 ?_;clear K0;exact .inl ⟨x,p,i,hp,hi,e.symm⟩
 ·refine z6 fun K0=>?_
  refine y4 h fun es he h1=>?_
  refine y4 h1 fun a hq h2=>?_
  refine Y4 h2 fun i j hi hj e=>?_
  refine y4 hi fun x hx hi'=>?_
  refine y4 hj fun y hy hj'=>?_
  refine x21 (tupE_ok he :) fun k r e1=>?_
  refine Exists.elim (d9 hx :) fun p e2=>?_
  refine Exists.elim (d9 hy :) fun q e3=>?_
  refine K0 ?_;clear K0;exact .inr ⟨x,p,y,q,k,r,i,j,by rw [e1,V7 hq,e2,e3],hi',hj',e.symm⟩
noncomputable def b4 (k:IK):Tgt→Bool
 | .one _=>k == .plain || k == .range
 | .two _ _=>k == .zip || k == .enum
noncomputable def Tgt.slots:Tgt→List Nat
 | .one x=>[x]
 | .two x y=>[x,y]
noncomputable def apartT (a b:Tgt):Bool:=a.slots.all fun i => !b.slots.contains i
noncomputable def CT.inner (c:CT) (sc:Scope):CT :=
 { ns:=(sc.names.filter fun x=>P7 x.2).map (·.1),kind:=sc.names,gl:=c.gl }
noncomputable def CT.cap (c:CT) (sc:Scope):List (Option Nat) :=
 (sc.names.filter fun x=>P7 x.2).map fun x=>if x.2 == .free then c.slot x.1 else none
noncomputable def cConst:Const→Option PV
 | .none=>some .nul
 | .bool b=>some (.bool b)
 | .int i=>some (.int i)
 | .str s=>if s.cps.size≤1000∧(s.cps.toList.all fun c=>decide (c<1114112))=true then some (.str s.cps.toList) else none
 | _=>none
noncomputable def O3 (e:Expr):Bool:=(((cal e).bind fun x=>if x.2.1.isEmpty then nm x.1 else none)).isNone
noncomputable def scOk (c:CT) (sc:Scope):Bool:=sc.kind == .function && decide (sc.names.map (·.1)).Nodup &&
 sc.names.all fun x=>x.2 != .free || ((c.slot x.1).isSome && (c.kind.lookup x.1 == some .cell || c.kind.lookup x.1 == some .free))
noncomputable def S7 (sc:Scope) (x:Str):Bool:=sc.names.lookup x == some .local || sc.names.lookup x == some .cell
noncomputable def tgOk (sc:Scope) (e:Expr):Bool :=
 (((nm e).map (S7 sc)).or ((tupE e).bind fun es=>(pair es).bind fun q=>two (nm q.1) (nm q.2) fun x y=>S7 sc x && S7 sc y && x != y)).getD false
noncomputable def mapO {α β:Type} (f:α→Option β):List α→Option (List β)
 | []=>some []
 | x::xs=>two (f x) (mapO f xs) (· :: ·)
theorem R9 {α β:Type} {f:α→Option β} {x:α} {xs:List α} {l:List β} (h:mapO f (x::xs)=some l):∃ a b,f x=some a∧mapO f xs=some b∧l=a::b :=
 Y4 h fun a b h1 h2 h3=>⟨a,b,h1,h2,h3.symm⟩
noncomputable def bopL (conj:Bool):List PE→Option PE
 | []=>none
 | [x]=>some x
 | x::y::ys=>(bopL conj (y::ys)).map (.bop conj x)
noncomputable abbrev Sub:=CT→Expr→Option PE
noncomputable def unE (op:UnaryOp) (x:Expr) (v:Option PE):Option PE:=match op with
 | .USub=>(intE x).map .neg
 | .Not=>v.map .nt
 | _=>none
noncomputable def sliceE (e:Expr):Option (Option Expr × Option Expr):=val (vw e).slc
theorem sliceE_ok {e:Expr} {x:Option Expr × Option Expr} (h:sliceE e=some x):∃ p,e = .Slice x.1 x.2 none p:=(c8 (x:=(vw e).slc) h :)
noncomputable def optE (f:Expr→Option PE):Option Expr→Option PE
 | none=>some (.lit .nul)
 | some e=>f e
noncomputable def nameE (c:CT) (id:Str):Option PE:=if v7 id then ((c.slot id).map PE.var).or ((c.glob id).map .gl) else none
noncomputable def globE (c:CT) (f:Expr):Option Value:=(nm f).bind fun x=>if v7 x then c.glob x else none
theorem globE_ok {c:CT} {f:Expr} {v:Value} (h:globE c f=some v):∃ x p,f = .Name x p∧v7 x=true∧c.glob x=some v:=by
 refine z6 fun K0=>?_
 refine y4 h fun x hx h=>?_
 refine K0 ?_;clear K0;refine Exists.elim (d9 hx :) fun p o0=>?_;obtain rfl:=o0
 exact ⟨x,p,rfl,d0 h⟩
noncomputable def okChars (s:Str):Bool:=s.cps.toList.all fun c=>decide (c<1114112)
noncomputable def replE (m:Str) (args:List Expr):Option (Str × Str):=if m == ("replace" : Str) then (pair args).bind fun q=>(strE q.1).bind fun a=>(strE q.2).bind fun b=>if (decide (a.cps.size=1) && okChars b && okChars a)=true then some (a,b) else none else none
noncomputable def callX (f:Sub) (c:CT) (fn:Expr) (args:List Expr) (p:Pos):Option PE :=
 ((globE c fn).bind fun v=>if isLen v then (one args).bind fun a=>(f c a).map .len else (mapO (f c) args).map (.call v)).or
 ((att fn).bind fun q=>if (O3 q.1 && (q.2.2.endLine == p.line))=true then
  ((replE q.2.1 args).bind fun r=>(f c q.1).map fun x=>PE.repl x (r.1.cps.getD 0 0) r.2.cps.toList).or
  (if (replE q.2.1 args).isNone && decide (args.length<20) then two (f c q.1) (mapO (f c) args) (PE.meth q.2.1) else none) else none)
noncomputable def iterE (f:Sub) (c:CT) (e:Expr):Option (IK × PE × PE) :=
 ((cal e).bind fun q=>(globE c q.1).bind fun v =>
  ((one q.2.1).bind fun a=>(f c a).bind fun x=>if isTy v "range" then some (.range,x,.lit .nul) else if isTy v "enumerate" then some (.enum,x,.lit .nul) else none).or
  ((pair q.2.1).bind fun a=>if isTy v "zip" then two (f c a.1) (f c a.2) fun x y=>(.zip,x,y) else none)).or
 ((f c e).map fun p=>(.plain,p,.lit .nul))
noncomputable def genE (a:Int):Bool:=a == 0
noncomputable def compE (f:Sub) (c:CT) (elt:Expr) (gens:List Comprehension) (sc:Scope):Option PE :=
 ((one gens).bind fun g=>(iterE f c g.iter).bind fun k=>(i5 (c.inner sc) g.target).bind fun tg=>(mapO (f (c.inner sc)) g.ifs).bind fun ifs=>(f (c.inner sc) elt).bind fun e =>
  if (b4 k.1 tg && scOk c sc && tgOk sc g.target && genE g.is_async)=true then some (PE.comp e tg k.1 k.2.1 k.2.2 ifs (c.cap sc)) else none).or
 ((pair gens).bind fun g=>(iterE f c g.1.iter).bind fun k=>(i5 (c.inner sc) g.1.target).bind fun tg=>(i5 (c.inner sc) g.2.target).bind fun tg2=>(f (c.inner sc) g.2.iter).bind fun a2=>(f (c.inner sc) elt).bind fun e =>
  if (b4 k.1 tg && b4 .plain tg2 && apartT tg tg2 && scOk c sc && tgOk sc g.1.target && tgOk sc g.2.target && (g.1.ifs.isEmpty && g.2.ifs.isEmpty && genE g.1.is_async && genE g.2.is_async))=true then
   some (PE.comp2 e tg k.1 k.2.1 k.2.2 tg2 a2 (c.cap sc)) else none)
noncomputable def partE (f:Sub) (c:CT):Expr→Option PE
 | .FormattedValue e k sp _=>if (k == -1 && sp.isNone)=true then f c e else none
 | .Constant k _ _=>(strC k).bind fun s=>(cConst (.str s)).map .lit
 | _=>none
noncomputable def stepE (f:Sub) (c:CT):Expr→Option PE
 | .Constant k _ _=>(cConst k).map .lit
 | .Name id _=>nameE c id
 | .BinOp l op r _=>two (f c l) (f c r) (.bin op)
 | .UnaryOp op x _=>unE op x (f c x)
 | .BoolOp op vs _=>(mapO (f c) vs).bind (bopL (op == .And))
 | .Compare l ops rs _=>(one ops).bind fun op=>(one rs).bind fun r=>if behindInMarks op r then none else two (f c l) (f c r) (.cmp op)
 | .IfExp t b o _=>(f c t).bind fun x=>two (f c b) (f c o) (.ife x)
 | .Subscript v i _=>(f c v).bind fun x=>((sliceE i).bind fun q=>two (optE (f c) q.1) (optE (f c) q.2) (PE.slc x)).or ((f c i).map (.idx x))
 | .Call fn args ks p=>if ks.isEmpty then callX f c fn args p else none
 | .List es _=>if es.length≤64 then (mapO (f c) es).map .lst else none
 | .Tuple es _ _=>if es.length≤64 then (mapO (f c) es).map .tpl else none
 | .ListComp elt gens sc _=>compE f c elt gens sc
 | .JoinedStr vs _=>if 2≤vs.length then (mapO (partE f c) vs).map .fstr else none
 | _=>none
noncomputable def cEn:Nat→Sub
 | 0=>fun _ _=>none
 | n + 1=>stepE (cEn n)
noncomputable def j7:Expr→Bool
 | .Constant .. => true
 | .Name .. => true
 | .BinOp .. => true
 | .UnaryOp .. => true
 | .BoolOp .. => true
 | .Compare .. => true
 | .IfExp .. => true
 | .Subscript .. => true
 | .Call .. => true
 | .List .. => true
 | .Tuple .. => true
 | .ListComp .. => true
 | .JoinedStr .. => true
 | _=>false
theorem served_of {f:Sub} {c:CT} {e:Expr} {p:PE} (h:stepE f c e=some p):j7 e=true:=by
 cases e <;> first | rfl | exact w9 h
theorem served_cEn:∀ {n:Nat} {c:CT} {e:Expr} {p:PE},cEn n c e=some p→j7 e=true
 | 0,_,_,_,h=>w9 h
 | _ + 1,_,_,_,h=>served_of h
noncomputable def grown:Stmt→List Str
 | .Assign _ v _=>(((att v).bind fun q=>if q.2.1 == ("append" : Str) then nm q.1 else none).toList)
 | .Expr v _=>(((cal v).bind fun x=>(att x.1).bind fun q=>if q.2.1 == ("append" : Str) || q.2.1 == ("extend" : Str) then nm q.1 else none).toList)
 | _=>[]
noncomputable def growns:Nat→List Stmt→List Str
 | 0,_=>[]
 | n + 1,l=>l.flatMap fun s=>match s with
  | .For _ _ b _ _=>growns n b
  | .While _ b _ _=>growns n b
  | .If _ a b _=>growns n a ++ growns n b
  | s=>grown s
inductive LamX (la:Arguments) (lb:Expr) (ls:Scope):Prop
 | mk (m:Str) (pm:Pos) (k1:_) (p1:Pos) (p2:Pos) (ap:Pos) (k2:_) (p3:Pos) (p:Pos) (k3:_) (p4:Pos) (p5:Pos) (p6:Pos) (h1:la=⟨[],[⟨m,none,pm⟩],none,[],[],none,[]⟩) (h2:lb = .BinOp (.Constant (.str "\\") k1 p1) .Add (.BoolOp .Or [.Call (.Attribute (.Name m p2) ("group" : Str) ap) [.Constant (.int 1) k2 p3] [] p, .Constant (.str "") k3 p4] p5) p6) (h3:(ap.endLine == p.line)=true) (h4:v7 m=true) (h5:ls.kind = .function) (h6:ls.isCoroutine=false) (h7:ls.isGenerator=false) (h8:ls.names=[(m,NameKind.local)])
structure N7 (la:Arguments) (lb:Expr) (ls:Scope):Prop where
 ex:LamX la lb ls
noncomputable def addE (e:Expr):Option (Expr × Expr):=val (vw e).add
theorem addE_ok {e:Expr} {x:Expr × Expr} (h:addE e=some x):∃ p,e = .BinOp x.1 .Add x.2 p:=(c8 (x:=(vw e).add) h :)
noncomputable def orE (e:Expr):Option (List Expr):=val (vw e).orr
theorem orE_ok {e:Expr} {x:List Expr} (h:orE e=some x):∃ p,e = .BoolOp .Or x p:=(c8 (x:=(vw e).orr) h :)
noncomputable def lamArg (la:Arguments):Option Str:=if la.posonlyargs.isEmpty && la.vararg.isNone && la.kwonlyargs.isEmpty && la.kw_defaults.isEmpty && la.kwarg.isNone && la.defaults.isEmpty then (one la.args).bind fun a=>if a.annotation.isNone then some a.arg else none else none
theorem lamArg_ok {la:Arguments} {m:Str} (h:lamArg la=some m):∃ pm,la=⟨[],[⟨m,none,pm⟩],none,[],[],none,[]⟩:=by
 refine z6 fun K0=>?_
 obtain ⟨p,as,v,k,kd,kw,d⟩:=la;refine v9 h fun h1 h2=>?_
 refine y4 h2 fun o0 hx h3=>?_;obtain ⟨x,an,pm⟩:=o0
 refine v9 h3 fun h4 h5=>?_
 simp only [Bool.and_eq_true,List.isEmpty_iff,Option.isNone_iff_eq_none] at h1 h4;refine w7 h1 fun o0 e6=>?_;obtain ⟨⟨⟨⟨e1,e2⟩,e3⟩,e4⟩,e5⟩:=o0
 refine K0 ?_;clear K0;have e7:as=_:=X3 hx;have e8:x=m:=Option.some.inj h5;exact ⟨pm,by rw [e1,e2,e3,e4,e5,e6,e7,h4,e8]⟩
noncomputable def methE (e:Expr):Option (Expr × Str × List Expr):=(cal e).bind fun x=>(att x.1).bind fun q=>if (q.2.2.endLine == x.2.2.line)=true then some (q.1,q.2.1,x.2.1) else none
theorem O2 {e:Expr} {x:Expr × Str × List Expr} (h:methE e=some x):∃ ap p,e = .Call (.Attribute x.1 x.2.1 ap) x.2.2 [] p∧(ap.endLine == p.line)=true:=by
 refine z6 fun K0=>?_
 refine y4 h fun a ha h=>?_
 refine y4 h fun q hq h=>?_
 refine v9 h fun h1 h2=>?_
 refine K0 ?_;clear K0;obtain rfl:=Option.some.inj h2;obtain rfl:=cal_ok ha;rw [att_ok hq];exact ⟨_,_,rfl,h1⟩
noncomputable def groupE (e:Expr):Option Str:=(methE e).bind fun k=>(one k.2.2).bind fun g=>if (k.2.1 == ("group" : Str) && intIs g 1)=true then nm k.1 else none
theorem groupE_ok {e:Expr} {m:Str} (h:groupE e=some m):∃ p2 ap k2 p3 p,e = .Call (.Attribute (.Name m p2) ("group" : Str) ap) [.Constant (.int 1) k2 p3] [] p∧(ap.endLine == p.line)=true:=by
 refine z6 fun K0=>?_
 refine y4 h fun k hk h1=>?_
 refine y4 h1 fun g hg h2=>?_
 refine v9 h2 fun h3 h4=>?_
 refine x22 (O2 hk :) fun ap p e4 hl=>?_
 refine Exists.elim (d9 h4 :) fun p2 e5=>?_
 refine x21 (intIs_ok (v6 h3) :) fun k2 p3 e6=>?_
 refine K0 ?_;clear K0;exact ⟨p2,ap,k2,p3,p,by rw [e4,e5,X3 hg,e6,j3 (y5 h3)],hl⟩
noncomputable def lamBody (lb:Expr):Option Str:=(addE lb).bind fun q=>(orE q.2).bind fun vs=>(pair vs).bind fun v=>if (strIs q.1 "\\" && strIs v.2 "")=true then groupE v.1 else none
theorem lamBody_ok {lb:Expr} {m:Str} (h:lamBody lb=some m):∃ k1 p1 p2 ap k2 p3 p k3 p4 p5 p6,
  lb = .BinOp (.Constant (.str "\\") k1 p1) .Add (.BoolOp .Or [.Call (.Attribute (.Name m p2) ("group" : Str) ap) [.Constant (.int 1) k2 p3] [] p, .Constant (.str "") k3 p4] p5) p6∧(ap.endLine == p.line)=true:=by
 refine z6 fun K0=>?_
 refine y4 h fun q hq h1=>?_
 refine y4 h1 fun vs hvs h2=>?_
 refine y4 h2 fun v hv h3=>?_
 refine v9 h3 fun h4 h5=>?_
 refine Exists.elim (addE_ok hq :) fun p6 e1=>?_
 refine x21 (J3 (y5 h4) :) fun k1 p1 e2=>?_
 refine Exists.elim (orE_ok hvs :) fun p5 e3=>?_
 refine x21 (J3 (v6 h4) :) fun k3 p4 e4=>?_
 refine x52 (groupE_ok h5 :) fun p2 ap k2 p3 p e5 hl=>?_
 refine K0 ?_;clear K0;exact ⟨k1,p1,p2,ap,k2,p3,p,k3,p4,p5,p6,by rw [e1,e2,e3,V7 hv,e4,e5],hl⟩
noncomputable def okLam (la:Arguments) (lb:Expr) (ls:Scope):Bool:=(two (lamArg la) (lamBody lb) fun m m2=>m2 == m && v7 m && ls.kind == .function && ls.isCoroutine == false && ls.isGenerator == false && ls.names == [(m,NameKind.local)]).getD false
theorem getD_true {x:Option Bool} (h:x.getD false=true):x=some true:=by
 induction x with
 | none=>cases h
 | some b=>exact congrArg some h
theorem lam_of {la:Arguments} {lb:Expr} {ls:Scope} (h:okLam la lb ls=true):N7 la lb ls:=by
 refine z6 fun K0=>?_
 refine Y4 (getD_true h) fun m m2 hm hm2 h1=>?_
 refine Exists.elim (lamArg_ok hm :) fun pm e1=>?_
 obtain ⟨k1,p1,p2,ap,k2,p3,p,k3,p4,p5,p6,e2,hl⟩:=lamBody_ok hm2;refine K0 ?_;clear K0;have e3:=j3 (y5 (y5 (y5 (y5 (y5 h1)))));exact ⟨m,pm,k1,p1,p2,ap,k2,p3,p,k3,p4,p5,p6,e1,by rw [e2,e3],hl,v6 (y5 (y5 (y5 (y5 h1)))),j3 (v6 (y5 (y5 (y5 h1)))),j3 (v6 (y5 (y5 h1))),j3 (v6 (y5 h1)),j3 (v6 h1)⟩
inductive GenX (elt tgt:Expr) (sc:Scope):Prop
 | mk (v:Str) (pv:Pos) (a1:Pos) (a2:Pos) (p0:Pos) (p1:Pos) (p2:Pos) (q1:Pos) (q2:Pos) (q3:Pos) (q4:Pos) (k1:_) (k2:_) (k3:_) (k4:_) (h1:tgt = .Name v pv) (h2:elt = .Call (.Attribute (.Call (.Attribute (.Name v p0) ("replace" : Str) a1) [.Constant (.str "\\") k1 q1, .Constant (.str "\\\\") k2 q2] [] p1) ("replace" : Str) a2) [.Constant (.str "-") k3 q3, .Constant (.str "\\-") k4 q4] [] p2) (h3 : (a1.endLine == p1.line) = true) (h4 : (a2.endLine == p2.line) = true) (h5 : v7 v = true) (h6 : sc.kind = .function) (h7 : sc.isCoroutine = false) (h8 : sc.names = [((".0" : Str), NameKind.local), (v, NameKind.local)]) (h9 : v ≠ (".0" : Str))
structure GenShape (elt tgt:Expr) (sc:Scope):Prop where
 ex:GenX elt tgt sc
noncomputable def replM (x y:Str) (e:Expr):Option Expr:=(methE e).bind fun k=>(pair k.2.2).bind fun v=>if (k.2.1 == ("replace" : Str) && strIs v.1 x && strIs v.2 y)=true then some k.1 else none
theorem replM_ok {x y:Str} {e o:Expr} (h:replM x y e=some o):∃ ap p k1 q1 k2 q2,e = .Call (.Attribute o ("replace" : Str) ap) [.Constant (.str x) k1 q1,.Constant (.str y) k2 q2] [] p∧(ap.endLine == p.line)=true:=by
 refine z6 fun K0=>?_
 refine y4 h fun k hk h1=>?_
 refine y4 h1 fun v hv h2=>?_
 refine v9 h2 fun h3 h4=>?_
 refine x22 (O2 hk :) fun ap p e4 hl=>?_
 refine x21 (J3 (v6 (y5 h3)) :) fun k1 q1 e1=>?_
 refine x21 (J3 (v6 h3) :) fun k2 q2 e2=>?_
 refine K0 ?_;clear K0;exact ⟨ap,p,k1,q1,k2,q2,by rw [e4,V7 hv,e1,e2,j3 (y5 (y5 h3)),Option.some.inj h4],hl⟩
noncomputable def okGen (elt tgt:Expr) (sc:Scope):Bool :=
 (two (((replM "-" "\\-" elt).bind (replM "\\" "\\\\")).bind nm) (nm tgt) fun v v2 => v == v2 && v7 v && sc.kind == .function && sc.isCoroutine == false && sc.names == [((".0" : Str), NameKind.local), (v, NameKind.local)] && v != (".0" : Str)).getD false
theorem shape_of {elt tgt:Expr} {sc:Scope} (h:okGen elt tgt sc=true):GenShape elt tgt sc:=by
 refine z6 fun K0=>?_
 refine Y4 (getD_true h) fun v v2 h0 hv2 h1=>?_
 refine y4 h0 fun o1 h2 hv=>?_
 refine y4 h2 fun o2 hr2 hr1=>?_
 refine x62 (replM_ok hr2 :) fun a2 p2 k3 q3 k4 q4 e2 l2=>?_
 refine x62 (replM_ok hr1 :) fun a1 p1 k1 q1 k2 q2 e1 l1=>?_
 refine Exists.elim (d9 hv :) fun p0 e0=>?_
 refine Exists.elim (d9 hv2 :) fun pv e3=>?_
 refine K0 ?_;clear K0;have e4:=j3 (y5 (y5 (y5 (y5 (y5 h1)))));exact ⟨v,pv,a1,a2,p0,p1,p2,q1,q2,q3,q4,k1,k2,k3,k4,by rw [e3,e4],by rw [e2,e1,e0],l1,l2,v6 (y5 (y5 (y5 (y5 h1)))),j3 (v6 (y5 (y5 (y5 h1)))),j3 (v6 (y5 (y5 h1))),j3 (v6 (y5 h1)),bne_iff_ne.mp (v6 h1)⟩
noncomputable def lamE (e:Expr):Option (Arguments × Expr × Scope):=val (vw e).lam
theorem lamE_ok {e:Expr} {x:Arguments × Expr × Scope} (h:lamE e=some x):∃ p,e = .Lambda x.1 x.2.1 x.2.2 p:=(c8 (x:=(vw e).lam) h :)
noncomputable def gexE (e:Expr):Option (Expr × List Comprehension × Scope):=val (vw e).gex
theorem gexE_ok {e:Expr} {x:Expr × List Comprehension × Scope} (h:gexE e=some x):∃ p,e = .GeneratorExp x.1 x.2.1 x.2.2 p:=(c8 (x:=(vw e).gex) h :)
noncomputable def nilE (e:Expr):Bool:=(vw e).nil.isSome
theorem nilE_ok {e:Expr} (h:nilE e=true):∃ p,e = .List [] p:=let ⟨⟨x⟩,_⟩:=Option.isSome_iff_exists.mp h;x
noncomputable def usubE (e:Expr):Option Expr:=val (vw e).neg
theorem usubE_ok {e x:Expr} (h:usubE e=some x):∃ p,e = .UnaryOp .USub x p:=(c8 (x:=(vw e).neg) h :)
noncomputable abbrev SubS:=CT→List Stmt→List PS
noncomputable def ownF (c:CT) (x:Str) (i:Nat) (v:Expr):Option PS:=if nilE v && c.own.contains x then some (.own i) else none
noncomputable def appF (c:CT) (i:Nat) (v:Expr):Option PS:=(att v).bind fun q=>(nm q.1).bind fun y=>if (q.2.1 == ("append" : Str) && v7 y)=true then (c.slot y).map (.app i) else none
noncomputable def subF (c:CT) (i:Nat) (v:Expr):Option PS:=(methE v).bind fun k=>(nm k.1).bind fun y=>(pair k.2.2).bind fun q=>(lamE q.1).bind fun l=>(nm q.2).bind fun z =>
 if (k.2.1 == ("sub" : Str) && c.glob y == some (.ref 43) && c.slot z == some i && c.inT && v7 y && v7 z && okLam l.1 l.2.1 l.2.2)=true then some (.resub i) else none
noncomputable def joinF (c:CT) (i:Nat) (v:Expr):Option PS:=(methE v).bind fun k=>(strE k.1).bind fun sp=>(one k.2.2).bind fun g=>(gexE g).bind fun l=>(one l.2.1).bind fun q=>(nm q.iter).bind fun z =>
 if (k.2.1 == ("join" : Str) && sp == ("-" : Str) && c.inT && v7 z && q.ifs.isEmpty && genE q.is_async && okGen l.1 q.target l.2.2)=true then (c.slot z).map (.djoin i) else none
noncomputable def asgF (f:Sub) (c:CT) (x:Str) (i:Nat) (v:Expr):Option PS :=
 (ownF c x i v).or ((appF c i v).or ((subF c i v).or ((joinF c i v).or ((f c v).map (.assign i)))))
noncomputable def asg1 (f:Sub) (c:CT) (t v:Expr):Option PS :=
 ((nm t).bind fun x=>(c.slot x).bind fun i=>asgF f c x i v).or
 ((tupE t).bind fun ts=>(pair ts).bind fun q=>(tupE v).bind fun vs=>(pair vs).bind fun r=>two ((nm q.1).bind c.slot) ((nm q.2).bind c.slot) (fun i j=>(i,j)) |>.bind fun s=>two (f c r.1) (f c r.2) (fun e g=>(e,g)) |>.bind fun u =>
  if vs.all (constantsAlone 8) then none else some (.tup2 s.1 s.2 u.1 u.2))
noncomputable def exprF (f:Sub) (c:CT) (v:Expr):Option PS :=
 ((methE v).bind fun k=>(nm k.1).bind fun x=>(c.slot x).bind fun i=>(one k.2.2).bind fun a=>(f c a).bind fun e=>if (k.2.1 == ("append" : Str) && v7 x)=true then some (.push i e) else none).or
 ((cal v).bind fun q=>(nm q.1).bind fun x=>(c.slot x).bind fun i=>(c.app.lookup x).bind fun m=>(c.slot m).bind fun j=>(one q.2.1).bind fun a=>(f c a).bind fun e=>if v7 x then some (.pushA i j e) else none)
noncomputable def downF (f:Sub) (c:CT) (t it:Expr):Option PS:=(nm t).bind fun x=>(c.slot x).bind fun i=>(cal it).bind fun q=>(globE c q.1).bind fun v=>(trip q.2.1).bind fun a=>(usubE a.2.2).bind fun k=>if (isTy v "range" && intIs k 1)=true then two (f c a.1) (f c a.2.1) (.down i) else none
noncomputable def forF (f:Sub) (g:SubS) (c:CT) (t it:Expr) (b:List Stmt):Option PS :=
 (downF f c t it).or ((i5 c t).bind fun tg =>
  ((nm it).bind fun y=>if c.own.contains y then (c.slot y).bind fun j=>if (v7 y && b4 .plain tg && !d5 (g c b) j)=true then some (.forOwn tg j (g c b)) else none else none).or
  (if ((nm it).map c.own.contains).getD false then none else (iterE f c it).bind fun k=>if b4 k.1 tg then some (PS.for tg k.1 k.2.1 k.2.2 (g c b)) else none))
noncomputable def stepS (f:Sub) (g:SubS) (c:CT):Stmt→Option PS
 | .Assign ts v _=>(one ts).bind fun t=>asg1 f c t v
 | .AugAssign t op v _=>(nm t).bind fun x=>if v7 x then two (c.slot x) (f c v) fun i e => .aug i op e else none
 | .Expr v _=>exprF f c v
 | .If t a b _=>(f c t).map fun e => .ite e (g c a) (g c b)
 | .While t b o _=>if o.isEmpty then (f c t).map fun e => .whl e (g c b) else none
 | .For t it b o _=>if o.isEmpty then forF f g c t it b else none
 | .Return v _=>(optE (f c) v).map .ret
 | .Break _=>some .brk
 | .Assert t m _=>if m.isNone then (f c t).map .asrt else none
 | _=>none
noncomputable def eDeep:Nat:=24
noncomputable def cSn:Nat→SubS
 | 0=>fun _ l=>l.map fun _ => .bad 24
 | n + 1=>fun c l=>l.map fun s=>(stepS (cEn eDeep) (cSn n) c s).getD (.bad 24)
noncomputable def cSs (c:CT) (l:List Stmt):List PS:=cSn 12 c l
noncomputable def appOf:Stmt→List (Str × Str)
 | .Assign ts v _=>(((one ts).bind fun t=>(nm t).bind fun x=>(att v).bind fun q=>(nm q.1).map fun y=>(x,y)).toList)
 | _=>[]
noncomputable def V9 (params:Arguments) (sc:Scope):List Str :=
 let ps:=params.args.map (·.arg)
 ps ++ (sc.names.filter fun x=>P7 x.2 && !ps.contains x.1).map (·.1)
noncomputable def fnCT (gl:List (Str × Value)) (params:Arguments) (body:List Stmt) (sc:Scope):CT :=
 { ns:=V9 params sc,kind:=sc.names,gl,own:=growns 12 body,app:=body.flatMap appOf }
end Mine
namespace Mine
open PySem PyProof.Rows
noncomputable def x9:Addr:=64
noncomputable def e9:Addr:=68
noncomputable def Soft (h h':Heap):Prop:=∀ b o,b≠x9→h.get? b=some o→h'.get? b=some o∨((∃ es ep,o.data = .dict es ep)∧∃ sl,h'.get? b=some { o with slots:=sl })
noncomputable def Hard (hb h:Heap):Prop:=∀ b o,b≠x9→hb.get? b=some o→h.get? b=some o
theorem Soft.refl (h:Heap):Soft h h:=fun _ _ _ e => .inl e
theorem Soft.trans {h₁ h₂ h₃:Heap} (x:Soft h₁ h₂) (y:Soft h₂ h₃):Soft h₁ h₃:=fun b o hb e=>by
 rcases x b o hb e with e' | ⟨hc,sl,e'⟩
 ·exact y b o hb e'
 ·rcases y b _ hb e' with e'' | ⟨_,sl',e''⟩
  ·exact .inr ⟨hc,sl,e''⟩
  ·exact .inr ⟨hc,sl',e''⟩
theorem Soft.of_keeps {h h':Heap} (k:∀ b o,h.get? b=some o→h'.get? b=some o):Soft h h':=fun b o _ e => .inl (k b o e)
theorem Soft.get {h h':Heap} (x:Soft h h') {b:Addr} {o:Obj} (hb:b≠x9) (hc:∀ es ep,o.data ≠ .dict es ep) (e:h.get? b=some o):h'.get? b=some o :=
 (x b o hb e).resolve_right fun ⟨⟨es,ep,q⟩,_⟩=>hc es ep q
theorem Soft.data {h h':Heap} (x:Soft h h') {b:Addr} {o:Obj} (hb:b≠x9) (e:h.get? b=some o):∃ o',h'.get? b=some o'∧o'.data=o.data∧o'.cls=o.cls∧o'.dict=o.dict:=by
 rcases x b o hb e with e' | ⟨_,sl,e'⟩
 ·exact ⟨o,e',rfl,rfl,rfl⟩
 ·exact ⟨_,e',rfl,rfl,rfl⟩
theorem Soft.ns {h h':Heap} {a:Addr} {m} (x:Soft h h') (ha:a≠x9) (n:h.Ns a m):h'.Ns a m :=
 let ⟨_,es,ep,ho,hd,r⟩:=n
 let ⟨o',ho',hd',_⟩:=x.data ha ho
 ⟨o',es,ep,ho',hd'.trans hd,r⟩
theorem Soft.cell {h h':Heap} {a:Addr} {v} (x:Soft h h') (ha:a≠x9) (n:h.IsCell a v):h'.IsCell a v :=
 let ⟨_,ho,hd⟩:=n
 let ⟨o',ho',hd',_⟩:=x.data ha ho
 ⟨o',ho',hd'.trans hd⟩
theorem Hard.soft {hb h h':Heap} (x:Hard hb h) (k:∀ b o,h.get? b=some o→h'.get? b=some o):Hard hb h':=fun b o n e=>k b o (x b o n e)
noncomputable def TabOk (h:Heap):Prop:=∃ ps,h.TableAt e9 x9 ps∧h.IsCode e9 x9 ps∧∀ pos c,codeAmong pos ps.toList=some c→∃ a q,c = .ref a∧h.CodeRec c q∧∃ o,h.get? a=some o∧o.cls = .type "code"
theorem TabOk.get {h:Heap} (x:TabOk h):∃ o,h.get? x9=some o:=let ⟨_,t,_⟩:=x;⟨_,t.2⟩
theorem TabOk.lt {h:Heap} (x:TabOk h):x9<h.objs.size:=let ⟨_,e⟩:=x.get;Heap.lt_size e
structure HB where
 h:Heap
 fm:List Addr
 own:Addr
noncomputable def NFat (h:Heap) (a:Addr):Prop:=a≠x9∧∃ o,h.get? a=some o∧∃ es ep,o.data = .dict es ep
theorem NFat.soft {h h':Heap} {a:Addr} (x:NFat h a) (k:Soft h h'):NFat h' a :=
 let ⟨ha,_,e,n⟩:=x
 let ⟨o',e',hd,_⟩:=k.data ha e
 ⟨ha,o',e',hd▸n⟩
theorem NFat.ns {h:Heap} {a:Addr} {m:Str→Option Value} (ha:a≠x9) (x:h.Ns a m):NFat h a :=
 let ⟨o,es,ep,ho,hd,_⟩:=x
 ⟨ha,o,ho,es,ep,hd⟩
structure GS (hb:HB) (s:Shared):Prop where
 hard:Hard hb.h s.heap
 tab:TabOk s.heap
 gens:AllBare s.gens
 fd:∀ a∈hb.fm,NFat s.heap a
theorem GS.fdS {hb:HB} {s s':Shared} (g:GS hb s) (k:Soft s.heap s'.heap):∀ a∈hb.fm,NFat s'.heap a:=fun a ha=>(g.fd a ha).soft k
structure Kp (hb:HB) (s s':Shared):Prop where
 soft:Soft s.heap s'.heap
 os:s'.os=s.os
 gs:GS hb s→GS hb s'
theorem Kp.refl (hb:HB) (s:Shared):Kp hb s s:=⟨.refl _,rfl,id⟩
theorem Kp.trans {hb:HB} {s₁ s₂ s₃:Shared} (x:Kp hb s₁ s₂) (y:Kp hb s₂ s₃):Kp hb s₁ s₃:=⟨x.soft.trans y.soft,y.os.trans x.os,fun g=>y.gs (x.gs g)⟩
theorem TabOk.keeps {h h':Heap} (x:TabOk h) (k:∀ b o,h.get? b=some o→h'.get? b=some o):TabOk h' :=
 let ⟨ps,t,i,e⟩:=x
 ⟨ps,t.keeps k,i.keeps k,fun pos c hc=>let ⟨a,q,h1,h2,o,h3,h4⟩:=e pos c hc;⟨a,q,h1,h2.keeps k,o,k _ _ h3,h4⟩⟩
theorem TabOk.same {h h':Heap} {a:Addr} {o:Obj} (x:TabOk h) (hs:Heap.SameBut a h h') (ho:h.get? a=some o) (h1:o.cls ≠ .none) (h2:o.cls ≠ .type "code"):TabOk h':=by
 refine z6 fun K0=>?_
 refine x13 x fun ps t i e=>?_
 have k:∀ b o',b≠a→h.get? b=some o'→h'.get? b=some o':=fun b o' hb e=>(hs.2 b hb).trans e
 have hA:x9≠a:=fun q=>by
  have:=t.2;rw [q,ho] at this;cases this;exact h1 rfl
 refine w7 (id t :) fun o0 t2=>?_;refine x24 o0 fun oc vs g1 g2 g3 g4=>?_
 refine K0 ?_;clear K0;have hC:e9≠a:=fun q=>by
  rw [q,ho] at g1;cases g1;exact h2 g2
 have hk:∀ b o',b=x9∨b=e9→h.get? b=some o'→h'.get? b=some o':=fun b o' hb e=>k b o' (by rcases hb with rfl | rfl;exact hA;exact hC) e
 refine ⟨ps,⟨⟨oc,vs,hk _ _ (.inr rfl) g1,g2,g3,g4⟩,hk _ _ (.inl rfl) t2⟩,?_,fun pos c hc=>?_⟩
 ·refine z6 fun K0=>?_
  obtain ⟨o1,v1,f,tf,fl,tg,b,n,tt,op,a1,r1,r2,r3,r4,r5,r6,b1,r⟩:=i;refine K0 ?_;clear K0;exact ⟨o1,v1,f,tf,fl,tg,b,n,tt,op,hk _ _ (.inr rfl) a1,r1,r2,r3,r4,r5,r6,hk _ _ (.inl rfl) b1,r⟩
 ·refine z6 fun K0=>?_
  refine x23 (e pos c hc :) fun a' q o0 h5 o1=>?_;refine x12 o1 fun o' h6 h7=>?_;obtain rfl:=o0
  have hne:a'≠a:=fun q=>by rw [q,ho] at h6;cases h6;exact h2 h7
  refine x43 h5 fun c' oo vv tt e1 e2 e3=>?_
  cases e1
  refine K0 ?_;clear K0;exact ⟨a',q,rfl,⟨a',oo,vv,tt,rfl,k _ _ hne e2,e3⟩,o',k _ _ hne h6,h7⟩
section
variable {hb:HB} {s s₀:Shared}
theorem GS.keeps {h':Heap} {tk:Nat} (g:GS hb s) (k:∀ b o,s.heap.get? b=some o→h'.get? b=some o):GS hb { s with heap:=h',toks:=tk } :=
 ⟨g.hard.soft k,g.tab.keeps k,g.gens,g.fdS (.of_keeps k)⟩
theorem Kp.keeps {h':Heap} {tk:Nat} (k:∀ b o,s.heap.get? b=some o→h'.get? b=some o):Kp hb s { s with heap:=h',toks:=tk } :=
 ⟨.of_keeps k,rfl,fun g=>g.keeps k⟩
theorem Kp.push {o:Obj} {tk:Nat} : Kp hb s { s with heap:=s.heap.push o,toks:=tk } := .keeps fun _ _ e=>Heap.get?_push_of_some o e
theorem Kp.tok {tk:Nat} : Kp hb s { s with toks:=tk } := .keeps fun _ _ e=>e
theorem Kp.turn {h':Heap} {a:Addr} {o:Obj} {tk:Nat} (x:Kp hb s₀ s) (g₀:GS hb s₀) (hs:Heap.SameBut a s.heap h') (hn:s₀.heap.get? a=none) (ho:s.heap.get? a=some o) (h1:o.cls ≠ .none) (h2:o.cls ≠ .type "code") :
  Kp hb s₀ { s with heap:=h',toks:=tk } := by
 have hA:a≠x9:=fun q=>by
  obtain ⟨o',ho'⟩:=g₀.tab.get;rw [← q,hn] at ho';cases ho'
 have k:∀ b o',b≠a→s.heap.get? b=some o'→h'.get? b=some o':=fun b o' hb e=>(hs.2 b hb).trans e
 have sf:Soft s₀.heap h':=fun b o' hb e=>by
  have hne:b≠a:=fun q=>by rw [q,hn] at e;cases e
  rcases x.soft b o' hb e with e' | ⟨hc,sl,e'⟩
  ·exact .inl (k _ _ hne e')
  ·exact .inr ⟨hc,sl,k _ _ hne e'⟩
 refine ⟨sf,x.os,fun g=>⟨fun b o' hb e=>?_,(x.gs g).tab.same hs ho h1 h2,(x.gs g).gens,g.fdS sf⟩⟩
 ·have e₀:=g₀.hard b o' hb e;have hne:b≠a:=fun q=>by rw [q,hn] at e₀;cases e₀
  exact k _ _ hne ((x.gs g).hard b o' hb e)
end
noncomputable def okS (l:List Nat):Prop:=l.length≤small∧∀ c∈l,c<1114112
noncomputable def Hardy (o:Obj):Prop:=(∀ es ep,o.data ≠ .dict es ep)∧(∀ v,o.data ≠ .cell v)∧o.cls ≠ .type "frame"
theorem Hardy.seq {o:Obj} {vs:Array Value} {n} (hd:o.data = .seq vs n) (hc:o.cls ≠ .type "frame"):Hardy o :=
 ⟨fun _ _ e=>(nomatch (hd.symm.trans e)),fun _ e=>(nomatch (hd.symm.trans e)),hc⟩
theorem Hardy.fields {o:Obj} {vs:Array Value} (hd:o.data = .fields vs) (hc:o.cls ≠ .type "frame"):Hardy o :=
 ⟨fun _ _ e=>(nomatch (hd.symm.trans e)),fun _ e=>(nomatch (hd.symm.trans e)),hc⟩
inductive SV (l:List Nat) (v:Value):Prop
 | mk (z:okS l) (t:Tok) (e:v = .str ⟨l.toArray⟩ t)
inductive OV (h:Heap) (O:Addr→Prop) (a:Addr) (v:Value):Prop
 | mk (e:v = .ref a) (t:a≠x9) (n:¬ O a) (o:Obj) (g:h.get? a=some o) (c:o.cls = .type "object") (d:Hardy o)
inductive LV (P:Addr→Array Value→Prop) (O:Addr→Prop) (n:Nat) (R:List Value→Prop) (v:Value):Prop
 | mk (z:n≤small) (a:Addr) (vs:List Value) (e:v = .ref a) (t:a≠x9) (k:¬ O a) (p:P a vs.toArray) (r:R vs)
inductive CV (P:Value→Prop) (R:List Value→Prop) (vs:List Value):Prop
 | mk (v:Value) (r:List Value) (e:vs=v::r) (p:P v) (q:R r)
mutual
noncomputable def VR (h:Heap) (O:Addr→Prop):PV→Value→Prop
 | .nul,v=>v = .none
 | .bool b,v=>v = .bool b
 | .int i,v=>∃ t,v = .int i t
 | .str l,v=>SV l v
 | .fn f,v=>v=f
 | .ob a,v=>OV h O a v
 | .list xs,v=>LV h.PlainList O xs.length (VRs h O xs) v
 | .tup xs,v=>LV (IsTup h) O xs.length (VRs h O xs) v
noncomputable def VRs (h:Heap) (O:Addr→Prop):List PV→List Value→Prop
 | [],vs=>vs=[]
 | x::xs,vs=>CV (VR h O x) (VRs h O xs) vs
end
theorem SV.ok {l:List Nat} {v:Value} (x:SV l v):okS l:=by obtain ⟨z,_,_⟩:=x;exact z
noncomputable def W3 (O:Addr→Prop) (b:Addr) (o:Obj):Prop:=b≠x9∧¬ O b∧(o.cls = .type "list" ∨ o.cls = .type "tuple" ∨ o.cls = .type "object")∧Hardy o
theorem l5 {o:Obj} {T:String} (hc:o.cls = .type T) (h:T ≠ "frame"):o.cls ≠ .type "frame" := fun e=>h (by rw [hc] at e;injection e)
mutual
theorem VR.mono {h h':Heap} {O O':Addr→Prop} (k:∀ b o,h.get? b=some o→W3 O b o→h'.get? b=some o) (hO:∀ b o,h.get? b=some o→¬ O b→¬ O' b):∀ {v:PV} {rv:Value},VR h O v rv→VR h' O' v rv
 | .nul,_,x=>x
 | .bool _,_,x=>x
 | .int _,_,x=>x
 | .str _,_,x=>x
 | .fn _,_,x=>x
 | .ob a,_,⟨e,ha,hO',o,ho,hc,hd⟩=>⟨e,ha,hO _ _ ho hO',o,k _ _ ho ⟨ha,hO',.inr (.inr hc),hd⟩,hc,hd⟩
 | .list xs,_,⟨hz,a,vs,e,ha,hO',⟨n,ho⟩,hx⟩=>⟨hz,a,vs,e,ha,hO _ _ ho hO',⟨n,k _ _ ho ⟨ha,hO',.inl rfl,.seq rfl (l5 rfl (by decide))⟩⟩,VRs.mono k hO hx⟩
 | .tup xs,_,⟨hz,a,vs,e,ha,hO',⟨o,ho,hc,n,hd⟩,hx⟩=>⟨hz,a,vs,e,ha,hO _ _ ho hO',⟨o,k _ _ ho ⟨ha,hO',.inr (.inl hc),.seq hd (l5 hc (by decide))⟩,hc,n,hd⟩,VRs.mono k hO hx⟩
theorem VRs.mono {h h':Heap} {O O':Addr→Prop} (k:∀ b o,h.get? b=some o→W3 O b o→h'.get? b=some o) (hO:∀ b o,h.get? b=some o→¬ O b→¬ O' b):∀ {v:List PV} {rv:List Value},VRs h O v rv→VRs h' O' v rv
 | [],_,x=>x
 | _::_,_,⟨v,r,e,h1,h2⟩=>⟨v,r,e,VR.mono k hO h1,VRs.mono k hO h2⟩
end
theorem C6 {h h':Heap} {O:Addr→Prop} (x:Soft h h'):∀ b o,h.get? b=some o→W3 O b o→h'.get? b=some o:=fun b o e l =>
 x.get l.1 l.2.2.2.1 e
theorem VR.soft {h h':Heap} {O:Addr→Prop} {v rv} (x:Soft h h') (r:VR h O v rv):VR h' O v rv:=r.mono (C6 x) fun _ _ _ q=>q
theorem VRs.soft {h h':Heap} {O:Addr→Prop} {v rv} (x:Soft h h') (r:VRs h O v rv):VRs h' O v rv:=r.mono (C6 x) fun _ _ _ q=>q
theorem VRs.length {h:Heap} {O:Addr→Prop} : ∀ {xs:List PV} {vs:List Value},VRs h O xs vs→vs.length=xs.length
 | [],vs,x=>by have e:vs=[]:=x;rw [e];rfl
 | _::_,_,⟨_,_,e,_,r⟩=>by rw [e,List.length_cons,List.length_cons,r.length]
theorem VRs.get {h:Heap} {O:Addr→Prop} : ∀ {xs:List PV} {vs:List Value},VRs h O xs vs→∀ {i:Nat} {x:PV},xs[i]?=some x→∃ v,vs[i]?=some v∧VR h O x v
 | [],_,_,_,_,q=>by simp at q
 | _::_,_,⟨v,_,e,h1,r⟩,0,_,q=>by subst e;simp at q;exact ⟨v,by simp,q▸h1⟩
 | _::_,_,⟨_,_,e,_,r⟩,i + 1,_,q=>by
  subst e;have ⟨v,h1,h2⟩:=VRs.get r (i:=i) (x:=_) (List.getElem?_cons_succ▸q);exact ⟨v,by simpa using h1,h2⟩
theorem VRs.of_get {h:Heap} {O:Addr→Prop} : ∀ {xs:List PV} {vs:List Value},vs.length=xs.length→(∀ (i:Nat) x v,xs[i]?=some x→vs[i]?=some v→VR h O x v)→VRs h O xs vs
 | [],[],_,_=>rfl
 | [],_::_,e,_=>by simp at e
 | _::_,[],e,_=>by simp at e
 | x::xs,v::vs,e,k=>⟨v,vs,rfl,k 0 x v rfl rfl,VRs.of_get (by simpa using e) fun i a b p q=>k (i + 1) a b (by simpa using p) (by simpa using q)⟩
theorem VRs.append {h:Heap} {O:Addr→Prop} : ∀ {xs ys:List PV} {vs ws:List Value},VRs h O xs vs→VRs h O ys ws→VRs h O (xs ++ ys) (vs ++ ws)
 | [],_,_,_,e,r=>by rw [show _=[] from e];exact r
 | _::_,_,_,_,⟨v,r,e,h1,h2⟩,r'=>by rw [e];exact ⟨v,r ++ _,rfl,h1,h2.append r'⟩
theorem VRs.take {h:Heap} {O:Addr→Prop} {xs:List PV} {vs:List Value} (r:VRs h O xs vs) (n:Nat):VRs h O (xs.take n) (vs.take n) :=
 .of_get (by rw [List.length_take,List.length_take,r.length]) fun i x v p q=>by
  rw [List.getElem?_take] at p q
  split at p
  ·rename_i hi;rw [if_pos hi] at q;have ⟨v',h1,h2⟩:=r.get p;rw [h1] at q;cases q;exact h2
  ·exact w9 p
theorem VRs.drop {h:Heap} {O:Addr→Prop} {xs:List PV} {vs:List Value} (r:VRs h O xs vs) (n:Nat):VRs h O (xs.drop n) (vs.drop n) :=
 .of_get (by rw [List.length_drop,List.length_drop,r.length]) fun i x v p q=>by
  rw [List.getElem?_drop] at p q;have ⟨v',h1,h2⟩:=r.get p;rw [h1] at q;cases q;exact h2
theorem a8:small≤sizeLine:=by decide
noncomputable def OkO (O:Addr→Prop) (h:Heap):Prop:=∀ a,O a→a≠x9∧∃ o,h.get? a=some o
structure XC (hb:HB) (O:Addr→Prop) (s:Shared):Prop where
 gs:GS hb s
 ok:OkO O s.heap
 own:NFat s.heap hb.own
theorem XC.kp {hb:HB} {O:Addr→Prop} {s s':Shared} (x:XC hb O s) (k:Kp hb s s'):XC hb O s' :=
 ⟨k.gs x.gs,fun a ha=>let ⟨h1,_,h2⟩:=x.ok a ha;⟨h1,let ⟨o',e,_⟩:=k.soft.data h1 h2;⟨o',e⟩⟩,x.own.soft k.soft⟩
theorem OkO.kp {hb:HB} {O:Addr→Prop} {s s':Shared} (x:OkO O s.heap) (k:Kp hb s s'):OkO O s'.heap :=
 fun a ha=>let ⟨h1,_,h2⟩:=x a ha;⟨h1,let ⟨o',e,_⟩:=k.soft.data h1 h2;⟨o',e⟩⟩
theorem XC.fresh {hb:HB} {O:Addr→Prop} {s:Shared} (x:XC hb O s):¬ O s.heap.objs.size:=fun q=>by
 refine w7 (x.ok _ q :) fun _ o0=>?_;refine Exists.elim o0 fun o e=>?_
 exact Nat.lt_irrefl _ (Heap.lt_size e)
theorem XC.off {hb:HB} {O:Addr→Prop} {s:Shared} (x:XC hb O s):s.heap.objs.size≠x9:=fun q=>by
 have:=x.gs.tab.lt;rw [q] at this;exact Nat.lt_irrefl _ this
section
variable {M:Model} {A:Around} {E:Value→Shared→Prop} {s:Shared} {hb:HB} {O:Addr→Prop}
theorem VRs.kp {s s':Shared} {xs vs} (k:Kp hb s s') (r:VRs s.heap O xs vs):VRs s'.heap O xs vs:=r.soft k.soft
theorem VR.kp {s s':Shared} {x v} (k:Kp hb s s') (r:VR s.heap O x v):VR s'.heap O x v:=r.soft k.soft
theorem L4 {tk:Nat} {xs:List PV} {vs:List Value} (xc:XC hb O s) (r:VRs s.heap O xs vs) (hz:xs.length≤small) {n:Nat} :
  VR (Shared.mk (s.heap.push { cls := .type "list",data := .seq vs.toArray n }) s.gens s.drawn tk s.os).heap O (.list xs) (.ref s.heap.objs.size) :=
 ⟨hz,_,vs,rfl,xc.off,xc.fresh,⟨_,Heap.get?_push_size _ rfl⟩,r.soft (.of_keeps fun _ _ e=>Heap.get?_push_of_some _ e)⟩
theorem new_tup {tk:Nat} {xs:List PV} {vs:List Value} (xc:XC hb O s) (r:VRs s.heap O xs vs) (hz:xs.length≤small) {n:Nat} :
  VR (Shared.mk (s.heap.push { cls := .type "tuple",data := .seq vs.toArray n }) s.gens s.drawn tk s.os).heap O (.tup xs) (.ref s.heap.objs.size) :=
 ⟨hz,_,vs,rfl,xc.off,xc.fresh,⟨_,Heap.get?_push_size _ rfl,rfl,_,rfl⟩,r.soft (.of_keeps fun _ _ e=>Heap.get?_push_of_some _ e)⟩
end
theorem G5 {a b:List Nat} (ha:okS a) (hb:okS b) (hz:(a ++ b).length≤small):okS (a ++ b) :=
 ⟨hz,fun c hc=>by rcases List.mem_append.mp hc with h | h;exact ha.2 c h;exact hb.2 c h⟩
theorem okS_sub {a b:List Nat} (ha:okS a) (hl:b.length≤a.length) (hs:∀ c∈b,c∈a):okS b:=⟨Nat.le_trans hl ha.1,fun c hc=>ha.2 c (hs c hc)⟩
theorem Q1 {h:Heap} {O:Addr→Prop} : (∀ (n:Nat) (x:PV) (v:Value),VR h O x v→b9 n x=true→∃ as,Reads h v (l7 x) as):=by
 intro n
 induction n with
 | zero =>
  intro x v r p
  cases x with
  | nul=>rw [show v=_ from r];exact ⟨_,.none⟩
  | bool b=>rw [show v=_ from r];exact ⟨_,.bool b⟩
  | int i=>refine Exists.elim r fun t e=>?_;rw [e];exact ⟨_,.int i t⟩
  | str l=>obtain ⟨_,t,e⟩:=r;rw [e];exact ⟨_,.str _ t⟩
  | _=>cases p
 | succ n ih =>
  have all:∀ (xs:List PV) (vs:List Value),VRs h O xs vs→b6 n xs=true→∃ as,ReadsAll h vs (m8 xs) as:=by
   intro xs
   induction xs with
   | nil=>intro vs r _;rw [show vs=_ from r];exact ⟨_,.nil⟩
   | cons x xs ih2 =>
    intro vs r p
    obtain ⟨v,r',rfl,h1,h2⟩:=r
    simp only [b6,Bool.and_eq_true] at p
    refine Exists.elim (ih x v h1 p.1 :) fun as q=>?_
    refine Exists.elim (ih2 _ h2 p.2 :) fun bs q'=>?_
    exact ⟨_,.cons q q'⟩
  intro x v r p
  cases x with
  | nul=>rw [show v=_ from r];exact ⟨_,.none⟩
  | bool b=>rw [show v=_ from r];exact ⟨_,.bool b⟩
  | int i=>refine Exists.elim r fun t e=>?_;rw [e];exact ⟨_,.int i t⟩
  | str l=>obtain ⟨_,t,e⟩:=r;rw [e];exact ⟨_,.str _ t⟩
  | list xs =>
   refine z6 fun K0=>?_
   obtain ⟨_,a,vs,rfl,_,_,hl,hx⟩:=r
   refine x13 hl.isList fun o ho hc o0=>?_;refine Exists.elim o0 fun k hd=>?_
   refine Exists.elim (all xs vs hx p :) fun as q=>?_
   refine K0 ?_
   clear K0
   exact ⟨_,.list ho hc hd q⟩
  | tup xs =>
   refine z6 fun K0=>?_
   obtain ⟨_,a,vs,rfl,_,_,⟨o,ho,hc,k,hd⟩,hx⟩:=r
   refine Exists.elim (all xs vs hx p :) fun as q=>?_
   refine K0 ?_
   clear K0
   exact ⟨_,.tuple ho hc hd q⟩
  | _=>cases p
theorem okS_strOk {l:List Nat} (h:okS l):PyData.strOk ⟨l.toArray⟩=true:=by
 unfold PyData.strOk;rw [List.all_toArray];exact List.all_eq_true.mpr fun c hc=>decide_eq_true (h.2 c hc)
theorem P9 {h:Heap} {O:Addr→Prop} : ∀ (n:Nat) (x:PV) (v:Value),VR h O x v→b9 n x=true→(l7 x).canLay0=true∧(l7 x).depth≤n:=by
 intro n
 induction n with
 | zero =>
  intro x v r p
  cases x with
  | str l=>exact ⟨okS_strOk r.ok,Nat.zero_le _⟩
  | list xs=>cases p
  | tup xs=>cases p
  | _=>exact ⟨rfl,Nat.zero_le _⟩
 | succ n ih =>
  have all:∀ (xs:List PV) (vs:List Value),VRs h O xs vs→b6 n xs=true→PyData.canLayAll0 (m8 xs)=true∧PyData.depthAll (m8 xs)≤n:=by
   intro xs
   induction xs with
   | nil=>intro vs r _;exact ⟨rfl,Nat.zero_le _⟩
   | cons x xs ih2 =>
    intro vs r p
    obtain ⟨v,r',rfl,h1,h2⟩:=r
    have q:=ih x v h1 (y5 p)
    have q':=ih2 _ h2 (v6 p)
    exact ⟨Bool.and_eq_true_iff.mpr ⟨q.1,q'.1⟩,Nat.max_le.mpr ⟨q.2,q'.2⟩⟩
  intro x v r p
  cases x with
  | str l=>exact ⟨okS_strOk r.ok,Nat.zero_le _⟩
  | list xs =>
   obtain ⟨_,a,vs,rfl,_,_,_,hx⟩:=r
   have q:=all xs vs hx p
   exact ⟨q.1,Nat.succ_le_succ q.2⟩
  | tup xs =>
   obtain ⟨_,a,vs,rfl,_,_,_,hx⟩:=r
   have q:=all xs vs hx p
   exact ⟨q.1,Nat.succ_le_succ q.2⟩
  | _=>exact ⟨rfl,Nat.zero_le _⟩
theorem G2 {h:Heap} {O:Addr→Prop} (n:Nat) (xs:List PV):∀ (vs:List Value),VRs h O xs vs→b6 n xs=true→PyData.canLayAll0 (m8 xs)=true∧PyData.depthAll (m8 xs)≤n:=by
 induction xs with
 | nil=>exact fun _ _ _=>⟨rfl,Nat.zero_le _⟩
 | cons x xs ih =>
  intro vs r p
  obtain ⟨v,r',rfl,h1,h2⟩:=r
  have q:=P9 n x v h1 (y5 p)
  have q':=ih _ h2 (v6 p)
  exact ⟨Bool.and_eq_true_iff.mpr ⟨q.1,q'.1⟩,Nat.max_le.mpr ⟨q.2,q'.2⟩⟩
theorem K3 {h:Heap} {O:Addr→Prop} (n:Nat):∀ (xs:List PV) (vs:List Value),VRs h O xs vs→b6 n xs=true→∃ as,ReadsAll h vs (m8 xs) as
 | [],_,r,_=>by rw [show _=_ from r];exact ⟨_,.nil⟩
 | x::xs,vs,r,p=>by
  obtain ⟨v,r',rfl,h1,h2⟩:=r;simp only [b6,Bool.and_eq_true] at p;obtain ⟨as,q⟩:=Q1 n x v h1 p.1;obtain ⟨bs,q'⟩:=K3 n xs _ h2 p.2;exact ⟨_,.cons q q'⟩
theorem K7 {h:Heap} {O:Addr→Prop} {x:PV} {v:Value} (r:VR h O x v) (p:b9 8 x=true):SeqAt.shaped (l7 x)=true:=by
 have q:=P9 8 x v r p;unfold SeqAt.shaped;rw [q.1,Bool.true_and];exact decide_eq_true (Nat.le_trans q.2 (by decide))
end Mine
namespace Mine
open PySem PyProof.Rows
section
variable {prog:Program} {w:World} {A:Around} {E:Value→Shared→Prop} {s:Shared} {hb:HB} {O:Addr→Prop}
theorem isT {h:Heap} {a:Addr} {vs:Array Value} (x:h.IsList a vs):∃ n dd sl,h.get? a=some { cls := .type "list",dict:=dd,data := .seq vs n,slots:=sl } := by
 refine z6 fun K0=>?_
 refine x13 x fun o0 ho hc o1=>?_;refine Exists.elim o1 fun n hd=>?_;obtain ⟨c,d,dt,sl⟩:=o0
 refine K0 ?_;clear K0;simp only at hc hd;subst hc hd;exact ⟨n,d,sl,ho⟩
inductive BinI:Operator→PV→PV→PV→Prop
 | add {a b:Int} : BinI .Add (.int a) (.int b) (.int (a + b))
 | sub {a b:Int} : BinI .Sub (.int a) (.int b) (.int (a - b))
 | mod {a b:Int} (h:0<b):BinI .Mod (.int a) (.int b) (.int (a % b))
 | div {a b:Int} (h:0<b∧b<1000000000):BinI .FloorDiv (.int a) (.int b) (.int (a / b))
 | pow {a b:Int} (h:0≤b∧b≤16∧0≤a∧a≤64):BinI .Pow (.int a) (.int b) (.int (a ^ b.toNat))
 | sadd {a b:List Nat} (h:a.length + b.length≤small):BinI .Add (.str a) (.str b) (.str (a ++ b))
 | ladd {a b:List PV} (h:a.length + b.length≤small):BinI .Add (.list a) (.list b) (.list (a ++ b))
theorem bin_inv {op:Operator} {x y v:PV} (h:l4 op x y=some v):BinI op x y v:=by
 induction op with
 | Add =>
  rcases j6 h with h | h
  ·refine V1 h fun a b o0 o1 h=>?_;obtain rfl:=o0;obtain rfl:=o1;exact Option.some.inj h ▸ .add
  ·rcases j6 h with h | h
   ·refine x23 (two_str h :) fun a b o0 o1 h=>?_;obtain rfl:=o0;obtain rfl:=o1;exact Option.some.inj (d0 h).2 ▸ .sadd (d0 h).1
   ·refine x23 (two_lst h :) fun a b o0 o1 h=>?_;obtain rfl:=o0;obtain rfl:=o1;exact Option.some.inj (d0 h).2 ▸ .ladd (d0 h).1
 | Sub=>refine V1 h fun a b o0 o1 h=>?_;obtain rfl:=o0;obtain rfl:=o1;exact Option.some.inj h ▸ .sub
 | Mod=>refine V1 h fun a b o0 o1 h=>?_;obtain rfl:=o0;obtain rfl:=o1;exact Option.some.inj (d0 h).2 ▸ .mod (d0 h).1
 | FloorDiv=>refine V1 h fun a b o0 o1 h=>?_;obtain rfl:=o0;obtain rfl:=o1;exact Option.some.inj (d0 h).2 ▸ .div (d0 h).1
 | Pow=>refine V1 h fun a b o0 o1 h=>?_;obtain rfl:=o0;obtain rfl:=o1;exact Option.some.inj (d0 h).2 ▸ .pow (d0 h).1
 | _=>exact w9 h
theorem bits_le {a:Int} (h0:0≤a∧a≤64):Builtin.Int.intBits a≤65:=by
 unfold Builtin.Int.intBits
 split
 ·lia
 ·have:=Nat.log2_le_self a.natAbs
  lia
theorem bin_ok {op:Operator} {x y v:PV} {rx ry:Value} {Q:Value→Shared→Prop} (he:l4 op x y=some v) (xc:XC hb O s) (hx:VR s.heap O x rx) (hy:VR s.heap O y ry)
  (hQ:∀ rv s',Kp hb s s'→VR s'.heap O v rv→Q rv s'):wpAny (model prog w) A (binaryOp op rx ry) Q E s:=by
 cases bin_inv he with
 | add=>refine Exists.elim hx fun t o1=>?_;obtain rfl:=o1;refine Exists.elim hy fun u o0=>?_;obtain rfl:=o0;exact wpAny_add_int (hQ _ _ .tok ⟨_,rfl⟩)
 | sub=>refine Exists.elim hx fun t o1=>?_;obtain rfl:=o1;refine Exists.elim hy fun u o0=>?_;obtain rfl:=o0;exact PyProof.Rows.sub_int (hQ _ _ .tok ⟨_,rfl⟩)
 | mod h=>refine Exists.elim hx fun t o1=>?_;obtain rfl:=o1;refine Exists.elim hy fun u o0=>?_;obtain rfl:=o0;exact PyProof.Rows.mod_int (Int.ne_of_gt h) (hQ _ _ .tok ⟨s.toks,by rw [Int.fmod_eq_emod_of_nonneg _ (Int.le_of_lt h)]⟩)
 | div h=>refine Exists.elim hx fun t o1=>?_;obtain rfl:=o1;refine Exists.elim hy fun u o0=>?_;obtain rfl:=o0;exact PyProof.Rows.floordiv_int (Int.ne_of_gt h.1) (hQ _ _ .tok ⟨s.toks,by rw [Int.fdiv_eq_ediv_of_nonneg _ (Int.le_of_lt h.1)]⟩) (.inl (PyProof.noPylong_small (by omega)))
 | pow h =>
  refine Exists.elim hx fun t o1=>?_;obtain rfl:=o1;refine Exists.elim hy fun u o0=>?_;obtain rfl:=o0
  refine PyProof.Rows.pow_int h.1 ?_ (hQ _ _ .tok ⟨_,rfl⟩)
  have h3:=Int.mul_le_mul_of_nonneg_right (Int.ofNat_le.mpr (bits_le h.2.2)) h.1
  clear hQ
  omega
 | sadd h =>
  obtain ⟨za,t,rfl⟩:=hx;obtain ⟨zb,u,rfl⟩:=hy
  exact PyProof.Rows.add_str (fun t' tk=>hQ _ _ .tok ⟨G5 za zb (by rw [List.length_append];exact h),t',congrArg (Value.str · t') (Str.ext' (by simp [Str.cps_append]))⟩) (Nat.le_trans h a8)
 | ladd h =>
  obtain ⟨za,la,vs,rfl,ha,hOa,la',ra⟩:=hx
  obtain ⟨zb,lb,ws,rfl,hb',hOb,lb',rb⟩:=hy
  refine z6 fun K0=>?_
  refine x31 (isT la'.isList :) fun n dd sl ho=>?_
  refine x31 (isT lb'.isList :) fun n2 dd2 sl2 ho2=>?_
  refine K0 ?_
  clear K0
  refine concat_meets ⟨_,ho,rfl⟩ ⟨_,ho2,rfl⟩ noFill_list_add seq_list_add PySem.F.slot_list_add PySem.F.entry_list_add (PySem.F.args_list_add_2 _ _) (list_addW la lb vs.toArray ws.toArray n n2 dd dd2 sl sl2 ?_) ⟨ho,ho2,?_⟩
  ·simp only [List.size_toArray];rw [ra.length,rb.length];exact Nat.le_trans h a8
  ·rw [show vs.toArray ++ ws.toArray=(vs ++ ws).toArray by simp];exact hQ _ _ .push (L4 xc (ra.append rb) (by rw [List.length_append];exact h))
noncomputable def Both (prog:Program) (w:World) (A:Around) (E:Value→Shared→Prop) (s:Shared) (o1 o2:CmpOp) (rx ry:Value) (b:Bool):Prop :=
 (∀ Q:Value→Shared→Prop,Q (.bool b) s→wpAny (model prog w) A (compareOp o1 rx ry) Q E s)∧∀ Q:Value→Shared→Prop,Q (.bool !b) s→wpAny (model prog w) A (compareOp o2 rx ry) Q E s
theorem str_beq (a c:List Nat):((⟨a.toArray⟩:Str) == ⟨c.toArray⟩)=decide (a=c):=by
 by_cases h:a=c
 ·subst h;rw [decide_eq_true rfl];exact beq_self_eq_true _
 ·rw [decide_eq_false h];refine beq_eq_false_iff_ne.mpr fun q=>h ?_
  injection q with q;exact congrArg Array.toList q
theorem eqv_ok {x y:PV} {rx ry:Value} {b:Bool} (he:eqo x y=some b) (hx:VR s.heap O x rx) (hy:VR s.heap O y ry) (hu:A.units + 64<cLine):Both prog w A E s .Eq .NotEq rx ry b:=by
 rcases j6 he with he | he
 ·refine x23 (two_str he :) fun a c o0 o1 he=>?_;obtain rfl:=o0;obtain rfl:=o1
  obtain ⟨_,t,rfl⟩:=hx;obtain ⟨_,u,rfl⟩:=hy;rw [← Option.some.inj he,← str_beq];exact ⟨fun Q h=>PyProof.Rows.eq_str h,fun Q h=>PyProof.Rows.ne_str h⟩
 rcases j6 he with he | he
 ·refine V1 he fun a c o0 o1 he=>?_;obtain rfl:=o0;obtain rfl:=o1
  refine Exists.elim hx fun t o1=>?_;obtain rfl:=o1;refine Exists.elim hy fun u o0=>?_;obtain rfl:=o0
  refine Option.some.inj he▸?_;exact ⟨fun Q h=>PyProof.Rows.eq_int h,fun Q h=>PyProof.Rows.ne_int h⟩
 rcases j6 he with he | he
 ·refine x23 (two_bool he :) fun a c o0 o1 he=>?_;obtain rfl:=o0;obtain rfl:=o1
  have e:PyData.eqv (.bool a) (.bool c)=b:=(show _=(a == c) by cases a <;> cases c <;> rfl).trans (Option.some.inj he)
  rw [show rx=_ from hx,show ry=_ from hy,← e];exact ⟨fun Q h=>eq_dataH (.bool a) (.bool c) rfl rfl hu h,fun Q h=>ne_dataH (.bool a) (.bool c) rfl rfl hu h⟩
 ·refine v9 he fun hp he=>?_
  have hp:=Bool.and_eq_true_iff.mp hp;refine Option.some.inj he▸?_;refine z6 fun K0=>?_
  refine Exists.elim (Q1 8 x rx hx hp.1 :) fun as ra=>?_
  refine Exists.elim (Q1 8 y ry hy hp.2 :) fun bs rb=>?_
  refine K0 ?_;clear K0;exact ⟨fun Q h=>eq_dataH ra rb (K7 hx hp.1) (K7 hy hp.2) hu h,fun Q h=>ne_dataH ra rb (K7 hx hp.1) (K7 hy hp.2) hu h⟩
inductive IsI:PV→PV→Bool→Prop
 | nul:IsI .nul .nul true
 | lst {l:List PV} : IsI (.list l) .nul false
 | ob {a c:Addr} : IsI (.ob a) (.ob c) (decide (a=c))
 | str {l:List Nat} {a:Addr} : IsI (.str l) (.ob a) false
 | ty {a c:String} : IsI (.fn (.type a)) (.fn (.type c)) (decide (a=c))
theorem is_inv {x y:PV} {b:Bool} (h:isop x y=some b):IsI x y b:=by
 cases x with
 | nul=>refine v8 h fun _ e o0=>?_;obtain rfl:=o0;rw [nulP_ok e];exact .nul
 | list l=>refine v8 h fun _ e o0=>?_;obtain rfl:=o0;rw [nulP_ok e];exact .lst
 | ob a=>refine v8 h fun _ e o0=>?_;obtain rfl:=o0;rw [obP_ok e];exact .ob
 | str l=>refine v8 h fun _ e o0=>?_;obtain rfl:=o0;rw [obP_ok e];exact .str
 | fn f =>
  refine y4 h fun a ea h=>?_
  refine v8 h fun _ e o0=>?_;obtain rfl:=o0
  rw [tyP_ok e,show f = .type a from fn_inj (tyP_ok (v := .fn f) ea)]
  exact .ty
 | _=>exact w9 h
theorem is_ok {x y:PV} {rx ry:Value} {b:Bool} (he:isop x y=some b) (hx:VR s.heap O x rx) (hy:VR s.heap O y ry):Both prog w A E s .Is .IsNot rx ry b:=by
 cases is_inv he with
 | nul=>rw [show rx=_ from hx,show ry=_ from hy];exact ⟨fun Q h=>wpAny_is_plain rfl h,fun Q h=>wpAny_isNot_plain rfl h⟩
 | lst=>obtain ⟨_,a,vs,rfl,_⟩:=hx;rw [show ry=_ from hy];exact ⟨fun Q h=>wpAny_is_plain rfl h,fun Q h=>wpAny_isNot_plain rfl h⟩
 | @ob a c =>
  obtain ⟨rfl,ha,_,o,ho,hc,_⟩:=hx
  obtain ⟨rfl,hb,_,o',ho',hc',_⟩:=hy
  by_cases h:a=c
  ·subst h;rw [decide_eq_true rfl];exact ⟨fun Q h=>wpAny_is_ref_self h,fun Q h=>wpAny_isNot_ref_self h⟩
  ·rw [decide_eq_false h];exact ⟨fun Q q=>wpAny_is_ref_other h ho ho' (by rw [hc];decide) q,fun Q q=>wpAny_isNot_ref_other h ho ho' (by rw [hc];decide) q⟩
 | str=>obtain ⟨_,t,rfl⟩:=hx;obtain ⟨rfl,_⟩:=hy;exact ⟨fun Q h=>wpAny_is_plain rfl h,fun Q h=>wpAny_isNot_plain rfl h⟩
 | @ty a c =>
  rw [show rx=_ from hx,show ry=_ from hy]
  have e:(Value.type a == Value.type c)=decide (a=c):=by
   by_cases h:a=c
   ·subst h;rw [decide_eq_true rfl];exact beq_self_eq_true _
   ·rw [decide_eq_false h];exact beq_eq_false_iff_ne.mpr fun q=>h (by injection q)
  refine e▸?_
  exact ⟨fun Q h=>wpAny_is_plain rfl h,fun Q h=>wpAny_isNot_plain rfl h⟩
theorem min_8 {a b:Nat} (h:a≤8) (hu:A.units + 64<cLine):A.units + 1 + min a b<cLine:=by
 have:=Nat.min_le_left a b;lia
theorem in_ok {x:PV} {ys:List PV} {rx ry:Value} {b:Bool} (he:b5 x ys=some b) (hx:VR s.heap O x rx) (hy:VR s.heap O (.list ys) ry) (hu:A.units + 64<cLine):Both prog w A E s .In .NotIn rx ry b:=by
 refine v9 he fun hp he=>?_
 refine Option.some.inj he▸?_;have hp:=Bool.and_eq_true_iff.mp hp;refine z6 fun K0=>?_
 refine Exists.elim (Q1 8 x rx hx hp.1 :) fun as ra=>?_
 have la:=P9 8 x rx hx hp.1;obtain ⟨_,a,vs,rfl,_,_,hl,hxs⟩:=hy;refine x13 hl.isList fun o ho hc o0=>?_;refine Exists.elim o0 fun k hd=>?_
 refine Exists.elim (K3 8 ys vs hxs hp.2 :) fun bs rb=>?_
 refine K0 ?_;clear K0;have lb:=G2 8 ys vs hxs hp.2;have hm:=min_8 (b:=(l7 x).depth) lb.2 hu;exact ⟨fun Q h=>SeqAt.in_list_reads (.list ho hc hd rb) ra lb.1 la.1 hm h,fun Q h=>SeqAt.notIn_list_reads (.list ho hc hd rb) ra lb.1 la.1 hm h⟩
theorem int_ok {x:PV} {ys:List PV} {rx ry:Value} {b:Bool} {Q:Value→Shared→Prop} (he:b5 x ys=some b) (hx:VR s.heap O x rx) (hy:VR s.heap O (.tup ys) ry) (hu:A.units + 64<cLine)
  (h:Q (.bool b) s):wpAny (model prog w) A (compareOp .In rx ry) Q E s:=by
 refine z6 fun K0=>?_
 refine v9 he fun hp he=>?_
 rw [← Option.some.inj he] at h;have hp:=Bool.and_eq_true_iff.mp hp;refine Exists.elim (Q1 8 x rx hx hp.1 :) fun as ra=>?_
 have la:=P9 8 x rx hx hp.1;obtain ⟨_,a,vs,rfl,_,_,⟨o,ho,hc,k,hd⟩,hxs⟩:=hy;refine Exists.elim (K3 8 ys vs hxs hp.2 :) fun bs rb=>?_
 refine K0 ?_;clear K0;have lb:=G2 8 ys vs hxs hp.2;exact SeqAt.in_tuple_reads (.tuple ho hc hd rb) ra lb.1 la.1 (min_8 lb.2 hu) h
theorem mem_str (c:Nat) (l:List Nat):(!(Builtin.Str.occurrences (⟨l.toArray⟩:Str) ⟨#[c]⟩ 0 (⟨l.toArray⟩:Str).length 1).isEmpty)=decide (c∈l):=by
 rw [show (⟨#[c]⟩:Str)=⟨#[c]⟩ from rfl,StrLaws.found_one]
inductive CmpI:CmpOp→PV→PV→Bool→Prop
 | eq {x y:PV} {b:Bool} (h:eqo x y=some b):CmpI .Eq x y b
 | ne {x y:PV} {b:Bool} (h:eqo x y=some b):CmpI .NotEq x y (!b)
 | lti {i j:Int} : CmpI .Lt (.int i) (.int j) (decide (i<j))
 | lei {i j:Int} : CmpI .LtE (.int i) (.int j) (decide (i≤j))
 | gti {i j:Int} : CmpI .Gt (.int i) (.int j) (decide (j<i))
 | gei {i j:Int} : CmpI .GtE (.int i) (.int j) (decide (j≤i))
 | lts {i j:List Nat} : CmpI .Lt (.str i) (.str j) (decide (i<j))
 | gts {i j:List Nat} : CmpI .Gt (.str i) (.str j) (decide (j<i))
 | is {x y:PV} {b:Bool} (h:isop x y=some b):CmpI .Is x y b
 | ns {x y:PV} {b:Bool} (h:isop x y=some b):CmpI .IsNot x y (!b)
 | inl {x:PV} {l:List PV} {b:Bool} (h:b5 x l=some b):CmpI .In x (.list l) b
 | inn {x:PV} {l:List PV} {b:Bool} (h:b5 x l=some b):CmpI .NotIn x (.list l) (!b)
 | int {x:PV} {l:List PV} {b:Bool} (h:b5 x l=some b):CmpI .In x (.tup l) b
 | ins {c:Nat} {l:List Nat} : CmpI .In (.str [c]) (.str l) (decide (c∈l))
 | nis {c:Nat} {l:List Nat} : CmpI .NotIn (.str [c]) (.str l) (!decide (c∈l))
theorem in_inv {x y:PV} {b:Bool} (h:u7 .In x y=some b):CmpI .In x y b:=by
 rcases j6 h with h | h
 ·refine y4 h fun c e h=>?_
  refine v8 h fun l e' o0=>?_;obtain rfl:=o0
  rw [R6 e,a9 e'];exact .ins
 ·refine y4 h fun l e h=>?_
  rcases seqP_ok e with rfl | rfl
  ·exact .inl h
  ·exact .int h
theorem notin_inv {x y:PV} {b:Bool} (h:u7 .NotIn x y=some b):CmpI .NotIn x y b:=by
 refine v8 h fun t h' o0=>?_;obtain rfl:=o0
 rcases j6 h' with h | h
 ·refine y4 h fun c e h=>?_
  refine v8 h fun l e' o0=>?_;obtain rfl:=o0
  rw [R6 e,a9 e'];exact .nis
 ·refine y4 h fun l e h=>?_
  rw [X8 e];exact .inn h
theorem cmp_inv {op:CmpOp} {x y:PV} {b:Bool} (h:u7 op x y=some b):CmpI op x y b:=by
 induction op with
 | Eq=>exact .eq h
 | NotEq=>refine v8 h fun t h1 o0=>?_;obtain rfl:=o0;exact .ne h1
 | Lt =>
  rcases j6 h with h | h
  ·refine V1 h fun a b o0 o1 h=>?_;obtain rfl:=o0;obtain rfl:=o1;exact Option.some.inj h ▸ .lti
  ·refine x23 (two_str h :) fun a b o0 o1 h=>?_;obtain rfl:=o0;obtain rfl:=o1;exact Option.some.inj h ▸ .lts
 | LtE=>refine V1 h fun a b o0 o1 h=>?_;obtain rfl:=o0;obtain rfl:=o1;exact Option.some.inj h ▸ .lei
 | Gt =>
  rcases j6 h with h | h
  ·refine V1 h fun a b o0 o1 h=>?_;obtain rfl:=o0;obtain rfl:=o1;exact Option.some.inj h ▸ .gti
  ·refine x23 (two_str h :) fun a b o0 o1 h=>?_;obtain rfl:=o0;obtain rfl:=o1;exact Option.some.inj h ▸ .gts
 | GtE=>refine V1 h fun a b o0 o1 h=>?_;obtain rfl:=o0;obtain rfl:=o1;exact Option.some.inj h ▸ .gei
 | Is=>exact .is h
 | IsNot=>refine v8 h fun t h1 o0=>?_;obtain rfl:=o0;exact .ns h1
 | In=>exact in_inv h
 | NotIn=>exact notin_inv h
theorem cmp_ok {op:CmpOp} {x y:PV} {rx ry:Value} {b:Bool} {Q:Value→Shared→Prop} (he:u7 op x y=some b) (hx:VR s.heap O x rx) (hy:VR s.heap O y ry) (hu:A.units + 64<cLine)
  (hQ:Q (.bool b) s):wpAny (model prog w) A (compareOp op rx ry) Q E s:=by
 cases cmp_inv he with
 | eq h=>exact (eqv_ok h hx hy hu).1 _ hQ
 | ne h=>exact (eqv_ok h hx hy hu).2 _ hQ
 | lti=>obtain ⟨t,rfl⟩:=hx;obtain ⟨u,rfl⟩:=hy;exact PyProof.Rows.lt_int hQ
 | lei=>obtain ⟨t,rfl⟩:=hx;obtain ⟨u,rfl⟩:=hy;exact PyProof.Rows.le_int hQ
 | gti=>obtain ⟨t,rfl⟩:=hx;obtain ⟨u,rfl⟩:=hy;exact PyProof.Rows.gt_int hQ
 | gei=>obtain ⟨t,rfl⟩:=hx;obtain ⟨u,rfl⟩:=hy;exact PyProof.Rows.ge_int hQ
 | lts=>obtain ⟨_,t,rfl⟩:=hx;obtain ⟨_,u,rfl⟩:=hy;exact PyProof.Rows.lt_str (hQ)
 | gts=>obtain ⟨_,t,rfl⟩:=hx;obtain ⟨_,u,rfl⟩:=hy;exact P.gt_str (hQ)
 | is h=>exact (is_ok h hx hy).1 _ hQ
 | ns h=>exact (is_ok h hx hy).2 _ hQ
 | inl h=>exact (in_ok h hx hy hu).1 _ hQ
 | inn h=>exact (in_ok h hx hy hu).2 _ hQ
 | int h=>exact int_ok h hx hy hu hQ
 | ins=>obtain ⟨_,t,rfl⟩:=hx;obtain ⟨_,u,rfl⟩:=hy;exact PyProof.Rows.in_str (by rw [mem_str];exact hQ)
 | nis=>obtain ⟨_,t,rfl⟩:=hx;obtain ⟨_,u,rfl⟩:=hy;exact PyProof.Rows.notIn_str (by rw [mem_str];exact hQ)
theorem small_63 {n:Nat} (h:n≤small):¬ (n:Int)≥2 ^ 63:=by
 have h2:small=1048576:=rfl
 lia
theorem VRs.small {h:Heap} {xs:List PV} {vs:List Value} (r:VRs h O xs vs) (z:xs.length≤small):((vs.toArray.size:Nat):Int)<2 ^ 63:=by
 rw [List.size_toArray,r.length];have h2:Mine.small=1048576:=rfl
 lia
theorem VRs.empty {h:Heap} {xs:List PV} {vs:List Value} (r:VRs h O xs vs):(!vs.toArray.isEmpty) = !xs.isEmpty:=by
 induction xs with
 | nil=>rw [show vs=[] from r];rfl
 | cons a l=>obtain ⟨_,_,rfl,_⟩:=r;rfl
theorem E4 {x:PV} {rx:Value} {b:Bool} {Q:Bool→Shared→Prop} (he:truthy x=some b) (hx:VR s.heap O x rx)
  (hQ:∀ s',Kp hb s s'→Q b s'):wpAny (model prog w) A (PySem.truthy rx) Q E s:=by
 cases x with
 | nul =>
  rw [show rx=_ from hx];obtain rfl:=Option.some.inj he
  exact PyProof.Rows.truthy_none (hQ _ (.refl ..))
 | bool b =>
  rw [show rx=_ from hx];obtain rfl:=Option.some.inj he
  exact wpAny_truthy_bool (hQ _ (.refl ..))
 | int i =>
  obtain ⟨t,rfl⟩:=hx;obtain rfl:=Option.some.inj he
  refine PyProof.Rows.truthy_int ?_
  have e:(i != 0)=decide (i≠0):=by
   by_cases h:i=0 <;> simp [h]
  rw [e]
  exact hQ _ (.refl ..)
 | str l =>
  refine z6 fun K0=>?_
  obtain ⟨z,t,rfl⟩:=hx;obtain rfl:=Option.some.inj he
  refine K0 ?_
  clear K0
  refine PySem.P.truthy_str ?_ ?_
  ·show ¬ ((l.toArray.size:Nat):Int)≥2 ^ 63;rw [List.size_toArray];exact small_63 z.1
  ·have e:(((⟨l.toArray⟩:Str).length:Int) != 0) = !l.isEmpty:=by
    show (((l.toArray.size:Nat):Int) != 0)=_;rw [List.size_toArray]
    induction l with
    | nil=>rfl
    | cons a r=>exact bne_iff_ne.mpr (Int.ne_of_gt (Int.natCast_pos.mpr (Nat.succ_pos _)))
   rw [e];exact hQ _ .tok
 | list l =>
  refine z6 fun K0=>?_
  obtain ⟨z,a,vs,rfl,_,_,hl,hx⟩:=hx;obtain rfl:=Option.some.inj he
  refine K0 ?_
  clear K0
  refine wpAny_truthy_list hl.isList (hx.small z) ?_
  rw [hx.empty]
  exact hQ _ .tok
 | tup l =>
  refine z6 fun K0=>?_
  obtain ⟨z,a,vs,rfl,_,_,hl,hx⟩:=hx;obtain rfl:=Option.some.inj he
  refine K0 ?_
  clear K0
  refine PyProof.Rows.truthy_tuple hl (hx.small z) ?_
  rw [hx.empty]
  exact hQ _ .tok
 | _=>exact w9 he
theorem zas {xs:List PV} {a:Addr} {vs:List Value} {Q:Bool→Shared→Prop} (hl:s.heap.IsList a vs.toArray) (hx:VRs s.heap O xs vs) (hz:xs.length≤small)
  (hQ:∀ s',Kp hb s s'→Q (!xs.isEmpty) s'):wpAny (model prog w) A (PySem.truthy (.ref a)) Q E s:=by
 refine wpAny_truthy_list hl (hx.small hz) ?_;refine hx.empty▸?_;exact hQ _ .tok
theorem G3 {n:Nat} {i:Int} {k:Nat} (h:b8 n i=some k):seqIndex? i n=some k∧k<n ∧ -(n:Int)≤i∧i<n:=by
 unfold b8 at h;unfold seqIndex?
 split at h
 ·split at h
  ·cases h
   rename_i h1 h2;have h3:¬ i<0:=by lia
   simp only [h3,if_false];refine ⟨by simp [h1,h2],by lia,by lia,h2⟩
  ·exact w9 h
 ·split at h
  ·cases h
   rename_i h1 h2;have h3:i<0:=by lia
   simp only [h3,if_true];have h4:(0:Int)≤i + n:=by lia
   have h5:i + n<n:=by lia
   refine ⟨?_,by lia,h2,by lia⟩;simp [h4,h5,Int.add_comm]
  ·exact w9 h
theorem list_item {a:Addr} {xs:List PV} {vs:List Value} {i:Int} {t:Tok} {k:Nat} {v:PV} {Q:Value→Shared→Prop} (hl:s.heap.IsList a vs.toArray) (hx:VRs s.heap O xs vs) (hz:xs.length≤small)
  (hk:b8 xs.length i=some k) (hv:xs[k]?=some v) (hQ:∀ rv,VR s.heap O v rv→Q rv s):wpAny (model prog w) A (getItem (.ref a) (.int i t)) Q E s:=by
 have h2:small=1048576:=rfl;have h3:=hx.length;refine z6 fun K0=>?_
 refine x12 (hx.get hv :) fun rv h4 h5=>?_
 refine x04 (G3 hk :) fun h6 h7 h8 h9=>?_
 refine K0 ?_;clear K0;unfold seqIndex? at h6;by_cases h:i<0
 ·simp only [h,if_true] at h6
  split at h6
  ·cases h6
   refine wpAny_getItem_list_neg hl h (by rw [List.size_toArray,h3];omega) (by lia) (x:=rv) ?_ (hQ _ h5);rw [List.size_toArray,h3,List.getElem?_toArray];exact h4
  ·exact w9 h6
 ·simp only [h,if_false] at h6
  split at h6
  ·cases h6
   refine wpAny_getItem_list hl (by omega) (by lia) (x:=rv) ?_ (hQ _ h5);rw [List.getElem?_toArray];exact h4
  ·exact w9 h6
theorem O4 {n k:Nat} (h:k<n):b8 n k=some k:=by
 unfold b8;rw [if_pos (Int.natCast_nonneg k),if_pos (Int.ofNat_lt.mpr h)];rfl
theorem idx_str {l:List Nat} {i:Int} {k c:Nat} (h:b8 l.length i=some k) (hc:l[k]?=some c):v4 (.str l) (.int i)=some (.str [c]):=by
 show ((b8 l.length i).bind fun k=>l[k]?).map _=_
 rw [h,Option.bind_some,hc];rfl
theorem M5 {l:List PV} {i:Int} {k:Nat} {v:PV} (h:b8 l.length i=some k) (hc:l[k]?=some v):v4 (.list l) (.int i)=some v:=by
 show (b8 l.length i).bind (fun k=>l[k]?)=_
 exact h▸hc
theorem idx_63 {n:Nat} {i:Int} (hz:n≤small) (h8 : -(n:Int)≤i) (h9:i<n):(decide (i < -(2 ^ 63:Int)) || decide (i≥(2 ^ 63:Int)))=false:=by
 have h2:small=1048576:=rfl;rw [Bool.or_eq_false_iff];exact ⟨decide_eq_false (by lia),decide_eq_false (by lia)⟩
theorem idx_ok {x y v:PV} {rx ry:Value} {Q:Value→Shared→Prop} (he:v4 x y=some v) (hx:VR s.heap O x rx) (hy:VR s.heap O y ry)
  (hQ:∀ rv s',Kp hb s s'→VR s'.heap O v rv→Q rv s'):wpAny (model prog w) A (getItem rx ry) Q E s:=by
 refine z6 fun K0=>?_
 refine y4 he fun i e h'=>?_
 obtain rfl:=U6 e;refine Exists.elim hy fun u o0=>?_;obtain rfl:=o0
 refine K0 ?_;clear K0
 cases x with
 | str l =>
  refine z6 fun K0=>?_
  refine v8 h' fun c hc o0=>?_;obtain rfl:=o0
  refine y4 hc fun k hk hc=>?_
  obtain ⟨z,t,rfl⟩:=hx
  refine x04 (G3 hk :) fun h6 h7 h8 h9=>?_
  refine K0 ?_
  clear K0
  refine PyProof.Rows.getItem_str (c:=c) ?_ ?_ (hQ _ _ .tok ⟨⟨by show 1≤small;decide,fun d hd=>by rw [List.mem_singleton.mp hd];exact z.2 c (List.mem_of_getElem? hc)⟩,_,rfl⟩)
  ·exact idx_63 z.1 h8 h9
  ·show (seqIndex? i l.toArray.size).bind (l.toArray[·]?)=some c;rw [List.size_toArray,h6];exact (List.getElem?_toArray ..).trans hc
 | list l =>
  refine z6 fun K0=>?_
  obtain ⟨z,a,vs,rfl,_,_,hl,hx⟩:=hx
  refine x12 (bind_some (show (b8 l.length i).bind _=_ from h') :) fun k hk he=>?_
  refine K0 ?_
  clear K0
  exact list_item hl.isList hx z hk he fun rv h=>hQ _ _ (.refl ..) h
 | tup l =>
  refine z6 fun K0=>?_
  obtain ⟨z,a,vs,rfl,_,_,hl,hx⟩:=hx
  refine x12 (bind_some (show (b8 l.length i).bind _=_ from h') :) fun k hk he=>?_
  refine x12 (hx.get he :) fun rv h4 h5=>?_
  refine x04 (G3 hk :) fun h6 h7 h8 h9=>?_
  refine K0 ?_
  clear K0
  have h3:=hx.length
  have h2:small=1048576:=rfl
  exact PyProof.Rows.getItem_tuple hl (by lia) (by lia) (j:=k) (x:=rv) (by rw [List.size_toArray,h3];exact h6) (by rw [List.getElem?_toArray];exact h4) (hQ _ _ (.refl ..) h5)
 | _=>exact w9 h'
noncomputable def partOf (x:PV) (v:Value):Prop:=match x with
 | .nul=>v = .none
 | .int i=>∃ t,v = .int i t
 | _=>False
theorem part_of {x:PV} {h:Heap} {v:Value} {n d k:Nat} (hb:bound n d x=some k) (r:VR h O x v):∃ p:Option Int,IsPart v p∧(∃ q:Option (Int × Tok),v=partValue q∧q.map (·.1)=p) ∧
  (match p with | none=>d | some i=>i6 n i)=k:=by
 cases x with
 | nul=>rw [show v=_ from r];cases hb;exact ⟨none,.none,⟨none,rfl,rfl⟩,rfl⟩
 | int i=>refine Exists.elim r fun t e=>?_;rw [e];cases hb;exact ⟨some i,.int i t,⟨some (i,t),rfl,rfl⟩,rfl⟩
 | _=>exact w9 hb
theorem clip_nat (n:Nat) (j:Int):max 0 (min j n)=((min j.toNat n:Nat):Int):=by
 cases j with
 | ofNat m =>
  show max 0 (min (m:Int) n)=((min m n:Nat):Int)
  rcases Nat.le_total m n with h | h
  ·rw [Int.min_eq_left (Int.ofNat_le.mpr h),Nat.min_eq_left h,Int.max_eq_right (Int.natCast_nonneg m)]
  ·rw [Int.min_eq_right (Int.ofNat_le.mpr h),Nat.min_eq_right h,Int.max_eq_right (Int.natCast_nonneg n)]
 | negSucc m =>
  show max 0 (min (Int.negSucc m) n)=((min 0 n:Nat):Int)
  have h0:Int.negSucc m≤0:=Int.le_of_lt (Int.negSucc_lt_zero m)
  rw [Nat.zero_min,Int.min_eq_left (Int.le_trans h0 (Int.natCast_nonneg n)),Int.max_eq_left h0];rfl
theorem clip_eq (n:Nat) (i:Int):max 0 (min (if i<0 then i + n else i) n)=((min (i6 n i) n:Nat):Int):=by
 unfold i6
 split
 ·exact clip_nat ..
 ·rw [Nat.min_assoc,Nat.min_self];exact clip_nat ..
theorem cut_min {α:Type} (xs:List α) (a b:Nat):(xs.drop (min a xs.length)).take (min b xs.length - min a xs.length)=cut xs a b:=by
 unfold cut;rw [← List.drop_take,List.take_eq_take_min (i:=b)];by_cases h:a≤xs.length
 ·rw [Nat.min_eq_left h]
 ·rw [List.drop_eq_nil_of_le (by simp;lia),List.drop_eq_nil_of_le (by simp;lia)]
theorem slicePick_cut (items:List Value) (lo hi:Option Int) {a b:Nat} (ha:(match lo with | none=>0 | some i=>i6 items.length i)=a) (hb:(match hi with | none=>items.length | some i=>i6 items.length i)=b) :
  slicePick items.toArray lo hi none=(cut items a b).toArray:=by
 have e:sliceBounds lo hi none items.toArray.size=(((min a items.length:Nat):Int),((min b items.length:Nat):Int),(1:Int)):=by
  unfold sliceBounds;simp only [Option.getD_none,show (1:Int)>0 by decide,if_true,List.size_toArray];subst ha hb;congr 1
  ·induction lo with
   | none=>simp
   | some i=>exact clip_eq _ _
  ·congr 1
   induction hi with
   | none=>simp
   | some i=>exact clip_eq _ _
 unfold slicePick;refine e▸?_;simp only [sliceRange_one,pick_run,cut_min]
theorem strIdx_cut (l:List Nat) (lo hi:Option Int) {a b:Nat} (ha:(match lo with | none=>0 | some i=>i6 l.length i)=a) (hb:(match hi with | none=>l.length | some i=>i6 l.length i)=b) :
  (Builtin.Str.strSliceIndices lo hi 1 l.length)=(List.range (min b l.length - min a l.length)).map (min a l.length + ·):=by
 rw [← sliceRange_one];unfold Builtin.Str.strSliceIndices;simp only [show (1:Int)>0 by decide,if_true];subst ha hb;congr 1
 ·induction lo with
  | none=>simp
  | some i=>exact clip_eq _ _
 ·induction hi with
  | none=>simp
  | some i=>exact clip_eq _ _
theorem VRs.cut {h:Heap} {xs:List PV} {vs:List Value} (r:VRs h O xs vs) (a b:Nat):VRs h O (Mine.cut xs a b) (Mine.cut vs a b):=(r.take b).drop a
theorem D6 {α:Type} (xs:List α) (a b:Nat):(cut xs a b).length≤xs.length:=by
 exact ((List.drop_sublist _ _).trans (List.take_sublist _ _)).length_le
theorem cut_mem {α:Type} {xs:List α} {a b:Nat} {x:α} (h:x∈cut xs a b):x∈xs:=List.mem_of_mem_take (List.mem_of_mem_drop h)
theorem cut_whole {α:Type} {xs:List α} {a b:Nat} (h:(cut xs a b).length=xs.length):cut xs a b=xs :=
 List.Sublist.eq_of_length ((List.drop_sublist _ _).trans (List.take_sublist _ _)) h
theorem cut_count (l:List Nat) (a b:Nat):min b l.length - min a l.length=(cut l a b).length:=by
 rw [← cut_min,List.length_take,List.length_drop];exact (Nat.min_eq_left (Nat.sub_le_sub_right (Nat.min_le_right ..) _)).symm
theorem slc_str {w₀:World} {l:List Nat} {w:List Nat} {y z:PV} {t:Tok} {ry rz:Value} {Q:Value→Shared→Prop} {s1:Shared} {I:Addr} (he:slcL l y z=some w) (hy:VR s.heap O y ry) (hz:VR s.heap O z rz) (hI:s1.heap.get? I=some { cls := .type "slice",data := .fields #[ry,rz,.none] })
  (h1:w=l→Q (.str ⟨l.toArray⟩ t) s1) (h2:Q (.str ⟨w.toArray⟩ s1.toks) { s1 with toks:=s1.toks + 1 }) (zw:w.length≤small):wpAny (model prog w₀) A (getItem (.str ⟨l.toArray⟩ t) (.ref I)) Q E s1:=by
 refine z6 fun K0=>?_
 refine y4 he fun a ha hw=>?_
 refine v8 hw fun b hb' o0=>?_;obtain rfl:=o0
 refine x13 (part_of ha hy :) fun p1 _ o0 k1=>?_;obtain ⟨q1,e1,m1⟩:=o0
 refine x13 (part_of hb' hz :) fun p2 _ o0 k2=>?_;obtain ⟨q2,e2,m2⟩:=o0
 refine K0 ?_;clear K0;have hi:slicePicked (⟨l.toArray⟩:Str) q1 q2 none=(List.range (min b l.length - min a l.length)).map (min a l.length + ·):=by
  unfold slicePicked;rw [m1,m2];show Builtin.Str.strSliceIndices p1 p2 1 l.toArray.size=_;rw [List.size_toArray];exact strIdx_cut l p1 p2 k1 k2
 have hf:((slicePicked (⟨l.toArray⟩:Str) q1 q2 none).filterMap (l.toArray[·]?))=cut l a b:=by
  rw [hi,pick_run,cut_min]
 have hlen:(slicePicked (⟨l.toArray⟩:Str) q1 q2 none).length=(cut l a b).length:=by
  rw [hi,List.length_map,List.length_range,cut_count]
 refine wpAny_getItem_str_slice (l:=q1) (u:=q2) (st:=none) ⟨_,hI,rfl,by rw [e1,e2];rfl⟩ rfl ?_;unfold sliceMade
 split
 ·rename_i hw;have hw2:=(Bool.and_eq_true_iff.mp hw).2;rw [hlen] at hw2;exact h1 (cut_whole ((beq_iff_eq.mp hw2).trans (by show l.toArray.size=_;rw [List.size_toArray])))
 ·refine ⟨?_,?_⟩
  ·show (List.toArray _).size≤sizeLine;rw [List.size_toArray,hf];exact Nat.le_trans zw a8
  ·rw [hf];exact h2
theorem slc_ok {x y z v:PV} {rx ry rz:Value} {Q:Value→Shared→Prop} (he:n8 x y z=some v) (xc:XC hb O s) (hx:VR s.heap O x rx) (hy:VR s.heap O y ry) (hz:VR s.heap O z rz)
  (hQ:∀ rv s',Kp hb s s'→VR s'.heap O v rv→Q rv s') :
  wpAny (model prog w) A (getItem rx (.ref s.heap.objs.size)) Q E { s with heap:=s.heap.push { cls := .type "slice",data := .fields #[ry,rz,.none] } } := by
 have k:Kp hb s { s with heap:=s.heap.push { cls := .type "slice",data := .fields #[ry,rz,.none] } } := .push (tk:=s.toks)
 cases x with
 | str l =>
  refine z6 fun K0=>?_
  refine v8 he fun c hc o0=>?_;obtain rfl:=o0
  obtain ⟨zz,t,rfl⟩:=hx
  refine K0 ?_
  clear K0
  have zc:okS c:=by
   refine y4 hc fun a ha hw=>?_
   refine v8 hw fun b hb' o0=>?_;obtain rfl:=o0
   exact okS_sub zz (D6 ..) fun c hc=>cut_mem hc
  exact slc_str hc hy hz (Heap.get?_push_size _ rfl) (fun e=>by subst e;exact hQ _ _ k ⟨zz,t,rfl⟩) (hQ _ _ (k.trans .tok) ⟨zc,_,rfl⟩) zc.1
 | list l =>
  refine z6 fun K0=>?_
  refine v8 he fun c hc o0=>?_;obtain rfl:=o0
  refine y4 hc fun a ha hw=>?_
  refine v8 hw fun b hb' o0=>?_;obtain rfl:=o0
  obtain ⟨zl,la,vs,rfl,_,_,hl,hxs⟩:=hx
  have h3:=hxs.length
  refine x13 (part_of ha hy :) fun p1 i1 _ k1=>?_
  refine x13 (part_of hb' hz :) fun p2 i2 _ k2=>?_
  refine K0 ?_
  clear K0
  refine wpAny_getItem_list_slice (hl.isList.push _) (Heap.IsSliceOf.new ..) i1 i2 .none (by decide) ?_ (by rw [List.size_toArray,h3];exact Nat.le_trans zl a8)
  rw [slicePick_cut vs p1 p2 (a:=a) (b:=b) (h3▸k1) (h3▸k2)]
  exact hQ _ _ (k.trans (.push (tk:=s.toks))) (L4 (xc.kp k) ((hxs.cut a b).kp k) (Nat.le_trans (D6 ..) zl))
 | _=>exact w9 he
end
end Mine
namespace Mine
open PySem PyProof.Rows PySem.Spec
section
variable {prog:Program} {w:World} {A:Around} {E:Value→Shared→Prop} {s:Shared} {hb:HB} {O:Addr→Prop}
theorem E0 {h:Heap} : ∀ {xs:List PV} {vs:List Value} {l:List (List Nat)},i4? xs=some l→VRs h O xs vs→StrsAre vs (l.map fun x=>⟨x.toArray⟩)∧(∀ x∈l,okS x)∧l.length=xs.length
 | [],vs,l,e,r=>by cases e;rw [show vs=_ from r];exact ⟨.nil,(by intro x h;cases h),rfl⟩
 | x::xs,vs,l,e,⟨v,r',hv,h1,h2⟩=>by
  cases x with
  | str a =>
   refine z6 fun K0=>?_
   refine x12 (Option.map_eq_some_iff.mp e :) fun l' e' o0=>?_;obtain rfl:=o0
   obtain ⟨z,t,rfl⟩:=h1
   refine x03 (E0 e' h2 :) fun q1 q2 q3=>?_
   refine K0 ?_
   clear K0
   rw [hv]
   exact ⟨.cons _ t q1,fun x hx=>by rcases List.mem_cons.mp hx with rfl | hx;exact z;exact q2 x hx,by simp [q3]⟩
  | _=>simp [i4?] at e
theorem strs_of {h:Heap} : ∀ {vs:List Value} {ss:List Str},StrsAre vs ss→(∀ x∈ss,okS x.cps.toList)→VRs h O (ss.map fun x=>PV.str x.cps.toList) vs
 | _,_,.nil,_=>rfl
 | _,_,.cons y t r,k=>⟨_,_,rfl,⟨k y (.head _),t,rfl⟩,strs_of r fun x hx=>k x (.tail _ hx)⟩
theorem lt_cps:∀ (a b:List Nat),ltCps a b=decide (a<b)
 | [],[]=>by simp [ltCps]
 | [],_::_=>by simp [ltCps]
 | _::_,[]=>by simp [ltCps]
 | a::r,b::t=>by
  rw [ltCps,lt_cps r t];by_cases h1:a<b
  ·simp [h1,List.cons_lt_cons_iff]
  ·by_cases h2:a=b
   ·subst h2;simp [List.cons_lt_cons_iff]
   ·simp [h1,h2,List.cons_lt_cons_iff]
theorem H9 (x:List Nat):∀ l:List (List Nat),(insS x l).Perm (x::l)
 | [] => .refl _
 | y::ys=>by
  unfold insS
  split
  ·exact .refl _
  ·exact ((H9 x ys).cons y).trans (.swap x y ys)
theorem F5:∀ l:List (List Nat),(Y2 l).Perm l
 | [] => .refl _
 | x::xs=>(H9 x (Y2 xs)).trans ((F5 xs).cons x)
theorem C3 (x:List Nat):∀ l:List (List Nat),l.Pairwise (fun a b=>¬ b<a)→(insS x l).Pairwise (fun a b=>¬ b<a)
 | [],_=>by simp [insS]
 | y::ys,h=>by
  unfold insS;refine w7 (List.pairwise_cons.mp h :) fun h1 h2=>?_
  split
  ·rename_i hxy;refine List.pairwise_cons.mpr ⟨fun z hz=>?_,h⟩
   rcases List.mem_cons.mp hz with rfl | hz
   ·exact fun q=>List.lt_irrefl _ (List.lt_trans hxy q)
   ·exact fun q=>h1 z hz (List.lt_trans q hxy)
  ·rename_i hxy;refine List.pairwise_cons.mpr ⟨fun z hz=>?_,C3 x ys h2⟩
   rcases List.mem_cons.mp ((H9 x ys).mem_iff.mp hz) with rfl | hz
   ·exact hxy
   ·exact h1 z hz
theorem A4:∀ l:List (List Nat),(Y2 l).Pairwise (fun a b=>¬ b<a)
 | [] => .nil
 | x::xs=>C3 x _ (A4 xs)
theorem F6 {l l':List (List Nat)} (p:l'.Perm l) (h:l'.Pairwise (fun a b=>¬ b<a)):l'=Y2 l :=
 List.Perm.eq_of_pairwise (le:=fun a b=>¬ b<a) (fun a b _ _ h1 h2=>by
  exact List.le_antisymm (List.not_lt.mp h1) (List.not_lt.mp h2)) h (A4 l) (p.trans (F5 l).symm)
theorem B7:∀ (p:Str) (l:List Str),risingS p l=true→(p.cps.toList::l.map (·.cps.toList)).Pairwise (fun a b=>¬ b<a)
 | p,[],_=>by simp
 | p,x::r,h=>by
  unfold risingS at h;rw [Bool.and_eq_true,Bool.not_eq_true',lt_cps,decide_eq_false_iff_not] at h;have ih:=B7 x r h.2;refine List.pairwise_cons.mpr ⟨fun z hz=>?_,ih⟩
  rcases List.mem_cons.mp hz with rfl | hz
  ·exact h.1
  ·have h2:=(List.pairwise_cons.mp ih).1 z hz;exact fun q=>h.1 (List.lt_of_le_of_lt (List.not_lt.mp h2) q)
theorem sortedS_pairs {l:List Str} (h:sortedS l=true):(l.map (·.cps.toList)).Pairwise (fun a b=>¬ b<a):=by
 induction l with
 | nil=>exact .nil
 | cons x r=>exact B7 x r h
noncomputable def valB (xs:List PV) (i:Nat):Int:=match xs[i]? with | some (.bool true)=>1 | _=>0
theorem B3 (f:Nat→Int):∀ n:Nat,preSum f (n + 1)=f 0 + preSum (fun i=>f (i + 1)) n
 | 0=>by simp [preSum]
 | n + 1=>by rw [preSum,B3 f n,preSum];lia
theorem sumB_pre:∀ (xs:List PV) (t:Int),sumB xs=some t→preSum (valB xs) xs.length=t∧∀ x∈xs,∃ b,x = .bool b
 | [],t,h=>by cases h;exact ⟨rfl,fun _ h=>nomatch h⟩
 | x::xs,t,h=>by
  cases x with
  | bool b =>
   refine x12 (Option.map_eq_some_iff.mp h :) fun t' h' o0=>?_;obtain rfl:=o0
   refine w7 (sumB_pre xs t' h' :) fun q1 q2=>?_
   refine ⟨?_,fun x hx=>by rcases List.mem_cons.mp hx with rfl | hx;exact ⟨b,rfl⟩;exact q2 x hx⟩
   rw [List.length_cons,B3,← q1]
   congr 1
   ·cases b <;> rfl
  | _=>exact w9 h
@[elab_as_elim] theorem VRs.one {h:Heap} {args:List PV} {rvs:List Value} {v:PV} {P:List Value→Prop} (e:one1 args=some v) (hx:VRs h O args rvs) (k:∀ rv,VR h O v rv→P [rv]):P rvs:=by
 obtain rfl:=T4 e;obtain ⟨rv,_,rfl,h1,rfl⟩:=hx;exact k rv h1
theorem len_ok {x v:PV} {rv:Value} {Q:Value→Shared→Prop} (he:lenM [x]=some v) (hx:VR s.heap O x rv) (hQ:∀ rv s',Kp hb s s'→VR s'.heap O v rv→Q rv s'):wpAny (model prog w) A (call (.builtin "len") [rv]) Q E s:=by
 cases x with
 | str l =>
  obtain ⟨z,t,rfl⟩:=hx;obtain rfl:=Option.some.inj he
  refine PyProof.Rows.len_str ?_ (hQ _ _ .tok ⟨s.toks + 1,?_⟩)
  ·show ¬ ((l.toArray.size:Nat):Int)≥2 ^ 63;rw [List.size_toArray];exact small_63 z.1
  ·show Value.int ((l.toArray.size:Nat):Int) _=_;rw [List.size_toArray]
 | list l =>
  obtain ⟨z,a,vs,rfl,_,_,hl,hx⟩:=hx;obtain rfl:=Option.some.inj he
  refine PyProof.Rows.len_list hl.isList (hx.small z) (hQ _ _ .tok ⟨s.toks + 1,?_⟩)
  rw [List.size_toArray,hx.length]
 | _=>exact w9 he
theorem sum_ok {l:List PV} {t:Int} {rv:Value} {Q:Value→Shared→Prop} (ht:sumB l=some t) (hA:A.handled=none) (hx:VR s.heap O (.list l) rv) (hQ:∀ rv s',Kp hb s s'→VR s'.heap O (.int t) rv→Q rv s'):wpAny (model prog w) A (call (.builtin "sum") [rv]) Q E s:=by
 obtain ⟨z,a,vs,rfl,_,_,hl,hx⟩:=hx;have hl:=hl.isList;refine w7 (sumB_pre l t ht :) fun q1 q2=>?_
 have h3:=hx.length;have hs:a<s.heap.objs.size:=let ⟨o,ho,_⟩:=hl;Heap.lt_size ho;refine call_sum_walkAnyB (wpAny_pyIter_list hl ⟨_,_,_,_,_,_,_,valB l,rfl,(Walks.list (A:=A.in1) (by rw [Around.in1_handled];exact hA) s.heap.objs.size a (Nat.ne_of_lt hs) vs.toArray).toS,⟨⟨_,Heap.get?_push_size _ rfl,rfl,rfl⟩,hl.push _⟩,fun b hb'=>?_,fun i v hv=>?_,fun s' t' hm=>?_⟩)
 ·rw [Heap.size_push];rcases List.mem_cons.mp hb' with rfl | hb'
  ·exact Nat.lt_succ_self _
  ·rw [List.mem_singleton.mp hb'];exact Nat.lt_succ_of_lt hs
 ·rw [List.getElem?_toArray] at hv;have hi:i<l.length:=h3▸(List.getElem?_eq_some_iff.mp hv).1;refine x12 (hx.get (List.getElem?_eq_getElem hi) :) fun v' e1 e2=>?_
  obtain rfl:=Option.some.inj (hv.symm.trans e1);refine Exists.elim (q2 _ (List.getElem_mem hi) :) fun b eb=>?_
  rw [eb] at e2;refine .inr ⟨b,e2,?_⟩;unfold valB;rw [List.getElem?_eq_getElem hi,eb]
  cases b <;> rfl
 ·rw [List.size_toArray,h3,q1];refine hQ _ _ ?_ ⟨_,rfl⟩;have kk:∀ b o,s.heap.get? b=some o→s'.heap.get? b=some o:=fun b o e=>hm.heap b o (fun q=>Nat.lt_irrefl _ (Heap.lt_size (List.mem_singleton.mp q▸e))) (Heap.get?_push_of_some _ e)
  have eg:s'.gens=s.gens:=hm.gens;exact ⟨.of_keeps kk,hm.os,fun g=>⟨g.hard.soft kk,g.tab.keeps kk,by rw [eg];exact g.gens,g.fdS (.of_keeps kk)⟩⟩
theorem cps_id (l:List (List Nat)):(l.map fun x=>({ cps:=x.toArray } : Str)).map (·.cps.toList)=l:=by
 rw [List.map_map];exact List.map_id' l
theorem sorted_ok {l:List PV} {ls:List (List Nat)} {rv:Value} {Q:Value→Shared→Prop} (h64:l.length<64) (hs:i4? l=some ls) (xc:XC hb O s) (hx:VR s.heap O (.list l) rv) (hQ:∀ rv s',Kp hb s s'→VR s'.heap O (.list ((Y2 ls).map .str)) rv→Q rv s'):wpAny (model prog w) A (call (.builtin "sorted") [rv]) Q E s:=by
 refine z6 fun K0=>?_
 obtain ⟨z,a,vs,rfl,_,_,hl,hx⟩:=hx;refine x03 (E0 hs hx :) fun q1 q2 q3=>?_
 refine K0 ?_;clear K0;refine sorted_strs hl.isList q1 (by rw [hx.length];exact h64) fun out ss' a1 a2 a3=>?_
 refine Exists.elim (sortedAll_at s.heap vs out :) fun e he'=>?_
 have e1:ss'.map (·.cps.toList)=Y2 ls:=by
  refine F6 ?_ (sortedS_pairs a3);have:=a2.map (·.cps.toList)
  rwa [cps_id] at this
 have ok:∀ x∈ss',okS x.cps.toList:=fun x hx'=>by
  refine x12 (List.mem_map.mp (a2.mem_iff.mp hx') :) fun y hy o0=>?_;obtain rfl:=o0
  exact q2 y hy
 have r:=strs_of (O:=O) (h:=sortedAll s.heap vs out) a1 ok;rw [show ss'.map (fun x=>PV.str x.cps.toList)=(Y2 ls).map .str by rw [← e1,List.map_map];rfl] at r
 refine hQ _ _ (.keeps (tk:=s.toks) fun _ _=>sortedAll_old) ⟨?_,_,out.toList,rfl,fun q=>?_,fun q=>?_,⟨e,he'⟩,r⟩
 ·rw [List.length_map,(F5 ls).length_eq,q3];exact z
 ·exact absurd (q▸xc.gs.tab.lt) (Nat.not_lt.mpr (Nat.le_succ _))
 ·refine w7 (xc.ok _ q :) fun _ o0=>?_;refine Exists.elim o0 fun o e=>?_
  exact absurd (Heap.lt_size e) (Nat.not_lt.mpr (Nat.le_succ _))
theorem callB_ok {f:String} {args:List PV} {rvs:List Value} {v:PV} {Q:Value→Shared→Prop} (he:Z1 f args=some v) (hA:A.handled=none) (xc:XC hb O s) (hx:VRs s.heap O args rvs)
  (hQ:∀ rv s',Kp hb s s'→VR s'.heap O v rv→Q rv s'):wpAny (model prog w) A (call (.builtin f) rvs) Q E s:=by
 rcases Z9 he with ⟨rfl,he⟩ | ⟨_,he⟩
 ·refine z6 fun K0=>?_
  refine y4 he fun x h1 h2=>?_
  refine K0 ?_;clear K0;exact hx.one h1 fun rv hx=>len_ok h2 hx hQ
 rcases Z9 he with ⟨rfl,he⟩ | ⟨_,he⟩
 ·refine z6 fun K0=>?_
  refine y4 he fun x h1 he=>?_
  refine y4 he fun l h2 he=>?_
  refine v8 he fun t ht o0=>?_;obtain rfl:=o0
  refine K0 ?_;clear K0;exact hx.one h1 fun rv hx=>sum_ok ht hA (X8 h2▸hx) hQ
 rcases Z9 he with ⟨rfl,he⟩ | ⟨_,he⟩
 ·refine z6 fun K0=>?_
  refine y4 he fun x h1 he=>?_
  refine y4 he fun l h2 he=>?_
  refine v9 he fun h64 he=>?_
  refine v8 he fun t ht o0=>?_;obtain rfl:=o0
  refine K0 ?_;clear K0;exact hx.one h1 fun rv hx=>sorted_ok h64 ht xc (X8 h2▸hx) hQ
 refine z6 fun K0=>?_
 refine v9 he fun o0 he=>?_;obtain rfl:=o0
 refine y4 he fun p h1 he=>?_
 refine y4 he fun l h2 he=>?_
 refine y4 he fun n h3 he=>?_
 refine v9 he fun o0 he=>?_;obtain rfl:=o0
 obtain rfl:=Option.some.inj he;rw [two2_ok h1,a9 h2,tyP_ok h3] at hx;obtain ⟨_,_,rfl,⟨z,t,rfl⟩,_,_,rfl,rfl,rfl⟩:=hx;refine K0 ?_;clear K0;exact call_isinstance_yes (Tx := "str") rfl PyProof.Rows.meta_str isSubtype_str_str (hQ _ _ (.refl ..) rfl)
theorem callT_ok {f:String} {args:List PV} {rvs:List Value} {v:PV} {Q:Value→Shared→Prop} (he:callT f args=some v) (xc:XC hb O s) (hx:VRs s.heap O args rvs)
  (hQ:∀ rv s',Kp hb s s'→VR s'.heap O v rv→Q rv s'):wpAny (model prog w) A (call (.type f) rvs) Q E s:=by
 rcases Z9 he with ⟨rfl,he⟩ | ⟨_,he⟩
 ·refine z6 fun K0=>?_
  refine y4 he fun x h1 he=>?_
  refine v8 he fun l h2 o0=>?_;obtain rfl:=o0
  obtain rfl:=X8 h2;refine K0 ?_;clear K0;refine hx.one h1 fun rv hx=>?_
  refine z6 fun K0=>?_
  obtain ⟨z,a,vs,rfl,ha,hO,hl,hx⟩:=hx;refine x13 hl.isList fun o ho hc o0=>?_;refine Exists.elim o0 fun n hd=>?_
  refine K0 ?_;clear K0;refine call_list_seq a (.inl rfl) ho hc hd (fun h' c' k hn=>?_) (by rw [List.size_toArray,hx.length];exact Nat.le_trans z a8)
  exact hQ _ _ (.keeps (tk:=s.toks) k) ⟨z,_,vs,rfl,xc.off,xc.fresh,⟨_,hn⟩,hx.soft (.of_keeps k)⟩
 refine z6 fun K0=>?_
 refine v9 he fun o0 he=>?_;obtain rfl:=o0
 refine y4 he fun x h1 he=>?_
 refine v8 he fun l h2 o0=>?_;obtain rfl:=o0
 refine K0 ?_;clear K0;refine hx.one h1 fun rv hx=>?_
 rw [show rv = .bool l from (boolP_ok h2▸hx:VR s.heap O (.bool l) rv)];exact call_type_of (Tx := "bool") rfl (by decide) (hQ _ _ (.refl ..) rfl)
end
end Mine
namespace Mine
open PySem PyProof.Rows PySem.Spec
theorem N5 {a b:Str} (h:a.cps.toList=b.cps.toList):a=b:=Str.ext' (Array.toList_inj.mp h)
theorem str_mk (x:Str):(⟨x.cps.toList.toArray⟩:Str)=x:=N5 rfl
theorem M7 (sep:Str):∀ texts:List Str,(Str.join sep texts).cps.toList=u6 sep.cps.toList (texts.map fun x=>x.cps.toList)
 | []=>by simp [Str.join,u6,Str.empty]
 | [x]=>by simp [Str.join,u6]
 | x::y::r=>by
  have ih:=M7 sep (y::r);simp only [Str.join,Str.cps_append,Array.toList_append,List.map_cons,u6] at ih ⊢;rw [ih]
theorem joinS_length (sep:List Nat):∀ l:List (List Nat),(l.map (·.length)).sum≤(u6 sep l).length
 | []=>by simp [u6]
 | [x]=>by simp [u6]
 | x::y::r=>by
  have ih:=joinS_length sep (y::r);simp only [u6,List.map_cons,List.sum_cons,List.length_append] at ih ⊢
  lia
theorem C4 (sep:List Nat):∀ l:List (List Nat),(l.map (·.length)).sum + l.length * sep.length≤(u6 sep l).length + sep.length
 | []=>by simp [u6]
 | [x]=>by simp [u6]
 | x::y::r=>by
  have ih:=C4 sep (y::r);simp only [u6,List.map_cons,List.sum_cons,List.length_append,List.length_cons] at ih ⊢;simp only [Nat.add_mul,Nat.one_mul] at ih ⊢
  lia
theorem joinS_mem {sep:List Nat} {c:Nat} : ∀ {l:List (List Nat)},c∈u6 sep l→c∈sep∨∃ x∈l,c∈x
 | [],h=>by simp [u6] at h
 | [x],h => .inr ⟨x,.head _,h⟩
 | x::y::r,h=>by
  simp only [u6,List.mem_append] at h;rcases h with (h | h) | h
  ·exact .inr ⟨x,.head _,h⟩
  ·exact .inl h
  ·rcases joinS_mem h with h | ⟨z,hz,h⟩
   ·exact .inl h
   ·exact .inr ⟨z,.tail _ hz,h⟩
theorem F8 (c:Nat):∀ l,m3 c l≠[]
 | []=>by simp [m3]
 | x::xs=>by
  unfold m3
  split
  ·simp
  ·split <;> simp
theorem F7 (c:Nat):∀ l r,c ∉ l→m3 c (l ++ r)=(match m3 c r with | []=>[l] | w::ws=>(l ++ w)::ws)
 | [],r,_=>by
  have:=F8 c r;simp only [List.nil_append]
  split <;> simp_all
 | x::xs,r,h=>by
  have hx:¬ x=c:=fun e=>h (by rw [e];exact .head _)
  have ih:=F7 c xs r fun q=>h (.tail _ q)
  simp only [List.cons_append,m3,hx,if_false,ih];have:=F8 c r
  split <;> split <;> simp_all
theorem A5 (c:Nat):∀ l:List (List Nat),l≠[]→(∀ p∈l,c ∉ p)→m3 c (u6 [c] l)=l
 | [],h,_=>absurd rfl h
 | [x],_,h=>by
  have:=F7 c x [] (h x (.head _));simpa [u6,m3] using this
 | x::y::r,_,h=>by
  have ih:=A5 c (y::r) (by simp) fun p hp=>h p (.tail _ hp)
  have:=F7 c x (c::u6 [c] (y::r)) (h x (.head _));simp only [u6,List.append_assoc,List.singleton_append];rw [this];simp only [m3,if_true,ih];simp
theorem A7 (x:Str) (c:Nat):(Txt.split x ⟨#[c]⟩).map (·.cps.toList)=m3 c x.cps.toList:=by
 have h1:=StrLaws.join_split x ⟨#[c]⟩;have h2:=StrLaws.split_free x c;have h3:=M7 ⟨#[c]⟩ (Txt.split x ⟨#[c]⟩);rw [h1] at h3;have ne:(Txt.split x ⟨#[c]⟩)≠[]:=by
  unfold Txt.split
  split
  ·simp
  ·split
   ·simp
   ·intro q;have:=congrArg List.length q;rw [len_partsBetween] at this;simp at this
 rw [h3];exact (A5 c _ (by simpa using ne) fun p hp=>by
  refine x12 (List.mem_map.mp hp :) fun q hq o0=>?_;obtain rfl:=o0
  exact h2 q hq).symm
theorem B6 (c:Nat) (r:List Nat):∀ l,i3 c r l=u6 r (m3 c l)
 | []=>by simp [i3,m3,u6]
 | x::xs=>by
  have ih:=B6 c r xs;have ne:=F8 c xs;unfold i3 m3;by_cases h:x=c
  ·simp only [h,if_true]
   cases hs:m3 c xs with
   | nil=>exact absurd hs ne
   | cons w ws=>rw [ih,hs];simp [u6]
  ·simp only [h,if_false]
   cases hs:m3 c xs with
   | nil=>exact absurd hs ne
   | cons w ws =>
    rw [ih,hs]
    cases ws <;> simp [u6]
theorem replace_replC (x z:Str) (c:Nat):(Txt.replace x ⟨#[c]⟩ z).cps.toList=i3 c z.cps.toList x.cps.toList:=by
 rw [StrLaws.replace_one,M7,A7,B6]
theorem replC_mem {c d:Nat} {r:List Nat} : ∀ {l:List Nat},d∈i3 c r l→d∈r∨d∈l
 | [],h=>by simp [i3] at h
 | x::xs,h=>by
  rw [i3,List.mem_append] at h;rcases h with h | h
  ·split at h
   ·exact .inl h
   ·rw [List.mem_singleton.mp h];exact .inr (.head _)
  ·rcases replC_mem h with h | h
   ·exact .inl h
   ·exact .inr (.tail _ h)
theorem G0:∀ (a b:List Nat),Z3 a b=(decide (a.length≤b.length) && (b.take a.length == a))
 | [],b=>by simp [Z3]
 | a::as,[]=>by simp [Z3]
 | a::as,b::bs=>by
  rw [Z3,G0 as bs];simp only [List.length_cons,List.take_succ_cons];by_cases h:a=b
  ·subst h;simp
  ·have h':¬ b=a:=fun q=>h q.symm
   have e1:(a == b)=false:=beq_eq_false_iff_ne.mpr h;have e2:(b::List.take as.length bs == a::as)=false:=by
    simp only [List.cons_beq_cons,beq_eq_false_iff_ne.mpr h',Bool.false_and]
   rw [e1,e2,Bool.false_and,Bool.and_false]
theorem starts_isPre (x y:Str):Txt.startswith x y=Z3 y.cps.toList x.cps.toList:=by
 unfold Txt.startswith
 rw [G0,StrLaws.subAt_eq];simp [Str.length]
theorem ends_isPre (x y:Str):Txt.endswith x y=Z3 y.cps.toList.reverse x.cps.toList.reverse:=by
 unfold Txt.endswith
 rw [G0,StrLaws.subAt_eq];simp only [List.length_reverse,Nat.zero_add,Str.length,Array.length_toList];by_cases h:y.cps.size≤x.cps.size
 ·rw [decide_eq_true h,Bool.true_and,Bool.true_and];rw [List.take_reverse];have e1:(List.drop (x.cps.size - y.cps.size) x.cps.toList).length=y.cps.size:=by
   rw [List.length_drop,Array.length_toList];lia
  rw [List.take_of_length_le (by lia),Array.length_toList];by_cases q:List.drop (x.cps.size - y.cps.size) x.cps.toList=y.cps.toList
  ·rw [q];simp
  ·rw [beq_eq_false_iff_ne.mpr q,beq_eq_false_iff_ne.mpr fun e=>q (by have:=congrArg List.reverse e;simpa using this)]
 ·rw [decide_eq_false h,Bool.false_and,Bool.false_and]
theorem H7 (c:Nat):∀ l:List Nat,(X2 c l=none∧c ∉ l)∨∃ i,X2 c l=some i∧l[i]?=some c∧∀ k,k<i→l[k]?≠some c
 | [] => .inl ⟨rfl,by simp⟩
 | x::xs=>by
  unfold X2;by_cases h:x=c
  ·exact .inr ⟨0,by simp [h],by simp [h],fun k hk=>absurd hk (by lia)⟩
  ·simp only [h,if_false];rcases H7 c xs with ⟨h1,h2⟩ | ⟨i,h1,h2,h3⟩
   ·exact .inl ⟨by simp [h1],by simp [h2];exact fun q=>h q.symm⟩
   ·refine .inr ⟨i + 1,by simp [h1],by simpa using h2,fun k hk=>?_⟩
    induction k with
    | zero=>simpa using h
    | succ k=>simpa using h3 k (by lia)
theorem at_one (x:Str) (c i:Nat):StrLaws.At x ⟨#[c]⟩ x.length i↔x.cps.toList[i]?=some c:=StrLaws.subAt_one x c i
theorem find_findC (x:Str) (c:Nat):Txt.find x ⟨#[c]⟩=(match X2 c x.cps.toList with | some k=>(k:Int) | none => -1):=by
 unfold Txt.find;rcases StrLaws.occ_head x ⟨#[c]⟩ 1 (Nat.le_refl _) with ⟨h1,h2⟩ | ⟨i,r,h1,h2,h3⟩
 ·rw [h1];rcases H7 c x.cps.toList with ⟨q1,q2⟩ | ⟨i,q1,q2,q3⟩
  ·rw [q1]
  ·exact absurd ((at_one x c i).mpr q2) (h2 i)
 ·rw [h1];rcases H7 c x.cps.toList with ⟨q1,q2⟩ | ⟨k,q1,q2,q3⟩
  ·exact absurd (List.mem_of_getElem? ((at_one x c i).mp h2)) q2
  ·rw [q1];have:i=k:=by
    rcases Nat.lt_trichotomy i k with q | q | q
    ·exact absurd ((at_one x c i).mp h2) (q3 i q)
    ·exact q
    ·exact absurd ((at_one x c k).mpr q2) (h3 k q)
   rw [this]
end Mine
namespace Mine
open PySem PyProof.Rows PySem.Spec
structure MethW (T:String) (name:Str) (id:String):Prop where
 pa:PlainAttrs T
 slot:PySem.Slot T name id
 hty:typeOf (.builtin id)=pure (.type "method_descriptor")
noncomputable def noDict (h:Heap) (rv:Value):Prop:=∀ a,rv = .ref a→∃ ob,h.get? a=some ob∧ob.dict=none
theorem noDict_str {h:Heap} {x:Str} {t:Tok} : noDict h (.str x t):=fun _ e=>nomatch e
section
variable {prog:Program} {w:World} {A:Around} {E:Value→Shared→Prop} {s:Shared} {hb:HB} {O:Addr→Prop}
theorem vals_of:∀ {vs:List Value} {ss:List Str},StrsAre vs ss→∃ l:List (Str × Tok),vs=strValues l∧l.map (·.1)=ss
 | _,_,.nil=>⟨[],rfl,rfl⟩
 | _,_,.cons y t r=>let ⟨l,e1,e2⟩:=vals_of r;⟨(y,t)::l,by rw [e1];rfl,by rw [← e2];rfl⟩
theorem of_vals:∀ (l:List (Str × Tok)),StrsAre (strValues l) (l.map (·.1))
 | [] => .nil
 | (y,t)::r => .cons y t (of_vals r)
theorem map_mk (ls:List (List Nat)):(ls.map fun x=>({ cps:=x.toArray } : Str)).map (fun x=>x.cps.toList)=ls:=by
 rw [List.map_map]
 conv=>rhs;rw [← List.map_id ls]
 exact List.map_congr_left fun x _=>by simp
theorem join_ok {sep:List Nat} {xs:List PV} {l:List (List Nat)} {rx ry:Value} {Q:Value→Shared→Prop} (hs:i4? xs=some l) (hz:(u6 sep l).length≤small) (hx:VR s.heap O (.str sep) rx) (hy:VR s.heap O (.list xs) ry)
  (hQ:∀ rv s',Kp hb s s'→VR s'.heap O (.str (u6 sep l)) rv→Q rv s'):wpAny (model prog w) A (call (.builtin "str.join") [rx,ry]) Q E s:=by
 refine z6 fun K0=>?_
 obtain ⟨z,t,rfl⟩:=hx;obtain ⟨_,a,vs,rfl,_,_,hl,hxs⟩:=hy;refine x03 (E0 hs hxs :) fun q1 q2 q3=>?_
 refine x12 (vals_of q1 :) fun lv o0 e2=>?_;obtain rfl:=o0
 refine K0 ?_;clear K0;have h2:small=1048576:=rfl;have hlen:=z.1;refine SC.join hl.isList e2 ?_ fun t' k=>?_
 ·unfold JoinOk;rw [StrLaws.joinTotal];have e3:((l.map fun x=>({ cps:=x.toArray } : Str)).map (·.length))=l.map (·.length):=by
   rw [List.map_map];exact List.map_congr_left fun x _=>by simp [Str.length]
  rw [e3,List.length_map];have h3:=C4 sep l;have e4:(⟨sep.toArray⟩:Str).length=sep.length:=by simp [Str.length]
  rw [e4];unfold Builtin.Str.tooLong sizeLine;simp only [Bool.not_eq_true',decide_eq_false_iff_not]
  lia
 ·refine hQ _ _ .tok ⟨⟨hz,fun c hc=>?_⟩,t',?_⟩
  ·rcases joinS_mem hc with h | ⟨x,hx,h⟩
   ·exact z.2 c h
   ·exact (q2 x hx).2 c h
  ·congr 1;refine N5 ?_;show (Builtin.Str.glued _ _).cps.toList=_;rw [StrLaws.glued_eq_join,M7,map_mk]
theorem A6 (c:Nat):∀ l:List Nat,(m3 c l).length≤l.length + 1
 | []=>by simp [m3]
 | x::xs=>by
  have ih:=A6 c xs;unfold m3
  split
  ·simp;omega
  ·split
   ·simp
   ·rename_i h;rw [h] at ih;simp at ih ⊢;omega
theorem J1 {c:Nat} : ∀ {l p:List Nat} {d:Nat},p∈m3 c l→d∈p→d∈l
 | [],p,d,hp,hd=>by simp [m3] at hp;rw [hp] at hd;cases hd
 | x::xs,p,d,hp,hd=>by
  unfold m3 at hp
  split at hp
  ·rcases List.mem_cons.mp hp with rfl | hp
   ·cases hd
   ·exact .tail _ (J1 hp hd)
  ·split at hp
   ·rw [List.mem_singleton.mp hp] at hd;rw [List.mem_singleton.mp hd];exact .head _
   ·rename_i w ws h;rcases List.mem_cons.mp hp with rfl | hp
    ·rcases List.mem_cons.mp hd with rfl | hd
     ·exact .head _
     ·exact .tail _ (J1 (l:=xs) (p:=w) (by rw [h];exact .head _) hd)
    ·exact .tail _ (J1 (l:=xs) (by rw [h];exact .tail _ hp) hd)
theorem J0 {c:Nat} : ∀ {l p:List Nat},p∈m3 c l→p.length≤l.length
 | [],p,hp=>by simp [m3] at hp;simp [hp]
 | x::xs,p,hp=>by
  unfold m3 at hp
  split at hp
  ·rcases List.mem_cons.mp hp with rfl | hp
   ·simp
   ·have:=J0 hp;simp;lia
  ·split at hp
   ·rw [List.mem_singleton.mp hp];simp
   ·rename_i w ws h;rcases List.mem_cons.mp hp with rfl | hp
    ·have:=J0 (l:=xs) (p:=w) (by rw [h];exact .head _);simp;lia
    ·have:=J0 (l:=xs) (p:=p) (by rw [h];exact .tail _ hp);simp;lia
theorem split_ok {l:List Nat} {c:Nat} {rx ry:Value} {Q:Value→Shared→Prop} (hz:l.length<small) (xc:XC hb O s) (hx:VR s.heap O (.str l) rx) (hy:VR s.heap O (.str [c]) ry)
  (hQ:∀ rv s',Kp hb s s'→VR s'.heap O (.list ((m3 c l).map .str)) rv→Q rv s'):wpAny (model prog w) A (call (.builtin "str.split") [rx,ry]) Q E s:=by
 obtain ⟨z,t,rfl⟩:=hx;obtain ⟨z2,u,rfl⟩:=hy;have h2:small=1048576:=rfl;have e0:(⟨l.toArray⟩:Str).length=l.length:=by simp [Str.length]
 have e24:sizeLine=16777216:=by decide
 have key:∀ (lv:List (Str × Tok)) (k:Nat),lv.map (·.1)=Txt.split ⟨l.toArray⟩ ⟨#[c]⟩→Q (.ref s.heap.objs.size) { s with heap:=s.heap.push { cls := .type "list",data := .seq (strValues lv).toArray },toks:=k } := fun lv k e1=>by
  have e2:(lv.map (·.1)).map (fun x=>x.cps.toList)=m3 c l:=by rw [e1,A7]
  have r:VRs s.heap O ((m3 c l).map .str) (strValues lv):=by
   have:=strs_of (h:=s.heap) (O:=O) (of_vals lv) fun x hx=>by
    have hm:x.cps.toList∈m3 c l:=by rw [← e2];exact List.mem_map_of_mem hx
    exact ⟨Nat.le_trans (J0 hm) z.1,fun d hd=>z.2 d (J1 hm hd)⟩
   rw [← e2,List.map_map];exact this
  refine hQ _ _ .push (L4 xc r ?_);rw [List.length_map];exact Nat.le_trans (A6 c l) hz
 have hlen:=StrLaws.occ_length_le (⟨l.toArray⟩:Str) ⟨#[c]⟩ 0 (⟨l.toArray⟩:Str).length ((⟨l.toArray⟩:Str).length + 1);have hn:(Builtin.Str.partsBetween (⟨l.toArray⟩:Str) (Builtin.Str.occurrences ⟨l.toArray⟩ ⟨#[c]⟩ 0 (⟨l.toArray⟩:Str).length ((⟨l.toArray⟩:Str).length + 1)) (⟨#[c]⟩:Str).length).length≤sizeLine:=by
  rw [len_partsBetween];lia
 cases h1:(decide ((⟨l.toArray⟩:Str).length<(⟨#[c]⟩:Str).length) || decide (Builtin.Str.strKind ⟨l.toArray⟩<Builtin.Str.strKind ⟨#[c]⟩))
 ·cases hf:(Builtin.Str.occurrences (⟨l.toArray⟩:Str) ⟨#[c]⟩ 0 (⟨l.toArray⟩:Str).length ((⟨l.toArray⟩:Str).length + 1)).isEmpty
  ·refine call_meets F.slot_str_split (typeIs_str _ _ _) F.entry_str_split (F.args_str_split_2 _ _) (meets_str_split_sep _ _ t u h1 rfl hf (by lia) hn) ?_;rw [strsFrom_eq];exact key (numbered s.toks _) _ ((numbered_texts _ _).trans ((if_neg (ne_true_of_eq_false h1)).trans (if_neg (ne_true_of_eq_false hf))).symm)
  ·exact call_meets F.slot_str_split (typeIs_str _ _ _) F.entry_str_split (F.args_str_split_2 _ _) (meets_str_split_not_found _ _ t u h1 rfl hf)
    (key [(_,t)] s.toks ((if_neg (ne_true_of_eq_false h1)).trans (if_pos hf)).symm)
 ·exact call_meets F.slot_str_split (typeIs_str _ _ _) F.entry_str_split (F.args_str_split_2 _ _) (meets_str_split_cannot_occur _ _ t u h1)
   (key [(_,t)] s.toks (if_pos h1).symm)
theorem asciiS {l:List Nat} (h:g0 l=true):∀ c∈(⟨l.toArray⟩:Str).cps.toList,c<128:=fun c hc=>by
 have:=List.all_eq_true.mp h c (by simpa using hc);exact of_decide_eq_true this
theorem up_eq:up1=upC:=by funext c;unfold up1 upC;rfl
theorem lo_eq:lo1=lowC:=by funext c;unfold lo1 lowC;rfl
theorem lenS (l:List Nat):(⟨l.toArray⟩:Str).length=l.length:=by simp [Str.length]
theorem upper_ok {l:List Nat} {rx:Value} {Q:Value→Shared→Prop} (ha:g0 l=true) (hx:VR s.heap O (.str l) rx)
  (hQ:∀ rv s',Kp hb s s'→VR s'.heap O (.str (l.map upC)) rv→Q rv s'):wpAny (model prog w) A (call (.builtin "str.upper") [rx]) Q E s:=by
 obtain ⟨z,t,rfl⟩:=hx;have h2:small=1048576:=rfl;have h1:=z.1;have e:=upper_ascii (asciiS ha);refine SC.upper ?_ ?_
 ·rw [e];show Builtin.Str.tooLong (Array.map up1 l.toArray).size=false;rw [Array.size_map,List.size_toArray];unfold Builtin.Str.tooLong sizeLine;exact decide_eq_false (by omega)
 ·refine hQ _ _ .tok ⟨⟨by rw [List.length_map];exact z.1,fun c hc=>?_⟩,s.toks,?_⟩
  ·refine x12 (List.mem_map.mp hc :) fun d hd o0=>?_;obtain rfl:=o0
   have:=z.2 d hd;unfold upC;split <;> omega
  ·rw [e,up_eq];congr 1;exact N5 (by simp)
theorem lower_ok {l:List Nat} {rx:Value} {Q:Value→Shared→Prop} (ha:g0 l=true) (hx:VR s.heap O (.str l) rx)
  (hQ:∀ rv s',Kp hb s s'→VR s'.heap O (.str (l.map lowC)) rv→Q rv s'):wpAny (model prog w) A (call (.builtin "str.lower") [rx]) Q E s:=by
 obtain ⟨z,t,rfl⟩:=hx;have h2:small=1048576:=rfl;have h1:=z.1;have e:=lower_ascii (asciiS ha);have up:∀ c∈l,c<128:=fun c hc=>asciiS ha c (hc)
 refine SC.lower ?_ ?_
 ·rw [e];show Builtin.Str.tooLong (Array.map lo1 l.toArray).size=false;rw [Array.size_map,List.size_toArray];unfold Builtin.Str.tooLong sizeLine;exact decide_eq_false (by lia)
 ·refine hQ _ _ .tok ⟨⟨by rw [List.length_map];exact z.1,fun c hc=>?_⟩,s.toks,?_⟩
  ·refine x12 (List.mem_map.mp hc :) fun d hd o0=>?_;obtain rfl:=o0
   have:=up d hd;unfold lowC;split <;> lia
  ·rw [e,lo_eq];congr 1;exact N5 (by simp)
theorem starts_ok {l p:List Nat} {rx ry:Value} {Q:Value→Shared→Prop} (hx:VR s.heap O (.str l) rx) (hy:VR s.heap O (.str p) ry)
  (hQ:∀ rv s',Kp hb s s'→VR s'.heap O (.bool (Z3 p l)) rv→Q rv s'):wpAny (model prog w) A (call (.builtin "str.startswith") [rx,ry]) Q E s:=by
 obtain ⟨z,t,rfl⟩:=hx;obtain ⟨z2,u,rfl⟩:=hy;exact SC.startswith (by rw [starts_isPre];exact hQ _ _ (.refl ..) rfl)
theorem ends_ok {l p:List Nat} {rx ry:Value} {Q:Value→Shared→Prop} (hx:VR s.heap O (.str l) rx) (hy:VR s.heap O (.str p) ry)
  (hQ:∀ rv s',Kp hb s s'→VR s'.heap O (.bool (Z3 p.reverse l.reverse)) rv→Q rv s'):wpAny (model prog w) A (call (.builtin "str.endswith") [rx,ry]) Q E s:=by
 obtain ⟨z,t,rfl⟩:=hx;obtain ⟨z2,u,rfl⟩:=hy;exact SC.endswith (by rw [ends_isPre];exact hQ _ _ (.refl ..) rfl)
theorem find_ok {l:List Nat} {c:Nat} {rx ry:Value} {Q:Value→Shared→Prop} (hx:VR s.heap O (.str l) rx) (hy:VR s.heap O (.str [c]) ry)
  (hQ:∀ rv s',Kp hb s s'→VR s'.heap O (.int (match X2 c l with | some k=>(k:Int) | none => -1)) rv→Q rv s'):wpAny (model prog w) A (call (.builtin "str.find") [rx,ry]) Q E s:=by
 obtain ⟨z,t,rfl⟩:=hx;obtain ⟨z2,u,rfl⟩:=hy;refine SC.find ?_;have e:Txt.find ⟨l.toArray⟩ ⟨[c].toArray⟩=_:=find_findC ⟨l.toArray⟩ c;rw [e];exact hQ _ _ .tok ⟨_,rfl⟩
theorem occ_empty (x:Str) (c j:Nat):Builtin.Str.occurrences x ⟨#[c]⟩ j j 1=[]:=by
 rw [StrLaws.occ_eq];have:j + 1 - j=1:=by lia
 rw [this];have e:List.range' j 1=[j]:=rfl;rw [e,List.forIn_cons];have h:¬ (j + (⟨#[c]⟩:Str).length≤j):=by simp [Str.length]
 simp [StrLaws.occBody,h]
theorem find4_ok {l:List Nat} {c:Nat} {i:Int} {rx ry ri rj:Value} {Q:Value→Shared→Prop} (h0:0≤i) (h1:i≤(l.length:Int)) (hx:VR s.heap O (.str l) rx) (hy:VR s.heap O (.str [c]) ry) (hi:VR s.heap O (.int i) ri) (hj:VR s.heap O (.int i) rj)
  (hQ:∀ rv s',Kp hb s s'→VR s'.heap O (.int (-1)) rv→Q rv s'):wpAny (model prog w) A (call (.builtin "str.find") [rx,ry,ri,rj]) Q E s:=by
 obtain ⟨z,t,rfl⟩:=hx;obtain ⟨z2,u,rfl⟩:=hy;obtain ⟨v,rfl⟩:=hi;obtain ⟨v',rfl⟩:=hj;obtain ⟨n,rfl⟩:=Int.eq_ofNat_of_zero_le h0;have hn:n≤l.length:=by lia
 refine call_gives (m := .int (-1)) F.slot_str_find (typeIs_str _ _ _) F.entry_str_find (F.args_str_find_4 _ _ _ _) ?_ (hQ _ _ .tok ⟨_,rfl⟩);show Gives (match Builtin.Str.occurrences (⟨l.toArray⟩:Str) ⟨#[c]⟩ (fromIndex (⟨l.toArray⟩:Str).length (n:Int)) (min (fromIndex (⟨l.toArray⟩:Str).length (n:Int)) (⟨l.toArray⟩:Str).length) 1 with
  | k::_=>retInt k | []=>(do rule "str.find.not-found";retInt (-1))) _
 have e1:fromIndex (⟨l.toArray⟩:Str).length (n:Int)=n:=by
  unfold fromIndex;have:¬ (n:Int)<0:=by lia
  rw [if_neg this];lia
 have e2:min n (⟨l.toArray⟩:Str).length=n:=by rw [lenS];lia
 rw [e1,e2,occ_empty];exact .rule (.of_eq rfl)
theorem index_ok {xs:List PV} {x:PV} {k:Nat} {rx ry:Value} {Q:Value→Shared→Prop} (he:U4 x xs=some k) (hu:A.units + 64<cLine) (hx:VR s.heap O (.list xs) rx) (hy:VR s.heap O x ry)
  (hQ:∀ rv s',Kp hb s s'→VR s'.heap O (.int k) rv→Q rv s'):wpAny (model prog w) A (call (.builtin "list.index") [rx,ry]) Q E s:=by
 unfold U4 at he
 split at he
 ·rename_i hp;simp only [Bool.and_eq_true] at hp;refine z6 fun K0=>?_
  refine Exists.elim (Q1 8 x ry hy hp.1 :) fun as ra=>?_
  have la:=P9 8 x ry hy hp.1;obtain ⟨zx,a,vs,rfl,_,_,⟨n,ho⟩,hxs⟩:=hx;refine Exists.elim (K3 8 xs vs hxs hp.2 :) fun bs rb=>?_
  have lb:=G2 8 xs vs hxs hp.2;have l2:=lb.2;have hmin:min (PyData.depthAll (m8 xs)) (l7 x).depth≤8:=Nat.le_trans (Nat.min_le_left _ _) l2;have hm:=SeqAt.readsAll_map (m8 xs) vs bs lb.1 rb;have hlen:=hxs.length;have h2:small=1048576:=rfl;refine x12 (List.findIdx?_eq_some_iff_getElem.mp he :) fun hk hit hno=>?_
  refine K0 ?_;clear K0;have hpl:(m8 xs).length=vs.length:=by rw [← hm,List.length_map]
  have at_:∀ (j:Nat) (hj:j<vs.length) (hj':j<(m8 xs).length),SeqAt.readOf s.heap vs[j]=(m8 xs)[j]:=fun j hj hj'=>by
   have e:=List.getElem_map (l:=vs) (SeqAt.readOf s.heap) (i:=j) (h:=by simpa using hj);rw [← e];congr 1
  refine call_meets PySem.F.slot_list_index ⟨_,ho,rfl⟩ PySem.F.entry_list_index (PySem.F.args_list_index_2 _ _)
   (SeqAt.list_indexAt a vs.toArray n none #[] ry (fun y=>PyData.eqv (SeqAt.readOf s.heap y) (l7 x)) k (by simpa [← hpl] using hk) (by omega) ?_ ?_) ⟨ho,SeqAt.items_eqAt (rb) ra lb.1 la.1 (by lia),hQ _ _ .tok ⟨_,rfl⟩⟩
  ·show PyData.eqv (SeqAt.readOf s.heap vs[k]) (l7 x)=true;rw [at_ k (by omega) hk];exact hit
  ·intro j hj hlt;show PyData.eqv (SeqAt.readOf s.heap vs[j]) (l7 x)=false;have hj':j<(m8 xs).length:=by rw [hpl];simpa using hj
   rw [at_ j (hj) hj'];exact Bool.eq_false_iff.mpr (hno j hlt)
 ·exact w9 he
theorem repl_ok {l r:List Nat} {c:Nat} {t u v:Tok} {Q:Value→Shared→Prop} (z:okS l) (zr:∀ d∈r,d<1114112) (hz:(i3 c r l).length≤small) (h1:l.length≤65536) (h2:r.length≤14) (hne:([c]:List Nat)≠r) (hu:u≠0) (hv:v≠0) (huv:u≠v)
  (hQ:∀ rv s',Kp hb s s'→VR s'.heap O (.str (i3 c r l)) rv→Q rv s'):wpAny (model prog w) A (call (.builtin "str.replace") [.str ⟨l.toArray⟩ t,.str ⟨#[c]⟩ u,.str ⟨r.toArray⟩ v]) Q E s:=by
 refine SC.replaceW hu hv huv ?_ (by rw [lenS];lia) (by rw [lenS];exact h2) fun t' k=>hQ _ _ .tok ⟨⟨hz,fun d hd=>?_⟩,t',?_⟩
 ·refine beq_eq_false_iff_ne.mpr fun q=>hne ?_
  injection q with q;simpa using congrArg Array.toList q
 ·rcases replC_mem hd with h | h
  ·exact zr d h
  ·exact z.2 d h
 ·congr 1;refine N5 ?_;rw [replace_replC]
end
end Mine
namespace Mine
open PySem PyProof.Rows PySem.Spec
noncomputable def Z2:Array Nat := #[14,8,1,2,4294967295,1,1,46,0,16,46,24,9,1,4294967295,13,4,8,0,0,1,6,5,1]
structure AtTry (T:Array Nat) (s:Nat) (m:Sre.M):Prop where
 code:m.code=Z2
 text:m.text=T
 lim:m.lim=T.size
 last:m.lastStart=T.size
 frames:∃ f,m.frames=[f]∧f.wait = .nextStart∧f.pos=s∧f.pc=9∧f.kept = {}
 pc:m.pc=9
 pos:m.pos=s
 ans:m.answer=none
 out:m.outcome=none
 wt:m.weight≤1
theorem Q4 {m:Sre.M} (h:m.outcome=none) (k:Nat):Sre.M.runFor (k + 1) m=Sre.M.runFor k m.step:=by
 show (if m.outcome.isSome=true then m else Sre.M.runFor k m.step)=_;rw [h];rfl
theorem lit_no {T:Array Nat} {s:Nat} {m:Sre.M} (h:AtTry T s m) (hc:s≥T.size∨T.getD s 0≠46):∃ seen,m.step = { m with seen,answer:=some false } := by
 have h1:m.pc<m.code.size:=by rw [h.pc,h.code];decide
 have h2:Sre.ops[m.word 0]?=some .LITERAL:=by unfold Sre.M.word;rw [h.pc,h.code];rfl
 have h0:m.outcome.isSome=false:=by rw [h.out];rfl
 unfold Sre.M.step;rw [if_neg (by rw [h0];decide),h.ans];rw [if_pos h1];unfold Sre.M.exec;rw [h2];dsimp only;by_cases hs:m.pos≥m.lim
 ·rw [if_pos hs];exact ⟨m.seen.add (m.word 0),rfl⟩
 ·rw [if_neg hs];have hc:T.getD s 0≠46:=by
   rcases hc with hc | hc
   ·rw [h.pos,h.lim] at hs;exact absurd hc hs
   ·exact hc
  have h3:∀ sn,Sre.accepts m.code m.pc (m.text.getD m.pos 0) sn = .ok (false,sn):=by
   intro sn;rw [h.pc,h.code,h.text,h.pos];have:(T.getD s 0 == 46)=false:=beq_eq_false_iff_ne.mpr hc;show Except.ok (T.getD s 0 == 46,sn)=_;rw [this]
  rw [h3];exact ⟨m.seen.add (m.word 0),rfl⟩
theorem lit_yes {T:Array Nat} {s:Nat} {m:Sre.M} (h:AtTry T s m) (hs:s<T.size) (hc:T.getD s 0=46):∃ seen,m.step = { m with seen,pc:=11,pos:=s + 1 } := by
 have h1:m.pc<m.code.size:=by rw [h.pc,h.code];decide
 have h2:Sre.ops[m.word 0]?=some .LITERAL:=by unfold Sre.M.word;rw [h.pc,h.code];rfl
 have h0:m.outcome.isSome=false:=by rw [h.out];rfl
 unfold Sre.M.step;rw [if_neg (by rw [h0];decide),h.ans];rw [if_pos h1];unfold Sre.M.exec;rw [h2];dsimp only;rw [if_neg (by rw [h.pos,h.lim];lia)];have h3:∀ sn,Sre.accepts m.code m.pc (m.text.getD m.pos 0) sn = .ok (true,sn):=by
  intro sn;rw [h.pc,h.code,h.text,h.pos];have:(T.getD s 0 == 46)=true:=by rw [hc];rfl
  show Except.ok (T.getD s 0 == 46,sn)=_;rw [this]
 have h4:Sre.itemWidth m.code m.pc=2:=by rw [h.pc,h.code];rfl
 rw [h3];rw [h4,h.pc,h.pos];exact ⟨m.seen.add (m.word 0),by rw [h.ans]⟩
theorem rep_no {T:Array Nat} {p:Nat} {m:Sre.M} (hcode:m.code=Z2) (htext:m.text=T) (hpc:m.pc=11) (hpos:m.pos=p) (hlim:m.lim=T.size) (hans:m.answer=none) (hout:m.outcome=none)
  (hd:p<T.size→Sre.isDigit (T.getD p 0)=false):∃ seen,m.step = { m with seen,answer:=some false } := by
 have h1:m.pc<m.code.size:=by rw [hpc,hcode];decide
 have h2:Sre.ops[m.word 0]?=some .REPEAT_ONE:=by unfold Sre.M.word;rw [hpc,hcode];rfl
 have h0:m.outcome.isSome=false:=by rw [hout];rfl
 unfold Sre.M.step;rw [if_neg (by rw [h0];decide),hans];dsimp only;refine if_pos h1▸?_;unfold Sre.M.exec;refine h2▸?_;dsimp only;generalize hm2:({ m with seen:=m.seen.add (m.word 0) } : Sre.M)=m2;have e2:m2.word 2=1:=by subst hm2;unfold Sre.M.word;show m.code.getD (m.pc + 2) 0=1;rw [hpc,hcode];rfl
 have e3:m2.word 3=4294967295:=by subst hm2;unfold Sre.M.word;show m.code.getD (m.pc + 3) 0=_;rw [hpc,hcode];rfl
 rw [e2,e3];by_cases hr:((1:Nat):Int)>(m.lim:Int) - m.pos
 ·refine if_pos hr▸?_;exact ⟨m.seen.add (m.word 0),by subst hm2;rfl⟩
 ·refine if_neg hr▸?_;have hp:p<T.size:=by rw [hlim,hpos] at hr;lia
  have hrun:∀ n sn,∃ sn',Sre.run m.code m.text (m.pc + 4) (n + 1) m.pos 0 sn = .ok (0,sn'):=by
   intro n sn;rw [hcode,htext,hpc,hpos,Sre.run];have ha:∃ sn',Sre.accepts Z2 (11 + 4) (T.getD p 0) sn = .ok (false,sn'):=by
    have hdd:=hd hp;generalize T.getD p 0=ch at hdd;refine ⟨((sn.add 8).add (55 + 0)).add 0,?_⟩
    ·show Sre.inSet Z2 ch (22 + 1 + 1) 17 true sn=_;show (Sre.category 0 ch >>= fun b=>if b=true then pure (true,_) else Sre.inSet Z2 ch (22 + 1) (17 + 2) true _)=_
     have hcat:Sre.category 0 ch = .ok false:=by
      show (Except.ok (Sre.isDigit ch != (0 % 2 == 1)):Except String Bool)=_;rw [hdd];rfl
     refine hcat▸?_;show Sre.inSet Z2 ch (22 + 1) (17 + 2) true _=_;rfl
   obtain ⟨sn',ha⟩:=ha;refine ha▸?_;exact ⟨sn',rfl⟩
  obtain ⟨k,hk⟩:∃ k,min (if false=true then 1 else 4294967295) ((m.lim:Int) - m.pos).toNat=k + 1:=⟨min 4294967295 ((m.lim:Int) - m.pos).toNat - 1,by simp only [Bool.false_eq_true,if_false];lia⟩;refine hk▸?_;obtain ⟨sn',h3⟩:=hrun k ((m.seen.add (m.word 0)).add (m2.word 4));refine h3▸?_;dsimp only;rw [if_pos (by decide)];exact ⟨sn',rfl⟩
structure AtFail (T:Array Nat) (s:Nat) (m:Sre.M):Prop where
 code:m.code=Z2
 text:m.text=T
 lim:m.lim=T.size
 last:m.lastStart=T.size
 frames:∃ f,m.frames=[f]∧f.wait = .nextStart∧f.pos=s∧f.pc=9∧f.kept = {}
 ans:m.answer=some false
 out:m.outcome=none
 wt:m.weight≤1
theorem E6 {m':Sre.M} (s:Nat) (b:Bool) (hc:m'.code=Z2):m'.attemptFrom s b=m'.attemptAt s b:=by
 unfold Sre.M.attemptFrom;have:m'.hasFirstSet=false:=by unfold Sre.M.hasFirstSet;rw [hc];rfl
 rw [this];rfl
theorem fail_next {T:Array Nat} {s:Nat} {m:Sre.M} (h:AtFail T s m) (hs:s<T.size):AtTry T (s + 1) m.step:=by
 refine z6 fun K0=>?_
 refine x15 h.frames fun f hf f1 f2 f3 f4=>?_
 refine K0 ?_;clear K0;have h0:m.outcome.isSome=false:=by rw [h.out];rfl
 have hw:=h.wt;have e:m.step=Sre.M.attemptFrom { m with answer:=none,frames:=[],weight:=m.weight - (1 + f.kept.marks.size),pc:=f.pc,pos:=f.pos,outermost:=f.outermost,mustAdvance:=false } (f.pos + 1) false:=by
  unfold Sre.M.step;rw [if_neg (by rw [h0];decide),h.ans,hf];dsimp only;unfold Sre.M.resume;dsimp only;rw [f1];dsimp only;rw [if_neg (by decide),if_pos (by rw [f2,h.last];exact hs)]
 rw [e];rw [E6 _ _ (by exact h.code)];unfold Sre.M.attemptAt Sre.M.attempt;have hk:({ wait:=Sre.Wait.nextStart,pc:=f.pc,pos:=f.pos + 1,outermost:=false } : Sre.Frame).kept.marks.size=0:=rfl;have hk2:f.kept.marks.size=0:=by rw [f4];rfl
 dsimp only;rw [if_neg (by rw [hk2];show ¬ (m.weight - (1 + 0) + 1 + 0>16777216);omega)];refine ⟨h.code,h.text,h.lim,h.last,⟨_,rfl,rfl,by rw [f2],f3,rfl⟩,f3,by rw [f2],rfl,h.out,?_⟩;show m.weight - (1 + f.kept.marks.size) + 1 + 0≤1;rw [hk2];omega
theorem fail_last {T:Array Nat} {s:Nat} {m:Sre.M} (h:AtFail T s m) (hs:T.size≤s):m.step.step.outcome=some .failed∧m.step.outcome=none:=by
 refine z6 fun K0=>?_
 refine x15 h.frames fun f hf f1 f2 f3 f4=>?_
 refine K0 ?_;clear K0;have h0:m.outcome.isSome=false:=by rw [h.out];rfl
 have e:m.step=Sre.M.say { m with answer:=none,frames:=[],weight:=m.weight - (1 + f.kept.marks.size),pc:=f.pc,pos:=f.pos,outermost:=f.outermost } false:=by
  unfold Sre.M.step;rw [if_neg (by rw [h0];decide),h.ans,hf];dsimp only;unfold Sre.M.resume;dsimp only;rw [f1];dsimp only;rw [if_neg (by decide),if_neg (by rw [f2,h.last];lia)]
 rw [e];refine ⟨?_,h.out⟩;unfold Sre.M.step Sre.M.say;rw [if_neg (by rw [h0];decide)];rfl
theorem try_fail {T:Array Nat} {s:Nat} {m:Sre.M} (h:AtTry T s m) (hd:∀ p,p<T.size→Sre.isDigit (T.getD p 0)=false):∃ n m',n≤2∧(∀ k,Sre.M.runFor (k + n) m=Sre.M.runFor k m')∧AtFail T s m':=by
 by_cases hc:s≥T.size∨T.getD s 0≠46
 ·refine Exists.elim (lit_no h hc :) fun sn e=>?_
  refine ⟨1,m.step,by decide,fun k=>Q4 h.out k,?_⟩
  rw [e];exact ⟨h.code,h.text,h.lim,h.last,h.frames,rfl,h.out,h.wt⟩
 ·have hs:s<T.size:=Nat.lt_of_not_le fun q=>hc (.inl q)
  have h46:T.getD s 0=46:=Decidable.byContradiction fun q=>hc (.inr q)
  refine z6 fun K0=>?_
  refine Exists.elim (lit_yes h hs h46 :) fun sn e=>?_
  refine Exists.elim (rep_no (T:=T) (p:=s + 1) (m := { m with seen:=sn,pc:=11,pos:=s + 1 }) h.code h.text rfl rfl h.lim h.ans h.out (hd (s + 1)) :) fun sn' e'=>?_
  refine K0 ?_;clear K0;refine ⟨2,m.step.step,by decide,fun k=>?_,?_⟩
  ·rw [show k + 2=(k + 1) + 1 from rfl,Q4 h.out,Q4 (by rw [e];exact h.out)]
  ·rw [e,e'];exact ⟨h.code,h.text,h.lim,h.last,h.frames,rfl,h.out,h.wt⟩
theorem run_fail {T:Array Nat} (hd:∀ p,p<T.size→Sre.isDigit (T.getD p 0)=false):∀ (d s:Nat) (m:Sre.M),T.size - s=d→AtTry T s m→∃ n,n≤3 * d + 4∧(Sre.M.runFor n m).outcome=some .failed:=by
 intro d
 induction d with
 | zero =>
  intro s m hs h
  refine z6 fun K0=>?_
  refine x23 (try_fail h hd :) fun n m' hn hr hf=>?_
  refine K0 ?_
  clear K0
  have hl:=fail_last hf (Nat.le_of_sub_eq_zero hs)
  refine ⟨2 + n,Nat.add_le_add_left hn 2,?_⟩
  rw [hr,show 2=1 + 1 from rfl,Q4 hf.out,show 1=0 + 1 from rfl,Q4 hl.2]
  exact hl.1
 | succ d ih =>
  intro s m hs h
  refine z6 fun K0=>?_
  refine x23 (try_fail h hd :) fun n m' hn hr hf=>?_
  refine x12 (ih (s + 1) m'.step (by rw [Nat.sub_add_eq,hs];rfl) (fail_next hf (Nat.lt_of_sub_eq_succ hs)) :) fun n2 hn2 hr2=>?_
  refine K0 ?_
  clear K0
  refine ⟨n2 + 1 + n,(show n2 + 1 + n≤3 * d + 4 + 1 + 2 from Nat.add_le_add (Nat.add_le_add_right hn2 1) hn),?_⟩
  rw [hr,Q4 hf.out]
  exact hr2
end Mine
namespace Mine
open PySem PyProof.Rows PySem.Spec
theorem Q3 {m:Sre.M} (h:m.outcome.isSome=true):∀ k,Sre.M.runFor k m=m
 | 0=>rfl
 | k + 1=>if_pos h
theorem O7:∀ (a b:Nat) (m:Sre.M),Sre.M.runFor (a + b) m=Sre.M.runFor b (Sre.M.runFor a m)
 | 0,b,m=>by rw [Nat.zero_add];rfl
 | a + 1,b,m=>by
  by_cases h:m.outcome.isSome=true
  ·rw [Q3 h,Q3 h,Q3 h]
  ·rw [Nat.add_right_comm];show (if m.outcome.isSome=true then m else Sre.M.runFor (a + b) m.step)=Sre.M.runFor b (if m.outcome.isSome=true then m else Sre.M.runFor a m.step);rw [if_neg h,if_neg h];exact O7 a b m.step
theorem drive_eq (turns:Nat) (m:Sre.M):Builtin.Re.reDrive (turns + 1) m=if (m.runFor Builtin.Re.reTurnSteps).outcome.isSome=true then pure (m.runFor Builtin.Re.reTurnSteps) else (PySem.rule "sre.turn" >>= fun _=>Builtin.Re.reDrive turns (m.runFor Builtin.Re.reTurnSteps)):=rfl
section
variable {M:Model} {A:Around} {E:Value→Shared→Prop} {s:Shared}
theorem H0:∀ (turns n:Nat) (m:Sre.M) (Q:Sre.M→Shared→Prop),n≤4 * turns→0<turns→(Sre.M.runFor n m).outcome.isSome=true→Q (Sre.M.runFor n m) s→wpAny M A (Builtin.Re.reDrive turns m) Q E s
 | 0,n,m,Q,_,h0,_,_=>absurd h0 (by decide)
 | turns + 1,n,m,Q,hn,_,hr,hQ=>by
  rw [drive_eq];by_cases ho:(Sre.M.runFor Builtin.Re.reTurnSteps m).outcome.isSome=true
  ·rw [if_pos ho];refine wpAny_pure ?_;have:Sre.M.runFor Builtin.Re.reTurnSteps m=Sre.M.runFor n m:=by
    show Sre.M.runFor 4 m=_;by_cases hle:n≤4
    ·rw [show (4:Nat)=n + (4 - n) from (Nat.add_sub_of_le hle).symm,O7,Q3 hr]
    ·rw [show n=4 + (n - 4) from (Nat.add_sub_of_le (Nat.le_of_not_le hle)).symm,O7];exact (Q3 ho _).symm
   show Q (Sre.M.runFor Builtin.Re.reTurnSteps m) s;rw [this];exact hQ
  ·rw [if_neg ho];refine wpAny_bind (wpAny_rule ?_);have hle:4<n:=Nat.lt_of_not_le fun hle=>ho (by
    have e:(4:Nat)=n + (4 - n):=(Nat.add_sub_of_le hle).symm
    show (Sre.M.runFor 4 m).outcome.isSome=true
    rw [e,O7,Q3 hr];exact hr)
   have e:n=4 + (n - 4):=(Nat.add_sub_of_le (Nat.le_of_lt hle)).symm;rw [e,O7] at hr hQ;exact H0 turns (n - 4) _ Q (Nat.sub_le_of_le_add hn) (Nat.pos_of_ne_zero fun q=>by subst q;exact absurd hn (Nat.not_le.mpr hle)) hr hQ
theorem drive_end {n:Nat} {m:Sre.M} {Q:Option Sre.M→Shared→Prop} (hn:n≤4 * 2 ^ 64) (hr:(Sre.M.runFor n m).outcome=some .failed) (hQ:Q none s):wpAny M A (Builtin.Re.reRunToEnd m) Q E s:=by
 unfold Builtin.Re.reRunToEnd;refine wpAny_bind (H0 (2 ^ 64) n m _ hn (by decide) (by rw [hr];rfl) ?_);refine wpAny_bind (wpAny_forIn_list _ (fun _ _ s'=>s'=s) _ (fun i rest b s' hs=>?_) (fun b s' hs=>?_) _ _ rfl)
 ·subst hs
  split
  ·exact wpAny_bind (wpAny_rule (wpAny_pure rfl))
  ·exact wpAny_pure rfl
 ·subst hs;rw [hr];exact wpAny_pure hQ
end
end Mine
namespace Mine
open PySem PyProof.Rows PySem.Spec
inductive PatOk (hb:Heap):Prop
 | mk (o:Obj) (vs:Array Value) (cd:Addr) (it:Array Value) (h1:hb.get? 81=some o) (h2:o.cls = .type "re.Pattern") (h3:o.dict=none) (h4:o.data = .fields vs) (h5:vs.getD 5 .none = .ref cd) (h6:cd≠x9) (h7:IsTup hb cd it) (h8:(it.map Builtin.Re.reRawOf).map (·.toNat)=Z2) (h9:Builtin.Re.reRawNat (vs.getD 6 .none)=0) (h10:Builtin.Re.reRawNat (vs.getD 2 .none)=0)
theorem A3:PySem.Slot "re.Pattern" "search" "re.Pattern.search" :=
 .of (owner := "re.Pattern") (n := "search") (by rw [typeLookup_type,builtinLookup_eq_fast];kernel_rfl) (by decide +kernel) (by decide +kernel) (by decide +kernel)
  (by first | exact .inl (by decide +kernel) | exact .inr (by decide +kernel)) (by rw [isSubtype_type];kernel_rfl)
theorem zah:entryFor table "re.Pattern.search" = some Builtin.«re.Pattern.search» := entryFor_of_tree (by kernel_rfl)
theorem zae (a b:Value):argsOk "re.Pattern.search" ⟨[a,b],[]⟩:=by unfold argsOk;kernel_rfl
theorem start_try {T:Array Nat} (h:2≤T.size):AtTry T 0 (Sre.forSearch Z2 T 0 0 T.size false):=by
 have e:(Sre.header Z2).1=2:=rfl;unfold Sre.forSearch;dsimp only;rw [if_neg (by rw [e];simp;omega)];rw [E6 _ _ (by rfl)];unfold Sre.M.attemptAt Sre.M.attempt;dsimp only;rw [if_neg (by show ¬ (0 + 1 + 0>16777216);decide)];exact ⟨rfl,rfl,rfl,rfl,⟨_,rfl,rfl,rfl,rfl,rfl⟩,rfl,rfl,rfl,rfl,Nat.le_refl _⟩
theorem start_small {T:Array Nat} (h:T.size<2):(Sre.M.runFor 1 (Sre.forSearch Z2 T 0 0 T.size false)).outcome=some .failed:=by
 have e:(Sre.header Z2).1=2:=rfl;unfold Sre.forSearch;dsimp only;rw [if_pos (by rw [e];simp;omega)];rfl
theorem search_fails {T:Array Nat} (hd:∀ p,p<T.size→Sre.isDigit (T.getD p 0)=false) (hz:T.size≤64):∃ n,n≤4 * 2 ^ 64∧(Sre.M.runFor n (Sre.forSearch Z2 T 0 0 T.size false)).outcome=some .failed:=by
 by_cases h:T.size<2
 ·exact ⟨1,by decide,start_small h⟩
 ·refine x12 (run_fail hd T.size 0 _ (by lia) (start_try (by lia)) :) fun n hn hr=>?_
  refine ⟨n,?_,hr⟩;have:(4 * 2 ^ 64:Nat)=73786976294838206464:=by decide
  lia
theorem digit_small:∀ c:Fin 128,(!(decide (48≤c.val) && decide (c.val≤57)))=true→Sre.isDigit c.val=false:=by decide +kernel
section
variable {prog:Program} {w:World} {A:Around} {E:Value→Shared→Prop} {s:Shared} {hb:HB} {O:Addr→Prop}
theorem search_one {l:List Nat} {t:Tok} {Q:Value→Shared→Prop} (hp:PatOk hb.h) (xc:XC hb O s) (hd:∀ c∈l,Sre.isDigit c=false) (hz:l.length≤64) (hQ:Q .none s) :
  wpAny (model prog w) A (call (.builtin "re.Pattern.search") [.ref 81,.str ⟨l.toArray⟩ t]) Q E s:=by
 refine z6 fun K0=>?_
 obtain ⟨o,vs,cd,it,ho,hc,hdi,hdd,h5,hcd,hit,hcode,h6,h2⟩:=hp;refine K0 ?_;clear K0;have ho':=xc.gs.hard _ _ (by decide) ho;refine wpAny_call_entry A3 ⟨o,ho',hc⟩ zah ?_ (zae _ _);unfold Builtin.«re.Pattern.search»;refine wpAny_bind ?_;unfold Builtin.Re.reTarget;dsimp only;refine wpAny_bind (wpAny_of_eq (a:=[some (.str ⟨l.toArray⟩ t),none,none]) (by kernel_rfl) ?_);dsimp only;refine wpAny_bind (wpAny_pure (wpAny_bind (wpAny_pure (wpAny_bind (wpAny_fieldsOf ho' hdd ?_)))));refine wpAny_bind (wpAny_of_eq (a:=(l.toArray,0)) rfl ?_);dsimp only;rw [h6,if_neg (by decide),if_neg (by decide)];refine wpAny_bind (wpAny_of_eq (a:=()) rfl ?_);rw [h5];refine z6 fun K0=>?_
 refine x13 hit fun oc hoc hcc o0=>?_;refine Exists.elim o0 fun nn hcd2=>?_
 refine K0 ?_;clear K0;have hoc':=xc.gs.hard _ _ hcd hoc;refine wpAny_bind ?_;unfold Builtin.Re.reRawItems;refine wpAny_bind (wpAny_seqItems hoc' hcd2 ?_);refine wpAny_pure (wpAny_pure ?_);have e1:Array.map (fun x=>Int.toNat x) (Array.map Builtin.Re.reRawOf ((some it).getD #[]))=Z2:=hcode
 have e2:min (2 ^ 63 - 1:Int).toNat l.toArray.size=l.toArray.size:=by
  rw [List.size_toArray];have:(2 ^ 63 - 1:Int).toNat=9223372036854775807:=by decide
  lia
 have e3:min (Int.toNat 0) l.toArray.size=0:=Nat.zero_min _;rw [e1,e2,e3,h2];unfold Builtin.Re.reAnswer;dsimp only;refine z6 fun K0=>?_
 obtain ⟨n,hn,hr⟩:=search_fails (T:=l.toArray) (fun p hp=>hd _ (by
  rw [List.size_toArray] at hp
  have:l.toArray.getD p 0=l[p]:=by simp [Array.getD,hp]
  rw [this];exact List.getElem_mem _)) (by rw [List.size_toArray];exact hz)
 refine K0 ?_;clear K0;exact wpAny_bind (drive_end hn hr (wpAny_pure ⟨_,rfl,hQ⟩))
end
end Mine
namespace Mine
open PySem PyProof.Rows PySem.Spec
inductive MapOk (prog:Program) (w:World) (hb:Heap):Prop
 | mk (f:_) (h1:hb.MapOf (intKind prog w) 52 f) (h2:∀ c,c<128→if specials.contains c then ∃ t,f (c:Int)=some (.str ⟨#[92,c]⟩ t) else f (c:Int)=none)
section
variable {prog:Program} {w:World} {A:Around} {E:Value→Shared→Prop} {s:Shared} {hb:HB} {O:Addr→Prop}
theorem look_hit {c:Nat} {f:Int→Option Value} {x:Str} {t:Tok} {Q:Builtin.Str.Mapped→Shared→Prop} (hm:s.heap.MapOf (intKind prog w) 52 f) (hf:f (c:Int)=some (.str x t))
  (h:∀ tk,Q (.text x) { s with toks:=tk }):wpAny (model prog w) A (Builtin.Str.tableLookup (.ref 52) c) Q E s:=by
 unfold Builtin.Str.tableLookup;refine wpAny_bind (wpAny_attempt (wpAny_bind (wpAny_mkInt (wpAny_getItem_of (knd:=intKind prog w) (k:=(c:Int)) ?_ hm hf ?_))))
 ·simp [intKind,Value.isInt]
 ·refine wpAny_bind (wpAny_of_eq (a:=none) rfl ?_);refine wpAny_bind (wpAny_of_eq (a:=some x) rfl ?_);exact wpAny_pure (h _)
theorem sub_KE_LE:isSubtype (.type "KeyError") (.type "LookupError")=pure true:=by rw [isSubtype_type];kernel_rfl
theorem look_miss {c:Nat} {f:Int→Option Value} {Q:Builtin.Str.Mapped→Shared→Prop} (hA:A.handled=none) (hm:s.heap.MapOf (intKind prog w) 52 f) (hf:f (c:Int)=none)
  (h:∀ h' tk,(∀ b o,s.heap.get? b=some o→h'.get? b=some o)→Q .keep { s with heap:=h',toks:=tk }):wpAny (model prog w) A (Builtin.Str.tableLookup (.ref 52) c) Q E s:=by
 unfold Builtin.Str.tableLookup;refine wpAny_bind (wpAny_attempt (wpAny_bind (wpAny_mkInt (wpAny_getItem_missing_of (knd:=intKind prog w) (k:=(c:Int)) ?_ (by decide) hA hm hf fun h' e ne=>?_))))
 ·simp [intKind,Value.isInt]
 ·refine z6 fun K0=>?_
  refine x23 ne.there fun ob t ho hc _=>?_
  refine K0 ?_;clear K0;refine wpAny_bind (wpAny_isInstance (T := "KeyError") ⟨ob,ho,hc⟩ sub_KE_LE ?_);rw [if_pos rfl];exact wpAny_bind (wpAny_rule (wpAny_pure (h _ _ ne.keeps)))
theorem trans_one {c:Nat} {t:Tok} {Q:Value→Shared→Prop} (hmap:MapOk prog w hb.h) (xc:XC hb O s) (hA:A.handled=none) (hc:c<128)
  (hQ:∀ rv s',Kp hb s s'→VR s'.heap O (.str (escC c)) rv→Q rv s'):wpAny (model prog w) A (call (.builtin "str.translate") [.str ⟨#[c]⟩ t,.ref 52]) Q E s:=by
 obtain ⟨f,hm,hf⟩:=hmap;have hf:=hf c hc;have hm':∀ {s':Shared},GS hb s'→s'.heap.MapOf (intKind prog w) 52 f:=fun g=>by
  refine x32 hm fun o es ep ho r=>?_
  exact ⟨o,es,ep,g.hard _ _ (by decide) ho,r⟩
 refine wpAny_call_entry F.slot_str_translate (typeIs_str _ _ _) F.entry_str_translate ?_ (F.args_str_translate_2 _ _);refine wpAny_bind (wpAny_of_eq (a:=(.str ⟨#[c]⟩ t,⟨#[c]⟩,.ref 52)) rfl ?_);dsimp only;rw [if_neg (show ¬ ((⟨#[c]⟩:Str).length == 0)=true from by show ¬ ((1:Nat) == 0)=true;decide)];have hall:(#[c]:Array Nat).all (fun x=>decide (x<128))=true:=by simp [hc]
 rw [hall];rw [← Array.forIn_toList];simp only [List.forIn_cons,List.forIn_nil];refine wpAny_bind (wpAny_bind ?_);rw [if_neg (show ¬ Builtin.Str.tooLong 0=true by decide),if_pos trivial];rw [show List.lookup c ([]:List (Nat × Option Nat))=none from rfl];by_cases hs:specials.contains c=true
 ·rw [if_pos hs] at hf;refine Exists.elim hf fun t' hf=>?_
  refine wpAny_bind (look_hit (hm' xc.gs) hf fun tk=>?_)
  dsimp only;rw [if_neg (show ¬ (((⟨#[92,c]⟩:Str).length == 1) && (#[92,c]:Array Nat).all fun x=>decide (x<128))=true from fun q=>by rw [Bool.and_eq_true] at q;exact absurd q.1 (by show ¬ ((2:Nat) == 1)=true;decide))]
  refine wpAny_bind (wpAny_pure ?_);refine wpAny_bind (wpAny_rule ?_);rw [if_neg (by decide)];refine wpAny_bind (look_hit (hm' (s' := { s with toks:=tk }) ((Kp.tok (hb:=hb) (s:=s) (tk:=tk)).gs xc.gs)) hf fun tk'=>wpAny_pure (wpAny_pure ?_))
  show wpAny _ _ (if Builtin.Str.tooLong 2=true then _ else retStr ⟨#[92,c]⟩) _ _ _;rw [if_neg (by decide)];refine wpAny_bind (wpAny_mkStr (wpAny_pure ⟨_,rfl,hQ _ _ ((Kp.tok (hb:=hb) (s:=s) (tk:=tk')).trans .tok) ?_⟩) (show 2≤sizeLine by decide));have e:escC c=[92,c]:=if_pos hs;rw [e];exact ⟨⟨by show 2≤small;decide,fun d hd=>by rcases List.mem_cons.mp hd with rfl | hd;decide;rw [List.mem_singleton.mp hd];lia⟩,_,rfl⟩
 ·rw [if_neg hs] at hf;refine wpAny_bind (look_miss hA (hm' xc.gs) hf fun h' tk hk=>?_)
  refine wpAny_bind (wpAny_pure (wpAny_pure (wpAny_pure ?_)));show wpAny _ _ (if Builtin.Str.tooLong 1=true then _ else retStr ⟨#[c]⟩) _ _ _;rw [if_neg (by decide)];refine wpAny_bind (wpAny_mkStr (wpAny_pure ⟨_,rfl,hQ _ _ ((Kp.keeps (hb:=hb) (s:=s) (h':=h') (tk:=tk) hk).trans .tok) ?_⟩) (show 1≤sizeLine by decide));have e:escC c=[c]:=if_neg hs;rw [e];exact ⟨⟨by show 1≤small;decide,fun d hd=>by rw [List.mem_singleton.mp hd];lia⟩,_,rfl⟩
end
end Mine
namespace Mine
open PySem PyProof.Rows PySem.Spec
structure Pats (prog:Program) (w:World) (hb:Heap):Prop where
 map:MapOk prog w hb
 pat:PatOk hb
theorem B1:PlainAttrs "re.Pattern" :=
 ⟨⟨"object.__getattribute__",by rw [typeLookup_type,builtinLookup_eq_fast];kernel_rfl,by decide +kernel⟩,by rw [typeLookup_type,builtinLookup_eq_fast];kernel_rfl⟩
theorem zay:typeOf (.builtin "re.Pattern.search")=pure (.type "method_descriptor"):=by show builtinType _=_;rw [builtinType_eq_fast];kernel_rfl
section
variable {prog:Program} {w:World} {A:Around} {hb:HB} {O:Addr→Prop}
theorem trans_ok {E:Value→Shared→Prop} {s:Shared} {c:Nat} {rx:Value} {Q:Value→Shared→Prop} (hp:Pats prog w hb.h) (xc:XC hb O s) (hA:A.handled=none) (hc:c<128) (hx:VR s.heap O (.str [c]) rx)
  (hQ:∀ rv s',Kp hb s s'→VR s'.heap O (.str (escC c)) rv→Q rv s'):wpAny (model prog w) A (call (.builtin "str.translate") [rx,.ref 52]) Q E s:=by
 obtain ⟨_,t,rfl⟩:=hx;exact trans_one hp.map xc hA hc hQ
theorem search_ok {E:Value→Shared→Prop} {s:Shared} {l:List Nat} {ry:Value} {Q:Value→Shared→Prop} (hp:Pats prog w hb.h) (xc:XC hb O s) (hd:(l.all fun c=>decide (c<128) && !(decide (48≤c) && decide (c≤57)))=true) (hz:l.length≤64) (hy:VR s.heap O (.str l) ry)
  (hQ:∀ rv s',Kp hb s s'→VR s'.heap O .nul rv→Q rv s'):wpAny (model prog w) A (call (.builtin "re.Pattern.search") [.ref 81,ry]) Q E s:=by
 obtain ⟨_,t,rfl⟩:=hy;refine search_one hp.pat xc (fun c hc=>?_) hz (hQ _ _ (.refl ..) rfl)
 have h:=List.all_eq_true.mp hd c hc;rw [Bool.and_eq_true] at h;exact digit_small ⟨c,of_decide_eq_true h.1⟩ h.2
noncomputable def MethAt (prog:Program) (w:World) (A:Around) (hb:HB) (O:Addr→Prop) (m:Str) (x:PV) (args:List PV) (v:PV):Prop :=
 ∃ T id,MethW T m id∧(∀ (s:Shared) rx,XC hb O s→VR s.heap O x rx→s.TypeIs rx T∧noDict s.heap rx) ∧
  ∀ (s:Shared) rx rvs Q E,XC hb O s→VR s.heap O x rx→VRs s.heap O args rvs→(∀ rv s',Kp hb s s'→VR s'.heap O v rv→Q rv s')→wpAny (model prog w) A (call (.builtin id) (rx::rvs)) Q E s
theorem str_plain (s:Shared) (l:List Nat) (rx:Value) (h:VR s.heap O (.str l) rx):s.TypeIs rx "str" ∧ noDict s.heap rx:=by
 obtain ⟨_,t,rfl⟩:=h;exact ⟨rfl,noDict_str⟩
theorem MethAt.str {m:Str} {id:String} {l:List Nat} {args:List PV} {v:PV} (hm:MethW "str" m id) (f:∀ (s:Shared) rx rvs Q E,XC hb O s→VR s.heap O (.str l) rx→VRs s.heap O args rvs→(∀ rv s',Kp hb s s'→VR s'.heap O v rv→Q rv s')→wpAny (model prog w) A (call (.builtin id) (rx::rvs)) Q E s):MethAt prog w A hb O m (.str l) args v :=
 ⟨"str",id,hm,fun s rx _ h=>str_plain s _ rx h,f⟩
theorem MethAt.str1 {m:Str} {id:String} {l:List Nat} {y v:PV} (hm:MethW "str" m id) (f:∀ (s:Shared) rx ry Q E,XC hb O s→VR s.heap O (.str l) rx→VR s.heap O y ry→(∀ rv s',Kp hb s s'→VR s'.heap O v rv→Q rv s')→wpAny (model prog w) A (call (.builtin id) [rx,ry]) Q E s):MethAt prog w A hb O m (.str l) [y] v :=
 .str hm fun s rx rvs Q E xc hx hr=>hr.one rfl fun ry h=>f s rx ry Q E xc hx h
theorem str_one {o v:PV} {args:List PV} {g:List Nat→PV→Option PV} (h:((j8 o).bind fun s=>(one1 args).bind (g s))=some v):∃ s x,o = .str s∧args=[x]∧g s x=some v :=
 y4 h fun s h1 h=>y4 h fun x h2 h=>⟨s,x,a9 h1,T4 h2,h⟩
theorem str_nil {o v:PV} {args:List PV} {g:List Nat→Option PV} (h:((j8 o).bind fun s=>(nil0 args).bind fun _=>g s)=some v):∃ s,o = .str s∧args=[]∧g s=some v :=
 y4 h fun s h1 h=>y4 h fun x h2 h=>⟨s,a9 h1,nil0_ok h2,h⟩
theorem join_at {x v:PV} {args:List PV} (he:joinM x args=some v):MethAt prog w A hb O "join" x args v:=by
 refine x23 (str_one he :) fun s x o0 o1 h=>?_;obtain rfl:=o0;obtain rfl:=o1
 refine z6 fun K0=>?_
 refine y4 h fun xs h3 h=>?_
 refine y4 h fun l hl h=>?_
 refine v9 h fun hz h=>?_
 refine K0 ?_;clear K0;obtain rfl:=Option.some.inj h;obtain rfl:=X8 h3;exact .str1 ⟨F.plainAttrs_str,F.slot_str_join,F.type_str_join⟩ fun s rx ry Q E _ hx h1 hQ=>join_ok hl hz hx h1 hQ
theorem split_at {x v:PV} {args:List PV} (he:splitM x args=some v):MethAt prog w A hb O "split" x args v:=by
 refine x23 (str_one he :) fun s x o0 o1 h=>?_;obtain rfl:=o0;obtain rfl:=o1
 refine z6 fun K0=>?_
 refine y4 h fun c h3 h=>?_
 refine v9 h fun hz h=>?_
 refine K0 ?_;clear K0;obtain rfl:=Option.some.inj h;obtain rfl:=R6 h3;exact .str1 ⟨F.plainAttrs_str,F.slot_str_split,F.type_str_split⟩ fun s rx ry Q E xc hx h1 hQ=>split_ok hz xc hx h1 hQ
theorem upper_at {x v:PV} {args:List PV} (he:upperM x args=some v):MethAt prog w A hb O "upper" x args v:=by
 refine x13 (str_nil he :) fun s o0 o1 h=>?_;obtain rfl:=o0;obtain rfl:=o1
 refine v9 h fun hz h=>?_
 obtain rfl:=Option.some.inj h;exact .str ⟨F.plainAttrs_str,F.slot_str_upper,F.type_str_upper⟩ fun s rx rvs Q E _ hx hr hQ=>(show rvs=[] from hr)▸upper_ok hz hx hQ
theorem lower_at {x v:PV} {args:List PV} (he:lowerM x args=some v):MethAt prog w A hb O "lower" x args v:=by
 refine x13 (str_nil he :) fun s o0 o1 h=>?_;obtain rfl:=o0;obtain rfl:=o1
 refine v9 h fun hz h=>?_
 obtain rfl:=Option.some.inj h;exact .str ⟨F.plainAttrs_str,F.slot_str_lower,F.type_str_lower⟩ fun s rx rvs Q E _ hx hr hQ=>(show rvs=[] from hr)▸lower_ok hz hx hQ
theorem starts_at {x v:PV} {args:List PV} (he:startsM x args=some v):MethAt prog w A hb O "startswith" x args v:=by
 refine x23 (str_one he :) fun s x o0 o1 h=>?_;obtain rfl:=o0;obtain rfl:=o1
 refine v8 h fun l h3 o0=>?_;obtain rfl:=o0
 obtain rfl:=a9 h3;exact .str1 ⟨F.plainAttrs_str,F.slot_str_startswith,F.type_str_startswith⟩ fun s rx ry Q E _ hx h1 hQ=>starts_ok hx h1 hQ
theorem ends_at {x v:PV} {args:List PV} (he:endsM x args=some v):MethAt prog w A hb O "endswith" x args v:=by
 refine x23 (str_one he :) fun s x o0 o1 h=>?_;obtain rfl:=o0;obtain rfl:=o1
 refine v8 h fun l h3 o0=>?_;obtain rfl:=o0
 obtain rfl:=a9 h3;exact .str1 ⟨F.plainAttrs_str,F.slot_str_endswith,F.type_str_endswith⟩ fun s rx ry Q E _ hx h1 hQ=>ends_ok hx h1 hQ
theorem find_at {x v:PV} {args:List PV} (he:findM x args=some v):MethAt prog w A hb O "find" x args v:=by
 refine z6 fun K0=>?_
 refine y4 he fun s h1 h=>?_
 refine K0 ?_;clear K0;obtain rfl:=a9 h1;rcases j6 h with h | h
 ·refine y4 h fun y h2 h=>?_
  refine v8 h fun c h3 o0=>?_;obtain rfl:=o0
  obtain rfl:=T4 h2;obtain rfl:=R6 h3;exact .str1 ⟨F.plainAttrs_str,F.slot_str_find,F.type_str_find⟩ fun s rx ry Q E _ hx h1 hQ=>find_ok hx h1 hQ
 ·refine y4 h fun y h2 h=>?_
  refine z6 fun K0=>?_
  refine y4 h fun c h3 h=>?_
  refine y4 h fun lo h4 h=>?_
  refine y4 h fun hi h5 h=>?_
  refine v9 h fun hz h=>?_
  refine K0 ?_;clear K0;obtain rfl:=Option.some.inj h;refine x04 hz fun _ h0 o0 hl=>?_;obtain rfl:=o0
  rw [tri3_ok h2,R6 h3,U6 h4,U6 h5];refine .str ⟨F.plainAttrs_str,F.slot_str_find,F.type_str_find⟩ fun s rx rvs Q E _ hx hr hQ=>?_
  obtain ⟨_,_,rfl,h1,_,_,rfl,h2,_,_,rfl,h3,rfl⟩:=hr;exact find4_ok h0 hl hx h1 h2 h3 hQ
theorem index_at {x v:PV} {args:List PV} (he:indexM x args=some v) (hu:A.units + 64<cLine):MethAt prog w A hb O "index" x args v:=by
 refine z6 fun K0=>?_
 refine y4 he fun s h1 h=>?_
 refine y4 h fun y h2 h=>?_
 refine K0 ?_;clear K0;refine v8 h fun k hk o0=>?_;obtain rfl:=o0
 obtain rfl:=X8 h1;obtain rfl:=T4 h2;refine ⟨"list","list.index",⟨F.plainAttrs_list,F.slot_list_index,F.type_list_index⟩,fun s rx _ h=>?_,fun s rx rvs Q E xc hx hr hQ=>hr.one rfl fun ry h1=>index_ok hk hu hx h1 hQ⟩
 obtain ⟨_,a,vs,rfl,_,_,⟨n,ho⟩,_⟩:=h;exact ⟨⟨_,ho,rfl⟩,fun b e=>by cases e;exact ⟨_,ho,rfl⟩⟩
theorem trans_at {x v:PV} {args:List PV} (he:transM x args=some v) (hp:Pats prog w hb.h) (hA:A.handled=none):MethAt prog w A hb O "translate" x args v:=by
 refine z6 fun K0=>?_
 refine y4 he fun c h1 h=>?_
 refine y4 h fun y h2 h=>?_
 refine y4 h fun a h3 h=>?_
 refine v9 h fun hz h=>?_
 refine K0 ?_;clear K0;obtain rfl:=Option.some.inj h;obtain rfl:=T4 h2;rw [R6 h1,refP_ok h3,hz.1];exact .str1 ⟨F.plainAttrs_str,F.slot_str_translate,F.type_str_translate⟩ fun s rx ry Q E xc hx h1 hQ=>(show ry=_ from h1)▸trans_ok hp xc hA hz.2 hx hQ
theorem search_at {x v:PV} {args:List PV} (he:searchM x args=some v) (hp:Pats prog w hb.h):MethAt prog w A hb O "search" x args v:=by
 refine z6 fun K0=>?_
 refine y4 he fun a h1 h=>?_
 refine y4 h fun y h2 h=>?_
 refine y4 h fun l h3 h=>?_
 refine v9 h fun hz h=>?_
 refine K0 ?_;clear K0;obtain rfl:=Option.some.inj h;obtain rfl:=T4 h2;rw [refP_ok h1,a9 h3,hz.1];refine ⟨"re.Pattern","re.Pattern.search",⟨B1,A3,zay⟩,fun s rx xc h=>?_,fun s rx rvs Q E xc hx hr hQ=>hr.one rfl fun ry h1=>(show rx=_ from hx)▸search_ok hp xc hz.2.1 hz.2.2 h1 hQ⟩
 refine z6 fun K0=>?_
 obtain ⟨o,_,_,_,h1,h2,h3,_⟩:=hp.pat;refine K0 ?_;clear K0;have:=xc.gs.hard _ _ (by decide) h1;rw [show rx=_ from h];exact ⟨⟨o,this,h2⟩,fun b e=>by cases e;exact ⟨o,this,h3⟩⟩
theorem meth_at {m:Str} {x:PV} {args:List PV} {v:PV} (he:n9 m x args=some v) (hp:Pats prog w hb.h) (hA:A.handled=none) (hu:A.units + 64<cLine):MethAt prog w A hb O m x args v:=by
 rcases Z9 he with ⟨e,h⟩ | ⟨_,he⟩
 ·exact e▸join_at h
 rcases Z9 he with ⟨e,h⟩ | ⟨_,he⟩
 ·exact e▸split_at h
 rcases Z9 he with ⟨e,h⟩ | ⟨_,he⟩
 ·exact e▸upper_at h
 rcases Z9 he with ⟨e,h⟩ | ⟨_,he⟩
 ·exact e▸lower_at h
 rcases Z9 he with ⟨e,h⟩ | ⟨_,he⟩
 ·exact e▸starts_at h
 rcases Z9 he with ⟨e,h⟩ | ⟨_,he⟩
 ·exact e▸ends_at h
 rcases Z9 he with ⟨e,h⟩ | ⟨_,he⟩
 ·exact e▸find_at h
 rcases Z9 he with ⟨e,h⟩ | ⟨_,he⟩
 ·exact e▸index_at h hu
 rcases Z9 he with ⟨e,h⟩ | ⟨_,he⟩
 ·exact e▸trans_at h hp hA
 exact (d0 he).1▸search_at (d0 he).2 hp
end
end Mine
namespace Mine
open PySem PyProof.Rows PySem.Spec
inductive AppObj (h:Heap) (b a:Addr):Prop
 | mk (o:Obj) (vs:Array Value) (g:h.get? b=some o) (c:o.cls = .type "builtin_function_or_method") (d:o.data = .fields vs) (x:vs[0]?=some (.builtin "list.append")) (y:vs[1]?=some (.ref a))
inductive SlV (P:Value→Prop) (ov:Option Value):Prop
 | mk (rv:Value) (e:ov=some rv) (r:P rv)
inductive SlO (h:Heap) (O:Addr→Prop) (oa:Option Addr) (xs:List PV) (ov:Option Value):Prop
 | mk (z:xs.length≤small) (a:Addr) (vs:List Value) (e:ov=some (.ref a)) (w:oa=some a) (t:a≠x9) (p:h.PlainList a vs.toArray) (r:VRs h O xs vs)
inductive SlA (h:Heap) (oa:Option Addr) (ov:Option Value):Prop
 | mk (b:Addr) (e:ov=some (.ref b)) (t:b≠x9) (k:∀ a,oa=some a→AppObj h b a)
noncomputable def SlotR (h:Heap) (O:Addr→Prop) (ow:Nat→Option Addr) (i:Nat) (sl:Option Slot) (ov:Option Value):Prop:=match sl with
 | some (.val v)=>SlV (VR h O v) ov
 | some (.own xs)=>SlO h O (ow i) xs ov
 | some (.app r)=>SlA h (ow r) ov
 | _=>True
theorem SlotR.map {h h':Heap} {O O':Addr→Prop} {ow ow':Nat→Option Addr} {i:Nat} {sl:Option Slot} {ov:Option Value} (x:SlotR h O ow i sl ov) (f:∀ v,SlV (VR h O v) ov→SlV (VR h' O' v) ov) (g:∀ xs,SlO h O (ow i) xs ov→SlO h' O' (ow' i) xs ov)
  (k:∀ r,SlA h (ow r) ov→SlA h' (ow' r) ov):SlotR h' O' ow' i sl ov:=by
 cases sl with
 | none=>trivial
 | some s=>cases s with
  | val v=>exact f v x
  | own xs=>exact g xs x
  | app r=>exact k r x
  | _=>trivial
noncomputable def Glob (hb:Heap) (n:Str) (v:Value):Prop :=
 ∃ mg,hb.Ns mainGlobals mg∧(mg n=some v∨(mg n=none∧∃ mb,hb.Ns builtinsNs mb∧mb n=some v))
structure FK (hb:HB) (c:CT) (env:Env):Prop where
 kind:env.scope.kind = .function
 loc:env.locals≠x9
 kinds:∀ n i,c.slot n=some i→env.kindOf n=some .local∨env.kindOf n=some .cell∨env.kindOf n=some .free
 globs:∀ n v,c.gl.lookup n=some v→Glob hb.h n v
 kindg:∀ n,c.kind.lookup n=some .globalImplicit→env.kindOf n=some .globalImplicit
 kindc:∀ n,c.kind.lookup n=some .cell∨c.kind.lookup n=some .free→env.kindOf n=some .cell∨env.kindOf n=some .free
 apart:∀ n n' a,env.cells.lookup n=some a→env.cells.lookup n'=some a→n=n'
 gl:env.globals=mainGlobals
 bu:env.builtins=builtinsNs
inductive CellR (env:Env) (h:Heap) (n:Str) (R:Option Value→Prop):Prop
 | mk (a:Addr) (e:env.cells.lookup n=some a) (t:a≠x9) (ov:Option Value) (c:h.IsCell a ov) (r:R ov)
inductive NsR (h:Heap) (L:Addr) (R:(Str→Option Value)→Prop):Prop
 | mk (m:Str→Option Value) (n:h.Ns L m) (r:R m)
structure FR (hb:HB) (c:CT) (env:Env) (O:Addr→Prop) (ow:Nat→Option Addr) (σ:z9) (h:Heap):Prop where
 fk:FK hb c env
 ns:NsR h env.locals fun m=>∀ n i,c.slot n=some i→env.kindOf n=some .local→SlotR h O ow i σ[i]? (m n)
 cells:∀ n i,c.slot n=some i→env.kindOf n=some .cell∨env.kindOf n=some .free→CellR env h n (SlotR h O ow i σ[i]?)
theorem AppObj.soft {h h':Heap} {b a:Addr} (x:AppObj h b a) (k:Soft h h') (hb:b≠x9):AppObj h' b a :=
 let ⟨o,vs,ho,hc,hd,h1,h2⟩:=x
 ⟨o,vs,k.get hb (fun _ _ q=>by rw [hd] at q;cases q) ho,hc,hd,h1,h2⟩
theorem V8 {h h':Heap} {a:Addr} {vs} (k:Soft h h') (ha:a≠x9) (x:h.PlainList a vs):h'.PlainList a vs :=
 let ⟨n,e⟩:=x
 ⟨n,k.get ha (fun _ _ q=>(nomatch q)) e⟩
theorem SlotR.soft {h h':Heap} {O:Addr→Prop} {ow:Nat→Option Addr} {i:Nat} (k:Soft h h') {sl:Option Slot} {ov:Option Value} (x:SlotR h O ow i sl ov):SlotR h' O ow i sl ov:=by
 refine x.map (fun _ x=>?_) (fun _ x=>?_) (fun _ x=>?_)
 ·obtain ⟨rv,e,r⟩:=x;exact ⟨rv,e,r.soft k⟩
 ·obtain ⟨z,a,vs,e,ho,ha,hl,r⟩:=x;exact ⟨z,a,vs,e,ho,ha,V8 k ha hl,r.soft k⟩
 ·obtain ⟨b,e,hb,r⟩:=x;exact ⟨b,e,hb,fun a q=>(r a q).soft k hb⟩
theorem FR.soft {hb:HB} {h h':Heap} {c:CT} {env:Env} {O:Addr→Prop} {ow:Nat→Option Addr} {σ:z9} (k:Soft h h') (x:FR hb c env O ow σ h):FR hb c env O ow σ h':=by
 refine ⟨x.fk,?_,?_⟩
 ·obtain ⟨m,hn,hr⟩:=x.ns;exact ⟨m,k.ns x.fk.loc hn,fun n i h1 h2=>(hr n i h1 h2).soft k⟩
 ·intro n i h1 h2;obtain ⟨a,e,ha,ov,hc,r⟩:=x.cells n i h1 h2;exact ⟨a,e,ha,ov,k.cell ha hc,r.soft k⟩
theorem FR.kp {hb:HB} {s s':Shared} {c:CT} {env:Env} {O:Addr→Prop} {ow:Nat→Option Addr} {σ:z9} (x:FR hb c env O ow σ s.heap) (k:Kp hb s s'):FR hb c env O ow σ s'.heap:=x.soft k.soft
inductive PkV (h:Heap) (O:Addr→Prop) (v:PV) (rv:Value):Prop
 | mk (xs:List PV) (a:Addr) (vs:List Value) (e:v = .list xs) (q:rv = .ref a) (z:xs.length≤small) (t:a≠x9) (p:h.PlainList a vs.toArray) (r:VRs h O xs vs)
noncomputable def RM (m:Md) (h:Heap) (O:Addr→Prop) (v:PV) (rv:Value):Prop:=match m with
 | .peek=>VR h O v rv∨PkV h O v rv
 | _=>VR h O v rv
theorem RM.of {m:Md} {h:Heap} {O:Addr→Prop} {v:PV} {rv:Value} (x:VR h O v rv):RM m h O v rv:=by
 cases m
 ·exact x
 ·exact .inl x
 ·exact x
theorem RM.soft {m:Md} {h h':Heap} {O:Addr→Prop} {v:PV} {rv:Value} (x:RM m h O v rv) (k:Soft h h'):RM m h' O v rv:=by
 cases m
 ·exact VR.soft k x
 ·rcases x with x | ⟨xs,a,vs,e1,e2,z,ha,hl,r⟩
  ·exact .inl (x.soft k)
  ·exact .inr ⟨xs,a,vs,e1,e2,z,ha,V8 k ha hl,r.soft k⟩
 ·exact VR.soft k x
section
variable {M:Model} {A:Around} {E:Value→Shared→Prop} {s:Shared} {hb:HB} {c:CT} {env:Env} {O:Addr→Prop} {ow:Nat→Option Addr} {σ:z9}
theorem V5 {n:Str} {i:Nat} {Q:Value→Shared→Prop} (x:FR hb c env O ow σ s.heap) (hi:c.slot n=some i) (hs:(n == ("__classdict__" : Str))=false)
  (hQ:∀ ov,SlotR s.heap O ow i σ[i]? ov→∃ rv,ov=some rv∧Q rv s):wpAny M A (loadName env n) Q E s:=by
 rcases x.fk.kinds n i hi with h | h
 ·refine z6 fun K0=>?_
  obtain ⟨m,hn,hr⟩:=x.ns;refine x12 (hQ _ (hr n i hi h) :) fun rv e q=>?_
  refine K0 ?_;clear K0;exact wpAny_loadName_local x.fk.kind h hn e q
 ·refine z6 fun K0=>?_
  obtain ⟨a,e,_,ov,hc,r⟩:=x.cells n i hi h;refine x12 (hQ _ r :) fun rv o0 q=>?_;obtain rfl:=o0
  refine K0 ?_;clear K0;rcases h with h | h
  ·exact wpAny_loadName_cell x.fk.kind h e hc q
  ·exact wpAny_loadName_free x.fk.kind h e hc q hs
theorem V0 {n:Str} {v:Value} {Q:Value→Shared→Prop} (x:FK hb c env) (g:GS hb s) (hi:c.glob n=some v) (hQ:Q v s):wpAny M A (loadName env n) Q E s:=by
 have ns:∀ {a m},hb.h.Ns a m→a≠x9→s.heap.Ns a m:=fun ⟨o,es,ep,e,r⟩ ha=>⟨o,es,ep,g.hard _ _ ha e,r⟩
 have hk:=x.kindg n (glob_ok hi).1;refine x12 (x.globs n v (glob_ok hi).2 :) fun mg hg h=>?_
 rw [loadName_read x.kind hk];rcases h with h | ⟨h,mb,hb',h2⟩
 ·exact Calls.loadGlobal_global (by rw [x.gl];exact ns hg (by decide)) h hQ
 ·exact Calls.loadGlobal_builtin (by rw [x.gl];exact ns hg (by decide)) h (by rw [x.bu];exact ns hb' (by decide)) h2 hQ
theorem val_of {v:PV} {i:Nat} {h:Heap} {ov:Option Value} (hv:j5 σ i=some v) (r:SlotR h O ow i σ[i]? ov):SlV (VR h O v) ov:=by
 refine y4 hv fun sl e hv=>?_
 rw [e] at r
 cases sl with
 | val x=>rw [← Option.some.inj hv];exact r
 | _=>exact w9 hv
theorem peek_of {v:PV} {i:Nat} {h:Heap} {ov:Option Value} (hv:X7 σ i=some v) (r:SlotR h O ow i σ[i]? ov):SlV (RM .peek h O v) ov:=by
 refine y4 hv fun sl e hv=>?_
 rw [e] at r
 cases sl with
 | val x =>
  rw [← Option.some.inj hv]
  obtain ⟨rv,e,q⟩:=r
  exact ⟨rv,e,.inl q⟩
 | own xs =>
  rw [← Option.some.inj hv]
  obtain ⟨z,a,vs,e,_,ha,hl,q⟩:=r
  exact ⟨_,e,.inr ⟨_,a,vs,rfl,rfl,z,ha,hl,q⟩⟩
 | _=>exact w9 hv
end
section
variable {prog:Program} {w:World} {A:Around} {E:Value→Shared→Prop} {s:Shared} {hb:HB} {O:Addr→Prop}
theorem peekTruthy {x:PV} {rx:Value} {b:Bool} {Q:Bool→Shared→Prop} (he:truthy x=some b) (hx:RM .peek s.heap O x rx)
  (hQ:∀ s',Kp hb s s'→Q b s'):wpAny (model prog w) A (PySem.truthy rx) Q E s:=by
 rcases hx with hx | ⟨xs,a,vs,rfl,rfl,z,_,hl,r⟩
 ·exact E4 he hx hQ
 ·refine z6 fun K0=>?_
  obtain rfl:=Option.some.inj he;refine K0 ?_;clear K0;exact zas hl.isList r z hQ
theorem peekIdx {x y v:PV} {rx ry:Value} {Q:Value→Shared→Prop} (he:v4 x y=some v) (hx:RM .peek s.heap O x rx) (hy:VR s.heap O y ry)
  (hQ:∀ rv s',Kp hb s s'→VR s'.heap O v rv→Q rv s'):wpAny (model prog w) A (getItem rx ry) Q E s:=by
 rcases hx with hx | ⟨xs,a,vs,rfl,rfl,z,_,hl,r⟩
 ·exact idx_ok he hx hy hQ
 ·refine z6 fun K0=>?_
  refine y4 he fun i e h=>?_
  rw [U6 e] at hy;obtain ⟨u,rfl⟩:=hy;obtain ⟨k,hk,h⟩:=bind_some (show (b8 xs.length i).bind _=_ from h);refine K0 ?_;clear K0;exact list_item hl.isList r z hk h fun rv h=>hQ _ _ (.refl ..) h
theorem peekLen {x v:PV} {rx:Value} {Q:Value→Shared→Prop} (hA:A.handled=none) (he:Z1 "len" [x]=some v) (xc:XC hb O s) (hx:RM .peek s.heap O x rx)
  (hQ:∀ rv s',Kp hb s s'→VR s'.heap O v rv→Q rv s'):wpAny (model prog w) A (call (.builtin "len") [rx]) Q E s:=by
 rcases hx with hx | ⟨xs,a,vs,rfl,rfl,z,_,hl,r⟩
 ·exact len_ok he hx hQ
 ·obtain rfl:=Option.some.inj he;refine PyProof.Rows.len_list hl.isList (r.small z) (hQ _ _ .tok ⟨s.toks + 1,?_⟩);rw [List.size_toArray,r.length]
noncomputable def Frs (A:Around) (hb:HB):Prop:=∃ l,A.frames=some l∧∀ e∈l,e.scope.kind ≠ .module∧∃ L,e.frame=some L∧hb.h.get? L=none∧(L∈hb.fm∨L=hb.own)
inductive FunR (h:Heap) (f:Value) (R:FuncData→Prop):Prop
 | mk (a:Addr) (o:Obj) (fd:FuncData) (e:f = .ref a) (t:a≠x9) (g:h.get? a=some o) (d:o.data = .func fd) (r:R fd)
structure Cx (prog:Program) (w:World) (A:Around) (hb:HB) (Γ:y9):Prop where
 handled:A.handled=none
 units:A.units + 64<cLine
 pats:Pats prog w hb.h
 frs:Frs A hb
 gam:∀ f vs v,Γ f vs=some v→FunR hb.h f fun _=>∀ O s rvs Q E,XC hb O s→1≤s.toks→VRs s.heap O vs rvs→(∀ rv s',Kp hb s s'→VR s'.heap O v rv→Q rv s')→wpAny (model prog w) A (call f rvs) Q E s
noncomputable def OkV (prog:Program) (w:World) (A:Around) (hb:HB) (O:Addr→Prop) (t:Sem Value) (v:PV) (s:Shared):Prop :=
 ∀ (Q:Value→Shared→Prop) (E:Value→Shared→Prop),(∀ rv s',Kp hb s s'→VR s'.heap O v rv→Q rv s')→wpAny (model prog w) A t Q E s
noncomputable def OkM (prog:Program) (w:World) (A:Around) (hb:HB) (O:Addr→Prop) (m:Md) (t:Sem Value) (v:PV) (s:Shared):Prop :=
 ∀ (Q:Value→Shared→Prop) (E:Value→Shared→Prop),(∀ rv s',Kp hb s s'→1≤s'.toks→RM m s'.heap O v rv→Q rv s')→wpAny (model prog w) A t Q E s
noncomputable def OkB (prog:Program) (w:World) (A:Around) (hb:HB) (t:Sem Bool) (b:Bool) (s:Shared):Prop :=
 ∀ (Q:Bool→Shared→Prop) (E:Value→Shared→Prop),(∀ s',Kp hb s s'→1≤s'.toks→Q b s')→wpAny (model prog w) A t Q E s
noncomputable def OkL (prog:Program) (w:World) (A:Around) (hb:HB) (O:Addr→Prop) (t:Sem (List Value)) (vs:List PV) (s:Shared):Prop :=
 ∀ (Q:List Value→Shared→Prop) (E:Value→Shared→Prop),(∀ rvs s',Kp hb s s'→1≤s'.toks→VRs s'.heap O vs rvs→Q rvs s')→wpAny (model prog w) A t Q E s
theorem OkV.toM {m:Md} {t:Sem Value} {v:PV} (ht:1≤s.toks) (h:OkV prog w A hb O t v s):OkM prog w A hb O m t v s :=
 fun Q E hQ=>wpAny_with_toks ht (h _ _ fun rv s' k r tk=>hQ rv s' k tk (.of r))
noncomputable def SE (prog:Program) (w:World) (A:Around) (hb:HB) (Γ:y9) (c:CT) (e:Expr) (pe:PE):Prop :=
 ∀ (env:Env) (O:Addr→Prop) (ow:Nat→Option Addr) (σ:z9) (s:Shared),FR hb c env O ow σ s.heap→XC hb O s→1≤s.toks →
  (∀ m v,m ≠ .test→z8 Γ pe m σ=some v→OkM prog w A hb O m (eval e env) v s) ∧
  (∀ b,y8 (z8 Γ pe .test σ)=some b→OkB prog w A hb (isTrue e env (eval e env)) b s)
noncomputable def SEs (prog:Program) (w:World) (A:Around) (hb:HB) (Γ:y9) (c:CT) (es:List Expr) (pes:List PE):Prop :=
 ∀ (env:Env) (O:Addr→Prop) (ow:Nat→Option Addr) (σ:z9) (s:Shared),FR hb c env O ow σ s.heap→XC hb O s→1≤s.toks →
  ∀ vs,m6 Γ pes σ=some vs→∀ pos,OkL prog w A hb O (spliced (backTo pos (starEach es env))) vs s
noncomputable def SBs (prog:Program) (w:World) (A:Around) (hb:HB) (Γ:y9) (c:CT) (op:BoolOp) (es:List Expr) (pe:PE):Prop :=
 ∀ (env:Env) (O:Addr→Prop) (ow:Nat→Option Addr) (σ:z9) (s:Shared),FR hb c env O ow σ s.heap→XC hb O s→1≤s.toks →
  (∀ m v pos,m ≠ .test→z8 Γ pe m σ=some v→OkM prog w A hb O m (boolOp pos op (evalEach es env)) v s) ∧
  (∀ b,y8 (z8 Γ pe .test σ)=some b→OkB prog w A hb (allTrue op es env) b s)
theorem SE.val {Γ:y9} {c:CT} {e:Expr} {pe:PE} (x:SE prog w A hb Γ c e pe) {env:Env} {ow:Nat→Option Addr} {σ:z9} (fr:FR hb c env O ow σ s.heap) (xc:XC hb O s) (ht:1≤s.toks) {v:PV} (hv:z8 Γ pe .val σ=some v) :
  OkM prog w A hb O .val (eval e env) v s:=(x env O ow σ s fr xc ht).1 .val v (by decide) hv
theorem SE.peek {Γ:y9} {c:CT} {e:Expr} {pe:PE} (x:SE prog w A hb Γ c e pe) {env:Env} {ow:Nat→Option Addr} {σ:z9} (fr:FR hb c env O ow σ s.heap) (xc:XC hb O s) (ht:1≤s.toks) {v:PV} (hv:z8 Γ pe .peek σ=some v) :
  OkM prog w A hb O .peek (eval e env) v s:=(x env O ow σ s fr xc ht).1 .peek v (by decide) hv
theorem SE.test {Γ:y9} {c:CT} {e:Expr} {pe:PE} (x:SE prog w A hb Γ c e pe) {env:Env} {ow:Nat→Option Addr} {σ:z9} (fr:FR hb c env O ow σ s.heap) (xc:XC hb O s) (ht:1≤s.toks) {b:Bool} (hv:y8 (z8 Γ pe .test σ)=some b) :
  OkB prog w A hb (isTrue e env (eval e env)) b s:=(x env O ow σ s fr xc ht).2 b hv
theorem SE.gen {Γ:y9} {c:CT} {e:Expr} {pe:PE} (he:∀ env,isTrue e env (eval e env)=(do let v ← eval e env;standAt e.pos;holding [v] (PySem.truthy v)))
  (X:z9→Option PV) (hX:∀ m σ,z8 Γ pe m σ=fin m (X σ))
  (main:∀ (env:Env) (O:Addr→Prop) (ow:Nat→Option Addr) (σ:z9) (s:Shared),FR hb c env O ow σ s.heap→XC hb O s→1≤s.toks→∀ v,X σ=some v→OkV prog w A hb O (eval e env) v s) :
  SE prog w A hb Γ c e pe:=by
 intro env O ow σ s fr xc ht;refine ⟨fun m v hm hv=>?_,fun b hb' Q E hQ=>?_⟩
 ·rw [hX m] at hv;have hv:X σ=some v:=by cases m <;> first | exact hv | exact absurd rfl hm
  exact (main env O ow σ s fr xc ht v hv).toM ht
 ·rw [hX] at hb';refine z6 fun K0=>?_
  refine x12 (test_some hb' :) fun v hx htr=>?_
  refine K0 ?_;clear K0;refine wpAny_with_toks ht (wpAny_isTrue_value ?_ (he env));exact main env O ow σ s fr xc ht v hx _ _ fun rv s' k r=>E4 (O:=O) (hb:=hb) htr r fun s'' k' tk=>hQ s'' (k.trans k') tk
end
section
variable {M:Model} {A:Around} {E:Value→Shared→Prop} {s:Shared} {env:Env}
theorem zav {slice:Expr} (h:∀ lo hi p,slice ≠ .Slice lo hi none p) (o i:Value):subscripted slice false o i=operate [o,i] (getItem o i):=by
 cases slice with
 | Slice lo hi st p=>cases st with
  | none=>exact absurd rfl (h _ _ _)
  | some=>rfl
 | _=>rfl
end
section
variable {prog:Program} {w:World} {A:Around} {E:Value→Shared→Prop} {s:Shared} {env:Env}
theorem sub_idx {value slice:Expr} {pos:Pos} {Q:Value→Shared→Prop} (hns:∀ lo hi p,slice ≠ .Slice lo hi none p)
  (h:wpAny (model prog w) A (eval value env) (fun o s₁=>wpAny (model prog w) A (eval slice env) (fun i s₂=>(∃ T id,s₂.TypeIs o T∧typeLookup (.type T) "__getitem__" = pure (some (.builtin id)))∧wpAny (model prog w) A (getItem o i) Q E s₂) E s₁) E s) :
  wpAny (model prog w) A (eval (.Subscript value slice pos) env) Q E s:=by
 rw [eval_Subscript];refine wpAny_bind (wpAny_mono h (fun o s₁ h₁=>wpAny_bind (wpAny_holding (wpAny_mono h₁ (fun i s₂ h₂=>wpAny_bind (wpAny_standAt ?_)) fun _ _ x=>x)))
  fun _ _ x=>x)
 refine z6 fun K0=>?_
 obtain ⟨⟨T,id,hT,hl⟩,hg⟩:=h₂;refine K0 ?_;clear K0;refine wpAny_bind ?_;rw [getitemInPython_of_ne hT.not_modules];refine wpAny_bind (wpAny_specialOf hT hl ?_);have fin:wpAny (model prog w) A (subscripted slice false o i) (fun r s₃=>wpAny (model prog w) A (letTemporaryGo value o r >>= fun _=>pure r) Q E s₃) E s₂:=by
  rw [zav hns];exact wpAny_operating (wpAny_mono hg (fun r s₃ h₃=>wpAny_bind (wpAny_letTemporaryGo (wpAny_pure h₃))) fun _ _ x=>x)
 first
  | exact wpAny_pure (wpAny_bind fin)
  | exact wpAny_bind (wpAny_pure (wpAny_bind fin))
  | exact wpAny_bind fin
theorem sub_slice {value:Expr} {lower upper:Option Expr} {p pos:Pos} {Q:Value→Shared→Prop}
  (h:wpAny (model prog w) A (eval value env) (fun o s₁=>wpAny (model prog w) A (eval (.Slice lower upper none p) env) (fun i s₂=>(∃ T id,s₂.TypeIs o T∧typeLookup (.type T) "__getitem__" = pure (some (.builtin id)))∧wpAny (model prog w) A (getItem o i) Q E s₂) E s₁) E s) :
  wpAny (model prog w) A (eval (.Subscript value (.Slice lower upper none p) pos) env) Q E s:=by
 rw [eval_Subscript];refine wpAny_bind (wpAny_mono h (fun o s₁ h₁=>wpAny_bind (wpAny_holding (wpAny_mono h₁ (fun i s₂ h₂=>wpAny_bind (wpAny_standAt ?_)) fun _ _ x=>x)))
  fun _ _ x=>x)
 refine z6 fun K0=>?_
 obtain ⟨⟨T,id,hT,hl⟩,hg⟩:=h₂;refine K0 ?_;clear K0;refine wpAny_bind ?_;rw [getitemInPython_of_ne hT.not_modules];refine wpAny_bind (wpAny_specialOf hT hl ?_);have fin:wpAny (model prog w) A (operate [i,o] (getItem o i)) (fun r s₃=>wpAny (model prog w) A (letTemporaryGo value o r >>= fun _=>pure r) Q E s₃) E s₂ :=
  wpAny_operating (wpAny_mono hg (fun r s₃ h₃=>wpAny_bind (wpAny_letTemporaryGo (wpAny_pure h₃))) fun _ _ x=>x)
 first
  | exact wpAny_pure (wpAny_bind fin)
  | exact wpAny_bind (wpAny_pure (wpAny_bind fin))
  | exact wpAny_bind fin
end
end Mine
namespace Mine
open PySem PyProof.Rows PySem.Spec
section
variable {prog:Program} {w:World} {A:Around} {hb:HB} {Γ:y9} {c:CT}
theorem okS_const {x:Str} (h:x.cps.size≤1000∧(x.cps.toList.all fun c=>decide (c<1114112))=true):okS x.cps.toList:=by
 refine ⟨?_,fun d hd=>?_⟩
 ·have h2:small=1048576:=rfl;rw [Array.length_toList];lia
 ·exact of_decide_eq_true (List.all_eq_true.mp h.2 d hd)
theorem const_ok {k:Const} {v:PV} (h:cConst k=some v) {env:Env} {O:Addr→Prop} {s:Shared} : OkV prog w A hb O (constValue env k) v s:=by
 intro Q E hQ
 cases k with
 | none=>obtain rfl:=Option.some.inj h;exact wpAny_pure (hQ _ _ (.refl ..) rfl)
 | bool b=>obtain rfl:=Option.some.inj h;exact wpAny_pure (hQ _ _ (.refl ..) rfl)
 | int i =>
  obtain rfl:=Option.some.inj h
  exact wpAny_Constant_int (k:=default) (pos:=default) (env:=env) (hQ _ _ .tok ⟨_,rfl⟩)
 | str t =>
  refine v9 h fun hz h=>?_
  obtain rfl:=Option.some.inj h
  exact wpAny_Constant_str (k:=default) (pos:=default) (env:=env) (hQ _ _ .tok ⟨okS_const hz,s.toks,by simp⟩)
 | _=>exact w9 h
theorem O8 {k:Const} {v:PV} (h:cConst k=some v) {kd pos} : SE prog w A hb Γ c (.Constant k kd pos) (.lit v):=by
 refine SE.gen (fun _=>rfl) (fun _=>some v) (fun m σ=>rfl) fun env O ow σ s fr xc ht v' hv=>?_
 obtain rfl:=Option.some.inj hv;rw [eval_Constant];exact const_ok h
theorem l8 {x:Str} (h:v7 x=true):(x == ("__debug__" : Str))=false∧(x == ("__classdict__" : Str))=false:=by
 unfold v7 at h;simpa using h
theorem Z5 {x:Str} {p:Pos} {i:Nat} (h:v7 x=true) (hi:c.slot x=some i):SE prog w A hb Γ c (.Name x p) (.var i):=by
 intro env O ow σ s fr xc ht;refine w7 (l8 h :) fun h1 h2=>?_
 refine ⟨fun m v hm hv Q E hQ=>?_,fun b hv Q E hQ=>?_⟩
 ·refine wpAny_Name (V5 fr hi h2 fun ov r=>?_) h1
  cases m
  ·obtain ⟨rv,e,q⟩:=val_of hv r;exact ⟨rv,e,hQ _ _ (.refl ..) ht q⟩
  ·obtain ⟨rv,e,q⟩:=peek_of hv r;exact ⟨rv,e,hQ _ _ (.refl ..) ht q⟩
  ·exact absurd rfl hm
 ·refine x12 (test_some hv :) fun v hx htr=>?_
  refine wpAny_with_toks ht (wpAny_isTrue_value (wpAny_Name (V5 fr hi h2 fun ov r=>?_) h1))
  obtain ⟨rv,e,q⟩:=peek_of hx r;exact ⟨rv,e,peekTruthy (hb:=hb) htr q fun s' k tk=>hQ s' k tk⟩
theorem se_gl {x:Str} {p:Pos} {v:Value} (h:v7 x=true) (hi:c.glob x=some v):SE prog w A hb Γ c (.Name x p) (.gl v):=by
 refine SE.gen (fun _=>rfl) (fun _=>some (.fn v)) (fun m σ=>rfl) fun env O ow σ s fr xc ht v' hv=>?_
 obtain rfl:=Option.some.inj hv;obtain ⟨h1,h2⟩:=l8 h;intro Q E hQ;exact wpAny_Name (V0 fr.fk xc.gs hi (hQ _ _ (.refl ..) rfl)) h1
theorem se_bin {l r:Expr} {op:Operator} {p:Pos} {a b:PE} (ha:SE prog w A hb Γ c l a) (hb':SE prog w A hb Γ c r b):SE prog w A hb Γ c (.BinOp l op r p) (.bin op a b):=by
 refine SE.gen (fun _=>rfl) (fun σ=>(z8 Γ a .val σ).bind fun x=>(z8 Γ b .val σ).bind fun y=>l4 op x y) (fun m σ=>rfl) fun env O ow σ s fr xc ht v hv=>?_
 refine z6 fun K0=>?_
 refine y4 hv fun x hx h1=>?_
 refine y4 h1 fun y hy h2=>?_
 refine K0 ?_;clear K0;exact fun Q E hQ=>wpAny_BinOp (ha.val fr xc ht hx _ _ fun rx s₁ k₁ t₁ r₁=>hb'.val (fr.kp k₁) (xc.kp k₁) t₁ hy _ _ fun ry s₂ k₂ t₂ r₂ =>
  bin_ok h2 ((xc.kp k₁).kp k₂) (VR.kp k₂ r₁) r₂ fun rv s' k r=>hQ rv s' ((k₁.trans k₂).trans k) r)
theorem se_neg {i:Int} {k p q} : SE prog w A hb Γ c (.UnaryOp .USub (.Constant (.int i) k p) q) (.neg i):=by
 refine SE.gen (fun _=>rfl) (fun _=>some (.int (-i))) (fun m σ=>rfl) fun env O ow σ s fr xc ht v hv=>?_
 obtain rfl:=Option.some.inj hv;intro Q E hQ;refine wpAny_UnaryOp (wpAny_Constant_int ?_);exact PyProof.Rows.neg_int (hQ _ _ .tok ⟨_,rfl⟩)
theorem se_not {x:Expr} {p:Pos} {a:PE} (ha:SE prog w A hb Γ c x a):SE prog w A hb Γ c (.UnaryOp .Not x p) (.nt a):=by
 intro env O ow σ s fr xc ht;refine ⟨fun m v hm hv Q E hQ=>?_,fun b hv Q E hQ=>?_⟩
 ·cases m
  ·exact w9 hv
  ·exact w9 hv
  ·exact absurd rfl hm
 ·cases h:y8 (z8 Γ a .test σ) with
  | none=>exact w9 (show none=some b from (congrArg (fun q:Option Bool=>y8 (q.map fun b=>PV.bool (!b))) h).symm.trans hv)
  | some t =>
   refine z6 fun K0=>?_
   obtain rfl:(!t)=b:=Option.some.inj ((congrArg (fun q:Option Bool=>y8 (q.map fun b=>PV.bool (!b))) h).symm.trans hv)
   refine K0 ?_
   clear K0
   exact wpAny_isTrue_Not (ha.test fr xc ht h _ _ fun s' k t'=>hQ _ k t')
theorem fin_bool {x:Option Bool} {m:Md} {v:PV} (h:fin m (x.map .bool)=some v):∃ t,x=some t∧v = .bool t:=by
 cases x with
 | none=>cases m <;> exact w9 h
 | some t=>exact ⟨t,rfl,by cases m <;> exact (Option.some.inj h).symm⟩
theorem cmp_val {op:CmpOp} {a b:PE} {m:Md} {σ:z9} {v:PV} (hv:z8 Γ (.cmp op a b) m σ=some v):∃ x y t,z8 Γ a .val σ=some x∧z8 Γ b .val σ=some y∧u7 op x y=some t∧v = .bool t:=by
 have hv:fin m ((z8 Γ a .val σ).bind fun x=>(z8 Γ b .val σ).bind fun y=>(u7 op x y).map .bool)=some v:=hv
 refine z6 fun K0=>?_
 obtain ⟨v',h1,h2⟩:∃ v',((z8 Γ a .val σ).bind fun x=>(z8 Γ b .val σ).bind fun y=>(u7 op x y).map PV.bool)=some v'∧fin m (some v')=some v:=by
  revert hv
  cases ((z8 Γ a .val σ).bind fun x=>(z8 Γ b .val σ).bind fun y=>(u7 op x y).map PV.bool) with
  | none=>intro hv;cases m <;> exact w9 hv
  | some q=>exact fun hv=>⟨q,rfl,hv⟩
 refine y4 h1 fun x hx h1=>?_
 refine y4 h1 fun y hy h1=>?_
 refine v8 h1 fun t ht o0=>?_;obtain rfl:=o0
 refine K0 ?_;clear K0;exact ⟨x,y,t,hx,hy,ht,by cases m <;> exact (Option.some.inj h2).symm⟩
theorem se_cmp {l r:Expr} {op:CmpOp} {p:Pos} {a b:PE} (hm:behindInMarks op r=false) (ha:SE prog w A hb Γ c l a) (hb':SE prog w A hb Γ c r b) (hu:A.units + 64<cLine):SE prog w A hb Γ c (.Compare l [op] [r] p) (.cmp op a b):=by
 have main:∀ (env:Env) (O:Addr→Prop) (ow:Nat→Option Addr) (σ:z9) (s:Shared),FR hb c env O ow σ s.heap→XC hb O s→1≤s.toks→∀ x y t,z8 Γ a .val σ=some x→z8 Γ b .val σ=some y→u7 op x y=some t →
   ∀ (Q:Value→Shared→Prop) (E:Value→Shared→Prop),(∀ s',Kp hb s s'→1≤s'.toks→Q (.bool t) s') →
   wpAny (model prog w) A (eval l env) (fun x s₁=>wpAny (model prog w) A (eval r env) (fun y s₂=>wpAny (model prog w) A (compareOp op x y) Q E s₂) E s₁) E s :=
  fun env O ow σ s fr xc ht x y t hx hy hv Q E hQ=>ha.val fr xc ht hx _ _ fun rx s₁ k₁ t₁ r₁=>hb'.val (fr.kp k₁) (xc.kp k₁) t₁ hy _ _ fun ry s₂ k₂ t₂ r₂=>cmp_ok hv (VR.kp k₂ r₁) r₂ hu (hQ _ (k₁.trans k₂) t₂)
 intro env O ow σ s fr xc ht;refine ⟨fun m v hm' hv Q E hQ=>?_,fun t hv Q E hQ=>?_⟩
 ·refine z6 fun K0=>?_
  refine x34 (cmp_val hv :) fun x y t hx hy h o0=>?_;obtain rfl:=o0
  refine K0 ?_;clear K0;exact wpAny_Compare1 (main env O ow σ s fr xc ht x y t hx hy h _ _ fun s' k t'=>hQ _ _ k t' (.of rfl)) hm
 ·cases hv':z8 Γ (.cmp op a b) .test σ with
  | none=>rw [hv'] at hv;exact w9 hv
  | some v =>
   refine z6 fun K0=>?_
   refine x34 (cmp_val hv' :) fun x y t' hx hy h o0=>?_;obtain rfl:=o0
   refine K0 ?_
   clear K0
   rw [hv'] at hv;cases hv
   exact wpAny_isTrue_Compare1 (main env O ow σ s fr xc ht x y t hx hy h _ _ fun s' k t'=>wpAny_truthy_bool (hQ _ k t')) hm
theorem se_ife {t b o:Expr} {p:Pos} {x y z:PE} (hx:SE prog w A hb Γ c t x) (hy:SE prog w A hb Γ c b y) (hz:SE prog w A hb Γ c o z):SE prog w A hb Γ c (.IfExp t b o p) (.ife x y z):=by
 intro env O ow σ s fr xc ht;refine ⟨fun m v hm hv Q E hQ=>?_,fun r hv Q E hQ=>?_⟩
 ·refine y4 hv fun q h h1=>?_
  refine wpAny_IfExp (hx.test fr xc ht h _ _ fun s₁ k₁ t₁=>?_)
  cases q
  ·exact (hz env O ow σ s₁ (fr.kp k₁) (xc.kp k₁) t₁).1 m v hm h1 _ _ fun rv s' k=>hQ rv s' (k₁.trans k)
  ·exact (hy env O ow σ s₁ (fr.kp k₁) (xc.kp k₁) t₁).1 m v hm h1 _ _ fun rv s' k=>hQ rv s' (k₁.trans k)
 ·have hv:y8 ((y8 (z8 Γ x .test σ)).bind fun t=>if t=true then z8 Γ y .test σ else z8 Γ z .test σ)=some r:=hv
  cases h:y8 (z8 Γ x .test σ) with
  | none=>rw [h] at hv;exact w9 hv
  | some q =>
   rw [h] at hv
   rw [arm_isTrue_IfExp]
   refine wpAny_bind (hx.test fr xc ht h _ _ fun s₁ k₁ t₁=>?_)
   cases q
   ·exact hz.test (fr.kp k₁) (xc.kp k₁) t₁ hv _ _ fun s' k=>hQ s' (k₁.trans k)
   ·exact hy.test (fr.kp k₁) (xc.kp k₁) t₁ hv _ _ fun s' k=>hQ s' (k₁.trans k)
theorem idx_type {x v y:PV} {O:Addr→Prop} {rx:Value} {s:Shared} (hv:v4 x y=some v) (r:RM .peek s.heap O x rx):∃ T id,s.TypeIs rx T∧typeLookup (.type T) "__getitem__" = pure (some (.builtin id)):=by
 refine z6 fun K0=>?_
 refine y4 hv fun i e h=>?_
 refine K0 ?_;clear K0
 cases x with
 | str l =>
  rcases r with ⟨_,t,rfl⟩ | ⟨xs,a,vs,e,_⟩
  ·exact ⟨"str",_,typeIs_str _ _ _,slot_str_getitem.lookup⟩
  ·cases e
 | list l =>
  rcases r with ⟨_,a,vs,rfl,_,_,hl,_⟩ | ⟨xs,a,vs,e,rfl,_,_,hl,_⟩
  ·exact ⟨"list",_,hl.isList.typeIs,slot_list_getitem.lookup⟩
  ·exact ⟨"list",_,hl.isList.typeIs,slot_list_getitem.lookup⟩
 | tup l =>
  rcases r with ⟨_,a,vs,rfl,_,_,hl,_⟩ | ⟨xs,a,vs,e,_⟩
  ·refine z6 fun K0=>?_
   refine x13 hl fun o ho hc _=>?_
   refine K0 ?_;clear K0;exact ⟨"tuple",_,⟨o,ho,hc⟩,slot_tuple_getitem.lookup⟩
  ·cases e
 | _=>exact w9 h
theorem se_idx {l i:Expr} {p:Pos} {a b:PE} (hns:∀ lo hi p,i ≠ .Slice lo hi none p) (ha:SE prog w A hb Γ c l a) (hb':SE prog w A hb Γ c i b):SE prog w A hb Γ c (.Subscript l i p) (.idx a b):=by
 refine SE.gen (fun _=>rfl) (fun σ=>(z8 Γ a .peek σ).bind fun x=>(z8 Γ b .val σ).bind fun y=>v4 x y) (fun m σ=>rfl) fun env O ow σ s fr xc ht v hv=>?_
 refine z6 fun K0=>?_
 refine y4 hv fun x hx h1=>?_
 refine y4 h1 fun y hy h2=>?_
 refine K0 ?_;clear K0;exact fun Q E hQ=>sub_idx hns (ha.peek fr xc ht hx _ _ fun rx s₁ k₁ t₁ r₁=>hb'.val (fr.kp k₁) (xc.kp k₁) t₁ hy _ _ fun ry s₂ k₂ t₂ r₂ =>
  ⟨idx_type h2 (r₁.soft k₂.soft),peekIdx h2 (r₁.soft k₂.soft) r₂ fun rv s' k r=>hQ rv s' ((k₁.trans k₂).trans k) r⟩)
theorem slc_type {x v y z:PV} {O:Addr→Prop} {rx:Value} {s:Shared} (hv:n8 x y z=some v) (r:VR s.heap O x rx):∃ T id,s.TypeIs rx T∧typeLookup (.type T) "__getitem__" = pure (some (.builtin id)):=by
 cases x with
 | str l =>
  obtain ⟨_,t,rfl⟩:=r
  exact ⟨"str",_,typeIs_str _ _ _,slot_str_getitem.lookup⟩
 | list l =>
  obtain ⟨_,a,vs,rfl,_,_,hl,_⟩:=r
  exact ⟨"list",_,hl.isList.typeIs,slot_list_getitem.lookup⟩
 | _=>exact w9 hv
noncomputable def SEo (prog:Program) (w:World) (A:Around) (hb:HB) (Γ:y9) (c:CT) (e:Option Expr) (pe:PE):Prop :=
 ∀ (env:Env) (O:Addr→Prop) (ow:Nat→Option Addr) (σ:z9) (s:Shared),FR hb c env O ow σ s.heap→XC hb O s→1≤s.toks →
  ∀ v,z8 Γ pe .val σ=some v→OkM prog w A hb O .val (evalPart e env) v s
theorem seo_none:SEo prog w A hb Γ c none (.lit .nul):=by
 intro env O ow σ s fr xc ht v hv;obtain rfl:=Option.some.inj hv;intro Q E hQ;exact wpAny_evalPart_none (hQ _ _ (.refl ..) ht rfl)
theorem seo_some {e:Expr} {pe:PE} (h:SE prog w A hb Γ c e pe):SEo prog w A hb Γ c (some e) pe:=by
 intro env O ow σ s fr xc ht v hv;intro Q E hQ;exact wpAny_evalPart_some (h.val fr xc ht hv _ _ hQ)
theorem se_slc {l:Expr} {lo hi:Option Expr} {p q:Pos} {a x y:PE} (ha:SE prog w A hb Γ c l a) (hx:SEo prog w A hb Γ c lo x) (hy:SEo prog w A hb Γ c hi y):SE prog w A hb Γ c (.Subscript l (.Slice lo hi none p) q) (.slc a x y):=by
 refine SE.gen (fun _=>rfl) (fun σ=>(z8 Γ a .val σ).bind fun v=>(z8 Γ x .val σ).bind fun y'=>(z8 Γ y .val σ).bind fun z=>n8 v y' z) (fun m σ=>rfl) fun env O ow σ s fr xc ht v hv=>?_
 refine z6 fun K0=>?_
 refine y4 hv fun va hva h1=>?_
 refine y4 h1 fun vx hvx h2=>?_
 refine y4 h2 fun vy hvy h3=>?_
 refine K0 ?_;clear K0;exact fun Q E hQ=>sub_slice (ha.val fr xc ht hva _ _ fun rx s₁ k₁ t₁ r₁=>wpAny_Slice (hx env O ow σ s₁ (fr.kp k₁) (xc.kp k₁) t₁ vx hvx _ _ fun rlo s₂ k₂ t₂ r₂ =>
  hy env O ow σ s₂ ((fr.kp k₁).kp k₂) ((xc.kp k₁).kp k₂) t₂ vy hvy _ _ fun rhi s₃ k₃ t₃ r₃=>wpAny_evalPart_none
   ⟨slc_type h3 (VR.kp (Kp.push (hb:=hb) (tk:=s₃.toks)) (VR.kp (k₂.trans k₃) r₁)),slc_ok h3 (((xc.kp k₁).kp k₂).kp k₃) (VR.kp (k₂.trans k₃) r₁) (VR.kp k₃ r₂) r₃ fun rv s' k r=>hQ rv s' (((k₁.trans k₂).trans k₃).trans k) r⟩))
end
end Mine
namespace Mine
open PySem PyProof.Rows PySem.Spec
section
variable {prog:Program} {w:World} {A:Around} {hb:HB} {Γ:y9} {c:CT}
noncomputable def U2 (env:Env) (es:List Expr):Prop:=∀ pos,(backTo pos (starEach es env)).any (·.1)=false∧(backTo pos (starEach es env)).all (fun x => !x.1)=true
theorem Y3 {e:Expr} (h:j7 e=true) (es:List Expr) (env:Env):starEach (e::es) env=(false,eval e env)::starEach es env:=by
 cases e <;> first | rfl | exact absurd h Bool.false_ne_true
theorem W0 {env:Env} : ∀ {es:List Expr},es.all j7=true→U2 env es
 | [],_=>fun _=>⟨rfl,rfl⟩
 | e::es,h=>fun pos=>by
  rw [Y3 (y5 h)];exact W0 (env:=env) (es:=es) (v6 h) pos
noncomputable def Sv (es:List Expr) (pes:List PE):Prop:=es.all j7=true∧pes.length=es.length
theorem B8 {f:Sub} {c:CT} (hf:∀ {e:Expr} {p:PE},f c e=some p→j7 e=true):∀ {es:List Expr} {pes:List PE},mapO (f c) es=some pes→Sv es pes
 | [],_,h=>by cases h;exact ⟨rfl,rfl⟩
 | e::es,pes,h=>by
  refine z6 fun K0=>?_
  refine x23 (R9 h :) fun a b h1 h2 h3=>?_
  refine w7 (B8 hf h2 :) fun h4 h5=>?_
  refine K0 ?_;clear K0;exact ⟨Bool.and_eq_true_iff.mpr ⟨hf h1,h4⟩,by rw [h3,List.length_cons,List.length_cons,h5]⟩
theorem H6 {e:PE} {es:List PE} {σ:z9} {vs:List PV} (h:m6 Γ (e::es) σ=some vs):∃ v r,z8 Γ e .val σ=some v∧m6 Γ es σ=some r∧v::r=vs :=
 y4 h fun v h1 h2=>v8 h2 fun r h3 h4=>⟨v,r,h1,h3,h4⟩
theorem evEs_len {pes:List PE} {σ:z9} : ∀ {vs:List PV},m6 Γ pes σ=some vs→vs.length=pes.length:=by
 induction pes with
 | nil=>intro vs h;cases h;rfl
 | cons e es ih=>intro vs h;refine x23 (H6 h :) fun v r h1 h2 o0=>?_;obtain rfl:=o0;exact congrArg (· + 1) (ih h2)
theorem ses_nil:SEs prog w A hb Γ c [] []:=by
 intro env O ow σ s fr xc ht vs hv pos Q E hQ;refine z6 fun K0=>?_
 obtain rfl:=Option.some.inj hv;refine K0 ?_;clear K0;exact wpAny_items_nil (hQ _ _ (.refl ..) ht rfl)
theorem O9 {e:Expr} {es:List Expr} {pe:PE} {pes:List PE} (h:j7 e=true) (h1:SE prog w A hb Γ c e pe) (h2:SEs prog w A hb Γ c es pes):SEs prog w A hb Γ c (e::es) (pe::pes):=by
 intro env O ow σ s fr xc ht vs hv pos Q E hQ;refine z6 fun K0=>?_
 refine x23 (H6 hv :) fun v r hx hr o0=>?_;obtain rfl:=o0
 refine K0 ?_;clear K0;exact wpAny_items_cons (h1.val fr xc ht hx _ _ fun rv s₁ k₁ t₁ r₁=>h2 env O ow σ s₁ (fr.kp k₁) (xc.kp k₁) t₁ r hr pos _ _ fun rvs s₂ k₂ t₂ r₂=>hQ _ _ (k₁.trans k₂) t₂ ⟨rv,rvs,rfl,VR.kp k₂ r₁,r₂⟩) (Y3 h _ _)
theorem args_ok {es:List Expr} {pes:List PE} (h:Sv es pes) (h1:SEs prog w A hb Γ c es pes) {env:Env} {O:Addr→Prop} {ow:Nat→Option Addr} {σ:z9} {s:Shared} (fr:FR hb c env O ow σ s.heap) (xc:XC hb O s) (ht:1≤s.toks)
  {vs:List PV} (hv:m6 Γ pes σ=some vs) {f:Value} {pos:Pos} {Q:Args→Shared→Prop} {E:Value→Shared→Prop} (hQ:∀ rvs s',Kp hb s s'→1≤s'.toks→VRs s'.heap O vs rvs→Q ⟨rvs,[]⟩ s') :
  wpAny (model prog w) A (evalArgs f true (backTo pos (starEach es env)) []) Q E s:=by
 cases es with
 | nil =>
  refine z6 fun K0=>?_
  obtain rfl:=List.length_eq_zero_iff.mp h.2
  obtain rfl:=Option.some.inj hv
  refine K0 ?_
  clear K0
  exact PySem.evalArgs_none (hQ _ _ (.refl ..) ht rfl)
 | cons e es =>
  have h2:=h1 env O ow σ s fr xc ht vs hv pos
  rw [Y3 (y5 h.1)] at h2 ⊢
  exact Calls.evalArgs_plain (h2 _ _ fun rvs s' k t r=>hQ rvs s' k t r)
theorem se_len {x:Str} {np pos:Pos} {e:Expr} {pe:PE} (h:v7 x=true) (hi:c.glob x=some (.builtin "len")) (hc:j7 e=true) (he:SE prog w A hb Γ c e pe) (hA:A.handled=none) :
  SE prog w A hb Γ c (.Call (.Name x np) [e] [] pos) (.len pe):=by
 refine SE.gen (fun _=>rfl) (fun σ=>(z8 Γ pe .peek σ).bind fun x=>Z1 "len" [x]) (fun m σ=>rfl) fun env O ow σ s fr xc ht v hv=>?_
 refine z6 fun K0=>?_
 refine y4 hv fun x hx h1=>?_
 refine K0 ?_;clear K0;intro Q E hQ;refine wpAny_Call_NameR (wpAny_Name (V0 fr.fk xc.gs hi ?_) (l8 h).1);refine Calls.callWith_builtin (W0 (env:=env) (es:=[e]) (by rw [List.all_cons,hc];rfl) pos).1 ?_;rw [Y3 hc];exact Calls.evalArgs_plain (Calls.spliced_cons (he.peek fr xc ht hx _ _ fun rv s₁ k₁ t₁ r₁=>Calls.spliced_nil (peekLen hA h1 (xc.kp k₁) r₁ fun rv s' k r=>hQ rv s' (k₁.trans k) r)))
theorem se_call {x:Str} {np pos:Pos} {es:List Expr} {pes:List PE} {f:Value} (h:v7 x=true) (hi:c.glob x=some f) (hc:Sv es pes) (he:SEs prog w A hb Γ c es pes) (cx:Cx prog w A hb Γ) :
  SE prog w A hb Γ c (.Call (.Name x np) es [] pos) (.call f pes):=by
 refine SE.gen (fun _=>rfl) (fun σ=>(m6 Γ pes σ).bind fun vs=>callF Γ f vs) (fun m σ=>rfl) fun env O ow σ s fr xc ht v hv=>?_
 refine z6 fun K0=>?_
 refine y4 hv fun vs hx h1=>?_
 refine K0 ?_;clear K0;intro Q E hQ;refine wpAny_Call_NameR (wpAny_Name (V0 fr.fk xc.gs hi ?_) (l8 h).1);have hun:=W0 (env:=env) hc.1 pos;have gen:callF Γ f vs=Γ f vs→wpAny (model prog w) A (callWith pos f [] (backTo pos (starEach es env)) (backToKw pos (keywordEach [] env))) Q E s:=fun e=>by
  obtain ⟨a,o,fd,rfl,ha,ho,hd,hcall⟩:=cx.gam _ _ _ (e▸h1);exact Calls.callWith_function (o:=o) (fd:=fd) (args_ok hc he fr xc ht hx fun rvs s₁ k₁ t₁ r₁=>⟨⟨(xc.kp k₁).gs.hard _ _ ha ho,hd⟩,hcall O s₁ rvs _ _ (xc.kp k₁) t₁ r₁ fun rv s' k r=>hQ rv s' (k₁.trans k) r⟩)
 cases f with
 | builtin n=>exact Calls.callWith_builtin hun.1 (args_ok hc he fr xc ht hx fun rvs s₁ k₁ t₁ r₁=>callB_ok h1 cx.handled (xc.kp k₁) r₁ fun rv s' k r=>hQ rv s' (k₁.trans k) r)
 | type n=>exact PySem.callWith_type hun.1 (args_ok hc he fr xc ht hx fun rvs s₁ k₁ t₁ r₁=>callT_ok h1 (xc.kp k₁) r₁ fun rv s' k r=>hQ rv s' (k₁.trans k) r)
 | _=>exact gen rfl
theorem T0 {o:Expr} (h:O3 o=true) (name:Str) (env:Env) (whole:Sem Value):attributeBase o name env whole=whole:=by
 cases o with
 | Call f as ks p =>
  cases f with
  | Name x q =>
   cases as with
   | nil =>
    cases ks with
    | nil=>exact absurd h Bool.false_ne_true
    | cons=>rfl
   | cons=>rfl
  | _=>rfl
 | _=>rfl
theorem T3 {env:Env} {es:List Expr} {pos:Pos} (h:U2 env es) (hl:es.length<20):((backTo pos (starEach es env)).all (fun x => !x.1) && (backToKw pos (keywordEach [] env)).all (fun x=>x.1.isSome)
   && decide (es.length + ([]:List Keyword).length + (if ([]:List Keyword).isEmpty then 0 else 1)<30))=true:=by
 rw [(h pos).2];show (true && true && decide (es.length + 0 + 0<30))=true;rw [decide_eq_true (by lia)];rfl
theorem se_meth {o:Expr} {m:Str} {ap pos:Pos} {es:List Expr} {pe:PE} {pes:List PE} (h1:O3 o=true) (h2:(ap.endLine == pos.line)=true) (h3:es.length<20) (ho:SE prog w A hb Γ c o pe) (hc:Sv es pes)
  (he:SEs prog w A hb Γ c es pes) (cx:Cx prog w A hb Γ):SE prog w A hb Γ c (.Call (.Attribute o m ap) es [] pos) (.meth m pe pes):=by
 refine SE.gen (fun _=>rfl) (fun σ=>(z8 Γ pe .val σ).bind fun x=>(m6 Γ pes σ).bind fun vs=>n9 m x vs) (fun m σ=>rfl) fun env O ow σ s fr xc ht v hv=>?_
 refine z6 fun K0=>?_
 refine y4 hv fun x hx h4=>?_
 refine y4 h4 fun vs hvs h5=>?_
 refine K0 ?_;clear K0;intro Q E hQ;refine z6 fun K0=>?_
 refine x23 (meth_at (prog:=prog) (w:=w) (A:=A) (O:=O) h5 cx.pats cx.handled cx.units :) fun T id mw hT hgo=>?_
 refine K0 ?_;clear K0;have hun:=W0 (env:=env) hc.1;refine wpAny_Call_method (T0 h1 ..) (T3 hun h3) h2 mw.1 mw.2 mw.3 (ho.val fr xc ht hx _ _ fun rx s₁ k₁ t₁ r₁=>?_)
 have q:=hT s₁ rx (xc.kp k₁) r₁;exact ⟨q.1,q.2,Calls.callWith_builtin (hun pos).1 (args_ok hc he (fr.kp k₁) (xc.kp k₁) t₁ hvs fun rvs s₂ k₂ t₂ r₂ =>
  hgo s₂ rx rvs _ _ ((xc.kp k₁).kp k₂) (VR.kp k₂ r₁) r₂ fun rv s' k r=>hQ rv s' ((k₁.trans k₂).trans k) r)⟩
theorem repl_inv {x v:PV} {c:Nat} {r:List Nat} (h:Q2 x c r=some v):∃ s,x = .str s∧(s.length≤65536∧r.length≤14∧([c]:List Nat)≠r∧(i3 c r s).length≤small) ∧ .str (i3 c r s)=v:=by
 cases x with
 | str s=>refine v9 h fun h1 h2=>?_;exact ⟨s,rfl,h1,Option.some.inj h2⟩
 | _=>exact w9 h
theorem one_cps {a:Str} (ha:a.cps.size=1):a=⟨#[a.cps.getD 0 0]⟩:=by
 obtain ⟨⟨cps⟩⟩:=a
 cases cps with
 | nil=>cases ha
 | cons x l=>cases l with
  | nil=>rfl
  | cons=>cases ha
theorem se_repl {o:Expr} {ap pos p1 p2:Pos} {a b:Str} {k1 k2} {pe:PE} (h1:O3 o=true) (h2:(ap.endLine == pos.line)=true) (ha:a.cps.size=1) (hb':(b.cps.toList.all fun c=>decide (c<1114112))=true) (ho:SE prog w A hb Γ c o pe) :
  SE prog w A hb Γ c (.Call (.Attribute o ("replace" : Str) ap) [.Constant (.str a) k1 p1,.Constant (.str b) k2 p2] [] pos) (.repl pe (a.cps.getD 0 0) b.cps.toList):=by
 refine SE.gen (fun _=>rfl) (fun σ=>(z8 Γ pe .val σ).bind fun x=>Q2 x (a.cps.getD 0 0) b.cps.toList) (fun m σ=>rfl) fun env O ow σ s fr xc ht v hv=>?_
 refine z6 fun K0=>?_
 refine y4 hv fun x hx h3=>?_
 refine x13 (repl_inv h3 :) fun l o0 o1 o2=>?_;obtain rfl:=o0;obtain ⟨z1,z2,z3,z4⟩:=o1;obtain rfl:=o2
 refine K0 ?_;clear K0;intro Q E hQ;have hun:U2 env [.Constant (.str a) k1 p1,.Constant (.str b) k2 p2]:=fun _=>⟨rfl,rfl⟩
 refine wpAny_Call_method (T0 h1 ..) (T3 hun (by show 2<20;decide)) h2 F.plainAttrs_str F.slot_str_replace F.type_str_replace (ho.val fr xc ht hx _ _ fun rx s₁ k₁ t₁ r₁=>?_)
 refine z6 fun K0=>?_
 obtain ⟨z,t,rfl⟩:=r₁;refine K0 ?_;clear K0;refine ⟨rfl,(fun _ e=>nomatch e),Calls.callWith_builtin (hun pos).1 (Calls.evalArgs_plain (Calls.spliced_cons (wpAny_Constant_str (k:=k1) (pos:=p1) (Calls.spliced_cons (wpAny_Constant_str (k:=k2) (pos:=p2) (Calls.spliced_nil ?_))))))⟩
 have:=repl_ok (prog:=prog) (w:=w) (A:=A) (E:=E) (Q:=Q) (O:=O) (hb:=hb) (s := { s₁ with toks:=s₁.toks + 1 + 1 }) (t:=t) (u:=s₁.toks) (v:=s₁.toks + 1) (c:=a.cps.getD 0 0) (r:=b.cps.toList) z (fun d hd=>of_decide_eq_true (List.all_eq_true.mp hb' d hd)) z4 z1 z2 z3 (Nat.ne_of_gt t₁) (Nat.succ_ne_zero _) (Nat.ne_of_lt (Nat.lt_succ_self _)) fun rv s' k r=>hQ rv s' ((k₁.trans .tok).trans k) r
 rw [← one_cps ha,show (⟨b.cps.toList.toArray⟩:Str)=b by simp] at this;exact this
theorem se_lst {es:List Expr} {pos:Pos} {pes:List PE} (hl:es.length≤64) (hc:Sv es pes) (he:SEs prog w A hb Γ c es pes):SE prog w A hb Γ c (.List es pos) (.lst pes):=by
 refine SE.gen (fun _=>rfl) (fun σ=>(m6 Γ pes σ).map .list) (fun m σ=>rfl) fun env O ow σ s fr xc ht v hv=>?_
 intro Q E hQ;refine z6 fun K0=>?_
 refine x12 (Option.map_eq_some_iff.mp hv :) fun vs hvs o0=>?_;obtain rfl:=o0
 refine K0 ?_;clear K0;have hz:vs.length≤small:=by have h2:small=1048576:=rfl;have h3:=evEs_len hvs;have h4:=hc.2;lia
 refine wpAny_List_spliced (he env O ow σ s fr xc ht vs hvs pos _ _ fun rvs s' k t r=>⟨?_,?_⟩)
 ·rw [r.length];exact Nat.le_trans hz a8
 ·exact hQ _ _ (k.trans (.push (tk:=s'.toks))) (L4 (xc.kp k) r hz)
theorem se_tpl {es:List Expr} {pos:Pos} {k1} {pes:List PE} (hl:es.length≤64) (hc:Sv es pes) (he:SEs prog w A hb Γ c es pes):SE prog w A hb Γ c (.Tuple es k1 pos) (.tpl pes):=by
 refine SE.gen (fun _=>rfl) (fun σ=>(m6 Γ pes σ).map .tup) (fun m σ=>rfl) fun env O ow σ s fr xc ht v hv=>?_
 intro Q E hQ;refine z6 fun K0=>?_
 refine x12 (Option.map_eq_some_iff.mp hv :) fun vs hvs o0=>?_;obtain rfl:=o0
 refine K0 ?_;clear K0;have hz:vs.length≤small:=by have h2:small=1048576:=rfl;have h3:=evEs_len hvs;have h4:=hc.2;lia
 refine wpAny_Tuple_spliced (he env O ow σ s fr xc ht vs hvs pos _ _ fun rvs s' k t r=>⟨?_,?_⟩)
 ·rw [r.length];exact Nat.le_trans hz a8
 ·exact hQ _ _ (k.trans (.push (tk:=s'.toks))) (new_tup (xc.kp k) r hz)
theorem sbs_one {op:BoolOp} {x:Expr} {a:PE} (ha:SE prog w A hb Γ c x a):SBs prog w A hb Γ c op [x] a:=by
 intro env O ow σ s fr xc ht;refine ⟨fun m v pos hm hv=>(ha env O ow σ s fr xc ht).1 m v hm hv,fun b hv Q E hQ=>?_⟩
 cases op
 ·refine wpAny_allTrue_And_cons (ha.test fr xc ht hv _ _ fun s' k t=>?_)
  cases b
  ·exact hQ _ k t
  ·exact wpAny_allTrue_And_nil (hQ _ k t)
 ·refine wpAny_allTrue_Or_cons (ha.test fr xc ht hv _ _ fun s' k t=>?_)
  cases b
  ·exact wpAny_allTrue_Or_nil (hQ _ k t)
  ·exact hQ _ k t
set_option backward.match.sparseCases true in
theorem sbs_cons {op:BoolOp} {x y:Expr} {ys:List Expr} {a b:PE} (ha:SE prog w A hb Γ c x a) (hb':SBs prog w A hb Γ c op (y::ys) b):SBs prog w A hb Γ c op (x::y::ys) (.bop (op == .And) a b):=by
 intro env O ow σ s fr xc ht;refine ⟨fun m v pos hm hv Q E hQ=>?_,fun r hv Q E hQ=>?_⟩
 ·have hv:((z8 Γ a .val σ).bind fun x=>(truthy x).bind fun t=>if t == (op == .And) then z8 Γ b m σ else some x)=some v:=by cases m <;> first | exact hv | exact absurd rfl hm
  refine y4 hv fun vx hx h1=>?_
  refine y4 h1 fun t htr h2=>?_
  ··show wpAny _ _ (do
     let v ← eval x env
     standAt pos
     let t ← holding [v] (PySem.truthy v)
     match op,t with
     | .And,false | .Or,true=>pure v
     | _,_=>boolOp pos op (evalEach (y::ys) env)) Q E s
    refine wpAny_bind (ha.val fr xc ht hx _ _ fun rv s₁ k₁ t₁ r₁=>wpAny_bind (wpAny_standAt (wpAny_bind (wpAny_holding ?_))))
    refine wpAny_with_toks t₁ (E4 (hb:=hb) htr r₁ fun s₂ k₂ t₂=>?_)
    have go:t=(op == BoolOp.And)→wpAny (model prog w) A (boolOp pos op (evalEach (y::ys) env)) Q E s₂:=fun e=>by
     rw [if_pos (by rw [e];simp)] at h2;exact (hb' env O ow σ s₂ ((fr.kp k₁).kp k₂) ((xc.kp k₁).kp k₂) t₂).1 m v pos hm h2 _ _ fun rv s' k=>hQ rv s' ((k₁.trans k₂).trans k)
    have stop:t≠(op == BoolOp.And)→Q rv s₂:=fun e=>by
     rw [if_neg (by simpa using e)] at h2;obtain rfl:=Option.some.inj h2;exact hQ _ _ (k₁.trans k₂) t₂ (.of (VR.kp k₂ r₁))
    cases op <;> cases t
    ·exact wpAny_pure (stop (by decide))
    ·exact go (by decide)
    ·exact go (by decide)
    ·exact wpAny_pure (stop (by decide))
 ·have hv:y8 ((y8 (z8 Γ a .test σ)).bind fun t=>if t == (op == .And) then z8 Γ b .test σ else some (.bool t))=some r:=hv
  cases hx:y8 (z8 Γ a .test σ) with
  | none=>rw [hx] at hv;exact w9 hv
  | some t =>
   rw [hx] at hv
   cases op
   ·refine wpAny_allTrue_And_cons (ha.test fr xc ht hx _ _ fun s₁ k₁ t₁=>?_)
    cases t
    ·cases hv;exact hQ _ k₁ t₁
    ·exact (hb' env O ow σ s₁ (fr.kp k₁) (xc.kp k₁) t₁).2 r hv _ _ fun s' k=>hQ s' (k₁.trans k)
   ·refine wpAny_allTrue_Or_cons (ha.test fr xc ht hx _ _ fun s₁ k₁ t₁=>?_)
    cases t
    ·exact (hb' env O ow σ s₁ (fr.kp k₁) (xc.kp k₁) t₁).2 r hv _ _ fun s' k=>hQ s' (k₁.trans k)
    ·cases hv;exact hQ _ k₁ t₁
theorem se_bop {op:BoolOp} {es:List Expr} {p:Pos} {pe:PE} (h:SBs prog w A hb Γ c op es pe):SE prog w A hb Γ c (.BoolOp op es p) pe:=by
 intro env O ow σ s fr xc ht;have q:=h env O ow σ s fr xc ht;refine ⟨fun m v hm hv=>?_,fun b hv Q E hQ=>wpAny_isTrue_BoolOp (q.2 b hv Q E hQ)⟩
 rw [arm_eval_BoolOp];exact q.1 m v p hm hv
end
end Mine
namespace Mine
open PySem PyProof.Rows PySem.Spec
structure Frm (h:Heap) (O:Addr→Prop) (h':Heap) (O':Addr→Prop):Prop where
 alive:∀ b o,h.get? b=some o→∃ o',h'.get? b=some o'
 keep:∀ b o,b≠x9→h.get? b=some o→Hardy o→¬ O b→h'.get? b=some o
 thin:∀ b o,h.get? b=some o→¬ O b→¬ O' b
theorem Frm.trans {h h' h'':Heap} {O O' O'':Addr→Prop} (x:Frm h O h' O') (y:Frm h' O' h'' O''):Frm h O h'' O'' :=
 ⟨fun b o e=>let ⟨o',e'⟩:=x.alive b o e;y.alive b o' e',fun b o hb e hd hO=>y.keep b o hb (x.keep b o hb e hd hO) hd (x.thin b o e hO),
  fun b o e hO=>let ⟨o',e'⟩:=x.alive b o e;y.thin b o' e' (x.thin b o e hO)⟩
theorem Soft.frm {h h':Heap} (x:Soft h h') (ht:∀ o,h.get? x9=some o→∃ o',h'.get? x9=some o') (O:Addr→Prop):Frm h O h' O:=by
 refine ⟨fun b o e=>?_,fun b o hb e hd _=>x.get hb hd.1 e,fun _ _ _ q=>q⟩
 by_cases hb:b=x9
 ·subst hb;exact ht o e
 ·refine x12 (x.data hb e :) fun o' e' _=>?_
  exact ⟨o',e'⟩
theorem Frm.kp {hb:HB} {s s':Shared} (k:Kp hb s s') (g:GS hb s) (O:Addr→Prop):Frm s.heap O s'.heap O :=
 k.soft.frm (fun _ _=>(k.gs g).tab.get) O
theorem VR.frm {h h':Heap} {O O':Addr→Prop} {v rv} (k:Frm h O h' O') (r:VR h O v rv):VR h' O' v rv :=
 r.mono (fun b o e l=>k.keep b o l.1 e l.2.2.2 l.2.1) k.thin
theorem VRs.frm {h h':Heap} {O O':Addr→Prop} {v rv} (k:Frm h O h' O') (r:VRs h O v rv):VRs h' O' v rv :=
 r.mono (fun b o e l=>k.keep b o l.1 e l.2.2.2 l.2.1) k.thin
theorem OkO.frm {h h':Heap} {O:Addr→Prop} (x:OkO O h) {O':Addr→Prop} (k:Frm h O' h' O'):OkO O h':=fun a ha=>let ⟨h1,o,h2⟩:=x a ha;⟨h1,k.alive a o h2⟩
theorem Frm.turn {h h':Heap} {O:Addr→Prop} {X:Addr→Prop} (hk:∀ b o,¬ X b→h.get? b=some o→h'.get? b=some o) (ha:∀ b,X b→∃ o',h'.get? b=some o')
  (hX:∀ b o,X b→h.get? b=some o→O b∨¬ Hardy o):Frm h O h' O:=by
 refine ⟨fun b o e=>?_,fun b o hb e hd hO=>?_,fun _ _ _ q=>q⟩
 ·by_cases hb:X b
  ·exact ha b hb
  ·exact ⟨o,hk b o hb e⟩
 ·refine hk b o (fun hx=>?_) e
  rcases hX b o hx e with q | q
  ·exact hO q
  ·exact q hd
noncomputable def IsIt (o:Obj):Prop:=Hardy o∧∃ T,o.cls = .type T∧T∈["list_iterator","range_iterator","enumerate","zip","tuple","str_ascii_iterator"]
theorem IsIt.ne {o:Obj} (x:IsIt o) {T:String} (h:T ∉ ["list_iterator","range_iterator","enumerate","zip","tuple","str_ascii_iterator"]):o.cls ≠ .type T:=fun e=>by
 refine w7 x fun _ o0=>?_;refine x12 o0 fun T' h1 h2=>?_
 rw [h1] at e;injection e with e;exact h (e▸h2)
theorem IsIt.nn {o:Obj} (x:IsIt o):o.cls ≠ .none:=fun e=>by
 refine w7 x fun _ o0=>?_;refine x12 o0 fun T' h1 h2=>?_
 rw [h1] at e;cases e
theorem TabOk.others {h h':Heap} {X:Addr→Prop} (x:TabOk h) (hk:∀ b o,¬ X b→h.get? b=some o→h'.get? b=some o)
  (hX:∀ b o,X b→h.get? b=some o→(o.cls ≠ .none∧o.cls ≠ .type "code")∨¬ Hardy o):TabOk h':=by
 refine z6 fun K0=>?_
 refine x13 x fun ps t i e=>?_
 have hA:¬ X x9:=fun q=>by
  rcases hX _ _ q t.2 with ⟨h1,_⟩ | h1
  ·exact h1 rfl
  ·exact h1 (.fields rfl (show Value.none≠Value.type "frame" by decide))
 refine w7 (id t :) fun o0 t2=>?_;refine x24 o0 fun oc vs g1 g2 g3 g4=>?_
 refine K0 ?_;clear K0;have hC:¬ X e9:=fun q=>by
  rcases hX _ _ q g1 with ⟨_,h1⟩ | h1
  ·exact h1 g2
  ·exact h1 (.fields g3 (l5 g2 (by decide)))
 have hk':∀ b o',b=x9∨b=e9→h.get? b=some o'→h'.get? b=some o':=fun b o' hb e=>hk b o' (by rcases hb with rfl | rfl;exact hA;exact hC) e
 refine ⟨ps,⟨⟨oc,vs,hk' _ _ (.inr rfl) g1,g2,g3,g4⟩,hk' _ _ (.inl rfl) t2⟩,?_,fun pos c hc=>?_⟩
 ·refine z6 fun K0=>?_
  obtain ⟨o1,v1,f,tf,fl,tg,b,n,tt,op,a1,r1,r2,r3,r4,r5,r6,b1,r⟩:=i;refine K0 ?_;clear K0;exact ⟨o1,v1,f,tf,fl,tg,b,n,tt,op,hk' _ _ (.inr rfl) a1,r1,r2,r3,r4,r5,r6,hk' _ _ (.inl rfl) b1,r⟩
 ·refine z6 fun K0=>?_
  refine x23 (e pos c hc :) fun a' q o0 h5 o1=>?_;refine x12 o1 fun o' h6 h7=>?_;obtain rfl:=o0
  refine x44 h5 fun c' oo vv tt e1 e2 e3 e4=>?_
  cases e1
  refine K0 ?_;clear K0;have hne:¬ X a':=fun q=>by
   rcases hX _ _ q e2 with ⟨_,h1⟩ | h1
   ·rw [h6] at e2;cases e2;exact h1 h7
   ·rw [h6] at e2;cases e2;exact h1 (.fields e3 (l5 h7 (by decide)))
  exact ⟨a',q,rfl,⟨a',oo,vv,tt,rfl,hk _ _ hne e2,e3,e4⟩,o',hk _ _ hne h6,h7⟩
theorem Kp.turns {hb:HB} {s₀ s:Shared} {h':Heap} {X:Addr→Prop} {tk:Nat} (x:Kp hb s₀ s) (g₀:GS hb s₀) (hk:∀ b o,¬ X b→s.heap.get? b=some o→h'.get? b=some o) (hn:∀ b,X b→s₀.heap.get? b=Option.none)
  (hX:∀ b o,X b→s.heap.get? b=some o→(o.cls ≠ .none∧o.cls ≠ .type "code")∨¬ Hardy o):Kp hb s₀ { s with heap:=h',toks:=tk } := by
 have hne:∀ b o,s₀.heap.get? b=some o→¬ X b:=fun b o e q=>by rw [hn b q] at e;cases e
 have sf:Soft s₀.heap h':=fun b o' hb e=>by
  rcases x.soft b o' hb e with e' | ⟨hc,sl,e'⟩
  ·exact .inl (hk _ _ (hne b o' e) e')
  ·exact .inr ⟨hc,sl,hk _ _ (hne b o' e) e'⟩
 refine ⟨sf,x.os,fun g=>⟨fun b o' hb e=>?_,(x.gs g).tab.others hk hX,(x.gs g).gens,g.fdS sf⟩⟩
 ·exact hk _ _ (hne b o' (g₀.hard b o' hb e)) ((x.gs g).hard b o' hb e)
structure ItW (prog:Program) (w:World) (A:Around) (tg:Expr) (I:Addr) (wr:List Addr) (xs:List PV) (St:Nat→Heap→(Addr→Prop)→Prop):Prop where
 frm:∀ i h O h' O',St i h O→Frm h O h' O'→(∀ b∈wr,O' b)→(∀ b∈wr,∀ o,h.get? b=some o→h'.get? b=some o)→St i h' O'
 its:∀ i h O,St i h O→∀ b∈wr,∃ o,h.get? b=some o∧IsIt o
 item:∀ i (s:Shared) O x (Q:Value→Shared→Prop) (E:Value→Shared→Prop),St i s.heap O→(∀ b∈wr,O b)→OkO O s.heap→x9<s.heap.objs.size→xs[i]?=some x →
  (∀ rv h' tk,St (i + 1) h' O→(∀ b o,b ∉ wr→s.heap.get? b=some o→h'.get? b=some o)→VR h' O x rv→Q rv { s with heap:=h',toks:=tk }) →
  wpAny (model prog w) A (pyNext (.ref I)) (fun r s₁=>match r with | none=>False | some v=>wpAny (model prog w) A (letOwnedTupleGo tg (.ref I) v) (fun _ s₂=>Q v s₂) E s₁) E s
 done:∀ i (s:Shared) O (Q:Option Value→Shared→Prop) (E:Value→Shared→Prop),St i s.heap O→xs[i]?=none →  i≤xs.length →
  (∀ h' tk,(∀ b o,b ∉ wr→s.heap.get? b=some o→h'.get? b=some o)→Q none { s with heap:=h',toks:=tk })→wpAny (model prog w) A (pyNext (.ref I)) Q E s
 self:∀ i (s:Shared) O (Q:Value→Shared→Prop) (E:Value→Shared→Prop),St i s.heap O→Q (.ref I) s→wpAny (model prog w) A (pyIter (.ref I)) Q E s
section
variable {prog:Program} {w:World} {A:Around} {hb:HB}
noncomputable def StL (I a:Addr) (xs:List PV) (vs:List Value) (i:Nat) (h:Heap) (O:Addr→Prop):Prop :=
 h.IsListIter I a i∧h.PlainList a vs.toArray∧a≠x9∧¬ O a∧VRs h O xs vs
theorem itw_list {tg:Expr} (ht:∀ I v,letOwnedTupleGo tg I v=pure ()) (hA:A.handled=none) (I a:Addr) (xs:List PV) (vs:List Value) (hne:a≠I):ItW prog w A tg I [I] xs (StL I a xs vs) where
 frm:=fun i h O h' O' st k hO' hw=>⟨st.1.at fun o e=>hw I (List.mem_singleton.mpr rfl) o e,by
  refine z6 fun K0=>?_
  refine x05 st fun _ o0 ha hO _=>?_;refine Exists.elim o0 fun n e=>?_
  refine K0 ?_;clear K0;exact ⟨n,k.keep _ _ ha e (.seq rfl (l5 rfl (by decide))) hO⟩,st.2.2.1,by
  refine z6 fun K0=>?_
  refine x05 st fun _ o0 ha hO _=>?_;refine Exists.elim o0 fun n e=>?_
  refine K0 ?_;clear K0;exact k.thin _ _ e hO,st.2.2.2.2.frm k⟩
 its:=fun i h O st b hb=>by
  rw [List.mem_singleton.mp hb];refine z6 fun K0=>?_
  refine w7 st fun o0 _=>?_;refine x13 o0 fun o ho hc hd=>?_
  refine K0 ?_;clear K0;exact ⟨o,ho,.fields hd (l5 hc (by decide)),_,hc,by decide⟩
 item:=fun i s O x Q E st hO ok hz hx hQ=>by
  refine z6 fun K0=>?_
  refine x05 st fun h1 h2 ha hOa hr=>?_
  refine x12 (hr.get hx :) fun rv h3 h4=>?_
  refine K0 ?_;clear K0;refine wpAny_pyNext_list_item h1 h2.isList (x:=rv) (by rw [List.getElem?_toArray];exact h3) fun h' hit' hs'=>?_
  have kk:∀ b o,b≠I→s.heap.get? b=some o→h'.get? b=some o:=fun b o hb e=>hs'.extBut b o hb e
  have fr:Frm s.heap O h' O := .turn (X:=(· = I)) (fun b o hb e=>kk b o hb e) (fun b e=>by subst e;refine x12 hit' fun o ho _=>?_;exact ⟨o,ho⟩) fun b o e _ => .inl (hO b (by rw [show b=I from e];exact List.mem_singleton.mpr rfl))
  refine wpAny_of_eq (ht _ _) (hQ rv h' s.toks ⟨hit',?_,ha,hOa,hr.frm fr⟩ (fun b o hb e=>kk b o (fun q=>hb (List.mem_singleton.mpr q)) e) (h4.frm fr))
  refine Exists.elim h2 fun n e=>?_
  exact ⟨n,kk _ _ hne e⟩
 done:=fun i s O Q E st hx _ hQ=>by
  refine z6 fun K0=>?_
  refine x05 st fun h1 h2 ha hOa hr=>?_
  refine K0 ?_;clear K0;refine wpAny_pyNext_list_end hA h1 h2.isList ?_ fun h' he'=>hQ h' s.toks fun b o hb e=>he' b o (fun h=>hb (List.mem_singleton.mpr h)) e
  rw [List.getElem?_toArray];rw [List.getElem?_eq_none_iff] at hx ⊢;rw [hr.length];exact hx
 self:=fun _ _ _ _ _ st hQ=>wpAny_pyIter_listiter st.1 hQ
end
end Mine
namespace Mine
open PySem PyProof.Rows PySem.Spec
section
variable {prog:Program} {w:World} {A:Around} {hb:HB}
theorem G8:∀ (n i j:Nat),(Y1 i n)[j]?=if j<n then some (.int ((i + j:Nat):Int)) else none
 | 0,i,j=>by simp [Y1]
 | n + 1,i,0=>by simp [Y1]
 | n + 1,i,j + 1=>by
  rw [Y1,List.getElem?_cons_succ,G8 n (i + 1) j];by_cases h:j<n
  ·rw [if_pos h,if_pos (by lia)];congr 2;push_cast;lia
  ·rw [if_neg h,if_neg (by lia)]
theorem B4:∀ (n i:Nat),(Y1 i n).length=n
 | 0,i=>rfl
 | n + 1,i=>by rw [Y1,List.length_cons,B4 n]
noncomputable def StR (I:Addr) (n i:Nat) (h:Heap) (O:Addr→Prop):Prop:=IsRangeIter h I (i:Int) ((n:Int) - i) 1
theorem itw_range {tg:Expr} (ht:∀ I v,letOwnedTupleGo tg I v=pure ()) (hA:A.handled=none) (I:Addr) (n:Nat):ItW prog w A tg I [I] (Y1 0 n) (StR I n) where
 frm:=fun i h O h' O' st k hO' hw=>hw I (List.mem_singleton.mpr rfl) _ st
 its:=fun i h O st b hb=>by
  rw [List.mem_singleton.mp hb];exact ⟨_,st,.fields rfl (l5 rfl (by decide)),_,rfl,by decide⟩
 item:=fun i s O x Q E st hO ok hz hx hQ=>by
  rw [G8] at hx
  split at hx
  ·rename_i hi;obtain rfl:=Option.some.inj hx;have st:IsRangeIter s.heap I (i:Int) ((n:Int) - i) 1:=st;refine wpAny_pyNext_range_item st (by lia) fun h' hit' hs'=>?_
   refine wpAny_of_eq (ht _ _) (hQ _ h' _ ?_ (fun b o hb e=>hs'.extBut b o (fun q=>hb (List.mem_singleton.mpr q)) e) ⟨s.toks,by simp⟩)
   show IsRangeIter h' I ((i + 1:Nat):Int) ((n:Int) - (i + 1:Nat)) 1;have e2:(n:Int) - ((i + 1:Nat):Int)=(n:Int) - (i:Int) - 1:=by push_cast;lia
   rw [e2];exact hit'
  ·exact w9 hx
 done:=fun i s O Q E st hx _ hQ=>by
  rw [G8] at hx
  split at hx
  ·cases hx
  ·rename_i hi;have st:IsRangeIter s.heap I (i:Int) ((n:Int) - i) 1:=st;exact wpAny_pyNext_range_end hA st (by lia) fun h' he'=>hQ h' s.toks fun b o hb e=>he' b o (fun h=>hb (List.mem_singleton.mpr h)) e
 self:=fun _ _ _ _ _ st hQ=>wpAny_pyIter_rangeiter st hQ
theorem G1 {elts:List Expr} {k:Nat} {pos:Pos} {I:Addr} {fp wr wr':List Addr} {n:Nat} {Pt:Nat→Array Value→Prop} {StW:Nat→Heap→Prop} {Mid:Nat→Addr→Heap→Prop} {xs:List PV} {Rel:Heap→(Addr→Prop)→Prop}
  (W:WalksT prog w A I fp wr' n Pt StW Mid) (hw:∀ b∈wr',b∈wr) (hn:n=xs.length)
  (hR:∀ h O h' O',Rel h O→Frm h O h' O'→Rel h' O')
  (hits:∀ i h,StW i h→∀ b∈wr,∃ o,h.get? b=some o∧IsIt o)
  (hmid:∀ i T h,Mid i T h→∀ b∈wr',∃ o,h.get? b=some o)
  (hPt:∀ i vals h O,Pt i vals→Rel h O→∃ x1 x2 v1 v2,vals = #[v1,v2]∧VR h O x1 v1∧VR h O x2 v2∧xs[i]?=some (.tup [x1,x2])) :
  ItW prog w A (.Tuple elts k pos) I wr xs (fun i h O=>StW i h∧(∀ b∈fp,b∈wr∨(b≠x9∧¬ O b∧∃ o,h.get? b=some o∧Hardy o))∧Rel h O) where
 frm:=fun i h O h' O' st kk hO' hww=>by
  refine z6 fun K0=>?_
  refine x03 st fun h1 h2 h3=>?_
  refine K0 ?_;clear K0;refine ⟨W.frame i h h' h1 fun b hb o e=>?_,fun b hb=>?_,hR _ _ _ _ h3 kk⟩
  ·rcases h2 b hb with q | ⟨q1,q2,o',e',q3⟩
   ·exact hww b q o e
   ·rw [e'] at e;obtain rfl:=Option.some.inj e;exact kk.keep b _ q1 e' q3 q2
  ·rcases h2 b hb with q | ⟨q1,q2,o',e',q3⟩
   ·exact .inl q
   ·exact .inr ⟨q1,kk.thin b _ e' q2,o',kk.keep b _ q1 e' q3 q2,q3⟩
 its:=fun i h O st b hb=>hits i h st.1 b hb
 item:=fun i s O x Q E st hO ok hz hx hQ=>by
  refine z6 fun K0=>?_
  refine x03 st fun h1 h2 h3=>?_
  refine K0 ?_;clear K0;have hi:i<n:=by rw [hn];exact (List.getElem?_eq_some_iff.mp hx).1
  refine W.item i s _ _ hi h1 fun T vals h' tk hp hT ht hm hk=>?_
  refine W.go elts k pos i T _ _ _ hm fun h'' st' hk'=>?_
  have hk2:∀ b o,b ∉ wr'→s.heap.get? b=some o→h''.get? b=some o:=fun b o hb e=>hk' b o hb (hk b o hb e)
  have hk3:∀ b o,b ∉ wr→s.heap.get? b=some o→h''.get? b=some o:=fun b o hb e=>hk2 b o (fun q=>hb (hw b q)) e
  have al:∀ b∈wr,∃ o,h''.get? b=some o:=fun b hb=>let ⟨o,e,_⟩:=hits _ _ st' b hb;⟨o,e⟩
  have fr:Frm s.heap O h'' O := .turn (X:=(· ∈ wr)) (fun b o hb e=>hk3 b o hb e) al fun b o e _ => .inl (hO b e)
  refine z6 fun K0=>?_
  refine x44 (hPt i _ s.heap O hp h3 :) fun x1 x2 v1 v2 o0 r1 r2 hx'=>?_;obtain rfl:=o0
  refine K0 ?_;clear K0;rw [hx] at hx';cases hx';refine hQ (.ref T) h'' tk ⟨st',fun b hb=>?_,hR _ _ _ _ h3 fr⟩ hk3 ?_
  ·rcases h2 b hb with q | ⟨q1,q2,o',e',q3⟩
   ·exact .inl q
   ·exact .inr ⟨q1,q2,o',fr.keep b _ q1 e' q3 q2,q3⟩
  ·refine z6 fun K0=>?_
   refine x13 ht fun o ho hc o0=>?_;refine Exists.elim o0 fun nn hd=>?_
   refine K0 ?_;clear K0;have e:=hk' T o (W.apart i T _ hm) ho;refine ⟨by show 2≤small;decide,T,[v1,v2],rfl,?_,?_,⟨o,e,hc,nn,hd⟩,_,_,rfl,r1.frm fr,_,_,rfl,r2.frm fr,rfl⟩
   ·exact Nat.ne_of_gt (Nat.lt_of_lt_of_le hz hT)
   ·intro q;refine z6 fun K0=>?_
    refine w7 (ok T q :) fun _ o0=>?_;refine Exists.elim o0 fun o' e'=>?_
    refine K0 ?_;clear K0;exact Nat.lt_irrefl _ (Nat.lt_of_lt_of_le (Heap.lt_size e') hT)
 done:=fun i s O Q E st hx hi hQ=>by
  have:i=n:=by rw [List.getElem?_eq_none_iff] at hx;lia
  refine z6 fun K0=>?_
  subst this;refine K0 ?_;clear K0;exact W.done s Q E st.1 fun h' tk hk=>hQ h' tk fun b o hb e=>hk b o (fun q=>hb (hw b q)) e
 self:=fun i s O Q E st hQ=>W.self i s Q E st.1 hQ
theorem enumL_get:∀ (xs:List PV) (i j:Nat),(W7 i xs)[j]?=(xs[j]?).map fun x => .tup [.int ((i + j:Nat):Int),x]
 | [],i,j=>by simp [W7]
 | x::xs,i,0=>by simp [W7]
 | x::xs,i,j + 1=>by
  rw [W7,List.getElem?_cons_succ,enumL_get xs (i + 1) j,List.getElem?_cons_succ];congr 2;funext y;congr 3;push_cast;lia
theorem H5:∀ (xs:List PV) (i:Nat),(W7 i xs).length=xs.length
 | [],i=>rfl
 | x::xs,i=>by rw [W7,List.length_cons,List.length_cons,H5 xs]
theorem zipL_get:∀ (xs ys:List PV) (j:Nat),(zipL xs ys)[j]?=match xs[j]?,ys[j]? with | some x,some y=>some (.tup [x,y]) | _,_=>none
 | [],ys,j=>by cases ys <;> rfl
 | x::xs,[],j=>by cases (x::xs)[j]? <;> rfl
 | x::xs,y::ys,0=>rfl
 | x::xs,y::ys,j + 1=>zipL_get xs ys j
theorem J5:∀ (xs ys:List PV),(zipL xs ys).length=min xs.length ys.length
 | [],ys=>by cases ys <;> exact (Nat.zero_min _).symm
 | x::xs,[]=>rfl
 | x::xs,y::ys=>by show (zipL xs ys).length + 1=min (xs.length + 1) (ys.length + 1);rw [J5 xs ys];lia
theorem itw_enum {elts:List Expr} {k:Nat} {pos:Pos} (hA:A.handled=none) (e it l:Addr) (hei:e≠it) (hle:l≠e) (hli:l≠it) (xs:List PV) (vs:List Value) (hlen:vs.length=xs.length) :
  ItW prog w A (.Tuple elts k pos) e [e,it] (W7 0 xs) (fun i h O=>((∃ old,IsEnum h e it i old)∧h.IsListIter it l i∧h.IsList l vs.toArray)∧(∀ b∈[e,it,l],b∈[e,it]∨(b≠x9∧¬ O b∧∃ o,h.get? b=some o∧Hardy o))∧VRs h O xs vs):=by
 refine G1 (WalksT.enumerate (prog:=prog) (w:=w) hA e it l hei hle hli vs.toArray) (fun _ h=>h) (by rw [List.size_toArray,H5,hlen]) (fun h O h' O' r k=>r.frm k) ?_ ?_ ?_
 ·intro i h st b hb;refine z6 fun K0=>?_
  obtain ⟨⟨old,he⟩,⟨o,ho,hc,hd⟩,_⟩:=st;refine K0 ?_;clear K0;rcases List.mem_cons.mp hb with rfl | hb
  ·exact ⟨_,he,.fields rfl (l5 rfl (by decide)),_,rfl,by decide⟩
  ·rw [List.mem_singleton.mp hb];exact ⟨o,ho,.fields hd (l5 hc (by decide)),_,hc,by decide⟩
 ·intro i T h st b hb;refine z6 fun K0=>?_
  obtain ⟨⟨x,he⟩,⟨o,ho,hc,hd⟩,_⟩:=st;refine K0 ?_;clear K0;rcases List.mem_cons.mp hb with rfl | hb
  ·exact ⟨_,he⟩
  ·rw [List.mem_singleton.mp hb];exact ⟨o,ho⟩
 ·intro i vals h O hp r;refine z6 fun K0=>?_
  obtain ⟨t,x,hx,rfl⟩:=hp;rw [List.getElem?_toArray] at hx;have hi:i<xs.length:=by rw [← hlen];exact (List.getElem?_eq_some_iff.mp hx).1
  obtain ⟨rv,h1,h2⟩:=r.get (List.getElem?_eq_getElem hi);refine K0 ?_;clear K0;rw [hx] at h1;obtain rfl:=Option.some.inj h1;exact ⟨.int i,xs[i],_,_,rfl,⟨t,rfl⟩,h2,by rw [enumL_get,List.getElem?_eq_getElem hi];simp⟩
theorem itw_zip {elts:List Expr} {k:Nat} {pos:Pos} (hA:A.handled=none) (z TI TO i1 i2 l1 l2:Addr) (D:ZipApart z TI TO i1 i2 l1 l2) (xs ys:List PV) (vs us:List Value) (hlen:vs.length=xs.length) (hlen':us.length=ys.length) :
  ItW prog w A (.Tuple elts k pos) z [z,TI,TO,i1,i2] (zipL xs ys) (fun i h O=>(IsZip h z TI TO .none∧IsPair h TI (.ref i1) (.ref i2)∧(∃ a b,IsPair h TO a b)∧h.IsListIter i1 l1 i∧h.IsListIter i2 l2 i∧h.IsList l1 vs.toArray∧h.IsList l2 us.toArray) ∧
   (∀ b∈[z,TI,TO,i1,i2,l1,l2],b∈[z,TI,TO,i1,i2]∨(b≠x9∧¬ O b∧∃ o,h.get? b=some o∧Hardy o))∧VRs h O xs vs∧VRs h O ys us):=by
 refine G1 (Rel:=fun h O=>VRs h O xs vs∧VRs h O ys us) (WalksT.zip2 (prog:=prog) (w:=w) hA z TI TO i1 i2 l1 l2 D vs.toArray us.toArray) ?_ (by rw [List.size_toArray,List.size_toArray,J5,hlen,hlen']) (fun h O h' O' r k=>⟨r.1.frm k,r.2.frm k⟩) ?_ ?_ ?_
 ·intro b hb;simp at hb ⊢;rcases hb with rfl | rfl | rfl | rfl <;> simp
 ·intro i h st b hb;refine z6 fun K0=>?_
  refine x06 st fun hz hTI o0 o3 o4 _=>?_;refine x21 o0 fun a c hTO=>?_;refine x13 o3 fun o1 h1 hc1 hd1=>?_;refine x13 o4 fun o2 h2 hc2 hd2=>?_
  refine K0 ?_;clear K0;simp only [List.mem_cons,List.not_mem_nil,or_false] at hb;rcases hb with rfl | rfl | rfl | rfl | rfl
  ·exact ⟨_,hz,.fields rfl (l5 rfl (by decide)),_,rfl,by decide⟩
  ·exact ⟨_,hTI,.seq rfl (l5 rfl (by decide)),_,rfl,by decide⟩
  ·exact ⟨_,hTO,.seq rfl (l5 rfl (by decide)),_,rfl,by decide⟩
  ·exact ⟨_,h1,.fields hd1 (l5 hc1 (by decide)),_,hc1,by decide⟩
  ·exact ⟨_,h2,.fields hd2 (l5 hc2 (by decide)),_,hc2,by decide⟩
 ·intro i T h st b hb;refine z6 fun K0=>?_
  refine x06 st fun hz hTI o0 o3 o4 _=>?_;refine x21 o0 fun a c hTO=>?_;refine x13 o3 fun o1 h1 hc1 hd1=>?_;refine x13 o4 fun o2 h2 hc2 hd2=>?_
  refine K0 ?_;clear K0;simp only [List.mem_cons,List.not_mem_nil,or_false] at hb;rcases hb with rfl | rfl | rfl | rfl
  ·exact ⟨_,hz⟩
  ·exact ⟨_,hTO⟩
  ·exact ⟨_,h1⟩
  ·exact ⟨_,h2⟩
 ·intro i vals h O hp r;refine z6 fun K0=>?_
  refine x23 hp fun x y hx hy rfl=>?_
  rw [List.getElem?_toArray] at hx hy;have hi:i<xs.length:=by rw [← hlen];exact (List.getElem?_eq_some_iff.mp hx).1
  have hj:i<ys.length:=by rw [← hlen'];exact (List.getElem?_eq_some_iff.mp hy).1
  refine x12 (r.1.get (List.getElem?_eq_getElem hi) :) fun rv h1 h2=>?_
  refine x12 (r.2.get (List.getElem?_eq_getElem hj) :) fun rv' h1' h2'=>?_
  refine K0 ?_;clear K0;rw [hx] at h1;obtain rfl:=Option.some.inj h1;rw [hy] at h1';cases h1';exact ⟨xs[i],ys[i],_,_,rfl,h2,h2',by rw [zipL_get,List.getElem?_eq_getElem hi,List.getElem?_eq_getElem hj]⟩
end
end Mine
namespace Mine
open PySem PyProof.Rows PySem.Spec
section
variable {prog:Program} {w:World} {A:Around} {E:Value→Shared→Prop} {s:Shared}
structure R5 (z TI TO i1 i2 l1:Addr):Prop where
 TIz:TI≠z
 TOz:TO≠z
 i1z:i1≠z
 i2z:i2≠z
 TITO:TI≠TO
 TIi1:TI≠i1
 TIi2:TI≠i2
 TOi1:TO≠i1
 TOi2:TO≠i2
 i12:i1≠i2
 l1z:l1≠z
 l1TO:l1≠TO
 l1i1:l1≠i1
 l1i2:l1≠i2
noncomputable abbrev AscI (h:Heap) (it:Addr) (x:Str) (t:Tok) (i:Nat):Prop:=h.IsStrIter it "str_ascii_iterator" x t i
theorem ascI_ext {h h':Heap} {a x t i} (y:AscI h a x t i) (hk:∀ o,h.get? a=some o→h'.get? a=some o):AscI h' a x t i:=let ⟨o,ho,r⟩:=y;⟨o,hk o ho,r⟩
theorem za1 {z TI TO i1 i2 l1:Addr} {k1 k2:Nat} {xs:Array Value} {y:Str} {t:Tok} {x a b:Value} {c₀:Nat} {Q:Value→Shared→Prop} (D:R5 z TI TO i1 i2 l1)
  (hz:IsZip s.heap z TI TO .none) (hTI:IsPair s.heap TI (.ref i1) (.ref i2)) (hTO:IsPair s.heap TO a b)
  (h1:s.heap.IsListIter i1 l1 k1) (h2:AscI s.heap i2 y t k2) (hl1:s.heap.IsList l1 xs) (hx:xs[k1]?=some x) (hy:y.cps[k2]?=some c₀)
  (hQ:∀ h' tk u,IsZip h' z TI TO (rawInt s.heap.objs.size)→IsPair h' TO x (.str ⟨#[c₀]⟩ u)→h'.IsListIter i1 l1 (k1 + 1)→AscI h' i2 y t (k2 + 1)→IsPair h' s.heap.objs.size x (.str ⟨#[c₀]⟩ u)→h'.objs.size=s.heap.objs.size + 1 →
   (∀ c o,c≠z→c≠TO→c≠i1→c≠i2→s.heap.get? c=some o→h'.get? c=some o)→Q (.ref s.heap.objs.size) { s with heap:=h',toks:=tk }) :
  wpAny (model prog w) A (Builtin.«zip.__next__» ⟨[.ref z],[]⟩) (fun fin s'=>∃ v,fin = .done (.ret v)∧Q v s') E s:=by
 show wpAny _ _ (field (.ref z) 2 >>= _) _ _ _;refine wpAny_bind (wpAny_field hz rfl (x := .bool false) rfl ?_);refine wpAny_bind (wpAny_field hz rfl (x := .ref TI) rfl ?_);refine wpAny_bind (wpAny_seqItems hTI rfl ?_);refine wpAny_bind ?_;refine wpAny_bind (wpAny_field hz rfl (x := .none) rfl (wpAny_pure ?_));simp only [if_true];refine wpAny_bind (wpAny_rule ?_);refine wpAny_bind (wpAny_field hz rfl (x := .ref TO) rfl ?_);refine wpAny_bind (wpAny_setField_rec hz (by simp) fun h₁ hz₁ hs₁=>?_)
 replace hz₁:IsZip h₁ z TI TO .ellipsis:=hz₁;refine wpAny_bind ?_;simp only [List.zipIdx_cons,List.zipIdx_nil,List.forIn_cons,List.forIn_nil];refine wpAny_bind (wpAny_bind (wpAny_onRaise ?_));refine wpAny_bind (wpAny_nextOf_list_item (h1.extBut hs₁.extBut D.i1z) (hl1.extBut hs₁.extBut D.l1z) hx fun h₂ h1₂ hs₂=>wpAny_pure ?_)
 have hTO₂:IsPair h₂ TO a b:=hs₂.extBut _ _ D.TOi1 (hs₁.extBut _ _ D.TOz hTO);refine wpAny_bind (wpAny_seqItems hTO₂ rfl ?_);refine wpAny_bind (wpAny_updateSeq_pair hTO₂ fun h₃ hTO₃ hs₃=>?_)
 replace hTO₃:IsPair h₃ TO x b:=hTO₃;refine wpAny_bind (wpAny_letGo (wpAny_pure ?_));refine wpAny_bind (wpAny_bind (wpAny_onRaise ?_));refine wpAny_bind (wpAny_nextOf_ascii_item (((h2.extBut hs₁.extBut D.i2z).extBut hs₂.extBut D.i12.symm).extBut hs₃.extBut D.TOi2.symm) hy fun h₄ h2₄ hs₄=>wpAny_pure ?_)
 have hTO₄:IsPair h₄ TO x b:=hs₄.extBut _ _ D.TOi2 hTO₃;refine wpAny_bind (wpAny_seqItems hTO₄ rfl ?_);refine wpAny_bind (wpAny_updateSeq_pair hTO₄ fun h₅ hTO₅ hs₅=>?_)
 replace hTO₅:IsPair h₅ TO x (.str ⟨#[c₀]⟩ s.toks):=hTO₅;refine wpAny_bind (wpAny_letGo (wpAny_pure (wpAny_pure ?_)));refine wpAny_bind (wpAny_seqItems hTO₅ rfl ?_);refine wpAny_bind (wpAny_newTuple ?_);have hsz:h₅.objs.size=s.heap.objs.size:=by rw [hs₅.1,hs₄.1,hs₃.1,hs₂.1,hs₁.1]
 have hz₅:IsZip h₅ z TI TO .ellipsis:=hs₅.extBut _ _ D.TOz.symm (hs₄.extBut _ _ D.i2z.symm (hs₃.extBut _ _ D.TOz.symm (hs₂.extBut _ _ D.i1z.symm hz₁)));have hk₅:∀ c o,c≠z→c≠TO→c≠i1→c≠i2→s.heap.get? c=some o→h₅.get? c=some o:=fun c o c1 c2 c3 c4 e =>
  hs₅.extBut _ _ c2 (hs₄.extBut _ _ c4 (hs₃.extBut _ _ c2 (hs₂.extBut _ _ c3 (hs₁.extBut _ _ c1 e))))
 have h1₅:h₅.IsListIter i1 l1 (k1 + 1):=((h1₂.extBut hs₃.extBut D.TOi1.symm).extBut hs₄.extBut D.i12).extBut hs₅.extBut D.TOi1.symm;have h2₅:AscI h₅ i2 y t (k2 + 1):=h2₄.extBut hs₅.extBut D.TOi2.symm;have hzlt:z<h₅.objs.size:=Heap.lt_size hz₅;refine wpAny_bind ?_;have hz₆:IsZip (h₅.push { cls := .type "tuple",data := .seq #[x,.str ⟨#[c₀]⟩ s.toks] }) z TI TO .ellipsis:=Heap.get?_push_of_some _ hz₅;refine wpAny_bind (wpAny_setField_rec hz₆ (by simp) fun h₇ hz₇ hs₇=>?_)
 replace hz₇:IsZip h₇ z TI TO (rawInt h₅.objs.size):=hz₇;refine wpAny_setField_rec hz₇ (by simp) fun h₈ hz₈ hs₈=>?_
 replace hz₈:IsZip h₈ z TI TO (rawInt h₅.objs.size):=hz₈;have up:∀ c o,c≠z→h₅.get? c=some o→h₈.get? c=some o:=fun c o c1 e=>hs₈.extBut _ _ c1 (hs₇.extBut _ _ c1 (Heap.get?_push_of_some _ e))
 have hT₈:IsPair h₈ h₅.objs.size x (.str ⟨#[c₀]⟩ s.toks):=hs₈.extBut _ _ (Nat.ne_of_gt hzlt) (hs₇.extBut _ _ (Nat.ne_of_gt hzlt) (Heap.get?_push_size _ rfl));have hz8:h₈.objs.size=h₅.objs.size + 1:=by rw [hs₈.1,hs₇.1,Heap.size_push]
 rw [hsz] at hz₈ hT₈ hz8;refine wpAny_pure ⟨_,rfl,?_⟩;rw [hsz];exact hQ h₈ _ _ hz₈ (up _ _ D.TOz hTO₅) (h1₅.at fun o e=>up _ o D.i1z e) (ascI_ext h2₅ fun o e=>up _ o D.i2z e) hT₈ hz8 fun c o c1 c2 c3 c4 e=>up c o c1 (hk₅ c o c1 c2 c3 c4 e)
theorem zipS_next_end {z TI TO i1 i2 l1:Addr} {k1 k2:Nat} {xs:Array Value} {y:Str} {t:Tok} {a b:Value} {Q:Fin→Shared→Prop} (hh:A.handled=none) (D:R5 z TI TO i1 i2 l1)
  (hz:IsZip s.heap z TI TO .none) (hTI:IsPair s.heap TI (.ref i1) (.ref i2)) (hTO:IsPair s.heap TO a b)
  (h1:s.heap.IsListIter i1 l1 k1) (h2:AscI s.heap i2 y t k2) (hl1:s.heap.IsList l1 xs) (hend:xs[k1]?=none∨y.cps[k2]?=none)
  (hE:∀ h' e,(∀ c o,c≠z→c≠TO→c≠i1→c≠i2→s.heap.get? c=some o→h'.get? c=some o)→(∃ o,h'.get? e=some o∧o.cls = .type "StopIteration")→E (.ref e) { s with heap:=h' }) :
  wpAny (model prog w) A (Builtin.«zip.__next__» ⟨[.ref z],[]⟩) Q E s:=by
 show wpAny _ _ (field (.ref z) 2 >>= _) _ _ _;refine wpAny_bind (wpAny_field hz rfl (x := .bool false) rfl ?_);refine wpAny_bind (wpAny_field hz rfl (x := .ref TI) rfl ?_);refine wpAny_bind (wpAny_seqItems hTI rfl ?_);refine wpAny_bind ?_;refine wpAny_bind (wpAny_field hz rfl (x := .none) rfl (wpAny_pure ?_));simp only [if_true];refine wpAny_bind (wpAny_rule ?_);refine wpAny_bind (wpAny_field hz rfl (x := .ref TO) rfl ?_);refine wpAny_bind (wpAny_setField_rec hz (by simp) fun h₁ hz₁ hs₁=>?_)
 replace hz₁:IsZip h₁ z TI TO .ellipsis:=hz₁;refine wpAny_bind ?_;simp only [List.zipIdx_cons,List.zipIdx_nil,List.forIn_cons,List.forIn_nil];refine wpAny_bind (wpAny_bind (wpAny_onRaise ?_))
 cases hx:xs[k1]? with
 | none =>
  refine wpAny_bind (wpAny_nextOf_list_end hh (h1.extBut hs₁.extBut D.i1z) (hl1.extBut hs₁.extBut D.l1z) hx fun h₂ e hs₂ he=>?_)
  refine z6 fun K0=>?_
  refine x12 he fun oe hoe hce=>?_
  refine K0 ?_
  clear K0
  have hz₂:IsZip h₂ z TI TO .ellipsis:=hs₂ _ _ D.i1z.symm hz₁
  have hez:e≠z:=fun x=>by subst x;rw [hz₂] at hoe;cases hoe;simp at hce
  refine wpAny_setField_rec hz₂ (by simp) fun h₃ _ hs₃=>hE h₃ e (fun c o c1 _ c3 _ x=>hs₃.extBut _ _ c1 (hs₂ _ _ c3 (hs₁.extBut _ _ c1 x))) ⟨oe,hs₃.extBut _ _ hez hoe,hce⟩
 | some x =>
  have hy:y.cps[k2]?=none:=by rcases hend with h | h;rw [hx] at h;cases h;exact h
  refine wpAny_bind (wpAny_nextOf_list_item (h1.extBut hs₁.extBut D.i1z) (hl1.extBut hs₁.extBut D.l1z) hx fun h₂ h1₂ hs₂=>wpAny_pure ?_)
  have hTO₂:IsPair h₂ TO a b:=hs₂.extBut _ _ D.TOi1 (hs₁.extBut _ _ D.TOz hTO)
  refine wpAny_bind (wpAny_seqItems hTO₂ rfl ?_)
  refine wpAny_bind (wpAny_updateSeq_pair hTO₂ fun h₃ hTO₃ hs₃=>?_)
  refine wpAny_bind (wpAny_letGo (wpAny_pure ?_))
  refine wpAny_bind (wpAny_bind (wpAny_onRaise ?_))
  refine wpAny_bind (wpAny_nextOf_ascii_end hh (((h2.extBut hs₁.extBut D.i2z).extBut hs₂.extBut D.i12.symm).extBut hs₃.extBut D.TOi2.symm) hy fun h₄ e hs₄ he=>?_)
  refine z6 fun K0=>?_
  refine x12 he fun oe hoe hce=>?_
  refine K0 ?_
  clear K0
  have hz₄:IsZip h₄ z TI TO .ellipsis:=hs₄ _ _ D.i2z.symm (hs₃.extBut _ _ D.TOz.symm (hs₂.extBut _ _ D.i1z.symm hz₁))
  have hez:e≠z:=fun x=>by subst x;rw [hz₄] at hoe;cases hoe;simp at hce
  refine wpAny_setField_rec hz₄ (by simp) fun h₅ _ hs₅=>hE h₅ e (fun c o c1 c2 c3 c4 x=>hs₅.extBut _ _ c1 (hs₄ _ _ c4 (hs₃.extBut _ _ c2 (hs₂.extBut _ _ c3 (hs₁.extBut _ _ c1 x))))) ⟨oe,hs₅.extBut _ _ hez hoe,hce⟩
theorem za0 {z TI TO i1 i2 l1:Addr} {k1 k2:Nat} {xs:Array Value} {y:Str} {t:Tok} {x a b:Value} {c₀:Nat} {Q:Option Value→Shared→Prop} (D:R5 z TI TO i1 i2 l1)
  (hz:IsZip s.heap z TI TO .none) (hTI:IsPair s.heap TI (.ref i1) (.ref i2)) (hTO:IsPair s.heap TO a b)
  (h1:s.heap.IsListIter i1 l1 k1) (h2:AscI s.heap i2 y t k2) (hl1:s.heap.IsList l1 xs) (hx:xs[k1]?=some x) (hy:y.cps[k2]?=some c₀)
  (hQ:∀ h' tk u,IsZip h' z TI TO (rawInt s.heap.objs.size)→IsPair h' TO x (.str ⟨#[c₀]⟩ u)→h'.IsListIter i1 l1 (k1 + 1)→AscI h' i2 y t (k2 + 1)→IsPair h' s.heap.objs.size x (.str ⟨#[c₀]⟩ u)→h'.objs.size=s.heap.objs.size + 1 →
   (∀ c o,c≠z→c≠TO→c≠i1→c≠i2→s.heap.get? c=some o→h'.get? c=some o)→Q (some (.ref s.heap.objs.size)) { s with heap:=h',toks:=tk }) :
  wpAny (model prog w) A (pyNext (.ref z)) Q E s:=by
 have hT:s.TypeIs (.ref z) "zip" := ⟨_,hz,rfl⟩;exact wpAny_bind (wpAny_attempt (wpAny_callSpecial?_slot (name:=Str.ofString "__next__") hT F.slot_zip_next
  (wpAny_call_entry F.slot_zip_next hT F.entry_zip_next
   (za1 D hz hTI hTO h1 h2 hl1 hx hy fun h' tk u a1 a2 a3 a4 a5 a6 a7=>wpAny_pure (hQ h' tk u a1 a2 a3 a4 a5 a6 a7)) (F.args_zip_next_1 _))))
theorem zaz {z TI TO i1 i2 l1:Addr} {k1 k2:Nat} {xs:Array Value} {y:Str} {t:Tok} {a b:Value} {Q:Option Value→Shared→Prop} (hh:A.handled=none) (D:R5 z TI TO i1 i2 l1)
  (hz:IsZip s.heap z TI TO .none) (hTI:IsPair s.heap TI (.ref i1) (.ref i2)) (hTO:IsPair s.heap TO a b)
  (h1:s.heap.IsListIter i1 l1 k1) (h2:AscI s.heap i2 y t k2) (hl1:s.heap.IsList l1 xs) (hend:xs[k1]?=none∨y.cps[k2]?=none)
  (hQ:∀ h',(∀ c o,c≠z→c≠TO→c≠i1→c≠i2→s.heap.get? c=some o→h'.get? c=some o)→Q none { s with heap:=h' }):wpAny (model prog w) A (pyNext (.ref z)) Q E s:=by
 have hT:s.TypeIs (.ref z) "zip" := ⟨_,hz,rfl⟩;refine wpAny_bind (wpAny_attempt (wpAny_callSpecial?_slot (name:=Str.ofString "__next__") hT F.slot_zip_next
  (wpAny_call_entry F.slot_zip_next hT F.entry_zip_next (zipS_next_end hh D hz hTI hTO h1 h2 hl1 hend fun h' e hk he=>?_) (F.args_zip_next_1 _))))
 refine z6 fun K0=>?_
 refine x12 he fun o ho hc=>?_
 refine K0 ?_;clear K0;refine wpAny_bind (wpAny_isInstance (T := "StopIteration") (b:=true) ⟨o,ho,hc⟩ isSubtype_stop ?_);exact wpAny_pure (hQ _ hk)
theorem WalksT.zipS (hh:A.handled=none) (z TI TO i1 i2 l1:Addr) (D:R5 z TI TO i1 i2 l1) (xs:Array Value) (y:Str) (t:Tok) :
  WalksT prog w A z [z,TI,TO,i1,i2,l1] [z,TO,i1,i2] (min xs.size y.cps.size)
   (fun i vals=>∃ x c u,xs[i]?=some x∧y.cps[i]?=some c∧vals = #[x,.str ⟨#[c]⟩ u])
   (fun i h=>IsZip h z TI TO .none∧IsPair h TI (.ref i1) (.ref i2)∧(∃ a b,IsPair h TO a b)∧h.IsListIter i1 l1 i∧AscI h i2 y t i∧h.IsList l1 xs)
   (fun i T h=>IsZip h z TI TO (rawInt T)∧IsPair h TI (.ref i1) (.ref i2)∧(∃ a b,IsPair h TO a b)∧h.IsListIter i1 l1 (i + 1)∧AscI h i2 y t (i + 1)∧h.IsList l1 xs ∧
    T≠z∧T≠TO∧T≠i1∧T≠i2) where
 sub:=fun c hc=>by simp at hc ⊢;rcases hc with rfl | rfl | rfl | rfl <;> simp
 frame:=fun i h h' hst hk=>by
  refine z6 fun K0=>?_
  refine x06 hst fun hz hTI o0 h1 h2 hl1=>?_;refine x21 o0 fun a b hTO=>?_
  refine K0 ?_;clear K0;exact ⟨hk z (by simp) _ hz,hk TI (by simp) _ hTI,⟨a,b,hk TO (by simp) _ hTO⟩,h1.at fun o e=>hk i1 (by simp) o e,ascI_ext h2 fun o e=>hk i2 (by simp) o e,
   hl1.at fun o e=>hk l1 (by simp) o e⟩
 item:=fun i s Q E hi hst hQ=>by
  refine z6 fun K0=>?_
  refine x06 hst fun hz hTI o0 h1 h2 hl1=>?_;refine x21 o0 fun a b hTO=>?_
  refine K0 ?_;clear K0;have hix:i<xs.size:=Nat.lt_of_lt_of_le hi (Nat.min_le_left ..);have hiy:i<y.cps.size:=Nat.lt_of_lt_of_le hi (Nat.min_le_right ..);refine za0 D hz hTI hTO h1 h2 hl1 (Array.getElem?_eq_getElem hix) (Array.getElem?_eq_getElem hiy) fun h' tk u a1 a2 a3 a4 a5 a6 hk=>?_
  have lt:∀ {c o},s.heap.get? c=some o→s.heap.objs.size≠c:=fun e=>Nat.ne_of_gt (Heap.lt_size e)
  exact hQ s.heap.objs.size #[xs[i],.str ⟨#[y.cps[i]]⟩ u] h' tk ⟨_,_,u,Array.getElem?_eq_getElem hix,Array.getElem?_eq_getElem hiy,rfl⟩ (Nat.le_refl _) ⟨_,a5,rfl,_,rfl⟩
   ⟨a1,hk _ _ D.TIz D.TITO D.TIi1 D.TIi2 hTI,⟨_,_,a2⟩,a3,a4,hl1.at fun o e=>hk _ o D.l1z D.l1TO D.l1i1 D.l1i2 e,
    lt hz,lt hTO,(by refine x12 h1 fun _ e _=>?_;exact lt e),(by refine x12 h2 fun _ e _=>?_;exact lt e)⟩
   fun c o hc e=>hk c o (fun x=>hc (by simp [x])) (fun x=>hc (by simp [x])) (fun x=>hc (by simp [x])) (fun x=>hc (by simp [x])) e
 go:=fun elts k pos i T s Q E hm hQ=>by
  refine z6 fun K0=>?_
  refine x07 hm fun hz hTI o0 h1 h2 hl1 _=>?_;refine x21 o0 fun a b hTO=>?_
  refine K0 ?_;clear K0;refine wpAny_letOwnedTupleGo_zip hz fun h' hz' hs'=>hQ h' ⟨hz',hs'.extBut _ _ D.TIz hTI,⟨a,b,hs'.extBut _ _ D.TOz hTO⟩,h1.extBut hs'.extBut D.i1z,h2.extBut hs'.extBut D.i2z,
   hl1.extBut hs'.extBut D.l1z⟩ fun c o hc e=>hs'.extBut _ _ (fun x=>hc (by simp [x])) e
 apart:=fun i T h hm hT=>by
  refine z6 fun K0=>?_
  refine x010 hm fun _ _ _ _ _ _ t1 t2 t3 t4=>?_
  refine K0 ?_;clear K0;simp at hT;rcases hT with rfl | rfl | rfl | rfl
  ·exact t1 rfl
  ·exact t2 rfl
  ·exact t3 rfl
  ·exact t4 rfl
 done:=fun s Q E hst hQ=>by
  refine z6 fun K0=>?_
  refine x06 hst fun hz hTI o0 h1 h2 hl1=>?_;refine x21 o0 fun a b hTO=>?_
  refine K0 ?_;clear K0;have hend:xs[min xs.size y.cps.size]?=none∨y.cps[min xs.size y.cps.size]?=none:=by
   rcases Nat.le_total xs.size y.cps.size with h | h
   ·exact .inl (by rw [Nat.min_eq_left h];exact Array.getElem?_eq_none (Nat.le_refl _))
   ·exact .inr (by rw [Nat.min_eq_right h];exact Array.getElem?_eq_none (Nat.le_refl _))
  exact zaz hh D hz hTI hTO h1 h2 hl1 hend fun h' hk=>hQ h' s.toks fun c o hc e =>
   hk c o (fun x=>hc (by simp [x])) (fun x=>hc (by simp [x])) (fun x=>hc (by simp [x])) (fun x=>hc (by simp [x])) e
 self:=fun i s Q E hst hQ=>wpAny_pyIter_zip hst.1 hQ
noncomputable abbrev zipS2 (h:Heap) (l1:Addr) (y:Str) (t:Tok):Heap:=(zipH1 h l1).push { cls := .type "str_ascii_iterator",data := .fields #[.str y t,.int 0 0] }
noncomputable abbrev zipS3 (h:Heap) (l1:Addr) (y:Str) (t:Tok):Heap:=(zipS2 h l1 y t).push { cls := .type "tuple",data := .seq #[.ref h.objs.size,.ref (zipH1 h l1).objs.size] }
noncomputable abbrev zipS4 (h:Heap) (l1:Addr) (y:Str) (t:Tok):Heap:=(zipS3 h l1 y t).push { cls := .type "tuple",data := .seq #[.none,.none] }
noncomputable abbrev zipS5 (h:Heap) (l1:Addr) (y:Str) (t:Tok):Heap:=(zipS4 h l1 y t).push { cls := .type "zip",data := .fields #[.none,.bool false,.bool false,.ref (zipS2 h l1 y t).objs.size,.ref (zipS3 h l1 y t).objs.size] }
set_option maxHeartbeats 4000000 in
theorem zao (l1:Addr) (xs:Array Value) (y:Str) (t:Tok) (hy:y.cps.all (· < 128)=true) :
  Meets (Builtin.«zip.__new__» ⟨[.type "zip",.ref l1,.str y t],[]⟩) (fun _ R s=>s.heap.IsList l1 xs ∧
   R (.ok (.ret (.ref (zipS4 s.heap l1 y t).objs.size))) { s with heap:=zipS5 s.heap l1 y t }) :=
 .of_wp fun prog w A R s h=>by
  obtain ⟨hp,g,d,tk,os⟩:=s;refine w7 h fun hl1 h=>?_
  have hsub:=sub_zip;have hL1:Heap.IsList (Shared.heap ⟨hp,g,d,tk,os⟩) l1 xs:=hl1
  wp_walk using wpAny_pyIter_list hL1,wpAny_pyIter_ascii hy
  exact ⟨_,rfl,h⟩
theorem call_zip_str {l1:Addr} {xs:Array Value} {y:Str} {t:Tok} {Q:Value→Shared→Prop} (hl1:s.heap.IsList l1 xs) (hy:y.cps.all (· < 128)=true)
  (h:∀ h',IsZip h' (s.heap.objs.size + 4) (s.heap.objs.size + 2) (s.heap.objs.size + 3) .none→IsPair h' (s.heap.objs.size + 2) (.ref s.heap.objs.size) (.ref (s.heap.objs.size + 1)) →
   IsPair h' (s.heap.objs.size + 3) .none .none→h'.IsListIter s.heap.objs.size l1 0→AscI h' (s.heap.objs.size + 1) y t 0→h'.objs.size=s.heap.objs.size + 5 →
   (∀ c o,s.heap.get? c=some o→h'.get? c=some o)→Q (.ref (s.heap.objs.size + 4)) { s with heap:=h' }) :
  wpAny (model prog w) A (call (.type "zip") [.ref l1,.str y t]) Q E s:=by
 refine callType_new F.called_zip (by decide) (F.typeCall_zip_2 _ _) (F.newCall_zip_2 _ _) (fun obj=>F.args_object_init_3 obj _ _) F.entry_zip_new
  (zao l1 xs y t hy) ⟨hl1,?_⟩
 have z1:(zipH1 s.heap l1).objs.size=s.heap.objs.size + 1:=Heap.size_push ..;have z2:(zipS2 s.heap l1 y t).objs.size=s.heap.objs.size + 2:=by rw [Heap.size_push,z1]
 have z3:(zipS3 s.heap l1 y t).objs.size=s.heap.objs.size + 3:=by rw [Heap.size_push,z2]
 have z4:(zipS4 s.heap l1 y t).objs.size=s.heap.objs.size + 4:=by rw [Heap.size_push,z3]
 have z5:(zipS5 s.heap l1 y t).objs.size=s.heap.objs.size + 5:=by rw [Heap.size_push,z4]
 have g5:(zipS5 s.heap l1 y t).get? (zipS4 s.heap l1 y t).objs.size=some _:=Heap.get?_push_size _ rfl;have g4:(zipS5 s.heap l1 y t).get? (zipS3 s.heap l1 y t).objs.size=some _:=Heap.get?_push_of_some _ (Heap.get?_push_size _ rfl);have g3:(zipS5 s.heap l1 y t).get? (zipS2 s.heap l1 y t).objs.size=some _:=Heap.get?_push_of_some _ (Heap.get?_push_of_some _ (Heap.get?_push_size _ rfl));have g2:(zipS5 s.heap l1 y t).get? (zipH1 s.heap l1).objs.size=some _:=Heap.get?_push_of_some _ (Heap.get?_push_of_some _ (Heap.get?_push_of_some _ (Heap.get?_push_size _ rfl)));have g1:(zipS5 s.heap l1 y t).get? s.heap.objs.size=some _:=Heap.get?_push_of_some _ (Heap.get?_push_of_some _ (Heap.get?_push_of_some _ (Heap.get?_push_of_some _ (Heap.get?_push_size _ rfl))));show _∧_;rw [z2,z3,z4] at g5;rw [z1,z2] at g3;rw [z3] at g4;rw [z1] at g2;rw [z4];exact ⟨⟨_,g5,rfl⟩,h _ g5 g3 g4 ⟨_,g1,rfl,rfl⟩ ⟨_,g2,rfl,rfl⟩ z5 fun c o x =>
  Heap.get?_push_of_some _ (Heap.get?_push_of_some _ (Heap.get?_push_of_some _ (Heap.get?_push_of_some _ (Heap.get?_push_of_some _ x))))⟩
end
section
variable {prog:Program} {w:World} {A:Around}
theorem itw_zipS {elts:List Expr} {k:Nat} {pos:Pos} (hA:A.handled=none) (z TI TO i1 i2 l1:Addr) (D:R5 z TI TO i1 i2 l1) (xs:List PV) (vs:List Value) (hlen:vs.length=xs.length) (y:List Nat) (t:Tok) (hy:okS y) :
  ItW prog w A (.Tuple elts k pos) z [z,TI,TO,i1,i2] (zipL xs (y.map fun c => .str [c])) (fun i h O=>(IsZip h z TI TO .none∧IsPair h TI (.ref i1) (.ref i2)∧(∃ a b,IsPair h TO a b)∧h.IsListIter i1 l1 i∧AscI h i2 ⟨y.toArray⟩ t i∧h.IsList l1 vs.toArray) ∧
   (∀ b∈[z,TI,TO,i1,i2,l1],b∈[z,TI,TO,i1,i2]∨(b≠x9∧¬ O b∧∃ o,h.get? b=some o∧Hardy o))∧VRs h O xs vs):=by
 refine G1 (Rel:=fun h O=>VRs h O xs vs) (WalksT.zipS (prog:=prog) (w:=w) hA z TI TO i1 i2 l1 D vs.toArray ⟨y.toArray⟩ t) ?_ (by rw [List.size_toArray,J5,hlen];simp) (fun h O h' O' r k=>r.frm k) ?_ ?_ ?_
 ·intro b hb;simp at hb ⊢;rcases hb with rfl | rfl | rfl | rfl <;> simp
 ·intro i h st b hb;refine z6 fun K0=>?_
  refine x06 st fun hz hTI o0 o3 o4 _=>?_;obtain ⟨a,c,hTO⟩:=o0;obtain ⟨o1,h1,hc1,hd1⟩:=o3;obtain ⟨o2,h2,hc2,hd2⟩:=o4
  refine K0 ?_;clear K0;simp only [List.mem_cons,List.not_mem_nil,or_false] at hb;rcases hb with rfl | rfl | rfl | rfl | rfl
  ·exact ⟨_,hz,.fields rfl (l5 rfl (by decide)),_,rfl,by decide⟩
  ·exact ⟨_,hTI,.seq rfl (l5 rfl (by decide)),_,rfl,by decide⟩
  ·exact ⟨_,hTO,.seq rfl (l5 rfl (by decide)),_,rfl,by decide⟩
  ·exact ⟨_,h1,.fields hd1 (l5 hc1 (by decide)),_,hc1,by decide⟩
  ·exact ⟨_,h2,.fields hd2 (l5 hc2 (by decide)),_,hc2,by decide⟩
 ·intro i T h st b hb;refine z6 fun K0=>?_
  refine x06 st fun hz hTI o0 o3 o4 _=>?_;obtain ⟨a,c,hTO⟩:=o0;obtain ⟨o1,h1,hc1,hd1⟩:=o3;obtain ⟨o2,h2,hc2,hd2⟩:=o4
  refine K0 ?_;clear K0;simp only [List.mem_cons,List.not_mem_nil,or_false] at hb;rcases hb with rfl | rfl | rfl | rfl
  ·exact ⟨_,hz⟩
  ·exact ⟨_,hTO⟩
  ·exact ⟨_,h1⟩
  ·exact ⟨_,h2⟩
 ·intro i vals h O hp r;refine z6 fun K0=>?_
  refine x33 hp fun x c u hx hc o0=>?_;obtain rfl:=o0
  rw [List.getElem?_toArray] at hx;have hi:i<xs.length:=by rw [← hlen];exact (List.getElem?_eq_some_iff.mp hx).1
  have hc':y[i]?=some c:=by simpa using hc
  refine x12 (r.get (List.getElem?_eq_getElem hi) :) fun rv h1 h2=>?_
  refine K0 ?_;clear K0;rw [hx] at h1;obtain rfl:=Option.some.inj h1;refine ⟨xs[i],.str [c],_,_,rfl,h2,⟨⟨by show 1≤small;decide,fun d hd=>?_⟩,u,rfl⟩,?_⟩
  ·rw [List.mem_singleton.mp hd];exact hy.2 c (List.mem_of_getElem? hc')
  ·rw [zipL_get,List.getElem?_eq_getElem hi,List.getElem?_map,hc'];rfl
end
end Mine
namespace Mine
open PySem PyProof.Rows PySem.Spec
section
variable {prog:Program} {w:World} {A:Around} {hb:HB} {Γ:y9} {c:CT}
noncomputable def TgFit (k:IK) (tg:Expr):Prop:=match k with
 | .plain=>∀ I v,letOwnedTupleGo tg I v=pure ()
 | .range=>∀ I v,letOwnedTupleGo tg I v=pure ()
 | _=>∃ elts kk p,tg = .Tuple elts kk p
noncomputable def SIt (prog:Program) (w:World) (A:Around) (hb:HB) (Γ:y9) (c:CT) (it:Expr) (k:IK) (a b:PE):Prop :=
 ∀ (env:Env) (O:Addr→Prop) (ow:Nat→Option Addr) (σ:z9) (s:Shared),FR hb c env O ow σ s.heap→XC hb O s→1≤s.toks →
  ∀ x y items tg,z8 Γ a .val σ=some x→z8 Γ b .val σ=some y→f9 k x y=some items→TgFit k tg →
  ∀ (Q:Value→Shared→Prop) (E:Value→Shared→Prop),(∀ I wr St s',Kp hb s s'→1≤s'.toks→ItW prog w A tg I wr items St→St 0 s'.heap (fun b=>O b∨b∈wr)→(∀ b∈wr,s.heap.get? b=none)→items.length≤small→Q (.ref I) s') →
   wpAny (model prog w) A (eval it env) (fun xv s₁=>wpAny (model prog w) A (pyIter xv) Q E s₁) E s
theorem Z7 {h:Heap} {a:Addr} (ha:h.objs.size≤a):h.get? a=none:=by
 cases e:h.get? a with
 | none=>rfl
 | some o'=>exact absurd (Heap.lt_size e) (Nat.not_lt.mpr ha)
theorem Z4 {s s':Shared} {b:Addr} (x:Kp hb s s') (g:GS hb s) (h:s'.heap.get? b=none):s.heap.get? b=none:=by
 cases q:s.heap.get? b with
 | none=>rfl
 | some o =>
  refine Exists.elim ((Frm.kp x g (fun _=>False)).alive b o q :) fun o' e=>?_
  rw [h] at e;cases e
theorem Frm.keeps {h h':Heap} {O:Addr→Prop} {wr:List Addr} (k:∀ b o,h.get? b=some o→h'.get? b=some o) (hn:∀ b∈wr,h.get? b=none):Frm h O h' (fun b=>O b∨b∈wr) :=
 ⟨fun b o e=>⟨o,k b o e⟩,fun b o _ e _ _=>k b o e,fun b o e hO q=>by
  rcases q with q | q
  ·exact hO q
  ·rw [hn b q] at e;cases e⟩
theorem sit_plain {it:Expr} {a:PE} (ha:SE prog w A hb Γ c it a) (hA:A.handled=none):SIt prog w A hb Γ c it .plain a (.lit .nul):=by
 intro env O ow σ s fr xc ht x y items tg hx hy hi htg Q E hQ;refine ha.val fr xc ht hx _ _ fun rv s₁ k₁ t₁ r₁=>?_
 cases x with
 | list xs =>
  have hi:some _=some items:=hi
  have hi:=Option.some.inj hi
  subst hi
  obtain ⟨z,l,vs,rfl,hl0,hO,hl,r⟩:=r₁
  refine wpAny_pyIter_list hl.isList ?_
  have hlt:l<s₁.heap.objs.size:=by refine Exists.elim hl fun _ e=>?_;exact Heap.lt_size e
  have kp2:Kp hb s₁ { s₁ with heap:=s₁.heap.push { cls := .type "list_iterator",data := .fields #[.ref l,.int 0 0] } } := Kp.push (tk:=s₁.toks)
  have hn:∀ b∈[s₁.heap.objs.size],s₁.heap.get? b=none:=fun b hb=>by rw [List.mem_singleton.mp hb];exact Z7 (Nat.le_refl _)
  have fm:Frm s₁.heap O (s₁.heap.push { cls := .type "list_iterator",data := .fields #[.ref l,.int 0 0] }) (fun b=>O b∨b∈[s₁.heap.objs.size]) := .keeps (fun b o e=>Heap.get?_push_of_some _ e) hn
  refine hQ _ [s₁.heap.objs.size] _ _ (k₁.trans kp2) t₁ (itw_list htg hA _ l xs vs (Nat.ne_of_lt hlt)) ?_ (fun b hb=>Z4 k₁ xc.gs (hn b hb)) z
  refine Exists.elim hl fun n e=>?_
  exact ⟨⟨_,Heap.get?_push_size _ rfl,rfl,rfl⟩,⟨n,Heap.get?_push_of_some _ e⟩,hl0,fm.thin _ _ e hO,r.frm fm⟩
 | _=>cases hi
theorem sit_range {x:Str} {np pos:Pos} {e:Expr} {a:PE} (h:v7 x=true) (hg:c.glob x=some (.type "range")) (hc:j7 e=true) (ha:SE prog w A hb Γ c e a) (hA:A.handled=none) :
  SIt prog w A hb Γ c (.Call (.Name x np) [e] [] pos) .range a (.lit .nul):=by
 intro env O ow σ s fr xc ht vx y items tg hx hy hi htg Q E hQ;refine wpAny_with_toks ht ?_;refine wpAny_Call_NameR (wpAny_Name (V0 fr.fk xc.gs hg ?_) (l8 h).1);have hun:=W0 (env:=env) (es:=[e]) (by rw [List.all_cons,hc];rfl) pos;refine PySem.callWith_type hun.1 ?_;rw [Y3 hc];refine Calls.evalArgs_plain (Calls.spliced_cons (ha.val fr xc ht hx _ _ fun rv s₁ k₁ t₁ r₁=>?_))
 refine Calls.spliced_nil ?_
 cases vx with
 | int n =>
  obtain ⟨t,rfl⟩:=r₁
  obtain ⟨hz,hi⟩:=d0 (show (if -4096≤n∧n≤4096 then some (Y1 0 n.toNat) else none)=some items from hi)
  obtain rfl:=Option.some.inj hi
  ·refine call_range_1 ?_;intro _;refine wpAny_with_toks (n:=1) (by show 1≤s₁.toks + 1 + 1;lia) ?_;refine wpAny_pyIter_range (IsRange.new ..) (small_one (by decide) (by decide) (by lia) (by lia)) ?_;have hsz:Builtin.Range.rangeSize 0 n 1=(n.toNat:Int):=by rw [rangeSize_one];split <;> lia
   intro tk;have hn:∀ b∈[s₁.heap.objs.size + 1],s₁.heap.get? b=none:=fun b hb=>by rw [List.mem_singleton.mp hb];exact Z7 (Nat.le_succ _)
   have e1:(s₁.heap.push { cls := .type "range",data := .fields #[.int 0 s₁.toks,.int n t,.int 1 (s₁.toks + 1)] }).objs.size=s₁.heap.objs.size + 1:=Heap.size_push ..;rw [e1];refine hQ _ [s₁.heap.objs.size + 1] _ _ (k₁.trans ((Kp.push (tk:=s₁.toks + 1 + 1)).trans (Kp.push (tk:=s₁.toks + 1 + 1)))) tk (itw_range htg hA _ n.toNat) ?_ (fun b hb=>Z4 k₁ xc.gs (hn b hb)) ?_
   ·show IsRangeIter _ _ _ _ _;rw [hsz];have:=Heap.get?_push_size (s₁.heap.push { cls := .type "range",data := .fields #[.int 0 s₁.toks,.int n t,.int 1 (s₁.toks + 1)] }) (o := { cls := .type "range_iterator",data := .fields #[rawInt 0,rawInt (n.toNat:Int),rawInt 1] }) rfl;rw [e1] at this;simpa using this
   ·rw [B4];have h2:small=1048576:=rfl;lia
 | _=>cases hi
theorem sit_enum {x:Str} {np pos:Pos} {e:Expr} {a:PE} (h:v7 x=true) (hg:c.glob x=some (.type "enumerate")) (hc:j7 e=true) (ha:SE prog w A hb Γ c e a) (hA:A.handled=none) :
  SIt prog w A hb Γ c (.Call (.Name x np) [e] [] pos) .enum a (.lit .nul):=by
 intro env O ow σ s fr xc ht vx y items tg hx hy hi htg Q E hQ;refine z6 fun K0=>?_
 refine x31 htg fun elts kk p o0=>?_;obtain rfl:=o0
 refine K0 ?_;clear K0;refine wpAny_Call_NameR (wpAny_Name (V0 fr.fk xc.gs hg ?_) (l8 h).1);have hun:=W0 (env:=env) (es:=[e]) (by rw [List.all_cons,hc];rfl) pos;refine PySem.callWith_type hun.1 ?_;rw [Y3 hc];refine Calls.evalArgs_plain (Calls.spliced_cons (ha.val fr xc ht hx _ _ fun rv s₁ k₁ t₁ r₁=>?_))
 refine Calls.spliced_nil ?_
 cases vx with
 | list xs =>
  have hi:some _=some items:=hi
  have hi:=Option.some.inj hi
  refine z6 fun K0=>?_
  subst hi
  obtain ⟨z,l,vs,rfl,hl0,hO,hl,r⟩:=r₁
  refine K0 ?_
  clear K0
  have hlt:l<s₁.heap.objs.size:=by refine Exists.elim hl fun _ e=>?_;exact Heap.lt_size e
  refine call_enumerate_list hl.isList fun h' he hit hz hk=>?_
  refine wpAny_pyIter_enum he ?_
  have hn:∀ b∈[s₁.heap.objs.size + 1,s₁.heap.objs.size],s₁.heap.get? b=none:=fun b hb=>by
   rcases List.mem_cons.mp hb with rfl | hb
   ·exact Z7 (Nat.le_succ _)
   ·rw [List.mem_singleton.mp hb];exact Z7 (Nat.le_refl _)
  have fm:Frm s₁.heap O h' (fun b=>O b∨b∈[s₁.heap.objs.size + 1,s₁.heap.objs.size]) := .keeps hk hn
  refine hQ _ [s₁.heap.objs.size + 1,s₁.heap.objs.size] _ _ (k₁.trans (.keeps (tk:=s₁.toks) hk)) t₁ (itw_enum hA _ _ l (Nat.ne_of_gt (Nat.lt_succ_self _)) (Nat.ne_of_lt (Nat.lt_succ_of_lt hlt)) (Nat.ne_of_lt hlt) xs vs r.length) ?_ (fun b hb=>Z4 k₁ xc.gs (hn b hb)) (by rw [H5];exact z)
  refine z6 fun K0=>?_
  refine Exists.elim hl fun n e=>?_
  refine K0 ?_
  clear K0
  refine ⟨⟨⟨_,he⟩,hit,⟨_,hk _ _ e,rfl,_,rfl⟩⟩,fun b hb=>?_,r.frm fm⟩
  simp only [List.mem_cons,List.not_mem_nil,or_false] at hb ⊢
  rcases hb with rfl | rfl | rfl
  ·exact .inl (.inl rfl)
  ·exact .inl (.inr rfl)
  ·exact .inr ⟨hl0,by simpa only [List.mem_cons,List.not_mem_nil,or_false] using fm.thin _ _ e hO,_,hk _ _ e,.seq rfl (l5 rfl (by decide))⟩
 | _=>cases hi
noncomputable def zipA (n:Nat):List Addr:=[n + 4,n + 2,n + 3,n,n + 1]
theorem J4 {h:Heap} {b:Addr} (hb:b∈zipA h.objs.size):h.get? b=none:=by
 unfold zipA at hb;simp only [List.mem_cons,List.not_mem_nil,or_false] at hb;exact Z7 (by lia)
theorem zip_len {xs ys:List PV} (z:xs.length≤small):(zipL xs ys).length≤small:=by rw [J5];exact Nat.le_trans (Nat.min_le_left ..) z
theorem sit_zip {x:Str} {np pos:Pos} {e1 e2:Expr} {a b:PE} (h:v7 x=true) (hg:c.glob x=some (.type "zip")) (hc1:j7 e1=true) (hc2:j7 e2=true) (ha:SE prog w A hb Γ c e1 a) (hb':SE prog w A hb Γ c e2 b) (hA:A.handled=none) :
  SIt prog w A hb Γ c (.Call (.Name x np) [e1,e2] [] pos) .zip a b:=by
 intro env O ow σ s fr xc ht vx vy items tg hx hy hi htg Q E hQ;refine z6 fun K0=>?_
 refine x31 htg fun elts kk p o0=>?_;obtain rfl:=o0
 refine y4 hi fun xs h1 hi=>?_
 refine v8 hi fun ys h2 o0=>?_;obtain rfl:=o0
 refine K0 ?_;clear K0;rw [X8 h1] at hx;refine wpAny_Call_NameR (wpAny_Name (V0 fr.fk xc.gs hg ?_) (l8 h).1);have hun:=W0 (env:=env) (es:=[e1,e2]) (by rw [List.all_cons,hc1,List.all_cons,hc2];rfl) pos;refine PySem.callWith_type hun.1 ?_;rw [Y3 hc1];refine Calls.evalArgs_plain (Calls.spliced_cons (ha.val fr xc ht hx _ _ fun rv s₁ k₁ t₁ r₁=>?_))
 rw [Y3 hc2];refine Calls.spliced_cons (hb'.val (fr.kp k₁) (xc.kp k₁) t₁ hy _ _ fun rv2 s₂ k₂ t₂ r₂=>?_)
 refine Calls.spliced_nil ?_;refine z6 fun K0=>?_
 obtain ⟨z,l,vs,rfl,hl0,hO,hl,r⟩:=VR.kp k₂ r₁;refine K0 ?_;clear K0;have ⟨n,e⟩:=hl;have hlt:l<s₂.heap.objs.size:=Heap.lt_size e
 cases vy with
 | list ys' =>
  refine z6 fun K0=>?_
  obtain rfl:=Option.some.inj h2
  obtain ⟨z',l',us,rfl,hl0',hO',hl',r'⟩:=r₂
  refine K0 ?_
  clear K0
  have ⟨n',e'⟩:=hl'
  have hlt':l'<s₂.heap.objs.size:=Heap.lt_size e'
  refine call_zip_2 hl.isList hl'.isList fun h' hz hTI hTO h1 h2 hsz hk=>wpAny_pyIter_zip hz ?_
  have fm:Frm s₂.heap O h' (fun b=>O b∨b∈zipA s₂.heap.objs.size) := .keeps hk fun b=>J4
  refine hQ _ (zipA s₂.heap.objs.size) _ _ ((k₁.trans k₂).trans (.keeps (tk:=s₂.toks) hk)) t₂ (itw_zip hA _ _ _ _ _ l l' (zipApart_new hlt hlt') xs ys' vs us r.length r'.length)
   ⟨⟨hz,hTI,⟨_,_,hTO⟩,h1,h2,⟨_,hk _ _ e,rfl,_,rfl⟩,⟨_,hk _ _ e',rfl,_,rfl⟩⟩,fun b hb=>(List.mem_append.mp (show b∈zipA s₂.heap.objs.size ++ [l,l'] from hb)).imp_right fun q=>?_,r.frm fm,r'.frm fm⟩ (fun b hb=>Z4 (k₁.trans k₂) xc.gs (J4 hb)) (zip_len z)
  rcases List.mem_cons.mp q with rfl | q
  ·exact ⟨hl0,fm.thin _ _ e hO,_,hk _ _ e,.seq rfl (l5 rfl (by decide))⟩
  ·rw [List.mem_singleton.mp q];exact ⟨hl0',fm.thin _ _ e' hO',_,hk _ _ e',.seq rfl (l5 rfl (by decide))⟩
 | str y =>
  refine z6 fun K0=>?_
  refine v9 h2 fun hy' h2=>?_
  obtain rfl:=Option.some.inj h2
  obtain ⟨zy,t,rfl⟩:=r₂
  refine K0 ?_
  clear K0
  have hasc:(⟨y.toArray⟩:Str).cps.all (· < 128)=true:=by
   show y.toArray.all (· < 128)=true;rw [List.all_toArray];exact hy'
  refine call_zip_str hl.isList hasc fun h' hz hTI hTO h1 h2 hsz hk=>wpAny_pyIter_zip hz ?_
  have fm:Frm s₂.heap O h' (fun b=>O b∨b∈zipA s₂.heap.objs.size) := .keeps hk fun b=>J4
  have ap:=zipApart_new hlt hlt
  refine hQ _ (zipA s₂.heap.objs.size) _ _ ((k₁.trans k₂).trans (.keeps (tk:=s₂.toks) hk)) t₂ (itw_zipS hA _ _ _ _ _ l ⟨ap.TIz,ap.TOz,ap.i1z,ap.i2z,ap.TITO,ap.TIi1,ap.TIi2,ap.TOi1,ap.TOi2,ap.i12,ap.l1z,ap.l1TO,ap.l1i1,ap.l1i2⟩ xs vs r.length y t zy)
   ⟨⟨hz,hTI,⟨_,_,hTO⟩,h1,h2,⟨_,hk _ _ e,rfl,_,rfl⟩⟩,fun b hb=>(List.mem_append.mp (show b∈zipA s₂.heap.objs.size ++ [l] from hb)).imp_right fun q=>?_,r.frm fm⟩ (fun b hb=>Z4 (k₁.trans k₂) xc.gs (J4 hb)) (zip_len z)
  rw [List.mem_singleton.mp q]
  exact ⟨hl0,fm.thin _ _ e hO,_,hk _ _ e,.seq rfl (l5 rfl (by decide))⟩
 | _=>exact w9 h2
end
end Mine
namespace Mine
open PySem PyProof.Rows PySem.Spec
theorem T2:∀ (names:List (Str × NameKind)) (n:Nat) (acc:List (Str × Addr)),cellsFrom n names acc=cellsFrom n names [] ++ acc
 | [],n,acc=>rfl
 | (name,kind)::r,n,acc=>by
  unfold cellsFrom
  split
  ·rw [T2 r (n + 1) ((name,n)::acc),T2 r (n + 1) [(name,n)]];simp
  ·exact T2 r n acc
theorem Q8:∀ (names:List (Str × NameKind)) (n:Nat) (acc:List (Str × Addr)) (x:Str),(x,NameKind.cell)∈names→∃ a,(x,a)∈cellsFrom n names acc
 | (name,kind)::r,n,acc,x,h=>by
  unfold cellsFrom;rcases List.mem_cons.mp h with e | h
  ·cases e
   rw [if_pos (by rfl),T2];exact ⟨n,List.mem_append_right _ (List.mem_cons_self ..)⟩
  ·split
   ·exact Q8 r _ _ x h
   ·exact Q8 r _ _ x h
theorem I5:∀ (names:List (Str × NameKind)) (n:Nat) (x:Str) (a:Addr),(x,a)∈cellsFrom n names []→(x,NameKind.cell)∈names
 | [],n,x,a,h=>by cases h
 | (name,kind)::r,n,x,a,h=>by
  unfold cellsFrom at h
  split at h
  ·rename_i hk;rw [T2] at h;rcases List.mem_append.mp h with h | h
   ·exact List.mem_cons_of_mem _ (I5 r _ x a h)
   ·cases List.mem_singleton.mp h
    rw [beq_iff_eq.mp hk];exact List.mem_cons_self ..
  ·exact List.mem_cons_of_mem _ (I5 r _ x a h)
theorem O1:∀ {l:List (Str × Addr)} {n:Str} {a:Addr},(n,a)∈l→∃ a',l.lookup n=some a'
 | (k,v)::r,n,a,h=>by
  rw [List.lookup_cons]
  cases hb:n == k with
  | true=>exact ⟨_,rfl⟩
  | false =>
   rcases List.mem_cons.mp h with e | h
   ·cases e;simp at hb
   ·exact O1 h
theorem O0 {α:Type} : ∀ (l r:List (Str × α)) (n:Str),(l ++ r).lookup n=match l.lookup n with | some a=>some a | none=>r.lookup n
 | [],r,n=>rfl
 | (k,v)::l,r,n=>by
  rw [List.cons_append,List.lookup_cons,List.lookup_cons]
  cases n == k with
  | true=>rfl
  | false=>exact O0 l r n
theorem M9 {α:Type} : ∀ {l:List (Str × α)} {n:Str} {a:α},(l.map (·.1)).Nodup→(n,a)∈l→l.lookup n=some a
 | (k,v)::r,n,a,hn,h=>by
  rw [List.lookup_cons];rw [List.map_cons,List.nodup_cons] at hn;rcases List.mem_cons.mp h with e | h
  ·cases e;simp
  ·have:n≠k:=fun e=>hn.1 (by show k∈_;rw [← e];exact List.mem_map_of_mem (f:=fun x:Str × α=>x.1) h)
   rw [beq_eq_false_iff_ne.mpr this];exact M9 hn.2 h
section
variable {M:Model} {A:Around} {E:Value→Shared→Prop} {s:Shared} {env:Env}
theorem newEnvComp {scope:Scope} {cl:List (Str × Addr)} {Q:Env→Shared→Prop}
  (hQ:Q { scope,locals:=s.heap.objs.size,globals:=env.globals,cells:=cellsFrom (s.heap.objs.size + 1) scope.names cl,qual:=env.qual,func:=none,code:=env.code,frame:=env.frame,builtins:=env.builtins }
   { s with heap:=pushCells (s.heap.push { cls := .type "dict",data := .dict #[] }) scope.names }) :
  wpAny M A (newFunctionEnv scope env.globals cl [] env.qual none .none (some env)) Q E s:=by
 simp only [newFunctionEnv,Option.isSome_some,if_true];refine wpAny_bind (wpAny_alloc ?_);refine wpAny_bind (wpAny_layCells _ (fun name kind cells=>by cases hkc:kind == NameKind.cell <;> simp [hkc]) _ _ _ _ ?_)
 rw [show ({ s with heap:=s.heap.push { cls := .type "dict",data := .dict #[] } } : Shared).heap.objs.size=s.heap.objs.size + 1 from Heap.size_push ..];refine wpAny_bind ?_;rw [List.forIn_nil];exact wpAny_pure (wpAny_pure hQ)
theorem I6:∀ (names:List (Str × NameKind)) (acc:List (Str × Addr)),(∀ n,(n,NameKind.free)∈names→∃ a,env.cells.lookup n=some a) →
  ∃ cl,(forIn names acc fun x (cs:List (Str × Addr))=>(match x with | (name,kind)=>(if (kind == NameKind.free)=true then (do let a ← cellOf env name;pure (ForInStep.yield ((name,a)::cs))) else pure (ForInStep.yield cs)):Sem (ForInStep (List (Str × Addr)))))=(pure (cl ++ acc):Sem (List (Str × Addr))) ∧
   (∀ n a,cl.lookup n=some a→env.cells.lookup n=some a)∧(∀ n,(n,NameKind.free)∈names→∃ a,(n,a)∈cl)∧(∀ n a,(n,a)∈cl→(n,NameKind.free)∈names)
 | [],acc,h=>⟨[],rfl,fun _ _ e=>(nomatch e),fun _ e=>(nomatch e),fun _ _ e=>(nomatch e)⟩
 | (n,k)::r,acc,h=>by
  have h':∀ n,(n,NameKind.free)∈r→∃ a,env.cells.lookup n=some a:=fun n hn=>h n (List.mem_cons_of_mem _ hn)
  rw [List.forIn_cons];by_cases hk:k = .free
  ·refine z6 fun K0=>?_
   subst hk;refine Exists.elim (h n (List.mem_cons_self ..) :) fun a ha=>?_
   refine x14 (I6 r ((n,a)::acc) h' :) fun cl e1 e2 e3 e4=>?_
   refine K0 ?_;clear K0;refine ⟨cl ++ [(n,a)],?_,?_,?_,fun n' a' q=>?_⟩
   rotate_left 3
   ·rcases List.mem_append.mp q with q | q
    ·exact List.mem_cons_of_mem _ (e4 _ _ q)
    ·cases List.mem_singleton.mp q;exact List.mem_cons_self ..
   ·have ec:cellOf env n=pure a:=by unfold cellOf;rw [ha]
    simp only [beq_self_eq_true,if_true,ec];rw [show cl ++ [(n,a)] ++ acc=cl ++ (n,a)::acc by simp];exact e1
   ·intro n' a' q;rw [O0] at q
    split at q
    ·rename_i a'' q';cases q;exact e2 _ _ q'
    ·rw [List.lookup_cons] at q
     cases hb:n' == n with
     | true=>rw [hb] at q;cases q;rw [beq_iff_eq.mp hb];exact ha
     | false=>rw [hb] at q;cases q
   ·intro n' hn';rcases List.mem_cons.mp hn' with e | hn'
    ·cases e;exact ⟨a,List.mem_append_right _ (List.mem_cons_self ..)⟩
    ·refine z6 fun K0=>?_
     refine Exists.elim (e3 n' hn' :) fun a' q=>?_
     refine K0 ?_;clear K0;exact ⟨a',List.mem_append_left _ q⟩
  ·refine z6 fun K0=>?_
   refine x14 (I6 r acc h' :) fun cl e1 e2 e3 e4=>?_
   refine K0 ?_;clear K0;refine ⟨cl,?_,e2,?_,fun n' a' q=>List.mem_cons_of_mem _ (e4 _ _ q)⟩
   ·have:(k == NameKind.free)=false:=beq_eq_false_iff_ne.mpr hk;simp only [this,Bool.false_eq_true,if_false];exact e1
   ·intro n' hn';rcases List.mem_cons.mp hn' with e | hn'
    ·cases e;exact absurd rfl hk
    ·exact e3 n' hn'
theorem closure_of {scope:Scope} (h:∀ n,(n,NameKind.free)∈scope.names→∃ a,env.cells.lookup n=some a) :
  ∃ cl,closureFor scope env=pure cl∧(∀ n a,cl.lookup n=some a→env.cells.lookup n=some a)∧(∀ n,(n,NameKind.free)∈scope.names→∃ a,(n,a)∈cl)∧(∀ n a,(n,a)∈cl→(n,NameKind.free)∈scope.names):=by
 refine z6 fun K0=>?_
 refine x14 (I6 (env:=env) scope.names [] h :) fun cl e1 e2 e3 e4=>?_
 refine K0 ?_;clear K0;refine ⟨cl,?_,e2,e3,e4⟩;rw [List.append_nil] at e1;show (forIn scope.names [] _ >>= fun cs=>pure cs)=_
 have:(forIn scope.names ([]:List (Str × Addr)) fun x (cs:List (Str × Addr))=>(do
   match x with
   | (name,kind)=>if (kind == NameKind.free)=true then (do let a ← cellOf env name;pure PUnit.unit;pure (ForInStep.yield ((name,a)::cs))) else do pure PUnit.unit;pure (ForInStep.yield cs):Sem (ForInStep (List (Str × Addr)))))=pure cl:=e1
 rw [this];rfl
end
noncomputable def cEnv (sc:Scope) (cl:List (Str × Addr)) (C:Addr) (env:Env):Env :=
 { scope:=relabel sc env,locals:=C,globals:=env.globals,cells:=cellsFrom (C + 1) sc.names cl,qual:=env.qual,func:=none,code:=env.code,frame:=env.frame,builtins:=env.builtins }
theorem B5 {env:Env} : ∀ {names:List (Str × NameKind)} {x:Str} {k:NameKind},names.lookup x=some k →
  ∃ k',(names.map fun (n,k)=>if (k == NameKind.free && env.scope.kind == .function && env.kindOf n == some .cell) then (n,NameKind.cell) else (n,k)).lookup x=some k'∧(k ≠ .free→k'=k)∧(k = .free→k' = .cell∨k' = .free)
 | [],_,_,h=>by simp at h
 | (n,k0)::r,x,k,h=>by
  show ∃ k',List.lookup x ((if (k0 == NameKind.free && env.scope.kind == .function && env.kindOf n == some .cell)=true then (n,NameKind.cell) else (n,k0))::_)=some k'∧_
  cases hx:x == n with
  | true =>
   simp only [List.lookup_cons,hx] at h
   obtain rfl:=Option.some.inj h
   by_cases hc:(k0 == NameKind.free && env.scope.kind == .function && env.kindOf n == some .cell)=true
   ·rw [if_pos hc];simp only [List.lookup_cons,hx];simp only [Bool.and_eq_true] at hc;have:=beq_iff_eq.mp hc.1.1;exact ⟨_,rfl,fun q=>absurd this q,fun _ => .inl rfl⟩
   ·rw [if_neg hc];simp only [List.lookup_cons,hx];exact ⟨_,rfl,fun _=>rfl,fun q => .inr q⟩
  | false =>
   simp only [List.lookup_cons,hx] at h
   have ih:=B5 (env:=env) h
   by_cases hc:(k0 == NameKind.free && env.scope.kind == .function && env.kindOf n == some .cell)=true
   ·rw [if_pos hc];simp only [List.lookup_cons,hx];exact ih
   ·rw [if_neg hc];simp only [List.lookup_cons,hx];exact ih
theorem H8:∀ {l:List Str} {x:Str} {i:Nat},l.idxOf? x=some i→l[i]?=some x:=by
 intro l x i h;have:=List.idxOf?_eq_some_iff.mp h;refine x12 this fun h1 h2 _=>?_
 rw [List.getElem?_eq_getElem h1];exact congrArg some (by first | exact h2 | exact beq_iff_eq.mp h2)
section
variable {prog:Program} {w:World} {A:Around} {hb:HB} {Γ:y9} {c:CT}
structure ScOk (c:CT) (sc:Scope):Prop where
 fn:sc.kind = .function
 nd:(sc.names.map (·.1)).Nodup
 free:∀ n,(n,NameKind.free)∈sc.names→∃ i,c.slot n=some i∧(c.kind.lookup n=some .cell∨c.kind.lookup n=some .free)
theorem scOk_of {sc:Scope} (h:scOk c sc=true):ScOk c sc:=by
 unfold scOk at h;simp only [Bool.and_eq_true,decide_eq_true_eq,List.all_eq_true] at h;refine ⟨beq_iff_eq.mp h.1.1,h.1.2,fun n hn=>?_⟩
 have:=h.2 _ hn;simp only [bne_self_eq_false,Bool.false_or,Bool.and_eq_true,Bool.or_eq_true,beq_iff_eq] at this;obtain ⟨i,hi⟩:=Option.isSome_iff_exists.mp this.1;exact ⟨i,hi,this.2⟩
end
end Mine
namespace Mine
open PySem PyProof.Rows PySem.Spec
noncomputable def KeepH (h h':Heap):Prop:=∀ b o,b≠x9→h.get? b=some o→Hardy o→h'.get? b=some o
theorem SlotR.keepH {h h':Heap} {O:Addr→Prop} {ow:Nat→Option Addr} {i:Nat} (k:KeepH h h') {sl:Option Slot} {ov:Option Value} (x:SlotR h O ow i sl ov):SlotR h' O ow i sl ov:=by
 have km:∀ b o,h.get? b=some o→W3 O b o→h'.get? b=some o:=fun b o e l=>k b o l.1 e l.2.2.2
 refine x.map (fun _ x=>?_) (fun _ x=>?_) (fun _ x=>?_)
 ·obtain ⟨rv,e,r⟩:=x;exact ⟨rv,e,r.mono km fun _ _ _ q=>q⟩
 ·obtain ⟨z,a,vs,e,ho,ha,⟨n,hl⟩,r⟩:=x;exact ⟨z,a,vs,e,ho,ha,⟨n,k _ _ ha hl (.seq rfl (l5 rfl (by decide)))⟩,r.mono km fun _ _ _ q=>q⟩
 ·obtain ⟨b,e,hb,r⟩:=x;exact ⟨b,e,hb,fun a q=>let ⟨o,vs,ho,hc,hd,h1,h2⟩:=r a q;⟨o,vs,k _ _ hb ho (.fields hd (l5 hc (by decide))),hc,hd,h1,h2⟩⟩
noncomputable def Less (σ' σ:z9):Prop:=∀ i:Nat,σ'[i]?=σ[i]?∨σ'[i]?=some Mine.Slot.unset∨σ'[i]?=none
theorem Less.slot {σ' σ:z9} (x:Less σ' σ) {h:Heap} {O:Addr→Prop} {ow:Nat→Option Addr} {i:Nat} {ov:Option Value} (r:SlotR h O ow i σ[i]? ov):SlotR h O ow i σ'[i]? ov:=by
 rcases x i with e | e | e
 ·rw [e];exact r
 ·rw [e];trivial
 ·rw [e];trivial
theorem FR.less {hb:HB} {h:Heap} {c:CT} {env:Env} {O:Addr→Prop} {ow:Nat→Option Addr} {σ σ':z9} (x:FR hb c env O ow σ h) (l:Less σ' σ):FR hb c env O ow σ' h:=by
 refine ⟨x.fk,?_,?_⟩
 ·obtain ⟨m,hn,hr⟩:=x.ns;exact ⟨m,hn,fun n i h1 h2=>l.slot (hr n i h1 h2)⟩
 ·intro n i h1 h2;obtain ⟨a,e,ha,ov,hc,r⟩:=x.cells n i h1 h2;exact ⟨a,e,ha,ov,hc,l.slot r⟩
theorem clear_get (σ:z9) (i j:Nat):(σ.map fun t=>match t with | .app r=>if r=i then Slot.unset else t | t=>t)[j]?=σ[j]?∨(σ.map fun t=>match t with | .app r=>if r=i then Slot.unset else t | t=>t)[j]?=some Mine.Slot.unset:=by
 rw [List.getElem?_map]
 cases σ[j]? with
 | none=>exact .inl rfl
 | some t =>
  induction t with
  | app r =>
   by_cases h:r=i
   ·right;simp [h]
   ·left;simp [h]
  | _=>exact .inl rfl
theorem setSlot_ne (σ:z9) (i j:Nat) (s s':Slot) (h:j≠i):(z7 σ i s)[j]?=(z7 σ i s')[j]?:=by
 unfold z7;rw [List.getElem?_set_ne (Ne.symm h),List.getElem?_set_ne (Ne.symm h)]
theorem N0 (σ:z9) (i:Nat) (s:Slot):(z7 σ i s)[i]?=some s∨(z7 σ i s)[i]?=none:=by
 unfold z7;by_cases h:i<σ.length
 ·left;rw [List.getElem?_set_self (by rw [List.length_map];exact h)]
 ·right;rw [List.getElem?_eq_none];rw [List.length_set,List.length_map];lia
theorem less_set (σ:z9) (i:Nat):Less (z7 σ i .unset) σ:=by
 intro j;by_cases h:j=i
 ·subst h;rcases N0 σ j .unset with e | e
  ·exact .inr (.inl e)
  ·exact .inr (.inr e)
 ·unfold z7;rw [List.getElem?_set_ne (Ne.symm h)];rcases clear_get σ i j with e | e
  ·exact .inl e
  ·exact .inr (.inl e)
theorem FR.turn {hb:HB} {h h':Heap} {c:CT} {env:Env} {O:Addr→Prop} {ow:Nat→Option Addr} {σ:z9} (x:FR hb c env O ow σ h) {X:Addr→Prop} (hk:∀ b o,¬ X b→h.get? b=some o→h'.get? b=some o)
  (hX:∀ b o,X b→h.get? b=some o→Hardy o∧O b∧(∀ i,ow i≠some b)∧o.cls ≠ .type "builtin_function_or_method"):FR hb c env O ow σ h':=by
 have km:∀ b o,h.get? b=some o→W3 O b o→h'.get? b=some o:=fun b o e l=>hk b o (fun q=>l.2.1 (hX b o q e).2.1) e
 have ks:∀ {i sl ov},SlotR h O ow i sl ov→SlotR h' O ow i sl ov:=by
  intro i sl ov x;refine x.map (fun _ x=>?_) (fun _ x=>?_) (fun _ x=>?_)
  ·obtain ⟨rv,e,r⟩:=x;exact ⟨rv,e,r.mono km fun _ _ _ q=>q⟩
  ·obtain ⟨z,a,vs,e,ho,ha,⟨n,hl⟩,r⟩:=x;exact ⟨z,a,vs,e,ho,ha,⟨n,hk _ _ (fun q=>(hX _ _ q hl).2.2.1 _ ho) hl⟩,r.mono km fun _ _ _ q=>q⟩
  ·obtain ⟨b,e,hb,r⟩:=x;exact ⟨b,e,hb,fun a q=>let ⟨o,vs,ho,hc,hd,h1,h2⟩:=r a q;⟨o,vs,hk _ _ (fun q=>(hX _ _ q ho).2.2.2 hc) ho,hc,hd,h1,h2⟩⟩
 refine ⟨x.fk,?_,fun n i h1 h2=>?_⟩
 ·refine z6 fun K0=>?_
  obtain ⟨m,⟨o,es,ep,ho,hd,r⟩,hr⟩:=x.ns;refine K0 ?_;clear K0;exact ⟨m,⟨o,es,ep,hk _ _ (fun q=>(hX _ _ q ho).1.1 _ _ hd) ho,hd,r⟩,fun n i h1 h2=>ks (hr n i h1 h2)⟩
 ·refine z6 fun K0=>?_
  obtain ⟨a,e,ha,ov,⟨o,ho,hd⟩,r⟩:=x.cells n i h1 h2;refine K0 ?_;clear K0;exact ⟨a,e,ha,ov,⟨o,hk _ _ (fun q=>(hX _ _ q ho).1.2.1 _ hd) ho,hd⟩,ks r⟩
structure OwnN (s₀:Shared) (env:Env) (n:Str):Prop where
 loc:env.kindOf n=some .local→s₀.heap.get? env.locals=none
 cel:env.kindOf n=some .cell→∀ a,env.cells.lookup n=some a→s₀.heap.get? a=none
 fre:env.kindOf n≠some .free
section
variable {M:Model} {A:Around} {E:Value→Shared→Prop} {s₀ s:Shared} {hb:HB} {c:CT} {env:Env} {O:Addr→Prop} {ow:Nat→Option Addr} {σ:z9}
theorem K9 {n n':Str} {i:Nat} (h:c.slot n=some i) (h':c.slot n'=some i):n=n':=by
 have key:∀ {n},c.slot n=some i→c.ns[i]?=some n:=by
  intro n h;refine x13 (N4 h :) fun k h1 h2 h3=>?_
  exact H8 h3
 have:=key h;rw [key h'] at this
 cases this;rfl
theorem J2 {n:Str} {i:Nat} {sl:Slot} {rv:Value} {Q:Unit→Shared→Prop} (fr:FR hb c env O ow (z7 σ i .unset) s.heap) (hi:c.slot n=some i) (kp:Kp hb s₀ s) (g₀:GS hb s₀) (own:OwnN s₀ env n)
  (r:SlotR s.heap O ow i (some sl) (some rv)) (hQ:∀ h' tk,Kp hb s₀ { s with heap:=h',toks:=tk } → Frm s.heap O h' O→KeepH s.heap h'→FR hb c env O ow (z7 σ i sl) h'→(∃ p,(p=env.locals∨∃ ov,s.heap.IsCell p ov)∧∀ b o,b≠p→s.heap.get? b=some o→h'.get? b=some o)→Q () { s with heap:=h',toks:=tk }) :
  wpAny M A (storeName env n rv) Q E s:=by
 have hk:=fr.fk.kind;have hp:(env.scope.kind == .class || (env.scope.kind == .module && env.locals != env.globals))=false:=by rw [hk];rfl
 have sel:∀ {h:Heap} {j:Nat} {ov:Option Value},j≠i→SlotR h O ow j (z7 σ i .unset)[j]? ov→SlotR h O ow j (z7 σ i sl)[j]? ov:=fun hj q=>by rw [setSlot_ne σ i _ sl .unset hj];exact q
 have seli:∀ {h:Heap} {ov:Option Value},SlotR h O ow i (some sl) ov→SlotR h O ow i (z7 σ i sl)[i]? ov:=fun q=>by
  rcases N0 σ i sl with e | e
  ·rw [e];exact q
  ·rw [e];trivial
 rcases fr.fk.kinds n i hi with hl | hl | hl
 ·refine z6 fun K0=>?_
  obtain ⟨m,hn,hr⟩:=fr.ns;refine K0 ?_;clear K0;refine wpAny_storeName_local hl hn (fun h' hn' hs'=>?_) hp
  refine z6 fun K0=>?_
  refine x33 (id hn :) fun oL es ep hoL hdL _=>?_
  have hkk:∀ b o,¬ b=env.locals→s.heap.get? b=some o→h'.get? b=some o:=fun b o hb e=>hs'.extBut b o hb e
  have nL:∀ b o,b=env.locals→s.heap.get? b=some o→¬ Hardy o:=fun b o hb e q=>by subst hb;rw [hoL] at e;cases e;exact q.1 _ _ hdL
  have kh:KeepH s.heap h':=fun b o hb e hd=>hkk b o (fun q=>nL b o q e hd) e
  refine x32 (id hn' :) fun oL' _ _ hoL' _=>?_
  refine K0 ?_;clear K0;refine hQ h' (s.toks + 1) (kp.turns (X:=(· = env.locals)) g₀ hkk (fun b q=>by rw [q];exact own.loc hl) fun b o q e => .inr (nL b o q e))
   (.turn (X:=(· = env.locals)) hkk (fun b q=>⟨oL',by rw [q];exact hoL'⟩) fun b o q e => .inr (nL b o q e)) kh ⟨fr.fk,⟨_,hn',fun n' j h1 h2=>?_⟩,fun n' j h1 h2=>?_⟩ ⟨env.locals,.inl rfl,fun b o hb e=>hkk b o hb e⟩
  ·by_cases e:n'=n
   ·refine z6 fun K0=>?_
    subst e;refine K0 ?_;clear K0;rw [hi] at h1;obtain rfl:=Option.some.inj h1;rw [if_pos rfl];exact seli (r.keepH kh)
   ·rw [if_neg e];have hj:j≠i:=fun q=>e (K9 h1 (q▸hi))
    exact sel hj ((hr n' j h1 h2).keepH kh)
  ·refine z6 fun K0=>?_
   obtain ⟨a,e,ha,ov,⟨o,ho,hd⟩,r'⟩:=fr.cells n' j h1 h2;refine K0 ?_;clear K0;have hj:j≠i:=fun q=>by
    have:=K9 h1 (q▸hi);subst this;rcases h2 with h2 | h2 <;> rw [hl] at h2 <;> cases h2
   exact ⟨a,e,ha,ov,⟨o,hkk _ _ (fun q=>by subst q;rw [hoL] at ho;cases ho;rw [hdL] at hd;cases hd) ho,hd⟩,sel hj (r'.keepH kh)⟩
 ·refine z6 fun K0=>?_
  obtain ⟨a,e,ha,ov,hc,_⟩:=fr.cells n i hi (.inl hl);refine K0 ?_;clear K0;refine wpAny_storeName_cell hk hl e hc (fun h' hc' hs'=>?_)
  refine z6 fun K0=>?_
  refine x12 (id hc :) fun oL hoL hdL=>?_
  have hkk:∀ b o,¬ b=a→s.heap.get? b=some o→h'.get? b=some o:=fun b o hb e=>hs'.extBut b o hb e
  have nL:∀ b o,b=a→s.heap.get? b=some o→¬ Hardy o:=fun b o hb e' q=>by rw [hb,hoL] at e';cases e';exact q.2.1 _ hdL
  have kh:KeepH s.heap h':=fun b o hb e hd=>hkk b o (fun q=>nL b o q e hd) e
  refine x12 (id hc' :) fun oL' hoL' _=>?_
  refine K0 ?_;clear K0;refine hQ h' s.toks (kp.turns (X:=(· = a)) g₀ hkk (fun b q=>by rw [q];exact own.cel hl a e) fun b o q e => .inr (nL b o q e))
   (.turn (X:=(· = a)) hkk (fun b q=>⟨oL',by rw [q];exact hoL'⟩) fun b o q e => .inr (nL b o q e)) kh ⟨fr.fk,?_,fun n' j h1 h2=>?_⟩ ⟨a,.inr ⟨ov,hc⟩,fun b o hb e=>hkk b o hb e⟩
  ·refine z6 fun K0=>?_
   obtain ⟨m,⟨o,es,ep,ho,hd,hr0⟩,hr⟩:=fr.ns;refine K0 ?_;clear K0;refine ⟨m,⟨o,es,ep,hkk _ _ (fun q=>by rw [← q,ho] at hoL;cases hoL;rw [hd] at hdL;cases hdL) ho,hd,hr0⟩,fun n' j h1 h2=>?_⟩
   have hj:j≠i:=fun q=>by
    have:=K9 h1 (q▸hi);subst this;rw [hl] at h2;cases h2
   exact sel hj ((hr n' j h1 h2).keepH kh)
  ·refine z6 fun K0=>?_
   obtain ⟨a',e',ha',ov',⟨o,ho,hd⟩,r'⟩:=fr.cells n' j h1 h2;refine K0 ?_;clear K0;by_cases en:n'=n
   ·refine z6 fun K0=>?_
    subst en;refine K0 ?_;clear K0;rw [hi] at h1;obtain rfl:=Option.some.inj h1;rw [e] at e';cases e';exact ⟨a,e,ha,some rv,hc',seli (r.keepH kh)⟩
   ·have hj:j≠i:=fun q=>en (K9 h1 (q▸hi))
    exact ⟨a',e',ha',ov',⟨o,hkk _ _ (fun q=>en (fr.fk.apart n' n a (q▸e') e)) ho,hd⟩,sel hj (r'.keepH kh)⟩
 ·exact absurd hl own.fre
theorem store_ok {n:Str} {i:Nat} {v:PV} {rv:Value} {Q:Unit→Shared→Prop} (fr:FR hb c env O ow σ s.heap) (hi:c.slot n=some i) (kp:Kp hb s₀ s) (g₀:GS hb s₀) (own:OwnN s₀ env n)
  (r:VR s.heap O v rv) (hQ:∀ h' tk,Kp hb s₀ { s with heap:=h',toks:=tk } → Frm s.heap O h' O→KeepH s.heap h'→FR hb c env O ow (z7 σ i (.val v)) h'→Q () { s with heap:=h',toks:=tk }) :
  wpAny M A (storeName env n rv) Q E s :=
 J2 (sl := .val v) (fr.less (less_set σ i)) hi kp g₀ own ⟨rv,rfl,r⟩ fun h' tk k1 k2 k3 k4 _=>hQ h' tk k1 k2 k3 k4
end
end Mine
namespace Mine
open PySem PyProof.Rows PySem.Spec
noncomputable def tgNames:Expr→List Str
 | .Name x _=>[x]
 | .Tuple [.Name x _,.Name y _] _ _=>[x,y]
 | _=>[]
section
variable {prog:Program} {w:World} {A:Around} {E:Value→Shared→Prop} {s₀ s:Shared} {hb:HB} {c:CT} {env:Env} {O:Addr→Prop} {ow:Nat→Option Addr} {σ σ1:z9}
theorem N8 {tg:Expr} {t:Tgt} {x:PV} {rv:Value} {Q:Unit→Shared→Prop} (hA:A.handled=none) (ht:i5 c tg=some t) (hp:t.put σ x=some σ1) (fr:FR hb c env O ow σ s.heap) (kp:Kp hb s₀ s) (g₀:GS hb s₀)
  (own:∀ n∈tgNames tg,OwnN s₀ env n) (r:VR s.heap O x rv)
  (hQ:∀ h' tk,Kp hb s₀ { s with heap:=h',toks:=tk } → Frm s.heap O h' O→KeepH s.heap h'→FR hb c env O ow σ1 h'→Q () { s with heap:=h',toks:=tk }) :
  wpAny (model prog w) A (assign tg env rv) Q E s:=by
 rcases N9 ht with ⟨n,p,i,rfl,hi,rfl⟩ | ⟨n,p,n',p',k,pp,i,j,rfl,hi,hj,rfl⟩
 ·refine z6 fun K0=>?_
  obtain rfl:=Option.some.inj hp;refine K0 ?_;clear K0;exact wpAny_assign_Name (store_ok fr hi kp g₀ (own n (List.mem_singleton.mpr rfl)) r hQ)
 ·refine z6 fun K0=>?_
  refine x12 (map_some (show (pairP x).map _=some σ1 from hp) :) fun q e o0=>?_;obtain rfl:=o0
  rw [pairP_ok e] at r;obtain ⟨_,T,vs,rfl,_,_,⟨o,ho,hc,nn,hd⟩,va,_,rfl,ra,vb,_,rfl,rb,rfl⟩:=r;refine K0 ?_;clear K0;refine wpAny_assign_Tuple hA (t:=T) (items := #[va,vb]) ⟨o,ho,hc,nn,hd⟩ rfl rfl fun h₃ hx₃=>?_
  have hk:∀ b o,s.heap.get? b=some o→h₃.get? b=some o:=fun b o e=>hx₃ b o (Nat.ne_of_lt (Heap.lt_size e)) e
  have kp3:Kp hb s₀ { s with heap:=h₃ } := kp.trans (.keeps (tk:=s.toks) hk);have fm3:Frm s.heap O h₃ O:=⟨fun b o e=>⟨o,hk b o e⟩,fun b o _ e _ _=>hk b o e,fun _ _ _ q=>q⟩
  have kh3:KeepH s.heap h₃:=fun b o _ e _=>hk b o e
  refine wpAny_bind (wpAny_holding (wpAny_assign_Name (store_ok (fr.soft (.of_keeps hk)) hi kp3 g₀ (own n (List.mem_cons_self ..)) (ra.frm fm3) fun h₄ tk₄ kp4 fm4 kh4 fr4=>?_)))
  refine wpAny_bind (wpAny_holding (wpAny_assign_Name (store_ok fr4 hj kp4 g₀ (own n' (List.mem_cons_of_mem _ (List.mem_singleton.mpr rfl))) ((rb.frm fm3).frm fm4) fun h₅ tk₅ kp5 fm5 kh5 fr5=>wpAny_pure ?_)))
  exact hQ h₅ tk₅ kp5 ((fm3.trans fm4).trans fm5) (fun b o hb e hd=>kh5 b o hb (kh4 b o hb (kh3 b o hb e hd) hd) hd) fr5
end
end Mine
namespace Mine
open PySem PyProof.Rows PySem.Spec
structure TR (D:Addr) (h h':Heap):Prop where
 alive:∀ b o,h.get? b=some o→∃ o',h'.get? b=some o'
 keep:∀ b o,b≠x9→h.get? b=some o→Hardy o→b≠D→h'.get? b=some o
theorem TR.trans {D:Addr} {h h' h'':Heap} (x:TR D h h') (y:TR D h' h''):TR D h h'' :=
 ⟨fun b o e=>let ⟨o',e'⟩:=x.alive b o e;y.alive b o' e',fun b o hb e hd hO=>y.keep b o hb (x.keep b o hb e hd hO) hd hO⟩
theorem TR.frm {D:Addr} {h h':Heap} (x:TR D h h') {O:Addr→Prop} (hD:O D):Frm h O h' O :=
 ⟨x.alive,fun b o hb e hd hO=>x.keep b o hb e hd fun q=>hO (q▸hD),fun _ _ _ q=>q⟩
theorem TR.kp {hb:HB} {s s':Shared} (k:Kp hb s s') (g:GS hb s) (D:Addr):TR D s.heap s'.heap :=
 let f:=Frm.kp k g (fun _=>False)
 ⟨f.alive,fun b o hb e hd _=>f.keep b o hb e hd id⟩
noncomputable def W5 (t:Tgt) (σ:z9) (g:z9→Option (List PV)):List PV→Option (List PV)
 | []=>some []
 | x::xs=>(t.put σ x).bind fun σ1=>(g σ1).bind fun vs=>(W5 t σ g xs).map (vs ++ ·)
noncomputable def oneG (test:z9→Option Bool) (elt:z9→Option PV) (σ:z9):Option (List PV):=(test σ).bind fun b=>if b=true then (elt σ).map fun v=>[v] else some []
theorem I8 {t:Tgt} {σ σ1:z9} {g:z9→Option (List PV)} {x:PV} {xs vs r:List PV} (h1:t.put σ x=some σ1) (h2:g σ1=some vs) (h3:W5 t σ g xs=some r):W5 t σ g (x::xs)=some (vs ++ r):=by
 rw [W5,h1,Option.bind_some,h2,Option.bind_some,h3];rfl
theorem M0 {t:Tgt} {σ:z9} {test:z9→Option Bool} {elt:z9→Option PV} : ∀ {xs r:List PV},m5 t σ test elt xs=some r→W5 t σ (oneG test elt) xs=some r∧r.length≤xs.length
 | [],r,h=>by cases h;exact ⟨rfl,Nat.le_refl _⟩
 | x::xs,r,h=>by
  refine z6 fun K0=>?_
  refine y4 h fun σ1 e1 h1=>?_
  refine y4 h1 fun b e2 h2=>?_
  refine K0 ?_;clear K0
  induction b with
  | true =>
   refine z6 fun K0=>?_
   refine y4 h2 fun v e3 h3=>?_
   refine v8 h3 fun r' h' e=>?_
   refine K0 ?_
   clear K0
   have ih:=M0 h'
   rw [← e]
   exact ⟨I8 e1 (by rw [oneG,e2,Option.bind_some,if_pos rfl,e3];rfl) ih.1,Nat.succ_le_succ ih.2⟩
  | false =>
   have ih:=M0 h2
   exact ⟨I8 (vs:=[]) e1 (by rw [oneG,e2];rfl) ih.1,Nat.le_succ_of_le ih.2⟩
theorem D0 {t:Tgt} {σ:z9} {g:z9→Option (List PV)} : ∀ {xs r:List PV},X0 t σ g xs=some r→W5 t σ g xs=some r∧r.length≤small
 | [],r,h=>by cases h;exact ⟨rfl,Nat.zero_le _⟩
 | x::xs,r,h=>by
  refine z6 fun K0=>?_
  refine y4 h fun σ1 e1 h1=>?_
  refine y4 h1 fun vs e2 h2=>?_
  refine y4 h2 fun r' h' h3=>?_
  refine v9 h3 fun hz e=>?_
  refine K0 ?_;clear K0;rw [← Option.some.inj e];exact ⟨I8 e1 e2 (D0 h').1,by rw [List.length_append];exact hz⟩
theorem compGen_get {t:Tgt} {σ:z9} {g:z9→Option (List PV)} {x:PV} {xs r:List PV} (h:W5 t σ g (x::xs)=some r):∃ σ1 vs r',t.put σ x=some σ1∧g σ1=some vs∧W5 t σ g xs=some r'∧r=vs ++ r' :=
 y4 h fun σ1 e1 h1=>y4 h1 fun vs e2 h2=>v8 h2 fun r' h' e=>⟨σ1,vs,r',e1,e2,h',e.symm⟩
theorem FR.grow {hb:HB} {h:Heap} {c:CT} {env:Env} {O O':Addr→Prop} {ow:Nat→Option Addr} {σ:z9} (x:FR hb c env O ow σ h) (hO:∀ b o,h.get? b=some o→¬ O b→¬ O' b):FR hb c env O' ow σ h:=by
 have ks:∀ {i sl ov},SlotR h O ow i sl ov→SlotR h O' ow i sl ov:=by
  intro i sl ov x;refine x.map (fun _ x=>?_) (fun _ x=>?_) (fun _ x=>?_)
  ·obtain ⟨rv,e,r⟩:=x;exact ⟨rv,e,r.mono (fun _ _ e _=>e) hO⟩
  ·obtain ⟨z,a,vs,e,ho,ha,hl,r⟩:=x;exact ⟨z,a,vs,e,ho,ha,hl,r.mono (fun _ _ e _=>e) hO⟩
  ·exact x
 refine ⟨x.fk,?_,fun n i h1 h2=>?_⟩
 ·obtain ⟨m,hn,hr⟩:=x.ns;exact ⟨m,hn,fun n i h1 h2=>ks (hr n i h1 h2)⟩
 ·obtain ⟨a,e,ha,ov,hc,r⟩:=x.cells n i h1 h2;exact ⟨a,e,ha,ov,hc,ks r⟩
theorem FR.mono {hb:HB} {h:Heap} {c:CT} {env:Env} {O O':Addr→Prop} {ow:Nat→Option Addr} {σ:z9} (x:FR hb c env O ow σ h) (hO:∀ b,O' b→O b):FR hb c env O' ow σ h :=
 x.grow fun b _ _ q q'=>q (hO b q')
section
variable {prog:Program} {w:World} {A:Around} {hb:HB} {R:Result→Shared→Prop}
structure LpS (hb:HB) (s si:Shared) (D:Addr) (c:CT) (env:Env) (O:Addr→Prop) (σ:z9) (dn:List PV) (s':Shared):Prop where
 kp:Kp hb s s'
 tr:TR D si.heap s'.heap
 fr:FR hb c env O (fun _=>none) σ s'.heap
 acc:∃ acc:List Value,s'.heap.PlainList D acc.toArray∧VRs s'.heap O dn acc
 ok:OkO O s'.heap
 tk:1≤s'.toks
theorem ItW.step {α:Type} {tg:Expr} {I:Addr} {wr:List Addr} {xs:List PV} {St:Nat→Heap→(Addr→Prop)→Prop} (W:ItW prog w A tg I wr xs St) {i:Nat} {s:Shared} {O:Addr→Prop} {x:PV} {z:Sem α} {k:Value→Sem α} {Q:α→Shared→Prop} {E:Value→Shared→Prop}
  (st:St i s.heap O) (hO:∀ b∈wr,O b) (ok:OkO O s.heap) (ht:x9<s.heap.objs.size) (hx:xs[i]?=some x) (tk:1≤s.toks)
  (h:∀ rv h' tk,St (i + 1) h' O→(∀ b o,b ∉ wr→s.heap.get? b=some o→h'.get? b=some o)→VR h' O x rv→1≤tk→wpAny (model prog w) A (k rv) Q E { s with heap:=h',toks:=tk }) :
  wpAny (model prog w) A (pyNext (.ref I) >>= fun r=>match r with | none=>z | some v=>letOwnedTupleGo tg (.ref I) v >>= fun _=>k v) Q E s:=by
 refine wpAny_bind (wpAny_with_toks tk (wpAny_mono (W.item i s O x (fun v s₂=>1≤s₂.toks→wpAny (model prog w) A (k v) Q E s₂) (fun e s''=>1≤s''.toks→E e s'') st hO ok ht hx fun rv h' tk st1 hk hv htk=>h rv h' tk st1 hk hv htk) (fun r s₁ h₁=>?_) fun e s'' he=>he))
 induction r with
 | none=>exact h₁.elim
 | some v=>exact fun htk=>wpAny_bind (wpAny_with_toks htk h₁)
theorem ItW.fin {α:Type} {tg:Expr} {I:Addr} {wr:List Addr} {xs:List PV} {St:Nat→Heap→(Addr→Prop)→Prop} (W:ItW prog w A tg I wr xs St) {i:Nat} {s:Shared} {O:Addr→Prop} {z:Sem α} {k:Value→Sem α} {Q:α→Shared→Prop} {E:Value→Shared→Prop}
  (st:St i s.heap O) (hx:xs[i]?=none) (hi:i≤xs.length) (tk:1≤s.toks)
  (h:∀ h' tk,(∀ b o,b ∉ wr→s.heap.get? b=some o→h'.get? b=some o)→1≤tk→wpAny (model prog w) A z Q E { s with heap:=h',toks:=tk }) :
  wpAny (model prog w) A (pyNext (.ref I) >>= fun r=>match r with | none=>z | some v=>k v) Q E s:=by
 refine wpAny_bind (wpAny_with_toks tk (wpAny_mono (W.done i s O (fun r s''=>r=none∧(1≤s''.toks→wpAny (model prog w) A z Q E s'')) (fun e s''=>1≤s''.toks→E e s'') st hx hi fun h' tk hk=>⟨rfl,fun htk=>h h' tk hk htk⟩) (fun r s'' hr=>?_) fun e s'' he=>he))
 obtain ⟨rfl,hr⟩:=hr;exact hr
theorem drop_cons {xs:List PV} {i:Nat} {x:PV} (h:xs[i]?=some x):xs.drop i=x::xs.drop (i + 1):=by
 refine Exists.elim (List.getElem?_eq_some_iff.mp h :) fun h1 h2=>?_
 rw [List.drop_eq_getElem_cons h1,h2]
theorem I9 {elt₀:Expr} {gens₀:List Comprehension} {sc₀:Scope} {pos₀:Pos} {e:Expr} (he:e = .ListComp elt₀ gens₀ sc₀ pos₀) {d:Nat} {tg:Expr} {I D:Addr} {wr:List Addr} {items:List PV} {St:Nat→Heap→(Addr→Prop)→Prop} {s si s₄:Shared} {c:CT} {env:Env} {O:Addr→Prop} {σ:z9} {t:Tgt} {g:z9→Option (List PV)}
  {dn total:List PV} {p:Pos} {body:Sem Unit}
  (hA:A.handled=none)
  (hturn:compTurn e d (.ref I) (.ref D) env=(standAt p >>= fun _=>pyNext (.ref I) >>= fun r=>match r with
    | none=>pure (.done .next)
    | some v=>letOwnedTupleGo tg (.ref I) v >>= fun _=>assign tg env v >>= fun _=>body >>= fun _=>again (.compLoop e d (.ref I) (.ref D) env)))
  (W:ItW prog w A tg I wr items St) (hD:D ∉ wr) (hO:∀ b∈wr,O b) (hOD:O D) (hwr:∀ b∈wr,si.heap.get? b=none) (kpi:Kp hb s si) (g₀:GS hb s) (hDs:s.heap.get? D=none) (hDt:D≠x9)
  (own:∀ n∈tgNames tg,OwnN s env n) (ht:i5 c tg=some t) (hless:∀ x σ1,t.put σ x=some σ1→Less σ σ1)
  (step:∀ x σ1 vs s' dn,t.put σ x=some σ1→g σ1=some vs→dn.length + vs.length≤small→LpS hb s si D c env O σ1 dn s'→∀ (Q:Unit→Shared→Prop) (E:Value→Shared→Prop),
   (∀ s'',LpS hb s si D c env O σ1 (dn ++ vs) s''→TR D s'.heap s''.heap→Q () s'')→wpAny (model prog w) A body Q E s')
  (hgen:W5 t σ g items=some total) (hlen:dn.length + total.length≤small)
  (st:St 0 s₄.heap O) (L:LpS hb s si D c env O σ dn s₄)
  (hR:∀ s',Kp hb s s'→TR D si.heap s'.heap→FR hb c env O (fun _=>none) σ s'.heap→(∃ acc:List Value,s'.heap.PlainList D acc.toArray∧VRs s'.heap O (dn ++ total) acc)→1≤s'.toks→R (.ok .next) s') :
  codeAny (model prog w) A (.compLoop e d (.ref I) (.ref D) env) R s₄:=by
 have wt:∀ b∈wr,b≠x9:=fun b hb q=>by
  obtain ⟨o,e⟩:=(kpi.gs g₀).tab.get;rw [← q,hwr b hb] at e;cases e
 have lt:∀ {s':Shared},Kp hb s s'→x9<s'.heap.objs.size:=fun k=>(k.gs g₀).tab.lt
 refine codeAny_loop rfl (fun n s'=>∃ j dn' rest,n=items.length + 1 - j∧j≤items.length∧W5 t σ g (items.drop j)=some rest∧dn' ++ rest=dn ++ total∧St j s'.heap O∧LpS hb s si D c env O σ dn' s')
  (fun n s' hI=>?_) (items.length + 1) ⟨0,dn,total,rfl,Nat.zero_le _,hgen,rfl,st,L⟩
 refine z6 fun K0=>?_
 obtain ⟨j,dn',rest,rfl,hj,hrest,htot,st',L'⟩:=hI;subst he;refine K0 ?_;clear K0;show wpAny _ A ((compTurn (.ListComp elt₀ gens₀ sc₀ pos₀) d (.ref I) (.ref D) env).onRaise (fun x=>do noteFrame x env;theTreesLotGoes x)) _ _ s'
 refine wpAny_noted ?_;rw [hturn];refine wpAny_bind (wpAny_standAt ?_);have hits:=W.its j s'.heap O st';have hwX:∀ b o,b∈wr→s'.heap.get? b=some o→IsIt o:=fun b o hb e=>by
  obtain ⟨o',e',h⟩:=hits b hb;rw [e] at e';cases e';exact h
 -- the state T1 a draw
 have after:∀ {h':Heap} {tk:Nat},(∀ b o,b ∉ wr→s'.heap.get? b=some o→h'.get? b=some o)→1≤tk→(∀ b∈wr,∃ o,h'.get? b=some o)∨True→Kp hb s { s' with heap:=h',toks:=tk } ∧ TR D si.heap h'∧FR hb c env O (fun _=>none) σ h' ∧
   (∃ acc:List Value,h'.PlainList D acc.toArray∧(∀ b o,s'.heap.get? b=some o→W3 O b o→h'.get? b=some o)∧VRs s'.heap O dn' acc):=fun {h' tk} hk htk _=>by
  refine ⟨L'.kp.turns (X:=(· ∈ wr)) g₀ (fun b o hb e=>hk b o hb e) (fun b hb=>Z4 kpi g₀ (hwr b hb)) fun b o hb e => .inl ⟨(hwX b o hb e).nn,(hwX b o hb e).ne (by decide)⟩,⟨fun b o e=>?_,fun b o hb e hd hbD=>?_⟩,
   L'.fr.turn (X:=(· ∈ wr)) (fun b o hb e=>hk b o hb e) fun b o hb e=>⟨(hwX b o hb e).1,hO b hb,fun _ q=>(nomatch q),(hwX b o hb e).ne (by decide)⟩,?_⟩
  ·obtain ⟨o',e'⟩:=L'.tr.alive b o e;have:b ∉ wr:=fun q=>by rw [hwr b q] at e;cases e
   exact ⟨o',hk b o' this e'⟩
  ·have:b ∉ wr:=fun q=>by rw [hwr b q] at e;cases e
   exact hk b o this (L'.tr.keep b o hb e hd hbD)
  ·obtain ⟨acc,⟨n,ha⟩,hr⟩:=L'.acc;exact ⟨acc,⟨n,hk _ _ hD ha⟩,fun b o e l=>hk b o (fun q=>l.2.1 (hO b q)) e,hr⟩
 cases hx:items[j]? with
 | none =>
  have hrest':rest=[]:=by
   rw [List.drop_eq_nil_of_le (by rw [List.getElem?_eq_none_iff] at hx;exact hx)] at hrest
   cases hrest;rfl
  refine z6 fun K0=>?_
  subst hrest'
  rw [List.append_nil] at htot
  subst htot
  refine K0 ?_
  clear K0
  refine W.fin st' hx hj L'.tk fun h' tk hk htk=>?_
  refine z6 fun K0=>?_
  obtain ⟨k1,k2,k3,acc,k4,k5,k6⟩:=after hk htk (.inr trivial)
  refine K0 ?_
  clear K0
  exact wpAny_pure (hR _ k1 k2 k3 ⟨acc,k4,k6.mono k5 fun _ _ _ q=>q⟩ htk)
 | some x =>
  rw [drop_cons hx] at hrest
  refine z6 fun K0=>?_
  obtain ⟨σ1,vs,rest',e1,e2,e3,rfl⟩:=compGen_get hrest
  refine K0 ?_
  clear K0
  have hjl:j<items.length:=(List.getElem?_eq_some_iff.mp hx).1
  refine W.step st' hO L'.ok (lt L'.kp) hx L'.tk fun rv h' tk st1 hk hv htk=>?_
  ·have al:∀ b∈wr,∃ o,h'.get? b=some o:=fun b hb=>let ⟨o,e,_⟩:=W.its _ _ _ st1 b hb;⟨o,e⟩
   have fm:Frm s'.heap O h' O := .turn (X:=(· ∈ wr)) (fun b o hb e=>hk b o hb e) al fun b o hb _ => .inl (hO b hb)
   refine z6 fun K0=>?_
   obtain ⟨k1,k2,k3,acc,k4,k5,k6⟩:=after hk htk (.inr trivial);refine K0 ?_;clear K0;refine wpAny_bind (wpAny_with_toks (n:=1) htk (N8 hA ht e1 k3 k1 g₀ own hv fun h2 tk2 kp2 fm2 kh2 fr2 htk2=>?_))
   have tr2:TR D si.heap h2:=k2.trans ⟨fun b o e=>fm2.alive b o e,fun b o hb e hd _=>kh2 b o hb e hd⟩
   have L2:LpS hb s si D c env O σ1 dn' { s' with heap:=h2,toks:=tk2 } := ⟨kp2,tr2,fr2,⟨acc,by obtain ⟨n,e⟩:=k4;exact ⟨n,kh2 _ _ hDt e (.seq rfl (l5 rfl (by decide)))⟩,(k6.mono k5 fun _ _ _ q=>q).frm fm2⟩,(L'.ok.frm fm).frm fm2,htk2⟩
   have hz:dn'.length + vs.length≤small:=by
    have:=congrArg List.length htot;simp only [List.length_append] at this
    lia
   refine wpAny_bind (step x σ1 vs _ dn' e1 e2 hz L2 _ _ fun s3 L3 tr3=>wpAny_pure ⟨rfl,items.length + 1 - (j + 1),by lia,j + 1,dn' ++ vs,rest',rfl,hjl,e3,by rw [List.append_assoc];exact htot,?_,L3.kp,L3.tr,L3.fr.less (hless x σ1 e1),L3.acc,L3.ok,L3.tk⟩)
   have fm3:Frm h' O s3.heap O:=fm2.trans (tr3.frm hOD);refine W.frm _ _ _ _ _ st1 fm3 hO fun b hb o e=>?_
   refine z6 fun K0=>?_
   obtain ⟨o',e',hit⟩:=W.its _ _ _ st1 b hb;refine K0 ?_;clear K0;rw [e] at e';cases e';have hbt:=wt b hb;exact tr3.keep b o hbt (kh2 b o hbt e hit.1) hit.1 fun q=>hD (q▸hb)
end
end Mine
namespace Mine
open PySem PyProof.Rows PySem.Spec
section
variable {hb:HB} {c:CT} {env:Env} {O O₂:Addr→Prop} {ow:Nat→Option Addr} {σ:z9} {sc:Scope} {cl:List (Str × Addr)} {C:Addr}
theorem M6 {n:Str} {i:Nat} (sok:ScOk c sc) (h:(c.inner sc).slot n=some i):∃ k,sc.names.lookup n=some k∧(k = .local∨k = .cell∨k = .free)∧(n,k)∈sc.names ∧
  (i7 σ (c.cap sc))[i]?=some (match (if k == .free then c.slot n else none) with | some j=>(match j5 σ j with | some v=>Mine.Slot.val v | none=>Mine.Slot.unset) | none=>Mine.Slot.unset):=by
 have h0:=h;have key:(c.inner sc).ns[i]?=some n∧∃ k,sc.names.lookup n=some k∧(k = .local∨k = .cell∨k = .free):=by
  refine x13 (N4 h :) fun k h1 h2 h3=>?_
  exact ⟨H8 h3,k,h1,h2⟩
 refine z6 fun K0=>?_
 refine w7 key fun h1 o0=>?_;refine x12 o0 fun k h2 h3=>?_
 have h1:((sc.names.filter fun x=>P7 x.2).map (·.1))[i]?=some n:=h1
 rw [List.getElem?_map] at h1;refine x12 (Option.map_eq_some_iff.mp h1 :) fun o0 h4 o1=>?_;obtain ⟨n',k'⟩:=o0;obtain rfl:=o1
 refine K0 ?_;clear K0;have hm:(n',k')∈sc.names:=(List.mem_filter.mp (List.mem_of_getElem? h4)).1;have:=M9 sok.nd hm;have h2:sc.names.lookup n'=some k:=h2;rw [this] at h2;cases h2;refine ⟨k,this,h3,hm,?_⟩;unfold i7 CT.cap;rw [List.getElem?_map,List.getElem?_map,h4];rfl
theorem U5 {n:Str} {k:NameKind} (h:sc.names.lookup n=some k):∃ k',(cEnv sc cl C env).kindOf n=some k'∧(k ≠ .free→k'=k)∧(k = .free→k' = .cell∨k' = .free):=B5 h
structure ClOk (env:Env) (sc:Scope) (cl:List (Str × Addr)):Prop where
 sub:∀ n a,cl.lookup n=some a→env.cells.lookup n=some a
 all:∀ n,(n,NameKind.free)∈sc.names→∃ a,(n,a)∈cl
 only:∀ n a,(n,a)∈cl→(n,NameKind.free)∈sc.names
theorem C2 (sok:ScOk c sc) (ck:ClOk env sc cl) {n:Str} {k:NameKind} (h:sc.names.lookup n=some k) (hm:(n,k)∈sc.names) :
  (k = .cell→∃ a,(cEnv sc cl C env).cells.lookup n=some a∧(n,a)∈cellsFrom (C + 1) sc.names []) ∧
  (k ≠ .cell→(cEnv sc cl C env).cells.lookup n=cl.lookup n):=by
 have e:(cEnv sc cl C env).cells=cellsFrom (C + 1) sc.names [] ++ cl:=T2 ..;rw [e,O0];refine ⟨fun q=>?_,fun q=>?_⟩
 ·refine z6 fun K0=>?_
  subst q;refine Exists.elim (Q8 sc.names (C + 1) [] n hm :) fun a ha=>?_
  refine Exists.elim (O1 ha :) fun a' ha'=>?_
  refine K0 ?_;clear K0;rw [ha'];exact ⟨a',rfl,mem_of_lookup ha'⟩
 ·cases h':(cellsFrom (C + 1) sc.names []).lookup n with
  | none=>rfl
  | some a =>
   have:=I5 _ _ _ _ (mem_of_lookup h')
   have:=M9 sok.nd this
   rw [h] at this;cases this;exact absurd rfl q
theorem inner_fr {h h':Heap} (sok:ScOk c sc) (fr:FR hb c env O ow σ h) (ck:ClOk env sc cl) (hk:∀ b o,h.get? b=some o→h'.get? b=some o) (hC:h'.Ns C fun _=>none) (hCt:C≠x9)
  (hlt:∀ b o,h.get? b=some o→b≤C) (hcs:CellsOk h' (C + 1) (cellsFrom (C + 1) sc.names [])) (hct:x9≤C) (hO:∀ b o,h.get? b=some o→¬ O b→¬ O₂ b) :
  FR hb (c.inner sc) (cEnv sc cl C env) O₂ (fun _=>none) (i7 σ (c.cap sc)) h':=by
 have old:∀ n a,(cEnv sc cl C env).cells.lookup n=some a→(n,a)∈cellsFrom (C + 1) sc.names []∨(env.cells.lookup n=some a):=by
  intro n a q;rw [show (cEnv sc cl C env).cells=cellsFrom (C + 1) sc.names [] ++ cl from T2 ..,O0] at q
  split at q
  ·rename_i a' q';cases q;exact .inl (mem_of_lookup q')
  ·exact .inr (ck.sub _ _ q)
 have freeOf:∀ n,(n,NameKind.free)∈sc.names→∃ a j ov,cl.lookup n=some a∧env.cells.lookup n=some a∧c.slot n=some j∧a≠x9∧h.IsCell a ov∧SlotR h O ow j σ[j]? ov:=by
  intro n hn;refine Exists.elim (ck.all n hn :) fun a0 ha0=>?_
  refine Exists.elim (O1 ha0 :) fun a ha=>?_
  refine x12 (sok.free n hn :) fun j hj hkj=>?_
  obtain ⟨a',e',ht',ov,hc',r'⟩:=fr.cells n j hj (fr.fk.kindc n hkj);have:=ck.sub _ _ ha;rw [e'] at this;cases this;exact ⟨a,j,ov,ha,e',hj,ht',hc',r'⟩
 refine ⟨⟨?_,hCt,?_,fr.fk.globs,?_,?_,?_,fr.fk.gl,fr.fk.bu⟩,⟨_,hC,?_⟩,?_⟩
 ·exact sok.fn
 ·intro n i hi;refine z6 fun K0=>?_
  refine x13 (M6 (σ:=σ) sok hi :) fun k h1 h2 _=>?_
  refine x13 (U5 (cl:=cl) (C:=C) (env:=env) h1 :) fun k' h3 h4 h5=>?_
  refine K0 ?_;clear K0;rw [h3];rcases h2 with rfl | rfl | rfl
  ·rw [h4 (by decide)];exact .inl rfl
  ·rw [h4 (by decide)];exact .inr (.inl rfl)
  ·rcases h5 rfl with rfl | rfl
   ·exact .inr (.inl rfl)
   ·exact .inr (.inr rfl)
 ·intro n hn;refine z6 fun K0=>?_
  refine x13 (U5 (cl:=cl) (C:=C) (env:=env) hn :) fun k' h3 h4 _=>?_
  refine K0 ?_;clear K0;rw [h3,h4 (by decide)]
 ·intro n hn;rcases hn with hn | hn
  ·refine z6 fun K0=>?_
   refine x13 (U5 (cl:=cl) (C:=C) (env:=env) hn :) fun k' h3 h4 _=>?_
   refine K0 ?_;clear K0;rw [h3,h4 (by decide)];exact .inl rfl
  ·refine z6 fun K0=>?_
   refine x13 (U5 (cl:=cl) (C:=C) (env:=env) hn :) fun k' h3 _ h5=>?_
   refine K0 ?_;clear K0;rw [h3];rcases h5 rfl with rfl | rfl
   ·exact .inl rfl
   ·exact .inr rfl
 ·intro n n' a h1 h2;have below:∀ n n0,cl.lookup n=some a→(n0,a)∈cellsFrom (C + 1) sc.names []→False:=by
   intro n n0 q hm;refine x36 (freeOf n (ck.only n a (mem_of_lookup q)) :) fun a' j ov q1 _ _ _ o0 _=>?_;refine x12 o0 fun o q5 _=>?_
   rw [q] at q1;obtain rfl:=Option.some.inj q1;exact Nat.lt_irrefl _ (Nat.lt_of_lt_of_le (Nat.lt_succ_self C) (Nat.le_trans (hcs.empty n0 a hm).2 (hlt a o q5)))
  have alive:∀ n,(cEnv sc cl C env).cells.lookup n=some a→(n,a)∈cellsFrom (C + 1) sc.names []∨(env.cells.lookup n=some a∧cl.lookup n=some a):=by
   intro n q;rw [show (cEnv sc cl C env).cells=cellsFrom (C + 1) sc.names [] ++ cl from T2 ..,O0] at q
   split at q
   ·rename_i a' q';cases q;exact .inl (mem_of_lookup q')
   ·exact .inr ⟨ck.sub _ _ q,q⟩
  rcases alive n h1 with q1 | ⟨q1,_⟩
  ·rcases alive n' h2 with q2 | ⟨q2,q3⟩
   ·exact name_of_addr hcs.apart q1 q2
   ·exact (below _ _ q3 q1).elim
  ·rename_i q3;rcases alive n' h2 with q2 | ⟨q2,_⟩
   ·exact (below _ _ q3 q2).elim
   ·exact fr.fk.apart n n' a q1 q2
 ·intro n i hi hkn;refine z6 fun K0=>?_
  refine x14 (M6 (σ:=σ) sok hi :) fun k h1 h2 h3 h4=>?_
  refine x13 (U5 (cl:=cl) (C:=C) (env:=env) h1 :) fun k' h5 h6 h7=>?_
  refine K0 ?_;clear K0;rw [h5] at hkn;obtain rfl:=Option.some.inj hkn;have:k ≠ .free:=fun q=>by rcases h7 q with q | q <;> cases q
  rw [h4];have:(k == NameKind.free)=false:=beq_eq_false_iff_ne.mpr this;rw [this]
  trivial
 ·intro n i hi hkn;refine z6 fun K0=>?_
  refine x14 (M6 (σ:=σ) sok hi :) fun k h1 h2 h3 h4=>?_
  refine x13 (U5 (cl:=cl) (C:=C) (env:=env) h1 :) fun k' h5 h6 h7=>?_
  refine w7 (C2 (C:=C) sok ck h1 h3 :) fun h8 h9=>?_
  refine K0 ?_;clear K0;rcases h2 with rfl | rfl | rfl
  ·rw [h6 (by decide)] at h5;rw [h5] at hkn;rcases hkn with q | q <;> cases q
  ·refine z6 fun K0=>?_
   refine x12 (h8 rfl :) fun a ha hm=>?_
   refine K0 ?_;clear K0;refine ⟨a,ha,?_,none,(hcs.empty n a hm).1,?_⟩
   ·have:=(hcs.empty n a hm).2;exact Nat.ne_of_gt (Nat.lt_of_le_of_lt hct (Nat.lt_of_succ_le this))
   ·rw [h4];trivial
  ·refine z6 fun K0=>?_
   refine x36 (freeOf n h3 :) fun a j ov q1 q2 q3 q4 o0 q7=>?_;refine x12 o0 fun o q5 q6=>?_
   refine K0 ?_;clear K0;refine ⟨a,by rw [h9 (by decide)];exact q1,q4,ov,⟨o,hk _ _ q5,q6⟩,?_⟩;rw [h4,if_pos (by rfl),q3];dsimp only
   cases hv:j5 σ j with
   | none=>trivial
   | some v =>
    refine z6 fun K0=>?_
    obtain ⟨rv,e,r⟩:=val_of hv q7
    refine K0 ?_
    clear K0
    exact ⟨rv,e,r.mono (fun b o e _=>hk b o e) hO⟩
end
end Mine
namespace Mine
open PySem PyProof.Rows PySem.Spec
section
variable {prog:Program} {w:World} {A:Around} {hb:HB} {Γ:y9} {c:CT}
structure Setup (prog:Program) (w:World) (A:Around) (hb:HB) (s si:Shared) (tg:Expr) (I D:Addr) (wr:List Addr) (items:List PV) (St:Nat→Heap→(Addr→Prop)→Prop) (O:Addr→Prop) (c:CT) (env:Env) (σ:z9) (dn:List PV) (s₄:Shared):Prop where
 W:ItW prog w A tg I wr items St
 hD:D ∉ wr
 hO:∀ b∈wr,O b
 hOD:O D
 hwr:∀ b∈wr,si.heap.get? b=none
 hDs:s.heap.get? D=none
 hDt:D≠x9
 st:St 0 s₄.heap O
 L:LpS hb s si D c env O σ dn s₄
 len:items.length≤small
theorem comp_core {elt tgE it:Expr} {ifs:List Expr} {gens:List Comprehension} {sc:Scope} {pos:Pos} {k:IK} {a b:PE} (hit:SIt prog w A hb Γ c it k a b) (hset:∀ env x,foldedSetIterable it env x=pure x) (sok:ScOk c sc)
  {env:Env} {O:Addr→Prop} {ow:Nat→Option Addr} {σ:z9} {s:Shared} (fr:FR hb c env O ow σ s.heap) (xc:XC hb O s) (tk:1≤s.toks)
  {x y:PV} {items total:List PV} (hx:z8 Γ a .val σ=some x) (hy:z8 Γ b .val σ=some y) (hi:f9 k x y=some items) (htg:TgFit k tgE) (htot:items.length≤small→total.length≤small) {use:Option (Value→Sem Unit)} {Q:Value→Shared→Prop} {E:Value→Shared→Prop}
  (loop:∀ I wr St D C cl s₄ O₂ R,Setup prog w A hb s s tgE I D wr items St O₂ (c.inner sc) (cEnv sc cl C env) (i7 σ (c.cap sc)) [] s₄ →
   (∀ n,sc.names.lookup n=some .local∨sc.names.lookup n=some .cell→OwnN s (cEnv sc cl C env) n) →
   (∀ s',Kp hb s s'→TR D s.heap s'.heap→FR hb (c.inner sc) (cEnv sc cl C env) O₂ (fun _=>none) (i7 σ (c.cap sc)) s'.heap→(∃ acc:List Value,s'.heap.PlainList D acc.toArray∧VRs s'.heap O₂ total acc)→1≤s'.toks→R (.ok .next) s') →
   codeAny (model prog w) A (.compLoop (.ListComp elt (⟨tgE,it,ifs,0⟩::gens) sc pos) 0 (.ref I) (.ref D) (cEnv sc cl C env)) R s₄)
  (hP:∀ C s' rv m,Kp hb s s'→s'.heap.Ns C m→s.heap.get? C=none→VR s'.heap O (.list total) rv→1≤s'.toks→compPost (model prog w) A E use Q rv C (.ok .next) s') :
  wpAny (model prog w) A (comprehension (.ListComp elt (⟨tgE,it,ifs,0⟩::gens) sc pos) sc env it.pos (newList []) false (eval it env) use) Q E s:=by
 have hfree:∀ n,(n,NameKind.free)∈sc.names→∃ a,env.cells.lookup n=some a:=fun n hn=>by
  refine x12 (sok.free n hn :) fun j hj hkj=>?_
  obtain ⟨a',e',_⟩:=fr.cells n j hj (fr.fk.kindc n hkj);exact ⟨a',e'⟩
 refine z6 fun K0=>?_
 refine x14 (closure_of (env:=env) (scope:=sc) hfree :) fun cl hclos ck1 ck2 ck3=>?_
 refine K0 ?_;clear K0;refine wpAny_comprehension_free (use:=use) (g:=⟨tgE,it,ifs,0⟩) (gs:=gens) rfl (fun x=>hset env x) hclos sok.fn (fun x hx hl=>by
  obtain ⟨n,kk⟩:=x;have hl:kk = .local:=hl;subst hl;exact M9 sok.nd hx) ?_
 refine hit env O ow σ s fr xc tk x y items tgE hx hy hi htg _ _ fun I wr St s₂ k₂ t₂ W st hwr hlen=>?_
 refine wpAny_with_toks t₂ (wpAny_newObj_type ?_);intro t₃;refine newEnvComp ?_;generalize hH3:s₂.heap.push { cls := .type "list",dict:=none,data := .seq ([]:List Value).toArray } = H3;have hC:H3.objs.size=s₂.heap.objs.size + 1:=by rw [← hH3,Heap.size_push]
 have xc2:=xc.kp k₂;have hkH3:∀ b o,s₂.heap.get? b=some o→H3.get? b=some o:=fun b o e=>hH3▸Heap.get?_push_of_some _ e
 have ok:=cellsFrom_ok sc.names (H3.push { cls := .type "dict",data := .dict #[] }) (H3.objs.size + 1) [] ⟨fun _ _ hm=>(nomatch hm),List.Pairwise.nil⟩ (by rw [Heap.size_push];exact Nat.le_refl _)
 rw [Heap.size_push] at ok;have hns:(pushCells (H3.push { cls := .type "dict",data := .dict #[] }) sc.names).Ns H3.objs.size fun _=>none:=(Heap.Ns.new H3 (.type "dict")).keeps (pushCells_keeps _ _)
 have hk3:∀ b o,H3.get? b=some o→(pushCells (H3.push { cls := .type "dict",data := .dict #[] }) sc.names).get? b=some o:=fun b o e=>pushCells_keeps _ _ b o (Heap.get?_push_of_some _ e)
 generalize pushCells (H3.push { cls := .type "dict",data := .dict #[] }) sc.names=H4 at ok hns hk3;have hk4:∀ b o,s₂.heap.get? b=some o→H4.get? b=some o:=fun b o e=>hk3 b o (hkH3 b o e)
 have hD4:H4.PlainList s₂.heap.objs.size #[]:=⟨0,hk3 _ _ (hH3▸Heap.get?_push_size _ rfl)⟩;have hDn:s₂.heap.get? s₂.heap.objs.size=none:=Z7 (Nat.le_refl _);have hDw:s₂.heap.objs.size ∉ wr:=fun q=>by
  refine x12 (W.its _ _ _ st _ q :) fun o e _=>?_
  rw [hDn] at e;cases e
 have tlt:=xc2.gs.tab.lt;have fm:Frm s₂.heap (fun b=>O b∨b∈wr) H4 (fun b=>(O b∨b∈wr)∨b=s₂.heap.objs.size) :=
  ⟨fun b o e=>⟨o,hk4 b o e⟩,fun b o _ e _ _=>hk4 b o e,fun b o e hO q=>by
   rcases q with q | q
   ·exact hO q
   ·rw [q,hDn] at e;cases e⟩
 have kp4:Kp hb s { s₂ with heap:=H4,toks:=s₂.toks } := k₂.trans (.keeps (tk:=s₂.toks) hk4);have hCn:s.heap.get? H3.objs.size=none:=Z4 k₂ xc.gs (Z7 (by rw [hC];exact Nat.le_succ _));have frg:FR hb c env (fun b=>O b∨b∈wr) ow σ s₂.heap:=(fr.grow fun b o e hO q=>by
   rcases q with q | q
   ·exact hO q
   ·rw [hwr b q] at e;cases e).kp k₂
 have ifr:=inner_fr (C:=H3.objs.size) (O₂:=fun b=>(O b∨b∈wr)∨b=s₂.heap.objs.size) sok frg (cl:=cl) ⟨ck1,ck2,ck3⟩ hk4 hns (Nat.ne_of_gt (by rw [hC];exact Nat.lt_succ_of_lt tlt)) (fun b o e=>by rw [hC];exact Nat.le_succ_of_le (Nat.le_of_lt (Heap.lt_size e))) ok (by rw [hC];exact Nat.le_succ_of_le (Nat.le_of_lt tlt)) fm.thin
 have okk:OkO (fun b=>(O b∨b∈wr)∨b=s₂.heap.objs.size) H4:=fun a ha=>by
  rcases ha with (ha | ha) | ha
  ·refine w7 (xc2.ok a ha :) fun h1 o0=>?_;refine Exists.elim o0 fun o h2=>?_
   exact ⟨h1,o,hk4 _ _ h2⟩
  ·refine x12 (W.its _ _ _ st a ha :) fun o e _=>?_
   refine ⟨fun q=>?_,o,hk4 _ _ e⟩
   refine Exists.elim xc.gs.tab.get fun o' e'=>?_
   rw [← q,hwr a ha] at e';cases e'
  ·rw [ha];exact ⟨Nat.ne_of_gt tlt,_,hD4.choose_spec⟩
 have hDs:s.heap.get? s₂.heap.objs.size=none:=Z4 k₂ xc.gs hDn;refine codeAny_compStart_list (env:=cEnv sc cl H3.objs.size env) ?_ ?_
 all_goals
  first
  | refine W.self 0 _ (fun b=>(O b∨b∈wr)∨b=s₂.heap.objs.size) _ _ (W.frm _ _ _ _ _ st fm (fun b hb => .inl (.inr hb)) fun b _ o e=>hk4 b o e) ?_
  | skip
 all_goals
  refine loop I wr St s₂.heap.objs.size H3.objs.size cl _ (fun b=>(O b∨b∈wr)∨b=s₂.heap.objs.size) _ ⟨W,hDw,fun b hb => .inl (.inr hb),.inr rfl,hwr,hDs,Nat.ne_of_gt tlt,W.frm _ _ _ _ _ st fm (fun b hb => .inl (.inr hb)) fun b _ o e=>hk4 b o e,⟨kp4,.kp kp4 xc.gs _,ifr,⟨[],hD4,rfl⟩,okk,t₂⟩,hlen⟩ ?_ ?_
  ·intro n hn;refine ⟨fun _=>hCn,fun hk a ha=>?_,fun hk=>?_⟩
   ·rcases hn with hn | hn
    ·refine x13 (U5 (cl:=cl) (C:=H3.objs.size) (env:=env) hn :) fun k' h3 h4 _=>?_
     rw [h3,h4 (by decide)] at hk;cases hk
    ·refine w7 (C2 (C:=H3.objs.size) (env:=env) (cl:=cl) sok ⟨ck1,ck2,ck3⟩ hn (mem_of_lookup hn) :) fun h8 _=>?_
     refine z6 fun K0=>?_
     refine x12 (h8 rfl :) fun a' ha' hm=>?_
     refine K0 ?_;clear K0;rw [ha] at ha';cases ha';have:=(ok.empty n a hm).2;exact Z4 k₂ xc.gs (Z7 (Nat.le_trans (by rw [hC];exact Nat.le_succ_of_le (Nat.le_succ _)) this))
   ·rcases hn with hn | hn
    ·refine x13 (U5 (cl:=cl) (C:=H3.objs.size) (env:=env) hn :) fun k' h3 h4 _=>?_
     rw [h3,h4 (by decide)] at hk;cases hk
    ·refine x13 (U5 (cl:=cl) (C:=H3.objs.size) (env:=env) hn :) fun k' h3 h4 _=>?_
     rw [h3,h4 (by decide)] at hk;cases hk
  ·intro s' k' tr' fr' hacc tk';refine z6 fun K0=>?_
   refine x12 hacc fun acc hpl hr=>?_
   obtain ⟨m,hm,_⟩:=fr'.ns;refine K0 ?_;clear K0;refine hP H3.objs.size s' _ m k' hm hCn ⟨htot hlen,s₂.heap.objs.size,acc,rfl,Nat.ne_of_gt tlt,fun q=>?_,hpl,hr.mono (fun _ _ e _=>e) fun b _ _ q q'=>q (.inl (.inl q'))⟩ tk'
   refine z6 fun K0=>?_
   refine w7 (xc2.ok _ q :) fun _ o0=>?_;refine Exists.elim o0 fun o e=>?_
   refine K0 ?_;clear K0;rw [hDn] at e;cases e
end
end Mine
namespace Mine
open PySem PyProof.Rows PySem.Spec
section
variable {prog:Program} {w:World} {A:Around} {hb:HB} {Γ:y9} {c:CT}
noncomputable def testsT (ifs:List Expr) (env:Env):Sem Bool:=forIn ifs true fun c r=>if r=true then do let ok ← isTrue c env (eval c env);pure (ForInStep.yield ok) else pure (ForInStep.yield r)
noncomputable def STs (prog:Program) (w:World) (A:Around) (hb:HB) (Γ:y9) (c:CT) (es:List Expr) (pes:List PE):Prop :=
 ∀ (env:Env) (O:Addr→Prop) (ow:Nat→Option Addr) (σ:z9) (s:Shared),FR hb c env O ow σ s.heap→XC hb O s→1≤s.toks →
  ∀ b,f0 Γ pes σ=some b→OkB prog w A hb (testsT es env) b s
theorem sts_nil:STs prog w A hb Γ c [] []:=by
 intro env O ow σ s fr xc ht b hv Q E hQ;obtain rfl:=Option.some.inj hv;exact wpAny_pure (hQ _ (.refl ..) ht)
theorem tests_off:∀ (es:List Expr) (env:Env),(forIn es false fun c r=>if r=true then do let ok ← isTrue c env (eval c env);pure (ForInStep.yield ok) else pure (ForInStep.yield r):Sem Bool)=pure false
 | [],_=>rfl
 | e::es,env=>by
  rw [List.forIn_cons];exact tests_off es env
theorem sts_cons {e:Expr} {es:List Expr} {pe:PE} {pes:List PE} (h1:SE prog w A hb Γ c e pe) (h2:STs prog w A hb Γ c es pes):STs prog w A hb Γ c (e::es) (pe::pes):=by
 intro env O ow σ s fr xc ht b hv Q E hQ;refine z6 fun K0=>?_
 refine y4 hv fun t hx h3=>?_
 refine K0 ?_;clear K0;unfold testsT;rw [List.forIn_cons];refine wpAny_bind (wpAny_bind (h1.test fr xc ht hx _ _ fun s₁ k₁ t₁=>wpAny_pure ?_))
 cases t
 ·refine z6 fun K0=>?_
  obtain rfl:=Option.some.inj h3;refine K0 ?_;clear K0;show wpAny _ _ (forIn es false _) Q E s₁;rw [tests_off];exact wpAny_pure (hQ _ k₁ t₁)
 ·exact h2 env O ow σ s₁ (fr.kp k₁) (xc.kp k₁) t₁ b h3 _ _ fun s' k=>hQ s' (k₁.trans k)
theorem append_ok {s si s':Shared} {D:Addr} {c:CT} {env:Env} {O:Addr→Prop} {σ:z9} {dn:List PV} {v:PV} {rv:Value} {Q:Value→Shared→Prop} {E:Value→Shared→Prop} (g₀:GS hb s) (hDs:s.heap.get? D=none) (hOD:O D)
  (L:LpS hb s si D c env O σ dn s') (hz:dn.length + 1≤small) (r:VR s'.heap O v rv) (hQ:∀ s'',LpS hb s si D c env O σ (dn ++ [v]) s''→TR D s'.heap s''.heap→Q .none s'') :
  wpAny (model prog w) A (call (.builtin "list.append") [.ref D,rv]) Q E s':=by
 refine z6 fun K0=>?_
 refine x12 L.acc fun acc hpl hr=>?_
 refine K0 ?_;clear K0;have h2:small=1048576:=rfl;refine wpAny_list_append_plain hpl (fun h' hl' hs'=>?_) (by rw [List.size_toArray,hr.length];exact Nat.le_trans (by lia) a8)
 refine z6 fun K0=>?_
 refine Exists.elim (id hpl :) fun n hD=>?_
 refine Exists.elim (id hl' :) fun n' hD'=>?_
 refine K0 ?_;clear K0;have hk:∀ b o,¬ b=D→s'.heap.get? b=some o→h'.get? b=some o:=fun b o hb e=>hs'.extBut b o hb e
 have km:∀ b o,s'.heap.get? b=some o→W3 O b o→h'.get? b=some o:=fun b o e l=>hk b o (fun q=>l.2.1 (q▸hOD)) e
 have tr:TR D s'.heap h':=⟨fun b o e=>by
  by_cases hb:b=D
  ·subst hb;exact ⟨_,hD'⟩
  ·exact ⟨o,hk b o hb e⟩,fun b o _ e _ hb=>hk b o hb e⟩
 refine hQ _ ⟨L.kp.turns (tk:=s'.toks) (X:=(· = D)) g₀ hk (fun b q=>by rw [q];exact hDs) fun b o q e=>?_,L.tr.trans tr,L.fr.turn (X:=(· = D)) hk fun b o q e=>?_,⟨acc ++ [rv],?_,?_⟩,L.ok.frm (tr.frm hOD),L.tk⟩ tr
 ·rw [q,hD] at e;obtain rfl:=Option.some.inj e;exact .inl ⟨(show Value.type "list" ≠ Value.none by decide),(show Value.type "list" ≠ Value.type "code" by decide)⟩
 ·rw [q,hD] at e;obtain rfl:=Option.some.inj e;exact ⟨.seq rfl (l5 rfl (by decide)),q▸hOD,fun _ q=>(nomatch q),(show Value.type "list" ≠ Value.type "builtin_function_or_method" by decide)⟩
 ·have e:(acc ++ [rv]).toArray=acc.toArray.push rv:=by simp
  rw [e];exact hl'
 ·exact (hr.mono km fun _ _ _ q=>q).append ⟨rv,[],rfl,r.mono km fun _ _ _ q=>q,rfl⟩
theorem LpS.xc {s si s':Shared} {D:Addr} {c:CT} {env:Env} {O:Addr→Prop} {σ:z9} {dn:List PV} (L:LpS hb s si D c env O σ dn s') {O₁:Addr→Prop} (x₀:XC hb O₁ s):XC hb O s':=⟨L.kp.gs x₀.gs,L.ok,x₀.own.soft L.kp.soft⟩
theorem LpS.run {s si s' s'':Shared} {D:Addr} {c:CT} {env:Env} {O:Addr→Prop} {σ:z9} {dn:List PV} (L:LpS hb s si D c env O σ dn s') (g₀:GS hb s) (hDt:D≠x9) (k:Kp hb s' s'') (tk:1≤s''.toks):LpS hb s si D c env O σ dn s'' :=
 ⟨L.kp.trans k,L.tr.trans (.kp k (L.kp.gs g₀) D),L.fr.kp k,by
  refine x12 L.acc fun acc hpl hr=>?_
  exact ⟨acc,V8 k.soft hDt hpl,hr.soft k.soft⟩,L.ok.kp k,tk⟩
noncomputable def bodyT (elt:Expr) (ifs:List Expr) (D:Addr) (env:Env):Sem Unit :=
 testsT ifs env >>= fun ok=>if ok=true then (eval elt env >>= fun x=>call (.builtin "list.append") [.ref D,x] >>= fun _=>pure ()) else pure ()
theorem turn_one (elt target iter:Expr) (ifs:List Expr) (scope:Scope) (pos:Pos) (it:Value) (D:Addr) (env:Env) :
  compTurn (.ListComp elt [⟨target,iter,ifs,0⟩] scope pos) 0 it (.ref D) env=(standAt iter.pos >>= fun _=>pyNext it >>= fun r=>match r with
    | none=>pure (.done .next)
    | some v=>letOwnedTupleGo target it v >>= fun _=>assign target env v >>= fun _=>bodyT elt ifs D env >>= fun _=>again (.compLoop (.ListComp elt [⟨target,iter,ifs,0⟩] scope pos) 0 it (.ref D) env)):=by
 rw [compTurn_list];unfold bodyT testsT;refine congrArg (standAt iter.pos >>= ·) (funext fun _=>congrArg (pyNext it >>= ·) (funext fun r=>?_))
 induction r with
 | none=>rfl
 | some v =>
  simp only [bind_assoc]
  refine congrArg (letOwnedTupleGo target it v >>= ·) (funext fun _=>congrArg (assign target env v >>= ·) (funext fun _=>?_))
  refine congrArg ((forIn ifs true fun c r=>if r=true then do let ok ← isTrue c env (eval c env);pure (ForInStep.yield ok) else pure (ForInStep.yield r)) >>= ·) (funext fun ok=>?_)
  cases ok
  ·rfl
  ·simp [bind_assoc]
noncomputable def Tgt.has:Tgt→Nat→Prop
 | .one a,i=>i=a
 | .two a b,i=>i=a∨i=b
theorem put_two {a b:Nat} {σ σ1:z9} {x:PV} (h:(Tgt.two a b).put σ x=some σ1):∃ v1 v2,x = .tup [v1,v2]∧σ1=z7 (z7 σ a (.val v1)) b (.val v2):=by
 refine z6 fun K0=>?_
 refine x12 (map_some (show (pairP x).map _=some σ1 from h) :) fun p e o0=>?_;obtain rfl:=o0
 refine K0 ?_;clear K0;exact ⟨p.1,p.2,pairP_ok e,rfl⟩
theorem put_less {t:Tgt} {σ σ1:z9} {x:PV} (h:t.put σ x=some σ1) (hn:∀ i:Nat,t.has i→σ[i]?=some Mine.Slot.unset∨σ[i]?=none) (ha:∀ (i r:Nat),σ[i]?≠some (Mine.Slot.app r)):Less σ σ1:=by
 have clear:∀ (σ:z9) (a:Nat),(∀ (i r:Nat),σ[i]?≠some (Mine.Slot.app r))→∀ (s:Mine.Slot) (i:Nat),i≠a→(z7 σ a s)[i]?=σ[i]?:=by
  intro σ a ha s i hi;unfold z7;rw [List.getElem?_set_ne (Ne.symm hi)];rw [List.getElem?_map]
  cases hs:σ[i]? with
  | none=>rfl
  | some q =>
   induction q with
   | app r=>exact absurd hs (ha i r)
   | _=>rfl
 induction t with
 | one a =>
  obtain rfl:=Option.some.inj h
  intro i
  by_cases hi:i=a
  ·rcases hn i hi with q | q
   ·exact .inr (.inl q)
   ·exact .inr (.inr q)
  ·exact .inl (clear σ a ha _ i hi).symm
 | two a b =>
  refine x22 (put_two h :) fun v1 v2 o0 o1=>?_;obtain rfl:=o0;obtain rfl:=o1
  ·intro i;by_cases hi:i=a∨i=b
   ·rcases hn i hi with q | q
    ·exact .inr (.inl q)
    ·exact .inr (.inr q)
   ·have h1:i≠a:=fun q=>hi (.inl q)
    have h2:i≠b:=fun q=>hi (.inr q)
    refine .inl ?_;rw [clear (z7 σ a (.val v1)) b (fun j r=>?_) _ i h2,clear σ a ha _ i h1]
    by_cases hj:j=a
    ·subst hj;rcases N0 σ j (.val v1) with q | q <;> rw [q] <;> intro q' <;> cases q'
    ·rw [clear σ a ha _ j hj];exact ha j r
theorem own_or {sc:Scope} {k:Str} (h:S7 sc k=true):sc.names.lookup k=some .local∨sc.names.lookup k=some .cell:=(Bool.or_eq_true_iff.mp h).imp beq_iff_eq.mp beq_iff_eq.mp
theorem tg_slots {sc:Scope} {tg:Expr} {t:Tgt} (ht:i5 (c.inner sc) tg=some t) (ok:tgOk sc tg=true) (sok:ScOk c sc) (σ:z9) :
  (∀ i:Nat,t.has i→(i7 σ (c.cap sc))[i]?=some Mine.Slot.unset∨(i7 σ (c.cap sc))[i]?=none) ∧
  (∀ n∈tgNames tg,sc.names.lookup n=some .local∨sc.names.lookup n=some .cell):=by
 have one:∀ {n:Str} {i:Nat},(c.inner sc).slot n=some i→sc.names.lookup n=some .local∨sc.names.lookup n=some .cell→(i7 σ (c.cap sc))[i]?=some Mine.Slot.unset:=by
  intro n i hi hk;refine x14 (M6 (σ:=σ) sok hi :) fun k h1 _ _ h4=>?_
  have:(k == NameKind.free)=false:=by
   rcases hk with hk | hk <;> rw [hk] at h1 <;> cases h1 <;> rfl
  rw [h4,this];rfl
 rcases N9 ht with ⟨n,p,i,rfl,hi,rfl⟩ | ⟨n,p,n',p',k,pp,i,j,rfl,hi,hj,rfl⟩
 ·replace ok:=own_or (k:=n) ok;refine ⟨fun j hj=>?_,fun n' hn'=>?_⟩
  ·have hj:j=i:=hj;subst hj;exact .inl (one hi ok)
  ·rw [List.mem_singleton.mp hn'];exact ok
 ·replace ok:(S7 sc n && S7 sc n' && n != n')=true:=ok;have ok1:=own_or (y5 (y5 ok));have ok2:=own_or (v6 (y5 ok));refine ⟨fun q hq=>?_,fun m hm=>?_⟩
  ·rcases hq with rfl | rfl
   ·exact .inl (one hi ok1)
   ·exact .inl (one hj ok2)
  ·rcases List.mem_cons.mp hm with rfl | hm
   ·exact ok1
   ·rw [List.mem_singleton.mp hm];exact ok2
theorem I0 {σ:z9} {cap:List (Option Nat)} (i r:Nat):(i7 σ cap)[i]?≠some (Mine.Slot.app r):=by
 unfold i7;rw [List.getElem?_map]
 cases cap[i]? with
 | none=>exact fun q=>nomatch q
 | some o =>
  induction o with
  | none=>exact fun q=>nomatch q
  | some j =>
   intro q
   have q:=Option.some.inj q
   dsimp only at q
   split at q <;> cases q
theorem Q9 {k:IK} {tg:Expr} {t:Tgt} (ht:i5 c tg=some t) (h:b4 k t=true):TgFit k tg:=by
 rcases N9 ht with ⟨n,p,i,rfl,hi,rfl⟩ | ⟨n,p,n',p',k',pp,i,j,rfl,hi,hj,rfl⟩
 ·cases k
  ·exact fun I v=>rfl
  ·exact fun I v=>rfl
  ·exact absurd h Bool.false_ne_true
  ·exact absurd h Bool.false_ne_true
 ·cases k
  ·exact absurd h Bool.false_ne_true
  ·exact absurd h Bool.false_ne_true
  ·exact ⟨_,_,_,rfl⟩
  ·exact ⟨_,_,_,rfl⟩
theorem D4 {elt tg it:Expr} {ifs:List Expr} {sc:Scope} {pos:Pos} {k:IK} {a b:PE} {t:Tgt} {pifs:List PE} {pe:PE} (hA:A.handled=none) (hit:SIt prog w A hb Γ c it k a b) (hset:∀ env x,foldedSetIterable it env x=pure x) (sok:ScOk c sc)
  (ht:i5 (c.inner sc) tg=some t) (hfit:b4 k t=true) (hok:tgOk sc tg=true) (h3:STs prog w A hb Γ (c.inner sc) ifs pifs) (h4:SE prog w A hb Γ (c.inner sc) elt pe)
  {env:Env} {O:Addr→Prop} {ow:Nat→Option Addr} {σ:z9} {s:Shared} (fr:FR hb c env O ow σ s.heap) (xc:XC hb O s) (tk:1≤s.toks)
  {x y:PV} {items total:List PV} (hx:z8 Γ a .val σ=some x) (hy:z8 Γ b .val σ=some y) (hi:f9 k x y=some items) (hgo:m5 t (i7 σ (c.cap sc)) (f0 Γ pifs) (z8 Γ pe .val) items=some total)
  {use:Option (Value→Sem Unit)} {Q:Value→Shared→Prop} {E:Value→Shared→Prop}
  (hP:∀ C s' rv m,Kp hb s s'→s'.heap.Ns C m→s.heap.get? C=none→VR s'.heap O (.list total) rv→1≤s'.toks→compPost (model prog w) A E use Q rv C (.ok .next) s') :
  wpAny (model prog w) A (comprehension (.ListComp elt [⟨tg,it,ifs,0⟩] sc pos) sc env it.pos (newList []) false (eval it env) use) Q E s:=by
 refine z6 fun K0=>?_
 refine w7 (M0 hgo :) fun hgen hlen=>?_
 refine w7 (tg_slots ht hok sok σ :) fun ts1 ts2=>?_
 refine K0 ?_;clear K0;refine comp_core hit hset sok fr xc tk hx hy hi (Q9 ht hfit) (fun hil=>Nat.le_trans hlen hil) (fun I wr St D C cl s₄ O₂ R S own hR=>?_) hP
 refine I9 rfl hA (turn_one ..) S.W S.hD S.hO S.hOD S.hwr (.refl ..) xc.gs S.hDs S.hDt (fun n hn=>own n (ts2 n hn)) ht (fun x σ1 h=>put_less h ts1 I0) (fun x' σ1 vs s' dn hp hg hz L Q E hQ=>?_) hgen (by simpa using Nat.le_trans hlen S.len) S.st S.L fun s' k1 k2 k3 k4 k5=>hR s' k1 k2 k3 (by simpa using k4) k5
 refine z6 fun K0=>?_
 refine y4 hg fun q e1 h'=>?_
 refine K0 ?_;clear K0;refine wpAny_bind (h3 _ _ _ _ _ L.fr (L.xc xc) L.tk _ e1 _ _ fun s1 k1 t1=>?_)
 have L1:=L.run xc.gs S.hDt k1 t1
 induction q with
 | true =>
  refine z6 fun K0=>?_
  refine v8 h' fun v e2 o0=>?_;obtain rfl:=o0
  refine K0 ?_
  clear K0
  rw [if_pos rfl]
  refine wpAny_bind (h4.val L1.fr (L1.xc xc) L1.tk e2 _ _ fun rv s2 k2 t2 r2=>?_)
  have L2:=L1.run xc.gs S.hDt k2 t2
  refine wpAny_bind (append_ok xc.gs S.hDs S.hOD L2 hz r2 fun s3 L3 tr3=>wpAny_pure (hQ s3 L3 ?_))
  exact ((TR.kp k1 (L.kp.gs xc.gs) D).trans (.kp k2 (L1.kp.gs xc.gs) D)).trans tr3
 | false =>
  refine z6 fun K0=>?_
  obtain rfl:=Option.some.inj h'
  refine K0 ?_
  clear K0
  rw [if_neg (by decide)]
  exact wpAny_pure (hQ s1 (by rw [List.append_nil];exact L1) (.kp k1 (L.kp.gs xc.gs) D))
theorem D5 {O:Addr→Prop} {s:Shared} {total:List PV} {Q:Value→Shared→Prop} {E:Value→Shared→Prop} (xc:XC hb O s) (hQ:∀ rv s',Kp hb s s'→VR s'.heap O (.list total) rv→Q rv s') :
  ∀ C s' rv m,Kp hb s s'→s'.heap.Ns C m→s.heap.get? C=none→VR s'.heap O (.list total) rv→1≤s'.toks→compPost (model prog w) A E none Q rv C (.ok .next) s':=by
 intro C s' rv m k hm hC r tk;refine ⟨m,hm,fun h' hs=>?_⟩
 refine z6 fun K0=>?_
 refine x33 (id hm :) fun o es ep ho hd _=>?_
 refine K0 ?_;clear K0;have hk:∀ b o,¬ b=C→s'.heap.get? b=some o→h'.get? b=some o:=fun b o hb e=>hs.extBut b o hb e
 have nL:∀ b o,b=C→s'.heap.get? b=some o→¬ Hardy o:=fun b o' hb e q=>by rw [hb,ho] at e;cases e;exact q.1 _ _ hd
 exact hQ rv { s' with heap:=h' } (k.turns (tk:=s'.toks) (X:=(· = C)) xc.gs hk (fun b q=>by rw [q];exact hC) fun b o q e => .inr (nL b o q e)) (r.mono (fun b o e l=>hk b o (fun q=>nL b o q e l.2.2.2) e) fun _ _ _ q=>q)
theorem se_comp {elt tg it:Expr} {ifs:List Expr} {sc:Scope} {pos:Pos} {k:IK} {a b:PE} {t:Tgt} {pifs:List PE} {pe:PE} (hA:A.handled=none) (hit:SIt prog w A hb Γ c it k a b) (hset:∀ env x,foldedSetIterable it env x=pure x) (sok:ScOk c sc)
  (ht:i5 (c.inner sc) tg=some t) (hfit:b4 k t=true) (hok:tgOk sc tg=true) (h3:STs prog w A hb Γ (c.inner sc) ifs pifs) (h4:SE prog w A hb Γ (c.inner sc) elt pe) :
  SE prog w A hb Γ c (.ListComp elt [⟨tg,it,ifs,0⟩] sc pos) (.comp pe t k a b pifs (c.cap sc)):=by
 refine SE.gen (fun _=>rfl) (fun σ=>(z8 Γ a .val σ).bind fun x=>(z8 Γ b .val σ).bind fun y=>(f9 k x y).bind fun items=>(m5 t (i7 σ (c.cap sc)) (f0 Γ pifs) (z8 Γ pe .val) items).map .list) (fun m σ=>rfl) fun env O ow σ s fr xc tk v hv=>?_
 refine z6 fun K0=>?_
 refine y4 hv fun x hx v1=>?_
 refine y4 v1 fun y hy v2=>?_
 refine y4 v2 fun items hi v3=>?_
 refine K0 ?_;clear K0;refine v8 v3 fun total hgo o0=>?_;obtain rfl:=o0
 intro Q E hQ;rw [eval_ListComp];exact D4 hA hit hset sok ht hfit hok h3 h4 fr xc tk hx hy hi hgo (D5 xc hQ)
end
end Mine
namespace Mine
open PySem PyProof.Rows PySem.Spec
section
variable {prog:Program} {w:World} {A:Around} {hb:HB} {Γ:y9} {c:CT} {R:Result→Shared→Prop} {s:Shared}
theorem compStart_one {elt it1 it2 t1 t2:Expr} {sc:Scope} {pos:Pos} {it acc:Value} {env:Env}
  (h0:codeAny (model prog w) A (.compLoop (.ListComp elt [⟨t1,it1,[],0⟩,⟨t2,it2,[],0⟩] sc pos) 1 it acc env) R s)
  (h:wpAny (model prog w) A (pyIter it) (fun it' s'=>codeAny (model prog w) A (.compLoop (.ListComp elt [⟨t1,it1,[],0⟩,⟨t2,it2,[],0⟩] sc pos) 1 it' acc env) R s')
   (notedBy (model prog w) A env fun x s'=>R (.error x) s') s) :
  codeAny (model prog w) A (.compStart (.ListComp elt [⟨t1,it1,[],0⟩,⟨t2,it2,[],0⟩] sc pos) 1 it acc env) R s:=by
 refine codeAny_of_tree ?_;refine wpAny_notedAt ?_;refine wpAny_bind (wpAny_askSetting (wpAny_ite ?_))
 split
 ·first
   | exact wpAny_bind (wpAny_pure (wpAny_pure (And.intro rfl h0)))
   | exact wpAny_pure (And.intro rfl h0)
 ·first
   | exact wpAny_bind (wpAny_rule (wpAny_bind (wpAny_standAt (wpAny_bind (wpAny_mono h (fun it' s' h'=>wpAny_pure (And.intro rfl h')) fun _ _ x=>x)))))
   | (refine wpAny_bind (wpAny_rule ?_);show wpAny _ _ (standAt it2.pos >>= _) _ _ s;exact wpAny_bind (wpAny_standAt (wpAny_bind (wpAny_mono h (fun it' s' h'=>wpAny_pure (And.intro rfl h')) fun _ _ x=>x))))
noncomputable def body1 (elt:Expr) (D:Addr) (env:Env):Sem Unit:=eval elt env >>= fun x=>call (.builtin "list.append") [.ref D,x] >>= fun _=>pure ()
theorem turn_inner (elt t1 it1 t2 it2:Expr) (sc:Scope) (pos:Pos) (it:Value) (D:Addr) (env:Env) :
  compTurn (.ListComp elt [⟨t1,it1,[],0⟩,⟨t2,it2,[],0⟩] sc pos) 1 it (.ref D) env=(standAt it2.pos >>= fun _=>pyNext it >>= fun r=>match r with
    | none=>pure (.done .next)
    | some v=>letOwnedTupleGo t2 it v >>= fun _=>assign t2 env v >>= fun _=>body1 elt D env >>= fun _=>again (.compLoop (.ListComp elt [⟨t1,it1,[],0⟩,⟨t2,it2,[],0⟩] sc pos) 1 it (.ref D) env)):=by
 unfold body1
 first | rfl | (simp only [bind_assoc];rfl)
noncomputable def body2 (elt t1 it1 t2 it2:Expr) (sc:Scope) (pos:Pos) (D:Addr) (env:Env):Sem Unit :=
 eval it2 env >>= fun x=>standAt it2.pos >>= fun _=>foldedSetIterable it2 env x >>= fun x=>holding [x] (pyIter x) >>= fun i=>runOwn (.compStart (.ListComp elt [⟨t1,it1,[],0⟩,⟨t2,it2,[],0⟩] sc pos) 1 i (.ref D) env) env >>= fun _=>pure ()
theorem turn_outer (elt t1 it1 t2 it2:Expr) (sc:Scope) (pos:Pos) (it:Value) (D:Addr) (env:Env) :
  compTurn (.ListComp elt [⟨t1,it1,[],0⟩,⟨t2,it2,[],0⟩] sc pos) 0 it (.ref D) env=(standAt it1.pos >>= fun _=>pyNext it >>= fun r=>match r with
    | none=>pure (.done .next)
    | some v=>letOwnedTupleGo t1 it v >>= fun _=>assign t1 env v >>= fun _=>body2 elt t1 it1 t2 it2 sc pos D env >>= fun _=>again (.compLoop (.ListComp elt [⟨t1,it1,[],0⟩,⟨t2,it2,[],0⟩] sc pos) 0 it (.ref D) env)):=by
 unfold body2
 first | rfl | (simp only [bind_assoc];rfl)
theorem put_other {t t2:Tgt} {σ σ1:z9} {x:PV} (h:t.put σ x=some σ1) (ap:apartT t t2=true) (ha:∀ (i r:Nat),σ[i]?≠some (Mine.Slot.app r)) :
  (∀ i:Nat,t2.has i→σ1[i]?=σ[i]?)∧∀ (i r:Nat),σ1[i]?≠some (Mine.Slot.app r):=by
 have clear:∀ (σ:z9) (a:Nat),(∀ (i r:Nat),σ[i]?≠some (Mine.Slot.app r))→∀ (s:Mine.Slot) (i:Nat),i≠a→(z7 σ a s)[i]?=σ[i]?:=by
  intro σ a ha s i hi;unfold z7;rw [List.getElem?_set_ne (Ne.symm hi),List.getElem?_map]
  cases hs:σ[i]? with
  | none=>rfl
  | some q =>
   induction q with
   | app r=>exact absurd hs (ha i r)
   | _=>rfl
 have noapp:∀ (σ:z9) (a:Nat) (v:PV),(∀ (i r:Nat),σ[i]?≠some (Mine.Slot.app r))→∀ (i r:Nat),(z7 σ a (.val v))[i]?≠some (Mine.Slot.app r):=by
  intro σ a v ha i r;by_cases hj:i=a
  ·subst hj;rcases N0 σ i (.val v) with q | q <;> rw [q] <;> intro q' <;> cases q'
  ·rw [clear σ a ha _ i hj];exact ha i r
 have hin:∀ i:Nat,t2.has i→i∈t2.slots:=by
  intro i hi
  induction t2 with
  | one a=>exact List.mem_singleton.mpr hi
  | two a b=>rcases hi with rfl | rfl <;> simp [Tgt.slots]
 have hne:∀ i:Nat,t2.has i→∀ a∈t.slots,i≠a:=by
  intro i hi a hat e;have:=List.all_eq_true.mp ap a hat;have h2:=hin i hi;rw [e] at h2;simp [List.contains_iff_mem,h2] at this
 induction t with
 | one a =>
  obtain rfl:=Option.some.inj h
  exact ⟨fun i hi=>clear σ a ha _ i (hne i hi a (List.mem_singleton.mpr rfl)),noapp σ a x ha⟩
 | two a b =>
  refine x22 (put_two h :) fun v1 v2 o0 o1=>?_;obtain rfl:=o0;obtain rfl:=o1
  refine ⟨fun i hi=>?_,noapp _ b v2 (noapp σ a v1 ha)⟩
  rw [clear _ b (noapp σ a v1 ha) _ i (hne i hi b (by simp [Tgt.slots])),clear σ a ha _ i (hne i hi a (by simp [Tgt.slots]))]
theorem D3 {elt t1 it1 t2 it2:Expr} {sc:Scope} {pos:Pos} {k:IK} {a b a2:PE} {tg tg2:Tgt} {pe:PE} (hA:A.handled=none) (hit:SIt prog w A hb Γ c it1 k a b) (hset:∀ env x,foldedSetIterable it1 env x=pure x) (sok:ScOk c sc)
  (ht:i5 (c.inner sc) t1=some tg) (hfit:b4 k tg=true) (hok:tgOk sc t1=true) (ht2:i5 (c.inner sc) t2=some tg2) (hfit2:b4 .plain tg2=true) (hok2:tgOk sc t2=true) (hap:apartT tg tg2=true)
  (h3:SE prog w A hb Γ (c.inner sc) it2 a2) (hset2:∀ env x,foldedSetIterable it2 env x=pure x) (h4:SE prog w A hb Γ (c.inner sc) elt pe)
  {env:Env} {O:Addr→Prop} {ow:Nat→Option Addr} {σ:z9} (fr:FR hb c env O ow σ s.heap) (xc:XC hb O s) (tk:1≤s.toks)
  {x y:PV} {items total:List PV} (hx:z8 Γ a .val σ=some x) (hy:z8 Γ b .val σ=some y) (hi:f9 k x y=some items)
  (hgo:X0 tg (i7 σ (c.cap sc)) (fun σ1=>(z8 Γ a2 .val σ1).bind fun z=>(f9 .plain z .nul).bind fun items2=>m5 tg2 σ1 (fun _=>some true) (z8 Γ pe .val) items2) items=some total)
  {use:Option (Value→Sem Unit)} {Q:Value→Shared→Prop} {E:Value→Shared→Prop}
  (hP:∀ C s' rv m,Kp hb s s'→s'.heap.Ns C m→s.heap.get? C=none→VR s'.heap O (.list total) rv→1≤s'.toks→compPost (model prog w) A E use Q rv C (.ok .next) s') :
  wpAny (model prog w) A (comprehension (.ListComp elt [⟨t1,it1,[],0⟩,⟨t2,it2,[],0⟩] sc pos) sc env it1.pos (newList []) false (eval it1 env) use) Q E s:=by
 refine z6 fun K0=>?_
 refine w7 (D0 hgo :) fun hgen hlen=>?_
 refine w7 (tg_slots ht hok sok σ :) fun ts1 ts2=>?_
 refine w7 (tg_slots ht2 hok2 sok σ :) fun us1 us2=>?_
 refine K0 ?_;clear K0;refine comp_core hit hset sok fr xc tk hx hy hi (Q9 ht hfit) (fun _=>hlen) (fun I wr St D C cl s₄ O₂ R S own hR=>?_) hP
 refine I9 rfl hA (turn_outer ..) S.W S.hD S.hO S.hOD S.hwr (.refl ..) xc.gs S.hDs S.hDt (fun n hn=>own n (ts2 n hn)) ht (fun x σ1 h=>put_less h ts1 I0) (fun x' σ1 vs s' dn hp hg hz L Q E hQ=>?_) hgen (by simpa using hlen) S.st S.L fun s' k1 k2 k3 k4 k5=>hR s' k1 k2 k3 (by simpa using k4) k5
 refine z6 fun K0=>?_
 refine y4 hg fun z e1 g1=>?_
 refine y4 g1 fun items2 e2 g2=>?_
 refine w7 (M0 g2 :) fun hgen2 hlen2=>?_
 refine w7 (put_other hp hap I0 :) fun po1 po2=>?_
 refine K0 ?_;clear K0;have fit2:=Q9 ht2 hfit2;have xc':=L.xc xc;have main:=sit_plain h3 hA _ _ _ _ _ L.fr xc' L.tk z .nul items2 t2 e1 rfl e2 fit2;have tail:∀ I2 wr2 St2 s₅,Kp hb s' s₅→1≤s₅.toks→ItW prog w A t2 I2 wr2 items2 St2→St2 0 s₅.heap (fun b=>O₂ b∨b∈wr2)→(∀ b∈wr2,s'.heap.get? b=none)→items2.length≤small →
   ∀ RR:Result→Shared→Prop,(∀ s6,LpS hb s s D (c.inner sc) (cEnv sc cl C env) O₂ σ1 (dn ++ vs) s6→TR D s'.heap s6.heap→RR (.ok .next) s6) →
   codeAny (model prog w) A (.compLoop (.ListComp elt [⟨t1,it1,[],0⟩,⟨t2,it2,[],0⟩] sc pos) 1 (.ref I2) (.ref D) (cEnv sc cl C env)) RR s₅:=by
  intro I2 wr2 St2 s₅ k5 t5 W2 st2 hwr2 hl2 RR hRR;have L5:=L.run xc.gs S.hDt k5 t5;have thin:∀ b o,s'.heap.get? b=some o→¬ O₂ b→¬ (O₂ b∨b∈wr2):=fun b o e hO q=>by
   rcases q with q | q
   ·exact hO q
   ·rw [hwr2 b q] at e;cases e
  have fr5:FR hb (c.inner sc) (cEnv sc cl C env) (fun b=>O₂ b∨b∈wr2) (fun _=>none) σ1 s₅.heap:=(L.fr.grow thin).kp k5
  refine x12 L.acc fun acc hpl hr=>?_
  have hr':VRs s₅.heap (fun b=>O₂ b∨b∈wr2) dn acc:=(hr.mono (fun _ _ e _=>e) thin).soft k5.soft
  have ok5:OkO (fun b=>O₂ b∨b∈wr2) s₅.heap:=fun q hq=>by
   rcases hq with hq | hq
   ·exact L5.ok q hq
   ·refine x12 (W2.its _ _ _ st2 q hq :) fun o e _=>?_
    refine ⟨fun q'=>?_,o,e⟩
    refine Exists.elim xc'.gs.tab.get fun o' e'=>?_
    rw [← q',hwr2 q hq] at e';cases e'
  have hDw2:D ∉ wr2:=fun q=>by
   refine Exists.elim hpl fun n e=>?_
   rw [hwr2 D q] at e;cases e
  refine I9 (si:=s') (O:=fun b=>O₂ b∨b∈wr2) (dn:=dn) (total:=vs) (σ:=σ1) rfl hA (turn_inner ..) W2 hDw2 (fun b hb => .inr hb) (.inl S.hOD) hwr2 L.kp xc.gs S.hDs S.hDt (fun n hn=>own n (us2 n hn)) ht2
   (fun x'' σ2 h=>put_less h (fun i hi=>by rw [po1 i hi];exact us1 i hi) po2) (fun x'' σ2 vs2 s7 dn2 hp2 hg2 hz2 L7 Q E hQ=>?_) hgen2 hz st2 ⟨L5.kp,.kp k5 xc'.gs D,fr5,⟨acc,V8 k5.soft S.hDt hpl,hr'⟩,ok5,t5⟩ fun s6 k1 k2 k3 k4 k5'=>?_
  ·unfold body1;refine x12 (map_some (show (z8 Γ pe .val σ2).map _=some vs2 from hg2) :) fun v e3 o0=>?_;obtain rfl:=o0
   refine wpAny_bind (h4.val L7.fr (L7.xc xc) L7.tk e3 _ _ fun rv s8 k8 t8 r8=>?_)
   have L8:=L7.run xc.gs S.hDt k8 t8;refine wpAny_bind (append_ok xc.gs S.hDs (.inl S.hOD) L8 hz2 r8 fun s9 L9 tr9=>wpAny_pure (hQ s9 L9 ?_))
   exact (TR.kp k8 (L7.kp.gs xc.gs) D).trans tr9
  ·refine x12 k4 fun acc' p1 p2=>?_
   refine hRR s6 ⟨k1,L.tr.trans k2,k3.mono fun b q => .inl q,⟨acc',p1,p2.mono (fun _ _ e _=>e) fun b _ _ q q'=>q (.inl q')⟩,fun q hq=>?_,k5'⟩ k2
   refine w7 (L.ok q hq :) fun h1 o0=>?_;refine Exists.elim o0 fun o h2=>?_
   exact ⟨h1,k2.alive q o h2⟩
 refine wpAny_bind (wpAny_mono (main (fun iv s₅=>wpAny (model prog w) A (runOwn (.compStart (.ListComp elt [⟨t1,it1,[],0⟩,⟨t2,it2,[],0⟩] sc pos) 1 iv (.ref D) (cEnv sc cl C env)) (cEnv sc cl C env) >>= fun _=>pure ()) Q E s₅) E fun I2 wr2 St2 s₅ k5 t5 W2 st2 hwr2 hl2=>?_)
  (fun xv s5 h=>wpAny_bind (wpAny_standAt (wpAny_bind (wpAny_of_eq (hset2 _ _) (wpAny_bind (wpAny_holding h)))))) fun _ _ e=>e)
 refine wpAny_bind (wpAny_runOwn (compStart_one ?_ ?_))
 ·exact tail I2 wr2 St2 s₅ k5 t5 W2 st2 hwr2 hl2 _ fun s6 L6 tr6=>wpAny_pure (hQ s6 L6 tr6)
 ·exact W2.self 0 _ _ _ _ st2 (tail I2 wr2 St2 s₅ k5 t5 W2 st2 hwr2 hl2 _ fun s6 L6 tr6=>wpAny_pure (hQ s6 L6 tr6))
theorem se_comp2 {elt t1 it1 t2 it2:Expr} {sc:Scope} {pos:Pos} {k:IK} {a b a2:PE} {tg tg2:Tgt} {pe:PE} (hA:A.handled=none) (hit:SIt prog w A hb Γ c it1 k a b) (hset:∀ env x,foldedSetIterable it1 env x=pure x) (sok:ScOk c sc)
  (ht:i5 (c.inner sc) t1=some tg) (hfit:b4 k tg=true) (hok:tgOk sc t1=true) (ht2:i5 (c.inner sc) t2=some tg2) (hfit2:b4 .plain tg2=true) (hok2:tgOk sc t2=true) (hap:apartT tg tg2=true)
  (h3:SE prog w A hb Γ (c.inner sc) it2 a2) (hset2:∀ env x,foldedSetIterable it2 env x=pure x) (h4:SE prog w A hb Γ (c.inner sc) elt pe) :
  SE prog w A hb Γ c (.ListComp elt [⟨t1,it1,[],0⟩,⟨t2,it2,[],0⟩] sc pos) (.comp2 pe tg k a b tg2 a2 (c.cap sc)):=by
 refine SE.gen (fun _=>rfl) (fun σ=>(z8 Γ a .val σ).bind fun x=>(z8 Γ b .val σ).bind fun y=>(f9 k x y).bind fun items =>
   (X0 tg (i7 σ (c.cap sc)) (fun σ1=>(z8 Γ a2 .val σ1).bind fun z=>(f9 .plain z .nul).bind fun items2=>m5 tg2 σ1 (fun _=>some true) (z8 Γ pe .val) items2) items).map .list) (fun m σ=>rfl) fun env O ow σ s fr xc tk v hv=>?_
 refine z6 fun K0=>?_
 refine y4 hv fun x hx v1=>?_
 refine y4 v1 fun y hy v2=>?_
 refine y4 v2 fun items hi v3=>?_
 refine K0 ?_;clear K0;refine v8 v3 fun total hgo o0=>?_;obtain rfl:=o0
 intro Q E hQ;rw [eval_ListComp];exact D3 hA hit hset sok ht hfit hok ht2 hfit2 hok2 hap h3 hset2 h4 fr xc tk hx hy hi hgo (D5 xc hQ)
end
end Mine
namespace Mine
open PySem PyProof.Rows PySem.Spec
section
variable {prog:Program} {w:World} {A:Around} {hb:HB} {Γ:y9} {c:CT}
theorem zak (x:List Nat) (xs:List (List Nat)):u6 [] (x::xs)=x ++ u6 [] xs:=by
 induction xs with
 | nil=>simp [u6]
 | cons y ys=>simp [u6]
theorem str_app (a b:List Nat):(⟨a.toArray⟩:Str) ++ (⟨b.toArray⟩:Str)=⟨(a ++ b).toArray⟩:=by
 show (⟨a.toArray ++ b.toArray⟩:Str)=_;simp
theorem strs_cons {x:PV} {xs:List PV} {l:List (List Nat)} (h:i4? (x::xs)=some l):∃ s l',x = .str s∧i4? xs=some l'∧s::l'=l:=by
 cases x with
 | str s=>refine v8 h fun l' h1 h2=>?_;exact ⟨s,l',rfl,h1,h2⟩
 | _=>exact w9 h
noncomputable def SPs (prog:Program) (w:World) (A:Around) (hb:HB) (Γ:y9) (c:CT) (es:List Expr) (pes:List PE):Prop :=
 ∀ (env:Env) (O:Addr→Prop) (ow:Nat→Option Addr) (σ:z9) (s:Shared),FR hb c env O ow σ s.heap→XC hb O s→1≤s.toks →
  ∀ vs l,m6 Γ pes σ=some vs→i4? vs=some l→∀ acc,okS acc→(acc ++ u6 [] l).length≤small→∀ (Q:Str→Shared→Prop) (E:Value→Shared→Prop),
   (∀ s',Kp hb s s'→1≤s'.toks→okS (acc ++ u6 [] l)→Q ⟨(acc ++ u6 [] l).toArray⟩ s')→Joins (model prog w) A E (evalEach es env) ⟨acc.toArray⟩ Q s
theorem sps_nil:SPs prog w A hb Γ c [] []:=by
 intro env O ow σ s fr xc ht vs l hv hl acc ha hz Q E hQ;refine z6 fun K0=>?_
 cases hv;obtain rfl:=Option.some.inj hl
 refine K0 ?_;clear K0;simp only [u6,List.append_nil] at hQ hz;exact hQ _ (.refl ..) ht ha
noncomputable def SP (prog:Program) (w:World) (A:Around) (hb:HB) (Γ:y9) (c:CT) (e:Expr) (pe:PE):Prop :=
 ∀ (env:Env) (O:Addr→Prop) (ow:Nat→Option Addr) (σ:z9) (s:Shared),FR hb c env O ow σ s.heap→XC hb O s→1≤s.toks→∀ l,z8 Γ pe .val σ=some (.str l)→OkM prog w A hb O .val (eval e env) (.str l) s
theorem sps_cons {e:Expr} {es:List Expr} {pe:PE} {pes:List PE} (h1:SP prog w A hb Γ c e pe)
  (h2:SPs prog w A hb Γ c es pes):SPs prog w A hb Γ c (e::es) (pe::pes):=by
 intro env O ow σ s fr xc ht vs l hv hl acc ha hz Q E hQ;refine z6 fun K0=>?_
 refine x23 (H6 hv :) fun v r hx hr o0=>?_;obtain rfl:=o0
 refine x23 (strs_cons hl :) fun x l' o0 hl' o1=>?_;obtain rfl:=o0;obtain rfl:=o1
 refine K0 ?_;clear K0;rw [zak] at hz hQ;refine h1 env O ow σ s fr xc ht x hx _ _ fun rv s₁ k₁ t₁ r₁=>?_
 refine z6 fun K0=>?_
 obtain ⟨z,t,rfl⟩:=r₁;refine K0 ?_;clear K0;rw [← List.append_assoc] at hz hQ;have hz1:(acc ++ x).length≤small:=Nat.le_trans (by rw [List.length_append (as:=acc ++ x)];exact Nat.le_add_right _ _) hz;exact ⟨_,_,rfl,by rw [str_app,lenS];exact Nat.le_trans hz1 a8,by
  rw [str_app];exact h2 env O ow σ s₁ (fr.kp k₁) (xc.kp k₁) t₁ r l' hr hl' (acc ++ x) (G5 ha z hz1) hz _ _ fun s' k t q=>hQ _ (k₁.trans k) t q⟩
theorem sp_fmt {e:Expr} {p:Pos} {pe:PE} (h1:SE prog w A hb Γ c e pe):SP prog w A hb Γ c (.FormattedValue e (-1) none p) pe:=by
 intro env O ow σ s fr xc ht l hv Q E hQ;refine wpAny_with_toks ht (wpAny_FormattedValue_plain (h1.val fr xc ht hv _ _ fun rv s₁ k₁ t₁ r₁=>?_))
 obtain ⟨z,t,rfl⟩:=r₁;refine formatField_str (fun t' tk=>fun ht=>hQ _ _ (k₁.trans (.tok (tk:=tk))) ht ⟨z,t',rfl⟩) ?_
 rw [lenS];exact Nat.le_trans z.1 a8
theorem sp_const {k:Const} {p:Pos} {q} {v:PV} (h:cConst k=some v):SP prog w A hb Γ c (.Constant k q p) (.lit v) :=
 fun env O ow σ s fr xc ht l hv=>(O8 (Γ:=Γ) (c:=c) h).val fr xc ht hv
theorem se_fstr {v1 v2:Expr} {es:List Expr} {p:Pos} {pes:List PE} (h:SPs prog w A hb Γ c (v1::v2::es) pes):SE prog w A hb Γ c (.JoinedStr (v1::v2::es) p) (.fstr pes):=by
 refine SE.gen (fun _=>rfl) (fun σ=>(m6 Γ pes σ).bind W9) (fun m σ=>rfl) fun env O ow σ s fr xc ht v hv=>?_
 refine z6 fun K0=>?_
 refine y4 hv fun vs hvs h1=>?_
 refine y4 h1 fun l hl h2=>?_
 refine v9 h2 fun hz h3=>?_
 refine K0 ?_;clear K0;obtain rfl:=Option.some.inj h3;exact fun Q E hQ=>wpAny_JoinedStr (h env O ow σ s fr xc ht vs l hvs hl [] ⟨Nat.zero_le _,fun _ h=>nomatch h⟩ hz _ _ fun s' k t q=>⟨by rw [lenS];exact Nat.le_trans q.1 a8,hQ _ _ (k.trans (.tok (tk:=s'.toks + 1))) ⟨q,s'.toks,rfl⟩⟩)
end
section
variable {prog:Program} {w:World} {A:Around} {hb:HB} {Γ:y9} {f:Sub} {c:CT}
theorem S9 {e:Expr} (h:j7 e=true):∀ env x,foldedSetIterable e env x=pure x:=by
 intro env x
 cases e <;> first | rfl | exact absurd h Bool.false_ne_true
structure SF (prog:Program) (w:World) (A:Around) (hb:HB) (Γ:y9) (f:Sub):Prop where
 se:∀ {c:CT} {e:Expr} {pe:PE},f c e=some pe→SE prog w A hb Γ c e pe
 sv:∀ {c:CT} {e:Expr} {pe:PE},f c e=some pe→j7 e=true
theorem ses_of (F:SF prog w A hb Γ f):∀ {es:List Expr} {pes:List PE},mapO (f c) es=some pes→SEs prog w A hb Γ c es pes:=by
 intro es
 induction es with
 | nil=>intro pes h;cases h;exact ses_nil
 | cons e es ih=>intro pes h;refine x23 (R9 h :) fun a b h1 h2 o0=>?_;obtain rfl:=o0;exact O9 (F.sv h1) (F.se h1) (ih h2)
theorem sts_of (F:SF prog w A hb Γ f):∀ {es:List Expr} {pes:List PE},mapO (f c) es=some pes→STs prog w A hb Γ c es pes:=by
 intro es
 induction es with
 | nil=>intro pes h;cases h;exact sts_nil
 | cons e es ih=>intro pes h;refine x23 (R9 h :) fun a b h1 h2 o0=>?_;obtain rfl:=o0;exact sts_cons (F.se h1) (ih h2)
theorem sbs_of {op:BoolOp} (F:SF prog w A hb Γ f):∀ {es:List Expr} {pes:List PE} {pe:PE},mapO (f c) es=some pes→bopL (op == .And) pes=some pe→SBs prog w A hb Γ c op es pe:=by
 intro es
 induction es with
 | nil=>intro pes pe h h';cases h;exact w9 h'
 | cons e es ih =>
  intro pes pe h h'
  refine z6 fun K0=>?_
  refine x23 (R9 h :) fun a b h1 h2 o0=>?_;obtain rfl:=o0
  refine K0 ?_
  clear K0
  cases es with
  | nil=>cases h2;cases h';exact sbs_one (F.se h1)
  | cons y ys =>
   refine z6 fun K0=>?_
   refine x23 (R9 h2 :) fun a2 b2 h3 h4 o0=>?_;obtain rfl:=o0
   refine v8 h' fun p hp o0=>?_;obtain rfl:=o0
   refine K0 ?_
   clear K0
   exact sbs_cons (F.se h1) (ih h2 hp)
theorem sps_of (F:SF prog w A hb Γ f):∀ {es:List Expr} {pes:List PE},mapO (partE f c) es=some pes→SPs prog w A hb Γ c es pes:=by
 have part:∀ {e:Expr} {pe:PE},partE f c e=some pe→SP prog w A hb Γ c e pe:=by
  intro e pe h
  cases e with
  | FormattedValue e k sp p =>
   refine v9 h fun h1 h2=>?_
   rw [j3 (y5 h1),Option.isNone_iff_eq_none.mp (v6 h1)]
   exact sp_fmt (F.se h2)
  | Constant k n p =>
   refine y4 h fun s hs h1=>?_
   refine v8 h1 fun v hv o0=>?_;obtain rfl:=o0
   rw [strC_ok hs]
   exact sp_const hv
  | _=>exact w9 h
 intro es
 induction es with
 | nil=>intro pes h;cases h;exact sps_nil
 | cons e es ih=>intro pes h;refine x23 (R9 h :) fun a b h1 h2 o0=>?_;obtain rfl:=o0;exact sps_cons (part h1) (ih h2)
theorem seo_of (F:SF prog w A hb Γ f) {e:Option Expr} {pe:PE} (h:optE (f c) e=some pe):SEo prog w A hb Γ c e pe:=by
 induction e with
 | none=>cases h;exact seo_none
 | some e=>exact seo_some (F.se h)
theorem sv_of (F:SF prog w A hb Γ f) {es:List Expr} {pes:List PE} (h:mapO (f c) es=some pes):Sv es pes:=B8 F.sv h
theorem V3 (F:SF prog w A hb Γ f) (hA:A.handled=none) {e:Expr} {k:IK × PE × PE} (h:iterE f c e=some k):SIt prog w A hb Γ c e k.1 k.2.1 k.2.2∧j7 e=true:=by
 rcases j6 h with h0 | h0
 ·refine z6 fun K0=>?_
  refine y4 h0 fun q hq h1=>?_
  refine y4 h1 fun v hv h2=>?_
  refine x23 (globE_ok hv :) fun x p e1 hx hg=>?_
  refine K0 ?_;clear K0;rw [cal_ok hq,e1];refine ⟨?_,rfl⟩;rcases j6 h2 with h3 | h3
  ·refine z6 fun K0=>?_
   refine y4 h3 fun a ha h4=>?_
   refine y4 h4 fun y hy h5=>?_
   refine K0 ?_;clear K0;rw [X3 ha];by_cases h6:isTy v "range" = true
   ·rw [if_pos h6] at h5;cases h5;exact sit_range hx (isTy_ok h6▸hg) (F.sv hy) (F.se hy) hA
   ·rw [if_neg h6] at h5;refine v9 h5 fun h7 h8=>?_
    cases h8;exact sit_enum hx (isTy_ok h7▸hg) (F.sv hy) (F.se hy) hA
  ·refine z6 fun K0=>?_
   refine y4 h3 fun a ha h4=>?_
   refine v9 h4 fun h7 h8=>?_
   refine Y4 h8 fun y z hy hz o0=>?_;obtain rfl:=o0
   refine K0 ?_;clear K0;rw [V7 ha];exact sit_zip hx (isTy_ok h7▸hg) (F.sv hy) (F.sv hz) (F.se hy) (F.se hz) hA
 ·refine z6 fun K0=>?_
  refine v8 h0 fun p hp o0=>?_;obtain rfl:=o0
  refine K0 ?_;clear K0;exact ⟨sit_plain (F.se hp) hA,F.sv hp⟩
inductive CompInv (f:Sub) (c:CT) (elt:Expr) (sc:Scope):List Comprehension→PE→Prop
 | single {t it:Expr} {ifs:List Expr} {k:IK × PE × PE} {tg:Tgt} {pifs:List PE} {e:PE} (h1:iterE f c it=some k) (h2:i5 (c.inner sc) t=some tg) (h3:mapO (f (c.inner sc)) ifs=some pifs) (h4:f (c.inner sc) elt=some e)
  (h5:b4 k.1 tg=true) (h6:scOk c sc=true) (h7:tgOk sc t=true):CompInv f c elt sc [⟨t,it,ifs,0⟩] (.comp e tg k.1 k.2.1 k.2.2 pifs (c.cap sc))
 | double {t it t2 it2:Expr} {k:IK × PE × PE} {tg tg2:Tgt} {a2 e:PE} (h1:iterE f c it=some k) (h2:i5 (c.inner sc) t=some tg) (h3:i5 (c.inner sc) t2=some tg2) (h4:f (c.inner sc) it2=some a2) (h5:f (c.inner sc) elt=some e)
  (g1:b4 k.1 tg=true) (g2:b4 .plain tg2=true) (g3:apartT tg tg2=true) (g4:scOk c sc=true) (g5:tgOk sc t=true) (g6:tgOk sc t2=true):CompInv f c elt sc [⟨t,it,[],0⟩,⟨t2,it2,[],0⟩] (.comp2 e tg k.1 k.2.1 k.2.2 tg2 a2 (c.cap sc))
theorem comp_inv {elt:Expr} {gens:List Comprehension} {sc:Scope} {pe:PE} (h:compE f c elt gens sc=some pe):CompInv f c elt sc gens pe:=by
 rcases j6 h with h0 | h0
 ·refine z6 fun K0=>?_
  refine y4 h0 fun o0 hg h1=>?_;obtain ⟨t,it,ifs,a⟩:=o0
  refine y4 h1 fun k hk h2=>?_
  refine y4 h2 fun tg ht h3=>?_
  refine y4 h3 fun pifs hi h4=>?_
  refine y4 h4 fun e he h5=>?_
  refine v9 h5 fun h6 h7=>?_
  refine K0 ?_;clear K0;have e1:a=0:=j3 (v6 h6);rw [X3 hg,← Option.some.inj h7,e1];exact .single hk ht hi he (y5 (y5 (y5 h6))) (v6 (y5 (y5 h6))) (v6 (y5 h6))
 ·refine z6 fun K0=>?_
  refine y4 h0 fun o0 hg h1=>?_;obtain ⟨⟨t,it,ifs,a⟩,⟨t2,it2,ifs2,a'⟩⟩:=o0
  refine y4 h1 fun k hk h2=>?_
  refine y4 h2 fun tg ht h3=>?_
  refine y4 h3 fun tg2 ht2 h4=>?_
  refine y4 h4 fun a2 ha h5=>?_
  refine y4 h5 fun e he h6=>?_
  refine v9 h6 fun h7 h8=>?_
  refine K0 ?_;clear K0;have h9:=v6 h7;have e1:a=0:=j3 (v6 (y5 h9));have e2:a'=0:=j3 (v6 h9);have e3:ifs=[]:=List.isEmpty_iff.mp (y5 (y5 (y5 h9)));have e4:ifs2=[]:=List.isEmpty_iff.mp (v6 (y5 (y5 h9)));rw [V7 hg,← Option.some.inj h8,e1,e2,e3,e4];exact .double hk ht ht2 ha he (y5 (y5 (y5 (y5 (y5 (y5 h7)))))) (v6 (y5 (y5 (y5 (y5 (y5 h7)))))) (v6 (y5 (y5 (y5 (y5 h7))))) (v6 (y5 (y5 (y5 h7)))) (v6 (y5 (y5 h7))) (v6 (y5 h7))
theorem call_of (cx:Cx prog w A hb Γ) (F:SF prog w A hb Γ f) {fn:Expr} {args:List Expr} {p:Pos} {pe:PE} (h:callX f c fn args p=some pe):SE prog w A hb Γ c (.Call fn args [] p) pe:=by
 rcases j6 h with h0 | h0
 ·refine z6 fun K0=>?_
  refine y4 h0 fun v hv h1=>?_
  refine x23 (globE_ok hv :) fun x q e1 hx hg=>?_
  refine K0 ?_;clear K0;rw [e1];by_cases h2:isLen v=true
  ·rw [if_pos h2] at h1;refine z6 fun K0=>?_
   refine y4 h1 fun a ha h3=>?_
   refine v8 h3 fun y hy o0=>?_;obtain rfl:=o0
   refine K0 ?_;clear K0;rw [X3 ha];exact se_len hx (isLen_ok h2▸hg) (F.sv hy) (F.se hy) cx.handled
  ·rw [if_neg h2] at h1;refine z6 fun K0=>?_
   refine v8 h1 fun as ha o0=>?_;obtain rfl:=o0
   refine K0 ?_;clear K0;exact se_call hx hg (sv_of F ha) (ses_of F ha) cx
 ·refine z6 fun K0=>?_
  refine y4 h0 fun q hq h1=>?_
  refine v9 h1 fun h2 h3=>?_
  refine K0 ?_;clear K0;rw [att_ok hq];rcases j6 h3 with h4 | h4
  ·refine z6 fun K0=>?_
   refine y4 h4 fun r hr h5=>?_
   refine v8 h5 fun x hx o0=>?_;obtain rfl:=o0
   refine v9 hr fun h6 h7=>?_
   refine y4 h7 fun a ha h8=>?_
   refine y4 h8 fun s1 hs1 h9=>?_
   refine y4 h9 fun s2 hs2 h10=>?_
   refine v9 h10 fun h11 h12=>?_
   refine x21 (strE_ok hs1 :) fun k1 p1 e1=>?_
   refine x21 (strE_ok hs2 :) fun k2 p2 e2=>?_
   refine K0 ?_;clear K0;rw [V7 ha,e1,e2,j3 h6,← Option.some.inj h12];exact se_repl (y5 h2) (v6 h2) (of_decide_eq_true (y5 (y5 h11))) (v6 (y5 h11)) (F.se hx)
  ·refine z6 fun K0=>?_
   refine v9 h4 fun h5 h6=>?_
   refine Y4 h6 fun x as hx ha o0=>?_;obtain rfl:=o0
   refine K0 ?_;clear K0;exact se_meth (y5 h2) (v6 h2) (of_decide_eq_true (v6 h5)) (F.se hx) (sv_of F ha) (ses_of F ha) cx
theorem step_of (cx:Cx prog w A hb Γ) (F:SF prog w A hb Γ f) {e:Expr} {pe:PE} (h:stepE f c e=some pe):SE prog w A hb Γ c e pe:=by
 cases e with
 | Constant k n p=>refine v8 h fun v hv o0=>?_;obtain rfl:=o0;exact O8 hv
 | Name x p =>
  refine v9 h fun h1 h2=>?_
  rcases j6 h2 with h3 | h3
  ·refine v8 h3 fun i hi o0=>?_;obtain rfl:=o0;exact Z5 h1 hi
  ·refine v8 h3 fun v hv o0=>?_;obtain rfl:=o0;exact se_gl h1 hv
 | BinOp l op r p=>refine Y4 h fun a b ha hb' o0=>?_;obtain rfl:=o0;exact se_bin (F.se ha) (F.se hb')
 | UnaryOp op x p =>
  induction op with
  | USub =>
   refine v8 h fun i hi o0=>?_;obtain rfl:=o0
   refine x21 (intE_ok hi :) fun k q e1=>?_
   rw [e1];exact se_neg
  | Not=>refine v8 h fun a ha o0=>?_;obtain rfl:=o0;exact se_not (F.se ha)
  | _=>exact w9 h
 | BoolOp op vs p=>refine y4 h fun l hl h1=>?_;exact se_bop (sbs_of F hl h1)
 | Compare l ops rs p =>
  refine y4 h fun op ho h1=>?_
  refine y4 h1 fun r hr h2=>?_
  rw [X3 ho,X3 hr]
  cases hm:behindInMarks op r with
  | true=>rw [hm] at h2;exact w9 h2
  | false =>
   rw [hm] at h2
   refine Y4 h2 fun a b ha hb' o0=>?_;obtain rfl:=o0
   exact se_cmp hm (F.se ha) (F.se hb') cx.units
 | IfExp t b o p =>
  refine y4 h fun x hx h1=>?_
  refine Y4 h1 fun y z hy hz o0=>?_;obtain rfl:=o0
  exact se_ife (F.se hx) (F.se hy) (F.se hz)
 | Subscript v i p =>
  refine y4 h fun x hx h1=>?_
  rcases j6 h1 with h2 | h2
  ·refine y4 h2 fun q hq h3=>?_
   refine Y4 h3 fun y z hy hz o0=>?_;obtain rfl:=o0
   refine Exists.elim (sliceE_ok hq :) fun p' e1=>?_
   rw [e1];exact se_slc (F.se hx) (seo_of F hy) (seo_of F hz)
  ·refine v8 h2 fun y hy o0=>?_;obtain rfl:=o0
   exact se_idx (fun lo hi q e1=>absurd (show j7 (.Slice lo hi none q)=true from e1▸F.sv hy) Bool.false_ne_true) (F.se hx) (F.se hy)
 | Call fn args ks p =>
  refine v9 h fun h1 h2=>?_
  rw [List.isEmpty_iff.mp h1];exact call_of cx F h2
 | List es p=>refine v9 h fun h1 h2=>?_;refine v8 h2 fun l hl o0=>?_;obtain rfl:=o0;exact se_lst h1 (sv_of F hl) (ses_of F hl)
 | Tuple es k p=>refine v9 h fun h1 h2=>?_;refine v8 h2 fun l hl o0=>?_;obtain rfl:=o0;exact se_tpl h1 (sv_of F hl) (ses_of F hl)
 | ListComp elt gens sc p =>
  cases comp_inv h with
  | single h1 h2 h3 h4 h5 h6 h7=>exact se_comp cx.handled (V3 F cx.handled h1).1 (S9 (V3 F cx.handled h1).2) (scOk_of h6) h2 h5 h7 (sts_of F h3) (F.se h4)
  | double h1 h2 h3 h4 h5 g1 g2 g3 g4 g5 g6=>exact se_comp2 cx.handled (V3 F cx.handled h1).1 (S9 (V3 F cx.handled h1).2) (scOk_of g4) h2 g1 g5 h3 g2 g6 g3 (F.se h4) (S9 (F.sv h4)) (F.se h5)
 | JoinedStr vs p =>
  refine v9 h fun h1 h2=>?_
  refine v8 h2 fun l hl o0=>?_;obtain rfl:=o0
  match vs,h1 with
  | v1::v2::es,_=>exact se_fstr (sps_of F hl)
 | _=>exact w9 h
theorem sound (cx:Cx prog w A hb Γ):∀ n,SF prog w A hb Γ (cEn n):=by
 intro n
 induction n with
 | zero=>exact ⟨fun h=>w9 h,fun h=>w9 h⟩
 | succ n ih=>exact ⟨fun h=>step_of cx ih h,fun h=>served_of h⟩
end
end Mine
namespace Mine
open PySem PyProof.Rows PySem.Spec
noncomputable def Q5:Array Nat := #[14,14,4,1,1,9,0,64,0,1342177280,0,0,0,0,0,17,0,13,11,9,0,64,0,1342177280,0,0,0,0,0,17,1,1]
inductive ReOk (h:Heap):Prop
 | mk (o:Obj) (vs:Array Value) (cd:Addr) (it:Array Value) (g:h.get? 43=some o) (c:o.cls = .type "re.Pattern") (n:o.dict=none) (d:o.data = .fields vs) (x5:vs.getD 5 .none = .ref cd) (t:cd≠x9) (p:IsTup h cd it)
  (e:(it.map Builtin.Re.reRawOf).map (·.toNat)=Q5) (x6:Builtin.Re.reRawNat (vs.getD 6 .none)=0) (x2:Builtin.Re.reRawNat (vs.getD 2 .none)=1)
noncomputable def n7 (O₀:Addr→Prop) (ow:Nat→Option Addr) (a:Addr):Prop:=O₀ a∨∃ i,ow i=some a
structure KS (h:Heap) (ow:Nat→Option Addr) (h':Heap) (ow':Nat→Option Addr):Prop where
 alive:∀ b o,h.get? b=some o→∃ o',h'.get? b=some o'
 keep:∀ b o,b≠x9→h.get? b=some o→Hardy o→(∀ i,ow i≠some b)→h'.get? b=some o
 thin:∀ b o,h.get? b=some o→(∀ i,ow i≠some b)→∀ i,ow' i≠some b
theorem KS.refl (h:Heap) (ow:Nat→Option Addr):KS h ow h ow:=⟨fun _ o e=>⟨o,e⟩,fun _ _ _ e _ _=>e,fun _ _ _ q=>q⟩
theorem KS.trans {h h' h'':Heap} {ow ow' ow'':Nat→Option Addr} (x:KS h ow h' ow') (y:KS h' ow' h'' ow''):KS h ow h'' ow'' :=
 ⟨fun b o e=>let ⟨o',e'⟩:=x.alive b o e;y.alive b o' e',fun b o hb e hd hO=>y.keep b o hb (x.keep b o hb e hd hO) hd (x.thin b o e hO),
  fun b o e hO=>let ⟨o',e'⟩:=x.alive b o e;y.thin b o' e' (x.thin b o e hO)⟩
theorem KS.frm {h h':Heap} {ow ow':Nat→Option Addr} (x:KS h ow h' ow') (O₀:Addr→Prop):Frm h (n7 O₀ ow) h' (n7 O₀ ow') :=
 ⟨x.alive,fun b o hb e hd hO=>x.keep b o hb e hd fun i q=>hO (.inr ⟨i,q⟩),fun b o e hO q=>by
  rcases q with q | ⟨i,q⟩
  ·exact hO (.inl q)
  ·exact x.thin b o e (fun i q=>hO (.inr ⟨i,q⟩)) i q⟩
theorem KS.kp {hb:HB} {s s':Shared} (k:Kp hb s s') (g:GS hb s) (ow:Nat→Option Addr):KS s.heap ow s'.heap ow :=
 let f:=Frm.kp k g (fun _=>False)
 ⟨f.alive,fun b o hb e hd _=>f.keep b o hb e hd id,fun _ _ _ q=>q⟩
theorem KS.keepH {h h':Heap} (ow:Nat→Option Addr) (k:KeepH h h') (al:∀ b o,h.get? b=some o→∃ o',h'.get? b=some o'):KS h ow h' ow :=
 ⟨al,fun b o hb e hd _=>k b o hb e hd,fun _ _ _ q=>q⟩
structure SS (hb:HB) (s₀:Shared) (c:CT) (env:Env) (O₀:Addr→Prop) (ow:Nat→Option Addr) (σ:z9) (s:Shared):Prop where
 kp:Kp hb s₀ s
 fr:FR hb c env (n7 O₀ ow) ow σ s.heap
 ok:OkO (n7 O₀ ow) s.heap
 inj:∀ i j a,ow i=some a→ow j=some a→i=j
 fresh:∀ i a,ow i=some a→s₀.heap.get? a=none
 apart:∀ i a,ow i=some a→¬ O₀ a
 tk:1≤s.toks
 own:hb.own=env.locals
structure U1 (h:Heap):Prop where
 lim:h.NoLimit
 bm:∃ mg bm ob,BMod h mainGlobals mg bm ob∧bm≠x9
 re:ReOk h
structure Fx (prog:Program) (w:World) (A:Around) (hb:HB) (Γ:y9) (c:CT) (env:Env) (s₀:Shared):Prop where
 cx:Cx prog w A hb Γ
 g₀:GS hb s₀
 own:∀ n i,c.slot n=some i→OwnN s₀ env n
 base:U1 hb.h
 code:c.inT=true→env.code = .ref e9
 room:A.depth<recursionLimit
section
variable {prog:Program} {w:World} {A:Around} {hb:HB} {Γ:y9} {c:CT} {env:Env} {s₀ s:Shared} {O₀:Addr→Prop} {ow:Nat→Option Addr} {σ:z9}
theorem SS.xc (x:SS hb s₀ c env O₀ ow σ s) (g₀:GS hb s₀):XC hb (n7 O₀ ow) s:=⟨x.kp.gs g₀,x.ok,by rw [x.own];obtain ⟨_,n,_⟩:=x.fr.ns;exact .ns x.fr.fk.loc n⟩
theorem SS.run {s':Shared} (x:SS hb s₀ c env O₀ ow σ s) (g₀:GS hb s₀) (k:Kp hb s s') (tk:1≤s'.toks):SS hb s₀ c env O₀ ow σ s' :=
 ⟨x.kp.trans k,x.fr.kp k,((x.xc g₀).kp k).ok,x.inj,x.fresh,x.apart,tk,x.own⟩
inductive PR (hb:HB) (s₀:Shared) (O₀:Addr→Prop) (v:PV) (f:Flow) (s':Shared):Prop
 | mk (rv:Value) (e:f = .ret rv) (k:Kp hb s₀ s') (t:1≤s'.toks) (r:VR s'.heap O₀ v rv)
inductive PN (hb:HB) (s₀:Shared) (c:CT) (env:Env) (O₀:Addr→Prop) (ow:Nat→Option Addr) (h:Heap) (ch:Nat→Bool) (σ':z9) (f₀ f:Flow) (s':Shared):Prop
 | mk (e:f=f₀) (ow':Nat→Option Addr) (x:SS hb s₀ c env O₀ ow' σ' s') (k:KS h ow s'.heap ow') (w:∀ j,ch j=false→ow' j=ow j)
noncomputable def Post (hb:HB) (s₀:Shared) (c:CT) (env:Env) (O₀:Addr→Prop) (ow:Nat→Option Addr) (s:Shared) (ch:Nat→Bool) (fl:Fl) (σ':z9) (f:Flow) (s':Shared):Prop:=match fl with
 | .ret v=>PR hb s₀ O₀ v f s'
 | .next=>PN hb s₀ c env O₀ ow s.heap ch σ' .next f s'
 | .brk=>PN hb s₀ c env O₀ ow s.heap ch σ' .brk f s'
 | .cont=>PN hb s₀ c env O₀ ow s.heap ch σ' .cont f s'
theorem Post.from {s s1:Shared} {ow1:Nat→Option Addr} {ch ch1:Nat→Bool} {fl:Fl} {σ':z9} {f:Flow} {s':Shared} (k:KS s.heap ow s1.heap ow1) (hw:∀ j,ch j=false→ow1 j=ow j) (hc:∀ j,ch j=false→ch1 j=false)
  (x:Post hb s₀ c env O₀ ow1 s1 ch1 fl σ' f s'):Post hb s₀ c env O₀ ow s ch fl σ' f s':=by
 induction fl with
 | ret v=>exact x
 | _=>obtain ⟨h1,ow',h2,h3,h4⟩:=x;exact ⟨h1,ow',h2,k.trans h3,fun j q=>(h4 j (hc j q)).trans (hw j q)⟩
noncomputable def SSt (prog:Program) (w:World) (A:Around) (hb:HB) (Γ:y9) (c:CT) (env:Env) (s₀:Shared) (st:Stmt) (ps:PS):Prop :=
 ∀ O₀ ow σ s,SS hb s₀ c env O₀ ow σ s→∀ fl σ',w8 Γ 0 ps σ=some (fl,σ')→∀ (Q:Flow→Shared→Prop) (E:Value→Shared→Prop),(∀ f s',Post hb s₀ c env O₀ ow s (sets ps) fl σ' f s'→Q f s')→wpAny (model prog w) A (exec st env) Q E s
noncomputable def SSs (prog:Program) (w:World) (A:Around) (hb:HB) (Γ:y9) (c:CT) (env:Env) (s₀:Shared) (st:List Stmt) (ps:List PS):Prop :=
 ∀ O₀ ow σ s,SS hb s₀ c env O₀ ow σ s→∀ fl σ',y7 Γ 0 ps σ=some (fl,σ')→∀ (Q:Flow→Shared→Prop) (E:Value→Shared→Prop),(∀ f s',Post hb s₀ c env O₀ ow s (d5 ps) fl σ' f s'→Q f s')→wpAny (model prog w) A (execs st env) Q E s
theorem N1 {p:PS} {ps:List PS} {j:Nat} (h:d5 (p::ps) j=false):sets p j=false∧d5 ps j=false:=Bool.or_eq_false_iff.mp h
theorem sss_nil:SSs prog w A hb Γ c env s₀ [] []:=by
 intro O₀ ow σ s x fl σ' h Q E hQ;refine z6 fun K0=>?_
 refine w7 (sPr h :) fun o0 o1=>?_;obtain rfl:=o0;obtain rfl:=o1
 refine K0 ?_;clear K0;exact wpAny_execs_nil (hQ _ _ ⟨rfl,ow,x,.refl ..,fun _ _=>rfl⟩)
theorem sss_cons {st:Stmt} {r:List Stmt} {p:PS} {ps:List PS} (h1:SSt prog w A hb Γ c env s₀ st p) (h2:SSs prog w A hb Γ c env s₀ r ps):SSs prog w A hb Γ c env s₀ (st::r) (p::ps):=by
 intro O₀ ow σ s x fl σ' h Q E hQ;refine z6 fun K0=>?_
 refine y4 h fun o0 e1 h3=>?_;obtain ⟨f1,σ1⟩:=o0
 refine K0 ?_;clear K0;refine wpAny_execs_cons (h1 O₀ ow σ s x _ _ e1 _ _ fun f s1 q=>?_)
 induction f1 with
 | next =>
  obtain ⟨rfl,ow1,x1,k1,w1⟩:=q
  exact h2 O₀ ow1 σ1 s1 x1 fl σ' h3 Q E fun f s' q=>hQ f s' (q.from k1 (fun j hj=>w1 j (N1 hj).1) fun j hj=>(N1 hj).2)
 | brk=>cases h3;have q':Post hb s₀ c env O₀ ow s (d5 (p::ps)) .brk σ' f s1:=q.from (KS.refl ..) (fun _ _=>rfl) fun j hj=>(N1 hj).1;obtain ⟨rfl,_⟩:=q;exact hQ _ _ q'
 | cont=>cases h3;have q':Post hb s₀ c env O₀ ow s (d5 (p::ps)) .cont σ' f s1:=q.from (KS.refl ..) (fun _ _=>rfl) fun j hj=>(N1 hj).1;obtain ⟨rfl,_⟩:=q;exact hQ _ _ q'
 | ret v=>cases h3;have q':Post hb s₀ c env O₀ ow s (d5 (p::ps)) (.ret v) σ' f s1:=q.from (KS.refl ..) (fun _ _=>rfl) fun j hj=>(N1 hj).1;obtain ⟨rv,rfl,_⟩:=q;exact hQ _ _ q'
end
end Mine
namespace Mine
open PySem PyProof.Rows PySem.Spec
section
variable {hb:HB} {c:CT} {env:Env} {O O':Addr→Prop} {ow ow':Nat→Option Addr} {σ:z9} {h h':Heap}
theorem FR.names (x:FR hb c env O ow σ h) {C:Addr} (hk:∀ b o,b≠C→h.get? b=some o→h'.get? b=some o) (hC:∀ o,h.get? C=some o→∃ es ep,o.data = .dict es ep) (hL:C≠env.locals):FR hb c env O ow σ h':=by
 have kh:KeepH h h':=fun b o hb e hd=>hk b o (fun q=>by
  subst q;refine x21 (hC o e :) fun es ep q=>?_;exact hd.1 _ _ q) e
 refine ⟨x.fk,?_,fun n i h1 h2=>?_⟩
 ·refine z6 fun K0=>?_
  obtain ⟨m,⟨o,es,ep,ho,hd,r⟩,hr⟩:=x.ns;refine K0 ?_;clear K0;exact ⟨m,⟨o,es,ep,hk _ _ (Ne.symm hL) ho,hd,r⟩,fun n i h1 h2=>(hr n i h1 h2).keepH kh⟩
 ·refine z6 fun K0=>?_
  obtain ⟨a,e,ha,ov,⟨o,ho,hd⟩,r⟩:=x.cells n i h1 h2;refine K0 ?_;clear K0;exact ⟨a,e,ha,ov,⟨o,hk _ _ (fun q=>by subst q;refine x21 (hC o ho :) fun es ep q=>?_;rw [hd] at q;cases q) ho,hd⟩,r.keepH kh⟩
theorem FR.reown (fr:FR hb c env O ow σ h) {x:Nat} (hw:∀ i,i≠x→ow' i=ow i) (hO:∀ b o,h.get? b=some o→¬ O b→¬ O' b):FR hb c env O' ow' (z7 σ x .unset) h:=by
 have ks:∀ {i ov},SlotR h O ow i σ[i]? ov→SlotR h O' ow' i (z7 σ x .unset)[i]? ov:=by
  intro i ov r;by_cases hi:i=x
  ·subst hi;rcases N0 σ i .unset with e | e <;> rw [e] <;> trivial
  ·unfold z7;rw [List.getElem?_set_ne (Ne.symm hi),List.getElem?_map]
   cases hs:σ[i]? with
   | none=>trivial
   | some sl =>
    rw [hs] at r
    cases sl with
    | unset=>trivial
    | val v =>
     obtain ⟨rv,e,r⟩:=r
     exact ⟨rv,e,r.mono (fun _ _ e _=>e) hO⟩
    | own xs =>
     obtain ⟨z,a,vs,e,ho,ha,hl,r⟩:=r
     exact ⟨z,a,vs,e,by rw [hw i hi];exact ho,ha,hl,r.mono (fun _ _ e _=>e) hO⟩
    | app q =>
     obtain ⟨b,e,hb,r⟩:=r
     by_cases hq:q=x
     ·simp only [Option.map_some,if_pos hq];trivial
     ·simp only [Option.map_some,if_neg hq];exact ⟨b,e,hb,fun a ha=>r a (by rw [← hw q hq];exact ha)⟩
 refine ⟨fr.fk,?_,fun n i h1 h2=>?_⟩
 ·obtain ⟨m,hn,hr⟩:=fr.ns;exact ⟨m,hn,fun n i h1 h2=>ks (hr n i h1 h2)⟩
 ·obtain ⟨a,e,ha,ov,hc,r⟩:=fr.cells n i h1 h2;exact ⟨a,e,ha,ov,hc,ks r⟩
end
section
variable {prog:Program} {w:World} {A:Around} {hb:HB} {Γ:y9} {c:CT} {env:Env} {s₀ s:Shared} {O₀:Addr→Prop} {ow:Nat→Option Addr} {σ:z9}
theorem SS.freeze (x:SS hb s₀ c env O₀ ow σ s) {ow1:Nat→Option Addr} {σ1:z9} (h1:∀ i a,ow1 i=some a→ow i=some a)
  (h2:∀ i:Nat,σ1[i]?=σ[i]?∨(ow1 i=none∧∃ xs,σ[i]?=some (.own xs)∧σ1[i]?=some (.val (.list xs)))) (h3:∀ (i:Nat) xs,σ1[i]?=some (.own xs)→ow1 i=ow i):SS hb s₀ c env O₀ ow1 σ1 s:=by
 have sub:∀ b,n7 O₀ ow1 b→n7 O₀ ow b:=fun b q=>by
  rcases q with q | ⟨i,q⟩
  ·exact .inl q
  ·exact .inr ⟨i,h1 i b q⟩
 have ks:∀ {i ov},SlotR s.heap (n7 O₀ ow) ow i σ[i]? ov→SlotR s.heap (n7 O₀ ow1) ow1 i σ1[i]? ov:=by
  intro i ov r;rcases h2 i with e | ⟨e1,xs,e2,e3⟩
  ·have h3:=h3 i;rw [← e] at r
   cases hs:σ1[i]? with
   | none=>trivial
   | some sl =>
    rw [hs] at r h3
    cases sl with
    | unset=>trivial
    | val v =>
     obtain ⟨rv,e,r⟩:=r
     exact ⟨rv,e,r.mono (fun _ _ e _=>e) fun b _ _ q q'=>q (sub b q')⟩
    | own xs =>
     obtain ⟨z,a,vs,e,ho,ha,hl,r⟩:=r
     exact ⟨z,a,vs,e,by rw [h3 xs rfl];exact ho,ha,hl,r.mono (fun _ _ e _=>e) fun b _ _ q q'=>q (sub b q')⟩
    | app q =>
     obtain ⟨b,e,hb,r⟩:=r
     exact ⟨b,e,hb,fun a ha=>r a (h1 q a ha)⟩
  ·rw [e2] at r;rw [e3];obtain ⟨z,a,vs,e,ho,ha,hl,r⟩:=r;refine ⟨.ref a,e,z,a,vs,rfl,ha,fun q=>?_,hl,r.mono (fun _ _ e _=>e) fun b _ _ q q'=>q (sub b q')⟩
   rcases q with q | ⟨j,q⟩
   ·exact x.apart i a ho q
   ·have:=x.inj i j a ho (h1 j a q);subst this;rw [e1] at q;cases q
 refine ⟨x.kp,⟨x.fr.fk,?_,fun n i h1 h2=>?_⟩,fun a ha=>x.ok a (sub a ha),fun i j a p q=>x.inj i j a (h1 i a p) (h1 j a q),fun i a p=>x.fresh i a (h1 i a p),fun i a p=>x.apart i a (h1 i a p),x.tk,x.own⟩
 ·obtain ⟨m,hn,hr⟩:=x.fr.ns;exact ⟨m,hn,fun n i h1 h2=>ks (hr n i h1 h2)⟩
 ·obtain ⟨a,e,ha,ov,hc,r⟩:=x.fr.cells n i h1 h2;exact ⟨a,e,ha,ov,hc,ks r⟩
theorem SS.frz1 (x:SS hb s₀ c env O₀ ow σ s) (j:Nat):SS hb s₀ c env O₀ (fun i=>if i=j then none else ow i) (frz1 σ j) s:=by
 have hne:∀ (s':Mine.Slot) (i:Nat),i≠j→(σ.set j s')[i]?=σ[i]?:=fun s' i hi=>List.getElem?_set_ne (Ne.symm hi)
 refine x.freeze (fun i a q=>?_) (fun i=>?_) fun i xs q=>?_
 ·by_cases hi:i=j
  ·rw [if_pos hi] at q;cases q
  ·rw [if_neg hi] at q;exact q
 ·unfold Mine.frz1
  split
  ·rename_i xs e;by_cases hi:i=j
   ·subst hi;refine .inr ⟨if_pos rfl,xs,e,?_⟩;rw [List.getElem?_set_self (List.getElem?_eq_some_iff.mp e).1]
   ·exact .inl (hne _ i hi)
  ·exact .inl rfl
 ·by_cases hi:i=j
  ·subst hi;unfold Mine.frz1 at q
   split at q
   ·rename_i xs' e;rw [List.getElem?_set_self (List.getElem?_eq_some_iff.mp e).1] at q;cases q
   ·rename_i hn;exact absurd q (hn xs)
  ·rw [if_neg hi]
theorem SS.frzA (x:SS hb s₀ c env O₀ ow σ s):SS hb s₀ c env O₀ (fun _=>none) (frzA σ) s:=by
 refine x.freeze (fun i a q=>nomatch q) (fun i=>?_) fun i xs q=>?_
 ·unfold Mine.frzA;rw [List.getElem?_map]
  cases hs:σ[i]? with
  | none=>exact .inl rfl
  | some sl =>
   cases sl with
   | own xs=>exact .inr ⟨rfl,xs,rfl,rfl⟩
   | _=>exact .inl rfl
 ·unfold Mine.frzA at q;rw [List.getElem?_map] at q
  cases hs:σ[i]? with
  | none=>rw [hs] at q;cases q
  | some sl=>rw [hs] at q;cases sl <;> cases q
theorem ks_less {ow1:Nat→Option Addr} (h:Heap) (h1:∀ i a,ow1 i=some a→ow i=some a):KS h ow h ow1 :=
 ⟨fun _ o e=>⟨o,e⟩,fun _ _ _ e _ _=>e,fun b _ _ q i q'=>q i (h1 i b q')⟩
theorem U0 {n:Str} {i:Nat} {v:PV} {rv:Value} {Q:Unit→Shared→Prop} {E:Value→Shared→Prop} {A₁:Around} (fx:Fx prog w A₁ hb Γ c env s₀) (x:SS hb s₀ c env O₀ ow σ s) (hi:c.slot n=some i) (r:VR s.heap (n7 O₀ ow) v rv)
  (hQ:∀ s',SS hb s₀ c env O₀ ow (z7 σ i (.val v)) s'→KS s.heap ow s'.heap ow→(∃ p,(p=env.locals∨∃ ov,s.heap.IsCell p ov)∧∀ b o,b≠p→s.heap.get? b=some o→s'.heap.get? b=some o)→Q () s'):wpAny (model prog w) A (storeName env n rv) Q E s:=by
 refine wpAny_with_toks x.tk (J2 (sl := .val v) (x.fr.less (less_set σ i)) hi x.kp fx.g₀ (fx.own n i hi) ⟨rv,rfl,r⟩ fun h' tk k1 k2 k3 k4 k5 tk'=>?_)
 exact hQ _ ⟨k1,k4,x.ok.frm k2,x.inj,x.fresh,x.apart,tk',x.own⟩ (.keepH ow k3 k2.alive) k5
theorem swaps_of {v:Expr} (h:j7 v=true) (n:Str) (p:Pos) (line:Nat) (env:Env):swapsWith v (some (.Name n p)) line env=pure false∨(swapsWith v (some (.Name n p)) line env=pure true∧∃ elt gens sc pos,v = .ListComp elt gens sc pos):=by
 have key:∀ (sc:Scope) (pp:Pos),∃ b,(pure (env.blockKind == .function && env.kindOf n == some .local && p.line == pp.line && !(sc.names.any fun (m,k)=>m == n && (k == .local || k == .cell))):Sem Bool)=pure b:=fun _ _=>⟨_,rfl⟩
 cases v with
 | ListComp elt gens sc pos =>
  have e:swapsWith (.ListComp elt gens sc pos) (some (.Name n p)) line env=pure (env.blockKind == .function && env.kindOf n == some .local && p.line == pos.line && !(sc.names.any fun (m,k)=>m == n && (k == .local || k == .cell))):=rfl
  rw [e]
  cases (env.blockKind == .function && env.kindOf n == some .local && p.line == pos.line && !(sc.names.any fun (m,k)=>m == n && (k == .local || k == .cell))) with
  | false=>exact .inl rfl
  | true=>exact .inr ⟨rfl,_,_,_,_,rfl⟩
 | SetComp _ _ _ _=>exact absurd h Bool.false_ne_true
 | DictComp _ _ _ _ _=>exact absurd h Bool.false_ne_true
 | _=>exact .inl rfl
theorem sst_ret {e:Expr} {pe:PE} {p:Pos} (fx:Fx prog w A hb Γ c env s₀) (he:SE prog w A hb Γ c e pe):SSt prog w A hb Γ c env s₀ (.Return (some e) p) (.ret pe):=by
 intro O₀ ow σ s x fl σ' h Q E hQ;refine z6 fun K0=>?_
 refine v8 h fun v hv h1=>?_
 cases h1
 refine K0 ?_;clear K0;exact wpAny_Return_some (he.val x.frzA.fr (x.frzA.xc fx.g₀) x.tk hv _ _ fun rv s' k t r=>hQ _ _ ⟨rv,rfl,x.kp.trans k,t,VR.mono (fun _ _ e _=>e) (fun b _ _ q q'=>q (.inl q')) r⟩)
theorem sst_ret0 {p:Pos} (fx:Fx prog w A hb Γ c env s₀):SSt prog w A hb Γ c env s₀ (.Return none p) (.ret (.lit .nul)):=by
 intro O₀ ow σ s x fl σ' h Q E hQ;refine z6 fun K0=>?_
 refine w7 (sPr h :) fun o0 o1=>?_;obtain rfl:=o0;obtain rfl:=o1
 refine K0 ?_;clear K0;exact wpAny_Return_none (hQ _ _ ⟨.none,rfl,x.kp,x.tk,rfl⟩)
theorem sst_brk {p:Pos} : SSt prog w A hb Γ c env s₀ (.Break p) .brk:=by
 intro O₀ ow σ s x fl σ' h Q E hQ;refine z6 fun K0=>?_
 refine w7 (sPr h :) fun o0 o1=>?_;obtain rfl:=o0;obtain rfl:=o1
 refine K0 ?_;clear K0;exact wpAny_Break (hQ _ _ ⟨rfl,ow,x,.refl ..,fun _ _=>rfl⟩)
theorem sst_asrt {e:Expr} {pe:PE} {p:Pos} (fx:Fx prog w A hb Γ c env s₀) (he:SE prog w A hb Γ c e pe):SSt prog w A hb Γ c env s₀ (.Assert e none p) (.asrt pe):=by
 intro O₀ ow σ s x fl σ' h Q E hQ;refine z6 fun K0=>?_
 refine y4 h fun t hv h1=>?_
 refine v9 h1 fun o0 h2=>?_;obtain rfl:=o0
 refine w7 (sPr h2 :) fun o0 o1=>?_;obtain rfl:=o0;obtain rfl:=o1
 refine K0 ?_;clear K0;exact wpAny_Assert_holds (he.test x.fr (x.xc fx.g₀) x.tk hv _ _ fun s' k t=>⟨rfl,hQ _ _ ⟨rfl,ow,x.run fx.g₀ k t,.kp k (x.kp.gs fx.g₀) ow,fun _ _=>rfl⟩⟩)
theorem or_false {pe:PE} {pa pb:List PS} {j:Nat} (h:sets (.ite pe pa pb) j=false):d5 pa j=false∧d5 pb j=false:=Bool.or_eq_false_iff.mp h
theorem sst_ite {e:Expr} {pe:PE} {p:Pos} {a b:List Stmt} {pa pb:List PS} (fx:Fx prog w A hb Γ c env s₀) (he:SE prog w A hb Γ c e pe) (ha:SSs prog w A hb Γ c env s₀ a pa) (hb':SSs prog w A hb Γ c env s₀ b pb):SSt prog w A hb Γ c env s₀ (.If e a b p) (.ite pe pa pb):=by
 intro O₀ ow σ s x fl σ' h Q E hQ;refine z6 fun K0=>?_
 refine y4 h fun t hv h1=>?_
 refine K0 ?_;clear K0;refine wpAny_If (he.test x.fr (x.xc fx.g₀) x.tk hv _ _ fun s' k tk=>?_)
 cases t
 ·exact hb' O₀ ow σ s' (x.run fx.g₀ k tk) fl σ' h1 Q E fun f s'' q=>hQ f s'' (q.from (.kp k (x.kp.gs fx.g₀) ow) (fun _ _=>rfl) fun j hj=>(or_false hj).2)
 ·exact ha O₀ ow σ s' (x.run fx.g₀ k tk) fl σ' h1 Q E fun f s'' q=>hQ f s'' (q.from (.kp k (x.kp.gs fx.g₀) ow) (fun _ _=>rfl) fun j hj=>(or_false hj).1)
end
end Mine
namespace Mine
open PySem PyProof.Rows PySem.Spec
section
variable {prog:Program} {w:World} {A:Around} {hb:HB} {Γ:y9} {c:CT} {env:Env} {s₀ s:Shared} {O₀:Addr→Prop} {ow:Nat→Option Addr} {σ:z9}
noncomputable def SCu (prog:Program) (w:World) (A:Around) (hb:HB) (Γ:y9) (c:CT) (elt:Expr) (gens:List Comprehension) (sc:Scope) (pos:Pos) (pe:PE):Prop :=
 ∀ (env:Env) (O:Addr→Prop) (ow:Nat→Option Addr) (σ:z9) (s:Shared),FR hb c env O ow σ s.heap→XC hb O s→1≤s.toks →
  ∀ v,z8 Γ pe .val σ=some v→∀ (use:Option (Value→Sem Unit)) (Q:Value→Shared→Prop) (E:Value→Shared→Prop),
   (∀ C s' rv m,Kp hb s s'→s'.heap.Ns C m→s.heap.get? C=none→VR s'.heap O v rv→1≤s'.toks→compPost (model prog w) A E use Q rv C (.ok .next) s') →
   wpAny (model prog w) A (comprehension (.ListComp elt gens sc pos) sc env (firstIterPos gens pos) (newList []) (firstAsync gens) (firstIter gens env) use) Q E s
theorem soundU (cx:Cx prog w A hb Γ) {f:Sub} (F:SF prog w A hb Γ f) {elt:Expr} {gens:List Comprehension} {sc:Scope} {pos:Pos} {pe:PE} (h:CompInv f c elt sc gens pe):SCu prog w A hb Γ c elt gens sc pos pe:=by
 intro env O ow σ s fr xc tk v hv use Q E hP
 induction h with
 | single h1 h2 h3 h4 h5 h6 h7 =>
  refine z6 fun K0=>?_
  refine y4 hv fun x hx v1=>?_
  refine y4 v1 fun y hy v2=>?_
  refine y4 v2 fun items hi v3=>?_
  refine v8 v3 fun total hgo o0=>?_;obtain rfl:=o0
  refine K0 ?_
  clear K0
  exact D4 cx.handled (V3 F cx.handled h1).1 (S9 (V3 F cx.handled h1).2) (scOk_of h6) h2 h5 h7 (sts_of F h3) (F.se h4) fr xc tk hx hy hi hgo hP
 | double h1 h2 h3 h4 h5 g1 g2 g3 g4 g5 g6 =>
  refine z6 fun K0=>?_
  refine y4 hv fun x hx v1=>?_
  refine y4 v1 fun y hy v2=>?_
  refine y4 v2 fun items hi v3=>?_
  refine v8 v3 fun total hgo o0=>?_;obtain rfl:=o0
  refine K0 ?_
  clear K0
  exact D3 cx.handled (V3 F cx.handled h1).1 (S9 (V3 F cx.handled h1).2) (scOk_of g4) h2 g1 g5 h3 g2 g6 g3 (F.se h4) (S9 (F.sv h4)) (F.se h5) fr xc tk hx hy hi hgo hP
theorem A8 {n:Str} {i:Nat} {v:Expr} {pe:PE} {px p:Pos} (fx:Fx prog w A hb Γ c env s₀) (hi:c.slot n=some i) (hc:j7 v=true) (he:SE prog w A hb Γ c v pe) (hU:∀ elt gens sc pos,v = .ListComp elt gens sc pos→SCu prog w A hb Γ c elt gens sc pos pe):SSt prog w A hb Γ c env s₀ (.Assign [.Name n px] v p) (.assign i pe):=by
 intro O₀ ow σ s x fl σ' h Q E hQ;refine z6 fun K0=>?_
 refine v8 h fun u hu h1=>?_
 cases h1
 refine K0 ?_;clear K0;have x1:=x.frz1 i;have k0:KS s.heap ow s.heap (fun j=>if j=i then none else ow j):=ks_less _ fun j a q=>by
  by_cases hj:j=i
  ·rw [if_pos hj] at q;cases q
  ·rw [if_neg hj] at q;exact q
 have hch:∀ j,sets (.assign i pe) j=false→(if j=i then none else ow j)=ow j:=fun j hj=>by
  exact if_neg fun q=>beq_eq_false_iff_ne.mp (show (i == j)=false from hj) q.symm
 rcases swaps_of hc n px p.line env with hs | ⟨hs,elt,gens,sc,pos,rfl⟩
 ·rw [exec_Assign_Name _ _ _ _ _ hs];refine wpAny_bind (wpAny_standAt (wpAny_bind (he.val x1.fr (x1.xc fx.g₀) x1.tk hu _ _ fun rv s1 k1 t1 r1=>?_)))
  refine wpAny_bind (wpAny_standAt (wpAny_bind (wpAny_bindName (U0 fx (x1.run fx.g₀ k1 t1) hi r1 fun s2 x2 k2 _=>wpAny_pure ?_))))
  exact hQ _ _ ⟨rfl,_,x2,(k0.trans (.kp k1 (x1.kp.gs fx.g₀) _)).trans k2,hch⟩
 ·rw [exec_Assign_Name_used _ _ _ _ hs,arm_evalThenUse_ListComp];have hL:∃ o,s.heap.get? env.locals=some o:=let ⟨_,⟨o,_,_,ho,_⟩,_⟩:=x.fr.ns;⟨o,ho⟩;refine wpAny_bind (wpAny_standAt (wpAny_bind (wpAny_bind (hU elt gens sc pos rfl env _ _ _ s x1.fr (x1.xc fx.g₀) x1.tk u hu (some (assign (.Name n px) env)) _ _ fun C s1 rv m k1 hm hC r1 t1=>?_))))
  have x1':=x1.run fx.g₀ k1 t1;refine wpAny_assign_Name (U0 fx x1' hi r1 fun s2 x2 k2 hp=>?_)
  refine z6 fun K0=>?_
  refine x12 hp fun pl hpl hkp=>?_
  have hCL:C≠env.locals:=fun q=>by refine Exists.elim hL fun o ho=>?_;rw [← q,hC] at ho;cases ho
  refine x33 (id hm :) fun oC es ep hoC hdC hrC=>?_
  refine K0 ?_;clear K0;have hCp:C≠pl:=fun q=>by
   rcases hpl with q' | q'
   ·exact hCL (q.trans q')
   ·refine x22 q' fun ov o ho hd=>?_
    rw [← q,hoC] at ho;obtain rfl:=Option.some.inj ho;rw [hdC] at hd;cases hd
  have hm2:s2.heap.Ns C m:=⟨oC,es,ep,hkp _ _ hCp hoC,hdC,hrC⟩;refine ⟨m,hm2,fun h' hs'=>wpAny_pure (wpAny_pure (hQ _ _ ⟨rfl,(fun j=>if j=i then none else ow j),?_,?_,hch⟩))⟩
  ·have hk:∀ b o,¬ b=C→s2.heap.get? b=some o→h'.get? b=some o:=fun b o hb e=>hs'.extBut b o hb e
   have hC0:s₀.heap.get? C=none:=Z4 x.kp fx.g₀ hC;have dC:∀ o,s2.heap.get? C=some o→∃ es ep,o.data = .dict es ep:=fun o e=>by
    refine x33 hm2 fun o' es' ep' h1 h2 _=>?_;rw [e] at h1;cases h1;exact ⟨es',ep',h2⟩
   refine ⟨x2.kp.turns (tk:=s2.toks) (X:=(· = C)) fx.g₀ hk (fun b q=>by rw [q];exact hC0) fun b o q e => .inr fun hd=>?_,x2.fr.names (C:=C) hk dC hCL,fun a ha=>?_,x2.inj,x2.fresh,x2.apart,x2.tk,x2.own⟩
   ·rw [q] at e;refine x21 (dC o e :) fun es' ep' q'=>?_;exact hd.1 _ _ q'
   ·refine z6 fun K0=>?_
    refine w7 (x2.ok a ha :) fun h1 o0=>?_;refine Exists.elim o0 fun o h2=>?_
    refine w7 (x1.ok a ha :) fun _ o0=>?_;refine Exists.elim o0 fun o' h3=>?_
    refine K0 ?_;clear K0;exact ⟨h1,o,hk a o (fun q=>by rw [q,hC] at h3;cases h3) h2⟩
  ·have k3:=(k0.trans (.kp k1 (x1.kp.gs fx.g₀) _)).trans k2;have ne:∀ b o,s.heap.get? b=some o→b≠C:=fun b o e q=>by rw [q,hC] at e;cases e
   exact ⟨fun b o e=>let ⟨o',e'⟩:=k3.alive b o e;⟨o',hs'.extBut b o' (ne b o e) e'⟩,fun b o hb e hd hO=>hs'.extBut b o (ne b o e) (k3.keep b o hb e hd hO),k3.thin⟩
end
end Mine
namespace Mine
open PySem PyProof.Rows PySem.Spec
section
variable {prog:Program} {w:World} {A:Around} {hb:HB} {Γ:y9} {c:CT} {env:Env} {s₀ s:Shared} {O₀:Addr→Prop} {ow:Nat→Option Addr} {σ:z9}
theorem SS.alive (x:SS hb s₀ c env O₀ ow σ s) {i:Nat} {a:Addr} (h:ow i=some a):∃ o,s.heap.get? a=some o:=let ⟨_,q⟩:=x.ok a (.inr ⟨i,h⟩);q
theorem sst_own {n:Str} {i:Nat} {px pl p:Pos} (fx:Fx prog w A hb Γ c env s₀) (hi:c.slot n=some i):SSt prog w A hb Γ c env s₀ (.Assign [.Name n px] (.List [] pl) p) (.own i):=by
 intro O₀ ow σ s x fl σ' h Q E hQ;refine z6 fun K0=>?_
 refine w7 (sPr h :) fun o0 o1=>?_;obtain rfl:=o0;obtain rfl:=o1
 refine K0 ?_;clear K0;have xc:=x.xc fx.g₀;have hDn:s.heap.get? s.heap.objs.size=none:=Z7 (Nat.le_refl _);have hOD:∀ j,ow j≠some s.heap.objs.size:=fun j q=>by
  refine Exists.elim (x.alive q :) fun o e=>?_
  rw [hDn] at e;cases e
 have hO0:¬ O₀ s.heap.objs.size:=fun q=>by
  refine w7 (x.ok _ (.inl q) :) fun _ o0=>?_;refine Exists.elim o0 fun o e=>?_
  rw [hDn] at e;cases e
 refine wpAny_with_toks x.tk ?_;rw [exec_Assign_Name _ _ _ _ _ rfl];refine wpAny_bind (wpAny_standAt (wpAny_bind (wpAny_List_spliced (wpAny_items_nil ⟨Nat.zero_le _,?_⟩))));generalize hH:s.heap.push { cls := .type "list",data := .seq ([]:List Value).toArray } = H;have hk:∀ b o,s.heap.get? b=some o→H.get? b=some o:=fun b o e=>hH▸Heap.get?_push_of_some _ e
 have hD:H.get? s.heap.objs.size=some { cls := .type "list",data := .seq ([]:List Value).toArray } := hH▸Heap.get?_push_size _ rfl;have thin:∀ b o,s.heap.get? b=some o→¬ n7 O₀ ow b→¬ n7 O₀ (fun j=>if j=i then some s.heap.objs.size else ow j) b:=fun b o e hO q=>by
  rcases q with q | ⟨j,q⟩
  ·exact hO (.inl q)
  ·by_cases hj:j=i
   ·simp only [if_pos hj] at q;cases q;rw [hDn] at e;cases e
   ·simp only [if_neg hj] at q;exact hO (.inr ⟨j,q⟩)
 have fr1:=(x.fr.reown (x:=i) (ow':=fun j=>if j=i then some s.heap.objs.size else ow j) (fun j hj=>if_neg hj) thin).soft (.of_keeps hk)
 have kp1:Kp hb s₀ { s with heap:=H } := x.kp.trans (.keeps (tk:=s.toks) hk);refine wpAny_bind (wpAny_standAt (wpAny_bind (wpAny_bindName (J2 (O:=n7 O₀ (fun j=>if j=i then some s.heap.objs.size else ow j)) (sl := .own []) fr1 hi kp1 fx.g₀ (fx.own n i hi)
  ⟨Nat.zero_le _,s.heap.objs.size,[],rfl,if_pos rfl,xc.off,⟨_,hD⟩,rfl⟩ fun h' tk k1 k2 k3 k4 k5=>wpAny_pure fun tk'=>?_))))
 have ok1:OkO (n7 O₀ (fun j=>if j=i then some s.heap.objs.size else ow j)) H:=fun a ha=>by
  rcases ha with ha | ⟨j,ha⟩
  ·refine w7 (x.ok a (.inl ha) :) fun h1 o0=>?_;refine Exists.elim o0 fun o h2=>?_;exact ⟨h1,o,hk _ _ h2⟩
  ·by_cases hj:j=i
   ·simp only [if_pos hj] at ha;cases ha;exact ⟨xc.off,_,hD⟩
   ·simp only [if_neg hj] at ha;refine w7 (x.ok a (.inr ⟨j,ha⟩) :) fun h1 o0=>?_;refine Exists.elim o0 fun o h2=>?_;exact ⟨h1,o,hk _ _ h2⟩
 refine hQ _ _ ⟨rfl,(fun j=>if j=i then some s.heap.objs.size else ow j),⟨k1,k4,ok1.frm k2,fun j j' a q q'=>?_,fun j a q=>?_,fun j a q=>?_,tk',x.own⟩,⟨fun b o e=>k2.alive b o (hk b o e),fun b o hb e hd _=>k3 b o hb (hk b o e) hd,fun b o e hO j q=>?_⟩,fun j hj=>?_⟩
 ·by_cases h1:j=i <;> by_cases h2:j'=i
  ·rw [h1,h2]
  ·simp only [if_pos h1] at q;simp only [if_neg h2] at q';cases q;exact absurd q' (hOD _)
  ·simp only [if_neg h1] at q;simp only [if_pos h2] at q';cases q';exact absurd q (hOD _)
  ·simp only [if_neg h1] at q;simp only [if_neg h2] at q';exact x.inj _ _ _ q q'
 ·by_cases h1:j=i
  ·simp only [if_pos h1] at q;cases q;exact Z4 x.kp fx.g₀ hDn
  ·simp only [if_neg h1] at q;exact x.fresh _ _ q
 ·by_cases h1:j=i
  ·simp only [if_pos h1] at q;cases q;exact hO0
  ·simp only [if_neg h1] at q;exact x.apart _ _ q
 ·by_cases h1:j=i
  ·simp only [if_pos h1] at q;cases q;rw [hDn] at e;cases e
  ·simp only [if_neg h1] at q;exact hO _ q
 ·exact if_neg fun q=>beq_eq_false_iff_ne.mp (show (_ == j)=false from hj) q.symm
theorem aug_ok {op:Operator} {u v r:PV} {ru rv:Value} {O:Addr→Prop} {Q:Value→Shared→Prop} {E:Value→Shared→Prop} (h:augop op u v=some r) (hu:VR s.heap O u ru) (hv:VR s.heap O v rv)
  (hQ:∀ rr s',Kp hb s s'→VR s'.heap O r rr→Q rr s'):wpAny (model prog w) A (inplaceOp op ru rv) Q E s:=by
 induction op with
 | Add =>
  cases u with
  | int a =>
   obtain ⟨b,hb',rfl⟩:=map_some h
   obtain rfl:=U6 hb'
   obtain ⟨t,rfl⟩:=hu;obtain ⟨t',rfl⟩:=hv
   exact PyProof.Rows.iadd_int (hQ _ _ .tok ⟨_,rfl⟩)
  | str a =>
   refine y4 h fun b hb' h1=>?_
   refine v9 h1 fun hz h2=>?_
   obtain rfl:=Option.some.inj h2
   obtain rfl:=a9 hb'
   obtain ⟨z,t,rfl⟩:=hu;obtain ⟨z',t',rfl⟩:=hv
   exact PyProof.Rows.iadd_str (fun t'' tk=>hQ _ _ .tok ⟨G5 z z' (by rw [List.length_append];exact hz),t'',by rw [str_app]⟩) (by rw [lenS,lenS];exact Nat.le_trans hz a8)
  | _=>exact w9 h
 | _=>exact w9 h
theorem sst_aug {n:Str} {i:Nat} {v:Expr} {op:Operator} {pe:PE} {px p:Pos} {A₁:Around} (fx:Fx prog w A₁ hb Γ c env s₀) (hn:v7 n=true) (hi:c.slot n=some i) (he:SE prog w A hb Γ c v pe):SSt prog w A hb Γ c env s₀ (.AugAssign (.Name n px) op v p) (.aug i op pe):=by
 intro O₀ ow σ s x fl σ' h Q E hQ;refine z6 fun K0=>?_
 refine y4 h fun u hu h1=>?_
 refine y4 h1 fun vv hv h2=>?_
 refine v8 h2 fun v' hv' h3=>?_
 cases h3
 refine K0 ?_;clear K0;rw [exec_AugAssign_Name];refine wpAny_bind (wpAny_standAt (wpAny_bind (V5 x.fr hi (l8 hn).2 fun ov r=>?_)))
 refine z6 fun K0=>?_
 obtain ⟨rv,e,r0⟩:=val_of hu r;refine K0 ?_;clear K0;refine ⟨rv,e,wpAny_bind (wpAny_holding (he.val x.fr (x.xc fx.g₀) x.tk hv _ _ fun rv2 s1 k1 t1 r1=>wpAny_bind (wpAny_standAt (wpAny_bind ?_))))⟩
 refine wpAny_operating (wpAny_with_toks t1 (aug_ok (hb:=hb) hv' (VR.kp k1 r0) r1 fun rv' s2 k2 r2 t2=>?_))
 exact wpAny_bind (wpAny_standAt (wpAny_bind (wpAny_bindName (U0 fx ((x.run fx.g₀ k1 t1).run fx.g₀ k2 t2) hi r2 fun s3 x3 k3 _=>wpAny_pure (hQ _ _ ⟨rfl,_,x3,(KS.kp (k1.trans k2) (x.kp.gs fx.g₀) ow).trans k3,fun _ _=>rfl⟩)))))
theorem SS.grow (x:SS hb s₀ c env O₀ ow σ s) (g₀:GS hb s₀) {i:Nat} {a:Addr} {xs:List PV} {v:PV} {rv:Value} {vs:List Value} {h':Heap} (hw:ow i=some a) (hs:σ[i]?=some (.own xs)) (hl:s.heap.PlainList a vs.toArray) (hl':h'.PlainList a (vs.toArray.push rv)) (hsb:Heap.SameBut a s.heap h')
  (hr:VRs s.heap (n7 O₀ ow) xs vs) (r:VR s.heap (n7 O₀ ow) v rv) (hz:xs.length<small) :
  SS hb s₀ c env O₀ ow (σ.set i (.own (xs ++ [v]))) { s with heap:=h' } ∧ KS s.heap ow h' ow:=by
 refine z6 fun K0=>?_
 refine Exists.elim (id hl :) fun n hD=>?_
 refine Exists.elim (id hl' :) fun n' hD'=>?_
 refine K0 ?_;clear K0;have hk:∀ b o,¬ b=a→s.heap.get? b=some o→h'.get? b=some o:=fun b o hb e=>hsb.extBut b o hb e
 have km:∀ b o,s.heap.get? b=some o→W3 (n7 O₀ ow) b o→h'.get? b=some o:=fun b o e l=>hk b o (fun q=>l.2.1 (q ▸ .inr ⟨i,hw⟩)) e
 have hta:a≠x9:=(x.ok a (.inr ⟨i,hw⟩)).1;have sl:∀ {j ov},SlotR s.heap (n7 O₀ ow) ow j σ[j]? ov→SlotR h' (n7 O₀ ow) ow j (σ.set i (.own (xs ++ [v])))[j]? ov:=by
  intro j ov q;by_cases hj:j=i
  ·subst hj;rw [hs] at q;rw [List.getElem?_set_self (List.getElem?_eq_some_iff.mp hs).1];obtain ⟨z,a',vs',e,ho,ha,hl0,r0⟩:=q;rw [hw] at ho;obtain rfl:=Option.some.inj ho;refine ⟨by rw [List.length_append,List.length_singleton];exact hz,a,vs ++ [rv],e,hw,ha,?_,(hr.mono km fun _ _ _ q=>q).append ⟨rv,[],rfl,r.mono km fun _ _ _ q=>q,rfl⟩⟩
   have e:(vs ++ [rv]).toArray=vs.toArray.push rv:=by simp
   rw [e];exact hl'
  ·rw [List.getElem?_set_ne (Ne.symm hj)]
   cases hsj:σ[j]? with
   | none=>trivial
   | some sl =>
   rw [hsj] at q
   induction sl with
   | unset=>trivial
   | val v' =>
    obtain ⟨rv,e,r⟩:=q;exact ⟨rv,e,r.mono km fun _ _ _ q=>q⟩
   | own xs' =>
    obtain ⟨z,a',vs',e,ho,ha,⟨m,hm⟩,r0⟩:=q
    exact ⟨z,a',vs',e,ho,ha,⟨m,hk _ _ (fun q=>hj (x.inj j i a (q▸ho) hw)) hm⟩,r0.mono km fun _ _ _ q=>q⟩
   | app r' =>
    obtain ⟨b,e,hb,r0⟩:=q
    exact ⟨b,e,hb,fun a' q=>let ⟨o,us,ho,hc,hd,h1,h2⟩:=r0 a' q;⟨o,us,hk _ _ (fun q=>by subst q;rw [hD] at ho;cases ho;exact absurd hc (by show Value.type "list" ≠ Value.type "builtin_function_or_method";decide)) ho,hc,hd,h1,h2⟩⟩
 have al:∀ b o,s.heap.get? b=some o→∃ o',h'.get? b=some o':=fun b o e=>by
  by_cases hb:b=a
  ·subst hb;exact ⟨_,hD'⟩
  ·exact ⟨o,hk b o hb e⟩
 refine ⟨⟨x.kp.turns (tk:=s.toks) (X:=(· = a)) g₀ hk (fun b q=>by rw [q];exact x.fresh i a hw) fun b o q e=>?_,⟨x.fr.fk,?_,fun n j h1 h2=>?_⟩,fun b hb=>?_,x.inj,x.fresh,x.apart,x.tk,x.own⟩,⟨al,fun b o hb e hd hO=>hk b o (fun q=>hO i (q▸hw)) e,fun _ _ _ q=>q⟩⟩
 ·rw [q,hD] at e;obtain rfl:=Option.some.inj e;exact .inl ⟨(show Value.type "list" ≠ Value.none by decide),(show Value.type "list" ≠ Value.type "code" by decide)⟩
 ·refine z6 fun K0=>?_
  obtain ⟨m,⟨o,es,ep,ho,hd,r0⟩,hr0⟩:=x.fr.ns;refine K0 ?_;clear K0;exact ⟨m,⟨o,es,ep,hk _ _ (fun q=>by rw [q,hD] at ho;cases ho;cases hd) ho,hd,r0⟩,fun n j h1 h2=>sl (hr0 n j h1 h2)⟩
 ·refine z6 fun K0=>?_
  obtain ⟨a',e,ha,ov,⟨o,ho,hd⟩,r0⟩:=x.fr.cells n j h1 h2;refine K0 ?_;clear K0;exact ⟨a',e,ha,ov,⟨o,hk _ _ (fun q=>by rw [q,hD] at ho;cases ho;cases hd) ho,hd⟩,sl r0⟩
 ·refine z6 fun K0=>?_
  refine w7 (x.ok b hb :) fun h1 o0=>?_;refine Exists.elim o0 fun o h2=>?_
  refine K0 ?_;clear K0;exact ⟨h1,al b o h2⟩
theorem sst_push {n:Str} {i:Nat} {v:Expr} {pe:PE} {px ap cp p:Pos} (fx:Fx prog w A hb Γ c env s₀) (hn:v7 n=true) (hline:(ap.endLine == cp.line)=true) (hi:c.slot n=some i) (hc:j7 v=true) (he:SE prog w A hb Γ c v pe) :
  SSt prog w A hb Γ c env s₀ (.Expr (.Call (.Attribute (.Name n px) ("append" : Str) ap) [v] [] cp) p) (.push i pe):=by
 intro O₀ ow σ s x fl σ' h Q E hQ;refine z6 fun K0=>?_
 refine y4 h fun u hu h1=>?_
 refine y4 h1 fun xs hs' h2=>?_
 refine v9 h2 fun hz h3=>?_
 refine w7 (sPr h3 :) fun o0 o1=>?_;obtain rfl:=o0;obtain rfl:=o1
 refine K0 ?_;clear K0;have hs:=O6 hs';have hint:interactive env=false:=by unfold interactive;rw [x.fr.fk.kind];rfl
 refine wpAny_Expr ?_ hint rfl;have hun:U2 env [v]:=W0 (by rw [List.all_cons,hc];rfl);refine wpAny_Call_method (T0 rfl ..) (T3 hun (by show 1<20;decide)) hline F.plainAttrs_list F.slot_list_append F.type_list_append ?_;refine wpAny_Name (V5 x.fr hi (l8 hn).2 fun ov r=>?_) (l8 hn).1
 rw [hs] at r;refine z6 fun K0=>?_
 obtain ⟨z,a,vs,rfl,hw,hta,hl,hr⟩:=r;refine K0 ?_;clear K0;refine ⟨_,rfl,⟨_,hl.choose_spec,rfl⟩,fun b e=>by cases e;exact ⟨_,hl.choose_spec,rfl⟩,?_⟩
 refine Calls.callWith_builtin (hun cp).1 ?_;rw [Y3 hc];refine Calls.evalArgs_plain (Calls.spliced_cons (he.val x.fr (x.xc fx.g₀) x.tk hu _ _ fun rv s1 k1 t1 r1=>?_))
 refine Calls.spliced_nil ?_;have x1:=x.run fx.g₀ k1 t1;have hl1:=V8 k1.soft hta hl;have hr1:=VRs.kp k1 hr;refine wpAny_list_append_plain hl1 (fun h' hl' hsb=>?_) (by rw [List.size_toArray,hr1.length];exact Nat.le_trans z a8)
 refine z6 fun K0=>?_
 refine w7 (x1.grow fx.g₀ hw hs hl1 hl' hsb hr1 r1 hz :) fun x2 k2=>?_
 refine K0 ?_;clear K0;exact hQ _ _ ⟨rfl,ow,x2,(KS.kp k1 (x.kp.gs fx.g₀) ow).trans k2,fun _ _=>rfl⟩
theorem sst_whl {e:Expr} {pe:PE} {p:Pos} {b:List Stmt} {pb:List PS} (fx:Fx prog w A hb Γ c env s₀) (he:SE prog w A hb Γ c e pe) (hb':SSs prog w A hb Γ c env s₀ b pb):SSt prog w A hb Γ c env s₀ (.While e b [] p) (.whl pe pb):=by
 intro O₀ ow σ s x fl σ' h Q E hQ;replace h:b7 (fun σ=>y8 (z8 Γ pe .test σ)) (y7 Γ 0 pb) j4 σ=some (fl,σ'):=h
 refine wpAny_While (codeAny_whileLoop (fun n s'=>∃ σ1 ow1,b7 (fun σ=>y8 (z8 Γ pe .test σ)) (y7 Γ 0 pb) n σ1=some (fl,σ')∧SS hb s₀ c env O₀ ow1 σ1 s'∧KS s.heap ow s'.heap ow1∧∀ j,d5 pb j=false→ow1 j=ow j) (fun n s' hI=>?_) j4 ⟨σ,ow,h,x,.refl ..,fun _ _=>rfl⟩)
 refine z6 fun K0=>?_
 obtain ⟨σ1,ow1,h1,x1,k1,w1⟩:=hI;refine K0 ?_;clear K0
 cases n with
 | zero=>cases h1
 | succ n =>
  refine z6 fun K0=>?_
  obtain ⟨t,e1,h2⟩:=bind_some h1
  refine K0 ?_
  clear K0
  refine he.test x1.fr (x1.xc fx.g₀) x1.tk e1 _ _ fun s2 k2 t2=>?_
  have x2:=x1.run fx.g₀ k2 t2
  have k12:=k1.trans (.kp k2 (x1.kp.gs fx.g₀) ow1)
  cases t
  ·refine z6 fun K0=>?_
   obtain ⟨rfl,rfl⟩:=sPr h2;refine K0 ?_;clear K0;exact wpAny_execs_nil (hQ _ _ ⟨rfl,ow1,x2,k12,w1⟩)
  ·refine z6 fun K0=>?_
   obtain ⟨⟨f1,σ2⟩,e2,h3⟩:=bind_some h2;refine K0 ?_;clear K0;refine hb' O₀ ow1 σ1 s2 x2 _ _ e2 _ _ fun f s3 q=>?_
   cases f1 with
   | next=>obtain ⟨rfl,ow3,x3,k3,w3⟩:=q;exact ⟨n,Nat.lt_succ_self n,σ2,ow3,h3,x3,k12.trans k3,fun j hj=>(w3 j hj).trans (w1 j hj)⟩
   | cont=>obtain ⟨rfl,ow3,x3,k3,w3⟩:=q;exact ⟨n,Nat.lt_succ_self n,σ2,ow3,h3,x3,k12.trans k3,fun j hj=>(w3 j hj).trans (w1 j hj)⟩
   | brk=>cases h3;obtain ⟨rfl,ow3,x3,k3,w3⟩:=q;exact hQ _ _ ⟨rfl,ow3,x3,k12.trans k3,fun j hj=>(w3 j hj).trans (w1 j hj)⟩
   | ret v=>cases h3;obtain ⟨rv,rfl,q1,q2,q3⟩:=q;exact hQ _ _ ⟨rv,rfl,q1,q2,q3⟩
end
end Mine
namespace Mine
open PySem PyProof.Rows PySem.Spec
section
variable {prog:Program} {w:World} {A:Around} {hb:HB} {Γ:y9} {c:CT} {env:Env} {s₀ s:Shared} {O₀ O₁:Addr→Prop} {ow:Nat→Option Addr} {σ:z9}
theorem SS.shrink (x:SS hb s₀ c env O₁ ow σ s) (h:∀ b,O₀ b→O₁ b):SS hb s₀ c env O₀ ow σ s:=by
 have sub:∀ b,n7 O₀ ow b→n7 O₁ ow b:=fun b q=>q.imp (h b) id
 exact ⟨x.kp,x.fr.mono sub,fun a ha=>x.ok a (sub a ha),x.inj,x.fresh,fun i a q q'=>x.apart i a q (h a q'),x.tk,x.own⟩
theorem SS.turnIt (x:SS hb s₀ c env O₁ ow σ s) (g₀:GS hb s₀) {wr:List Addr} {h':Heap} {tk:Nat} (hO:∀ b∈wr,O₁ b) (its:∀ b∈wr,∃ o,s.heap.get? b=some o∧IsIt o) (hf:∀ b∈wr,s₀.heap.get? b=none)
  (hk:∀ b o,b ∉ wr→s.heap.get? b=some o→h'.get? b=some o) (tk':1≤tk) (sub:∀ b,O₀ b→O₁ b) (hal:∀ b,O₀ b→b∈wr→∃ o,h'.get? b=some o):SS hb s₀ c env O₀ ow σ { s with heap:=h',toks:=tk } := by
 have hw:∀ b o,b∈wr→s.heap.get? b=some o→IsIt o:=fun b o hb e=>by
  refine x12 (its b hb :) fun o' e' h=>?_
  rw [e] at e';cases e';exact h
 have hne:∀ i b,ow i=some b→b ∉ wr:=fun i b q q'=>x.apart i b q (hO b q')
 refine ⟨x.kp.turns (X:=(· ∈ wr)) g₀ (fun b o hb e=>hk b o hb e) (fun b hb=>hf b hb) fun b o hb e => .inl ⟨(hw b o hb e).nn,(hw b o hb e).ne (by decide)⟩,
  (x.fr.turn (X:=(· ∈ wr)) (fun b o hb e=>hk b o hb e) fun b o hb e=>⟨(hw b o hb e).1,.inl (hO b hb),fun i q=>hne i b q hb,(hw b o hb e).ne (by decide)⟩).mono fun b q=>q.imp (sub b) id,fun a ha=>?_,x.inj,x.fresh,fun i a q q'=>x.apart i a q (sub a q'),tk',x.own⟩
 refine w7 (x.ok a (ha.imp (sub a) id) :) fun h1 o0=>?_;refine Exists.elim o0 fun o h2=>?_
 by_cases haw:a∈wr
 ·rcases ha with ha | ⟨i,ha⟩
  ·exact ⟨h1,hal a ha haw⟩
  ·exact absurd haw (hne i a ha)
 ·exact ⟨h1,o,hk a o haw h2⟩
theorem ItW.item2 {tg:Expr} {I:Addr} {wr:List Addr} {xs:List PV} {St:Nat→Heap→(Addr→Prop)→Prop} (W:ItW prog w A tg I wr xs St) {i:Nat} {O:Addr→Prop} {x:PV} {Q:Value→Shared→Prop} {E1 E2:Value→Shared→Prop}
  (st:St i s.heap O) (hO:∀ b∈wr,O b) (ok:OkO O s.heap) (ht:x9<s.heap.objs.size) (hx:xs[i]?=some x) (tk:1≤s.toks)
  (h:∀ rv h' tk,St (i + 1) h' O→(∀ b o,b ∉ wr→s.heap.get? b=some o→h'.get? b=some o)→VR h' O x rv→1≤tk→Q rv { s with heap:=h',toks:=tk }) :
  wpAny (model prog w) A (pyNext (.ref I)) (fun r s₁=>match r with | none=>False | some v=>wpAny (model prog w) A (letOwnedTupleGo tg (.ref I) v) (fun _ s₂=>Q v s₂) E2 s₁) E1 s:=by
 refine wpAny_with_toks tk (wpAny_mono (W.item i s O x (fun v s₂=>1≤s₂.toks→Q v s₂) (fun _ _=>False) st hO ok ht hx fun rv h' tk st1 hk hv htk=>h rv h' tk st1 hk hv htk) (fun r s₁ h₁ htk=>?_) fun e s'' he=>he.elim)
 induction r with
 | none=>exact h₁.elim
 | some v=>exact wpAny_with_toks htk (wpAny_mono h₁ (fun _ _ q=>q) fun _ _ q=>q.elim)
theorem ItW.stepR {α:Type} {tg:Expr} {I:Addr} {wr:List Addr} {xs:List PV} {St:Nat→Heap→(Addr→Prop)→Prop} (W:ItW prog w A tg I wr xs St) {i:Nat} {O:Addr→Prop} {x:PV} {z:Sem α} {k:Value→Sem α} {hd:Value→Sem Unit} {Q:α→Shared→Prop} {E:Value→Shared→Prop}
  (st:St i s.heap O) (hO:∀ b∈wr,O b) (ok:OkO O s.heap) (ht:x9<s.heap.objs.size) (hx:xs[i]?=some x) (tk:1≤s.toks)
  (h:∀ rv h' tk,St (i + 1) h' O→(∀ b o,b ∉ wr→s.heap.get? b=some o→h'.get? b=some o)→VR h' O x rv→1≤tk→wpAny (model prog w) A (k rv) Q E { s with heap:=h',toks:=tk }) :
  wpAny (model prog w) A ((pyNext (.ref I)).onRaise hd >>= fun r=>match r with | none=>z | some v=>letOwnedTupleGo tg (.ref I) v >>= fun _=>k v) Q E s:=by
 refine wpAny_bind (wpAny_onRaise (wpAny_mono (W.item2 (Q:=fun v s₂=>wpAny (model prog w) A (k v) Q E s₂) (E1:=fun _ _=>False) (E2:=E) st hO ok ht hx tk h) (fun r s₁ h₁=>?_) fun _ _ q=>q.elim))
 induction r with
 | none=>exact h₁.elim
 | some v=>exact wpAny_bind h₁
theorem tg_own {tg:Expr} {t:Tgt} (fx:Fx prog w A hb Γ c env s₀) (ht:i5 c tg=some t):∀ n∈tgNames tg,OwnN s₀ env n:=by
 rcases N9 ht with ⟨n,p,i,rfl,hi,rfl⟩ | ⟨n,p,n',p',k,pp,i,j,rfl,hi,hj,rfl⟩
 ·intro m hm;rw [List.mem_singleton.mp hm];exact fx.own n i hi
 ·intro m hm;rcases List.mem_cons.mp hm with rfl | hm
  ·exact fx.own _ i hi
  ·rw [List.mem_singleton.mp hm];exact fx.own n' j hj
theorem for_loop {tg:Expr} {t:Tgt} {I:Addr} {wr:List Addr} {items:List PV} {St:Nat→Heap→(Addr→Prop)→Prop} {body:List Stmt} {pb:List PS} {s':Shared} (fx:Fx prog w A hb Γ c env s₀) (x:SS hb s₀ c env O₀ ow σ s)
  (ht:i5 c tg=some t) (hb':SSs prog w A hb Γ c env s₀ body pb) (W:ItW prog w A tg I wr items St) (k:Kp hb s s') (tk:1≤s'.toks) (st:St 0 s'.heap (fun b=>n7 O₀ ow b∨b∈wr)) (hwr:∀ b∈wr,s.heap.get? b=none)
  {fl:Fl} {σ':z9} (hgo:c7 t (y7 Γ 0 pb) items σ=some (fl,σ')) {R:Result→Shared→Prop}
  (hR:∀ f s'',Post hb s₀ c env O₀ ow s (d5 pb) fl σ' f s''→R (.ok f) s''):codeAny (model prog w) A (.forLoop tg (.ref I) body [] env) R s':=by
 have g₀:=fx.g₀;have gs:=x.kp.gs g₀;have hwO:∀ b∈wr,∀ i,ow i≠some b:=fun b hb i q=>by
  refine Exists.elim (x.alive q :) fun o e=>?_
  rw [hwr b hb] at e;cases e
 have hw0:∀ b∈wr,¬ O₀ b:=fun b hb q=>by
  refine w7 (x.ok b (.inl q) :) fun _ o0=>?_;refine Exists.elim o0 fun o e=>?_
  rw [hwr b hb] at e;cases e
 have hwf:∀ b∈wr,s₀.heap.get? b=none:=fun b hb=>Z4 x.kp g₀ (hwr b hb)
 have wt:∀ b∈wr,b≠x9:=fun b hb q=>by
  refine Exists.elim gs.tab.get fun o e=>?_
  rw [← q,hwr b hb] at e;cases e
 have x1:=x.run g₀ k tk;have sub:∀ b,O₀ b→O₀ b∨b∈wr:=fun b q => .inl q
 have xs:SS hb s₀ c env (fun b=>O₀ b∨b∈wr) ow σ s':=by
  refine ⟨x1.kp,(x.fr.grow fun b o e hO q=>?_).kp k,fun a ha=>?_,x1.inj,x1.fresh,fun i a q q'=>?_,tk,x1.own⟩
  ·rcases q with (q | q) | q
   ·exact hO (.inl q)
   ·rw [hwr b q] at e;cases e
   ·exact hO (.inr q)
  ·rcases ha with (ha | ha) | ha
   ·exact x1.ok a (.inl ha)
   ·refine x12 (W.its _ _ _ st a ha :) fun o e _=>?_
    exact ⟨wt a ha,o,e⟩
   ·exact x1.ok a (.inr ha)
  ·rcases q' with q' | q'
   ·exact x.apart i a q q'
   ·exact hwO a q' i q
 have st':St 0 s'.heap (n7 (fun b=>O₀ b∨b∈wr) ow):=W.frm _ _ _ _ _ st ⟨fun _ o e=>⟨o,e⟩,fun _ _ _ e _ _=>e,fun b o e hO q=>by
  rcases q with (q | q) | q
  ·exact hO (.inl (.inl q))
  ·exact hO (.inr q)
  ·exact hO (.inl (.inr q))⟩ (fun b hb => .inl (.inr hb)) fun _ _ _ e=>e
 refine codeAny_loop' rfl (fun n s''=>∃ j σ1 ow1,n=items.length + 1 - j∧j≤items.length∧c7 t (y7 Γ 0 pb) (items.drop j) σ1=some (fl,σ')∧SS hb s₀ c env (fun b=>O₀ b∨b∈wr) ow1 σ1 s''∧St j s''.heap (n7 (fun b=>O₀ b∨b∈wr) ow1) ∧
   KS s.heap ow s''.heap ow1∧∀ j,d5 pb j=false→ow1 j=ow j) (fun n s'' hI=>?_) (items.length + 1) ⟨0,σ,ow,rfl,Nat.zero_le _,hgo,xs,st',.kp k gs ow,fun _ _=>rfl⟩
 refine z6 fun K0=>?_
 obtain ⟨j,σ1,ow1,rfl,hj,h1,x2,st2,k2,w2⟩:=hI;refine K0 ?_;clear K0;show wpAny _ A ((forTurn tg (.ref I) body [] env).onRaise (fun x=>do noteFrame x env;theTreesLotGoes x)) _ _ s''
 refine wpAny_noted ?_;simp only [forTurn];refine wpAny_bind (wpAny_standAt ?_);have its:=W.its j s''.heap _ st2;have hwO1:∀ b∈wr,∀ i,ow1 i≠some b:=fun b hb i q=>x2.apart i b q (.inr hb)
 cases hx:items[j]? with
 | none =>
  rw [List.drop_eq_nil_of_le (by rw [List.getElem?_eq_none_iff] at hx;exact hx)] at h1
  refine z6 fun K0=>?_
  obtain ⟨rfl,rfl⟩:=sPr h1
  refine K0 ?_
  clear K0
  refine wpAny_bind (wpAny_onRaise (wpAny_with_toks x2.tk (W.done j s'' _ _ _ st2 hx hj fun h' tk' hk htk=>wpAny_pure (.inr ⟨rfl,codeAny_block (wpAny_execs_nil ?_)⟩))))
  have x3:=x2.turnIt (O₀:=O₀) g₀ (fun b hb => .inr hb) its hwf hk htk sub fun b q q'=>absurd q (hw0 b q')
  have ne:∀ b o,s.heap.get? b=some o→b ∉ wr:=fun b o e q=>by rw [hwr b q] at e;cases e
  exact hR _ _ ⟨rfl,ow1,x3,⟨fun b o e=>let ⟨o',e'⟩:=k2.alive b o e;⟨o',hk b o' (ne b o e) e'⟩,fun b o hb e hd hO=>hk b o (ne b o e) (k2.keep b o hb e hd hO),k2.thin⟩,w2⟩
 | some y =>
  rw [drop_cons hx] at h1
  refine z6 fun K0=>?_
  refine y4 h1 fun σ2 e2 h2=>?_
  refine K0 ?_
  clear K0
  refine W.stepR st2 (fun b hb => .inl (.inr hb)) x2.ok (x2.kp.gs g₀).tab.lt hx x2.tk fun rv h' tk' st3 hk hv htk=>?_
  ·have al:∀ b∈wr,∃ o,h'.get? b=some o:=fun b hb=>let ⟨o,e,_⟩:=W.its _ _ _ st3 b hb;⟨o,e⟩
   have x3:=x2.turnIt (O₀:=fun b=>O₀ b∨b∈wr) g₀ (fun b hb => .inr hb) its hwf hk htk (fun b q=>q) fun b _ q=>al b q
   have ne:∀ b o,s.heap.get? b=some o→b ∉ wr:=fun b o e q=>by rw [hwr b q] at e;cases e
   have k3:KS s.heap ow h' ow1:=⟨fun b o e=>let ⟨o',e'⟩:=k2.alive b o e;⟨o',hk b o' (ne b o e) e'⟩,fun b o hb e hd hO=>hk b o (ne b o e) (k2.keep b o hb e hd hO),k2.thin⟩
   refine wpAny_bind (wpAny_with_toks (n:=1) htk (N8 fx.cx.handled ht e2 x3.fr x3.kp g₀ (tg_own fx ht) hv fun h4 tk4 kp4 fm4 kh4 fr4 htk4=>?_))
   have x4:SS hb s₀ c env (fun b=>O₀ b∨b∈wr) ow1 σ2 { s'' with heap:=h4,toks:=tk4 } := ⟨kp4,fr4,x3.ok.frm fm4,x3.inj,x3.fresh,x3.apart,htk4,x3.own⟩
   have ks4:KS h' ow1 h4 ow1 := .keepH ow1 kh4 fm4.alive;have next:∀ s5 ow5 σ5,SS hb s₀ c env (fun b=>O₀ b∨b∈wr) ow5 σ5 s5→KS h4 ow1 s5.heap ow5→St (j + 1) s5.heap (n7 (fun b=>O₀ b∨b∈wr) ow5):=by
    intro s5 ow5 σ5 x5 k5;refine W.frm _ _ _ _ _ st3 ((ks4.trans k5).frm _) (fun b hb => .inl (.inr hb)) fun b hb o e=>?_
    obtain ⟨o',e',hit⟩:=W.its _ _ _ st3 b hb;rw [e] at e';cases e';exact (ks4.trans k5).keep b o (wt b hb) e hit.1 (hwO1 b hb)
   refine wpAny_bind ?_;refine z6 fun K0=>?_
   obtain ⟨⟨f1,σ5⟩,e5,h3⟩:=bind_some h2;refine K0 ?_;clear K0;refine hb' _ ow1 σ2 _ x4 _ _ e5 _ _ fun f s5 q=>?_
   induction f1 with
   | next =>
    refine z6 fun K0=>?_
    obtain ⟨rfl,ow5,x5,k5,w5⟩:=q
    refine K0 ?_
    clear K0
    exact wpAny_pure (.inl ⟨rfl,items.length + 1 - (j + 1),by have:=(List.getElem?_eq_some_iff.mp hx).1;lia,j + 1,σ5,ow5,rfl,(List.getElem?_eq_some_iff.mp hx).1,h3,x5,next s5 ow5 σ5 x5 k5,(k3.trans ks4).trans k5,fun i hi=>(w5 i hi).trans (w2 i hi)⟩)
   | cont =>
    refine z6 fun K0=>?_
    obtain ⟨rfl,ow5,x5,k5,w5⟩:=q
    refine K0 ?_
    clear K0
    exact wpAny_pure (.inl ⟨rfl,items.length + 1 - (j + 1),by have:=(List.getElem?_eq_some_iff.mp hx).1;lia,j + 1,σ5,ow5,rfl,(List.getElem?_eq_some_iff.mp hx).1,h3,x5,next s5 ow5 σ5 x5 k5,(k3.trans ks4).trans k5,fun i hi=>(w5 i hi).trans (w2 i hi)⟩)
   | brk =>
    refine z6 fun K0=>?_
    obtain ⟨rfl,rfl⟩:=sPr h3
    obtain ⟨rfl,ow5,x5,k5,w5⟩:=q
    refine K0 ?_
    clear K0
    exact wpAny_pure (hR _ _ ⟨rfl,ow5,x5.shrink sub,(k3.trans ks4).trans k5,fun i hi=>(w5 i hi).trans (w2 i hi)⟩)
   | ret v =>
    refine z6 fun K0=>?_
    obtain ⟨rfl,rfl⟩:=sPr h3
    obtain ⟨rv,rfl,q1,q2,q3⟩:=q
    refine K0 ?_
    clear K0
    exact wpAny_pure (hR _ _ ⟨rv,rfl,q1,q2,q3.mono (fun _ _ e _=>e) fun b _ _ q q'=>q (sub b q')⟩)
theorem sst_for {tg it:Expr} {t:Tgt} {k:IK} {a b:PE} {p:Pos} {body:List Stmt} {pb:List PS} (fx:Fx prog w A hb Γ c env s₀) (hit:SIt prog w A hb Γ c it k a b) (hset:∀ env x,foldedSetIterable it env x=pure x) (ht:i5 c tg=some t) (hfit:b4 k t=true)
  (hb':SSs prog w A hb Γ c env s₀ body pb):SSt prog w A hb Γ c env s₀ (.For tg it body [] p) (.for t k a b pb):=by
 intro O₀ ow σ s x fl σ' h Q E hQ;refine z6 fun K0=>?_
 refine y4 h fun u hu h1=>?_
 refine y4 h1 fun v hv h2=>?_
 refine y4 h2 fun items hi h3=>?_
 refine K0 ?_;clear K0;exact wpAny_For (hit env _ ow σ s x.fr (x.xc fx.g₀) x.tk u v items tg hu hv hi (Q9 ht hfit) _ _ fun I wr St s' k' t' W st hwr hlen=>for_loop fx x ht hb' W k' t' st hwr h3 fun f s'' q=>hQ f s'' q) (fun y=>hset env y)
end
end Mine
namespace Mine
open PySem PyProof.Rows PySem.Spec
section
variable {prog:Program} {w:World} {A:Around} {hb:HB} {Γ:y9} {c:CT} {env:Env} {s₀ s:Shared} {O₀ O₁:Addr→Prop} {ow:Nat→Option Addr} {σ:z9}
theorem SS.own_of (x:SS hb s₀ c env O₀ ow σ s) {n:Str} {i:Nat} {xs:List PV} (hi:c.slot n=some i) (hs:σ[i]?=some (.own xs)):xs.length≤small∧∃ a vs,ow i=some a∧a≠x9∧s.heap.PlainList a vs.toArray∧VRs s.heap (n7 O₀ ow) xs vs:=by
 have key:∀ ov,SlotR s.heap (n7 O₀ ow) ow i σ[i]? ov→xs.length≤small∧∃ a vs,ow i=some a∧a≠x9∧s.heap.PlainList a vs.toArray∧VRs s.heap (n7 O₀ ow) xs vs:=by
  intro ov r;rw [hs] at r;obtain ⟨z,a,vs,_,ho,ha,hl,hr⟩:=r;exact ⟨z,a,vs,ho,ha,hl,hr⟩
 rcases x.fr.fk.kinds n i hi with hk | hk
 ·obtain ⟨m,_,hr⟩:=x.fr.ns;exact key _ (hr n i hi hk)
 ·obtain ⟨a,_,_,ov,_,r⟩:=x.fr.cells n i hi hk;exact key ov r
theorem sst_forOwn {tg:Expr} {t:Tgt} {n:Str} {i:Nat} {pn p:Pos} {body:List Stmt} {pb:List PS} (fx:Fx prog w A hb Γ c env s₀) (hn:v7 n=true) (hi:c.slot n=some i) (ht:i5 c tg=some t) (hfit:b4 .plain t=true) (hset:d5 pb i=false)
  (hb':SSs prog w A hb Γ c env s₀ body pb):SSt prog w A hb Γ c env s₀ (.For tg (.Name n pn) body [] p) (.forOwn t i pb):=by
 intro O₀ ow σ s x fl σ' h Q E hQ;have g₀:=fx.g₀;replace h:V6 t i (y7 Γ 0 pb) 0 j4 σ=some (fl,σ'):=h;refine z6 fun K0=>?_
 refine x12 (bind_some (show (Y0 σ i).bind _=some (fl,σ') from h) :) fun ys0 hs0' _=>?_
 have hs0:=O6 hs0';refine w7 (x.own_of hi hs0 :) fun z0 o0=>?_;refine x24 o0 fun a vs0 hwa hta hl0 hr0=>?_
 refine K0 ?_;clear K0;refine wpAny_For (wpAny_Name (V5 x.fr hi (l8 hn).2 fun ov r=>?_) (l8 hn).1)
 rw [hs0] at r;refine z6 fun K0=>?_
 obtain ⟨_,a',vs',rfl,hwa',_,hl',_⟩:=r;refine K0 ?_;clear K0;rw [hwa] at hwa';cases hwa';refine ⟨_,rfl,wpAny_pyIter_list hl'.isList ?_⟩;have hDn:s.heap.get? s.heap.objs.size=none:=Z7 (Nat.le_refl _);generalize hI:s.heap.objs.size=I at *;have hk0:∀ b o,s.heap.get? b=some o→(s.heap.push { cls := .type "list_iterator",data := .fields #[.ref a,.int 0 0] }).get? b=some o:=fun b o e=>Heap.get?_push_of_some _ e
 have hIt:(s.heap.push { cls := .type "list_iterator",data := .fields #[.ref a,.int 0 0] }).IsListIter I a 0:=⟨_,hI▸Heap.get?_push_size _ rfl,rfl,rfl⟩;generalize s.heap.push { cls := .type "list_iterator",data := .fields #[.ref a,.int 0 0] } = H at *;have kp1:Kp hb s { s with heap:=H } := .keeps (tk:=s.toks) hk0;have hIO:¬ O₀ I:=fun q=>by refine w7 (x.ok I (.inl q) :) fun _ o0=>?_;refine Exists.elim o0 fun o e=>?_;rw [hDn] at e;cases e
 have hIw:∀ j,ow j≠some I:=fun j q=>by refine Exists.elim (x.alive q :) fun o e=>?_;rw [hDn] at e;cases e
 have hIt0:I≠x9:=fun q=>by refine Exists.elim ((x.kp.gs g₀).tab.get :) fun o e=>?_;rw [← q,hDn] at e;cases e
 have hIa:a≠I:=fun q=>by refine Exists.elim (x.alive hwa :) fun o e=>?_;rw [q,hDn] at e;cases e
 have x1:=x.run g₀ kp1 x.tk;have xs:SS hb s₀ c env (fun b=>O₀ b∨b∈[I]) ow σ { s with heap:=H } := by
  refine ⟨x1.kp,(x.fr.grow fun b o e hO q=>?_).kp kp1,fun a ha=>?_,x1.inj,x1.fresh,fun i a q q'=>?_,x.tk,x.own⟩
  ·rcases q with (q | q) | q
   ·exact hO (.inl q)
   ·rw [List.mem_singleton.mp q,hDn] at e;cases e
   ·exact hO (.inr q)
  ·rcases ha with (ha | ha) | ha
   ·exact x1.ok a (.inl ha)
   ·rw [List.mem_singleton.mp ha];refine x12 hIt fun o e _=>?_
    exact ⟨hIt0,o,e⟩
   ·exact x1.ok a (.inr ha)
  ·rcases q' with q' | q'
   ·exact x.apart i a q q'
   ·exact hIw i (List.mem_singleton.mp q'▸q)
 have sub:∀ b,O₀ b→O₀ b∨b∈[I]:=fun b q => .inl q
 have hf0:∀ b∈[I],s₀.heap.get? b=none:=fun b hb=>by rw [List.mem_singleton.mp hb];exact Z4 x.kp g₀ hDn
 refine codeAny_loop' rfl (fun n s''=>∃ j σ1 ow1,V6 t i (y7 Γ 0 pb) j n σ1=some (fl,σ')∧SS hb s₀ c env (fun b=>O₀ b∨b∈[I]) ow1 σ1 s''∧s''.heap.IsListIter I a j∧ow1 i=some a ∧
  KS s.heap ow s''.heap ow1∧∀ j,d5 pb j=false→ow1 j=ow j) (fun n s'' hI=>?_) j4 ⟨0,σ,ow,h,xs,hIt,hwa,.kp kp1 (x.kp.gs g₀) ow,fun _ _=>rfl⟩
 refine z6 fun K0=>?_
 refine x36 hI fun j σ1 ow1 h1 x2 hit hwi k2 w2=>?_
 refine K0 ?_;clear K0;show wpAny _ A ((forTurn tg (.ref I) body [] env).onRaise (fun x=>do noteFrame x env;theTreesLotGoes x)) _ _ s''
 refine wpAny_noted ?_;simp only [forTurn];refine wpAny_bind (wpAny_standAt (wpAny_bind (wpAny_onRaise ?_)));have its:∀ b∈[I],∃ o,s''.heap.get? b=some o∧IsIt o:=fun b hb=>by
  rw [List.mem_singleton.mp hb];refine x13 hit fun o ho hc hd=>?_
  exact ⟨o,ho,.fields hd (l5 hc (by decide)),_,hc,by decide⟩
 have ne:∀ b o,s.heap.get? b=some o→b≠I:=fun b o e q=>by rw [q,hDn] at e;cases e
 cases n with
 | zero=>cases h1
 | succ n =>
  refine z6 fun K0=>?_
  refine y4 h1 fun ys hs' h2=>?_
  have hs:=O6 hs'
  refine w7 (x2.own_of hi hs :) fun z o0=>?_;refine x24 o0 fun a2 vs hwa2 _ hl hr=>?_
  refine K0 ?_
  clear K0
  rw [hwi] at hwa2;obtain rfl:=Option.some.inj hwa2
  cases hx:ys[j]? with
  | none =>
   rw [hx] at h2
   refine z6 fun K0=>?_
   refine w7 (sPr h2 :) fun o0 o1=>?_;obtain rfl:=o0;obtain rfl:=o1
   refine K0 ?_
   clear K0
   refine wpAny_pyNext_list_end fx.cx.handled hit hl.isList ?_ fun h' he'=>wpAny_pure (.inr ⟨rfl,codeAny_block (wpAny_execs_nil (hQ _ _ ?_))⟩)
   ·rw [List.getElem?_toArray];rw [List.getElem?_eq_none_iff] at hx ⊢;rw [hr.length];exact hx
   ·have hk:∀ b o,b ∉ [I]→s''.heap.get? b=some o→h'.get? b=some o:=fun b o hb e=>he' b o (fun q=>hb (List.mem_singleton.mpr q)) e
    have x3:=x2.turnIt (O₀:=O₀) (tk:=s''.toks) g₀ (fun b hb => .inr hb) its hf0 hk x2.tk sub fun b q q'=>absurd (List.mem_singleton.mp q'▸q) hIO
    exact ⟨rfl,ow1,x3,⟨fun b o e=>let ⟨o',e'⟩:=k2.alive b o e;⟨o',he' b o' (ne b o e) e'⟩,fun b o hb e hd hO=>he' b o (ne b o e) (k2.keep b o hb e hd hO),k2.thin⟩,w2⟩
  | some y =>
   rw [hx] at h2
   refine z6 fun K0=>?_
   refine y4 h2 fun σ2 e2 h2'=>?_
   refine x12 (hr.get hx :) fun rv h3 h4=>?_
   refine K0 ?_
   clear K0
   refine wpAny_pyNext_list_item hit hl.isList (x:=rv) (by rw [List.getElem?_toArray];exact h3) fun h' hit' hs'=>?_
   have hk:∀ b o,b ∉ [I]→s''.heap.get? b=some o→h'.get? b=some o:=fun b o hb e=>hs'.extBut b o (fun q=>hb (List.mem_singleton.mpr q)) e
   have x3:=x2.turnIt (O₀:=fun b=>O₀ b∨b∈[I]) (tk:=s''.toks) g₀ (fun b hb => .inr hb) its hf0 hk x2.tk (fun b q=>q) fun b _ q=>by
    rw [List.mem_singleton.mp q];refine x12 hit' fun o ho _=>?_;exact ⟨o,ho⟩
   have al:Frm s''.heap (n7 (fun b=>O₀ b∨b∈[I]) ow1) h' (n7 (fun b=>O₀ b∨b∈[I]) ow1) := .turn (X:=(· ∈ [I])) (fun b o hb e=>hk b o hb e) (fun b q=>by rw [List.mem_singleton.mp q];refine x12 hit' fun o ho _=>?_;exact ⟨o,ho⟩) fun b o hb _ => .inl (.inl (.inr hb))
   have k3:KS s.heap ow h' ow1:=⟨fun b o e=>let ⟨o',e'⟩:=k2.alive b o e;⟨o',hs'.extBut b o' (ne b o e) e'⟩,fun b o hb e hd hO=>hs'.extBut b o (ne b o e) (k2.keep b o hb e hd hO),k2.thin⟩
   refine wpAny_bind (wpAny_of_eq (Q9 ht hfit _ _) ?_)
   refine wpAny_bind (wpAny_with_toks (n:=1) x2.tk (N8 fx.cx.handled ht e2 x3.fr x3.kp g₀ (tg_own fx ht) (h4.frm al) fun h5 tk5 kp5 fm5 kh5 fr5 htk5=>?_))
   have x5:SS hb s₀ c env (fun b=>O₀ b∨b∈[I]) ow1 σ2 { s'' with heap:=h5,toks:=tk5 } := ⟨kp5,fr5,x3.ok.frm fm5,x3.inj,x3.fresh,x3.apart,htk5,x3.own⟩
   have ks5:KS h' ow1 h5 ow1 := .keepH ow1 kh5 fm5.alive
   have next:∀ (s6:Shared) ow6,KS h5 ow1 s6.heap ow6→s6.heap.IsListIter I a (j + 1):=by
    intro s6 ow6 k6;refine x13 hit' fun o ho hc hd=>?_
    exact ⟨o,(ks5.trans k6).keep I o hIt0 ho (.fields hd (l5 hc (by decide))) (fun i q=>x2.apart i I q (.inr (List.mem_singleton.mpr rfl))),hc,hd⟩
   refine wpAny_bind ?_
   refine z6 fun K0=>?_
   refine y4 h2' fun o0 e6 h6=>?_;obtain ⟨f1,σ6⟩:=o0
   refine K0 ?_
   clear K0
   refine hb' _ ow1 σ2 _ x5 _ _ e6 _ _ fun f s6 q=>?_
   cases f1 with
   | next =>
    refine z6 fun K0=>?_
    obtain ⟨rfl,ow6,x6,k6,w6⟩:=q
    refine K0 ?_
    clear K0
    exact wpAny_pure (.inl ⟨rfl,n,Nat.lt_succ_self n,j + 1,σ6,ow6,h6,x6,next s6 ow6 k6,by rw [w6 i hset];exact hwi,(k3.trans ks5).trans k6,fun i hi=>(w6 i hi).trans (w2 i hi)⟩)
   | cont =>
    refine z6 fun K0=>?_
    obtain ⟨rfl,ow6,x6,k6,w6⟩:=q
    refine K0 ?_
    clear K0
    exact wpAny_pure (.inl ⟨rfl,n,Nat.lt_succ_self n,j + 1,σ6,ow6,h6,x6,next s6 ow6 k6,by rw [w6 i hset];exact hwi,(k3.trans ks5).trans k6,fun i hi=>(w6 i hi).trans (w2 i hi)⟩)
   | brk =>
    refine z6 fun K0=>?_
    refine w7 (sPr h6 :) fun o0 o1=>?_;obtain rfl:=o0;obtain rfl:=o1
    obtain ⟨rfl,ow6,x6,k6,w6⟩:=q
    refine K0 ?_
    clear K0
    exact wpAny_pure (hQ _ _ ⟨rfl,ow6,x6.shrink sub,(k3.trans ks5).trans k6,fun i hi=>(w6 i hi).trans (w2 i hi)⟩)
   | ret v =>
    refine z6 fun K0=>?_
    refine w7 (sPr h6 :) fun o0 o1=>?_;obtain rfl:=o0;obtain rfl:=o1
    obtain ⟨rv,rfl,q1,q2,q3⟩:=q
    refine K0 ?_
    clear K0
    exact wpAny_pure (hQ _ _ ⟨rv,rfl,q1,q2,q3.mono (fun _ _ e _=>e) fun b _ _ q q'=>q (sub b q')⟩)
end
end Mine
namespace Mine
open PySem PyProof.Rows PySem.Spec
section
variable {prog:Program} {w:World} {A:Around} {E:Value→Shared→Prop} {s:Shared}
theorem zaa:isSubtype (.type "list") (.type "module")=pure false:=by rw [isSubtype_type];kernel_rfl
theorem check_app {a:Addr} {x:Value} {vs:Array Value} {Q:Unit→Shared→Prop} (hl:s.heap.PlainList a vs) (h:Q () s):wpAny (model prog w) A (checkBoundCall "list.append" ⟨[.ref a,x],[]⟩) Q E s:=by
 have hT:s.TypeIs (.ref a) "list" := hl.isList.typeIs;refine Exists.elim hl fun n ho=>?_
 unfold checkBoundCall;rw [signature?_of (id := "list.append") (n:=['d','n','e','p','p','a']) (o:=['t','s','i','l']) (by kernel_rfl) F.owner_list];have hs:=zaa;have hk:builtinKind "list.append" = some .method:=by kernel_rfl
 rw [hk];refine wpAny_ite ?_;rw [if_neg (by decide)];refine wpAny_bind (wpAny_isInstance hT zaa ?_);refine wpAny_ite ?_;rw [if_neg (by decide +kernel)];refine wpAny_bind ?_;refine wpAny_bind (wpAny_loadPart ho (wpAny_pure ?_));dsimp only;rw [if_neg (by decide)];refine wpAny_bind (wpAny_typeOf hT ?_);refine wpAny_of_eq (a:=()) ?_ h
 kernel_rfl
theorem call_app {a b:Addr} {x:Value} {vs:Array Value} {Q:Value→Shared→Prop} (hb:AppObj s.heap b a) (hl:s.heap.PlainList a vs) (hz:vs.size≤sizeLine)
  (hQ:∀ h',h'.PlainList a (vs.push x)→Heap.SameBut a s.heap h'→Q .none { s with heap:=h' }):wpAny (model prog w) A (call (.ref b) [x]) Q E s:=by
 refine z6 fun K0=>?_
 obtain ⟨o,fs,ho,hc,hd,h0,h1⟩:=hb;refine K0 ?_;clear K0;refine wpAny_call (codeAny_of_tree ?_);refine wpAny_bind (m:=load b) (wpAny_load ho ?_);rw [hd];dsimp only;rw [hc,if_pos (by decide),h0,h1];dsimp only;rw [if_pos (by decide)];refine wpAny_bind (check_app hl ?_);refine wpAny_bind (wpAny_pure (wpAny_pure ⟨Code.quiet_builtin _ (by decide +kernel),codeAny_builtin entry_list_append ?_⟩));refine Exists.elim hl fun n hD=>?_
 show wpAny _ _ (updateSeq a (·.push x) >>= fun _=>ret .none) _ _ s
 refine wpAny_bind ?_;refine wpAny_updateSeq hD rfl (wpAny_pure (hQ _ ⟨n + 1,?_⟩ (Heap.SameBut.update ..)));rw [Heap.get?_update_self _ hD (by rw [Obj.mapSeq_push_plain];rfl),Obj.mapSeq_push_plain]
theorem zaf {pos:Pos} {b a:Addr} {args:List (Bool × Sem Value)} {Q:Value→Shared→Prop} (hplain:args.any (·.1)=false)
  (h:wpAny (model prog w) A (evalArgs (.ref b) true args []) (fun x s₁=>AppObj s₁.heap b a∧wpAny (model prog w) A (call (.ref b) x.pos x.kw) Q E s₁) E s):wpAny (model prog w) A (callWith pos (.ref b) [] args []) Q E s:=by
 refine wpAny_bind (wpAny_holding (wpAny_mono h (fun x s₁ h₁=>wpAny_bind (wpAny_standAt ?_)) fun _ _ x=>x))
 refine z6 fun K0=>?_
 refine w7 h₁ fun o0 hcall=>?_;obtain ⟨o,fs,ho,hc,hd,h0,h1⟩:=o0
 refine K0 ?_;clear K0;simp only [hplain,List.any_nil,Bool.or_false];refine wpAny_bind (m:=keeperOf (.ref b)) ?_;refine wpAny_bind (wpAny_load ho ?_);rw [hd];dsimp only;rw [hc,if_pos (by decide),if_pos (by decide)];refine wpAny_pure ?_;exact wpAny_bind (wpAny_mono hcall (fun r s₂ hr=>wpAny_bind (wpAny_holding (wpAny_point (wpAny_pure hr)))) fun _ _ x=>x)
end
section
variable {prog:Program} {w:World} {A:Around} {hb:HB} {Γ:y9} {c:CT} {env:Env} {s₀ s:Shared} {O₀ O₁:Addr→Prop} {ow:Nat→Option Addr} {σ:z9}
theorem sst_pushA {n:Str} {i:Nat} {v:Expr} {pe:PE} {px cp p:Pos} (fx:Fx prog w A hb Γ c env s₀) (hn:v7 n=true) (hi:c.slot n=some i) {m:Str} {r:Nat} (hm:c.slot m=some r) (hc:j7 v=true) (he:SE prog w A hb Γ c v pe) :
  SSt prog w A hb Γ c env s₀ (.Expr (.Call (.Name n px) [v] [] cp) p) (.pushA i r pe):=by
 intro O₀ ow σ s x fl σ' h Q E hQ;refine z6 fun K0=>?_
 refine y4 h fun r' hsr' h1=>?_
 refine v9 h1 fun o0 h2=>?_;obtain rfl:=o0
 refine y4 h2 fun u hu h3=>?_
 refine y4 h3 fun xs hs' h4=>?_
 refine v9 h4 fun hz h5=>?_
 refine w7 (sPr h5 :) fun o0 o1=>?_;obtain rfl:=o0;obtain rfl:=o1
 refine K0 ?_;clear K0;have hsr:=appAt_ok hsr';have hs:=O6 hs';have hint:interactive env=false:=by unfold interactive;rw [x.fr.fk.kind];rfl
 refine wpAny_Expr ?_ hint rfl;refine wpAny_Call_NameR (wpAny_Name (V5 x.fr hi (l8 hn).2 fun ov q=>?_) (l8 hn).1)
 rw [hsr] at q;refine z6 fun K0=>?_
 obtain ⟨b,rfl,hbt,happ⟩:=q;refine w7 (x.own_of hm hs :) fun z o0=>?_;refine x24 o0 fun a vs hw hta hl hr=>?_
 refine K0 ?_;clear K0;have happ:=happ a hw;refine ⟨_,rfl,?_⟩;have hun:U2 env [v]:=W0 (by rw [List.all_cons,hc];rfl);refine zaf (a:=a) (hun cp).1 ?_;rw [Y3 hc];refine Calls.evalArgs_plain (Calls.spliced_cons (he.val x.fr (x.xc fx.g₀) x.tk hu _ _ fun rv s1 k1 t1 r1=>?_))
 refine Calls.spliced_nil ?_;have x1:=x.run fx.g₀ k1 t1;have hl1:=V8 k1.soft hta hl;have hr1:=VRs.kp k1 hr;refine ⟨happ.soft k1.soft hbt,call_app (happ.soft k1.soft hbt) hl1 (by rw [List.size_toArray,hr1.length];exact Nat.le_trans z a8) fun h' hl' hsb=>?_⟩
 refine z6 fun K0=>?_
 refine w7 (x1.grow fx.g₀ hw hs hl1 hl' hsb hr1 r1 hz :) fun x2 k2=>?_
 refine K0 ?_;clear K0;exact hQ _ _ ⟨rfl,ow,x2,(KS.kp k1 (x.kp.gs fx.g₀) ow).trans k2,fun _ _=>rfl⟩
end
end Mine
namespace Mine
open PySem PyProof.Rows PySem.Spec
theorem slot_md_get:PySem.Slot "method_descriptor" "__get__" "method_descriptor.__get__" :=
 .of (owner := "method_descriptor") (n := "__get__") (by rw [typeLookup_type,builtinLookup_eq_fast];kernel_rfl) (by decide +kernel) (by decide +kernel) (by decide +kernel)
  (by first | exact .inl (by decide +kernel) | exact .inr (by decide +kernel)) (by rw [isSubtype_type];kernel_rfl)
theorem entry_md_get:entryFor table "method_descriptor.__get__" = some Builtin.«method_descriptor.__get__» := entryFor_of_tree (by kernel_rfl)
theorem args_md_get (a b c:Value):argsOk "method_descriptor.__get__" ⟨[a,b,c],[]⟩:=by unfold argsOk;kernel_rfl
theorem lk_md_set:typeLookup (.type "method_descriptor") "__set__" = pure none:=by rw [typeLookup_type,builtinLookup_eq_fast];kernel_rfl
theorem lk_md_del:typeLookup (.type "method_descriptor") "__delete__" = pure none:=by rw [typeLookup_type,builtinLookup_eq_fast];kernel_rfl
theorem zal:typeLookup (.type "list") "append" = pure (some (.builtin "list.append")):=by rw [typeLookup_type,builtinLookup_eq_fast];kernel_rfl
section
variable {prog:Program} {w:World} {A:Around} {E:Value→Shared→Prop} {h:Heap} {g:Array GenState} {d:Drawn} {t:Nat} {os:OsState} {a:Addr} {o:Obj}
theorem sub_list_list:isSubtype (.type "list") (.type (".".intercalate ("list.append".cutAt '.').dropLast))=pure true:=by
 rw [show ".".intercalate ("list.append".cutAt '.').dropLast = "list" by first | decide +kernel | (simp +decide [String.cutAt])];rw [isSubtype_type];kernel_rfl
theorem app_get {R:Result→Shared→Prop} {vs:Array Value} {n:Nat} (hx:h.get? a=some { cls := .type "list",data := .seq vs n }) (hq:R (.ok (.ret (.ref h.objs.size))) ⟨h.push { cls := .type "builtin_function_or_method",data := .fields #[.builtin "list.append",.ref a] },g,d,t,os⟩) :
  codeAny (model prog w) A (.call (.builtin "method_descriptor.__get__") ⟨[.builtin "list.append",.ref a,.type "list"],[]⟩) R ⟨h,g,d,t,os⟩:=by
 have hT:(⟨h,g,d,t,os⟩:Shared).TypeIs (.ref a) "list" := ⟨_,hx,rfl⟩;have hT5:(⟨h,g,d,t,os⟩:Shared).TypeIs (.builtin "list.append") "method_descriptor" := F.type_list_append;have f8:=sub_list_list;refine codeAny_call_builtin slot_md_get.plain entry_md_get (slot_md_get.check _ _ _ _ _ _ _ _ hT5 (args_md_get _ _ _) ?_)
 repeat (any_goals (first | assumption | wp_step))
theorem app_entry {tk:Tok} {Q:Fin→Shared→Prop} {vs:Array Value} {n:Nat} (hx:h.get? a=some { cls := .type "list",data := .seq vs n }) (hq:Q (.done (.ret (.ref h.objs.size))) ⟨h.push { cls := .type "builtin_function_or_method",data := .fields #[.builtin "list.append",.ref a] },g,d,t,os⟩) :
  wpAny (model prog w) A (Builtin.«object.__getattribute__» ⟨[.ref a,.str "append" tk],[]⟩) Q E ⟨h,g,d,t,os⟩:=by
 have hT:(⟨h,g,d,t,os⟩:Shared).TypeIs (.ref a) "list" := ⟨_,hx,rfl⟩;have hT5:(⟨h,g,d,t,os⟩:Shared).TypeIs (.builtin "list.append") "method_descriptor" := F.type_list_append;have f4:=zal;have f5:=F.type_list_append;have f6:=slot_md_get.lookup;have f7:=lk_md_set;have f8:=lk_md_del
 repeat (any_goals (first | assumption | wp_step))
 refine app_get hx ?_
 repeat (any_goals (first | assumption | wp_step))
theorem app_call {tk:Tok} {R:Result→Shared→Prop} {vs:Array Value} {n:Nat} (hx:h.get? a=some { cls := .type "list",data := .seq vs n }) (hq:R (.ok (.ret (.ref h.objs.size))) ⟨h.push { cls := .type "builtin_function_or_method",data := .fields #[.builtin "list.append",.ref a] },g,d,t,os⟩) :
  codeAny (model prog w) A (.call (.builtin "list.__getattribute__") ⟨[.ref a,.str "append" tk],[]⟩) R ⟨h,g,d,t,os⟩ :=
 codeAny_call_builtin F.slot_list_getattribute.plain F.entry_list_ga (F.slot_list_getattribute.check _ _ _ _ _ _ _ _ (show (⟨h,g,d,t,os⟩:Shared).TypeIs (.ref a) "list" from ⟨_,hx,rfl⟩) (F.args_list_getattribute_2 _ _) (app_entry hx hq))
theorem app_by {tk:Tok} {Q:Value→Shared→Prop} {vs:Array Value} {n:Nat} (hx:h.get? a=some { cls := .type "list",data := .seq vs n }) (hq:Q (.ref h.objs.size) ⟨h.push { cls := .type "builtin_function_or_method",data := .fields #[.builtin "list.append",.ref a] },g,d,t,os⟩) :
  wpAny (model prog w) A (getAttrBy (.ref a) (.str "append" tk) true true) Q E ⟨h,g,d,t,os⟩:=by
 have hT:(⟨h,g,d,t,os⟩:Shared).TypeIs (.ref a) "list" := ⟨_,hx,rfl⟩;have f2:=F.slot_list_getattribute.lookup;have f3:=F.slot_list_getattribute.bind (.ref a)
 repeat (any_goals (first | assumption | wp_step))
 refine app_call hx ?_
 repeat (any_goals (first | assumption | wp_step))
theorem app_attr {Q:Value→Shared→Prop} {vs:Array Value} {n:Nat} (hx:h.get? a=some { cls := .type "list",data := .seq vs n }) (hq:Q (.ref h.objs.size) ⟨h.push { cls := .type "builtin_function_or_method",data := .fields #[.builtin "list.append",.ref a] },g,d,t + 1,os⟩) :
  wpAny (model prog w) A (getAttr (.ref a) "append" true) Q E ⟨h,g,d,t,os⟩:=by
 unfold getAttr
 repeat (any_goals (first | assumption | with_reducible apply app_by hx | wp_step))
end
end Mine
namespace Mine
open PySem PyProof.Rows PySem.Spec
section
variable {prog:Program} {w:World} {A:Around} {hb:HB} {Γ:y9} {c:CT} {env:Env} {s₀ s:Shared} {O₀ O₁:Addr→Prop} {ow:Nat→Option Addr} {σ:z9}
theorem sst_app {n y:Str} {i j:Nat} {px py pa p:Pos} (fx:Fx prog w A hb Γ c env s₀) (hn:v7 y=true) (hi:c.slot n=some i) (hj:c.slot y=some j):SSt prog w A hb Γ c env s₀ (.Assign [.Name n px] (.Attribute (.Name y py) ("append" : Str) pa) p) (.app i j):=by
 intro O₀ ow σ s x fl σ' h Q E hQ;refine z6 fun K0=>?_
 refine y4 h fun xs hs' h1=>?_
 refine ifn_k h1 fun hne h2=>?_
 refine w7 (sPr h2 :) fun o0 o1=>?_;obtain rfl:=o0;obtain rfl:=o1
 refine K0 ?_;clear K0;have hs:=O6 hs';refine wpAny_with_toks x.tk ?_;rw [exec_Assign_Name _ _ _ _ _ rfl];refine wpAny_bind (wpAny_standAt (wpAny_bind (Attribute_name (wpAny_Name (V5 x.fr hj (l8 hn).2 fun ov r=>?_) (l8 hn).1))))
 rw [hs] at r;refine z6 fun K0=>?_
 obtain ⟨z,a,vs,rfl,hw,hta,⟨m,hl⟩,hr⟩:=r;refine K0 ?_;clear K0;refine ⟨_,rfl,app_attr hl ?_⟩;generalize hH:s.heap.push { cls := .type "builtin_function_or_method",data := .fields #[.builtin "list.append",.ref a] } = H
 have hk:∀ b o,s.heap.get? b=some o→H.get? b=some o:=fun b o e=>hH▸Heap.get?_push_of_some _ e
 have hB:H.get? s.heap.objs.size=some { cls := .type "builtin_function_or_method",data := .fields #[.builtin "list.append",.ref a] } := hH▸Heap.get?_push_size _ rfl
 have kp1:Kp hb s { s with heap:=H,toks:=s.toks + 1 } := .keeps hk;have xc:=x.xc fx.g₀;have x1:=x.run fx.g₀ kp1 (Nat.le_succ_of_le x.tk);refine wpAny_bind (wpAny_standAt (wpAny_bind (wpAny_bindName (J2 (sl := .app j) (x1.fr.less (less_set σ i)) hi x1.kp fx.g₀ (fx.own n i hi) ⟨s.heap.objs.size,rfl,xc.off,fun a' q=>?_⟩ fun h' tk k1 k2 k3 k4 k5=>wpAny_pure fun tk'=>?_))))
 ·rw [hw] at q;obtain rfl:=Option.some.inj q;exact ⟨_,_,hB,rfl,rfl,rfl,rfl⟩
 ·exact hQ _ _ ⟨rfl,ow,⟨k1,k4,x1.ok.frm k2,x1.inj,x1.fresh,x1.apart,tk',x1.own⟩,(KS.kp kp1 (x.kp.gs fx.g₀) ow).trans (.keepH ow k3 k2.alive),fun _ _=>rfl⟩
end
end Mine
namespace Mine
open PySem PyProof.Rows PySem.Spec
theorem K6 (σ:z9) (i:Nat) (v:PV) (k:Nat):(z7 σ i (.val v))[k]?=if k=i then (if k<σ.length then some (Mine.Slot.val v) else none) else (σ[k]?).map fun t=>match t with | .app r=>if r=i then Mine.Slot.unset else t | t=>t:=by
 unfold z7;by_cases h:k=i
 ·subst h;rw [if_pos rfl];by_cases hk:k<σ.length
  ·rw [if_pos hk,List.getElem?_set_self (by rw [List.length_map];exact hk)]
  ·rw [if_neg hk,List.getElem?_eq_none];rw [List.length_set,List.length_map];lia
 ·rw [if_neg h,List.getElem?_set_ne (Ne.symm h),List.getElem?_map]
  first | done | rfl | (congr 1;done) | (congr 1;funext t;cases t <;> rfl)
theorem B9 (σ:z9) (i:Nat) (s:Mine.Slot):(z7 σ i s).length=σ.length:=by
 unfold z7;rw [List.length_set,List.length_map]
theorem setSlot_comm (σ:z9) {i j:Nat} (h:i≠j) (u v:PV):z7 (z7 σ i (.val u)) j (.val v)=z7 (z7 σ j (.val v)) i (.val u):=by
 apply List.ext_getElem?;intro k;rw [K6,K6,K6,K6,B9,B9];by_cases h1:k=j
 ·subst h1;rw [if_pos rfl,if_neg (Ne.symm h),if_pos rfl];by_cases hk:k<σ.length
  ·rw [if_pos hk];rfl
  ·rw [if_neg hk];rfl
 ·rw [if_neg h1];by_cases h2:k=i
  ·subst h2;rw [if_pos rfl,if_pos rfl];by_cases hk:k<σ.length
   ·rw [if_pos hk];rfl
   ·rw [if_neg hk];rfl
  ·rw [if_neg h2,if_neg h2,if_neg h1]
   cases σ[k]? with
   | none=>rfl
   | some t =>
    induction t with
    | app r =>
     by_cases hr:r=i <;> by_cases hr':r=j <;> simp [hr,hr',h,Ne.symm h]
     all_goals (try (subst hr;simp [hr']))
     all_goals (try (subst hr';simp [hr]))
    | _=>rfl
section
variable {prog:Program} {w:World} {A:Around} {hb:HB} {Γ:y9} {c:CT} {env:Env} {s₀ s:Shared} {O₀ O₁:Addr→Prop} {ow:Nat→Option Addr} {σ:z9}
noncomputable def swK (b a:Bool) (o1 o2:Option Str) (f s:Bool):Sem (Option (List Str)) :=
 if (!((2:Nat) == 2 || (2:Nat) == 3) || (2:Nat) != 2 || b)=true then pure none else if a=true then pure none else
 if (([o1,o2].filterMap fun x=>x).length != 2 || ([o1,o2].filterMap fun x=>x).eraseDups.length != ([o1,o2].filterMap fun x=>x).length)=true then pure none else
 if f=true then pure none else if s=true then unsupported "assign.tuple-of-constant-expressions:order-of-the-stores" else pure (some ([o1,o2].filterMap fun x=>x))
theorem swK_of {n1 n2:Str} {a f c1 c2:Bool} : swK false a (if c1=true then some n1 else none) (if c2=true then some n2 else none) f false=pure none∨swK false a (if c1=true then some n1 else none) (if c2=true then some n2 else none) f false=pure (some [n1,n2]):=by
 induction a with
 | true=>exact .inl rfl
 | false=>cases c1 with
  | false=>cases c2 <;> exact .inl rfl
  | true=>cases c2 with
   | false=>exact .inl rfl
   | true =>
    show (if (false || [n1,n2].eraseDups.length != 2)=true then pure none else if f=true then pure none else pure (some [n1,n2]))=pure none∨(if (false || [n1,n2].eraseDups.length != 2)=true then pure none else if f=true then pure none else pure (some [n1,n2]))=pure (some [n1,n2])
    cases (false || [n1,n2].eraseDups.length != 2) with
    | true=>exact .inl rfl
    | false=>cases f with
     | true=>exact .inl rfl
     | false=>exact .inr rfl
theorem swapped_of {n1 n2:Str} {p1 p2 tp vp:Pos} {k k2:Nat} {a b:Expr} (hk:env.scope.kind = .function) (ha:∀ e q,a ≠ .Starred e q) (hb':∀ e q,b ≠ .Starred e q) (hcon:[a,b].all (constantsAlone 8)=false) :
  swappedStores [.Tuple [.Name n1 p1,.Name n2 p2] k tp] (.Tuple [a,b] k2 vp) env=pure none∨swappedStores [.Tuple [.Name n1 p1,.Name n2 p2] k tp] (.Tuple [a,b] k2 vp) env=pure (some [n1,n2]):=by
 have hbk:(env.blockKind != .function)=false:=by unfold Env.blockKind;rw [hk];rfl
 rw [show swappedStores [.Tuple [.Name n1 p1,.Name n2 p2] k tp] (.Tuple [a,b] k2 vp) env=swK (env.blockKind != .function) _ (if (env.kindOf n1 == some .local && p1.line == p1.line)=true then some n1 else none) (if (env.kindOf n2 == some .local && p2.line == p1.line)=true then some n2 else none) ([a,b].all (foldedForSure 8)) ([a,b].all (constantsAlone 8)) from rfl,hbk,hcon]
 exact swK_of
theorem sst_tup2 {n1 n2:Str} {i j:Nat} {p1 p2 tp vp p:Pos} {k k2:Nat} {a b:Expr} {pa pb:PE} (fx:Fx prog w A hb Γ c env s₀) (hi:c.slot n1=some i) (hj:c.slot n2=some j) (sa:j7 a=true) (sb:j7 b=true) (ha:SE prog w A hb Γ c a pa) (hb':SE prog w A hb Γ c b pb) (hcon:[a,b].all (constantsAlone 8)=false) :
  SSt prog w A hb Γ c env s₀ (.Assign [.Tuple [.Name n1 p1,.Name n2 p2] k tp] (.Tuple [a,b] k2 vp) p) (.tup2 i j pa pb):=by
 intro O₀ ow σ s x fl σ' h Q E hQ;refine z6 fun K0=>?_
 refine y4 h fun u hu h1=>?_
 refine y4 h1 fun v hv h2=>?_
 refine ifn_k h2 fun hne h3=>?_
 obtain ⟨rfl,rfl⟩:=sPr h3;refine K0 ?_;clear K0;have he:SE prog w A hb Γ c (.Tuple [a,b] k2 vp) (.tpl [pa,pb]):=se_tpl (by show 2≤64;decide) ⟨by rw [List.all_cons,sa,List.all_cons,sb];rfl,rfl⟩ (O9 sa ha (O9 sb hb' ses_nil));have hval:z8 Γ (.tpl [pa,pb]) .val σ=some (.tup [u,v]):=by
  show fin .val ((m6 Γ [pa,pb] σ).map .tup)=_;rw [m6,hu,m6,hv];rfl
 have na:∀ e q,a ≠ .Starred e q:=fun e q h=>by subst h;exact absurd sa Bool.false_ne_true
 have nb:∀ e q,b ≠ .Starred e q:=fun e q h=>by subst h;exact absurd sb Bool.false_ne_true
 rcases swapped_of (env:=env) (n1:=n1) (n2:=n2) (p1:=p1) (p2:=p2) (tp:=tp) (vp:=vp) (k:=k) (k2:=k2) x.fr.fk.kind na nb hcon with hw | hw
 ·refine Assign_Tuple ?_ rfl hw;refine he.val x.fr (x.xc fx.g₀) x.tk hval _ _ fun rv s1 k1 t1 r1=>?_
  have x1:=x.run fx.g₀ k1 t1;have ht:i5 c (.Tuple [.Name n1 p1,.Name n2 p2] k tp)=some (.two i j):=by show two (c.slot n1) (c.slot n2) Tgt.two=_;rw [hi,hj];rfl
  refine wpAny_with_toks t1 (N8 fx.cx.handled ht (σ1:=z7 (z7 σ i (.val u)) j (.val v)) rfl x1.fr x1.kp fx.g₀ (tg_own fx ht) r1 fun h2 tk2 kp2 fm2 kh2 fr2 htk2=>?_)
  exact hQ _ _ ⟨rfl,ow,⟨kp2,fr2,x1.ok.frm fm2,x1.inj,x1.fresh,x1.apart,htk2,x1.own⟩,(KS.kp k1 (x.kp.gs fx.g₀) ow).trans (.keepH ow kh2 fm2.alive),fun _ _=>rfl⟩
 ·refine Assign_Tuple_swapped ?_ rfl hw;refine he.val x.fr (x.xc fx.g₀) x.tk hval _ _ fun rv s1 k1 t1 r1=>?_
  have x1:=x.run fx.g₀ k1 t1;refine z6 fun K0=>?_
  obtain ⟨_,T,vs,rfl,_,_,⟨o,ho,hc,nn,hd⟩,va,_,rfl,ra,vb,_,rfl,rb,rfl⟩:=r1;refine K0 ?_;clear K0;refine wpAny_unpackItems_tuple (items := #[va,vb]) fx.cx.handled ⟨o,ho,hc,nn,hd⟩ fun h3 hx3=>?_
  have hk3:∀ b o,s1.heap.get? b=some o→h3.get? b=some o:=fun b o e=>hx3 b o (Nat.ne_of_lt (Heap.lt_size e)) e
  have kp3:Kp hb s1 { s1 with heap:=h3 } := .keeps (tk:=s1.toks) hk3;have x3:=x1.run fx.g₀ kp3 t1;refine wpAny_bind (wpAny_holding (wpAny_bindName (U0 fx x3 hj (VR.kp kp3 rb) fun s4 x4 k4 _=>?_)))
  refine wpAny_bind (wpAny_holding (wpAny_bindName (U0 fx x4 hi ((VR.kp kp3 ra).frm (k4.frm O₀)) fun s5 x5 k5 _=>wpAny_pure ?_)))
  refine hQ _ _ ⟨rfl,ow,?_,((KS.kp (k1.trans kp3) (x.kp.gs fx.g₀) ow).trans k4).trans k5,fun _ _=>rfl⟩
  rw [setSlot_comm _ hne];exact x5
end
end Mine
namespace Mine
open PySem PyProof.Rows PySem.Spec
theorem triples_inv {l:List Value} (h:TriplesOk l):l=[]∨∃ a s b t z rest,l = .int a s :: .int b t::z::rest∧TriplesOk rest:=by
 cases l with
 | nil=>exact .inl rfl
 | cons v l=>cases v with
  | int a s=>cases l with
   | nil=>exact False.elim h
   | cons v l=>cases v with
    | int b t=>cases l with
     | nil=>exact False.elim h
     | cons z rest=>exact .inr ⟨a,s,b,t,z,rest,rfl,h⟩
    | _=>exact False.elim h
  | _=>exact False.elim h
theorem codeAmong_app {pos:Pos} {i j:Int} {u v:Tok} {c:Value} : ∀ (n:Nat) (l:List Value) {r:Value},l.length≤n→TriplesOk l→codeAmong pos (l ++ [.int i u,.int j v,c])=some r→codeAmong pos l=some r∨r=c:=by
 intro n
 induction n with
 | zero =>
  intro l r hn _ q
  obtain rfl:=List.eq_nil_of_length_eq_zero (Nat.le_zero.mp hn)
  exact .inr (Option.some.inj (d0 (show (if (i == pos.line && j == pos.col)=true then some c else none)=some r from q)).2).symm
 | succ n ih =>
  intro l r hn h q
  rcases triples_inv h with rfl | ⟨a,s,b,t,z,rest,rfl,h'⟩
  ·exact .inr (Option.some.inj (d0 (show (if (i == pos.line && j == pos.col)=true then some c else none)=some r from q)).2).symm
  ·rcases Z9 (show (if (a == pos.line && b == pos.col)=true then some z else codeAmong pos (rest ++ [.int i u,.int j v,c]))=some r from q) with ⟨hc,e⟩ | ⟨hc,e⟩
   ·exact .inl ((if_pos hc).trans e)
   ·exact (ih rest (Nat.le_trans (Nat.le_add_right _ 2) (Nat.le_of_succ_le_succ hn)) h' e).imp_left fun e=>(if_neg hc).trans e
section
variable {M:Model} {A:Around} {E:Value→Shared→Prop} {s:Shared} {hb:HB} {env:Env} {pos:Pos}
theorem made_ok {ps:Array Value} {c':Addr} {q:Str} {h':Heap} {tk:Nat} {P':Addr} (t:s.heap.TableAt e9 x9 ps) (i:s.heap.IsCode e9 x9 ps) (e:∀ pos c,codeAmong pos ps.toList=some c→∃ a q,c = .ref a∧s.heap.CodeRec c q∧∃ o,s.heap.get? a=some o∧o.cls = .type "code")
  (hx:Heap.ExtBut x9 s.heap h') (hI:h'.IsCode e9 x9 (ps ++ #[rawInt pos.line,rawInt pos.col,.ref c'])) (hR:h'.CodeRec (.ref c') q) (hT:h'.TableAt e9 x9 (ps ++ #[rawInt pos.line,rawInt pos.col,.ref c'])) (hT':h'.TableAt c' P' #[]) :
  Kp hb s { s with heap:=h',toks:=tk } := by
 have sf:Soft s.heap h':=fun b o hb' e => .inl (hx b o hb' e)
 refine ⟨sf,rfl,fun g=>⟨fun b o hb' e=>hx b o hb' (g.hard b o hb' e),⟨_,hT,hI,fun pos' c hc=>?_⟩,g.gens,g.fdS sf⟩⟩
 have hc':codeAmong pos' (ps.toList ++ [rawInt pos.line,rawInt pos.col,.ref c'])=some c:=by rw [Array.toList_append] at hc;exact hc
 have htr:TriplesOk ps.toList:=by
  obtain ⟨_,_,_,_,_,_,_,_,_,_,_,_,_,_,_,_,_,_,_,ht,_⟩:=i;exact ht
 rcases codeAmong_app _ _ (Nat.le_refl _) htr hc' with h1 | rfl
 ·refine z6 fun K0=>?_
  refine x23 (e pos' c h1 :) fun a q' o0 o1 o2=>?_;refine x12 o2 fun o h3 h4=>?_;obtain rfl:=o0;obtain ⟨c2,oo,vv,tt,e1,e2,e3⟩:=o1
  cases e1
  refine K0 ?_;clear K0;have hne:a≠x9:=fun q=>by
   have:=t.2;rw [← q,h3] at this;cases this;cases h4
  exact ⟨a,q',rfl,⟨a,oo,vv,tt,rfl,hx _ _ hne e2,e3⟩,o,hx _ _ hne h3,h4⟩
 ·refine z6 fun K0=>?_
  refine w7 hT' fun o0 _=>?_;refine x23 o0 fun o vs a1 a2 _=>?_
  refine K0 ?_;clear K0;exact ⟨c',q,rfl,hR,o,a1,a2⟩
theorem genCode_ok {qualname:Str} {scope:Scope} {Q:Value→Shared→Prop} (hc:env.code = .ref e9) (g:GS hb s) (hQ:∀ c' q s',Kp hb s s'→s.heap.objs.size≤s'.heap.objs.size→s'.heap.CodeRec (.ref c') q→Q (.ref c') s') :
  wpAny M A (genexprCode env pos qualname scope) Q E s:=by
 refine z6 fun K0=>?_
 refine x13 g.tab fun ps t i e=>?_
 refine K0 ?_;clear K0
 cases hn:codeAmong pos ps.toList with
 | none=>exact wpAny_genexprCodeX hc i t hn fun c' h' tk hx h1 h2 hI hR hT ⟨P',_,_,hT'⟩=>hQ c' _ _ (made_ok t i e hx hI hR hT hT') (by show _≤h'.objs.size;lia) hR
 | some c =>
  refine z6 fun K0=>?_
  refine x23 (e pos c hn :) fun a q o0 hR _=>?_;obtain rfl:=o0
  refine K0 ?_
  clear K0
  exact wpAny_codeAt_hit hc i hn (hQ a q s (.refl ..) (Nat.le_refl _) hR)
theorem fnCode_ok {firstLine:Nat} {name qualname:Str} {p:Arguments} {scope:Scope} {body:FuncBody} {Q:Value→Shared→Prop} (hc:env.code = .ref e9) (g:GS hb s) (hQ:∀ c' q s',Kp hb s s'→s'.heap.CodeRec (.ref c') q→c'≠x9→Q (.ref c') s') :
  wpAny M A (functionCode env pos firstLine name qualname p scope body) Q E s:=by
 refine z6 fun K0=>?_
 refine x13 g.tab fun ps t i e=>?_
 refine K0 ?_;clear K0
 cases hn:codeAmong pos ps.toList with
 | none=>exact wpAny_functionCodeX hc i t hn fun c' h' tk hx h1 h2 hI hR hT ⟨P',_,_,hT'⟩=>hQ c' _ _ (made_ok t i e hx hI hR hT hT') hR (fun q=>by
   refine z6 fun K0=>?_
   refine w7 hT' fun o0 _=>?_;refine x23 o0 fun o vs a1 a2 _=>?_
   refine K0 ?_;clear K0;have:=hT.2;rw [← q,a1] at this;cases this;cases a2)
 | some c =>
  refine z6 fun K0=>?_
  refine x23 (e pos c hn :) fun a q o0 hR o1=>?_;refine x12 o1 fun o h3 h4=>?_;obtain rfl:=o0
  refine K0 ?_
  clear K0
  exact wpAny_functionCode_hit hc i hn (hQ a q s (.refl ..) hR fun q=>by
   have:=t.2;rw [← q,h3] at this;cases this;cases h4)
end
end Mine
namespace Mine
open PySem PyProof.Rows PySem.Spec
section
variable {prog:Program} {w:World} {A:Around} {E:Value→Shared→Prop} {s:Shared} {env:Env}
theorem repl_eval {o:Expr} {ap pos p1 p2:Pos} {a b:Str} {k1 k2:Nat} {Q:Value→Shared→Prop} (h1:O3 o=true) (h2:(ap.endLine == pos.line)=true)
  (h:wpAny (model prog w) A (eval o env) (fun rx s₁=>∃ x t,rx = .str x t∧wpAny (model prog w) A (call (.builtin "str.replace") [.str x t,.str a s₁.toks,.str b (s₁.toks + 1)]) Q E { s₁ with toks:=s₁.toks + 1 + 1 }) E s) :
  wpAny (model prog w) A (eval (.Call (.Attribute o ("replace" : Str) ap) [.Constant (.str a) k1 p1,.Constant (.str b) k2 p2] [] pos) env) Q E s:=by
 have hun:U2 env [.Constant (.str a) k1 p1,.Constant (.str b) k2 p2]:=fun _=>⟨rfl,rfl⟩
 refine wpAny_Call_method (T0 h1 ..) (T3 hun (by show 2<20;decide)) h2 F.plainAttrs_str F.slot_str_replace F.type_str_replace (wpAny_mono h (fun rx s₁ h₁=>?_) fun _ _ x=>x)
 refine z6 fun K0=>?_
 refine x22 h₁ fun x t o0 hc=>?_;obtain rfl:=o0
 refine K0 ?_;clear K0;refine ⟨rfl,(fun _ e=>nomatch e),?_⟩
 refine Calls.callWith_builtin (hun pos).1 ?_;exact Calls.evalArgs_plain (Calls.spliced_cons (wpAny_Constant_str (k:=k1) (pos:=p1) (Calls.spliced_cons (wpAny_Constant_str (k:=k2) (pos:=p2) (Calls.spliced_nil hc)))))
theorem replace_none {x y z:Str} {t u v:Tok} {Q:Value→Shared→Prop} (hn:((Builtin.Str.occurrences x y 0 x.length (x.length + 1)).isEmpty || (y.length == 0 && z.length == 0))=true) (hQ:Q (.str x t) s) :
  wpAny (model prog w) A (call (.builtin "str.replace") [.str x t,.str y u,.str z v]) Q E s:=by
 refine PySem.call_gives F.slot_str_replace (typeIs_str _ _ _) F.entry_str_replace (F.args_str_replace_3 _ _ _) (gives_str_replace x y z t u v fun q=>by rw [hn] at q;cases q) ?_
 rw [if_pos hn];exact hQ
theorem elt_run {elt tgt:Expr} {sc:Scope} (G:GenShape elt tgt sc) {m:Str→Option Value} {v:Str} {pv:Pos} {t:Tok} (ht:tgt = .Name v pv) (hsc:env.scope=sc) (hn:s.heap.Ns env.locals m) (hm:m v=some (.str ⟨#[33,45]⟩ t)) {Q:Value→Shared→Prop}
  (hQ:∀ t' k,Q (.str ⟨#[33,92,45]⟩ t') { s with toks:=k }):wpAny (model prog w) A (eval elt env) Q E s:=by
 refine z6 fun K0=>?_
 obtain ⟨v',pv',a1,a2,p0,p1,p2,q1,q2,q3,q4,k1,k2,k3,k4,rfl,rfl,h1,h2,hv,hk,hco,hns,hne⟩:=G.ex
 cases ht
 refine K0 ?_;clear K0;refine repl_eval rfl h2 (repl_eval rfl h1 ?_);have hl:env.scope.names.lookup v=some .local:=by
  rw [hsc,hns];have:(v == (".0" : Str))=false:=by simpa using hne
  simp [List.lookup,this]
 refine ldG hn hm ⟨_,t,rfl,?_⟩ (by rw [hsc];exact hk) hl (l8 hv).1;refine replace_none (by decide +kernel) ⟨_,t,rfl,?_⟩;refine SC.replaceW (Nat.succ_ne_zero _) (Nat.succ_ne_zero _) (Nat.ne_of_lt (Nat.lt_succ_self _)) (by decide +kernel) (by decide +kernel) (by decide +kernel) fun t' k=>?_
 have e:Txt.replace ⟨#[33,45]⟩ "-" "\\-" = ⟨#[33,92,45]⟩:=by decide +kernel
 rw [e];exact hQ t' k
end
end Mine
namespace Mine
open PySem PyProof.Rows PySem.Spec
section
variable {prog:Program} {w:World} {A:Around} {hb:HB} {Γ:y9} {c:CT} {env:Env} {s₀ s:Shared} {O₀:Addr→Prop} {ow:Nat→Option Addr} {σ:z9}
theorem closure_nil {sc:Scope} {v:Str} (h:sc.names=[((".0" : Str),NameKind.local),(v,NameKind.local)]) (env:Env):closureFor sc env=pure []:=by
 simp only [closureFor,h];rfl
theorem gen_join {elt tgt:Expr} {sc:Scope} {z:Str} {iz:Nat} {k1:Nat} {p1 ap pz gp cp:Pos} (fx:Fx prog w A hb Γ c env s₀) (hT:c.inT=true) (G:GenShape elt tgt sc) (hline:(ap.endLine == cp.line)=true) (hz:c.slot z=some iz) (oz:v7 z=true)
  (x:SS hb s₀ c env O₀ ow σ s) (hv:X7 σ iz=some (.list [.str [33,45]])) {Q:Value→Shared→Prop} {E:Value→Shared→Prop} (hQ:∀ rv s',Kp hb s s'→1≤s'.toks→VR s'.heap (n7 O₀ ow) (.str [33,92,45]) rv→Q rv s') :
  wpAny (model prog w) A (eval (.Call (.Attribute (.Constant (.str "-") k1 p1) ("join" : Str) ap) [.GeneratorExp elt [⟨tgt,.Name z pz,[],0⟩] sc gp] [] cp) env) Q E s:=by
 have g₀:=fx.g₀;have hA:=fx.cx.handled;have hun:U2 env [.GeneratorExp elt [⟨tgt,.Name z pz,[],0⟩] sc gp]:=fun _=>⟨rfl,rfl⟩
 refine wpAny_with_toks x.tk ?_;refine wpAny_Call_method (T0 rfl ..) (T3 hun (by show 1<20;decide)) hline F.plainAttrs_str F.slot_str_join F.type_str_join (wpAny_Constant_str (k:=k1) (pos:=p1) ?_);refine ⟨rfl,(fun _ e=>nomatch e),?_⟩
 refine Calls.callWith_builtin (hun cp).1 ?_;have kp1:Kp hb s { s with toks:=s.toks + 1 } := .tok;have x1:=x.run g₀ kp1 (Nat.le_add_left 1 _);refine Calls.evalArgs_plain (Calls.spliced_cons ?_);have G':=G;refine z6 fun K0=>?_
 obtain ⟨v,pv,a1,a2,p0,pp1,p2,q1,q2,q3,q4,kk1,kk2,kk3,kk4,rfl,_,_,_,hv',hk,hco,hns,hne⟩:=G'.ex;refine K0 ?_;clear K0;have hl0:sc.names.lookup (".0" : Str)=some NameKind.local:=by rw [hns];rfl
 have hlv:sc.names.lookup v=some NameKind.local:=by
  rw [hns];have:(v == (".0" : Str))=false:=by simpa using hne
  simp [List.lookup,this]
 have hcell:∀ y∈sc.names,y.2≠NameKind.cell:=by
  rw [hns];intro y hy;rcases List.mem_cons.mp hy with rfl | hy
  ·exact fun q=>nomatch q
  ·rcases List.mem_cons.mp hy with rfl | hy
   ·exact fun q=>nomatch q
   ·cases hy
 refine wpAny_GeneratorExp_walksQ hA hco (closure_nil hns env) hcell hl0 hlv hk fx.room ?_ (fun _=>rfl)
 have hpk:=(Z5 (prog:=prog) (w:=w) (A:=A) (hb:=hb) (Γ:=Γ) (c:=c) (p:=pz) oz hz).peek x1.fr (x1.xc g₀) x1.tk hv;refine hpk _ _ fun xv s2 k2 t2 r2=>?_
 have x2:=x1.run g₀ k2 t2;have hl:∃ l rv,xv = .ref l∧l≠x9∧s2.heap.PlainList l [rv].toArray∧∃ t,rv = .str ⟨#[33,45]⟩ t:=by
  rcases r2 with r2 | ⟨xs,a,vs,e1,e2,z',ha,hl,r⟩
  ·obtain ⟨_,a,vs,e,ha,_,hl,rv,_,rfl,⟨_,t,ht⟩,rfl⟩:=r2;exact ⟨a,rv,e,ha,hl,t,ht⟩
  ·cases e1
   obtain ⟨rv,_,rfl,⟨_,t,ht⟩,rfl⟩:=r;exact ⟨a,rv,e2,ha,hl,t,ht⟩
 refine z6 fun K0=>?_
 refine x24 hl fun l rv o0 hlA hpl o1=>?_;refine Exists.elim o1 fun t o2=>?_;obtain rfl:=o0;obtain rfl:=o2
 refine K0 ?_;clear K0;refine wpAny_pyIter_list hpl.isList ?_;generalize hI:s2.heap.objs.size=I;generalize hH3:s2.heap.push { cls := .type "list_iterator",data := .fields #[.ref l,.int 0 0] } = H3;have hk3:∀ b o,s2.heap.get? b=some o→H3.get? b=some o:=fun b o e=>hH3▸Heap.get?_push_of_some _ e
 have kp3:Kp hb s2 { s2 with heap:=H3 } := .keeps (tk:=s2.toks) hk3;have x3:=x2.run g₀ kp3 t2;have g3:=x3.kp.gs g₀;have hIt:H3.get? I=some { cls := .type "list_iterator",data := .fields #[.ref l,.int 0 0] } := by rw [← hI,← hH3];exact Heap.get?_push_size _ rfl
 have hbase:=fx.base;have lim:∀ {h:Heap},Hard hb.h h→h.NoLimit:=fun {h} hh=>let ⟨mc,h1,h2⟩:=hbase.lim;⟨mc,(let ⟨o,es,ep,e,r⟩:=h1;⟨o,es,ep,hh _ _ (by decide) e,r⟩),h2⟩
 refine ⟨lim g3.hard,genCode_ok (fx.code hT) g3 fun c' q s4 k4 hsz4 _=>?_⟩
 have g4:=k4.gs g3;refine z6 fun K0=>?_
 refine x32 hbase.bm fun mg bm ob BM hbmA=>?_
 refine K0 ?_;clear K0;have nsG:s4.heap.Ns env.globals mg:=by
  rw [x.fr.fk.gl];refine x32 BM.ns fun o es ep e r=>?_
  exact ⟨o,es,ep,g4.hard _ _ (by decide) e,r⟩
 refine wpAny_builtinsFor nsG BM.name BM.ne (g4.hard _ _ hbmA BM.obj) BM.cls BM.dict BM.data ?_;have keep4:∀ b o,b≠x9→(∀ es ep,o.data ≠ .dict es ep)→H3.get? b=some o→s4.heap.get? b=some o:=fun b o hb' hd e=>k4.soft.get hb' hd e
 have hIA:I≠x9:=by rw [← hI];exact (x2.xc g₀).off
 have hlI:l≠I:=by rw [← hI];refine Exists.elim hpl fun n e=>?_;exact Nat.ne_of_lt (Heap.lt_size e)
 have hIt4:=keep4 I { cls := .type "list_iterator",data := .fields #[.ref l,.int 0 0] } hIA (fun _ _ q=>(nomatch q)) hIt
 have hpl4:s4.heap.PlainList l #[.str ⟨#[33,45]⟩ t]:=V8 k4.soft hlA (V8 kp3.soft hlA hpl);have hlt4:I<s4.heap.objs.size:=Heap.lt_size hIt4;have hll4:l<s4.heap.objs.size:=by refine Exists.elim hpl4 fun n e=>?_;exact Heap.lt_size e
 refine ⟨I,[I,l],[I],1,(fun i v=>(#[Value.str ⟨#[33,45]⟩ t]:Array Value)[i]?=some v),(fun i h=>h.IsListIter I l i∧h.IsList l #[.str ⟨#[33,45]⟩ t]),(fun _=>true),(fun _ y=>∃ t',y = .str ⟨#[33,92,45]⟩ t'),rfl,
  (fun A' hA'=>Walks.list hA' I l hlI #[.str ⟨#[33,45]⟩ t]),⟨⟨_,hIt4,rfl,rfl⟩,hpl4.isList⟩,?_,lim g4.hard,?_,fun href _=>⟨?_,?_⟩,fun a h₅ tk gs hbare hlt hsz hk5 W hst=>?_⟩
 ·intro b hb';rcases List.mem_cons.mp hb' with rfl | hb'
  ·exact hlt4
  ·rcases List.mem_cons.mp hb' with rfl | hb'
   ·exact hll4
   ·cases hb'
 ·intro hm;have e:cStatics=I:=List.mem_singleton.mp hm;refine z6 fun K0=>?_
  refine x12 (lim (h:=s2.heap) (x2.kp.gs g₀).hard :) fun _ o0 _=>?_;refine x33 o0 fun o es ep ho hd _=>?_
  refine K0 ?_;clear K0;have:=Heap.lt_size ho;rw [e,← hI] at this;exact Nat.lt_irrefl _ this
 ·intro A' E' i vv s5 m2 hA' hP hn hm _;exact wpAny_pure ⟨rfl,s5.heap,s5.toks,rfl,fun _ _ e=>e⟩
 ·intro A' E' i vv s5 m2 hA' hP hp hn hm _;have hvv:vv = .str ⟨#[33,45]⟩ t:=by
   induction i with
   | zero=>simpa using hP.symm
   | succ i=>simp at hP
  subst hvv;exact elt_run G rfl rfl hn hm fun t' k=>⟨⟨t',rfl⟩,s5.heap,k,rfl,fun _ _ e=>e⟩
 ·refine Calls.spliced_nil ?_;have W:=W.in4_2;have hTy:∀ i s',GenAt prog w A.in4 a s4.gens.size s4.heap.objs.size (List.range s4.heap.objs.size) [I] (fun _=>true) 1 (fun _ y=>∃ t',y=Value.str ⟨#[33,92,45]⟩ t') i s'→s'.TypeIs (.ref a) "generator" := fun i s' st=>st.1.typeIs
  refine SC.joinGen W hTy hst (fun b hb'=>?_) (List.mem_cons_self ..) (fun i vv ⟨j,_,t',e⟩=>⟨_,t',e⟩) (fun s6 lt hm hacc=>?_) (by decide)
  ·show b<h₅.objs.size;rw [hsz];rcases List.mem_cons.mp hb' with rfl | hb'
   ·exact Nat.lt_succ_self _
   ·rcases List.mem_cons.mp hb' with rfl | hb'
    ·exact Nat.lt_succ_of_lt hlt
    ·exact Nat.lt_succ_of_lt (Nat.lt_trans (List.mem_range.mp hb') hlt)
  ·have hn1:(passing (fun _=>true) 1 0).length=1:=by decide
   rw [hn1] at hacc;have hsz1:lt.length=1:=by simpa [strValues] using hacc.1
   obtain ⟨y,rfl⟩:∃ y,lt=[y]:=by
    match lt,hsz1 with
    | [y],_=>exact ⟨y,rfl⟩
   refine z6 fun K0=>?_
   refine x12 (hacc.2 0 (.str y.1 y.2) (by simp [strValues]) :) fun j _ o0=>?_;refine Exists.elim o0 fun t' e=>?_
   refine K0 ?_;clear K0;injection e with e1 e2;have hwr:∀ b o,s2.heap.get? b=some o→b ∉ (s4.heap.objs.size::[I]):=fun b o e hb'=>by
    rcases List.mem_cons.mp hb' with rfl | hb'
    ·have h1:=Heap.lt_size e;have h2:s2.heap.objs.size<s4.heap.objs.size:=by rw [hI];exact hlt4
     exact Nat.lt_irrefl _ (Nat.lt_trans h1 h2)
    ·have:b=I:=List.mem_singleton.mp hb';rw [this,← hI] at e;exact Nat.lt_irrefl _ (Heap.lt_size e)
   have keep6:∀ b o,b ∉ (s4.heap.objs.size::[I])→s4.heap.get? b=some o→s6.heap.get? b=some o:=fun b o hb' e=>hm.heap b o hb' (hk5 b o e)
   have k24:=kp3.trans k4;have sf:Soft s2.heap s6.heap:=fun b o hb' e=>by
    rcases k24.soft b o hb' e with q | ⟨hd,sl,q⟩
    ·exact .inl (keep6 b o (hwr b o e) q)
    ·exact .inr ⟨hd,sl,keep6 b _ (hwr b o e) q⟩
   have kp:∀ k,Kp hb s2 { s6 with toks:=k } := fun k=>by
    refine ⟨sf,hm.os.trans k24.os,fun g=>?_⟩
    have g4:=k24.gs g;refine ⟨fun b o hb' e=>keep6 b o (hwr b o (g.hard b o hb' e)) (g4.hard b o hb' e),g4.tab.others (X:=(· ∈ (s4.heap.objs.size::[I]))) keep6 (fun b o hb' e=>?_),?_,g.fdS sf⟩
    ·rcases List.mem_cons.mp hb' with rfl | hb'
     ·exact absurd (Heap.lt_size e) (Nat.lt_irrefl _)
     ·have:b=I:=List.mem_singleton.mp hb';rw [this,hIt4] at e;obtain rfl:=Option.some.inj e;exact .inl ⟨fun q=>(nomatch q),by show Value.type "list_iterator" ≠ Value.type "code";decide⟩
    ·exact (g4.gens.push hbare).moved hm.gens
   refine ⟨by rw [List.map_singleton,e1];decide +kernel,fun t2' k htk=>?_⟩
   have hj:Txt.join "-" ([y].map (·.1))=⟨#[33,92,45]⟩:=by rw [List.map_singleton,e1];decide +kernel
   rw [hj];exact hQ _ _ ((kp1.trans k2).trans (kp k)) htk ⟨⟨by decide,by decide⟩,t2',rfl⟩
theorem djoin_inv {v r:PV} (h:djoinop v=some r):v = .list [.str [33,45]]∧r = .str [33,92,45]:=by
 cases v with
 | list l =>
  cases l with
  | nil=>exact w9 h
  | cons x l=>cases l with
   | cons=>exact w9 h
   | nil =>
    refine z6 fun K0=>?_
    refine y4 h fun s hs h1=>?_
    refine v9 h1 fun o0 h2=>?_;obtain rfl:=o0
    refine K0 ?_
    clear K0
    exact ⟨by rw [a9 hs],(Option.some.inj h2).symm⟩
 | _=>exact w9 h
theorem sst_djoin {n:Str} {i:Nat} {elt tgt:Expr} {sc:Scope} {z:Str} {iz:Nat} {k1:Nat} {px p1 ap pz gp cp p:Pos} (fx:Fx prog w A hb Γ c env s₀) (hi:c.slot n=some i) (hT:c.inT=true) (hG:okGen elt tgt sc=true) (hline:(ap.endLine == cp.line)=true) (hz:c.slot z=some iz) (oz:v7 z=true) :
  SSt prog w A hb Γ c env s₀ (.Assign [.Name n px] (.Call (.Attribute (.Constant (.str "-") k1 p1) ("join" : Str) ap) [.GeneratorExp elt [⟨tgt,.Name z pz,[],0⟩] sc gp] [] cp) p) (.djoin i iz):=by
 intro O₀ ow σ s x fl σ' h Q E hQ;refine z6 fun K0=>?_
 refine y4 h fun v hv' h1=>?_
 refine v8 h1 fun r hr h2=>?_
 cases h2
 refine w7 (djoin_inv hr :) fun o0 o1=>?_;obtain rfl:=o0;obtain rfl:=o1
 refine K0 ?_;clear K0;have hv:=hv';rw [exec_Assign_Name _ _ _ _ _ rfl];refine wpAny_bind (wpAny_standAt (wpAny_bind (gen_join fx hT (shape_of hG) hline hz oz x hv fun rv s1 k1 t1 r1=>?_)))
 refine wpAny_bind (wpAny_standAt (wpAny_bind (wpAny_bindName (U0 fx (x.run fx.g₀ k1 t1) hi r1 fun s2 x2 k2 _=>wpAny_pure ?_))))
 exact hQ _ _ ⟨rfl,_,x2,(KS.kp k1 (x.kp.gs fx.g₀) _).trans k2,fun _ _=>rfl⟩
end
end Mine
namespace Mine
open PySem PyProof.Rows PySem.Spec
noncomputable def endOf (m:Sre.M):Nat:=match m.outcome with
 | some .matched=>1
 | some .failed=>2
 | _=>0
noncomputable def U8 (l:List Nat) (start:Nat) (must:Bool):Sre.M:=Sre.M.runFor 60 (Sre.forSearch Q5 l.toArray 1 start l.length must)
theorem twin_no:∀ l∈R1,endOf (U8 l 0 false)=2:=by decide +kernel
theorem twin_yes:∀ l∈U7,endOf (U8 l 0 false)=1∧(U8 l 0 false).start=1∧(U8 l 0 false).handed=2∧(U8 l 0 false).marks = #[some 1,some 2]∧(U8 l 0 false).lastmark=1∧endOf (U8 l 2 false)=2:=by decide +kernel
section
variable {M:Model} {A:Around} {E:Value→Shared→Prop} {s:Shared}
theorem end_no {n:Nat} {m:Sre.M} {Q:Option Sre.M→Shared→Prop} (hn:n≤4 * 2 ^ 64) (h:endOf (Sre.M.runFor n m)=2) (hQ:Q none s):wpAny M A (Builtin.Re.reRunToEnd m) Q E s:=by
 have ho:(Sre.M.runFor n m).outcome=some .failed:=by
  revert h;unfold endOf
  cases (Sre.M.runFor n m).outcome with
  | none=>exact fun h=>by cases h
  | some o=>cases o with
   | failed=>exact fun _=>rfl
   | _=>exact fun h=>by cases h
 exact drive_end hn ho hQ
theorem end_yes {n:Nat} {m:Sre.M} {Q:Option Sre.M→Shared→Prop} (hn:n≤4 * 2 ^ 64) (h:endOf (Sre.M.runFor n m)=1) (hQ:Q (some (Sre.M.runFor n m)) s):wpAny M A (Builtin.Re.reRunToEnd m) Q E s:=by
 have ho:(Sre.M.runFor n m).outcome=some .matched:=by
  revert h;unfold endOf
  cases (Sre.M.runFor n m).outcome with
  | none=>exact fun h=>by cases h
  | some o=>cases o with
   | matched=>exact fun _=>rfl
   | _=>exact fun h=>by cases h
 refine wpAny_bind (H0 (2 ^ 64) n m _ hn (by decide) (by rw [ho];rfl) ?_);refine wpAny_bind (wpAny_forIn_list _ (fun _ _ s'=>s'=s) _ (fun i rest b s' hs=>?_) (fun b s' hs=>?_) _ _ rfl)
 ·subst hs
  split
  ·exact wpAny_bind (wpAny_rule (wpAny_pure rfl))
  ·exact wpAny_pure rfl
 ·subst hs;rw [ho];exact wpAny_pure hQ
end
end Mine
namespace Mine
open PySem PyProof.Rows PySem.Spec
theorem slot_pat_sub:PySem.Slot "re.Pattern" "sub" "re.Pattern.sub" :=
 .of (owner := "re.Pattern") (n := "sub") (by rw [typeLookup_type,builtinLookup_eq_fast];kernel_rfl) (by decide +kernel) (by decide +kernel) (by decide +kernel)
  (by first | exact .inl (by decide +kernel) | exact .inr (by decide +kernel)) (by rw [isSubtype_type];kernel_rfl)
theorem entry_pat_sub:entryFor table "re.Pattern.sub" = some Builtin.«re.Pattern.sub» := entryFor_of_tree (by kernel_rfl)
theorem D7:entryFor table "re.Pattern.sub.loop" = some Builtin.«re.Pattern.sub.loop» := entryFor_of_tree (by kernel_rfl)
theorem type_pat_sub:typeOf (.builtin "re.Pattern.sub")=pure (.type "method_descriptor"):=by show builtinType _=_;rw [builtinType_eq_fast];kernel_rfl
theorem args_pat_sub (a b c:Value):argsOk "re.Pattern.sub" ⟨[a,b,c],[]⟩:=by unfold argsOk;kernel_rfl
theorem zai:typeLookup (.type "function") "__call__" = pure (some (.builtin "function.__call__")):=by rw [typeLookup_type,builtinLookup_eq_fast];kernel_rfl
section
variable {prog:Program} {w:World} {A:Around} {E:Value→Shared→Prop} {s:Shared} {hb:HB} {O:Addr→Prop}
inductive PatAt (h:Heap):Prop
 | mk (o:Obj) (vs:Array Value) (cd:Addr) (it:Array Value) (h1:h.get? 43=some o) (h2:o.data = .fields vs) (h3:vs.getD 5 .none = .ref cd) (h4:IsTup h cd it) (h5:(it.map Builtin.Re.reRawOf).map (·.toNat)=Q5) (h6:Builtin.Re.reRawNat (vs.getD 6 .none)=0) (h7:Builtin.Re.reRawNat (vs.getD 2 .none)=1)
theorem pat_at (hp:ReOk hb.h) (g:GS hb s):PatAt s.heap:=by
 obtain ⟨op,vs,cd,it,ho,hc,hdi,hdd,h5,hcd,⟨oc,hoc,hcc,r⟩,hcode,h6,h2⟩:=hp;exact ⟨op,vs,cd,it,g.hard _ _ (by decide) ho,hdd,h5,⟨oc,g.hard _ _ hcd hoc,hcc,r⟩,hcode,h6,h2⟩
theorem whole_ok {l:List Nat} {t:Tok} {Q:Builtin.Re.ReTarget→Shared→Prop} (hp:PatAt s.heap)
  (hQ:Q { pattern := .ref 43,string := .str ⟨l.toArray⟩ t,code:=Q5,text:=l.toArray,kind:=0,groups:=1,pos:=0,lim:=l.length } s) :
  wpAny (model prog w) A (Builtin.Re.reWholeTarget (.ref 43) (.str ⟨l.toArray⟩ t)) Q E s:=by
 refine z6 fun K0=>?_
 obtain ⟨op,vs,cd,it,ho,hdd,h5,⟨oc,hoc,hcc,nn,hcd2⟩,hcode,h6,h2⟩:=hp;refine K0 ?_;clear K0;refine wpAny_bind (wpAny_fieldsOf ho hdd ?_);refine wpAny_bind (wpAny_of_eq (a:=(l.toArray,0)) rfl ?_);dsimp only;rw [h6,if_neg (by decide),if_neg (by decide)];refine wpAny_bind (wpAny_of_eq (a:=()) rfl ?_);rw [h5];refine wpAny_bind ?_;refine wpAny_bind (wpAny_seqItems hoc hcd2 ?_);refine wpAny_pure (wpAny_pure ?_);have e1:Array.map (fun x=>Int.toNat x) (Array.map Builtin.Re.reRawOf ((some it).getD #[]))=Q5:=hcode
 rw [e1,h2,List.size_toArray];exact hQ
theorem held_ok {id:String} {x:Str} {t:Tok} {Q:Unit→Shared→Prop} (hQ:Q () s):wpAny (model prog w) A (Builtin.Re.reNotHeld id (.str x t)) Q E s:=by
 unfold Builtin.Re.reNotHeld;have e:isInstance (.str x t) (.type "bytearray")=pure false:=by
  show isSubtype _ _=_;rw [isSubtype_type];kernel_rfl
 refine wpAny_bind (wpAny_of_eq e ?_);exact wpAny_pure hQ
noncomputable abbrev loopArgs (f:Addr) (l:List Nat) (t:Tok) (n dn st:Int) (must:Bool) (p:Addr):Args :=
 ⟨[.ref 43,.str ⟨l.toArray⟩ t,.ref f,rawInt 1,rawInt 0,rawInt n,rawInt dn,rawInt st,.bool must,.ref p,.bool false],[]⟩
set_option backward.match.sparseCases true in
theorem sub_start {f:Addr} {l:List Nat} {t:Tok} {o:Obj} {Q:Value→Shared→Prop} (hp:ReOk hb.h) (xc:XC hb O s) (hf:s.heap.get? f=some o) (hfc:o.cls = .type "function")
  (h:codeAny (model prog w) A (.builtin "re.Pattern.sub.loop" (loopArgs f l t 0 0 0 false s.heap.objs.size)) (fun r s'=>match r with | .ok (.ret v)=>Q v s' | .ok _=>False | .error e=>E e s')
   { s with heap:=s.heap.push { cls := .type "list",data := .seq #[] } }) :
  wpAny (model prog w) A (call (.builtin "re.Pattern.sub") [.ref 43,.ref f,.str ⟨l.toArray⟩ t]) Q E s:=by
 refine z6 fun K0=>?_
 obtain ⟨op,vs,cd,it,ho,hc,_⟩:=id hp;refine K0 ?_;clear K0;have ho':=xc.gs.hard _ _ (by decide) ho;have hT:s.TypeIs (.ref f) "function" := ⟨o,hf,hfc⟩
 refine wpAny_call (codeAny_call_builtin slot_pat_sub.plain entry_pat_sub (slot_pat_sub.check _ _ _ _ _ _ _ _ ⟨op,ho',hc⟩ (args_pat_sub _ _ _) ?_));refine wpAny_bind (wpAny_of_eq (a:=[some (.ref f),some (.str ⟨l.toArray⟩ t),none]) (by kernel_rfl) ?_);dsimp only;refine wpAny_bind (wpAny_pure ?_);refine wpAny_bind (wpAny_specialOf hT zai ?_);rw [if_pos (show (some (Value.builtin "function.__call__")).isSome=true from rfl)]
 refine wpAny_bind (wpAny_pure ?_);rw [if_pos (show (some (Value.builtin "function.__call__")).isSome=true from rfl)]
 refine wpAny_bind (wpAny_pure ?_);refine wpAny_bind (wpAny_holding (whole_ok (pat_at hp xc.gs) ?_));rw [if_pos (show ((1:Int) == 1)=true from rfl)];refine wpAny_bind (held_ok ?_);refine wpAny_bind (wpAny_newList ?_ (by decide));exact wpAny_pure ⟨Code.quiet_builtin _ (by decide +kernel),h⟩
end
end Mine
namespace Mine
open PySem PyProof.Rows PySem.Spec
section
variable {prog:Program} {w:World} {A:Around} {E:Value→Shared→Prop} {s s₀:Shared} {hb:HB} {O:Addr→Prop}
theorem N3 {l:List Nat} {b e:Nat} {Q:Value→Shared→Prop} (hz:l.length≤64) (hQ:Q (.str ⟨((l.take e).drop b).toArray⟩ s.toks) { s with toks:=s.toks + 1 }):wpAny (model prog w) A (Builtin.Re.reSlice l.toArray 0 b e) Q E s:=by
 unfold Builtin.Re.reSlice;rw [if_pos (show ((0:Nat) == 0)=true from rfl)];have e1:l.toArray.extract b e=((l.take e).drop b).toArray:=by
  rw [List.extract_toArray,List.extract_eq_drop_take];congr 1;rw [List.drop_take]
 rw [e1];refine wpAny_mkStr hQ ?_;rw [lenS];have:((l.take e).drop b).length≤l.length:=((List.drop_sublist _ _).trans (List.take_sublist _ _)).length_le;have:sizeLine≥small:=a8;have:small=1048576:=rfl
 lia
theorem strs_any {h h':Heap} {O O':Addr→Prop} : ∀ {l:List (List Nat)} {vs:List Value},VRs h O (l.map .str) vs→VRs h' O' (l.map .str) vs
 | [],_,r=>r
 | _::_,_,⟨v,r,e,h1,h2⟩=>⟨v,r,e,h1,strs_any h2⟩
theorem E3:∀ l:List (List Nat),i4? (l.map .str)=some l
 | []=>rfl
 | x::r=>by rw [List.map_cons,i4?,E3 r];rfl
structure Pcs (hb:HB) (s₀:Shared) (O:Addr→Prop) (p:Addr) (ps:List (List Nat)) (s:Shared):Prop where
 kp:Kp hb s₀ s
 new:s₀.heap.get? p=none
 pl:∃ vs,s.heap.PlainList p vs.toArray∧VRs s.heap O (ps.map .str) vs
 tk:1≤s.toks
theorem Pcs.run {p:Addr} {ps:List (List Nat)} {s':Shared} (P:Pcs hb s₀ O p ps s) (hp:p≠x9) (k:Kp hb s s') (tk:1≤s'.toks):Pcs hb s₀ O p ps s':=by
 refine z6 fun K0=>?_
 refine x12 P.pl fun vs hpl hr=>?_
 refine K0 ?_;clear K0;exact ⟨P.kp.trans k,P.new,⟨vs,V8 k.soft hp hpl,strs_any hr⟩,tk⟩
theorem Pcs.push {p:Addr} {ps:List (List Nat)} {v:List Nat} {rv:Value} {Q:Unit→Shared→Prop} (P:Pcs hb s₀ O p ps s) (g₀:GS hb s₀) (hz:ps.length≤64) (r:VR s.heap O (.str v) rv) (hQ:∀ s',Pcs hb s₀ O p (ps ++ [v]) s'→Q () s') :
  wpAny (model prog w) A (updateSeq p (·.push rv)) Q E s:=by
 refine z6 fun K0=>?_
 refine x12 P.pl fun vs o0 hr=>?_;refine Exists.elim o0 fun n hpl=>?_
 refine K0 ?_;clear K0;have hsb:=Heap.SameBut.update s.heap p (Obj.mapSeq (·.push rv));have hget:(s.heap.update p (Obj.mapSeq (·.push rv))).get? p=some { cls := .type "list",data := .seq (vs.toArray.push rv) (n + 1) } := by
  rw [Heap.get?_update_self _ hpl (by rw [Obj.mapSeq_push_plain];rfl),Obj.mapSeq_push_plain]
 have hlen:vs.length≤64:=by rw [hr.length,List.length_map];exact hz
 have hsm:sizeLine≥small:=a8;have hsm2:small=1048576:=rfl;refine wpAny_updateSeq hpl rfl (hQ _ ⟨P.kp.turn (tk:=s.toks) g₀ hsb P.new hpl (fun q=>(nomatch q)) (by show Value.type "list" ≠ Value.type "code";decide),P.new,⟨vs ++ [rv],⟨n + 1,?_⟩,?_⟩,P.tk⟩) (by rw [List.size_toArray];lia) (by rw [Array.size_push,List.size_toArray];lia)
 ·rw [hget];simp
 ·rw [List.map_append];exact (strs_any hr).append ⟨rv,[],rfl,r,rfl⟩
theorem loop_no {f p:Addr} {l:List Nat} {t:Tok} {n dn st:Nat} {must:Bool} {ps:List (List Nat)} {R:Result→Shared→Prop} (hp:ReOk hb.h) (g₀:GS hb s₀) (hO:OkO O s₀.heap) (hl:okS l) (hl64:l.length≤64) (P:Pcs hb s₀ O p ps s) (hz:ps.length≤32) (hpt:p≠x9)
  (hend:endOf (U8 l st must)=2) (hne:dn<l.length∨ps≠[])
  (hj:∀ ps',ps'=(if dn<l.length then ps ++ [l.drop dn] else ps)→okS (u6 [] ps')∧(u6 [] ps').length≤small)
  (hR:∀ rv s',Kp hb s₀ s'→VR s'.heap O (.str (u6 [] (if dn<l.length then ps ++ [l.drop dn] else ps))) rv→R (.ok (.ret rv)) s') :
  codeAny (model prog w) A (.builtin "re.Pattern.sub.loop" (loopArgs f l t n dn st must p)) R s:=by
 refine codeAny_builtin D7 ?_;rw [Around.under_plainId (by decide +kernel)];have gs:=P.kp.gs g₀;refine wpAny_bind (whole_ok (pat_at hp gs) ?_);rw [if_neg (show ¬ ((1:Int) == 0)=true from by decide)];refine wpAny_bind ?_;rw [if_neg (show ¬ (((0:Int) != 0 && decide ((n:Int)≥0))=true) from by simp)];refine end_no (n:=60) (by decide) hend ?_;dsimp only;rw [Int.toNat_natCast];by_cases hd:dn<l.length
 ·rw [if_pos hd] at hj hR ⊢;have hps:ps ++ [l.drop dn]≠[]:=by simp
  have hlen:(ps ++ [l.drop dn]).length≤64:=by rw [List.length_append,List.length_singleton];lia
  refine wpAny_bind (N3 hl64 ?_);rw [List.take_length];have P0:=P.run (s' := { s with toks:=s.toks + 1 }) hpt .tok (Nat.le_add_left 1 _);refine wpAny_bind (P0.push g₀ (by lia) (v:=l.drop dn) ⟨okS_sub hl (by rw [List.length_drop];lia) fun c hc=>List.mem_of_mem_drop hc,s.toks,rfl⟩ fun s1 P1=>?_)
  refine wpAny_bind (N3 hl64 ?_);have P':=P1.run (s' := { s1 with toks:=s1.toks + 1 }) hpt .tok (Nat.le_add_left 1 _);refine z6 fun K0=>?_
  refine x12 P'.pl fun vs o0 hr=>?_;refine Exists.elim o0 fun nn hpl=>?_
  refine K0 ?_;clear K0;refine wpAny_bind (wpAny_seqItems (o := { cls := .type "list",data := .seq vs.toArray nn }) hpl rfl ?_);have hvs:vs≠[]:=fun q=>by
   rw [q] at hr;have:=hr.length;rw [List.length_map] at this;exact hps (List.length_eq_zero_iff.mp this.symm)
  rw [if_neg (show ¬ (((some vs.toArray).getD #[]).isEmpty=true) from by simpa using hvs)];have hOp:¬ O p:=fun q=>by refine w7 (hO p q :) fun _ o0=>?_;refine Exists.elim o0 fun o e=>?_;rw [P.new] at e;cases e
  have hjj:=hj _ rfl;refine wpAny_bind (join_ok (hb:=hb) (O:=O) (sep:=[]) (E3 _) hjj.2 ⟨⟨Nat.zero_le _,fun _ q=>(nomatch q)⟩,s1.toks,rfl⟩ ⟨by rw [List.length_map];exact Nat.le_trans hlen (by decide),p,vs,rfl,hpt,hOp,⟨nn,hpl⟩,hr⟩ fun rv s2 k2 r2=>?_)
  rw [if_neg (by decide)];exact wpAny_pure (hR rv s2 (P'.kp.trans k2) r2)
 ·rw [if_neg hd] at hj hR ⊢;have hps:ps≠[]:=hne.resolve_left hd;have hlen:ps.length≤64:=by lia
  have P1:=P;generalize s=s1 at P1 ⊢;refine wpAny_bind (N3 hl64 ?_);have P':=P1.run (s' := { s1 with toks:=s1.toks + 1 }) hpt .tok (Nat.le_add_left 1 _);refine z6 fun K0=>?_
  refine x12 P'.pl fun vs o0 hr=>?_;refine Exists.elim o0 fun nn hpl=>?_
  refine K0 ?_;clear K0;refine wpAny_bind (wpAny_seqItems (o := { cls := .type "list",data := .seq vs.toArray nn }) hpl rfl ?_);have hvs:vs≠[]:=fun q=>by
   rw [q] at hr;have:=hr.length;rw [List.length_map] at this;exact hps (List.length_eq_zero_iff.mp this.symm)
  rw [if_neg (show ¬ (((some vs.toArray).getD #[]).isEmpty=true) from by simpa using hvs)];have hOp:¬ O p:=fun q=>by refine w7 (hO p q :) fun _ o0=>?_;refine Exists.elim o0 fun o e=>?_;rw [P.new] at e;cases e
  have hjj:=hj _ rfl;refine wpAny_bind (join_ok (hb:=hb) (O:=O) (sep:=[]) (E3 _) hjj.2 ⟨⟨Nat.zero_le _,fun _ q=>(nomatch q)⟩,s1.toks,rfl⟩ ⟨by rw [List.length_map];exact Nat.le_trans hlen (by decide),p,vs,rfl,hpt,hOp,⟨nn,hpl⟩,hr⟩ fun rv s2 k2 r2=>?_)
  rw [if_neg (by decide)];exact wpAny_pure (hR rv s2 (P'.kp.trans k2) r2)
end
end Mine
namespace Mine
open PySem PyProof.Rows PySem.Spec
inductive R4 (h:Heap) (mt:Addr) (l:List Nat):Prop
 | mk (t:Tok) (a:Value) (b:Value) (d:Value) (tp:Addr) (n1:Nat) (n2:_) (dd:_) (h1:h.get? mt=some { cls := .type "re.Match",data := .fields #[.str ⟨l.toArray⟩ t,.ref 43,a,b,d,.ref tp],dict:=none }) (h2:h.get? tp=some { cls := .type "tuple",data := .seq #[rawInt 1,rawInt 2,rawInt 1,rawInt 2] n1,dict:=dd,slots:=n2 })
section
variable {prog:Program} {w:World} {A:Around} {E:Value→Shared→Prop} {s s₀:Shared} {hb:HB} {O:Addr→Prop}
theorem loop_yes {f p:Addr} {c:Nat} {t:Tok} {R:Result→Shared→Prop} (hc:[33,c]∈U7) (hp:ReOk hb.h) (g₀:GS hb s₀) (hO:OkO O s₀.heap) (P:Pcs hb s₀ O p [] s) (hpt:p≠x9)
  (hcall:∀ s1 mt,Kp hb s₀ s1→1≤s1.toks→R4 s1.heap mt [33,c]→∀ (Q:Value→Shared→Prop) E,(∀ rv s2,Kp hb s1 s2→1≤s2.toks→VR s2.heap O (.str [92,c]) rv→Q rv s2)→wpAny (model prog w) A.in1 (call (.ref f) [.ref mt]) Q E s1)
  (hR:∀ rv s',Kp hb s₀ s'→VR s'.heap O (.str [33,92,c]) rv→R (.ok (.ret rv)) s') :
  codeAny (model prog w) A (.builtin "re.Pattern.sub.loop" (loopArgs f [33,c] t 0 0 0 false p)) R s:=by
 refine z6 fun K0=>?_
 refine x06 (twin_yes _ hc :) fun h1 h2 h3 h4 h5 h6=>?_
 refine K0 ?_;clear K0;have hc2:c<1114112:=by
  have hc':c=38∨c=126∨c=124:=by simpa [U7] using hc
  rcases hc' with rfl | rfl | rfl <;> decide
 refine codeAny_builtin D7 ?_;rw [Around.under_plainId (by decide +kernel)];have gs:=P.kp.gs g₀;refine wpAny_bind (whole_ok (pat_at hp gs) ?_);rw [if_neg (show ¬ ((1:Int) == 0)=true from by decide)];refine wpAny_bind ?_;rw [if_neg (show ¬ (((0:Int) != 0 && decide ((0:Int)≥0))=true) from by simp)];refine end_yes (n:=60) (by decide) h1 ?_;dsimp only;generalize hm:U8 [33,c] 0 false=m at h2 h3 h4 h5;have hm':Sre.M.runFor 60 (Sre.forSearch Q5 [33,c].toArray 1 (Int.toNat 0) [33,c].length false)=m:=hm;rw [hm',h2,h3];rw [if_pos (by decide)];refine wpAny_bind (N3 (by show 2≤64;decide) ?_);have P0:=P.run (s' := { s with toks:=s.toks + 1 }) hpt .tok (Nat.le_add_left 1 _);refine wpAny_bind (P0.push g₀ (by decide) (v:=[33]) ⟨⟨by decide,by decide⟩,s.toks,rfl⟩ fun s1 P1=>?_)
 rw [if_neg (show ¬ ((1:Int) == 0)=true from by decide)];have P1:Pcs hb s₀ O p [[33]] s1:=P1;refine wpAny_bind ?_;unfold Builtin.Re.reNewMatch;dsimp only;rw [h4,h5,h2,h3];refine wpAny_bind (wpAny_newTuple (items:=[rawInt 1,rawInt 2,rawInt 1,rawInt 2]) ?_ (by decide));generalize hH2:s1.heap.push { cls := .type "tuple",data := .seq [rawInt 1,rawInt 2,rawInt 1,rawInt 2].toArray } = H2;have hk2:∀ b o,s1.heap.get? b=some o→H2.get? b=some o:=fun b o e=>hH2▸Heap.get?_push_of_some _ e
 have hT2:H2.get? s1.heap.objs.size=some { cls := .type "tuple",data := .seq [rawInt 1,rawInt 2,rawInt 1,rawInt 2].toArray } := hH2▸Heap.get?_push_size _ rfl;have P2:=P1.run (s' := { s1 with heap:=H2 }) hpt (.keeps (tk:=s1.toks) hk2) P1.tk;refine wpAny_newObj_type ?_;generalize hH3:H2.push { cls := .type "re.Match",dict:=none,data := .fields [.str ⟨#[33,c]⟩ t,.ref 43,rawInt ↑(0:Nat),rawInt ↑[33,c].length,rawInt m.lastindex,.ref s1.heap.objs.size].toArray } = H3;have hk3:∀ b o,H2.get? b=some o→H3.get? b=some o:=fun b o e=>hH3▸Heap.get?_push_of_some _ e
 have hM3:H3.get? H2.objs.size=some { cls := .type "re.Match",dict:=none,data := .fields [.str ⟨#[33,c]⟩ t,.ref 43,rawInt ↑(0:Nat),rawInt ↑[33,c].length,rawInt m.lastindex,.ref s1.heap.objs.size].toArray } := hH3▸Heap.get?_push_size _ rfl;have P3:=P2.run (s' := { s1 with heap:=H3 }) hpt (.keeps (s := { s1 with heap:=H2 }) (tk:=s1.toks) hk3) P1.tk;refine wpAny_bind (wpAny_holding ?_);rw [if_pos (show ((1:Int) == 1)=true from rfl)];refine hcall _ _ P3.kp P3.tk ⟨t,_,_,_,_,_,_,_,hM3,hk3 _ _ hT2⟩ _ _ fun rv s4 k4 t4 r4=>?_
 have P4:=P3.run hpt k4 t4;obtain ⟨z4,u4,rfl⟩:=id r4;rw [if_pos (by simp)];refine wpAny_bind (P4.push g₀ (by decide) r4 fun s5 P5=>?_)
 have P5:Pcs hb s₀ O p [[33],[92,c]] s5:=P5;refine wpAny_pure ⟨Code.quiet_builtin _ (by decide +kernel),?_⟩;refine loop_no (n:=1) (dn:=2) (st:=2) (must:=false) hp g₀ hO ⟨by show 2≤small;decide,List.forall_mem_cons.mpr ⟨by decide,List.forall_mem_cons.mpr ⟨hc2,fun _ q=>nomatch q⟩⟩⟩ (by show 2≤64;decide) P5 (by show 2≤32;decide) hpt h6 (.inr (by simp)) (fun ps' e=>?_) fun rv s6 k6 r6=>?_
 ·rw [if_neg (show ¬ 2<[33,c].length from by simp)] at e;subst e;exact ⟨⟨by show 3≤small;decide,(List.forall_mem_cons (p:=fun d=>d<1114112) (a:=33) (l:=[92,c])).mpr ⟨by decide,List.forall_mem_cons.mpr ⟨by decide,List.forall_mem_cons.mpr ⟨hc2,fun _ q=>nomatch q⟩⟩⟩⟩,by show 3≤small;decide⟩
 ·rw [if_neg (show ¬ 2<[33,c].length from by simp)] at r6;exact hR rv s6 k6 r6
end
end Mine
namespace Mine
open PySem PyProof.Rows PySem.Spec
theorem zat:PlainAttrs "re.Match" :=
 ⟨⟨"object.__getattribute__",by rw [typeLookup_type,builtinLookup_eq_fast];kernel_rfl,by decide +kernel⟩,by rw [typeLookup_type,builtinLookup_eq_fast];kernel_rfl⟩
theorem A0:PySem.Slot "re.Match" "group" "re.Match.group" :=
 .of (owner := "re.Match") (n := "group") (by rw [typeLookup_type,builtinLookup_eq_fast];kernel_rfl) (by decide +kernel) (by decide +kernel) (by decide +kernel)
  (by first | exact .inl (by decide +kernel) | exact .inr (by decide +kernel)) (by rw [isSubtype_type];kernel_rfl)
theorem zag:entryFor table "re.Match.group" = some Builtin.«re.Match.group» := entryFor_of_tree (by kernel_rfl)
theorem zax:typeOf (.builtin "re.Match.group")=pure (.type "method_descriptor"):=by show builtinType _=_;rw [builtinType_eq_fast];kernel_rfl
theorem zad (a b:Value):argsOk "re.Match.group" ⟨[a,b],[]⟩:=by unfold argsOk;kernel_rfl
section
variable {prog:Program} {w:World} {A:Around} {E:Value→Shared→Prop} {s s₀:Shared} {hb:HB} {O:Addr→Prop}
theorem group_ok {mt:Addr} {c:Nat} {t:Tok} {Q:Value→Shared→Prop} (hm:R4 s.heap mt [33,c]) (hQ:Q (.str ⟨#[c]⟩ s.toks) { s with toks:=s.toks + 1 }):wpAny (model prog w) A (call (.builtin "re.Match.group") [.ref mt,.int 1 t]) Q E s:=by
 refine z6 fun K0=>?_
 obtain ⟨u,a,b,d,tp,n1,n2,dd,h1,h2⟩:=hm;refine K0 ?_;clear K0;refine wpAny_call_entry A0 ⟨_,h1,rfl⟩ zag ?_ (zad _ _);refine wpAny_bind (wpAny_of_eq (a:=()) (by rfl) ?_);refine wpAny_bind ?_;refine wpAny_bind (wpAny_fieldsOf h1 rfl ?_);refine wpAny_bind (wpAny_bind (wpAny_seqItems h2 rfl (wpAny_pure (wpAny_pure ?_))));refine wpAny_bind ?_;have e1:asInt? (.int 1 t)=pure (some 1):=rfl;have e2:asIndex (.int 1 t)=pure 1:=rfl;refine wpAny_bind (wpAny_of_eq e1 ?_);rw [if_pos (by rfl)];refine wpAny_bind (wpAny_of_eq e2 ?_);have key:Array.map Builtin.Re.reRawOf ((some #[rawInt 1,rawInt 2,rawInt 1,rawInt 2]).getD #[]) = #[1,2,1,2]:=by simp [Builtin.Re.reRawOf,rawInt]
 rw [key];refine wpAny_ite_false (by rfl) ?_;refine wpAny_pure ?_;refine wpAny_bind ?_;unfold Builtin.Re.reGroupText;dsimp only;refine wpAny_ite_false (by rfl) ?_;refine wpAny_bind (wpAny_of_eq (a:=(#[33,c],0)) rfl ?_);refine N3 (l:=[33,c]) (b:=1) (e:=2) (by show 2≤64;decide) ?_;exact wpAny_pure ⟨_,rfl,hQ⟩
set_option backward.match.sparseCases true in
theorem lam_body {env:Env} {la:Arguments} {lb:Expr} {ls:Scope} {mt:Addr} {c:Nat} {mp:Str→Option Value} (L:N7 la lb ls) (hsc:env.scope=ls) (hn:s.heap.Ns env.locals mp) (hv:∀ m pm,la.args=[⟨m,none,pm⟩]→mp m=some (.ref mt)) (hm:R4 s.heap mt [33,c]) (hc:c<1114112) (ht:1≤s.toks) (hO:OkO O s.heap)
  {Q:Value→Shared→Prop} (hQ:∀ rv tk,VR s.heap O (.str [92,c]) rv→Q rv { s with toks:=tk }):wpAny (model prog w) A (eval lb env) Q E s:=by
 obtain ⟨m,pm,k1,p1,p2,ap,k2,p3,p,k3,p4,p5,p6,rfl,rfl,hline,om,hk,hco,hge,hns⟩:=L.ex;have hun:U2 env [.Constant (.int 1) k2 p3]:=fun _=>⟨rfl,rfl⟩
 have hl:env.scope.names.lookup m=some .local:=by
  rw [hsc,hns];simp [List.lookup]
 refine wpAny_BinOp (wpAny_Constant_str (k:=k1) (pos:=p1) ?_);generalize hs1 : { s with toks:=s.toks + 1 } = s1;have hh1:s1.heap=s.heap:=by rw [← hs1]
 have ht1:1≤s1.toks:=by rw [← hs1];exact Nat.le_add_left 1 _
 rw [arm_eval_BoolOp];show wpAny _ _ (do
  let v ← eval (.Call (.Attribute (.Name m p2) ("group" : Str) ap) [.Constant (.int 1) k2 p3] [] p) env
  standAt p5
  let t ← holding [v] (PySem.truthy v)
  match BoolOp.Or,t with
  | .And,false | .Or,true=>pure v
  | _,_=>boolOp p5 .Or (evalEach [.Constant (.str "") k3 p4] env)) _ _ _
 refine wpAny_bind ?_;have hm1:R4 s1.heap mt [33,c]:=hh1.symm▸hm;refine wpAny_Call_method (T0 rfl ..) (T3 hun (by show 1<20;decide)) hline zat A0 zax (ldG (hh1.symm▸hn) (hv m pm rfl) ?_ (by rw [hsc];exact hk) hl (l8 om).1);refine z6 fun K0=>?_
 obtain ⟨u,a,b,d,tp,n1,n2,dd,hh,hh2⟩:=id hm1;refine K0 ?_;clear K0;refine ⟨⟨_,hh,rfl⟩,(fun b e=>by cases e;exact ⟨_,hh,rfl⟩),?_⟩
 refine Calls.callWith_builtin (hun p).1 ?_;refine Calls.evalArgs_plain (Calls.spliced_cons ?_);refine wpAny_Constant_int (k:=k2) (pos:=p3) ?_;refine Calls.spliced_nil ?_;refine group_ok (by exact hm1) ?_;refine wpAny_bind (wpAny_standAt (wpAny_bind (wpAny_holding ?_)));refine PySem.P.truthy_str (show ¬ (((1:Nat):Int)≥2 ^ 63) from by decide) ?_;have e1:(((⟨#[c]⟩:Str).length:Int) != 0)=true:=rfl;rw [e1];refine wpAny_pure ?_;refine PyProof.Rows.add_str (fun t' tk=>?_) (by show 1 + 1≤sizeLine;decide)
 have e2:(("\\" : Str) ++ (⟨#[c]⟩:Str))=⟨[92,c].toArray⟩:=str_app [92] [c];rw [e2];have:=hQ (.str ⟨[92,c].toArray⟩ t') tk ⟨⟨by show 2≤small;decide,List.forall_mem_cons.mpr ⟨by decide,List.forall_mem_cons.mpr ⟨hc,fun _ q=>nomatch q⟩⟩⟩,t',rfl⟩
 rw [← hs1];exact this
end
end Mine
namespace Mine
open PySem PyProof.Rows PySem.Spec
section
variable {prog:Program} {w:World} {A:Around} {hb:HB} {Γ:y9} {c:CT} {env:Env} {s₀ s:Shared} {O₀:Addr→Prop} {ow:Nat→Option Addr} {σ:z9}
theorem closure_one {sc:Scope} {v:Str} (h:sc.names=[(v,NameKind.local)]) (env:Env):closureFor sc env=pure []:=by
 simp only [closureFor,h];rfl
theorem hard_lim {hb:HB} {h:Heap} (hbase:U1 hb.h) (hh:Hard hb.h h):h.NoLimit :=
 let ⟨mc,h1,h2⟩:=hbase.lim;⟨mc,(let ⟨o,es,ep,e,r⟩:=h1;⟨o,es,ep,hh _ _ (by decide) e,r⟩),h2⟩
theorem lam_make {la:Arguments} {lb:Expr} {ls:Scope} {lp:Pos} (fx:Fx prog w A hb Γ c env s₀) (hT:c.inT=true) (L:N7 la lb ls) (x:SS hb s₀ c env O₀ ow σ s) {Q:Value→Shared→Prop} {E:Value→Shared→Prop}
  (hQ:∀ f s' qual pm c' q,Kp hb s s'→1≤s'.toks→s'.heap.get? f=some { cls := .type "function",data := .func (PySem.W.kla_fn "<lambda>" qual la lb ls [] pm (.ref c') .none) } → s'.heap.CodeRec (.ref c') q→c'≠x9→Q (.ref f) s') :
  wpAny (model prog w) A (eval (.Lambda la lb ls lp) env) Q E s:=by
 have g₀:=fx.g₀;refine z6 fun K0=>?_
 obtain ⟨m,pm,k1,p1,p2,ap,k2,p3,p,k3,p4,p5,p6,hla,_,hline,om,hk,hco,hge,hns⟩:=L.ex;refine K0 ?_;clear K0;refine PySem.W.kla_eval (by rw [hla];rfl) ?_;refine wpAny_with_toks x.tk ?_;rw [makeFunction_eq];simp only [List.zip_nil_right,List.filterMap_nil,List.isEmpty_nil,if_true,pure_bind];unfold makeTail;rw [closure_one hns env];refine wpAny_bind (wpAny_pure ?_);simp only [List.isEmpty_nil,if_true];refine wpAny_bind (wpAny_pure ?_);have g:=x.kp.gs g₀;refine wpAny_bind (fnCode_ok (fx.code hT) g fun c' q s1 k1 hR hcA=>?_)
 have g1:=k1.gs g;refine z6 fun K0=>?_
 refine x32 fx.base.bm fun mg bm ob BM hbmA=>?_
 refine K0 ?_;clear K0;have nsG:s1.heap.Ns env.globals mg:=by
  rw [x.fr.fk.gl];refine x32 BM.ns fun o es ep e r=>?_
  exact ⟨o,es,ep,g1.hard _ _ (by decide) e,r⟩
 refine wpAny_bind (wpAny_builtinsFor nsG BM.name BM.ne (g1.hard _ _ hbmA BM.obj) BM.cls BM.dict BM.data ?_);refine wpAny_bind (wpAny_nsGet nsG ?_);refine wpAny_bind (wpAny_pure (wpAny_newObj_type (fun htk=>?_) (by size_fits)))
 rw [x.fr.fk.gl];refine hQ _ _ _ _ _ _ (k1.trans (.push (tk:=s1.toks))) htk (Heap.get?_push_size _ rfl) (hR.push _) hcA
theorem callE {a:Addr} {args:Args} {o:Obj} {fd:FuncData} {body:Expr} {q:Str} {R:Result→Shared→Prop} (hroom:A.depth<recursionLimit)
  (ho:s.heap.get? a=some o)
  (hd':o.data = .func fd) (hco:fd.scope.isCoroutine=false) (hgen:fd.scope.isGenerator=false) (hbody:fd.body = .expr body) (hcd:s.heap.CodeRec fd.code q)
  (h:wpAny (model prog w) A.in1 (bindArgs fd args) (fun binds s₁ =>
   wpAny (model prog w) A.in1 (newFunctionEnv fd.scope fd.globals fd.closure binds (q ++ ".<locals>.") (some a) fd.code none fd.builtins)
    (fun env s₂=>s₂.heap.NoLimit∧codeAny (model prog w) A (.expr body env) R s₂) (fun e s'=>R (.error e) s') s₁) (fun e s'=>R (.error e) s') s) :
  codeAny (model prog w) A (.call (.ref a) args) R s:=by
 refine codeAny_of_tree ?_;show wpAny _ A.in1 (callAny (.ref a) args) _ _ s;refine wpAny_bind (m:=load a) (wpAny_load ho ?_);refine z6 fun K0=>?_
 refine x44 hcd fun c oc vs tq hc hoc hdc hq=>?_
 refine K0 ?_;clear K0;simp only [hd',callFunction,hco,hgen,hbody,hc];rw [hc] at h;refine wpAny_bind (m:=field (.ref c) 1) (wpAny_field hoc hdc hq (wpAny_bind (wpAny_pure ?_)));exact wpAny_bind (wpAny_mono h (fun binds s₁ h₁=>wpAny_bind (wpAny_mono h₁ (fun env s₂ h₂=>wpAny_bind (wpAny_enterFrame h₂.1 hroom
  (wpAny_pure (And.intro rfl h₂.2)))) fun _ _ h'=>h')) fun _ _ h'=>h')
theorem lam_call {f mt:Addr} {ch:Nat} {la:Arguments} {lb:Expr} {ls:Scope} {qual:Str} {pm:Value} {c':Addr} {q:Str} {O:Addr→Prop} (hbase:U1 hb.h) (hroom:A.depth<recursionLimit) (g:GS hb s) (hO:OkO O s.heap) (L:N7 la lb ls) (ht:1≤s.toks)
  (hf:s.heap.get? f=some { cls := .type "function",data := .func (PySem.W.kla_fn "<lambda>" qual la lb ls [] pm (.ref c') .none) }) (hcd:s.heap.CodeRec (.ref c') q) (hm:R4 s.heap mt [33,ch]) (hch:ch<1114112)
  {Q:Value→Shared→Prop} {E:Value→Shared→Prop} (hQ:∀ rv s',Kp hb s s'→1≤s'.toks→VR s'.heap O (.str [92,ch]) rv→Q rv s'):wpAny (model prog w) A (call (.ref f) [.ref mt]) Q E s:=by
 refine z6 fun K0=>?_
 obtain ⟨m,pm',k1,p1,p2,ap,k2,p3,p,k3,p4,p5,p6,hla,_,hline,om,hk,hco,hge,hns⟩:=L.ex;refine K0 ?_;clear K0;refine wpAny_with_toks ht (wpAny_call (callE hroom hf rfl hco hge rfl hcd ?_));have hbind:bindArgs (PySem.W.kla_fn "<lambda>" qual la lb ls [] pm (.ref c') .none) ⟨[.ref mt],[]⟩=pure [(m,.ref mt)]:=by
  subst hla;simp [bindArgs,seqItems?];rfl
 rw [hbind];have hcell:∀ y∈ls.names,y.2≠NameKind.cell:=by
  rw [hns];intro y hy;rcases List.mem_cons.mp hy with rfl | hy
  ·exact fun q=>nomatch q
  ·cases hy
 have hbinds:∀ y∈([(m,Value.ref mt)]:List (Str × Value)),ls.names.lookup y.1=some NameKind.local:=by
  intro y hy;rcases List.mem_cons.mp hy with rfl | hy
  ·rw [hns];simp [List.lookup]
  ·cases hy
 refine wpAny_pure (wpAny_newFunctionEnv hcell hbinds (fun h' hn' hs'=>?_) hk)
 have hkk:∀ b o,s.heap.get? b=some o→h'.get? b=some o:=fun b o e=>hs'.extBut b o (Nat.ne_of_lt (Heap.lt_size e)) (Heap.get?_push_of_some _ e)
 have kp:Kp hb s { s with heap:=h',toks:=s.toks + [(m,Value.ref mt)].length } := .keeps hkk;refine ⟨(hard_lim hbase g.hard).keeps hkk,?_⟩;refine PySem.W.kla_codeExpr ?_;have hm':R4 h' mt [33,ch]:=by
  obtain ⟨t,a,b,d,tp,n1,n2,dd,h1,h2⟩:=hm;exact ⟨t,a,b,d,tp,n1,n2,dd,hkk _ _ h1,hkk _ _ h2⟩
 refine lam_body (O:=O) L rfl hn' (fun m2 pm2 e=>?_) hm' hch (Nat.le_add_left 1 _) (hO.kp kp) fun rv tk r=>?_
 ·rw [hla] at e;injection e with e _;injection e with e _;subst e;simp [List.lookup]
 ·intro htk;exact hQ rv _ (kp.trans .tok) htk r
end
end Mine
namespace Mine
open PySem PyProof.Rows PySem.Spec
theorem resub_same:∀ l∈R1,T5 l=l∧l.length≤64∧l≠[]∧∀ c∈l,c<1114112:=by decide
theorem resub_two:∀ l∈U7,∃ c,l=[33,c]∧T5 l=[33,92,c]:=by
 intro l hl;have:l=[33,38]∨l=[33,126]∨l=[33,124]:=by simpa [U7] using hl
 rcases this with rfl | rfl | rfl
 ·exact ⟨38,rfl,rfl⟩
 ·exact ⟨126,rfl,rfl⟩
 ·exact ⟨124,rfl,rfl⟩
section
variable {prog:Program} {w:World} {A:Around} {hb:HB} {Γ:y9} {c:CT} {env:Env} {s₀ s:Shared} {O₀:Addr→Prop} {ow:Nat→Option Addr} {σ:z9}
theorem not_tab {s:Shared} (g:GS hb s) {a:Addr} {o:Obj} (h:s.heap.get? a=some o) (hc:o.cls ≠ .none):a≠x9:=fun q=>by
 refine x12 g.tab fun _ t _=>?_
 have:=t.2;rw [← q,h] at this;obtain rfl:=Option.some.inj this;exact hc rfl
theorem sst_resub {n y z:Str} {i:Nat} {la:Arguments} {lb:Expr} {ls:Scope} {px py ap lp pz cp p:Pos} (fx:Fx prog w A hb Γ c env s₀) (hi:c.slot n=some i) (hT:c.inT=true) (hg:c.glob y=some (.ref 43)) (oy:v7 y=true) (hz:c.slot z=some i) (oz:v7 z=true) (hL:okLam la lb ls=true) (hline:(ap.endLine == cp.line)=true) :
  SSt prog w A hb Γ c env s₀ (.Assign [.Name n px] (.Call (.Attribute (.Name y py) ("sub" : Str) ap) [.Lambda la lb ls lp,.Name z pz] [] cp) p) (.resub i):=by
 intro O₀ ow σ s x fl σ' h Q E hQ;have g₀:=fx.g₀;refine z6 fun K0=>?_
 refine y4 h fun v hv' h1=>?_
 refine v8 h1 fun r hr h2=>?_
 cases h2
 refine y4 hr fun l hl h3=>?_
 refine v9 h3 fun hst h4=>?_
 refine K0 ?_;clear K0;obtain rfl:=Option.some.inj h4;have hv:=a9 hl▸hv';rw [exec_Assign_Name _ _ _ _ _ rfl];refine wpAny_bind (wpAny_standAt (wpAny_bind ?_));have hun:U2 env [.Lambda la lb ls lp,.Name z pz]:=fun _=>⟨rfl,rfl⟩
 have L:=lam_of hL;have re:=fx.base.re;refine z6 fun K0=>?_
 obtain ⟨op,vs,cd,it,ho,hc,hdi,_⟩:=id re;refine K0 ?_;clear K0;refine wpAny_Call_method (T0 rfl ..) (T3 hun (by show 2<20;decide)) hline B1 slot_pat_sub type_pat_sub (wpAny_Name (V0 x.fr.fk (x.xc g₀).gs hg ?_) (l8 oy).1);have ho':=(x.xc g₀).gs.hard _ _ (by decide) ho;refine ⟨⟨_,ho',hc⟩,(fun b e=>by cases e;exact ⟨_,ho',hdi⟩),?_⟩
 refine Calls.callWith_builtin (hun cp).1 ?_;refine Calls.evalArgs_plain (Calls.spliced_cons (lam_make fx hT L x fun f s1 qual pm c' q k1 t1 hf hcd hcA=>?_))
 have x1:=x.run g₀ k1 t1;refine Calls.spliced_cons ((Z5 (prog:=prog) (w:=w) (A:=A) (hb:=hb) (Γ:=Γ) (c:=c) (p:=pz) oz hz).val x1.fr (x1.xc g₀) x1.tk (v := .str l) hv _ _ fun rv s2 k2 t2 r2=>?_)
 refine Calls.spliced_nil ?_;have x2:=x1.run g₀ k2 t2;obtain ⟨zl,u,rfl⟩:=id r2;have xc2:=x2.xc g₀;have g2:=xc2.gs;have hfA:f≠x9:=not_tab (k1.gs (x.kp.gs g₀)) hf (fun q=>by cases q)
 have hf2:=k2.soft.get hfA (fun _ _ q=>by cases q) hf
 have hcd2:∀ {s3:Shared},Kp hb s1 s3→s3.heap.CodeRec (.ref c') q:=fun k3=>by
  refine x44 hcd fun cc oo vv tt e1 e2 e3 e4=>?_
  cases e1
  exact ⟨_,oo,vv,tt,rfl,k3.soft.get hcA (fun _ _ q=>by rw [e3] at q;cases q) e2,e3,e4⟩
 have fin:∀ rv s3,Kp hb s2 s3→1≤s3.toks→VR s3.heap (n7 O₀ ow) (.str (T5 l)) rv→wpAny (model prog w) A (standAt px >>= fun _=>bindName env n rv >>= fun _=>pure .next) Q E s3:=fun rv s3 k3 t3 r3=>by
  refine wpAny_bind (wpAny_standAt (wpAny_bind (wpAny_bindName (U0 fx (x2.run g₀ k3 t3) hi r3 fun s4 x4 k4 _=>wpAny_pure ?_))))
  exact hQ _ _ ⟨rfl,_,x4,(KS.kp ((k1.trans k2).trans k3) (x.kp.gs g₀) _).trans k4,fun _ _=>rfl⟩
 refine wpAny_with_toks t2 (sub_start re xc2 hf2 rfl ?_);generalize hH:s2.heap.push { cls := .type "list",data := .seq #[] } = H;have hkH:∀ b o,s2.heap.get? b=some o→H.get? b=some o:=fun b o e=>hH▸Heap.get?_push_of_some _ e
 have hpA:s2.heap.objs.size≠x9:=xc2.off;have P:Pcs hb s2 (n7 O₀ ow) s2.heap.objs.size [] { s2 with heap:=H } :=
  ⟨.keeps (tk:=s2.toks) hkH,Z7 (Nat.le_refl _),⟨[],⟨_,hH▸Heap.get?_push_size _ rfl⟩,rfl⟩,t2⟩
 rcases hst with hst | hst
 ·refine x04 (resub_same l hst :) fun e1 e2 e3 e4=>?_
  have hpos:0<l.length:=List.length_pos_iff.mpr e3;refine loop_no (n:=0) (dn:=0) (st:=0) re g2 xc2.ok zl e2 P (by decide) hpA (twin_no l hst) (.inl hpos) (fun ps' e=>?_) fun rv s3 k3 r3=>?_
  ·rw [if_pos hpos] at e;subst e;exact ⟨zl,zl.1⟩
  ·rw [if_pos hpos] at r3;intro t3;refine fin rv s3 k3 t3 ?_;rw [e1];exact r3
 ·refine x12 (resub_two l hst :) fun ch o0 e1=>?_;obtain rfl:=o0
  have hch:ch<1114112:=zl.2 ch (List.mem_cons_of_mem _ (List.mem_cons_self ..));refine loop_yes hst re g2 xc2.ok P hpA (fun s3 mt k3 t3 hm Q' E' hQ'=>?_) fun rv s3 k3 r3=>?_
  ·exact lam_call (A:=A.in1) fx.base fx.room (k3.gs g2) (xc2.ok.kp k3) L t3 (k3.soft.get hfA (fun _ _ q=>by cases q) hf2) (hcd2 (k2.trans k3)) hm hch hQ'
  ·intro t3;refine fin rv s3 k3 t3 ?_;rw [e1];exact r3
end
end Mine
namespace Mine
open PySem PyProof.Rows PySem.Spec
section
variable {prog:Program} {w:World} {A:Around} {hb:HB} {Γ:y9} {c:CT} {env:Env} {s₀ s:Shared} {O₀ O₁:Addr→Prop} {ow:Nat→Option Addr} {σ:z9}
theorem sst_bad {st:Stmt} {n:Nat} : SSt prog w A hb Γ c env s₀ st (.bad n):=by
 intro O₀ ow σ s x fl σ' h Q E hQ;exact w9 h
theorem sst_down {f:Str} {n:Str} {i:Nat} {np fp cp p q1 q2:Pos} {kn} {a e:Expr} {pa pe:PE} {body:List Stmt} (fx:Fx prog w A hb Γ c env s₀) (hf:v7 f=true) (hg:c.glob f=some (.type "range")) (sa:j7 a=true) (se:j7 e=true) (ha:SE prog w A hb Γ c a pa) (he:SE prog w A hb Γ c e pe) :
  SSt prog w A hb Γ c env s₀ (.For (.Name n np) (.Call (.Name f fp) [a,e,.UnaryOp .USub (.Constant (.int 1) kn q1) q2] [] cp) body [] p) (.down i pa pe):=by
 intro O₀ ow σ s x fl σ' h Q E hQ;refine z6 fun K0=>?_
 obtain ⟨u',hu',h1⟩:=bind_some h;obtain ⟨v',hv',h2⟩:=bind_some h1;obtain ⟨u,iu,h3⟩:=bind_some h2;obtain ⟨v,iv,h4⟩:=bind_some h3;obtain ⟨hz,h5⟩:=d0 h4;refine K0 ?_;clear K0;obtain ⟨rfl,rfl⟩:=sPr h5;have hu:=U6 iu▸hu';have hv:=U6 iv▸hv';refine wpAny_For ?_ (fun _=>rfl)
 have hun:=W0 (env:=env) (es:=[a,e,.UnaryOp .USub (.Constant (.int 1) kn q1) q2]) (by rw [List.all_cons,sa,List.all_cons,se];rfl) cp;refine wpAny_Call_NameR (wpAny_Name (V0 x.fr.fk (x.xc fx.g₀).gs hg ?_) (l8 hf).1);refine PySem.callWith_type hun.1 ?_;rw [Y3 sa];refine Calls.evalArgs_plain (Calls.spliced_cons (ha.val x.fr (x.xc fx.g₀) x.tk hu _ _ fun rv s1 k1 t1 r1=>?_))
 rw [Y3 se];have x1:=x.run fx.g₀ k1 t1;refine Calls.spliced_cons (he.val x1.fr (x1.xc fx.g₀) t1 hv _ _ fun rv2 s2 k2 t2 r2=>?_)
 rw [Y3 (show j7 (.UnaryOp .USub (.Constant (.int 1) kn q1) q2)=true from rfl)];have x2:=x1.run fx.g₀ k2 t2;refine Calls.spliced_cons ((se_neg (Γ:=Γ)).val (v := .int (-1)) x2.fr (x2.xc fx.g₀) t2 rfl _ _ fun rv3 s3 k3 t3 r3=>?_)
 have x3:=x2.run fx.g₀ k3 t3;refine Calls.spliced_nil ?_;obtain ⟨t,rfl⟩:=r1;obtain ⟨t',rfl⟩:=r2;obtain ⟨t'',rfl⟩:=r3;refine z6 fun K0=>?_
 obtain ⟨z1,z2,z3⟩:=hz;refine K0 ?_;clear K0;refine call_range_3 (by decide) ?_ (.inl (PyProof.noPylong_small (by decide)));have hsz:Builtin.Range.rangeSize u v (-1)=0:=by
  unfold Builtin.Range.rangeSize;rw [if_neg (by decide),if_neg (by lia)]
 have hsm:Builtin.Range.small u v (-1)=true:=by
  unfold Builtin.Range.small;rw [hsz];simp only [Builtin.Range.rangeFitsLong,Bool.and_eq_true,Bool.or_eq_true,decide_eq_true_eq,beq_iff_eq];refine ⟨⟨⟨⟨?_,?_⟩,?_⟩,?_⟩,.inl trivial⟩ <;> lia
 refine wpAny_pyIter_range (IsRange.new ..) hsm ?_;rw [hsz];generalize hH1:s3.heap.push { cls := .type "range",data := .fields #[.int u t,.int v t',.int (-1) t''] } = H1;have hk1:∀ b o,s3.heap.get? b=some o→H1.get? b=some o:=fun b o e=>hH1▸Heap.get?_push_of_some _ e
 generalize hH2:H1.push { cls := .type "range_iterator",data := .fields #[rawInt u,rawInt 0,rawInt (-1)] } = H2;have hk2:∀ b o,H1.get? b=some o→H2.get? b=some o:=fun b o e=>hH2▸Heap.get?_push_of_some _ e
 have hit:IsRangeIter H2 H1.objs.size u 0 (-1):=hH2▸Heap.get?_push_size _ rfl;have hne:∀ b o,s3.heap.get? b=some o→b≠H1.objs.size:=fun b o e=>Nat.ne_of_lt (Heap.lt_size (hk1 b o e))
 refine codeAny_loop' rfl (fun _ s'=>s' = { s3 with heap:=H2 }) (fun m s' hs'=>?_) 0 rfl
 subst hs';show wpAny _ A ((forTurn (.Name n np) (.ref H1.objs.size) body [] env).onRaise (fun x=>do noteFrame x env;theTreesLotGoes x)) _ _ _
 refine wpAny_noted ?_;simp only [forTurn];refine wpAny_bind (wpAny_standAt (wpAny_bind (wpAny_onRaise ?_)));refine wpAny_pyNext_range_end fx.cx.handled hit (by decide) fun h' he'=>wpAny_pure (.inr ⟨rfl,codeAny_block (wpAny_execs_nil (hQ _ _ ?_))⟩)
 have kp4:Kp hb s3 { s3 with heap:=h' } := .keeps (tk:=s3.toks) fun b o e=>he' b o (hne b o e) (hk2 b o (hk1 b o e))
 exact ⟨rfl,ow,x3.run fx.g₀ kp4 t3,.kp (((k1.trans k2).trans k3).trans kp4) (x.kp.gs fx.g₀) ow,fun _ _=>rfl⟩
end
section
variable {prog:Program} {w:World} {A:Around} {hb:HB} {Γ:y9} {c:CT} {env:Env} {s₀:Shared}
theorem asgF_of {f:Sub} (fx:Fx prog w A hb Γ c env s₀) (F:SF prog w A hb Γ f) (hU:∀ {elt:Expr} {gens:List Comprehension} {sc:Scope} {pos:Pos} {pe:PE},f c (.ListComp elt gens sc pos)=some pe→SCu prog w A hb Γ c elt gens sc pos pe)
  {x:Str} {p q:Pos} {i:Nat} {v:Expr} {ps:PS} (hi:c.slot x=some i) (h:asgF f c x i v=some ps):SSt prog w A hb Γ c env s₀ (.Assign [.Name x p] v q) ps:=by
 rcases j6 h with h1 | h1
 ·refine v9 h1 fun h2 h3=>?_
  refine Exists.elim (nilE_ok (y5 h2) :) fun p' e=>?_
  obtain rfl:=Option.some.inj h3;rw [e];exact sst_own fx hi
 rcases j6 h1 with h2 | h2
 ·refine y4 h2 fun k hk h3=>?_
  refine z6 fun K0=>?_
  refine y4 h3 fun y hy h4=>?_
  refine v9 h4 fun h5 h6=>?_
  refine v8 h6 fun j hj h7=>?_
  refine Exists.elim (d9 hy :) fun p' e=>?_
  refine K0 ?_;clear K0
  cases h7
  rw [att_ok hk,e,j3 (y5 h5)];exact sst_app fx (v6 h5) hi hj
 rcases j6 h2 with h3 | h3
 ·refine y4 h3 fun k hk h4=>?_
  refine z6 fun K0=>?_
  refine y4 h4 fun y hy h5=>?_
  refine y4 h5 fun r hr h6=>?_
  refine y4 h6 fun l hl h7=>?_
  refine y4 h7 fun z hz h8=>?_
  refine v9 h8 fun h9 h10=>?_
  refine x22 (O2 hk :) fun ap p' e1 hline=>?_
  refine Exists.elim (d9 hy :) fun p1 e2=>?_
  refine Exists.elim (lamE_ok hl :) fun p2 e3=>?_
  refine Exists.elim (d9 hz :) fun p3 e4=>?_
  refine K0 ?_;clear K0;obtain rfl:=Option.some.inj h10;rw [e1,e2,V7 hr,e3,e4,j3 (y5 (y5 (y5 (y5 (y5 (y5 h9))))))];exact sst_resub fx hi (v6 (y5 (y5 (y5 h9)))) (j3 (v6 (y5 (y5 (y5 (y5 (y5 h9))))))) (v6 (y5 (y5 h9))) (j3 (v6 (y5 (y5 (y5 (y5 h9)))))) (v6 (y5 h9)) (v6 h9) hline
 rcases j6 h3 with h4 | h4
 ·refine y4 h4 fun k hk h5=>?_
  refine z6 fun K0=>?_
  refine y4 h5 fun sp hsp h6=>?_
  refine y4 h6 fun g hg h7=>?_
  refine y4 h7 fun l hl h8=>?_
  refine y4 h8 fun o0 hq h9=>?_;obtain ⟨t,it,ifs,a⟩:=o0
  refine y4 h9 fun z hz h10=>?_
  refine v9 h10 fun h11 h12=>?_
  refine v8 h12 fun j hj h13=>?_
  refine x22 (O2 hk :) fun ap p' e1 hline=>?_
  refine x21 (strE_ok hsp :) fun k1 p1 e2=>?_
  refine Exists.elim (gexE_ok hl :) fun p2 e3=>?_
  refine Exists.elim (d9 hz :) fun p3 e4=>?_
  refine K0 ?_;clear K0;have e5:it=_:=e4;have e6:ifs=[]:=List.isEmpty_iff.mp (v6 (y5 (y5 h11)));have e7:a=0:=j3 (v6 (y5 h11))
  cases h13
  rw [e1,e2,X3 hg,e3,X3 hq,e5,e6,e7,j3 (y5 (y5 (y5 (y5 (y5 (y5 h11)))))),j3 (v6 (y5 (y5 (y5 (y5 (y5 h11))))))];exact sst_djoin fx hi (v6 (y5 (y5 (y5 (y5 h11))))) (v6 h11) hline hj (v6 (y5 (y5 (y5 h11))))
 ·refine v8 h4 fun e he h5=>?_
  cases h5
  exact A8 fx hi (F.sv he) (F.se he) fun elt gens sc pos q=>hU (q▸he)
theorem asg_of {f:Sub} (fx:Fx prog w A hb Γ c env s₀) (F:SF prog w A hb Γ f) (hU:∀ {elt:Expr} {gens:List Comprehension} {sc:Scope} {pos:Pos} {pe:PE},f c (.ListComp elt gens sc pos)=some pe→SCu prog w A hb Γ c elt gens sc pos pe)
  {t v:Expr} {q:Pos} {ps:PS} (h:asg1 f c t v=some ps):SSt prog w A hb Γ c env s₀ (.Assign [t] v q) ps:=by
 rcases j6 h with h1 | h1
 ·refine z6 fun K0=>?_
  refine y4 h1 fun x hx h2=>?_
  refine y4 h2 fun i hi h3=>?_
  refine Exists.elim (d9 hx :) fun p e=>?_
  refine K0 ?_;clear K0;rw [e];exact asgF_of fx F hU hi h3
 ·refine z6 fun K0=>?_
  refine y4 h1 fun ts hts h2=>?_
  refine y4 h2 fun t2 ht2 h3=>?_
  refine y4 h3 fun vs hvs h4=>?_
  refine y4 h4 fun r hr h5=>?_
  refine y4 h5 fun o0 hij h6=>?_;obtain ⟨i,j⟩:=o0
  refine y4 h6 fun o0 hab h7=>?_;obtain ⟨a,b⟩:=o0
  refine ifn_k h7 fun hc h8=>?_
  refine Y4 hij fun i' j' hi hj e0=>?_
  refine Y4 hab fun a' b' ha hb' e0'=>?_
  cases e0;cases e0'
  refine y4 hi fun n1 hn1 hi=>?_
  refine y4 hj fun n2 hn2 hj=>?_
  refine x21 (tupE_ok hts :) fun k1 p1 e1=>?_
  refine x21 (tupE_ok hvs :) fun k2 p2 e2=>?_
  refine Exists.elim (d9 hn1 :) fun p3 e3=>?_
  refine Exists.elim (d9 hn2 :) fun p4 e4=>?_
  have hcon:=Bool.eq_false_iff.mpr hc;rw [V7 hr] at hcon;obtain rfl:=Option.some.inj h8;refine K0 ?_;clear K0;rw [e1,e2,V7 ht2,V7 hr,e3,e4];exact sst_tup2 fx hi hj (F.sv ha) (F.sv hb') (F.se ha) (F.se hb') hcon
theorem expr_of {f:Sub} (fx:Fx prog w A hb Γ c env s₀) (F:SF prog w A hb Γ f) {v:Expr} {q:Pos} {ps:PS} (h:exprF f c v=some ps):SSt prog w A hb Γ c env s₀ (.Expr v q) ps:=by
 rcases j6 h with h1 | h1
 ·refine y4 h1 fun k hk h2=>?_
  refine z6 fun K0=>?_
  refine y4 h2 fun x hx h3=>?_
  refine y4 h3 fun i hi h4=>?_
  refine y4 h4 fun a ha h5=>?_
  refine y4 h5 fun e he h6=>?_
  refine v9 h6 fun h7 h8=>?_
  refine x22 (O2 hk :) fun ap p' e1 hline=>?_
  refine Exists.elim (d9 hx :) fun p1 e2=>?_
  refine K0 ?_;clear K0;obtain rfl:=Option.some.inj h8;rw [e1,e2,X3 ha,j3 (y5 h7)];exact sst_push fx (v6 h7) hline hi (F.sv he) (F.se he)
 ·refine y4 h1 fun k hk h2=>?_
  refine z6 fun K0=>?_
  refine y4 h2 fun x hx h3=>?_
  refine y4 h3 fun i hi h4=>?_
  refine y4 h4 fun m hm h5=>?_
  refine y4 h5 fun j hj h6=>?_
  refine y4 h6 fun a ha h7=>?_
  refine y4 h7 fun e he h8=>?_
  refine v9 h8 fun h9 h10=>?_
  refine Exists.elim (d9 hx :) fun p1 e2=>?_
  refine K0 ?_;clear K0;obtain rfl:=Option.some.inj h10;rw [cal_ok hk,e2,X3 ha];exact sst_pushA fx h9 hi hj (F.sv he) (F.se he)
theorem for_of {f:Sub} {g:SubS} (fx:Fx prog w A hb Γ c env s₀) (F:SF prog w A hb Γ f) (G:∀ l,SSs prog w A hb Γ c env s₀ l (g c l)) {t it:Expr} {b:List Stmt} {q:Pos} {ps:PS} (h:forF f g c t it b=some ps):SSt prog w A hb Γ c env s₀ (.For t it b [] q) ps:=by
 rcases j6 h with h1 | h1
 ·refine y4 h1 fun x hx h2=>?_
  refine z6 fun K0=>?_
  refine y4 h2 fun i hi h3=>?_
  refine y4 h3 fun k hk h4=>?_
  refine y4 h4 fun v hv h5=>?_
  refine y4 h5 fun a ha h6=>?_
  refine y4 h6 fun u hu h7=>?_
  refine v9 h7 fun h8 h9=>?_
  refine Y4 h9 fun pa pe ea ee e0=>?_
  refine Exists.elim (d9 hx :) fun p1 e1=>?_
  refine x23 (globE_ok hv :) fun y p2 e2 hy hg=>?_
  refine Exists.elim (usubE_ok hu :) fun p3 e3=>?_
  refine x21 (intIs_ok (v6 h8) :) fun k1 p4 e4=>?_
  refine K0 ?_;clear K0;rw [isTy_ok (y5 h8)] at hg
  cases e0
  rw [e1,cal_ok hk,e2,trip_ok ha,e3,e4];exact sst_down fx hy hg (F.sv ea) (F.sv ee) (F.se ea) (F.se ee)
 ·refine y4 h1 fun tg ht h2=>?_
  rcases j6 h2 with h3 | h3
  ·refine y4 h3 fun y hy h4=>?_
   refine z6 fun K0=>?_
   refine v9 h4 fun h5 h6=>?_
   refine y4 h6 fun j hj h7=>?_
   refine v9 h7 fun h8 h9=>?_
   refine Exists.elim (d9 hy :) fun p1 e1=>?_
   refine K0 ?_;clear K0;obtain rfl:=Option.some.inj h9;rw [e1];exact sst_forOwn fx (y5 (y5 h8)) hj ht (v6 (y5 h8)) (Bool.not_eq_true' _▸v6 h8) (G b)
  ·refine ifn_k h3 fun _ h4=>?_
   refine z6 fun K0=>?_
   refine y4 h4 fun k hk h5=>?_
   refine v9 h5 fun hf h6=>?_
   refine K0 ?_;clear K0;obtain rfl:=Option.some.inj h6;exact sst_for fx (V3 F fx.cx.handled hk).1 (S9 (V3 F fx.cx.handled hk).2) ht hf (G b)
theorem stepS_of {f:Sub} {g:SubS} (fx:Fx prog w A hb Γ c env s₀) (F:SF prog w A hb Γ f) (hU:∀ {elt:Expr} {gens:List Comprehension} {sc:Scope} {pos:Pos} {pe:PE},f c (.ListComp elt gens sc pos)=some pe→SCu prog w A hb Γ c elt gens sc pos pe)
  (G:∀ l,SSs prog w A hb Γ c env s₀ l (g c l)) {st:Stmt} {ps:PS} (h:stepS f g c st=some ps):SSt prog w A hb Γ c env s₀ st ps:=by
 cases st with
 | Assign ts v q=>refine y4 h fun t ht h1=>?_;rw [X3 ht];exact asg_of fx F hU h1
 | AugAssign t op v q =>
  refine z6 fun K0=>?_
  refine y4 h fun x hx h1=>?_
  refine v9 h1 fun h2 h3=>?_
  refine Y4 h3 fun i e hi he o0=>?_;obtain rfl:=o0
  refine Exists.elim (d9 hx :) fun p1 e1=>?_
  refine K0 ?_
  clear K0
  rw [e1];exact sst_aug fx h2 hi (F.se he)
 | Expr v q=>exact expr_of fx F h
 | If t a b q=>refine v8 h fun e he o0=>?_;obtain rfl:=o0;exact sst_ite fx (F.se he) (G a) (G b)
 | While t b o q=>refine v9 h fun h1 h2=>?_;refine v8 h2 fun e he o0=>?_;obtain rfl:=o0;rw [List.isEmpty_iff.mp h1];exact sst_whl fx (F.se he) (G b)
 | For t it b o q=>refine v9 h fun h1 h2=>?_;rw [List.isEmpty_iff.mp h1];exact for_of fx F G h2
 | Return v q =>
  refine v8 h fun e he o0=>?_;obtain rfl:=o0
  induction v with
  | none=>cases he;exact sst_ret0 fx
  | some v=>exact sst_ret fx (F.se he)
 | Break q=>cases h;exact sst_brk
 | Assert t m q=>refine v9 h fun h1 h2=>?_;refine v8 h2 fun e he o0=>?_;obtain rfl:=o0;rw [Option.isNone_iff_eq_none.mp h1];exact sst_asrt fx (F.se he)
 | _=>exact w9 h
theorem sst_getD {st:Stmt} {x:Option PS} (h:∀ ps,x=some ps→SSt prog w A hb Γ c env s₀ st ps):SSt prog w A hb Γ c env s₀ st (x.getD (.bad 24)):=by
 induction x with
 | none=>exact sst_bad
 | some p=>exact h p rfl
theorem soundN (fx:Fx prog w A hb Γ c env s₀) (n:Nat):∀ l,SSs prog w A hb Γ c env s₀ l (cSn n c l):=by
 induction n with
 | zero=>intro l;induction l with
  | nil=>exact sss_nil
  | cons s r ih=>exact sss_cons sst_bad ih
 | succ n ihn=>intro l;induction l with
  | nil=>exact sss_nil
  | cons s r ih=>exact sss_cons (sst_getD fun ps h=>stepS_of fx (sound fx.cx eDeep) (fun hc=>soundU fx.cx (sound fx.cx 23) (comp_inv hc)) ihn h) ih
theorem soundSs (fx:Fx prog w A hb Γ c env s₀) (st:List Stmt):SSs prog w A hb Γ c env s₀ st (cSs c st):=soundN fx 12 st
end
end Mine
namespace Mine
open PySem PyProof.Rows PySem.Spec
structure Room (A:Around) (r:Nat):Prop where
 handled:A.handled=none
 depth:A.depth + r<recursionLimit
 units:A.units + 3 * r + 64<cLine
theorem Room.deeper {A:Around} {r:Nat} (x:Room A (r + 1)) (env:Env):Room (A.deeper env) r :=
 ⟨x.handled,by have:=x.depth;show A.depth + 1 + r<_;lia,by have:=x.units;show A.units + 3 + 3 * r + 64<_;lia⟩
noncomputable def HB.deep (hb:HB) (L:Addr):HB:=⟨hb.h,hb.own::hb.fm,L⟩
theorem GS.deep {hb:HB} {s:Shared} {L:Addr} (g:GS hb s) (own:NFat s.heap hb.own):GS (hb.deep L) s :=
 ⟨g.hard,g.tab,g.gens,fun a ha=>by
  rcases List.mem_cons.mp ha with rfl | ha
  ·exact own
  ·exact g.fd a ha⟩
theorem Kp.up {hb:HB} {s s':Shared} {L:Addr} (k:Kp (hb.deep L) s s') (own:NFat s.heap hb.own):Kp hb s s' :=
 ⟨k.soft,k.os,fun g=>let g':=k.gs (g.deep own);⟨g'.hard,g'.tab,g'.gens,fun a ha=>g'.fd a (List.mem_cons_of_mem _ ha)⟩⟩
theorem Kp.dn {hb:HB} {s s':Shared} {L:Addr} (k:Kp hb s s') (g:GS hb s) (own:NFat s.heap hb.own):Kp (hb.deep L) s s' :=
 ⟨k.soft,k.os,fun _=>let g':=k.gs g;g'.deep (own.soft k.soft)⟩
theorem Frs.deep {A:Around} {hb:HB} {env:Env} {L:Addr} (x:Frs A hb) (hf:env.frame=some L) (hn:hb.h.get? L=none) (hk:env.scope.kind = .function):Frs (A.deeper env) (hb.deep L):=by
 refine z6 fun K0=>?_
 refine x12 x fun l e h=>?_
 refine K0 ?_;clear K0;refine ⟨env::l,Around.frames_deeper e,fun e' he'=>?_⟩
 rcases List.mem_cons.mp he' with rfl | he'
 ·exact ⟨by rw [hk];decide,L,hf,hn,.inr rfl⟩
 ·refine z6 fun K0=>?_
  refine w7 (h e' he' :) fun h1 o0=>?_;refine x13 o0 fun L' h2 hn' h3=>?_
  refine K0 ?_;clear K0;refine ⟨h1,L',h2,hn',.inl ?_⟩;rcases h3 with h3 | h3
  ·exact List.mem_cons_of_mem _ h3
  ·exact h3▸List.mem_cons_self ..
structure FnAt (hb:Heap) (a:Addr) (fd:FuncData) (params:List Str) (body:List Stmt):Prop where
 obj:∃ o,hb.get? a=some o∧o.data = .func fd
 ne:a≠x9
 body:fd.body = .stmts body
 clo:fd.closure=[]
 code:∃ cd,fd.code = .ref cd∧cd≠x9∧hb.CodeRec fd.code fd.qualname
 glob:fd.globals=mainGlobals
 bu:fd.builtins=builtinsNs
 kind:fd.scope.kind = .function
 co:fd.scope.isCoroutine=false
 gen:fd.scope.isGenerator=false
 bind:∀ vals:List Value,vals.length=params.length→bindArgs fd ⟨vals,[]⟩=pure (params.zip vals)
 nd:params.Nodup
 par:∀ p∈params,fd.scope.names.lookup p=some .local∨fd.scope.names.lookup p=some .cell
 free:∀ x∈fd.scope.names,x.2 ≠ .free
theorem J8 (kd:Str→Option NameKind) (n:Str):∀ (binds:List (Str × Value)) (m:Str→Option Value),(∀ x∈binds,x.1≠n)→bindL kd binds m n=m n
 | [],_,_=>rfl
 | (k,v)::r,m,h=>by
  unfold bindL;rw [J8 kd n r _ fun x hx=>h x (List.mem_cons_of_mem _ hx)]
  split
  ·exact if_neg (Ne.symm (h (k,v) (List.mem_cons_self ..)))
  ·rfl
theorem J7 (kd:Str→Option NameKind) (n:Str):∀ (binds:List (Str × Value)) (m:Str→Option Value),(∀ x∈binds,x.1≠n)→bindC kd binds m n=m n
 | [],_,_=>rfl
 | (k,v)::r,m,h=>by
  unfold bindC;rw [J7 kd n r _ fun x hx=>h x (List.mem_cons_of_mem _ hx)]
  split
  ·rfl
  ·exact if_neg (Ne.symm (h (k,v) (List.mem_cons_self ..)))
theorem bindL_get (kd:Str→Option NameKind) {n:Str} {v:Value} (hk:kd n=some .local):∀ (binds:List (Str × Value)) (m:Str→Option Value),(binds.map (·.1)).Nodup→(n,v)∈binds→bindL kd binds m n=some v
 | (k,u)::r,m,hn,h=>by
  rw [List.map_cons,List.nodup_cons] at hn;unfold bindL;rcases List.mem_cons.mp h with e | h
  ·cases e
   rw [if_pos hk,J8 kd n r _ fun x hx e=>hn.1 (by show n∈_;rw [← e];exact List.mem_map_of_mem (f:=fun x:Str × Value=>x.1) hx)]
   exact if_pos rfl
  ·exact bindL_get kd hk r _ hn.2 h
theorem bindC_get (kd:Str→Option NameKind) {n:Str} {v:Value} (hk:kd n≠some .local):∀ (binds:List (Str × Value)) (m:Str→Option Value),(binds.map (·.1)).Nodup→(n,v)∈binds→bindC kd binds m n=some v
 | (k,u)::r,m,hn,h=>by
  rw [List.map_cons,List.nodup_cons] at hn;unfold bindC;rcases List.mem_cons.mp h with e | h
  ·cases e
   rw [if_neg hk,J7 kd n r _ fun x hx e=>hn.1 (by show n∈_;rw [← e];exact List.mem_map_of_mem (f:=fun x:Str × Value=>x.1) hx)]
   exact if_pos rfl
  ·exact bindC_get kd hk r _ hn.2 h
theorem zip_fst:∀ {ps:List Str} {vs:List Value},vs.length=ps.length→(ps.zip vs).map (·.1)=ps
 | [],vs,_=>by simp
 | p::ps,[],h=>by simp at h
 | p::ps,v::vs,h=>by rw [List.zip_cons_cons,List.map_cons,zip_fst (by simpa using h)]
theorem zip_mem {ps:List Str} {vs:List Value} {i:Nat} {p:Str} {v:Value} (h1:ps[i]?=some p) (h2:vs[i]?=some v):(p,v)∈ps.zip vs:=by
 have:(ps.zip vs)[i]?=some (p,v):=by rw [List.getElem?_zip_eq_some];exact ⟨h1,h2⟩
 exact List.mem_of_getElem? this
noncomputable def TkOk (s:Shared) (params:List Str) (sc:Scope):Prop:=1≤s.toks∨(∃ p,params=[p]∧sc.names.lookup p=some .local)∧∀ x∈sc.names,x.2 ≠ .cell
theorem E8:∀ (names:List (Str × NameKind)) (n:Nat) (acc:List (Str × Addr)),(∀ x∈names,x.2 ≠ .cell)→cellsFrom n names acc=acc
 | [],_,_,_=>rfl
 | (y,k)::r,n,acc,h=>by
  unfold cellsFrom;have:(k == NameKind.cell)=false:=beq_eq_false_iff_ne.mpr (h (y,k) (List.mem_cons_self ..));refine this▸?_;exact E8 r n acc fun x hx=>h x (List.mem_cons_of_mem _ hx)
theorem env_any {M:Model} {A:Around} {E:Value→Shared→Prop} {s:Shared} {scope:Scope} {globals:Addr} {params:List Str} {vals:List Value} {qual:Str} {func:Option Addr} {code:Value} {builtins:Addr} {Q:Env→Shared→Prop}
  (tk:TkOk s params scope) (hvl:vals.length=params.length)
  (hk:scope.kind = .function)
  (hkind:∀ x∈params.zip vals,scope.names.lookup x.1=some .local∨(scope.names.lookup x.1=some .cell∧((cellsFrom (s.heap.objs.size + 1) scope.names []).lookup x.1).isSome=true))
  (hQ:∀ env,env=newEnv scope s.heap.objs.size globals (cellsFrom (s.heap.objs.size + 1) scope.names []) qual func code none builtins →
   ∀ s',InCallC s env.locals (bindL env.kindOf (params.zip vals) fun _=>none) env.cells (bindC env.kindOf (params.zip vals) fun _=>none) s'→1≤s'.toks→Q env s') :
  wpAny M A (newFunctionEnv scope globals [] (params.zip vals) qual func code none builtins) Q E s:=by
 rcases tk with tk | ⟨⟨p,rfl,hl⟩,hc⟩
 ·exact wpAny_with_toks tk (wpAny_newFunctionEnv_cells hk hkind fun env he s' ic htk=>hQ env he s' ic htk)
 ·obtain ⟨v,rfl⟩:=List.length_eq_one_iff.mp hvl;have ec:=E8 scope.names (s.heap.objs.size + 1) [] hc;refine wpAny_newFunctionEnv hc (fun x hx=>?_) (fun h' hns hsb=>?_) hk
  ·rw [List.zip_cons_cons,List.zip_nil_right,List.mem_singleton] at hx;exact hx▸hl
  ·refine hQ _ (by rw [ec]) _ ⟨⟨⟨h',_,rfl⟩,?_,?_,Nat.le_refl _⟩,fun n c q=>(nomatch q),List.Pairwise.nil,fun n c q=>(nomatch q)⟩ (by simp)
   ·have hm:(fun x=>([p].zip [v]).reverse.lookup x)=bindL (newEnv scope s.heap.objs.size globals [] qual func code none builtins).kindOf ([p].zip [v]) fun _=>none:=by
     funext x
     have hkd:(newEnv scope s.heap.objs.size globals [] qual func code none builtins).kindOf p=some .local:=hl
     simp only [List.zip_cons_cons,List.zip_nil_right,List.reverse_singleton,bindL,if_pos hkd,List.lookup_cons,List.lookup_nil];by_cases e:x=p
     ·subst e;simp
     ·rw [if_neg e,beq_eq_false_iff_ne.mpr e]
    exact hm▸hns
   ·intro b o e;have hb:b≠s.heap.objs.size:=fun q=>by rw [q] at e;exact Nat.lt_irrefl _ (Heap.lt_size e)
    rw [hsb.2 b hb];exact Heap.get?_push_of_some _ e
section
variable {prog:Program} {w:World} {A:Around} {hb:HB} {Γ:y9} {c:CT} {s:Shared} {O:Addr→Prop}
noncomputable def RetP (hb:HB) (s:Shared) (O:Addr→Prop) (v:PV) (f:Flow) (s':Shared):Prop:=Kp hb s s'∧((∃ rv,f = .ret rv∧VR s'.heap O v rv)∨(f = .next∧v = .nul))
theorem fn_enter {a:Addr} {fd:FuncData} {params:List Str} {body:List Stmt} (F:FnAt hb.h a fd params body) (hbase:U1 hb.h) (hcodeT:c.inT=true→fd.code = .ref e9) (hroom:A.depth<recursionLimit) (hrm:A.depth + 1<recursionLimit) (cx:∀ L env,env.frame=some L→hb.h.get? L=none→env.scope.kind = .function→Cx prog w (A.deeper env) (hb.deep L) Γ)
  (hns:∃ rest,c.ns=params ++ rest) (hkind:c.kind=fd.scope.names) (hgl:∀ n v,c.gl.lookup n=some v→Glob hb.h n v)
  {args:List PV} {rvs:List Value} {v:PV} (hlen:args.length=params.length) (xc:XC hb O s) (tk:TkOk s params fd.scope) (hr:VRs s.heap O args rvs)
  (hbody:∀ L env s₁,env.frame=some env.locals→Fx prog w (A.deeper env) (hb.deep L) Γ c env s→SS (hb.deep L) s c env O (fun _=>none) (args.map Mine.Slot.val ++ List.replicate (c.ns.length - args.length) Mine.Slot.unset) s₁ →
   ∀ (Q':Flow→Shared→Prop) E',(∀ f s',RetP (hb.deep L) s O v f s'→Q' f s')→wpAny (model prog w) (A.deeper env) (execs body env) Q' E' s₁)
  {Q:Value→Shared→Prop} {E:Value→Shared→Prop} (hQ:∀ rv s',Kp hb s s'→VR s'.heap O v rv→Q rv s'):wpAny (model prog w) A (call (.ref a) rvs) Q E s:=by
 refine z6 fun K0=>?_
 refine x12 F.obj fun o ho hd=>?_
 refine K0 ?_;clear K0;have gs:=xc.gs;have hvl:rvs.length=params.length:=by rw [hr.length,hlen]
 have ns:∀ {a m},hb.h.Ns a m→a≠x9→s.heap.Ns a m:=fun ⟨o,es,ep,e,r⟩ ha=>⟨o,es,ep,gs.hard _ _ ha e,r⟩
 have hlim':s.heap.NoLimit:=let ⟨mc,h1,h2⟩:=hbase.lim;⟨mc,ns h1 (by decide),h2⟩;have hcode:s.heap.CodeRec fd.code fd.qualname:=by
  refine x13 F.code fun cd e hne o0=>?_;refine x43 o0 fun cc oo vv t e1 e2 r=>?_
  rw [e] at e1;cases e1;exact ⟨cd,oo,vv,t,e,gs.hard _ _ hne e2,r⟩
 have hkd:∀ x∈params.zip rvs,fd.scope.names.lookup x.1=some .local∨(fd.scope.names.lookup x.1=some .cell∧((cellsFrom (s.heap.objs.size + 1) fd.scope.names []).lookup x.1).isSome=true):=fun x hx=>by
  have hp:x.1∈params:=by
   have:=List.mem_map_of_mem (f:=fun x:Str × Value=>x.1) hx
   rw [zip_fst hvl] at this;exact this
  rcases F.par x.1 hp with h | h
  ·exact .inl h
  ·refine Exists.elim (Q8 fd.scope.names (s.heap.objs.size + 1) [] x.1 (mem_of_lookup h) :) fun a' ha'=>?_
   refine Exists.elim (O1 ha' :) fun a'' ha''=>?_
   exact .inr ⟨h,by rw [ha''];rfl⟩
 refine wpAny_call (codeAny_call_function hroom (gs.hard _ _ F.ne ho) hd F.co F.gen F.body hcode ?_)
 rw [F.bind rvs hvl,F.clo];refine wpAny_pure (env_any tk hvl F.kind hkd fun env he s₁ ic htk=>?_)
 have hL:env.locals=s.heap.objs.size:=by rw [he];rfl
 have hcl:env.cells=cellsFrom (s.heap.objs.size + 1) fd.scope.names []:=by rw [he];rfl
 have hsc:env.scope=fd.scope:=by rw [he];rfl
 have hKO:∀ n,env.kindOf n=fd.scope.names.lookup n:=fun n=>by unfold Env.kindOf;rw [hsc]
 refine ⟨hlim'.keeps ic.toInCall.keep,codeAny_func ?_⟩
 refine Exists.elim hns fun rest hns=>?_
 have keep:=ic.toInCall.keep;have kp1':Kp hb s s₁:=by
  refine x22 ic.done fun h' tk' o0 hk=>?_;obtain rfl:=o0
  exact .keeps hk
 have kp1:Kp (hb.deep s.heap.objs.size) s s₁:=kp1'.dn gs xc.own;have gs':GS (hb.deep s.heap.objs.size) s:=gs.deep xc.own;have hLb:hb.h.get? s.heap.objs.size=none:=by
  cases q:hb.h.get? s.heap.objs.size with
  | none=>rfl
  | some o'=>exact absurd (Heap.lt_size (gs.hard _ _ xc.off q)) (Nat.lt_irrefl _)
 have hF:env.frame=some s.heap.objs.size:=by rw [he];rfl
 have hLn:s.heap.get? env.locals=none:=by rw [hL];exact Z7 (Nat.le_refl _)
 have hLt:env.locals≠x9:=by rw [hL];exact xc.off
 have slotI:∀ {n i},c.slot n=some i→c.ns[i]?=some n:=by
  intro n i h;refine x13 (N4 h :) fun k h1 h2 h3=>?_
  exact H8 h3
 have slotK:∀ {n i},c.slot n=some i→env.kindOf n=some .local∨env.kindOf n=some .cell:=by
  intro n i h;rw [hKO,← hkind];refine x13 (N4 h :) fun k h1 h2 h3=>?_
  rcases h2 with rfl | rfl | rfl
  ·exact .inl h1
  ·exact .inr h1
  ·rw [hkind] at h1;exact absurd rfl (F.free _ (mem_of_lookup h1))
 have cel:∀ {n},env.kindOf n=some .cell→∃ a',env.cells.lookup n=some a'∧(n,a')∈env.cells:=by
  intro n h;rw [hKO] at h;refine Exists.elim (Q8 fd.scope.names (s.heap.objs.size + 1) [] n (mem_of_lookup h) :) fun a' ha'=>?_
  refine Exists.elim (O1 ha' :) fun a'' ha''=>?_
  refine hcl▸?_;exact ⟨a'',ha'',mem_of_lookup ha''⟩
 have celF:∀ {n a'},(n,a')∈env.cells→s.heap.get? a'=none∧a'≠x9:=by
  intro n a' h;have:=ic.above n a' h;rw [hL] at this;exact ⟨Z7 (Nat.le_of_lt this),Nat.ne_of_gt (Nat.lt_trans gs.tab.lt this)⟩
 have par:∀ {n i},c.slot n=some i→SlotR s₁.heap (n7 O fun _=>none) (fun _=>none) i (args.map Mine.Slot.val ++ List.replicate (c.ns.length - args.length) Mine.Slot.unset)[i]? (if i<params.length then rvs[i]? else none):=by
  intro n i h;by_cases hi:i<params.length
  ·refine if_pos hi▸?_;have hia:i<args.length:=by rw [hlen];exact hi
   rw [List.getElem?_append_left (by rw [List.length_map];exact hia),List.getElem?_map,List.getElem?_eq_getElem hia];refine x12 (hr.get (List.getElem?_eq_getElem hia) :) fun rv h1 h2=>?_
   exact ⟨rv,h1,(h2.soft kp1.soft).mono (fun _ _ e _=>e) fun b _ _ q q'=>by
    rcases q' with q' | ⟨_,q'⟩
    ·exact q q'
    ·cases q'⟩
  ·rw [List.getElem?_append_right (by rw [List.length_map,hlen];exact Nat.le_of_not_lt hi),List.getElem?_replicate]
   split <;> trivial
 have pname:∀ {n i},c.slot n=some i→i<params.length→params[i]?=some n:=fun h hi=>by
  have:=slotI h;rw [hns,List.getElem?_append_left hi] at this;exact this
 have pnot:∀ {n i},c.slot n=some i→¬ i<params.length→∀ x∈params.zip rvs,x.1≠n:=fun {n i} h hi x hx e=>by
  have hp:n∈params:=by
   have:=List.mem_map_of_mem (f:=fun x:Str × Value=>x.1) hx
   rw [zip_fst hvl] at this;rw [← e];exact this
  obtain ⟨j,hj,hjn⟩:=List.getElem_of_mem hp;have hkn:c.kind.lookup n=some .local∨c.kind.lookup n=some .cell:=by
   rw [hkind];exact F.par n hp
  have:c.ns.idxOf? n=some i:=(N4 h).elim fun _ q=>q.2.2
  refine x12 (List.idxOf?_eq_some_iff.mp this :) fun h1 h2 h3=>?_
  have hji:j<i:=Nat.lt_of_lt_of_le hj (Nat.le_of_not_lt hi);have:=h3 j hji;apply this;have e1:c.ns[j]?=some n:=by rw [hns,List.getElem?_append_left hj,List.getElem?_eq_getElem hj,hjn]
  have e2:=List.getElem?_eq_getElem (Nat.lt_trans hji h1);rw [e1] at e2;exact (by first | exact beq_iff_eq.mpr (Option.some.inj e2).symm | exact (Option.some.inj e2).symm)
 have nodup:((params.zip rvs).map (·.1)).Nodup:=by rw [zip_fst hvl];exact F.nd
 have fx:Fx prog w (A.deeper env) (hb.deep s.heap.objs.size) Γ c env s:=⟨cx _ env hF hLb (by rw [hsc];exact F.kind),gs',fun n i h=>⟨fun _=>hLn,fun hk a' ha'=>(celF (mem_of_lookup ha')).1,fun hk=>by
  rcases slotK h with q | q <;> rw [q] at hk <;> cases hk⟩,hbase,fun q=>by rw [he];exact hcodeT q,hrm⟩
 have ss:SS (hb.deep s.heap.objs.size) s c env O (fun _=>none) (args.map Mine.Slot.val ++ List.replicate (c.ns.length - args.length) Mine.Slot.unset) s₁:=by
  refine ⟨kp1,⟨⟨by rw [hsc];exact F.kind,hLt,fun n i h=>(slotK h).imp id .inl,hgl,fun n h=>by rw [hKO,← hkind];exact h,fun n h=>by rw [hKO,← hkind];exact h,fun n n' a' h1 h2=>name_of_addr ic.apart (mem_of_lookup h1) (mem_of_lookup h2),?_,?_⟩,⟨_,ic.toInCall.ns,fun n i h hk=>?_⟩,fun n i h hk=>?_⟩,fun a' ha'=>?_,fun i j a' q=>(nomatch q),fun i a' q=>(nomatch q),fun i a' q=>(nomatch q),htk,hL.symm⟩
  ·rw [he];exact F.glob
  ·rw [he];exact F.bu
  ·have:=par h;by_cases hi:i<params.length
   ·rw [if_pos hi] at this;obtain ⟨rv,hrv⟩:∃ rv,rvs[i]?=some rv:=⟨_,List.getElem?_eq_getElem (by rw [hvl];exact hi)⟩;rw [hrv] at this;refine bindL_get _ hk _ _ nodup (zip_mem (pname h hi) hrv)▸?_;exact this
   ·rw [if_neg hi] at this;refine J8 _ _ _ _ (pnot h hi)▸?_;exact this
  ·rcases slotK h with q | q
   ·rcases hk with hk | hk <;> rw [q] at hk <;> cases hk
   ·refine x12 (cel q :) fun a' ha' hm=>?_
    refine ⟨a',ha',(celF hm).2,_,ic.cell n a' ha',?_⟩;have:=par h;have hnl:env.kindOf n≠some .local:=by rw [q];decide
    by_cases hi:i<params.length
    ·rw [if_pos hi] at this;obtain ⟨rv,hrv⟩:∃ rv,rvs[i]?=some rv:=⟨_,List.getElem?_eq_getElem (by rw [hvl];exact hi)⟩;rw [hrv] at this;refine bindC_get _ hnl _ _ nodup (zip_mem (pname h hi) hrv)▸?_;exact this
    ·rw [if_neg hi] at this;refine J7 _ _ _ _ (pnot h hi)▸?_;exact this
  ·rcases ha' with ha' | ⟨_,q⟩
   ·exact (xc.kp kp1').ok a' ha'
   ·exact w9 q
 refine hbody _ env _ (hF.trans (by rw [hL])) fx ss _ _ fun f s' q=>?_
 refine w7 q fun k2 o0=>?_;obtain ⟨rv,rfl,r2⟩ | ⟨rfl,rfl⟩:=o0
 ·exact hQ rv s' (k2.up xc.own) r2
 ·exact hQ .none s' (k2.up xc.own) rfl
theorem fn_call {a:Addr} {fd:FuncData} {params:List Str} {body:List Stmt} (F:FnAt hb.h a fd params body) (hbase:U1 hb.h) (hcodeT:c.inT=true→fd.code = .ref e9) (hroom:A.depth<recursionLimit) (hrm:A.depth + 1<recursionLimit) (cx:∀ L env,env.frame=some L→hb.h.get? L=none→env.scope.kind = .function→Cx prog w (A.deeper env) (hb.deep L) Γ)
  (hns:∃ rest,c.ns=params ++ rest) (hkind:c.kind=fd.scope.names) (hgl:∀ n v,c.gl.lookup n=some v→Glob hb.h n v)
  {args:List PV} {rvs:List Value} {v:PV} (hlen:args.length=params.length) (hv:evF Γ 0 c.ns.length (cSs c body) args=some v) (xc:XC hb O s) (tk:TkOk s params fd.scope) (hr:VRs s.heap O args rvs)
  {Q:Value→Shared→Prop} {E:Value→Shared→Prop} (hQ:∀ rv s',Kp hb s s'→VR s'.heap O v rv→Q rv s'):wpAny (model prog w) A (call (.ref a) rvs) Q E s:=by
 refine fn_enter F hbase hcodeT hroom hrm cx hns hkind hgl hlen xc tk hr (v:=v) (fun L env s₁ _ fx ss Q' E' hQ'=>?_) hQ
 refine y4 hv fun r e hv=>?_
 obtain ⟨f,σ'⟩:=r
 cases f with
 | ret v' =>
  obtain rfl:=Option.some.inj hv
  refine soundSs fx body O _ _ _ ss _ _ e _ _ fun f s' q=>?_
  obtain ⟨rv,rfl,k2,_,r2⟩:=q
  exact hQ' _ _ ⟨k2,.inl ⟨rv,rfl,r2⟩⟩
 | next =>
  obtain rfl:=Option.some.inj hv
  refine soundSs fx body O _ _ _ ss _ _ e _ _ fun f s' q=>?_
  obtain ⟨rfl,ow',x2,_⟩:=q
  exact hQ' _ _ ⟨x2.kp,.inr ⟨rfl,rfl⟩⟩
 | _=>exact w9 hv
end
end Mine
namespace Mine
open PySem
noncomputable def tD1:List PS:=[.own 10,.assign 11 (.ife (.cmp .Eq (.idx (.var 0) (.var 5)) (.lit (.str [33]))) (.bin .Add (.var 5) (.lit (.int 2))) (.bin .Add (.var 5) (.lit (.int 1))))]
noncomputable def tD2:List PS:=[.assign 11 (.meth "find" (.var 0) [(.lit (.str [45])),(.var 11),(.var 8)]),.ite (.cmp .Lt (.var 11) (.lit (.int 0))) [.brk] [],.push 10 (.slc (.var 0) (.var 5) (.var 11)),.assign 5 (.bin .Add (.var 11) (.lit (.int 1))),.assign 11 (.bin .Add (.var 11) (.lit (.int 3)))]
noncomputable def tD3:List PS:=[.assign 12 (.slc (.var 0) (.var 5) (.var 8)),.ite (.var 12) [.push 10 (.var 12)] [.bad 24],.down 11 (.bin .Sub (.len (.var 10)) (.lit (.int 1))) (.lit (.int 0)),.djoin 9 10]
noncomputable def tD:List PS:=tD1 ++ (.whl (.lit (.bool true)) tD2::tD3)
noncomputable def tE1:List PS:=[.assign 9 (.slc (.var 0) (.var 5) (.var 8)),.ite (.cmp .NotIn (.lit (.str [45])) (.var 9)) [.assign 9 (.repl (.var 9) 92 [92,92])] tD]
noncomputable def tE2:List PS:=[.resub 9,.assign 5 (.bin .Add (.var 8) (.lit (.int 1))),.ite (.nt (.var 9)) [.pushA 4 3 (.lit (.str [40,63,33,41]))] [.ite (.cmp .Eq (.var 9) (.lit (.str [33]))) [.pushA 4 3 (.lit (.str [46]))] [.ite (.cmp .Eq (.idx (.var 9) (.lit (.int 0))) (.lit (.str [33]))) [.assign 9 (.bin .Add (.lit (.str [94])) (.slc (.var 9) (.lit (.int 1)) (.lit .nul)))] [.ite (.cmp .In (.idx (.var 9) (.lit (.int 0))) (.tpl [(.lit (.str [94])),(.lit (.str [91]))])) [.assign 9 (.bin .Add (.lit (.str [92])) (.var 9))] []],.pushA 4 3 (.fstr [(.lit (.str [91])),(.var 9),(.lit (.str [93]))])]]]
noncomputable def tCi:List PS:=[.assign 8 (.var 5),.ite (.bop true (.cmp .Lt (.var 8) (.var 6)) (.cmp .Eq (.idx (.var 0) (.var 8)) (.lit (.str [33])))) [.assign 8 (.bin .Add (.var 8) (.lit (.int 1)))] [],.ite (.bop true (.cmp .Lt (.var 8) (.var 6)) (.cmp .Eq (.idx (.var 0) (.var 8)) (.lit (.str [93])))) [.assign 8 (.bin .Add (.var 8) (.lit (.int 1)))] []]
noncomputable def tCw:PE:=(.bop true (.cmp .Lt (.var 8) (.var 6)) (.cmp .NotEq (.idx (.var 0) (.var 8)) (.lit (.str [93]))))
noncomputable def tCb:List PS:=[.assign 8 (.bin .Add (.var 8) (.lit (.int 1)))]
noncomputable def tC:List PS:=tCi ++ (.whl tCw tCb::[.ite (.cmp .GtE (.var 8) (.var 6)) [.pushA 4 3 (.lit (.str [92,91]))] (tE1 ++ tE2)])
noncomputable def tb:List PS:=[.assign 7 (.idx (.var 0) (.var 5)),.assign 5 (.bin .Add (.var 5) (.lit (.int 1))),.ite (.cmp .Eq (.var 7) (.lit (.str [42]))) [.ite (.bop false (.nt (.var 3)) (.cmp .IsNot (.idx (.var 3) (.neg 1)) (.var 1))) [.pushA 4 3 (.var 1)] []] [.ite (.cmp .Eq (.var 7) (.lit (.str [63]))) [.pushA 4 3 (.var 2)] [.ite (.cmp .Eq (.var 7) (.lit (.str [91]))) tC [.pushA 4 3 (.call (.ref 62) [(.var 7)])]]]]
noncomputable def tc:PE:=(.cmp .Lt (.var 5) (.var 6))
noncomputable def jc:PE:=(.bop true (.cmp .Lt (.var 4) (.var 5)) (.cmp .IsNot (.idx (.var 0) (.var 4)) (.var 1)))
noncomputable def j1:List PS:=[.pushA 3 2 (.idx (.var 0) (.var 4)),.aug 4 .Add (.lit (.int 1))]
noncomputable def j2:List PS:=[.push 6 (.idx (.var 0) (.var 4)),.aug 4 .Add (.lit (.int 1))]
noncomputable def jo1:List PS:=[.asrt (.cmp .Is (.idx (.var 0) (.var 4)) (.var 1)),.aug 4 .Add (.lit (.int 1))]
noncomputable def jo2:List PS:=[.asrt (.cmp .IsNot (.idx (.var 0) (.var 4)) (.var 1)),.own 6]
noncomputable def jo3:List PS:=[.assign 6 (.meth "join" (.lit (.str [])) [(.var 6)]),.ite (.cmp .Eq (.var 4) (.var 5)) [.pushA 3 2 (.lit (.str [46,42])),.pushA 3 2 (.var 6)] [.pushA 3 2 (.fstr [(.lit (.str [40,63,62,46,42,63])),(.var 6),(.lit (.str [41]))])]]
noncomputable def jif:PS := .ite (.cmp .Eq (.var 4) (.var 5)) [.pushA 3 2 (.lit (.str [46,42])),.brk] []
noncomputable def jo:List PS:=jo1 ++ (jif::(jo2 ++ (.whl jc j2::jo3)))
noncomputable def jend:List PS:=[.asrt (.cmp .Eq (.var 4) (.var 5)),
 .assign 2 (.meth "join" (.lit (.str [])) [(.var 2)]),
 .ret (.fstr [(.lit (.str [40,63,115,58])),(.var 2),(.lit (.str [41,92,90]))])]
noncomputable def rc:PE:=(.cmp .Lt (.var 2) (.var 3))
noncomputable def rB1:List PS:=[.assign 4 (.cmp .Eq (.idx (.var 0) (.bin .Add (.var 2) (.lit (.int 1)))) (.lit (.str [94]))),.aug 2 .Add (.ife (.var 4) (.lit (.int 2)) (.lit (.int 1))),.assign 5 (.lit (.str []))]
noncomputable def rBc:PE:=(.bop false (.cmp .Eq (.var 5) (.lit (.str []))) (.cmp .NotEq (.idx (.var 0) (.var 2)) (.lit (.str [93]))))
noncomputable def rBb:List PS:=[.ite (.cmp .Eq (.idx (.var 0) (.var 2)) (.lit (.str [92]))) [.aug 2 .Add (.lit (.int 1))] [],.aug 5 .Add (.idx (.var 0) (.var 2)),.aug 2 .Add (.lit (.int 1))]
noncomputable def rB3:List PS:=[.push 1 (.tpl [(.var 4),(.var 5)]),.aug 2 .Add (.lit (.int 1))]
noncomputable def rB:List PS:=rB1 ++ (.whl rBc rBb::rB3)
noncomputable def rE:List PS:=[.ite (.cmp .In (.idx (.var 0) (.var 2)) (.lit (.str [40,41,42,43,63,123,125,124,94,36]))) [.ret (.lit .nul)] [.push 1 (.tpl [(.lit (.bool false)),(.idx (.var 0) (.var 2))]),.aug 2 .Add (.lit (.int 1))]]
noncomputable def rb:List PS:=[.ite (.cmp .Eq (.slc (.var 0) (.var 2) (.bin .Add (.var 2) (.lit (.int 2)))) (.lit (.str [46,42]))) [.push 1 (.lit .nul),.aug 2 .Add (.lit (.int 2))] [.ite (.cmp .Eq (.idx (.var 0) (.var 2)) (.lit (.str [46]))) [.push 1 (.tpl [(.lit (.bool true)),(.lit (.str []))]),.aug 2 .Add (.lit (.int 1))] [.ite (.cmp .Eq (.idx (.var 0) (.var 2)) (.lit (.str [92]))) [.push 1 (.tpl [(.lit (.bool false)),(.idx (.var 0) (.bin .Add (.var 2) (.lit (.int 1))))]),.aug 2 .Add (.lit (.int 2))] [.ite (.cmp .Eq (.idx (.var 0) (.var 2)) (.lit (.str [91]))) rB rE]]]]
noncomputable def fb:List PS:=[.ite (.cmp .Eq (.cmp .In (.var 3) (.idx (.var 2) (.lit (.int 1)))) (.idx (.var 2) (.lit (.int 0)))) [.ret (.lit (.bool false))] []]
noncomputable def kb:List PS:=[.assign 8 (.bin .Sub (.len (.var 7)) (.len (.var 5))),.ite (.bop true (.ife (.var 2) (.cmp .GtE (.var 8) (.var 3)) (.cmp .Eq (.var 8) (.var 3))) (.bop true (.call (.ref 149) [(.var 4),(.var 7)]) (.call (.ref 149) [(.var 5),(.slc (.var 7) (.var 8) (.lit .nul))]))) [.push 6 (.var 7)] []]
noncomputable def pb:List PS:=[.assign 7 (.bin .Mod (.bin .FloorDiv (.bin .FloorDiv (.var 1) (.lit (.int 9))) (.bin .Pow (.lit (.int 4)) (.var 5))) (.lit (.int 4))),.ite (.bop true (.cmp .Lt (.var 7) (.lit (.int 2))) (.cmp .NotEq (.var 6) (.idx (.var 0) (.var 7)))) [.ret (.lit (.bool false))] [],.ite (.bop true (.cmp .Eq (.var 7) (.lit (.int 3))) (.cmp .Eq (.var 6) (.idx (.var 0) (.lit (.int 0))))) [.ret (.lit (.bool false))] []]
noncomputable def lb:List PS:=[.assign 5 (.call (.ref 142) [(.call (.ref 50) [(.call (.ref 128) [(.var 0),(.var 4)])])]),.ite (.cmp .Is (.var 5) (.lit .nul)) [.ret (.lit .nul)] [],.assign 6 (.call (.ref 156) [(.var 5),(.var 2)]),.assign 7 (.comp (.var 1) (.one 1) .plain (.var 3) (.lit .nul) [(.cmp .NotIn (.var 1) (.var 2))] [none,none,some 6]),.assign 8 (.comp (.var 1) (.one 1) .plain (.var 6) (.lit .nul) [(.cmp .NotIn (.var 1) (.var 2))] [none,none,some 3]),.assign 9 (.tpl [(.call (.type "list") [(.var 3)]),(.call (.type "list") [(.var 6)])]),.ite (.bop false (.cmp .NotEq (.call (.ref 38) [(.var 3),(.var 6)]) (.tpl [(.var 7),(.var 8)])) (.cmp .NotEq (.tpl [(.var 3),(.var 6)]) (.var 9))) [.ret (.lit .nul)] [],.assign 3 (.call (.builtin "sorted") [(.bin .Add (.var 7) (.var 8))])]
noncomputable def oddC:PE:=(.comp (.var 1) (.one 1) .plain (.var 2) (.lit .nul) [(.cmp .Eq (.bin .Mod (.call (.builtin "sum") [(.comp (.call (.ref 135) [(.var 3),(.var 1),(.var 2)]) (.one 1) .plain (.var 2) (.lit .nul) [] [none,none,some 1,some 3])]) (.lit (.int 2))) (.lit (.int 1)))] [none,none,some 1,some 0])
noncomputable def bb:List PS:=[.assign 5 (.comp (.call (.ref 123) [(.var 2),(.meth "index" (.var 2) [(.var 1)])]) (.one 1) .plain (.meth "split" (.var 4) [(.lit (.str [46]))]) (.lit .nul) [] [none,none,some 0]),.assign 6 (.call (.ref 142) [(.call (.ref 50) [(.bin .Add (.meth "join" (.lit (.str [46])) [(.var 5)]) (.lit (.str [46,42])))])]),.ite (.cmp .Is (.var 6) (.lit .nul)) [.ret (.lit .nul)] [],.assign 7 (.comp (.slc (.call (.ref 109) [(.slc (.call (.ref 109) [(.var 1)]) (.lit (.int 1)) (.lit .nul))]) (.lit (.int 1)) (.lit .nul)) (.one 1) .plain (.call (.ref 156) [(.var 6),(.var 2)]) (.lit .nul) [] [none,none]),.push 3 (.var 7)]
noncomputable def eb:List PS:=[.assign 4 (.comp (.call (.ref 102) [(.meth "upper" (.var 1) []),(.bin .Add (.lit (.str [46])) (.var 2))]) (.one 1) .plain (.var 1) (.lit .nul) [] [none,none,some 3]),.ite (.comp (.var 1) (.one 1) .plain (.var 4) (.lit .nul) [(.cmp .IsNot (.call (.type "type") [(.var 1)]) (.gl (.type "bool")))] [none,none]) [.ret (.lit .nul)] [],.push 2 (.comp (.slc (.var 1) (.lit .nul) (.lit (.int 3))) (.two 1 2) .zip (.var 1) (.var 4) [(.var 2)] [none,none,none])]
noncomputable def rki:List PS:=[.ite (.cmp .In (.idx (.var 4) (.lit (.int 0))) (.var 3)) [.assign 5 (.call (.ref 38) [(.var 3),(.var 4)]),.assign 3 (.call (.builtin "sorted") [(.bin .Add (.idx (.var 5) (.lit (.int 0))) (.idx (.var 5) (.lit (.int 1))))])] []]
noncomputable def rkb:List PS:=[.assign 3 (.var 2),.forOwn (.one 4) 1 rki,.ite (.var 3) [.push 1 (.var 3)] []]
noncomputable def catE (i j:Nat):PE:=(.bin .Add (.bin .Add (.var i) (.lit (.str [46]))) (.var j))
noncomputable def c1:PE := .comp2 (catE 1 2) (.one 1) .plain (.var 0) (.lit .nul) (.one 2) (.var 3) [none,none,none,some 0]
noncomputable def c2:PE := .comp2 (catE 1 2) (.one 1) .plain (.var 2) (.lit .nul) (.one 2) (.var 3) [none,none,none,some 2]
noncomputable def c3:PE := .comp2 (catE 1 3) (.two 1 2) .zip (.var 2) (.var 5) (.one 3) (.var 2) [none,none,none,none]
noncomputable def c4:PE := .comp2 (catE 3 1) (.two 1 2) .zip (.var 2) (.var 6) (.one 3) (.var 2) [none,none,none,none]
noncomputable def rt:PE:=(.bop true (.cmp .Eq (.var 7) (.call (.ref 178) [(.var 6)])) (.cmp .LtE (.var 7) (.lit (.int 3))))
noncomputable def b62:List PS:=[.ite (.call (.builtin "isinstance") [(.var 0),(.gl (.type "str"))]) [.ret (.meth "translate" (.var 0) [(.gl (.ref 52))])] [.assign 0 (.call (.type "str") [(.var 0),(.lit (.str [108,97,116,105,110,49]))]),.ret (.meth "encode" (.meth "translate" (.var 0) [(.gl (.ref 52))]) [(.lit (.str [108,97,116,105,110,49]))])]]
noncomputable def b69:List PS:=[.own 3,.app 4 3,.tup2 5 6 (.lit (.int 0)) (.len (.var 0)),.whl tc tb,.asrt (.cmp .Eq (.var 5) (.var 6)),.ret (.var 3)]
noncomputable def b76:List PS:=[.own 2,.app 3 2,.tup2 4 5 (.lit (.int 0)) (.len (.var 0)),.whl jc j1,.whl (.cmp .Lt (.var 4) (.var 5)) jo] ++ jend
noncomputable def b88:List PS:=[.ite (.meth "search" (.gl (.ref 81)) [(.var 0)]) [.ret (.lit (.bool false))] [],
 .ite (.cmp .Eq (.var 0) (.lit (.str []))) [.ret (.lit (.bool false))] [],
 .ite (.bop false (.cmp .Eq (.idx (.var 0) (.lit (.int 0))) (.lit (.str [46]))) (.cmp .Eq (.idx (.var 0) (.neg 1)) (.lit (.str [46])))) [.ret (.lit (.bool false))] [],
 .ret (.lit (.bool true))]
noncomputable def b95:List PS:=[.ite (.meth "search" (.gl (.ref 81)) [(.var 0)]) [.ret (.lit (.bool false))] [],
 .ret (.lit (.bool true))]
noncomputable def b102:List PS:=[.assign 0 (.meth "lower" (.var 0) []),
 .assign 1 (.meth "lower" (.var 1) []),
 .ite (.nt (.bop true (.call (.ref 95) [(.var 0)]) (.call (.ref 95) [(.var 1)]))) [.ite (.cmp .Eq (.var 0) (.var 1)) [.ret (.lit (.bool true))] [],.ret (.lit (.bool false))] [],
 .assign 2 (.meth "startswith" (.var 1) [(.lit (.str [46]))]),
 .ite (.bop true (.var 2) (.meth "endswith" (.var 0) [(.var 1)])) [.ret (.lit (.bool true))] [],
 .ite (.bop true (.nt (.var 2)) (.cmp .Eq (.var 0) (.var 1))) [.ret (.lit (.bool true))] [],
 .ret (.lit (.bool false))]
noncomputable def b109:List PS:=[.assign 1 (.meth "find" (.var 0) [(.lit (.str [46]))]),
 .ite (.cmp .GtE (.var 1) (.lit (.int 0))) [.assign 2 (.slc (.var 0) (.bin .Add (.var 1) (.lit (.int 1))) (.lit .nul)),.assign 1 (.meth "find" (.var 2) [(.lit (.str [46]))]),.ite (.bop true (.call (.ref 88) [(.var 0)]) (.bop false (.cmp .GtE (.var 1) (.lit (.int 0))) (.cmp .Eq (.var 2) (.lit (.str [108,111,99,97,108]))))) [.ret (.bin .Add (.lit (.str [46])) (.var 2))] []] [],
 .ret (.var 0)]
noncomputable def b116:List PS:=[.assign 1 (.lit (.str [97,98,42,63,91,93,33,45,94,92,38,126,124,32,36,43])),
 .assign 2 (.bin .Mod (.var 0) (.lit (.int 16))),
 .assign 3 (.bin .Mod (.bin .Add (.bin .Add (.var 2) (.lit (.int 1))) (.bin .Mod (.bin .FloorDiv (.var 0) (.lit (.int 16))) (.lit (.int 15)))) (.lit (.int 16))),
 .ret (.call (.builtin "sorted") [(.lst [(.idx (.var 1) (.var 2)),(.idx (.var 1) (.var 3))])])]
noncomputable def b123:List PS:=[.ite (.cmp .Eq (.var 1) (.lit (.int 2))) [.ret (.lit (.str [63]))] [],
 .ite (.cmp .Eq (.var 1) (.lit (.int 3))) [.ret (.bin .Add (.bin .Add (.lit (.str [91,33])) (.idx (.var 0) (.lit (.int 0)))) (.lit (.str [93])))] [],
 .ite (.cmp .In (.idx (.var 0) (.var 1)) (.lit (.str [42,63,91]))) [.ret (.bin .Add (.bin .Add (.lit (.str [91])) (.idx (.var 0) (.var 1))) (.lit (.str [93])))] [],
 .ret (.idx (.var 0) (.var 1))]
noncomputable def b128:List PS:=[.assign 2 (.bin .Mod (.var 1) (.lit (.int 3))),
 .assign 3 (.bin .Mod (.bin .FloorDiv (.var 1) (.lit (.int 3))) (.lit (.int 3))),
 .assign 4 (.comp (.call (.ref 123) [(.var 3),(.bin .Mod (.bin .FloorDiv (.bin .FloorDiv (.var 2) (.lit (.int 9))) (.bin .Pow (.lit (.int 4)) (.var 1))) (.lit (.int 4)))]) (.one 1) .range (.bin .Add (.var 2) (.var 3)) (.lit .nul) [] [none,none,some 1,some 0]),
 .assign 5 (.ife (.cmp .Eq (.bin .Add (.var 2) (.var 3)) (.lit (.int 4))) (.lst []) (.lst [(.lit (.str [42]))])),
 .ret (.meth "join" (.lit (.str [46])) [(.bin .Add (.bin .Add (.slc (.var 4) (.lit .nul) (.var 2)) (.var 5)) (.slc (.var 4) (.var 2) (.lit .nul)))])]
noncomputable def b135:List PS:=[.assign 3 (.meth "split" (.var 2) [(.lit (.str [46]))]),
 .assign 4 (.bin .Add (.slc (.var 3) (.lit .nul) (.bin .Mod (.var 1) (.lit (.int 3)))) (.slc (.var 3) (.bin .Sub (.lit (.int 4)) (.bin .Mod (.bin .FloorDiv (.var 1) (.lit (.int 3))) (.lit (.int 3)))) (.lit .nul))),
 .for (.two 5 6) .enum (.var 4) (.lit .nul) pb,.ret (.lit (.bool true))]
noncomputable def b142:List PS:=[.own 1,
 .assign 2 (.lit (.int 4)),
 .assign 3 (.bin .Sub (.len (.var 0)) (.lit (.int 3))),
 .ite (.bop false (.cmp .NotEq (.slc (.var 0) (.lit .nul) (.lit (.int 4))) (.lit (.str [40,63,115,58]))) (.cmp .NotEq (.slc (.var 0) (.var 3) (.lit .nul)) (.lit (.str [41,92,90])))) [.ret (.lit .nul)] [],
 .whl rc rb,.ret (.var 1)]
noncomputable def b149:List PS:=[.for (.two 2 3) .zip (.var 0) (.var 1) fb,.ret (.lit (.bool true))]
noncomputable def b156:List PS:=[.assign 2 (.cmp .In (.lit .nul) (.var 0)),
 .assign 3 (.ife (.var 2) (.meth "index" (.var 0) [(.lit .nul)]) (.len (.var 0))),
 .assign 4 (.slc (.var 0) (.lit .nul) (.var 3)),
 .assign 5 (.slc (.var 0) (.bin .Add (.var 3) (.lit (.int 1))) (.lit .nul)),
 .own 6,
 .for (.one 7) .plain (.var 1) (.lit .nul) kb,.ret (.var 6)]
noncomputable def b161:List PS:=[.assign 3 (.lst []),.for (.one 4) .plain (.var 1) (.lit .nul) lb,.assign 10 oddC,.ret (.ife (.cmp .Eq (.var 3) (.var 10)) (.var 3) (.lit .nul))]
noncomputable def b166:List PS:=[.own 3,.for (.one 4) .plain (.var 1) (.lit .nul) bb,.ret (.var 3)]
noncomputable def b171:List PS:=[.own 2,.for (.one 3) .plain (.var 0) (.lit .nul) eb,.ret (.var 2)]
noncomputable def b178:List PS:=[.own 1,.for (.one 2) .plain (.var 0) (.lit .nul) rkb,.ret (.len (.var 1))]
noncomputable def b183:List PS:=[.assign 2 c1,.assign 3 c2,.assign 4 (.call (.ref 161) [(.var 0),(.var 1),(.var 3)]),
 .ite (.cmp .Is (.var 4) (.lit .nul)) [.ret (.lit (.bool false))] [],
 .assign 5 (.call (.ref 166) [(.var 0),(.var 2),(.var 4)]),
 .assign 6 (.call (.ref 171) [(.var 2),(.var 4)]),
 .ite (.bop false (.cmp .Is (.var 5) (.lit .nul)) (.cmp .Is (.var 6) (.lit .nul))) [.ret (.lit (.bool false))] [],
 .ite (.cmp .NotEq c3 (.var 4)) [.ret (.lit (.bool false))] [],
 .ite (.cmp .NotEq (.call (.builtin "sorted") [c4]) (.var 4)) [.ret (.lit (.bool false))] [],
 .assign 7 (.call (.ref 178) [(.var 5)]),.ret rt]
noncomputable def b188:List PS:=[.assign 1 (.comp (.bin .Mod (.var 1) (.bin .Pow (.lit (.int 10)) (.lit (.int 8)))) (.one 1) .plain (.slc (.var 0) (.lit .nul) (.lit (.int 4))) (.lit .nul) [] [none,none]),
 .assign 2 (.bin .Add (.var 1) (.slc (.lst [(.lit (.int 16)),(.lit (.int 40)),(.lit (.int 110)),(.lit (.int 33))]) (.len (.var 1)) (.lit .nul))),
 .ret (.call (.ref 183) [(.call (.ref 116) [(.idx (.var 2) (.lit (.int 0)))]),(.slc (.var 2) (.lit (.int 1)) (.lit .nul))])]
noncomputable def tblL:List (Addr × Nat × Nat × List PS):=[(62,1,1,b62),(69,3,13,b69),(76,2,7,b76),(88,1,1,b88),(95,1,1,b95),(102,2,3,b102),(109,1,3,b109),(116,1,4,b116),(123,2,2,b123),(128,2,6,b128),(135,3,8,b135),(142,1,6,b142),(149,2,4,b149),(156,2,9,b156),(161,3,11,b161),(166,3,8,b166),(171,2,5,b171),(178,1,6,b178),(183,2,8,b183),(188,1,3,b188)]
noncomputable def tbl (a:Addr):Option (Nat × Nat × List PS):=tblL.lookup a
end Mine
namespace Mine
open PySem PyProof.Rows PySem.Spec
noncomputable def k9:List (List Nat)→Bool
 | []=>true
 | [_]=>true
 | x::y::r=>decide (x<y) && k9 (y::r)
noncomputable def sldC (x y:List (List Nat)):Bool:=k9 x && k9 y && decide (x.length≤64) && decide (y.length≤64)
noncomputable def sldR (x y:List (List Nat)):PV := .tup [.list ((x.filter fun t => !y.contains t).map .str),.list ((y.filter fun t => !x.contains t).map .str)]
noncomputable def sld (vs:List PV):Option PV:=(two2 vs).bind fun q=>(lstP q.1).bind fun a=>(lstP q.2).bind fun b=>(i4? a).bind fun x=>(i4? b).bind fun y=>if sldC x y=true then some (sldR x y) else none
noncomputable def trOk (Γ:y9) (l:List Nat) (r:PV):Prop:=∀ a,∃ v,Γ (.ref 69) [.str l,.ob a,.str [46]]=some v∧Γ (.ref 76) [v,.ob a]=some (.str (match r with | .str t=>t | _=>[]))∧∃ t,r = .str t
open Classical in
noncomputable def trs (Γ:y9) (vs:List PV):Option PV:=(one1 vs).bind fun x=>(j8 x).bind fun l=>if h:∃ r,trOk Γ l r then some h.choose else none
theorem trs_eq {Γ:y9} {l t:List Nat} (h:∀ a,∃ v,Γ (.ref 69) [.str l,.ob a,.str [46]]=some v∧Γ (.ref 76) [v,.ob a]=some (.str t)):trs Γ [.str l]=some (.str t):=by
 have hx:∃ r,trOk Γ l r:=⟨.str t,fun a=>let ⟨v,h1,h2⟩:=h a;⟨v,h1,h2,t,rfl⟩⟩
 have e:trs Γ [.str l]=some hx.choose:=dif_pos hx;rw [e];refine z6 fun K0=>?_
 refine x13 (hx.choose_spec 0 :) fun v h1 h2 o0=>?_;refine Exists.elim o0 fun t' h3=>?_
 refine x12 (h 0 :) fun v' h1' h2'=>?_
 refine K0 ?_;clear K0;rw [h1] at h1';cases h1';rw [h2'] at h2;rw [h3] at h2 ⊢;injection h2 with h2;rw [h2]
theorem trs_inv {Γ:y9} {vs:List PV} {r:PV} (h:trs Γ vs=some r):∃ l t,vs=[.str l]∧r = .str t∧∀ a,∃ v,Γ (.ref 69) [.str l,.ob a,.str [46]]=some v∧Γ (.ref 76) [v,.ob a]=some (.str t):=by
 refine y4 h fun x hx h=>?_
 refine y4 h fun l hl h=>?_
 by_cases hx2:∃ r,trOk Γ l r
 ·have h:some hx2.choose=some r:=(dif_pos hx2).symm.trans h;have sp:=hx2.choose_spec;rw [Option.some.inj h] at sp;refine z6 fun K0=>?_
  refine x13 (sp 0 :) fun _ _ _ o0=>?_;refine Exists.elim o0 fun t h3=>?_
  refine K0 ?_;clear K0;refine ⟨l,t,(T4 hx).trans (by rw [a9 hl]),h3,fun a=>?_⟩
  refine z6 fun K0=>?_
  refine x13 (sp a :) fun v h1 h2 _=>?_
  refine K0 ?_;clear K0;rw [h3] at h2;exact ⟨v,h1,h2⟩
 ·exact w9 ((dif_neg hx2).symm.trans h)
noncomputable def gam:Nat→y9
 | 0=>fun _ _=>none
 | k + 1=>fun f vs=>match f with
  | .ref a=>if a=38 then sld vs else if a=50 then trs (gam k) vs else match tbl a with
   | some (m,n,b)=>if vs.length=m then evF (gam k) 0 n b vs else none
   | none=>none
  | _=>none
noncomputable def R3 (prog:Program) (w:World) (A:Around) (hb:HB) (f:Value) (vs:List PV) (v:PV):Prop :=
 FunR hb.h f fun _=>∀ O s rvs Q E,XC hb O s→1≤s.toks→VRs s.heap O vs rvs→(∀ rv s',Kp hb s s'→VR s'.heap O v rv→Q rv s')→wpAny (model prog w) A (call f rvs) Q E s
inductive EntX (h:Heap) (a:Addr) (m n:Nat) (b:List PS):Prop
 | mk (fd:FuncData) (params:List Str) (body:List Stmt) (c:CT) (h1:FnAt h a fd params body) (h2:(∃ rest,CT.ns c=params ++ rest)) (h3:c.kind=fd.scope.names) (h4:(∀ n v,c.gl.lookup n=some v→Glob h n v)) (h5:params.length=m) (h6:c.ns.length=n) (h7:cSs c body=b) (h8:(c.inT=true→fd.code = .ref e9))
structure Entry (h:Heap) (a:Addr) (m n:Nat) (b:List PS):Prop where
 ex:EntX h a m n b
noncomputable def R2 (prog:Program) (w:World) (A:Around) (hb:HB) (Γ:y9):Prop:=∀ L env,env.frame=some L→hb.h.get? L=none→env.scope.kind = .function→Cx prog w (A.deeper env) (hb.deep L) Γ
structure Ground' (prog:Program) (w:World) (h:Heap):Prop where
 base:U1 h
 pats:Pats prog w h
 tbl:∀ a m n b,tbl a=some (m,n,b)→Entry h a m n b
 sl:∀ A fm own r Γ,Room A (r + 1)→R2 prog w A ⟨h,fm,own⟩ Γ→∀ vs v,sld vs=some v→R3 prog w A ⟨h,fm,own⟩ (.ref 38) vs v
 tr:∀ A fm own r Γ,Room A (r + 1)→R2 prog w A ⟨h,fm,own⟩ Γ→∀ vs v,trs Γ vs=some v→R3 prog w A ⟨h,fm,own⟩ (.ref 50) vs v
section
variable {prog:Program} {w:World} {h:Heap}
theorem Room.cx {A:Around} {k:Nat} {Γ:y9} {hb:HB} (x:Room A k) (fr:Frs A hb) (p:Pats prog w hb.h) (h:∀ f vs v,Γ f vs=some v→R3 prog w A hb f vs v):Cx prog w A hb Γ :=
 ⟨x.handled,by have:=x.units;lia,p,fr,h⟩
theorem gam_ok (G:Ground' prog w h):∀ k A fm own,Room A k→Frs A ⟨h,fm,own⟩→∀ f vs v,gam k f vs=some v→R3 prog w A ⟨h,fm,own⟩ f vs v:=by
 intro k
 induction k with
 | zero=>intro A fm own r fr f vs v h;cases h
 | succ k ih =>
  intro A fm own r fr f vs v h'
  have hcx:R2 prog w A ⟨h,fm,own⟩ (gam k):=fun L env he hn hk=>(r.deeper env).cx (fr.deep he hn hk) G.pats (ih _ _ _ (r.deeper env) (fr.deep he hn hk))
  unfold gam at h'
  split at h'
  ·rename_i a
   split at h'
   ·rename_i ha;subst ha;exact G.sl A fm own k _ r hcx vs v h'
   ·split at h'
    ·rename_i ha;subst ha;exact G.tr A fm own k _ r hcx vs v h'
    ·split at h'
     ·rename_i m n b hb'
      split at h'
      ·rename_i hm;refine z6 fun K0=>?_
       obtain ⟨fd,params,body,c,F,hns,hk,hg,hp,hn,hc,hco⟩:=(G.tbl a m n b hb').ex;refine x12 F.obj fun o ho hd=>?_
       refine K0 ?_;clear K0;refine ⟨a,o,fd,rfl,F.ne,ho,hd,fun O s rvs Q E xc tk hr hQ=>?_⟩
       refine fn_call F G.base hco ?_ ?_ hcx hns hk hg (hm.trans hp.symm) ?_ xc (.inl tk) hr hQ
       ·have:=r.depth;lia
       ·have:=r.depth;lia
       ·rw [hn,hc];exact h'
      ·cases h'
     ·cases h'
  ·cases h'
end
end Mine
namespace Mine
open PySem PyProof.Rows PySem.Spec
theorem zam:typeLookup (.type "object") "__new__" = pure (some (.builtin "object.__new__")):=by rw [typeLookup_type,builtinLookup_eq_fast];kernel_rfl
theorem called_object:TypeCalled "object" "object.__new__" "object.__init__" :=
 ⟨by decide +kernel,by decide +kernel,⟨_,_,F.mro_object⟩,madeBy_type F.mro_object zam (by decide +kernel),by decide +kernel,by rw [isSubtype_type];kernel_rfl,F.slot_object_init⟩
theorem zaw:checkTypeCall "object" ⟨[],[]⟩=pure ():=by kernel_rfl
theorem zap:checkBuiltinCall "object.__new__" ⟨[.type "object"],[]⟩=pure ():=by kernel_rfl
theorem zaj (obj:Value):argsOk "object.__init__" ⟨[obj],[]⟩:=by
 unfold argsOk;rw [signature?_of (id := "object.__init__") (n:=['_','_','t','i','n','i','_','_']) (o:=['t','c','e','j','b','o']) (by kernel_rfl) F.owner_object];kernel_rfl
theorem zan:Bind.madeHere "object.__new__" (.type "object")=pure ():=by
 unfold Bind.madeHere;have e:Bind.staticBase (.type "object")=pure (.type "object"):=by first | rfl | kernel_rfl
 rw [e];simp only [pure_bind,called_object.made]
 first | rfl | kernel_rfl | (simp;rfl)
theorem zar:Meets (Builtin.«object.__new__» ⟨[.type "object"],[]⟩) (fun _ R s=>R (.ok (.ret (.ref s.heap.objs.size))) { s with heap:=s.heap.push { cls := .type "object",data := .plain } }) :=
 .of_wp fun prog w A R s h=>by
  obtain ⟨hp,g,d,tk,os⟩:=s;have hmh:=zan;have hsub:isSubtype (.type "type") (.type "type")=pure true:=F.sub_type_type;have hnn:((Manifest.find? "object").elim false (·.mro.any fun t=>(Manifest.find? t).elim false (·.noNew)))=false:=by decide +kernel
  have hdd:typeHasDict (.type "object")=false:=by decide +kernel
  have hdl:diesByItsTypesDel "object" = false:=by decide +kernel
  wp_walk using wpAny_newObj_type ?_
  exact ⟨_,rfl,h⟩
theorem zaq (obj:Value):Meets (Builtin.«object.__init__» ⟨[obj],[]⟩) (fun _ R s=>R (.ok (.ret .none)) s) :=
 .of_wp fun prog w A R s h=>wpAny_pure ⟨_,rfl,h⟩
section
variable {prog:Program} {w:World} {A:Around} {E:Value→Shared→Prop} {s:Shared}
theorem call_object {Q:Value→Shared→Prop} (h:Q (.ref s.heap.objs.size) { s with heap:=s.heap.push { cls := .type "object",data := .plain } }):wpAny (model prog w) A (call (.type "object") []) Q E s :=
 callType_meets (Q₁:=fun obj s₁=>obj = .ref s.heap.objs.size∧s₁ = { s with heap:=s.heap.push { cls := .type "object",data := .plain } }) called_object zaw zap F.entry_object_new F.entry_object_init zar ⟨rfl,rfl⟩
  fun obj s₁ q=>by
   obtain ⟨rfl,rfl⟩:=q;exact ⟨⟨_,Heap.get?_push_size _ rfl,rfl⟩,zaj _,_,zaq _,rfl,h⟩
end
end Mine
namespace Mine
open PySem PyProof.Rows PySem.Spec
section
variable {prog:Program} {w:World} {A:Around} {hb:HB} {Γ:y9} {c:CT} {env:Env} {s₀ s:Shared} {O₀:Addr→Prop} {ow:Nat→Option Addr} {σ:z9}
theorem obj_run {n f:Str} {i:Nat} {px fp cp p:Pos} (fx:Fx prog w A hb Γ c env s₀) (hi:c.slot n=some i) (hf:v7 f=true) (hg:c.glob f=some (.type "object")) (x:SS hb s₀ c env O₀ ow σ s)
  {Q:Flow→Shared→Prop} {E:Value→Shared→Prop} (hQ:∀ a s',SS hb s₀ c env O₀ ow (z7 σ i (.val (.ob a))) s'→Q .next s') :
  wpAny (model prog w) A (exec (.Assign [.Name n px] (.Call (.Name f fp) [] [] cp) p) env) Q E s:=by
 rw [exec_Assign_Name _ _ _ _ _ rfl];refine wpAny_bind (wpAny_standAt (wpAny_bind ?_));have xc:=x.xc fx.g₀;refine wpAny_with_toks x.tk (wpAny_Call_NameR (wpAny_Name (V0 x.fr.fk xc.gs hg ?_) (l8 hf).1));refine PySem.callWith_type rfl ?_;refine wpAny_pure ?_;refine call_object fun tk1=>?_
 generalize hH:s.heap.push { cls := .type "object",data := .plain } = H;have hk:∀ b o,s.heap.get? b=some o→H.get? b=some o:=fun b o e=>hH▸Heap.get?_push_of_some _ e
 have k1:Kp hb s { s with heap:=H } := .keeps (tk:=s.toks) hk;have x1:=x.run fx.g₀ k1 tk1;have r:VR H (n7 O₀ ow) (.ob s.heap.objs.size) (.ref s.heap.objs.size) :=
  ⟨rfl,xc.off,xc.fresh,{ cls := .type "object",data := .plain },hH▸Heap.get?_push_size _ rfl,rfl,⟨fun _ _ e=>(nomatch e),fun _ e=>(nomatch e),by decide⟩⟩
 refine wpAny_bind (wpAny_standAt (wpAny_bind (wpAny_bindName (U0 fx x1 hi r fun s2 x2 k2 _=>wpAny_pure ?_))))
 exact hQ _ _ x2
end
inductive TrX (hb:Heap):Prop
 | mk (fd:FuncData) (params:List Str) (rest:List Stmt) (c:CT) (n:Str) (f:Str) (px:Pos) (fp:Pos) (cp:Pos) (p:Pos) (h1:FnAt hb 50 fd params (.Assign [.Name n px] (.Call (.Name f fp) [] [] cp) p::rest)) (h2:(∃ rest,CT.ns c=params ++ rest)) (h3:c.kind=fd.scope.names) (h4:(∀ n v,c.gl.lookup n=some v→Glob hb n v)) (h5:params.length=1) (h6:c.ns.length=3) (h7:c.inT=false) (h8:c.slot n=some 1) (h9:v7 f=true) (h10:c.glob f=some (.type "object")) (h11:cSs c rest=[.assign 2 (.call (.ref 69) [(.var 0),(.var 1),(.lit (.str [46]))]),.ret (.call (.ref 76) [(.var 2),(.var 1)])])
structure TrEntry (hb:Heap):Prop where
 ex:TrX hb
section
variable {prog:Program} {w:World} {A:Around} {hb:HB} {Γ:y9}
theorem tr_ok (T:TrEntry hb.h) (hbase:U1 hb.h) {r:Nat} (room:Room A (r + 1)) (hcx:R2 prog w A hb Γ) (vs:List PV) (v:PV) (h:trs Γ vs=some v):R3 prog w A hb (.ref 50) vs v:=by
 refine z6 fun K0=>?_
 obtain ⟨fd,params,rest,c,n,f,px,fp,cp,p,F,hns,hk,hg,hp,hn,hT,hi,hf,hgo,hc⟩:=T.ex;refine x12 F.obj fun o ho hd=>?_
 refine K0 ?_;clear K0;refine x23 (trs_inv h :) fun l t o0 o1 hl=>?_;obtain rfl:=o0;obtain rfl:=o1
 refine ⟨50,o,fd,rfl,F.ne,ho,hd,fun O s rvs Q E xc tk hr hQ=>?_⟩
 refine fn_enter F hbase (fun q=>by rw [hT] at q;cases q) ?_ ?_ hcx hns hk hg (args:=[.str l]) hp.symm xc (.inl tk) hr (v := .str t) (fun L env s₁ _ fx ss Q' E' hQ'=>?_) hQ
 ·have:=room.depth;lia
 ·have:=room.depth;lia
 ·rw [hn] at ss;refine wpAny_execs_cons (obj_run fx hi hf hgo ss fun a s2 x2=>?_)
  refine z6 fun K0=>?_
  refine x12 (hl a :) fun v h1 h2=>?_
  refine K0 ?_;clear K0;have e:y7 Γ 0 (cSs c rest) [.val (.str l),.val (.ob a),.unset]=some (.ret (.str t),[.val (.str l),.val (.ob a),.val v]):=by
   rw [hc];have e1:z8 Γ (.call (.ref 69) [(.var 0),(.var 1),(.lit (.str [46]))]) .val [.val (.str l),.val (.ob a),.unset]=some v:=h1;have e3:z8 Γ (.call (.ref 76) [(.var 2),(.var 1)]) .val [.val (.str l),.val (.ob a),.val v]=some (.str t):=h2;show (((z8 Γ (.call (.ref 69) [(.var 0),(.var 1),(.lit (.str [46]))]) .val [.val (.str l),.val (.ob a),.unset]).map fun v=>(Fl.next,z7 [.val (.str l),.val (.ob a),.unset] 2 (.val v))).bind (seqF (y7 Γ 0 [.ret (.call (.ref 76) [(.var 2),(.var 1)])])))=_
   rw [e1];show (((z8 Γ (.call (.ref 76) [(.var 2),(.var 1)]) .val [.val (.str l),.val (.ob a),.val v]).map fun v'=>(Fl.ret v',[.val (.str l),.val (.ob a),.val v])).bind (seqF (y7 Γ 0 [])))=_
   rw [e3];rfl
  refine soundSs fx rest O _ _ _ x2 _ _ e _ _ fun f s' q=>?_
  obtain ⟨rv,rfl,k2,_,r2⟩:=q;exact hQ' _ _ ⟨k2,.inl ⟨rv,rfl,r2⟩⟩
end
end Mine
namespace Mine
open PySem PyProof.Rows PySem.Spec
inductive Raw (h:Heap) (e:Addr) (cx:Bool):Prop
 | mk (o:Obj) (vs:Array Value) (g:h.get? e=some o) (c:o.cls = .type "IndexError") (d:o.data = .fields vs) (z:vs.size=6) (x:vs[1]?=some .none) (y:cx=true→vs[2]?=some .none)
inductive HdR (hd:Option Value) (h:Heap):Prop
 | mk (e1:Addr) (o:Obj) (vs:Array Value) (e:hd=some (.ref e1)) (g:h.get? e1=some o) (d:o.data = .fields vs) (x:vs[2]?=some .none)
noncomputable def HdOk (A:Around) (s:Shared):Prop:=A.handled=none∨HdR A.handled s.heap
theorem entry_unchain:entryFor table "proto.unchain" = some Builtin.«proto.unchain» := entryFor_of_tree (by kernel_rfl)
section
variable {prog:Program} {w:World} {A:Around} {E:Value→Shared→Prop} {s:Shared}
theorem unchain_ok {e e1:Addr} {o:Obj} {vs:Array Value} {Q:Value→Shared→Prop} (ho:s.heap.get? e1=some o) (hd:o.data = .fields vs) (h2:vs[2]?=some .none) (hQ:Q .none s) :
  wpAny (model prog w) A (runValue (.builtin "proto.unchain" ⟨[.ref e,.ref e1,.ref e1,.bool false],[]⟩)) Q E s:=by
 refine wpAny_runValue (codeAny_builtin entry_unchain ?_);refine wpAny_bind (wpAny_field ho hd h2 ?_);exact wpAny_pure hQ
theorem raiseNew_ok {α:Type} {e:Addr} {o:Obj} {t:Value} {Q:α→Shared→Prop} (hh:HdOk A s) (he:s.heap.get? e=some o) (hc:o.cls = .type "IndexError") (hd:o.data = .fields #[t,.none,.none,.none,.bool false,.none])
  (hne:∀ e1,A.handled=some (.ref e1)→e1≠e)
  (hE:∀ h',(∀ b o,b≠e→s.heap.get? b=some o→h'.get? b=some o)→Raw h' e A.handled.isNone→E (.ref e) { s with heap:=h' }):wpAny (model prog w) A (raiseNew (.ref e):Sem α) Q E s:=by
 unfold raiseNew;refine wpAny_bind (wpAny_handled ?_);rcases hh with hh | ⟨e1,o1,vs,hh,h1,h2,h3⟩
 ·rw [hh];have:E (.ref e) s:=hE s.heap (fun b o _ q=>q) ⟨o,_,he,hc,hd,rfl,rfl,fun _=>rfl⟩
  first
   | exact wpAny_throw this
   | exact wpAny_bind (wpAny_pure (wpAny_throw this))
 ·rw [hh];dsimp only;have n1:=hne e1 hh;rw [if_pos (show (Value.ref e1 != Value.ref e)=true by simp [n1])];refine wpAny_bind (wpAny_holding (unchain_ok h1 h2 h3 ?_));refine wpAny_bind (wpAny_setField (i:=2) (x := .ref e1) he hd (by decide:2<6) (wpAny_throw (hE _ (fun b o' hb q=>(Heap.get?_update_other _ _ (Ne.symm hb)).trans q) ?_)))
  ·refine ⟨_,_,Heap.get?_update_self _ he (Obj.isFreed_of_fields (Obj.data_mapFields hd _)),(Obj.cls_mapFields _ _).trans hc,Obj.data_mapFields hd _,rfl,rfl,fun q=>?_⟩
   rw [hh] at q;cases q
theorem K2 {α:Type} {msg:String} {Q:α→Shared→Prop} (hh:HdOk A s)
  (hE:∀ h' tk e,(∀ b o,s.heap.get? b=some o→h'.get? b=some o)→s.heap.get? e=none→Raw h' e A.handled.isNone→E (.ref e) { s with heap:=h',toks:=tk }) :
  wpAny (model prog w) A (raiseErrorWords "IndexError" msg:Sem α) Q E s:=by
 unfold raiseErrorWords;refine wpAny_bind (wpAny_mkText (wpAny_bind (wpAny_newExc_plain plainExc_IndexError fun h' e hm=>?_)))
 refine x12 hm.there fun t ht _=>?_
 refine raiseNew_ok ?_ ht rfl rfl (fun e1 q q'=>?_) fun h'' hk hr=>?_
 ·rcases hh with hh | ⟨e1,o1,vs,hh,h1,h2,h3⟩
  ·exact .inl hh
  ·exact .inr ⟨e1,o1,vs,hh,hm.keeps _ _ h1,h2,h3⟩
 ·rcases hh with hh | ⟨e2,o1,vs,hh,h1,h2,h3⟩
  ·rw [hh] at q;cases q
  ·rw [hh] at q;cases q;have:=hm.new;rw [← q',h1] at this;cases this
 ·exact hE _ _ _ (fun b o q=>hk b o (fun q'=>by have:=hm.new;rw [← q',q] at this;cases this) (hm.keeps _ _ q)) hm.new hr
theorem getItem_out {l:Addr} {items:Array Value} {k:Int} {t:Tok} {Q:Value→Shared→Prop} (hA:HdOk A s) (hl:s.heap.IsList l items)
  (hout:(items.size:Int)≤k) (hhi:k<2 ^ 63)
  (hE:∀ h' tk e,(∀ b o,s.heap.get? b=some o→h'.get? b=some o)→s.heap.get? e=none→Raw h' e A.handled.isNone→E (.ref e) { s with heap:=h',toks:=tk }) :
  wpAny (model prog w) A (getItem (.ref l) (.int k t)) Q E s:=by
 refine z6 fun K0=>?_
 refine x13 (id hl :) fun o ho hc o0=>?_;refine Exists.elim o0 fun ne hd=>?_
 refine K0 ?_;clear K0;unfold getItem
 try with_reducible refine wpAny_holding ?_
 first | refine wpAny_bind (wpAny_pure ?_) | skip
 refine wpAny_bind (wpAny_sequenceKey hl.typeIs (by decide) ?_);refine wpAny_bind (wpAny_callSpecial?_slot (name:=Str.ofString "__getitem__") hl.typeIs slot_list_getitem
  (wpAny_call_entry slot_list_getitem hl.typeIs entry_list_getitem ?_ (args_list_getitem _ _)))
 show wpAny _ _ (Builtin.List.listSubscript? (.int k t) >>= _) _ _ s;have h0:0≤k:=by have:(0:Int)≤(items.size:Int):=Int.natCast_nonneg _;lia
 refine wpAny_bind (wpAny_listSubscript_int (fitsIndex_both (by lia) hhi) ?_);clear hhi
 induction k with
 | ofNat j =>
  have hx:items[j]?=none:=Array.getElem?_eq_none (by have:(items.size:Int)≤(j:Int):=hout;lia)
  refine wpAny_bind (wpAny_bind (wpAny_seqItemAt ho hd (wpAny_pure ?_)))
  rw [hx]
  first
   | exact wpAny_bind (wpAny_rule (K2 hA hE))
   | exact wpAny_bind (wpAny_rule (wpAny_bind (K2 hA hE)))
   | exact wpAny_bind (wpAny_bind (wpAny_rule (K2 hA hE)))
   | exact wpAny_rule (K2 hA hE)
 | negSucc j=>exact absurd h0 (by have:=Int.negSucc_lt_zero j;lia)
end
end Mine
namespace Mine
open PySem PyProof.Rows PySem.Spec
noncomputable def Rec (o:Obj):Prop:=(∃ vs,o.data = .fields vs)∧∃ T,o.cls = .type T∧T ∉ ["list","tuple","object","code","builtin_function_or_method","frame"]
theorem Rec.ne {o:Obj} (x:Rec o) {T:String} (h:T∈["list","tuple","object","code","builtin_function_or_method","frame"]):o.cls ≠ .type T:=fun e=>by
 refine w7 x fun _ o0=>?_;refine x12 o0 fun T' h1 h2=>?_
 rw [h1] at e;injection e with e;exact h2 (e▸h)
theorem FR.turnX {hb:HB} {h h':Heap} {c:CT} {env:Env} {O:Addr→Prop} {ow:Nat→Option Addr} {σ:z9} (x:FR hb c env O ow σ h) {a:Addr} {oa:Obj} (ha:h.get? a=some oa) (hr:Rec oa)
  (hk:∀ b o,b≠a→h.get? b=some o→h'.get? b=some o):FR hb c env O ow σ h':=by
 have ne:∀ {b o},h.get? b=some o→(∀ vs,o.data ≠ .fields vs)→b≠a:=fun e n q=>by
  obtain ⟨⟨vs,hd⟩,_⟩:=hr;rw [q,ha] at e;cases e;exact n _ hd
 have nc:∀ {b o T},h.get? b=some o→o.cls = .type T→T∈["list","tuple","object","code","builtin_function_or_method","frame"]→b≠a:=fun e n m q=>by
  rw [q,ha] at e;cases e;exact hr.ne m n
 have km:∀ b o,h.get? b=some o→W3 O b o→h'.get? b=some o:=fun b o e l=>hk b o (by
  rcases l.2.2.1 with q | q | q
  ·exact nc e q (by decide)
  ·exact nc e q (by decide)
  ·exact nc e q (by decide)) e
 have ks:∀ {i sl ov},SlotR h O ow i sl ov→SlotR h' O ow i sl ov:=by
  intro i sl ov x;refine x.map (fun _ x=>?_) (fun _ x=>?_) (fun _ x=>?_)
  ·obtain ⟨rv,e,r⟩:=x;exact ⟨rv,e,r.mono km fun _ _ _ q=>q⟩
  ·obtain ⟨z,a',vs,e,ho,ha',⟨n,hl⟩,r⟩:=x;exact ⟨z,a',vs,e,ho,ha',⟨n,hk _ _ (nc hl rfl (by decide)) hl⟩,r.mono km fun _ _ _ q=>q⟩
  ·obtain ⟨b,e,hb,r⟩:=x;exact ⟨b,e,hb,fun a' q=>let ⟨o,vs,ho,hc,hd,h1,h2⟩:=r a' q;⟨o,vs,hk _ _ (nc ho hc (by decide)) ho,hc,hd,h1,h2⟩⟩
 refine ⟨x.fk,?_,fun n i h1 h2=>?_⟩
 ·refine z6 fun K0=>?_
  obtain ⟨m,⟨o,es,ep,ho,hd,r⟩,hr'⟩:=x.ns;refine K0 ?_;clear K0;exact ⟨m,⟨o,es,ep,hk _ _ (ne ho fun vs q=>by rw [hd] at q;cases q) ho,hd,r⟩,fun n i h1 h2=>ks (hr' n i h1 h2)⟩
 ·refine z6 fun K0=>?_
  obtain ⟨a',e,ha',ov,⟨o,ho,hd⟩,r⟩:=x.cells n i h1 h2;refine K0 ?_;clear K0;exact ⟨a',e,ha',ov,⟨o,hk _ _ (ne ho fun vs q=>by rw [hd] at q;cases q) ho,hd⟩,ks r⟩
section
variable {prog:Program} {w:World} {A:Around} {hb:HB} {Γ:y9} {c:CT} {env:Env} {s₀ s:Shared} {O₀:Addr→Prop} {ow:Nat→Option Addr} {σ:z9}
theorem SS.turnX (x:SS hb s₀ c env O₀ ow σ s) (g₀:GS hb s₀) {a:Addr} {oa:Obj} (ha:s.heap.get? a=some oa) (hr:Rec oa) (hf:s₀.heap.get? a=none) {h':Heap}
  (hk:∀ b o,b≠a→s.heap.get? b=some o→h'.get? b=some o) (ha':∃ o,h'.get? a=some o):SS hb s₀ c env O₀ ow σ { s with heap:=h' } := by
 refine ⟨x.kp.turns (tk:=s.toks) (X:=(· = a)) g₀ (fun b o q e=>hk b o q e) (fun b q=>by rw [q];exact hf) (fun b o q e => .inl ?_),x.fr.turnX ha hr hk,fun b hb'=>?_,x.inj,x.fresh,x.apart,x.tk,x.own⟩
 ·rw [q,ha] at e;obtain rfl:=Option.some.inj e;exact ⟨fun q=>(by refine w7 hr fun _ o0=>?_;refine x12 o0 fun T h1 _=>?_;rw [h1] at q;cases q),hr.ne (by decide)⟩
 ·refine z6 fun K0=>?_
  refine w7 (x.ok b hb' :) fun h1 o0=>?_;refine Exists.elim o0 fun o h2=>?_
  refine K0 ?_;clear K0;refine ⟨h1,?_⟩;by_cases q:b=a
  ·rw [q];exact ha'
  ·exact ⟨o,hk b o q h2⟩
theorem Kp.slots {S:List Addr} {h':Heap} (x:Heap.SlotsOnly S s.heap h') (hS:∀ b∈S,hb.h.get? b=Option.none∧NFat s.heap b):Kp hb s { s with heap:=h' } := by
 have sf:Soft s.heap h':=fun b o hb' e=>by
  by_cases q:b∈S
  ·refine x03 (hS b q :) fun _ _ o0=>?_;refine x12 o0 fun o' e' hd=>?_
   rw [e] at e';cases e';exact .inr ⟨hd,x.2.2 b o e⟩
  ·exact .inl ((x.2.1 b q).trans e)
 refine ⟨sf,rfl,fun g=>⟨fun b o hb' e=>?_,g.tab.others (X:=(· ∈ S)) (fun b o q e=>(x.2.1 b q).trans e) (fun b o q e => .inr fun hd=>?_),g.gens,g.fdS sf⟩⟩
 ·have q:b ∉ S:=fun q=>by rw [(hS b q).1] at e;cases e
  exact (x.2.1 b q).trans (g.hard b o hb' e)
 ·refine x03 (hS b q :) fun _ _ o0=>?_;refine x12 o0 fun o' e' o1=>?_;refine x21 o1 fun es ep hd'=>?_
  rw [e] at e';cases e';exact hd.1 _ _ hd'
inductive Noted (h₀:Heap) (ow:Nat→Option Addr) (h:Heap) (e:Addr) (cx:Bool) (fl:Value):Prop
 | mk (o:Obj) (vs:Array Value) (T:Addr) (oT:Obj) (ts:Array Value) (g:h.get? e=some o) (c:o.cls = .type "IndexError") (d:o.data = .fields vs) (z:vs.size=6) (x1:vs[1]?=some (.ref T)) (x2:cx=true→vs[2]?=some .none)
  (n:T≠e) (gT:h.get? T=some oT) (cT:oT.cls = .type "traceback") (dT:oT.data = .fields ts) (x3:ts[3]?=some fl) (n1:h₀.get? e=none) (n2:h₀.get? T=none) (w1:∀ i,ow i≠some e) (w2:∀ i,ow i≠some T)
noncomputable def hp0:Heap := { objs := #[] }
theorem ff_of (x:XC hb O₀ s):∀ l:List Env,(∀ e∈l,e.scope.kind ≠ .module∧∃ L,e.frame=some L∧hb.h.get? L=none∧(L∈hb.fm∨L=hb.own))→s.heap.FunFrames hp0 l
 | [],_=>trivial
 | env::r,h=>by
  refine z6 fun K0=>?_
  refine w7 (h env (List.mem_cons_self ..) :) fun h1 o0=>?_;refine x13 o0 fun L h2 h3 h4=>?_
  have nf:NFat s.heap L:=by
   rcases h4 with h4 | h4
   ·exact x.gs.fd L h4
   ·exact h4▸x.own
  refine w7 nf fun _ o0=>?_;refine x12 o0 fun o ho o1=>?_;refine x21 o1 fun es ep hd=>?_
  refine K0 ?_;clear K0;exact ⟨h1,⟨L,o,h2,by simp [hp0,Heap.get?],ho,fun vs q=>by rw [hd] at q;cases q⟩,ff_of x r fun e he=>h e (List.mem_cons_of_mem _ he)⟩
theorem frs_in (fr:Frs A hb) (x:XC hb O₀ s):∃ l,A.frames=some l∧s.heap.FunFrames hp0 l∧∀ b∈l.filterMap (·.frame),hb.h.get? b=none∧NFat s.heap b:=by
 refine z6 fun K0=>?_
 refine x12 fr fun l e h=>?_
 refine K0 ?_;clear K0;refine ⟨l,e,ff_of x l h,fun b hb'=>?_⟩
 refine z6 fun K0=>?_
 refine x12 (List.mem_filterMap.mp hb' :) fun env he hf=>?_
 refine w7 (h env he :) fun h1 o0=>?_;refine x13 o0 fun L h2 h3 h4=>?_
 refine K0 ?_;clear K0;rw [h2] at hf;cases hf;refine ⟨h3,?_⟩;rcases h4 with h4 | h4
 ·exact x.gs.fd b h4
 ·exact h4▸x.own
theorem note_new (fr:Frs A hb) (hA:∃ l,A.frames=some (env::l)) (hf:env.frame=some env.locals) (x:SS hb s₀ c env O₀ ow σ s) (g₀:GS hb s₀) {e:Addr} {cx:Bool} (hr:Raw s.heap e cx) (h0:s₀.heap.get? e=none) (hw:∀ i,ow i≠some e)
  {Q:Unit→Shared→Prop} {E:Value→Shared→Prop} (hQ:∀ s',SS hb s₀ c env O₀ ow σ s'→Noted s₀.heap ow s'.heap e cx (rawInt env.locals)→Q () s'):wpAny (model prog w) A (noteFrame (.ref e) env) Q E s:=by
 refine z6 fun K0=>?_
 obtain ⟨o,vs,he,hc,hd,hz,h1,h2⟩:=hr;refine x13 (frs_in fr (x.xc g₀) :) fun l hl hff hS=>?_
 refine Exists.elim hA fun l' hl'=>?_
 refine K0 ?_;clear K0;rw [hl] at hl';cases hl';have hsz:1<vs.size:=by lia
 unfold noteFrame;simp only [hf];refine wpAny_bind (wpAny_field he hd h1 ?_);rw [if_neg (by decide)];refine wpAny_bind (wpAny_frameOf_fun hl hff hf fun h₁ hs₁=>?_)
 have k1:Kp hb s { s with heap:=h₁ } := .slots hs₁ hS;have x1:=x.run g₀ k1 x.tk;have ene:e ∉ (env::l').filterMap (·.frame):=fun q=>by
  refine x03 (hS e q :) fun _ _ o0=>?_;refine x12 o0 fun o' e' o1=>?_;refine x21 o1 fun es ep hd'=>?_
  rw [he] at e';cases e';rw [hd] at hd';cases hd'
 have he1:h₁.get? e=some o:=(hs₁.2.1 e ene).trans he;refine wpAny_bind (wpAny_entryPlaceOf fun pl hpl=>?_)
 refine wpAny_bind (wpAny_newObj_type ?_ (hpl.sizeOk5 _ _ _ _ _));generalize hob:({ cls := .type "traceback",dict:=none,data := .fields ([Value.none,.ref env.locals,.none,rawInt env.locals,.none] ++ (if pl.isEmpty then List.replicate 6 Value.none else pl)).toArray } : Obj)=ob;have k2:Kp hb { s with heap:=h₁ } { s with heap:=h₁.push ob } := .push (s := { s with heap:=h₁ }) (tk:=s.toks);have x2:=x1.run g₀ k2 x.tk;have he2:(h₁.push ob).get? e=some o:=Heap.get?_push_of_some ob he1;have hTe:h₁.objs.size≠e:=Nat.ne_of_gt (Heap.lt_size he1);have hT2:(h₁.push ob).get? h₁.objs.size=some ob:=Heap.get?_push_size _ (by rw [← hob];rfl);have hT0:s₀.heap.get? h₁.objs.size=none:=Z4 x1.kp g₀ (Z7 (h:=h₁) (Nat.le_refl _));refine wpAny_setField he2 hd hsz ?_;have re:Rec o:=⟨⟨vs,hd⟩,_,hc,by decide⟩;have hself:=Heap.get?_update_self (Obj.mapFields (·.setIfInBounds 1 (Value.ref h₁.objs.size))) he2 (Obj.isFreed_of_fields (Obj.data_mapFields hd _));have x3:=x2.turnX g₀ (a:=e) he2 re h0 (h':=(h₁.push ob).update e (Obj.mapFields (·.setIfInBounds 1 (Value.ref h₁.objs.size)))) (fun b o' hb' q=>(Heap.get?_update_other _ _ (Ne.symm hb')).trans q) ⟨_,hself⟩
 refine hQ _ x3 ⟨_,_,h₁.objs.size,ob,_,hself,(Obj.cls_mapFields _ _).trans hc,Obj.data_mapFields hd _,by simp [hz],by simp [hsz],fun q=>?_,hTe,(Heap.get?_update_other _ _ (Ne.symm hTe)).trans hT2,by rw [← hob],by rw [← hob],by simp,h0,hT0,hw,fun i q=>?_⟩
 ·simpa [Array.getElem?_setIfInBounds] using h2 q
 ·refine w7 (x1.ok _ (.inr ⟨i,q⟩) :) fun _ o0=>?_;refine Exists.elim o0 fun o' q'=>?_
  exact Nat.lt_irrefl _ (Heap.lt_size q')
theorem Noted.ks {h₀ h h':Heap} {e:Addr} {cx:Bool} {fl:Value} (x:Noted h₀ ow h e cx fl) (k:∀ b o,h.get? b=some o→Rec o→(∀ i,ow i≠some b)→h'.get? b=some o):Noted h₀ ow h' e cx fl :=
 let ⟨o,vs,T,oT,ts,he,hc,hd,hz,h1,h2,hTe,hT,hTc,hTd,h3,h0,h0T,w1,w2⟩:=x
 ⟨o,vs,T,oT,ts,k _ _ he ⟨⟨_,hd⟩,_,hc,by decide⟩ w1,hc,hd,hz,h1,h2,hTe,k _ _ hT ⟨⟨_,hTd⟩,_,hTc,by decide⟩ w2,hTc,hTd,h3,h0,h0T,w1,w2⟩
theorem K1 (hf:env.frame=some env.locals) {h₀:Heap} {e:Addr} {cx:Bool} (hn:Noted h₀ ow s.heap e cx (rawInt env.locals)) {M:Model} {Q:Unit→Shared→Prop} {E:Value→Shared→Prop} (hQ:Q () s):wpAny M A (noteFrame (.ref e) env) Q E s:=by
 obtain ⟨o,vs,T,oT,ts,he,hc,hd,hz,h1,h2,hTe,hT,hTc,hTd,h3,_⟩:=hn;exact wpAny_noteFrame_inFlight hf he hd h1 hT hTd h3 hQ
theorem flight (x:SS hb s₀ c env O₀ ow σ s) (g₀:GS hb s₀) {e:Addr} {cx:Bool} {fl:Value} (hn:Noted s₀.heap ow s.heap e cx fl) (fr:Option Addr) {M:Model} {Q:Unit→Shared→Prop} {E:Value→Shared→Prop}
  (hQ:∀ s',SS hb s₀ c env O₀ ow σ s'→Noted s₀.heap ow s'.heap e cx (fr.elim .none fun f=>rawInt f)→(∀ e' cx',e'≠e→Raw s.heap e' cx'→Raw s'.heap e' cx')→Q () s'):wpAny M A (setFlight (.ref e) fr) Q E s:=by
 obtain ⟨o,vs,T,oT,ts,he,hc,hd,hz,h1,h2,hTe,hT,hTc,hTd,h3,h0,h0T,w1,w2⟩:=hn;have hsz:3<ts.size:=(Array.getElem?_eq_some_iff.mp h3).1;refine wpAny_bind (wpAny_field he hd h1 ?_);rw [if_pos (show (Value.ref T != Value.none)=true from by simp)];refine wpAny_setField hT hTd hsz ?_;have hself:=Heap.get?_update_self (Obj.mapFields (·.setIfInBounds 3 (fr.elim Value.none fun f=>rawInt f))) hT (Obj.isFreed_of_fields (Obj.data_mapFields hTd _))
 have hk:∀ b o',b≠T→s.heap.get? b=some o'→(s.heap.update T (Obj.mapFields (·.setIfInBounds 3 (fr.elim Value.none fun f=>rawInt f)))).get? b=some o':=fun b o' hb' q=>(Heap.get?_update_other _ _ (Ne.symm hb')).trans q
 have x3:=x.turnX g₀ (a:=T) hT ⟨⟨ts,hTd⟩,_,hTc,by decide⟩ h0T hk ⟨_,hself⟩;refine hQ _ x3 ⟨o,vs,T,_,_,hk _ _ (Ne.symm hTe) he,hc,hd,hz,h1,h2,hTe,hself,(Obj.cls_mapFields _ _).trans hTc,Obj.data_mapFields hTd _,by simp [hsz],h0,h0T,w1,w2⟩ fun e' cx' hne hr=>?_
 obtain ⟨o',vs',he',hc',hd',r1,r2,r3⟩:=hr;exact ⟨o',vs',hk _ _ (fun q=>by rw [q,hT] at he';cases he';rw [hTc] at hc';injection hc' with hc';exact absurd hc' (by decide)) he',hc',hd',r1,r2,r3⟩
end
end Mine
namespace Mine
open PySem PyProof.Rows PySem.Spec
section
variable {prog:Program} {w:World} {A A₁:Around} {hb:HB} {Γ:y9} {c:CT} {env:Env} {s₀ s:Shared} {O₀:Addr→Prop} {ow:Nat→Option Addr} {σ:z9}
theorem SS.growL (x:SS hb s₀ c env O₀ ow σ s) (g₀:GS hb s₀) {i:Nat} {a:Addr} {xs ys:List PV} {vs ws:List Value} {h':Heap} {tk:Nat} (htk:1≤tk) (hw:ow i=some a) (hs:σ[i]?=some (.own xs)) (hl:s.heap.PlainList a vs.toArray) (hl':h'.PlainList a (vs ++ ws).toArray) (hsb:Heap.SameBut a s.heap h')
  (hr:VRs s.heap (n7 O₀ ow) xs vs) (r:VRs s.heap (n7 O₀ ow) ys ws) (hz:xs.length + ys.length≤small) :
  SS hb s₀ c env O₀ ow (σ.set i (.own (xs ++ ys))) { s with heap:=h',toks:=tk } ∧ KS s.heap ow h' ow:=by
 refine z6 fun K0=>?_
 refine Exists.elim (id hl :) fun n hD=>?_
 refine Exists.elim (id hl' :) fun n' hD'=>?_
 refine K0 ?_;clear K0;have hk:∀ b o,¬ b=a→s.heap.get? b=some o→h'.get? b=some o:=fun b o hb e=>hsb.extBut b o hb e
 have km:∀ b o,s.heap.get? b=some o→W3 (n7 O₀ ow) b o→h'.get? b=some o:=fun b o e l=>hk b o (fun q=>l.2.1 (q ▸ .inr ⟨i,hw⟩)) e
 have hta:a≠x9:=(x.ok a (.inr ⟨i,hw⟩)).1;have sl:∀ {j ov},SlotR s.heap (n7 O₀ ow) ow j σ[j]? ov→SlotR h' (n7 O₀ ow) ow j (σ.set i (.own (xs ++ ys)))[j]? ov:=by
  intro j ov q;by_cases hj:j=i
  ·subst hj;rw [hs] at q;rw [List.getElem?_set_self (List.getElem?_eq_some_iff.mp hs).1];obtain ⟨z,a',vs',e,ho,ha,hl0,r0⟩:=q;rw [hw] at ho;obtain rfl:=Option.some.inj ho;exact ⟨by rw [List.length_append];exact hz,a,vs ++ ws,e,hw,ha,hl',(hr.mono km fun _ _ _ q=>q).append (r.mono km fun _ _ _ q=>q)⟩
  ·rw [List.getElem?_set_ne (Ne.symm hj)]
   cases hsj:σ[j]? with
   | none=>trivial
   | some sl =>
   rw [hsj] at q
   induction sl with
   | unset=>trivial
   | val v' =>
    obtain ⟨rv,e,r⟩:=q;exact ⟨rv,e,r.mono km fun _ _ _ q=>q⟩
   | own xs' =>
    obtain ⟨z,a',vs',e,ho,ha,⟨m,hm⟩,r0⟩:=q
    exact ⟨z,a',vs',e,ho,ha,⟨m,hk _ _ (fun q=>hj (x.inj j i a (q▸ho) hw)) hm⟩,r0.mono km fun _ _ _ q=>q⟩
   | app r' =>
    obtain ⟨b,e,hb,r0⟩:=q
    exact ⟨b,e,hb,fun a' q=>let ⟨o,us,ho,hc,hd,h1,h2⟩:=r0 a' q;⟨o,us,hk _ _ (fun q=>by subst q;rw [hD] at ho;cases ho;exact absurd hc (by show Value.type "list" ≠ Value.type "builtin_function_or_method";decide)) ho,hc,hd,h1,h2⟩⟩
 have al:∀ b o,s.heap.get? b=some o→∃ o',h'.get? b=some o':=fun b o e=>by
  by_cases hb:b=a
  ·subst hb;exact ⟨_,hD'⟩
  ·exact ⟨o,hk b o hb e⟩
 refine ⟨⟨x.kp.turns (tk:=tk) (X:=(· = a)) g₀ hk (fun b q=>by rw [q];exact x.fresh i a hw) fun b o q e=>?_,⟨x.fr.fk,?_,fun n j h1 h2=>?_⟩,fun b hb=>?_,x.inj,x.fresh,x.apart,htk,x.own⟩,⟨al,fun b o hb e hd hO=>hk b o (fun q=>hO i (q▸hw)) e,fun _ _ _ q=>q⟩⟩
 ·rw [q,hD] at e;obtain rfl:=Option.some.inj e;exact .inl ⟨(show Value.type "list" ≠ Value.none by decide),(show Value.type "list" ≠ Value.type "code" by decide)⟩
 ·refine z6 fun K0=>?_
  obtain ⟨m,⟨o,es,ep,ho,hd,r0⟩,hr0⟩:=x.fr.ns;refine K0 ?_;clear K0;exact ⟨m,⟨o,es,ep,hk _ _ (fun q=>by rw [q,hD] at ho;cases ho;cases hd) ho,hd,r0⟩,fun n i h1 h2=>sl (hr0 n i h1 h2)⟩
 ·refine z6 fun K0=>?_
  obtain ⟨a',e,ha,ov,⟨o,ho,hd⟩,r0⟩:=x.fr.cells n j h1 h2;refine K0 ?_;clear K0;exact ⟨a',e,ha,ov,⟨o,hk _ _ (fun q=>by rw [q,hD] at ho;cases ho;cases hd) ho,hd⟩,sl r0⟩
 ·refine z6 fun K0=>?_
  refine w7 (x.ok b hb :) fun h1 o0=>?_;refine Exists.elim o0 fun o h2=>?_
  refine K0 ?_;clear K0;exact ⟨h1,al b o h2⟩
theorem extend_plain {l b:Addr} {xs ys:Array Value} {Q:Value→Shared→Prop} {E:Value→Shared→Prop} (hl:s.heap.PlainList l xs) (hl2:s.heap.PlainList b ys) (hz:xs.size + ys.size≤2 * small)
  (hQ:∀ h' tk,h'.PlainList l (xs ++ ys)→Heap.SameBut l s.heap h'→Q .none { s with heap:=h',toks:=tk }):wpAny (model prog w) A (call (.builtin "list.extend") [.ref l,.ref b]) Q E s:=by
 refine z6 fun K0=>?_
 refine Exists.elim hl fun n ho=>?_
 refine Exists.elim hl2 fun n2 ho2=>?_
 refine K0 ?_;clear K0;have hsm:2 * small≤sizeLine:=by decide
 have hd:¬(!xs.isEmpty && Builtin.List.listTooLong (xs.size + ys.size))=true:=by
  have:Builtin.List.listTooLong (xs.size + ys.size)=false:=by
   unfold Builtin.List.listTooLong;exact decide_eq_false (by lia)
  rw [this];simp
 refine call_meets F.slot_list_extend ⟨_,ho,rfl⟩ F.entry_list_extend (F.args_list_extend_2 _ _) (AutoSeq1.list_extend_list_list_0 l xs n b ys n2 hd (by lia) (by lia)) ⟨ho,ho2,?_⟩;refine hQ (s.heap.update l (Obj.mapSeq fun x=>x ++ ys)) _ ⟨if (xs ++ ys).size == xs.size then n else n + 1,?_⟩ (Heap.SameBut.update ..)
 rw [Heap.get?_update_self _ ho rfl];rfl
structure XF (prog:Program) (w:World) (A₁:Around) (hb:HB) (Γ:y9) (c:CT) (env:Env) (s₀:Shared):Prop where
 fx:Fx prog w A₁ hb Γ c env s₀
 fr:∃ l,A₁.frames=some (env::l)
 hf:env.frame=some env.locals
noncomputable def Out (hb:HB) (s₀:Shared) (c:CT) (env:Env) (O₀:Addr→Prop) (ow:Nat→Option Addr) (σ:z9) (s:Shared) (cx:Bool) (noted:Bool) (e:Addr) (s':Shared):Prop :=
 SS hb s₀ c env O₀ ow σ s'∧(if noted then Noted s₀.heap ow s'.heap e cx (rawInt env.locals) else Raw s'.heap e cx∧s₀.heap.get? e=none∧∀ i,ow i≠some e)
theorem idx_raise {nx nk:Str} {ix ik:Nat} {px pk p:Pos} {xs:List PV} {k:Int} (x:SS hb s₀ c env O₀ ow σ s) (g₀:GS hb s₀) (hd:HdOk A s) (hx:c.slot nx=some ix) (ox:v7 nx=true) (hk:c.slot nk=some ik) (ok:v7 nk=true)
  (sx:σ[ix]?=some (.val (.list xs))) (sk:σ[ik]?=some (.val (.int k))) (hout:(xs.length:Int)≤k) (hhi:k<2 ^ 63)
  {Q:Value→Shared→Prop} {E:Value→Shared→Prop} (hE:∀ e s',Out hb s₀ c env O₀ ow σ s A.handled.isNone false e s'→E (.ref e) s') :
  wpAny (model prog w) A (eval (.Subscript (.Name nx px) (.Name nk pk) p) env) Q E s:=by
 refine wpAny_with_toks x.tk (sub_idx (fun _ _ _ q=>(nomatch q)) ?_)
 refine wpAny_Name (V5 x.fr hx (l8 ox).2 fun ov r=>?_) (l8 ox).1
 rw [sx] at r;obtain ⟨rv,rfl,r⟩:=r;refine ⟨rv,rfl,?_⟩;refine wpAny_Name (V5 x.fr hk (l8 ok).2 fun ov r2=>?_) (l8 ok).1
 rw [sk] at r2;obtain ⟨rv2,rfl,t,rfl⟩:=r2;refine ⟨_,rfl,?_⟩;obtain ⟨z,a,vs,rfl,_,_,hl,hr⟩:=r;refine ⟨⟨_,_,hl.isList.typeIs,slot_list_getitem.lookup⟩,?_⟩;refine getItem_out hd hl.isList (by rw [List.size_toArray,hr.length];exact hout) hhi fun h' tk e hk' h0 hraw htk=>?_
 have kp:Kp hb s { s with heap:=h',toks:=tk } := .keeps hk';have xc:=x.xc g₀;refine hE e _ ⟨x.run g₀ kp htk,hraw,?_,fun i q=>?_⟩
 ·exact Z4 x.kp g₀ h0
 ·refine w7 (x.ok e (.inr ⟨i,q⟩) :) fun _ o0=>?_;refine Exists.elim o0 fun o q'=>?_
  rw [h0] at q';cases q'
end
end Mine
namespace Mine
open PySem PyProof.Rows PySem.Spec
section
variable {prog:Program} {w:World} {A A₁:Around} {hb:HB} {Γ:y9} {c:CT} {env:Env} {s₀ s:Shared} {O₀:Addr→Prop} {ow:Nat→Option Addr} {σ:z9}
theorem came_back {e:Addr} {cx:Bool} {s:Shared} (x:SS hb s₀ c env O₀ ow σ s) (g₀:GS hb s₀) (hf:env.frame=some env.locals) (hn:Noted s₀.heap ow s.heap e cx (rawInt env.locals)) {M:Model} {E:Value→Shared→Prop}
  (hE:∀ s',Out hb s₀ c env O₀ ow σ s cx true e s'→E (.ref e) s'):cameBackBy M A env E (.ref e) s:=by
 have hn':=hn;obtain ⟨o,vs,T,oT,ts,he,hc,hd,hz,h1,_⟩:=hn';refine wpAny_bind (wpAny_field he hd h1 ?_);rw [if_neg (show ¬ ((Value.ref T == Value.none)=true) from by simp)];refine flight x g₀ hn env.frame fun s' x' n' _=>hE s' ⟨x',?_⟩
 rw [hf] at n';exact n'
theorem noted_kp {h₀:Heap} {s s':Shared} {e:Addr} {cx:Bool} {fl:Value} (x:Noted h₀ ow s.heap e cx fl) (k:Kp hb s s') (g:GS hb s):Noted h₀ ow s'.heap e cx fl :=
 x.ks fun b o q hr _=>k.soft.get (fun q'=>by
  refine x12 g.tab fun _ t _=>?_
  refine w7 hr fun o0 o1=>?_;refine x12 o1 fun T hc _=>?_;obtain ⟨vs,hd⟩:=o0
  have:=t.2;rw [← q',q] at this;obtain rfl:=Option.some.inj this
  cases hc) (fun _ _ q'=>by refine w7 hr fun o0 _=>?_;obtain ⟨vs,hd⟩:=o0;rw [hd] at q';cases q') q
section
variable {nx nk nv:Str} {ix ik iv:Nat} {px pk p pv pc pw:Pos} {body:List Stmt}
theorem skip_next (Γ:y9) {xs:List (List Nat)} {k:Nat} {t t':List Nat} (hu:A.units + 64<cLine) (x:SS hb s₀ c env O₀ ow σ s) (g₀:GS hb s₀) (hx:c.slot nx=some ix) (ox:v7 nx=true) (hk:c.slot nk=some ik) (ok:v7 nk=true) (hv:c.slot nv=some iv) (ov:v7 nv=true)
  (sx:σ[ix]?=some (.val (.list (xs.map .str)))) (sk:σ[ik]?=some (.val (.int k))) (sv:σ[iv]?=some (.val (.str t))) (ht:xs[k]?=some t') (hne:t'≠t)
  {Q:Flow→Shared→Prop} {E:Value→Shared→Prop} (hQ:∀ s',SS hb s₀ c env O₀ ow σ s'→Kp hb s s'→Q .next s') :
  wpAny (model prog w) A (exec (.While (.Compare (.Subscript (.Name nx px) (.Name nk pk) p) [.Eq] [.Name nv pv] pc) body [] pw) env) Q E s:=by
 refine wpAny_While (codeAny_whileLoop (fun n s'=>s'=s) (fun n s' hI=>?_) 0 rfl)
 subst hI;have se:SE prog w A hb Γ c (.Compare (.Subscript (.Name nx px) (.Name nk pk) p) [.Eq] [.Name nv pv] pc) (.cmp .Eq (.idx (.var ix) (.var ik)) (.var iv)) :=
  se_cmp rfl (se_idx (fun _ _ _ q=>(nomatch q)) (Z5 ox hx) (Z5 ok hk)) (Z5 ov hv) hu
 have e:y8 (z8 Γ (.cmp .Eq (.idx (.var ix) (.var ik)) (.var iv)) .test σ)=some false:=by
  have e1:X7 σ ix=some (.list (xs.map .str)):=by show (σ[ix]?).bind peekS=_;rw [sx];rfl
  have e2:j5 σ ik=some (.int k):=by show (σ[ik]?).bind valS=_;rw [sk];rfl
  have e3:j5 σ iv=some (.str t):=by show (σ[iv]?).bind valS=_;rw [sv];rfl
  have hlt:k<xs.length:=(List.getElem?_eq_some_iff.mp ht).1;have e4:v4 (.list (xs.map .str)) (.int k)=some (.str t'):=by
   exact M5 (O4 (by rw [List.length_map];exact hlt)) (by rw [List.getElem?_map,ht];rfl)
  show y8 (fin .test (((X7 σ ix).bind fun x=>(j5 σ ik).bind fun y=>v4 x y).bind fun x=>(j5 σ iv).bind fun y=>(u7 .Eq x y).map .bool))=_
  rw [e1,e2,e3];show y8 (fin .test ((v4 (.list (xs.map .str)) (.int k)).bind fun x=>(u7 .Eq x (.str t)).map .bool))=_
  rw [e4];show y8 (fin .test (some (.bool (decide (t'=t)))))=_;rw [decide_eq_false hne];rfl
 refine se.test x.fr (x.xc g₀) x.tk e _ _ fun s1 k1 t1=>?_
 exact wpAny_execs_nil (hQ s1 (x.run g₀ k1 t1) k1)
theorem skip_raise {xs:List PV} {k:Int} (xf:XF prog w A₁ hb Γ c env s₀) (hfr:A.frames=A₁.frames) (hd:HdOk A s) (x:SS hb s₀ c env O₀ ow σ s) (hx:c.slot nx=some ix) (ox:v7 nx=true) (hk:c.slot nk=some ik) (ok:v7 nk=true)
  (sx:σ[ix]?=some (.val (.list xs))) (sk:σ[ik]?=some (.val (.int k))) (hout:(xs.length:Int)≤k) (hhi:k<2 ^ 63)
  {Q:Flow→Shared→Prop} {E:Value→Shared→Prop} (hE:∀ e s',Out hb s₀ c env O₀ ow σ s A.handled.isNone true e s'→E (.ref e) s') :
  wpAny (model prog w) A (exec (.While (.Compare (.Subscript (.Name nx px) (.Name nk pk) p) [.Eq] [.Name nv pv] pc) body [] pw) env) Q E s:=by
 have g₀:=xf.fx.g₀;refine wpAny_While (codeAny_whileLoop (fun n s'=>s'=s) (fun n s' hI=>?_) 0 rfl)
 subst hI;refine wpAny_isTrue_Compare1 ?_ rfl;refine idx_raise x g₀ hd hx ox hk ok sx sk hout hhi fun e s1 ho=>?_
 refine x04 ho fun x1 hr h0 hw=>?_
 have frs:Frs A hb:=by
  refine x12 xf.fx.cx.frs fun l e h=>?_
  exact ⟨l,hfr.trans e,h⟩
 refine note_new frs (by refine Exists.elim xf.fr fun l e=>?_;exact ⟨l,hfr.trans e⟩) xf.hf x1 g₀ hr h0 hw fun s2 x2 n2=>?_
 exact came_back x2 g₀ xf.hf n2 fun s3 o3=>hE e s3 o3
end
theorem inc_ok {nk:Str} {ik:Nat} {pk pc q:Pos} {kd:Nat} {k:Int} (xf:XF prog w A₁ hb Γ c env s₀) (x:SS hb s₀ c env O₀ ow σ s) (hk:c.slot nk=some ik) (ok:v7 nk=true) (sk:σ[ik]?=some (.val (.int k)))
  {Q:Flow→Shared→Prop} {E:Value→Shared→Prop} (hQ:∀ s' ow',ow'=ow→SS hb s₀ c env O₀ ow (z7 σ ik (.val (.int (k + 1)))) s'→KS s.heap ow s'.heap ow→Q .next s') :
  wpAny (model prog w) A (exec (.AugAssign (.Name nk pk) .Add (.Constant (.int 1) kd pc) q) env) Q E s:=by
 have he:SE prog w A hb Γ c (.Constant (.int 1) kd pc) (.lit (.int 1)):=O8 rfl;have h:=sst_aug (A:=A) (p:=q) (px:=pk) (op := .Add) xf.fx ok hk he O₀ ow σ s x .next (z7 σ ik (.val (.int (k + 1)))) (by
  have e2:j5 σ ik=some (.int k):=by show (σ[ik]?).bind valS=_;rw [sk];rfl
  show ((j5 σ ik).bind _)=_
  rw [e2];rfl)
 refine h Q E fun f s' hp=>?_
 obtain ⟨rfl,ow',x',k',hw⟩:=hp;have:ow'=ow:=funext fun j=>hw j rfl
 subst this;exact hQ s' _ rfl x' k'
end
end Mine
namespace Mine
open PySem PyProof.Rows PySem.Spec
noncomputable def IsAsg (v x k:Str) (st:Stmt):Prop:=∃ pv p1 p2 p3 p,st = .Assign [.Name v pv] (.Subscript (.Name x p1) (.Name k p2) p3) p
noncomputable def Y5 (k:Str) (st:Stmt):Prop:=∃ pk kd pc q,st = .AugAssign (.Name k pk) .Add (.Constant (.int 1) kd pc) q
noncomputable def Z0 (x k v:Str) (st:Stmt):Prop:=∃ px pk p pv pc body pw,st = .While (.Compare (.Subscript (.Name x px) (.Name k pk) p) [.Eq] [.Name v pv] pc) body [] pw
noncomputable def T7 (m v:Str) (st:Stmt):Prop:=∃ pm ap pv cp p,st = .Expr (.Call (.Attribute (.Name m pm) ("append" : Str) ap) [.Name v pv] [] cp) p∧(ap.endLine == cp.line)=true
noncomputable def IsExt (m x k:Str) (st:Stmt):Prop:=∃ pm ap px pk ps p cp q,st = .Expr (.Call (.Attribute (.Name m pm) ("extend" : Str) ap) [.Subscript (.Name x px) (.Slice (some (.Name k pk)) none none ps) p] [] cp) q∧(ap.endLine == cp.line)=true
structure SN (c:CT) (nx ny ni nj nm nu ne na nI:Str):Prop where
 x:c.slot nx=some 0
 ox:v7 nx=true
 y:c.slot ny=some 1
 oy:v7 ny=true
 i:c.slot ni=some 2
 oi:v7 ni=true
 j:c.slot nj=some 3
 oj:v7 nj=true
 m:c.slot nm=some 4
 om:v7 nm=true
 u:c.slot nu=some 5
 ou:v7 nu=true
 e:c.slot ne=some 6
 oe:v7 ne=true
 a:c.slot na=some 7
 oa:v7 na=true
 I:c.glob nI=some (.type "IndexError")
 oI:v7 nI=true
noncomputable def oS:Option (List Nat)→Slot
 | none => .unset
 | some t => .val (.str t)
noncomputable def sg (X Y:List (List Nat)) (i j:Nat) (m u:List (List Nat)) (e a:Option (List Nat)):z9 :=
 [.val (.list (X.map .str)),.val (.list (Y.map .str)),.val (.int i),.val (.int j),.own (m.map .str),.own (u.map .str),oS e,oS a]
section
variable {X Y:List (List Nat)} {i j:Nat} {m u:List (List Nat)} {e a:Option (List Nat)}
theorem sg_i {k:Nat} : z7 (sg X Y i j m u e a) 2 (.val (.int k))=sg X Y k j m u e a:=by cases e <;> cases a <;> rfl
theorem sg_j {k:Nat} : z7 (sg X Y i j m u e a) 3 (.val (.int k))=sg X Y i k m u e a:=by cases e <;> cases a <;> rfl
theorem sg_e {t:List Nat} : z7 (frz1 (sg X Y i j m u e a) 6) 6 (.val (.str t))=sg X Y i j m u (some t) a:=by cases e <;> cases a <;> rfl
theorem sg_a {t:List Nat} : z7 (frz1 (sg X Y i j m u e a) 7) 7 (.val (.str t))=sg X Y i j m u e (some t):=by cases e <;> cases a <;> rfl
theorem sg_m {t:List (List Nat)} : (sg X Y i j m u e a).set 4 (.own (m.map .str ++ t.map .str))=sg X Y i j (m ++ t) u e a:=by
 unfold sg;rw [List.map_append];rfl
theorem sg_u {t:List (List Nat)} : (sg X Y i j m u e a).set 5 (.own (u.map .str ++ t.map .str))=sg X Y i j m (u ++ t) e a:=by
 unfold sg;rw [List.map_append];rfl
end
section
variable {prog:Program} {w:World} {A A₁:Around} {hb:HB} {Γ:y9} {c:CT} {env:Env} {s₀ s:Shared} {O₀:Addr→Prop} {ow:Nat→Option Addr} {σ:z9}
theorem ext_ok (Γ:y9) {nm nx nk:Str} {st:Stmt} {im ix ik:Nat} {xs ms:List PV} {k:Nat} (hst:IsExt nm nx nk st) (hu:A.units + 64<cLine) (x:SS hb s₀ c env O₀ ow σ s) (g₀:GS hb s₀) (hm:c.slot nm=some im) (om:v7 nm=true) (hx:c.slot nx=some ix) (ox:v7 nx=true)
  (hk:c.slot nk=some ik) (ok:v7 nk=true) (sm:σ[im]?=some (.own ms)) (sx:σ[ix]?=some (.val (.list xs))) (sk:σ[ik]?=some (.val (.int k))) (hz:ms.length + xs.length≤small)
  {Q:Flow→Shared→Prop} {E:Value→Shared→Prop} (hQ:∀ s',SS hb s₀ c env O₀ ow (σ.set im (.own (ms ++ xs.drop k))) s'→Q .next s'):wpAny (model prog w) A (exec st env) Q E s:=by
 refine z6 fun K0=>?_
 obtain ⟨pm,ap,px,pk,ps,p,cp,q,rfl,hline⟩:=hst;refine K0 ?_;clear K0;have hint:interactive env=false:=by unfold interactive;rw [x.fr.fk.kind];rfl
 have he:SE prog w A hb Γ c (.Subscript (.Name nx px) (.Slice (some (.Name nk pk)) none none ps) p) (.slc (.var ix) (.var ik) (.lit .nul)) :=
  se_slc (Z5 ox hx) (seo_some (Z5 ok hk)) seo_none
 have hv:z8 Γ (.slc (.var ix) (.var ik) (.lit .nul)) .val σ=some (.list (xs.drop k)):=by
  have e1:j5 σ ix=some (.list xs):=by show (σ[ix]?).bind valS=_;rw [sx];rfl
  have e2:j5 σ ik=some (.int k):=by show (σ[ik]?).bind valS=_;rw [sk];rfl
  show ((j5 σ ix).bind fun x=>(j5 σ ik).bind fun y=>n8 x y .nul)=_
  rw [e1,e2];show some (PV.list (cut xs (i6 xs.length k) xs.length))=_;unfold cut i6;rw [if_neg (by lia),List.take_length];show some (PV.list (xs.drop (min k xs.length)))=_;rcases Nat.le_total k xs.length with h | h
  ·rw [Nat.min_eq_left h]
  ·rw [Nat.min_eq_right h,List.drop_length,List.drop_eq_nil_of_le h]
 refine wpAny_Expr ?_ hint rfl;have hun:=W0 (env:=env) (es:=[.Subscript (.Name nx px) (.Slice (some (.Name nk pk)) none none ps) p]) rfl;refine wpAny_Call_method (T0 rfl ..) (T3 hun (by show 1<20;decide)) hline F.plainAttrs_list F.slot_list_extend F.type_list_extend ?_;refine wpAny_Name (V5 x.fr hm (l8 om).2 fun ov r=>?_) (l8 om).1
 rw [sm] at r;refine z6 fun K0=>?_
 obtain ⟨z,a,vs,rfl,hw,hta,hl,hr⟩:=r;refine K0 ?_;clear K0;refine ⟨_,rfl,⟨_,hl.choose_spec,rfl⟩,fun b e=>by cases e;exact ⟨_,hl.choose_spec,rfl⟩,?_⟩
 refine Calls.callWith_builtin (hun cp).1 ?_;rw [Y3 (e := .Subscript _ _ _) rfl];refine Calls.evalArgs_plain (Calls.spliced_cons (he.val x.fr (x.xc g₀) x.tk hv _ _ fun rv s1 k1 t1 r1=>?_))
 refine Calls.spliced_nil ?_;have x1:=x.run g₀ k1 t1;have hl1:=V8 k1.soft hta hl;have hr1:=VRs.kp k1 hr;refine z6 fun K0=>?_
 obtain ⟨z2,a2,ws,rfl,hta2,hO2,hl2,hr2⟩:=r1;refine K0 ?_;clear K0;have hz2:(xs.drop k).length≤xs.length:=by rw [List.length_drop];lia
 refine wpAny_with_toks t1 (extend_plain hl1 hl2 (by rw [List.size_toArray,List.size_toArray,hr1.length,hr2.length];lia) fun h' tk hl' hsb htk=>?_)
 obtain ⟨x2,k2⟩:=x1.growL g₀ htk hw sm hl1 (by rw [show (vs ++ ws).toArray=vs.toArray ++ ws.toArray by simp];exact hl') hsb hr1 hr2 (by lia);exact hQ _ x2
end
noncomputable def mns (a b:List (List Nat)):List (List Nat):=a.filter fun t => !b.contains t
theorem asc_tail {x:List Nat} {r:List (List Nat)} (h:k9 (x::r)=true):k9 r=true:=by
 induction r with
 | nil=>rfl
 | cons y r=>simp only [k9,Bool.and_eq_true] at h;exact h.2
theorem lt_tr {a b c:List Nat} (h1:a<b) (h2:b<c):a<c:=List.lt_trans h1 h2
theorem asc_lt {x:List Nat} : ∀ {r:List (List Nat)},k9 (x::r)=true→∀ y∈r,x<y
 | [],_,y,hy=>by cases hy
 | z::r,h,y,hy=>by
  simp only [k9,Bool.and_eq_true,decide_eq_true_eq] at h;rcases List.mem_cons.mp hy with rfl | hy
  ·exact h.1
  ·exact lt_tr h.1 (asc_lt h.2 y hy)
theorem Q6:∀ {X:List (List Nat)} (i:Nat),k9 X=true→k9 (X.drop i)=true
 | [],i,h=>by simp [k9]
 | x::r,0,h=>h
 | x::r,i + 1,h=>Q6 i (asc_tail h)
theorem mns_nil (a:List (List Nat)):mns a []=a:=by simp [mns]
theorem mns_lt {x:List Nat} {r b:List (List Nat)} (h:x ∉ b):mns (x::r) b=x::mns r b:=by
 unfold mns;rw [List.filter_cons_of_pos (by simpa using h)]
theorem mns_in {x:List Nat} {r b:List (List Nat)} (h:x∈b):mns (x::r) b=mns r b:=by
 unfold mns;rw [List.filter_cons_of_neg (by simpa using h)]
theorem mns_skip {x:List Nat} {r b:List (List Nat)} (h:x ∉ b):mns b (x::r)=mns b r:=by
 unfold mns;refine List.filter_congr fun t ht=>?_
 have:t≠x:=fun q=>h (q▸ht)
 simp [this]
theorem lt_irr (a:List Nat):¬ a<a:=List.lt_irrefl a
theorem G4 {x:List Nat} {b:List (List Nat)} (h:∀ y∈b,x<y):x ∉ b:=fun q=>lt_irr x (h x q)
noncomputable def Inv (X Y M U:List (List Nat)) (i j:Nat) (m u:List (List Nat)):Prop:=m ++ mns (X.drop i) (Y.drop j)=M∧u ++ mns (Y.drop j) (X.drop i)=U
section
variable {X Y M U:List (List Nat)} {i j:Nat} {m u:List (List Nat)}
theorem inv_lt (hX:k9 X=true) (hY:k9 Y=true) (I:Inv X Y M U i j m u) {e a:List Nat} (he:X[i]?=some e) (ha:Y[j]?=some a) (h:e<a):Inv X Y M U (i + 1) j (m ++ [e]) u:=by
 refine z6 fun K0=>?_
 obtain ⟨hi,he⟩:=List.getElem?_eq_some_iff.mp he;obtain ⟨hj,ha⟩:=List.getElem?_eq_some_iff.mp ha;refine K0 ?_;clear K0;have dX:X.drop i=e::X.drop (i + 1):=by rw [← List.getElem_cons_drop hi,he]
 have dY:Y.drop j=a::Y.drop (j + 1):=by rw [← List.getElem_cons_drop hj,ha]
 have aY:=Q6 j hY;have nm:e ∉ Y.drop j:=by
  rw [dY] at aY ⊢;exact G4 fun y hy=>by
   rcases List.mem_cons.mp hy with rfl | hy
   ·exact h
   ·exact lt_tr h (asc_lt aY y hy)
 refine ⟨?_,?_⟩
 ·rw [← I.1,dX,mns_lt nm,List.append_assoc];rfl
 ·rw [← I.2,dX,mns_skip nm]
theorem inv_gt (hX:k9 X=true) (hY:k9 Y=true) (I:Inv X Y M U i j m u) {e a:List Nat} (he:X[i]?=some e) (ha:Y[j]?=some a) (h:a<e):Inv X Y M U i (j + 1) m (u ++ [a]):=by
 have:=inv_lt (X:=Y) (Y:=X) (M:=U) (U:=M) hY hX ⟨I.2,I.1⟩ ha he h;exact ⟨this.2,this.1⟩
theorem inv_eq (hX:k9 X=true) (hY:k9 Y=true) (I:Inv X Y M U i j m u) {e:List Nat} (he:X[i]?=some e) (ha:Y[j]?=some e):Inv X Y M U (i + 1) (j + 1) m u:=by
 refine z6 fun K0=>?_
 obtain ⟨hi,he⟩:=List.getElem?_eq_some_iff.mp he;obtain ⟨hj,ha⟩:=List.getElem?_eq_some_iff.mp ha;refine K0 ?_;clear K0;have dX:X.drop i=e::X.drop (i + 1):=by rw [← List.getElem_cons_drop hi,he]
 have dY:Y.drop j=e::Y.drop (j + 1):=by rw [← List.getElem_cons_drop hj,ha]
 have aX:=Q6 i hX;have aY:=Q6 j hY;rw [dX] at aX;rw [dY] at aY;have n1:e ∉ X.drop (i + 1):=G4 (asc_lt aX);have n2:e ∉ Y.drop (j + 1):=G4 (asc_lt aY);refine ⟨?_,?_⟩
 ·rw [← I.1,dX,dY,mns_in (List.mem_cons_self ..),mns_skip n1]
 ·rw [← I.2,dX,dY,mns_in (List.mem_cons_self ..),mns_skip n2]
theorem inv_end (I:Inv X Y M U i j m u) (h:X.length≤i∨Y.length≤j):m ++ X.drop i=M∧u ++ Y.drop j=U:=by
 refine ⟨?_,?_⟩
 ·rw [← I.1];rcases h with h | h
  ·rw [List.drop_eq_nil_of_le h];rfl
  ·rw [List.drop_eq_nil_of_le h,mns_nil]
 ·rw [← I.2];rcases h with h | h
  ·rw [List.drop_eq_nil_of_le h,mns_nil]
  ·rw [List.drop_eq_nil_of_le h];rfl
theorem asc_next (hX:k9 X=true) {e t:List Nat} (he:X[i]?=some e) (ht:X[i + 1]?=some t):t≠e:=by
 refine Exists.elim (List.getElem?_eq_some_iff.mp he :) fun hi he=>?_
 refine Exists.elim (List.getElem?_eq_some_iff.mp ht :) fun hi' ht=>?_
 have aX:=Q6 i hX;rw [← List.getElem_cons_drop hi,he] at aX;have:=asc_lt aX t (by rw [← List.getElem_cons_drop hi',ht];exact List.mem_cons_self ..);exact fun q=>lt_irr e (q▸this)
end
end Mine
namespace Mine
open PySem PyProof.Rows PySem.Spec
section
variable {prog:Program} {w:World} {A A₁:Around} {hb:HB} {Γ:y9} {c:CT} {env:Env} {s₀ s:Shared} {O₀:Addr→Prop} {ow:Nat→Option Addr} {σ:z9}
variable {X Y M U:List (List Nat)} {i j:Nat} {m u:List (List Nat)} {e a:Option (List Nat)}
inductive Nxt (hb:HB) (s₀:Shared) (c:CT) (env:Env) (O₀:Addr→Prop) (X Y M U:List (List Nat)) (n:Nat) (s':Shared):Prop
 | mk (ow:Nat→Option Addr) (i:Nat) (j:Nat) (m:List (List Nat)) (u:List (List Nat)) (e:_) (a:_) (h1:SS hb s₀ c env O₀ ow (sg X Y i j m u e a) s') (h2:Inv X Y M U i j m u) (h3:i≤X.length) (h4:j≤Y.length) (h5:m.length≤i) (h6:u.length≤j) (h7:(X.length - i) + (Y.length - j)<n)
inductive Thr (hb:HB) (s₀:Shared) (c:CT) (env:Env) (O₀:Addr→Prop) (X Y M U:List (List Nat)) (v:Value) (s':Shared):Prop
 | mk (x:Addr) (ow:Nat→Option Addr) (i:Nat) (j:Nat) (m:List (List Nat)) (u:List (List Nat)) (e:_) (a:_) (nt:Bool) (cx:Bool) (h1:v = .ref x) (h2:Out hb s₀ c env O₀ ow (sg X Y i j m u e a) s' cx nt x s') (h3:Inv X Y M U i j m u) (h4:(X.length≤i∨Y.length≤j)) (h5:i≤X.length) (h6:j≤Y.length) (h7:m.length≤i) (h8:u.length≤j)
theorem getV {k:Nat} {v:PV} (h:σ[k]?=some (.val v)):j5 σ k=some v:=by show (σ[k]?).bind valS=_;rw [h];rfl
theorem getP {k:Nat} {v:PV} (h:σ[k]?=some (.val v)):X7 σ k=some v:=by show (σ[k]?).bind peekS=_;rw [h];rfl
theorem asg_ok {nv nx nk:Str} {st:Stmt} {iv ix ik:Nat} {xs:List (List Nat)} {k:Nat} {t:List Nat} (hst:IsAsg nv nx nk st) (fx:Fx prog w A hb Γ c env s₀) (x:SS hb s₀ c env O₀ ow σ s) (hv:c.slot nv=some iv) (hx:c.slot nx=some ix) (ox:v7 nx=true)
  (hk:c.slot nk=some ik) (ok:v7 nk=true) (sx:(frz1 σ iv)[ix]?=some (.val (.list (xs.map .str)))) (sk:(frz1 σ iv)[ik]?=some (.val (.int k))) (ht:xs[k]?=some t)
  {Q:Flow→Shared→Prop} {E:Value→Shared→Prop} (hQ:∀ s' ow',(∀ j,(iv == j)=false→ow' j=ow j)→SS hb s₀ c env O₀ ow' (z7 (frz1 σ iv) iv (.val (.str t))) s'→Q .next s'):wpAny (model prog w) A (exec st env) Q E s:=by
 refine z6 fun K0=>?_
 refine x51 hst fun pv p1 p2 p3 p o0=>?_;obtain rfl:=o0
 refine K0 ?_;clear K0;refine A8 (v := .Subscript (.Name nx p1) (.Name nk p2) p3) (pe := .idx (.var ix) (.var ik)) fx hv rfl (se_idx (fun _ _ _ q=>nomatch q) (Z5 ox hx) (Z5 ok hk)) (fun _ _ _ _ q=>nomatch q) O₀ ow σ s x .next (z7 (frz1 σ iv) iv (.val (.str t))) ?_ Q E fun f s' hp=>?_
 ·show (z8 Γ (.idx (.var ix) (.var ik)) .val (frz1 σ iv)).map _=_;have:z8 Γ (.idx (.var ix) (.var ik)) .val (frz1 σ iv)=some (.str t):=by
   show ((X7 (frz1 σ iv) ix).bind fun x=>(j5 (frz1 σ iv) ik).bind fun y=>v4 x y)=_
   rw [getP sx,getV sk];have hlt:k<xs.length:=(List.getElem?_eq_some_iff.mp ht).1;exact M5 (O4 (by rw [List.length_map];exact hlt)) (by rw [List.getElem?_map,ht];rfl)
  rw [this];rfl
 ·obtain ⟨rfl,ow',x',_,h⟩:=hp;exact hQ s' ow' h x'
theorem asg_raise {nv nx nk:Str} {st:Stmt} {ix ik:Nat} {xs:List PV} {k:Int} (hst:IsAsg nv nx nk st) (hd:HdOk A s) (x:SS hb s₀ c env O₀ ow σ s) (g₀:GS hb s₀) (hx:c.slot nx=some ix) (ox:v7 nx=true)
  (hk:c.slot nk=some ik) (ok:v7 nk=true) (sx:σ[ix]?=some (.val (.list xs))) (sk:σ[ik]?=some (.val (.int k))) (hout:(xs.length:Int)≤k) (hhi:k<2 ^ 63)
  {Q:Flow→Shared→Prop} {E:Value→Shared→Prop} (hE:∀ e s',Out hb s₀ c env O₀ ow σ s A.handled.isNone false e s'→E (.ref e) s'):wpAny (model prog w) A (exec st env) Q E s:=by
 refine z6 fun K0=>?_
 refine x51 hst fun pv p1 p2 p3 p o0=>?_;obtain rfl:=o0
 refine K0 ?_;clear K0;rw [exec_Assign_Name _ _ _ _ _ rfl];exact wpAny_bind (wpAny_standAt (wpAny_bind (idx_raise x g₀ hd hx ox hk ok sx sk hout hhi hE)))
theorem push_ok {nm nv:Str} {st:Stmt} {im iv:Nat} {ms:List PV} {t:List Nat} (hst:T7 nm nv st) (fx:Fx prog w A hb Γ c env s₀) (x:SS hb s₀ c env O₀ ow σ s) (hm:c.slot nm=some im) (om:v7 nm=true) (hv:c.slot nv=some iv) (ov:v7 nv=true)
  (sm:σ[im]?=some (.own ms)) (sv:σ[iv]?=some (.val (.str t))) (hz:ms.length<small) {Q:Flow→Shared→Prop} {E:Value→Shared→Prop} (hQ:∀ s',SS hb s₀ c env O₀ ow (σ.set im (.own (ms ++ [.str t]))) s'→Q .next s'):wpAny (model prog w) A (exec st env) Q E s:=by
 refine z6 fun K0=>?_
 refine x52 hst fun pm ap pv cp p o0 hline=>?_;obtain rfl:=o0
 refine K0 ?_;clear K0;refine sst_push fx om hline hm (v := .Name nv pv) rfl (Z5 ov hv) O₀ ow σ s x .next (σ.set im (.own (ms ++ [.str t]))) ?_ Q E fun f s' hp=>?_
 ·show ((z8 Γ (.var iv) .val σ).bind fun v=>(Y0 σ im).bind fun xs=>if xs.length<small then some (Fl.next,σ.set im (.own (xs ++ [v]))) else none)=_
  rw [show z8 Γ (.var iv) .val σ=some (.str t) from getV sv,show Y0 σ im=some ms by unfold Y0;rw [sm]];exact if_pos hz
 ·obtain ⟨rfl,ow',x',_,h⟩:=hp;have:ow'=ow:=funext fun j=>h j rfl
  exact hQ s' (this▸x')
theorem N2 {nx nk nv:Str} {st:Stmt} {ix ik iv:Nat} {xs:List (List Nat)} {k:Nat} {t:List Nat} (hst:Z0 nx nk nv st) (xf:XF prog w A₁ hb Γ c env s₀) (hfr:A.frames=A₁.frames) (hu:A.units + 64<cLine) (hd:HdOk A s) (x:SS hb s₀ c env O₀ ow σ s)
  (hx:c.slot nx=some ix) (ox:v7 nx=true) (hk:c.slot nk=some ik) (ok:v7 nk=true) (hv:c.slot nv=some iv) (ov:v7 nv=true)
  (sx:σ[ix]?=some (.val (.list (xs.map .str)))) (sk:σ[ik]?=some (.val (.int (k + 1:Nat)))) (sv:σ[iv]?=some (.val (.str t))) (hX:k9 xs=true) (ht:xs[k]?=some t) (hz:xs.length≤64)
  {Q:Flow→Shared→Prop} {E:Value→Shared→Prop} (hQ:∀ s',k + 1<xs.length→SS hb s₀ c env O₀ ow σ s'→Kp hb s s'→Q .next s') (hE:∀ e s',k + 1=xs.length→Out hb s₀ c env O₀ ow σ s A.handled.isNone true e s'→E (.ref e) s') :
  wpAny (model prog w) A (exec st env) Q E s:=by
 refine z6 fun K0=>?_
 obtain ⟨px,pk,p,pv,pc,body,pw,rfl⟩:=hst;refine K0 ?_;clear K0;have hlt:k<xs.length:=(List.getElem?_eq_some_iff.mp ht).1;by_cases h:k + 1<xs.length
 ·exact skip_next Γ hu x xf.fx.g₀ hx ox hk ok hv ov sx sk sv (List.getElem?_eq_getElem h) (asc_next hX ht (List.getElem?_eq_getElem h)) fun s' x' k'=>hQ s' h x' k'
 ·refine skip_raise xf hfr hd x hx ox hk ok sx sk ?_ ?_ fun e s' o=>hE e s' (by lia) o
  ·rw [List.length_map];lia
  ·have:(2:Int) ^ 63=9223372036854775808:=by decide
   lia
end
end Mine
namespace Mine
open PySem PyProof.Rows PySem.Spec
section
variable {prog:Program} {w:World} {A A₁:Around} {hb:HB} {Γ:y9} {c:CT} {env:Env} {s₀ s:Shared} {O₀:Addr→Prop} {ow:Nat→Option Addr} {σ:z9}
variable {X Y M U:List (List Nat)} {i j:Nat} {m u:List (List Nat)} {e a:Option (List Nat)}
variable {nx ny ni nj nm nu ne na nI:Str}
theorem noted_ks {h₀:Heap} {s s':Shared} {e:Addr} {cx:Bool} {fl:Value} (x:Noted h₀ ow s.heap e cx fl) (k:KS s.heap ow s'.heap ow) (g:GS hb s):Noted h₀ ow s'.heap e cx fl :=
 x.ks fun b o q hr ho=>k.keep b o (fun q'=>by
  refine x12 g.tab fun _ t _=>?_
  refine w7 hr fun o0 o1=>?_;refine x12 o1 fun T hc _=>?_;obtain ⟨vs,hd⟩:=o0
  have:=t.2;rw [← q',q] at this;obtain rfl:=Option.some.inj this
  cases hc) q (by refine w7 (id hr :) fun o0 _=>?_;obtain ⟨vs,hd⟩:=o0;exact .fields hd (hr.ne (by decide))) ho
theorem hd_mark {e1:Addr} {fl:Value} {h₀:Heap} {s:Shared} (hA:A.handled=none) (hn:Noted h₀ ow s.heap e1 true fl):HdOk (A.mark (some (.ref e1))) s:=by
 obtain ⟨o,vs,T,oT,ts,he,hc,hd,hz,h1,h2,_⟩:=hn;refine .inr ⟨e1,o,vs,?_,he,hd,h2 rfl⟩;show (some (Value.ref e1)).or A.handled=_;rw [hA];rfl
theorem through {x:Addr} {cx:Bool} {M:Model} {E:Value→Shared→Prop} (g₀:GS hb s₀) (hf:env.frame=some env.locals) (o:Out hb s₀ c env O₀ ow σ s cx true x s)
  (hE:∀ s',Out hb s₀ c env O₀ ow σ s cx true x s'→E (.ref x) s'):notedBy M A₁ env (cameBackBy M A env E) (.ref x) s :=
 K1 hf o.2 (came_back o.1 g₀ hf o.2 fun s' o'=>hE s' o')
theorem inner_try {w3 j2 w4:Stmt} {pt:Pos} {t:List Nat} (N:SN c nx ny ni nj nm nu ne na nI) (xf:XF prog w A hb Γ c env s₀) (h3:Z0 nx ni ne w3) (hj:Y5 nj j2) (h4:Z0 ny nj na w4) (x:SS hb s₀ c env O₀ ow (sg X Y (i + 1) j m u (some t) (some t)) s)
  (hX:k9 X=true) (hY:k9 Y=true) (zX:X.length≤64) (zY:Y.length≤64) (hx:X[i]?=some t) (hy:Y[j]?=some t)
  {Q:Flow→Shared→Prop} {E:Value→Shared→Prop} (hQ:∀ s',SS hb s₀ c env O₀ ow (sg X Y (i + 1) (j + 1) m u (some t) (some t)) s'→Q .next s')
  (hE:∀ v s' cx,(X.length=i + 1∨Y.length=j + 1)→Out hb s₀ c env O₀ ow (sg X Y (i + 1) (j + 1) m u (some t) (some t)) s' cx true v s'→E (.ref v) s') :
  wpAny (model prog w) A (exec (.Try [w3] [] [] [j2,w4] pt) env) Q E s:=by
 have g₀:=xf.fx.g₀;have hA:=xf.fx.cx.handled;have hu:=xf.fx.cx.units;refine z6 fun K0=>?_
 refine x41 hj fun pk kd pc pq o0=>?_;obtain rfl:=o0
 refine K0 ?_;clear K0;refine wpAny_Try_finally (wpAny_execs_cons ?_);refine N2 h3 xf rfl hu (.inl hA) x N.x N.ox N.i N.oi N.e N.oe rfl rfl rfl hX hx zX (fun s1 hlt x1 k1=>?_) fun x1 s1 hlen o1=>?_
 ·refine wpAny_execs_nil (wpAny_execs_nil ?_);refine wpAny_execs_cons (inc_ok xf x1 N.j N.oj (k:=(j:Int)) rfl fun s2 _ _ x2 k2=>?_)
  rw [show ((j:Int) + 1)=((j + 1:Nat):Int) from rfl,sg_j] at x2;refine wpAny_execs_cons (N2 h4 xf rfl hu (.inl hA) x2 N.y N.oy N.j N.oj N.a N.oa rfl rfl rfl hY hy zY (fun s3 hlt3 x3 k3=>?_) fun x3 s3 hlen o3=>?_)
  ·exact wpAny_execs_nil (hQ s3 x3)
  ·exact through g₀ xf.hf o3 fun s4 o4=>hE x3 s4 _ (.inr hlen.symm) o4
 ·refine K1 xf.hf o1.2 ⟨ref_ne_byPass _,K1 xf.hf o1.2 ?_⟩;have cx1:A.handled.isNone=true:=by rw [hA];rfl
  refine flight o1.1 g₀ o1.2 none fun s2 x2 n2 _=>?_
  rw [cx1] at n2;refine wpAny_execs_cons (inc_ok (A:=A.mark (some (.ref x1))) xf x2 N.j N.oj (k:=(j:Int)) rfl fun s3 _ _ x3 k3=>?_)
  rw [show ((j:Int) + 1)=((j + 1:Nat):Int) from rfl,sg_j] at x3;have n3:=noted_ks n2 k3 (x2.kp.gs g₀);refine wpAny_execs_cons (N2 (A:=A.mark (some (.ref x1))) h4 xf rfl hu (hd_mark hA n3) x3 N.y N.oy N.j N.oj N.a N.oa rfl rfl rfl hY hy zY (fun s4 hlt4 x4 k4=>?_) fun x4 s4 hlen4 o4=>?_)
  ·refine wpAny_execs_nil ?_;have n4:=noted_kp n3 k4 (x3.kp.gs g₀);have n4':=n4;refine z6 fun K0=>?_
   obtain ⟨o,vs,T,oT,ts,he,hc,hd,hz,h1,_⟩:=n4';refine K0 ?_;clear K0;refine wpAny_bind (wpAny_field he hd h1 ?_);rw [if_neg (show ¬ ((Value.ref T == Value.none)=true) from by simp)];refine wpAny_bind (flight x4 g₀ n4 env.frame fun s5 x5 n5 _=>wpAny_throw (hE x1 s5 true (.inl hlen.symm) ⟨x5,?_⟩))
   rw [xf.hf] at n5;exact n5
  ·exact through g₀ xf.hf o4 fun s5 o5=>hE x4 s5 _ (.inr hlen4.symm) o5
end
end Mine
namespace Mine
open PySem PyProof.Rows PySem.Spec
section
variable {prog:Program} {w:World} {A A₁:Around} {hb:HB} {Γ:y9} {c:CT} {env:Env} {s₀ s:Shared} {O₀:Addr→Prop} {ow:Nat→Option Addr} {σ:z9}
variable {X Y M U:List (List Nat)} {i j:Nat} {m u:List (List Nat)} {e a:Option (List Nat)}
variable {nx ny ni nj nm nu ne na nI:Str}
theorem two63:(2:Int) ^ 63=9223372036854775808:=by decide
theorem test_ok (Γ:y9) {op:CmpOp} {n1 n2:Str} {i1 i2:Nat} {p1 p2 p:Pos} {t t':List Nat} {b:Bool} (hu:A.units + 64<cLine) (x:SS hb s₀ c env O₀ ow σ s) (g₀:GS hb s₀) (h1:c.slot n1=some i1) (o1:v7 n1=true) (h2:c.slot n2=some i2) (o2:v7 n2=true)
  (s1:σ[i1]?=some (.val (.str t))) (s2:σ[i2]?=some (.val (.str t'))) (hb':u7 op (.str t) (.str t')=some b) {Q:Bool→Shared→Prop} {E:Value→Shared→Prop} (hQ:∀ s',SS hb s₀ c env O₀ ow σ s'→Q b s') :
  wpAny (model prog w) A (isTrue (.Compare (.Name n1 p1) [op] [.Name n2 p2] p) env (eval (.Compare (.Name n1 p1) [op] [.Name n2 p2] p) env)) Q E s:=by
 have se:SE prog w A hb Γ c (.Compare (.Name n1 p1) [op] [.Name n2 p2] p) (.cmp op (.var i1) (.var i2)):=se_cmp (by cases op <;> rfl) (Z5 o1 h1) (Z5 o2 h2) hu
 have e:y8 (z8 Γ (.cmp op (.var i1) (.var i2)) .test σ)=some b:=by
  show y8 (fin .test ((j5 σ i1).bind fun x=>(j5 σ i2).bind fun y=>(u7 op x y).map .bool))=_
  rw [getV s1,getV s2];show y8 (fin .test ((u7 op (.str t) (.str t')).map .bool))=_;rw [hb'];cases b <;> rfl
 exact se.test x.fr (x.xc g₀) x.tk e _ _ fun s' k t=>hQ s' (x.run g₀ k t)
theorem try_body {a1 a2 p1 i1 w1 p2 j1 w2 i2 w3 j2 w4:Stmt} {q1 q2 q3 q4 q5 q6 q7 q8 pt:Pos} (N:SN c nx ny ni nj nm nu ne na nI) (xf:XF prog w A hb Γ c env s₀)
  (ha1:IsAsg ne nx ni a1) (ha2:IsAsg na ny nj a2) (hp1:T7 nm ne p1) (hi1:Y5 ni i1) (hw1:Z0 nx ni ne w1) (hp2:T7 nu na p2) (hj1:Y5 nj j1) (hw2:Z0 ny nj na w2)
  (hi2:Y5 ni i2) (hw3:Z0 nx ni ne w3) (hj2:Y5 nj j2) (hw4:Z0 ny nj na w4)
  (x:SS hb s₀ c env O₀ ow (sg X Y i j m u e a) s) (hX:k9 X=true) (hY:k9 Y=true) (zX:X.length≤64) (zY:Y.length≤64) (I:Inv X Y M U i j m u) (li:i≤X.length) (lj:j≤Y.length) (lm:m.length≤i) (lu:u.length≤j) :
  wpAny (model prog w) A (execs [a1,a2,.If (.Compare (.Name ne q1) [.Lt] [.Name na q2] q3) [p1,i1,w1] [.If (.Compare (.Name ne q4) [.Gt] [.Name na q5] q6) [p2,j1,w2] [i2,.Try [w3] [] [] [j2,w4] pt] q7] q8] env)
   (fun f s'=>f = .next∧Nxt hb s₀ c env O₀ X Y M U ((X.length - i) + (Y.length - j)) s') (Thr hb s₀ c env O₀ X Y M U) s:=by
 have g₀:=xf.fx.g₀;have hA:=xf.fx.cx.handled;have hu:=xf.fx.cx.units;have hsm:small=1048576:=rfl;by_cases hi:i<X.length
 ·refine wpAny_execs_cons (asg_ok ha1 xf.fx x N.e N.x N.ox N.i N.oi (xs:=X) (k:=i) (t:=X[i]) (by cases e <;> rfl) (by cases e <;> rfl) (List.getElem?_eq_getElem hi) fun s1 ow1 _ x1=>?_)
  rw [sg_e] at x1;by_cases hj:j<Y.length
  ·refine wpAny_execs_cons (asg_ok ha2 xf.fx x1 N.a N.y N.oy N.j N.oj (xs:=Y) (k:=j) (t:=Y[j]) (by cases a <;> rfl) (by cases a <;> rfl) (List.getElem?_eq_getElem hj) fun s2 ow2 _ x2=>?_)
   rw [sg_a] at x2;have gX:=List.getElem?_eq_getElem hi;have gY:=List.getElem?_eq_getElem hj;generalize X[i]=et at x2 gX;generalize Y[j]=at' at x2 gY;refine wpAny_execs_cons (wpAny_If (test_ok Γ hu x2 g₀ N.e N.oe N.a N.oa rfl rfl (b:=decide (et<at')) rfl fun s3 x3=>?_))
   by_cases hlt:et<at'
   ·rw [if_pos (decide_eq_true hlt)];refine wpAny_execs_cons (push_ok hp1 xf.fx x3 N.m N.om N.e N.oe rfl rfl (by rw [List.length_map];lia) fun s4 x4=>?_)
    have x4:SS hb s₀ c env O₀ ow2 (sg X Y i j (m ++ [et]) u (some et) (some at')) s4:=by rw [← sg_m];exact x4
    refine z6 fun K0=>?_
    refine x41 hi1 fun pk kd pc pq o0=>?_;obtain rfl:=o0
    refine K0 ?_;clear K0;refine wpAny_execs_cons (inc_ok xf x4 N.i N.oi (k:=(i:Int)) rfl fun s5 _ _ x5 _=>?_)
    rw [show ((i:Int) + 1)=((i + 1:Nat):Int) from rfl,sg_i] at x5;have I':=inv_lt hX hY I gX gY hlt;refine wpAny_execs_cons (N2 hw1 xf rfl hu (.inl hA) x5 N.x N.ox N.i N.oi N.e N.oe rfl rfl rfl hX gX zX (fun s6 hl x6 _=>?_) fun v s6 hl o6=>?_)
    ·exact wpAny_execs_nil (wpAny_execs_nil ⟨rfl,ow2,i + 1,j,_,_,_,_,x6,I',by lia,lj,by rw [List.length_append];exact Nat.succ_le_succ lm,lu,by lia⟩)
    ·exact ⟨v,ow2,i + 1,j,_,_,_,_,_,_,rfl,o6,I',.inl (by lia),by lia,lj,by rw [List.length_append];exact Nat.succ_le_succ lm,lu⟩
   ·rw [if_neg (by simpa using hlt)];refine wpAny_execs_cons (wpAny_If (test_ok Γ hu x3 g₀ N.e N.oe N.a N.oa rfl rfl (b:=decide (at'<et)) rfl fun s4 x4=>?_))
    by_cases hgt:at'<et
    ·rw [if_pos (decide_eq_true hgt)];refine wpAny_execs_cons (push_ok hp2 xf.fx x4 N.u N.ou N.a N.oa rfl rfl (by rw [List.length_map];lia) fun s5 x5=>?_)
     have x5:SS hb s₀ c env O₀ ow2 (sg X Y i j m (u ++ [at']) (some et) (some at')) s5:=by rw [← sg_u];exact x5
     refine z6 fun K0=>?_
     refine x41 hj1 fun pk kd pc pq o0=>?_;obtain rfl:=o0
     refine K0 ?_;clear K0;refine wpAny_execs_cons (inc_ok xf x5 N.j N.oj (k:=(j:Int)) rfl fun s6 _ _ x6 _=>?_)
     rw [show ((j:Int) + 1)=((j + 1:Nat):Int) from rfl,sg_j] at x6;have I':=inv_gt hX hY I gX gY hgt;refine wpAny_execs_cons (N2 hw2 xf rfl hu (.inl hA) x6 N.y N.oy N.j N.oj N.a N.oa rfl rfl rfl hY gY zY (fun s7 hl x7 _=>?_) fun v s7 hl o7=>?_)
     ·exact wpAny_execs_nil (wpAny_execs_nil (wpAny_execs_nil ⟨rfl,ow2,i,j + 1,_,_,_,_,x7,I',li,by lia,lm,by rw [List.length_append];exact Nat.succ_le_succ lu,by lia⟩))
     ·exact ⟨v,ow2,i,j + 1,_,_,_,_,_,_,rfl,o7,I',.inr (by lia),li,by lia,lm,by rw [List.length_append];exact Nat.succ_le_succ lu⟩
    ·rw [if_neg (by simpa using hgt)];have heq:at'=et:=List.le_antisymm (List.not_lt.mp hlt) (List.not_lt.mp hgt);refine z6 fun K0=>?_
     subst heq;refine x41 hi2 fun pk kd pc pq o0=>?_;obtain rfl:=o0
     refine K0 ?_;clear K0;refine wpAny_execs_cons (inc_ok xf x4 N.i N.oi (k:=(i:Int)) rfl fun s5 _ _ x5 _=>?_)
     rw [show ((i:Int) + 1)=((i + 1:Nat):Int) from rfl,sg_i] at x5;have I':=inv_eq hX hY I gX gY;refine wpAny_execs_cons (inner_try N xf hw3 hj2 hw4 x5 hX hY zX zY gX gY (fun s6 x6=>?_) fun v s6 cx hl o6=>?_)
     ·exact wpAny_execs_nil (wpAny_execs_nil (wpAny_execs_nil ⟨rfl,ow2,i + 1,j + 1,_,_,_,_,x6,I',hi,hj,by lia,by lia,by lia⟩))
     ·exact ⟨v,ow2,i + 1,j + 1,_,_,_,_,_,_,rfl,o6,I',by lia,hi,hj,by lia,by lia⟩
  ·refine wpAny_execs_cons (asg_raise ha2 (.inl hA) x1 g₀ N.y N.oy N.j N.oj rfl rfl (by rw [List.length_map];lia) (by rw [two63];lia) fun v s2 o2=>?_)
   exact ⟨v,ow1,i,j,_,_,_,_,_,_,rfl,o2,I,.inr (by lia),li,lj,lm,lu⟩
 ·refine wpAny_execs_cons (asg_raise ha1 (.inl hA) x g₀ N.x N.ox N.i N.oi rfl rfl (by rw [List.length_map];lia) (by rw [two63];lia) fun v s1 o1=>?_)
  exact ⟨v,ow,i,j,_,_,_,_,_,_,rfl,o1,I,.inl (by lia),li,lj,lm,lu⟩
end
end Mine
namespace Mine
open PySem PyProof.Rows PySem.Spec
theorem zau:isSubtype (.type "IndexError") (.type "IndexError")=pure true:=by rw [isSubtype_type];kernel_rfl
section
variable {prog:Program} {w:World} {A A₁:Around} {hb:HB} {Γ:y9} {c:CT} {env:Env} {s₀ s:Shared} {O₀:Addr→Prop} {ow:Nat→Option Addr} {σ:z9}
variable {X Y M U:List (List Nat)} {i j:Nat} {m u:List (List Nat)} {e a:Option (List Nat)}
variable {nx ny ni nj nm nu ne na nI:Str}
inductive Fin' (hb:HB) (s₀:Shared) (c:CT) (env:Env) (O₀:Addr→Prop) (X Y M U:List (List Nat)) (s':Shared):Prop
 | mk (ow:Nat→Option Addr) (i:Nat) (j:Nat) (e:_) (a:_) (h1:SS hb s₀ c env O₀ ow (sg X Y i j M U e a) s')
theorem handler_ok {x1 x2:Stmt} {pI pb ph:Pos} {v:Value} (N:SN c nx ny ni nj nm nu ne na nI) (xf:XF prog w A hb Γ c env s₀) (h1:IsExt nm nx ni x1) (h2:IsExt nu ny nj x2) (zX:X.length≤64) (zY:Y.length≤64)
  (T:Thr hb s₀ c env O₀ X Y M U v s) {Q:Flow→Shared→Prop} {E:Value→Shared→Prop} (hQ:∀ s',Fin' hb s₀ c env O₀ X Y M U s'→Q .brk s') :
  wpAny (model prog w) A (noteFrame v env) (fun _ s₂=>wpAny (model prog w) A (setFlight v none) (fun _ s₃=>wpAny (model prog w) A (handleBy v env [.ExceptHandler (some (.Name nI pI)) none [x1,x2,.Break pb] ph]) Q E s₃) E s₂) E s:=by
 have g₀:=xf.fx.g₀;have hA:=xf.fx.cx.handled;have hu:=xf.fx.cx.units;have hsm:small=1048576:=rfl;obtain ⟨x,ow,i,j,m,u,e,a,nt,cx,rfl,o,I,hend,li,lj,lm,lu⟩:=T;have key:∀ s1,SS hb s₀ c env O₀ ow (sg X Y i j m u e a) s1→Noted s₀.heap ow s1.heap x cx (rawInt env.locals) →
   wpAny (model prog w) A (setFlight (.ref x) none) (fun _ s₃=>wpAny (model prog w) A (handleBy (.ref x) env [.ExceptHandler (some (.Name nI pI)) none [x1,x2,.Break pb] ph]) Q E s₃) E s1:=by
  intro s1 xx n1;refine flight xx g₀ n1 none fun s2 xx2 n2 _=>?_
  refine wpAny_handleBy_builtin (X := "IndexError") (T := "IndexError") (b:=true) F.isExc_IndexError F.notTuple_IndexError zau ?_;refine wpAny_Name (V0 xx2.fr.fk (xx2.xc g₀).gs N.I ⟨rfl,?_,?_⟩) (l8 N.oI).1
  ·obtain ⟨ob,vs,T,oT,ts,he,hc,_⟩:=n2;exact ⟨ob,he,hc⟩
  ·rw [if_pos rfl];refine flight xx2 g₀ n2 none fun s3 xx3 n3 _=>?_
   have hu':(A.mark (some (.ref x))).units + 64<cLine:=hu;refine wpAny_execs_cons (ext_ok Γ h1 hu' xx3 g₀ N.m N.om N.x N.ox N.i N.oi (ms:=m.map .str) (xs:=X.map .str) (k:=i) rfl rfl rfl (by rw [List.length_map,List.length_map];lia) fun s4 xx4=>?_)
   rw [← List.map_drop,sg_m] at xx4;refine wpAny_execs_cons (ext_ok Γ h2 hu' xx4 g₀ N.u N.ou N.y N.oy N.j N.oj (ms:=u.map .str) (xs:=Y.map .str) (k:=j) rfl rfl rfl (by rw [List.length_map,List.length_map];lia) fun s5 xx5=>?_)
   rw [← List.map_drop,sg_u] at xx5;refine w7 (inv_end I hend :) fun e1 e2=>?_
   rw [e1,e2] at xx5;have hb':=sst_brk (prog:=prog) (w:=w) (A:=A.mark (some (.ref x))) (Γ:=Γ) (p:=pb) O₀ ow _ s5 xx5 .brk _ rfl;refine wpAny_execs_cons (hb' _ _ fun f s6 hp=>?_)
   obtain ⟨rfl,ow',xx6,_⟩:=hp;exact hQ s6 ⟨ow',i,j,e,a,xx6⟩
 induction nt with
 | true=>exact K1 xf.hf o.2 (key s o.1 o.2)
 | false =>
  refine z6 fun K0=>?_
  refine x04 o fun xx hr h0 hw=>?_
  refine K0 ?_
  clear K0
  exact note_new xf.fx.cx.frs xf.fr xf.hf xx g₀ hr h0 hw fun s1 xx1 n1=>key s1 xx1 n1
inductive IsLoop (nx ny ni nj nm nu ne na nI:Str) (st:Stmt):Prop
 | mk (a1:Stmt) (a2:Stmt) (p1:Stmt) (i1:Stmt) (w1:Stmt) (p2:Stmt) (j1:Stmt) (w2:Stmt) (i2:Stmt) (w3:Stmt) (j2:Stmt) (w4:Stmt) (x1:Stmt) (x2:Stmt) (q1:Pos) (q2:Pos) (q3:Pos) (q4:Pos) (q5:Pos) (q6:Pos) (q7:Pos) (q8:Pos) (pt:Pos) (kd:_) (pc:Pos) (pI:Pos) (pb:Pos) (ph:Pos) (ptt:Pos) (pw:Pos) (h1:st = .While (.Constant (.bool true) kd pc) [.Try [a1,a2,.If (.Compare (.Name ne q1) [.Lt] [.Name na q2] q3) [p1,i1,w1] [.If (.Compare (.Name ne q4) [.Gt] [.Name na q5] q6) [p2,j1,w2] [i2,.Try [w3] [] [] [j2,w4] pt] q7] q8] [.ExceptHandler (some (.Name nI pI)) none [x1,x2,.Break pb] ph] [] [] ptt] [] pw) (h2:IsAsg ne nx ni a1) (h3:IsAsg na ny nj a2) (h4:T7 nm ne p1) (h5:Y5 ni i1) (h6:Z0 nx ni ne w1) (h7:T7 nu na p2) (h8:Y5 nj j1) (h9:Z0 ny nj na w2) (h10:Y5 ni i2) (h11:Z0 nx ni ne w3) (h12:Y5 nj j2) (h13:Z0 ny nj na w4) (h14:IsExt nm nx ni x1) (h15:IsExt nu ny nj x2)
theorem loop_ok {st:Stmt} (N:SN c nx ny ni nj nm nu ne na nI) (xf:XF prog w A hb Γ c env s₀) (hst:IsLoop nx ny ni nj nm nu ne na nI st) (hX:k9 X=true) (hY:k9 Y=true) (zX:X.length≤64) (zY:Y.length≤64)
  (x:SS hb s₀ c env O₀ ow (sg X Y 0 0 [] [] e a) s) {Q:Flow→Shared→Prop} {E:Value→Shared→Prop} (hQ:∀ s',Fin' hb s₀ c env O₀ X Y (mns X Y) (mns Y X) s'→Q .next s'):wpAny (model prog w) A (exec st env) Q E s:=by
 obtain ⟨a1,a2,p1,i1,w1,p2,j1,w2,i2,w3,j2,w4,x1,x2,q1,q2,q3,q4,q5,q6,q7,q8,pt,kd,pc,pI,pb,ph,ptt,pw,rfl,ha1,ha2,hp1,hi1,hw1,hp2,hj1,hw2,hi2,hw3,hj2,hw4,hx1,hx2⟩:=hst;have g₀:=xf.fx.g₀;refine wpAny_While (codeAny_whileLoop (fun n s'=>Nxt hb s₀ c env O₀ X Y (mns X Y) (mns Y X) n s') (fun n s' hI=>?_) (X.length + Y.length + 1) ⟨ow,0,0,[],[],e,a,x,⟨rfl,rfl⟩,Nat.zero_le _,Nat.zero_le _,Nat.le_refl _,Nat.le_refl _,by lia⟩)
 obtain ⟨ow,i,j,m,u,e,a,x,I,li,lj,lm,lu,hn⟩:=hI;have se:SE prog w A hb Γ c (.Constant (.bool true) kd pc) (.lit (.bool true)):=O8 rfl;refine se.test x.fr (x.xc g₀) x.tk (b:=true) rfl _ _ fun s1 k1 t1=>?_
 have xx:=x.run g₀ k1 t1;rw [if_pos rfl];refine wpAny_execs_cons (wpAny_Try_except (wpAny_mono (try_body N xf ha1 ha2 hp1 hi1 hw1 hp2 hj1 hw2 hi2 hw3 hj2 hw4 xx hX hY zX zY I li lj lm lu) (fun f s2 hf=>?_) fun v s2 T=>?_))
 ·obtain ⟨rfl,ow',i',j',m',u',e',a',x',I',li',lj',lm',lu',hn'⟩:=hf;refine wpAny_execs_nil (wpAny_execs_nil ⟨_,hn,ow',i',j',m',u',e',a',x',I',li',lj',lm',lu',hn'⟩)
 ·refine handler_ok N xf hx1 hx2 zX zY T fun s3 hfin=>?_
  exact hQ s3 hfin
end
end Mine
namespace Mine
open PySem PyProof.Rows PySem.Spec
theorem strs_map:∀ {xs:List PV} {l:List (List Nat)},i4? xs=some l→xs=l.map .str
 | [],l,h=>by cases h;rfl
 | x::r,l,h=>by
  cases x with
  | str s =>
   rw [i4?,Option.map_eq_some_iff] at h
   obtain ⟨l',h1,rfl⟩:=h
   rw [strs_map h1];rfl
  | _=>cases h
inductive SlB (nx ny ni nj nm nu ne na nI:Str) (body:List Stmt):Prop
 | mk (p1:Pos) (p2:Pos) (kd:_) (p3:Pos) (p4:Pos) (p5:Pos) (p6:Pos) (p7:Pos) (p8:Pos) (p9:Pos) (p10:Pos) (lp:Stmt) (pa:Pos) (pb:Pos) (k2:_) (p11:Pos) (p12:Pos) (h9:IsLoop nx ny ni nj nm nu ne na nI lp) (h10:body=[.Assign [.Name ni p1,.Name nj p2] (.Constant (.int 0) kd p3) p4,.Assign [.Name nm p5] (.List [] p6) p7,.Assign [.Name nu p8] (.List [] p9) p10,lp,.Return (some (.Tuple [.Name nm pa,.Name nu pb] k2 p11)) p12])
inductive SlX (h:Heap):Prop
 | mk (fd:FuncData) (params:List Str) (body:List Stmt) (c:CT) (nx:Str) (ny:Str) (ni:Str) (nj:Str) (nm:Str) (nu:Str) (ne:Str) (na:Str) (nI:Str) (h1:FnAt h 38 fd params body) (h2:(∃ rest,CT.ns c=params ++ rest)) (h3:c.kind=fd.scope.names) (h4:(∀ n v,c.gl.lookup n=some v→Glob h n v)) (h5:params.length=2) (h6:c.ns.length=8) (h7:c.inT=false) (h8:SN c nx ny ni nj nm nu ne na nI) (h9:SlB nx ny ni nj nm nu ne na nI body)
structure SlEntry (h:Heap):Prop where
 ex:SlX h
section
variable {prog:Program} {w:World} {A:Around} {hb:HB} {Γ:y9}
theorem sl_ok (T:SlEntry hb.h) (hbase:U1 hb.h) {r:Nat} (room:Room A (r + 1)) (hcx:R2 prog w A hb Γ) (vs:List PV) (v:PV) (h:sld vs=some v):R3 prog w A hb (.ref 38) vs v:=by
 obtain ⟨fd,params,body,c,nx,ny,ni,nj,nm,nu,ne,na,nI,F,hns,hk,hg,hp,hn,hT,N,⟨p1,p2,kd,p3,p4,p5,p6,p7,p8,p9,p10,lp,pa,pb,k2,p11,p12,hlp,rfl⟩⟩:=T.ex;refine z6 fun K0=>?_
 refine x12 F.obj fun o ho hd=>?_
 refine K0 ?_;clear K0;refine y4 h fun q hq h=>?_
 refine y4 h fun xs hxs h=>?_
 refine y4 h fun ys hys h=>?_
 refine y4 h fun X h1 h=>?_
 refine y4 h fun Y h2 h=>?_
 refine v9 h fun hc h=>?_
 obtain rfl:=Option.some.inj h;have e0:vs=[.list (X.map .str),.list (Y.map .str)]:=by rw [two2_ok hq,X8 hxs,X8 hys,strs_map h1,strs_map h2]
 subst e0;have zY:=of_decide_eq_true (v6 hc);have zX:=of_decide_eq_true (v6 (y5 hc));have hX:=y5 (y5 (y5 hc));have hY:=v6 (y5 (y5 hc));refine ⟨38,o,fd,rfl,F.ne,ho,hd,fun O s rvs Q E xc tk hr hQ=>?_⟩
 refine fn_enter F hbase (fun q=>by rw [hT] at q;cases q) ?_ ?_ hcx hns hk hg (args:=[.list (X.map .str),.list (Y.map .str)]) hp.symm xc (.inl tk) hr (fun L env s₁ hf fx ss Q' E' hQ'=>?_) hQ
 ·have:=room.depth;lia
 ·have:=room.depth;lia
 ·rw [hn] at ss;have fr:∃ l,(A.deeper env).frames=some (env::l):=by
   refine x12 fx.cx.frs fun l e _=>?_
   have e:A.frames.map (env :: ·)=some l:=e
   cases hA:A.frames with
   | none=>rw [hA] at e;cases e
   | some l0=>exact ⟨l0,Around.frames_deeper hA⟩
  have xf:XF prog w (A.deeper env) (hb.deep L) Γ c env s:=⟨fx,fr,hf⟩;have g₀:=fx.g₀;refine wpAny_execs_cons (wpAny_Assign_two ?_);have he:SE prog w (A.deeper env) (hb.deep L) Γ c (.Constant (.int 0) kd p3) (.lit (.int 0)):=O8 rfl;refine he.val ss.fr (ss.xc g₀) ss.tk (v := .int 0) rfl _ _ fun rv s1 k1 t1 r1=>?_
  have x1:=ss.run g₀ k1 t1;refine wpAny_assign_Name (U0 fx x1 N.i r1 fun s2 x2 k2' _=>?_)
  obtain ⟨t0,rfl⟩:=r1;refine wpAny_assign_Name (U0 fx x2 N.j (v := .int 0) ⟨t0,rfl⟩ fun s3 x3 _ _=>?_)
  refine wpAny_execs_cons (sst_own fx N.m O _ _ s3 x3 .next _ rfl _ _ fun f s4 hp4=>?_)
  obtain ⟨rfl,ow4,x4,_⟩:=hp4;refine wpAny_execs_cons (sst_own fx N.u O _ _ s4 x4 .next _ rfl _ _ fun f s5 hp5=>?_)
  obtain ⟨rfl,ow5,x5,_⟩:=hp5;have x5:SS (hb.deep L) s c env O ow5 (sg X Y 0 0 [] [] none none) s5:=x5;refine wpAny_execs_cons (loop_ok N xf hlp hX hY zX zY x5 fun s6 hfin=>?_)
  refine z6 fun K0=>?_
  obtain ⟨ow6,i,j,e,a,x6⟩:=hfin;refine K0 ?_;clear K0;refine wpAny_execs_cons (sst_ret fx (se_tpl (by show 2≤64;decide) ⟨rfl,rfl⟩ (O9 rfl (Z5 N.om N.m) (O9 rfl (Z5 N.ou N.u) ses_nil))) O _ _ s6 x6 (.ret (.tup [.list ((mns X Y).map .str),.list ((mns Y X).map .str)])) (frzA (sg X Y i j (mns X Y) (mns Y X) e a)) ?_ _ _ fun f s7 hp7=>?_)
  ·cases e <;> cases a <;> rfl
  ·obtain ⟨rv,rfl,k7,_,r7⟩:=hp7;exact hQ' _ _ ⟨k7,.inl ⟨rv,rfl,r7⟩⟩
end
end Mine
set_option maxHeartbeats 4000000
namespace Mine
open PySem
noncomputable def fg (i:Nat):Slot→Slot
 | .app r=>if r=i then .unset else .app r
 | t=>t
noncomputable def thaw:Slot→Slot
 | .own xs => .val (.list xs)
 | s=>s
noncomputable def gt (σ:z9) (j:Nat):Option Slot:=σ[j]?
noncomputable def ln (σ:z9):Nat:=σ.length
noncomputable def gv (o:Option Slot):Option PV:=o.bind valS
noncomputable def gp (o:Option Slot):Option PV:=o.bind peekS
noncomputable def gow:Option Slot→Option (List PV)
 | some (.own v)=>some v
 | _=>none
noncomputable def gap:Option Slot→Option Nat
 | some (.app v)=>some v
 | _=>none
theorem O5 (σ:z9) (j:Nat):Y0 σ j=gow (gt σ j):=rfl
theorem appAt_gt (σ:z9) (j:Nat):appAt σ j=gap (gt σ j):=rfl
theorem gE (σ:List Slot) (j:Nat):σ[j]?=gt σ j:=rfl
theorem gV (σ:z9) (j:Nat):j5 σ j=gv (gt σ j):=rfl
theorem gP (σ:z9) (j:Nat):X7 σ j=gp (gt σ j):=rfl
theorem K5 (σ:z9) (i:Nat) (s:Slot):z7 σ i s=(σ.map (fg i)).set i s:=by
 unfold z7;congr 1;refine List.map_congr_left fun t _=>?_
 cases t <;> rfl
theorem gS (σ:z9) (i j:Nat) (s:Slot):gt (z7 σ i s) j=if i=j then (if j<ln σ then some s else none) else (gt σ j).map (fg i):=by
 unfold gt ln;rw [K5,List.getElem?_set,List.length_map,List.getElem?_map]
 split <;> rename_i h
 ·subst h;rfl
 ·rfl
theorem lS (σ:z9) (i:Nat) (s:Slot):ln (z7 σ i s)=ln σ:=by
 unfold ln;rw [K5,List.length_set,List.length_map]
theorem lL (σ:z9) (i:Nat) (s:Slot):ln (σ.set i s)=ln σ:=by
 unfold ln;rw [List.length_set]
theorem gZ (σ:z9) (i j:Nat):gt (frz1 σ i) j=if i=j then (gt σ j).map thaw else gt σ j:=by
 unfold frz1 gt
 split
 ·rename_i xs e;rw [List.getElem?_set]
  split
  ·rename_i h;subst h;rw [if_pos (List.getElem?_eq_some_iff.mp e).1,e];rfl
  ·rfl
 ·rename_i hn
  split
  ·rename_i h;subst h
   cases e:σ[i]? with
   | none=>rfl
   | some s=>cases s with
    | own xs=>exact absurd e (hn xs)
    | _=>rfl
  ·rfl
theorem sZ (σ:z9) (i:Nat) (s:Slot):z7 (frz1 σ i) i s=z7 σ i s:=by
 unfold frz1
 split
 ·rw [K5,K5,List.map_set,List.set_set]
 ·rfl
theorem gA (σ:z9) (j:Nat):gt (frzA σ) j=(gt σ j).map thaw:=by
 unfold frzA gt;rw [List.getElem?_map];congr 1
theorem gL (σ:z9) (i j:Nat) (s:Slot):gt (σ.set i s) j=if i=j then (if j<ln σ then some s else none) else gt σ j:=by
 unfold gt ln;rw [List.getElem?_set]
 split
 ·rename_i h;subst h;rfl
 ·rfl
theorem W8 {Γ:y9} {A:Addr} {l2:List PS} {σ':z9} {l1:List PS} : ∀ {σ:z9},y7 Γ A l1 σ=some (.next,σ')→y7 Γ A (l1 ++ l2) σ=y7 Γ A l2 σ':=by
 induction l1 with
 | nil=>intro σ h;cases h;rfl
 | cons s r ih =>
  intro σ h
  refine z6 fun K0=>?_
  refine y4 h fun o0 h1 h2=>?_;obtain ⟨f,σ1⟩:=o0
  refine K0 ?_
  clear K0
  show (w8 Γ A s σ).bind _=_
  rw [h1]
  induction f with
  | next=>exact ih h2
  | _=>cases h2
theorem u9 {Γ:y9} {A:Addr} {s:PS} {r:List PS} {σ σ':z9} (h:w8 Γ A s σ=some (.next,σ')):y7 Γ A (s::r) σ=y7 Γ A r σ':=by
 show (w8 Γ A s σ).bind _=_;rw [h];rfl
theorem evSs_brk {Γ:y9} {A:Addr} {s:PS} {r:List PS} {σ σ':z9} (h:w8 Γ A s σ=some (.brk,σ')):y7 Γ A (s::r) σ=some (.brk,σ'):=by
 show (w8 Γ A s σ).bind _=_;rw [h];rfl
theorem M2 {Γ:y9} {A:Addr} {s:PS} {r:List PS} {σ σ':z9} {v:PV} (h:w8 Γ A s σ=some (.ret v,σ')):y7 Γ A (s::r) σ=some (.ret v,σ'):=by
 show (w8 Γ A s σ).bind _=_;rw [h];rfl
theorem seq_one (x:Option (Fl × z9)) {Γ:y9} {A:Addr} : x.bind (seqF (y7 Γ A []))=x:=by
 induction x with
 | none=>rfl
 | some q=>obtain ⟨f,σ⟩:=q;cases f <;> rfl
theorem ite_t {Γ:y9} {A:Addr} {c:PE} {a b:List PS} {σ:z9} (h:y8 (z8 Γ c .test σ)=some true):y7 Γ A [.ite c a b] σ=y7 Γ A a σ:=by
 show ((y8 (z8 Γ c .test σ)).bind fun t=>if t=true then y7 Γ A a σ else y7 Γ A b σ).bind _=_
 rw [h];exact seq_one _
theorem V2 {Γ:y9} {A:Addr} {c:PE} {a b:List PS} {σ:z9} (h:y8 (z8 Γ c .test σ)=some false):y7 Γ A [.ite c a b] σ=y7 Γ A b σ:=by
 show ((y8 (z8 Γ c .test σ)).bind fun t=>if t=true then y7 Γ A a σ else y7 Γ A b σ).bind _=_
 rw [h];exact seq_one _
theorem W1 {c:z9→Option Bool} {b:z9→Option (Fl × z9)} {n:Nat} {σ:z9} (h:c σ=some false):b7 c b (n + 1) σ=some (.next,σ):=by
 rw [b7,h];rfl
theorem wl_go {c:z9→Option Bool} {b:z9→Option (Fl × z9)} {n:Nat} {σ σ':z9} (h:c σ=some true) (hb:b σ=some (.next,σ')):b7 c b (n + 1) σ=b7 c b n σ':=by
 rw [b7,h];show (b σ).bind _=_;rw [hb];rfl
theorem wl_brk {c:z9→Option Bool} {b:z9→Option (Fl × z9)} {n:Nat} {σ σ':z9} (h:c σ=some true) (hb:b σ=some (.brk,σ')):b7 c b (n + 1) σ=some (.next,σ'):=by
 rw [b7,h];show (b σ).bind _=_;rw [hb];rfl
section
variable {Γ:y9} {A:Addr} {σ:z9} {i j k n:Nat} {s:Slot} {v w x y:PV} {xs:List PV} {a b c e:PE} {es:List PE} {l:List PV} {t u:Bool}
-- slots T1 a store
theorem k_v (h:gt σ j=some (.val v)) (q:Nat.beq i j=false):gt (z7 σ i s) j=some (.val v):=by
 rw [gS,if_neg (Nat.ne_of_beq_eq_false q),h];rfl
theorem k_o (h:gt σ j=some (.own xs)) (q:Nat.beq i j=false):gt (z7 σ i s) j=some (.own xs):=by
 rw [gS,if_neg (Nat.ne_of_beq_eq_false q),h];rfl
theorem k_a (h:gt σ j=some (.app k)) (q:Nat.beq i j=false) (r:Nat.beq k i=false):gt (z7 σ i s) j=some (.app k):=by
 rw [gS,if_neg (Nat.ne_of_beq_eq_false q),h];exact congrArg some (if_neg (Nat.ne_of_beq_eq_false r))
theorem k_i (z:ln σ=n) (q:Nat.blt j n=true):gt (z7 σ j s) j=some s:=by
 rw [gS,if_pos rfl,z];exact if_pos (Nat.le_of_ble_eq_true q)
theorem k_s (h:gt σ j=some s) (q:Nat.beq i j=false) {r:Slot} : gt (σ.set i r) j=some s:=by
 rw [gL,if_neg (Nat.ne_of_beq_eq_false q),h]
theorem k_si (z:ln σ=n) (q:Nat.blt j n=true):gt (σ.set j s) j=some s:=by
 rw [gL,if_pos rfl,z];exact if_pos (Nat.le_of_ble_eq_true q)
theorem k_f (h:gt σ j=some (.val v)):gt (frz1 σ i) j=some (.val v):=by
 rw [gZ,h];split <;> rfl
theorem k_fo (h:gt σ j=some (.own xs)) (q:Nat.beq i j=false):gt (frz1 σ i) j=some (.own xs):=by
 rw [gZ,if_neg (Nat.ne_of_beq_eq_false q),h]
theorem k_fi (h:gt σ j=some (.own xs)):gt (frz1 σ j) j=some (.val (.list xs)):=by
 rw [gZ,if_pos rfl,h];rfl
theorem k_A (h:gt σ j=some (.val v)):gt (frzA σ) j=some (.val v):=by
 rw [gA,h];rfl
theorem k_Ao (h:gt σ j=some (.own xs)):gt (frzA σ) j=some (.val (.list xs)):=by
 rw [gA,h];rfl
theorem n_s (z:ln σ=n):ln (z7 σ i s)=n:=(lS ..).trans z
theorem n_l (z:ln σ=n):ln (σ.set i s)=n:=(lL ..).trans z
-- values
theorem l3:z8 Γ (.lit v) .val σ=some v:=rfl
theorem e_gl {f:Value} : z8 Γ (.gl f) .val σ=some (.fn f):=rfl
theorem e_neg {z:Int} : z8 Γ (.neg z) .val σ=some (.int (-z)):=rfl
theorem m7 (h:gt σ i=some (.val v)):z8 Γ (.var i) .val σ=some v:=congrArg gv h
theorem e_pk (h:gt σ i=some (.val v)):z8 Γ (.var i) .peek σ=some v:=congrArg gp h
theorem e_pko (h:gt σ i=some (.own xs)):z8 Γ (.var i) .peek σ=some (.list xs):=congrArg gp h
theorem Y7 {op:Operator} (h1:z8 Γ a .val σ=some x) (h2:z8 Γ b .val σ=some y) (h3:l4 op x y=some v):z8 Γ (.bin op a b) .val σ=some v:=by
 show ((z8 Γ a .val σ).bind fun x=>(z8 Γ b .val σ).bind fun y=>l4 op x y)=_
 rw [h1,h2];exact h3
theorem e_cmp {op:CmpOp} (h1:z8 Γ a .val σ=some x) (h2:z8 Γ b .val σ=some y) (h3:u7 op x y=some t):z8 Γ (.cmp op a b) .val σ=some (.bool t):=by
 show ((z8 Γ a .val σ).bind fun x=>(z8 Γ b .val σ).bind fun y=>(u7 op x y).map PV.bool)=_
 rw [h1,h2];exact congrArg (Option.map PV.bool) h3
theorem e_idx (h1:z8 Γ a .peek σ=some x) (h2:z8 Γ b .val σ=some y) (h3:v4 x y=some v):z8 Γ (.idx a b) .val σ=some v:=by
 show ((z8 Γ a .peek σ).bind fun x=>(z8 Γ b .val σ).bind fun y=>v4 x y)=_
 rw [h1,h2];exact h3
theorem e_pidx (h1:z8 Γ a .peek σ=some x) (h2:z8 Γ b .val σ=some y) (h3:v4 x y=some v):z8 Γ (.idx a b) .peek σ=some v:=e_idx (Γ:=Γ) h1 h2 h3
theorem e_slc {z:PV} (h1:z8 Γ a .val σ=some x) (h2:z8 Γ b .val σ=some y) (h3:z8 Γ c .val σ=some z) (h4:n8 x y z=some v):z8 Γ (.slc a b c) .val σ=some v:=by
 show ((z8 Γ a .val σ).bind fun x=>(z8 Γ b .val σ).bind fun y=>(z8 Γ c .val σ).bind fun z=>n8 x y z)=_
 rw [h1,h2,h3];exact h4
theorem e_len (h1:z8 Γ a .peek σ=some x) (h2:Z1 "len" [x]=some v):z8 Γ (.len a) .val σ=some v:=by
 show ((z8 Γ a .peek σ).bind fun x=>Z1 "len" [x])=_
 rw [h1];exact h2
theorem Y8:m6 Γ [] σ=some []:=rfl
theorem c9 (h1:z8 Γ e .val σ=some v) (h2:m6 Γ es σ=some l):m6 Γ (e::es) σ=some (v::l):=by
 show ((z8 Γ e .val σ).bind fun v=>(m6 Γ es σ).map (v :: ·))=_
 rw [h1,h2];rfl
theorem W6 {f:Value} (h1:m6 Γ es σ=some l) (h2:callF Γ f l=some v):z8 Γ (.call f es) .val σ=some v:=by
 show ((m6 Γ es σ).bind fun vs=>callF Γ f vs)=_
 rw [h1];exact h2
theorem e_meth {m:Str} (h1:z8 Γ a .val σ=some x) (h2:m6 Γ es σ=some l) (h3:n9 m x l=some v):z8 Γ (.meth m a es) .val σ=some v:=by
 show ((z8 Γ a .val σ).bind fun x=>(m6 Γ es σ).bind fun vs=>n9 m x vs)=_
 rw [h1,h2];exact h3
theorem e_repl {q:Nat} {r:List Nat} (h1:z8 Γ a .val σ=some x) (h2:Q2 x q r=some v):z8 Γ (.repl a q r) .val σ=some v:=by
 show ((z8 Γ a .val σ).bind fun x=>Q2 x q r)=_
 rw [h1];exact h2
theorem e_lst (h:m6 Γ es σ=some l):z8 Γ (.lst es) .val σ=some (.list l):=congrArg (Option.map PV.list) h
theorem e_tpl (h:m6 Γ es σ=some l):z8 Γ (.tpl es) .val σ=some (.tup l):=congrArg (Option.map PV.tup) h
theorem e_fstr (h:m6 Γ es σ=some l) (h2:W9 l=some v):z8 Γ (.fstr es) .val σ=some v:=by
 show (m6 Γ es σ).bind W9=_;rw [h];exact h2
theorem e_ift {m:Md} (h:y8 (z8 Γ c .test σ)=some true) (h2:z8 Γ a m σ=some v):z8 Γ (.ife c a b) m σ=some v:=by
 show ((y8 (z8 Γ c .test σ)).bind fun t=>if t=true then z8 Γ a m σ else z8 Γ b m σ)=_
 rw [h];exact h2
theorem e_iff {m:Md} (h:y8 (z8 Γ c .test σ)=some false) (h2:z8 Γ b m σ=some v):z8 Γ (.ife c a b) m σ=some v:=by
 show ((y8 (z8 Γ c .test σ)).bind fun t=>if t=true then z8 Γ a m σ else z8 Γ b m σ)=_
 rw [h];exact h2
-- tests
theorem S2 {x:Option PV} (h:x=some v) (h2:truthy v=some t):y8 (fin .test x)=some t:=by
 rw [h];show y8 ((truthy v).map .bool)=_;rw [h2];rfl
theorem t_cmp {op:CmpOp} (h1:z8 Γ a .val σ=some x) (h2:z8 Γ b .val σ=some y) (h3:u7 op x y=some t):y8 (z8 Γ (.cmp op a b) .test σ)=some t :=
 S2 (e_cmp (Γ:=Γ) h1 h2 h3) rfl
theorem t_nt (h:y8 (z8 Γ a .test σ)=some t) (q:(!t)=u):y8 (z8 Γ (.nt a) .test σ)=some u:=by
 show y8 ((y8 (z8 Γ a .test σ)).map fun b => .bool (!b))=_
 rw [h,← q];rfl
theorem t_go (h:y8 (z8 Γ a .test σ)=some t) (h2:y8 (z8 Γ b .test σ)=some u):y8 (z8 Γ (.bop t a b) .test σ)=some u:=by
 show y8 ((y8 (z8 Γ a .test σ)).bind fun r=>if r == t then z8 Γ b .test σ else some (.bool r))=_
 rw [h];cases t <;> exact h2
theorem t_stop (h:y8 (z8 Γ a .test σ)=some (!t)):y8 (z8 Γ (.bop t a b) .test σ)=some (!t):=by
 show y8 ((y8 (z8 Γ a .test σ)).bind fun r=>if r == t then z8 Γ b .test σ else some (.bool r))=_
 rw [h];cases t <;> rfl
theorem t_and (h:y8 (z8 Γ a .test σ)=some false):y8 (z8 Γ (.bop true a b) .test σ)=some false:=t_stop (t:=true) h
theorem t_or (h:y8 (z8 Γ a .test σ)=some true):y8 (z8 Γ (.bop false a b) .test σ)=some true:=t_stop (t:=false) h
theorem t_var (h:gt σ i=some (.val v)) (q:truthy v=some t):y8 (z8 Γ (.var i) .test σ)=some t:=S2 (e_pk (Γ:=Γ) h) q
theorem t_own (h:gt σ i=some (.own xs)) (q:(!xs.isEmpty)=t):y8 (z8 Γ (.var i) .test σ)=some t:=S2 (e_pko (Γ:=Γ) h) (congrArg some q)
theorem t_lit (q:truthy v=some t):y8 (z8 Γ (.lit v) .test σ)=some t:=S2 (l3 (Γ:=Γ) (σ:=σ)) q
theorem t_call {f:Value} (h:z8 Γ (.call f es) .val σ=some v) (q:truthy v=some t):y8 (z8 Γ (.call f es) .test σ)=some t:=S2 h q
theorem t_meth {m:Str} (h:z8 Γ (.meth m a es) .val σ=some v) (q:truthy v=some t):y8 (z8 Γ (.meth m a es) .test σ)=some t:=S2 h q
-- statements
theorem set_frz' {v:PV} (h:z8 Γ e .val (frz1 σ i)=some v):w8 Γ A (.assign i e) σ=some (.next,z7 σ i (.val v)):=by
 show (z8 Γ e .val (frz1 σ i)).map _=_;rw [h,Option.map_some,sZ]
theorem s_push (h:z8 Γ e .val σ=some v) (g:gt σ i=some (.own xs)) (z:xs.length<small):w8 Γ A (.push i e) σ=some (.next,σ.set i (.own (xs ++ [v]))):=by
 show ((z8 Γ e .val σ).bind fun v=>(Y0 σ i).bind fun xs=>if xs.length<small then some (Fl.next,σ.set i (.own (xs ++ [v]))) else none)=_
 rw [h,O5,g];exact if_pos z
theorem s_pushA (r:gt σ j=some (.app i)) (h:z8 Γ e .val σ=some v) (g:gt σ i=some (.own xs)) (z:xs.length<small):w8 Γ A (.pushA j i e) σ=some (.next,σ.set i (.own (xs ++ [v]))):=by
 show ((appAt σ j).bind fun r=>if r=i then (z8 Γ e .val σ).bind fun v=>(Y0 σ i).bind fun xs=>if xs.length<small then some (Fl.next,σ.set i (.own (xs ++ [v]))) else none else none)=_
 rw [h,O5,appAt_gt,g,r];exact (if_pos rfl).trans (if_pos z)
theorem s_brk:w8 Γ A .brk σ=some (.brk,σ):=rfl
theorem s_own:w8 Γ A (.own i) σ=some (.next,z7 σ i (.own [])):=rfl
theorem s_tup (h1:z8 Γ a .val σ=some v) (h2:z8 Γ b .val σ=some w) (q:Nat.beq i j=false):w8 Γ A (.tup2 i j a b) σ=some (.next,z7 (z7 σ i (.val v)) j (.val w)):=by
 show ((z8 Γ a .val σ).bind fun u=>(z8 Γ b .val σ).bind fun v=>if i=j then none else some (Fl.next,z7 (z7 σ i (.val u)) j (.val v)))=_
 rw [h1,h2];exact if_neg (Nat.ne_of_beq_eq_false q)
theorem s_aug {op:Operator} (h1:gt σ i=some (.val x)) (h2:z8 Γ e .val σ=some y) (h3:augop op x y=some v):w8 Γ A (.aug i op e) σ=some (.next,z7 σ i (.val v)):=by
 show ((j5 σ i).bind fun u=>(z8 Γ e .val σ).bind fun v=>(augop op u v).map fun r=>(Fl.next,z7 σ i (.val r)))=_
 rw [gV,h1,h2];show (augop op x y).map _=_;rw [h3];rfl
theorem s_app (g:gt σ i=some (.own xs)) (q:Nat.beq j i=false):w8 Γ A (.app j i) σ=some (.next,z7 σ j (.app i)):=by
 show ((Y0 σ i).bind fun _=>if j=i then none else some (Fl.next,z7 σ j (.app i)))=_
 rw [O5,g];exact if_neg (Nat.ne_of_beq_eq_false q)
theorem s_resub (g:gt σ i=some (.val v)) (h:S8 v=some w):w8 Γ A (.resub i) σ=some (.next,z7 σ i (.val w)):=by
 show ((j5 σ i).bind fun v=>(S8 v).map fun r=>(Fl.next,z7 σ i (.val r)))=_
 rw [gV,g];exact congrArg (Option.map _) h
theorem s_djoin (g:gt σ j=some (.own xs)) (h:djoinop (.list xs)=some w):w8 Γ A (.djoin i j) σ=some (.next,z7 σ i (.val w)):=by
 show ((X7 σ j).bind fun v=>(djoinop v).map fun r=>(Fl.next,z7 σ i (.val r)))=_
 rw [gP,g];exact congrArg (Option.map _) h
theorem s_down {p q:Int} (h1:z8 Γ a .val σ=some (.int p)) (h2:z8 Γ b .val σ=some (.int q)) (z:p≤q∧0≤p∧q≤4096):w8 Γ A (.down i a b) σ=some (.next,σ):=by
 show ((z8 Γ a .val σ).bind fun u=>(z8 Γ b .val σ).bind fun v=>(i9 u).bind fun x=>(i9 v).bind fun y=>if x≤y∧0≤x∧y≤4096 then some (Fl.next,σ) else none)=_
 rw [h1,h2];exact if_pos z
theorem s_ret (h:z8 Γ e .val (frzA σ)=some v):w8 Γ A (.ret e) σ=some (.ret v,frzA σ):=congrArg (Option.map _) h
theorem s_asrt (h:y8 (z8 Γ e .test σ)=some true):w8 Γ A (.asrt e) σ=some (.next,σ):=by
 show ((y8 (z8 Γ e .test σ)).bind fun t=>if t=true then some (Fl.next,σ) else none)=_
 rw [h];rfl
theorem s_t {p q:List PS} {r:Option (Fl × z9)} (h:y8 (z8 Γ c .test σ)=some true) (h2:y7 Γ A p σ=r):w8 Γ A (.ite c p q) σ=r:=by
 show ((y8 (z8 Γ c .test σ)).bind fun t=>if t=true then y7 Γ A p σ else y7 Γ A q σ)=_
 rw [h];exact h2
theorem s_f {p q:List PS} {r:Option (Fl × z9)} (h:y8 (z8 Γ c .test σ)=some false) (h2:y7 Γ A q σ=r):w8 Γ A (.ite c p q) σ=r:=by
 show ((y8 (z8 Γ c .test σ)).bind fun t=>if t=true then y7 Γ A p σ else y7 Γ A q σ)=_
 rw [h];exact h2
theorem whl_eq {l:List PS} : w8 Γ A (.whl e l) σ=b7 (fun σ=>y8 (z8 Γ e .test σ)) (y7 Γ A l) j4 σ:=rfl
theorem l_nil {σ':z9} (h:σ=σ'):y7 Γ A [] σ=some (.next,σ'):=h▸rfl
theorem m9 {p:PS} {r:List PS} {σ':z9} {o:Option (Fl × z9)} (h:w8 Γ A p σ=some (.next,σ')) (h2:y7 Γ A r σ'=o):y7 Γ A (p::r) σ=o:=(u9 h).trans h2
theorem i8 {n:Nat} {b:List PS} {args:List PV} {v:PV} {σ':z9} (h:y7 Γ A b (args.map Mine.Slot.val ++ List.replicate (n - args.length) .unset)=some (.ret v,σ')):evF Γ A n b args=some v:=by
 show (y7 Γ A b (args.map Mine.Slot.val ++ List.replicate (n - args.length) .unset)).bind _=_;rw [h];rfl
theorem evF_ex {n:Nat} {b:List PS} {args:List PV} {v:PV} (h:∃ σ',y7 Γ A b (args.map Mine.Slot.val ++ List.replicate (n - args.length) .unset)=some (.ret v,σ')):evF Γ A n b args=some v :=
 let ⟨_,h⟩:=h;i8 h
theorem U3 {elt:PE} {tg:Tgt} {ki:IK} {ifs:List PE} {cap:List (Option Nat)} {items:List PV} (h1:z8 Γ a .val σ=some x) (h2:z8 Γ b .val σ=some y) (h3:f9 ki x y=some items) (h4:m5 tg (i7 σ cap) (f0 Γ ifs) (z8 Γ elt .val) items=some l):z8 Γ (.comp elt tg ki a b ifs cap) .val σ=some (.list l):=by
 show ((z8 Γ a .val σ).bind fun x=>(z8 Γ b .val σ).bind fun y=>(f9 ki x y).bind fun items=>(m5 tg (i7 σ cap) (f0 Γ ifs) (z8 Γ elt .val) items).map PV.list)=_
 rw [h1,Option.bind_some,h2,Option.bind_some,h3,Option.bind_some,h4];rfl
theorem e_comp2 {elt a2:PE} {tg t2:Tgt} {ki:IK} {cap:List (Option Nat)} {items:List PV} (h1:z8 Γ a .val σ=some x) (h2:z8 Γ b .val σ=some y) (h3:f9 ki x y=some items)
  (h4:X0 tg (i7 σ cap) (fun σ1=>(z8 Γ a2 .val σ1).bind fun z=>(lstP z).bind fun items2=>m5 t2 σ1 (fun _=>some true) (z8 Γ elt .val) items2) items=some l):z8 Γ (.comp2 elt tg ki a b t2 a2 cap) .val σ=some (.list l):=by
 show ((z8 Γ a .val σ).bind fun x=>(z8 Γ b .val σ).bind fun y=>(f9 ki x y).bind fun items=>(X0 tg (i7 σ cap) (fun σ1=>(z8 Γ a2 .val σ1).bind fun z=>(lstP z).bind fun items2=>m5 t2 σ1 (fun _=>some true) (z8 Γ elt .val) items2) items).map PV.list)=_
 rw [h1,Option.bind_some,h2,Option.bind_some,h3,Option.bind_some,h4];rfl
theorem s_for {tg:Tgt} {ki:IK} {body:List PS} {items:List PV} {r:Option (Fl × z9)} (h1:z8 Γ a .val σ=some x) (h2:z8 Γ b .val σ=some y) (h3:f9 ki x y=some items) (h4:c7 tg (y7 Γ A body) items σ=r):w8 Γ A (.for tg ki a b body) σ=r:=by
 show ((z8 Γ a .val σ).bind fun x=>(z8 Γ b .val σ).bind fun y=>(f9 ki x y).bind fun items=>c7 tg (y7 Γ A body) items σ)=_
 rw [h1,Option.bind_some,h2,Option.bind_some,h3];exact h4
-- operations
theorem S6 {a b:List Nat} (h:a.length + b.length≤small):l4 .Add (.str a) (.str b)=some (.str (a ++ b)) :=
 congrArg (Option.or · none) (if_pos (e:=none) h)
theorem S5 {a b:List PV} (h:a.length + b.length≤small):l4 .Add (.list a) (.list b)=some (.list (a ++ b)):=if_pos h
theorem o_eqs {a b:List Nat} (h:decide (a=b)=t):u7 .Eq (.str a) (.str b)=some t:=congrArg some h
theorem o_eqi {a b:Int} (h:decide (a=b)=t):u7 .Eq (.int a) (.int b)=some t:=congrArg some h
theorem o_nes {a b:List Nat} (h:(!decide (a=b))=t):u7 .NotEq (.str a) (.str b)=some t:=congrArg some h
theorem o_nei {a b:Int} (h:(!decide (a=b))=t):u7 .NotEq (.int a) (.int b)=some t:=congrArg some h
theorem o_lt {a b:Int} (h:decide (a<b)=t):u7 .Lt (.int a) (.int b)=some t:=congrArg some h
theorem o_le {a b:Int} (h:decide (a≤b)=t):u7 .LtE (.int a) (.int b)=some t:=congrArg some h
theorem o_gt {a b:Int} (h:decide (b<a)=t):u7 .Gt (.int a) (.int b)=some t:=congrArg some h
theorem o_ge {a b:Int} (h:decide (b≤a)=t):u7 .GtE (.int a) (.int b)=some t:=congrArg some h
theorem o_in {c:Nat} {s:List Nat} (h:decide (c∈s)=t):u7 .In (.str [c]) (.str s)=some t:=congrArg some h
theorem o_nin {c:Nat} {s:List Nat} (h:(!decide (c∈s))=t):u7 .NotIn (.str [c]) (.str s)=some t:=congrArg some h
theorem o_repl {c:Nat} {r s u:List Nat} (h1:s.length≤65536) (h2:Nat.ble r.length 14=true) (h3:([c]:List Nat)≠r) (h4:i3 c r s=u) (h5:u.length≤small):Q2 (.str s) c r=some (.str u):=by
 subst h4;exact if_pos ⟨h1,Nat.le_of_ble_eq_true h2,h3,h5⟩
theorem X9 {a b:Int} (h:0<b):l4 .Mod (.int a) (.int b)=some (.int (a % b)):=if_pos h
theorem o_div {a b:Int} (h:0<b) (h2:b<1000000000):l4 .FloorDiv (.int a) (.int b)=some (.int (a / b)):=if_pos ⟨h,h2⟩
theorem o_pow {a b:Int} (h:0≤b) (h2:b≤16) (h3:0≤a) (h4:a≤64):l4 .Pow (.int a) (.int b)=some (.int (a ^ b.toNat)):=if_pos ⟨h,h2,h3,h4⟩
theorem o_is {a b:Addr} (h:decide (a=b)=t):u7 .Is (.ob a) (.ob b)=some t:=congrArg some h
theorem o_ns {a b:Addr} (h:(!decide (a=b))=t):u7 .IsNot (.ob a) (.ob b)=some t:=congrArg some h
theorem P8 (xs:List (List Nat)):u6 [] xs=xs.flatten:=by
 induction xs with
 | nil=>rfl
 | cons x r ih=>cases r with
  | nil=>exact (List.append_nil _).symm
  | cons y r=>show x ++ [] ++ u6 [] (y::r)=_;rw [ih,List.append_nil];rfl
theorem fstr3 {a y b w:List Nat} (e:a ++ (y ++ b)=w) (h:w.length≤small):W9 [.str a,.str y,.str b]=some (.str w):=by
 have q:u6 [] [a,y,b]=w:=(P8 _).trans (by rw [List.flatten_cons,List.flatten_cons,List.flatten_cons,List.flatten_nil,List.append_nil];exact e);show (if (u6 [] [a,y,b]).length≤small then some (PV.str (u6 [] [a,y,b])) else none)=_;rw [q];exact if_pos h
theorem L0 {s:List Nat} {xs:List PV} {l:List (List Nat)} (h:i4? xs=some l) (hz:(u6 s l).length≤small):n9 "join" (.str s) [.list xs]=some (.str (u6 s l)):=by
 rw [show n9 "join" (.str s) [.list xs]=(i4? xs).bind fun l=>if (u6 s l).length≤small then some (.str (u6 s l)) else none from rfl,h]
 exact if_pos hz
theorem S3 {t:List PV} {j:Nat} {c:PV} {x:Int} (h:t[j]?=some c) (hx:x=(j:Int)):v4 (.list t) (.int x)=some c:=by
 subst hx;exact M5 (O4 (List.getElem?_eq_some_iff.mp h).1) h
theorem c_ref {Γ:y9} {r:Addr} (h:Γ (.ref r) l=some v):callF Γ (.ref r) l=some v:=h
theorem d_s1 {a b:Nat} (h:a≠b):decide ([a]=[b])=false:=decide_eq_false fun q=>h (List.cons.inj q).1
theorem n_f {b:Bool} (h:b=false):(!b)=true:=h▸rfl
theorem n_t {b:Bool} (h:b=true):(!b)=false:=h▸rfl
end
theorem q_E {Γ:y9} {e:PE} {m:Md} {σ:z9} {r:Option PV} (h:z8 Γ e m σ=r):z8 Γ e m σ=r:=h
theorem q_B {v:Option PV} {r:Option Bool} (h:y8 v=r):y8 v=r:=h
theorem q_S {Γ:y9} {A:Addr} {p:PS} {σ:z9} {r:Option (Fl × z9)} (h:w8 Γ A p σ=r):w8 Γ A p σ=r:=h
theorem q_T {Γ:y9} {A:Addr} {p:List PS} {σ:z9} {r:Option (Fl × z9)} (h:y7 Γ A p σ=r):y7 Γ A p σ=r:=h
theorem q_L {Γ:y9} {e:List PE} {σ:z9} {r:Option (List PV)} (h:m6 Γ e σ=r):m6 Γ e σ=r:=h
def mNd (k : Lean.Name) (l : List Lean.Syntax) : Lean.Syntax := .node .none k l.toArray
def mTk (k : String) (l : List Lean.Syntax) (a : String := k) : Lean.Syntax := mNd (.str `Lean.Parser.Tactic k) (.atom .none a :: l)
def mSq (t : Lean.Syntax) : Lean.Syntax := mNd `Lean.Parser.Tactic.tacticSeq [mNd `Lean.Parser.Tactic.tacticSeq1Indented [mNd `null [t]]]
def mFr (l : List Lean.Syntax) : Lean.Syntax := mTk "first" [mNd `null (l.map fun t => mNd `group [.atom .none "|", mSq t])]
def mWa (k : String) : Lean.Syntax := mNd `PyProof.Rows.tacticWalk_at_ [.atom .none "walk_at", Lean.Syntax.mkStrLit k]
def mAl (h a : String) : Lean.Syntax := mTk "withReducible" [mSq (mFr (((a.splitOn " ").filter (· != "")).map fun x => mTk h [Lean.mkIdent (.mkSimple x)]))] "with_reducible"
def mTh (a b : Lean.Syntax) : Lean.Syntax := mNd `Lean.Parser.Tactic.«tactic_<;>_» [a, .atom .none "<;>", b]
def mAlt (r : String) : Lean.Syntax := match r.splitOn ">" with
 | [a,k]=>mTh (mAl "apply" a) (mWa k)
 | _=>match r.splitOn "!",r.splitOn "=" with
  | [_,k],_=>mTh (mTk "failIfSuccess" [mSq (mAl "apply" " q_E q_B q_S q_T q_L ")] "fail_if_success") (mWa k)
  | _,[_,a]=>mAl "exact" a
  | _,_=>if r == "assumption" then mTk r [] else if r == "rfl" then mTk "exact" [Lean.mkIdent `rfl] else if r == "#" then mTk "withReducible" [mSq (mTk "assumption" [])] "with_reducible" else if r == "omega" then mTk r [mNd `Lean.Parser.Tactic.optConfig [mNd `null []]] else mWa r
local macro_rules | `(tactic| walk_at $s:str) => match ("fact:assumption|rfl|omega| decide_eq_true d_s1 decide_eq_false n_f n_t >fact;slot:#| k_i k_si k_s k_fi n_s n_l >slot| k_v k_f k_A >slot| k_o k_fo k_Ao >slot| k_a >slot|!qed;op:#| c_ref >as| S6 S5 o_eqs o_eqi o_nes o_nei o_lt o_le o_gt o_ge o_in o_nin o_is o_ns o_repl X9 o_div o_pow >fact|rfl|assumption;qed:rfl;as:assumption;more:op|fact;ev:#|= l3 e_gl e_neg Y8 s_own s_brk | m7 e_pk >slot| e_pko >slot| Y7 e_cmp e_idx e_pidx e_slc e_len c9 W6 e_meth e_repl e_lst e_tpl e_fstr e_ift t_cmp t_nt t_go t_var t_call t_meth set_frz' s_push s_pushA s_tup s_aug s_app s_ret s_resub s_djoin s_down s_asrt s_t m9 >ev| e_iff t_and t_own s_f M2 >ev| t_or evSs_brk >ev| t_lit >op| l_nil >qed|slot|!more".splitOn ";").filterMap fun r => match r.splitOn ":" with | [k, v] => if k == s.getString then some (v.splitOn "|") else none | _ => none with | [l] => pure (mFr (l.map mAlt)) | _ => Lean.Macro.throwUnsupported
theorem d8 {k:Nat} {a:Addr} {vs:List PV} {m n:Nat} {b:List PS} (h1:a≠38) (h2:a≠50) (ht:tbl a=some (m,n,b)) (hm:vs.length=m):gam (k + 1) (.ref a) vs=evF (gam k) 0 n b vs:=by
 show (if a=38 then sld vs else if a=50 then trs (gam k) vs else match tbl a with
   | some (m,n,b)=>if vs.length=m then evF (gam k) 0 n b vs else none
   | none=>none)=_
 rw [if_neg h1,if_neg h2,ht];exact if_pos hm
structure TI (t:List Nat) (a:Addr) (res:List PV) (i n:Int) (σ:z9):Prop where
 z:ln σ=13
 s0:gt σ 0=some (.val (.str t))
 s1:gt σ 1=some (.val (.ob a))
 s2:gt σ 2=some (.val (.str [46]))
 s3:gt σ 3=some (.own res)
 s4:gt σ 4=some (.app 3)
 s5:gt σ 5=some (.val (.int i))
 s6:gt σ 6=some (.val (.int n))
section
variable {Γ:y9} {t:List Nat} {a:Addr} {res:List PV} {i n:Int} {σ:z9} {c:Nat}
theorem u_lit {e:List Nat} (F0:v4 (.str t) (.int i)=some (.str [c])) (c1:c≠42) (c2:c≠63) (c3:c≠91) (hz:res.length<small) (he:Γ (.ref 62) [.str [c]]=some (.str e)) (I:TI t a res i n σ) :
  ∃ σ',y7 Γ 0 tb σ=some (.next,σ')∧TI t a (res ++ [.str e]) (i + 1) n σ':=by
 refine z6 fun K0=>?_
 obtain ⟨z,s0,s1,s2,s3,s4,s5,s6⟩:=I;refine K0 ?_;clear K0;have h:y7 Γ 0 tb σ=some (.next,(z7 (z7 σ 7 (.val (.str [c]))) 5 (.val (.int (i + 1)))).set 3 (.own (res ++ [.str e]))):=by
  unfold tb;walk_at "ev"
 refine ⟨_,h,?_⟩
 constructor <;> walk_at "slot"
theorem u_q (F0:v4 (.str t) (.int i)=some (.str [63])) (hz:res.length<small) (I:TI t a res i n σ) :
  ∃ σ',y7 Γ 0 tb σ=some (.next,σ')∧TI t a (res ++ [.str [46]]) (i + 1) n σ':=by
 refine z6 fun K0=>?_
 obtain ⟨z,s0,s1,s2,s3,s4,s5,s6⟩:=I;refine K0 ?_;clear K0;have h:y7 Γ 0 tb σ=some (.next,(z7 (z7 σ 7 (.val (.str [63]))) 5 (.val (.int (i + 1)))).set 3 (.own (res ++ [.str [46]]))):=by
  (unfold tb;walk_at "ev")
 refine ⟨_,h,?_⟩
 constructor <;> walk_at "slot"
theorem u_star (F0:v4 (.str t) (.int i)=some (.str [42])) (hz:res.length<small) (hr:res=[]∨∃ x,v4 (.list res) (.int (-1))=some (.str x)) (I:TI t a res i n σ) :
  ∃ σ',y7 Γ 0 tb σ=some (.next,σ')∧TI t a (res ++ [.ob a]) (i + 1) n σ':=by
 refine z6 fun K0=>?_
 obtain ⟨z,s0,s1,s2,s3,s4,s5,s6⟩:=I;refine K0 ?_;clear K0;have h:y7 Γ 0 tb σ=some (.next,(z7 (z7 σ 7 (.val (.str [42]))) 5 (.val (.int (i + 1)))).set 3 (.own (res ++ [.ob a]))):=by
  rcases hr with rfl | ⟨x,hr⟩
  ·unfold tb;walk_at "ev"
  ·by_cases hn:res=[]
   ·subst hn;exact w9 hr
   ·have hE:res.isEmpty=false:=List.isEmpty_eq_false_iff.mpr hn;unfold tb;walk_at "ev"
 refine ⟨_,h,?_⟩
 constructor <;> walk_at "slot"
theorem c_one {c:Nat} (F1:v4 (.str t) (.int (i + 1))=some (.str [c])) (F2:v4 (.str t) (.int (i + 1 + 1))=some (.str [93])) (c1:c≠33) (c2:c≠93) (hn:i + 1 + 1<n) (I:TI t a res (i + 1) n σ) :
  ∃ σ',y7 Γ 0 tC σ=y7 Γ 0 (tE1 ++ tE2) σ'∧TI t a res (i + 1) n σ'∧gt σ' 8=some (.val (.int (i + 1 + 1))):=by
 refine z6 fun K0=>?_
 obtain ⟨z,s0,s1,s2,s3,s4,s5,s6⟩:=I;refine K0 ?_;clear K0;have hn':i + 1<n:=by lia
 have h1:y7 Γ 0 tCi σ=some (.next,z7 σ 8 (.val (.int (i + 1)))):=by
  (unfold tCi;walk_at "ev")
 have h2:w8 Γ 0 (.whl tCw tCb) (z7 σ 8 (.val (.int (i + 1))))=some (.next,z7 (z7 σ 8 (.val (.int (i + 1)))) 8 (.val (.int (i + 1 + 1)))):=by
  rw [whl_eq];refine (wl_go (n:=99999) ?_ ?_).trans (W1 (n:=99998) ?_)
  ·(unfold tCw;walk_at "ev")
  ·(unfold tCb;walk_at "ev")
  ·(unfold tCw;walk_at "ev")
 rw [tC,W8 h1,u9 h2];refine ⟨z7 (z7 σ 8 (.val (.int (i + 1)))) 8 (.val (.int (i + 1 + 1))),?_,?_,?_⟩
 ·have hge:¬ n≤i + 1 + 1:=by lia
  exact V2 (by walk_at "ev")
 ·constructor <;> walk_at "slot"
 ·walk_at "slot"
theorem c_neg {p:Nat} (F1:v4 (.str t) (.int (i + 1))=some (.str [33])) (F2:v4 (.str t) (.int (i + 1 + 1))=some (.str [p])) (F3:v4 (.str t) (.int (i + 1 + 1 + 1))=some (.str [93])) (hn:i + 1 + 1 + 1<n) (I:TI t a res (i + 1) n σ) :
  ∃ σ',y7 Γ 0 tC σ=y7 Γ 0 (tE1 ++ tE2) σ'∧TI t a res (i + 1) n σ'∧gt σ' 8=some (.val (.int (i + 1 + 1 + 1))):=by
 refine z6 fun K0=>?_
 obtain ⟨z,s0,s1,s2,s3,s4,s5,s6⟩:=I;have hn1:i + 1<n:=by omega
 have hn2:i + 1 + 1<n:=by omega
 have key:∃ σ1,y7 Γ 0 tCi σ=some (.next,σ1)∧∃ σ2,w8 Γ 0 (.whl tCw tCb) σ1=some (.next,σ2)∧TI t a res (i + 1) n σ2∧gt σ2 8=some (.val (.int (i + 1 + 1 + 1))):=by
  by_cases hp:p=93
  ·subst hp;have h1:y7 Γ 0 tCi σ=some (.next,z7 (z7 (z7 σ 8 (.val (.int (i + 1)))) 8 (.val (.int (i + 1 + 1)))) 8 (.val (.int (i + 1 + 1 + 1)))):=by
    (unfold tCi;walk_at "ev")
   refine ⟨_,h1,_,by
    rw [whl_eq];refine W1 (n:=99999) ?_
    (unfold tCw;walk_at "ev"),?_,?_⟩
   ·constructor <;> walk_at "slot"
   ·walk_at "slot"
  ·have h1:y7 Γ 0 tCi σ=some (.next,z7 (z7 σ 8 (.val (.int (i + 1)))) 8 (.val (.int (i + 1 + 1)))):=by
    (unfold tCi;walk_at "ev")
   have h2:w8 Γ 0 (.whl tCw tCb) (z7 (z7 σ 8 (.val (.int (i + 1)))) 8 (.val (.int (i + 1 + 1))))=some (.next,z7 (z7 (z7 σ 8 (.val (.int (i + 1)))) 8 (.val (.int (i + 1 + 1)))) 8 (.val (.int (i + 1 + 1 + 1)))):=by
    rw [whl_eq];refine (wl_go (n:=99999) ?_ ?_).trans (W1 (n:=99998) ?_)
    ·(unfold tCw;walk_at "ev")
    ·(unfold tCb;walk_at "ev")
    ·(unfold tCw;walk_at "ev")
   refine ⟨_,h1,_,h2,?_,?_⟩
   ·constructor <;> walk_at "slot"
   ·walk_at "slot"
 refine x12 key fun σ1 h1 o0=>?_;refine x13 o0 fun σ2 h2 I2 h8=>?_
 refine K0 ?_;clear K0;rw [tC,W8 h1,u9 h2];refine ⟨σ2,?_,I2,h8⟩;refine z6 fun K0=>?_
 obtain ⟨z,s0,s1,s2,s3,s4,s5,s6⟩:=I2;refine K0 ?_;clear K0;have hge:¬ n≤i + 1 + 1 + 1:=by omega
 exact V2 (by walk_at "ev")
theorem e1_plain {e:Int} {w w':List Nat} (I:TI t a res i n σ) (s8:gt σ 8=some (.val (.int e))) (hs:n8 (.str t) (.int i) (.int e)=some (.str w)) (hd:45 ∉ w) (hl:w.length≤65536) (hr:i3 92 [92,92] w=w') (hl':w'.length≤small) :
  ∃ σ',y7 Γ 0 (tE1 ++ tE2) σ=y7 Γ 0 tE2 σ'∧TI t a res i n σ'∧gt σ' 8=some (.val (.int e))∧gt σ' 9=some (.val (.str w')):=by
 refine z6 fun K0=>?_
 obtain ⟨z,s0,s1,s2,s3,s4,s5,s6⟩:=I;refine K0 ?_;clear K0;have h1:y7 Γ 0 tE1 σ=some (.next,z7 (z7 σ 9 (.val (.str w))) 9 (.val (.str w'))):=by
  have hne:([92]:List Nat)≠[92,92]:=by decide
  unfold tE1;walk_at "ev"
 refine ⟨_,W8 h1,?_,?_,?_⟩
 ·constructor <;> walk_at "slot"
 ·walk_at "slot"
 ·walk_at "slot"
theorem e1_dash {e:Int} (I:TI t a res i n σ) (s8:gt σ 8=some (.val (.int e))) (hs:n8 (.str t) (.int i) (.int e)=some (.str [33,45])) (F1:v4 (.str t) (.int i)=some (.str [33])) (hf:n9 "find" (.str t) [.str [45],.int (i + 2),.int e]=some (.int (-1))) :
  ∃ σ',y7 Γ 0 (tE1 ++ tE2) σ=y7 Γ 0 tE2 σ'∧TI t a res i n σ'∧gt σ' 8=some (.val (.int e))∧gt σ' 9=some (.val (.str [33,92,45])):=by
 refine z6 fun K0=>?_
 obtain ⟨z,s0,s1,s2,s3,s4,s5,s6⟩:=I;have h0:y7 Γ 0 tE1 σ=y7 Γ 0 [.ite (.cmp .NotIn (.lit (.str [45])) (.var 9)) [.assign 9 (.repl (.var 9) 92 [92,92])] tD] (z7 σ 9 (.val (.str [33,45]))):=by
  refine u9 ?_
  walk_at "ev"
 have hD1:y7 Γ 0 tD1 (z7 σ 9 (.val (.str [33,45])))=some (.next,z7 (z7 (z7 σ 9 (.val (.str [33,45]))) 10 (.own [])) 11 (.val (.int (i + 2)))):=by
  (unfold tD1;walk_at "ev")
 have hD2:w8 Γ 0 (.whl (.lit (.bool true)) tD2) (z7 (z7 (z7 σ 9 (.val (.str [33,45]))) 10 (.own [])) 11 (.val (.int (i + 2))))=some (.next,z7 (z7 (z7 (z7 σ 9 (.val (.str [33,45]))) 10 (.own [])) 11 (.val (.int (i + 2)))) 11 (.val (.int (-1)))):=by
  rw [whl_eq];refine wl_brk (n:=99999) rfl ?_
  ·(unfold tD2;walk_at "ev")
 have hD3:∃ σ',y7 Γ 0 tD3 (z7 (z7 (z7 (z7 σ 9 (.val (.str [33,45]))) 10 (.own [])) 11 (.val (.int (i + 2)))) 11 (.val (.int (-1))))=some (.next,σ')∧TI t a res i n σ'∧gt σ' 8=some (.val (.int e))∧gt σ' 9=some (.val (.str [33,92,45])):=by
  refine ⟨z7 ((z7 (z7 (z7 (z7 (z7 σ 9 (.val (.str [33,45]))) 10 (.own [])) 11 (.val (.int (i + 2)))) 11 (.val (.int (-1)))) 12 (.val (.str [33,45]))).set 10 (.own [.str [33,45]])) 9 (.val (.str [33,92,45])),?_,?_,?_,?_⟩
  ·have hs0:([]:List PV).length<small:=by decide
   apply m9
   ·walk_at "ev"
   apply m9
   ·apply s_t
    ·apply t_var
     ·walk_at "slot"
     ·exact rfl
    ·walk_at "ev"
   apply m9
   ·refine s_down (p:=0) (q:=0) (Y7 (e_len (x := .list ([] ++ [.str [33,45]])) (v := .int 1) ?_ rfl) (by walk_at "ev") rfl) (by walk_at "ev") (by decide)
    walk_at "ev"
   walk_at "ev"
  ·constructor <;> walk_at "slot"
  ·walk_at "slot"
  ·walk_at "slot"
 refine x14 hD3 fun σ' h3 I' g8 g9=>?_
 refine K0 ?_;clear K0;have h1:y7 Γ 0 tE1 σ=some (.next,σ'):=by
  rw [h0,V2 (by walk_at "ev")];rw [tD,W8 hD1,u9 hD2,h3]
 exact ⟨σ',W8 h1,I',g8,g9⟩
theorem e2_neg {e:Int} {w m:List Nat} (I:TI t a res i n σ) (s8:gt σ 8=some (.val (.int e))) (s9:gt σ 9=some (.val (.str w))) (hw:w∈R1∨w∈U7) (hr:T5 w=33::m) (hm:m≠[]) (hml:m.length≤60) (hz:res.length<small) :
  ∃ σ',y7 Γ 0 tE2 σ=some (.next,σ')∧TI t a (res ++ [.str (91::94::(m ++ [93]))]) (e + 1) n σ':=by
 refine z6 fun K0=>?_
 obtain ⟨z,s0,s1,s2,s3,s4,s5,s6⟩:=I;refine K0 ?_;clear K0;have f1:v4 (.str (33::m)) (.int 0)=some (.str [33]):=idx_str (k:=0) (O4 (Nat.succ_pos _)) rfl;have f2:n8 (.str (33::m)) (.int 1) .nul=some (.str m):=by
  show (slcL (33::m) (.int 1) .nul).map _=_;simp [slcL,bound_int,bound_nul,i6,cut]
 have f3:l4 .Add (.str [94]) (.str m)=some (.str (94::m)):=S6 (by show 1 + m.length≤1048576;lia);have f4:W9 [.str [91],.str (94::m),.str [93]]=some (.str (91::94::(m ++ [93]))) :=
  fstr3 rfl (by rw [List.length_cons,List.length_cons,List.length_append];show m.length + 1 + 1 + 1≤1048576;lia)
 have f5:S8 (.str w)=some (.str (33::m)):=(if_pos hw).trans (by rw [hr]);have f6:33::m≠[33]:=fun q=>hm (List.cons.inj q).2
 refine ⟨(z7 (z7 (z7 σ 9 (.val (.str (33::m)))) 5 (.val (.int (e + 1)))) 9 (.val (.str (94::m)))).set 3 (.own (res ++ [.str (91::94::(m ++ [93]))])),?_,?_⟩
 ·unfold tE2;walk_at "ev"
 ·constructor <;> walk_at "slot"
theorem e2_one {e:Int} {c:Nat} (I:TI t a res i n σ) (s8:gt σ 8=some (.val (.int e))) (s9:gt σ 9=some (.val (.str [c]))) (hc:c=42∨c=63∨c=91) (hz:res.length<small) :
  ∃ σ',y7 Γ 0 tE2 σ=some (.next,σ')∧TI t a (res ++ [.str (91::((if c=91 then [92,91] else [c]) ++ [93]))]) (e + 1) n σ':=by
 refine z6 fun K0=>?_
 obtain ⟨z,s0,s1,s2,s3,s4,s5,s6⟩:=I;refine K0 ?_;clear K0;have hz':res.length<1048576:=hz;rcases hc with rfl | rfl | rfl
 ·refine ⟨(z7 (z7 σ 9 (.val (.str [42]))) 5 (.val (.int (e + 1)))).set 3 (.own (res ++ [.str [91,42,93]])),?_,?_⟩
  ·have h1:u7 .In (.str [42]) (.tup [.str [94],.str [91]])=some false:=show b5 (.str [42]) [.str [94],.str [91]]=some false by decide +kernel
   have f1:S8 (.str [42])=some (.str [42]):=rfl;have f2:v4 (.str [42]) (.int 0)=some (.str [42]):=rfl;have f3:W9 [.str [91],.str [42],.str [93]]=some (.str [91,42,93]):=rfl;unfold tE2;walk_at "ev"
  ·constructor <;> first | walk_at "slot" | simp [gS,gL,lS,lL,fg, *]
 ·refine ⟨(z7 (z7 σ 9 (.val (.str [63]))) 5 (.val (.int (e + 1)))).set 3 (.own (res ++ [.str [91,63,93]])),?_,?_⟩
  ·have h1:u7 .In (.str [63]) (.tup [.str [94],.str [91]])=some false:=show b5 (.str [63]) [.str [94],.str [91]]=some false by decide +kernel
   have f1:S8 (.str [63])=some (.str [63]):=rfl;have f2:v4 (.str [63]) (.int 0)=some (.str [63]):=rfl;have f3:W9 [.str [91],.str [63],.str [93]]=some (.str [91,63,93]):=rfl;unfold tE2;walk_at "ev"
  ·constructor <;> first | walk_at "slot" | simp [gS,gL,lS,lL,fg, *]
 ·refine ⟨(z7 (z7 (z7 σ 9 (.val (.str [91]))) 5 (.val (.int (e + 1)))) 9 (.val (.str [92,91]))).set 3 (.own (res ++ [.str [91,92,91,93]])),?_,?_⟩
  ·have h1:u7 .In (.str [91]) (.tup [.str [94],.str [91]])=some true:=show b5 (.str [91]) [.str [94],.str [91]]=some true by decide +kernel
   have f1:S8 (.str [91])=some (.str [91]):=rfl;have f2:v4 (.str [91]) (.int 0)=some (.str [91]):=rfl;have f3:W9 [.str [91],.str [92,91],.str [93]]=some (.str [91,92,91,93]):=rfl;have f4:l4 .Add (.str [92]) (.str [91])=some (.str [92,91]):=rfl;unfold tE2;walk_at "ev"
  ·constructor <;> first | walk_at "slot" | simp [gS,gL,lS,lL,fg, *]
theorem tb_brk (F0:v4 (.str t) (.int i)=some (.str [91])) (I:TI t a res i n σ) :
  ∃ σ',y7 Γ 0 tb σ=y7 Γ 0 tC σ'∧TI t a res (i + 1) n σ':=by
 refine z6 fun K0=>?_
 obtain ⟨z,s0,s1,s2,s3,s4,s5,s6⟩:=I;refine K0 ?_;clear K0;refine ⟨z7 (z7 σ 7 (.val (.str [91]))) 5 (.val (.int (i + 1))),?_,?_⟩
 ·have e1:w8 Γ 0 (.assign 7 (.idx (.var 0) (.var 5))) σ=some (.next,z7 σ 7 (.val (.str [91]))):=by walk_at "ev"
  have e2:w8 Γ 0 (.assign 5 (.bin .Add (.var 5) (.lit (.int 1)))) (z7 σ 7 (.val (.str [91])))=some (.next,z7 (z7 σ 7 (.val (.str [91]))) 5 (.val (.int (i + 1)))):=by walk_at "ev"
  rw [tb,u9 e1,u9 e2];generalize hσ:z7 (z7 σ 7 (.val (.str [91]))) 5 (.val (.int (i + 1)))=σ2;have g7:gt σ2 7=some (.val (.str [91])):=by rw [← hσ];simp [gS,gL,lS,lL,fg,z]
  have c1:y8 (z8 Γ (.cmp .Eq (.var 7) (.lit (.str [42]))) .test σ2)=some false:=by walk_at "ev"
  have c2:y8 (z8 Γ (.cmp .Eq (.var 7) (.lit (.str [63]))) .test σ2)=some false:=by walk_at "ev"
  have c3:y8 (z8 Γ (.cmp .Eq (.var 7) (.lit (.str [91]))) .test σ2)=some true:=by walk_at "ev"
  rw [V2 c1,V2 c2,ite_t c3]
 ·constructor <;> walk_at "slot"
theorem u_brk {c:Nat} (hc:c=42∨c=63∨c=91) (F0:v4 (.str t) (.int i)=some (.str [91])) (F1:v4 (.str t) (.int (i + 1))=some (.str [c])) (F2:v4 (.str t) (.int (i + 1 + 1))=some (.str [93])) (hn:i + 1 + 1<n)
  (hs:n8 (.str t) (.int (i + 1)) (.int (i + 1 + 1))=some (.str [c])) (hz:res.length<small) (I:TI t a res i n σ) :
  ∃ σ',y7 Γ 0 tb σ=some (.next,σ')∧TI t a (res ++ [.str (91::((if c=91 then [92,91] else [c]) ++ [93]))]) (i + 3) n σ':=by
 refine z6 fun K0=>?_
 refine x12 (tb_brk (Γ:=Γ) F0 I :) fun σ1 e1 I1=>?_
 refine x13 (c_one (Γ:=Γ) F1 F2 (by lia) (by lia) hn I1 :) fun σ2 e2 I2 g8=>?_
 refine x14 (e1_plain (Γ:=Γ) I2 g8 hs (by simp;lia) (by simp) (w':=[c]) (by rcases hc with rfl | rfl | rfl <;> rfl) (by simp [small]) :) fun σ3 e3 I3 g8' g9=>?_
 refine x12 (e2_one (Γ:=Γ) I3 g8' g9 hc hz :) fun σ4 e4 I4=>?_
 refine K0 ?_;clear K0;refine ⟨σ4,by rw [e1,e2,e3,e4],?_⟩;have:i + 1 + 1 + 1=i + 3:=by lia
 rw [this] at I4;exact I4
noncomputable def negT (p:Nat):List Nat:=if p=92∨p=45∨p=38∨p=126∨p=124 then [92,p] else [p]
noncomputable def signs:List Nat:=[97,98,42,63,91,93,33,45,94,92,38,126,124,32,36,43]
theorem u_neg {p:Nat} (hp:p∈signs) (F0:v4 (.str t) (.int i)=some (.str [91])) (F1:v4 (.str t) (.int (i + 1))=some (.str [33])) (F2:v4 (.str t) (.int (i + 1 + 1))=some (.str [p])) (F3:v4 (.str t) (.int (i + 1 + 1 + 1))=some (.str [93])) (hn:i + 1 + 1 + 1<n)
  (hs:n8 (.str t) (.int (i + 1)) (.int (i + 1 + 1 + 1))=some (.str [33,p])) (hf:n9 "find" (.str t) [.str [45],.int (i + 1 + 2),.int (i + 1 + 1 + 1)]=some (.int (-1))) (hz:res.length<small) (I:TI t a res i n σ) :
  ∃ σ',y7 Γ 0 tb σ=some (.next,σ')∧TI t a (res ++ [.str (91::94::(negT p ++ [93]))]) (i + 4) n σ':=by
 refine z6 fun K0=>?_
 refine x12 (tb_brk (Γ:=Γ) F0 I :) fun σ1 e1 I1=>?_
 refine x13 (c_neg (Γ:=Γ) F1 F2 F3 hn I1 :) fun σ2 e2 I2 g8=>?_
 refine K0 ?_;clear K0;have fin4:i + 1 + 1 + 1 + 1=i + 4:=by lia
 by_cases h45:p=45
 ·refine z6 fun K0=>?_
  subst h45;refine x14 (e1_dash (Γ:=Γ) I2 g8 hs F1 hf :) fun σ3 e3 I3 g8' g9=>?_
  refine x12 (e2_neg (Γ:=Γ) (m:=[92,45]) I3 g8' g9 (.inl (by simp [R1])) (by simp [T5]) (by decide) (by decide) hz :) fun σ4 e4 I4=>?_
  refine K0 ?_;clear K0;rw [fin4] at I4;exact ⟨σ4,by rw [e1,e2,e3,e4],I4⟩
 ·refine z6 fun K0=>?_
  obtain ⟨σ3,e3,I3,g8',g9⟩:=e1_plain (Γ:=Γ) I2 g8 hs (by simp;lia) (by simp) (w':=i3 92 [92,92] [33,p]) rfl (by simp [i3,small];split <;> simp)
  have hfin:(i3 92 [92,92] [33,p]∈R1∨i3 92 [92,92] [33,p]∈U7)∧T5 (i3 92 [92,92] [33,p])=33::negT p:=by
   have:∀ p∈signs,p≠45→(i3 92 [92,92] [33,p]∈R1∨i3 92 [92,92] [33,p]∈U7)∧T5 (i3 92 [92,92] [33,p])=33::negT p:=by decide +kernel
   exact this p hp h45
  refine x12 (e2_neg (Γ:=Γ) (m:=negT p) I3 g8' g9 hfin.1 hfin.2 (by unfold negT;split <;> simp) (by unfold negT;split <;> simp) hz :) fun σ4 e4 I4=>?_
  refine K0 ?_;clear K0;rw [fin4] at I4;exact ⟨σ4,by rw [e1,e2,e3,e4],I4⟩
end
theorem P6 {t:List Nat} {j c:Nat} {x:Int} (h:t[j]?=some c) (hx:x=(j:Int)):v4 (.str t) (.int x)=some (.str [c]):=by
 subst hx;exact idx_str (O4 (List.getElem?_eq_some_iff.mp h).1) h
theorem norm_last {n:Nat} : b8 (n + 1) (-1)=some n:=by
 unfold b8;rw [if_neg (by decide),if_pos (by lia)];congr 1;lia
theorem idx_last {xs:List PV} {v:PV} : v4 (.list (xs ++ [v])) (.int (-1))=some v :=
 M5 (by rw [List.length_append];exact norm_last) (by rw [List.getElem?_append_right (Nat.le_refl _),Nat.sub_self];rfl)
theorem R7 {n m:Nat} (hm:m≤n):i6 n (m:Int)=m:=by
 unfold i6;rw [if_neg (Int.not_lt.mpr (Int.natCast_nonneg m))];exact Nat.min_eq_left hm
theorem slc_nat {t w:List Nat} {j k:Nat} {x y:Int} (hx:x=(j:Int)) (hy:y=(k:Int)) (hj:j≤t.length) (hk:k≤t.length) (h:cut t j k=w):n8 (.str t) (.int x) (.int y)=some (.str w):=by
 subst hx hy h;show some (PV.str (cut t (i6 t.length j) (i6 t.length k)))=_;rw [R7 hj,R7 hk]
theorem cut_drop {α:Type} (l:List α) (m:Nat):cut l m l.length=l.drop m:=by unfold cut;rw [List.take_length]
theorem G9 {l:List PV} {m:Nat} {y:Int} (hy:y=(m:Int)) (h:m≤l.length):n8 (.list l) .nul (.int y)=some (.list (l.take m)):=by
 subst hy;show some (PV.list (cut l 0 (i6 l.length m)))=_;rw [R7 h];rfl
theorem K8 {l:List PV} {m:Nat} {y:Int} (hy:y=(m:Int)) (h:m≤l.length):n8 (.list l) (.int y) .nul=some (.list (l.drop m)):=by
 subst hy;show some (PV.list (cut l (i6 l.length m) l.length))=_;rw [R7 h,cut_drop]
theorem cut_app {pre r:List Nat} {j k:Nat} : cut (pre ++ r) (pre.length + j) (pre.length + k)=cut r j k:=by
 unfold cut;rw [List.take_length_add_append,List.drop_length_add_append]
theorem get_app {pre r:List Nat} {j:Nat} : (pre ++ r)[pre.length + j]?=r[j]?:=by
 rw [List.getElem?_append_right (by lia)];congr 1;lia
theorem find_none {t:List Nat} {x y:Int} (h0:0≤x) (h1:x=y) (h2:y≤(t.length:Int)):n9 "find" (.str t) [.str [45],.int x,.int y]=some (.int (-1)):=by
 subst h1;have e:n9 "find" (.str t) [.str [45],.int x,.int x]=if 45<128∧0≤x∧x=x∧x≤(t.length:Int) then some (.int (-1)) else none:=rfl;rw [e,if_pos ⟨by decide,h0,rfl,h2⟩]
inductive U where
 | lit (c:Nat) | brk (c:Nat) | q | neg (p:Nat) | star
noncomputable def okU:U→Prop
 | .lit c=>c<128∧c≠42∧c≠63∧c≠91
 | .brk c=>c=42∨c=63∨c=91
 | .neg p=>p∈signs
 | _=>True
noncomputable def v5:U→List Nat
 | .lit c=>[c] | .brk c=>[91,c,93] | .q=>[63] | .neg p=>[91,33,p,93] | .star=>[42]
noncomputable def u8:U→List Nat
 | .lit c=>escC c | .brk c=>91::((if c=91 then [92,91] else [c]) ++ [93]) | .q=>[46] | .neg p=>91::94::(negT p ++ [93]) | .star=>[46,42]
noncomputable def prt (a:Addr):U→PV
 | .star => .ob a
 | u => .str (u8 u)
noncomputable def Z6:Bool→List U→Bool
 | _,[]=>true
 | b,.star::r => !b && Z6 true r
 | _,_::r=>Z6 false r
noncomputable def m0:U→Bool
 | .star=>true
 | _=>false
section
variable {Γ:y9} {t pre post:List Nat} {a:Addr} {res:List PV} {σ:z9}
theorem unit_step {u:U} (hu:okU u) (ht:t=pre ++ (v5 u ++ post)) (hstar:m0 u=true→res=[]∨∃ x,v4 (.list res) (.int (-1))=some (.str x)) (hz:res.length<small)
  (he:∀ c,c<128→Γ (.ref 62) [.str [c]]=some (.str (escC c))) (I:TI t a res (pre.length:Int) (t.length:Int) σ) :
  ∃ σ',y7 Γ 0 tb σ=some (.next,σ')∧TI t a (res ++ [prt a u]) ((pre ++ v5 u).length:Int) (t.length:Int) σ':=by
 have at0:∀ j c,(v5 u ++ post)[j]?=some c→∀ x:Int,x=((pre.length + j:Nat):Int)→v4 (.str t) (.int x)=some (.str [c]):=fun j c h x hx =>
  P6 (j:=pre.length + j) (by rw [ht,get_app];exact h) hx
 have hlen:t.length=pre.length + ((v5 u).length + post.length):=by rw [ht];simp
 have sl:∀ j k w,cut (v5 u ++ post) j k=w→j≤(v5 u).length→k≤(v5 u).length→∀ x y:Int,x=((pre.length + j:Nat):Int)→y=((pre.length + k:Nat):Int)→n8 (.str t) (.int x) (.int y)=some (.str w):=fun j k w h hj hk x y hx hy =>
  slc_nat hx hy (by lia) (by lia) (by rw [ht,cut_app];exact h)
 induction u with
 | lit c =>
  refine z6 fun K0=>?_
  refine x04 hu fun h1 h2 h3 h4=>?_
  refine x12 (u_lit (Γ:=Γ) (at0 0 c rfl _ (by simp)) h2 h3 h4 hz (he c h1) I :) fun σ' e I'=>?_
  refine K0 ?_
  clear K0
  refine ⟨σ',e,?_⟩
  simpa [v5,prt,u8] using I'
 | q =>
  refine z6 fun K0=>?_
  refine x12 (u_q (Γ:=Γ) (at0 0 63 rfl _ (by simp)) hz I :) fun σ' e I'=>?_
  refine K0 ?_
  clear K0
  refine ⟨σ',e,?_⟩
  simpa [v5,prt,u8] using I'
 | star =>
  refine z6 fun K0=>?_
  refine x12 (u_star (Γ:=Γ) (at0 0 42 rfl _ (by simp)) hz (hstar rfl) I :) fun σ' e I'=>?_
  refine K0 ?_
  clear K0
  refine ⟨σ',e,?_⟩
  simpa [v5,prt,u8] using I'
 | brk c =>
  refine z6 fun K0=>?_
  refine x12 (u_brk (Γ:=Γ) (c:=c) hu (at0 0 91 rfl _ (by simp)) (at0 1 c rfl _ (by simp)) (at0 2 93 rfl _ (by simp;lia)) (by simp [v5] at hlen;lia) (sl 1 2 [c] rfl (by simp [v5]) (by simp [v5]) _ _ (by simp) (by simp;lia)) hz I :) fun σ' e I'=>?_
  refine K0 ?_
  clear K0
  refine ⟨σ',e,?_⟩
  simpa [v5,prt,u8] using I'
 | neg p =>
  refine z6 fun K0=>?_
  obtain ⟨σ',e,I'⟩:=u_neg (Γ:=Γ) (p:=p) hu (at0 0 91 rfl _ (by simp)) (at0 1 33 rfl _ (by simp)) (at0 2 p rfl _ (by simp;lia)) (at0 3 93 rfl _ (by simp;lia)) (by simp [v5] at hlen;lia) (sl 1 3 [33,p] rfl (by simp [v5]) (by simp [v5]) _ _ (by simp) (by simp;lia))
   (find_none (by lia) (by lia) (by simp [v5] at hlen;lia)) hz I
  refine K0 ?_
  clear K0
  refine ⟨σ',e,?_⟩
  simpa [v5,prt,u8] using I'
theorem tc_ev {i n:Int} (I:TI t a res i n σ):y8 (z8 Γ tc .test σ)=some (decide (i<n)):=by
 refine z6 fun K0=>?_
 obtain ⟨z,s0,s1,s2,s3,s4,s5,s6⟩:=I;refine K0 ?_;clear K0
 ((try unfold tc);walk_at "ev")
theorem txt_pos (u:U):0<(v5 u).length:=by cases u <;> simp [v5]
theorem units_run (he:∀ c,c<128→Γ (.ref 62) [.str [c]]=some (.str (escC c))):∀ (us:List U) (pre:List Nat) (res:List PV) (σ:z9) (b:Bool) (m:Nat),(∀ u∈us,okU u)→Z6 b us=true→(b=false→res=[]∨∃ x,v4 (.list res) (.int (-1))=some (.str x)) →
  t=pre ++ us.flatMap v5→res.length + us.length≤small→TI t a res (pre.length:Int) (t.length:Int) σ →
  ∃ σ',b7 (fun σ=>y8 (z8 Γ tc .test σ)) (y7 Γ 0 tb) (us.length + 1 + m) σ=some (.next,σ')∧TI t a (res ++ us.map (prt a)) (t.length:Int) (t.length:Int) σ'
 | [],pre,res,σ,b,m,_,_,_,ht,_,I=>by
  have hl:pre.length=t.length:=by rw [ht];simp
  rw [hl] at I;refine ⟨σ,?_,by simpa using I⟩;rw [show ([]:List U).length + 1 + m=m + 1 by simp;lia];exact W1 ((tc_ev I).trans (by simp))
 | u::us,pre,res,σ,b,m,hok,hst,hb,ht,hz,I=>by
  have hu:okU u:=hok u (List.mem_cons_self ..);have ht':t=pre ++ (v5 u ++ us.flatMap v5):=by rw [ht];simp
  refine x12 (unit_step (Γ:=Γ) hu ht' (fun q=>hb (by cases u <;> simp [m0] at q;simp [Z6] at hst;exact hst.1)) (by simp at hz;lia) he I :) fun σ1 e1 I1=>?_
  have hst':Z6 (m0 u) us=true:=by cases u <;> simp [Z6] at hst <;> first | exact hst | exact hst.2
  obtain ⟨σ2,e2,I2⟩:=units_run he us (pre ++ v5 u) (res ++ [prt a u]) σ1 (m0 u) m (fun v hv=>hok v (List.mem_cons_of_mem _ hv)) hst'
   (fun q => .inr (by cases u <;> first | exact ⟨_,idx_last⟩ | cases q)) (by rw [ht',List.append_assoc]) (by simp at hz ⊢;lia) I1
  refine ⟨σ2,?_,by simpa using I2⟩;have hp:=txt_pos u;have hlt:(pre.length:Int)<(t.length:Int):=by rw [ht'];simp;lia
  have hc:y8 (z8 Γ tc .test σ)=some true:=(tc_ev I).trans (by simp [hlt]);rw [show (u::us).length + 1 + m=(us.length + 1 + m) + 1 by simp;lia,wl_go hc e1];exact e2
theorem g62 {k c:Nat} (h:c<128):gam (k + 1) (.ref 62) [.str [c]]=some (.str (escC c)):=by
 rw [d8 (by decide) (by decide) (by rfl) rfl];have e:n9 "translate" (.str [c]) [.fn (.ref 52)]=some (.str (escC c)):=by
  rw [show n9 "translate" (.str [c]) [.fn (.ref 52)]=if 52=52∧c<128 then some (.str (escC c)) else none from rfl,if_pos ⟨rfl,h⟩]
 exact i8 (show y7 (gam k) 0 b62 _=_ by unfold b62;walk_at "ev")
theorem g69 {k:Nat} {us:List U} (hok:∀ u∈us,okU u) (hst:Z6 false us=true) (hl:us.length≤64) :
  gam (k + 2) (.ref 69) [.str (us.flatMap v5),.ob a,.str [46]]=some (.list (us.map (prt a))):=by
 rw [d8 (by decide) (by decide) (by rfl) rfl];generalize ht:us.flatMap v5=t;refine evF_ex ?_;rw [b69];generalize hσ:(List.map Slot.val [PV.str t,PV.ob a,PV.str [46]] ++ List.replicate (13 - [PV.str t,PV.ob a,PV.str [46]].length) Slot.unset)=σ0;have e1:w8 (gam (k + 1)) 0 (.own 3) σ0=some (.next,z7 σ0 3 (.own [])):=rfl;have z:ln σ0=13:=by rw [← hσ];rfl
 have s0:gt σ0 0=some (.val (.str t)):=by rw [← hσ];rfl
 have s1:gt σ0 1=some (.val (.ob a)):=by rw [← hσ];rfl
 have s2:gt σ0 2=some (.val (.str [46])):=by rw [← hσ];rfl
 clear hσ;have e2:w8 (gam (k + 1)) 0 (.app 4 3) (z7 σ0 3 (.own []))=some (.next,z7 (z7 σ0 3 (.own [])) 4 (.app 3)):=by walk_at "ev"
 have e3:w8 (gam (k + 1)) 0 (.tup2 5 6 (.lit (.int 0)) (.len (.var 0))) (z7 (z7 σ0 3 (.own [])) 4 (.app 3))=some (.next,z7 (z7 (z7 (z7 σ0 3 (.own [])) 4 (.app 3)) 5 (.val (.int 0))) 6 (.val (.int (t.length:Int)))):=by walk_at "ev"
 have I:TI t a [] (([]:List Nat).length:Int) (t.length:Int) (z7 (z7 (z7 (z7 σ0 3 (.own [])) 4 (.app 3)) 5 (.val (.int 0))) 6 (.val (.int (t.length:Int)))):=by
  constructor <;> (first | walk_at "slot" | simp [gS,gL,lS,lL,fg, *])
 refine z6 fun K0=>?_
 refine x12 (units_run (Γ:=gam (k + 1)) (fun c hc=>g62 hc) us [] [] _ false (j4 - (us.length + 1)) hok hst (fun _ => .inl rfl) (by rw [← ht];rfl) (by unfold small;simp;lia) I :) fun σ' e4 I'=>?_
 refine K0 ?_;clear K0;rw [show us.length + 1 + (j4 - (us.length + 1))=j4 by unfold j4;lia] at e4;have e4':w8 (gam (k + 1)) 0 (.whl tc tb) (z7 (z7 (z7 (z7 σ0 3 (.own [])) 4 (.app 3)) 5 (.val (.int 0))) 6 (.val (.int (t.length:Int))))=some (.next,σ'):=e4;rw [u9 e1,u9 e2,u9 e3,u9 e4'];refine z6 fun K0=>?_
 obtain ⟨z,s0,s1,s2,s3,s4,s5,s6⟩:=I';refine K0 ?_;clear K0;rw [List.nil_append] at s3;exact ⟨_,by walk_at "ev"⟩
end
structure JI (ps:List PV) (a:Addr) (res:List PV) (i n:Int) (σ:z9):Prop where
 z:ln σ=7
 s0:gt σ 0=some (.val (.list ps))
 s1:gt σ 1=some (.val (.ob a))
 s2:gt σ 2=some (.own res)
 s3:gt σ 3=some (.app 2)
 s4:gt σ 4=some (.val (.int i))
 s5:gt σ 5=some (.val (.int n))
theorem strsP (xs:List (List Nat)):i4? (xs.map .str)=some xs:=by
 induction xs with
 | nil=>rfl
 | cons x r ih=>simp [i4?,ih]
theorem R8 {α:Type} {pre r:List α} {j:Nat} : (pre ++ r)[pre.length + j]?=r[j]?:=by
 rw [List.getElem?_append_right (Nat.le_add_right ..),Nat.add_sub_cancel_left]
section
variable {Γ:y9} {ps pre post:List PV} {a:Addr} {res:List PV} {σ:z9}
theorem jc_go {i n:Int} {x:List Nat} (I:JI ps a res i n σ) (h:i<n) (hx:v4 (.list ps) (.int i)=some (.str x)):y8 (z8 Γ jc .test σ)=some true:=by
 obtain ⟨z,s0,s1,s2,s3,s4,s5⟩:=I
 ((try unfold jc);walk_at "ev")
theorem jc_end {i n:Int} (I:JI ps a res i n σ) (h:¬ i<n):y8 (z8 Γ jc .test σ)=some false:=by
 obtain ⟨z,s0,s1,s2,s3,s4,s5⟩:=I
 ((try unfold jc);walk_at "ev")
theorem jc_star {i n:Int} (I:JI ps a res i n σ) (h:i<n) (hx:v4 (.list ps) (.int i)=some (.ob a)):y8 (z8 Γ jc .test σ)=some false:=by
 obtain ⟨z,s0,s1,s2,s3,s4,s5⟩:=I;unfold jc;walk_at "ev"
theorem jc_stop {i n:Int} {j:Nat} (hi:i=(j:Int)) (hn:n=(ps.length:Int)) (hp:ps=pre ++ post) (hj:pre.length=j) (hs:post=[]∨∃ r,post = .ob a::r) (I:JI ps a res i n σ):y8 (z8 Γ jc .test σ)=some false:=by
 rcases hs with rfl | ⟨r,rfl⟩
 ·exact jc_end I (by rw [hi,hn,hp];simp;lia)
 ·refine jc_star I (by rw [hi,hn,hp];simp;lia) (S3 (j:=j) ?_ hi);rw [hp,← hj];exact R8 (j:=0)
theorem seg1 (hs:post=[]∨∃ r,post = .ob a::r):∀ (xs:List (List Nat)) (pre res:List PV) (σ:z9) (m:Nat),ps=pre ++ (xs.map .str ++ post)→res.length + xs.length≤small→JI ps a res (pre.length:Int) (ps.length:Int) σ →
  ∃ σ',b7 (fun σ=>y8 (z8 Γ jc .test σ)) (y7 Γ 0 j1) (xs.length + 1 + m) σ=some (.next,σ')∧JI ps a (res ++ xs.map .str) ((pre.length + xs.length:Nat):Int) (ps.length:Int) σ'
 | [],pre,res,σ,m,hp,hz,I=>by
  refine ⟨σ,?_,by simpa using I⟩;rw [show ([]:List (List Nat)).length + 1 + m=m + 1 by simp;lia];exact W1 (jc_stop (j:=pre.length) rfl rfl (hp) rfl hs I)
 | x::xs,pre,res,σ,m,hp,hz,I=>by
  have hx:v4 (.list ps) (.int (pre.length:Int))=some (.str x):=S3 (j:=pre.length) (by rw [hp];exact R8 (j:=0)) rfl;have hlt:(pre.length:Int)<(ps.length:Int):=by rw [hp];simp;lia
  have hb:∃ σ1,y7 Γ 0 j1 σ=some (.next,σ1)∧JI ps a (res ++ [.str x]) (((pre ++ [PV.str x]).length:Nat):Int) (ps.length:Int) σ1:=by
   have hz':res.length<small:=by simp at hz;lia
   obtain ⟨z,s0,s1,s2,s3,s4,s5⟩:=I;refine ⟨z7 (σ.set 2 (.own (res ++ [.str x]))) 4 (.val (.int ((pre.length:Int) + 1))),?_,?_⟩
   ·clear hlt hp
    ((try unfold j1);walk_at "ev")
   ·clear hlt hp
    constructor <;> (first | walk_at "slot" | simp [gS,gL,lS,lL,fg, *])
  refine z6 fun K0=>?_
  refine x12 hb fun σ1 e1 I1=>?_
  refine x12 (seg1 hs xs (pre ++ [.str x]) (res ++ [.str x]) σ1 m (by rw [hp];simp) (by simp at hz ⊢;lia) I1 :) fun σ2 e2 I2=>?_
  refine K0 ?_;clear K0;refine ⟨σ2,?_,?_⟩
  ·rw [show (x::xs).length + 1 + m=(xs.length + 1 + m) + 1 by simp;lia,wl_go (jc_go I hlt hx) e1];exact e2
  ·have:(((pre ++ [PV.str x]).length + xs.length:Nat):Int)=((pre.length + (x::xs).length:Nat):Int):=by simp;lia
   rw [this] at I2;simpa using I2
theorem seg2 (hs:post=[]∨∃ r,post = .ob a::r):∀ (xs:List (List Nat)) (pre fx:List PV) (σ:z9) (m:Nat),ps=pre ++ (xs.map .str ++ post)→fx.length + xs.length≤small→JI ps a res (pre.length:Int) (ps.length:Int) σ→gt σ 6=some (.own fx) →
  ∃ σ',b7 (fun σ=>y8 (z8 Γ jc .test σ)) (y7 Γ 0 j2) (xs.length + 1 + m) σ=some (.next,σ')∧JI ps a res ((pre.length + xs.length:Nat):Int) (ps.length:Int) σ'∧gt σ' 6=some (.own (fx ++ xs.map .str))
 | [],pre,fx,σ,m,hp,hz,I,h6=>by
  refine ⟨σ,?_,by simpa using I,by simpa using h6⟩;rw [show ([]:List (List Nat)).length + 1 + m=m + 1 by simp;lia];exact W1 (jc_stop (j:=pre.length) rfl rfl (hp) rfl hs I)
 | x::xs,pre,fx,σ,m,hp,hz,I,h6=>by
  have hx:v4 (.list ps) (.int (pre.length:Int))=some (.str x):=S3 (j:=pre.length) (by rw [hp];exact R8 (j:=0)) rfl;have hlt:(pre.length:Int)<(ps.length:Int):=by rw [hp];simp;lia
  have hb:∃ σ1,y7 Γ 0 j2 σ=some (.next,σ1)∧JI ps a res (((pre ++ [PV.str x]).length:Nat):Int) (ps.length:Int) σ1∧gt σ1 6=some (.own (fx ++ [.str x])):=by
   have hz':fx.length<small:=by simp at hz;lia
   obtain ⟨z,s0,s1,s2,s3,s4,s5⟩:=I;refine ⟨z7 (σ.set 6 (.own (fx ++ [.str x]))) 4 (.val (.int ((pre.length:Int) + 1))),?_,?_,?_⟩
   ·clear hlt hp
    ((try unfold j2);walk_at "ev")
   ·clear hlt hp
    constructor <;> (first | walk_at "slot" | simp [gS,gL,lS,lL,fg, *])
   ·clear hlt hp
    walk_at "slot"
  refine z6 fun K0=>?_
  refine x13 hb fun σ1 e1 I1 h61=>?_
  refine x13 (seg2 hs xs (pre ++ [.str x]) (fx ++ [.str x]) σ1 m (by rw [hp];simp) (by simp at hz ⊢;lia) I1 h61 :) fun σ2 e2 I2 h62=>?_
  refine K0 ?_;clear K0;refine ⟨σ2,?_,?_,by simpa using h62⟩
  ·rw [show (x::xs).length + 1 + m=(xs.length + 1 + m) + 1 by simp;lia,wl_go (jc_go I hlt hx) e1];exact e2
  ·have:(((pre ++ [PV.str x]).length + xs.length:Nat):Int)=((pre.length + (x::xs).length:Nat):Int):=by simp;lia
   rw [this] at I2;simpa using I2
theorem jend_ev {i:Int} {xs:List (List Nat)} (I:JI ps a (xs.map .str) i i σ) (hz:xs.flatten.length + 100≤small):∃ σ',y7 Γ 0 jend σ=some (.ret (.str ([40,63,115,58] ++ xs.flatten ++ [41,92,90])),σ'):=by
 refine z6 fun K0=>?_
 obtain ⟨z,s0,s1,s2,s3,s4,s5⟩:=I;refine K0 ?_;clear K0;have hm:n9 "join" (.str []) [.list (xs.map .str)]=some (.str xs.flatten):=by
  rw [L0 (strsP xs) (by rw [P8];lia),P8]
 have hf:W9 [.str [40,63,115,58],.str xs.flatten,.str [41,92,90]]=some (.str ([40,63,115,58] ++ xs.flatten ++ [41,92,90])) :=
  fstr3 (List.append_assoc ..).symm (by rw [List.length_append,List.length_append];show 4 + _ + 3≤_;lia)
 generalize xs.flatten=y at *;exact ⟨_,by unfold jend;walk_at "ev"⟩
theorem jo_last {pre:List PV} {res:List PV} (hp:ps=pre ++ [.ob a]) (hz:res.length<small) (I:JI ps a res (pre.length:Int) (ps.length:Int) σ) :
  ∃ σ',y7 Γ 0 jo σ=some (.brk,σ')∧JI ps a (res ++ [.str [46,42]]) (ps.length:Int) (ps.length:Int) σ':=by
 have hx:v4 (.list ps) (.int (pre.length:Int))=some (.ob a):=S3 (j:=pre.length) (by rw [hp];exact R8 (j:=0)) rfl;have hl:(ps.length:Int)=(pre.length:Int) + 1:=by rw [hp];simp
 rw [hl] at I ⊢;obtain ⟨z,s0,s1,s2,s3,s4,s5⟩:=I;have e1:y7 Γ 0 jo1 σ=some (.next,z7 σ 4 (.val (.int ((pre.length:Int) + 1)))):=by
  clear hp hl;unfold jo1;walk_at "ev"
 refine ⟨(z7 σ 4 (.val (.int ((pre.length:Int) + 1)))).set 2 (.own (res ++ [.str [46,42]])),?_,?_⟩
 ·rw [jo,W8 e1];have e2:w8 Γ 0 jif (z7 σ 4 (.val (.int ((pre.length:Int) + 1))))=some (.brk,(z7 σ 4 (.val (.int ((pre.length:Int) + 1)))).set 2 (.own (res ++ [.str [46,42]]))):=by
   clear hp hl
   ((try unfold jif);walk_at "ev")
  exact evSs_brk e2
 ·clear hp hl
  constructor <;> walk_at "slot"
theorem jo_mid {pre:List PV} {res:List PV} {xs:List (List Nat)} (hx0:xs≠[]) (hp:ps=pre ++ (.ob a::xs.map .str)) (hz:res.length + 2<small) (hxl:xs.length≤64) (hfl:xs.flatten.length≤small) (I:JI ps a res (pre.length:Int) (ps.length:Int) σ) :
  ∃ σ',y7 Γ 0 jo σ=some (.next,σ')∧JI ps a (res ++ [.str [46,42],.str xs.flatten]) (ps.length:Int) (ps.length:Int) σ':=by
 have hx:v4 (.list ps) (.int (pre.length:Int))=some (.ob a):=S3 (j:=pre.length) (by rw [hp];exact R8 (j:=0)) rfl;obtain ⟨x,r,rfl⟩:∃ x r,xs=x::r:=by cases xs with | nil=>exact absurd rfl hx0 | cons x r=>exact ⟨x,r,rfl⟩
 have hx1:v4 (.list ps) (.int ((pre.length:Int) + 1))=some (.str x):=S3 (j:=pre.length + 1) (by rw [hp];exact R8 (j:=1)) rfl;have hl:(ps.length:Int)=(pre.length:Int) + 1 + ((x::r).length:Int):=by rw [hp];simp;lia
 have hne:¬ ((pre.length:Int) + 1=(ps.length:Int)):=by rw [hl];simp;lia
 have e1:y7 Γ 0 jo1 σ=some (.next,z7 σ 4 (.val (.int ((pre.length:Int) + 1)))):=by
  obtain ⟨z,s0,s1,s2,s3,s4,s5⟩:=I;clear hp hl;unfold jo1;walk_at "ev"
 have I1:JI ps a res ((pre.length:Int) + 1) (ps.length:Int) (z7 σ 4 (.val (.int ((pre.length:Int) + 1)))):=by
  obtain ⟨z,s0,s1,s2,s3,s4,s5⟩:=I;clear hp hl
  constructor <;> walk_at "slot"
 generalize z7 σ 4 (.val (.int ((pre.length:Int) + 1)))=σ1 at *;have e2:w8 Γ 0 jif σ1=some (.next,σ1):=by
  obtain ⟨z,s0,s1,s2,s3,s4,s5⟩:=I1;clear hp hl e1 I
  ((try unfold jif);walk_at "ev")
 have e3:y7 Γ 0 jo2 σ1=some (.next,z7 σ1 6 (.own [])):=by
  obtain ⟨z,s0,s1,s2,s3,s4,s5⟩:=I1;clear hp hl e1 I e2
  ((try unfold jo2);walk_at "ev")
 have I2:JI ps a res (((pre ++ [PV.ob a]).length:Nat):Int) (ps.length:Int) (z7 σ1 6 (.own [])):=by
  obtain ⟨z,s0,s1,s2,s3,s4,s5⟩:=I1;clear hp hl e1 I e2 e3
  constructor <;> (first | walk_at "slot" | simp [gS,gL,lS,lL,fg, *])
 have g6:gt (z7 σ1 6 (.own [])) 6=some (.own []):=by
  obtain ⟨z,s0,s1,s2,s3,s4,s5⟩:=I1
  walk_at "slot"
 generalize z7 σ1 6 (.own [])=σ2 at *;refine z6 fun K0=>?_
 refine x13 (seg2 (Γ:=Γ) (post:=[]) (.inl rfl) (x::r) (pre ++ [.ob a]) [] σ2 (j4 - ((x::r).length + 1)) (by rw [hp];simp) (by simp at hxl ⊢;unfold small;lia) I2 g6 :) fun σ3 e4 I3 g63=>?_
 rw [show (x::r).length + 1 + (j4 - ((x::r).length + 1))=j4 by unfold j4;simp at hxl ⊢;lia] at e4;have hl2:(((pre ++ [PV.ob a]).length + (x::r).length:Nat):Int)=(ps.length:Int):=by rw [hl];simp
 rw [hl2] at I3;have e5:∃ σ4,y7 Γ 0 jo3 σ3=some (.next,σ4)∧JI ps a (res ++ [.str [46,42],.str (x::r).flatten]) (ps.length:Int) (ps.length:Int) σ4:=by
  obtain ⟨z,s0,s1,s2,s3,s4,s5⟩:=I3;have hm:n9 "join" (.str []) [.list ((x::r).map .str)]=some (.str (x::r).flatten):=by
   rw [L0 (strsP _) (by rw [P8];lia),P8]
  have hz1:res.length<small:=by lia
  have hz2:res.length + 1<small:=by lia
  rw [List.nil_append] at g63;generalize (x::r).flatten=y at *;generalize (x::r).map PV.str=ys at *;refine ⟨((z7 σ3 6 (.val (.str y))).set 2 (.own (res ++ [.str [46,42]]))).set 2 (.own (res ++ [.str [46,42],.str y])),?_,?_⟩
  ·have hz2':(res ++ [PV.str [46,42]]).length<small:=by rw [List.length_append];exact hz2
   rw [show res ++ [.str [46,42],.str y]=(res ++ [PV.str [46,42]]) ++ [.str y] by simp];unfold jo3;walk_at "ev"
  ·constructor <;> walk_at "slot"
 refine x12 e5 fun σ4 e5 I4=>?_
 refine K0 ?_;clear K0;refine ⟨σ4,?_,I4⟩;rw [jo,W8 e1,u9 e2,W8 e3,u9 (whl_eq.trans e4),e5]
theorem jl_ev {i n:Int} (I:JI ps a res i n σ):y8 (z8 Γ (.cmp .Lt (.var 4) (.var 5)) .test σ)=some (decide (i<n)):=by
 refine z6 fun K0=>?_
 obtain ⟨z,s0,s1,s2,s3,s4,s5⟩:=I;refine K0 ?_;clear K0
 walk_at "ev"
theorem g76 {k:Nat} {fs ls:List (List Nat)} {st:Bool} (hst:st=false→ls=[]) (hf:fs.length≤64) (hl:ls.length≤64) (hfl:fs.flatten.length≤1000) (hll:ls.flatten.length≤1000) :
  gam (k + 1) (.ref 76) [.list (fs.map .str ++ ((if st then [.ob a] else []) ++ ls.map .str)),.ob a]=some (.str ([40,63,115,58] ++ (fs.flatten ++ ((if st then [46,42] else []) ++ ls.flatten)) ++ [41,92,90])):=by
 rw [d8 (by decide) (by decide) (by rfl) rfl];generalize hps:fs.map PV.str ++ ((if st then [PV.ob a] else []) ++ ls.map PV.str)=ps;have key:∃ σ',y7 (gam k) 0 b76 ([PV.list ps,.ob a].map Mine.Slot.val ++ List.replicate (7 - [PV.list ps,.ob a].length) .unset)=some (.ret (.str ([40,63,115,58] ++ (fs.flatten ++ ((if st then [46,42] else []) ++ ls.flatten)) ++ [41,92,90])),σ'):=by
  generalize hσ:([PV.list ps,.ob a].map Mine.Slot.val ++ List.replicate (7 - [PV.list ps,.ob a].length) .unset:z9)=σ0;have e1:w8 (gam k) 0 (.own 2) σ0=some (.next,z7 σ0 2 (.own [])):=rfl;have z:ln σ0=7:=by rw [← hσ];rfl
  have s0:gt σ0 0=some (.val (.list ps)):=by rw [← hσ];rfl
  have s1:gt σ0 1=some (.val (.ob a)):=by rw [← hσ];rfl
  clear hσ;have e2:w8 (gam k) 0 (.app 3 2) (z7 σ0 2 (.own []))=some (.next,z7 (z7 σ0 2 (.own [])) 3 (.app 2)):=by walk_at "ev"
  have e3:w8 (gam k) 0 (.tup2 4 5 (.lit (.int 0)) (.len (.var 0))) (z7 (z7 σ0 2 (.own [])) 3 (.app 2))=some (.next,z7 (z7 (z7 (z7 σ0 2 (.own [])) 3 (.app 2)) 4 (.val (.int 0))) 5 (.val (.int (ps.length:Int)))):=by walk_at "ev"
  have I:JI ps a [] (([]:List PV).length:Int) (ps.length:Int) (z7 (z7 (z7 (z7 σ0 2 (.own [])) 3 (.app 2)) 4 (.val (.int 0))) 5 (.val (.int (ps.length:Int)))):=by
   constructor <;> (first | walk_at "slot" | simp [gS,gL,lS,lL,fg,z,s0,s1])
  obtain ⟨σ1,e4,I1⟩:=seg1 (Γ:=gam k) (post:=(if st then [PV.ob a] else []) ++ ls.map PV.str) (by
    induction st with
    | true=>exact .inr ⟨_,rfl⟩
    | false=>rw [hst rfl];exact .inl rfl) fs [] [] _ (j4 - (fs.length + 1)) (by rw [← hps];rfl) (by unfold small;simp;lia) I
  rw [show fs.length + 1 + (j4 - (fs.length + 1))=j4 by unfold j4;lia] at e4;rw [b76,List.cons_append,u9 e1,List.cons_append,u9 e2,List.cons_append,u9 e3,List.cons_append,u9 (σ':=σ1) (whl_eq.trans e4)];rw [List.nil_append] at I1
  induction st with
  | false =>
   have hl0:=hst rfl
   subst hl0
   have hpl:ps.length=fs.length:=by rw [← hps];simp
   have I2:JI ps a (fs.map .str) (ps.length:Int) (ps.length:Int) σ1:=by
    rw [show (([]:List PV).length + fs.length:Nat)=ps.length by rw [hpl];simp] at I1;exact I1
   rw [List.cons_append,u9 (σ':=σ1) (by
    rw [whl_eq]
    exact W1 (n:=99999) ((jl_ev I2).trans (by simp)))]
   refine Exists.elim (jend_ev (Γ:=gam k) I2 (by unfold small;lia) :) fun σ2 e5=>?_
   exact ⟨σ2,by rw [List.nil_append,e5];simp⟩
  | true =>
   have hps':ps=fs.map PV.str ++ (PV.ob a::ls.map PV.str):=by rw [← hps];rfl
   have hpl:ps.length=fs.length + 1 + ls.length:=by rw [hps'];simp;lia
   have I2:JI ps a (fs.map .str) (((fs.map PV.str).length:Nat):Int) (ps.length:Int) σ1:=by
    rw [show (([]:List PV).length + fs.length:Nat)=(fs.map PV.str).length by simp] at I1;exact I1
   have hlt:(((fs.map PV.str).length:Nat):Int)<(ps.length:Int):=by rw [hpl];simp;lia
   have hc:y8 (z8 (gam k) (.cmp .Lt (.var 4) (.var 5)) .test σ1)=some true:=(jl_ev I2).trans (by simp only [hlt,decide_true])
   by_cases hl0:ls=[]
   ·subst hl0;refine x12 (jo_last (Γ:=gam k) (by rw [hps'];rfl) (by unfold small;simp;lia) I2 :) fun σ2 e5 I3=>?_
    rw [List.cons_append,u9 (σ':=σ2) (by rw [whl_eq];exact wl_brk (n:=99999) hc e5)];have:fs.map PV.str ++ [PV.str [46,42]]=(fs ++ [[46,42]]).map PV.str:=by simp
    rw [this] at I3;refine Exists.elim (jend_ev (Γ:=gam k) I3 (by unfold small;simp at hfl ⊢;lia) :) fun σ3 e6=>?_
    exact ⟨σ3,by rw [List.nil_append,e6];simp⟩
   ·refine x12 (jo_mid (Γ:=gam k) hl0 hps' (by unfold small;simp;lia) hl (by unfold small;lia) I2 :) fun σ2 e5 I3=>?_
    have hc2:y8 (z8 (gam k) (.cmp .Lt (.var 4) (.var 5)) .test σ2)=some false:=(jl_ev I3).trans (by simp);rw [List.cons_append,u9 (σ':=σ2) (by rw [whl_eq];exact (wl_go (n:=99999) hc e5).trans (W1 (n:=99998) hc2))];have:fs.map PV.str ++ [PV.str [46,42],PV.str ls.flatten]=(fs ++ [[46,42],ls.flatten]).map PV.str:=by simp
    rw [this] at I3;refine Exists.elim (jend_ev (Γ:=gam k) I3 (by unfold small;simp at hfl hll ⊢;lia) :) fun σ3 e6=>?_
    exact ⟨σ3,by rw [List.nil_append,e6];simp⟩
 refine Exists.elim key fun σ' e=>?_
 exact i8 e
end
theorem F9:∀ (us:List U) (b:Bool),(∀ u∈us,m0 u=false)→Z6 b us=true
 | [],_,_=>by simp [Z6]
 | u::us,b,h=>by
  have hu:=h u (List.mem_cons_self ..);have ih:=F9 us false fun v hv=>h v (List.mem_cons_of_mem _ hv)
  cases u <;> first | exact ih | cases hu
theorem A9:∀ (us vs:List U) (b:Bool),(∀ u∈us,m0 u=false)→(us≠[]→Z6 false vs=true)→(us=[]→Z6 b vs=true)→Z6 b (us ++ vs)=true
 | [],vs,b,_,_,h=>h rfl
 | u::us,vs,b,h,h1,h2=>by
  have hu:=h u (List.mem_cons_self ..);have ih:=A9 us vs false (fun v hv=>h v (List.mem_cons_of_mem _ hv)) (fun _=>h1 (by simp)) (fun _=>h1 (by simp))
  cases u <;> first | exact ih | cases hu
theorem prt_no {a:Addr} : ∀ (us:List U),(∀ u∈us,m0 u=false)→us.map (prt a)=(us.map u8).map .str
 | [],_=>rfl
 | u::us,h=>by
  have hu:=h u (List.mem_cons_self ..);have ih:=prt_no (a:=a) us fun v hv=>h v (List.mem_cons_of_mem _ hv)
  cases u <;> first | (simp only [List.map_cons,ih];rfl) | cases hu
theorem rgx_len (u:U):(u8 u).length≤5:=by
 induction u with
 | lit c=>simp only [u8,escC];split <;> simp
 | brk c=>simp only [u8];split <;> simp
 | neg p=>simp only [u8,negT];split <;> simp
 | _=>simp [u8]
theorem M3:∀ us:List U,(us.map u8).flatten.length≤5 * us.length
 | []=>by simp
 | u::us=>by
  have h1:=rgx_len u;have h2:=M3 us;simp only [List.map_cons,List.flatten_cons,List.length_append,List.length_cons]
  lia
noncomputable def stU (st:Bool):List U:=if st then [.star] else []
noncomputable def l9 (us:List U):List Nat:=[40,63,115,58] ++ (us.map u8).flatten ++ [41,92,90]
theorem g50 {k:Nat} {fs ls:List U} {st:Bool} (hst:st=false→ls=[]) (h1:∀ u∈fs,okU u∧m0 u=false) (h2:∀ u∈ls,okU u∧m0 u=false) (hl:fs.length + ls.length≤60) :
  gam (k + 3) (.ref 50) [.str ((fs ++ (stU st ++ ls)).flatMap v5)]=some (.str (l9 (fs ++ (stU st ++ ls)))):=by
 refine trs_eq (Γ:=gam (k + 2)) fun a=>?_
 have hso:Z6 false (fs ++ (stU st ++ ls))=true:=by
  have hA:∀ b,b=false→Z6 b (stU st ++ ls)=true:=by
   intro b hb;subst hb
   induction st with
   | false=>exact F9 _ _ fun u hu=>(h2 u (by simpa [stU] using hu)).2
   | true =>
    show (!false && Z6 true ls)=true
    rw [F9 _ _ fun u hu=>(h2 u hu).2];rfl
  exact A9 _ _ _ (fun u hu=>(h1 u hu).2) (fun _=>hA _ rfl) (fun _=>hA _ rfl)
 have hok:∀ u∈fs ++ (stU st ++ ls),okU u:=by
  intro u hu;rcases List.mem_append.mp hu with hu | hu
  ·exact (h1 u hu).1
  ·rcases List.mem_append.mp hu with hu | hu
   ·cases st <;> simp [stU] at hu
    subst hu;trivial
   ·exact (h2 u hu).1
 have hstl:(stU st).length≤1:=by cases st <;> simp [stU]
 refine ⟨_,g69 (a:=a) hok hso (by simp;lia),?_⟩;have e1:(fs ++ (stU st ++ ls)).map (prt a)=(fs.map u8).map .str ++ ((if st then [.ob a] else []) ++ (ls.map u8).map .str):=by
  rw [List.map_append,List.map_append,prt_no fs fun u hu=>(h1 u hu).2,prt_no ls fun u hu=>(h2 u hu).2]
  cases st <;> rfl
 have l1:=M3 fs;have l2:=M3 ls;rw [e1,g76 (k:=k + 1) (fun q=>by rw [hst q];rfl) (by simp;lia) (by simp;lia) (by lia) (by lia)]
 simp only [l9,List.map_append,List.flatten_append]
 cases st <;> simp [stU,u8]
structure RI (T:List Nat) (its:List PV) (i e:Int) (σ:z9):Prop where
 z:ln σ=6
 s0:gt σ 0=some (.val (.str T))
 s1:gt σ 1=some (.own its)
 s2:gt σ 2=some (.val (.int i))
 s3:gt σ 3=some (.val (.int e))
noncomputable def q0:U→PV
 | .lit c => .tup [.bool false,.str [c]] | .brk c => .tup [.bool false,.str [c]] | .q => .tup [.bool true,.str []] | .neg p => .tup [.bool true,.str [p]] | .star => .nul
section
variable {Γ:y9} {T pre post:List Nat} {its:List PV} {σ:z9} {i e:Int}
theorem r_star (S:n8 (.str T) (.int i) (.int (i + 2))=some (.str [46,42])) (hz:its.length<small) (I:RI T its i e σ) :
  ∃ σ',y7 Γ 0 rb σ=some (.next,σ')∧RI T (its ++ [.nul]) (i + 2) e σ':=by
 refine z6 fun K0=>?_
 obtain ⟨z,s0,s1,s2,s3⟩:=I;refine K0 ?_;clear K0;refine ⟨z7 (σ.set 1 (.own (its ++ [.nul]))) 2 (.val (.int (i + 2))),?_,?_⟩
 ·((try unfold rb);walk_at "ev")
 ·constructor <;> walk_at "slot"
theorem r_dot {w:List Nat} (S:n8 (.str T) (.int i) (.int (i + 2))=some (.str w)) (hw:w≠[46,42]) (F:v4 (.str T) (.int i)=some (.str [46])) (hz:its.length<small) (I:RI T its i e σ) :
  ∃ σ',y7 Γ 0 rb σ=some (.next,σ')∧RI T (its ++ [.tup [.bool true,.str []]]) (i + 1) e σ':=by
 refine z6 fun K0=>?_
 obtain ⟨z,s0,s1,s2,s3⟩:=I;refine K0 ?_;clear K0;refine ⟨z7 (σ.set 1 (.own (its ++ [.tup [.bool true,.str []]]))) 2 (.val (.int (i + 1))),?_,?_⟩
 ·((try unfold rb);walk_at "ev")
 ·constructor <;> walk_at "slot"
theorem r_esc {w:List Nat} {c:Nat} (S:n8 (.str T) (.int i) (.int (i + 2))=some (.str w)) (hw:w≠[46,42]) (F:v4 (.str T) (.int i)=some (.str [92])) (F1:v4 (.str T) (.int (i + 1))=some (.str [c])) (hz:its.length<small) (I:RI T its i e σ) :
  ∃ σ',y7 Γ 0 rb σ=some (.next,σ')∧RI T (its ++ [.tup [.bool false,.str [c]]]) (i + 2) e σ':=by
 refine z6 fun K0=>?_
 obtain ⟨z,s0,s1,s2,s3⟩:=I;refine K0 ?_;clear K0;refine ⟨z7 (σ.set 1 (.own (its ++ [.tup [.bool false,.str [c]]]))) 2 (.val (.int (i + 2))),?_,?_⟩
 ·((try unfold rb);walk_at "ev")
 ·constructor <;> walk_at "slot"
theorem r_lit {w:List Nat} {c:Nat} (S:n8 (.str T) (.int i) (.int (i + 2))=some (.str w)) (hw:w≠[46,42]) (F:v4 (.str T) (.int i)=some (.str [c])) (c1:c≠46) (c2:c≠92) (c3:c≠91) (c4:¬ c∈[40,41,42,43,63,123,125,124,94,36]) (hz:its.length<small) (I:RI T its i e σ) :
  ∃ σ',y7 Γ 0 rb σ=some (.next,σ')∧RI T (its ++ [.tup [.bool false,.str [c]]]) (i + 1) e σ':=by
 refine z6 fun K0=>?_
 obtain ⟨z,s0,s1,s2,s3⟩:=I;refine K0 ?_;clear K0;refine ⟨z7 (σ.set 1 (.own (its ++ [.tup [.bool false,.str [c]]]))) 2 (.val (.int (i + 1))),?_,?_⟩
 ·have c4':decide (c∈[40,41,42,43,63,123,125,124,94,36])=false:=by simpa using c4
  simp only [List.mem_cons,List.not_mem_nil,or_false,not_or] at c4;have c5:decide ([c]=[46])=false:=d_s1 c1;unfold rb rE;walk_at "ev"
 ·constructor <;> walk_at "slot"
theorem r_brk0 {w:List Nat} (S:n8 (.str T) (.int i) (.int (i + 2))=some (.str w)) (hw:w≠[46,42]) (F:v4 (.str T) (.int i)=some (.str [91])) (I:RI T its i e σ) :
  y7 Γ 0 rb σ=y7 Γ 0 rB σ:=by
 obtain ⟨z,s0,s1,s2,s3⟩:=I;have c1:y8 (z8 Γ (.cmp .Eq (.slc (.var 0) (.var 2) (.bin .Add (.var 2) (.lit (.int 2)))) (.lit (.str [46,42]))) .test σ)=some false:=by walk_at "ev"
 have c2:y8 (z8 Γ (.cmp .Eq (.idx (.var 0) (.var 2)) (.lit (.str [46]))) .test σ)=some false:=by walk_at "ev"
 have c3:y8 (z8 Γ (.cmp .Eq (.idx (.var 0) (.var 2)) (.lit (.str [92]))) .test σ)=some false:=by walk_at "ev"
 have c4:y8 (z8 Γ (.cmp .Eq (.idx (.var 0) (.var 2)) (.lit (.str [91]))) .test σ)=some true:=by walk_at "ev"
 rw [rb,V2 c1,V2 c2,V2 c3,ite_t c4]
theorem r_in {bar:Bool} {c:Nat} {d:Nat} {j:Int} (I:RI T its j e σ) (g4:gt σ 4=some (.val (.bool bar))) (g5:gt σ 5=some (.val (.str [])))
  (h:(d=0∧c≠92∧v4 (.str T) (.int j)=some (.str [c])∧v4 (.str T) (.int (j + 1))=some (.str [93]))∨(d=1∧v4 (.str T) (.int j)=some (.str [92])∧v4 (.str T) (.int (j + 1))=some (.str [c])∧v4 (.str T) (.int (j + 1 + 1))=some (.str [93]))) (hz:its.length<small) :
  ∃ σ',y7 Γ 0 (.whl rBc rBb::rB3) σ=some (.next,σ')∧RI T (its ++ [.tup [.bool bar,.str [c]]]) (j + d + 2) e σ':=by
 refine z6 fun K0=>?_
 obtain ⟨z,s0,s1,s2,s3⟩:=I;refine K0 ?_;clear K0;have hsm:1≤small:=by decide
 rcases h with ⟨rfl,hc,F0,F1⟩ | ⟨rfl,F0,F1,F2⟩
 ·have e1:w8 Γ 0 (.whl rBc rBb) σ=some (.next,z7 (z7 σ 5 (.val (.str [c]))) 2 (.val (.int (j + 1)))):=by
   rw [whl_eq];refine (wl_go (n:=99999) ?_ ?_).trans (W1 (n:=99998) ?_)
   ·((try unfold rBc);walk_at "ev")
   ·((try unfold rBb);walk_at "ev")
   ·((try unfold rBc);walk_at "ev")
  refine ⟨_,by
   rw [u9 e1];show y7 Γ 0 rB3 (z7 (z7 σ 5 (.val (.str [c]))) 2 (.val (.int (j + 1))))=some (.next,z7 ((z7 (z7 σ 5 (.val (.str [c]))) 2 (.val (.int (j + 1)))).set 1 (.own (its ++ [.tup [.bool bar,.str [c]]]))) 2 (.val (.int (j + 1 + 1))))
   ((try unfold rB3);walk_at "ev"),?_⟩
  have:j + (0:Nat) + 2=j + 1 + 1:=by lia
  rw [this]
  constructor <;> walk_at "slot"
 ·have e1:w8 Γ 0 (.whl rBc rBb) σ=some (.next,z7 (z7 (z7 σ 2 (.val (.int (j + 1)))) 5 (.val (.str [c]))) 2 (.val (.int (j + 1 + 1)))):=by
   rw [whl_eq];refine (wl_go (n:=99999) ?_ ?_).trans (W1 (n:=99998) ?_)
   ·((try unfold rBc);walk_at "ev")
   ·((try unfold rBb);walk_at "ev")
   ·((try unfold rBc);walk_at "ev")
  refine ⟨_,by
   rw [u9 e1];show y7 Γ 0 rB3 (z7 (z7 (z7 σ 2 (.val (.int (j + 1)))) 5 (.val (.str [c]))) 2 (.val (.int (j + 1 + 1))))=some (.next,z7 ((z7 (z7 (z7 σ 2 (.val (.int (j + 1)))) 5 (.val (.str [c]))) 2 (.val (.int (j + 1 + 1)))).set 1 (.own (its ++ [.tup [.bool bar,.str [c]]]))) 2 (.val (.int (j + 1 + 1 + 1))))
   ((try unfold rB3);walk_at "ev"),?_⟩
  have:j + (1:Nat) + 2=j + 1 + 1 + 1:=by lia
  rw [this]
  constructor <;> walk_at "slot"
theorem r_brk {bar:Bool} {x:Nat} (hx:decide (x=94)=bar) (F1:v4 (.str T) (.int (i + 1))=some (.str [x])) (I:RI T its i e σ) :
  ∃ σ',y7 Γ 0 rB σ=y7 Γ 0 (.whl rBc rBb::rB3) σ'∧RI T its (i + (if bar then 2 else 1)) e σ'∧gt σ' 4=some (.val (.bool bar))∧gt σ' 5=some (.val (.str [])):=by
 refine z6 fun K0=>?_
 obtain ⟨z,s0,s1,s2,s3⟩:=I;refine K0 ?_;clear K0
 induction bar with
 | true =>
  have hx':x=94:=of_decide_eq_true hx
  subst hx'
  refine ⟨z7 (z7 (z7 σ 4 (.val (.bool true))) 2 (.val (.int (i + 2)))) 5 (.val (.str [])),W8 (by ((try unfold rB1);walk_at "ev")),?_,?_,?_⟩
  ·constructor <;> (first | walk_at "slot" | simp [gS,gL,lS,lL,fg, *])
  ·walk_at "slot"
  ·walk_at "slot"
 | false =>
  have hx':¬ x=94:=of_decide_eq_false hx
  have e:u7 .Eq (.str [x]) (.str [94])=some false:=o_eqs (d_s1 hx')
  refine ⟨z7 (z7 (z7 σ 4 (.val (.bool false))) 2 (.val (.int (i + 1)))) 5 (.val (.str [])),W8 (by unfold rB1;walk_at "ev"),?_,?_,?_⟩
  ·constructor <;> (first | walk_at "slot" | simp [gS,gL,lS,lL,fg, *])
  ·walk_at "slot"
  ·walk_at "slot"
end
section
variable {Γ:y9} {T pre post:List Nat} {its:List PV} {σ:z9} {e:Int}
theorem read_step {u:U} (hu:okU u) (hT:T=pre ++ (u8 u ++ post)) (hp:post≠[]) (hq:∀ r,post≠42::r) (hz:its.length<small) (I:RI T its (pre.length:Int) e σ) :
  ∃ σ',y7 Γ 0 rb σ=some (.next,σ')∧RI T (its ++ [q0 u]) ((pre ++ u8 u).length:Int) e σ':=by
 have at0:∀ j c,(u8 u ++ post)[j]?=some c→∀ x:Int,x=((pre.length + j:Nat):Int)→v4 (.str T) (.int x)=some (.str [c]):=fun j c h x hx =>
  P6 (j:=pre.length + j) (by rw [hT,get_app];exact h) hx
 refine z6 fun K0=>?_
 obtain ⟨y,r,rfl⟩:∃ y r,post=y::r:=by cases post with | nil=>exact absurd rfl hp | cons y r=>exact ⟨y,r,rfl⟩
 refine K0 ?_;clear K0;have hy:y≠42:=fun q=>hq r (by rw [q])
 have hu0:0<(u8 u).length:=by
  induction u with
  | lit c=>simp only [u8,escC];split <;> simp
  | _=>simp [u8]
 have hlen:T.length=pre.length + ((u8 u).length + (r.length + 1)):=by rw [hT];simp
 have sl:∀ w,cut (u8 u ++ y::r) 0 2=w→n8 (.str T) (.int (pre.length:Int)) (.int ((pre.length:Int) + 2))=some (.str w):=fun w h =>
  slc_nat (j:=pre.length + 0) (k:=pre.length + 2) rfl rfl (by lia) (by lia) (by rw [hT,cut_app];exact h)
 induction u with
 | star =>
  refine z6 fun K0=>?_
  refine x12 (r_star (Γ:=Γ) (sl _ rfl) hz I :) fun σ' e1 I'=>?_
  refine K0 ?_
  clear K0
  exact ⟨σ',e1,by simpa [u8,q0] using I'⟩
 | q =>
  refine z6 fun K0=>?_
  refine x12 (r_dot (Γ:=Γ) (sl _ rfl) (by simp [u8,cut];exact hy) (at0 0 46 rfl _ rfl) hz I :) fun σ' e1 I'=>?_
  refine K0 ?_
  clear K0
  exact ⟨σ',e1,by simpa [u8,q0] using I'⟩
 | lit c =>
  refine z6 fun K0=>?_
  refine x04 hu fun h1 h2 h3 h4=>?_
  refine K0 ?_
  clear K0
  by_cases hs:specials.contains c=true
  ·have hr:u8 (.lit c)=[92,c]:=by simp only [u8,escC,if_pos hs]
   rw [hr] at at0 sl ⊢;refine z6 fun K0=>?_
   refine x12 (r_esc (Γ:=Γ) (sl _ rfl) (by simp [cut]) (at0 0 92 rfl _ rfl) (at0 1 c rfl _ rfl) hz I :) fun σ' e1 I'=>?_
   refine K0 ?_;clear K0;exact ⟨σ',e1,by simpa [q0] using I'⟩
  ·have hr:u8 (.lit c)=[c]:=by simp only [u8,escC,if_neg hs]
   rw [hr] at at0 sl ⊢;have hn:c ∉ specials:=fun q=>hs (List.contains_iff_mem.mpr q)
   have c1:c≠46:=fun q=>hn (by rw [q];decide)
   have c2:c≠92:=fun q=>hn (by rw [q];decide)
   have c3:¬ c∈[40,41,42,43,63,123,125,124,94,36]:=fun q=>hn (by
    have:∀ x∈[40,41,42,43,63,123,125,124,94,36],x∈specials:=by decide
    exact this c q)
   refine z6 fun K0=>?_
   refine x12 (r_lit (Γ:=Γ) (sl _ rfl) (by simp [cut];intro q;exact absurd q c1) (at0 0 c rfl _ rfl) c1 c2 h4 c3 hz I :) fun σ' e1 I'=>?_
   refine K0 ?_;clear K0;exact ⟨σ',e1,by simpa [q0] using I'⟩
 | brk c =>
  by_cases h91:c=91
  ·subst h91;refine z6 fun K0=>?_
   refine x14 (r_brk (Γ:=Γ) (bar:=false) (x:=92) (by decide) (at0 1 92 rfl _ rfl) I :) fun σ1 e1 I1 g4 g5=>?_
   refine x12 (r_in (Γ:=Γ) (d:=1) (c:=91) I1 g4 g5 (.inr ⟨rfl,at0 1 92 rfl _ rfl,at0 2 91 rfl _ (by simp;lia),at0 3 93 rfl _ (by simp;lia)⟩) hz :) fun σ2 e2 I2=>?_
   refine K0 ?_;clear K0;refine ⟨σ2,by rw [r_brk0 (sl _ rfl) (by simp [u8,cut]) (at0 0 91 rfl _ rfl) I,e1,e2],?_⟩;have:((pre.length:Int) + (if false then 2 else 1) + ((1:Nat):Int) + 2)=((pre ++ u8 (.brk 91)).length:Int):=by simp [u8];lia
   rw [← this];exact I2
  ·have hr:u8 (.brk c)=[91,c,93]:=by simp [u8,h91]
   have hc:c=42∨c=63:=by rcases hu with h | h | h <;> simp_all
   rw [hr] at at0 sl ⊢;refine z6 fun K0=>?_
   refine x14 (r_brk (Γ:=Γ) (bar:=false) (x:=c) (by simp;lia) (at0 1 c rfl _ rfl) I :) fun σ1 e1 I1 g4 g5=>?_
   refine x12 (r_in (Γ:=Γ) (d:=0) (c:=c) I1 g4 g5 (.inl ⟨rfl,by lia,at0 1 c rfl _ rfl,at0 2 93 rfl _ (by simp;lia)⟩) hz :) fun σ2 e2 I2=>?_
   refine K0 ?_;clear K0;refine ⟨σ2,by rw [r_brk0 (sl _ rfl) (by simp [cut]) (at0 0 91 rfl _ rfl) I,e1,e2],?_⟩;have:((pre.length:Int) + (if false then 2 else 1) + ((0:Nat):Int) + 2)=((pre ++ [91,c,93]).length:Int):=by simp;lia
   rw [← this];exact I2
 | neg p =>
  by_cases hs:p=92∨p=45∨p=38∨p=126∨p=124
  ·have hr:u8 (.neg p)=[91,94,92,p,93]:=by simp only [u8,negT,if_pos hs];rfl
   rw [hr] at at0 sl ⊢;refine z6 fun K0=>?_
   refine x14 (r_brk (Γ:=Γ) (bar:=true) (x:=94) (by decide) (at0 1 94 rfl _ rfl) I :) fun σ1 e1 I1 g4 g5=>?_
   refine x12 (r_in (Γ:=Γ) (d:=1) (c:=p) I1 g4 g5 (.inr ⟨rfl,at0 2 92 rfl _ rfl,at0 3 p rfl _ (by simp;lia),at0 4 93 rfl _ (by simp;lia)⟩) hz :) fun σ2 e2 I2=>?_
   refine K0 ?_;clear K0;refine ⟨σ2,by rw [r_brk0 (sl _ rfl) (by simp [cut]) (at0 0 91 rfl _ rfl) I,e1,e2],?_⟩;have:((pre.length:Int) + (if true then 2 else 1) + ((1:Nat):Int) + 2)=((pre ++ [91,94,92,p,93]).length:Int):=by simp;lia
   rw [← this];exact I2
  ·have hr:u8 (.neg p)=[91,94,p,93]:=by simp only [u8,negT,if_neg hs];rfl
   rw [hr] at at0 sl ⊢;refine z6 fun K0=>?_
   refine x14 (r_brk (Γ:=Γ) (bar:=true) (x:=94) (by decide) (at0 1 94 rfl _ rfl) I :) fun σ1 e1 I1 g4 g5=>?_
   refine x12 (r_in (Γ:=Γ) (d:=0) (c:=p) I1 g4 g5 (.inl ⟨rfl,by lia,at0 2 p rfl _ rfl,at0 3 93 rfl _ (by simp;lia)⟩) hz :) fun σ2 e2 I2=>?_
   refine K0 ?_;clear K0;refine ⟨σ2,by rw [r_brk0 (sl _ rfl) (by simp [cut]) (at0 0 91 rfl _ rfl) I,e1,e2],?_⟩;have:((pre.length:Int) + (if true then 2 else 1) + ((0:Nat):Int) + 2)=((pre ++ [91,94,p,93]).length:Int):=by simp;lia
   rw [← this];exact I2
theorem rc_ev {i:Int} (I:RI T its i e σ):y8 (z8 Γ rc .test σ)=some (decide (i<e)):=by
 refine z6 fun K0=>?_
 obtain ⟨z,s0,s1,s2,s3⟩:=I;refine K0 ?_;clear K0
 ((try unfold rc);walk_at "ev")
theorem rgx_ne42 (u:U) (hu:okU u):∀ r,u8 u≠42::r:=by
 intro r h
 induction u with
 | lit c =>
  simp only [u8,escC] at h
  split at h
  ·simp at h
  ·simp at h;exact hu.2.1 h.1
 | brk c=>simp [u8] at h
 | neg p=>simp [u8] at h
 | q=>simp [u8] at h
 | star=>simp [u8] at h
theorem rgx_nil (u:U):u8 u≠[]:=by
 induction u with
 | lit c=>simp only [u8,escC];split <;> simp
 | _=>simp [u8]
theorem flat_ne42 {us:List U} (hok:∀ u∈us,okU u) (tl:List Nat) (ht:∀ r,tl≠42::r):∀ r,(us.map u8).flatten ++ tl≠42::r:=by
 intro r h
 induction us with
 | nil=>exact ht r h
 | cons u us =>
  rw [List.map_cons,List.flatten_cons,List.append_assoc] at h
  cases hr:u8 u with
  | nil=>exact rgx_nil u hr
  | cons x y =>
   rw [hr,List.cons_append] at h
   injection h with h1 h2
   exact rgx_ne42 u (hok u (List.mem_cons_self ..)) y (by rw [hr,h1])
theorem read_run:∀ (us:List U) (pre:List Nat) (its:List PV) (σ:z9) (m:Nat),(∀ u∈us,okU u)→T=pre ++ ((us.map u8).flatten ++ [41,92,90])→its.length + us.length≤small→e + 3=(T.length:Int)→RI T its (pre.length:Int) e σ →
  ∃ σ',b7 (fun σ=>y8 (z8 Γ rc .test σ)) (y7 Γ 0 rb) (us.length + 1 + m) σ=some (.next,σ')∧RI T (its ++ us.map q0) e e σ'
 | [],pre,its,σ,m,_,hT,_,he,I=>by
  have hl:(pre.length:Int)=e:=by rw [hT] at he;simp at he;lia
  rw [hl] at I;refine ⟨σ,?_,by simpa using I⟩;rw [show ([]:List U).length + 1 + m=m + 1 by simp;lia];exact W1 ((rc_ev I).trans (by simp))
 | u::us,pre,its,σ,m,hok,hT,hz,he,I=>by
  have hT':T=pre ++ (u8 u ++ ((us.map u8).flatten ++ [41,92,90])):=by rw [hT];simp
  have hok':∀ v∈us,okU v:=fun v hv=>hok v (List.mem_cons_of_mem _ hv)
  refine z6 fun K0=>?_
  refine x12 (read_step (Γ:=Γ) (hok u (List.mem_cons_self ..)) hT' (by simp) (flat_ne42 hok' _ (by simp)) (by simp at hz;lia) I :) fun σ1 e1 I1=>?_
  refine x12 (read_run us (pre ++ u8 u) (its ++ [q0 u]) σ1 m hok' (by rw [hT',List.append_assoc]) (by simp at hz ⊢;lia) he I1 :) fun σ2 e2 I2=>?_
  refine K0 ?_;clear K0;refine ⟨σ2,?_,by simpa using I2⟩;have hr:0<(u8 u).length:=List.length_pos_iff.mpr (rgx_nil u);have hlt:(pre.length:Int)<e:=by rw [hT'] at he;simp at he;lia
  have hc:y8 (z8 Γ rc .test σ)=some true:=(rc_ev I).trans (by simp [hlt]);rw [show (u::us).length + 1 + m=(us.length + 1 + m) + 1 by simp;lia,wl_go hc e1];exact e2
theorem g142 {k:Nat} {us:List U} (hok:∀ u∈us,okU u) (hl:us.length≤64):gam (k + 1) (.ref 142) [.str (l9 us)]=some (.list (us.map q0)):=by
 rw [d8 (by decide) (by decide) (by rfl) rfl];have hf:=M3 us;have hTe:l9 us=[40,63,115,58] ++ ((us.map u8).flatten ++ [41,92,90]):=by simp [l9]
 have hTl:((l9 us).length:Int)=((us.map u8).flatten.length:Int) + 7:=by rw [hTe];simp;lia
 have A1:n8 (.str (l9 us)) .nul (.int 4)=some (.str [40,63,115,58]):=by
  have:=slc_nat (t:=l9 us) (j:=0) (k:=4) (x:=0) (y:=4) (w:=[40,63,115,58]) rfl rfl (by lia) (by lia) (by rw [hTe];rfl);exact this
 have A2:n8 (.str (l9 us)) (.int (((l9 us).length:Int) - 3)) .nul=some (.str [41,92,90]):=by
  have h3:3≤(l9 us).length:=by lia
  have e:n8 (.str (l9 us)) (.int (((l9 us).length:Int) - 3)) .nul=n8 (.str (l9 us)) (.int (((l9 us).length:Int) - 3)) (.int (((l9 us).length:Nat):Int)):=by
   show some (PV.str (cut _ _ (l9 us).length))=some (PV.str (cut _ _ (i6 (l9 us).length ((l9 us).length:Nat))));rw [R7 (Nat.le_refl _)]
  rw [e];refine slc_nat (j:=(l9 us).length - 3) (k:=(l9 us).length) (by lia) rfl (by lia) (by lia) ?_;have e2:l9 us=([40,63,115,58] ++ (us.map u8).flatten) ++ [41,92,90]:=rfl;unfold cut;rw [List.take_length];have e3:(l9 us).length - 3=([40,63,115,58] ++ (us.map u8).flatten).length:=by rw [e2];simp
  rw [e3]
  conv=>lhs;rw [e2]
  exact List.drop_left
 have hend:(((l9 us).length:Int) - 3) + 3=((l9 us).length:Int):=by lia
 generalize hT:l9 us=T at *;have key:∃ σ',y7 (gam k) 0 b142 ([PV.str T].map Mine.Slot.val ++ List.replicate (6 - [PV.str T].length) .unset)=some (.ret (.list (us.map q0)),σ'):=by
  generalize hσ:([PV.str T].map Mine.Slot.val ++ List.replicate (6 - [PV.str T].length) .unset:z9)=σ0;have z:ln σ0=6:=by rw [← hσ];rfl
  have s0:gt σ0 0=some (.val (.str T)):=by rw [← hσ];rfl
  clear hσ;have e1:w8 (gam k) 0 (.own 1) σ0=some (.next,z7 σ0 1 (.own [])):=by walk_at "ev"
  have e2:w8 (gam k) 0 (.assign 2 (.lit (.int 4))) (z7 σ0 1 (.own []))=some (.next,z7 (z7 σ0 1 (.own [])) 2 (.val (.int 4))):=by walk_at "ev"
  have e3:w8 (gam k) 0 (.assign 3 (.bin .Sub (.len (.var 0)) (.lit (.int 3)))) (z7 (z7 σ0 1 (.own [])) 2 (.val (.int 4)))=some (.next,z7 (z7 (z7 σ0 1 (.own [])) 2 (.val (.int 4))) 3 (.val (.int ((T.length:Int) - 3)))):=by walk_at "ev"
  have I:RI T [] (([40,63,115,58]:List Nat).length:Int) ((T.length:Int) - 3) (z7 (z7 (z7 σ0 1 (.own [])) 2 (.val (.int 4))) 3 (.val (.int ((T.length:Int) - 3)))):=by
   constructor <;> (first | walk_at "slot" | simp [gS,gL,lS,lL,fg,z,s0])
  generalize z7 (z7 (z7 σ0 1 (.own [])) 2 (.val (.int 4))) 3 (.val (.int ((T.length:Int) - 3)))=σ1 at *;have e4:w8 (gam k) 0 (.ite (.bop false (.cmp .NotEq (.slc (.var 0) (.lit .nul) (.lit (.int 4))) (.lit (.str [40,63,115,58]))) (.cmp .NotEq (.slc (.var 0) (.var 3) (.lit .nul)) (.lit (.str [41,92,90])))) [.ret (.lit .nul)] []) σ1=some (.next,σ1):=by
   obtain ⟨z,s0,s1,s2,s3⟩:=I
   walk_at "ev"
  refine x12 (read_run (Γ:=gam k) us [40,63,115,58] [] σ1 (j4 - (us.length + 1)) hok hTe (by simp;unfold small;lia) hend I :) fun σ2 e5 I2=>?_
  rw [show us.length + 1 + (j4 - (us.length + 1))=j4 by unfold j4;lia] at e5;rw [b142,u9 e1,u9 e2,u9 e3,u9 e4,u9 (σ':=σ2) (whl_eq.trans e5)];obtain ⟨z,s0,s1,s2,s3⟩:=I2;rw [List.nil_append] at s1;exact ⟨_,by walk_at "ev"⟩
 refine Exists.elim key fun σ' h=>?_
 exact i8 h
end
noncomputable abbrev r9 (p q:Nat):PV := .list [.str [p],.str [q]]
structure PQ (p q:Nat):Prop where
 hp:p∈signs
 hq:q∈signs
 lt:p<q
noncomputable def R0 (p q:Nat) (j:Nat):Nat:=if j=0 then p else q
noncomputable def d6 (p q j:Nat):U:=if j=2 then .q else if j=3 then .neg p else if R0 p q j=42∨R0 p q j=63∨R0 p q j=91 then .brk (R0 p q j) else .lit (R0 p q j)
theorem sign_lt {c:Nat} (h:c∈signs):c<128∧c≠46:=by
 have:∀ c∈signs,c<128∧c≠46:=by decide
 exact this c h
theorem PQ.sign {p q:Nat} (x:PQ p q) (j:Nat):R0 p q j∈signs:=by
 unfold R0;split
 ·exact x.hp
 ·exact x.hq
theorem E5 {p q:Nat} (x:PQ p q) (j:Nat):okU (d6 p q j)∧m0 (d6 p q j)=false:=by
 unfold d6
 split
 ·exact ⟨trivial,rfl⟩
 ·split
  ·exact ⟨x.hp,rfl⟩
  ·split
   ·rename_i h;exact ⟨h,rfl⟩
   ·rename_i h;simp only [not_or] at h;exact ⟨⟨(sign_lt (x.sign j)).1,h.1,h.2.1,h.2.2⟩,rfl⟩
theorem lt4 {i:Nat} (h:i<4):i=0∨i=1∨i=2∨i=3:=by revert h;revert i;decide
theorem b123_low {Γ:y9} {p q j c:Nat} (h2:j≠2) (h3:j≠3) (F:v4 (r9 p q) (.int j)=some (.str [c])):evF Γ 0 2 b123 [r9 p q,.int j]=some (.str (v5 (if c=42∨c=63∨c=91 then .brk c else .lit c))):=by
 have o2:u7 .Eq (.int j) (.int 2)=some false:=o_eqi (decide_eq_false fun h=>h2 (Int.ofNat.inj h))
 have o3:u7 .Eq (.int j) (.int 3)=some false:=o_eqi (decide_eq_false fun h=>h3 (Int.ofNat.inj h))
 by_cases h:c=42∨c=63∨c=91
 ·have o4:u7 .In (.str [c]) (.str [42,63,91])=some true:=o_in (decide_eq_true (by simpa using h));rw [if_pos h];exact i8 (by unfold b123;walk_at "ev")
 ·have o4:u7 .In (.str [c]) (.str [42,63,91])=some false:=o_in (decide_eq_false (by simpa using h));rw [if_neg h];exact i8 (by unfold b123;walk_at "ev")
theorem g123 {k p q j:Nat} (hj:j<4):gam (k + 1) (.ref 123) [r9 p q,.int j]=some (.str (v5 (d6 p q j))):=by
 rw [d8 (by decide) (by decide) (by rfl) rfl];rcases lt4 hj with rfl | rfl | rfl | rfl
 ·exact b123_low (c:=p) (by decide) (by decide) rfl
 ·exact b123_low (c:=q) (by decide) (by decide) rfl
 ·rfl
 ·rfl
theorem d7 {Γ:y9} {A:Addr} {x:Nat} {e:PE} {σ:z9} {v:PV} (h:z8 Γ e .val (frz1 σ x)=some v):w8 Γ A (.assign x e) σ=some (.next,z7 σ x (.val v)):=by
 show (z8 Γ e .val (frz1 σ x)).map _=_;rw [h,Option.map_some,sZ]
theorem T6 {Γ:y9} {A:Addr} {e:PE} {r:List PS} {σ:z9} {v:PV} (h:z8 Γ e .val (frzA σ)=some v):y7 Γ A (.ret e::r) σ=some (.ret v,frzA σ):=by
 show ((z8 Γ e .val (frzA σ)).map _).bind _=_;rw [h];rfl
theorem X1 {α:Type} {x:Nat} {σ:z9} {test:z9→Option Bool} {elt:z9→Option PV} (inj:α→PV) (g:α→PV) (P:α→Bool):∀ (xs:List α),
  (∀ a∈xs,test (z7 σ x (.val (inj a)))=some (P a)∧(P a=true→elt (z7 σ x (.val (inj a)))=some (g a)))→m5 (.one x) σ test elt (xs.map inj)=some ((xs.filter P).map g)
 | [],_=>rfl
 | a::xs,h=>by
  have ih:=X1 inj g P xs fun b hb=>h b (List.mem_cons_of_mem _ hb)
  refine w7 (h a (List.mem_cons_self ..) :) fun h1 h2=>?_
  show ((some (z7 σ x (.val (inj a)))).bind fun σ1=>(test σ1).bind fun b=>if b=true then (elt σ1).bind fun v=>(m5 (.one x) σ test elt (xs.map inj)).map (v :: ·) else m5 (.one x) σ test elt (xs.map inj))=_
  rw [Option.bind_some,h1,Option.bind_some]
  cases hP:P a with
  | true=>rw [if_pos rfl,h2 hP,ih,List.filter_cons_of_pos hP];rfl
  | false=>rw [if_neg Bool.false_ne_true,ih,List.filter_cons_of_neg (by rw [hP];decide)]
theorem rangeL_eq:∀ (m i:Nat),Y1 i m=(List.range' i m).map fun j => .int (j:Int)
 | 0,i=>rfl
 | m + 1,i=>by rw [Y1,rangeL_eq m (i + 1)];rfl
theorem S1 {α:Type} (xs:List α):xs.filter (fun _=>true)=xs:=List.filter_eq_self.mpr fun _ _=>rfl
noncomputable def nf (n:Int):Nat:=(n % 3).toNat
noncomputable def nl (n:Int):Nat:=(n / 3 % 3).toNat
noncomputable def nk (n:Int) (i:Nat):Nat:=(n / 9 / 4 ^ i % 4).toNat
theorem nf_lt (n:Int):nf n<3:=by unfold nf;lia
theorem nl_lt (n:Int):nl n<3:=by unfold nl;lia
theorem nk_lt (n:Int) (i:Nat):nk n i<4:=by unfold nk;have:=Int.emod_lt_of_pos (n / 9 / 4 ^ i) (b:=4) (by decide);have:=Int.emod_nonneg (n / 9 / 4 ^ i) (b:=4) (by decide);lia
theorem nf_int (n:Int):n % 3=(nf n:Int):=by unfold nf;lia
theorem nl_int (n:Int):n / 3 % 3=(nl n:Int):=by unfold nl;lia
theorem nk_int (n:Int) (i:Nat):n / 9 / 4 ^ i % 4=(nk n i:Int):=by unfold nk;have:=Int.emod_nonneg (n / 9 / 4 ^ i) (b:=4) (by decide);lia
noncomputable def T1 (us:List U):List U:=us.flatMap fun u=>[u,.lit 46]
noncomputable def ahead (us:List U):List U:=us.flatMap fun u=>[.lit 46,u]
noncomputable def patF (p q:Nat) (n:Int):List U :=
 let x:=fun i=>d6 p q (nk n i)
 if nf n=2∧nl n=2 then [x 0,.lit 46,x 1,.lit 46,x 2,.lit 46,x 3] else T1 ((List.range (nf n)).map x)
noncomputable def patS (n:Int):Bool := !(nf n == 2 && nl n == 2)
noncomputable def patL (p q:Nat) (n:Int):List U :=
 let x:=fun i=>d6 p q (nk n i)
 if nf n=2∧nl n=2 then [] else ahead ((List.range (nl n)).map fun i=>x (nf n + i))
noncomputable def patU (p q:Nat) (n:Int):List U:=patF p q n ++ (stU (patS n) ++ patL p q n)
theorem N6 (u:U):(v5 u).length≤4:=by cases u <;> simp [v5]
theorem joinDot (l:List (List Nat)) (h:∀ x∈l,x.length≤4) (hl:l.length≤8):(u6 [46] l).length≤small:=by
 have:∀ l:List (List Nat),(∀ x∈l,x.length≤4)→(u6 [46] l).length≤5 * l.length:=by
  intro l
  induction l with
  | nil=>intro _;simp [u6]
  | cons x r ih =>
   intro h
   have hx:=h x (List.mem_cons_self ..)
   have ih:=ih fun y hy=>h y (List.mem_cons_of_mem _ hy)
   induction r with
   | nil=>simp [u6];lia
   | cons y r =>
    rw [u6]
    ·simp at ih ⊢;lia
    ·intro h;cases h
 have:=this l h;unfold small;lia
theorem nk_ev {Γ:y9} {a b:PE} {σ:z9} {n:Int} {i:Nat} (hi':i<4) (h1:z8 Γ a .val σ=some (.int n)) (h2:z8 Γ b .val σ=some (.int i)):z8 Γ (.bin .Mod (.bin .FloorDiv (.bin .FloorDiv a (.lit (.int 9))) (.bin .Pow (.lit (.int 4)) b)) (.lit (.int 4))) .val σ=some (.int (nk n i)):=by
 have hi0:(0:Int)≤(i:Int):=Int.natCast_nonneg i;have hi1:(i:Int)≤16:=Int.ofNat_le.mpr (Nat.le_of_lt (Nat.lt_of_lt_of_le hi' (by decide)));obtain ⟨h3,h4⟩:(0:Int)<4 ^ i∧(4:Int) ^ i<1000000000:=by
  rcases lt4 hi' with rfl | rfl | rfl | rfl <;> decide
 rw [← nk_int];exact Y7 (Y7 (Y7 h1 l3 (o_div (by decide) (by decide))) (Y7 l3 h2 (o_pow (a:=4) (b:=i) hi0 hi1 (by decide) (by decide))) (o_div h3 h4)) l3 (X9 (by decide))
theorem pat_items {k p q:Nat} {n:Int} {m:Nat} (hm:m≤4):m5 (.one 1) ([.unset,.unset,.val (.int n),.val (r9 p q)]:z9) (f0 (gam (k + 1)) []) (z8 (gam (k + 1)) (.call (.ref 123) [(.var 3),(.bin .Mod (.bin .FloorDiv (.bin .FloorDiv (.var 2) (.lit (.int 9))) (.bin .Pow (.lit (.int 4)) (.var 1))) (.lit (.int 4)))]) .val) (Y1 0 m)=some ((List.range m).map fun i => .str (v5 (d6 p q (nk n i)))):=by
 rw [rangeL_eq,← List.range_eq_range'];have:=X1 (x:=1) (σ:=[.unset,.unset,.val (.int n),.val (r9 p q)]) (test:=f0 (gam (k + 1)) []) (elt:=z8 (gam (k + 1)) (.call (.ref 123) [(.var 3),(.bin .Mod (.bin .FloorDiv (.bin .FloorDiv (.var 2) (.lit (.int 9))) (.bin .Pow (.lit (.int 4)) (.var 1))) (.lit (.int 4)))]) .val) (fun j:Nat => .int (j:Int)) (fun i => .str (v5 (d6 p q (nk n i)))) (fun _=>true) (List.range m) ?_
 ·rw [S1] at this;exact this
 ·intro i hi;refine ⟨rfl,fun _=>?_⟩
  have hi':i<4:=by have:=List.mem_range.mp hi;lia
  exact W6 (c9 (m7 rfl) (c9 (nk_ev hi' (m7 rfl) (m7 rfl)) Y8)) (g123 (k:=k) (p:=p) (q:=q) (nk_lt n i))
theorem cap_get {σ:z9} {i:Nat} {v:PV} (h:gt σ i=some (.val v)):(match j5 σ i with | some v=>Mine.Slot.val v | none => .unset) = .val v:=by
 rw [gV,h];rfl
theorem cap_pat {σ:z9} {i j:Nat} {a b:PV} (h0:gt σ j=some (.val a)) (h1:gt σ i=some (.val b)):i7 σ [none,none,some i,some j]=[.unset,.unset,.val b,.val a]:=by
 rw [← cap_get h0,← cap_get h1];rfl
theorem evTs_one {Γ:y9} {e:PE} {σ:z9} {b:Bool} (h:y8 (z8 Γ e .test σ)=some b):f0 Γ [e] σ=some b:=by
 show (y8 (z8 Γ e .test σ)).bind _=_;rw [h];cases b <;> rfl
theorem C5 (c:List Nat):∀ B,u6 [46] (c::B)=c ++ B.flatMap fun t=>46::t
 | []=>(List.append_nil c).symm
 | b::B=>by
  show c ++ [46] ++ u6 [46] (b::B)=_;rw [C5 b B,List.flatMap_cons,List.append_assoc];rfl
theorem joinS_mid (B:List (List Nat)):∀ A,u6 [46] (A ++ [42]::B)=A.flatMap (fun t=>t ++ [46]) ++ (42::B.flatMap fun t=>46::t)
 | []=>C5 [42] B
 | a::A=>by
  have ih:=joinS_mid B A
  cases hA:A ++ [42]::B with
  | nil=>cases A <;> cases hA
  | cons y r =>
   rw [List.cons_append,hA]
   show a ++ [46] ++ u6 [46] (y::r)=_
   rw [← hA,ih,List.flatMap_cons]
   simp only [List.append_assoc]
theorem behind_txt (us:List U):(T1 us).flatMap v5=us.flatMap fun u=>v5 u ++ [46]:=by
 unfold T1;rw [List.flatMap_assoc];rfl
theorem ahead_txt (us:List U):(ahead us).flatMap v5=us.flatMap fun u=>46::v5 u:=by
 unfold ahead;rw [List.flatMap_assoc];refine congrArg (fun f=>us.flatMap f) (funext fun u=>?_)
 show [46] ++ (v5 u ++ [])=_;rw [List.append_nil];rfl
theorem not22 {n:Int} (h:¬ (nf n=2∧nl n=2)):nf n + nl n≠4∧patS n=true:=by
 have:=nf_lt n;have:=nl_lt n;refine ⟨by lia,?_⟩;unfold patS
 cases h1:nf n == 2 with
 | false=>rfl
 | true=>cases h2:nl n == 2 with
  | false=>rfl
  | true=>exact absurd ⟨beq_iff_eq.mp h1,beq_iff_eq.mp h2⟩ h
theorem pat_text (p q:Nat) (n:Int):u6 [46] (((List.range (nf n + nl n)).map fun i=>v5 (d6 p q (nk n i))).take (nf n) ++ (if nf n + nl n=4 then [] else [[42]]) ++ ((List.range (nf n + nl n)).map fun i=>v5 (d6 p q (nk n i))).drop (nf n))=(patU p q n).flatMap v5:=by
 by_cases h:nf n=2∧nl n=2
 ·unfold patU patF patL patS;rw [h.1,h.2];simp [List.range_succ,u6,stU,v5]
 ·refine z6 fun K0=>?_
  obtain ⟨h4,hS⟩:=not22 h;refine K0 ?_;clear K0;rw [if_neg h4,List.range_add,List.map_append,List.take_left' (by rw [List.length_map,List.length_range]),List.drop_left' (by rw [List.length_map,List.length_range]),List.append_assoc,List.singleton_append,joinS_mid];unfold patU patF patL;rw [if_neg h,if_neg h,hS,List.flatMap_append,List.flatMap_append,behind_txt,ahead_txt];simp only [List.flatMap_map];rfl
theorem g128 {k p q:Nat} {n:Int} : gam (k + 2) (.ref 128) [r9 p q,.int n]=some (.str ((patU p q n).flatMap v5)):=by
 rw [d8 (by decide) (by decide) (by rfl) rfl];have hf:=nf_lt n;have hl:=nl_lt n;have e1:=nf_int n;have e2:=nl_int n;have hi:=pat_items (k:=k) (p:=p) (q:=q) (n:=n) (m:=nf n + nl n) (by lia);have ht:=pat_text p q n;have key:∃ σ',y7 (gam (k + 1)) 0 b128 ([r9 p q,.int n].map Mine.Slot.val ++ List.replicate (6 - [r9 p q,PV.int n].length) .unset)=some (.ret (.str ((patU p q n).flatMap v5)),σ'):=by
  generalize hσ:([r9 p q,.int n].map Mine.Slot.val ++ List.replicate (6 - [r9 p q,PV.int n].length) .unset:z9)=σ0;have z:ln σ0=6:=by rw [← hσ];rfl
  have s0:gt σ0 0=some (.val (r9 p q)):=by rw [← hσ];rfl
  have s1:gt σ0 1=some (.val (.int n)):=by rw [← hσ];rfl
  clear hσ;have o1:l4 .Mod (.int n) (.int 3)=some (.int (nf n)):=e1▸X9 (by decide);have o2:l4 .FloorDiv (.int n) (.int 3)=some (.int (n / 3)):=o_div (by decide) (by decide);have o3:l4 .Mod (.int (n / 3)) (.int 3)=some (.int (nl n)):=e2▸X9 (by decide);have f1:w8 (gam (k + 1)) 0 (.assign 2 (.bin .Mod (.var 1) (.lit (.int 3)))) σ0=some (.next,z7 σ0 2 (.val (.int (nf n)))):=by walk_at "ev"
  have f2:w8 (gam (k + 1)) 0 (.assign 3 (.bin .Mod (.bin .FloorDiv (.var 1) (.lit (.int 3))) (.lit (.int 3)))) (z7 σ0 2 (.val (.int (nf n))))=some (.next,z7 (z7 σ0 2 (.val (.int (nf n)))) 3 (.val (.int (nl n)))):=by walk_at "ev"
  generalize hs:z7 (z7 σ0 2 (.val (.int (nf n)))) 3 (.val (.int (nl n)))=σ1 at *;have z1:ln σ1=6:=by rw [← hs];walk_at "slot"
  have t0:gt σ1 0=some (.val (r9 p q)):=by rw [← hs];walk_at "slot"
  have t1:gt σ1 1=some (.val (.int n)):=by rw [← hs];walk_at "slot"
  have t2:gt σ1 2=some (.val (.int (nf n))):=by rw [← hs];walk_at "slot"
  have t3:gt σ1 3=some (.val (.int (nl n))):=by rw [← hs];walk_at "slot"
  clear hs;have hit:f9 .range (.int ((nf n:Int) + (nl n:Int))) .nul=some (Y1 0 (nf n + nl n)):=if_pos ⟨by lia,by lia⟩;generalize hit2:(List.range (nf n + nl n)).map (fun i=>v5 (d6 p q (nk n i)))=L at *
  have hLl:L.length=nf n + nl n:=by rw [← hit2];simp
  have hL4:∀ x∈L,x.length≤4:=by
   intro x hx;rw [← hit2] at hx;refine x12 (List.mem_map.mp hx :) fun i _ o0=>?_;obtain rfl:=o0
   exact N6 _
  have hi':(List.range (nf n + nl n)).map (fun i=>PV.str (v5 (d6 p q (nk n i))))=L.map .str:=by rw [← hit2,List.map_map];rfl
  rw [hi'] at hi;have f3:w8 (gam (k + 1)) 0 (.assign 4 (.comp (.call (.ref 123) [(.var 3),(.bin .Mod (.bin .FloorDiv (.bin .FloorDiv (.var 2) (.lit (.int 9))) (.bin .Pow (.lit (.int 4)) (.var 1))) (.lit (.int 4)))]) (.one 1) .range (.bin .Add (.var 2) (.var 3)) (.lit .nul) [] [none,none,some 1,some 0])) σ1=some (.next,z7 σ1 4 (.val (.list (L.map .str)))):=by
   refine d7 (U3 (by walk_at "ev") (by walk_at "ev") hit ?_);rw [cap_pat (k_f t0) (k_f t1)];exact hi
  have f4:w8 (gam (k + 1)) 0 (.assign 5 (.ife (.cmp .Eq (.bin .Add (.var 2) (.var 3)) (.lit (.int 4))) (.lst []) (.lst [(.lit (.str [42]))]))) (z7 σ1 4 (.val (.list (L.map .str))))=some (.next,z7 (z7 σ1 4 (.val (.list (L.map .str)))) 5 (.val (.list ((if nf n + nl n=4 then [] else [[42]]).map .str)))):=by
   by_cases h4:nf n + nl n=4
   ·have o:u7 .Eq (.int ((nf n:Int) + (nl n:Int))) (.int 4)=some true:=o_eqi (decide_eq_true (Int.ofNat_inj.mpr h4));rw [if_pos h4];exact d7 (e_ift (by walk_at "ev") rfl)
   ·have o:u7 .Eq (.int ((nf n:Int) + (nl n:Int))) (.int 4)=some false:=o_eqi (decide_eq_false fun h=>h4 (Int.ofNat_inj.mp h))
    rw [if_neg h4];exact d7 (e_iff (by walk_at "ev") rfl)
  rw [b128,u9 f1,u9 f2,u9 f3,u9 f4];have hLn:nf n≤(L.map PV.str).length:=by rw [List.length_map,hLl];exact Nat.le_add_right ..
  have hs1:n8 (.list (L.map .str)) .nul (.int (nf n))=some (.list ((L.take (nf n)).map .str)):=(G9 rfl hLn).trans (by rw [List.map_take]);have hs2:n8 (.list (L.map .str)) (.int (nf n)) .nul=some (.list ((L.drop (nf n)).map .str)):=(K8 rfl hLn).trans (by rw [List.map_drop]);generalize hst:(if nf n + nl n=4 then [] else [[42]]:List (List Nat))=S at *;have hS:S.length≤1∧∀ x∈S,x.length≤4:=by rw [← hst];split <;> decide
  have hAl:((L.take (nf n)).map PV.str).length≤2:=by rw [List.length_map,List.length_take];exact Nat.le_trans (Nat.min_le_left ..) (Nat.le_of_lt_succ hf)
  have hBl:((L.drop (nf n)).map PV.str).length≤2:=by rw [List.length_map,List.length_drop,hLl,Nat.add_sub_cancel_left];exact Nat.le_of_lt_succ hl
  have hSl:(S.map PV.str).length≤1:=by rw [List.length_map];exact hS.1
  have hA:((L.take (nf n)).map PV.str).length + (S.map PV.str).length≤small:=Nat.le_trans (Nat.add_le_add hAl hSl) (by decide);have hB:((L.take (nf n)).map PV.str ++ S.map PV.str).length + ((L.drop (nf n)).map PV.str).length≤small:=by rw [List.length_append];exact Nat.le_trans (Nat.add_le_add (Nat.add_le_add hAl hSl) hBl) (by decide)
  have hj:n9 "join" (.str [46]) [.list ((L.take (nf n)).map PV.str ++ S.map PV.str ++ (L.drop (nf n)).map PV.str)]=some (.str ((patU p q n).flatMap v5)):=by
   rw [← List.map_append,← List.map_append,L0 (strsP _),ht];exact joinDot _ (fun x hx=>by
    rcases List.mem_append.mp hx with hx | hx
    ·rcases List.mem_append.mp hx with hx | hx
     ·exact hL4 x (List.mem_of_mem_take hx)
     ·exact hS.2 x hx
    ·exact hL4 x (List.mem_of_mem_drop hx)) (by rw [List.length_append,List.length_append];rw [List.length_map] at hAl hBl hSl;exact Nat.le_trans (Nat.add_le_add (Nat.add_le_add hAl hSl) hBl) (by decide))
  refine ⟨frzA (z7 (z7 σ1 4 (.val (.list (L.map .str)))) 5 (.val (.list (S.map .str)))),?_⟩;have r1:z8 (gam (k + 1)) (.slc (.var 4) (.lit .nul) (.var 2)) .val (frzA (z7 (z7 σ1 4 (.val (.list (L.map .str)))) 5 (.val (.list (S.map .str)))))=some (.list ((L.take (nf n)).map .str)):=by
   walk_at "ev"
  have r2:z8 (gam (k + 1)) (.slc (.var 4) (.var 2) (.lit .nul)) .val (frzA (z7 (z7 σ1 4 (.val (.list (L.map .str)))) 5 (.val (.list (S.map .str)))))=some (.list ((L.drop (nf n)).map .str)):=by
   walk_at "ev"
  have r3:z8 (gam (k + 1)) (.var 5) .val (frzA (z7 (z7 σ1 4 (.val (.list (L.map .str)))) 5 (.val (.list (S.map .str)))))=some (.list (S.map .str)):=by
   walk_at "ev"
  have r4:z8 (gam (k + 1)) (.bin .Add (.bin .Add (.slc (.var 4) (.lit .nul) (.var 2)) (.var 5)) (.slc (.var 4) (.var 2) (.lit .nul))) .val (frzA (z7 (z7 σ1 4 (.val (.list (L.map .str)))) 5 (.val (.list (S.map .str)))))=some (.list ((L.take (nf n)).map PV.str ++ S.map PV.str ++ (L.drop (nf n)).map PV.str)):=by
   exact Y7 (Y7 r1 r3 (S5 hA)) r2 (S5 hB)
  have r5:z8 (gam (k + 1)) (.meth "join" (.lit (.str [46])) [(.bin .Add (.bin .Add (.slc (.var 4) (.lit .nul) (.var 2)) (.var 5)) (.slc (.var 4) (.var 2) (.lit .nul)))]) .val (frzA (z7 (z7 σ1 4 (.val (.list (L.map .str)))) 5 (.val (.list (S.map .str)))))=some (.str ((patU p q n).flatMap v5)):=by
   exact e_meth l3 (c9 r4 Y8) hj
  exact T6 r5
 refine Exists.elim key fun σ' h=>?_
 exact i8 h
theorem behind_all {G:U→Prop} {us:List U} (h46:G (.lit 46)) (h:∀ u∈us,G u):∀ u∈T1 us,G u:=fun u hu=>by
 refine x12 (List.mem_flatMap.mp hu :) fun v hv hu=>?_
 rcases List.mem_cons.mp hu with rfl | hu
 ·exact h _ hv
 ·rw [List.mem_singleton.mp hu];exact h46
theorem ahead_all {G:U→Prop} {us:List U} (h46:G (.lit 46)) (h:∀ u∈us,G u):∀ u∈ahead us,G u:=fun u hu=>by
 refine x12 (List.mem_flatMap.mp hu :) fun v hv hu=>?_
 rcases List.mem_cons.mp hu with rfl | hu
 ·exact h46
 ·rw [List.mem_singleton.mp hu];exact h _ hv
theorem E7 (us:List U):(T1 us).length=2 * us.length:=by
 unfold T1;rw [List.length_flatMap]
 induction us with
 | nil=>rfl
 | cons u us ih=>rw [List.map_cons,List.sum_cons,ih];exact Nat.add_comm 2 (2 * us.length)
theorem J6 (us:List U):(ahead us).length=2 * us.length:=by
 unfold ahead;rw [List.length_flatMap]
 induction us with
 | nil=>rfl
 | cons u us ih=>rw [List.map_cons,List.sum_cons,ih];exact Nat.add_comm 2 (2 * us.length)
theorem map_all {G:U→Prop} {f:Nat→U} (h:∀ i,G (f i)) (l:List Nat):∀ u∈l.map f,G u:=fun u hu=>by
 refine x12 (List.mem_map.mp hu :) fun i _ o0=>?_;obtain rfl:=o0
 exact h i
theorem patU_ok {p q:Nat} (x:PQ p q) (n:Int):(∀ u∈patF p q n,okU u∧m0 u=false)∧(∀ u∈patL p q n,okU u∧m0 u=false)∧(patF p q n).length + (patL p q n).length≤8∧(patS n=false→patL p q n=[]):=by
 have h46:okU (.lit 46)∧m0 (.lit 46)=false:=⟨⟨by decide,by decide,by decide,by decide⟩,rfl⟩;have hx:=fun i=>E5 x (nk n i)
 have hf:=nf_lt n;have hl:=nl_lt n;unfold patF patL;by_cases h:nf n=2∧nl n=2
 ·rw [if_pos h,if_pos h];refine ⟨fun u hu=>?_,fun u hu=>(nomatch hu),(by show 7≤8;decide),fun _=>rfl⟩
  simp only [List.mem_cons,List.mem_singleton] at hu;rcases hu with rfl | rfl | rfl | rfl | rfl | rfl | hu
  all_goals first | exact h46 | exact hx _ | (rcases hu with rfl | hu;exact hx _;cases hu)
 ·rw [if_neg h,if_neg h,E7,J6,List.length_map,List.length_map,List.length_range,List.length_range];exact ⟨behind_all h46 (map_all hx _),ahead_all h46 (map_all (fun i=>hx (nf n + i)) _),by lia,fun q=>by rw [(not22 h).2] at q;cases q⟩
noncomputable def sgn (a:Nat):Nat:=signs.getD a 0
theorem pair_all:∀ a<16,∀ d<15,signs[a]?=some (sgn a)∧signs[(a + 1 + d) % 16]?=some (sgn ((a + 1 + d) % 16))∧Y2 [[sgn a],[sgn ((a + 1 + d) % 16)]]=[[min (sgn a) (sgn ((a + 1 + d) % 16))],[max (sgn a) (sgn ((a + 1 + d) % 16))]] ∧
  min (sgn a) (sgn ((a + 1 + d) % 16))∈signs∧max (sgn a) (sgn ((a + 1 + d) % 16))∈signs∧min (sgn a) (sgn ((a + 1 + d) % 16))<max (sgn a) (sgn ((a + 1 + d) % 16)):=by decide +kernel
theorem mod_nat {n m:Int} (h:0<m):∃ a:Nat,n % m=(a:Int)∧(a:Int)<m :=
 ⟨(n % m).toNat,(Int.toNat_of_nonneg (Int.emod_nonneg n (Int.ne_of_gt h))).symm,by rw [Int.toNat_of_nonneg (Int.emod_nonneg n (Int.ne_of_gt h))];exact Int.emod_lt_of_pos n h⟩
theorem g116 {k:Nat} (n:Int):∃ p q,PQ p q∧gam (k + 1) (.ref 116) [.int n]=some (r9 p q):=by
 refine z6 fun K0=>?_
 refine x12 (mod_nat (n:=n) (m:=16) (by decide) :) fun a e1 ha=>?_
 refine x12 (mod_nat (n:=n / 16) (m:=15) (by decide) :) fun d e2 hd=>?_
 refine x06 (pair_all a (Int.ofNat_lt.mp ha) d (Int.ofNat_lt.mp hd) :) fun hx hy hs h1 h2 h3=>?_
 refine K0 ?_;clear K0;generalize min (sgn a) (sgn ((a + 1 + d) % 16))=p at *;generalize max (sgn a) (sgn ((a + 1 + d) % 16))=q at *;refine ⟨p,q,⟨h1,h2,h3⟩,?_⟩;rw [d8 (by decide) (by decide) (by rfl) rfl];have o1:l4 .Mod (.int n) (.int 16)=some (.int a):=e1▸X9 (by decide);have o2:l4 .FloorDiv (.int n) (.int 16)=some (.int (n / 16)):=o_div (by decide) (by decide);have o3:l4 .Mod (.int (n / 16)) (.int 15)=some (.int d):=e2▸X9 (by decide);have o4:l4 .Mod (.int ((a:Int) + 1 + (d:Int))) (.int 16)=some (.int (((a + 1 + d) % 16:Nat):Int)):=X9 (by decide);have i1:v4 (.str signs) (.int (a:Int))=some (.str [sgn a]):=P6 hx rfl;have i2:v4 (.str signs) (.int (((a + 1 + d) % 16:Nat):Int))=some (.str [sgn ((a + 1 + d) % 16)]):=P6 hy rfl;have hss:Z1 "sorted" [.list [.str [sgn a],.str [sgn ((a + 1 + d) % 16)]]]=some (.list [.str [p],.str [q]]):=by
  rw [show Z1 "sorted" [.list [.str [sgn a],.str [sgn ((a + 1 + d) % 16)]]]=some (.list ((Y2 [[sgn a],[sgn ((a + 1 + d) % 16)]]).map .str)) from rfl,hs];rfl
 generalize (((a + 1 + d) % 16:Nat):Int)=b at *;unfold signs at i1 i2;exact i8 (by unfold b116;walk_at "ev")
noncomputable def fitU:U→Nat→Bool
 | .lit c,x=>x == c
 | .brk c,x=>x == c
 | .neg p,x => !(x == p)
 | _,_=>true
noncomputable def c6:List U→List Nat→Bool
 | u::us,x::xs=>fitU u x && c6 us xs
 | _,_=>true
theorem C0 {u:U} {us:List U} {x:Nat} {xs:List Nat} : c6 (u::us) (x::xs)=(fitU u x && c6 us xs):=rfl
theorem fitsZ_nil {xs:List Nat} : c6 [] xs=true:=by cases xs <;> rfl
theorem fb_core {Γ:y9} {v:PV} {a b r:Bool} {y:List Nat} {x:Nat} {σ:z9} (i0:v4 v (.int 0)=some (.bool a)) (i1:v4 v (.int 1)=some (.str y)) (o:u7 .In (.str [x]) (.str y)=some b) (hr:(b == a) = !r) (z:ln σ=4) :
  ∃ σ',y7 Γ 0 fb (z7 (z7 σ 2 (.val v)) 3 (.val (.str [x])))=some (if r then .next else .ret (.bool false),σ')∧ln σ'=4:=by
 have fa:∀ σ:z9,ln (frzA σ)=ln σ:=fun σ=>by unfold frzA ln;rw [List.length_map]
 unfold fb
 induction r with
 | true =>
  have o2:u7 .Eq (.bool b) (.bool a)=some false:=congrArg some hr
  show ∃ σ',_=some (Fl.next,σ')∧_
  exact ⟨z7 (z7 σ 2 (.val v)) 3 (.val (.str [x])),by walk_at "ev",by walk_at "slot"⟩
 | false =>
  have o2:u7 .Eq (.bool b) (.bool a)=some true:=congrArg some hr
  show ∃ σ',_=some (Fl.ret (.bool false),σ')∧_
  exact ⟨frzA (z7 (z7 σ 2 (.val v)) 3 (.val (.str [x]))),by walk_at "ev",by rw [fa];walk_at "slot"⟩
theorem o_in1 (x c:Nat):u7 .In (.str [x]) (.str [c])=some (x == c) :=
 o_in (by rw [Bool.eq_iff_iff,decide_eq_true_iff,List.mem_singleton,beq_iff_eq])
theorem fb_ev {Γ:y9} {u:U} {x:Nat} {σ:z9} (hu:m0 u=false) (z:ln σ=4):∃ σ',y7 Γ 0 fb (z7 (z7 σ 2 (.val (q0 u))) 3 (.val (.str [x])))=some (if fitU u x then .next else .ret (.bool false),σ')∧ln σ'=4:=by
 induction u with
 | star=>cases hu
 | q=>exact fb_core rfl rfl (o_in rfl) rfl z
 | lit c=>exact fb_core rfl rfl (o_in1 x c) (show (_ == false) = !(x == c) by cases x == c <;> rfl) z
 | brk c=>exact fb_core rfl rfl (o_in1 x c) (show (_ == false) = !(x == c) by cases x == c <;> rfl) z
 | neg c=>exact fb_core rfl rfl (o_in1 x c) (show (_ == true) = !(!(x == c)) by cases x == c <;> rfl) z
theorem S4 {t:Tgt} {b:z9→Option (Fl × z9)} {x:PV} {xs:List PV} {σ σ1 σ2:z9} {r:Option (Fl × z9)} (h1:t.put σ x=some σ1) (h2:b σ1=some (.next,σ2)) (h3:c7 t b xs σ2=r):c7 t b (x::xs) σ=r:=by
 show ((t.put σ x).bind fun σ1=>(b σ1).bind (turnF (c7 t b xs)))=_
 rw [h1,Option.bind_some,h2];exact h3
theorem lf_ret {t:Tgt} {b:z9→Option (Fl × z9)} {x v:PV} {xs:List PV} {σ σ1 σ2:z9} (h1:t.put σ x=some σ1) (h2:b σ1=some (.ret v,σ2)):c7 t b (x::xs) σ=some (.ret v,σ2):=by
 show ((t.put σ x).bind fun σ1=>(b σ1).bind (turnF (c7 t b xs)))=_
 rw [h1,Option.bind_some,h2];rfl
theorem fits_loop {Γ:y9} : ∀ (us:List U) (s:List Nat) (σ:z9),(∀ u∈us,m0 u=false)→ln σ=4→∃ σ',c7 (.two 2 3) (y7 Γ 0 fb) (zipL (us.map q0) (s.map fun c => .str [c])) σ=some (if c6 us s then .next else .ret (.bool false),σ')
 | [],s,σ,_,_=>⟨σ,rfl⟩
 | u::us,[],σ,_,_=>⟨σ,rfl⟩
 | u::us,x::s,σ,h,z=>by
  refine z6 fun K0=>?_
  refine x12 (fb_ev (Γ:=Γ) (x:=x) (h u (List.mem_cons_self ..)) z :) fun σ1 e1 z1=>?_
  refine K0 ?_;clear K0;show ∃ σ',_=some (if (fitU u x && c6 us s)=true then Fl.next else _,σ')
  cases hf:fitU u x with
  | false =>
   rw [hf] at e1
   exact ⟨σ1,lf_ret rfl e1⟩
  | true =>
   rw [hf] at e1
   refine Exists.elim (fits_loop (Γ:=Γ) us s σ1 (fun v hv=>h v (List.mem_cons_of_mem _ hv)) z1 :) fun σ2 e2=>?_
   exact ⟨σ2,S4 rfl e1 e2⟩
theorem g149 {k:Nat} {us:List U} {s:List Nat} (h:∀ u∈us,m0 u=false) (hs:g0 s=true):gam (k + 1) (.ref 149) [.list (us.map q0),.str s]=some (.bool (c6 us s)):=by
 rw [d8 (by decide) (by decide) (by rfl) rfl];have key:∃ σ',y7 (gam k) 0 b149 ([PV.list (us.map q0),.str s].map Mine.Slot.val ++ List.replicate (4 - [PV.list (us.map q0),PV.str s].length) .unset)=some (.ret (.bool (c6 us s)),σ'):=by
  generalize hσ:([PV.list (us.map q0),.str s].map Mine.Slot.val ++ List.replicate (4 - [PV.list (us.map q0),PV.str s].length) .unset:z9)=σ0;have z:ln σ0=4:=by rw [← hσ];rfl
  have s0:gt σ0 0=some (.val (.list (us.map q0))):=by rw [← hσ];rfl
  have s1:gt σ0 1=some (.val (.str s)):=by rw [← hσ];rfl
  clear hσ;refine Exists.elim (fits_loop (Γ:=gam k) us s σ0 h z :) fun σ1 e1=>?_
  have e2:w8 (gam k) 0 (.for (.two 2 3) .zip (.var 0) (.var 1) fb) σ0=some (if c6 us s then .next else .ret (.bool false),σ1):=by
   have a0:z8 (gam k) (.var 0) .val σ0=some (.list (us.map q0)):=by walk_at "ev"
   have a1:z8 (gam k) (.var 1) .val σ0=some (.str s):=by walk_at "ev"
   refine s_for a0 a1 ?_ e1;show (itemsZ (.str s)).map _=_;rw [show itemsZ (.str s)=some (s.map fun c=>PV.str [c]) from if_pos hs];rfl
  rw [b149]
  cases hf:c6 us s with
  | true =>
   rw [hf] at e2
   rw [u9 e2]
   exact ⟨_,T6 rfl⟩
  | false =>
   rw [hf] at e2
   exact ⟨_,M2 e2⟩
 refine Exists.elim key fun σ' h=>?_
 exact i8 h
noncomputable def tk (fs:List U) (st:Bool) (ls:List U) (nm:List Nat):Bool:=(if st then decide (fs.length + ls.length≤nm.length) else decide (nm.length=fs.length)) && (c6 fs nm && c6 ls (nm.drop (nm.length - ls.length)))
structure KI (st:Bool) (fs ls:List U) (acc:List PV) (σ:z9):Prop where
 z:ln σ=9
 s2:gt σ 2=some (.val (.bool st))
 s3:gt σ 3=some (.val (.int (fs.length:Int)))
 s4:gt σ 4=some (.val (.list (fs.map q0)))
 s5:gt σ 5=some (.val (.list (ls.map q0)))
 s6:gt σ 6=some (.own acc)
noncomputable def okNm (ls:List U) (nm:List Nat):Prop:=g0 nm=true∧ls.length≤nm.length
theorem F4 {l:List Nat} {m:Nat} {y:Int} (hy:y=(m:Int)) (h:m≤l.length):n8 (.str l) (.int y) .nul=some (.str (l.drop m)):=by
 subst hy;show some (PV.str (cut l (i6 l.length m) l.length))=_;rw [R7 h,cut_drop]
theorem len_l {l:List PV} {n:Nat} (h:l.length=n):Z1 "len" [.list l]=some (.int (n:Int)):=h▸rfl
section
variable {Γ:y9} {a b c:PE} {σ:z9} {t u:Bool}
theorem t_ift (h:y8 (z8 Γ c .test σ)=some true) (h2:y8 (z8 Γ a .test σ)=some t):y8 (z8 Γ (.ife c a b) .test σ)=some t:=by
 show y8 ((y8 (z8 Γ c .test σ)).bind fun q=>if q=true then z8 Γ a .test σ else z8 Γ b .test σ)=_
 rw [h];exact h2
theorem t_iff (h:y8 (z8 Γ c .test σ)=some false) (h2:y8 (z8 Γ b .test σ)=some t):y8 (z8 Γ (.ife c a b) .test σ)=some t:=by
 show y8 ((y8 (z8 Γ c .test σ)).bind fun q=>if q=true then z8 Γ a .test σ else z8 Γ b .test σ)=_
 rw [h];exact h2
theorem t_both (h:y8 (z8 Γ a .test σ)=some t) (h2:y8 (z8 Γ b .test σ)=some u):y8 (z8 Γ (.bop true a b) .test σ)=some (t && u):=by
 induction t with
 | true=>exact t_go h h2
 | false=>exact t_and h
end
theorem kb_ev {Γ:y9} {st:Bool} {fs ls:List U} {acc:List PV} {σ:z9} {nm:List Nat} (hst:st=false→ls=[])
  (hΓ:∀ (us:List U) (s:List Nat),(∀ u∈us,m0 u=false)→g0 s=true→Γ (.ref 149) [.list (us.map q0),.str s]=some (.bool (c6 us s)))
  (h1:∀ u∈fs,m0 u=false) (h2:∀ u∈ls,m0 u=false) (hn:okNm ls nm) (hz:acc.length<small) (I:KI st fs ls acc σ) :
  ∃ σ',y7 Γ 0 kb (z7 σ 7 (.val (.str nm)))=some (.next,σ')∧KI st fs ls (if tk fs st ls nm then acc ++ [.str nm] else acc) σ':=by
 refine z6 fun K0=>?_
 obtain ⟨z,s2,s3,s4,s5,s6⟩:=I;refine K0 ?_;clear K0;have hsl:n8 (.str nm) (.int ((nm.length:Int) - (ls.length:Int))) .nul=some (.str (nm.drop (nm.length - ls.length))):=F4 (Int.ofNat_sub hn.2).symm (Nat.sub_le ..);have hf:=hΓ fs nm h1 hn.1;have hl:=hΓ ls (nm.drop (nm.length - ls.length)) h2 (List.all_eq_true.mpr fun x hx=>List.all_eq_true.mp hn.1 x (List.mem_of_mem_drop hx))
 have e1:w8 Γ 0 (.assign 8 (.bin .Sub (.len (.var 7)) (.len (.var 5)))) (z7 σ 7 (.val (.str nm)))=some (.next,z7 (z7 σ 7 (.val (.str nm))) 8 (.val (.int ((nm.length:Int) - (ls.length:Int))))):=by
  have o:=len_l (List.length_map (as:=ls) q0)
  walk_at "ev"
 generalize hs:z7 (z7 σ 7 (.val (.str nm))) 8 (.val (.int ((nm.length:Int) - (ls.length:Int))))=σ1 at *;have z':ln σ1=9:=by rw [← hs];walk_at "slot"
 have t2:gt σ1 2=some (.val (.bool st)):=by rw [← hs];walk_at "slot"
 have t3:gt σ1 3=some (.val (.int (fs.length:Int))):=by rw [← hs];walk_at "slot"
 have t4:gt σ1 4=some (.val (.list (fs.map q0))):=by rw [← hs];walk_at "slot"
 have t5:gt σ1 5=some (.val (.list (ls.map q0))):=by rw [← hs];walk_at "slot"
 have t6:gt σ1 6=some (.own acc):=by rw [← hs];walk_at "slot"
 have t7:gt σ1 7=some (.val (.str nm)):=by rw [← hs];walk_at "slot"
 have t8:gt σ1 8=some (.val (.int ((nm.length:Int) - (ls.length:Int)))):=by rw [← hs];walk_at "slot"
 have hc:y8 (z8 Γ (.bop true (.ife (.var 2) (.cmp .GtE (.var 8) (.var 3)) (.cmp .Eq (.var 8) (.var 3))) (.bop true (.call (.ref 149) [(.var 4),(.var 7)]) (.call (.ref 149) [(.var 5),(.slc (.var 7) (.var 8) (.lit .nul))]))) .test σ1)=some (tk fs st ls nm):=by
  have hq:y8 (z8 Γ (.ife (.var 2) (.cmp .GtE (.var 8) (.var 3)) (.cmp .Eq (.var 8) (.var 3))) .test σ1)=some (if st then decide (fs.length + ls.length≤nm.length) else decide (nm.length=fs.length)):=by
   have h0:=hn.2
   induction st with
   | true=>exact t_ift (by walk_at "ev") (t_cmp (m7 t8) (m7 t3) (o_ge (decide_eq_decide.mpr (by lia))))
   | false=>exact t_iff (by walk_at "ev") (t_cmp (m7 t8) (m7 t3) (o_eqi (decide_eq_decide.mpr (by rw [hst rfl];show (nm.length:Int) - 0=_↔_;lia))))
  have hf':y8 (z8 Γ (.call (.ref 149) [(.var 4),(.var 7)]) .test σ1)=some (c6 fs nm):=by walk_at "ev"
  have hl':y8 (z8 Γ (.call (.ref 149) [(.var 5),(.slc (.var 7) (.var 8) (.lit .nul))]) .test σ1)=some (c6 ls (nm.drop (nm.length - ls.length))):=by walk_at "ev"
  exact t_both hq (t_both hf' hl')
 refine ⟨if tk fs st ls nm then σ1.set 6 (.own (acc ++ [.str nm])) else σ1,?_,?_⟩
 ·rw [kb,u9 e1]
  cases hk:tk fs st ls nm with
  | true=>rw [hk] at hc;rw [ite_t hc];walk_at "ev"
  | false=>rw [hk] at hc;rw [V2 hc];rfl
 ·cases tk fs st ls nm with
  | true =>
   show KI st fs ls (acc ++ [.str nm]) (σ1.set 6 (.own (acc ++ [.str nm])))
   constructor <;> walk_at "slot"
  | false=>exact ⟨z',t2,t3,t4,t5,t6⟩
theorem zab {Γ:y9} {st:Bool} {fs ls:List U} (hst:st=false→ls=[])
  (hΓ:∀ (us:List U) (s:List Nat),(∀ u∈us,m0 u=false)→g0 s=true→Γ (.ref 149) [.list (us.map q0),.str s]=some (.bool (c6 us s)))
  (h1:∀ u∈fs,m0 u=false) (h2:∀ u∈ls,m0 u=false):∀ (H:List (List Nat)) (acc:List PV) (σ:z9),(∀ nm∈H,okNm ls nm)→acc.length + H.length≤small→KI st fs ls acc σ →
  ∃ σ',c7 (.one 7) (y7 Γ 0 kb) (H.map .str) σ=some (.next,σ')∧KI st fs ls (acc ++ (H.filter (tk fs st ls)).map .str) σ'
 | [],acc,σ,_,_,I=>⟨σ,rfl,by simpa using I⟩
 | nm::H,acc,σ,h,hz,I=>by
  refine z6 fun K0=>?_
  refine x12 (kb_ev (Γ:=Γ) hst hΓ h1 h2 (h nm (List.mem_cons_self ..)) (by simp at hz;lia) I :) fun σ1 e1 I1=>?_
  refine x12 (zab hst hΓ h1 h2 H _ σ1 (fun x hx=>h x (List.mem_cons_of_mem _ hx)) (by split <;> simp at hz ⊢ <;> lia) I1 :) fun σ2 e2 I2=>?_
  refine K0 ?_;clear K0;refine ⟨σ2,S4 rfl e1 e2,?_⟩;rw [List.filter_cons]
  cases ht:tk fs st ls nm with
  | true=>simpa [ht] using I2
  | false=>simpa [ht] using I2
theorem D8 (u:U):PyData.eqv (l7 (q0 u)) .none=m0 u:=by cases u <;> rfl
theorem G6:∀ us:List U,b6 8 (us.map q0)=true
 | []=>rfl
 | u::us=>by
  show (b9 8 (q0 u) && b6 8 (us.map q0))=true;rw [G6 us];cases u <;> rfl
theorem any_star:∀ us:List U,((m8 (us.map q0)).any fun y=>PyData.eqv y (l7 .nul))=us.any m0
 | []=>rfl
 | u::us=>by
  have h1:PyData.eqv (l7 (q0 u)) (l7 .nul)=m0 u:=D8 u;simp only [List.map_cons,m8,List.any_cons,any_star us,h1]
theorem find_star:∀ us:List U,((m8 (us.map q0)).findIdx? fun y=>PyData.eqv y (l7 .nul))=us.findIdx? m0
 | []=>rfl
 | u::us=>by
  have h1:PyData.eqv (l7 (q0 u)) (l7 .nul)=m0 u:=D8 u;simp only [List.map_cons,m8,List.findIdx?_cons,find_star us,h1]
theorem g156 {k:Nat} {st:Bool} {fs ls:List U} {H:List (List Nat)} (hst:st=false→ls=[]) (h1:∀ u∈fs,m0 u=false) (h2:∀ u∈ls,m0 u=false) (hH:∀ nm∈H,okNm ls nm) (hl:H.length≤64) :
  gam (k + 2) (.ref 156) [.list ((fs ++ (stU st ++ ls)).map q0),.list (H.map .str)]=some (.list ((H.filter (tk fs st ls)).map .str)):=by
 rw [d8 (by decide) (by decide) (by rfl) rfl];generalize hits:(fs ++ (stU st ++ ls)).map q0=its;have hstar:(fs ++ (stU st ++ ls)).any m0=st:=by
  have ha:fs.any m0=false:=List.any_eq_false.mpr fun u hu=>by rw [h1 u hu];simp
  have hb:ls.any m0=false:=List.any_eq_false.mpr fun u hu=>by rw [h2 u hu];simp
  rw [List.any_append,List.any_append,ha,hb]
  cases st <;> rfl
 have hin:b5 .nul its=some st:=by
  unfold b5;rw [← hits,G6,any_star,hstar];rfl
 have hidx:st=true→n9 "index" (.list its) [.nul]=some (.int (fs.length:Int)):=by
  intro hs;have e:n9 "index" (.list its) [.nul]=(U4 .nul its).map fun (k:Nat) => .int (k:Int):=rfl
  have:U4 .nul its=some fs.length:=by
   unfold U4;rw [← hits,G6];show ((m8 _).findIdx? _)=_;rw [find_star,hs];rw [List.findIdx?_append];have:fs.findIdx? m0=none:=List.findIdx?_eq_none_iff.mpr fun u hu=>h1 u hu
   rw [this];simp [stU,m0,List.findIdx?_cons]
  rw [e,this];rfl
 have hlen:its.length=fs.length + ((stU st).length + ls.length):=by rw [← hits];simp
 have hst0:st=false→its.length=fs.length:=fun h=>by rw [hlen,hst h,h];rfl
 have hs1:n8 (.list its) .nul (.int (fs.length:Int))=some (.list (fs.map q0)) :=
  (G9 rfl (by rw [hlen];exact Nat.le_add_right ..)).trans (by rw [← hits,List.map_append,List.take_left' (List.length_map ..)])
 have hs2:n8 (.list its) (.int ((fs.length:Int) + 1)) .nul=some (.list (ls.map q0)):=by
  induction st with
  | true =>
   refine (K8 (m:=fs.length + 1) rfl (by rw [hlen];show _≤fs.length + (1 + ls.length);lia)).trans ?_
   rw [← hits,List.map_append,List.map_append,← List.append_assoc,List.drop_left' (by rw [List.length_append,List.length_map];rfl)]
  | false =>
   have hl':=hst0 rfl
   show some (PV.list (cut its (i6 its.length ((fs.length + 1:Nat):Int)) its.length))=_
   rw [show i6 its.length ((fs.length + 1:Nat):Int)=its.length by unfold i6;rw [if_neg (by lia)];lia,cut_drop,List.drop_length,hst rfl];rfl
 have key:∃ σ',y7 (gam (k + 1)) 0 b156 ([PV.list its,.list (H.map .str)].map Mine.Slot.val ++ List.replicate (9 - [PV.list its,PV.list (H.map .str)].length) .unset)=some (.ret (.list ((H.filter (tk fs st ls)).map .str)),σ'):=by
  generalize hσ:([PV.list its,.list (H.map .str)].map Mine.Slot.val ++ List.replicate (9 - [PV.list its,PV.list (H.map .str)].length) .unset:z9)=σ0;have z:ln σ0=9:=by rw [← hσ];rfl
  have s0:gt σ0 0=some (.val (.list its)):=by rw [← hσ];rfl
  have s1:gt σ0 1=some (.val (.list (H.map .str))):=by rw [← hσ];rfl
  clear hσ;have f1:w8 (gam (k + 1)) 0 (.assign 2 (.cmp .In (.lit .nul) (.var 0))) σ0=some (.next,z7 σ0 2 (.val (.bool st))):=by
   exact d7 (e_cmp l3 (m7 (k_f s0)) hin)
  have f2:w8 (gam (k + 1)) 0 (.assign 3 (.ife (.var 2) (.meth "index" (.var 0) [(.lit .nul)]) (.len (.var 0)))) (z7 σ0 2 (.val (.bool st)))=some (.next,z7 (z7 σ0 2 (.val (.bool st))) 3 (.val (.int (fs.length:Int)))):=by
   refine d7 ?_
   induction st with
   | true=>have o:=hidx rfl;walk_at "ev"
   | false=>have o:=len_l (hst0 rfl);walk_at "ev"
  have f3:w8 (gam (k + 1)) 0 (.assign 4 (.slc (.var 0) (.lit .nul) (.var 3))) (z7 (z7 σ0 2 (.val (.bool st))) 3 (.val (.int (fs.length:Int))))=some (.next,z7 (z7 (z7 σ0 2 (.val (.bool st))) 3 (.val (.int (fs.length:Int)))) 4 (.val (.list (fs.map q0)))):=by
   refine d7 ?_
   walk_at "ev"
  have f4:w8 (gam (k + 1)) 0 (.assign 5 (.slc (.var 0) (.bin .Add (.var 3) (.lit (.int 1))) (.lit .nul))) (z7 (z7 (z7 σ0 2 (.val (.bool st))) 3 (.val (.int (fs.length:Int)))) 4 (.val (.list (fs.map q0))))=some (.next,z7 (z7 (z7 (z7 σ0 2 (.val (.bool st))) 3 (.val (.int (fs.length:Int)))) 4 (.val (.list (fs.map q0)))) 5 (.val (.list (ls.map q0)))):=by
   refine d7 ?_
   walk_at "ev"
  have f5:∀ σ:z9,w8 (gam (k + 1)) 0 (.own 6) σ=some (.next,z7 σ 6 (.own [])):=fun σ=>by walk_at "ev"
  have I:KI st fs ls [] (z7 (z7 (z7 (z7 (z7 σ0 2 (.val (.bool st))) 3 (.val (.int (fs.length:Int)))) 4 (.val (.list (fs.map q0)))) 5 (.val (.list (ls.map q0)))) 6 (.own [])):=by
   constructor <;> walk_at "slot"
  refine x12 (zab (Γ:=gam (k + 1)) hst (fun us s h hs=>g149 h hs) h1 h2 H [] _ hH (by unfold small;simp;lia) I :) fun σ1 e1 I1=>?_
  have t1:gt (z7 (z7 (z7 (z7 (z7 σ0 2 (.val (.bool st))) 3 (.val (.int (fs.length:Int)))) 4 (.val (.list (fs.map q0)))) 5 (.val (.list (ls.map q0)))) 6 (.own [])) 1=some (.val (.list (H.map .str))):=by
   walk_at "slot"
  rw [b156,u9 f1,u9 f2,u9 f3,u9 f4,u9 (f5 _)];generalize z7 (z7 (z7 (z7 (z7 σ0 2 (.val (.bool st))) 3 (.val (.int (fs.length:Int)))) 4 (.val (.list (fs.map q0)))) 5 (.val (.list (ls.map q0)))) 6 (.own [])=σ2 at *;have f6:w8 (gam (k + 1)) 0 (.for (.one 7) .plain (.var 1) (.lit .nul) kb) σ2=some (.next,σ1):=by
   have a0:z8 (gam (k + 1)) (.var 1) .val σ2=some (.list (H.map .str)):=by walk_at "ev"
   have a1:z8 (gam (k + 1)) (.lit .nul) .val σ2=some .nul:=by walk_at "ev"
   exact s_for a0 a1 rfl e1
  rw [u9 f6];exact ⟨frzA σ1,T6 (m7 (k_Ao I1.s6))⟩
 refine Exists.elim key fun σ' h=>?_
 exact i8 h
theorem str_eqv (a b:List Nat):PyData.eqv (l7 (.str a)) (l7 (.str b))=decide (a=b):=by
 show ((⟨a.toArray⟩:Str) == ⟨b.toArray⟩)=decide (a=b);by_cases h:a=b
 ·subst h;simp
 ·rw [decide_eq_false h,beq_eq_false_iff_ne];intro q;injection q with q;exact h (by simpa using congrArg Array.toList q)
theorem Q0:∀ (n:Nat) (l:List (List Nat)),b6 n (l.map .str)=true
 | n,[]=>by cases n <;> rfl
 | n,x::r=>by
  show (b9 n (.str x) && b6 n (r.map .str))=true;rw [Q0 n r];cases n <;> rfl
theorem zac:∀ l:List (List Nat),m8 (l.map .str)=l.map fun x=>l7 (.str x)
 | []=>rfl
 | x::r=>by simp only [List.map_cons,m8,zac r]
theorem C1 (x:List Nat) (l:List (List Nat)):b5 (.str x) (l.map .str)=some (l.contains x):=by
 unfold b5;rw [Q0];refine congrArg some ?_
 induction l with
 | nil=>rfl
 | cons y r ih =>
  simp only [List.map_cons,m8,List.any_cons,List.contains_cons]
  rw [ih,str_eqv]
  congr 1
  by_cases h:x=y
  ·subst h;simp
  ·have:¬ y=x:=fun q=>h q.symm
   rw [decide_eq_false this,beq_eq_false_iff_ne.mpr h]
theorem index_strs (x:List Nat) (l:List (List Nat)):U4 (.str x) (l.map .str)=l.findIdx? (fun y=>decide (y=x)):=by
 unfold U4;rw [Q0];show ((m8 (l.map .str)).findIdx? fun y=>PyData.eqv y (l7 (.str x)))=_
 rw [zac,List.findIdx?_map];congr 1
 funext y
 exact str_eqv y x
theorem M1:∀ (l l':List (List Nat)),PyData.eqvAll (m8 (l.map .str)) (m8 (l'.map .str))=decide (l=l')
 | [],[]=>rfl
 | [],_::_=>rfl
 | _::_,[]=>rfl
 | x::r,y::r'=>by
  simp only [List.map_cons,m8,PyData.eqvAll,str_eqv,M1 r r'];by_cases h1:x=y <;> by_cases h2:r=r' <;> simp [h1,h2]
theorem plain_l (l:List (List Nat)):b9 8 (.list (l.map .str))=true:=Q0 7 l
theorem plain_t (a b:List (List Nat)):b9 8 (.tup [.list (a.map .str),.list (b.map .str)])=true:=by
 show (b6 6 (a.map .str) && (b6 6 (b.map .str) && true))=true;rw [Q0,Q0];rfl
theorem eqo_lists (l l':List (List Nat)):eqo (.list (l.map .str)) (.list (l'.map .str))=some (decide (l=l')):=by
 rw [show eqo (.list (l.map .str)) (.list (l'.map .str))=if (b9 8 (.list (l.map .str)) && b9 8 (.list (l'.map .str)))=true then some (PyData.eqv (l7 (.list (l.map .str))) (l7 (.list (l'.map .str)))) else none from rfl,plain_l,plain_l];exact congrArg some (M1 l l')
theorem eqo_tups (a b c d:List (List Nat)):eqo (.tup [.list (a.map .str),.list (b.map .str)]) (.tup [.list (c.map .str),.list (d.map .str)])=some (decide (a=c) && decide (b=d)):=by
 have:∀ x y:List PV,eqo (.tup x) (.tup y)=if (b9 8 (.tup x) && b9 8 (.tup y))=true then some (PyData.eqv (l7 (.tup x)) (l7 (.tup y))) else none:=fun _ _=>rfl
 rw [this,plain_t,plain_t];show some (PyData.eqvAll (m8 (a.map .str)) (m8 (c.map .str)) && (PyData.eqvAll (m8 (b.map .str)) (m8 (d.map .str)) && true))=_;rw [M1,M1,Bool.and_true]
section
variable {α:Type} {hs:α→List Nat} {V:List α}
noncomputable def sel (hs:α→List Nat) (V:List α) (f:α→Bool):List (List Nat):=(V.filter f).map hs
noncomputable abbrev Asc (hs:α→List Nat) (V:List α):Prop:=(V.map hs).Pairwise (· < ·)
theorem Asc.inj (A:Asc hs V):∀ a∈V,∀ b∈V,hs a=hs b→a=b:=by
 induction V with
 | nil=>intro a ha;cases ha
 | cons x r ih =>
  have A':(hs x::r.map hs).Pairwise (· < ·):=A
  obtain ⟨h1,h2⟩:=List.pairwise_cons.mp A'
  have hne:∀ y∈r,hs x≠hs y:=fun y hy q=>by
   have:=h1 (hs y) (List.mem_map_of_mem hy);rw [q] at this;exact List.lt_irrefl _ this
  intro a ha b hb e
  rcases List.mem_cons.mp ha with ea | ha'
  ·rcases List.mem_cons.mp hb with eb | hb'
   ·rw [ea,eb]
   ·rw [ea] at e;exact absurd e (hne b hb')
  ·rcases List.mem_cons.mp hb with eb | hb'
   ·rw [eb] at e;exact absurd e.symm (hne a ha')
   ·exact ih h2 a ha' b hb' e
theorem Asc.sel (A:Asc hs V) (f:α→Bool):(sel hs V f).Pairwise (· < ·) :=
 List.Pairwise.sublist (List.Sublist.map hs List.filter_sublist) A
theorem sel_mem (A:Asc hs V) (f:α→Bool) {a:α} (ha:a∈V):(sel hs V f).contains (hs a)=f a:=by
 cases hf:f a with
 | true=>exact List.contains_iff_mem.mpr (List.mem_map.mpr ⟨a,List.mem_filter.mpr ⟨ha,hf⟩,rfl⟩)
 | false =>
  cases hc:(Mine.sel hs V f).contains (hs a) with
  | false=>rfl
  | true =>
   refine x12 (List.mem_map.mp (List.contains_iff_mem.mp hc) :) fun b hb e=>?_
   refine w7 (List.mem_filter.mp hb :) fun hb hfb=>?_
   rw [A.inj b hb a ha e,hf] at hfb
   cases hfb
theorem K4 (A:Asc hs V) (f g:α→Bool):(sel hs V f).filter (fun t => !(sel hs V g).contains t)=sel hs V fun a=>f a && !g a:=by
 have key:∀ W:List α,(∀ a∈W,a∈V)→((W.filter f).map hs).filter (fun t => !(sel hs V g).contains t)=(W.filter fun a=>f a && !g a).map hs:=by
  intro W
  induction W with
  | nil=>intro _;rfl
  | cons x r ih =>
   intro h
   have hx:=sel_mem A g (h x (List.mem_cons_self ..))
   have ih:=ih fun a ha=>h a (List.mem_cons_of_mem _ ha)
   cases hf:f x with
   | false=>simp only [List.filter_cons,hf,Bool.false_and,Bool.false_eq_true,if_false];exact ih
   | true =>
    cases hg:g x with
    | false =>
     rw [hg] at hx
     simp only [List.filter_cons,hf,hg,Bool.true_and,Bool.not_false,if_true,List.map_cons,hx]
     rw [ih]
    | true =>
     rw [hg] at hx
     simp only [List.filter_cons,hf,hg,Bool.true_and,Bool.not_true,Bool.false_eq_true,if_false,if_true,List.map_cons,hx]
     exact ih
 exact key V fun _ h=>h
theorem ascS_of:∀ {l:List (List Nat)},l.Pairwise (· < ·)→k9 l=true
 | [],_=>rfl
 | [_],_=>rfl
 | x::y::r,h=>by
  obtain ⟨h1,h2⟩:=List.pairwise_cons.mp h;simp only [k9,Bool.and_eq_true,decide_eq_true_eq];exact ⟨h1 y (List.mem_cons_self ..),ascS_of h2⟩
theorem X4 (f:α→Bool):(sel hs V f).length≤V.length:=by
 unfold sel;rw [List.length_map];exact List.length_filter_le _ _
theorem sld_sel (A:Asc hs V) (hl:V.length≤64) (f g:α→Bool):sld [.list ((sel hs V f).map .str),.list ((sel hs V g).map .str)]=some (.tup [.list ((sel hs V fun a=>f a && !g a).map .str),.list ((sel hs V fun a=>g a && !f a).map .str)]):=by
 have h1:=X4 (hs:=hs) (V:=V) f;have h2:=X4 (hs:=hs) (V:=V) g;have e:sld [.list ((sel hs V f).map .str),.list ((sel hs V g).map .str)]=(i4? ((sel hs V f).map .str)).bind fun x=>(i4? ((sel hs V g).map .str)).bind fun y=>if sldC x y=true then some (sldR x y) else none:=rfl
 rw [e,strsP,strsP];show (if sldC (sel hs V f) (sel hs V g)=true then some (sldR (sel hs V f) (sel hs V g)) else none)=_;rw [if_pos]
 ·unfold sldR;rw [K4 A,K4 A]
 ·unfold sldC;rw [ascS_of (A.sel f),ascS_of (A.sel g),decide_eq_true (Nat.le_trans h1 hl),decide_eq_true (Nat.le_trans h2 hl)];rfl
theorem D9 {f g h:α→Bool} (hd:∀ a,h a=(f a || g a)) (hx:∀ a,¬ (f a=true∧g a=true)):∀ W:List α,(W.filter h).Perm (W.filter f ++ W.filter g)
 | [] => .refl _
 | x::r=>by
  have ih:=D9 hd hx r;have hh:=hd x
  cases hf:f x with
  | true =>
   have hg:g x=false:=by
    cases hg:g x with
    | false=>rfl
    | true=>exact absurd ⟨hf,hg⟩ (hx x)
   rw [hf,hg] at hh
   simp only [List.filter_cons,hf,hg,hh,Bool.or_false,if_true,Bool.false_eq_true,if_false,List.cons_append]
   exact ih.cons x
  | false =>
   cases hg:g x with
   | true =>
    rw [hf,hg] at hh
    simp only [List.filter_cons,hf,hg,hh,Bool.or_true,if_true,Bool.false_eq_true,if_false]
    exact (ih.cons x).trans List.perm_middle.symm
   | false =>
    rw [hf,hg] at hh
    simp only [List.filter_cons,hf,hg,hh,Bool.or_false,Bool.false_eq_true,if_false]
    exact ih
theorem lt_nlt {l:List (List Nat)} (h:l.Pairwise (· < ·)):l.Pairwise (fun a b=>¬ b<a) :=
 h.imp fun {a b} h1 h2=>List.lt_irrefl _ (List.lt_trans h1 h2)
theorem sort_sel (A:Asc hs V) {f g h:α→Bool} (hd:∀ a,h a=(f a || g a)) (hx:∀ a,¬ (f a=true∧g a=true)):Y2 (sel hs V f ++ sel hs V g)=sel hs V h:=by
 refine (F6 ?_ (lt_nlt (A.sel h))).symm;unfold sel;rw [← List.map_append];exact (D9 hd hx V).map hs
theorem J9 {l:List (List Nat)} (hl:l.length<64):Z1 "sorted" [.list (l.map .str)]=some (.list ((Y2 l).map .str)):=by
 have:Z1 "sorted" [.list (l.map .str)]=if (l.map PV.str).length<64 then (i4? (l.map .str)).map fun l => .list ((Y2 l).map .str) else none:=rfl
 rw [this,if_pos (by simpa using hl),strsP];rfl
end
noncomputable abbrev Two:=Nat × Nat
noncomputable abbrev q9:=Two × Two
noncomputable def s2 (x:Two):List Nat:=[x.1,46,x.2]
noncomputable def s4 (h:q9):List Nat:=[h.1.1,46,h.1.2,46,h.2.1,46,h.2.2]
noncomputable def TW (p q:Nat):List Two:=[(p,p),(p,q),(q,p),(q,q)]
noncomputable def HW (p q:Nat):List q9:=(TW p q).flatMap fun x=>(TW p q).map fun y=>(x,y)
theorem c_lt {a b:Nat} {l m:List Nat} : a::l<b::m↔a<b∨a=b∧l<m:=List.cons_lt_cons_iff
theorem S0 {a:Nat} {l m:List Nat} (h:l<m):a::l<a::m:=c_lt.mpr (.inr ⟨rfl,h⟩)
theorem asc2 {p q:Nat} (h:p<q):Asc s2 (TW p q):=by
 have h1:∀ {a b c:Nat},b<c→([a,46,b]:List Nat)<[a,46,c]:=fun h=>S0 (S0 (c_lt.mpr (.inl h)))
 have h2:∀ {a b:Nat},([p,46,a]:List Nat)<[q,46,b]:=c_lt.mpr (.inl h);exact .cons (fun _ m=>by
  rcases List.mem_cons.mp m with rfl | m
  ·exact h1 h
  ·rcases List.mem_cons.mp m with rfl | m
   ·exact h2
   ·rw [List.mem_singleton.mp m];exact h2) (.cons (fun _ m=>by
  rcases List.mem_cons.mp m with rfl | m
  ·exact h2
  ·rw [List.mem_singleton.mp m];exact h2) (.cons (fun _ m=>by rw [List.mem_singleton.mp m];exact h1 h) (.cons (fun _ m=>nomatch m) .nil)))
theorem asc4 {p q:Nat} (h:p<q):Asc s4 (HW p q):=by
 have A:=List.pairwise_map.mp (asc2 h);refine List.pairwise_map.mpr (List.pairwise_flatMap.mpr ⟨fun x _=>List.pairwise_map.mpr (A.imp fun {y y'} hy=>S0 (S0 (S0 (S0 hy)))),A.imp fun {x x'} hx a ha b hb=>?_⟩)
 refine x12 (List.mem_map.mp ha :) fun y _ o0=>?_;obtain rfl:=o0
 refine x12 (List.mem_map.mp hb :) fun y' _ o0=>?_;obtain rfl:=o0
 rcases c_lt.mp hx with h | ⟨e,h⟩
 ·exact c_lt.mpr (.inl h)
 ·rcases c_lt.mp h with h | ⟨_,h⟩
  ·exact absurd h (Nat.lt_irrefl _)
  ·rcases c_lt.mp h with h | ⟨_,h⟩
   ·exact c_lt.mpr (.inr ⟨e,S0 (c_lt.mpr (.inl h))⟩)
   ·exact absurd h (List.lt_irrefl _)
theorem T9 {p q:Nat} {x:Two} (h:x∈TW p q):(x.1=p∨x.1=q)∧(x.2=p∨x.2=q):=by
 simp [TW] at h;rcases h with rfl | rfl | rfl | rfl <;> simp
theorem HW_mem {p q:Nat} {h:q9} (x:h∈HW p q):h.1∈TW p q∧h.2∈TW p q:=by
 simp only [HW,List.mem_flatMap,List.mem_map] at x;obtain ⟨a,ha,b,hb,rfl⟩:=x;exact ⟨ha,hb⟩
theorem mem_HW {p q:Nat} {h:q9} (h1:h.1∈TW p q) (h2:h.2∈TW p q):h∈HW p q:=by
 simp only [HW,List.mem_flatMap,List.mem_map];exact ⟨h.1,h1,h.2,h2,rfl⟩
theorem HW_len (p q:Nat):(HW p q).length=16:=rfl
noncomputable def okK (p q j x:Nat):Bool:=if j=0 then x == p else if j=1 then x == q else if j=2 then true else !(x == p)
noncomputable def okL (p q:Nat) (n:Int):Nat→List Nat→Bool
 | _,[]=>true
 | i,x::xs=>okK p q (nk n i) x && okL p q n (i + 1) xs
noncomputable def plainL (p q:Nat) (n:Int) (l:List Nat):Bool:=okL p q n 0 (l.take (nf n) ++ l.drop (4 - nl n))
noncomputable def o9 (p q:Nat) (n:Int) (h:q9):Bool:=plainL p q n [h.1.1,h.1.2,h.2.1,h.2.2]
theorem fit_unit {p q j x:Nat} (hj:j<4):fitU (d6 p q j) x=okK p q j x:=by
 rcases lt4 hj with rfl | rfl | rfl | rfl
 ·show fitU (if p=42∨p=63∨p=91 then .brk p else .lit p) x=(x == p)
  split <;> rfl
 ·show fitU (if q=42∨q=63∨q=91 then .brk q else .lit q) x=(x == q)
  split <;> rfl
 ·rfl
 ·rfl
theorem okL_app (p q:Nat) (n:Int) (B:List Nat):∀ (A:List Nat) (i:Nat),okL p q n i (A ++ B)=(okL p q n i A && okL p q n (i + A.length) B)
 | [],i=>rfl
 | a::A,i=>by
  show (okK p q (nk n i) a && okL p q n (i + 1) (A ++ B))=(okK p q (nk n i) a && okL p q n (i + 1) A && okL p q n (i + (A.length + 1)) B);rw [okL_app p q n B A (i + 1),Bool.and_assoc,Nat.add_right_comm i 1];rfl
theorem tk_plain (p q:Nat) (n:Int) (h:q9):tk (patF p q n) (patS n) (patL p q n) (s4 h)=o9 p q n h:=by
 obtain ⟨⟨a,b⟩,⟨c,d⟩⟩:=h;have hk:=fun i x=>fit_unit (p:=p) (q:=q) (x:=x) (nk_lt n i)
 have h46:fitU (.lit 46) 46=true:=rfl;by_cases hc:nf n=2∧nl n=2
 ·unfold o9 plainL patF patS patL tk s4;rw [hc.1,hc.2];simp [C0,fitsZ_nil,okL,hk,h46,Bool.and_assoc]
 ·refine w7 (not22 hc :) fun _ hS=>?_
  have hf:nf n=0∨nf n=1∨nf n=2:=by have:=nf_lt n;lia
  have hl:nl n=0∨nl n=1∨nl n=2:=by have:=nl_lt n;lia
  have hF:c6 (patF p q n) [a,46,b,46,c,46,d]=okL p q n 0 ([a,b,c,d].take (nf n)):=by
   unfold patF;rw [if_neg hc];rcases hf with e | e | e <;> rw [e]
   ·rfl
   ·show (fitU (d6 p q (nk n 0)) a && (true && true))=(okK p q (nk n 0) a && true);rw [hk];rfl
   ·show (fitU (d6 p q (nk n 0)) a && (true && (fitU (d6 p q (nk n 1)) b && (true && true))))=(okK p q (nk n 0) a && (okK p q (nk n 1) b && true));rw [hk,hk];rfl
  have fl:(patF p q n).length=2 * nf n:=by unfold patF;rw [if_neg hc,E7,List.length_map,List.length_range]
  have ll:(patL p q n).length=2 * nl n:=by unfold patL;rw [if_neg hc,J6,List.length_map,List.length_range]
  have hL:c6 (patL p q n) ([a,46,b,46,c,46,d].drop (7 - 2 * nl n))=okL p q n (0 + ([a,b,c,d].take (nf n)).length) ([a,b,c,d].drop (4 - nl n)):=by
   have hm:0 + ([a,b,c,d].take (nf n)).length=nf n:=by rw [Nat.zero_add,List.length_take];exact Nat.min_eq_left (by show nf n≤4;lia)
   rw [hm];unfold patL;rw [if_neg hc];rcases hl with e | e | e <;> rw [e]
   ·rfl
   ·show (true && (fitU (d6 p q (nk n (nf n))) d && true))=(okK p q (nk n (nf n)) d && true);rw [hk];rfl
   ·show (true && (fitU (d6 p q (nk n (nf n))) c && (true && (fitU (d6 p q (nk n (nf n + 1))) d && true))))=(okK p q (nk n (nf n)) c && (okK p q (nk n (nf n + 1)) d && true));rw [hk,hk];rfl
  unfold o9 plainL tk;rw [okL_app,← hF,← hL,hS,if_pos rfl,fl,ll];show (decide (2 * nf n + 2 * nl n≤7) && _)=_;rw [decide_eq_true (by lia)];rfl
section
variable {Γ:y9} {p q:Nat} {n:Int} {σ:z9}
theorem eq1 (x c:Nat):decide ([x]=[c])=(x == c):=by rw [Bool.eq_iff_iff,decide_eq_true_iff,List.cons.injEq,beq_iff_eq,and_iff_left rfl]
theorem o_eq1 (x c:Nat):u7 .Eq (.str [x]) (.str [c])=some (x == c):=o_eqs (eq1 x c)
theorem o_ne1 (x c:Nat):u7 .NotEq (.str [x]) (.str [c])=some (!(x == c)):=o_nes (by rw [eq1])
theorem pb_ev {i x:Nat} (hi:i<4) (z:ln σ=8) (s0:gt σ 0=some (.val (r9 p q))) (s1:gt σ 1=some (.val (.int n))) :
  ∃ σ',y7 Γ 0 pb (z7 (z7 σ 5 (.val (.int (i:Int)))) 6 (.val (.str [x])))=some (if okK p q (nk n i) x then .next else .ret (.bool false),σ')∧(okK p q (nk n i) x=true→ln σ'=8∧gt σ' 0=some (.val (r9 p q))∧gt σ' 1=some (.val (.int n))):=by
 have hk4:=nk_lt n i;have e1:w8 Γ 0 (.assign 7 (.bin .Mod (.bin .FloorDiv (.bin .FloorDiv (.var 1) (.lit (.int 9))) (.bin .Pow (.lit (.int 4)) (.var 5))) (.lit (.int 4)))) (z7 (z7 σ 5 (.val (.int (i:Int)))) 6 (.val (.str [x])))=some (.next,z7 (z7 (z7 σ 5 (.val (.int (i:Int)))) 6 (.val (.str [x]))) 7 (.val (.int (nk n i:Int)))) :=
  d7 (nk_ev hi (by walk_at "ev") (by walk_at "ev"))
 rw [pb,u9 e1];generalize nk n i=j at *;generalize hs:z7 (z7 (z7 σ 5 (.val (.int (i:Int)))) 6 (.val (.str [x]))) 7 (.val (.int (j:Int)))=σ1 at *;have z':ln σ1=8:=by rw [← hs];walk_at "slot"
 have t0:gt σ1 0=some (.val (r9 p q)):=by rw [← hs];walk_at "slot"
 have t1:gt σ1 1=some (.val (.int n)):=by rw [← hs];walk_at "slot"
 have t6:gt σ1 6=some (.val (.str [x])):=by rw [← hs];walk_at "slot"
 have t7:gt σ1 7=some (.val (.int (j:Int))):=by rw [← hs];walk_at "slot"
 clear hs e1;have i0:v4 (r9 p q) (.int 0)=some (.str [p]):=rfl;have i1:v4 (r9 p q) (.int 1)=some (.str [q]):=rfl;rcases lt4 hk4 with rfl | rfl | rfl | rfl
 ·have o:=o_ne1 x p;show ∃ σ',_=some (if (x == p)=true then Fl.next else .ret (.bool false),σ')∧((x == p)=true→_)
  cases hx:x == p with
  | true=>rw [hx] at o;exact ⟨σ1,(by walk_at "ev" : _=some (Fl.next,σ1)),fun _=>⟨z',t0,t1⟩⟩
  | false=>rw [hx] at o;exact ⟨frzA σ1,(by walk_at "ev" : _=some (Fl.ret (.bool false),frzA σ1)),fun q=>(nomatch q)⟩
 ·have o:=o_ne1 x q;show ∃ σ',_=some (if (x == q)=true then Fl.next else .ret (.bool false),σ')∧((x == q)=true→_)
  cases hx:x == q with
  | true=>rw [hx] at o;exact ⟨σ1,(by walk_at "ev" : _=some (Fl.next,σ1)),fun _=>⟨z',t0,t1⟩⟩
  | false=>rw [hx] at o;exact ⟨frzA σ1,(by walk_at "ev" : _=some (Fl.ret (.bool false),frzA σ1)),fun q=>(nomatch q)⟩
 ·exact ⟨σ1,(by walk_at "ev" : _=some (Fl.next,σ1)),fun _=>⟨z',t0,t1⟩⟩
 ·have o:=o_eq1 x p;show ∃ σ',_=some (if (!(x == p))=true then Fl.next else .ret (.bool false),σ')∧((!(x == p))=true→_)
  cases hx:x == p with
  | true=>rw [hx] at o;exact ⟨frzA σ1,(by walk_at "ev" : _=some (Fl.ret (.bool false),frzA σ1)),fun q=>(nomatch q)⟩
  | false=>rw [hx] at o;exact ⟨σ1,(by walk_at "ev" : _=some (Fl.next,σ1)),fun _=>⟨z',t0,t1⟩⟩
theorem B2:∀ (xs:List Nat) (i:Nat) (σ:z9),i + xs.length≤4→ln σ=8→gt σ 0=some (.val (r9 p q))→gt σ 1=some (.val (.int n)) →
  ∃ σ',c7 (.two 5 6) (y7 Γ 0 pb) (W7 i (xs.map fun c => .str [c])) σ=some (if okL p q n i xs then .next else .ret (.bool false),σ')
 | [],i,σ,_,_,_,_=>⟨σ,rfl⟩
 | x::xs,i,σ,hi,z,s0,s1=>by
  have hi':i<4∧i + 1 + xs.length≤4:=by rw [List.length_cons] at hi;lia
  refine z6 fun K0=>?_
  refine x12 (pb_ev (Γ:=Γ) (i:=i) (x:=x) hi'.1 z s0 s1 :) fun σ1 e1 h1=>?_
  refine K0 ?_;clear K0;show ∃ σ',_=some (if (okK p q (nk n i) x && okL p q n (i + 1) xs)=true then Fl.next else _,σ')
  cases hf:okK p q (nk n i) x with
  | false =>
   rw [hf] at e1
   exact ⟨σ1,lf_ret rfl e1⟩
  | true =>
   rw [hf] at e1
   refine z6 fun K0=>?_
   refine x03 (h1 hf :) fun z1 t0 t1=>?_
   refine Exists.elim (B2 xs (i + 1) σ1 hi'.2 z1 t0 t1 :) fun σ2 e2=>?_
   refine K0 ?_
   clear K0
   exact ⟨σ2,S4 rfl e1 e2⟩
end
theorem split4 {h:q9} (h1:h.1.1≠46) (h2:h.1.2≠46) (h3:h.2.1≠46) (h4:h.2.2≠46):m3 46 (s4 h)=[[h.1.1],[h.1.2],[h.2.1],[h.2.2]]:=by
 simp [m3,s4,h1,h2,h3,h4]
theorem B0 {s:List Nat} {c:Nat} (h:s.length<small):n9 "split" (.str s) [.str [c]]=some (.list ((m3 c s).map .str)):=by
 have e:n9 "split" (.str s) [.str [c]]=if s.length<small then some (.list ((m3 c s).map .str)) else none:=rfl;rw [e,if_pos h]
theorem g135 {k p q:Nat} {n:Int} {h:q9} (h1:h.1.1≠46) (h2:h.1.2≠46) (h3:h.2.1≠46) (h4:h.2.2≠46):gam (k + 1) (.ref 135) [r9 p q,.int n,.str (s4 h)]=some (.bool (o9 p q n h)):=by
 rw [d8 (by decide) (by decide) (by rfl) rfl];have hf:=nf_lt n;have hl:=nl_lt n;have hfi:=nf_int n;have hli:=nl_int n;have hsp:n9 "split" (.str (s4 h)) [.str [46]]=some (.list ([[h.1.1],[h.1.2],[h.2.1],[h.2.2]].map .str)):=by
  rw [B0 (by simp [s4,small]),split4 h1 h2 h3 h4]
 have ha:n8 (.list ([[h.1.1],[h.1.2],[h.2.1],[h.2.2]].map PV.str)) .nul (.int (n % 3))=some (.list (([h.1.1,h.1.2,h.2.1,h.2.2].take (nf n)).map fun c => .str [c])):=by
  rw [G9 hfi (by simp;lia)];have:([[h.1.1],[h.1.2],[h.2.1],[h.2.2]].map PV.str)=[h.1.1,h.1.2,h.2.1,h.2.2].map fun c=>PV.str [c]:=rfl
  rw [this,List.map_take]
 have hb:n8 (.list ([[h.1.1],[h.1.2],[h.2.1],[h.2.2]].map PV.str)) (.int (4 - n / 3 % 3)) .nul=some (.list (([h.1.1,h.1.2,h.2.1,h.2.2].drop (4 - nl n)).map fun c => .str [c])):=by
  rw [K8 (m:=4 - nl n) (by lia) (by simp)];have:([[h.1.1],[h.1.2],[h.2.1],[h.2.2]].map PV.str)=[h.1.1,h.1.2,h.2.1,h.2.2].map fun c=>PV.str [c]:=rfl
  rw [this,List.map_drop]
 have hpl:o9 p q n h=okL p q n 0 ([h.1.1,h.1.2,h.2.1,h.2.2].take (nf n) ++ [h.1.1,h.1.2,h.2.1,h.2.2].drop (4 - nl n)):=rfl;rw [hpl];generalize hA:[h.1.1,h.1.2,h.2.1,h.2.2].take (nf n)=A at *;generalize hB:[h.1.1,h.1.2,h.2.1,h.2.2].drop (4 - nl n)=B at *;have lA:A.length=nf n:=by rw [← hA];simp;lia
 have lB:B.length=nl n:=by rw [← hB];simp;lia
 have key:∃ σ',y7 (gam k) 0 b135 ([r9 p q,.int n,.str (s4 h)].map Mine.Slot.val ++ List.replicate (8 - [r9 p q,PV.int n,.str (s4 h)].length) .unset)=some (.ret (.bool (okL p q n 0 (A ++ B))),σ'):=by
  generalize hσ:([r9 p q,.int n,.str (s4 h)].map Mine.Slot.val ++ List.replicate (8 - [r9 p q,PV.int n,.str (s4 h)].length) .unset:z9)=σ0;have z:ln σ0=8:=by rw [← hσ];rfl
  have s0:gt σ0 0=some (.val (r9 p q)):=by rw [← hσ];rfl
  have s1:gt σ0 1=some (.val (.int n)):=by rw [← hσ];rfl
  have s2':gt σ0 2=some (.val (.str (s4 h))):=by rw [← hσ];rfl
  clear hσ;generalize [[h.1.1],[h.1.2],[h.2.1],[h.2.2]].map PV.str=W at *;have f1:w8 (gam k) 0 (.assign 3 (.meth "split" (.var 2) [(.lit (.str [46]))])) σ0=some (.next,z7 σ0 3 (.val (.list W))):=by
   refine d7 ?_
   walk_at "ev"
  have f2:w8 (gam k) 0 (.assign 4 (.bin .Add (.slc (.var 3) (.lit .nul) (.bin .Mod (.var 1) (.lit (.int 3)))) (.slc (.var 3) (.bin .Sub (.lit (.int 4)) (.bin .Mod (.bin .FloorDiv (.var 1) (.lit (.int 3))) (.lit (.int 3)))) (.lit .nul)))) (z7 σ0 3 (.val (.list W)))=some (.next,z7 (z7 σ0 3 (.val (.list W))) 4 (.val (.list ((A ++ B).map fun c => .str [c])))):=by
   refine d7 ?_;have hz:A.length + B.length≤small:=by unfold small;lia
   have o1:l4 .Mod (.int n) (.int 3)=some (.int (n % 3)):=X9 (by decide);have o2:l4 .FloorDiv (.int n) (.int 3)=some (.int (n / 3)):=o_div (by decide) (by decide);have o3:l4 .Mod (.int (n / 3)) (.int 3)=some (.int (n / 3 % 3)):=X9 (by decide);rw [List.map_append];have o4:l4 .Add (.list (A.map fun c => .str [c])) (.list (B.map fun c => .str [c]))=some (.list ((A.map fun c=>PV.str [c]) ++ B.map fun c => .str [c])):=S5 (by rw [List.length_map,List.length_map];exact hz)
   walk_at "ev"
  generalize hs:z7 (z7 σ0 3 (.val (.list W))) 4 (.val (.list ((A ++ B).map fun c => .str [c])))=σ1 at *
  have z1:ln σ1=8:=by rw [← hs];walk_at "slot"
  have t0:gt σ1 0=some (.val (r9 p q)):=by rw [← hs];walk_at "slot"
  have t1:gt σ1 1=some (.val (.int n)):=by rw [← hs];walk_at "slot"
  have t4:gt σ1 4=some (.val (.list ((A ++ B).map fun c => .str [c]))):=by rw [← hs];walk_at "slot"
  refine Exists.elim (B2 (Γ:=gam k) (p:=p) (q:=q) (n:=n) (A ++ B) 0 σ1 (by simp;lia) z1 t0 t1 :) fun σ2 e2=>?_
  have f3:w8 (gam k) 0 (.for (.two 5 6) .enum (.var 4) (.lit .nul) pb) σ1=some (if okL p q n 0 (A ++ B) then .next else .ret (.bool false),σ2):=by
   exact s_for (m7 t4) l3 rfl e2
  rw [b135,u9 f1,u9 f2]
  cases hf:okL p q n 0 (A ++ B) with
  | true =>
   rw [hf] at f3
   rw [u9 f3]
   exact ⟨_,T6 rfl⟩
  | false =>
   rw [hf] at f3
   exact ⟨_,M2 f3⟩
 refine z6 fun K0=>?_
 refine Exists.elim key fun σ' h=>?_
 refine K0 ?_;clear K0;exact i8 h
noncomputable abbrev y6 (l:List (List Nat)):PV := .list (l.map .str)
noncomputable abbrev Z8 (p q:Nat):List (List Nat):=(HW p q).map s4
theorem filter_selH (p q:Nat) (g:List Nat→Bool):(Z8 p q).filter g=sel s4 (HW p q) fun h=>g (s4 h):=by
 rw [List.filter_map];rfl
theorem filter_sel {α:Type} {hs:α→List Nat} {V:List α} (f:α→Bool) (g:List Nat→Bool):(sel hs V f).filter g=sel hs V fun h=>f h && g (hs h):=by
 unfold sel;rw [List.filter_map,List.filter_filter];congr 1;refine List.filter_congr fun x _=>?_
 simp [Bool.and_comm]
theorem PQ.ok4 {p q:Nat} (x:PQ p q) {h:q9} (hh:h∈HW p q):g0 (s4 h)=true∧h.1.1≠46∧h.1.2≠46∧h.2.1≠46∧h.2.2≠46:=by
 refine z6 fun K0=>?_
 refine w7 (HW_mem hh :) fun h1 h2=>?_
 refine w7 (T9 h1 :) fun a b=>?_
 refine w7 (T9 h2 :) fun c d=>?_
 refine K0 ?_;clear K0;have hp:=sign_lt x.hp;have hq:=sign_lt x.hq;have ha:h.1.1<128∧h.1.1≠46:=by rcases a with e | e <;> rw [e] <;> assumption
 have hb:h.1.2<128∧h.1.2≠46:=by rcases b with e | e <;> rw [e] <;> assumption
 have hc:h.2.1<128∧h.2.1≠46:=by rcases c with e | e <;> rw [e] <;> assumption
 have hd:h.2.2<128∧h.2.2≠46:=by rcases d with e | e <;> rw [e] <;> assumption
 exact ⟨by simp [g0,s4,ha,hb,hc,hd],ha.2,hb.2,hc.2,hd.2⟩
section
variable {p q:Nat} (x:PQ p q)
include x
theorem readPat {k:Nat} {n:Int} : gam (k + 3) (.ref 142) [.str (l9 (patU p q n))]=some (.list ((patU p q n).map q0))∧gam (k + 3) (.ref 50) [.str ((patU p q n).flatMap v5)]=some (.str (l9 (patU p q n)))∧gam (k + 3) (.ref 128) [r9 p q,.int n]=some (.str ((patU p q n).flatMap v5)):=by
 refine z6 fun K0=>?_
 refine x04 (patU_ok x n :) fun h1 h2 h3 h4=>?_
 refine K0 ?_;clear K0;have hok:∀ u∈patU p q n,okU u:=by
  intro u hu;rcases List.mem_append.mp hu with hu | hu
  ·exact (h1 u hu).1
  ·rcases List.mem_append.mp hu with hu | hu
   ·cases hs:patS n <;> rw [hs] at hu <;> simp [stU] at hu
    subst hu;trivial
   ·exact (h2 u hu).1
 have hst:(stU (patS n)).length≤1:=by cases patS n <;> simp [stU]
 refine ⟨g142 hok (by simp [patU];lia),?_,g128⟩;exact g50 h4 h1 h2 (by lia)
theorem takenPat {k:Nat} {n:Int} : gam (k + 2) (.ref 156) [.list ((patU p q n).map q0),y6 (Z8 p q)]=some (y6 (sel s4 (HW p q) (o9 p q n))):=by
 refine z6 fun K0=>?_
 refine x04 (patU_ok x n :) fun h1 h2 h3 h4=>?_
 refine K0 ?_;clear K0;have:=g156 (k:=k) (H:=Z8 p q) h4 (fun u hu=>(h1 u hu).2) (fun u hu=>(h2 u hu).2) (fun nm hnm=>by
  refine x12 (List.mem_map.mp hnm :) fun h hh o0=>?_;obtain rfl:=o0
  have hlen:(patL p q n).length≤7:=by
   unfold patL
   split
   ·exact Nat.zero_le _
   ·rw [J6,List.length_map,List.length_range];have:=nl_lt n
    lia
  exact ⟨(x.ok4 hh).1,hlen⟩) (by rw [List.length_map,HW_len];decide)
 rw [filter_selH] at this;have e:(fun h=>tk (patF p q n) (patS n) (patL p q n) (s4 h))=o9 p q n:=funext fun h=>tk_plain p q n h
 rw [e] at this;exact this
end
theorem cmp_notin (t:List Nat) (l:List PV):u7 .NotIn (.str t) (.list l)=(b5 (.str t) l).map (!·):=by
 cases t with
 | nil=>rfl
 | cons a r=>cases r <;> rfl
theorem comp_notin {Γ:y9} {l m:List (List Nat)} : m5 (.one 1) [.unset,.unset,.val (y6 m)] (f0 Γ [(.cmp .NotIn (.var 1) (.var 2))]) (z8 Γ (.var 1) .val) (l.map .str)=some ((l.filter fun t => !m.contains t).map .str):=by
 refine X1 (x:=1) (fun t:List Nat => .str t) (fun t => .str t) (fun t => !m.contains t) l fun t _=>⟨?_,fun _=>rfl⟩
 have hc:u7 .NotIn (.str t) (y6 m)=some (!m.contains t):=by
  have:u7 .NotIn (.str t) (y6 m)=(b5 (.str t) (m.map .str)).map (!·):=by
   exact cmp_notin _ _
  rw [this,C1];rfl
 exact evTs_one (t_cmp (m7 rfl) (m7 rfl) hc)
theorem cap3 {σ:z9} {i:Nat} {v:PV} (h:gt σ i=some (.val v)):i7 σ [none,none,some i]=[.unset,.unset,.val v]:=by
 rw [← cap_get h];rfl
theorem e_comp3 {Γ:y9} {σ:z9} {elt a:PE} {tg:Tgt} {ki:IK} {ifs:List PE} {i:Nat} {x v:PV} {items l:List PV} (h1:z8 Γ a .val σ=some x) (h2:f9 ki x .nul=some items) (h3:gt σ i=some (.val v)) (h4:m5 tg [.unset,.unset,.val v] (f0 Γ ifs) (z8 Γ elt .val) items=some l):z8 Γ (.comp elt tg ki a (.lit .nul) ifs [none,none,some i]) .val σ=some (.list l) :=
 U3 h1 l3 h2 (by rw [cap3 h3];exact h4)
theorem e_notin {Γ:y9} {σ:z9} {i j:Nat} {l m d:List (List Nat)} (h1:gt σ j=some (.val (y6 l))) (h2:gt σ i=some (.val (y6 m))) (h3:(l.filter fun t => !m.contains t)=d):z8 Γ (.comp (.var 1) (.one 1) .plain (.var j) (.lit .nul) [(.cmp .NotIn (.var 1) (.var 2))] [none,none,some i]) .val σ=some (y6 d):=by
 refine U3 (m7 h1) l3 rfl ?_;rw [cap3 h2,← h3];exact comp_notin
noncomputable def xl (p q:Nat):List Int→Bool→q9→Bool
 | [],b,_=>b
 | n::ns,b,h=>xl p q ns (b != o9 p q n h) h
structure LI (p q:Nat) (ns:List Int) (f:q9→Bool) (σ:z9):Prop where
 z:ln σ=11
 s0:gt σ 0=some (.val (r9 p q))
 s1:gt σ 1=some (.val (.list (ns.map .int)))
 s2:gt σ 2=some (.val (y6 (Z8 p q)))
 s3:gt σ 3=some (.val (y6 (sel s4 (HW p q) f)))
section
variable {p q:Nat} (x:PQ p q)
include x
theorem lb_ev {k:Nat} {ns:List Int} {n:Int} {f:q9→Bool} {σ:z9} (I:LI p q ns f σ):∃ σ',y7 (gam (k + 3)) 0 lb (z7 σ 4 (.val (.int n)))=some (.next,σ')∧LI p q ns (fun h=>f h != o9 p q n h) σ':=by
 refine z6 fun K0=>?_
 obtain ⟨z,s0,s1,s2,s3⟩:=I;refine x03 (readPat x (k:=k) (n:=n) :) fun r1 r2 r3=>?_
 refine K0 ?_;clear K0;have r4:=takenPat x (k:=k + 1) (n:=n);generalize hΓ:gam (k + 3)=Γ at *;have A:=asc4 x.lt;have hd1:=K4 A f (o9 p q n);have hd2:=K4 A (o9 p q n) f;have hsld:Γ (.ref 38) [y6 (sel s4 (HW p q) f),y6 (sel s4 (HW p q) (o9 p q n))]=some (.tup [y6 (sel s4 (HW p q) fun h=>f h && !o9 p q n h),y6 (sel s4 (HW p q) fun h=>o9 p q n h && !f h)]):=by
  rw [← hΓ];exact sld_sel A (by rw [HW_len];decide) f (o9 p q n)
 have hsort:=sort_sel A (f:=fun h=>f h && !o9 p q n h) (g:=fun h=>o9 p q n h && !f h) (h:=fun h=>f h != o9 p q n h) (fun h=>by cases f h <;> cases o9 p q n h <;> rfl) (fun h=>by cases f h <;> cases o9 p q n h <;> simp)
 have hl1:(sel s4 (HW p q) fun h=>f h && !o9 p q n h).length≤16:=X4 _
 have hl2:(sel s4 (HW p q) fun h=>o9 p q n h && !f h).length≤16:=X4 _
 have hso:Z1 "sorted" [y6 (sel s4 (HW p q) (fun h=>f h && !o9 p q n h) ++ sel s4 (HW p q) fun h=>o9 p q n h && !f h)]=some (y6 (sel s4 (HW p q) fun h=>f h != o9 p q n h)):=by
  rw [← hsort];exact J9 (by rw [List.length_append];lia)
 have hkept:=eqo_tups (sel s4 (HW p q) f) (sel s4 (HW p q) (o9 p q n)) (sel s4 (HW p q) f) (sel s4 (HW p q) (o9 p q n));have hdiff:=eqo_tups (sel s4 (HW p q) fun h=>f h && !o9 p q n h) (sel s4 (HW p q) fun h=>o9 p q n h && !f h) (sel s4 (HW p q) fun h=>f h && !o9 p q n h) (sel s4 (HW p q) fun h=>o9 p q n h && !f h)
 rw [decide_eq_true rfl,decide_eq_true rfl] at hkept hdiff;generalize sel s4 (HW p q) f=L at *;generalize sel s4 (HW p q) (o9 p q n)=M at *;generalize (sel s4 (HW p q) fun h=>f h && !o9 p q n h)=D1 at *
 generalize (sel s4 (HW p q) fun h=>o9 p q n h && !f h)=D2 at *
 generalize hits:(patU p q n).map q0=its at *;generalize hHs:Z8 p q=Hs at *;have n1:u7 .NotEq (.tup [y6 D1,y6 D2]) (.tup [y6 D1,y6 D2])=some false:=congrArg (Option.map (!·)) hdiff;have n2:u7 .NotEq (.tup [y6 L,y6 M]) (.tup [y6 L,y6 M])=some false:=congrArg (Option.map (!·)) hkept;have hz:(D1.map PV.str).length + (D2.map PV.str).length≤small:=by rw [List.length_map,List.length_map];exact Nat.le_trans (Nat.add_le_add hl1 hl2) (by decide)
 have ha:l4 .Add (y6 D1) (y6 D2)=some (y6 (D1 ++ D2)):=(S5 hz).trans (by rw [← List.map_append]);clear hl1 hl2 hz hkept hdiff hsort A;refine ⟨z7 (z7 (z7 (z7 (z7 (z7 (z7 σ 4 (.val (.int n))) 5 (.val (.list its))) 6 (.val (y6 M))) 7 (.val (y6 D1))) 8 (.val (y6 D2))) 9 (.val (.tup [y6 L,y6 M]))) 3 (.val (y6 (sel s4 (HW p q) fun h=>f h != o9 p q n h))),?_,?_⟩
 ·unfold lb;apply m9
  ·walk_at "ev"
  apply m9
  ·walk_at "ev"
  apply m9
  ·walk_at "ev"
  apply m9
  ·exact d7 (e_notin (by walk_at "slot") (by walk_at "slot") hd1)
  apply m9
  ·exact d7 (e_notin (by walk_at "slot") (by walk_at "slot") hd2)
  apply m9
  ·walk_at "ev"
  apply m9
  ·walk_at "ev"
  apply m9
  ·walk_at "ev"
  exact l_nil rfl
 ·exact ⟨by walk_at "slot",by walk_at "slot",by walk_at "slot",by rw [hHs];walk_at "slot",by walk_at "slot"⟩
theorem lang_loop {k:Nat} {ns0:List Int} : ∀ (ns:List Int) (f:q9→Bool) (σ:z9),LI p q ns0 f σ→∃ σ',c7 (.one 4) (y7 (gam (k + 3)) 0 lb) (ns.map .int) σ=some (.next,σ')∧LI p q ns0 (fun h=>xl p q ns (f h) h) σ'
 | [],f,σ,I=>⟨σ,rfl,I⟩
 | n::ns,f,σ,I=>by
  refine z6 fun K0=>?_
  refine x12 (lb_ev x (k:=k) (n:=n) I :) fun σ1 e1 I1=>?_
  refine x12 (lang_loop (k:=k) ns _ σ1 I1 :) fun σ2 e2 I2=>?_
  refine K0 ?_;clear K0;exact ⟨σ2,S4 rfl e1 e2,I2⟩
omit x in
theorem xl_not (h:q9):∀ (ns:List Int) (b:Bool),xl p q ns b h=(b != xl p q ns false h)
 | [],b=>by cases b <;> rfl
 | n::ns,b=>by
  simp only [xl];rw [xl_not h ns (b != o9 p q n h),xl_not h ns (false != o9 p q n h)]
  cases b <;> cases o9 p q n h <;> cases xl p q ns false h <;> rfl
omit x in
theorem sum_plain (h:q9):∀ ns:List Int,∃ s:Int,sumB (ns.map fun n => .bool (o9 p q n h))=some s∧decide (s % 2=1)=xl p q ns false h
 | []=>⟨0,rfl,rfl⟩
 | n::ns=>by
  refine x12 (sum_plain h ns :) fun s h1 h2=>?_
  refine ⟨(if o9 p q n h then 1 else 0) + s,by simp only [List.map_cons,sumB_cons,h1];rfl,?_⟩;simp only [xl];rw [xl_not h ns (false != o9 p q n h),← h2]
  cases o9 p q n h with
  | false=>simp
  | true =>
   simp only [if_true]
   by_cases e:s % 2=1
   ·have:¬ (1 + s) % 2=1:=by lia
    rw [decide_eq_true e,decide_eq_false this];rfl
   ·have:(1 + s) % 2=1:=by lia
    rw [decide_eq_false e,decide_eq_true this];rfl
theorem odd_ev {k:Nat} {ns:List Int} {f:q9→Bool} {σ:z9} (I:LI p q ns f σ):z8 (gam (k + 3)) oddC .val (frz1 σ 10)=some (y6 (sel s4 (HW p q) fun h=>xl p q ns false h)):=by
 refine z6 fun K0=>?_
 obtain ⟨z,s0,s1,s2,s3⟩:=I;refine K0 ?_;clear K0;have main:m5 (.one 1) [.unset,.unset,.val (.list (ns.map .int)),.val (r9 p q)] (f0 (gam (k + 3)) [(.cmp .Eq (.bin .Mod (.call (.builtin "sum") [(.comp (.call (.ref 135) [(.var 3),(.var 1),(.var 2)]) (.one 1) .plain (.var 2) (.lit .nul) [] [none,none,some 1,some 3])]) (.lit (.int 2))) (.lit (.int 1)))]) (z8 (gam (k + 3)) (.var 1) .val) ((Z8 p q).map .str)=some ((sel s4 (HW p q) fun h=>xl p q ns false h).map .str):=by
  unfold Z8 sel;rw [List.map_map,List.map_map];refine X1 (x:=1) (PV.str ∘ s4) (PV.str ∘ s4) (fun h=>xl p q ns false h) (HW p q) fun h hh=>⟨?_,fun _=>rfl⟩
  refine x05 (x.ok4 hh :) fun _ n1 n2 n3 n4=>?_
  have hset:z7 [.unset,.unset,.val (.list (ns.map .int)),.val (r9 p q)] 1 (.val ((PV.str ∘ s4) h))=[.unset,.val (.str (s4 h)),.val (.list (ns.map .int)),.val (r9 p q)]:=rfl;rw [hset];have inner:z8 (gam (k + 3)) (.comp (.call (.ref 135) [(.var 3),(.var 1),(.var 2)]) (.one 1) .plain (.var 2) (.lit .nul) [] [none,none,some 1,some 3]) .val [.unset,.val (.str (s4 h)),.val (.list (ns.map .int)),.val (r9 p q)]=some (.list (ns.map fun n => .bool (o9 p q n h))):=by
   refine U3 (m7 rfl) l3 rfl ?_;have:=X1 (x:=1) (σ:=[.unset,.unset,.val (.str (s4 h)),.val (r9 p q)]) (test:=f0 (gam (k + 3)) []) (elt:=z8 (gam (k + 3)) (.call (.ref 135) [(.var 3),(.var 1),(.var 2)]) .val) PV.int (fun n => .bool (o9 p q n h)) (fun _=>true) ns fun n _=>⟨rfl,fun _=>W6 (c9 (m7 rfl) (c9 (m7 rfl) (c9 (m7 rfl) Y8))) (g135 n1 n2 n3 n4)⟩
   rw [S1] at this;exact this
  refine x12 (sum_plain (p:=p) (q:=q) h ns :) fun s hs hd=>?_
  exact evTs_one (t_cmp (Y7 (W6 (c9 inner Y8) (show (sumB _).map PV.int=some (.int s) by rw [hs];rfl)) l3 (X9 (by decide))) l3 (o_eqi hd))
 refine U3 (m7 (k_f s2)) l3 rfl ?_;rw [cap_pat (k_f s0) (k_f s1)];exact main
theorem g161 {k:Nat} {ns:List Int} : gam (k + 4) (.ref 161) [r9 p q,.list (ns.map .int),y6 (Z8 p q)]=some (y6 (sel s4 (HW p q) fun h=>xl p q ns false h)):=by
 rw [d8 (by decide) (by decide) (by rfl) rfl];have key:∃ σ',y7 (gam (k + 3)) 0 b161 ([r9 p q,.list (ns.map .int),y6 (Z8 p q)].map Mine.Slot.val ++ List.replicate (11 - [r9 p q,.list (ns.map .int),y6 (Z8 p q)].length) .unset)=some (.ret (y6 (sel s4 (HW p q) fun h=>xl p q ns false h)),σ'):=by
  generalize hσ:([r9 p q,.list (ns.map .int),y6 (Z8 p q)].map Mine.Slot.val ++ List.replicate (11 - [r9 p q,.list (ns.map .int),y6 (Z8 p q)].length) .unset:z9)=σ0;have z:ln σ0=11:=by rw [← hσ];rfl
  have s0:gt σ0 0=some (.val (r9 p q)):=by rw [← hσ];rfl
  have s1:gt σ0 1=some (.val (.list (ns.map .int))):=by rw [← hσ];rfl
  have s2:gt σ0 2=some (.val (y6 (Z8 p q))):=by rw [← hσ];rfl
  clear hσ;have f1:w8 (gam (k + 3)) 0 (.assign 3 (.lst [])) σ0=some (.next,z7 σ0 3 (.val (.list []))):=by walk_at "ev"
  have I:LI p q ns (fun _=>false) (z7 σ0 3 (.val (.list []))):=by
   have e:sel s4 (HW p q) (fun _=>false)=[]:=rfl
   constructor
   ·walk_at "slot"
   ·walk_at "slot"
   ·walk_at "slot"
   ·walk_at "slot"
   ·exact k_i z rfl
  refine x12 (lang_loop x (k:=k) ns _ _ I :) fun σ2 e2 I2=>?_
  have f2:w8 (gam (k + 3)) 0 (.for (.one 4) .plain (.var 1) (.lit .nul) lb) (z7 σ0 3 (.val (.list [])))=some (.next,σ2):=by
   exact s_for (by walk_at "ev") l3 rfl e2
  have f3:=d7 (A:=0) (odd_ev x (k:=k) I2);rw [b161,u9 f1,u9 f2,u9 f3];obtain ⟨z2,t0,t1,t2,t3⟩:=I2;generalize (sel s4 (HW p q) fun h=>xl p q ns false h)=R at *
  have eq:u7 .Eq (y6 R) (y6 R)=some true:=(eqo_lists R R).trans (by rw [decide_eq_true rfl]);exact ⟨_,T6 (by walk_at "ev")⟩
 refine Exists.elim key fun σ' h=>?_
 exact i8 h
end
noncomputable def W4 (c:Nat):Bool:=decide (c<128) && !(decide (48≤c) && decide (c≤57))
theorem C9 {s:List Nat} (h:s.all W4=true) (hl:s.length≤64):n9 "search" (.fn (.ref 81)) [.str s]=some .nul:=by
 rw [show n9 "search" (.fn (.ref 81)) [.str s]=if 81=81∧(s.all (fun c=>decide (c<128) && !(decide (48≤c) && decide (c≤57)))=true∧s.length≤64) then some .nul else none from rfl]
 exact if_pos ⟨rfl,h,hl⟩
theorem C7 {s:List Nat} {j:Nat} (h:X2 46 s=some j):n9 "find" (.str s) [.str [46]]=some (.int (j:Int)):=by
 have e:n9 "find" (.str s) [.str [46]]=some (.int (match X2 46 s with | some k=>(k:Int) | none => -1)):=rfl
 rw [e,h]
theorem g88 {k:Nat} {s:List Nat} {x:Nat} {r:List Nat} {y:Nat} (hs:s=x::r) (hy:s.getLast?=some y) (h:s.all W4=true) (hl:s.length≤64) (hx:x≠46) (hy':y≠46):gam (k + 1) (.ref 88) [.str s]=some (.bool true):=by
 rw [d8 (by decide) (by decide) (by rfl) rfl];have hm:=C9 h hl;have i0:v4 (.str s) (.int 0)=some (.str [x]):=P6 (j:=0) (by rw [hs];rfl) rfl;have i1:v4 (.str s) (.int (-1))=some (.str [y]):=by
  have h0:0<s.length:=by rw [hs];exact Nat.succ_pos _
  have hn:b8 s.length (-1)=some (s.length - 1):=by
   rw [← Nat.sub_add_cancel h0,norm_last,Nat.add_sub_cancel]
  exact idx_str hn (by rw [← List.getLast?_eq_getElem?,hy])
 have o1:u7 .Eq (.str s) (.str [])=some false:=o_eqs (decide_eq_false (by rw [hs];exact List.cons_ne_nil _ _));have o2:u7 .Eq (.str [x]) (.str [46])=some false:=o_eqs (d_s1 hx);have o3:u7 .Eq (.str [y]) (.str [46])=some false:=o_eqs (d_s1 hy');exact i8 (by unfold b88;walk_at "ev")
theorem g95 {k:Nat} {s:List Nat} (h:s.all W4=true) (hl:s.length≤64):gam (k + 1) (.ref 95) [.str s]=some (.bool true):=by
 rw [d8 (by decide) (by decide) (by rfl) rfl];have hm:=C9 h hl;exact i8 (by unfold b95;walk_at "ev")
theorem g109 {k:Nat} {x y j:Nat} {b:List Nat} (hx:x≠46) (hy:(x::46::b).getLast?=some y) (hy':y≠46) (h:(x::46::b).all W4=true) (hl:(x::46::b).length≤64) (hb:X2 46 b=some j):gam (k + 2) (.ref 109) [.str (x::46::b)]=some (.str (46::b)):=by
 rw [d8 (by decide) (by decide) (by rfl) rfl];have h88:=g88 (k:=k) rfl hy h hl hx hy';have f1:n9 "find" (.str (x::46::b)) [.str [46]]=some (.int 1):=C7 (j:=1) (by show (if x=46 then some 0 else (some 0).map (· + 1))=_;rw [if_neg hx];rfl);have f2:=C7 hb;have hs:n8 (.str (x::46::b)) (.int (1 + 1)) .nul=some (.str b):=F4 (m:=2) rfl (Nat.le_add_left 2 _);have oa:l4 .Add (.str [46]) (.str b)=some (.str (46::b)):=S6 (by rw [List.length_cons,List.length_cons] at hl;show 1 + b.length≤1048576;lia);have j0:u7 .GtE (.int j) (.int 0)=some true:=o_ge (decide_eq_true (Int.natCast_nonneg j));generalize x::46::b=s at *;exact i8 (by unfold b109;walk_at "ev")
theorem C8 {s t:List Nat} (h:g0 s=true) (ht:s.map lowC=t):n9 "lower" (.str s) []=some (.str t):=by
 have e:n9 "lower" (.str s) []=if g0 s then some (.str (s.map lowC)) else none:=rfl;rw [e,h,ht];rfl
theorem methop_upper {s:List Nat} (h:g0 s=true):n9 "upper" (.str s) []=some (.str (s.map upC)):=by
 have e:n9 "upper" (.str s) []=if g0 s then some (.str (s.map upC)) else none:=rfl;rw [e,h];rfl
theorem g102 {k:Nat} {A B a:List Nat} {b:List Nat} (hA:g0 A=true) (hB:g0 B=true) (ha:A.map lowC=a) (hb:B.map lowC=46::b) (ca:a.all W4=true) (cb:(46::b).all W4=true) (la:a.length≤64) (lb:(46::b).length≤64) :
  gam (k + 2) (.ref 102) [.str A,.str B]=some (.bool (Z3 (46::b).reverse a.reverse)):=by
 rw [d8 (by decide) (by decide) (by rfl) rfl];have l1:=C8 hA ha;have l2:=C8 hB hb;have h1:=g95 (k:=k) ca la;have h2:=g95 (k:=k) cb lb;have st:n9 "startswith" (.str (46::b)) [.str [46]]=some (.bool true):=rfl;have en:n9 "endswith" (.str a) [.str (46::b)]=some (.bool (Z3 (46::b).reverse a.reverse)):=rfl;generalize Z3 (46::b).reverse a.reverse=r at *;generalize 46::b=B' at *
 induction r with
 | true=>exact i8 (by unfold b102;walk_at "ev")
 | false=>exact i8 (by unfold b102;walk_at "ev")
theorem X5 {c:Nat} (h:c∈signs):W4 c=true∧c≠46∧c<128∧lowC (upC c)=c∧lowC c=c∧upC c<128:=by
 have:∀ c∈signs,W4 c=true∧c≠46∧c<128∧lowC (upC c)=c∧lowC c=c∧upC c<128:=by decide
 exact this c h
theorem PQ.of {p q a:Nat} (x:PQ p q) (h:a=p∨a=q):a∈signs:=by
 rcases h with h | h
 ·rw [h];exact x.hp
 ·rw [h];exact x.hq
theorem PQ.host {p q:Nat} (x:PQ p q) {h:q9} (hh:h∈HW p q):h.1.1∈signs∧h.1.2∈signs∧h.2.1∈signs∧h.2.2∈signs:=by
 refine z6 fun K0=>?_
 refine w7 (HW_mem hh :) fun h1 h2=>?_
 refine w7 (T9 h1 :) fun a b=>?_
 refine w7 (T9 h2 :) fun c d=>?_
 refine K0 ?_;clear K0;exact ⟨x.of a,x.of b,x.of c,x.of d⟩
theorem slcS_one {c:Nat} {b:List Nat} : n8 (.str (c::b)) (.int 1) .nul=some (.str b):=F4 (m:=1) rfl (Nat.le_add_left 1 _)
theorem reach2 {k:Nat} {p q:Nat} (x:PQ p q) {h:q9} (hh:h∈HW p q) :
  gam (k + 2) (.ref 109) [.str (s4 h)]=some (.str (46::[h.1.2,46,h.2.1,46,h.2.2]))∧gam (k + 2) (.ref 109) [.str [h.1.2,46,h.2.1,46,h.2.2]]=some (.str (46::s2 h.2)):=by
 refine x04 (x.host hh :) fun a b c d=>?_
 obtain ⟨⟨a',b'⟩,⟨c',d'⟩⟩:=h;have ha:=X5 a;have hb:=X5 b;have hc:=X5 c;have hd:=X5 d;have h46:W4 46=true:=by decide
 refine ⟨?_,?_⟩
 ·exact g109 (j:=1) (y:=d') ha.2.1 rfl hd.2.1 (by simp [ha,hb,hc,hd,h46]) (by simp) (by simp [X2,hb])
 ·exact g109 (j:=1) (y:=d') hb.2.1 rfl hd.2.1 (by simp [ha,hb,hc,hd,h46]) (by simp) (by simp [X2,hc])
noncomputable def uL (p q a:Nat):U:=d6 p q (if a=p then 0 else 1)
theorem uL_fit {p q a y:Nat} (x:PQ p q) (ha:a=p∨a=q):fitU (uL p q a) y=(y == a):=by
 unfold uL;by_cases h:a=p
 ·subst h;rw [if_pos rfl,fit_unit (by decide)];rfl
 ·rw [if_neg h,fit_unit (by decide)];have:a=q:=ha.resolve_left h;rw [this];rfl
noncomputable def rowB (p q:Nat) (f:q9→Bool) (x:Two):List (List Nat):=sel s2 (TW p q) fun y=>f (x,y)
theorem TW_nodup {p q:Nat} (h:p<q):(TW p q).Nodup:=(List.pairwise_map.mp (asc2 h)).imp fun h e=>by rw [e] at h;exact List.lt_irrefl _ h
theorem pick_one {α β:Type} [DecidableEq α] (R:List β) (x:α):∀ V:List α,V.Nodup→x∈V→V.flatMap (fun y=>if y=x then R else [])=R
 | v::V,h,hx=>by
  obtain ⟨h1,h2⟩:=List.nodup_cons.mp h;rw [List.flatMap_cons];rcases List.mem_cons.mp hx with e | hx
  ·have hn:V.flatMap (fun y=>if y=x then R else [])=[]:=List.flatMap_eq_nil_iff.mpr fun y hy=>if_neg fun q:y=x=>h1 (e▸q▸hy)
   rw [if_pos e.symm,hn,List.append_nil]
  ·rw [if_neg fun e:v=x=>h1 (e▸hx),List.nil_append]
   exact pick_one R x V h2 hx
theorem rowB_eq {p q:Nat} (h:p<q) (f:q9→Bool) {x:Two} (hx:x∈TW p q):(((HW p q).filter fun h=>f h && (h.1 == x)).map fun h=>s2 h.2)=rowB p q f x:=by
 have e:∀ x',((((TW p q).map fun y=>((x',y):q9)).filter fun h=>f h && (h.1 == x)).map fun h=>s2 h.2)=if x'=x then rowB p q f x else []:=by
  intro x';rw [List.filter_map,List.map_map];by_cases hx':x'=x
  ·rw [if_pos hx',hx'];refine congrArg (List.map _) (List.filter_congr fun y _=>?_)
   show (f (x,y) && (x == x))=_;rw [beq_self_eq_true,Bool.and_true]
  ·rw [if_neg hx',List.filter_eq_nil_iff.mpr fun y _=>?_]
   ·rfl
   ·show ¬ ((f (x',y) && (x' == x))=true);rw [beq_eq_false_iff_ne.mpr hx',Bool.and_false];exact Bool.false_ne_true
 unfold HW;rw [List.filter_flatMap,List.map_flatMap];simp only [e];exact pick_one _ x _ (TW_nodup h) hx
structure BI (p q:Nat) (f:q9→Bool) (rows:List PV) (σ:z9):Prop where
 z:ln σ=8
 s0:gt σ 0=some (.val (r9 p q))
 s2:gt σ 2=some (.val (y6 (sel s4 (HW p q) f)))
 s3:gt σ 3=some (.own rows)
section
variable {p q:Nat} (x:PQ p q)
include x
omit x in
theorem labels_ev {k:Nat} {t:Two} (ht:t∈TW p q):m5 (.one 1) [.unset,.unset,.val (r9 p q)] (f0 (gam (k + 3)) []) (z8 (gam (k + 3)) (.call (.ref 123) [(.var 2),(.meth "index" (.var 2) [(.var 1)])]) .val) ([[t.1],[t.2]].map .str)=some ([v5 (uL p q t.1),v5 (uL p q t.2)].map .str):=by
 have one:∀ a:Nat,(a=p∨a=q)→z8 (gam (k + 3)) (.call (.ref 123) [(.var 2),(.meth "index" (.var 2) [(.var 1)])]) .val (z7 [.unset,.unset,.val (r9 p q)] 1 (.val (.str [a])))=some (.str (v5 (uL p q a))):=by
  intro a ha;have hi:n9 "index" (r9 p q) [.str [a]]=some (.int (((if a=p then 0 else 1:Nat)):Int)):=by
   rw [show n9 "index" (r9 p q) [.str [a]]=(U4 (.str [a]) ([[p],[q]].map .str)).map fun (k:Nat) => .int (k:Int) from rfl,index_strs]
   by_cases h:a=p
   ·rw [if_pos h,List.findIdx?_cons,if_pos (decide_eq_true (by rw [h]))];rfl
   ·rw [if_neg h,List.findIdx?_cons,if_neg (fun e=>h (List.cons.inj (of_decide_eq_true e)).1.symm),List.findIdx?_cons,if_pos (decide_eq_true (by rw [ha.resolve_left h]))];rfl
  exact W6 (c9 (m7 rfl) (c9 (e_meth (m7 rfl) (c9 (m7 rfl) Y8) hi) Y8)) (g123 (k:=k + 2) (p:=p) (q:=q) (j:=if a=p then 0 else 1) (by split <;> decide))
 obtain ⟨h1,h2⟩:=T9 ht;have:=X1 (x:=1) (σ:=[.unset,.unset,.val (r9 p q)]) (test:=f0 (gam (k + 3)) []) (elt:=z8 (gam (k + 3)) (.call (.ref 123) [(.var 2),(.meth "index" (.var 2) [(.var 1)])]) .val) (fun a:Nat => .str [a]) (fun a => .str (v5 (uL p q a))) (fun _=>true) [t.1,t.2] (fun a ha=>⟨rfl,fun _=>by
  rcases List.mem_cons.mp ha with rfl | ha
  ·exact one _ h1
  ·rw [List.mem_singleton.mp ha];exact one _ h2⟩)
 exact this
theorem bb_ev {k:Nat} {f:q9→Bool} {rows:List PV} {σ:z9} {t:Two} (ht:t∈TW p q) (hz:rows.length<small) (I:BI p q f rows σ):∃ σ',y7 (gam (k + 3)) 0 bb (z7 σ 4 (.val (.str (s2 t))))=some (.next,σ')∧BI p q f (rows ++ [y6 (rowB p q f t)]) σ':=by
 refine z6 fun K0=>?_
 obtain ⟨z,s0,s2',s3⟩:=I;have hc:=labels_ev (p:=p) (q:=q) (k:=k) ht;refine w7 (T9 ht :) fun ht1 ht2=>?_
 refine K0 ?_;clear K0;have c1:=X5 (x.of ht1);have c2:=X5 (x.of ht2);have hsp:n9 "split" (.str (s2 t)) [.str [46]]=some (.list ([[t.1],[t.2]].map .str)):=by
  rw [B0 (by show 3<1048576;decide)];simp [m3,s2,c1,c2]
 have hfs:∀ u∈[uL p q t.1,.lit 46,uL p q t.2,.lit 46],okU u∧m0 u=false:=by
  have h46:okU (.lit 46)∧m0 (.lit 46)=false:=⟨⟨by decide,by decide,by decide,by decide⟩,rfl⟩;intro u hu;rcases List.mem_cons.mp hu with rfl | hu
  ·exact E5 x _
  rcases List.mem_cons.mp hu with rfl | hu
  ·exact h46
  rcases List.mem_cons.mp hu with rfl | hu
  ·exact E5 x _
  rw [List.mem_singleton.mp hu];exact h46
 have r50:=g50 (k:=k) (fs:=[uL p q t.1,.lit 46,uL p q t.2,.lit 46]) (ls:=[]) (st:=true) (fun q=>nomatch q) hfs (fun u hu=>nomatch hu) (by simp)
 have r142:=g142 (k:=k + 2) (us:=[uL p q t.1,.lit 46,uL p q t.2,.lit 46] ++ (stU true ++ [])) (fun u hu=>by
  rcases List.mem_append.mp hu with hu | hu
  ·exact (hfs u hu).1
  ·simp [stU] at hu;subst hu;trivial) (by simp [stU])
 have r156:=g156 (k:=k + 1) (st:=true) (fs:=[uL p q t.1,.lit 46,uL p q t.2,.lit 46]) (ls:=[]) (H:=sel s4 (HW p q) f) (fun q=>nomatch q) (fun u hu=>(hfs u hu).2) (fun u hu=>nomatch hu) (fun nm hnm=>by
  refine x12 (List.mem_map.mp hnm :) fun h hh o0=>?_;obtain rfl:=o0
  exact ⟨(x.ok4 (List.mem_filter.mp hh).1).1,by simp⟩) (by have:=X4 (hs:=s4) (V:=HW p q) f;rw [HW_len] at this;lia)
 have htk:∀ h:q9,tk [uL p q t.1,.lit 46,uL p q t.2,.lit 46] true [] (s4 h)=(h.1 == t):=by
  intro h;obtain ⟨⟨a,b⟩,⟨c,d⟩⟩:=h;obtain ⟨t1,t2⟩:=t;have h46:fitU (.lit 46) 46=true:=rfl;simp only [tk,s4,C0,fitsZ_nil,uL_fit x ht1,uL_fit x ht2,h46];simp;rfl
 rw [filter_sel] at r156;have hfe:(fun h=>f h && tk [uL p q t.1,.lit 46,uL p q t.2,.lit 46] true [] (s4 h))=fun h=>f h && (h.1 == t):=funext fun h=>by rw [htk]
 rw [hfe] at r156;have hjoin:n9 "join" (.str [46]) [.list ([v5 (uL p q t.1),v5 (uL p q t.2)].map .str)]=some (.str (v5 (uL p q t.1) ++ [46] ++ v5 (uL p q t.2))):=by
  rw [L0 (strsP _)]
  ·rfl
  ·have:=N6 (uL p q t.1);have:=N6 (uL p q t.2);simp [u6,small];lia
 have htext:v5 (uL p q t.1) ++ [46] ++ v5 (uL p q t.2) ++ [46,42]=([uL p q t.1,.lit 46,uL p q t.2,.lit 46] ++ (stU true ++ [])).flatMap v5:=by
  simp [stU,v5]
 have ha:l4 .Add (.str (v5 (uL p q t.1) ++ [46] ++ v5 (uL p q t.2))) (.str [46,42])=some (.str (([uL p q t.1,.lit 46,uL p q t.2,.lit 46] ++ (stU true ++ [])).flatMap v5)):=by
  rw [← htext];refine S6 ?_;have:=N6 (uL p q t.1);have:=N6 (uL p q t.2);rw [List.length_append,List.length_append];show _ + 1 + _ + 2≤1048576
  lia
 generalize hits:([uL p q t.1,.lit 46,uL p q t.2,.lit 46] ++ (stU true ++ [])).map q0=its at *;generalize hus:([uL p q t.1,.lit 46,uL p q t.2,.lit 46] ++ (stU true ++ []))=us at *;generalize hT:v5 (uL p q t.1) ++ [46] ++ v5 (uL p q t.2)=T at *;generalize hls:[v5 (uL p q t.1),v5 (uL p q t.2)].map PV.str=ls at *;have main:m5 (.one 1) [.unset,.unset] (f0 (gam (k + 3)) []) (z8 (gam (k + 3)) (.slc (.call (.ref 109) [(.slc (.call (.ref 109) [(.var 1)]) (.lit (.int 1)) (.lit .nul))]) (.lit (.int 1)) (.lit .nul)) .val) ((sel s4 (HW p q) fun h=>f h && (h.1 == t)).map .str)=some ((rowB p q f t).map .str):=by
  unfold sel;rw [List.map_map,X1 (x:=1) (PV.str ∘ s4) (PV.str ∘ fun h:q9=>s2 h.2) (fun _=>true) ((HW p q).filter fun h=>f h && (h.1 == t)) (fun h hh=>⟨rfl,fun _=>?_⟩),S1]
  ·rw [← List.map_map,rowB_eq x.lt f ht]
  ·refine w7 (reach2 (k:=k + 1) x (List.mem_filter.mp hh).1 :) fun r1 r2=>?_
   exact e_slc (W6 (c9 (e_slc (W6 (c9 (m7 rfl) Y8) r1) l3 l3 slcS_one) Y8) r2) l3 l3 slcS_one
 clear htext hfe hfs htk hits hus hT hls;refine ⟨(z7 (z7 (z7 (z7 σ 4 (.val (.str (s2 t)))) 5 (.val (.list ls))) 6 (.val (.list its))) 7 (.val (y6 (rowB p q f t)))).set 3 (.own (rows ++ [y6 (rowB p q f t)])),?_,by walk_at "slot",by walk_at "slot",by walk_at "slot",by walk_at "slot"⟩;unfold bb;apply m9
 ·exact d7 (e_comp3 (by walk_at "ev") rfl (by walk_at "slot") hc)
 apply m9
 ·walk_at "ev"
 apply m9
 ·walk_at "ev"
 apply m9
 ·exact d7 (U3 (by walk_at "ev") l3 rfl main)
 apply m9
 ·walk_at "ev"
 exact l_nil rfl
theorem beg_loop {k:Nat} {f:q9→Bool} : ∀ (ts:List Two) (rows:List PV) (σ:z9),(∀ t∈ts,t∈TW p q)→rows.length + ts.length≤small→BI p q f rows σ→∃ σ',c7 (.one 4) (y7 (gam (k + 3)) 0 bb) ((ts.map s2).map .str) σ=some (.next,σ')∧BI p q f (rows ++ ts.map fun t=>y6 (rowB p q f t)) σ'
 | [],rows,σ,_,_,I=>⟨σ,rfl,by simpa using I⟩
 | t::ts,rows,σ,h,hz,I=>by
  refine z6 fun K0=>?_
  refine x12 (bb_ev x (k:=k) (h t (List.mem_cons_self ..)) (by simp at hz;lia) I :) fun σ1 e1 I1=>?_
  refine x12 (beg_loop (k:=k) ts _ σ1 (fun t ht=>h t (List.mem_cons_of_mem _ ht)) (by simp at hz ⊢;lia) I1 :) fun σ2 e2 I2=>?_
  refine K0 ?_;clear K0;refine ⟨σ2,S4 rfl e1 e2,?_⟩;rw [List.append_assoc] at I2;exact I2
theorem g166 {k:Nat} {f:q9→Bool} : gam (k + 4) (.ref 166) [r9 p q,y6 ((TW p q).map s2),y6 (sel s4 (HW p q) f)]=some (.list ((TW p q).map fun t=>y6 (rowB p q f t))):=by
 rw [d8 (by decide) (by decide) (by rfl) rfl];have key:∃ σ',y7 (gam (k + 3)) 0 b166 ([r9 p q,y6 ((TW p q).map s2),y6 (sel s4 (HW p q) f)].map Mine.Slot.val ++ List.replicate (8 - [r9 p q,y6 ((TW p q).map s2),y6 (sel s4 (HW p q) f)].length) .unset)=some (.ret (.list ((TW p q).map fun t=>y6 (rowB p q f t))),σ'):=by
  generalize hσ:([r9 p q,y6 ((TW p q).map s2),y6 (sel s4 (HW p q) f)].map Mine.Slot.val ++ List.replicate (8 - [r9 p q,y6 ((TW p q).map s2),y6 (sel s4 (HW p q) f)].length) .unset:z9)=σ0;have z:ln σ0=8:=by rw [← hσ];rfl
  have s0:gt σ0 0=some (.val (r9 p q)):=by rw [← hσ];rfl
  have s1:gt σ0 1=some (.val (y6 ((TW p q).map s2))):=by rw [← hσ];rfl
  have s2':gt σ0 2=some (.val (y6 (sel s4 (HW p q) f))):=by rw [← hσ];rfl
  clear hσ;have f1:w8 (gam (k + 3)) 0 (.own 3) σ0=some (.next,z7 σ0 3 (.own [])):=by walk_at "ev"
  have I:BI p q f [] (z7 σ0 3 (.own [])):=⟨by walk_at "slot",by walk_at "slot",by walk_at "slot",by walk_at "slot"⟩;refine x12 (beg_loop x (k:=k) (TW p q) [] _ (fun t h=>h) (by simp [TW,small]) I :) fun σ1 e1 I1=>?_
  have f2:w8 (gam (k + 3)) 0 (.for (.one 4) .plain (.var 1) (.lit .nul) bb) (z7 σ0 3 (.own []))=some (.next,σ1):=by
   exact s_for (by walk_at "ev") l3 rfl e1
  rw [b166,u9 f1,u9 f2];exact ⟨frzA σ1,T6 (m7 (k_Ao I1.s3))⟩
 refine Exists.elim key fun σ' h=>?_
 exact i8 h
end
noncomputable def colB (p q:Nat) (f:q9→Bool) (t:Two):List (List Nat):=sel s2 (TW p q) fun x=>f (x,t)
theorem pbeq (a b c d:Nat):(((a,b):Two) == (c,d))=(a == c && b == d):=rfl
theorem filt_one {α:Type} [BEq α] [LawfulBEq α] (g:α→Bool) (t:α):∀ V:List α,V.Nodup→t∈V→V.filter (fun y=>g y && (y == t))=if g t=true then [t] else []
 | v::V,h,ht=>by
  obtain ⟨h1,h2⟩:=List.nodup_cons.mp h;rw [List.filter_cons];rcases List.mem_cons.mp ht with rfl | ht
  ·have hn:V.filter (fun y=>g y && (y == t))=[]:=List.filter_eq_nil_iff.mpr fun y hy=>by
    rw [beq_eq_false_iff_ne.mpr fun e:y=t=>h1 (e▸hy),Bool.and_false];exact Bool.false_ne_true
   rw [hn,beq_self_eq_true,Bool.and_true]
  ·rw [beq_eq_false_iff_ne.mpr fun e:v=t=>h1 (e▸ht),Bool.and_false,if_neg Bool.false_ne_true]
   exact filt_one g t V h2 ht
theorem flat_if {α β:Type} (g:α→Bool) (u:α→β):∀ V:List α,V.flatMap (fun x=>if g x=true then [u x] else [])=(V.filter g).map u
 | []=>rfl
 | v::V=>by rw [List.flatMap_cons,flat_if g u V,List.filter_cons];cases g v <;> rfl
theorem colB_eq {p q:Nat} (h:p<q) (f:q9→Bool) {t:Two} (ht:t∈TW p q):(((HW p q).filter fun h=>f h && (h.2 == t)).map fun h=>s2 h.1)=colB p q f t:=by
 have e:∀ x,((((TW p q).map fun y=>((x,y):q9)).filter fun h=>f h && (h.2 == t)).map fun h=>s2 h.1)=if f (x,t)=true then [s2 x] else []:=by
  intro x;rw [List.filter_map,List.map_map];have:=filt_one (fun y=>f (x,y)) t (TW p q) (TW_nodup h) ht
  rw [show ((fun h:q9=>f h && (h.2 == t)) ∘ fun y=>(x,y))=fun y=>f (x,y) && (y == t) from rfl,this]
  split <;> rfl
 unfold HW;rw [List.filter_flatMap,List.map_flatMap];simp only [e];exact flat_if ..
theorem comp_two {α:Type} {x y:Nat} {σ:z9} {test:z9→Option Bool} {elt:z9→Option PV} (i1 i2 g:α→PV) (P:α→Bool):∀ (xs:List α),
  (∀ a∈xs,test (z7 (z7 σ x (.val (i1 a))) y (.val (i2 a)))=some (P a)∧(P a=true→elt (z7 (z7 σ x (.val (i1 a))) y (.val (i2 a)))=some (g a)))→m5 (.two x y) σ test elt (xs.map fun a => .tup [i1 a,i2 a])=some ((xs.filter P).map g)
 | [],_=>rfl
 | a::xs,h=>by
  have ih:=comp_two i1 i2 g P xs fun b hb=>h b (List.mem_cons_of_mem _ hb)
  refine z6 fun K0=>?_
  refine w7 (h a (List.mem_cons_self ..) :) fun h1 h2=>?_
  refine K0 ?_;clear K0;show ((some (z7 (z7 σ x (.val (i1 a))) y (.val (i2 a)))).bind fun σ1=>(test σ1).bind fun b=>if b=true then (elt σ1).bind fun v=>(m5 (.two x y) σ test elt (xs.map fun a => .tup [i1 a,i2 a])).map (v :: ·) else m5 (.two x y) σ test elt (xs.map fun a => .tup [i1 a,i2 a]))=_
  rw [Option.bind_some,h1,Option.bind_some]
  cases hP:P a with
  | true=>rw [if_pos rfl,h2 hP,ih,List.filter_cons_of_pos hP];rfl
  | false=>rw [if_neg Bool.false_ne_true,ih,List.filter_cons_of_neg (by rw [hP];decide)]
theorem zipL_map {α:Type} (i1 i2:α→PV):∀ xs:List α,zipL (xs.map i1) (xs.map i2)=xs.map fun a => .tup [i1 a,i2 a]
 | []=>rfl
 | a::xs=>congrArg (PV.tup [i1 a,i2 a] :: ·) (zipL_map i1 i2 xs)
structure EI (p q:Nat) (f:q9→Bool) (rows:List PV) (σ:z9):Prop where
 z:ln σ=5
 s1:gt σ 1=some (.val (y6 (sel s4 (HW p q) f)))
 s2:gt σ 2=some (.own rows)
section
variable {p q:Nat} (x:PQ p q)
include x
theorem udm {k:Nat} {h:q9} (hh:h∈HW p q) {t:Two} (ht:t∈TW p q):n9 "upper" (.str (s4 h)) []=some (.str ((s4 h).map upC))∧gam (k + 2) (.ref 102) [.str ((s4 h).map upC),.str (46::s2 t)]=some (.bool (h.2 == t)):=by
 refine x04 (x.host hh :) fun a b c d=>?_
 refine w7 (T9 ht :) fun ht1 ht2=>?_
 obtain ⟨⟨a',b'⟩,⟨c',d'⟩⟩:=h;obtain ⟨u,v⟩:=t;have ha:=X5 a;have hb:=X5 b;have hc:=X5 c;have hd:=X5 d;have hu:=X5 (x.of ht1);have hv:=X5 (x.of ht2);have h46:W4 46=true∧lowC 46=46∧lowC (upC 46)=46∧upC 46<128:=by decide
 dsimp only at *;refine ⟨methop_upper (by simp [g0,s4,ha,hb,hc,hd]),?_⟩;rw [g102 (a:=s4 ((a',b'),(c',d'))) (b:=s2 (u,v)) (by simp [g0,s4,ha,hb,hc,hd,h46]) (by simp [g0,s2,hu,hv]) (by simp [s4,ha,hb,hc,hd,h46]) (by simp [s2,hu,hv,h46]) (by simp [s4,ha,hb,hc,hd,h46]) (by simp [s2,hu,hv,h46]) (by simp [s4]) (by simp [s2])];congr 2;simp only [s2,s4,List.reverse_cons,List.reverse_nil,List.nil_append,List.cons_append,Z3];have e1:(u == c')=(c' == u):=BEq.comm;have e2:(v == d')=(d' == v):=BEq.comm;rw [pbeq,e1,e2]
 cases c' == u <;> cases d' == v <;> rfl
theorem eb_ev {k:Nat} {f:q9→Bool} {rows:List PV} {σ:z9} {t:Two} (ht:t∈TW p q) (hz:rows.length<small) (I:EI p q f rows σ):∃ σ',y7 (gam (k + 3)) 0 eb (z7 σ 3 (.val (.str (s2 t))))=some (.next,σ')∧EI p q f (rows ++ [y6 (colB p q f t)]) σ':=by
 refine z6 fun K0=>?_
 obtain ⟨z,s1,s2'⟩:=I;refine K0 ?_;clear K0;have main1:m5 (.one 1) [.unset,.unset,.val (.str (s2 t))] (f0 (gam (k + 3)) []) (z8 (gam (k + 3)) (.call (.ref 102) [(.meth "upper" (.var 1) []),(.bin .Add (.lit (.str [46])) (.var 2))]) .val) ((sel s4 (HW p q) f).map .str)=some (((HW p q).filter f).map fun h => .bool (h.2 == t)):=by
  unfold sel;rw [List.map_map,X1 (x:=1) (PV.str ∘ s4) (fun h:q9 => .bool (h.2 == t)) (fun _=>true) ((HW p q).filter f) (fun h hh=>⟨rfl,fun _=>?_⟩),S1]
  refine w7 (udm x (k:=k + 1) (List.mem_filter.mp hh).1 ht :) fun r1 r2=>?_
  exact W6 (c9 (e_meth (m7 rfl) Y8 r1) (c9 (Y7 l3 (m7 rfl) (S6 (show 1 + 3≤1048576 by decide))) Y8)) r2
 have main2:m5 (.one 1) [.unset,.unset] (f0 (gam (k + 3)) [(.cmp .IsNot (.call (.type "type") [(.var 1)]) (.gl (.type "bool")))]) (z8 (gam (k + 3)) (.var 1) .val) (((HW p q).filter f).map fun h=>PV.bool (h.2 == t))=some []:=by
  rw [show (((HW p q).filter f).map fun h=>PV.bool (h.2 == t))=(((HW p q).filter f).map fun h=>(h.2 == t)).map PV.bool by rw [List.map_map];rfl,X1 (x:=1) PV.bool PV.bool (fun _=>false) _ (fun b _=>⟨rfl,fun q=>nomatch q⟩),List.filter_eq_nil_iff.mpr fun _ _=>Bool.false_ne_true];rfl
 have main3:m5 (.two 1 2) [.unset,.unset,.unset] (f0 (gam (k + 3)) [(.var 2)]) (z8 (gam (k + 3)) (.slc (.var 1) (.lit .nul) (.lit (.int 3))) .val) (zipL ((sel s4 (HW p q) f).map .str) (((HW p q).filter f).map fun h=>PV.bool (h.2 == t)))=some ((colB p q f t).map .str):=by
  unfold sel;rw [List.map_map,zipL_map,comp_two (x:=1) (y:=2) (PV.str ∘ s4) (fun h:q9=>PV.bool (h.2 == t)) (PV.str ∘ fun h:q9=>s2 h.1) (fun h=>h.2 == t) ((HW p q).filter f) (fun h hh=>⟨evTs_one (t_var rfl rfl),fun _=>e_slc (m7 rfl) l3 l3 rfl⟩)]
  rw [← List.map_map,List.filter_filter,← colB_eq x.lt f ht];refine congrArg (fun l=>some (List.map PV.str (List.map _ l))) (List.filter_congr fun h _=>?_)
  rw [Bool.and_comm]
 generalize (((HW p q).filter f).map fun h=>PV.bool (h.2 == t))=M at *
 have hn:truthy (.list [])=some false:=rfl;refine ⟨(z7 (z7 σ 3 (.val (.str (s2 t)))) 4 (.val (.list M))).set 2 (.own (rows ++ [y6 (colB p q f t)])),?_,by walk_at "slot",by walk_at "slot",by walk_at "slot"⟩;unfold eb;apply m9
 ·exact d7 (e_comp3 (by walk_at "ev") rfl (by walk_at "slot") main1)
 apply m9
 ·exact s_f (S2 (U3 (Γ:=gam (k + 3)) (by walk_at "ev") l3 rfl main2) hn) rfl
 apply m9
 ·exact s_push (U3 (by walk_at "ev") (by walk_at "ev") rfl main3) (by walk_at "slot") hz
 exact l_nil rfl
theorem end_loop {k:Nat} {f:q9→Bool} : ∀ (ts:List Two) (rows:List PV) (σ:z9),(∀ t∈ts,t∈TW p q)→rows.length + ts.length≤small→EI p q f rows σ→∃ σ',c7 (.one 3) (y7 (gam (k + 3)) 0 eb) ((ts.map s2).map .str) σ=some (.next,σ')∧EI p q f (rows ++ ts.map fun t=>y6 (colB p q f t)) σ'
 | [],rows,σ,_,_,I=>⟨σ,rfl,by simpa using I⟩
 | t::ts,rows,σ,h,hz,I=>by
  refine z6 fun K0=>?_
  refine x12 (eb_ev x (k:=k) (h t (List.mem_cons_self ..)) (by simp at hz;lia) I :) fun σ1 e1 I1=>?_
  refine x12 (end_loop (k:=k) ts _ σ1 (fun t ht=>h t (List.mem_cons_of_mem _ ht)) (by simp at hz ⊢;lia) I1 :) fun σ2 e2 I2=>?_
  refine K0 ?_;clear K0;refine ⟨σ2,S4 rfl e1 e2,?_⟩;rw [List.append_assoc] at I2;exact I2
theorem g171 {k:Nat} {f:q9→Bool} : gam (k + 4) (.ref 171) [y6 ((TW p q).map s2),y6 (sel s4 (HW p q) f)]=some (.list ((TW p q).map fun t=>y6 (colB p q f t))):=by
 rw [d8 (by decide) (by decide) (by rfl) rfl];have key:∃ σ',y7 (gam (k + 3)) 0 b171 ([y6 ((TW p q).map s2),y6 (sel s4 (HW p q) f)].map Mine.Slot.val ++ List.replicate (5 - [y6 ((TW p q).map s2),y6 (sel s4 (HW p q) f)].length) .unset)=some (.ret (.list ((TW p q).map fun t=>y6 (colB p q f t))),σ'):=by
  generalize hσ:([y6 ((TW p q).map s2),y6 (sel s4 (HW p q) f)].map Mine.Slot.val ++ List.replicate (5 - [y6 ((TW p q).map s2),y6 (sel s4 (HW p q) f)].length) .unset:z9)=σ0;have z:ln σ0=5:=by rw [← hσ];rfl
  have s0:gt σ0 0=some (.val (y6 ((TW p q).map s2))):=by rw [← hσ];rfl
  have s1:gt σ0 1=some (.val (y6 (sel s4 (HW p q) f))):=by rw [← hσ];rfl
  clear hσ;have f1:w8 (gam (k + 3)) 0 (.own 2) σ0=some (.next,z7 σ0 2 (.own [])):=by walk_at "ev"
  have I:EI p q f [] (z7 σ0 2 (.own [])):=⟨by walk_at "slot",by walk_at "slot",by walk_at "slot"⟩;refine x12 (end_loop x (k:=k) (TW p q) [] _ (fun t h=>h) (by simp [TW,small]) I :) fun σ1 e1 I1=>?_
  have f2:w8 (gam (k + 3)) 0 (.for (.one 3) .plain (.var 0) (.lit .nul) eb) (z7 σ0 2 (.own []))=some (.next,σ1):=by
   exact s_for (by walk_at "ev") l3 rfl e1
  rw [b171,u9 f1,u9 f2];exact ⟨frzA σ1,T6 (m7 (k_Ao I1.s2))⟩
 refine Exists.elim key fun σ' h=>?_
 exact i8 h
end
noncomputable def pbM (g:Nat):Nat:=Nat.land g (Nat.sub 16 g)
noncomputable def n6 (l g:Nat):Nat:=cond (Nat.beq (Nat.land l (pbM g)) 0) l (Nat.xor l g)
noncomputable def nzM (l k:Nat):Nat:=cond (Nat.beq l 0) k (Nat.succ k)
noncomputable def withN (n:Nat) (f:Nat→Bool):Bool:=cond (Nat.ble n 15) (f n) true
noncomputable def rk3 (a b2 c3 d:Nat):Nat:=nzM (n6 (n6 (n6 d a) b2) c3) (nzM c3 (nzM b2 (nzM a 0)))
noncomputable def rkM (a b c d:Nat):Nat:=rk3 a (n6 b a) (n6 (n6 c a) (n6 b a)) d
noncomputable def bitM (m i:Nat):Nat:=Nat.land (Nat.shiftRight m i) 1
noncomputable def colM (a b c d i:Nat):Nat:=Nat.add (bitM a i) (Nat.add (Nat.mul 2 (bitM b i)) (Nat.add (Nat.mul 4 (bitM c i)) (Nat.mul 8 (bitM d i))))
noncomputable def okM (a b c d:Nat):Bool:=Nat.beq (rkM a b c d) (rkM (colM a b c d 0) (colM a b c d 1) (colM a b c d 2) (colM a b c d 3))
noncomputable def allB:Nat→(Nat→Bool)→Bool
 | 0,_=>true
 | n + 1,f=>cond (f n) (allB n f) false
noncomputable def selM (x m i:Nat):Nat:=cond (Nat.beq (bitM x i) 0) 0 m
noncomputable def combM (a b c d x:Nat):Nat:=Nat.xor (selM x a 0) (Nat.xor (selM x b 1) (Nat.xor (selM x c 2) (selM x d 3)))
noncomputable def depM (a b c d:Nat):Bool:=cond (Nat.beq (rkM a b c d) 4) (allB 15 fun x=>cond (Nat.beq (combM a b c d (Nat.succ x)) 0) false true) true
theorem rank_all:allB 16 (fun a=>allB 16 fun b=>allB 16 fun c=>allB 16 fun d=>okM a b c d)=true:=by decide +kernel
theorem dep_all:allB 16 (fun a=>allB 16 fun b=>allB 16 fun c=>allB 16 fun d=>depM a b c d)=true:=by decide +kernel
noncomputable def hs4 (p q:Nat):Nat→List Nat
 | 0=>s2 (p,p)
 | 1=>s2 (p,q)
 | 2=>s2 (q,p)
 | _=>s2 (q,q)
noncomputable abbrev V4:List Nat:=[0,1,2,3]
theorem ascV {p q:Nat} (h:p<q):Asc (hs4 p q) V4:=by
 simp [Asc,hs4,s2,List.cons_lt_cons_iff,h]
noncomputable def o8 (p q m:Nat):List (List Nat):=sel (hs4 p q) V4 fun i=>m.testBit i
noncomputable def j9 (p q:Nat) (f:Two→Bool):Nat:=(f (p,p)).toNat + (2 * (f (p,q)).toNat + (4 * (f (q,p)).toNat + 8 * (f (q,q)).toNat))
theorem Y9 (p q:Nat) (f:Two→Bool):j9 p q f<16:=by
 unfold j9
 cases f (p,p) <;> cases f (p,q) <;> cases f (q,p) <;> cases f (q,q) <;> decide
theorem sel_mask (p q:Nat) (f:Two→Bool):sel s2 (TW p q) f=o8 p q (j9 p q f):=by
 unfold o8 sel TW j9;simp only [List.filter_cons,List.filter_nil]
 cases f (p,p) <;> cases f (p,q) <;> cases f (q,p) <;> cases f (q,q) <;> rfl
noncomputable def lowV (g:Nat):Nat:=((V4.filter fun i=>g.testBit i).head?).getD 0
theorem mask_facts:∀ l<16,∀ g<16,g≠0→Nat.beq (Nat.land l (pbM g)) 0 = !(l.testBit (lowV g)):=by decide +kernel
theorem low_head:∀ g<16,g≠0→(V4.filter fun i=>g.testBit i).head?=some (lowV g)∧lowV g∈V4:=by decide +kernel
theorem rd_lt:∀ l<16,∀ g<16,n6 l g<16:=by decide +kernel
theorem rd_zero (l:Nat):n6 l 0=l:=by
 have:pbM 0=0:=by decide
 unfold n6;rw [this];have:Nat.land l 0=0:=Nat.and_zero l;rw [this];rfl
theorem sub_nil {p q:Nat} : ∀ m<16,((o8 p q m).map PV.str).isEmpty=decide (m=0):=by
 intro m hm;have:∀ m<16,(V4.filter fun i=>m.testBit i).isEmpty=decide (m=0):=by decide +kernel
 rw [← this m hm];unfold o8 sel
 cases V4.filter fun i=>m.testBit i <;> rfl
noncomputable abbrev basV (p q:Nat) (B:List Nat):List PV:=B.map fun m=>y6 (o8 p q m)
structure NI (p q:Nat) (B:List Nat) (σ:z9):Prop where
 z:ln σ=6
 s1:gt σ 1=some (.own (basV p q B))
section
variable {p q:Nat} (x:p<q)
include x
theorem sld_sub {l g:Nat} : sld [y6 (o8 p q l),y6 (o8 p q g)]=some (.tup [y6 (sel (hs4 p q) V4 fun i=>l.testBit i && !g.testBit i),y6 (sel (hs4 p q) V4 fun i=>g.testBit i && !l.testBit i)]) :=
 sld_sel (ascV x) (by decide) _ _
theorem sort_sub {l g:Nat} : Z1 "sorted" [y6 ((sel (hs4 p q) V4 fun i=>l.testBit i && !g.testBit i) ++ sel (hs4 p q) V4 fun i=>g.testBit i && !l.testBit i)]=some (y6 (o8 p q (Nat.xor l g))):=by
 have h1:=X4 (hs:=hs4 p q) (V:=V4) fun i=>l.testBit i && !g.testBit i
 have h2:=X4 (hs:=hs4 p q) (V:=V4) fun i=>g.testBit i && !l.testBit i
 have hl:V4.length=4:=rfl;rw [J9 (by rw [List.length_append];lia)];congr 3;congr 1;refine sort_sel (ascV x) (fun i=>?_) (fun i=>?_)
 ·have:(Nat.xor l g).testBit i=(l.testBit i ^^ g.testBit i):=Nat.testBit_xor l g i;rw [this]
  cases l.testBit i <;> cases g.testBit i <;> rfl
 ·cases l.testBit i <;> cases g.testBit i <;> simp
theorem rki_ev {k:Nat} {B:List Nat} {l g:Nat} {σ:z9} (hl:l<16) (hg:g<16) (hg0:g≠0) (I:NI p q B σ) (s3:gt σ 3=some (.val (y6 (o8 p q l)))) :
  ∃ σ',y7 (gam (k + 1)) 0 rki (z7 σ 4 (.val (y6 (o8 p q g))))=some (.next,σ')∧NI p q B σ'∧gt σ' 3=some (.val (y6 (o8 p q (n6 l g)))):=by
 refine z6 fun K0=>?_
 obtain ⟨z,s1⟩:=I;refine w7 (low_head g hg hg0 :) fun lh lm=>?_
 refine K0 ?_;clear K0;have hidx:v4 (y6 (o8 p q g)) (.int 0)=some (.str (hs4 p q (lowV g))):=by
  refine S3 (j:=0) ?_ rfl;unfold o8 sel;rw [List.map_map,← List.head?_eq_getElem?,List.head?_map,lh];rfl
 have hin:u7 .In (.str (hs4 p q (lowV g))) (y6 (o8 p q l))=some (l.testBit (lowV g)):=by
  have e:∀ a b c:Nat,u7 .In (.str [a,b,c]) (y6 (o8 p q l))=b5 (.str [a,b,c]) ((o8 p q l).map .str):=fun _ _ _=>rfl
  have e2:∃ a b c,hs4 p q (lowV g)=[a,b,c]:=by
   unfold hs4;split <;> exact ⟨_,_,_,rfl⟩
  refine x31 e2 fun a b c e2=>?_
  have:=sel_mem (ascV x) (fun i=>l.testBit i) lm
  rw [e2] at this ⊢;rw [e,C1];exact congrArg some this
 have hr:n6 l g=if l.testBit (lowV g) then Nat.xor l g else l:=by
  unfold n6;rw [mask_facts l hl g hg hg0]
  cases l.testBit (lowV g) <;> rfl
 rw [hr]
 cases hb:l.testBit (lowV g) with
 | false =>
  rw [hb] at hin
  exact ⟨z7 σ 4 (.val (y6 (o8 p q g))),by unfold rki;walk_at "ev",⟨by walk_at "slot",by walk_at "slot"⟩,by show gt _ 3=some (.val (y6 (o8 p q l)));walk_at "slot"⟩
 | true =>
  rw [hb] at hin
  have hsl:gam (k + 1) (.ref 38) [y6 (o8 p q l),y6 (o8 p q g)]=_:=sld_sub x
  have hso:=sort_sub x (l:=l) (g:=g)
  have h1:=X4 (hs:=hs4 p q) (V:=V4) fun i=>l.testBit i && !g.testBit i
  have h2:=X4 (hs:=hs4 p q) (V:=V4) fun i=>g.testBit i && !l.testBit i
  generalize (sel (hs4 p q) V4 fun i=>l.testBit i && !g.testBit i)=D1 at *
  generalize (sel (hs4 p q) V4 fun i=>g.testBit i && !l.testBit i)=D2 at *
  have ha:l4 .Add (y6 D1) (y6 D2)=some (y6 (D1 ++ D2)) :=
   (S5 (by rw [List.length_map,List.length_map];exact Nat.le_trans (Nat.add_le_add h1 h2) (by decide))).trans (by rw [← List.map_append])
  have i0:v4 (.tup [y6 D1,y6 D2]) (.int 0)=some (y6 D1):=rfl
  have i1:v4 (.tup [y6 D1,y6 D2]) (.int 1)=some (y6 D2):=rfl
  exact ⟨z7 (z7 (z7 σ 4 (.val (y6 (o8 p q g)))) 5 (.val (.tup [y6 D1,y6 D2]))) 3 (.val (y6 (o8 p q (Nat.xor l g)))),by unfold rki;walk_at "ev",⟨by walk_at "slot",by walk_at "slot"⟩,k_i (n:=6) (by walk_at "slot") rfl⟩
omit x in
theorem lo_end {t:Tgt} {i n y:Nat} {b:z9→Option (Fl × z9)} {σ:z9} {ys:List PV} (h:gt σ y=some (.own ys)) (hx:ys[i]?=none):V6 t y b i (n + 1) σ=some (.next,σ):=by
 rw [V6,O5,h];show (match ys[i]? with | none=>_ | some _=>_)=_
 rw [hx]
omit x in
theorem lo_go {t:Tgt} {i n y:Nat} {b:z9→Option (Fl × z9)} {σ σ1 σ2:z9} {ys:List PV} {v:PV} {r:Option (Fl × z9)} (h:gt σ y=some (.own ys)) (hx:ys[i]?=some v) (h1:t.put σ v=some σ1) (h2:b σ1=some (.next,σ2)) (h3:V6 t y b (i + 1) n σ2=r):V6 t y b i (n + 1) σ=r:=by
 rw [V6,O5,h];show (match ys[i]? with | none=>_ | some y=>(t.put σ y).bind fun σ1=>(b σ1).bind _)=_
 rw [hx];show ((t.put σ v).bind fun σ1=>(b σ1).bind _)=_
 rw [h1,Option.bind_some,h2];exact h3
theorem inner_run {k:Nat} {B:List Nat} : ∀ (C D:List Nat) (l:Nat) (σ:z9) (m:Nat),B=D ++ C→(∀ g∈C,g<16∧g≠0)→l<16→NI p q B σ→gt σ 3=some (.val (y6 (o8 p q l))) →
  ∃ σ',V6 (.one 4) 1 (y7 (gam (k + 1)) 0 rki) D.length (C.length + 1 + m) σ=some (.next,σ')∧NI p q B σ'∧gt σ' 3=some (.val (y6 (o8 p q (C.foldl n6 l))))∧C.foldl n6 l<16
 | [],D,l,σ,m,hB,_,hl,I,s3=>by
  refine ⟨σ,?_,I,s3,hl⟩;rw [show ([]:List Nat).length + 1 + m=m + 1 from Nat.add_comm (0 + 1) m];exact lo_end I.s1 (List.getElem?_eq_none (by rw [hB,List.append_nil,List.length_map];exact Nat.le_refl _))
 | g::C,D,l,σ,m,hB,hC,hl,I,s3=>by
  have hg:=hC g (List.mem_cons_self ..);refine z6 fun K0=>?_
  refine x13 (rki_ev x (k:=k) hl hg.1 hg.2 I s3 :) fun σ1 e1 I1 s31=>?_
  refine x14 (inner_run (k:=k) C (D ++ [g]) (n6 l g) σ1 m (by rw [hB];simp) (fun a ha=>hC a (List.mem_cons_of_mem _ ha)) (rd_lt l hl g hg.1) I1 s31 :) fun σ2 e2 I2 s32 hl2=>?_
  refine K0 ?_;clear K0;refine ⟨σ2,?_,I2,s32,hl2⟩;rw [show (g::C).length + 1 + m=(C.length + 1 + m) + 1 from Nat.add_right_comm (C.length + 1) 1 m];refine lo_go I.s1 (v:=y6 (o8 p q g)) ?_ rfl e1 (by rw [List.length_append] at e2;exact e2);rw [List.getElem?_map,hB,List.getElem?_append_right (Nat.le_refl _),Nat.sub_self];rfl
noncomputable def addB (B:List Nat) (r:Nat):List Nat:=if B.foldl n6 r=0 then B else B ++ [B.foldl n6 r]
theorem rkb_ev {k:Nat} {B:List Nat} {r:Nat} {σ:z9} (hr:r<16) (hB:∀ g∈B,g<16∧g≠0) (hl:B.length≤60) (I:NI p q B σ):∃ σ',y7 (gam (k + 1)) 0 rkb (z7 σ 2 (.val (y6 (o8 p q r))))=some (.next,σ')∧NI p q (addB B r) σ'∧(∀ g∈addB B r,g<16∧g≠0)∧(addB B r).length≤B.length + 1:=by
 refine z6 fun K0=>?_
 obtain ⟨z,s1⟩:=I;have f1:w8 (gam (k + 1)) 0 (.assign 3 (.var 2)) (z7 σ 2 (.val (y6 (o8 p q r))))=some (.next,z7 (z7 σ 2 (.val (y6 (o8 p q r)))) 3 (.val (y6 (o8 p q r)))):=by walk_at "ev"
 have I1:NI p q B (z7 (z7 σ 2 (.val (y6 (o8 p q r)))) 3 (.val (y6 (o8 p q r)))):=⟨by walk_at "slot",by walk_at "slot"⟩;have s3:gt (z7 (z7 σ 2 (.val (y6 (o8 p q r)))) 3 (.val (y6 (o8 p q r)))) 3=some (.val (y6 (o8 p q r))):=by walk_at "slot"
 refine x14 (inner_run x (k:=k) (B:=B) B [] r _ (j4 - (B.length + 1)) rfl hB hr I1 s3 :) fun σ1 e1 I2 s31 hl16=>?_
 rw [show B.length + 1 + (j4 - (B.length + 1))=j4 by unfold j4;lia] at e1;have f2:w8 (gam (k + 1)) 0 (.forOwn (.one 4) 1 rki) (z7 (z7 σ 2 (.val (y6 (o8 p q r)))) 3 (.val (y6 (o8 p q r))))=some (.next,σ1):=e1;obtain ⟨z2,t1⟩:=I2;refine K0 ?_;clear K0;unfold addB;generalize hL:B.foldl n6 r=l at *;have hc:y8 (z8 (gam (k + 1)) (.var 3) .test σ1)=some (!decide (l=0)):=t_var s31 (congrArg (fun b=>some (!b)) (sub_nil l hl16))
 by_cases h0:l=0
 ·rw [decide_eq_true h0] at hc;rw [if_pos h0];refine ⟨σ1,?_,⟨z2,t1⟩,hB,by lia⟩;rw [rkb,u9 f1,u9 f2,V2 hc];rfl
 ·rw [decide_eq_false h0,Bool.not_false] at hc;rw [if_neg h0];have f3:w8 (gam (k + 1)) 0 (.push 1 (.var 3)) σ1=some (.next,σ1.set 1 (.own (basV p q B ++ [y6 (o8 p q l)]))) :=
   s_push (m7 s31) t1 (by rw [List.length_map];exact Nat.lt_of_le_of_lt hl (by decide))
  refine ⟨σ1.set 1 (.own (basV p q B ++ [y6 (o8 p q l)])),?_,⟨by walk_at "slot",?_⟩,?_,by rw [List.length_append];exact Nat.le_refl _⟩
  ·rw [rkb,u9 f1,u9 f2,ite_t hc,u9 f3];rfl
  ·show gt _ 1=some (.own ((B ++ [l]).map fun m=>y6 (o8 p q m)))
   rw [List.map_append];exact k_si z2 rfl
  ·intro g hg;rcases List.mem_append.mp hg with hg | hg
   ·exact hB g hg
   ·rw [List.mem_singleton.mp hg];exact ⟨hl16,h0⟩
theorem rank_loop {k:Nat} : ∀ (rs B:List Nat) (σ:z9),(∀ r∈rs,r<16)→(∀ g∈B,g<16∧g≠0)→B.length + rs.length≤60→NI p q B σ→∃ σ',c7 (.one 2) (y7 (gam (k + 1)) 0 rkb) (rs.map fun m=>y6 (o8 p q m)) σ=some (.next,σ')∧NI p q (rs.foldl addB B) σ'
 | [],B,σ,_,_,_,I=>⟨σ,rfl,I⟩
 | r::rs,B,σ,hr,hB,hl,I=>by
  refine z6 fun K0=>?_
  refine x14 (rkb_ev x (k:=k) (hr r (List.mem_cons_self ..)) hB (by simp at hl;lia) I :) fun σ1 e1 I1 hB1 hl1=>?_
  refine x12 (rank_loop (k:=k) rs (addB B r) σ1 (fun a ha=>hr a (List.mem_cons_of_mem _ ha)) hB1 (by simp at hl;lia) I1 :) fun σ2 e2 I2=>?_
  refine K0 ?_;clear K0;exact ⟨σ2,S4 rfl e1 e2,I2⟩
theorem g178 {k:Nat} {rs:List Nat} (hr:∀ r∈rs,r<16) (hl:rs.length≤60):gam (k + 2) (.ref 178) [.list (rs.map fun m=>y6 (o8 p q m))]=some (.int ((rs.foldl addB []).length:Int)):=by
 rw [d8 (by decide) (by decide) (by rfl) rfl];have key:∃ σ',y7 (gam (k + 1)) 0 b178 ([PV.list (rs.map fun m=>y6 (o8 p q m))].map Mine.Slot.val ++ List.replicate (6 - [PV.list (rs.map fun m=>y6 (o8 p q m))].length) .unset)=some (.ret (.int ((rs.foldl addB []).length:Int)),σ'):=by
  generalize hσ:([PV.list (rs.map fun m=>y6 (o8 p q m))].map Mine.Slot.val ++ List.replicate (6 - [PV.list (rs.map fun m=>y6 (o8 p q m))].length) .unset:z9)=σ0
  have z:ln σ0=6:=by rw [← hσ];rfl
  have s0:gt σ0 0=some (.val (.list (rs.map fun m=>y6 (o8 p q m)))):=by rw [← hσ];rfl
  clear hσ;have f1:w8 (gam (k + 1)) 0 (.own 1) σ0=some (.next,z7 σ0 1 (.own [])):=by walk_at "ev"
  have I:NI p q [] (z7 σ0 1 (.own [])):=⟨by walk_at "slot",k_i z rfl⟩;refine x12 (rank_loop x (k:=k) rs [] _ hr (fun g hg=>nomatch hg) (by simpa using hl) I :) fun σ1 e1 I1=>?_
  have f2:w8 (gam (k + 1)) 0 (.for (.one 2) .plain (.var 0) (.lit .nul) rkb) (z7 σ0 1 (.own []))=some (.next,σ1):=by
   exact s_for (by walk_at "ev") l3 rfl e1
  rw [b178,u9 f1,u9 f2];exact ⟨frzA σ1,T6 (e_len (e_pk (k_Ao I1.s1)) (len_l (List.length_map ..)))⟩
 refine Exists.elim key fun σ' h=>?_
 exact i8 h
end
theorem fold_add (B:List Nat) (r l:Nat):(addB B r).foldl n6 l=n6 (B.foldl n6 l) (B.foldl n6 r):=by
 unfold addB
 split
 ·rename_i h;rw [h,rd_zero]
 ·rw [List.foldl_append];rfl
theorem len_add (B:List Nat) (r:Nat):(addB B r).length=nzM (B.foldl n6 r) B.length:=by
 unfold addB nzM
 split
 ·rename_i h;rw [h];rfl
 ·rename_i h;have:Nat.beq (B.foldl n6 r) 0=false:=by
   cases hb:Nat.beq (B.foldl n6 r) 0 with
   | false=>rfl
   | true=>exact absurd (Nat.eq_of_beq_eq_true hb) h
  rw [this];simp
theorem rank_rk (a b c d:Nat):([a,b,c,d].foldl addB []).length=rkM a b c d:=by
 simp only [List.foldl_cons,List.foldl_nil,len_add,fold_add];rfl
theorem I7 {α:Type} {t:Tgt} {σ:z9} {inner:z9→Option (List PV)} (inj:α→PV) (put:α→z9) (g:α→List PV):∀ xs:List α,(∀ a∈xs,t.put σ (inj a)=some (put a)∧inner (put a)=some (g a))→(xs.flatMap g).length≤small→X0 t σ inner (xs.map inj)=some (xs.flatMap g)
 | [],_,_=>rfl
 | a::xs,h,hz=>by
  refine w7 (h a (List.mem_cons_self ..) :) fun h1 h2=>?_
  have hz':(g a).length + (xs.flatMap g).length≤small:=by rw [List.flatMap_cons,List.length_append] at hz;exact hz
  have ih:=I7 inj put g xs (fun b hb=>h b (List.mem_cons_of_mem _ hb)) (Nat.le_trans (Nat.le_add_left ..) hz')
  show ((t.put σ (inj a)).bind fun σ1=>(inner σ1).bind fun vs=>(X0 t σ inner (xs.map inj)).bind fun r=>if vs.length + r.length≤small then some (vs ++ r) else none)=_
  rw [h1,Option.bind_some,h2,Option.bind_some,ih,Option.bind_some,if_pos hz',List.flatMap_cons]
theorem cat_ev {Γ:y9} {i j:Nat} {a b:List Nat} {σ:z9} (hi:j5 σ i=some (.str a)) (hj:j5 σ j=some (.str b)) (hz:a.length + 1 + b.length≤small):z8 Γ (catE i j) .val σ=some (.str (a ++ [46] ++ b)):=by
 exact Y7 (Y7 (a := .var i) hi l3 (S6 (Nat.le_trans (Nat.le_add_right ..) hz))) (b := .var j) hj (S6 (by rw [List.length_append];exact hz))
theorem comp2_cat {Γ:y9} {A B:List (List Nat)} (hA:∀ a∈A,a.length≤100) (hB:∀ b∈B,b.length≤100) (hz:A.length * B.length≤small) :
  X0 (.one 1) [.unset,.unset,.unset,.val (y6 B)] (fun σ1=>(z8 Γ (.var 3) .val σ1).bind fun z=>(lstP z).bind fun items2=>m5 (.one 2) σ1 (fun _=>some true) (z8 Γ (catE 1 2) .val) items2) (A.map .str)=some ((A.flatMap fun a=>B.map fun b=>a ++ [46] ++ b).map .str):=by
 rw [I7 PV.str (fun a=>[.unset,.val (.str a),.unset,.val (y6 B)]) (fun a=>(B.map fun b=>a ++ [46] ++ b).map .str) A (fun a ha=>⟨rfl,?_⟩) ?_]
 ·rw [List.map_flatMap]
 ·have:∀ A:List (List Nat),(A.flatMap fun a=>(B.map fun b=>a ++ [46] ++ b).map PV.str).length=A.length * B.length:=by
   intro A
   induction A with
   | nil=>simp
   | cons a A ih =>
    rw [List.flatMap_cons,List.length_append,ih]
    simp [Nat.add_mul];lia
  rw [this];exact hz
 ·show m5 (.one 2) [.unset,.val (.str a),.unset,.val (y6 B)] (fun _=>some true) (z8 Γ (catE 1 2) .val) (B.map .str)=_
  rw [X1 (x:=2) PV.str (fun b => .str (a ++ [46] ++ b)) (fun _=>true) B (fun b hb=>⟨rfl,fun _=>?_⟩),S1,List.map_map]
  ·rfl
  ·exact cat_ev rfl rfl (by have:=hA a ha;have:=hB b hb;unfold small;lia)
theorem twos_cat (p q:Nat):(([[p],[q]]:List (List Nat)).flatMap fun a=>([[p],[q]]:List (List Nat)).map fun b=>a ++ [46] ++ b)=(TW p q).map s2:=rfl
theorem hosts_cat (p q:Nat):(((TW p q).map s2).flatMap fun a=>((TW p q).map s2).map fun b=>a ++ [46] ++ b)=Z8 p q:=rfl
theorem E9 {Γ:y9} {T:List Two} {R:Two→List (List Nat)} {i j:Nat} {out:List Nat→List Nat→List Nat} (hR:∀ t,∀ b∈R t,b.length≤100) (hl:∀ t,(R t).length≤16) (hT:T.length≤16)
  (hc:∀ (t:Two) (b:List Nat),b.length≤100→z8 Γ (catE i j) .val [.unset,.val (.str (s2 t)),.val (y6 (R t)),.val (.str b)]=some (.str (out (s2 t) b))) :
  X0 (.two 1 2) [.unset,.unset,.unset,.unset] (fun σ1=>(z8 Γ (.var 2) .val σ1).bind fun z=>(lstP z).bind fun items2=>m5 (.one 3) σ1 (fun _=>some true) (z8 Γ (catE i j) .val) items2) (zipL ((T.map s2).map .str) (T.map fun t=>y6 (R t)))=some ((T.flatMap fun t=>(R t).map fun b=>out (s2 t) b).map .str):=by
 rw [List.map_map,zipL_map];rw [I7 (fun t:Two=>PV.tup [(PV.str ∘ s2) t,y6 (R t)]) (fun t=>[.unset,.val (.str (s2 t)),.val (y6 (R t)),.unset]) (fun t=>((R t).map fun b=>out (s2 t) b).map .str) T (fun t ht=>⟨rfl,?_⟩) ?_]
 ·rw [List.map_flatMap]
 ·have:∀ T:List Two,(T.flatMap fun t=>((R t).map fun b=>out (s2 t) b).map PV.str).length≤T.length * 16:=by
   intro T
   induction T with
   | nil=>simp
   | cons t T ih =>
    rw [List.flatMap_cons,List.length_append]
    have:=hl t
    simp only [List.length_map,List.length_cons] at ih ⊢
    lia
  have:=this T;unfold small;lia
 ·show m5 (.one 3) [.unset,.val (.str (s2 t)),.val (y6 (R t)),.unset] (fun _=>some true) (z8 Γ (catE i j) .val) ((R t).map .str)=_
  rw [X1 (x:=3) PV.str (fun b => .str (out (s2 t) b)) (fun _=>true) (R t) (fun b hb=>⟨rfl,fun _=>?_⟩),S1,List.map_map]
  ·rfl
  ·exact hc t b (hR t b hb)
theorem s4_cat (x y:Two):s2 x ++ [46] ++ s2 y=s4 (x,y):=rfl
theorem rows_whole (p q:Nat) (f:q9→Bool):((TW p q).flatMap fun t=>(rowB p q f t).map fun b=>s2 t ++ [46] ++ b)=sel s4 (HW p q) f:=by
 unfold rowB sel HW;rw [List.filter_flatMap,List.map_flatMap];congr 1
 funext t
 rw [List.filter_map,List.map_map,List.map_map];rfl
theorem fm_app {α β:Type} (f g:α→List β):∀ l:List α,(l.flatMap fun x=>f x ++ g x).Perm (l.flatMap f ++ l.flatMap g)
 | [] => .refl _
 | x::l=>by
  rw [List.flatMap_cons,List.flatMap_cons,List.flatMap_cons,List.append_assoc,List.append_assoc];exact .append_left _ ((List.Perm.append_left _ (fm_app f g l)).trans (List.perm_append_comm_assoc ..))
theorem swap_perm {α β γ:Type} (f:α→β→Bool) (g:α→β→γ) (W:List β):∀ V:List α,(V.flatMap fun x=>(W.filter (f x)).map (g x)).Perm (W.flatMap fun y=>(V.filter fun x=>f x y).map fun x=>g x y)
 | []=>by
  have e:(W.flatMap fun y=>(([]:List α).filter fun x=>f x y).map fun x=>g x y)=[]:=List.flatMap_eq_nil_iff.mpr fun _ _=>rfl
  rw [e];exact .refl _
 | x::V=>by
  have e:(W.flatMap fun y=>((x::V).filter fun x=>f x y).map fun x=>g x y)=W.flatMap fun y=>(if f x y=true then [g x y] else []) ++ (V.filter fun x=>f x y).map fun x=>g x y :=
   congrArg (fun h=>W.flatMap h) (funext fun y=>by rw [List.filter_cons];cases f x y <;> rfl)
  rw [List.flatMap_cons,e,← flat_if (f x) (g x) W];exact (List.Perm.append_left _ (swap_perm f g W V)).trans (fm_app _ _ W).symm
theorem cols_perm (p q:Nat) (f:q9→Bool):(sel s4 (HW p q) f).Perm ((TW p q).flatMap fun t=>(colB p q f t).map fun b=>b ++ [46] ++ s2 t):=by
 have h:=swap_perm (fun x y=>f (x,y)) (fun x y=>s4 (x,y)) (TW p q) (TW p q)
 have e:sel s4 (HW p q) f=(TW p q).flatMap fun x=>((TW p q).filter fun y=>f (x,y)).map fun y=>s4 (x,y):=by
  unfold sel HW;rw [List.filter_flatMap,List.map_flatMap];refine congrArg (fun h=>(TW p q).flatMap h) (funext fun t=>?_)
  rw [List.filter_map,List.map_map];rfl
 have e2:((TW p q).flatMap fun t=>(colB p q f t).map fun b=>b ++ [46] ++ s2 t)=(TW p q).flatMap fun y=>((TW p q).filter fun x=>f (x,y)).map fun x=>s4 (x,y):=by
  refine congrArg (fun h=>(TW p q).flatMap h) (funext fun t=>?_)
  unfold colB sel;rw [List.map_map];rfl
 rw [e,e2];exact h
theorem Y6:∀ {n:Nat} {f:Nat→Bool},allB n f=true→∀ i<n,f i=true
 | 0,_,_,i,hi=>absurd hi (Nat.not_lt_zero i)
 | n + 1,f,h,i,hi=>by
  unfold allB at h
  cases hf:f n with
  | false=>rw [hf] at h;cases h
  | true =>
   rw [hf] at h
   rcases Nat.lt_succ_iff_lt_or_eq.mp hi with h1 | h1
   ·exact Y6 h i h1
   ·rw [h1];exact hf
theorem rank_ok {a b c d:Nat} (ha:a<16) (hb:b<16) (hc:c<16) (hd:d<16):rkM a b c d=rkM (colM a b c d 0) (colM a b c d 1) (colM a b c d 2) (colM a b c d 3):=by
 have h:=Y6 (Y6 (Y6 (Y6 rank_all a ha) b hb) c hc) d hd;exact Nat.eq_of_beq_eq_true h
theorem nz_le (l k:Nat):nzM l k≤k + 1:=by
 unfold nzM
 cases Nat.beq l 0 <;> simp
theorem rank_le (a b c d:Nat):rkM a b c d≤4:=by
 unfold rkM rk3;have h1:=nz_le a 0;have h2:=nz_le (n6 b a) (nzM a 0);have h3:=nz_le (n6 (n6 c a) (n6 b a)) (nzM (n6 b a) (nzM a 0));have h4:=nz_le (n6 (n6 (n6 d a) (n6 b a)) (n6 (n6 c a) (n6 b a))) (nzM (n6 (n6 c a) (n6 b a)) (nzM (n6 b a) (nzM a 0)))
 lia
theorem rank_dep {a b c d:Nat} (ha:a<16) (hb:b<16) (hc:c<16) (hd:d<16) {x:Nat} (hx:x<15) (h0:combM a b c d (x + 1)=0):rkM a b c d≤3:=by
 have h:=Y6 (Y6 (Y6 (Y6 dep_all a ha) b hb) c hc) d hd;have hle:=rank_le a b c d
 cases hr:Nat.beq (rkM a b c d) 4 with
 | false =>
  have:rkM a b c d≠4:=fun q=>by rw [q] at hr;cases hr
  lia
 | true =>
  unfold depM at h
  rw [hr] at h
  have h2:=Y6 (f:=fun x=>cond (Nat.beq (combM a b c d (Nat.succ x)) 0) false true) h x hx
  have:combM a b c d (Nat.succ x)=0:=h0
  rw [this] at h2
  cases h2
noncomputable def xb (m i:Nat):Bool := !(Nat.beq (bitM m i) 0)
noncomputable def dotB (x u:Nat):Bool:=(xb x 0 && xb u 0) ^^ ((xb x 1 && xb u 1) ^^ ((xb x 2 && xb u 2) ^^ (xb x 3 && xb u 3)))
noncomputable def anyB:Nat→(Nat→Bool)→Bool
 | 0,_=>false
 | n + 1,f=>cond (f n) true (anyB n f)
theorem anyB_get:∀ {n:Nat} {f:Nat→Bool},anyB n f=true→∃ i,i<n∧f i=true
 | 0,_,h=>by cases h
 | n + 1,f,h=>by
  unfold anyB at h
  cases hf:f n with
  | true=>exact ⟨n,Nat.lt_succ_self n,hf⟩
  | false =>
   rw [hf] at h
   refine x12 (anyB_get h :) fun i h1 h2=>?_
   exact ⟨i,Nat.lt_succ_of_lt h1,h2⟩
theorem ex_x:allB 16 (fun u=>allB 16 fun v=>allB 16 fun w=>anyB 15 fun x => !(dotB (Nat.succ x) u) && (!(dotB (Nat.succ x) v) && !(dotB (Nat.succ x) w)))=true:=by decide +kernel
theorem Q7 (p q:Nat) (f:Two→Bool):bitM (j9 p q f) 0=(f (p,p)).toNat∧bitM (j9 p q f) 1=(f (p,q)).toNat∧bitM (j9 p q f) 2=(f (q,p)).toNat∧bitM (j9 p q f) 3=(f (q,q)).toNat:=by
 unfold j9
 cases f (p,p) <;> cases f (p,q) <;> cases f (q,p) <;> cases f (q,q) <;> decide
theorem xb_mask (p q:Nat) (f:Two→Bool):xb (j9 p q f) 0=f (p,p)∧xb (j9 p q f) 1=f (p,q)∧xb (j9 p q f) 2=f (q,p)∧xb (j9 p q f) 3=f (q,q):=by
 refine z6 fun K0=>?_
 refine x04 (Q7 p q f :) fun h0 h1 h2 h3=>?_
 refine K0 ?_;clear K0;unfold xb;rw [h0,h1,h2,h3]
 cases f (p,p) <;> cases f (p,q) <;> cases f (q,p) <;> cases f (q,q) <;> decide
theorem mask_xor (p q:Nat) (f g:Two→Bool):Nat.xor (j9 p q f) (j9 p q g)=j9 p q fun y=>f y ^^ g y:=by
 unfold j9;have:∀ a b c d a' b' c' d':Bool,Nat.xor (a.toNat + (2 * b.toNat + (4 * c.toNat + 8 * d.toNat))) (a'.toNat + (2 * b'.toNat + (4 * c'.toNat + 8 * d'.toNat)))=(a ^^ a').toNat + (2 * (b ^^ b').toNat + (4 * (c ^^ c').toNat + 8 * (d ^^ d').toNat)):=by decide +kernel
 exact this _ _ _ _ _ _ _ _
theorem M8 (p q x i:Nat) (f:Two→Bool):selM x (j9 p q f) i=j9 p q fun y=>xb x i && f y:=by
 unfold selM xb
 cases Nat.beq (bitM x i) 0 with
 | true=>rfl
 | false=>rfl
theorem xd (x u v w a b c:Bool):(x && ((u && a) ^^ ((v && b) ^^ (w && c))))=(((x && u) && a) ^^ (((x && v) && b) ^^ ((x && w) && c))):=by cases x <;> rfl
theorem xs (a y0 y1 y2 y3:Bool):((y0 && a) ^^ ((y1 && a) ^^ ((y2 && a) ^^ (y3 && a))))=((y0 ^^ (y1 ^^ (y2 ^^ y3))) && a):=by
 cases a
 ·rw [Bool.and_false,Bool.and_false,Bool.and_false,Bool.and_false,Bool.and_false];rfl
 ·rw [Bool.and_true,Bool.and_true,Bool.and_true,Bool.and_true,Bool.and_true]
theorem xx (a b c d:Bool):((a ^^ b) ^^ (c ^^ d))=((a ^^ c) ^^ (b ^^ d)):=by revert a b c d;decide
theorem x8 (a0 a1 a2 a3 b0 b1 b2 b3:Bool):((a0 ^^ b0) ^^ ((a1 ^^ b1) ^^ ((a2 ^^ b2) ^^ (a3 ^^ b3))))=((a0 ^^ (a1 ^^ (a2 ^^ a3))) ^^ (b0 ^^ (b1 ^^ (b2 ^^ b3)))):=by
 rw [xx a2,xx a1,xx a0]
theorem xa (a0 a1 a2 a3 b0 b1 b2 b3 c0 c1 c2 c3:Bool):((a0 ^^ (b0 ^^ c0)) ^^ ((a1 ^^ (b1 ^^ c1)) ^^ ((a2 ^^ (b2 ^^ c2)) ^^ (a3 ^^ (b3 ^^ c3)))))=((a0 ^^ (a1 ^^ (a2 ^^ a3))) ^^ ((b0 ^^ (b1 ^^ (b2 ^^ b3))) ^^ (c0 ^^ (c1 ^^ (c2 ^^ c3))))):=by
 rw [x8,x8 b0]
theorem lin (x0 x1 x2 x3 u0 u1 u2 u3 v0 v1 v2 v3 w0 w1 w2 w3 a b c:Bool) (h1:((x0 && u0) ^^ ((x1 && u1) ^^ ((x2 && u2) ^^ (x3 && u3))))=false) (h2:((x0 && v0) ^^ ((x1 && v1) ^^ ((x2 && v2) ^^ (x3 && v3))))=false) (h3:((x0 && w0) ^^ ((x1 && w1) ^^ ((x2 && w2) ^^ (x3 && w3))))=false) :
  ((x0 && ((u0 && a) ^^ ((v0 && b) ^^ (w0 && c)))) ^^ ((x1 && ((u1 && a) ^^ ((v1 && b) ^^ (w1 && c)))) ^^ ((x2 && ((u2 && a) ^^ ((v2 && b) ^^ (w2 && c)))) ^^ (x3 && ((u3 && a) ^^ ((v3 && b) ^^ (w3 && c)))))))=false:=by
 rw [xd,xd,xd,xd,xa,xs,xs,xs,h1,h2,h3];rfl
theorem G7 (p q:Nat) (n:Int):∃ u v:Two→Bool,∀ h:q9,o9 p q n h=(u h.1 && v h.2):=by
 have hf:=nf_lt n;have hl:=nl_lt n;have cf:nf n=0∨nf n=1∨nf n=2:=by lia
 have cl:nl n=0∨nl n=1∨nl n=2:=by lia
 refine ⟨fun x=>okL p q n 0 ([x.1,x.2].take (nf n)),fun y=>okL p q n (nf n) ([y.1,y.2].drop (2 - nl n)),fun h=>?_⟩
 unfold o9 plainL;rcases cf with hf | hf | hf <;> rcases cl with hl | hl | hl <;> rw [hf,hl] <;> simp [okL,Bool.and_assoc]
theorem lang_prod (p q:Nat) (n1 n2 n3:Int):∃ u1 v1 u2 v2 u3 v3:Two→Bool,∀ h:q9,xl p q [n1,n2,n3] false h=((u1 h.1 && v1 h.2) ^^ ((u2 h.1 && v2 h.2) ^^ (u3 h.1 && v3 h.2))):=by
 refine z6 fun K0=>?_
 refine x21 (G7 p q n1 :) fun u1 v1 h1=>?_
 refine x21 (G7 p q n2 :) fun u2 v2 h2=>?_
 refine x21 (G7 p q n3 :) fun u3 v3 h3=>?_
 refine K0 ?_;clear K0;refine ⟨u1,v1,u2,v2,u3,v3,fun h=>?_⟩
 simp only [xl,h1,h2,h3]
 cases (u1 h.1 && v1 h.2) <;> cases (u2 h.1 && v2 h.2) <;> cases (u3 h.1 && v3 h.2) <;> rfl
noncomputable def rwM (p q:Nat) (f:q9→Bool) (t:Two):Nat:=j9 p q fun y=>f (t,y)
noncomputable def clM (p q:Nat) (f:q9→Bool) (t:Two):Nat:=j9 p q fun x=>f (x,t)
noncomputable def rowRk (p q:Nat) (f:q9→Bool):Nat:=rkM (rwM p q f (p,p)) (rwM p q f (p,q)) (rwM p q f (q,p)) (rwM p q f (q,q))
noncomputable def colRk (p q:Nat) (f:q9→Bool):Nat:=rkM (clM p q f (p,p)) (clM p q f (p,q)) (clM p q f (q,p)) (clM p q f (q,q))
theorem rk_eq (p q:Nat) (f:q9→Bool):rowRk p q f=colRk p q f:=by
 unfold rowRk colRk rwM;rw [rank_ok (Y9 ..) (Y9 ..) (Y9 ..) (Y9 ..)];have e:∀ t:Two,clM p q f t=(f ((p,p),t)).toNat + (2 * (f ((p,q),t)).toNat + (4 * (f ((q,p),t)).toNat + 8 * (f ((q,q),t)).toNat)):=fun t=>rfl
 have ec:∀ a b c d i:Nat,colM a b c d i=bitM a i + (2 * bitM b i + (4 * bitM c i + 8 * bitM d i)):=fun _ _ _ _ _=>rfl
 have b0:=Q7 p q fun y=>f ((p,p),y)
 have b1:=Q7 p q fun y=>f ((p,q),y)
 have b2:=Q7 p q fun y=>f ((q,p),y)
 have b3:=Q7 p q fun y=>f ((q,q),y)
 simp only [ec,e,b0,b1,b2,b3]
theorem rk_le {p q:Nat} {n1 n2 n3:Int} : rowRk p q (fun h=>xl p q [n1,n2,n3] false h)≤3:=by
 refine z6 fun K0=>?_
 refine x61 (lang_prod p q n1 n2 n3 :) fun u1 v1 u2 v2 u3 v3 hp=>?_
 have hex:=Y6 (Y6 (Y6 ex_x (j9 p q u1) (Y9 ..)) (j9 p q u2) (Y9 ..)) (j9 p q u3) (Y9 ..);refine x12 (anyB_get hex :) fun x hx h=>?_
 simp only [Bool.and_eq_true,Bool.not_eq_true',dotB,xb_mask] at h;refine x03 h fun d1 d2 d3=>?_
 refine K0 ?_;clear K0;refine rank_dep (Y9 ..) (Y9 ..) (Y9 ..) (Y9 ..) hx ?_;unfold combM rwM;rw [M8,M8,M8,M8,mask_xor,mask_xor,mask_xor];have:(fun y:Two=>(xb (x + 1) 0 && xl p q [n1,n2,n3] false ((p,p),y)) ^^ ((xb (x + 1) 1 && xl p q [n1,n2,n3] false ((p,q),y)) ^^ ((xb (x + 1) 2 && xl p q [n1,n2,n3] false ((q,p),y)) ^^ (xb (x + 1) 3 && xl p q [n1,n2,n3] false ((q,q),y)))))=fun _=>false:=by
  funext y
  rw [hp,hp,hp,hp];exact lin _ _ _ _ _ _ _ _ _ _ _ _ _ _ _ _ _ _ _ d1 d2 d3
 rw [this];rfl
theorem ne_self (l:List (List Nat)):u7 .NotEq (y6 l) (y6 l)=some false:=(congrArg (Option.map (!·)) (eqo_lists l l)).trans (by rw [decide_eq_true rfl];rfl)
section
variable {Γ:y9} {σ:z9} {a b:PE}
theorem e_and {y v:PV} (h1:z8 Γ a .val σ=some y) (h:truthy y=some true) (h2:z8 Γ b .val σ=some v):z8 Γ (.bop true a b) .val σ=some v:=by
 show ((z8 Γ a .val σ).bind fun x=>(truthy x).bind fun t=>if (t == true)=true then z8 Γ b .val σ else some x)=_
 rw [h1,Option.bind_some,h];exact h2
theorem e_comp2c {elt a2:PE} {tg t2:Tgt} {ki:IK} {i:Nat} {y v:PV} {items l:List PV} (h1:z8 Γ a .val σ=some y) (h3:f9 ki y .nul=some items) (h:gt σ i=some (.val v))
  (h4:X0 tg [.unset,.unset,.unset,.val v] (fun σ1=>(z8 Γ a2 .val σ1).bind fun z=>(lstP z).bind fun items2=>m5 t2 σ1 (fun _=>some true) (z8 Γ elt .val) items2) items=some l):z8 Γ (.comp2 elt tg ki a (.lit .nul) t2 a2 [none,none,none,some i]) .val σ=some (.list l) :=
 e_comp2 h1 l3 h3 (by rw [← cap_get h] at h4;exact h4)
end
theorem rowB_len (p q:Nat) (f:q9→Bool) (t:Two):(rowB p q f t).length≤16∧∀ b∈rowB p q f t,b.length≤100:=by
 refine ⟨?_,fun b hb=>?_⟩
 ·have:=X4 (hs:=s2) (V:=TW p q) fun y=>f (t,y)
  have h4:(TW p q).length=4:=rfl;unfold rowB;lia
 ·refine x12 (List.mem_map.mp hb :) fun y _ o0=>?_;obtain rfl:=o0
  simp [s2]
theorem colB_len (p q:Nat) (f:q9→Bool) (t:Two):(colB p q f t).length≤16∧∀ b∈colB p q f t,b.length≤100:=by
 refine ⟨?_,fun b hb=>?_⟩
 ·have:=X4 (hs:=s2) (V:=TW p q) fun x=>f (x,t)
  have h4:(TW p q).length=4:=rfl;unfold colB;lia
 ·refine x12 (List.mem_map.mp hb :) fun y _ o0=>?_;obtain rfl:=o0
  simp [s2]
section
variable {p q:Nat} (x:PQ p q)
include x
theorem g183 {k:Nat} {n1 n2 n3:Int} : gam (k + 5) (.ref 183) [r9 p q,.list ([n1,n2,n3].map .int)]=some (.bool true):=by
 rw [d8 (by decide) (by decide) (by rfl) rfl];have r161:=g161 x (k:=k) (ns:=[n1,n2,n3]);have hrk:=rk_eq p q fun h=>xl p q [n1,n2,n3] false h
 have hle:=rk_le (p:=p) (q:=q) (n1:=n1) (n2:=n2) (n3:=n3);generalize (fun h=>xl p q [n1,n2,n3] false h)=f at *
 have r166:=g166 x (k:=k) (f:=f);have r171:=g171 x (k:=k) (f:=f);have hrow:(TW p q).map (fun t=>y6 (rowB p q f t))=[rwM p q f (p,p),rwM p q f (p,q),rwM p q f (q,p),rwM p q f (q,q)].map fun m=>y6 (o8 p q m):=by
  have e:∀ t,rowB p q f t=o8 p q (rwM p q f t):=fun t=>sel_mask p q _
  simp only [e];rfl
 have hcol:(TW p q).map (fun t=>y6 (colB p q f t))=[clM p q f (p,p),clM p q f (p,q),clM p q f (q,p),clM p q f (q,q)].map fun m=>y6 (o8 p q m):=by
  have e:∀ t,colB p q f t=o8 p q (clM p q f t):=fun t=>sel_mask p q _
  simp only [e];rfl
 have r178:gam (k + 4) (.ref 178) [.list ((TW p q).map fun t=>y6 (rowB p q f t))]=some (.int (rowRk p q f:Int)):=by
  rw [hrow,g178 x.lt (k:=k + 2) (by
   intro r hr
   simp at hr
   rcases hr with rfl | rfl | rfl | rfl <;> exact Y9 ..) (by simp),rank_rk]
  rfl
 have r178':gam (k + 4) (.ref 178) [.list ((TW p q).map fun t=>y6 (colB p q f t))]=some (.int (rowRk p q f:Int)):=by
  rw [hcol,g178 x.lt (k:=k + 2) (by
   intro r hr
   simp at hr
   rcases hr with rfl | rfl | rfl | rfl <;> exact Y9 ..) (by simp),rank_rk,hrk]
  rfl
 generalize hΓ:gam (k + 4)=Γ at *;have k1:=comp2_cat (Γ:=Γ) (A:=[[p],[q]]) (B:=[[p],[q]]) (by simp) (by simp) (by show 4≤1048576;decide);rw [twos_cat] at k1;have k2:=comp2_cat (Γ:=Γ) (A:=(TW p q).map s2) (B:=(TW p q).map s2) (by simp [TW,s2]) (by simp [TW,s2]) (by show 16≤1048576;decide);rw [hosts_cat] at k2;have hcl:∀ (t:Two) (b:List Nat),b.length≤100→(s2 t).length + 1 + b.length≤small∧b.length + 1 + (s2 t).length≤small:=fun t b hb=>by
  show 3 + 1 + b.length≤1048576∧b.length + 1 + 3≤1048576
  lia
 have k3:=E9 (Γ:=Γ) (T:=TW p q) (R:=rowB p q f) (i:=1) (j:=3) (out:=fun a b=>a ++ [46] ++ b) (fun t=>(rowB_len p q f t).2) (fun t=>(rowB_len p q f t).1) (show 4≤16 by decide) (fun t b hb=>cat_ev rfl rfl (hcl t b hb).1)
 rw [rows_whole] at k3;have k4:=E9 (Γ:=Γ) (T:=TW p q) (R:=colB p q f) (i:=3) (j:=1) (out:=fun a b=>b ++ [46] ++ a) (fun t=>(colB_len p q f t).2) (fun t=>(colB_len p q f t).1) (show 4≤16 by decide) (fun t b hb=>cat_ev rfl rfl (hcl t b hb).2)
 have hp:=cols_perm p q f;have hso:Z1 "sorted" [y6 ((TW p q).flatMap fun t=>(colB p q f t).map fun b=>b ++ [46] ++ s2 t)]=some (y6 (sel s4 (HW p q) f)):=by
  rw [F6 hp (lt_nlt ((asc4 x.lt).sel f))];refine J9 ?_;rw [← hp.length_eq];exact Nat.lt_of_le_of_lt (X4 (hs:=s4) (V:=HW p q) f) (by rw [HW_len];decide)
 have hn:=ne_self (sel s4 (HW p q) f);have he:u7 .Eq (.int (rowRk p q f)) (.int (rowRk p q f))=some true:=o_eqi (decide_eq_true rfl);have hle':u7 .LtE (.int (rowRk p q f)) (.int 3)=some true:=o_le (decide_eq_true (Int.ofNat_le.mpr hle));clear hrow hcol hrk hp hcl hle;generalize [n1,n2,n3].map PV.int=N at *;generalize sel s4 (HW p q) f=L at *;generalize ((TW p q).flatMap fun t=>(colB p q f t).map fun b=>b ++ [46] ++ s2 t)=L' at *
 generalize rowRk p q f=r at *;exact i8 (by
  rw [b183]
  apply m9
  ·exact d7 (e_comp2c (by walk_at "ev") rfl (by walk_at "slot") k1)
  apply m9
  ·exact d7 (e_comp2c (by walk_at "ev") rfl (by walk_at "slot") k2)
  apply m9
  ·walk_at "ev"
  apply m9
  ·walk_at "ev"
  apply m9
  ·walk_at "ev"
  apply m9
  ·walk_at "ev"
  apply m9
  ·walk_at "ev"
  apply m9
  ·exact s_f (t_cmp (e_comp2 (by walk_at "ev") (by walk_at "ev") rfl k3) (by walk_at "ev") hn) rfl
  apply m9
  ·exact s_f (t_cmp (W6 (c9 (e_comp2 (by walk_at "ev") (by walk_at "ev") rfl k4) Y8) hso) (by walk_at "ev") hn) rfl
  apply m9
  ·walk_at "ev"
  exact M2 (s_ret (e_and (e_cmp (m7 (by walk_at "slot")) (W6 (c9 (m7 (by walk_at "slot")) Y8) r178') he) rfl (e_cmp (m7 (by walk_at "slot")) l3 hle'))))
end
theorem list4 {l:List Int} (h:l.length=4):∃ a b c e:Int,l=[a,b,c,e]:=by
 refine z6 fun K0=>?_
 refine x21 (List.exists_cons_of_length_eq_add_one h :) fun a t o0=>?_;obtain rfl:=o0
 have h:=Nat.succ.inj h;refine x21 (List.exists_cons_of_length_eq_add_one h :) fun b u o0=>?_;obtain rfl:=o0
 have h:=Nat.succ.inj h;refine x21 (List.exists_cons_of_length_eq_add_one h :) fun c v o0=>?_;obtain rfl:=o0
 refine Exists.elim (List.length_eq_one_iff.mp (Nat.succ.inj h) :) fun e o0=>?_;obtain rfl:=o0
 refine K0 ?_;clear K0;exact ⟨a,b,c,e,rfl⟩
theorem pure_law:∀ ns:List Int,ns.length≤63→evF (gam 20) 0 3 b188 [.list (ns.map .int)]=some (.bool true):=by
 intro ns hz;generalize hd:(ns.take 4).map (fun n=>n % 100000000)=D
 have hdl:D.length≤4:=by rw [← hd];simp;lia
 have h4:∃ a b c e:Int,D ++ [16,40,110,33].drop D.length=[a,b,c,e]:=by
  have hl:(D ++ [16,40,110,33].drop D.length).length=4:=by
   rw [List.length_append,List.length_drop];exact Nat.add_sub_cancel' hdl
  exact list4 hl
 refine z6 fun K0=>?_
 obtain ⟨a,b,c,e,h4⟩:=h4;obtain ⟨p,q,x,hpair⟩:=g116 (k:=19) a;refine K0 ?_;clear K0;have hright:=g183 x (k:=15) (n1:=b) (n2:=c) (n3:=e);generalize gam 20=Γ at *;have hs:n8 (.list (ns.map PV.int)) .nul (.int 4)=some (.list ((ns.take 4).map .int)):=by
  rw [List.map_take,List.take_eq_take_min];rfl
 have main:m5 (.one 1) [.unset,.unset] (f0 Γ []) (z8 Γ (.bin .Mod (.var 1) (.bin .Pow (.lit (.int 10)) (.lit (.int 8)))) .val) ((ns.take 4).map .int)=some (D.map .int):=by
  rw [X1 (x:=1) PV.int (fun n => .int (n % 100000000)) (fun _=>true) (ns.take 4) (fun n _=>⟨rfl,fun _=>Y7 (m7 rfl) (y := .int 100000000) rfl (X9 (by decide))⟩),S1,← hd,List.map_map];rfl
 have hl:=len_l (List.length_map (as:=D) PV.int);have hs2:n8 (.list [.int 16,.int 40,.int 110,.int 33]) (.int D.length) .nul=some (.list (([16,40,110,33].drop D.length).map .int)):=(K8 (l:=[.int 16,.int 40,.int 110,.int 33]) (m:=D.length) rfl hdl).trans (by rw [List.map_drop];rfl);have ha:l4 .Add (.list (D.map .int)) (.list (([16,40,110,33].drop D.length).map .int))=some (.list [.int a,.int b,.int c,.int e]):=by
  rw [S5,← List.map_append,h4];rfl;rw [List.length_map,List.length_map,List.length_drop];show D.length + (4 - D.length)≤1048576
  lia
 have i0:v4 (.list [.int a,.int b,.int c,.int e]) (.int 0)=some (.int a):=rfl;have i1:n8 (.list [.int a,.int b,.int c,.int e]) (.int 1) .nul=some (.list ([b,c,e].map .int)):=rfl;clear hd h4;exact i8 (by
  apply m9
  ·exact d7 (U3 (by walk_at "ev") l3 rfl main)
  apply m9
  ·walk_at "ev"
  walk_at "ev")
end Mine
namespace Mine
open PySem PyProof.Rows PySem.Spec
noncomputable def glT:List (Str × Value):=List.cons ((Str.ofString "sorted_list_difference",Value.ref 38):Str × Value) (List.cons ((Str.ofString "_twin_re_1",Value.ref 43):Str × Value) (List.cons ((Str.ofString "translate",Value.ref 50):Str × Value) (List.cons ((Str.ofString "_special_chars_map",Value.ref 52):Str × Value) (List.cons ((Str.ofString "escape",Value.ref 62):Str × Value) (List.cons ((Str.ofString "_translate",Value.ref 69):Str × Value) (List.cons ((Str.ofString "_join_translated_parts",Value.ref 76):Str × Value) (List.cons ((Str.ofString "IPV4_RE",Value.ref 81):Str × Value) (List.cons ((Str.ofString "is_HDN",Value.ref 88):Str × Value) (List.cons ((Str.ofString "liberal_is_HDN",Value.ref 95):Str × Value) (List.cons ((Str.ofString "user_domain_match",Value.ref 102):Str × Value) (List.cons ((Str.ofString "reach",Value.ref 109):Str × Value) (List.cons ((Str.ofString "_law_pair",Value.ref 116):Str × Value) (List.cons ((Str.ofString "_law_item",Value.ref 123):Str × Value) (List.cons ((Str.ofString "_law_pattern",Value.ref 128):Str × Value) (List.cons ((Str.ofString "_law_plain",Value.ref 135):Str × Value) (List.cons ((Str.ofString "_law_read",Value.ref 142):Str × Value) (List.cons ((Str.ofString "_law_fits",Value.ref 149):Str × Value) (List.cons ((Str.ofString "_law_taken",Value.ref 156):Str × Value) (List.cons ((Str.ofString "_law_language",Value.ref 161):Str × Value) (List.cons ((Str.ofString "_law_beginnings",Value.ref 166):Str × Value) (List.cons ((Str.ofString "_law_endings",Value.ref 171):Str × Value) (List.cons ((Str.ofString "_law_rank",Value.ref 178):Str × Value) (List.cons ((Str.ofString "_law_right",Value.ref 183):Str × Value) (List.cons ((Str.ofString "law",Value.ref 188):Str × Value) (List.cons ((Str.ofString "len",Value.builtin "len"):Str × Value) (List.cons ((Str.ofString "sorted",Value.builtin "sorted"):Str × Value) (List.cons ((Str.ofString "sum",Value.builtin "sum"):Str × Value) (List.cons ((Str.ofString "isinstance",Value.builtin "isinstance"):Str × Value) (List.cons ((Str.ofString "list",Value.type "list"):Str × Value) (List.cons ((Str.ofString "type",Value.type "type"):Str × Value) (List.cons ((Str.ofString "bool",Value.type "bool"):Str × Value) (List.cons ((Str.ofString "object",Value.type "object"):Str × Value) (List.cons ((Str.ofString "zip",Value.type "zip"):Str × Value) (List.cons ((Str.ofString "enumerate",Value.type "enumerate"):Str × Value) (List.cons ((Str.ofString "range",Value.type "range"):Str × Value) (List.cons ((Str.ofString "str",Value.type "str"):Str × Value) (List.cons ((Str.ofString "IndexError",Value.type "IndexError"):Str × Value) List.nil)))))))))))))))))))))))))))))))))))))
section
variable {F:PySem.W.Frag} {g:Heap} {mg mb:Str→Option Value} {p:Program} {loose:List Str} {mean:ExcName→Option Value}
noncomputable def GlOk (F:PySem.W.Frag) (x:Str × Value):Prop:=PySem.W.nsIn F mainGlobals x.1=some (some x.2)∨(PySem.W.nsIn F mainGlobals x.1=some none∧bootBuiltins x.1=some x.2∧x.1 ≠ "__name__")
noncomputable def GlAll (F:PySem.W.Frag):Prop:=∀ x∈glT,GlOk F x
theorem M4 (G:GlAll F) (X:F.In g) (T:Top p loose mean mg mb g) (n:Str) (v:Value) (h:glT.lookup n=some v):Glob g n v:=by
 rcases G _ (mem_of_lookup h) with h1 | ⟨h1,h2,h3⟩
 ·exact ⟨mg,T.g,.inl (PySem.W.mg_of X T.g h1)⟩
 ·exact ⟨mg,T.g,.inr ⟨PySem.W.mg_none_of X T.g h1,mb,T.b,(T.builtins _ h3).trans h2⟩⟩
theorem code_rec (X:F.In g) {cd:Addr} {o:Obj} {vs:Array Value} {q:Str} {t:Tok} (h1:F.lookup cd=some o) (h2:o.data = .fields vs) (h3:vs[1]?=some (.str q t)):g.CodeRec (.ref cd) q :=
 ⟨cd,o,vs,t,rfl,X _ _ h1,h2,h3⟩
theorem one_of {α:Type} {vs:List α} (h:vs.length=1):∃ a,vs=[a]:=by
 match vs,h with | [a],_=>exact ⟨a,rfl⟩
theorem two_of {α:Type} {vs:List α} (h:vs.length=2):∃ a b,vs=[a,b]:=by
 match vs,h with | [a,b],_=>exact ⟨a,b,rfl⟩
theorem three_of {α:Type} {vs:List α} (h:vs.length=3):∃ a b c,vs=[a,b,c]:=by
 match vs,h with | [a,b,c],_=>exact ⟨a,b,c,rfl⟩
noncomputable def l6 (fd:FuncData):List Str:=fd.params.args.map fun x=>x.arg
noncomputable def t9 (F:PySem.W.Frag) (a:Addr):FuncData:=match F.lookup a with
 | some ⟨_,_,.func fd,_⟩=>fd
 | _=>default
noncomputable def bdAt (fd:FuncData):List Stmt:=match fd.body with
 | .stmts b=>b
 | _=>[]
noncomputable def cdAt (fd:FuncData):Addr:=match fd.code with
 | .ref a=>a
 | _=>0
structure Seen (F:PySem.W.Frag) (a cd:Addr) (fd:FuncData) (body:List Stmt) (q:Str):Prop where
 fn:∃ o,F.lookup a=some o∧o.data = .func fd
 ne:a≠x9
 body:fd.body = .stmts body
 clo:fd.closure=[]
 code:fd.code = .ref cd
 cne:cd≠x9
 cobj:∃ o vs t,F.lookup cd=some o∧o.data = .fields vs∧vs[1]?=some (.str q t)
 qual:fd.qualname=q
 glob:fd.globals=mainGlobals
 bu:fd.builtins=builtinsNs
 kind:fd.scope.kind = .function
 co:fd.scope.isCoroutine=false
 gen:fd.scope.isGenerator=false
 nd:(l6 fd).Nodup
 par:∀ p∈l6 fd,fd.scope.names.lookup p=some .local∨fd.scope.names.lookup p=some .cell
 free:∀ x∈fd.scope.names,x.2 ≠ .free
noncomputable def flagsB (fd:FuncData):Bool:=decide (fd.globals=mainGlobals) && decide (fd.builtins=builtinsNs) && (fd.scope.kind == .function) && !fd.scope.isCoroutine && !fd.scope.isGenerator && decide (l6 fd).Nodup && (l6 fd).all (S7 fd.scope) && fd.scope.names.all fun x=>x.2 != .free
theorem Seen.mk' {a cd:Addr} {fd:FuncData} {body:List Stmt} (h1:∃ o,F.lookup a=some o∧o.data = .func fd) (h2:Nat.beq a x9=false) (h3:fd.body = .stmts body) (h4:fd.closure=[]) (h5:fd.code = .ref cd) (h6:Nat.beq cd x9=false)
  (h7:∃ o vs t,F.lookup cd=some o∧o.data = .fields vs∧vs[1]?=some (.str fd.qualname t)) (h:flagsB fd=true):Seen F a cd fd body fd.qualname :=
 ⟨h1,Nat.ne_of_beq_eq_false h2,h3,h4,h5,Nat.ne_of_beq_eq_false h6,h7,rfl,of_decide_eq_true (y5 (y5 (y5 (y5 (y5 (y5 (y5 h))))))),of_decide_eq_true (v6 (y5 (y5 (y5 (y5 (y5 (y5 h))))))),j3 (v6 (y5 (y5 (y5 (y5 (y5 h)))))),
  Bool.not_eq_true' _▸v6 (y5 (y5 (y5 (y5 h)))),Bool.not_eq_true' _▸v6 (y5 (y5 (y5 h))),of_decide_eq_true (v6 (y5 (y5 h))),fun p hp=>own_or (List.all_eq_true.mp (v6 (y5 h)) p hp),fun x hx=>bne_iff_ne.mp (List.all_eq_true.mp (v6 h) x hx)⟩
noncomputable def U9 (fd:FuncData):Prop:=∀ vals:List Value,vals.length=(l6 fd).length→bindArgs fd ⟨vals,[]⟩=pure ((l6 fd).zip vals)
theorem Seen.at {a cd:Addr} {fd:FuncData} {body:List Stmt} {q:Str} (S:Seen F a cd fd body q) (X:F.In g) (hb:U9 fd):FnAt g a fd (l6 fd) body:=by
 refine z6 fun K0=>?_
 refine x12 S.fn fun o h1 h2=>?_
 refine x33 S.cobj fun o' vs t h3 h4 h5=>?_
 refine K0 ?_;clear K0;exact ⟨⟨o,X _ _ h1,h2⟩,S.ne,S.body,S.clo,⟨cd,S.code,S.cne,by rw [S.code,S.qual];exact code_rec X h3 h4 h5⟩,S.glob,S.bu,S.kind,S.co,S.gen,hb,S.nd,S.par,S.free⟩
noncomputable def X6 (fd:FuncData):CT:=fnCT glT fd.params (bdAt fd) fd.scope
structure EntF (F:PySem.W.Frag) (a:Addr) (m n:Nat) (b:List PS) (fd:FuncData):Prop where
 seen:Seen F a (cdAt fd) fd (bdAt fd) fd.qualname
 bind:U9 fd
 pars:(l6 fd).length=m
 len:(V9 fd.params fd.scope).length=n
 cmp:∃ c:CT,c.ns=V9 fd.params fd.scope∧c.kind=fd.scope.names∧c.gl=glT∧cSs c (bdAt fd)=b∧(c.inT=true→fd.code = .ref e9)
theorem EntF.entry {a:Addr} {m n:Nat} {b:List PS} {fd:FuncData} (E:EntF F a m n b fd) (G:GlAll F) (X:F.In g) (T:Top p loose mean mg mb g):Entry g a m n b:=by
 refine z6 fun K0=>?_
 refine x15 E.cmp fun c h1 h2 h3 h4 h5=>?_
 refine K0 ?_;clear K0;exact ⟨fd,l6 fd,bdAt fd,c,E.seen.at X E.bind,⟨_,h1⟩,h2,fun n v h=>M4 G X T n v (h3▸h),E.pars,by rw [h1];exact E.len,h4,h5⟩
noncomputable def fnB (F:PySem.W.Frag) (a:Addr):Bool:=match F.lookup a with
 | some ⟨_,_,.func _,_⟩=>true
 | _=>false
theorem fnB_ok {a:Addr} (h:fnB F a=true):∃ o,F.lookup a=some o∧o.data = .func (t9 F a):=by
 revert h;unfold fnB t9
 cases F.lookup a with
 | none=>exact fun h=>absurd h Bool.false_ne_true
 | some o =>
  obtain ⟨c,d,dt,sl⟩:=o
  cases dt <;> first | exact fun h=>absurd h Bool.false_ne_true | exact fun _=>⟨_,rfl,rfl⟩
noncomputable def bdB (fd:FuncData):Bool:=match fd.body with
 | .stmts _=>true
 | _=>false
theorem bdB_ok {fd:FuncData} (h:bdB fd=true):fd.body = .stmts (bdAt fd):=by
 revert h;unfold bdB bdAt
 cases fd.body <;> first | exact fun h=>absurd h Bool.false_ne_true | exact fun _=>rfl
noncomputable def cdB (fd:FuncData):Bool:=match fd.code with
 | .ref _=>true
 | _=>false
theorem cdB_ok {fd:FuncData} (h:cdB fd=true):fd.code = .ref (cdAt fd):=by
 revert h;unfold cdB cdAt
 cases fd.code <;> first | exact fun h=>absurd h Bool.false_ne_true | exact fun _=>rfl
noncomputable def nameB (q:Str):Option Value→Bool
 | some (.str x _)=>x == q
 | _=>false
theorem nameB_ok {q:Str} {v:Option Value} (h:nameB q v=true):∃ t,v=some (.str q t):=by
 induction v with
 | none=>exact absurd h Bool.false_ne_true
 | some v=>cases v <;> first | exact absurd h Bool.false_ne_true | exact ⟨_,by rw [j3 h]⟩
noncomputable def recB (F:PySem.W.Frag) (cd:Addr) (q:Str):Bool:=match F.lookup cd with
 | some ⟨_,_,.fields vs,_⟩=>nameB q vs[1]?
 | _=>false
theorem recB_ok {cd:Addr} {q:Str} (h:recB F cd q=true):∃ o vs t,F.lookup cd=some o∧o.data = .fields vs∧vs[1]?=some (.str q t):=by
 revert h;unfold recB
 cases F.lookup cd with
 | none=>exact fun h=>absurd h Bool.false_ne_true
 | some o =>
  obtain ⟨c,d,dt,sl⟩:=o
  cases dt <;> first | exact fun h=>absurd h Bool.false_ne_true | exact fun h=>(nameB_ok h).elim fun t e=>⟨_,_,t,rfl,rfl,e⟩
noncomputable def seenB (F:PySem.W.Frag) (a:Addr):Bool:=fnB F a && !Nat.beq a x9 && bdB (t9 F a) && (t9 F a).closure.isEmpty && cdB (t9 F a) && !Nat.beq (cdAt (t9 F a)) x9 && recB F (cdAt (t9 F a)) (t9 F a).qualname && flagsB (t9 F a)
theorem not_ok {b:Bool} (h:(!b)=true):b=false:=Bool.not_eq_true' _▸h
theorem seen_of {a:Addr} (h:seenB F a=true):Seen F a (cdAt (t9 F a)) (t9 F a) (bdAt (t9 F a)) (t9 F a).qualname :=
 .mk' (fnB_ok (y5 (y5 (y5 (y5 (y5 (y5 (y5 h)))))))) (not_ok (v6 (y5 (y5 (y5 (y5 (y5 (y5 h)))))))) (bdB_ok (v6 (y5 (y5 (y5 (y5 (y5 h))))))) (List.isEmpty_iff.mp (v6 (y5 (y5 (y5 (y5 h)))))) (cdB_ok (v6 (y5 (y5 (y5 h))))) (not_ok (v6 (y5 (y5 h))))
  (recB_ok (v6 (y5 h))) (v6 h)
theorem bind1 {fd:FuncData} (h:∀ a,bindArgs fd ⟨[a],[]⟩=pure ((l6 fd).zip [a])) (e:(l6 fd).length=1):U9 fd:=fun vals hv=>by
 refine Exists.elim (one_of (hv.trans e) :) fun a o0=>?_;obtain rfl:=o0;exact h a
theorem bind2 {fd:FuncData} (h:∀ a b,bindArgs fd ⟨[a,b],[]⟩=pure ((l6 fd).zip [a,b])) (e:(l6 fd).length=2):U9 fd:=fun vals hv=>by
 refine x21 (two_of (hv.trans e) :) fun a b o0=>?_;obtain rfl:=o0;exact h a b
theorem bind3 {fd:FuncData} (h:∀ a b c,bindArgs fd ⟨[a,b,c],[]⟩=pure ((l6 fd).zip [a,b,c])) (e:(l6 fd).length=3):U9 fd:=fun vals hv=>by
 refine x31 (three_of (hv.trans e) :) fun a b c o0=>?_;obtain rfl:=o0;exact h a b c
theorem ent_mk {a:Addr} {m n:Nat} {b:List PS} (h:seenB F a=true) (hb:U9 (t9 F a)) (h1:(l6 (t9 F a)).length=m) (h2:(V9 (t9 F a).params (t9 F a).scope).length=n) (h3:cSs (X6 (t9 F a)) (bdAt (t9 F a))=b):EntF F a m n b (t9 F a) :=
 ⟨seen_of h,hb,h1,h2,X6 (t9 F a),rfl,rfl,rfl,h3,fun q=>nomatch q⟩
theorem ent1 {a:Addr} {n:Nat} {b:List PS} (h:seenB F a=true) (hb:∀ x,bindArgs (t9 F a) ⟨[x],[]⟩=pure ((l6 (t9 F a)).zip [x])) (h1:(l6 (t9 F a)).length=1) (h2:(V9 (t9 F a).params (t9 F a).scope).length=n) (h3:cSs (X6 (t9 F a)) (bdAt (t9 F a))=b):∃ fd,EntF F a 1 n b fd :=
 ⟨_,ent_mk h (bind1 hb h1) h1 h2 h3⟩
theorem ent2 {a:Addr} {n:Nat} {b:List PS} (h:seenB F a=true) (hb:∀ x y,bindArgs (t9 F a) ⟨[x,y],[]⟩=pure ((l6 (t9 F a)).zip [x,y])) (h1:(l6 (t9 F a)).length=2) (h2:(V9 (t9 F a).params (t9 F a).scope).length=n) (h3:cSs (X6 (t9 F a)) (bdAt (t9 F a))=b):∃ fd,EntF F a 2 n b fd :=
 ⟨_,ent_mk h (bind2 hb h1) h1 h2 h3⟩
theorem ent3 {a:Addr} {n:Nat} {b:List PS} (h:seenB F a=true) (hb:∀ x y z,bindArgs (t9 F a) ⟨[x,y,z],[]⟩=pure ((l6 (t9 F a)).zip [x,y,z])) (h1:(l6 (t9 F a)).length=3) (h2:(V9 (t9 F a).params (t9 F a).scope).length=n) (h3:cSs (X6 (t9 F a)) (bdAt (t9 F a))=b):∃ fd,EntF F a 3 n b fd :=
 ⟨_,ent_mk h (bind3 hb h1) h1 h2 h3⟩
theorem ent3T {a:Addr} {n:Nat} {b:List PS} (h:seenB F a=true) (hb:∀ x y z,bindArgs (t9 F a) ⟨[x,y,z],[]⟩=pure ((l6 (t9 F a)).zip [x,y,z])) (h1:(l6 (t9 F a)).length=3) (h2:(V9 (t9 F a).params (t9 F a).scope).length=n) (h3:cSs { X6 (t9 F a) with inT:=true } (bdAt (t9 F a))=b)
  (h4:cdAt (t9 F a)=e9):∃ fd,EntF F a 3 n b fd :=
 ⟨t9 F a,seen_of h,bind3 hb h1,h1,h2,{ X6 (t9 F a) with inT:=true },rfl,rfl,rfl,h3,fun _=>(seen_of h).code.trans (by rw [h4])⟩
noncomputable def TblF (F:PySem.W.Frag):Prop:=∀ x∈tblL,∃ fd,EntF F x.1 x.2.1 x.2.2.1 x.2.2.2 fd
theorem all_nil {α:Type} {Q:α→Prop} : ∀ x∈([]:List α),Q x:=fun _ h=>absurd h List.not_mem_nil
theorem all_cons {α:Type} {Q:α→Prop} {x:α} {l:List α} (h:Q x) (t:∀ y∈l,Q y):∀ y∈x::l,Q y:=List.forall_mem_cons.mpr ⟨h,t⟩
theorem look_mem {α:Type} {a:Nat} {b:α} : ∀ {l:List (Nat × α)},l.lookup a=some b→(a,b)∈l
 | [],h=>nomatch h
 | (k,v)::r,h=>by
  rw [List.lookup_cons] at h;by_cases q:(a == k)=true
  ·rw [q] at h;rw [j3 q,← Option.some.inj h];exact List.mem_cons_self ..
  ·rw [Bool.eq_false_iff.mpr q] at h;exact List.mem_cons_of_mem _ (look_mem h)
theorem ent_tbl (E:TblF F) (G:GlAll F) (X:F.In g) (T:Top p loose mean mg mb g) (a:Addr) (m n:Nat) (b:List PS) (h:Mine.tbl a=some (m,n,b)):Entry g a m n b :=
 (E (a,m,n,b) (look_mem h)).elim fun _ e=>e.entry G X T
noncomputable def TrF (F:PySem.W.Frag):Prop:=∃ cd fd n f px fp cp p' rest,Seen F 50 cd fd (.Assign [.Name n px] (.Call (.Name f fp) [] [] cp) p'::rest) fd.qualname∧U9 fd∧(l6 fd).length=1∧(V9 fd.params fd.scope).length=3 ∧
 (X6 fd).slot n=some 1∧v7 f=true∧(X6 fd).glob f=some (.type "object")∧cSs (X6 fd) rest=[.assign 2 (.call (.ref 69) [(.var 0),(.var 1),(.lit (.str [46]))]),.ret (.call (.ref 76) [(.var 2),(.var 1)])]
theorem ent_tr (E:TrF F) (G:GlAll F) (X:F.In g) (T:Top p loose mean mg mb g):TrEntry g:=by
 refine z6 fun K0=>?_
 obtain ⟨cd,fd,n,f,px,fp,cp,p',rest,S,hb,hm,hn,h5,h6,h7,h8⟩:=E;refine K0 ?_;clear K0;exact ⟨fd,l6 fd,rest,X6 fd,n,f,px,fp,cp,p',S.at X hb,⟨_,rfl⟩,rfl,fun n v h=>M4 G X T n v h,hm,hn,rfl,h5,h6,h7,h8⟩
noncomputable def SlF (F:PySem.W.Frag):Prop:=∃ cd fd body,Seen F 38 cd fd body fd.qualname∧U9 fd∧(l6 fd).length=2∧(V9 fd.params fd.scope).length=8 ∧
 SN (fnCT glT fd.params body fd.scope) "expected" "actual" "i" "j" "missing" "unexpected" "e" "a" "IndexError" ∧
 SlB "expected" "actual" "i" "j" "missing" "unexpected" "e" "a" "IndexError" body
theorem loop_of {nx ny ni nj nm nu ne na nI:Str} {a1 a2 p1 i1 w1 p2 j1 w2 i2 w3 j2 w4 x1 x2:Stmt} {q1 q2 q3 q4 q5 q6 q7 q8 pt kd pc pI pb ph ptt pw}
  (h1:IsAsg ne nx ni a1) (h2:IsAsg na ny nj a2) (h3:T7 nm ne p1) (h4:Y5 ni i1) (h5:Z0 nx ni ne w1) (h6:T7 nu na p2) (h7:Y5 nj j1) (h8:Z0 ny nj na w2) (h9:Y5 ni i2) (h10:Z0 nx ni ne w3) (h11:Y5 nj j2) (h12:Z0 ny nj na w4) (h13:IsExt nm nx ni x1) (h14:IsExt nu ny nj x2) :
  IsLoop nx ny ni nj nm nu ne na nI (.While (.Constant (.bool true) kd pc) [.Try [a1,a2,.If (.Compare (.Name ne q1) [.Lt] [.Name na q2] q3) [p1,i1,w1] [.If (.Compare (.Name ne q4) [.Gt] [.Name na q5] q6) [p2,j1,w2] [i2,.Try [w3] [] [] [j2,w4] pt] q7] q8]
   [.ExceptHandler (some (.Name nI pI)) none [x1,x2,.Break pb] ph] [] [] ptt] [] pw):=⟨_,_,_,_,_,_,_,_,_,_,_,_,_,_,_,_,_,_,_,_,_,_,_,_,_,_,_,_,_,_,rfl,h1,h2,h3,h4,h5,h6,h7,h8,h9,h10,h11,h12,h13,h14⟩
theorem ent_sl (E:SlF F) (G:GlAll F) (X:F.In g) (T:Top p loose mean mg mb g):SlEntry g:=by
 refine x36 E fun cd fd body S hb hm hn h1 h2=>?_
 exact ⟨fd,l6 fd,body,fnCT glT fd.params body fd.scope,_,_,_,_,_,_,_,_,_,S.at X hb,⟨_,rfl⟩,rfl,M4 G X T,hm,hn,rfl,h1,h2⟩
end
end Mine
namespace Mine
open PySem PyProof.Rows PySem.Spec
section
variable {F:PySem.W.Frag} {g:Heap} {mg mb:Str→Option Value} {p:Program} {loose:List Str} {mean:ExcName→Option Value} {prog:Program} {w:World}
noncomputable def spOk (f:Int→Option Value) (c:Nat):Bool:=if specials.contains c then (match f (c:Int) with | some (.str t _)=>t == ⟨#[92,c]⟩ | _=>false) else (f (c:Int)).isNone
noncomputable def keyOk (e:DictEntry):Bool:=match e.key with | .int k _=>e.hash == hashInt k | _=>false
theorem keyOk_ok {e:DictEntry} (h:keyOk e=true):∃ k t,e.key = .int k t∧(e.hash == hashInt k)=true:=by
 revert h;unfold keyOk
 cases e.key with
 | int k t=>exact fun h=>⟨k,t,rfl,h⟩
 | _=>exact fun h=>absurd h Bool.false_ne_true
theorem map_to {o:Obj} {es:Array DictEntry} {ep:Nat} (X:F.In g) (h1:F.lookup 52=some o) (h2:o.ExactDict) (h3:o.data = .dict es ep) (h4:es.toList.all keyOk=true) (h5:(List.range 128).all (spOk fun k=>findBy Value.isInt es k)=true):MapOk prog w g:=by
 refine ⟨fun k=>findBy Value.isInt es k,⟨o,es,ep,X _ _ h1,h2,h3,fun e he=>?_,fun k=>rfl⟩,fun c hc=>?_⟩
 ·have:=List.all_eq_true.mp h4 e (by simpa using he);refine x21 (keyOk_ok this) fun k t o=>?_
  exact ⟨k,by rw [o.1];simp [intKind,Value.isInt],by simpa [intKind] using o.2⟩
 ·have:=List.all_eq_true.mp h5 c (List.mem_range.mpr hc);unfold spOk at this
  split at this
  ·rename_i hs;rw [if_pos hs]
   split at this
   ·rename_i t tk e;exact ⟨tk,e.trans (by rw [beq_iff_eq.mp this])⟩
   ·cases this
  ·rename_i hs;rw [if_neg hs];exact Option.isNone_iff_eq_none.mp this
structure Facts (F:PySem.W.Frag):Prop where
 gl:GlAll F
 tbl:TblF F
 tr:TrF F
 sl:SlF F
 bi:PySem.W.nsIn F mainGlobals "__builtins__" = some (some (.ref 4))
 law:PySem.W.nsIn F mainGlobals "law" = some (some (.ref 188))
 hd:PySem.W.codeHdIn F 68 64=true
 nt:PySem.W.noTabs F=true
 map:∃ o es ep,F.lookup 52=some o∧o.ExactDict∧o.data = .dict es ep∧es.toList.all keyOk=true∧(List.range 128).all (spOk fun k=>findBy Value.isInt es k)=true
 law1:∃ fd q,EntF F 188 1 3 b188 fd∧l6 fd=[q]∧fd.scope.names.lookup q=some .local∧(fd.scope.names.all fun x=>x.2 != .cell)=true
 re:∀ {g:Heap},F.In g→ReOk g
 pat:∀ {g:Heap},F.In g→PatOk g
theorem base_of (K:Facts F) (X:F.In g) (T:Top p loose mean mg mb g):U1 g:=by
 refine ⟨T.nolimit,?_,K.re X⟩;refine z6 fun K0=>?_
 refine x26 T.bmain fun bm ob a b c d e f=>?_
 refine K0 ?_;clear K0;refine ⟨mg,bm,ob,⟨T.g,a,b,c,d,e,f⟩,?_⟩;rw [PySem.W.mg_of X T.g K.bi] at a
 cases a
 decide
theorem pats_of (K:Facts F) (X:F.In g):Pats prog w g :=
 ⟨let ⟨_,_,_,h1,h2,h3,h4,h5⟩:=K.map;map_to X h1 h2 h3 h4 h5,K.pat X⟩
theorem ground_of (K:Facts F) (X:F.In g) (T:Top p loose mean mg mb g):Ground' prog w g :=
 have B:=base_of K X T
 ⟨B,pats_of K X,ent_tbl K.tbl K.gl X T,fun A fm own r Γ room hcx vs v h=>sl_ok (ent_sl K.sl K.gl X T) B room hcx vs v h,fun A fm own r Γ room hcx vs v h=>tr_ok (ent_tr K.tr K.gl X T) B room hcx vs v h⟩
end
end Mine
namespace Mine
open PySem PySem.W PyProof.Rows PySem.Spec
noncomputable def PureLaw:Prop:=∀ ns:List Int,ns.length≤63→evF (gam 20) 0 3 b188 [.list (ns.map .int)]=some (.bool true)
theorem ints_vr {h:Heap} {O:Addr→Prop} : ∀ {vs:List Value} {ns:List Int},IntsAre vs ns→VRs h O (ns.map .int) vs
 | _,_,.nil=>rfl
 | _,_,.cons n t x=>⟨_,_,rfl,⟨t,rfl⟩,ints_vr x⟩
theorem well_list {P:Params} {h:Heap} {a:Addr} {xs:List WData} (x:Well P h (.ref a) (.list xs)):∃ vs:List Value,h.get? a=some { cls := .type "list",data := .seq vs.toArray } := by
 cases x with
 | list e _=>exact ⟨_,e⟩
theorem good_end {cw:ClaimW} {cl:Str→Option Addr} {mean:ExcName→Option Value} {args:List WData} {s₁ s':Shared} (hgens:AllBare s'.gens) (hos:s'.os=s₁.os) (hard:∀ b o,b≠x9→s₁.heap.get? b=some o→s'.heap.get? b=some o)
  (hc:CodeHd s₁.heap e9 x9) (h0:s₁.heap.get? x9=some (tabObj #[])) (ht:TabOk s'.heap) (hr:∀ a x,cw.raises a x=false) (hp:cw.post args (.bool true) args=true) :
  GoodWG cw cl mean args s₁ (.ok (.ret (.bool true))) s':=by
 refine z6 fun K0=>?_
 refine x12 ht fun ps ht _=>?_
 refine K0 ?_;clear K0;refine ⟨.inl ⟨.bool true,.bool true,[],rfl,fun _=>hr _ _,.bool true,hp,fun _=>⟨List.nodup_nil,fun _ q=>nomatch q⟩⟩,⟨fun b o e=>?_,fun b o e=>?_⟩,hos,hgens⟩
 ·by_cases hb:b=x9
  ·subst hb;rw [h0] at e;obtain rfl:=Option.some.inj e;exact .inr (.inl ⟨(hc.tab h0).isCodeTable,rfl,#[],ps,rfl,by rw [Array.empty_append];exact ht.2⟩)
  ·exact .inl (hard b o hb e)
 ·by_cases hb:b=x9
  ·subst hb;exact ⟨_,ht.2⟩
  ·exact ⟨o,hard b o hb e⟩
theorem tab_ok {h:Heap} (hc:CodeHd h e9 x9) (h0:h.get? x9=some (tabObj #[])):TabOk h :=
 ⟨#[],hc.tab h0,hc.code h0 trivial,fun pos c q=>(nomatch q)⟩
section
variable {g:Heap} {mg mb:Str→Option Value} {p:Program} {loose:List Str} {mean:ExcName→Option Value} {prog:Program} {w:World}
theorem top_call {F:PySem.W.Frag} (K:Facts F) (X:F.In g) (T:Top p loose mean mg mb g) (G:Ground' prog w g) (hlaw:PureLaw) {s₁:Shared} {a:Addr} {ns:List Int} (xc:XC ⟨g,[],mainGlobals⟩ (fun _=>False) s₁) (hl:VR s₁.heap (fun _=>False) (.list (ns.map .int)) (.ref a)) (hz:ns.length≤63)
  {Q E} (hQ:∀ s',Kp ⟨g,[],mainGlobals⟩ s₁ s'→Q (.bool true) s'):wpAny (model prog w) callerA (call (.ref 188) [.ref a]) Q E s₁:=by
 refine z6 fun K0=>?_
 refine x24 K.law1 fun fd q E1 hp hq hcell=>?_
 refine x15 E1.cmp fun c h1 hk h3 hc hT=>?_
 refine K0 ?_;clear K0;have hn:c.ns.length=3:=by rw [h1];exact E1.len
 have room:Room callerA 21:=⟨rfl,by decide +kernel,by decide +kernel⟩;have fr:Frs callerA ⟨g,[],mainGlobals⟩:=⟨[],rfl,fun _ q=>nomatch q⟩
 have hcx:R2 prog w callerA ⟨g,[],mainGlobals⟩ (gam 20):=fun L env he hn hk=>(room.deeper env).cx (fr.deep he hn hk) G.pats (gam_ok G _ _ _ _ (room.deeper env) (fr.deep he hn hk))
 refine fn_call (hb:=⟨g,[],mainGlobals⟩) (E1.seen.at X E1.bind) G.base hT (by decide +kernel) (by decide +kernel) hcx ⟨_,h1⟩ hk (fun n v h=>M4 K.gl X T n v (h3▸h)) (args:=[.list (ns.map .int)]) E1.pars.symm (v := .bool true) ?_ xc (.inr ⟨⟨q,hp,hq⟩,fun x hx=>bne_iff_ne.mp (List.all_eq_true.mp hcell x hx)⟩) ⟨_,_,rfl,hl,rfl⟩ fun rv s' k r=>?_
 ·rw [hn,hc];exact hlaw ns hz
 ·cases r
  exact hQ s' k
theorem walk_all (hlaw:PureLaw) {K:Params→Frag} {as:List Addr} {e:∀ P,as=(K P).map (·.1)} {q:Program} {loose:List Str} {d:DefRec} {kwd:List (Str × PySem.Expr)} (z6:d.name = "law") (FK:∀ P,Facts (K P)) :
  WalkO q loose (XL q []) (kmHook K as e [64]).says PySem.Challenge.rw_in0220_01.row.toRowW d kwd (fun f vs=>PySem.call f vs):=by
 intro w s₀ s₁ mg mb G Y fa o pm cd doc dV kV ho hd hcd hD hmg hg args vals as hpre hlay hrd hwl hlo;have KX:=km_in_of Y;have KT:=km_tabs_of Y;refine Ground.open G ?_;intro T B D TE TW;have hT9:TabsAt ([(68,64)]:List (Addr × Addr)) s₁.heap:=List.forall_mem_cons.mpr ⟨⟨codeHd_of_K (c:=68) (P:=64) KX (FK _).hd,KT 64 (List.mem_singleton.mpr rfl)⟩,fun _ h=>nomatch h⟩
 have hfa:fa=188:=by
  have h1:mg "law" = some (.ref 188):=mg_of KX T.g (FK _).law;have h2:mg "law" = some (.ref fa):=z6▸hmg;rw [h1] at h2
  cases h2;rfl
 subst hfa;clear ho hd hcd hD hmg;have X':=ghost_K hT9 KX (FK _).nt;have T':=ghost_top hT9 T
 wrow_args hpre hlay hrd hwl hlo
 rename_i ns hs hlay0 hL1 hr1 hl2 d4 d3 la vs d hL ra w1 r0 hI hr' hc1 hc2;have hz:ns.length≤63:=by lia
 have hg3:NFat s₁.heap mainGlobals := .ns (m:=mg) (by decide) T.g;have hcd:CodeHd s₁.heap e9 x9:=(hT9 _ (List.mem_singleton.mpr rfl)).1;have h0:s₁.heap.get? x9=some (tabObj #[]):=(hT9 _ (List.mem_singleton.mpr rfl)).2;have hard:Hard (ghostOf s₁.heap [(68,64)]) s₁.heap:=fun b o _ e=>of_hideAll _ e
 have gs:GS ⟨ghostOf s₁.heap [(68,64)],[],mainGlobals⟩ s₁:=⟨hard,tab_ok hcd h0,.of_eq hg,fun a ha=>nomatch ha⟩
 have xc:XC ⟨ghostOf s₁.heap [(68,64)],[],mainGlobals⟩ (fun _=>False) s₁:=⟨gs,fun a ha=>ha.elim,hg3⟩
 have hvr:VR s₁.heap (fun _=>False) (.list (ns.map .int)) (.ref la):=by
  refine Exists.elim (well_list w1 :) fun vs' hw=>?_
  refine x13 hL fun o e hcl o0=>?_;refine Exists.elim o0 fun n hdt=>?_
  rw [hw] at e;obtain rfl:=Option.some.inj e;have ev:vs'=vs:=by
   injection hdt with e1;exact congrArg Array.toList e1
  subst ev;refine ⟨by rw [List.length_map];unfold small;lia,la,vs',rfl,fun q=>?_,id,⟨_,hw⟩,ints_vr hI⟩
  rw [q] at hw;rw [h0] at hw;cases hw
 refine top_call (FK _) X' T' (ground_of (FK _) X' T') hlaw xc hvr hz fun s' k=>?_
 have gs':=k.gs gs;refine good_end gs'.gens k.os (fun b o hb e=>gs'.hard b o hb (ghost_ne e ?_)) hcd h0 gs'.tab (fun _ _=>rfl) ?_
 ·intro q;exact hb (List.mem_singleton.mp q)
 ·wrow_post
end
end Mine
namespace Mine
open PySem PySem.W PyProof.Rows
set_option maxHeartbeats 8000000 in
theorem main:PySem.Challenge.rw_in0220_01.Holds:=by
 refine holds_law (by kernel_rfl) fun said=>?_
 refine holds_open (r:=lawR) (q:=viewP) (loose:=looseL) (Xt:=seenX) (XP:=XL viewP []) (Yf:=hkK.obs) (Ya:=hkK.val) (YP:=hkK.says) (N:=4412) leftK hkK.of hkK.keeps (fun s e=>xl_of s (Bool.and_eq_true_iff.mp e).1) XL.keeps (by rfl) (by rfl) (by rfl)
  (fun s e=>recFacts_of (Bool.and_eq_true_iff.mp e).2) (by rfl) said (by decide +kernel) ⟨rfl,rfl,rfl,rfl,rfl,by decide +kernel⟩ ?hw ?hc
 case hw=>w_witness2
 refine walk_all pure_law rfl fun P=>?_
 constructor
 ·unfold GlAll glT;exact all_cons (.inl (by kernel_rfl)) <| all_cons (.inl (by kernel_rfl)) <| all_cons (.inl (by kernel_rfl)) <| all_cons (.inl (by kernel_rfl)) <| all_cons (.inl (by kernel_rfl)) <| all_cons (.inl (by kernel_rfl)) <| all_cons (.inl (by kernel_rfl)) <| all_cons (.inl (by kernel_rfl)) <| all_cons (.inl (by kernel_rfl)) <| all_cons (.inl (by kernel_rfl)) <| all_cons (.inl (by kernel_rfl)) <| all_cons (.inl (by kernel_rfl)) <| all_cons (.inl (by kernel_rfl)) <| all_cons (.inl (by kernel_rfl)) <| all_cons (.inl (by kernel_rfl)) <| all_cons (.inl (by kernel_rfl)) <| all_cons (.inl (by kernel_rfl)) <| all_cons (.inl (by kernel_rfl)) <| all_cons (.inl (by kernel_rfl)) <| all_cons (.inl (by kernel_rfl)) <| all_cons (.inl (by kernel_rfl)) <| all_cons (.inl (by kernel_rfl)) <| all_cons (.inl (by kernel_rfl)) <| all_cons (.inl (by kernel_rfl)) <| all_cons (.inl (by kernel_rfl)) <| all_cons (.inr ⟨by kernel_rfl,rfl,by decide +kernel⟩) <| all_cons (.inr ⟨by kernel_rfl,rfl,by decide +kernel⟩) <| all_cons (.inr ⟨by kernel_rfl,rfl,by decide +kernel⟩) <| all_cons (.inr ⟨by kernel_rfl,rfl,by decide +kernel⟩) <| all_cons (.inr ⟨by kernel_rfl,rfl,by decide +kernel⟩) <| all_cons (.inr ⟨by kernel_rfl,rfl,by decide +kernel⟩) <| all_cons (.inr ⟨by kernel_rfl,rfl,by decide +kernel⟩) <| all_cons (.inr ⟨by kernel_rfl,rfl,by decide +kernel⟩) <| all_cons (.inr ⟨by kernel_rfl,rfl,by decide +kernel⟩) <| all_cons (.inr ⟨by kernel_rfl,rfl,by decide +kernel⟩) <| all_cons (.inr ⟨by kernel_rfl,rfl,by decide +kernel⟩) <| all_cons (.inr ⟨by kernel_rfl,rfl,by decide +kernel⟩) <| all_cons (.inr ⟨by kernel_rfl,rfl,by decide +kernel⟩) all_nil
 ·unfold TblF tblL;exact all_cons (ent1 (by kernel_rfl) (fun _=>by kernel_rfl) (by kernel_rfl) (by kernel_rfl) (by kernel_rfl))
   <| all_cons (ent3T (by kernel_rfl) (fun _ _ _=>by kernel_rfl) (by kernel_rfl) (by kernel_rfl) (by kernel_rfl) (by kernel_rfl))
   <| all_cons (ent2 (by kernel_rfl) (fun _ _=>by kernel_rfl) (by kernel_rfl) (by kernel_rfl) (by kernel_rfl))
   <| all_cons (ent1 (by kernel_rfl) (fun _=>by kernel_rfl) (by kernel_rfl) (by kernel_rfl) (by kernel_rfl))
   <| all_cons (ent1 (by kernel_rfl) (fun _=>by kernel_rfl) (by kernel_rfl) (by kernel_rfl) (by kernel_rfl))
   <| all_cons (ent2 (by kernel_rfl) (fun _ _=>by kernel_rfl) (by kernel_rfl) (by kernel_rfl) (by kernel_rfl))
   <| all_cons (ent1 (by kernel_rfl) (fun _=>by kernel_rfl) (by kernel_rfl) (by kernel_rfl) (by kernel_rfl))
   <| all_cons (ent1 (by kernel_rfl) (fun _=>by kernel_rfl) (by kernel_rfl) (by kernel_rfl) (by kernel_rfl))
   <| all_cons (ent2 (by kernel_rfl) (fun _ _=>by kernel_rfl) (by kernel_rfl) (by kernel_rfl) (by kernel_rfl))
   <| all_cons (ent2 (by kernel_rfl) (fun _ _=>by kernel_rfl) (by kernel_rfl) (by kernel_rfl) (by kernel_rfl))
   <| all_cons (ent3 (by kernel_rfl) (fun _ _ _=>by kernel_rfl) (by kernel_rfl) (by kernel_rfl) (by kernel_rfl))
   <| all_cons (ent1 (by kernel_rfl) (fun _=>by kernel_rfl) (by kernel_rfl) (by kernel_rfl) (by kernel_rfl))
   <| all_cons (ent2 (by kernel_rfl) (fun _ _=>by kernel_rfl) (by kernel_rfl) (by kernel_rfl) (by kernel_rfl))
   <| all_cons (ent2 (by kernel_rfl) (fun _ _=>by kernel_rfl) (by kernel_rfl) (by kernel_rfl) (by kernel_rfl))
   <| all_cons (ent3 (by kernel_rfl) (fun _ _ _=>by kernel_rfl) (by kernel_rfl) (by kernel_rfl) (by kernel_rfl))
   <| all_cons (ent3 (by kernel_rfl) (fun _ _ _=>by kernel_rfl) (by kernel_rfl) (by kernel_rfl) (by kernel_rfl))
   <| all_cons (ent2 (by kernel_rfl) (fun _ _=>by kernel_rfl) (by kernel_rfl) (by kernel_rfl) (by kernel_rfl))
   <| all_cons (ent1 (by kernel_rfl) (fun _=>by kernel_rfl) (by kernel_rfl) (by kernel_rfl) (by kernel_rfl))
   <| all_cons (ent2 (by kernel_rfl) (fun _ _=>by kernel_rfl) (by kernel_rfl) (by kernel_rfl) (by kernel_rfl))
   <| all_cons (ent1 (by kernel_rfl) (fun _=>by kernel_rfl) (by kernel_rfl) (by kernel_rfl) (by kernel_rfl)) all_nil
 ·exact ⟨_,_,_,_,_,_,_,_,_,Seen.mk' ⟨_,rfl,rfl⟩ rfl rfl rfl rfl rfl ⟨_,_,_,rfl,rfl,rfl⟩ (by kernel_rfl),bind1 (fun _=>by kernel_rfl) rfl,rfl,rfl,by kernel_rfl,by kernel_rfl,by kernel_rfl,by kernel_rfl⟩
 ·refine ⟨_,_,_,Seen.mk' ⟨_,rfl,rfl⟩ rfl rfl rfl rfl rfl ⟨_,_,_,rfl,rfl,rfl⟩ (by kernel_rfl),bind2 (fun _ _=>by kernel_rfl) rfl,rfl,rfl,?_,⟨_,_,_,_,_,_,_,_,_,_,_,_,_,_,_,_,_,loop_of ?_ ?_ ?_ ?_ ?_ ?_ ?_ ?_ ?_ ?_ ?_ ?_ ?_ ?_,rfl⟩⟩
  ·constructor <;> kernel_rfl
  ·exact ⟨_,_,_,_,_,rfl⟩
  ·exact ⟨_,_,_,_,_,rfl⟩
  ·exact ⟨_,_,_,_,_,rfl,by decide +kernel⟩
  ·exact ⟨_,_,_,_,rfl⟩
  ·exact ⟨_,_,_,_,_,_,_,rfl⟩
  ·exact ⟨_,_,_,_,_,rfl,by decide +kernel⟩
  ·exact ⟨_,_,_,_,rfl⟩
  ·exact ⟨_,_,_,_,_,_,_,rfl⟩
  ·exact ⟨_,_,_,_,rfl⟩
  ·exact ⟨_,_,_,_,_,_,_,rfl⟩
  ·exact ⟨_,_,_,_,rfl⟩
  ·exact ⟨_,_,_,_,_,_,_,rfl⟩
  ·exact ⟨_,_,_,_,_,_,_,_,rfl,by decide +kernel⟩
  ·exact ⟨_,_,_,_,_,_,_,_,rfl,by decide +kernel⟩
 ·kernel_rfl
 ·kernel_rfl
 ·kernel_rfl
 ·kernel_rfl
 ·exact ⟨_,_,_,rfl,⟨rfl,rfl,rfl⟩,rfl,by decide +kernel,by decide +kernel⟩
 ·exact ⟨t9 _ 188,"script",ent_mk (by kernel_rfl) (bind1 (fun _=>by kernel_rfl) (by kernel_rfl)) (by kernel_rfl) (by kernel_rfl) (by kernel_rfl),by kernel_rfl,by kernel_rfl,by kernel_rfl⟩
 ·intro g X;exact ⟨_,_,_,_,X 43 _ rfl,rfl,rfl,rfl,rfl,by decide,⟨_,X 42 _ rfl,rfl,_,rfl⟩,by decide +kernel,rfl,rfl⟩
 ·intro g X;exact ⟨_,_,_,_,X 81 _ rfl,rfl,rfl,rfl,rfl,by decide,⟨_,X 80 _ rfl,rfl,_,rfl⟩,by decide +kernel,rfl,rfl⟩
end Mine
theorem PySem.Challenge.cw_in0220_01_holds : PySem.Challenge.rw_in0220_01.Holds := by
 exact Mine.main
