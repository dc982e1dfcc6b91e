import PyProof.Rows.All
import Wide.All
import OpenK.AllK
import Wide.FinOn
import Lean
import PySem.Challenge.RW_oc0347_01
set_option Elab.async false
section
set_option backward.match.sparseCases false
set_option genSizeOf false
set_option genInjectivity false
set_option linter.all false
set_option tactic.hygienic false
section
set_option maxRecDepth 10000
namespace Mine
open PySem PySem.W PyProof.Rows PySem.Calls PySem.Spec
theorem AG {α0:Type} {p0 p1:α0→Prop} {G:Prop} (h:∃ x0,p0 x0∧p1 x0) (k:∀ x0,p0 x0→p1 x0→G):G:=h.elim fun x0 h=>k x0 h.1 h.2
theorem IC {α0 α1 α2 α3:Type} {p0 p1 p2 p3:α0→α1→α2→α3→Prop} {G:Prop} (h:∃ x0,∃ x1,∃ x2,∃ x3,p0 x0 x1 x2 x3∧p1 x0 x1 x2 x3∧p2 x0 x1 x2 x3∧p3 x0 x1 x2 x3) (k:∀ x0 x1 x2 x3,p0 x0 x1 x2 x3→p1 x0 x1 x2 x3→p2 x0 x1 x2 x3→p3 x0 x1 x2 x3→G):G:=h.elim fun x0 h=>h.elim fun x1 h=>h.elim fun x2 h=>h.elim fun x3 h=>k x0 x1 x2 x3 h.1 h.2.1 h.2.2.1 h.2.2.2
theorem G1 {α0 α1 α2 α3 α4:Type} {p0 p1:α0→α1→α2→α3→α4→Prop} {G:Prop} (h:∃ x0,∃ x1,∃ x2,∃ x3,∃ x4,p0 x0 x1 x2 x3 x4∧p1 x0 x1 x2 x3 x4) (k:∀ x0 x1 x2 x3 x4,p0 x0 x1 x2 x3 x4→p1 x0 x1 x2 x3 x4→G):G:=h.elim fun x0 h=>h.elim fun x1 h=>h.elim fun x2 h=>h.elim fun x3 h=>h.elim fun x4 h=>k x0 x1 x2 x3 x4 h.1 h.2
theorem ex57 {α0 α1 α2 α3 α4:Type} {p0 p1 p2 p3 p4 p5 p6:α0→α1→α2→α3→α4→Prop} {G:Prop} (h:∃ x0,∃ x1,∃ x2,∃ x3,∃ x4,p0 x0 x1 x2 x3 x4∧p1 x0 x1 x2 x3 x4∧p2 x0 x1 x2 x3 x4∧p3 x0 x1 x2 x3 x4∧p4 x0 x1 x2 x3 x4∧p5 x0 x1 x2 x3 x4∧p6 x0 x1 x2 x3 x4) (k:∀ x0 x1 x2 x3 x4,p0 x0 x1 x2 x3 x4→p1 x0 x1 x2 x3 x4→p2 x0 x1 x2 x3 x4→p3 x0 x1 x2 x3 x4→p4 x0 x1 x2 x3 x4→p5 x0 x1 x2 x3 x4→p6 x0 x1 x2 x3 x4→G):G:=h.elim fun x0 h=>h.elim fun x1 h=>h.elim fun x2 h=>h.elim fun x3 h=>h.elim fun x4 h=>k x0 x1 x2 x3 x4 h.1 h.2.1 h.2.2.1 h.2.2.2.1 h.2.2.2.2.1 h.2.2.2.2.2.1 h.2.2.2.2.2.2
theorem KP {p0 p1 p2 p3 p4:Prop} {G:Prop} (h:p0∧p1∧p2∧p3∧p4) (k:p0→p1→p2→p3→p4→G):G:=k h.1 h.2.1 h.2.2.1 h.2.2.2.1 h.2.2.2.2
theorem F6 {α0 α1 α2:Type} {p0 p1:α0→α1→α2→Prop} {G:Prop} (h:∃ x0,∃ x1,∃ x2,p0 x0 x1 x2∧p1 x0 x1 x2) (k:∀ x0,∀ x1,∀ x2,p0 x0 x1 x2→p1 x0 x1 x2→G):G:=h.elim fun x0 h=>h.elim fun x1 h=>h.elim fun x2 h=>k x0 x1 x2 h.1 h.2
theorem Bl {α0 α1:Type} {p0 p1:α0→α1→Prop} {G:Prop} (h:∃ x0,∃ x1,p0 x0 x1∧p1 x0 x1) (k:∀ x0,∀ x1,p0 x0 x1→p1 x0 x1→G):G:=h.elim fun x0 h=>h.elim fun x1 h=>k x0 x1 h.1 h.2
theorem oEP {α:Type} {q:α→Prop} {p:∀ x,q x→Prop} {G:Prop} (h:∃ x,∃ z:q x,p x z) (k:∀ x z,p x z→G):G:=h.elim fun x h=>h.elim fun z h=>k x z h
theorem oAA {p0 p1 p2:Prop} {G:Prop} (h:p0∧p1∧p2) (k:p0→p1→p2→G):G:=k h.1 h.2.1 h.2.2
theorem KL {α0 α1:Type} {p0 p1 p2 p3 p4 p5:α0→α1→Prop} {G:Prop} (h:∃ x0,∃ x1,p0 x0 x1∧p1 x0 x1∧p2 x0 x1∧p3 x0 x1∧p4 x0 x1∧p5 x0 x1) (k:∀ x0,∀ x1,p0 x0 x1→p1 x0 x1→p2 x0 x1→p3 x0 x1→p4 x0 x1→p5 x0 x1→G):G:=h.elim fun x0 h=>h.elim fun x1 h=>k x0 x1 h.1 h.2.1 h.2.2.1 h.2.2.2.1 h.2.2.2.2.1 h.2.2.2.2.2
theorem I5 {α0 α1:Type} {p0 p1:α0→Prop} {p2:α0→α1→Prop} {G:Prop} (h0:∃ x0,p0 x0∧(p1 x0∧(∃ x1,p2 x0 x1))) (k:∀ x0,p0 x0→p1 x0→∀ x1,p2 x0 x1→G):G:=h0.elim fun x0 h1=>h1.2.2.elim fun x1 h2=>k x0 h1.1 h1.2.1 x1 h2
theorem EE {α0:Type} {p0 p1 p2:α0→Prop} {G:Prop} (h:∃ x0,p0 x0∧p1 x0∧p2 x0) (k:∀ x0,p0 x0→p1 x0→p2 x0→G):G:=h.elim fun x0 h=>k x0 h.1 h.2.1 h.2.2
theorem oEEE {α0 α1 α2:Type} {p0:α0→α1→α2→Prop} {G:Prop} (h:∃ x0,∃ x1,∃ x2,p0 x0 x1 x2) (k:∀ x0,∀ x1,∀ x2,p0 x0 x1 x2→G):G:=h.elim fun x0 h=>h.elim fun x1 h=>h.elim fun x2 h=>k x0 x1 x2 h
theorem Be {α0 α1:Type} {p0 p1 p2:α0→α1→Prop} {G:Prop} (h:∃ x0,∃ x1,p0 x0 x1∧p1 x0 x1∧p2 x0 x1) (k:∀ x0,∀ x1,p0 x0 x1→p1 x0 x1→p2 x0 x1→G):G:=h.elim fun x0 h=>h.elim fun x1 h=>k x0 x1 h.1 h.2.1 h.2.2
theorem Hq {α0 α1 α2:Type} {p0 p1 p2:α0→α1→α2→Prop} {G:Prop} (h:∃ x0,∃ x1,∃ x2,p0 x0 x1 x2∧p1 x0 x1 x2∧p2 x0 x1 x2) (k:∀ x0,∀ x1,∀ x2,p0 x0 x1 x2→p1 x0 x1 x2→p2 x0 x1 x2→G):G:=h.elim fun x0 h=>h.elim fun x1 h=>h.elim fun x2 h=>k x0 x1 x2 h.1 h.2.1 h.2.2
theorem Ep {α0:Type} {p0 p1 p2 p3 p4:α0→Prop} {G:Prop} (h:∃ x0,p0 x0∧p1 x0∧p2 x0∧p3 x0∧p4 x0) (k:∀ x0,p0 x0→p1 x0→p2 x0→p3 x0→p4 x0→G):G:=h.elim fun x0 h=>k x0 h.1 h.2.1 h.2.2.1 h.2.2.2.1 h.2.2.2.2
theorem oEAAA {α0:Type} {p0 p1 p2 p3:α0→Prop} {G:Prop} (h:∃ x0,p0 x0∧p1 x0∧p2 x0∧p3 x0) (k:∀ x0,p0 x0→p1 x0→p2 x0→p3 x0→G):G:=h.elim fun x0 h=>k x0 h.1 h.2.1 h.2.2.1 h.2.2.2
theorem FW {p0 p1 p2 p3:Prop} {G:Prop} (h:p0∧p1∧p2∧p3) (k:p0→p1→p2→p3→G):G:=k h.1 h.2.1 h.2.2.1 h.2.2.2
theorem KN {α0:Type} {p0 p1 p2 p3 p4 p5 p6:α0→Prop} {G:Prop} (h:∃ x0,p0 x0∧p1 x0∧p2 x0∧p3 x0∧p4 x0∧p5 x0∧p6 x0) (k:∀ x0,p0 x0→p1 x0→p2 x0→p3 x0→p4 x0→p5 x0→p6 x0→G):G:=h.elim fun x0 h=>k x0 h.1 h.2.1 h.2.2.1 h.2.2.2.1 h.2.2.2.2.1 h.2.2.2.2.2.1 h.2.2.2.2.2.2
theorem oAEE {α0 α1:Type} {p0:Prop} {p1:α0→α1→Prop} {G:Prop} (h0:p0∧(∃ x0,∃ x1,p1 x0 x1)) (k:p0→∀ x0,∀ x1,p1 x0 x1→G):G:=h0.2.elim fun x0 h1=>h1.elim fun x1 h2=>k h0.1 x0 x1 h2
theorem oEE {α0 α1:Type} {p0:α0→α1→Prop} {G:Prop} (h:∃ x0,∃ x1,p0 x0 x1) (k:∀ x0,∀ x1,p0 x0 x1→G):G:=h.elim fun x0 h=>h.elim fun x1 h=>k x0 x1 h
theorem oEEEE {α0 α1 α2 α3:Type} {p0:α0→α1→α2→α3→Prop} {G:Prop} (h:∃ x0,∃ x1,∃ x2,∃ x3,p0 x0 x1 x2 x3) (k:∀ x0,∀ x1,∀ x2,∀ x3,p0 x0 x1 x2 x3→G):G:=h.elim fun x0 h=>h.elim fun x1 h=>h.elim fun x2 h=>h.elim fun x3 h=>k x0 x1 x2 x3 h
theorem GH {α0 α1:Type} {p0 p1 p2 p3:α0→α1→Prop} {G:Prop} (h:∃ x0,∃ x1,p0 x0 x1∧p1 x0 x1∧p2 x0 x1∧p3 x0 x1) (k:∀ x0,∀ x1,p0 x0 x1→p1 x0 x1→p2 x0 x1→p3 x0 x1→G):G:=h.elim fun x0 h=>h.elim fun x1 h=>k x0 x1 h.1 h.2.1 h.2.2.1 h.2.2.2
theorem I4 {α0 α1 α2 α3:Type} {p0 p1 p2:α0→α1→α2→α3→Prop} {G:Prop} (h:∃ x0,∃ x1,∃ x2,∃ x3,p0 x0 x1 x2 x3∧p1 x0 x1 x2 x3∧p2 x0 x1 x2 x3) (k:∀ x0,∀ x1,∀ x2,∀ x3,p0 x0 x1 x2 x3→p1 x0 x1 x2 x3→p2 x0 x1 x2 x3→G):G:=h.elim fun x0 h=>h.elim fun x1 h=>h.elim fun x2 h=>h.elim fun x3 h=>k x0 x1 x2 x3 h.1 h.2.1 h.2.2
theorem oEEEAAA {α0 α1 α2:Type} {p0 p1 p2 p3:α0→α1→α2→Prop} {G:Prop} (h:∃ x0,∃ x1,∃ x2,p0 x0 x1 x2∧p1 x0 x1 x2∧p2 x0 x1 x2∧p3 x0 x1 x2) (k:∀ x0,∀ x1,∀ x2,p0 x0 x1 x2→p1 x0 x1 x2→p2 x0 x1 x2→p3 x0 x1 x2→G):G:=h.elim fun x0 h=>h.elim fun x1 h=>h.elim fun x2 h=>k x0 x1 x2 h.1 h.2.1 h.2.2.1 h.2.2.2
theorem KM {α0 α1 α2:Type} {p0:α0→Prop} {p1 p2:α0→α1→α2→Prop} {G:Prop} (h0:∃ x0,p0 x0∧(∃ x1,∃ x2,p1 x0 x1 x2∧p2 x0 x1 x2)) (k:∀ x0,p0 x0→∀ x1,∀ x2,p1 x0 x1 x2→p2 x0 x1 x2→G):G:=h0.elim fun x0 h1=>h1.2.elim fun x1 h2=>h2.elim fun x2 h3=>k x0 h1.1 x1 x2 h3.1 h3.2
theorem Gz {α0 α1:Type} {p0:Prop} {p1 p2 p3 p4 p5 p6 p7 p8:α0→α1→Prop} {G:Prop} (h0:p0∧(∃ x0,∃ x1,p1 x0 x1∧p2 x0 x1∧p3 x0 x1∧p4 x0 x1∧p5 x0 x1∧p6 x0 x1∧p7 x0 x1∧p8 x0 x1)) (k:p0→∀ x0,∀ x1,p1 x0 x1→p2 x0 x1→p3 x0 x1→p4 x0 x1→p5 x0 x1→p6 x0 x1→p7 x0 x1→p8 x0 x1→G):G:=h0.2.elim fun x0 h1=>h1.elim fun x1 h2=>k h0.1 x0 x1 h2.1 h2.2.1 h2.2.2.1 h2.2.2.2.1 h2.2.2.2.2.1 h2.2.2.2.2.2.1 h2.2.2.2.2.2.2.1 h2.2.2.2.2.2.2.2
theorem B4 {α0 α1 α2 α3 α4 α5 α6:Type} {p0 p1:α0→α1→α2→α3→α4→α5→α6→Prop} {G:Prop} (h:∃ x0,∃ x1,∃ x2,∃ x3,∃ x4,∃ x5,∃ x6,p0 x0 x1 x2 x3 x4 x5 x6∧p1 x0 x1 x2 x3 x4 x5 x6) (k:∀ x0,∀ x1,∀ x2,∀ x3,∀ x4,∀ x5,∀ x6,p0 x0 x1 x2 x3 x4 x5 x6→p1 x0 x1 x2 x3 x4 x5 x6→G):G:=h.elim fun x0 h=>h.elim fun x1 h=>h.elim fun x2 h=>h.elim fun x3 h=>h.elim fun x4 h=>h.elim fun x5 h=>h.elim fun x6 h=>k x0 x1 x2 x3 x4 x5 x6 h.1 h.2
theorem oEAAAAA {α0:Type} {p0 p1 p2 p3 p4 p5:α0→Prop} {G:Prop} (h:∃ x0,p0 x0∧p1 x0∧p2 x0∧p3 x0∧p4 x0∧p5 x0) (k:∀ x0,p0 x0→p1 x0→p2 x0→p3 x0→p4 x0→p5 x0→G):G:=h.elim fun x0 h=>k x0 h.1 h.2.1 h.2.2.1 h.2.2.2.1 h.2.2.2.2.1 h.2.2.2.2.2
theorem bt {a b:Bool} (h:(a&&b)=true):a=true∧b=true:=Bool.and_eq_true_iff.mp h
theorem ff {Pr:Prop} (h:false=true):Pr:=nomatch h
theorem no {α:Type} {Pr:Prop} {x:α} (h:(none:Option α)=some x):Pr:=nomatch h
theorem fS' {α:Type} {Pr:Prop} {x:α} (h:some x=none):Pr:=nomatch h
structure Wd where
 prog:Program
 w:World
 K:Frag
 tp:Addr→Int×Int×Str
noncomputable abbrev Wd.M (W:Wd):Model:=model W.prog W.w
noncomputable abbrev AK:=Addr→Obj→Prop
class AY where
 tabs:List Addr
 gr:Array GenState→Array GenState→Prop
 grr:∀ g,gr g g
 grt:∀ a b c,gr a b→gr b c→gr a c
noncomputable abbrev tabs [T:AY]:List Addr:=T.tabs
variable [T₀:AY]
inductive AV where
 | none
 | bool (b:Bool)
 | int (i:Int)
 | str (s:Str)
 | top (v:Value)
 | own (i:Nat)
 | lst (xs:List AV)
 | tup (xs:List AV)
 | mtch (text:Str) (pat:Addr) (spans:List Int)
noncomputable abbrev Af (vs:List Value) (n:Nat):Obj:={cls:=.type "list",data:=.seq vs.toArray n}
noncomputable abbrev B2 (vs:List Value) (n:Nat):Obj:={cls:=.type "tuple",data:=.seq vs.toArray n}
mutual
inductive Is (Z:AK) (as:List Addr):AV→Value→Prop where
 | none:Is Z as .none .none
 | bool (b:Bool):Is Z as (.bool b) (.bool b)
 | int (i:Int) (t:Tok):Is Z as (.int i) (.int i t)
 | str {s:Str} (t:Tok) (h:s.length≤sizeLine):Is Z as (.str s) (.str s t)
 | top (v:Value):Is Z as (.top v) v
 | own {i:Nat} {a:Addr}:as[i]?=some a→Is Z as (.own i) (.ref a)
 | lst {a:Addr} {vs:List Value} {n:Nat} {xs:List AV}:Z a (Af vs n)→IsL Z as xs vs→vs.length≤sizeLine→Is Z as (.lst xs) (.ref a)
 | tup {a:Addr} {vs:List Value} {n:Nat} {xs:List AV}:Z a (B2 vs n)→IsL Z as xs vs→vs.length≤sizeLine→Is Z as (.tup xs) (.ref a)
 | mtch {a sp:Addr} {text:Str} {t:Tok} {pat:Addr} {spans:List Int} {li:Int} {lim:Nat} {n:Nat} :
   Z a {cls:=.type "re.Match",data:=.fields #[.str text t,.ref pat,rawInt 0,rawInt lim,rawInt li,.ref sp]} →
   Z sp (B2 (spans.map rawInt) n)→Is Z as (.mtch text pat spans) (.ref a)
inductive IsL (Z:AK) (as:List Addr):List AV→List Value→Prop where
 | nil:IsL Z as [] []
 | cons {x:AV} {v:Value} {xs:List AV} {vs:List Value}:Is Z as x v→IsL Z as xs vs→IsL Z as (x::xs) (v::vs)
end
theorem Is.mono2 {Z Z':AK} {as more:List Addr} (hz:∀ b o,Z b o→Z' b o):(∀ {x:AV} {v:Value},Is Z as x v→Is Z' (as++more) x v)∧(∀ {x:List AV} {v:List Value},IsL Z as x v→IsL Z' (as++more) x v) :=
 have own:∀ {i:Nat} {a:Addr},as[i]?=some a→Is Z' (as++more) (.own i) (.ref a):=fun h=>.own (by rw [List.getElem?_append_left (List.getElem?_eq_some_iff.mp h).1];exact h)
 ⟨fun h=>Is.rec (motive_1:=fun x v ζ=>Is Z' (as++more) x v) (motive_2:=fun x v ζ=>IsL Z' (as++more) x v) .none .bool .int .str .top own (fun h ζ l ih=>.lst (hz _ _ h) ih l) (fun h ζ l ih=>.tup (hz _ _ h) ih l) (fun h q=>.mtch (hz _ _ h) (hz _ _ q)) .nil (fun ζ ζ ih ih'=>.cons ih ih') h,
  fun h=>IsL.rec (motive_1:=fun x v ζ=>Is Z' (as++more) x v) (motive_2:=fun x v ζ=>IsL Z' (as++more) x v) .none .bool .int .str .top own (fun h ζ l ih=>.lst (hz _ _ h) ih l) (fun h ζ l ih=>.tup (hz _ _ h) ih l) (fun h q=>.mtch (hz _ _ h) (hz _ _ q)) .nil (fun ζ ζ ih ih'=>.cons ih ih') h⟩
theorem Is.mono {Z Z':AK} {as more:List Addr} (hz:∀ b o,Z b o→Z' b o) {x:AV} {v:Value} (h:Is Z as x v):Is Z' (as++more) x v:=(Is.mono2 hz).1 h
theorem IsL.mono {Z Z':AK} {as more:List Addr} (hz:∀ b o,Z b o→Z' b o) {x:List AV} {v:List Value} (h:IsL Z as x v):IsL Z' (as++more) x v:=(Is.mono2 hz).2 h
theorem IsL.ind {Z:AK} {as:List Addr} {P:List AV→List Value→Prop} (n:P [] []) (c:∀ {x:AV} {v:Value} {xs:List AV} {vs:List Value},Is Z as x v→IsL Z as xs vs→P xs vs→P (x::xs) (v::vs)) {x:List AV} {v:List Value} (h:IsL Z as x v):P x v :=
 IsL.rec (motive_1:=fun ζ ζ ζ=>True) (motive_2:=fun x v ζ=>P x v) trivial (fun ζ=>trivial) (fun ζ ζ=>trivial) (fun ζ ζ=>trivial) (fun ζ=>trivial) (fun ζ=>trivial) (fun ζ ζ ζ ζ=>trivial) (fun ζ ζ ζ ζ=>trivial) (fun ζ ζ=>trivial) n (fun h q ζ ih=>c h q ih) h
theorem IsL.length {Z:AK} {as:List Addr} {x:List AV} {v:List Value} (h:IsL Z as x v):x.length=v.length:=h.ind (P:=fun x v=>x.length=v.length) rfl fun ζ ζ ih=>congrArg (·+1) ih
theorem IsL.append {Z:AK} {as:List Addr} {x y:List AV} {v u:List Value} (h:IsL Z as x v) (q:IsL Z as y u):IsL Z as (x++y) (v++u):=h.ind (P:=fun x v=>IsL Z as (x++y) (v++u)) q fun h ζ ih=>.cons h ih
theorem IsL.get {Z:AK} {as:List Addr} {x:List AV} {v:List Value} {i:Nat} {a:AV} (h:IsL Z as x v):x[i]?=some a→∃ b,v[i]?=some b∧Is Z as a b :=
 h.ind (P:=fun x v=>∀ i,x[i]?=some a→∃ b,v[i]?=some b∧Is Z as a b) (fun ζ e=>no e) (fun {x v _ _} h _ ih i e=>by
  cases i with
  | zero=>exact ⟨v,rfl,Option.some.inj e▸h⟩
  | succ i=>exact ih i e) i
noncomputable def FJ (o:Obj) (q:Str):Prop:=∃ vs t,o.data=.fields vs∧vs[1]?=some (.str q t)
inductive AO where
 | list (xs:List AV)
 | inst (C:Addr) (d:Nat)
 | dict (es:List (Str×AV))
 | raw (o:Obj)
 | fn (params:Arguments) (body:Expr) (scope:Scope) (qual:Str)
class inductive BX (Z:AK) (as:List Addr):List (Str×AV)→List DictEntry→Prop where
 | nil:BX Z as [] []
 | cons {x:Str} {a:AV} {v:Value} {h:Int} {t:Tok} {es:List (Str×AV)} {ds:List DictEntry}:Is Z as a v→BX Z as es ds→BX Z as ((x,a)::es) (⟨h,.str x t,v⟩::ds)
theorem BX.mono {Z Z':AK} {as more:List Addr} (hz:∀ b o,Z b o→Z' b o) {es:List (Str×AV)} {ds:List DictEntry} (h:BX Z as es ds):BX Z' (as++more) es ds:=by
 induction h with
 | nil=>exact .nil
 | cons a _ ih=>exact .cons (a.mono hz) ih
inductive IsO (Z:AK) (as:List Addr):AO→Obj→Prop where
 | list {xs:List AV} {vs:List Value} {n:Nat}:IsL Z as xs vs→vs.length≤sizeLine→IsO Z as (.list xs) (Af vs n)
 | inst {C:Addr} {d:Nat} {a:Addr} {sl:Array (Option Value)}:as[d]?=some a→IsO Z as (.inst C d) ⟨.ref C,some a,.plain,sl⟩
 | dict {es:List (Str×AV)} {ds:List DictEntry} {n:Nat}:BX Z as es ds→IsO Z as (.dict es) (dictOf ds n)
 | raw {o:Obj} (h:o.isFreed=false):IsO Z as (.raw o) o
 | fn {params:Arguments} {body:Expr} {scope:Scope} {qual:Str} {pm ctv:Value} {c:Addr} {oc:Obj}:Z c oc→FJ oc qual→IsO Z as (.fn params body scope qual) (kla_obj "<lambda>" qual params body scope [] pm c ctv)
theorem IsO.mono {Z Z':AK} {as more:List Addr} (hz:∀ b o,Z b o→Z' b o) {x:AO} {o:Obj} (h:IsO Z as x o):IsO Z' (as++more) x o:=by
 induction h using IsO.casesOn with
 | list q l=>exact .list (q.mono hz) l
 | inst q=>exact .inst (by rw [List.getElem?_append_left (List.getElem?_eq_some_iff.mp q).1];exact q)
 | dict q=>exact .dict (q.mono hz)
 | raw q=>exact .raw q
 | fn z q=>exact .fn (hz _ _ z) q
theorem IsO.alive {Z:AK} {as:List Addr} {x:AO} {o:Obj} (h:IsO Z as x o):o.isFreed=false:=by
 induction h using IsO.casesOn <;> first | rfl | assumption
structure ST where
 loc:List (Str×AV)
 objs:List AO
noncomputable def TabV (W:Wd) (Z:AK) (t:Addr) (vs:Array Value):Prop:=vs=#[]∨∃ c o,vs=#[rawInt (W.tp t).1,rawInt (W.tp t).2.1,.ref c]∧Z c o∧FJ o (W.tp t).2.2
theorem TabV.mono {W:Wd} {Z Z':AK} {t:Addr} {vs:Array Value} (h:TabV W Z t vs) (hz:∀ b o,Z b o→Z' b o):TabV W Z' t vs:=h.imp id fun ⟨c,o,a,b,d⟩=>⟨c,o,a,hz _ _ b,d⟩
noncomputable def Gd (W:Wd) (Z:AK) (h:Heap):Prop:=∀ t∈tabs,∃ vs,h.get? t=some (tabObj vs)∧TabV W Z t vs
theorem Gd.mono {W:Wd} {Z Z':AK} {h:Heap} (x:Gd W Z h) (hz:∀ b o,Z b o→Z' b o):Gd W Z' h:=fun t ht=>AG (x t ht) fun vs a b=>⟨vs,a,b.mono hz⟩
structure Zn (W:Wd) (Z:AK) (h:Heap):Prop where
 kin:∀ a o,W.K.lookup a=some o→Z a o
 keep:∀ b o,Z b o→h.get? b=some o
 low:∀ a o,Z a o→a∉tabs
 tab:Gd W Z h
structure Ow (Z:AK) (as:List Addr) (objs:List AO) (h:Heap):Prop where
 len:as.length=objs.length
 obj:∀ (i:Nat) (a:Addr) (x:AO),as[i]?=some a→objs[i]?=some x→∃ o,h.get? a=some o∧IsO Z as x o
 nodup:as.Nodup
 out:∀ a∈as,(∀ o,¬ Z a o)∧a∉tabs
noncomputable def Names (Z:AK) (as:List Addr) (loc:List (Str×AV)) (m:Str→Option Value):Prop :=
 ∀ x a,loc.lookup x=some a→∃ v,m x=some v∧Is Z as a v
structure Frm (Z:AK) (as:List Addr) (L:Addr) (loc:List (Str×AV)) (h:Heap):Prop where
 ns:∃ m,h.Ns L m∧Names Z as loc m
 notIn:L∉as
 out:(∀ o,¬ Z L o)∧L∉tabs
structure Sta (W:Wd) (Z:AK) (L:Addr) (as:List Addr) (st:ST) (s:Shared):Prop where
 zn:Zn W Z s.heap
 ow:Ow Z as st.objs s.heap
 fr:Frm Z as L st.loc s.heap
structure Evo (own:List Addr) (Z Z':AK) (as as':List Addr) (s s':Shared):Prop where
 zsub:∀ b o,Z b o→Z' b o
 znew:∀ b o,Z' b o→Z b o∨s.heap.objs.size≤b
 pre:∃ more,as'=as++more∧∀ a∈more,s.heap.objs.size≤a
 keep:∀ b o,s.heap.get? b=some o→b∉own→b∉as→b∉tabs→s'.heap.get? b=some o
 size:s.heap.objs.size≤s'.heap.objs.size
 gens:AY.gr s.gens s'.gens
 drawn:s'.drawn=s.drawn
 os:s'.os=s.os
theorem Evo.refl {own:List Addr} {Z:AK} {as:List Addr} {s:Shared} {t:Nat}:Evo own Z Z as as s {s with toks:=t} :=
 ⟨fun ζ ζ h=>h,fun ζ ζ h=>.inl h,⟨[],by simp,fun ζ h=>(nomatch h)⟩,fun ζ ζ h ζ ζ ζ=>h,Nat.le_refl _,AY.grr _,rfl,rfl⟩
theorem Evo.refl' {own:List Addr} {Z:AK} {as:List Addr} {s:Shared}:Evo own Z Z as as s s :=
 ⟨fun ζ ζ h=>h,fun ζ ζ h=>.inl h,⟨[],by simp,fun ζ h=>(nomatch h)⟩,fun ζ ζ h ζ ζ ζ=>h,Nat.le_refl _,AY.grr _,rfl,rfl⟩
theorem Evo.trans {own:List Addr} {Z Z' Z'':AK} {as as' as'':List Addr} {s s' s'':Shared} (a:Evo own Z Z' as as' s s') (b:Evo own Z' Z'' as' as'' s' s''):Evo own Z Z'' as as'' s s'':=by
 refine AG a.pre fun m1 e1 g1=>?_
 refine AG b.pre fun m2 e2 g2=>?_
 refine ⟨fun x o h=>b.zsub _ _ (a.zsub _ _ h),fun x o h=>?_,⟨m1++m2,by rw [e2,e1,List.append_assoc],fun x hx=>?_⟩,fun x o h h1 h2 h3=>?_,Nat.le_trans a.size b.size,AY.grt _ _ _ a.gens b.gens,b.drawn.trans a.drawn,b.os.trans a.os⟩
 ·rcases b.znew _ _ h with q | q
  ·exact a.znew _ _ q
  ·exact .inr (Nat.le_trans a.size q)
 ·rcases List.mem_append.mp hx with q | q
  ·exact g1 _ q
  ·exact Nat.le_trans a.size (g2 _ q)
 ·refine b.keep _ _ (a.keep _ _ h h1 h2 h3) h1 (fun q=>?_) h3
  rw [e1] at q
  rcases List.mem_append.mp q with q | q
  ·exact h2 q
  ·exact absurd (Heap.lt_size h) (Nat.not_lt.mpr (g1 _ q))
theorem Sta.toks {W:Wd} {Z:AK} {L:Addr} {as:List Addr} {st:ST} {s:Shared} (h:Sta W Z L as st s) (t:Nat):Sta W Z L as st {s with toks:=t}:=⟨h.zn,h.ow,h.fr⟩
noncomputable def DW (sc:Scope):Option (Addr×Str) :=
 if (sc.names.lookup ("header_values":Str)).isSome then some (82,"split_header_words.<locals>.")
 else if (sc.names.lookup ("headers":Str)).isSome then some (99,"join_header_words.<locals>.")
 else if (sc.names.lookup ("split_command":Str)).isSome then some (798,"join.<locals>.")
 else none
structure Aq (env:Env) (sc:Scope) (L:Addr):Prop where
 scope:env.scope=sc
 locals:env.locals=L
 globals:env.globals=mainGlobals
 builtins:env.builtins=builtinsNs
 kind:sc.kind=.function
 code:∀ c q,DW sc=some (c,q)→env.code=.ref c∧env.qual=q
structure Ae (A:Around) (k:Nat):Prop where
 depth:A.depth+10*k<900
 units:A.units+100*k<9000
 handled:A.handled=none
noncomputable def EvQ (W:Wd) (L:Addr) (Z:AK) (as:List Addr) (s:Shared) (v:AV) (st':ST) (Q:Value→Shared→Prop):Prop:=∀ (Z':AK) (as':List Addr) (u:Value) (s':Shared),Sta W Z' L as' st' s'→Evo [L] Z Z' as as' s s'→Is Z' as' v u→Q u s'
noncomputable def TsQ (W:Wd) (L:Addr) (Z:AK) (as:List Addr) (s:Shared) (b:Bool) (st':ST) (Q:Bool→Shared→Prop):Prop:=∀ (Z':AK) (as':List Addr) (s':Shared),Sta W Z' L as' st' s'→Evo [L] Z Z' as as' s s'→Q b s'
noncomputable def AA (W:Wd) (k:Nat) (sc:Scope) (e:Expr) (st:ST) (v:AV) (st':ST):Prop :=
 ∀ (Z:AK) (L:Addr) (as:List Addr) (s:Shared) (A:Around) (Q E:Value→Shared→Prop) (env:Env),Aq env sc L→Ae A k→Sta W Z L as st s →
  EvQ W L Z as s v st' Q →
  wpAny W.M A (eval e env) Q E s
noncomputable def AL (W:Wd) (k:Nat) (sc:Scope) (e:Expr) (st:ST) (b:Bool) (st':ST):Prop :=
 ∀ (Z:AK) (L:Addr) (as:List Addr) (s:Shared) (A:Around) (Q:Bool→Shared→Prop) (E:Value→Shared→Prop) (env:Env),Aq env sc L→Ae A k→Sta W Z L as st s →
  TsQ W L Z as s b st' Q →
  wpAny W.M A (isTrue e env (eval e env)) Q E s
inductive AF where
 | next | brk | cont
 | ret (v:AV)
inductive IsF (Z:AK) (as:List Addr):AF→Flow→Prop where
 | next:IsF Z as .next .next
 | brk:IsF Z as .brk .brk
 | cont:IsF Z as .cont .cont
 | ret {v:AV} {u:Value}:Is Z as v u→IsF Z as (.ret v) (.ret u)
noncomputable def ExQ (W:Wd) (L:Addr) (Z:AK) (as:List Addr) (s:Shared) (f:AF) (st':ST) (Q:Flow→Shared→Prop):Prop:=∀ (Z':AK) (as':List Addr) (u:Flow) (s':Shared),Sta W Z' L as' st' s'→Evo [L] Z Z' as as' s s'→IsF Z' as' f u→Q u s'
noncomputable def FnQ (W:Wd) (Z:AK) (as:List Addr) (s:Shared) (r:AV) (objs':List AO) (Q:Value→Shared→Prop):Prop:=∀ (Z':AK) (as':List Addr) (u:Value) (s':Shared),Zn W Z' s'.heap→Ow Z' as' objs' s'.heap→Evo [] Z Z' as as' s s'→Is Z' as' r u→Q u s'
noncomputable def A8 (W:Wd) (k:Nat) (sc:Scope) (b:List Stmt) (st:ST) (f:AF) (st':ST):Prop :=
 ∀ (Z:AK) (L:Addr) (as:List Addr) (s:Shared) (A:Around) (Q:Flow→Shared→Prop) (E:Value→Shared→Prop) (env:Env),Aq env sc L→Ae A k→Sta W Z L as st s →
  ExQ W L Z as s f st' Q →
  wpAny W.M A (execs b env) Q E s
noncomputable def AH (W:Wd) (k:Nat) (sc:Scope) (b:Stmt) (st:ST) (f:AF) (st':ST):Prop :=
 ∀ (Z:AK) (L:Addr) (as:List Addr) (s:Shared) (A:Around) (Q:Flow→Shared→Prop) (E:Value→Shared→Prop) (env:Env),Aq env sc L→Ae A k→Sta W Z L as st s →
  ExQ W L Z as s f st' Q →
  wpAny W.M A (exec b env) Q E s
noncomputable def AR (W:Wd) (k:Nat) (f:Value) (args:List AV) (objs:List AO) (r:AV) (objs':List AO):Prop :=
 ∀ (Z:AK) (as:List Addr) (vals:List Value) (s:Shared) (A:Around) (Q E:Value→Shared→Prop),Ae A k→Zn W Z s.heap→Ow Z as objs s.heap→IsL Z as args vals →
  FnQ W Z as s r objs' Q →
  wpAny W.M A (call f vals) Q E s
noncomputable def BG (W:Wd) (k:Nat) (f:Value) (args:List AV) (objs:List AO) (r:AV) (objs':List AO):Prop :=
 ∀ (Z:AK) (as:List Addr) (vals:List Value) (s:Shared) (A:Around) (Q:Value→Shared→Prop),Ae A k→Zn W Z s.heap→Ow Z as objs s.heap→IsL Z as args vals →
  FnQ W Z as s r objs' Q →
  codeAny W.M A (.call f ⟨vals,[]⟩) (fun r s'=>match r with | .ok (.ret v)=>Q v s' | _=>False) s
theorem BG.ok {W:Wd} {k:Nat} {f:Value} {args:List AV} {objs objs':List AO} {r:AV} (h:BG W k f args objs r objs'):AR W k f args objs r objs':=by
 intro Z as vals s A Q E hR zn ow hv q
 refine wpAny_call (codeAny_mono (h Z as vals s A Q hR zn ow hv q) fun r s' z=>?_)
 rcases r with e | (_ | _ | _ | v) <;> first | exact z | exact z.elim
end Mine
end
section
namespace Mine
open PySem PySem.W PyProof.Rows PySem.Calls PySem.Spec
section
variable {Z:AK} {as:List Addr}
theorem Is.e_none {motive:(v:Value)→Is Z as .none v→Prop} (k:motive .none .none) {v:Value} (h:Is Z as .none v):motive v h:=by cases h;exact k
theorem Is.e_bool {b:Bool} {motive:(v:Value)→Is Z as (.bool b) v→Prop} (k:motive (.bool b) (.bool b)) {v:Value} (h:Is Z as (.bool b) v):motive v h:=by cases h;exact k
theorem Is.e_int {i:Int} {motive:(v:Value)→Is Z as (.int i) v→Prop} (k:∀ t,motive (.int i t) (.int i t)) {v:Value} (h:Is Z as (.int i) v):motive v h:=by cases h;apply k <;> assumption
theorem Is.e_str {x:Str} {motive:(v:Value)→Is Z as (.str x) v→Prop} (k:∀ t (h:x.length≤sizeLine),motive (.str x t) (.str t h)) {v:Value} (h:Is Z as (.str x) v):motive v h:=by cases h;apply k <;> assumption
theorem Is.e_top {u:Value} {motive:(v:Value)→Is Z as (.top u) v→Prop} (k:motive u (.top u)) {v:Value} (h:Is Z as (.top u) v):motive v h:=by cases h;exact k
theorem Is.e_own {i:Nat} {motive:(v:Value)→Is Z as (.own i) v→Prop} (k:∀ a (h:as[i]?=some a),motive (.ref a) (.own h)) {v:Value} (h:Is Z as (.own i) v):motive v h:=by cases h;apply k <;> assumption
theorem Is.e_lst {xs:List AV} {motive:(v:Value)→Is Z as (.lst xs) v→Prop} (k:∀ a vs n (z:Z a (Af vs n)) (l:IsL Z as xs vs) (e:vs.length≤sizeLine),motive (.ref a) (.lst z l e)) {v:Value} (h:Is Z as (.lst xs) v):motive v h:=by cases h;apply k <;> assumption
theorem Is.e_tup {xs:List AV} {motive:(v:Value)→Is Z as (.tup xs) v→Prop} (k:∀ a vs n (z:Z a (B2 vs n)) (l:IsL Z as xs vs) (e:vs.length≤sizeLine),motive (.ref a) (.tup z l e)) {v:Value} (h:Is Z as (.tup xs) v):motive v h:=by cases h;apply k <;> assumption
theorem Is.e_mtch {text:Str} {pat:Addr} {spans:List Int} {motive:(v:Value)→Is Z as (.mtch text pat spans) v→Prop}
  (k:∀ (a sp:Addr) (t:Tok) (li:Int) (lim n:Nat) (z:Z a {cls:=.type "re.Match",data:=.fields #[.str text t,.ref pat,rawInt 0,rawInt lim,rawInt li,.ref sp]}) (z':Z sp (B2 (spans.map rawInt) n)),motive (.ref a) (.mtch z z')) {v:Value} (h:Is Z as (.mtch text pat spans) v):motive v h:=by
 cases h;apply k <;> assumption
theorem IsL.e_nil {motive:(v:List Value)→IsL Z as [] v→Prop} (k:motive [] .nil) {v:List Value} (h:IsL Z as [] v):motive v h:=by cases h;exact k
theorem IsL.e_cons {x:AV} {xs:List AV} {motive:(v:List Value)→IsL Z as (x::xs) v→Prop} (k:∀ w ws (h:Is Z as x w) (l:IsL Z as xs ws),motive (w::ws) (.cons h l)) {v:List Value} (h:IsL Z as (x::xs) v):motive v h:=by cases h;apply k <;> assumption
theorem IsF.e_next {motive:(v:Flow)→IsF Z as .next v→Prop} (k:motive .next .next) {v:Flow} (h:IsF Z as .next v):motive v h:=by cases h;exact k
theorem IsF.e_brk {motive:(v:Flow)→IsF Z as .brk v→Prop} (k:motive .brk .brk) {v:Flow} (h:IsF Z as .brk v):motive v h:=by cases h;exact k
theorem IsF.e_cont {motive:(v:Flow)→IsF Z as .cont v→Prop} (k:motive .cont .cont) {v:Flow} (h:IsF Z as .cont v):motive v h:=by cases h;exact k
theorem IsF.e_ret {x:AV} {motive:(v:Flow)→IsF Z as (.ret x) v→Prop} (k:∀ u (h:Is Z as x u),motive (.ret u) (.ret h)) {v:Flow} (h:IsF Z as (.ret x) v):motive v h:=by cases h;apply k <;> assumption
theorem IsO.e_list {xs:List AV} {motive:(v:Obj)→IsO Z as (.list xs) v→Prop} (k:∀ vs n (l:IsL Z as xs vs) (e:vs.length≤sizeLine),motive (Af vs n) (.list l e)) {v:Obj} (h:IsO Z as (.list xs) v):motive v h:=by cases h;apply k <;> assumption
theorem IsO.e_inst {C:Addr} {d:Nat} {motive:(v:Obj)→IsO Z as (.inst C d) v→Prop} (k:∀ a sl (e:as[d]?=some a),motive ⟨.ref C,some a,.plain,sl⟩ (.inst e)) {v:Obj} (h:IsO Z as (.inst C d) v):motive v h:=by cases h;apply k <;> assumption
theorem IsO.e_dict {es:List (Str×AV)} {motive:(v:Obj)→IsO Z as (.dict es) v→Prop} (k:∀ ds n (e:BX Z as es ds),motive (dictOf ds n) (.dict e)) {v:Obj} (h:IsO Z as (.dict es) v):motive v h:=by cases h;apply k <;> assumption
end
theorem IsL.e1 {Z:AK} {as:List Addr} {x:AV} {motive:(v:List Value)→IsL Z as [x] v→Prop} (k:∀ v (a:Is Z as x v),motive [v] (.cons a .nil)) {vs:List Value} (h:IsL Z as [x] vs):motive vs h :=
 IsL.e_cons (motive:=motive) (fun v r a l=>IsL.e_nil (motive:=fun r l=>motive (v::r) (.cons a l)) (k v a) l) h
theorem IsL.e2 {Z:AK} {as:List Addr} {x y:AV} {motive:(v:List Value)→IsL Z as [x,y] v→Prop} (k:∀ v (a:Is Z as x v) u (b:Is Z as y u),motive [v,u] (.cons a (.cons b .nil))) {vs:List Value} (h:IsL Z as [x,y] vs):motive vs h :=
 IsL.e_cons (motive:=motive) (fun v r a l=>IsL.e1 (motive:=fun r l=>motive (v::r) (.cons a l)) (k v a) l) h
theorem IsL.e3 {Z:AK} {as:List Addr} {x y z:AV} {motive:(v:List Value)→IsL Z as [x,y,z] v→Prop} (k:∀ v (a:Is Z as x v) u (b:Is Z as y u) w (c:Is Z as z w),motive [v,u,w] (.cons a (.cons b (.cons c .nil)))) {vs:List Value} (h:IsL Z as [x,y,z] vs):motive vs h :=
 IsL.e_cons (motive:=motive) (fun v r a l=>IsL.e2 (motive:=fun r l=>motive (v::r) (.cons a l)) (k v a) l) h
theorem lin {a b c d:Nat} (h:a≤b) (k:c+b≤d+a):c≤d:=Nat.le_of_add_le_add_right (Nat.le_trans k (Nat.add_le_add_left h d))
theorem lb {a b c:Nat} (h:a≤b) (k:Nat.ble b c=true):a≤c:=Nat.le_trans h (Nat.le_of_ble_eq_true k)
theorem iub {n k:Nat} {b:Int} (h:n≤k) (e:(k:Int)<b):(n:Int)<b:=Int.lt_of_le_of_lt (Int.ofNat_le.mpr h) e
theorem inb {n k:Nat} {b:Int} (h:n≤k) (e:(k:Int)<b):¬ (n:Int)≥b:=Int.not_le_of_gt (iub h e)
theorem iab {n:Int} {k:Nat} (h:n.natAbs≤k):n≤k:=Int.le_trans Int.le_natAbs (Int.ofNat_le.mpr h)
theorem nab {b:Int} {k:Nat} (h0:0≤b) (h:b≤k):b.natAbs≤k:=Int.ofNat_le.mp (by rw [Int.natAbs_of_nonneg h0];exact h)
theorem isb {a b c:Nat} (h:a=b+c):(a:Int) - b=c:=by subst h;rw [Int.natCast_add,Int.add_comm];exact Int.add_sub_cancel ..
theorem slt {a b c:Nat} (h:¬ b+c≤a) (z:0<c):a - b<c:=(Nat.le_total b a).elim (fun e=>Nat.sub_lt_left_of_lt_add e (Nat.lt_of_not_le h)) fun e=>Nat.sub_eq_zero_of_le e▸z
theorem lne {a b c d:Nat} (h:a=b) (k:c+b≤d+a):c≤d:=lin (Nat.le_of_eq h) k
theorem lns {a b c d:Nat} (h:a=b) (k:c+a≤d+b):c≤d:=lin (Nat.le_of_eq h.symm) k
theorem lnn {a b c d:Nat} (n:Nat) (h:a≤b) (k:c+n*b≤d+n*a):c≤d:=lin (Nat.mul_le_mul_left n h) k
theorem HH {a b c d:Nat} (n:Nat) (h:a=b) (k:c+n*a≤d+n*b):c≤d:=lnn n (Nat.le_of_eq h.symm) k
theorem eqn {a b c d:Nat} (h:a=b) (k:c+b=d+a):c=d:=by subst h;exact Nat.add_right_cancel k
theorem eqs {a b c d:Nat} (h:a=b) (k:c+a=d+b):c=d:=eqn h.symm k
end Mine
end
set_option compiler.extract_closed false
local macro_rules
  | `(tactic| rw [$e:term]) => `(tactic| ((first | refine Eq.substr $e ?_ | rewrite [$e:term]); try (with_reducible rfl)))
  | `(tactic| rw [← $e:term]) => `(tactic| ((first | refine Eq.substr (Eq.symm $e) ?_ | rewrite [← $e:term]); try (with_reducible rfl)))
  | `(tactic| rw [$e, $es,*]) => `(tactic| (rw [$e] <;> rw [$es,*]))
set_option bootstrap.genMatcherCode false
section
set_option maxRecDepth 10000
namespace Mine
open PySem PySem.W PyProof.Rows PySem.Calls PySem.Spec
inductive Res where
 | data
 | meth (f:Addr)
 | prop (f:Addr)
noncomputable abbrev Out (α:Type):=Option (α×ST×List Nat)
structure Tb where
 glob:List (Str×AV)
 res:Addr→Str→Option Res
 call:Value→List AV→List AO→Option (AV×List AO×List Nat)
 pat:List Addr
 hint:Nat→Nat→Option Bool:=fun ζ ζ=>none
 exO:Scope→Expr→ST→Out AV:=fun ζ ζ ζ=>none
 tsO:Scope→Expr→ST→Out Bool:=fun ζ ζ ζ=>none
 stO:Scope→Stmt→ST→Out AF:=fun ζ ζ ζ=>none
noncomputable def ob (p:Prop):Nat:=@ite Nat p (Classical.propDecidable p) 0 (sizeLine+1)
set_option tactic.hygienic true in
theorem DO {p:Prop}:ob p≤sizeLine↔p:=by
 unfold ob
 split
 ·rename_i h;exact ⟨fun ζ=>h,fun ζ=>Nat.zero_le _⟩
 ·rename_i h;exact ⟨fun q=>absurd q (Nat.not_succ_le_self _),fun q=>absurd q h⟩
noncomputable def Ll (T:Tb) (t:Expr) (c:Bool):Bool×List Nat:=match T.hint t.pos.line t.pos.col with
 | some b=>(b,[ob (c=b)])
 | none=>(c,[])
set_option tactic.hygienic true in
theorem decT_ok {T:Tb} {t:Expr} {c:Bool} (h:∀ n∈(Ll T t c).2,n≤sizeLine):(Ll T t c).1=c:=by
 unfold Ll at h ⊢
 split
 ·rename_i b hb
  rw [hb] at h
  exact (DO.mp (h _ (.head _))).symm
 ·rfl
noncomputable def BY {α:Type} (x:Str) (v:α):List (Str×α)→List (Str×α)
 | []=>[(x,v)]
 | (y,u)::r=>if y=x then (y,v)::r else (y,u)::BY x v r
noncomputable def inF (y x:Str):Bool:=!(Builtin.Str.occurrences x y 0 x.length 1).isEmpty
noncomputable def D6 (x:Str) (n:Nat):Str:=⟨(List.replicate n x.cps).foldl (·++·) #[]⟩
noncomputable def CE:AV→Option Int
 | .int i=>some i
 | _=>none
noncomputable def BU:AV→Option Str
 | .str x=>some x
 | _=>none
noncomputable def asTy:AV→Option String
 | .top u=>(match u with | .type n=>some n | _=>none)
 | _=>none
noncomputable def Ig:AV→Bool
 | .none=>true
 | _=>false
noncomputable def binI (a b:Int):Operator→Option (AV×List Nat)
 | .Add=>some (.int (a+b),[])
 | .Sub=>some (.int (a - b),[])
 | .FloorDiv=>if b≤0∨1000000<b then none else some (.int (a.fdiv b),[])
 | .Mod=>if b=0 then none else some (.int (a.fmod b),[])
 | .BitAnd=>some (.int (Builtin.bitAnd a b),[])
 | .Mult=>some (.int (a*b),[a.natAbs,b.natAbs])
 | .Pow=>if b<0 then none else some (.int (a ^ b.toNat),[a.natAbs,17*b.natAbs])
 | _=>none
noncomputable def binS (x y:Str):Operator→Option (AV×List Nat)
 | .Add=>some (.str (x++y),[x.length+y.length])
 | .Mod=>if x==⟨#[34,37,115,34]⟩ then some (.str (("\"":Str)++y++("\"":Str)),[20*(y.length+2)]) else none
 | _=>none
noncomputable def binX (x:Str) (n:Int):Operator→Option (AV×List Nat)
 | .Mult=>if n<0 then none else some (.str (D6 x n.toNat),[x.length*n.toNat,n.natAbs])
 | _=>none
noncomputable def binF (op:Operator) (a b:AV):Option (AV×List Nat):=match (CE b) with
 | some j=>(match (CE a) with
  | some i=>binI i j op
  | none=>(BU a).bind fun x=>binX x j op)
 | none=>(BU b).bind fun y=>(BU a).bind fun x=>binS x y op
noncomputable def isNone:AV→Option Bool
 | .none=>some true
 | .top u=>(match u with
  | .ref _=>some false
  | .type _=>some false
  | .builtin _=>some false
  | _=>none)
 | _=>some false
noncomputable def cmpI (a b:Int):CmpOp→Option Bool
 | .Eq=>some (a==b)
 | .NotEq=>some (a != b)
 | .Lt=>some (a<b)
 | .Gt=>some (a>b)
 | .GtE=>some (a≥b)
 | _=>none
noncomputable def cmpS (x y:Str):CmpOp→Option Bool
 | .Eq=>some (x==y)
 | .NotEq=>some (x != y)
 | .In=>some (inF x y)
 | .NotIn=>some (!inF x y)
 | _=>none
noncomputable def cmpN (a:AV):CmpOp→Option Bool
 | .Eq=>if (Ig a) then some true else (BU a).map fun ζ=>false
 | .Is=>isNone a
 | .IsNot=>(isNone a).map not
 | _=>none
noncomputable def cmpT (a b:String):CmpOp→Option Bool
 | .Is=>some (a==b)
 | .IsNot=>some (!(a==b))
 | _=>none
noncomputable def J9 (op:CmpOp) (a b:AV):Option AV:=(match (CE b) with
 | some j=>(CE a).bind fun i=>cmpI i j op
 | none=>match (BU b) with
  | some y=>(BU a).bind fun x=>cmpS x y op
  | none=>if (Ig b) then cmpN a op else (asTy b).bind fun u=>(asTy a).bind fun t=>cmpT t u op).map .bool
noncomputable def EV:AO→Option (List AV)
 | .list xs=>some xs
 | _=>none
noncomputable def grd {α:Type} (c:Bool) (m:Option α):Option α:=match c with
 | true=>m
 | false=>none
noncomputable def inS (i:Int):Bool:=decide (0≤i)&&decide (i<2 ^ 63)
noncomputable def Fb (objs:List AO) (a b:AV):Option AV:=(CE b).bind fun i=>match a with
 | .str x=>((seqIndex? i x.length).bind (x.cps[·]?)).bind fun c=>grd (!(decide (i < -(2 ^ 63:Int)) || decide (i≥2 ^ 63))) (some (.str ⟨#[c]⟩))
 | .tup xs=>grd (inS i) xs[i.toNat]?
 | .lst xs=>grd (inS i) xs[i.toNat]?
 | .own k=>(objs[k]?).bind fun o=>(EV o).bind fun xs=>grd (inS i) xs[i.toNat]?
 | _=>none
noncomputable def Cd (objs:List AO):AV→Option Bool
 | .none=>some false
 | .bool b=>some b
 | .int i=>some (i != 0)
 | .str s=>some (s.length != 0)
 | .lst xs=>some (!xs.isEmpty)
 | .mtch ..=>some true
 | .own i=>(objs[i]?).bind fun o=>(EV o).bind fun xs=>some (!xs.isEmpty)
 | _=>none
noncomputable def IK:Const→Option AV
 | .none=>some .none
 | .bool b=>some (.bool b)
 | .int i=>some (.int i)
 | .str s=>if s.length≤sizeLine then some (.str s) else none
 | _=>none
noncomputable def JP:AV→Option Nat
 | .own i=>some i
 | _=>none
noncomputable def Ii:AO→Option (Addr×Nat)
 | .inst C d=>some (C,d)
 | _=>none
noncomputable def Io:AO→Option (List (Str×AV))
 | .dict es=>some es
 | _=>none
noncomputable def Kl:AV→Bool
 | .top _=>true
 | _=>false
noncomputable def refI:AV→Option Addr
 | .top u=>(match u with | .ref a=>some a | _=>none)
 | _=>none
noncomputable def I6:AV→Option (Str×Addr×List Int)
 | .mtch x pa sp=>some (x,pa,sp)
 | _=>none
noncomputable def alt {α β:Type} (x:Option α) (f:α→Option β) (m:Option β):Option β:=match x with
 | some a=>f a
 | none=>m
noncomputable def bL (l:List (Str×String)) (name:Str):Option Value:=(l.lookup name).bind fun b=>some (.builtin b)
noncomputable def strMs:List (Str×String):=[("lstrip","str.lstrip"),("rstrip","str.rstrip"),("startswith","str.startswith"),("join","str.join"),("replace","str.replace")]
noncomputable def patMs:List (Str×String):=[("search","re.Pattern.search"),("fullmatch","re.Pattern.fullmatch"),("sub","re.Pattern.sub"),("subn","re.Pattern.subn")]
noncomputable def mtMs:List (Str×String):=[("group","re.Match.group"),("span","re.Match.span")]
noncomputable def ET (T:Tb) (objs:List AO) (name:Str) (a:AV):Option Value:=alt (BU a) (fun ζ=>bL strMs name) (alt (refI a) (fun r=>grd (T.pat.contains r) (bL patMs name)) (alt (I6 a) (fun ζ=>bL mtMs name)
 ((JP a).bind fun i=>(objs[i]?).bind fun ob=>alt (EV ob) (fun ζ=>grd (name=="append") (some (.builtin "list.append"))) ((Ii ob).bind fun c=>(objs[c.2]?).bind fun od=>(Io od).bind fun es=>(T.res c.1 name).bind fun r=>match r with
  | .meth f=>grd (es.lookup name).isNone (some (.ref f))
  | .data=>none
  | .prop _=>none))))
noncomputable def Iv (objs:List AO) (T:Tb) (name:Str) (a:AV):Option (AV ⊕ Addr):=(JP a).bind fun i=>(objs[i]?).bind fun ob=>(Ii ob).bind fun c=>(objs[c.2]?).bind fun od=>(Io od).bind fun es=>(T.res c.1 name).bind fun r=>match r with
 | .data=>(es.lookup name).bind fun v=>match Kl v with
  | true=>none
  | false=>some (.inl v)
 | .prop f=>some (.inr f)
 | .meth _=>none
noncomputable def Am:Expr→Bool
 | .Call (.Name _ _) [] [] _=>false
 | _=>true
noncomputable def CV:Expr→Bool
 | .ListComp .. | .SetComp .. | .DictComp ..=>false
 | _=>true
noncomputable def A4:Expr→Bool
 | .Starred ..=>false
 | _=>true
noncomputable def Ck:Expr→Bool
 | .Slice ..=>false
 | _=>true
noncomputable def Cr:Expr→Option Str
 | .Name x _=>some x
 | _=>none
noncomputable def Hw:AV→Str→Option Str
 | .mtch x _ _,name=>if name=="string" then some x else none
 | _,_=>none
noncomputable def E5:Expr→Option (Option Expr×Option Expr)
 | .Slice lo hi none _=>some (lo,hi)
 | _=>none
noncomputable def DS:Expr→Bool
 | .Call ..=>true
 | _=>false
noncomputable def B9:List Expr→Option (List Str)
 | []=>some []
 | e::r=>(Cr e).bind fun x=>(B9 r).map (x::·)
section
variable {α β:Type}
noncomputable def thn (m:Out α) (f:α→ST→Out β):Out β:=match m with
 | none=>none
 | some (a,st,o)=>(match f a st with
  | none=>none
  | some (b,st',o')=>some (b,st',o++o'))
noncomputable def lft (x:Option α) (st:ST):Out α:=match x with
 | none=>none
 | some a=>some (a,st,[])
noncomputable def owd (x:Option (α×List Nat)) (st:ST):Out α:=match x with
 | none=>none
 | some (a,o)=>some (a,st,o)
noncomputable def cal (x:Option (AV×List AO×List Nat)) (st:ST):Out AV:=match x with
 | none=>none
 | some (u,objs,o)=>some (u,{st with objs},o)
noncomputable def cho (c:Bool) (m m':Option α):Option α:=match c with
 | true=>m
 | false=>m'
noncomputable def one:List α→Option α
 | []=>none
 | x::r=>(match r with
  | []=>some x
  | _::_=>none)
end
noncomputable def isNot:UnaryOp→Bool
 | .Not=>true
 | _=>false
noncomputable def isAdd:Operator→Bool
 | .Add=>true
 | _=>false
noncomputable def Gj:BoolOp→Bool→Bool
 | .And,c=>!c
 | .Or,c=>c
noncomputable def topV:AV→Option Value
 | .top f=>some f
 | _=>none
noncomputable def MD:AV→Option Bool
 | .bool b=>some b
 | _=>none
noncomputable def asTup:AV→Option (List AV)
 | .tup xs=>some xs
 | _=>none
noncomputable def Hv:AF→Bool
 | .next=>true
 | _=>false
noncomputable def inlStr:AV ⊕ Addr→Option Str
 | .inl u=>BU u
 | .inr _=>none
noncomputable def decA (T:Tb) (e:Expr) (c:Bool) (st:ST):Out Bool:=some ((Ll T e c).1,st,(Ll T e c).2)
section
variable (T:Tb) (sc:Scope) (fE:Expr→ST→Out AV) (fB:BoolOp→List Expr→ST→Out AV) (fT:Expr→ST→Out Bool) (fA:BoolOp→List Expr→ST→Out Bool) (fL:List Expr→ST→Out (List AV))
noncomputable def KD:Option Expr→ST→Out (Option Int)
 | none,st=>some (none,st,[])
 | some e,st=>thn (fE e st) fun a st=>(CE a).bind fun i=>some (some i,st,[])
noncomputable def nameA (x:Str) (st:ST):Out AV:=grd (!(x=="__debug__")) (cho (sc.names.lookup x==some .local) (lft (st.loc.lookup x) st) (grd (sc.names.lookup x==some .globalImplicit) (lft (T.glob.lookup x) st)))
noncomputable def binA (op:Operator) (l r:Expr) (st:ST):Out AV:=thn (fE l st) fun a st=>thn (fE r st) fun b st=>owd (binF op a b) st
noncomputable def cmpA (l:Expr) (ops:List CmpOp) (rs:List Expr) (st:ST):Out AV:=(one ops).bind fun op=>(one rs).bind fun r=>grd (!behindInMarks op r) (thn (fE l st) fun a st=>thn (fE r st) fun b st=>lft (J9 op a b) st)
noncomputable def notA (op:UnaryOp) (x:Expr) (st:ST):Out AV:=grd (isNot op) (thn (fE x st) fun a st=>(Cd st.objs a).bind fun b=>some (.bool (!b),st,[]))
noncomputable def ifA (t a b:Expr) (st:ST):Out AV:=thn (fT t st) fun c st=>cho c (fE a st) (fE b st)
noncomputable def attrA (v:Expr) (name:Str) (st:ST):Out AV:=grd (Am v) (thn (fE v st) fun a st=>match Hw a name with
 | some x=>some (.str x,st,[x.length])
 | none=>(Iv st.objs T name a).bind fun r=>match r with
  | .inl u=>some (u,st,[])
  | .inr f=>cal (T.call (.ref f) [a] st.objs) st)
noncomputable def subA (v i:Expr) (st:ST):Out AV:=match E5 i with
 | some p=>thn (fE v st) fun a st=>(BU a).bind fun x=>thn (KD fE p.1 st) fun i st=>thn (KD fE p.2 st) fun j st=>some (.str (Txt.slice x i j),st,[])
 | none=>grd (Ck i) (thn (fE v st) fun a st=>thn (fE i st) fun b st=>lft (Fb st.objs a b) st)
noncomputable def tupA (es:List Expr) (st:ST):Out AV:=grd (decide (es.length≤100)) (thn (fL es st) fun vs st=>some (.tup vs,st,[]))
noncomputable def listA (es:List Expr) (st:ST):Out AV:=grd (decide (es.length≤100)) (match es with
 | []=>some (.own st.objs.length,{st with objs:=st.objs++[.list []]},[])
 | _::_=>thn (fL es st) fun vs st=>some (.lst vs,st,[]))
noncomputable def methA (ov:Expr) (name:Str) (apos:Pos) (args:List Expr) (pos:Pos) (st:ST):Out AV:=grd (Am ov&&(apos.endLine==pos.line)) (thn (fE ov st) fun a st=>(ET T st.objs name a).bind fun fv=>thn (fL args st) fun vs st=>cal (T.call fv (a::vs) st.objs) st)
noncomputable def Ln (x:Str) (args:List Expr) (st:ST):Out AV:=grd (!(x=="__debug__")) (grd (sc.names.lookup x==some .globalImplicit) ((T.glob.lookup x).bind fun v=>(topV v).bind fun fv=>thn (fL args st) fun vs st=>cal (T.call fv vs st.objs) st))
noncomputable def callA (f:Expr) (args:List Expr) (pos:Pos) (st:ST):Out AV:=grd (decide (args.length≤20)&&args.all A4) (match f with
 | .Attribute ov name apos=>methA T fE fL ov name apos args pos st
 | .Name x _=>Ln T sc fL x args st
 | _=>none)
noncomputable def L6 (e:Expr) (st:ST):Out AV:=match e with
 | .Constant c _ _=>lft (IK c) st
 | .Name x _=>nameA T sc x st
 | .BinOp l op r _=>binA fE op l r st
 | .Compare l ops rs _=>cmpA fE l ops rs st
 | .UnaryOp op x _=>notA fE op x st
 | .BoolOp op xs _=>fB op xs st
 | .IfExp t a b _=>ifA fE fT t a b st
 | .Attribute v name _=>attrA T fE v name st
 | .Subscript v i _=>subA fE v i st
 | .Tuple es _ _=>tupA fL es st
 | .List es _=>listA fL es st
 | .Call f args ks pos=>(match ks with
  | []=>callA T sc fE fL f args pos st
  | _::_=>none)
 | _=>none
noncomputable def Lx (op:BoolOp) (fR:List Expr→ST→Out AV) (xs:List Expr) (st:ST):Out AV:=match xs with
 | []=>none
 | x::r=>(match r with
  | []=>fE x st
  | y::r=>thn (fE x st) fun a st=>(Cd st.objs a).bind fun b=>thn (decA T x b st) fun c st=>cho (Gj op c) (some (a,st,[])) (fR (y::r) st))
noncomputable def Jk (e:Expr) (st:ST):Out Bool:=thn (fE e st) fun a st=>(Cd st.objs a).bind fun b=>decA T e b st
noncomputable def Jm (e:Expr) (st:ST):Out Bool:=match e with
 | .UnaryOp op x _=>grd (isNot op) (thn (fT x st) fun b st=>some (!b,st,[]))
 | .BoolOp op xs _=>fA op xs st
 | .Compare l ops rs p=>(one ops).bind fun op=>(one rs).bind fun r=>grd (!behindInMarks op r) (thn (fE l st) fun a st=>thn (fE r st) fun b st=>(J9 op a b).bind fun v=>(MD v).bind fun c=>decA T (.Compare l ops rs p) c st)
 | .Name x p=>Jk T fE (.Name x p) st
 | .Attribute x y p=>Jk T fE (.Attribute x y p) st
 | .Call x y z p=>Jk T fE (.Call x y z p) st
 | .Constant x y p=>Jk T fE (.Constant x y p) st
 | _=>none
noncomputable def btArm (op:BoolOp) (fR:List Expr→ST→Out Bool) (xs:List Expr) (st:ST):Out Bool:=match xs with
 | []=>some (op==.And,st,[])
 | x::r=>thn (fT x st) fun b st=>cho (Gj op b) (some (b,st,[])) (fR r st)
noncomputable def L4 (fR:List Expr→ST→Out (List AV)) (es:List Expr) (st:ST):Out (List AV):=match es with
 | []=>some ([],st,[])
 | e::r=>grd (A4 e) (thn (fE e st) fun v st=>thn (fR r st) fun vs st=>some (v::vs,st,[]))
end
mutual
noncomputable def evE (T:Tb) (sc:Scope):Nat→Expr→ST→Out AV
 | 0,_,_=>none
 | n+1,e,st=>match T.exO sc e st with
  | some r=>some r
  | none=>L6 T sc (evE T sc n) (bopE T sc n) (tsE T sc n) (evL T sc n) e st
noncomputable def bopE (T:Tb) (sc:Scope):Nat→BoolOp→List Expr→ST→Out AV
 | 0,_,_,_=>none
 | n+1,op,xs,st=>Lx T (evE T sc n) op (bopE T sc n op) xs st
noncomputable def tsE (T:Tb) (sc:Scope):Nat→Expr→ST→Out Bool
 | 0,_,_=>none
 | n+1,e,st=>match T.tsO sc e st with
  | some r=>some r
  | none=>Jm T (evE T sc n) (tsE T sc n) (btE T sc n) e st
noncomputable def btE (T:Tb) (sc:Scope):Nat→BoolOp→List Expr→ST→Out Bool
 | 0,_,_,_=>none
 | n+1,op,xs,st=>btArm (tsE T sc n) op (btE T sc n op) xs st
noncomputable def evL (T:Tb) (sc:Scope):Nat→List Expr→ST→Out (List AV)
 | 0,_,_=>none
 | n+1,es,st=>L4 (evE T sc n) (evL T sc n) es st
end
noncomputable def Dz:AV→Bool
 | .none | .bool _ | .int _ | .str _=>true
 | _=>false
noncomputable def isDat:Res→Bool
 | .data=>true
 | _=>false
noncomputable def Jw (objs:List AO) (T:Tb) (name:Str) (v b:AV):Option (List AO):=(JP b).bind fun i=>(objs[i]?).bind fun o=>(Ii o).bind fun c=>(objs[c.2]?).bind fun od=>(Io od).bind fun es=>(T.res c.1 name).bind fun r =>
 grd (isDat r&&decide (es.length≤100)) (some (objs.set c.2 (.dict (BY name v es))))
noncomputable def Dp:List (Str×AV)→List Str→List AV→Option (List (Str×AV))
 | l,[],[]=>some l
 | l,x::xs,v::vs=>Dp (BY x v l) xs vs
 | _,_,_=>none
section
variable (T:Tb) (sc:Scope) (fE:Expr→ST→Out AV) (fT:Expr→ST→Out Bool) (fS:List Stmt→ST→Out AF)
noncomputable def assA (t v:Expr) (st:ST):Out AF:=match t with
 | .Name x _=>grd (CV v&&(sc.names.lookup x==some .local)) (thn (fE v st) fun u st=>some (.next,{st with loc:=BY x u st.loc},[]))
 | .Attribute ob a _=>grd (CV v) (thn (fE v st) fun u st=>thn (fE ob st) fun b st=>(Jw st.objs T a u b).bind fun objs=>some (.next,{st with objs},[]))
 | .Tuple es _ _=>grd (DS v) (thn (fE v st) fun u st=>(asTup u).bind fun vs=>(B9 es).bind fun xs=>grd ((xs.all fun x=>sc.names.lookup x==some .local)&&xs.length==vs.length) ((Dp st.loc xs vs).bind fun loc=>some (.next,{st with loc},[])))
 | _=>none
noncomputable def augA (t v:Expr) (st:ST):Out AF:=match t with
 | .Name x _=>grd (sc.names.lookup x==some .local) ((st.loc.lookup x).bind fun a=>thn (fE v st) fun b st=>(CE a).bind fun i=>(CE b).bind fun j=>some (.next,{st with loc:=BY x (.int (i+j)) st.loc},[]))
 | .Attribute ob a _=>thn (fE ob st) fun b st=>(Iv st.objs T a b).bind fun r=>(inlStr r).bind fun x=>thn (fE v st) fun c st=>(BU c).bind fun y=>(Jw st.objs T a (.str (x++y)) b).bind fun objs=>some (.next,{st with objs},[x.length+y.length])
 | _=>none
noncomputable def LZ (s:Stmt) (st:ST):Out AF:=match s with
 | .Expr e _=>grd (CV e) (thn (fE e st) fun v st=>grd (Dz v) (some (.next,st,[])))
 | .Assign ts v _=>(one ts).bind fun t=>assA T sc fE t v st
 | .AugAssign t op v _=>grd (isAdd op) (augA T sc fE t v st)
 | .If t b e _=>thn (fT t st) fun c st=>cho c (fS b st) (fS e st)
 | .Return oe _=>(match oe with
  | some e=>thn (fE e st) fun v st=>some (.ret v,st,[])
  | none=>some (.ret .none,st,[]))
 | .Assert t _ _=>thn (fT t st) fun c st=>grd c (some (.next,st,[]))
 | .Pass _=>some (.next,st,[])
 | .Break _=>some (.brk,st,[])
 | .Continue _=>some (.cont,st,[])
 | _=>none
noncomputable def LV (f1:Stmt→ST→Out AF) (b:List Stmt) (st:ST):Out AF:=match b with
 | []=>some (.next,st,[])
 | s::r=>thn (f1 s st) fun f st=>cho (Hv f) (fS r st) (some (f,st,[]))
end
mutual
noncomputable def ex1 (T:Tb) (sc:Scope):Nat→Stmt→ST→Out AF
 | 0,_,_=>none
 | n+1,s,st=>match T.stO sc s st with
  | some r=>some r
  | none=>LZ T sc (evE T sc n) (tsE T sc n) (exS T sc n) s st
noncomputable def exS (T:Tb) (sc:Scope):Nat→List Stmt→ST→Out AF
 | 0,_,_=>none
 | n+1,b,st=>LV (exS T sc n) (ex1 T sc n) b st
end
section
variable {α β:Type} {Pr:Prop}
theorem AE {x:Option α} {f:α→Option β} {r:β} (h:x.bind f=some r) (k:∀ a,x=some a→f a=some r→Pr):Pr:=by
 induction x using Option.casesOn with
 | none=>exact no h
 | some a=>exact k _ rfl h
theorem A1 {c:Bool} {m:Option α} {r:α} (h:grd c m=some r) (k:c=true→m=some r→Pr):Pr:=by
 induction c using Bool.casesOn with
 | false=>exact no h
 | true=>exact k rfl h
theorem C9 {x:Option α} {f:α→Option β} {m:Option β} {r:β} (h:alt x f m=some r) (k:∀ a,x=some a→f a=some r→Pr) (k':m=some r→Pr):Pr:=by
 induction x using Option.casesOn with
 | none=>exact k' h
 | some a=>exact k _ rfl h
theorem FL {a n:Str} {b:String} {l:List (Str×String)} {f:Value} {P:Str→Value→Prop} (h:bL ((a,b)::l) n=some f) (k:P a (.builtin b)) (k':bL l n=some f→P n f):P n f:=by
 unfold bL at h
 rw [List.lookup_cons] at h
 by_cases e:n=a
 ·subst e
  rw [beq_self_eq_true] at h
  cases h;exact k
 ·rw [beq_false_of_ne e] at h
  exact k' h
end
theorem D9 {e:Expr} {x:Str} (h:Cr e=some x):∃ p,e=.Name x p:=by
 induction e using Expr.casesOn <;> first | exact no h | exact Option.some.inj h▸⟨_,rfl⟩
theorem F7 {e:Expr} {es:List Expr} {xs:List Str} (h:B9 (e::es)=some xs):∃ x p ys,e=.Name x p∧B9 es=some ys∧xs=x::ys:=by
 have h':((Cr e).bind fun x=>(B9 es).map (x::·))=some xs:=h
 clear h
 refine AE h' fun x hx h2=>?_
 obtain ⟨p,rfl⟩:=D9 hx
 cases hr:B9 es with
 | none=>rw [hr] at h2;exact no h2
 | some ys=>rw [hr] at h2;exact ⟨x,p,ys,rfl,rfl,(Option.some.inj h2).symm⟩
theorem Bb {a:AV} {x:Str} (h:BU a=some x):a=.str x:=by induction a using AV.casesOn <;> first | exact no h | exact Option.some.inj h▸rfl
theorem ED {a:AV} {i:Nat} (h:JP a=some i):a=.own i:=by induction a using AV.casesOn <;> first | exact no h | exact Option.some.inj h▸rfl
theorem GR {a:AO} {c:Addr×Nat} (h:Ii a=some c):a=.inst c.1 c.2:=by induction a using AO.casesOn <;> first | exact no h | exact Option.some.inj h▸rfl
theorem G8 {a:AO} {es:List (Str×AV)} (h:Io a=some es):a=.dict es:=by induction a using AO.casesOn <;> first | exact no h | exact Option.some.inj h▸rfl
theorem Cz {a:AO} {xs:List AV} (h:EV a=some xs):a=.list xs:=by induction a using AO.casesOn <;> first | exact no h | exact Option.some.inj h▸rfl
theorem GL {a:AV} {c:Str×Addr×List Int} (h:I6 a=some c):a=.mtch c.1 c.2.1 c.2.2:=by induction a using AV.casesOn <;> first | exact no h | exact Option.some.inj h▸rfl
set_option tactic.hygienic true in
theorem refI_e {a:AV} {r:Addr} (h:refI a=some r):a=.top (.ref r):=by
 induction a using AV.casesOn <;> first | exact no h | skip
 rename_i u
 induction u using Value.casesOn <;> first | exact no h | exact Option.some.inj h▸rfl
theorem Jn {a:AV} {f:Value} (h:topV a=some f):a=.top f:=by induction a using AV.casesOn <;> first | exact no h | exact Option.some.inj h▸rfl
theorem CD {a:AV} {i:Int} (h:CE a=some i):a=.int i:=by induction a using AV.casesOn <;> first | exact no h | exact Option.some.inj h▸rfl
theorem MC {a:AV} {b:Bool} (h:MD a=some b):a=.bool b:=by induction a using AV.casesOn <;> first | exact no h | exact Option.some.inj h▸rfl
theorem asTup_e {a:AV} {xs:List AV} (h:asTup a=some xs):a=.tup xs:=by induction a using AV.casesOn <;> first | exact no h | exact Option.some.inj h▸rfl
theorem isDat_e {r:Res} (h:isDat r=true):r=.data:=by cases r <;> first | rfl | exact ff h
end Mine
end
section
set_option maxRecDepth 100000
namespace Mine
open PySem PySem.W PyProof.Rows PySem.Calls PySem.Spec
set_option maxHeartbeats 2000000 in
theorem JO {t u:Tok}:∀ z:Str,z.length≤1000000→Meets (Builtin.«str.__mod__» ⟨[.str ⟨#[34,37,115,34]⟩ t,.str z u],[]⟩) (fun ζ R s=>∀ t' k,R (.ok (.ret (.str (("\"":Str)++z++("\"":Str)) t'))) {s with toks:=k}):=by
 kpc_run_s
end Mine
end
section
set_option maxRecDepth 10000
namespace Mine
open PySem PySem.W PyProof.Rows PySem.Calls PySem.Spec
variable [T₀:AY]
section
variable {W:Wd} {Z:AK} {as:List Addr} {A:Around} {E:Value→Shared→Prop} {s:Shared}
theorem KA {x:Str}:D6 x 1=x:=by
 refine (?_:(⟨#[]++x.cps⟩:Str)=x)
 rw [Array.empty_append]
theorem Ho {x:Str} (h:x.length=0):∀ n,D6 x n=x:=by
 have e:x.cps=#[]:=Array.eq_empty_of_size_eq_zero h
 intro n
 have:∀ n,(List.replicate n x.cps).foldl (·++·) #[]=#[]:=by
  intro n
  induction n with
  | zero=>rfl
  | succ n ih=>rw [List.replicate_succ,List.foldl_cons,e,Array.append_empty];rw [e] at ih;exact ih
 obtain ⟨c⟩:=x
 refine (?_:(⟨_⟩:Str)=_)
 rw [this]
 exact congrArg Str.mk e.symm
theorem KB {x:Str}:∀ n,(D6 x n).length=x.length*n:=by
 have:∀ n (acc:Array Nat),((List.replicate n x.cps).foldl (·++·) acc).size=acc.size+x.length*n:=by
  intro n
  induction n with
  | zero=>intro acc;simp
  | succ n ih=>intro acc;rw [List.replicate_succ,List.foldl_cons,ih,Array.size_append,Nat.mul_succ];refine (?_:_+x.length+_=_);simp +arith only
 intro n
 refine (?_:((List.replicate n x.cps).foldl (·++·) #[]).size=_)
 rw [this];simp
theorem Dq {a:AV} {i:Int} {x:Value} (h:CE a=some i) (ha:Is Z as a x):∃ t,x=.int i t:=by
 induction ha using Is.casesOn <;> first | exact no h | (cases h;exact ⟨_,rfl⟩)
theorem Bs {a:AV} {y:Str} {x:Value} (h:BU a=some y) (ha:Is Z as a x):∃ t,x=.str y t:=by
 induction ha using Is.casesOn <;> first | exact no h | (cases h;exact ⟨_,rfl⟩)
theorem Iw {a:AV} {n:String} {x:Value} (h:asTy a=some n) (ha:Is Z as a x):x=.type n:=by
 induction ha using Is.casesOn with
 | top v=>induction v using Value.casesOn <;> first | exact no h | (cases h;rfl)
 | _=>exact no h
theorem HN {a:AV} {x:Value} (h:Ig a=true) (ha:Is Z as a x):x=.none:=by
 induction ha using Is.casesOn <;> first | rfl | exact ff h
set_option tactic.hygienic true in
theorem binI_ok {p:Program} {w:World} {op:Operator} {a b:Int} {t t':Tok} {v:AV} {o:List Nat} {Q:Value→Shared→Prop} (h:binI a b op=some (v,o)) (ho:∀ n∈o,n≤sizeLine)
  (k:∀ u tk,Is Z as v u→Q u {s with toks:=tk}):∀ {c:Sem Value},c=binaryOp op (.int a t) (.int b t')→wpAny (model p w) A c Q E s:=by
 rintro _ rfl
 unfold binI at h
 split at h
 ·cases h;exact PyProof.Rows.add_int (k _ _ (.int _ _))
 ·cases h;exact PyProof.Rows.sub_int (k _ _ (.int _ _))
 ·split at h
  ·exact no h
  ·rename_i q;cases h;exact PyProof.Rows.floordiv_int (fun e=>q (.inl (Int.le_of_eq e))) (k _ _ (.int _ _)) (.inl (PyProof.noPylong_small (Nat.lt_of_le_of_lt (nab (k:=1000000) (Int.le_of_not_le fun e=>q (.inl e)) (Int.not_lt.mp fun e=>q (.inr e))) (by decide))))
 ·split at h
  ·exact no h
  ·rename_i q;cases h;exact PyProof.Rows.mod_int q (k _ _ (.int _ _))
 ·cases h;exact PyProof.Rows.and_int (k _ _ (.int _ _))
 ·cases h
  have q:a.natAbs≤sizeLine:=ho _ (.head _)
  refine P.mul_int (k _ _ (.int _ _)) (IntMulOk.of_left ?_)
  unfold Builtin.Int.intBits
  rw [sizeLine_eq] at q
  split
  ·decide
  ·have:a.natAbs.log2<25:=(Nat.log2_lt (by rename_i z;intro e;exact z (by simpa using e))).mpr (Nat.lt_of_le_of_lt q (by decide))
   exact lb (by assumption) rfl
 ·split at h
  ·exact no h
  ·rename_i hb0
   cases h
   have q1:a.natAbs≤sizeLine:=ho _ (.head _)
   have q2:17*b.natAbs≤sizeLine:=ho _ (.tail _ (.head _))
   rw [sizeLine_eq] at q1 q2
   exact pow_int_small (Int.not_lt.mp hb0) (iab (k:=1000000) (Nat.le_of_mul_le_mul_left (Nat.le_trans q2 (by decide:_≤17*1000000)) (by decide))) (Nat.lt_of_le_of_lt q1 (by decide)) (k _ _ (.int _ _))
 ·exact no h
set_option tactic.hygienic true in
theorem binX_ok {p:Program} {w:World} {op:Operator} {x:Str} {n:Int} {t t':Tok} {v:AV} {o:List Nat} {Q:Value→Shared→Prop} (h:binX x n op=some (v,o)) (ho:∀ n∈o,n≤sizeLine)
  (k:∀ u tk,Is Z as v u→Q u {s with toks:=tk}):∀ {c:Sem Value},c=binaryOp op (.str x t) (.int n t')→wpAny (model p w) A c Q E s:=by
 rintro _ rfl
 unfold binX at h
 split at h
 ·split at h
  ·exact no h
  ·rename_i hn0
   cases h
   have q1:x.length*n.toNat≤sizeLine:=ho _ (.head _)
   have q2:n.natAbs≤sizeLine:=ho _ (.tail _ (.head _))
   rw [sizeLine_eq] at q1 q2
   refine P.mul_str (by
    have h1:¬ n < -(2 ^ 63:Int):=fun e=>hn0 (Int.lt_trans e (by decide))
    have h2:¬ n≥2 ^ 63:=Int.not_le.mpr (Int.lt_of_le_of_lt (iab q2) (by decide))
    rw [decide_eq_false h1,decide_eq_false h2];rfl) (fun hh ζ=>?_) (fun ζ ζ=>?_) ?_
   ·have hx:x.length≤16777216:=by
     have:1≤n.toNat:=Int.toNat_le_toNat (Int.not_lt.mp hh)
     exact Nat.le_trans (Nat.le_mul_of_pos_right _ this) q1
    have:(2 ^ 63 - 1:Int) / n≥16777216:=by
     refine Int.le_ediv_of_mul_le (Int.lt_of_lt_of_le (by decide) (Int.not_lt.mp hh)) ?_
     have:(16777216:Int)*n≤16777216*16777216:=Int.mul_le_mul_of_nonneg_left (iab q2) (by decide)
     exact Int.le_trans this (by decide)
    exact Int.not_lt.mpr (Int.le_trans (Int.ofNat_le.mpr hx) this)
   ·unfold PySem.Builtin.Str.tooLong
    rw [decide_eq_false_iff_not,sizeLine_eq];exact (Nat.not_lt_of_le q1)
   ·have hl:(D6 x n.toNat).length≤sizeLine:=by rw [KB,sizeLine_eq];exact q1
    split
    ·have e:n.toNat=0:=Int.toNat_of_nonpos (Int.lt_add_one_iff.mp ‹n<1›)
     refine ⟨by decide,k _ _ ?_⟩
     have:D6 x n.toNat=Str.empty:=by rw [e];rfl
     rw [this] at hl ⊢
     exact .str _ hl
    ·split
     ·rename_i hz
      refine k _ s.toks ?_
      have:D6 x n.toNat=x:=by
       rcases Bool.or_eq_true_iff.mp hz with z | z
       ·rw [show n.toNat=1 from congrArg Int.toNat (beq_iff_eq.mp z)];exact KA
       ·exact Ho (beq_iff_eq.mp z) _
      rw [this] at hl ⊢
      exact .str _ hl
     ·exact ⟨hl,k _ _ (.str _ hl)⟩
 ·exact no h
set_option tactic.hygienic true in
theorem binS_ok {p:Program} {w:World} {op:Operator} {x y:Str} {t t':Tok} {v:AV} {o:List Nat} {Q:Value→Shared→Prop} (h:binS x y op=some (v,o)) (ho:∀ n∈o,n≤sizeLine)
  (k:∀ u tk,Is Z as v u→Q u {s with toks:=tk}):∀ {c:Sem Value},c=binaryOp op (.str x t) (.str y t')→wpAny (model p w) A c Q E s:=by
 rintro _ rfl
 unfold binS at h
 split at h
 ·cases h
  have q:x.length+y.length≤sizeLine:=ho _ (.head _)
  exact PyProof.Rows.add_str (fun t' tk=>k _ _ (.str _ (by rw [strLen_append];exact q))) q
 ·split at h
  ·rename_i hf
   obtain rfl:=beq_iff_eq.mp hf
   cases h
   have q:20*(y.length+2)≤sizeLine:=ho _ (.head _)
   rw [sizeLine_eq] at q
   refine KPc.mod_str (T:=fun z=>("\"":Str)++z++("\"":Str)) rfl (Nat.le_of_add_right_le (Nat.le_of_mul_le_mul_left (lb q rfl:_≤20*1000000) (by decide))) JO fun t' tk=>k _ _ (.str _ ?_)
   rw [strLen_append,strLen_append,sizeLine_eq]
   refine (?_:1+y.length+1≤_)
   exact lin (by assumption) (by simp +arith only)
  ·exact no h
 ·exact no h
set_option tactic.hygienic true in
theorem bin_ok {op:Operator} {a b v:AV} {o:List Nat} {x y:Value} {Q:Value→Shared→Prop} (zn:Zn W Z s.heap) (h:binF op a b=some (v,o)) (ho:∀ n∈o,n≤sizeLine) (ha:Is Z as a x) (hb:Is Z as b y)
  (k:∀ u tk,Is Z as v u→Q u {s with toks:=tk}):wpAny W.M A (binaryOp op x y) Q E s:=by
 unfold binF at h
 split at h
 ·rename_i j hj
  obtain ⟨t',rfl⟩:=Dq hj hb
  split at h
  ·rename_i i hi
   obtain ⟨t,rfl⟩:=Dq hi ha
   exact binI_ok h ho k rfl
  ·refine AG (Option.bind_eq_some_iff.mp h) fun x hx h=>?_
   obtain ⟨t,rfl⟩:=Bs hx ha
   exact binX_ok h ho k rfl
 ·refine AG (Option.bind_eq_some_iff.mp h) fun y hy h=>?_
  refine AG (Option.bind_eq_some_iff.mp h) fun z hz h=>?_
  obtain ⟨t,rfl⟩:=Bs hz ha
  obtain ⟨t',rfl⟩:=Bs hy hb
  exact binS_ok h ho k rfl
theorem Fc {a:AV} {b:Bool} {x:Value} (h:isNone a=some b) (ha:Is Z as a x):(x==Value.none)=b:=by
 induction ha using Is.casesOn with
 | top v=>induction v using Value.casesOn <;> first | exact no h | (cases h;rfl)
 | _=>cases h;rfl
theorem Kj {p:Program} {w:World} {a b:String} {Q:Value→Shared→Prop} (h:Q (.bool (a==b)) s):wpAny (model p w) A (compareOp .Is (.type a) (.type b)) Q E s:=by
 refine wpAny_bind (wpAny_pure (wpAny_pure ?_))
 have e:(Value.type a==Value.type b)=(a==b):=by rw [Bool.eq_iff_iff];simp
 rw [e]
 exact h
theorem HM {p:Program} {w:World} {a b:String} {Q:Value→Shared→Prop} (h:Q (.bool (!(a==b))) s):wpAny (model p w) A (compareOp .IsNot (.type a) (.type b)) Q E s:=by
 refine wpAny_bind (wpAny_pure (wpAny_pure ?_))
 have e:(Value.type a==Value.type b)=(a==b):=by rw [Bool.eq_iff_iff];simp
 rw [e]
 exact h
theorem cmpI_ok {p:Program} {w:World} {op:CmpOp} {a b:Int} {t t':Tok} {v:Bool} {Q:Value→Shared→Prop} (h:cmpI a b op=some v) (k:Q (.bool v) s):∀ {c:Sem Value},c=compareOp op (.int a t) (.int b t')→wpAny (model p w) A c Q E s:=by
 rintro _ rfl
 induction op using CmpOp.casesOn <;> first | exact no h | cases h
 ·exact PyProof.Rows.eq_int k
 ·exact PyProof.Rows.ne_int k
 ·exact PyProof.Rows.lt_int k
 ·exact PyProof.Rows.gt_int k
 ·exact PyProof.Rows.ge_int k
theorem cmpS_ok {p:Program} {w:World} {op:CmpOp} {x y:Str} {t t':Tok} {v:Bool} {Q:Value→Shared→Prop} (h:cmpS x y op=some v) (k:∀ tk,Q (.bool v) {s with toks:=tk}):∀ {c:Sem Value},c=compareOp op (.str x t) (.str y t')→wpAny (model p w) A c Q E s:=by
 rintro _ rfl
 induction op using CmpOp.casesOn <;> first | exact no h | cases h
 ·exact PyProof.Rows.eq_str (k s.toks)
 ·exact PyProof.Rows.ne_str (k s.toks)
 ·exact PyProof.Rows.in_str (k s.toks)
 ·exact PyProof.Rows.notIn_str (k s.toks)
set_option tactic.hygienic true in
theorem cmpN_ok {p:Program} {w:World} {op:CmpOp} {a:AV} {x:Value} {v:Bool} {Q:Value→Shared→Prop} (h:cmpN a op=some v) (ha:Is Z as a x) (k:Q (.bool v) s):∀ {c:Sem Value},c=compareOp op x .none→wpAny (model p w) A c Q E s:=by
 rintro _ rfl
 induction op using CmpOp.casesOn <;> first | exact no h | skip
 ·change (if Ig a then some true else (BU a).map fun ζ=>false)=some v at h
  split at h
  ·rename_i hn
   cases HN hn ha
   cases h
   exact PySem.EqNone.eq_none_none k
  ·refine AG (Option.map_eq_some_iff.mp h) fun y hy r2_=>?_;subst r2_
   obtain ⟨t,rfl⟩:=Bs hy ha
   exact PySem.EqNone.eq_str_none k
 ·exact is_none_gen (by rw [Fc h ha];exact k)
 ·refine AG (Option.map_eq_some_iff.mp h) fun c hc r2_=>?_;subst r2_
  exact isnot_none_gen (by rw [Fc hc ha];exact k)
theorem cmpT_ok {p:Program} {w:World} {op:CmpOp} {a b:String} {v:Bool} {Q:Value→Shared→Prop} (h:cmpT a b op=some v) (k:Q (.bool v) s):∀ {c:Sem Value},c=compareOp op (.type a) (.type b)→wpAny (model p w) A c Q E s:=by
 rintro _ rfl
 induction op using CmpOp.casesOn <;> first | exact no h | cases h
 ·exact Kj k
 ·exact HM k
set_option tactic.hygienic true in
theorem Lo {op:CmpOp} {a b v:AV} {x y:Value} {Q:Value→Shared→Prop} (h:J9 op a b=some v) (ha:Is Z as a x) (hb:Is Z as b y)
  (k:∀ u tk,Is Z as v u→Q u {s with toks:=tk}):wpAny W.M A (compareOp op x y) Q E s:=by
 unfold J9 at h
 have h0:=Option.map_eq_some_iff.mp h
 clear h
 refine AG h0 fun c h r2_=>?_;subst r2_
 have k':∀ tk,Q (.bool c) {s with toks:=tk}:=fun tk=>k _ tk (.bool _)
 split at h
 ·rename_i j hj
  obtain ⟨t',rfl⟩:=Dq hj hb
  refine AG (Option.bind_eq_some_iff.mp h) fun i hi h=>?_
  obtain ⟨t,rfl⟩:=Dq hi ha
  exact cmpI_ok h (k' s.toks) rfl
 ·split at h
  ·rename_i y hy
   obtain ⟨t',rfl⟩:=Bs hy hb
   refine AG (Option.bind_eq_some_iff.mp h) fun x hx h=>?_
   obtain ⟨t,rfl⟩:=Bs hx ha
   exact cmpS_ok h k' rfl
  ·split at h
   ·rename_i hn
    cases HN hn hb
    exact cmpN_ok h ha (k' s.toks) rfl
   ·refine AG (Option.bind_eq_some_iff.mp h) fun u hu h=>?_
    refine AG (Option.bind_eq_some_iff.mp h) fun w hw h=>?_
    cases Iw hu hb
    cases Iw hw ha
    exact cmpT_ok h (k' s.toks) rfl
theorem BI {h:Heap} {a:Addr} {vs:List Value} {n:Nat} (e:h.get? a=some (Af vs n)):h.IsList a vs.toArray:=⟨_,e,rfl,n,rfl⟩
theorem GI:typeLookup (.type "re.Match") "__bool__"=pure none:=by rw [typeLookup_type,builtinLookup_eq_fast];kernel_rfl
theorem HA:typeLookup (.type "re.Match") "__len__"=pure none:=by rw [typeLookup_type,builtinLookup_eq_fast];kernel_rfl
theorem D0 {objs:List AO} {v:AV} {b:Bool} {x:Value} {Q:Bool→Shared→Prop} (zn:Zn W Z s.heap) (ow:Ow Z as objs s.heap) (h:Cd objs v=some b) (hv:Is Z as v x)
  (k:∀ tk,Q b {s with toks:=tk}):wpAny W.M A (truthy x) Q E s:=by
 have lst:∀ {a:Addr} {vs:List Value} {n:Nat} {xs:List AV},s.heap.get? a=some (Af vs n)→IsL Z as xs vs→vs.length≤sizeLine→b=!xs.isEmpty→wpAny W.M A (truthy (.ref a)) Q E s:=by
  intro a vs n xs e hx hlen hb
  rw [sizeLine_eq] at hlen
  refine wpAny_truthy_list (BI e) (by simp only [List.size_toArray];exact iub hlen (by decide)) ?_
  have:(!vs.toArray.isEmpty)=b:=by
   subst hb
   induction hx using IsL.casesOn <;> rfl
  rw [this];exact k _
 induction v using AV.casesOn with
 | none=>obtain rfl:=Option.some.inj h;cases hv using Is.e_none;exact truthy_none (k _)
 | bool c=>obtain rfl:=Option.some.inj h;cases hv using Is.e_bool;exact wpAny_truthy_bool (k _)
 | int i=>obtain rfl:=Option.some.inj h;cases hv using Is.e_int;exact PyProof.Rows.truthy_int (k _)
 | str y =>
  obtain rfl:=Option.some.inj h
  cases hv using Is.e_str with
  | _ t hs =>
   refine PySem.P.truthy_str (by rw [sizeLine_eq] at hs;exact inb hs (by decide)) ?_
   have:(((y.length:Nat):Int) != 0)=(y.length != 0):=by rw [Bool.eq_iff_iff];simp
   rw [this];exact k _
 | lst xs =>
  cases hv using Is.e_lst with
  | _ _ _ _ hz hx hn=>exact lst (zn.keep _ _ hz) hx hn (Option.some.inj h).symm
 | mtch =>
  obtain rfl:=Option.some.inj h
  cases hv using Is.e_mtch with
  | _ _ _ _ _ _ _ hz _ =>
   have T:s.TypeIs (.ref _) "re.Match":=⟨_,zn.keep _ _ hz,rfl⟩
   unfold truthy
   dsimp only
   refine wpAny_bind (wpAny_callSpecial?_none (name:=Str.ofString "__bool__") T GI ?_)
   refine wpAny_bind (wpAny_specialOf (name:=Str.ofString "__len__") T HA ?_)
   exact wpAny_pure (k s.toks)
 | own i =>
  refine AE h fun o hi h=>AE h fun xs hl h=>?_
  rw [Cz hl] at hi
  cases hv using Is.e_own with
  | _ _ ha =>
   refine AG (ow.obj _ _ _ ha hi) fun o h1 h2=>?_
   cases h2 using IsO.e_list with
   | _ _ _ hx hn=>exact lst h1 hx hn (Option.some.inj h).symm
 | _=>exact no h
end
section
variable {W:Wd} {Z:AK} {L:Addr} {as:List Addr} {st:ST} {A:Around} {E:Value→Shared→Prop} {s:Shared} {env:Env} {sc:Scope} {k:Nat}
theorem Zn.kIn {h:Heap} (zn:Zn W Z h):W.K.In h:=fun a o e=>zn.keep _ _ (zn.kin _ _ e)
theorem Aq.kindOf (hE:Aq env sc L) (x:Str):env.kindOf x=sc.names.lookup x:=by
 unfold Env.kindOf;rw [hE.scope]
theorem Aq.kd (hE:Aq env sc L):env.scope.kind=.function:=by rw [hE.scope];exact hE.kind
noncomputable def Bi (W:Wd) (x:Str) (v:AV):Prop :=
 ∃ u,(∀ (Z:AK) as,(∀ a o,W.K.lookup a=some o→Z a o)→Is Z as v u)∧(nsIn W.K mainGlobals x=some (some u)∨(nsIn W.K mainGlobals x=some none∧nsIn W.K builtinsNs x=some (some u)))
theorem CX {x:Str} {a:AV} {Q:Value→Shared→Prop} (hE:Aq env sc L) (hS:Sta W Z L as st s) (hx:sc.names.lookup x=some .local) (ha:st.loc.lookup x=some a)
  (q:∀ u,Is Z as a u→Q u s):wpAny W.M A (loadName env x) Q E s:=by
 refine AG (hS.fr.ns) fun m hn hm=>?_
 refine AG (hm x a ha) fun u hu hi=>?_
 exact wpAny_loadName_local hE.kd ((hE.kindOf x).trans hx) (by rw [hE.locals];exact hn) hu (q u hi)
theorem Ah {x:Str} {v:AV} {Q:Value→Shared→Prop} (hE:Aq env sc L) (zn:Zn W Z s.heap) (hx:sc.names.lookup x=some .globalImplicit) (hg:Bi W x v)
  (q:∀ u,Is Z as v u→Q u s):wpAny W.M A (loadName env x) Q E s:=by
 rw [loadName_read hE.kd ((hE.kindOf x).trans hx)]
 refine AG hg fun u hu h=>?_
 unfold loadGlobal
 rw [hE.globals]
 rcases h with h | ⟨h1,h2⟩
 ·refine wpAny_bind ((looks_nsIn zn.kIn h).here ?_)
  exact wpAny_pure (q u (hu _ _ zn.kin))
 ·refine wpAny_bind ((looks_nsIn zn.kIn h1).here ?_)
  rw [hE.builtins]
  refine wpAny_bind ((looks_nsIn zn.kIn h2).here ?_)
  exact wpAny_pure (q u (hu _ _ zn.kin))
set_option tactic.hygienic true in
theorem AA.const {c:Const} {v:AV} {p:Nat} {pos:Pos} (h:IK c=some v):AA W k sc (.Constant c p pos) st v st:=by
 intro Z L as s A Q E env hE _ hS q
 unfold IK at h
 split at h
 ·cases h;exact wpAny_Constant_none (q _ _ _ _ hS .refl' .none)
 ·cases h;exact wpAny_Constant_bool (q _ _ _ _ hS .refl' (.bool _))
 ·cases h;exact wpAny_Constant_int (q _ _ _ _ (hS.toks _) .refl (.int _ _))
 ·split at h
  ·rename_i hl;cases h;exact wpAny_Constant_str (q _ _ _ _ (hS.toks _) .refl (.str _ hl))
  ·exact no h
 ·exact no h
theorem AA.loc {x:Str} {a:AV} {pos:Pos} (hd:(x==("__debug__":Str))=false) (hx:sc.names.lookup x=some .local) (ha:st.loc.lookup x=some a):AA W k sc (.Name x pos) st a st:=by
 intro Z L as s A Q E env hE _ hS q
 exact wpAny_Name (CX hE hS hx ha fun u hu=>q _ _ _ _ hS .refl' hu) hd
theorem AA.glob {x:Str} {a:AV} {pos:Pos} (hd:(x==("__debug__":Str))=false) (hx:sc.names.lookup x=some .globalImplicit) (ha:Bi W x a):AA W k sc (.Name x pos) st a st:=by
 intro Z L as s A Q E env hE _ hS q
 exact wpAny_Name (Ah hE hS.zn hx ha fun u hu=>q _ _ _ _ hS .refl' hu) hd
theorem Is.evo {own:List Addr} {Z Z':AK} {as as':List Addr} {s s':Shared} {v:AV} {u:Value} (h:Is Z as v u) (e:Evo own Z Z' as as' s s'):Is Z' as' v u:=by
 refine AG e.pre fun m r1_ ζ=>?_;subst r1_
 exact h.mono e.zsub
theorem IsL.evo {own:List Addr} {Z Z':AK} {as as':List Addr} {s s':Shared} {v:List AV} {u:List Value} (h:IsL Z as v u) (e:Evo own Z Z' as as' s s'):IsL Z' as' v u:=by
 refine AG e.pre fun m r1_ ζ=>?_;subst r1_
 exact h.mono e.zsub
theorem AA.bin {l r:Expr} {op:Operator} {pos:Pos} {st₁ st₂:ST} {a b v:AV} {o:List Nat} (h1:AA W k sc l st a st₁) (h2:AA W k sc r st₁ b st₂) (h:binF op a b=some (v,o)) (ho:∀ n∈o,n≤sizeLine) :
  AA W k sc (.BinOp l op r pos) st v st₂:=by
 intro Z L as s A Q E env hE hR hS q
 refine wpAny_BinOp (h1 _ _ _ _ _ _ _ _ hE hR hS fun Z₁ as₁ x s₁ S₁ e₁ hx=>h2 _ _ _ _ _ _ _ _ hE hR S₁ fun Z₂ as₂ y s₂ S₂ e₂ hy=>?_)
 exact bin_ok S₂.zn h ho (hx.evo e₂) hy fun u tk hu=>q _ _ _ _ (S₂.toks tk) ((e₁.trans e₂).trans .refl) hu
theorem AA.cmp {l r:Expr} {op:CmpOp} {pos:Pos} {st₁ st₂:ST} {a b v:AV} (hm:behindInMarks op r=false) (h1:AA W k sc l st a st₁) (h2:AA W k sc r st₁ b st₂) (h:J9 op a b=some v) :
  AA W k sc (.Compare l [op] [r] pos) st v st₂:=by
 intro Z L as s A Q E env hE hR hS q
 refine wpAny_Compare1 (h1 _ _ _ _ _ _ _ _ hE hR hS fun Z₁ as₁ x s₁ S₁ e₁ hx=>h2 _ _ _ _ _ _ _ _ hE hR S₁ fun Z₂ as₂ y s₂ S₂ e₂ hy=>?_) hm
 exact Lo h (hx.evo e₂) hy fun u tk hu=>q _ _ _ _ (S₂.toks tk) ((e₁.trans e₂).trans .refl) hu
theorem AL.cmp {l r:Expr} {op:CmpOp} {pos:Pos} {st₁ st₂:ST} {a b:AV} {c:Bool} (hm:behindInMarks op r=false) (h1:AA W k sc l st a st₁) (h2:AA W k sc r st₁ b st₂) (h:J9 op a b=some (.bool c)) :
  AL W k sc (.Compare l [op] [r] pos) st c st₂:=by
 intro Z L as s A Q E env hE hR hS q
 refine wpAny_isTrue_Compare1 (h1 _ _ _ _ _ _ _ _ hE hR hS fun Z₁ as₁ x s₁ S₁ e₁ hx=>h2 _ _ _ _ _ _ _ _ hE hR S₁ fun Z₂ as₂ y s₂ S₂ e₂ hy=>?_) hm
 refine Lo h (hx.evo e₂) hy fun u tk hu=>?_
 cases hu using Is.e_bool
 exact wpAny_truthy_bool (q _ _ _ (S₂.toks tk) ((e₁.trans e₂).trans .refl))
theorem AL.not {x:Expr} {pos:Pos} {st₁:ST} {b:Bool} (h1:AL W k sc x st b st₁):AL W k sc (.UnaryOp .Not x pos) st (!b) st₁:=by
 intro Z L as s A Q E env hE hR hS q
 exact wpAny_isTrue_Not (h1 _ _ _ _ _ _ _ _ hE hR hS q)
theorem AA.not {x:Expr} {pos:Pos} {st₁:ST} {a:AV} {b:Bool} (h1:AA W k sc x st a st₁) (h:Cd st₁.objs a=some b):AA W k sc (.UnaryOp .Not x pos) st (.bool !b) st₁:=by
 intro Z L as s A Q E env hE hR hS q
 refine wpAny_UnaryOp (h1 _ _ _ _ _ _ _ _ hE hR hS fun Z₁ as₁ u s₁ S₁ e₁ hu=>?_)
 exact PySem.not_value (D0 S₁.zn S₁.ow h hu fun tk=>q _ _ _ _ (S₁.toks tk) (e₁.trans .refl) (.bool _))
theorem AL.ofVal {e:Expr} {st₁:ST} {a:AV} {b:Bool} (he:∀ env whole,isTrue e env whole=(do let v ← whole;standAt e.pos;holding [v] (truthy v))) (h1:AA W k sc e st a st₁) (h:Cd st₁.objs a=some b):AL W k sc e st b st₁:=by
 intro Z L as s A Q E env hE hR hS q
 exact wpAny_isTrue_value (h1 _ _ _ _ _ _ _ _ hE hR hS fun Z₁ as₁ u s₁ S₁ e₁ hu=>D0 S₁.zn S₁.ow h hu fun tk=>q _ _ _ (S₁.toks tk) (e₁.trans .refl)) (he env _)
theorem AA.ifExp {t a b:Expr} {pos:Pos} {st₁ st₂:ST} {c:Bool} {v:AV} (h1:AL W k sc t st c st₁) (h2:AA W k sc (if c then a else b) st₁ v st₂):AA W k sc (.IfExp t a b pos) st v st₂:=by
 intro Z L as s A Q E env hE hR hS q
 refine wpAny_IfExp (h1 _ _ _ _ _ _ _ _ hE hR hS fun Z₁ as₁ s₁ S₁ e₁=>?_)
 induction c using Bool.casesOn <;> exact h2 _ _ _ _ _ _ _ _ hE hR S₁ fun Z₂ as₂ u s₂ S₂ e₂ hu=>q _ _ _ _ S₂ (e₁.trans e₂) hu
end
section
variable {W:Wd} {Z:AK} {L:Addr} {as:List Addr} {st:ST} {A:Around} {E:Value→Shared→Prop} {s:Shared} {env:Env} {sc:Scope} {k:Nat}
noncomputable def Cw (W:Wd) (C:Addr) (name:Str):Res→Prop
 | .data=>plainGet W.K C name=true∧hasDictIn W.K C=true∧findIn W.K (.ref C) name=some none∧findIn W.K (.ref C) "__setattr__"=some (some (.builtin "object.__setattr__"))∧plainOver W.K C=true
 | .meth f=>plainGet W.K C name=true∧findIn W.K (.ref C) name=some (some (.ref f))∧isFn W.K (.ref f)=true
 | .prop f=>∃ p rest,plainGet W.K C name=true∧hasDictIn W.K C=true∧findIn W.K (.ref C) name=some (some (.ref p))∧specialIn W.K (.ref p) "__get__"=some (some (.builtin "property.__get__"))
   ∧ takesIn W.K (.ref p)=some true∧recIn W.K p "property"=some (.ref f::rest)
noncomputable def Hc (W:Wd) (a:Addr):Prop:=∃ fs,W.K.lookup a=some {cls:=.type "re.Pattern",data:=.fields fs}
structure TbOk (W:Wd) (k:Nat) (T:Tb):Prop where
 glob:∀ x v,T.glob.lookup x=some v→Bi W x v
 res:∀ C name r,T.res C name=some r→Cw W C name r
 call:∀ f args objs r objs' o,T.call f args objs=some (r,objs',o)→(∀ n∈o,n≤sizeLine)→AR W k f args objs r objs'
 prop:∀ C name f,T.res C name=some (.prop f)→∀ args objs r objs' o,T.call (.ref f) args objs=some (r,objs',o)→(∀ n∈o,n≤sizeLine)→BG W k (.ref f) args objs r objs'∧Dz r=true
 fn:∀ f args objs r,T.call (.ref f) args objs=some r→fnIn W.K f=true
 pat:∀ a,T.pat.contains a=true→Hc W a
 exO:∀ sc e st v st' o,T.exO sc e st=some (v,st',o)→(∀ n∈o,n≤sizeLine)→AA W (k+1) sc e st v st'
 tsO:∀ sc e st v st' o,T.tsO sc e st=some (v,st',o)→(∀ n∈o,n≤sizeLine)→AL W (k+1) sc e st v st'
 stO:∀ sc e st v st' o,T.stO sc e st=some (v,st',o)→(∀ n∈o,n≤sizeLine)→AH W (k+1) sc e st v st'
theorem BX.look {es:List (Str×AV)} {ds:List DictEntry} (h:BX Z as es ds) {x:Str}:(∀ a,es.lookup x=some a→∃ u,getL x ds=some (some u)∧Is Z as a u)∧(es.lookup x=none→getL x ds=some none):=by
 have noRef:∀ {es:List (Str×AV)} {ds:List DictEntry},BX Z as es ds→ds.any (·.refKey)=false:=by
  intro es ds h
  induction h with
  | nil=>rfl
  | cons _ _ ih=>rw [List.any_cons,ih];rfl
 have fnd:∀ {es:List (Str×AV)} {ds:List DictEntry},BX Z as es ds→(∀ a,es.lookup x=some a→∃ e,ds.find? (·.key.isStr x)=some e∧Is Z as a e.val)∧(es.lookup x=none→ds.find? (·.key.isStr x)=none):=by
  intro es ds h
  induction h with
  | nil=>exact ⟨fun a e=>(nomatch e),fun ζ=>rfl⟩
  | @cons y a v hh t es ds hv _ ih =>
   by_cases q:x=y
   ·subst q
    refine ⟨fun b e=>?_,fun e=>?_⟩
    ·rw [List.lookup_cons_self] at e;cases e
     exact ⟨_,by rw [List.find?_cons_of_pos];simp [Value.isStr],hv⟩
    ·rw [List.lookup_cons_self] at e;exact fS' e
   ·have e1:List.lookup x ((y,a)::es)=es.lookup x:=by rw [List.lookup_cons,beq_false_of_ne q]
    have e2:List.find? (·.key.isStr x) ((⟨hh,.str y t,v⟩:DictEntry)::ds)=ds.find? (·.key.isStr x):=by
     rw [List.find?_cons_of_neg]
     simp only [Value.isStr,beq_iff_eq]
     exact fun z=>q z.symm
    rw [e1,e2];exact ih
 refine ⟨fun a e=>?_,fun e=>?_⟩
 ·refine AG ((fnd h).1 a e) fun en h1 h2=>?_
  exact ⟨en.val,by unfold getL;rw [h1],h2⟩
 ·unfold getL
  rw [(fnd h).2 e,noRef h];rfl
theorem CY {a:AV} {u:Value} (h:Is Z as a u) (hn:∀ v,a≠.top v):handedIn u=true:=by
 induction h using Is.casesOn <;> first | rfl | exact absurd rfl (hn _)
theorem DC {objs:List AO} {h:Heap} {i d:Nat} {C x:Addr} {es:List (Str×AV)} (ow:Ow Z as objs h) (hi:objs[i]?=some (.inst C d)) (hd:objs[d]?=some (.dict es)) (hx:as[i]?=some x) :
  ∃ dx sl ds n,as[d]?=some dx∧InstAt h x ⟨.ref C,some dx,.plain,sl⟩ C (some (dictOf ds n))∧BX Z as es ds∧h.get? dx=some (dictOf ds n):=by
 refine AG (ow.obj _ _ _ hx hi) fun o h1 h2=>?_
 cases h2 using IsO.e_inst with
 | _ dx sl hdx =>
  refine AG (ow.obj _ _ _ hdx hd) fun o' h3 h4=>?_
  cases h4 using IsO.e_dict with
  | _ _ _ he=>exact ⟨dx,sl,_,_,hdx,⟨h1,rfl,rfl,h3⟩,he,h3⟩
theorem FK {o:Expr} {attr:Str} {whole:Sem Value} (h:Am o=true):attributeBase o attr env whole=whole:=by
 induction o using Expr.casesOn with
 | Call f args ks p =>
  induction f using Expr.casesOn <;> first | rfl | skip
  induction args using List.casesOn <;> first | rfl | skip
  induction ks using List.casesOn <;> first | rfl | exact ff h
 | _=>rfl
theorem EK {v:Expr} {attr:Str} {pos:Pos} (h:Am v=true):eval (.Attribute v attr pos) env=(do
   let o ← eval v env
   standAt pos.atName
   let r ← holding [o] (getAttr o attr true)
   letTemporaryGo v o r
   pure r):=by
 show (do
  let o ← attributeBase v attr env (eval v env)
  standAt pos.atName
  let r ← holding [o] (getAttr o attr true)
  letTemporaryGo v o r
  pure r)=_
 rw [FK h]
theorem AA.attr {v:Expr} {name:Str} {pos:Pos} {st₁:ST} {i d:Nat} {C:Addr} {es:List (Str×AV)} {r:AV} (hs:Am v=true) (h1:AA W k sc v st (.own i) st₁)
  (hi:st₁.objs[i]?=some (.inst C d)) (hd:st₁.objs[d]?=some (.dict es)) (hr:Cw W C name .data) (he:es.lookup name=some r) (hn:∀ v,r≠.top v):AA W k sc (.Attribute v name pos) st r st₁:=by
 intro Z L as s A Q E env hE hR hS q
 refine Attribute_any_ (h1 _ _ _ _ _ _ _ _ hE hR hS fun Z₁ as₁ u s₁ S₁ e₁ hu=>?_) (EK hs)
 cases hu using Is.e_own with
 | _ _ hx =>
  refine IC (DC S₁.ow hi hd hx) fun dx sl ds n hdx I hes ζ=>?_
  refine AG (hes.look.1 r he) fun u hg hu=>?_
  refine KP hr fun a1 a2 a3 a4 a5=>?_
  exact get_value S₁.zn.kIn I (plainGet_of a1).1 (findObj_own a2 a3 rfl hg) (CY hu hn) (q _ _ _ _ (S₁.toks _) (e₁.trans .refl) hu)
theorem I0:typeLookup (.type "re.Match") "string"=pure (some (.builtin "re.Match.string")):=by rw [typeLookup_type,builtinLookup_eq_fast];kernel_rfl
end
section
variable {W:Wd} {Z:AK} {L:Addr} {as:List Addr} {st:ST} {M:Model} {A:Around} {E:Value→Shared→Prop} {s:Shared} {env:Env} {sc:Scope} {k:Nat}
theorem Ae.down {A A':Around} {k:Nat} (h:Ae A (k+1)) (h1:A'.depth≤A.depth+9) (h2:A'.units≤A.units+99) (h3:A'.handled=A.handled):Ae A' k:=by
 obtain ⟨a,b,c⟩:=h
 exact ⟨by exact (lin h1 (lin a (by simp +arith only))),by exact (lin h2 (lin b (by simp +arith only))),h3.trans c⟩
theorem Ae.less {A:Around} {k:Nat} (h:Ae A (k+1)):Ae A k:=h.down (by simp +arith only) (by simp +arith only) rfl
theorem Ae.in1 {A:Around} {k:Nat} (h:Ae A (k+1)):Ae A.in1 k:=h.down (by simp) (by simp) rfl
theorem Bn {e:Expr} {rest:List Expr} (h:A4 e=true):starEach (e::rest) env=(false,eval e env)::starEach rest env:=by
 induction e using Expr.casesOn <;> first | rfl | exact ff h
theorem star_none:∀ {es:List Expr},es.all A4=true→∀ {pos:Pos},(backTo pos (starEach es env)).any (·.1)=false
 | [],_,_=>rfl
 | e::r,h,pos=>by
  rw [List.all_cons,Bool.and_eq_true] at h
  rw [Bn h.1]
  refine (?_:(false || (backTo pos (starEach r env)).any (·.1))=false)
  rw [star_none h.2];rfl
theorem Bf {f:Value} {args:List Expr} {pos:Pos} {Q:Args→Shared→Prop} (hs:args.all A4=true)
  (h:wpAny M A (spliced (backTo pos (starEach args env))) (fun vs s'=>Q ⟨vs,[]⟩ s') E s):wpAny M A (evalArgs f true (backTo pos (starEach args env)) []) Q E s:=by
 induction args using List.casesOn with
 | nil =>
  unfold evalArgs
  refine (?_:wpAny M A (spliced []>>=_) Q E s)
  refine wpAny_bind (wpAny_mono h (fun vs s' h'=>?_) fun ζ ζ x=>x)
  refine wpAny_bind (wpAny_pure (wpAny_holding ?_))
  exact wpAny_bind (wpAny_pure (wpAny_bind (wpAny_pure (wpAny_pure h'))))
 | cons e r =>
  rw [List.all_cons,Bool.and_eq_true] at hs
  rw [Bn hs.1] at h ⊢
  exact evalArgs_plain h
noncomputable def EO (W:Wd):Value→Prop
 | .ref a=>fnIn W.K a=true
 | .builtin _=>True
 | .type _=>True
 | _=>False
theorem fnIn_e {K:Frag} {a:Addr} (h:fnIn K a=true):∃ o fd,K.lookup a=some o∧o.data=.func fd:=by
 unfold fnIn at h
 cases hq:K.lookup a with
 | none=>rw [hq] at h;exact ff h
 | some o =>
  rw [hq] at h
  obtain ⟨_,_,d,_⟩:=o
  cases d <;> first | exact ff h | exact ⟨_,_,rfl,rfl⟩
theorem Ao {f:Value} {first:List Value} {args:List Expr} {pos:Pos} {Q:Value→Shared→Prop} (hs:args.all A4=true) (hf:EO W f)
  (h:wpAny M A (spliced (backTo pos (starEach args env))) (fun vs s₁=>W.K.In s₁.heap∧wpAny M A (call f (first++vs)) Q E s₁) E s) :
  wpAny M A (callWith pos f first (backTo pos (starEach args env)) []) Q E s:=by
 induction f using Value.casesOn with
 | ref a =>
  refine Bl (fnIn_e hf) fun o fd q e=>?_
  exact callWith_function (o:=o) (fd:=fd) (Bf hs (wpAny_mono h (fun vs s₁ h₁=>⟨⟨h₁.1 _ _ q,e⟩,h₁.2⟩) fun ζ ζ x=>x))
 | builtin id=>exact callWith_builtin (star_none hs) (Bf hs (wpAny_mono h (fun vs s₁ h₁=>h₁.2) fun ζ ζ x=>x))
 | type T=>exact PyProof.Rows.callWith_type (star_none hs) (Bf hs (wpAny_mono h (fun vs s₁ h₁=>h₁.2) fun ζ ζ x=>x))
 | _=>exact hf.elim
noncomputable def EvLQ (W:Wd) (L:Addr) (Z:AK) (as:List Addr) (s:Shared) (vs:List AV) (st':ST) (Q:List Value→Shared→Prop):Prop:=∀ (Z':AK) (as':List Addr) (us:List Value) (s':Shared),Sta W Z' L as' st' s'→Evo [L] Z Z' as as' s s'→IsL Z' as' vs us→Q us s'
noncomputable def B0 (W:Wd) (k:Nat) (sc:Scope) (es:List Expr) (st:ST) (vs:List AV) (st':ST):Prop :=
 ∀ (Z:AK) (L:Addr) (as:List Addr) (s:Shared) (A:Around) (Q:List Value→Shared→Prop) (E:Value→Shared→Prop) (env:Env) (pos:Pos),Aq env sc L→Ae A k→Sta W Z L as st s →
  EvLQ W L Z as s vs st' Q →
  wpAny W.M A (spliced (backTo pos (starEach es env))) Q E s
theorem B0.nil:B0 W k sc [] st [] st:=by
 intro Z L as s A Q E env pos hE hR hS q
 exact spliced_nil (q _ _ _ _ hS .refl' .nil)
theorem B0.cons {e:Expr} {r:List Expr} {st₁ st₂:ST} {v:AV} {vs:List AV} (hs:A4 e=true) (h1:AA W k sc e st v st₁) (h2:B0 W k sc r st₁ vs st₂):B0 W k sc (e::r) st (v::vs) st₂:=by
 intro Z L as s A Q E env pos hE hR hS q
 refine args_cons (h1 _ _ _ _ _ _ _ _ hE hR hS fun Z₁ as₁ u s₁ S₁ e₁ hu=>h2 _ _ _ _ _ _ _ _ _ hE hR S₁ fun Z₂ as₂ us s₂ S₂ e₂ hus=>?_) (Bn hs)
 exact q _ _ _ _ S₂ (e₁.trans e₂) (.cons (hu.evo e₂) hus)
theorem Sta.called {Z Z':AK} {L:Addr} {as as':List Addr} {st:ST} {objs':List AO} {s s':Shared} (S:Sta W Z L as st s) (zn:Zn W Z' s'.heap) (ow:Ow Z' as' objs' s'.heap) (e:Evo [] Z Z' as as' s s') :
  Sta W Z' L as' {st with objs:=objs'} s'∧Evo [L] Z Z' as as' s s':=by
 refine AG (S.fr.ns) fun m hn hm=>?_
 refine AG e.pre fun more r1_ hmore=>?_;subst r1_
 have hL:=hn.lt
 refine F6 hn fun o es ep ho r=>?_
 have hL':=e.keep _ _ ho (by simp) S.fr.notIn S.fr.out.2
 refine ⟨⟨zn,ow,⟨⟨m,⟨o,es,ep,hL',r⟩,fun x a q=>?_⟩,fun q=>?_,fun o q=>?_,S.fr.out.2⟩⟩,⟨e.zsub,e.znew,⟨more,rfl,hmore⟩,fun b o h1 h2 h3 h4=>e.keep b o h1 (by simp) h3 h4,e.size,e.gens,e.drawn,e.os⟩⟩
 ·refine AG (hm x a q) fun v h1 h2=>?_
  exact ⟨v,h1,h2.mono e.zsub⟩
 ·rcases List.mem_append.mp q with q | q
  ·exact S.fr.notIn q
  ·exact absurd hL (Nat.not_lt.mpr (hmore _ q))
 ·rcases e.znew _ _ q with q | q
  ·exact S.fr.out.1 _ q
  ·exact absurd hL (Nat.not_lt.mpr q)
theorem AA.callName {x:Str} {p pos:Pos} {args:List Expr} {st₁:ST} {f:Value} {vs:List AV} {r:AV} {objs':List AO} (hd:(x==("__debug__":Str))=false) (hx:sc.names.lookup x=some .globalImplicit) (hg:Bi W x (.top f)) (hf:EO W f)
  (hs:args.all A4=true) (h1:B0 W (k+1) sc args st vs st₁) (h2:AR W k f vs st₁.objs r objs'):AA W (k+1) sc (.Call (.Name x p) args [] pos) st r {st₁ with objs:=objs'}:=by
 intro Z L as s A Q E env hE hR hS q
 refine wpAny_Call_Name_kw (wpAny_Name (Ah (as:=as) hE hS.zn hx hg fun u hu=>?_) hd)
 cases hu using Is.e_top
 refine Ao hs hf (h1 _ _ _ _ _ _ _ _ _ hE hR hS fun Z₁ as₁ us s₁ S₁ e₁ hus=>⟨S₁.zn.kIn,?_⟩)
 exact h2 _ _ _ _ _ _ _ hR.less S₁.zn S₁.ow hus fun Z₂ as₂ u s₂ zn₂ ow₂ e₂ hu=>(S₁.called zn₂ ow₂ e₂).elim fun S₂ e₂'=>q _ _ _ _ S₂ (e₁.trans e₂') hu
theorem EJ {o:Expr} {name:Str} {apos pos:Pos} {args:List Expr} (hb:Am o=true) (hs:args.all A4=true) (hl:args.length≤20) (hp:(apos.endLine==pos.line)=true) :
  ∃ pl:Sem Bool,eval (.Call (.Attribute o name apos) args [] pos) env=(do
   let ov ← eval o env
   standAt apos.atName
   let (f,first) ← holding [ov] (getMethod ov name pl)
   callWith pos f first (backTo pos (starEach args env)) []):=by
 refine ⟨(do return (← importBound o env).getD true),?_⟩
 have hform:methodCallForm (args.length+([]:List Keyword).length) (backTo pos (starEach args env)) (backToKw pos (keywordEach [] env))=true:=by
  unfold methodCallForm
  have h1:(backTo pos (starEach args env)).all (!·.1)=true:=by
   have:=star_none (env:=env) hs (pos:=pos)
   rw [List.all_eq_true]
   intro x hx
   have:=(List.any_eq_false.mp this) x hx
   simpa using this
  rw [h1]
  refine (?_:(true&&true&&decide (args.length+0+0<30))=true)
  exact Bool.and_eq_true_iff.mpr ⟨rfl,decide_eq_true (Nat.lt_of_le_of_lt hl (by decide))⟩
 have hpos:methodCallPos true o env apos pos=pure pos:=by unfold methodCallPos;simp [hp]
 show (do
  let ov ← attributeBase o name env (eval o env)
  standAt apos.atName
  methodCall o name apos pos env ov (args.length+([]:List Keyword).length) (backTo pos (starEach args env)) (backToKw pos (keywordEach [] env)))=_
 rw [FK hb]
 unfold methodCall
 rw [hform,hpos]
 rfl
structure BL (W:Wd) (Z:AK) (as:List Addr) (h:Heap) (v:Value) (name:Str) (f:Value):Prop where
 go:∀ (A:Around) (s:Shared) (Q:Value×List Value→Shared→Prop) (E:Value→Shared→Prop) (pl:Sem Bool),s.heap=h→Q (f,[v]) s→wpAny W.M A (getMethod v name pl) Q E s
theorem AA.callMeth {o:Expr} {name:Str} {apos pos:Pos} {args:List Expr} {st₁ st₂:ST} {a:AV} {f:Value} {vs:List AV} {r:AV} {objs':List AO} (hb:Am o=true) (hs:args.all A4=true) (hl:args.length≤20) (hp:(apos.endLine==pos.line)=true)
  (h1:AA W (k+1) sc o st a st₁) (hm:∀ (Z:AK) (as:List Addr) (s:Shared) (u:Value),Zn W Z s.heap→Ow Z as st₁.objs s.heap→Is Z as a u→BL W Z as s.heap u name f) (hf:EO W f)
  (h2:B0 W (k+1) sc args st₁ vs st₂) (h3:AR W k f (a::vs) st₂.objs r objs'):AA W (k+1) sc (.Call (.Attribute o name apos) args [] pos) st r {st₂ with objs:=objs'}:=by
 intro Z L as s A Q E env hE hR hS q
 obtain ⟨pl,he⟩:=EJ (env:=env) (name:=name) hb hs hl hp
 refine MethodCall_ (h1 _ _ _ _ _ _ _ _ hE hR hS fun Z₁ as₁ u s₁ S₁ e₁ hu=>?_) he
 refine (hm _ _ _ _ S₁.zn S₁.ow hu).go _ _ _ _ _ rfl ?_
 refine Ao hs hf (h2 _ _ _ _ _ _ _ _ _ hE hR S₁ fun Z₂ as₂ us s₂ S₂ e₂ hus=>⟨S₂.zn.kIn,?_⟩)
 exact h3 _ _ _ _ _ _ _ hR.less S₂.zn S₂.ow (.cons (hu.evo e₂) hus) fun Z₃ as₃ u s₃ zn₃ ow₃ e₃ hu=>(S₂.called zn₃ ow₃ e₃).elim fun S₃ e₃'=>q _ _ _ _ S₃ ((e₁.trans e₂).trans e₃') hu
end
section
variable {W:Wd} {Z:AK} {L:Addr} {as:List Addr} {st:ST} {M:Model} {A:Around} {E:Value→Shared→Prop} {s:Shared} {env:Env} {sc:Scope} {k:Nat}
noncomputable def A6 (h h':Heap):Prop:=(∀ b o,h.get? b=some o→h'.get? b=some o)∧h.objs.size≤h'.objs.size
theorem A6.refl {h:Heap}:A6 h h:=⟨fun ζ ζ e=>e,Nat.le_refl _⟩
theorem A6.push {h h':Heap} (g:A6 h h') (o:Obj):A6 h (h'.push o):=⟨fun b o' e=>Heap.get?_push_of_some _ (g.1 b o' e),by rw [Heap.size_push];exact Nat.le_succ_of_le g.2⟩
theorem DA {h:Heap}:KeptH (A6 h):=fun ζ ob g=>g.push ob
theorem Zn.grow {h h':Heap} (z:Zn W Z h) (g:A6 h h'):Zn W Z h':=⟨z.kin,fun b o e=>g.1 _ _ (z.keep b o e),z.low,fun t ht=>AG (z.tab t ht) fun vs e tv=>⟨vs,g.1 _ _ e,tv⟩⟩
theorem Ow.grow {objs:List AO} {h h':Heap} (z:Ow Z as objs h) (g:A6 h h'):Ow Z as objs h':=⟨z.len,fun i a x e1 e2=>AG (z.obj i a x e1 e2) fun o q1 q2=>⟨o,g.1 _ _ q1,q2⟩,z.nodup,z.out⟩
theorem Frm.grow {loc:List (Str×AV)} {h h':Heap} (z:Frm Z as L loc h) (g:A6 h h'):Frm Z as L loc h':=⟨AG (z.ns) fun m a b=>⟨m,a.keeps g.1,b⟩,z.notIn,z.out⟩
theorem Sta.grow {h':Heap} {tk:Nat} (S:Sta W Z L as st s) (g:A6 s.heap h'):Sta W Z L as st {s with heap:=h',toks:=tk}∧Evo [L] Z Z as as s {s with heap:=h',toks:=tk} :=
 ⟨⟨S.zn.grow g,S.ow.grow g,S.fr.grow g⟩,⟨fun ζ ζ h=>h,fun ζ ζ h=>.inl h,⟨[],by simp,fun ζ h=>(nomatch h)⟩,fun b o h ζ ζ ζ=>g.1 b o h,g.2,AY.grr _,rfl,rfl⟩⟩
theorem Dv {slice:Expr} {o i:Value} (h:Ck slice=true):subscripted slice false o i=operate [o,i] (getItem o i):=by
 induction slice using Expr.casesOn <;> first | rfl | exact ff h
theorem AA.item {v i:Expr} {pos:Pos} {st₁ st₂:ST} {a b r:AV} (hs:Ck i=true) (h1:AA W k sc v st a st₁) (h2:AA W k sc i st₁ b st₂) (h:Fb st₂.objs a b=some r):AA W k sc (.Subscript v i pos) st r st₂:=by
 intro Z L as s A Q E env hE hR hS q
 refine Subscript_ (h1 _ _ _ _ _ _ _ _ hE hR hS fun Z₁ as₁ x s₁ S₁ e₁ hx=>h2 _ _ _ _ _ _ _ _ hE hR S₁ fun Z₂ as₂ y s₂ S₂ e₂ hy=>?_)
 replace hx:=hx.evo e₂
 have lst:∀ {a:Addr} {vs:List Value} {n:Nat} {xs:List AV} {j:Int} {t:Tok},s₂.heap.get? a=some (Af vs n)→IsL Z₂ as₂ xs vs→(0≤j&&j<2 ^ 63)=true→xs[j.toNat]?=some r→wpAny W.M A (subscriptTail v i (.ref a) (.int j t)) Q E s₂:=by
  intro a vs n xs j t e hxs hj hr
  rw [Bool.and_eq_true,decide_eq_true_eq,decide_eq_true_eq] at hj
  refine AG (hxs.get hr) fun u hu hi=>?_
  exact tail_any (BI e).typeIs slot_list_getitem.lookup (wpAny_getItem_list (BI e) hj.1 hj.2 (by simpa using hu) (q _ _ _ _ S₂ (e₁.trans e₂) hi)) (Dv hs)
 refine AE h fun j hj h=>?_
 rw [CD hj] at hy
 cases hy using Is.e_int
 induction a using AV.casesOn with
 | str x =>
  refine AE h fun c hc h=>A1 h fun hr h=>?_
  obtain rfl:=Option.some.inj h
  cases hx using Is.e_str
  refine tail_any (typeIs_str _ _ _) slot_str_getitem.lookup (PyProof.Rows.getItem_str ((Bool.not_eq_true' _).mp hr) hc ?_) (Dv hs)
  exact q _ _ _ _ (S₂.toks _) ((e₁.trans e₂).trans .refl) (.str _ (Nat.le_of_ble_eq_true rfl))
 | tup xs =>
  refine A1 h fun hj h=>?_
  have hj':=bt hj
  have hj1:=of_decide_eq_true hj'.1
  have hj2:=of_decide_eq_true hj'.2
  cases hx using Is.e_tup with
  | _ _ _ _ hz hxs hn =>
   refine AG (hxs.get h) fun u hu hi=>?_
   have hlt:=(List.getElem?_eq_some_iff.mp hu).1
   refine item_tupleT ⟨_,S₂.zn.keep _ _ hz,rfl,_,rfl⟩ (Int.le_trans (by decide) (of_decide_eq_true hj'.1)) hj2 ?_ hu (q _ _ _ _ S₂ (e₁.trans e₂) hi) (Dv hs)
   unfold seqIndex?
   have:¬ (_:Int)<0:=Int.not_lt.mpr hj1
   simp only [this,if_false]
   rw [if_pos (by rw [Bool.and_eq_true,decide_eq_true_eq,decide_eq_true_eq];exact ⟨of_decide_eq_true hj'.1,(Int.toNat_lt (of_decide_eq_true hj'.1)).mp hlt⟩)]
 | lst xs =>
  refine A1 h fun hj h=>?_
  cases hx using Is.e_lst with
  | _ _ _ _ hz hxs hn=>exact lst (S₂.zn.keep _ _ hz) hxs hj h
 | own k =>
  refine AE h fun o hk h=>AE h fun xs hl h=>A1 h fun hj h=>?_
  rw [Cz hl] at hk
  cases hx using Is.e_own with
  | _ _ ha =>
   refine AG (S₂.ow.obj _ _ _ ha hk) fun o h3 h4=>?_
   cases h4 using IsO.e_list with
   | _ _ _ hxs hn=>exact lst h3 hxs hj h
 | _=>exact no h
theorem Sta.frozen {o:Obj} {tk:Nat} (S:Sta W Z L as st s) (hf:o.isFreed=false) :
  let Z':AK:=fun b x=>Z b x∨(b=s.heap.objs.size∧x=o)
  Sta W Z' L as st {s with heap:=s.heap.push o,toks:=tk}∧Evo [L] Z Z' as as s {s with heap:=s.heap.push o,toks:=tk}∧Z' s.heap.objs.size o:=by
 intro Z'
 have g:A6 s.heap (s.heap.push o):=A6.refl.push o
 have hz:∀ b x,Z b x→Z' b x:=fun ζ ζ h=>.inl h
 have isz:∀ t∈tabs,t<s.heap.objs.size:=fun t ht=>AG (S.zn.tab t ht) fun vs e ζ=>Heap.lt_size e
 have noIn:∀ a∈as,a<s.heap.objs.size:=fun a ha=>by
  refine oEP (List.getElem_of_mem ha) fun i hi r2_=>?_;subst r2_
  have hi':i<st.objs.length:=by rw [← S.ow.len];exact hi
  refine AG (S.ow.obj i _ st.objs[i] (List.getElem?_eq_getElem hi) (List.getElem?_eq_getElem hi')) fun o h1 ζ=>?_
  exact Heap.lt_size h1
 refine AG (S.fr.ns) fun m hn hm=>?_
 refine ⟨⟨⟨fun a o' e=>.inl (S.zn.kin a o' e),fun b x h=>?_,fun a x h=>?_,(S.zn.grow g).tab.mono hz⟩,⟨S.ow.len,fun i a x e1 e2=>?_,S.ow.nodup,fun a ha=>⟨fun x h=>?_,(S.ow.out a ha).2⟩⟩,⟨⟨m,hn.keeps g.1,fun x a q=>?_⟩,S.fr.notIn,fun x h=>?_,S.fr.out.2⟩⟩,⟨hz,fun b x h=>?_,⟨[],by simp,fun ζ h=>(nomatch h)⟩,fun b o h ζ ζ ζ=>g.1 b o h,g.2,AY.grr _,rfl,rfl⟩,.inr ⟨rfl,rfl⟩⟩
 ·rcases h with h | ⟨rfl,rfl⟩
  ·exact g.1 _ _ (S.zn.keep b x h)
  ·exact Heap.get?_push_size _ hf
 ·rcases h with h | ⟨rfl,rfl⟩
  ·exact S.zn.low a x h
  ·exact fun q=>absurd (isz _ q) (Nat.lt_irrefl _)
 ·refine AG (S.ow.obj i a x e1 e2) fun y h1 h2=>?_
  have:=h2.mono (more:=[]) hz
  rw [List.append_nil] at this
  exact ⟨y,g.1 _ _ h1,this⟩
 ·rcases h with h | ⟨rfl,rfl⟩
  ·exact (S.ow.out a ha).1 x h
  ·exact absurd (noIn _ ha) (Nat.lt_irrefl _)
 ·refine AG (hm x a q) fun v h1 h2=>?_
  have:=h2.mono (more:=[]) hz
  rw [List.append_nil] at this
  exact ⟨v,h1,this⟩
 ·rcases h with h | ⟨rfl,rfl⟩
  ·exact S.fr.out.1 x h
  ·exact absurd hn.lt (Nat.lt_irrefl _)
 ·rcases h with h | ⟨rfl,rfl⟩
  ·exact .inl h
  ·exact .inr (Nat.le_refl _)
theorem AA.tuple {es:List Expr} {p:Nat} {pos:Pos} {st₁:ST} {vs:List AV} (hl:vs.length≤100) (h:B0 W k sc es st vs st₁):AA W k sc (.Tuple es p pos) st (.tup vs) st₁:=by
 intro Z L as s A Q E env hE hR hS q
 refine wpAny_Tuple (h _ _ _ _ _ _ _ _ _ hE hR hS fun Z₁ as₁ us s₁ S₁ e₁ hus=>?_)
 have hlen:us.length≤sizeLine:=by rw [sizeLine_eq,← hus.length];exact lb (by assumption) rfl
 refine oAA (S₁.frozen (o:=B2 us 0) (tk:=s₁.toks) rfl) fun S₂ e₂ hz=>?_
 exact ⟨hlen,q _ _ _ _ S₂ (e₁.trans e₂) (.tup hz (hus.evo e₂) hlen)⟩
theorem AA.listF {es:List Expr} {pos:Pos} {st₁:ST} {vs:List AV} (hl:vs.length≤100) (h:B0 W k sc es st vs st₁):AA W k sc (.List es pos) st (.lst vs) st₁:=by
 intro Z L as s A Q E env hE hR hS q
 refine wpAny_List (h _ _ _ _ _ _ _ _ _ hE hR hS fun Z₁ as₁ us s₁ S₁ e₁ hus=>?_)
 have hlen:us.length≤sizeLine:=by rw [sizeLine_eq,← hus.length];exact lb (by assumption) rfl
 refine oAA (S₁.frozen (o:=Af us 0) (tk:=s₁.toks) rfl) fun S₂ e₂ hz=>?_
 exact ⟨hlen,q _ _ _ _ S₂ (e₁.trans e₂) (.lst hz (hus.evo e₂) hlen)⟩
theorem Ow.push {objs:List AO} {x:AO} {o:Obj} (ow:Ow Z as objs s.heap) (zn:Zn W Z s.heap) (hx:IsO Z (as++[s.heap.objs.size]) x o):Ow Z (as++[s.heap.objs.size]) (objs++[x]) (s.heap.push o):=by
 have g:A6 s.heap (s.heap.push o):=A6.refl.push o
 have noIn:∀ a∈as,a<s.heap.objs.size:=fun a ha=>by
  refine oEP (List.getElem_of_mem ha) fun i hi r2_=>?_;subst r2_
  have hi':i<objs.length:=by rw [← ow.len];exact hi
  refine AG (ow.obj i _ objs[i] (List.getElem?_eq_getElem hi) (List.getElem?_eq_getElem hi')) fun o h1 ζ=>?_
  exact Heap.lt_size h1
 refine ⟨by simp [ow.len],fun i a y e1 e2=>?_,?_,fun a ha=>?_⟩
 ·by_cases hi:i<as.length
  ·rw [List.getElem?_append_left hi] at e1
   rw [List.getElem?_append_left (by rw [← ow.len];exact hi)] at e2
   refine AG (ow.obj i a y e1 e2) fun o' h1 h2=>?_
   exact ⟨o',g.1 _ _ h1,h2.mono fun ζ ζ h=>h⟩
  ·rw [List.getElem?_append_right (Nat.le_of_not_lt hi)] at e1
   rw [List.getElem?_append_right (by rw [← ow.len];exact Nat.le_of_not_lt hi),← ow.len] at e2
   have hz:i - as.length=0:=by
    have:=(List.getElem?_eq_some_iff.mp e1).1
    simp at this;assumption
   rw [hz] at e1 e2
   cases e1;cases e2
   exact ⟨o,Heap.get?_push_size _ hx.alive,hx⟩
 ·rw [List.nodup_append]
  refine ⟨ow.nodup,by simp,fun a ha b hb=>?_⟩
  rw [List.mem_singleton.mp hb]
  exact Nat.ne_of_lt (noIn a ha)
 ·rcases List.mem_append.mp ha with ha | ha
  ·exact ow.out a ha
  ·rw [List.mem_singleton.mp ha]
   exact ⟨fun o' q=>absurd (Heap.lt_size (zn.keep _ _ q)) (Nat.lt_irrefl _),fun q=>AG (zn.tab _ q) fun vs e ζ=>absurd (Heap.lt_size e) (Nat.lt_irrefl _)⟩
theorem Sta.pushed {x:AO} {o:Obj} {tk:Nat} (S:Sta W Z L as st s) (hx:IsO Z (as++[s.heap.objs.size]) x o) :
  Sta W Z L (as++[s.heap.objs.size]) {st with objs:=st.objs++[x]} {s with heap:=s.heap.push o,toks:=tk}∧Evo [L] Z Z as (as++[s.heap.objs.size]) s {s with heap:=s.heap.push o,toks:=tk}:=by
 have g:A6 s.heap (s.heap.push o):=A6.refl.push o
 refine AG (S.fr.ns) fun m hn hm=>?_
 refine ⟨⟨S.zn.grow g,S.ow.push S.zn hx,⟨⟨m,hn.keeps g.1,fun x a q=>AG (hm x a q) fun v h1 h2=>⟨v,h1,h2.mono fun ζ ζ h=>h⟩⟩,fun q=>?_,S.fr.out⟩⟩,⟨fun ζ ζ h=>h,fun ζ ζ h=>.inl h,⟨_,rfl,fun a ha=>by rw [List.mem_singleton.mp ha];exact Nat.le_refl _⟩,fun b o h ζ ζ ζ=>g.1 b o h,g.2,AY.grr _,rfl,rfl⟩⟩
 rcases List.mem_append.mp q with q | q
 ·exact S.fr.notIn q
 ·rw [List.mem_singleton] at q
  exact absurd (q▸hn.lt) (Nat.lt_irrefl _)
theorem AA.listN {pos:Pos}:AA W k sc (.List [] pos) st (.own st.objs.length) {st with objs:=st.objs++[.list []]}:=by
 intro Z L as s A Q E env hE hR hS q
 refine wpAny_List (args_nil ?_)
 obtain ⟨S₂,e₂⟩:=hS.pushed (x:=.list []) (o:=Af [] 0) (tk:=s.toks) (.list .nil (by simp))
 refine ⟨by simp,q _ _ _ _ S₂ e₂ (.own ?_)⟩
 rw [List.getElem?_append_right (by rw [hS.ow.len];exact Nat.le_refl _),hS.ow.len];simp
end
section
variable {W:Wd} {Z:AK} {L:Addr} {as:List Addr} {st:ST} {M:Model} {A:Around} {E:Value→Shared→Prop} {s:Shared} {env:Env} {sc:Scope} {k:Nat}
theorem Ow.set {objs:List AO} {h h':Heap} {i:Nat} {a:Addr} {x:AO} {o:Obj} (ow:Ow Z as objs h) (zn:Zn W Z h) (ha:as[i]?=some a) (hs:Heap.SameBut a h h') (ho:h'.get? a=some o) (hx:IsO Z as x o) :
  Ow Z as (objs.set i x) h'∧Zn W Z h':=by
 have hm:a∈as:=List.mem_of_getElem? ha
 refine ⟨⟨by simp [ow.len],fun j b y e1 e2=>?_,ow.nodup,ow.out⟩,⟨zn.kin,fun b o' q=>?_,zn.low,fun t ht=>?_⟩⟩
 ·by_cases hj:j=i
  ·subst hj
   rw [ha] at e1;cases e1
   rw [List.getElem?_set_self (by rw [← ow.len];exact (List.getElem?_eq_some_iff.mp ha).1)] at e2
   cases e2
   exact ⟨o,ho,hx⟩
  ·rw [List.getElem?_set_ne (Ne.symm hj)] at e2
   refine AG (ow.obj j b y e1 e2) fun o' h1 h2=>?_
   have:b≠a:=fun q=>hj ((List.getElem?_inj (List.getElem?_eq_some_iff.mp e1).1 ow.nodup).mp (by rw [e1,ha,q]))
   exact ⟨o',(hs.2 b this).trans h1,h2⟩
 ·have:b≠a:=fun z=>(ow.out a hm).1 _ (z▸q)
  exact (hs.2 b this).trans (zn.keep b o' q)
 ·refine AG (zn.tab t ht) fun vs e tv=>?_
  have:t≠a:=fun z=>(ow.out a hm).2 (z▸ht)
  exact ⟨vs,(hs.2 t this).trans e,tv⟩
theorem Evo.set {own:List Addr} {h':Heap} {a:Addr} {tk:Nat} (ha:a∈as∨a∈own) (hs:Heap.SameBut a s.heap h'):Evo own Z Z as as s {s with heap:=h',toks:=tk} :=
 ⟨fun ζ ζ h=>h,fun ζ ζ h=>.inl h,⟨[],by simp,fun ζ h=>(nomatch h)⟩,fun b o h h1 h2 ζ=>(hs.2 b fun q=>by subst q;rcases ha with ha | ha;exact h2 ha;exact h1 ha).trans h,Nat.le_of_eq hs.1.symm,AY.grr _,rfl,rfl⟩
theorem Fk {objs:List AO} {i:Nat} {xs:List AV} {x:AV} (hi:objs[i]?=some (.list xs)) (hl:xs.length+1≤sizeLine):AR W k (.builtin "list.append") [.own i,x] objs .none (objs.set i (.list (xs++[x]))):=by
 intro Z as vals s A Q E hR zn ow hv q
 cases hv using IsL.e2 with
 | _ _ h1 v h2 =>
    cases h1 using Is.e_own with
    | _ _ ha =>
     refine AG (ow.obj _ _ _ ha hi) fun o ho hx=>?_
     cases hx using IsO.e_list with
     | _ vs n hxs hn =>
      refine append_at ho (fun h' hs ho'=>?_) (by rw [List.size_toArray];exact hn)
      have:IsO Z as (.list (xs++[x])) {cls:=.type "list",data:=.seq (vs.toArray.push v) (n+1)}:=by
       rw [List.push_toArray]
       exact .list (hxs.append (.cons h2 .nil)) (by rw [List.length_append,← hxs.length];exact hl)
      obtain ⟨ow',zn'⟩:=ow.set zn ha hs ho' this
      exact q _ _ _ _ zn' ow' (Evo.set (tk:=s.toks) (.inl (List.mem_of_getElem? ha)) hs) .none
theorem Sta.setObj {i:Nat} {a:Addr} {x:AO} {o:Obj} {h':Heap} {tk:Nat} (S:Sta W Z L as st s) (ha:as[i]?=some a) (hs:Heap.SameBut a s.heap h') (ho:h'.get? a=some o) (hx:IsO Z as x o) :
  Sta W Z L as {st with objs:=st.objs.set i x} {s with heap:=h',toks:=tk}∧Evo [L] Z Z as as s {s with heap:=h',toks:=tk}:=by
 obtain ⟨ow',zn'⟩:=S.ow.set S.zn ha hs ho hx
 refine AG (S.fr.ns) fun m hn hm=>?_
 have hm':a∈as:=List.mem_of_getElem? ha
 exact ⟨⟨zn',ow',⟨⟨m,hn.sameBut hs fun q=>S.fr.notIn (q▸hm'),hm⟩,S.fr.notIn,S.fr.out⟩⟩,Evo.set (.inl hm') hs⟩
set_option tactic.hygienic true in
theorem osa_raw {prog:Program} {w:World} {A:Around} {R:Result→Shared→Prop} {s:Shared} {K:Frag} {x C dx:Addr} {ox od od':Obj} {name:Str} {tk:Tok} {v:Value} {es:List DictEntry} {n:Nat} (X:K.In s.heap)
  (I:InstAt s.heap x ox C (some od)) (hd:ox.dict=some dx) (hp:plainOver K C=true) (ht:takerIn K C name=some none) (hh:(clsIn K C).any (·.hasDict)=true)
  (hl:(lookIn name od).isSome=true)
  (e:Obj.putName name (PyData.keyHash w.params name) (.str name s.toks) v od=od') (e':od'.data=.dict es.toArray n) (hz:es.length≤1000)
  (h:∀ h',Heap.SameBut dx s.heap h'→h'.get? dx=some od'→R (.ok (.ret .none)) {s with heap:=h',toks:=s.toks+1}) :
  codeAny (model prog w) A (.call (.builtin "object.__setattr__") ⟨[.ref x,.str name tk,v],[]⟩) R s:=by
 refine osa_open X I hp ht fun b=>?_
 refine AG (any_some hh) fun cd hc hd'=>?_
 obtain ⟨hx,hcl,hn,hdi⟩:=I
 obtain ⟨oc,odi,oda,osl⟩:=ox
 dsimp only at hcl hd
 subst hcl hd
 have D:s.heap.get? dx=some od:=hdi
 have fr:od'.isFreed=false:=by obtain ⟨_,_,dd,_⟩:=od';cases e';rfl
 have D':(s.heap.update dx (Obj.putName name (PyData.keyHash w.params name) (.str name s.toks) v)).get? dx=some od':=e▸Heap.get?_update_self _ D (e▸fr)
 refine wpAny_bind (wpAny_pure (wpAny_bind (wpAny_bind (wpAny_loadPart hx (wpAny_bind ((looks_clsIn X hc).here ?_))))))
 rw [hd']
 refine wpAny_pure (a:=some dx) (wpAny_bind (wpAny_pure (wpAny_bind ?_)))
 unfold nsSet
 refine wpAny_bind (wpAny_bind (wpAny_askSetting (wpAny_pure (wpAny_bind (wpAny_mkText (wpAny_bind (wpAny_loadPart D ?_)))))))
 unfold lookIn at hl
 split at hl
 ·rename_i es₀ n₀ q
  rw [q]
  dsimp only
  have c:(!es₀.any (·.key.isStr name)&&es₀.any (·.refKey))=false:=by
   rw [← Array.any_toList,← Array.any_toList]
   split at hl
   ·rename_i en he
    rw [List.any_eq_true.mpr ⟨en,List.mem_of_find?_eq_some he,List.find?_some he⟩];rfl
   ·split at hl
    ·exact ff hl
    ·rename_i z;rw [Bool.not_eq_true] at z;rw [z,Bool.and_false]
  rw [aRefKeyMayBeTheName_at,c]
  refine wpAny_updatePart D ?_
  refine wpAny_bind (wpAny_lookBehind D' (by rw [e'];exact pastItsLine_dict (by rw [List.size_toArray,sizeLine_eq];exact lb (by assumption) rfl)) ?_)
  exact wpAny_pure (h _ (Heap.SameBut.update ..) D')
 ·exact ff hl
theorem BX.put {es:List (Str×AV)} {ds:List DictEntry} {x:Str} {hsh:Int} {t:Tok} {a:AV} {v:Value} (h:BX Z as es ds) (hv:Is Z as a v):BX Z as (BY x a es) (putL x hsh (.str x t) v ds)∧(putL x hsh (.str x t) v ds).length≤ds.length+1:=by
 induction h with
 | nil=>exact ⟨.cons hv .nil,by simp [putL]⟩
 | @cons y b u hh tt es ds hu _ ih =>
  unfold BY putL
  by_cases q:y=x
  ·subst q
   have:Value.isStr (.str y tt) y=true:=by simp [Value.isStr]
   rw [if_pos rfl]
   simp only [this,if_true]
   exact ⟨.cons hv (by assumption),by simp⟩
  ·have:Value.isStr (.str y tt) x=false:=by simp [Value.isStr,q]
   rw [if_neg q]
   simp only [this,Bool.false_eq_true,if_false]
   exact ⟨.cons hu ih.1,by simpa using ih.2⟩
theorem BX.length {es:List (Str×AV)} {ds:List DictEntry} (h:BX Z as es ds):es.length=ds.length:=by
 induction h with
 | nil=>rfl
 | cons _ _ ih=>simp [ih]
theorem Jv {Q:Unit→Shared→Prop} {objs':List AO} {T:Tb} {name:Str} {v b:AV} {x u:Value} (hT:∀ C r,T.res C name=some r→Cw W C name r) (S:Sta W Z L as st s) (h:Jw st.objs T name v b=some objs') (hb:Is Z as b x) (hv:Is Z as v u)
  (q:∀ s',Sta W Z L as {st with objs:=objs'} s'→Evo [L] Z Z as as s s'→Q () s'):wpAny W.M A (setAttr x name u) Q E s:=by
 refine AE h fun i hi0 h=>AE h fun o hi h=>AE h fun c hc h=>AE h fun od hd h=>AE h fun es hes0 h=>AE h fun r hr h=>A1 h fun hg h=>?_
 rw [ED hi0] at hb
 rw [GR hc] at hi
 rw [G8 hes0] at hd
 rw [isDat_e (bt hg).1] at hr
 have hl:=of_decide_eq_true (bt hg).2
 obtain rfl:=Option.some.inj h
 cases hb using Is.e_own with
 | _ _ hx =>
  refine IC (DC S.ow hi hd hx) fun dx sl ds n hdx I hes hdo=>?_
  refine KP (hT _ _ hr) fun a1 a2 a3 a4 a5=>?_
  have pe:=putName_dict name (PyData.keyHash W.w.params name) (.str name (s.toks+1)) u ds n
  refine set_plain S.zn.kIn I a4 ?_
  have key:=hes.put (x:=name) (hsh:=PyData.keyHash W.w.params name) (t:=s.toks+1) hv
  refine osa_raw (s:={s with toks:=s.toks+1}) (es:=putL name (PyData.keyHash W.w.params name) (.str name (s.toks+1)) u ds) S.zn.kIn I rfl a5 (by unfold takerIn;rw [a3];rfl) a2 ?_ pe rfl (by have:=key.2;have:=hes.length;lia) fun h' hs ho=>?_
  ·refine (?_:(lookIn name (dictOf ds n)).isSome=true)
   rw [lookIn_dict]
   cases hq:es.lookup name with
   | none=>rw [hes.look.2 hq];rfl
   | some a=>refine AG (hes.look.1 a hq) fun w hw ζ=>?_;rw [hw];rfl
  ·obtain ⟨S',e'⟩:=S.setObj (tk:=s.toks+2) hdx hs ho (.dict key.1)
   exact q _ S' e'
theorem Es {α:Type} {x y:Str} {v:α}:∀ {l:List (Str×α)},(BY x v l).lookup y=if y=x then some v else l.lookup y
 | []=>by
  unfold BY
  by_cases h:y=x
  ·subst h;rw [List.lookup_cons_self,if_pos rfl]
  ·rw [List.lookup_cons,beq_false_of_ne h,if_neg h]
 | (z,u)::l=>by
  unfold BY
  by_cases hz:z=x
  ·subst hz
   rw [if_pos rfl]
   by_cases h:y=z
   ·subst h;rw [List.lookup_cons_self,if_pos rfl]
   ·rw [List.lookup_cons,beq_false_of_ne h,if_neg h,List.lookup_cons,beq_false_of_ne h]
  ·rw [if_neg hz]
   by_cases h:y=z
   ·subst h;rw [List.lookup_cons_self,if_neg hz,List.lookup_cons_self]
   ·rw [List.lookup_cons,beq_false_of_ne h,List.lookup_cons,beq_false_of_ne h]
    exact Es
theorem BQ {x:Str} {a:AV} {u:Value} {Q:Unit→Shared→Prop} (hE:Aq env sc L) (S:Sta W Z L as st s) (hx:sc.names.lookup x=some .local) (hu:Is Z as a u)
  (q:∀ s',Sta W Z L as {st with loc:=BY x a st.loc} s'→Evo [L] Z Z as as s s'→Q () s'):wpAny W.M A (storeName env x u) Q E s:=by
 refine AG (S.fr.ns) fun m hn hm=>?_
 refine wpAny_storeName_local ((hE.kindOf x).trans hx) (by rw [hE.locals];exact hn) (fun h' hn' hs=>?_) (by rw [hE.kd];rfl)
 rw [hE.locals] at hn' hs
 have out:∀ b o,Z b o→h'.get? b=some o:=fun b o e=>(hs.2 b fun z=>S.fr.out.1 _ (z▸e)).trans (S.zn.keep b o e)
 refine q _ ⟨⟨S.zn.kin,out,S.zn.low,fun t ht=>?_⟩,⟨S.ow.len,fun i b y e1 e2=>?_,S.ow.nodup,S.ow.out⟩,⟨⟨_,hn',fun y b e=>?_⟩,S.fr.notIn,S.fr.out⟩⟩ (Evo.set (.inr (by simp)) hs)
 ·refine AG (S.zn.tab t ht) fun vs e tv=>?_
  exact ⟨vs,(hs.2 t fun z=>S.fr.out.2 (z▸ht)).trans e,tv⟩
 ·refine AG (S.ow.obj i b y e1 e2) fun o h1 h2=>?_
  exact ⟨o,(hs.2 b fun z=>S.fr.notIn (z▸List.mem_of_getElem? e1)).trans h1,h2⟩
 ·rw [Es] at e
  by_cases h:y=x
  ·subst h
   rw [if_pos rfl] at e
   cases e
   exact ⟨u,by simp,hu⟩
  ·rw [if_neg h] at e
   refine AG (hm y b e) fun v h1 h2=>?_
   exact ⟨v,by simp [h,h1],h2⟩
end
section
variable {W:Wd} {Z:AK} {L:Addr} {as:List Addr} {st:ST} {M:Model} {A:Around} {E:Value→Shared→Prop} {s:Shared} {env:Env} {sc:Scope} {k:Nat}
theorem D2 {v:Expr} {t:Option Expr} {l:Nat} (h:CV v=true):swapsWith v t l env=pure false:=by
 unfold swapsWith
 induction v using Expr.casesOn <;> first | rfl | exact ff h
theorem Aq.inter (hE:Aq env sc L):interactive env=false:=by
 unfold interactive
 rw [hE.kd];rfl
theorem AH.expr {e:Expr} {pos:Pos} {st₁:ST} {v:AV} (hc:CV e=true) (hp:Dz v=true) (h:AA W k sc e st v st₁):AH W k sc (.Expr e pos) st .next st₁:=by
 intro Z L as s A Q E env hE hR hS q
 refine wpAny_Expr (h _ _ _ _ _ _ _ _ hE hR hS fun Z₁ as₁ u s₁ S₁ e₁ hu=>?_) hE.inter (D2 hc)
 induction hu using Is.casesOn <;> first | exact q _ _ _ _ S₁ e₁ .next | exact ff hp
theorem AH.assign {x:Str} {p pos:Pos} {e:Expr} {st₁:ST} {v:AV} (hc:CV e=true) (hx:sc.names.lookup x=some .local) (h:AA W k sc e st v st₁):AH W k sc (.Assign [.Name x p] e pos) st .next {st₁ with loc:=BY x v st₁.loc}:=by
 intro Z L as s A Q E env hE hR hS q
 refine wpAny_Assign_Name (h _ _ _ _ _ _ _ _ hE hR hS fun Z₁ as₁ u s₁ S₁ e₁ hu=>?_) (D2 hc)
 exact BQ hE S₁ hx hu fun s₂ S₂ e₂=>q _ _ _ _ S₂ (e₁.trans e₂) .next
theorem AH.assignAttr {ob e:Expr} {a:Str} {p pos:Pos} {st₁ st₂:ST} {v b:AV} {objs':List AO} {T:Tb} (hT:∀ C r,T.res C a=some r→Cw W C a r) (hc:CV e=true) (h1:AA W k sc e st v st₁) (h2:AA W k sc ob st₁ b st₂)
  (h:Jw st₂.objs T a v b=some objs'):AH W k sc (.Assign [.Attribute ob a p] e pos) st .next {st₂ with objs:=objs'}:=by
 intro Z L as s A Q E env hE hR hS q
 refine plainObj_wpAny_Assign_Attribute (h1 _ _ _ _ _ _ _ _ hE hR hS fun Z₁ as₁ u s₁ S₁ e₁ hu=>h2 _ _ _ _ _ _ _ _ hE hR S₁ fun Z₂ as₂ x s₂ S₂ e₂ hx=>?_) (D2 hc)
 exact Jv hT S₂ h hx (hu.evo e₂) fun s₃ S₃ e₃=>q _ _ _ _ S₃ ((e₁.trans e₂).trans e₃) .next
theorem LC {v:AV} {name:Str} {x:Value} {i d:Nat} {C:Addr} {es:List (Str×AV)} {r:AV} {Q:Value→Shared→Prop} (S:Sta W Z L as st s) (hx:Is Z as (.own i) x) (hi:st.objs[i]?=some (.inst C d)) (hd:st.objs[d]?=some (.dict es)) (hr:Cw W C name .data)
  (he:es.lookup name=some r) (hn:∀ v,r≠.top v) (q:∀ u tk,Is Z as r u→Q u {s with toks:=tk}):wpAny W.M A (getAttr x name true) Q E s:=by
 cases hx using Is.e_own with
 | _ _ hx =>
  refine IC (DC S.ow hi hd hx) fun dx sl ds n hdx I hes ζ=>?_
  refine AG (hes.look.1 r he) fun u hg hu=>?_
  refine KP hr fun a1 a2 a3 a4 a5=>?_
  exact get_value S.zn.kIn I (plainGet_of a1).1 (findObj_own a2 a3 rfl hg) (CY hu hn) (q _ _ hu)
theorem AH.augAttr {ob e:Expr} {a:Str} {p pos:Pos} {st₁ st₂:ST} {i d:Nat} {C:Addr} {es:List (Str×AV)} {x y:Str} {objs':List AO} {T:Tb} (hT:∀ C r,T.res C a=some r→Cw W C a r) (h1:AA W k sc ob st (.own i) st₁)
  (hi:st₁.objs[i]?=some (.inst C d)) (hd:st₁.objs[d]?=some (.dict es)) (hr:Cw W C a .data) (he:es.lookup a=some (.str x)) (h2:AA W k sc e st₁ (.str y) st₂) (hsz:x.length+y.length≤sizeLine)
  (h:Jw st₂.objs T a (.str (x++y)) (.own i)=some objs'):AH W k sc (.AugAssign (.Attribute ob a p) .Add e pos) st .next {st₂ with objs:=objs'}:=by
 intro Z L as s A Q E env hE hR hS q
 refine wpAny_AugAssign_AttributeAny (h1 _ _ _ _ _ _ _ _ hE hR hS fun Z₁ as₁ o s₁ S₁ e₁ ho=>?_)
 refine LC (v:=.none) S₁ ho hi hd hr he (fun ζ z=>by cases z) fun u tk hu=>?_
 refine h2 _ _ _ _ _ _ _ _ hE hR (S₁.toks tk) fun Z₂ as₂ w s₂ S₂ e₂ hw=>?_
 cases hu using Is.e_str;cases hw using Is.e_str
 refine PyProof.Rows.iadd_str (fun t' tk'=>?_) hsz
 exact Jv hT (S₂.toks tk') h (ho.evo e₂) (.str t' (by rw [strLen_append];exact hsz)) fun s₃ S₃ e₃=>q _ _ _ _ S₃ (((e₁.trans .refl).trans e₂).trans ((Evo.refl (t:=tk')).trans e₃)) .next
theorem AH.augInt {x:Str} {e:Expr} {p pos:Pos} {st₁:ST} {a b:Int} (hx:sc.names.lookup x=some .local) (ha:st.loc.lookup x=some (.int a)) (h:AA W k sc e st (.int b) st₁):AH W k sc (.AugAssign (.Name x p) .Add e pos) st .next {st₁ with loc:=BY x (.int (a+b)) st₁.loc}:=by
 intro Z L as s A Q E env hE hR hS q
 refine wpAny_AugAssign_Name (CX hE hS hx ha fun u hu=>h _ _ _ _ _ _ _ _ hE hR hS fun Z₁ as₁ w s₁ S₁ e₁ hw=>?_)
 cases hu using Is.e_int;cases hw using Is.e_int
 refine PyProof.Rows.iadd_int ?_
 exact BQ hE (S₁.toks _) hx (.int _ _) fun s₂ S₂ e₂=>q _ _ _ _ S₂ (e₁.trans (Evo.refl.trans e₂)) .next
theorem AH.ifS {t:Expr} {b e:List Stmt} {pos:Pos} {st₁ st₂:ST} {c:Bool} {f:AF} (h1:AL W k sc t st c st₁) (h2:A8 W k sc (if c then b else e) st₁ f st₂):AH W k sc (.If t b e pos) st f st₂:=by
 intro Z L as s A Q E env hE hR hS q
 refine wpAny_If (h1 _ _ _ _ _ _ _ _ hE hR hS fun Z₁ as₁ s₁ S₁ e₁=>?_)
 induction c using Bool.casesOn <;> exact h2 _ _ _ _ _ _ _ _ hE hR S₁ fun Z₂ as₂ u s₂ S₂ e₂ hu=>q _ _ _ _ S₂ (e₁.trans e₂) hu
theorem AH.ret {e:Expr} {pos:Pos} {st₁:ST} {v:AV} (h:AA W k sc e st v st₁):AH W k sc (.Return (some e) pos) st (.ret v) st₁:=by
 intro Z L as s A Q E env hE hR hS q
 exact wpAny_Return_some (h _ _ _ _ _ _ _ _ hE hR hS fun Z₁ as₁ u s₁ S₁ e₁ hu=>q _ _ _ _ S₁ e₁ (.ret hu))
theorem AH.ret0 {pos:Pos}:AH W k sc (.Return none pos) st (.ret .none) st:=by
 intro Z L as s A Q E env hE hR hS q
 exact wpAny_Return_none (q _ _ _ _ hS .refl' (.ret .none))
theorem AH.pass {pos:Pos}:AH W k sc (.Pass pos) st .next st:=by
 intro Z L as s A Q E env hE hR hS q
 exact wpAny_Pass (q _ _ _ _ hS .refl' .next)
theorem AH.brk {pos:Pos}:AH W k sc (.Break pos) st .brk st:=by
 intro Z L as s A Q E env hE hR hS q
 exact wpAny_Break (q _ _ _ _ hS .refl' .brk)
theorem AH.cont {pos:Pos}:AH W k sc (.Continue pos) st .cont st:=by
 intro Z L as s A Q E env hE hR hS q
 exact wpAny_Continue (q _ _ _ _ hS .refl' .cont)
theorem AH.asrt {t:Expr} {m:Option Expr} {pos:Pos} {st₁:ST} (h:AL W k sc t st true st₁):AH W k sc (.Assert t m pos) st .next st₁:=by
 intro Z L as s A Q E env hE hR hS q
 show wpAny W.M A (do
  standAt pos
  if ← isTrue t env (eval t env) then pure .next else assertFails t.pos (evalOpt m env)) Q E s
 refine wpAny_bind (wpAny_standAt (wpAny_bind (h _ _ _ _ _ _ _ _ hE hR hS fun Z₁ as₁ s₁ S₁ e₁=>?_)))
 exact wpAny_pure (q _ _ _ _ S₁ e₁ .next)
theorem A8.nil:A8 W k sc [] st .next st:=by
 intro Z L as s A Q E env hE hR hS q
 exact wpAny_execs_nil (q _ _ _ _ hS .refl' .next)
theorem A8.cons {b:Stmt} {r:List Stmt} {st₁ st₂:ST} {f:AF} (h1:AH W k sc b st .next st₁) (h2:A8 W k sc r st₁ f st₂):A8 W k sc (b::r) st f st₂:=by
 intro Z L as s A Q E env hE hR hS q
 refine wpAny_execs_cons (h1 _ _ _ _ _ _ _ _ hE hR hS fun Z₁ as₁ u s₁ S₁ e₁ hu=>?_)
 cases hu using IsF.e_next
 exact h2 _ _ _ _ _ _ _ _ hE hR S₁ fun Z₂ as₂ u s₂ S₂ e₂ hu=>q _ _ _ _ S₂ (e₁.trans e₂) hu
theorem A8.stop {b:Stmt} {r:List Stmt} {st₁:ST} {f:AF} (h1:AH W k sc b st f st₁) (hf:f≠.next):A8 W k sc (b::r) st f st₁:=by
 intro Z L as s A Q E env hE hR hS q
 refine wpAny_execs_cons (h1 _ _ _ _ _ _ _ _ hE hR hS fun Z₁ as₁ u s₁ S₁ e₁ hu=>?_)
 induction hu using IsF.casesOn with
 | next=>exact absurd rfl hf
 | brk=>exact q _ _ _ _ S₁ e₁ .brk
 | cont=>exact q _ _ _ _ S₁ e₁ .cont
 | ret h=>exact q _ _ _ _ S₁ e₁ (.ret h)
theorem AA.prop {v:Expr} {name:Str} {pos:Pos} {st₁:ST} {i d:Nat} {C f:Addr} {es:List (Str×AV)} {r:AV} {objs':List AO} (hs:Am v=true) (h1:AA W (k+1) sc v st (.own i) st₁)
  (hi:st₁.objs[i]?=some (.inst C d)) (hd:st₁.objs[d]?=some (.dict es)) (hr:Cw W C name (.prop f)) (hf:BG W k (.ref f) [.own i] st₁.objs r objs') (hn:Dz r=true):AA W (k+1) sc (.Attribute v name pos) st r {st₁ with objs:=objs'}:=by
 intro Z L as s A Q E env hE hR hS q
 refine Attribute_any_ (h1 _ _ _ _ _ _ _ _ hE hR hS fun Z₁ as₁ u s₁ S₁ e₁ hu=>?_) (EK hs)
 cases hu using Is.e_own with
 | _ _ hx =>
  refine IC (DC S₁.ow hi hd hx) fun dx sl ds n hdx I hes ζ=>?_
  refine KL hr fun p rest a1 a2 a3 a4 a5 a6=>?_
  refine get_bind S₁.zn.kIn I (plainGet_of a1).1 (findObj_data (by refine AG (any_some a2) fun cd hc ζ=>?_;rw [hc];rfl) a3 a4 a5) (plainGet_of a1).2 (wpAny_call (prop_get (s:={s₁ with toks:=s₁.toks+1}) S₁.zn.kIn a6 ?_))
  refine codeAny_mono (hf _ _ _ {s₁ with toks:=s₁.toks+1} _ (fun v s'=>wpAny W.M A (handedOut v) Q E s') hR.in1 S₁.zn S₁.ow (.cons (.own hx) .nil) fun Z₂ as₂ u s₂ zn₂ ow₂ e₂ hu=>?_) fun r s' z=>?_
  ·refine (?_:wpAny _ _ (handedOut u) _ _ _);rw [handedOut_of (CY hu (fun v z=>by rw [z] at hn;exact ff hn))]
   obtain ⟨S₂,e₂'⟩:=(S₁.toks (s₁.toks+1)).called zn₂ ow₂ e₂
   exact wpAny_pure (q _ _ _ _ S₂ (e₁.trans (Evo.refl.trans e₂')) hu)
  ·rcases r with e | (_ | _ | _ | v) <;> first | exact z | exact z.elim
end
end Mine
end
section
set_option maxRecDepth 100000
namespace Mine
open PySem PySem.W PyProof.Rows PySem.Calls PySem.Spec
variable [T₀:AY]
theorem EB:PlainAttrs "re.Match" :=
 ⟨⟨"object.__getattribute__",by rw [typeLookup_type,builtinLookup_eq_fast];kernel_rfl,by decide +kernel⟩,by rw [typeLookup_type,builtinLookup_eq_fast];kernel_rfl⟩
theorem CO:Slot "re.Match" "group" "re.Match.group" :=
 .of (owner:="re.Match") (n:="group") (by rw [typeLookup_type,builtinLookup_eq_fast];kernel_rfl) (by decide +kernel) (by decide +kernel) (by decide +kernel)
  (by first | exact .inl (by decide +kernel) | exact .inr (by decide +kernel)) (by rw [isSubtype_type];kernel_rfl)
theorem Du:typeOf (.builtin "re.Match.group")=pure (.type "method_descriptor"):=by refine (?_:builtinType _=_);rw [builtinType_eq_fast];kernel_rfl
theorem C7:Slot "re.Match" "span" "re.Match.span" :=
 .of (owner:="re.Match") (n:="span") (by rw [typeLookup_type,builtinLookup_eq_fast];kernel_rfl) (by decide +kernel) (by decide +kernel) (by decide +kernel)
  (by first | exact .inl (by decide +kernel) | exact .inr (by decide +kernel)) (by rw [isSubtype_type];kernel_rfl)
theorem E1:typeOf (.builtin "re.Match.span")=pure (.type "method_descriptor"):=by refine (?_:builtinType _=_);rw [builtinType_eq_fast];kernel_rfl
theorem Em:PlainAttrs "re.Pattern" :=
 ⟨⟨"object.__getattribute__",by rw [typeLookup_type,builtinLookup_eq_fast];kernel_rfl,by decide +kernel⟩,by rw [typeLookup_type,builtinLookup_eq_fast];kernel_rfl⟩
theorem C6:Slot "re.Pattern" "search" "re.Pattern.search" :=
 .of (owner:="re.Pattern") (n:="search") (by rw [typeLookup_type,builtinLookup_eq_fast];kernel_rfl) (by decide +kernel) (by decide +kernel) (by decide +kernel)
  (by first | exact .inl (by decide +kernel) | exact .inr (by decide +kernel)) (by rw [isSubtype_type];kernel_rfl)
theorem E0:typeOf (.builtin "re.Pattern.search")=pure (.type "method_descriptor"):=by refine (?_:builtinType _=_);rw [builtinType_eq_fast];kernel_rfl
theorem Bq:Slot "re.Pattern" "fullmatch" "re.Pattern.fullmatch" :=
 .of (owner:="re.Pattern") (n:="fullmatch") (by rw [typeLookup_type,builtinLookup_eq_fast];kernel_rfl) (by decide +kernel) (by decide +kernel) (by decide +kernel)
  (by first | exact .inl (by decide +kernel) | exact .inr (by decide +kernel)) (by rw [isSubtype_type];kernel_rfl)
theorem DK:typeOf (.builtin "re.Pattern.fullmatch")=pure (.type "method_descriptor"):=by refine (?_:builtinType _=_);rw [builtinType_eq_fast];kernel_rfl
theorem CU:Slot "re.Pattern" "sub" "re.Pattern.sub" :=
 .of (owner:="re.Pattern") (n:="sub") (by rw [typeLookup_type,builtinLookup_eq_fast];kernel_rfl) (by decide +kernel) (by decide +kernel) (by decide +kernel)
  (by first | exact .inl (by decide +kernel) | exact .inr (by decide +kernel)) (by rw [isSubtype_type];kernel_rfl)
theorem Fw:typeOf (.builtin "re.Pattern.sub")=pure (.type "method_descriptor"):=by refine (?_:builtinType _=_);rw [builtinType_eq_fast];kernel_rfl
theorem CI:Slot "re.Pattern" "subn" "re.Pattern.subn" :=
 .of (owner:="re.Pattern") (n:="subn") (by rw [typeLookup_type,builtinLookup_eq_fast];kernel_rfl) (by decide +kernel) (by decide +kernel) (by decide +kernel)
  (by first | exact .inl (by decide +kernel) | exact .inr (by decide +kernel)) (by rw [isSubtype_type];kernel_rfl)
theorem FS:typeOf (.builtin "re.Pattern.subn")=pure (.type "method_descriptor"):=by refine (?_:builtinType _=_);rw [builtinType_eq_fast];kernel_rfl
section
variable {W:Wd} {Z:AK} {L:Addr} {as:List Addr} {st:ST} {M:Model} {A:Around} {E:Value→Shared→Prop} {s:Shared} {env:Env} {sc:Scope} {k:Nat}
theorem Cl {x:Str} {t:Tok} {name:Str} {id:String} {h:Heap} (sl:Slot "str" name id) (ty:typeOf (.builtin id)=pure (.type "method_descriptor")):BL W Z as h (.str x t) name (.builtin id) :=
 ⟨fun A s Q E pl ζ q=>getMethod_builtin (typeIs_str _ _ _) F.plainAttrs_str sl ty (fun a e=>by cases e) q⟩
set_option tactic.hygienic true in
theorem Cx {T:Tb} (hT:∀ C name r,T.res C name=some r→Cw W C name r) (hP:∀ a,T.pat.contains a=true→Hc W a) {objs:List AO} {name:Str} {a:AV} {f:Value} (h:ET T objs name a=some f) :
  ∀ (Z:AK) (as:List Addr) (s:Shared) (u:Value),Zn W Z s.heap→Ow Z as objs s.heap→Is Z as a u→BL W Z as s.heap u name f:=by
 intro Z as s u zn ow hu
 refine C9 h (fun x hx h=>?_) fun h=>C9 h (fun pa hx h=>?_) fun h=>C9 h (fun m hm h=>?_) fun h=>AE h fun i hi h=>AE h fun ob hob h=>?_
 ·obtain ⟨t,rfl⟩:=Bs hx hu
  exact FL (P:=BL W Z as s.heap (.str x t)) h (Cl F.slot_str_lstrip F.type_str_lstrip) fun h=>FL (P:=BL W Z as s.heap (.str x t)) h (Cl F.slot_str_rstrip F.type_str_rstrip) fun h=>FL (P:=BL W Z as s.heap (.str x t)) h (Cl F.slot_str_startswith F.type_str_startswith)
   fun h=>FL (P:=BL W Z as s.heap (.str x t)) h (Cl F.slot_str_join F.type_str_join) fun h=>FL (P:=BL W Z as s.heap (.str x t)) h (Cl F.slot_str_replace F.type_str_replace) fun h=>no h
 ·rw [refI_e hx] at hu
  cases hu using Is.e_top
  refine A1 h fun hp h=>?_
  obtain ⟨fs,hk⟩:=hP _ hp
  have hz:=zn.keep _ _ (zn.kin _ _ hk)
  have T':∀ s':Shared,s'.heap=s.heap→s'.TypeIs (.ref pa) "re.Pattern":=fun s' e=>⟨_,by rw [e];exact hz,rfl⟩
  have D':∀ s':Shared,s'.heap=s.heap→∀ b,Value.ref pa=Value.ref b→∃ o,s'.heap.get? b=some o∧o.dict=none:=fun s' e b q=>Value.ref.inj q▸⟨_,e▸hz,rfl⟩
  have go:∀ {name:Str} {id:String},Slot "re.Pattern" name id→typeOf (.builtin id)=pure (.type "method_descriptor")→BL W Z as s.heap (.ref pa) name (.builtin id):=fun sl ty=>⟨fun A s' Q E pl e q=>getMethod_builtin (T' s' e) Em sl ty (D' s' e) q⟩
  exact FL (P:=BL W Z as s.heap (.ref pa)) h (go C6 E0) fun h=>FL (P:=BL W Z as s.heap (.ref pa)) h (go Bq DK) fun h=>FL (P:=BL W Z as s.heap (.ref pa)) h (go CU Fw)
   fun h=>FL (P:=BL W Z as s.heap (.ref pa)) h (go CI FS) fun h=>no h
 ·rw [GL hm] at hu
  cases hu using Is.e_mtch
  rename_i ma _ _ _ _ _ hz _
  have T':∀ s':Shared,s'.heap=s.heap→s'.TypeIs (.ref ma) "re.Match":=fun s' e=>⟨_,by rw [e];exact zn.keep _ _ hz,rfl⟩
  have D':∀ s':Shared,s'.heap=s.heap→∀ b,Value.ref ma=Value.ref b→∃ o,s'.heap.get? b=some o∧o.dict=none:=fun s' e b q=>Value.ref.inj q▸⟨_,e▸zn.keep _ _ hz,rfl⟩
  have go:∀ {name:Str} {id:String},Slot "re.Match" name id→typeOf (.builtin id)=pure (.type "method_descriptor")→BL W Z as s.heap (.ref ma) name (.builtin id):=fun sl ty=>⟨fun A s' Q E pl e q=>getMethod_builtin (T' s' e) EB sl ty (D' s' e) q⟩
  exact FL (P:=BL W Z as s.heap (.ref ma)) h (go CO Du) fun h=>FL (P:=BL W Z as s.heap (.ref ma)) h (go C7 E1) fun h=>no h
 ·rw [ED hi] at hu
  cases hu using Is.e_own
  rename_i ad ha
  refine C9 h (fun xs hx h=>A1 h fun hn h=>?_) fun h=>AE h fun c hc h=>AE h fun od hod h=>AE h fun es hes h=>AE h fun r hr h=>?_
  ·rw [Cz hx] at hob
   obtain rfl:=eq_of_beq hn
   obtain rfl:=Option.some.inj h
   refine AG (ow.obj _ _ _ ha hob) fun o h1 h2=>?_
   cases h2 using IsO.e_list
   exact ⟨fun A s' Q E pl e q=>Calls.getMethod_list_append (by rw [e];exact h1) rfl rfl q⟩
  ·rw [GR hc] at hob
   rw [G8 hes] at hod
   cases r with
   | data=>exact no h
   | prop _=>exact no h
   | meth g =>
    refine A1 h fun hn h=>?_
    obtain rfl:=Option.some.inj h
    refine IC (DC ow hob hod ha) fun dx sl ds n hdx I hds ζ=>?_
    refine oAA (hT _ _ _ hr) fun a1 a2 a3=>?_
    refine ⟨fun A s' Q E pl e q=>?_⟩
    rw [← e] at I
    refine method_fn (by rw [e];exact zn.kIn) I (plainGet_of a1).1 (plainGet_of a1).2 a2 (beq_iff_eq.mp a3) ?_ q
    refine (?_:(lookIn name (dictOf ds n)).map _=_)
    rw [lookIn_dict,hds.look.2 (Option.isNone_iff_eq_none.mp hn)];rfl
set_option backward.match.sparseCases true in
theorem AA.boolStop {x y:Expr} {r:List Expr} {op:BoolOp} {pos:Pos} {st₁:ST} {a:AV} {b:Bool} (h1:AA W k sc x st a st₁) (h:Cd st₁.objs a=some b) (hb:(op=.And∧b=false)∨(op=.Or∧b=true)):AA W k sc (.BoolOp op (x::y::r) pos) st a st₁:=by
 intro Z L as s A Q E env hE hR hS q
 show wpAny W.M A (do
  let v ← eval x env
  standAt pos
  let t ← holding [v] (truthy v)
  match op,t with
  | .And,false | .Or,true=>pure v
  | _,_=>boolOp pos op (evalEach (y::r) env)) Q E s
 refine wpAny_bind (h1 _ _ _ _ _ _ _ _ hE hR hS fun Z₁ as₁ u s₁ S₁ e₁ hu=>wpAny_bind (wpAny_standAt (wpAny_bind (wpAny_holding (D0 S₁.zn S₁.ow h hu fun tk=>?_)))))
 rcases hb with ⟨rfl,rfl⟩ | ⟨rfl,rfl⟩ <;> exact wpAny_pure (q _ _ _ _ (S₁.toks tk) (e₁.trans .refl) hu)
set_option backward.match.sparseCases true in
theorem AA.boolGo {x y:Expr} {r:List Expr} {op:BoolOp} {pos:Pos} {st₁ st₂:ST} {a v:AV} {b:Bool} (h1:AA W k sc x st a st₁) (h:Cd st₁.objs a=some b) (hb:¬ ((op=.And∧b=false)∨(op=.Or∧b=true))) (h2:AA W k sc (.BoolOp op (y::r) pos) st₁ v st₂):AA W k sc (.BoolOp op (x::y::r) pos) st v st₂:=by
 intro Z L as s A Q E env hE hR hS q
 show wpAny W.M A (do
  let v ← eval x env
  standAt pos
  let t ← holding [v] (truthy v)
  match op,t with
  | .And,false | .Or,true=>pure v
  | _,_=>boolOp pos op (evalEach (y::r) env)) Q E s
 refine wpAny_bind (h1 _ _ _ _ _ _ _ _ hE hR hS fun Z₁ as₁ u s₁ S₁ e₁ hu=>wpAny_bind (wpAny_standAt (wpAny_bind (wpAny_holding (D0 S₁.zn S₁.ow h hu fun tk=>?_)))))
 have z:=h2 _ _ _ _ _ _ E _ hE hR (S₁.toks tk) fun Z₂ as₂ w s₂ S₂ e₂ hw=>q _ _ _ _ S₂ ((e₁.trans .refl).trans e₂) hw
 induction op using BoolOp.casesOn <;> induction b using Bool.casesOn <;> first | exact z | exact absurd (.inl ⟨rfl,rfl⟩) hb | exact absurd (.inr ⟨rfl,rfl⟩) hb
noncomputable def Bu (W:Wd) (k:Nat) (sc:Scope) (op:BoolOp) (xs:List Expr) (st:ST) (b:Bool) (st':ST):Prop :=
 ∀ (Z:AK) (L:Addr) (as:List Addr) (s:Shared) (A:Around) (Q:Bool→Shared→Prop) (E:Value→Shared→Prop) (env:Env),Aq env sc L→Ae A k→Sta W Z L as st s →
  TsQ W L Z as s b st' Q →
  wpAny W.M A (allTrue op xs env) Q E s
theorem Bu.test {op:BoolOp} {xs:List Expr} {pos:Pos} {st₁:ST} {b:Bool} (h:Bu W k sc op xs st b st₁):AL W k sc (.BoolOp op xs pos) st b st₁:=by
 intro Z L as s A Q E env hE hR hS q
 exact wpAny_isTrue_BoolOp (h _ _ _ _ _ _ _ _ hE hR hS q)
theorem Bu.nil {op:BoolOp}:Bu W k sc op [] st (op==.And) st:=by
 intro Z L as s A Q E env hE hR hS q
 exact wpAny_pure (q _ _ _ hS .refl')
theorem Bu.stop {x:Expr} {r:List Expr} {op:BoolOp} {st₁:ST} {b:Bool} (h1:AL W k sc x st b st₁) (hb:(op=.And∧b=false)∨(op=.Or∧b=true)):Bu W k sc op (x::r) st b st₁:=by
 intro Z L as s A Q E env hE hR hS q
 rcases hb with ⟨rfl,rfl⟩ | ⟨rfl,rfl⟩
 ·exact wpAny_allTrue_And_cons (h1 _ _ _ _ _ _ _ _ hE hR hS fun Z₁ as₁ s₁ S₁ e₁=>by rw [if_neg (by decide)];exact q _ _ _ S₁ e₁)
 ·exact wpAny_allTrue_Or_cons (h1 _ _ _ _ _ _ _ _ hE hR hS fun Z₁ as₁ s₁ S₁ e₁=>by rw [if_pos rfl];exact q _ _ _ S₁ e₁)
theorem Bu.go {x:Expr} {r:List Expr} {op:BoolOp} {st₁ st₂:ST} {b c:Bool} (h1:AL W k sc x st b st₁) (hb:¬ ((op=.And∧b=false)∨(op=.Or∧b=true))) (h2:Bu W k sc op r st₁ c st₂):Bu W k sc op (x::r) st c st₂:=by
 intro Z L as s A Q E env hE hR hS q
 induction op using BoolOp.casesOn with
 | And =>
  induction b using Bool.casesOn with
  | false=>exact absurd (.inl ⟨rfl,rfl⟩) hb
  | true=>exact wpAny_allTrue_And_cons (h1 _ _ _ _ _ _ _ _ hE hR hS fun Z₁ as₁ s₁ S₁ e₁=>by rw [if_pos rfl];exact h2 _ _ _ _ _ _ _ _ hE hR S₁ fun Z₂ as₂ s₂ S₂ e₂=>q _ _ _ S₂ (e₁.trans e₂))
 | Or =>
  induction b using Bool.casesOn with
  | true=>exact absurd (.inr ⟨rfl,rfl⟩) hb
  | false=>exact wpAny_allTrue_Or_cons (h1 _ _ _ _ _ _ _ _ hE hR hS fun Z₁ as₁ s₁ S₁ e₁=>by rw [if_neg (by decide)];exact h2 _ _ _ _ _ _ _ _ hE hR S₁ fun Z₂ as₂ s₂ S₂ e₂=>q _ _ _ S₂ (e₁.trans e₂))
end
end Mine
end
section
set_option maxRecDepth 10000
namespace Mine
open PySem PySem.W PyProof.Rows PySem.Calls PySem.Spec
variable [T₀:AY]
section
variable {W:Wd} {Z:AK} {L:Addr} {as:List Addr} {st:ST} {M:Model} {A:Around} {E:Value→Shared→Prop} {s:Shared} {env:Env} {sc:Scope} {k:Nat}
structure KOk (W:Wd):Prop where
 lim:∀ h:Heap,W.K.In h→h.NoLimit
theorem Cn {α:Type} {x:Str}:∀ {names:List Str} {vs:List α},names.Nodup→(names.zip vs).reverse.lookup x=(names.zip vs).lookup x:=by
 intro names vs hn
 have key:∀ (l:List (Str×α)),(l.map (·.1)).Nodup→l.reverse.lookup x=l.lookup x:=by
  intro l
  induction l with
  | nil=>intro _;rfl
  | cons p l ih =>
   obtain ⟨y,v⟩:=p
   intro h
   simp only [List.map_cons,List.nodup_cons] at h
   rw [List.reverse_cons,List.lookup_append,ih h.2]
   by_cases q:x=y
   ·subst q
    rw [List.lookup_cons_self]
    have:l.lookup x=none:=by
     rw [List.lookup_eq_none_iff]
     intro p hp
     simp only [beq_eq_false_iff_ne,bne_iff_ne,ne_eq]
     rintro rfl
     exact h.1 (List.mem_map_of_mem hp)
    rw [this];simp
   ·have e:List.lookup x [(y,v)]=none:=by rw [List.lookup_cons,beq_false_of_ne q];rfl
    rw [e,List.lookup_cons,beq_false_of_ne q]
    cases l.lookup x <;> rfl
 refine key _ ?_
 have:∀ (names:List Str) (vs:List α),((names.zip vs).map (·.1)).Sublist names:=by
  intro names
  induction names with
  | nil=>intro vs;simp
  | cons y names ih =>
   intro vs
   induction vs using List.casesOn with
   | nil=>simp
   | cons v vs=>rw [List.zip_cons_cons,List.map_cons];exact (ih vs).cons_cons _
 exact (this _ _).nodup hn
theorem ES {names:List Str} {args:List AV} {vals:List Value} (h:IsL Z as args vals):∀ x a,(names.zip args).lookup x=some a→∃ v,(names.zip vals).lookup x=some v∧Is Z as a v :=
 h.ind (P:=fun args vals=>∀ names:List Str,∀ x a,(names.zip args).lookup x=some a→∃ v,(names.zip vals).lookup x=some v∧Is Z as a v)
  (fun names x a h=>by rw [List.zip_nil_right] at h;exact no h) (fun {_ v _ _} hv _ ih names x a h=>by
   induction names using List.casesOn with
   | nil=>exact no h
   | cons y names =>
    rw [List.zip_cons_cons] at h ⊢
    by_cases q:x=y
    ·subst q
     rw [List.lookup_cons_self] at h ⊢
     exact ⟨v,rfl,Option.some.inj h▸hv⟩
    ·rw [List.lookup_cons,beq_false_of_ne q] at h ⊢
     exact ih names x a h) names
noncomputable def AF.val:AF→AV
 | .ret v=>v
 | _=>.none
theorem BG.ofDef {f:Addr} {oc:Value} {od:Option Addr} {osl:Array (Option Value)} {fd:FuncData} {body:List Stmt} {args:List AV} {names:List Str} {objs:List AO} {fl:AF} {st':ST} (kok:KOk W)
  (hK:W.K.lookup f=some ⟨oc,od,.func fd,osl⟩) (hbody:fd.body=.stmts body) (hcode:codeIn W.K fd.code fd.qualname=true) (hbind:∀ (vals:List Value) (s:Shared),W.K.In s.heap→vals.length=args.length→BindsTo s fd ⟨vals,[]⟩ (names.zip vals))
  (hn:names.Nodup) (hcell:(fd.scope.names.all fun x=>decide (x.2≠.cell))=true) (hloc:(names.all fun x=>decide (fd.scope.names.lookup x=some .local))=true) (hg:fd.globals=mainGlobals) (hb:fd.builtins=builtinsNs)
  (hco:fd.scope.isCoroutine=false) (hgen:fd.scope.isGenerator=false) (hk:fd.scope.kind=.function) (hcd:∀ c q,DW fd.scope=some (c,q)→fd.code=.ref c∧fd.qualname++(".<locals>.":Str)=q)
  (h:A8 W k fd.scope body ⟨names.zip args,objs⟩ fl st'):BG W (k+1) (.ref f) args objs fl.val st'.objs:=by
 intro Z as vals s A Q hR zn ow hv q
 have hd:=hR.depth
 refine codeAny_call_def (fd:=fd) (binds:=names.zip vals) (by refine (?_:A.depth<1000);exact lin (by assumption) (by simp +arith only)) (zn.kIn _ _ hK) rfl (kok.lim _ zn.kIn) (codeRec_of zn.kIn hcode) hbody (hbind vals s zn.kIn hv.length.symm)
  (fun x hx=>of_decide_eq_true (List.all_eq_true.mp hcell x hx)) (fun x hx=>of_decide_eq_true (List.all_eq_true.mp hloc x.1 (List.of_mem_zip (a:=x.1) (b:=x.2) hx).1)) (fun h₀ hns hk₀=>?_) hco hgen hk
 have hsz:s.heap.objs.size≤h₀.objs.size:=Nat.le_of_lt hns.lt
 have noIn:∀ a∈as,a<s.heap.objs.size:=fun a ha=>by
  refine oEP (List.getElem_of_mem ha) fun i hi r2_=>?_;subst r2_
  have hi':i<objs.length:=by rw [← ow.len];exact hi
  refine AG (ow.obj i _ objs[i] (List.getElem?_eq_getElem hi) (List.getElem?_eq_getElem hi')) fun o h1 ζ=>?_
  exact Heap.lt_size h1
 have S:Sta W Z s.heap.objs.size as ⟨names.zip args,objs⟩ {s with heap:=h₀,toks:=s.toks+(names.zip vals).length}:=by
  refine ⟨zn.grow ⟨hk₀,hsz⟩,ow.grow ⟨hk₀,hsz⟩,⟨⟨_,hns,fun x a e=>?_⟩,fun z=>absurd (noIn _ z) (Nat.lt_irrefl _),fun o z=>absurd (Heap.lt_size (zn.keep _ _ z)) (Nat.lt_irrefl _),fun z=>AG (zn.tab _ z) fun vs e ζ=>absurd (Heap.lt_size e) (Nat.lt_irrefl _)⟩⟩
  refine AG (ES hv x a e) fun v h1 h2=>?_
  exact ⟨v,by rw [Cn hn];exact h1,h2⟩
 refine h _ _ _ _ _ _ _ _ ⟨rfl,rfl,hg,hb,hk,hcd⟩ (hR.down (by refine (?_:A.depth+1≤A.depth+9);simp +arith only) (by refine (?_:A.units+3≤A.units+99);simp +arith only) rfl) S fun Z' as' u s' S' e hu=>?_
 have e':Evo [] Z Z' as as' s s':=by
  refine AG e.pre fun more r1_ hm=>?_;subst r1_
  refine ⟨e.zsub,fun b o z=>(e.znew b o z).imp id (Nat.le_trans hsz),⟨more,rfl,fun a ha=>Nat.le_trans hsz (hm a ha)⟩,fun b o h1 ζ h3 h4=>e.keep b o (hk₀ b o h1) (fun z=>?_) h3 h4,Nat.le_trans hsz e.size,e.gens,e.drawn,e.os⟩
  rw [List.mem_singleton.mp z] at h1
  exact absurd (Heap.lt_size h1) (Nat.lt_irrefl _)
 refine q _ _ _ _ S'.zn S'.ow e' ?_
 induction hu using IsF.casesOn <;> first | exact .none | assumption
theorem CS {R:Result→Shared→Prop} {prog:Program} {w:World} {test:Expr} {body orelse:List Stmt}
  (h:wpAny (model prog w) A (isTrue test env (eval test env)) (fun b s₂ =>
    if b then wpAny (model prog w) A (execs body env) (fun f s₃=>match f with
      | .next | .cont=>codeAny (model prog w) A (.whileLoop test body orelse env) R s₃
      | .brk=>R (.ok .next) s₃
      | .ret v=>R (.ok (.ret v)) s₃) (notedBy (model prog w) A env fun e s'=>R (.error e) s') s₂
    else wpAny (model prog w) A (execs orelse env) (fun f s₃=>R (.ok f) s₃) (notedBy (model prog w) A env fun e s'=>R (.error e) s') s₂)
    (notedBy (model prog w) A env fun e s'=>R (.error e) s') s):codeAny (model prog w) A (.whileLoop test body orelse env) R s:=by
 refine codeAny_of_tree ?_
 refine (?_:wpAny _ A ((whileTurn test body orelse env).onRaise (fun x=>do noteFrame x env;theTreesLotGoes x)) _ _ s)
 refine wpAny_noted ?_
 simp only [whileTurn]
 refine wpAny_bind (wpAny_mono h (fun b s₂ h₂=>?_) fun ζ ζ h'=>h')
 induction b using Bool.casesOn with
 | false =>
  simp only [Bool.false_eq_true,if_false] at h₂ ⊢
  exact wpAny_bind (wpAny_mono h₂ (fun f s₃ h₃=>wpAny_pure h₃) fun ζ ζ h'=>h')
 | true =>
  simp only [if_true] at h₂ ⊢
  refine wpAny_bind (wpAny_mono h₂ (fun f s₃ h₃=>?_) fun ζ ζ h'=>h')
  cases f with
  | next=>exact wpAny_pure ⟨rfl,h₃⟩
  | cont=>exact wpAny_pure ⟨rfl,h₃⟩
  | brk=>exact wpAny_pure h₃
  | ret v=>exact wpAny_pure h₃
class inductive BF (W:Wd) (k:Nat) (sc:Scope) (test:Expr) (body orelse:List Stmt):ST→AF→ST→Prop where
 | stop {st st₁ st₂:ST} {f:AF}:AL W k sc test st false st₁→A8 W k sc orelse st₁ f st₂→BF W k sc test body orelse st f st₂
 | go {st st₁ st₂ st₃:ST} {f g:AF}:AL W k sc test st true st₁→A8 W k sc body st₁ f st₂→(f=.next∨f=.cont)→BF W k sc test body orelse st₂ g st₃→BF W k sc test body orelse st g st₃
 | brk {st st₁ st₂:ST}:AL W k sc test st true st₁→A8 W k sc body st₁ .brk st₂→BF W k sc test body orelse st .next st₂
 | ret {st st₁ st₂:ST} {v:AV}:AL W k sc test st true st₁→A8 W k sc body st₁ (.ret v) st₂→BF W k sc test body orelse st (.ret v) st₂
theorem BF.code {test:Expr} {body orelse:List Stmt} {st st':ST} {f:AF} (h:BF W k sc test body orelse st f st') :
  ∀ (Z:AK) (L:Addr) (as:List Addr) (s:Shared) (A:Around) (R:Result→Shared→Prop) (env:Env),Aq env sc L→Ae A k→Sta W Z L as st s →
  (∀ (Z':AK) (as':List Addr) (u:Flow) (s':Shared),Sta W Z' L as' st' s'→Evo [L] Z Z' as as' s s'→IsF Z' as' f u→R (.ok u) s') →
  codeAny W.M A (.whileLoop test body orelse env) R s:=by
 induction h with
 | stop h1 h2 =>
  intro Z L as s A R env hE hR hS q
  refine CS (h1 _ _ _ _ _ _ _ _ hE hR hS fun Z₁ as₁ s₁ S₁ e₁=>?_)
  rw [if_neg (by decide)]
  exact h2 _ _ _ _ _ _ _ _ hE hR S₁ fun Z₂ as₂ u s₂ S₂ e₂ hu=>q _ _ _ _ S₂ (e₁.trans e₂) hu
 | go h1 h2 hf _ ih =>
  intro Z L as s A R env hE hR hS q
  refine CS (h1 _ _ _ _ _ _ _ _ hE hR hS fun Z₁ as₁ s₁ S₁ e₁=>?_)
  rw [if_pos rfl]
  refine h2 _ _ _ _ _ _ _ _ hE hR S₁ fun Z₂ as₂ u s₂ S₂ e₂ hu=>?_
  have z:=ih _ _ _ _ A R _ hE hR S₂ fun Z₃ as₃ u s₃ S₃ e₃ hu=>q _ _ _ _ S₃ ((e₁.trans e₂).trans e₃) hu
  rcases hf with rfl | rfl <;> (first | cases hu using IsF.e_cont | cases hu using IsF.e_next) <;> exact z
 | brk h1 h2 =>
  intro Z L as s A R env hE hR hS q
  refine CS (h1 _ _ _ _ _ _ _ _ hE hR hS fun Z₁ as₁ s₁ S₁ e₁=>?_)
  rw [if_pos rfl]
  refine h2 _ _ _ _ _ _ _ _ hE hR S₁ fun Z₂ as₂ u s₂ S₂ e₂ hu=>?_
  cases hu using IsF.e_brk
  exact q _ _ _ _ S₂ (e₁.trans e₂) .next
 | ret h1 h2 =>
  intro Z L as s A R env hE hR hS q
  refine CS (h1 _ _ _ _ _ _ _ _ hE hR hS fun Z₁ as₁ s₁ S₁ e₁=>?_)
  rw [if_pos rfl]
  refine h2 _ _ _ _ _ _ _ _ hE hR S₁ fun Z₂ as₂ u s₂ S₂ e₂ hu=>?_
  cases hu using IsF.e_ret with
  | _ _ hu=>exact q _ _ _ _ S₂ (e₁.trans e₂) (.ret hu)
theorem AH.whileS {test:Expr} {body orelse:List Stmt} {pos:Pos} {st st':ST} {f:AF} (h:BF W k sc test body orelse st f st'):AH W k sc (.While test body orelse pos) st f st':=by
 intro Z L as s A Q E env hE hR hS q
 exact wpAny_While (h.code _ _ _ _ _ _ _ hE hR hS q)
end
noncomputable def A2 (sup:List Addr) (h h':Heap):Prop:=(∀ b o,b∉sup→h.get? b=some o→h'.get? b=some o)∧h.objs.size≤h'.objs.size
theorem A2.refl {sup:List Addr} {h:Heap}:A2 sup h h:=⟨fun ζ ζ ζ e=>e,Nat.le_refl _⟩
theorem A2.same {a:Addr} {h h':Heap} (hs:Heap.SameBut a h h'):A2 [a] h h':=⟨fun b o hb e=>(hs.2 b (by simpa using hb)).trans e,Nat.le_of_eq hs.1.symm⟩
theorem A2.push {sup:List Addr} {h h':Heap} (a:A2 sup h h') (o:Obj):A2 sup h (h'.push o):=⟨fun x o' hx e=>Heap.get?_push_of_some _ (a.1 x o' hx e),by rw [Heap.size_push];exact Nat.le_succ_of_le a.2⟩
theorem A2.more {sup sup':List Addr} {h h':Heap} (a:A2 sup h h') (hs:∀ x∈sup,x∈sup'):A2 sup' h h':=⟨fun x o hx e=>a.1 x o (fun z=>hx (hs x z)) e,a.2⟩
section
variable {prog:Program} {w:World} {A:Around} {E:Value→Shared→Prop} {s:Shared}
theorem By {α:Type} {h₁:Heap} {Q:α→Shared→Prop} (hh:A.handled=none) {sup:List Addr} (h:A2 sup s.heap h₁)
  (hE:∀ h' e,A2 sup s.heap h'→(∃ o,h'.get? e=some o∧o.cls=.type "StopIteration")→E (.ref e) {s with heap:=h'}) :
  wpAny (model prog w) A (do raiseNew (← newExc (.type "StopIteration") []):Sem α) Q E {s with heap:=h₁}:=by
 refine wpAny_bind ?_
 simp only [newExc,newTuple]
 refine wpAny_bind (wpAny_newObj_type ?_ (by size_fits))
 refine wpAny_bind (m:=firstArgMember _ _) (wpAny_of_eq (a:=Value.none) (by first | rfl | (simp only [firstArgMember];rfl)) ?_)
 refine wpAny_newObj_type ?_ (by size_fits)
 simp only [raiseNew]
 refine wpAny_bind (wpAny_handled ?_)
 rw [hh]
 refine wpAny_bind (wpAny_pure (wpAny_throw ?_))
 exact hE _ _ ((h.push _).push _) ⟨_,Heap.get?_push_size _ rfl,rfl⟩
theorem K2 {it l:Addr} {i:Nat} {items} {Q:Option Value→Shared→Prop} (hh:A.handled=none)
  (hit:s.heap.IsListIter it l i) (hl:s.heap.IsList l items) (hx:items[i]?=none)
  (hQ:∀ h',A2 [it] s.heap h'→Q none {s with heap:=h'}):wpAny (model prog w) A (pyNext (.ref it)) Q E s:=by
 refine EE (id hit) fun o ho hc hd=>?_
 refine I5 hl fun ol hol ζ nl hdl=>?_
 unfold pyNext
 refine wpAny_bind (wpAny_attempt (wpAny_callSpecial?_slot (name:=Str.ofString "__next__") hit.typeIs slot_listiter_next
  (wpAny_call_entry slot_listiter_next hit.typeIs entry_listiter_next ?_ (args_listiter_next _))))
 refine (?_:wpAny _ _ (field (.ref it) 0>>=_) _ _ s)
 refine wpAny_bind (wpAny_field ho hd (x:=.ref l) rfl ?_)
 refine (?_:wpAny _ _ (if (Value.ref l==Value.none)=true then _ else _) _ _ s)
 rw [if_neg (show ¬ ((Value.ref l==Value.none)=true) from Bool.false_ne_true)]
 refine (?_:wpAny _ _ (field (.ref it) 1>>=_) _ _ s)
 refine wpAny_bind (wpAny_field ho hd (x:=.int i 0) rfl ?_)
 refine (?_:wpAny _ _ (seqItems? (.ref l)>>=_) _ _ s)
 refine wpAny_bind (wpAny_seqItems hol hdl ?_)
 simp only [Int.toNat_natCast,hx]
 refine wpAny_bind (wpAny_rule (wpAny_bind (wpAny_setField ho hd (by simp) ?_)))
 refine By (s:=s) (by exact hh) (A2.same (Heap.SameBut.update ..)) fun h' e hs ⟨o,h1,h2⟩=>?_
 refine wpAny_bind (wpAny_isInstance (T:="StopIteration") (b:=true) ⟨o,h1,h2⟩ isSubtype_stop ?_)
 exact wpAny_pure (hQ _ hs)
theorem DZ {it t:Addr} {i:Nat} {items} {Q:Fin→Shared→Prop} (hh:A.handled=none)
  (hit:IsTupIter s.heap it t i) (ht:IsTup s.heap t items) (hx:items[i]?=none)
  (hE:∀ h' e,A2 [it] s.heap h'→(∃ o,h'.get? e=some o∧o.cls=.type "StopIteration")→E (.ref e) {s with heap:=h'}) :
  wpAny (model prog w) A (Builtin.«tuple_iterator.__next__» ⟨[.ref it],[]⟩) Q E s:=by
 refine EE (id hit) fun o ho hc hd=>?_
 refine I5 ht fun ol hol ζ nl hdl=>?_
 refine (?_:wpAny _ _ (field (.ref it) 0>>=_) _ _ s)
 refine wpAny_bind (wpAny_field ho hd (x:=.ref t) rfl ?_)
 refine (?_:wpAny _ _ (if (Value.ref t==Value.none)=true then _ else _) _ _ s)
 rw [if_neg (show ¬ ((Value.ref t==Value.none)=true) from Bool.false_ne_true)]
 refine (?_:wpAny _ _ (field (.ref it) 1>>=_) _ _ s)
 refine wpAny_bind (wpAny_field ho hd (x:=.int i 0) rfl ?_)
 refine (?_:wpAny _ _ (seqItems? (.ref t)>>=_) _ _ s)
 refine wpAny_bind (wpAny_seqItems hol hdl ?_)
 simp only [Int.toNat_natCast,hx]
 refine wpAny_bind (wpAny_rule (wpAny_bind (wpAny_setField ho hd (by simp) ?_)))
 exact By (s:=s) hh (A2.same (Heap.SameBut.update ..)) hE
theorem IQ {it t:Addr} {i:Nat} {items} {Q:Option Value→Shared→Prop} (hh:A.handled=none)
  (hit:IsTupIter s.heap it t i) (ht:IsTup s.heap t items) (hx:items[i]?=none)
  (hQ:∀ h',A2 [it] s.heap h'→Q none {s with heap:=h'}):wpAny (model prog w) A (pyNext (.ref it)) Q E s:=by
 unfold pyNext
 refine wpAny_bind (wpAny_attempt (wpAny_callSpecial?_slot (name:=Str.ofString "__next__") hit.typeIs slot_tupleiter_next
  (wpAny_call_entry slot_tupleiter_next hit.typeIs entry_tupleiter_next (DZ (by exact hh) hit ht hx fun h' e hs ⟨o,h1,h2⟩=>?_) (args_tupleiter_next _))))
 refine wpAny_bind (wpAny_isInstance (T:="StopIteration") (b:=true) ⟨o,h1,h2⟩ isSubtype_stop ?_)
 exact wpAny_pure (hQ _ hs)
theorem JL {it:Addr} {x left step:Int} {Q:Option Value→Shared→Prop} (hh:A.handled=none) (hit:IsRangeIter s.heap it x left step) (hleft:left≤0)
  (hQ:∀ h',A2 [it] s.heap h'→Q none {s with heap:=h'}):wpAny (model prog w) A (pyNext (.ref it)) Q E s:=by
 have hT:s.TypeIs (.ref it) "range_iterator":=⟨_,hit,rfl⟩
 unfold pyNext
 refine wpAny_bind (wpAny_attempt (wpAny_callSpecial?_slot (name:=Str.ofString "__next__") hT F.slot_range_iterator_next
  (wpAny_call_entry F.slot_range_iterator_next hT F.entry_range_iterator_next ?_ (F.args_range_iterator_next_1 _))))
 refine (?_:wpAny _ _ (field (.ref it) 0>>=_) _ _ s)
 refine wpAny_bind (wpAny_field hit rfl (x:=rawInt x) rfl ?_)
 refine (?_:wpAny _ _ (field (.ref it) 1>>=_) _ _ s)
 refine wpAny_bind (wpAny_field hit rfl (x:=rawInt left) rfl ?_)
 refine (?_:wpAny _ _ (field (.ref it) 2>>=_) _ _ s)
 refine wpAny_bind (wpAny_field hit rfl (x:=rawInt step) rfl ?_)
 refine (?_:wpAny _ _ (if left≤0 then _ else _) _ _ s)
 rw [if_pos hleft]
 refine wpAny_bind (wpAny_rule ?_)
 refine wpAny_bind ?_
 refine By (s:=s) (by exact hh) (A2.refl (sup:=[it])) fun h' e hs ⟨o,h1,h2⟩=>?_
 refine wpAny_bind (wpAny_isInstance (T:="StopIteration") (b:=true) ⟨o,h1,h2⟩ isSubtype_stop ?_)
 exact wpAny_pure (hQ _ hs)
theorem Jd {it:Addr} {x:Str} {t:Tok} {i:Nat} {Q:Option Value→Shared→Prop} (hh:A.handled=none)
  (hit:s.heap.IsStrIter it "str_ascii_iterator" x t i) (hx:x.cps[i]?=none)
  (hQ:∀ h',A2 [it] s.heap h'→Q none {s with heap:=h'}):wpAny (model prog w) A (pyNext (.ref it)) Q E s:=by
 refine EE (id hit) fun o ho hc hd=>?_
 unfold pyNext
 refine wpAny_bind (wpAny_attempt (wpAny_callSpecial?_slot (name:=Str.ofString "__next__") hit.typeIs F.slot_str_ascii_iterator_next
  (wpAny_call_entry F.slot_str_ascii_iterator_next hit.typeIs F.entry_str_ascii_iterator_next ?_ (F.args_str_ascii_iterator_next_1 _))))
 refine (?_:wpAny _ _ (field (.ref it) 0>>=_) _ _ s)
 refine wpAny_bind (wpAny_field ho hd (x:=.str x t) rfl ?_)
 refine (?_:wpAny _ _ (field (.ref it) 1>>=_) _ _ s)
 refine wpAny_bind (wpAny_field ho hd (x:=.int i 0) rfl ?_)
 simp only [Int.toNat_natCast,hx]
 refine wpAny_bind (wpAny_rule (wpAny_bind (wpAny_setField ho hd (by simp) (wpAny_bind (wpAny_letGo ?_)))))
 refine By (s:=s) (by exact hh) (A2.same (Heap.SameBut.update ..)) fun h' e hs ⟨o,h1,h2⟩=>?_
 refine wpAny_bind (wpAny_isInstance (T:="StopIteration") (b:=true) ⟨o,h1,h2⟩ isSubtype_stop ?_)
 exact wpAny_pure (hQ _ hs)
theorem EZ {t:Addr} {items:Array Value} {Q:List Value→Shared→Prop} (hh:A.handled=none) (ht:IsTup s.heap t items)
  (hQ:∀ h',A6 s.heap h'→Q items.toList {s with heap:=h'}):wpAny (model prog w) A (unpackItems (.ref t) items.size none) Q E s:=by
 have hlt:t≠s.heap.objs.size:=by refine AG ht fun o ho ζ=>?_;exact Nat.ne_of_lt (Heap.lt_size ho)
 unfold unpackItems
 refine wpAny_bind ?_
 ·unfold notIterableAtAll
  refine wpAny_bind (wpAny_specialOf ht.typeIs slot_tuple_iter.lookup ?_)
  refine wpAny_pure ?_
  refine Eq.substr (if_neg Bool.false_ne_true) ?_
  refine wpAny_bind (wpAny_holding (iter_tuple ht ?_))
  refine wpAny_bind (wpAny_holding (draw_tuple hlt items.size 0 _ _ ⟨_,Heap.get?_push_size _ rfl,rfl,rfl⟩ (ht.push _) (by simp +arith only) fun h₁ hit₁ hs₁=>?_))
  have hall:List.take items.size (List.drop 0 items.toList)=items.toList:=by
   rw [List.drop_zero];exact List.take_of_length_le (by simp)
  rw [hall]
  rw [if_neg (by simp)]
  have ht₁:IsTup h₁ t items:=(ht.push _).extBut hs₁.extBut hlt
  refine wpAny_bind (wpAny_holding (IQ hh hit₁ ht₁ (by simp) fun h₂ he₂=>?_))
  refine Eq.substr (if_neg Bool.false_ne_true) ?_
  refine wpAny_pure (hQ h₂ ⟨fun b o e=>?_,?_⟩)
  ·have hb:b≠s.heap.objs.size:=Nat.ne_of_lt (Heap.lt_size e)
   exact he₂.1 b o (by simpa using hb) (hs₁.extBut b o hb (Heap.get?_push_of_some _ e))
  ·have:=he₂.2
   have h1:=hs₁.1
   simp only [Heap.size_push] at h1
   exact Nat.le_trans (by refine (?_:_≤h₁.objs.size);rw [h1];exact Nat.le_succ _) this
theorem Hf {t:Addr} {items:Array Value} {targets:List (Bool×(Value→Sem Unit))} {Q:Unit→Shared→Prop} (hh:A.handled=none) (ht:IsTup s.heap t items)
  (hn:targets.length=items.size) (hstar:targets.findIdx? (·.1)=none)
  (h:∀ h',A6 s.heap h'→wpAny (model prog w) A (assignInOrder (targets.map (·.2)) items.toList) Q E {s with heap:=h'}) :
  wpAny (model prog w) A (unpack (.ref t) targets) Q E s:=by
 unfold unpack
 rw [hn,hstar]
 exact wpAny_bind (wpAny_holding (EZ hh ht h))
theorem FT {it t:Addr} {i:Nat} {items} {x:Value} {Q:Value→Shared→Prop} (hit:IsTupIter s.heap it t i) (ht:IsTup s.heap t items) (hx:items[i]?=some x)
  (hQ:∀ h',IsTupIter h' it t (i+1)→Heap.SameBut it s.heap h'→Q x {s with heap:=h'}) :
  wpAny (model prog w) A (Builtin.«tuple_iterator.__next__» ⟨[.ref it],[]⟩) (fun fin s'=>∃ v,fin=.done (.ret v)∧Q v s') E s:=by
 refine EE (id hit) fun o ho hc hd=>?_
 refine I5 ht fun ol hol ζ nl hdl=>?_
 refine (?_:wpAny _ _ (field (.ref it) 0>>=_) _ _ s)
 refine wpAny_bind (wpAny_field ho hd (x:=.ref t) rfl ?_)
 refine (?_:wpAny _ _ (if (Value.ref t==Value.none)=true then _ else _) _ _ s)
 rw [if_neg (show ¬ ((Value.ref t==Value.none)=true) from Bool.false_ne_true)]
 refine (?_:wpAny _ _ (field (.ref it) 1>>=_) _ _ s)
 refine wpAny_bind (wpAny_field ho hd (x:=.int i 0) rfl ?_)
 refine (?_:wpAny _ _ (seqItems? (.ref t)>>=_) _ _ s)
 refine wpAny_bind (wpAny_seqItems hol hdl ?_)
 simp only [Int.toNat_natCast,hx]
 refine wpAny_bind (wpAny_setField ho hd (by simp) (wpAny_pure ⟨x,rfl,hQ _ ?_ (Heap.SameBut.update ..)⟩))
 exact ⟨_,Heap.get?_update_self _ ho (Obj.isFreed_of_fields (Obj.data_mapFields hd _)),(Obj.cls_mapFields ..).trans hc,by
  rw [Obj.data_mapFields hd];simp [rawInt]⟩
theorem FF {e it t:Addr} {i:Nat} {items:Array Value} {x old:Value} {Q:Value→Shared→Prop}
  (he:IsEnum s.heap e it i old) (hit:IsTupIter s.heap it t i) (hl:IsTup s.heap t items) (hx:items[i]?=some x) (hne:e≠it)
  (hQ:∀ h',IsEnumOut h' e it ((i:Int)+1) x s.heap.objs.size→IsTupIter h' it t (i+1) →
   h'.get? s.heap.objs.size=some {cls:=.type "tuple",data:=.seq #[.int i s.toks,x]}→h'.objs.size=s.heap.objs.size+1 →
   (∀ b o,b≠e→b≠it→s.heap.get? b=some o→h'.get? b=some o)→Q (.ref s.heap.objs.size) {s with heap:=h',toks:=s.toks+1}) :
  wpAny (model prog w) A (Builtin.«enumerate.__next__» ⟨[.ref e],[]⟩) (fun fin s'=>∃ v,fin=.done (.ret v)∧Q v s') E s:=by
 obtain ⟨hp,g,d,tk,os⟩:=s
 refine (?_:wpAny _ _ (field (.ref e) 2>>=_) _ _ _)
 refine wpAny_bind (wpAny_field he rfl (x:=.ref it) rfl ?_)
 refine wpAny_bind ?_
 unfold Builtin.SmallTypes.nextOf
 refine wpAny_bind (wpAny_callSpecial?_slot (name:=Str.ofString "__next__") hit.typeIs slot_tupleiter_next
  (wpAny_call_entry slot_tupleiter_next hit.typeIs entry_tupleiter_next (FT hit hl hx fun h₁ hit₁ hs₁=>?_) (args_tupleiter_next _)))
 refine wpAny_pure ?_
 replace hs₁:Heap.SameBut it hp h₁:=hs₁
 have he₁:IsEnum h₁ e it i old:=(hs₁.2 e hne).trans he
 refine (?_:wpAny _ _ (field (.ref e) 3>>=_) _ _ ⟨h₁,g,d,tk,os⟩)
 refine wpAny_bind (wpAny_field he₁ rfl (x:=rawInt i) rfl ?_)
 refine (?_:wpAny _ _ (field (.ref e) 4>>=_) _ _ ⟨h₁,g,d,tk,os⟩)
 refine wpAny_bind (wpAny_field he₁ rfl (x:=.none) rfl ?_)
 refine (?_:wpAny _ _ (mkInt i>>=_) _ _ ⟨h₁,g,d,tk,os⟩)
 refine wpAny_bind (wpAny_mkInt ?_)
 refine (?_:wpAny _ _ (setField (.ref e) 3 (rawInt ((i:Int)+1))>>=_) _ _ ⟨h₁,g,d,tk+1,os⟩)
 refine wpAny_bind (wpAny_setField_rec he₁ (by simp) fun h₂ he₂ hs₂=>?_)
 replace hs₂:Heap.SameBut e h₁ h₂:=hs₂
 replace he₂:IsEnum h₂ e it ((i:Int)+1) old:=he₂
 refine (?_:wpAny _ _ (setField (.ref e) 4 .none>>=_) _ _ ⟨h₂,g,d,tk+1,os⟩)
 refine wpAny_bind (wpAny_setField_rec he₂ (by simp) fun h₃ he₃ hs₃=>?_)
 replace hs₃:Heap.SameBut e h₂ h₃:=hs₃
 replace he₃:IsEnum h₃ e it ((i:Int)+1) old:=he₃
 refine (?_:wpAny _ _ (newTuple [.int i tk,x]>>=_) _ _ ⟨h₃,g,d,tk+1,os⟩)
 refine wpAny_bind (wpAny_newTuple ?_)
 have he₄:IsEnum (h₃.push {cls:=.type "tuple",data:=.seq #[.int i tk,x]}) e it ((i:Int)+1) old:=Heap.get?_push_of_some _ he₃
 generalize hh₄:h₃.push {cls:=.type "tuple",data:=.seq #[.int i tk,x]}=h₄ at he₄
 have hsz:h₃.objs.size=hp.objs.size:=by rw [hs₃.1,hs₂.1,hs₁.1]
 have hel:e<hp.objs.size:=Heap.lt_size he
 have ht₄:h₄.get? hp.objs.size=some {cls:=.type "tuple",data:=.seq #[.int i tk,x]}:=by rw [← hh₄,← hsz];exact Heap.get?_push_size _ rfl
 have hz₄:h₄.objs.size=hp.objs.size+1:=by rw [← hh₄,Heap.size_push,hsz]
 have hk₄:∀ b o,b≠e→b≠it→hp.get? b=some o→h₄.get? b=some o:=fun b o hbe hbi hb=>by
  rw [← hh₄];exact Heap.get?_push_of_some _ (hs₃.extBut b o hbe (hs₂.extBut b o hbe (hs₁.extBut b o hbi hb)))
 have hit₄:IsTupIter h₄ it t (i+1):=by
  rw [← hh₄];refine AG ((hit₁.extBut hs₂.extBut (Ne.symm hne)).extBut hs₃.extBut (Ne.symm hne)) fun o ho r=>?_;exact ⟨o,Heap.get?_push_of_some _ ho,r⟩
 refine (?_:wpAny _ _ (Builtin.SmallTypes.ownedTupleIsFree (.ref e)>>=_) _ _ ⟨h₄,g,d,tk+1,os⟩)
 rw [hsz]
 clear hh₄ he₃ hs₃ he₂ hs₂ he₁ hs₁ hit₁ hsz h₃ h₂ h₁
 refine wpAny_bind ?_
 ·unfold Builtin.SmallTypes.ownedTupleIsFree
  refine wpAny_bind (wpAny_field he₄ rfl (x:=.none) rfl (wpAny_pure ?_))
  simp only [if_true]
  refine wpAny_bind (wpAny_rule ?_)
  refine wpAny_bind (wpAny_field he₄ rfl (x:=old) rfl ?_)
  refine wpAny_bind (wpAny_setField_rec he₄ (by simp) fun h₅ he₅ hs₅=>?_)
  replace hs₅:Heap.SameBut e h₄ h₅:=hs₅
  replace he₅:IsEnum h₅ e it ((i:Int)+1) x:=he₅
  refine (?_:wpAny _ _ (Builtin.SmallTypes.ownedTupleHandOut (.ref e) (.ref hp.objs.size)>>=_) _ _ ⟨h₅,g,d,tk+1,os⟩)
  refine wpAny_bind ?_
  ·unfold Builtin.SmallTypes.ownedTupleHandOut
   refine wpAny_bind (wpAny_setField_rec he₅ (by simp) fun h₆ he₆ hs₆=>?_)
   replace hs₆:Heap.SameBut e h₅ h₆:=hs₆
   replace he₆:IsEnumOut h₆ e it ((i:Int)+1) x hp.objs.size:=he₆
   refine wpAny_setField_rec he₆ (by simp) fun h₇ he₇ hs₇=>?_
   replace hs₇:Heap.SameBut e h₆ h₇:=hs₇
   replace he₇:IsEnumOut h₇ e it ((i:Int)+1) x hp.objs.size:=he₇
   refine wpAny_bind (wpAny_letGo (wpAny_pure ⟨_,rfl,hQ h₇ he₇ ?_ ?_ ?_ ?_⟩))
   ·exact ((hit₄.extBut hs₅.extBut (Ne.symm hne)).extBut hs₆.extBut (Ne.symm hne)).extBut hs₇.extBut (Ne.symm hne)
   ·exact hs₇.extBut _ _ (Nat.ne_of_gt hel) (hs₆.extBut _ _ (Nat.ne_of_gt hel) (hs₅.extBut _ _ (Nat.ne_of_gt hel) ht₄))
   ·rw [hs₇.1,hs₆.1,hs₅.1,hz₄]
   ·exact fun b o hbe hbi hb=>hs₇.extBut b o hbe (hs₆.extBut b o hbe (hs₅.extBut b o hbe (hk₄ b o hbe hbi hb)))
theorem J4 {e it t:Addr} {i:Nat} {items:Array Value} {x old:Value} {Q:Option Value→Shared→Prop}
  (he:IsEnum s.heap e it i old) (hit:IsTupIter s.heap it t i) (hl:IsTup s.heap t items) (hx:items[i]?=some x) (hne:e≠it)
  (hQ:∀ h',IsEnumOut h' e it ((i:Int)+1) x s.heap.objs.size→IsTupIter h' it t (i+1) →
   h'.get? s.heap.objs.size=some {cls:=.type "tuple",data:=.seq #[.int i s.toks,x]}→h'.objs.size=s.heap.objs.size+1 →
   (∀ b o,b≠e→b≠it→s.heap.get? b=some o→h'.get? b=some o)→Q (some (.ref s.heap.objs.size)) {s with heap:=h',toks:=s.toks+1}) :
  wpAny (model prog w) A (pyNext (.ref e)) Q E s:=by
 have hT:s.TypeIs (.ref e) "enumerate":=⟨_,he,rfl⟩
 unfold pyNext
 exact wpAny_bind (wpAny_attempt (wpAny_callSpecial?_slot (name:=Str.ofString "__next__") hT F.slot_enumerate_next
  (wpAny_call_entry F.slot_enumerate_next hT F.entry_enumerate_next
   (FF he hit hl hx hne fun h' a b c d k=>wpAny_pure (hQ h' a b c d k)) (F.args_enumerate_next_1 _))))
theorem La {e it t:Addr} {i:Nat} {items:Array Value} {old:Value} {Q:Option Value→Shared→Prop} (hh:A.handled=none)
  (he:IsEnum s.heap e it i old) (hit:IsTupIter s.heap it t i) (hl:IsTup s.heap t items) (hx:items[i]?=none)
  (hQ:∀ h',A2 [it] s.heap h'→Q none {s with heap:=h'}):wpAny (model prog w) A (pyNext (.ref e)) Q E s:=by
 have hT:s.TypeIs (.ref e) "enumerate":=⟨_,he,rfl⟩
 unfold pyNext
 refine wpAny_bind (wpAny_attempt (wpAny_callSpecial?_slot (name:=Str.ofString "__next__") hT F.slot_enumerate_next
  (wpAny_call_entry F.slot_enumerate_next hT F.entry_enumerate_next ?_ (F.args_enumerate_next_1 _))))
 refine (?_:wpAny _ _ (field (.ref e) 2>>=_) _ _ _)
 refine wpAny_bind (wpAny_field he rfl (x:=.ref it) rfl ?_)
 refine wpAny_bind ?_
 unfold Builtin.SmallTypes.nextOf
 refine wpAny_bind (wpAny_callSpecial?_slot (name:=Str.ofString "__next__") hit.typeIs slot_tupleiter_next
  (wpAny_call_entry slot_tupleiter_next hit.typeIs entry_tupleiter_next (DZ (by exact hh) hit hl hx fun h' e hs ⟨o,h1,h2⟩=>?_) (args_tupleiter_next _)))
 refine wpAny_bind (wpAny_isInstance (T:="StopIteration") (b:=true) ⟨o,h1,h2⟩ isSubtype_stop ?_)
 exact wpAny_pure (hQ _ hs)
theorem JA {M:Model} {A:Around} {c:Value} {Q:Bool→Shared→Prop} {E:Value→Shared→Prop} {s:Shared} (h:∀ b,Q b s):wpAny M A (Builtin.SmallTypes.calledThroughType c) Q E s:=wpAny_bind (wpAny_stack_any fun ζ=>wpAny_pure (h _))
theorem HE (l:Addr) (items:Array Value) (n:Nat) (dct:Option Addr) (sl:Array (Option Value)) :
  Meets (Builtin.«enumerate.__new__» ⟨[.type "enumerate",.ref l],[]⟩) (fun ζ R s=>s.heap.get? l=some {cls:=.type "tuple",dict:=dct,data:=.seq items n,slots:=sl} ∧
   R (.ok (.ret (.ref (s.heap.push {cls:=.type "tuple_iterator",data:=.fields #[.ref l,.int 0 0]}).objs.size)))
    {s with heap:=(s.heap.push {cls:=.type "tuple_iterator",data:=.fields #[.ref l,.int 0 0]}).push {cls:=.type "enumerate",data:=.fields #[.none,.bool false,.ref s.heap.objs.size,rawInt 0,.none,.none]}}) :=
 .of_wp fun prog w A R s h=>by
  obtain ⟨hp,g,d,tk,os⟩:=s;obtain ⟨hl,h⟩:=h
  have hsub:=sub_enumerate
  have hL:IsTup (Shared.heap ⟨hp,g,d,tk,os⟩) l items:=⟨_,hl,rfl,n,rfl⟩
  wp_walk using AutoSeq1.wpAny_loadPart' hl,JA
  intro b
  induction b using Bool.casesOn
  ·wp_walk using AutoSeq1.wpAny_loadPart' hl,iter_tuple hL
   exact ⟨_,rfl,h⟩
  ·wp_walk using AutoSeq1.wpAny_loadPart' hl,iter_tuple hL
   exact ⟨_,rfl,h⟩
theorem F1 {l:Addr} {items:Array Value} {Q:Value→Shared→Prop} (hL:IsTup s.heap l items)
  (h:∀ h',IsEnum h' (s.heap.objs.size+1) s.heap.objs.size 0 .none→IsTupIter h' s.heap.objs.size l 0→h'.objs.size=s.heap.objs.size+2 →
   (∀ b o,s.heap.get? b=some o→h'.get? b=some o)→Q (.ref (s.heap.objs.size+1)) {s with heap:=h'}) :
  wpAny (model prog w) A (call (.type "enumerate") [.ref l]) Q E s:=by
 obtain ⟨⟨c,dct,dt,sl⟩,hl,hc,n,hd⟩:=hL
 replace hc:c=.type "tuple":=hc
 replace hd:dt=.seq items n:=hd
 subst hc hd
 refine callType_new F.called_enumerate (by decide) (F.typeCall_enumerate_1 _) (F.newCall_enumerate_1 _) (fun obj=>F.args_object_init_2 obj _) F.entry_enumerate_new
  (HE l items n dct sl) ⟨hl,?_⟩
 have hz:(s.heap.push {cls:=.type "tuple_iterator",data:=.fields #[.ref l,.int 0 0]}).objs.size=s.heap.objs.size+1:=Heap.size_push ..
 refine (?_:_∧_)
 rw [hz]
 have he:IsEnum ((s.heap.push {cls:=.type "tuple_iterator",data:=.fields #[.ref l,.int 0 0]}).push
   {cls:=.type "enumerate",data:=.fields #[.none,.bool false,.ref s.heap.objs.size,rawInt 0,.none,.none]}) (s.heap.objs.size+1) s.heap.objs.size 0 .none:=by
  have:=Heap.get?_push_size (s.heap.push {cls:=.type "tuple_iterator",data:=.fields #[.ref l,.int 0 0]})
   (o:={cls:=.type "enumerate",data:=.fields #[.none,.bool false,.ref s.heap.objs.size,rawInt 0,.none,.none]}) rfl
  rw [hz] at this;exact this
 refine ⟨⟨_,he,rfl⟩,h _ he ⟨_,Heap.get?_push_of_some _ (Heap.get?_push_size _ rfl),rfl,rfl⟩ (by rw [Heap.size_push,hz]) fun b o x=>Heap.get?_push_of_some _ (Heap.get?_push_of_some _ x)⟩
end
noncomputable def FG:Nat→List AV→List AV
 | _,[]=>[]
 | i,x::xs=>.tup [.int i,x]::FG (i+1) xs
noncomputable def Dy:Int→Nat→List AV
 | _,0=>[]
 | x,n+1=>.int x::Dy (x+1) n
noncomputable def G9 (x:List Nat):List AV:=x.map fun c=>.str ⟨#[c]⟩
inductive B6 (Z:AK) (as:List Addr) (h:Heap):Value→List Addr→List AV→Prop where
 | list {it l:Addr} {i:Nat} {vs:List Value} {n:Nat} {xs:List AV}:h.IsListIter it l i→Z l (Af vs n)→IsL Z as xs (vs.drop i)→B6 Z as h (.ref it) [it] xs
 | tup {it l:Addr} {i:Nat} {vs:List Value} {n:Nat} {xs:List AV}:IsTupIter h it l i→Z l (B2 vs n)→IsL Z as xs (vs.drop i)→B6 Z as h (.ref it) [it] xs
 | range {it:Addr} {x:Int} {n:Nat}:IsRangeIter h it x n 1→B6 Z as h (.ref it) [it] (Dy x n)
 | str {it:Addr} {x:Str} {t:Tok} {i:Nat} {cs:List Nat}:h.IsStrIter it "str_ascii_iterator" x t i→x.cps.toList.drop i=cs→B6 Z as h (.ref it) [it] (G9 cs)
 | enum {e it l:Addr} {i:Nat} {vs:List Value} {n:Nat} {xs:List AV} {old:Value}:IsEnum h e it i old→e≠it→IsTupIter h it l i→Z l (B2 vs n)→IsL Z as xs (vs.drop i)→B6 Z as h (.ref e) [e,it] (FG i xs)
structure Off (Z:AK) (as:List Addr) (L:Addr) (sup:List Addr) (h:Heap):Prop where
 live:∀ a∈sup,∃ o,h.get? a=some o
 as:∀ a∈sup,a∉as
 fr:∀ a∈sup,a≠L
 tab:∀ a∈sup,a∉tabs
 zone:∀ a∈sup,∀ o,¬ Z a o
section
variable {W:Wd} {Z:AK} {L:Addr} {as:List Addr} {st:ST} {M:Model} {A:Around} {E:Value→Shared→Prop} {s:Shared} {env:Env} {sc:Scope} {k:Nat} {sup:List Addr}
theorem IsL.mono' {Z Z':AK} {as as':List Addr} {xs:List AV} {vs:List Value} (hz:∀ b o,Z b o→Z' b o) (ha:∃ more,as'=as++more) (h:IsL Z as xs vs):IsL Z' as' xs vs:=by
 obtain ⟨more,rfl⟩:=ha;exact h.mono hz
theorem B6.keep {Z':AK} {as':List Addr} {h h':Heap} {it:Value} {xs:List AV} (f:B6 Z as h it sup xs) (hz:∀ b o,Z b o→Z' b o) (ha:∃ more,as'=as++more) (hk:∀ a∈sup,∀ o,h.get? a=some o→h'.get? a=some o):B6 Z' as' h' it sup xs:=by
 induction f using B6.casesOn with
 | list q z l=>exact .list (AG (q) fun o e r=>⟨o,hk _ (by simp) _ e,r⟩) (hz _ _ z) (l.mono' hz ha)
 | tup q z l=>exact .tup (AG (q) fun o e r=>⟨o,hk _ (by simp) _ e,r⟩) (hz _ _ z) (l.mono' hz ha)
 | range q=>exact .range (hk _ (by simp) _ q)
 | str q e=>exact .str (AG (q) fun o e r=>⟨o,hk _ (by simp) _ e,r⟩) e
 | enum q n r z l=>exact .enum (hk _ (by simp) _ q) n (AG (r) fun o e r=>⟨o,hk _ (by simp) _ e,r⟩) (hz _ _ z) (l.mono' hz ha)
theorem Off.evo {Z':AK} {as' own:List Addr} {s':Shared} (f:Off Z as L sup s.heap) (ho:∀ a∈sup,a∉own) (e:Evo own Z Z' as as' s s'):Off Z' as' L sup s'.heap∧∀ a∈sup,∀ o,s.heap.get? a=some o→s'.heap.get? a=some o:=by
 have hk:∀ a∈sup,∀ o,s.heap.get? a=some o→s'.heap.get? a=some o:=fun a ha o h=>e.keep a o h (ho a ha) (f.as a ha) (f.tab a ha)
 have hlt:∀ a∈sup,a<s.heap.objs.size:=fun a ha=>(f.live a ha).elim fun o h=>Heap.lt_size h
 refine ⟨⟨fun a ha=>(f.live a ha).elim fun o h=>⟨o,hk a ha o h⟩,fun a ha h=>?_,f.fr,f.tab,fun a ha o h=>?_⟩,hk⟩
 ·refine AG e.pre fun more r1_ hm=>?_;subst r1_
  rcases List.mem_append.mp h with h | h
  ·exact f.as a ha h
  ·exact absurd (hlt a ha) (Nat.not_lt.mpr (hm a h))
 ·rcases e.znew a o h with h | h
  ·exact f.zone a ha o h
  ·exact absurd (hlt a ha) (Nat.not_lt.mpr h)
theorem Evo.weak {own own':List Addr} {Z':AK} {as':List Addr} {s':Shared} (e:Evo own Z Z' as as' s s') (h:∀ a∈own,a∈own'):Evo own' Z Z' as as' s s' :=
 ⟨e.zsub,e.znew,e.pre,fun b o h1 h2 h3 h4=>e.keep b o h1 (fun z=>h2 (h b z)) h3 h4,e.size,e.gens,e.drawn,e.os⟩
theorem Evo.shrink {own own':List Addr} {Z' Z'':AK} {as' as'':List Addr} {s' s'':Shared} (a:Evo own Z Z' as as' s s') (b:Evo own' Z' Z'' as' as'' s' s'') (h:∀ x∈own',x∈own∨s.heap.objs.size≤x):Evo own Z Z'' as as'' s s'':=by
 refine AG a.pre fun m1 e1 g1=>?_
 refine AG b.pre fun m2 e2 g2=>?_
 refine ⟨fun x o h=>b.zsub _ _ (a.zsub _ _ h),fun x o h=>?_,⟨m1++m2,by rw [e2,e1,List.append_assoc],fun x hx=>?_⟩,fun x o h' h1 h2 h3=>?_,Nat.le_trans a.size b.size,AY.grt _ _ _ a.gens b.gens,b.drawn.trans a.drawn,b.os.trans a.os⟩
 ·rcases b.znew _ _ h with q | q
  ·exact a.znew _ _ q
  ·exact .inr (Nat.le_trans a.size q)
 ·rcases List.mem_append.mp hx with q | q
  ·exact g1 _ q
  ·exact Nat.le_trans a.size (g2 _ q)
 ·have hlt:=Heap.lt_size h'
  refine b.keep _ _ (a.keep _ _ h' h1 h2 h3) (fun q=>?_) (fun q=>?_) h3
  ·rcases h x q with z | z
   ·exact h1 z
   ·exact absurd hlt (Nat.not_lt.mpr z)
  ·rw [e1] at q
   rcases List.mem_append.mp q with q | q
   ·exact h2 q
   ·exact absurd hlt (Nat.not_lt.mpr (g1 _ q))
theorem Sta.off {N:AK} {h':Heap} {tk:Nat} (S:Sta W Z L as st s) (f:Off Z as L sup s.heap) (hs:A2 sup s.heap h') (hN:∀ b o,N b o→h'.get? b=some o∧s.heap.objs.size≤b) :
  let Z':AK:=fun b o=>Z b o∨N b o
  Sta W Z' L as st {s with heap:=h',toks:=tk}∧Evo (L::sup) Z Z' as as s {s with heap:=h',toks:=tk}:=by
 intro Z'
 have hz:∀ b o,Z b o→Z' b o:=fun ζ ζ h=>.inl h
 have isz:∀ t∈tabs,t<s.heap.objs.size:=fun t ht=>AG (S.zn.tab t ht) fun vs e ζ=>Heap.lt_size e
 have noIn:∀ a∈as,a<s.heap.objs.size:=fun a ha=>by
  refine oEP (List.getElem_of_mem ha) fun i hi r2_=>?_;subst r2_
  have hi':i<st.objs.length:=by rw [← S.ow.len];exact hi
  refine AG (S.ow.obj i _ st.objs[i] (List.getElem?_eq_getElem hi) (List.getElem?_eq_getElem hi')) fun o h1 ζ=>?_
  exact Heap.lt_size h1
 have new:∀ {b o},N b o→∀ {P:Prop},b<s.heap.objs.size→P:=fun n ζ q=>absurd q (Nat.not_lt.mpr (hN _ _ n).2)
 refine AG (S.fr.ns) fun m hn hm=>?_
 refine ⟨⟨⟨fun a o e=>.inl (S.zn.kin a o e),fun b o e=>?_,fun a o e=>?_,fun t ht=>?_⟩,⟨S.ow.len,fun i a x e1 e2=>?_,S.ow.nodup,fun a ha=>⟨fun o e=>?_,(S.ow.out a ha).2⟩⟩,⟨⟨m,?_,fun x a q=>?_⟩,S.fr.notIn,fun o e=>?_,S.fr.out.2⟩⟩,
  ⟨hz,fun b o e=>e.imp id fun n=>(hN b o n).2,⟨[],by simp,fun ζ h=>(nomatch h)⟩,fun b o h h1 h2 h3=>hs.1 b o (fun z=>h1 (List.mem_cons_of_mem _ z)) h,hs.2,AY.grr _,rfl,rfl⟩⟩
 ·rcases e with e | e
  ·exact hs.1 b o (fun z=>f.zone b z o e) (S.zn.keep b o e)
  ·exact (hN b o e).1
 ·rcases e with e | e
  ·exact S.zn.low a o e
  ·exact fun z=>new e (isz _ z)
 ·refine AG (S.zn.tab t ht) fun vs e tv=>?_
  exact ⟨vs,hs.1 t _ (fun z=>f.tab t z ht) e,tv.mono hz⟩
 ·refine AG (S.ow.obj i a x e1 e2) fun o h1 h2=>?_
  have:=h2.mono (more:=[]) hz
  rw [List.append_nil] at this
  exact ⟨o,hs.1 a o (fun z=>f.as a z (List.mem_of_getElem? e1)) h1,this⟩
 ·rcases e with e | e
  ·exact (S.ow.out a ha).1 o e
  ·exact new e (noIn a ha)
 ·refine F6 hn fun o es ep ho r=>?_
  exact ⟨o,es,ep,hs.1 L o (fun z=>f.fr L z rfl) ho,r⟩
 ·refine AG (hm x a q) fun v h1 h2=>?_
  have:=h2.mono (more:=[]) hz
  rw [List.append_nil] at this
  exact ⟨v,h1,this⟩
 ·rcases e with e | e
  ·exact S.fr.out.1 o e
  ·exact new e hn.lt
set_option backward.match.sparseCases true in
theorem CA {target:Expr} {r:Addr} {u:Value} {o:Obj} {n:String} {Q:Unit→Shared→Prop} (ho:s.heap.get? r=some o) (hc:o.cls=.type n)
  (hn:["enumerate","zip","dict_itemiterator","dict_reverseitemiterator","odict_iterator","itertools.zip_longest","itertools.pairwise"].contains n=false) (h:Q () s):wpAny M A (letOwnedTupleGo target (.ref r) u) Q E s:=by
 have key:wpAny M A (do
  let (.ref r,.ref a):=(Value.ref r,u) | return
  let o ← load r
  match o.cls,o.data with
  | .type n,.fields vs =>
   if ["enumerate","zip","dict_itemiterator","dict_reverseitemiterator","odict_iterator","itertools.zip_longest","itertools.pairwise"].contains n&&vs[0]?==some (rawInt a) then
    rule "for.unpacks-the-owned-tuple"
    updateField r 0 .none
  | _,_=>pure ()) Q E s:=by
  induction u using Value.casesOn <;> first | exact wpAny_pure h | skip
  refine wpAny_bind (wpAny_load ho ?_)
  rw [hc]
  cases o.data <;> first | exact wpAny_pure h | skip
  dsimp only
  rw [hn,Bool.false_and]
  exact wpAny_pure h
 induction target using Expr.casesOn <;> first | exact wpAny_pure h | exact key
theorem Off.same {h:Heap} {Z':AK} (f:Off Z as L sup s.heap) (hl:∀ a∈sup,∃ o,h.get? a=some o) (hz:∀ a∈sup,∀ o,Z' a o→Z a o):Off Z' as L sup h :=
 ⟨hl,f.as,f.fr,f.tab,fun a ha o e=>f.zone a ha o (hz a ha o e)⟩
theorem IsL.cons_inv {xs:List AV} {x:AV} {vs:List Value} (h:IsL Z as (x::xs) vs):∃ v r,vs=v::r∧Is Z as x v∧IsL Z as xs r:=by
 cases h using IsL.e_cons with
 | _ _ _ a b=>exact ⟨_,_,rfl,a,b⟩
theorem IsL.nil_inv {vs:List Value} (h:IsL Z as [] vs):vs=[]:=by cases h using IsL.e_nil;rfl
theorem Bp {α:Type} {vs r:List α} {v:α} {i:Nat} (h:vs.drop i=v::r):vs[i]?=some v∧vs.drop (i+1)=r:=by
 constructor
 ·have:=congrArg List.head? h
  rwa [List.head?_drop] at this
 ·rw [← List.drop_drop,h];rfl
theorem Ld {α:Type} {vs:List α} {i:Nat} (h:vs.drop i=[]):vs[i]?=none:=by
 rw [← List.head?_drop,h];rfl
theorem Ec {α:Type} {vs:List α} {i:Nat} (h:vs.drop i=[]):vs.toArray[i]?=none:=by rw [List.getElem?_toArray];exact Ld h
theorem Dr {α:Type} {vs r:List α} {v:α} {i:Nat} (h:vs.drop i=v::r):vs.toArray[i]?=some v:=by rw [List.getElem?_toArray];exact (Bp h).1
theorem Off.one {h:Heap} {it:Addr} {o:Obj} (f:Off Z as L [it] s.heap) (e:h.get? it=some o):Off Z as L [it] h:=f.same (fun x hx=>⟨o,List.mem_singleton.mp hx▸e⟩) fun ζ ζ ζ h=>h
theorem Sta.off0 {h':Heap} {tk:Nat} (S:Sta W Z L as st s) (fo:Off Z as L sup s.heap) (hs:A2 sup s.heap h'):Sta W Z L as st {s with heap:=h',toks:=tk}∧Evo (L::sup) Z Z as as s {s with heap:=h',toks:=tk}:=by
 have:=S.off (N:=fun ζ ζ=>False) (tk:=tk) fo hs (fun ζ ζ h=>h.elim)
 rwa [show (fun b o=>Z b o∨False)=Z by funext b o;exact propext (or_iff_left id)] at this
noncomputable def FdN (W:Wd) (L:Addr) (Z:AK) (as:List Addr) (s:Shared) (xs:List AV) (st:ST) (sup:List Addr) (N:Shared→Prop):Prop:=xs=[]→∀ s',Sta W Z L as st s'→Evo (L::sup) Z Z as as s s'→N s'
noncomputable def FdQ (W:Wd) (L:Addr) (Z:AK) (as:List Addr) (s:Shared) (xs:List AV) (st:ST) (it:Value) (sup:List Addr) (R:Value→Shared→Prop):Prop:=∀ y ys,xs=y::ys→∀ (Z':AK) (u:Value) (s':Shared),Sta W Z' L as st s'→Evo (L::sup) Z Z' as as s s'→B6 Z' as s'.heap it sup ys→Off Z' as L sup s'.heap→Is Z' as y u→R u s'
theorem B6.next {target:Expr} {it:Value} {xs:List AV} {N:Shared→Prop} {R:Value→Shared→Prop} {E':Value→Shared→Prop} (f:B6 Z as s.heap it sup xs) (fo:Off Z as L sup s.heap) (S:Sta W Z L as st s) (hh:A.handled=none)
  (hen:sup.length=2→∃ es p q,target=.Tuple es p q)
  (q0:FdN W L Z as s xs st sup N)
  (q1:FdQ W L Z as s xs st it sup R) :
  wpAny W.M A (pyNext it) (fun r s₁=>match r with | none=>N s₁ | some u=>wpAny W.M A (letOwnedTupleGo target it u) (fun ζ s₂=>R u s₂) E' s₁) E s:=by
 induction f using B6.casesOn with
 | @list it l i vs n xs hit z hl =>
  have hL:s.heap.IsList l vs.toArray:=BI (S.zn.keep _ _ z)
  induction xs using List.casesOn with
  | nil=>exact K2 hh hit hL (Ec hl.nil_inv) fun h' hs=>(S.off0 (tk:=s.toks) fo hs).elim (q0 rfl _)
  | cons y ys =>
   refine Be hl.cons_inv fun v r e hy hr=>?_
   obtain ⟨e1,e2⟩:=Bp e
   refine wpAny_pyNext_list_item hit hL (x:=v) (Dr e) fun h' hit' hs=>?_
   obtain ⟨a,b⟩:=S.off0 (tk:=s.toks) fo (A2.same hs)
   refine EE (id hit') fun o ho hc ζ=>?_
   refine CA (s:={s with heap:=h'}) ho hc (by decide) ?_
   exact q1 y ys rfl _ _ _ a b (.list hit' z (e2▸hr)) (fo.one ho) hy
 | @tup it l i vs n xs hit z hl =>
  have hL:IsTup s.heap l vs.toArray:=⟨_,S.zn.keep _ _ z,rfl,_,rfl⟩
  induction xs using List.casesOn with
  | nil=>exact IQ hh hit hL (Ec hl.nil_inv) fun h' hs=>(S.off0 (tk:=s.toks) fo hs).elim (q0 rfl _)
  | cons y ys =>
   refine Be hl.cons_inv fun v r e hy hr=>?_
   obtain ⟨e1,e2⟩:=Bp e
   refine next_tuple_item hit hL (x:=v) (Dr e) fun h' hit' hs=>?_
   obtain ⟨a,b⟩:=S.off0 (tk:=s.toks) fo (A2.same hs)
   refine EE (id hit') fun o ho hc ζ=>?_
   refine CA (s:={s with heap:=h'}) ho hc (by decide) ?_
   exact q1 y ys rfl _ _ _ a b (.tup hit' z (e2▸hr)) (fo.one ho) hy
 | @range it x n hit =>
  cases n with
  | zero=>exact JL hh hit (by simp) fun h' hs=>(S.off0 (tk:=s.toks) fo hs).elim (q0 rfl _)
  | succ n =>
   refine wpAny_pyNext_range_item hit (Int.natCast_pos.mpr (Nat.succ_pos _)) fun h' hit' hs=>?_
   obtain ⟨a,b⟩:=S.off0 (tk:=s.toks+1) fo (A2.same hs)
   have hit'':IsRangeIter h' it (x+1) n 1:=by
    have:((n+1:Nat):Int) - 1=n:=Int.add_sub_cancel (n:Int) 1
    rw [this] at hit';exact hit'
   refine CA (s:={s with heap:=h',toks:=s.toks+1}) hit'' rfl (by decide) ?_
   exact q1 (.int x) (Dy (x+1) n) rfl _ _ _ a b (.range hit'') (fo.one hit'') (.int _ _)
 | @str it x t i cs hit hd =>
  induction cs using List.casesOn with
  | nil=>exact Jd hh hit (Ec hd) fun h' hs=>(S.off0 (tk:=s.toks) fo hs).elim (q0 rfl _)
  | cons c cs =>
   obtain ⟨e1,e2⟩:=Bp hd
   refine wpAny_pyNext_ascii_item hit (c:=c) (Dr hd) fun h' hit' hs=>?_
   obtain ⟨a,b⟩:=S.off0 (tk:=s.toks+1) fo (A2.same hs)
   refine EE (id hit') fun o ho hc ζ=>?_
   refine CA (s:={s with heap:=h',toks:=s.toks+1}) ho hc (by decide) ?_
   exact q1 (.str ⟨#[c]⟩) (G9 cs) rfl _ _ _ a b (.str hit' e2) (fo.one ho) (.str _ (by simp [Str.length,sizeLine_eq]))
 | @enum e it l i vs n xs old he hne hit z hl =>
  have hL:IsTup s.heap l vs.toArray:=⟨_,S.zn.keep _ _ z,rfl,_,rfl⟩
  induction xs using List.casesOn with
  | nil=>exact La hh he hit hL (Ec hl.nil_inv) fun h' hs=>(S.off0 (tk:=s.toks) fo (hs.more (by simp))).elim (q0 rfl _)
  | cons y ys =>
   refine Be hl.cons_inv fun v r e' hy hr=>?_
   obtain ⟨e1,e2⟩:=Bp e'
   refine J4 he hit hL (x:=v) (Dr e') hne fun h' he' hit' ht' hz' hk'=>?_
   refine oEEE (hen rfl) fun es p q r3_=>?_;subst r3_
   refine wpAny_letOwnedTupleGo_enum he' fun h₂ he₂ hs₂=>?_
   have hse:s.heap.objs.size≠e:=Nat.ne_of_gt (Heap.lt_size he)
   have ht₂:h₂.get? s.heap.objs.size=some (B2 [.int i s.toks,v] 0):=(hs₂.2 _ hse).trans ht'
   have st:A2 [e,it] s.heap h₂:=⟨fun b o hb hb'=>by
    have h1:b≠e:=fun z=>hb (by simp [z])
    have h2:b≠it:=fun z=>hb (by simp [z])
    exact (hs₂.2 b h1).trans (hk' b o h1 h2 hb'),by
    have:=hs₂.1
    refine (?_:s.heap.objs.size≤h₂.objs.size)
    rw [this];refine (?_:_≤h'.objs.size);exact hz'.symm▸Nat.le_add_right _ _⟩
   obtain ⟨a,b⟩:=S.off (N:=fun b o=>b=s.heap.objs.size∧o=B2 [.int i s.toks,v] 0) (tk:=s.toks+1) fo st (fun b o h=>by obtain ⟨rfl,rfl⟩:=h;exact ⟨ht₂,Nat.le_refl _⟩)
   have hit₂:IsTupIter h₂ it l (i+1):=hit'.extBut hs₂.extBut (Ne.symm hne)
   have zz:∀ b o,Z b o→(Z b o∨(b=s.heap.objs.size∧o=B2 [.int i s.toks,v] 0)):=fun ζ ζ h=>.inl h
   have hyz:=hy.mono (more:=[]) zz
   have hrz:=hr.mono (more:=[]) zz
   rw [List.append_nil] at hyz hrz
   have he₃:IsEnum h₂ e it ((i+1:Nat):Int) v:=by
    have:((i+1:Nat):Int)=(i:Int)+1:=by exact rfl
    rw [this];exact he₂
   refine q1 (.tup [.int i,y]) (FG (i+1) ys) rfl _ _ _ a b (.enum he₃ hne hit₂ (.inl z) (by rw [e2];exact hrz)) (fo.same (fun x hx=>?_) fun x hx o h=>?_) (.tup (.inr ⟨rfl,rfl⟩) (.cons (.int _ _) (.cons hyz .nil)) (by simp [sizeLine_eq]))
   ·rcases List.mem_cons.mp hx with rfl | hx
    ·exact ⟨_,he₃⟩
    ·rw [List.mem_singleton.mp hx];exact AG (hit₂) fun o h ζ=>⟨o,h⟩
   ·rcases h with h | ⟨rfl,_⟩
    ·exact h
    ·obtain ⟨o',h⟩:=fo.live _ hx
     exact absurd (Heap.lt_size h) (Nat.lt_irrefl _)
end
theorem DI {env:Env}:∀ {es:List Expr} {xs:List Str},B9 es=some xs→(assignEach es env).length=xs.length∧(assignEach es env).findIdx? (·.1)=none
 | [],xs,h=>by cases h;exact ⟨rfl,rfl⟩
 | e::es,xs,h=>by
  refine Hq (F7 h) fun x p ys r3_ hr r5_=>?_;subst r3_;subst r5_
  have q:=DI (env:=env) hr
  exact ⟨congrArg (·+1) q.1,by refine (?_:(_::assignEach es env).findIdx? (·.1)=_);rw [List.findIdx?_cons,q.2];rfl⟩
section
variable {W:Wd} {Z:AK} {L:Addr} {as:List Addr} {st:ST} {M:Model} {A:Around} {E:Value→Shared→Prop} {s:Shared} {env:Env} {sc:Scope} {k:Nat} {sup:List Addr}
noncomputable def AsQ (W:Wd) (L:Addr) (Z:AK) (as:List Addr) (s:Shared) (st':ST) (Q:Unit→Shared→Prop):Prop:=∀ s',Sta W Z L as st' s'→Evo [L] Z Z as as s s'→Q () s'
noncomputable def AX (W:Wd) (k:Nat) (sc:Scope) (target:Expr) (v:AV) (st st':ST):Prop :=
 ∀ (Z:AK) (L:Addr) (as:List Addr) (s:Shared) (A:Around) (Q:Unit→Shared→Prop) (E:Value→Shared→Prop) (env:Env) (u:Value),Aq env sc L→Ae A k→Sta W Z L as st s→Is Z as v u →
  AsQ W L Z as s st' Q→wpAny W.M A (assign target env u) Q E s
theorem AX.name {x:Str} {p:Pos} {v:AV} (hx:sc.names.lookup x=some .local):AX W k sc (.Name x p) v st {st with loc:=BY x v st.loc}:=by
 intro Z L as s A Q E env u hE hR hS hu q
 exact wpAny_assign_Name (BQ hE hS hx hu q)
theorem H6:∀ {es:List Expr} {xs:List Str} {vs:List AV} {us:List Value} {st:ST} {loc':List (Str×AV)} {s:Shared} {Q:Unit→Shared→Prop},B9 es=some xs→(xs.all fun x=>sc.names.lookup x==some .local)=true→Dp st.loc xs vs=some loc' →
  Aq env sc L→Sta W Z L as st s→IsL Z as vs us→(∀ s',Sta W Z L as {st with loc:=loc'} s'→Evo [L] Z Z as as s s'→Q () s') →
  wpAny W.M A (assignInOrder ((assignEach es env).map (·.2)) us) Q E s:=by
 intro es
 induction es with
 | nil =>
  intro xs vs us st loc' s Q h1 h2 h3 hE hS hv q
  cases h1
  induction vs using List.casesOn with
  | nil=>cases h3;cases hv using IsL.e_nil;exact assignInOrder_nil (q _ hS .refl')
  | cons v vs=>exact no h3
 | cons e es ih =>
  intro xs vs us st loc' s Q h1 h2 h3 hE hS hv q
  refine Hq (F7 h1) fun x p ys r3_ hr r5_=>?_;subst r3_;subst r5_
  induction vs using List.casesOn with
  | nil=>exact no h3
  | cons v vs =>
   cases hv using IsL.e_cons with
   | _ _ _ hv0 hv =>
    refine assignInOrder_cons (wpAny_assign_Name (BQ hE hS (eq_of_beq (bt h2).1) hv0 fun s' S' e'=>?_))
    exact ih (st:={st with loc:=BY x v st.loc}) hr (bt h2).2 h3 hE S' hv fun s'' S'' e''=>q _ S'' (e'.trans e'')
theorem AX.tuple {es:List Expr} {n:Nat} {p:Pos} {xs:List Str} {vs:List AV} {loc':List (Str×AV)} (h1:B9 es=some xs) (h2:(xs.all fun x=>sc.names.lookup x==some .local)=true) (h3:Dp st.loc xs vs=some loc') (hn:xs.length=vs.length) :
  AX W k sc (.Tuple es n p) (.tup vs) st {st with loc:=loc'}:=by
 intro Z L as s A Q E env u hE hR hS hu q
 cases hu using Is.e_tup with
 | _ a us n z hv hl =>
  rw [PyProof.Rows.assign_Tuple]
  obtain ⟨q1,q2⟩:=DI (env:=env) h1
  refine wpAny_bind (wpAny_standAt (Hf hR.handled (items:=us.toArray) ⟨_,hS.zn.keep _ _ z,rfl,_,rfl⟩ (by rw [q1,hn,hv.length];simp) q2 fun h' g=>?_))
  obtain ⟨S',e'⟩:=hS.grow (tk:=s.toks) g
  exact H6 h1 h2 h3 hE S' hv fun s'' S'' e''=>q _ S'' (e'.trans e'')
noncomputable def ItQ (W:Wd) (L:Addr) (Z:AK) (as:List Addr) (s:Shared) (xs:List AV) (n:Nat) (st':ST) (Q:Value→Shared→Prop):Prop:=∀ (Z':AK) (as':List Addr) (it:Value) (sup:List Addr) (s':Shared),Sta W Z' L as' st' s'→Evo [L] Z Z' as as' s s'→B6 Z' as' s'.heap it sup xs→Off Z' as' L sup s'.heap→(∀ a∈sup,s.heap.objs.size≤a)→sup.length=n→Q it s'
noncomputable def FQ (W:Wd) (k:Nat) (sc:Scope) (e:Expr) (st:ST) (xs:List AV) (n:Nat) (st':ST):Prop :=
 ∀ (Z:AK) (L:Addr) (as:List Addr) (s:Shared) (A:Around) (Q:Value→Shared→Prop) (E:Value→Shared→Prop) (env:Env),Aq env sc L→Ae A k→Sta W Z L as st s →
  ItQ W L Z as s xs n st' Q →
  wpAny W.M A (eval e env) (fun x s₁=>wpAny W.M A (pyIter x) Q E s₁) E s
noncomputable def Fa:AV→Option (List AV)
 | .lst xs=>some xs
 | .tup xs=>some xs
 | .str x=>if x.cps.all (·<128) then some (G9 x.cps.toList) else none
 | _=>none
theorem E6 {h':Heap} (S:Sta W Z L as st s) (hs:∀ a∈sup,s.heap.objs.size≤a) (hl:∀ a∈sup,∃ o,h'.get? a=some o):Off Z as L sup h':=by
 refine ⟨hl,fun a ha z=>?_,fun a ha z=>?_,fun a ha z=>?_,fun a ha o z=>?_⟩
 ·refine oEP (List.getElem_of_mem z) fun i hi r2_=>?_;subst r2_
  have hi':i<st.objs.length:=by rw [← S.ow.len];exact hi
  refine AG (S.ow.obj i _ st.objs[i] (List.getElem?_eq_getElem hi) (List.getElem?_eq_getElem hi')) fun o h1 ζ=>?_
  exact absurd (Heap.lt_size h1) (Nat.not_lt.mpr (hs _ ha))
 ·subst z
  refine AG (S.fr.ns) fun m hn ζ=>?_
  exact absurd hn.lt (Nat.not_lt.mpr (hs _ ha))
 ·refine AG (S.zn.tab a z) fun vs e tv=>?_
  exact absurd (Heap.lt_size e) (Nat.not_lt.mpr (hs _ ha))
 ·exact absurd (Heap.lt_size (S.zn.keep _ _ z)) (Nat.not_lt.mpr (hs _ ha))
theorem FQ.val {e:Expr} {v:AV} {xs:List AV} {st₁:ST} (h:AA W k sc e st v st₁) (hi:Fa v=some xs):FQ W k sc e st xs 1 st₁:=by
 intro Z L as s A Q E env hE hR hS q
 refine h _ _ _ _ _ _ _ _ hE hR hS fun Z₁ as₁ u s₁ S₁ e₁ hu=>?_
 have fin:∀ {o:Obj},o.isFreed=false→(B6 Z₁ as₁ (s₁.heap.push o) (.ref s₁.heap.objs.size) [s₁.heap.objs.size] xs)→Q (.ref s₁.heap.objs.size) {s₁ with heap:=s₁.heap.push o}:=by
  intro o ho f
  obtain ⟨S₂,e₂⟩:=S₁.grow (tk:=s₁.toks) (A6.refl.push o)
  refine q _ _ _ [s₁.heap.objs.size] _ S₂ (e₁.trans e₂) f (E6 S₁ (fun a ha=>by rw [List.mem_singleton.mp ha];exact Nat.le_refl _) fun a ha=>by rw [List.mem_singleton.mp ha];exact ⟨o,Heap.get?_push_size _ ho⟩) (fun a ha=>by rw [List.mem_singleton.mp ha];exact e₁.size) rfl
 unfold Fa at hi
 split at hi
 ·cases hi
  cases hu using Is.e_lst with
  | _ _ _ _ z hv hl=>exact wpAny_pyIter_list (BI (S₁.zn.keep _ _ z)) (fin rfl (.list ⟨_,Heap.get?_push_size _ rfl,rfl,rfl⟩ z hv))
 ·cases hi
  cases hu using Is.e_tup with
  | _ _ _ _ z hv hl=>exact iter_tuple ⟨_,S₁.zn.keep _ _ z,rfl,_,rfl⟩ (fin rfl (.tup ⟨_,Heap.get?_push_size _ rfl,rfl,rfl⟩ z hv))
 ·split at hi
  ·cases hi
   cases hu using Is.e_str with
   | _ t hl=>exact wpAny_pyIter_ascii (by assumption) (fin rfl (.str ⟨_,Heap.get?_push_size _ rfl,rfl,rfl⟩ rfl))
  ·exact no hi
 ·exact no hi
class inductive BA (W:Wd) (k:Nat) (sc:Scope) (target:Expr) (body orelse:List Stmt):List AV→ST→AF→ST→Prop where
 | stop {st st':ST} {f:AF}:A8 W k sc orelse st f st'→BA W k sc target body orelse [] st f st'
 | go {x:AV} {xs:List AV} {st st₁ st₂ st₃:ST} {f g:AF}:AX W k sc target x st st₁→A8 W k sc body st₁ f st₂→(f=.next∨f=.cont)→BA W k sc target body orelse xs st₂ g st₃→BA W k sc target body orelse (x::xs) st g st₃
 | brk {x:AV} {xs:List AV} {st st₁ st₂:ST}:AX W k sc target x st st₁→A8 W k sc body st₁ .brk st₂→BA W k sc target body orelse (x::xs) st .next st₂
 | ret {x v:AV} {xs:List AV} {st st₁ st₂:ST}:AX W k sc target x st st₁→A8 W k sc body st₁ (.ret v) st₂→BA W k sc target body orelse (x::xs) st (.ret v) st₂
theorem Dg {R:Result→Shared→Prop} {prog:Program} {w:World} {target:Expr} {it:Value} {body orelse:List Stmt}
  (h:wpAny (model prog w) A (pyNext it) (fun r s₁=>match r with
   | none=>wpAny (model prog w) A (execs orelse env) (fun f s₃=>R (.ok f) s₃) (notedBy (model prog w) A env fun e s'=>R (.error e) s') s₁
   | some v=>wpAny (model prog w) A (letOwnedTupleGo target it v) (fun ζ s₁' =>
     wpAny (model prog w) A (assign target env v) (fun ζ s₂=>wpAny (model prog w) A (execs body env) (fun f s₃=>match f with
      | .next | .cont=>codeAny (model prog w) A (.forLoop target it body orelse env) R s₃
      | .brk=>R (.ok .next) s₃
      | .ret v=>R (.ok (.ret v)) s₃) (notedBy (model prog w) A env fun e s'=>R (.error e) s') s₂) (notedBy (model prog w) A env fun e s'=>R (.error e) s') s₁') (notedBy (model prog w) A env fun e s'=>R (.error e) s') s₁) (notedBy (model prog w) A env fun e s'=>R (.error e) s') s) :
  codeAny (model prog w) A (.forLoop target it body orelse env) R s:=by
 refine codeAny_of_tree ?_
 refine (?_:wpAny _ A ((forTurn target it body orelse env).onRaise (fun x=>do noteFrame x env;theTreesLotGoes x)) _ _ s)
 refine wpAny_noted ?_
 simp only [forTurn]
 refine wpAny_bind (wpAny_standAt (wpAny_bind (wpAny_onRaise (wpAny_mono h (fun r s₁ h₁=>?_) fun ζ ζ h'=>wpAny_standAt h'))))
 induction r using Option.casesOn with
 | none=>exact wpAny_pure ⟨rfl,codeAny_block h₁⟩
 | some v =>
  refine wpAny_bind (wpAny_mono h₁ (fun ζ s₁' h₁'=>?_) fun ζ ζ h'=>h')
  refine wpAny_bind (wpAny_mono h₁' (fun ζ s₂ h₂=>wpAny_bind (wpAny_mono h₂ (fun f s₃ h₃=>?_) fun ζ ζ h'=>h')) fun ζ ζ h'=>h')
  cases f with
  | next=>exact wpAny_pure ⟨rfl,h₃⟩
  | cont=>exact wpAny_pure ⟨rfl,h₃⟩
  | brk=>exact wpAny_pure h₃
  | ret v=>exact wpAny_pure h₃
theorem Evo.one {own:List Addr} {Z':AK} {as':List Addr} {s':Shared} (e:Evo [L] Z Z' as as' s s'):Evo (L::own) Z Z' as as' s s':=e.weak (by simp)
theorem BA.code {target:Expr} {body orelse:List Stmt} {xs:List AV} {st st':ST} {f:AF} (h:BA W k sc target body orelse xs st f st') :
  ∀ (Z:AK) (L:Addr) (as sup:List Addr) (it:Value) (s:Shared) (A:Around) (R:Result→Shared→Prop) (env:Env),Aq env sc L→Ae A k→Sta W Z L as st s→B6 Z as s.heap it sup xs→Off Z as L sup s.heap→(sup.length=2→∃ es p q,target=.Tuple es p q) →
  (∀ (Z':AK) (as':List Addr) (u:Flow) (s':Shared),Sta W Z' L as' st' s'→Evo (L::sup) Z Z' as as' s s'→IsF Z' as' f u→R (.ok u) s') →
  codeAny W.M A (.forLoop target it body orelse env) R s:=by
 induction h with
 | stop h1 =>
  intro Z L as sup it s A R env hE hR hS hf ho hen q
  refine Dg (hf.next ho hS hR.handled hen (fun ζ s₁ S₁ e₁=>?_) fun y ys e=>by cases e)
  exact h1 _ _ _ _ _ _ _ _ hE hR S₁ fun Z₂ as₂ u s₂ S₂ e₂ hu=>q _ _ _ _ S₂ (e₁.trans e₂.one) hu
 | go h1 h2 hfl _ ih =>
  intro Z L as sup it s A R env hE hR hS hf ho hen q
  refine Dg (hf.next ho hS hR.handled hen (fun e=>by cases e) fun y ys e Z₁ u s₁ S₁ e₁ f₁ o₁ hu=>?_)
  cases e
  refine h1 _ _ _ _ _ _ _ _ _ hE hR S₁ hu fun s₂ S₂ e₂=>h2 _ _ _ _ _ _ _ _ hE hR S₂ fun Z₃ as₃ u s₃ S₃ e₃ hu=>?_
  have e₂₃:=e₂.trans e₃
  obtain ⟨o₃,k₃⟩:=o₁.evo (own:=[L]) (fun a ha=>by simpa using o₁.fr a ha) e₂₃
  have z:=ih Z₃ L as₃ sup it s₃ A R env hE hR S₃ (f₁.keep e₂₃.zsub (AG (e₂₃.pre) fun m e ζ=>⟨m,e⟩) k₃) o₃ hen fun Z₄ as₄ u s₄ S₄ e₄ hu=>q _ _ _ _ S₄ ((e₁.trans e₂₃.one).trans e₄) hu
  rcases hfl with rfl | rfl <;> (first | cases hu using IsF.e_cont | cases hu using IsF.e_next) <;> exact z
 | brk h1 h2 =>
  intro Z L as sup it s A R env hE hR hS hf ho hen q
  refine Dg (hf.next ho hS hR.handled hen (fun e=>by cases e) fun y ys e Z₁ u s₁ S₁ e₁ f₁ o₁ hu=>?_)
  cases e
  refine h1 _ _ _ _ _ _ _ _ _ hE hR S₁ hu fun s₂ S₂ e₂=>h2 _ _ _ _ _ _ _ _ hE hR S₂ fun Z₃ as₃ u s₃ S₃ e₃ hu=>?_
  cases hu using IsF.e_brk
  exact q _ _ _ _ S₃ (e₁.trans (e₂.trans e₃).one) .next
 | ret h1 h2 =>
  intro Z L as sup it s A R env hE hR hS hf ho hen q
  refine Dg (hf.next ho hS hR.handled hen (fun e=>by cases e) fun y ys e Z₁ u s₁ S₁ e₁ f₁ o₁ hu=>?_)
  cases e
  refine h1 _ _ _ _ _ _ _ _ _ hE hR S₁ hu fun s₂ S₂ e₂=>h2 _ _ _ _ _ _ _ _ hE hR S₂ fun Z₃ as₃ u s₃ S₃ e₃ hu=>?_
  cases hu using IsF.e_ret with
  | _ _ hu=>exact q _ _ _ _ S₃ (e₁.trans (e₂.trans e₃).one) (.ret hu)
theorem AH.forS {target iter:Expr} {body orelse:List Stmt} {pos:Pos} {n:Nat} {xs:List AV} {st st₁ st':ST} {f:AF} (hi:FQ W k sc iter st xs n st₁) (h:BA W k sc target body orelse xs st₁ f st') (hn:n=2→∃ es p q,target=.Tuple es p q)
  (hs:∀ env x,foldedSetIterable iter env x=pure x):AH W k sc (.For target iter body orelse pos) st f st':=by
 intro Z L as s A Q E env hE hR hS q
 refine wpAny_For (hi _ _ _ _ _ _ _ _ hE hR hS fun Z₁ as₁ it sup s₁ S₁ e₁ f₁ o₁ hsz hln=>?_) (hs env)
 exact h.code _ _ _ _ _ _ _ _ _ hE hR S₁ f₁ o₁ (fun e=>hn (hln.symm.trans e)) fun Z₂ as₂ u s₂ S₂ e₂ hu=>q _ _ _ _ S₂ (e₁.shrink e₂ (fun x hx=>by
  rcases List.mem_cons.mp hx with rfl | hx
  ·exact .inl (by simp)
  ·exact .inr (hsz x hx))) hu
end
section
variable {W:Wd} {Z:AK} {L:Addr} {as:List Addr} {st:ST} {M:Model} {A:Around} {E:Value→Shared→Prop} {s:Shared} {env:Env} {sc:Scope} {k:Nat} {sup:List Addr}
set_option tactic.hygienic true in
theorem FQ.range {p pos:Pos} {e:Expr} {n:Nat} {st₁:ST} (hx:sc.names.lookup ("range":Str)=some .globalImplicit) (hg:Bi W "range" (.top (.type "range"))) (hs:A4 e=true) (h:AA W k sc e st (.int n) st₁) (hn:n≤1000000) :
  FQ W k sc (.Call (.Name "range" p) [e] [] pos) st (Dy 0 n) 1 st₁:=by
 intro Z L as s A Q E env hE hR hS q
 refine wpAny_Call_Name_kw (wpAny_Name (Ah (as:=as) hE hS.zn hx hg fun u hu=>?_) (by decide))
 cases hu using Is.e_top
 refine Ao (W:=W) (f:=.type "range") (by simp [hs]) trivial ((B0.cons hs h .nil) _ _ _ _ _ _ _ _ _ hE hR hS fun Z₁ as₁ us s₁ S₁ e₁ hus=>⟨S₁.zn.kIn,?_⟩)
 cases hus using IsL.e_cons with
 | _ _ _ h0 hr =>
  cases hr using IsL.e_nil
  cases h0 using Is.e_int
  rename_i t
  refine call_range_1 ?_
  refine wpAny_pyIter_range (IsRange.new ..) (small_one (by decide) (by decide) (Int.le_trans (by decide) (Int.natCast_nonneg _)) (iub hn (by decide))) ?_
  rw [rangeSize_one]
  have hsz:(s₁.heap.push {cls:=.type "range",data:=.fields #[.int 0 s₁.toks,.int n t,.int 1 (s₁.toks+1)]}).objs.size=s₁.heap.objs.size+1:=Heap.size_push ..
  have e0:(if (0:Int)<n then (n:Int) - 0 else 0)=n:=by split;exact Int.sub_zero _;exact Int.le_antisymm (Int.natCast_nonneg _) (Int.not_lt.mp ‹_›)
  rw [e0]
  obtain ⟨S₂,e₂⟩:=S₁.grow (tk:=s₁.toks+1+1) ((A6.refl.push {cls:=.type "range",data:=.fields #[.int 0 s₁.toks,.int n t,.int 1 (s₁.toks+1)]}).push {cls:=.type "range_iterator",data:=.fields #[rawInt 0,rawInt n,rawInt 1]})
  refine q _ _ _ [_] _ S₂ (e₁.trans e₂) (.range (Heap.get?_push_size _ rfl)) (E6 S₁ (fun a ha=>?_) fun a ha=>?_) (fun a ha=>?_) rfl
  ·rw [List.mem_singleton.mp ha];refine (?_:_≤(Heap.push ..).objs.size);rw [hsz];exact Nat.le_succ _
  ·rw [List.mem_singleton.mp ha];exact ⟨_,Heap.get?_push_size _ rfl⟩
  ·rw [List.mem_singleton.mp ha];refine (?_:_≤(Heap.push ..).objs.size);rw [hsz];exact Nat.le_succ_of_le e₁.size
theorem FQ.enum {p pos:Pos} {e:Expr} {xs:List AV} {st₁:ST} (hx:sc.names.lookup ("enumerate":Str)=some .globalImplicit) (hg:Bi W "enumerate" (.top (.type "enumerate"))) (hs:A4 e=true) (h:AA W k sc e st (.tup xs) st₁) :
  FQ W k sc (.Call (.Name "enumerate" p) [e] [] pos) st (FG 0 xs) 2 st₁:=by
 intro Z L as s A Q E env hE hR hS q
 refine wpAny_Call_Name_kw (wpAny_Name (Ah (as:=as) hE hS.zn hx hg fun u hu=>?_) (by decide))
 cases hu using Is.e_top
 refine Ao (W:=W) (f:=.type "enumerate") (by simp [hs]) trivial ((B0.cons hs h .nil) _ _ _ _ _ _ _ _ _ hE hR hS fun Z₁ as₁ us s₁ S₁ e₁ hus=>⟨S₁.zn.kIn,?_⟩)
 cases hus using IsL.e_cons with
 | _ _ _ h0 hr =>
  cases hr using IsL.e_nil
  cases h0 using Is.e_tup with
  | _ _ _ _ z hv hl =>
   refine F1 ⟨_,S₁.zn.keep _ _ z,rfl,_,rfl⟩ fun h' he hit hz hk=>?_
   refine wpAny_pyIter_enum he ?_
   obtain ⟨S₂,e₂⟩:=S₁.grow (tk:=s₁.toks) ⟨hk,by exact lin (Nat.le_of_eq (Eq.symm (by assumption))) (by simp +arith only)⟩
   refine q _ _ _ [_,_] _ S₂ (e₁.trans e₂) (.enum (i:=0) he (Nat.succ_ne_self _) hit z hv) (E6 S₁ (fun a ha=>?_) fun a ha=>?_) (fun a ha=>?_) rfl
   ·rcases List.mem_cons.mp ha with rfl | ha
    ·exact Nat.le_succ _
    ·rw [List.mem_singleton.mp ha];exact Nat.le_refl _
   ·rcases List.mem_cons.mp ha with rfl | ha
    ·exact ⟨_,he⟩
    ·rw [List.mem_singleton.mp ha];exact AG (hit) fun o h ζ=>⟨o,h⟩
   ·have:=e₁.size
    rcases List.mem_cons.mp ha with rfl | ha
    ·exact Nat.le_succ_of_le this
    ·rw [List.mem_singleton.mp ha];exact this
theorem B6.self {it:Value} {xs:List AV} {Q:Value→Shared→Prop} (f:B6 Z as s.heap it sup xs) (h1:sup.length=1) (q:Q it s):wpAny W.M A (pyIter it) Q E s:=by
 induction f using B6.casesOn with
 | list hit _ _=>exact wpAny_pyIter_listiter hit q
 | tup hit _ _ =>
  refine wpAny_pyIter_slot hit.typeIs F.slot_tuple_iterator_iter (wpAny_call_entry F.slot_tuple_iterator_iter hit.typeIs F.entry_tuple_iterator_iter ?_ (F.args_tuple_iterator_iter_1 _))
  exact wpAny_pure ⟨_,rfl,"tuple_iterator",_,hit.typeIs,slot_tupleiter_next.lookup,q⟩
 | str hit _ =>
  refine wpAny_pyIter_slot hit.typeIs F.slot_str_ascii_iterator_iter (wpAny_call_entry F.slot_str_ascii_iterator_iter hit.typeIs F.entry_str_ascii_iterator_iter ?_ (F.args_str_ascii_iterator_iter_1 _))
  exact wpAny_pure ⟨_,rfl,"str_ascii_iterator",_,hit.typeIs,F.slot_str_ascii_iterator_next.lookup,q⟩
 | range hit =>
  have hT:s.TypeIs (.ref _) "range_iterator":=⟨_,hit,rfl⟩
  refine wpAny_pyIter_slot hT F.slot_range_iterator_iter (wpAny_call_entry F.slot_range_iterator_iter hT F.entry_range_iterator_iter ?_ (F.args_range_iterator_iter_1 _))
  exact wpAny_pure ⟨_,rfl,"range_iterator",_,hT,F.slot_range_iterator_next.lookup,q⟩
 | enum=>simp at h1
theorem Fq {R:Result→Shared→Prop} {prog:Program} {w:World} {elt target iter:Expr} {gens:List Comprehension} {scope:Scope} {pos:Pos} {it acc:Value} {d:Nat} (hg:gens[d]?=some ⟨target,iter,[],0⟩) (hg':gens[d+1]?=none)
  (h:wpAny (model prog w) A (pyNext it) (fun r s₁=>match r with
   | none=>R (.ok .next) s₁
   | some v=>wpAny (model prog w) A (letOwnedTupleGo target it v) (fun ζ s₁' =>
     wpAny (model prog w) A (assign target env v) (fun ζ s₂=>wpAny (model prog w) A (eval elt env) (fun x s₃ =>
      wpAny (model prog w) A (call (.builtin "list.append") [acc,x]) (fun ζ s₄=>codeAny (model prog w) A (.compLoop (.ListComp elt gens scope pos) d it acc env) R s₄) (notedBy (model prog w) A env fun e s'=>R (.error e) s') s₃)
      (notedBy (model prog w) A env fun e s'=>R (.error e) s') s₂) (notedBy (model prog w) A env fun e s'=>R (.error e) s') s₁') (notedBy (model prog w) A env fun e s'=>R (.error e) s') s₁) (notedBy (model prog w) A env fun e s'=>R (.error e) s') s) :
  codeAny (model prog w) A (.compLoop (.ListComp elt gens scope pos) d it acc env) R s:=by
 refine codeAny_of_tree ?_
 refine (?_:wpAny _ A ((compTurn (.ListComp elt gens scope pos) d it acc env).onRaise (fun x=>do noteFrame x env;theTreesLotGoes x)) _ _ s)
 refine wpAny_noted ?_
 unfold compTurn
 simp only [hg,hg']
 refine wpAny_bind (wpAny_standAt (wpAny_bind (wpAny_mono h (fun r s₁ h₁=>?_) fun ζ ζ h'=>h')))
 induction r using Option.casesOn with
 | none=>exact wpAny_pure h₁
 | some v =>
  refine wpAny_bind (wpAny_mono h₁ (fun ζ s₁' h₁'=>?_) fun ζ ζ h'=>h')
  refine wpAny_bind (wpAny_mono h₁' (fun ζ s₂ h₂=>?_) fun ζ ζ h'=>h')
  refine wpAny_bind (wpAny_pure ?_)
  exact wpAny_bind (wpAny_bind (wpAny_mono h₂ (fun x s₃ h₃=>wpAny_bind (wpAny_mono h₃ (fun ζ s₄ h₄=>wpAny_pure (wpAny_pure ⟨rfl,h₄⟩)) fun ζ ζ h'=>h')) fun ζ ζ h'=>h'))
end
section
variable {W:Wd} {Z:AK} {L:Addr} {as:List Addr} {st:ST} {M:Model} {A:Around} {E:Value→Shared→Prop} {s:Shared} {env:Env} {sc:Scope} {k:Nat} {sup:List Addr}
class inductive Ac (W:Wd) (k:Nat) (sc:Scope) (elt target:Expr):List AV→ST→List AV→ST→Prop where
 | nil {st:ST}:Ac W k sc elt target [] st [] st
 | cons {x y:AV} {xs ys:List AV} {st st₁ st₂ st₃:ST}:AX W k sc target x st st₁→AA W k sc elt st₁ y st₂→Ac W k sc elt target xs st₂ ys st₃→Ac W k sc elt target (x::xs) st (y::ys) st₃
theorem Ac.len {elt target:Expr} {xs ys:List AV} {st st':ST} (h:Ac W k sc elt target xs st ys st'):ys.length=xs.length:=by
 induction h with
 | nil=>rfl
 | cons _ _ _ ih=>simp [ih]
structure Acc (Z:AK) (as:List Addr) (C D:Addr) (ys:List AV) (s:Shared):Prop where
 at_:∃ vs n,s.heap.get? D=some (Af vs n)∧IsL Z as ys vs
 off:Off Z as C [D] s.heap
theorem Acc.evo {own:List Addr} {Z':AK} {as':List Addr} {s':Shared} {C D:Addr} {ys:List AV} (a:Acc Z as C D ys s) (hD:D∉own) (e:Evo own Z Z' as as' s s'):Acc Z' as' C D ys s':=by
 obtain ⟨o,kk⟩:=a.off.evo (own:=own) (fun x hx=>by rw [List.mem_singleton.mp hx];exact hD) e
 refine Bl a.at_ fun vs n h hl=>?_
 exact ⟨⟨vs,n,kk D (by simp) _ h,hl.mono' e.zsub (AG (e.pre) fun m e ζ=>⟨m,e⟩)⟩,o⟩
theorem Acc.push {C D:Addr} {ys:List AV} {y:AV} {u:Value} {Q:Value→Shared→Prop} (a:Acc Z as C D ys s) (S:Sta W Z C as st s) (hu:Is Z as y u) (hl:ys.length≤sizeLine)
  (q:∀ s',Sta W Z C as st s'→Evo [C,D] Z Z as as s s'→(∀ b,b≠D→∀ o,s.heap.get? b=some o→s'.heap.get? b=some o)→Acc Z as C D (ys++[y]) s'→Q .none s'):wpAny W.M A (call (.builtin "list.append") [.ref D,u]) Q E s:=by
 refine Bl a.at_ fun vs n h hv=>?_
 refine append_at h (fun h' hs ho'=>?_) (by rw [List.size_toArray,← hv.length];exact hl)
 have:=S.off (N:=fun ζ ζ=>False) (tk:=s.toks) a.off (A2.same hs) (fun ζ ζ h=>h.elim)
 have e:(fun b o=>Z b o∨False)=Z:=by funext b o;simp
 simp only [e] at this
 rw [List.push_toArray] at ho'
 exact q _ this.1 this.2 (fun b hb o e=>(hs.2 b hb).trans e) ⟨⟨_,_,ho',hv.append (.cons hu .nil)⟩,a.off.same (fun x hx=>by rw [List.mem_singleton.mp hx];exact ⟨_,ho'⟩) fun ζ ζ ζ h=>h⟩
theorem B6.under {Z':AK} {as' own:List Addr} {s':Shared} {it:Value} {xs:List AV} {C:Addr} (f:B6 Z as s.heap it sup xs) (o:Off Z as C sup s.heap) (ho:∀ a∈sup,a∉own) (e:Evo own Z Z' as as' s s'):B6 Z' as' s'.heap it sup xs∧Off Z' as' C sup s'.heap:=by
 obtain ⟨o',kk⟩:=o.evo ho e
 exact ⟨f.keep e.zsub (AG (e.pre) fun m e ζ=>⟨m,e⟩) kk,o'⟩
theorem sub1 {C D:Addr}:∀ a∈C::sup,a∈C::D::sup:=fun a ha=>by
 rcases List.mem_cons.mp ha with h | h
 ·simp [h]
 ·simp [h]
theorem sub2 {C D:Addr}:∀ a∈[C],a∈C::D::sup:=fun a ha=>by simp at ha;simp [ha]
theorem sub3 {C D:Addr}:∀ a∈[C,D],a∈C::D::sup:=fun a ha=>by
 rcases List.mem_cons.mp ha with h | h
 ·simp [h]
 ·simp at h;simp [h]
theorem Ac.code {elt target iter:Expr} {gens:List Comprehension} {scope:Scope} {pos:Pos} {d:Nat} (hg:gens[d]?=some ⟨target,iter,[],0⟩) (hg':gens[d+1]?=none) {xs ys:List AV} {st st':ST} (h:Ac W k sc elt target xs st ys st') :
  ∀ (Z:AK) (C D:Addr) (as sup:List Addr) (it:Value) (s:Shared) (A:Around) (R:Result→Shared→Prop) (env:Env) (done:List AV),Aq env sc C→Ae A k→Sta W Z C as st s→B6 Z as s.heap it sup xs→Off Z as C sup s.heap→sup.length=1→D∉sup →
  Acc Z as C D done s→done.length+xs.length≤sizeLine →
  (∀ (Z':AK) (as':List Addr) (s':Shared),Sta W Z' C as' st' s'→Evo (C::D::sup) Z Z' as as' s s'→Acc Z' as' C D (done++ys) s'→R (.ok .next) s') →
  codeAny W.M A (.compLoop (.ListComp elt gens scope pos) d it (.ref D) env) R s:=by
 induction h with
 | nil =>
  intro Z C D as sup it s A R env done hE hR hS hf ho hs1 hD hacc hl q
  refine Fq hg hg' (hf.next ho hS hR.handled (fun e=>by rw [hs1] at e;cases e) (fun ζ s₁ S₁ e₁=>?_) fun y ys e=>by cases e)
  have hDC:D∉C::sup:=fun z=>by
   rcases List.mem_cons.mp z with z | z
   ·exact hacc.off.fr D (by simp) z
   ·exact hD z
  have:=hacc.evo hDC e₁
  rw [← List.append_nil done] at this
  exact q _ _ _ S₁ (e₁.weak sub1) this
 | cons h1 h2 _ ih =>
  intro Z C D as sup it s A R env done hE hR hS hf ho hs1 hD hacc hl q
  refine Fq hg hg' (hf.next ho hS hR.handled (fun e=>by rw [hs1] at e;cases e) (fun e=>by cases e) fun y ys e Z₁ u s₁ S₁ e₁ f₁ o₁ hu=>?_)
  cases e
  have hDC:D∉C::sup:=fun z=>by
   rcases List.mem_cons.mp z with z | z
   ·exact hacc.off.fr D (by simp) z
   ·exact hD z
  have hsC:∀ a∈sup,a∉[C]:=fun a ha z=>ho.fr a ha (by simpa using z)
  refine h1 _ _ _ _ _ _ _ _ _ hE hR S₁ hu fun s₂ S₂ e₂=>h2 _ _ _ _ _ _ _ _ hE hR S₂ fun Z₃ as₃ w s₃ S₃ e₃ hw=>?_
  have e₂₃:=e₂.trans e₃
  have acc₃:=(hacc.evo hDC e₁).evo (own:=[C]) (fun z=>hDC (by simp at z;simp [z])) e₂₃
  obtain ⟨f₃,o₃⟩:=f₁.under o₁ hsC e₂₃
  refine acc₃.push S₃ hw (by simp at hl ⊢;exact lin (by assumption) (by simp +arith only)) fun s₄ S₄ e₄ k₄ acc₄=>?_
  have f₄:B6 Z₃ as₃ s₄.heap it sup _:=f₃.keep (fun ζ ζ h=>h) ⟨[],by simp⟩ fun a ha o=>k₄ a (fun z=>hD (z▸ha)) o
  have o₄:Off Z₃ as₃ C sup s₄.heap:=o₃.same (fun a ha=>(o₃.live a ha).elim fun o h=>⟨o,k₄ a (fun z=>hD (z▸ha)) o h⟩) fun ζ ζ ζ h=>h
  refine ih Z₃ C D as₃ sup it s₄ A R env _ hE hR S₄ f₄ o₄ hs1 hD acc₄ (by simp at hl ⊢;exact lin (by assumption) (by simp +arith only)) fun Z₅ as₅ s₅ S₅ e₅ acc₅=>?_
  rw [List.append_assoc] at acc₅
  exact q _ _ _ S₅ ((((e₁.weak sub1).trans (e₂₃.weak sub2)).trans (e₄.weak sub3)).trans e₅) acc₅
theorem DV {R:Result→Shared→Prop} {prog:Program} {w:World} {elt:Expr} {gens:List Comprehension} {g:Comprehension} {scope:Scope} {pos:Pos} {it acc:Value} {d:Nat} (hg:gens[d]?=some g) (ha:g.is_async=0)
  (h0:codeAny (model prog w) A (.compLoop (.ListComp elt gens scope pos) d it acc env) R s)
  (h:wpAny (model prog w) A (pyIter it) (fun it' s'=>codeAny (model prog w) A (.compLoop (.ListComp elt gens scope pos) d it' acc env) R s') (notedBy (model prog w) A env fun x s'=>R (.error x) s') s) :
  codeAny (model prog w) A (.compStart (.ListComp elt gens scope pos) d it acc env) R s:=by
 refine codeAny_of_tree ?_
 refine (?_:wpAny _ _ ((compStart (.ListComp elt gens scope pos) d it acc env).onRaise (fun x=>do noteFrame x env;standAt theWindowsPlace)) _ _ s)
 refine wpAny_notedAt ?_
 unfold compStart
 have e:clausesOf (.ListComp elt gens scope pos)=gens:=rfl
 rw [e,hg]
 simp only [Option.elim,ha,bne_self_eq_false,Bool.false_eq_true,if_false]
 refine wpAny_bind (wpAny_askSetting (wpAny_ite ?_))
 split
 ·exact wpAny_pure (And.intro rfl h0)
 ·exact wpAny_bind (wpAny_rule (wpAny_bind (wpAny_standAt (wpAny_bind (wpAny_mono h (fun it' s' h'=>wpAny_pure (And.intro rfl h')) fun ζ ζ x=>x)))))
end
section
variable {W:Wd} {Z:AK} {L:Addr} {as:List Addr} {st:ST} {M:Model} {A:Around} {E:Value→Shared→Prop} {s:Shared} {env:Env} {sc:Scope} {k:Nat} {sup:List Addr}
noncomputable def FP (W:Wd) (k:Nat) (sc:Scope) (e:Expr) (xs:List AV) (st:ST) (ys:List AV) (st':ST):Prop :=
 ∀ (Z:AK) (C D:Addr) (as sup:List Addr) (it:Value) (s:Shared) (A:Around) (R:Result→Shared→Prop) (env:Env),Aq env sc C→Ae A k→Sta W Z C as st s→B6 Z as s.heap it sup xs→Off Z as C sup s.heap→sup.length=1→D∉sup →
  Acc Z as C D [] s →
  (∀ (Z':AK) (as':List Addr) (s':Shared),Sta W Z' C as' st' s'→Evo (C::D::sup) Z Z' as as' s s'→Acc Z' as' C D ys s'→R (.ok .next) s') →
  codeAny W.M A (.compStart e 0 it (.ref D) env) R s
theorem Ac.loop {elt target iter:Expr} {scope:Scope} {pos:Pos} {xs ys:List AV} {st st':ST} (h:Ac W k sc elt target xs st ys st') (hl:xs.length≤sizeLine):FP W k sc (.ListComp elt [⟨target,iter,[],0⟩] scope pos) xs st ys st':=by
 intro Z C D as sup it s A R env hE hR hS hf ho hs1 hD hacc q
 have key:=h.code (iter:=iter) (gens:=[⟨target,iter,[],0⟩]) (scope:=scope) (pos:=pos) (d:=0) rfl rfl Z C D as sup it s A R env [] hE hR hS hf ho hs1 hD hacc (by simpa using hl) (fun Z' as' s' a b c=>q Z' as' s' a b c)
 exact DV rfl rfl key (hf.self (W:=W) hs1 key)
theorem FI {R:Result→Shared→Prop} {prog:Program} {w:World} {elt target iter target' iter':Expr} {scope:Scope} {pos:Pos} {it acc:Value}
  (hs:∀ x,foldedSetIterable iter' env x=pure x)
  (h:wpAny (model prog w) A (pyNext it) (fun r s₁=>match r with
   | none=>R (.ok .next) s₁
   | some v=>wpAny (model prog w) A (letOwnedTupleGo target it v) (fun ζ s₁' =>
     wpAny (model prog w) A (assign target env v) (fun ζ s₂=>wpAny (model prog w) A (eval iter' env) (fun x s₃ =>
      wpAny (model prog w) A (pyIter x) (fun it' s₄=>codeAny (model prog w) A (.compStart (.ListComp elt [⟨target,iter,[],0⟩,⟨target',iter',[],0⟩] scope pos) 1 it' acc env)
       (fun r s₅=>match r with
        | .ok _=>codeAny (model prog w) A (.compLoop (.ListComp elt [⟨target,iter,[],0⟩,⟨target',iter',[],0⟩] scope pos) 0 it acc env) R s₅
        | .error e=>cameBackBy (model prog w) A env (notedBy (model prog w) A env fun e s'=>R (.error e) s') e s₅) s₄) (notedBy (model prog w) A env fun e s'=>R (.error e) s') s₃)
      (notedBy (model prog w) A env fun e s'=>R (.error e) s') s₂) (notedBy (model prog w) A env fun e s'=>R (.error e) s') s₁') (notedBy (model prog w) A env fun e s'=>R (.error e) s') s₁) (notedBy (model prog w) A env fun e s'=>R (.error e) s') s) :
  codeAny (model prog w) A (.compLoop (.ListComp elt [⟨target,iter,[],0⟩,⟨target',iter',[],0⟩] scope pos) 0 it acc env) R s:=by
 refine codeAny_of_tree ?_
 refine (?_:wpAny _ A ((compTurn (.ListComp elt [⟨target,iter,[],0⟩,⟨target',iter',[],0⟩] scope pos) 0 it acc env).onRaise (fun x=>do noteFrame x env;theTreesLotGoes x)) _ _ s)
 refine wpAny_noted ?_
 unfold compTurn
 refine wpAny_bind (wpAny_standAt (wpAny_bind (wpAny_mono h (fun r s₁ h₁=>?_) fun ζ ζ h'=>h')))
 induction r using Option.casesOn with
 | none=>exact wpAny_pure h₁
 | some v =>
  refine wpAny_bind (wpAny_mono h₁ (fun ζ s₁' h₁'=>?_) fun ζ ζ h'=>h')
  refine wpAny_bind (wpAny_mono h₁' (fun ζ s₂ h₂=>?_) fun ζ ζ h'=>h')
  refine wpAny_bind (wpAny_pure ?_)
  refine wpAny_bind (wpAny_mono h₂ (fun x s₃ h₃=>?_) fun ζ ζ h'=>h')
  refine wpAny_bind (wpAny_standAt (wpAny_bind (wpAny_of_eq (hs x) (wpAny_bind (wpAny_holding (wpAny_mono h₃ (fun it' s₄ h₄=>?_) fun ζ ζ h'=>h'))))))
  refine wpAny_bind (wpAny_runOwn (codeAny_mono h₄ fun r s₅ h₅=>?_))
  cases r with
  | ok _=>exact wpAny_pure ⟨rfl,h₅⟩
  | error e=>exact h₅
class inductive BO (W:Wd) (k:Nat) (sc:Scope) (elt target target' iter':Expr):List AV→ST→List AV→ST→Prop where
 | nil {st:ST}:BO W k sc elt target target' iter' [] st [] st
 | cons {x:AV} {xs us ys zs:List AV} {st st₁ st₂ st₃ st₄:ST}:AX W k sc target x st st₁→FQ W k sc iter' st₁ us 1 st₂ →
   Ac W k sc elt target' us st₂ ys st₃→BO W k sc elt target target' iter' xs st₃ zs st₄→BO W k sc elt target target' iter' (x::xs) st (ys++zs) st₄
theorem BO.code {elt target iter target' iter':Expr} {scope:Scope} {pos:Pos} (hs:∀ env x,foldedSetIterable iter' env x=pure x) {xs ys:List AV} {st st':ST} (h:BO W k sc elt target target' iter' xs st ys st') :
  ∀ (Z:AK) (C D:Addr) (as sup:List Addr) (it:Value) (s:Shared) (A:Around) (R:Result→Shared→Prop) (env:Env) (done:List AV),Aq env sc C→Ae A k→Sta W Z C as st s→B6 Z as s.heap it sup xs→Off Z as C sup s.heap→sup.length=1→D∉sup →
  Acc Z as C D done s→done.length+ys.length≤sizeLine →
  (∀ (Z':AK) (as':List Addr) (s':Shared),Sta W Z' C as' st' s'→Evo (C::D::sup) Z Z' as as' s s'→Acc Z' as' C D (done++ys) s'→R (.ok .next) s') →
  codeAny W.M A (.compLoop (.ListComp elt [⟨target,iter,[],0⟩,⟨target',iter',[],0⟩] scope pos) 0 it (.ref D) env) R s:=by
 induction h with
 | nil =>
  intro Z C D as sup it s A R env done hE hR hS hf ho hs1 hD hacc hl q
  refine FI (hs env) (hf.next ho hS hR.handled (fun e=>by rw [hs1] at e;cases e) (fun ζ s₁ S₁ e₁=>?_) fun y ys e=>by cases e)
  have hDC:D∉C::sup:=fun z=>by
   rcases List.mem_cons.mp z with z | z
   ·exact hacc.off.fr D (by simp) z
   ·exact hD z
  have:=hacc.evo hDC e₁
  rw [← List.append_nil done] at this
  exact q _ _ _ S₁ (e₁.weak sub1) this
 | @cons x xs us ys zs st st₁ st₂ st₃ st₄ h1 h2 h3 _ ih =>
  intro Z C D as sup it s A R env done hE hR hS hf ho hs1 hD hacc hl q
  refine FI (hs env) (hf.next ho hS hR.handled (fun e=>by rw [hs1] at e;cases e) (fun e=>by cases e) fun y ys' e Z₁ u s₁ S₁ e₁ f₁ o₁ hu=>?_)
  cases e
  have hDC:D∉C::sup:=fun z=>by
   rcases List.mem_cons.mp z with z | z
   ·exact hacc.off.fr D (by simp) z
   ·exact hD z
  have hsC:∀ a∈sup,a∉[C]:=fun a ha z=>ho.fr a ha (by simpa using z)
  have hlen:=h3.len
  refine h1 _ _ _ _ _ _ _ _ _ hE hR S₁ hu fun s₂ S₂ e₂=>h2 _ _ _ _ _ _ _ _ hE hR S₂ fun Z₃ as₃ it' sup' s₃ S₃ e₃ f' o' hnew hs1'=>?_
  have e₂₃:=e₂.trans e₃
  have acc₃:=(hacc.evo hDC e₁).evo (own:=[C]) (fun z=>hDC (by simp at z;simp [z])) e₂₃
  obtain ⟨f₃,o₃⟩:=f₁.under o₁ hsC e₂₃
  have hDlt:D<s₂.heap.objs.size:=by
   have:=(hacc.evo hDC e₁).evo (own:=[C]) (fun z=>hDC (by simp at z;simp [z])) e₂
   refine Bl this.at_ fun vs n h ζ=>?_
   exact Heap.lt_size h
  have hD':D∉sup':=fun z=>absurd hDlt (Nat.not_lt.mpr (hnew D z))
  have hss:∀ a∈sup,a∉C::D::sup':=fun a ha z=>by
   have hlt:a<s₂.heap.objs.size:=by
    obtain ⟨_,o⟩:=f₁.under o₁ hsC e₂
    obtain ⟨ob,h⟩:=o.live a ha
    exact Heap.lt_size h
   rcases List.mem_cons.mp z with z | z
   ·exact o₁.fr a ha z
   ·rcases List.mem_cons.mp z with z | z
    ·exact hD (z▸ha)
    ·exact absurd hlt (Nat.not_lt.mpr (hnew a z))
  have key:=h3.code (iter:=iter') (gens:=[⟨target,iter,[],0⟩,⟨target',iter',[],0⟩]) (scope:=scope) (pos:=pos) (d:=1) rfl rfl Z₃ C D as₃ sup' it' s₃ A (fun r s₅=>match r with
        | .ok _=>codeAny W.M A (.compLoop (.ListComp elt [⟨target,iter,[],0⟩,⟨target',iter',[],0⟩] scope pos) 0 it (.ref D) env) R s₅
        | .error e=>cameBackBy W.M A env (notedBy W.M A env fun e s'=>R (.error e) s') e s₅) env done hE hR S₃ f' o' hs1' hD' acc₃ (by simp at hl;exact (lns hlen (lin hl (by simp +arith only)))) (fun Z₄ as₄ s₄ S₄ e₄ acc₄=>by
   obtain ⟨f₄,o₄⟩:=f₃.under o₃ hss e₄
   have e₁₄:Evo (C::D::sup) Z Z₄ as as₄ s s₄:=by
    have a1:Evo (C::D::sup) Z Z₁ as as s s₁:=e₁.weak sub1
    have a2:Evo [C] Z₁ Z₃ as as₃ s₁ s₃:=e₂₃
    have a3:Evo (C::D::sup) Z₁ Z₄ as as₄ s₁ s₄:=(a2.weak sub2).shrink e₄ fun x hx=>by
     rcases List.mem_cons.mp hx with z | z
     ·exact .inl (by simp [z])
     ·rcases List.mem_cons.mp z with z | z
      ·exact .inl (by simp [z])
      ·exact .inr (Nat.le_trans e₂.size (hnew x z))
    exact a1.trans a3
   refine ih Z₄ C D as₄ sup it s₄ A R env _ hE hR S₄ f₄ o₄ hs1 hD acc₄ (by simp at hl ⊢;exact lin (by assumption) (by simp +arith only)) fun Z₅ as₅ s₅ S₅ e₅ acc₅=>?_
   rw [List.append_assoc] at acc₅
   exact q _ _ _ S₅ (e₁₄.trans e₅) acc₅)
  exact DV rfl rfl key (f'.self (W:=W) hs1' key)
theorem BO.loop {elt target iter target' iter':Expr} {scope:Scope} {pos:Pos} (hs:∀ env x,foldedSetIterable iter' env x=pure x) {xs ys:List AV} {st st':ST} (h:BO W k sc elt target target' iter' xs st ys st') (hl:ys.length≤sizeLine) :
  FP W k sc (.ListComp elt [⟨target,iter,[],0⟩,⟨target',iter',[],0⟩] scope pos) xs st ys st':=by
 intro Z C D as sup it s A R env hE hR hS hf ho hs1 hD hacc q
 have key:=h.code (iter:=iter) (scope:=scope) (pos:=pos) hs Z C D as sup it s A R env [] hE hR hS hf ho hs1 hD hacc (by simpa using hl) (fun Z' as' s' a b c=>q Z' as' s' a b c)
 exact DV rfl rfl key (hf.self (W:=W) hs1 key)
end
section
variable {W:Wd} {Z:AK} {L:Addr} {as:List Addr} {st:ST} {M:Model} {A:Around} {E:Value→Shared→Prop} {s:Shared} {env:Env} {sc:Scope} {k:Nat} {sup:List Addr}
theorem Sta.called' {own:List Addr} {Z':AK} {as':List Addr} {objs':List AO} {s':Shared} (S:Sta W Z L as st s) (zn:Zn W Z' s'.heap) (ow:Ow Z' as' objs' s'.heap) (hL:L∉own) (e:Evo own Z Z' as as' s s'):Sta W Z' L as' {st with objs:=objs'} s':=by
 refine AG (S.fr.ns) fun m hn hm=>?_
 refine AG e.pre fun more r1_ hmore=>?_;subst r1_
 have hl:=hn.lt
 refine F6 hn fun o es ep ho r=>?_
 have hL':=e.keep _ _ ho hL S.fr.notIn S.fr.out.2
 refine ⟨zn,ow,⟨⟨m,⟨o,es,ep,hL',r⟩,fun x a q=>?_⟩,fun q=>?_,fun o q=>?_,S.fr.out.2⟩⟩
 ·refine AG (hm x a q) fun v h1 h2=>?_
  exact ⟨v,h1,h2.mono e.zsub⟩
 ·rcases List.mem_append.mp q with q | q
  ·exact S.fr.notIn q
  ·exact absurd hl (Nat.not_lt.mpr (hmore _ q))
 ·rcases e.znew _ _ q with q | q
  ·exact S.fr.out.1 _ q
  ·exact absurd hl (Nat.not_lt.mpr q)
theorem FO {own:List Addr} {Z₁:AK} {as₁:List Addr} {s₁:Shared} {C D:Addr} {ys:List AV} {st₂:ST} (S:Sta W Z L as st s) (S₁:Sta W Z₁ C as₁ st₂ s₁) (a:Acc Z₁ as₁ C D ys s₁) (e:Evo own Z Z₁ as as₁ s s₁) (hL:L∉own) (hl:ys.length≤sizeLine) (hD:s.heap.objs.size≤D) (hC:s.heap.objs.size≤C) :
  ∃ Z₂:AK,Sta W Z₂ L as₁ {st with objs:=st₂.objs} s₁∧Evo own Z Z₂ as as₁ s s₁∧Is Z₂ as₁ (.lst ys) (.ref D)∧Off Z₂ as₁ L [C] s₁.heap∧Off Z₂ as₁ C [L] s₁.heap:=by
 refine Bl a.at_ fun vs n h hv=>?_
 let Z₂:AK:=fun b o=>Z₁ b o∨(b=D∧o=Af vs n)
 have hz:∀ b o,Z₁ b o→Z₂ b o:=fun ζ ζ h=>.inl h
 have hLC:L≠C:=by
  refine AG (S.fr.ns) fun m hn ζ=>?_
  exact fun z=>absurd hn.lt (Nat.not_lt.mpr (z▸hC))
 have hLD:L≠D:=by
  refine AG (S.fr.ns) fun m hn ζ=>?_
  exact fun z=>absurd hn.lt (Nat.not_lt.mpr (z▸hD))
 have zn:Zn W Z₂ s₁.heap:=⟨fun a o e=>.inl (S₁.zn.kin a o e),fun b o e=>by
  rcases e with e | ⟨rfl,rfl⟩
  ·exact S₁.zn.keep b o e
  ·exact h,fun b o e=>by
  rcases e with e | ⟨rfl,rfl⟩
  ·exact S₁.zn.low b o e
  ·exact a.off.tab _ (by simp),S₁.zn.tab.mono hz⟩
 have ow:Ow Z₂ as₁ st₂.objs s₁.heap:=⟨S₁.ow.len,fun i b x e1 e2=>by
  refine AG (S₁.ow.obj i b x e1 e2) fun o h1 h2=>?_
  have:=h2.mono (more:=[]) hz
  rw [List.append_nil] at this
  exact ⟨o,h1,this⟩,S₁.ow.nodup,fun b hb=>⟨fun o e=>by
  rcases e with e | ⟨rfl,rfl⟩
  ·exact (S₁.ow.out b hb).1 o e
  ·exact a.off.as _ (by simp) hb,(S₁.ow.out b hb).2⟩⟩
 have e':Evo own Z Z₂ as as₁ s s₁:=⟨fun b o h=>.inl (e.zsub b o h),fun b o h=>by
  rcases h with h | ⟨rfl,rfl⟩
  ·exact e.znew b o h
  ·exact .inr hD,e.pre,e.keep,e.size,e.gens,e.drawn,e.os⟩
 have S₂:Sta W Z₂ L as₁ {st with objs:=st₂.objs} s₁:=S.called' zn ow hL e'
 have hv':=hv.mono (more:=[]) hz
 rw [List.append_nil] at hv'
 refine ⟨Z₂,S₂,e',.lst (.inr ⟨rfl,rfl⟩) hv' (by rw [← hv.length];exact hl),⟨fun b hb=>?_,fun b hb=>?_,fun b hb=>?_,fun b hb=>?_,fun b hb o z=>?_⟩,⟨fun b hb=>?_,fun b hb=>?_,fun b hb=>?_,fun b hb=>?_,fun b hb o z=>?_⟩⟩
 ·rw [List.mem_singleton.mp hb]
  obtain ⟨m,⟨o,_,_,ho,_⟩,_⟩:=S₁.fr.ns
  exact ⟨o,ho⟩
 ·rw [List.mem_singleton.mp hb];exact S₁.fr.notIn
 ·rw [List.mem_singleton.mp hb];exact Ne.symm hLC
 ·rw [List.mem_singleton.mp hb];exact S₁.fr.out.2
 ·rw [List.mem_singleton.mp hb] at z
  rcases z with z | ⟨z,_⟩
  ·exact S₁.fr.out.1 o z
  ·exact a.off.fr D (by simp) z.symm
 ·rw [List.mem_singleton.mp hb]
  obtain ⟨m,⟨o,_,_,ho,_⟩,_⟩:=S₂.fr.ns
  exact ⟨o,ho⟩
 ·rw [List.mem_singleton.mp hb];exact S₂.fr.notIn
 ·rw [List.mem_singleton.mp hb];exact hLC
 ·rw [List.mem_singleton.mp hb];exact S₂.fr.out.2
 ·rw [List.mem_singleton.mp hb] at z;exact S₂.fr.out.1 o z
theorem Fr {e:Expr} {scope:Scope} {it:Value} {xs ys:List AV} {st₁ st₂:ST} {RR:Value→Addr→Result→Shared→Prop} (hE:Aq env sc L) (hk:scope.kind=.function) (hcd:DW scope=none) (hcell:∀ y∈scope.names,y.2≠.cell) (S:Sta W Z L as st₁ s) (f:B6 Z as s.heap it sup xs) (o:Off Z as L sup s.heap) (h1:sup.length=1) (hR:Ae A k)
  (hl:FP W k scope e xs ⟨[],st₁.objs⟩ ys st₂)
  (q:∀ (Z':AK) (as':List Addr) (C D:Addr) (s':Shared),Sta W Z' C as' st₂ s'→Evo (C::D::sup) Z Z' as as' s s'→s.heap.objs.size≤C→s.heap.objs.size≤D→Acc Z' as' C D ys s'→RR (.ref D) C (.ok .next) s') :
  wpAny W.M A (newList []) (fun acc s₃=>wpAny W.M A (newFunctionEnv scope env.globals [] [] env.qual none .none (some env)) (fun cenv s₄=>codeAny W.M A (.compStart e 0 it acc {cenv with scope:=scope}) (RR acc cenv.locals) s₄) E s₃) E s:=by
 refine wpAny_newObj_type (hd:=by size_fits) (wpAny_newFunctionEnv hcell (by intro y hy;simp at hy) (fun h₁ hns₁ hsb₁=>?_) hk)
 dsimp only at hns₁ hsb₁ ⊢
 generalize hH:s.heap.push {cls:=.type "list",data:=.seq #[]}=H at hns₁ hsb₁ ⊢
 have hHs:H.objs.size=s.heap.objs.size+1:=by rw [← hH];exact Heap.size_push ..
 have hC:s.heap.objs.size≤H.objs.size:=by rw [hHs];exact Nat.le_succ _
 have hDC:s.heap.objs.size≠H.objs.size:=by rw [hHs];exact (Nat.succ_ne_self _).symm
 have g:A6 s.heap h₁:=⟨fun b o e=>by
  have hb:b≠H.objs.size:=Nat.ne_of_lt (Nat.lt_of_lt_of_le (Heap.lt_size e) hC)
  exact (hsb₁.2 b hb).trans (Heap.get?_push_of_some _ (hH▸Heap.get?_push_of_some _ e)),by
  rw [hsb₁.1,Heap.size_push];exact Nat.le_succ_of_le hC⟩
 obtain ⟨S₁,e₁⟩:=S.grow (tk:=s.toks+([]:List (Str×Value)).length) g
 have hacc:h₁.get? s.heap.objs.size=some (Af [] 0):=(hsb₁.2 _ hDC).trans (Heap.get?_push_of_some _ (hH▸Heap.get?_push_size _ rfl))
 have lt:∀ {P:Prop} {b:Addr},s.heap.objs.size≤b→b<s.heap.objs.size→P:=fun a b=>absurd b (Nat.not_lt.mpr a)
 have oC:Off Z as L [H.objs.size,s.heap.objs.size] h₁:=E6 S (fun a ha=>by
  rcases List.mem_cons.mp ha with rfl | ha
  ·exact hC
  ·rw [List.mem_singleton.mp ha];exact Nat.le_refl _) fun a ha=>by
  rcases List.mem_cons.mp ha with rfl | ha
  ·refine F6 hns₁ fun o ζ ζ ho ζ=>?_;exact ⟨o,ho⟩
  ·rw [List.mem_singleton.mp ha];exact ⟨_,hacc⟩
 have hsup:∀ a∈sup,a<s.heap.objs.size:=fun a ha=>(o.live a ha).elim fun o h=>Heap.lt_size h
 have S₂:Sta W Z H.objs.size as ⟨[],st₁.objs⟩ {s with heap:=h₁,toks:=s.toks+([]:List (Str×Value)).length} :=
  ⟨S₁.zn,S₁.ow,⟨⟨_,hns₁,fun x a z=>by exact no z⟩,oC.as _ (by simp),fun o=>oC.zone _ (by simp) o,oC.tab _ (by simp)⟩⟩
 refine hl Z H.objs.size s.heap.objs.size as sup it _ A _ _ ⟨rfl,rfl,hE.globals,hE.builtins,hk,fun c q e=>by rw [hcd] at e;exact no e⟩ hR S₂ (f.keep (fun ζ ζ h=>h) ⟨[],by simp⟩ fun a ha o=>g.1 a o) ⟨fun a ha=>(o.live a ha).elim fun ob h=>⟨ob,g.1 _ _ h⟩,o.as,fun a ha z=>lt (z▸hC) (hsup a ha),o.tab,o.zone⟩ h1 (fun z=>lt (Nat.le_refl _) (hsup _ z))
  ⟨⟨[],0,hacc,.nil⟩,⟨fun a ha=>by rw [List.mem_singleton.mp ha];exact ⟨_,hacc⟩,fun a ha=>oC.as a (by simp at ha;simp [ha]),fun a ha=>by rw [List.mem_singleton.mp ha];exact hDC,fun a ha=>oC.tab a (by simp at ha;simp [ha]),fun a ha=>oC.zone a (by simp at ha;simp [ha])⟩⟩ fun Z' as' s' S' e' acc'=>?_
 refine q Z' as' _ _ s' S' ?_ hC (Nat.le_refl _) acc'
 have e₁':Evo (H.objs.size::s.heap.objs.size::sup) Z Z as as s {s with heap:=h₁,toks:=s.toks+([]:List (Str×Value)).length}:=⟨fun ζ ζ h=>h,fun ζ ζ h=>.inl h,⟨[],by simp,fun ζ h=>(nomatch h)⟩,fun b o h ζ ζ ζ=>g.1 b o h,g.2,AY.grr _,rfl,rfl⟩
 exact e₁'.trans e'
structure Bm (scope:Scope):Prop where
 free:∀ x∈scope.names,x.2≠.free
 cell:∀ x∈scope.names,x.2≠.cell
 kind:scope.kind=.function
 names:∀ x∈scope.names,x.2=.local→scope.names.lookup x.1=some .local
 code:DW scope=none
noncomputable def Ei (scope:Scope):Bool:=(scope.names.all fun x=>decide (x.2≠.free)&&decide (x.2≠.cell)&&(decide (x.2≠.local) || decide (scope.names.lookup x.1=some .local)))&&decide (scope.kind=.function)&&(DW scope).isNone
theorem Bm.of {scope:Scope} (h:Ei scope=true):Bm scope:=by
 unfold Ei at h
 rw [Bool.and_eq_true,Bool.and_eq_true,List.all_eq_true] at h
 obtain ⟨h,hc⟩:=h
 refine ⟨fun x hx=>?_,fun x hx=>?_,of_decide_eq_true h.2,fun x hx e=>?_,Option.isNone_iff_eq_none.mp hc⟩
 ·have:=h.1 x hx;simp only [Bool.and_eq_true,decide_eq_true_eq] at this;exact this.1.1
 ·have:=h.1 x hx;simp only [Bool.and_eq_true,decide_eq_true_eq] at this;exact this.1.2
 ·have:=h.1 x hx;simp only [Bool.and_eq_true,decide_eq_true_eq,Bool.or_eq_true] at this
  exact this.2.resolve_left (fun z=>z e)
theorem Hp {scope:Scope} (sok:Bm scope):relabel scope env=scope:=by
 unfold relabel
 have:(scope.names.map fun (n,k)=>if (k==.free&&env.scope.kind==.function&&env.kindOf n==some .cell) then (n,NameKind.cell) else (n,k))=scope.names:=map_eq_self fun x hx=>by
  obtain ⟨n,k⟩:=x
  have:(k==NameKind.free)=false:=by simpa using sok.free _ hx
  simp [this]
 rw [this]
theorem Ip {prog:Program} {w:World} {e:Expr} {scope:Scope} {pos:Pos} {newAcc first:Sem Value} {g:Comprehension} {gs:List Comprehension} {use:Option (Value→Sem Unit)} {Q:Value→Shared→Prop} (sok:Bm scope)
  (hcl:clausesOf e=g::gs) (hs:∀ x,foldedSetIterable g.iter env x=pure x)
  (h:wpAny (model prog w) A first (fun x s₁=>wpAny (model prog w) A (pyIter x) (fun it s₂=>wpAny (model prog w) A newAcc (fun acc s₃ =>
   wpAny (model prog w) A (newFunctionEnv scope env.globals [] [] env.qual none .none (some env)) (fun cenv s₄ =>
    codeAny (model prog w) A (.compStart e 0 it acc {cenv with scope:=scope}) (compPost (model prog w) A E use Q acc cenv.locals) s₄) E s₃) E s₂) E s₁) E s) :
  wpAny (model prog w) A (comprehension e scope env pos newAcc false first use) Q E s:=by
 refine wpAny_comprehension_free hcl hs (closureFor_none sok.free) sok.kind sok.names ?_
 rw [Hp sok]
 exact h
theorem Gy {own:List Addr} {n:Nat} (C D:Addr) (h:∀ a∈own,n≤a) (hC:n≤C) (hD:n≤D):∀ x∈C::D::own,n≤x:=fun x hx=>by
 rcases List.mem_cons.mp hx with z | z
 ·exact z▸hC
 ·rcases List.mem_cons.mp z with z | z
  ·exact z▸hD
  ·exact h x z
theorem Fi {C D:Addr} {st₁:ST} (S₁:Sta W Z L as st₁ s) (o₁:Off Z as L sup s.heap) (hC:s.heap.objs.size≤C) (hD:s.heap.objs.size≤D):L∉C::D::sup:=by
 refine AG (S₁.fr.ns) fun m hn ζ=>?_
 intro z
 rcases List.mem_cons.mp z with z | z
 ·exact absurd hn.lt (Nat.not_lt.mpr (z▸hC))
 ·rcases List.mem_cons.mp z with z | z
  ·exact absurd hn.lt (Nat.not_lt.mpr (z▸hD))
  ·exact o₁.fr L z rfl
theorem Sta.cell {h':Heap} {tk:Nat} {C:Addr} (S:Sta W Z L as st s) (o:Off Z as L [C] s.heap) (hs:Heap.SameBut C s.heap h'):Sta W Z L as st {s with heap:=h',toks:=tk}∧Evo [L,C] Z Z as as s {s with heap:=h',toks:=tk}:=by
 have:=S.off (N:=fun ζ ζ=>False) (tk:=tk) o (A2.same hs) (fun ζ ζ h=>h.elim)
 have e:(fun b o=>Z b o∨False)=Z:=by funext b o;simp
 simp only [e] at this
 exact this
theorem AA.comp {elt target iter:Expr} {rest:List Comprehension} {scope:Scope} {pos:Pos} {xs ys:List AV} {st₁ st₂:ST} (hs:∀ env x,foldedSetIterable iter env x=pure x) (sok:Bm scope) (hi:FQ W k sc iter st xs 1 st₁)
  (hl:FP W k scope (.ListComp elt (⟨target,iter,[],0⟩::rest) scope pos) xs ⟨[],st₁.objs⟩ ys st₂) (hy:ys.length≤sizeLine):AA W k sc (.ListComp elt (⟨target,iter,[],0⟩::rest) scope pos) st (.lst ys) {st₁ with objs:=st₂.objs}:=by
 intro Z L as s A Q E env hE hR hS q
 rw [eval_ListComp]
 refine Ip (use:=none) sok rfl (hs env) (hi _ _ _ _ _ _ _ _ hE hR hS fun Z₁ as₁ it sup s₁ S₁ e₁ f₁ o₁ hnew hs1=>?_)
 refine Fr (RR:=fun acc C=>compPost W.M A E none Q acc C) hE sok.kind sok.code sok.cell S₁ f₁ o₁ hs1 hR hl fun Z₂ as₂ C D s₂ S₂ e₂ hC hD acc=>?_
 refine Ep (FO S₁ S₂ acc e₂ (Fi S₁ o₁ hC hD) hy hD hC) fun Z₃ S₃ e₃ hv oC oL=>?_
 refine AG (S₂.fr.ns) fun m hn ζ=>?_
 refine ⟨m,hn,fun h' hsb=>?_⟩
 obtain ⟨S₄,e₄⟩:=S₃.cell (tk:=s₂.toks) oC hsb
 refine q _ _ _ _ S₄ ((e₁.shrink e₃ fun x hx=>.inr (Gy C D hnew (Nat.le_trans e₁.size hC) (Nat.le_trans e₁.size hD) x hx)).shrink e₄ fun x hx=>?_) hv
 rcases List.mem_cons.mp hx with z | z
 ·exact .inl (by simp [z])
 ·rw [List.mem_singleton.mp z];exact .inr (Nat.le_trans e₁.size hC)
theorem AH.assignComp {x:Str} {px spos:Pos} {elt target iter:Expr} {rest:List Comprehension} {scope:Scope} {pos:Pos} {xs ys:List AV} {st₁ st₂:ST} (hs:∀ env x,foldedSetIterable iter env x=pure x) (sok:Bm scope) (hx:sc.names.lookup x=some .local) (hi:FQ W k sc iter st xs 1 st₁)
  (hl:FP W k scope (.ListComp elt (⟨target,iter,[],0⟩::rest) scope pos) xs ⟨[],st₁.objs⟩ ys st₂) (hy:ys.length≤sizeLine)
  (hsw:(px.line==pos.line&&!(scope.names.any fun (n,k)=>n==x&&(k==.local || k==.cell)))=true) :
  AH W k sc (.Assign [.Name x px] (.ListComp elt (⟨target,iter,[],0⟩::rest) scope pos) spos) st .next {loc:=BY x (.lst ys) st₁.loc,objs:=st₂.objs}:=by
 intro Z L as s A Q E env hE hR hS q
 have hsw':swapsWith (.ListComp elt (⟨target,iter,[],0⟩::rest) scope pos) (some (.Name x px)) spos.line env=pure true:=by
  unfold swapsWith
  have h1:env.blockKind=.function:=by unfold Env.blockKind;rw [hE.kd];rfl
  have h2:env.kindOf x=some .local:=(hE.kindOf x).trans hx
  rw [Bool.and_eq_true] at hsw
  have h3:(px.line==(Expr.ListComp elt (⟨target,iter,[],0⟩::rest) scope pos).pos.line)=true:=hsw.1
  refine (?_:(pure _:Sem Bool)=_)
  rw [h1,h2,h3,hsw.2];rfl
 rw [exec_Assign_Name_used _ _ _ _ hsw']
 refine wpAny_bind (wpAny_standAt (wpAny_bind ?_))
 refine (?_:wpAny _ A (do let _ ← comprehension (.ListComp elt (⟨target,iter,[],0⟩::rest) scope pos) scope env _ (newList []) false (eval iter env) (some (PySem.assign (.Name x px) env))) _ _ s)
 refine wpAny_bind (wpAny_mono (Ip (use:=some (PySem.assign (.Name x px) env)) (Q:=fun ζ s'=>Q .next s') sok rfl (hs env) (hi _ _ _ _ _ _ _ _ hE hR hS fun Z₁ as₁ it sup s₁ S₁ e₁ f₁ o₁ hnew hs1=>?_)) (fun ζ s' hq=>wpAny_pure (wpAny_pure hq)) fun ζ ζ e=>e)
 refine Fr (RR:=fun acc C=>compPost W.M A E (some (PySem.assign (.Name x px) env)) (fun ζ s'=>Q .next s') acc C) hE sok.kind sok.code sok.cell S₁ f₁ o₁ hs1 hR hl fun Z₂ as₂ C D s₂ S₂ e₂ hC hD acc=>?_
 refine Ep (FO S₁ S₂ acc e₂ (Fi S₁ o₁ hC hD) hy hD hC) fun Z₃ S₃ e₃ hv oC oL=>?_
 refine AG (S₂.fr.ns) fun m hn ζ=>?_
 refine (?_:wpAny _ A (PySem.assign (.Name x px) env (.ref D)) _ _ _)
 refine wpAny_assign_Name (BQ hE S₃ hx hv fun s₄ S₄ e₄=>?_)
 have hLC:C≠L:=oC.fr C (by simp)
 obtain ⟨o₄,k₄⟩:=oC.evo (own:=[L]) (fun a ha=>by rw [List.mem_singleton.mp ha];simpa using hLC) e₄
 refine ⟨m,?_,fun h' hsb=>?_⟩
 ·refine F6 hn fun o es ep ho r=>?_
  exact ⟨o,es,ep,k₄ C (by simp) o ho,r⟩
 obtain ⟨S₅,e₅⟩:=S₄.cell (tk:=s₄.toks) o₄ hsb
 refine q _ _ _ _ S₅ (((e₁.shrink e₃ fun x hx=>.inr (Gy C D hnew (Nat.le_trans e₁.size hC) (Nat.le_trans e₁.size hD) x hx)).trans e₄).shrink e₅ fun x hx=>?_) .next
 rcases List.mem_cons.mp hx with z | z
 ·exact .inl (by simp [z])
 ·rw [List.mem_singleton.mp z];exact .inr (Nat.le_trans e₁.size hC)
end
end Mine
end
section
set_option maxRecDepth 10000
namespace Mine
open PySem PySem.Sre
variable [T₀:AY]
namespace Rx
noncomputable abbrev sn (m:M) (q:Seen):M:={m with seen:=q}
noncomputable def Go (n:Nat) (m m':M):Prop:=∀ q,∃ q' j,j≤n∧∀ r,M.runFor (j+r) (sn m q)=M.runFor r (sn m' q')
theorem Go.refl {m:M}:Go 0 m m:=fun q=>⟨q,0,Nat.le_refl _,fun r=>by rw [Nat.zero_add]⟩
theorem Go.trans {a b:Nat} {m m' m'':M} (h:Go a m m') (h':Go b m' m''):Go (a+b) m m'':=fun q=>by
 refine Bl (h q) fun q1 j1 l1 e1=>?_
 refine Bl (h' q1) fun q2 j2 l2 e2=>?_
 exact ⟨q2,j1+j2,Nat.add_le_add l1 l2,fun r=>by rw [Nat.add_assoc,e1,e2]⟩
theorem Go.le {a b:Nat} {m m':M} (h:Go a m m') (l:a≤b):Go b m m':=fun q=>(h q).imp fun ζ e=>e.imp fun ζ e=>⟨Nat.le_trans e.1 l,e.2⟩
theorem Go.step {m m':M} (h0:m.outcome=none) (h:∀ q,∃ q',(sn m q).step=sn m' q'):Go 1 m m':=fun q=>by
 obtain ⟨q',e⟩:=h q
 refine ⟨q',1,Nat.le_refl _,fun r=>?_⟩
 rw [Nat.add_comm 1 r]
 refine (?_:(if (sn m q).outcome.isSome then sn m q else M.runFor r (sn m q).step)=_)
 have:(sn m q).outcome=none:=h0
 rw [this,e];rfl
theorem runFor_done {m:M} (h:m.outcome.isSome=true):∀ r,M.runFor r m=m
 | 0=>rfl
 | r+1=>by unfold M.runFor;rw [h];rfl
structure FR (m:M):Prop where
 out:m.outcome=none
 ans:m.answer=none
 pc:m.pc<m.code.size
theorem Dw {m:M} (h:FR m) (q:Seen):(sn m q).step=(sn m q).exec:=by
 unfold M.step
 have h1:(sn m q).outcome=none:=h.out
 have h2:(sn m q).answer=none:=h.ans
 have h3:(sn m q).pc<(sn m q).code.size:=h.pc
 rw [h1,h2]
 simp only [Option.isSome_none,Bool.false_eq_true,if_false]
 rw [if_pos h3]
noncomputable def Ex (m:M) (w:Nat):{x:M // m.word 0=w→m.exec=x}:=⟨_,fun h=>by unfold M.exec;rw [h]⟩
theorem Go.exec {m m':M} {w:Nat} (h:FR m) (hw:m.word 0=w) (k:∀ q,∃ q',(Ex (sn m q) w).1=sn m' q'):Go 1 m m':=Go.step h.out fun q=>(k q).elim fun q' e=>⟨q',((Dw h q).trans ((Ex (sn m q) w).2 hw)).trans e⟩
theorem Dc {m:M} (h:FR m) (hw:m.word 0=6) (hw1:m.word 1=0):Go 1 m (if m.pos=0 then {m with pc:=m.pc+2} else m.say false):=Go.exec h hw fun q=>⟨(q.add 6).add 43,by
 refine (?_:(match M.isAt {sn m q with seen:=q.add 6} (m.word 1) with | .error why=>M.stick {sn m q with seen:=q.add 6} why | .ok yes=>if yes then {sn m q with seen:=(q.add 6).add (43+m.word 1),pc:=m.pc+2} else M.say {sn m q with seen:=(q.add 6).add (43+m.word 1)} false)=_)
 rw [hw1]
 by_cases hp:m.pos=0
 ·rw [if_pos hp,show M.isAt {sn m q with seen:=q.add 6} 0=.ok true from congrArg Except.ok (beq_iff_eq.mpr hp)];rfl
 ·rw [if_neg hp,show M.isAt {sn m q with seen:=q.add 6} 0=.ok false from congrArg Except.ok (beq_false_of_ne hp)];rfl⟩
theorem Ik {m:M} (h:FR m) (hw:m.word 0=17):Go 1 m (m.mark (m.word 1)):=Go.exec h hw fun q=>⟨q.add 17,rfl⟩
theorem bl {o w p a y:Bool} (h:a=false):(o&&((w&&p) || (a&&y)))=(o&&w&&p):=by
 subst h;induction o using Bool.casesOn <;> induction w using Bool.casesOn <;> induction p using Bool.casesOn <;> rfl
theorem Ax {m:M} (h:FR m) (hw:m.word 0=1) (hm:m.mustAdvance=false):Go 1 m (if (m.outermost&&m.wholeText&&m.pos != m.lim)=true then m.say false else {m with handed:=m.pos}.say true):=Go.exec h hw fun q=>⟨q.add 1,by
 have e:(m.outermost&&((m.wholeText&&m.pos != m.lim) || (m.mustAdvance&&m.pos==m.start)))=(m.outermost&&m.wholeText&&m.pos != m.lim):=bl hm
 by_cases hb:(m.outermost&&m.wholeText&&m.pos != m.lim)=true
 ·rw [if_pos hb];exact if_pos (e.trans hb)
 ·rw [if_neg hb];exact if_neg fun z=>hb (e.symm.trans z)⟩
noncomputable def Acc (code:Array Nat) (i c:Nat) (b:Bool):Prop:=∀ q,∃ q',accepts code i c q=.ok (b,q')
theorem BK {m:M} {w c:Nat} {b:Bool} (h:FR m) (hw:m.word 0=w) (hk:w=2∨w=13∨w=16) (hl:m.pos<m.lim) (hc:m.text.getD m.pos 0=c) (ha:Acc m.code m.pc c b) :
  Go 1 m (if b then {m with pc:=m.pc+itemWidth m.code m.pc,pos:=m.pos+1} else m.say false):=by
 subst hc
 refine Go.exec h hw fun q=>(ha (q.add w)).imp fun q' e=>?_
 have key:(match accepts m.code m.pc (m.text.getD m.pos 0) (q.add w) with
  | .error why=>M.stick {sn m q with seen:=q.add w} why
  | .ok (false,seen)=>M.say {sn m q with seen:=seen} false
  | .ok (true,seen)=>{sn m q with seen,pc:=m.pc+itemWidth m.code m.pc,pos:=m.pos+1})=sn (if b then {m with pc:=m.pc+itemWidth m.code m.pc,pos:=m.pos+1} else m.say false) q':=by
  rw [e];induction b using Bool.casesOn <;> rfl
 rcases hk with rfl | rfl | rfl <;> exact (if_neg (Nat.not_le.mpr hl)).trans key
theorem go_end {m:M} {w:Nat} (h:FR m) (hw:m.word 0=w) (hk:w=2∨w=13∨w=16) (hl:m.lim≤m.pos):Go 1 m (m.say false):=Go.exec h hw fun q=>⟨q.add w,by
 rcases hk with rfl | rfl | rfl <;> exact if_pos hl⟩
noncomputable def Suf (t:Array Nat) (p:Nat) (cs:List Nat):Prop:=t.toList.drop p=cs
theorem Suf.cons {t:Array Nat} {p c:Nat} {cs:List Nat} (h:Suf t p (c::cs)):t.getD p 0=c∧p<t.size∧Suf t (p+1) cs:=by
 obtain ⟨a,b⟩:=Bp h
 have hp:=(List.getElem?_eq_some_iff.mp a).1
 refine ⟨?_,by simpa using hp,b⟩
 rw [Array.getD_eq_getD_getElem?]
 have:t[p]?=some c:=by simpa using a
 rw [this];rfl
theorem Suf.nil {t:Array Nat} {p:Nat} (h:Suf t p []):t.size≤p:=by
 have:=List.drop_eq_nil_iff.mp h
 simpa using this
theorem Suf.app {t:Array Nat}:∀ {xs:List Nat} {p:Nat} {ys:List Nat},Suf t p (xs++ys)→Suf t (p+xs.length) ys
 | [],p,ys,h=>h
 | x::xs,p,ys,h=>by
  have:=Suf.app (xs:=xs) h.cons.2.2
  rw [List.length_cons,show p+(xs.length+1)=p+1+xs.length by simp +arith only]
  exact this
theorem Suf.len {t:Array Nat} {p:Nat} {cs:List Nat} (h:Suf t p cs) (hp:p≤t.size):t.size=p+cs.length:=by
 have:=congrArg List.length h
 simp at this
 exact this▸(Nat.add_sub_of_le hp).symm
theorem Jy {code text:Array Nat} {i:Nat} {ys:List Nat} (hy:ys=[]∨∃ y r,ys=y::r∧Acc code i y false):∀ {xs:List Nat} {p f:Nat},Suf text p (xs++ys)→(∀ x∈xs,Acc code i x true)→∀ q,∃ q',Sre.run code text i (xs.length+ys.length) p f q=.ok (f+xs.length,q')
 | [],p,f,hs,_,q=>by
  rcases hy with rfl | ⟨y,r,rfl,ha⟩
  ·exact ⟨q,rfl⟩
  ·obtain ⟨q',e⟩:=ha q
   refine ⟨q',?_⟩
   refine (?_:Sre.run code text i (0+(r.length+1)) p f q=_)
   rw [Nat.zero_add]
   unfold Sre.run
   rw [(Suf.cons hs).1,e]
   rfl
 | x::xs,p,f,hs,hx,q=>by
  obtain ⟨q1,e1⟩:=hx x (by simp) q
  obtain ⟨q2,e2⟩:=Jy hy (f:=f+1) (Suf.cons hs).2.2 (fun z hz=>hx z (by simp [hz])) q1
  refine ⟨q2,?_⟩
  rw [List.length_cons,show xs.length+1+ys.length=xs.length+ys.length+1 by simp +arith only]
  unfold Sre.run
  rw [(Suf.cons hs).1,e1]
  refine (?_:Sre.run code text i (xs.length+ys.length) (p+1) (f+1) q1=_)
  rw [e2,show f+1+xs.length=f+(xs.length+1) by simp +arith only]
theorem GU {m:M} {xs ys:List Nat} (h:FR m) (hw:m.word 0=24) (hm:m.word 3=4294967295) (hs:Suf m.text m.pos (xs++ys)) (hlim:m.lim=m.pos+(xs.length+ys.length)) (hsm:xs.length+ys.length≤100000)
  (hx:∀ x∈xs,Acc m.code (m.pc+4) x true) (hy:ys=[]∨∃ y r,ys=y::r∧Acc m.code (m.pc+4) y false) :
  Go 1 m (if xs.length<m.word 2 then m.say false else {m with pos:=m.pos+xs.length}.afterRun .giveBack xs.length (m.keep m.inner.isSome)):=by
 refine Go.exec h hw fun q=>?_
 by_cases hl:m.word 2>xs.length+ys.length
 ·refine ⟨q.add 24,?_⟩
  rw [if_pos (Nat.lt_of_le_of_lt (Nat.le_add_right ..) hl)]
  exact if_pos (show ((m.word 2:Nat):Int)>(m.lim:Int) - m.pos from isb hlim▸Int.ofNat_lt.mpr hl)
 ·obtain ⟨q',e⟩:=Jy hy (f:=0) hs hx ((q.add 24).add (m.word 4))
  refine ⟨q',?_⟩
  refine (if_neg (show ¬ ((m.word 2:Nat):Int)>(m.lim:Int) - m.pos from isb hlim▸fun e=>hl (Int.ofNat_lt.mp e))).trans ?_
  show (match Sre.run m.code m.text (m.pc+4) (min (m.word 3) ((m.lim:Int) - m.pos).toNat) m.pos 0 ((q.add 24).add (m.word 4)) with
   | .error why=>M.stick {sn m q with seen:=q.add 24} why
   | .ok (n,seen)=>if n<m.word 2 then M.say {sn m q with seen:=seen} false else M.afterRun {sn m q with seen:=seen,pos:=m.pos+n} .giveBack n (m.keep m.inner.isSome))=_
  rw [hm,show min 4294967295 ((m.lim:Int) - m.pos).toNat=xs.length+ys.length from isb hlim▸Nat.min_eq_right (lb hsm rfl),e,Nat.zero_add]
  by_cases h2:xs.length<m.word 2
  ·rw [if_pos h2];exact if_pos h2
  ·rw [if_neg h2]
   refine (if_neg h2).trans ?_
   unfold M.afterRun M.attempt
   dsimp only
   split <;> rfl
noncomputable def Rs (m:M) (f:Sre.Frame) (yes:Bool) (w:Wait):{x:M // f.wait=w→M.resume m f yes=x}:=⟨_,fun h=>by unfold M.resume;rw [h]⟩
theorem BC {m:M} {f:Sre.Frame} {rest:List Sre.Frame} {yes:Bool} (h0:m.outcome=none) (ha:m.answer=some yes) (hf:m.frames=f::rest) {m':M}
  (h:∀ q,∃ q',M.resume {sn m q with outcome:=none,answer:=none,frames:=rest,weight:=m.weight - (1+f.kept.marks.size),pc:=f.pc,pos:=f.pos,outermost:=f.outermost} f yes=sn m' q'):Go 1 m m':=by
 refine Go.step h0 fun q=>?_
 obtain ⟨q',e⟩:=h q
 refine ⟨q',?_⟩
 unfold M.step
 have h1:(sn m q).outcome=none:=h0
 have h2:(sn m q).answer=some yes:=ha
 have h3:(sn m q).frames=f::rest:=hf
 rw [h1,h2,h3]
 exact e
theorem CB {m:M} {yes:Bool} (h0:m.outcome=none) (ha:m.answer=some yes) (hf:m.frames=[]):Go 1 m {m with outcome:=some (if yes then .matched else .failed)}:=by
 refine Go.step h0 fun q=>⟨q,?_⟩
 unfold M.step
 have h1:(sn m q).outcome=none:=h0
 have h2:(sn m q).answer=some yes:=ha
 have h3:(sn m q).frames=[]:=hf
 rw [h1,h2,h3]
 rfl
structure Jh (m m':M):Prop where
 start:m'.start=m.start
 handed:m'.handed=m.handed
 marks:m'.marks=m.marks
 lastmark:m'.lastmark=m.lastmark
 lastindex:m'.lastindex=m.lastindex
theorem Jh.trans {a b c:M} (x:Jh a b) (y:Jh b c):Jh a c:=⟨y.1.trans x.1,y.2.trans x.2,y.3.trans x.3,y.4.trans x.4,y.5.trans x.5⟩
theorem Kw:∀ {fs:List Sre.Frame} {m:M},m.frames=fs→m.outcome=none→m.answer=some true →
  (∀ f∈fs,f.wait=.nextStart∨f.wait=.giveBack∨f.wait=.closeLoop∨f.wait=.maxMore∨f.wait=.maxTail)→∃ m',Go (fs.length+1) m m'∧m'.outcome=some .matched∧Jh m m'
 | [],m,hf,h0,ha,_=>⟨_,(CB h0 ha hf).le (by simp),rfl,⟨rfl,rfl,rfl,rfl,rfl⟩⟩
 | f::fs,m,hf,h0,ha,hw=>by
  have key:∃ m₁,Go 1 m m₁∧m₁.frames=fs∧m₁.outcome=none∧m₁.answer=some true∧Jh m m₁:=by
   obtain ⟨wt,fpc,fpos,fo,fc,fk,fl,fb⟩:=f
   rcases hw _ List.mem_cons_self with e | e | e | e | e <;> (replace e:wt=_:=e;subst e)
   ·exact ⟨M.say {m with outcome:=none,answer:=none,frames:=fs,weight:=m.weight - (1+fk.marks.size),pc:=fpc,pos:=fpos,outermost:=fo} true,BC h0 ha hf fun q=>⟨q,rfl⟩,rfl,rfl,rfl,⟨rfl,rfl,rfl,rfl,rfl⟩⟩
   ·exact ⟨M.say {m with outcome:=none,answer:=none,frames:=fs,weight:=m.weight - (1+fk.marks.size),pc:=fpc,pos:=fpos,outermost:=fo} true,BC h0 ha hf fun q=>⟨q,rfl⟩,rfl,rfl,rfl,⟨rfl,rfl,rfl,rfl,rfl⟩⟩
   ·exact ⟨M.say {{m with outcome:=none,answer:=none,frames:=fs,weight:=m.weight - (1+fk.marks.size),pc:=fpc,pos:=fpos,outermost:=fo} with inner:=(M.loopAt {m with outcome:=none,answer:=none,frames:=fs,weight:=m.weight - (1+fk.marks.size),pc:=fpc,pos:=fpos,outermost:=fo} fl).outer,loops:=m.loops.pop} true,BC h0 ha hf fun q=>⟨q,rfl⟩,rfl,rfl,rfl,⟨rfl,rfl,rfl,rfl,rfl⟩⟩
   ·exact ⟨M.say (M.setLoop {m with outcome:=none,answer:=none,frames:=fs,weight:=m.weight - (1+fk.marks.size),pc:=fpc,pos:=fpos,outermost:=fo} fl fun l=>{l with began:=fb}) true,BC h0 ha hf fun q=>⟨q,rfl⟩,rfl,rfl,rfl,⟨rfl,rfl,rfl,rfl,rfl⟩⟩
   ·exact ⟨M.say {{m with outcome:=none,answer:=none,frames:=fs,weight:=m.weight - (1+fk.marks.size),pc:=fpc,pos:=fpos,outermost:=fo} with inner:=some fl} true,BC h0 ha hf fun q=>⟨q,rfl⟩,rfl,rfl,rfl,⟨rfl,rfl,rfl,rfl,rfl⟩⟩
  refine Ep key fun m₁ g₁ f₁ o₁ a₁ s₁=>?_
  refine EE (Kw f₁ o₁ a₁ fun f hf=>hw f (by simp [hf])) fun m₂ g₂ o₂ s₂=>?_
  exact ⟨m₂,(g₁.trans g₂).le (by simp;simp +arith only),o₂,s₁.trans s₂⟩
noncomputable def fS (b p:Nat) (o:Bool):Sre.Frame:={wait:=.nextStart,pc:=b,pos:=p,outermost:=o}
theorem wt0 {a:Nat} (h:a≤1):a - (1+0)=0:=Nat.sub_eq_zero_of_le h
theorem Ij {b:Nat}:∀ (n:Nat) {m:M} {p:Nat} {o:Bool},m.lastStart - p=n→m.frames=[fS b p o]→m.outcome=none→m.answer=some false→m.hasFirstSet=false→m.code.getD b 0=6→m.code.getD (b+1) 0=0→b<m.code.size→m.weight≤1 →
  ∃ m',Go (2*n+2) m m'∧m'.outcome=some .failed
 | 0,m,p,o,hn,hf,h0,ha,_,_,_,_,_ =>
  have g1:Go 1 m {m with outcome:=none,answer:=some false,frames:=[],weight:=m.weight - (1+0),pc:=b,pos:=p,outermost:=o}:=BC h0 ha hf fun q=>⟨q,if_neg (c:=p<m.lastStart) (Nat.not_lt.mpr (Nat.le_of_sub_eq_zero hn))⟩
  ⟨_,g1.trans (CB (yes:=false) rfl rfl rfl),rfl⟩
 | n+1,m,p,o,hn,hf,h0,ha,hfs,c0,c1,cb,wt =>
  let m₁:M:={m with outcome:=none,answer:=none,frames:=[fS b (p+1) false],weight:=0+1,mustAdvance:=false,pc:=b,pos:=p+1,start:=p+1,lastmark := -1,lastindex := -1,handed:=p+1,outermost:=false}
  have g1:Go 1 m m₁:=BC h0 ha hf fun q=>⟨q,by
   let Z:M:={sn m q with outcome:=none,answer:=none,frames:=[],weight:=m.weight - (1+0),pc:=b,pos:=p,outermost:=o,mustAdvance:=false}
   refine (?_:(if p<m.lastStart then M.attemptFrom Z (p+1) false else _)=_)
   refine (if_pos (Nat.lt_of_sub_eq_succ hn)).trans ?_
   refine (?_:(if (!m.hasFirstSet)=true then M.attemptAt Z (p+1) false else _)=_)
   refine (if_pos (congrArg (! ·) hfs)).trans ?_
   refine (if_neg (c:=m.weight - (1+0)+1+0>16777216) (by rw [wt0 wt];decide)).trans ?_
   exact congrArg (fun w=>sn {m₁ with weight:=w+1+0} q) (wt0 wt)⟩
  have g2:Go 1 m₁ (m₁.say false):=by
   have:=Dc (m:=m₁) ⟨rfl,rfl,cb⟩ c0 c1
   rwa [if_neg (Nat.succ_ne_zero p)] at this
  (Ij n (b:=b) (m:=m₁.say false) (p:=p+1) (o:=false) ((Nat.sub_succ ..).trans (congrArg Nat.pred hn)) rfl rfl rfl hfs c0 c1 cb (Nat.le_refl 1)).imp fun m₃ e=>⟨((g1.trans g2).trans e.1).le (Nat.le_of_eq (by simp +arith)),e.2⟩
end Rx
namespace Rx
noncomputable def c49:Array Nat:=#[14,4,0,0,4294967295,6,0,24,13,0,4294967295,13,8,16,61,8,12,16,59,0,1,1]
noncomputable def c61:Array Nat:=#[14,4,0,1,4294967295,6,0,24,9,0,4294967295,13,4,8,12,0,1,17,0,24,19,1,4294967295,13,14,21,9,0,671092736,0,0,0,0,0,0,8,12,0,1,17,1,1]
noncomputable def c66:Array Nat:=#[14,4,0,3,4294967295,6,0,24,9,0,4294967295,13,4,8,12,0,1,16,61,24,9,0,4294967295,13,4,8,12,0,1,16,34,17,0,24,12,0,4294967295,13,7,21,16,34,16,92,0,1,23,19,0,4294967295,16,92,2,24,12,0,4294967295,13,7,21,16,34,16,92,0,1,18,17,1,16,34,1]
noncomputable def c71:Array Nat:=#[14,4,0,1,4294967295,6,0,24,9,0,4294967295,13,4,8,12,0,1,16,61,24,9,0,4294967295,13,4,8,12,0,1,17,0,24,14,0,4294967295,13,9,21,8,12,16,59,16,44,0,1,17,1,1]
noncomputable def c76:Array Nat:=#[14,8,1,2,2,1,1,92,0,16,92,17,0,2,17,1,1]
noncomputable def c88:Array Nat:=#[14,4,0,1,4294967295,24,16,1,4294967295,13,11,9,0,67071226,3355443198,1476395007,0,0,0,0,0,1,1]
noncomputable def c93:Array Nat:=#[14,9,4,1,1,16,34,16,92,0,17,0,13,6,16,34,16,92,0,17,1,1]
noncomputable def c105:Array Nat:=#[14,17,4,1,1,21,9,0,604043296,1,0,0,0,0,0,8,4,0,13,14,21,9,0,604043296,1,0,0,0,0,0,8,4,0,1]
noncomputable def signs:List Nat:=[34,92,39,32,59,44,61,63,45,98,99,100,108,109,110,112,114,115,116,119,120,83,84]
noncomputable def isWs (c:Nat):Bool:=c==32
noncomputable def isTok (c:Nat):Bool:=!(c==61 || c==32 || c==59 || c==44)
noncomputable def isVal (c:Nat):Bool:=!(c==32 || c==59 || c==44)
noncomputable def isBody (c:Nat):Bool:=!(c==34 || c==92)
noncomputable def isEsc (c:Nat):Bool:=c==34 || c==92
noncomputable def isJunk (c:Nat):Bool:=c==61 || c==32 || c==59
noncomputable def isJoin (c:Nat):Bool:=!(c==34 || c==92 || c==32 || c==59 || c==44 || c==61 || c==63)
noncomputable def isUnsafe (c:Nat):Bool:=c==34 || c==92 || c==39 || c==32 || c==59 || c==63
noncomputable def okB (e:Except String (Bool×Seen)):Option Bool:=match e with
 | .ok p=>some p.1
 | .error _=>none
theorem okB_e {e:Except String (Bool×Seen)} {b:Bool} (h:okB e=some b):∃ q,e=.ok (b,q):=by
 cases e with
 | ok p=>cases h;exact ⟨_,rfl⟩
 | error w=>exact nomatch h
noncomputable def Tbl (code:Array Nat) (i:Nat) (f:Nat→Bool):Prop:=∀ q,signs.map (fun c=>okB (accepts code i c q))=signs.map (fun c=>some (f c))
theorem AT {code:Array Nat} {i:Nat} {f:Nat→Bool} (h:Tbl code i f) {c:Nat} (hc:c∈signs) {b:Bool} (hb:f c=b):Acc code i c b:=fun q=>okB_e ((List.map_inj_left.mp (h q) c hc).trans (congrArg some hb))
set_option maxRecDepth 100000
theorem k61a:Tbl c61 11 fun c=>(isWs c):=fun ζ=>by kernel_rfl!
theorem k61b:Tbl c61 23 fun c=>(isTok c):=fun ζ=>by kernel_rfl!
theorem k49:Tbl c49 11 fun c=>(isJunk c):=fun ζ=>by kernel_rfl!
theorem k66a:Tbl c66 11 fun c=>(isWs c):=fun ζ=>by kernel_rfl!
theorem k66b:Tbl c66 17 fun c=>(c==61):=fun ζ=>by kernel_rfl!
theorem k66c:Tbl c66 23 fun c=>(isWs c):=fun ζ=>by kernel_rfl!
theorem k66d:Tbl c66 29 fun c=>(c==34):=fun ζ=>by kernel_rfl!
theorem k66e:Tbl c66 37 fun c=>(isBody c):=fun ζ=>by kernel_rfl!
theorem k66f:Tbl c66 50 fun c=>(c==92):=fun ζ=>by kernel_rfl!
theorem k66g:Tbl c66 52 fun c=>true:=fun ζ=>by kernel_rfl!
theorem k66h:Tbl c66 57 fun c=>(isBody c):=fun ζ=>by kernel_rfl!
theorem k66i:Tbl c66 69 fun c=>(c==34):=fun ζ=>by kernel_rfl!
theorem k71a:Tbl c71 11 fun c=>(isWs c):=fun ζ=>by kernel_rfl!
theorem k71b:Tbl c71 17 fun c=>(c==61):=fun ζ=>by kernel_rfl!
theorem k71c:Tbl c71 23 fun c=>(isWs c):=fun ζ=>by kernel_rfl!
theorem k71d:Tbl c71 35 fun c=>(isVal c):=fun ζ=>by kernel_rfl!
theorem k76a:Tbl c76 9 fun c=>(c==92):=fun ζ=>by kernel_rfl!
theorem k76b:Tbl c76 13 fun c=>true:=fun ζ=>by kernel_rfl!
theorem k88:Tbl c88 9 fun c=>(isJoin c):=fun ζ=>by kernel_rfl!
theorem k93:Tbl c93 12 fun c=>(isEsc c):=fun ζ=>by kernel_rfl!
theorem k105:Tbl c105 18 fun c=>(isUnsafe c):=fun ζ=>by kernel_rfl!
noncomputable def Ends (m:M) (n:Nat):Option (Nat×Nat×Array (Option Nat)×Int×Int)→Prop
 | some (st,hd,mk,lm,li)=>∃ m',Go n m m'∧m'.outcome=some .matched∧m'.start=st∧m'.handed=hd∧m'.marks=mk∧m'.lastmark=lm∧m'.lastindex=li
 | none=>∃ m',Go n m m'∧m'.outcome=some .failed
theorem Ends.go {a b:Nat} {m m':M} {r:Option (Nat×Nat×Array (Option Nat)×Int×Int)} (h:Go a m m') (h':Ends m' b r):Ends m (a+b) r:=by
 induction r using Option.casesOn with
 | some p=>exact h'.imp fun ζ q=>⟨h.trans q.1,q.2⟩
 | none=>exact h'.imp fun ζ q=>⟨h.trans q.1,q.2⟩
theorem Ends.le {a b:Nat} {m:M} {r:Option (Nat×Nat×Array (Option Nat)×Int×Int)} (h:Ends m a r) (l:a≤b):Ends m b r:=by
 induction r using Option.casesOn with
 | some p=>exact h.imp fun ζ q=>⟨q.1.le l,q.2⟩
 | none=>exact h.imp fun ζ q=>⟨q.1.le l,q.2⟩
theorem Ends.yes {m:M} (h0:m.outcome=none) (ha:m.answer=some true) (hf:∀ f∈m.frames,f.wait=.nextStart∨f.wait=.giveBack∨f.wait=.closeLoop∨f.wait=.maxMore∨f.wait=.maxTail):Ends m (m.frames.length+1) (some (m.start,m.handed,m.marks,m.lastmark,m.lastindex)):=by
 refine EE (Kw rfl h0 ha hf) fun m' g o s=>?_
 exact ⟨m',g,o,s.1,s.2,s.3,s.4,s.5⟩
noncomputable abbrev st0 (code text:Array Nat) (groups lim body p last:Nat) (must:Bool):M :=
 {code,text,lim,start:=p,lastStart:=last,mustAdvance:=must,pc:=body,pos:=p,handed:=p,marks:=Array.replicate (2*groups) none,frames:=[{wait:=.nextStart,pc:=body,pos:=p,outermost:=true}],weight:=1}
theorem Jx {code text:Array Nat} {groups pos lim:Nat} {must:Bool} (hl:pos≤lim) (hl':(header code).1≤lim - pos) (hi:(code.getD 2 0 &&& 5 != 0)=false) :
  forSearch code text groups pos lim must=sn (st0 code text groups lim (header code).2 pos (if (header code).1>1 then max pos (lim - ((header code).1 - 1)) else lim) must) (if (header code).2==0 then {} else ({}:Seen).add 14):=by
 unfold forSearch
 dsimp only
 rw [if_neg (by simp;exact ⟨hl,hl'⟩)]
 unfold M.attemptFrom
 have hfs:∀ m:M,m.code=code→m.hasFirstSet=false:=fun m e=>by
  unfold M.hasFirstSet
  rw [e]
  have:(code.getD 2 0==4)=false:=by
   rw [Bool.eq_false_iff]
   intro z
   rw [beq_iff_eq] at z
   rw [z] at hi
   revert hi
   decide
  rw [this,Bool.and_false]
 rw [hfs _ rfl]
 simp only [Bool.not_false,if_true]
 have hin:(!((header code).2 != 0&&code.getD 2 0 &&& 5 != 0))=true:=by rw [hi,Bool.and_false];rfl
 rw [hin,Bool.and_true]
 unfold M.attemptAt M.attempt
 dsimp only
 rw [if_neg (by refine (?_:¬ (0+1+0>16777216));decide)]
 simp only [decide_eq_true_eq]
 rfl
theorem Bz {code text:Array Nat} {groups pos lim body least:Nat} {must:Bool} (hh:header code=(least,body)) (hl:pos≤lim) (hl':least≤lim - pos) (hi:(code.getD 2 0 &&& 5 != 0)=false) :
  ∃ q,forSearch code text groups pos lim must=sn (st0 code text groups lim body pos (if least>1 then max pos (lim - (least - 1)) else lim) must) q :=
 ⟨_,by have:=Jx (code:=code) (text:=text) (groups:=groups) (must:=must) hl (by rw [hh];exact hl') hi;rw [hh] at this;exact this⟩
theorem Ends.seen {m:M} {n:Nat} {r:Option (Nat×Nat×Array (Option Nat)×Int×Int)} {q:Seen} (h:Ends m n r):Ends (sn m q) n r:=by
 have key:∀ m',Go n m m'→Go n (sn m q) m':=fun m' g q'=>g q'
 induction r using Option.casesOn with
 | some p=>exact h.imp fun ζ q=>⟨key _ q.1,q.2⟩
 | none=>exact h.imp fun ζ q=>⟨key _ q.1,q.2⟩
theorem search_short {code text:Array Nat} {groups pos lim:Nat} {must:Bool} (h:lim - pos<(header code).1):Ends (forSearch code text groups pos lim must) 1 none:=by
 have e:forSearch code text groups pos lim must=sn (M.say {code,text,lim,start:=pos,pc:=(header code).2,pos,handed:=pos,marks:=Array.replicate (2*groups) none,mustAdvance:=must} false) (if (header code).2==0 then {} else ({}:Seen).add 14):=by
  unfold forSearch
  dsimp only
  rw [if_pos (by simp;exact .inr h)]
  rfl
 rw [e]
 exact Ends.seen ⟨_,CB (yes:=false) rfl rfl rfl,rfl⟩
theorem CF {m:M} {wt:Wait} {n:Int} {kk:Sre.Kept} (h:m.weight+1+kk.marks.size≤16777216) :
  m.afterRun wt n kk={m with frames:={wait:=wt,pc:=m.pc,pos:=m.pos,outermost:=m.outermost,count:=n,kept:=kk}::m.frames,weight:=m.weight+1+kk.marks.size,pc:=m.pc+1+m.word 1,handed:=m.pos}:=by
 unfold M.afterRun M.attempt
 rw [if_neg (by refine (?_:¬ (m.weight+1+kk.marks.size>16777216));exact (Nat.not_lt_of_le h))]
 rfl
theorem Ay {m:M} {xs ys:List Nat} (h:FR m) (hw:m.word 0=24) (hm:m.word 3=4294967295) (hs:Suf m.text m.pos (xs++ys)) (hlim:m.lim=m.pos+(xs.length+ys.length)) (hsm:xs.length+ys.length≤100000)
  (hx:∀ x∈xs,Acc m.code (m.pc+4) x true) (hy:ys=[]∨∃ y r,ys=y::r∧Acc m.code (m.pc+4) y false) (hle:m.word 2≤xs.length) (hin:m.inner=none) (hwt:m.weight≤1000000) :
  Go 1 m {m with frames:={wait:=.giveBack,pc:=m.pc,pos:=m.pos+xs.length,outermost:=m.outermost,count:=xs.length,kept:={lastmark:=m.lastmark,lastindex:=m.lastindex}}::m.frames,weight:=m.weight+1,pc:=m.pc+1+m.word 1,pos:=m.pos+xs.length,handed:=m.pos+xs.length}:=by
 have g:=GU h hw hm hs hlim hsm hx hy
 rw [if_neg (by exact (Nat.not_lt_of_le hle))] at g
 have e:m.keep m.inner.isSome={lastmark:=m.lastmark,lastindex:=m.lastindex}:=by rw [hin];rfl
 rw [e,CF (by refine (?_:m.weight+1+0≤16777216);exact lin (by assumption) (by simp +arith only))] at g
 exact g
theorem Db {m:M} {f:Sre.Frame} {rest:List Sre.Frame} (h0:m.outcome=none) (ha:m.answer=some false) (hf:m.frames=f::rest) (hw:f.wait=.giveBack) (hc:f.count=0) (hk:f.kept.whole=false) :
  Go 1 m {m with outcome:=none,answer:=some false,frames:=rest,weight:=m.weight - (1+f.kept.marks.size),pc:=f.pc,pos:=f.pos,outermost:=f.outermost,lastmark:=f.kept.lastmark,lastindex:=f.kept.lastindex} :=
 BC h0 ha hf fun q=>⟨q,by
  refine ((Rs _ _ _ _).2 hw).trans ?_
  refine (if_pos (c:=f.count - 1<((m.code.getD (f.pc+2) 0:Nat):Int)) (by rw [hc];exact Int.lt_of_lt_of_le (by decide) (Int.natCast_nonneg _))).trans ?_
  unfold M.putBack
  rw [hk]
  rfl⟩
end Rx
end Mine
end
section
set_option maxRecDepth 100000
namespace Mine
open PySem PySem.Sre
variable [T₀:AY]
namespace Rx
theorem CR {m:M} {a b:Option Nat} (h:FR m) (hw:m.word 0=17) (hw1:m.word 1=0) (hl:m.lastmark = -1) (hm:m.marks=#[a,b]):Go 1 m {m with marks:=#[some m.pos,b],lastmark:=0,pc:=m.pc+2}:=by
 have g:=Ik h hw
 rw [hw1] at g
 have e:m.mark 0={m with marks:=#[some m.pos,b],lastmark:=0,pc:=m.pc+2}:=by
  unfold M.mark
  rw [hl,hm]
  rfl
 rwa [e] at g
theorem Cs {m:M} {a b:Option Nat} (h:FR m) (hw:m.word 0=17) (hw1:m.word 1=1) (hl:m.lastmark=0) (hm:m.marks=#[a,b]):Go 1 m {m with marks:=#[a,some m.pos],lastmark:=1,lastindex:=1,pc:=m.pc+2}:=by
 have g:=Ik h hw
 rw [hw1] at g
 have e:m.mark 1={m with marks:=#[a,some m.pos],lastmark:=1,lastindex:=1,pc:=m.pc+2}:=by
  unfold M.mark
  rw [hl,hm]
  rfl
 rwa [e] at g
theorem tok_yes {text:Array Nat} {ws tok rest:List Nat} {t:Nat} {tk:List Nat} (ht:text.toList=ws++(tok++rest)) (hS:∀ c∈text.toList,c∈signs) (hsz:text.size≤100000) (hws:∀ c∈ws,isWs c=true) (hne:tok=t::tk) (htk:∀ c∈tok,isTok c=true)
  (hr:rest=[]∨∃ c r,rest=c::r∧isTok c=false):Ends (forSearch c61 text 1 0 text.size false) 20 (some (0,ws.length+tok.length,#[some ws.length,some (ws.length+tok.length)],1,1)):=by
 have hlen:text.size=ws.length+(tok.length+rest.length):=by have:=congrArg List.length ht;simpa using this
 have hS':∀ c∈ws++(tok++rest),c∈signs:=fun c hc=>hS c (ht▸hc)
 have hsub:tok.length≥1:=by rw [hne];simp
 obtain ⟨q,e⟩:=Bz (code:=c61) (text:=text) (groups:=1) (pos:=0) (lim:=text.size) (must:=false) (least:=1) (body:=5) rfl (Nat.zero_le _) (show 1≤text.size by exact lns hlen (lin hsub (by simp +arith only))) rfl
 rw [e]
 refine Ends.seen ?_
 let m0:=st0 c61 text 1 text.size 5 0 (if 1>1 then max 0 (text.size - (1 - 1)) else text.size) false
 have g1:Go 1 m0 {m0 with pc:=7}:=Dc (m:=m0) ⟨rfl,rfl,by refine (?_:5<42);decide⟩ rfl rfl
 have g2:=Ay (m:={m0 with pc:=7}) (xs:=ws) (ys:=tok++rest) ⟨rfl,rfl,by refine (?_:7<42);decide⟩ rfl rfl (by refine (?_:Suf text 0 _);exact ht) (by refine (?_:text.size=0+(ws.length+(tok++rest).length));rw [List.length_append];exact hlen.trans (Nat.zero_add _).symm) (by rw [List.length_append];exact Nat.le_trans (Nat.le_of_eq hlen.symm) hsz)
  (fun x hx=>AT k61a (hS' x (by simp [hx])) (hws x hx))
  (.inr ⟨t,tk++rest,by rw [hne];rfl,AT k61a (hS' t (by rw [hne];simp)) (by have:=htk t (by rw [hne];simp);unfold isTok at this;unfold isWs;revert this;cases h:(t==32) <;> simp [h])⟩) (Nat.zero_le _) rfl (by refine (?_:1≤1000000);decide)
 let m2:M:={m0 with pc:=17,pos:=0+ws.length,handed:=0+ws.length,weight:=1+1,frames:={wait:=.giveBack,pc:=7,pos:=0+ws.length,outermost:=true,count:=ws.length,kept:={lastmark := -1,lastindex := -1}}::m0.frames}
 have g2':Go 1 {m0 with pc:=7} m2:=g2
 have g3:Go 1 m2 {m2 with pc:=19,marks:=#[some (0+ws.length),none],lastmark:=0}:=CR (m:=m2) ⟨rfl,rfl,by refine (?_:17<42);decide⟩ rfl rfl rfl rfl
 let m3:M:={m2 with pc:=19,marks:=#[some (0+ws.length),none],lastmark:=0}
 have hs3:Suf text (0+ws.length) (tok++rest):=Suf.app (xs:=ws) (p:=0) ht
 have g4:=Ay (m:=m3) (xs:=tok) (ys:=rest) ⟨rfl,rfl,by refine (?_:19<42);decide⟩ rfl rfl hs3 (by refine (?_:text.size=0+ws.length+(tok.length+rest.length));exact (eqn hlen (by simp +arith only))) (by exact (lns hlen (lin hsz (by simp +arith only))))
  (fun x hx=>AT k61b (hS' x (by simp [hx])) (htk x hx)) (hr.imp id fun ⟨c,r,h1,h2⟩=>⟨c,r,h1,AT k61b (hS' c (by rw [h1];simp)) h2⟩) (by refine (?_:1≤tok.length);assumption) rfl (by refine (?_:2≤1000000);decide)
 let m4:M:={m3 with pc:=39,pos:=0+ws.length+tok.length,handed:=0+ws.length+tok.length,weight:=1+1+1,frames:={wait:=.giveBack,pc:=19,pos:=0+ws.length+tok.length,outermost:=true,count:=tok.length,kept:={lastmark:=0,lastindex := -1}}::m3.frames}
 have g4':Go 1 m3 m4:=g4
 have g5:Go 1 m4 {m4 with pc:=41,marks:=#[some (0+ws.length),some (0+ws.length+tok.length)],lastmark:=1,lastindex:=1}:=Cs (m:=m4) ⟨rfl,rfl,by refine (?_:39<42);decide⟩ rfl rfl rfl rfl
 let m5:M:={m4 with pc:=41,marks:=#[some (0+ws.length),some (0+ws.length+tok.length)],lastmark:=1,lastindex:=1}
 have g6:Go 1 m5 (M.say {m5 with handed:=0+ws.length+tok.length} true):=by
  have:=Ax (m:=m5) ⟨rfl,rfl,by refine (?_:41<42);decide⟩ rfl rfl
  rwa [if_neg (by refine (?_:¬ ((true&&false&&_)=true));simp)] at this
 have g:=((((g1.trans g2').trans g3).trans g4').trans g5).trans g6
 have y:=Ends.yes (m:=M.say {m5 with handed:=0+ws.length+tok.length} true) rfl rfl (by
  intro f hf
  simp [m5,m4,m3,m2,m0,M.say] at hf
  rcases hf with rfl | rfl | rfl <;> simp)
 have:=(Ends.go g y).le (b:=20) (by refine (?_:_+(3+1)≤20);simp +arith only)
 replace this:Ends m0 20 (some (0,0+ws.length+tok.length,#[some (0+ws.length),some (0+ws.length+tok.length)],1,1)):=this
 rw [Nat.zero_add] at this
 exact this
end Rx
namespace Rx
theorem Ends.scan {m:M} {p b n:Nat} {o:Bool} (hf:m.frames=[fS b p o]) (h0:m.outcome=none) (ha:m.answer=some false) (hfs:m.hasFirstSet=false) (c0:m.code.getD b 0=6) (c1:m.code.getD (b+1) 0=0) (cb:b<m.code.size) (wt:m.weight≤1) (hn:m.lastStart≤n):Ends m (2*n+2) none :=
 (Ij (m.lastStart - p) rfl hf h0 ha hfs c0 c1 cb wt).imp fun ζ e=>⟨e.1.le (Nat.add_le_add_right (Nat.mul_le_mul_left 2 (Nat.le_trans (Nat.sub_le ..) hn)) 2),e.2⟩
theorem tok_no {text:Array Nat} {c:Nat} {rest:List Nat} (ht:text.toList=c::rest) (hS:∀ c∈text.toList,c∈signs) (hsz:text.size≤100000) (hc1:isWs c=false) (hc2:isTok c=false):Ends (forSearch c61 text 1 0 text.size false) (2*text.size+20) none:=by
 have hlen:text.size=rest.length+1:=by have:=congrArg List.length ht;simpa using this
 have hcS:c∈signs:=hS c (by rw [ht];simp)
 obtain ⟨q,e⟩:=Bz (code:=c61) (text:=text) (groups:=1) (pos:=0) (lim:=text.size) (must:=false) (least:=1) (body:=5) rfl (Nat.zero_le _) (by exact hlen.symm▸Nat.le_add_left _ _) rfl
 rw [e]
 refine Ends.seen ?_
 let m0:=st0 c61 text 1 text.size 5 0 (if 1>1 then max 0 (text.size - (1 - 1)) else text.size) false
 have g1:Go 1 m0 {m0 with pc:=7}:=Dc (m:=m0) ⟨rfl,rfl,by refine (?_:5<42);decide⟩ rfl rfl
 let m2:M:={m0 with pc:=17,pos:=0,handed:=0,weight:=1+1,frames:={wait:=.giveBack,pc:=7,pos:=0,outermost:=true,count:=0,kept:={lastmark := -1,lastindex := -1}}::m0.frames}
 have g2:Go 1 {m0 with pc:=7} m2:=Ay (m:={m0 with pc:=7}) (xs:=[]) (ys:=c::rest) ⟨rfl,rfl,by refine (?_:7<42);decide⟩ rfl rfl (by refine (?_:Suf text 0 _);exact ht) (by refine (?_:text.size=0+(0+(rest.length+1)));exact (eqn hlen (by simp +arith only))) (by refine (?_:0+(rest.length+1)≤100000);exact (lns hlen (lin hsz (by simp +arith only))))
  (fun x hx=>by simp at hx) (.inr ⟨c,rest,rfl,AT k61a hcS hc1⟩) (Nat.zero_le _) rfl (by refine (?_:1≤1000000);decide)
 let m3:M:={m2 with pc:=19,marks:=#[some 0,none],lastmark:=0}
 have g3:Go 1 m2 m3:=CR (m:=m2) ⟨rfl,rfl,by refine (?_:17<42);decide⟩ rfl rfl rfl rfl
 have g4:Go 1 m3 (m3.say false):=by
  have:=GU (m:=m3) (xs:=[]) (ys:=c::rest) ⟨rfl,rfl,by refine (?_:19<42);decide⟩ rfl rfl (by refine (?_:Suf text 0 _);exact ht) (by refine (?_:text.size=0+(0+(rest.length+1)));exact (eqn hlen (by simp +arith only))) (by refine (?_:0+(rest.length+1)≤100000);exact (lns hlen (lin hsz (by simp +arith only))))
   (fun x hx=>by simp at hx) (.inr ⟨c,rest,rfl,AT k61b hcS hc2⟩)
  rwa [if_pos (by refine (?_:0<1);decide)] at this
 have g5:=Db (m:=m3.say false) (f:={wait:=.giveBack,pc:=7,pos:=0,outermost:=true,count:=0,kept:={lastmark := -1,lastindex := -1}}) (rest:=m0.frames) rfl rfl rfl rfl rfl rfl
 have g:=(((g1.trans g2).trans g3).trans g4).trans g5
 refine (Ends.go g (Ends.scan (b:=5) (n:=text.size) rfl rfl rfl rfl rfl rfl (by refine (?_:5<42);decide) (by refine (?_:1+1 - (1+0)≤1);decide) (by refine (?_:text.size≤text.size);exact Nat.le_refl _))).le (by simp +arith only)
theorem val_yes {text:Array Nat} {val rest:List Nat} {v:Nat} {vs:List Nat} (ht:text.toList=61::(val++rest)) (hS:∀ c∈text.toList,c∈signs) (hsz:text.size≤100000) (hne:val=v::vs) (hv:∀ c∈val,isVal c=true)
  (hr:rest=[]∨∃ c r,rest=c::r∧isVal c=false):Ends (forSearch c71 text 1 0 text.size false) 20 (some (0,1+val.length,#[some 1,some (1+val.length)],1,1)):=by
 have hlen:text.size=(val.length+rest.length)+1:=by have:=congrArg List.length ht;simpa using this
 have hS':∀ c∈61::(val++rest),c∈signs:=fun c hc=>hS c (ht▸hc)
 obtain ⟨q,e⟩:=Bz (code:=c71) (text:=text) (groups:=1) (pos:=0) (lim:=text.size) (must:=false) (least:=1) (body:=5) rfl (Nat.zero_le _) (by exact hlen.symm▸Nat.le_add_left _ _) rfl
 rw [e]
 refine Ends.seen ?_
 let m0:=st0 c71 text 1 text.size 5 0 (if 1>1 then max 0 (text.size - (1 - 1)) else text.size) false
 have g1:Go 1 m0 {m0 with pc:=7}:=Dc (m:=m0) ⟨rfl,rfl,by refine (?_:5<49);decide⟩ rfl rfl
 let m2:M:={m0 with pc:=17,pos:=0,handed:=0,weight:=1+1,frames:={wait:=.giveBack,pc:=7,pos:=0,outermost:=true,count:=0,kept:={lastmark := -1,lastindex := -1}}::m0.frames}
 have g2:Go 1 {m0 with pc:=7} m2:=Ay (m:={m0 with pc:=7}) (xs:=[]) (ys:=61::(val++rest)) ⟨rfl,rfl,by refine (?_:7<49);decide⟩ rfl rfl (by refine (?_:Suf text 0 _);exact ht) (by refine (?_:text.size=0+(0+((val++rest).length+1)));rw [List.length_append];exact (eqn hlen (by simp +arith only))) (by refine (?_:0+((val++rest).length+1)≤100000);rw [List.length_append];exact (lns hlen (lin hsz (by simp +arith only))))
  (fun x hx=>by simp at hx) (.inr ⟨61,val++rest,rfl,AT k71a (by decide) (by decide)⟩) (Nat.zero_le _) rfl (by refine (?_:1≤1000000);decide)
 have hs1:=Suf.cons (t:=text) (p:=0) ht
 let m3:M:={m2 with pc:=19,pos:=1}
 have g3:Go 1 m2 m3:=BK (m:=m2) (w:=16) (c:=61) (b:=true) ⟨rfl,rfl,by refine (?_:17<49);decide⟩ rfl (by simp) (by refine (?_:0<text.size);exact lin (Nat.le_of_eq (Eq.symm (by assumption))) (by simp +arith only)) hs1.1 (AT k71b (by decide) rfl)
 have hvv:isVal v=true:=hv v (by rw [hne];simp)
 let m4:M:={m3 with pc:=29,pos:=1,handed:=1,weight:=1+1+1,frames:={wait:=.giveBack,pc:=19,pos:=1,outermost:=true,count:=0,kept:={lastmark := -1,lastindex := -1}}::m2.frames}
 have g4:Go 1 m3 m4:=Ay (m:=m3) (xs:=[]) (ys:=val++rest) ⟨rfl,rfl,by refine (?_:19<49);decide⟩ rfl rfl (by refine (?_:Suf text 1 _);exact hs1.2.2) (by refine (?_:text.size=1+(0+(val++rest).length));rw [List.length_append];exact (eqn hlen (by simp +arith only))) (by refine (?_:0+(val++rest).length≤100000);rw [List.length_append];exact (lns hlen (lin hsz (by simp +arith only))))
  (fun x hx=>by simp at hx) (.inr ⟨v,vs++rest,by rw [hne];rfl,AT k71c (hS' v (by rw [hne];simp)) (by unfold isVal at hvv;unfold isWs;revert hvv;cases h:(v==32) <;> simp [h])⟩) (Nat.zero_le _) rfl (by refine (?_:2≤1000000);decide)
 let m5:M:={m4 with pc:=31,marks:=#[some 1,none],lastmark:=0}
 have g5:Go 1 m4 m5:=CR (m:=m4) ⟨rfl,rfl,by refine (?_:29<49);decide⟩ rfl rfl rfl rfl
 let m6:M:={m5 with pc:=46,pos:=1+val.length,handed:=1+val.length,weight:=1+1+1+1,frames:={wait:=.giveBack,pc:=31,pos:=1+val.length,outermost:=true,count:=val.length,kept:={lastmark:=0,lastindex := -1}}::m4.frames}
 have g6:Go 1 m5 m6:=Ay (m:=m5) (xs:=val) (ys:=rest) ⟨rfl,rfl,by refine (?_:31<49);decide⟩ rfl rfl (by refine (?_:Suf text 1 _);exact hs1.2.2) (by refine (?_:text.size=1+(val.length+rest.length));exact hlen.trans (Nat.add_comm _ _)) (by exact (lns hlen (lin hsz (by simp +arith only))))
  (fun x hx=>AT k71d (hS' x (by simp [hx])) (hv x hx)) (hr.imp id fun ⟨c,r,h1,h2⟩=>⟨c,r,h1,AT k71d (hS' c (by rw [h1];simp)) h2⟩) (Nat.zero_le _) rfl (by refine (?_:3≤1000000);decide)
 let m7:M:={m6 with pc:=48,marks:=#[some 1,some (1+val.length)],lastmark:=1,lastindex:=1}
 have g7:Go 1 m6 m7:=Cs (m:=m6) ⟨rfl,rfl,by refine (?_:46<49);decide⟩ rfl rfl rfl rfl
 have g8:Go 1 m7 (M.say {m7 with handed:=1+val.length} true):=by
  have:=Ax (m:=m7) ⟨rfl,rfl,by refine (?_:48<49);decide⟩ rfl rfl
  rwa [if_neg (by refine (?_:¬ ((true&&false&&_)=true));simp)] at this
 have g:=(((((((g1.trans g2).trans g3).trans g4).trans g5).trans g6).trans g7)).trans g8
 have y:=Ends.yes (m:=M.say {m7 with handed:=1+val.length} true) rfl rfl (by
  intro f hf
  simp [m7,m6,m5,m4,m3,m2,m0,M.say] at hf
  rcases hf with rfl | rfl | rfl | rfl <;> simp)
 exact (Ends.go g y).le (b:=20) (by refine (?_:_+(4+1)≤20);simp +arith only)
theorem Kx {m:M} {f:Sre.Frame} {rest:List Sre.Frame} (h0:m.outcome=none) (ha:m.answer=some false) (hf:m.frames=f::rest) (hw:f.wait=.giveBack) (hc:f.count=1) (hk:f.kept.whole=false) (hm:m.code.getD (f.pc+2) 0=0) (hkm:f.kept.marks=#[]) (hwt:m.weight≤1000) (hw1:1≤m.weight) :
  Go 1 m {m with outcome:=none,answer:=none,frames:={wait:=.giveBack,pc:=f.pc,pos:=f.pos - 1,outermost:=f.outermost,count:=0,kept:=f.kept}::rest,weight:=m.weight,pc:=f.pc+1+m.code.getD (f.pc+1) 0,pos:=f.pos - 1,handed:=f.pos - 1,outermost:=f.outermost,lastmark:=f.kept.lastmark,lastindex:=f.kept.lastindex} :=
 BC h0 ha hf fun q=>⟨q,by
  refine ((Rs _ _ _ _).2 hw).trans ?_
  refine (if_neg (c:=f.count - 1<((m.code.getD (f.pc+2) 0:Nat):Int)) (by rw [hm,hc];decide)).trans ?_
  unfold M.putBack
  rw [hk]
  rw [CF (by refine (?_:m.weight - (1+f.kept.marks.size)+1+f.kept.marks.size≤16777216);rw [hkm];refine (?_:m.weight - (1+0)+1+0≤_);exact Nat.le_trans (Nat.add_le_add_right (Nat.sub_le _ _) 1) (lb (Nat.add_le_add_right hwt 1) rfl))]
  have e:m.weight - (1+f.kept.marks.size)+1+f.kept.marks.size=m.weight:=by rw [hkm];refine (?_:m.weight - (1+0)+1+0=_);exact Nat.sub_add_cancel hw1
  refine (?_:M.mk ..=M.mk ..)
  rw [e,hc]
  rfl⟩
end Rx
namespace Rx
structure Pre (code:Array Nat) (least:Nat):Prop where
 hd:header code=(least,5)
 fl:code.getD 2 0=0
 c5:code.getD 5 0=6
 c6:code.getD 6 0=0
 c7:code.getD 7 0=24
 c8:code.getD 8 0=9
 c9:code.getD 9 0=0
 c10:code.getD 10 0=4294967295
 c17:code.getD 17 0=16
 w17:itemWidth code 17=2
 sz:30<code.size
 k1:Tbl code 11 fun c=>isWs c
 k2:Tbl code 17 fun c=>c==61
theorem pre66:Pre c66 3:=⟨rfl,rfl,rfl,rfl,rfl,rfl,rfl,rfl,rfl,rfl,by decide,k66a,k66b⟩
theorem pre71:Pre c71 1:=⟨rfl,rfl,rfl,rfl,rfl,rfl,rfl,rfl,rfl,rfl,by decide,k71a,k71b⟩
theorem ws_no {code text:Array Nat} {least c:Nat} {rest:List Nat} (P:Pre code least) (ht:text.toList=32::c::rest) (hS:∀ c∈text.toList,c∈signs) (hsz:text.size≤100000) (hl:least≤text.size) (hc1:isWs c=false) (hc2:(c==61)=false):Ends (forSearch code text 1 0 text.size false) (2*text.size+20) none:=by
 have hlen:text.size=(rest.length+1)+1:=by have:=congrArg List.length ht;simpa using this
 have hcS:c∈signs:=hS c (by rw [ht];simp)
 obtain ⟨q,e⟩:=Bz (code:=code) (text:=text) (groups:=1) (pos:=0) (lim:=text.size) (must:=false) P.hd (Nat.zero_le _) (by assumption) (by rw [P.fl];rfl)
 rw [e]
 refine Ends.seen ?_
 let L:=if least>1 then max 0 (text.size - (least - 1)) else text.size
 have hL:L≤text.size:=by refine (?_:(if least>1 then max 0 (text.size - (least - 1)) else text.size)≤_);split <;> (first | exact Nat.max_le.mpr ⟨Nat.zero_le _,Nat.sub_le _ _⟩ | exact Nat.le_refl _)
 let m0:=st0 code text 1 text.size 5 0 L false
 have z:∀ i,i≤30→i<code.size:=fun i hi=>Nat.lt_of_le_of_lt hi P.sz
 have g1:Go 1 m0 {m0 with pc:=7}:=Dc (m:=m0) ⟨rfl,rfl,z 5 (by decide)⟩ P.c5 P.c6
 have hs1:=Suf.cons (t:=text) (p:=0) ht
 let fr (p n:Nat):Sre.Frame:={wait:=.giveBack,pc:=7,pos:=p,outermost:=true,count:=n,kept:={lastmark := -1,lastindex := -1}}
 let m2:M:={m0 with pc:=17,pos:=1,handed:=1,weight:=1+1,frames:=fr 1 1::m0.frames}
 have g2:Go 1 {m0 with pc:=7} m2:=by
  have:=Ay (m:={m0 with pc:=7}) (xs:=[32]) (ys:=c::rest) ⟨rfl,rfl,z 7 (by decide)⟩ P.c7 P.c10 (by refine (?_:Suf text 0 _);exact ht) (by refine (?_:text.size=0+(1+(rest.length+1)));exact (eqn hlen (by simp +arith only))) (by refine (?_:1+(rest.length+1)≤100000);exact (lns hlen (lin hsz (by simp +arith only))))
   (fun x hx=>by rw [List.mem_singleton.mp hx];exact AT P.k1 (by decide) (by decide)) (.inr ⟨c,rest,rfl,AT P.k1 hcS hc1⟩) (by refine (?_:code.getD 9 0≤1);rw [P.c9];decide) rfl (by refine (?_:1≤1000000);decide)
  have e:7+1+M.word {m0 with pc:=7} 1=17:=by refine (?_:7+1+code.getD 8 0=17);rw [P.c8]
  rw [show (M.word {m0 with pc:=7} 1)=9 from P.c8] at this
  exact this
 have g3:Go 1 m2 (m2.say false):=BK (m:=m2) (w:=16) (c:=c) (b:=false) ⟨rfl,rfl,z 17 (by decide)⟩ P.c17 (by simp) (by refine (?_:1<text.size);exact lin (Nat.le_of_eq (Eq.symm (by assumption))) (by simp +arith only)) (Suf.cons hs1.2.2).1 (AT P.k2 hcS hc2)
 let m4:M:={m2 with outcome:=none,answer:=none,frames:=fr 0 0::m0.frames,weight:=1+1,pc:=17,pos:=0,handed:=0,outermost:=true,lastmark := -1,lastindex := -1}
 have g4:Go 1 (m2.say false) m4:=by
  have:=Kx (m:=m2.say false) (f:=fr 1 1) (rest:=m0.frames) rfl rfl rfl rfl rfl rfl P.c9 rfl (by refine (?_:1+1≤1000);decide) (by refine (?_:1≤1+1);decide)
  rw [show (m2.say false).code.getD ((fr 1 1).pc+1) 0=9 from P.c8] at this
  exact this
 have g5:Go 1 m4 (m4.say false):=BK (m:=m4) (w:=16) (c:=32) (b:=false) ⟨rfl,rfl,z 17 (by decide)⟩ P.c17 (by simp) (by refine (?_:0<text.size);exact lin (Nat.le_of_eq (Eq.symm (by assumption))) (by simp +arith only)) hs1.1 (AT P.k2 (by decide) (by decide))
 have g6:=Db (m:=m4.say false) (f:=fr 0 0) (rest:=m0.frames) rfl rfl rfl rfl rfl rfl
 have g:=((((g1.trans g2).trans g3).trans g4).trans g5).trans g6
 refine (Ends.go g (Ends.scan (b:=5) (n:=text.size) rfl rfl rfl ?_ P.c5 P.c6 (z 5 (by decide)) (by refine (?_:1+1 - (1+0)≤1);decide) hL)).le (by simp +arith only)
 refine (?_:(_&&code.getD 2 0==4)=false)
 rw [P.fl,Bool.and_comm];rfl
theorem eq_no {text:Array Nat} {c:Nat} {rest:List Nat} (ht:text.toList=61::c::rest) (hS:∀ c∈text.toList,c∈signs) (hsz:text.size≤100000) (hl:3≤text.size) (hc1:isWs c=false) (hc2:(c==34)=false):Ends (forSearch c66 text 1 0 text.size false) (2*text.size+20) none:=by
 have hlen:text.size=(rest.length+1)+1:=by have:=congrArg List.length ht;simpa using this
 have hcS:c∈signs:=hS c (by rw [ht];simp)
 obtain ⟨q,e⟩:=Bz (code:=c66) (text:=text) (groups:=1) (pos:=0) (lim:=text.size) (must:=false) (least:=3) (body:=5) rfl (Nat.zero_le _) (by assumption) rfl
 rw [e]
 refine Ends.seen ?_
 let m0:=st0 c66 text 1 text.size 5 0 (if 3>1 then max 0 (text.size - (3 - 1)) else text.size) false
 have g1:Go 1 m0 {m0 with pc:=7}:=Dc (m:=m0) ⟨rfl,rfl,by refine (?_:5<72);decide⟩ rfl rfl
 let fr (pc p:Nat):Sre.Frame:={wait:=.giveBack,pc,pos:=p,outermost:=true,count:=0,kept:={lastmark := -1,lastindex := -1}}
 let m2:M:={m0 with pc:=17,pos:=0,handed:=0,weight:=1+1,frames:=fr 7 0::m0.frames}
 have g2:Go 1 {m0 with pc:=7} m2:=Ay (m:={m0 with pc:=7}) (xs:=[]) (ys:=61::c::rest) ⟨rfl,rfl,by refine (?_:7<72);decide⟩ rfl rfl (by refine (?_:Suf text 0 _);exact ht) (by refine (?_:text.size=0+(0+(rest.length+1+1)));exact (eqn hlen (by simp +arith only))) (by refine (?_:0+(rest.length+1+1)≤100000);exact (lns hlen (lin hsz (by simp +arith only))))
  (fun x hx=>by simp at hx) (.inr ⟨61,c::rest,rfl,AT k66a (by decide) (by decide)⟩) (Nat.zero_le _) rfl (by refine (?_:1≤1000000);decide)
 have hs1:=Suf.cons (t:=text) (p:=0) ht
 let m3:M:={m2 with pc:=19,pos:=1}
 have g3:Go 1 m2 m3:=BK (m:=m2) (w:=16) (c:=61) (b:=true) ⟨rfl,rfl,by refine (?_:17<72);decide⟩ rfl (by simp) (by refine (?_:0<text.size);exact lin (by assumption) (by simp +arith only)) hs1.1 (AT k66b (by decide) rfl)
 let m4:M:={m3 with pc:=29,pos:=1,handed:=1,weight:=1+1+1,frames:=fr 19 1::m2.frames}
 have g4:Go 1 m3 m4:=Ay (m:=m3) (xs:=[]) (ys:=c::rest) ⟨rfl,rfl,by refine (?_:19<72);decide⟩ rfl rfl (by refine (?_:Suf text 1 _);exact hs1.2.2) (by refine (?_:text.size=1+(0+(rest.length+1)));exact (eqn hlen (by simp +arith only))) (by refine (?_:0+(rest.length+1)≤100000);exact (lns hlen (lin hsz (by simp +arith only))))
  (fun x hx=>by simp at hx) (.inr ⟨c,rest,rfl,AT k66c hcS hc1⟩) (Nat.zero_le _) rfl (by refine (?_:2≤1000000);decide)
 have g5:Go 1 m4 (m4.say false):=BK (m:=m4) (w:=16) (c:=c) (b:=false) ⟨rfl,rfl,by refine (?_:29<72);decide⟩ rfl (by simp) (by refine (?_:1<text.size);exact lin (by assumption) (by simp +arith only)) (Suf.cons hs1.2.2).1 (AT k66d hcS hc2)
 have g6:=Db (m:=m4.say false) (f:=fr 19 1) (rest:=m2.frames) rfl rfl rfl rfl rfl rfl
 let m6:M:={m4.say false with outcome:=none,answer:=some false,frames:=m2.frames,weight:=1+1+1 - (1+0),pc:=19,pos:=1,outermost:=true,lastmark := -1,lastindex := -1}
 have g6':Go 1 (m4.say false) m6:=g6
 have g7:=Db (m:=m6) (f:=fr 7 0) (rest:=m0.frames) rfl rfl rfl rfl rfl rfl
 have g:=(((((g1.trans g2).trans g3).trans g4).trans g5).trans g6').trans g7
 refine (Ends.go g (Ends.scan (b:=5) (n:=text.size) rfl rfl rfl rfl rfl rfl (by refine (?_:5<72);decide) (by refine (?_:1+1+1 - (1+0) - (1+0)≤1);decide) (by refine (?_:max 0 (text.size - (3 - 1))≤text.size);exact Nat.sub_le _ _))).le (by simp +arith only)
end Rx
namespace Rx
noncomputable abbrev Kv (f:Sre.Frame):Prop:=f.wait=.nextStart∨f.wait=.giveBack∨f.wait=.closeLoop∨f.wait=.maxMore∨f.wait=.maxTail
noncomputable abbrev U (text:Array Nat) (p:Nat) (cnt:Int) (bg:Option Nat) (fs:List Sre.Frame) (w hd:Nat) (ls:Nat):M :=
 {code:=c66,text,lim:=text.size,start:=0,lastStart:=ls,pc:=66,pos:=p,handed:=hd,marks:=#[some 2,none],lastmark:=0,loops:=#[{pc:=46,count:=cnt,began:=bg,outer:=none}],inner:=some 0,frames:=fs,weight:=w}
noncomputable abbrev mmF (p:Nat) (cnt:Int) (bg:Option Nat):Sre.Frame:={wait:=.maxMore,pc:=67,pos:=p,outermost:=true,count:=cnt+1,kept:={lastmark:=0,lastindex := -1,whole:=true,marks:=#[some 2]},loop:=0,began:=bg}
noncomputable abbrev Uin (text:Array Nat) (p:Nat) (cnt:Int) (bg:Option Nat) (fs:List Sre.Frame) (w hd:Nat) (ls:Nat):M :=
 {U text p cnt bg fs w hd ls with pc:=50,handed:=p,loops:=#[{pc:=46,count:=cnt+1,began:=some p,outer:=none}],frames:=mmF p cnt bg::fs,weight:=w+1+1}
theorem HO {text:Array Nat} {p:Nat} {cnt:Int} {bg:Option Nat} {fs:List Sre.Frame} {w hd ls:Nat} (hc : -1≤cnt) (hb:bg≠some p) (hw:w≤1000000):Go 1 (U text p cnt bg fs w hd ls) (Uin text p cnt bg fs w hd ls):=by
 refine Go.step rfl fun q=>⟨q.add 18,?_⟩
 rw [Dw (m:=U text p cnt bg fs w hd ls) ⟨rfl,rfl,by refine (?_:66<72);decide⟩]
 unfold M.exec
 refine (?_:M.until_ {sn (U text p cnt bg fs w hd ls) (q.add 18) with pc:=67} true=_)
 unfold M.until_
 refine (?_:(if cnt+1<((c66.getD 48 0:Nat):Int) then _ else if (!true)=true then _ else if ((decide (cnt+1<((c66.getD 49 0:Nat):Int)) || c66.getD 49 0==maxRepeat)&&bg != some p)=true then _ else _)=_)
 rw [if_neg (by refine (?_:¬ (cnt+1<((0:Nat):Int)));exact Int.not_lt.mpr (Int.add_le_add_right hc 1)),if_neg (by decide)]
 have h1:(c66.getD 49 0==maxRepeat)=true:=rfl
 have h2:(bg != some p)=true:=by simpa using hb
 rw [h1,h2,Bool.or_true,Bool.true_and,if_pos rfl]
 unfold M.round M.attempt
 dsimp only
 rw [if_neg (by refine (?_:¬ (w+1+1>16777216));exact (Nat.not_lt_of_le (lin hw (by simp +arith only))))]
 rfl
theorem go_tail {text:Array Nat} {p:Nat} {cnt:Int} {bg:Option Nat} {fs:List Sre.Frame} {w hd ls:Nat} (hw:w≤1000000):Go 1 (M.say (Uin text p cnt bg fs w hd ls) false)
  {U text p cnt bg fs w hd ls with pc:=67,handed:=p,inner:=none,loops:=#[{pc:=46,count:=cnt+1 - 1,began:=bg,outer:=none}],frames:={wait:=.maxTail,pc:=67,pos:=p,outermost:=true,count:=cnt+1,kept:={lastmark:=0,lastindex := -1},loop:=0}::fs,weight:=w+1}:=by
 refine BC (f:=mmF p cnt bg) (rest:=fs) rfl rfl rfl fun q=>⟨q,?_⟩
 unfold M.resume
 refine (?_:M.afterLoop (M.setLoop (M.putBack (M.setLoop {sn (Uin text p cnt bg fs w hd ls) q with frames:=fs,weight:=w+1+1 - (1+1),pc:=67,pos:=p,outermost:=true} 0 _) _) 0 _) .maxTail 0 (cnt+1) (fun ζ=>false)=_)
 unfold M.afterLoop M.attempt
 dsimp only
 rw [if_neg (by refine (?_:¬ (w+1+1 - (1+1)+1+0>16777216));exact Nat.not_lt_of_le (lb (Nat.add_le_add_right hw 1) rfl))]
 have e:w+1+1 - (1+1)+1+0=w+1:=by exact rfl
 refine (?_:M.mk _ _ _ _ _ _ _ _ _ _ _ _ _ _ _ _ _ (w+1+1 - (1+1)+1+0) _ _ _=_)
 rw [e]
 rfl
noncomputable def flat:List (Nat×List Nat)→List Nat
 | []=>[]
 | (c,seg)::r=>92::c::(seg++flat r)
theorem Fl {ps:List (Nat×List Nat)} {rest:List Nat}:∃ y r,flat ps++34::rest=y::r∧(y=34∨y=92):=by
 induction ps using List.casesOn with
 | nil=>exact ⟨34,rest,rfl,.inl rfl⟩
 | cons p ps=>exact ⟨92,_,rfl,.inr rfl⟩
theorem HG {text:Array Nat} {rest:List Nat} (hS:∀ c∈text.toList,c∈signs) (hsz:text.size≤10000):∀ (ps:List (Nat×List Nat)) {p:Nat} {cnt:Int} {bg:Option Nat} {fs:List Sre.Frame} {w hd ls:Nat},Suf text p (flat ps++34::rest)→p≤text.size→(∀ x∈ps,∀ c∈x.2,isBody c=true) →
  -1≤cnt→(∀ b,bg=some b→b<p)→w+10*(flat ps).length≤500000→(∀ f∈fs,Kv f) →
  Ends (U text p cnt bg fs w hd ls) (20+fs.length+20*(flat ps).length) (some (0,p+(flat ps).length+1,#[some 2,some (p+(flat ps).length)],1,1))
 | [],p,cnt,bg,fs,w,hd,ls,hs,hp,hb,hc,hbg,hw,hf=>by
  have hw':w≤500000:=by assumption
  have hs1:=Suf.cons (t:=text) hs
  have g1:=HO (text:=text) (p:=p) (cnt:=cnt) (bg:=bg) (fs:=fs) (w:=w) (hd:=hd) (ls:=ls) hc (fun z=>absurd (hbg p z) (Nat.lt_irrefl _)) (by exact lb (by assumption) rfl)
  have g2:Go 1 (Uin text p cnt bg fs w hd ls) (M.say (Uin text p cnt bg fs w hd ls) false):=BK (m:=Uin text p cnt bg fs w hd ls) (w:=16) (c:=34) (b:=false) ⟨rfl,rfl,by refine (?_:50<72);decide⟩ rfl (by simp) hs1.2.1 hs1.1 (AT k66f (by decide) (by decide))
  have g3:=go_tail (text:=text) (p:=p) (cnt:=cnt) (bg:=bg) (fs:=fs) (w:=w) (hd:=hd) (ls:=ls) (by exact lb (by assumption) rfl)
  let m3:M:={U text p cnt bg fs w hd ls with pc:=67,handed:=p,inner:=none,loops:=#[{pc:=46,count:=cnt+1 - 1,began:=bg,outer:=none}],frames:={wait:=.maxTail,pc:=67,pos:=p,outermost:=true,count:=cnt+1,kept:={lastmark:=0,lastindex := -1},loop:=0}::fs,weight:=w+1}
  let m4:M:={m3 with pc:=69,marks:=#[some 2,some p],lastmark:=1,lastindex:=1}
  have g4:Go 1 m3 m4:=Cs (m:=m3) ⟨rfl,rfl,by refine (?_:67<72);decide⟩ rfl rfl rfl rfl
  let m5:M:={m4 with pc:=71,pos:=p+1}
  have g5:Go 1 m4 m5:=BK (m:=m4) (w:=16) (c:=34) (b:=true) ⟨rfl,rfl,by refine (?_:69<72);decide⟩ rfl (by simp) hs1.2.1 hs1.1 (AT k66i (by decide) rfl)
  have g6:Go 1 m5 (M.say {m5 with handed:=p+1} true):=by
   have:=Ax (m:=m5) ⟨rfl,rfl,by refine (?_:71<72);decide⟩ rfl rfl
   rwa [if_neg (by refine (?_:¬ ((true&&false&&_)=true));simp)] at this
  have g:=((((g1.trans g2).trans g3).trans g4).trans g5).trans g6
  have y:=Ends.yes (m:=M.say {m5 with handed:=p+1} true) rfl rfl (by
   intro f hf'
   rcases List.mem_cons.mp (show f∈_::fs from hf') with rfl | hf'
   ·exact .inr (.inr (.inr (.inr rfl)))
   ·exact hf f hf')
  exact (Ends.go g y).le (by refine (?_:_+(fs.length+1+1)≤20+fs.length+20*0);simp +arith only)
 | (c,seg)::ps,p,cnt,bg,fs,w,hd,ls,hs,hp,hb,hc,hbg,hw,hf=>by
  have hfl:(flat ((c,seg)::ps)).length=seg.length+(flat ps).length+2:=by refine (?_:(92::c::(seg++flat ps)).length=_);simp
  rw [hfl] at hw
  have hs1:=Suf.cons (t:=text) hs
  have hs2:=Suf.cons hs1.2.2
  have hcS:c∈signs:=hS c (by
   have:c∈text.toList.drop (p+1):=by rw [show text.toList.drop (p+1)=_ from hs1.2.2];simp
   exact List.mem_of_mem_drop this)
  have hs3:Suf text (p+2) (seg++(flat ps++34::rest)):=by
   have:Suf text (p+2) ((seg++flat ps)++(34::rest)):=hs2.2.2
   rwa [List.append_assoc] at this
  have hmem:∀ x∈seg++(flat ps++34::rest),x∈signs:=fun x hx=>hS x (by
   have:x∈text.toList.drop (p+2):=by rw [show text.toList.drop (p+2)=_ from hs3];exact hx
   exact List.mem_of_mem_drop this)
  have hp2:p+2≤text.size:=hs2.2.1
  have hl3:=Suf.len hs3 hp2
  rw [List.length_append] at hl3
  have g1:=HO (text:=text) (p:=p) (cnt:=cnt) (bg:=bg) (fs:=fs) (w:=w) (hd:=hd) (ls:=ls) hc (fun z=>absurd (hbg p z) (Nat.lt_irrefl _)) (by exact Nat.le_trans (Nat.le_add_right _ _) (lb hw rfl))
  let m1:=Uin text p cnt bg fs w hd ls
  let m2:M:={m1 with pc:=52,pos:=p+1}
  have g2:Go 1 m1 m2:=BK (m:=m1) (w:=16) (c:=92) (b:=true) ⟨rfl,rfl,by refine (?_:50<72);decide⟩ rfl (by simp) hs1.2.1 hs1.1 (AT k66f (by decide) rfl)
  let m3:M:={m1 with pc:=53,pos:=p+1+1}
  have g3:Go 1 m2 m3:=BK (m:=m2) (w:=2) (c:=c) (b:=true) ⟨rfl,rfl,by refine (?_:52<72);decide⟩ rfl (by simp) hs2.2.1 hs2.1 (AT k66g hcS rfl)
  refine Bl (Fl (ps:=ps) (rest:=rest)) fun y r hy hy'=>?_
  have g4:=GU (m:=m3) (xs:=seg) (ys:=flat ps++34::rest) ⟨rfl,rfl,by refine (?_:53<72);decide⟩ rfl rfl hs3 (by refine (?_:text.size=p+1+1+(seg.length+(flat ps++34::rest).length));assumption) (by exact (lns hl3 (lin hsz (by simp +arith only))))
   (fun x hx=>AT k66h (hmem x (by simp [hx])) (hb (c,seg) (by simp) x hx)) (.inr ⟨y,r,hy,AT k66h (hmem y (by rw [hy];simp)) (by rcases hy' with rfl | rfl <;> decide)⟩)
  rw [if_neg (by refine (?_:¬ (seg.length<0));exact Nat.not_lt_zero _),CF (by refine (?_:w+1+1+1+1≤16777216);exact (lin hw (by simp +arith only)))] at g4
  let gf:Sre.Frame:={wait:=.giveBack,pc:=53,pos:=p+1+1+seg.length,outermost:=true,count:=seg.length,kept:={lastmark:=0,lastindex := -1,whole:=true,marks:=#[some 2]}}
  have g4':Go 1 m3 (U text (p+1+1+seg.length) (cnt+1) (some p) (gf::mmF p cnt bg::fs) (w+1+1+1+1) (p+1+1+seg.length) ls):=g4
  have g:=((g1.trans g2).trans g3).trans g4'
  have hs4:Suf text (p+1+1+seg.length) (flat ps++34::rest):=Suf.app hs3
  have ih:=HG hS hsz ps (p:=p+1+1+seg.length) (cnt:=cnt+1) (bg:=some p) (fs:=gf::mmF p cnt bg::fs) (w:=w+1+1+1+1) (hd:=p+1+1+seg.length) (ls:=ls) hs4 (by exact lin (Nat.le_of_eq (Eq.symm (by assumption))) (by simp +arith only)) (fun x hx=>hb x (by simp [hx])) (Int.le_trans hc (Int.le_add_of_nonneg_right (by decide))) (fun b hb=>by cases hb;simp +arith only) (by exact (lin hw (by simp +arith only))) (by
   intro f hf'
   rcases List.mem_cons.mp hf' with rfl | hf'
   ·exact .inr (.inl rfl)
   ·rcases List.mem_cons.mp hf' with rfl | hf'
    ·exact .inr (.inr (.inr (.inl rfl)))
    ·exact hf f hf')
  rw [hfl]
  have e:p+1+1+seg.length+(flat ps).length=p+(seg.length+(flat ps).length+2):=by simp +arith only
  rw [e] at ih
  exact (Ends.go g ih).le (by simp only [List.length_cons];simp +arith only)
theorem quo_yes {text:Array Nat} {seg rest:List Nat} {ps:List (Nat×List Nat)} (ht:text.toList=61::34::(seg++(flat ps++34::rest))) (hS:∀ c∈text.toList,c∈signs) (hsz:text.size≤10000) (hb0:∀ c∈seg,isBody c=true) (hb:∀ x∈ps,∀ c∈x.2,isBody c=true) :
  Ends (forSearch c66 text 1 0 text.size false) (60+20*text.size) (some (0,2+seg.length+(flat ps).length+1,#[some 2,some (2+seg.length+(flat ps).length)],1,1)):=by
 have hlen:text.size=(seg.length+((flat ps).length+(rest.length+1)))+1+1:=by have:=congrArg List.length ht;simpa using this
 have hS':∀ c∈61::34::(seg++(flat ps++34::rest)),c∈signs:=fun c hc=>hS c (ht▸hc)
 obtain ⟨q,e⟩:=Bz (code:=c66) (text:=text) (groups:=1) (pos:=0) (lim:=text.size) (must:=false) (least:=3) (body:=5) rfl (Nat.zero_le _) (by exact hlen.symm▸Nat.le_add_left _ _) rfl
 rw [e]
 refine Ends.seen ?_
 let m0:=st0 c66 text 1 text.size 5 0 (if 3>1 then max 0 (text.size - (3 - 1)) else text.size) false
 have g1:Go 1 m0 {m0 with pc:=7}:=Dc (m:=m0) ⟨rfl,rfl,by refine (?_:5<72);decide⟩ rfl rfl
 let fr (pc p:Nat):Sre.Frame:={wait:=.giveBack,pc,pos:=p,outermost:=true,count:=0,kept:={lastmark := -1,lastindex := -1}}
 have hL:(seg++(flat ps++34::rest)).length=seg.length+((flat ps).length+(rest.length+1)):=by simp
 let m2:M:={m0 with pc:=17,pos:=0,handed:=0,weight:=1+1,frames:=fr 7 0::m0.frames}
 have g2:Go 1 {m0 with pc:=7} m2:=Ay (m:={m0 with pc:=7}) (xs:=[]) (ys:=61::34::(seg++(flat ps++34::rest))) ⟨rfl,rfl,by refine (?_:7<72);decide⟩ rfl rfl (by refine (?_:Suf text 0 _);exact ht) (by refine (?_:text.size=0+(0+((seg++(flat ps++34::rest)).length+1+1)));exact (eqn hlen (eqs hL (by simp +arith only)))) (by refine (?_:0+((seg++(flat ps++34::rest)).length+1+1)≤100000);exact (lne hL (lns hlen (lin hsz (by simp +arith only)))))
  (fun x hx=>by simp at hx) (.inr ⟨61,_,rfl,AT k66a (by decide) (by decide)⟩) (Nat.zero_le _) rfl (by refine (?_:1≤1000000);decide)
 have hs1:=Suf.cons (t:=text) (p:=0) ht
 have hs2:=Suf.cons hs1.2.2
 let m3:M:={m2 with pc:=19,pos:=1}
 have g3:Go 1 m2 m3:=BK (m:=m2) (w:=16) (c:=61) (b:=true) ⟨rfl,rfl,by refine (?_:17<72);decide⟩ rfl (by simp) (by refine (?_:0<text.size);exact hlen.symm▸Nat.le_add_left _ _) hs1.1 (AT k66b (by decide) rfl)
 let m4:M:={m3 with pc:=29,pos:=1,handed:=1,weight:=1+1+1,frames:=fr 19 1::m2.frames}
 have g4:Go 1 m3 m4:=Ay (m:=m3) (xs:=[]) (ys:=34::(seg++(flat ps++34::rest))) ⟨rfl,rfl,by refine (?_:19<72);decide⟩ rfl rfl (by refine (?_:Suf text 1 _);exact hs1.2.2) (by refine (?_:text.size=1+(0+((seg++(flat ps++34::rest)).length+1)));exact (eqn hlen (eqs hL (by simp +arith only)))) (by refine (?_:0+((seg++(flat ps++34::rest)).length+1)≤100000);exact (lne hL (lns hlen (lin hsz (by simp +arith only)))))
  (fun x hx=>by simp at hx) (.inr ⟨34,_,rfl,AT k66c (by decide) (by decide)⟩) (Nat.zero_le _) rfl (by refine (?_:2≤1000000);decide)
 let m5:M:={m4 with pc:=31,pos:=2}
 have g5:Go 1 m4 m5:=BK (m:=m4) (w:=16) (c:=34) (b:=true) ⟨rfl,rfl,by refine (?_:29<72);decide⟩ rfl (by simp) (by refine (?_:1<text.size);exact hlen.symm▸Nat.le_add_left _ _) hs2.1 (AT k66d (by decide) rfl)
 let m6:M:={m5 with pc:=33,marks:=#[some 2,none],lastmark:=0}
 have g6:Go 1 m5 m6:=CR (m:=m5) ⟨rfl,rfl,by refine (?_:31<72);decide⟩ rfl rfl rfl rfl
 refine Bl (Fl (ps:=ps) (rest:=rest)) fun y r hy hy'=>?_
 let f7:Sre.Frame:={wait:=.giveBack,pc:=33,pos:=2+seg.length,outermost:=true,count:=seg.length,kept:={lastmark:=0,lastindex := -1}}
 let m7:M:={m6 with pc:=46,pos:=2+seg.length,handed:=2+seg.length,weight:=1+1+1+1,frames:=f7::m4.frames}
 have g7:Go 1 m6 m7:=Ay (m:=m6) (xs:=seg) (ys:=flat ps++34::rest) ⟨rfl,rfl,by refine (?_:33<72);decide⟩ rfl rfl (by refine (?_:Suf text 2 _);exact hs2.2.2) (by refine (?_:text.size=2+(seg.length+(flat ps++34::rest).length));simp;exact (eqn hlen (by simp +arith only))) (by simp;exact (lns hlen (lin hsz (by simp +arith only))))
  (fun x hx=>AT k66e (hS' x (by simp [hx])) (hb0 x hx)) (.inr ⟨y,r,hy,AT k66e (hS' y (by rw [hy];simp)) (by rcases hy' with rfl | rfl <;> decide)⟩) (Nat.zero_le _) rfl (by refine (?_:3≤1000000);decide)
 let f8:Sre.Frame:={wait:=.closeLoop,pc:=46,pos:=2+seg.length,outermost:=true}
 have g8:Go 1 m7 (U text (2+seg.length) (-1) none (f8::m7.frames) (1+1+1+1+1+0) (2+seg.length) (if 3>1 then max 0 (text.size - (3 - 1)) else text.size)):=by
  refine Go.step rfl fun q=>⟨q.add 23,?_⟩
  rw [Dw (m:=m7) ⟨rfl,rfl,by refine (?_:46<72);decide⟩]
  rfl
 have g:=((((((g1.trans g2).trans g3).trans g4).trans g5).trans g6).trans g7).trans g8
 have hs7:Suf text (2+seg.length) (flat ps++34::rest):=Suf.app (p:=2) hs2.2.2
 have y:=HG hS hsz ps (p:=2+seg.length) (cnt := -1) (bg:=none) (fs:=f8::m7.frames) (w:=1+1+1+1+1+0) (hd:=2+seg.length) (ls:=if 3>1 then max 0 (text.size - (3 - 1)) else text.size) hs7 (by exact (lns hlen (by simp +arith only))) hb (by simp +arith only) (fun b hb=>by exact no hb) (by exact (HH 10 hlen (lnn 10 hsz (by simp +arith only)))) (by
  intro f hf
  simp [m7,m6,m5,m4,m3,m2,m0] at hf
  rcases hf with rfl | rfl | rfl | rfl | rfl
  ·exact .inr (.inr (.inl rfl))
  ·exact .inr (.inl rfl)
  ·exact .inr (.inl rfl)
  ·exact .inr (.inl rfl)
  ·exact .inl rfl)
 exact (Ends.go g y).le (by refine (?_:_+(20+5+20*(flat ps).length)≤_);exact (HH 20 hlen (by simp +arith only)))
end Rx
namespace Rx
theorem junk_yes {text:Array Nat} {xs rest:List Nat} (ht:text.toList=xs++rest) (hS:∀ c∈text.toList,c∈signs) (hsz:text.size≤100000) (hx:∀ c∈xs,isJunk c=true) (hr:rest=[]∨∃ c r,rest=c::r∧isJunk c=false) :
  Ends (forSearch c49 text 0 0 text.size false) 20 (some (0,xs.length,#[],-1,-1)):=by
 have hlen:text.size=xs.length+rest.length:=by have:=congrArg List.length ht;simpa using this
 have hS':∀ c∈xs++rest,c∈signs:=fun c hc=>hS c (ht▸hc)
 obtain ⟨q,e⟩:=Bz (code:=c49) (text:=text) (groups:=0) (pos:=0) (lim:=text.size) (must:=false) (least:=0) (body:=5) rfl (Nat.zero_le _) (by simp +arith only) rfl
 rw [e]
 refine Ends.seen ?_
 let m0:=st0 c49 text 0 text.size 5 0 (if 0>1 then max 0 (text.size - (0 - 1)) else text.size) false
 have g1:Go 1 m0 {m0 with pc:=7}:=Dc (m:=m0) ⟨rfl,rfl,by refine (?_:5<22);decide⟩ rfl rfl
 let m2:M:={m0 with pc:=21,pos:=0+xs.length,handed:=0+xs.length,weight:=1+1,frames:={wait:=.giveBack,pc:=7,pos:=0+xs.length,outermost:=true,count:=xs.length,kept:={lastmark := -1,lastindex := -1}}::m0.frames}
 have g2:Go 1 {m0 with pc:=7} m2:=Ay (m:={m0 with pc:=7}) (xs:=xs) (ys:=rest) ⟨rfl,rfl,by refine (?_:7<22);decide⟩ rfl rfl (by refine (?_:Suf text 0 _);exact ht) (by refine (?_:text.size=0+(xs.length+rest.length));exact hlen.trans (Nat.zero_add _).symm) (by exact Nat.le_trans (Nat.le_of_eq hlen.symm) hsz)
  (fun x h=>AT k49 (hS' x (by simp [h])) (hx x h)) (hr.imp id fun ⟨c,r,h1,h2⟩=>⟨c,r,h1,AT k49 (hS' c (by rw [h1];simp)) h2⟩) (Nat.zero_le _) rfl (by refine (?_:1≤1000000);decide)
 have g3:Go 1 m2 (M.say {m2 with handed:=0+xs.length} true):=by
  have:=Ax (m:=m2) ⟨rfl,rfl,by refine (?_:21<22);decide⟩ rfl rfl
  rwa [if_neg (by refine (?_:¬ ((true&&false&&_)=true));simp)] at this
 have y:=Ends.yes (m:=M.say {m2 with handed:=0+xs.length} true) rfl rfl (by
  intro f hf
  simp [m2,m0,M.say] at hf
  rcases hf with rfl | rfl <;> simp)
 have:=(Ends.go ((g1.trans g2).trans g3) y).le (b:=20) (by refine (?_:_+(2+1)≤20);simp +arith only)
 replace this:Ends m0 20 (some (0,0+xs.length,#[],-1,-1)):=this
 rw [Nat.zero_add] at this
 exact this
theorem junk_no {text:Array Nat} {p:Nat} (hp:0<p) (hl:p≤text.size):Ends (forSearch c49 text 0 p text.size false) (2*text.size+20) none:=by
 obtain ⟨q,e⟩:=Bz (code:=c49) (text:=text) (groups:=0) (pos:=p) (lim:=text.size) (must:=false) (least:=0) (body:=5) rfl hl (Nat.zero_le _) rfl
 rw [e]
 refine Ends.seen ?_
 let m0:=st0 c49 text 0 text.size 5 p (if 0>1 then max p (text.size - (0 - 1)) else text.size) false
 have g1:Go 1 m0 (m0.say false):=by
  have:=Dc (m:=m0) ⟨rfl,rfl,by refine (?_:5<22);decide⟩ rfl rfl
  rwa [if_neg (by refine (?_:¬ p=0);exact Nat.ne_of_gt hp)] at this
 exact (Ends.go g1 (Ends.scan (m:=m0.say false) (b:=5) (n:=text.size) rfl rfl rfl rfl rfl rfl (by refine (?_:5<22);decide) (by refine (?_:1≤1);decide) (Nat.le_refl _))).le (by simp +arith only)
noncomputable abbrev T (text:Array Nat) (p hd:Nat) (om:Bool):M :=
 {code:=c76,text,lim:=text.size,start:=p,lastStart:=text.size,pc:=9,pos:=p,handed:=p,outermost:=om,marks:=#[none,none],frames:=[{wait:=.nextStart,pc:=9,pos:=p,outermost:=om}],weight:=1}
theorem Fn {text:Array Nat} {p:Nat} (hl:p+2≤text.size):∃ q,forSearch c76 text 1 p text.size false=sn (T text p p true) q:=by
 refine ⟨({}:Seen).add 14,?_⟩
 unfold forSearch
 dsimp only
 rw [if_neg (by
  have h:(header c76).1=2:=rfl
  rw [h];simp;exact ⟨Nat.le_of_add_right_le hl,Nat.le_sub_of_add_le' hl⟩)]
 rfl
theorem L7 {text:Array Nat} {p c:Nat} {rest:List Nat} {om:Bool} (hs:Suf text p (c::rest)) (hcS:c∈signs) (hc:(c==92)=false):Go 2 (T text p p om) (T text (p+1) (p+1) false):=by
 have hs1:=hs.cons
 have g1:Go 1 (T text p p om) (M.say (T text p p om) false):=BK (m:=T text p p om) (w:=16) (c:=c) (b:=false) ⟨rfl,rfl,by refine (?_:9<17);decide⟩ rfl (by simp) hs1.2.1 hs1.1 (AT k76a hcS hc)
 have g2:Go 1 (M.say (T text p p om) false) (T text (p+1) (p+1) false):=by
  refine BC (f:={wait:=.nextStart,pc:=9,pos:=p,outermost:=om}) (rest:=[]) rfl rfl rfl fun q=>⟨q,?_⟩
  unfold M.resume
  refine (?_:(if p<text.size then _ else _)=_)
  rw [if_pos hs1.2.1]
  rfl
 exact g1.trans g2
theorem FE {text:Array Nat}:∀ {xs:List Nat} {p:Nat} {ys:List Nat} {om:Bool},Suf text p (xs++ys)→(∀ c∈xs,c∈signs∧(c==92)=false)→∃ om',Go (2*xs.length) (T text p p om) (T text (p+xs.length) (p+xs.length) om')
 | [],p,ys,om,_,_=>⟨om,Go.refl⟩
 | x::xs,p,ys,om,hs,hx=>by
  obtain ⟨om',g⟩:=FE (xs:=xs) (p:=p+1) (ys:=ys) (om:=false) hs.cons.2.2 fun c hc=>hx c (by simp [hc])
  refine ⟨om',?_⟩
  have:=(L7 (om:=om) hs (hx x (by simp)).1 (hx x (by simp)).2).trans g
  rw [show p+1+xs.length=p+(x::xs).length by simp;simp +arith only] at this
  exact this.le (by simp;simp +arith only)
theorem esc_yes {text:Array Nat} {p c:Nat} {xs rest:List Nat} (hs:Suf text p (xs++92::c::rest)) (hS:∀ c∈text.toList,c∈signs) (hp:p≤text.size) (hx:∀ c∈xs,(c==92)=false) :
  Ends (forSearch c76 text 1 p text.size false) (2*text.size+20) (some (p+xs.length,p+xs.length+2,#[some (p+xs.length+1),some (p+xs.length+2)],1,1)):=by
 have hl:=Suf.len hs hp
 simp at hl
 have hmem:∀ x∈xs++92::c::rest,x∈signs:=fun x hx=>hS x (List.mem_of_mem_drop (show x∈text.toList.drop p by rw [show text.toList.drop p=_ from hs];exact hx))
 obtain ⟨q,e⟩:=Fn (text:=text) (p:=p) (by exact lin (Nat.le_of_eq (Eq.symm (by assumption))) (by simp +arith only))
 rw [e]
 refine Ends.seen ?_
 obtain ⟨om,g0⟩:=FE (om:=true) hs fun x h=>⟨hmem x (by simp [h]),hx x h⟩
 have hs0:=Suf.app hs
 have hs1:=hs0.cons
 have hs2:=hs1.2.2.cons
 let P:=p+xs.length
 let m0:=T text P P om
 let m1:M:={m0 with pc:=11,pos:=P+1}
 have g1:Go 1 m0 m1:=BK (m:=m0) (w:=16) (c:=92) (b:=true) ⟨rfl,rfl,by refine (?_:9<17);decide⟩ rfl (by simp) hs1.2.1 hs1.1 (AT k76a (by decide) rfl)
 let m2:M:={m1 with pc:=13,marks:=#[some (P+1),none],lastmark:=0}
 have g2:Go 1 m1 m2:=CR (m:=m1) ⟨rfl,rfl,by refine (?_:11<17);decide⟩ rfl rfl rfl rfl
 let m3:M:={m2 with pc:=14,pos:=P+1+1}
 have g3:Go 1 m2 m3:=BK (m:=m2) (w:=2) (c:=c) (b:=true) ⟨rfl,rfl,by refine (?_:13<17);decide⟩ rfl (by simp) hs2.2.1 hs2.1 (AT k76b (hmem c (by simp)) rfl)
 let m4:M:={m3 with pc:=16,marks:=#[some (P+1),some (P+1+1)],lastmark:=1,lastindex:=1}
 have g4:Go 1 m3 m4:=Cs (m:=m3) ⟨rfl,rfl,by refine (?_:14<17);decide⟩ rfl rfl rfl rfl
 have g5:Go 1 m4 (M.say {m4 with handed:=P+1+1} true):=by
  have:=Ax (m:=m4) ⟨rfl,rfl,by refine (?_:16<17);decide⟩ rfl rfl
  rwa [if_neg (by refine (?_:¬ ((om&&false&&_)=true));simp)] at this
 have y:=Ends.yes (m:=M.say {m4 with handed:=P+1+1} true) rfl rfl (by
  intro f hf
  simp [m4,m3,m2,m1,m0,M.say] at hf
  rcases hf with rfl
  simp)
 exact (Ends.go (((((g0.trans g1).trans g2).trans g3).trans g4).trans g5) y).le (by refine (?_:_+(1+1)≤_);exact (HH 2 hl (by simp +arith only)))
theorem esc_no {text:Array Nat} {p:Nat} {xs:List Nat} (hs:Suf text p xs) (hS:∀ c∈text.toList,c∈signs) (hp:p≤text.size) (hx:∀ c∈xs,(c==92)=false):Ends (forSearch c76 text 1 p text.size false) (2*text.size+20) none:=by
 have hl:=Suf.len hs hp
 by_cases h2:p+2≤text.size
 ·have hmem:∀ x∈xs,x∈signs:=fun x hx=>hS x (List.mem_of_mem_drop (show x∈text.toList.drop p by rw [show text.toList.drop p=_ from hs];exact hx))
  obtain ⟨q,e⟩:=Fn (text:=text) (p:=p) h2
  rw [e]
  refine Ends.seen ?_
  obtain ⟨om,g0⟩:=FE (om:=true) (ys:=[]) (by rw [List.append_nil];exact hs) fun x h=>⟨hmem x h,hx x h⟩
  rw [← hl] at g0
  have g1:Go 1 (T text text.size text.size om) (M.say (T text text.size text.size om) false):=go_end (m:=T text text.size text.size om) (w:=16) ⟨rfl,rfl,by refine (?_:9<17);decide⟩ rfl (by simp) (Nat.le_refl _)
  have g2:Go 1 (M.say (T text text.size text.size om) false) {T text text.size text.size om with answer:=some false,frames:=[],weight:=1 - (1+0)}:=by
   refine BC (f:={wait:=.nextStart,pc:=9,pos:=text.size,outermost:=om}) (rest:=[]) rfl rfl rfl fun q=>⟨q,?_⟩
   unfold M.resume
   refine (?_:(if text.size<text.size then _ else _)=_)
   rw [if_neg (Nat.lt_irrefl _)]
   rfl
  exact ⟨_,(((g0.trans g1).trans g2).trans (CB (yes:=false) rfl rfl rfl)).le (by exact (HH 2 hl (by simp +arith only))),rfl⟩
 ·exact (search_short (by refine (?_:text.size - p<2);exact slt h2 (by decide))).le (by simp +arith only)
noncomputable def InS (code:Array Nat) (c:Nat) (b:Bool):Prop:=∀ q,∃ q',inSet code c code.size 5 true q=.ok (b,q')
noncomputable def TbI (code:Array Nat) (f:Nat→Bool):Prop:=∀ q,signs.map (fun c=>okB (inSet code c code.size 5 true q))=signs.map (fun c=>some (f c))
theorem DD {code:Array Nat} {f:Nat→Bool} (h:TbI code f) {c:Nat} (hc:c∈signs) {b:Bool} (hb:f c=b):InS code c b:=fun q=>okB_e ((List.map_inj_left.mp (h q) c hc).trans (congrArg some hb))
theorem i93:TbI c93 fun c=>isEsc c:=fun ζ=>by kernel_rfl!
theorem i105:TbI c105 fun c=>isUnsafe c:=fun ζ=>by kernel_rfl!
theorem Fu {m:M} {y:Nat} {rest:List Nat} (hlim:m.lim=m.text.size) (hy:InS m.code y true):∀ {xs:List Nat} {p n:Nat},Suf m.text p (xs++y::rest)→xs.length<n→(∀ x∈xs,InS m.code x false)→∀ q,∃ q',m.admitted n p q=.ok (some (p+xs.length),q')
 | _,_,0,_,hn,_,_=>by exact absurd hn (Nat.not_lt_zero _)
 | [],p,n+1,hs,hn,hx,q=>by
  obtain ⟨q',e⟩:=hy q
  have hs1:=hs.cons
  refine ⟨q',?_⟩
  unfold M.admitted
  rw [if_neg (by rw [hlim];have:=hs1.2.1;exact (Nat.not_le_of_lt (lin hs1.2.1 (by simp +arith only)))),hs1.1,e]
  rfl
 | x::xs,p,n+1,hs,hn,hx,q=>by
  obtain ⟨q1,e⟩:=hx x (by simp) q
  have hs1:=Suf.cons hs
  obtain ⟨q2,e2⟩:=Fu hlim hy (xs:=xs) (p:=p+1) (n:=n) hs1.2.2 (by simp at hn;assumption) (fun z hz=>hx z (by simp [hz])) q1
  refine ⟨q2,?_⟩
  unfold M.admitted
  rw [if_neg (by rw [hlim];have:=hs1.2.1;exact (Nat.not_le_of_lt (lin hs1.2.1 (by simp +arith only)))),hs1.1,e]
  refine (?_:m.admitted n (p+1) q1=_)
  rw [e2,show p+1+xs.length=p+(x::xs).length by simp;simp +arith only]
theorem Hb {m:M} (hlim:m.lim=m.text.size):∀ {xs:List Nat} {p n:Nat},Suf m.text p xs→p≤m.text.size→(∀ x∈xs,InS m.code x false)→∀ q,∃ q',m.admitted n p q=.ok (none,q')
 | _,_,0,_,_,_,q=>⟨q,rfl⟩
 | [],p,n+1,hs,_,hx,q=>⟨q,by unfold M.admitted;rw [if_pos (by rw [hlim];exact hs.nil)]⟩
 | x::xs,p,n+1,hs,hp,hx,q=>by
  obtain ⟨q1,e⟩:=hx x (by simp) q
  have hs1:=Suf.cons hs
  obtain ⟨q2,e2⟩:=Hb hlim (xs:=xs) (p:=p+1) (n:=n) hs1.2.2 hs1.2.1 (fun z hz=>hx z (by simp [hz])) q1
  refine ⟨q2,?_⟩
  unfold M.admitted
  rw [if_neg (by rw [hlim];have:=hs1.2.1;exact (Nat.not_le_of_lt (lin hs1.2.1 (by simp +arith only)))),hs1.1,e]
  exact e2
theorem Fm {code text:Array Nat} {groups p y:Nat} {xs rest:List Nat} (hfl:code.getD 0 0=14∧code.getD 2 0=4) (h1:(header code).1=1) (hs:Suf text p (xs++y::rest)) (hp:p≤text.size) (hy:InS code y true) (hx:∀ x∈xs,InS code x false) :
  ∃ q,forSearch code text groups p text.size false=sn (st0 code text groups text.size (header code).2 (p+xs.length) text.size false) q:=by
 have hl:=Suf.len hs hp
 simp at hl
 have hh:((header code).2 != 0&&code.getD 2 0 &&& 5 != 0)=true:=by
  have:(header code).2=1+code.getD 1 0:=by unfold header;rw [hfl.1];rfl
  rw [this,hfl.2]
  have:(1+code.getD 1 0 != 0)=true:=by simp
  rw [this];rfl
 obtain ⟨q',e⟩:=Fu (m:={code,text,lim:=text.size,start:=p,pc:=(header code).2,pos:=p,handed:=p,marks:=Array.replicate (2*groups) none,mustAdvance:=false,seen:=if (header code).2==0 then {} else ({}:Seen).add 14,lastStart:=text.size}) rfl hy (xs:=xs) (p:=p) (n:=text.size+1 - p) hs (Nat.lt_sub_of_add_lt (by exact lns hl (by simp +arith only))) hx (if (header code).2==0 then {} else ({}:Seen).add 14)
 refine ⟨q',?_⟩
 unfold forSearch
 dsimp only
 rw [if_neg (by rw [h1];simp;exact ⟨by exact lns hl (by simp +arith only),Nat.sub_ne_zero_of_lt (by exact lns hl (by simp +arith only))⟩),hh]
 rw [Bool.not_true,Bool.and_false,if_neg Bool.false_ne_true]
 unfold M.attemptFrom
 have hfs:∀ m:M,m.code=code→m.hasFirstSet=true:=fun m em=>by
  unfold M.hasFirstSet
  rw [em,hfl.1,hfl.2];rfl
 rw [hfs _ rfl]
 refine (if_neg Bool.false_ne_true).trans ?_
 have key:M.admitted {code,text,lim:=text.size,start:=p,pc:=(header code).2,pos:=p,handed:=p,marks:=Array.replicate (2*groups) none,mustAdvance:=false,seen:=if (header code).2==0 then {} else ({}:Seen).add 14,lastStart:=text.size} (text.size+1 - p) p (if (header code).2==0 then {} else ({}:Seen).add 14)=.ok (some (p+xs.length),q'):=e
 refine (?_:(match M.admitted {code,text,lim:=text.size,start:=p,pc:=(header code).2,pos:=p,handed:=p,marks:=Array.replicate (2*groups) none,mustAdvance:=false,seen:=if (header code).2==0 then {} else ({}:Seen).add 14,lastStart:=text.size} (text.size+1 - p) p (if (header code).2==0 then {} else ({}:Seen).add 14) with | .ok (some s,seen)=>_ | .ok (none,seen)=>_ | .error why=>_)=_)
 rw [key]
 rfl
theorem H0 {code text:Array Nat} {groups p:Nat} {xs:List Nat} (hfl:code.getD 0 0=14∧code.getD 2 0=4) (h1:(header code).1=1) (hs:Suf text p xs) (hp:p≤text.size) (hx:∀ x∈xs,InS code x false) :
  Ends (forSearch code text groups p text.size false) 1 none:=by
 have hl:=Suf.len hs hp
 by_cases h0:text.size - p<1
 ·exact search_short (by rw [h1];exact h0)
 have hh:((header code).2 != 0&&code.getD 2 0 &&& 5 != 0)=true:=by
  have:(header code).2=1+code.getD 1 0:=by unfold header;rw [hfl.1];rfl
  rw [this,hfl.2]
  have:(1+code.getD 1 0 != 0)=true:=by simp
  rw [this];rfl
 let m0:M:={code,text,lim:=text.size,start:=p,pc:=(header code).2,pos:=p,handed:=p,marks:=Array.replicate (2*groups) none,mustAdvance:=false,seen:=if (header code).2==0 then {} else ({}:Seen).add 14,lastStart:=text.size}
 obtain ⟨q',e⟩:=Hb (m:=m0) rfl (xs:=xs) (p:=p) (n:=text.size+1 - p) hs hp hx (if (header code).2==0 then {} else ({}:Seen).add 14)
 have ee:forSearch code text groups p text.size false=sn (m0.say false) q':=by
  unfold forSearch
  dsimp only
  rw [if_neg (by rw [h1];simp;exact ⟨hp,fun e=>h0 (Nat.lt_one_iff.mpr e)⟩),hh]
  rw [Bool.not_true,Bool.and_false,if_neg Bool.false_ne_true]
  unfold M.attemptFrom
  have hfs:∀ m:M,m.code=code→m.hasFirstSet=true:=fun m em=>by
   unfold M.hasFirstSet
   rw [em,hfl.1,hfl.2];rfl
  rw [hfs _ rfl]
  refine (if_neg Bool.false_ne_true).trans ?_
  refine (?_:(match M.admitted m0 (text.size+1 - p) p (if (header code).2==0 then {} else ({}:Seen).add 14) with | .ok (some s,seen)=>_ | .ok (none,seen)=>_ | .error why=>_)=_)
  rw [e]
  rfl
 rw [ee]
 exact Ends.seen ⟨_,CB (yes:=false) rfl rfl rfl,rfl⟩
end Rx
namespace Rx
theorem FH {text:Array Nat} {p:Nat} {xs:List Nat} (hs:Suf text p xs) (hS:∀ c∈text.toList,c∈signs):∀ x∈xs,x∈signs:=fun x hx=>hS x (List.mem_of_mem_drop (show x∈text.toList.drop p by rw [show text.toList.drop p=_ from hs];exact hx))
theorem jesc_yes {text:Array Nat} {p c:Nat} {xs rest:List Nat} (hs:Suf text p (xs++c::rest)) (hS:∀ c∈text.toList,c∈signs) (hp:p≤text.size) (hc:isEsc c=true) (hx:∀ c∈xs,isEsc c=false) :
  Ends (forSearch c93 text 1 p text.size false) 20 (some (p+xs.length,p+xs.length+1,#[some (p+xs.length),some (p+xs.length+1)],1,1)):=by
 have hmem:=FH hs hS
 obtain ⟨q,e⟩:=Fm (code:=c93) (groups:=1) ⟨rfl,rfl⟩ rfl hs hp (DD i93 (hmem c (by simp)) hc) (fun x h=>DD i93 (hmem x (by simp [h])) (hx x h))
 rw [e]
 refine Ends.seen ?_
 have hs1:=(Suf.app hs).cons
 let P:=p+xs.length
 let m0:=st0 c93 text 1 text.size 10 P text.size false
 let m1:M:={m0 with pc:=12,marks:=#[some P,none],lastmark:=0}
 have g1:Go 1 m0 m1:=CR (m:=m0) ⟨rfl,rfl,by refine (?_:10<22);decide⟩ rfl rfl rfl rfl
 let m2:M:={m1 with pc:=19,pos:=P+1}
 have g2:Go 1 m1 m2:=BK (m:=m1) (w:=13) (c:=c) (b:=true) ⟨rfl,rfl,by refine (?_:12<22);decide⟩ rfl (by simp) hs1.2.1 hs1.1 (AT k93 (hmem c (by simp)) hc)
 let m3:M:={m2 with pc:=21,marks:=#[some P,some (P+1)],lastmark:=1,lastindex:=1}
 have g3:Go 1 m2 m3:=Cs (m:=m2) ⟨rfl,rfl,by refine (?_:19<22);decide⟩ rfl rfl rfl rfl
 have g4:Go 1 m3 (M.say {m3 with handed:=P+1} true):=by
  have:=Ax (m:=m3) ⟨rfl,rfl,by refine (?_:21<22);decide⟩ rfl rfl
  rwa [if_neg (by refine (?_:¬ ((true&&false&&_)=true));simp)] at this
 have y:=Ends.yes (m:=M.say {m3 with handed:=P+1} true) rfl rfl (by
  intro f hf
  simp [m3,m2,m1,m0,M.say] at hf
  rcases hf with rfl
  simp)
 exact (Ends.go (((g1.trans g2).trans g3).trans g4) y).le (by refine (?_:_+(1+1)≤_);simp +arith only)
theorem jesc_no {text:Array Nat} {p:Nat} {xs:List Nat} (hs:Suf text p xs) (hS:∀ c∈text.toList,c∈signs) (hp:p≤text.size) (hx:∀ c∈xs,isEsc c=false):Ends (forSearch c93 text 1 p text.size false) 1 none :=
 H0 ⟨rfl,rfl⟩ rfl hs hp fun x h=>DD i93 (FH hs hS x h) (hx x h)
theorem uns_yes {text:Array Nat} {c:Nat} {xs rest:List Nat} (ht:text.toList=xs++c::rest) (hS:∀ c∈text.toList,c∈signs) (hc:isUnsafe c=true) (hx:∀ c∈xs,isUnsafe c=false) :
  Ends (forSearch c105 text 0 0 text.size false) 20 (some (xs.length,xs.length+1,#[],-1,-1)):=by
 have hs:Suf text 0 (xs++c::rest):=ht
 have hmem:=FH hs hS
 obtain ⟨q,e⟩:=Fm (code:=c105) (groups:=0) ⟨rfl,rfl⟩ rfl hs (Nat.zero_le _) (DD i105 (hmem c (by simp)) hc) (fun x h=>DD i105 (hmem x (by simp [h])) (hx x h))
 rw [e]
 refine Ends.seen ?_
 have hs1:=(Suf.app hs).cons
 rw [Nat.zero_add] at hs1 ⊢
 let P:=xs.length
 let m0:=st0 c105 text 0 text.size 18 P text.size false
 let m1:M:={m0 with pc:=33,pos:=P+1}
 have g1:Go 1 m0 m1:=BK (m:=m0) (w:=13) (c:=c) (b:=true) ⟨rfl,rfl,by refine (?_:18<34);decide⟩ rfl (by simp) hs1.2.1 hs1.1 (AT k105 (hmem c (by simp)) hc)
 have g2:Go 1 m1 (M.say {m1 with handed:=P+1} true):=by
  have:=Ax (m:=m1) ⟨rfl,rfl,by refine (?_:33<34);decide⟩ rfl rfl
  rwa [if_neg (by refine (?_:¬ ((true&&false&&_)=true));simp)] at this
 have y:=Ends.yes (m:=M.say {m1 with handed:=P+1} true) rfl rfl (by
  intro f hf
  simp [m1,m0,M.say] at hf
  rcases hf with rfl
  simp)
 exact (Ends.go (g1.trans g2) y).le (by refine (?_:_+(1+1)≤_);simp +arith only)
theorem uns_no {text:Array Nat} (hS:∀ c∈text.toList,c∈signs) (hx:∀ c∈text.toList,isUnsafe c=false):Ends (forSearch c105 text 0 0 text.size false) 1 none :=
 H0 ⟨rfl,rfl⟩ rfl (xs:=text.toList) rfl (Nat.zero_le _) fun x h=>DD i105 (hS x h) (hx x h)
noncomputable abbrev mF (text:Array Nat):M:={code:=c88,text,lim:=text.size,start:=0,wholeText:=true,pc:=5,pos:=0,handed:=0,marks:=#[]}
theorem Ez {text:Array Nat} (h:1≤text.size):∃ q,forMatch c88 text 0 0 text.size true false=sn (mF text) q:=by
 refine ⟨({}:Seen).add 14,?_⟩
 unfold forMatch
 dsimp only
 rw [if_neg (by
  have:(header c88).1=1:=rfl
  rw [this]
  have:decide (text.size - 0<1)=false:=by rw [decide_eq_false_iff_not];exact (Nat.not_lt_of_le h)
  rw [this,Bool.and_false];decide)]
 rfl
theorem full_yes {text:Array Nat} (hS:∀ c∈text.toList,c∈signs) (hsz:text.size≤100000) (h1:1≤text.size) (hx:∀ c∈text.toList,isJoin c=true) :
  Ends (forMatch c88 text 0 0 text.size true false) 20 (some (0,text.size,#[],-1,-1)):=by
 obtain ⟨q,e⟩:=Ez h1
 rw [e]
 refine Ends.seen ?_
 have hl:text.toList.length=text.size:=by simp
 let m2:M:={mF text with pc:=22,pos:=0+text.toList.length,handed:=0+text.toList.length,weight:=0+1,frames:=[{wait:=.giveBack,pc:=5,pos:=0+text.toList.length,outermost:=true,count:=text.toList.length,kept:={lastmark := -1,lastindex := -1}}]}
 have g1:Go 1 (mF text) m2:=Ay (m:=mF text) (xs:=text.toList) (ys:=[]) ⟨rfl,rfl,by refine (?_:5<23);decide⟩ rfl rfl (by refine (?_:text.toList.drop 0=_);simp) (by refine (?_:text.size=0+(text.toList.length+0));exact hl.trans (Nat.zero_add _).symm) (by refine (?_:text.toList.length+0≤_);assumption)
  (fun x h=>AT k88 (hS x h) (hx x h)) (.inl rfl) (by refine (?_:1≤_);assumption) rfl (by refine (?_:0≤1000000);decide)
 have g2:Go 1 m2 (M.say {m2 with handed:=0+text.toList.length} true):=by
  have:=Ax (m:=m2) ⟨rfl,rfl,by refine (?_:22<23);decide⟩ rfl rfl
  rwa [if_neg (by
   refine (?_:¬ ((true&&true&&(0+text.toList.length != text.size))=true))
   rw [Nat.zero_add,hl];simp)] at this
 have y:=Ends.yes (m:=M.say {m2 with handed:=0+text.toList.length} true) rfl rfl (by
  intro f hf
  simp [m2,M.say] at hf
  rcases hf with rfl
  simp)
 have:=(Ends.go (g1.trans g2) y).le (b:=20) (by refine (?_:_+(1+1)≤_);simp +arith only)
 replace this:Ends (mF text) 20 (some (0,0+text.toList.length,#[],-1,-1)):=this
 rw [Nat.zero_add,hl] at this
 exact this
noncomputable abbrev gF (text:Array Nat) (n:Nat):M:={mF text with pc:=22,pos:=n,handed:=n,weight:=1,frames:=[{wait:=.giveBack,pc:=5,pos:=n,outermost:=true,count:=n,kept:={lastmark := -1,lastindex := -1}}]}
theorem Fh {text:Array Nat}:∀ (n:Nat),n<text.size→1≤n→Ends (gF text n) (2*n+4) none
 | 0,_,h=>by exact absurd h (Nat.not_lt_zero _)
 | n+1,h,_=>by
  have g1:Go 1 (gF text (n+1)) (M.say (gF text (n+1)) false):=by
   have:=Ax (m:=gF text (n+1)) ⟨rfl,rfl,by refine (?_:22<23);decide⟩ rfl rfl
   rwa [if_pos (by
    refine (?_:(true&&true&&(n+1 != text.size))=true)
    simp;exact Nat.ne_of_lt h)] at this
  cases n with
  | zero =>
   have g2:Go 1 (M.say (gF text 1) false) {gF text 1 with answer:=some false,frames:=[],weight:=1 - (1+0),pc:=5}:=by
    refine BC (f:={wait:=.giveBack,pc:=5,pos:=1,outermost:=true,count:=1,kept:={lastmark := -1,lastindex := -1}}) (rest:=[]) rfl rfl rfl fun q=>⟨q,?_⟩
    unfold M.resume
    rfl
   exact ⟨_,((g1.trans g2).trans (CB (yes:=false) rfl rfl rfl)).le (by simp +arith only),rfl⟩
  | succ n =>
   have g2:Go 1 (M.say (gF text (n+1+1)) false) (gF text (n+1)):=by
    refine BC (f:={wait:=.giveBack,pc:=5,pos:=n+1+1,outermost:=true,count:=((n+1+1:Nat):Int),kept:={lastmark := -1,lastindex := -1}}) (rest:=[]) rfl rfl rfl fun q=>⟨q,?_⟩
    unfold M.resume
    refine (?_:(if ((n+1+1:Nat):Int) - 1<((1:Nat):Int) then _ else _)=_)
    rw [if_neg (Int.not_lt.mpr ((Int.add_sub_cancel ((n+1:Nat):Int) 1).symm▸Int.ofNat_le.mpr (Nat.le_add_left 1 n)))]
    have e:((n+1+1:Nat):Int) - 1=((n+1:Nat):Int):=Int.add_sub_cancel ((n+1:Nat):Int) 1
    rw [CF (by refine (?_:1 - (1+0)+1+0≤_);decide)]
    refine (?_:M.mk _ _ _ _ _ _ _ _ _ _ _ _ _ _ _ _ ({wait:=.giveBack,pc:=5,pos:=n+1,outermost:=true,count:=((n+1+1:Nat):Int) - 1,kept:={lastmark := -1,lastindex := -1}}::[]) _ _ _ _=_)
    rw [e]
    rfl
   have ih:=Fh (text:=text) (n+1) (by exact Nat.lt_of_succ_lt h) (by simp +arith only)
   exact (Ends.go (g1.trans g2) ih).le (by simp +arith only)
theorem full_no {text:Array Nat} {xs rest:List Nat} {c:Nat} (ht:text.toList=xs++c::rest) (hS:∀ c∈text.toList,c∈signs) (hsz:text.size≤100000) (hx:∀ c∈xs,isJoin c=true) (hc:isJoin c=false) :
  Ends (forMatch c88 text 0 0 text.size true false) (2*text.size+20) none:=by
 have hlen:text.size=xs.length+(rest.length+1):=by have:=congrArg List.length ht;simpa using this
 have hS':∀ d∈xs++c::rest,d∈signs:=fun d hd=>hS d (by rw [ht];exact hd)
 obtain ⟨q,e⟩:=Ez (text:=text) (by exact lin (Nat.le_of_eq (Eq.symm (by assumption))) (by simp +arith only))
 rw [e]
 refine Ends.seen ?_
 induction xs using List.casesOn with
 | nil =>
  have g1:Go 1 (mF text) ((mF text).say false):=by
   have:=GU (m:=mF text) (xs:=[]) (ys:=c::rest) ⟨rfl,rfl,by refine (?_:5<23);decide⟩ rfl rfl (by refine (?_:Suf text 0 _);exact ht) (by refine (?_:text.size=0+(0+(rest.length+1)));simpa using hlen) (by refine (?_:0+(rest.length+1)≤100000);simp at hlen;exact (lns hlen (lin hsz (by simp +arith only))))
    (fun x hx=>by simp at hx) (.inr ⟨c,rest,rfl,AT k88 (hS' c (by simp)) hc⟩)
   rwa [if_pos (by refine (?_:0<1);decide)] at this
  exact ⟨_,(g1.trans (CB (yes:=false) rfl rfl rfl)).le (by simp +arith only),rfl⟩
 | cons x xs =>
  have g1:=Ay (m:=mF text) (xs:=x::xs) (ys:=c::rest) ⟨rfl,rfl,by refine (?_:5<23);decide⟩ rfl rfl (by refine (?_:Suf text 0 _);exact ht) (by refine (?_:text.size=0+((x::xs).length+(rest.length+1)));exact hlen.trans (Nat.zero_add _).symm) (by refine (?_:(x::xs).length+(rest.length+1)≤100000);exact Nat.le_trans (Nat.le_of_eq hlen.symm) hsz)
   (fun z h=>AT k88 (hS' z (List.mem_append_left _ h)) (hx z h)) (.inr ⟨c,rest,rfl,AT k88 (hS' c (by simp)) hc⟩) (by refine (?_:1≤(x::xs).length);simp) rfl (by refine (?_:0≤1000000);decide)
  have e0:(mF text).pos+(x::xs).length=(x::xs).length:=Nat.zero_add _
  rw [e0] at g1
  have g1':Go 1 (mF text) (gF text (x::xs).length):=g1
  exact (Ends.go g1' (Fh _ (by exact (lns hlen (by simp +arith only))) (by simp))).le (by exact (HH 2 hlen (by simp +arith only)))
theorem full_empty {text:Array Nat} (h:text.size=0):Ends (forMatch c88 text 0 0 text.size true false) 1 none:=by
 have e:forMatch c88 text 0 0 text.size true false=sn ((mF text).say false) (({}:Seen).add 14):=by
  unfold forMatch
  dsimp only
  rw [if_pos (by
   have:(header c88).1=1:=rfl
   rw [this,h];rfl)]
  rfl
 rw [e]
 exact Ends.seen ⟨_,CB (yes:=false) rfl rfl rfl,rfl⟩
end Rx
end Mine
end
section
set_option maxRecDepth 100000
namespace Mine
open PySem PySem.W PyProof.Rows PySem.Calls PySem.Spec
open PySem.Builtin PySem.Builtin.Re
open Rx (Ends Go)
variable [T₀:AY]
theorem DL:∀ (a b:Nat) (m:Sre.M),Sre.M.runFor (a+b) m=Sre.M.runFor b (Sre.M.runFor a m)
 | 0,b,m=>by rw [Nat.zero_add];rfl
 | a+1,b,m=>by
  rw [show a+1+b=a+b+1 by simp +arith only]
  by_cases h:m.outcome.isSome=true
  ·rw [Rx.runFor_done h,Rx.runFor_done h,Rx.runFor_done h]
  ·refine (?_:(if m.outcome.isSome then m else Sre.M.runFor (a+b) m.step)=Sre.M.runFor b (if m.outcome.isSome then m else Sre.M.runFor a m.step))
   rw [if_neg h,if_neg h]
   exact DL a b _
section
variable {prog:Program} {w:World} {A:Around} {E:Value→Shared→Prop} {s:Shared}
theorem Gh {m':Sre.M} (ho:m'.outcome.isSome=true):∀ (t j:Nat) (m:Sre.M) {Q:Sre.M→Shared→Prop},j<4*t→Sre.M.runFor j m=m'→Q m' s→wpAny (model prog w) A (reDrive t m) Q E s
 | 0,j,m,Q,hj,_,_=>by exact absurd hj (Nat.not_lt_zero _)
 | t+1,j,m,Q,hj,e,q=>by
  unfold reDrive
  dsimp only
  by_cases h4:j≤4
  ·have e4:Sre.M.runFor reTurnSteps m=m':=by
    refine (?_:Sre.M.runFor 4 m=m')
    rw [show 4=j+(4 - j) by exact (Nat.add_sub_of_le h4).symm,DL,e,Rx.runFor_done ho]
   rw [e4,if_pos ho]
   exact wpAny_pure q
  ·have e4:Sre.M.runFor (j - 4) (Sre.M.runFor reTurnSteps m)=m':=by
    refine (?_:Sre.M.runFor (j - 4) (Sre.M.runFor 4 m)=m')
    rw [← DL,show 4+(j - 4)=j by exact Nat.add_sub_of_le (Nat.le_of_not_le h4),e]
   by_cases h:(Sre.M.runFor reTurnSteps m).outcome.isSome=true
   ·rw [if_pos h]
    rw [Rx.runFor_done h] at e4
    rw [e4]
    exact wpAny_pure q
   ·rw [if_neg h]
    exact wpAny_bind (wpAny_rule (Gh ho t (j - 4) _ (Nat.sub_lt_right_of_lt_add (Nat.le_of_not_le h4) hj) e4 q))
theorem Gf {Q:PUnit→Shared→Prop} {l:List Nat} {c:Nat→Bool} {tag:Nat→String} {f:Nat→PUnit→Sem (ForInStep PUnit)} (hf:∀ i u,f i u=(if c i=true then (rule (tag i)>>=fun ζ=>pure (ForInStep.yield PUnit.unit)) else pure (ForInStep.yield PUnit.unit))) (q:Q ⟨⟩ s):wpAny (model prog w) A (forIn l PUnit.unit f) Q E s:=by
 induction l with
 | nil=>exact wpAny_pure q
 | cons i l ih =>
  rw [List.forIn_cons,hf]
  refine wpAny_bind ?_
  by_cases h:c i=true
  ·rw [if_pos h];exact wpAny_bind (wpAny_rule (wpAny_pure ih))
  ·rw [if_neg h];exact wpAny_pure ih
noncomputable def Post (r:Option (Nat×Nat×Array (Option Nat)×Int×Int)) (Q:Option Sre.M→Shared→Prop) (s:Shared):Prop :=
 match r with
 | some (st,hd,mk,lm,li)=>∀ m':Sre.M,m'.start=st→m'.handed=hd→m'.marks=mk→m'.lastmark=lm→m'.lastindex=li→Q (some m') s
 | none=>Q none s
theorem Hd {m:Sre.M} {n:Nat} {r:Option (Nat×Nat×Array (Option Nat)×Int×Int)} {Q:Option Sre.M→Shared→Prop} (h:Ends m n r) (hn:n≤10000000) (q:Post r Q s):wpAny (model prog w) A (reRunToEnd m) Q E s:=by
 have drive:∀ {m₁:Sre.M},Go n m m₁→m₁.outcome.isSome=true→∃ q',∀ {Q:Sre.M→Shared→Prop},Q (Rx.sn m₁ q') s→wpAny (model prog w) A (reDrive (2 ^ 64) m) Q E s:=by
  intro m₁ g ho
  refine Bl (g m.seen) fun q' j hj e=>?_
  refine ⟨q',fun q=>Gh (m':=Rx.sn m₁ q') ho (2 ^ 64) j m (Nat.lt_of_le_of_lt (Nat.le_trans hj hn) (by decide)) ?_ q⟩
  have:=e 0
  rw [Nat.add_zero] at this
  exact this
 unfold reRunToEnd
 induction r using Option.casesOn with
 | some p =>
  obtain ⟨st,hd,mk,lm,li⟩:=p
  refine KN h fun m₁ g ho h1 h2 h3 h4 h5=>?_
  obtain ⟨q',d⟩:=drive g (by rw [ho];rfl)
  refine wpAny_bind (d (wpAny_bind (Gf (c:=fun i=>(Rx.sn m₁ q').seen.has i) (tag:=fun i=>Sre.names.getD i "") (fun i u=>rfl) ?_)))
  have:(Rx.sn m₁ q').outcome=some .matched:=ho
  rw [this]
  exact wpAny_pure (q _ h1 h2 h3 h4 h5)
 | none =>
  refine AG h fun m₁ g ho=>?_
  obtain ⟨q',d⟩:=drive g (by rw [ho];rfl)
  refine wpAny_bind (d (wpAny_bind (Gf (c:=fun i=>(Rx.sn m₁ q').seen.has i) (tag:=fun i=>Sre.names.getD i "") (fun i u=>rfl) ?_)))
  have:(Rx.sn m₁ q').outcome=some .failed:=ho
  rw [this]
  exact wpAny_pure q
end
structure Ca (W:Wd) (pa:Addr) (code:Array Nat) (groups:Nat):Prop where
 ex:∃ fs ca o items n,W.K.lookup pa=some {cls:=.type "re.Pattern",data:=.fields fs}∧reRawNat (fs.getD 6 .none)=0∧reRawNat (fs.getD 2 .none)=groups∧fs.getD 5 .none=.ref ca∧W.K.lookup ca=some o∧o.data=.seq items n∧(items.map reRawOf).map (·.toNat)=code
section
variable {W:Wd} {Z:AK} {L:Addr} {as:List Addr} {A:Around} {E:Value→Shared→Prop} {s:Shared} {k:Nat}
theorem Ds {id f:String} {pa:Addr} {code:Array Nat} {groups:Nat} {x:Str} {t:Tok} {Q:ReTarget→Shared→Prop} (P:Ca W pa code groups) (zn:Zn W Z s.heap) (hx:x.length≤100000)
  (q:Q {pattern:=.ref pa,string:=.str x t,code,text:=x.cps,kind:=0,groups,pos:=0,lim:=x.cps.size} s):wpAny W.M A (reTarget id f ⟨[.ref pa,.str x t],[]⟩) Q E s:=by
 refine ex57 (P.ex) fun fs ca o items n h1 h2 h3 h4 h5 h6 h7=>?_
 unfold reTarget
 have hn:reNamed id f ["string","pos","endpos"] 1 [.str x t] []=pure [some (.str x t),none,none]:=rfl
 refine (?_:wpAny _ _ (reNamed id f ["string","pos","endpos"] 1 [.str x t] []>>=_) _ _ _)
 rw [hn]
 refine wpAny_bind (wpAny_pure ?_)
 refine wpAny_bind (wpAny_pure (wpAny_bind (wpAny_pure ?_)))
 refine wpAny_bind (wpAny_fieldsOf (zn.keep _ _ (zn.kin _ _ h1)) rfl ?_)
 refine (?_:wpAny _ _ (reTextOf (.str x t)>>=_) _ _ _)
 have ht:reTextOf (.str x t)=pure (x.cps,0):=rfl
 rw [ht]
 refine wpAny_bind (wpAny_pure ?_)
 dsimp only
 rw [h2]
 refine wpAny_bind (wpAny_pure ?_)
 rw [h4]
 refine wpAny_bind ?_
 unfold reRawItems
 refine wpAny_bind (wpAny_seqItems (zn.keep _ _ (zn.kin _ _ h5)) h6 (wpAny_pure ?_))
 refine wpAny_pure ?_
 refine (?_:Q {pattern:=.ref pa,string:=.str x t,code:=((items.map reRawOf).map (·.toNat)),text:=x.cps,kind:=0,groups:=reRawNat (fs.getD 2 .none),pos:=min (0:Int).toNat x.cps.size,lim:=min ((2 ^ 63 - 1:Int)).toNat x.cps.size} s)
 rw [h7,h3,show min (0:Int).toNat x.cps.size=0 by simp,show min ((2 ^ 63 - 1:Int)).toNat x.cps.size=x.cps.size from Nat.min_eq_right (Nat.le_trans hx (by decide))]
 exact q
noncomputable abbrev EF (x:Str) (t:Tok) (pa:Addr) (lim:Nat) (li:Int) (sp:Addr):Obj:={cls:=.type "re.Match",data:=.fields #[.str x t,.ref pa,rawInt 0,rawInt lim,rawInt li,.ref sp]}
noncomputable def B7 (st hd:Nat) (mk:Array (Option Nat)):List Int:=match mk.toList with
 | [some b,some e]=>[(st:Int),hd,b,e]
 | _=>[(st:Int),hd]
theorem EQ {pa:Addr} {x:Str} {t:Tok} {lim:Nat} {m:Sre.M} {st hd:Nat} {li:Int} {groups:Nat} {mk:Array (Option Nat)} {Q:Value→Shared→Prop} (h1:m.start=st) (h2:m.handed=hd) (h3:m.marks=mk) (h4:m.lastindex=li)
  (hg:(groups=0∧mk=#[])∨(groups=1∧m.lastmark=1∧∃ b e,mk=#[some b,some e]∧b≤e))
  (q:Q (.ref (s.heap.objs.size+1)) {s with heap:=(s.heap.push (B2 ((B7 st hd mk).map rawInt) 0)).push (EF x t pa lim li s.heap.objs.size)}) :
  wpAny W.M A (reNewMatch (.ref pa) (.str x t) groups 0 lim m) Q E s:=by
 unfold reNewMatch
 dsimp only
 have hsz:∀ o,(s.heap.push o).objs.size=s.heap.objs.size+1:=fun o=>Heap.size_push ..
 rcases hg with ⟨rfl,rfl⟩ | ⟨rfl,hl,b,e,rfl,hbe⟩
 ·refine (?_:wpAny _ _ (do newFields "re.Match" [.str x t,.ref pa,rawInt 0,rawInt lim,rawInt m.lastindex,← newTuple (rawInt m.start::rawInt m.handed::[])]) _ _ _)
  rw [h1,h2,h4]
  refine wpAny_bind (wpAny_newTuple ?_)
  refine wpAny_newObj_type ?_ (by size_fits)
  rw [hsz]
  exact q
 ·rw [if_neg (by
   rw [h3,hl]
   refine (?_:¬ ((((decide (((1:Nat):Int)≤1))&&decide (e<b)) || false)=true))
   have:decide (e<b)=false:=by rw [decide_eq_false_iff_not];exact (Nat.not_lt_of_le hbe)
   rw [this];simp)]
  rw [h3,hl,h1,h2,h4]
  refine (?_:wpAny _ _ (do newFields "re.Match" [.str x t,.ref pa,rawInt 0,rawInt lim,rawInt li,← newTuple (rawInt st::rawInt hd::[rawInt b,rawInt e])]) _ _ _)
  refine wpAny_bind (wpAny_newTuple ?_)
  refine wpAny_newObj_type ?_ (by size_fits)
  rw [hsz]
  exact q
noncomputable def FA (x:Str) (pa:Addr):Option (Nat×Nat×Array (Option Nat)×Int×Int)→AV
 | some (st,hd,mk,_,_)=>.mtch x pa (B7 st hd mk)
 | none=>.none
noncomputable def Fg (groups:Nat):Option (Nat×Nat×Array (Option Nat)×Int×Int)→Prop
 | some (_,_,mk,lm,_)=>(groups=0∧mk=#[])∨(groups=1∧lm=1∧∃ b e,mk=#[some b,some e]∧b≤e)
 | none=>True
theorem Zn.froze {objs:List AO} {o:Obj} {tk:Nat} (zn:Zn W Z s.heap) (ow:Ow Z as objs s.heap) (hf:o.isFreed=false) :
  let Z':AK:=fun b x=>Z b x∨(b=s.heap.objs.size∧x=o)
  Zn W Z' (s.heap.push o)∧Ow Z' as objs (s.heap.push o)∧Evo [] Z Z' as as s {s with heap:=s.heap.push o,toks:=tk}∧Z' s.heap.objs.size o:=by
 intro Z'
 have g:A6 s.heap (s.heap.push o):=A6.refl.push o
 have hz:∀ b x,Z b x→Z' b x:=fun ζ ζ h=>.inl h
 have isz:∀ t∈tabs,t<s.heap.objs.size:=fun t ht=>AG (zn.tab t ht) fun vs e ζ=>Heap.lt_size e
 have noIn:∀ a∈as,a<s.heap.objs.size:=fun a ha=>by
  refine oEP (List.getElem_of_mem ha) fun i hi r2_=>?_;subst r2_
  have hi':i<objs.length:=by rw [← ow.len];exact hi
  refine AG (ow.obj i _ objs[i] (List.getElem?_eq_getElem hi) (List.getElem?_eq_getElem hi')) fun o h1 ζ=>?_
  exact Heap.lt_size h1
 refine ⟨⟨fun a o' e=>.inl (zn.kin a o' e),fun b x h=>?_,fun a x h=>?_,(zn.grow g).tab.mono hz⟩,⟨ow.len,fun i a x e1 e2=>?_,ow.nodup,fun a ha=>⟨fun x h=>?_,(ow.out a ha).2⟩⟩,⟨hz,fun b x h=>?_,⟨[],by simp,fun ζ h=>(nomatch h)⟩,fun b o h ζ ζ ζ=>g.1 b o h,g.2,AY.grr _,rfl,rfl⟩,.inr ⟨rfl,rfl⟩⟩
 ·rcases h with h | ⟨rfl,rfl⟩
  ·exact g.1 _ _ (zn.keep b x h)
  ·exact Heap.get?_push_size _ hf
 ·rcases h with h | ⟨rfl,rfl⟩
  ·exact zn.low a x h
  ·exact fun q=>absurd (isz _ q) (Nat.lt_irrefl _)
 ·refine AG (ow.obj i a x e1 e2) fun y h1 h2=>?_
  have:=h2.mono (more:=[]) hz
  rw [List.append_nil] at this
  exact ⟨y,g.1 _ _ h1,this⟩
 ·rcases h with h | ⟨rfl,rfl⟩
  ·exact (ow.out a ha).1 x h
  ·exact absurd (noIn _ ha) (Nat.lt_irrefl _)
 ·rcases h with h | ⟨rfl,rfl⟩
  ·exact .inl h
  ·exact .inr (Nat.le_refl _)
theorem EW {objs:List AO} {x:Str} {t:Tok} {pa:Addr} {lim:Nat} {li:Int} {spans:List Int} (zn:Zn W Z s.heap) (ow:Ow Z as objs s.heap) :
  ∃ Z':AK,Zn W Z' ((s.heap.push (B2 (spans.map rawInt) 0)).push (EF x t pa lim li s.heap.objs.size))∧Ow Z' as objs ((s.heap.push (B2 (spans.map rawInt) 0)).push (EF x t pa lim li s.heap.objs.size)) ∧
   Evo [] Z Z' as as s {s with heap:=(s.heap.push (B2 (spans.map rawInt) 0)).push (EF x t pa lim li s.heap.objs.size)}∧Is Z' as (.mtch x pa spans) (.ref (s.heap.objs.size+1)):=by
 refine FW (zn.froze (o:=B2 (spans.map rawInt) 0) (tk:=s.toks) ow rfl) fun z1 o1 e1 f1=>?_
 refine FW (Zn.froze (s:={s with heap:=s.heap.push (B2 (spans.map rawInt) 0)}) (o:=EF x t pa lim li s.heap.objs.size) (tk:=s.toks) z1 o1 rfl) fun z2 o2 e2 f2=>?_
 refine ⟨_,z2,o2,e1.trans e2,?_⟩
 have hs:(s.heap.push (B2 (spans.map rawInt) 0)).objs.size=s.heap.objs.size+1:=Heap.size_push ..
 exact .mtch (t:=t) (li:=li) (lim:=lim) (n:=0) (.inr ⟨hs.symm,rfl⟩) (.inl f1)
theorem Dt {pa:Addr} {code:Array Nat} {groups:Nat} {x:Str} {t:Tok} {objs:List AO} {m:Sre.M} {n:Nat} {r:Option (Nat×Nat×Array (Option Nat)×Int×Int)} {Q:Value→Shared→Prop} (zn:Zn W Z s.heap) (ow:Ow Z as objs s.heap) (h:Ends m n r) (hn:n≤10000000) (hg:Fg groups r)
  (q:∀ (Z':AK) (u:Value) (s':Shared),Zn W Z' s'.heap→Ow Z' as objs s'.heap→Evo [] Z Z' as as s s'→Is Z' as (FA x pa r) u→Q u s') :
  wpAny W.M A (reAnswer {pattern:=.ref pa,string:=.str x t,code,text:=x.cps,kind:=0,groups,pos:=0,lim:=x.cps.size} m) (fun fin s'=>∃ v,fin=.done (.ret v)∧Q v s') E s:=by
 unfold reAnswer
 refine wpAny_bind (Hd h hn ?_)
 induction r using Option.casesOn with
 | some p =>
  obtain ⟨st,hd,mk,lm,li⟩:=p
  intro m' h1 h2 h3 h4 h5
  dsimp only
  refine wpAny_bind (EQ h1 h2 h3 h5 (hg.imp id fun ⟨a,b,c⟩=>⟨a,h4.trans b,c⟩) ?_)
  refine oEAAA (EW (x:=x) (t:=t) (pa:=pa) (lim:=x.cps.size) (li:=li) (spans:=B7 st hd mk) zn ow) fun Z' z' o' e' i'=>?_
  exact wpAny_pure ⟨_,rfl,q _ _ _ z' o' e' i'⟩
 | none=>exact wpAny_pure ⟨_,rfl,q _ _ _ zn ow .refl' .none⟩
theorem Dk:entryFor table "re.Pattern.search"=some Builtin.«re.Pattern.search»:=entryFor_of_tree (by kernel_rfl)
theorem E2:entryFor table "re.Pattern.fullmatch"=some Builtin.«re.Pattern.fullmatch»:=entryFor_of_tree (by kernel_rfl)
theorem H7 (a b:Value):argsOk "re.Pattern.search" ⟨[a,b],[]⟩:=by
 unfold argsOk;kernel_rfl
theorem FN (a b:Value):argsOk "re.Pattern.fullmatch" ⟨[a,b],[]⟩:=by
 unfold argsOk;kernel_rfl
theorem BJ {pa:Addr} {code:Array Nat} {groups:Nat} {x:Str} {objs:List AO} {n:Nat} {r:Option (Nat×Nat×Array (Option Nat)×Int×Int)} (P:Ca W pa code groups) (hx:x.length≤100000) (h:Ends (Sre.forSearch code x.cps groups 0 x.cps.size false) n r) (hn:n≤10000000) (hg:Fg groups r) :
  AR W k (.builtin "re.Pattern.search") [.top (.ref pa),.str x] objs (FA x pa r) objs:=by
 intro Z as vals s A Q E hR zn ow hv q
 cases hv using IsL.e2 with
 | _ _ h1 _ h2 =>
  cases h1 using Is.e_top
  cases h2 using Is.e_str
  refine G1 (P.ex) fun fs ca o items nn k1 ζ=>?_
  refine wpAny_call_entry C6 ⟨_,zn.keep _ _ (zn.kin _ _ k1),rfl⟩ Dk ?_ (H7 _ _)
  refine (?_:wpAny _ _ (reTarget "re.Pattern.search" "search" _>>=fun t=>reAnswer t _) _ _ _)
  refine wpAny_bind (Ds P zn hx ?_)
  exact Dt zn ow h hn hg fun Z' u s' z' o' e' i'=>q _ _ _ _ z' o' e' i'
theorem C0 {pa:Addr} {code:Array Nat} {groups:Nat} {x:Str} {objs:List AO} {n:Nat} {r:Option (Nat×Nat×Array (Option Nat)×Int×Int)} (P:Ca W pa code groups) (hx:x.length≤100000) (h:Ends (Sre.forMatch code x.cps groups 0 x.cps.size true false) n r) (hn:n≤10000000) (hg:Fg groups r) :
  AR W k (.builtin "re.Pattern.fullmatch") [.top (.ref pa),.str x] objs (FA x pa r) objs:=by
 intro Z as vals s A Q E hR zn ow hv q
 cases hv using IsL.e2 with
 | _ _ h1 _ h2 =>
  cases h1 using Is.e_top
  cases h2 using Is.e_str
  refine G1 (P.ex) fun fs ca o items nn k1 ζ=>?_
  refine wpAny_call_entry Bq ⟨_,zn.keep _ _ (zn.kin _ _ k1),rfl⟩ E2 ?_ (FN _ _)
  refine (?_:wpAny _ _ (reTarget "re.Pattern.fullmatch" "fullmatch" _>>=fun t=>reAnswer t _) _ _ _)
  refine wpAny_bind (Ds P zn hx ?_)
  exact Dt zn ow h hn hg fun Z' u s' z' o' e' i'=>q _ _ _ _ z' o' e' i'
end
end Mine
end
section
set_option maxRecDepth 100000
namespace Mine
open PySem PySem.W PyProof.Rows PySem.Calls PySem.Spec
open PySem.Builtin PySem.Builtin.Re
variable [T₀:AY]
theorem H2:entryFor table "re.Match.group"=some Builtin.«re.Match.group»:=entryFor_of_tree (by kernel_rfl)
theorem IE:entryFor table "re.Match.span"=some Builtin.«re.Match.span»:=entryFor_of_tree (by kernel_rfl)
theorem IM (a b:Value):argsOk "re.Match.group" ⟨[a,b],[]⟩:=by unfold argsOk;kernel_rfl
theorem Jf (a b:Value):argsOk "re.Match.span" ⟨[a,b],[]⟩:=by unfold argsOk;kernel_rfl
noncomputable def Ar (x:Str) (b e:Nat):Str:=⟨x.cps.extract b e⟩
theorem raw_map (l:List Int):((l.map rawInt).toArray.map reRawOf)=l.toArray:=by
 simp only [List.map_toArray,List.map_map]
 congr 1
 induction l with
 | nil=>rfl
 | cons a l ih=>rw [List.map_cons,ih];rfl
section
variable {W:Wd} {Z:AK} {L:Addr} {as:List Addr} {A:Around} {E:Value→Shared→Prop} {s:Shared} {k:Nat}
theorem Gg {a sp:Addr} {x:Str} {t:Tok} {pa:Addr} {lim:Nat} {li:Int} {spans:List Int} {n:Nat} {Q:ReFound→Shared→Prop} (h1:s.heap.get? a=some (EF x t pa lim li sp)) (h2:s.heap.get? sp=some (B2 (spans.map rawInt) n))
  (q:Q {fields:=#[.str x t,.ref pa,rawInt 0,rawInt lim,rawInt li,.ref sp],spans:=spans.toArray} s):wpAny W.M A (reFound (.ref a)) Q E s:=by
 unfold reFound
 refine wpAny_bind (wpAny_fieldsOf h1 rfl ?_)
 refine wpAny_bind ?_
 unfold reRawItems
 refine (?_:wpAny _ _ (seqItems? (.ref sp)>>=_) _ _ _)
 refine wpAny_bind (wpAny_seqItems h2 rfl (wpAny_pure ?_))
 refine (?_:wpAny _ _ (pure ({fields:=_,spans:=((spans.map rawInt).toArray.map reRawOf)}:ReFound)) _ _ _)
 rw [raw_map]
 exact wpAny_pure q
theorem Cc {x:ReFound} {i:Nat} {t:Tok} {Q:Nat→Shared→Prop} (h:2*i<x.spans.size) (q:Q i s):wpAny W.M A (reGroupNumber x (.int i t)) Q E s:=by
 unfold reGroupNumber
 refine wpAny_bind (wpAny_pure ?_)
 dsimp only
 refine (?_:wpAny _ _ (asIndex (.int i t)>>=_) _ _ _)
 have hi:asIndex (.int i t)=pure (i:Int):=rfl
 rw [hi]
 refine wpAny_bind (wpAny_pure ?_)
 rw [if_neg (by
  have h1:decide ((i:Int)<0)=false:=by rw [decide_eq_false_iff_not];exact Int.not_lt.mpr (Int.natCast_nonneg _)
  have h2:decide (2*(i:Int)≥x.spans.size)=false:=by rw [decide_eq_false_iff_not];exact Int.not_le.mpr (Int.ofNat_lt.mpr h)
  rw [h1,h2];decide)]
 refine wpAny_pure ?_
 simpa using q
theorem LP {x:Str} {pa:Addr} {st hd b e:Nat} {objs:List AO} (hl:e - b≤sizeLine):AR W k (.builtin "re.Match.group") [.mtch x pa [(st:Int),hd,b,e],.int 1] objs (.str (Ar x b e)) objs:=by
 intro Z as vals s A Q E hR zn ow hv q
 cases hv using IsL.e2 with
 | _ _ h1 _ h2 =>
  cases h1 using Is.e_mtch with
  | _ _ _ _ _ _ _ z1 z2 =>
   cases h2 using Is.e_int
   have k1:=zn.keep _ _ z1
   have k2:=zn.keep _ _ z2
   refine wpAny_call_entry CO ⟨_,k1,rfl⟩ H2 ?_ (IM _ _)
   refine (?_:wpAny _ _ (do noKeywords "Match.group" _;_) _ _ _)
   refine wpAny_bind (wpAny_pure ?_)
   refine wpAny_bind (Gg k1 k2 ?_)
   refine wpAny_bind (Cc (i:=1) (by refine (?_:2*1<4);decide) ?_)
   have he:∀ (X:ReFound) (t:Tok),X.fields.getD 0 .none=.str x t→X.spans=#[(st:Int),hd,b,e]→reGroupText X 1 .none=mkStr (Ar x b e):=fun X t h1 h2=>by
    unfold reGroupText
    rw [h1,h2]
    refine (?_:(if (decide ((b:Int)<0) || decide ((e:Int)<0))=true then _ else _)=_)
    rw [if_neg (by
     have h1:decide ((b:Int)<0)=false:=by rw [decide_eq_false_iff_not];exact Int.not_lt.mpr (Int.natCast_nonneg _)
     have h2:decide ((e:Int)<0)=false:=by rw [decide_eq_false_iff_not];exact Int.not_lt.mpr (Int.natCast_nonneg _)
     rw [h1,h2];decide)]
    rfl
   rw [he _ _ rfl rfl]
   have hle:(Ar x b e).length≤sizeLine:=by
    refine (?_:(x.cps.extract b e).size≤_)
    rw [Array.size_extract]
    exact Nat.le_trans (Nat.sub_le_sub_right (Nat.min_le_left ..) _) hl
   refine wpAny_bind (wpAny_mkStr (wpAny_pure ⟨_,rfl,q _ _ _ _ zn ow .refl (.str _ hle)⟩) hle)
theorem fn_span {x:Str} {pa:Addr} {st hd:Int} {r:List Int} {objs:List AO}:AR W k (.builtin "re.Match.span") [.mtch x pa (st::hd::r),.int 0] objs (.tup [.int st,.int hd]) objs:=by
 intro Z as vals s A Q E hR zn ow hv q
 cases hv using IsL.e2 with
 | _ _ h1 _ h2 =>
  cases h1 using Is.e_mtch with
  | _ _ _ _ _ _ _ z1 z2 =>
   cases h2 using Is.e_int
   have k1:=zn.keep _ _ z1
   have k2:=zn.keep _ _ z2
   refine wpAny_call_entry C7 ⟨_,k1,rfl⟩ IE ?_ (Jf _ _)
   refine (?_:wpAny _ _ (reOneGroup "Match.span" "span" _>>=_) _ _ _)
   unfold reOneGroup
   refine wpAny_bind (wpAny_bind ?_)
   refine (?_:wpAny _ _ (selfAndSome "Match.span" "span" 0 1 _) _ _ _)
   refine wpAny_bind (wpAny_pure ?_)
   refine wpAny_bind (wpAny_pure (wpAny_pure ?_))
   dsimp only
   refine wpAny_bind (Gg k1 k2 ?_)
   refine wpAny_bind (Cc (i:=0) (by refine (?_:2*0<_+1);simp +arith only) (wpAny_pure ?_))
   refine wpAny_bind (wpAny_mkInt (wpAny_bind (wpAny_mkInt ?_)))
   refine wpAny_bind (wpAny_newTuple ?_)
   refine FW (Zn.froze (s:={s with toks:=s.toks+1+1}) (o:=B2 [.int st s.toks,.int hd (s.toks+1)] 0) (tk:=s.toks+1+1) zn ow rfl) fun z' o' e' f'=>?_
   exact wpAny_pure ⟨_,rfl,q _ _ _ _ z' o' (Evo.refl.trans e') (.tup f' (.cons (.int _ _) (.cons (.int _ _) .nil)) (by simp [sizeLine_eq]))⟩
end
theorem ms_look:typeLookup (.type "re.Match") "string"=pure (some (.builtin "re.Match.string")):=by rw [typeLookup_type,builtinLookup_eq_fast];kernel_rfl
theorem GM:typeOf (.builtin "re.Match.string")=pure (.type "member_descriptor"):=by refine (?_:builtinType _=_);rw [builtinType_eq_fast];kernel_rfl
theorem KV:entryFor table "re.Match.string"=some Builtin.«re.Match.string»:=entryFor_of_tree (by kernel_rfl)
theorem Ce:Slot "member_descriptor" "__get__" "member_descriptor.__get__" :=
 .of (owner:="member_descriptor") (n:="__get__") (by rw [typeLookup_type,builtinLookup_eq_fast];kernel_rfl) (by decide +kernel) (by decide +kernel) (by decide +kernel)
  (by first | exact .inl (by decide +kernel) | exact .inr (by decide +kernel)) (by rw [isSubtype_type];kernel_rfl)
theorem Gp:Slot "member_descriptor" "__set__" "member_descriptor.__set__" :=
 .of (owner:="member_descriptor") (n:="__set__") (by rw [typeLookup_type,builtinLookup_eq_fast];kernel_rfl) (by decide +kernel) (by decide +kernel) (by decide +kernel)
  (by first | exact .inl (by decide +kernel) | exact .inr (by decide +kernel)) (by rw [isSubtype_type];kernel_rfl)
theorem B8:Slot "re.Match" "__getattribute__" "object.__getattribute__" :=
 .of (owner:="object") (n:="__getattribute__") (by rw [typeLookup_type,builtinLookup_eq_fast];kernel_rfl) (by decide +kernel) (by decide +kernel) (by decide +kernel)
  (by first | exact .inl (by decide +kernel) | exact .inr (by decide +kernel)) (by rw [isSubtype_type];kernel_rfl)
theorem G3:entryFor table "member_descriptor.__get__"=some Builtin.«member_descriptor.__get__»:=entryFor_of_tree (by kernel_rfl)
theorem H9 (a b c:Value):argsOk "member_descriptor.__get__" ⟨[a,b,c],[]⟩:=by unfold argsOk;kernel_rfl
theorem G2:entryFor table "object.__getattribute__"=some Builtin.«object.__getattribute__»:=entryFor_of_tree (by kernel_rfl)
theorem H8 (a b:Value):argsOk "object.__getattribute__" ⟨[a,b],[]⟩:=by unfold argsOk;kernel_rfl
theorem KE:(".".intercalate ("re.Match.string".cutAt '.').dropLast)="re.Match":=by
 have e0:"re.Match.string".cutAt '.'=["re","Match","string"]:=by first | rfl | decide +kernel
 rw [e0];decide +kernel
theorem sub_ms:isSubtype (.type "re.Match") (.type (".".intercalate ("re.Match.string".cutAt '.').dropLast))=pure true:=by rw [KE,isSubtype_type];kernel_rfl
section
variable {prog:Program} {w:World} {A:Around} {E:Value→Shared→Prop} {h:Heap} {g:Array GenState} {d:Drawn} {t:Nat} {os:OsState} {a:Addr} {o:Obj} {vs:Array Value} {x:Str} {tx:Tok}
theorem ms_get {R:Result→Shared→Prop} (hx:h.get? a=some o) (hc:o.cls=.type "re.Match") (hd:o.data=.fields vs) (h0:vs[0]?=some (.str x tx)) (hq:R (.ok (.ret (.str x tx))) ⟨h,g,d,t,os⟩) :
  codeAny (model prog w) A (.call (.builtin "member_descriptor.__get__") ⟨[.builtin "re.Match.string",.ref a,.type "re.Match"],[]⟩) R ⟨h,g,d,t,os⟩:=by
 have hT:(⟨h,g,d,t,os⟩:Shared).TypeIs (.ref a) "re.Match":=⟨_,hx,hc⟩
 have hT5:(⟨h,g,d,t,os⟩:Shared).TypeIs (.builtin "re.Match.string") "member_descriptor":=GM
 have f8:=sub_ms
 refine codeAny_call_builtin Ce.plain G3 (Ce.check _ _ _ _ _ _ _ _ hT5 (H9 _ _ _) ?_)
 repeat (any_goals (first | assumption | wp_step))
 refine ⟨Code.quiet_builtin _ (by decide +kernel),codeAny_builtin KV ?_⟩
 refine (?_:wpAny _ _ (field (.ref a) 0>>=fun v=>ret v) _ _ _)
 exact wpAny_bind (wpAny_field hx hd h0 (wpAny_pure hq))
theorem ms_body {tk:Tok} {Q:Fin→Shared→Prop} (hx:h.get? a=some o) (hc:o.cls=.type "re.Match") (hd:o.data=.fields vs) (h0:vs[0]?=some (.str x tx)) (hq:Q (.done (.ret (.str x tx))) ⟨h,g,d,t,os⟩) :
  wpAny (model prog w) A (Builtin.«object.__getattribute__» ⟨[.ref a,.str "string" tk],[]⟩) Q E ⟨h,g,d,t,os⟩:=by
 have hT:(⟨h,g,d,t,os⟩:Shared).TypeIs (.ref a) "re.Match":=⟨_,hx,hc⟩
 have hT5:(⟨h,g,d,t,os⟩:Shared).TypeIs (.builtin "re.Match.string") "member_descriptor":=GM
 have f4:=ms_look
 have f5:=GM
 have f6:=Ce.lookup
 have f7:=Gp.lookup
 repeat (any_goals (first | assumption | wp_step))
 refine ms_get hx hc hd h0 ?_
 repeat (any_goals (first | assumption | wp_step))
theorem ms_call {tk:Tok} {R:Result→Shared→Prop} (hx:h.get? a=some o) (hc:o.cls=.type "re.Match") (hd:o.data=.fields vs) (h0:vs[0]?=some (.str x tx)) (hq:R (.ok (.ret (.str x tx))) ⟨h,g,d,t,os⟩) :
  codeAny (model prog w) A (.call (.builtin "object.__getattribute__") ⟨[.ref a,.str "string" tk],[]⟩) R ⟨h,g,d,t,os⟩ :=
 codeAny_call_builtin B8.plain G2 (B8.check _ _ _ _ _ _ _ _ (show (⟨h,g,d,t,os⟩:Shared).TypeIs (.ref a) "re.Match" from ⟨_,hx,hc⟩) (H8 _ _) (ms_body hx hc hd h0 hq))
theorem ms_by {tk:Tok} {fill expr:Bool} {Q:Value→Shared→Prop} (hx:h.get? a=some o) (hc:o.cls=.type "re.Match") (hd:o.data=.fields vs) (h0:vs[0]?=some (.str x tx))
  (hq:Q (.str x tx) ⟨h,g,d,t,os⟩):wpAny (model prog w) A (getAttrBy (.ref a) (.str "string" tk) fill expr) Q E ⟨h,g,d,t,os⟩:=by
 have hT:(⟨h,g,d,t,os⟩:Shared).TypeIs (.ref a) "re.Match":=⟨_,hx,hc⟩
 have f2:=B8.lookup
 have f3:=B8.bind (.ref a)
 have hx0:(expr&&onTheHeap (Value.builtin "object.__getattribute__"))=false:=by induction expr using Bool.casesOn <;> rfl
 repeat (any_goals (first | assumption | wp_step))
 refine ms_call hx hc hd h0 ?_
 repeat (any_goals (first | assumption | wp_step))
theorem ms_attr {expr:Bool} {Q:Value→Shared→Prop} (hx:h.get? a=some o) (hc:o.cls=.type "re.Match") (hd:o.data=.fields vs) (h0:vs[0]?=some (.str x tx))
  (hq:Q (.str x tx) ⟨h,g,d,t+1,os⟩):wpAny (model prog w) A (getAttr (.ref a) "string" expr) Q E ⟨h,g,d,t,os⟩:=by
 unfold getAttr
 repeat (any_goals (first | assumption | with_reducible apply ms_by hx hc hd h0 | wp_step))
end
section
variable {W:Wd} {Z:AK} {L:Addr} {as:List Addr} {st:ST} {A:Around} {E:Value→Shared→Prop} {s:Shared} {k:Nat} {sc:Scope} {env:Env}
theorem AA.mstring {v:Expr} {pos:Pos} {st₁:ST} {x:Str} {pa:Addr} {sp:List Int} (hs:Am v=true) (h1:AA W k sc v st (.mtch x pa sp) st₁) (hx:x.length≤sizeLine):AA W k sc (.Attribute v "string" pos) st (.str x) st₁:=by
 intro Z L as s A Q E env hE hR hS q
 refine Attribute_any_ (h1 _ _ _ _ _ _ _ _ hE hR hS fun Z₁ as₁ u s₁ S₁ e₁ hu=>?_) (EK hs)
 cases hu using Is.e_mtch with
 | _ _ _ _ _ _ _ z1 z2 =>
  obtain ⟨hp,g,d,tk,os⟩:=s₁
  exact ms_attr (S₁.zn.keep _ _ z1) rfl rfl rfl (q _ _ _ _ (S₁.toks _) (e₁.trans .refl) (.str _ hx))
end
end Mine
end
section
set_option maxRecDepth 100000
namespace Mine
open PySem PySem.W PyProof.Rows PySem.Calls PySem.Spec
open PySem.Builtin PySem.Builtin.Re
open Rx (Ends)
variable [T₀:AY]
class inductive Az (code:Array Nat) (groups:Nat) (x:Str) (g:List Int→Str) (G:List Int→Prop):Nat→Nat→List Str→Nat→Prop where
 | stop {d n c:Nat}:Ends (Sre.forSearch code x.cps groups d x.cps.size false) c none→c≤10000000→Az code groups x g G d n (if d<x.cps.size then [Ar x d x.cps.size] else []) n
 | go {d n c st hd:Nat} {mk:Array (Option Nat)} {lm li:Int} {ps:List Str} {n':Nat}:Ends (Sre.forSearch code x.cps groups d x.cps.size false) c (some (st,hd,mk,lm,li))→c≤10000000→Fg groups (some (st,hd,mk,lm,li))→G (B7 st hd mk)→st<hd →
   Az code groups x g G hd (n+1) ps n'→Az code groups x g G d n ((if d<st then [Ar x d st] else [])++(g (B7 st hd mk)::ps)) n'
structure Pcs (Z:AK) (as:List Addr) (D:Addr) (ys:List Str) (s:Shared):Prop where
 at_:∃ vs n,s.heap.get? D=some (Af vs n)∧StrsAre vs ys
 as:D∉as
 tab:D∉tabs
 zone:∀ o,¬ Z D o
section
variable {W:Wd} {Z:AK} {L:Addr} {as:List Addr} {A:Around} {E:Value→Shared→Prop} {s:Shared} {k:Nat} {D:Addr} {ys:List Str}
theorem Pcs.evo {Z':AK} {s':Shared} (p:Pcs Z as D ys s) (e:Evo [] Z Z' as as s s'):Pcs Z' as D ys s':=by
 refine Bl p.at_ fun vs n h hs=>?_
 refine ⟨⟨vs,n,e.keep _ _ h (by simp) p.as p.tab,hs⟩,p.as,p.tab,fun o z=>?_⟩
 rcases e.znew _ _ z with z | z
 ·exact p.zone o z
 ·exact absurd (Heap.lt_size h) (Nat.not_lt.mpr z)
theorem StrsAre.app {vs:List Value} {ys:List Str} {y:Str} {t:Tok} (h:StrsAre vs ys):StrsAre (vs++[.str y t]) (ys++[y]):=by
 induction h with
 | nil=>exact .cons y t .nil
 | cons z u _ ih=>exact .cons z u ih
theorem Jb {objs:List AO} {h':Heap} {tk:Nat} (zn:Zn W Z s.heap) (ow:Ow Z as objs s.heap) (p:D∉as∧D∉tabs∧∀ o,¬ Z D o) (hs:Heap.SameBut D s.heap h'):Zn W Z h'∧Ow Z as objs h':=by
 refine ⟨⟨zn.kin,fun b o z=>(hs.2 b fun e=>p.2.2 o (e▸z)).trans (zn.keep b o z),zn.low,fun t ht=>?_⟩,⟨ow.len,fun i a x e1 e2=>?_,ow.nodup,ow.out⟩⟩
 ·refine AG (zn.tab t ht) fun vs e tv=>?_
  exact ⟨vs,(hs.2 t fun z=>p.2.1 (z▸ht)).trans e,tv⟩
 ·refine AG (ow.obj i a x e1 e2) fun o h1 h2=>?_
  exact ⟨o,(hs.2 a fun z=>p.1 (z▸List.mem_of_getElem? e1)).trans h1,h2⟩
theorem Pcs.push {objs:List AO} {y:Str} {t:Tok} {Q:Unit→Shared→Prop} (p:Pcs Z as D ys s) (zn:Zn W Z s.heap) (ow:Ow Z as objs s.heap) (hl:ys.length≤1000000)
  (q:∀ s',Zn W Z s'.heap→Ow Z as objs s'.heap→Evo [D] Z Z as as s s'→Pcs Z as D (ys++[y]) s'→Q () s'):wpAny W.M A (updateSeq D (·.push (.str y t))) Q E s:=by
 refine Bl p.at_ fun vs n h hs=>?_
 have hlen:vs.length=ys.length:=StrsAre.length hs
 refine wpAny_updateSeq h rfl ?_ (by rw [List.size_toArray,sizeLine_eq];exact Nat.le_trans (Nat.le_of_eq hlen) (lb hl rfl)) (by rw [Array.size_push,List.size_toArray,sizeLine_eq];exact (lne hlen (lin hl (by simp +arith only))))
 have sb:Heap.SameBut D s.heap (s.heap.update D (Obj.mapSeq (·.push (.str y t)))):=Heap.SameBut.update ..
 obtain ⟨z',o'⟩:=Jb (tk:=s.toks) zn ow ⟨p.as,p.tab,p.zone⟩ sb
 refine q _ z' o' ⟨fun ζ ζ h=>h,fun ζ ζ h=>.inl h,⟨[],by simp,fun ζ h=>(nomatch h)⟩,fun b o h h1 h2 ζ=>(sb.2 b (by simpa using h1)).trans h,Nat.le_of_eq sb.1.symm,AY.grr _,rfl,rfl⟩ ⟨⟨vs++[.str y t],n+1,?_,StrsAre.app hs⟩,p.as,p.tab,p.zone⟩
 refine (?_:(s.heap.update D _).get? D=_)
 rw [Heap.get?_update_self _ h rfl]
 simp [Obj.mapSeq]
end
section
variable {W:Wd} {Z:AK} {L:Addr} {as:List Addr} {A:Around} {E:Value→Shared→Prop} {s:Shared} {k:Nat} {D:Addr} {ys:List Str}
theorem Ee {pa:Addr} {code:Array Nat} {groups:Nat} {x:Str} {t:Tok} {Q:ReTarget→Shared→Prop} (P:Ca W pa code groups) (zn:Zn W Z s.heap)
  (q:Q {pattern:=.ref pa,string:=.str x t,code,text:=x.cps,kind:=0,groups,pos:=0,lim:=x.cps.size} s):wpAny W.M A (reWholeTarget (.ref pa) (.str x t)) Q E s:=by
 refine ex57 (P.ex) fun fs ca o items n h1 h2 h3 h4 h5 h6 h7=>?_
 unfold reWholeTarget
 refine wpAny_bind (wpAny_fieldsOf (zn.keep _ _ (zn.kin _ _ h1)) rfl ?_)
 refine (?_:wpAny _ _ (reTextOf (.str x t)>>=_) _ _ _)
 have ht:reTextOf (.str x t)=pure (x.cps,0):=rfl
 rw [ht]
 refine wpAny_bind (wpAny_pure ?_)
 dsimp only
 rw [h2]
 refine wpAny_bind (wpAny_pure ?_)
 rw [h4]
 refine wpAny_bind ?_
 unfold reRawItems
 refine wpAny_bind (wpAny_seqItems (zn.keep _ _ (zn.kin _ _ h5)) h6 (wpAny_pure ?_))
 refine wpAny_pure ?_
 refine (?_:Q {pattern:=.ref pa,string:=.str x t,code:=((items.map reRawOf).map (·.toNat)),text:=x.cps,kind:=0,groups:=reRawNat (fs.getD 2 .none),pos:=0,lim:=x.cps.size} s)
 rw [h7,h3]
 exact q
noncomputable def EP (W:Wd) (k:Nat) (x:Str) (pa:Addr) (g:List Int→Str) (G:List Int→Prop) (repl:Value) (as:List Addr) (objs:List AO):Prop :=
 ∀ (Z:AK) (s:Shared) (A:Around) (Q E:Value→Shared→Prop) (mv:Value) (sp:List Int),Ae A k→Zn W Z s.heap→Ow Z as objs s.heap→Is Z as (.mtch x pa sp) mv→G sp →
  (∀ (Z':AK) (u:Value) (s':Shared),Zn W Z' s'.heap→Ow Z' as objs s'.heap→Evo [] Z Z' as as s s'→Is Z' as (.str (g sp)) u→Q u s')→wpAny W.M A (call repl [mv]) Q E s
noncomputable def subV (wc:Bool) (r:Str) (n:Nat):AV:=if wc then .tup [.str r,.int n] else .str r
theorem IF:entryFor table "re.Pattern.sub.loop"=some Builtin.«re.Pattern.sub.loop»:=entryFor_of_tree (by kernel_rfl)
theorem Hr:plainId "re.Pattern.sub.loop"=true:=by decide +kernel
theorem Gq {x:Str} {t:Tok} {a b:Nat} {Q:Value→Shared→Prop} (hx:x.length≤100000) (q:∀ u tk,Q (.str (Ar x a b) u) {s with toks:=tk}):wpAny W.M A (reSlice x.cps 0 a b) Q E s:=by
 refine (?_:wpAny _ _ (mkStr ⟨x.cps.extract a b⟩) _ _ _)
 refine wpAny_mkStr (q _ _) ?_
 refine (?_:(x.cps.extract a b).size≤_)
 rw [Array.size_extract,sizeLine_eq]
 have:x.cps.size≤100000:=hx
 exact Nat.le_trans (Nat.sub_le _ _) (Nat.le_trans (Nat.min_le_right _ _) (lb this rfl))
theorem Kd {l:List Str} (h:(l.map (·.length)).sum≤100000):(Txt.join "" l).length≤100000:=by
 have:(Txt.join "" l).length=(l.map (·.length)).sum+(l.length - 1)*0:=size_glued "" l
 exact Nat.le_trans (Nat.le_of_eq this) h
theorem JC {α:Type} {objs:List AO} {ys:List Str} {K:Value→Sem α} {Q:α→Shared→Prop} {j:Tok} (zn:Zn W Z s.heap) (ow:Ow Z as objs s.heap) (p:Pcs Z as D ys s) (hok:(ys.map (·.length)).sum≤100000)
  (q:∀ (u:Value) (tk:Nat),Is Z as (.str (Txt.join "" ys)) u→wpAny W.M A (K u) Q E {s with toks:=tk}) :
  wpAny W.M A (do
   let text ← if ((← seqItems? (.ref D)).getD #[]).isEmpty then pure (.str "" j) else call (.builtin "str.join") [.str "" j,.ref D]
   K text) Q E s:=by
 refine Bl p.at_ fun vs m h hs=>?_
 refine wpAny_bind (wpAny_seqItems h rfl ?_)
 refine (?_:wpAny _ _ (if vs.toArray.isEmpty=true then (pure (.str "" j)>>=K) else (call (.builtin "str.join") [.str "" j,.ref D]>>=K)) _ _ _)
 induction vs using List.casesOn with
 | nil =>
  cases hs
  have e:((#[]:Array Value).isEmpty=true)=True:=by simp
  rw [if_pos (show (([]:List Value).toArray).isEmpty=true from rfl)]
  exact wpAny_bind (wpAny_pure (q _ s.toks (.str _ (by decide))))
 | cons v vs =>
  rw [if_neg (by simp)]
  refine wpAny_bind (join_list (BI h) (by simpa using hs) (by refine (?_:_+_*0≤_);exact lb (by assumption) rfl) fun t' tk=>q _ _ (.str _ ?_))
  have:=Kd hok
  rw [sizeLine_eq];exact lb (by assumption) rfl
noncomputable def tgt (pa:Addr) (x:Str) (t:Tok) (code:Array Nat) (groups:Nat):ReTarget:={pattern:=.ref pa,string:=.str x t,code,text:=x.cps,kind:=0,groups,pos:=0,lim:=x.cps.size}
noncomputable def lpA (pa:Addr) (x:Str) (t:Tok) (repl:Value) (way n:Int) (d:Nat) (b:Bool) (D:Addr) (wc:Bool):Args:=⟨[.ref pa,.str x t,repl,rawInt way,rawInt 0,rawInt n,rawInt d,rawInt d,.bool b,.ref D,.bool wc],[]⟩
noncomputable def finP (x:Str) (D:Addr) (wc:Bool) (n:Nat):Sem Fin:=do
 let joiner ← reSlice x.cps 0 0 0
 let text ← if ((← seqItems? (.ref D)).getD #[]).isEmpty then pure joiner else call (.builtin "str.join") [joiner,.ref D]
 if wc then ret (← holding [text] do newTuple [text,← mkInt n]) else ret text
noncomputable def pushP (pa:Addr) (x:Str) (t:Tok) (repl:Value) (way n:Int) (hd:Nat) (b:Bool) (D:Addr) (wc:Bool) (u:Value):Sem Fin:=do
 if u != .none then updateSeq D (·.push u)
 again (.builtin "re.Pattern.sub.loop" (lpA pa x t repl way n hd b D wc))
noncomputable def Kh (pa:Addr) (x:Str) (t:Tok) (groups:Nat) (repl:Value) (way n:Int) (D:Addr) (wc:Bool) (m:Sre.M):Sem Fin:=do
 let item ← if way==0 then pure repl else do
   let found ← reNewMatch (.ref pa) (.str x t) groups 0 x.cps.size m
   holding [found] (if way==1 then call repl [found] else do reExpand repl (← reFound found))
 pushP pa x t repl way n m.handed (m.handed==m.start) D wc item
noncomputable def Gk (pa:Addr) (x:Str) (t:Tok) (groups:Nat) (repl:Value) (way:Int) (D:Addr) (wc:Bool) (d n:Nat) (r:Option Sre.M):Sem Fin:=match r with
 | some m=>do
  if d<m.start then updateSeq D (·.push (← reSlice x.cps 0 d m.start))
  Kh pa x t groups repl way ((n:Int)+1) D wc m
 | none=>do
  if d<x.cps.size then updateSeq D (·.push (← reSlice x.cps 0 d x.cps.size))
  finP x D wc n
noncomputable def Pst (M:Model) (A:Around) (R:Result→Shared→Prop) (fin:Fin) (s':Shared):Prop:=match fin with
 | .done f=>R (.ok f) s'
 | .again c'=>c'.quiet=true∧codeAny M A c' R s'
noncomputable def Aft (W:Wd) (Z:AK) (as:List Addr) (objs:List AO) (D:Addr) (s:Shared) (R:Result→Shared→Prop) (r:AV):Prop :=
 ∀ (Z':AK) (u:Value) (s':Shared),Zn W Z' s'.heap→Ow Z' as objs s'.heap→Evo [D] Z Z' as as s s'→Is Z' as r u→R (.ok (.ret u)) s'
theorem Aft.evo {Z':AK} {objs:List AO} {s':Shared} {R:Result→Shared→Prop} {r:AV} (h:Aft W Z as objs D s R r) (e:Evo [D] Z Z' as as s s'):Aft W Z' as objs D s' R r:=fun ζ ζ ζ a b c d=>h _ _ _ a b (e.trans c) d
section
variable {pa:Addr} {code:Array Nat} {groups:Nat} {x:Str} {t:Tok} {objs:List AO} {wc:Bool} {repl:Value} {way:Int} {R:Result→Shared→Prop}
theorem HF {d n:Nat} (P:Ca W pa code groups) (hlit:way=0→reLiteralCannotBeTurned repl=pure ()) (zn:Zn W Z s.heap)
  (h:wpAny W.M A.in1 (reNextFound (tgt pa x t code groups) d false>>=Gk pa x t groups repl way D wc d n) (Pst W.M A R) (fun e s'=>R (.error e) s') s) :
  codeAny W.M A (.builtin "re.Pattern.sub.loop" (lpA pa x t repl way n d false D wc)) R s:=by
 refine codeAny_builtin IF ?_
 rw [Around.under_plainId Hr]
 refine (?_:wpAny _ _ (reWholeTarget (.ref pa) (.str x t)>>=_) _ _ _)
 refine wpAny_bind (Ee P zn ?_)
 dsimp only
 by_cases hw:(way==0)=true
 ·rw [if_pos hw,hlit (eq_of_beq hw)]
  exact wpAny_bind (wpAny_pure h)
 ·rw [if_neg hw]
  exact h
theorem JS {Q:Value→Shared→Prop} (q:∀ u tk,Q (.str "" u) {s with toks:=tk}):wpAny W.M A (reSlice x.cps 0 0 0) Q E s:=by
 refine (?_:wpAny _ _ (mkStr ⟨x.cps.extract 0 0⟩) _ _ _)
 rw [show (⟨x.cps.extract 0 0⟩:Str)="" from congrArg Str.mk (show x.cps.extract 0 0=#[] by simp)]
 exact wpAny_mkStr (q _ _) (by decide)
theorem K1 {n:Nat} (zn:Zn W Z s.heap) (ow:Ow Z as objs s.heap) (p:Pcs Z as D ys s) (hok:(ys.map (·.length)).sum≤100000) (q:Aft W Z as objs D s R (subV wc (Txt.join "" ys) n)) :
  wpAny W.M A.in1 (finP x D wc n) (Pst W.M A R) (fun e s'=>R (.error e) s') s:=by
 refine wpAny_bind (JS fun u tk=>JC (s:={s with toks:=tk}) zn ow (p.evo (s':={s with toks:=tk}) .refl) hok fun v tk' hv=>?_)
 induction wc using Bool.casesOn with
 | false=>exact wpAny_pure (q _ _ _ zn ow .refl hv)
 | true =>
  refine wpAny_bind (wpAny_holding (wpAny_bind (wpAny_mkInt (wpAny_newTuple ?_))))
  refine FW (Zn.froze (s:={s with toks:=tk'+1}) (o:=B2 [v,.int n tk'] 0) (tk:=tk'+1) zn ow rfl) fun z' o' e' f'=>?_
  refine wpAny_pure (q _ _ _ z' o' ((Evo.refl.trans e').weak (by simp)) (.tup f' (.cons ?_ (.cons (.int _ _) .nil)) (Nat.le_of_ble_eq_true rfl)))
  cases hv using Is.e_str with | _ u' hl'=>exact .str u' hl'
theorem I9 {n:Int} {hd:Nat} {g:Str} {u:Value} (zn:Zn W Z s.heap) (ow:Ow Z as objs s.heap) (p:Pcs Z as D ys s) (hu:Is Z as (.str g) u) (hl:ys.length≤1000000)
  (ih:∀ s',Zn W Z s'.heap→Ow Z as objs s'.heap→Evo [D] Z Z as as s s'→Pcs Z as D (ys++[g]) s'→codeAny W.M A (.builtin "re.Pattern.sub.loop" (lpA pa x t repl way n hd false D wc)) R s') :
  wpAny W.M A.in1 (pushP pa x t repl way n hd false D wc u) (Pst W.M A R) (fun e s'=>R (.error e) s') s:=by
 cases hu using Is.e_str with
 | _ tu _=>exact wpAny_bind (p.push zn ow hl fun s' z o e p'=>wpAny_pure ⟨Code.quiet_builtin _ (by decide +kernel),ih s' z o e p'⟩)
theorem Ia {n:Int} {g:List Int→Str} {G:List Int→Prop} {m:Sre.M} {st hd:Nat} {mk:Array (Option Nat)} {lm li:Int} (hway:(way=0∧∃ t0,repl=.str "" t0∧∀ sp,g sp="")∨(way=1∧EP W k x pa g G repl as objs))
  (h1:m.start=st) (h2:m.handed=hd) (h3:m.marks=mk) (h4:m.lastmark=lm) (h5:m.lastindex=li) (hg:Fg groups (some (st,hd,mk,lm,li))) (hG:G (B7 st hd mk)) (hlt:st<hd) (hR:Ae A (k+1))
  (zn:Zn W Z s.heap) (ow:Ow Z as objs s.heap) (p:Pcs Z as D ys s) (hl:ys.length≤1000000)
  (ih:∀ Z' s',Zn W Z' s'.heap→Ow Z' as objs s'.heap→Evo [D] Z Z' as as s s'→Pcs Z' as D (ys++[g (B7 st hd mk)]) s'→codeAny W.M A (.builtin "re.Pattern.sub.loop" (lpA pa x t repl way n hd false D wc)) R s') :
  wpAny W.M A.in1 (Kh pa x t groups repl way n D wc m) (Pst W.M A R) (fun e s'=>R (.error e) s') s:=by
 unfold Kh
 rw [h2,h1,show (hd==st)=false from beq_false_of_ne (Nat.ne_of_gt hlt)]
 rcases hway with ⟨rfl,t0,rfl,hg0⟩ | ⟨rfl,hcall⟩
 ·exact wpAny_bind (wpAny_pure (I9 zn ow p (by rw [hg0];exact .str _ (by decide)) hl (ih Z)))
 ·refine wpAny_bind (EQ h1 h2 h3 h5 (hg.imp id fun q=>⟨q.1,h4.trans q.2.1,q.2.2⟩) ?_)
  refine oEAAA (EW (x:=x) (t:=t) (pa:=pa) (lim:=x.cps.size) (li:=li) (spans:=B7 st hd mk) zn ow) fun Z' z' o' e' i'=>?_
  exact wpAny_bind (wpAny_holding (hcall _ _ _ _ _ _ _ hR.in1 z' o' i' hG fun Z'' u s'' z'' o'' e'' hu=>I9 z'' o'' (p.evo (e'.trans e'')) hu hl fun s₃ z₃ o₃ e₃ p₃=>ih _ _ z₃ o₃ (((e'.trans e'').weak (by simp)).trans e₃) p₃))
theorem app1 {α:Type} (a b c:List α) (x:α):a++(b++(x::c))=((a++b)++[x])++c:=by simp
theorem Cm {α:Type} {a b:List α} (h:(a++b).length≤1000000):a.length≤1000000:=by rw [List.length_append] at h;exact Nat.le_trans (Nat.le_add_right ..) h
theorem Jp {g:List Int→Str} {G:List Int→Prop} (P:Ca W pa code groups) (hx:x.length≤100000)
  (hway:(way=0∧∃ t0,repl=.str "" t0∧∀ sp,g sp="")∨(way=1∧EP W k x pa g G repl as objs))
  {d n:Nat} {ps:List Str} {n':Nat} (h:Az code groups x g G d n ps n') :
  ∀ (Z:AK) (s:Shared) (A:Around) (R:Result→Shared→Prop) (ys:List Str),Ae A (k+1)→Zn W Z s.heap→Ow Z as objs s.heap→Pcs Z as D ys s→((ys++ps).map (·.length)).sum≤100000→(ys++ps).length≤1000000 →
   Aft W Z as objs D s R (subV wc (Txt.join "" (ys++ps)) n') →
   codeAny W.M A (.builtin "re.Pattern.sub.loop" (lpA pa x t repl way n d false D wc)) R s:=by
 have hlit:way=0→reLiteralCannotBeTurned repl=pure ():=fun e=>hway.elim (fun q=>q.2.elim fun t0 q=>by rw [q.1];rfl) fun q=>absurd (q.1.symm.trans e) (by decide)
 induction h with
 | @stop d n c he hc =>
  intro Z s A R ys hR zn ow p hok hln q
  refine HF P hlit zn (wpAny_bind (Hd he hc ?_))
  refine (?_:wpAny W.M A.in1 (Gk pa x t groups repl way D wc d n none) (Pst W.M A R) _ s)
  unfold Gk
  dsimp only
  by_cases hd:d<x.cps.size
  ·rw [if_pos hd] at hok q hln
   rw [if_pos hd]
   refine wpAny_bind (Gq (t:=t) hx fun u tk=>wpAny_bind ?_)
   exact (p.evo (s':={s with toks:=tk}) .refl).push (s:={s with toks:=tk}) zn ow (Cm hln) fun s' z' o' e' p'=>K1 z' o' p' hok (q.evo (Evo.refl.trans e'))
  ·rw [if_neg hd] at hok q hln
   rw [if_neg hd]
   rw [List.append_nil] at hok q hln
   exact K1 zn ow p hok q
 | @go d n c st hd mk lm li ps n' he hc hg hG hlt _ ih =>
  intro Z s A R ys hR zn ow p hok hln q
  refine HF P hlit zn (wpAny_bind (Hd he hc ?_))
  intro m h1 h2 h3 h4 h5
  refine (?_:wpAny W.M A.in1 (Gk pa x t groups repl way D wc d n (some m)) (Pst W.M A R) _ s)
  unfold Gk
  dsimp only
  rw [app1] at hok hln q
  rw [h1]
  by_cases hd':d<st
  ·rw [if_pos hd'] at hok q hln
   rw [if_pos hd']
   refine wpAny_bind (Gq (t:=t) hx fun u tk=>wpAny_bind ?_)
   exact (p.evo (s':={s with toks:=tk}) .refl).push (s:={s with toks:=tk}) zn ow (Cm (Cm (Cm hln))) fun s' z' o' e' p' =>
    Ia hway h1 h2 h3 h4 h5 hg hG hlt hR z' o' p' (Cm (Cm hln)) fun Z₂ s₂ z₂ o₂ e₂ p₂=>ih Z₂ s₂ A R _ hR z₂ o₂ p₂ hok hln (q.evo ((Evo.refl.trans e').trans e₂))
  ·rw [if_neg hd',List.append_nil] at hok q hln
   rw [if_neg hd']
   exact Ia hway h1 h2 h3 h4 h5 hg hG hlt hR zn ow p (Cm (Cm hln)) fun Z₂ s₂ z₂ o₂ e₂ p₂=>ih Z₂ s₂ A R _ hR z₂ o₂ p₂ hok hln (q.evo e₂)
end
end
theorem J5:entryFor table "re.Pattern.sub"=some Builtin.«re.Pattern.sub»:=entryFor_of_tree (by kernel_rfl)
theorem ID:entryFor table "re.Pattern.subn"=some Builtin.«re.Pattern.subn»:=entryFor_of_tree (by kernel_rfl)
theorem ME (a b c:Value):argsOk "re.Pattern.sub" ⟨[a,b,c],[]⟩:=by unfold argsOk;kernel_rfl
theorem Je (a b c:Value):argsOk "re.Pattern.subn" ⟨[a,b,c],[]⟩:=by unfold argsOk;kernel_rfl
theorem G0:typeLookup (.type "function") "__call__"=pure (some (.builtin "function.__call__")):=by rw [typeLookup_type,builtinLookup_eq_fast];kernel_rfl
theorem FU:typeLookup (.type "str") "__call__"=pure none:=by rw [typeLookup_type,builtinLookup_eq_fast];kernel_rfl
theorem Hi:isSubtype (.type "str") (.type "bytearray")=pure false:=by rw [isSubtype_type];kernel_rfl
section
variable {W:Wd} {Z:AK} {L:Addr} {as:List Addr} {A:Around} {E:Value→Shared→Prop} {s:Shared} {k:Nat} {D:Addr} {ys:List Str}
theorem Er {pa:Addr} {code:Array Nat} {groups:Nat} {x:Str} {t:Tok} {g:List Int→Str} {G:List Int→Prop} {objs:List AO} {wc:Bool} {repl:Value} {way:Int} {ps:List Str} {n':Nat} {R:Result→Shared→Prop} (P:Ca W pa code groups) (hx:x.length≤100000)
  (hway:(way=0∧∃ t0,repl=.str "" t0∧∀ sp,g sp="")∨(way=1∧EP W k x pa g G repl as objs))
  (h:Az code groups x g G 0 0 ps n') (hR:Ae A (k+1)) (zn:Zn W Z s.heap) (ow:Ow Z as objs s.heap) (hok:(ps.map (·.length)).sum≤100000) (hln:ps.length≤1000000)
  (q:∀ (Z':AK) (u:Value) (s':Shared),Zn W Z' s'.heap→Ow Z' as objs s'.heap→Evo [] Z Z' as as s s'→Is Z' as (subV wc (Txt.join "" ps) n') u→R (.ok (.ret u)) s') :
  wpAny W.M A.in1 (do again (.builtin "re.Pattern.sub.loop" ⟨[.ref pa,.str x t,repl,rawInt way,rawInt 0,rawInt 0,rawInt 0,rawInt 0,.bool false,← newList [],.bool wc],[]⟩))
   (fun fin s'=>match fin with | .done f=>R (.ok f) s' | .again c'=>c'.quiet=true∧codeAny W.M A c' R s') (fun e s'=>R (.error e) s') s:=by
 refine wpAny_bind (wpAny_newObj_type (hd:=by size_fits) (wpAny_pure ⟨Code.quiet_builtin _ (by decide +kernel),?_⟩))
 have gr:A6 s.heap (s.heap.push (Af [] 0)):=A6.refl.push _
 have hnew:∀ (b:Addr) (o:Obj),s.heap.get? b=some o→b<s.heap.objs.size:=fun b o e=>Heap.lt_size e
 refine Jp (D:=s.heap.objs.size) P hx hway h Z {s with heap:=s.heap.push (Af [] 0)} A R [] hR (zn.grow gr) (ow.grow gr) ⟨⟨[],0,Heap.get?_push_size _ rfl,.nil⟩,fun z=>?_,fun z=>?_,fun o z=>?_⟩ (by simpa using hok) (by simpa using hln) fun Z' u s' z' o' e' hu=>q _ _ _ z' o' ?_ (by simpa using hu)
 ·refine oEP (List.getElem_of_mem z) fun i hi e=>?_
  have hi':i<objs.length:=by rw [← ow.len];exact hi
  refine AG (ow.obj i _ objs[i] (List.getElem?_eq_getElem hi) (List.getElem?_eq_getElem hi')) fun o h1 ζ=>?_
  rw [e] at h1
  exact absurd (Heap.lt_size h1) (Nat.lt_irrefl _)
 ·refine AG (zn.tab _ z) fun vs e tv=>?_
  exact absurd (Heap.lt_size e) (Nat.lt_irrefl _)
 ·exact absurd (Heap.lt_size (zn.keep _ _ z)) (Nat.lt_irrefl _)
 ·have e0:Evo [] Z Z as as s {s with heap:=s.heap.push (Af [] 0)}:=⟨fun ζ ζ h=>h,fun ζ ζ h=>.inl h,⟨[],by simp,fun ζ h=>(nomatch h)⟩,fun b o h ζ ζ ζ=>gr.1 b o h,gr.2,AY.grr _,rfl,rfl⟩
  exact e0.shrink e' fun y hy=>by rw [List.mem_singleton.mp hy];exact .inr (Nat.le_refl _)
set_option tactic.hygienic true in
theorem fn_sub {pa:Addr} {code:Array Nat} {groups:Nat} {x:Str} {g:List Int→Str} {G:List Int→Prop} {objs:List AO} {i:Nat} {params:Arguments} {body:Expr} {scope:Scope} {qual:Str} {ps:List Str} {n':Nat} (P:Ca W pa code groups) (hx:x.length≤100000) (hi:objs[i]?=some (.fn params body scope qual))
  (hcall:∀ (as:List Addr) (fa:Addr),as[i]?=some fa→EP W k x pa g G (.ref fa) as objs) (h:Az code groups x g G 0 0 ps n') (hok:(ps.map (·.length)).sum≤100000) (hln:ps.length≤1000000) :
  AR W (k+1) (.builtin "re.Pattern.sub") [.top (.ref pa),.own i,.str x] objs (.str (Txt.join "" ps)) objs:=by
 intro Z as vals s A Q E hR zn ow hv q
 cases hv using IsL.e3 with
 | _ _ h1 _ h2 _ h3 =>
  cases h1 using Is.e_top
  cases h2 using Is.e_own with
  | _ fa ha =>
   cases h3 using Is.e_str
   rename_i tx hxl
   refine G1 (P.ex) fun fs ca oo items nn k1 ζ=>?_
   refine AG (ow.obj _ _ _ ha hi) fun of hf hio=>?_
   cases hio
   have hT:s.TypeIs (.ref fa) "function":=⟨_,hf,rfl⟩
   have hTp:s.TypeIs (.ref pa) "re.Pattern":=⟨_,zn.keep _ _ (zn.kin _ _ k1),rfl⟩
   refine wpAny_call (codeAny_call_builtin CU.plain J5 (CU.check _ _ _ _ _ _ _ _ hTp (ME _ _ _) ?_))
   refine (?_:wpAny _ _ (reSubstitute "re.Pattern.sub" "sub" false _) _ _ _)
   unfold reSubstitute
   have hn:∀ a b,reNamed "re.Pattern.sub" "sub" ["repl","string","count"] 2 [a,b] []=pure [some a,some b,none]:=fun a b=>rfl
   dsimp only
   rw [hn]
   refine wpAny_bind (wpAny_pure ?_)
   dsimp only
   refine wpAny_bind (wpAny_pure ?_)
   refine wpAny_bind (wpAny_specialOf hT G0 ?_)
   refine wpAny_bind (wpAny_pure ?_)
   refine wpAny_bind (wpAny_pure ?_)
   dsimp only
   refine wpAny_bind (wpAny_holding (Ee P zn ?_))
   refine (?_:wpAny _ _ (reNotHeld "re.Pattern.sub" (.str x tx)>>=_) _ _ _)
   have hnh:∀ {A:Around} {E:Value→Shared→Prop} {Q:Unit→Shared→Prop},Q () s→wpAny W.M A (reNotHeld "re.Pattern.sub" (.str x tx)) Q E s:=by
    intro A E Q q
    unfold reNotHeld
    refine wpAny_bind (wpAny_isInstance (typeIs_str _ _ _) Hi ?_)
    exact wpAny_pure q
   refine wpAny_bind (hnh ?_)
   exact Er (wc:=false) (way:=1) P hx (.inr ⟨rfl,hcall as fa ha⟩) h hR zn ow hok hln fun Z' u s' z' o' e' hu=>q _ _ _ _ z' o' e' hu
set_option tactic.hygienic true in
theorem fn_subn {pa:Addr} {code:Array Nat} {groups:Nat} {x:Str} {objs:List AO} {ps:List Str} {n':Nat} (P:Ca W pa code groups) (hx:x.length≤100000) (h:Az code groups x (fun ζ=>"") (fun ζ=>True) 0 0 ps n') (hok:(ps.map (·.length)).sum≤100000) (hln:ps.length≤1000000) :
  AR W (k+1) (.builtin "re.Pattern.subn") [.top (.ref pa),.str "",.str x] objs (.tup [.str (Txt.join "" ps),.int n']) objs:=by
 intro Z as vals s A Q E hR zn ow hv q
 cases hv using IsL.e3 with
 | _ _ h1 _ h2 _ h3 =>
  cases h1 using Is.e_top
  cases h2 using Is.e_str
  cases h3 using Is.e_str
  rename_i t0 _ tx _
  refine G1 (P.ex) fun fs ca oo items nn k1 ζ=>?_
  have hTp:s.TypeIs (.ref pa) "re.Pattern":=⟨_,zn.keep _ _ (zn.kin _ _ k1),rfl⟩
  refine wpAny_call (codeAny_call_builtin CI.plain ID (CI.check _ _ _ _ _ _ _ _ hTp (Je _ _ _) ?_))
  refine (?_:wpAny _ _ (reSubstitute "re.Pattern.subn" "subn" true _) _ _ _)
  unfold reSubstitute
  have hn:∀ a b,reNamed "re.Pattern.subn" "subn" ["repl","string","count"] 2 [a,b] []=pure [some a,some b,none]:=fun a b=>rfl
  dsimp only
  rw [hn]
  refine wpAny_bind (wpAny_pure ?_)
  dsimp only
  refine wpAny_bind (wpAny_pure ?_)
  refine wpAny_bind (wpAny_specialOf (typeIs_str _ _ _) FU ?_)
  refine wpAny_bind (wpAny_pure ?_)
  have hl:(!(Str.ofString "").cps.contains 92)=true:=by decide +kernel
  dsimp only
  refine wpAny_bind (wpAny_pure ?_)
  rw [hl]
  refine wpAny_bind (wpAny_pure ?_)
  dsimp only
  refine wpAny_bind (wpAny_holding (Ee P zn ?_))
  exact Er (wc:=true) (way:=0) P hx (.inl ⟨rfl,_,rfl,fun ζ=>rfl⟩) h hR zn ow hok hln fun Z' u s' z' o' e' hu=>q _ _ _ _ z' o' e' hu
end
end Mine
end
section
set_option maxRecDepth 10000
namespace Mine
open PySem PySem.W PyProof.Rows PySem.Calls PySem.Spec
variable [T₀:AY]
section
variable {W:Wd} {Z:AK} {L:Addr} {as:List Addr} {st:ST} {M:Model} {A:Around} {E:Value→Shared→Prop} {s:Shared} {env:Env} {sc:Scope} {k:Nat}
inductive Bt (W:Wd) (k:Nat) (sc:Scope):Option Expr→ST→Option Int→ST→Prop where
 | none {st:ST}:Bt W k sc none st none st
 | some {e:Expr} {st st':ST} {i:Int}:AA W k sc e st (.int i) st'→Bt W k sc (some e) st (some i) st'
theorem Bt.run {o:Option Expr} {st st':ST} {v:Option Int} (h:Bt W k sc o st v st') {Q:Value→Shared→Prop} (hE:Aq env sc L) (hR:Ae A k) (S:Sta W Z L as st s)
  (q:∀ (Z':AK) (as':List Addr) (u:Value) (s':Shared),Sta W Z' L as' st' s'→Evo [L] Z Z' as as' s s'→IsPart u v→Q u s'):wpAny W.M A (evalPart o env) Q E s:=by
 induction h using Bt.casesOn with
 | none=>exact wpAny_evalPart_none (q _ _ _ _ S .refl' .none)
 | some h =>
  refine wpAny_evalPart_some (h _ _ _ _ _ _ _ _ hE hR S fun Z' as' u s' S' e' hu=>q _ _ _ _ S' e' ?_)
  cases hu using Is.e_int
  exact .int _ _
theorem AA.sliceStr {v:Expr} {lo hi:Option Expr} {p pos:Pos} {st₁ st₂ st₃:ST} {x:Str} {i j:Option Int} (h1:AA W k sc v st (.str x) st₁) (h2:Bt W k sc lo st₁ i st₂) (h3:Bt W k sc hi st₂ j st₃) :
  AA W k sc (.Subscript v (.Slice lo hi none p) pos) st (.str (Txt.slice x i j)) st₃:=by
 intro Z L as s A Q E env hE hR hS q
 refine Subscript_ (h1 _ _ _ _ _ _ _ _ hE hR hS fun Z₁ as₁ u s₁ S₁ e₁ hu=>wpAny_Slice (h2.run hE hR S₁ fun Z₂ as₂ ul s₂ S₂ e₂ hl=>h3.run hE hR S₂ fun Z₃ as₃ uh s₃ S₃ e₃ hh=>?_))
 refine wpAny_evalPart_none ?_
 cases hu using Is.e_str with
 | _ tu hlen =>
 have fin:∀ h' t' kk,A6 s₃.heap h'→Q (.str (Txt.slice x i j) t') {s₃ with heap:=h',toks:=kk}:=fun h' t' kk g=>by
  obtain ⟨S₄,e₄⟩:=S₃.grow (tk:=kk) g
  exact q _ _ _ _ S₄ (((e₁.trans e₂).trans e₃).trans e₄) (.str _ (Nat.le_trans (Txt.slice_le x i j) hlen))
 have it:ItemOn W.M A E (.str x tu) (.ref s₃.heap.objs.size) Q {s₃ with heap:=s₃.heap.push {cls:=.type "slice",data:=.fields #[ul,uh,.none]}}:=by
  cases hl <;> cases hh
  ·exact SBH.sliceItem_nn DA A6.refl fin hlen
  ·exact SBH.sliceItem_ns DA A6.refl fin hlen
  ·exact SBH.sliceItem_sn DA A6.refl fin hlen
  ·exact SBH.sliceItem_ss DA A6.refl fin hlen
 exact tail_of_ItemOn it rfl fun r=>by unfold letTemporaryGo;induction v using Expr.casesOn <;> rfl
theorem AA.sliceList {v:Expr} {hi:Expr} {p pos:Pos} {st₁ st₂:ST} {xs:List AV} {n:Nat} (h1:AA W k sc v st (.lst xs) st₁) (h2:AA W k sc hi st₁ (.int n) st₂) :
  AA W k sc (.Subscript v (.Slice none (some hi) none p) pos) st (.lst (xs.take n)) st₂:=by
 intro Z L as s A Q E env hE hR hS q
 refine Subscript_ (h1 _ _ _ _ _ _ _ _ hE hR hS fun Z₁ as₁ u s₁ S₁ e₁ hu=>wpAny_Slice (wpAny_evalPart_none ((Bt.some h2).run hE hR S₁ fun Z₃ as₃ uh s₃ S₃ e₃ hh=>?_)))
 refine wpAny_evalPart_none ?_
 replace hu:=hu.evo e₃
 cases hu using Is.e_lst with
 | _ a vs m z hv hlen =>
 have hl:s₃.heap.IsList a vs.toArray:=BI (S₃.zn.keep _ _ z)
 refine tail_any (s:={s₃ with heap:=s₃.heap.push {cls:=.type "slice",data:=.fields #[.none,uh,.none]}}) (hl.push _).typeIs slot_list_getitem.lookup ?_ rfl
 refine wpAny_getItem_list_slice (hl.push _) (Heap.IsSliceOf.new ..) .none hh .none (by simp) ?_ (by rw [List.size_toArray];exact hlen)
 rw [slicePick_upto']
 obtain ⟨S₄,e₄⟩:=S₃.grow (tk:=s₃.toks) (A6.refl.push {cls:=.type "slice",data:=.fields #[.none,uh,.none]})
 refine oAA (S₄.frozen (o:=Af (vs.take n) 0) (tk:=s₃.toks) rfl) fun S₅ e₅ hz=>?_
 refine q _ _ _ _ S₅ (((e₁.trans e₃).trans e₄).trans e₅) (.lst hz ?_ (by rw [List.length_take];exact Nat.le_trans (Nat.min_le_right _ _) hlen))
 have:∀ {Z:AK} {as:List Addr} (n:Nat) {xs:List AV} {vs:List Value},IsL Z as xs vs→IsL Z as (xs.take n) (vs.take n):=by
  intro Z as n
  induction n with
  | zero=>intro xs vs _;exact .nil
  | succ n ih =>
   intro xs vs h
   induction h using IsL.casesOn with
   | nil=>exact .nil
   | cons a b=>exact .cons a (ih b)
 exact (this n hv).evo (e₄.trans e₅)
end
end Mine
end
section
set_option maxRecDepth 10000
namespace Mine
open PySem PySem.W PyProof.Rows PySem.Calls PySem.Spec
section
variable {Pr:Prop}
theorem Iy {o o':List Nat} (h:∀ n∈o++o',n≤sizeLine):(∀ n∈o,n≤sizeLine)∧(∀ n∈o',n≤sizeLine) :=
 ⟨fun n q=>h n (List.mem_append_left _ q),fun n q=>h n (List.mem_append_right _ q)⟩
noncomputable def Ap (o:List Nat):Prop:=∀ n∈o,n≤sizeLine
section
variable {α β:Type} {st st':ST} {o:List Nat} {Pr:Prop}
set_option tactic.hygienic true in
theorem A9 {m:Out α} {f:α→ST→Out β} {b:β} (h:thn m f=some (b,st',o)) (ho:Ap o) (k:∀ a st₁ o₁ o₂,m=some (a,st₁,o₁)→Ap o₁→f a st₁=some (b,st',o₂)→Ap o₂→Pr):Pr:=by
 unfold thn at h
 split at h
 ·exact no h
 ·split at h
  ·exact no h
  ·rename_i h1 _ _ _ _ h2
   cases h
   exact k _ _ _ _ rfl (Iy ho).1 h2 (Iy ho).2
theorem HI {x:Option α} {b:α} {P:α→ST→Prop} (h:lft x st=some (b,st',o)) (k:∀ a,x=some a→P a st):P b st':=by
 induction x using Option.casesOn with
 | none=>exact no h
 | some a=>cases h;exact k _ rfl
theorem owd_e {x:Option (α×List Nat)} {b:α} {P:α→ST→Prop} (h:owd x st=some (b,st',o)) (ho:Ap o) (k:∀ a o,x=some (a,o)→Ap o→P a st):P b st':=by
 induction x using Option.casesOn with
 | none=>exact no h
 | some a=>cases h;exact k _ _ rfl ho
theorem Lr {x:Option (AV×List AO×List Nat)} {b:AV} {P:AV→ST→Prop} (h:cal x st=some (b,st',o)) (ho:Ap o) (k:∀ u objs o,x=some (u,objs,o)→Ap o→P u {st with objs}):P b st':=by
 induction x using Option.casesOn with
 | none=>exact no h
 | some a=>cases h;exact k _ _ _ rfl ho
theorem Ak {a b:α} {o':List Nat} {P:α→ST→Prop} (h:(some (a,st,o'):Out α)=some (b,st',o)) (ho:Ap o) (k:Ap o'→P a st):P b st':=by
 cases h;exact k ho
theorem Iq {c:Bool} {m m':Option α} {r:α} (h:cho c m m'=some r) (k:c=true→m=some r→Pr) (k':c=false→m'=some r→Pr):Pr:=by
 induction c using Bool.casesOn with
 | false=>exact k' rfl h
 | true=>exact k rfl h
theorem Bd {l:List α} {x:α} (h:one l=some x):l=[x]:=by
 match l,h with
 | [_],h=>rw [Option.some.inj h]
end
theorem nt {b:Bool} (h:(!b)=true):b=false:=by induction b using Bool.casesOn <;> first | rfl | exact ff h
theorem Id {a:UnaryOp} (h:isNot a=true):a=.Not:=by induction a using UnaryOp.casesOn <;> first | rfl | exact ff h
theorem isAdd_e {a:Operator} (h:isAdd a=true):a=.Add:=by induction a using Operator.casesOn <;> first | rfl | exact ff h
theorem isTop_e {a:AV} (h:Kl a=false):∀ v,a≠.top v:=by rintro v rfl;cases h
set_option tactic.hygienic true in
theorem Kp {a:AV} {n x:Str} (h:Hw a n=some x):n="string"∧∃ pa sp,a=.mtch x pa sp:=by
 induction a using AV.casesOn <;> first | exact no h | skip
 rename_i y pa sp
 change (if n=="string" then some y else none)=some x at h
 split at h
 ·rename_i hn
  cases h
  exact ⟨eq_of_beq hn,_,_,rfl⟩
 ·exact no h
set_option tactic.hygienic true in
theorem F4 {e:Expr} {p:Option Expr×Option Expr} (h:E5 e=some p):∃ pos,e=.Slice p.1 p.2 none pos:=by
 induction e using Expr.casesOn <;> first | exact no h | skip
 rename_i lo hi stp pos
 induction stp using Option.casesOn <;> first | exact no h | (cases h;exact ⟨_,rfl⟩)
theorem Iu {objs:List AO} {T:Tb} {name:Str} {a:AV} {r:AV ⊕ Addr} (h:Iv objs T name a=some r)
  (k:∀ i C d es,a=.own i→objs[i]?=some (.inst C d)→objs[d]?=some (.dict es)→∀ v,T.res C name=some .data→es.lookup name=some v→(∀ u,v≠.top u)→r=.inl v→Pr)
  (k':∀ i C d es,a=.own i→objs[i]?=some (.inst C d)→objs[d]?=some (.dict es)→∀ f,T.res C name=some (.prop f)→r=.inr f→Pr):Pr:=by
 unfold Iv at h
 refine AE h fun i hi h=>AE h fun ob hob h=>AE h fun c hc h=>AE h fun od hod h=>AE h fun es hes h=>AE h fun r' hr h=>?_
 rw [GR hc] at hob
 rw [G8 hes] at hod
 cases r' with
 | data =>
  refine AE h fun v hv h=>?_
  cases ht:Kl v with
  | true=>rw [ht] at h;exact no h
  | false=>rw [ht] at h;exact k _ _ _ _ (ED hi) hob hod _ hr hv (isTop_e ht) (Option.some.inj h).symm
 | prop f=>exact k' _ _ _ _ (ED hi) hob hod _ hr (Option.some.inj h).symm
 | meth f=>exact no h
end
variable [T₀:AY]
section
variable {W:Wd} {sc:Scope} {k:Nat} {T:Tb} {Pr:Prop}
theorem Fs (hT:TbOk W k T) {f:Value} {args:List AV} {objs:List AO} {r} (h:T.call f args objs=some r) (hf:(∃ a,f=.ref a)∨(∃ b,f=.builtin b)∨∃ b,f=.type b):EO W f:=by
 rcases hf with ⟨a,rfl⟩ | ⟨b,rfl⟩ | ⟨b,rfl⟩
 ·exact hT.fn _ _ _ _ h
 ·trivial
 ·trivial
theorem bL_k {l:List (Str×String)} {name:Str} {f:Value} (h:bL l name=some f):(∃ a,f=.ref a)∨(∃ b,f=.builtin b)∨∃ b,f=.type b:=AE h fun b ζ h=>.inr (.inl ⟨b,(Option.some.inj h).symm⟩)
theorem JR {objs:List AO} {name:Str} {a:AV} {f:Value} (h:ET T objs name a=some f):(∃ a,f=.ref a)∨(∃ b,f=.builtin b)∨∃ b,f=.type b :=
 C9 h (fun ζ ζ h=>bL_k h) fun h=>C9 h (fun ζ ζ h=>A1 h fun ζ h=>bL_k h) fun h=>C9 h (fun ζ ζ h=>bL_k h) fun h=>AE h fun ζ ζ h=>AE h fun ζ ζ h=>C9 h (fun ζ ζ h=>A1 h fun ζ h=>.inr (.inl ⟨_,(Option.some.inj h).symm⟩))
  fun h=>AE h fun ζ ζ h=>AE h fun ζ ζ h=>AE h fun ζ ζ h=>AE h fun r ζ h=>by
   cases r with
   | meth f=>exact A1 h fun ζ h=>.inl ⟨_,(Option.some.inj h).symm⟩
   | _=>exact no h
theorem AA.bool1 {st st':ST} {x:Expr} {op:BoolOp} {pos:Pos} {v:AV} (h:AA W k sc x st v st'):AA W k sc (.BoolOp op [x] pos) st v st' :=
 fun Z L as s A Q E env hE hR hS q=>h Z L as s A Q E env hE hR hS q
section
variable {fE:Expr→ST→Out AV} {fB:BoolOp→List Expr→ST→Out AV} {fT:Expr→ST→Out Bool} {fA:BoolOp→List Expr→ST→Out Bool} {fL:List Expr→ST→Out (List AV)} {st st':ST} {v:AV} {c:Bool} {o:List Nat}
noncomputable def Cv (W:Wd) (k:Nat) (sc:Scope) (f:Expr→ST→Out AV):Prop:=∀ e st v st' o,f e st=some (v,st',o)→Ap o→AA W (k+1) sc e st v st'
noncomputable def Jg (W:Wd) (k:Nat) (sc:Scope) (f:Expr→ST→Out Bool):Prop:=∀ e st v st' o,f e st=some (v,st',o)→Ap o→AL W (k+1) sc e st v st'
noncomputable def IN (W:Wd) (k:Nat) (sc:Scope) (f:List Expr→ST→Out (List AV)):Prop:=∀ es st vs st' o,f es st=some (vs,st',o)→Ap o→B0 W (k+1) sc es st vs st'∧vs.length=es.length
noncomputable def SndB (W:Wd) (k:Nat) (sc:Scope) (f:BoolOp→List Expr→ST→Out AV):Prop:=∀ op xs st v st' o pos,f op xs st=some (v,st',o)→Ap o→AA W (k+1) sc (.BoolOp op xs pos) st v st'
noncomputable def SndA (W:Wd) (k:Nat) (sc:Scope) (f:BoolOp→List Expr→ST→Out Bool):Prop:=∀ op xs st b st' o,f op xs st=some (b,st',o)→Ap o→Bu W (k+1) sc op xs st b st'
theorem KU {x:Str} {p:Pos} (hT:TbOk W k T) (h:nameA T sc x st=some (v,st',o)):AA W (k+1) sc (.Name x p) st v st' :=
 A1 h fun hd h=>Iq h (fun hx h=>HI (P:=AA W (k+1) sc (.Name x p) st) h fun ζ h1=>.loc (nt hd) (eq_of_beq hx) h1)
  fun ζ h=>A1 h fun hx h=>HI (P:=AA W (k+1) sc (.Name x p) st) h fun ζ h1=>.glob (nt hd) (eq_of_beq hx) (hT.glob _ _ h1)
theorem binA_ok {op:Operator} {l r:Expr} {p:Pos} (hE:Cv W k sc fE) (h:binA fE op l r st=some (v,st',o)) (ho:Ap o):AA W (k+1) sc (.BinOp l op r p) st v st' :=
 A9 h ho fun ζ ζ ζ ζ h1 p1 h p2=>A9 h p2 fun ζ ζ ζ ζ h2 p2 h p3=>owd_e (P:=AA W (k+1) sc (.BinOp l op r p) st) h p3 fun ζ ζ h3 p3=>.bin (hE _ _ _ _ _ h1 p1) (hE _ _ _ _ _ h2 p2) h3 p3
theorem cmpA_ok {ops:List CmpOp} {l:Expr} {rs:List Expr} {p:Pos} (hE:Cv W k sc fE) (h:cmpA fE l ops rs st=some (v,st',o)) (ho:Ap o):AA W (k+1) sc (.Compare l ops rs p) st v st' :=
 AE h fun op h1 h=>AE h fun r h2 h=>by
  rw [Bd h1,Bd h2]
  exact A1 h fun hm h=>A9 h ho fun ζ ζ ζ ζ h1 p1 h p2=>A9 h p2 fun ζ ζ ζ ζ h2 p2 h p3=>HI (P:=AA W (k+1) sc (.Compare l [op] [r] p) st) h fun ζ h3=>.cmp (nt hm) (hE _ _ _ _ _ h1 p1) (hE _ _ _ _ _ h2 p2) h3
theorem notA_ok {op:UnaryOp} {x:Expr} {p:Pos} (hE:Cv W k sc fE) (h:notA fE op x st=some (v,st',o)) (ho:Ap o):AA W (k+1) sc (.UnaryOp op x p) st v st' :=
 A1 h fun hn h=>by
  rw [Id hn]
  exact A9 h ho fun ζ ζ ζ ζ h1 p1 h p2=>AE h fun ζ h2 h=>Ak (P:=AA W (k+1) sc (.UnaryOp .Not x p) st) h p2 fun ζ=>.not (hE _ _ _ _ _ h1 p1) h2
theorem ifA_ok {t a b:Expr} {p:Pos} (hE:Cv W k sc fE) (hT:Jg W k sc fT) (h:ifA fE fT t a b st=some (v,st',o)) (ho:Ap o):AA W (k+1) sc (.IfExp t a b p) st v st' :=
 A9 h ho fun c ζ ζ ζ h1 p1 h p2=>.ifExp (hT _ _ _ _ _ h1 p1) (by
  induction c using Bool.casesOn with
  | true=>exact hE _ _ _ _ _ h p2
  | false=>exact hE _ _ _ _ _ h p2)
theorem MB {x:Expr} {name:Str} {p:Pos} (hT:TbOk W k T) (hE:Cv W k sc fE) (h:attrA T fE x name st=some (v,st',o)) (ho:Ap o):AA W (k+1) sc (.Attribute x name p) st v st':=by
 refine A1 h fun hs h=>A9 h ho fun a st₁ ζ ζ h1 p1 h p2=>?_
 have e1:=hE _ _ _ _ _ h1 p1
 cases hm:Hw a name with
 | some y =>
  rw [hm] at h
  refine oAEE (Kp hm) fun r0_ pa sp r3_=>?_;subst r0_;subst r3_
  exact Ak (P:=AA W (k+1) sc (.Attribute x "string" p) st) h p2 fun q=>.mstring hs e1 (q _ (.head _))
 | none =>
  rw [hm] at h
  refine AE h fun r hr h=>Iu hr (fun i C d es ha hi hd w hres hl hw e=>?_) fun i C d es ha hi hd f hres e=>?_
  ·subst e ha
   exact Ak (P:=AA W (k+1) sc (.Attribute x name p) st) h p2 fun ζ=>.attr hs e1 hi hd (hT.res _ _ _ hres) hl hw
  ·subst e ha
   exact Lr (P:=AA W (k+1) sc (.Attribute x name p) st) h p2 fun u objs o hc po=>.prop hs e1 hi hd (hT.res _ _ _ hres) (hT.prop _ _ _ hres _ _ _ _ _ hc po).1 (hT.prop _ _ _ hres _ _ _ _ _ hc po).2
theorem Gw {oe:Option Expr} {i:Option Int} (hE:Cv W k sc fE) (h:KD fE oe st=some (i,st',o)) (ho:Ap o):Bt W (k+1) sc oe st i st':=by
 induction oe using Option.casesOn with
 | none=>exact Ak (P:=Bt W (k+1) sc none st) h ho fun ζ=>.none
 | some e =>
  exact A9 h ho fun ζ ζ ζ ζ h1 p1 h p2=>AE h fun j hj h=>Ak (P:=Bt W (k+1) sc (some e) st) h p2 fun ζ=>.some (CD hj▸hE _ _ _ _ _ h1 p1)
theorem subA_ok {x i:Expr} {p:Pos} (hE:Cv W k sc fE) (h:subA fE x i st=some (v,st',o)) (ho:Ap o):AA W (k+1) sc (.Subscript x i p) st v st':=by
 unfold subA at h
 cases hs:E5 i with
 | some q =>
  rw [hs] at h
  obtain ⟨pos,rfl⟩:=F4 hs
  exact A9 h ho fun ζ ζ ζ ζ h1 p1 h p2=>AE h fun y hy h=>A9 h p2 fun ζ ζ ζ ζ h2 p2 h p3=>A9 h p3 fun ζ ζ ζ ζ h3 p3 h p4 =>
   Ak (P:=AA W (k+1) sc (.Subscript x (.Slice q.1 q.2 none pos) p) st) h p4 fun ζ=>.sliceStr (Bb hy▸hE _ _ _ _ _ h1 p1) (Gw hE h2 p2) (Gw hE h3 p3)
 | none =>
  rw [hs] at h
  exact A1 h fun hn h=>A9 h ho fun ζ ζ ζ ζ h1 p1 h p2=>A9 h p2 fun ζ ζ ζ ζ h2 p2 h p3=>HI (P:=AA W (k+1) sc (.Subscript x i p) st) h fun ζ h3=>.item hn (hE _ _ _ _ _ h1 p1) (hE _ _ _ _ _ h2 p2) h3
theorem tupA_ok {es:List Expr} {n:Nat} {p:Pos} (hL:IN W k sc fL) (h:tupA fL es st=some (v,st',o)) (ho:Ap o):AA W (k+1) sc (.Tuple es n p) st v st' :=
 A1 h fun hl h=>A9 h ho fun ζ ζ ζ ζ h1 p1 h p2=>Ak (P:=AA W (k+1) sc (.Tuple es n p) st) h p2 fun ζ=>.tuple ((hL _ _ _ _ _ h1 p1).2▸of_decide_eq_true hl) (hL _ _ _ _ _ h1 p1).1
theorem K3 {es:List Expr} {p:Pos} (hL:IN W k sc fL) (h:listA fL es st=some (v,st',o)) (ho:Ap o):AA W (k+1) sc (.List es p) st v st':=by
 refine A1 h fun hl h=>?_
 induction es using List.casesOn with
 | nil=>exact Ak (P:=AA W (k+1) sc (.List [] p) st) h ho fun ζ=>.listN
 | cons e es=>exact A9 h ho fun ζ ζ ζ ζ h1 p1 h p2=>Ak (P:=AA W (k+1) sc (.List (e::es) p) st) h p2 fun ζ=>.listF ((hL _ _ _ _ _ h1 p1).2▸of_decide_eq_true hl) (hL _ _ _ _ _ h1 p1).1
theorem KX {ov:Expr} {name:Str} {apos p:Pos} {args:List Expr} (hT:TbOk W k T) (hE:Cv W k sc fE) (hL:IN W k sc fL) (hn:args.length≤20) (hs:args.all A4=true) (h:methA T fE fL ov name apos args p st=some (v,st',o)) (ho:Ap o) :
  AA W (k+1) sc (.Call (.Attribute ov name apos) args [] p) st v st' :=
 A1 h fun hb h=>A9 h ho fun ζ ζ ζ ζ h1 p1 h p2=>AE h fun ζ h2 h=>A9 h p2 fun ζ ζ ζ ζ h3 p3 h p4=>Lr (P:=AA W (k+1) sc (.Call (.Attribute ov name apos) args [] p) st) h p4 fun ζ ζ ζ h4 p4 =>
  .callMeth (bt hb).1 hs hn (bt hb).2 (hE _ _ _ _ _ h1 p1) (Cx hT.res hT.pat h2) (Fs hT h4 (JR h2)) (hL _ _ _ _ _ h3 p3).1 (hT.call _ _ _ _ _ _ h4 p4)
theorem J8 {x:Str} {q p:Pos} {args:List Expr} (hT:TbOk W k T) (hG:∀ x f,T.glob.lookup x=some (.top f)→(∃ a,f=.ref a)∨(∃ b,f=.builtin b)∨∃ b,f=.type b) (hL:IN W k sc fL) (hs:args.all A4=true)
  (h:Ln T sc fL x args st=some (v,st',o)) (ho:Ap o):AA W (k+1) sc (.Call (.Name x q) args [] p) st v st' :=
 A1 h fun hd h=>A1 h fun hx h=>AE h fun u h1 h=>AE h fun f hf h=>by
  rw [Jn hf] at h1
  exact A9 h ho fun ζ ζ ζ ζ h3 p3 h p4=>Lr (P:=AA W (k+1) sc (.Call (.Name x q) args [] p) st) h p4 fun ζ ζ ζ h4 p4 =>
   .callName (nt hd) (eq_of_beq hx) (hT.glob _ _ h1) (Fs hT h4 (hG _ _ h1)) hs (hL _ _ _ _ _ h3 p3).1 (hT.call _ _ _ _ _ _ h4 p4)
set_option tactic.hygienic true in
theorem L5 {e:Expr} (hT:TbOk W k T) (hG:∀ x f,T.glob.lookup x=some (.top f)→(∃ a,f=.ref a)∨(∃ b,f=.builtin b)∨∃ b,f=.type b) (hE:Cv W k sc fE) (hB:SndB W k sc fB) (hS:Jg W k sc fT) (hL:IN W k sc fL)
  (h:L6 T sc fE fB fT fL e st=some (v,st',o)) (ho:Ap o):AA W (k+1) sc e st v st':=by
 induction e using Expr.casesOn <;> first | exact no h | skip
 case BoolOp=>exact hB _ _ _ _ _ _ _ h ho
 case BinOp=>exact binA_ok hE h ho
 case UnaryOp=>exact notA_ok hE h ho
 case IfExp=>exact ifA_ok hE hS h ho
 case Compare=>exact cmpA_ok hE h ho
 case Constant n p=>exact HI (P:=AA W (k+1) sc _ st) h fun ζ h1=>.const h1
 case Attribute=>exact MB hT hE h ho
 case Subscript=>exact subA_ok hE h ho
 case Name=>exact KU hT h
 case List=>exact K3 hL h ho
 case Tuple=>exact tupA_ok hL h ho
 case Call f args ks p =>
  induction ks using List.casesOn with
  | cons _ _=>exact no h
  | nil =>
   refine A1 h fun hl h=>?_
   induction f using Expr.casesOn <;> first | exact no h | skip
   case Attribute=>exact KX hT hE hL (of_decide_eq_true (bt hl).1) (bt hl).2 h ho
   case Name=>exact J8 hT hG hL (bt hl).2 h ho
theorem IJ {e:Expr} {b:Bool} {P:Bool→ST→Prop} (h:decA T e b st=some (c,st',o)) (ho:Ap o) (k:P b st):P c st' :=
 Ak (P:=P) h ho fun q=>by rw [decT_ok q];exact k
theorem IV {op:BoolOp} {b:Bool} (h:Gj op b=true):(op=.And∧b=false)∨(op=.Or∧b=true):=by
 induction op using BoolOp.casesOn
 ·exact .inl ⟨rfl,nt h⟩
 ·exact .inr ⟨rfl,h⟩
theorem IW {op:BoolOp} {b:Bool} (h:Gj op b=false):¬ ((op=.And∧b=false)∨(op=.Or∧b=true)):=by
 rintro (⟨rfl,rfl⟩ | ⟨rfl,rfl⟩) <;> cases h
theorem Jc {op:BoolOp} {xs:List Expr} {p:Pos} {fR:List Expr→ST→Out AV} (hE:Cv W k sc fE) (hR:∀ xs st v st' o,fR xs st=some (v,st',o)→Ap o→AA W (k+1) sc (.BoolOp op xs p) st v st')
  (h:Lx T fE op fR xs st=some (v,st',o)) (ho:Ap o):AA W (k+1) sc (.BoolOp op xs p) st v st':=by
 induction xs using List.casesOn with
 | nil=>exact no h
 | cons x r =>
  induction r using List.casesOn with
  | nil=>exact .bool1 (hE _ _ _ _ _ h ho)
  | cons y r =>
   exact A9 h ho fun ζ ζ ζ ζ h1 p1 h p2=>AE h fun b h2 h=>A9 h p2 fun c st₂ ζ ζ h3 p3 h p4=>IJ (P:=fun c st₂=>cho (Gj op c) (some (_,st₂,[])) (fR (y::r) st₂)=some (v,st',_)→AA W (k+1) sc (.BoolOp op (x::y::r) p) st v st') h3 p3
    (fun h=>Iq h (fun hs h=>Ak (P:=AA W (k+1) sc (.BoolOp op (x::y::r) p) st) h p4 fun ζ=>.boolStop (hE _ _ _ _ _ h1 p1) h2 (IV hs))
     fun hs h=>.boolGo (hE _ _ _ _ _ h1 p1) h2 (IW hs) (hR _ _ _ _ _ h p4)) h
theorem E3 {e:Expr} (he:∀ env whole,isTrue e env whole=(do let v ← whole;standAt e.pos;holding [v] (truthy v))) (hE:Cv W k sc fE) (h:Jk T fE e st=some (c,st',o)) (ho:Ap o):AL W (k+1) sc e st c st' :=
 A9 h ho fun ζ ζ ζ ζ h1 p1 h p2=>AE h fun ζ h2 h=>IJ (P:=AL W (k+1) sc e st) h p2 (.ofVal he (hE _ _ _ _ _ h1 p1) h2)
set_option tactic.hygienic true in
theorem Jl {e:Expr} (hE:Cv W k sc fE) (hS:Jg W k sc fT) (hA:SndA W k sc fA) (h:Jm T fE fT fA e st=some (c,st',o)) (ho:Ap o):AL W (k+1) sc e st c st':=by
 induction e using Expr.casesOn <;> first | exact no h | skip
 case BoolOp=>exact (hA _ _ _ _ _ _ h ho).test
 case UnaryOp op x p =>
  refine A1 h fun hn h=>?_
  rw [Id hn]
  exact A9 h ho fun ζ ζ ζ ζ h1 p1 h p2=>Ak (P:=AL W (k+1) sc (.UnaryOp .Not x p) st) h p2 fun ζ=>.not (hS _ _ _ _ _ h1 p1)
 case Compare l ops rs p =>
  refine AE h fun op h1 h=>AE h fun r h2 h=>?_
  rw [Bd h1,Bd h2] at h ⊢
  exact A1 h fun hm h=>A9 h ho fun ζ ζ ζ ζ h1 p1 h p2=>A9 h p2 fun ζ ζ ζ ζ h2 p2 h p3=>AE h fun ζ h3 h=>AE h fun ζ h4 h=>IJ (P:=AL W (k+1) sc (.Compare l [op] [r] p) st) h p3 (.cmp (nt hm) (hE _ _ _ _ _ h1 p1) (hE _ _ _ _ _ h2 p2) (MC h4▸h3))
 case Name=>exact E3 (fun ζ ζ=>rfl) hE h ho
 case Attribute=>exact E3 (fun ζ ζ=>rfl) hE h ho
 case Call=>exact E3 (fun ζ ζ=>rfl) hE h ho
 case Constant=>exact E3 (fun ζ ζ=>rfl) hE h ho
theorem Lw {op:BoolOp} {xs:List Expr} {fR:List Expr→ST→Out Bool} (hS:Jg W k sc fT) (hR:∀ xs st v st' o,fR xs st=some (v,st',o)→Ap o→Bu W (k+1) sc op xs st v st')
  (h:btArm fT op fR xs st=some (c,st',o)) (ho:Ap o):Bu W (k+1) sc op xs st c st':=by
 induction xs using List.casesOn with
 | nil=>exact Ak (P:=Bu W (k+1) sc op [] st) h ho fun ζ=>.nil
 | cons x r =>
  exact A9 h ho fun ζ ζ ζ ζ h1 p1 h p2=>Iq h (fun hs h=>Ak (P:=Bu W (k+1) sc op (x::r) st) h p2 fun ζ=>.stop (hS _ _ _ _ _ h1 p1) (IV hs))
   fun hs h=>.go (hS _ _ _ _ _ h1 p1) (IW hs) (hR _ _ _ _ _ h p2)
theorem J3 {es:List Expr} {vs:List AV} {fR:List Expr→ST→Out (List AV)} (hE:Cv W k sc fE) (hR:IN W k sc fR) (h:L4 fE fR es st=some (vs,st',o)) (ho:Ap o):B0 W (k+1) sc es st vs st'∧vs.length=es.length:=by
 induction es using List.casesOn with
 | nil=>exact Ak (P:=fun vs st'=>B0 W (k+1) sc [] st vs st'∧vs.length=0) h ho fun ζ=>⟨.nil,rfl⟩
 | cons e r =>
  exact A1 h fun hs h=>A9 h ho fun ζ ζ ζ ζ h1 p1 h p2=>A9 h p2 fun ζ ζ ζ ζ h2 p2 h p3=>Ak (P:=fun vs st'=>B0 W (k+1) sc (e::r) st vs st'∧vs.length=r.length+1) h p3 fun ζ =>
   ⟨.cons hs (hE _ _ _ _ _ h1 p1) (hR _ _ _ _ _ h2 p2).1,congrArg Nat.succ (hR _ _ _ _ _ h2 p2).2⟩
end
structure Snd (W:Wd) (k:Nat) (sc:Scope) (T:Tb) (n:Nat):Prop where
 e:Cv W k sc (evE T sc n)
 b:SndB W k sc (bopE T sc n)
 t:Jg W k sc (tsE T sc n)
 a:SndA W k sc (btE T sc n)
 l:IN W k sc (evL T sc n)
theorem FD (hT:TbOk W k T) (hG:∀ x f,T.glob.lookup x=some (.top f)→(∃ a,f=.ref a)∨(∃ b,f=.builtin b)∨∃ b,f=.type b):∀ n:Nat,Snd W k sc T n:=by
 intro n
 induction n with
 | zero=>exact ⟨fun ζ ζ ζ ζ ζ h=>no h,fun ζ ζ ζ ζ ζ ζ ζ h=>no h,fun ζ ζ ζ ζ ζ h=>no h,fun ζ ζ ζ ζ ζ ζ h=>no h,fun ζ ζ ζ ζ ζ h=>no h⟩
 | succ n ih =>
  refine ⟨fun e st v st' o h ho=>?_,fun op xs st v st' o p h ho=>Jc ih.e (fun ζ ζ ζ ζ ζ h ho=>ih.b _ _ _ _ _ _ p h ho) h ho,fun e st b st' o h ho=>?_,fun op xs st b st' o h ho=>Lw ih.t (fun ζ ζ ζ ζ ζ h ho=>ih.a _ _ _ _ _ _ h ho) h ho,fun es st vs st' o h ho=>J3 ih.e ih.l h ho⟩
  ·change (match T.exO sc e st with | some r=>some r | none=>L6 T sc (evE T sc n) (bopE T sc n) (tsE T sc n) (evL T sc n) e st)=_ at h
   cases hx:T.exO sc e st with
   | some r=>rw [hx] at h;exact hT.exO _ _ _ _ _ _ (hx.trans h) ho
   | none=>rw [hx] at h;exact L5 hT hG ih.e ih.b ih.t ih.l h ho
  ·change (match T.tsO sc e st with | some r=>some r | none=>Jm T (evE T sc n) (tsE T sc n) (btE T sc n) e st)=_ at h
   cases hx:T.tsO sc e st with
   | some r=>rw [hx] at h;exact hT.tsO _ _ _ _ _ _ (hx.trans h) ho
   | none=>rw [hx] at h;exact Jl ih.e ih.t ih.a h ho
end
end Mine
end
section
set_option maxRecDepth 10000
namespace Mine
open PySem PySem.W PyProof.Rows PySem.Calls PySem.Spec
variable [T₀:AY]
section
variable {W:Wd} {sc:Scope} {k:Nat} {T:Tb}
theorem AH.assignTup {es:List Expr} {n:Nat} {p pos:Pos} {e:Expr} {st st₁ st₂:ST} {v:AV} (hc:DS e=true) (h:AA W k sc e st v st₁) (ha:AX W k sc (.Tuple es n p) v st₁ st₂):AH W k sc (.Assign [.Tuple es n p] e pos) st .next st₂:=by
 intro Z L as s A Q E env hE hR hS q
 induction e using Expr.casesOn <;> first | exact ff hc;done | skip
 refine PyProof.Rows.Assign_Tuple (h _ _ _ _ _ _ _ _ hE hR hS fun Z₁ as₁ u s₁ S₁ e₁ hu=>?_) rfl rfl
 exact ha _ _ _ _ _ _ _ _ _ hE hR S₁ hu fun s₂ S₂ e₂=>q _ _ _ _ S₂ (e₁.trans e₂) .next
structure DJ (W:Wd) (k:Nat) (T:Tb):Prop extends TbOk W k T where
 kinds:∀ x f,T.glob.lookup x=some (.top f)→(∃ a,f=.ref a)∨(∃ b,f=.builtin b)∨∃ b,f=.type b
section
variable {fE:Expr→ST→Out AV} {fT:Expr→ST→Out Bool} {fS:List Stmt→ST→Out AF} {f1:Stmt→ST→Out AF} {st st':ST} {f:AF} {o:List Nat}
noncomputable def SndS (W:Wd) (k:Nat) (sc:Scope) (f:List Stmt→ST→Out AF):Prop:=∀ b st g st' o,f b st=some (g,st',o)→Ap o→A8 W (k+1) sc b st g st'
noncomputable def Snd1 (W:Wd) (k:Nat) (sc:Scope) (f:Stmt→ST→Out AF):Prop:=∀ b st g st' o,f b st=some (g,st',o)→Ap o→AH W (k+1) sc b st g st'
set_option tactic.hygienic true in
theorem assA_ok {t v:Expr} {p:Pos} (hT:DJ W k T) (hE:Cv W k sc fE) (h:assA T sc fE t v st=some (f,st',o)) (ho:Ap o):AH W (k+1) sc (.Assign [t] v p) st f st':=by
 induction t using Expr.casesOn <;> first | exact no h | skip
 case Attribute ob a q =>
  exact A1 h fun hc h=>A9 h ho fun ζ ζ ζ ζ h1 p1 h p2=>A9 h p2 fun ζ ζ ζ ζ h2 p2 h p3=>AE h fun ζ h3 h=>Ak (P:=AH W (k+1) sc (.Assign [.Attribute ob a q] v p) st) h p3 fun ζ =>
   .assignAttr (fun C r=>hT.res C _ r) hc (hE _ _ _ _ _ h1 p1) (hE _ _ _ _ _ h2 p2) h3
 case Name x q =>
  exact A1 h fun hc h=>A9 h ho fun ζ ζ ζ ζ h1 p1 h p2=>Ak (P:=AH W (k+1) sc (.Assign [.Name x q] v p) st) h p2 fun ζ=>.assign (bt hc).1 (eq_of_beq (bt hc).2) (hE _ _ _ _ _ h1 p1)
 case Tuple es n q =>
  exact A1 h fun hc h=>A9 h ho fun ζ ζ ζ ζ h1 p1 h p2=>AE h fun vs hv h=>AE h fun xs hx h=>A1 h fun hl h=>AE h fun ζ h3 h=>Ak (P:=AH W (k+1) sc (.Assign [.Tuple es n q] v p) st) h p2 fun ζ =>
   .assignTup hc (asTup_e hv▸hE _ _ _ _ _ h1 p1) (.tuple hx (bt hl).1 h3 (eq_of_beq (bt hl).2))
set_option tactic.hygienic true in
theorem augA_ok {t v:Expr} {p:Pos} (hT:DJ W k T) (hE:Cv W k sc fE) (h:augA T sc fE t v st=some (f,st',o)) (ho:Ap o):AH W (k+1) sc (.AugAssign t .Add v p) st f st':=by
 induction t using Expr.casesOn <;> first | exact no h | skip
 case Name x q =>
  refine A1 h fun hx h=>AE h fun a h0 h=>A9 h ho fun b ζ ζ ζ h1 p1 h p2=>AE h fun i hi h=>AE h fun j hj h=>?_
  rw [CD hi] at h0
  rw [CD hj] at h1
  exact Ak (P:=AH W (k+1) sc (.AugAssign (.Name x q) .Add v p) st) h p2 fun ζ=>.augInt (eq_of_beq hx) h0 (hE _ _ _ _ _ h1 p1)
 case Attribute ob a q =>
  refine A9 h ho fun b st₁ ζ ζ h1 p1 h p2=>AE h fun r hr h=>AE h fun x hx h=>A9 h p2 fun c ζ ζ ζ h2 p2 h p3=>AE h fun y hy h=>AE h fun objs h4 h9=>?_
  rw [Bb hy] at h2
  refine Iu hr (fun i C d es ha hi hd w hres hl hw e=>?_) fun i C d es ha hi hd g hres e=>?_
  ·subst e ha
   rw [Bb hx] at hl
   exact Ak (P:=AH W (k+1) sc (.AugAssign (.Attribute ob a q) .Add v p) st) h9 p3 fun po=>.augAttr (fun C r=>hT.res C _ r) (hE _ _ _ _ _ h1 p1) hi hd (hT.res _ _ _ hres) hl (hE _ _ _ _ _ h2 p2) (po _ (.head _)) h4
  ·subst e
   exact no hx
set_option tactic.hygienic true in
theorem LY {b:Stmt} (hT:DJ W k T) (hE:Cv W k sc fE) (hB:Jg W k sc fT) (hS:SndS W k sc fS) (h:LZ T sc fE fT fS b st=some (f,st',o)) (ho:Ap o):AH W (k+1) sc b st f st':=by
 induction b using Stmt.casesOn <;> first | exact no h | skip
 case Expr e p =>
  exact A1 h fun hc h=>A9 h ho fun ζ ζ ζ ζ h1 p1 h p2=>A1 h fun hp h=>Ak (P:=AH W (k+1) sc (.Expr e p) st) h p2 fun ζ=>.expr hc hp (hE _ _ _ _ _ h1 p1)
 case Assign ts v p =>
  refine AE h fun t ht h=>?_
  rw [Bd ht]
  exact assA_ok hT hE h ho
 case AugAssign t op v p =>
  refine A1 h fun hn h=>?_
  rw [isAdd_e hn]
  exact augA_ok hT hE h ho
 case If t b e p =>
  exact A9 h ho fun c ζ ζ ζ h1 p1 h p2=>.ifS (hB _ _ _ _ _ h1 p1) (by
   induction c using Bool.casesOn with
   | true=>exact hS _ _ _ _ _ h p2
   | false=>exact hS _ _ _ _ _ h p2)
 case Return oe p =>
  induction oe using Option.casesOn with
  | none=>exact Ak (P:=AH W (k+1) sc (.Return none p) st) h ho fun ζ=>.ret0
  | some e =>
   have h:thn (fE e st) (fun v st=>some (.ret v,st,[]))=some (f,st',o):=h
   exact A9 h ho fun ζ ζ ζ ζ h1 p1 h p2=>Ak (P:=AH W (k+1) sc (.Return (some e) p) st) h p2 fun ζ=>.ret (hE _ _ _ _ _ h1 p1)
 case Assert t m p =>
  exact A9 h ho fun ζ ζ ζ ζ h1 p1 h p2=>A1 h fun hc h=>Ak (P:=AH W (k+1) sc (.Assert t m p) st) h p2 fun ζ=>.asrt (hc▸hB _ _ _ _ _ h1 p1)
 case Pass p=>exact Ak (P:=AH W (k+1) sc (.Pass p) st) h ho fun ζ=>.pass
 case Break p=>exact Ak (P:=AH W (k+1) sc (.Break p) st) h ho fun ζ=>.brk
 case Continue p=>exact Ak (P:=AH W (k+1) sc (.Continue p) st) h ho fun ζ=>.cont
theorem Kn {f:AF} (h:Hv f=true):f=.next:=by induction f using AF.casesOn <;> first | rfl | exact ff h
theorem Ko {f:AF} (h:Hv f=false):f≠.next:=by rintro rfl;cases h
theorem J2 {b:List Stmt} (h1:Snd1 W k sc f1) (hS:SndS W k sc fS) (h:LV fS f1 b st=some (f,st',o)) (ho:Ap o):A8 W (k+1) sc b st f st':=by
 induction b using List.casesOn with
 | nil=>exact Ak (P:=A8 W (k+1) sc [] st) h ho fun ζ=>.nil
 | cons b r =>
  exact A9 h ho fun ζ ζ ζ ζ e1 p1 h p2=>Iq h (fun hn h=>.cons (Kn hn▸h1 _ _ _ _ _ e1 p1) (hS _ _ _ _ _ h p2)) fun hn h=>Ak (P:=A8 W (k+1) sc (b::r) st) h p2 fun ζ=>.stop (h1 _ _ _ _ _ e1 p1) (Ko hn)
end
theorem H1 (hT:DJ W k T):∀ n:Nat,Snd1 W k sc (ex1 T sc n)∧SndS W k sc (exS T sc n):=by
 intro n
 induction n with
 | zero=>exact ⟨fun ζ ζ ζ ζ ζ h=>no h,fun ζ ζ ζ ζ ζ h=>no h⟩
 | succ n ih =>
  have S:=FD (sc:=sc) hT.toTbOk hT.kinds n
  refine ⟨fun b st f st' o h ho=>?_,fun b st f st' o h ho=>J2 ih.1 ih.2 h ho⟩
  change (match T.stO sc b st with | some r=>some r | none=>LZ T sc (evE T sc n) (tsE T sc n) (exS T sc n) b st)=_ at h
  cases hx:T.stO sc b st with
  | some r=>rw [hx] at h;exact hT.stO _ _ _ _ _ _ (hx.trans h) ho
  | none=>rw [hx] at h;exact LY hT S.e S.t ih.2 h ho
theorem AN (hT:DJ W k T) {n:Nat} {b:List Stmt} {st st':ST} {f:AF} {o:List Nat} (h:exS T sc n b st=some (f,st',o)) (ho:∀ n∈o,n≤sizeLine):A8 W (k+1) sc b st f st':=(H1 hT n).2 _ _ _ _ _ h ho
theorem BW (hT:DJ W k T) {n:Nat} {e:Expr} {st st':ST} {v:AV} {o:List Nat} (h:evE T sc n e st=some (v,st',o)) (ho:∀ n∈o,n≤sizeLine):AA W (k+1) sc e st v st':=(FD hT.toTbOk hT.kinds n).e _ _ _ _ _ h ho
theorem Gi (hT:DJ W k T) {n:Nat} {e:Expr} {st st':ST} {b:Bool} {o:List Nat} (h:tsE T sc n e st=some (b,st',o)) (ho:∀ n∈o,n≤sizeLine):AL W (k+1) sc e st b st':=(FD hT.toTbOk hT.kinds n).t _ _ _ _ _ h ho
end
end Mine
end
section
set_option maxRecDepth 10000
namespace Mine
open PySem PySem.W PyProof.Rows PySem.Calls PySem.Spec
noncomputable def Ir:Expr→Option (Expr×List Expr×List Keyword×Pos)
 | .Call f as ks p=>some (f,as,ks,p)
 | _=>none
noncomputable def attrI:Expr→Option (Expr×Str×Pos)
 | .Attribute o n p=>some (o,n,p)
 | _=>none
noncomputable def HC:Expr→Option (Str×Pos)
 | .Name x p=>some (x,p)
 | _=>none
noncomputable def cmpJ:Expr→Option (Expr×List CmpOp×List Expr×Pos)
 | .Compare l ops rs p=>some (l,ops,rs,p)
 | _=>none
noncomputable def subsI:Expr→Option (Expr×Expr×Pos)
 | .Subscript v i p=>some (v,i,p)
 | _=>none
noncomputable def exprI:Stmt→Option (Expr×Pos)
 | .Expr e p=>some (e,p)
 | _=>none
noncomputable def JQ {α:Type}:List α→Bool
 | []=>true
 | _::_=>false
noncomputable def inOp:CmpOp→Bool
 | .In=>true
 | _=>false
noncomputable def Ie:CmpOp→Bool
 | .IsNot=>true
 | _=>false
theorem Ga {e:Expr} {c:Expr×List Expr×List Keyword×Pos} (h:Ir e=some c):e=.Call c.1 c.2.1 c.2.2.1 c.2.2.2:=by induction e using Expr.casesOn <;> first | exact no h | exact Option.some.inj h▸rfl
theorem attrI_e {e:Expr} {c:Expr×Str×Pos} (h:attrI e=some c):e=.Attribute c.1 c.2.1 c.2.2:=by induction e using Expr.casesOn <;> first | exact no h | exact Option.some.inj h▸rfl
theorem GK {e:Expr} {c:Str×Pos} (h:HC e=some c):e=.Name c.1 c.2:=by induction e using Expr.casesOn <;> first | exact no h | exact Option.some.inj h▸rfl
theorem cmpJ_e {e:Expr} {c:Expr×List CmpOp×List Expr×Pos} (h:cmpJ e=some c):e=.Compare c.1 c.2.1 c.2.2.1 c.2.2.2:=by induction e using Expr.casesOn <;> first | exact no h | exact Option.some.inj h▸rfl
theorem subsI_e {e:Expr} {c:Expr×Expr×Pos} (h:subsI e=some c):e=.Subscript c.1 c.2.1 c.2.2:=by induction e using Expr.casesOn <;> first | exact no h | exact Option.some.inj h▸rfl
theorem exprI_e {e:Stmt} {c:Expr×Pos} (h:exprI e=some c):e=.Expr c.1 c.2:=by induction e using Stmt.casesOn <;> first | exact no h | exact Option.some.inj h▸rfl
theorem HB {α:Type} {l:List α} (h:JQ l=true):l=[]:=by induction l using List.casesOn <;> first | rfl | exact ff h
theorem inOp_e {a:CmpOp} (h:inOp a=true):a=.In:=by induction a using CmpOp.casesOn <;> first | rfl | exact ff h
theorem JU {a:CmpOp} (h:Ie a=true):a=.IsNot:=by induction a using CmpOp.casesOn <;> first | rfl | exact ff h
noncomputable def DX (x:Str) (e:Expr):Option Expr:=(Ir e).bind fun c=>(HC c.1).bind fun n=>(one c.2.1).bind fun a=>grd (JQ c.2.2.1&&(n.1==x&&A4 a)) (some a)
theorem DG {x:Str} {e a:Expr} (h:DX x e=some a):∃ p pos,e=.Call (.Name x p) [a] [] pos∧A4 a=true :=
 AE h fun c hc h=>AE h fun n hn h=>AE h fun b ha h=>A1 h fun g h=>by
  have e1:=Ga hc
  rw [GK hn,Bd ha,HB (bt g).1,eq_of_beq (bt (bt g).2).1] at e1
  cases h
  exact ⟨_,_,e1,(bt (bt g).2).2⟩
noncomputable def KW (nm:Str) (e:Expr):Option (Expr×Pos×List Expr×Pos):=(Ir e).bind fun c=>(attrI c.1).bind fun t=>grd (JQ c.2.2.1&&(t.2.1==nm)&&Am t.1&&c.2.1.all A4&&(t.2.2.endLine==c.2.2.2.line)) (some (t.1,t.2.2,c.2.1,c.2.2.2))
theorem I7 {nm:Str} {e:Expr} {m:Expr×Pos×List Expr×Pos} (h:KW nm e=some m):e=.Call (.Attribute m.1 nm m.2.1) m.2.2.1 [] m.2.2.2∧Am m.1=true∧m.2.2.1.all A4=true∧(m.2.1.endLine==m.2.2.2.line)=true :=
 AE h fun c hc h=>AE h fun t ht h=>A1 h fun g h=>by
  have e1:=Ga hc
  rw [attrI_e ht,HB (bt (bt (bt (bt g).1).1).1).1,eq_of_beq (bt (bt (bt (bt g).1).1).1).2] at e1
  cases h
  exact ⟨e1,(bt (bt (bt g).1).1).2,(bt (bt g).1).2,(bt g).2⟩
noncomputable def I8 (nm:Str) (e:Expr):Option (Expr×Expr):=(KW nm e).bind fun m=>(one m.2.2.1).bind fun a=>some (m.1,a)
theorem E7 {nm:Str} {e s a:Expr} (h:I8 nm e=some (s,a)):∃ ap p,e=.Call (.Attribute s nm ap) [a] [] p∧Am s=true∧[a].all A4=true∧(ap.endLine==p.line)=true :=
 AE h fun m hm h=>AE h fun b hb h=>by
  have e1:=I7 hm
  rw [Bd hb] at e1
  cases h
  exact ⟨_,_,e1⟩
noncomputable def meth2 (nm:Str) (e:Expr):Option (Expr×Expr×Expr):=(KW nm e).bind fun m=>match m.2.2.1 with
 | []=>none
 | a::r=>(one r).bind fun b=>some (m.1,a,b)
theorem meth2_e {nm:Str} {e s a b:Expr} (h:meth2 nm e=some (s,a,b)):∃ ap p,e=.Call (.Attribute s nm ap) [a,b] [] p∧Am s=true∧[a,b].all A4=true∧(ap.endLine==p.line)=true:=by
 refine AE h fun m hm h=>?_
 obtain ⟨o,ap,as,p⟩:=m
 have e1:=I7 hm
 induction as using List.casesOn with
 | nil=>exact no h
 | cons a' r=>exact AE h fun b' hb h=>by rw [Bd hb] at e1;cases h;exact ⟨_,_,e1⟩
noncomputable def Lp (e:Expr):Option (Expr×CmpOp×Expr):=(cmpJ e).bind fun c=>(one c.2.1).bind fun op=>(one c.2.2.1).bind fun r=>some (c.1,op,r)
theorem Eb {e l r:Expr} {op:CmpOp} (h:Lp e=some (l,op,r)):∃ pos,e=.Compare l [op] [r] pos :=
 AE h fun c hc h=>AE h fun o ho h=>AE h fun r hr h=>by
  have e1:=cmpJ_e hc
  rw [Bd ho,Bd hr] at e1
  cases h
  exact ⟨_,e1⟩
noncomputable def isIn (e:Expr):Option (Expr×Expr):=(Lp e).bind fun c=>grd (inOp c.2.1) (some (c.1,c.2.2))
theorem isIn_eq {e l r:Expr} (h:isIn e=some (l,r)):∃ pos,e=.Compare l [.In] [r] pos :=
 AE h fun c hc h=>A1 h fun g h=>by
  obtain ⟨l',op,r'⟩:=c
  cases h
  rw [← inOp_e g]
  exact Eb hc
noncomputable def Km (e:Expr):Option (Expr×Expr):=(Lp e).bind fun c=>grd (Ie c.2.1) (some (c.1,c.2.2))
theorem JV {e l r:Expr} (h:Km e=some (l,r)):∃ pos,e=.Compare l [.IsNot] [r] pos :=
 AE h fun c hc h=>A1 h fun g h=>by
  obtain ⟨l',op,r'⟩:=c
  cases h
  rw [← JU g]
  exact Eb hc
noncomputable def I1 (e:Expr):Option (Expr×Expr):=(subsI e).bind fun c=>(E5 c.2.1).bind fun p=>grd p.1.isNone (p.2.bind fun hi=>some (c.1,hi))
theorem Hk {e v hi:Expr} (h:I1 e=some (v,hi)):∃ q pos,e=.Subscript v (.Slice none (some hi) none q) pos :=
 AE h fun c hc h=>AE h fun p hp h=>A1 h fun g h=>AE h fun hi' hh h=>by
  obtain ⟨q,e2⟩:=F4 hp
  have e1:=subsI_e hc
  rw [e2,Option.isNone_iff_eq_none.mp g,hh] at e1
  cases h
  exact ⟨_,_,e1⟩
noncomputable def kwOf (x:Str) (e:Expr):Option (Expr×Expr):=(Ir e).bind fun c=>(HC c.1).bind fun n=>(one c.2.1).bind fun a=>(one c.2.2.1).bind fun kw=>grd (n.1==x&&decide (kw.arg=some "posix")&&A4 a) (some (a,kw.value))
theorem kwOf_eq {x:Str} {e a v:Expr} (h:kwOf x e=some (a,v)):∃ p kw pos,e=.Call (.Name x p) [a] [kw] pos∧kw.arg=some "posix"∧kw.value=v∧A4 a=true :=
 AE h fun c hc h=>AE h fun n hn h=>AE h fun b ha h=>AE h fun kw hk h=>A1 h fun g h=>by
  have e1:=Ga hc
  rw [GK hn,Bd ha,Bd hk,eq_of_beq (bt (bt g).1).1] at e1
  cases h
  exact ⟨_,_,_,e1,of_decide_eq_true (bt (bt g).1).2,rfl,(bt g).2⟩
end Mine
end
section
set_option maxRecDepth 10000
namespace Mine
open PySem PySem.W PyProof.Rows PySem.Calls PySem.Spec
variable [T₀:AY]
section
variable {W:Wd} {Z:AK} {L:Addr} {as:List Addr} {A:Around} {E:Value→Shared→Prop} {s:Shared} {k:Nat} {objs:List AO}
theorem HT {xs:List AV}:AR W k (.builtin "isinstance") [.lst xs,.top (.type "str")] objs (.bool false) objs:=by
 intro Z as vals s A Q E hR zn ow hv q
 cases hv using IsL.e2 with
 | _ _ h1 _ h2 =>
  cases h1 using Is.e_lst with
  | _ _ _ _ z hx hl =>
   cases h2 using Is.e_top
   exact PySem.IsiPair.list_str (zn.keep _ _ z) rfl (q _ _ _ _ zn ow .refl (.bool _))
theorem Hz {x:Str}:AR W k (.builtin "isinstance") [.str x,.top (.type "str")] objs (.bool true) objs:=by
 intro Z as vals s A Q E hR zn ow hv q
 cases hv using IsL.e2 with
 | _ _ h1 _ h2 =>
  cases h1 using Is.e_str;cases h2 using Is.e_top
  exact PySem.IsiPair.str_str (q _ _ _ _ zn ow .refl' (.bool _))
theorem Hx {x:Str}:AR W k (.builtin "len") [.str x] objs (.int x.length) objs:=by
 intro Z as vals s A Q E hR zn ow hv q
 cases hv using IsL.e1 with
 | _ _ h1 =>
  cases h1 using Is.e_str with
  | _ t hl =>
   rw [sizeLine_eq] at hl
   exact P.len_str (inb hl (by decide)) (q _ _ _ _ zn ow .refl (.int _ _))
theorem Hy {xs:List AV}:AR W k (.builtin "len") [.lst xs] objs (.int xs.length) objs:=by
 intro Z as vals s A Q E hR zn ow hv q
 cases hv using IsL.e1 with
 | _ _ h1 =>
  cases h1 using Is.e_lst with
  | _ a vs n z hx hl =>
   rw [sizeLine_eq] at hl
   refine call_len_list (BI (zn.keep _ _ z)) (by simp;exact iub hl (by decide)) (q _ _ _ _ zn ow .refl ?_)
   rw [List.size_toArray,hx.length]
   exact .int _ _
theorem HR {n:Int}:AR W k (.type "type") [.int n] objs (.top (.type "int")) objs:=by
 intro Z as vals s A Q E hR zn ow hv q
 cases hv using IsL.e1 with
 | _ _ h1 =>
  cases h1 using Is.e_int;exact call_type_of (typeIs_int _ _ _) (by decide) (q _ _ _ _ zn ow .refl' (.top _))
theorem HQ {x:Str}:AR W k (.type "type") [.str x] objs (.top (.type "str")) objs:=by
 intro Z as vals s A Q E hR zn ow hv q
 cases hv using IsL.e1 with
 | _ _ h1 =>
  cases h1 using Is.e_str;exact call_type_of (typeIs_str _ _ _) (by decide) (q _ _ _ _ zn ow .refl' (.top _))
theorem fn_int {n:Int}:AR W k (.type "int") [.int n] objs (.int n) objs:=by
 intro Z as vals s A Q E hR zn ow hv q
 cases hv using IsL.e1 with
 | _ _ h1 =>
  cases h1 using Is.e_int;exact call_int_int (q _ _ _ _ zn ow .refl' (.int _ _))
theorem IT:∀ {ys:List Str} {vs:List Value},IsL Z as (ys.map .str) vs→StrsAre vs ys:=by
 intro ys
 induction ys with
 | nil=>intro vs h;cases h using IsL.e_nil;exact .nil
 | cons y ys ih =>
  intro vs h
  change IsL Z as (.str y::ys.map .str) vs at h
  cases h using IsL.e_cons with
  | _ w ws h l=>cases h using Is.e_str with
   | _ t=>exact .cons y t (ih l)
theorem Ib {sep:Str} {t:Tok} {ys:List Str} {a:Addr} {vs:List Value} {n:Nat} {Q:Value→Shared→Prop} (h:s.heap.get? a=some (Af vs n)) (hs:StrsAre vs ys) (hok:(ys.map (·.length)).sum+ys.length*sep.length≤16777216)
  (q:∀ u tk,(Txt.join sep ys).length≤sizeLine→Q (.str (Txt.join sep ys) u) {s with toks:=tk}):wpAny W.M A (call (.builtin "str.join") [.str sep t,.ref a]) Q E s:=by
 refine join_list (BI h) (by simpa using hs) hok fun t' tk=>q _ _ ?_
 have:(Txt.join sep ys).length=(ys.map (·.length)).sum+(ys.length - 1)*sep.length:=size_glued sep ys
 rw [this,sizeLine_eq]
 have:(ys.length - 1)*sep.length≤ys.length*sep.length:=Nat.mul_le_mul_right _ (Nat.sub_le _ _)
 exact (lin hok (lin this (by simp +arith only)))
theorem EY {sep:Str} {ys:List Str} (hok:(ys.map (·.length)).sum+ys.length*sep.length≤16777216):AR W k (.builtin "str.join") [.str sep,.lst (ys.map .str)] objs (.str (Txt.join sep ys)) objs:=by
 intro Z as vals s A Q E hR zn ow hv q
 cases hv using IsL.e2 with
 | _ _ h1 _ h2 =>
  cases h1 using Is.e_str
  cases h2 using Is.e_lst with
  | _ _ _ _ z hx hl=>exact Ib (zn.keep _ _ z) (IT hx) hok fun u tk hl=>q _ _ _ _ zn ow .refl (.str _ hl)
theorem EX {sep:Str} {ys:List Str} {i:Nat} (hi:objs[i]?=some (.list (ys.map .str))) (hok:(ys.map (·.length)).sum+ys.length*sep.length≤16777216):AR W k (.builtin "str.join") [.str sep,.own i] objs (.str (Txt.join sep ys)) objs:=by
 intro Z as vals s A Q E hR zn ow hv q
 cases hv using IsL.e2 with
 | _ _ h1 _ h2 =>
  cases h1 using Is.e_str
  cases h2 using Is.e_own with
  | _ _ ha =>
   refine AG (ow.obj _ _ _ ha hi) fun o h3 h4=>?_
   cases h4 using IsO.e_list with
   | _ _ _ hx hl=>exact Ib h3 (IT hx) hok fun u tk hl=>q _ _ _ _ zn ow .refl (.str _ hl)
theorem Fj {x:Str} (h:Txt.lstrip x=x):AR W k (.builtin "str.lstrip") [.str x] objs (.str x) objs:=by
 intro Z as vals s A Q E hR zn ow hv q
 cases hv using IsL.e1 with
 | _ _ h1 =>
  cases h1 using Is.e_str with
  | _ t hl=>exact SC.lstrip (fun t' tk=>by rw [h];exact q _ _ _ _ zn ow .refl (.str _ hl)) hl
theorem J0 {x:Str} (h:Txt.rstrip x=x):AR W k (.builtin "str.rstrip") [.str x] objs (.str x) objs:=by
 intro Z as vals s A Q E hR zn ow hv q
 cases hv using IsL.e1 with
 | _ _ h1 =>
  cases h1 using Is.e_str with
  | _ t hl=>exact SC.rstrip (fun t' tk=>by rw [h];exact q _ _ _ _ zn ow .refl (.str _ hl)) hl
theorem JZ {x y:Str}:AR W k (.builtin "str.startswith") [.str x,.str y] objs (.bool (Txt.startswith x y)) objs:=by
 intro Z as vals s A Q E hR zn ow hv q
 cases hv using IsL.e2 with
 | _ _ h1 _ h2 =>
  cases h1 using Is.e_str;cases h2 using Is.e_str;exact SC.startswith (q _ _ _ _ zn ow .refl' (.bool _))
theorem HS {x y z:Str} (h:(Builtin.Str.occurrences x y 0 x.length (x.length+1)).isEmpty=true):AR W k (.builtin "str.replace") [.str x,.str y,.str z] objs (.str x) objs:=by
 intro Z as vals s A Q E hR zn ow hv q
 cases hv using IsL.e3 with
 | _ _ h1 _ h2 _ h3 =>
  cases h1 using Is.e_str with
  | _ t hl =>
   cases h2 using Is.e_str;cases h3 using Is.e_str
   refine call_gives F.slot_str_replace (typeIs_str _ _ _) F.entry_str_replace (F.args_str_replace_3 _ _ _) (PySem.gives_str_replace x y z t _ _ fun e=>by rw [h] at e;cases e) ?_
   rw [h]
   exact q _ _ _ _ zn ow .refl' (.str _ hl)
end
mutual
noncomputable def AV.lt (n:Nat):AV→Bool
 | .own i=>decide (i<n)
 | .lst xs=>AV.ltL n xs
 | .tup xs=>AV.ltL n xs
 | _=>true
noncomputable def AV.ltL (n:Nat):List AV→Bool
 | []=>true
 | x::xs=>AV.lt n x&&AV.ltL n xs
end
section
variable {W:Wd} {Z:AK} {L:Addr} {as:List Addr} {A:Around} {E:Value→Shared→Prop} {s:Shared} {k:Nat}
theorem Is.lt {a:AV} {v:Value} (h:Is Z as a v):AV.lt as.length a=true :=
 Is.rec (motive_1:=fun x ζ ζ=>AV.lt as.length x=true) (motive_2:=fun x ζ ζ=>AV.ltL as.length x=true) rfl (fun ζ=>rfl) (fun ζ ζ=>rfl) (fun ζ ζ=>rfl) (fun ζ=>rfl) (fun h=>decide_eq_true (List.getElem?_eq_some_iff.mp h).1)
  (fun ζ ζ ζ ih=>ih) (fun ζ ζ ζ ih=>ih) (fun ζ ζ=>rfl) rfl (fun ζ ζ ih ih'=>Bool.and_eq_true_iff.mpr ⟨ih,ih'⟩) h
theorem IsL.lt {a:List AV} {v:List Value} (h:IsL Z as a v):AV.ltL as.length a=true :=
 IsL.rec (motive_1:=fun x ζ ζ=>AV.lt as.length x=true) (motive_2:=fun x ζ ζ=>AV.ltL as.length x=true) rfl (fun ζ=>rfl) (fun ζ ζ=>rfl) (fun ζ ζ=>rfl) (fun ζ=>rfl) (fun h=>decide_eq_true (List.getElem?_eq_some_iff.mp h).1)
  (fun ζ ζ ζ ih=>ih) (fun ζ ζ ζ ih=>ih) (fun ζ ζ=>rfl) rfl (fun ζ ζ ih ih'=>Bool.and_eq_true_iff.mpr ⟨ih,ih'⟩) h
theorem I3 {more:List Addr} {i:Nat} {a:Addr} (h:(as++more)[i]?=some a) (l:AV.lt as.length (.own i)=true):Is Z as (.own i) (.ref a):=.own (by
 have l:decide (i<as.length)=true:=l
 rw [List.getElem?_append_left (of_decide_eq_true l)] at h;exact h)
theorem Is.cut {more:List Addr} {a:AV} {v:Value} (h:Is Z (as++more) a v):AV.lt as.length a=true→Is Z as a v :=
 Is.rec (motive_1:=fun x v ζ=>AV.lt as.length x=true→Is Z as x v) (motive_2:=fun x v ζ=>AV.ltL as.length x=true→IsL Z as x v) (fun ζ=>.none) (fun b ζ=>.bool b) (fun i t ζ=>.int i t) (fun t h ζ=>.str t h) (fun v ζ=>.top v) I3
  (fun z ζ n ih l=>.lst z (ih l) n) (fun z ζ n ih l=>.tup z (ih l) n) (fun a b ζ=>.mtch a b) (fun ζ=>.nil) (fun ζ ζ ih ih' l=>.cons (ih (Bool.and_eq_true_iff.mp l).1) (ih' (Bool.and_eq_true_iff.mp l).2)) h
theorem IsL.cut {more:List Addr} {a:List AV} {v:List Value} (h:IsL Z (as++more) a v):AV.ltL as.length a=true→IsL Z as a v :=
 IsL.rec (motive_1:=fun x v ζ=>AV.lt as.length x=true→Is Z as x v) (motive_2:=fun x v ζ=>AV.ltL as.length x=true→IsL Z as x v) (fun ζ=>.none) (fun b ζ=>.bool b) (fun i t ζ=>.int i t) (fun t h ζ=>.str t h) (fun v ζ=>.top v) I3
  (fun z ζ n ih l=>.lst z (ih l) n) (fun z ζ n ih l=>.tup z (ih l) n) (fun a b ζ=>.mtch a b) (fun ζ=>.nil) (fun ζ ζ ih ih' l=>.cons (ih (Bool.and_eq_true_iff.mp l).1) (ih' (Bool.and_eq_true_iff.mp l).2)) h
theorem BX.cut {more:List Addr} {es:List (Str×AV)} {ds ds₀:List DictEntry} {Z₀:AK} (h:BX Z (as++more) es ds) (h₀:BX Z₀ as es ds₀):BX Z as es ds:=by
 induction h generalizing ds₀ with
 | nil=>exact .nil
 | cons a _ ih =>
  cases h₀ with
  | cons a₀ r₀=>exact .cons (a.cut a₀.lt) (ih r₀)
theorem IsO.cut {more:List Addr} {x:AO} {o o₀:Obj} {Z₀:AK} (h:IsO Z (as++more) x o) (h₀:IsO Z₀ as x o₀):IsO Z as x o:=by
 induction h using IsO.casesOn with
 | list q l=>cases h₀ using IsO.e_list with | _ _ _ q₀ _=>exact .list (q.cut q₀.lt) l
 | inst q =>
  cases h₀ using IsO.e_inst with
  | _ _ _ q₀ =>
   rw [List.getElem?_append_left (List.getElem?_eq_some_iff.mp q₀).1] at q
   exact .inst q
 | dict q=>cases h₀ using IsO.e_dict with | _ _ _ q₀=>exact .dict (q.cut q₀)
 | raw q=>exact .raw q
 | fn z q=>exact .fn z q
mutual
noncomputable def ice (n:Nat) (objs:List AO):Nat→AV→Option AV
 | 0,_=>none
 | f+1,.own i=>if i<n then some (.own i) else (objs[i]?).bind fun o=>(EV o).bind fun xs=>(CQ n objs f xs).map .lst
 | f+1,.lst xs=>(CQ n objs f xs).map .lst
 | f+1,.tup xs=>(CQ n objs f xs).map .tup
 | _+1,a=>some a
noncomputable def CQ (n:Nat) (objs:List AO):Nat→List AV→Option (List AV)
 | 0,_=>none
 | _+1,[]=>some []
 | f+1,x::xs=>(ice n objs f x).bind fun y=>(CQ n objs f xs).map (y::·)
end
theorem GT {n f i:Nat} {objs:List AO}:ice n objs (f+1) (.own i)=if i<n then some (.own i) else (objs[i]?).bind fun o=>(EV o).bind fun xs=>(CQ n objs f xs).map .lst:=rfl
theorem ice_ok {more:List Addr} {objs:List AO} {h:Heap} (ow:Ow Z (as++more) objs h):∀ f:Nat,(∀ (a b:AV) (v:Value),Is Z (as++more) a v→ice as.length objs f a=some b→Is (fun x o=>Z x o∨(x∈more∧h.get? x=some o)) as b v) ∧
  (∀ (a b:List AV) (v:List Value),IsL Z (as++more) a v→CQ as.length objs f a=some b→IsL (fun x o=>Z x o∨(x∈more∧h.get? x=some o)) as b v):=by
 intro f
 induction f with
 | zero=>exact ⟨fun a b v ζ e=>no e,fun a b v ζ e=>no e⟩
 | succ f ih =>
  refine ⟨fun a b v hv e=>?_,fun a b v hv e=>?_⟩
  ·induction a using AV.casesOn with
   | none=>obtain rfl:=Option.some.inj e;cases hv using Is.e_none;exact .none
   | bool x=>obtain rfl:=Option.some.inj e;cases hv using Is.e_bool;exact .bool _
   | int x=>obtain rfl:=Option.some.inj e;cases hv using Is.e_int;exact .int _ _
   | str x=>obtain rfl:=Option.some.inj e;cases hv using Is.e_str;exact .str _ (by assumption)
   | top x=>obtain rfl:=Option.some.inj e;cases hv using Is.e_top;exact .top _
   | mtch=>obtain rfl:=Option.some.inj e;cases hv using Is.e_mtch with | _ _ _ _ _ _ _ z1 z2=>exact .mtch (.inl z1) (.inl z2)
   | own i =>
    replace e:=GT.symm.trans e
    cases hv using Is.e_own with
    | _ ad ha =>
     by_cases hi:i<as.length
     ·rw [if_pos hi] at e
      obtain rfl:=Option.some.inj e
      rw [List.getElem?_append_left hi] at ha
      exact .own ha
     ·rw [if_neg hi] at e
      refine AE e fun o hx e=>AE e fun xs hl e=>?_
      rw [Cz hl] at hx
      refine AG (Option.map_eq_some_iff.mp e) fun ys h1 r2_=>?_;subst r2_
      refine AG (ow.obj _ _ _ ha hx) fun o ho hio=>?_
      cases hio using IsO.e_list with
      | _ _ _ q l =>
       refine .lst (.inr ⟨?_,ho⟩) (ih.2 _ _ _ q h1) l
       rw [List.getElem?_append_right (Nat.le_of_not_lt hi)] at ha
       exact List.mem_of_getElem? ha
   | lst xs =>
    refine AG (Option.map_eq_some_iff.mp (show (CQ as.length objs f xs).map AV.lst=some b from e)) fun ys h1 r2_=>?_;subst r2_
    cases hv using Is.e_lst with
    | _ _ _ _ z q l=>exact .lst (.inl z) (ih.2 _ _ _ q h1) l
   | tup xs =>
    refine AG (Option.map_eq_some_iff.mp (show (CQ as.length objs f xs).map AV.tup=some b from e)) fun ys h1 r2_=>?_;subst r2_
    cases hv using Is.e_tup with
    | _ _ _ _ z q l=>exact .tup (.inl z) (ih.2 _ _ _ q h1) l
  ·induction a using List.casesOn with
   | nil=>obtain rfl:=Option.some.inj e;cases hv using IsL.e_nil;exact .nil
   | cons x xs =>
    refine AE (show (ice as.length objs f x).bind (fun y=>(CQ as.length objs f xs).map (y::·))=some b from e) fun y e1 e2=>?_
    refine AG (Option.map_eq_some_iff.mp e2) fun ys e3 r2_=>?_;subst r2_
    cases hv using IsL.e_cons with
    | _ _ _ h1 h2=>exact .cons (ih.1 _ _ _ h1 e1) (ih.2 _ _ _ h2 e3)
theorem AR.iced {f:Value} {args:List AV} {objs tail:List AO} {r r':AV} {fu:Nat} (h:AR W k f args objs r (objs++tail)) (hi:ice objs.length (objs++tail) fu r=some r'):AR W k f args objs r' objs:=by
 intro Z as vals s A Q E hR zn ow hv q
 refine h Z as vals s A Q E hR zn ow hv fun Z₁ as₁ u s₁ zn₁ ow₁ e₁ hu=>?_
 refine AG e₁.pre fun more r1_ hm=>?_;subst r1_
 rw [← ow.len] at hi
 have hu':=(ice_ok ow₁ fu).1 _ _ _ hu hi
 refine q _ as _ _ ⟨fun a o e=>.inl (zn₁.kin a o e),fun b o e=>?_,fun b o e=>?_,zn₁.tab.mono fun b o e=>.inl e⟩ ⟨ow.len,fun i a x e1 e2=>?_,ow.nodup,fun a ha=>⟨fun o e=>?_,(ow.out a ha).2⟩⟩ ⟨fun b o e=>.inl (e₁.zsub b o e),fun b o e=>?_,⟨[],by simp,fun ζ h=>(nomatch h)⟩,e₁.keep,e₁.size,e₁.gens,e₁.drawn,e₁.os⟩ hu'
 ·rcases e with e | ⟨_,e⟩
  ·exact zn₁.keep b o e
  ·exact e
 ·rcases e with e | ⟨hb,_⟩
  ·exact zn₁.low b o e
  ·exact (ow₁.out b (List.mem_append_right _ hb)).2
 ·have hlt:=(List.getElem?_eq_some_iff.mp e1).1
  have hlt':=(List.getElem?_eq_some_iff.mp e2).1
  refine AG (ow₁.obj i a x (by rw [List.getElem?_append_left hlt];exact e1) (by rw [List.getElem?_append_left hlt'];exact e2)) fun o h1 h2=>?_
  refine AG (ow.obj i a x e1 e2) fun o₀ ζ h20=>?_
  have:=(h2.cut h20).mono (more:=[]) (fun b o e=>(Or.inl e:Z₁ b o∨(b∈more∧s₁.heap.get? b=some o)))
  rw [List.append_nil] at this
  exact ⟨o,h1,this⟩
 ·rcases e with e | ⟨hb,_⟩
  ·exact (ow₁.out a (List.mem_append_left _ ha)).1 o e
  ·have:=(List.nodup_append.mp ow₁.nodup).2.2 a ha a hb
   exact this rfl
 ·rcases e with e | ⟨hb,_⟩
  ·exact e₁.znew b o e
  ·exact .inr (hm b hb)
end
end Mine
end
section
set_option maxRecDepth 10000
namespace Mine
open PySem PySem.W PyProof.Rows PySem.Calls PySem.Spec
variable [T₀:AY]
structure DY (W:Wd) (c P:Addr):Prop where
 tab:P∈tabs
 hd:∀ h:Heap,W.K.In h→CodeHd h c P
 glob:∃ mg,∀ h:Heap,W.K.In h→h.Ns mainGlobals mg∧h.BuiltinsAt mg P
 ne:mainGlobals≠P
section
variable {W:Wd} {Z:AK} {L:Addr} {as:List Addr} {st:ST} {A:Around} {E:Value→Shared→Prop} {s:Shared} {k:Nat} {sc:Scope} {env:Env}
theorem Sta.filled {P c:Addr} {oc:Obj} {h':Heap} {tk:Nat} (S:Sta W Z L as st s) (hP:P∈tabs) (hx:Heap.ExtBut P s.heap h') (hsz:s.heap.objs.size≤h'.objs.size) (hc:s.heap.objs.size≤c) (hoc:h'.get? c=some oc) (co:FJ oc (W.tp P).2.2)
  (ht:h'.get? P=some (tabObj #[rawInt (W.tp P).1,rawInt (W.tp P).2.1,.ref c])) :
  let Z':AK:=fun b o=>Z b o∨(b=c∧o=oc)
  Sta W Z' L as st {s with heap:=h',toks:=tk}∧Evo [L] Z Z' as as s {s with heap:=h',toks:=tk}∧Z' c oc:=by
 intro Z'
 have hz:∀ b o,Z b o→Z' b o:=fun ζ ζ h=>.inl h
 have noT:∀ b∉tabs,b≠P:=fun b hb z=>hb (z▸hP)
 have isz:∀ t∈tabs,t<s.heap.objs.size:=fun t ht=>AG (S.zn.tab t ht) fun vs e ζ=>Heap.lt_size e
 have noIn:∀ a∈as,a<s.heap.objs.size:=fun a ha=>by
  refine oEP (List.getElem_of_mem ha) fun i hi r2_=>?_;subst r2_
  have hi':i<st.objs.length:=by rw [← S.ow.len];exact hi
  refine AG (S.ow.obj i _ st.objs[i] (List.getElem?_eq_getElem hi) (List.getElem?_eq_getElem hi')) fun o h1 ζ=>?_
  exact Heap.lt_size h1
 have lt:∀ {Q:Prop} {b:Addr},b=c→b<s.heap.objs.size→Q:=fun e q=>absurd q (Nat.not_lt.mpr (e▸hc))
 refine AG (S.fr.ns) fun m hn hm=>?_
 refine ⟨⟨⟨fun a o e=>.inl (S.zn.kin a o e),fun b o e=>?_,fun b o e=>?_,fun t htt=>?_⟩,⟨S.ow.len,fun i a x e1 e2=>?_,S.ow.nodup,fun a ha=>⟨fun o e=>?_,(S.ow.out a ha).2⟩⟩,⟨⟨m,?_,fun x a q=>?_⟩,S.fr.notIn,fun o e=>?_,S.fr.out.2⟩⟩,
  ⟨hz,fun b o e=>e.imp id fun ⟨e,_⟩=>e▸hc,⟨[],by simp,fun ζ h=>(nomatch h)⟩,fun b o h ζ ζ h3=>hx b o (noT b h3) h,hsz,AY.grr _,rfl,rfl⟩,.inr ⟨rfl,rfl⟩⟩
 ·rcases e with e | ⟨rfl,rfl⟩
  ·exact hx b o (noT b (S.zn.low b o e)) (S.zn.keep b o e)
  ·exact hoc
 ·rcases e with e | ⟨rfl,rfl⟩
  ·exact S.zn.low b o e
  ·exact fun z=>lt rfl (isz _ z)
 ·by_cases hp:t=P
  ·subst hp
   exact ⟨_,ht,.inr ⟨c,oc,rfl,.inr ⟨rfl,rfl⟩,co⟩⟩
  ·refine AG (S.zn.tab t htt) fun vs e tv=>?_
   exact ⟨vs,hx t _ hp e,tv.mono hz⟩
 ·refine AG (S.ow.obj i a x e1 e2) fun o h1 h2=>?_
  have:=h2.mono (more:=[]) hz
  rw [List.append_nil] at this
  exact ⟨o,hx a o (noT a (S.ow.out a (List.mem_of_getElem? e1)).2) h1,this⟩
 ·rcases e with e | ⟨e,_⟩
  ·exact (S.ow.out a ha).1 o e
  ·exact lt e (noIn a ha)
 ·refine F6 hn fun o es ep ho r=>?_
  exact ⟨o,es,ep,hx L o (noT L S.fr.out.2) ho,r⟩
 ·refine AG (hm x a q) fun v h1 h2=>?_
  have:=h2.mono (more:=[]) hz
  rw [List.append_nil] at this
  exact ⟨v,h1,this⟩
 ·rcases e with e | ⟨e,_⟩
  ·exact S.fr.out.1 o e
  ·exact lt e hn.lt
theorem AA.lambda {params:Arguments} {body:Expr} {scope:Scope} {pos:Pos} {c P:Addr} {q:Str} (nk:DY W c P) (hcd:DW sc=some (c,q)) (htp:W.tp P=((pos.line:Int),(pos.col:Int),q++("<lambda>":Str))) (hdef:∀ env,defaultsOf params env=([],[]))
  (hfree:∀ x∈scope.names,x.2≠.free):AA W k sc (.Lambda params body scope pos) st (.own st.objs.length) {st with objs:=st.objs++[.fn params body scope (q++("<lambda>":Str))]}:=by
 intro Z L as s A Q E env hE hR hS qq
 refine kla_eval (hdef env) ?_
 obtain ⟨hc,hq⟩:=hE.code _ _ hcd
 rw [hq]
 refine AG (hS.zn.tab P nk.tab) fun vs hP tv=>?_
 obtain ⟨mg,hg⟩:=nk.glob
 obtain ⟨hg,hb⟩:=hg _ hS.zn.kIn
 have C:=nk.hd _ hS.zn.kIn
 have fin:∀ {Z':AK} {s':Shared} {oc:Obj} {cc:Addr} {pm ctv:Value} {tk:Nat},Sta W Z' L as st s'→Evo [L] Z Z' as as s s'→Z' cc oc→FJ oc (q++("<lambda>":Str)) →
   Q (.ref s'.heap.objs.size) {s' with heap:=s'.heap.push (kla_obj "<lambda>" (q++("<lambda>":Str)) params body scope [] pm cc ctv),toks:=tk}:=by
  intro Z' s' oc cc pm ctv tk S' e' z co
  obtain ⟨S₂,e₂⟩:=S'.pushed (x:=.fn params body scope (q++("<lambda>":Str))) (o:=kla_obj "<lambda>" (q++("<lambda>":Str)) params body scope [] pm cc ctv) (tk:=tk) (.fn z co)
  refine qq _ _ _ _ S₂ (e'.trans e₂) (.own ?_)
  rw [List.getElem?_append_right (by rw [hS.ow.len];exact Nat.le_refl _),hS.ow.len];simp
 rcases tv with rfl | ⟨c',o',rfl,z,co⟩
 ·refine kla_makeFunction (closureFor_none hfree) hE.globals hg hc C hP trivial rfl nk.ne hb fun c' ctv h' tk hx hge hlt hrec htb=>?_
  refine IC hrec fun c₂ oc vs t e2 hoc hd hv=>?_
  cases e2
  have co:FJ oc (W.tp P).2.2:=by rw [htp];exact ⟨vs,t,hd,hv⟩
  refine oAA (hS.filled (tk:=tk) nk.tab hx (Nat.le_of_lt (Nat.lt_of_le_of_lt hge hlt)) hge hoc co (by rw [htp];simpa using htb)) fun S₁ e₁ z₁=>?_
  exact fin (s':={s with heap:=h',toks:=tk}) S₁ e₁ z₁ ⟨vs,t,hd,hv⟩
 ·rw [htp] at hP co
  refine kla_makeFunctionHit (cv:=.ref c') (closureFor_none hfree) hE.globals hg hc C hP ?_ ?_ hb fun ctv h' tk hk hsz=>?_
  ·trivial
  ·refine (?_:(if (((pos.line:Int)==pos.line&&(pos.col:Int)==pos.col)=true) then some (Value.ref c') else _)=_)
   rw [if_pos (by simp)]
  ·obtain ⟨S₁,e₁⟩:=hS.grow (tk:=tk) ⟨hk,hsz⟩
   exact fin (s':={s with heap:=h',toks:=tk}) S₁ e₁ z co
end
section
variable {W:Wd} {Z:AK} {L:Addr} {as:List Addr} {st:ST} {A:Around} {E:Value→Shared→Prop} {s:Shared} {k:Nat} {sc:Scope} {env:Env}
theorem Ka {params:Arguments} {body:Expr} {scope:Scope} {qual x:Str} {i:Nat} {a:Str} {x0:Str} {pa fa:Addr} {g:List Int→Str} {G:List Int→Prop} {objs:List AO} (kok:KOk W) (hi:objs[i]?=some (.fn params body scope qual)) (hfa:as[i]?=some fa)
  (hbind:∀ (pm cdv ctv mv:Value),bindArgs (kla_fn "<lambda>" qual params body scope [] pm cdv ctv) ⟨[mv],[]⟩=pure [(a,mv)]) (hloc:scope.names.lookup a=some .local) (hcell:∀ y∈scope.names,y.2≠.cell) (hk:scope.kind=.function) (hco:scope.isCoroutine=false) (hgen:scope.isGenerator=false)
  (hcd:DW scope=none) (hev:∀ sp,G sp→AA W k scope body ⟨[(a,.mtch x0 pa sp)],objs⟩ (.str (g sp)) ⟨[(a,.mtch x0 pa sp)],objs⟩):EP W (k+1) x0 pa g G (.ref fa) as objs:=by
 intro Z s A Q E mv sp hR zn ow hmv hG q
 refine AG (ow.obj _ _ _ hfa hi) fun o ho hio=>?_
 cases hio with
 | @fn _ _ _ _ pm ctv c oc z co =>
  refine Bl co fun vs tt hd hv=>?_
  have hdp:=hR.depth
  refine wpAny_call (kla_callFunE (by refine (?_:A.depth<1000);exact lin (by assumption) (by simp +arith only)) ho rfl hco hgen rfl ⟨c,oc,vs,tt,rfl,zn.keep _ _ z,hd,hv⟩ ?_)
  rw [hbind]
  refine wpAny_pure (wpAny_newFunctionEnv hcell (fun y hy=>by rw [List.mem_singleton.mp hy];exact hloc) (fun h₁ hns hsb=>⟨kok.lim _ fun b ob e=>?_,?_⟩) hk)
  ·have e1:=zn.kIn _ _ e
   exact hsb.extBut b ob (Nat.ne_of_lt (Heap.lt_size e1)) (Heap.get?_push_of_some _ e1)
  have hk₁:∀ b ob,s.heap.get? b=some ob→h₁.get? b=some ob:=fun b ob e=>hsb.extBut b ob (Nat.ne_of_lt (Heap.lt_size e)) (Heap.get?_push_of_some _ e)
  have hsz:s.heap.objs.size≤h₁.objs.size:=by rw [hsb.1,Heap.size_push];exact Nat.le_succ _
  have noIn:∀ b∈as,b<s.heap.objs.size:=fun b hb=>by
   refine oEP (List.getElem_of_mem hb) fun j hj r2_=>?_;subst r2_
   have hj':j<objs.length:=by rw [← ow.len];exact hj
   refine AG (ow.obj j _ objs[j] (List.getElem?_eq_getElem hj) (List.getElem?_eq_getElem hj')) fun ob h1 ζ=>?_
   exact Heap.lt_size h1
  have S:Sta W Z s.heap.objs.size as ⟨[(a,.mtch x0 pa sp)],objs⟩ {s with heap:=h₁,toks:=s.toks+[(a,mv)].length}:=by
   refine ⟨zn.grow ⟨hk₁,hsz⟩,ow.grow ⟨hk₁,hsz⟩,⟨⟨_,hns,fun y v e=>?_⟩,fun z=>absurd (noIn _ z) (Nat.lt_irrefl _),fun ob z=>absurd (Heap.lt_size (zn.keep _ _ z)) (Nat.lt_irrefl _),fun z=>AG (zn.tab _ z) fun vs e ζ=>absurd (Heap.lt_size e) (Nat.lt_irrefl _)⟩⟩
   by_cases hy:y=a
   ·subst hy
    rw [List.lookup_cons_self] at e
    cases e
    exact ⟨mv,by simp,hmv⟩
   ·rw [List.lookup_cons,beq_false_of_ne hy] at e
    exact no e
  refine kla_codeExpr ?_
  refine hev sp hG _ _ _ _ _ _ _ _ ⟨rfl,rfl,rfl,rfl,hk,fun c q e=>by rw [hcd] at e;exact no e⟩ (hR.down (by refine (?_:A.depth+1≤A.depth+9);simp +arith only) (by refine (?_:A.units+3≤A.units+99);simp +arith only) rfl) S fun Z' as' u s' S' e' hu=>?_
  have has:as'=as:=by
   refine AG e'.pre fun more r1_ ζ=>?_;subst r1_
   have h1:=S'.ow.len
   have h2:=ow.len
   rw [List.length_append] at h1
   have:more=[]:=List.eq_nil_of_length_eq_zero (by simp at h1;exact Nat.add_left_cancel (h1.trans h2.symm))
   rw [this,List.append_nil]
  subst has
  refine q _ _ _ S'.zn S'.ow ⟨e'.zsub,fun b ob z=>(e'.znew b ob z).imp id (Nat.le_trans hsz),⟨[],by simp,fun ζ h=>(nomatch h)⟩,fun b ob h1 ζ h3 h4=>e'.keep b ob (hk₁ b ob h1) (fun z=>?_) h3 h4,Nat.le_trans hsz e'.size,e'.gens,e'.drawn,e'.os⟩ hu
  rw [List.mem_singleton.mp z] at h1
  exact absurd (Heap.lt_size h1) (Nat.lt_irrefl _)
end
mutual
noncomputable def dat:AV→Option PyData
 | .none=>some .none
 | .bool b=>some (.bool b)
 | .int i=>some (.int i)
 | .str x=>some (.str x)
 | .lst xs=>(EL xs).map .list
 | .tup xs=>(EL xs).map .tuple
 | _=>none
noncomputable def EL:List AV→Option (List PyData)
 | []=>some []
 | x::xs=>(dat x).bind fun y=>(EL xs).map (y::·)
end
section
variable {W:Wd} {Z:AK} {L:Addr} {as:List Addr} {st:ST} {A:Around} {E:Value→Shared→Prop} {s:Shared} {k:Nat} {sc:Scope}
theorem Is.reads {h:Heap} (zn:Zn W Z h) {a:AV} {v:Value} {d:PyData} (hv:Is Z as a v):dat a=some d→∃ bs,Reads h v d bs:=by
 refine Is.rec (motive_1:=fun a v ζ=>∀ d,dat a=some d→∃ bs,Reads h v d bs) (motive_2:=fun a v ζ=>∀ d,EL a=some d→∃ bs,ReadsAll h v d bs) (fun ζ e=>(by cases e;exact ⟨_,.none⟩)) (fun ζ ζ e=>(by cases e;exact ⟨_,.bool _⟩))
  (fun ζ ζ ζ e=>(by cases e;exact ⟨_,.int _ _⟩)) (fun ζ ζ ζ e=>(by cases e;exact ⟨_,.str _ _⟩)) (fun ζ ζ e=>nomatch e) (fun ζ ζ e=>nomatch e) (fun z ζ ζ ih d e=>?_) (fun z ζ ζ ih d e=>?_) (fun ζ ζ ζ e=>nomatch e) (fun ζ e=>(by cases e;exact ⟨_,.nil⟩)) (fun ζ ζ ih ih' d e=>?_) hv d
 ·refine AG (Option.map_eq_some_iff.mp e) fun ds h1 r2_=>?_;subst r2_
  obtain ⟨bs,r⟩:=ih ds h1
  exact ⟨_,.list (zn.keep _ _ z) rfl rfl r⟩
 ·refine AG (Option.map_eq_some_iff.mp e) fun ds h1 r2_=>?_;subst r2_
  obtain ⟨bs,r⟩:=ih ds h1
  exact ⟨_,.tuple (zn.keep _ _ z) rfl rfl r⟩
 ·refine AG (Option.bind_eq_some_iff.mp e) fun y e1 e=>?_
  refine AG (Option.map_eq_some_iff.mp e) fun ys e2 r2_=>?_;subst r2_
  obtain ⟨bs,r1⟩:=ih _ e1
  obtain ⟨cs,r2⟩:=ih' _ e2
  exact ⟨_,.cons r1 r2⟩
noncomputable def eqR (op:CmpOp) (da db:PyData):Bool:=match op with
 | .Eq=>PyData.eqv da db
 | _=>!PyData.eqv da db
theorem H5 {op:CmpOp} {a b:AV} {x y:Value} {da db:PyData} {Q:Value→Shared→Prop} (hop:op=.Eq∨op=.NotEq) (zn:Zn W Z s.heap) (hR:Ae A k) (hx:Is Z as a x) (hy:Is Z as b y) (ha:dat a=some da) (hb:dat b=some db)
  (la:da.canLay0=true) (lb:db.canLay0=true) (hd:min da.depth db.depth≤100) (q:Q (.bool (eqR op da db)) s):wpAny W.M A (compareOp op x y) Q E s:=by
 obtain ⟨bs,ra⟩:=hx.reads zn ha
 obtain ⟨cs,rb⟩:=hy.reads zn hb
 have hu:A.units+min da.depth db.depth<cLine:=by
  have:=hR.units
  refine (?_:_<9900)
  exact (lin hd (lin this (by simp +arith only)))
 rcases hop with rfl | rfl
 ·exact SeqAt.compareEq_reads ra rb la lb hu q
 ·exact SeqAt.compareNe_reads ra rb la lb hu q
theorem AA.eqData {l r:Expr} {op:CmpOp} {pos:Pos} {st₁ st₂:ST} {a b:AV} {da db:PyData} (hop:op=.Eq∨op=.NotEq) (hm:behindInMarks op r=false) (h1:AA W k sc l st a st₁) (h2:AA W k sc r st₁ b st₂) (ha:dat a=some da) (hb:dat b=some db)
  (la:da.canLay0=true) (lb:db.canLay0=true) (hd:min da.depth db.depth≤100):AA W k sc (.Compare l [op] [r] pos) st (.bool (eqR op da db)) st₂:=by
 intro Z L as s A Q E env hE hR hS q
 refine wpAny_Compare1 (h1 _ _ _ _ _ _ _ _ hE hR hS fun Z₁ as₁ x s₁ S₁ e₁ hx=>h2 _ _ _ _ _ _ _ _ hE hR S₁ fun Z₂ as₂ y s₂ S₂ e₂ hy=>?_) hm
 exact H5 hop S₂.zn hR (hx.evo e₂) hy ha hb la lb hd (q _ _ _ _ S₂ (e₁.trans e₂) (.bool _))
theorem AL.eqData {l r:Expr} {op:CmpOp} {pos:Pos} {st₁ st₂:ST} {a b:AV} {da db:PyData} (hop:op=.Eq∨op=.NotEq) (hm:behindInMarks op r=false) (h1:AA W k sc l st a st₁) (h2:AA W k sc r st₁ b st₂) (ha:dat a=some da) (hb:dat b=some db)
  (la:da.canLay0=true) (lb:db.canLay0=true) (hd:min da.depth db.depth≤100):AL W k sc (.Compare l [op] [r] pos) st (eqR op da db) st₂:=by
 intro Z L as s A Q E env hE hR hS q
 refine wpAny_isTrue_Compare1 (h1 _ _ _ _ _ _ _ _ hE hR hS fun Z₁ as₁ x s₁ S₁ e₁ hx=>h2 _ _ _ _ _ _ _ _ hE hR S₁ fun Z₂ as₂ y s₂ S₂ e₂ hy=>?_) hm
 exact H5 hop S₂.zn hR (hx.evo e₂) hy ha hb la lb hd (wpAny_truthy_bool (q _ _ _ S₂ (e₁.trans e₂)))
end
end Mine
end
section
set_option maxRecDepth 10000
namespace Mine
open PySem PySem.W PyProof.Rows PySem.Calls PySem.Spec
variable [T₀:AY]
noncomputable def top (i:Nat):Stmt:=PySem.Challenge.pw_oc0347_01.main.body.getD i default
noncomputable def nth (b:List Stmt) (i:Nat):Stmt:=b.getD i default
noncomputable def AB:Stmt→List Stmt
 | .FunctionDef _ _ b ..=>b
 | .ClassDef _ _ _ b ..=>b
 | .For _ _ b ..=>b
 | .While _ b ..=>b
 | .If _ b ..=>b
 | _=>[]
noncomputable def BD:Stmt→List Stmt
 | .For _ _ _ e ..=>e
 | .While _ _ e ..=>e
 | .If _ _ e ..=>e
 | _=>[]
noncomputable def nameS:Stmt→Str
 | .FunctionDef n ..=>n
 | .ClassDef n ..=>n
 | _=>""
noncomputable def AM:Stmt→Scope
 | .FunctionDef _ _ _ _ _ _ sc ..=>sc
 | _=>default
noncomputable def paramsS:Stmt→Arguments
 | .FunctionDef _ a ..=>a
 | _=>default
noncomputable def tgtS:Stmt→Expr
 | .For t ..=>t
 | .Assign ts ..=>ts.getD 0 default
 | _=>default
noncomputable def exprS:Stmt→Expr
 | .For _ i ..=>i
 | .While t ..=>t
 | .If t ..=>t
 | .Assign _ v ..=>v
 | .Return (some v) ..=>v
 | _=>default
noncomputable def B3:Stmt→Pos
 | .For _ _ _ _ p ..=>p
 | .While _ _ _ p=>p
 | .If _ _ _ p=>p
 | .Assign _ _ p ..=>p
 | .Return _ p=>p
 | .Expr _ p=>p
 | _=>default
end Mine
namespace Mine
open PySem PySem.W PyProof.Rows PySem.Calls PySem.Spec
variable [T₀:AY]
noncomputable def fnD (d:Stmt) (q:Str) (dv pm:Value) (c:Addr):FuncData :=
 {name:=nameS d,qualname:=q,params:=paramsS d,body:=.stmts (AB d),scope:=AM d,globals:=3,closure:=[],defaults:=dv,kwdefaults:=.none,pyModule:=pm,code:=.ref c,builtins:=0}
noncomputable def fnO (d:Stmt) (q:Str) (dv pm:Value) (c:Addr):Obj:=⟨.type "function",none,.func (fnD d q dv pm c),#[]⟩
structure FnK (K:Frag) (a:Addr) (d:Stmt) (q:Str) (dv:Value):Prop where
 at_:∃ pm c,K.lookup a=some (fnO d q dv pm c)∧codeIn K (.ref c) q=true∧∀ c' q',DW (AM d)=some (c',q')→c=c'∧q++(".<locals>.":Str)=q'
theorem FnK.fn {K:Frag} {a:Addr} {d:Stmt} {q:Str} {dv:Value} (h:FnK K a d q dv):fnIn K a=true:=by
 refine Bl h.at_ fun pm c e ζ=>?_
 unfold fnIn;rw [e];rfl
noncomputable def okD (d:Stmt) (names:List Str):Bool:=decide names.Nodup&&((AM d).names.all fun x=>decide (x.2≠.cell))&&(names.all fun x=>decide ((AM d).names.lookup x=some .local))&&!(AM d).isCoroutine&&!(AM d).isGenerator&&decide ((AM d).kind=.function)
section
variable {W:Wd} {k:Nat}
theorem II {a:Addr} {d:Stmt} {q:Str} {dv:Value} {names:List Str} {args:List AV} {objs:List AO} {fl:AF} {st':ST} (kok:KOk W) (h:FnK W.K a d q dv) (hn:okD d names=true)
  (hbind:∀ (pm:Value) (c:Addr) (vals:List Value) (s:Shared),W.K.In s.heap→vals.length=args.length→BindsTo s (fnD d q dv pm c) ⟨vals,[]⟩ (names.zip vals))
  (hx:A8 W k (AM d) (AB d) ⟨names.zip args,objs⟩ fl st'):BG W (k+1) (.ref a) args objs fl.val st'.objs:=by
 refine Be h.at_ fun pm c e hc hcd=>?_
 unfold okD at hn
 simp only [Bool.and_eq_true,Bool.not_eq_true',decide_eq_true_eq] at hn
 obtain ⟨⟨⟨⟨⟨h1,h2⟩,h3⟩,h4⟩,h5⟩,h6⟩:=hn
 exact BG.ofDef (fd:=fnD d q dv pm c) kok e rfl hc (hbind pm c) h1 h2 h3 rfl rfl h4 h5 h6 (fun c' q' z=>(hcd c' q' z).elim fun x y=>⟨by rw [← x];rfl,y⟩) hx
theorem len2 {α:Type} {l:List α} (h:l.length=2):∃ a b,l=[a,b]:=by
 refine oEE (List.exists_cons_of_length_eq_add_one h) fun a r r2_=>?_;subst r2_
 obtain ⟨b,rfl⟩:=List.length_eq_one_iff.mp (Nat.succ.inj h)
 exact ⟨a,b,rfl⟩
theorem def1 {a:Addr} {d:Stmt} {q:Str} {x:Str} {v:AV} {objs:List AO} {fl:AF} {st':ST} (kok:KOk W) (h:FnK W.K a d q .none) (hn:okD d [x]=true)
  (hbind:∀ (pm:Value) (c:Addr) (v:Value),bindArgs (fnD d q .none pm c) ⟨[v],[]⟩=pure [(x,v)])
  (hx:A8 W k (AM d) (AB d) ⟨[(x,v)],objs⟩ fl st'):BG W (k+1) (.ref a) [v] objs fl.val st'.objs :=
 II (names:=[x]) kok h hn (fun pm c vals s ζ hl=>by
  obtain ⟨u,rfl⟩:=List.length_eq_one_iff.mp hl
  exact .of_eq (hbind pm c u)) hx
theorem def2 {a:Addr} {d:Stmt} {q:Str} {x y:Str} {v v':AV} {objs:List AO} {fl:AF} {st':ST} {dv:Value} (kok:KOk W) (h:FnK W.K a d q dv) (hn:okD d [x,y]=true)
  (hbind:∀ (pm:Value) (c:Addr) (v v':Value),bindArgs (fnD d q dv pm c) ⟨[v,v'],[]⟩=pure [(x,v),(y,v')])
  (hx:A8 W k (AM d) (AB d) ⟨[(x,v),(y,v')],objs⟩ fl st'):BG W (k+1) (.ref a) [v,v'] objs fl.val st'.objs :=
 II (names:=[x,y]) kok h hn (fun pm c vals s ζ hl=>by
  refine oEE (len2 hl) fun u u' r2_=>?_;subst r2_
  exact .of_eq (hbind pm c u u')) hx
theorem AR.up {f:Value} {args:List AV} {objs objs':List AO} {r:AV} (h:AR W k f args objs r objs'):AR W (k+1) f args objs r objs':=fun Z as vals s A Q E hR=>h Z as vals s A Q E hR.less
theorem AR.le {f:Value} {args:List AV} {objs objs':List AO} {r:AV} {k':Nat} (h:AR W k f args objs r objs') (hk:k≤k'):AR W k' f args objs r objs':=by
 induction hk with
 | refl=>exact h
 | step _ ih=>exact ih.up
end
end Mine
end
section
set_option maxRecDepth 10000
namespace Mine
open PySem PySem.W PyProof.Rows PySem.Calls PySem.Spec
variable [T₀:AY]
noncomputable abbrev CG:=Option (AV×List AO×List Nat)
noncomputable def two {α:Type} (l:List α):Option (α×α):=match l with
 | []=>none
 | x::r=>(one r).bind fun y=>some (x,y)
noncomputable def Ix:AV→Option (List AV)
 | .lst xs=>some xs
 | _=>none
noncomputable def KT:Int→Option Nat
 | .ofNat n=>some n
 | .negSucc _=>none
noncomputable def fourN (l:List Int):Option (Nat×Nat×Nat×Nat):=match l with
 | []=>none
 | a::r=>(match r with
  | []=>none
  | b::r=>(two r).bind fun p=>(KT a).bind fun a=>(KT b).bind fun b=>(KT p.1).bind fun c=>(KT p.2).bind fun d=>some (a,b,c,d))
noncomputable def Hh:List AV→Option (List Str)
 | []=>some []
 | a::r=>(BU a).bind fun x=>(Hh r).bind fun xs=>some (x::xs)
section
variable {α β:Type} {Pr:Prop}
theorem ER {l:List α} {p:α×α} (h:two l=some p):l=[p.1,p.2]:=by
 induction l using List.casesOn with
 | nil=>exact no h
 | cons x r=>exact AE h fun y hy h=>by rw [Bd hy];cases h;rfl
end
theorem Gb {a:AV} {xs:List AV} (h:Ix a=some xs):a=.lst xs:=by induction a using AV.casesOn <;> first | exact no h | exact Option.some.inj h▸rfl
theorem GJ {a:Int} {n:Nat} (h:KT a=some n):a=n:=by cases a <;> first | exact no h | exact Option.some.inj h▸rfl
theorem fourN_e {l:List Int} {p:Nat×Nat×Nat×Nat} (h:fourN l=some p):l=[(p.1:Int),p.2.1,p.2.2.1,p.2.2.2]:=by
 induction l using List.casesOn with
 | nil=>exact no h
 | cons a r =>
  induction r using List.casesOn with
  | nil=>exact no h
  | cons b r=>exact AE h fun q hq h=>AE h fun ζ ha h=>AE h fun ζ hb h=>AE h fun ζ hc h=>AE h fun ζ hd h=>by rw [ER hq,GJ ha,GJ hb,GJ hc,GJ hd];cases h;rfl
theorem F3:∀ {xs:List AV} {ys:List Str},Hh xs=some ys→xs=ys.map .str:=by
 intro xs
 induction xs with
 | nil=>intro ys h;cases h;rfl
 | cons a r ih=>exact fun h=>AE h fun x hx h=>AE h fun zs hz h=>by rw [Bb hx,ih hz];cases h;rfl
noncomputable def lenC (args:List AV) (objs:List AO):CG:=(one args).bind fun a=>alt (BU a) (fun x=>some (.int x.length,objs,[])) ((Ix a).bind fun xs=>some (.int xs.length,objs,[]))
noncomputable def isiC (args:List AV) (objs:List AO):CG:=(two args).bind fun p=>(topV p.2).bind fun v=>grd (v==.type "str") (alt (Ix p.1) (fun ζ=>some (.bool false,objs,[])) ((BU p.1).bind fun ζ=>some (.bool true,objs,[])))
noncomputable def typC (args:List AV) (objs:List AO):CG:=(one args).bind fun a=>alt (CE a) (fun ζ=>some (.top (.type "int"),objs,[])) ((BU a).bind fun ζ=>some (.top (.type "str"),objs,[]))
noncomputable def intC (args:List AV) (objs:List AO):CG:=(one args).bind fun a=>(CE a).bind fun n=>some (.int n,objs,[])
noncomputable def appC (args:List AV) (objs:List AO):CG:=(two args).bind fun p=>(JP p.1).bind fun i=>(objs[i]?).bind fun ob=>(EV ob).bind fun xs=>some (.none,objs.set i (.list (xs++[p.2])),[xs.length+1])
noncomputable def jnC (sep:Str) (xs:List AV) (objs:List AO):CG:=(Hh xs).bind fun ys=>some (.str (Txt.join sep ys),objs,[(ys.map (·.length)).sum+ys.length*sep.length])
noncomputable def joinC (args:List AV) (objs:List AO):CG:=(two args).bind fun p=>(BU p.1).bind fun sep=>alt (Ix p.2) (fun xs=>jnC sep xs objs) ((JP p.2).bind fun i=>(objs[i]?).bind fun ob=>(EV ob).bind fun xs=>jnC sep xs objs)
noncomputable def staC (args:List AV) (objs:List AO):CG:=(two args).bind fun p=>(BU p.1).bind fun x=>(BU p.2).bind fun y=>some (.bool (Txt.startswith x y),objs,[])
noncomputable def grpC (args:List AV) (objs:List AO):CG:=(two args).bind fun p=>(I6 p.1).bind fun m=>(fourN m.2.2).bind fun q=>(CE p.2).bind fun n=>grd (n==1) (some (.str (Ar m.1 q.2.2.1 q.2.2.2),objs,[q.2.2.2 - q.2.2.1]))
noncomputable def spnC (args:List AV) (objs:List AO):CG:=(two args).bind fun p=>(I6 p.1).bind fun m=>(CE p.2).bind fun n=>grd (n==0) (match m.2.2 with
 | []=>none
 | st::r=>(match r with
  | []=>none
  | hd::_=>some (.tup [.int st,.int hd],objs,[])))
noncomputable def stdL:List (String×(List AV→List AO→CG)):=[("len",lenC),("list.append",appC),("str.join",joinC),("isinstance",isiC),("str.startswith",staC),("re.Match.group",grpC),("re.Match.span",spnC)]
noncomputable def tyL:List (String×(List AV→List AO→CG)):=[("type",typC),("int",intC)]
noncomputable def stdC (f:Value) (args:List AV) (objs:List AO):CG:=match f with
 | .builtin n=>(stdL.lookup n).bind fun g=>g args objs
 | .type n=>(tyL.lookup n).bind fun g=>g args objs
 | _=>none
section
variable {W:Wd} {k:Nat}
noncomputable def B1 (W:Wd) (k:Nat) (f:Value) (g:List AV→List AO→CG):Prop:=∀ args objs r objs' o,g args objs=some (r,objs',o)→Ap o→AR W k f args objs r objs'
theorem CP {f:Value} {args:List AV} {objs objs' os:List AO} {u r:AV} {o o':List Nat} (h:some (u,os,o')=some (r,objs',o)) (ho:Ap o) (q:Ap o'→AR W k f args objs u os):AR W k f args objs r objs':=by
 cases h;exact q ho
theorem so {o:List Nat} {n:Nat} (h:Ap (n::o)):n≤16777216:=by
 have:=h _ (.head _)
 rw [sizeLine_eq] at this;exact this
theorem lenC_ok:B1 W k (.builtin "len") lenC:=fun args objs r objs' o h ho=>AE h fun a ha h=>by
 rw [Bd ha]
 exact C9 h (fun x hx h=>CP h ho fun ζ=>Bb hx▸Hx) fun h=>AE h fun x hx h=>CP h ho fun ζ=>Gb hx▸Hy
theorem appC_ok:B1 W k (.builtin "list.append") appC:=fun args objs r objs' o h ho=>AE h fun p hp h=>AE h fun i hi h=>AE h fun ob hob h=>AE h fun xs hx h=>by
 rw [ER hp,ED hi]
 exact CP h ho fun q=>Fk (Cz hx▸hob) (q _ (.head _))
theorem Kf:B1 W k (.builtin "str.join") joinC:=fun args objs r objs' o h ho=>AE h fun p hp h=>AE h fun sep hs h=>by
 rw [ER hp,Bb hs]
 exact C9 h (fun xs hx h=>AE h fun ys hy h=>CP h ho fun q=>by rw [Gb hx,F3 hy];exact EY (so q))
  fun h=>AE h fun i hi h=>AE h fun ob hob h=>AE h fun xs hx h=>AE h fun ys hy h=>CP h ho fun q=>by
   rw [ED hi]
   rw [Cz hx,F3 hy] at hob
   exact EX hob (so q)
theorem isiC_ok:B1 W k (.builtin "isinstance") isiC:=fun args objs r objs' o h ho=>AE h fun p hp h=>AE h fun v hv h=>A1 h fun hb h=>by
 rw [ER hp,Jn hv,eq_of_beq hb]
 exact C9 h (fun xs hx h=>CP h ho fun ζ=>Gb hx▸HT) fun h=>AE h fun x hx h=>CP h ho fun ζ=>Bb hx▸Hz
theorem staC_ok:B1 W k (.builtin "str.startswith") staC:=fun args objs r objs' o h ho=>AE h fun p hp h=>AE h fun x hx h=>AE h fun y hy h=>by
 rw [ER hp,Bb hx,Bb hy]
 exact CP h ho fun ζ=>JZ
theorem grpC_ok:B1 W k (.builtin "re.Match.group") grpC:=fun args objs r objs' o h ho=>AE h fun p hp h=>AE h fun m hm h=>AE h fun q hq h=>AE h fun n hn h=>A1 h fun hb h=>by
 rw [ER hp,GL hm,fourN_e hq,CD hn,eq_of_beq hb]
 exact CP h ho fun z=>LP (z _ (.head _))
theorem spnC_ok:B1 W k (.builtin "re.Match.span") spnC:=fun args objs r objs' o h ho=>AE h fun p hp h=>AE h fun m hm h=>AE h fun n hn h=>A1 h fun hb h=>by
 rw [ER hp,GL hm,CD hn,eq_of_beq hb]
 generalize m.2.2=sp at h
 induction sp using List.casesOn with
 | nil=>exact no h
 | cons a r =>
  induction r using List.casesOn with
  | nil=>exact no h
  | cons b r=>exact CP h ho fun ζ=>fn_span
theorem typC_ok:B1 W k (.type "type") typC:=fun args objs r objs' o h ho=>AE h fun a ha h=>by
 rw [Bd ha]
 exact C9 h (fun x hx h=>CP h ho fun ζ=>CD hx▸HR) fun h=>AE h fun x hx h=>CP h ho fun ζ=>Bb hx▸HQ
theorem intC_ok:B1 W k (.type "int") intC:=fun args objs r objs' o h ho=>AE h fun a ha h=>AE h fun x hx h=>by
 rw [Bd ha,CD hx]
 exact CP h ho fun ζ=>fn_int
theorem GN {β:Type} {a n:String} {b g:β} {l:List (String×β)} {P:String→β→Prop} (h:((a,b)::l).lookup n=some g) (k:P a b) (k':l.lookup n=some g→P n g):P n g:=by
 rw [List.lookup_cons] at h
 by_cases e:n=a
 ·subst e
  rw [beq_self_eq_true] at h
  cases h;exact k
 ·rw [beq_false_of_ne e] at h
  exact k' h
set_option tactic.hygienic true in
theorem stdC_ok {f:Value} {args:List AV} {objs objs':List AO} {r:AV} {o:List Nat} (h:stdC f args objs=some (r,objs',o)) (ho:∀ n∈o,n≤sizeLine):AR W k f args objs r objs':=by
 induction f using Value.casesOn <;> first | exact no h | skip
 case type n =>
  exact AE h fun g hg h=>GN (P:=fun n g=>B1 W k (.type n) g) hg typC_ok (fun hg=>GN (P:=fun n g=>B1 W k (.type n) g) hg intC_ok fun hg=>nomatch hg) _ _ _ _ _ h ho
 case builtin n =>
  exact AE h fun g hg h=>GN (P:=fun n g=>B1 W k (.builtin n) g) hg lenC_ok (fun hg=>GN (P:=fun n g=>B1 W k (.builtin n) g) hg appC_ok fun hg=>GN (P:=fun n g=>B1 W k (.builtin n) g) hg Kf fun hg=>GN (P:=fun n g=>B1 W k (.builtin n) g) hg isiC_ok fun hg =>
   GN (P:=fun n g=>B1 W k (.builtin n) g) hg staC_ok fun hg=>GN (P:=fun n g=>B1 W k (.builtin n) g) hg grpC_ok fun hg=>GN (P:=fun n g=>B1 W k (.builtin n) g) hg spnC_ok fun hg=>nomatch hg) _ _ _ _ _ h ho
end
structure EM where
 call:Value→List AV→List AO→Option (AV×List AO):=fun ζ ζ ζ=>none
 hint:Nat→Nat→Option Bool:=fun ζ ζ=>none
 ex:Expr→ST→Option (AV×ST):=fun ζ ζ=>none
 ts:Expr→ST→Option (Bool×ST):=fun ζ ζ=>none
 st:Stmt→ST→Option (AF×ST):=fun ζ ζ=>none
noncomputable abbrev EH:Addr:=719
section
variable {W:Wd} {k:Nat}
noncomputable def AP (W:Wd) (k:Nat) (f:Value) (args:List AV) (objs:List AO) (r:AV) (objs':List AO):Prop :=
 AR W k f args objs r objs'∧(f=.ref EH→BG W k f args objs r objs'∧Dz r=true)
noncomputable def fnT:List Addr:=[56,83,100,119,430,437,599,719,749,756,778,785,799,807,814,821,861,868,875,880,887,894]
noncomputable def mkT (W:Wd) (k:Nat) (glob:List (Str×AV)) (res:Addr→Str→Option Res) (pat:List Addr) (t:EM):Tb where
 glob:=glob
 res:=res
 pat:=pat
 call:=fun f args objs=>match stdC f args objs with
  | some r=>some r
  | none=>match f with
   | .ref a=>if fnT.contains a then (t.call f args objs).map fun (r,objs')=>(r,objs',[ob (AP W k f args objs r objs')]) else none
   | _=>(t.call f args objs).map fun (r,objs')=>(r,objs',[ob (AP W k f args objs r objs')])
 hint:=t.hint
 exO:=fun sc e st=>(t.ex e st).map fun (v,st')=>(v,st',[ob (AA W (k+1) sc e st v st')])
 tsO:=fun sc e st=>(t.ts e st).map fun (v,st')=>(v,st',[ob (AL W (k+1) sc e st v st')])
 stO:=fun sc e st=>(t.st e st).map fun (v,st')=>(v,st',[ob (AH W (k+1) sc e st v st')])
structure MH (W:Wd) (gl:List (Str×AV)) (rs:Addr→Str→Option Res) (pt:List Addr):Prop where
 glob:∀ x v,gl.lookup x=some v→Bi W x v
 kinds:∀ x f,gl.lookup x=some (.top f)→(∃ a,f=.ref a)∨(∃ b,f=.builtin b)∨∃ b,f=.type b
 res:∀ C name r,rs C name=some r→Cw W C name r
 prop:∀ C name f,rs C name=some (.prop f)→f=EH
 pat:∀ a,pt.contains a=true→Hc W a
 fns:∀ a,fnT.contains a=true→fnIn W.K a=true
set_option tactic.hygienic true in
theorem HD {glob:List (Str×AV)} {res:Addr→Str→Option Res} {pat:List Addr} {t:EM} {f:Value} {args:List AV} {objs objs':List AO} {r:AV} {o:List Nat} (h:(mkT W k glob res pat t).call f args objs=some (r,objs',o)) (ho:∀ n∈o,n≤sizeLine) :
  AR W k f args objs r objs'∧(∀ a,f=.ref a→fnT.contains a=true)∧(f=.ref EH→BG W k f args objs r objs'∧Dz r=true):=by
 unfold mkT at h
 dsimp only at h
 split at h
 ·rename_i q
  refine ⟨stdC_ok (q.trans h) ho,fun a e=>?_,fun e=>?_⟩ <;> (subst e;unfold stdC at q;exact no q)
 ·split at h
  ·split at h
   ·rename_i a hf
    obtain ⟨⟨u,us⟩,h1,h⟩:=Option.map_eq_some_iff.mp h
    cases h
    have z:=DO.mp (ho _ (.head _))
    exact ⟨z.1,fun a e=>by cases e;exact hf,z.2⟩
   ·exact no h
  ·rename_i hne
   obtain ⟨⟨u,us⟩,h1,h⟩:=Option.map_eq_some_iff.mp h
   cases h
   have z:=DO.mp (ho _ (.head _))
   exact ⟨z.1,fun a e=>(hne a e).elim,z.2⟩
set_option tactic.hygienic true in
theorem mkT_ok {glob:List (Str×AV)} {res:Addr→Str→Option Res} {pat:List Addr} (S:MH W glob res pat) (t:EM):DJ W k (mkT W k glob res pat t) where
 glob:=S.glob
 res:=S.res
 call:=fun f args objs r objs' o h ho=>(HD h ho).1
 prop:=fun C name f hr args objs r objs' o h ho=>by
  obtain rfl:=S.prop C name f hr
  exact (HD h ho).2.2 rfl
 fn:=fun f args objs r h=>by
  have h':=h
  unfold mkT at h'
  dsimp only at h'
  split at h'
  ·rename_i q;unfold stdC at q;exact no q
  ·split at h'
   ·exact S.fns _ (by assumption)
   ·exact no h'
 pat:=S.pat
 exO:=fun sc e st v st' o h ho=>by
  obtain ⟨⟨u,us⟩,h1,h⟩:=Option.map_eq_some_iff.mp h
  cases h
  exact DO.mp (ho _ (.head _))
 tsO:=fun sc e st v st' o h ho=>by
  obtain ⟨⟨u,us⟩,h1,h⟩:=Option.map_eq_some_iff.mp h
  cases h
  exact DO.mp (ho _ (.head _))
 stO:=fun sc e st v st' o h ho=>by
  obtain ⟨⟨u,us⟩,h1,h⟩:=Option.map_eq_some_iff.mp h
  cases h
  exact DO.mp (ho _ (.head _))
 kinds:=S.kinds
end
noncomputable def GV:List (Str×Value):=[("unmatched",.ref 56),("HEADER_TOKEN_RE",.ref 61),("HEADER_QUOTED_VALUE_RE",.ref 66),("HEADER_VALUE_RE",.ref 71),("HEADER_ESCAPE_RE",.ref 76),("_twin_re_7",.ref 49),
 ("HEADER_JOIN_TOKEN_RE",.ref 88),("HEADER_JOIN_ESCAPE_RE",.ref 93),("split_header_words",.ref 83),("join_header_words",.ref 100),("_index",.ref 119),("StringIO",.ref 653),("BytesIO",.ref 406),("deque",.type "collections.deque"),("shlex",.ref 788),
 ("join_shlex",.ref 799),("quote",.ref 807),("S_IMODE",.ref 814),("S_IFMT",.ref 821),("filemode",.ref 861),("_law_files",.ref 868),("_law_tokens",.ref 875),("_law_written",.ref 880),("_law_entry",.ref 887),
 ("_law_rights",.ref 894),("_find_unsafe",.ref 800)]
noncomputable def It:List (Str×Value):=[("isinstance",.builtin "isinstance"),("len",.builtin "len"),("type",.type "type"),("int",.type "int"),("str",.type "str"),("bool",.type "bool"),("list",.type "list"),("range",.type "range"),("enumerate",.type "enumerate"),("object",.type "object"),("StopIteration",.type "StopIteration")]
noncomputable def bit (n:Int) (c:Str):AV:=.tup [.int n,.str c]
noncomputable def ftAV:AV:=.tup [.tup [bit 40960 "l",bit 49152 "s",bit 32768 "-",bit 24576 "b",bit 16384 "d",bit 8192 "c",bit 4096 "p"],.tup [bit 256 "r"],.tup [bit 128 "w"],.tup [bit 2112 "s",bit 2048 "S",bit 64 "x"],
 .tup [bit 32 "r"],.tup [bit 16 "w"],.tup [bit 1032 "s",bit 1024 "S",bit 8 "x"],.tup [bit 4 "r"],.tup [bit 2 "w"],.tup [bit 513 "t",bit 512 "T",bit 1 "x"]]
noncomputable def gl:List (Str×AV):=("_filemode_table",ftAV)::(GV++It).map fun p=>(p.1,.top p.2)
noncomputable def shData:List Str:=["instream","infile","posix","eof","commenters","wordchars","whitespace","whitespace_split","quotes","escape","escapedquotes","state","pushback","lineno","debug","token","filestack","source","_punctuation_chars"]
noncomputable def ioData:List Str:=["_StringIO__newline","_StringIO__buf","_StringIO__pos"]
noncomputable def l788:List (Str×Res):=shData.map (fun x=>(x,Res.data))++([("punctuation_chars",Res.prop 719),("read_token",Res.meth 756),("get_token",Res.meth 749)]:List (Str×Res))
noncomputable def l653:List (Str×Res):=ioData.map (fun x=>(x,Res.data))++([("read",Res.meth 599),("_StringIO__check",Res.meth 437),("_StringIO__translated",Res.meth 430)]:List (Str×Res))
noncomputable def rsL:List (Addr×List (Str×Res)):=[(788,l788),(653,l653)]
noncomputable def rsT (C:Addr) (name:Str):Option Res:=(rsL.lookup C).bind fun l=>l.lookup name
noncomputable def ptT:List Addr:=[49,61,66,71,76,88,93]
noncomputable def dataB (K:Frag) (C:Addr) (name:Str):Bool:=plainGet K C name&&hasDictIn K C&&decide (findIn K (.ref C) name=some none)&&decide (findIn K (.ref C) "__setattr__"=some (some (.builtin "object.__setattr__")))&&plainOver K C
noncomputable def methB (K:Frag) (C:Addr) (name:Str) (f:Addr):Bool:=plainGet K C name&&decide (findIn K (.ref C) name=some (some (.ref f)))&&isFn K (.ref f)
noncomputable def propB (K:Frag) (C:Addr) (name:Str) (p f:Addr):Bool:=plainGet K C name&&hasDictIn K C&&decide (findIn K (.ref C) name=some (some (.ref p)))&&decide (specialIn K (.ref p) "__get__"=some (some (.builtin "property.__get__")))
 && decide (takesIn K (.ref p)=some true)&&(match recIn K p "property" with | some (.ref g::_)=>g==f | _=>false)
noncomputable def chkG (K:Frag):Bool:=(GV.all fun p=>decide (nsIn K mainGlobals p.1=some (some p.2)))&&(It.all fun p=>decide (nsIn K mainGlobals p.1=some none)&&decide (nsIn K builtinsNs p.1=some (some p.2)))
 && decide (nsIn K mainGlobals "_filemode_table"=some (some (.ref 854)))
noncomputable def resB (K:Frag) (C:Addr) (name:Str):Res→Bool
 | .data=>dataB K C name
 | .meth f=>methB K C name f
 | .prop f=>propB K C name 720 f
noncomputable def chkR (K:Frag):Bool:=rsL.all fun p=>p.2.all fun q=>resB K p.1 q.1 q.2
noncomputable def En (K:Frag) (pa ca:Addr) (code:Array Nat) (groups:Nat):Prop :=
 ∃ fs o items n,K.lookup pa=some {cls:=.type "re.Pattern",data:=.fields fs}∧PySem.Builtin.Re.reRawNat (fs.getD 6 .none)=0∧PySem.Builtin.Re.reRawNat (fs.getD 2 .none)=groups∧fs.getD 5 .none=.ref ca∧K.lookup ca=some o∧o.data=.seq items n∧(items.map PySem.Builtin.Re.reRawOf).map (·.toNat)=code
structure KF (K:Frag):Prop where
 g:chkG K=true
 r:chkR K=true
 ft:∀ (Z:AK) as,(∀ a o,K.lookup a=some o→Z a o)→Is Z as ftAV (.ref 854)
 lim:∀ h:Heap,K.In h→h.NoLimit
 p49:En K 49 48 Rx.c49 0
 p61:En K 61 60 Rx.c61 1
 p66:En K 66 65 Rx.c66 1
 p71:En K 71 70 Rx.c71 1
 p76:En K 76 75 Rx.c76 1
 p88:En K 88 87 Rx.c88 0
 p93:En K 93 92 Rx.c93 1
 p105:En K 105 104 Rx.c105 0
 f56:FnK K 56 (top 5) "unmatched" .none
 f83:FnK K 83 (top 10) "split_header_words" .none
 f100:FnK K 100 (top 13) "join_header_words" .none
 f119:FnK K 119 (top 17) "_index" .none
 f430:FnK K 430 (nth (AB (top 23)) 2) "StringIO.__translated" .none
 f437:FnK K 437 (nth (AB (top 23)) 3) "StringIO.__check" .none
 f599:FnK K 599 (nth (AB (top 23)) 25) "StringIO.read" (.ref 592)
 f719:FnK K 719 (nth (AB (top 33)) 1) "shlex.punctuation_chars" .none
 f749:FnK K 749 (nth (AB (top 33)) 5) "shlex.get_token" .none
 f756:FnK K 756 (nth (AB (top 33)) 6) "shlex.read_token" .none
 f778:FnK K 778 (nth (AB (top 33)) 9) "shlex.__iter__" .none
 f785:FnK K 785 (nth (AB (top 33)) 10) "shlex.__next__" .none
 f799:FnK K 799 (top 34) "join" .none
 f807:FnK K 807 (top 37) "quote" .none
 f814:FnK K 814 (top 39) "S_IMODE" .none
 f821:FnK K 821 (top 40) "S_IFMT" .none
 f861:FnK K 861 (top 61) "filemode" .none
 f868:FnK K 868 (top 63) "_law_files" .none
 f875:FnK K 875 (top 64) "_law_tokens" .none
 f880:FnK K 880 (top 65) "_law_written" .none
 f887:FnK K 887 (top 66) "_law_entry" .none
 f894:FnK K 894 (top 67) "_law_rights" .none
 f899:FnK K 899 (top 68) "law" .none
section
variable {W:Wd}
theorem Co {x:Str} {v:AV}:∀ {l:List (Str×Value)},(l.map fun p=>(p.1,AV.top p.2)).lookup x=some v→∃ u,v=.top u∧(x,u)∈l
 | [],h=>by simp at h
 | (y,u)::l,h=>by
  rw [List.map_cons,List.lookup_cons] at h
  by_cases e:x=y
  ·subst e
   rw [beq_self_eq_true] at h
   cases h
   exact ⟨u,rfl,.head _⟩
  ·rw [beq_false_of_ne e] at h
   refine AG (Co (l:=l) h) fun u' h1 h2=>?_
   exact ⟨u',h1,.tail _ h2⟩
theorem Et {α β:Type} [BEq α] [LawfulBEq α] {x:α} {v:β}:∀ {l:List (α×β)},l.lookup x=some v→(x,v)∈l
 | [],h=>no h
 | (y,u)::l,h=>by
  rw [List.lookup_cons] at h
  by_cases e:x=y
  ·subst e
   rw [beq_self_eq_true] at h
   exact Option.some.inj h▸.head _
  ·rw [beq_false_of_ne e] at h
   exact .tail _ (Et (l:=l) h)
theorem fm {α:Type} {P:α→Prop} {a:α} {l:List α} (h:P a) (k:∀ b∈l,P b):∀ b∈a::l,P b:=List.forall_mem_cons.mpr ⟨h,k⟩
theorem fm0 {α:Type} {P:α→Prop}:∀ b∈([]:List α),P b:=fun ζ h=>nomatch h
theorem Br {p:Prop} [Decidable p] (h:decide p=true):p:=of_decide_eq_true h
theorem b5 {a b c d e:Bool} (h:(a&&b&&c&&d&&e)=true):a=true∧b=true∧c=true∧d=true∧e=true :=
 ⟨(bt (bt (bt (bt h).1).1).1).1,(bt (bt (bt (bt h).1).1).1).2,(bt (bt (bt h).1).1).2,(bt (bt h).1).2,(bt h).2⟩
theorem res_of {K:Frag} {C:Addr} {name:Str} {r:Res} (h:resB W.K C name r=true):Cw W C name r:=by
 cases r with
 | data=>exact (b5 h).elim fun h1 q=>⟨h1,q.1,Br q.2.1,Br q.2.2.1,q.2.2.2⟩
 | meth f=>exact ⟨(bt (bt h).1).1,Br (bt (bt h).1).2,(bt h).2⟩
 | prop f =>
  refine (b5 (bt h).1).elim fun h1 q=>?_
  have h6:=(bt h).2
  cases e:recIn W.K 720 "property" with
  | none=>rw [e] at h6;exact ff h6
  | some l =>
   rw [e] at h6
   induction l using List.casesOn with
   | nil=>exact ff h6
   | cons v r =>
    induction v using Value.casesOn <;> first | exact ff h6 | exact ⟨720,r,h1,q.1,Br q.2.1,Br q.2.2.1,Br q.2.2.2,(eq_of_beq h6)▸e⟩
theorem DM {pa ca:Addr} {code:Array Nat} {groups:Nat} (h:En W.K pa ca code groups):Hc W pa:=h.elim fun fs q=>q.elim fun ζ q=>q.elim fun ζ q=>q.elim fun ζ q=>⟨fs,q.1⟩
noncomputable def rbt:Value→Bool
 | .ref _=>true
 | .builtin _=>true
 | .type _=>true
 | _=>false
theorem rbt_e {f:Value} (h:rbt f=true):(∃ a,f=.ref a)∨(∃ b,f=.builtin b)∨∃ b,f=.type b:=by
 induction f using Value.casesOn <;> first | exact ff h | exact .inl ⟨_,rfl⟩ | exact .inr (.inl ⟨_,rfl⟩) | exact .inr (.inr ⟨_,rfl⟩)
theorem gl_lk {x:Str} {v:AV} (h:gl.lookup x=some v):(x="_filemode_table"∧v=ftAV)∨∃ u,v=.top u∧(x,u)∈GV++It:=by
 unfold gl at h
 rw [List.lookup_cons] at h
 by_cases e:x="_filemode_table"
 ·subst e
  rw [beq_self_eq_true] at h
  exact .inl ⟨rfl,(Option.some.inj h).symm⟩
 ·rw [beq_false_of_ne e] at h
  exact .inr (Co h)
theorem gl_ok (F:KF W.K) (x:Str) (v:AV) (h:gl.lookup x=some v):Bi W x v:=by
 have g3:=(bt F.g).2
 have g1:=(bt (bt F.g).1).1
 have g2:=(bt (bt F.g).1).2
 rcases gl_lk h with ⟨rfl,rfl⟩ | ⟨u,rfl,hm⟩
 ·exact ⟨_,F.ft,.inl (Br g3)⟩
 ·rcases List.mem_append.mp hm with hm | hm
  ·exact ⟨u,fun ζ ζ ζ=>.top _,.inl (Br (List.all_eq_true.mp g1 _ hm))⟩
  ·have q:=bt (List.all_eq_true.mp g2 _ hm)
   exact ⟨u,fun ζ ζ ζ=>.top _,.inr ⟨Br q.1,Br q.2⟩⟩
theorem LB (x:Str) (f:Value) (h:gl.lookup x=some (.top f)):(∃ a,f=.ref a)∨(∃ b,f=.builtin b)∨∃ b,f=.type b:=by
 rcases gl_lk h with ⟨_,e⟩ | ⟨u,e,hm⟩
 ·cases e
 ·obtain rfl:_=_:=by injection e
  exact rbt_e (List.all_eq_true.mp (show ((GV++It).all fun p=>rbt p.2)=true by decide +kernel) _ hm)
theorem rs_prop (C:Addr) (name:Str) (f:Addr) (h:rsT C name=some (.prop f)):f=EH:=AE h fun l h1 h2 =>
 Br (List.all_eq_true.mp (List.all_eq_true.mp (show (rsL.all fun p=>p.2.all fun q=>match q.2 with | .prop f=>decide (f=EH) | _=>true)=true by decide +kernel) _ (Et h1)) _ (Et h2))
theorem BP (F:KF W.K):MH W gl rsT ptT:=⟨gl_ok F,LB,fun C name r h=>AE h fun l h1 h2=>res_of (K:=W.K) (List.all_eq_true.mp (List.all_eq_true.mp F.r _ (Et h1)) _ (Et h2)),rs_prop,
 fun a h=>fm (P:=Hc W) (DM F.p49) (fm (DM F.p61) (fm (DM F.p66) (fm (DM F.p71) (fm (DM F.p76) (fm (DM F.p88) (fm (DM F.p93) fm0)))))) a (List.contains_iff_mem.mp h),
 fun a h=>fm (P:=fun a=>fnIn W.K a=true) F.f56.fn (fm F.f83.fn (fm F.f100.fn (fm F.f119.fn (fm F.f430.fn (fm F.f437.fn (fm F.f599.fn (fm F.f719.fn (fm F.f749.fn (fm F.f756.fn (fm F.f778.fn (fm F.f785.fn (fm F.f799.fn (fm F.f807.fn (fm F.f814.fn (fm F.f821.fn
  (fm F.f861.fn (fm F.f868.fn (fm F.f875.fn (fm F.f880.fn (fm F.f887.fn (fm F.f894.fn fm0))))))))))))))))))))) a (List.contains_iff_mem.mp h)⟩
theorem Bc {pa ca:Addr} {code:Array Nat} {groups:Nat} (h:En W.K pa ca code groups):Ca W pa code groups:=by
 refine oEEEE h fun fs o items n h=>?_
 exact ⟨fs,ca,o,items,n,h⟩
theorem kok (F:KF W.K):KOk W:=⟨F.lim⟩
noncomputable abbrev tb (W:Wd) (k:Nat) (t:EM):Tb:=mkT W k gl rsT ptT t
theorem AW (F:KF W.K) (k:Nat) (t:EM):DJ W k (tb W k t):=mkT_ok (BP F) t
end
noncomputable abbrev S (l:List Nat):Str:=⟨l.toArray⟩
theorem Ai {a b:List Nat}:S a++S b=S (a++b):=by
 refine (?_:(⟨a.toArray++b.toArray⟩:Str)=_)
 rw [List.append_toArray]
theorem Fv {a b:List Nat}:S a=S b↔a=b:=by
 constructor
 ·intro h
  have:=congrArg (fun x:Str=>x.cps.toList) h
  simpa using this
 ·rintro rfl;rfl
theorem AU {a:List Nat}:(S a).length=a.length:=List.size_toArray
theorem eqL {a b:Str} (h:(a==b)=true):a=b:=eq_of_beq h
theorem S_to {l:List Nat} {n:Nat} (h:n≤l.length):Txt.slice (S l) none (some (Int.ofNat n))=S (l.take n):=by
 have:=eqL (slice_closes_toL (x:=S l) (j:=Int.ofNat n) (Int.natCast_nonneg n) (by rw [AU];exact Int.ofNat_le.mpr h))
 rw [this]
 refine (?_:S _=_)
 congr 1
theorem Ge {l:List Nat} {n:Nat} (h:n≤l.length):Txt.slice (S l) (some (Int.ofNat n)) none=S (l.drop n):=by
 have:=slice_from_eq (x:=S l) (i:=Int.ofNat n) (b:=Int.ofNat l.length) (Int.natCast_nonneg n) (by rw [AU];exact Int.ofNat_le.mpr h) (by rw [AU];rfl)
 rw [this]
 congr 1
 refine (?_:List.toArray (List.take ((l.length:Int) - (n:Int)).toNat (List.drop n l))=_)
 congr 1
 exact List.take_of_length_le (by rw [List.length_drop];exact Nat.le_of_eq (Int.toNat_sub ..).symm)
theorem S_mid {l:List Nat} {n m:Nat} (h1:n≤m) (h:m≤l.length):Txt.slice (S l) (some (Int.ofNat n)) (some (Int.ofNat m))=S ((l.drop n).take (m - n)):=by
 have:=eqL (slice_closesL (x:=S l) (i:=Int.ofNat n) (j:=Int.ofNat m) (Int.natCast_nonneg n) (Int.ofNat_le.mpr h1) (by rw [AU];exact Int.ofNat_le.mpr h))
 rw [this]
 congr 1
 refine (?_:List.toArray (List.take ((m:Int) - (n:Int)).toNat (List.drop n l))=_)
 congr 2
 exact Int.toNat_sub ..
theorem Bx {l:List Nat} {a b:Nat}:Ar (S l) a b=S ((l.drop a).take (b - a)):=by
 refine (?_:(⟨l.toArray.extract a b⟩:Str)=_)
 congr 1
 rw [List.extract_toArray,List.extract_eq_take_drop]
theorem AS:∀ n∈([]:List Nat),n≤sizeLine:=fun ζ h=>nomatch h
theorem obs {n:Nat} {o:List Nat} (h:n≤sizeLine) (ho:∀ m∈o,m≤sizeLine):∀ m∈n::o,m≤sizeLine:=fun m hm=>by
 rcases List.mem_cons.mp hm with rfl | q
 ·exact h
 ·exact ho m q
theorem szl {n:Nat} (h:n≤1000000):n≤sizeLine:=by rw [sizeLine_eq];exact lb (by assumption) rfl
section
variable {W:Wd} {k:Nat} {objs:List AO}
theorem Bv {a:Addr} {d:Stmt} {q:Str} {x:Str} {v:AV} {fl:AF} {st':ST} {n:Nat} {o:List Nat} (F:KF W.K) (h:FnK W.K a d q .none) (t:EM)
  (hn:okD d [x]=true) (hbind:∀ (pm:Value) (c:Addr) (v:Value),bindArgs (fnD d q .none pm c) ⟨[v],[]⟩=pure [(x,v)])
  (hr:exS (tb W k t) (AM d) n (AB d) ⟨[(x,v)],objs⟩=some (fl,st',o)) (ho:∀ n∈o,n≤sizeLine):BG W (k+2) (.ref a) [v] objs fl.val st'.objs :=
 def1 (kok F) h hn hbind (AN (AW F k t) hr ho)
theorem run2 {a:Addr} {d:Stmt} {q:Str} {x y:Str} {v u:AV} {fl:AF} {st':ST} {n:Nat} {o:List Nat} {dv:Value} (F:KF W.K) (h:FnK W.K a d q dv) (t:EM)
  (hn:okD d [x,y]=true) (hbind:∀ (pm:Value) (c:Addr) (v u:Value),bindArgs (fnD d q dv pm c) ⟨[v,u],[]⟩=pure [(x,v),(y,u)])
  (hr:exS (tb W k t) (AM d) n (AB d) ⟨[(x,v),(y,u)],objs⟩=some (fl,st',o)) (ho:∀ n∈o,n≤sizeLine):BG W (k+2) (.ref a) [v,u] objs fl.val st'.objs :=
 def2 (kok F) h hn hbind (AN (AW F k t) hr ho)
theorem GZ (F:KF W.K) {m:Int}:AR W 2 (.ref 821) [.int m] objs (.int (Builtin.bitAnd m 61440)) objs :=
 (Bv (k:=0) (x:="mode") (n:=20) (fl:=.ret (.int (Builtin.bitAnd m 61440))) (st':=⟨[("mode",.int m)],objs⟩) (o:=[]) F F.f821 {} (by kernel_rfl!) (by intro pm c v;kernel_rfl!) (by kernel_rfl!) AS).ok
theorem LM (F:KF W.K) {m:Int}:AR W 2 (.ref 814) [.int m] objs (.int (Builtin.bitAnd m 4095)) objs :=
 (Bv (k:=0) (x:="mode") (n:=20) (fl:=.ret (.int (Builtin.bitAnd m 4095))) (st':=⟨[("mode",.int m)],objs⟩) (o:=[]) F F.f814 {} (by kernel_rfl!) (by intro pm c v;kernel_rfl!) (by kernel_rfl!) AS).ok
theorem BV (F:KF W.K) {l:List Nat} {pa:Addr} {a b c d:Nat} (ha:a≤l.length) (hb:b≤l.length) (hl:l.length≤100000) :
  AR W 2 (.ref 56) [.mtch (S l) pa [Int.ofNat a,Int.ofNat b,Int.ofNat c,Int.ofNat d]] objs (.str (S (l.take a++l.drop b))) objs:=by
 have:=(Bv (k:=0) (x:="match") (v:=.mtch (S l) pa [Int.ofNat a,Int.ofNat b,Int.ofNat c,Int.ofNat d]) (n:=20) (objs:=objs) (fl:=.ret (.str (Txt.slice (S l) none (some (Int.ofNat a))++Txt.slice (S l) (some (Int.ofNat b)) none)))
  (st':=⟨[("match",.mtch (S l) pa [Int.ofNat a,Int.ofNat b,Int.ofNat c,Int.ofNat d]),("start",.int (Int.ofNat a)),("end",.int (Int.ofNat b))],objs⟩)
  (o:=[(S l).length,(S l).length,(Txt.slice (S l) none (some (Int.ofNat a))).length+(Txt.slice (S l) (some (Int.ofNat b)) none).length]) F F.f56 {} (by kernel_rfl!) (by intro pm c v;kernel_rfl!) (by kernel_rfl!) ?_).ok
 ·simp only [AF.val] at this
  rw [S_to ha,Ge hb,Ai] at this
  exact this
 ·rw [S_to ha,Ge hb,AU,AU,AU]
  refine obs (szl (by exact lb (by assumption) rfl)) (obs (szl (by exact lb (by assumption) rfl)) (obs (szl ?_) AS))
  simp only [List.length_take,List.length_drop]
  exact lb (Nat.add_le_add (Nat.le_trans (Nat.min_le_right _ _) hl) (Nat.le_trans (Nat.sub_le _ _) hl)) rfl
end
noncomputable def Dd:Expr→Expr
 | .Call f ..=>f
 | _=>default
noncomputable def BE (n:Nat):Expr→Expr
 | .Call _ as ..=>as.getD n default
 | .Tuple es ..=>es.getD n default
 | .List es ..=>es.getD n default
 | .BoolOp _ es ..=>es.getD n default
 | _=>default
noncomputable def lE:Expr→Expr
 | .BinOp l ..=>l
 | .Compare l ..=>l
 | .Subscript v ..=>v
 | .Attribute v ..=>v
 | .UnaryOp _ v ..=>v
 | .IfExp t ..=>t
 | _=>default
noncomputable def rE:Expr→Expr
 | .BinOp _ _ r ..=>r
 | .Compare _ _ rs ..=>rs.getD 0 default
 | .Subscript _ i ..=>i
 | .IfExp _ a ..=>a
 | _=>default
noncomputable def zE:Expr→Expr
 | .IfExp _ _ b _=>b
 | _=>default
noncomputable def atP (l c ec:Nat) (e:Expr):Bool:=e.pos.line==l&&e.pos.col==c&&e.pos.endCol==ec
noncomputable def Sub (l l':List (Str×AV)):Prop:=∀ x a,l.lookup x=some a→l'.lookup x=some a
theorem Sub.nil {l:List (Str×AV)}:Sub [] l:=fun x a h=>by simp at h
theorem Sub.cons {l r:List (Str×AV)} {x:Str} {v:AV} (h:l.lookup x=some v) (q:Sub r l):Sub ((x,v)::r) l:=fun y a e=>by
 by_cases z:y=x
 ·subst z
  rw [List.lookup_cons_self] at e
  cases e
  exact h
 ·rw [List.lookup_cons,beq_false_of_ne z] at e
  exact q y a e
section
variable {W:Wd} {k:Nat} {sc:Scope} {st st' st'':ST}
theorem Sta.forget {Z:AK} {L:Addr} {as:List Addr} {s:Shared} (S:Sta W Z L as st s) (h:Sub st''.loc st.loc) (ho:st''.objs=st.objs):Sta W Z L as st'' s:=by
 refine AG (S.fr.ns) fun m hn hm=>?_
 exact ⟨S.zn,by rw [ho];exact S.ow,⟨⟨m,hn,fun x a e=>hm x a (h x a e)⟩,S.fr.notIn,S.fr.out⟩⟩
theorem A8.forget {b:List Stmt} {f:AF} (h:A8 W k sc b st f st') (hs:Sub st''.loc st'.loc) (ho:st''.objs=st'.objs):A8 W k sc b st f st'' :=
 fun Z L as s A Q E env hE hR S q=>h Z L as s A Q E env hE hR S fun Z' as' u s' S'=>q Z' as' u s' (S'.forget hs ho)
theorem AH.forget {b:Stmt} {f:AF} (h:AH W k sc b st f st') (hs:Sub st''.loc st'.loc) (ho:st''.objs=st'.objs):AH W k sc b st f st'' :=
 fun Z L as s A Q E env hE hR S q=>h Z L as s A Q E env hE hR S fun Z' as' u s' S'=>q Z' as' u s' (S'.forget hs ho)
theorem AH.up {b:Stmt} {f:AF} (h:AH W k sc b st f st'):AH W (k+1) sc b st f st':=fun Z L as s A Q E env hE hR=>h Z L as s A Q E env hE hR.less
theorem AX.at {t:Expr} {x:Str} {v:AV} (h:Cr t=some x) (hx:sc.names.lookup x=some .local):AX W k sc t v st {st with loc:=BY x v st.loc}:=by
 obtain ⟨p,rfl⟩:=D9 h
 exact .name hx
noncomputable def tupE:Expr→List Expr
 | .Tuple es _ _=>es
 | _=>[]
noncomputable def Kk:Expr→Bool
 | .Tuple ..=>true
 | _=>false
theorem AX.atT {t:Expr} {xs:List Str} {vs:List AV} {loc':List (Str×AV)} (ht:Kk t=true) (h1:B9 (tupE t)=some xs) (h2:(xs.all fun x=>sc.names.lookup x==some .local)=true) (h3:Dp st.loc xs vs=some loc') (hn:xs.length=vs.length) :
  AX W k sc t (.tup vs) st {st with loc:=loc'}:=by
 induction t using Expr.casesOn <;> first | exact ff ht;done | skip
 exact .tuple h1 h2 h3 hn
noncomputable def GQ (s:Stmt):Bool:=match s with | .For ..=>true | _=>false
theorem GY {s:Stmt} (h:GQ s=true):s=.For (tgtS s) (exprS s) (AB s) (BD s) (B3 s):=by
 induction s using Stmt.casesOn <;> first | rfl | exact ff h
noncomputable def isWhS (s:Stmt):Bool:=match s with | .While ..=>true | _=>false
theorem wh_eta {s:Stmt} (h:isWhS s=true):s=.While (exprS s) (AB s) (BD s) (B3 s):=by
 induction s using Stmt.casesOn <;> first | rfl | exact ff h
theorem Df {s:Stmt} {v:AV} {xs:List AV} {f:AF} (hs:GQ s=true) (hf:∀ env x,foldedSetIterable (exprS s) env x=pure x) (he:AA W k sc (exprS s) st v st') (hi:Fa v=some xs)
  (h:BA W k sc (tgtS s) (AB s) (BD s) xs st' f st''):AH W k sc s st f st'':=by
 rw [GY hs]
 exact .forS (.val he hi) h (fun e=>absurd e (by decide)) hf
theorem CK (F:KF W.K) {x:Str} {v:AV} (h:gl.lookup x=some v):Bi W x v:=(BP F).glob x v h
theorem GX (F:KF W.K) {s:Stmt} {n:Nat} {e:Expr} {f:AF} (hs:GQ s=true) (hc:DX "range" (exprS s)=some e) (hx:sc.names.lookup ("range":Str)=some .globalImplicit) (he:AA W k sc e st (.int n) st') (hn:n≤1000000)
  (h:BA W k sc (tgtS s) (AB s) (BD s) (Dy 0 n) st' f st''):AH W k sc s st f st'':=by
 rw [GY hs]
 refine Bl (DG hc) fun p pos e1 e2=>?_
 rw [e1]
 exact .forS (.range hx (CK F (by kernel_rfl)) e2 he hn) h (fun e=>absurd e (by decide)) fun ζ ζ=>rfl
theorem LD (F:KF W.K) {s:Stmt} {xs:List AV} {e:Expr} {f:AF} (hs:GQ s=true) (hc:DX "enumerate" (exprS s)=some e) (hx:sc.names.lookup ("enumerate":Str)=some .globalImplicit) (he:AA W k sc e st (.tup xs) st') (ht:Kk (tgtS s)=true)
  (h:BA W k sc (tgtS s) (AB s) (BD s) (FG 0 xs) st' f st''):AH W k sc s st f st'':=by
 rw [GY hs]
 refine Bl (DG hc) fun p pos e1 e2=>?_
 rw [e1]
 refine .forS (.enum hx (CK F (by kernel_rfl)) e2 he) h (fun ζ=>?_) fun ζ ζ=>rfl
 generalize tgtS s=t at ht
 induction t using Expr.casesOn <;> first | exact ff ht;done | exact ⟨_,_,_,rfl⟩
theorem CM {s:Stmt} {f:AF} (hs:isWhS s=true) (h:BF W k sc (exprS s) (AB s) (BD s) st f st'):AH W k sc s st f st':=by
 rw [wh_eta hs]
 exact .whileS h
theorem AR.frame {f:Value} {args:List AV} {objs:List AO} {r:AV} (h:AR W k f args [] r []) (ha:AV.ltL 0 args=true):AR W k f args objs r objs:=by
 intro Z as vals s A Q E hR zn ow hv q
 have hv':IsL Z [] args vals:=IsL.cut (as:=[]) (more:=as) hv ha
 refine h Z [] vals s A Q E hR zn ⟨rfl,fun i a x e=>by simp at e,List.nodup_nil,fun a h=>nomatch h⟩ hv' fun Z' as' u s' zn' ow' e' hu=>?_
 have has:as'=[]:=List.eq_nil_of_length_eq_zero ow'.len
 subst has
 have lt:∀ a∈as,a<s.heap.objs.size:=fun a ha=>by
  refine oEP (List.getElem_of_mem ha) fun i hi r2_=>?_;subst r2_
  have hi':i<objs.length:=by rw [← ow.len];exact hi
  refine AG (ow.obj i _ objs[i] (List.getElem?_eq_getElem hi) (List.getElem?_eq_getElem hi')) fun o h1 ζ=>?_
  exact Heap.lt_size h1
 refine q Z' as u s' zn' ⟨ow.len,fun i a x e1 e2=>?_,ow.nodup,fun a ha=>⟨fun o z=>?_,(ow.out a ha).2⟩⟩ ⟨e'.zsub,e'.znew,⟨[],by simp,fun ζ h=>(nomatch h)⟩,fun b o h1 ζ ζ h4=>e'.keep b o h1 (by simp) (by simp) h4,e'.size,e'.gens,e'.drawn,e'.os⟩ ?_
 ·refine AG (ow.obj i a x e1 e2) fun o h1 h2=>?_
  refine ⟨o,e'.keep a o h1 (by simp) (by simp) (ow.out a (List.mem_of_getElem? e1)).2,?_⟩
  have:=h2.mono (more:=[]) e'.zsub
  rwa [List.append_nil] at this
 ·rcases e'.znew a o z with z | z
  ·exact (ow.out a ha).1 o z
  ·exact absurd (lt a ha) (Nat.not_lt.mpr z)
 ·exact hu.mono (more:=as) (fun ζ ζ z=>z)
theorem Ew {α:Type} {g:α→AV} {n:Nat} {objs:List AO} {m:Nat} (hg:∀ a fu,m≤fu→ice n objs fu (g a)=some (g a)):∀ (l:List α) (fu:Nat),l.length+m<fu→CQ n objs fu (l.map g)=some (l.map g)
 | [],fu+1,_=>rfl
 | a::l,fu+1,h=>by
  rw [List.length_cons] at h
  refine (?_:((ice n objs fu (g a)).bind fun y=>(CQ n objs fu (l.map g)).map (y::·))=_)
  rw [hg a fu (by exact lin (by assumption) (by simp +arith only)),Ew hg l fu (by exact lin (by assumption) (by simp +arith only))]
  rfl
end
noncomputable def sgL:List Nat:=[34,92,39,32,59,44,61,63]
noncomputable def sg (r:Int):List Nat:=if r=0 then [] else [sgL.getD (r - 1).toNat 0]
noncomputable def nm3 (r:Int):List Nat:=sg (r.fmod 9)++sg ((r.fdiv 9).fmod 9)++sg (((r.fdiv 9).fdiv 9).fmod 9)
noncomputable def C3 (x:Int):Int:=(33188+x.fmod 729*4369+x.fdiv 729).fmod 65536
noncomputable def Ab (f:Int×List Nat):AV:=.tup [.int f.1,.str (S f.2)]
noncomputable def AJ (x:Int):Int×List Nat:=(C3 x,nm3 (x.fmod 729))
namespace LF
noncomputable abbrev d:=top 63
noncomputable abbrev sc:=AM d
noncomputable abbrev b:=AB d
noncomputable abbrev fs:=nth b 1
noncomputable abbrev fb:=AB fs
noncomputable abbrev fi:=nth fb 3
noncomputable abbrev itemX:=rE (exprS (nth (AB (nth (AB fi) 0)) 0))
end LF
theorem AC {p:Prop} (h:p):ob p≤sizeLine:=DO.mpr h
section
variable {W:Wd} {k:Nat} {sc:Scope} {st st' st'':ST}
theorem AA.sliceAt {e v hi:Expr} {xs:List AV} {n:Nat} (h:I1 e=some (v,hi)) (h1:AA W k sc v st (.lst xs) st') (h2:AA W k sc hi st' (.int n) st''):AA W k sc e st (.lst (xs.take n)) st'':=by
 refine oEE (Hk h) fun q pos r2_=>?_;subst r2_
 exact .sliceList h1 h2
theorem AA.itemAt {e:Expr} {a b r:AV} (h:(match e with | .Subscript _ i _=>Ck i | _=>false)=true) (h1:AA W k sc (lE e) st a st') (h2:AA W k sc (rE e) st' b st'') (hi:Fb st''.objs a b=some r):AA W k sc e st r st'':=by
 induction e using Expr.casesOn <;> first | exact ff h;done | skip
 exact .item h h1 h2 hi
theorem Cy {α:Type} {g:α→AV} {n:Nat} (hg:∀ a,AV.lt n (g a)=true):∀ l:List α,AV.ltL n (l.map g)=true
 | []=>rfl
 | a::l=>by refine (?_:(AV.lt n (g a)&&AV.ltL n (l.map g))=true);rw [hg a,Cy hg l];rfl
theorem AQ (F:KF W.K) (t:EM) {n:Nat} {e:Expr} {v:AV} (h:evE (tb W k t) sc n e st=some (v,st,[])):AA W (k+1) sc e st v st:=BW (AW F k t) h AS
theorem sg_at {r:Int} (h0:r.fmod 9≠0) {objs:List AO}:Fb objs (.str (S sgL)) (.int (r.fmod 9 - 1))=some (.str (S (sg (r.fmod 9)))):=by
 have h1:0≤r.fmod 9:=Int.fmod_nonneg_of_pos r (by decide)
 have h2:r.fmod 9<9:=Int.fmod_lt_of_pos r (by decide)
 generalize r.fmod 9=m at *
 obtain ⟨n,rfl⟩:∃ n:Nat,m=n:=⟨m.toNat,(Int.toNat_of_nonneg h1).symm⟩
 have:n=1∨n=2∨n=3∨n=4∨n=5∨n=6∨n=7∨n=8:=(by decide:∀ n<9,n≠0→n=1∨n=2∨n=3∨n=4∨n=5∨n=6∨n=7∨n=8) n (Int.ofNat_lt.mp h2) fun e=>h0 (congrArg _ e)
 rcases this with rfl | rfl | rfl | rfl | rfl | rfl | rfl | rfl <;> rfl
theorem GP (F:KF W.K) {sv:AV} {x bt r:Int} {nm:List Nat} {j:AV} {objs:List AO} (hn:nm.length≤100) :
  ∃ st₁,AX W 1 LF.sc (tgtS LF.fi) j ⟨[("script",sv),("files",.own 0),("x",.int x),("rest",.int r),("bits",.int bt),("name",.str (S nm))],objs⟩ st₁ ∧
   A8 W 1 LF.sc (AB LF.fi) st₁ .next ⟨[("script",sv),("files",.own 0),("x",.int x),("rest",.int (r.fdiv 9)),("bits",.int bt),("name",.str (S (nm++sg (r.fmod 9))))],objs⟩:=by
 refine ⟨_,.at (x:="turn") (by kernel_rfl!) (by kernel_rfl!),?_⟩
 by_cases h:r.fmod 9=0
 ·refine (AN (AW F 0 {hint:=fun l ζ=>if l==847 then some false else none}) (n:=20)
   (st':=⟨[("script",sv),("files",.own 0),("x",.int x),("rest",.int (r.fdiv 9)),("bits",.int bt),("name",.str (S nm)),("turn",j)],objs⟩) (o:=[ob ((r.fmod 9 != 0)=false)]) (by kernel_rfl!) ?_).forget ?_ rfl
  ·exact obs (AC (by simp [h])) AS
  ·have e:sg (r.fmod 9)=[]:=by unfold sg;rw [if_pos h]
   rw [e,List.append_nil]
   exact .cons rfl (.cons rfl (.cons rfl (.cons rfl (.cons rfl (.cons rfl .nil)))))
 ·have hl:(sg (r.fmod 9)).length=1:=by unfold sg;rw [if_neg h];rfl
  refine (AN (AW F 0 {hint:=fun l ζ=>if l==847 then some true else none,ex:=fun e st=>if atP 848 30 56 e then some (.str (S (sg (r.fmod 9))),st) else none}) (n:=20)
   (st':=⟨[("script",sv),("files",.own 0),("x",.int x),("rest",.int (r.fdiv 9)),("bits",.int bt),("name",.str (S nm++S (sg (r.fmod 9)))),("turn",j)],objs⟩)
   (o:=[ob ((r.fmod 9 != 0)=true),ob (AA W 1 LF.sc LF.itemX ⟨[("script",sv),("files",.own 0),("x",.int x),("rest",.int r),("bits",.int bt),("name",.str (S nm)),("turn",j)],objs⟩ (.str (S (sg (r.fmod 9))))
    ⟨[("script",sv),("files",.own 0),("x",.int x),("rest",.int r),("bits",.int bt),("name",.str (S nm)),("turn",j)],objs⟩),(S nm).length+(S (sg (r.fmod 9))).length]) (by kernel_rfl!) ?_).forget ?_ rfl
  ·refine obs (AC (by simp [h])) (obs (AC ?_) (obs (szl (by rw [AU,AU];exact (lin hn (lne hl (by simp +arith only))))) AS))
   exact .itemAt (by kernel_rfl!) (AQ F {} (n:=10) (v:=.str (S sgL)) (by kernel_rfl!)) (AQ F {} (n:=10) (v:=.int (r.fmod 9 - 1)) (by kernel_rfl!)) (sg_at h)
  ·rw [Ai]
   exact .cons rfl (.cons rfl (.cons rfl (.cons rfl (.cons rfl (.cons rfl .nil)))))
theorem Eh (r:Int):(sg r).length≤1:=by unfold sg;split <;> simp
theorem K7 (F:KF W.K) {sv:AV} {x bt r:Int} {objs:List AO} :
  AH W 1 LF.sc LF.fi ⟨[("script",sv),("files",.own 0),("x",.int x),("rest",.int r),("bits",.int bt),("name",.str (S []))],objs⟩ .next ⟨[("script",sv),("files",.own 0),("x",.int x),("bits",.int bt),("name",.str (S (nm3 r)))],objs⟩:=by
 have l1:=Eh (r.fmod 9)
 have l2:=Eh ((r.fdiv 9).fmod 9)
 refine AG (GP F (sv:=sv) (x:=x) (bt:=bt) (r:=r) (nm:=[]) (j:=.int 0) (objs:=objs) (by simp)) fun s1 a1 e1=>?_
 refine AG (GP F (sv:=sv) (x:=x) (bt:=bt) (r:=r.fdiv 9) (nm:=[]++sg (r.fmod 9)) (j:=.int (0+1)) (objs:=objs) (by simp;exact lb (by assumption) rfl)) fun s2 a2 e2=>?_
 refine AG (GP F (sv:=sv) (x:=x) (bt:=bt) (r:=(r.fdiv 9).fdiv 9) (nm:=[]++sg (r.fmod 9)++sg ((r.fdiv 9).fmod 9)) (j:=.int (0+1+1)) (objs:=objs) (by simp;exact lb (Nat.add_le_add l1 l2) rfl)) fun s3 a3 e3=>?_
 refine (GX F (n:=3) (by kernel_rfl!) (e:=BE 0 (exprS LF.fi)) (by kernel_rfl!) (by kernel_rfl!) (AQ F {} (n:=10) (by kernel_rfl!)) (by decide) (.go a1 e1 (.inl rfl) (.go a2 e2 (.inl rfl) (.go a3 e3 (.inl rfl) (.stop .nil))))).forget ?_ rfl
 exact .cons rfl (.cons rfl (.cons rfl (.cons rfl (.cons rfl .nil))))
theorem K6 (F:KF W.K) {sv:AV} (done:List Int) (x:Int) (hd:done.length≤100) :
  ∃ st₁,AX W 2 LF.sc (tgtS LF.fs) (.int x) ⟨[("script",sv),("files",.own 0)],[.list (done.map fun x=>Ab (AJ x))]⟩ st₁ ∧
   A8 W 2 LF.sc (AB LF.fs) st₁ .next ⟨[("script",sv),("files",.own 0)],[.list ((done++[x]).map fun x=>Ab (AJ x))]⟩:=by
 refine ⟨_,.at (x:="x") (by kernel_rfl!) (by kernel_rfl!),?_⟩
 refine (AN (AW F 1 {st:=fun s ζ=>if (B3 s).line==846 then some (.next,⟨[("script",sv),("files",.own 0),("x",.int x),("bits",.int (C3 x)),("name",.str (S (nm3 (x.fmod 729))))],[.list (done.map fun x=>Ab (AJ x))]⟩) else none}) (n:=20)
  (st':=⟨[("script",sv),("files",.own 0),("x",.int x),("bits",.int (C3 x)),("name",.str (S (nm3 (x.fmod 729))))],[.list (done.map (fun x=>Ab (AJ x))++[Ab (AJ x)])]⟩)
  (o:=[(x.fmod 729).natAbs,Int.natAbs 4369,ob (AH W 2 LF.sc LF.fi ⟨[("script",sv),("files",.own 0),("x",.int x),("rest",.int (x.fmod 729)),("bits",.int (C3 x)),("name",.str (S []))],[.list (done.map fun x=>Ab (AJ x))]⟩ .next
   ⟨[("script",sv),("files",.own 0),("x",.int x),("bits",.int (C3 x)),("name",.str (S (nm3 (x.fmod 729))))],[.list (done.map fun x=>Ab (AJ x))]⟩),(done.map fun x=>Ab (AJ x)).length+1]) (by kernel_rfl!) ?_).forget ?_ ?_
 ·have h1:0≤x.fmod 729:=Int.fmod_nonneg_of_pos x (by decide)
  have h2:x.fmod 729<729:=Int.fmod_lt_of_pos x (by decide)
  refine obs (szl (nab h1 (Int.le_of_lt (Int.lt_trans (Int.fmod_lt_of_pos x (by decide)) (by decide))))) (obs (szl (by decide)) (obs (AC (K7 F).up) (obs (szl ?_) AS)))
  rw [List.length_map];exact lin (by assumption) (by simp +arith only)
 ·exact .cons rfl (.cons rfl .nil)
 ·simp
theorem LQ (F:KF W.K) {ns:List Int} {objs:List AO}:AR W 4 (.ref 868) [.lst (ns.map .int)] objs (.lst ((ns.take 4).map fun x=>Ab (AJ x))) objs:=by
 have hrun:∀ (xs done:List Int),done.length+xs.length≤100→BA W 2 LF.sc (tgtS LF.fs) (AB LF.fs) [] (xs.map .int) ⟨[("script",.lst (ns.map .int)),("files",.own 0)],[.list (done.map fun x=>Ab (AJ x))]⟩ .next
   ⟨[("script",.lst (ns.map .int)),("files",.own 0)],[.list ((done++xs).map fun x=>Ab (AJ x))]⟩:=by
  intro xs
  induction xs with
  | nil=>intro done _;(rewrite [List.append_nil];try with_reducible rfl);exact .stop .nil
  | cons x xs ih =>
   intro done h
   (rewrite [List.length_cons] at h;try with_reducible rfl)
   refine AG (K6 F (sv:=.lst (ns.map .int)) done x (by exact lin (by assumption) (by simp +arith only))) fun s1 a1 e1=>?_
   have:=ih (done++[x]) (by simp;exact lin (by assumption) (by simp +arith only))
   (rewrite [List.append_assoc] at this;try with_reducible rfl)
   exact .go a1 e1 (.inl rfl) this
 have hfor:AH W 2 LF.sc LF.fs ⟨[("script",.lst (ns.map .int)),("files",.own 0)],[.list []]⟩ .next ⟨[("script",.lst (ns.map .int)),("files",.own 0)],[.list ((ns.take 4).map fun x=>Ab (AJ x))]⟩:=by
  have hr:=hrun (ns.take 4) [] (by simp;exact lb (Nat.min_le_left _ _) rfl)
  refine Df (v:=.lst ((ns.map .int).take 4)) (xs:=(ns.take 4).map .int) (by kernel_rfl!) (fun ζ ζ=>by kernel_rfl!) ?_ ?_ hr
  ·exact .sliceAt (v:=lE (exprS LF.fs)) (hi:=(match rE (exprS LF.fs) with | .Slice _ (some h) _ _=>h | _=>default)) (by kernel_rfl!) (AQ F {} (n:=10) (by kernel_rfl!)) (AQ F {} (n:=10) (by kernel_rfl!))
  ·refine (?_:some _=some _)
   (rewrite [List.map_take];try with_reducible rfl)
 have h:=Bv (k:=1) (x:="script") (v:=.lst (ns.map .int)) (objs:=[]) (n:=20) (fl:=.ret (.own 0)) (st':=⟨[("script",.lst (ns.map .int)),("files",.own 0)],[.list ((ns.take 4).map fun x=>Ab (AJ x))]⟩)
  (o:=[ob (AH W 2 LF.sc LF.fs ⟨[("script",.lst (ns.map .int)),("files",.own 0)],[.list []]⟩ .next ⟨[("script",.lst (ns.map .int)),("files",.own 0)],[.list ((ns.take 4).map fun x=>Ab (AJ x))]⟩)]) F F.f868
  {st:=fun s ζ=>if (B3 s).line==842 then some (.next,⟨[("script",.lst (ns.map .int)),("files",.own 0)],[.list ((ns.take 4).map fun x=>Ab (AJ x))]⟩) else none}
  (by kernel_rfl!) (by intro pm c v;kernel_rfl!) (by kernel_rfl!) (obs (AC hfor) AS)
 have h':=h.ok.up
 refine AR.frame (AR.iced (objs:=[]) (fu:=200) h' ?_) ?_
 ·refine (?_:(CQ 0 _ 199 ((ns.take 4).map fun x=>Ab (AJ x))).map AV.lst=_)
  (rewrite [Ew (m:=10) (fun a fu hfu=>?_) _ _ (by simp;omega)];try with_reducible rfl)
  ·rfl
  ·obtain ⟨m,rfl⟩:∃ m,fu=m+10:=⟨fu - 10,by exact (Nat.sub_add_cancel hfu).symm⟩
   rfl
 ·refine (?_:(AV.ltL 0 (ns.map .int)&&true)=true)
  (rewrite [Bool.and_true];try with_reducible rfl)
  exact Cy (fun ζ=>rfl) ns
end
noncomputable def Ci (t:Int→Bool) (d:Nat):List (Int×Nat)→Nat
 | []=>d
 | (b,c)::r=>if t b then c else Ci t d r
noncomputable def tst (i0:Bool) (m b:Int):Bool:=if i0 then Builtin.bitAnd m 61440==b else Builtin.bitAnd m b==b
noncomputable def C1:List (List (Int×Nat)):=[[(40960,108),(49152,115),(32768,45),(24576,98),(16384,100),(8192,99),(4096,112)],[(256,114)],[(128,119)],[(2112,115),(2048,83),(64,120)],[(32,114)],[(16,119)],[(1032,115),(1024,83),(8,120)],
 [(4,114)],[(2,119)],[(513,116),(512,84),(1,120)]]
noncomputable def GD (m:Int) (i:Nat) (r:List (Int×Nat)):Nat:=Ci (tst (i==0) m) (if i==0 then 63 else 45) r
noncomputable def Ek (m:Int):Nat→List (List (Int×Nat))→List Nat
 | _,[]=>[]
 | i,r::rs=>GD m i r::Ek m (i+1) rs
noncomputable def AI (m:Int):List Nat:=Ek m 0 C1
noncomputable def bitP (p:Int×Nat):AV:=bit p.1 (S [p.2])
noncomputable def Gr (r:List (Int×Nat)):AV:=.tup (r.map bitP)
noncomputable def chP (c:Nat):AV:=.str (S [c])
namespace FM
noncomputable abbrev d:=top 61
noncomputable abbrev sc:=AM d
noncomputable abbrev b:=AB d
noncomputable abbrev fo:=nth b 1
noncomputable abbrev fi:=nth (AB fo) 0
end FM
section
variable {W:Wd} {k:Nat} {sc:Scope} {st st' st'':ST}
theorem cob {f:Value} {args:List AV} {objs objs':List AO} {r:AV} (h:AR W k f args objs r objs') (hne:f≠.ref EH):AP W k f args objs r objs':=⟨h,fun e=>(hne e).elim⟩
theorem fm_turn (F:KF W.K) {m idx b:Int} {tab:AV} {c:Nat} {done:List AV} {i0:Bool} (hi:(idx==0)=i0) (hd:done.length≤100) :
  ∃ st₁,AX W 3 FM.sc (tgtS FM.fi) (bitP (b,c)) ⟨[("mode",.int m),("perm",.own 0),("index",.int idx),("table",tab)],[.list done]⟩ st₁ ∧
   (tst i0 m b=true→A8 W 3 FM.sc (AB FM.fi) st₁ .brk ⟨[("mode",.int m),("perm",.own 0),("index",.int idx),("table",tab)],[.list (done++[chP c])]⟩) ∧
   (tst i0 m b=false→A8 W 3 FM.sc (AB FM.fi) st₁ .next ⟨[("mode",.int m),("perm",.own 0),("index",.int idx),("table",tab)],[.list done]⟩):=by
 refine ⟨_,.atT (xs:=["bit","char"]) (loc':=[("mode",.int m),("perm",.own 0),("index",.int idx),("table",tab),("bit",.int b),("char",chP c)]) (by kernel_rfl!) (by kernel_rfl!) (by kernel_rfl!) (by kernel_rfl!) rfl,fun ht=>?_,fun ht=>?_⟩
 ·induction i0 using Bool.casesOn with
  | true =>
   refine (AN (AW F 2 {hint:=fun l ζ=>if l==826 then some true else if l==827 then some true else none,call:=fun f args objs=>if f==.ref 821 then some (.int (Builtin.bitAnd m 61440),objs) else none}) (n:=20)
    (st':=⟨[("mode",.int m),("perm",.own 0),("index",.int idx),("table",tab),("bit",.int b),("char",chP c)],[.list (done++[chP c])]⟩)
    (o:=[ob ((idx==0)=true),ob (AP W 2 (.ref 821) [.int m] [.list done] (.int (Builtin.bitAnd m 61440)) [.list done]),ob ((Builtin.bitAnd m 61440==b)=true),done.length+1]) (by kernel_rfl!) ?_).forget (.cons rfl (.cons rfl (.cons rfl (.cons rfl .nil)))) rfl
   ·exact obs (AC hi) (obs (AC (cob (GZ F) (by decide))) (obs (AC (by simpa [tst] using ht)) (obs (szl (by exact lin (by assumption) (by simp +arith only))) AS)))
  | false =>
   refine (AN (AW F 2 {hint:=fun l ζ=>if l==826 then some false else if l==830 then some true else none}) (n:=20)
    (st':=⟨[("mode",.int m),("perm",.own 0),("index",.int idx),("table",tab),("bit",.int b),("char",chP c)],[.list (done++[chP c])]⟩)
    (o:=[ob ((idx==0)=false),ob ((Builtin.bitAnd m b==b)=true),done.length+1]) (by kernel_rfl!) ?_).forget (.cons rfl (.cons rfl (.cons rfl (.cons rfl .nil)))) rfl
   exact obs (AC hi) (obs (AC (by simpa [tst] using ht)) (obs (szl (by exact lin (by assumption) (by simp +arith only))) AS))
 ·induction i0 using Bool.casesOn with
  | true =>
   refine (AN (AW F 2 {hint:=fun l ζ=>if l==826 then some true else if l==827 then some false else none,call:=fun f args objs=>if f==.ref 821 then some (.int (Builtin.bitAnd m 61440),objs) else none}) (n:=20)
    (st':=⟨[("mode",.int m),("perm",.own 0),("index",.int idx),("table",tab),("bit",.int b),("char",chP c)],[.list done]⟩)
    (o:=[ob ((idx==0)=true),ob (AP W 2 (.ref 821) [.int m] [.list done] (.int (Builtin.bitAnd m 61440)) [.list done]),ob ((Builtin.bitAnd m 61440==b)=false)]) (by kernel_rfl!) ?_).forget (.cons rfl (.cons rfl (.cons rfl (.cons rfl .nil)))) rfl
   ·exact obs (AC hi) (obs (AC (cob (GZ F) (by decide))) (obs (AC (by simpa [tst] using ht)) AS))
  | false =>
   refine (AN (AW F 2 {hint:=fun l ζ=>if l==826 then some false else if l==830 then some false else none}) (n:=20)
    (st':=⟨[("mode",.int m),("perm",.own 0),("index",.int idx),("table",tab),("bit",.int b),("char",chP c)],[.list done]⟩)
    (o:=[ob ((idx==0)=false),ob ((Builtin.bitAnd m b==b)=false)]) (by kernel_rfl!) ?_).forget (.cons rfl (.cons rfl (.cons rfl (.cons rfl .nil)))) rfl
   exact obs (AC hi) (obs (AC (by simpa [tst] using ht)) AS)
theorem HZ (F:KF W.K) {m idx:Int} {tab:AV} {i0:Bool} (hi:(idx==0)=i0) {done:List AV} (hd:done.length≤100):∀ es:List (Int×Nat),
  BA W 3 FM.sc (tgtS FM.fi) (AB FM.fi) (BD FM.fi) (es.map bitP) ⟨[("mode",.int m),("perm",.own 0),("index",.int idx),("table",tab)],[.list done]⟩ .next
   ⟨[("mode",.int m),("perm",.own 0),("index",.int idx),("table",tab)],[.list (done++[chP (Ci (tst i0 m) (if i0 then 63 else 45) es)])]⟩
 | []=>by
  refine .stop ?_
  induction i0 using Bool.casesOn with
  | true =>
   exact AN (AW F 2 {hint:=fun l ζ=>if l==834 then some true else none}) (n:=20) (o:=[ob ((idx==0)=true),done.length+1]) (by kernel_rfl!) (obs (AC hi) (obs (szl (by exact lin (by assumption) (by simp +arith only))) AS))
  | false =>
   exact AN (AW F 2 {hint:=fun l ζ=>if l==834 then some false else none}) (n:=20) (o:=[ob ((idx==0)=false),done.length+1]) (by kernel_rfl!) (obs (AC hi) (obs (szl (by exact lin (by assumption) (by simp +arith only))) AS))
 | (b,c)::es=>by
  refine EE (fm_turn F (m:=m) (idx:=idx) (b:=b) (tab:=tab) (c:=c) hi hd) fun st₁ h1 h2 h3=>?_
  cases ht:tst i0 m b with
  | true =>
   have e:Ci (tst i0 m) (if i0 then 63 else 45) ((b,c)::es)=c:=by unfold Ci;rw [if_pos ht]
   rw [e]
   exact .brk h1 (h2 ht)
  | false =>
   have e:Ci (tst i0 m) (if i0 then 63 else 45) ((b,c)::es)=Ci (tst i0 m) (if i0 then 63 else 45) es:=by conv=>lhs;unfold Ci;rw [if_neg (by rw [ht];decide)]
   rw [e]
   exact .go h1 (h3 ht) (.inl rfl) (HZ F hi hd es)
theorem HY (F:KF W.K) {m:Int}:∀ (rs:List (List (Int×Nat))) (i:Nat) (done:List Nat),done.length+rs.length≤50 →
  BA W 3 FM.sc (tgtS FM.fo) (AB FM.fo) [] (FG i (rs.map Gr)) ⟨[("mode",.int m),("perm",.own 0)],[.list (done.map chP)]⟩ .next ⟨[("mode",.int m),("perm",.own 0)],[.list ((done++Ek m i rs).map chP)]⟩
 | [],i,done,_=>by
  refine (?_:BA _ _ _ _ _ _ [] _ _ _)
  unfold Ek
  rw [List.append_nil]
  exact .stop .nil
 | r::rs,i,done,h=>by
  rw [List.length_cons] at h
  have ih:=HY F (m:=m) rs (i+1) (done++[GD m i r]) (by simp;exact lin (by assumption) (by simp +arith only))
  rw [List.append_assoc] at ih
  refine (?_:BA _ _ _ _ _ _ (.tup [.int i,Gr r]::FG (i+1) (rs.map Gr)) _ _ _)
  refine .go (.atT (xs:=["index","table"]) (loc':=[("mode",.int m),("perm",.own 0),("index",.int i),("table",Gr r)]) (by kernel_rfl!) (by kernel_rfl!) (by kernel_rfl!) (by kernel_rfl!) rfl) ?_ (.inl rfl) ih
  have hin:=HZ F (m:=m) (idx:=(i:Int)) (tab:=Gr r) (i0:=i==0) (by cases i <;> rfl) (done:=done.map chP) (by simp;exact lin (by assumption) (by simp +arith only)) r
  have h1:AH W 3 FM.sc FM.fi ⟨[("mode",.int m),("perm",.own 0),("index",.int i),("table",Gr r)],[.list (done.map chP)]⟩ .next ⟨[("mode",.int m),("perm",.own 0)],[.list ((done++[GD m i r]).map chP)]⟩:=by
   refine (Df (by kernel_rfl!) (fun ζ ζ=>by kernel_rfl!) (AQ F {} (n:=10) (v:=Gr r) (by kernel_rfl!)) rfl hin).forget (.cons rfl (.cons rfl .nil)) ?_
   simp [GD]
  have eb:AB FM.fo=[FM.fi]:=by kernel_rfl!
  rw [eb]
  exact .cons h1 .nil
theorem Hu:∀ cs:List Nat,Txt.join "" (cs.map fun c=>S [c])=S cs:=by
 intro cs
 have:∀ (cs:List Nat) (acc:List Nat),(cs.map fun c=>S [c]).foldl (fun a p=>a++("":Str).cps++p.cps) acc.toArray=(acc++cs).toArray:=by
  intro cs
  induction cs with
  | nil=>intro acc;simp
  | cons c cs ih =>
   intro acc
   rw [List.map_cons,List.foldl_cons]
   have:(acc.toArray++("":Str).cps++(S [c]).cps)=(acc++[c]).toArray:=by
    have e:("":Str).cps=#[]:=by kernel_rfl!
    rw [e];simp
   rw [this,ih];simp
 induction cs using List.casesOn with
 | nil=>rfl
 | cons c cs =>
  refine (?_:(⟨(cs.map fun c=>S [c]).foldl (fun a p=>a++("":Str).cps++p.cps) (S [c]).cps⟩:Str)=_)
  exact congrArg Str.mk (this cs [c])
theorem HU (F:KF W.K) {m:Int} {objs:List AO}:AR W 5 (.ref 861) [.int m] objs (.str (S (AI m))) objs:=by
 have hfor:AH W 3 FM.sc FM.fo ⟨[("mode",.int m),("perm",.own 0)],[.list []]⟩ .next ⟨[("mode",.int m),("perm",.own 0)],[.list ((AI m).map chP)]⟩ :=
  LD F (xs:=C1.map Gr) (by kernel_rfl!) (e:=BE 0 (exprS FM.fo)) (by kernel_rfl!) (by kernel_rfl!) (AQ F {} (n:=10) (by kernel_rfl!)) (by kernel_rfl!) (HY F C1 0 [] (by decide))
 have h:=Bv (k:=2) (x:="mode") (v:=.int m) (objs:=[]) (n:=20) (fl:=.ret (.str (Txt.join "" ((AI m).map fun c=>S [c])))) (st':=⟨[("mode",.int m),("perm",.own 0)],[.list ((AI m).map chP)]⟩)
  (o:=[ob (AH W 3 FM.sc FM.fo ⟨[("mode",.int m),("perm",.own 0)],[.list []]⟩ .next ⟨[("mode",.int m),("perm",.own 0)],[.list ((AI m).map chP)]⟩),(((AI m).map fun c=>S [c]).map (·.length)).sum+((AI m).map fun c=>S [c]).length*("":Str).length]) F F.f861
  {st:=fun s ζ=>if (B3 s).line==824 then some (.next,⟨[("mode",.int m),("perm",.own 0)],[.list ((AI m).map chP)]⟩) else none}
  (by kernel_rfl!) (by intro pm c v;kernel_rfl!) (by kernel_rfl!) (obs (AC hfor) (obs (szl ?_) AS))
 ·simp only [AF.val] at h
  rw [Hu] at h
  refine AR.frame (AR.iced (objs:=[]) (fu:=20) h.ok.up ?_) rfl
  rfl
 ·exact Nat.le_of_ble_eq_true (by kernel_rfl!)
end
noncomputable def An:Expr→Expr
 | .ListComp e ..=>e
 | _=>default
noncomputable def Aj (n:Nat):Expr→Comprehension
 | .ListComp _ gs ..=>gs.getD n default
 | _=>default
noncomputable def As:Expr→Scope
 | .ListComp _ _ s _=>s
 | _=>default
noncomputable def gB (g:Comprehension):Bool:=JQ g.ifs&&(g.is_async==0)
noncomputable def isC1:Expr→Bool
 | .ListComp _ gs _ _=>(match gs with
  | []=>false
  | g::r=>gB g&&JQ r)
 | _=>false
noncomputable def isC2:Expr→Bool
 | .ListComp _ gs _ _=>(match gs with
  | []=>false
  | g::r=>(match r with
   | []=>false
   | g'::r=>gB g&&gB g'&&JQ r))
 | _=>false
theorem gB_e {g:Comprehension} (h:gB g=true):g=⟨g.target,g.iter,[],0⟩:=by
 obtain ⟨t,i,ifs,a⟩:=g
 have e1:ifs=[]:=HB (bt h).1
 have e2:a=0:=eq_of_beq (bt h).2
 rw [e1,e2]
set_option tactic.hygienic true in
theorem Lv {e:Expr} (h:isC1 e=true):∃ p,e=.ListComp (An e) [⟨(Aj 0 e).target,(Aj 0 e).iter,[],0⟩] (As e) p:=by
 induction e using Expr.casesOn <;> first | exact ff h | skip
 rename_i el gs sc p
 induction gs using List.casesOn with
 | nil=>exact ff h
 | cons g r=>cases HB (bt h).2;exact ⟨p,congrArg (fun g=>Expr.ListComp el [g] sc p) (gB_e (bt h).1)⟩
set_option tactic.hygienic true in
theorem c2_eta {e:Expr} (h:isC2 e=true):∃ p,e=.ListComp (An e) [⟨(Aj 0 e).target,(Aj 0 e).iter,[],0⟩,⟨(Aj 1 e).target,(Aj 1 e).iter,[],0⟩] (As e) p:=by
 induction e using Expr.casesOn <;> first | exact ff h | skip
 rename_i el gs sc p
 induction gs using List.casesOn with
 | nil=>exact ff h
 | cons g r =>
  induction r using List.casesOn with
  | nil=>exact ff h
  | cons g' r =>
   cases HB (bt h).2
   exact ⟨p,(congrArg (fun g=>Expr.ListComp el [g,g'] sc p) (gB_e (bt (bt h).1).1)).trans (congrArg (fun x=>Expr.ListComp el [_,x] sc p) (gB_e (bt (bt h).1).2))⟩
noncomputable def A7 (sep:List Nat):List (List Nat)→List Nat
 | []=>[]
 | [x]=>x
 | x::y::r=>x++sep++A7 sep (y::r)
theorem Cq (sep:List Nat):∀ ls:List (List Nat),Txt.join (S sep) (ls.map S)=S (A7 sep ls):=by
 have:∀ (ls:List (List Nat)) (x:List Nat),(ls.map S).foldl (fun a p=>a++(S sep).cps++p.cps) x.toArray=(A7 sep (x::ls)).toArray:=by
  intro ls
  induction ls with
  | nil=>intro x;rfl
  | cons y ls ih =>
   intro x
   rw [List.map_cons,List.foldl_cons]
   have:(x.toArray++(S sep).cps++(S y).cps)=(x++sep++y).toArray:=by simp
   rw [this,ih]
   induction ls using List.casesOn <;> simp [A7]
 intro ls
 induction ls using List.casesOn with
 | nil=>rfl
 | cons x ls=>exact congrArg Str.mk (this ls x)
theorem DB:∀ ls:List (List Nat),A7 [] ls=ls.flatten
 | []=>rfl
 | [x]=>by simp [A7]
 | x::y::r=>by rw [A7,DB (y::r)];simp
noncomputable def Ke (e:Expr):Option (Expr×Expr):=I8 "join" e
section
variable {W:Wd} {k:Nat} {sc:Scope} {st st' st'':ST}
theorem AA.forget {e:Expr} {v:AV} (h:AA W k sc e st v st') (hs:Sub st''.loc st'.loc) (ho:st''.objs=st'.objs):AA W k sc e st v st'' :=
 fun Z L as s A Q E env hE hR S q=>h Z L as s A Q E env hE hR S fun Z' as' u s' S'=>q Z' as' u s' (S'.forget hs ho)
theorem Ac.each {α:Type} {elt tgt:Expr} {g r:α→AV} {objs:List AO}:∀ (xs:List α),(∀ x∈xs,∃ st₁ st₂,AX W k sc tgt (g x) ⟨[],objs⟩ st₁∧AA W k sc elt st₁ (r x) st₂∧st₂.objs=objs)→Ac W k sc elt tgt (xs.map g) ⟨[],objs⟩ (xs.map r) ⟨[],objs⟩
 | [],_=>.nil
 | x::xs,h=>by
  refine Be (h x (.head _)) fun s1 s2 h1 h2 h3=>?_
  exact .cons h1 (h2.forget (st'':=⟨[],objs⟩) .nil h3.symm) (Ac.each xs fun y hy=>h y (.tail _ hy))
theorem AA.comp1 {e:Expr} {v:AV} {xs ys:List AV} (h:isC1 e=true) (hs:∀ env x,foldedSetIterable (Aj 0 e).iter env x=pure x) (sok:Ei (As e)=true) (he:AA W k sc (Aj 0 e).iter st v st') (hi:Fa v=some xs)
  (hrun:Ac W k (As e) (An e) (Aj 0 e).target xs ⟨[],st'.objs⟩ ys ⟨[],st'.objs⟩) (hl:xs.length≤1000000):AA W k sc e st (.lst ys) st':=by
 obtain ⟨p,ep⟩:=Lv h
 have:=AA.comp (W:=W) (k:=k) (sc:=sc) (st:=st) (pos:=p) hs (Bm.of sok) (.val he hi) (hrun.loop (szl hl)) (by rw [hrun.len];exact szl hl)
 rw [← ep] at this
 exact this
theorem AA.comp2 {e:Expr} {v:AV} {xs ys:List AV} (h:isC2 e=true) (hs:∀ env x,foldedSetIterable (Aj 0 e).iter env x=pure x) (hs':∀ env x,foldedSetIterable (Aj 1 e).iter env x=pure x) (sok:Ei (As e)=true) (he:AA W k sc (Aj 0 e).iter st v st') (hi:Fa v=some xs)
  (hrun:BO W k (As e) (An e) (Aj 0 e).target (Aj 1 e).target (Aj 1 e).iter xs ⟨[],st'.objs⟩ ys ⟨[],st'.objs⟩) (hl:ys.length≤1000000):AA W k sc e st (.lst ys) st':=by
 obtain ⟨p,ep⟩:=c2_eta h
 have:=AA.comp (W:=W) (k:=k) (sc:=sc) (st:=st) (pos:=p) hs (Bm.of sok) (.val he hi) (hrun.loop hs' (szl hl)) (szl hl)
 rw [← ep] at this
 exact this
noncomputable def asgT:Stmt→Option (List Expr×Expr×Pos)
 | .Assign t e p=>some (t,e,p)
 | _=>none
noncomputable def asg1 (s:Stmt):Option (Str×Pos×Expr×Pos):=(asgT s).bind fun c=>(one c.1).bind fun t=>(HC t).bind fun y=>some (y.1,y.2,c.2.1,c.2.2)
theorem asg1_e {s:Stmt} {c:Str×Pos×Expr×Pos} (h:asg1 s=some c):s=.Assign [.Name c.1 c.2.1] c.2.2.1 c.2.2.2:=by
 refine AE h fun c hc h=>AE h fun t ht h=>AE h fun y hy h=>?_
 obtain rfl:=Option.some.inj h
 rw [← GK hy,← Bd ht]
 induction s using Stmt.casesOn <;> first | exact no hc | exact Option.some.inj hc▸rfl
theorem AH.comp1 {s:Stmt} {x:Str} {v:AV} {xs ys:List AV} (hst:((asg1 s).any fun c=>c.1==x&&isC1 c.2.2.1&&(c.2.1.line==c.2.2.1.pos.line&&!((As c.2.2.1).names.any fun (n,k)=>n==c.1&&(k==.local || k==.cell))))=true) (hx:sc.names.lookup x=some .local)
  (hs:∀ env x,foldedSetIterable (Aj 0 (exprS s)).iter env x=pure x) (sok:Ei (As (exprS s))=true) (he:AA W k sc (Aj 0 (exprS s)).iter st v st') (hi:Fa v=some xs)
  (hrun:Ac W k (As (exprS s)) (An (exprS s)) (Aj 0 (exprS s)).target xs ⟨[],st'.objs⟩ ys ⟨[],st'.objs⟩) (hl:xs.length≤1000000):AH W k sc s st .next {loc:=BY x (.lst ys) st'.loc,objs:=st'.objs}:=by
 cases hq:asg1 s with
 | none=>rw [hq] at hst;exact ff hst
 | some q =>
  rw [hq] at hst
  obtain ⟨y,p,e,pos⟩:=q
  have hs':s=.Assign [.Name y p] e pos:=asg1_e hq
  subst hs'
  have hst':(y==x&&isC1 e&&(p.line==e.pos.line&&!((As e).names.any fun (n,k)=>n==y&&(k==.local || k==.cell))))=true:=hst
  obtain ⟨h1,h3⟩:=bt hst'
  obtain ⟨h1,h2⟩:=bt h1
  obtain rfl:=beq_iff_eq.mp h1
  obtain ⟨pp,ep⟩:=Lv h2
  have e3:(exprS (.Assign [.Name y p] e pos))=e:=rfl
  rw [e3] at hs sok he hrun
  have hp:e.pos=pp:=by rw [ep];rfl
  have:=AH.assignComp (W:=W) (k:=k) (sc:=sc) (st:=st) (x:=y) (px:=p) (spos:=pos) (pos:=pp) hs (Bm.of sok) hx (.val he hi) (hrun.loop (szl hl)) (by rw [hrun.len];exact szl hl) (by rw [← hp];simpa using h3)
  rw [← ep] at this
  exact this
theorem AA.joinAt (F:KF W.K) {e s a:Expr} {sep:Str} {ys:List Str} (h:Ke e=some (s,a)) (h1:AA W (k+1) sc s st (.str sep) st') (h2:AA W (k+1) sc a st' (.lst (ys.map .str)) st'') (hok:(ys.map (·.length)).sum+ys.length*sep.length≤16777216):AA W (k+1) sc e st (.str (Txt.join sep ys)) st'':=by
 refine GH (E7 h) fun ap p r2_ c2 c3 c4=>?_;subst r2_
 have hm:ET (tb W k {}) st'.objs "join" (.str sep)=some (.builtin "str.join"):=by kernel_rfl!
 exact .callMeth c2 c3 (Nat.le_of_ble_eq_true rfl) c4 h1 (Cx (BP F).res (BP F).pat hm) trivial (.cons (bt c3).1 h2 .nil) (EY hok)
end
noncomputable def Sg (l:List Nat):Prop:=∀ c∈l,c∈Rx.signs
theorem Sg.small {l:List Nat} (h:Sg l):(S l).cps.all (·<128)=true:=by
 refine (?_:l.toArray.all (·<128)=true)
 rw [List.all_toArray,List.all_eq_true]
 intro c hc
 have:(Rx.signs.all fun c=>decide (c<128))=true:=by decide
 exact List.all_eq_true.mp this c (h c hc)
noncomputable def A3 (c:Nat):List Nat:=if Rx.isEsc c then [92,c] else [c]
noncomputable def AD (w:List Nat) (b:Bool):List Nat:=if b then w else [34]++w.flatMap A3++[34]
theorem inEsc {c:Nat} (h:c∈Rx.signs):inF (S [c]) "\"\\"=Rx.isEsc c:=by
 have:(Rx.signs.all fun c=>inF (S [c]) "\"\\"==Rx.isEsc c)=true:=by decide +kernel
 exact beq_iff_eq.mp (List.all_eq_true.mp this c h)
namespace LW
noncomputable abbrev d:=top 65
noncomputable abbrev sc:=AM d
noncomputable abbrev ret:=nth (AB d) 1
noncomputable abbrev jn:=rE (lE (exprS ret))
noncomputable abbrev cp:=BE 0 jn
end LW
section
variable {W:Wd} {k:Nat} {sc:Scope} {st st' st'':ST}
theorem lw_elt (F:KF W.K) {c:Nat} (hc:c∈Rx.signs) {objs:List AO}:∃ st₁ st₂,AX W 1 (As LW.cp) (Aj 0 LW.cp).target (chP c) ⟨[],objs⟩ st₁∧AA W 1 (As LW.cp) (An LW.cp) st₁ (.str (S (A3 c))) st₂∧st₂.objs=objs:=by
 refine ⟨_,⟨[("sign",chP c)],objs⟩,.at (x:="sign") (by kernel_rfl!) (by kernel_rfl!),?_,rfl⟩
 cases h:Rx.isEsc c with
 | true =>
  have e:S (A3 c)=("\\":Str)++S [c]:=by
   have:("\\":Str)=S [92]:=by kernel_rfl!
   rw [this,Ai];unfold A3;rw [h];rfl
  rw [e]
  exact BW (AW F 0 {hint:=fun ζ ζ=>some true}) (n:=20) (o:=[ob (inF (S [c]) "\"\\"=true),("\\":Str).length+(S [c]).length]) (by kernel_rfl!) (obs (AC (by rw [inEsc hc,h])) (obs (szl (Nat.le_of_ble_eq_true (by kernel_rfl!))) AS))
 | false =>
  have e:S (A3 c)=("":Str)++S [c]:=by
   have:("":Str)=S []:=by kernel_rfl!
   rw [this,Ai];unfold A3;rw [h];rfl
  rw [e]
  exact BW (AW F 0 {hint:=fun ζ ζ=>some false}) (n:=20) (o:=[ob (inF (S [c]) "\"\\"=false),("":Str).length+(S [c]).length]) (by kernel_rfl!) (obs (AC (by rw [inEsc hc,h])) (obs (szl (Nat.le_of_ble_eq_true (by kernel_rfl!))) AS))
theorem Dj:∀ w:List Nat,(w.flatMap A3).length≤2*w.length
 | []=>by simp
 | c::w=>by
  have:=Dj w
  rw [List.flatMap_cons,List.length_append,List.length_cons]
  have h2:(A3 c).length≤2:=by unfold A3;split <;> simp
  exact lin h2 (lin this (by simp +arith only))
theorem CT (ls:List (List Nat)):((ls.map S).map (·.length)).sum=ls.flatten.length:=by
 induction ls with
 | nil=>rfl
 | cons l ls ih=>rw [List.map_cons,List.map_cons,List.sum_cons,ih,List.flatten_cons,List.length_append,AU]
theorem lw_join (F:KF W.K) {w:List Nat} (hw:Sg w) (hl:w.length≤1000) {bv:AV} {objs:List AO}:AA W 1 LW.sc LW.jn ⟨[("word",.str (S w)),("bare",bv)],objs⟩ (.str (S (w.flatMap A3))) ⟨[("word",.str (S w)),("bare",bv)],objs⟩:=by
 have hj:Txt.join "" ((w.map A3).map S)=S (w.flatMap A3):=by
  have:("":Str)=S []:=by kernel_rfl!
  rw [this,Cq,DB];rfl
 have hf:(w.map A3).flatten=w.flatMap A3:=rfl
 have hel:=Dj w
 rw [← hj]
 refine AA.joinAt F (s:=lE (Dd LW.jn)) (a:=LW.cp) (by kernel_rfl!) (AQ F {} (n:=10) (by kernel_rfl!)) ?_ (by rw [CT,hf,List.length_map,List.length_map];refine (?_:_+_*0≤_);exact Nat.le_trans hel (lb (Nat.mul_le_mul_left _ hl) rfl))
 have:=Ac.each (W:=W) (k:=1) (sc:=As LW.cp) (elt:=An LW.cp) (tgt:=(Aj 0 LW.cp).target) (g:=chP) (r:=fun c=>.str (S (A3 c))) (objs:=objs) w fun c hc=>lw_elt F (hw c hc)
 have e2:((w.map A3).map S).map AV.str=w.map fun c=>.str (S (A3 c)):=by rw [List.map_map,List.map_map];rfl
 rw [e2]
 refine AA.comp1 (v:=.str (S w)) (xs:=w.map chP) (by kernel_rfl!) (fun ζ ζ=>by kernel_rfl!) (by kernel_rfl!) (AQ F {} (n:=10) (by kernel_rfl!)) ?_ this (by rw [List.length_map];exact lb (by assumption) rfl)
 refine (?_:(if ((S w).cps.all (·<128))=true then some (G9 (S w).cps.toList) else none)=_)
 rw [if_pos hw.small]
 rfl
theorem CZ (F:KF W.K) {w:List Nat} {b:Bool} (hw:Sg w) (hl:w.length≤1000) {objs:List AO}:AR W 2 (.ref 880) [.str (S w),.bool b] objs (.str (S (AD w b))) objs:=by
 induction b using Bool.casesOn with
 | true=>exact (run2 (k:=0) (x:="word") (y:="bare") (n:=20) (fl:=.ret (.str (S w))) (st':=⟨[("word",.str (S w)),("bare",.bool true)],objs⟩) (o:=[]) F F.f880 {} (by kernel_rfl!) (by intro pm c v u;kernel_rfl!) (by kernel_rfl!) AS).ok
 | false =>
  have hel:=Dj w
  have h:=(run2 (k:=0) (x:="word") (y:="bare") (n:=20) (v:=.str (S w)) (u:=.bool false) (objs:=objs) (fl:=.ret (.str (("\"":Str)++S (w.flatMap A3)++("\"":Str)))) (st':=⟨[("word",.str (S w)),("bare",.bool false)],objs⟩)
   (o:=[ob (AA W 1 LW.sc LW.jn ⟨[("word",.str (S w)),("bare",.bool false)],objs⟩ (.str (S (w.flatMap A3))) ⟨[("word",.str (S w)),("bare",.bool false)],objs⟩),("\"":Str).length+(S (w.flatMap A3)).length,(("\"":Str)++S (w.flatMap A3)).length+("\"":Str).length]) F F.f880
   {ex:=fun e st=>if atP 862 17 83 e then some (.str (S (w.flatMap A3)),st) else none} (by kernel_rfl!) (by intro pm c v u;kernel_rfl!) (by kernel_rfl!) ?_).ok
  ·have eq:("\"":Str)=S [34]:=by kernel_rfl!
   simp only [AF.val] at h
   rw [eq,Ai,Ai] at h
   exact h
  ·have eq:("\"":Str)=S [34]:=by kernel_rfl!
   rw [eq,Ai]
   refine obs (AC (lw_join F hw hl)) (obs (szl ?_) (obs (szl ?_) AS))
   ·rw [AU,AU];simp only [List.length_cons,List.length_nil];exact Nat.le_trans (Nat.add_le_add_left hel _) (lb (Nat.add_le_add_left (Nat.mul_le_mul_left _ hl) _) rfl)
   ·rw [AU,AU];simp only [List.length_append,List.length_cons,List.length_nil];exact (lin hel (lnn 2 hl (by simp +arith only)))
end
noncomputable def JN (L N:List Nat):AV:=.lst [.tup [.str "m",.str (S L)],.tup [.str "n",.str (S N)]]
noncomputable def Jj:Value→List AV→List AO→Option (AV×List AO):=fun f args objs=>if f==.ref 880 then (match args with | [.str x,.bool b]=>some (.str (S (AD x.cps.toList b)),objs) | _=>none) else none
noncomputable def BB (m:Int):Nat:=GD m 0 (C1.getD 0 [])
noncomputable def BN (m:Int):Bool:=S [BB m] != "?"
noncomputable def Ft (N:List Nat):Bool:=!N.isEmpty&&N.all (·==39)
noncomputable def IH (m:Int) (N:List Nat):List Nat:=[109,61]++AD (AI m) (BN m)++[59,32,110,61]++AD N (Ft N)
namespace LE
noncomputable abbrev d:=top 66
noncomputable abbrev sc:=AM d
end LE
theorem Al (w:List Nat) (b:Bool):(AD w b).length≤2*w.length+2:=by
 have:=Dj w
 unfold AD
 split
 ·simp +arith only
 ·simp only [List.length_append,List.length_cons,List.length_nil];exact lin (by assumption) (by simp +arith only)
theorem repS_S (c:Nat) (n:Nat):D6 (S [c]) n=S (List.replicate n c):=by
 have:∀ n (acc:List Nat),(List.replicate n (S [c]).cps).foldl (·++·) acc.toArray=(acc++List.replicate n c).toArray:=by
  intro n
  induction n with
  | zero=>intro acc;simp
  | succ n ih =>
   intro acc
   rw [List.replicate_succ,List.foldl_cons]
   have:acc.toArray++(S [c]).cps=(acc++[c]).toArray:=by simp
   rw [this,ih,List.replicate_succ];simp
 refine (?_:(⟨_⟩:Str)=_)
 have:=this n []
 rw [List.nil_append] at this
 exact congrArg Str.mk this
theorem rep_all (c:Nat) (l:List Nat):(S l==S (List.replicate l.length c))=l.all (·==c):=by
 rw [Bool.eq_iff_iff]
 simp only [beq_iff_eq,List.all_eq_true]
 rw [Fv]
 constructor
 ·intro h x hx
  rw [h] at hx
  exact (List.mem_replicate.mp hx).2
 ·intro h
  exact List.eq_replicate_iff.mpr ⟨rfl,h⟩
section
variable {W:Wd} {k:Nat} {sc:Scope} {st st' st'':ST}
theorem BT (m:Int):(AI m).length=10:=by kernel_rfl!
theorem LU (F:KF W.K) {m:Int} {N:List Nat} (hm:Sg (AI m)) (hN:Sg N) (hl:N.length≤100) {objs:List AO}:AR W 4 (.ref 887) [JN (AI m) N] objs (.str (S (IH m N))) objs:=by
 have em:("m=":Str)=S [109,61]:=by kernel_rfl!
 have en:("; n=":Str)=S [59,32,110,61]:=by kernel_rfl!
 have ea:("'":Str)=S [39]:=by kernel_rfl!
 have w1:=Al (AI m) (BN m)
 rw [BT] at w1
 have w2:∀ b,(AD N b).length≤1000:=fun b=>by have:=Al N b;exact Nat.le_trans this (lb (Nat.add_le_add_right (Nat.mul_le_mul_left _ hl) _) rfl)
 have fin:∀ b,S (([109,61]++AD (AI m) (BN m))++[59,32,110,61]++AD N b)=("m=":Str)++S (AD (AI m) (BN m))++("; n=":Str)++S (AD N b):=fun b=>by rw [em,en,Ai,Ai,Ai]
 by_cases h0:N=[]
 ·subst h0
  have h:=(Bv (k:=2) (x:="pairs") (n:=20) (v:=JN (AI m) []) (objs:=objs) (fl:=.ret (.str (("m=":Str)++S (AD (AI m) (BN m))++("; n=":Str)++S (AD [] (S [] != "")))))
   (st':=⟨[("pairs",JN (AI m) []),("listing",.str (S (AI m))),("name",.str (S [])),("ahead",.str (("m=":Str)++S (AD (AI m) (BN m))))],objs⟩)
   (o:=[ob (AP W 2 (.ref 880) [.str (S (AI m)),.bool (BN m)] objs (.str (S (AD (AI m) (BN m)))) objs),("m=":Str).length+(S (AD (AI m) (BN m))).length,(("m=":Str)++S (AD (AI m) (BN m))).length+("; n=":Str).length,
    ob ((S [] != "")=false),ob (AP W 2 (.ref 880) [.str (S []),.bool (S [] != "")] objs (.str (S (AD [] (S [] != "")))) objs),(("m=":Str)++S (AD (AI m) (BN m))++("; n=":Str)).length+(S (AD [] (S [] != ""))).length])
   F F.f887 {call:=Jj,hint:=fun l ζ=>if l==867 then some false else none} (by kernel_rfl!) (by intro pm c v;kernel_rfl!) (by kernel_rfl!) ?_).ok
  ·have e:(S [] != ("":Str))=Ft []:=by kernel_rfl!
   simp only [AF.val] at h
   rw [e,← fin] at h
   exact h
  ·have ww:=w2 (S [] != ("":Str))
   rw [em,en,Ai,Ai]
   simp only [AU]
   refine obs (AC (cob (CZ F hm (by rw [BT];decide)) (by decide))) (obs (szl ?_) (obs (szl ?_) (obs (AC (by kernel_rfl!)) (obs (AC (cob (CZ F hN (by decide)) (by decide))) (obs (szl ?_) AS)))))
   ·simp only [List.length_append,List.length_cons,List.length_nil];exact lb (Nat.add_le_add_left w1 _) rfl
   ·simp only [List.length_append,List.length_cons,List.length_nil];exact lb (Nat.add_le_add_right (Nat.add_le_add_left w1 _) _) rfl
   ·simp only [List.length_append,List.length_cons,List.length_nil];exact (lin w1 (lin ww (by simp +arith only)))
 ·have hne:(S N != ("":Str))=true:=by
   have:("":Str)=S []:=by kernel_rfl!
   rw [this]
   simp only [bne_iff_ne,ne_eq]
   rw [Fv];exact h0
  have h:=(Bv (k:=2) (x:="pairs") (n:=20) (v:=JN (AI m) N) (objs:=objs) (fl:=.ret (.str (("m=":Str)++S (AD (AI m) (BN m))++("; n=":Str)++S (AD N (S N==D6 "'" N.length)))))
   (st':=⟨[("pairs",JN (AI m) N),("listing",.str (S (AI m))),("name",.str (S N)),("ahead",.str (("m=":Str)++S (AD (AI m) (BN m))))],objs⟩)
   (o:=[ob (AP W 2 (.ref 880) [.str (S (AI m)),.bool (BN m)] objs (.str (S (AD (AI m) (BN m)))) objs),("m=":Str).length+(S (AD (AI m) (BN m))).length,(("m=":Str)++S (AD (AI m) (BN m))).length+("; n=":Str).length,
    ob ((S N != "")=true),("'":Str).length*N.length,N.length,ob (AP W 2 (.ref 880) [.str (S N),.bool (S N==D6 "'" N.length)] objs (.str (S (AD N (S N==D6 "'" N.length)))) objs),(("m=":Str)++S (AD (AI m) (BN m))++("; n=":Str)).length+(S (AD N (S N==D6 "'" N.length))).length])
   F F.f887 {call:=Jj,hint:=fun l ζ=>if l==867 then some true else none} (by kernel_rfl!) (by intro pm c v;kernel_rfl!) (by kernel_rfl!) ?_).ok
  ·have e:(S N==D6 "'" N.length)=Ft N:=by
    rw [ea,repS_S,rep_all]
    unfold Ft
    induction N using List.casesOn with
    | nil=>exact (h0 rfl).elim
    | cons a l=>rfl
   simp only [AF.val] at h
   rw [e,← fin] at h
   exact h
  ·have ww:=w2 (S N==D6 "'" N.length)
   rw [em,en,Ai,Ai]
   simp only [AU]
   refine obs (AC (cob (CZ F hm (by rw [BT];decide)) (by decide))) (obs (szl ?_) (obs (szl ?_) (obs (AC hne) (obs (szl ?_) (obs (szl ?_) (obs (AC (cob (CZ F hN (by exact lb (by assumption) rfl)) (by decide))) (obs (szl ?_) AS)))))))
   ·simp only [List.length_append,List.length_cons,List.length_nil];exact lb (Nat.add_le_add_left w1 _) rfl
   ·simp only [List.length_append,List.length_cons,List.length_nil];exact lb (Nat.add_le_add_right (Nat.add_le_add_left w1 _) _) rfl
   ·have el:("'":Str).length=1:=by kernel_rfl!
    rw [el];exact lb (Nat.mul_le_mul_left _ hl) rfl
   ·exact lb (by assumption) rfl
   ·simp only [List.length_append,List.length_cons,List.length_nil];exact (lin w1 (lin ww (by simp +arith only)))
end
noncomputable def ch (m:Int) (i:Nat):Nat:=(AI m).getD i 0
noncomputable def rtA (u t:Int) (a b:Nat):Int:=t+(if S [a]=="r" then 4*u else 0)+(if S [b]=="w" then 2*u else 0)
noncomputable def rtB (u v t:Int) (c:Nat):Int:=t+(if inF (S [c]) "xst" then u else 0)+(if inF (S [c]) "SsTt" then 512*v else 0)
noncomputable def rtT (u v t:Int) (a b c:Nat):Int:=rtB u v (rtA u t a b) c
noncomputable def Bg (m:Int):Int:=rtT 1 1 (rtT 8 2 (rtT 64 4 0 (ch m 1) (ch m 2) (ch m 3)) (ch m 4) (ch m 5) (ch m 6)) (ch m 7) (ch m 8) (ch m 9)
noncomputable def isIfE:Expr→Bool
 | .IfExp ..=>true
 | _=>false
namespace LR
noncomputable abbrev d:=top 67
noncomputable abbrev sc:=AM d
noncomputable abbrev fs:=nth (AB d) 1
noncomputable abbrev e1:=rE (lE (exprS (nth (AB fs) 2)))
noncomputable abbrev e2:=rE (exprS (nth (AB fs) 2))
noncomputable abbrev e3:=rE (lE (exprS (nth (AB fs) 3)))
noncomputable abbrev e4:=rE (exprS (nth (AB fs) 3))
end LR
section
variable {W:Wd} {k:Nat} {sc:Scope} {st st' st'':ST}
theorem AA.ifAt {e:Expr} {c:Bool} {x y:Int} (he:isIfE e=true) (ht:AL W k sc (lE e) st c st) (ha:AA W k sc (rE e) st (.int x) st) (hb:AA W k sc (zE e) st (.int y) st):AA W k sc e st (.int (if c then x else y)) st:=by
 induction e using Expr.casesOn <;> first | exact ff he | skip
 induction c using Bool.casesOn with
 | true=>exact .ifExp ht ha
 | false=>exact .ifExp ht hb
theorem CN (F:KF W.K) (t:EM) {n:Nat} {e:Expr} {c:Bool} (h:tsE (tb W k t) sc n e st=some (c,st,[])):AL W (k+1) sc e st c st:=Gi (AW F k t) h AS
theorem Bk (F:KF W.K) (t:EM) {n:Nat} {e:Expr} {v:AV} {o:List Nat} (h:evE (tb W k t) sc n e st=some (v,st,o)) (ho:∀ n∈o,n≤sizeLine):AA W (k+1) sc e st v st:=BW (AW F k t) h ho
theorem K0 (F:KF W.K) {m t:Int} {objs:List AO}:∃ st₁,AX W 1 LR.sc (tgtS LR.fs) (.int 0) ⟨[("listing",.str (S (AI m))),("total",.int t)],objs⟩ st₁ ∧
  A8 W 1 LR.sc (AB LR.fs) st₁ .next ⟨[("listing",.str (S (AI m))),("total",.int (rtT 64 4 t (ch m 1) (ch m 2) (ch m 3)))],objs⟩:=by
 refine ⟨_,.at (x:="part") (by kernel_rfl!) (by kernel_rfl!),?_⟩
 refine (AN (AW F 0 {ex:=fun e st=>if atP 873 25 59 e then some (.int (if S [ch m 1]=="r" then 4*64 else 0),st) else if atP 873 64 98 e then some (.int (if S [ch m 2]=="w" then 2*64 else 0),st) else if atP 874 25 57 e then some (.int (if inF (S [ch m 3]) "xst" then 64 else 0),st) else if atP 874 62 112 e then some (.int (if inF (S [ch m 3]) "SsTt" then 512*4 else 0),st) else none}) (n:=20)
  (st':=⟨[("listing",.str (S (AI m))),("total",.int (rtT 64 4 t (ch m 1) (ch m 2) (ch m 3))),("part",.int 0),("three",.str (S [ch m 1,ch m 2,ch m 3])),("unit",.int 64)],objs⟩)
  (o:=[Int.natAbs 3,Int.natAbs 0,Int.natAbs 3,Int.natAbs 0,Int.natAbs 8,17*Int.natAbs (2 - 0),
   ob (AA W 1 LR.sc LR.e1 ⟨[("listing",.str (S (AI m))),("total",.int t),("part",.int 0),("three",.str (S [ch m 1,ch m 2,ch m 3])),("unit",.int 64)],objs⟩ (.int (if S [ch m 1]=="r" then 4*64 else 0)) ⟨[("listing",.str (S (AI m))),("total",.int t),("part",.int 0),("three",.str (S [ch m 1,ch m 2,ch m 3])),("unit",.int 64)],objs⟩),
   ob (AA W 1 LR.sc LR.e2 ⟨[("listing",.str (S (AI m))),("total",.int t),("part",.int 0),("three",.str (S [ch m 1,ch m 2,ch m 3])),("unit",.int 64)],objs⟩ (.int (if S [ch m 2]=="w" then 2*64 else 0)) ⟨[("listing",.str (S (AI m))),("total",.int t),("part",.int 0),("three",.str (S [ch m 1,ch m 2,ch m 3])),("unit",.int 64)],objs⟩),
   ob (AA W 1 LR.sc LR.e3 ⟨[("listing",.str (S (AI m))),("total",.int (rtA 64 t (ch m 1) (ch m 2))),("part",.int 0),("three",.str (S [ch m 1,ch m 2,ch m 3])),("unit",.int 64)],objs⟩ (.int (if inF (S [ch m 3]) "xst" then 64 else 0)) ⟨[("listing",.str (S (AI m))),("total",.int (rtA 64 t (ch m 1) (ch m 2))),("part",.int 0),("three",.str (S [ch m 1,ch m 2,ch m 3])),("unit",.int 64)],objs⟩),
   ob (AA W 1 LR.sc LR.e4 ⟨[("listing",.str (S (AI m))),("total",.int (rtA 64 t (ch m 1) (ch m 2))),("part",.int 0),("three",.str (S [ch m 1,ch m 2,ch m 3])),("unit",.int 64)],objs⟩ (.int (if inF (S [ch m 3]) "SsTt" then 512*4 else 0)) ⟨[("listing",.str (S (AI m))),("total",.int (rtA 64 t (ch m 1) (ch m 2))),("part",.int 0),("three",.str (S [ch m 1,ch m 2,ch m 3])),("unit",.int 64)],objs⟩)]) (by kernel_rfl!) ?_).forget (.cons rfl (.cons rfl .nil)) rfl
 refine obs (szl (by decide)) (obs (szl (by decide)) (obs (szl (by decide)) (obs (szl (by decide)) (obs (szl (by decide)) (obs (szl (by decide)) (obs (AC ?_) (obs (AC ?_) (obs (AC ?_) (obs (AC ?_) AS)))))))))
 ·exact .ifAt (by kernel_rfl!) (CN F {} (n:=15) (by kernel_rfl!)) (Bk F {} (n:=15) (o:=[Int.natAbs 4,Int.natAbs 64]) (by kernel_rfl!) (obs (szl (by decide)) (obs (szl (by decide)) AS))) (AQ F {} (n:=15) (by kernel_rfl!))
 ·exact .ifAt (by kernel_rfl!) (CN F {} (n:=15) (by kernel_rfl!)) (Bk F {} (n:=15) (o:=[Int.natAbs 2,Int.natAbs 64]) (by kernel_rfl!) (obs (szl (by decide)) (obs (szl (by decide)) AS))) (AQ F {} (n:=15) (by kernel_rfl!))
 ·exact .ifAt (by kernel_rfl!) (CN F {} (n:=15) (by kernel_rfl!)) (AQ F {} (n:=15) (by kernel_rfl!)) (AQ F {} (n:=15) (by kernel_rfl!))
 ·exact .ifAt (by kernel_rfl!) (CN F {} (n:=15) (by kernel_rfl!)) (Bk F {} (n:=15) (o:=[Int.natAbs 2,17*Int.natAbs (2 - 0),Int.natAbs 512,Int.natAbs 4]) (by kernel_rfl!) (obs (szl (by decide)) (obs (szl (by decide)) (obs (szl (by decide)) (obs (szl (by decide)) AS))))) (AQ F {} (n:=15) (by kernel_rfl!))
theorem KZ (F:KF W.K) {m t:Int} {objs:List AO}:∃ st₁,AX W 1 LR.sc (tgtS LR.fs) (.int (0+1)) ⟨[("listing",.str (S (AI m))),("total",.int t)],objs⟩ st₁ ∧
  A8 W 1 LR.sc (AB LR.fs) st₁ .next ⟨[("listing",.str (S (AI m))),("total",.int (rtT 8 2 t (ch m 4) (ch m 5) (ch m 6)))],objs⟩:=by
 refine ⟨_,.at (x:="part") (by kernel_rfl!) (by kernel_rfl!),?_⟩
 refine (AN (AW F 0 {ex:=fun e st=>if atP 873 25 59 e then some (.int (if S [ch m 4]=="r" then 4*8 else 0),st) else if atP 873 64 98 e then some (.int (if S [ch m 5]=="w" then 2*8 else 0),st) else if atP 874 25 57 e then some (.int (if inF (S [ch m 6]) "xst" then 8 else 0),st) else if atP 874 62 112 e then some (.int (if inF (S [ch m 6]) "SsTt" then 512*2 else 0),st) else none}) (n:=20)
  (st':=⟨[("listing",.str (S (AI m))),("total",.int (rtT 8 2 t (ch m 4) (ch m 5) (ch m 6))),("part",.int (0+1)),("three",.str (S [ch m 4,ch m 5,ch m 6])),("unit",.int 8)],objs⟩)
  (o:=[Int.natAbs 3,Int.natAbs (0+1),Int.natAbs 3,Int.natAbs (0+1),Int.natAbs 8,17*Int.natAbs (2 - (0+1)),
   ob (AA W 1 LR.sc LR.e1 ⟨[("listing",.str (S (AI m))),("total",.int t),("part",.int (0+1)),("three",.str (S [ch m 4,ch m 5,ch m 6])),("unit",.int 8)],objs⟩ (.int (if S [ch m 4]=="r" then 4*8 else 0)) ⟨[("listing",.str (S (AI m))),("total",.int t),("part",.int (0+1)),("three",.str (S [ch m 4,ch m 5,ch m 6])),("unit",.int 8)],objs⟩),
   ob (AA W 1 LR.sc LR.e2 ⟨[("listing",.str (S (AI m))),("total",.int t),("part",.int (0+1)),("three",.str (S [ch m 4,ch m 5,ch m 6])),("unit",.int 8)],objs⟩ (.int (if S [ch m 5]=="w" then 2*8 else 0)) ⟨[("listing",.str (S (AI m))),("total",.int t),("part",.int (0+1)),("three",.str (S [ch m 4,ch m 5,ch m 6])),("unit",.int 8)],objs⟩),
   ob (AA W 1 LR.sc LR.e3 ⟨[("listing",.str (S (AI m))),("total",.int (rtA 8 t (ch m 4) (ch m 5))),("part",.int (0+1)),("three",.str (S [ch m 4,ch m 5,ch m 6])),("unit",.int 8)],objs⟩ (.int (if inF (S [ch m 6]) "xst" then 8 else 0)) ⟨[("listing",.str (S (AI m))),("total",.int (rtA 8 t (ch m 4) (ch m 5))),("part",.int (0+1)),("three",.str (S [ch m 4,ch m 5,ch m 6])),("unit",.int 8)],objs⟩),
   ob (AA W 1 LR.sc LR.e4 ⟨[("listing",.str (S (AI m))),("total",.int (rtA 8 t (ch m 4) (ch m 5))),("part",.int (0+1)),("three",.str (S [ch m 4,ch m 5,ch m 6])),("unit",.int 8)],objs⟩ (.int (if inF (S [ch m 6]) "SsTt" then 512*2 else 0)) ⟨[("listing",.str (S (AI m))),("total",.int (rtA 8 t (ch m 4) (ch m 5))),("part",.int (0+1)),("three",.str (S [ch m 4,ch m 5,ch m 6])),("unit",.int 8)],objs⟩)]) (by kernel_rfl!) ?_).forget (.cons rfl (.cons rfl .nil)) rfl
 refine obs (szl (by decide)) (obs (szl (by decide)) (obs (szl (by decide)) (obs (szl (by decide)) (obs (szl (by decide)) (obs (szl (by decide)) (obs (AC ?_) (obs (AC ?_) (obs (AC ?_) (obs (AC ?_) AS)))))))))
 ·exact .ifAt (by kernel_rfl!) (CN F {} (n:=15) (by kernel_rfl!)) (Bk F {} (n:=15) (o:=[Int.natAbs 4,Int.natAbs 8]) (by kernel_rfl!) (obs (szl (by decide)) (obs (szl (by decide)) AS))) (AQ F {} (n:=15) (by kernel_rfl!))
 ·exact .ifAt (by kernel_rfl!) (CN F {} (n:=15) (by kernel_rfl!)) (Bk F {} (n:=15) (o:=[Int.natAbs 2,Int.natAbs 8]) (by kernel_rfl!) (obs (szl (by decide)) (obs (szl (by decide)) AS))) (AQ F {} (n:=15) (by kernel_rfl!))
 ·exact .ifAt (by kernel_rfl!) (CN F {} (n:=15) (by kernel_rfl!)) (AQ F {} (n:=15) (by kernel_rfl!)) (AQ F {} (n:=15) (by kernel_rfl!))
 ·exact .ifAt (by kernel_rfl!) (CN F {} (n:=15) (by kernel_rfl!)) (Bk F {} (n:=15) (o:=[Int.natAbs 2,17*Int.natAbs (2 - (0+1)),Int.natAbs 512,Int.natAbs 2]) (by kernel_rfl!) (obs (szl (by decide)) (obs (szl (by decide)) (obs (szl (by decide)) (obs (szl (by decide)) AS))))) (AQ F {} (n:=15) (by kernel_rfl!))
theorem KY (F:KF W.K) {m t:Int} {objs:List AO}:∃ st₁,AX W 1 LR.sc (tgtS LR.fs) (.int (0+1+1)) ⟨[("listing",.str (S (AI m))),("total",.int t)],objs⟩ st₁ ∧
  A8 W 1 LR.sc (AB LR.fs) st₁ .next ⟨[("listing",.str (S (AI m))),("total",.int (rtT 1 1 t (ch m 7) (ch m 8) (ch m 9)))],objs⟩:=by
 refine ⟨_,.at (x:="part") (by kernel_rfl!) (by kernel_rfl!),?_⟩
 refine (AN (AW F 0 {ex:=fun e st=>if atP 873 25 59 e then some (.int (if S [ch m 7]=="r" then 4*1 else 0),st) else if atP 873 64 98 e then some (.int (if S [ch m 8]=="w" then 2*1 else 0),st) else if atP 874 25 57 e then some (.int (if inF (S [ch m 9]) "xst" then 1 else 0),st) else if atP 874 62 112 e then some (.int (if inF (S [ch m 9]) "SsTt" then 512*1 else 0),st) else none}) (n:=20)
  (st':=⟨[("listing",.str (S (AI m))),("total",.int (rtT 1 1 t (ch m 7) (ch m 8) (ch m 9))),("part",.int (0+1+1)),("three",.str (S [ch m 7,ch m 8,ch m 9])),("unit",.int 1)],objs⟩)
  (o:=[Int.natAbs 3,Int.natAbs (0+1+1),Int.natAbs 3,Int.natAbs (0+1+1),Int.natAbs 8,17*Int.natAbs (2 - (0+1+1)),
   ob (AA W 1 LR.sc LR.e1 ⟨[("listing",.str (S (AI m))),("total",.int t),("part",.int (0+1+1)),("three",.str (S [ch m 7,ch m 8,ch m 9])),("unit",.int 1)],objs⟩ (.int (if S [ch m 7]=="r" then 4*1 else 0)) ⟨[("listing",.str (S (AI m))),("total",.int t),("part",.int (0+1+1)),("three",.str (S [ch m 7,ch m 8,ch m 9])),("unit",.int 1)],objs⟩),
   ob (AA W 1 LR.sc LR.e2 ⟨[("listing",.str (S (AI m))),("total",.int t),("part",.int (0+1+1)),("three",.str (S [ch m 7,ch m 8,ch m 9])),("unit",.int 1)],objs⟩ (.int (if S [ch m 8]=="w" then 2*1 else 0)) ⟨[("listing",.str (S (AI m))),("total",.int t),("part",.int (0+1+1)),("three",.str (S [ch m 7,ch m 8,ch m 9])),("unit",.int 1)],objs⟩),
   ob (AA W 1 LR.sc LR.e3 ⟨[("listing",.str (S (AI m))),("total",.int (rtA 1 t (ch m 7) (ch m 8))),("part",.int (0+1+1)),("three",.str (S [ch m 7,ch m 8,ch m 9])),("unit",.int 1)],objs⟩ (.int (if inF (S [ch m 9]) "xst" then 1 else 0)) ⟨[("listing",.str (S (AI m))),("total",.int (rtA 1 t (ch m 7) (ch m 8))),("part",.int (0+1+1)),("three",.str (S [ch m 7,ch m 8,ch m 9])),("unit",.int 1)],objs⟩),
   ob (AA W 1 LR.sc LR.e4 ⟨[("listing",.str (S (AI m))),("total",.int (rtA 1 t (ch m 7) (ch m 8))),("part",.int (0+1+1)),("three",.str (S [ch m 7,ch m 8,ch m 9])),("unit",.int 1)],objs⟩ (.int (if inF (S [ch m 9]) "SsTt" then 512*1 else 0)) ⟨[("listing",.str (S (AI m))),("total",.int (rtA 1 t (ch m 7) (ch m 8))),("part",.int (0+1+1)),("three",.str (S [ch m 7,ch m 8,ch m 9])),("unit",.int 1)],objs⟩)]) (by kernel_rfl!) ?_).forget (.cons rfl (.cons rfl .nil)) rfl
 refine obs (szl (by decide)) (obs (szl (by decide)) (obs (szl (by decide)) (obs (szl (by decide)) (obs (szl (by decide)) (obs (szl (by decide)) (obs (AC ?_) (obs (AC ?_) (obs (AC ?_) (obs (AC ?_) AS)))))))))
 ·exact .ifAt (by kernel_rfl!) (CN F {} (n:=15) (by kernel_rfl!)) (Bk F {} (n:=15) (o:=[Int.natAbs 4,Int.natAbs 1]) (by kernel_rfl!) (obs (szl (by decide)) (obs (szl (by decide)) AS))) (AQ F {} (n:=15) (by kernel_rfl!))
 ·exact .ifAt (by kernel_rfl!) (CN F {} (n:=15) (by kernel_rfl!)) (Bk F {} (n:=15) (o:=[Int.natAbs 2,Int.natAbs 1]) (by kernel_rfl!) (obs (szl (by decide)) (obs (szl (by decide)) AS))) (AQ F {} (n:=15) (by kernel_rfl!))
 ·exact .ifAt (by kernel_rfl!) (CN F {} (n:=15) (by kernel_rfl!)) (AQ F {} (n:=15) (by kernel_rfl!)) (AQ F {} (n:=15) (by kernel_rfl!))
 ·exact .ifAt (by kernel_rfl!) (CN F {} (n:=15) (by kernel_rfl!)) (Bk F {} (n:=15) (o:=[Int.natAbs 2,17*Int.natAbs (2 - (0+1+1)),Int.natAbs 512,Int.natAbs 1]) (by kernel_rfl!) (obs (szl (by decide)) (obs (szl (by decide)) (obs (szl (by decide)) (obs (szl (by decide)) AS))))) (AQ F {} (n:=15) (by kernel_rfl!))
theorem J1 (F:KF W.K) {m:Int} {objs:List AO}:AR W 3 (.ref 894) [.str (S (AI m))] objs (.int (Bg m)) objs:=by
 refine AG (K0 F (m:=m) (t:=0) (objs:=objs)) fun s1 a1 x1=>?_
 refine AG (KZ F (m:=m) (t:=rtT 64 4 0 (ch m 1) (ch m 2) (ch m 3)) (objs:=objs)) fun s2 a2 x2=>?_
 refine AG (KY F (m:=m) (t:=rtT 8 2 (rtT 64 4 0 (ch m 1) (ch m 2) (ch m 3)) (ch m 4) (ch m 5) (ch m 6)) (objs:=objs)) fun s3 a3 x3=>?_
 have hfor:AH W 1 LR.sc LR.fs ⟨[("listing",.str (S (AI m))),("total",.int 0)],objs⟩ .next ⟨[("listing",.str (S (AI m))),("total",.int (Bg m))],objs⟩ :=
  GX F (n:=3) (by kernel_rfl!) (e:=BE 0 (exprS LR.fs)) (by kernel_rfl!) (by kernel_rfl!) (AQ F {} (n:=10) (by kernel_rfl!)) (by decide) (.go a1 x1 (.inl rfl) (.go a2 x2 (.inl rfl) (.go a3 x3 (.inl rfl) (.stop .nil))))
 exact (Bv (k:=0) (x:="listing") (v:=.str (S (AI m))) (objs:=objs) (n:=20) (fl:=.ret (.int (Bg m))) (st':=⟨[("listing",.str (S (AI m))),("total",.int (Bg m))],objs⟩)
  (o:=[ob (AH W 1 LR.sc LR.fs ⟨[("listing",.str (S (AI m))),("total",.int 0)],objs⟩ .next ⟨[("listing",.str (S (AI m))),("total",.int (Bg m))],objs⟩)]) F F.f894
  {st:=fun s ζ=>if (B3 s).line==870 then some (.next,⟨[("listing",.str (S (AI m))),("total",.int (Bg m))],objs⟩) else none}
  (by kernel_rfl!) (by intro pm c v;kernel_rfl!) (by kernel_rfl!) (obs (AC hfor) AS)).ok.up
end
noncomputable def AO.lt (n:Nat):AO→Bool
 | .list xs=>AV.ltL n xs
 | .inst _ d=>decide (d<n)
 | .dict es=>es.all fun e=>AV.lt n e.2
 | _=>true
noncomputable def AF.lt (n:Nat):AF→Bool
 | .ret v=>AV.lt n v
 | _=>true
section
variable {W:Wd} {k:Nat} {sc:Scope} {Z:AK} {as:List Addr}
theorem BX.cutB {more:List Addr} {es:List (Str×AV)} {ds:List DictEntry} (h:BX Z (as++more) es ds) (hl:(es.all fun e=>AV.lt as.length e.2)=true):BX Z as es ds:=by
 induction h with
 | nil=>exact .nil
 | cons a _ ih =>
  rw [List.all_cons,Bool.and_eq_true] at hl
  exact .cons (a.cut hl.1) (ih hl.2)
theorem IsO.cutB {more:List Addr} {x:AO} {o:Obj} (h:IsO Z (as++more) x o) (hl:AO.lt as.length x=true):IsO Z as x o:=by
 induction h using IsO.casesOn with
 | list q l=>exact .list (q.cut hl) l
 | inst q =>
  have:=of_decide_eq_true hl
  rw [List.getElem?_append_left this] at q
  exact .inst q
 | dict q=>exact .dict (q.cutB hl)
 | raw q=>exact .raw q
 | fn z q=>exact .fn z q
theorem Sta.drop {L:Addr} {more:List Addr} {loc:List (Str×AV)} {objs tail:List AO} {s:Shared} (S:Sta W Z L (as++more) ⟨loc,objs++tail⟩ s) (hn:as.length=objs.length) (hl:(loc.all fun e=>AV.lt objs.length e.2)=true) (ho:(objs.all (AO.lt objs.length))=true):Sta W Z L as ⟨loc,objs⟩ s:=by
 refine AG (S.fr.ns) fun m hns hm=>?_
 refine ⟨S.zn,⟨hn,fun i a x e1 e2=>?_,(List.nodup_append.mp S.ow.nodup).1,fun a ha=>S.ow.out a (List.mem_append_left _ ha)⟩,⟨⟨m,hns,fun x a e=>?_⟩,fun z=>S.fr.notIn (List.mem_append_left _ z),S.fr.out⟩⟩
 ·obtain ⟨o,h1,h2⟩:=S.ow.obj i a x (by rw [List.getElem?_append_left (List.getElem?_eq_some_iff.mp e1).1];exact e1) (by
   refine (?_:(objs++tail)[i]?=_)
   rw [List.getElem?_append_left (List.getElem?_eq_some_iff.mp e2).1];exact e2)
  exact ⟨o,h1,h2.cutB (by rw [hn];exact List.all_eq_true.mp ho x (List.mem_of_getElem? e2))⟩
 ·refine AG (hm x a e) fun v h1 h2=>?_
  refine ⟨v,h1,h2.cut ?_⟩
  rw [hn]
  have:(x,a)∈loc:=by
   clear hl hm hns S
   induction loc with
   | nil=>simp at e
   | cons p l ih =>
    obtain ⟨y,b⟩:=p
    by_cases q:x=y
    ·subst q
     have e':(List.lookup x ((x,b)::l))=some a:=e
     rw [List.lookup_cons_self] at e'
     cases e'
     exact .head _
    ·have e':(List.lookup x ((y,b)::l))=some a:=e
     rw [List.lookup_cons,beq_false_of_ne q] at e'
     exact .tail _ (ih e')
  exact List.all_eq_true.mp hl _ this
theorem Evo.drop {own more:List Addr} {Z':AK} {s s':Shared} (e:Evo own Z Z' as (as++more) s s'):Evo own Z Z' as as s s':=⟨e.zsub,e.znew,⟨[],by simp,fun ζ h=>(nomatch h)⟩,e.keep,e.size,e.gens,e.drawn,e.os⟩
theorem AA.drop {e:Expr} {v:AV} {st:ST} {loc:List (Str×AV)} {objs tail:List AO} (h:AA W k sc e st v ⟨loc,objs++tail⟩) (hn:objs.length=st.objs.length) (hv:AV.lt objs.length v=true) (hl:(loc.all fun e=>AV.lt objs.length e.2)=true) (ho:(objs.all (AO.lt objs.length))=true) :
  AA W k sc e st v ⟨loc,objs⟩:=fun Z L as s A Q E env hE hR hS q=>by
 have ha:as.length=objs.length:=by rw [hn];exact hS.ow.len
 refine h Z L as s A Q E env hE hR hS fun Z' as' u s' S' e' hu=>?_
 refine AG e'.pre fun more r1_ hm=>?_;subst r1_
 exact q Z' as u s' (S'.drop ha hl ho) e'.drop (hu.cut (by rw [ha];exact hv))
theorem A8.drop {b:List Stmt} {f:AF} {st:ST} {loc:List (Str×AV)} {objs tail:List AO} (h:A8 W k sc b st f ⟨loc,objs++tail⟩) (hn:objs.length=st.objs.length) (hv:AF.lt objs.length f=true) (hl:(loc.all fun e=>AV.lt objs.length e.2)=true) (ho:(objs.all (AO.lt objs.length))=true) :
  A8 W k sc b st f ⟨loc,objs⟩:=fun Z L as s A Q E env hE hR hS q=>by
 have ha:as.length=objs.length:=by rw [hn];exact hS.ow.len
 refine h Z L as s A Q E env hE hR hS fun Z' as' u s' S' e' hu=>?_
 refine AG e'.pre fun more r1_ hm=>?_;subst r1_
 refine q Z' as u s' (S'.drop ha hl ho) e'.drop ?_
 induction hu using IsF.casesOn with
 | next=>exact .next
 | brk=>exact .brk
 | cont=>exact .cont
 | ret hu=>exact .ret (hu.cut (by rw [ha];exact hv))
end
theorem BR (p:Nat→Bool):∀ l:List Nat,(∀ c∈l,p c=false)∨∃ xs c r,l=xs++c::r∧p c=true∧∀ x∈xs,p x=false
 | []=>.inl fun c h=>nomatch h
 | a::l=>by
  cases h:p a with
  | true=>exact .inr ⟨[],a,l,rfl,h,fun x hx=>nomatch hx⟩
  | false =>
   rcases BR p l with q | ⟨xs,c,r,e,hc,hx⟩
   ·left
    intro c hc
    rcases List.mem_cons.mp hc with rfl | hc
    ·exact h
    ·exact q c hc
   ·right
    refine ⟨a::xs,c,r,by rw [e];rfl,hc,fun x hm=>?_⟩
    rcases List.mem_cons.mp hm with rfl | hm
    ·exact h
    ·exact hx x hm
noncomputable def gS (pre:Str) (w:List Nat):List Int→Str
 | [_,_,.ofNat b,.ofNat e]=>pre++Ar (S w) b e
 | _=>""
noncomputable def GS (w:List Nat) (sp:List Int):Prop:=∃ a h b e:Nat,sp=[Int.ofNat a,Int.ofNat h,.ofNat b,.ofNat e]∧((Ar (S w) b e).length != 0)=true∧e - b≤1
theorem IS {w:List Nat} {b e:Nat}:(Ar (S w) b e).length≤e - b:=by
 rw [Bx,AU,List.length_take];exact Nat.min_le_left _ _
theorem H3 {w r:List Nat} {c p:Nat} (h:w.drop p=c::r):Ar (S w) p (p+1)=S [c]:=by
 rw [Bx,h]
 have:p+1 - p=1:=by exact Nat.add_sub_cancel_left ..
 rw [this];rfl
theorem Fo {w xs ys:List Nat} {p:Nat} (h:w.drop p=xs++ys):w.drop (p+xs.length)=ys:=by
 rw [← List.drop_drop,h,List.drop_left]
theorem Dl {w xs:List Nat} {p:Nat} (h:w.drop p=xs) (hp:p≤w.length):w.length=p+xs.length:=by
 have:=congrArg List.length h
 rw [List.length_drop] at this
 exact this▸(Nat.add_sub_of_le hp).symm
theorem DE {l:List Nat} (h:∀ c∈l,Rx.isEsc c=false):l.flatMap A3=l:=by
 induction l with
 | nil=>rfl
 | cons a l ih =>
  rw [List.flatMap_cons,ih fun c hc=>h c (.tail _ hc)]
  unfold A3
  rw [h a (.head _)];rfl
theorem HP {d st:Nat} {w xs ys:List Nat} (h:w.drop d=xs++ys) (e:st=d+xs.length):(if d<st then [Ar (S w) d st] else [])=(if d<st then [xs] else []).map S:=by
 split
 ·rw [Bx,h,e]
  have:d+xs.length - d=xs.length:=by exact Nat.add_sub_cancel_left ..
  rw [this,List.take_left]
  rfl
 ·rfl
theorem Da {d st:Nat} {xs:List Nat} (e:st=d+xs.length):(if d<st then [xs] else ([]:List (List Nat))).flatten=xs:=by
 induction xs using List.casesOn with
 | nil=>rw [if_neg (by simp at e;exact e▸Nat.lt_irrefl _)];rfl
 | cons a l=>rw [if_pos (by simp at e;exact lin (Nat.le_of_eq (Eq.symm (by assumption))) (by simp +arith only))];simp
theorem jsub {w:List Nat} (hw:Sg w) (hl:w.length≤100000):∀ (n:Nat) (rest:List Nat) (d:Nat),rest.length≤n→w.drop d=rest→d≤w.length→∀ cnt,∃ (ls:List (List Nat)) (n':Nat),Az Rx.c93 1 (S w) (gS "\\" w) (GS w) d cnt (ls.map S) n'∧ls.flatten=rest.flatMap A3∧ls.length≤2*rest.length+1:=by
 intro n
 induction n with
 | zero =>
  intro rest d hn hd hp cnt
  have:rest=[]:=List.eq_nil_of_length_eq_zero (by exact Nat.eq_zero_of_le_zero hn)
  subst this
  have hlen:=Dl hd hp
  refine ⟨[],cnt,?_,rfl,by simp⟩
  have:=Az.stop (code:=Rx.c93) (groups:=1) (x:=S w) (g:=gS "\\" w) (G:=GS w) (n:=cnt) (Rx.jesc_no (text:=w.toArray) (p:=d) (xs:=[]) hd hw (by simpa using hp) (fun x hx=>nomatch hx)) (by decide)
  rw [if_neg (by refine (?_:¬ d<w.toArray.size);simp at hlen ⊢;exact lin (Nat.le_of_eq (by assumption)) (by simp +arith only))] at this
  exact this
 | succ n ih =>
  intro rest d hn hd hp cnt
  have hlen:=Dl hd hp
  rcases BR Rx.isEsc rest with q | ⟨xs,c,r,e,hc,hx⟩
  ·have:=Az.stop (code:=Rx.c93) (groups:=1) (x:=S w) (g:=gS "\\" w) (G:=GS w) (n:=cnt) (Rx.jesc_no (text:=w.toArray) (p:=d) (xs:=rest) hd hw (by simpa using hp) q) (by decide)
   have hs:(S w).cps.size=d+rest.length:=by refine (?_:w.toArray.size=_);simp;exact hlen
   rw [HP (ys:=[]) (by rw [List.append_nil];exact hd) hs] at this
   refine ⟨_,_,this,?_,?_⟩
   ·rw [Da hs,DE q]
   ·split <;> simp
  ·subst e
   have hd1:=Fo hd
   have hr:w.drop (d+xs.length+1)=r:=by rw [← List.drop_drop,hd1];rfl
   have hlen':w.length=d+xs.length+(1+r.length):=by rw [hlen];simp;simp +arith only
   refine Be (ih r (d+xs.length+1) (by simp at hn;exact lin (by assumption) (by simp +arith only)) hr (by exact lin (Nat.le_of_eq (Eq.symm (by assumption))) (by simp +arith only)) (cnt+1)) fun ls n' h1 h2 h3=>?_
   have hone:=H3 hd1
   have:=Az.go (code:=Rx.c93) (groups:=1) (x:=S w) (g:=gS "\\" w) (G:=GS w) (n:=cnt) (Rx.jesc_yes (text:=w.toArray) (p:=d) (c:=c) (xs:=xs) (rest:=r) hd hw (by simpa using hp) hc hx) (by decide) (.inr ⟨rfl,rfl,_,_,rfl,by simp +arith only⟩)
    ⟨_,_,_,_,rfl,by rw [hone];rfl,Nat.le_of_eq (Nat.add_sub_cancel_left ..)⟩ (by simp +arith only) h1
   rw [HP hd rfl] at this
   have eg:gS "\\" w (B7 (d+xs.length) (d+xs.length+1) #[some (d+xs.length),some (d+xs.length+1)])=S [92,c]:=by
    refine (?_:("\\":Str)++Ar (S w) (d+xs.length) (d+xs.length+1)=_)
    have:("\\":Str)=S [92]:=by kernel_rfl!
    rw [hone,this,Ai];rfl
   rw [eg] at this
   refine ⟨(if d<d+xs.length then [xs] else [])++([92,c]::ls),n',by rw [List.map_append,List.map_cons];exact this,?_,?_⟩
   ·rw [List.flatten_append,Da rfl,List.flatten_cons,h2,List.flatMap_append,List.flatMap_cons,DE hx]
    have:A3 c=[92,c]:=by unfold A3;rw [hc];rfl
    rw [this]
   ·simp only [List.length_append,List.length_cons]
    split <;> simp <;> (first | exact (lin h3 (by simp +arith only)) | exact lin (by assumption) (by simp +arith only) | omega)
theorem no92 {l:List Nat} (h:∀ c∈l,Rx.isEsc c=false):∀ c∈l,(c==92)=false:=fun c hc=>by
 have:=h c hc
 unfold Rx.isEsc at this
 exact (Bool.or_eq_false_iff.mp this).2
theorem usub {v:List Nat} (hv:Sg v) (hl:v.length≤100000):∀ (n:Nat) (rest:List Nat) (d:Nat),rest.length≤n→v.drop d=rest.flatMap A3→d≤v.length→∀ cnt,∃ (ls:List (List Nat)) (n':Nat),Az Rx.c76 1 (S v) (gS "" v) (GS v) d cnt (ls.map S) n'∧ls.flatten=rest∧ls.length≤2*rest.length+1:=by
 intro n
 induction n with
 | zero =>
  intro rest d hn hd hp cnt
  have:rest=[]:=List.eq_nil_of_length_eq_zero (by exact Nat.eq_zero_of_le_zero hn)
  subst this
  have hlen:=Dl hd hp
  refine ⟨[],cnt,?_,rfl,by simp⟩
  have:=Az.stop (code:=Rx.c76) (groups:=1) (x:=S v) (g:=gS "" v) (G:=GS v) (n:=cnt) (Rx.esc_no (text:=v.toArray) (p:=d) (xs:=[]) hd hv (by simpa using hp) (fun x hx=>nomatch hx)) (by simp;exact lb (Nat.mul_le_mul_left _ hl) rfl)
  rw [if_neg (by refine (?_:¬ d<v.toArray.size);simp at hlen ⊢;exact lin (Nat.le_of_eq (by assumption)) (by simp +arith only))] at this
  exact this
 | succ n ih =>
  intro rest d hn hd hp cnt
  have hlen:=Dl hd hp
  rcases BR Rx.isEsc rest with q | ⟨xs,c,r,e,hc,hx⟩
  ·rw [DE q] at hd hlen
   have:=Az.stop (code:=Rx.c76) (groups:=1) (x:=S v) (g:=gS "" v) (G:=GS v) (n:=cnt) (Rx.esc_no (text:=v.toArray) (p:=d) (xs:=rest) hd hv (by simpa using hp) (no92 q)) (by simp;exact lb (Nat.mul_le_mul_left _ hl) rfl)
   have hs:(S v).cps.size=d+rest.length:=by refine (?_:v.toArray.size=_);simp;exact hlen
   rw [HP (ys:=[]) (by rw [List.append_nil];exact hd) hs] at this
   refine ⟨_,_,this,?_,?_⟩
   ·rw [Da hs]
   ·split <;> simp
  ·subst e
   have ec:A3 c=[92,c]:=by unfold A3;rw [hc];rfl
   rw [List.flatMap_append,List.flatMap_cons,DE hx,ec] at hd hlen
   have hd1:=Fo hd
   have hr:v.drop (d+xs.length+2)=r.flatMap A3:=by rw [← List.drop_drop,hd1];rfl
   have hlen':v.length=d+xs.length+(2+(r.flatMap A3).length):=by rw [hlen];simp;simp +arith only
   refine Be (ih r (d+xs.length+2) (by simp at hn;exact lin (by assumption) (by simp +arith only)) hr (by exact lin (Nat.le_of_eq (Eq.symm (by assumption))) (by simp +arith only)) (cnt+1)) fun ls n' h1 h2 h3=>?_
   have hone:Ar (S v) (d+xs.length+1) (d+xs.length+2)=S [c]:=H3 (r:=r.flatMap A3) (by rw [← List.drop_drop,hd1];rfl)
   have:=Az.go (code:=Rx.c76) (groups:=1) (x:=S v) (g:=gS "" v) (G:=GS v) (n:=cnt) (Rx.esc_yes (text:=v.toArray) (p:=d) (c:=c) (xs:=xs) (rest:=r.flatMap A3) hd hv (by simpa using hp) (no92 hx)) (by simp;exact lb (Nat.mul_le_mul_left _ hl) rfl) (.inr ⟨rfl,rfl,_,_,rfl,by simp +arith only⟩)
    ⟨_,_,_,_,rfl,by rw [hone];rfl,Nat.le_of_eq (Nat.add_sub_cancel_left (n:=_+1) (m:=1))⟩ (by simp +arith only) h1
   rw [HP hd rfl] at this
   have eg:gS "" v (B7 (d+xs.length) (d+xs.length+2) #[some (d+xs.length+1),some (d+xs.length+2)])=S [c]:=by
    refine (?_:("":Str)++Ar (S v) (d+xs.length+1) (d+xs.length+2)=_)
    have:("":Str)=S []:=by kernel_rfl!
    rw [hone,this,Ai];rfl
   rw [eg] at this
   refine ⟨(if d<d+xs.length then [xs] else [])++([c]::ls),n',by rw [List.map_append,List.map_cons];exact this,?_,?_⟩
   ·rw [List.flatten_append,Da rfl,List.flatten_cons,h2];rfl
   ·simp only [List.length_append,List.length_cons]
    split <;> simp <;> (first | exact (lin h3 (by simp +arith only)) | exact lin (by assumption) (by simp +arith only) | omega)
structure NF (W:Wd):Prop where
 n82:DY W 82 78
 n99:DY W 99 95
 n798:DY W 798 794
 t78:W.tp 78=((30:Int),(49:Int),("split_header_words.<locals>.<lambda>":Str))
 t95:W.tp 95=((61:Int),(50:Int),("join_header_words.<locals>.<lambda>":Str))
noncomputable def HJ:Expr→Arguments
 | .Lambda p ..=>p
 | _=>default
noncomputable def FY:Expr→Expr
 | .Lambda _ b ..=>b
 | _=>default
noncomputable def DH:Expr→Scope
 | .Lambda _ _ s _=>s
 | _=>default
noncomputable def isLam:Expr→Bool
 | .Lambda ..=>true
 | _=>false
theorem lam_eta {e:Expr} (h:isLam e=true):e=.Lambda (HJ e) (FY e) (DH e) e.pos:=by
 induction e using Expr.casesOn <;> first | exact ff h | rfl
noncomputable def subOf (e:Expr):Option (Expr×Expr×Expr):=meth2 "sub" e
section
variable {W:Wd} {k:Nat} {sc:Scope}
theorem AA.subAt (F:KF W.K) {e s a b:Expr} {loc:List (Str×AV)} {objs:List AO} {pa P c:Addr} {code:Array Nat} {pre q:Str} {w r:List Nat} (h:subOf e=some (s,a,b)) (hs:AA W 4 sc s ⟨loc,objs⟩ (.top (.ref pa)) ⟨loc,objs⟩) (hp:ptT.contains pa=true) (PA:Ca W pa code 1)
  (nk:DY W c P) (hcd:DW sc=some (c,q)) (htp:W.tp P=((a.pos.line:Int),(a.pos.col:Int),q++("<lambda>":Str))) (hla:isLam a=true) (hdef:∀ env,defaultsOf (HJ a) env=([],[])) (hsc:((DH a).names.all fun x=>decide (x.2≠.free)&&decide (x.2≠.cell))=true)
  (hbind:∀ (pm cdv ctv mv:Value),bindArgs (kla_fn "<lambda>" (q++("<lambda>":Str)) (HJ a) (FY a) (DH a) [] pm cdv ctv) ⟨[mv],[]⟩=pure [(("_m":Str),mv)]) (hlk:(DH a).names.lookup ("_m":Str)=some .local) (hk:(DH a).kind=.function) (hco:(DH a).isCoroutine=false) (hge:(DH a).isGenerator=false) (hcd':DW (DH a)=none)
  (hev:∀ sp objs,GS w sp→AA W 1 (DH a) (FY a) ⟨[("_m",.mtch (S w) pa sp)],objs⟩ (.str (gS pre w sp)) ⟨[("_m",.mtch (S w) pa sp)],objs⟩)
  (hb:∀ objs',AA W 4 sc b ⟨loc,objs'⟩ (.str (S w)) ⟨loc,objs'⟩) (hl:w.length≤100000) (hr:∃ (ls:List (List Nat)) (n':Nat),Az code 1 (S w) (gS pre w) (GS w) 0 0 (ls.map S) n'∧ls.flatten=r∧ls.length≤1000000) (hrl:r.length≤100000)
  (h1:(loc.all fun e=>AV.lt objs.length e.2)=true) (h2:(objs.all (AO.lt objs.length))=true):AA W 4 sc e ⟨loc,objs⟩ (.str (S r)) ⟨loc,objs⟩:=by
 refine Be hr fun ls n' hsub hfl hln=>?_
 have hj:Txt.join "" (ls.map S)=S r:=by
  have:("":Str)=S []:=by kernel_rfl!
  rw [this,Cq,DB,hfl]
 refine GH (meth2_e h) fun ap p r2_ c2 c3 c5=>?_;subst r2_
 have hm:ET (tb W 3 {}) objs "sub" (.top (.ref pa))=some (.builtin "re.Pattern.sub"):=by
  refine (?_:grd (ptT.contains pa) (bL patMs "sub")=_)
  rw [hp]
  kernel_rfl!
 have hsc':=List.all_eq_true.mp hsc
 have hlam:AA W 4 sc a ⟨loc,objs⟩ (.own objs.length) ⟨loc,objs++[.fn (HJ a) (FY a) (DH a) (q++("<lambda>":Str))]⟩:=by
  have:=AA.lambda (W:=W) (k:=4) (sc:=sc) (st:=⟨loc,objs⟩) (params:=HJ a) (body:=FY a) (scope:=DH a) (pos:=a.pos) nk hcd htp hdef (fun x hx=>by
   have:=hsc' x hx
   rw [Bool.and_eq_true,decide_eq_true_eq] at this
   exact this.1)
  rw [← lam_eta hla] at this
  exact this
 have hi:(objs++[AO.fn (HJ a) (FY a) (DH a) (q++("<lambda>":Str))])[objs.length]?=some (.fn (HJ a) (FY a) (DH a) (q++("<lambda>":Str))):=by simp
 have hcall:∀ (as:List Addr) (fa:Addr),as[objs.length]?=some fa→EP W 2 (S w) pa (gS pre w) (GS w) (.ref fa) as (objs++[AO.fn (HJ a) (FY a) (DH a) (q++("<lambda>":Str))]):=fun as fa hfa =>
  Ka (x:=S w) (kok F) hi hfa hbind hlk (fun y hy=>by
   have:=hsc' y hy
   rw [Bool.and_eq_true,decide_eq_true_eq,decide_eq_true_eq] at this
   exact this.2) hk hco hge hcd' fun sp hG=>hev sp _ hG
 have hfn:=fn_sub (W:=W) (k:=2) PA (by rw [AU];exact hl) hi hcall hsub (by rw [CT,hfl];exact hrl) (by rw [List.length_map];exact hln)
 have:=AA.callMeth (W:=W) (k:=3) c2 c3 (Nat.le_of_ble_eq_true rfl) c5 hs (Cx (BP F).res (BP F).pat hm) trivial (.cons (bt c3).1 hlam (.cons (bt (bt c3).2).1 (hb _) .nil)) hfn
 rw [hj] at this
 exact AA.drop this rfl rfl h1 h2
end
namespace JH
noncomputable abbrev d:=top 13
noncomputable abbrev sc:=AM d
noncomputable abbrev fo:=nth (AB d) 1
noncomputable abbrev fi:=nth (AB fo) 1
noncomputable abbrev iff:=nth (AB (nth (AB fi) 0)) 0
noncomputable abbrev sb:=exprS (nth (AB iff) 0)
noncomputable abbrev lam:=BE 0 sb
end JH
section
variable {W:Wd} {k:Nat}
theorem jh_lam (F:KF W.K) {w:List Nat} {sp:List Int} {objs:List AO} (hl:w.length≤100000) (h:GS w sp):AA W 1 (DH JH.lam) (FY JH.lam) ⟨[("_m",.mtch (S w) 93 sp)],objs⟩ (.str (gS "\\" w sp)) ⟨[("_m",.mtch (S w) 93 sp)],objs⟩:=by
 refine I4 h fun a hh b e r4_ hne hone=>?_;subst r4_
 refine Bk F {hint:=fun ζ ζ=>some true} (n:=20) (o:=[e - b,ob (((Ar (S w) b e).length != 0)=true),("\\":Str).length+(Ar (S w) b e).length]) (by kernel_rfl!) ?_
 refine obs ?_ (obs (AC hne) (obs (szl ?_) AS))
 ·exact szl (by exact lb (by assumption) rfl)
 ·exact lb (Nat.add_le_add (Nat.le_of_eq (by kernel_rfl!:("\\":Str).length=1)) (Nat.le_trans (IS (w:=w) (b:=b) (e:=e)) hone)) rfl
end
section
variable {W:Wd} {k:Nat} {sc:Scope} {st st₁ st₂ st₃:ST}
theorem AA.fv {value:Expr} {pos:Pos} {x:Str} (h:AA W k sc value st (.str x) st₁):AA W k sc (.FormattedValue value 115 none pos) st (.str x) st₁:=by
 intro Z L as s A Q E env hE hR hS q
 refine (?_:wpAny W.M A (do let v ← eval value env;standAt pos;formatted pos (← holding [v] (converted 115 v)) none) Q E s)
 refine wpAny_bind (h _ _ _ _ _ _ _ _ hE hR hS fun Z₁ as₁ u s₁ S₁ e₁ hu=>?_)
 refine wpAny_bind (wpAny_standAt ?_)
 cases hu using Is.e_str with
 | _ t hl =>
  refine (?_:wpAny _ _ (do let v' ← holding [.str x t] (habitSame "fstring-hands-on-the-str" (.str x t));formatField v' Str.empty) Q E s₁)
  exact wpAny_bind (wpAny_holding (habitSame_str (fun t' tk=>formatField_str (fun t'' tk'=>q _ _ _ _ (S₁.toks tk') (e₁.trans .refl) (.str _ hl)) hl) hl))
theorem J6 (x:Str):Str.empty++x=x:=by
 have:=Ai (a:=[]) (b:=x.cps.toList)
 exact this
theorem AA.joined3 {a b c:Expr} {pos:Pos} {x y z:Str} (h1:AA W k sc a st (.str x) st₁) (h2:AA W k sc b st₁ (.str y) st₂) (h3:AA W k sc c st₂ (.str z) st₃) (hl:x.length+y.length+z.length≤sizeLine):AA W k sc (.JoinedStr [a,b,c] pos) st (.str (x++y++z)) st₃:=by
 intro Z L as s A Q E env hE hR hS q
 refine JoinedStr_many (joinParts_cons (h1 _ _ _ _ _ _ _ _ hE hR hS fun Z₁ as₁ u s₁ S₁ e₁ hu=>?_))
 cases hu using Is.e_str
 dsimp only
 rw [J6]
 refine ⟨by assumption,joinParts_cons (h2 _ _ _ _ _ _ _ _ hE hR S₁ fun Z₂ as₂ u s₂ S₂ e₂ hu=>?_)⟩
 cases hu using Is.e_str
 refine ⟨by rw [strLen_append];exact Nat.le_of_add_right_le hl,?_⟩
 refine (?_:wpAny _ _ (joinParts (x++y) [eval c env]) _ _ _)
 refine joinParts_cons (h3 _ _ _ _ _ _ _ _ hE hR S₂ fun Z₃ as₃ u s₃ S₃ e₃ hu=>?_)
 cases hu using Is.e_str
 have hz:(x++y++z).length≤sizeLine:=by rw [strLen_append,strLen_append];exact hl
 exact ⟨hz,joinParts_nil (q _ _ _ _ (S₃.toks _) (((e₁.trans e₂).trans e₃).trans .refl) (.str _ hz)) hz⟩
noncomputable def fvI:Expr→Option Expr
 | .FormattedValue a c f _=>grd (c==115&&f.isNone) (some a)
 | _=>none
noncomputable def eqOf:Expr→Option (Expr×Expr×Expr)
 | .JoinedStr l _=>(match l with
  | []=>none
  | x::r=>(two r).bind fun p=>(fvI x).bind fun a=>(fvI p.2).bind fun b=>some (a,p.1,b))
 | _=>none
theorem fvI_e {e a:Expr} (h:fvI e=some a):∃ p,e=.FormattedValue a 115 none p:=by
 induction e using Expr.casesOn <;> first | exact no h | skip
 exact A1 h fun g h=>by rw [eq_of_beq (bt g).1,Option.isNone_iff_eq_none.mp (bt g).2];cases h;exact ⟨_,rfl⟩
set_option tactic.hygienic true in
theorem eqOf_eq {e a b c:Expr} (h:eqOf e=some (a,c,b)):∃ pa pb pos,e=.JoinedStr [.FormattedValue a 115 none pa,c,.FormattedValue b 115 none pb] pos:=by
 induction e using Expr.casesOn <;> first | exact no h | skip
 rename_i l pos
 induction l using List.casesOn with
 | nil=>exact no h
 | cons x r =>
  refine AE h fun q hq h=>AE h fun ζ ha h=>AE h fun ζ hb h=>?_
  obtain ⟨pa,ea⟩:=fvI_e ha
  obtain ⟨pb,eb⟩:=fvI_e hb
  rw [ER hq,ea,eb]
  cases h
  exact ⟨_,_,_,rfl⟩
theorem AA.eqAt {e a b c:Expr} {x y z:Str} (h:eqOf e=some (a,c,b)) (h1:AA W k sc a st (.str x) st₁) (h2:AA W k sc c st₁ (.str y) st₂) (h3:AA W k sc b st₂ (.str z) st₃) (hl:x.length+y.length+z.length≤sizeLine):AA W k sc e st (.str (x++y++z)) st₃:=by
 refine oEEE (eqOf_eq h) fun pa pb pos r3_=>?_;subst r3_
 exact .joined3 h1.fv h2 h3.fv hl
theorem AA.joinOwnAt (F:KF W.K) {e s a:Expr} {sep:Str} {ys:List Str} {i:Nat} (h:Ke e=some (s,a)) (h1:AA W (k+1) sc s st (.str sep) st₁) (h2:AA W (k+1) sc a st₁ (.own i) st₂) (hi:st₂.objs[i]?=some (.list (ys.map .str))) (hok:(ys.map (·.length)).sum+ys.length*sep.length≤16777216):AA W (k+1) sc e st (.str (Txt.join sep ys)) st₂:=by
 refine GH (E7 h) fun ap p r2_ c2 c3 c4=>?_;subst r2_
 have hm:ET (tb W k {}) st₁.objs "join" (.str sep)=some (.builtin "str.join"):=by kernel_rfl!
 exact .callMeth c2 c3 (Nat.le_of_ble_eq_true rfl) c4 h1 (Cx (BP F).res (BP F).pat hm) trivial (.cons (bt c3).1 h2 .nil) (EX hi hok)
end
noncomputable def fmC (r:AV):Value→List AV→List AO→Option (AV×List AO):=fun f ζ objs=>if f==.builtin "re.Pattern.fullmatch" then some (r,objs) else none
noncomputable def A0 (w:List Nat):Bool:=!w.isEmpty&&w.all Rx.isJoin
noncomputable abbrev JH.eq:=exprS (nth (AB (nth (AB JH.fi) 0)) 1)
section
variable {W:Wd} {k:Nat}
theorem jh_full (F:KF W.K) {w:List Nat} (hw:Sg w) (hl:w.length≤1000) {objs:List AO}:AR W k (.builtin "re.Pattern.fullmatch") [.top (.ref 88),.str (S w)] objs (if A0 w then .mtch (S w) 88 [0,Int.ofNat w.length] else .none) objs:=by
 have sz:(S w).cps.size=w.length:=List.size_toArray
 by_cases h0:w=[]
 ·subst h0
  exact C0 (n:=1) (r:=none) (Bc F.p88) (by decide) (Rx.full_empty rfl) (by decide) trivial
 ·rcases BR (fun c=>!Rx.isJoin c) w with q | ⟨xs,c,r,e,hc,hx⟩
  ·have hb:A0 w=true:=by
    unfold A0
    rw [Bool.and_eq_true,List.all_eq_true]
    refine ⟨by induction w using List.casesOn <;> simp_all,fun c hc=>by simpa using q c hc⟩
   rw [hb,if_pos rfl]
   have:=C0 (W:=W) (k:=k) (objs:=objs) (x:=S w) (Bc F.p88) (by rw [AU];exact lb (by assumption) rfl) (Rx.full_yes (text:=w.toArray) hw (by simp;exact lb (by assumption) rfl) (by induction w using List.casesOn <;> simp_all) (fun c hc=>by simpa using q c hc)) (by decide) (.inl ⟨rfl,rfl⟩)
   have e2:FA (S w) 88 (some (0,w.toArray.size,#[],-1,-1))=.mtch (S w) 88 [0,Int.ofNat w.length]:=by
    refine (?_:AV.mtch (S w) 88 [((0:Nat):Int),(w.toArray.size:Int)]=_)
    rw [List.size_toArray];rfl
   rw [e2] at this
   exact this
  ·have hb:A0 w=false:=by
    unfold A0
    rw [Bool.and_eq_false_iff]
    right
    rw [List.all_eq_false]
    exact ⟨c,by rw [e];simp,by simpa using hc⟩
   rw [hb,if_neg (by decide)]
   exact C0 (x:=S w) (r:=none) (Bc F.p88) (by rw [AU];exact lb (by assumption) rfl) (Rx.full_no (text:=w.toArray) (xs:=xs) (c:=c) (rest:=r) e hw (by simp;exact lb (by assumption) rfl) (fun c hc=>by simpa using hx c hc) (by simpa using hc)) (by simp;exact lb (Nat.mul_le_mul_left _ hl) rfl) trivial
theorem Ic (F:KF W.K) (N:NF W) {lv pv:AV} {w:List Nat} {kc:Nat} {hs at_:List AV} (hw:Sg w) (hl:w.length≤1000) (ha:at_.length≤100) (hlv:AV.lt 2 lv=true) (hpv:AV.lt 2 pv=true) (hhs:AV.ltL 2 hs=true) (hat:AV.ltL 2 at_=true) :
  ∃ st₁,AX W 4 JH.sc (tgtS JH.fi) (.tup [.str (S [kc]),.str (S w)]) ⟨[("lists",lv),("headers",.own 0),("pairs",pv),("attr",.own 1)],[.list hs,.list at_]⟩ st₁ ∧
   A8 W 4 JH.sc (AB JH.fi) st₁ .next ⟨[("lists",lv),("headers",.own 0),("pairs",pv),("attr",.own 1)],[.list hs,.list (at_++[.str (S ([kc,61]++AD w (A0 w)))])]⟩:=by
 refine ⟨_,.atT (xs:=["k","v"]) (loc':=[("lists",lv),("headers",.own 0),("pairs",pv),("attr",.own 1),("k",.str (S [kc])),("v",.str (S w))]) (by kernel_rfl!) (by kernel_rfl!) (by kernel_rfl!) (by kernel_rfl!) rfl,?_⟩
 have hfull:=jh_full (k:=3) F hw hl (objs:=[.list hs,.list at_])
 have ee:("=":Str)=S [61]:=by kernel_rfl!
 have eqok:∀ (v:List Nat),v.length≤10000→AA W 4 JH.sc JH.eq ⟨[("lists",lv),("headers",.own 0),("pairs",pv),("attr",.own 1),("k",.str (S [kc])),("v",.str (S v))],[.list hs,.list at_]⟩ (.str (S ([kc,61]++v))) ⟨[("lists",lv),("headers",.own 0),("pairs",pv),("attr",.own 1),("k",.str (S [kc])),("v",.str (S v))],[.list hs,.list at_]⟩:=by
  intro v hv
  have:S ([kc,61]++v)=S [kc]++("=":Str)++S v:=by rw [ee,Ai,Ai];rfl
  rw [this]
  exact .eqAt (a:=(match JH.eq with | .JoinedStr [.FormattedValue a _ _ _,_,_] _=>a | _=>default)) (c:=(match JH.eq with | .JoinedStr [_,c,_] _=>c | _=>default)) (b:=(match JH.eq with | .JoinedStr [_,_,.FormattedValue b _ _ _] _=>b | _=>default)) (by kernel_rfl!)
   (AQ F {} (n:=10) (by kernel_rfl!)) (AQ F {} (n:=10) (by kernel_rfl!)) (AQ F {} (n:=10) (by kernel_rfl!)) (szl (by rw [ee,AU,AU,AU];simp;exact lin (by assumption) (by simp +arith only)))
 cases hb:A0 w with
 | true =>
  rw [hb,if_pos rfl] at hfull
  refine (AN (AW F 3 {call:=fmC (.mtch (S w) 88 [0,Int.ofNat w.length]),ex:=fun e st=>if e.pos.line==63 then some (.str (S ([kc,61]++w)),st) else none}) (n:=20)
   (st':=⟨[("lists",lv),("headers",.own 0),("pairs",pv),("attr",.own 1),("k",.str (S ([kc,61]++w))),("v",.str (S w))],[.list hs,.list (at_++[.str (S ([kc,61]++w))])]⟩)
   (o:=[ob (AP W 3 (.builtin "re.Pattern.fullmatch") [.top (.ref 88),.str (S w)] [.list hs,.list at_] (.mtch (S w) 88 [0,Int.ofNat w.length]) [.list hs,.list at_]),
    ob (AA W 4 JH.sc JH.eq ⟨[("lists",lv),("headers",.own 0),("pairs",pv),("attr",.own 1),("k",.str (S [kc])),("v",.str (S w))],[.list hs,.list at_]⟩ (.str (S ([kc,61]++w))) ⟨[("lists",lv),("headers",.own 0),("pairs",pv),("attr",.own 1),("k",.str (S [kc])),("v",.str (S w))],[.list hs,.list at_]⟩),at_.length+1])
   (by kernel_rfl!) ?_).forget (.cons rfl (.cons rfl (.cons rfl (.cons rfl .nil)))) rfl
  exact obs (AC (cob hfull (by decide))) (obs (AC (eqok w (by exact lb (by assumption) rfl))) (obs (szl (by exact lin (by assumption) (by simp +arith only))) AS))
 | false =>
  rw [hb,if_neg (by decide)] at hfull
  have hel:=Dj w
  have ew:AD w false=[34]++w.flatMap A3++[34]:=rfl
  have e34:("\"":Str)=S [34]:=by kernel_rfl!
  have ev:S (AD w false)=("\"":Str)++S (w.flatMap A3)++("\"":Str):=by rw [e34,Ai,Ai];rfl
  have hsub:AA W 4 JH.sc JH.sb ⟨[("lists",lv),("headers",.own 0),("pairs",pv),("attr",.own 1),("k",.str (S [kc])),("v",.str (S w))],[.list hs,.list at_]⟩ (.str (S (w.flatMap A3))) ⟨[("lists",lv),("headers",.own 0),("pairs",pv),("attr",.own 1),("k",.str (S [kc])),("v",.str (S w))],[.list hs,.list at_]⟩:=by
   refine Be (jsub hw (by exact lb (by assumption) rfl) w.length w 0 (Nat.le_refl _) rfl (Nat.zero_le _) 0) fun ls n' h1 h2 h3=>?_
   refine AA.subAt F (s:=lE (Dd JH.sb)) (a:=JH.lam) (b:=BE 1 JH.sb) (pa:=93) (P:=95) (c:=99) (q:="join_header_words.<locals>.") (w:=w) (pre:="\\") (by kernel_rfl!) (AQ F {} (n:=10) (by kernel_rfl!)) (by kernel_rfl!) (Bc F.p93) N.n99 (by kernel_rfl!) (N.t95.trans (by kernel_rfl!)) (by kernel_rfl!)
    (fun env=>by kernel_rfl!) (by kernel_rfl!) (fun ζ ζ ζ ζ=>by kernel_rfl!) (by kernel_rfl!) (by kernel_rfl!) (by kernel_rfl!) (by kernel_rfl!) (by kernel_rfl!) (fun sp objs hG=>jh_lam F (by exact lb (by assumption) rfl) hG) (fun objs'=>AQ F {} (n:=10) (by kernel_rfl!)) (by exact lb (by assumption) rfl) ⟨ls,n',h1,h2,by exact Nat.le_trans h3 (lb (Nat.add_le_add_right (Nat.mul_le_mul_left _ hl) _) rfl)⟩ (by exact Nat.le_trans hel (lb (Nat.mul_le_mul_left _ hl) rfl)) ?_ ?_
   ·refine (?_:(AV.lt 2 lv&&(true&&(AV.lt 2 pv&&(true&&(true&&(true&&true))))))=true)
    rw [hlv,hpv];rfl
   ·refine (?_:(AV.ltL 2 hs&&(AV.ltL 2 at_&&true))=true)
    rw [hhs,hat];rfl
  refine (AN (AW F 3 {call:=fmC .none,ex:=fun e st=>if e.pos.line==63 then some (.str (S ([kc,61]++AD w false)),st) else if atP 61 24 91 e then some (.str (S (w.flatMap A3)),st) else none}) (n:=20)
   (st':=⟨[("lists",lv),("headers",.own 0),("pairs",pv),("attr",.own 1),("k",.str (S ([kc,61]++AD w false))),("v",.str (("\"":Str)++S (w.flatMap A3)++("\"":Str)))],[.list hs,.list (at_++[.str (S ([kc,61]++AD w false))])]⟩)
   (o:=[ob (AP W 3 (.builtin "re.Pattern.fullmatch") [.top (.ref 88),.str (S w)] [.list hs,.list at_] .none [.list hs,.list at_]),
    ob (AA W 4 JH.sc JH.sb ⟨[("lists",lv),("headers",.own 0),("pairs",pv),("attr",.own 1),("k",.str (S [kc])),("v",.str (S w))],[.list hs,.list at_]⟩ (.str (S (w.flatMap A3))) ⟨[("lists",lv),("headers",.own 0),("pairs",pv),("attr",.own 1),("k",.str (S [kc])),("v",.str (S w))],[.list hs,.list at_]⟩),
    20*((S (w.flatMap A3)).length+2),
    ob (AA W 4 JH.sc JH.eq ⟨[("lists",lv),("headers",.own 0),("pairs",pv),("attr",.own 1),("k",.str (S [kc])),("v",.str (("\"":Str)++S (w.flatMap A3)++("\"":Str)))],[.list hs,.list at_]⟩ (.str (S ([kc,61]++AD w false))) ⟨[("lists",lv),("headers",.own 0),("pairs",pv),("attr",.own 1),("k",.str (S [kc])),("v",.str (("\"":Str)++S (w.flatMap A3)++("\"":Str)))],[.list hs,.list at_]⟩),at_.length+1])
   (by kernel_rfl!) ?_).forget (.cons rfl (.cons rfl (.cons rfl (.cons rfl .nil)))) rfl
  refine obs (AC (cob hfull (by decide))) (obs (AC hsub) (obs (szl (by rw [AU];exact (lnn 20 hel (lnn 40 hl (by simp +arith only))))) (obs (AC ?_) (obs (szl (by exact lb (Nat.add_le_add_right ha _) rfl)) AS))))
  rw [← ev]
  exact eqok _ (by have:=Al w false;exact Nat.le_trans this (lb (Nat.add_le_add_right (Nat.mul_le_mul_left _ hl) _) rfl))
end
end Mine
namespace Mine
open PySem PySem.W PyProof.Rows PySem.Calls PySem.Spec
variable [T₀:AY]
noncomputable def A5 (p:List Nat×List Nat):List Nat:=A7 [59,32] [[109,61]++AD p.1 (A0 p.1),[110,61]++AD p.2 (A0 p.2)]
noncomputable def Ad (ps:List (List Nat×List Nat)):List Nat:=A7 [44,32] (ps.map A5)
noncomputable def prP (p:List Nat×List Nat):AV:=JN p.1 p.2
theorem EG (sep:List Nat) (b:Nat):∀ ls:List (List Nat),(∀ l∈ls,l.length≤b)→(A7 sep ls).length≤ls.length*(b+sep.length)
 | [],_=>by simp [A7]
 | [x],h=>by have:=h x (.head _);simp [A7];exact lin (by assumption) (by simp +arith only)
 | x::y::r,h=>by
  have h1:=h x (.head _)
  have h2:=EG sep b (y::r) fun l hl=>h l (.tail _ hl)
  simp only [A7,List.length_append,List.length_cons] at h2 ⊢
  rw [Nat.add_mul (r.length+1) 1,Nat.one_mul]
  exact (lin h1 (lin h2 (by simp +arith only)))
section
variable {W:Wd} {k:Nat}
theorem Kg (F:KF W.K) (N:NF W) {lv:AV} {hs:List AV} {p:List Nat×List Nat} (hp:Sg p.1∧Sg p.2) (hl:p.1.length≤100∧p.2.length≤100) (hh:hs.length≤100) (hlv:AV.lt 1 lv=true) (hlv2:AV.lt 2 lv=true) (hhs:AV.ltL 1 hs=true) (hhs2:AV.ltL 2 hs=true) :
  ∃ st₁,AX W 4 JH.sc (tgtS JH.fo) (prP p) ⟨[("lists",lv),("headers",.own 0)],[.list hs]⟩ st₁ ∧
   A8 W 4 JH.sc (AB JH.fo) st₁ .next ⟨[("lists",lv),("headers",.own 0)],[.list (hs++[.str (S (A5 p))])]⟩:=by
 refine ⟨_,.at (x:="pairs") (by kernel_rfl!) (by kernel_rfl!),?_⟩
 refine AG (Ic F N (lv:=lv) (pv:=prP p) (w:=p.1) (kc:=109) (hs:=hs) (at_:=[]) hp.1 (by exact (lin hl.1 (by simp +arith only))) (by decide) hlv2 rfl hhs2 rfl) fun s1 a1 x1=>?_
 refine AG (Ic F N (lv:=lv) (pv:=prP p) (w:=p.2) (kc:=110) (hs:=hs) (at_:=[]++[.str (S ([109,61]++AD p.1 (A0 p.1)))]) hp.2 (by exact (lin hl.2 (by simp +arith only))) (by simp) hlv2 rfl hhs2 rfl) fun s2 a2 x2=>?_
 have hfor:AH W 4 JH.sc JH.fi ⟨[("lists",lv),("headers",.own 0),("pairs",prP p),("attr",.own 1)],[.list hs,.list []]⟩ .next
   ⟨[("lists",lv),("headers",.own 0),("pairs",prP p),("attr",.own 1)],[.list hs,.list [.str (S ([109,61]++AD p.1 (A0 p.1))),.str (S ([110,61]++AD p.2 (A0 p.2)))]]⟩ :=
  Df (v:=prP p) (by kernel_rfl!) (fun ζ ζ=>by kernel_rfl!) (AQ F {} (n:=10) (by kernel_rfl!)) rfl (.go a1 x1 (.inl rfl) (.go a2 x2 (.inl rfl) (.stop .nil)))
 have w1:=Al p.1 (A0 p.1)
 have w2:=Al p.2 (A0 p.2)
 have esep:("; ":Str)=S [59,32]:=by kernel_rfl!
 have ej:Txt.join "; " [S ([109,61]++AD p.1 (A0 p.1)),S ([110,61]++AD p.2 (A0 p.2))]=S (A5 p):=by
  rw [esep]
  exact Cq [59,32] [[109,61]++AD p.1 (A0 p.1),[110,61]++AD p.2 (A0 p.2)]
 rw [← ej]
 refine A8.drop (f:=.next) (st:=⟨[("lists",lv),("headers",.own 0),("pairs",prP p)],[.list hs]⟩) (objs:=[.list (hs++[.str (Txt.join "; " [S ([109,61]++AD p.1 (A0 p.1)),S ([110,61]++AD p.2 (A0 p.2))])])]) (tail:=[.list [.str (S ([109,61]++AD p.1 (A0 p.1))),.str (S ([110,61]++AD p.2 (A0 p.2)))]]) ?_ rfl rfl ?_ ?_
 ·refine (AN (AW F 3 {st:=fun s ζ=>if (B3 s).line==58 then some (.next,⟨[("lists",lv),("headers",.own 0),("pairs",prP p),("attr",.own 1)],[.list hs,.list [.str (S ([109,61]++AD p.1 (A0 p.1))),.str (S ([110,61]++AD p.2 (A0 p.2)))]]⟩) else none}) (n:=20)
   (st':=⟨[("lists",lv),("headers",.own 0),("pairs",prP p),("attr",.own 1)],[.list (hs++[.str (Txt.join "; " [S ([109,61]++AD p.1 (A0 p.1)),S ([110,61]++AD p.2 (A0 p.2))])]),.list [.str (S ([109,61]++AD p.1 (A0 p.1))),.str (S ([110,61]++AD p.2 (A0 p.2)))]]⟩)
   (o:=[ob (AH W 4 JH.sc JH.fi ⟨[("lists",lv),("headers",.own 0),("pairs",prP p),("attr",.own 1)],[.list hs,.list []]⟩ .next ⟨[("lists",lv),("headers",.own 0),("pairs",prP p),("attr",.own 1)],[.list hs,.list [.str (S ([109,61]++AD p.1 (A0 p.1))),.str (S ([110,61]++AD p.2 (A0 p.2)))]]⟩),
    ([S ([109,61]++AD p.1 (A0 p.1)),S ([110,61]++AD p.2 (A0 p.2))].map (·.length)).sum+2*("; ":Str).length,hs.length+1]) (by kernel_rfl!) ?_).forget (.cons rfl (.cons rfl .nil)) rfl
  refine obs (AC hfor) (obs (szl ?_) (obs (szl (by exact lb (Nat.add_le_add_right hh _) rfl)) AS))
  rw [esep]
  simp only [List.map_cons,List.map_nil,List.sum_cons,List.sum_nil,AU,List.length_append,List.length_cons,List.length_nil]
  exact (lin w1 (lnn 2 hl.1 (lin w2 (lnn 2 hl.2 (by simp +arith only)))))
 ·refine (?_:(AV.lt 1 lv&&(true&&true))=true)
  rw [hlv];rfl
 ·refine (?_:(AV.ltL 1 (hs++[.str _])&&true)=true)
  rw [Bool.and_true]
  have app:∀ (a b:List AV),AV.ltL 1 a=true→AV.ltL 1 b=true→AV.ltL 1 (a++b)=true:=by
   intro a b
   induction a with
   | nil=>intro _ h;exact h
   | cons x a ih =>
    intro h1 h2
    have h1':(AV.lt 1 x&&AV.ltL 1 a)=true:=h1
    rw [Bool.and_eq_true] at h1'
    refine (?_:(AV.lt 1 x&&AV.ltL 1 (a++b))=true)
    rw [h1'.1,ih h1'.2 h2];rfl
  exact app _ _ hhs rfl
theorem FB (F:KF W.K) (N:NF W) {ps:List (List Nat×List Nat)} (hp:∀ p∈ps,(Sg p.1∧Sg p.2)∧p.1.length≤100∧p.2.length≤100) (hn:ps.length≤50) {objs:List AO}:AR W 6 (.ref 100) [.lst (ps.map prP)] objs (.str (S (Ad ps))) objs:=by
 have hrun:∀ (xs done:List (List Nat×List Nat)),(∀ p∈xs,(Sg p.1∧Sg p.2)∧p.1.length≤100∧p.2.length≤100)→done.length+xs.length≤50→BA W 4 JH.sc (tgtS JH.fo) (AB JH.fo) [] (xs.map prP) ⟨[("lists",.lst (ps.map prP)),("headers",.own 0)],[.list (done.map fun p=>.str (S (A5 p)))]⟩ .next
   ⟨[("lists",.lst (ps.map prP)),("headers",.own 0)],[.list ((done++xs).map fun p=>.str (S (A5 p)))]⟩:=by
  intro xs
  induction xs with
  | nil=>intro done _ _;rw [List.append_nil];exact .stop .nil
  | cons x xs ih =>
   intro done hx h
   rw [List.length_cons] at h
   have hlt:∀ n,AV.lt n (.lst (ps.map prP))=true:=fun n=>by refine (?_:AV.ltL n (ps.map prP)=true);exact Cy (fun ζ=>rfl) ps
   refine AG (Kg F N (lv:=.lst (ps.map prP)) (hs:=done.map fun p=>.str (S (A5 p))) (p:=x) (hx x (.head _)).1 (hx x (.head _)).2 (by rw [List.length_map];exact lin (by assumption) (by simp +arith only)) (hlt 1) (hlt 2) (Cy (fun ζ=>rfl) done) (Cy (fun ζ=>rfl) done)) fun s1 a1 e1=>?_
   have:=ih (done++[x]) (fun p hp=>hx p (.tail _ hp)) (by simp;exact lin (by assumption) (by simp +arith only))
   rw [List.append_assoc] at this
   rw [List.map_append] at this
   exact .go a1 e1 (.inl rfl) this
 have hfor:AH W 4 JH.sc JH.fo ⟨[("lists",.lst (ps.map prP)),("headers",.own 0)],[.list []]⟩ .next ⟨[("lists",.lst (ps.map prP)),("headers",.own 0)],[.list (ps.map fun p=>.str (S (A5 p)))]⟩ :=
  Df (v:=.lst (ps.map prP)) (by kernel_rfl!) (fun ζ ζ=>by kernel_rfl!) (AQ F {} (n:=10) (by kernel_rfl!)) rfl (hrun ps [] hp (by simpa using hn))
 have esep:(", ":Str)=S [44,32]:=by kernel_rfl!
 have hlen:∀ l∈ps.map A5,l.length≤1000:=fun l hl=>by
  refine AG (List.mem_map.mp hl) fun p hm r2_=>?_;subst r2_
  have w1:=Al p.1 (A0 p.1)
  have w2:=Al p.2 (A0 p.2)
  have:=(hp p hm).2
  simp only [A5,A7,List.length_append,List.length_cons,List.length_nil]
  exact (lin w1 (lnn 2 this.1 (lin w2 (lnn 2 this.2 (by simp +arith only)))))
 have hsum:(((ps.map A5).map S).map (·.length)).sum≤100000:=by
  rw [CT]
  have:∀ ls:List (List Nat),(∀ l∈ls,l.length≤1000)→ls.flatten.length≤ls.length*1000:=by
   intro ls
   induction ls with
   | nil=>intro _;simp
   | cons l ls ih=>intro h;have h1:=h l (.head _);have h2:=ih fun x hx=>h x (.tail _ hx);simp only [List.flatten_cons,List.length_append,List.length_cons];exact (lin h1 (lin h2 (by simp +arith only)))
  have:=this _ hlen
  rw [List.length_map] at this
  exact (lin this (lnn 1000 hn (by simp +arith only)))
 have hret:AA W 4 JH.sc (exprS (nth (AB JH.d) 2)) ⟨[("lists",.lst (ps.map prP)),("headers",.own 0)],[.list (ps.map fun p=>.str (S (A5 p)))]⟩ (.str (S (Ad ps))) ⟨[("lists",.lst (ps.map prP)),("headers",.own 0)],[.list (ps.map fun p=>.str (S (A5 p)))]⟩:=by
  have ej:Txt.join (", ":Str) ((ps.map A5).map S)=S (Ad ps):=by rw [esep,Cq];rfl
  rw [← ej]
  refine AA.joinOwnAt F (s:=lE (Dd (exprS (nth (AB JH.d) 2)))) (a:=BE 0 (exprS (nth (AB JH.d) 2))) (i:=0) (by kernel_rfl!) (AQ F {} (n:=10) (by kernel_rfl!)) (AQ F {} (n:=10) (by kernel_rfl!)) ?_ ?_
  ·refine (?_:some (AO.list _)=_)
   rw [List.map_map,List.map_map];rfl
  ·rw [esep,AU,List.length_map,List.length_map]
   simp only [List.length_cons,List.length_nil]
   exact (lnn 2 hn (lin hsum (by simp +arith only)))
 have h:=Bv (k:=3) (x:="lists") (v:=.lst (ps.map prP)) (objs:=[]) (n:=20) (fl:=.ret (.str (S (Ad ps)))) (st':=⟨[("lists",.lst (ps.map prP)),("headers",.own 0)],[.list (ps.map fun p=>.str (S (A5 p)))]⟩)
  (o:=[ob (AH W 4 JH.sc JH.fo ⟨[("lists",.lst (ps.map prP)),("headers",.own 0)],[.list []]⟩ .next ⟨[("lists",.lst (ps.map prP)),("headers",.own 0)],[.list (ps.map fun p=>.str (S (A5 p)))]⟩),
   ob (AA W 4 JH.sc (exprS (nth (AB JH.d) 2)) ⟨[("lists",.lst (ps.map prP)),("headers",.own 0)],[.list (ps.map fun p=>.str (S (A5 p)))]⟩ (.str (S (Ad ps))) ⟨[("lists",.lst (ps.map prP)),("headers",.own 0)],[.list (ps.map fun p=>.str (S (A5 p)))]⟩)]) F F.f100
  {st:=fun s ζ=>if (B3 s).line==56 then some (.next,⟨[("lists",.lst (ps.map prP)),("headers",.own 0)],[.list (ps.map fun p=>.str (S (A5 p)))]⟩) else none,ex:=fun e st=>if atP 67 11 29 e then some (.str (S (Ad ps)),st) else none}
  (by kernel_rfl!) (by intro pm c v;kernel_rfl!) (by kernel_rfl!) (obs (AC hfor) (obs (AC hret) AS))
 refine AR.frame (AR.iced (objs:=[]) (fu:=20) h.ok.up ?_) ?_
 ·rfl
 ·refine (?_:(AV.ltL 0 (ps.map prP)&&true)=true)
  rw [Bool.and_true]
  exact Cy (fun ζ=>rfl) ps
end
end Mine
end
section
set_option maxRecDepth 10000
namespace Mine
open PySem PySem.W PyProof.Rows PySem.Calls PySem.Spec
variable [T₀:AY]
theorem Eg {a c:Nat} {r:List Nat}:Txt.startswith (S (a::r)) (S [c])=(a==c):=by
 unfold Txt.startswith Builtin.Str.subAt
 have h1:(0+(S [c]).length≤(S (a::r)).length):=by rw [AU,AU];simp
 rw [decide_eq_true h1,Bool.true_and]
 refine (?_:((a::r).toArray.extract 0 (0+1)==#[c])=_)
 rw [List.extract_toArray]
 refine (?_:([a].toArray==[c].toArray)=_)
 rw [Bool.eq_iff_iff]
 simp
theorem sp_sign {c:Nat} (h:c∈Rx.signs):Unicode.isSpace c=Rx.isWs c:=by
 have:(Rx.signs.all fun c=>Unicode.isSpace c==Rx.isWs c)=true:=by decide +kernel
 exact beq_iff_eq.mp (List.all_eq_true.mp this c h)
theorem F8 {c:Nat} {r:List Nat} (h:Unicode.isSpace c=false):Txt.lstrip (S (c::r))=S (c::r):=by
 unfold Txt.lstrip Txt.stripBy
 rw [if_pos]
 unfold stripSame stripHi stripLo
 refine (?_:(((c::r).takeWhile Unicode.isSpace).length==0&&(S (c::r)).length==(S (c::r)).length)=true)
 rw [List.takeWhile_cons,h]
 simp
theorem JJ {c:Nat} {l:List Nat} (h:Unicode.isSpace c=false):Txt.rstrip (S (l++[c]))=S (l++[c]):=by
 unfold Txt.rstrip Txt.stripBy
 rw [if_pos]
 unfold stripSame stripHi stripLo
 refine (?_:(0==0&&(S (l++[c])).length - (((l++[c]).drop 0).reverse.takeWhile Unicode.isSpace).length==(S (l++[c])).length)=true)
 rw [List.drop_zero,List.reverse_append]
 refine (?_:(0==0&&(S (l++[c])).length - ((c::l.reverse).takeWhile Unicode.isSpace).length==(S (l++[c])).length)=true)
 rw [List.takeWhile_cons,h]
 simp
noncomputable def MG (s:Stmt):Option (Expr×Expr):=(exprI s).bind fun x=>I8 "append" x.1
theorem MF {s:Stmt} {o a:Expr} (h:MG s=some (o,a)):∃ ap p q,s=.Expr (.Call (.Attribute o "append" ap) [a] [] p) q∧Am o=true∧[a].all A4=true∧(ap.endLine==p.line)=true :=
 AE h fun x hx h=>by
  refine Bl (E7 h) fun ap p e1 e2=>?_
  exact ⟨ap,p,x.2,(exprI_e hx).trans (congrArg (fun y=>Stmt.Expr y x.2) e1),e2⟩
noncomputable def isIfS (s:Stmt):Bool:=match s with | .If ..=>true | _=>false
theorem if_eta {s:Stmt} (h:isIfS s=true):s=.If (exprS s) (AB s) (BD s) (B3 s):=by
 induction s using Stmt.casesOn <;> first | rfl | exact ff h
section
variable {W:Wd} {k:Nat} {sc:Scope} {st st₁ st₂:ST}
theorem AH.appAt (F:KF W.K) {s:Stmt} {o a:Expr} {j:Nat} {xs:List AV} {v:AV} (h:MG s=some (o,a)) (h1:AA W (k+1) sc o st (.own j) st₁) (h2:AA W (k+1) sc a st₁ v st₂) (hj1:∃ ys,st₁.objs[j]?=some (.list ys)) (hj:st₂.objs[j]?=some (.list xs)) (hl:xs.length≤1000) :
  AH W (k+1) sc s st .next {st₂ with objs:=st₂.objs.set j (.list (xs++[v]))}:=by
 refine oEEEAAA (MF h) fun ap p q r3_ c2 c3 c4=>?_;subst r3_
 obtain ⟨ys,hy⟩:=hj1
 have hm:ET (tb W k {}) st₁.objs "append" (.own j)=some (.builtin "list.append"):=by
  refine (?_:((st₁.objs[j]?).bind fun ob=>_)=_)
  rw [hy]
  kernel_rfl!
 exact .expr rfl rfl (.callMeth c2 c3 (Nat.le_of_ble_eq_true rfl) c4 h1 (Cx (BP F).res (BP F).pat hm) trivial (.cons (bt c3).1 h2 .nil) (Fk hj (szl (by exact lin (by assumption) (by simp +arith only)))))
theorem AH.ifApp (F:KF W.K) {s a:Stmt} {o x:Expr} {j:Nat} {xs res:List AV} (hs:isIfS s=true) (hn:(match exprS s with | .Name ..=>true | _=>false)=true) (hb:AB s=[a]) (he:BD s=[]) (h:MG a=some (o,x)) (ht:AA W (k+1) sc (exprS s) st (.own j) st) (h1:AA W (k+1) sc o st (.own 0) st) (h2:AA W (k+1) sc x st (.own j) st)
  (hj:st.objs[j]?=some (.list xs)) (h0:st.objs[0]?=some (.list res)) (hl:res.length≤1000):AH W (k+1) sc s st .next {st with objs:=if xs.isEmpty then st.objs else st.objs.set 0 (.list (res++[.own j]))}:=by
 rw [if_eta hs,hb,he]
 have ht':AL W (k+1) sc (exprS s) st (!xs.isEmpty) st:=by
  refine .ofVal (fun env whole=>?_) ht (by refine (?_:((st.objs[j]?).bind fun o=>_)=_);rw [hj];rfl)
  generalize exprS s=e at hn
  induction e using Expr.casesOn <;> first | exact ff hn;done | rfl
 refine .ifS ht' ?_
 induction xs using List.casesOn with
 | nil=>exact .nil
 | cons y ys=>exact .cons (.appAt F h h1 h2 ⟨_,h0⟩ h0 hl) .nil
end
namespace SP
noncomputable abbrev d:=top 10
noncomputable abbrev sc:=AM d
noncomputable abbrev fo:=nth (AB d) 2
noncomputable abbrev wh:=nth (AB fo) 2
noncomputable abbrev i1:=nth (AB wh) 1
noncomputable abbrev ap:=nth (AB i1) 4
noncomputable abbrev sb:=exprS (nth (AB (nth (AB i1) 3)) 2)
noncomputable abbrev lam:=BE 0 sb
end SP
noncomputable abbrev FX (hv:AV) (t:Str) (ov:AV) (j:Nat):List (Str×AV):=[("header_values",hv),("result",.own 0),("text",.str t),("orig_text",ov),("pairs",.own j)]
noncomputable abbrev DQ (hv:AV) (t:Str) (ov:AV) (j:Nat) (m nm v:AV):List (Str×AV):=[("header_values",hv),("result",.own 0),("text",.str t),("orig_text",ov),("pairs",.own j),("m",m),("name",nm),("value",v)]
theorem locX_lt {n:Nat} {hv ov m nm v:AV} {t t':Str} {j:Nat} (h:((FX hv t ov j).all fun e=>AV.lt n e.2)=true) (h1:AV.lt n m=true) (h2:AV.lt n nm=true) (h3:AV.lt n v=true):((DQ hv t' ov j m nm v).all fun e=>AV.lt n e.2)=true:=by
 have h':(AV.lt n hv&&(AV.lt n (.own 0)&&(true&&(AV.lt n ov&&(AV.lt n (.own j)&&true)))))=true:=h
 refine (?_:(AV.lt n hv&&(AV.lt n (.own 0)&&(true&&(AV.lt n ov&&(AV.lt n (.own j)&&(AV.lt n m&&(AV.lt n nm&&(AV.lt n v&&true))))))))=true)
 simp only [Bool.and_eq_true] at h' ⊢
 exact ⟨h'.1,h'.2.1,trivial,h'.2.2.2.1,h'.2.2.2.2.1,h1,h2,h3,trivial⟩
noncomputable abbrev stS (hv:AV) (t:List Nat) (ov:AV) (j:Nat) (objs:List AO):ST:=⟨FX hv (S t) ov j,objs⟩
noncomputable def spC (tok quo val:AV) (t1 t2:List Nat):Value→List AV→List AO→Option (AV×List AO):=fun f args objs=>match f,args with
 | .builtin n,[.top (.ref p),_]=>if n=="re.Pattern.search" then some (if p==61 then tok else if p==66 then quo else val,objs) else none
 | .builtin n,[.str x]=>if n=="str.rstrip" || n=="str.lstrip" then some (.str x,objs) else none
 | .ref _,[.mtch _ p _]=>some (.str (S (if p==61 then t1 else t2)),objs)
 | _,_=>none
theorem L9:∀ w:List Nat,w.length≤(w.flatMap A3).length
 | []=>by simp
 | c::w=>by
  have:=L9 w
  rw [List.flatMap_cons,List.length_append,List.length_cons]
  have h1:1≤(A3 c).length:=by unfold A3;split <;> simp
  exact Nat.add_comm _ 1▸Nat.add_le_add h1 this
theorem L8:∀ (n:Nat) (w:List Nat),w.length≤n→∃ seg ps,w.flatMap A3=seg++Rx.flat ps∧(∀ c∈seg,Rx.isBody c=true)∧∀ x∈ps,∀ c∈x.2,Rx.isBody c=true:=by
 have body:∀ {xs:List Nat},(∀ c∈xs,Rx.isEsc c=false)→∀ c∈xs,Rx.isBody c=true:=fun h c hc=>by
  have:=h c hc
  unfold Rx.isEsc at this
  unfold Rx.isBody
  rw [this];rfl
 intro n
 induction n with
 | zero =>
  intro w hw
  have:w=[]:=List.eq_nil_of_length_eq_zero (by exact Nat.eq_zero_of_le_zero hw)
  subst this
  exact ⟨[],[],rfl,(fun c h=>nomatch h),(fun x h=>nomatch h)⟩
 | succ n ih =>
  intro w hw
  rcases BR Rx.isEsc w with q | ⟨xs,c,r,e,hc,hx⟩
  ·exact ⟨w,[],by rw [DE q];simp [Rx.flat],body q,fun x h=>nomatch h⟩
  ·subst e
   refine Be (ih r (by simp at hw;exact lin (by assumption) (by simp +arith only))) fun seg ps h1 h2 h3=>?_
   refine ⟨xs,(c,seg)::ps,?_,body hx,fun x hm=>?_⟩
   ·have ec:A3 c=[92,c]:=by unfold A3;rw [hc];rfl
    rw [List.flatMap_append,List.flatMap_cons,DE hx,ec,h1]
    simp [Rx.flat]
   ·rcases List.mem_cons.mp hm with rfl | hm
    ·exact h2
    ·exact h3 x hm
section
variable {W:Wd} {k:Nat}
theorem sp_lam (F:KF W.K) {w:List Nat} {sp:List Int} {objs:List AO} (hl:w.length≤100000) (h:GS w sp):AA W 1 (DH SP.lam) (FY SP.lam) ⟨[("_m",.mtch (S w) 76 sp)],objs⟩ (.str (gS "" w sp)) ⟨[("_m",.mtch (S w) 76 sp)],objs⟩:=by
 refine I4 h fun a hh b e r4_ hne hone=>?_;subst r4_
 refine Bk F {hint:=fun ζ ζ=>some true} (n:=20) (o:=[e - b,ob (((Ar (S w) b e).length != 0)=true),("":Str).length+(Ar (S w) b e).length]) (by kernel_rfl!) ?_
 refine obs (szl (by exact lb (by assumption) rfl)) (obs (AC hne) (obs (szl ?_) AS))
 exact lb (Nat.add_le_add (Nat.le_of_eq (by kernel_rfl!:("":Str).length=0)) (Nat.le_trans (IS (w:=w) (b:=b) (e:=e)) hone)) rfl
theorem Hj (F:KF W.K) {ws name rest:List Nat} (hS:Sg (ws++(name++rest))) (hl:(ws++(name++rest)).length≤10000) (hws:∀ c∈ws,Rx.isWs c=true) (hn:name≠[]) (htk:∀ c∈name,Rx.isTok c=true) (hr:rest=[]∨∃ c r,rest=c::r∧Rx.isTok c=false) {objs:List AO} :
  AR W k (.builtin "re.Pattern.search") [.top (.ref 61),.str (S (ws++(name++rest)))] objs (.mtch (S (ws++(name++rest))) 61 [Int.ofNat 0,Int.ofNat (ws.length+name.length),Int.ofNat ws.length,Int.ofNat (ws.length+name.length)]) objs:=by
 obtain ⟨t,tk,e⟩:∃ t tk,name=t::tk:=by induction name using List.casesOn with | nil=>exact (hn rfl).elim | cons a l=>exact ⟨a,l,rfl⟩
 exact BJ (x:=S (ws++(name++rest))) (Bc F.p61) (by rw [AU];exact lb (by assumption) rfl) (Rx.tok_yes (text:=(ws++(name++rest)).toArray) (ws:=ws) (tok:=name) (rest:=rest) rfl hS (by rw [List.size_toArray];exact lb (by assumption) rfl) hws e htk hr) (by decide) (.inr ⟨rfl,rfl,_,_,rfl,by simp +arith only⟩)
end
end Mine
namespace Mine
open PySem PySem.W PyProof.Rows PySem.Calls PySem.Spec
variable [T₀:AY]
section
variable {W:Wd} {k:Nat}
theorem Fz (F:KF W.K) {loc:List (Str×AV)} {objs:List AO} {j:Nat} {cur:List AV} {nm v:AV} (hj:objs[j]?=some (.list cur)) (hl:cur.length≤1000) {hv ov mv:AV} {t:Str} (hloc:loc=DQ hv t ov j mv nm v) :
  AH W 4 SP.sc SP.ap ⟨loc,objs⟩ .next ⟨loc,objs.set j (.list (cur++[.tup [nm,v]]))⟩:=by
 subst hloc
 exact .appAt F (o:=(match SP.ap with | .Expr (.Call (.Attribute o _ _) _ _ _) _=>o | _=>default)) (a:=(match SP.ap with | .Expr (.Call _ [a] _ _) _=>a | _=>default)) (by kernel_rfl!) (AQ F {} (n:=10) (by kernel_rfl!)) (AQ F {} (n:=10) (by kernel_rfl!)) ⟨_,hj⟩ hj hl
theorem JF (F:KF W.K) (N:NF W) {hv ov:AV} {j:Nat} {objs:List AO} {cur:List AV} {ws name w rest:List Nat} (hj:objs[j]?=some (.list cur)) (hc:cur.length≤1000)
  (hS:Sg (ws++(name++(61::34::(w.flatMap A3++34::rest))))) (hl:(ws++(name++(61::34::(w.flatMap A3++34::rest)))).length≤10000) (hws:∀ c∈ws,Rx.isWs c=true) (hn:name≠[]) (htk:∀ c∈name,Rx.isTok c=true)
  (h1:((FX hv (S []) ov j).all fun e=>AV.lt objs.length e.2)=true) (h2:(objs.all (AO.lt objs.length))=true) :
  A8 W 4 SP.sc (AB SP.wh) (stS hv (ws++(name++(61::34::(w.flatMap A3++34::rest)))) ov j objs) .next (stS hv rest ov j (objs.set j (.list (cur++[.tup [.str (S name),.str (S w)]])))):=by
 have htok:=Hj (k:=3) F hS hl hws hn htk (.inr ⟨61,_,rfl,rfl⟩) (objs:=objs)
 generalize ht:ws++(name++(61::34::(w.flatMap A3++34::rest)))=t at *
 generalize ht1:61::34::(w.flatMap A3++34::rest)=t1 at *
 have hd:t.drop (ws.length+name.length)=t1:=by rw [← ht,← List.append_assoc,← List.length_append,List.drop_left]
 have hS1:Sg t1:=fun c hc=>hS c (by rw [← ht];simp [hc])
 have hl1:t1.length≤10000:=by rw [← ht] at hl;simp at hl;exact lin (by assumption) (by simp +arith only)
 have hlen:t.length=ws.length+name.length+t1.length:=by rw [← ht];simp;simp +arith only
 have hlen1:t1.length=2+(w.flatMap A3).length+1+rest.length:=by rw [← ht1];simp;simp +arith only
 have hu1:=(BV (objs:=objs) F (l:=t) (pa:=61) (a:=0) (b:=ws.length+name.length) (c:=ws.length) (d:=ws.length+name.length) (Nat.zero_le _) (by exact hlen.symm▸Nat.le_add_right _ _) (by exact lb (by assumption) rfl)).up
 rw [hd] at hu1
 have hname:Ar (S t) ws.length (ws.length+name.length)=S name:=by
  rw [Bx,← ht,List.drop_left,Nat.add_sub_cancel_left,List.take_left]
 generalize hE:w.flatMap A3=es at *
 have hquo:AR W 3 (.builtin "re.Pattern.search") [.top (.ref 66),.str (S t1)] objs (.mtch (S t1) 66 [Int.ofNat 0,Int.ofNat (2+es.length+1),Int.ofNat 2,Int.ofNat (2+es.length)]) objs:=by
  refine Be (L8 w.length w (Nat.le_refl _)) fun seg ps e1 e2 e3=>?_
  rw [hE] at e1
  have el:es.length=seg.length+(Rx.flat ps).length:=by rw [e1,List.length_append]
  have:=BJ (W:=W) (k:=3) (objs:=objs) (x:=S t1) (Bc F.p66) (by rw [AU];exact lb (by assumption) rfl) (Rx.quo_yes (text:=t1.toArray) (seg:=seg) (ps:=ps) (rest:=rest) (by rw [← ht1,e1,List.append_assoc]) hS1 (by rw [List.size_toArray];assumption) e2 e3) (by rw [List.size_toArray];exact (HH 20 hlen (lnn 20 hl (by simp +arith only)))) (.inr ⟨rfl,rfl,_,_,rfl,by simp +arith only⟩)
  have a1:2+seg.length+(Rx.flat ps).length=2+es.length:=by exact (eqs el (by simp +arith only))
  rw [a1] at this
  exact this
 have hd1:t1.drop (2+es.length+1)=rest:=by
  have:t1=(61::34::es++[34])++rest:=by rw [← ht1];simp
  rw [this]
  have e2:2+es.length+1=(61::34::es++[34]).length:=by simp;simp +arith only
  rw [e2,List.drop_left]
 have hu2:=(BV (objs:=objs) F (l:=t1) (pa:=66) (a:=0) (b:=2+es.length+1) (c:=2) (d:=2+es.length) (Nat.zero_le _) (by exact lin (Nat.le_of_eq (Eq.symm (by assumption))) (by simp +arith only)) (by exact lb (by assumption) rfl)).up
 rw [hd1] at hu2
 have hval:Ar (S t1) 2 (2+es.length)=S es:=by
  rw [Bx,← ht1]
  have:2+es.length - 2=es.length:=by exact Nat.add_sub_cancel_left ..
  rw [this]
  refine (?_:S (List.take es.length (es++34::rest))=_)
  rw [List.take_left]
 have hSe:Sg es:=fun c hc=>hS1 c (by rw [← ht1];simp [hc])
 have hwl:w.length≤es.length:=by rw [← hE];exact L9 w
 have hsub:∀ (mv:AV),AV.lt objs.length mv=true→AA W 4 SP.sc SP.sb ⟨DQ hv (S rest) ov j mv (.str (S name)) (.str (S es)),objs⟩ (.str (S w)) ⟨DQ hv (S rest) ov j mv (.str (S name)) (.str (S es)),objs⟩:=by
  intro mv hmv
  refine Be (usub hSe (by exact (lns hlen1 (lns hlen (lin hl (by simp +arith only))))) w.length w 0 (Nat.le_refl _) (by rw [hE];rfl) (Nat.zero_le _) 0) fun ls n' q1 q2 q3=>?_
  refine AA.subAt F (s:=lE (Dd SP.sb)) (a:=SP.lam) (b:=BE 1 SP.sb) (pa:=76) (P:=78) (c:=82) (q:="split_header_words.<locals>.") (w:=es) (pre:="") (by kernel_rfl!) (AQ F {} (n:=10) (by kernel_rfl!)) (by kernel_rfl!) (Bc F.p76) N.n82 (by kernel_rfl!) (N.t78.trans (by kernel_rfl!)) (by kernel_rfl!)
   (fun env=>by kernel_rfl!) (by kernel_rfl!) (fun ζ ζ ζ ζ=>by kernel_rfl!) (by kernel_rfl!) (by kernel_rfl!) (by kernel_rfl!) (by kernel_rfl!) (by kernel_rfl!) (fun sp objs hG=>sp_lam F (by exact (lns hlen1 (lns hlen (lin hl (by simp +arith only))))) hG) (fun objs'=>AQ F {} (n:=10) (by kernel_rfl!)) (by exact (lns hlen1 (lns hlen (lin hl (by simp +arith only))))) ⟨ls,n',q1,q2,by exact (lin q3 (lnn 2 hwl (HH 2 hlen1 (HH 2 hlen (lnn 2 hl (by simp +arith only))))))⟩ (by exact (lin hwl (lns hlen1 (lns hlen (lin hl (by simp +arith only)))))) ?_ h2
  exact locX_lt h1 hmv rfl rfl
 refine (AN (AW F 3 {call:=spC (.mtch (S t) 61 [Int.ofNat 0,Int.ofNat (ws.length+name.length),Int.ofNat ws.length,Int.ofNat (ws.length+name.length)]) (.mtch (S t1) 66 [Int.ofNat 0,Int.ofNat (2+es.length+1),Int.ofNat 2,Int.ofNat (2+es.length)]) .none t1 rest,ex:=fun e st=>if e.pos.line==30 then some (.str (S w),st) else none,st:=fun s st=>if (B3 s).line==39 then some (.next,⟨st.loc,objs.set j (.list (cur++[.tup [.str (S name),.str (S w)]]))⟩) else none}) (n:=30)
  (st':=⟨DQ hv (S rest) ov j (.mtch (S t1) 66 [Int.ofNat 0,Int.ofNat (2+es.length+1),Int.ofNat 2,Int.ofNat (2+es.length)]) (.str (Ar (S t) ws.length (ws.length+name.length))) (.str (S w)),objs.set j (.list (cur++[.tup [.str (S name),.str (S w)]]))⟩)
  (o:=[ob (AP W 3 (.builtin "re.Pattern.search") [.top (.ref 61),.str (S t)] objs (.mtch (S t) 61 [Int.ofNat 0,Int.ofNat (ws.length+name.length),Int.ofNat ws.length,Int.ofNat (ws.length+name.length)]) objs),
   ob (AP W 3 (.ref 56) [.mtch (S t) 61 [Int.ofNat 0,Int.ofNat (ws.length+name.length),Int.ofNat ws.length,Int.ofNat (ws.length+name.length)]] objs (.str (S t1)) objs),
   ws.length+name.length - ws.length,
   ob (AP W 3 (.builtin "re.Pattern.search") [.top (.ref 66),.str (S t1)] objs (.mtch (S t1) 66 [Int.ofNat 0,Int.ofNat (2+es.length+1),Int.ofNat 2,Int.ofNat (2+es.length)]) objs),
   ob (AP W 3 (.ref 56) [.mtch (S t1) 66 [Int.ofNat 0,Int.ofNat (2+es.length+1),Int.ofNat 2,Int.ofNat (2+es.length)]] objs (.str (S rest)) objs),
   2+es.length - 2,
   ob (AA W 4 SP.sc SP.sb ⟨DQ hv (S rest) ov j (.mtch (S t1) 66 [Int.ofNat 0,Int.ofNat (2+es.length+1),Int.ofNat 2,Int.ofNat (2+es.length)]) (.str (Ar (S t) ws.length (ws.length+name.length))) (.str (Ar (S t1) 2 (2+es.length))),objs⟩ (.str (S w)) ⟨DQ hv (S rest) ov j (.mtch (S t1) 66 [Int.ofNat 0,Int.ofNat (2+es.length+1),Int.ofNat 2,Int.ofNat (2+es.length)]) (.str (Ar (S t) ws.length (ws.length+name.length))) (.str (Ar (S t1) 2 (2+es.length))),objs⟩),
   ob (AH W 4 SP.sc SP.ap ⟨DQ hv (S rest) ov j (.mtch (S t1) 66 [Int.ofNat 0,Int.ofNat (2+es.length+1),Int.ofNat 2,Int.ofNat (2+es.length)]) (.str (Ar (S t) ws.length (ws.length+name.length))) (.str (S w)),objs⟩ .next ⟨DQ hv (S rest) ov j (.mtch (S t1) 66 [Int.ofNat 0,Int.ofNat (2+es.length+1),Int.ofNat 2,Int.ofNat (2+es.length)]) (.str (Ar (S t) ws.length (ws.length+name.length))) (.str (S w)),objs.set j (.list (cur++[.tup [.str (S name),.str (S w)]]))⟩)])
  (by kernel_rfl!) ?_).forget (.cons rfl (.cons rfl (.cons rfl (.cons rfl (.cons rfl .nil))))) rfl
 rw [hname,hval]
 refine obs (AC (cob htok (by decide))) (obs (AC (cob hu1 (by decide))) (obs (szl (Nat.le_trans (Nat.sub_le _ _) (by exact lns hlen (lin hl (by simp +arith only))))) (obs (AC (cob hquo (by decide))) (obs (AC (cob hu2 (by decide))) (obs (szl (Nat.le_trans (Nat.sub_le _ _) (by exact lns hlen1 (lns hlen (lin hl (by simp +arith only)))))) (obs (AC (hsub _ rfl)) (obs (AC (Fz F hj hc rfl)) AS)))))))
end
end Mine
end
section
set_option maxRecDepth 10000
namespace Mine
open PySem PySem.W PyProof.Rows PySem.Calls PySem.Spec
variable [T₀:AY]
section
variable {W:Wd} {k:Nat}
theorem Gm (F:KF W.K) {t1:List Nat} (hS:Sg t1) (hl:t1.length≤10000) (h:t1=[]∨(∃ c r,t1=32::c::r∧Rx.isWs c=false∧(c==61)=false)∨(∃ c r,t1=61::c::r∧Rx.isWs c=false∧(c==34)=false)) {objs:List AO} :
  AR W k (.builtin "re.Pattern.search") [.top (.ref 66),.str (S t1)] objs .none objs:=by
 have sz:t1.toArray.size=t1.length:=List.size_toArray
 by_cases h3:t1.length<3
 ·exact BJ (x:=S t1) (n:=1) (r:=none) (Bc F.p66) (by rw [AU];exact lb (by assumption) rfl) (Rx.search_short (by refine (?_:t1.toArray.size - 0<3);assumption)) (by decide) trivial
 ·rcases h with rfl | ⟨c,r,rfl,h1,h2⟩ | ⟨c,r,rfl,h1,h2⟩
  ·simp at h3
  ·exact BJ (r:=none) (Bc F.p66) (by rw [AU];exact lb (by assumption) rfl) (Rx.ws_no Rx.pre66 (text:=(32::c::r).toArray) rfl hS (by exact lb (by assumption) rfl) (by exact Nat.le_of_not_lt h3) h1 h2) (by exact lb (Nat.add_le_add_right (Nat.mul_le_mul_left _ hl) _) rfl) trivial
  ·exact BJ (r:=none) (Bc F.p66) (by rw [AU];exact lb (by assumption) rfl) (Rx.eq_no (text:=(61::c::r).toArray) rfl hS (by exact lb (by assumption) rfl) (by exact Nat.le_of_not_lt h3) h1 h2) (by exact lb (Nat.add_le_add_right (Nat.mul_le_mul_left _ hl) _) rfl) trivial
theorem Jt (F:KF W.K) {t1:List Nat} (hS:Sg t1) (hl:t1.length≤10000) (h:t1=[]∨(∃ c r,t1=32::c::r∧Rx.isWs c=false∧(c==61)=false)) {objs:List AO} :
  AR W k (.builtin "re.Pattern.search") [.top (.ref 71),.str (S t1)] objs .none objs:=by
 have sz:t1.toArray.size=t1.length:=List.size_toArray
 rcases h with rfl | ⟨c,r,rfl,h1,h2⟩
 ·exact BJ (x:=S []) (n:=1) (r:=none) (Bc F.p71) (by decide) (Rx.search_short (by refine (?_:(0:Nat) - 0<1);decide)) (by decide) trivial
 ·exact BJ (r:=none) (Bc F.p71) (by rw [AU];exact lb (by assumption) rfl) (Rx.ws_no Rx.pre71 (text:=(32::c::r).toArray) rfl hS (by exact lb (by assumption) rfl) (by rw [sz];simp) h1 h2) (by exact lb (Nat.add_le_add_right (Nat.mul_le_mul_left _ hl) _) rfl) trivial
theorem sp_bare (F:KF W.K) {hv ov:AV} {j:Nat} {objs:List AO} {cur:List AV} {ws name val rest:List Nat} (hj:objs[j]?=some (.list cur)) (hc:cur.length≤1000)
  (hS:Sg (ws++(name++(61::(val++rest))))) (hl:(ws++(name++(61::(val++rest)))).length≤10000) (hws:∀ c∈ws,Rx.isWs c=true) (hn:name≠[]) (htk:∀ c∈name,Rx.isTok c=true)
  (hvn:∃ v vs,val=v::vs∧(v==34)=false) (hv':∀ c∈val,Rx.isVal c=true) (hr:rest=[]∨∃ c r,rest=c::r∧Rx.isVal c=false) :
  A8 W 4 SP.sc (AB SP.wh) (stS hv (ws++(name++(61::(val++rest)))) ov j objs) .next (stS hv rest ov j (objs.set j (.list (cur++[.tup [.str (S name),.str (S val)]])))):=by
 have htok:=Hj (k:=3) F hS hl hws hn htk (.inr ⟨61,_,rfl,rfl⟩) (objs:=objs)
 generalize ht:ws++(name++(61::(val++rest)))=t at *
 generalize ht1:61::(val++rest)=t1 at *
 have hd:t.drop (ws.length+name.length)=t1:=by rw [← ht,← List.append_assoc,← List.length_append,List.drop_left]
 have hS1:Sg t1:=fun c hc=>hS c (by rw [← ht];simp [hc])
 have hl1:t1.length≤10000:=by rw [← ht] at hl;simp at hl;exact lin (by assumption) (by simp +arith only)
 have hlen:t.length=ws.length+name.length+t1.length:=by rw [← ht];simp;simp +arith only
 have hlen1:t1.length=1+val.length+rest.length:=by rw [← ht1];simp;simp +arith only
 have hu1:=(BV (objs:=objs) F (l:=t) (pa:=61) (a:=0) (b:=ws.length+name.length) (c:=ws.length) (d:=ws.length+name.length) (Nat.zero_le _) (by exact hlen.symm▸Nat.le_add_right _ _) (by exact lb (by assumption) rfl)).up
 rw [hd] at hu1
 have hname:Ar (S t) ws.length (ws.length+name.length)=S name:=by
  rw [Bx,← ht,List.drop_left,Nat.add_sub_cancel_left,List.take_left]
 refine Bl hvn fun v vs ev hv34=>?_
 have hvw:Rx.isWs v=false:=by
  have:=hv' v (by rw [ev];exact .head _)
  unfold Rx.isVal at this
  unfold Rx.isWs
  simp only [Bool.not_eq_true',Bool.or_eq_false_iff] at this
  exact this.1.1
 have hquo:=Gm (k:=3) F hS1 hl1 (.inr (.inr ⟨v,vs++rest,by rw [← ht1,ev];rfl,hvw,hv34⟩)) (objs:=objs)
 have hval:AR W 3 (.builtin "re.Pattern.search") [.top (.ref 71),.str (S t1)] objs (.mtch (S t1) 71 [Int.ofNat 0,Int.ofNat (1+val.length),Int.ofNat 1,Int.ofNat (1+val.length)]) objs :=
  BJ (x:=S t1) (Bc F.p71) (by rw [AU];exact lb (by assumption) rfl) (Rx.val_yes (text:=t1.toArray) (val:=val) (rest:=rest) ht1.symm hS1 (by rw [List.size_toArray];exact lb (by assumption) rfl) ev hv' hr) (by decide) (.inr ⟨rfl,rfl,_,_,rfl,by simp +arith only⟩)
 have hd1:t1.drop (1+val.length)=rest:=by
  rw [← ht1]
  have e2:1+val.length=(61::val).length:=by simp;simp +arith only
  rw [e2]
  exact List.drop_left (l₁:=61::val)
 have hu2:=(BV (objs:=objs) F (l:=t1) (pa:=71) (a:=0) (b:=1+val.length) (c:=1) (d:=1+val.length) (Nat.zero_le _) (by exact lin (Nat.le_of_eq (Eq.symm (by assumption))) (by simp +arith only)) (by exact lb (by assumption) rfl)).up
 rw [hd1] at hu2
 have hvs:Ar (S t1) 1 (1+val.length)=S val:=by
  rw [Bx,← ht1]
  have:1+val.length - 1=val.length:=by exact Nat.add_sub_cancel_left ..
  rw [this]
  refine (?_:S (List.take val.length (val++rest))=_)
  rw [List.take_left]
 have hrs:AR W 3 (.builtin "str.rstrip") [.str (S val)] objs (.str (S val)) objs:=by
  refine J0 ?_
  obtain ⟨l,c,e⟩:∃ l c,val=l++[c]:=by
   rcases List.eq_nil_or_concat val with q | ⟨l,c,q⟩
   ·rw [q] at ev;cases ev
   ·exact ⟨l,c,by simpa using q⟩
  have hc1:=hv' c (by rw [e];simp)
  have hcs:c∈Rx.signs:=hS1 c (by rw [← ht1,e];simp)
  rw [e]
  refine JJ ?_
  rw [sp_sign hcs]
  unfold Rx.isVal at hc1
  unfold Rx.isWs
  simp only [Bool.not_eq_true',Bool.or_eq_false_iff] at hc1
  exact hc1.1.1
 refine (AN (AW F 3 {call:=spC (.mtch (S t) 61 [Int.ofNat 0,Int.ofNat (ws.length+name.length),Int.ofNat ws.length,Int.ofNat (ws.length+name.length)]) .none (.mtch (S t1) 71 [Int.ofNat 0,Int.ofNat (1+val.length),Int.ofNat 1,Int.ofNat (1+val.length)]) t1 rest,st:=fun s st=>if (B3 s).line==39 then some (.next,⟨st.loc,objs.set j (.list (cur++[.tup [.str (S name),.str (S val)]]))⟩) else none}) (n:=30)
  (st':=⟨DQ hv (S rest) ov j (.mtch (S t1) 71 [Int.ofNat 0,Int.ofNat (1+val.length),Int.ofNat 1,Int.ofNat (1+val.length)]) (.str (Ar (S t) ws.length (ws.length+name.length))) (.str (Ar (S t1) 1 (1+val.length))),objs.set j (.list (cur++[.tup [.str (S name),.str (S val)]]))⟩)
  (o:=[ob (AP W 3 (.builtin "re.Pattern.search") [.top (.ref 61),.str (S t)] objs (.mtch (S t) 61 [Int.ofNat 0,Int.ofNat (ws.length+name.length),Int.ofNat ws.length,Int.ofNat (ws.length+name.length)]) objs),
   ob (AP W 3 (.ref 56) [.mtch (S t) 61 [Int.ofNat 0,Int.ofNat (ws.length+name.length),Int.ofNat ws.length,Int.ofNat (ws.length+name.length)]] objs (.str (S t1)) objs),
   ws.length+name.length - ws.length,
   ob (AP W 3 (.builtin "re.Pattern.search") [.top (.ref 66),.str (S t1)] objs .none objs),
   ob (AP W 3 (.builtin "re.Pattern.search") [.top (.ref 71),.str (S t1)] objs (.mtch (S t1) 71 [Int.ofNat 0,Int.ofNat (1+val.length),Int.ofNat 1,Int.ofNat (1+val.length)]) objs),
   ob (AP W 3 (.ref 56) [.mtch (S t1) 71 [Int.ofNat 0,Int.ofNat (1+val.length),Int.ofNat 1,Int.ofNat (1+val.length)]] objs (.str (S rest)) objs),
   1+val.length - 1,
   ob (AP W 3 (.builtin "str.rstrip") [.str (Ar (S t1) 1 (1+val.length))] objs (.str (Ar (S t1) 1 (1+val.length))) objs),
   ob (AH W 4 SP.sc SP.ap ⟨DQ hv (S rest) ov j (.mtch (S t1) 71 [Int.ofNat 0,Int.ofNat (1+val.length),Int.ofNat 1,Int.ofNat (1+val.length)]) (.str (Ar (S t) ws.length (ws.length+name.length))) (.str (Ar (S t1) 1 (1+val.length))),objs⟩ .next ⟨DQ hv (S rest) ov j (.mtch (S t1) 71 [Int.ofNat 0,Int.ofNat (1+val.length),Int.ofNat 1,Int.ofNat (1+val.length)]) (.str (Ar (S t) ws.length (ws.length+name.length))) (.str (Ar (S t1) 1 (1+val.length))),objs.set j (.list (cur++[.tup [.str (S name),.str (S val)]]))⟩)])
  (by kernel_rfl!) ?_).forget (.cons rfl (.cons rfl (.cons rfl (.cons rfl (.cons rfl .nil))))) rfl
 rw [hname,hvs]
 exact obs (AC (cob htok (by decide))) (obs (AC (cob hu1 (by decide))) (obs (szl (Nat.le_trans (Nat.sub_le _ _) (by exact lns hlen (lin hl (by simp +arith only))))) (obs (AC (cob hquo (by decide))) (obs (AC (cob hval (by decide))) (obs (AC (cob hu2 (by decide))) (obs (szl (Nat.le_trans (Nat.sub_le _ _) (by exact lns hlen1 (lns hlen (lin hl (by simp +arith only)))))) (obs (AC (cob hrs (by decide))) (obs (AC (Fz F hj hc rfl)) AS))))))))
theorem IY (F:KF W.K) {hv ov:AV} {j:Nat} {objs:List AO} {cur:List AV} {ws name t1:List Nat} (hj:objs[j]?=some (.list cur)) (hc:cur.length≤1000)
  (hS:Sg (ws++(name++t1))) (hl:(ws++(name++t1)).length≤10000) (hws:∀ c∈ws,Rx.isWs c=true) (hn:name≠[]) (htk:∀ c∈name,Rx.isTok c=true) (hr:t1=[]∨(∃ c r,t1=32::c::r∧Rx.isWs c=false∧(c==61)=false)) :
  A8 W 4 SP.sc (AB SP.wh) (stS hv (ws++(name++t1)) ov j objs) .next (stS hv t1 ov j (objs.set j (.list (cur++[.tup [.str (S name),.none]])))):=by
 have htok:=Hj (k:=3) F hS hl hws hn htk (by
  rcases hr with q | ⟨c,r,q,_⟩
  ·exact .inl q
  ·exact .inr ⟨32,_,q,rfl⟩) (objs:=objs)
 generalize ht:ws++(name++t1)=t at *
 have hd:t.drop (ws.length+name.length)=t1:=by rw [← ht,← List.append_assoc,← List.length_append,List.drop_left]
 have hS1:Sg t1:=fun c hc=>hS c (by rw [← ht];simp [hc])
 have hl1:t1.length≤10000:=by rw [← ht] at hl;simp at hl;exact lin (by assumption) (by simp +arith only)
 have hlen:t.length=ws.length+name.length+t1.length:=by rw [← ht];simp;simp +arith only
 have hu1:=(BV (objs:=objs) F (l:=t) (pa:=61) (a:=0) (b:=ws.length+name.length) (c:=ws.length) (d:=ws.length+name.length) (Nat.zero_le _) (by exact lin (Nat.le_of_eq (Eq.symm (by assumption))) (by simp +arith only)) (by exact lb (by assumption) rfl)).up
 rw [hd] at hu1
 have hname:Ar (S t) ws.length (ws.length+name.length)=S name:=by
  rw [Bx,← ht,List.drop_left,Nat.add_sub_cancel_left,List.take_left]
 have hquo:=Gm (k:=3) F hS1 hl1 (hr.imp id .inl) (objs:=objs)
 have hval:=Jt (k:=3) F hS1 hl1 hr (objs:=objs)
 refine (AN (AW F 3 {call:=spC (.mtch (S t) 61 [Int.ofNat 0,Int.ofNat (ws.length+name.length),Int.ofNat ws.length,Int.ofNat (ws.length+name.length)]) .none .none t1 [],st:=fun s st=>if (B3 s).line==39 then some (.next,⟨st.loc,objs.set j (.list (cur++[.tup [.str (S name),.none]]))⟩) else none}) (n:=30)
  (st':=⟨DQ hv (S t1) ov j .none (.str (Ar (S t) ws.length (ws.length+name.length))) .none,objs.set j (.list (cur++[.tup [.str (S name),.none]]))⟩)
  (o:=[ob (AP W 3 (.builtin "re.Pattern.search") [.top (.ref 61),.str (S t)] objs (.mtch (S t) 61 [Int.ofNat 0,Int.ofNat (ws.length+name.length),Int.ofNat ws.length,Int.ofNat (ws.length+name.length)]) objs),
   ob (AP W 3 (.ref 56) [.mtch (S t) 61 [Int.ofNat 0,Int.ofNat (ws.length+name.length),Int.ofNat ws.length,Int.ofNat (ws.length+name.length)]] objs (.str (S t1)) objs),
   ws.length+name.length - ws.length,
   ob (AP W 3 (.builtin "re.Pattern.search") [.top (.ref 66),.str (S t1)] objs .none objs),
   ob (AP W 3 (.builtin "re.Pattern.search") [.top (.ref 71),.str (S t1)] objs .none objs),
   ob (AH W 4 SP.sc SP.ap ⟨DQ hv (S t1) ov j .none (.str (Ar (S t) ws.length (ws.length+name.length))) .none,objs⟩ .next ⟨DQ hv (S t1) ov j .none (.str (Ar (S t) ws.length (ws.length+name.length))) .none,objs.set j (.list (cur++[.tup [.str (S name),.none]]))⟩)])
  (by kernel_rfl!) ?_).forget (.cons rfl (.cons rfl (.cons rfl (.cons rfl (.cons rfl .nil))))) rfl
 rw [hname]
 exact obs (AC (cob htok (by decide))) (obs (AC (cob hu1 (by decide))) (obs (szl (Nat.le_trans (Nat.sub_le _ _) (by exact lns hlen (lin hl (by simp +arith only))))) (obs (AC (cob hquo (by decide))) (obs (AC (cob hval (by decide))) (obs (AC (Fz F hj hc rfl)) AS)))))
end
noncomputable def dC (jr:List Nat):Value→List AV→List AO→Option (AV×List AO):=fun f args objs=>match f,args with
 | .builtin n,[.top (.ref _),_]=>if n=="re.Pattern.search" then some (.none,objs) else none
 | .builtin n,[.str x]=>if n=="str.lstrip" then some (.str x,objs) else none
 | .builtin n,[.top (.ref _),.str _,.str _]=>if n=="re.Pattern.subn" then some (.tup [.str (S jr),.int 1],objs) else none
 | _,_=>none
noncomputable abbrev SP.i2:=nth (BD SP.i1) 0
noncomputable abbrev SP.i3:=nth (AB SP.i2) 1
noncomputable abbrev SP.i4:=nth (AB SP.fo) 3
section
variable {W:Wd} {k:Nat}
theorem Gl (F:KF W.K) {c:Nat} {r:List Nat} (hS:Sg (c::r)) (hl:(c::r).length≤10000) (h1:Rx.isWs c=false) (h2:Rx.isTok c=false) {objs:List AO}:AR W k (.builtin "re.Pattern.search") [.top (.ref 61),.str (S (c::r))] objs .none objs :=
 BJ (x:=S (c::r)) (r:=none) (Bc F.p61) (by rw [AU];exact lb (by assumption) rfl) (Rx.tok_no (text:=(c::r).toArray) rfl hS (by rw [List.size_toArray];exact lb (by assumption) rfl) h1 h2) (by rw [List.size_toArray];exact lb (Nat.add_le_add_right (Nat.mul_le_mul_left _ hl) _) rfl) trivial
theorem Ju (F:KF W.K) {hv ov:AV} {j:Nat} {objs:List AO} {cur res:List AV} {r:List Nat} (hj:objs[j]?=some (.list cur)) (h0:objs[0]?=some (.list res)) (hcn:cur.isEmpty=false) (hrl:res.length≤1000) (hS:Sg (44::r)) (hl:(44::r).length≤10000) :
  A8 W 4 SP.sc (AB SP.wh) (stS hv (44::r) ov j objs) .next (stS hv r ov (objs.set 0 (.list (res++[.own j]))).length (objs.set 0 (.list (res++[.own j]))++[.list []])):=by
 have hno:=Gl (k:=3) F hS hl (by decide) (by decide) (objs:=objs)
 have hls:AR W 3 (.builtin "str.lstrip") [.str (S (44::r))] objs (.str (S (44::r))) objs:=Fj (F8 (by decide +kernel))
 have hs1:Txt.slice (S (44::r)) (some 1) none=S r:=Ge (l:=44::r) (n:=1) (by simp)
 have ec:(",":Str)=S [44]:=by kernel_rfl!
 have hif:AH W 4 SP.sc SP.i3 ⟨FX hv (S r) ov j++[(("m":Str),.none)],objs⟩ .next ⟨FX hv (S r) ov j++[(("m":Str),.none)],objs.set 0 (.list (res++[.own j]))⟩:=by
  have:=AH.ifApp (W:=W) (k:=3) (sc:=SP.sc) (st:=⟨FX hv (S r) ov j++[(("m":Str),.none)],objs⟩) F (s:=SP.i3) (a:=nth (AB SP.i3) 0) (j:=j) (xs:=cur) (res:=res) (o:=(match nth (AB SP.i3) 0 with | .Expr (.Call (.Attribute o _ _) _ _ _) _=>o | _=>default)) (x:=(match nth (AB SP.i3) 0 with | .Expr (.Call _ [a] _ _) _=>a | _=>default))
   (by kernel_rfl!) (by kernel_rfl!) (by kernel_rfl!) (by kernel_rfl!) (by kernel_rfl!) (AQ F {} (n:=10) (by kernel_rfl!)) (AQ F {} (n:=10) (by kernel_rfl!)) (AQ F {} (n:=10) (by kernel_rfl!)) hj h0 hrl
  rw [hcn] at this
  exact this
 refine (AN (AW F 3 {call:=dC [],hint:=fun l ζ=>if l==40 then some true else none,st:=fun s st=>if (B3 s).line==42 then some (.next,⟨st.loc,objs.set 0 (.list (res++[.own j]))⟩) else none}) (n:=30)
  (st':=⟨[("header_values",hv),("result",.own 0),("text",.str (Txt.slice (S (44::r)) (some 1) none)),("orig_text",ov),("pairs",.own (objs.set 0 (.list (res++[.own j]))).length),("m",.none)],objs.set 0 (.list (res++[.own j]))++[.list []]⟩)
  (o:=[ob (AP W 3 (.builtin "re.Pattern.search") [.top (.ref 61),.str (S (44::r))] objs .none objs),ob (AP W 3 (.builtin "str.lstrip") [.str (S (44::r))] objs (.str (S (44::r))) objs),ob (Txt.startswith (S (44::r)) ","=true),
   ob (AP W 3 (.builtin "str.lstrip") [.str (S (44::r))] objs (.str (S (44::r))) objs),
   ob (AH W 4 SP.sc SP.i3 ⟨FX hv (Txt.slice (S (44::r)) (some 1) none) ov j++[(("m":Str),.none)],objs⟩ .next ⟨FX hv (Txt.slice (S (44::r)) (some 1) none) ov j++[(("m":Str),.none)],objs.set 0 (.list (res++[.own j]))⟩)])
  (by kernel_rfl!) ?_).forget ?_ rfl
 ·rw [hs1]
  exact obs (AC (cob hno (by decide))) (obs (AC (cob hls (by decide))) (obs (AC (by rw [ec,Eg];rfl)) (obs (AC (cob hls (by decide))) (obs (AC hif) AS))))
 ·rw [hs1]
  exact .cons rfl (.cons rfl (.cons rfl (.cons rfl (.cons rfl .nil))))
theorem sp_junk (F:KF W.K) {hv ov:AV} {j:Nat} {objs:List AO} {xs rest:List Nat} (hS:Sg (59::(xs++rest))) (hl:(59::(xs++rest)).length≤10000) (hx:∀ c∈xs,Rx.isJunk c=true) (hr:rest=[]∨∃ c r,rest=c::r∧Rx.isJunk c=false) :
  A8 W 4 SP.sc (AB SP.wh) (stS hv (59::(xs++rest)) ov j objs) .next (stS hv rest ov j objs):=by
 have hno:=Gl (k:=3) F hS hl (by decide) (by decide) (objs:=objs)
 have hls:AR W 3 (.builtin "str.lstrip") [.str (S (59::(xs++rest)))] objs (.str (S (59::(xs++rest)))) objs:=Fj (F8 (by decide +kernel))
 have ec:(",":Str)=S [44]:=by kernel_rfl!
 have ee:("":Str)=S []:=by kernel_rfl!
 have hsn:AR W 3 (.builtin "re.Pattern.subn") [.top (.ref 49),.str "",.str (S (59::(xs++rest)))] objs (.tup [.str (S rest),.int 1]) objs:=by
  generalize ht:59::(xs++rest)=t at *
  have hsz:t.toArray.size=t.length:=List.size_toArray
  have hlen:t.length=1+xs.length+rest.length:=by rw [← ht];simp;simp +arith only
  have hy:=Rx.junk_yes (text:=t.toArray) (xs:=59::xs) (rest:=rest) (by rw [← ht];rfl) hS (by exact lb (by assumption) rfl) (fun c hc=>by
   rcases List.mem_cons.mp hc with rfl | hc
   ·rfl
   ·exact hx c hc) hr
  have hstop:=Az.stop (code:=Rx.c49) (groups:=0) (x:=S t) (g:=fun ζ=>"") (G:=fun ζ=>True) (n:=1) (Rx.junk_no (text:=t.toArray) (p:=(59::xs).length) (by simp) (by rw [hsz,hlen];simp;simp +arith only)) (by exact lb (Nat.add_le_add_right (Nat.mul_le_mul_left _ hl) _) rfl)
  have hgo:=Az.go (code:=Rx.c49) (groups:=0) (x:=S t) (g:=fun ζ=>"") (G:=fun ζ=>True) (d:=0) (n:=0) hy (by decide) (.inl ⟨rfl,rfl⟩) trivial (by simp) hstop
  have hs:(S t).cps.size=(59::xs).length+rest.length:=by refine (?_:t.toArray.size=_);rw [hsz,hlen];simp;simp +arith only
  have hd:t.drop (59::xs).length=rest:=by rw [← ht];exact List.drop_left (l₁:=59::xs)
  rw [HP (ys:=[]) (by rw [List.append_nil];exact hd) hs,if_neg (by exact Nat.lt_irrefl _)] at hgo
  have e1:([]++(("":Str)::(if (59::xs).length<(S t).cps.size then [rest] else []).map S):List Str)=([]::(if (59::xs).length<(S t).cps.size then [rest] else [])).map S:=by
   rw [ee];rfl
  rw [e1] at hgo
  have hfl:([]::(if (59::xs).length<(S t).cps.size then [rest] else [])).flatten=rest:=by
   rw [List.flatten_cons,List.nil_append,Da hs]
  have:=fn_subn (W:=W) (k:=2) (objs:=objs) (Bc F.p49) (by rw [AU];exact lb (by assumption) rfl) hgo (by rw [CT,hfl];exact (lns hlen (lin hl (by simp +arith only)))) (by rw [List.length_map,List.length_cons];split <;> simp)
  have hj:Txt.join "" (([]::(if (59::xs).length<(S t).cps.size then [rest] else [])).map S)=S rest:=by
   rw [ee,Cq,DB,hfl]
  rw [hj] at this
  exact this
 refine (AN (AW F 3 {call:=dC rest,hint:=fun l ζ=>if l==40 then some false else none}) (n:=30)
  (st':=⟨FX hv (S rest) ov j++[(("m":Str),.none),(("non_junk":Str),.str (S rest)),(("nr_junk_chars":Str),.int 1)],objs⟩)
  (o:=[ob (AP W 3 (.builtin "re.Pattern.search") [.top (.ref 61),.str (S (59::(xs++rest)))] objs .none objs),ob (AP W 3 (.builtin "str.lstrip") [.str (S (59::(xs++rest)))] objs (.str (S (59::(xs++rest)))) objs),ob (Txt.startswith (S (59::(xs++rest))) ","=false),
   ob (AP W 3 (.builtin "re.Pattern.subn") [.top (.ref 49),.str "",.str (S (59::(xs++rest)))] objs (.tup [.str (S rest),.int 1]) objs)])
  (by kernel_rfl!) ?_).forget (.cons rfl (.cons rfl (.cons rfl (.cons rfl (.cons rfl .nil))))) rfl
 exact obs (AC (cob hno (by decide))) (obs (AC (cob hls (by decide))) (obs (AC (by rw [ec,Eg];rfl)) (obs (AC (cob hsn (by decide))) AS)))
theorem D3 (F:KF W.K) {hv ov:AV} {j:Nat} {objs:List AO} {t:List Nat}:AL W 4 SP.sc (exprS SP.wh) (stS hv t ov j objs) (!t.isEmpty) (stS hv t ov j objs):=by
 have e:(!t.isEmpty)=((S t).length != 0):=by
  rw [AU]
  induction t using List.casesOn <;> simp
 rw [e]
 exact CN F {} (n:=10) (by kernel_rfl!)
end
noncomputable abbrev WR (W:Wd):=BF W 4 SP.sc (exprS SP.wh) (AB SP.wh) (BD SP.wh)
noncomputable def prL (p:List Nat×List Nat):List AV:=[.tup [.str (S [109]),.str (S p.1)],.tup [.str (S [110]),.str (S p.2)]]
noncomputable def DN (n:Nat):List AV:=(List.range n).map fun i=>.own (i+1)
noncomputable def lg (done:List (List AV)) (cur:List AV):List AO:=.list (DN done.length)::(done.map .list++[.list cur])
theorem EC (n:Nat):DN (n+1)=DN n++[.own (n+1)]:=by unfold DN;rw [List.range_succ,List.map_append];rfl
theorem GO (done:List (List AV)) (cur:List AV):(lg done cur).length=done.length+2:=by simp [lg]
theorem JT (done:List (List AV)) (cur:List AV):(lg done cur)[done.length+1]?=some (.list cur):=by simp [lg]
theorem Ht (done:List (List AV)) (cur cur':List AV):(lg done cur).set (done.length+1) (.list cur')=lg done cur':=by
 unfold lg
 rw [List.set_cons_succ,List.set_append_right _ _ (by simp)]
 simp
theorem K5 (done:List (List AV)) (cur:List AV):(lg done cur).set 0 (.list (DN done.length++[.own (done.length+1)]))++[.list []]=lg (done++[cur]) []:=by
 unfold lg
 rw [List.set_cons_zero,← EC]
 simp
noncomputable def datL' (xs:List AV):Prop:=∀ n,AV.ltL n xs=true
theorem lg_lt {done:List (List AV)} {cur:List AV} (hd:∀ d∈done,datL' d) (hc:datL' cur):((lg done cur).all (AO.lt (lg done cur).length))=true:=by
 rw [GO]
 unfold lg
 rw [List.all_cons,List.all_append,Bool.and_eq_true,Bool.and_eq_true]
 refine ⟨?_,?_,?_⟩
 ·refine (?_:AV.ltL _ (DN done.length)=true)
  have:∀ m k,m≤k→AV.ltL (k+1) (DN m)=true:=by
   intro m
   induction m with
   | zero=>intro k _;rfl
   | succ m ih =>
    intro k hk
    rw [EC]
    have app:∀ (n:Nat) (a b:List AV),AV.ltL n a=true→AV.ltL n b=true→AV.ltL n (a++b)=true:=by
     intro n a b
     induction a with
     | nil=>intro _ h;exact h
     | cons x a ih =>
      intro h1 h2
      have h1':(AV.lt n x&&AV.ltL n a)=true:=h1
      rw [Bool.and_eq_true] at h1'
      refine (?_:(AV.lt n x&&AV.ltL n (a++b))=true)
      rw [h1'.1,ih h1'.2 h2];rfl
    refine app _ _ _ (ih k (by exact lin (by assumption) (by simp +arith only))) ?_
    refine (?_:(decide (m+1<k+1)&&true)=true)
    rw [decide_eq_true (by exact lin (by assumption) (by simp +arith only))];rfl
  exact this _ (done.length+1) (by simp +arith only)
 ·rw [List.all_map,List.all_eq_true]
  exact fun d h=>hd d h _
 ·refine (?_:(AV.ltL _ cur&&true)=true)
  rw [hc];rfl
theorem HK {c:Nat} (h:Rx.isJoin c=true):Rx.isVal c=true∧(c==34)=false:=by
 unfold Rx.isJoin at h
 unfold Rx.isVal
 simp only [Bool.not_eq_true',Bool.or_eq_false_iff] at h ⊢
 exact ⟨⟨⟨h.1.1.1.1.2,h.1.1.1.2⟩,h.1.1.2⟩,h.1.1.1.1.1.1⟩
section
variable {W:Wd} {k:Nat}
theorem wgo (F:KF W.K) {hv ov:AV} {j:Nat} {objs:List AO} {t:List Nat} {st' st'':ST} {f:AF} (hne:t.isEmpty=false) (hx:A8 W 4 SP.sc (AB SP.wh) (stS hv t ov j objs) .next st') (hr:WR W st' f st''):WR W (stS hv t ov j objs) f st'':=by
 have:=D3 F (hv:=hv) (ov:=ov) (j:=j) (objs:=objs) (t:=t)
 rw [hne] at this
 exact .go this hx (.inl rfl) hr
theorem locS_lt {n:Nat} {hv ov:AV} {t:Str} {j:Nat} (h1:AV.lt n hv=true) (h2:AV.lt n ov=true) (h0:0<n) (hj:j<n):((FX hv t ov j).all fun e=>AV.lt n e.2)=true:=by
 have e0:AV.lt n (.own 0)=true:=decide_eq_true h0
 have ej:AV.lt n (.own j)=true:=decide_eq_true hj
 have et:AV.lt n (.str t)=true:=rfl
 simp only [List.all_cons,List.all_nil,h1,h2,e0,ej,et,Bool.and_self]
theorem IX (F:KF W.K) (N:NF W) {hv ov:AV} {done:List (List AV)} {cur:List AV} {ws w rest:List Nat} {kc:Nat} (hk:Rx.isTok kc=true) (hd:∀ d∈done,datL' d) (hcd:datL' cur) (hc:cur.length≤1000)
  (hS:Sg (ws++([kc]++(61::(AD w (A0 w)++rest))))) (hl:(ws++([kc]++(61::(AD w (A0 w)++rest)))).length≤10000) (hws:∀ c∈ws,Rx.isWs c=true) (hr:rest=[]∨∃ c r,rest=c::r∧Rx.isVal c=false) (hhv:AV.lt (lg done cur).length hv=true) (hov:AV.lt (lg done cur).length ov=true) :
  A8 W 4 SP.sc (AB SP.wh) (stS hv (ws++([kc]++(61::(AD w (A0 w)++rest)))) ov (done.length+1) (lg done cur)) .next (stS hv rest ov (done.length+1) (lg done (cur++[.tup [.str (S [kc]),.str (S w)]]))):=by
 rw [← Ht done cur (cur++[AV.tup [AV.str (S [kc]),AV.str (S w)]])]
 cases hb:A0 w with
 | true =>
  rw [hb] at hS hl
  unfold A0 at hb
  rw [Bool.and_eq_true,List.all_eq_true] at hb
  have ew:AD w true=w:=rfl
  rw [ew] at hS hl ⊢
  refine sp_bare F (JT done cur) hc hS hl hws (by simp) (fun c h=>by rw [List.mem_singleton.mp h];exact hk) ?_ (fun c h=>(HK (hb.2 c h)).1) hr
  induction w using List.casesOn with
  | nil=>exact absurd hb.1 (by simp)
  | cons v vs=>exact ⟨v,vs,rfl,(HK (hb.2 v (.head _))).2⟩
 | false =>
  rw [hb] at hS hl
  have ew:61::(AD w false++rest)=61::34::(w.flatMap A3++34::rest):=by simp [AD]
  rw [ew] at hS hl ⊢
  refine JF F N (JT done cur) hc hS hl hws (by simp) (fun c h=>by rw [List.mem_singleton.mp h];exact hk) ?_ (lg_lt hd hcd)
  exact locS_lt hhv hov (by rw [GO];simp +arith only) (by rw [GO];simp +arith only)
theorem Ku (p:List Nat×List Nat) (rest:List Nat):A5 p++rest=[109]++(61::(AD p.1 (A0 p.1)++(59::([32]++([110]++(61::(AD p.2 (A0 p.2)++rest))))))):=by
 simp [A5,A7]
theorem D4 {a b:List Nat} (h:Sg a) (hs:∀ c∈b,c∈a):Sg b:=fun c hc=>h c (hs c hc)
theorem Gn (F:KF W.K) (N:NF W) {hv ov:AV} {done:List (List AV)} {ws rest:List Nat} {p:List Nat×List Nat} {f:AF} {st'':ST} (hd:∀ d∈done,datL' d)
  (hS:Sg (ws++(A5 p++rest))) (hl:(ws++(A5 p++rest)).length≤10000) (hws:∀ c∈ws,Rx.isWs c=true) (hr:rest=[]∨∃ c r,rest=c::r∧Rx.isVal c=false) (hhv:∀ n,AV.lt n hv=true) (hov:∀ n,AV.lt n ov=true)
  (h:WR W (stS hv rest ov (done.length+1) (lg done (prL p))) f st''):WR W (stS hv (ws++(A5 p++rest)) ov (done.length+1) (lg done [])) f st'':=by
 rw [Ku] at hS hl ⊢
 have hS2:Sg (59::([32]++([110]++(61::(AD p.2 (A0 p.2)++rest))))):=D4 hS (by simp;intros;simp_all)
 have hS3:Sg ([]++([110]++(61::(AD p.2 (A0 p.2)++rest)))):=D4 hS2 (by simp;intros;simp_all)
 have hl2:(59::([32]++([110]++(61::(AD p.2 (A0 p.2)++rest))))).length≤10000:=by simp at hl ⊢;exact lin (by assumption) (by simp +arith only)
 refine wgo F (by induction ws using List.casesOn <;> rfl) (IX F N (by decide) hd (fun ζ=>rfl) (by decide) hS hl hws (.inr ⟨59,_,rfl,rfl⟩) (hhv _) (hov _)) ?_
 refine wgo F rfl (sp_junk F hS2 hl2 (fun c hc=>by rw [List.mem_singleton.mp hc];rfl) (.inr ⟨110,_,rfl,rfl⟩)) ?_
 exact wgo F rfl (IX F N (ws:=[]) (by decide) hd (fun ζ=>rfl) (by simp) hS3 (by simp at hl2 ⊢;exact lb (by assumption) rfl) (fun c h=>nomatch h) hr (hhv _) (hov _)) h
end
end Mine
namespace Mine
open PySem PySem.W PyProof.Rows PySem.Calls PySem.Spec
variable [T₀:AY]
section
variable {W:Wd} {k:Nat}
theorem prL_dat (p:List Nat×List Nat):datL' (prL p):=fun ζ=>rfl
theorem Js (F:KF W.K) (N:NF W) {hv ov:AV} (hhv:∀ n,AV.lt n hv=true) (hov:∀ n,AV.lt n ov=true):∀ (ps:List (List Nat×List Nat)) (p:List Nat×List Nat) (done:List (List Nat×List Nat)) (ws:List Nat),Sg (ws++Ad (p::ps))→(ws++Ad (p::ps)).length≤10000→(∀ c∈ws,Rx.isWs c=true)→done.length+ps.length≤100 →
  ∃ dn q,done++p::ps=dn++[q]∧WR W (stS hv (ws++Ad (p::ps)) ov (done.length+1) (lg (done.map prL) [])) .next (stS hv [] ov (dn.length+1) (lg (dn.map prL) (prL q))):=by
 have hdat:∀ (done:List (List Nat×List Nat)),∀ d∈done.map prL,datL' d:=fun done d hd=>by
  refine AG (List.mem_map.mp hd) fun p ζ r2_=>?_;subst r2_
  exact prL_dat p
 intro ps
 induction ps with
 | nil =>
  intro p done ws hS hl hws hn
  refine ⟨done,p,rfl,?_⟩
  have e:Ad [p]=A5 p++[]:=by simp [Ad,A7]
  rw [e] at hS hl ⊢
  have h:=Gn F N (hv:=hv) (ov:=ov) (done:=done.map prL) (ws:=ws) (rest:=[]) (p:=p) (f:=.next) (st'':=stS hv [] ov (done.length+1) (lg (done.map prL) (prL p))) (hdat done) hS hl hws (.inl rfl) hhv hov
  rw [List.length_map] at h
  refine h (.stop ?_ .nil)
  exact D3 F
 | cons p' ps ih =>
  intro p done ws hS hl hws hn
  rw [List.length_cons] at hn
  have e:Ad (p::p'::ps)=A5 p++(44::([32]++Ad (p'::ps))):=by simp [Ad,A7]
  rw [e] at hS hl ⊢
  have hS2:Sg (44::([32]++Ad (p'::ps))):=D4 hS (by simp;intros;simp_all)
  have hl2:(44::([32]++Ad (p'::ps))).length≤10000:=by simp at hl ⊢;exact lin (by assumption) (by simp +arith only)
  refine Bl (ih p' (done++[p]) [32] (D4 hS2 (by simp;intros;simp_all)) (by simp at hl2 ⊢;exact lb (by assumption) rfl) (fun c hc=>by rw [List.mem_singleton.mp hc];rfl) (by simp;exact (lin hn (by simp +arith only)))) fun dn q e1 hw=>?_
  refine ⟨dn,q,by rw [← e1];simp,?_⟩
  have h:=Gn F N (hv:=hv) (ov:=ov) (done:=done.map prL) (ws:=ws) (rest:=44::([32]++Ad (p'::ps))) (p:=p) (f:=.next) (st'':=stS hv [] ov (dn.length+1) (lg (dn.map prL) (prL q))) (hdat done) hS hl hws (.inr ⟨44,_,rfl,rfl⟩) hhv hov
  rw [List.length_map] at h
  refine h (wgo F rfl (Ju F (cur:=prL p) (res:=DN (done.map prL).length) (by have:=JT (done.map prL) (prL p);rw [List.length_map] at this;exact this) rfl rfl (by simp [DN];exact Nat.le_trans (Nat.le_add_right _ _) (lb hn rfl)) hS2 hl2) ?_)
  have ec:=K5 (done.map prL) (prL p)
  rw [List.length_map] at ec
  rw [List.length_map,ec,List.length_set,GO,List.length_map]
  have el:(done++[p]).length+1=done.length+2:=by simp
  rw [el,List.map_append] at hw
  exact hw
theorem ice_dat {n:Nat} {objs:List AO} {xs:List AV} {m:Nat} (h:∀ fu,m≤fu→CQ n objs fu xs=some xs) (fu:Nat) (hf:m+1≤fu) {i:Nat} (hi:objs[i]?=some (.list xs)) (hn:n≤i):ice n objs fu (.own i)=some (.lst xs):=by
 obtain ⟨f,rfl⟩:∃ f,fu=f+1:=⟨fu - 1,by exact (Nat.sub_add_cancel (Nat.le_trans (Nat.le_add_left _ _) hf)).symm⟩
 rw [GT,if_neg (Nat.not_lt.mpr hn),hi]
 refine (?_:(CQ n objs f xs).map AV.lst=_)
 rw [h f (Nat.le_of_succ_le_succ hf)]
 rfl
theorem Fd {objs:List AO} {m:Nat}:∀ (xss:List (List AV)) (i fu:Nat),(∀ xs∈xss,∀ fu,m≤fu→CQ 0 objs fu xs=some xs)→(∀ k xs,xss[k]?=some xs→objs[i+k+1]?=some (.list xs))→xss.length+m+2≤fu→CQ 0 objs fu ((List.range' i xss.length).map fun i=>.own (i+1))=some (xss.map .lst)
 | [],i,fu,_,_,hf=>by
  obtain ⟨f,rfl⟩:∃ f,fu=f+1:=⟨fu - 1,(Nat.sub_add_cancel (Nat.le_trans (Nat.le_add_left 1 _) hf)).symm⟩
  rfl
 | xs::xss,i,fu,h1,h2,hf=>by
  rw [List.length_cons] at hf
  obtain ⟨f,rfl⟩:∃ f,fu=f+1:=⟨fu - 1,(Nat.sub_add_cancel (Nat.le_trans (Nat.le_add_left 1 _) hf)).symm⟩
  rw [List.length_cons,List.range'_succ,List.map_cons]
  refine (?_:((ice 0 objs f (.own (i+1))).bind fun y=>(CQ 0 objs f ((List.range' (i+1) xss.length).map fun i=>.own (i+1))).map (y::·))=_)
  rw [ice_dat (h1 xs (.head _)) f (by exact lin (by assumption) (by simp +arith only)) (h2 0 xs rfl) (by simp +arith only),Fd xss (i+1) f (fun x hx=>h1 x (.tail _ hx)) (fun k x hk=>by have:=h2 (k+1) x hk;rw [show i+1+k+1=i+(k+1)+1 by simp +arith only];exact this) (by exact lin (by assumption) (by simp +arith only))]
  rfl
theorem prL_ice (p:List Nat×List Nat) {objs:List AO}:∀ fu,10≤fu→CQ 0 objs fu (prL p)=some (prL p):=fun fu h=>by
 obtain ⟨m,rfl⟩:∃ m,fu=m+10:=⟨fu - 10,by exact (Nat.sub_add_cancel h).symm⟩
 rfl
end
end Mine
end
section
set_option maxRecDepth 10000
namespace Mine
open PySem PySem.W PyProof.Rows PySem.Calls PySem.Spec
variable [T₀:AY]
section
variable {W:Wd} {k:Nat}
noncomputable def Bj (dn:List (List AV)) (cur:List AV):List AO:=if cur.isEmpty then lg dn cur else (lg dn cur).set 0 (.list (DN dn.length++[.own (dn.length+1)]))
noncomputable def C8 (dn:List (List AV)) (cur:List AV):List (List AV):=if cur.isEmpty then dn else dn++[cur]
set_option tactic.hygienic true in
theorem IZ (F:KF W.K) {t:List Nat} {dn:List (List AV)} {cur:List AV} {objs:List AO} (hd:dn.length≤100) (hice:∀ xs∈C8 dn cur,∀ (objs:List AO) fu,200≤fu→CQ 0 objs fu xs=some xs)
  (hw:WR W (stS (.lst [.str (S t)]) t (.str (S t)) 1 (lg [] [])) .next (stS (.lst [.str (S t)]) [] (.str (S t)) (dn.length+1) (lg dn cur))):AR W 6 (.ref 83) [.lst [.str (S t)]] objs (.lst ((C8 dn cur).map .lst)) objs:=by
 have hwh:AH W 4 SP.sc SP.wh (stS (.lst [.str (S t)]) t (.str (S t)) 1 [.list [],.list []]) .next (stS (.lst [.str (S t)]) [] (.str (S t)) (dn.length+1) (lg dn cur)):=CM (by kernel_rfl!) hw
 have hif:AH W 4 SP.sc SP.i4 (stS (.lst [.str (S t)]) [] (.str (S t)) (dn.length+1) (lg dn cur)) .next (stS (.lst [.str (S t)]) [] (.str (S t)) (dn.length+1) (Bj dn cur)) :=
  AH.ifApp (W:=W) (k:=3) (sc:=SP.sc) (st:=stS (.lst [.str (S t)]) [] (.str (S t)) (dn.length+1) (lg dn cur)) F (s:=SP.i4) (a:=nth (AB SP.i4) 0) (j:=dn.length+1) (xs:=cur) (res:=DN dn.length) (o:=(match nth (AB SP.i4) 0 with | .Expr (.Call (.Attribute o _ _) _ _ _) _=>o | _=>default)) (x:=(match nth (AB SP.i4) 0 with | .Expr (.Call _ [a] _ _) _=>a | _=>default))
   (by kernel_rfl!) (by kernel_rfl!) (by kernel_rfl!) (by kernel_rfl!) (by kernel_rfl!) (AQ F {} (n:=10) (by kernel_rfl!)) (AQ F {} (n:=10) (by kernel_rfl!)) (AQ F {} (n:=10) (by kernel_rfl!)) (JT dn cur) rfl (by simp [DN];exact lb (by assumption) rfl)
 have hbody:A8 W 4 SP.sc (AB SP.fo) ⟨[("header_values",.lst [.str (S t)]),("result",.own 0),("text",.str (S t))],[.list []]⟩ .next ⟨[("header_values",.lst [.str (S t)]),("result",.own 0)],Bj dn cur⟩ :=
  (AN (AW F 3 {st:=fun s ζ=>if (B3 s).line==21 then some (.next,stS (.lst [.str (S t)]) [] (.str (S t)) (dn.length+1) (lg dn cur)) else if (B3 s).line==49 then some (.next,stS (.lst [.str (S t)]) [] (.str (S t)) (dn.length+1) (Bj dn cur)) else none}) (n:=20)
   (st':=stS (.lst [.str (S t)]) [] (.str (S t)) (dn.length+1) (Bj dn cur))
   (o:=[ob (AH W 4 SP.sc SP.wh (stS (.lst [.str (S t)]) t (.str (S t)) 1 [.list [],.list []]) .next (stS (.lst [.str (S t)]) [] (.str (S t)) (dn.length+1) (lg dn cur))),ob (AH W 4 SP.sc SP.i4 (stS (.lst [.str (S t)]) [] (.str (S t)) (dn.length+1) (lg dn cur)) .next (stS (.lst [.str (S t)]) [] (.str (S t)) (dn.length+1) (Bj dn cur)))])
   (by kernel_rfl!) (obs (AC hwh) (obs (AC hif) AS))).forget (.cons rfl (.cons rfl .nil)) rfl
 have hfor:AH W 4 SP.sc SP.fo ⟨[("header_values",.lst [.str (S t)]),("result",.own 0)],[.list []]⟩ .next ⟨[("header_values",.lst [.str (S t)]),("result",.own 0)],Bj dn cur⟩ :=
  Df (v:=.lst [.str (S t)]) (by kernel_rfl!) (fun ζ ζ=>by kernel_rfl!) (AQ F {} (n:=10) (by kernel_rfl!)) rfl (.go (.at (x:="text") (by kernel_rfl!) (by kernel_rfl!)) hbody (.inl rfl) (.stop .nil))
 have h:=Bv (k:=3) (x:="header_values") (v:=.lst [.str (S t)]) (objs:=[]) (n:=20) (fl:=.ret (.own 0)) (st':=⟨[("header_values",.lst [.str (S t)]),("result",.own 0)],Bj dn cur⟩)
  (o:=[ob (AH W 4 SP.sc SP.fo ⟨[("header_values",.lst [.str (S t)]),("result",.own 0)],[.list []]⟩ .next ⟨[("header_values",.lst [.str (S t)]),("result",.own 0)],Bj dn cur⟩)]) F F.f83
  {st:=fun s ζ=>if (B3 s).line==18 then some (.next,⟨[("header_values",.lst [.str (S t)]),("result",.own 0)],Bj dn cur⟩) else none}
  (by kernel_rfl!) (by intro pm c v;kernel_rfl!) (by kernel_rfl!) (obs (AC hfor) AS)
 refine AR.frame (AR.iced (objs:=[]) (tail:=Bj dn cur) (fu:=1000) h.ok.up ?_) rfl
 refine (?_:ice 0 (Bj dn cur) 1000 (.own 0)=_)
 have hl:(C8 dn cur).length≤101:=by unfold C8;split;exact lb (by assumption) rfl;rw [List.length_append];exact Nat.succ_le_succ hd
 have h0:(Bj dn cur)[0]?=some (.list ((List.range' 0 (C8 dn cur).length).map fun i=>.own (i+1))):=by
  unfold Bj C8
  split
  ·refine (?_:some (AO.list (DN dn.length))=_)
   unfold DN;rw [List.range_eq_range']
  ·unfold lg
   rw [List.set_cons_zero]
   refine (?_:some (AO.list _)=_)
   rw [← EC]
   unfold DN;rw [List.range_eq_range',List.length_append];rfl
 have hk:∀ k xs,(C8 dn cur)[k]?=some xs→(Bj dn cur)[0+k+1]?=some (.list xs):=by
  intro k xs hx
  rw [Nat.zero_add]
  have hget:∀ (o:AO),(o::(dn.map AO.list++[AO.list cur]))[k+1]?=(dn.map AO.list++[AO.list cur])[k]?:=fun o=>rfl
  have hm:dn.map AO.list++[AO.list cur]=(dn++[cur]).map AO.list:=by simp
  unfold Bj C8 at *
  split at hx
  ·rename_i hc
   rw [if_pos hc]
   unfold lg
   rw [hget,hm,List.getElem?_map,List.getElem?_append_left (List.getElem?_eq_some_iff.mp hx).1,hx];rfl
  ·rename_i hc
   rw [if_neg hc]
   unfold lg
   rw [List.set_cons_zero,hget,hm,List.getElem?_map,hx];rfl
 refine (GT (f:=999)).trans ?_
 rw [if_neg (by decide),h0]
 refine (?_:(CQ 0 (Bj dn cur) 999 _).map AV.lst=_)
 rw [Fd (m:=200) (C8 dn cur) 0 999 (fun xs hx fu hf=>hice xs hx _ fu hf) hk (by exact lin (by assumption) (by simp +arith only))]
 rfl
theorem LH (F:KF W.K) (N:NF W) {ps:List (List Nat×List Nat)} (hS:Sg (Ad ps)) (hl:(Ad ps).length≤10000) (hn:ps.length≤50) {objs:List AO}:AR W 6 (.ref 83) [.lst [.str (S (Ad ps))]] objs (.lst (ps.map fun p=>.lst (prL p))) objs:=by
 induction ps using List.casesOn with
 | nil =>
  exact IZ F (t:=[]) (dn:=[]) (cur:=[]) (by decide) (fun xs hx=>nomatch hx) (.stop (D3 F) .nil)
 | cons p ps =>
  refine Bl (Js F N (hv:=.lst [.str (S (Ad (p::ps)))]) (ov:=.str (S (Ad (p::ps)))) (fun ζ=>rfl) (fun ζ=>rfl) ps p [] [] hS hl (fun c h=>nomatch h) (by simp at hn ⊢;exact lb (by assumption) rfl)) fun dn q e h=>?_
  have hdn:dn.length≤100:=by
   have:=congrArg List.length e
   simp at this hn
   exact Nat.le_trans (Nat.le_of_eq this.symm) (lb hn rfl)
  have hall:C8 (dn.map prL) (prL q)=(p::ps).map prL:=by
   have:C8 (dn.map prL) (prL q)=dn.map prL++[prL q]:=rfl
   rw [this]
   have e':p::ps=dn++[q]:=e
   rw [e',List.map_append];rfl
  have h':=IZ F (t:=Ad (p::ps)) (dn:=dn.map prL) (cur:=prL q) (objs:=objs) (by rw [List.length_map];exact hdn) (fun xs hx objs fu hf=>by
   rw [hall] at hx
   refine AG (List.mem_map.mp hx) fun r ζ r2_=>?_;subst r2_
   exact prL_ice r fu (by exact lin (by assumption) (by simp +arith only))) (by rw [List.length_map];exact h)
  rw [hall,List.map_map] at h'
  exact h'
end
section
variable {W:Wd} {k:Nat}
noncomputable def BZ (r:List Nat):AV:=.tup [.str (S r),.none]
theorem tok_ws {c:Nat} (h:Rx.isTok c=true):Rx.isWs c=false∧(c==61)=false:=by
 unfold Rx.isTok at h
 unfold Rx.isWs
 simp only [Bool.not_eq_true',Bool.or_eq_false_iff] at h
 exact ⟨h.1.1.2,h.1.1.1⟩
theorem Hs (F:KF W.K) {hv ov:AV}:∀ (rs:List (List Nat)) (r:List Nat) (cur:List AV) (ws:List Nat),Sg (ws++A7 [32] (r::rs))→(ws++A7 [32] (r::rs)).length≤10000→(∀ c∈ws,Rx.isWs c=true)→(∀ x∈r::rs,x≠[]∧∀ c∈x,Rx.isTok c=true)→cur.length+rs.length≤900 →
  WR W (stS hv (ws++A7 [32] (r::rs)) ov 1 (lg [] cur)) .next (stS hv [] ov 1 (lg [] (cur++(r::rs).map BZ))):=by
 intro rs
 induction rs with
 | nil =>
  intro r cur ws hS hl hws hr hn
  have e:A7 [32] [r]=r++[]:=by simp [A7]
  rw [e] at hS hl ⊢
  refine wgo F ?_ (IY F (JT [] cur) (by exact lb (by assumption) rfl) hS hl hws (hr r (.head _)).1 (hr r (.head _)).2 (.inl rfl)) ?_
  ·have:=(hr r (.head _)).1
   induction ws using List.casesOn with
   | nil=>induction r using List.casesOn with
    | nil=>exact (this rfl).elim
    | cons a l=>rfl
   | cons a l=>rfl
  ·have:=Ht [] cur (cur++[BZ r])
   have e2:(lg [] cur).set 1 (.list (cur++[AV.tup [AV.str (S r),AV.none]]))=lg [] (cur++[BZ r]):=this
   rw [e2]
   exact .stop (D3 F) .nil
 | cons r' rs ih =>
  intro r cur ws hS hl hws hr hn
  have e:A7 [32] (r::r'::rs)=r++(32::A7 [32] (r'::rs)):=by simp [A7]
  rw [e] at hS hl ⊢
  rw [List.length_cons] at hn
  obtain ⟨hne,htk⟩:=hr r' (.tail _ (.head _))
  obtain ⟨c,r2,ec⟩:∃ c r2,A7 [32] (r'::rs)=c::r2∧Rx.isWs c=false∧(c==61)=false:=by
   induction r' using List.casesOn with
   | nil=>exact (hne rfl).elim
   | cons c l =>
    refine ⟨c,l++(match rs with | []=>[] | y::z=>[32]++A7 [32] (y::z)),?_,tok_ws (htk c (.head _))⟩
    induction rs using List.casesOn with
    | nil=>simp [A7]
    | cons y z=>simp [A7]
  refine wgo F ?_ (IY F (JT [] cur) (by exact lin (by assumption) (by simp +arith only)) hS hl hws (hr r (.head _)).1 (hr r (.head _)).2 (.inr ⟨c,r2,by rw [ec.1],ec.2⟩)) ?_
  ·have:=(hr r (.head _)).1
   induction ws using List.casesOn with
   | nil=>induction r using List.casesOn with
    | nil=>exact (this rfl).elim
    | cons a l=>rfl
   | cons a l=>rfl
  ·have e2:(lg [] cur).set 1 (.list (cur++[AV.tup [AV.str (S r),AV.none]]))=lg [] (cur++[BZ r]):=Ht [] cur (cur++[BZ r])
   rw [e2]
   have:=ih r' (cur++[BZ r]) [32] (D4 hS (by simp;intros;simp_all)) (by simp at hl ⊢;exact lin (by assumption) (by simp +arith only)) (fun c hc=>by rw [List.mem_singleton.mp hc];rfl) (fun x hx=>hr x (.tail _ hx)) (by simp;exact lin (by assumption) (by simp +arith only))
   rw [List.append_assoc] at this
   exact this
theorem fn_lone (F:KF W.K) {rs:List (List Nat)} (hS:Sg (A7 [32] rs)) (hl:(A7 [32] rs).length≤10000) (hr:∀ x∈rs,x≠[]∧∀ c∈x,Rx.isTok c=true) (hn:rs.length≤100) {objs:List AO} :
  AR W 6 (.ref 83) [.lst [.str (S (A7 [32] rs))]] objs (.lst (if rs.isEmpty then [] else [.lst (rs.map BZ)])) objs:=by
 induction rs using List.casesOn with
 | nil=>exact IZ F (t:=[]) (dn:=[]) (cur:=[]) (by decide) (fun xs hx=>nomatch hx) (.stop (D3 F) .nil)
 | cons r rs =>
  have h:=Hs F (hv:=.lst [.str (S (A7 [32] (r::rs)))]) (ov:=.str (S (A7 [32] (r::rs)))) rs r [] [] hS hl (fun c h=>nomatch h) hr (by simp at hn ⊢;exact lb (by assumption) rfl)
  refine IZ F (t:=A7 [32] (r::rs)) (dn:=[]) (cur:=(r::rs).map BZ) (by decide) (fun xs hx objs fu hf=>?_) h
  have hx':xs=(r::rs).map BZ:=by simpa [C8] using hx
  rw [hx']
  exact Ew (m:=10) (fun a fu hfu=>by
   obtain ⟨m,rfl⟩:∃ m,fu=m+10:=⟨fu - 10,by exact (Nat.sub_add_cancel hfu).symm⟩
   rfl) _ _ (by simp at hn ⊢;exact (lin hn (lin hf (by simp +arith only))))
end
section
variable {W:Wd} {Z:AK} {L:Addr} {as:List Addr} {st:ST} {A:Around} {E:Value→Shared→Prop} {s:Shared} {k:Nat} {sc:Scope} {env:Env}
theorem bc_sub:isSubtype (.type "re.Pattern") (.type "module")=pure false:=by rw [isSubtype_type];kernel_rfl
theorem bc_wp {M:Model} {a:Addr} {v:Value} {o:Obj} {Q:Unit→Shared→Prop} (ho:s.heap.get? a=some o) (hc:o.cls=.type "re.Pattern") (hd:∃ fs,o.data=.fields fs) (hq:Q () s):wpAny M A (checkBoundCall "re.Pattern.search" ⟨[.ref a,v],[]⟩) Q E s:=by
 have hT:s.TypeIs (.ref a) "re.Pattern":=⟨o,ho,hc⟩
 unfold checkBoundCall
 have h1:∃ sig,Manifest.signature? "re.Pattern.search"=some sig∧∀ v w,Bind.checkArgs "re.Pattern.search" {sig with full:=s!"{Bind.lastOf "re.Pattern"}.{Bind.lastOf "re.Pattern.search"}"} ⟨[v,w],[]⟩=pure ():=by
  refine ⟨(Manifest.signature? "re.Pattern.search").get (by kernel_rfl!),by kernel_rfl!,fun v w=>by kernel_rfl!⟩
 refine AG h1 fun sig e1 e2=>?_
 have e3:builtinKind "re.Pattern.search"=some .method:=by kernel_rfl!
 rw [e1,e3]
 dsimp only
 rw [if_neg (by decide)]
 refine wpAny_bind (wpAny_isInstance hT bc_sub ?_)
 rw [if_neg (by decide +kernel)]
 have ht:∀ {R:Bool→Shared→Prop},R false s→wpAny M A (isType (.ref a)) R E s:=by
  intro R hr
  unfold isType
  obtain ⟨fs,hd⟩:=hd
  refine wpAny_bind (wpAny_load ho ?_)
  rw [hd]
  exact wpAny_pure hr
 refine wpAny_bind (ht ?_)
 rw [if_neg (by decide)]
 refine wpAny_bind (wpAny_typeOf hT ?_)
 dsimp only
 rw [e2]
 exact wpAny_pure hq
end
end Mine
namespace Mine
open PySem PySem.W PyProof.Rows PySem.Calls PySem.Spec PySem.Builtin PySem.Builtin.Re
variable [T₀:AY]
structure KG (K:Frag):Prop where
 k800:K.lookup 800=some ⟨.type "builtin_function_or_method",none,.fields #[.builtin "re.Pattern.search",.ref 105],#[]⟩
section
variable {W:Wd} {Z:AK} {L:Addr} {as:List Addr} {st st₁:ST} {A:Around} {E:Value→Shared→Prop} {s:Shared} {k:Nat} {sc:Scope} {env:Env}
theorem GB:plainId "re.Pattern.search"=true:=by decide +kernel
set_option tactic.hygienic true in
theorem HX {pa fa:Addr} {code:Array Nat} {groups:Nat} {x:Str} {objs:List AO} {n:Nat} {r:Option (Nat×Nat×Array (Option Nat)×Int×Int)} (hf:W.K.lookup fa=some ⟨.type "builtin_function_or_method",none,.fields #[.builtin "re.Pattern.search",.ref pa],#[]⟩) (P:Ca W pa code groups) (hx:x.length≤100000) (h:Rx.Ends (Sre.forSearch code x.cps groups 0 x.cps.size false) n r) (hn:n≤10000000) (hg:Fg groups r) :
  AR W k (.ref fa) [.str x] objs (FA x pa r) objs:=by
 intro Z as vals s A Q E hR zn ow hv q
 cases hv using IsL.e1 with
 | _ _ h1 =>
  cases h1 using Is.e_str
  rename_i t hl
  refine G1 (P.ex) fun fs ca o items nn k1 ζ=>?_
  have hp:=zn.keep _ _ (zn.kin _ _ k1)
  refine wpAny_call (codeAny_of_tree ?_)
  refine (?_:wpAny _ A.in1 (callAny (.ref fa) ⟨[.str x t],[]⟩) _ _ s)
  unfold callAny
  refine wpAny_bind (wpAny_load (zn.keep _ _ (zn.kin _ _ hf)) ?_)
  dsimp only
  rw [if_pos (by decide)]
  refine (?_:wpAny _ _ (do checkBoundCall "re.Pattern.search" ⟨[.ref pa,.str x t],[]⟩;let r ← again (.builtin "re.Pattern.search" ⟨[.ref pa,.str x t],[]⟩);pure r) _ _ s)
  refine wpAny_bind (bc_wp hp rfl ⟨_,rfl⟩ ?_)
  refine wpAny_bind (wpAny_pure ?_)
  refine wpAny_pure ⟨by kernel_rfl!,codeAny_builtin Dk ?_⟩
  rw [Around.under_plainId GB _]
  refine (?_:wpAny _ _ (reTarget "re.Pattern.search" "search" _>>=fun t=>reAnswer t _) _ _ _)
  refine wpAny_bind (Ds P zn hx ?_)
  refine wpAny_mono (Dt (Q:=Q) zn ow h hn hg fun Z' u s' z' o' e' i'=>q _ _ _ _ z' o' e' i') (fun fin s' hfin=>?_) fun ζ ζ e=>e
  refine AG hfin fun v r1_ hv=>?_;subst r1_
  exact hv
end
end Mine
end
section
set_option maxRecDepth 10000
namespace Mine
open PySem PySem.W PyProof.Rows PySem.Calls PySem.Spec
variable [T₀:AY]
theorem KK {x:Str} {c:Nat} {n:Nat} (h:c∉x.cps.toList):(Builtin.Str.occurrences x ⟨#[c]⟩ 0 x.length n).isEmpty=true:=by
 rw [List.isEmpty_iff]
 apply List.eq_nil_iff_forall_not_mem.mpr
 intro i hi
 obtain ⟨h1,h2⟩:=StrLaws.occ_spec x ⟨#[c]⟩ 0 x.length n i hi
 have h3:=(StrLaws.found_iff x ⟨#[c]⟩).mpr ⟨i,h1,h2⟩
 rw [StrLaws.found_one,decide_eq_true_eq] at h3
 exact h h3
noncomputable def He (L:List Nat):Bool:=L.any Rx.isUnsafe
noncomputable def AZ (L:List Nat):List Nat:=if He L then [39]++L++[39] else L
noncomputable def qtC (x:Str):Value→List AV→List AO→Option (AV×List AO):=fun f args objs=>match f with
 | .builtin n=>if n=="str.replace" then some (.str x,objs) else none
 | _=>none
namespace QT
noncomputable abbrev d:=top 37
noncomputable abbrev sc:=AM d
noncomputable abbrev cl:=lE (exprS (nth (AB d) 1))
end QT
section
variable {W:Wd} {k:Nat} {sc:Scope} {st st₁:ST}
theorem AA.callBound {x:Str} {p pos:Pos} {a:Expr} {fa:Addr} {f:Value} {pa:Value} {v r:AV} {objs':List AO} (hd:(x==("__debug__":Str))=false) (hx:sc.names.lookup x=some .globalImplicit) (hg:Bi W x (.top (.ref fa))) (hf:W.K.lookup fa=some ⟨.type "builtin_function_or_method",none,.fields #[f,pa],#[]⟩)
  (hs:A4 a=true) (h1:AA W (k+1) sc a st v st₁) (h2:AR W k (.ref fa) [v] st₁.objs r objs'):AA W (k+1) sc (.Call (.Name x p) [a] [] pos) st r {st₁ with objs:=objs'}:=by
 intro Z L as s A Q E env hE hR hS q
 refine wpAny_Call_Name_kw (wpAny_Name (Ah (as:=as) hE hS.zn hx hg fun u hu=>?_) hd)
 cases hu using Is.e_top
 have hss:[a].all A4=true:=by simp [hs]
 have hl:B0 W (k+1) sc [a] st [v] st₁:=.cons hs h1 .nil
 unfold callWith
 refine wpAny_bind (wpAny_holding (Bf hss (hl _ _ _ _ _ _ _ _ _ hE hR hS fun Z₁ as₁ us s₁ S₁ e₁ hus=>wpAny_bind (wpAny_standAt ?_))))
 have hp:(backTo pos (starEach [a] env)).any (·.1)=false:=star_none hss
 simp only [hp,List.any_nil,Bool.or_false]
 have hkeep:∀ {R:Keeper→Shared→Prop},R .machine s₁→wpAny W.M A (keeperOf (.ref fa)) R E s₁:=by
  intro R hr
  unfold keeperOf
  refine wpAny_bind (wpAny_load (S₁.zn.keep _ _ (S₁.zn.kin _ _ hf)) ?_)
  dsimp only
  rw [if_pos (by decide),if_pos (by decide)]
  exact wpAny_pure hr
 refine wpAny_bind (hkeep ?_)
 exact wpAny_bind (h2 _ _ _ _ _ _ _ hR.less S₁.zn S₁.ow hus fun Z₂ as₂ u s₂ zn₂ ow₂ e₂ hu=>(S₁.called zn₂ ow₂ e₂).elim fun S₂ e₂'=>wpAny_bind (wpAny_holding (wpAny_point (wpAny_pure (q _ _ _ _ S₂ (e₁.trans e₂') hu)))))
theorem AA.boundAt {x:Str} {e a:Expr} {fa:Addr} {f:Value} {pa:Value} {v r:AV} {objs':List AO} (he:DX x e=some a) (hd:(x==("__debug__":Str))=false) (hx:sc.names.lookup x=some .globalImplicit) (hg:Bi W x (.top (.ref fa))) (hf:W.K.lookup fa=some ⟨.type "builtin_function_or_method",none,.fields #[f,pa],#[]⟩)
  (h1:AA W (k+1) sc a st v st₁) (h2:AR W k (.ref fa) [v] st₁.objs r objs'):AA W (k+1) sc e st r {st₁ with objs:=objs'}:=by
 refine Bl (DG he) fun p pos r2_ hs=>?_;subst r2_
 exact .callBound hd hx hg hf hs h1 h2
theorem LL (F:KF W.K) (G:KG W.K) {L:List Nat} (hS:Sg L) (hne:L≠[]) (h39:39∉L) (hl:L.length≤1000) {objs:List AO}:AR W 2 (.ref 807) [.str (S L)] objs (.str (S (AZ L))) objs:=by
 have h0:((S L).length != 0)=true:=by rw [AU];induction L using List.casesOn <;> simp_all
 have eq:("'":Str)=S [39]:=by kernel_rfl!
 rcases BR Rx.isUnsafe L with q | ⟨xs,c,r,e,hc,hx⟩
 ·have hu:He L=false:=by unfold He;rw [List.any_eq_false];intro x hx;rw [q x hx];decide
  have hb:AR W 0 (.ref 800) [.str (S L)] objs .none objs:=HX (x:=S L) (r:=none) G.k800 (Bc F.p105) (by rw [AU];exact lb (by assumption) rfl) (Rx.uns_no (text:=L.toArray) hS q) (by decide) trivial
  have hcl:AA W 1 QT.sc QT.cl ⟨[("s",.str (S L))],objs⟩ .none ⟨[("s",.str (S L))],objs⟩ :=
   .boundAt (x:="_find_unsafe") (a:=BE 0 QT.cl) (by kernel_rfl!) (by kernel_rfl!) (by kernel_rfl!) (CK F (by kernel_rfl!)) G.k800 (AQ F {} (n:=10) (by kernel_rfl!)) hb
  have h:=(Bv (k:=0) (x:="s") (v:=.str (S L)) (objs:=objs) (n:=20) (fl:=.ret (.str (S L))) (st':=⟨[("s",.str (S L))],objs⟩)
   (o:=[ob (((S L).length != 0)=true),ob (AA W 1 QT.sc QT.cl ⟨[("s",.str (S L))],objs⟩ .none ⟨[("s",.str (S L))],objs⟩)]) F F.f807
   {hint:=fun l ζ=>if l==792 then some true else none,ex:=fun e st=>if e.pos.line==794&&(DX "_find_unsafe" e).isSome then some (.none,st) else none} (by kernel_rfl!) (by intro pm c v;kernel_rfl!) (by kernel_rfl!) (obs (AC h0) (obs (AC hcl) AS))).ok
  have e2:AZ L=L:=by unfold AZ;rw [hu];rfl
  rw [e2]
  exact h
 ·have hu:He L=true:=by unfold He;rw [List.any_eq_true];exact ⟨c,by rw [e];simp,hc⟩
  have hb:AR W 0 (.ref 800) [.str (S L)] objs (.mtch (S L) 105 [Int.ofNat xs.length,Int.ofNat (xs.length+1)]) objs:=HX (x:=S L) G.k800 (Bc F.p105) (by rw [AU];exact lb (by assumption) rfl) (Rx.uns_yes (text:=L.toArray) (xs:=xs) (c:=c) (rest:=r) e hS hc hx) (by decide) (.inl ⟨rfl,rfl⟩)
  have hcl:AA W 1 QT.sc QT.cl ⟨[("s",.str (S L))],objs⟩ (.mtch (S L) 105 [Int.ofNat xs.length,Int.ofNat (xs.length+1)]) ⟨[("s",.str (S L))],objs⟩ :=
   .boundAt (x:="_find_unsafe") (a:=BE 0 QT.cl) (by kernel_rfl!) (by kernel_rfl!) (by kernel_rfl!) (CK F (by kernel_rfl!)) G.k800 (AQ F {} (n:=10) (by kernel_rfl!)) hb
  have hrp:AR W 0 (.builtin "str.replace") [.str (S L),.str "'",.str "'\"'\"'"] objs (.str (S L)) objs:=HS (by rw [eq];exact KK h39)
  have h:=(Bv (k:=0) (x:="s") (v:=.str (S L)) (objs:=objs) (n:=20) (fl:=.ret (.str (("'":Str)++S L++("'":Str)))) (st':=⟨[("s",.str (S L))],objs⟩)
   (o:=[ob (((S L).length != 0)=true),ob (AA W 1 QT.sc QT.cl ⟨[("s",.str (S L))],objs⟩ (.mtch (S L) 105 [Int.ofNat xs.length,Int.ofNat (xs.length+1)]) ⟨[("s",.str (S L))],objs⟩),ob (AP W 0 (.builtin "str.replace") [.str (S L),.str "'",.str "'\"'\"'"] objs (.str (S L)) objs),("'":Str).length+(S L).length,(("'":Str)++S L).length+("'":Str).length]) F F.f807
   {call:=qtC (S L),hint:=fun l ζ=>if l==792 then some true else none,ex:=fun e st=>if e.pos.line==794&&(DX "_find_unsafe" e).isSome then some (.mtch (S L) 105 [Int.ofNat xs.length,Int.ofNat (xs.length+1)],st) else none} (by kernel_rfl!) (by intro pm c v;kernel_rfl!) (by kernel_rfl!) ?_).ok
  ·have e2:AZ L=[39]++L++[39]:=by unfold AZ;rw [hu];rfl
   rw [e2]
   simp only [AF.val] at h
   rw [eq,Ai,Ai] at h
   exact h
  ·rw [eq,Ai]
   refine obs (AC h0) (obs (AC hcl) (obs (AC (cob (by rw [← eq];exact hrp) (by decide))) (obs (szl ?_) (obs (szl ?_) AS))))
   ·rw [AU,AU];simp only [List.length_cons,List.length_nil];exact lin (by assumption) (by simp +arith only)
   ·rw [AU,AU];simp only [List.length_append,List.length_cons,List.length_nil];exact lin (by assumption) (by simp +arith only)
end
end Mine
end
section
set_option maxRecDepth 10000
namespace Mine
open PySem PySem.W PyProof.Rows PySem.Calls PySem.Spec
noncomputable abbrev Aa:AY:=⟨[],Eq,fun ζ=>rfl,fun ζ ζ ζ a b=>a.trans b⟩
noncomputable abbrev lax:AY:=⟨[78,95,794],fun a b=>AllBare a→AllBare b,fun ζ h=>h,fun ζ ζ ζ f g h=>g (f h)⟩
section
variable {W:Wd} {A:Around} {E:Value→Shared→Prop} {s:Shared} {k:Nat}
noncomputable abbrev allZ (h:Heap):AK:=fun b o=>h.get? b=some o
theorem Iz {h:Heap} (hK:W.K.In h):@Zn Aa W (allZ h) h:=by
 letI:AY:=Aa
 exact ⟨hK,fun ζ ζ e=>e,(fun ζ ζ ζ z=>nomatch z),(fun ζ z=>nomatch z)⟩
theorem allZ_ow {h:Heap}:@Ow Aa (allZ h) [] [] h:=by
 letI:AY:=Aa
 exact ⟨rfl,fun i a x e=>by simp at e,List.nodup_nil,fun a h=>nomatch h⟩
theorem AR.quiet {f:Value} {x y:List Nat} (h:@AR Aa W k f [.str (S x)] [] (.str (S y)) []) (hx:(S x).length≤sizeLine) {t:Tok} (hR:Ae A k) (hK:W.K.In s.heap) {Q:Value→Shared→Prop}
  (q:∀ (t':Tok) (s':Shared),Keeps s s'→Q (.str (S y) t') s'):wpAny W.M A (call f [.str (S x) t]) Q E s:=by
 letI:AY:=Aa
 refine h (allZ s.heap) [] [.str (S x) t] s A Q E hR (Iz hK) allZ_ow (.cons (.str t hx) .nil) fun Z' as' u s' zn ow e hu=>?_
 cases hu using Is.e_str with
 | _ t' hl =>
  refine q t' s' ⟨s'.heap,s'.toks,?_,fun b o hb=>e.keep b o hb (by simp) (by simp) (fun z=>nomatch z)⟩
  have g:s.gens=s'.gens:=e.gens
  have d:=e.drawn
  have os:=e.os
  obtain ⟨h1,g1,d1,t1,o1⟩:=s
  obtain ⟨h2,g2,d2,t2,o2⟩:=s'
  simp only at g d os
  subst g;subst d;subst os
  rfl
end
end Mine
end
section
set_option maxRecDepth 10000
namespace Mine
open PySem PySem.W PyProof.Rows PySem.Calls PySem.Spec
variable [T₀:AY]
noncomputable def Au:List Nat:=[63,45,98,99,100,108,112,114,115,116,119,120,83,84]
theorem Gu {t:Int→Bool} {d:Nat}:∀ {r:List (Int×Nat)},Ci t d r=d∨∃ p∈r,Ci t d r=p.2
 | []=>.inl rfl
 | (b,c)::r=>by
  unfold Ci
  split
  ·exact .inr ⟨(b,c),.head _,rfl⟩
  ·rcases Gu (r:=r) (t:=t) (d:=d) with h | ⟨p,hp,h⟩
   ·exact .inl h
   ·exact .inr ⟨p,.tail _ hp,h⟩
theorem Jz {m:Int} {i:Nat} {r:List (Int×Nat)}:(i=0∧GD m i r=63)∨(i≠0∧GD m i r=45)∨∃ p∈r,GD m i r=p.2:=by
 unfold GD
 rcases Gu (t:=tst (i==0) m) (d:=if i==0 then 63 else 45) (r:=r) with h | h
 ·by_cases hi:i=0
  ·subst hi;exact .inl ⟨rfl,h⟩
  ·right;left
   rw [if_neg (by simpa using hi)] at h ⊢
   exact ⟨hi,h⟩
 ·exact .inr (.inr h)
theorem Dx {m:Int} {c:Nat}:∀ {rs:List (List (Int×Nat))} {i:Nat},c∈Ek m i rs→(i=0∧c=63∧∃ r rs',rs=r::rs')∨c=45∨∃ r∈rs,∃ p∈r,c=p.2
 | [],i,h=>nomatch h
 | r::rs,i,h=>by
  unfold Ek at h
  rcases List.mem_cons.mp h with rfl | h
  ·rcases Jz (m:=m) (i:=i) (r:=r) with ⟨a,b⟩ | ⟨a,b⟩ | ⟨p,hp,b⟩
   ·exact .inl ⟨a,b,r,rs,rfl⟩
   ·exact .inr (.inl b)
   ·exact .inr (.inr ⟨r,.head _,p,hp,b⟩)
  ·rcases Dx h with ⟨a,_⟩ | b | ⟨r',hr,p,hp,b⟩
   ·exact (Nat.not_lt_zero 0 (lne a (by simp +arith only))).elim
   ·exact .inr (.inl b)
   ·exact .inr (.inr ⟨r',.tail _ hr,p,hp,b⟩)
theorem Bo {m:Int} {c:Nat} (h:c∈AI m):c∈Au:=by
 rcases Dx h with ⟨_,rfl,_⟩ | rfl | ⟨r,hr,p,hp,rfl⟩
 ·decide
 ·decide
 ·have:(C1.all fun r=>r.all fun p=>Au.contains p.2)=true:=by decide
  have:=List.all_eq_true.mp (List.all_eq_true.mp this r hr) p hp
  exact List.contains_iff_mem.mp this
theorem Dh (m:Int):Sg (AI m):=fun c hc=>by
 have:(Au.all fun c=>Rx.signs.contains c)=true:=by decide
 exact List.contains_iff_mem.mp (List.all_eq_true.mp this c (Bo hc))
theorem IB (m:Int):39∉AI m:=fun h=>by
 have:=Bo h
 revert this
 decide
theorem nm3_sg (r:Int):Sg (nm3 r):=by
 have one:∀ r:Int,0≤r→r<9→Sg (sg r):=by
  intro r h0 h1 c hc
  obtain ⟨n,rfl⟩:∃ n:Nat,r=n:=⟨r.toNat,(Int.toNat_of_nonneg h0).symm⟩
  have hn:n<9:=Int.ofNat_lt.mp h1
  have:∀ n:Fin 9,(sg (n.val:Int)).all fun c=>Rx.signs.contains c:=by decide
  exact List.contains_iff_mem.mp (List.all_eq_true.mp (this ⟨n,hn⟩) c hc)
 have m9:∀ x:Int,Sg (sg (x.fmod 9)):=fun x=>one _ (Int.fmod_nonneg_of_pos x (by decide)) (Int.fmod_lt_of_pos x (by decide))
 intro c hc
 unfold nm3 at hc
 rcases List.mem_append.mp hc with hc | hc
 ·rcases List.mem_append.mp hc with hc | hc
  ·exact m9 _ c hc
  ·exact m9 _ c hc
 ·exact m9 _ c hc
theorem nm3_len (r:Int):(nm3 r).length≤3:=by
 unfold nm3
 simp only [List.length_append]
 exact Nat.add_le_add (Nat.add_le_add (Eh _) (Eh _)) (Eh _)
theorem B5 (m:Int):∃ l,AI m=BB m::l∧∀ c∈l,c≠63:=by
 refine ⟨Ek m 1 (C1.drop 1),by kernel_rfl!,fun c hc=>?_⟩
 rcases Dx hc with ⟨a,_⟩ | rfl | ⟨r,hr,p,hp,rfl⟩
 ·lia
 ·decide
 ·have:((C1.drop 1).all fun r=>r.all fun p=>decide (p.2≠63))=true:=by decide
  have:=List.all_eq_true.mp (List.all_eq_true.mp this r hr) p hp
  exact of_decide_eq_true this
theorem Im {c:Nat} (h:c∈Au):Rx.isJoin c=(c != 63):=by
 have:(Au.all fun c=>Rx.isJoin c==(c != 63))=true:=by decide
 exact beq_iff_eq.mp (List.all_eq_true.mp this c h)
theorem MA (m:Int):BN m=(BB m != 63):=by
 unfold BN
 have e:("?":Str)=S [63]:=by kernel_rfl!
 rw [e]
 rw [Bool.eq_iff_iff]
 simp only [bne_iff_ne,ne_eq,Fv,List.cons.injEq,and_true]
theorem bareJ_m (m:Int):A0 (AI m)=BN m:=by
 refine AG (B5 m) fun l e hl=>?_
 have hm:∀ c∈AI m,c∈Au:=fun c h=>Bo h
 rw [MA]
 unfold A0
 rw [e] at hm ⊢
 refine (?_:(true&&(Rx.isJoin (BB m)&&l.all Rx.isJoin))=_)
 have hl':l.all Rx.isJoin=true:=List.all_eq_true.mpr fun c hc=>by rw [Im (hm c (.tail _ hc))];simpa using hl c hc
 rw [hl',Im (hm _ (.head _))]
 simp
theorem sg_mem {r:Int} (h0:0≤r) (h1:r<9):∀ c∈sg r,c∈sgL:=by
 intro c hc
 obtain ⟨n,rfl⟩:∃ n:Nat,r=n:=⟨r.toNat,(Int.toNat_of_nonneg h0).symm⟩
 have hn:n<9:=Int.ofNat_lt.mp h1
 have:∀ n:Fin 9,(sg (n.val:Int)).all fun c=>sgL.contains c:=by decide
 exact List.contains_iff_mem.mp (List.all_eq_true.mp (this ⟨n,hn⟩) c hc)
theorem nm3_mem {r:Int} {c:Nat} (hc:c∈nm3 r):c∈sgL:=by
 have m9:∀ x:Int,∀ c∈sg (x.fmod 9),c∈sgL:=fun x=>sg_mem (Int.fmod_nonneg_of_pos x (by decide)) (Int.fmod_lt_of_pos x (by decide))
 unfold nm3 at hc
 rcases List.mem_append.mp hc with hc | hc
 ·rcases List.mem_append.mp hc with hc | hc
  ·exact m9 _ c hc
  ·exact m9 _ c hc
 ·exact m9 _ c hc
theorem bareJ_n {N:List Nat} (h:∀ c∈N,c∈sgL):A0 N=Ft N:=by
 unfold A0 Ft
 congr 1
 have e:∀ c∈N,Rx.isJoin c=(c==39):=fun c hc=>by
  have:(sgL.all fun c=>Rx.isJoin c==(c==39))=true:=by decide
  exact beq_iff_eq.mp (List.all_eq_true.mp this c (h c hc))
 rw [Bool.eq_iff_iff,List.all_eq_true,List.all_eq_true]
 constructor
 ·intro q c hc;rw [← e c hc];exact q c hc
 ·intro q c hc;rw [e c hc];exact q c hc
theorem IG {m:Int} {N:List Nat} (h:∀ c∈N,c∈sgL):IH m N=A5 (AI m,N):=by
 unfold IH A5
 rw [← bareJ_m,← bareJ_n h]
 simp [A7]
end Mine
end
section
set_option maxRecDepth 100000
namespace Mine
open PySem PySem.W PyProof.Rows PySem.Calls PySem.Spec
variable [T₀:AY]
noncomputable def tN (k b:Nat):Bool:=k &&& b==b
theorem tN_pow (k i:Nat):tN k (2 ^ i)=decide (k / 2 ^ i % 2=1):=by
 rw [← Nat.testBit_eq_decide_div_mod_eq]
 unfold tN
 rw [Bool.eq_iff_iff,beq_iff_eq]
 constructor
 ·intro h
  have:=congrArg (fun x=>x.testBit i) h
  simpa using this
 ·intro h
  apply Nat.eq_of_testBit_eq
  intro j
  rw [Nat.testBit_and,Nat.testBit_two_pow]
  by_cases e:i=j
  ·subst e;simp [h]
  ·simp [e]
theorem Fy {k a b c:Nat} (h1:a ||| b=c) (h2:c &&& a=a) (h3:c &&& b=b):tN k c=(tN k a&&tN k b):=by
 unfold tN
 rw [Bool.eq_iff_iff,Bool.and_eq_true,beq_iff_eq,beq_iff_eq,beq_iff_eq]
 constructor
 ·intro h
  constructor
  ·rw [← h2,← Nat.and_assoc,h]
  ·rw [← h3,← Nat.and_assoc,h]
 ·rintro ⟨e1,e2⟩
  rw [← h1,Nat.and_or_distrib_left,e1,e2]
noncomputable def Av (k d:Nat):List (Nat×Nat)→Nat
 | []=>d
 | (b,c)::r=>if tN k b then c else Av k d r
noncomputable def rtN (u v t a b c:Nat):Nat:=t+(if a==114 then 4*u else 0)+(if b==119 then 2*u else 0)+(if c==120 || c==115 || c==116 then u else 0)+(if c==83 || c==115 || c==84 || c==116 then 512*v else 0)
theorem pk3 {p q:Bool} {hi lo v:Nat} (hh:(hi=115∧lo=83)∨(hi=116∧lo=84)) (hv:v=if (p&&q)=true then hi else if p=true then lo else if q=true then 120 else 45) :
  (v==120 || v==115 || v==116)=q∧(v==83 || v==115 || v==84 || v==116)=p:=by
 subst hv
 rcases hh with ⟨rfl,rfl⟩ | ⟨rfl,rfl⟩ <;> (induction p using Bool.casesOn <;> induction q using Bool.casesOn <;> exact ⟨rfl,rfl⟩)
theorem pk1 {p:Bool} {c:Nat} (h:(c==c)=true) (h':(45==c)=false):((if p=true then c else 45)==c)=p:=by
 induction p using Bool.casesOn
 ·exact h'
 ·exact h
theorem GC {k t u v:Nat} {r w x s xs hi lo:Nat} (hx:tN k xs=(tN k s&&tN k x)) (hh:(hi=115∧lo=83)∨(hi=116∧lo=84)) :
  rtN u v t (Av k 45 [(r,114)]) (Av k 45 [(w,119)]) (Av k 45 [(xs,hi),(s,lo),(x,120)])=t+(if tN k r then 4*u else 0)+(if tN k w then 2*u else 0)+(if tN k x then u else 0)+(if tN k s then 512*v else 0):=by
 have e:=pk3 (p:=tN k s) (q:=tN k x) (v:=Av k 45 [(xs,hi),(s,lo),(x,120)]) hh (by rw [← hx];rfl)
 have e1:(Av k 45 [(r,114)]==114)=tN k r:=pk1 rfl rfl
 have e2:(Av k 45 [(w,119)]==119)=tN k w:=pk1 rfl rfl
 unfold rtN
 rw [e1,e2,e.1,e.2]
noncomputable def GE (k:Nat):Nat:=rtN 1 1 (rtN 8 2 (rtN 64 4 0 (Av k 45 [(256,114)]) (Av k 45 [(128,119)]) (Av k 45 [(2112,115),(2048,83),(64,120)])) (Av k 45 [(32,114)]) (Av k 45 [(16,119)]) (Av k 45 [(1032,115),(1024,83),(8,120)])) (Av k 45 [(4,114)]) (Av k 45 [(2,119)]) (Av k 45 [(513,116),(512,84),(1,120)])
theorem Bh {k i c:Nat} (b:Nat) (hb:b=2 ^ i):(if tN k b=true then c else 0)=c*(k / b % 2):=by
 subst hb
 rw [tN_pow]
 have:k / 2 ^ i % 2=0∨k / 2 ^ i % 2=1:=Nat.mod_two_eq_zero_or_one _
 rcases this with h | h <;> rw [h]
 ·exact if_neg Bool.false_ne_true
 ·exact (if_pos rfl).trans (Nat.mul_one c).symm
theorem Hn (k:Nat):GE k=k % 4096:=by
 unfold GE
 rw [GC (Fy (by decide) (by decide) (by decide)) (.inl ⟨rfl,rfl⟩),GC (Fy (by decide) (by decide) (by decide)) (.inl ⟨rfl,rfl⟩),GC (Fy (by decide) (by decide) (by decide)) (.inr ⟨rfl,rfl⟩)]
 have m:∀ n,k % (n*2)=k % n+n*(k / n % 2):=fun n=>Nat.mod_mul
 have m0:k % 2=k / 1 % 2:=by rw [Nat.div_one]
 have m1:=m 2
 have m2:=m 4
 have m3:=m 8
 have m4:=m 16
 have m5:=m 32
 have m6:=m 64
 have m7:=m 128
 have m8:=m 256
 have m9:=m 512
 have m10:=m 1024
 have m11:=m 2048
 simp only [Nat.reduceMul] at m1 m2 m3 m4 m5 m6 m7 m8 m9 m10 m11
 rw [Bh (i:=8) 256 rfl,Bh (i:=7) 128 rfl,Bh (i:=6) 64 rfl,Bh (i:=11) 2048 rfl,Bh (i:=5) 32 rfl,Bh (i:=4) 16 rfl,Bh (i:=3) 8 rfl,Bh (i:=10) 1024 rfl,Bh (i:=2) 4 rfl,Bh (i:=1) 2 rfl,Bh (i:=0) 1 rfl,Bh (i:=9) 512 rfl,m11,m10,m9,m8,m7,m6,m5,m4,m3,m2,m1,m0]
 generalize k / 1 % 2=b0
 generalize k / 2 % 2=b1
 generalize k / 4 % 2=b2
 generalize k / 8 % 2=b3
 generalize k / 16 % 2=b4
 generalize k / 32 % 2=b5
 generalize k / 64 % 2=b6
 generalize k / 128 % 2=b7
 generalize k / 256 % 2=b8
 generalize k / 512 % 2=b9
 generalize k / 1024 % 2=b10
 generalize k / 2048 % 2=b11
 clear m m0 m1 m2 m3 m4 m5 m6 m7 m8 m9 m10 m11
 simp +arith only
theorem C4 (n b:Nat):Builtin.bitAnd (n:Int) (b:Int)=((n &&& b:Nat):Int):=by
 unfold Builtin.bitAnd
 rw [decide_eq_true (Int.natCast_nonneg n),decide_eq_true (Int.natCast_nonneg b)]
 rfl
theorem tst_nat (n b:Nat):tst false (n:Int) (b:Int)=tN n b:=by
 unfold tst tN
 rw [if_neg (by decide),C4]
 rw [Bool.eq_iff_iff,beq_iff_eq,beq_iff_eq]
 exact Int.ofNat_inj
theorem BM (n d:Nat):∀ r:List (Nat×Nat),Ci (tst false (n:Int)) d (r.map fun p=>((p.1:Int),p.2))=Av n d r
 | []=>rfl
 | (b,c)::r=>by
  refine (?_:(if tst false (n:Int) (b:Int)=true then c else Ci (tst false (n:Int)) d (r.map fun p=>((p.1:Int),p.2)))=_)
  rw [tst_nat,BM n d r]
  rfl
theorem s_r {c:Nat} (h:c∈Au):(S [c]==("r":Str))=(c==114)∧(S [c]==("w":Str))=(c==119)∧inF (S [c]) "xst"=(c==120 || c==115 || c==116)∧inF (S [c]) "SsTt"=(c==83 || c==115 || c==84 || c==116):=by
 have:(Au.all fun c=>(S [c]==("r":Str))==(c==114)&&((S [c]==("w":Str))==(c==119))&&(inF (S [c]) "xst"==(c==120 || c==115 || c==116))&&(inF (S [c]) "SsTt"==(c==83 || c==115 || c==84 || c==116)))=true:=by decide +kernel
 have:=List.all_eq_true.mp this c h
 simp only [Bool.and_eq_true,beq_iff_eq] at this
 exact ⟨this.1.1.1,this.1.1.2,this.1.2,this.2⟩
theorem ci {b:Bool} {k:Nat}:(if b=true then (k:Int) else 0)=((if b=true then k else 0:Nat):Int):=by induction b using Bool.casesOn <;> rfl
theorem Hm {u v t a b c:Nat} (ha:a∈Au) (hb:b∈Au) (hc:c∈Au):rtT (u:Int) (v:Int) (t:Int) a b c=((rtN u v t a b c:Nat):Int):=by
 unfold rtT rtB rtA rtN
 rw [(s_r ha).1,(s_r hb).2.1,(s_r hc).2.2.1,(s_r hc).2.2.2]
 generalize (a==114)=x1
 generalize (b==119)=x2
 generalize (c==120 || c==115 || c==116)=x3
 generalize (c==83 || c==115 || c==84 || c==116)=x4
 refine (?_:(t:Int)+(if x1=true then ((4*u:Nat):Int) else 0)+(if x2=true then ((2*u:Nat):Int) else 0)+(if x3=true then (u:Int) else 0)+(if x4=true then ((512*v:Nat):Int) else 0)=_)
 rw [ci,ci,ci,ci]
 rfl
theorem C2 (m:Int) {i:Nat} (h:i<10):ch m i∈Au:=by
 have hl:i<(AI m).length:=by rw [BT];exact h
 unfold ch
 rw [List.getD_eq_getElem?_getD,List.getElem?_eq_getElem hl]
 exact Bo (List.getElem_mem hl)
theorem JK (n:Nat):Bg (n:Int)=Builtin.bitAnd (n:Int) 4095:=by
 have e1:ch (n:Int) 1=Av n 45 [(256,114)]:=BM n 45 [(256,114)]
 have e2:ch (n:Int) 2=Av n 45 [(128,119)]:=BM n 45 [(128,119)]
 have e3:ch (n:Int) 3=Av n 45 [(2112,115),(2048,83),(64,120)]:=BM n 45 [(2112,115),(2048,83),(64,120)]
 have e4:ch (n:Int) 4=Av n 45 [(32,114)]:=BM n 45 [(32,114)]
 have e5:ch (n:Int) 5=Av n 45 [(16,119)]:=BM n 45 [(16,119)]
 have e6:ch (n:Int) 6=Av n 45 [(1032,115),(1024,83),(8,120)]:=BM n 45 [(1032,115),(1024,83),(8,120)]
 have e7:ch (n:Int) 7=Av n 45 [(4,114)]:=BM n 45 [(4,114)]
 have e8:ch (n:Int) 8=Av n 45 [(2,119)]:=BM n 45 [(2,119)]
 have e9:ch (n:Int) 9=Av n 45 [(513,116),(512,84),(1,120)]:=BM n 45 [(513,116),(512,84),(1,120)]
 have h4:Builtin.bitAnd (n:Int) 4095=((n % 4096:Nat):Int):=by
  have:=C4 n 4095
  rw [show n &&& 4095=n % 4096 from Nat.and_two_pow_sub_one_eq_mod n 12] at this
  exact this
 rw [h4,← Hn]
 unfold Bg GE
 have r0:=Hm (u:=64) (v:=4) (t:=0) (C2 (n:Int) (i:=1) (by decide)) (C2 (n:Int) (i:=2) (by decide)) (C2 (n:Int) (i:=3) (by decide))
 have r1:=fun t=>Hm (u:=8) (v:=2) (t:=t) (C2 (n:Int) (i:=4) (by decide)) (C2 (n:Int) (i:=5) (by decide)) (C2 (n:Int) (i:=6) (by decide))
 have r2:=fun t=>Hm (u:=1) (v:=1) (t:=t) (C2 (n:Int) (i:=7) (by decide)) (C2 (n:Int) (i:=8) (by decide)) (C2 (n:Int) (i:=9) (by decide))
 rw [← e1,← e2,← e3,← e4,← e5,← e6,← e7,← e8,← e9]
 rw [← r2,← r1,← r0]
 rfl
noncomputable def kt:List Nat:=[63,112,99,63,100,63,98,63,45,63,108,63,115,63,63,63]
theorem Ha (n:Nat):n &&& 61440=4096*(n / 4096 % 16):=by
 have h1:n / 4096 % 16=(n / 4096) &&& 15:=(Nat.and_two_pow_sub_one_eq_mod (n / 4096) 4).symm
 have h2:∀ x,4096*x=x <<< 12:=fun x=>by rw [Nat.shiftLeft_eq,Nat.mul_comm]
 have h3:n / 4096=n >>> 12:=by rw [Nat.shiftRight_eq_div_pow]
 have h4:(61440:Nat)=15 <<< 12:=by decide
 rw [h1,h2,h3,h4]
 apply Nat.eq_of_testBit_eq
 intro j
 rw [Nat.testBit_and,Nat.testBit_shiftLeft,Nat.testBit_shiftLeft,Nat.testBit_and,Nat.testBit_shiftRight]
 by_cases h:12≤j
 ·rw [Nat.add_sub_cancel' h]
  simp [h]
 ·simp [h]
theorem kind_eq (n:Nat):BB (n:Int)=kt.getD (n / 4096 % 16) 63:=by
 have hb:Builtin.bitAnd (n:Int) 61440=((4096*(n / 4096 % 16):Nat):Int):=by
  rw [← Ha];exact C4 n 61440
 have hq:n / 4096 % 16<16:=Nat.mod_lt _ (by decide)
 generalize n / 4096 % 16=q at hb hq ⊢
 have e:∀ (r:List (Int×Nat)),Ci (tst true (n:Int)) 63 r=Ci (fun b=>(((4096*q:Nat):Int)==b)) 63 r:=by
  intro r
  induction r with
  | nil=>rfl
  | cons p r ih =>
   obtain ⟨b,c⟩:=p
   refine (?_:(if tst true (n:Int) b=true then c else _)=_)
   have:tst true (n:Int) b=(((4096*q:Nat):Int)==b):=by unfold tst;rw [if_pos rfl,hb]
   rw [this,ih];rfl
 have e2:BB (n:Int)=Ci (tst true (n:Int)) 63 (C1.getD 0 []):=rfl
 rw [e2,e]
 have:∀ q:Fin 16,Ci (fun b=>(((4096*q.val:Nat):Int)==b)) 63 (C1.getD 0 [])=kt.getD q.val 63:=by decide
 exact this ⟨q,hq⟩
theorem Kc (n:Nat):(Builtin.bitAnd (n:Int) 61440).fdiv 4096=((n / 4096 % 16:Nat):Int):=by
 have hb:Builtin.bitAnd (n:Int) 61440=((4096*(n / 4096 % 16):Nat):Int):=by
  rw [← Ha];exact C4 n 61440
 rw [hb]
 refine (?_:Int.fdiv ((4096*(n / 4096 % 16):Nat):Int) ((4096:Nat):Int)=_)
 rw [Int.fdiv_eq_ediv_of_nonneg _ (by decide)]
 generalize n / 4096 % 16=q
 exact Int.mul_ediv_cancel_left (a:=4096) (q:Int) (by decide)
end Mine
end
section
set_option maxRecDepth 10000
namespace Mine
open PySem PySem.W PyProof.Rows PySem.Calls PySem.Spec
namespace SJ
noncomputable abbrev d:=top 34
noncomputable abbrev sc:=AM d
noncomputable abbrev jn:=exprS (nth (AB d) 0)
noncomputable abbrev ge:=BE 0 jn
end SJ
noncomputable def DU:Expr→Expr
 | .GeneratorExp e ..=>e
 | _=>default
noncomputable def JY:Expr→Scope
 | .GeneratorExp _ _ s _=>s
 | _=>default
noncomputable def genG:Expr→Comprehension
 | .GeneratorExp _ gs ..=>gs.getD 0 default
 | _=>default
section
variable {W:Wd} {A:Around} {E:Value→Shared→Prop} {s:Shared} {k:Nat}
theorem sj_elt (F:KF W.K) (G:KG W.K) {env:Env} {L:List Nat} {C:Addr} {m:Str→Option Value} {t:Tok} {Q:Value→Shared→Prop} (hS:Sg L) (hne:L≠[]) (h39:39∉L) (hl:L.length≤1000)
  (hE:Aq env (JY SJ.ge) C) (hR:Ae A 3) (hK:W.K.In s.heap) (hn:s.heap.Ns C m) (hm:m "arg"=some (.str (S L) t)) (q:∀ (t':Tok) (s':Shared),Keeps s s'→Q (.str (S (AZ L)) t') s') :
  wpAny W.M A (eval (DU SJ.ge) env) Q E s:=by
 letI:AY:=Aa
 have hq:=LL (objs:=[]) F G hS hne h39 hl
 obtain ⟨a,p,pos,e⟩:∃ a p pos,DU SJ.ge=.Call (.Name "quote" p) [.Name "arg" a] [] pos:=by
  refine ⟨(BE 0 (DU SJ.ge)).pos,(Dd (DU SJ.ge)).pos,(DU SJ.ge).pos,by kernel_rfl!⟩
 rw [e]
 refine wpAny_Call_Name_kw (wpAny_Name (Ah (as:=[]) (v:=.top (.ref 807)) hE (Iz hK) (by kernel_rfl!) (CK F (by kernel_rfl!)) fun u hu=>?_) (by kernel_rfl!))
 cases hu using Is.e_top
 refine Ao (W:=W) (by rfl) (show EO W (.ref 807) from F.f807.fn) ?_
 refine args_cons ?_ rfl
 refine wpAny_Name (wpAny_loadName_local hE.kd ((hE.kindOf "arg").trans (by kernel_rfl!)) (by rw [hE.locals];exact hn) hm ?_) (by kernel_rfl!)
 refine spliced_nil ⟨hK,?_⟩
 exact AR.quiet hq (by rw [AU];exact szl (by exact lb (by assumption) rfl)) hR.less hK q
end
structure NG (W:Wd):Prop where
 t794:W.tp 794=((SJ.ge.pos.line:Int),(SJ.ge.pos.col:Int),("join.<locals>.<genexpr>":Str))
theorem Gv (n:Nat):passing (fun ζ=>true) n 0=List.range n:=by
 unfold passing
 simp
section
variable {W:Wd} {A:Around} {E:Value→Shared→Prop} {s:Shared} {k:Nat} {sc:Scope}
theorem Sta.moved {Z:AK} {L:Addr} {as:List Addr} {st:ST} {s':Shared} (S:@Sta lax W Z L as st s) (hsz:s.heap.objs.size≤s'.heap.objs.size) (hg:AllBare s.gens→AllBare s'.gens) (hd:s'.drawn=s.drawn) (ho:s'.os=s.os)
  (h:(∀ b o,s.heap.get? b=some o→s'.heap.get? b=some o)∨(∃ c oc,Heap.ExtBut 794 s.heap s'.heap∧s.heap.objs.size≤c∧s'.heap.get? c=some oc∧FJ oc (W.tp 794).2.2∧s'.heap.get? 794=some (tabObj #[rawInt (W.tp 794).1,rawInt (W.tp 794).2.1,.ref c]))) :
  ∃ Z',@Sta lax W Z' L as st s'∧@Evo lax [L] Z Z' as as s s':=by
 letI:AY:=lax
 rcases h with hk | ⟨c,oc,hx,hc,hoc,co,ht⟩
 ·obtain ⟨S₁,e₁⟩:=S.grow (tk:=s'.toks) ⟨hk,hsz⟩
  exact ⟨Z,⟨S₁.zn,S₁.ow,S₁.fr⟩,⟨e₁.zsub,e₁.znew,e₁.pre,e₁.keep,e₁.size,hg,hd,ho⟩⟩
 ·refine oAA (S.filled (tk:=s'.toks) (show (794:Addr)∈[78,95,794] by decide) hx hsz hc hoc co ht) fun S₁ e₁ ζ=>?_
  exact ⟨_,⟨S₁.zn,S₁.ow,S₁.fr⟩,⟨e₁.zsub,e₁.znew,e₁.pre,e₁.keep,e₁.size,hg,hd,ho⟩⟩
end
section
variable {W:Wd} {A:Around} {E:Value→Shared→Prop} {s:Shared} {k:Nat} {sc:Scope}
set_option tactic.hygienic true in
theorem isl_get [AY] {Z:AK} {as:List Addr} {rows:List (List Nat)} {vs:List Value} (h:IsL Z as (rows.map fun L=>.str (S L)) vs) {i:Nat} {v:Value} (e:vs[i]?=some v):∃ L t,rows[i]?=some L∧v=.str (S L) t∧(S L).length≤sizeLine:=by
 have hl:=h.length
 rw [List.length_map] at hl
 have hi:i<vs.length:=(List.getElem?_eq_some_iff.mp e).1
 have hr:rows[i]?=some (rows[i]'(by exact hl▸hi)):=List.getElem?_eq_getElem _
 refine AG (h.get (i:=i) (a:=.str (S (rows[i]'(by exact hl▸hi)))) (by rw [List.getElem?_map,hr];rfl)) fun b h1 h2=>?_
 rw [e] at h1
 cases h1
 cases h2 using Is.e_str
 rename_i t hs
 exact ⟨_,t,hr,rfl,hs⟩
theorem F5 (L:List Nat):(AZ L).length≤L.length+2:=by
 unfold AZ
 split
 ·simp only [List.length_append,List.length_cons,List.length_nil];simp +arith only
 ·simp +arith only
theorem El:∀ {rows:List (List Nat)},(∀ L∈rows,L.length≤1000)→(rows.map AZ).flatten.length≤1002*rows.length
 | [],_=>by simp
 | L::rows,h=>by
  have h1:=El fun L hL=>h L (.tail _ hL)
  have h2:=F5 L
  have h3:=h L (.head _)
  rw [List.map_cons,List.flatten_cons,List.length_append,List.length_cons]
  exact (lin h1 (lin h2 (lin h3 (by simp +arith only))))
noncomputable def finB (W:Wd) (env:Env) (A:Around) (Q E:Value→Shared→Prop) (N:Addr) (tsep:Tok) (code:Value) (bi:Addr) (s₄:Shared):=fun I fp wr n₀ P St₀ pz F=>(Value.ref N=.ref I∧(∀ A':Around,A'.handled=none→Walks W.prog W.w A' I fp wr n₀ P St₀)∧St₀ 0 s₄.heap∧(∀ b∈fp,b<s₄.heap.objs.size)∧s₄.heap.NoLimit∧cStatics∉wr ∧
     (∀ href:Heap,(∀ b o,s₄.heap.get? b=some o→href.get? b=some o) →
      QuietGenD W.prog W.w (genEnv (JY SJ.ge) [] s₄.heap.objs.size code bi env) "arg" [] (DU SJ.ge) (List.range s₄.heap.objs.size) wr P pz F href (A.depth+1) (A.units+8)) ∧
     (∀ a h₅ tk gs,gs.bare=true→s₄.heap.objs.size<a→h₅.objs.size=a+1→(∀ b o,s₄.heap.get? b=some o→h₅.get? b=some o) →
      WalksS W.prog W.w A.in4 a (a::s₄.heap.objs.size::List.range s₄.heap.objs.size) (s₄.heap.objs.size::wr) (GenOnlyQ s₄.gens.size) (passing pz n₀ 0).length
       (fun j y=>∃ i,(passing pz n₀ 0)[j]?=some i∧F i y) (GenAt W.prog W.w A.in4 a s₄.gens.size s₄.heap.objs.size (List.range s₄.heap.objs.size) wr pz n₀ F) →
      GenAt W.prog W.w A.in4 a s₄.gens.size s₄.heap.objs.size (List.range s₄.heap.objs.size) wr pz n₀ F 0 {s₄ with gens:=s₄.gens.push gs,toks:=tk,heap:=h₅} →
      wpAny W.M A (spliced (backTo SJ.jn.pos (starEach [] env))) (fun vs s₂=>W.K.In s₂.heap∧wpAny W.M A (call (.builtin "str.join") ([.str (S [32]) tsep]++(.ref a::vs))) Q E s₂) E {s₄ with gens:=s₄.gens.push gs,toks:=tk,heap:=h₅}):Prop)
noncomputable def finG (W:Wd) (env:Env) (A:Around) (Q E:Value→Shared→Prop) (N:Addr) (tsep:Tok) (code:Value) (bi:Addr) (s₄:Shared):Prop:=∃ I fp wr n₀ P St₀ pz F,finB W env A Q E N tsep code bi s₄ I fp wr n₀ P St₀ pz F
theorem finG_mk {W:Wd} {env:Env} {A:Around} {Q E:Value→Shared→Prop} {N:Addr} {tsep:Tok} {code:Value} {bi:Addr} {s₄:Shared} (I fp wr n₀ P St₀ pz F) (h:finB W env A Q E N tsep code bi s₄ I fp wr n₀ P St₀ pz F):finG W env A Q E N tsep code bi s₄:=⟨I,fp,wr,n₀,P,St₀,pz,F,h⟩
set_option tactic.hygienic true in
theorem sj_join (F:KF W.K) (G:KG W.K) (N:@DY lax W 798 794) (T:NG W) {rows:List (List Nat)} {objs:List AO} (hr:∀ L∈rows,Sg L∧L≠[]∧39∉L∧L.length≤1000) (hn:rows.length≤100) :
  @AA lax W 5 SJ.sc SJ.jn ⟨[("split_command",.lst (rows.map fun L=>.str (S L)))],objs⟩ (.str (S (A7 [32] (rows.map AZ)))) ⟨[("split_command",.lst (rows.map fun L=>.str (S L)))],objs⟩:=by
 letI:AY:=lax
 intro Z L as s A Q E env hE hR hS q
 obtain ⟨hc,hq⟩:=hE.code 798 "join.<locals>." (by kernel_rfl!)
 have e1:SJ.jn=.Call (.Attribute (lE (Dd SJ.jn)) "join" (Dd SJ.jn).pos) [SJ.ge] [] SJ.jn.pos:=by kernel_rfl!
 have e2:SJ.ge=.GeneratorExp (DU SJ.ge) [⟨.Name "arg" (genG SJ.ge).target.pos,.Name "split_command" (genG SJ.ge).iter.pos,[],0⟩] (JY SJ.ge) SJ.ge.pos:=by kernel_rfl!
 have hsep:AA W 5 SJ.sc (lE (Dd SJ.jn)) ⟨[("split_command",.lst (rows.map fun L=>.str (S L)))],objs⟩ (.str (S [32])) ⟨[("split_command",.lst (rows.map fun L=>.str (S L)))],objs⟩ :=
  (AQ (k:=4) F {} (n:=10) (by kernel_rfl!))
 have hm:ET (tb W 4 {}) objs "join" (.str (S [32]))=some (.builtin "str.join"):=by kernel_rfl!
 have hit:AA W 5 SJ.sc (.Name "split_command" (genG SJ.ge).iter.pos) ⟨[("split_command",.lst (rows.map fun L=>.str (S L)))],objs⟩ (.lst (rows.map fun L=>.str (S L))) ⟨[("split_command",.lst (rows.map fun L=>.str (S L)))],objs⟩ :=
  .loc (by kernel_rfl!) (by kernel_rfl!) (by kernel_rfl!)
 rw [e1]
 obtain ⟨pl,he⟩:=EJ (env:=env) (name:="join") (o:=lE (Dd SJ.jn)) (apos:=(Dd SJ.jn).pos) (pos:=SJ.jn.pos) (args:=[SJ.ge]) (by kernel_rfl!) (by kernel_rfl!) (by decide) (by kernel_rfl!)
 refine MethodCall_ (hsep _ _ _ _ _ _ _ _ hE hR hS fun Z₁ as₁ u s₁ S₁ e₁ hu=>?_) he
 refine (Cx (BP F).res (BP F).pat hm _ _ _ _ S₁.zn S₁.ow hu).go _ _ _ _ _ rfl ?_
 refine Ao (W:=W) (by kernel_rfl!) trivial ?_
 cases hu using Is.e_str
 rename_i tsep hlsep
 refine args_cons ?_ (Bn (by kernel_rfl!))
 rw [e2]
 refine wpAny_GeneratorExp_walksQD (cl:=[]) hR.handled (by kernel_rfl!) (closureFor_none fun x hx=>?_) (fun y hy=>?_) (by kernel_rfl!) (by kernel_rfl!) (by kernel_rfl!) (by have:=hR.depth;refine (?_:_<1000);exact lin (by assumption) (by simp +arith only)) ?_ (fun ζ=>by kernel_rfl!)
 ·have:((JY SJ.ge).names.all fun x=>decide (x.2≠.free))=true:=by kernel_rfl!
  exact of_decide_eq_true (List.all_eq_true.mp this x hx)
 ·have:((JY SJ.ge).names.all fun x=>decide (x.2≠.cell))=true:=by kernel_rfl!
  exact of_decide_eq_true (List.all_eq_true.mp this y hy)
 refine hit _ _ _ _ _ _ _ _ hE hR S₁ fun Z₂ as₂ u s₂ S₂ e₂ hu=>?_
 cases hu using Is.e_lst with
 | _ l vs n z hx hlv =>
 have hlk:=S₂.zn.keep _ _ z
 have hll:l<s₂.heap.objs.size:=Heap.lt_size hlk
 have hvl:vs.length=rows.length:=by have:=hx.length;rw [List.length_map] at this;exact this.symm
 refine wpAny_pyIter_list (items:=vs.toArray) ⟨_,hlk,rfl,_,rfl⟩ ⟨F.lim _ fun a o ha=>Heap.get?_push_of_some _ (S₂.zn.kIn a o ha),?_⟩
 refine AG (S₂.zn.tab 794 N.tab) fun vt hP tv=>?_
 have hPlt:=Heap.lt_size hP
 have kne:∀ a o,W.K.lookup a=some o→a≠794:=fun a o ha e=>S₂.zn.low a o (S₂.zn.kin a o ha) (e▸N.tab)
 obtain ⟨mg,hgl⟩:=N.glob
 have C:=N.hd _ S₂.zn.kIn
 have C':=C.keeps fun b o e=>Heap.get?_push_of_some {cls:=.type "list_iterator",data:=.fields #[.ref l,.int 0 0]} e
 have hP':=Heap.get?_push_of_some {cls:=.type "list_iterator",data:=.fields #[.ref l,.int 0 0]} hP
 have hIt:(s₂.heap.push {cls:=.type "list_iterator",data:=.fields #[.ref l,.int 0 0]}).get? s₂.heap.objs.size=some {cls:=.type "list_iterator",data:=.fields #[.ref l,.int 0 0]}:=Heap.get?_push_size _ rfl
 have sz3:(s₂.heap.push {cls:=.type "list_iterator",data:=.fields #[.ref l,.int 0 0]}).objs.size=s₂.heap.objs.size+1:=Heap.size_push ..
 have fin:∀ (s₄:Shared) (code:Value),(∀ b o,b≠794→(s₂.heap.push {cls:=.type "list_iterator",data:=.fields #[.ref l,.int 0 0]}).get? b=some o→s₄.heap.get? b=some o)→s₂.heap.objs.size+1≤s₄.heap.objs.size →
   s₄.gens=s₂.gens→s₄.drawn=s₂.drawn→s₄.os=s₂.os →
   ((∀ b o,s₂.heap.get? b=some o→s₄.heap.get? b=some o)∨(∃ c oc,s₂.heap.objs.size+1≤c∧s₄.heap.get? c=some oc∧FJ oc (W.tp 794).2.2∧s₄.heap.get? 794=some (tabObj #[rawInt (W.tp 794).1,rawInt (W.tp 794).2.1,.ref c]))) →
   wpAny W.M A (builtinsFor env.globals env.builtins) (fun bi s₄=>finG W env A Q E s₂.heap.objs.size tsep code bi s₄) E s₄:=by
  intro s₄ code h4 hz4 hg4 hd4 ho4 D
  have k4:∀ b o,b≠794→s₂.heap.get? b=some o→s₄.heap.get? b=some o:=fun b o hb e=>h4 b o hb (Heap.get?_push_of_some _ e)
  have K4:W.K.In s₄.heap:=fun a o ha=>k4 a o (kne a o ha) (S₂.zn.kIn a o ha)
  refine Gz (hgl _ K4) fun hg bm ob hbm hne0 ζ hneP hbo hcls hdict hdata=>?_
  have hg':s₄.heap.Ns env.globals mg:=by rw [hE.globals];exact hg
  refine wpAny_builtinsFor hg' hbm hne0 hbo hcls hdict hdata ?_
  have lne:l≠794:=fun e=>by rw [e,hP] at hlk;cases hlk
  have ine:s₂.heap.objs.size≠794:=fun e=>Nat.lt_irrefl _ (e▸hPlt)
  have hpl:passing (fun ζ=>true) vs.toArray.size 0=List.range vs.toArray.size:=Gv _
  have hcs:cStatics<s₂.heap.objs.size:=by obtain ⟨_,⟨_,_,_,ho,_⟩,_⟩:=F.lim _ S₂.zn.kIn;exact Heap.lt_size ho
  refine finG_mk s₂.heap.objs.size [s₂.heap.objs.size,l] [s₂.heap.objs.size] vs.toArray.size _ _ (fun ζ=>true) (fun i y=>∃ L t,rows[i]?=some L∧y=.str (S (AZ L)) t) ⟨rfl,fun A' hA=>Walks.list hA _ _ (Nat.ne_of_lt hll) vs.toArray,
   ⟨⟨_,h4 _ _ ine hIt,rfl,rfl⟩,⟨_,k4 _ _ lne hlk,rfl,_,rfl⟩⟩,fun b hb=>?_,F.lim _ K4,fun z=>?_,fun href hhref=>⟨fun A' E' i v t m₂ hA hD hU hp hn hm hkp=>wpAny_pure ⟨rfl,t.heap,t.toks,rfl,fun ζ ζ e=>e⟩,fun A' E' i v t m₂ hA hD hU hp hpz hn hm hkp=>?_⟩,?_⟩
  ·rcases List.mem_cons.mp hb with rfl | hb
   ·exact hz4
   ·rcases List.mem_cons.mp hb with rfl | hb
    ·exact Nat.lt_of_lt_of_le (Nat.lt_succ_of_lt hll) hz4
    ·cases hb
  ·rw [List.mem_singleton.mp z] at hcs;exact Nat.lt_irrefl _ hcs
  ·refine Be (isl_get hx (by simpa using hp)) fun L' tk hrow r3_ ζ=>?_;subst r3_
   refine FW (hr L' (List.mem_of_getElem? hrow)) fun r1 r2 r3 r4=>?_
   have hd:=hR.depth
   have hu:=hR.units
   refine sj_elt F G r1 r2 r3 r4 ⟨rfl,rfl,hE.globals,rfl,by kernel_rfl!,fun c q z=>?_⟩ ⟨by exact (lin hD (lin hd (by simp +arith only))),by exact (lin hU (lin hu (by simp +arith only))),hA⟩ (fun b o hb=>?_) hn hm fun t' s' hk=>⟨⟨L',t',hrow,rfl⟩,hk⟩
   ·have:DW (JY SJ.ge)=none:=by kernel_rfl!
    rw [this] at z;exact no z
   ·have:=K4 b o hb
    refine hkp b (List.mem_range.mpr (Heap.lt_size this)) (fun z=>?_) o (hhref b o this)
    have hb2:=Heap.lt_size (S₂.zn.kIn b o hb)
    rw [List.mem_singleton.mp z] at hb2
    exact Nat.lt_irrefl _ hb2
  ·intro a h₅ tk gs hgb hag hsz₅ hk₅ Wk hat
   refine spliced_nil ⟨fun b o hb=>hk₅ b o (K4 b o hb),?_⟩
   have hwr:∀ b,b<s₂.heap.objs.size→b∉s₄.heap.objs.size::[s₂.heap.objs.size]:=fun b hb z=>by
    rcases List.mem_cons.mp z with rfl | z
    ·exact (Nat.not_lt_zero 0 (lin hz4 (lin hb (by simp +arith only))))
    ·rw [List.mem_singleton.mp z] at hb;exact Nat.lt_irrefl _ hb
   rw [hpl] at Wk
   refine SC.joinGen Wk.in4_2 (fun i s' st=>st.1.typeIs) hat (fun b hb=>?_) List.mem_cons_self (fun j v hv=>?_) (fun s' lt hm hacc=>?_) (by rw [List.length_range,List.size_toArray,hvl];exact szl (by exact lb (by assumption) rfl))
   ·refine (?_:b<h₅.objs.size)
    rw [hsz₅]
    rcases List.mem_cons.mp hb with rfl | hb
    ·exact Nat.lt_succ_self _
    ·rcases List.mem_cons.mp hb with rfl | hb
     ·exact Nat.lt_succ_of_lt hag
     ·exact Nat.lt_succ_of_lt (Nat.lt_trans (List.mem_range.mp hb) hag)
   ·refine KM hv fun i ζ L' t' ζ r5_=>?_;subst r5_
    exact ⟨_,_,rfl⟩
   ·have hlt:lt.map (·.1)=(rows.map AZ).map S:=by
     apply List.ext_getElem?
     intro j
     have hsz:lt.length=rows.length:=by have:=hacc.1;simpa [strValues,hvl] using this
     by_cases hj:j<rows.length
     ·have hj':j<lt.length:=hsz▸hj
      refine KM (hacc.2 j (.str lt[j].1 lt[j].2) (by simp [strValues,List.getElem?_eq_getElem hj'])) fun i hi L' t' hrow e=>?_
      have hij:i=j:=by
       obtain ⟨h1,h2⟩:=List.getElem?_eq_some_iff.mp hi
       rw [List.getElem_range] at h2
       exact h2.symm
      subst hij
      injection e with e1 _
      rw [List.getElem?_map,List.getElem?_eq_getElem hj',List.map_map,List.getElem?_map,hrow]
      refine (?_:some lt[i].1=some _)
      rw [e1];rfl
     ·rw [List.getElem?_eq_none (by simpa [hsz] using Nat.le_of_not_lt hj),List.getElem?_eq_none (by simpa using Nat.le_of_not_lt hj)]
    rw [hlt]
    have hfl:=El fun L hL=>(hr L hL).2.2.2
    have hok:JoinOk (S [32]) ((rows.map AZ).map S)=true:=joinOk_of (by rw [CT,List.length_map,List.length_map,AU];simp only [List.length_cons,List.length_nil];exact (lnn 1003 hn (lin hfl (by simp +arith only))))
    refine ⟨hok,fun t' kk=>?_⟩
    rw [Cq]
    have hae:∃ o,h₅.get? a=some o:=by refine AG hat.1.typeIs fun o ho ζ=>?_;exact ⟨o,ho⟩
    obtain ⟨oa,hoa⟩:=hae
    have haw:a∉s₄.heap.objs.size::[s₂.heap.objs.size]:=fun z=>by
     rcases List.mem_cons.mp z with rfl | z
     ·exact Nat.lt_irrefl _ hag
     ·exact Nat.lt_irrefl _ (Nat.lt_of_le_of_lt (Nat.le_of_succ_le hz4) (List.mem_singleton.mp z▸hag))
    have hsz':s₂.heap.objs.size≤s'.heap.objs.size:=by
     exact Nat.le_trans (Nat.le_trans (Nat.le_succ _) hz4) (Nat.le_of_lt (Nat.lt_trans hag (Heap.lt_size (hm.heap a oa haw hoa))))
    obtain ⟨Z',S',e'⟩:=Sta.moved (s':={s' with toks:=kk}) S₂ hsz' (fun hb=>AllBare.movedS (s:={s₄ with gens:=s₄.gens.push gs,toks:=tk,heap:=h₅}) (s':=s') (AllBare.push (by rw [hg4];exact hb) hgb) hm) (hm.drawn.trans hd4) (hm.os.trans ho4) (by
     rcases D with D | ⟨c,oc,hc1,hc2,hc3,hc4⟩
     ·exact .inl fun b o e=>hm.heap b o (hwr b (Heap.lt_size e)) (hk₅ b o (D b o e))
     ·have hcw:c∉s₄.heap.objs.size::[s₂.heap.objs.size]:=fun z=>by
       have:=Heap.lt_size hc2
       rcases List.mem_cons.mp z with rfl | z
       ·exact Nat.lt_irrefl _ this
       ·have:=List.mem_singleton.mp z;exact Nat.lt_irrefl _ (this▸hc1)
      exact .inr ⟨c,oc,fun b o hb e=>hm.heap b o (hwr b (Heap.lt_size e)) (hk₅ b o (k4 b o hb e)),by exact lin (by assumption) (by simp +arith only),hm.heap c oc hcw (hk₅ c oc hc2),hc3,hm.heap 794 _ (hwr 794 hPlt) (hk₅ 794 _ hc4)⟩)
    refine q Z' as₂ _ _ S' ((e₁.trans e₂).trans e') (.str _ ?_)
    exact szl (by
     have h1:(Txt.join (S [32]) ((rows.map AZ).map S)).length=_:=size_glued (S [32]) ((rows.map AZ).map S)
     have h32:(S [32]).length=1:=rfl
     rw [Cq,CT,List.length_map,List.length_map,h32] at h1
     rw [h1]
     exact lin (Nat.sub_le rows.length 1) (lin hfl (lnn 1003 hn (by simp +arith only))))
 rcases tv with rfl | ⟨c',o',rfl,zc,co⟩
 ·refine wpAny_genexprCodeX hc (C'.code hP' trivial) (C'.tab hP') rfl fun c' h₃ tk₃ hx₃ hge hlt hcode₃ hrec htab₃ ζ=>?_
  refine IC hrec fun c₂ oc vs' t e2' hoc hd hv=>?_
  cases e2'
  refine fin {s₂ with heap:=h₃,toks:=tk₃} _ hx₃ (by rw [← sz3];exact Nat.le_trans hge (Nat.le_of_lt hlt)) rfl rfl rfl (.inr ⟨c',oc,by rw [← sz3];exact hge,hoc,⟨vs',t,hd,?_⟩,?_⟩)
  ·rw [T.t794];rw [hq] at hv
   have:("join.<locals>.":Str)++("<genexpr>":Str)=("join.<locals>.<genexpr>":Str):=by kernel_rfl!
   rw [← this];exact hv
  ·rw [T.t794];exact htab₃.2
 ·rw [T.t794] at hP' co
  refine wpAny_genexprCode_hit hc (C'.code hP' trivial) (c':=.ref c') ?_ ?_
  ·refine (?_:(if (((SJ.ge.pos.line:Int)==SJ.ge.pos.line&&(SJ.ge.pos.col:Int)==SJ.ge.pos.col)=true) then some (Value.ref c') else _)=_)
   rw [if_pos (by simp)]
  ·exact fin {s₂ with heap:=s₂.heap.push _} _ (fun b o ζ e=>e) (by rw [sz3];exact Nat.le_refl _) rfl rfl rfl (.inl fun b o e=>Heap.get?_push_of_some _ e)
end
section
variable {W:Wd}
noncomputable def Cp (rows:List (List Nat)):List Nat:=A7 [32] (rows.map AZ)
theorem LI (F:KF W.K) (G:KG W.K) (N:@DY lax W 798 794) (T:NG W) {rows:List (List Nat)} {objs:List AO} (hr:∀ L∈rows,Sg L∧L≠[]∧39∉L∧L.length≤1000) (hn:rows.length≤100) :
  @AR lax W 6 (.ref 799) [.lst (rows.map fun L=>.str (S L))] objs (.str (S (Cp rows))) objs:=by
 letI:AY:=lax
 have hj:=sj_join (objs:=objs) F G N T hr hn
 exact (Bv (k:=4) (x:="split_command") (v:=.lst (rows.map fun L=>.str (S L))) (objs:=objs) (n:=20) (fl:=.ret (.str (S (Cp rows)))) (st':=⟨[("split_command",.lst (rows.map fun L=>.str (S L)))],objs⟩)
  (o:=[ob (AA W 5 SJ.sc SJ.jn ⟨[("split_command",.lst (rows.map fun L=>.str (S L)))],objs⟩ (.str (S (Cp rows))) ⟨[("split_command",.lst (rows.map fun L=>.str (S L)))],objs⟩)])
  F F.f799 {ex:=fun e st=>if e.pos.line==788&&DS e then some (.str (S (Cp rows)),st) else none} (by kernel_rfl!) (by intro pm c v;kernel_rfl!) (by kernel_rfl!) (obs (AC hj) AS)).ok
end
end Mine
end
section
set_option maxRecDepth 10000
namespace Mine
open PySem PySem.W PyProof.Rows PySem.Calls PySem.Spec
variable [T₀:AY]
section
variable {W:Wd} {Z:AK} {L:Addr} {as:List Addr} {st st₁ st₂:ST} {A:Around} {E:Value→Shared→Prop} {s:Shared} {k:Nat} {sc:Scope}
theorem AA.neg {x:Expr} {pos:Pos} {a:Int} (h1:AA W k sc x st (.int a) st₁):AA W k sc (.UnaryOp .USub x pos) st (.int (-a)) st₁:=by
 intro Z L as s A Q E env hE hR hS q
 refine wpAny_UnaryOp (h1 _ _ _ _ _ _ _ _ hE hR hS fun Z₁ as₁ u s₁ S₁ e₁ hu=>?_)
 cases hu using Is.e_int
 exact PyProof.Rows.neg_int (q _ _ _ _ (S₁.toks _) (e₁.trans .refl) (.int _ _))
noncomputable def isSub:UnaryOp→Bool
 | .USub=>true
 | _=>false
theorem isSub_e {a:UnaryOp} (h:isSub a=true):a=.USub:=by induction a using UnaryOp.casesOn <;> first | rfl | exact ff h
noncomputable def negE:Expr→Option Expr
 | .UnaryOp op x _=>grd (isSub op) (some x)
 | _=>none
theorem negE_eq {e x:Expr} (h:negE e=some x):∃ p,e=.UnaryOp .USub x p:=by
 induction e using Expr.casesOn <;> first | exact no h | skip
 exact A1 h fun g h=>by rw [isSub_e g];cases h;exact ⟨_,rfl⟩
theorem AA.negAt {e x:Expr} {a:Int} (h:negE e=some x) (h1:AA W k sc x st (.int a) st₁):AA W k sc e st (.int (-a)) st₁:=by
 obtain ⟨p,rfl⟩:=negE_eq h
 exact .neg h1
theorem AL.inTup {e l r:Expr} {x:Str} {ys:List Str} (h:isIn e=some (l,r)) (hm:behindInMarks .In r=false) (h1:AA W k sc l st (.str x) st₁) (h2:AA W k sc r st₁ (.tup (ys.map .str)) st₂) (hc:PyData.canLayAll0 (ys.map .str)=true) (hx:(PyData.str x).canLay0=true):AL W k sc e st ((ys.map PyData.str).any fun y=>PyData.eqv y (.str x)) st₂:=by
 have hd:∀ ys:List Str,EL (ys.map .str)=some (ys.map .str)∧PyData.depthAll (ys.map .str)=0:=by
  intro ys
  induction ys with
  | nil=>exact ⟨rfl,rfl⟩
  | cons y ys ih =>
   obtain ⟨i1,i3⟩:=ih
   refine ⟨?_,?_⟩
   ·simp only [List.map_cons,EL,dat,i1];rfl
   ·simp only [List.map_cons,PyData.depthAll,i3];rfl
 obtain ⟨d1,d3⟩:=hd ys
 obtain ⟨pos,rfl⟩:=isIn_eq h
 intro Z L as s A Q E env hE hR hS q
 refine wpAny_isTrue_Compare1 (h1 _ _ _ _ _ _ _ _ hE hR hS fun Z₁ as₁ u s₁ S₁ e₁ hu=>h2 _ _ _ _ _ _ _ _ hE hR S₁ fun Z₂ as₂ v s₂ S₂ e₂ hv=>?_) hm
 obtain ⟨bs,rb⟩:=hv.reads (d:=.tuple (ys.map .str)) S₂.zn (by simp only [dat,d1];rfl)
 obtain ⟨cs,rc⟩:=(hu.evo e₂).reads (d:=.str x) S₂.zn rfl
 have:=hR.units
 exact SeqAt.in_tuple_reads rb rc hc hx (by rw [d3];refine (?_:_<9900);exact (lin this (lin (Nat.min_le_left 0 (PyData.str x).depth) (by simp +arith only)))) (wpAny_truthy_bool (q _ _ _ S₂ (e₁.trans e₂)))
end
namespace LX
noncomputable abbrev ix:=top 17
noncomputable abbrev rd:=nth (AB (top 23)) 25
noncomputable abbrev io:=nth (AB (top 23)) 1
noncomputable abbrev tr:=nth (AB (top 23)) 2
noncomputable abbrev ck:=nth (AB (top 23)) 3
noncomputable abbrev it:=nth (AB (top 33)) 0
noncomputable abbrev pc:=nth (AB (top 33)) 1
noncomputable abbrev gt:=nth (AB (top 33)) 5
noncomputable abbrev rt:=nth (AB (top 33)) 6
noncomputable abbrev nx:=nth (AB (top 33)) 10
end LX
noncomputable def dqO:Obj:={cls:=.type "collections.deque",data:=.fields #[.none,.int 0 0]}
noncomputable def sdO (x:List Nat) (p:Nat):AO:=.dict [("_StringIO__newline",.str "\n"),("_StringIO__buf",.str (S x)),("_StringIO__pos",.int (Int.ofNat p))]
noncomputable def wcS:Str:="abcdfeghijklmnopqrstuvwxyzABCDEFGHIJKLMNOPQRSTUVWXYZ0123456789_"++"ßàáâãäåæçèéêëìíîïðñòóôõöøùúûüýþÿÀÁÂÃÄÅÆÇÈÉÊËÌÍÎÏÐÑÒÓÔÕÖØÙÚÛÜÝÞ"
noncomputable def rdO (stt:AV) (tk:List Nat):AO:=.dict [("instream",.own 3),("infile",.none),("posix",.bool true),("eof",.none),("commenters",.str ""),("wordchars",.str wcS),("whitespace",.str " ;,"),("whitespace_split",.bool true),("quotes",.str "\""),("escape",.str "\\"),("escapedquotes",.str "\""),
 ("state",stt),("pushback",.own 4),("lineno",.int 1),("debug",.int 0),("token",.str (S tk)),("filestack",.own 5),("source",.none),("_punctuation_chars",.str "")]
noncomputable def rO (stt:AV) (tk x:List Nat) (p:Nat):List AO:=[rdO stt tk,.inst 788 0,sdO x p,.inst 653 2,.raw dqO,.raw dqO]
structure KH (K:Frag):Prop where
 d592:∃ v n,K.lookup 592=some (B2 [v] n)
section
variable {W:Wd} {k:Nat}
theorem EI (F:KF W.K) {y:Str} {objs:List AO}:AR W 2 (.ref 119) [.int 1,.str y] objs (.int 1) objs :=
 (run2 (k:=0) (x:="n") (y:="what") (v:=.int 1) (u:=.str y) (objs:=objs) (n:=20) (fl:=.ret (.int 1)) (st':=⟨[("n",.int 1),("what",.str y)],objs⟩)
  (o:=[ob (AA W 1 (AM LX.ix) (rE (BE 1 (exprS (nth (AB LX.ix) 2)))) ⟨[("n",.int 1),("what",.str y)],objs⟩ (.int (-1099511627776)) ⟨[("n",.int 1),("what",.str y)],objs⟩)]) F F.f119
  {ex:=fun e st=>if (negE e).isSome then some (.int (-1099511627776),st) else none} (by kernel_rfl!) (by intro pm c v u;kernel_rfl!) (by kernel_rfl!)
  (obs (AC (.negAt (x:=(match rE (BE 1 (exprS (nth (AB LX.ix) 2))) with | .UnaryOp _ x _=>x | _=>default)) (a:=1099511627776) (by kernel_rfl!) (AQ F {} (n:=5) (by kernel_rfl!)))) AS)).ok
theorem FC (F:KF W.K) {stt:AV} {tk x:List Nat} {p:Nat}:AR W 2 (.ref 437) [.own 3] (rO stt tk x p) .none (rO stt tk x p) :=
 (Bv (k:=0) (x:="self") (v:=.own 3) (objs:=rO stt tk x p) (n:=20) (fl:=.next) (st':=⟨[("self",.own 3)],rO stt tk x p⟩) (o:=[]) F F.f437 {} (by kernel_rfl!) (by intro pm c v;kernel_rfl!) (by kernel_rfl!) AS).ok
theorem Lq (F:KF W.K) {stt:AV} {tk x:List Nat} {p:Nat}:BG W 2 (.ref 719) [.own 1] (rO stt tk x p) (.str "") (rO stt tk x p) :=
 Bv (k:=0) (x:="self") (v:=.own 1) (objs:=rO stt tk x p) (n:=20) (fl:=.ret (.str "")) (st':=⟨[("self",.own 1)],rO stt tk x p⟩) (o:=[]) F F.f719 {} (by kernel_rfl!) (by intro pm c v;kernel_rfl!) (by kernel_rfl!) AS
theorem Eo (F:KF W.K) {stt:AV} {tk x:List Nat} {p:Nat}:AP W (k+2) (.ref 719) [.own 1] (rO stt tk x p) (.str "") (rO stt tk x p):=by
 have h:=Lq F (stt:=stt) (tk:=tk) (x:=x) (p:=p)
 have up:∀ k,BG W (k+2) (.ref 719) [.own 1] (rO stt tk x p) (.str "") (rO stt tk x p):=by
  intro k
  induction k with
  | zero=>exact h
  | succ k ih=>exact fun Z as vals s A Q hR=>ih Z as vals s A Q hR.less
 exact ⟨(up k).ok,fun ζ=>⟨up k,rfl⟩⟩
noncomputable def rdC:Value→List AV→List AO→Option (AV×List AO):=fun f args objs=>match f with
 | .ref a=>if a==119 then some (.int 1,objs) else if a==437 then some (.none,objs) else none
 | _=>none
theorem Ej (F:KF W.K) (H:KH W.K) {objs:List AO} {fl:AF} {st':ST} {n:Nat} {o:List Nat} (t:EM) (hr:exS (tb W 2 t) (AM LX.rd) n (AB LX.rd) ⟨[("self",.own 3),("size",.int 1)],objs⟩=some (fl,st',o)) (ho:∀ n∈o,n≤sizeLine) :
  BG W 4 (.ref 599) [.own 3,.int 1] objs fl.val st'.objs :=
 II (names:=["self","size"]) (kok F) F.f599 (by kernel_rfl!) (fun pm c vals s hK hl=>by
  refine oEE H.d592 fun v n hd=>?_
  refine oEE (len2 hl) fun u u' r2_=>?_;subst r2_
  exact BindsTo.of_defaults rfl (hK _ _ hd) rfl rfl rfl) (AN (AW F 2 t) hr ho)
theorem fn_read (F:KF W.K) (H:KH W.K) {stt:AV} {tk x:List Nat} {p c:Nat} (hp:x[p]?=some c) (hl:x.length≤100000):AR W 4 (.ref 599) [.own 3,.int 1] (rO stt tk x p) (.str (S [c])) (rO stt tk x (p+1)):=by
 have hlt:p<x.length:=(List.getElem?_eq_some_iff.mp hp).1
 have hs:Txt.slice (S x) (some (Int.ofNat p)) (some (Int.ofNat (p+1)))=S [c]:=by
  rw [S_mid (Nat.le_succ p) hlt]
  have:p+1 - p=1:=by exact Nat.add_sub_cancel_left ..
  rw [this,List.take_one]
  congr 1
  rw [List.head?_drop,hp];rfl
 by_cases h:p+1<x.length
 ·have:=(Ej F H (objs:=rO stt tk x p) (n:=20) (fl:=.ret (.str (Txt.slice (S x) (some (Int.ofNat p)) (some (Int.ofNat (p+1))))))
   (st':=⟨[("self",.own 3),("size",.int 1),("start",.int (Int.ofNat p)),("stop",.int (Int.ofNat (p+1)))],rO stt tk x (p+1)⟩)
   (o:=[ob (AP W 2 (.ref 119) [.int 1,.str "StringIO.read of a size that is no exact int"] (rO stt tk x p) (.int 1) (rO stt tk x p)),ob (AP W 2 (.ref 437) [.own 3] (rO stt tk x p) .none (rO stt tk x p)),
    ob (decide (Int.ofNat p≥Int.ofNat (S x).length)=false),ob (decide (Int.ofNat p+1<Int.ofNat (S x).length)=true)])
   {call:=rdC,hint:=fun l c=>if l==418 then some false else if l==420&&c==25 then some true else none} (by kernel_rfl!) ?_).ok
  ·simp only [AF.val] at this
   rw [hs] at this
   exact this
  ·rw [AU]
   refine obs (AC (cob (EI F) (by decide))) (obs (AC (cob (FC F) (by decide))) (obs (AC ?_) (obs (AC ?_) AS)))
   ·rw [decide_eq_false_iff_not]
    refine (?_:¬ ((p:Int)≥(x.length:Int)));exact Int.not_le.mpr (Int.ofNat_lt.mpr hlt)
   ·rw [decide_eq_true_eq]
    refine (?_:(p:Int)+1<(x.length:Int));exact Int.ofNat_lt.mpr h
 ·have hx:x.length=p+1:=by exact (Nat.le_antisymm (lin (Nat.le_of_not_lt h) (by simp +arith only)) (lin hlt (by simp +arith only)))
  have:=(Ej F H (objs:=rO stt tk x p) (n:=20) (fl:=.ret (.str (Txt.slice (S x) (some (Int.ofNat p)) (some (Int.ofNat (S x).length)))))
   (st':=⟨[("self",.own 3),("size",.int 1),("start",.int (Int.ofNat p)),("stop",.int (Int.ofNat (S x).length))],rO stt tk x (S x).length⟩)
   (o:=[ob (AP W 2 (.ref 119) [.int 1,.str "StringIO.read of a size that is no exact int"] (rO stt tk x p) (.int 1) (rO stt tk x p)),ob (AP W 2 (.ref 437) [.own 3] (rO stt tk x p) .none (rO stt tk x p)),
    ob (decide (Int.ofNat p≥Int.ofNat (S x).length)=false),ob (decide (Int.ofNat p+1<Int.ofNat (S x).length)=false)])
   {call:=rdC,hint:=fun l c=>if l==418 then some false else if l==420&&c==25 then some false else none} (by kernel_rfl!) ?_).ok
  ·simp only [AF.val] at this
   rw [AU,hx] at this
   rw [hs] at this
   exact this
  ·rw [AU]
   refine obs (AC (cob (EI F) (by decide))) (obs (AC (cob (FC F) (by decide))) (obs (AC ?_) (obs (AC ?_) AS)))
   ·rw [decide_eq_false_iff_not]
    refine (?_:¬ ((p:Int)≥(x.length:Int)));exact Int.not_le.mpr (Int.ofNat_lt.mpr hlt)
   ·rw [decide_eq_false_iff_not]
    refine (?_:¬ ((p:Int)+1<(x.length:Int)));exact fun e=>h (Int.ofNat_lt.mp e)
theorem LK (F:KF W.K) (H:KH W.K) {stt:AV} {tk x:List Nat}:AR W 4 (.ref 599) [.own 3,.int 1] (rO stt tk x x.length) (.str "") (rO stt tk x x.length):=by
 refine (Ej F H (objs:=rO stt tk x x.length) (n:=20) (fl:=.ret (.str ""))
   (st':=⟨[("self",.own 3),("size",.int 1),("start",.int (Int.ofNat x.length)),("stop",.int (Int.ofNat (S x).length))],rO stt tk x x.length⟩)
   (o:=[ob (AP W 2 (.ref 119) [.int 1,.str "StringIO.read of a size that is no exact int"] (rO stt tk x x.length) (.int 1) (rO stt tk x x.length)),ob (AP W 2 (.ref 437) [.own 3] (rO stt tk x x.length) .none (rO stt tk x x.length)),
    ob (decide (Int.ofNat x.length≥Int.ofNat (S x).length)=true)])
   {call:=rdC,hint:=fun l c=>if l==418 then some true else none} (by kernel_rfl!) ?_).ok
 rw [AU]
 refine obs (AC (cob (EI F) (by decide))) (obs (AC (cob (FC F) (by decide))) (obs (AC ?_) AS))
 rw [decide_eq_true_eq]
 exact Int.le_refl _
end
namespace LX
noncomputable abbrev wh:=nth (AB rt) 2
noncomputable abbrev sc:=AM rt
noncomputable abbrev s0:=nth (AB wh) 0
noncomputable abbrev e1:=nth (BD (nth (AB wh) 3)) 0
noncomputable abbrev e2:=nth (BD e1) 0
noncomputable abbrev e3:=nth (BD e2) 0
noncomputable abbrev e4:=nth (BD e3) 0
noncomputable abbrev a1:=nth (AB e4) 0
noncomputable abbrev a2:=nth (BD a1) 0
noncomputable abbrev a3:=nth (BD a2) 0
noncomputable abbrev a4:=nth (BD a3) 0
noncomputable abbrev a5:=nth (BD a4) 0
noncomputable abbrev a6:=nth (BD a5) 0
noncomputable abbrev a7:=nth (BD a6) 0
end LX
noncomputable def LS (q:Bool) (es:Str):List (Str×AV):=[("self",.own 1),("quoted",.bool q),("escapedstate",.str es)]
noncomputable def LN (q:Bool) (es:Str) (n:Str):List (Str×AV):=[("self",.own 1),("quoted",.bool q),("escapedstate",.str es),("nextchar",.str n)]
noncomputable def LE1 (q:Bool):List (Str×AV):=[("self",.own 1),("quoted",.bool q)]
noncomputable def tkC (v:AV) (objs':List AO):Value→List AV→List AO→Option (AV×List AO):=fun f ζ objs=>match f with
 | .ref a=>if a==719 then some (.str "",objs) else if a==599 then some (v,objs') else none
 | _=>none
noncomputable def isOr:Expr→Bool
 | .BoolOp ..=>true
 | _=>false
noncomputable def Ih:Expr→Bool
 | .Compare ..=>true
 | _=>false
section
variable {W:Wd} {k:Nat} {sc:Scope}
theorem Ea {T:Tb} (hT:DJ W k T) {n:Nat} {b:Stmt} {st st':ST} {f:AF} {o:List Nat} (h:ex1 T sc n b st=some (f,st',o)) (ho:∀ n∈o,n≤sizeLine):AH W (k+1) sc b st f st':=(H1 hT n).1 _ _ _ _ _ h ho
theorem Cg (F:KF W.K) (H:KH W.K) {q:Bool} {es:Str} {stt:AV} {tk x:List Nat} {p c:Nat} (hp:x[p]?=some c) (hl:x.length≤100000):AH W 5 LX.sc LX.s0 ⟨LS q es,rO stt tk x p⟩ .next ⟨LN q es (S [c]),rO stt tk x (p+1)⟩ :=
 Ea (AW F 4 {call:=tkC (.str (S [c])) (rO stt tk x (p+1))}) (n:=20) (o:=[ob (AP W 4 (.ref 719) [.own 1] (rO stt tk x p) (.str "") (rO stt tk x p)),ob (AP W 4 (.ref 599) [.own 3,.int 1] (rO stt tk x p) (.str (S [c])) (rO stt tk x (p+1)))]) (by kernel_rfl!)
  (obs (AC (Eo (k:=2) F)) (obs (AC (cob (fn_read F H hp hl) (by decide))) AS))
theorem Hl (F:KF W.K) (H:KH W.K) {q:Bool} {es:Str} {stt:AV} {tk x:List Nat}:AH W 5 LX.sc LX.s0 ⟨LS q es,rO stt tk x x.length⟩ .next ⟨LN q es "",rO stt tk x x.length⟩ :=
 Ea (AW F 4 {call:=tkC (.str "") (rO stt tk x x.length)}) (n:=20) (o:=[ob (AP W 4 (.ref 719) [.own 1] (rO stt tk x x.length) (.str "") (rO stt tk x x.length)),ob (AP W 4 (.ref 599) [.own 3,.int 1] (rO stt tk x x.length) (.str "") (rO stt tk x x.length))]) (by kernel_rfl!)
  (obs (AC (Eo (k:=2) F)) (obs (AC (cob (LK F H) (by decide))) AS))
theorem D5 (F:KF W.K) {q:Bool} {es n:Str} {tk x:List Nat} {p:Nat}:AL W 5 LX.sc (exprS LX.e4) ⟨LN q es n,rO (.str "a") tk x p⟩ true ⟨LN q es n,rO (.str "a") tk x p⟩ :=
 AL.inTup (x:="a") (ys:=["a","c"]) (l:=lE (exprS LX.e4)) (r:=rE (exprS LX.e4)) (by kernel_rfl!) (by kernel_rfl!) (AQ (k:=4) F {} (n:=10) (by kernel_rfl!)) (AQ (k:=4) F {} (n:=10) (by kernel_rfl!)) (by kernel_rfl!) (by kernel_rfl!)
theorem D1 (F:KF W.K) (t:EM) {n:Nat} {e:Expr} {st:ST} {b:Bool} {o:List Nat} (h:tsE (tb W k t) sc n e st=some (b,st,o)) (ho:∀ n∈o,n≤sizeLine):AL W (k+1) sc e st b st:=Gi (AW F k t) h ho
theorem rt_or (F:KF W.K) {q:Bool} {es:Str} {tk x:List Nat} {p c:Nat} (hq:inF (S [c]) "\""=false):AL W 5 LX.sc (exprS LX.a7) ⟨LN q es (S [c]),rO (.str "a") tk x p⟩ true ⟨LN q es (S [c]),rO (.str "a") tk x p⟩:=by
 by_cases h:inF (S [c]) wcS=true
 ·exact D1 (k:=4) F {hint:=fun ζ c=>if c==21 then some true else none} (n:=20) (o:=[ob (inF (S [c]) wcS=true)]) (by kernel_rfl!) (obs (AC h) AS)
 ·rw [Bool.not_eq_true] at h
  have he:inF (S [c]) ""=false:=by kernel_rfl!
  exact D1 (k:=4) F {call:=tkC .none [],hint:=fun ζ c=>if c==21 then some false else if c==51 then some false else if c==105 then some true else none} (n:=20)
   (o:=[ob (inF (S [c]) wcS=false),ob (inF (S [c]) "\""=false),ob (AP W 4 (.ref 719) [.own 1] (rO (.str "a") tk x p) (.str "") (rO (.str "a") tk x p)),ob ((!inF (S [c]) "")=true)]) (by kernel_rfl!)
   (obs (AC h) (obs (AC hq) (obs (AC (Eo (k:=2) F)) (obs (AC (by rw [he];rfl)) AS))))
end
noncomputable def rT (stt:AV) (tok:Str) (x:List Nat) (p:Nat):List AO:=[.dict [("instream",.own 3),("infile",.none),("posix",.bool true),("eof",.none),("commenters",.str ""),("wordchars",.str wcS),("whitespace",.str " ;,"),("whitespace_split",.bool true),("quotes",.str "\""),("escape",.str "\\"),("escapedquotes",.str "\""),
 ("state",stt),("pushback",.own 4),("lineno",.int 1),("debug",.int 0),("token",.str tok),("filestack",.own 5),("source",.none),("_punctuation_chars",.str "")],.inst 788 0,sdO x p,.inst 653 2,.raw dqO,.raw dqO]
theorem I2 {stt:AV} {tk x:List Nat} {p:Nat}:rT stt (S tk) x p=rO stt tk x p:=rfl
noncomputable def Cb (c:Nat):Bool:=c==32 || c==59 || c==44
theorem sgF {c:Nat} (h:c∈Rx.signs):(S [c]=="\n")=false∧inF (S [c]) " ;,"=Cb c∧inF (S [c]) "\""=(c==34)∧inF (S [c]) "\\"=(c==92):=by
 have:(Rx.signs.all fun c=>(S [c]=="\n")==false&&(inF (S [c]) " ;,"==Cb c&&(inF (S [c]) "\""==(c==34)&&inF (S [c]) "\\"==(c==92))))=true:=by decide +kernel
 have:=List.all_eq_true.mp this c h
 simp only [Bool.and_eq_true,beq_iff_eq] at this
 exact this
noncomputable def tlT (l':List (Str×AV)) (objs':List AO) (hint:Nat→Nat→Option Bool) (ts:Expr→ST→Option (Bool×ST)):EM:={st:=fun s ζ=>if (B3 s).line==636 then some (.next,⟨l',objs'⟩) else none,hint:=hint,ts:=ts}
noncomputable def tsA (e:Expr) (st:ST):Option (Bool×ST):=if Ih e&&e.pos.line==710 then some (true,st) else if isOr e&&(e.pos.line==744&&e.pos.col==21) then some (true,st) else none
section
variable {W:Wd} {k:Nat} {sc:Scope} {q:Bool} {es:Str} {tk x:List Nat} {p c:Nat}
noncomputable abbrev C5 (W:Wd) (q:Bool) (es:Str) (o:List AO) (f:AF) (q':Bool) (es':Str) (o':List AO):Prop:=A8 W 5 LX.sc (AB LX.wh) ⟨LS q es,o⟩ f ⟨LS q' es',o'⟩
theorem CL {q:Bool} {es n:Str}:Sub (LS q es) (LN q es n):=.cons rfl (.cons rfl (.cons rfl .nil))
theorem Jo (F:KF W.K) (H:KH W.K) (hp:x[p]?=some c) (hl:x.length≤100000) (hc:c∈Rx.signs) (h1:Cb c=false) (h2:c≠34) (h3:c≠92) (ht:tk.length≤100000) :
  C5 W q es (rO (.str "a") tk x p) .next q es (rO (.str "a") (tk++[c]) x (p+1)):=by
 refine FW (sgF hc) fun c1 c2 c3 c4=>?_
 rw [h1] at c2
 rw [beq_false_of_ne h2] at c3
 rw [beq_false_of_ne h3] at c4
 have he:inF (S [c]) ""=false:=by kernel_rfl!
 have:=AN (sc:=LX.sc) (AW F 4 (tlT (LN q es (S [c])) (rO (.str "a") tk x (p+1)) (fun l c=>if l==640 || l==714 || l==722 then some false else if (l==739 || l==741)&&c==36 then some false else none) tsA)) (n:=50) (b:=AB LX.wh) (st:=⟨LS q es,rO (.str "a") tk x p⟩)
  (f:=.next) (st':=⟨LN q es (S [c]),rT (.str "a") (S tk++S [c]) x (p+1)⟩)
  (o:=[ob (AH W 5 LX.sc LX.s0 ⟨LS q es,rO (.str "a") tk x p⟩ .next ⟨LN q es (S [c]),rO (.str "a") tk x (p+1)⟩),ob ((S [c]=="\n")=false),ob (AL W 5 LX.sc (exprS LX.e4) ⟨LN q es (S [c]),rO (.str "a") tk x (p+1)⟩ true ⟨LN q es (S [c]),rO (.str "a") tk x (p+1)⟩),ob (inF (S [c]) " ;,"=false),ob (inF (S [c]) ""=false),
   ob (inF (S [c]) "\""=false),ob (inF (S [c]) "\\"=false),ob (AL W 5 LX.sc (exprS LX.a7) ⟨LN q es (S [c]),rO (.str "a") tk x (p+1)⟩ true ⟨LN q es (S [c]),rO (.str "a") tk x (p+1)⟩),(S tk).length+(S [c]).length]) (by kernel_rfl!)
  (obs (AC (Cg F H hp hl)) (obs (AC c1) (obs (AC (D5 F)) (obs (AC c2) (obs (AC he) (obs (AC c3) (obs (AC c4) (obs (AC (rt_or F c3)) (obs (szl (by rw [AU,AU];simp only [List.length_cons,List.length_nil];exact lin (by assumption) (by simp +arith only))) AS)))))))))
 rw [Ai,I2] at this
 exact this.forget CL rfl
theorem JE (F:KF W.K) (H:KH W.K) (hp:x[p]?=some c) (hl:x.length≤100000) (hc:c∈Rx.signs) (h1:Cb c=true) (ht:tk≠[]) :
  A8 W 5 LX.sc (AB LX.wh) ⟨LS q es,rO (.str "a") tk x p⟩ .brk ⟨LE1 q,rO (.str " ") tk x (p+1)⟩:=by
 refine FW (sgF hc) fun c1 c2 c3 c4=>?_
 rw [h1] at c2
 have hn:((S tk).length != 0)=true:=by rw [AU];induction tk using List.casesOn <;> simp_all
 have:=AN (sc:=LX.sc) (AW F 4 (tlT (LN q es (S [c])) (rO (.str "a") tk x (p+1)) (fun l c=>if l==640 then some false else if l==714 || l==718 then some true else none) tsA)) (n:=50) (b:=AB LX.wh) (st:=⟨LS q es,rO (.str "a") tk x p⟩)
  (f:=.brk) (st':=⟨LN q es (S [c]),rO (.str " ") tk x (p+1)⟩)
  (o:=[ob (AH W 5 LX.sc LX.s0 ⟨LS q es,rO (.str "a") tk x p⟩ .next ⟨LN q es (S [c]),rO (.str "a") tk x (p+1)⟩),ob ((S [c]=="\n")=false),ob (AL W 5 LX.sc (exprS LX.e4) ⟨LN q es (S [c]),rO (.str "a") tk x (p+1)⟩ true ⟨LN q es (S [c]),rO (.str "a") tk x (p+1)⟩),ob (inF (S [c]) " ;,"=true),
   ob (((S tk).length != 0)=true)]) (by kernel_rfl!)
  (obs (AC (Cg F H hp hl)) (obs (AC c1) (obs (AC (D5 F)) (obs (AC c2) (obs (AC hn) AS)))))
 exact this.forget (.cons rfl (.cons rfl .nil)) rfl
theorem JD (F:KF W.K) (H:KH W.K) :
  A8 W 5 LX.sc (AB LX.wh) ⟨LS q es,rO (.str "a") tk x x.length⟩ .brk ⟨LE1 q,rO .none tk x x.length⟩:=by
 have:=AN (sc:=LX.sc) (AW F 4 (tlT (LN q es "") (rO (.str "a") tk x x.length) (fun ζ ζ=>none) tsA)) (n:=50) (b:=AB LX.wh) (st:=⟨LS q es,rO (.str "a") tk x x.length⟩)
  (f:=.brk) (st':=⟨LN q es "",rO .none tk x x.length⟩)
  (o:=[ob (AH W 5 LX.sc LX.s0 ⟨LS q es,rO (.str "a") tk x x.length⟩ .next ⟨LN q es "",rO (.str "a") tk x x.length⟩),ob (AL W 5 LX.sc (exprS LX.e4) ⟨LN q es "",rO (.str "a") tk x x.length⟩ true ⟨LN q es "",rO (.str "a") tk x x.length⟩)]) (by kernel_rfl!)
  (obs (AC (Hl F H)) (obs (AC (D5 F)) AS))
 exact this.forget (.cons rfl (.cons rfl .nil)) rfl
theorem t_open (F:KF W.K) (H:KH W.K) (hp:x[p]?=some 34) (hl:x.length≤100000):C5 W q es (rO (.str "a") tk x p) .next q es (rO (.str (S [34])) tk x (p+1)):=by
 have:=AN (sc:=LX.sc) (AW F 4 (tlT (LN q es (S [34])) (rO (.str "a") tk x (p+1)) (fun ζ ζ=>none) tsA)) (n:=50) (b:=AB LX.wh) (st:=⟨LS q es,rO (.str "a") tk x p⟩)
  (f:=.next) (st':=⟨LN q es (S [34]),rO (.str (S [34])) tk x (p+1)⟩)
  (o:=[ob (AH W 5 LX.sc LX.s0 ⟨LS q es,rO (.str "a") tk x p⟩ .next ⟨LN q es (S [34]),rO (.str "a") tk x (p+1)⟩),ob (AL W 5 LX.sc (exprS LX.e4) ⟨LN q es (S [34]),rO (.str "a") tk x (p+1)⟩ true ⟨LN q es (S [34]),rO (.str "a") tk x (p+1)⟩)]) (by kernel_rfl!)
  (obs (AC (Cg F H hp hl)) (obs (AC (D5 F)) AS))
 exact this.forget CL rfl
theorem t_close (F:KF W.K) (H:KH W.K) (hp:x[p]?=some 34) (hl:x.length≤100000):C5 W q es (rO (.str (S [34])) tk x p) .next true es (rO (.str "a") tk x (p+1)):=by
 have:=AN (sc:=LX.sc) (AW F 4 (tlT (LN q es (S [34])) (rO (.str (S [34])) tk x (p+1)) (fun ζ ζ=>none) tsA)) (n:=50) (b:=AB LX.wh) (st:=⟨LS q es,rO (.str (S [34])) tk x p⟩)
  (f:=.next) (st':=⟨LN true es (S [34]),rO (.str "a") tk x (p+1)⟩)
  (o:=[ob (AH W 5 LX.sc LX.s0 ⟨LS q es,rO (.str (S [34])) tk x p⟩ .next ⟨LN q es (S [34]),rO (.str (S [34])) tk x (p+1)⟩)]) (by kernel_rfl!)
  (obs (AC (Cg F H hp hl)) AS)
 exact this.forget CL rfl
theorem t_back (F:KF W.K) (H:KH W.K) (hp:x[p]?=some 92) (hl:x.length≤100000):C5 W q es (rO (.str (S [34])) tk x p) .next true (S [34]) (rO (.str (S [92])) tk x (p+1)):=by
 have:=AN (sc:=LX.sc) (AW F 4 (tlT (LN q es (S [92])) (rO (.str (S [34])) tk x (p+1)) (fun ζ ζ=>none) tsA)) (n:=50) (b:=AB LX.wh) (st:=⟨LS q es,rO (.str (S [34])) tk x p⟩)
  (f:=.next) (st':=⟨LN true (S [34]) (S [92]),rO (.str (S [92])) tk x (p+1)⟩)
  (o:=[ob (AH W 5 LX.sc LX.s0 ⟨LS q es,rO (.str (S [34])) tk x p⟩ .next ⟨LN q es (S [92]),rO (.str (S [34])) tk x (p+1)⟩)]) (by kernel_rfl!)
  (obs (AC (Cg F H hp hl)) AS)
 exact this.forget CL rfl
theorem t_in (F:KF W.K) (H:KH W.K) (hp:x[p]?=some c) (hl:x.length≤100000) (hc:c∈Rx.signs) (h2:c≠34) (h3:c≠92) (ht:tk.length≤100000) :
  C5 W q es (rO (.str (S [34])) tk x p) .next true es (rO (.str (S [34])) (tk++[c]) x (p+1)):=by
 refine FW (sgF hc) fun c1 c2 c3 c4=>?_
 have h34:(S [c]==S [34])=false:=by
  apply beq_false_of_ne
  rw [Ne,Fv]
  simpa using h2
 rw [beq_false_of_ne h3] at c4
 have:=AN (sc:=LX.sc) (AW F 4 (tlT (LN q es (S [c])) (rO (.str (S [34])) tk x (p+1)) (fun l c=>if l==640 || l==689 then some false else if l==696&&c==36 then some false else none) tsA)) (n:=50) (b:=AB LX.wh) (st:=⟨LS q es,rO (.str (S [34])) tk x p⟩)
  (f:=.next) (st':=⟨LN true es (S [c]),rT (.str (S [34])) (S tk++S [c]) x (p+1)⟩)
  (o:=[ob (AH W 5 LX.sc LX.s0 ⟨LS q es,rO (.str (S [34])) tk x p⟩ .next ⟨LN q es (S [c]),rO (.str (S [34])) tk x (p+1)⟩),ob ((S [c]=="\n")=false),ob ((S [c]==S [34])=false),ob (inF (S [c]) "\\"=false),(S tk).length+(S [c]).length]) (by kernel_rfl!)
  (obs (AC (Cg F H hp hl)) (obs (AC c1) (obs (AC h34) (obs (AC c4) (obs (szl (by rw [AU,AU];simp only [List.length_cons,List.length_nil];exact lin (by assumption) (by simp +arith only))) AS)))))
 rw [Ai,I2] at this
 exact this.forget CL rfl
theorem t_esc (F:KF W.K) (H:KH W.K) (hp:x[p]?=some c) (hl:x.length≤100000) (hc:c=34∨c=92) (ht:tk.length≤100000) :
  C5 W q (S [34]) (rO (.str (S [92])) tk x p) .next q (S [34]) (rO (.str (S [34])) (tk++[c]) x (p+1)):=by
 have sz:(S tk).length+(S [c]).length≤sizeLine:=szl (by rw [AU,AU];simp only [List.length_cons,List.length_nil];exact lin (by assumption) (by simp +arith only))
 rcases hc with rfl | rfl
 ·have:=AN (sc:=LX.sc) (AW F 4 (tlT (LN q (S [34]) (S [34])) (rO (.str (S [92])) tk x (p+1)) (fun ζ ζ=>none) tsA)) (n:=50) (b:=AB LX.wh) (st:=⟨LS q (S [34]),rO (.str (S [92])) tk x p⟩)
   (f:=.next) (st':=⟨LN q (S [34]) (S [34]),rT (.str (S [34])) (S tk++S [34]) x (p+1)⟩)
   (o:=[ob (AH W 5 LX.sc LX.s0 ⟨LS q (S [34]),rO (.str (S [92])) tk x p⟩ .next ⟨LN q (S [34]) (S [34]),rO (.str (S [92])) tk x (p+1)⟩),(S tk).length+(S [34]).length]) (by kernel_rfl!)
   (obs (AC (Cg F H hp hl)) (obs sz AS))
  rw [Ai,I2] at this
  exact this.forget CL rfl
 ·have:=AN (sc:=LX.sc) (AW F 4 (tlT (LN q (S [34]) (S [92])) (rO (.str (S [92])) tk x (p+1)) (fun ζ ζ=>none) tsA)) (n:=50) (b:=AB LX.wh) (st:=⟨LS q (S [34]),rO (.str (S [92])) tk x p⟩)
   (f:=.next) (st':=⟨LN q (S [34]) (S [92]),rT (.str (S [34])) (S tk++S [92]) x (p+1)⟩)
   (o:=[ob (AH W 5 LX.sc LX.s0 ⟨LS q (S [34]),rO (.str (S [92])) tk x p⟩ .next ⟨LN q (S [34]) (S [92]),rO (.str (S [92])) tk x (p+1)⟩),(S tk).length+(S [92]).length]) (by kernel_rfl!)
   (obs (AC (Cg F H hp hl)) (obs sz AS))
  rw [Ai,I2] at this
  exact this.forget CL rfl
end
end Mine
end
section
set_option maxRecDepth 100000
namespace Mine
open PySem PySem.W PyProof.Rows PySem.Calls PySem.Spec
open Sem (wp)
theorem CC:Slot "collections.deque" "__len__" "collections.deque.__len__" :=
 .of (owner:="collections.deque") (n:="__len__") (by rw [typeLookup_type,builtinLookup_eq_fast];kernel_rfl) (by decide +kernel) (by decide +kernel) (by decide +kernel) (.inl (by decide +kernel)) (by rw [isSubtype_type];kernel_rfl)
theorem G4:Slot "collections.deque" "__init__" "collections.deque.__init__" :=
 .of (owner:="collections.deque") (n:="__init__") (by rw [typeLookup_type,builtinLookup_eq_fast];kernel_rfl) (by decide +kernel) (by decide +kernel) (by decide +kernel) (.inl (by decide +kernel)) (by rw [isSubtype_type];kernel_rfl)
theorem G6:entryFor table "collections.deque.__len__"=some Builtin.«collections.deque.__len__»:=entryFor_of_tree (by kernel_rfl)
theorem F0:entryFor table "collections.deque.__init__"=some Builtin.«collections.deque.__init__»:=entryFor_of_tree (by kernel_rfl)
theorem G5:entryFor table "collections.deque.__new__"=some Builtin.«collections.deque.__new__»:=entryFor_of_tree (by kernel_rfl)
theorem H4 (a:Value):argsOk "collections.deque.__len__" ⟨[a],[]⟩:=by unfold argsOk;kernel_rfl
theorem G7 (a:Value):argsOk "collections.deque.__init__" ⟨[a],[]⟩:=by unfold argsOk;kernel_rfl
theorem Fp:typeLookup (.type "collections.deque") "__bool__"=pure none:=by rw [typeLookup_type,builtinLookup_eq_fast];kernel_rfl
theorem Li:mroOf (.type "collections.deque")=pure [.type "collections.deque",.type "object"]:=by rw [mroOf_type];kernel_rfl
theorem FZ:typeLookup (.type "collections.deque") "__new__"=pure (some (.builtin "collections.deque.__new__")):=by rw [typeLookup_type,builtinLookup_eq_fast];kernel_rfl
theorem Lg:isSubtype (.type "collections.deque") (.type "collections.deque")=pure true:=by rw [isSubtype_type];kernel_rfl
theorem J7:TypeCalled "collections.deque" "collections.deque.__new__" "collections.deque.__init__" :=
 ⟨by decide +kernel,by decide +kernel,⟨_,_,Li⟩,madeBy_type Li FZ (by decide +kernel),by decide +kernel,Lg,G4⟩
theorem Lf:checkTypeCall "collections.deque" ⟨[],[]⟩=pure ():=by kernel_rfl
theorem Lh:checkBuiltinCall "collections.deque.__new__" ⟨[.type "collections.deque"],[]⟩=pure ():=by kernel_rfl
theorem Dm:plainId "collections.deque.__new__"=true:=by decide +kernel
section
variable {W:Wd} {A:Around} {E:Value→Shared→Prop} {s:Shared}
theorem Le {l:Addr} {Q:Bool→Shared→Prop} (h:s.heap.get? l=some dqO) (q:∀ tk,Q false {s with toks:=tk}):wpAny W.M A (truthy (.ref l)) Q E s:=by
 have hT:s.TypeIs (.ref l) "collections.deque":=⟨_,h,rfl⟩
 have body:∀ {A:Around} {Q':Value→Shared→Prop},Q' (.int 0 (s.toks+1)) {s with toks:=s.toks+1+1}→wpAny W.M A (Builtin.«len» ⟨[.ref l],[]⟩) (fun fin s'=>∃ r,fin=.done (.ret r)∧Q' r s') E s:=by
  intro A Q' hq
  unfold Builtin.«len»
  refine wpAny_bind (m:=oneArg "len" _) (wpAny_pure ?_)
  refine wpAny_bind (m:=callSpecial? (.ref l) (Str.ofString "__len__")) (wpAny_callSpecial?_slot (name:=Str.ofString "__len__") hT CC (wpAny_call_entry CC hT G6 ?_ (H4 _)))
  refine (?_:wpAny _ _ (do retInt (← Builtin.Deque.size (.ref l))) _ _ s)
  unfold Builtin.Deque.size
  refine wpAny_bind (wpAny_bind (wpAny_fieldsOf h rfl (wpAny_pure ?_)))
  refine wpAny_bind (wpAny_mkInt (wpAny_pure ⟨_,rfl,?_⟩))
  refine wpAny_bind (wpAny_holding (wpAny_pure ?_))
  refine wpAny_bind (wpAny_letGo ?_)
  exact wpAny_bind (wpAny_mkInt (wpAny_pure ⟨_,rfl,hq⟩))
 have key:wpAny W.M A (runValue (.builtin "len" ⟨[.ref l],[]⟩)) (fun r s'=>r=.int 0 (s.toks+1)∧Q false s') E s:=by
  refine wpAny_runValue (codeAny_builtin entry_len ?_)
  rw [Around.under_plainId plain_len _]
  exact wpAny_mono (body (Q':=fun r s'=>r=.int 0 (s.toks+1)∧Q false s') ⟨rfl,q _⟩) (fun fin s' h'=>by refine AG h' fun r r1_ hq=>?_;subst r1_;exact hq) fun ζ ζ e=>e
 unfold truthy
 first
  | refine wpAny_bind (wpAny_callSpecial?_none (name:=Str.ofString "__bool__") hT Fp ?_)
  | refine wpAny_bind (wpAny_pure (wpAny_bind (wpAny_callSpecial?_none (name:=Str.ofString "__bool__") hT Fp ?_)))
 first
  | refine wpAny_bind (wpAny_specialOf (name:=Str.ofString "__len__") hT CC.lookup ?_)
  | refine wpAny_bind (wpAny_pure (wpAny_bind (wpAny_specialOf (name:=Str.ofString "__len__") hT CC.lookup ?_)))
 first
  | exact wpAny_bind (wpAny_mono key (fun r s' h'=>by obtain ⟨rfl,hq⟩:=h';exact wpAny_pure hq) fun ζ ζ e=>e)
  | exact wpAny_bind (wpAny_pure (wpAny_bind (wpAny_mono key (fun r s' h'=>by obtain ⟨rfl,hq⟩:=h';exact wpAny_pure hq) fun ζ ζ e=>e)))
theorem dq_new {Q₁:Value→Shared→Prop} (h:Q₁ (.ref s.heap.objs.size) {s with heap:=s.heap.push dqO}):codeAny W.M A (.call (.builtin "collections.deque.__new__") ⟨[.type "collections.deque"],[]⟩) (wants Q₁ E) s:=by
 refine codeAny_of_tree ?_
 refine (?_:wpAny _ A.in1 (do checkBuiltinCall "collections.deque.__new__" ⟨[.type "collections.deque"],[]⟩;again (.builtin "collections.deque.__new__" ⟨[.type "collections.deque"],[]⟩)) _ _ s)
 refine wpAny_bind (wpAny_of_eq Lh (wpAny_pure ⟨plainId_quiet Dm _,codeAny_builtin G5 ?_⟩))
 rw [Around.under_plainId Dm _]
 have hsub:=Lg
 unfold Builtin.«collections.deque.__new__» Builtin.Deque.newArgs
 obtain ⟨hp,g,d,tk,os⟩:=s
 wp_walk
 change wpAny _ _ (isSubtype (.type "collections.deque") (.type "collections.deque")) _ _ _
 rw [hsub]
 refine wpAny_pure ?_
 refine Eq.substr (if_neg Bool.false_ne_true) ?_
 refine wpAny_pure ?_
 unfold Builtin.Deque.new
 wp_walk
 exact h
theorem dq_call {Q:Value→Shared→Prop} (h:∀ h',(∀ b o,s.heap.get? b=some o→h'.get? b=some o)→h'.get? s.heap.objs.size=some dqO→h'.objs.size=s.heap.objs.size+1→Q (.ref s.heap.objs.size) {s with heap:=h'}):wpAny W.M A (call (.type "collections.deque") []) Q E s:=by
 refine callType_codes (Q₁:=fun obj s₁=>obj=.ref s.heap.objs.size∧s₁={s with heap:=s.heap.push dqO}) J7 Lf F0 (dq_new ⟨rfl,rfl⟩) fun obj s₁ h₁=>?_
 obtain ⟨rfl,rfl⟩:=h₁
 have hS:(s.heap.push dqO).get? s.heap.objs.size=some dqO:=Heap.get?_push_size _ rfl
 refine ⟨⟨_,hS,rfl⟩,G7 _,?_⟩
 have hS2:((s.heap.push dqO).update s.heap.objs.size (Obj.mapFields (·.setIfInBounds 0 .none))).get? s.heap.objs.size=some dqO:=by
  rw [Heap.get?_update_self _ hS rfl];rfl
 refine (?_:wpAny _ _ (do setField (.ref s.heap.objs.size) 0 .none;Builtin.Deque.clear (.ref s.heap.objs.size);ret .none) _ _ _)
 refine wpAny_bind (wpAny_setField hS rfl (by refine (?_:0<2);decide) ?_)
 refine wpAny_bind ?_
 unfold Builtin.Deque.clear Builtin.Deque.items
 refine wpAny_bind (wpAny_bind (wpAny_fieldsOf hS2 rfl (wpAny_pure ?_)))
 refine wpAny_pure (wpAny_pure ⟨rfl,?_⟩)
 refine h _ (fun b o e=>?_) hS2 ?_
 ·rw [Heap.get?_update_other _ _ (Nat.ne_of_gt (Heap.lt_size e))]
  exact Heap.get?_push_of_some _ e
 ·rw [Heap.size_after_update,Heap.size_push]
end
end Mine
end
section
set_option maxRecDepth 10000
namespace Mine
open PySem PySem.W PyProof.Rows PySem.Calls PySem.Spec
variable [T₀:AY]
section
variable {W:Wd} {Z:AK} {L:Addr} {as:List Addr} {st:ST} {A:Around} {E:Value→Shared→Prop} {s:Shared} {k:Nat} {sc:Scope}
theorem Ow.snoc {objs:List AO} {x:AO} {o:Obj} {h h':Heap} {a:Addr} (ow:Ow Z as objs h) (zn:Zn W Z h) (g:A6 h h') (ha:h'.get? a=some o) (hn:h.objs.size≤a) (hx:IsO Z (as++[a]) x o):Ow Z (as++[a]) (objs++[x]) h':=by
 have noIn:∀ b∈as,b<h.objs.size:=fun b hb=>by
  refine oEP (List.getElem_of_mem hb) fun i hi r2_=>?_;subst r2_
  have hi':i<objs.length:=by rw [← ow.len];exact hi
  refine AG (ow.obj i _ objs[i] (List.getElem?_eq_getElem hi) (List.getElem?_eq_getElem hi')) fun o h1 ζ=>?_
  exact Heap.lt_size h1
 refine ⟨by simp [ow.len],fun i b y e1 e2=>?_,?_,fun b hb=>?_⟩
 ·by_cases hi:i<as.length
  ·rw [List.getElem?_append_left hi] at e1
   rw [List.getElem?_append_left (by rw [← ow.len];exact hi)] at e2
   refine AG (ow.obj i b y e1 e2) fun o' h1 h2=>?_
   exact ⟨o',g.1 _ _ h1,h2.mono fun ζ ζ h=>h⟩
  ·rw [List.getElem?_append_right (Nat.le_of_not_lt hi)] at e1
   rw [List.getElem?_append_right (by rw [← ow.len];exact Nat.le_of_not_lt hi),← ow.len] at e2
   have hz:i - as.length=0:=by
    have:=(List.getElem?_eq_some_iff.mp e1).1
    simp at this;assumption
   rw [hz] at e1 e2
   cases e1;cases e2
   exact ⟨o,ha,hx⟩
 ·rw [List.nodup_append]
  refine ⟨ow.nodup,by simp,fun b hb c hc=>?_⟩
  rw [List.mem_singleton.mp hc]
  exact Nat.ne_of_lt (Nat.lt_of_lt_of_le (noIn b hb) hn)
 ·rcases List.mem_append.mp hb with hb | hb
  ·exact ow.out b hb
  ·rw [List.mem_singleton.mp hb]
   exact ⟨fun o' q=>absurd (Heap.lt_size (zn.keep _ _ q)) (Nat.not_lt.mpr hn),fun q=>AG (zn.tab _ q) fun vs e ζ=>absurd (Heap.lt_size e) (Nat.not_lt.mpr hn)⟩
theorem HW {objs:List AO}:AR W k (.type "collections.deque") [] objs (.own objs.length) (objs++[.raw dqO]):=by
 intro Z as vals s A Q E hR zn ow hv q
 cases hv using IsL.e_nil
 refine dq_call fun h' hk hn hsz=>?_
 have g:A6 s.heap h':=⟨hk,by rw [hsz];exact Nat.le_succ _⟩
 refine q Z (as++[s.heap.objs.size]) _ _ (zn.grow g) (ow.snoc zn g hn (Nat.le_refl _) (.raw rfl)) ⟨fun ζ ζ h=>h,fun ζ ζ h=>.inl h,⟨_,rfl,fun a ha=>by rw [List.mem_singleton.mp ha];exact Nat.le_refl _⟩,fun b o h ζ ζ ζ=>hk b o h,g.2,AY.grr _,rfl,rfl⟩ (.own ?_)
 rw [List.getElem?_append_right (by rw [ow.len];exact Nat.le_refl _),ow.len];simp
noncomputable def Kq:Expr→Bool
 | .Attribute ..=>true
 | _=>false
theorem AL.deque {e:Expr} {i:Nat} {st₁:ST} (ha:Kq e=true) (h1:AA W k sc e st (.own i) st₁) (hi:st₁.objs[i]?=some (.raw dqO)):AL W k sc e st false st₁:=by
 induction e using Expr.casesOn <;> first | exact ff ha;done | skip
 intro Z L as s A Q E env hE hR hS q
 refine wpAny_isTrue_value (h1 _ _ _ _ _ _ _ _ hE hR hS fun Z₁ as₁ u s₁ S₁ e₁ hu=>?_) rfl
 cases hu using Is.e_own with
 | _ _ hx =>
  refine AG (S₁.ow.obj _ _ _ hx hi) fun o h3 h4=>?_
  cases h4
  exact Le h3 fun tk=>q _ _ _ (S₁.toks tk) (e₁.trans .refl)
end
section
variable {W:Wd} {k:Nat} {sc:Scope} {q:Bool} {es:Str} {tk x:List Nat} {p c:Nat}
theorem t_skip (F:KF W.K) (H:KH W.K) (hp:x[p]?=some c) (hl:x.length≤100000) (hc:c∈Rx.signs) (h1:Cb c=true) :
  C5 W false es (rO (.str " ") [] x p) .cont false es (rO (.str " ") [] x (p+1)):=by
 refine FW (sgF hc) fun c1 c2 c3 c4=>?_
 rw [h1] at c2
 have:=AN (sc:=LX.sc) (AW F 4 (tlT (LN false es (S [c])) (rO (.str " ") [] x (p+1)) (fun l c=>if l==640 then some false else if l==651 then some true else none) tsA)) (n:=50) (b:=AB LX.wh) (st:=⟨LS false es,rO (.str " ") [] x p⟩)
  (f:=.cont) (st':=⟨LN false es (S [c]),rO (.str " ") [] x (p+1)⟩)
  (o:=[ob (AH W 5 LX.sc LX.s0 ⟨LS false es,rO (.str " ") [] x p⟩ .next ⟨LN false es (S [c]),rO (.str " ") [] x (p+1)⟩),ob ((S [c]=="\n")=false),ob (inF (S [c]) " ;,"=true)]) (by kernel_rfl!)
  (obs (AC (Cg F H hp hl)) (obs (AC c1) (obs (AC c2) AS)))
 exact this.forget CL rfl
theorem t_first (F:KF W.K) (H:KH W.K) (hp:x[p]?=some c) (hl:x.length≤100000) (hc:c=109∨c=110) :
  C5 W q es (rO (.str " ") tk x p) .next q es (rO (.str "a") [c] x (p+1)):=by
 rcases hc with rfl | rfl
 ·have:=AN (sc:=LX.sc) (AW F 4 (tlT (LN q es (S [109])) (rO (.str " ") tk x (p+1)) (fun ζ ζ=>none) tsA)) (n:=50) (b:=AB LX.wh) (st:=⟨LS q es,rO (.str " ") tk x p⟩)
   (f:=.next) (st':=⟨LN q es (S [109]),rO (.str "a") [109] x (p+1)⟩)
   (o:=[ob (AH W 5 LX.sc LX.s0 ⟨LS q es,rO (.str " ") tk x p⟩ .next ⟨LN q es (S [109]),rO (.str " ") tk x (p+1)⟩)]) (by kernel_rfl!) (obs (AC (Cg F H hp hl)) AS)
  exact this.forget CL rfl
 ·have:=AN (sc:=LX.sc) (AW F 4 (tlT (LN q es (S [110])) (rO (.str " ") tk x (p+1)) (fun ζ ζ=>none) tsA)) (n:=50) (b:=AB LX.wh) (st:=⟨LS q es,rO (.str " ") tk x p⟩)
   (f:=.next) (st':=⟨LN q es (S [110]),rO (.str "a") [110] x (p+1)⟩)
   (o:=[ob (AH W 5 LX.sc LX.s0 ⟨LS q es,rO (.str " ") tk x p⟩ .next ⟨LN q es (S [110]),rO (.str " ") tk x (p+1)⟩)]) (by kernel_rfl!) (obs (AC (Cg F H hp hl)) AS)
  exact this.forget CL rfl
theorem t_eof (F:KF W.K) (H:KH W.K):A8 W 5 LX.sc (AB LX.wh) ⟨LS q es,rO (.str " ") tk x x.length⟩ .brk ⟨LE1 q,rO .none tk x x.length⟩:=by
 have:=AN (sc:=LX.sc) (AW F 4 (tlT (LN q es "") (rO (.str " ") tk x x.length) (fun ζ ζ=>none) tsA)) (n:=50) (b:=AB LX.wh) (st:=⟨LS q es,rO (.str " ") tk x x.length⟩)
  (f:=.brk) (st':=⟨LN q es "",rO .none tk x x.length⟩)
  (o:=[ob (AH W 5 LX.sc LX.s0 ⟨LS q es,rO (.str " ") tk x x.length⟩ .next ⟨LN q es "",rO (.str " ") tk x x.length⟩)]) (by kernel_rfl!) (obs (AC (Hl F H)) AS)
 exact this.forget (.cons rfl (.cons rfl .nil)) rfl
theorem t_none (F:KF W.K) (H:KH W.K):A8 W 5 LX.sc (AB LX.wh) ⟨LS q es,rO .none tk x x.length⟩ .brk ⟨LE1 q,rO .none [] x x.length⟩:=by
 have:=AN (sc:=LX.sc) (AW F 4 (tlT (LN q es "") (rO .none tk x x.length) (fun ζ ζ=>none) tsA)) (n:=50) (b:=AB LX.wh) (st:=⟨LS q es,rO .none tk x x.length⟩)
  (f:=.brk) (st':=⟨LN q es "",rO .none [] x x.length⟩)
  (o:=[ob (AH W 5 LX.sc LX.s0 ⟨LS q es,rO .none tk x x.length⟩ .next ⟨LN q es "",rO .none tk x x.length⟩)]) (by kernel_rfl!) (obs (AC (Hl F H)) AS)
 exact this.forget (.cons rfl (.cons rfl .nil)) rfl
end
section
variable {W:Wd} {k:Nat} {sc:Scope} {q:Bool} {es:Str} {tk x:List Nat} {p c:Nat}
noncomputable abbrev Wr (W:Wd) (q:Bool) (es:Str) (o:List AO) (q':Bool) (o':List AO):Prop:=BF W 5 LX.sc (exprS LX.wh) (AB LX.wh) (BD LX.wh) ⟨LS q es,o⟩ .next ⟨LE1 q',o'⟩
noncomputable abbrev WrX (W:Wd) (q:Bool) (es:Str) (o o':List AO):Prop:=∃ q',Wr W q es o q' o'
theorem WrX.go {test:True} {q₁:Bool} {es es₁:Str} {o o₁ o':List AO} {f:AF} (h1:AL W 5 LX.sc (exprS LX.wh) ⟨LS q es,o⟩ true ⟨LS q es,o⟩) (h2:C5 W q es o f q₁ es₁ o₁) (hf:f=.next∨f=.cont) (h:WrX W q₁ es₁ o₁ o'):WrX W q es o o' :=
 (h).elim fun q' h=>⟨q',.go h1 h2 hf h⟩
theorem BH (F:KF W.K) {st:ST}:AL W 5 LX.sc (exprS LX.wh) st true st:=D1 (k:=4) F {} (n:=5) (o:=[]) (by kernel_rfl!) AS
theorem Cu {l r:List Nat} {a:Nat} (h:l.drop p=a::r):l[p]?=some a∧l.drop (p+1)=r:=by
 constructor
 ·have:=List.getElem?_drop (xs:=l) (i:=p) (j:=0)
  rw [h] at this
  simpa using this.symm
 ·rw [← List.tail_drop,h];rfl
theorem IO (F:KF W.K) (H:KH W.K) (hl:x.length≤100000) {o':List AO}:∀ (ws:List Nat) (tk:List Nat) (p:Nat) (post:List Nat),x.drop p=ws++post→(∀ c∈ws,c∈Rx.signs∧Cb c=false∧c≠34∧c≠92)→tk.length+ws.length≤100000 →
  WrX W q es (rO (.str "a") (tk++ws) x (p+ws.length)) o'→WrX W q es (rO (.str "a") tk x p) o'
 | [],tk,p,post,_,_,_,h=>by rw [List.append_nil] at h;exact h
 | c::ws,tk,p,post,hd,hc,ht,h=>by
  obtain ⟨h1,h2⟩:=Cu hd
  refine FW (hc c (.head _)) fun c1 c2 c3 c4=>?_
  rw [List.length_cons] at ht
  refine WrX.go (test:=trivial) (BH F) (Jo F H h1 hl c1 c2 c3 c4 (by exact lin (by assumption) (by simp +arith only))) (.inl rfl) (IO F H hl ws (tk++[c]) (p+1) post h2 (fun d hd=>hc d (.tail _ hd)) (by simp;exact lin (by assumption) (by simp +arith only)) ?_)
  rw [List.append_assoc,show p+1+ws.length=p+(c::ws).length by simp;simp +arith only]
  exact h
theorem Ji (F:KF W.K) (H:KH W.K) (hl:x.length≤100000) {o':List AO}:∀ (ws:List Nat) (q:Bool) (es:Str) (tk:List Nat) (p:Nat) (post:List Nat),x.drop p=ws.flatMap A3++post→Sg ws→tk.length+ws.length≤100000 →
  (∀ q es,WrX W q es (rO (.str (S [34])) (tk++ws) x (p+(ws.flatMap A3).length)) o')→WrX W q es (rO (.str (S [34])) tk x p) o'
 | [],q,es,tk,p,post,_,_,_,h=>by have:=h q es;rw [List.append_nil] at this;exact this
 | c::ws,q,es,tk,p,post,hd,hc,ht,h=>by
  rw [List.length_cons] at ht
  rw [List.flatMap_cons] at hd
  cases he:Rx.isEsc c with
  | true =>
   have e:A3 c=[92,c]:=by unfold A3;rw [he];rfl
   rw [e] at hd
   obtain ⟨h1,h2⟩:=Cu (show x.drop p=92::(c::(ws.flatMap A3++post)) from hd)
   obtain ⟨h3,h4⟩:=Cu h2
   have hcc:c=34∨c=92:=by
    unfold Rx.isEsc at he
    simpa using he
   refine WrX.go (test:=trivial) (BH F) (t_back F H h1 hl) (.inl rfl) (WrX.go (test:=trivial) (BH F) (t_esc F H h3 hl hcc (by exact lin (by assumption) (by simp +arith only))) (.inl rfl) (Ji F H hl ws _ _ (tk++[c]) (p+1+1) post h4 (fun d hd=>hc d (.tail _ hd)) (by simp;exact lin (by assumption) (by simp +arith only)) fun q es=>?_))
   have:=h q es
   rw [List.flatMap_cons,e] at this
   rw [List.append_assoc,show p+1+1+(ws.flatMap A3).length=p+([92,c]++ws.flatMap A3).length by simp;simp +arith only]
   exact this
  | false =>
   have e:A3 c=[c]:=by unfold A3;rw [he];rfl
   rw [e] at hd
   obtain ⟨h1,h2⟩:=Cu (show x.drop p=c::(ws.flatMap A3++post) from hd)
   have hcc:c≠34∧c≠92:=by
    unfold Rx.isEsc at he
    simpa using he
   refine WrX.go (test:=trivial) (BH F) (t_in F H h1 hl (hc c (.head _)) hcc.1 hcc.2 (by exact lin (by assumption) (by simp +arith only))) (.inl rfl) (Ji F H hl ws _ _ (tk++[c]) (p+1) post h2 (fun d hd=>hc d (.tail _ hd)) (by simp;exact lin (by assumption) (by simp +arith only)) fun q es=>?_)
   have:=h q es
   rw [List.flatMap_cons,e] at this
   rw [List.append_assoc,show p+1+(ws.flatMap A3).length=p+([c]++ws.flatMap A3).length by simp;simp +arith only]
   exact this
end
noncomputable def EA (c:Nat):Bool:=!Cb c&&c != 34&&c != 92
section
variable {W:Wd} {k:Nat} {sc:Scope} {q:Bool} {es:Str} {tk x:List Nat} {p c:Nat}
theorem wr_val (F:KF W.K) (H:KH W.K) (hl:x.length≤100000) {o':List AO} {w:List Nat} {b:Bool} {post:List Nat} (hd:x.drop p=AD w b++post) (hw:Sg w) (hb:b=true→w.all EA=true) (ht:tk.length+w.length≤100000)
  (h:∀ q es,WrX W q es (rO (.str "a") (tk++w) x (p+(AD w b).length)) o'):WrX W q es (rO (.str "a") tk x p) o':=by
 induction b using Bool.casesOn with
 | true =>
  refine IO F H hl w tk p post hd (fun c hc=>?_) ht (h q es)
  have:=List.all_eq_true.mp (hb rfl) c hc
  unfold EA at this
  simp only [Bool.and_eq_true,Bool.not_eq_true',bne_iff_ne,ne_eq] at this
  exact ⟨hw c hc,this.1.1,this.1.2,this.2⟩
 | false =>
  have e:AD w false++post=34::(w.flatMap A3++(34::post)):=by unfold AD;simp
  rw [e] at hd
  obtain ⟨h1,h2⟩:=Cu hd
  refine WrX.go (test:=trivial) (BH F) (t_open F H h1 hl) (.inl rfl) (Ji F H hl w q es tk (p+1) (34::post) h2 hw ht fun q es=>?_)
  have h3:x.drop (p+1+(w.flatMap A3).length)=34::post:=by rw [← List.drop_drop,h2,List.drop_left]
  obtain ⟨h4,_⟩:=Cu h3
  refine WrX.go (test:=trivial) (BH F) (t_close F H h4 hl) (.inl rfl) ?_
  have:=h true es
  have el:(AD w false).length=(w.flatMap A3).length+2:=by unfold AD;simp
  rw [el] at this
  rw [show p+1+(w.flatMap A3).length+1=p+((w.flatMap A3).length+2) by simp +arith only]
  exact this
noncomputable def CH (kc:Nat) (w:List Nat):List Nat:=[kc,61]++w
theorem s61:(61:Nat)∈Rx.signs∧Cb 61=false∧(61:Nat)≠34∧(61:Nat)≠92:=by decide
theorem wr_pair (F:KF W.K) (H:KH W.K) (hl:x.length≤100000) {o':List AO} {kc:Nat} {w:List Nat} {b:Bool} {post:List Nat} (hk:kc=109∨kc=110) (hd:x.drop p=[kc,61]++AD w b++post) (hw:Sg w) (hb:b=true→w.all EA=true) (hwl:w.length≤1000)
  (h:∀ q es,WrX W q es (rO (.str "a") (CH kc w) x (p+2+(AD w b).length)) o'):WrX W q es (rO (.str " ") [] x p) o':=by
 obtain ⟨h1,h2⟩:=Cu (show x.drop p=kc::(61::(AD w b++post)) by rw [hd];simp)
 obtain ⟨h3,h4⟩:=Cu h2
 refine WrX.go (test:=trivial) (BH F) (t_first F H h1 hl hk) (.inl rfl) (WrX.go (test:=trivial) (BH F) (Jo F H h3 hl s61.1 s61.2.1 s61.2.2.1 s61.2.2.2 (by simp)) (.inl rfl) ?_)
 exact wr_val F H hl h4 hw hb (by simp;exact lin (by assumption) (by simp +arith only)) h
theorem IP (F:KF W.K) (H:KH W.K) (hl:x.length≤100000) {o':List AO}:∀ (ws:List Nat) (p:Nat) (post:List Nat),x.drop p=ws++post→(∀ c∈ws,c∈Rx.signs∧Cb c=true)→WrX W false es (rO (.str " ") [] x (p+ws.length)) o'→WrX W false es (rO (.str " ") [] x p) o'
 | [],p,post,_,_,h=>h
 | c::ws,p,post,hd,hc,h=>by
  obtain ⟨h1,h2⟩:=Cu hd
  obtain ⟨c1,c2⟩:=hc c (.head _)
  refine WrX.go (test:=trivial) (BH F) (t_skip F H h1 hl c1 c2) (.inr rfl) (IP F H hl ws (p+1) post h2 (fun d hd=>hc d (.tail _ hd)) ?_)
  rw [show p+1+ws.length=p+(c::ws).length by simp;simp +arith only]
  exact h
theorem Hg {kc:Nat} {w:List Nat}:CH kc w≠[]:=by unfold CH;simp
theorem wr_end0 (F:KF W.K) (H:KH W.K) (hp:p=x.length):WrX W q es (rO (.str "a") tk x p) (rO .none tk x x.length):=by
 subst hp
 exact ⟨q,.brk (BH F) (JD F H)⟩
theorem wr_end1 (F:KF W.K) (H:KH W.K) (hl:x.length≤100000) {post:List Nat} (hd:x.drop p=c::post) (hc:c∈Rx.signs) (h1:Cb c=true) (ht:tk≠[]):WrX W q es (rO (.str "a") tk x p) (rO (.str " ") tk x (p+1)) :=
 ⟨q,.brk (BH F) (JE F H (Cu hd).1 hl hc h1 ht)⟩
theorem fn_rt (F:KF W.K) {st0 stt:AV} {p':Nat} (ht:tk≠[]) (h:WrX W false " " (rO st0 [] x p) (rO stt tk x p')):AR W 6 (.ref 756) [.own 1] (rO st0 [] x p) (.str (S tk)) (rO stt [] x p'):=by
 obtain ⟨q,h⟩:=h
 have hw:AH W 5 LX.sc LX.wh ⟨LS false " ",rO st0 [] x p⟩ .next ⟨LE1 q,rO stt tk x p'⟩:=CM (by kernel_rfl!) h
 have he:(S tk==("":Str))=false:=by
  have:("":Str)=S []:=by kernel_rfl!
  rw [this]
  apply beq_false_of_ne
  rw [Ne,Fv];exact ht
 induction q using Bool.casesOn with
 | true =>
  exact (Bv (k:=4) (x:="self") (v:=.own 1) (objs:=rO st0 [] x p) (n:=30) (fl:=.ret (.str (S tk))) (st':=⟨[("self",.own 1),("quoted",.bool true),("result",.str (S tk))],rO stt [] x p'⟩)
   (o:=[ob (AH W 5 LX.sc LX.wh ⟨LS false " ",rO st0 [] x p⟩ .next ⟨LE1 true,rO stt tk x p'⟩)]) F F.f756 {st:=fun s ζ=>if (B3 s).line==635 then some (.next,⟨LE1 true,rO stt tk x p'⟩) else none}
   (by kernel_rfl!) (by intro pm c v;kernel_rfl!) (by kernel_rfl!) (obs (AC hw) AS)).ok
 | false =>
  exact (Bv (k:=4) (x:="self") (v:=.own 1) (objs:=rO st0 [] x p) (n:=30) (fl:=.ret (.str (S tk))) (st':=⟨[("self",.own 1),("quoted",.bool false),("result",.str (S tk))],rO stt [] x p'⟩)
   (o:=[ob (AH W 5 LX.sc LX.wh ⟨LS false " ",rO st0 [] x p⟩ .next ⟨LE1 false,rO stt tk x p'⟩),ob ((S tk=="")=false)]) F F.f756 {st:=fun s ζ=>if (B3 s).line==635 then some (.next,⟨LE1 false,rO stt tk x p'⟩) else none,hint:=fun l c=>if l==760&&c==44 then some false else none}
   (by kernel_rfl!) (by intro pm c v;kernel_rfl!) (by kernel_rfl!) (obs (AC hw) (obs (AC he) AS))).ok
theorem LJ (F:KF W.K) (H:KH W.K) {st0:AV} (h0:st0=.str " "∨st0=.none):AR W 6 (.ref 756) [.own 1] (rO st0 [] x x.length) .none (rO .none [] x x.length):=by
 have hw:AH W 5 LX.sc LX.wh ⟨LS false " ",rO st0 [] x x.length⟩ .next ⟨LE1 false,rO .none [] x x.length⟩:=by
  rcases h0 with rfl | rfl
  ·exact CM (by kernel_rfl!) (.brk (BH F) (t_eof F H))
  ·exact CM (by kernel_rfl!) (.brk (BH F) (t_none F H))
 exact (Bv (k:=4) (x:="self") (v:=.own 1) (objs:=rO st0 [] x x.length) (n:=30) (fl:=.ret .none) (st':=⟨[("self",.own 1),("quoted",.bool false),("result",.none)],rO .none [] x x.length⟩)
  (o:=[ob (AH W 5 LX.sc LX.wh ⟨LS false " ",rO st0 [] x x.length⟩ .next ⟨LE1 false,rO .none [] x x.length⟩)]) F F.f756 {st:=fun s ζ=>if (B3 s).line==635 then some (.next,⟨LE1 false,rO .none [] x x.length⟩) else none}
  (by kernel_rfl!) (by intro pm c v;kernel_rfl!) (by kernel_rfl!) (obs (AC hw) AS)).ok
noncomputable abbrev LX.gsc:=AM LX.gt
noncomputable abbrev LX.pb:=exprS (nth (AB LX.gt) 0)
noncomputable abbrev LX.gw:=nth (AB LX.gt) 3
noncomputable abbrev LX.fs:=lE (exprS (nth (AB LX.gw) 0))
noncomputable def gtC (v:AV) (objs':List AO):Value→List AV→List AO→Option (AV×List AO):=fun f ζ ζ=>if f==.ref 756 then some (v,objs') else none
noncomputable def gtT (e:Expr) (st:ST):Option (Bool×ST):=if Kq e&&(e.pos.line==606 || e.pos.line==620) then some (false,st) else none
theorem gt_pb (F:KF W.K) {st0:AV}:AL W 7 LX.gsc LX.pb ⟨[("self",.own 1)],rO st0 [] x p⟩ false ⟨[("self",.own 1)],rO st0 [] x p⟩:=AL.deque (i:=4) (by kernel_rfl!) (AQ (k:=6) F {} (n:=10) (by kernel_rfl!)) rfl
theorem gt_fs (F:KF W.K) {st0:AV}:AL W 7 LX.gsc LX.fs ⟨[("self",.own 1),("raw",.none)],rO st0 [] x p⟩ false ⟨[("self",.own 1),("raw",.none)],rO st0 [] x p⟩:=AL.deque (i:=5) (by kernel_rfl!) (AQ (k:=6) F {} (n:=10) (by kernel_rfl!)) rfl
theorem fn_gt (F:KF W.K) {st0 stt:AV} {p':Nat} (h:AR W 6 (.ref 756) [.own 1] (rO st0 [] x p) (.str (S tk)) (rO stt [] x p')):AR W 8 (.ref 749) [.own 1] (rO st0 [] x p) (.str (S tk)) (rO stt [] x p'):=by
 have hw:AH W 7 LX.gsc LX.gw ⟨[("self",.own 1),("raw",.str (S tk))],rO stt [] x p'⟩ .next ⟨[("self",.own 1),("raw",.str (S tk))],rO stt [] x p'⟩ :=
  CM (by kernel_rfl!) (.stop (D1 (k:=6) F {} (n:=10) (o:=[]) (by kernel_rfl!) AS) (AN (AW F 6 {}) (n:=5) (o:=[]) (by kernel_rfl!) AS))
 exact (Bv (k:=6) (x:="self") (v:=.own 1) (objs:=rO st0 [] x p) (n:=30) (fl:=.ret (.str (S tk))) (st':=⟨[("self",.own 1),("raw",.str (S tk))],rO stt [] x p'⟩)
  (o:=[ob (AL W 7 LX.gsc LX.pb ⟨[("self",.own 1)],rO st0 [] x p⟩ false ⟨[("self",.own 1)],rO st0 [] x p⟩),ob (AP W 6 (.ref 756) [.own 1] (rO st0 [] x p) (.str (S tk)) (rO stt [] x p')),ob (AH W 7 LX.gsc LX.gw ⟨[("self",.own 1),("raw",.str (S tk))],rO stt [] x p'⟩ .next ⟨[("self",.own 1),("raw",.str (S tk))],rO stt [] x p'⟩)])
  F F.f749 {call:=gtC (.str (S tk)) (rO stt [] x p'),ts:=gtT,st:=fun s st=>if (B3 s).line==619 then some (.next,st) else none}
  (by kernel_rfl!) (by intro pm c v;kernel_rfl!) (by kernel_rfl!) (obs (AC (gt_pb F)) (obs (AC (cob h (by decide))) (obs (AC hw) AS)))).ok
theorem LO (F:KF W.K) {st0 stt:AV} {p':Nat} (h:AR W 6 (.ref 756) [.own 1] (rO st0 [] x p) .none (rO stt [] x p')):AR W 8 (.ref 749) [.own 1] (rO st0 [] x p) .none (rO stt [] x p'):=by
 have hw:AH W 7 LX.gsc LX.gw ⟨[("self",.own 1),("raw",.none)],rO stt [] x p'⟩ (.ret .none) ⟨[("self",.own 1),("raw",.none)],rO stt [] x p'⟩ :=
  CM (by kernel_rfl!) (.ret (D1 (k:=6) F {} (n:=10) (o:=[]) (by kernel_rfl!) AS) (AN (AW F 6 {ts:=gtT}) (n:=15) (o:=[ob (AL W 7 LX.gsc LX.fs ⟨[("self",.own 1),("raw",.none)],rO stt [] x p'⟩ false ⟨[("self",.own 1),("raw",.none)],rO stt [] x p'⟩)]) (by kernel_rfl!) (obs (AC (gt_fs F)) AS)))
 exact (Bv (k:=6) (x:="self") (v:=.own 1) (objs:=rO st0 [] x p) (n:=30) (fl:=.ret .none) (st':=⟨[("self",.own 1),("raw",.none)],rO stt [] x p'⟩)
  (o:=[ob (AL W 7 LX.gsc LX.pb ⟨[("self",.own 1)],rO st0 [] x p⟩ false ⟨[("self",.own 1)],rO st0 [] x p⟩),ob (AP W 6 (.ref 756) [.own 1] (rO st0 [] x p) .none (rO stt [] x p')),ob (AH W 7 LX.gsc LX.gw ⟨[("self",.own 1),("raw",.none)],rO stt [] x p'⟩ (.ret .none) ⟨[("self",.own 1),("raw",.none)],rO stt [] x p'⟩)])
  F F.f749 {call:=gtC .none (rO stt [] x p'),ts:=gtT,st:=fun s st=>if (B3 s).line==619 then some (.ret .none,st) else none}
  (by kernel_rfl!) (by intro pm c v;kernel_rfl!) (by kernel_rfl!) (obs (AC (gt_pb F)) (obs (AC (cob h (by decide))) (obs (AC hw) AS)))).ok
noncomputable def nxC (v:AV) (objs':List AO):Value→List AV→List AO→Option (AV×List AO):=fun f ζ ζ=>if f==.ref 749 then some (v,objs') else none
theorem Il (F:KF W.K) {st0 stt:AV} {p':Nat} (h:AR W 6 (.ref 756) [.own 1] (rO st0 [] x p) (.str (S tk)) (rO stt [] x p')):AR W 10 (.ref 785) [.own 1] (rO st0 [] x p) (.str (S tk)) (rO stt [] x p') :=
 (Bv (k:=8) (x:="self") (v:=.own 1) (objs:=rO st0 [] x p) (n:=30) (fl:=.ret (.str (S tk))) (st':=⟨[("self",.own 1),("token",.str (S tk))],rO stt [] x p'⟩)
  (o:=[ob (AP W 8 (.ref 749) [.own 1] (rO st0 [] x p) (.str (S tk)) (rO stt [] x p'))]) F F.f785 {call:=nxC (.str (S tk)) (rO stt [] x p')}
  (by kernel_rfl!) (by intro pm c v;kernel_rfl!) (by kernel_rfl!) (obs (AC (cob (fn_gt F h) (by decide))) AS)).ok
end
end Mine
end
section
set_option maxRecDepth 100000
namespace Mine
open PySem PySem.W PyProof.Rows PySem.Calls PySem.Spec
noncomputable def Ja (K:Frag) (C:Addr) (bases mro:List Value):Prop:=∃ nm ns qn sub col sl od,K.lookup C=some ⟨.type "type",od,.cls {name:=nm,bases,mro,ns,qualname:=qn,hasDict:=true,slotNames:=[],subclasses:=sub,abstract:=false,collection:=col,hasDel:=false},sl⟩∧sl[4]?=some (some .none)
noncomputable def Ct (h:Heap) (C:Addr) (bases mro:List Value):Prop:=∃ nm ns qn sub col sl od,h.get? C=some ⟨.type "type",od,.cls {name:=nm,bases,mro,ns,qualname:=qn,hasDict:=true,slotNames:=[],subclasses:=sub,abstract:=false,collection:=col,hasDel:=false},sl⟩∧sl[4]?=some (some .none)
theorem Ja.at {K:Frag} {h:Heap} {C:Addr} {b m:List Value} (x:Ja K C b m) (X:K.In h):Ct h C b m:=by
 refine B4 x fun nm ns qn sub col sl od e f=>?_
 exact ⟨nm,ns,qn,sub,col,sl,od,X _ _ e,f⟩
section
variable {M:Model} {h:Heap} {C:Addr} {b m:List Value}
theorem Ct.mro (x:Ct h C b m):Looks M h (mroOf (.ref C)) m:=by
 refine B4 x fun nm ns qn sub col sl od e f=>?_
 exact ((Looks.ld (part:=none) e).andThen .now).andThen .now
theorem Ct.data (x:Ct h C b m):∃ cd,Looks M h (classData C) cd∧cd.bases=b∧cd.mro=m∧cd.slotNames=[]∧cd.abstract=false∧cd.hasDel=false:=by
 refine B4 x fun nm ns qn sub col sl od e f=>?_
 exact ⟨_,(Looks.ld (part:=none) e).andThen .now,rfl,rfl,rfl,rfl,rfl⟩
theorem Ct.made {c:Value} {l:List Value} (x:Ct h C b (c::l)):Looks M h (Bind.madeBy (.ref C)) none:=by
 have hm:=x.mro (M:=M)
 refine B4 x fun nm ns qn sub col sl od e f=>?_
 intro A Q E s k q
 unfold Bind.madeBy
 refine wpAny_bind (hm A _ E s k ?_)
 rw [List.forIn_cons]
 refine wpAny_bind (wpAny_bind (wpAny_bind (wpAny_bind (wpAny_loadPart (k _ _ e) (wpAny_pure ?_)))))
 dsimp only
 rw [f]
 exact wpAny_pure (wpAny_pure (wpAny_pure q))
theorem EU:Looks M h (Bind.madeBy (.type "object")) (some "object.__new__"):=by
 refine Looks.of_pure ?_
 kernel_rfl
theorem D7:Looks M h (Builtin.Slots.slotNamesOf (.type "object")) []:=by
 refine Looks.of_pure ?_
 kernel_rfl
theorem Ct.names (x:Ct h C b m):Looks M h (Builtin.Slots.slotNamesOf (.ref C)) []:=by
 refine Ep (x.data (M:=M)) fun cd L ζ ζ e ζ=>?_
 have:=L.andThen (f:=fun c=>pure c.slotNames) (b:=[]) (by rw [e];exact .now)
 exact this
theorem Ct.adds {c:Value} (x:Ct h C [c] m) (y:Looks M h (Builtin.Slots.slotNamesOf c) []):Looks M h (Builtin.Slots.addsLayout (.ref C)) false:=by
 refine Ep (x.data (M:=M)) fun cd L e1 ζ e ζ=>?_
 intro A Q E s k q
 have y':=y.keeps k
 unfold Builtin.Slots.addsLayout
 refine wpAny_bind (L A _ E s k ?_)
 rw [e1,e]
 repeat lk
 exact q
theorem JI (x:Ct h 149 [.type "object"] [.ref 149,.type "object"]):Looks M h (Builtin.Slots.bestBase [.ref 149]) (.ref 149):=by
 intro A Q E s k q
 have a1:=(x.adds (M:=M) D7).keeps k
 have m1:=(x.mro (M:=M)).keeps k
 unfold Builtin.Slots.bestBase Builtin.Slots.solid
 repeat lk
 exact q
theorem JG (x:Ct h 149 [.type "object"] [.ref 149,.type "object"]) (y:Ct h 176 [.ref 149] [.ref 176,.ref 149,.type "object"]):Looks M h (Builtin.Slots.bestBase [.ref 176]) (.ref 176):=by
 intro A Q E s k q
 have a1:=(x.adds (M:=M) D7).keeps k
 have a2:=(y.adds (M:=M) x.names).keeps k
 have m2:=(y.mro (M:=M)).keeps k
 unfold Builtin.Slots.bestBase Builtin.Slots.solid
 repeat lk
 exact q
theorem GA:Looks M h (Builtin.Slots.bestBase [.type "object"]) (.type "object"):=by
 refine Looks.of_pure ?_
 kernel_rfl
theorem Lz (x:Ct h 149 [.type "object"] [.ref 149,.type "object"]) (y:Ct h 176 [.ref 149] [.ref 176,.ref 149,.type "object"]) (z:Ct h 653 [.ref 176] [.ref 653,.ref 176,.ref 149,.type "object"]):Looks M h (Bind.staticBase (.ref 653)) (.type "object"):=by
 intro A Q E s k q
 have a1:=(JI (M:=M) x).keeps k
 have a2:=(JG (M:=M) x y).keeps k
 have a3:=(GA (M:=M) (h:=h)).keeps k
 have m1:=(x.made (M:=M)).keeps k
 have m2:=(y.made (M:=M)).keeps k
 have m3:=(z.made (M:=M)).keeps k
 have mo:=(EU (M:=M) (h:=h)).keeps k
 have r:=(z.mro (M:=M)).keeps k
 refine EE (x.data (M:=M)) fun cd1 L1 e1 ζ=>?_
 refine EE (y.data (M:=M)) fun cd2 L2 e2 ζ=>?_
 refine EE (z.data (M:=M)) fun cd3 L3 e3 ζ=>?_
 replace L1:=L1.keeps k
 replace L2:=L2.keeps k
 replace L3:=L3.keeps k
 unfold Bind.staticBase
 repeat (first | (rewrite [e1];try with_reducible rfl) | (rewrite [e2];try with_reducible rfl) | (rewrite [e3];try with_reducible rfl) | lk)
 exact q
end
end Mine
end
section
set_option maxRecDepth 100000
namespace Mine
open PySem PySem.W PyProof.Rows PySem.Calls PySem.Spec
variable [T₀:AY]
structure KI (K:Frag):Prop where
 c149:Ja K 149 [.type "object"] [.ref 149,.type "object"]
 c176:Ja K 176 [.ref 149] [.ref 176,.ref 149,.type "object"]
 c653:Ja K 653 [.ref 176] [.ref 653,.ref 176,.ref 149,.type "object"]
 c406:∃ o,K.lookup 406=some o
 t653:instIn K (.ref 653) (.type "type")=some true
 s653:subIn K (.ref 653) (.type "object")=some true
 o653:subIn K (.ref 653) (.ref 653)=some true
 k653:specialIn K (.ref 653) "__call__"=some (some (.builtin "type.__call__"))
 r653:readsIn K 653 (.type "type")=true
 n653:findCls K (.ref 653) (.type "type") "__new__"=some (.get (.builtin "staticmethod.__get__") (.ref 150) .none (.ref 653))
 p150:∃ rest,recIn K 150 "staticmethod"=some (.ref 146::rest)
 h146:handedIn (.ref 146)=true
 f146:FnK K 146 (nth (AB (top 19)) 1) "IOBase.__new__" .none
 f423:FnK K 423 (nth (AB (top 23)) 1) "StringIO.__init__" (.ref 416)
 d416:∃ t t' n,K.lookup 416=some (B2 [.str "" t,.str "\n" t'] n)
 i653:findIn K (.ref 653) "__init__"=some (some (.ref 423))
 keep653:keepIn K (.ref 653)=true
 m788:makesIn K 788=true
 keep788:keepIn K (.ref 788)=true
 f712:FnK K 712 (nth (AB (top 33)) 0) "shlex.__init__" (.ref 705)
 d705:∃ n,K.lookup 705=some (B2 [.none,.none,.bool false,.bool false] n)
 i788:findIn K (.ref 788) "__init__"=some (some (.ref 712))
 it788:findIn K (.ref 788) "__iter__"=some (some (.ref 778))
 nx788:findIn K (.ref 788) "__next__"=some (some (.ref 785))
 len788:findIn K (.ref 788) "__len__"=some none
 hint788:findIn K (.ref 788) "__length_hint__"=some none
section
variable {W:Wd} {k:Nat}
theorem EN {Z:AK} {as:List Addr} {s:Shared} {A:Around} {f:Addr} {d:Stmt} {qn:Str} {dv:Value} {args:Args} {avs:List AV} {names:List Str} {objs:List AO} {fl:AF} {st':ST} {R:Result→Shared→Prop} (kok:KOk W) (hf:FnK W.K f d qn dv) (hn:okD d names=true)
  (h:A8 W k (AM d) (AB d) ⟨names.zip avs,objs⟩ fl st') (hR:Ae A (k+1)) (zn:Zn W Z s.heap) (ow:Ow Z as objs s.heap)
  (hb:∀ pm c,wpAny W.M A.in1 (bindArgs (fnD d qn dv pm c) args) (fun binds s₁=>∃ vals,binds=names.zip vals∧IsL Z as avs vals∧A6 s.heap s₁.heap∧s₁.gens=s.gens∧s₁.drawn=s.drawn∧s₁.os=s.os) (fun e s'=>R (.error e) s') s)
  (q:∀ (Z':AK) (as':List Addr) (u:Value) (s':Shared),Zn W Z' s'.heap→Ow Z' as' st'.objs s'.heap→Evo [] Z Z' as as' s s'→Is Z' as' fl.val u→R (.ok (.ret u)) s'):codeAny W.M A (.call (.ref f) args) R s:=by
 refine Be hf.at_ fun pm c hK hcode hcd=>?_
 unfold okD at hn
 simp only [Bool.and_eq_true,Bool.not_eq_true',decide_eq_true_eq] at hn
 obtain ⟨⟨⟨⟨⟨h1,h2⟩,h3⟩,h4⟩,h5⟩,h6⟩:=hn
 have hd:=hR.depth
 refine codeAny_call_function (fd:=fnD d qn dv pm c) (by refine (?_:A.depth<1000);exact lin (by assumption) (by simp +arith only)) (zn.kIn _ _ hK) rfl h4 h5 rfl (codeRec_of zn.kIn hcode) (wpAny_mono (hb pm c) (fun binds s₁ hs=>?_) fun ζ ζ z=>z)
 refine oEAAAAA hs fun vals r1_ hv g hg hdr hos=>?_;subst r1_
 have zn₁:=zn.grow g
 have ow₁:=ow.grow g
 refine wpAny_newFunctionEnv (fun x hx=>of_decide_eq_true (List.all_eq_true.mp h2 x hx)) (fun x hx=>of_decide_eq_true (List.all_eq_true.mp h3 x.1 (List.of_mem_zip (a:=x.1) (b:=x.2) hx).1)) (fun h₀ hns hsb=>?_) h6
 have hk₀:∀ b o,s₁.heap.get? b=some o→h₀.get? b=some o:=fun b o e=>hsb.extBut b o (Nat.ne_of_lt (Heap.lt_size e)) (Heap.get?_push_of_some _ e)
 have hsz:s₁.heap.objs.size≤h₀.objs.size:=Nat.le_of_lt hns.lt
 refine ⟨kok.lim _ fun a o e=>hk₀ _ _ (zn₁.kIn a o e),codeAny_func ?_⟩
 have noIn:∀ a∈as,a<s₁.heap.objs.size:=fun a ha=>by
  refine oEP (List.getElem_of_mem ha) fun i hi r2_=>?_;subst r2_
  have hi':i<objs.length:=by rw [← ow.len];exact hi
  refine AG (ow₁.obj i _ objs[i] (List.getElem?_eq_getElem hi) (List.getElem?_eq_getElem hi')) fun o h1 ζ=>?_
  exact Heap.lt_size h1
 have S:Sta W Z s₁.heap.objs.size as ⟨names.zip avs,objs⟩ {s₁ with heap:=h₀,toks:=s₁.toks+(names.zip vals).length}:=by
  refine ⟨zn₁.grow ⟨hk₀,hsz⟩,ow₁.grow ⟨hk₀,hsz⟩,⟨⟨_,hns,fun x a e=>?_⟩,fun z=>absurd (noIn _ z) (Nat.lt_irrefl _),fun o z=>absurd (Heap.lt_size (zn₁.keep _ _ z)) (Nat.lt_irrefl _),fun z=>AG (zn₁.tab _ z) fun vs e ζ=>absurd (Heap.lt_size e) (Nat.lt_irrefl _)⟩⟩
  refine AG (ES hv x a e) fun v h1 h2=>?_
  exact ⟨v,by rw [Cn (by assumption)];exact h1,h2⟩
 refine h _ _ _ _ _ _ _ _ ⟨rfl,rfl,rfl,rfl,h6,fun c' q' z=>(hcd c' q' z).elim fun x y=>⟨by rw [← x];rfl,y⟩⟩ (hR.down (by refine (?_:A.depth+1≤A.depth+9);simp +arith only) (by refine (?_:A.units+3≤A.units+99);simp +arith only) rfl) S fun Z' as' u s' S' e hu=>?_
 have hs0:s.heap.objs.size≤s₁.heap.objs.size:=g.2
 have e':Evo [] Z Z' as as' s s':=by
  refine AG e.pre fun more r1_ hm=>?_;subst r1_
  have eg:AY.gr s₁.gens s'.gens:=e.gens
  rw [hg] at eg
  refine ⟨e.zsub,fun b o z=>(e.znew b o z).imp id (Nat.le_trans (Nat.le_trans hs0 hsz)),⟨more,rfl,fun a ha=>Nat.le_trans (Nat.le_trans hs0 hsz) (hm a ha)⟩,fun b o h1 ζ h3 h4=>e.keep b o (hk₀ b o (g.1 b o h1)) (fun z=>?_) h3 h4,Nat.le_trans (Nat.le_trans hs0 hsz) e.size,eg,e.drawn.trans hdr,e.os.trans hos⟩
  rw [List.mem_singleton.mp z] at h1
  exact absurd (Heap.lt_size (g.1 _ _ h1)) (Nat.lt_irrefl _)
 refine q _ _ _ _ S'.zn S'.ow e' ?_
 induction hu using IsF.casesOn <;> first | exact .none | assumption
theorem EN.pure {Z:AK} {as:List Addr} {s:Shared} {fd:FuncData} {A:Around} {args:Args} {avs:List AV} {names:List Str} {vals:List Value} {E:Value→Shared→Prop} (hv:IsL Z as avs vals) (hb:BindsTo s fd args (names.zip vals)) :
  wpAny W.M A (bindArgs fd args) (fun binds s₁=>∃ vals,binds=names.zip vals∧IsL Z as avs vals∧A6 s.heap s₁.heap∧s₁.gens=s.gens∧s₁.drawn=s.drawn∧s₁.os=s.os) E s :=
 hb _ _ _ _ ⟨vals,rfl,hv,.refl,rfl,rfl,rfl⟩
theorem bind146 {pm:Value} {c:Addr} {a b:Value}:bindArgs (fnD (nth (AB (top 19)) 1) "IOBase.__new__" .none pm c) ⟨[a,b],[]⟩=(do let t ← newTuple [b];let d ← alloc {cls:=.type "dict",data:=.dict #[]};Pure.pure [("cls",a),("args",t),("kwargs",.ref d)]):=by
 kernel_rfl
end
end Mine
end
section
set_option maxRecDepth 100000
set_option maxHeartbeats 1000000
namespace Mine
open PySem PySem.W PyProof.Rows PySem.Calls PySem.Spec
open PySem Builtin Builtin.ObjectAttr Builtin.Getset_descriptor
theorem sio_new {prog:Program} {w:World} {A:Around} {R:Result→Shared→Prop} {K:Frag} {h:Heap} {g:Array GenState} {d:Drawn} {t:Nat} {os:OsState} (X:K.In h) (I:KI K)
  (hq:R (.ok (.ret (.ref (h.objs.size+1)))) ⟨(h.push emptyDict).push (instObj 653 h.objs.size),g,d,t,os⟩) :
  codeAny (model prog w) A (.call (.builtin "object.__new__") ⟨[.ref 653],[]⟩) R ⟨h,g,d,t,os⟩:=by
 have base:=Lz (M:=model prog w) (I.c149.at X) (I.c176.at X) (I.c653.at X)
 have made:=EU (M:=model prog w) (h:=h)
 have top:=looks_subIn (M:=model prog w) X I.s653
 have typ:=looks_instIn (M:=model prog w) X I.t653
 refine B4 (I.c653.at X) fun nm ns qn sub col sl od hC ζ=>?_
 have F:=PySem.F.objNew
 refine codeAny_call_builtin_code (Code.quiet_builtin _ F.quiet) ?_
 unfold checkBuiltinCall
 dsimp only
 refine Eq.substr F.kind ?_
 refine Eq.substr F.split ?_
 refine Eq.substr F.row ?_
 dsimp only
 have here:Looks (model prog w) h (Bind.madeHere "object.__new__" (.ref 653)) ():=base.andThen (made.andThen (Looks.of_pure (by simp only [Option.map_some,bne_self_eq_false,Bool.false_eq_true,if_false])))
 have args:Bind.checkArgs "object.__new__" ⟨.hand,"object.__new__","__new__",.cls,[]⟩ ⟨[.ref 653],[]⟩=pure ():=by kernel_rfl
 (rewrite [args];try with_reducible rfl)
 repeat (first | refine Eq.substr (if_neg Bool.false_ne_true) ?_ | lk)
 refine codeAny_builtin F.entry ?_
 unfold Builtin.«object.__new__»
 have fin:∀ A',wpAny (model prog w) A' (do
   let d ← if typeHasDict (.ref 653) then some <$> alloc {cls:=.type "dict",data:=.dict #[]} else pure none
   ret (← newObj (.ref 653) .plain d)) (fun fin s'=>match fin with | .done f=>R (.ok f) s' | .again c'=>c'.quiet=true∧codeAny (model prog w) A c' R s') (fun e s'=>R (.error e) s') ⟨h,g,d,t,os⟩:=by
  intro A'
  refine (?_:wpAny _ _ ((alloc emptyDict>>=fun x=>pure (some x))>>=_) _ _ _)
  refine wpAny_bind (wpAny_bind (wpAny_alloc (wpAny_pure (wpAny_bind ?_))))
  refine (?_:wpAny _ _ (newObjAsIs _ _ _) _ _ _)
  unfold newObjAsIs classHasDel
  refine wpAny_bind (wpAny_alloc (wpAny_bind (wpAny_bind (wpAny_load (Heap.get?_push_of_some _ (Heap.get?_push_of_some _ hC)) (wpAny_pure ?_)))))
  refine wpAny_pure (wpAny_pure ?_)
  refine (?_:R _ _)
  (rewrite [Heap.size_push];try with_reducible rfl)
  exact hq
 repeat (first | refine Eq.substr (if_neg Bool.false_ne_true) ?_ | exact fin _ | lk)
end Mine
end
section
set_option maxRecDepth 100000
set_option maxHeartbeats 1000000
namespace Mine
open PySem PySem.W PyProof.Rows PySem.Calls PySem.Spec
variable [T₀:AY]
structure KO (K:Frag):Prop where
 ga:findIn K (.type "type") "__getattribute__"=some (some (.builtin "type.__getattribute__"))
 hb:(if onTheHeap (.type "type") then findIn K (.type "type") "__getattr__" else some none)=some none
 hi:subIn K (.type "type") (.type "type")=some true
 go:findCls K (.type "object") (.type "type") "__new__"=some (.val (.builtin "object.__new__"))
 hh:handedIn (.builtin "object.__new__")=true
section
variable {W:Wd} {Z:AK} {L:Addr} {as:List Addr} {st st₁ st₂:ST} {A:Around} {E:Value→Shared→Prop} {s:Shared} {k:Nat} {sc:Scope}
theorem AL.isNot {e l r:Expr} {a b:Addr} {c:Bool} (h:Km e=some (l,r)) (hm:behindInMarks .IsNot r=false) (h1:AA W k sc l st (.top (.ref a)) st₁) (h2:AA W k sc r st₁ (.top (.ref b)) st₂)
  (hab:(a=b∧c=true)∨(a≠b∧c=false∧∃ oa ob,W.K.lookup a=some oa∧W.K.lookup b=some ob∧oa.cls≠.type "tuple")):AL W k sc e st (!c) st₂:=by
 obtain ⟨pos,rfl⟩:=JV h
 intro Z L as s A Q E env hE hR hS q
 refine wpAny_isTrue_Compare1 (h1 _ _ _ _ _ _ _ _ hE hR hS fun Z₁ as₁ u s₁ S₁ e₁ hu=>h2 _ _ _ _ _ _ _ _ hE hR S₁ fun Z₂ as₂ v s₂ S₂ e₂ hv=>?_) hm
 cases hu using Is.e_top
 cases hv using Is.e_top
 refine wpAny_bind ?_
 rcases hab with ⟨rfl,rfl⟩ | ⟨hne,rfl,oa,ob,ha,hb,ht⟩
 ·exact wpAny_isSame_ref_self (wpAny_pure (wpAny_truthy_bool (q _ _ _ S₂ (e₁.trans e₂))))
 ·exact wpAny_isSame_ref_other hne (S₂.zn.kIn _ _ ha) (S₂.zn.kIn _ _ hb) ht (wpAny_pure (wpAny_truthy_bool (q _ _ _ S₂ (e₁.trans e₂))))
theorem Ow.made {objs:List AO} {C:Addr} {h:Heap} (ow:Ow Z as objs h) (zn:Zn W Z h):Ow Z (as++[h.objs.size,h.objs.size+1]) (objs++[.dict [],.inst C objs.length]) ((h.push emptyDict).push (instObj C h.objs.size)):=by
 have g1:A6 h (h.push emptyDict):=A6.refl.push _
 have o1:=ow.snoc (x:=.dict []) (o:=emptyDict) zn g1 (Heap.get?_push_size _ rfl) (Nat.le_refl _) (.dict (n:=0) .nil)
 have g2:A6 (h.push emptyDict) ((h.push emptyDict).push (instObj C h.objs.size)):=A6.refl.push _
 have o2:=o1.snoc (x:=.inst C objs.length) (o:=instObj C h.objs.size) (zn.grow g1) g2 (Heap.get?_push_size _ rfl) (Nat.le_refl _) (.inst (by rw [List.getElem?_append_left (by simp [ow.len]),List.getElem?_append_right (by rw [ow.len];exact Nat.le_refl _),ow.len];simp))
 rw [Heap.size_push] at o2
 rw [List.append_assoc,List.append_assoc] at o2
 exact o2
theorem DT {C:Addr} {h:Heap}:A6 h ((h.push emptyDict).push (instObj C h.objs.size)):=(A6.refl.push _).push _
theorem AR.newObj (I:KI W.K) {objs:List AO}:AR W k (.builtin "object.__new__") [.top (.ref 653)] objs (.own (objs.length+1)) (objs++[.dict [],.inst 653 objs.length]):=by
 intro Z as vals s A Q E hR zn ow hv q
 cases hv using IsL.e1 with
 | _ _ h1 =>
  cases h1 using Is.e_top
  have g:=DT (C:=653) (h:=s.heap)
  have ow2:=ow.made (C:=653) zn
  obtain ⟨hp,gs,d,tk,os⟩:=s
  refine wpAny_call (sio_new zn.kIn I ?_)
  refine q Z _ _ _ (zn.grow g) ow2 ⟨fun ζ ζ h=>h,fun ζ ζ h=>.inl h,⟨_,rfl,fun a ha=>?_⟩,fun b o h ζ ζ ζ=>g.1 b o h,g.2,AY.grr _,rfl,rfl⟩ (.own ?_)
  ·rcases List.mem_cons.mp ha with rfl | ha
   ·exact Nat.le_refl _
   ·rw [List.mem_singleton.mp ha];exact Nat.le_succ _
  ·rw [List.getElem?_append_right (by rw [ow.len];exact Nat.le_succ _),ow.len];simp
theorem AA.newObj (I:KI W.K) (O:KO W.K) {e o a:Expr} (h:I8 "__new__" e=some (o,a)) (h1:AA W (k+1) sc o st (.top (.type "object")) st) (h2:AA W (k+1) sc a st (.top (.ref 653)) st) :
  AA W (k+1) sc e st (.own (st.objs.length+1)) {st with objs:=st.objs++[.dict [],.inst 653 st.objs.length]}:=by
 refine GH (E7 h) fun ap p r2_ c1 c2 c4=>?_;subst r2_
 intro Z L as s A Q E env hE hR hS q
 obtain ⟨pl,he⟩:=EJ (env:=env) (name:="__new__") c1 c2 (Nat.le_of_ble_eq_true rfl) c4
 refine MethodCall_ (h1 _ _ _ _ _ _ _ _ hE hR hS fun Z₁ as₁ u s₁ S₁ e₁ hu=>?_) he
 cases hu using Is.e_top
 have tT:typeOf (Value.type "object")=pure (.type "type"):=by kernel_rfl
 have L0:Looks W.M s₁.heap (specialOf (.type "object") "__getattribute__") (some (.builtin "type.__getattribute__")):=(Looks.of_pure tT).andThen (looks_findIn S₁.zn.kIn O.ga)
 unfold getMethod
 refine wpAny_bind (L0.here ?_)
 dsimp only
 rw [if_pos canon_tga]
 have hop:Looks W.M s₁.heap (opaqueClassAbove (.type "object")) none:=Looks.of_pure (by kernel_rfl)
 refine wpAny_bind (cls_open S₁.zn.kIn hop (Looks.of_pure tT) O.ga (looks_hook S₁.zn.kIn O.hb) O.hi O.go (wpAny_pure ?_))
 refine (?_:wpAny _ _ (handedOut (.builtin "object.__new__")) _ _ _)
 rw [handedOut_of O.hh]
 refine wpAny_pure (wpAny_pure ?_)
 refine Ao (W:=W) c2 trivial ?_
 have hl:B0 W (k+1) sc [a] st [.top (.ref 653)] st:=.cons (bt c2).1 h2 .nil
 refine hl _ _ _ _ _ _ _ _ _ hE hR (S₁.toks _) fun Z₂ as₂ us s₂ S₂ e₂ hus=>⟨S₂.zn.kIn,?_⟩
 exact AR.newObj (k:=k) I _ _ _ _ _ _ _ hR.less S₂.zn S₂.ow hus fun Z₃ as₃ u s₃ zn₃ ow₃ e₃ hu=>(S₂.called zn₃ ow₃ e₃).elim fun S₃ e₃'=>q _ _ _ _ S₃ ((e₁.trans (Evo.refl (t:=_))).trans (e₂.trans e₃')) hu
end
namespace LN0
noncomputable abbrev d:=nth (AB (top 19)) 1
noncomputable abbrev sc:=AM d
noncomputable abbrev t:=exprS (nth (AB d) 0)
noncomputable abbrev r:=exprS (nth (AB d) 1)
end LN0
section
variable {W:Wd} {k:Nat}
theorem KQ (F:KF W.K) (I:KI W.K) {st:ST} (hs:st.loc.lookup ("cls":Str)=some (.top (.ref 653))):AL W (k+1) LN0.sc LN0.t st false st:=by
 have hc:∀ e,Cr e=some "cls"→AA W (k+1) LN0.sc e st (.top (.ref 653)) st:=fun e he=>by
  obtain ⟨p,rfl⟩:=D9 he
  exact .loc (by kernel_rfl!) (by kernel_rfl!) hs
 have e:LN0.t=.BoolOp .And [BE 0 LN0.t,BE 1 LN0.t] LN0.t.pos:=by kernel_rfl!
 rw [e]
 have t1:AL W (k+1) LN0.sc (BE 0 LN0.t) st true st:=.isNot (a:=653) (b:=406) (c:=false) (l:=lE (BE 0 LN0.t)) (r:=rE (BE 0 LN0.t)) (by kernel_rfl!) (by kernel_rfl!) (hc _ (by kernel_rfl!)) (AQ F {} (n:=5) (by kernel_rfl!)) (.inr ⟨by decide,rfl,by
  refine B4 I.c653 fun nm ns qn sub col sl od h6 ζ=>?_
  obtain ⟨o,h4⟩:=I.c406
  exact ⟨_,o,h6,h4,by simp⟩⟩)
 have t2:AL W (k+1) LN0.sc (BE 1 LN0.t) st false st:=.isNot (a:=653) (b:=653) (c:=true) (l:=lE (BE 1 LN0.t)) (r:=rE (BE 1 LN0.t)) (by kernel_rfl!) (by kernel_rfl!) (hc _ (by kernel_rfl!)) (AQ F {} (n:=5) (by kernel_rfl!)) (.inl ⟨rfl,rfl⟩)
 exact (Bu.go t1 (by decide) (.stop t2 (.inl ⟨rfl,by decide⟩))).test
end
end Mine
end
section
set_option maxRecDepth 100000
set_option maxHeartbeats 1000000
namespace Mine
open PySem PySem.W PyProof.Rows PySem.Calls PySem.Spec
variable [T₀:AY]
section
variable {W:Wd} {k:Nat}
theorem KS (F:KF W.K) (I:KI W.K) (O:KO W.K) {v1 v2:Value} {objs:List AO}:A8 W 2 LN0.sc (AB LN0.d) ⟨[("cls",.top (.ref 653)),("args",.top v1),("kwargs",.top v2)],objs⟩ (.ret (.own (objs.length+1))) ⟨[("cls",.top (.ref 653)),("args",.top v1),("kwargs",.top v2)],objs++[.dict [],.inst 653 objs.length]⟩:=by
 have h2:AA W 2 LN0.sc LN0.r ⟨[("cls",.top (.ref 653)),("args",.top v1),("kwargs",.top v2)],objs⟩ (.own (objs.length+1)) ⟨[("cls",.top (.ref 653)),("args",.top v1),("kwargs",.top v2)],objs++[.dict [],.inst 653 objs.length]⟩ :=
  AA.newObj (k:=1) I O (o:=lE (Dd LN0.r)) (a:=BE 0 LN0.r) (by kernel_rfl!) (AQ F {} (n:=5) (by kernel_rfl!)) (AQ F {} (n:=5) (by kernel_rfl!))
 exact AN (AW F 1 {ts:=fun e st=>if e.pos.line==88 then some (false,st) else none,ex:=fun e st=>if e.pos.line==90&&DS e then some (.own (objs.length+1),{st with objs:=objs++[.dict [],.inst 653 objs.length]}) else none}) (n:=20)
  (o:=[ob (AL W 2 LN0.sc LN0.t ⟨[("cls",.top (.ref 653)),("args",.top v1),("kwargs",.top v2)],objs⟩ false ⟨[("cls",.top (.ref 653)),("args",.top v1),("kwargs",.top v2)],objs⟩),
   ob (AA W 2 LN0.sc LN0.r ⟨[("cls",.top (.ref 653)),("args",.top v1),("kwargs",.top v2)],objs⟩ (.own (objs.length+1)) ⟨[("cls",.top (.ref 653)),("args",.top v1),("kwargs",.top v2)],objs++[.dict [],.inst 653 objs.length]⟩)]) (by kernel_rfl!)
  (obs (AC (KQ (k:=1) F I (by kernel_rfl!))) (obs (AC h2) AS))
theorem KR (F:KF W.K) (I:KI W.K) (O:KO W.K) {Z:AK} {as:List Addr} {s:Shared} {A:Around} {v:Value} {objs:List AO} {R:Result→Shared→Prop} (hR:Ae A 3) (zn:Zn W Z s.heap) (ow:Ow Z as objs s.heap)
  (q:∀ (Z':AK) (as':List Addr) (u:Value) (s':Shared),Zn W Z' s'.heap→Ow Z' as' (objs++[.dict [],.inst 653 objs.length]) s'.heap→Evo [] Z Z' as as' s s'→Is Z' as' (.own (objs.length+1)) u→R (.ok (.ret u)) s'):codeAny W.M A (.call (.ref 146) ⟨[.ref 653,v],[]⟩) R s:=by
 refine EN (names:=["cls","args","kwargs"]) (avs:=[.top (.ref 653),.top (.ref s.heap.objs.size),.top (.ref (s.heap.objs.size+1))]) (kok F) I.f146 (by kernel_rfl!) (KS F I O) hR zn ow (fun pm c=>?_) q
 rw [bind146]
 refine wpAny_bind (wpAny_newTuple (wpAny_bind (wpAny_alloc (wpAny_pure ⟨[.ref 653,.ref s.heap.objs.size,.ref (s.heap.objs.size+1)],?_,.cons (.top _) (.cons (.top _) (.cons (.top _) .nil)),(A6.refl.push _).push _,rfl,rfl,rfl⟩))) (by simp [sizeLine_eq]))
 rw [Heap.size_push];rfl
noncomputable def sdV (b:Str):AO:=.dict [("_StringIO__newline",.str "\n"),("_StringIO__buf",.str b),("_StringIO__pos",.int 0)]
end
end Mine
end
section
set_option maxRecDepth 100000
set_option maxHeartbeats 1000000
namespace Mine
open PySem PySem.W PyProof.Rows PySem.Calls PySem.Spec
open PySem Builtin Builtin.ObjectAttr Builtin.Getset_descriptor
variable [T₀:AY]
theorem Ae.make {A:Around} {k:Nat} {C:Addr} {rest:List Value} {kw:List (Str×Value)} (h:Ae A (k+1)):Ae (A.under (.builtin "type.__call__" ⟨.ref C::rest,kw⟩)) k :=
 h.down (by refine (?_:A.depth+1≤_);simp +arith only) (by refine (?_:A.units+1≤_);simp +arith only) rfl
theorem FnK.type {K:Frag} {a:Addr} {d:Stmt} {q:Str} {dv:Value} (h:FnK K a d q dv):typeIn K (.ref a)=some (.type "function"):=by
 refine Bl h.at_ fun pm c e ζ=>?_
 refine (?_:(K.lookup a).map (·.cls)=_)
 rw [e];rfl
noncomputable def P2:List AO:=[.dict [],.inst 788 0]
noncomputable def P4 (x:Str):List AO:=P2++[sdV x,.inst 653 2]
section
variable {W:Wd} {k:Nat}
theorem LG (F:KF W.K) {x:Str}:AR W 2 (.ref 430) [.own 3,.str x] (P4 "") (.str x) (P4 "") :=
 (run2 (k:=0) (x:="self") (y:="s") (v:=.own 3) (u:=.str x) (objs:=P4 "") (n:=20) (fl:=.ret (.str x)) (st':=⟨[("self",.own 3),("s",.str x),("newline",.str "\n")],P4 ""⟩) (o:=[]) F F.f430 {} (by kernel_rfl!) (by intro pm c v u;kernel_rfl!) (by kernel_rfl!) AS).ok
noncomputable def ioC (x:Str):Value→List AV→List AO→Option (AV×List AO):=fun f ζ objs=>if f==.ref 430 then some (.str x,objs) else none
theorem io_body (F:KF W.K) {x:Str}:A8 W 3 (AM LX.io) (AB LX.io) ⟨[("self",.own 3),("initial_value",.str x),("newline",.str "\n")],P2++[.dict [],.inst 653 2]⟩ .next ⟨[("self",.own 3),("initial_value",.str x),("newline",.str "\n")],P4 x⟩ :=
 AN (AW F 2 {call:=ioC x}) (n:=30) (o:=[ob (AP W 2 (.ref 430) [.own 3,.str x] (P4 "") (.str x) (P4 ""))]) (by kernel_rfl!) (obs (AC (cob (LG F) (by decide))) AS)
theorem io_call (F:KF W.K) (I:KI W.K) {Z:AK} {as:List Addr} {s:Shared} {A:Around} {x:Str} {t:Tok} {u:Value} {R:Result→Shared→Prop} (hR:Ae A 4) (zn:Zn W Z s.heap) (ow:Ow Z as (P2++[.dict [],.inst 653 2]) s.heap) (hu:Is Z as (.own 3) u) (hx:x.length≤sizeLine)
  (q:∀ (Z':AK) (as':List Addr) (s':Shared),Zn W Z' s'.heap→Ow Z' as' (P4 x) s'.heap→Evo [] Z Z' as as' s s'→R (.ok (.ret .none)) s'):codeAny W.M A (.call (.ref 423) ⟨[u,.str x t],[]⟩) R s:=by
 refine oEEE I.d416 fun t1 t2 n hd=>?_
 refine EN (names:=["self","initial_value","newline"]) (avs:=[.own 3,.str x,.str "\n"]) (kok F) I.f423 (by kernel_rfl!) (io_body F) hR zn ow (fun pm c=>?_) fun Z' as' v s' z o e hv=>?_
 ·exact EN.pure (vals:=[u,.str x t,.str "\n" t2]) (.cons hu (.cons (.str t hx) (.cons (.str t2 (szl (Nat.le_of_ble_eq_true (by kernel_rfl!)))) .nil))) (BindsTo.of_defaults rfl (zn.kIn _ _ hd) rfl rfl rfl)
 ·cases hv using Is.e_none
  exact q _ _ _ z o e
set_option tactic.hygienic true in
theorem fn_sio (F:KF W.K) (I:KI W.K) (O:KO W.K) {x:Str}:AR W 6 (.ref 653) [.str x] P2 (.own 3) (P4 x):=by
 intro Z as vals s A Q E hR zn ow hv q
 cases hv using IsL.e1 with
 | _ _ h1 =>
  cases h1 using Is.e_str
  rename_i tx hx
  have X:=zn.kIn
  obtain ⟨h,g,d,t,os⟩:=s
  have typ:=looks_instIn (M:=W.M) X I.t653
  have call:=looks_specialIn (M:=W.M) X I.k653
  have made:=(I.c653.at X).made (M:=W.M)
  have hm:=(I.c653.at X).mro (M:=W.M)
  refine B4 (I.c653.at X) fun nm ns qn sub col sl od hC ζ=>?_
  obtain ⟨rest,hp⟩:=I.p150
  refine wpAny_call (codeAny_of_tree ?_)
  refine (?_:wpAny _ _ (callAny (.ref 653) _) _ _ _)
  refine nd_load hC ?_
  refine (?_:wpAny _ _ (callAny.viaDunder (.ref 653) _) _ _ _)
  unfold callAny.viaDunder
  refine wpAny_bind (call.at ?_)
  dsimp only
  rw [tc_bind]
  refine wpAny_bind (wpAny_pure (wpAny_bind (wpAny_pure ?_)))
  refine wpAny_pure (a:=Fin.again (.call (.builtin "type.__call__") ⟨[.ref 653,.str x tx],[]⟩)) (And.intro rfl ?_)
  refine codeAny_call_builtin_at (Code.quiet_builtin _ (by decide +kernel)) entry_typeCall (check_slot tc_kind tc_split typ (tc_args _ _ _) ?_)
  unfold Builtin.«type.__call__»
  iterate 9 lk
  refine cls_bind X I.r653 I.n653 (wpAny_call (sm_get (s:=⟨h,g,d,t+1,os⟩) X hp (handed_on I.h146 ?_)))
  refine wpAny_bind (wpAny_holding (wpAny_call ?_))
  have hR1:Ae (A.under (.builtin "type.__call__" ⟨.ref 653::[.str x tx],[]⟩)) 5:=hR.make
  refine KR F I O (s:=⟨h,g,d,t+1,os⟩) (hR1.less.less) zn ow fun Z₁ as₁ u₁ s₁ zn₁ ow₁ e₁ hu₁=>?_
  obtain ⟨h₁,g₁,d₁,t₁,os₁⟩:=s₁
  cases hu₁ using Is.e_own with
  | _ a₁ ha₁ =>
   refine AG (ow₁.obj 3 a₁ (.inst 653 2) ha₁ rfl) fun oi ho1 ho2=>?_
   cases ho2 using IsO.e_inst with
   | _ dx sl' hdx =>
    have tOf:Looks W.M h₁ (typeOf (.ref a₁)) (.ref 653):=(Looks.ld (part:=none) ho1).andThen .now
    have X₁:=zn₁.kIn
    have s1:=looks_subIn (M:=W.M) X₁ I.o653
    have i1:=looks_findIn (M:=W.M) X₁ I.i653
    have b1:=bind_fn (M:=W.M) X₁ (.ref a₁) (f:=423) I.f423.type
    have e0:Evo [] Z Z as as ⟨h,g,d,t,os⟩ ⟨h,g,d,t+1,os⟩:=.refl (t:=t+1)
    unfold isInstance callSpecial? specialOf
    iterate 7 lk
    refine wpAny_bind (wpAny_bind (tOf.at (i1.at ?_)))
    dsimp only
    refine wpAny_holding (wpAny_bind (b1.at ?_))
    dsimp only
    refine wpAny_bind (wpAny_call (io_call F I hR1.less zn₁ ow₁ (.own ha₁) hx fun Z₂ as₂ s₂ zn₂ ow₂ e₂=>?_))
    refine wpAny_pure (wpAny_pure ?_)
    exact q _ _ _ _ zn₂ ow₂ (e0.trans (e₁.trans e₂)) ((Is.own (Z:=Z₁) ha₁).evo e₂)
end
end Mine
end
section
set_option maxRecDepth 100000
set_option maxHeartbeats 1000000
namespace Mine
open PySem PySem.W PyProof.Rows PySem.Calls PySem.Spec
variable [T₀:AY]
noncomputable def itC:Value→List AV→List AO→Option (AV×List AO):=fun f ζ objs=>if f==.type "collections.deque" then some (.own objs.length,objs++[.raw dqO]) else none
noncomputable def d1I:List (Str×AV):=[("instream",.own 3),("infile",.none),("posix",.bool true),("eof",.none),("commenters",.str "#"),("wordchars",.str wcS),("whitespace",.str " \t\r\n"),("whitespace_split",.bool false),("quotes",.str "'\""),("escape",.str "\\"),("escapedquotes",.str "\""),("state",.str " ")]
noncomputable def d2I:List (Str×AV):=d1I++([("pushback",.own 4),("lineno",.int 1),("debug",.int 0),("token",.str "")]:List (Str×AV))
noncomputable def d3I:List (Str×AV):=d2I++([("filestack",.own 5),("source",.none),("_punctuation_chars",.str "")]:List (Str×AV))
noncomputable def o1I (x:Str):List AO:=[.dict d1I,.inst 788 0,sdV x,.inst 653 2]
noncomputable def o2I (x:Str):List AO:=[.dict d2I,.inst 788 0,sdV x,.inst 653 2,.raw dqO]
noncomputable def o3I (x:Str):List AO:=[.dict d3I,.inst 788 0,sdV x,.inst 653 2,.raw dqO,.raw dqO]
section
variable {W:Wd} {k:Nat} {sc:Scope} {st st₁:ST}
theorem AA.callCls {x:Str} {e a:Expr} {f:Addr} {v r:AV} {objs':List AO} (he:DX x e=some a) (hd:(x==("__debug__":Str))=false) (hx:sc.names.lookup x=some .globalImplicit) (hg:Bi W x (.top (.ref f))) (hk:keepIn W.K (.ref f)=true)
  (h1:AA W (k+1) sc a st v st₁) (h2:AR W k (.ref f) [v] st₁.objs r objs'):AA W (k+1) sc e st r {st₁ with objs:=objs'}:=by
 refine Bl (DG he) fun p pos r2_ hs=>?_;subst r2_
 have hss:[a].all A4=true:=by simp [hs]
 intro Z L as s A Q E env hE hR hS q
 refine wpAny_Call_Name_kw (wpAny_Name (Ah (as:=as) hE hS.zn hx hg fun u hu=>?_) hd)
 cases hu using Is.e_top
 have hl:B0 W (k+1) sc [a] st [v] st₁:=.cons hs h1 .nil
 refine callWith_of (P:=W.K.In) ?_ (keeps_K hk) (Bf hss (hl _ _ _ _ _ _ _ _ _ hE hR hS fun Z₁ as₁ us s₁ S₁ e₁ hus=>⟨S₁.zn.kIn,?_⟩))
 ·rw [star_none hss];rfl
 ·exact h2 _ _ _ _ _ _ _ hR.less S₁.zn S₁.ow hus fun Z₂ as₂ u s₂ zn₂ ow₂ e₂ hu=>(S₁.called zn₂ ow₂ e₂).elim fun S₂ e₂'=>q _ _ _ _ S₂ (e₁.trans e₂') hu
noncomputable abbrev LX.sioE:=exprS (nth (AB (nth (AB LX.it) 0)) 0)
theorem it_body (F:KF W.K) (I:KI W.K) (O:KO W.K) {x:Str}:A8 W 7 (AM LX.it) (AB LX.it) ⟨[("self",.own 1),("instream",.str x),("infile",.none),("posix",.bool true),("punctuation_chars",.bool false)],P2⟩ .next
  ⟨[("self",.own 1),("instream",.own 3),("infile",.none),("posix",.bool true),("punctuation_chars",.str "")],o3I x⟩:=by
 have hs:AA W 7 (AM LX.it) LX.sioE ⟨[("self",.own 1),("instream",.str x),("infile",.none),("posix",.bool true),("punctuation_chars",.bool false)],P2⟩ (.own 3) ⟨[("self",.own 1),("instream",.str x),("infile",.none),("posix",.bool true),("punctuation_chars",.bool false)],P4 x⟩ :=
  AA.callCls (k:=6) (x:="StringIO") (a:=BE 0 LX.sioE) (f:=653) (v:=.str x) (by kernel_rfl!) (by kernel_rfl!) (by kernel_rfl!) (CK F (by kernel_rfl!)) I.keep653 (AQ F {} (n:=5) (by kernel_rfl!)) (fn_sio F I O)
 exact AN (AW F 6 {call:=itC,ex:=fun e st=>if DS e&&e.pos.line==539 then some (.own 3,{st with objs:=P4 x}) else none}) (n:=60)
  (o:=[ob (AA W 7 (AM LX.it) LX.sioE ⟨[("self",.own 1),("instream",.str x),("infile",.none),("posix",.bool true),("punctuation_chars",.bool false)],P2⟩ (.own 3) ⟨[("self",.own 1),("instream",.str x),("infile",.none),("posix",.bool true),("punctuation_chars",.bool false)],P4 x⟩),
   ("abcdfeghijklmnopqrstuvwxyzABCDEFGHIJKLMNOPQRSTUVWXYZ0123456789_":Str).length+("ßàáâãäåæçèéêëìíîïðñòóôõöøùúûüýþÿÀÁÂÃÄÅÆÇÈÉÊËÌÍÎÏÐÑÒÓÔÕÖØÙÚÛÜÝÞ":Str).length,
   ob (AP W 6 (.type "collections.deque") [] (o1I x) (.own (o1I x).length) (o1I x++[.raw dqO])),ob (AP W 6 (.type "collections.deque") [] (o2I x) (.own (o2I x).length) (o2I x++[.raw dqO]))]) (by kernel_rfl!)
  (obs (AC hs) (obs (szl (Nat.le_of_ble_eq_true (by kernel_rfl!))) (obs (AC (cob HW (by decide))) (obs (AC (cob HW (by decide))) AS))))
set_option tactic.hygienic true in
theorem AA.mkReader (F:KF W.K) (I:KI W.K) (O:KO W.K) {e a v:Expr} {x:Str} {loc:List (Str×AV)} (he:kwOf "shlex" e=some (a,v)) (hx:sc.names.lookup ("shlex":Str)=some .globalImplicit) (h1:AA W 10 sc a ⟨loc,[]⟩ (.str x) ⟨loc,[]⟩) (h2:AA W 10 sc v ⟨loc,[]⟩ (.bool true) ⟨loc,[]⟩) :
  AA W 10 sc e ⟨loc,[]⟩ (.own 1) ⟨loc,o3I x⟩:=by
 obtain ⟨py,⟨n,v',pv⟩,pos,rfl,hn,hv',c3⟩:=kwOf_eq he
 obtain rfl:n=some "posix":=hn
 obtain rfl:v'=v:=hv'
 have hss:[a].all A4=true:=by simp [c3]
 intro Z L as s A Q E env hE hR hS q
 refine wpAny_Call_Name_kw (wpAny_Name (Ah (as:=as) (v:=.top (.ref 788)) hE hS.zn hx (CK F (by kernel_rfl!)) fun u hu=>?_) (by kernel_rfl!))
 cases hu using Is.e_top
 refine callWith_of (P:=W.K.In) ?_ (keeps_K I.keep788) (evalArgs_kw2 rfl (args_cons (h1 _ _ _ _ _ _ _ _ hE hR hS fun Z₁ as₁ u s₁ S₁ e₁ hu=>spliced_nil (kwAll_cons (h2 _ _ _ _ _ _ _ _ hE hR S₁ fun Z₂ as₂ u₂ s₂ S₂ e₂ hu₂=>kwAll_nil ⟨S₂.zn.kIn,?_⟩))) (Bn c3)) (Bn c3))
 ·refine (?_:(((backTo pos (starEach [a] env)).any (·.1)) || _)=false)
  rw [star_none hss];rfl
 cases hu using Is.e_str
 cases hu₂ using Is.e_bool
 rename_i tx hxl
 have ha:as₂=[]:=by
  have:=S₂.ow.len
  simpa using this
 have zn:=S₂.zn
 have ow:=S₂.ow
 have X:=zn.kIn
 obtain ⟨h,g,d,t,os⟩:=s₂
 have ow2:=ow.made (C:=788) zn
 have zn2:=zn.grow (DT (C:=788) (h:=h))
 obtain ⟨n,hd⟩:=I.d705
 refine wpAny_call (make_core (makes_of X I.m788) (looks_findIn X I.i788) (fun self=>bind_fn X self I.f712.type) (.inl rfl) ?_)
 have hR1:Ae (A.under (.builtin "type.__call__" ⟨.ref 788::[.str x tx],[("posix",.bool true)]⟩)) 9:=hR.make
 refine EN (k:=7) (names:=["self","instream","infile","posix","punctuation_chars"]) (avs:=[.own 1,.str x,.none,.bool true,.bool false]) (kok F) I.f712 (by kernel_rfl!) (it_body F I O) hR1.less zn2 ow2 (fun pm c=>?_) fun Z' as' v s' z o e hv=>?_
 ·refine EN.pure (vals:=[.ref (h.objs.size+1),.str x tx,.none,.bool true,.bool false]) (.cons (.own ?_) (.cons (.str tx hxl) (.cons .none (.cons (.bool _) (.cons (.bool _) .nil))))) (BindsTo.of_defaults rfl (zn2.kIn _ _ hd) rfl rfl rfl)
  subst ha;rfl
 ·cases hv using Is.e_none
  refine (?_:InitBack _ _ _ _)
  refine ⟨rfl,?_⟩
  have g0:=DT (C:=788) (h:=h)
  have e0:Evo [] Z₂ Z₂ as₂ (as₂++[h.objs.size,h.objs.size+1]) ⟨h,g,d,t,os⟩ ⟨(h.push emptyDict).push (instObj 788 h.objs.size),g,d,t,os⟩:=⟨fun ζ ζ h=>h,fun ζ ζ h=>.inl h,⟨_,rfl,fun a ha=>by
   rcases List.mem_cons.mp ha with rfl | ha
   ·exact Nat.le_refl _
   ·rw [List.mem_singleton.mp ha];exact Nat.le_succ _⟩,fun b o h ζ ζ ζ=>g0.1 b o h,g0.2,AY.grr _,rfl,rfl⟩
  obtain ⟨S₃,e₃⟩:=S₂.called z o (e0.trans e)
  refine q _ _ _ _ S₃ ((e₁.trans e₂).trans e₃) ((Is.own (Z:=Z₂) ?_).evo e)
  subst ha;rfl
end
end Mine
end
section
set_option maxRecDepth 10000
namespace Mine
open PySem PySem.W PyProof.Rows PySem.Calls PySem.Spec
mutual
noncomputable def AV.flat:AV→Bool
 | .lst _ | .tup _ | .mtch ..=>false
 | _=>true
end
noncomputable def AO.flat:AO→Bool
 | .dict es=>es.all fun e=>AV.flat e.2
 | .inst ..=>true
 | .raw _=>true
 | _=>false
theorem Is.flat {Z Z2:AK} {as:List Addr} {a:AV} {v:Value} (h:Is Z as a v) (f:AV.flat a=true):Is Z2 as a v:=by
 induction h using Is.casesOn with
 | none=>exact .none
 | bool b=>exact .bool b
 | int i t=>exact .int i t
 | str t h=>exact .str t h
 | top v=>exact .top v
 | own h=>exact .own h
 | lst _ _ _=>exact Bool.noConfusion f
 | tup _ _ _=>exact Bool.noConfusion f
 | mtch _ _=>exact Bool.noConfusion f
theorem BX.flat {Z Z2:AK} {as:List Addr} {es:List (Str×AV)} {ds:List DictEntry} (h:BX Z as es ds) (f:(es.all fun e=>AV.flat e.2)=true):BX Z2 as es ds:=by
 induction h with
 | nil=>exact .nil
 | cons a _ ih =>
  rw [List.all_cons,Bool.and_eq_true] at f
  exact .cons (a.flat f.1) (ih f.2)
theorem IsO.flat {Z Z2:AK} {as:List Addr} {x:AO} {o:Obj} (h:IsO Z as x o) (f:AO.flat x=true):IsO Z2 as x o:=by
 induction h using IsO.casesOn with
 | list _ _=>exact Bool.noConfusion f
 | inst q=>exact .inst q
 | dict q=>exact .dict (q.flat f)
 | raw q=>exact .raw q
 | fn _ _=>exact Bool.noConfusion f
theorem Ow.flat [AY] {Z Z2:AK} {as:List Addr} {objs:List AO} {h:Heap} (ow:Ow Z as objs h) (f:objs.all AO.flat=true) (hz:∀ a∈as,∀ o,¬ Z2 a o):Ow Z2 as objs h :=
 ⟨ow.len,fun i a x e1 e2=>AG (ow.obj i a x e1 e2) fun o h1 h2=>⟨o,h1,h2.flat (List.all_eq_true.mp f x (List.mem_of_getElem? e2))⟩,ow.nodup,fun a ha=>⟨hz a ha,(ow.out a ha).2⟩⟩
structure Kept (fr as:List Addr) (s s':Shared):Prop where
 keep:∀ b o,s.heap.get? b=some o→b∉fr→b∉as→s'.heap.get? b=some o
 slots:∀ b∈fr,∀ o,s.heap.get? b=some o→∃ sl,s'.heap.get? b=some {o with slots:=sl}
 size:s.heap.objs.size≤s'.heap.objs.size
 gens:s'.gens=s.gens
 drawn:s'.drawn=s.drawn
 os:s'.os=s.os
theorem Kept.trans {fr as:List Addr} {s s' s'':Shared} (a:Kept fr as s s') (b:Kept fr as s' s''):Kept fr as s s'' :=
 ⟨fun x o e h1 h2=>b.keep x o (a.keep x o e h1 h2) h1 h2,fun x hx o e=>(a.slots x hx o e).elim fun sl e1=>(b.slots x hx _ e1).elim fun sl' e2=>⟨sl',e2⟩,Nat.le_trans a.size b.size,b.gens.trans a.gens,b.drawn.trans a.drawn,b.os.trans a.os⟩
noncomputable def De (h:Heap):List Addr→Heap
 | []=>h
 | a::r=>De (h.update a fun o=>{o with data:=.freed}) r
set_option backward.match.sparseCases true in
theorem JX {h:Heap} {a:Addr}:(h.update a fun o=>{o with data:=.freed}).get? a=none:=by
 cases h with
 | mk objs l =>
  refine (?_:(match (objs.modify a _)[a]? with | some ⟨_,_,.freed,_⟩=>none | o=>o)=none)
  rw [Array.getElem?_modify,if_pos rfl]
  cases objs[a]? <;> rfl
theorem BS {b:Addr}:∀ {r:List Addr} {h:Heap},(b∈r∨h.get? b=none→(De h r).get? b=none)∧(b∉r→(De h r).get? b=h.get? b)
 | [],h=>⟨fun x=>x.elim (fun x=>nomatch x) id,fun ζ=>rfl⟩
 | a::r,h=>by
  have ih:=@BS b r (h.update a fun o=>{o with data:=.freed})
  refine ⟨fun x=>ih.1 ?_,fun x=>?_⟩
  ·by_cases e:b=a
   ·subst e;exact .inr JX
   ·rcases x with x | x
    ·rcases List.mem_cons.mp x with rfl | x
     ·exact (e rfl).elim
     ·exact .inl x
    ·exact .inr (by rw [Heap.get?_update_other _ _ (Ne.symm e)];exact x)
  ·rw [List.mem_cons,not_or] at x
   refine (?_:(De _ r).get? b=_)
   rw [ih.2 x.2,Heap.get?_update_other _ _ (Ne.symm x.1)]
structure FrS (outer:List Env) (fr:List Addr) (h:Heap):Prop where
 frs:outer.map (·.frame)=fr.map some
 kinds:∀ env∈outer,env.scope.kind≠.module
 objs:∀ L∈fr,∃ o,h.get? L=some o∧∀ vs,o.data≠.fields vs
theorem FrS.fun {base h:Heap}:∀ {outer:List Env} {fr:List Addr},FrS outer fr h→(∀ L∈fr,base.get? L=none)→h.FunFrames base outer
 | [],_,_,_=>trivial
 | env::outer,[],x,_=>by have:=x.frs;simp at this
 | env::outer,L::fr,x,hb=>by
  have h1:=x.frs
  simp only [List.map_cons,List.cons.injEq] at h1
  refine AG (x.objs L (.head _)) fun o h2 h3=>?_
  exact ⟨x.kinds env (.head _),⟨L,o,h1.1,hb L (.head _),h2,h3⟩,FrS.fun ⟨h1.2,fun e he=>x.kinds e (.tail _ he),fun L hL=>x.objs L (.tail _ hL)⟩ fun L hL=>hb L (.tail _ hL)⟩
theorem FrS.kept {outer:List Env} {fr as:List Addr} {s s':Shared} (x:FrS outer fr s.heap) (k:Kept fr as s s'):FrS outer fr s'.heap :=
 ⟨x.frs,x.kinds,fun L hL=>AG (x.objs L hL) fun o h1 h2=>(k.slots L hL o h1).elim fun sl h3=>⟨_,h3,h2⟩⟩
section
variable {W:Wd}
noncomputable abbrev Kz (W:Wd):AK:=fun a o=>W.K.lookup a=some o
theorem MI {h:Heap} (hK:W.K.In h):@Zn Aa W (Kz W) h:=by
 letI:AY:=Aa
 exact ⟨fun ζ ζ e=>e,hK,(fun ζ ζ ζ z=>nomatch z),(fun ζ z=>nomatch z)⟩
theorem AR.kept {k:Nat} {f:Value} {args:List AV} {objs objs':List AO} {r:AV} {as fr:List Addr} {vals:List Value} {s:Shared} {A:Around} {Q E:Value→Shared→Prop} (h:@AR Aa W k f args objs r objs') (hR:Ae A k) (X:W.K.In s.heap) (ow:@Ow Aa (Kz W) as objs s.heap)
  (hl:objs'.length=objs.length) (hf:objs'.all AO.flat=true) (hr:AV.flat r=true) (hv:IsL (Kz W) as args vals)
  (q:∀ u s',W.K.In s'.heap→@Ow Aa (Kz W) as objs' s'.heap→Kept [] as s s'→Is (Kz W) as r u→Q u s'):wpAny W.M A (call f vals) Q E s:=by
 letI:AY:=Aa
 refine h (Kz W) as vals s A Q E hR (MI X) ow hv fun Z' as' u s' zn ow' e hu=>?_
 refine AG e.pre fun more r1_ hm=>?_;subst r1_
 have hmore:more=[]:=by
  have h1:=ow'.len
  have h2:=ow.len
  rw [List.length_append] at h1
  exact List.eq_nil_of_length_eq_zero (by exact (eqn h1 (eqn hl (eqs h2 (by simp +arith only)))))
 subst hmore
 rw [List.append_nil] at ow' hu
 exact q u s' zn.kIn (ow'.flat hf fun a ha o=>(ow.out a ha).1 o) ⟨fun b o h1 ζ h3=>e.keep b o h1 (by simp) h3 (fun z=>nomatch z),fun b hb=>(nomatch hb),e.size,(e.gens:s.gens=s'.gens).symm,e.drawn,e.os⟩ (hu.flat hr)
theorem Kept.wide {fr as:List Addr} {s s':Shared} (k:Kept [] as s s') (hd:∀ L∈fr,L∉as):Kept fr as s s' :=
 ⟨fun b o e ζ h=>k.keep b o e (fun z=>nomatch z) h,fun b hb o e=>⟨o.slots,k.keep b o e (fun z=>nomatch z) (hd b hb)⟩,k.size,k.gens,k.drawn,k.os⟩
end
end Mine
end
section
set_option maxRecDepth 10000
set_option maxHeartbeats 1000000
namespace Mine
open PySem PySem.W PyProof.Rows PySem.Calls PySem.Spec
structure LxS (W:Wd) (outer:List Env) (fr as:List Addr) (objs:List AO) (s:Shared):Prop where
 X:W.K.In s.heap
 ow:@Ow Aa (Kz W) as objs s.heap
 fs:FrS outer fr s.heap
 apart:∀ L∈fr,L∉as∧W.K.lookup L=none
section
variable {W:Wd} {outer:List Env} {fr as:List Addr} {objs:List AO} {s:Shared} {A:Around} {x:List Nat} {p:Nat} {stt:AV} {tk:List Nat}
theorem LxS.reader (T:LxS W outer fr as (rO stt tk x p) s):∃ a dx sl ds n,as[1]?=some a∧InstAt s.heap a ⟨.ref 788,some dx,.plain,sl⟩ 788 (some (dictOf ds n)):=by
 letI:AY:=Aa
 have hl:as.length=6:=T.ow.len
 have h1:as[1]?=some (as[1]'(by exact lin (Nat.le_of_eq (Eq.symm (by assumption))) (by simp +arith only))):=List.getElem?_eq_getElem _
 obtain ⟨dx,sl,ds,n,_,I,_⟩:=DC (es:=[("instream",.own 3),("infile",.none),("posix",.bool true),("eof",.none),("commenters",.str ""),("wordchars",.str wcS),("whitespace",.str " ;,"),("whitespace_split",.bool true),("quotes",.str "\""),("escape",.str "\\"),("escapedquotes",.str "\""),
  ("state",stt),("pushback",.own 4),("lineno",.int 1),("debug",.int 0),("token",.str (S tk)),("filestack",.own 5),("source",.none),("_punctuation_chars",.str "")]) T.ow (C:=788) (d:=0) rfl rfl h1
 exact ⟨_,dx,sl,ds,n,h1,I⟩
theorem Gx {E:Value→Shared→Prop} {a C f:Addr} {ox:Obj} {od:Option Obj} {Q:Option Value→Shared→Prop} {K:Frag} {M:Model} (X:K.In s.heap) (I:InstAt s.heap a ox C od) (hs:findIn K (.ref C) "__next__"=some (some (.ref f))) (hf:typeIn K (.ref f)=some (.type "function"))
  (h:wpAny M A (call (.ref f) [.ref a]) (fun v s'=>Q (some v) s') (fun e s'=>wpAny M A (isInstance e (.type "StopIteration")) (fun b s₂=>if b=true then Q none s₂ else E e s₂) E s') s):wpAny M A (pyNext (.ref a)) Q E s:=by
 unfold pyNext
 refine wpAny_bind (wpAny_attempt (special_fn (name:="__next__") (args:=[]) X I hs hf (wpAny_mono h (fun v s' hq=>?_) (fun e s' he=>?_))))
 ·exact wpAny_pure hq
 ·refine wpAny_bind (wpAny_mono he (fun b s₂ hb=>?_) fun ζ ζ z=>z)
  induction b using Bool.casesOn with
  | true=>exact wpAny_pure hb
  | false=>exact wpAny_throw hb
noncomputable def rsP (s:Stmt):Option Expr×Pos:=match s with
 | .Raise e _ p=>(e,p)
 | _=>(none,default)
noncomputable def rsN (s:Stmt):Pos:=(((rsP s).1.bind HC).map (·.2)).getD default
theorem lx_stop (F:KF W.K) (I:KI W.K) {a:Addr} {p':Nat} {stt':AV} {Q:Option Value→Shared→Prop} {E:Value→Shared→Prop} (hgt:@AR Aa W 8 (.ref 749) [.own 1] (rO stt [] x p) .none (rO stt' [] x p')) (T:LxS W outer fr as (rO stt [] x p) s) (ha:as[1]?=some a) (hfr:A.frames=some outer) (hR:Ae A 12)
  (q:∀ s',Kept fr as s s'→Q none s'):wpAny W.M A (pyNext (.ref a)) Q E s:=by
 letI:AY:=Aa
 refine G1 T.reader fun a' dx sl ds n ha' IA=>?_
 obtain rfl:a'=a:=Option.some.inj (ha'.symm.trans ha)
 refine Gx T.X IA I.nx788 F.f785.type ?_
 refine Be F.f785.at_ fun pm c hK hcode hcd=>?_
 have hd:=hR.depth
 refine wpAny_call (codeAny_call_def (fd:=fnD LX.nx "shlex.__next__" .none pm c) (binds:=[("self",.ref a')]) (by refine (?_:A.depth<1000);exact lin (by assumption) (by simp +arith only)) (T.X _ _ hK) rfl (F.lim _ T.X) (codeRec_of T.X hcode) rfl (.of_eq (by kernel_rfl!)) ?_ ?_ (fun h₀ hns hk₀=>?_) (by kernel_rfl!) (by kernel_rfl!) (by kernel_rfl!))
 ·have:((AM LX.nx).names.all fun x=>decide (x.2≠.cell))=true:=by kernel_rfl!
  exact fun y hy=>of_decide_eq_true (List.all_eq_true.mp this y hy)
 ·intro y hy
  rw [List.mem_singleton.mp hy]
  kernel_rfl!
 have zn:Zn W (Kz W) s.heap:=MI T.X
 have hsz:s.heap.objs.size≤h₀.objs.size:=Nat.le_of_lt hns.lt
 have noIn:∀ b∈as,b<s.heap.objs.size:=fun b hb=>by
  refine oEP (List.getElem_of_mem hb) fun i hi r2_=>?_;subst r2_
  have hi':i<(rO stt [] x p).length:=by rw [← T.ow.len];exact hi
  refine AG (T.ow.obj i _ (rO stt [] x p)[i] (List.getElem?_eq_getElem hi) (List.getElem?_eq_getElem hi')) fun o h1 ζ=>?_
  exact Heap.lt_size h1
 have S:Sta W (Kz W) s.heap.objs.size as ⟨[("self",.own 1)],rO stt [] x p⟩ {s with heap:=h₀,toks:=s.toks+1}:=by
  refine ⟨zn.grow ⟨hk₀,hsz⟩,T.ow.grow ⟨hk₀,hsz⟩,⟨⟨_,hns,fun y v e=>?_⟩,fun z=>absurd (noIn _ z) (Nat.lt_irrefl _),fun o z=>absurd (Heap.lt_size (zn.keep _ _ z)) (Nat.lt_irrefl _),fun z=>nomatch z⟩⟩
  by_cases hy:y="self"
  ·subst hy
   rw [List.lookup_cons_self] at e
   cases e
   exact ⟨.ref a',by simp,.own ha⟩
  ·rw [List.lookup_cons,beq_false_of_ne hy] at e
   exact no e
 have hE:Aq (callEnv (fnD LX.nx "shlex.__next__" .none pm c) s.heap.objs.size 785) (AM LX.nx) s.heap.objs.size:=⟨rfl,rfl,rfl,rfl,by kernel_rfl!,fun c' q' z=>by
  have:DW (AM LX.nx)=none:=by kernel_rfl!
  rw [this] at z;exact no z⟩
 have hR2:Ae (A.deeper (callEnv (fnD LX.nx "shlex.__next__" .none pm c) s.heap.objs.size 785)) 11:=hR.down (by refine (?_:A.depth+1≤A.depth+9);simp +arith only) (by refine (?_:A.units+3≤A.units+99);simp +arith only) rfl
 have eb:AB LX.nx=nth (AB LX.nx) 0::.If (exprS (nth (AB LX.nx) 1)) [.Raise (some (.Name "StopIteration" (rsN (nth (AB (nth (AB LX.nx) 1)) 0)))) none (rsP (nth (AB (nth (AB LX.nx) 1)) 0)).2] [] (B3 (nth (AB LX.nx) 1))::[nth (AB LX.nx) 2]:=by kernel_rfl!
 rw [eb]
 have x1:AH W 9 (AM LX.nx) (nth (AB LX.nx) 0) ⟨[("self",.own 1)],rO stt [] x p⟩ .next ⟨[("self",.own 1),("token",.none)],rO stt' [] x p'⟩ :=
  Ea (k:=8) (AW F 8 {call:=nxC .none (rO stt' [] x p')}) (n:=20) (o:=[ob (AP W 8 (.ref 749) [.own 1] (rO stt [] x p) .none (rO stt' [] x p'))]) (by kernel_rfl!) (obs (AC (cob hgt (by decide))) AS)
 refine wpAny_execs_cons (x1 _ _ _ _ _ _ _ _ hE hR2.less.less S fun Z₁ as₁ u s₁ S₁ e₁ hu=>?_)
 cases hu using IsF.e_next
 have x2:AL W 9 (AM LX.nx) (exprS (nth (AB LX.nx) 1)) ⟨[("self",.own 1),("token",.none)],rO stt' [] x p'⟩ true ⟨[("self",.own 1),("token",.none)],rO stt' [] x p'⟩:=D1 (k:=8) F {} (n:=10) (o:=[]) (by kernel_rfl!) AS
 refine wpAny_execs_cons (wpAny_If (x2 _ _ _ _ _ _ _ _ hE hR2.less.less S₁ fun Z₂ as₂ s₂ S₂ e₂=>?_))
 rw [if_pos rfl]
 refine wpAny_execs_cons (owsi_raiseC hR2.handled (wpAny_Name (Ah (as:=as₂) (v:=.top (.type "StopIteration")) hE S₂.zn (by kernel_rfl!) (CK F (by kernel_rfl!)) fun u hu=>?_) (by kernel_rfl!)) fun h' e hm=>?_)
 ·cases hu using Is.e_top
  exact ⟨rfl,rfl⟩
 have e12:=e₁.trans e₂
 have has:as₂=as:=by
  refine AG e12.pre fun more h1 ζ=>?_
  have h2:as₂.length=6:=S₂.ow.len
  have h3:as.length=6:=T.ow.len
  rw [h1,List.length_append,h3] at h2
  have:more.length=0:=by exact (eqn h2 (by simp +arith only))
  rw [h1,List.eq_nil_of_length_eq_zero this,List.append_nil]
 subst has
 have up:∀ b o,s.heap.get? b=some o→b∉as₂→s₂.heap.get? b=some o:=fun b o h1 h2=>e12.keep b o (hk₀ b o h1) (fun z=>by
  rw [List.mem_singleton.mp z] at h1
  exact Nat.lt_irrefl _ (Heap.lt_size h1)) h2 (fun z=>nomatch z)
 have frne:∀ b∈fr,∀ o,s.heap.get? b=some o→b≠s.heap.objs.size:=fun b ζ o h1 h2=>by rw [h2] at h1;exact Nat.lt_irrefl _ (Heap.lt_size h1)
 have fs':FrS (callEnv (fnD LX.nx "shlex.__next__" .none pm c) s.heap.objs.size 785::outer) (s.heap.objs.size::fr) h':=by
  refine ⟨by rw [List.map_cons,List.map_cons,T.fs.frs];rfl,fun env he=>?_,fun L hL=>?_⟩
  ·rcases List.mem_cons.mp he with rfl | he
   ·have:(AM LX.nx).kind=.function:=by kernel_rfl!
    refine (?_:(AM LX.nx).kind≠.module)
    rw [this];decide
   ·exact T.fs.kinds env he
  ·rcases List.mem_cons.mp hL with rfl | hL
   ·obtain ⟨m,⟨o,es,ep,ho,hdt,_⟩,_⟩:=S₂.fr.ns
    exact ⟨o,hm.keeps _ _ ho,fun vs=>by rw [hdt];simp⟩
   ·refine AG (T.fs.objs L hL) fun o h1 h2=>?_
    exact ⟨o,hm.keeps _ _ (up _ _ h1 (T.apart L hL).1),h2⟩
 refine AG hm.there fun tt he ζ=>?_
 refine wpAny_leaving_first (base:=De s₂.heap (s.heap.objs.size::fr)) (by refine (?_:(A.frames.map _)=_);rw [hfr];rfl) (fs'.fun fun L hL=>BS.1 (.inl hL)) rfl he (fun b o hb=>?_) (BS.1 (.inr hm.new)) rfl rfl fun h'' hleft=>?_
 ·by_cases hmem:b∈s.heap.objs.size::fr
  ·rw [BS.1 (.inl hmem)] at hb;exact no hb
  ·rw [BS.2 hmem] at hb
   exact hm.keeps b o hb
 obtain ⟨l1,l2,⟨oe,vs,T',oT,ts,l3,l4,_⟩,l5⟩:=hleft
 refine wpAny_isInstance (T:="StopIteration") ⟨oe,l3,l4⟩ owsi_facts.sub ?_
 rw [if_pos rfl]
 refine q _ ⟨fun b o h1 h2 h3=>?_,fun b hb o h1=>?_,?_,?_,?_,?_⟩
 ·have hb:b∉s.heap.objs.size::fr:=fun z=>by
   rcases List.mem_cons.mp z with rfl | z
   ·exact Nat.lt_irrefl _ (Heap.lt_size h1)
   ·exact h2 z
  exact l1 b o (by rw [BS.2 hb];exact up b o h1 h3)
 ·refine AG (T.fs.objs b hb) fun o' g1 g2=>?_
  rw [h1] at g1;cases g1
  exact l5 b o (hm.keeps _ _ (up b o h1 (T.apart b hb).1)) g2
 ·obtain ⟨_,⟨L,o,k1,_,k2,_⟩,_⟩:=l2
  have:L=s.heap.objs.size:=Option.some.inj (k1.symm.trans rfl)
  subst this
  exact Nat.le_of_lt (Heap.lt_size k2)
 ·exact (e12.gens:s.gens=s₂.gens).symm
 ·exact e12.drawn
 ·exact e12.os
end
end Mine
end
section
set_option maxRecDepth 10000
set_option maxHeartbeats 1000000
namespace Mine
open PySem PySem.W PyProof.Rows PySem.Calls PySem.Spec
theorem Kept.mono {fr as as':List Addr} {s s':Shared} (k:Kept fr as s s') (h:∀ a∈as,a∈as'):Kept fr as' s s':=⟨fun b o e h1 h2=>k.keep b o e h1 fun z=>h2 (h b z),k.slots,k.size,k.gens,k.drawn,k.os⟩
section
variable {W:Wd} {outer:List Env} {fr as:List Addr} {objs:List AO} {s:Shared} {A:Around} {x:List Nat} {p:Nat} {stt:AV} {tk:List Nat}
theorem LxS.upd {S:Addr} {f:Obj→Obj} (T:LxS W outer fr as objs s) (h1:S∉as) (h2:S∉fr) (h3:W.K.lookup S=none):LxS W outer fr as objs {s with heap:=s.heap.update S f}:=by
 letI:AY:=Aa
 refine ⟨fun a o e=>?_,⟨T.ow.len,fun i a y e1 e2=>?_,T.ow.nodup,T.ow.out⟩,⟨T.fs.frs,T.fs.kinds,fun L hL=>?_⟩,T.apart⟩
 ·refine (?_:(s.heap.update S f).get? a=_)
  rw [Heap.get?_update_other _ _ (fun z=>by rw [← z,h3] at e;exact no e)]
  exact T.X a o e
 ·refine AG (T.ow.obj i a y e1 e2) fun o g1 g2=>?_
  refine ⟨o,?_,g2⟩
  refine (?_:(s.heap.update S f).get? a=_)
  rw [Heap.get?_update_other _ _ (fun z=>h1 (by rw [z];exact List.mem_of_getElem? e1))]
  exact g1
 ·refine AG (T.fs.objs L hL) fun o g1 g2=>?_
  refine ⟨o,?_,g2⟩
  refine (?_:(s.heap.update S f).get? L=_)
  rw [Heap.get?_update_other _ _ (fun z=>h2 (by rw [z];exact hL))]
  exact g1
theorem LxS.push {o:Obj} (T:LxS W outer fr as objs s):LxS W outer fr as objs {s with heap:=s.heap.push o}:=by
 letI:AY:=Aa
 have g:A6 s.heap (s.heap.push o):=A6.refl.push o
 exact ⟨fun a o e=>g.1 a o (T.X a o e),T.ow.grow g,⟨T.fs.frs,T.fs.kinds,fun L hL=>AG (T.fs.objs L hL) fun o h1 h2=>⟨o,g.1 _ _ h1,h2⟩⟩,T.apart⟩
theorem LxS.kept {objs':List AO} {s':Shared} (T:LxS W outer fr as objs s) (X:W.K.In s'.heap) (ow:@Ow Aa (Kz W) as objs' s'.heap) (k:Kept [] as s s'):LxS W outer fr as objs' s' :=
 ⟨X,ow,T.fs.kept (k.wide fun L hL=>(T.apart L hL).1),T.apart⟩
theorem KJ {E:Value→Shared→Prop} {a C f:Addr} {ox:Obj} {od:Option Obj} {Q:Value→Shared→Prop} {K:Frag} {M:Model} (X:K.In s.heap) (I:InstAt s.heap a ox C od) (hs:findIn K (.ref C) "__iter__"=some (some (.ref f))) (hf:typeIn K (.ref f)=some (.type "function"))
  (h:wpAny M A (call (.ref f) [.ref a]) (fun it s'=>wpAny M A (specialOf it "__next__") (fun r s₂=>r≠none∧Q it s₂) E s') E s):wpAny M A (pyIter (.ref a)) Q E s:=by
 have fin:wpAny M A (call (.ref f) [.ref a]>>=fun v=>pure (some v)) (fun r s'=>∃ v,r=some v∧wpAny M A (specialOf v "__next__") (fun r s₂=>r≠none∧Q v s₂) E s') E s :=
  wpAny_bind (wpAny_mono h (fun v s' h'=>wpAny_pure ⟨v,rfl,h'⟩) fun ζ ζ z=>z)
 have one:∀ refuse:Sem Value,wpAny M A (callSpecialIfBoundUnlessNone? (.ref a) "__iter__" refuse) (fun r s'=>∃ v,r=some v∧wpAny M A (specialOf v "__next__") (fun r s₂=>r≠none∧Q v s₂) E s') E s:=by
  intro refuse
  simp only [callSpecialIfBoundUnlessNone?,bindSpecialIfBound?]
  refine wpAny_holding (wpAny_bind (wpAny_bind (wpAny_bind (I.type.here ((looks_findIn X hs).here ?_)))))
  refine wpAny_bind (wpAny_askSetting (wpAny_ite ?_))
  have fin2:wpAny M A (if (Value.ref f==Value.none)=true then (refuse>>=fun v=>pure (some v)) else (call (.ref f) [.ref a]>>=fun v=>pure (some v))) (fun r s'=>∃ v,r=some v∧wpAny M A (specialOf v "__next__") (fun r s₂=>r≠none∧Q v s₂) E s') E s:=by
   rw [if_neg (show ¬ ((Value.ref f==Value.none)=true) from Bool.false_ne_true)]
   exact fin
  split
  ·exact wpAny_bind ((bind_fn X _ hf).here (wpAny_pure (by exact fin2)))
  ·exact wpAny_tryCatch (wpAny_bind ((bind_fn X _ hf).here (wpAny_pure (by exact fin2))))
 unfold pyIter
 refine wpAny_bind (wpAny_bind (I.type.here ((looks_findIn X hs).here ?_)))
 refine (?_:wpAny M A (callSpecialIfBoundUnlessNone? (.ref a) "__iter__" _>>=_) Q E s)
 refine wpAny_bind (wpAny_mono (one _) (fun r s' hr=>?_) fun ζ ζ z=>z)
 refine AG hr fun v r1_ hv=>?_;subst r1_
 refine wpAny_bind (wpAny_mono hv (fun r s₂ hr=>?_) fun ζ ζ z=>z)
 induction r using Option.casesOn with
 | none=>exact (hr.1 rfl).elim
 | some g=>exact wpAny_pure hr.2
theorem GF {st:AV} {tk x:List Nat} {p:Nat} (h:AV.flat st=true):(rO st tk x p).all AO.flat=true:=by
 induction st using AV.casesOn <;> first | rfl | exact Bool.noConfusion h
class inductive Gc (W:Wd) (x:List Nat):AV→Nat→List (List Nat)→Prop where
 | nil {st st':AV} {p p':Nat}:@AR Aa W 8 (.ref 749) [.own 1] (rO st [] x p) .none (rO st' [] x p')→Gc W x st p []
 | cons {st st':AV} {p p':Nat} {tk:List Nat} {ts:List (List Nat)}:AV.flat st'=true→@AR Aa W 10 (.ref 785) [.own 1] (rO st [] x p) (.str (S tk)) (rO st' [] x p')→Gc W x st' p' ts→Gc W x st p (tk::ts)
theorem lx_loop (hF:KF W.K) (I:KI W.K) {a S:Addr} {res:Value} {R:Result→Shared→Prop} (ha:as[1]?=some a) (hS1:S∉as) (hS2:S∉fr) (hS3:W.K.lookup S=none) (hfr:A.frames=some outer) (hR:Ae A 13) {ts:List (List Nat)} {st:AV} {p:Nat} (h:Gc W x st p ts) :
  ∀ (s:Shared) (acc:List Value) (c:Nat),LxS W outer fr as (rO st [] x p) s→s.heap.get? S=some (Af acc c)→acc.length+ts.length≤1000 →
   (∀ s' vs c',Kept fr (S::as) s s'→s'.heap.get? S=some (Af (acc++vs) c')→IsL (Kz W) [] (ts.map fun t=>.str (Mine.S t)) vs→R (.ok (.ret res)) s') →
   codeAny W.M A (.builtin "list.extend.loop" ⟨[.ref S,.ref a,res],[]⟩) R s:=by
 letI:AY:=Aa
 have hR1:Ae A.in1 12:=hR.in1
 have hfr1:A.in1.frames=some outer:=hfr
 induction h with
 | nil hgt =>
  intro s acc c T hS hl q
  refine codeAny_builtin F.entry_extend_loop ?_
  rw [Around.under_plainId F.plain_extend_loop _]
  refine (?_:wpAny _ A.in1 (pyNext (.ref a)>>=_) _ _ s)
  refine wpAny_bind (lx_stop hF I hgt T ha hfr1 hR1 fun s' k=>?_)
  have:=k.keep S _ hS hS2 hS1
  exact wpAny_pure (q s' [] c (k.mono fun b hb=>.tail _ hb) (by rw [List.append_nil];exact this) .nil)
 | @cons st st' p p' tk ts htl hf _ ih =>
  intro s acc c T hS hl q
  rw [List.length_cons] at hl
  refine codeAny_builtin F.entry_extend_loop ?_
  rw [Around.under_plainId F.plain_extend_loop _]
  refine (?_:wpAny _ A.in1 (pyNext (.ref a)>>=_) _ _ s)
  refine G1 T.reader fun a' dx sl ds n ha' IA=>?_
  obtain rfl:a'=a:=Option.some.inj (ha'.symm.trans ha)
  refine wpAny_bind (Gx T.X IA I.nx788 hF.f785.type ?_)
  refine AR.kept (fr:=fr) hf hR1.less.less T.X T.ow rfl (GF htl) rfl (.cons (.own ha) .nil) fun u s' X' ow' k hu=>?_
  have T':=T.kept X' ow' k
  have hS':=k.keep S _ hS (fun z=>nomatch z) hS1
  cases hu using Is.e_str with
  | _ t hlen =>
  refine (?_:wpAny _ A.in1 (updateSeq S (·.push (.str (Mine.S tk) t))>>=_) _ _ _)
  obtain ⟨c2,hS2'⟩:∃ c2,(s'.heap.update S (Obj.mapSeq (·.push (.str (Mine.S tk) t)))).get? S=some (Af (acc++[.str (Mine.S tk) t]) c2):=by
   have e1:∃ c2,Obj.mapSeq (·.push (.str (Mine.S tk) t)) (Af acc c)=Af (acc++[.str (Mine.S tk) t]) c2:=by
    have:(acc++[Value.str (Mine.S tk) t]).toArray=acc.toArray.push (.str (Mine.S tk) t):=by simp
    unfold Af
    rw [this]
    exact ⟨_,rfl⟩
   obtain ⟨c2,e1⟩:=e1
   exact ⟨c2,by rw [← e1];exact Heap.get?_update_self _ hS' rfl⟩
  refine wpAny_bind ?_
  refine wpAny_updateSeq hS' rfl (wpAny_pure ⟨plainId_quiet F.plain_extend_loop _,ih _ (acc++[.str (Mine.S tk) t]) _ (T'.upd hS1 hS2 hS3) hS2' (by rw [List.length_append];simp only [List.length_cons,List.length_nil];exact (lin hl (by simp +arith only))) fun s'' vs c' k' g1 g2=>?_⟩)
   (by rw [List.size_toArray];exact szl (by exact Nat.le_trans (Nat.le_add_right _ _) (lb hl rfl))) (by refine (?_:(acc.toArray.push _).size≤sizeLine+1);rw [Array.size_push,List.size_toArray];have:=szl (n:=acc.length) (by exact Nat.le_trans (Nat.le_add_right _ _) (lb hl rfl));exact lin (by assumption) (by simp +arith only))
  have ku:Kept fr (S::as) s' {s' with heap:=s'.heap.update S (Obj.mapSeq (·.push (.str (Mine.S tk) t)))}:=by
   refine ⟨fun b o e h1 h2=>?_,fun b hb o e=>⟨o.slots,?_⟩,?_,rfl,rfl,rfl⟩
   ·refine (?_:(s'.heap.update S _).get? b=_)
    rw [Heap.get?_update_other _ _ (fun z:S=b=>h2 (by rw [← z];exact .head _))];exact e
   ·refine (?_:(s'.heap.update S _).get? b=_)
    rw [Heap.get?_update_other _ _ (fun z:S=b=>hS2 (by rw [z];exact hb))];exact e
   ·refine (?_:_≤(s'.heap.update S _).objs.size)
    rw [Heap.size_after_update];exact Nat.le_refl _
  refine q s'' (.str (Mine.S tk) t::vs) c' ((((k.wide fun L hL=>(T.apart L hL).1).mono fun b hb=>.tail _ hb).trans ku).trans k') ?_ (.cons (.str t hlen) g2)
  rw [g1,List.append_assoc];rfl
end
end Mine
end
section
set_option maxRecDepth 10000
set_option maxHeartbeats 1000000
namespace Mine
open PySem PySem.W PyProof.Rows PySem.Calls PySem.Spec
section
variable {W:Wd} {outer:List Env} {fr as:List Addr} {s:Shared} {A:Around} {E:Value→Shared→Prop} {x:List Nat} {p:Nat} {stt:AV}
theorem fn_iter [AY] (hF:KF W.K) {objs:List AO}:AR W 2 (.ref 778) [.own 1] objs (.own 1) objs :=
 (Bv (k:=0) (x:="self") (v:=.own 1) (objs:=objs) (n:=10) (fl:=.ret (.own 1)) (st':=⟨[("self",.own 1)],objs⟩) (o:=[]) hF hF.f778 {} (by kernel_rfl!) (by intro pm c v;kernel_rfl!) (by kernel_rfl!) AS).ok
theorem lx_list (hF:KF W.K) (I:KI W.K) {a:Addr} {ts:List (List Nat)} {Q:Value→Shared→Prop} (ha:as[1]?=some a) (T:LxS W outer fr as (rO stt [] x p) s) (hfr:A.frames=some outer) (hR:Ae A 15) (hst:AV.flat stt=true) (h:Gc W x stt p ts) (hl:ts.length≤900)
  (q:∀ s' vs c',Kept fr (s.heap.objs.size::as) s s'→s'.heap.get? s.heap.objs.size=some (Af vs c')→IsL (Kz W) [] (ts.map fun t=>.str (Mine.S t)) vs→Q (.ref s.heap.objs.size) s'):wpAny W.M A (call (.type "list") [.ref a]) Q E s:=by
 letI:AY:=Aa
 refine callType_codes (Q₁:=fun obj s₁=>obj=.ref s.heap.objs.size∧s₁={s with heap:=s.heap.push {cls:=.type "list",data:=.seq #[]}}) F.called_list (F.typeCall_list_1 _) F.entry_list_init (code_list_new _ ⟨rfl,rfl⟩) fun obj s₁ h₁=>?_
 obtain ⟨rfl,rfl⟩:=h₁
 have hS:(s.heap.push {cls:=.type "list",data:=.seq #[]}).get? s.heap.objs.size=some {cls:=.type "list",data:=.seq #[]}:=Heap.get?_push_size _ rfl
 refine ⟨⟨_,hS,rfl⟩,F.args_list_init_2 _ _,?_⟩
 have noIn:∀ b∈as,b<s.heap.objs.size:=fun b hb=>by
  refine oEP (List.getElem_of_mem hb) fun i hi r2_=>?_;subst r2_
  have hi':i<(rO stt [] x p).length:=by rw [← T.ow.len];exact hi
  refine AG (T.ow.obj i _ (rO stt [] x p)[i] (List.getElem?_eq_getElem hi) (List.getElem?_eq_getElem hi')) fun o h1 ζ=>?_
  exact Heap.lt_size h1
 have hS1:s.heap.objs.size∉as:=fun z=>Nat.lt_irrefl _ (noIn _ z)
 have hS2:s.heap.objs.size∉fr:=fun z=>by refine AG (T.fs.objs _ z) fun o h1 ζ=>?_;exact Nat.lt_irrefl _ (Heap.lt_size h1)
 have hS3:W.K.lookup s.heap.objs.size=none:=by
  cases e:W.K.lookup s.heap.objs.size with
  | none=>rfl
  | some o=>exact absurd (Heap.lt_size (T.X _ _ e)) (Nat.lt_irrefl _)
 refine (?_:wpAny _ A.in1.in1 (do let old ← Builtin.List.listItems (.ref s.heap.objs.size);Builtin.List.listUpdate (.ref s.heap.objs.size) (fun ζ=>#[]);letGo old.toList.reverse;Builtin.List.listExtendWith (.ref s.heap.objs.size) (.ref a) .none) _ _ _)
 refine wpAny_bind ?_
 unfold Builtin.List.listItems
 refine wpAny_bind (wpAny_seqItems hS rfl (wpAny_pure ?_))
 refine (?_:wpAny _ A.in1.in1 (updateSeq s.heap.objs.size (fun ζ=>#[])>>=fun ζ=>letGo (#[]:Array Value).toList.reverse>>=fun ζ=>Builtin.List.listExtendWith (.ref s.heap.objs.size) (.ref a) .none) _ _ _)
 refine wpAny_bind (wpAny_updateSeq hS rfl ?_)
 have hSa:=Heap.get?_update_self (Obj.mapSeq (fun ζ=>(#[]:Array Value))) hS rfl
 refine wpAny_bind (wpAny_letGo ?_)
 have T1:=(T.push (o:={cls:=.type "list",data:=.seq #[]})).upd (f:=Obj.mapSeq (fun ζ=>(#[]:Array Value))) hS1 hS2 hS3
 have kup:∀ (s₁:Shared) (f:Obj→Obj),Kept fr (s.heap.objs.size::as) s₁ {s₁ with heap:=s₁.heap.update s.heap.objs.size f}:=fun s₁ f=>by
  refine ⟨fun b o e h1 h2=>?_,fun b hb o e=>⟨o.slots,?_⟩,?_,rfl,rfl,rfl⟩
  ·refine (?_:(s₁.heap.update _ _).get? b=_)
   rw [Heap.get?_update_other _ _ (fun z:s.heap.objs.size=b=>h2 (by rw [← z];exact .head _))];exact e
  ·refine (?_:(s₁.heap.update _ _).get? b=_)
   rw [Heap.get?_update_other _ _ (fun z:s.heap.objs.size=b=>hS2 (by rw [z];exact hb))];exact e
  ·refine (?_:_≤(s₁.heap.update _ _).objs.size)
   rw [Heap.size_after_update];exact Nat.le_refl _
 have k1:Kept fr (s.heap.objs.size::as) s {s with heap:=(s.heap.push {cls:=.type "list",data:=.seq #[]}).update s.heap.objs.size (Obj.mapSeq (fun ζ=>(#[]:Array Value)))}:=by
  refine Kept.trans (s':={s with heap:=s.heap.push {cls:=.type "list",data:=.seq #[]}}) ⟨fun b o e ζ ζ=>Heap.get?_push_of_some _ e,fun b ζ o e=>⟨o.slots,Heap.get?_push_of_some _ e⟩,?_,rfl,rfl,rfl⟩ (kup {s with heap:=s.heap.push {cls:=.type "list",data:=.seq #[]}} _)
  refine (?_:_≤(s.heap.push _).objs.size)
  rw [Heap.size_push];exact Nat.le_succ _
 refine G1 T1.reader fun a' dx sl ds n ha' IA=>?_
 obtain rfl:a'=a:=Option.some.inj (ha'.symm.trans ha)
 unfold Builtin.List.listExtendWith
 refine wpAny_bind (IA.type.here ?_)
 have h1:Builtin.List.listSameRef (.ref s.heap.objs.size) (.ref a')=false:=by
  have:s.heap.objs.size≠a':=fun z=>hS1 (by rw [z];exact List.mem_of_getElem? ha')
  simp [Builtin.List.listSameRef,this]
 have h2:(Value.ref 788==Value.type "list")=false:=by decide
 have h3:(Value.ref 788==Value.type "tuple")=false:=by decide
 simp only [h1,h2,h3,Bool.or_false,Bool.false_eq_true,if_false]
 have hRi:Ae A.in1.in1 13:=hR.in1.in1
 refine wpAny_bind (KJ T1.X IA I.it788 hF.f778.type ?_)
 refine AR.kept (fr:=fr) (fn_iter hF) (hRi.less.less.less.less.less.less.less.less.less.less.less) T1.X T1.ow rfl (GF hst) rfl (.cons (.own ha') .nil) fun u s₂ X₂ ow₂ k₂ hu=>?_
 cases hu using Is.e_own with
 | _ _ hu' =>
 obtain rfl:_=a':=Option.some.inj (hu'.symm.trans ha')
 have T2:=T1.kept X₂ ow₂ k₂
 refine G1 T2.reader fun a2 dx2 sl2 ds2 n2 ha2 IA2=>?_
 obtain rfl:=Option.some.inj (ha2.symm.trans ha')
 refine wpAny_bind (IA2.type.here ((looks_findIn X₂ I.nx788).here ⟨by simp,?_⟩))
 refine wpAny_bind (wpAny_holding ?_)
 unfold Builtin.List.listLengthHint
 refine wpAny_bind (wpAny_bind (IA2.type.here ((looks_findIn X₂ I.len788).here ?_)))
 refine (?_:wpAny _ A.in1.in1 (specialOf (Value.ref a2) (Str.ofString "__length_hint__")>>=_) _ _ _)
 refine wpAny_bind (wpAny_bind (IA2.type.here ((looks_findIn X₂ I.hint788).here ?_)))
 refine wpAny_pure ?_
 refine (?_:wpAny _ A.in1.in1 (rule "list.extend.makes-room">>=fun ζ=>Builtin.List.listTouch (.ref s.heap.objs.size)>>=fun ζ=>again (.builtin "list.extend.loop" ⟨[.ref s.heap.objs.size,.ref a2,.none],[]⟩)) _ _ _)
 refine wpAny_bind (wpAny_rule ?_)
 refine wpAny_bind ?_
 refine (?_:wpAny _ A.in1.in1 (updateSeq s.heap.objs.size (·.push .none)>>=fun ζ=>updateSeq s.heap.objs.size (·.pop)) _ _ _)
 have hSb:=k₂.keep _ _ hSa (fun z=>nomatch z) hS1
 refine wpAny_bind (wpAny_updateSeq hSb rfl ?_)
 have hSc:=Heap.get?_update_self (Obj.mapSeq (·.push Value.none)) hSb rfl
 refine wpAny_updateSeq (hz:=by seq_fits) hSc rfl ?_
 have hSd:=Heap.get?_update_self (Obj.mapSeq (·.pop)) hSc rfl
 have T3:=(T2.upd (f:=Obj.mapSeq (·.push Value.none)) hS1 hS2 hS3).upd (f:=Obj.mapSeq (·.pop)) hS1 hS2 hS3
 have k3:Kept fr (s.heap.objs.size::as) s {s₂ with heap:=(s₂.heap.update s.heap.objs.size (Obj.mapSeq (·.push Value.none))).update s.heap.objs.size (Obj.mapSeq (·.pop))} :=
  ((k1.trans ((k₂.wide fun L hL=>(T.apart L hL).1).mono fun b hb=>.tail _ hb)).trans (kup s₂ _)).trans (kup {s₂ with heap:=s₂.heap.update s.heap.objs.size (Obj.mapSeq (·.push Value.none))} _)
 refine wpAny_pure ⟨plainId_quiet F.plain_extend_loop _,lx_loop hF I ha' hS1 hS2 hS3 (by exact hfr) hR.in1.less h _ [] _ T3 hSd (by simp;exact lb (by assumption) rfl) fun s' vs c' k' g1 g2=>?_⟩
 exact ⟨rfl,q s' vs c' (k3.trans k') g1 g2⟩
end
end Mine
end
section
set_option maxRecDepth 10000
namespace Mine
open PySem PySem.W PyProof.Rows PySem.Calls PySem.Spec
structure Itm where
 c:Nat
 ws:List Nat
 kc:Nat
 w:List Nat
 b:Bool
noncomputable def Itm.txt (i:Itm):List Nat:=i.ws++([i.kc,61]++AD i.w i.b)
noncomputable def CJ:List Itm→List Nat
 | []=>[]
 | i::r=>i.c::(i.txt++CJ r)
structure Itm.Ok (i:Itm):Prop where
 c:i.c∈Rx.signs∧Cb i.c=true
 ws:∀ c∈i.ws,c∈Rx.signs∧Cb c=true
 k:i.kc=109∨i.kc=110
 w:Sg i.w
 b:i.b=true→i.w.all EA=true
 l:i.w.length≤1000
section
variable {W:Wd} {x:List Nat}
theorem Ef (F:KF W.K) (H:KH W.K) (hl:x.length≤100000):∀ (its:List Itm) (i:Itm) (p:Nat),i.Ok→(∀ j∈its,j.Ok)→x.drop p=i.txt++CJ its→p≤x.length→Gc W x (.str " ") p (CH i.kc i.w::its.map fun j=>CH j.kc j.w)
 | its,i,p,hi,hj,hd,hp=>by
  letI:AY:=Aa
  have hd1:x.drop p=i.ws++([i.kc,61]++AD i.w i.b++CJ its):=by rw [hd];simp [Itm.txt]
  have hd2:x.drop (p+i.ws.length)=[i.kc,61]++AD i.w i.b++CJ its:=by rw [← List.drop_drop,hd1,List.drop_left]
  have hd3:x.drop (p+i.ws.length+2+(AD i.w i.b).length)=CJ its:=by
   rw [show p+i.ws.length+2+(AD i.w i.b).length=p+i.ws.length+([i.kc,61]++AD i.w i.b).length by simp;simp +arith only,← List.drop_drop,hd2,List.drop_left]
  have run:∀ o',(∀ q es,WrX W q es (rO (.str "a") (CH i.kc i.w) x (p+i.ws.length+2+(AD i.w i.b).length)) o')→WrX W false " " (rO (.str " ") [] x p) o':=fun o' h =>
   IP F H hl i.ws p _ hd1 hi.ws (wr_pair F H hl hi.k hd2 hi.w hi.b hi.l h)
  match its,hj,hd3 with
  | [],_,hd3 =>
   have hlen:p+i.ws.length+2+(AD i.w i.b).length=x.length:=by
    have h1:=congrArg List.length hd1
    simp only [List.length_drop,List.length_append,List.length_cons,List.length_nil,CJ] at h1
    exact eqn (Nat.add_sub_of_le hp) (eqs h1 (by simp +arith only))
   exact .cons rfl (Il F (fn_rt F Hg (run _ fun q es=>wr_end0 F H hlen))) (.nil (LO F (LJ F H (.inr rfl))))
  | j::its,hj,hd3 =>
   have jo:=hj j (.head _)
   have hd4:x.drop (p+i.ws.length+2+(AD i.w i.b).length)=j.c::(j.txt++CJ its):=hd3
   refine .cons rfl (Il F (fn_rt F Hg (run _ fun q es=>wr_end1 F H hl hd4 jo.c.1 jo.c.2 Hg))) ?_
   obtain ⟨h1,h2⟩:=Cu hd4
   exact Ef F H hl its j _ jo (fun k hk=>hj k (.tail _ hk)) h2 (Nat.succ_le_of_lt (List.getElem?_eq_some_iff.mp h1).1)
theorem JB (F:KF W.K) (H:KH W.K):Gc W [] (.str " ") 0 []:=by
 letI:AY:=Aa
 exact .nil (LO F (LJ (x:=[]) F H (.inl rfl)))
end
end Mine
end
section
set_option maxRecDepth 10000
set_option maxHeartbeats 1000000
namespace Mine
open PySem PySem.W PyProof.Rows PySem.Calls PySem.Spec
theorem Di {M:Model} {A:Around} {E:Value→Shared→Prop} {env:Env} {Q:Flow→Shared→Prop} {r:List Stmt} {b:List Stmt} {s:Shared} (h:wpAny M A (execs b env) (fun f s'=>match f with | .next=>wpAny M A (execs r env) Q E s' | f=>Q f s') E s):wpAny M A (execs (b++r) env) Q E s:=by
 intro Γ p hΓ
 have h0:=h Γ p hΓ
 clear h
 induction b generalizing s p with
 | nil=>exact h0 Γ p hΓ
 | cons st b ih =>
  refine (?_:Sem.wp M Γ (execs (st::(b++r)) env) _ _ p s)
  rw [execs_cons,Sem.wp_bind'] at h0 ⊢
  refine Sem.wp_mono M Γ _ (fun f p' s' h'=>?_) (fun ζ ζ ζ h'=>h') _ _ h0
  cases f with
  | next=>exact ih p' h'
  | brk=>exact h'
  | cont=>exact h'
  | ret v=>exact h'
namespace LT
noncomputable abbrev d:=top 64
noncomputable abbrev sc:=AM d
noncomputable abbrev mk:=exprS (nth (AB d) 0)
noncomputable abbrev ls:=exprS (nth (AB d) 5)
end LT
section
variable {W:Wd} {E:Value→Shared→Prop} {x:List Nat}
theorem lt_body (F:KF W.K) (I:KI W.K) (O:KO W.K):@A8 Aa W 10 LT.sc (AB LT.d |>.take 5) ⟨[("text",.str (S x))],[]⟩ .next ⟨[("text",.str (S x)),("reader",.own 1)],rO (.str " ") [] x 0⟩:=by
 letI:AY:=Aa
 have h1:AA W 10 LT.sc LT.mk ⟨[("text",.str (S x))],[]⟩ (.own 1) ⟨[("text",.str (S x))],o3I (S x)⟩ :=
  .mkReader F I O (a:=BE 0 LT.mk) (v:=(match LT.mk with | .Call _ _ (k::_) _=>k.value | _=>default)) (by kernel_rfl!) (by kernel_rfl!) (AQ F {} (n:=5) (by kernel_rfl!)) (AQ F {} (n:=5) (by kernel_rfl!))
 exact AN (AW F 9 {ex:=fun e st=>if DS e&&e.pos.line==853 then some (.own 1,{st with objs:=o3I (S x)}) else none}) (n:=30)
  (o:=[ob (AA W 10 LT.sc LT.mk ⟨[("text",.str (S x))],[]⟩ (.own 1) ⟨[("text",.str (S x))],o3I (S x)⟩)]) (by kernel_rfl!) (obs (AC h1) AS)
theorem lt_call (hF:KF W.K) (I:KI W.K) (O:KO W.K) {A:Around} {s:Shared} {env0:Env} {L0:Addr} {ts:List (List Nat)} {t:Tok} {Q:Value→Shared→Prop} (hfr:A.frames=some [env0]) (hR:Ae A 17) (X:W.K.In s.heap) (fs:FrS [env0] [L0] s.heap) (hL:W.K.lookup L0=none) (hx:(S x).length≤sizeLine)
  (h:Gc W x (.str " ") 0 ts) (hl:ts.length≤900)
  (q:∀ s' Sa vs c',Kept [L0] [] s s'→s.heap.objs.size≤Sa→s'.heap.get? Sa=some (Af vs c')→IsL (Kz W) [] (ts.map fun t=>.str (Mine.S t)) vs→Q (.ref Sa) s'):wpAny W.M A (call (.ref 875) [.str (S x) t]) Q E s:=by
 letI:AY:=Aa
 refine Be hF.f875.at_ fun pm c hK hcode hcd=>?_
 have hd:=hR.depth
 refine wpAny_call (codeAny_call_def (fd:=fnD LT.d "_law_tokens" .none pm c) (binds:=[("text",.str (S x) t)]) (by refine (?_:A.depth<1000);exact lin (by assumption) (by simp +arith only)) (X _ _ hK) rfl (hF.lim _ X) (codeRec_of X hcode) rfl (.of_eq (by kernel_rfl!)) ?_ ?_ (fun h₀ hns hk₀=>?_) (by kernel_rfl!) (by kernel_rfl!) (by kernel_rfl!))
 ·have:((AM LT.d).names.all fun x=>decide (x.2≠.cell))=true:=by kernel_rfl!
  exact fun y hy=>of_decide_eq_true (List.all_eq_true.mp this y hy)
 ·intro y hy
  rw [List.mem_singleton.mp hy]
  kernel_rfl!
 have zn:Zn W (Kz W) s.heap:=MI X
 have hsz:s.heap.objs.size≤h₀.objs.size:=Nat.le_of_lt hns.lt
 have S0:Sta W (Kz W) s.heap.objs.size [] ⟨[("text",.str (S x))],[]⟩ {s with heap:=h₀,toks:=s.toks+1}:=by
  refine ⟨zn.grow ⟨hk₀,hsz⟩,⟨rfl,fun i a y e=>by simp at e,List.nodup_nil,fun a h=>(nomatch h)⟩,⟨⟨_,hns,fun y v e=>?_⟩,fun z=>(nomatch z),fun o z=>absurd (Heap.lt_size (zn.keep _ _ z)) (Nat.lt_irrefl _),fun z=>(nomatch z)⟩⟩
  by_cases hy:y="text"
  ·subst hy
   rw [List.lookup_cons_self] at e
   cases e
   exact ⟨.str (S x) t,by simp,.str t hx⟩
  ·rw [List.lookup_cons,beq_false_of_ne hy] at e
   exact no e
 have hE:Aq (callEnv (fnD LT.d "_law_tokens" .none pm c) s.heap.objs.size 875) LT.sc s.heap.objs.size:=⟨rfl,rfl,rfl,rfl,by kernel_rfl!,fun c' q' z=>by
  have:DW (AM LT.d)=none:=by kernel_rfl!
  rw [this] at z;exact no z⟩
 have hR2:Ae (A.deeper (callEnv (fnD LT.d "_law_tokens" .none pm c) s.heap.objs.size 875)) 16:=hR.down (by refine (?_:A.depth+1≤A.depth+9);simp +arith only) (by refine (?_:A.units+3≤A.units+99);simp +arith only) rfl
 have eb:AB LT.d=(AB LT.d).take 5++[.Return (some (.Call (.Name "list" (Dd LT.ls).pos) [.Name "reader" (BE 0 LT.ls).pos] [] LT.ls.pos)) (B3 (nth (AB LT.d) 5))]:=by kernel_rfl!
 rw [eb]
 refine Di (lt_body hF I O _ _ _ _ _ _ _ _ hE hR2.less.less.less.less.less.less S0 fun Z₂ as₂ u s₂ S₂ e₂ hu=>?_)
 cases hu using IsF.e_next
 have hR10:Ae (A.deeper (callEnv (fnD LT.d "_law_tokens" .none pm c) s.heap.objs.size 875)) 15:=hR2.less
 refine wpAny_execs_cons (wpAny_Return_some (wpAny_Call_Name_kw (wpAny_Name (Ah (as:=as₂) (v:=.top (.type "list")) hE S₂.zn (by kernel_rfl!) (CK hF (by kernel_rfl!)) fun u hu=>?_) (by kernel_rfl!))))
 cases hu using Is.e_top
 refine Ao (W:=W) (by rfl) trivial ?_
 refine args_cons ?_ rfl
 refine wpAny_Name (CX hE S₂ (by kernel_rfl!) (a:=.own 1) (by kernel_rfl!) fun u hu=>?_) (by kernel_rfl!)
 refine spliced_nil ⟨S₂.zn.kIn,?_⟩
 cases hu using Is.e_own with
 | _ _ ha =>
 refine AG e₂.pre fun more has hm=>?_
 rw [List.nil_append] at has
 have newer:∀ a∈as₂,s.heap.objs.size<a:=fun a ha=>by
  rw [has] at ha
  exact Nat.lt_of_lt_of_le hns.lt (hm a ha)
 have ow:Ow (Kz W) as₂ (rO (.str " ") [] x 0) s₂.heap:=S₂.ow.flat (GF rfl) fun a ha o z=>(S₂.ow.out a ha).1 o (e₂.zsub _ _ z)
 refine AG (fs.objs L0 (.head _)) fun o0 g1 g2=>?_
 have hL0:=Heap.lt_size g1
 have up:∀ b o,s.heap.get? b=some o→s₂.heap.get? b=some o:=fun b o h1=>e₂.keep b o (hk₀ b o h1) (fun z=>by
  rw [List.mem_singleton.mp z] at h1
  exact Nat.lt_irrefl _ (Heap.lt_size h1)) (by simp) (fun z=>nomatch z)
 have T:LxS W [callEnv (fnD LT.d "_law_tokens" .none pm c) s.heap.objs.size 875,env0] [s.heap.objs.size,L0] as₂ (rO (.str " ") [] x 0) s₂:=by
  refine ⟨S₂.zn.kIn,ow,⟨?_,fun env he=>?_,fun L hL=>?_⟩,fun L hL'=>?_⟩
  ·have:=fs.frs
   simp only [List.map_cons,List.map_nil,List.cons.injEq,and_true] at this
   simp only [List.map_cons,List.map_nil,this]
   rfl
  ·rcases List.mem_cons.mp he with rfl | he
   ·have:(AM LT.d).kind=.function:=by kernel_rfl!
    refine (?_:(AM LT.d).kind≠.module)
    rw [this];decide
   ·exact fs.kinds env he
  ·rcases List.mem_cons.mp hL with rfl | hL
   ·obtain ⟨m,⟨o,es,ep,ho,hdt,_⟩,_⟩:=S₂.fr.ns
    exact ⟨o,ho,fun vs=>by rw [hdt];simp⟩
   ·rw [List.mem_singleton.mp hL]
    exact ⟨o0,up _ _ g1,g2⟩
  ·rcases List.mem_cons.mp hL' with rfl | hL'
   ·refine ⟨S₂.fr.notIn,?_⟩
    cases e:W.K.lookup s.heap.objs.size with
    | none=>rfl
    | some o=>exact absurd (Heap.lt_size (X _ _ e)) (Nat.lt_irrefl _)
   ·rw [List.mem_singleton.mp hL']
    exact ⟨fun z=>Nat.lt_irrefl _ (Nat.lt_trans hL0 (newer _ z)),hL⟩
 refine lx_list hF I ha T (by refine (?_:A.frames.map _=_);rw [hfr];rfl) hR10 rfl h hl fun s' vs c' k g1' g2'=>?_
 have hs2:s.heap.objs.size≤s₂.heap.objs.size:=Nat.le_trans hsz e₂.size
 refine q s' _ vs c' ⟨fun b o h1 h2 ζ=>?_,fun b hb o h1=>k.slots b (.tail _ hb) o (up b o h1),Nat.le_trans hs2 k.size,k.gens.trans (e₂.gens:s.gens=s₂.gens).symm,k.drawn.trans e₂.drawn,k.os.trans e₂.os⟩ hs2 g1' g2'
 have hb:=Heap.lt_size h1
 refine k.keep b o (up b o h1) (fun z=>?_) (fun z=>?_)
 ·rcases List.mem_cons.mp z with rfl | z
  ·exact Nat.lt_irrefl _ hb
  ·exact h2 z
 ·rcases List.mem_cons.mp z with rfl | z
  ·exact Nat.lt_irrefl _ (Nat.lt_of_lt_of_le hb hs2)
  ·exact Nat.lt_irrefl _ (Nat.lt_trans hb (newer _ z))
end
end Mine
end
section
set_option maxRecDepth 10000
namespace Mine
open PySem PySem.W PyProof.Rows PySem.Calls PySem.Spec
variable [T₀:AY]
noncomputable def lfs (ns:List Int):List (Int×List Nat):=(ns.take 4).map AJ
noncomputable def lpr (f:Int×List Nat):List Nat×List Nat:=(AI f.1,f.2)
noncomputable def lps (ns:List Int):List (List Nat×List Nat):=(lfs ns).map lpr
structure PrOk (p:List Nat×List Nat):Prop where
 m:Sg p.1
 n:Sg p.2
 lm:p.1.length=10
 ln:p.2.length≤3
 sn:∀ c∈p.2,c∈sgL
theorem CW (ns:List Int):∀ p∈lps ns,PrOk p:=by
 intro p hp
 refine AG (List.mem_map.mp hp) fun f hf r2_=>?_;subst r2_
 refine AG (List.mem_map.mp hf) fun x ζ r2_=>?_;subst r2_
 exact ⟨Dh _,nm3_sg _,BT _,nm3_len _,fun c hc=>nm3_mem hc⟩
theorem E8 (ns:List Int):(lfs ns).length≤4:=by
 unfold lfs
 rw [List.length_map,List.length_take]
 exact Nat.min_le_left _ _
theorem Ba (ns:List Int):(lps ns).length≤4:=by
 unfold lps
 rw [List.length_map];exact E8 ns
theorem Sg.app {a b:List Nat} (h1:Sg a) (h2:Sg b):Sg (a++b):=fun c hc=>(List.mem_append.mp hc).elim (h1 c) (h2 c)
theorem Cf {l:List Nat} (h:(l.all fun c=>Rx.signs.contains c)=true):Sg l:=fun c hc=>List.contains_iff_mem.mp (List.all_eq_true.mp h c hc)
theorem Ed {w:List Nat} {b:Bool} (h:Sg w):Sg (AD w b):=by
 unfold AD
 split
 ·exact h
 ·refine .app (.app (Cf (by decide)) fun c hc=>?_) (Cf (by decide))
  refine AG (List.mem_flatMap.mp hc) fun d hd hc=>?_
  unfold A3 at hc
  split at hc
  ·rcases List.mem_cons.mp hc with rfl | hc
   ·decide
   ·rw [List.mem_singleton.mp hc];exact h d hd
  ·rw [List.mem_singleton.mp hc];exact h d hd
theorem D8 {sep:List Nat} (hs:Sg sep):∀ {ls:List (List Nat)},(∀ l∈ls,Sg l)→Sg (A7 sep ls)
 | [],_=>fun c hc=>nomatch hc
 | [x],h=>h x (.head _)
 | x::y::r,h=>by
  have ih:=D8 hs (ls:=y::r) fun l hl=>h l (.tail _ hl)
  exact .app (.app (h x (.head _)) hs) ih
theorem Kt {p:List Nat×List Nat} (h:PrOk p):Sg (A5 p):=by
 refine D8 (Cf (by decide)) fun l hl=>?_
 rcases List.mem_cons.mp hl with rfl | hl
 ·exact .app (Cf (by decide)) (Ed h.m)
 ·rw [List.mem_singleton.mp hl]
  exact .app (Cf (by decide)) (Ed h.n)
theorem Ks (ns:List Int):Sg (Ad (lps ns)):=D8 (Cf (by decide)) fun l hl=>by
 refine AG (List.mem_map.mp hl) fun p hp r2_=>?_;subst r2_
 exact Kt (CW ns p hp)
theorem Ff {p:List Nat×List Nat} (h:PrOk p):(A5 p).length≤100:=by
 have h1:=Al p.1 (A0 p.1)
 have h2:=Al p.2 (A0 p.2)
 simp only [A5,A7,List.length_append,List.length_cons,List.length_nil]
 exact lin h1 (lin h2 (lnn 2 (Nat.le_of_eq h.lm) (lnn 2 h.ln (by simp +arith only))))
theorem Fe (ns:List Int):(Ad (lps ns)).length≤1000:=by
 have:=EG [44,32] 100 ((lps ns).map A5) fun l hl=>by
  refine AG (List.mem_map.mp hl) fun p hp r2_=>?_;subst r2_
  exact Ff (CW ns p hp)
 have h2:=Ba ns
 rw [List.length_map] at this
 simp only [List.length_cons,List.length_nil] at this
 have h3:(lps ns).length*(100+(0+1+1))≤4*(100+(0+1+1)):=Nat.mul_le_mul_right _ h2
 exact Nat.le_trans this (by exact lb (by assumption) rfl)
noncomputable def itN (p:List Nat×List Nat):Itm:=⟨59,[32],110,p.2,A0 p.2⟩
noncomputable def itM (p:List Nat×List Nat):Itm:=⟨44,[32],109,p.1,A0 p.1⟩
noncomputable def itF (p:List Nat×List Nat):Itm:=⟨44,[],109,p.1,A0 p.1⟩
noncomputable def F9 (ps:List (List Nat×List Nat)):List Itm:=ps.flatMap fun p=>[itM p,itN p]
theorem Ey:∀ (r:List (List Nat×List Nat)) (p:List Nat×List Nat),Ad (p::r)=(itF p).txt++CJ (itN p::F9 r)
 | [],p=>by simp [Ad,A5,A7,itF,itN,F9,CJ,Itm.txt]
 | q::r,p=>by
  have ih:=Ey r q
  have e:Ad (p::q::r)=A5 p++[44,32]++Ad (q::r):=rfl
  rw [e,ih]
  simp [A5,A7,itF,itN,itM,F9,CJ,Itm.txt]
theorem DR {w:List Nat} (h:A0 w=true):w.all EA=true:=by
 unfold A0 at h
 rw [Bool.and_eq_true] at h
 rw [List.all_eq_true]
 intro c hc
 have:=List.all_eq_true.mp h.2 c hc
 unfold Rx.isJoin at this
 unfold EA Cb
 simp only [Bool.not_eq_true',Bool.or_eq_false_iff,beq_eq_false_iff_ne,ne_eq,Bool.and_eq_true,bne_iff_ne] at this ⊢
 obtain ⟨⟨⟨⟨⟨⟨a,b⟩,c⟩,d⟩,e⟩,f⟩,g⟩:=this
 exact ⟨⟨⟨⟨c,d⟩,e⟩,a⟩,b⟩
noncomputable def Bw (ps:List (List Nat×List Nat)):List (List Nat):=ps.flatMap fun p=>[CH 109 p.1,CH 110 p.2]
theorem IR:∀ r:List (List Nat×List Nat),(F9 r).map (fun j=>CH j.kc j.w)=Bw r
 | []=>rfl
 | p::r=>by
  refine (?_:CH 109 p.1::CH 110 p.2::(F9 r).map _=_)
  rw [IR r];rfl
section
variable {W:Wd}
theorem Ki {p:List Nat×List Nat} (h:PrOk p):(itN p).Ok:=⟨(show (59:Nat)∈Rx.signs∧Cb 59=true by decide),(show ∀ c∈[32],c∈Rx.signs∧Cb c=true by decide),.inr rfl,h.n,DR,by refine (?_:p.2.length≤1000);have:=h.ln;exact lb (by assumption) rfl⟩
theorem itM_ok {p:List Nat×List Nat} (h:PrOk p):(itM p).Ok:=⟨(show (44:Nat)∈Rx.signs∧Cb 44=true by decide),(show ∀ c∈[32],c∈Rx.signs∧Cb c=true by decide),.inl rfl,h.m,DR,by refine (?_:p.1.length≤1000);have:=h.lm;exact lin (Nat.le_of_eq (by assumption)) (by simp +arith only)⟩
theorem itF_ok {p:List Nat×List Nat} (h:PrOk p):(itF p).Ok:=⟨(show (44:Nat)∈Rx.signs∧Cb 44=true by decide),(fun c hc=>nomatch hc),.inl rfl,h.m,DR,by refine (?_:p.1.length≤1000);have:=h.lm;exact lin (Nat.le_of_eq (by assumption)) (by simp +arith only)⟩
theorem JW (F:KF W.K) (H:KH W.K) (ns:List Int):Gc W (Ad (lps ns)) (.str " ") 0 (Bw (lps ns)):=by
 have hl:=Fe ns
 have ho:=CW ns
 generalize lps ns=ps at hl ho
 induction ps using List.casesOn with
 | nil=>exact JB F H
 | cons p r =>
  have:=Ef F H (x:=Ad (p::r)) (by exact lb (by assumption) rfl) (itN p::F9 r) (itF p) 0 (itF_ok (ho p (.head _))) (fun j hj=>?_) (by rw [List.drop_zero];exact Ey r p) (Nat.zero_le _)
  ·rw [List.map_cons,IR] at this
   exact this
  ·rcases List.mem_cons.mp hj with rfl | hj
   ·exact Ki (ho p (.head _))
   ·refine AG (List.mem_flatMap.mp hj) fun q hq hj=>?_
    rcases List.mem_cons.mp hj with rfl | hj
    ·exact itM_ok (ho q (.tail _ hq))
    ·rw [List.mem_singleton.mp hj];exact Ki (ho q (.tail _ hq))
theorem Fx (ns:List Int):(Bw (lps ns)).length≤8:=by
 have h:=Ba ns
 generalize lps ns=ps at h
 have:∀ ps:List (List Nat×List Nat),(Bw ps).length=2*ps.length:=by
  intro ps
  induction ps with
  | nil=>rfl
  | cons p ps ih=>refine (?_:(Bw ps).length+1+1=_);rw [ih,List.length_cons];simp +arith only
 rw [this];exact lb (Nat.mul_le_mul_left _ h) rfl
end
theorem uns_m (m:Int):He (AI m)=(BB m==63):=by
 refine AG (B5 m) fun l e hl=>?_
 have hm:∀ c∈AI m,c∈Au:=fun c h=>Bo h
 have hu:∀ c∈Au,Rx.isUnsafe c=(c==63):=fun c hc=>by
  have:(Au.all fun c=>Rx.isUnsafe c==(c==63))=true:=by decide
  exact beq_iff_eq.mp (List.all_eq_true.mp this c hc)
 unfold He
 rw [e] at hm ⊢
 rw [List.any_cons,hu _ (hm _ (.head _))]
 have:l.any Rx.isUnsafe=false:=by
  rw [List.any_eq_false]
  intro c hc
  rw [hu _ (hm _ (.tail _ hc))]
  simpa using hl c hc
 rw [this,Bool.or_false]
theorem JM {m:Int}:AZ (AI m)≠[]∧∀ c∈AZ (AI m),Rx.isTok c=true:=by
 have hm:∀ c∈AI m,Rx.isTok c=true:=fun c hc=>by
  have:(Au.all Rx.isTok)=true:=by decide
  exact List.all_eq_true.mp this c (Bo hc)
 refine AG (B5 m) fun l e ζ=>?_
 unfold AZ
 split
 ·refine ⟨by simp,fun c hc=>?_⟩
  rcases List.mem_append.mp hc with hc | hc
  ·rcases List.mem_append.mp hc with hc | hc
   ·rw [List.mem_singleton.mp hc];decide
   ·exact hm c hc
  ·rw [List.mem_singleton.mp hc];decide
 ·exact ⟨by rw [e];simp,hm⟩
theorem Gs {L:List Nat} (h:Sg L):Sg (AZ L):=by
 unfold AZ
 split
 ·exact .app (.app (Cf (by decide)) h) (Cf (by decide))
 ·exact h
section
variable {W:Wd} {k:Nat} {sc:Scope} {st st₁ st₂:ST}
theorem AL.ne {e l r:Expr} {a:AV} {d:PyData} (h:Lp e=some (l,.NotEq,r)) (hm:behindInMarks .NotEq r=false) (h1:AA W k sc l st a st₁) (h2:AA W k sc r st₁ a st₂) (ha:dat a=some d) (la:d.canLay0=true) (hd:d.depth≤100):AL W k sc e st false st₂:=by
 obtain ⟨pos,rfl⟩:=Eb h
 ·have:=AL.eqData (W:=W) (k:=k) (sc:=sc) (st:=st) (pos:=pos) (.inr rfl) hm h1 h2 ha ha la la (by exact Nat.le_trans (Nat.min_le_right _ _) hd)
  have e:eqR .NotEq d d=false:=by refine (?_:(!PyData.eqv d d)=false);rw [SeqAt.eqv_refl d la];rfl
  rw [e] at this
  exact this
theorem AA.eq {e l r:Expr} {a:AV} {d:PyData} (h:Lp e=some (l,.Eq,r)) (hm:behindInMarks .Eq r=false) (h1:AA W k sc l st a st₁) (h2:AA W k sc r st₁ a st₂) (ha:dat a=some d) (la:d.canLay0=true) (hd:d.depth≤100):AA W k sc e st (.bool true) st₂:=by
 obtain ⟨pos,rfl⟩:=Eb h
 ·have:=AA.eqData (W:=W) (k:=k) (sc:=sc) (st:=st) (pos:=pos) (.inl rfl) hm h1 h2 ha ha la la (by exact Nat.le_trans (Nat.min_le_right _ _) hd)
  have e:eqR .Eq d d=true:=SeqAt.eqv_refl d la
  rw [e] at this
  exact this
end
theorem E4 {l:List Nat} (h:Sg l):PyData.strOk (S l)=true:=by
 refine (?_:l.toArray.all _=true)
 rw [List.all_toArray,List.all_eq_true]
 intro c hc
 have:(Rx.signs.all fun c=>decide (c<0x110000))=true:=by decide
 exact List.all_eq_true.mp this c (h c hc)
theorem Dn {α:Type} {g:α→AV} {f:α→PyData} (h:∀ a,dat (g a)=some (f a)):∀ xs:List α,EL (xs.map g)=some (xs.map f)
 | []=>rfl
 | x::xs=>by
  have ih:=Dn h xs
  simp only [List.map_cons,EL,h x,ih]
  rfl
theorem E9 {α:Type} {f:α→PyData}:∀ {xs:List α},(∀ a∈xs,(f a).canLay0=true)→PyData.canLayAll0 (xs.map f)=true
 | [],_=>rfl
 | x::xs,h=>by
  have ih:=E9 (xs:=xs) fun a ha=>h a (.tail _ ha)
  simp only [List.map_cons,PyData.canLayAll0,h x (.head _),ih,Bool.and_self]
theorem DF {α:Type} {f:α→PyData} {b:Nat}:∀ {xs:List α},(∀ a∈xs,(f a).depth≤b)→PyData.depthAll (xs.map f)≤b
 | [],_=>Nat.zero_le _
 | x::xs,h=>by
  have ih:=DF (xs:=xs) fun a ha=>h a (.tail _ ha)
  simp only [List.map_cons,PyData.depthAll]
  exact Nat.max_le.mpr ⟨h x (.head _),ih⟩
namespace LA
noncomputable abbrev d:=top 68
noncomputable abbrev sc:=AM d
noncomputable abbrev s1:=nth (AB d) 1
noncomputable abbrev cp:=exprS s1
noncomputable abbrev t3:=exprS (nth (AB d) 3)
noncomputable abbrev j3:=rE t3
noncomputable abbrev c3:=BE 0 j3
noncomputable abbrev t4:=exprS (nth (AB d) 4)
end LA
noncomputable def SV (ns:List Int):AV:=.lst (ns.map .int)
noncomputable def FV (ns:List Int):AV:=.lst ((lfs ns).map Ab)
noncomputable def PV (ns:List Int):AV:=.lst ((lps ns).map prP)
noncomputable def HV (ns:List Int):AV:=.str (S (Ad (lps ns)))
noncomputable def l0 (ns:List Int):List (Str×AV):=[("script",SV ns)]
noncomputable def l1 (ns:List Int):List (Str×AV):=[("script",SV ns),("files",FV ns)]
noncomputable def l2 (ns:List Int):List (Str×AV):=[("script",SV ns),("files",FV ns),("lists",PV ns)]
noncomputable def l3 (ns:List Int):List (Str×AV):=[("script",SV ns),("files",FV ns),("lists",PV ns),("header",HV ns)]
noncomputable def dPr (p:List Nat×List Nat):PyData:=.list [.tuple [.str "m",.str (S p.1)],.tuple [.str "n",.str (S p.2)]]
theorem dat_PV (ns:List Int):dat (PV ns)=some (.list ((lps ns).map dPr)):=by
 have:=Dn (g:=prP) (f:=dPr) (fun p=>rfl) (lps ns)
 refine (?_:(EL ((lps ns).map prP)).map PyData.list=_)
 rw [this];rfl
theorem lay_PV (ns:List Int):PyData.canLay0 (.list ((lps ns).map dPr))=true:=by
 simp only [PyData.canLay0]
 refine E9 fun p hp=>?_
 have h:=CW ns p hp
 have em:PyData.strOk ("m":Str)=true:=by kernel_rfl!
 have en:PyData.strOk ("n":Str)=true:=by kernel_rfl!
 unfold dPr
 simp only [PyData.canLay0,PyData.canLayAll0,em,en,E4 h.m,E4 h.n,Bool.and_self]
theorem Lj (ns:List Int):PyData.depth (.list ((lps ns).map dPr))≤100:=by
 have:=DF (b:=10) (f:=dPr) (xs:=lps ns) fun p ζ=>by simp [dPr,PyData.depth,PyData.depthAll]
 simp only [PyData.depth]
 exact lin (by assumption) (by simp +arith only)
section
variable {W:Wd}
noncomputable def lwC (ns:List Int):Value→List AV→List AO→Option (AV×List AO):=fun f args objs=>match f with
 | .ref a=>if a==868 then some (FV ns,objs) else if a==100 then some (HV ns,objs) else if a==83 then some (PV ns,objs) else if a==861 then (match args with | [.int m]=>some (.str (S (AI m)),objs) | _=>none) else none
 | _=>none
theorem la_comp (F:KF W.K) {ns:List Int} {objs:List AO}:AH W 10 LA.sc LA.s1 ⟨l1 ns,objs⟩ .next ⟨l2 ns,objs⟩:=by
 have hrun:=Ac.each (W:=W) (k:=10) (sc:=As LA.cp) (elt:=An LA.cp) (tgt:=(Aj 0 LA.cp).target) (g:=Ab) (r:=fun f=>prP (lpr f)) (objs:=objs) (lfs ns) fun f hf=>by
  refine ⟨_,⟨[("bits",.int f.1),("name",.str (S f.2))],objs⟩,.atT (xs:=["bits","name"]) (vs:=[.int f.1,.str (S f.2)]) (loc':=[("bits",.int f.1),("name",.str (S f.2))]) (by kernel_rfl!) (by kernel_rfl!) (by kernel_rfl!) (by kernel_rfl!) rfl,?_,rfl⟩
  exact BW (AW F 9 {call:=lwC ns}) (n:=20) (o:=[ob (AP W 9 (.ref 861) [.int f.1] objs (.str (S (AI f.1))) objs)]) (by kernel_rfl!) (obs (AC (cob ((HU F).le (by decide)) (by decide))) AS)
 have e:(lfs ns).map (fun f=>prP (lpr f))=(lps ns).map prP:=by unfold lps;(rewrite [List.map_map];try with_reducible rfl);rfl
 (rewrite [e] at hrun;try with_reducible rfl)
 have:=AH.comp1 (W:=W) (k:=10) (sc:=LA.sc) (st:=⟨l1 ns,objs⟩) (st':=⟨l1 ns,objs⟩) (s:=LA.s1) (x:="lists") (v:=FV ns) (xs:=(lfs ns).map Ab) (ys:=(lps ns).map prP) (by kernel_rfl!) (by kernel_rfl!) (fun ζ ζ=>by kernel_rfl!) (by kernel_rfl!) (AQ (k:=9) F {} (n:=5) (by kernel_rfl!)) rfl hrun (by (rewrite [List.length_map];try with_reducible rfl);have:=E8 ns;omega)
 exact this
theorem la_join (F:KF W.K) {ns:List Int} {objs:List AO} {loc:List (Str×AV)} (hl:AA W 10 LA.sc (Aj 0 LA.c3).iter ⟨loc,objs⟩ (PV ns) ⟨loc,objs⟩):AA W 10 LA.sc LA.j3 ⟨loc,objs⟩ (HV ns) ⟨loc,objs⟩:=by
 have hrun:=Ac.each (W:=W) (k:=10) (sc:=As LA.c3) (elt:=An LA.c3) (tgt:=(Aj 0 LA.c3).target) (g:=fun f=>prP (lpr f)) (r:=fun f=>.str (S (A5 (lpr f)))) (objs:=objs) (lfs ns) fun f hf=>by
  have hp:=CW ns (lpr f) (List.mem_map_of_mem hf)
  refine ⟨_,⟨[("pairs",prP (lpr f))],objs⟩,.at (x:="pairs") (by kernel_rfl!) (by kernel_rfl!),?_,rfl⟩
  have he:=LU F (m:=f.1) (N:=f.2) (objs:=objs) hp.m hp.n (by have:=hp.ln;refine (?_:f.2.length≤100);have:f.2.length≤3:=this;exact lb (by assumption) rfl)
  (rewrite [IG (m:=f.1) (N:=f.2) hp.sn] at he;try with_reducible rfl)
  exact BW (AW F 9 {call:=fun f' ζ objs=>if f'==.ref 887 then some (.str (S (A5 (lpr f))),objs) else none}) (n:=20) (o:=[ob (AP W 9 (.ref 887) [prP (lpr f)] objs (.str (S (A5 (lpr f)))) objs)]) (by kernel_rfl!) (obs (AC (cob (he.le (by decide)) (by decide))) AS)
 have e1:(lfs ns).map (fun f=>prP (lpr f))=(lps ns).map prP:=by unfold lps;(rewrite [List.map_map];try with_reducible rfl);rfl
 have e2:(lfs ns).map (fun f=>AV.str (S (A5 (lpr f))))=(((lps ns).map A5).map S).map AV.str:=by unfold lps;(rewrite [List.map_map,List.map_map,List.map_map];try with_reducible rfl);rfl
 (rewrite [e1,e2] at hrun;try with_reducible rfl)
 have hj:Txt.join ", " (((lps ns).map A5).map S)=S (Ad (lps ns)):=by
  have:(", ":Str)=S [44,32]:=by kernel_rfl!
  (rewrite [this,Cq];try with_reducible rfl);rfl
 have hc:AA W 10 LA.sc LA.c3 ⟨loc,objs⟩ (.lst ((((lps ns).map A5).map S).map AV.str)) ⟨loc,objs⟩:=AA.comp1 (v:=PV ns) (xs:=(lps ns).map prP) (by kernel_rfl!) (fun ζ ζ=>by kernel_rfl!) (by kernel_rfl!) hl rfl hrun (by (rewrite [List.length_map];try with_reducible rfl);have:=Ba ns;omega)
 have:=AA.joinAt (k:=9) F (e:=LA.j3) (s:=lE (Dd LA.j3)) (a:=LA.c3) (sep:=", ") (ys:=((lps ns).map A5).map S) (by kernel_rfl!) (AQ (k:=9) F {} (n:=5) (by kernel_rfl!)) hc ?_
 ·(rewrite [hj] at this;try with_reducible rfl)
  exact this
 ·have h1:(((lps ns).map A5).map S).length≤4:=by (rewrite [List.length_map,List.length_map];try with_reducible rfl);exact Ba ns
  have h2:((((lps ns).map A5).map S).map (·.length)).sum≤400:=by
   (rewrite [CT];try with_reducible rfl)
   have hb:∀ ls:List (List Nat×List Nat),(∀ p∈ls,PrOk p)→(ls.map A5).flatten.length≤100*ls.length:=by
    intro ls
    induction ls with
    | nil=>intro _;exact Nat.le_refl _
    | cons p ls ih =>
     intro h
     have i1:=ih fun q hq=>h q (.tail _ hq)
     have i2:=Ff (h p (.head _))
     (rewrite [List.map_cons,List.flatten_cons,List.length_append,List.length_cons];try with_reducible rfl)
     exact (lin i1 (lin i2 (by simp +arith only)))
   exact Nat.le_trans (hb (lps ns) (CW ns)) (Nat.mul_le_mul_left 100 (Ba ns))
  have h3:(", ":Str).length=2:=by kernel_rfl!
  (rewrite [h3];try with_reducible rfl)
  exact (lnn 2 h1 (lin h2 (by simp +arith only)))
end
section
variable {W:Wd}
theorem la_t3 (F:KF W.K) {ns:List Int}:AL W 10 LA.sc LA.t3 ⟨l3 ns,[]⟩ false ⟨l3 ns,[]⟩:=by
 have hj:AA W 10 LA.sc LA.j3 ⟨l3 ns,[]⟩ (HV ns) ⟨l3 ns,[]⟩:=la_join F (AQ (k:=9) F {} (n:=5) (by kernel_rfl!))
 have hne:(S (Ad (lps ns)) != S (Ad (lps ns)))=false:=by simp
 exact D1 (k:=9) F {ex:=fun e st=>if DS e&&e.pos.col==17 then some (HV ns,st) else none,hint:=fun ζ ζ=>some false} (n:=10) (o:=[ob (AA W 10 LA.sc LA.j3 ⟨l3 ns,[]⟩ (HV ns) ⟨l3 ns,[]⟩),ob ((S (Ad (lps ns)) != S (Ad (lps ns)))=false)]) (by kernel_rfl!)
  (obs (AC hj) (obs (AC hne) AS))
theorem la_t4 (F:KF W.K) (N:NF W) {ns:List Int}:AL W 10 LA.sc LA.t4 ⟨l3 ns,[]⟩ false ⟨l3 ns,[]⟩:=by
 have hs:AR W 9 (.ref 83) [.lst [HV ns]] [] (PV ns) []:=(LH F N (Ks ns) (by have:=Fe ns;exact lb (by assumption) rfl) (by have:=Ba ns;exact lb (by assumption) rfl)).le (by decide)
 have hc:AA W 10 LA.sc (lE LA.t4) ⟨l3 ns,[]⟩ (PV ns) ⟨l3 ns,[]⟩:=Bk (k:=9) F {call:=lwC ns} (n:=10) (o:=[ob (AP W 9 (.ref 83) [.lst [HV ns]] [] (PV ns) [])]) (by kernel_rfl!) (obs (AC (cob hs (by decide))) AS)
 exact AL.ne (r:=rE LA.t4) (by kernel_rfl!) (by kernel_rfl!) hc (AQ (k:=9) F {} (n:=5) (by kernel_rfl!)) (dat_PV ns) (lay_PV ns) (Lj ns)
theorem Kb (F:KF W.K) (N:NF W) {ns:List Int}:A8 W 10 LA.sc ((AB LA.d).take 5) ⟨l0 ns,[]⟩ .next ⟨l3 ns,[]⟩:=by
 have hf:AR W 9 (.ref 868) [SV ns] [] (FV ns) []:=by
  have:=LQ F (ns:=ns) (objs:=[])
  have e:((ns.take 4).map fun x=>Ab (AJ x))=(lfs ns).map Ab:=by unfold lfs;rw [List.map_map];rfl
  rw [e] at this
  exact this.le (by decide)
 have hh:AR W 9 (.ref 100) [PV ns] [] (HV ns) []:=(FB F N (ps:=lps ns) (fun p hp=>let h:=CW ns p hp;⟨⟨h.m,h.n⟩,by have:=h.lm;exact lin (Nat.le_of_eq (by assumption)) (by simp +arith only),by have:=h.ln;exact lb (by assumption) rfl⟩) (by have:=Ba ns;exact lb (by assumption) rfl)).le (by decide)
 exact AN (AW F 9 {call:=lwC ns,st:=fun s ζ=>if (B3 s).line==878 then some (.next,⟨l2 ns,[]⟩) else none,ts:=fun e st=>if Ih e&&(e.pos.line==880 || e.pos.line==882) then some (false,st) else none}) (n:=20)
  (o:=[ob (AP W 9 (.ref 868) [SV ns] [] (FV ns) []),ob (AH W 10 LA.sc LA.s1 ⟨l1 ns,[]⟩ .next ⟨l2 ns,[]⟩),ob (AP W 9 (.ref 100) [PV ns] [] (HV ns) []),ob (AL W 10 LA.sc LA.t3 ⟨l3 ns,[]⟩ false ⟨l3 ns,[]⟩),ob (AL W 10 LA.sc LA.t4 ⟨l3 ns,[]⟩ false ⟨l3 ns,[]⟩)]) (by kernel_rfl!)
  (obs (AC (cob hf (by decide))) (obs (AC (la_comp F)) (obs (AC (cob hh (by decide))) (obs (AC (la_t3 F)) (obs (AC (la_t4 F N)) AS)))))
end
namespace LA
noncomputable abbrev s6:=nth (AB d) 6
noncomputable abbrev t6:=exprS s6
noncomputable abbrev c6:=rE t6
noncomputable abbrev s7:=nth (AB d) 7
noncomputable abbrev li:=exprS (nth (AB s7) 0)
noncomputable abbrev t8:=exprS (nth (AB s7) 1)
noncomputable abbrev t9:=exprS (nth (AB s7) 2)
end LA
noncomputable def TV (ns:List Int):AV:=.lst ((Bw (lps ns)).map fun t=>.str (S t))
noncomputable def l4 (ns:List Int):List (Str×AV):=[("script",SV ns),("files",FV ns),("lists",PV ns),("header",HV ns),("tokens",TV ns)]
noncomputable def Ev (e:Expr):Bool:=match e with | .Subscript _ i _=>Ck i | _=>false
theorem HL {objs:List AO} {xs:List AV} {i:Nat} {a:AV} (h:xs[i]?=some a) (hl:i≤1000):Fb objs (.lst xs) (.int (Int.ofNat i))=some a:=by
 refine (Option.bind_some ..).trans ?_
 refine (?_:grd (inS (Int.ofNat i)) _=_)
 have hb:inS (Int.ofNat i)=true:=by
  unfold inS
  (rewrite [Bool.and_eq_true,decide_eq_true_eq,decide_eq_true_eq];try with_reducible rfl)
  exact ⟨Int.natCast_nonneg i,by refine (?_:(i:Int)<2 ^ 63);exact iub hl (by decide)⟩
 (rewrite [hb];try with_reducible rfl)
 exact h
theorem Eu {objs:List AO} {l:List Nat} {i c:Nat} (h:l[i]?=some c) (hl:i≤1000):Fb objs (.str (S l)) (.int (Int.ofNat i))=some (.str (S [c])):=by
 have hi:i<l.length:=(List.getElem?_eq_some_iff.mp h).1
 have h0:seqIndex? (Int.ofNat i) (S l).length=some i:=by
  rw [AU]
  unfold seqIndex?
  have h1:¬ ((Int.ofNat i)<0):=Int.not_lt.mpr (Int.natCast_nonneg i)
  have h2:Int.ofNat i<(l.length:Int):=Int.ofNat_lt.mpr hi
  simp only [h1,h2,if_false]
  simp
 have h2:(S l).cps[i]?=some c:=by refine (?_:l.toArray[i]?=_);rw [List.getElem?_toArray];exact h
 refine (?_:((seqIndex? (Int.ofNat i) (S l).length).bind ((S l).cps[·]?)).bind _=_)
 rw [h0]
 refine (?_:((S l).cps[i]?).bind _=_)
 rw [h2]
 have h3:(decide (Int.ofNat i < -(2 ^ 63:Int)) || decide (Int.ofNat i≥2 ^ 63))=false:=Bool.or_eq_false_iff.mpr ⟨decide_eq_false (by refine (?_:¬ (i:Int)<_);exact Int.not_lt.mpr (Int.le_trans (by decide) (Int.natCast_nonneg _))),decide_eq_false (by refine (?_:¬ (i:Int)≥_);exact inb hl (by decide))⟩
 refine (?_:grd (!(decide (Int.ofNat i < -(2 ^ 63:Int)) || decide (Int.ofNat i≥2 ^ 63))) _=_)
 rw [h3]
 rfl
section
variable {W:Wd}
theorem Lu (F:KF W.K) {kc:Nat} {w:List Nat} {bv:AV} {objs:List AO} (hl:w.length≤100):AA W 10 (As LA.c6) (An LA.c6) ⟨[("both",bv),("key",.str (S [kc])),("value",.str (S w))],objs⟩ (.str (S (CH kc w))) ⟨[("both",bv),("key",.str (S [kc])),("value",.str (S w))],objs⟩:=by
 have e:S (CH kc w)=S [kc]++("=":Str)++S w:=by
  have:("=":Str)=S [61]:=by kernel_rfl!
  rw [this,Ai,Ai];rfl
 have l1:(S [kc]++("=":Str)).length=2:=by
  have:("=":Str)=S [61]:=by kernel_rfl!
  rw [this,Ai,AU];rfl
 have l0:(S [kc]).length+("=":Str).length=2:=by
  have:("=":Str).length=1:=by kernel_rfl!
  rw [this,AU] <;> rfl
 rw [e]
 exact BW (AW F 9 {}) (n:=10) (o:=[(S [kc]).length+("=":Str).length,(S [kc]++("=":Str)).length+(S w).length]) (by kernel_rfl!) (obs (szl (by rw [l0];decide)) (obs (szl (by rw [l1,AU];exact lin (by assumption) (by simp +arith only))) AS))
theorem Ls (F:KF W.K) {objs:List AO}:∀ ps:List (List Nat×List Nat),(∀ p∈ps,PrOk p)→BO W 10 (As LA.c6) (An LA.c6) (Aj 0 LA.c6).target (Aj 1 LA.c6).target (Aj 1 LA.c6).iter (ps.map prP) ⟨[],objs⟩ ((Bw ps).map fun t=>.str (S t)) ⟨[],objs⟩
 | [],_=>.nil
 | p::ps,h=>by
  have hp:=h p (.head _)
  have lm:=hp.lm
  have ln:=hp.ln
  have a1:AX W 10 (As LA.c6) (Aj 0 LA.c6).target (prP p) ⟨[],objs⟩ ⟨[("both",prP p)],objs⟩:=.at (x:="both") (by kernel_rfl!) (by kernel_rfl!)
  have i1:FQ W 10 (As LA.c6) (Aj 1 LA.c6).iter ⟨[("both",prP p)],objs⟩ [.tup [.str (S [109]),.str (S p.1)],.tup [.str (S [110]),.str (S p.2)]] 1 ⟨[("both",prP p)],objs⟩:=.val (v:=prP p) (AQ (k:=9) F {} (n:=5) (by kernel_rfl!)) rfl
  have b1:AX W 10 (As LA.c6) (Aj 1 LA.c6).target (.tup [.str (S [109]),.str (S p.1)]) ⟨[("both",prP p)],objs⟩ ⟨[("both",prP p),("key",.str (S [109])),("value",.str (S p.1))],objs⟩:=.atT (xs:=["key","value"]) (loc':=[("both",prP p),("key",.str (S [109])),("value",.str (S p.1))]) (by kernel_rfl!) (by kernel_rfl!) (by kernel_rfl!) (by kernel_rfl!) rfl
  have b2:AX W 10 (As LA.c6) (Aj 1 LA.c6).target (.tup [.str (S [110]),.str (S p.2)]) ⟨[("both",prP p)],objs⟩ ⟨[("both",prP p),("key",.str (S [110])),("value",.str (S p.2))],objs⟩:=.atT (xs:=["key","value"]) (loc':=[("both",prP p),("key",.str (S [110])),("value",.str (S p.2))]) (by kernel_rfl!) (by kernel_rfl!) (by kernel_rfl!) (by kernel_rfl!) rfl
  have r:=Ac.cons b1 ((Lu F (kc:=109) (w:=p.1) (by exact lin (Nat.le_of_eq (by assumption)) (by simp +arith only))).forget (st'':=⟨[("both",prP p)],objs⟩) (.cons rfl .nil) rfl) (Ac.cons b2 ((Lu F (kc:=110) (w:=p.2) (by exact lb (by assumption) rfl)).forget (st'':=⟨[],objs⟩) .nil rfl) .nil)
  exact BO.cons a1 i1 r (Ls F ps fun q hq=>h q (.tail _ hq))
theorem tks_sg {ps:List (List Nat×List Nat)} (h:∀ p∈ps,PrOk p):∀ t∈Bw ps,Sg t:=by
 intro t ht
 refine AG (List.mem_flatMap.mp ht) fun p hp ht=>?_
 rcases List.mem_cons.mp ht with rfl | ht
 ·exact .app (Cf (by decide)) (h p hp).m
 ·rw [List.mem_singleton.mp ht];exact .app (Cf (by decide)) (h p hp).n
theorem la_s6 (F:KF W.K) {ns:List Int} {objs:List AO}:AH W 10 LA.sc LA.s6 ⟨l4 ns,objs⟩ .next ⟨l4 ns,objs⟩:=by
 have hc:AA W 10 LA.sc LA.c6 ⟨l4 ns,objs⟩ (TV ns) ⟨l4 ns,objs⟩:=AA.comp2 (v:=PV ns) (xs:=(lps ns).map prP) (by kernel_rfl!) (fun ζ ζ=>by kernel_rfl!) (fun ζ ζ=>by kernel_rfl!) (by kernel_rfl!) (AQ (k:=9) F {} (n:=5) (by kernel_rfl!)) rfl (Ls F (lps ns) (CW ns)) (by rw [List.length_map];have:=Fx ns;exact lb (by assumption) rfl)
 have ht:AL W 10 LA.sc LA.t6 ⟨l4 ns,objs⟩ false ⟨l4 ns,objs⟩:=by
  refine AL.ne (d:=.list ((Bw (lps ns)).map fun t=>.str (S t))) (l:=lE LA.t6) (r:=LA.c6) (by kernel_rfl!) (by kernel_rfl!) (AQ (k:=9) F {} (n:=5) (by kernel_rfl!)) hc ?_ ?_ ?_
  ·have:=Dn (g:=fun t=>AV.str (S t)) (f:=fun t=>PyData.str (S t)) (fun t=>rfl) (Bw (lps ns))
   refine (?_:(EL _).map PyData.list=_)
   rw [this];rfl
  ·simp only [PyData.canLay0]
   exact E9 fun t ht=>by simp only [PyData.canLay0];exact E4 (tks_sg (CW ns) t ht)
  ·have:=DF (b:=0) (f:=fun t=>PyData.str (S t)) (xs:=Bw (lps ns)) fun t ζ=>Nat.le_refl _
   simp only [PyData.depth]
   exact lin (by assumption) (by simp +arith only)
 exact Ea (AW F 9 {ts:=fun e st=>if Ih e then some (false,st) else none}) (n:=10) (o:=[ob (AL W 10 LA.sc LA.t6 ⟨l4 ns,objs⟩ false ⟨l4 ns,objs⟩)]) (by kernel_rfl!) (obs (AC ht) AS)
end
noncomputable def atI (l c ec:Nat) (e:Expr):Bool:=Ev e&&atP l c ec e
theorem tks_at {ps:List (List Nat×List Nat)}:∀ {i:Nat} {p:List Nat×List Nat},ps[i]?=some p→(Bw ps)[2*i]?=some (CH 109 p.1):=by
 induction ps with
 | nil=>intro i p h;simp at h
 | cons q ps ih =>
  intro i p h
  cases i with
  | zero=>cases h;rfl
  | succ i =>
   refine (?_:(CH 109 q.1::CH 110 q.2::Bw ps)[2*(i+1)]?=_)
   rw [show 2*(i+1)=2*i+1+1 by simp +arith only]
   exact ih h
theorem Ly (x:Int):∃ n:Nat,C3 x=(n:Int)∧n<65536:=by
 have h1:0≤C3 x:=Int.fmod_nonneg_of_pos _ (by decide)
 have h2:C3 x<65536:=Int.fmod_lt_of_pos _ (by decide)
 exact ⟨(C3 x).toNat,(Int.toNat_of_nonneg h1).symm,(Int.toNat_lt h1).mpr h2⟩
section
variable {W:Wd}
noncomputable def l5 (ns:List Int) (i:Nat):List (Str×AV):=[("script",SV ns),("files",FV ns),("lists",PV ns),("header",HV ns),("tokens",TV ns),("k",.int (Int.ofNat i))]
noncomputable def l6 (ns:List Int) (i:Nat) (m:Int):List (Str×AV):=[("script",SV ns),("files",FV ns),("lists",PV ns),("header",HV ns),("tokens",TV ns),("k",.int (Int.ofNat i)),("listing",.str (S (AI m)))]
theorem la_turn (F:KF W.K) {ns:List Int} {objs:List AO} {i:Nat} {f:Int×List Nat} (hi:(lfs ns)[i]?=some f):A8 W 10 LA.sc (AB LA.s7) ⟨l5 ns i,objs⟩ .next ⟨l4 ns,objs⟩:=by
 have hil:i<4:=Nat.lt_of_lt_of_le (List.getElem?_eq_some_iff.mp hi).1 (E8 ns)
 refine AG (List.mem_map.mp (List.mem_of_getElem? hi)) fun x hx r2_=>?_;subst r2_
 refine AG (Ly x) fun n hn ζ=>?_
 have hps:(lps ns)[i]?=some (lpr (AJ x)):=by unfold lps;rw [List.getElem?_map,hi];rfl
 have hm:(AJ x).1=(n:Int):=hn
 have hfile:∀ e:Expr,Ev e=true→Cr (lE e)=some "files"→Cr (rE e)=some "k"→AA W 10 LA.sc e ⟨l6 ns i (AJ x).1,objs⟩ (Ab (AJ x)) ⟨l6 ns i (AJ x).1,objs⟩:=fun e h1 h2 h3=>by
  have nm:∀ {e:Expr} {y:Str} {a:AV},Cr e=some y→(y==("__debug__":Str))=false→LA.sc.names.lookup y=some .local→(l6 ns i (AJ x).1).lookup y=some a→AA W 10 LA.sc e ⟨l6 ns i (AJ x).1,objs⟩ a ⟨l6 ns i (AJ x).1,objs⟩:=fun {e y a} h hd hl ha=>by
   obtain ⟨p,rfl⟩:=D9 h
   exact .loc hd hl ha
  exact .itemAt h1 (nm (a:=FV ns) h2 (by kernel_rfl!) (by kernel_rfl!) (by kernel_rfl!)) (nm (a:=.int (Int.ofNat i)) h3 (by kernel_rfl!) (by kernel_rfl!) (by kernel_rfl!)) (HL (by rw [List.getElem?_map,hi];rfl) (by exact (lin hil (by simp +arith only))))
 have htk:AA W 10 LA.sc (lE LA.li) ⟨l5 ns i,objs⟩ (.str (S (CH 109 (AI (AJ x).1)))) ⟨l5 ns i,objs⟩:=by
  have:=tks_at hps
  refine .itemAt (by kernel_rfl!) (AQ (k:=9) F {} (n:=5) (v:=TV ns) (by kernel_rfl!)) (Bk (k:=9) F {} (n:=5) (v:=.int (Int.ofNat (2*i))) (o:=[Int.natAbs 2,(Int.ofNat i).natAbs]) (by kernel_rfl!) (obs (szl (by decide)) (obs (szl (by refine (?_:i≤_);exact (lin hil (by simp +arith only)))) AS))) (HL (by rw [List.getElem?_map,this];rfl) (by exact (lnn 2 hil (by simp +arith only))))
 have hli:AA W 10 LA.sc LA.li ⟨l5 ns i,objs⟩ (.str (S (AI (AJ x).1))) ⟨l5 ns i,objs⟩:=by
  have e:Txt.slice (S (CH 109 (AI (AJ x).1))) (some (Int.ofNat 2)) none=S (AI (AJ x).1):=by
   rw [Ge (by unfold CH;simp)];rfl
  rw [← e]
  exact Bk (k:=9) F {ex:=fun e st=>if Ev e then some (.str (S (CH 109 (AI (AJ x).1))),st) else none} (n:=10) (o:=[ob (AA W 10 LA.sc (lE LA.li) ⟨l5 ns i,objs⟩ (.str (S (CH 109 (AI (AJ x).1)))) ⟨l5 ns i,objs⟩)]) (by kernel_rfl!) (obs (AC htk) AS)
 refine AG (B5 (AJ x).1) fun tl hhead ζ=>?_
 have hk1:AA W 10 LA.sc (lE LA.t8) ⟨l6 ns i (AJ x).1,objs⟩ (.str (S [BB (AJ x).1])) ⟨l6 ns i (AJ x).1,objs⟩ :=
  .itemAt (by kernel_rfl!) (AQ (k:=9) F {} (n:=5) (v:=.str (S (AI (AJ x).1))) (by kernel_rfl!)) (AQ (k:=9) F {} (n:=5) (v:=.int (Int.ofNat 0)) (by kernel_rfl!)) (Eu (by rw [hhead];rfl) (by decide))
 have hq:n / 4096 % 16<16:=Nat.mod_lt _ (by decide)
 have hk2:AA W 10 LA.sc (rE LA.t8) ⟨l6 ns i (AJ x).1,objs⟩ (.str (S [BB (AJ x).1])) ⟨l6 ns i (AJ x).1,objs⟩:=by
  have hidx:AA W 10 LA.sc (rE (rE LA.t8)) ⟨l6 ns i (AJ x).1,objs⟩ (.int (Int.ofNat (n / 4096 % 16))) ⟨l6 ns i (AJ x).1,objs⟩:=by
   have e:Int.ofNat (n / 4096 % 16)=(Builtin.bitAnd (AJ x).1 61440).fdiv 4096:=by rw [hm,Kc n];rfl
   rw [e]
   exact Bk (k:=9) F {call:=fun f args objs=>if f==.ref 821 then some (.int (Builtin.bitAnd (AJ x).1 61440),objs) else none,ex:=fun e st=>if atI 889 51 59 e then some (Ab (AJ x),st) else none} (n:=10)
    (o:=[ob (AA W 10 LA.sc (lE (BE 0 (lE (rE (rE LA.t8))))) ⟨l6 ns i (AJ x).1,objs⟩ (Ab (AJ x)) ⟨l6 ns i (AJ x).1,objs⟩),ob (AP W 9 (.ref 821) [.int (AJ x).1] objs (.int (Builtin.bitAnd (AJ x).1 61440)) objs)]) (by kernel_rfl!)
    (obs (AC (hfile _ (by kernel_rfl!) (by kernel_rfl!) (by kernel_rfl!))) (obs (AC (cob ((GZ F).le (by decide)) (by decide))) AS))
  refine .itemAt (by kernel_rfl!) (AQ (k:=9) F {} (n:=5) (v:=.str (S kt)) (by kernel_rfl!)) hidx (Eu ?_ (by exact lin (by assumption) (by simp +arith only)))
  rw [hm,kind_eq n,List.getD_eq_getElem?_getD]
  have:∀ q:Fin 16,kt[q.val]?=some (kt[q.val]?.getD 63):=by decide
  exact this ⟨_,hq⟩
 have ht8:AL W 10 LA.sc LA.t8 ⟨l6 ns i (AJ x).1,objs⟩ false ⟨l6 ns i (AJ x).1,objs⟩ :=
  D1 (k:=9) F {ex:=fun e st=>if atI 889 11 21 e || atI 889 25 72 e then some (.str (S [BB (AJ x).1]),st) else none,hint:=fun ζ ζ=>some false} (n:=10)
   (o:=[ob (AA W 10 LA.sc (lE LA.t8) ⟨l6 ns i (AJ x).1,objs⟩ (.str (S [BB (AJ x).1])) ⟨l6 ns i (AJ x).1,objs⟩),ob (AA W 10 LA.sc (rE LA.t8) ⟨l6 ns i (AJ x).1,objs⟩ (.str (S [BB (AJ x).1])) ⟨l6 ns i (AJ x).1,objs⟩),ob ((S [BB (AJ x).1] != S [BB (AJ x).1])=false)]) (by kernel_rfl!)
   (obs (AC hk1) (obs (AC hk2) (obs (AC (by simp)) AS)))
 have hr:(Bg (AJ x).1 != Builtin.bitAnd (AJ x).1 4095)=false:=by rw [hm,JK n];simp
 have ht9:AL W 10 LA.sc LA.t9 ⟨l6 ns i (AJ x).1,objs⟩ false ⟨l6 ns i (AJ x).1,objs⟩ :=
  D1 (k:=9) F {call:=fun f args objs=>if f==.ref 894 then some (.int (Bg (AJ x).1),objs) else if f==.ref 814 then some (.int (Builtin.bitAnd (AJ x).1 4095),objs) else none,ex:=fun e st=>if atI 891 43 51 e then some (Ab (AJ x),st) else none,hint:=fun ζ ζ=>some false} (n:=10)
   (o:=[ob (AP W 9 (.ref 894) [.str (S (AI (AJ x).1))] objs (.int (Bg (AJ x).1)) objs),ob (AA W 10 LA.sc (lE (BE 0 (rE LA.t9))) ⟨l6 ns i (AJ x).1,objs⟩ (Ab (AJ x)) ⟨l6 ns i (AJ x).1,objs⟩),ob (AP W 9 (.ref 814) [.int (AJ x).1] objs (.int (Builtin.bitAnd (AJ x).1 4095)) objs),ob ((Bg (AJ x).1 != Builtin.bitAnd (AJ x).1 4095)=false)]) (by kernel_rfl!)
   (obs (AC (cob ((J1 F).le (by decide)) (by decide))) (obs (AC (hfile _ (by kernel_rfl!) (by kernel_rfl!) (by kernel_rfl!))) (obs (AC (cob ((LM F).le (by decide)) (by decide))) (obs (AC hr) AS))))
 refine (AN (AW F 9 {ex:=fun e st=>if e.pos.line==888&&e.pos.endCol==35 then some (.str (S (AI (AJ x).1)),st) else none,ts:=fun e st=>if Ih e then some (false,st) else none}) (n:=20) (st':=⟨l6 ns i (AJ x).1,objs⟩)
  (o:=[ob (AA W 10 LA.sc LA.li ⟨l5 ns i,objs⟩ (.str (S (AI (AJ x).1))) ⟨l5 ns i,objs⟩),ob (AL W 10 LA.sc LA.t8 ⟨l6 ns i (AJ x).1,objs⟩ false ⟨l6 ns i (AJ x).1,objs⟩),ob (AL W 10 LA.sc LA.t9 ⟨l6 ns i (AJ x).1,objs⟩ false ⟨l6 ns i (AJ x).1,objs⟩)]) (by kernel_rfl!)
  (obs (AC hli) (obs (AC ht8) (obs (AC ht9) AS)))).forget ?_ rfl
 exact .cons rfl (.cons rfl (.cons rfl (.cons rfl (.cons rfl .nil))))
theorem la_s7 (F:KF W.K) {ns:List Int} {objs:List AO}:AH W 10 LA.sc LA.s7 ⟨l4 ns,objs⟩ .next ⟨l4 ns,objs⟩:=by
 have hrun:∀ (rest done:List (Int×List Nat)),lfs ns=done++rest→BA W 10 LA.sc (tgtS LA.s7) (AB LA.s7) (BD LA.s7) (Dy (Int.ofNat done.length) rest.length) ⟨l4 ns,objs⟩ .next ⟨l4 ns,objs⟩:=by
  intro rest
  induction rest with
  | nil=>intro done _;exact .stop (AN (AW F 9 {}) (n:=5) (o:=[]) (by kernel_rfl!) AS)
  | cons f rest ih =>
   intro done h
   have hi:(lfs ns)[done.length]?=some f:=by rw [h,List.getElem?_append_right (Nat.le_refl _),Nat.sub_self];rfl
   have a1:AX W 10 LA.sc (tgtS LA.s7) (.int (Int.ofNat done.length)) ⟨l4 ns,objs⟩ ⟨l5 ns done.length,objs⟩:=.at (x:="k") (by kernel_rfl!) (by kernel_rfl!)
   have:=ih (done++[f]) (by rw [h,List.append_assoc];rfl)
   rw [List.length_append] at this
   exact .go a1 (la_turn F hi) (.inl rfl) this
 have h0:=hrun (lfs ns) [] rfl
 have el:((lfs ns).map Ab).length=(lfs ns).length:=List.length_map ..
 exact GX F (n:=((lfs ns).map Ab).length) (by kernel_rfl!) (e:=BE 0 (exprS LA.s7)) (by kernel_rfl!) (by kernel_rfl!) (AQ (k:=9) F {} (n:=5) (by kernel_rfl!)) (by rw [el];have:=E8 ns;exact lb (by assumption) rfl) (by rw [el];exact h0)
end
end Mine
end
section
set_option maxRecDepth 10000
namespace Mine
open PySem PySem.W PyProof.Rows PySem.Calls PySem.Spec
namespace LA
noncomputable abbrev s8:=nth (AB d) 8
noncomputable abbrev c8:=exprS s8
noncomputable abbrev s9:=nth (AB d) 9
noncomputable abbrev c9:=exprS s9
noncomputable abbrev s10:=nth (AB d) 10
noncomputable abbrev rt:=exprS s10
noncomputable abbrev ifx:=rE rt
end LA
noncomputable def Ag (ns:List Int):List (List Nat):=(lps ns).map (·.1)
noncomputable def RV (ns:List Int):AV:=.lst ((Ag ns).map fun L=>.str (S L))
noncomputable def OV (ns:List Int):AV:=.lst (((Ag ns).map AZ).map BZ)
noncomputable def l8 (ns:List Int):List (Str×AV):=[("script",SV ns),("files",FV ns),("lists",PV ns),("header",HV ns),("tokens",TV ns),("rows",RV ns)]
noncomputable def l9 (ns:List Int):List (Str×AV):=[("script",SV ns),("files",FV ns),("lists",PV ns),("header",HV ns),("tokens",TV ns),("rows",RV ns),("lone",OV ns)]
noncomputable def ZV (ns:List Int):AV:=.lst (if ((Ag ns).map AZ).isEmpty then [] else [OV ns])
section
variable [AY] {W:Wd}
theorem la_s8 (F:KF W.K) {ns:List Int} {objs:List AO}:AH W 10 LA.sc LA.s8 ⟨l4 ns,objs⟩ .next ⟨l8 ns,objs⟩:=by
 have hrun:=Ac.each (W:=W) (k:=10) (sc:=As LA.c8) (elt:=An LA.c8) (tgt:=(Aj 0 LA.c8).target) (g:=prP) (r:=fun p=>.str (S p.1)) (objs:=objs) (lps ns) fun p hp=>by
  refine ⟨_,⟨[("one",prP p)],objs⟩,.at (x:="one") (by kernel_rfl!) (by kernel_rfl!),?_,rfl⟩
  exact AQ (k:=9) F {} (n:=10) (by kernel_rfl!)
 have e:(lps ns).map (fun p=>AV.str (S p.1))=(Ag ns).map fun L=>.str (S L):=by unfold Ag;(rewrite [List.map_map];try with_reducible rfl);rfl
 (rewrite [e] at hrun;try with_reducible rfl)
 exact AH.comp1 (W:=W) (k:=10) (sc:=LA.sc) (st:=⟨l4 ns,objs⟩) (st':=⟨l4 ns,objs⟩) (s:=LA.s8) (x:="rows") (v:=PV ns) (xs:=(lps ns).map prP) (ys:=(Ag ns).map fun L=>.str (S L)) (by kernel_rfl!) (by kernel_rfl!) (fun ζ ζ=>by kernel_rfl!) (by kernel_rfl!) (AQ (k:=9) F {} (n:=5) (by kernel_rfl!)) rfl hrun (by (rewrite [List.length_map];try with_reducible rfl);have:=Ba ns;omega)
theorem c9_elt (F:KF W.K) {m:Int} {objs:List AO}:AA W 10 (As LA.c9) (An LA.c9) ⟨[("row",.str (S (AI m)))],objs⟩ (BZ (AZ (AI m))) ⟨[("row",.str (S (AI m)))],objs⟩:=by
 refine AG (B5 m) fun tl hh ζ=>?_
 have hk:AA W 10 (As LA.c9) (lE (lE (BE 0 (An LA.c9)))) ⟨[("row",.str (S (AI m)))],objs⟩ (.str (S [BB m])) ⟨[("row",.str (S (AI m)))],objs⟩ :=
  .itemAt (by kernel_rfl!) (AQ (k:=9) F {} (n:=5) (v:=.str (S (AI m))) (by kernel_rfl!)) (AQ (k:=9) F {} (n:=5) (v:=.int (Int.ofNat 0)) (by kernel_rfl!)) (Eu (by rw [hh];rfl) (by decide))
 have eq:("?":Str)=S [63]:=by kernel_rfl!
 have e39:("'":Str)=S [39]:=by kernel_rfl!
 have hc:(S [BB m]==("?":Str))=(BB m==63):=by
  rw [eq,Bool.eq_iff_iff,beq_iff_eq,beq_iff_eq,Fv]
  simp
 have lm:=BT m
 cases hb:(BB m==63) with
 | true =>
  have eq2:S (AZ (AI m))=("'":Str)++S (AI m)++("'":Str):=by
   unfold AZ
   rw [uns_m,hb,e39,Ai,Ai];rfl
  unfold BZ
  rw [eq2]
  exact BW (AW F 9 {ex:=fun e st=>if Ev e then some (.str (S [BB m]),st) else none,hint:=fun ζ ζ=>some true}) (n:=15)
   (o:=[ob (AA W 10 (As LA.c9) (lE (lE (BE 0 (An LA.c9)))) ⟨[("row",.str (S (AI m)))],objs⟩ (.str (S [BB m])) ⟨[("row",.str (S (AI m)))],objs⟩),ob ((S [BB m]=="?")=true),("'":Str).length+(S (AI m)).length,(("'":Str)++S (AI m)).length+("'":Str).length]) (by kernel_rfl!)
   (obs (AC hk) (obs (AC (hc.trans hb)) (obs (szl (by rw [e39,AU,AU,lm];decide)) (obs (szl (by rw [e39,Ai,AU,AU,List.length_append,lm];decide)) AS))))
 | false =>
  have eq2:AZ (AI m)=AI m:=by
   unfold AZ
   rw [uns_m,hb];rfl
  unfold BZ
  rw [eq2]
  exact BW (AW F 9 {ex:=fun e st=>if Ev e then some (.str (S [BB m]),st) else none,hint:=fun ζ ζ=>some false}) (n:=15)
   (o:=[ob (AA W 10 (As LA.c9) (lE (lE (BE 0 (An LA.c9)))) ⟨[("row",.str (S (AI m)))],objs⟩ (.str (S [BB m])) ⟨[("row",.str (S (AI m)))],objs⟩),ob ((S [BB m]=="?")=false)]) (by kernel_rfl!)
   (obs (AC hk) (obs (AC (hc.trans hb)) AS))
theorem c9_asg {w:List Nat} {objs:List AO}:AX W 10 (As LA.c9) (Aj 0 LA.c9).target (.str (S w)) ⟨[],objs⟩ ⟨[("row",.str (S w))],objs⟩:=.at (x:="row") (by kernel_rfl!) (by kernel_rfl!)
theorem la_s9 (F:KF W.K) {ns:List Int} {objs:List AO}:AH W 10 LA.sc LA.s9 ⟨l8 ns,objs⟩ .next ⟨l9 ns,objs⟩:=by
 have hrun:=Ac.each (W:=W) (k:=10) (sc:=As LA.c9) (elt:=An LA.c9) (tgt:=(Aj 0 LA.c9).target) (g:=fun f=>AV.str (S (AI f.1))) (r:=fun f=>BZ (AZ (AI f.1))) (objs:=objs) (lfs ns) fun f hf=>by
  have h1:=c9_asg (W:=W) (w:=AI f.1) (objs:=objs)
  have h2:=c9_elt (W:=W) F (m:=f.1) (objs:=objs)
  exact ⟨_,_,h1,h2,rfl⟩
 have e1:(lfs ns).map (fun f=>AV.str (S (AI f.1)))=(Ag ns).map fun L=>.str (S L):=by unfold Ag lps;(rewrite [List.map_map,List.map_map];try with_reducible rfl);rfl
 have e2:(lfs ns).map (fun f=>BZ (AZ (AI f.1)))=((Ag ns).map AZ).map BZ:=by unfold Ag lps;(rewrite [List.map_map,List.map_map,List.map_map];try with_reducible rfl);rfl
 (rewrite [e1,e2] at hrun;try with_reducible rfl)
 exact AH.comp1 (W:=W) (k:=10) (sc:=LA.sc) (st:=⟨l8 ns,objs⟩) (st':=⟨l8 ns,objs⟩) (s:=LA.s9) (x:="lone") (v:=RV ns) (xs:=(Ag ns).map fun L=>.str (S L)) (ys:=((Ag ns).map AZ).map BZ) (by kernel_rfl!) (by kernel_rfl!) (fun ζ ζ=>by kernel_rfl!) (by kernel_rfl!) (AQ (k:=9) F {} (n:=5) (by kernel_rfl!)) rfl hrun (by (rewrite [List.length_map];try with_reducible rfl);unfold Ag;(rewrite [List.length_map];try with_reducible rfl);have:=Ba ns;omega)
noncomputable def Do (L:List Nat):PyData:=.tuple [.str (S L),.none]
theorem Lm (ns:List Int):dat (OV ns)=some (.list (((Ag ns).map AZ).map Do)):=by
 have:=Dn (g:=BZ) (f:=Do) (fun p=>rfl) ((Ag ns).map AZ)
 refine (?_:(EL _).map PyData.list=_)
 rw [this];rfl
theorem Ch {ns:List Int} {L:List Nat} (h:L∈Ag ns):∃ m,L=AI m:=by
 unfold Ag lps at h
 rw [List.map_map] at h
 refine AG (List.mem_map.mp h) fun f ζ r2_=>?_;subst r2_
 exact ⟨f.1,rfl⟩
theorem K8 (ns:List Int):PyData.canLayAll0 (((Ag ns).map AZ).map Do)=true:=by
 refine E9 fun L hL=>?_
 refine AG (List.mem_map.mp hL) fun K hK r2_=>?_;subst r2_
 obtain ⟨m,rfl⟩:=Ch hK
 unfold Do
 simp only [PyData.canLay0,PyData.canLayAll0,E4 (Gs (Dh m)),Bool.and_self]
theorem Lk (ns:List Int):PyData.depthAll (((Ag ns).map AZ).map Do)≤10:=DF fun L ζ=>by simp [Do,PyData.depth,PyData.depthAll]
set_option tactic.hygienic true in
theorem Lc (F:KF W.K) {e:Expr} {st:ST} (h:(match e with | .List [] _=>true | _=>false)=true):AA W 10 LA.sc e st (.lst []) st:=by
 induction e using Expr.casesOn <;> first | exact ff h | skip
 rename_i es p
 induction es using List.casesOn with
 | nil=>exact .listF (by decide) .nil
 | cons=>exact ff h
theorem la_ifx (F:KF W.K) {ns:List Int} {objs:List AO}:AA W 10 LA.sc LA.ifx ⟨l9 ns,objs⟩ (ZV ns) ⟨l9 ns,objs⟩:=by
 have e:LA.ifx=.IfExp (lE LA.ifx) (rE LA.ifx) (zE LA.ifx) LA.ifx.pos:=by kernel_rfl!
 rw [e]
 have et:lE LA.ifx=.Compare (lE (lE LA.ifx)) [.NotEq] [rE (lE LA.ifx)] (lE LA.ifx).pos:=by kernel_rfl!
 have ht:=AL.eqData (W:=W) (k:=10) (sc:=LA.sc) (st:=⟨l9 ns,objs⟩) (op:=.NotEq) (pos:=(lE LA.ifx).pos) (l:=lE (lE LA.ifx)) (r:=rE (lE LA.ifx)) (a:=OV ns) (b:=.lst []) (db:=.list []) (.inr rfl) (by kernel_rfl!) (AQ (k:=9) F {} (n:=5) (by kernel_rfl!)) (Lc F (by kernel_rfl!)) (Lm ns) rfl (by simp only [PyData.canLay0];exact K8 ns) rfl (by simp [PyData.depth,PyData.depthAll])
 rw [← et] at ht
 refine .ifExp ht ?_
 unfold ZV
 cases hr:(Ag ns).map AZ with
 | nil =>
  have e1:eqR .NotEq (.list (([]:List (List Nat)).map Do)) (.list [])=false:=rfl
  rw [e1]
  exact Lc F (by kernel_rfl!)
 | cons L r =>
  have e1:eqR .NotEq (.list ((L::r).map Do)) (.list [])=true:=rfl
  rw [e1]
  exact AQ (k:=9) F {} (n:=6) (by kernel_rfl!)
end
section
variable {W:Wd}
theorem la_ret (F:KF W.K) (G:KG W.K) (N:@NF lax W) (T:NG W) {ns:List Int} {objs:List AO}:@AH lax W 10 LA.sc LA.s10 ⟨l9 ns,objs⟩ (.ret (.bool true)) ⟨l9 ns,objs⟩:=by
 letI:AY:=lax
 have hrl:(Ag ns).length≤4:=by unfold Ag;rw [List.length_map];exact Ba ns
 have hj:AR W 9 (.ref 799) [RV ns] objs (.str (S (Cp (Ag ns)))) objs:=(LI F G N.n798 T (rows:=Ag ns) (fun L hL=>by
  obtain ⟨m,rfl⟩:=Ch hL
  refine AG (B5 m) fun l e ζ=>?_
  exact ⟨Dh m,by rw [e];simp,IB m,by rw [BT];decide⟩) (by exact lb (by assumption) rfl)).le (by decide)
 have hsl:Sg (Cp (Ag ns)):=D8 (Cf (by decide)) fun l hl=>by
  refine AG (List.mem_map.mp hl) fun L hL r2_=>?_;subst r2_
  obtain ⟨m,rfl⟩:=Ch hL
  exact Gs (Dh m)
 have hll:(Cp (Ag ns)).length≤10000:=by
  have:=EG [32] 20 ((Ag ns).map AZ) fun l hl=>by
   refine AG (List.mem_map.mp hl) fun L hL r2_=>?_;subst r2_
   obtain ⟨m,rfl⟩:=Ch hL
   have:=F5 (AI m)
   rw [BT] at this
   exact lb (by assumption) rfl
  rw [List.length_map] at this
  have h2:(Ag ns).length*(20+[32].length)≤4*(20+[32].length):=Nat.mul_le_mul_right _ hrl
  exact Nat.le_trans this (Nat.le_trans h2 (by decide))
 have hs:AR W 9 (.ref 83) [.lst [.str (S (Cp (Ag ns)))]] objs (ZV ns) objs:=(fn_lone F (rs:=(Ag ns).map AZ) hsl hll (fun x hx=>by
  refine AG (List.mem_map.mp hx) fun L hL r2_=>?_;subst r2_
  obtain ⟨m,rfl⟩:=Ch hL
  exact JM) (by rw [List.length_map];exact lb (by assumption) rfl)).le (by decide)
 have hc:AA W 10 LA.sc (lE LA.rt) ⟨l9 ns,objs⟩ (ZV ns) ⟨l9 ns,objs⟩:=Bk (k:=9) F {call:=fun f ζ objs=>if f==.ref 799 then some (.str (S (Cp (Ag ns))),objs) else if f==.ref 83 then some (ZV ns,objs) else none} (n:=10)
  (o:=[ob (AP W 9 (.ref 799) [RV ns] objs (.str (S (Cp (Ag ns)))) objs),ob (AP W 9 (.ref 83) [.lst [.str (S (Cp (Ag ns)))]] objs (ZV ns) objs)]) (by kernel_rfl!) (obs (AC (cob hj (by decide))) (obs (AC (cob hs (by decide))) AS))
 have he:AA W 10 LA.sc LA.rt ⟨l9 ns,objs⟩ (.bool true) ⟨l9 ns,objs⟩:=by
  refine AA.eq (d:=.list (if ((Ag ns).map AZ).isEmpty then [] else [.list (((Ag ns).map AZ).map Do)])) (l:=lE LA.rt) (r:=LA.ifx) (by kernel_rfl!) (by kernel_rfl!) hc (la_ifx F) ?_ ?_ ?_
  ·unfold ZV
   have hd:=Lm ns
   split
   ·rfl
   ·refine (?_:(EL [OV ns]).map PyData.list=_)
    simp only [EL,hd];rfl
  ·have:=K8 ns
   split
   ·rfl
   ·simp only [PyData.canLay0,PyData.canLayAll0,this,Bool.and_self]
  ·have:=Lk ns
   split
   ·simp [PyData.depth,PyData.depthAll]
   ·simp only [PyData.depth,PyData.depthAll]
    exact Nat.succ_le_succ (Nat.max_le.mpr ⟨Nat.succ_le_succ (lb this rfl),by decide⟩)
 have er:LA.s10=.Return (some LA.rt) (B3 LA.s10):=by kernel_rfl!
 rw [er]
 exact .ret he
theorem la_last (F:KF W.K) (G:KG W.K) (N:@NF lax W) (T:NG W) {ns:List Int} {objs:List AO}:@A8 lax W 10 LA.sc ((AB LA.d).drop 6) ⟨l4 ns,objs⟩ (.ret (.bool true)) ⟨l9 ns,objs⟩:=by
 letI:AY:=lax
 have e:(AB LA.d).drop 6=[LA.s6,LA.s7,LA.s8,LA.s9,LA.s10]:=by kernel_rfl!
 rw [e]
 exact .cons (la_s6 F) (.cons (la_s7 F) (.cons (la_s8 F) (.cons (la_s9 F) (.stop (la_ret F G N T) (by intro h;cases h)))))
end
end Mine
end
section
set_option maxRecDepth 10000
set_option maxHeartbeats 1000000
namespace Mine
open PySem PySem.W PyProof.Rows PySem.Calls PySem.Spec
namespace LA
noncomputable abbrev s5:=nth (AB d) 5
noncomputable abbrev e5:=exprS s5
end LA
section
variable {W:Wd}
theorem K9 (hF:KF W.K) (H:KH W.K) (I:KI W.K) (O:KO W.K) (G:KG W.K) (N:@NF lax W) (T:NG W) {s:Shared} {A:Around} {E:Value→Shared→Prop} {a:Addr} {vs:List Value} {ns:List Int} (X:W.K.In s.heap)
  (hT:∀ t∈[78,95,794],s.heap.get? t=some (tabObj #[])∧W.K.lookup t=none) (hG:AllBare s.gens) (ha:s.heap.get? a=some (Af vs 0)) (hv:∀ (Z:AK) (as:List Addr),IsL Z as (ns.map .int) vs) (hn:ns.length≤63) (hfr:A.frames=some []) (hR:Ae A 19) :
  wpAny W.M A (call (.ref 899) [.ref a]) (fun u s'=>u=.bool true∧(∀ b o,s.heap.get? b=some o→b∉[78,95,794]→s'.heap.get? b=some o)∧(∀ t∈[78,95,794],∃ vs,s'.heap.get? t=some (tabObj vs))∧AllBare s'.gens∧s'.os=s.os) E s:=by
 letI:AY:=lax
 refine Be hF.f899.at_ fun pm c hK hcode hcd=>?_
 have hd:=hR.depth
 refine wpAny_call (codeAny_call_def (fd:=fnD LA.d "law" .none pm c) (binds:=[("script",.ref a)]) (by refine (?_:A.depth<1000);exact lin (by assumption) (by simp +arith only)) (X _ _ hK) rfl (hF.lim _ X) (codeRec_of X hcode) rfl (.of_eq (by kernel_rfl!)) ?_ ?_ (fun h₀ hns hk₀=>?_) (by kernel_rfl!) (by kernel_rfl!) (by kernel_rfl!))
 ·have:((AM LA.d).names.all fun x=>decide (x.2≠.cell))=true:=by kernel_rfl!
  exact fun y hy=>of_decide_eq_true (List.all_eq_true.mp this y hy)
 ·intro y hy
  rw [List.mem_singleton.mp hy]
  kernel_rfl!
 have hvl:vs.length≤sizeLine:=by
  have:=(hv (fun ζ ζ=>True) []).length
  rw [List.length_map] at this
  exact szl (by exact Nat.le_trans (Nat.le_of_eq this.symm) (lb hn rfl))
 have hsz:s.heap.objs.size≤h₀.objs.size:=Nat.le_of_lt hns.lt
 have zn:Zn W (fun b o=>W.K.lookup b=some o∨(b=a∧o=Af vs 0)) s.heap:=by
  refine ⟨fun ζ ζ e=>.inl e,fun b o e=>?_,fun b o e z=>?_,fun t ht=>⟨#[],(hT t ht).1,.inl rfl⟩⟩
  ·rcases e with e | ⟨rfl,rfl⟩
   ·exact X b o e
   ·exact ha
  ·rcases e with e | ⟨rfl,rfl⟩
   ·rw [(hT b z).2] at e;exact no e
   ·rw [(hT b z).1] at ha
    have:=congrArg (fun o:Option Obj=>o.map (·.cls)) ha
    simp at this
 have S0:Sta W (fun b o=>W.K.lookup b=some o∨(b=a∧o=Af vs 0)) s.heap.objs.size [] ⟨l0 ns,[]⟩ {s with heap:=h₀,toks:=s.toks+1}:=by
  refine ⟨zn.grow ⟨hk₀,hsz⟩,⟨rfl,fun i a y e=>by simp at e,List.nodup_nil,fun a h=>(nomatch h)⟩,⟨⟨_,hns,fun y v e=>?_⟩,fun z=>(nomatch z),fun o z=>absurd (Heap.lt_size (zn.keep _ _ z)) (Nat.lt_irrefl _),fun z=>absurd (Heap.lt_size (hT _ z).1) (Nat.lt_irrefl _)⟩⟩
  by_cases hy:y="script"
  ·subst hy
   unfold l0 at e
   rw [List.lookup_cons_self] at e
   cases e
   exact ⟨.ref a,by simp,.lst (.inr ⟨rfl,rfl⟩) (hv _ _) hvl⟩
  ·unfold l0 at e
   rw [List.lookup_cons,beq_false_of_ne hy] at e
   exact no e
 have hE:Aq (callEnv (fnD LA.d "law" .none pm c) s.heap.objs.size 899) LA.sc s.heap.objs.size:=⟨rfl,rfl,rfl,rfl,by kernel_rfl!,fun c' q' z=>by
  have:DW (AM LA.d)=none:=by kernel_rfl!
  rw [this] at z;exact no z⟩
 have hR2:Ae (A.deeper (callEnv (fnD LA.d "law" .none pm c) s.heap.objs.size 899)) 18:=hR.down (by refine (?_:A.depth+1≤A.depth+9);simp +arith only) (by refine (?_:A.units+3≤A.units+99);simp +arith only) rfl
 have hR10:Ae (A.deeper (callEnv (fnD LA.d "law" .none pm c) s.heap.objs.size 899)) 10:=hR2.less.less.less.less.less.less.less.less
 have eb:AB LA.d=(AB LA.d).take 5++(.Assign [.Name "tokens" (tgtS LA.s5).pos] (.Call (.Name "_law_tokens" (Dd LA.e5).pos) [.Name "header" (BE 0 LA.e5).pos] [] LA.e5.pos) (B3 LA.s5)::(AB LA.d).drop 6):=by kernel_rfl!
 rw [eb]
 refine Di (Kb hF N _ _ _ _ _ _ _ _ hE hR10 S0 fun Z₁ as₁ u s₁ S₁ e₁ hu=>?_)
 cases hu using IsF.e_next
 have has:as₁=[]:=List.eq_nil_of_length_eq_zero S₁.ow.len
 subst has
 refine AG (S₁.fr.ns) fun m₁ hns₁ hnm₁=>?_
 refine Hq (id hns₁) fun o₁ es₁ ep₁ ho₁ hd₁ hrest₁=>?_
 have hL0:W.K.lookup s.heap.objs.size=none:=by
  cases e:W.K.lookup s.heap.objs.size with
  | none=>rfl
  | some o=>exact absurd (Heap.lt_size (X _ _ e)) (Nat.lt_irrefl _)
 refine wpAny_execs_cons (wpAny_Assign_Name (wpAny_Call_Name_kw (wpAny_Name (Ah (as:=[]) (v:=.top (.ref 875)) hE S₁.zn (by kernel_rfl!) (CK hF (by kernel_rfl!)) fun u hu=>?_) (by kernel_rfl!))) (D2 rfl))
 cases hu using Is.e_top
 refine Ao (W:=W) (by rfl) (show EO W (.ref 875) from hF.f875.fn) ?_
 refine args_cons ?_ rfl
 refine wpAny_Name (CX hE S₁ (by kernel_rfl!) (a:=HV ns) (by kernel_rfl!) fun u hu=>?_) (by kernel_rfl!)
 refine spliced_nil ⟨S₁.zn.kIn,?_⟩
 cases hu using Is.e_str with
 | _ th hxl =>
 have hRt:Ae (A.deeper (callEnv (fnD LA.d "law" .none pm c) s.heap.objs.size 899)) 17:=hR2.less
 refine lt_call hF I O (env0:=callEnv (fnD LA.d "law" .none pm c) s.heap.objs.size 899) (L0:=s.heap.objs.size) (by refine (?_:A.frames.map _=_);rw [hfr];rfl) hRt S₁.zn.kIn ⟨rfl,fun env he=>?_,fun L hL=>?_⟩ hL0 hxl (JW hF H ns) (by have:=Fx ns;exact lb (by assumption) rfl) fun s₂ Sa us c' k hsa hSa hus=>?_
 ·rw [List.mem_singleton.mp he]
  have:(AM LA.d).kind=.function:=by kernel_rfl!
  refine (?_:(AM LA.d).kind≠.module)
  rw [this];decide
 ·rw [List.mem_singleton.mp hL]
  exact ⟨o₁,ho₁,fun vs=>by rw [hd₁];simp⟩
 have old:∀ b o,s₁.heap.get? b=some o→b≠s.heap.objs.size→s₂.heap.get? b=some o:=fun b o e hne=>k.keep b o e (fun z=>hne (List.mem_singleton.mp z)) (fun z=>(nomatch z))
 have zne:∀ b o,Z₁ b o→b≠s.heap.objs.size:=fun b o e z=>S₁.fr.out.1 o (z▸e)
 have tne:∀ t∈[78,95,794],t≠s.heap.objs.size:=fun t ht z=>S₁.fr.out.2 (z▸ht)
 have sa_new:∀ b o,s₁.heap.get? b=some o→b≠Sa:=fun b o e z=>Nat.lt_irrefl _ (Nat.lt_of_lt_of_le (Heap.lt_size e) (z▸hsa))
 have tlt:∀ t∈[78,95,794],∃ o,s₁.heap.get? t=some o:=fun t ht=>AG (S₁.zn.tab t ht) fun vs e ζ=>⟨_,e⟩
 have S₂:Sta W (fun b o=>Z₁ b o∨(b=Sa∧o=Af us c')) s.heap.objs.size [] ⟨l3 ns,[]⟩ s₂:=by
  refine ⟨⟨fun b o e=>.inl (S₁.zn.kin b o e),fun b o e=>?_,fun b o e z=>?_,fun t ht=>?_⟩,⟨rfl,fun i a y e=>by simp at e,List.nodup_nil,fun a h=>(nomatch h)⟩,⟨⟨m₁,?_,fun y v e=>?_⟩,fun z=>(nomatch z),fun o z=>?_,S₁.fr.out.2⟩⟩
  ·rcases e with e | ⟨rfl,rfl⟩
   ·exact old b o (S₁.zn.keep b o e) (zne b o e)
   ·exact hSa
  ·rcases e with e | ⟨rfl,rfl⟩
   ·exact S₁.zn.low b o e z
   ·obtain ⟨o',e'⟩:=tlt b z
    exact sa_new b o' e' rfl
  ·refine AG (S₁.zn.tab t ht) fun vs' e tv=>?_
   exact ⟨vs',old t _ e (tne t ht),tv.mono fun ζ ζ h=>.inl h⟩
  ·obtain ⟨sl,hsl⟩:=k.slots _ (.head _) o₁ ho₁
   exact ⟨_,es₁,ep₁,hsl,hd₁,hrest₁⟩
  ·refine AG (hnm₁ y v e) fun v' h1 h2=>?_
   have:=h2.mono (more:=[]) (fun b o h=>(Or.inl h:Z₁ b o∨(b=Sa∧o=Af us c')))
   rw [List.append_nil] at this
   exact ⟨v',h1,this⟩
  ·rcases z with z | ⟨z,_⟩
   ·exact S₁.fr.out.1 o z
   ·exact sa_new _ _ ho₁ z
 have husl:us.length≤sizeLine:=by
  have:=hus.length
  rw [List.length_map] at this
  exact szl (by have:=Fx ns;lia)
 have hus2:IsL (fun b o=>Z₁ b o∨(b=Sa∧o=Af us c')) [] ((Bw (lps ns)).map fun t=>.str (S t)) us:=by
  have:=hus.mono (more:=[]) (Z':=fun b o=>Z₁ b o∨(b=Sa∧o=Af us c')) (fun b o h=>Or.inl (S₁.zn.kin b o h))
  rw [List.append_nil] at this
  exact this
 refine BQ hE S₂ (a:=TV ns) (by kernel_rfl!) (.lst (.inr ⟨rfl,rfl⟩) hus2 husl) fun s₃ S₃ e₃=>?_
 have S₃':Sta W (fun b o=>Z₁ b o∨(b=Sa∧o=Af us c')) s.heap.objs.size [] ⟨l4 ns,[]⟩ s₃:=S₃
 refine la_last hF G N T _ _ _ _ _ _ _ _ hE hR10 S₃' fun Z₄ as₄ u s₄ S₄ e₄ hu=>?_
 cases hu using IsF.e_ret with
 | _ _ hu =>
 cases hu using Is.e_bool
 have ne0:∀ b o,s.heap.get? b=some o→b∉[s.heap.objs.size]:=fun b o e z=>by
  rw [List.mem_singleton.mp z] at e
  exact Nat.lt_irrefl _ (Heap.lt_size e)
 refine ⟨rfl,fun b o e hb=>?_,fun t ht=>?_,?_,?_⟩
 ·have n0:=ne0 b o e
  have q1:=e₁.keep b o (hk₀ b o e) n0 (fun z=>(nomatch z)) hb
  have q2:=old b o q1 (fun z=>n0 (by rw [z];exact .head _))
  exact e₄.keep b o (e₃.keep b o q2 n0 (fun z=>(nomatch z)) hb) n0 (fun z=>(nomatch z)) hb
 ·refine AG (S₄.zn.tab t ht) fun vs' e ζ=>?_
  exact ⟨vs',e⟩
 ·have g1:AllBare s₁.gens:=e₁.gens hG
  have g2:AllBare s₂.gens:=by rw [k.gens];exact g1
  exact e₄.gens (e₃.gens g2)
 ·exact (e₄.os.trans e₃.os).trans (k.os.trans e₁.os)
end
end Mine
end
section
set_option maxRecDepth 10000
set_option maxHeartbeats 1000000
namespace Mine
open PySem PySem.W PyProof.Rows PySem.Calls PySem.Spec
noncomputable def F2:List Addr:=[78,95,794]
noncomputable def cut (K:Frag):Frag:=K.filter fun p=>!F2.contains p.1
theorem DP (a:Addr):∀ K:Frag,(cut K).lookup a=if a∈F2 then none else K.lookup a
 | []=>by unfold cut;split <;> rfl
 | p::r=>by
  have ih:=DP a r
  unfold cut at ih ⊢
  rw [List.filter_cons]
  by_cases hp:p.1∈F2
  ·rw [if_neg (by simp [hp]),ih]
   by_cases ha:a∈F2
   ·rw [if_pos ha,if_pos ha]
   ·rw [if_neg ha,if_neg ha]
    have:(a==p.1)=false:=beq_false_of_ne fun e=>ha (e▸hp)
    obtain ⟨x,y⟩:=p
    rw [List.lookup_cons,this]
  ·rw [if_pos (by simp [hp])]
   obtain ⟨x,y⟩:=p
   rw [List.lookup_cons,List.lookup_cons]
   by_cases e:(a==x)=true
   ·have:a=x:=eq_of_beq e
    subst this
    rw [if_neg hp]
    simp
   ·rw [Bool.not_eq_true] at e
    rw [e]
    exact ih
theorem cut_in {K:Frag} {h:Heap} (X:K.In h):(cut K).In h:=fun a o e=>by
 rw [DP] at e
 split at e
 ·exact no e
 ·exact X a o e
noncomputable def deI (o:Obj):Option (Array DictEntry×Nat):=match o.data with
 | .dict es n=>some (es,n)
 | _=>none
theorem deI_e {o:Obj} {c:Array DictEntry×Nat} (h:deI o=some c):o.data=.dict c.1 c.2:=by
 obtain ⟨_,_,d,_⟩:=o
 cases d <;> first | exact no h | exact Option.some.inj h▸rfl
noncomputable def sqI (o:Obj):Option (Array Value×Nat):=match o.data with
 | .seq vs n=>some (vs,n)
 | _=>none
theorem sqI_e {o:Obj} {c:Array Value×Nat} (h:sqI o=some c):o.data=.seq c.1 c.2:=by
 obtain ⟨_,_,d,_⟩:=o
 cases d <;> first | exact no h | exact Option.some.inj h▸rfl
noncomputable def isPl (o:Obj):Bool:=match o.data with
 | .plain=>true
 | _=>false
theorem isPl_e {o:Obj} (h:isPl o=true):o.data=.plain:=by
 obtain ⟨_,_,d,_⟩:=o
 cases d <;> first | exact ff h | rfl
noncomputable def strV:Value→Option (Str×Tok)
 | .str x t=>some (x,t)
 | _=>none
theorem Jq {v:Value} {c:Str×Tok} (h:strV v=some c):v=.str c.1 c.2:=by induction v using Value.casesOn <;> first | exact no h | exact Option.some.inj h▸rfl
noncomputable def intV:Value→Option (Int×Tok)
 | .int x t=>some (x,t)
 | _=>none
theorem intV_e {v:Value} {c:Int×Tok} (h:intV v=some c):v=.int c.1 c.2:=by induction v using Value.casesOn <;> first | exact no h | exact Option.some.inj h▸rfl
noncomputable def refV:Value→Option Addr
 | .ref a=>some a
 | _=>none
theorem KC {v:Value} {a:Addr} (h:refV v=some a):v=.ref a:=by induction v using Value.casesOn <;> first | exact no h | exact Option.some.inj h▸rfl
noncomputable def tyV:Value→Option String
 | .type a=>some a
 | _=>none
theorem tyV_e {v:Value} {a:String} (h:tyV v=some a):v=.type a:=by induction v using Value.casesOn <;> first | exact no h | exact Option.some.inj h▸rfl
noncomputable def Jr (es:Array DictEntry):Bool:=es.toList.all fun e=>(strV e.key).isSome
theorem IU {es:Array DictEntry} (h:Jr es=true):∀ x∈es,∃ a t,x.key=.str a t:=fun x hx =>
 (Option.isSome_iff_exists.mp (List.all_eq_true.mp h x (Array.mem_toList_iff.mpr hx))).elim fun c e=>⟨c.1,c.2,Jq e⟩
noncomputable def ent (es:Array DictEntry) (x:Str):Option DictEntry:=es.toList.find? fun e=>e.key.isStr x
theorem Lb (es:Array DictEntry) (x:Str):nsFind es x=(ent es x).map (·.val):=by
 unfold nsFind findBy ent
 obtain ⟨l⟩:=es
 rw [List.find?_toArray]
noncomputable def Ky (K:Frag):Option Unit:=(K.lookup 3).bind fun o=>(deI o).bind fun c=>grd (Jr c.1) ((ent c.1 "__builtins__").bind fun e=>(refV e.val).bind fun bm=>(K.lookup bm).bind fun m=>(tyV m.cls).bind fun t =>
 grd (t=="module"&&decide (m.dict=some builtinsNs)&&isPl m&&bm != builtinsNs&&bm != mainGlobals&&!F2.contains bm) (some ()))
theorem GW {K:Frag} (e:Ky K=some ()):∀ P∈F2,∃ mg,∀ h:Heap,K.In h→h.Ns mainGlobals mg∧h.BuiltinsAt mg P:=fun P hP =>
 AE e fun o ho e=>AE e fun c hc e=>A1 e fun hs e=>AE e fun en he e=>AE e fun bm hb e=>AE e fun m hm e=>AE e fun t ht e=>A1 e fun hg ζ =>
  have g5:=bt hg
  have g4:=bt g5.1
  have g3:=bt g4.1
  have g2:=bt g3.1
  have g1:=bt g2.1
  ⟨nsFind c.1,fun h X=>⟨⟨o,c.1,c.2,X _ _ ho,deI_e hc,IU hs,fun ζ=>rfl⟩,bm,m,by rw [Lb,he];exact congrArg some (KC hb),of_decide_eq_true (by simpa using g3.2),of_decide_eq_true (by simpa using g4.2),
   fun z=>by
    have:=g5.2
    rw [List.contains_iff_mem.mpr (z▸hP)] at this
    exact ff this,X _ _ hm,by rw [tyV_e ht,eq_of_beq g1.1],of_decide_eq_true g1.2,isPl_e g2.2⟩⟩
structure Facts (K:Frag):Prop where
 kf:KF (cut K)
 kh:KH (cut K)
 ki:KI (cut K)
 ko:KO (cut K)
 kg:KG (cut K)
 c82:codeHdIn (cut K) 82 78=true
 c99:codeHdIn (cut K) 99 95=true
 c798:codeHdIn (cut K) 798 794=true
 gl:Ky (cut K)=some ()
 law:nsIn (cut K) 3 "law"=some (some (.ref 899))
 t78:K.lookup 78=some (tabObj #[])
 t95:K.lookup 95=some (tabObj #[])
 t794:K.lookup 794=some (tabObj #[])
noncomputable def tpL (a:Addr):Int×Int×Str:=if a=78 then (30,49,"split_header_words.<locals>.<lambda>") else if a=95 then (61,50,"join_header_words.<locals>.<lambda>") else ((SJ.ge.pos.line:Int),(SJ.ge.pos.col:Int),"join.<locals>.<genexpr>")
noncomputable def wd (w:World) (K:Frag):Wd:=⟨PySem.Challenge.pw_oc0347_01,w,cut K,tpL⟩
theorem law_at {K:Frag} {h:Heap} {mg:Str→Option Value} (X:K.In h) (hn:h.Ns mainGlobals mg) {x:Str} {v:Value} (e:nsIn K 3 x=some (some v)):mg x=some v:=mg_of X hn e
theorem Kr (Z:AK) (as:List Addr):∀ {vs:List Value} {xs:List Int},IntsAre vs xs→IsL Z as (xs.map .int) vs:=by
 intro vs xs h
 induction h with
 | nil=>exact .nil
 | cons _ _ _ ih=>exact .cons (.int _ _) ih
set_option tactic.hygienic true in
theorem walk {q:Program} {loose:List Str} {XP:(Str→Option Value)→Heap→Prop} {K:Params→Frag} {as:List Addr} {e:∀ P,as=(K P).map (·.1)} {d:DefRec} {kwd:List (Str×Expr)} (hnm:d.name="law") (F:∀ P,Facts (K P)) :
  WalkO q loose XP (kHook K as e).says PySem.Challenge.rw_oc0347_01.row.toRowW d kwd fun f vs=>call f vs:=by
 intro w s₀ s₁ mg mb G Y fa o pm cd doc dV kV ho hd hcd hD hmg hg args vals as hpre hlay hrd hwl hlo
 have X:=kIn_of Y
 have C:=cut_in X
 have f:=F w.params
 have hfa:fa=899:=by
  have:=law_at C G.T.g f.law
  rw [hnm,this] at hmg
  cases hmg;rfl
 subst hfa
 wrow_args hpre hlay hrd hwl hlo
 rename_i xs _ _ _ _ _ _ _ la vs _ hL _ hw _ hI _ hlen _
 have ha:s₁.heap.get? la=some (Af vs 0):=by
  refine I5 hL fun ol hol hcl n hdl=>?_
  cases hw
  rename_i vs' hol' _
  rw [hol'] at hol
  cases hol
  have:vs'.toArray=vs.toArray:=(Data.seq.inj hdl).1
  rw [hol',this]
 have N:@NF lax (wd w (K w.params)):=by
  letI:AY:=lax
  exact ⟨⟨by decide,fun h X=>codeHd_of_K X f.c82,GW f.gl 78 (by decide),by decide⟩,⟨by decide,fun h X=>codeHd_of_K X f.c99,GW f.gl 95 (by decide),by decide⟩,⟨by decide,fun h X=>codeHd_of_K X f.c798,GW f.gl 794 (by decide),by decide⟩,rfl,rfl⟩
 have T:NG (wd w (K w.params)):=⟨rfl⟩
 have tabAt:∀ t∈[78,95,794],s₁.heap.get? t=some (tabObj #[])∧(cut (K w.params)).lookup t=none:=by
  intro t ht
  refine ⟨?_,by rw [DP];exact if_pos ht⟩
  simp only [List.mem_cons,List.not_mem_nil,or_false] at ht
  rcases ht with rfl | rfl | rfl
  ·exact X _ _ f.t78
  ·exact X _ _ f.t95
  ·exact X _ _ f.t794
 have code:∀ t∈[78,95,794],isCodeTable s₁.heap t:=by
  intro t ht
  have:=(tabAt t ht).1
  simp only [List.mem_cons,List.not_mem_nil,or_false] at ht
  rcases ht with rfl | rfl | rfl
  ·exact ((codeHd_of_K C f.c82).tab this).isCodeTable
  ·exact ((codeHd_of_K C f.c99).tab this).isCodeTable
  ·exact ((codeHd_of_K C f.c798).tab this).isCodeTable
 have hcl:wpAny (wd w (K w.params)).M callerA (call (.ref 899) [.ref la]) _ (fun e s'=>GoodWG PySem.Challenge.rw_oc0347_01.row.claim (classAt s₀.heap) (ExcName.means s₀.heap) [ofPy (PyData.list (List.map PyData.int xs))] s₁ (Except.error e) s') s₁ :=
  K9 (W:=wd w (K w.params)) f.kf f.kh f.ki f.ko f.kg N T C tabAt (by rw [hg];exact AllBare.empty) ha (fun Z as=>Kr Z as hI) (Nat.le_of_not_lt fun e=>hlen (Int.ofNat_lt.mpr e)) rfl ⟨by decide,by decide,rfl⟩
 refine wpAny_mono hcl (fun u s' ⟨hu,hk,ht,hb,hos⟩=>?_) fun ζ ζ z=>z
 subst hu
 refine ⟨.inl ⟨.bool true,.bool true,[],rfl,fun ζ=>rfl,.bool _,?_,fun ζ=>⟨List.nodup_nil,fun a ha=>(nomatch ha)⟩⟩,⟨fun b o e=>?_,fun b o e=>?_⟩,hos,hb⟩
 ·
  wrow_post
 ·by_cases hbt:b∈[78,95,794]
  ·obtain ⟨ps,hP⟩:=ht b hbt
   have:=(tabAt b hbt).1
   rw [e] at this
   cases this
   exact .inr (.inl ⟨code b hbt,rfl,#[],ps,rfl,by rw [Array.empty_append];exact hP⟩)
  ·exact .inl (hk b o e hbt)
 ·by_cases hbt:b∈[78,95,794]
  ·obtain ⟨ps,hP⟩:=ht b hbt
   exact ⟨_,hP⟩
  ·exact ⟨o,hk b o e hbt⟩
end Mine
end
section
set_option maxRecDepth 10000
set_option maxHeartbeats 1000000
namespace Mine
open PySem PySem.W PyProof.Rows PySem.Calls PySem.Spec
noncomputable def pmK (K:Frag) (a:Addr):Value:=match K.lookup a with
 | some ⟨_,_,.func fd,_⟩=>fd.pyModule
 | _=>.none
noncomputable def cdK (K:Frag) (a:Addr):Addr:=match K.lookup a with
 | some ⟨_,_,.func fd,_⟩=>(match fd.code with | .ref c=>c | _=>0)
 | _=>0
noncomputable def At (sc:Scope) (c:Addr) (q:Str):Bool:=match DW sc with
 | some (c',q')=>decide (c=c')&&decide (q++(".<locals>.":Str)=q')
 | none=>true
theorem Aw {K:Frag} {a:Addr} {d:Stmt} {q:Str} {dv:Value} (h:K.lookup a=some (fnO d q dv (pmK K a) (cdK K a))) (e:(codeIn K (.ref (cdK K a)) q&&At (AM d) (cdK K a) q)=true):FnK K a d q dv:=by
 obtain ⟨e1,e2⟩:=Bool.and_eq_true_iff.mp e
 refine ⟨_,_,h,e1,fun c' q' z=>?_⟩
 unfold At at e2
 rw [z] at e2
 obtain ⟨e3,e4⟩:=Bool.and_eq_true_iff.mp e2
 exact ⟨of_decide_eq_true e3,of_decide_eq_true e4⟩
noncomputable def fsI (o:Obj):Option (Array Value):=match o.data with
 | .fields fs=>some fs
 | _=>none
noncomputable def fsK (K:Frag) (a:Addr):Array Value:=((K.lookup a).bind fsI).getD #[]
noncomputable def sqK (K:Frag) (a:Addr):Array Value:=(((K.lookup a).bind sqI).map (·.1)).getD #[]
noncomputable def sqN (K:Frag) (a:Addr):Nat:=(((K.lookup a).bind sqI).map (·.2)).getD 0
noncomputable def tokK (v:Value):Tok:=((strV v).map (·.2)).getD default
noncomputable def GG (K:Frag) (pa ca:Addr) (code:Array Nat) (groups:Nat):Option Unit:=(K.lookup ca).bind fun o=>(sqI o).bind fun c =>
 grd ((PySem.Builtin.Re.reRawNat ((fsK K pa).getD 6 .none)==0)&&(PySem.Builtin.Re.reRawNat ((fsK K pa).getD 2 .none)==groups)&&decide ((fsK K pa).getD 5 .none=.ref ca)&&decide ((c.1.map PySem.Builtin.Re.reRawOf).map (·.toNat)=code)) (some ())
theorem Cj {K:Frag} {pa ca:Addr} {code:Array Nat} {groups:Nat} (h:K.lookup pa=some {cls:=.type "re.Pattern",data:=.fields (fsK K pa)}) (e:GG K pa ca code groups=some ()):En K pa ca code groups :=
 AE e fun o ho e=>AE e fun c hc e=>A1 e fun g ζ =>
  have g3:=bt g
  have g2:=bt g3.1
  have g1:=bt g2.1
  ⟨_,o,c.1,c.2,h,eq_of_beq g1.1,eq_of_beq g1.2,of_decide_eq_true g2.2,ho,sqI_e hc,of_decide_eq_true g3.2⟩
noncomputable def tupI (o:Obj):Option (Array Value):=(sqI o).bind fun c=>(tyV o.cls).bind fun t=>grd (t=="tuple"&&o.dict.isNone&&o.slots.isEmpty) (some c.1)
theorem tupI_e {o:Obj} {vs:Array Value} (h:tupI o=some vs):∃ n,o=B2 vs.toList n:=AE h fun c hc h=>AE h fun t ht h=>A1 h fun g h=>by
 have g2:=bt g
 have g1:=bt g2.1
 obtain ⟨cl,d,dt,sl⟩:=o
 obtain rfl:dt=.seq c.1 c.2:=sqI_e hc
 obtain rfl:cl=.type t:=tyV_e ht
 obtain rfl:=eq_of_beq g1.1
 obtain rfl:=Option.isNone_iff_eq_none.mp g1.2
 obtain rfl:=Array.isEmpty_iff.mp g2.2
 obtain rfl:=Option.some.inj h
 exact ⟨c.2,rfl⟩
noncomputable def isB (K:Frag):Nat→AV→Value→Option Unit
 | 0=>fun ζ ζ=>none
 | n+1=>fun x v=>match x with
  | .int i=>(intV v).bind fun j=>grd (i==j.1) (some ())
  | .str x=>(strV v).bind fun y=>grd (decide (x=y.1)&&decide (x.length≤sizeLine)) (some ())
  | .tup xs=>(refV v).bind fun a=>(K.lookup a).bind fun o=>(tupI o).bind fun vs=>grd (decide (vs.toList.length≤sizeLine)&&decide (xs.length=vs.toList.length)&&(xs.zip vs.toList).all fun p=>(isB K n p.1 p.2).isSome) (some ())
  | _=>none
theorem isL_zip {Z:AK} {as:List Addr} {f:AV→Value→Bool} (hf:∀ x v,f x v=true→Is Z as x v):∀ (xs:List AV) (vs:List Value),xs.length=vs.length→((xs.zip vs).all fun p=>f p.1 p.2)=true→IsL Z as xs vs:=by
 intro xs
 induction xs with
 | nil =>
  intro vs hl h
  obtain rfl:=List.eq_nil_of_length_eq_zero hl.symm
  exact .nil
 | cons x xs ih =>
  intro vs hl h
  induction vs using List.casesOn with
  | nil=>exact nomatch hl
  | cons v vs=>exact .cons (hf _ _ (bt h).1) (ih vs (Nat.succ.inj hl) (bt h).2)
theorem is_of {K:Frag} {Z:AK} {as:List Addr} (hz:∀ a o,K.lookup a=some o→Z a o):∀ n x v,isB K n x v=some ()→Is Z as x v:=by
 intro n
 induction n with
 | zero=>intro x v h;exact no h
 | succ n ih =>
  intro x v h
  induction x using AV.casesOn with
  | int i=>exact AE h fun j hj h=>A1 h fun g ζ=>by rw [intV_e hj,eq_of_beq g];exact .int _ _
  | str x =>
   exact AE h fun y hy h=>A1 h fun g ζ=>by
    have g1:=of_decide_eq_true (bt g).1
    rw [Jq hy,← g1];exact .str _ (of_decide_eq_true (bt g).2)
  | tup xs =>
   exact AE h fun a ha h=>AE h fun o ho h=>AE h fun vs hv h=>A1 h fun g ζ=>by
    obtain ⟨k,rfl⟩:=tupI_e hv
    rw [KC ha]
    exact .tup (vs:=vs.toList) (hz _ _ ho) (isL_zip (fun x v q=>(Option.isSome_iff_exists.mp q).elim fun ζ e=>ih x v e) _ _ (of_decide_eq_true (bt (bt g).1).2) (bt g).2) (of_decide_eq_true (bt (bt g).1).1)
  | _=>exact no h
noncomputable def limB (K:Frag):Option Unit:=(K.lookup cStatics).bind fun o=>(deI o).bind fun c=>grd (Jr c.1&&(ent c.1 "sys.recursionlimit").isNone) (some ())
theorem lim_of {K:Frag} (e:limB K=some ()):∀ h:Heap,K.In h→h.NoLimit:=fun h X=>AE e fun o ho e=>AE e fun c hc e=>A1 e fun g ζ =>
 ⟨nsFind c.1,⟨o,c.1,c.2,X _ _ ho,deI_e hc,IU (bt g).1,fun ζ=>rfl⟩,by rw [Lb,Option.isNone_iff_eq_none.mp (bt g).2];rfl⟩
noncomputable def clI (o:Obj):Option ClassData:=match o.data with
 | .cls c=>some c
 | _=>none
noncomputable def clK (K:Frag) (a:Addr):ClassData:=((K.lookup a).bind clI).getD default
noncomputable def slK (K:Frag) (a:Addr):Array (Option Value):=((K.lookup a).map (·.slots)).getD #[]
noncomputable def odK (K:Frag) (a:Addr):Option Addr:=(K.lookup a).bind (·.dict)
theorem IL {K:Frag} {C:Addr} {bases mro:List Value} (h:K.lookup C=some ⟨.type "type",odK K C,.cls {name:=(clK K C).name,bases,mro,ns:=(clK K C).ns,qualname:=(clK K C).qualname,hasDict:=true,slotNames:=[],subclasses:=(clK K C).subclasses,abstract:=false,collection:=(clK K C).collection,hasDel:=false},slK K C⟩)
  (e:(slK K C)[4]?=some (some .none)):Ja K C bases mro:=⟨_,_,_,_,_,_,_,h,e⟩
theorem facts_of {K:Frag}
  (g:chkG (cut K)=true)
  (r:chkR (cut K)=true)
  (ft:isB (cut K) 5 ftAV (.ref 854)=some ())
  (lim:limB (cut K)=some ())
  (hp49:(cut K).lookup 49=some {cls:=.type "re.Pattern",data:=.fields (fsK (cut K) 49)}) (ep49:GG (cut K) 49 48 Rx.c49 0=some ())
  (hp61:(cut K).lookup 61=some {cls:=.type "re.Pattern",data:=.fields (fsK (cut K) 61)}) (ep61:GG (cut K) 61 60 Rx.c61 1=some ())
  (hp66:(cut K).lookup 66=some {cls:=.type "re.Pattern",data:=.fields (fsK (cut K) 66)}) (ep66:GG (cut K) 66 65 Rx.c66 1=some ())
  (hp71:(cut K).lookup 71=some {cls:=.type "re.Pattern",data:=.fields (fsK (cut K) 71)}) (ep71:GG (cut K) 71 70 Rx.c71 1=some ())
  (hp76:(cut K).lookup 76=some {cls:=.type "re.Pattern",data:=.fields (fsK (cut K) 76)}) (ep76:GG (cut K) 76 75 Rx.c76 1=some ())
  (hp88:(cut K).lookup 88=some {cls:=.type "re.Pattern",data:=.fields (fsK (cut K) 88)}) (ep88:GG (cut K) 88 87 Rx.c88 0=some ())
  (hp93:(cut K).lookup 93=some {cls:=.type "re.Pattern",data:=.fields (fsK (cut K) 93)}) (ep93:GG (cut K) 93 92 Rx.c93 1=some ())
  (hp105:(cut K).lookup 105=some {cls:=.type "re.Pattern",data:=.fields (fsK (cut K) 105)}) (ep105:GG (cut K) 105 104 Rx.c105 0=some ())
  (hf56:(cut K).lookup 56=some (fnO (top 5) "unmatched" .none (pmK (cut K) 56) (cdK (cut K) 56))) (ef56:(codeIn (cut K) (.ref (cdK (cut K) 56)) "unmatched"&&At (AM (top 5)) (cdK (cut K) 56) "unmatched")=true)
  (hf83:(cut K).lookup 83=some (fnO (top 10) "split_header_words" .none (pmK (cut K) 83) (cdK (cut K) 83))) (ef83:(codeIn (cut K) (.ref (cdK (cut K) 83)) "split_header_words"&&At (AM (top 10)) (cdK (cut K) 83) "split_header_words")=true)
  (hf100:(cut K).lookup 100=some (fnO (top 13) "join_header_words" .none (pmK (cut K) 100) (cdK (cut K) 100))) (ef100:(codeIn (cut K) (.ref (cdK (cut K) 100)) "join_header_words"&&At (AM (top 13)) (cdK (cut K) 100) "join_header_words")=true)
  (hf119:(cut K).lookup 119=some (fnO (top 17) "_index" .none (pmK (cut K) 119) (cdK (cut K) 119))) (ef119:(codeIn (cut K) (.ref (cdK (cut K) 119)) "_index"&&At (AM (top 17)) (cdK (cut K) 119) "_index")=true)
  (hf430:(cut K).lookup 430=some (fnO (nth (AB (top 23)) 2) "StringIO.__translated" .none (pmK (cut K) 430) (cdK (cut K) 430))) (ef430:(codeIn (cut K) (.ref (cdK (cut K) 430)) "StringIO.__translated"&&At (AM (nth (AB (top 23)) 2)) (cdK (cut K) 430) "StringIO.__translated")=true)
  (hf437:(cut K).lookup 437=some (fnO (nth (AB (top 23)) 3) "StringIO.__check" .none (pmK (cut K) 437) (cdK (cut K) 437))) (ef437:(codeIn (cut K) (.ref (cdK (cut K) 437)) "StringIO.__check"&&At (AM (nth (AB (top 23)) 3)) (cdK (cut K) 437) "StringIO.__check")=true)
  (hf599:(cut K).lookup 599=some (fnO (nth (AB (top 23)) 25) "StringIO.read" (.ref 592) (pmK (cut K) 599) (cdK (cut K) 599))) (ef599:(codeIn (cut K) (.ref (cdK (cut K) 599)) "StringIO.read"&&At (AM (nth (AB (top 23)) 25)) (cdK (cut K) 599) "StringIO.read")=true)
  (hf719:(cut K).lookup 719=some (fnO (nth (AB (top 33)) 1) "shlex.punctuation_chars" .none (pmK (cut K) 719) (cdK (cut K) 719))) (ef719:(codeIn (cut K) (.ref (cdK (cut K) 719)) "shlex.punctuation_chars"&&At (AM (nth (AB (top 33)) 1)) (cdK (cut K) 719) "shlex.punctuation_chars")=true)
  (hf749:(cut K).lookup 749=some (fnO (nth (AB (top 33)) 5) "shlex.get_token" .none (pmK (cut K) 749) (cdK (cut K) 749))) (ef749:(codeIn (cut K) (.ref (cdK (cut K) 749)) "shlex.get_token"&&At (AM (nth (AB (top 33)) 5)) (cdK (cut K) 749) "shlex.get_token")=true)
  (hf756:(cut K).lookup 756=some (fnO (nth (AB (top 33)) 6) "shlex.read_token" .none (pmK (cut K) 756) (cdK (cut K) 756))) (ef756:(codeIn (cut K) (.ref (cdK (cut K) 756)) "shlex.read_token"&&At (AM (nth (AB (top 33)) 6)) (cdK (cut K) 756) "shlex.read_token")=true)
  (hf778:(cut K).lookup 778=some (fnO (nth (AB (top 33)) 9) "shlex.__iter__" .none (pmK (cut K) 778) (cdK (cut K) 778))) (ef778:(codeIn (cut K) (.ref (cdK (cut K) 778)) "shlex.__iter__"&&At (AM (nth (AB (top 33)) 9)) (cdK (cut K) 778) "shlex.__iter__")=true)
  (hf785:(cut K).lookup 785=some (fnO (nth (AB (top 33)) 10) "shlex.__next__" .none (pmK (cut K) 785) (cdK (cut K) 785))) (ef785:(codeIn (cut K) (.ref (cdK (cut K) 785)) "shlex.__next__"&&At (AM (nth (AB (top 33)) 10)) (cdK (cut K) 785) "shlex.__next__")=true)
  (hf799:(cut K).lookup 799=some (fnO (top 34) "join" .none (pmK (cut K) 799) (cdK (cut K) 799))) (ef799:(codeIn (cut K) (.ref (cdK (cut K) 799)) "join"&&At (AM (top 34)) (cdK (cut K) 799) "join")=true)
  (hf807:(cut K).lookup 807=some (fnO (top 37) "quote" .none (pmK (cut K) 807) (cdK (cut K) 807))) (ef807:(codeIn (cut K) (.ref (cdK (cut K) 807)) "quote"&&At (AM (top 37)) (cdK (cut K) 807) "quote")=true)
  (hf814:(cut K).lookup 814=some (fnO (top 39) "S_IMODE" .none (pmK (cut K) 814) (cdK (cut K) 814))) (ef814:(codeIn (cut K) (.ref (cdK (cut K) 814)) "S_IMODE"&&At (AM (top 39)) (cdK (cut K) 814) "S_IMODE")=true)
  (hf821:(cut K).lookup 821=some (fnO (top 40) "S_IFMT" .none (pmK (cut K) 821) (cdK (cut K) 821))) (ef821:(codeIn (cut K) (.ref (cdK (cut K) 821)) "S_IFMT"&&At (AM (top 40)) (cdK (cut K) 821) "S_IFMT")=true)
  (hf861:(cut K).lookup 861=some (fnO (top 61) "filemode" .none (pmK (cut K) 861) (cdK (cut K) 861))) (ef861:(codeIn (cut K) (.ref (cdK (cut K) 861)) "filemode"&&At (AM (top 61)) (cdK (cut K) 861) "filemode")=true)
  (hf868:(cut K).lookup 868=some (fnO (top 63) "_law_files" .none (pmK (cut K) 868) (cdK (cut K) 868))) (ef868:(codeIn (cut K) (.ref (cdK (cut K) 868)) "_law_files"&&At (AM (top 63)) (cdK (cut K) 868) "_law_files")=true)
  (hf875:(cut K).lookup 875=some (fnO (top 64) "_law_tokens" .none (pmK (cut K) 875) (cdK (cut K) 875))) (ef875:(codeIn (cut K) (.ref (cdK (cut K) 875)) "_law_tokens"&&At (AM (top 64)) (cdK (cut K) 875) "_law_tokens")=true)
  (hf880:(cut K).lookup 880=some (fnO (top 65) "_law_written" .none (pmK (cut K) 880) (cdK (cut K) 880))) (ef880:(codeIn (cut K) (.ref (cdK (cut K) 880)) "_law_written"&&At (AM (top 65)) (cdK (cut K) 880) "_law_written")=true)
  (hf887:(cut K).lookup 887=some (fnO (top 66) "_law_entry" .none (pmK (cut K) 887) (cdK (cut K) 887))) (ef887:(codeIn (cut K) (.ref (cdK (cut K) 887)) "_law_entry"&&At (AM (top 66)) (cdK (cut K) 887) "_law_entry")=true)
  (hf894:(cut K).lookup 894=some (fnO (top 67) "_law_rights" .none (pmK (cut K) 894) (cdK (cut K) 894))) (ef894:(codeIn (cut K) (.ref (cdK (cut K) 894)) "_law_rights"&&At (AM (top 67)) (cdK (cut K) 894) "_law_rights")=true)
  (hf899:(cut K).lookup 899=some (fnO (top 68) "law" .none (pmK (cut K) 899) (cdK (cut K) 899))) (ef899:(codeIn (cut K) (.ref (cdK (cut K) 899)) "law"&&At (AM (top 68)) (cdK (cut K) 899) "law")=true)
  (d592:(cut K).lookup 592=some (B2 [(sqK (cut K) 592).getD 0 .none] (sqN (cut K) 592)))
  (h149:(cut K).lookup 149=some ⟨.type "type",odK (cut K) 149,.cls {name:=(clK (cut K) 149).name,bases:=[.type "object"],mro:=[.ref 149,.type "object"],ns:=(clK (cut K) 149).ns,qualname:=(clK (cut K) 149).qualname,hasDict:=true,slotNames:=[],subclasses:=(clK (cut K) 149).subclasses,abstract:=false,collection:=(clK (cut K) 149).collection,hasDel:=false},slK (cut K) 149⟩) (e149:(slK (cut K) 149)[4]?=some (some .none))
  (h176:(cut K).lookup 176=some ⟨.type "type",odK (cut K) 176,.cls {name:=(clK (cut K) 176).name,bases:=[.ref 149],mro:=[.ref 176,.ref 149,.type "object"],ns:=(clK (cut K) 176).ns,qualname:=(clK (cut K) 176).qualname,hasDict:=true,slotNames:=[],subclasses:=(clK (cut K) 176).subclasses,abstract:=false,collection:=(clK (cut K) 176).collection,hasDel:=false},slK (cut K) 176⟩) (e176:(slK (cut K) 176)[4]?=some (some .none))
  (h653:(cut K).lookup 653=some ⟨.type "type",odK (cut K) 653,.cls {name:=(clK (cut K) 653).name,bases:=[.ref 176],mro:=[.ref 653,.ref 176,.ref 149,.type "object"],ns:=(clK (cut K) 653).ns,qualname:=(clK (cut K) 653).qualname,hasDict:=true,slotNames:=[],subclasses:=(clK (cut K) 653).subclasses,abstract:=false,collection:=(clK (cut K) 653).collection,hasDel:=false},slK (cut K) 653⟩) (e653:(slK (cut K) 653)[4]?=some (some .none))
  (c406:((cut K).lookup 406).isSome=true)
  (t653:instIn (cut K) (.ref 653) (.type "type")=some true)
  (s653:subIn (cut K) (.ref 653) (.type "object")=some true)
  (o653:subIn (cut K) (.ref 653) (.ref 653)=some true)
  (k653:specialIn (cut K) (.ref 653) "__call__"=some (some (.builtin "type.__call__")))
  (r653:readsIn (cut K) 653 (.type "type")=true)
  (n653:findCls (cut K) (.ref 653) (.type "type") "__new__"=some (.get (.builtin "staticmethod.__get__") (.ref 150) .none (.ref 653)))
  (p150:recIn (cut K) 150 "staticmethod"=some (.ref 146::((recIn (cut K) 150 "staticmethod").getD []).drop 1))
  (h146:handedIn (.ref 146)=true)
  (hf146:(cut K).lookup 146=some (fnO (nth (AB (top 19)) 1) "IOBase.__new__" .none (pmK (cut K) 146) (cdK (cut K) 146))) (ef146:(codeIn (cut K) (.ref (cdK (cut K) 146)) "IOBase.__new__"&&At (AM (nth (AB (top 19)) 1)) (cdK (cut K) 146) "IOBase.__new__")=true)
  (hf423:(cut K).lookup 423=some (fnO (nth (AB (top 23)) 1) "StringIO.__init__" (.ref 416) (pmK (cut K) 423) (cdK (cut K) 423))) (ef423:(codeIn (cut K) (.ref (cdK (cut K) 423)) "StringIO.__init__"&&At (AM (nth (AB (top 23)) 1)) (cdK (cut K) 423) "StringIO.__init__")=true)
  (d416:(cut K).lookup 416=some (B2 [.str "" (tokK ((sqK (cut K) 416).getD 0 .none)),.str "\n" (tokK ((sqK (cut K) 416).getD 1 .none))] (sqN (cut K) 416)))
  (i653:findIn (cut K) (.ref 653) "__init__"=some (some (.ref 423)))
  (keep653:keepIn (cut K) (.ref 653)=true)
  (m788:makesIn (cut K) 788=true)
  (keep788:keepIn (cut K) (.ref 788)=true)
  (hf712:(cut K).lookup 712=some (fnO (nth (AB (top 33)) 0) "shlex.__init__" (.ref 705) (pmK (cut K) 712) (cdK (cut K) 712))) (ef712:(codeIn (cut K) (.ref (cdK (cut K) 712)) "shlex.__init__"&&At (AM (nth (AB (top 33)) 0)) (cdK (cut K) 712) "shlex.__init__")=true)
  (d705:(cut K).lookup 705=some (B2 [.none,.none,.bool false,.bool false] (sqN (cut K) 705)))
  (i788:findIn (cut K) (.ref 788) "__init__"=some (some (.ref 712)))
  (it788:findIn (cut K) (.ref 788) "__iter__"=some (some (.ref 778)))
  (nx788:findIn (cut K) (.ref 788) "__next__"=some (some (.ref 785)))
  (len788:findIn (cut K) (.ref 788) "__len__"=some none)
  (hint788:findIn (cut K) (.ref 788) "__length_hint__"=some none)
  (oga:findIn (cut K) (.type "type") "__getattribute__"=some (some (.builtin "type.__getattribute__")))
  (ohb:(if onTheHeap (.type "type") then findIn (cut K) (.type "type") "__getattr__" else some none)=some none)
  (ohi:subIn (cut K) (.type "type") (.type "type")=some true)
  (ogo:findCls (cut K) (.type "object") (.type "type") "__new__"=some (.val (.builtin "object.__new__")))
  (ohh:handedIn (.builtin "object.__new__")=true)
  (k800:(cut K).lookup 800=some ⟨.type "builtin_function_or_method",none,.fields #[.builtin "re.Pattern.search",.ref 105],#[]⟩)
  (c82:codeHdIn (cut K) 82 78=true)
  (c99:codeHdIn (cut K) 99 95=true)
  (c798:codeHdIn (cut K) 798 794=true)
  (gl:Ky (cut K)=some ())
  (law:nsIn (cut K) 3 "law"=some (some (.ref 899)))
  (t78:K.lookup 78=some (tabObj #[]))
  (t95:K.lookup 95=some (tabObj #[]))
  (t794:K.lookup 794=some (tabObj #[])):Facts K :=
 ⟨⟨g,r,fun Z as hz=>is_of hz 5 _ _ ft,lim_of lim,Cj hp49 ep49,Cj hp61 ep61,Cj hp66 ep66,Cj hp71 ep71,Cj hp76 ep76,Cj hp88 ep88,Cj hp93 ep93,Cj hp105 ep105,Aw hf56 ef56,Aw hf83 ef83,Aw hf100 ef100,Aw hf119 ef119,Aw hf430 ef430,Aw hf437 ef437,Aw hf599 ef599,Aw hf719 ef719,Aw hf749 ef749,Aw hf756 ef756,Aw hf778 ef778,Aw hf785 ef785,Aw hf799 ef799,Aw hf807 ef807,Aw hf814 ef814,Aw hf821 ef821,Aw hf861 ef861,Aw hf868 ef868,Aw hf875 ef875,Aw hf880 ef880,Aw hf887 ef887,Aw hf894 ef894,Aw hf899 ef899⟩,⟨⟨_,_,d592⟩⟩,⟨IL h149 e149,IL h176 e176,IL h653 e653,Option.isSome_iff_exists.mp c406,t653,s653,o653,k653,r653,n653,⟨_,p150⟩,h146,Aw hf146 ef146,Aw hf423 ef423,⟨_,_,_,d416⟩,i653,keep653,m788,keep788,Aw hf712 ef712,⟨_,d705⟩,i788,it788,nx788,len788,hint788⟩,⟨oga,ohb,ohi,ogo,ohh⟩,⟨k800⟩,c82,c99,c798,gl,law,t78,t95,t794⟩
end Mine
end
end
open PySem PySem.W PySem.W.X PyProof.Rows
set_option Elab.async true
set_option maxRecDepth 100000
set_option maxHeartbeats 0
namespace Mine
section
variable (p:Prop)(h:p)
include h
theorem head.tw6474009502463322548:p:=h
theorem head.tw9004299480658224545:p:=h
theorem head.tw13709171453431284056:p:=h
theorem head.tw13264656546505456877:p:=h
theorem head.tw1278535851000159372:p:=h
theorem head.tw6184577078925756225:p:=h
theorem head.tw18060488143210765247:p:=h
theorem head.tw14818060551437736151:p:=h
theorem head.tw15257777307251433950:p:=h
theorem head.tw13335025841360890868:p:=h
theorem head.tw11938732794620770041:p:=h
theorem head.tw11594179093838686107:p:=h
theorem head.tw14869660450943532240:p:=h
theorem head.tw13909241206334418904:p:=h
theorem head.tw13412022041919118725:p:=h
theorem head.tw8063128913528701915:p:=h
theorem head.tw4193606323709125858:p:=h
theorem head.tw4090538686069576298:p:=h
theorem head.tw2008751713035276772:p:=h
theorem head.tw10009871244118513402:p:=h
theorem head.tw3763106015817014354:p:=h
theorem head.tw18264441199730398920:p:=h
theorem head.tw9851633324533329740:p:=h
theorem head.tw1401139394160673004:p:=h
theorem head.tw9631839687265896505:p:=h
theorem head.tw11892436614613694032:p:=h
theorem head.tw15682741785845805564:p:=h
theorem head.tw11808996689058197189:p:=h
theorem head.tw9258293945399652946:p:=h
theorem head.tw12564640927703296245:p:=h
theorem head.tw14922436083285072407:p:=h
theorem head.tw10042047710758752311:p:=h
theorem head.tw15022480046535758418:p:=h
theorem head.tw4967071435590096275:p:=h
theorem head.tw17140849054598882095:p:=h
theorem head.tw17890245599415353634:p:=h
theorem head.tw17573037796337583832:p:=h
theorem head.tw1766074496371839085:p:=h
theorem head.tw17037872496334206203:p:=h
theorem head.tw10637405514072869310:p:=h
theorem head.tw827875400781611141:p:=h
theorem head.tw8534208459206503383:p:=h
theorem head.tw14205479233844494046:p:=h
theorem head.tw13697588214506672789:p:=h
theorem head.tw1172538174109094731:p:=h
theorem head.tw14768688571040804171:p:=h
theorem head.tw14429822130985059091:p:=h
theorem head.tw7748693106545578708:p:=h
theorem head.tw2393937325987436248:p:=h
theorem head.tw17656934378706918695:p:=h
theorem head.tw6731557136300432596:p:=h
theorem head.tw1519320592345488741:p:=h
theorem head.tw17993767162375566018:p:=h
theorem head.tw12321676766767419452:p:=h
theorem head.tw1146124256749630112:p:=h
theorem head.tw15392136045813129965:p:=h
theorem head.tw11274228538900641214:p:=h
theorem head.tw2400818531096893172:p:=h
theorem head.tw5111174896325423537:p:=h
theorem head.tw1522823579158628613:p:=h
theorem head.tw12987040726578829979:p:=h
theorem head.tw6522505103286579628:p:=h
theorem head.tw11819297519747316193:p:=h
theorem head.tw12740806245664736207:p:=h
theorem head.tw748731779930912776:p:=h
theorem head.tw13942192884097748152:p:=h
theorem head.tw16894561301568121468:p:=h
theorem head.tw1970811146720035896:p:=h
theorem head.tw14788773977795034992:p:=h
theorem head.tw12875325457547866274:p:=h
theorem head.tw9658139154387788515:p:=h
theorem head.tw9777900189565919194:p:=h
theorem head.tw300626226527484142:p:=h
theorem head.tw12903917746401883607:p:=h
theorem head.tw3164961170700492040:p:=h
theorem head.tw12949380547846470161:p:=h
theorem head.tw13227620805987009915:p:=h
theorem head.tw4964814941381164201:p:=h
theorem head.tw7732209734871044160:p:=h
theorem head.tw13917482298092908234:p:=h
theorem head.tw13504307299585405616:p:=h
theorem head.tw1786199778172832133:p:=h
theorem head.tw10730805705081004914:p:=h
theorem head.tw13945387117129643743:p:=h
theorem head.tw15564447279633807951:p:=h
theorem head.tw7096138990903361605:p:=h
theorem head.tw9259982139148825551:p:=h
theorem head.tw9613649512242289415:p:=h
theorem head.tw15785421084128741142:p:=h
theorem head.tw5915552362696249034:p:=h
theorem head.tw6202622434921078099:p:=h
theorem head.tw1756991915124769162:p:=h
theorem head.tw14862789650711617903:p:=h
theorem head.tw16974685034882416825:p:=h
theorem head.tw15037083628117588352:p:=h
theorem head.tw18288814570308119955:p:=h
theorem head.tw5274623360512300857:p:=h
theorem head.tw11174109409328508052:p:=h
theorem head.tw139141181571183326:p:=h
theorem head.tw17156091980717111821:p:=h
theorem head.tw11338825007792423415:p:=h
theorem head.tw2525317073905713282:p:=h
theorem head.tw17002534310236347988:p:=h
theorem head.tw8550467674348477657:p:=h
theorem head.tw14746898714274692784:p:=h
theorem head.tw1748456618969930982:p:=h
theorem head.tw17950832640192817989:p:=h
theorem head.tw1662426559620638255:p:=h
theorem head.tw8169693465737517768:p:=h
theorem head.tw10504981510240967646:p:=h
theorem head.tw8251012268138292781:p:=h
theorem head.tw1618804561499322139:p:=h
theorem head.tw709382114072422158:p:=h
theorem head.tw2654071559806073891:p:=h
theorem head.tw10519217271611395807:p:=h
theorem head.tw7659462814917621580:p:=h
theorem head.tw907359911958329709:p:=h
theorem head.tw15873191416987729925:p:=h
theorem head.tw9867840190021597282:p:=h
theorem head.tw6237802210402583469:p:=h
theorem head.tw15895551434495452948:p:=h
theorem head.tw970343815744155046:p:=h
theorem head.tw3383483231816665885:p:=h
theorem head.tw8097174177036852075:p:=h
theorem head.tw15142167089309388077:p:=h
theorem head.tw13800718416732639697:p:=h
theorem head.tw11105056867450500199:p:=h
theorem head.tw9283198456625565208:p:=h
theorem head.tw13065621461132903086:p:=h
theorem head.tw8943219189493157100:p:=h
theorem head.tw4576125674228380541:p:=h
theorem head.tw5207666765276788736:p:=h
theorem head.tw8912104118211102971:p:=h
theorem head.tw7273171245171862726:p:=h
theorem head.tw14277528927401260903:p:=h
theorem head.tw2646132237282668844:p:=h
theorem head.tw14527164170590304321:p:=h
theorem head.tw11832286021011277632:p:=h
theorem head.tw4585157591006285545:p:=h
theorem head.tw3036241240919172538:p:=h
theorem head.tw4307260679431091991:p:=h
theorem head.tw5408759939109034304:p:=h
theorem head.tw2509309528272606033:p:=h
theorem head.tw5099815926951027273:p:=h
theorem head.tw18310999140377845807:p:=h
theorem head.tw4405734404675932169:p:=h
theorem head.tw7805308653706644653:p:=h
theorem head.tw11060938730435951684:p:=h
theorem head.tw12968789087887523488:p:=h
theorem head.tw7371769130230140759:p:=h
theorem head.tw15940594274977518605:p:=h
theorem head.tw16147773483419461110:p:=h
theorem head.tw11205139923216389444:p:=h
theorem head.tw3683849354774822018:p:=h
theorem head.tw14104759470709270248:p:=h
theorem head.tw17348764703882912863:p:=h
theorem head.tw45052839361067614:p:=h
theorem head.tw1693818546310300448:p:=h
theorem head.tw6910089277995645325:p:=h
theorem head.tw4023466491090337370:p:=h
theorem head.tw3340124654517525194:p:=h
theorem head.tw10451821566800517634:p:=h
theorem head.tw15841401105113185080:p:=h
theorem head.tw5515381820778694223:p:=h
theorem head.tw6998559339924560668:p:=h
theorem head.tw13276723143375012678:p:=h
theorem head.tw7181452741857391679:p:=h
theorem head.tw2249667046024356820:p:=h
theorem head.tw2827021870679369124:p:=h
theorem head.tw4318500180640689126:p:=h
theorem head.tw9273458967167524031:p:=h
theorem head.tw10426859654452684020:p:=h
theorem head.tw1138260710269047722:p:=h
theorem head.tw3992011083438502848:p:=h
theorem head.tw18332285231265401824:p:=h
theorem head.tw14565420633037775528:p:=h
theorem head.tw1966224132733831507:p:=h
theorem head.tw1134157569726261602:p:=h
theorem head.tw16714887947964762639:p:=h
theorem head.tw2215141052601409286:p:=h
theorem head.tw429360371587058901:p:=h
theorem head.tw14991204734680858245:p:=h
theorem head.tw14512941343882779238:p:=h
theorem head.tw10822531164399349864:p:=h
theorem head.tw4433315090154635215:p:=h
theorem head.tw10684947817400768537:p:=h
theorem head.tw1381594601493289604:p:=h
theorem head.tw11471050873846516349:p:=h
theorem head.tw13859754093114378888:p:=h
theorem head.tw16291991722392533869:p:=h
theorem head.tw5271886537152271918:p:=h
theorem head.tw4090201507572337743:p:=h
theorem head.tw851385035628625539:p:=h
theorem head.tw7876399200375917224:p:=h
theorem head.tw885202993799890803:p:=h
theorem head.tw6846597200999610202:p:=h
theorem head.tw5916404902352869828:p:=h
theorem head.tw4018983750718401802:p:=h
theorem head.tw1992862871153497056:p:=h
theorem head.tw5061997093462229610:p:=h
theorem head.tw11484608749488816599:p:=h
theorem head.tw12939878819322033723:p:=h
theorem head.tw10371985647062452541:p:=h
theorem head.tw17297054508065495485:p:=h
theorem head.tw2232109503444375002:p:=h
theorem head.tw14417885227837004991:p:=h
theorem head.tw6595020158993437323:p:=h
theorem head.tw17500296345995233239:p:=h
theorem head.tw10947310743691471603:p:=h
theorem head.tw3401221922045585347:p:=h
theorem head.tw3373186493835907734:p:=h
theorem head.tw11191537425599765347:p:=h
theorem head.tw3991279037241028524:p:=h
theorem head.tw13155793795082684968:p:=h
theorem head.tw9945311577253221374:p:=h
theorem head.tw4746297304354101679:p:=h
theorem head.tw5638641105361425916:p:=h
theorem head.tw11308087075614649832:p:=h
theorem head.tw5182153607120983317:p:=h
theorem head.tw1608297297296620843:p:=h
theorem head.tw8796753266530204203:p:=h
theorem head.tw5751227541892866231:p:=h
theorem head.tw4239589573987675453:p:=h
theorem head.tw5927865893512547691:p:=h
theorem head.tw15520248196984853422:p:=h
theorem head.tw1919001801439425371:p:=h
theorem head.tw3237135039613645353:p:=h
theorem head.tw6737735255597943219:p:=h
theorem head.tw16326560665589428798:p:=h
theorem head.tw17788742646020836255:p:=h
theorem head.tw778927853757940227:p:=h
theorem head.tw18192872963121912645:p:=h
theorem head.tw1344716296598748285:p:=h
theorem head.tw3770293899657039488:p:=h
theorem head.tw9748338993533464345:p:=h
theorem head.tw9325057278558614444:p:=h
theorem head.tw17190349231170142043:p:=h
theorem head.tw9449176361245260279:p:=h
theorem head.tw9318794584737855082:p:=h
theorem head.tw12095829319087573521:p:=h
theorem head.tw11427066125472700054:p:=h
theorem head.tw8216834362191484069:p:=h
theorem head.tw13534822741570663017:p:=h
theorem head.tw14959218684248593190:p:=h
theorem head.tw5986637957666399235:p:=h
theorem head.tw17304152732226823993:p:=h
theorem head.tw15001418939266856263:p:=h
theorem head.tw3304075619188804072:p:=h
theorem head.tw11097941207591946120:p:=h
theorem head.tw1588943658860677225:p:=h
theorem head.tw18215824643853355119:p:=h
theorem head.tw9464831228461672588:p:=h
theorem head.tw1062042127530464391:p:=h
theorem head.tw5723944856813171866:p:=h
theorem head.tw5129616035191883695:p:=h
theorem head.tw10317212456122042642:p:=h
theorem head.tw9777841548286773677:p:=h
theorem head.tw3027932573228621659:p:=h
theorem head.tw16966009324859112401:p:=h
theorem head.tw11923155195566972133:p:=h
theorem head.tw1211024037004892549:p:=h
theorem head.tw8773370040425892893:p:=h
theorem head.tw18177109656662797139:p:=h
theorem head.tw11849420070602536199:p:=h
theorem head.tw12339793173418651155:p:=h
theorem head.tw9625377726130185387:p:=h
theorem head.tw17194126546080390198:p:=h
theorem head.tw5392078452651409485:p:=h
theorem head.tw12460202669355646752:p:=h
theorem head.tw11544532188706048022:p:=h
theorem head.tw11124748197601291601:p:=h
theorem head.tw4970867117241601791:p:=h
theorem head.tw5240702290290941181:p:=h
theorem head.tw6226413525154113608:p:=h
theorem head.tw15898109809663626304:p:=h
theorem head.tw13537664574400122534:p:=h
theorem head.tw5104563664521345299:p:=h
theorem head.tw4154363929692500862:p:=h
theorem head.tw1318689175770300589:p:=h
theorem head.tw12324890628731678277:p:=h
theorem head.tw9997931420998421608:p:=h
theorem head.tw6763335052953634553:p:=h
theorem head.tw11052631288978436188:p:=h
theorem head.tw6562009823351158392:p:=h
theorem head.tw2066564036433440168:p:=h
theorem head.tw4991397462208424806:p:=h
theorem head.tw13249071542605338262:p:=h
theorem head.tw3321875119742208626:p:=h
theorem head.tw6846866878297920324:p:=h
theorem head.tw3368030927266983236:p:=h
theorem head.tw14028522991509751376:p:=h
theorem head.tw17836260108008149386:p:=h
theorem head.tw604627371996746742:p:=h
theorem head.tw13353151263460963528:p:=h
theorem head.tw4888651370562247491:p:=h
theorem head.tw8988664977312594650:p:=h
theorem head.tw6604829842348296887:p:=h
theorem head.tw6327039764776113722:p:=h
theorem head.tw1315816938146588887:p:=h
theorem head.tw10059252607514160932:p:=h
theorem head.tw2954648481479915241:p:=h
theorem head.tw8409189969818401543:p:=h
theorem head.tw5869485362099743711:p:=h
theorem head.tw16385634705727604063:p:=h
theorem head.tw12120646240234225243:p:=h
theorem head.tw17826015225549371706:p:=h
theorem head.tw14646466228836335164:p:=h
theorem head.tw10936905620487946977:p:=h
theorem head.tw13600378441667735501:p:=h
theorem head.tw12344544660321961925:p:=h
theorem head.tw13295774097974887486:p:=h
theorem head.tw14306030232151103276:p:=h
theorem head.tw17007033763367706731:p:=h
theorem head.tw5117632248294077693:p:=h
theorem head.tw4976181008148175253:p:=h
theorem head.tw140066278072042493:p:=h
theorem head.tw14220653579789841498:p:=h
theorem head.tw2118377178292867602:p:=h
theorem head.tw3616486834168423931:p:=h
theorem head.tw16272097951300814418:p:=h
theorem head.tw17486074103640542121:p:=h
theorem head.tw17905491414393134947:p:=h
theorem head.tw17339705970751849611:p:=h
theorem head.tw5901594920499545818:p:=h
theorem head.tw12182850187970735909:p:=h
theorem head.tw7940748693946456147:p:=h
theorem head.tw8838475285390394957:p:=h
theorem head.tw4419558321834357505:p:=h
theorem head.tw12851702773856589430:p:=h
theorem head.tw13357441389134331599:p:=h
theorem head.tw5346772772824661884:p:=h
theorem head.tw2350586252961548244:p:=h
theorem head.tw10457615780465708087:p:=h
theorem head.tw16828514060538661750:p:=h
theorem head.tw17784522201281872271:p:=h
theorem head.tw13653928888864918839:p:=h
theorem head.tw13605870324054321959:p:=h
theorem head.tw7704315382344345624:p:=h
theorem head.tw14676189674455941282:p:=h
theorem head.tw12841863872788715202:p:=h
theorem head.tw9743709737119245314:p:=h
theorem head.tw3404819636646143723:p:=h
theorem head.tw18176413224385145225:p:=h
theorem head.tw17371765431496345816:p:=h
theorem head.tw8497721794823489343:p:=h
theorem head.tw13510609219080548989:p:=h
theorem head.tw779419810087314491:p:=h
theorem head.tw15638870477510070732:p:=h
theorem head.tw2096541523181747872:p:=h
theorem head.tw7277520189549225825:p:=h
theorem head.tw3270352941656771521:p:=h
theorem head.tw14078167904914714981:p:=h
theorem head.tw14432977821161478157:p:=h
theorem head.tw1319983325249436295:p:=h
theorem head.tw11704837465938651953:p:=h
theorem head.tw12775505166333009402:p:=h
theorem head.tw1626232751844553403:p:=h
theorem head.tw4068010885799345606:p:=h
theorem head.tw16169396229317227677:p:=h
theorem head.tw17197444120159719569:p:=h
theorem head.tw9702098958229961203:p:=h
theorem head.tw497287684792784471:p:=h
theorem head.tw6507506987150044280:p:=h
theorem head.tw7090939061502383884:p:=h
theorem head.tw13493040973935190459:p:=h
theorem head.tw6568496029643798928:p:=h
theorem head.tw14946772226789246504:p:=h
theorem head.tw1472379273497163797:p:=h
theorem head.tw16582591585412914238:p:=h
theorem head.tw7392004362435642628:p:=h
theorem head.tw380116879960591498:p:=h
theorem head.tw14427283581363961175:p:=h
theorem head.tw3290047583113660281:p:=h
theorem head.tw17129914584562691343:p:=h
theorem head.tw7960053054240918295:p:=h
theorem head.tw3863384581746538084:p:=h
theorem head.tw11715283913529211631:p:=h
theorem head.tw13999681649124312864:p:=h
theorem head.tw90575161674971029:p:=h
theorem head.tw5697773043789114877:p:=h
theorem head.tw532055438628499158:p:=h
theorem head.tw17821319399108415887:p:=h
theorem head.tw5319049981483164881:p:=h
theorem head.tw10005452208157733855:p:=h
theorem head.tw8627200689577751383:p:=h
theorem head.tw1389810093214676884:p:=h
theorem head.tw5593727005144783397:p:=h
theorem head.tw3496171461512900480:p:=h
theorem head.tw12426494806717462923:p:=h
theorem head.tw8182079617134344778:p:=h
theorem head.tw12201952087667049370:p:=h
theorem head.tw1906429620130506887:p:=h
theorem head.tw12611893724949602041:p:=h
theorem head.tw12601080634535202701:p:=h
theorem head.tw8758324158161630591:p:=h
theorem head.tw3390878434225100092:p:=h
theorem head.tw4857777746444614323:p:=h
theorem head.tw8299393411229908732:p:=h
theorem head.tw5764705848585077094:p:=h
theorem head.tw2599346099135257874:p:=h
theorem head.tw3715144110773694964:p:=h
theorem head.tw16446913148795680959:p:=h
theorem head.tw527386997569798941:p:=h
theorem head.tw801906712849415907:p:=h
theorem head.tw10021064610941686981:p:=h
theorem head.tw4965378191221513410:p:=h
theorem head.tw3821945547825155762:p:=h
theorem head.tw14982685227137828758:p:=h
theorem head.tw17017319662998615:p:=h
theorem head.tw6379358179555706155:p:=h
theorem head.tw17522360388414511382:p:=h
theorem head.tw10573961123116132518:p:=h
theorem head.tw6847273489543275152:p:=h
theorem head.tw14877080517539528568:p:=h
theorem head.tw6202090305015876224:p:=h
theorem head.tw11914187763297459524:p:=h
theorem head.tw10735254221757914791:p:=h
theorem head.tw2521584445584981976:p:=h
theorem head.tw10948677003083999065:p:=h
theorem head.tw13295082483830516422:p:=h
theorem head.tw1909714482019496454:p:=h
theorem head.tw15978427065635505109:p:=h
theorem head.tw7396500232308049434:p:=h
theorem head.tw16888070154925205155:p:=h
theorem head.tw17854890406432584798:p:=h
theorem head.tw6870361546347238192:p:=h
theorem head.tw3122906425038022637:p:=h
theorem head.tw15840312062823119879:p:=h
theorem head.tw17577399041416155939:p:=h
theorem head.tw14740928361383774428:p:=h
theorem head.tw13213268828098156179:p:=h
theorem head.tw3651205649096709438:p:=h
theorem head.tw4389056084150536348:p:=h
theorem head.tw739537129135343663:p:=h
theorem head.tw11434997419882176723:p:=h
theorem head.tw16659920880120507502:p:=h
theorem head.tw13379202705063549618:p:=h
theorem head.tw11732908120936727654:p:=h
theorem head.tw296098139891345163:p:=h
theorem head.tw7415321957212557323:p:=h
theorem head.tw3501597964444990463:p:=h
theorem head.tw11862927689305589065:p:=h
theorem head.tw8172283286065499403:p:=h
theorem head.tw5111550220656817904:p:=h
theorem head.tw15452280279296900796:p:=h
theorem head.tw2973143901146584636:p:=h
theorem head.tw12244833863542804788:p:=h
theorem head.tw3880867118405822719:p:=h
theorem head.tw11180365069992382532:p:=h
theorem head.tw9142320679590124636:p:=h
theorem head.tw10510183946089719056:p:=h
theorem head.tw15895748673760503845:p:=h
theorem head.tw431432454858452961:p:=h
theorem head.tw12280473595433404654:p:=h
theorem head.tw5881713671565795756:p:=h
theorem head.tw14241001667801471300:p:=h
theorem head.tw17894702793023417833:p:=h
theorem head.tw2241628862621589225:p:=h
theorem head.tw17113217626458354986:p:=h
theorem head.tw15271745096719814637:p:=h
theorem head.tw8234971438303653646:p:=h
theorem head.tw18364922244981856966:p:=h
theorem head.tw1995287165650055613:p:=h
theorem head.tw5407718363533321033:p:=h
theorem head.tw15215111219801757744:p:=h
theorem head.tw18081138779251354973:p:=h
theorem head.tw15052771764104931649:p:=h
theorem head.tw13002585709282622103:p:=h
theorem head.tw1718890006036334650:p:=h
theorem head.tw14344768424176206936:p:=h
theorem head.tw9553506758532729402:p:=h
theorem head.tw15256841493749336786:p:=h
theorem head.tw4691952243595246448:p:=h
theorem head.tw6099028997845504075:p:=h
theorem head.tw999222835498014148:p:=h
theorem head.tw6307057079134178644:p:=h
theorem head.tw17287069475806534740:p:=h
theorem head.tw1061700454162486011:p:=h
theorem head.tw10746725682022337571:p:=h
theorem head.tw1489404036187247834:p:=h
theorem head.tw12212823987433534256:p:=h
theorem head.tw8570663504987218829:p:=h
theorem head.tw11998209505049934977:p:=h
theorem head.tw11692735721529064706:p:=h
theorem head.tw2554682012703037696:p:=h
theorem head.tw6537005125616958552:p:=h
theorem head.tw10872037306656784433:p:=h
theorem head.tw2825341998796452840:p:=h
theorem head.tw2591067827882107080:p:=h
theorem head.tw2760189568479381244:p:=h
theorem head.tw15399148058966210843:p:=h
theorem head.tw7656372460463219624:p:=h
theorem head.tw14127983276867164173:p:=h
theorem head.tw16530349751119242087:p:=h
theorem head.tw1425459126675767727:p:=h
theorem head.tw2035680199648653684:p:=h
theorem head.tw17444863063712431705:p:=h
theorem head.tw820421773197932041:p:=h
theorem head.tw6174258528820157971:p:=h
theorem head.tw708152393587867187:p:=h
theorem head.tw16962450398199861240:p:=h
theorem head.tw11255790879490906821:p:=h
theorem head.tw7150722627226208844:p:=h
theorem head.tw12428389735305899900:p:=h
theorem head.tw807142644699662319:p:=h
theorem head.tw10698650227242318774:p:=h
theorem head.tw16782820856776367440:p:=h
theorem head.tw4874392174073282168:p:=h
theorem head.tw7421959067914383049:p:=h
theorem head.tw6684978435548883818:p:=h
theorem head.tw8518231567759158271:p:=h
theorem head.tw17093656651364094606:p:=h
theorem head.tw7575806435727305068:p:=h
theorem head.tw16014373381606645092:p:=h
theorem head.tw1858156416291392539:p:=h
theorem head.tw5141578139466067413:p:=h
theorem head.tw5353729903917744248:p:=h
theorem head.tw1971652810694446911:p:=h
theorem head.tw6836608696283027097:p:=h
theorem head.tw15666658371737129944:p:=h
theorem head.tw16652688526520581961:p:=h
theorem head.tw3973953319845086491:p:=h
theorem head.tw16441004959143088680:p:=h
theorem head.tw16481179823495478772:p:=h
theorem head.tw13673146470031054802:p:=h
theorem head.tw5019597260055213698:p:=h
theorem head.tw6343081548495622777:p:=h
theorem head.tw2529948359932261575:p:=h
theorem head.tw11485113708198979986:p:=h
theorem head.tw9682625523605357890:p:=h
theorem head.tw14086173767186703872:p:=h
theorem head.tw17988201657351507238:p:=h
theorem head.tw11925700103697007601:p:=h
theorem head.tw6053997905714604814:p:=h
theorem head.tw8895791426145780158:p:=h
theorem head.tw2506711637615833298:p:=h
theorem head.tw15171285062763278426:p:=h
theorem head.tw4277651752456152607:p:=h
theorem head.tw9407594320385231609:p:=h
theorem head.tw5064764789634828332:p:=h
theorem head.tw13637325136056909300:p:=h
theorem head.tw5973763720392745831:p:=h
theorem head.tw11290360913936777911:p:=h
theorem head.tw573967197379146972:p:=h
theorem head.tw2237326684586592538:p:=h
theorem head.tw3690969761935527329:p:=h
theorem head.tw1660877005871194693:p:=h
theorem head.tw16647155751929229394:p:=h
theorem head.tw3062044705579621278:p:=h
theorem head.tw10510622979536455646:p:=h
theorem head.tw2007852463679175192:p:=h
theorem head.tw1056085985882870562:p:=h
theorem head.tw3264716943610762504:p:=h
theorem head.tw16894393574925625578:p:=h
theorem head.tw16106133796442146334:p:=h
theorem head.tw14999265807660949796:p:=h
theorem head.tw12630350610049390935:p:=h
theorem head.tw15506723302920939300:p:=h
theorem head.tw18100283295969611417:p:=h
theorem head.tw6157079530059567975:p:=h
theorem head.tw10265929125382437317:p:=h
theorem head.tw14524160177008508720:p:=h
theorem head.tw14061139507663348314:p:=h
theorem head.tw7046380642943354848:p:=h
theorem head.tw6426539377367359892:p:=h
theorem head.tw1214346256449528893:p:=h
theorem head.tw7417405269818204032:p:=h
theorem head.tw9353324838224930552:p:=h
theorem head.tw10402926801511590149:p:=h
theorem head.tw10431609616501453582:p:=h
theorem head.tw2800570052845255841:p:=h
theorem head.tw6342581108930332356:p:=h
theorem head.tw9966027542202029443:p:=h
theorem head.tw12362083183470981646:p:=h
theorem head.tw11629762434490789354:p:=h
theorem head.tw15035418422258542911:p:=h
theorem head.tw9987851973559822609:p:=h
theorem head.tw48543519692965452:p:=h
theorem head.tw14234965402570480558:p:=h
theorem head.tw5038994553942263901:p:=h
theorem head.tw6298033893332097587:p:=h
theorem head.tw1082313596108445148:p:=h
theorem head.tw10706776884845955466:p:=h
theorem head.tw16111715859725283846:p:=h
theorem head.tw7450023128482652576:p:=h
theorem head.tw17608190574486352970:p:=h
theorem head.tw6388477656530123435:p:=h
theorem head.tw17212568112599259466:p:=h
theorem head.tw17975491588444890076:p:=h
theorem head.tw12024539317367501503:p:=h
theorem head.tw2250686904917368756:p:=h
theorem head.tw6671239247050548429:p:=h
theorem head.tw7961726388155042601:p:=h
theorem head.tw5874639182527098836:p:=h
theorem head.tw10589435714200987077:p:=h
theorem head.tw3898573915619166781:p:=h
theorem head.tw10786079294511566085:p:=h
theorem head.tw12834788339754589683:p:=h
theorem head.tw15582730294447300881:p:=h
theorem head.tw6721134378175745729:p:=h
theorem head.tw829941438253678028:p:=h
theorem head.tw3083302935323014018:p:=h
theorem head.tw15793369224940515156:p:=h
theorem head.tw12799445714804067355:p:=h
theorem head.tw3014165967379819670:p:=h
theorem head.tw9280153536138602973:p:=h
theorem head.tw4005429485061764775:p:=h
theorem head.tw3171451927456968151:p:=h
theorem head.tw18051680202136193954:p:=h
theorem head.tw12478146576626367362:p:=h
theorem head.tw3604701254548876123:p:=h
theorem head.tw11373832636114325086:p:=h
theorem head.tw10275354952418168282:p:=h
theorem head.tw4071276723835451856:p:=h
theorem head.tw5776309275727910279:p:=h
theorem head.tw7596824489109172434:p:=h
theorem head.tw3089916443595474862:p:=h
theorem head.tw9178522062551268881:p:=h
theorem head.tw6100774026682323163:p:=h
theorem head.tw12037728316022314418:p:=h
theorem head.tw16576625349610184965:p:=h
theorem head.tw3368474557548986910:p:=h
theorem head.tw3244951577380529755:p:=h
theorem head.tw14412733801367601576:p:=h
theorem head.tw7906546307943345882:p:=h
theorem head.tw10175268230066183813:p:=h
theorem head.tw15149402430504572791:p:=h
theorem head.tw10533634037010066435:p:=h
theorem head.tw17937750479163141218:p:=h
theorem head.tw13508044439285423174:p:=h
theorem head.tw14744981736328886265:p:=h
theorem head.tw3547240966391284428:p:=h
theorem head.tw6240353410654795137:p:=h
theorem head.tw17854896373637125580:p:=h
theorem head.tw16604199759994364997:p:=h
theorem head.tw3979787820943753880:p:=h
theorem head.tw5390082478394435474:p:=h
theorem head.tw12858780395421280599:p:=h
theorem head.tw266100023129296208:p:=h
theorem head.tw9575541623215731522:p:=h
theorem head.tw6871339299614917876:p:=h
theorem head.tw5210181285589595013:p:=h
theorem head.tw16922147877168347812:p:=h
theorem head.tw4673441458371412756:p:=h
theorem head.tw5707341947614518954:p:=h
theorem head.tw3688799982635324794:p:=h
theorem head.tw8569104457590258164:p:=h
theorem head.tw4473611206160876864:p:=h
theorem head.tw14586503196746008701:p:=h
theorem head.tw13294958713779813728:p:=h
theorem head.tw18331532914195504034:p:=h
theorem head.tw5080737588221150853:p:=h
theorem head.tw8047541715743884091:p:=h
theorem head.tw3040085230504974413:p:=h
theorem head.tw9515422150858430662:p:=h
theorem head.tw14195316510222423288:p:=h
theorem head.tw6211381574409162282:p:=h
theorem head.tw15782939476341012554:p:=h
theorem head.tw15604011560834605598:p:=h
theorem head.tw10018764681926925449:p:=h
theorem head.tw12330954535739239725:p:=h
theorem head.tw7119846925741900413:p:=h
theorem head.tw14631705268626504575:p:=h
theorem head.tw3659646283403374670:p:=h
theorem head.tw2393098407364606883:p:=h
theorem head.tw10356212845559719233:p:=h
theorem head.tw6581712109270413358:p:=h
theorem head.tw6925956493692337269:p:=h
theorem head.tw17243387458012846398:p:=h
theorem head.tw15510365090734361527:p:=h
theorem head.tw14637134836413734856:p:=h
theorem head.tw10128820837102578890:p:=h
theorem head.tw12207028300977255130:p:=h
theorem head.tw4154083500117671390:p:=h
theorem head.tw17142359554024780413:p:=h
theorem head.tw17725469503822016867:p:=h
theorem head.tw9089795715530709647:p:=h
theorem head.tw14158537116620707164:p:=h
theorem head.tw3008198553453493119:p:=h
theorem head.tw5599997604879368025:p:=h
theorem head.tw8035625575855466936:p:=h
theorem head.tw10875119458065257276:p:=h
theorem head.tw11821203517306503961:p:=h
theorem head.tw8101760021730824546:p:=h
theorem head.tw16440615025305625343:p:=h
theorem head.tw16817119741492734445:p:=h
theorem head.tw18084798714678584622:p:=h
theorem head.tw763314674957123698:p:=h
theorem head.tw10366927770000222440:p:=h
theorem head.tw3588592502655087912:p:=h
theorem head.tw10079960370226730655:p:=h
theorem head.tw10865165270600546614:p:=h
theorem head.tw7758381527925395934:p:=h
theorem head.tw17943684360952473562:p:=h
theorem head.tw11484358847640170188:p:=h
theorem head.tw13108989927671209790:p:=h
theorem head.tw8402214883040486957:p:=h
theorem head.tw14068133799693864440:p:=h
theorem head.tw2821592275122389253:p:=h
theorem head.tw10128390137947593754:p:=h
theorem head.tw9493678621577581731:p:=h
theorem head.tw8414573866900348196:p:=h
theorem head.tw12573619785200380473:p:=h
theorem head.tw7604411431414283762:p:=h
theorem head.tw7688317290187622652:p:=h
theorem head.tw8733578408476508925:p:=h
theorem head.tw3607904660834509379:p:=h
theorem head.tw2355103038987944067:p:=h
theorem head.tw12394069701764826827:p:=h
theorem head.tw9062998866958442273:p:=h
theorem head.tw16572314662081343053:p:=h
theorem head.tw2952394568518751322:p:=h
theorem head.tw18433677622606106133:p:=h
theorem head.tw2342417691235652057:p:=h
theorem head.tw5865467396996320769:p:=h
theorem head.tw3793723283092296701:p:=h
theorem head.tw3944913497352057107:p:=h
theorem head.tw3696042808614700290:p:=h
theorem head.tw14796412885826930917:p:=h
theorem head.tw2728595385866086531:p:=h
theorem head.tw18014224886719972007:p:=h
theorem head.tw5172421753618935790:p:=h
theorem head.tw3547811175951651099:p:=h
theorem head.tw8535708456716222715:p:=h
theorem head.tw14667470093908496907:p:=h
theorem head.tw1673358830478937286:p:=h
theorem head.tw9495540839478616804:p:=h
theorem head.tw1272635626206103303:p:=h
theorem head.tw18177665153149118353:p:=h
theorem head.tw5737951250597237232:p:=h
theorem head.tw9823536610671039419:p:=h
theorem head.tw780477332936465449:p:=h
theorem head.tw9388430590476628193:p:=h
theorem head.tw6088685845774392931:p:=h
theorem head.tw9197122456581196581:p:=h
theorem head.tw10110233660360586483:p:=h
theorem head.tw10668533816033670360:p:=h
theorem head.tw69809265629811306:p:=h
theorem head.tw5996384718915585738:p:=h
theorem head.tw7712916153251135833:p:=h
theorem head.tw649443455394278489:p:=h
theorem head.tw17630500395600762314:p:=h
theorem head.tw4818460703928763416:p:=h
theorem head.tw7313386461004707312:p:=h
theorem head.tw4381510469713062047:p:=h
theorem head.tw16874305072444578374:p:=h
theorem head.tw18097012145163453104:p:=h
theorem head.tw17674571679781333832:p:=h
theorem head.tw13896987355042952010:p:=h
theorem head.tw15181326774706428367:p:=h
theorem head.tw3212073173673764245:p:=h
theorem head.tw10988817232074504935:p:=h
theorem head.tw11305582741114486441:p:=h
theorem head.tw8451290768687142514:p:=h
theorem head.tw16031315777459398524:p:=h
theorem head.tw2545145822199252752:p:=h
theorem head.tw3581614266968435656:p:=h
theorem head.tw2260579728952749127:p:=h
theorem head.tw6857060684267632606:p:=h
theorem head.tw14531177953140590962:p:=h
theorem head.tw10840385229135970747:p:=h
theorem head.tw10898857373019930491:p:=h
theorem head.tw12773685731770592110:p:=h
theorem head.tw8812732774380208333:p:=h
theorem head.tw12856577281151766611:p:=h
theorem head.tw5987550445186205895:p:=h
end
theorem head : PySem.Challenge.rw_oc0347_01.Holds := by
  w_on
  o_law
  x_head
  (case hw => w_witness2)
  exact walk rfl fun P => facts_of (by kernel_rfl!) (by kernel_rfl!) (by kernel_rfl!) (by kernel_rfl!) (by kernel_rfl!) (by kernel_rfl!) (by kernel_rfl!) (by kernel_rfl!) (by kernel_rfl!) (by kernel_rfl!) (by kernel_rfl!) (by kernel_rfl!) (by kernel_rfl!) (by kernel_rfl!) (by kernel_rfl!) (by kernel_rfl!) (by kernel_rfl!) (by kernel_rfl!) (by kernel_rfl!) (by kernel_rfl!) (by kernel_rfl!) (by kernel_rfl!) (by kernel_rfl!) (by kernel_rfl!) (by kernel_rfl!) (by kernel_rfl!) (by kernel_rfl!) (by kernel_rfl!) (by kernel_rfl!) (by kernel_rfl!) (by kernel_rfl!) (by kernel_rfl!) (by kernel_rfl!) (by kernel_rfl!) (by kernel_rfl!) (by kernel_rfl!) (by kernel_rfl!) (by kernel_rfl!) (by kernel_rfl!) (by kernel_rfl!) (by kernel_rfl!) (by kernel_rfl!) (by kernel_rfl!) (by kernel_rfl!) (by kernel_rfl!) (by kernel_rfl!) (by kernel_rfl!) (by kernel_rfl!) (by kernel_rfl!) (by kernel_rfl!) (by kernel_rfl!) (by kernel_rfl!) (by kernel_rfl!) (by kernel_rfl!) (by kernel_rfl!) (by kernel_rfl!) (by kernel_rfl!) (by kernel_rfl!) (by kernel_rfl!) (by kernel_rfl!) (by kernel_rfl!) (by kernel_rfl!) (by kernel_rfl!) (by kernel_rfl!) (by kernel_rfl!) (by kernel_rfl!) (by kernel_rfl!) (by kernel_rfl!) (by kernel_rfl!) (by kernel_rfl!) (by kernel_rfl!) (by kernel_rfl!) (by kernel_rfl!) (by kernel_rfl!) (by kernel_rfl!) (by kernel_rfl!) (by kernel_rfl!) (by kernel_rfl!) (by kernel_rfl!) (by kernel_rfl!) (by kernel_rfl!) (by kernel_rfl!) (by kernel_rfl!) (by kernel_rfl!) (by kernel_rfl!) (by kernel_rfl!) (by kernel_rfl!) (by kernel_rfl!) (by kernel_rfl!) (by kernel_rfl!) (by kernel_rfl!) (by kernel_rfl!) (by kernel_rfl!) (by kernel_rfl!) (by kernel_rfl!) (by kernel_rfl!) (by kernel_rfl!) (by kernel_rfl!) (by kernel_rfl!) (by kernel_rfl!) (by kernel_rfl!) (by kernel_rfl!) (by kernel_rfl!) (by kernel_rfl!) (by kernel_rfl!) (by kernel_rfl!) (by kernel_rfl!) (by kernel_rfl!) (by kernel_rfl!) (by kernel_rfl!) (by kernel_rfl!) (by kernel_rfl!) (by kernel_rfl!)
end Mine
theorem PySem.Challenge.cw_oc0347_01_holds : PySem.Challenge.rw_oc0347_01.Holds := by
  exact Mine.head
