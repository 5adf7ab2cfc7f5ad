import PyProof.Rows.All
import Wide.All
import OpenK.AllK
import Wide.FinOn
import Lean
import PyProof.NeKinds
import PyProof.ExcBaseAll.Exception
import PyProof.GenQ
import PyProof.Rows.Catch
import KE.KBytesWalk
import KE.KBytesCut
import KE.KOwnIter
import KE.KStopIter
import KE.KSuperObj
import KE.KSuper
import KE.KxFormat
import PySem.Challenge.RW_ll0030_01
open PySem PySem.W PyProof.Rows PySem.Calls PySem.Spec
set_option Elab.async false
set_option maxRecDepth 100000
set_option linter.unusedVariables false
set_option linter.all false
set_option maxHeartbeats 0
set_option genInjectivity false
set_option genSizeOf false
namespace Mine

section
open PySem.W.X
theorem sd1:namesResolve Challenge.rw_ll0030_01.row.prog=true:=by kernel_rfl
theorem sd3:(namesMeet Challenge.rw_ll0030_01.row.prog Challenge.rw_ll0030_01.row.prog.main.body fun _ n=>attrL n)=true:=by kernel_rfl
theorem sd4:(Challenge.rw_ll0030_01.row.prog.boundNames.all fun n=>!worldNames.contains n)=true:=by kernel_rfl
noncomputable def RA:Look:={strict:=false,foot:=none,bare:=[]}
theorem sdl:{strict:=!(importedModules Challenge.rw_ll0030_01.row.prog.main.body).all cThrough.contains,foot:=none,bare:=(["vars","dir","locals"]:List Str).filter (readsOut Challenge.rw_ll0030_01.row.prog Challenge.rw_ll0030_01.row.prog.main.body)}=RA:=by kernel_rfl
theorem sdr:noRoadLSs RA Challenge.rw_ll0030_01.row.prog.main.body=true:=by kernel_rfl
theorem sd2:noRoadLSs {strict:=!(importedModules Challenge.rw_ll0030_01.row.prog.main.body).all cThrough.contains,foot:=none,bare:=(["vars","dir","locals"]:List Str).filter (readsOut Challenge.rw_ll0030_01.row.prog Challenge.rw_ll0030_01.row.prog.main.body)} Challenge.rw_ll0030_01.row.prog.main.body=true:=sdl▸sdr
theorem sdo:looksOpen Challenge.rw_ll0030_01.row.prog=true:=by
 unfold looksOpen
 repeat' (with_reducible refine look_both ?_ ?_)
 all_goals first|with_reducible exact sd1|with_reducible exact sd2|with_reducible exact sd3|with_reducible exact sd4|kernel_rfl
theorem Ft:PySem.Challenge.rw_ll0030_01.wellSaid=true:=by
 unfold OpenLaw.wellSaid OpenRow.wellSaid OpenRow.partSaid
 repeat' (with_reducible refine look_both ?_ ?_)
 with_reducible exact sdo
 all_goals kernel_rfl
end
theorem gB {p0:Prop} {p1:Prop} {p2:Prop} {GG:Prop} (q:p0∧p1∧p2) (k:p0→p1→p2→GG):GG:=k q.1 q.2.1 q.2.2
theorem nP {p0:Prop} {p1:Prop} {p2:Prop} {p3:Prop} {GG:Prop} (q:p0∧p1∧p2∧p3) (k:p0→p1→p2→p3→GG):GG:=k q.1 q.2.1 q.2.2.1 q.2.2.2
theorem K7 {p0:Prop} {p1:Prop} {p2:Prop} {p3:Prop} {p4:Prop} {GG:Prop} (q:p0∧p1∧p2∧p3∧p4) (k:p0→p1→p2→p3→p4→GG):GG:=k q.1 q.2.1 q.2.2.1 q.2.2.2.1 q.2.2.2.2
theorem Ab {p0:Prop} {p1:Prop} {p2:Prop} {p3:Prop} {p4:Prop} {p5:Prop} {GG:Prop} (q:p0∧p1∧p2∧p3∧p4∧p5) (k:p0→p1→p2→p3→p4→p5→GG):GG:=k q.1 q.2.1 q.2.2.1 q.2.2.2.1 q.2.2.2.2.1 q.2.2.2.2.2
theorem tr {p0:Prop} {p1:Prop} {p2:Prop} {p3:Prop} {p4:Prop} {p5:Prop} {p6:Prop} {p7:Prop} {GG:Prop} (q:p0∧p1∧p2∧p3∧p4∧p5∧p6∧p7) (k:p0→p1→p2→p3→p4→p5→p6→p7→GG):GG:=k q.1 q.2.1 q.2.2.1 q.2.2.2.1 q.2.2.2.2.1 q.2.2.2.2.2.1 q.2.2.2.2.2.2.1 q.2.2.2.2.2.2.2
theorem al {A:Sort _} {p0:A→Prop} {p1:A→Prop} {GG:Prop} (q:∃ a:A,p0 a∧p1 a) (k:∀ a,p0 a→p1 a→GG):GG:=Exists.elim q fun a q1=>k a q1.1 q1.2
theorem dX {A:Sort _} {p0:A→Prop} {p1:A→Prop} {p2:A→Prop} {GG:Prop} (q:∃ a:A,p0 a∧p1 a∧p2 a) (k:∀ a,p0 a→p1 a→p2 a→GG):GG:=Exists.elim q fun a q1=>k a q1.1 q1.2.1 q1.2.2
theorem ut {A:Sort _} {p0:A→Prop} {p1:A→Prop} {p2:A→Prop} {p3:A→Prop} {GG:Prop} (q:∃ a:A,p0 a∧p1 a∧p2 a∧p3 a) (k:∀ a,p0 a→p1 a→p2 a→p3 a→GG):GG:=Exists.elim q fun a q1=>k a q1.1 q1.2.1 q1.2.2.1 q1.2.2.2
theorem ur {A:Sort _} {B:Sort _} {p0:A→B→Prop} {GG:Prop} (q:∃ a:A,∃ b:B,p0 a b) (k:∀ a,∀ b,p0 a b→GG):GG:=Exists.elim q fun a q1=>Exists.elim q1 fun b q2=>k a b q2
theorem bj {A:Sort _} {B:Sort _} {p0:A→B→Prop} {p1:A→B→Prop} {GG:Prop} (q:∃ a:A,∃ b:B,p0 a b∧p1 a b) (k:∀ a,∀ b,p0 a b→p1 a b→GG):GG:=Exists.elim q fun a q1=>Exists.elim q1 fun b q2=>k a b q2.1 q2.2
theorem dR {A:Sort _} {B:Sort _} {p0:A→B→Prop} {p1:A→B→Prop} {p2:A→B→Prop} {GG:Prop} (q:∃ a:A,∃ b:B,p0 a b∧p1 a b∧p2 a b) (k:∀ a,∀ b,p0 a b→p1 a b→p2 a b→GG):GG:=Exists.elim q fun a q1=>Exists.elim q1 fun b q2=>k a b q2.1 q2.2.1 q2.2.2
theorem jR {A:Sort _} {B:Sort _} {p0:A→B→Prop} {p1:A→B→Prop} {p2:A→B→Prop} {p3:A→B→Prop} {GG:Prop} (q:∃ a:A,∃ b:B,p0 a b∧p1 a b∧p2 a b∧p3 a b) (k:∀ a,∀ b,p0 a b→p1 a b→p2 a b→p3 a b→GG):GG:=Exists.elim q fun a q1=>Exists.elim q1 fun b q2=>k a b q2.1 q2.2.1 q2.2.2.1 q2.2.2.2
theorem qF {A:Sort _} {B:Sort _} {p0:A→B→Prop} {p1:A→B→Prop} {p2:A→B→Prop} {p3:A→B→Prop} {p4:A→B→Prop} {GG:Prop} (q:∃ a:A,∃ b:B,p0 a b∧p1 a b∧p2 a b∧p3 a b∧p4 a b) (k:∀ a,∀ b,p0 a b→p1 a b→p2 a b→p3 a b→p4 a b→GG):GG:=Exists.elim q fun a q1=>Exists.elim q1 fun b q2=>k a b q2.1 q2.2.1 q2.2.2.1 q2.2.2.2.1 q2.2.2.2.2
theorem Na {A:Sort _} {B:Sort _} {C:Sort _} {p0:A→B→C→Prop} {GG:Prop} (q:∃ a:A,∃ b:B,∃ c:C,p0 a b c) (k:∀ a,∀ b,∀ c,p0 a b c→GG):GG:=Exists.elim q fun a q1=>Exists.elim q1 fun b q2=>Exists.elim q2 fun c q3=>k a b c q3
theorem bK {A:Sort _} {B:Sort _} {C:Sort _} {p0:A→B→C→Prop} {p1:A→B→C→Prop} {GG:Prop} (q:∃ a:A,∃ b:B,∃ c:C,p0 a b c∧p1 a b c) (k:∀ a,∀ b,∀ c,p0 a b c→p1 a b c→GG):GG:=Exists.elim q fun a q1=>Exists.elim q1 fun b q2=>Exists.elim q2 fun c q3=>k a b c q3.1 q3.2
theorem Aa {A:Sort _} {B:Sort _} {C:Sort _} {p0:A→B→C→Prop} {p1:A→B→C→Prop} {p2:A→B→C→Prop} {GG:Prop} (q:∃ a:A,∃ b:B,∃ c:C,p0 a b c∧p1 a b c∧p2 a b c) (k:∀ a,∀ b,∀ c,p0 a b c→p1 a b c→p2 a b c→GG):GG:=Exists.elim q fun a q1=>Exists.elim q1 fun b q2=>Exists.elim q2 fun c q3=>k a b c q3.1 q3.2.1 q3.2.2
theorem Eh {A:Sort _} {B:Sort _} {C:Sort _} {p0:A→B→C→Prop} {p1:A→B→C→Prop} {p2:A→B→C→Prop} {p3:A→B→C→Prop} {GG:Prop} (q:∃ a:A,∃ b:B,∃ c:C,p0 a b c∧p1 a b c∧p2 a b c∧p3 a b c) (k:∀ a,∀ b,∀ c,p0 a b c→p1 a b c→p2 a b c→p3 a b c→GG):GG:=Exists.elim q fun a q1=>Exists.elim q1 fun b q2=>Exists.elim q2 fun c q3=>k a b c q3.1 q3.2.1 q3.2.2.1 q3.2.2.2
theorem Hq {A:Sort _} {B:Sort _} {C:Sort _} {D:Sort _} {p0:A→B→C→D→Prop} {p1:A→B→C→D→Prop} {GG:Prop} (q:∃ a:A,∃ b:B,∃ c:C,∃ d:D,p0 a b c d∧p1 a b c d) (k:∀ a,∀ b,∀ c,∀ d,p0 a b c d→p1 a b c d→GG):GG:=Exists.elim q fun a q1=>Exists.elim q1 fun b q2=>Exists.elim q2 fun c q3=>Exists.elim q3 fun d q4=>k a b c d q4.1 q4.2
theorem Eg {A:Sort _} {B:Sort _} {C:Sort _} {D:Sort _} {E:Sort _} {F:Sort _} {p0:A→B→C→D→E→F→Prop} {GG:Prop} (q:∃ a:A,∃ b:B,∃ c:C,∃ d:D,∃ e:E,∃ f:F,p0 a b c d e f) (k:∀ a,∀ b,∀ c,∀ d,∀ e,∀ f,p0 a b c d e f→GG):GG:=Exists.elim q fun a q1=>Exists.elim q1 fun b q2=>Exists.elim q2 fun c q3=>Exists.elim q3 fun d q4=>Exists.elim q4 fun e q5=>Exists.elim q5 fun f q6=>k a b c d e f q6
theorem m8 {A:Sort _} {B:Sort _} {C:Sort _} {D:Sort _} {E:Sort _} {F:Sort _} {p0:A→B→C→D→E→F→Prop} {p1:A→B→C→D→E→F→Prop} {GG:Prop} (q:∃ a:A,∃ b:B,∃ c:C,∃ d:D,∃ e:E,∃ f:F,p0 a b c d e f∧p1 a b c d e f) (k:∀ a,∀ b,∀ c,∀ d,∀ e,∀ f,p0 a b c d e f→p1 a b c d e f→GG):GG:=Exists.elim q fun a q1=>Exists.elim q1 fun b q2=>Exists.elim q2 fun c q3=>Exists.elim q3 fun d q4=>Exists.elim q4 fun e q5=>Exists.elim q5 fun f q6=>k a b c d e f q6.1 q6.2
theorem rt {A:Sort _} {B:Sort _} {C:Sort _} {D:Sort _} {E:Sort _} {F:Sort _} {G:Sort _} {p0:A→B→C→D→E→F→G→Prop} {p1:A→B→C→D→E→F→G→Prop} {p2:A→B→C→D→E→F→G→Prop} {p3:A→B→C→D→E→F→G→Prop} {p4:A→B→C→D→E→F→G→Prop} {GG:Prop} (q:∃ a:A,∃ b:B,∃ c:C,∃ d:D,∃ e:E,∃ f:F,∃ g:G,p0 a b c d e f g∧p1 a b c d e f g∧p2 a b c d e f g∧p3 a b c d e f g∧p4 a b c d e f g) (k:∀ a,∀ b,∀ c,∀ d,∀ e,∀ f,∀ g,p0 a b c d e f g→p1 a b c d e f g→p2 a b c d e f g→p3 a b c d e f g→p4 a b c d e f g→GG):GG:=Exists.elim q fun a q1=>Exists.elim q1 fun b q2=>Exists.elim q2 fun c q3=>Exists.elim q3 fun d q4=>Exists.elim q4 fun e q5=>Exists.elim q5 fun f q6=>Exists.elim q6 fun g q7=>k a b c d e f g q7.1 q7.2.1 q7.2.2.1 q7.2.2.2.1 q7.2.2.2.2
theorem ny {a n c:Nat} (k:Nat) (h:a+n<c) (hk:k≤n):a+k<c:=Nat.lt_of_le_of_lt (Nat.add_le_add_left hk a) h
theorem tN {n i:Nat} (h:i<n):n+1-(i+1)<n+1-i:=Nat.sub_lt_sub_left (Nat.lt_succ_of_lt h) (Nat.lt_succ_self i)
theorem wj {A:Sort _} {B:Sort _} {C:Sort _} {D:Sort _} {p0:A→B→C→D→Prop} {p1:A→B→C→D→Prop} {p2:A→B→C→D→Prop} {p3:A→B→C→D→Prop} {p4:A→B→C→D→Prop} {p5:A→B→C→D→Prop} {GG:Prop} (q:∃ a:A,∃ b:B,∃ c:C,∃ d:D,p0 a b c d∧p1 a b c d∧p2 a b c d∧p3 a b c d∧p4 a b c d∧p5 a b c d) (k:∀ a,∀ b,∀ c,∀ d,p0 a b c d→p1 a b c d→p2 a b c d→p3 a b c d→p4 a b c d→p5 a b c d→GG):GG:=Exists.elim q fun a q1=>Exists.elim q1 fun b q2=>Exists.elim q2 fun c q3=>Exists.elim q3 fun d q4=>k a b c d q4.1 q4.2.1 q4.2.2.1 q4.2.2.2.1 q4.2.2.2.2.1 q4.2.2.2.2.2
theorem tp {A:Sort _} {B:Sort _} {p0:A→B→Prop} {p1:A→B→Prop} {p2:A→B→Prop} {p3:A→B→Prop} {p4:A→B→Prop} {p5:A→B→Prop} {GG:Prop} (q:∃ a:A,∃ b:B,p0 a b∧p1 a b∧p2 a b∧p3 a b∧p4 a b∧p5 a b) (k:∀ a,∀ b,p0 a b→p1 a b→p2 a b→p3 a b→p4 a b→p5 a b→GG):GG:=Exists.elim q fun a q1=>Exists.elim q1 fun b q2=>k a b q2.1 q2.2.1 q2.2.2.1 q2.2.2.2.1 q2.2.2.2.2.1 q2.2.2.2.2.2
theorem x0 {A:Sort _} {B:Sort _} {C:Sort _} {D:Sort _} {p0:A→B→C→D→Prop} {p1:A→B→C→D→Prop} {p2:A→B→C→D→Prop} {p3:A→B→C→D→Prop} {p4:A→B→C→D→Prop} {GG:Prop} (q:∃ a:A,∃ b:B,∃ c:C,∃ d:D,p0 a b c d∧p1 a b c d∧p2 a b c d∧p3 a b c d∧p4 a b c d) (k:∀ a,∀ b,∀ c,∀ d,p0 a b c d→p1 a b c d→p2 a b c d→p3 a b c d→p4 a b c d→GG):GG:=Exists.elim q fun a q1=>Exists.elim q1 fun b q2=>Exists.elim q2 fun c q3=>Exists.elim q3 fun d q4=>k a b c d q4.1 q4.2.1 q4.2.2.1 q4.2.2.2.1 q4.2.2.2.2
noncomputable abbrev Wb:=@PySem.wpAny_bind
noncomputable abbrev Wp:=@PySem.wpAny_pure
noncomputable abbrev Wm:=@PySem.wpAny_mono
noncomputable abbrev Nt:=@Nat.le_trans
noncomputable abbrev Hp:=@PySem.Heap.get?_push_of_some
noncomputable abbrev Ee:=@Exists.elim
noncomputable abbrev Ws:=@PySem.wpAny_standAt
noncomputable abbrev Wh:=@PySem.wpAny_holding
noncomputable abbrev Wq:=@PySem.wpAny_of_eq
noncomputable abbrev Hs:=@PySem.Heap.get?_push_size
noncomputable abbrev Nr:=@Nat.le_refl
noncomputable abbrev Cg:=@congrArg
section
inductive D where
 |none|bool (b:Bool)|int (i:Int)|str (s:Str)|bytes (b:List UInt8)
 |stat (v:Value)
 |barr (b:List UInt8)|tup (ds:List D)|lst (ds:List D)
 |inst (C:Addr) (fs:List (Str×D))
 |obj (o:Obj)
noncomputable def lk {α:Type}:List (Str×α)→Str→Option α
 |[],_=>.none
 |(y,d)::r,x=>if y=x then some d else lk r x
theorem bv {α:Type} {x:Str} {d:α} {r:List (Str×α)}:lk ((x,d)::r) x=some d:=if_pos rfl
theorem Po {α:Type} {x y:Str} {d:α} {o:Option α} {r:List (Str×α)} (h:y≠x) (e:lk r x=o):lk ((y,d)::r) x=o:=(if_neg h).trans e
theorem Jd {α:Type} {x y:Str} (h:(y==x)=false) {d:α} {o:Option α} {r:List (Str×α)} (e:lk r x=o):lk ((y,d)::r) x=o:=Po (fun z=>by rw [z,beq_self_eq_true] at h;cases h) e
theorem Dd {α:Type} {x y z:Str} (h:(y==x||z==x)=false) {d d':α} {o:Option α} {r:List (Str×α)} (e:lk r x=o):lk ((y,d)::(z,d')::r) x=o:=Jd (Bool.or_eq_false_iff.mp h).1 (Jd (Bool.or_eq_false_iff.mp h).2 e)
theorem PZ {α:Type} {x y z u v:Str} (h:((y==x||z==x)||(u==x||v==x))=false) {d d' d₁ dB:α} {o:Option α} {r:List (Str×α)} (e:lk r x=o):lk ((y,d)::(z,d')::(u,d₁)::(v,dB)::r) x=o:=Dd (Bool.or_eq_false_iff.mp h).1 (Dd (Bool.or_eq_false_iff.mp h).2 e)
theorem Qy {α:Type} {x:Str}:lk ([]:List (Str×α)) x=.none:=rfl
noncomputable abbrev PM:=Addr→Option Obj
def PM.le (H H':PM):Prop:=∀ a o,H a=some o→H' a=some o
instance:LE PM:=⟨PM.le⟩
theorem Pr (H:PM):H≤H:=fun _ _ e=>e
theorem Pt {H H' H'':PM} (a:H≤H') (b:H'≤H''):H≤H'':=fun x o e=>b x o (a x o e)
noncomputable def PM.put (H:PM) (a:Addr) (o:Obj):PM:=fun b=>if b=a then some o else H b
theorem Dx {A B:Prop} (h:A):if true=true then A else B:=h
theorem Dz {A B:Prop} (h:B):if false=true then A else B:=h
theorem zQ {z:Prop} [Decidable z] {A B A' B':Prop} (f:A→A') (g:B→B') (h:if z then A else B):if z then A' else B':=by
 by_cases e:z
 ·rw [if_pos e] at h ⊢;exact f h
 ·rw [if_neg e] at h ⊢;exact g h
theorem aS {α:Type} {o:Option α} {a:α} {G:Prop} (e:o=some a) (h:o=.none):G:=(Option.some_ne_none a (e.symm.trans h)).elim
theorem Pp {H:PM} {a:Addr} {o:Obj} (h:H a=.none):H≤H.put a o:=fun b ob e=>(if_neg fun q=>aS e ((Cg H q).trans h)).trans e
theorem Ph {H:PM} {a:Addr} {o:Obj}:H.put a o a=some o:=if_pos rfl
theorem Pn {H:PM} {a b:Addr} {o:Obj} (h:b≠a):H.put a o b=H b:=if_neg h
mutual
inductive ac (H:PM):Value→D→Prop
 |none:ac H .none .none
 |bool (b):ac H (.bool b) (.bool b)
 |int (i t):ac H (.int i t) (.int i)
 |str (s t):ac H (.str s t) (.str s)
 |bytes (l:List UInt8) (t):ac H (.bytes l.toArray t) (.bytes l)
 |stat (v):ac H v (.stat v)
 |obj {a o}:H a=some o→ac H (.ref a) (.obj o)
 |barr {a n} {l:List UInt8}:H a=some ⟨.type "bytearray",.none,.bytearray l.toArray n,#[]⟩→ac H (.ref a) (.barr l)
 |tup {a n vs ds}:H a=some ⟨.type "tuple",.none,.seq (List.toArray vs) n,#[]⟩→af H vs ds→ac H (.ref a) (.tup ds)
 |lst {a n vs ds}:H a=some ⟨.type "list",.none,.seq (List.toArray vs) n,#[]⟩→af H vs ds→ac H (.ref a) (.lst ds)
 |inst {x dx C es n fs vs}:H x=some (instObj C dx)→H dx=some (dictOf es n)→(fs.map (·.1)).map (fun k=>getL k es)=vs.map (fun v=>some (some v))→af H vs (fs.map (·.2)) →
   (∀ k,k∉fs.map (·.1)→getL k es=some .none)→ac H (.ref x) (.inst C fs)
inductive af (H:PM):List Value→List D→Prop
 |nil:af H [] []
 |cons {v vs d ds}:ac H v d→af H vs ds→af H (v::vs) (d::ds)
end
section
variable {H:PM} {v:Value} {vs:List Value}
def ac.Inv (H:PM) (v:Value):D→Prop
 |.none=>v=.none
 |.bool b=>v=.bool b
 |.int i=>∃ t,v=.int i t
 |.str i=>∃ t,v=.str i t
 |.bytes i=>∃ t,v=.bytes i.toArray t
 |.stat u=>v=u
 |.obj o=>∃ a,v=.ref a∧H a=some o
 |.barr l=>∃ a n,v=.ref a∧H a=some ⟨.type "bytearray",.none,.bytearray l.toArray n,#[]⟩
 |.tup ds=>∃ a n vs,v=.ref a∧H a=some ⟨.type "tuple",.none,.seq (List.toArray vs) n,#[]⟩∧af H vs ds
 |.lst ds=>∃ a n vs,v=.ref a∧H a=some ⟨.type "list",.none,.seq (List.toArray vs) n,#[]⟩∧af H vs ds
 |_=>True
theorem ac.inv (r:ac H v d):ac.Inv H v d:=by cases r<;>first|exact rfl|exact ⟨_,rfl⟩|exact trivial|exact ⟨_,rfl,by assumption⟩|exact ⟨_,_,rfl,by assumption⟩|exact ⟨_,_,_,rfl,by assumption,by assumption⟩
theorem ac.cNone {m:∀ v,ac H v .none→Prop} (none:m .none .none) (r:ac H v .none):m v r:=by
 have e:v=.none:=r.inv;subst e;exact none
theorem ac.cBool {b:Bool} {m:∀ v,ac H v (.bool b)→Prop} (bool:m (.bool b) (.bool b)) (r:ac H v (.bool b)):m v r:=by
 have e:v=.bool b:=r.inv;subst e;exact bool
theorem ac.cInt {i:Int} {m:∀ v,ac H v (.int i)→Prop} (int:∀ t,m (.int i t) (.int i t)) (r:ac H v (.int i)):m v r :=
 (r.inv:∃ t,v=.int i t).elim fun t e=>by subst e;exact int t
theorem ac.cStr {i:Str} {m:∀ v,ac H v (.str i)→Prop} (str:∀ t,m (.str i t) (.str i t)) (r:ac H v (.str i)):m v r :=
 (r.inv:∃ t,v=.str i t).elim fun t e=>by subst e;exact str t
theorem ac.cBytes {i:List UInt8} {m:∀ v,ac H v (.bytes i)→Prop} (bytes:∀ t,m (.bytes i.toArray t) (.bytes i t)) (r:ac H v (.bytes i)):m v r :=
 (r.inv:∃ t,v=.bytes i.toArray t).elim fun t e=>by subst e;exact bytes t
theorem ac.cStat {m:∀ v,ac H v (.stat u)→Prop} (stat:m u (.stat u)) (r:ac H v (.stat u)):m v r:=by
 have e:v=u:=r.inv;subst e;exact stat
theorem ac.cObj {o:Obj} {m:∀ v,ac H v (.obj o)→Prop} (obj:∀ {a} (e:H a=some o),m (.ref a) (.obj e)) (r:ac H v (.obj o)):m v r :=
 (r.inv:∃ a,v=.ref a∧H a=some o).elim fun a e=>by obtain ⟨e,h⟩:=e;subst e;exact obj h
theorem ac.cBarr {l:List UInt8} {m:∀ v,ac H v (.barr l)→Prop} (barr:∀ {a n} (e:H a=some ⟨.type "bytearray",.none,.bytearray l.toArray n,#[]⟩),m (.ref a) (.barr e)) (r:ac H v (.barr l)):m v r :=
 (r.inv:∃ a n,v=.ref a∧H a=some ⟨.type "bytearray",.none,.bytearray l.toArray n,#[]⟩).elim fun a q=>q.elim fun n q=>by obtain ⟨e,h⟩:=q;subst e;exact barr h
theorem ac.cTup {ds:List D} {m:∀ v,ac H v (.tup ds)→Prop} (tup:∀ {a n vs} (e:H a=some ⟨.type "tuple",.none,.seq (List.toArray vs) n,#[]⟩) (rs:af H vs ds),m (.ref a) (.tup e rs)) (r:ac H v (.tup ds)):m v r :=
 (r.inv:∃ a n vs,v=.ref a∧H a=some ⟨.type "tuple",.none,.seq (List.toArray vs) n,#[]⟩∧af H vs ds).elim fun a q=>q.elim fun n q=>q.elim fun vs q=>by obtain ⟨e,h,rs⟩:=q;subst e;exact tup h rs
theorem ac.cLst {ds:List D} {m:∀ v,ac H v (.lst ds)→Prop} (lst:∀ {a n vs} (e:H a=some ⟨.type "list",.none,.seq (List.toArray vs) n,#[]⟩) (rs:af H vs ds),m (.ref a) (.lst e rs)) (r:ac H v (.lst ds)):m v r :=
 (r.inv:∃ a n vs,v=.ref a∧H a=some ⟨.type "list",.none,.seq (List.toArray vs) n,#[]⟩∧af H vs ds).elim fun a q=>q.elim fun n q=>q.elim fun vs q=>by obtain ⟨e,h,rs⟩:=q;subst e;exact lst h rs
def af.Inv (H:PM) (vs:List Value):List D→Prop
 |[]=>vs=[]
 |d::ds=>∃ v us,vs=v::us∧ac H v d∧af H us ds
theorem af.inv {ds:List D} (r:af H vs ds):af.Inv H vs ds:=by
 cases r with
 |nil=>exact rfl
 |cons a b=>exact ⟨_,_,rfl,a,b⟩
theorem af.cNil {m:∀ vs,af H vs []→Prop} (nil:m [] .nil) (r:af H vs []):m vs r:=by
 have e:vs=[]:=r.inv;subst e;exact nil
theorem af.cCons {ds:List D} {m:∀ vs,af H vs (d::ds)→Prop} (cons:∀ {v vs} (a:ac H v d) (b:af H vs ds),m (v::vs) (.cons a b)) (r:af H vs (d::ds)):m vs r :=
 (r.inv:∃ v us,vs=v::us∧ac H v d∧af H us ds).elim fun v q=>q.elim fun us q=>by obtain ⟨e,a,b⟩:=q;subst e;exact cons a b
end
theorem bM {α:Type} {P:List α→Prop} (h:P []):∀ vs:List α,vs.length=0→P vs:=fun vs e=>(List.length_eq_zero_iff.mp e).symm▸h
theorem aH {α:Type} {n:Nat} {P:List α→Prop} (h:∀ v,∀ vs:List α,vs.length=n→P (v::vs)):∀ vs:List α,vs.length=n+1→P vs:=fun vs e=>by
 cases vs with
 |nil=>cases e
 |cons v vs=>exact h v vs (Nat.succ.inj e)
@[elab_as_elim] theorem NK {α:Type} {n:Nat} {P:List α→Prop} {vs:List α} (e:vs.length=n) (h:∀ us:List α,us.length=n→P us):P vs:=h vs e
theorem ac.mono {H H':PM} (le:H≤H') {v d} (r:ac H v d):ac H' v d :=
 ac.rec (motive_1:=fun v d _=>ac H' v d) (motive_2:=fun vs ds _=>af H' vs ds) .none .bool .int .str .bytes .stat (fun e=>.obj (le _ _ e)) (fun e=>.barr (le _ _ e)) (fun e _ r=>.tup (le _ _ e) r) (fun e _ r=>.lst (le _ _ e) r) (fun e e' k _ q r=>.inst (le _ _ e) (le _ _ e') k r q) .nil (fun _ _ a b=>.cons a b) r
theorem af.cons_iff {H:PM} {vs:List Value} {ds:List D} (r:af H vs (d::ds)):∃ v us,vs=v::us∧ac H v d∧af H us ds:=by cases r using af.cCons with|cons a b=>exact ⟨_,_,rfl,a,b⟩
theorem af.rec1 {H:PM} {m:List Value→List D→Prop} (nil:m [] []) (cons:∀ v vs d ds,ac H v d→af H vs ds→m vs ds→m (v::vs) (d::ds)) {vs ds} (r:af H vs ds):m vs ds:=by
 induction ds generalizing vs with
 |nil=>cases r using af.cNil;exact nil
 |cons d ds ih=>refine bj r.cons_iff fun v us q1 q2=>?_;obtain rfl:=q1;obtain ⟨a,b⟩:=q2;exact cons _ _ _ _ a b (ih b)
theorem af.mono {H H':PM} (le:H≤H') {vs ds} (r:af H vs ds):af H' vs ds:=r.rec1 (m:=fun vs ds=>af H' vs ds) .nil fun _ _ _ _ a _ b=>.cons (a.mono le) b
theorem af.append {H:PM} {vs ds us es} (r:af H vs ds) (h:af H us es):af H (vs++us) (ds++es):=r.rec1 (m:=fun vs ds=>af H (vs++us) (ds++es)) h fun _ _ _ _ a _ b=>.cons a b
theorem af.length {H:PM} {vs ds} (r:af H vs ds):vs.length=ds.length:=r.rec1 (m:=fun vs ds=>vs.length=ds.length) rfl fun _ _ _ _ _ _ b=>Cg (·+1) b
theorem af.get {H:PM} {vs ds} (r:af H vs ds):∀ {i:Nat} {d},ds[i]? = some d→∃ v,vs[i]? = some v∧ac H v d :=
 r.rec1 (m:=fun vs ds=>∀ {i:Nat} {d},ds[i]? = some d→∃ v,vs[i]? = some v∧ac H v d) (fun e=>nomatch e) fun v _ _ _ a _ b i d e=>by
  cases i with
  |zero=>exact ⟨v,rfl,Option.some.inj e▸a⟩
  |succ i=>exact b e
theorem af.drop {H:PM} (n:Nat) {vs ds} (r:af H vs ds):af H (vs.drop n) (ds.drop n):=by
 induction n generalizing vs ds with
 |zero=>exact r
 |succ n ih=>exact r.rec1 (m:=fun vs ds=>af H (vs.drop (n+1)) (ds.drop (n+1))) af.nil fun _ _ _ _ _ b _=>ih b
theorem af.take {H:PM} (n:Nat) {vs ds} (r:af H vs ds):af H (vs.take n) (ds.take n):=by
 induction n generalizing vs ds with
 |zero=>exact .nil
 |succ n ih=>exact r.rec1 (m:=fun vs ds=>af H (vs.take (n+1)) (ds.take (n+1))) .nil fun _ _ _ _ a b _=>.cons a (ih b)
theorem af.one {H:PM} {v d} (h:ac H v d):af H [v] [d]:=.cons h .nil
theorem af.two {H:PM} {v d v' d'} (h:ac H v d) (h':ac H v' d'):af H [v,v'] [d,d']:=.cons h (.one h')
inductive SO where
 |list (ds:List D)
 |attrs (fs:List (Str×D))
 |inst (C dx:Addr)
 |raw (P:Obj→Prop) (fs:List (Value×D))
class inductive bY (H:PM):List DictEntry→List (Str×D)→Prop
 |nil:bY H [] []
 |cons {h x t v d es fs}:ac H v d→bY H es fs→bY H (⟨h,.str x t,v⟩::es) ((x,d)::fs)
def jb (H:PM) (h:Heap) (a:Addr):SO→Prop
 |.list ds=>∃ vs n,h.get? a=some ⟨.type "list",.none,.seq (List.toArray vs) n,#[]⟩∧af H vs ds
 |.attrs fs=>∃ es n,h.get? a=some (dictOf es n)∧bY H es fs
 |.inst C dx=>h.get? a=some (instObj C dx)
 |.raw P fs=>∃ o,h.get? a=some o∧P o∧∀ p∈fs,ac H p.1 p.2
theorem bY.mono {H H':PM} (le:H≤H') (a:bY H es fs):bY H' es fs:=by
 induction a with
 |nil=>exact .nil
 |cons r _ ih=>exact .cons (r.mono le) ih
theorem bY.length {H:PM} (a:bY H es fs):es.length=fs.length:=by
 induction a with
 |nil=>rfl
 |cons _ _ ih=>exact Cg (·+1) ih
theorem jb.mono {H H':PM} (le:H≤H') {h a so} (q:jb H h a so):jb H' h a so:=by
 cases so
 ·exact bj q fun vs n e r=>⟨vs,n,e,r.mono le⟩
 ·exact bj q fun vs n e r=>⟨vs,n,e,r.mono le⟩
 ·exact q
 ·exact dX q fun o e r k=>⟨o,e,r,fun p hp=>(k p hp).mono le⟩
theorem jb.there {H:PM} {h a so} (q:jb H h a so):∃ o,h.get? a=some o:=by
 cases so
 ·exact bj q fun _ _ e _=>⟨_,e⟩
 ·exact bj q fun _ _ e _=>⟨_,e⟩
 ·exact ⟨_,q⟩
 ·exact dX q fun _ e _ _=>⟨_,e⟩
theorem jb.same {H:PM} {a} (e:h'.get? a=h.get? a) (q:jb H h a so):jb H h' a so:=by
 cases so
 ·exact bj q fun vs n z r=>⟨vs,n,e.trans z,r⟩
 ·exact bj q fun vs n z r=>⟨vs,n,e.trans z,r⟩
 ·exact e.trans q
 ·exact dX q fun o z r k=>⟨o,e.trans z,r,k⟩
noncomputable abbrev Own:=List (Addr×SO)
structure Cx where
 prog:Program
 w:World
 P:Addr→Option (Obj×Bool)
 gens:Nat→Option GenState
 os:OsState
 drawn:Drawn
 B:PM
theorem Nb {A:Sort _} {p:Prop} {q:A→Prop} {G:Prop} (h:p∧∃ a,q a) (k:p→∀ a,q a→G):G:=h.2.elim (k h.1)
def mz (b:Bool) (o o':Obj):Prop:=o'=o∨(b=true∧∃ sl,o'={o with slots:=sl})
theorem mz.rfl' {b o}:mz b o o:=.inl rfl
theorem mz.trans {b o o' o''} (x:mz b o o') (y:mz b o' o''):mz b o o'' :=
 y.elim (fun e=>e▸x) fun q=>Nb q fun hb sl e=>x.elim (fun e'=>.inr ⟨hb,sl,e.trans (by rw [e'])⟩) fun q'=>Nb q' fun _ sl' e'=>.inr ⟨hb,sl,e.trans (by rw [e'])⟩
structure az (x:Cx) (H:PM) (O:Own) (s:Shared):Prop where
 gens:∀ g st,x.gens g=some st→s.gens[g]? = some st
 os:s.os=x.os
 drawn:s.drawn=x.drawn
 hH:∀ a o,H a=some o→s.heap.get? a=some o
 hP:∀ a o b,x.P a=some (o,b)→∃ o',s.heap.get? a=some o'∧mz b o o'
 hO:∀ p∈O,jb H s.heap p.1 p.2
 nd:(O.map (·.1)).Nodup
 dH:∀ p∈O,H p.1=.none
 dP:∀ p∈O,x.P p.1=.none
 dHP:∀ a ob,x.P a=some ob→H a=.none
 bare:AllBare s.gens
 hB:x.B≤H
theorem gU {α:Type} {o:Option α} (h:∀ a,o=some a→False):o=.none:=by
 cases o with
 |none=>rfl
 |some a=>exact (h a rfl).elim
theorem az.hard {x:Cx} {H O s} (R:az x H O s) {a o} (e:x.P a=some (o,false)):s.heap.get? a=some o :=
 al (R.hP _ _ _ e) fun o' z k=>k.elim (fun q=>q▸z) fun q=>Bool.noConfusion q.1
theorem az.keeps {x:Cx} {H:PM} {O:Own} {s s':Shared} (R:az x H O s) (k:∀ b o,s.heap.get? b=some o→s'.heap.get? b=some o) (hg:s'.gens=s.gens:=by rfl) (ho:s'.os=s.os:=by rfl) (hd:s'.drawn=s.drawn:=by rfl):az x H O s' where
 gens g st e:=hg▸R.gens g st e
 os:=ho.trans R.os
 drawn:=hd.trans R.drawn
 hH a o e:=k _ _ (R.hH a o e)
 hP a o b e:=let ⟨o',q,r⟩:=R.hP a o b e;⟨o',k _ _ q,r⟩
 hO p hp:=(R.hO p hp).there.elim fun o e=>(R.hO p hp).same ((k _ _ e).trans e.symm)
 nd:=R.nd
 dH:=R.dH
 dP:=R.dP
 dHP:=R.dHP
 bare:=hg▸R.bare
 hB:=R.hB
theorem az.fresh {x:Cx} {H:PM} {O:Own} {s:Shared} (R:az x H O s):H s.heap.objs.size=.none∧x.P s.heap.objs.size=.none∧∀ p∈O,p.1≠s.heap.objs.size:=by
 refine ⟨gU fun o q=>Nat.lt_irrefl _ (Heap.lt_size (R.hH _ _ q)),gU fun o q=>al (R.hP _ _ _ q) fun o' e _=>Nat.lt_irrefl _ (Heap.lt_size e),fun p hp e=>?_⟩;exact (R.hO p hp).there.elim fun o q=>Nat.lt_irrefl _ (Heap.lt_size (e▸q))
theorem az.addH {x:Cx} {H:PM} {O:Own} {s:Shared} (R:az x H O s) {a:Addr} {o:Obj} (e:s.heap.get? a=some o) (hH:H a=.none) (hO:∀ p∈O,p.1≠a) (hP:x.P a=.none):az x (H.put a o) O s where
 gens:=R.gens
 os:=R.os
 drawn:=R.drawn
 hH b ob q:=by
  by_cases z:b=a
  ·exact (Cg s.heap.get? z).trans (e.trans ((if_pos z).symm.trans q))
  ·exact R.hH _ _ ((if_neg z).symm.trans q)
 hP:=R.hP
 hO p hp:=(R.hO p hp).mono (Pp hH)
 nd:=R.nd
 dH p hp:=by rw [Pn (hO p hp)];exact R.dH p hp
 dP:=R.dP
 dHP b ob q:=by
  exact (if_neg fun z=>aS q ((Cg x.P z).trans hP)).trans (R.dHP _ _ q)
 bare:=R.bare
 hB:=Pt R.hB (Pp hH)
theorem az.addO {x:Cx} {H:PM} {O:Own} {s:Shared} (R:az x H O s) {a:Addr} {so:SO} (e:jb H s.heap a so) (hH:H a=.none) (hO:∀ p∈O,p.1≠a) (hP:x.P a=.none):az x H ((a,so)::O) s where
 gens:=R.gens
 os:=R.os
 drawn:=R.drawn
 hH:=R.hH
 hP:=R.hP
 hO:=List.forall_mem_cons.mpr ⟨e,R.hO⟩
 nd:=List.nodup_cons.mpr ⟨fun hm=>al (List.mem_map.mp hm) hO,R.nd⟩
 dH:=List.forall_mem_cons.mpr ⟨hH,R.dH⟩
 dP:=List.forall_mem_cons.mpr ⟨hP,R.dP⟩
 dHP:=R.dHP
 bare:=R.bare
 hB:=R.hB
theorem az.sub {x:Cx} {H:PM} {O O':Own} {s:Shared} (R:az x H O s) (h:O'.Sublist O):az x H O' s where
 gens:=R.gens
 os:=R.os
 drawn:=R.drawn
 hH:=R.hH
 hP:=R.hP
 hO p hp:=R.hO p (h.subset hp)
 nd:=R.nd.sublist (h.map _)
 dH p hp:=R.dH p (h.subset hp)
 dP p hp:=R.dP p (h.subset hp)
 dHP:=R.dHP
 bare:=R.bare
 hB:=R.hB
class inductive Upd (a:Addr) (so so':SO):Own→Own→Prop
 |head {r}:Upd a so so' ((a,so)::r) ((a,so')::r)
 |tail {p r r'}:Upd a so so' r r'→Upd a so so' (p::r) (p::r')
theorem Upd.mem {a so so' O O'} (u:Upd a so so' O O'):(a,so)∈O:=by
 induction u with
 |head=>exact .head _
 |tail _ ih=>exact .tail _ ih
theorem Upd.keys {a so so' O O'} (u:Upd a so so' O O'):O'.map (·.1)=O.map (·.1):=by
 induction u with
 |head=>rfl
 |tail _ ih=>exact Cg (_::·) ih
theorem Upd.split {a so so' O O'} (u:Upd a so so' O O'):∀ p∈O',p=(a,so')∨p∈O:=by
 induction u with
 |head=>exact List.forall_mem_cons.mpr ⟨.inl rfl,fun p h=>.inr (.tail _ h)⟩
 |tail _ ih=>exact List.forall_mem_cons.mpr ⟨.inr (.head _),fun p h=>(ih p h).imp_right (.tail _)⟩
theorem CT {a:Addr} {r:Own} (h:a∉r.map (·.1)):∀ p∈r,p.1≠a:=fun p hp e=>h (e▸List.mem_map_of_mem (f:=(·.1)) hp)
theorem ndM {p:Addr×SO} (h:((p::r).map (·.1)).Nodup):p.1∉r.map (·.1)∧(r.map (·.1)).Nodup:=List.nodup_cons.mp h
theorem Upd.ne {a so so' O O'} (u:Upd a so so' O O') (nd:(O.map (·.1)).Nodup):∀ p∈O',p=(a,so')∨(p∈O∧p.1≠a):=by
 induction u with
 |head=>exact List.forall_mem_cons.mpr ⟨.inl rfl,fun p h=>.inr ⟨.tail _ h,CT (ndM nd).1 p h⟩⟩
 |tail u ih=>exact List.forall_mem_cons.mpr ⟨.inr ⟨.head _,fun e=>CT (ndM nd).1 _ u.mem e.symm⟩,fun p h=>(ih (ndM nd).2 p h).imp_right fun e=>⟨.tail _ e.1,e.2⟩⟩
theorem az.upd {x:Cx} {H:PM} {O O':Own} {s s':Shared} {a:Addr} {so so':SO} (R:az x H O s) (u:Upd a so so' O O') (hs:Heap.SameBut a s.heap s'.heap) (e:jb H s'.heap a so')
  (hg:s'.gens=s.gens:=by rfl) (ho:s'.os=s.os:=by rfl) (hd:s'.drawn=s.drawn:=by rfl):az x H O' s' where
 gens g st e:=hg▸R.gens g st e
 os:=ho.trans R.os
 drawn:=hd.trans R.drawn
 hH b ob q:=(hs.2 b fun z=>aS q ((Cg H z).trans (R.dH _ u.mem))).trans (R.hH _ _ q)
 hP b ob k q:=al (R.hP b ob k q) fun o' z r=>⟨o',(hs.2 b fun z=>aS q ((Cg x.P z).trans (R.dP _ u.mem))).trans z,r⟩
 hO p hp:=(u.ne R.nd p hp).elim (fun q=>q.symm▸e) fun q=>(R.hO p q.1).same (hs.2 _ q.2)
 nd:=u.keys▸R.nd
 dH p hp:=(u.split p hp).elim (fun q=>(Cg (fun p:Addr×SO=>H p.1) q).trans (R.dH (a,so) u.mem)) (R.dH p)
 dP p hp:=(u.split p hp).elim (fun q=>(Cg (fun p:Addr×SO=>x.P p.1) q).trans (R.dP (a,so) u.mem)) (R.dP p)
 dHP:=R.dHP
 bare:=hg▸R.bare
 hB:=R.hB
class inductive Rem (a:Addr) (so:SO):Own→Own→Prop
 |head {r}:Rem a so ((a,so)::r) r
 |tail {p r r'}:Rem a so r r'→Rem a so (p::r) (p::r')
theorem Rem.mem {a so O O'} (u:Rem a so O O'):(a,so)∈O:=by
 induction u with
 |head=>exact .head _
 |tail _ ih=>exact .tail _ ih
theorem Rem.sub {a so O O'} (u:Rem a so O O'):O'.Sublist O:=by
 induction u with
 |head=>exact .cons _ (List.Sublist.refl _)
 |tail _ ih=>exact .cons_cons _ ih
theorem Rem.ne {a so O O'} (u:Rem a so O O') (nd:(O.map (·.1)).Nodup):∀ p∈O',p.1≠a:=by
 induction u with
 |head=>exact CT (ndM nd).1
 |tail u ih=>exact List.forall_mem_cons.mpr ⟨fun e=>CT (ndM nd).1 _ u.mem e.symm,ih (ndM nd).2⟩
theorem az.freeze {x:Cx} {H:PM} {O O':Own} {s:Shared} {a:Addr} {ds:List D} (R:az x H O s) (u:Rem a (.list ds) O O') :
  ∃ H',H≤H'∧az x H' O' s∧ac H' (.ref a) (.lst ds)∧∀ b,b≠a→H' b=H b:=by
 obtain ⟨vs,n,e,rs⟩:=R.hO _ u.mem;have hH:=R.dH _ u.mem;have le:=Pp (o:=⟨.type "list",.none,.seq (List.toArray vs) n,#[]⟩) hH;refine ⟨H.put a _,le,az.addH (R.sub u.sub) e hH (u.ne R.nd) (R.dP _ u.mem),?_,fun b hb=>Pn hb⟩;exact .lst Ph (rs.mono le)
end
section
structure Cc where
 x:Cx
 A:Around
 env:Env
 own:Bool:=true
structure Pl (env:Env) (H:PM) (loc:List (Str×D)) (h:Heap):Prop where
 ns:∃ m,h.Ns env.locals m∧∀ y d,lk loc y=some d→env.kindOf y=some .local→∃ v,m y=some v∧ac H v d
 cl:∀ y d,lk loc y=some d→env.kindOf y=some .cell∨env.kindOf y=some .free→∃ c v,env.cells.lookup y=some c∧h.IsCell c (some v)∧ac H v d
 cs:∀ y c,(y,c)∈env.cells→∃ v,h.IsCell c v
structure Nw (env:Env) (own:Bool) (x:Cx) (H:PM) (O:Own):Prop where
 lH:H env.locals=.none
 lP:x.P env.locals=.none
 lO:∀ p∈O,p.1≠env.locals
 cH:∀ y c,(y,c)∈env.cells→H c=.none∧c≠env.locals∧∀ p∈O,p.1≠c
 cP:own=true→∀ y c,(y,c)∈env.cells→env.kindOf y=some .cell→x.P c=.none
 ca:own=true→env.cells.Pairwise fun p q=>p.2≠q.2
structure ag (c:Cc) (H:PM) (loc:List (Str×D)) (O:Own) (s:Shared):Prop where
 t:az c.x H O s
 f:Pl c.env H loc s.heap
 o:Nw c.env c.own c.x H O
theorem Pl.to {env H H' loc} (F:Pl env H loc h) (le:H≤H') (k1:∀ m,h.Ns env.locals m→h'.Ns env.locals m) (k2:∀ c v y,(y,c)∈env.cells→h.IsCell c v→h'.IsCell c v) (lm:∀ y c,env.cells.lookup y=some c→(y,c)∈env.cells):Pl env H' loc h' where
 ns:=al F.ns fun m a b=>⟨m,k1 m a,fun y d e k=>al (b y d e k) fun v p q=>⟨v,p,q.mono le⟩⟩
 cl y d e k:=dR (F.cl y d e k) fun c v p q r=>⟨c,v,p,k2 c _ y (lm y c p) q,r.mono le⟩
 cs y c e:=(F.cs y c e).elim fun v q=>⟨v,k2 c v y e q⟩
theorem bQ {y:Str} {c:Addr} {l:List (Str×Addr)} (e:l.lookup y=some c):(y,c)∈l :=
 (List.lookup_eq_some_iff.mp e).elim fun _ q=>q.elim fun _ q=>q.1▸List.mem_append_right _ (.head _)
theorem Pl.mono {env H H' loc h} (F:Pl env H loc h) (le:H≤H'):Pl env H' loc h:=F.to le (fun _ a=>a) (fun _ _ _ _ q=>q) fun _ _=>bQ
theorem Pl.keeps {env H loc} (F:Pl env H loc h) (k:∀ b o,h.get? b=some o→h'.get? b=some o):Pl env H loc h' :=
 F.to (Pr _) (fun _ a=>a.keeps k) (fun _ _ _ _ q=>q.keeps k) fun _ _=>bQ
theorem Pl.sameBut {env H loc} {a:Addr} (F:Pl env H loc h) (hs:Heap.SameBut a h h') (hl:env.locals≠a) (hc:∀ y c,(y,c)∈env.cells→c≠a):Pl env H loc h' :=
 F.to (Pr _) (fun _ x=>x.sameBut hs hl) (fun _ _ y m q=>q.sameBut hs (hc y _ m)) fun _ _=>bQ
section
variable {c:Cc} {H:PM} {loc:List (Str×D)} {O O':Own} {s s':Shared}
theorem ag.keeps (R:ag c H loc O s) (k:∀ b o,s.heap.get? b=some o→s'.heap.get? b=some o) (hg:s'.gens=s.gens:=by rfl) (ho:s'.os=s.os:=by rfl) (hd:s'.drawn=s.drawn:=by rfl):ag c H loc O s' :=
 ⟨R.t.keeps k hg ho hd,R.f.keeps k,R.o⟩
theorem ag.tok (R:ag c H loc O s) (t:Nat):ag c H loc O {s with toks:=t}:=R.keeps (s':={s with toks:=t}) fun _ _ e=>e
theorem ag.addH (R:ag c H loc O s) {a:Addr} {o:Obj} (e:s.heap.get? a=some o) (hH:H a=.none) (hO:∀ p∈O,p.1≠a) (hP:c.x.P a=.none) (hl:a≠c.env.locals) (hc:∀ y b,(y,b)∈c.env.cells→b≠a):ag c (H.put a o) loc O s :=
 ⟨R.t.addH e hH hO hP,R.f.mono (Pp hH),⟨by rw [Pn (Ne.symm hl)];exact R.o.lH,R.o.lP,R.o.lO,fun y b q=>⟨by rw [Pn (hc y b q)];exact (R.o.cH y b q).1,(R.o.cH y b q).2⟩,R.o.cP,R.o.ca⟩⟩
theorem ag.size (R:ag c H loc O s):c.env.locals<s.heap.objs.size∧∀ y b,(y,b)∈c.env.cells→b<s.heap.objs.size:=by
 refine al R.f.ns fun m n _=>?_;exact ⟨n.lt,fun y b q=>let ⟨v,z⟩:=R.f.cs y b q;z.lt⟩
theorem ag.push (R:ag c H loc O s) (o:Obj) (t:Nat) (hf:o.isFreed=false:=by rfl) :
  ag c (H.put s.heap.objs.size o) loc O {s with heap:=s.heap.push o,toks:=t}∧H≤H.put s.heap.objs.size o:=by
 have f:=R.t.fresh;have z:=R.size;exact ⟨ag.addH (R.keeps (s':={s with heap:=s.heap.push o,toks:=t}) fun b ob e=>Hp _ e) (Hs _ hf) f.1 f.2.2 f.2.1 (Nat.ne_of_gt z.1) (fun y b q=>Nat.ne_of_lt (z.2 y b q)),Pp f.1⟩
theorem ag.addO (R:ag c H loc O s) {a:Addr} {so:SO} (e:jb H s.heap a so) (hH:H a=.none) (hO:∀ p∈O,p.1≠a) (hP:c.x.P a=.none) (hl:a≠c.env.locals) (hc:∀ y b,(y,b)∈c.env.cells→a≠b):ag c H loc ((a,so)::O) s :=
 ⟨R.t.addO e hH hO hP,R.f,⟨R.o.lH,R.o.lP,List.forall_mem_cons.mpr ⟨hl,R.o.lO⟩,fun y b q=>gB (R.o.cH y b q) fun u v w=>⟨u,v,List.forall_mem_cons.mpr ⟨hc y b q,w⟩⟩,R.o.cP,R.o.ca⟩⟩
theorem ag.pushO (R:ag c H loc O s) (o:Obj) (t:Nat) (so:SO) (e:∀ h':Heap,h'.get? s.heap.objs.size=some o→jb H h' s.heap.objs.size so) (hf:o.isFreed=false:=by rfl) :
  ag c H loc ((s.heap.objs.size,so)::O) {s with heap:=s.heap.push o,toks:=t}:=by
 have f:=R.t.fresh;have z:=R.size;exact ag.addO (R.keeps (s':={s with heap:=s.heap.push o,toks:=t}) fun b ob e=>Hp _ e) (e _ (Hs _ hf)) f.1 f.2.2 f.2.1 (Nat.ne_of_gt z.1) (fun y b q=>Nat.ne_of_gt (z.2 y b q))
theorem ag.sub (R:ag c H loc O s) (h:O'.Sublist O):ag c H loc O' s :=
 ⟨R.t.sub h,R.f,⟨R.o.lH,R.o.lP,fun p hp=>R.o.lO p (h.subset hp),fun y b q=>⟨(R.o.cH y b q).1,(R.o.cH y b q).2.1,fun p hp=>(R.o.cH y b q).2.2 p (h.subset hp)⟩,R.o.cP,R.o.ca⟩⟩
theorem Upd.addr {a so so' O O'} (u:Upd a so so' O O'):∀ p∈O',∃ q∈O,q.1=p.1:=fun p hp=>(u.split p hp).elim (fun e=>⟨_,u.mem,(Cg Prod.fst e).symm⟩) fun h=>⟨p,h,rfl⟩
theorem ag.upd {a:Addr} {so so':SO} (R:ag c H loc O s) (u:Upd a so so' O O') (hs:Heap.SameBut a s.heap s'.heap) (e:jb H s'.heap a so')
  (hg:s'.gens=s.gens:=by rfl) (ho:s'.os=s.os:=by rfl) (hd:s'.drawn=s.drawn:=by rfl):ag c H loc O' s' :=
 ⟨R.t.upd u hs e hg ho hd,R.f.sameBut hs (Ne.symm (R.o.lO _ u.mem)) (fun y b q=>Ne.symm ((R.o.cH y b q).2.2 _ u.mem)),
  ⟨R.o.lH,R.o.lP,fun p hp=>al (u.addr p hp) fun q hq e=>e▸R.o.lO q hq,fun y b z=>gB (R.o.cH y b z) fun i j k=>⟨i,j,fun p hp=>al (u.addr p hp) fun q hq e=>e▸k q hq⟩,R.o.cP,R.o.ca⟩⟩
theorem ag.freeze {a:Addr} {ds:List D} (R:ag c H loc O s) (u:Rem a (.list ds) O O'):∃ H',H≤H'∧ag c H' loc O' s∧ac H' (.ref a) (.lst ds):=by
 refine ut (R.t.freeze u) fun H' le T rd same=>?_;have S:=R.sub u.sub;refine ⟨H',le,⟨T,R.f.mono le,⟨?_,S.o.lP,S.o.lO,fun y b q=>⟨?_,(S.o.cH y b q).2⟩,S.o.cP,S.o.ca⟩⟩,rd⟩
 ·rw [same _ (Ne.symm (R.o.lO _ u.mem))];exact R.o.lH
 ·rw [same _ (Ne.symm ((R.o.cH y b q).2.2 _ u.mem))];exact (R.o.cH y b q).1
theorem r7 {α:Type} {d d':α} {l:List (Str×α)} {G:Prop} (e:lk ((y,d)::l) z=some d') (h:y=z→d=d'→G) (k:y≠z→lk l z=some d'→G):G:=by
 by_cases q:y=z
 ·exact h q (Option.some.inj ((if_pos q).symm.trans e))
 ·exact k q ((if_neg q).symm.trans e)
theorem ag.store {y:Str} {v:Value} {t:Nat} (R:ag c H loc O s) (rd:ac H v d) (hn:h'.Ns c.env.locals (fun x=>if x=y then some v else (R.f.ns.choose) x)) (hs:Heap.SameBut c.env.locals s.heap h') (hk:c.env.kindOf y=some .local) :
  ag c H ((y,d)::loc) O {s with heap:=h',toks:=t}:=by
 have hm:=R.f.ns.choose_spec;refine ⟨⟨R.t.gens,R.t.os,R.t.drawn,fun a o e=>(hs.2 a fun z=>aS e ((Cg H z).trans R.o.lH)).trans (R.t.hH a o e),fun a o b e=>al (R.t.hP a o b e) fun o' q r=>⟨o',(hs.2 a fun z=>aS e ((Cg c.x.P z).trans R.o.lP)).trans q,r⟩,fun p hp=>(R.t.hO p hp).same (hs.2 _ (R.o.lO p hp)),R.t.nd,R.t.dH,R.t.dP,R.t.dHP,R.t.bare,R.t.hB⟩,⟨⟨_,hn,fun z d' e k=>?_⟩,fun z d' e k=>?_,fun z b e=>?_⟩,R.o⟩
 ·exact r7 e (fun q q'=>⟨v,if_pos q.symm,q'▸rd⟩) fun q e=>al (hm.2 z d' e k) fun u a b=>⟨u,(if_neg (Ne.symm q)).trans a,b⟩
 ·exact r7 e (fun q _=>by subst q;rw [hk] at k;rcases k with k|k<;>cases k) fun _ e=>dR (R.f.cl z d' e k) fun b u p r w=>⟨b,u,p,r.sameBut hs (R.o.cH _ _ (bQ p)).2.1,w⟩
 ·exact (R.f.cs z b e).elim fun u r=>⟨u,r.sameBut hs (R.o.cH _ _ e).2.1⟩
theorem vo {l:List (Str×Addr)} (h:l.Pairwise fun p q=>p.2≠q.2) {p q:Str×Addr} (hp:p∈l) (hq:q∈l) (e:p.2=q.2):p=q:=by
 induction l with
 |nil=>exact absurd hp List.not_mem_nil
 |cons x l ih =>
  have h':=List.pairwise_cons.mp h
  rcases List.mem_cons.mp hp with e1|hp'
  ·exact (List.mem_cons.mp hq).elim (fun e2=>e1.trans e2.symm) fun hq'=>absurd ((Cg Prod.snd e1).symm.trans e) (h'.1 q hq')
  ·exact (List.mem_cons.mp hq).elim (fun e2=>absurd ((Cg Prod.snd e2).symm.trans e.symm) (h'.1 p hp')) fun hq'=>ih h'.2 hp' hq'
theorem ag.storeCell {y:Str} {v:Value} {b:Addr} (R:ag c H loc O s) (rd:ac H v d) (hc:c.env.cells.lookup y=some b) (hv:h'.IsCell b (some v)) (hs:Heap.SameBut b s.heap h') (hk:c.env.kindOf y=some .cell) (hw:c.own=true) :
  ag c H ((y,d)::loc) O {s with heap:=h'}:=by
 have hm:=bQ hc;have cH:=R.o.cH _ _ hm;refine ⟨⟨R.t.gens,R.t.os,R.t.drawn,fun a o e=>(hs.2 a fun z=>aS e ((Cg H z).trans cH.1)).trans (R.t.hH a o e),fun a o k e=>al (R.t.hP a o k e) fun o' q r=>⟨o',(hs.2 a fun z=>aS e ((Cg c.x.P z).trans (R.o.cP hw _ _ hm hk))).trans q,r⟩,fun p hp=>(R.t.hO p hp).same (hs.2 _ (cH.2.2 p hp)),R.t.nd,R.t.dH,R.t.dP,R.t.dHP,R.t.bare,R.t.hB⟩,⟨?_,fun z d' e k=>?_,fun z b' e=>?_⟩,R.o⟩
 ·exact al R.f.ns fun m n q=>⟨m,n.sameBut hs (Ne.symm cH.2.1),fun z d' e k=>r7 e (fun w _=>by subst w;rw [hk] at k;cases k) fun _ e=>q z d' e k⟩
 ·exact r7 e (fun q q'=>⟨b,v,q▸hc,hv,q'▸rd⟩) fun q e=>dR (R.f.cl z d' e k) fun b' u p r w=>⟨b',u,p,r.sameBut hs fun z'=>q (Cg Prod.fst (vo (R.o.ca hw) (bQ p) hm z')).symm,w⟩
 ·by_cases q:b'=b
  ·exact ⟨_,q▸hv⟩
  ·exact (R.f.cs z b' e).elim fun u r=>⟨u,r.sameBut hs q⟩
end
end
section
noncomputable abbrev Cc.M (c:Cc):Model:=model c.x.prog c.x.w
noncomputable abbrev Loc:=List (Str×D)
def Ev (c:Cc) (e:PySem.Expr) (loc:Loc) (O:Own) (K:D→Own→Prop) (E:Value→Shared→Prop):Prop :=
 ∀ H s Q,ag c H loc O s→(∀ H' s' v d O',K d O'→ag c H' loc O' s'→H≤H'→ac H' v d→Q v s')→wpAny c.M c.A (eval e c.env) Q E s
def Evs (c:Cc) (p:Pos) (es:List PySem.Expr) (loc:Loc) (O:Own) (K:List D→Own→Prop) (E:Value→Shared→Prop):Prop :=
 ∀ H s Q,ag c H loc O s→(∀ H' s' vs ds O',K ds O'→ag c H' loc O' s'→H≤H'→af H' vs ds→Q vs s')→wpAny c.M c.A (spliced (backTo p (starEach es c.env))) Q E s
def Op (c:Cc) (t:List Value→Sem Value) (ds:List D) (loc:Loc) (O:Own) (K:D→Own→Prop) (E:Value→Shared→Prop):Prop :=
 ∀ H s Q vs,ag c H loc O s→af H vs ds→(∀ H' s' v d O',K d O'→ag c H' loc O' s'→H≤H'→ac H' v d→Q v s')→wpAny c.M c.A (t vs) Q E s
def Tst (c:Cc) (e:PySem.Expr) (loc:Loc) (O:Own) (K:Bool→Own→Prop) (E:Value→Shared→Prop):Prop :=
 ∀ H s Q,ag c H loc O s→(∀ H' s' b O',K b O'→ag c H' loc O' s'→H≤H'→Q b s')→wpAny c.M c.A (PySem.isTrue e c.env (eval e c.env)) Q E s
def Tru (c:Cc) (d:D) (loc:Loc) (O:Own) (K:Bool→Own→Prop) (E:Value→Shared→Prop):Prop :=
 ∀ H s Q v,ag c H loc O s→ac H v d→(∀ H' s' b O',K b O'→ag c H' loc O' s'→H≤H'→Q b s')→wpAny c.M c.A (truthy v) Q E s
inductive Fl where|next|brk|cont|ret (d:D)
inductive jB (H:PM):Flow→Fl→Prop
 |next:jB H .next .next|brk:jB H .brk .brk|cont:jB H .cont .cont
 |ret {v d}:ac H v d→jB H (.ret v) (.ret d)
theorem jB.cNext {H:PM} {m:∀ f,jB H f .next→Prop} (next:m .next .next) {f:Flow} (r:jB H f .next):m f r:=by cases r;exact next
def Ex (c:Cc) (st:PySem.Stmt) (loc:Loc) (O:Own) (K:Fl→Loc→Own→Prop) (E:Value→Shared→Prop):Prop :=
 ∀ H s Q,ag c H loc O s→(∀ H' s' f g loc' O',K g loc' O'→ag c H' loc' O' s'→H≤H'→jB H' f g→Q f s')→wpAny c.M c.A (exec st c.env) Q E s
def Exs (c:Cc) (ss:List PySem.Stmt) (loc:Loc) (O:Own) (K:Fl→Loc→Own→Prop) (E:Value→Shared→Prop):Prop :=
 ∀ H s Q,ag c H loc O s→(∀ H' s' f g loc' O',K g loc' O'→ag c H' loc' O' s'→H≤H'→jB H' f g→Q f s')→wpAny c.M c.A (execs ss c.env) Q E s
def St (c:Cc) (t:Value→Sem Unit) (d:D) (loc:Loc) (O:Own) (K:Loc→Own→Prop) (E:Value→Shared→Prop):Prop :=
 ∀ H s Q v,ag c H loc O s→ac H v d→(∀ H' s' loc' O',K loc' O'→ag c H' loc' O' s'→H≤H'→Q () s')→wpAny c.M c.A (t v) Q E s
def bI (x:Cx) (A:Around) (t:List Value→Sem Value) (ds:List D) (O:Own) (K:D→Own→Prop) (E:Value→Shared→Prop):Prop :=
 ∀ H s Q vs,az x H O s→af H vs ds→(∀ H' s' v d O',K d O'→az x H' O' s'→H≤H'→ac H' v d→Q v s')→wpAny (model x.prog x.w) A (t vs) Q E s
abbrev Ml (c:Cc) (ss:List PySem.Stmt) (KF:Fl→Loc→Own→Prop) (E:Value→Shared→Prop):Fl→Loc→Own→Prop:=fun f loc1 O₁=>match f with|.next=>Exs c ss loc1 O₁ KF E|g=>KF g loc1 O₁
abbrev kIf (c:Cc) (b o:List PySem.Stmt) (loc:Loc) (KF:Fl→Loc→Own→Prop) (E:Value→Shared→Prop):Bool→Own→Prop:=fun z O₁=>if z=true then Exs c b loc O₁ KF E else Exs c o loc O₁ KF E
abbrev Mm (loc:Loc) (KF:Fl→Loc→Own→Prop):D→Own→Prop:=fun d O₁=>KF (.ret d) loc O₁
abbrev Dq (loc:Loc) (KF:Fl→Loc→Own→Prop):D→Own→Prop:=fun _ O₁=>KF .next loc O₁
abbrev kTo (KF:Fl→Loc→Own→Prop):Loc→Own→Prop:=fun loc' O2=>KF .next loc' O2
abbrev GC (c:Cc) (y:Str) (loc:Loc) (KF:Fl→Loc→Own→Prop) (E:Value→Shared→Prop):D→Own→Prop:=fun d O₁=>St c (storeName c.env y) d loc O₁ (kTo KF) E
abbrev Mv (c:Cc) (op:Operator) (a:D) (loc:Loc) (K:D→Own→Prop) (E:Value→Shared→Prop):D→Own→Prop:=fun b O2=>Op c (fun vs=>binaryOp op (vs.headD .none) (vs.tail.headD .none)) [a,b] loc O2 K E
abbrev NY (c:Cc) (op:Operator) (r:PySem.Expr) (loc:Loc) (K:D→Own→Prop) (E:Value→Shared→Prop):D→Own→Prop:=fun a O₁=>Ev c r loc O₁ (Mv c op a loc K E) E
abbrev kUn (c:Cc) (op:UnaryOp) (loc:Loc) (K:D→Own→Prop) (E:Value→Shared→Prop):D→Own→Prop:=fun a O₁=>Op c (fun vs=>unaryOp op (vs.headD .none)) [a] loc O₁ K E
abbrev Mu (c:Cc) (op:CmpOp) (a:D) (loc:Loc) (K:D→Own→Prop) (E:Value→Shared→Prop):D→Own→Prop:=fun b O2=>Op c (fun vs=>compareOp op (vs.headD .none) (vs.tail.headD .none)) [a,b] loc O2 K E
abbrev Dr (c:Cc) (op:CmpOp) (r:PySem.Expr) (loc:Loc) (K:D→Own→Prop) (E:Value→Shared→Prop):D→Own→Prop:=fun a O₁=>Ev c r loc O₁ (Mu c op a loc K E) E
abbrev Mq (c:Cc) (b o:PySem.Expr) (loc:Loc) (K:D→Own→Prop) (E:Value→Shared→Prop):Bool→Own→Prop:=fun z O₁=>if z=true then Ev c b loc O₁ K E else Ev c o loc O₁ K E
abbrev Dp (c:Cc) (loc:Loc) (KB:Bool→Own→Prop) (E:Value→Shared→Prop):D→Own→Prop:=fun d O₁=>Tru c d loc O₁ KB E
abbrev NS (KB:Bool→Own→Prop):Bool→Own→Prop:=fun b O₁=>KB (!b) O₁
abbrev Jg (d:D) (KL:List D→Own→Prop):List D→Own→Prop:=fun ds O2=>KL (d::ds) O2
abbrev Mt (c:Cc) (p:Pos) (es:List PySem.Expr) (loc:Loc) (KL:List D→Own→Prop) (E:Value→Shared→Prop):D→Own→Prop:=fun d O₁=>Evs c p es loc O₁ (Jg d KL) E
abbrev N0 (loc:Loc) (KF:Fl→Loc→Own→Prop):Bool→Own→Prop:=fun z O₁=>z=true∧KF .next loc O₁
abbrev Mw (c:Cc) (y:Str) (op:Operator) (a:D) (loc:Loc) (KF:Fl→Loc→Own→Prop) (E:Value→Shared→Prop):D→Own→Prop:=fun b O2=>Op c (fun vs=>inplaceOp op (vs.headD .none) (vs.tail.headD .none)) [a,b] loc O2 (GC c y loc KF E) E
abbrev NZ (c:Cc) (y:Str) (op:Operator) (e:PySem.Expr) (loc:Loc) (KF:Fl→Loc→Own→Prop) (E:Value→Shared→Prop):D→Own→Prop:=fun a O₁=>Ev c e loc O₁ (Mw c y op a loc KF E) E
abbrev Me (K:D→Own→Prop):List D→Own→Prop:=fun ds O₁=>ds.length≤sizeLine∧K (.tup ds) O₁
abbrev NT (K:D→Own→Prop):List D→Own→Prop:=fun ds O₁=>ds.length≤sizeLine∧K (.lst ds) O₁
abbrev Mo (K:D→Own→Prop):List D→Own→Prop:=fun ds O₁=>ds.length≤sizeLine∧∀ a,K (.stat (.ref a)) ((a,.list ds)::O₁)
section
variable {c:Cc} {loc:Loc} {O:Own} {E:Value→Shared→Prop} {K:D→Own→Prop} {KB:Bool→Own→Prop} {KF:Fl→Loc→Own→Prop} {KL:List D→Own→Prop} {KS:Loc→Own→Prop}
theorem Ev.mono {K':D→Own→Prop} (h:Ev c e loc O K E) (k:∀ d O',K d O'→K' d O'):Ev c e loc O K' E:=fun H s Q R q=>h H s Q R fun H' s' v d O' a=>q H' s' v d O' (k _ _ a)
theorem Op.mono {t ds} {K':D→Own→Prop} (h:Op c t ds loc O K E) (k:∀ d O',K d O'→K' d O'):Op c t ds loc O K' E:=fun H s Q vs R r q=>h H s Q vs R r fun H' s' v d O' a=>q H' s' v d O' (k _ _ a)
theorem Exs.mono {K':Fl→Loc→Own→Prop} (h:Exs c ss loc O KF E) (k:∀ f l O',KF f l O'→K' f l O'):Exs c ss loc O K' E:=fun H s Q R q=>h H s Q R fun H' s' f g l O' a=>q H' s' f g l O' (k _ _ _ a)
theorem bI.mono {x A t ds} {K':D→Own→Prop} (h:bI x A t ds O K E) (k:∀ d O',K d O'→K' d O'):bI x A t ds O K' E:=fun H s Q vs R r q=>h H s Q vs R r fun H' s' v d O' a=>q H' s' v d O' (k _ _ a)
theorem QD {i:Int} {k p} (h:K (.int i) O):Ev c (.Constant (.int i) k p) loc O K E:=fun _ s _ R q=>wpAny_Constant_int (q _ _ _ _ _ h (R.tok _) (Pr _) (.int i _))
theorem QC {x:Str} {k p} (h:K (.str x) O):Ev c (.Constant (.str x) k p) loc O K E:=fun _ s _ R q=>wpAny_Constant_str (q _ _ _ _ _ h (R.tok _) (Pr _) (.str x _))
theorem Qi {k p} (h:K .none O):Ev c (.Constant .none k p) loc O K E:=fun _ s _ R q=>wpAny_Constant_none (q _ _ _ _ _ h R (Pr _) .none)
theorem Qj {b:Bool} {k p} (h:K (.bool b) O):Ev c (.Constant (.bool b) k p) loc O K E:=fun _ s _ R q=>wpAny_Constant_bool (q _ _ _ _ _ h R (Pr _) (.bool b))
theorem Qc {b:List UInt8} {k p} (h:K (.bytes b) O):Ev c (.Constant (.bytes b) k p) loc O K E:=fun _ s _ R q =>
 Wm (wpAny_mkTextBytes (Q:=fun v s'=>v=.bytes b.toArray s.toks∧s'={s with toks:=s.toks+1}) ⟨rfl,rfl⟩) (fun v s' e=>by obtain ⟨rfl,rfl⟩:=e;exact q _ _ _ _ _ h (R.tok _) (Pr _) (.bytes b _)) fun _ _ e=>e
structure ey (env:Env):Prop where
 kind:env.scope.kind=.function
 glob:env.globals=mainGlobals
 blt:env.builtins=builtinsNs
theorem fT {y:Str} {p d} (e:lk loc y=some d) (hf:ey c.env) (hk:c.env.kindOf y=some .local) (h:K d O) (hd:(y==("__debug__":Str))=false:=by decide):Ev c (.Name y p) loc O K E:=fun _ _ _ R q=>by
 refine al R.f.ns fun m n r=>?_;refine al (r y d e hk) fun v a b=>?_;exact wpAny_Name (wpAny_loadName_local hf.kind hk n a (q _ _ _ _ _ h R (Pr _) b)) hd
theorem Hl {y:Str} {p d} (e:lk loc y=some d) (hf:ey c.env) (hk:c.env.kindOf y=some .cell) (h:K d O) (hd:(y==("__debug__":Str))=false:=by decide):Ev c (.Name y p) loc O K E:=fun _ _ _ R q=>by
 refine dR (R.f.cl y d e (.inl hk)) fun b v z r rd=>?_;exact wpAny_Name (wpAny_loadName_cell hf.kind hk z r (q _ _ _ _ _ h R (Pr _) rd)) hd
def Nv (x:Cx) (y:Str) (v:Value):Prop:=∀ H O s,az x H O s→∃ mg,s.heap.Ns mainGlobals mg∧mg y=some v
def Ny (x:Cx) (y:Str) (v:Value):Prop:=∀ H O s,az x H O s→∃ mg mb,s.heap.Ns mainGlobals mg∧mg y=.none∧s.heap.Ns builtinsNs mb∧mb y=some v
theorem Hj {y:Str} {p v} (g:Nv c.x y v) (hf:ey c.env) (hk:c.env.kindOf y=some .globalImplicit) (h:K (.stat v) O) (hd:(y==("__debug__":Str))=false:=by decide):Ev c (.Name y p) loc O K E:=fun _ _ _ R q=>by
 refine al (g _ _ _ R.t) fun mg n e=>?_;exact Name_function_global hf.kind hk (loadGlobal_global (hf.glob▸n) e (q _ _ _ _ _ h R (Pr _) (.stat v))) hd
theorem Hn {y:Str} {p v} (g:Ny c.x y v) (hf:ey c.env) (hk:c.env.kindOf y=some .globalImplicit) (h:K (.stat v) O) (hd:(y==("__debug__":Str))=false:=by decide):Ev c (.Name y p) loc O K E:=fun _ _ _ R q=>by
 refine jR (g _ _ _ R.t) fun mg mb n e n' e'=>?_;exact Name_function_global hf.kind hk (loadGlobal_builtin (hf.glob▸n) e (hf.blt▸n') e' (q _ _ _ _ _ h R (Pr _) (.stat v))) hd
theorem QE {l op r p} (h:Ev c l loc O (NY c op r loc K E) E):Ev c (.BinOp l op r p) loc O K E:=fun H s Q R q =>
 wpAny_BinOp (h H s _ R fun H₁ sA vA d₁ O₁ h_1 R1 le1 rA=>h_1 H₁ sA _ R1 fun HB s2 vB dB O2 h_2 R2 le2 rB=>h_2 HB s2 _ [vA,vB] R2 (.two (rA.mono le2) rB) fun H' s' v d O' k R' le' rd=>q H' s' v d O' k R' (Pt le1 (Pt le2 le')) rd)
theorem QP {op r p} (h:Ev c r loc O (kUn c op loc K E) E):Ev c (.UnaryOp op r p) loc O K E:=fun H s Q R q =>
 wpAny_UnaryOp (h H s _ R fun H₁ sA vA d₁ O₁ h_1 R1 le1 rA=>h_1 H₁ sA _ [vA] R1 (.one rA) fun H' s' v d O' k R' le' rd=>q H' s' v d O' k R' (Pt le1 le') rd)
theorem K6 {l op r p} (h:Ev c l loc O (Dr c op r loc K E) E) (hb:behindInMarks op r=false:=by rfl):Ev c (.Compare l [op] [r] p) loc O K E:=fun H s Q R q =>
 wpAny_Compare1 (h H s _ R fun H₁ sA vA d₁ O₁ h_1 R1 le1 rA=>h_1 H₁ sA _ R1 fun HB s2 vB dB O2 h_2 R2 le2 rB=>h_2 HB s2 _ [vA,vB] R2 (.two (rA.mono le2) rB) fun H' s' v d O' k R' le' rd=>q H' s' v d O' k R' (Pt le1 (Pt le2 le')) rd) hb
theorem cu {t b o p} (h:Tst c t loc O (Mq c b o loc K E) E):Ev c (.IfExp t b o p) loc O K E:=fun H s Q R q =>
 wpAny_IfExp (h H s _ R fun H₁ sA z O₁ h_1 R1 le1=>by
  dsimp only [Mq] at h_1 ⊢
  by_cases e:z=true
  ·rw [if_pos e] at h_1 ⊢;exact h_1 H₁ sA Q R1 fun H' s' v d O' k R' le' rd=>q H' s' v d O' k R' (Pt le1 le') rd
  ·rw [if_neg e] at h_1 ⊢;exact h_1 H₁ sA Q R1 fun H' s' v d O' k R' le' rd=>q H' s' v d O' k R' (Pt le1 le') rd)
theorem yY {l op r p} (h:Ev c l loc O (Dr c op r loc (Dp c loc KB E) E) E) (hb:behindInMarks op r=false:=by rfl):Tst c (.Compare l [op] [r] p) loc O KB E:=fun H s Q R q =>
 wpAny_isTrue_Compare1 (h H s _ R fun H₁ sA vA d₁ O₁ h_1 R1 le1 rA=>h_1 H₁ sA _ R1 fun HB s2 vB dB O2 h_2 R2 le2 rB=>h_2 HB s2 _ [vA,vB] R2 (.two (rA.mono le2) rB) fun H3 s3 v d O' k R' le' rd=>k H3 s3 _ v R' rd fun H' s' b O'' kb R'' le''=>q H' s' b O'' kb R'' (Pt le1 (Pt le2 (Pt le' le'')))) hb
theorem E8 (h:Ev c e loc O (Dp c loc KB E) E) (hw:∀ whole,PySem.isTrue e c.env whole=(do let v ← whole;standAt e.pos;holding [v] (truthy v)):=by intro _;rfl):Tst c e loc O KB E:=fun H s Q R q =>
 wpAny_isTrue_value (h H s _ R fun H₁ sA vA d₁ O₁ h_1 R1 le1 rA=>h_1 H₁ sA _ vA R1 rA fun H' s' b O' kb R' le'=>q H' s' b O' kb R' (Pt le1 le')) (hw _)
theorem E9 {e p} (h:Tst c e loc O (NS KB) E):Tst c (.UnaryOp .Not e p) loc O KB E:=fun H s Q R q =>
 wpAny_isTrue_Not (h H s _ R fun H₁ sA b O₁ h_1 R1 le1=>q H₁ sA _ O₁ h_1 R1 le1)
def All (c:Cc) (op:BoolOp) (es:List PySem.Expr) (loc:Loc) (O:Own) (K:Bool→Own→Prop) (E:Value→Shared→Prop):Prop :=
 ∀ H s Q,ag c H loc O s→(∀ H' s' b O',K b O'→ag c H' loc O' s'→H≤H'→Q b s')→wpAny c.M c.A (allTrue op es c.env) Q E s
abbrev Mx (c:Cc) (es:List PySem.Expr) (loc:Loc) (KB:Bool→Own→Prop) (E:Value→Shared→Prop):Bool→Own→Prop:=fun b O₁=>if b=true then All c .And es loc O₁ KB E else KB false O₁
abbrev kOr (c:Cc) (es:List PySem.Expr) (loc:Loc) (KB:Bool→Own→Prop) (E:Value→Shared→Prop):Bool→Own→Prop:=fun b O₁=>if b=true then KB true O₁ else All c .Or es loc O₁ KB E
theorem pG {op es p} (h:All c op es loc O KB E):Tst c (.BoolOp op es p) loc O KB E:=fun H s Q R q=>wpAny_isTrue_BoolOp (h H s Q R q)
theorem nW (h:KB true O):All c .And [] loc O KB E:=fun H s Q R q=>wpAny_allTrue_And_nil (q H s _ _ h R (Pr _))
theorem hJ (h:KB false O):All c .Or [] loc O KB E:=fun H s Q R q=>by refine (?_:wpAny _ _ (pure (BoolOp.Or==BoolOp.And)) _ _ _);exact Wp (q H s _ _ h R (Pr _))
theorem hU (h:Tst c e loc O (Mx c es loc KB E) E):All c .And (e::es) loc O KB E:=fun H s Q R q =>
 wpAny_allTrue_And_cons (h H s _ R fun H₁ sA b O₁ h_1 R1 le1=>by
  dsimp only [Mx] at h_1 ⊢
  by_cases z:b=true
  ·rw [if_pos z] at h_1 ⊢;exact h_1 H₁ sA Q R1 fun H' s' b O' kb R' le'=>q H' s' b O' kb R' (Pt le1 le')
  ·rw [if_neg z] at h_1 ⊢;exact q _ _ _ _ h_1 R1 le1)
theorem yK (h:Tst c e loc O (kOr c es loc KB E) E):All c .Or (e::es) loc O KB E:=fun H s Q R q =>
 wpAny_allTrue_Or_cons (h H s _ R fun H₁ sA b O₁ h_1 R1 le1=>by
  dsimp only [kOr] at h_1 ⊢
  by_cases z:b=true
  ·rw [if_pos z] at h_1 ⊢;exact q _ _ _ _ h_1 R1 le1
  ·rw [if_neg z] at h_1 ⊢;exact h_1 H₁ sA Q R1 fun H' s' b O' kb R' le'=>q H' s' b O' kb R' (Pt le1 le'))
theorem BU {b:Bool} (h:KB b O):Tru c (.bool b) loc O KB E:=fun H s Q v R rd q=>by
 cases rd using ac.cBool;exact wpAny_truthy_bool (q H s b O h R (Pr _))
theorem jP {p} (h:KL [] O):Evs c p [] loc O KL E:=fun H s Q R q=>by
 refine (?_:wpAny _ _ (pure []) _ _ _);exact Wp (q H s _ _ O h R (Pr _) .nil)
theorem tR {A:Around} {E:Value→Shared→Prop} {s:Shared} {x:Sem Value} {r:List (Bool×Sem Value)} {Q:List Value→Shared→Prop}
  (h:wpAny M A x (fun v sA=>wpAny M A (spliced r) (fun vs s2=>Q (v::vs) s2) E sA) E s):wpAny M A (spliced ((false,x)::r)) Q E s:=by
 skip;refine Wb (Wm h (fun v sA h_1=>?_) fun _ _ e=>e);refine Wb (Wp ?_);exact Wb (Wh (Wm h_1 (fun vs s2 h_2=>Wp h_2) fun _ _ e=>e))
theorem wd {p e es} (h:Ev c e loc O (Mt c p es loc KL E) E) (hs:starEach (e::es) c.env=(false,eval e c.env)::starEach es c.env:=by rfl):Evs c p (e::es) loc O KL E:=fun H s Q R q=>by
 rw [hs];refine tR (h H s _ R fun H₁ sA vA d₁ O₁ h_1 R1 le1 rA=>h_1 H₁ sA _ R1 fun HB s2 vs ds O2 h_2 R2 le2 rs=>q HB s2 _ _ O2 h_2 R2 (Pt le1 le2) (.cons (rA.mono le2) rs))
theorem QB {es k p} (h:Evs c p es loc O (Me K) E):Ev c (.Tuple es k p) loc O K E:=fun H s Q R q =>
 wpAny_Tuple_spliced (h H s _ R fun H₁ sA vs ds O₁ h_1 R1 le1 rs=>⟨by rw [rs.length];exact h_1.1,by
  obtain ⟨R',le'⟩:=R1.push {cls:=.type "tuple",data:=.seq vs.toArray} sA.toks;exact q _ _ _ _ _ h_1.2 R' (Pt le1 le') (.tup Ph (rs.mono le'))⟩)
theorem D8 {es p} (h:Evs c p es loc O (NT K) E):Ev c (.List es p) loc O K E:=fun H s Q R q =>
 wpAny_List_spliced (h H s _ R fun H₁ sA vs ds O₁ h_1 R1 le1 rs=>⟨by rw [rs.length];exact h_1.1,by
  obtain ⟨R',le'⟩:=R1.push {cls:=.type "list",data:=.seq vs.toArray} sA.toks;exact q _ _ _ _ _ h_1.2 R' (Pt le1 le') (.lst Ph (rs.mono le'))⟩)
theorem um {es p} (h:Evs c p es loc O (Mo K) E):Ev c (.List es p) loc O K E:=fun H s Q R q =>
 wpAny_List_spliced (h H s _ R fun H₁ sA vs ds O₁ h_1 R1 le1 rs=>⟨by rw [rs.length];exact h_1.1,by
  have R':=R1.pushO {cls:=.type "list",data:=.seq vs.toArray} sA.toks (.list ds) (fun h' e=>⟨vs,_,e,rs⟩);exact q _ _ _ _ _ (h_1.2 _) R' le1 (.stat _)⟩)
theorem bl (h:KF .next loc O):Exs c [] loc O KF E:=fun H s Q R q=>wpAny_execs_nil (q _ _ _ _ _ _ h R (Pr _) .next)
theorem ad {st ss} (h:Ex c st loc O (Ml c ss KF E) E):Exs c (st::ss) loc O KF E:=fun H s Q R q =>
 wpAny_execs_cons (h H s _ R fun H₁ sA f g lA O₁ h_1 R1 le1 fi=>by
  cases fi with
  |next=>exact h_1 H₁ sA Q R1 fun H' s' f g l O' k R' le' fi=>q H' s' f g l O' k R' (Pt le1 le') fi
  |brk=>exact q _ _ _ _ _ _ h_1 R1 le1 .brk
  |cont=>exact q _ _ _ _ _ _ h_1 R1 le1 .cont
  |ret r=>exact q _ _ _ _ _ _ h_1 R1 le1 (.ret r))
theorem qz {t b o p} (h:Tst c t loc O (kIf c b o loc KF E) E):Ex c (.If t b o p) loc O KF E:=fun H s Q R q =>
 wpAny_If (h H s _ R fun H₁ sA z O₁ h_1 R1 le1=>by
  dsimp only [kIf] at h_1 ⊢
  by_cases e:z=true
  ·rw [if_pos e] at h_1 ⊢;exact h_1 H₁ sA Q R1 fun H' s' f g l O' k R' le' fi=>q H' s' f g l O' k R' (Pt le1 le') fi
  ·rw [if_neg e] at h_1 ⊢;exact h_1 H₁ sA Q R1 fun H' s' f g l O' k R' le' fi=>q H' s' f g l O' k R' (Pt le1 le') fi)
theorem uk {e p} (h:Ev c e loc O (Mm loc KF) E):Ex c (.Return (some e) p) loc O KF E:=fun H s Q R q =>
 wpAny_Return_some (h H s _ R fun H₁ sA v d O₁ h_1 R1 le1 rd=>q _ _ _ _ _ _ h_1 R1 le1 (.ret rd))
theorem Qh {p} (h:KF (.ret .none) loc O):Ex c (.Return .none p) loc O KF E:=fun H s Q R q=>wpAny_Return_none (q _ _ _ _ _ _ h R (Pr _) (.ret .none))
theorem Hg {e p} (h:Ev c e loc O (Dq loc KF) E) (hi:interactive c.env=false:=by rfl) (hs:swapsWith e .none p.line c.env=pure false:=by rfl):Ex c (.Expr e p) loc O KF E:=fun H s Q R q =>
 wpAny_Expr_any (h H s _ R fun H₁ sA v d O₁ h_1 R1 le1 _=>q _ _ _ _ _ _ h_1 R1 le1 .next) hi hs
theorem PW {t m p} (h:Tst c t loc O (N0 loc KF) E):Ex c (.Assert t m p) loc O KF E:=fun H s Q R q =>
 wpAny_Assert_holds (h H s _ R fun H₁ sA z O₁ h_1 R1 le1=>⟨h_1.1,q _ _ _ _ _ _ h_1.2 R1 le1 .next⟩)
theorem wX {y:Str} (h:KS ((y,d)::loc) O) (hf:ey c.env) (hk:c.env.kindOf y=some .local):St c (storeName c.env y) d loc O KS E:=fun H s Q v R rd q=>by
 refine wpAny_storeName_local hk R.f.ns.choose_spec.1 (fun h' hn hs=>?_) (by rw [hf.kind];rfl);exact q H _ _ _ h (ag.store R rd hn hs hk) (Pr _)
theorem Fk {y:Str} {b:Addr} (h:KS ((y,d)::loc) O) (hf:ey c.env) (hk:c.env.kindOf y=some .cell) (hc:c.env.cells.lookup y=some b) (hw:c.own=true:=by rfl):St c (storeName c.env y) d loc O KS E:=fun H s Q v R rd q=>by
 obtain ⟨u,z⟩:=R.f.cs _ _ (bQ hc);exact wpAny_storeName_cell hf.kind hk hc z fun h' hv hs=>q H _ _ _ h (ag.storeCell R rd hc hv hs hk hw) (Pr _)
theorem Ba {y:Str} {p' e p} (h:Ev c e loc O (GC c y loc KF E) E)
  (hs:swapsWith e (some (.Name y p')) p.line c.env=pure false:=by rfl):Ex c (.Assign [.Name y p'] e p) loc O KF E:=fun H s Q R q =>
 wpAny_Assign_Name (h H s _ R fun H₁ sA v d O₁ h_1 R1 le1 rd=>h_1 H₁ sA _ v R1 rd fun H' s' l O' k R' le'=>q _ _ _ _ _ _ k R' (Pt le1 le') .next) hs
def Nm (c:Cc) (y:Str) (loc:Loc) (O:Own) (K:D→Own→Prop) (E:Value→Shared→Prop):Prop :=
 ∀ H s Q,ag c H loc O s→(∀ H' s' v d O',K d O'→ag c H' loc O' s'→H≤H'→ac H' v d→Q v s')→wpAny c.M c.A (loadName c.env y) Q E s
theorem Kj {y:Str} (e:lk loc y=some d) (hf:ey c.env) (hk:c.env.kindOf y=some .local) (h:K d O):Nm c y loc O K E:=fun _ _ _ R q=>by
 refine al R.f.ns fun m n r=>?_;refine al (r y d e hk) fun v a b=>?_;exact wpAny_loadName_local hf.kind hk n a (q _ _ _ _ _ h R (Pr _) b)
theorem Ge {y:Str} (e:lk loc y=some d) (hf:ey c.env) (hk:c.env.kindOf y=some .cell) (h:K d O):Nm c y loc O K E:=fun _ _ _ R q=>by
 refine dR (R.f.cl y d e (.inl hk)) fun b v z r rd=>?_;exact wpAny_loadName_cell hf.kind hk z r (q _ _ _ _ _ h R (Pr _) rd)
theorem QA {y:Str} {p' op e p} (h:Nm c y loc O (NZ c y op e loc KF E) E):Ex c (.AugAssign (.Name y p') op e p) loc O KF E:=fun H s Q R q =>
 wpAny_AugAssign_Name (h H s _ R fun H₁ sA vA d₁ O₁ h_1 R1 le1 rA=>h_1 H₁ sA _ R1 fun HB s2 vB dB O2 h_2 R2 le2 rB=>h_2 HB s2 _ [vA,vB] R2 (.two (rA.mono le2) rB) fun H3 s3 v d O3 k R3 le3 rd =>
  k H3 s3 _ v R3 rd fun H' s' l O' k R' le'=>q _ _ _ _ _ _ k R' (Pt le1 (Pt le2 (Pt le3 le'))) .next)
end
end
variable {prog:Program} {w:World} {c:Cc} {x:Cx} {A:Around} {env:Env} {s:Shared} {H:PM} {O:Own} {loc:Loc} {E:Value→Shared→Prop} {K':D→Own→Prop} {KF:Fl→Loc→Own→Prop} {KB:Bool→Own→Prop} {KM:Value→List D→Own→Prop} {l:List UInt8} {buf:List UInt8} {ds:List D} {y:Str} {name:Str} {scope:Scope} {fd:FuncData} {m:Addr} {dm:Addr} {L:Addr} {rest:Int} {sc:List Int} {elt:PySem.Expr} {target:PySem.Expr} {iter:PySem.Expr} {ifs:List PySem.Expr} {orelse:List PySem.Stmt} {KS:Loc→Own→Prop} {R:Result→Shared→Prop} {Rr:Result→Shared→Prop} {Z:Value→Shared→GenState→Prop} {x₀:Cx} {A₀:Around} {a:Addr} {vs:List Value} {n:Nat} {i:Nat} {p:Nat} {v:Int} {t:Tok} {h:Heap} {o:Obj} {b:Bool} {ts:Option Int} {att:Int} {crc:Int} {idx:Int} {num:Int} {s':Shared} {O':Own} {H':PM}
section
def Cx.le (x x':Cx):Prop:=(x'={x with P:=x'.P,B:=x'.B,gens:=x'.gens}∧x.B≤x'.B∧∀ g st,x.gens g=some st→x'.gens g=some st)∧∀ a ob,x.P a=some ob→x'.P a=some ob
theorem az.down {H O s} (le:x.le x') (R:az x' H O s):az x H O s where
 gens g st e:=R.gens g st (le.1.2.2 g st e)
 os:=R.os.trans (Cg Cx.os le.1.1 :)
 drawn:=R.drawn.trans (Cg Cx.drawn le.1.1 :)
 hH:=R.hH
 hP a o b e:=R.hP a o b (le.2 _ _ e)
 hO:=R.hO
 nd:=R.nd
 dH:=R.dH
 dP p hp:=gU fun ob q=>aS (le.2 _ _ q) (R.dP p hp)
 dHP a ob e:=R.dHP a ob (le.2 _ _ e)
 bare:=R.bare
 hB:=Pt le.1.2.1 R.hB
structure E1 (x:Cx) (f:Addr) (fd:FuncData):Prop where
 at':∀ H O s,az x H O s→(∃ o,s.heap.get? f=some o∧o.data=.func fd)∧s.heap.NoLimit∧s.heap.CodeRec fd.code fd.qualname
theorem qS {P:Str→Prop} (F:List (Str×Value)→(Str→Option Value)→Str→Option Value) (f0:∀ m,F [] m=m) (f1:∀ n v r m,∃ m',F ((n,v)::r) m=F r m'∧(P n→m' n=some v)∧∀ y,y≠n→m' y=m y)
  (names:List Str):∀ {vs ds} (_:af H vs ds) (m:Str→Option Value) (loc:Loc),(∀ y d,lk loc y=some d→P y→∃ v,m y=some v∧ac H v d) →
  ∀ y d,lk ((names.zip ds).reverse++loc) y=some d→P y→∃ v,F (names.zip vs) m y=some v∧ac H v d:=by
 induction names with
 |nil=>intro vs ds _ m loc h;exact (f0 m).symm▸h
 |cons n ns ih =>
  intro vs ds rs m loc h
  cases ds with
  |nil=>cases rs using af.cNil;exact (f0 m).symm▸h
  |cons d ds =>
   refine dR rs.cons_iff fun v us q r r2=>?_;subst q;refine dX (f1 n v (ns.zip us) m) fun m' e1 e2 e3 y d' hy hk=>?_;refine al (ih r2 m' ((n,d)::loc) (fun y d' e k=>r7 e (fun q q'=>by subst q;subst q';exact ⟨v,e2 k,r⟩) fun q e=>al (h y d' e k) fun u a b=>⟨u,(e3 y (Ne.symm q)).trans a,b⟩) y d' ?_ hk) fun u a b=>⟨u,(congrFun e1 y).trans a,b⟩;rw [List.zip_cons_cons,List.reverse_cons,List.append_assoc] at hy;exact hy
theorem PC {kindOf:Str→Option NameKind} (names:List Str) {vs ds} (rs:af H vs ds) (m:Str→Option Value) (loc:Loc)
  (h:∀ y d,lk loc y=some d→kindOf y=some .local→∃ v,m y=some v∧ac H v d) :
  ∀ y d,lk ((names.zip ds).reverse++loc) y=some d→kindOf y=some .local→∃ v,bindL kindOf (names.zip vs) m y=some v∧ac H v d :=
 qS (P:=fun y=>kindOf y=some .local) (bindL kindOf) (fun _=>rfl) (fun n v r m=>⟨_,rfl,fun k=>(congrFun (if_pos k) n).trans (if_pos rfl),fun y ne=>by
  by_cases k:kindOf n=some .local
  ·exact (congrFun (if_pos k) y).trans (if_neg ne)
  ·exact congrFun (if_neg k) y⟩) names rs m loc h
theorem wB {kindOf:Str→Option NameKind} (names:List Str) {vs ds} (rs:af H vs ds) (m:Str→Option Value) (loc:Loc)
  (h:∀ y d,lk loc y=some d→kindOf y=some .cell→∃ v,m y=some v∧ac H v d) :
  ∀ y d,lk ((names.zip ds).reverse++loc) y=some d→kindOf y=some .cell→∃ v,bindC kindOf (names.zip vs) m y=some v∧ac H v d :=
 qS (P:=fun y=>kindOf y=some .cell) (bindC kindOf) (fun _=>rfl) (fun n v r m=>⟨_,rfl,fun k=>(congrFun (if_neg (by rw [k];decide)) n).trans (if_pos rfl),fun y ne=>by
  by_cases k:kindOf n=some .local
  ·exact congrFun (if_pos k) y
  ·exact (congrFun (if_neg k) y).trans (if_neg ne)⟩) names rs m loc h
theorem De {α:Type} {d:α} {l:List (Str×α)} (e:lk l y=some d):(y,d)∈l:=by
 induction l with
 |nil=>exact aS e rfl
 |cons p l ih=>exact r7 e (fun q q'=>by subst q;subst q';exact .head _) fun _ e=>.tail _ (ih e)
theorem qi (names:List Str) (ds:List D) {y d} (e:lk ((names.zip ds).reverse) y=some d):y∈names:=(List.of_mem_zip (List.mem_reverse.mp (De e))).1
def pf (K:D→Own→Prop) (f:Fl) (O:Own):Prop:=match f with
 |.ret d=>K d O
 |_=>K .none O
def dT (x:Cx) (A:Around) (env:Env) (E:Value→Shared→Prop) (e:Value) (s:Shared):Prop :=
 wpAny (model x.prog x.w) (A.deeper env) (leaving env e) (fun _ s''=>E e s'') (fun e' s''=>E e' s'') s
structure Ln (fd:FuncData) (body:List PySem.Stmt) (names:List Str):Prop where
 closure:fd.closure=[]
 body:fd.body=.stmts body
 co:fd.scope.isCoroutine=false
 gen:fd.scope.isGenerator=false
 kind:fd.scope.kind=.function
 names:∀ n∈names,fd.scope.names.lookup n=some .local∨fd.scope.names.lookup n=some .cell
 nd:((cellsFrom 0 fd.scope.names []).map (·.1)).Nodup
def au (x:Cx) (A:Around) (f:Value) (ds:List D) (O:Own) (K:D→Own→Prop) (E:Value→Shared→Prop):Prop :=
 ∀ H s (R:Result→Shared→Prop) vs,az x H O s→af H vs ds→(∀ H' s' v d O',K d O'→az x H' O' s'→H≤H'→ac H' v d→R (.ok (.ret v)) s')→(∀ e s',E e s'→R (.error e) s')→codeAny (model x.prog x.w) A (.call f ⟨vs,[]⟩) R s
theorem au.call {f:Value} {K:D→Own→Prop} (h:au x A f ds O K E):bI x A (fun vs=>call f vs) ds O K E:=fun H s Q vs R rs q =>
 wpAny_call (h H s _ vs R rs (fun H' s' v d O' k R' le rd=>q H' s' v d O' k R' le rd) fun _ _ z=>z)
theorem az.noH {x H O s} (R:az x H O s) (ha:s.heap.objs.size≤a):H a=.none:=gU fun _ q=>Nat.not_lt.mpr ha (Heap.lt_size (R.hH _ _ q))
theorem az.noP {x H O s} (R:az x H O s) (ha:s.heap.objs.size≤a):x.P a=.none:=gU fun _ q=>al (R.hP _ _ _ q) fun _ e _=>Nat.not_lt.mpr ha (Heap.lt_size e)
theorem az.noO {x H O s} (R:az x H O s) {p:Addr×SO} (hp:p∈O):p.1<s.heap.objs.size:=(R.hO p hp).there.elim fun _ e=>Heap.lt_size e
theorem qE {f:Addr} {names:List Str}
  (hn:∀ n∈names,fd.scope.names.lookup n=some .local∨fd.scope.names.lookup n=some .cell) (nd:((cellsFrom 0 fd.scope.names []).map (·.1)).Nodup) (R:az x H O s) (rs:af H vs ds)
  (X:InCallC s (callEnvC fd s.heap.objs.size f).locals (bindL (callEnvC fd s.heap.objs.size f).kindOf (names.zip vs) fun _=>.none) (callEnvC fd s.heap.objs.size f).cells (bindC (callEnvC fd s.heap.objs.size f).kindOf (names.zip vs) fun _=>.none) s') :
  ag ⟨x,A,callEnvC fd s.heap.objs.size f,true⟩ H (names.zip ds).reverse O s':=by
 refine ur X.toInCall.same fun h_1 tk q2=>?_;obtain rfl:=q2;have above:∀ n c,(n,c)∈(callEnvC fd s.heap.objs.size f).cells→s.heap.objs.size<c:=X.above;have noH:=fun a (ha:s.heap.objs.size≤a)=>R.noH ha;have noP:=fun a (ha:s.heap.objs.size≤a)=>R.noP ha;have noO:=fun p hp=>R.noO (p:=p) hp;have kn:∀ y,(callEnvC fd s.heap.objs.size f).kindOf y=fd.scope.names.lookup y:=fun _=>rfl
 refine ⟨R.keeps (s':={s with heap:=h_1,toks:=tk}) X.toInCall.keep,⟨⟨_,X.toInCall.ns,?_⟩,fun y d e k=>?_,fun y b e=>?_⟩,
  ⟨noH _ (Nr _),noP _ (Nr _),fun p hp=>Nat.ne_of_lt (noO p hp),fun y b e=>⟨noH _ (Nat.le_of_lt (above y b e)),Nat.ne_of_gt (above y b e),fun p hp=>Nat.ne_of_lt (Nat.lt_trans (noO p hp) (above y b e))⟩,
   fun _ y b e _=>noP _ (Nat.le_of_lt (above y b e)),fun _=>X.apart⟩⟩
 ·have w:=PC (kindOf:=(callEnvC fd s.heap.objs.size f).kindOf) names rs (fun _=>.none) [] (fun _ _ e=>aS e rfl);rw [List.append_nil] at w;exact w
 ·have hm:=qi _ _ e
  rcases hn y hm with kl|kl
  ·rw [kn,kl] at k;rcases k with k|k<;>cases k
  ·obtain ⟨b,hb⟩:=Option.isSome_iff_exists.mp (cellsFrom_some (x:=y) fd.scope.names (s.heap.objs.size+1) [] (.inl kl));have w:=wB (kindOf:=(callEnvC fd s.heap.objs.size f).kindOf) names rs (fun _=>.none) [] (fun _ _ e=>aS e rfl);refine al (w y d (by simpa using e) ((kn y).trans kl)) fun v a r=>?_;have cl:=X.cell y b hb;exact ⟨b,v,hb,a▸cl,r⟩
 ·exact ⟨_,X.cell y b (lookup_of_mem_nodup (cellsFrom_names fd.scope.names 0 (s.heap.objs.size+1) [] [] rfl▸nd) e)⟩
theorem wz {names:List Str} {k:Nat} (hn:∀ n∈names,fd.scope.names.lookup n=some .local∨fd.scope.names.lookup n=some .cell):∀ y∈names.zip vs,fd.scope.names.lookup y.1=some .local∨(fd.scope.names.lookup y.1=some .cell∧((cellsFrom k fd.scope.names []).lookup y.1).isSome=true):=fun y hy=>by
 obtain ⟨n,v⟩:=y;exact (hn n (List.of_mem_zip hy).1).imp_right fun k=>⟨k,cellsFrom_some _ _ _ (.inl k)⟩
theorem pP {K:D→Own→Prop} {f:Flow} {g:Fl} {P:Value→D→Prop} (fi:jB H f g) (k:pf K g O) (q:∀ v d,K d O→ac H v d→P v d):∃ d,P (match f with|.ret v=>v|_=>.none) d:=by
 cases fi with
 |ret r=>exact ⟨_,q _ _ k r⟩
 |next=>exact ⟨_,q _ _ k .none⟩
 |brk=>exact ⟨_,q _ _ k .none⟩
 |cont=>exact ⟨_,q _ _ k .none⟩
theorem Ew {f:Addr} {body:List PySem.Stmt} {names:List Str} {ds':List D} {K:D→Own→Prop}
  (fa:E1 x f fd) (ok:Ln fd body names) (room:A.depth<recursionLimit)
  (hb:∀ H s vs,az x H O s→af H vs ds→∃ H' vs',H≤H'∧az x H' O s∧BindsTo s fd ⟨vs,[]⟩ (names.zip vs')∧af H' vs' ds')
  (h:∀ L,Exs ⟨x,A.deeper (callEnvC fd L f),callEnvC fd L f,true⟩ body (names.zip ds').reverse O (fun fl _ O'=>pf K fl O') (dT x A (callEnvC fd L f) E)) :
  au x A (.ref f) ds O K E:=fun H s Q vs R rs q qe=>by
 refine gB (fa.at' _ _ _ R) fun q3 hlim hcd=>?_;refine al q3 fun o ho hd=>?_;refine jR (hb H s vs R rs) fun H' vs' le R' hbind rs'=>?_;refine codeAny_call_function room ho hd ok.co ok.gen ok.body hcd (hbind _ _ _ _ ?_);rw [ok.closure];refine wpAny_newFunctionEnv_cells ok.kind (wz ok.names) fun env he s' X=>?_;subst he;refine ⟨hlim.keeps X.toInCall.keep,codeAny_func ?_⟩;have RF:=qE (A:=A.deeper (callEnvC fd s.heap.objs.size f)) ok.names ok.nd R' rs' X;refine Wm (h s.heap.objs.size H' s' (fun fl s'=>Q (.ok (.ret (match fl with|.ret v=>v|_=>.none))) s') RF fun H₁ sA fl g l O₁ k R1 le1 fi=>?_) (fun fl s' hq=>hq) fun e s' hl=>Wm (hl:dT _ _ _ _ _ _) (fun _ _ z=>qe _ _ z) fun _ _ z=>qe _ _ z;obtain ⟨d,z⟩:=pP (P:=fun v d=>Q (.ok (.ret v)) sA) fi k fun v d k r=>q _ _ _ _ _ k R1.t (Pt le le1) r;exact z
theorem mz.data {b o o'} (k:mz b o o'):o'.data=o.data:=by
 rcases k with rfl|⟨_,sl,rfl⟩<;>rfl
theorem t9 {h':Heap} {m} (n:h.Ns a m) (k:∀ o,h.get? a=some o→∃ o',h'.get? a=some o'∧o'.data=o.data):h'.Ns a m:=by
 obtain ⟨o,es,ep,e,d,r⟩:=n;refine al (k o e) fun o' e' d'=>?_;exact ⟨o',es,ep,e',d'.trans d,r⟩
theorem gK {h':Heap} {m} (n:h.IsCell a m) (k:∀ o,h.get? a=some o→∃ o',h'.get? a=some o'∧o'.data=o.data):h'.IsCell a m:=by
 obtain ⟨o,e,d⟩:=n;refine al (k o e) fun o' e' d'=>?_;exact ⟨o',e',d'.trans d⟩
section
variable {K:D→Own→Prop}
open Classical in
noncomputable def outer (c:Cc) (h:Heap):Cx:={c.x with P:=fun a=>match c.x.P a with
 |some ob=>some ob
 |.none=>if a=c.env.locals then (h.get? a).map (·,true) else if a∈c.env.cells.map (·.2) then (h.get? a).map (·,false) else .none}
theorem kg {a ob} (e:c.x.P a=some ob):(outer c h).P a=some ob:=by unfold outer;simp only [e]
theorem cq (c:Cc) (h:Heap):c.x.le (outer c h):=⟨⟨rfl,Pr _,fun _ _ e=>e⟩,fun a ob e=>kg e⟩
theorem mM (e:c.x.P c.env.locals=.none):(outer c h).P c.env.locals=(h.get? c.env.locals).map (·,true):=by unfold outer;simp only [e,if_true]
theorem pV (e:c.x.P a=.none) (hm:a∈c.env.cells.map (·.2)) (hl:a≠c.env.locals):(outer c h).P a=(h.get? a).map (·,false):=by unfold outer;simp only [e,if_neg hl,if_pos hm]
theorem jG (e:c.x.P a=.none) (hm:a∉c.env.cells.map (·.2)) (hl:a≠c.env.locals):(outer c h).P a=.none:=by unfold outer;simp only [e,if_neg hl,if_neg hm]
theorem vt {a ob} (e:(outer c h).P a=some ob):c.x.P a=some ob∨(c.x.P a=.none∧(a=c.env.locals∨a∈c.env.cells.map (·.2))∧h.get? a=some ob.1):=by
 cases q:c.x.P a with
 |some ob'=>exact .inl ((kg q).symm.trans e)
 |none =>
  by_cases hl:a=c.env.locals
  ·refine .inr ⟨rfl,.inl hl,?_⟩;subst hl;exact al (Option.map_eq_some_iff.mp ((mM q).symm.trans e)) fun o e1 e2=>e2▸e1
  ·by_cases hm:a∈c.env.cells.map (·.2)
   ·exact .inr ⟨rfl,.inr hm,al (Option.map_eq_some_iff.mp ((pV q hm hl).symm.trans e)) fun o e1 e2=>e2▸e1⟩
   ·exact aS e (jG q hm hl)
theorem cJ {H s} (R:ag c H loc O s):az (outer c s.heap) H O s where
 gens:=R.t.gens
 os:=R.t.os
 drawn:=R.t.drawn
 hH:=R.t.hH
 hP a o b e:=(vt e).elim (R.t.hP a o b) fun q=>⟨o,q.2.2,.inl rfl⟩
 hO:=R.t.hO
 nd:=R.t.nd
 dH:=R.t.dH
 dP p hp:=jG (R.t.dP p hp) (fun hm=>al (List.mem_map.mp hm) fun q hq e=>(R.o.cH q.1 q.2 hq).2.2 p hp e.symm) (R.o.lO p hp)
 dHP a ob e:=(vt e).elim (R.t.dHP a ob) fun q=>q.2.1.elim (fun z=>(Cg H z).trans R.o.lH) fun hm=>al (List.mem_map.mp hm) fun p hp e=>(Cg H e).symm.trans (R.o.cH p.1 p.2 hp).1
 bare:=R.t.bare
 hB:=R.t.hB
theorem xe {H H' s s' O'} (R:ag c H loc O s) (T:az (outer c s.heap) H' O' s') (z:(outer c s.heap).P a=some (o,b)) (e:s.heap.get? a=some o) (e':s.heap.get? a=some o'):∃ o'',s'.heap.get? a=some o''∧o''.data=o'.data :=
 al (T.hP _ _ _ z) fun o2 e2 k2=>⟨o2,e2,k2.data.trans (Cg Obj.data (Option.some.inj (e.symm.trans e')))⟩
theorem jH {H s} (R:ag c H loc O s) {y b} (hm:(y,b)∈c.env.cells):∃ o b',(outer c s.heap).P b=some (o,b'):=by
 cases q:c.x.P b with
 |some ob=>exact ⟨ob.1,ob.2,kg q⟩
 |none=>exact (R.f.cs y b hm).elim fun v q'=>al q' fun o e _=>⟨o,false,(pV q (List.mem_map.mpr ⟨(y,b),hm,rfl⟩) (R.o.cH y b hm).2.1).trans (by rw [e];rfl)⟩
theorem Pm {H H' s s' O'} (R:ag c H loc O s) (T:az (outer c s.heap) H' O' s') (le:H≤H'):ag c H' loc O' s':=by
 have S:=cJ R;refine al R.f.ns fun m n r=>?_;have PL:∃ o,s.heap.get? c.env.locals=some o∧(outer c s.heap).P c.env.locals=some (o,true):=n.elim fun o z=>z.elim fun _ z=>z.elim fun _ z=>⟨o,z.1,(mM R.o.lP).trans (by rw [z.1];rfl)⟩;refine al PL fun oL eL PL=>?_
 have kc:∀ y b,(y,b)∈c.env.cells→∀ o,s.heap.get? b=some o→∃ o',s'.heap.get? b=some o'∧o'.data=o.data:=fun y b hm o e =>
  (jH R hm).elim fun o1 z=>z.elim fun b' z=>al (S.hP _ _ _ z) fun o2 e2 k2=>al (T.hP _ _ _ z) fun o3 e3 k3=>⟨o3,e3,k3.data.trans (k2.data.symm.trans (Cg Obj.data (Option.some.inj (e2.symm.trans e))))⟩
 refine ⟨T.down (cq c s.heap),⟨⟨m,t9 n fun o e=>xe R T PL eL e,fun y d e k=>al (r y d e k) fun v a b=>⟨v,a,b.mono le⟩⟩,fun y d e k=>dR (R.f.cl y d e k) fun b v p q w=>⟨b,v,p,gK q (kc _ _ (bQ p)),w.mono le⟩,fun y b hm=>(R.f.cs y b hm).elim fun v q=>⟨v,gK q (kc _ _ hm)⟩⟩,
  ⟨T.dHP _ _ PL,R.o.lP,fun p hp z=>aS PL ((Cg (outer c s.heap).P z).symm.trans (T.dP p hp)),fun y b hm=>⟨(jH R hm).elim fun _ z=>z.elim fun _ z=>T.dHP _ _ z,(R.o.cH y b hm).2.1,fun p hp z=>(jH R hm).elim fun _ e=>e.elim fun _ e=>aS e ((Cg (outer c s.heap).P z).symm.trans (T.dP p hp))⟩,R.o.cP,R.o.ca⟩⟩
theorem cK {t ds} (h:∀ x',c.x.le x'→bI x' c.A t ds O K E):Op c t ds loc O K E:=fun H s Q vs R rs q =>
 h (outer c s.heap) (cq c s.heap) H s Q vs (cJ R) rs fun H' s' v d O' k T le rd=>q H' s' v d O' k (Pm R T le) le rd
end
def nq (x:Cx) (f:Value):Prop:=∀ H O s,az x H O s→∃ k,(k=Keeper.frame∨k=Keeper.machine∨k=Keeper.boundFrame)∧Looks (model x.prog x.w) s.heap (keeperOf f) k
theorem fz {id:String}:nq x (.builtin id):=fun H O s R=>⟨.machine,.inr (.inl rfl),.now⟩
theorem wk {id:String}:nq x (.type id):=fun H O s R=>⟨.machine,.inr (.inl rfl),.now⟩
theorem gp {args:List (Bool×Sem Value)} {Q:Args→Shared→Prop} (hp:args.any (·.1)=false)
  (h:wpAny M A (spliced args) (fun vs s'=>Q ⟨vs,[]⟩ s') E s):wpAny M A (evalArgs f true args []) Q E s:=by
 cases args with
 |nil=>exact fun Γ p hΓ=>evalArgs_nil3 (Q:=Q) (h Γ p hΓ:Q ⟨[],[]⟩ s) Γ p hΓ
 |cons p r =>
  obtain ⟨b,x⟩:=p
  cases b with
  |false=>exact evalArgs_plain h
  |true=>simp at hp
section
variable {K:D→Own→Prop}
abbrev Ds (c:Cc) (f:Value) (dsA:List D) (loc:Loc) (K:D→Own→Prop) (E:Value→Shared→Prop):List D→Own→Prop:=fun ds O₁=>Op c (fun vs=>call f vs) (dsA++ds) loc O₁ K E
abbrev Dt (c:Cc) (f:Value) (loc:Loc) (K:D→Own→Prop) (E:Value→Shared→Prop):List D→Own→Prop:=fun ds O₁=>Op c (fun vs=>call f vs) ds loc O₁ K E
abbrev Jh (c:Cc) (name:Str) (loc:Loc) (K:D→Own→Prop) (E:Value→Shared→Prop):D→Own→Prop:=fun d O₁=>Op c (fun vs=>getAttr (vs.headD .none) name true) [d] loc O₁ K E
abbrev Mg (c:Cc) (o i:PySem.Expr) (a:D) (loc:Loc) (K:D→Own→Prop) (E:Value→Shared→Prop):D→Own→Prop:=fun b O2=>Op c (fun vs=>subscriptTail o i (vs.headD .none) (vs.tail.headD .none)) [a,b] loc O2 K E
abbrev NN (c:Cc) (o i:PySem.Expr) (loc:Loc) (K:D→Own→Prop) (E:Value→Shared→Prop):D→Own→Prop:=fun a O₁=>Ev c i loc O₁ (Mg c o i a loc K E) E
theorem nT {p:Pos} {H s Q} (R:ag c H loc O s) (rA:af H first dsA) (kp:nq c.x f)
  (h:Evs c p args loc O (Ds c f dsA loc K E) E) (hp:(backTo p (starEach args c.env)).any (·.1)=false)
  (q:∀ H' s' v d O',K d O'→ag c H' loc O' s'→H≤H'→ac H' v d→Q v s'):wpAny c.M c.A (callWith p f first (backTo p (starEach args c.env)) []) Q E s:=by
 refine callWith_of (P:=fun h=>∃ k,(k=Keeper.frame∨k=Keeper.machine∨k=Keeper.boundFrame)∧Looks c.M h (keeperOf f) k) (by rw [hp];rfl) (fun _ z=>z) (gp hp ?_);refine h H s _ R fun H₁ sA vs ds O₁ k₁ R1 le1 rs=>⟨kp _ _ _ R1.t,?_⟩;exact k₁ H₁ sA Q (first++vs) R1 ((rA.mono le1).append rs) fun H' s' v d O' k R' le rd=>q H' s' v d O' k R' (Pt le1 le) rd
theorem Hm {p0 args p} (h:Ev c (.Name y p0) loc O (fun f O₁=>∃ v,f=.stat v∧nq c.x v∧Evs c p args loc O₁ (Dt c v loc K E) E) E)
  (hp:(backTo p (starEach args c.env)).any (·.1)=false:=by rfl):Ev c (.Call (.Name y p0) args [] p) loc O K E:=fun H s Q R q=>by
 refine wpAny_Call_Name_kw (h H s _ R fun H₁ sA f d O₁ h_1 R1 le1 rA=>?_);refine al h_1 fun v q4 q5=>?_;obtain rfl:=q4;obtain ⟨kp,h_1⟩:=q5
 cases rA using ac.cStat
 exact nT R1 .nil kp h_1 hp fun H' s' v d O' k R' le rd=>q H' s' v d O' k R' (Pt le1 le) rd
def GM (c:Cc) (name:Str) (d:D) (loc:Loc) (O:Own) (K:Value→List D→Own→Prop) (E:Value→Shared→Prop):Prop :=
 ∀ (pl:Sem Bool) H s Q v,ag c H loc O s→ac H v d→(∀ H' s' f first ds O',K f ds O'→ag c H' loc O' s'→H≤H'→af H' first ds→Q (f,first) s')→wpAny c.M c.A (getMethod v name pl) Q E s
abbrev Ku (c:Cc) (p:Pos) (args:List PySem.Expr) (loc:Loc) (K:D→Own→Prop) (E:Value→Shared→Prop):Value→List D→Own→Prop:=fun f dsA O2=>nq c.x f∧Evs c p args loc O2 (Ds c f dsA loc K E) E
abbrev Jf (c:Cc) (name:Str) (p:Pos) (args:List PySem.Expr) (loc:Loc) (K:D→Own→Prop) (E:Value→Shared→Prop):D→Own→Prop:=fun d O₁=>GM c name d loc O₁ (Ku c p args loc K E) E
theorem Hi {o:PySem.Expr} {apos p:Pos} {pl:Sem Bool} (h:Ev c o loc O (Jf c name p args loc K E) E)
  (he:eval (.Call (.Attribute o name apos) args [] p) c.env=(do
   let ov ← eval o c.env
   standAt apos.atName
   let (f,first) ← holding [ov] (getMethod ov name pl)
   callWith p f first (backTo p (starEach args c.env)) (backToKw p (keywordEach [] c.env))):=by rfl)
  (hp:(backTo p (starEach args c.env)).any (·.1)=false:=by rfl):Ev c (.Call (.Attribute o name apos) args [] p) loc O K E:=fun H s Q R q=>by
 refine methodCall_KW (pl:=pl) (h H s _ R fun H₁ sA v d O₁ h_1 R1 le1 rA=>?_) he;refine h_1 pl H₁ sA _ v R1 rA fun HB s2 f first dsA O2 h_2 R2 le2 rB=>?_
 exact nT R2 rB h_2.1 h_2.2 hp fun H' s' v d O' k R' le rd=>q H' s' v d O' k R' (Pt le1 (Pt le2 le)) rd
theorem uo {o:PySem.Expr} {p:Pos} (h:Ev c o loc O (Jh c name loc K E) E)
  (he:eval (.Attribute o name p) c.env=(do
   let ov ← eval o c.env
   standAt p.atName
   let r ← holding [ov] (getAttr ov name true)
   letTemporaryGo o ov r
   pure r):=by rfl):Ev c (.Attribute o name p) loc O K E:=fun H s Q R q=>by
 refine Attribute_any_ (h H s _ R fun H₁ sA v d O₁ h_1 R1 le1 rA=>?_) he;exact h_1 H₁ sA Q [v] R1 (.one rA) fun H' s' v d O' k R' le rd=>q H' s' v d O' k R' (Pt le1 le) rd
theorem K5 {o i:PySem.Expr} {p:Pos} (h:Ev c o loc O (NN c o i loc K E) E):Ev c (.Subscript o i p) loc O K E:=fun H s Q R q =>
 Subscript_ (h H s _ R fun H₁ sA vA d₁ O₁ h_1 R1 le1 rA=>h_1 H₁ sA _ R1 fun HB s2 vB dB O2 h_2 R2 le2 rB=>h_2 HB s2 _ [vA,vB] R2 (.two (rA.mono le2) rB) fun H' s' v d O' k R' le' rd=>q H' s' v d O' k R' (Pt le1 (Pt le2 le')) rd)
def OpU (c:Cc) (t:List Value→Sem Unit) (ds:List D) (loc:Loc) (O:Own) (K:Own→Prop) (E:Value→Shared→Prop):Prop :=
 ∀ H s Q vs,ag c H loc O s→af H vs ds→(∀ H' s' O',K O'→ag c H' loc O' s'→H≤H'→Q () s')→wpAny c.M c.A (t vs) Q E s
abbrev kU (loc:Loc) (KF:Fl→Loc→Own→Prop):Own→Prop:=fun O3=>KF .next loc O3
abbrev Mi (c:Cc) (name:Str) (d:D) (loc:Loc) (KF:Fl→Loc→Own→Prop) (E:Value→Shared→Prop):D→Own→Prop:=fun t O2=>OpU c (fun vs=>setAttr (vs.headD .none) name (vs.tail.headD .none)) [t,d] loc O2 (kU loc KF) E
abbrev Ks (c:Cc) (o:PySem.Expr) (name:Str) (loc:Loc) (KF:Fl→Loc→Own→Prop) (E:Value→Shared→Prop):D→Own→Prop:=fun d O₁=>Ev c o loc O₁ (Mi c name d loc KF E) E
theorem xT {o:PySem.Expr} {p' p:Pos} (h:Ev c e loc O (Ks c o name loc KF E) E)
  (hs:swapsWith e (some (.Attribute o name p')) p.line c.env=pure false:=by rfl):Ex c (.Assign [.Attribute o name p'] e p) loc O KF E:=fun H s Q R q =>
 plainObj_wpAny_Assign_Attribute (h H s _ R fun H₁ sA v d O₁ h_1 R1 le1 rA=>h_1 H₁ sA _ R1 fun HB s2 ov t O2 h_2 R2 le2 rB=>h_2 HB s2 _ [ov,v] R2 (.two rB (rA.mono le2)) fun H' s' O' k R' le'=>q _ _ _ _ _ _ k R' (Pt le1 (Pt le2 le')) .next) hs
end
end
section
section
variable {K:D→Own→Prop}
theorem mK {vs a b} (h:af H vs [a,b]):∃ v u,vs=[v,u]∧ac H v a∧ac H u b:=by
 cases h with|cons x r=>cases r with|cons y r=>cases r using af.cNil;exact ⟨_,_,rfl,x,y⟩
theorem AD {vs a} (h:af H vs [a]):∃ v,vs=[v]∧ac H v a:=by
 cases h with|cons x r=>cases r using af.cNil;exact ⟨_,rfl,x⟩
theorem nF {vs a b d} (h:af H vs [a,b,d]):∃ v u w,vs=[v,u,w]∧ac H v a∧ac H u b∧ac H w d:=by
 cases h with|cons x r=>refine bj (mK r) fun v u q1 q2=>?_;obtain rfl:=q1;obtain ⟨y,z⟩:=q2;exact ⟨_,_,_,rfl,x,y,z⟩
@[elab_as_elim] theorem cG {a:D} {P:List Value→Prop} {vs} (h:af H vs [a]) (k:∀ v,ac H v a→P [v]):P vs:=by refine al (AD h) fun v q3 r=>?_;obtain rfl:=q3;exact k v r
@[elab_as_elim] theorem ay {a b:D} {P:List Value→Prop} {vs} (h:af H vs [a,b]) (k:∀ v u,ac H v a→ac H u b→P [v,u]):P vs:=by refine bj (mK h) fun v u q4 q5=>?_;obtain rfl:=q4;obtain ⟨r,q⟩:=q5;exact k v u r q
@[elab_as_elim] theorem Cl {a b d:D} {P:List Value→Prop} {vs} (h:af H vs [a,b,d]) (k:∀ v u w,ac H v a→ac H u b→ac H w d→P [v,u,w]):P vs:=by refine bK (nF h) fun v u w q6 q7=>?_;obtain rfl:=q6;refine gB q7 fun r q z=>?_;exact k v u w r q z
theorem Qw {i j:Int} (h:K (.int (i+j)) O):Op c (fun vs=>binaryOp .Add (vs.headD .none) (vs.tail.headD .none)) [.int i,.int j] loc O K E:=fun H s Q vs R rs q=>by
 refine ay rs fun v u a b=>?_
 cases a using ac.cInt;cases b using ac.cInt
 exact add_int (q _ _ _ _ _ h (R.tok _) (Pr _) (.int _ _))
theorem Qr {i j:Int} (h:K (.int (i-j)) O):Op c (fun vs=>binaryOp .Sub (vs.headD .none) (vs.tail.headD .none)) [.int i,.int j] loc O K E:=fun H s Q vs R rs q=>by
 refine ay rs fun v u a b=>?_
 cases a using ac.cInt;cases b using ac.cInt
 exact sub_int (q _ _ _ _ _ h (R.tok _) (Pr _) (.int _ _))
theorem Qv {i j:Int} (h:K (.int (Builtin.bitAnd i j)) O):Op c (fun vs=>binaryOp .BitAnd (vs.headD .none) (vs.tail.headD .none)) [.int i,.int j] loc O K E:=fun H s Q vs R rs q=>by
 refine ay rs fun v u a b=>?_
 cases a using ac.cInt;cases b using ac.cInt
 exact and_int (q _ _ _ _ _ h (R.tok _) (Pr _) (.int _ _))
theorem Qq {i j:Int} (h:K (.int (Builtin.bitXor i j)) O):Op c (fun vs=>binaryOp .BitXor (vs.headD .none) (vs.tail.headD .none)) [.int i,.int j] loc O K E:=fun H s Q vs R rs q=>by
 refine ay rs fun v u a b=>?_
 cases a using ac.cInt;cases b using ac.cInt
 exact xor_int (q _ _ _ _ _ h (R.tok _) (Pr _) (.int _ _))
theorem fM {i j:Int} (hm:IntMulOk i j) (h:K (.int (i*j)) O):Op c (fun vs=>binaryOp .Mult (vs.headD .none) (vs.tail.headD .none)) [.int i,.int j] loc O K E:=fun H s Q vs R rs q=>by
 refine ay rs fun v u a b=>?_
 cases a using ac.cInt;cases b using ac.cInt
 exact mul_int (q _ _ _ _ _ h (R.tok _) (Pr _) (.int _ _)) hm
theorem Ke {i j:Int} (hj:0<j) (hd:Builtin.divisionGoesByPylong i j=false) (h:K (.int (i/j)) O):Op c (fun vs=>binaryOp .FloorDiv (vs.headD .none) (vs.tail.headD .none)) [.int i,.int j] loc O K E:=fun H s Q vs R rs q=>by
 refine ay rs fun v u a b=>?_
 cases a using ac.cInt;cases b using ac.cInt
 rw [← Int.fdiv_eq_ediv_of_nonneg _ (Int.le_of_lt hj)] at h;exact floordiv_int (Int.ne_of_gt hj) (q _ _ _ _ _ h (R.tok _) (Pr _) (.int _ _)) (.inl hd)
theorem Kc {i j:Int} (hj:0<j) (h:K (.int (i%j)) O):Op c (fun vs=>binaryOp .Mod (vs.headD .none) (vs.tail.headD .none)) [.int i,.int j] loc O K E:=fun H s Q vs R rs q=>by
 refine ay rs fun v u a b=>?_
 cases a using ac.cInt;cases b using ac.cInt
 rw [← Int.fmod_eq_emod_of_nonneg _ (Int.le_of_lt hj)] at h;exact mod_int' (Int.ne_of_gt hj) (q _ _ _ _ _ h (R.tok _) (Pr _) (.int _ _))
theorem Kb {i j:Int} (hj:0≤j) (hz:(Builtin.Int.intBits i:Int)*j≤2^27) (h:K (.int (i^j.toNat)) O):Op c (fun vs=>binaryOp .Pow (vs.headD .none) (vs.tail.headD .none)) [.int i,.int j] loc O K E:=fun H s Q vs R rs q=>by
 refine ay rs fun v u a b=>?_
 cases a using ac.cInt;cases b using ac.cInt
 exact pow_int hj hz (q _ _ _ _ _ h (R.tok _) (Pr _) (.int _ _))
theorem Qs {i j:Int} (hj:0≤j) (h:K (.int (i/2^j.toNat)) O):Op c (fun vs=>binaryOp .RShift (vs.headD .none) (vs.tail.headD .none)) [.int i,.int j] loc O K E:=fun H s Q vs R rs q=>by
 refine ay rs fun v u a b=>?_
 cases a using ac.cInt;cases b using ac.cInt
 rw [← Int.fdiv_eq_ediv_of_nonneg _ (Int.le_of_lt (Int.pow_pos (by decide)))] at h;exact rshift_int hj (q _ _ _ _ _ h (R.tok _) (Pr _) (.int _ _))
theorem Ka {i j:Int} (hj:0≤j) (hj':j≤1000000) (hi:i.natAbs<2^64) (h:K (.int (i*2^j.toNat)) O):Op c (fun vs=>binaryOp .LShift (vs.headD .none) (vs.tail.headD .none)) [.int i,.int j] loc O K E:=fun H s Q vs R rs q=>by
 refine ay rs fun v u a b=>?_
 cases a using ac.cInt;cases b using ac.cInt
 exact lshift_int_small hj hj' hi (q _ _ _ _ _ h (R.tok _) (Pr _) (.int _ _))
theorem Qt {i:Int} (h:K (.int (-i)) O):Op c (fun vs=>unaryOp .USub (vs.headD .none)) [.int i] loc O K E:=fun H s Q vs R rs q=>by
 refine cG rs fun v a=>?_
 cases a using ac.cInt
 exact neg_int (q _ _ _ _ _ h (R.tok _) (Pr _) (.int _ _))
theorem Qu {i:Int} (h:K (.int (Builtin.bitNot i)) O):Op c (fun vs=>unaryOp .Invert (vs.headD .none)) [.int i] loc O K E:=fun H s Q vs R rs q=>by
 refine cG rs fun v a=>?_
 cases a using ac.cInt
 exact invert_int (q _ _ _ _ _ h (R.tok _) (Pr _) (.int _ _))
theorem Qg {i:Int} (h:KB (i != 0) O):Tru c (.int i) loc O KB E:=fun H s Q v R rd q=>by
 cases rd using ac.cInt
 exact PyProof.Rows.truthy_int (q H s _ O h R (Pr _))
theorem LT {i j:Int} (h:K (.bool (i==j)) O):Op c (fun vs=>compareOp .Eq (vs.headD .none) (vs.tail.headD .none)) [.int i,.int j] loc O K E:=fun H s Q vs R rs q=>by
 refine ay rs fun v u a b=>?_
 cases a using ac.cInt;cases b using ac.cInt
 exact eq_int (q _ _ _ _ _ h R (Pr _) (.bool _))
theorem QJ {i j:Int} (h:K (.bool (i != j)) O):Op c (fun vs=>compareOp .NotEq (vs.headD .none) (vs.tail.headD .none)) [.int i,.int j] loc O K E:=fun H s Q vs R rs q=>by
 refine ay rs fun v u a b=>?_
 cases a using ac.cInt;cases b using ac.cInt
 exact PyProof.Rows.ne_int (q _ _ _ _ _ h R (Pr _) (.bool _))
theorem QK {i j:Int} (h:K (.bool (decide (i<j))) O):Op c (fun vs=>compareOp .Lt (vs.headD .none) (vs.tail.headD .none)) [.int i,.int j] loc O K E:=fun H s Q vs R rs q=>by
 refine ay rs fun v u a b=>?_
 cases a using ac.cInt;cases b using ac.cInt
 exact lt_int (q _ _ _ _ _ h R (Pr _) (.bool _))
theorem QL {i j:Int} (h:K (.bool (decide (i≤j))) O):Op c (fun vs=>compareOp .LtE (vs.headD .none) (vs.tail.headD .none)) [.int i,.int j] loc O K E:=fun H s Q vs R rs q=>by
 refine ay rs fun v u a b=>?_
 cases a using ac.cInt;cases b using ac.cInt
 exact le_int (q _ _ _ _ _ h R (Pr _) (.bool _))
theorem QM {i j:Int} (h:K (.bool (decide (j<i))) O):Op c (fun vs=>compareOp .Gt (vs.headD .none) (vs.tail.headD .none)) [.int i,.int j] loc O K E:=fun H s Q vs R rs q=>by
 refine ay rs fun v u a b=>?_
 cases a using ac.cInt;cases b using ac.cInt
 exact PyProof.Rows.gt_int (q _ _ _ _ _ h R (Pr _) (.bool _))
theorem QN {i j:Int} (h:K (.bool (decide (j≤i))) O):Op c (fun vs=>compareOp .GtE (vs.headD .none) (vs.tail.headD .none)) [.int i,.int j] loc O K E:=fun H s Q vs R rs q=>by
 refine ay rs fun v u a b=>?_
 cases a using ac.cInt;cases b using ac.cInt
 exact PyProof.Rows.ge_int (q _ _ _ _ _ h R (Pr _) (.bool _))
noncomputable def D.isNone:D→Bool
 |.none=>true
 |_=>false
theorem kK {v:Value} (r:ac H v d) (hs:∀ u,d≠.stat u):PySem.plainIs v .none=true:=by cases r<;>first|rfl|exact absurd rfl (hs _)
theorem vM {v:Value} (r:ac H v d) (hs:∀ u,d≠.stat u):(v==Value.none)=d.isNone:=by
 cases r<;>first|rfl|exact absurd rfl (hs _)
theorem LS (hs:∀ u,d≠.stat u) (h:K (.bool d.isNone) O):Op c (fun vs=>compareOp .Is (vs.headD .none) (vs.tail.headD .none)) [d,.none] loc O K E:=fun H s Q vs R rs q=>by
 refine ay rs fun v u a b=>?_
 cases b using ac.cNone
 refine wpAny_is_plain (kK a hs) ?_;refine (?_:Q (.bool (v==.none)) s);rw [vM a hs];exact q _ _ _ _ _ h R (Pr _) (.bool _)
theorem CC (hs:∀ u,d≠.stat u) (h:K (.bool (!d.isNone)) O):Op c (fun vs=>compareOp .IsNot (vs.headD .none) (vs.tail.headD .none)) [d,.none] loc O K E:=fun H s Q vs R rs q=>by
 refine ay rs fun v u a b=>?_
 cases b using ac.cNone
 refine wpAny_isNot_plain (kK a hs) ?_;refine (?_:Q (.bool (!(v==.none))) s);rw [vM a hs];exact q _ _ _ _ _ h R (Pr _) (.bool _)
end
end
section
open PySem.Builtin
noncomputable def dJ:Code→Bool
 |.builtin i _=>Bytes.decodersThatHold.contains i||["bytearray.__contains__","bytearray.__mod__","bytearray.__rmod__","_struct.pack_into.held","bytearray.find.held"].contains i
 |_=>false
def uH (Γ:PySem.Ctx):Prop:=∀ x∈Γ.below,dJ x.1=false
def Af (Γ:PySem.Ctx):Prop:=dJ Γ.code=false∧uH Γ
def wpN {α:Type} (M:Model) (A:Around) (t:Sem α) (Q:α→Shared→Prop) (E:Value→Shared→Prop) (s:Shared):Prop :=
 ∀ Γ p,Γ.In A→Af Γ→Sem.wp M Γ t (fun a _ s'=>Q a s') (fun e _ s'=>E e s') p s
def ek (M:Model) (A:Around) (c:Code) (R:Result→Shared→Prop) (s:Shared):Prop :=
 ∀ Γ p,Γ.code=c→Γ.Below A→uH Γ→wpCode M Γ R p s
section
variable {α β:Type} {M:Model}
theorem jc {t:Sem α} {Q:α→Shared→Prop} (h:wpAny M A t Q E s):wpN M A t Q E s:=fun Γ p hΓ _=>h Γ p hΓ
theorem jd {t:Sem α} {Q Q':α→Shared→Prop} (h:wpN M A t Q E s) (hQ:∀ a s,Q a s→Q' a s) (hE:∀ e s,E e s→E' e s):wpN M A t Q' E' s :=
 fun Γ p hΓ hN=>Sem.wp_mono M Γ t (fun a _ s=>hQ a s) (fun e _ s=>hE e s) p s (h Γ p hΓ hN)
theorem a9 {a:α} {Q:α→Shared→Prop} (h:Q a s):wpN M A (pure a) Q E s:=fun _ _ _ _=>h
theorem bh {m:Sem α} {f:α→Sem β} {Q:β→Shared→Prop} (h:wpN M A m (fun a s'=>wpN M A (f a) Q E s') E s):wpN M A (m>>=f) Q E s:=fun Γ p hΓ hN=>by
 rw [Sem.wp_bind'];exact Sem.wp_mono M Γ m (fun a p' s' h'=>h' Γ p' hΓ hN) (fun _ _ _ h'=>h') p s (h Γ p hΓ hN)
theorem Pi {m:Sem α} {f:α→Sem β} {Q:β→Shared→Prop} (h:wpAny M A m (fun a s'=>wpN M A (f a) Q E s') E s):wpN M A (m>>=f) Q E s:=bh (jc h)
theorem cD {m:Sem α} {Q:α→Shared→Prop} (h:wpN M A m Q E s):wpN M A (holding vs m) Q E s:=fun Γ p hΓ hN=>by rw [Sem.wp_holding];exact h Γ p hΓ hN
theorem uN {m:Sem α} {k:Value→Sem Unit} {Q:α→Shared→Prop} (h:wpN M A m Q (fun e s'=>wpN M A (k e) (fun _ s''=>E e s'') E s') s):wpN M A (m.onRaise k) Q E s:=fun Γ p hΓ hN=>by
 rw [Sem.wp_onRaise];exact Sem.wp_mono M Γ m (fun _ _ _ h'=>h') (fun e p' s' h'=>h' Γ p' hΓ hN) p s (h Γ p hΓ hN)
theorem uP {m:Sem α} {Q:Except Value α→Shared→Prop} (h:wpN M A m (fun a=>Q (.ok a)) (fun e=>Q (.error e)) s):wpN M A m.attempt Q E s:=fun Γ p hΓ hN=>by rw [Sem.wp_attempt];exact h Γ p hΓ hN
theorem aV {c:Prop} [Decidable c] {a b:Sem α} {Q:α→Shared→Prop} (hc:¬ c) (h:wpN M A b Q E s):wpN M A (if c then a else b) Q E s:=by rw [if_neg hc];exact h
theorem qI {c:Code} (h:codeAny M A c R s):ek M A c R s:=fun Γ p hc hΓ _=>h Γ p hc hΓ
theorem yk {c:Code} (h:ek M A c R s) (hR:∀ r s,R r s→R' r s):ek M A c R' s:=fun Γ p hc hΓ hN=>wpCode_mono hR (h Γ p hc hΓ hN)
theorem ma {Γ:PySem.Ctx} {c:Code} {h:Option Value} {p:Pos} (n:Af Γ):uH (Γ.enter c h p):=fun x hx=>by
 rcases List.mem_cons.mp hx with rfl|hx
 ·exact n.1
 ·exact n.2 x hx
theorem tI {c:Code} (hc:ek M A c (fun r s'=>match r with|.ok (.ret v)=>Q v s'|.ok _=>False|.error e=>E e s') s):wpN M A (runValue c) Q E s:=fun Γ p hΓ hN=>by
 rw [Sem.wp_runValue];exact hc _ p rfl (hΓ.enter c none p (by intro x;cases x)) (ma hN)
theorem eY {kw:List (Str×Value)} (hc:ek M A (.call f ⟨pos,kw⟩) (fun r s'=>match r with|.ok (.ret v)=>Q v s'|.ok _=>False|.error e=>E e s') s) :
  wpN M A (call f pos kw) Q E s:=tI hc
theorem cL {c:Code} (hd:dJ c=false)
  (h:wpN M (A.under c) (M.den c) (fun fin s'=>match fin with|.done f=>R (.ok f) s'|.again c'=>c'.quiet=true∧ek M A c' R s') (fun e s'=>R (.error e) s') s):ek M A c R s:=fun Γ p hc hΓ hN=>by
 rw [wpCode_iff_wp,hc];refine Sem.wp_mono M Γ _ (fun fin p' s' h'=>?_) (fun _ _ _ h'=>h') p s (h Γ p (hc▸hΓ.in) ⟨by rw [hc];exact hd,hN⟩)
 cases fin with
 |done f=>exact h'
 |again c'=>exact ⟨h'.1,h'.2 (Γ.goto c') p' rfl (hΓ.goto c') hN⟩
end
end
section
def wpB (b:Bool) {α:Type} (M:Model) (A:Around) (t:Sem α) (Q:α→Shared→Prop) (E:Value→Shared→Prop) (s:Shared):Prop :=
 ∀ Γ p,Γ.In A→(b=true→Af Γ)→Sem.wp M Γ t (fun a _ s'=>Q a s') (fun e _ s'=>E e s') p s
def dY (b:Bool) (M:Model) (A:Around) (c:Code) (R:Result→Shared→Prop) (s:Shared):Prop :=
 ∀ Γ p,Γ.code=c→Γ.Below A→(b=true→uH Γ)→wpCode M Γ R p s
section
variable {α β:Type} {M:Model}
theorem dg {t:Sem α} {Q:α→Shared→Prop} (h:wpAny M A t Q E s):wpB b M A t Q E s:=fun Γ p hΓ _=>h Γ p hΓ
theorem yS {t:Sem α} {Q:α→Shared→Prop} (h:wpB false M A t Q E s):wpAny M A t Q E s:=fun Γ p hΓ=>h Γ p hΓ fun z=>by cases z
theorem Lo {t:Sem α} {Q:α→Shared→Prop} (h:wpB true M A t Q E s):wpN M A t Q E s:=fun Γ p hΓ hN=>h Γ p hΓ fun _=>hN
theorem yQ {t:Sem α} {Q:α→Shared→Prop} (h:wpN M A t Q E s):wpB true M A t Q E s:=fun Γ p hΓ hN=>h Γ p hΓ (hN rfl)
theorem cn {t:Sem α} {Q Q':α→Shared→Prop} (h:wpB b M A t Q E s) (hQ:∀ a s,Q a s→Q' a s) (hE:∀ e s,E e s→E' e s):wpB b M A t Q' E' s :=
 fun Γ p hΓ hN=>Sem.wp_mono M Γ t (fun a _ s=>hQ a s) (fun e _ s=>hE e s) p s (h Γ p hΓ hN)
theorem ba {a:α} {Q:α→Shared→Prop} (h:Q a s):wpB b M A (pure a) Q E s:=fun _ _ _ _=>h
theorem bD {m:Sem α} {f:α→Sem β} {Q:β→Shared→Prop} (h:wpB b M A m (fun a s'=>wpB b M A (f a) Q E s') E s):wpB b M A (m>>=f) Q E s:=fun Γ p hΓ hN=>by
 rw [Sem.wp_bind'];exact Sem.wp_mono M Γ m (fun a p' s' h'=>h' Γ p' hΓ hN) (fun _ _ _ h'=>h') p s (h Γ p hΓ hN)
theorem av {m:Sem α} {f:α→Sem β} {Q:β→Shared→Prop} (h:wpAny M A m (fun a s'=>wpB b M A (f a) Q E s') E s):wpB b M A (m>>=f) Q E s:=bD (dg h)
theorem ga {m:Sem α} {Q:α→Shared→Prop} (h:wpB b M A m Q E s):wpB b M A (holding vs m) Q E s:=fun Γ p hΓ hN=>by rw [Sem.wp_holding];exact h Γ p hΓ hN
theorem fZ {m:Sem α} {k:Value→Sem Unit} {Q:α→Shared→Prop} (h:wpB b M A m Q (fun e s'=>wpAny M A (k e) (fun _ s''=>E e s'') E s') s):wpB b M A (m.onRaise k) Q E s:=fun Γ p hΓ hN=>by
 rw [Sem.wp_onRaise];exact Sem.wp_mono M Γ m (fun _ _ _ h'=>h') (fun e p' s' h'=>h' Γ p' hΓ) p s (h Γ p hΓ hN)
theorem uS {m:Sem α} {Q:Except Value α→Shared→Prop} (h:wpB b M A m (fun a=>Q (.ok a)) (fun e=>Q (.error e)) s):wpB b M A m.attempt Q E s:=fun Γ p hΓ hN=>by rw [Sem.wp_attempt];exact h Γ p hΓ hN
theorem ym {c:Code} (h:dY b M A c R s) (hR:∀ r s,R r s→R' r s):dY b M A c R' s:=fun Γ p hc hΓ hN=>wpCode_mono hR (h Γ p hc hΓ hN)
theorem yR {c:Code} {Q:Flow→Shared→Prop} (hc:dY b M A c (fun r s'=>match r with|.ok f=>Q f s'|.error e=>E e s') s):wpB b M A (run c .none) Q E s :=
 fun Γ p hΓ hN=>by rw [Sem.wp_run];exact hc _ p rfl (hΓ.enter c .none p (by intro x;cases x)) fun z=>ma (hN z)
theorem wO {c:Code} {Q:Flow→Shared→Prop} (hc:dY b M A c (fun r s'=>match r with|.ok f=>Q f s'|.error e=>cameBackBy M A env E e s') s):wpB b M A (runOwn c env .none) Q E s:=by
 skip;exact fZ (yR hc)
theorem gD {c:Code} (hd:dJ c=false)
  (h:wpB b M (A.under c) (M.den c) (fun fin s'=>match fin with|.done f=>R (.ok f) s'|.again c'=>c'.quiet=true∧dY b M A c' R s') (fun e s'=>R (.error e) s') s):dY b M A c R s:=fun Γ p hc hΓ hN=>by
 rw [wpCode_iff_wp,hc];refine Sem.wp_mono M Γ _ (fun fin p' s' h'=>?_) (fun _ _ _ h'=>h') p s (h Γ p (hc▸hΓ.in) fun z=>⟨by rw [hc];exact hd,hN z⟩)
 cases fin with
 |done f=>exact h'
 |again c'=>exact ⟨h'.1,h'.2 (Γ.goto c') p' rfl (hΓ.goto c') hN⟩
theorem nS {c:Code} (hd:dJ c=false) (hq:c.quiet=true) (I:Nat→Shared→Prop)
  (turn:∀ n s,I n s→wpB b M (A.under c) (M.den c)
   (fun fin s'=>match fin with
    |.done f=>R (.ok f) s'
    |.again c'=>(c'=c∧∃ m,m<n∧I m s')∨(c'.quiet=true∧dY b M A c' R s')) (fun e s'=>R (.error e) s') s)
  (n:Nat) (h:I n s):dY b M A c R s:=by
 induction n using Nat.strongRecOn generalizing s with
 |ind n ih =>
  refine gD hd (cn (turn n s h) (fun fin s' hf=>?_) fun _ _ h'=>h')
  cases fin with
  |done f=>exact hf
  |again c' =>
   rcases hf with ⟨rfl,m,hm,hI⟩|hf
   ·exact ⟨hq,ih m hm hI⟩
   ·exact hf
theorem mD {m:Sem α} {Q:α→Shared→Prop} (h:wpB b M A m Q (fun _ _=>False) s):wpB b M A (m.onRaise fun x=>do noteFrame x env;theTreesLotGoes x) Q E s :=
 fZ (cn h (fun _ _ q=>q) fun _ _ hx=>hx.elim)
theorem uR {m:Sem α} {Q:α→Shared→Prop} (h:wpB b M A m Q (fun _ _=>False) s):wpB b M A (m.onRaise fun x=>do noteFrame x env;standAt pos) Q E s :=
 fZ (cn h (fun _ _ q=>q) fun _ _ hx=>hx.elim)
end
theorem ws (h:wpB b (model prog w) A (execs stmts env) (fun f s'=>R (.ok f) s') (fun _ _=>False) s):dY b (model prog w) A (.block stmts env) R s:=by
 refine gD rfl ?_;refine (?_:wpB b _ _ (do return Fin.done (← (execs stmts env).onRaise (fun x=>do noteFrame x env;theTreesLotGoes x))) _ _ s);exact bD (mD (cn h (fun f s' h'=>ba h') fun _ _ h'=>h'.elim))
abbrev JX (J:Shared→Prop) (Q:Flow→Shared→Prop):Flow→Shared→Prop:=fun f s3=>match f with
 |.next|.cont=>J s3
 |.brk=>Q .next s3
 |.ret v=>Q (.ret v) s3
abbrev cfN (b:Bool) (p:Program) (w:World) (A:Around) (env:Env) (target:PySem.Expr) (it:Value) (body orelse:List PySem.Stmt) (J:Shared→Prop) (Q:Flow→Shared→Prop):Option Value→Shared→Prop:=fun r sA=>match r with
 |.none=>wpB b (model p w) A (execs orelse env) Q (fun _ _=>False) sA
 |some v=>wpAny (model p w) A (letOwnedTupleGo target it v) (fun _ sA=>wpAny (model p w) A (assign target env v) (fun _ s2=>wpB b (model p w) A (execs body env) (JX J Q) (fun _ _=>False) s2) (fun _ _=>False) sA) (fun _ _=>False) sA
theorem tw {target it body orelse} (I:Nat→Shared→Prop)
  (turn:∀ n s,I n s→wpB b (model prog w) A (pyNext it) (cfN b prog w A env target it body orelse (fun s3=>∃ m,m<n∧I m s3) fun f s'=>R (.ok f) s') (fun _ _=>False) s)
  (n:Nat) (h:I n s):dY b (model prog w) A (.forLoop target it body orelse env) R s:=by
 refine nS rfl rfl I (fun n s hI=>?_) n h;refine (?_:wpB b _ A ((forTurn target it body orelse env).onRaise (fun x=>do noteFrame x env;theTreesLotGoes x)) _ _ s);refine mD ?_;simp only [forTurn];refine av (Ws (bD (fZ (cn (turn n s hI) (fun r sA h_1=>?_) fun _ _ h'=>h'.elim))))
 cases r with
 |none=>exact ba (.inr ⟨rfl,ws h_1⟩)
 |some v =>
  refine av (Wm h_1 (fun _ s1' h1'=>?_) fun _ _ h'=>h'.elim);refine av (Wm h1' (fun _ s2 h_2=>bD (cn h_2 (fun f s3 h_3=>?_) fun _ _ h'=>h'.elim)) fun _ _ h'=>h'.elim)
  cases f with
  |next=>exact ba (.inl ⟨rfl,h_3⟩)
  |cont=>exact ba (.inl ⟨rfl,h_3⟩)
  |brk=>exact ba h_3
  |ret v=>exact ba h_3
theorem yT {target iter body orelse pos} {Q:Flow→Shared→Prop}
  (h:wpAny (model prog w) A (eval iter env) (fun x sA=>wpB b (model prog w) A (pyIter x) (fun it s2 =>
   dY b (model prog w) A (.forLoop target it body orelse env) (fun r s'=>match r with|.ok f=>Q f s'|.error e=>cameBackBy (model prog w) A env E e s') s2) E sA) E s)
  (hs:∀ x,foldedSetIterable iter env x=pure x) :
  wpB b (model prog w) A (exec (.For target iter body orelse pos) env) Q E s:=by
 rw [exec_For]
 exact av (Ws (av (Wm h (fun x sA h_1=>av (Wq (hs x) (av (Ws (bD (ga
  (cn h_1 (fun it s2 h_2=>wO h_2) fun _ _ h'=>h'))))))) fun _ _ h'=>h')))
end
section
abbrev NoE:Value→Shared→Prop:=fun _ _=>False
section
variable {K:D→Own→Prop}
abbrev kW (I:Nat→Loc→Own→Prop) (n:Nat) (KF:Fl→Loc→Own→Prop):Fl→Loc→Own→Prop:=fun f l O2=>match f with
 |.next|.cont=>∃ m,m<n∧I m l O2
 |.brk=>KF .next l O2
 |.ret d=>KF (.ret d) l O2
abbrev kWt (c:Cc) (b o:List PySem.Stmt) (I:Nat→Loc→Own→Prop) (n:Nat) (loc:Loc) (KF:Fl→Loc→Own→Prop):Bool→Own→Prop:=fun z O₁=>if z=true then Exs c b loc O₁ (kW I n KF) NoE else Exs c o loc O₁ KF NoE
def WhI (c:Cc) (I:Nat→Loc→Own→Prop) (H:PM) (n:Nat) (s:Shared):Prop:=∃ H' loc' O',H≤H'∧I n loc' O'∧ag c H' loc' O' s
theorem mi {t b o p} (I:Nat→Loc→Own→Prop) (n:Nat) (h0:I n loc O)
  (turn:∀ n loc O,I n loc O→Tst c t loc O (kWt c b o I n loc KF) NoE):Ex c (.While t b o p) loc O KF E:=fun H s Q R q=>by
 refine wpAny_While (codeAny_whileLoop (WhI c I H) (fun n sA hI=>?_) n ⟨H,loc,O,Pr _,h0,R⟩);refine Aa hI fun H₁ lA O₁ le1 iA R1=>?_;refine Wm (turn n lA O₁ iA H₁ sA _ R1 fun HB s2 z O2 h_2 R2 le2=>?_) (fun _ _ x=>x) fun _ _ x=>x.elim;refine zQ (fun h_2=>?_) (fun h_2=>?_) h_2
 ·refine Wm (h_2 HB s2 _ R2 fun H3 s3 f g lC O3 h_3 R3 le3 fi=>?_) (fun _ _ x=>x) fun _ _ x=>x.elim;have le:=Pt le1 (Pt le2 le3)
  cases fi with
  |next=>exact al h_3 fun m hm i=>⟨m,hm,H3,lC,O3,le,i,R3⟩
  |cont=>exact al h_3 fun m hm i=>⟨m,hm,H3,lC,O3,le,i,R3⟩
  |brk=>exact q _ _ _ _ _ _ h_3 R3 le .next
  |ret r=>exact q _ _ _ _ _ _ h_3 R3 le (.ret r)
 ·exact Wm (h_2 HB s2 _ R2 fun H3 s3 f g lC O3 h_3 R3 le3 fi=>q _ _ _ _ _ _ h_3 R3 (Pt le1 (Pt le2 le3)) fi) (fun _ _ x=>x) fun _ _ x=>x.elim
structure Pass (x:Cx) (A:Around) (it:Addr) (ds:List D) (H₀:PM) (At:Nat→Heap→Prop):Prop where
 same:∀ i h h',At i h→h'.get? it=h.get? it→At i h'
 there:∀ i h,At i h→∃ o,h.get? it=some o
 item:∀ i d s Q E,ds[i]? = some d→At i s.heap→(∀ a o,H₀ a=some o→s.heap.get? a=some o) →
  (∀ h' tk v,At (i+1) h'→Heap.SameBut it s.heap h'→ac H₀ v d→Q (some v) {s with heap:=h',toks:=tk})→wpAny (model x.prog x.w) A (pyNext (.ref it)) Q E s
 stop:∀ s Q E,At ds.length s.heap→(∀ a o,H₀ a=some o→s.heap.get? a=some o)→(∀ h',Heap.ExtBut it s.heap h'→Q .none {s with heap:=h'})→wpAny (model x.prog x.w) A (pyNext (.ref it)) Q E s
 self:∀ s Q E,At 0 s.heap→Q (.ref it) s→wpAny (model x.prog x.w) A (pyIter (.ref it)) Q E s
 go:∀ target i s v Q E,At i s.heap→Q () s→wpAny (model x.prog x.w) A (letOwnedTupleGo target (.ref it) v) Q E s
def dn (c:Cc) (d:D) (ds:List D):Prop:=∀ loc O H s v Q E,ag c H loc O s→ac H v d →
 (∀ o At,o.isFreed=false→Pass c.x c.A s.heap.objs.size ds H At→At 0 (s.heap.push o)→Q (.ref s.heap.objs.size) {s with heap:=s.heap.push o})→wpAny c.M c.A (pyIter v) Q E s
structure nv (c:Cc) (H:PM) (O:Own) (it:Addr):Prop where
 h:H it=.none
 p:c.x.P it=.none
 o:∀ q∈O,q.1≠it
 l:it≠c.env.locals
 cs:∀ y b,(y,b)∈c.env.cells→b≠it
theorem ag.fresh {H s} (R:ag c H loc O s):nv c H O s.heap.objs.size :=
 ⟨R.t.fresh.1,R.t.fresh.2.1,R.t.fresh.2.2,Nat.ne_of_gt R.size.1,fun y b e=>Nat.ne_of_lt (R.size.2 y b e)⟩
theorem az.keepBut (R:az x H O s) (wh:H it=.none) (wp:x.P it=.none) (wo:∀ q∈O,q.1≠it) (k:∀ b o,b≠it→s.heap.get? b=some o→s'.heap.get? b=some o) (hg:s'.gens=s.gens:=by rfl) (ho:s'.os=s.os:=by rfl) (hd:s'.drawn=s.drawn:=by rfl):az x H O s' where
 gens g st e:=hg▸R.gens g st e
 os:=ho.trans R.os
 drawn:=hd.trans R.drawn
 hH a o e:=k a o (fun z=>aS e ((Cg H z).trans wh)) (R.hH a o e)
 hP a o b e:=al (R.hP a o b e) fun o' z r=>⟨o',k a o' (fun q=>aS e ((Cg x.P q).trans wp)) z,r⟩
 hO p hp:=(R.hO p hp).there.elim fun o e=>(R.hO p hp).same ((k _ _ (wo p hp) e).trans e.symm)
 nd:=R.nd
 dH:=R.dH
 dP:=R.dP
 dHP:=R.dHP
 bare:=hg▸R.bare
 hB:=R.hB
theorem ag.keepBut {H s s'} (R:ag c H loc O s) (w:nv c H O it) (k:∀ b o,b≠it→s.heap.get? b=some o→s'.heap.get? b=some o) (hg:s'.gens=s.gens:=by rfl) (ho:s'.os=s.os:=by rfl) (hd:s'.drawn=s.drawn:=by rfl):ag c H loc O s' :=
 ⟨R.t.keepBut w.h w.p w.o k hg ho hd,R.f.to (Pr _) (fun m n=>t9 n fun o e=>⟨o,k _ _ (Ne.symm w.l) e,rfl⟩) (fun b v y hm n=>gK n fun o e=>⟨o,k _ _ (w.cs _ _ hm) e,rfl⟩) fun _ _=>bQ,R.o⟩
open Classical in
noncomputable def Cx.fix (x:Cx) (it:Addr) (o:Obj):Cx:={x with P:=fun a=>if a=it then some (o,false) else x.P a}
theorem Cx.fix_le (h:x.P it=.none):x.le (x.fix it o):=⟨⟨rfl,Pr _,fun _ _ e=>e⟩,fun a ob e=>by
 exact (if_neg fun z=>aS e ((Cg x.P z).trans h)).trans e⟩
theorem Cx.fix_here:(x.fix it o).P it=some (o,false):=if_pos rfl
theorem Cx.fix_ne (h:a≠it):(x.fix it o).P a=x.P a:=if_neg h
noncomputable def Cc.fix (c:Cc) (it:Addr) (o:Obj):Cc:={c with x:=c.x.fix it o}
theorem Cx.fix_or (q:(x.fix it o).P a=some ob):(a=it∧ob=(o,false))∨x.P a=some ob:=by
 by_cases z:a=it
 ·exact .inl ⟨z,(Option.some.inj ((if_pos z).symm.trans q)).symm⟩
 ·exact .inr ((if_neg z).symm.trans q)
theorem az.fix (R:az x H O s) (wh:H it=.none) (wo:∀ q∈O,q.1≠it) (e:s.heap.get? it=some o):az (x.fix it o) H O s :=
 ⟨R.gens,R.os,R.drawn,R.hH,fun a ob b q=>(Cx.fix_or q).elim (fun z=>⟨o,z.1▸e,.inl (Cg Prod.fst z.2).symm⟩) (R.hP a ob b),R.hO,R.nd,R.dH,fun p hp=>(Cx.fix_ne (wo p hp)).trans (R.dP p hp),fun a ob q=>(Cx.fix_or q).elim (fun z=>(Cg H z.1).trans wh) (R.dHP a ob),R.bare,R.hB⟩
theorem az.unfix (hp:x.P it=.none) (R:az (x.fix it o) H O s):az x H O s∧s.heap.get? it=some o∧H it=.none∧∀ q∈O,q.1≠it :=
 ⟨R.down (Cx.fix_le hp),R.hard Cx.fix_here,R.dHP _ _ Cx.fix_here,fun q hq e=>aS Cx.fix_here ((Cg (x.fix it o).P e).symm.trans (R.dP q hq))⟩
theorem ag.fix {H s} (R:ag c H loc O s) (w:nv c H O it) (e:s.heap.get? it=some o):ag (c.fix it o) H loc O s :=
 ⟨R.t.fix w.h w.o e,R.f,⟨R.o.lH,(Cx.fix_ne (Ne.symm w.l)).trans R.o.lP,R.o.lO,R.o.cH,fun hw y b q k=>(Cx.fix_ne (w.cs y b q)).trans (R.o.cP hw y b q k),R.o.ca⟩⟩
theorem ag.unfix {H s} (hp:c.x.P it=.none) (R:ag (c.fix it o) H loc O s):ag c H loc O s∧s.heap.get? it=some o∧H it=.none∧∀ q∈O,q.1≠it :=
 have u:=az.unfix hp R.t
 ⟨⟨u.1,R.f,⟨R.o.lH,gU fun ob q=>aS ((Cx.fix_le (o:=o) hp).2 _ _ q) R.o.lP,R.o.lO,R.o.cH,fun hw y b q k=>gU fun ob z=>aS ((Cx.fix_le (o:=o) hp).2 _ _ z) (R.o.cP hw y b q k),R.o.ca⟩⟩,u.2⟩
def Tgt (c:Cc) (t:PySem.Expr) (d:D) (loc:Loc) (O:Own) (KS:Loc→Own→Prop):Prop:=St c (fun v=>assign t c.env v) d loc O KS NoE
abbrev kFb (I:Nat→Loc→Own→Prop) (i:Nat) (KF:Fl→Loc→Own→Prop):Fl→Loc→Own→Prop:=fun f l O4=>match f with
 |.next|.cont=>I (i+1) l O4
 |.brk=>KF .next l O4
 |.ret d=>KF (.ret d) l O4
abbrev kFt (c:Cc) (body:List PySem.Stmt) (I:Nat→Loc→Own→Prop) (i:Nat) (KF:Fl→Loc→Own→Prop):Loc→Own→Prop:=fun l' O3=>Exs c body l' O3 (kFb I i KF) NoE
end
def EvB (b:Bool) (c:Cc) (e:PySem.Expr) (loc:Loc) (O:Own) (K:D→Own→Prop) (E:Value→Shared→Prop):Prop :=
 ∀ H s Q,ag c H loc O s→(∀ H' s' v d O',K d O'→ag c H' loc O' s'→H≤H'→ac H' v d→Q v s')→wpB b c.M c.A (eval e c.env) Q E s
def Pq (b:Bool) (c:Cc) (ss:List PySem.Stmt) (loc:Loc) (O:Own) (K:Fl→Loc→Own→Prop) (E:Value→Shared→Prop):Prop :=
 ∀ H s Q,ag c H loc O s→(∀ H' s' f g loc' O',K g loc' O'→ag c H' loc' O' s'→H≤H'→jB H' f g→Q f s')→wpB b c.M c.A (execs ss c.env) Q E s
def ExB (b:Bool) (c:Cc) (st:PySem.Stmt) (loc:Loc) (O:Own) (K:Fl→Loc→Own→Prop) (E:Value→Shared→Prop):Prop :=
 ∀ H s Q,ag c H loc O s→(∀ H' s' f g loc' O',K g loc' O'→ag c H' loc' O' s'→H≤H'→jB H' f g→Q f s')→wpB b c.M c.A (exec st c.env) Q E s
noncomputable abbrev Cc.at (c:Cc) (x:Cx):Cc:={c with x:=x}
def NxB (b:Bool) (c:Cc) (target:PySem.Expr) (v:Value) (loc:Loc) (O:Own) (K:Option D→Own→Prop):Prop:=∀ H s Q,ag c H loc O s →
 (∀ H' s' O',K .none O'→ag c H' loc O' s'→H≤H'→Q .none s') →
 (∀ s' u,(∀ Q',(∀ H' s'' d O',K (some d) O'→ag c H' loc O' s''→H≤H'→ac H' u d→Q' () s'')→wpAny c.M c.A (letOwnedTupleGo target v u) Q' (fun _ _=>False) s')→Q (some u) s') →
 wpB b c.M c.A (pyNext v) Q (fun _ _=>False) s
def NxG (b:Bool) (c:Cc) (x:Cx) (target:PySem.Expr) (v:Value) (loc:Loc) (O:Own) (K:Option D→Cx→Own→Prop):Prop:=∀ H s Q,ag (c.at x) H loc O s →
 (∀ H' s' x' O',K .none x' O'→c.x.le x'→ag (c.at x') H' loc O' s'→H≤H'→Q .none s') →
 (∀ s' u,(∀ Q',(∀ H' s'' d x' O',K (some d) x' O'→c.x.le x'→ag (c.at x') H' loc O' s''→H≤H'→ac H' u d→Q' () s'')→wpAny c.M c.A (letOwnedTupleGo target v u) Q' (fun _ _=>False) s')→Q (some u) s') →
 wpB b c.M c.A (pyNext v) Q (fun _ _=>False) s
section
variable {K:D→Own→Prop}
theorem m7 (h:Ev c e loc O K E):EvB b c e loc O K E:=fun H s Q R q=>dg (h H s Q R q)
theorem M9 (h:EvB false c e loc O K E):Ev c e loc O K E:=fun H s Q R q=>yS (h H s Q R q)
theorem pq (h:Exs c ss loc O KF E):Pq b c ss loc O KF E:=fun H s Q R q=>dg (h H s Q R q)
theorem N6 {st} (h:ExB false c st loc O KF E):Ex c st loc O KF E:=fun H s Q R q=>yS (h H s Q R q)
theorem Pq.at (le:c.x.le x') (h:Pq b {c with x:=x'} ss loc O KF E):∀ H s Q,ag {c with x:=x'} H loc O s→(∀ H' s' f g loc' O',KF g loc' O'→ag {c with x:=x'} H' loc' O' s'→H≤H'→jB H' f g→Q f s')→wpB b c.M c.A (execs ss c.env) Q E s:=fun H s Q R q=>by
 have hM:model x'.prog x'.w=c.M:=by rw [le.1.1]
 have z:=h H s Q R q;refine (?_:wpB b c.M c.A _ _ _ _);rw [← hM];exact z
abbrev NX (b:Bool) (c:Cc) (body:List PySem.Stmt) (I:Nat→Loc→Own→Prop) (i:Nat) (KF:Fl→Loc→Own→Prop):Loc→Own→Prop:=fun l' O3=>Pq b c body l' O3 (kFb I i KF) NoE
abbrev Ms (b:Bool) (c:Cc) (target:PySem.Expr) (body orelse:List PySem.Stmt) (I:Nat→Loc→Own→Prop) (loc:Loc) (KF:Fl→Loc→Own→Prop):D→Own→Prop:=fun d O₁=>∃ ds,dn c d ds∧I 0 loc O₁ ∧
 (∀ i d l O2,ds[i]? = some d→I i l O2→∀ x',c.x.le x'→Tgt {c with x:=x'} target d l O2 (NX b {c with x:=x'} body I i KF)) ∧
 (∀ l O2,I ds.length l O2→Pq b c orelse l O2 KF NoE)
def Nx (c:Cc) (H₁:PM) (I:Nat→Loc→Own→Prop) (At:Nat→Heap→Prop) (it:Addr) (len n:Nat) (s:Shared):Prop :=
 ∃ i H' l O',(n=len+1-i∧i≤len∧I i l O')∧H₁≤H'∧ag c H' l O' s∧nv c H' O' it∧At i s.heap
theorem qB {target iter body orelse p} (I:Nat→Loc→Own→Prop) (hs:∀ x,foldedSetIterable iter c.env x=pure x)
  (h:Ev c iter loc O (Ms b c target body orelse I loc KF) E):ExB b c (.For target iter body orelse p) loc O KF E:=fun H s Q R q=>by
 refine yT (h H s _ R fun H₁ sA v d O₁ h_1 R1 le1 rA=>dg ?_) hs;refine ut h_1 fun ds hit i0 step last=>?_;refine hit loc O₁ H₁ sA v _ _ R1 rA fun o At hf ps at0=>?_;have wA:=R1.fresh;have R2:ag c H₁ loc O₁ {sA with heap:=sA.heap.push o}:=R1.keeps (s':={sA with heap:=sA.heap.push o}) fun b ob e=>Hp _ e;generalize sA.heap.objs.size=it at *;refine tw (Nx c H₁ I At it ds.length) (fun n s3 hI=>?_) (ds.length+1) ⟨0,H₁,loc,O₁,⟨rfl,Nat.zero_le _,i0⟩,Pr _,R2,wA,at0⟩;refine x0 hI fun i H3 lC O3 q0 le3 R3 w3 at3=>?_;refine gB q0 fun hn hi i3=>?_;subst hn;have hold:∀ a o,H₁ a=some o→s3.heap.get? a=some o:=fun a o e=>R3.t.hH _ _ (le3 _ _ e)
 by_cases hlt:i<ds.length
 ·have hd:ds[i]? = some ds[i]:=List.getElem?_eq_getElem hlt;generalize ds[i]=d' at hd;refine dg (ps.item i d' s3 _ _ hd at3 hold fun h' tk v' at' sb rd=>?_);refine ps.go _ (i+1) _ _ _ _ at' ?_;have R4:ag c H3 lC O3 {s3 with heap:=h',toks:=tk}:=R3.keepBut (s':={s3 with heap:=h',toks:=tk}) w3 fun b ob hb e=>(sb.2 b hb).trans e;obtain ⟨o',eo⟩:=ps.there _ _ at';have lx:c.x.le (c.x.fix it o'):=Cx.fix_le (o:=o') w3.p;refine Wm (step i d' lC O3 hd i3 _ lx H3 {s3 with heap:=h',toks:=tk} _ v' (R4.fix w3 eo) (rd.mono le3) fun H6 s6 l6 O6 h_6 R6 le6=>?_) (fun _ _ x=>x) fun _ _ x=>x.elim;refine cn (Pq.at lx h_6 H6 s6 _ R6 fun H7 s7 f g l7 O7 hG R7 le7 fi=>?_) (fun _ _ x=>x) fun _ _ x=>x.elim;have u:=R7.unfix w3.p;have leH:H₁≤H7:=Pt le3 (Pt le6 le7)
  have goOn:I (i+1) l7 O7→∃ m,m<ds.length+1-i∧Nx c H₁ I At it ds.length m s7:=fun hI =>
   ⟨ds.length+1-(i+1),tN hlt,i+1,H7,l7,O7,⟨rfl,hlt,hI⟩,leH,u.1,⟨u.2.2.1,w3.p,u.2.2.2,w3.l,w3.cs⟩,ps.same _ _ _ at' (u.2.1.trans eo.symm)⟩
  cases fi with
  |next=>exact goOn hG
  |cont=>exact goOn hG
  |brk=>exact q _ _ _ _ _ _ hG u.1 (Pt le1 leH) .next
  |ret r=>exact q _ _ _ _ _ _ hG u.1 (Pt le1 leH) (.ret r)
 ·obtain rfl:i=ds.length:=Nat.le_antisymm hi (Nat.not_lt.mp hlt);refine dg (ps.stop s3 _ _ at3 hold fun h' xb=>?_);have R4:ag c H3 lC O3 {s3 with heap:=h'}:=R3.keepBut (s':={s3 with heap:=h'}) w3 fun b ob hb e=>xb b ob hb e;exact last lC O3 i3 H3 _ _ R4 fun H5 s5 f g l5 O5 h_5 R5 le5 fi=>q _ _ _ _ _ _ h_5 R5 (Pt le1 (Pt le3 le5)) fi
abbrev vX (c:Cc) (target:PySem.Expr) (body orelse:List PySem.Stmt) (I:Nat→Loc→Own→Prop) (loc:Loc) (KF:Fl→Loc→Own→Prop):D→Own→Prop:=fun d O₁=>∃ ds,dn c d ds∧I 0 loc O₁ ∧
 (∀ i d l O2,ds[i]? = some d→I i l O2→∀ x',c.x.le x'→Tgt {c with x:=x'} target d l O2 (kFt {c with x:=x'} body I i KF)) ∧
 (∀ l O2,I ds.length l O2→Exs c orelse l O2 KF NoE)
theorem Tgt.mono {target d} {K K':Loc→Own→Prop} (h:Tgt c target d loc O K) (k:∀ l O',K l O'→K' l O'):Tgt c target d loc O K':=fun H s Q v R rd q=>h H s Q v R rd fun H' s' l O' z=>q H' s' l O' (k _ _ z)
theorem ul {target iter body orelse p} (I:Nat→Loc→Own→Prop) (hh:c.A.handled=.none)
  (h:Ev c iter loc O (vX c target body orelse I loc KF) E)
  (hs:∀ x,foldedSetIterable iter c.env x=pure x:=by intro _;rfl):Ex c (.For target iter body orelse p) loc O KF E :=
 N6 (qB I hs (h.mono fun d O₁ k=>k.elim fun ds k=>⟨ds,k.1,k.2.1,fun i d l O2 hd hI x' le=>(k.2.2.1 i d l O2 hd hI x' le).mono fun l O3=>pq,fun l O2 hI=>pq (k.2.2.2 l O2 hI)⟩))
end
section
variable {K:D→Own→Prop}
theorem PY {p d} (h:St c (storeName c.env y) d loc O KS NoE):Tgt c (.Name y p) d loc O KS:=fun H s Q v R rd q=>wpAny_assign_Name (h H s Q v R rd q)
theorem mh {v:Value} {T:String} (e:s.heap.get? it=some o) (hc:o.cls=.type T)
  (hT:["enumerate","zip","dict_itemiterator","dict_reverseitemiterator","odict_iterator","itertools.zip_longest","itertools.pairwise"].contains T=false) (h:Q () s):wpAny M A (letOwnedTupleGo target (.ref it) v) Q E s:=by
 have key:wpAny M A (letOwnedTupleGo (.Tuple [] default default) (.ref it) v) Q E s:=by
  cases v<;>first|exact Wp h|skip
  refine Wb (wpAny_load e ?_);obtain ⟨cls,dict,data,slots⟩:=o
  cases hc
  cases data<;>first|exact Wp h|skip
  exact wpAny_ite_false (decide_eq_false fun z=>by rw [hT] at z;cases z) (wpAny_pure h)
 cases target<;>first|exact Wp h|exact key
theorem cC (hh:c.A.handled=.none):dn c (.lst ds) ds:=fun loc O H s v Q E R rd q=>by
 cases rd using ac.cLst with
 |lst e rs =>
  rename_i a n vs;have isl:∀ h:Heap,(∀ a o,H a=some o→h.get? a=some o)→h.IsList a vs.toArray:=fun h k=>⟨_,k _ _ e,rfl,n,rfl⟩;refine wpAny_pyIter_list (isl _ R.t.hH) (q _ (fun i h=>h.IsListIter s.heap.objs.size a i) rfl ⟨fun i h h' x e=>?_,fun i h x=>?_,fun i d s' Q' E' hd at' k q'=>?_,fun s' Q' E' at' k q'=>?_,fun s' Q' E' at' q'=>?_,fun target i s' v' Q' E' at' q'=>?_⟩ ⟨_,Hs _ rfl,rfl,rfl⟩)
  ·exact x.elim fun o z=>⟨o,e.trans z.1,z.2⟩
  ·exact x.elim fun o z=>⟨o,z.1⟩
  ·refine al (rs.get hd) fun v' hv rd=>?_;exact wpAny_pyNext_list_item at' (isl _ k) (by simpa using hv) fun h' a' sb=>q' h' _ v' a' sb rd
  ·exact wpAny_pyNext_list_end hh at' (isl _ k) (by simp [rs.length]) q'
  ·exact wpAny_pyIter_listiter at' q'
  ·exact at'.elim fun o z=>mh z.1 z.2.1 (by decide) q'
theorem Du (hh:c.A.handled=.none):dn c (.tup ds) ds:=fun loc O H s v Q E R rd q=>by
 cases rd using ac.cTup with
 |tup e rs =>
  rename_i a n vs;have isl:∀ h:Heap,(∀ a o,H a=some o→h.get? a=some o)→h.IsTuple a vs.toArray:=fun h k=>⟨_,k _ _ e,rfl,n,rfl⟩;refine wpAny_pyIter_tuple (isl _ R.t.hH) (q _ (fun i h=>h.IsTupleIter s.heap.objs.size a i) rfl ⟨fun i h h' x e=>?_,fun i h x=>?_,fun i d s' Q' E' hd at' k q'=>?_,fun s' Q' E' at' k q'=>?_,fun s' Q' E' at' q'=>?_,fun target i s' v' Q' E' at' q'=>?_⟩ ⟨_,Hs _ rfl,rfl,rfl⟩)
  ·exact x.elim fun o z=>⟨o,e.trans z.1,z.2⟩
  ·exact x.elim fun o z=>⟨o,z.1⟩
  ·refine al (rs.get hd) fun v' hv rd=>?_;exact wpAny_pyNext_tuple_item at' (isl _ k) (by simpa using hv) fun h' a' sb=>q' h' _ v' a' sb rd
  ·exact wpAny_pyNext_tuple_end hh at' (isl _ k) (by simp [rs.length]) q'
  ·exact wpAny_pyIter_tupleiter at' q'
  ·exact at'.elim fun o z=>mh z.1 z.2.1 (by decide) q'
noncomputable abbrev tY (a b:Int) (t u v:Tok):Obj:={cls:=.type "range",data:=.fields #[.int a t,.int b u,.int 1 v]}
theorem ku {u v:Tok} (hn:(n:Int)<2^62) (hh:c.A.handled=.none):dn c (.obj (tY 0 n t u v)) ((List.range n).map fun (i:Nat)=>D.int (i:Int)):=fun loc O H s w Q E R rd q=>by
 cases rd using ac.cObj with
 |obj e =>
  rename_i a
  have hsz:Builtin.Range.rangeSize 0 (n:Int) 1=n:=by
   unfold Builtin.Range.rangeSize;rw [if_pos (by decide)]
   split<;>lia
  have hsm:Builtin.Range.small 0 (n:Int) 1=true:=by
   unfold Builtin.Range.small;rw [hsz]
   have f:∀ i:Int,0≤i→i<2^62+2→Builtin.Range.rangeFitsLong i=true:=fun i h0 h1=>by
    unfold Builtin.Range.rangeFitsLong;simp only [Bool.and_eq_true,decide_eq_true_eq];lia
   rw [f 0 (by decide) (by decide),f n (by lia) (by lia),f 1 (by decide) (by decide)];simp only [Bool.and_self,Bool.true_and,Bool.or_eq_true]
   right
   rw [if_pos (by decide)];exact f _ (by lia) (by lia)
  refine wpAny_pyIter_range (R.t.hH _ _ e) hsm (q _ (fun i h=>IsRangeIter h s.heap.objs.size (i:Int) ((n:Int)-i) 1) rfl ⟨fun i h h' x e=>e.trans x,fun i h x=>⟨_,x⟩,fun i d s' Q' E' hd at' k q'=>?_,fun s' Q' E' at' k q'=>?_,fun s' Q' E' at' q'=>wpAny_pyIter_rangeiter at' q',fun target i s' v' Q' E' at' q'=>mh at' rfl (by decide) q'⟩ ?_)
  ·obtain ⟨hi,rfl⟩:i<n∧D.int (i:Int)=d:=by
    rw [List.getElem?_map] at hd;refine al (Option.map_eq_some_iff.mp hd) fun j e1 e2=>?_;obtain ⟨hj,e3⟩:=List.getElem?_eq_some_iff.mp e1;rw [List.length_range] at hj;rw [List.getElem_range] at e3;subst e3;exact ⟨hj,e2⟩
   refine wpAny_pyNext_range_item at' (by lia) fun h' a' sb=>q' h' _ _ ?_ sb (.int _ _);have:IsRangeIter h' s.heap.objs.size ((i:Int)+1) ((n:Int)-i-1) 1:=a';rw [show ((i+1:Nat):Int)=(i:Int)+1 from rfl,show (n:Int)-((i:Int)+1)=(n:Int)-i-1 by lia];exact this
  ·refine wpAny_pyNext_range_end hh at' (by simp) q'
  ·rw [hsz]
   simpa using Heap.get?_push_size s.heap rfl
end
end
noncomputable abbrev pw:Program:=PySem.Challenge.pw_ll0030_01
noncomputable abbrev S (s:String):Str:=Str.ofString s
noncomputable def ent (P:Params) (x:Str) (t:Nat) (v:Value):DictEntry:=⟨PyData.keyHash P x,.str x t,v⟩
noncomputable def bu (i:Nat):PySem.Stmt:=(PySem.Challenge.pw_ll0030_01.main.body[i]?).getD (.Pass default)
noncomputable def ak (i j:Nat):PySem.Stmt:=match bu i with
 |.ClassDef _ _ _ b _ _ _ _ _ _ _=>(b[j]?).getD (.Pass default)
 |_=>.Pass default
noncomputable def bf (st:PySem.Stmt) (qual:Str) (dV cd pm:Value) (cl:List (Str×Addr)) (ct:Value):FuncData:=match st with
 |.FunctionDef n a b _ _ _ sc _ _ _=>{name:=n,qualname:=qual,params:=a,body:=.stmts b,scope:=sc,globals:=3,closure:=cl,defaults:=dV,kwdefaults:=.none,pyModule:=pm,code:=cd,closureTuple:=ct,builtins:=0}
 |_=>default
noncomputable def zC (l:List Nat):Str:=⟨l.toArray⟩
noncomputable def DR (st:PySem.Stmt) (qual:Str):FuncData:={bf st qual .none .none .none [] .none with globals:=0}
noncomputable def DS (an:Addr) (st:PySem.Stmt) (qual:Str) (dV cd pm:Value):FuncData:={bf st qual dV cd pm [] .none with annotations:=some an}
noncomputable def zJ (l:List String):Str:=⟨(l.flatMap fun x=>(S x).cps.toList).toArray⟩
noncomputable def zi (n:Int):Value:=.int n 0
noncomputable def zj (n:Int) (t:Nat):Value:=.int n t
noncomputable def zr (a:Addr):Value:=.ref a
noncomputable def zs (x:String) (t:Nat):Value:=.str (S x) t
noncomputable def zt (x:String):Value:=.type x
noncomputable def zu (x:String):Value:=.builtin x
noncomputable def zN:Value:=.none
noncomputable def zT:Value:=.bool true
noncomputable def zF:Value:=.bool false
noncomputable def ze (P:Params) (x:String) (t:Nat) (v:Value):DictEntry:=ent P (S x) t v
noncomputable def z0:Obj:=⟨.none,none,.fields #[],#[]⟩
noncomputable def zf (t:String) (l:List Value):Obj:=⟨.type t,none,.fields l.toArray,#[]⟩
noncomputable def zq (l:List Value):Obj:=⟨.type "tuple",none,.seq l.toArray 0,#[]⟩
noncomputable def z1:Obj:=zq []
noncomputable def zd (n:Nat) (l:List DictEntry):Obj:=⟨.type "dict",none,.dict l.toArray n,#[]⟩
noncomputable def zg (st:PySem.Stmt) (q:String):Obj:=⟨.none,none,.func (DR st (S q)),#[]⟩
noncomputable def zh (st:PySem.Stmt) (q:String) (dV cd pm:Value):Obj:=⟨.type "function",none,.func (bf st (S q) dV cd pm [] .none),#[]⟩
noncomputable def zxg:List Nat→List Value
 |a::b::r::l=>.int a 0::.int b 0::.ref r::zxg l
 |_=>[]
noncomputable def zx (l:List Nat):Obj:=⟨.none,none,.fields (zxg l).toArray,#[]⟩
noncomputable def zl (a b c:Addr) (v:Value) (r:Addr):Obj:=⟨.type "frame",none,.plain,#[some (.ref a),some (.ref b),some (.ref c),none,some v,none,some (.ref r)]⟩
noncomputable def zk (t:Value) (n:String) (bs mro:List Value) (ns:Addr) (hd:Bool) (sl:List Str) (sub:List Value) (ab:Bool) (k:Array (Option Value)):Obj:=⟨t,none,.cls {name:=S n,bases:=bs,mro:=mro,ns:=ns,qualname:=S n,hasDict:=hd,slotNames:=sl,subclasses:=sub,abstract:=ab,collection:=none,hasDel:=false},k⟩
noncomputable def zwg (t:Nat):List String→List Value
 |[]=>[]
 |x::l=>zs x t::zwg (t+1) l
noncomputable def zw (t:Nat) (l:List String):Obj:=zq (zwg t l)
noncomputable def zb (P:Params) (x:String) (t:Nat):DictEntry:=ze P x t (zu x)
noncomputable def zy (P:Params) (x:String) (t:Nat):DictEntry:=ze P x t (zt x)
noncomputable def zv:Nat→Value
 |0=>.none
 |n=>.ref n
noncomputable def zc (n q:String) (t:Nat) (l a b c d:Int) (r:Addr) (z:Bool) (k:Int) (r':Addr) (v1 v2 v3 v4:Value) (t':Nat):Obj :=
 zf "code" [zs n t,zs q (t+1),zs "/claim/cut.py" (t+2),zi l,zi a,zi b,zi c,zi d,zr r,.bool z,zi k,zr r',v1,v2,v3,v4,zi t',zi l,zs "/claim/cut.py" (t'+1)]
noncomputable def zn (st:PySem.Stmt) (q:String) (d:Nat) (cd:Addr) (pm:Value):FuncData:=bf st (S q) (zv d) (.ref cd) pm [] .none
noncomputable def zm (st:PySem.Stmt) (q n:String) (t:Nat) (l a b c d:Int) (r:Addr) (z:Bool) (k:Int) (r':Addr) (v1 v2 v3 v4 t' v5:Nat) (cd:Addr) (pm:Value) (o:List Obj):List Obj :=
 zg st q::zc n q t l a b c d r z k r' (zv v1) (zv v2) (zv v3) (zv v4) t'::zh st q (zv v5) (.ref cd) pm::o
noncomputable def ya:Value:=zs "kafka.record.legacy_records" 1130
noncomputable def yb:Value:=zs "kafka.record.default_records" 1751
noncomputable def yc:Value:=zs "kafka.record.abc" 605
noncomputable def yd:Value:=zs "itertools" 386
noncomputable def ye:Value:=zs "law_ll0030_01" 2405
noncomputable def yf:Value:=zs "kafka.record.memory_records" 2300
noncomputable def yg:Value:=zs "kafka.outside" 338
noncomputable def yh:Value:=zs "abc" 562
noncomputable def yi:Value:=zs "kafka.record._crc32c" 786
noncomputable def hf0 (P:Params):List Obj:=zd 159 [ze P "__name__" 1 (zs "builtins" 160),ze P "__doc__" 2 (zu "builtins.__doc__:str#opaque"),ze P "__package__" 3 (zu "builtins.__package__:str#opaque"),ze P "__loader__" 4 (zu "builtins.__loader__:shared#opaque"),ze P "__spec__" 5 (zu "builtins.__spec__#opaque"),zb P "__build_class__" 6,zb P "__import__" 7,zb P "abs" 8,zb P "all" 9,zb P "any" 10,zb P "ascii" 11,zb P "bin" 12,zb P "breakpoint" 13,zb P "callable" 14,zb P "chr" 15,zb P "compile" 16,zb P "delattr" 17,zb P "dir" 18,zb P "divmod" 19,zb P "eval" 20,zb P "exec" 21,zb P "format" 22,zb P "getattr" 23,zb P "globals" 24,zb P "hasattr" 25,zb P "hash" 26,zb P "hex" 27,zb P "id" 28,zb P "input" 29,zb P "isinstance" 30,zb P "issubclass" 31,zb P "iter" 32,zb P "aiter" 33,zb P "len" 34,zb P "locals" 35,zb P "max" 36,zb P "min" 37,zb P "next" 38,zb P "anext" 39,zb P "oct" 40,zb P "ord" 41,zb P "pow" 42,zb P "print" 43,zb P "repr" 44,zb P "round" 45,zb P "setattr" 46,zb P "sorted" 47,zb P "sum" 48,zb P "vars" 49,ze P "None" 50 zN,ze P "Ellipsis" 51 .ellipsis,ze P "NotImplemented" 52 .notImplemented,ze P "False" 53 zF,ze P "True" 54 zT,zy P "bool" 55,zy P "memoryview" 56,zy P "bytearray" 57,zy P "bytes" 58,zy P "classmethod" 59,zy P "complex" 60,zy P "dict" 61,zy P "enumerate" 62,zy P "filter" 63,zy P "float" 64,zy P "frozenset" 65,zy P "property" 66,zy P "int" 67,zy P "list" 68,zy P "map" 69,zy P "object" 70,zy P "range" 71,zy P "reversed" 72,zy P "set" 73,zy P "slice" 74,zy P "staticmethod" 75,zy P "str" 76,zy P "super" 77,zy P "tuple" 78,zy P "type" 79,zy P "zip" 80,ze P "__debug__" 81 zT,zy P "BaseException" 82,zy P "BaseExceptionGroup" 83,zy P "Exception" 84,zy P "GeneratorExit" 85,zy P "KeyboardInterrupt" 86,zy P "SystemExit" 87,zy P "ArithmeticError" 88,zy P "AssertionError" 89,zy P "AttributeError" 90,zy P "BufferError" 91,zy P "EOFError" 92,zy P "ImportError" 93,zy P "LookupError" 94,zy P "MemoryError" 95,zy P "NameError" 96,zy P "OSError" 97,zy P "ReferenceError" 98,zy P "RuntimeError" 99,zy P "StopAsyncIteration" 100,zy P "StopIteration" 101,zy P "SyntaxError" 102,zy P "SystemError" 103,zy P "TypeError" 104,zy P "ValueError" 105,zy P "Warning" 106,zy P "FloatingPointError" 107,zy P "OverflowError" 108,zy P "ZeroDivisionError" 109,zy P "BytesWarning" 110,zy P "DeprecationWarning" 111,zy P "EncodingWarning" 112,zy P "FutureWarning" 113,zy P "ImportWarning" 114,zy P "PendingDeprecationWarning" 115,zy P "ResourceWarning" 116,zy P "RuntimeWarning" 117,zy P "SyntaxWarning" 118,zy P "UnicodeWarning" 119,zy P "UserWarning" 120,zy P "BlockingIOError" 121,zy P "ChildProcessError" 122,zy P "ConnectionError" 123,zy P "FileExistsError" 124,zy P "FileNotFoundError" 125,zy P "InterruptedError" 126,zy P "IsADirectoryError" 127,zy P "NotADirectoryError" 128,zy P "PermissionError" 129,zy P "ProcessLookupError" 130,zy P "TimeoutError" 131,zy P "IndentationError" 132,zy P "_IncompleteInputError" 133,zy P "IndexError" 134,zy P "KeyError" 135,zy P "ModuleNotFoundError" 136,zy P "NotImplementedError" 137,zy P "PythonFinalizationError" 138,zy P "RecursionError" 139,zy P "UnboundLocalError" 140,zy P "UnicodeError" 141,zy P "BrokenPipeError" 142,zy P "ConnectionAbortedError" 143,zy P "ConnectionRefusedError" 144,zy P "ConnectionResetError" 145,zy P "TabError" 146,zy P "UnicodeDecodeError" 147,zy P "UnicodeEncodeError" 148,zy P "UnicodeTranslateError" 149,zy P "ExceptionGroup" 150,ze P "EnvironmentError" 151 (zt "OSError"),ze P "IOError" 152 (zt "OSError"),zb P "open" 153,ze P "quit" 154 (zu "builtins.quit#opaque"),ze P "exit" 155 (zu "builtins.exit#opaque"),ze P "copyright" 156 (zu "builtins.copyright#opaque"),ze P "credits" 157 (zu "builtins.credits#opaque"),ze P "license" 158 (zu "builtins.license#opaque"),ze P "help" 159 (zu "builtins.help#opaque")]::zd 3 [ze P "builtins" 162 (zr 4),ze P "__main__" 163 (zr 5),ze P "_struct" 287 (zr 13)]::⟨.none,none,(.dict #[ze P "impor\x74.loaded._struct" 188 zT,ent P (zJ ["class._frozen_importlib_extern","al._LoaderBasics"]) 193 (zr 16),ze P "watched.impor\x74" 209 (zr 20),ent P (zJ ["class._frozen_importlib_extern","al.FileLoader"]) 210 (zr 22),ent P (zJ ["class._frozen_importlib_extern","al.ExtensionFileLoader"]) 231 (zr 27),ze P "class._frozen_importlib.ModuleSpec" 259 (zr 33),ze P "sys.modules.booked-epoch" 288 (zi 3),ze P "class.struct.error" 305 (zt "struct.error"),ze P "impor\x74.later-laid._struct" 307 zT,ze P "watched.library" 309 (zr 38),ze P "watched.library-objects" 0 (zs "\x0d" 0),ze P "type.__subclasses__.Exception.0" 356 (zi 59),ze P "type.__subclasses__.Exception.n" 357 (zi 2),ze P "type.__subclasses__.Exception.1" 376 (zi 72)] 14),#[]⟩::zd 64 [ze P "__name__" 165 ye,ze P "__doc__" 166 zN,ze P "__package__" 167 zN,ze P "__loader__" 168 (zu "__main__.__loader__#opaque"),ze P "__spec__" 169 zN,ze P "__annotations__" 170 (zr 6),ze P "__builtins__" 171 (zr 4),ze P "__file__" 173 (zs "/claim/cut.py" 172),ze P "__cached__" 174 zN,ze P "Struct" 315 (zt "_struct.Struct"),ze P "calcsize" 318 (zu "_struct.calcsize"),ze P "pack_into" 321 (zu "_struct.pack_into"),ze P "unpack_from" 324 (zu "_struct.unpack_from"),ze P "_wall" 337 (zr 49),ze P "CorruptRecordError" 359 (zr 59),ze P "UnsupportedCodecError" 379 (zr 72),ze P "has_gzip" 385 (zr 82),ze P "_pull" 394 (zr 89),ze P "_same" 402 (zr 96),ze P "groupby" 493 (zr 137),ze P "_grouper" 547 (zr 182),ze P "gzip_encode" 555 (zr 192),ze P "gzip_decode" 561 (zr 197),ze P "ABCMeta" 587 (zr 214),ze P "ABC" 604 (zr 228),ze P "ABCRecord" 633 (zr 247),ze P "ABCRecordBatchBuilder" 689 (zr 284),ze P "ABCRecordBatch" 723 (zr 306),ze P "ABCRecords" 777 (zr 349),ze P "CRC_TABLE" 1044 (zr 355),ze P "CRC_INIT" 1046 (zj 0 1045),ze P "_MASK" 1048 (zj 4294967295 1047),ze P "crc_update" 1060 (zr 363),ze P "crc_finalize" 1067 (zr 370),ze P "crc" 1074 (zr 377),ze P "decode_varint" 1088 (zr 385),ze P "_crc32c" 1089 (zr 377),ze P "calc_crc32c" 1097 (zr 393),ze P "_buffer" 1107 (zr 400),ze P "crc32" 1119 (zr 408),ze P "calc_crc32" 1129 (zr 415),ze P "LegacyRecordBase" 1210 (zr 434),ze P "LegacyRecordBatch" 1380 (zr 544),ze P "LegacyRecord" 1506 (zr 649),ze P "LegacyRecordBatchBuilder" 1676 (zr 743),ze P "LegacyRecordMetadata" 1750 (zr 801),ze P "DefaultRecordBase" 1824 (zr 823),ze P "DefaultRecordBatch" 2108 (zr 1069),ze P "DefaultRecord" 2223 (zr 1166),ze P "ControlRecord" 2299 (zr 1227),ze P "MemoryRecords" 2404 (zr 1297),ze P "_law_times" 2412 (zr 1306),ze P "_law_fixed" 2418 (zr 1311),ze P "_law_number" 2427 (zr 1318),ze P "_law_data" 2434 (zr 1325),ze P "_law_piece" 2441 (zr 1332),ze P "_law_squeezed" 2447 (zr 1337),ze P "_law_batch" 2468 (zr 1344),ze P "_law_head" 2479 (zr 1351),ze P "_law_markers" 2492 (zr 1358),ze P "_law_message" 2506 (zr 1365),ze P "_law_old" 2525 (zr 1372),ze P "_law_records" 2531 (zr 1377),ze P "law" 2537 (zr 1382)]::⟨(zt "module"),some 0,.plain,#[]⟩::⟨(zt "module"),some 3,.plain,#[]⟩::zd 0 []::z1::z0::zc "<module>" "<module>" 176 1 0 0 0 0 7 false 175 8 zN zN zN zN 179::zl 9 3 3 (zs "__main__" 164) 0::zw 182 ["Struct","calcsize","pack_into","unpack_from"]::zd 15 [ze P "__name__" 290 (zs "_struct" 289),ze P "__doc__" 291 (zu "off-the-table:_struct.__doc__:shared#opaque"),ze P "__package__" 293 (zs "" 292),ze P "__loader__" 294 (zu "off-the-table:_struct.__loader__:shared#opaque"),ze P "__spec__" 295 (zu "off-the-table:_struct.__spec__:shared#opaque"),ze P "_clearcache" 296 (zu "off-the-table:_struct._clearcache:shared#opaque"),ze P "calcsize" 297 (zu "_struct.calcsize"),ze P "iter_unpack" 298 (zu "_struct.iter_unpack"),ze P "pack" 299 (zu "_struct.pack"),ze P "pack_into" 300 (zu "_struct.pack_into"),ze P "unpack" 301 (zu "_struct.unpack"),ze P "unpack_from" 302 (zu "_struct.unpack_from"),ze P "__file__" 303 (.str (zJ ["/nix/store/wj1f56qky4pmjc7l0r6","b6l7whnnw7hp6-python3-3.13.15/","lib/python3.13/lib-dynload/_st","ruct.cpython-313-x86_64-linux-","gnu.so"]) 189),ze P "Struct" 304 (zt "_struct.Struct"),ze P "error" 306 (zt "struct.error")]::⟨(zt "module"),some 12,.plain,#[]⟩::zd 2 [ze P "name" 191 (zs "_struct" 190),ze P "path" 192 (.str (zJ ["/nix/store/wj1f56qky4pmjc7l0r6","b6l7whnnw7hp6-python3-3.13.15/","lib/python3.13/lib-dynload/_st","ruct.cpython-313-x86_64-linux-","gnu.so"]) 189)]::zd 10 [ze P "__module__" 196 (zs "_frozen_importlib_external" 194),ze P "__firstlineno__" 197 (zj 1001 195),ze P "__doc__" 198 (zu "_frozen_importlib_external._LoaderBasics.__doc__:str#opaque"),ze P "is_package" 199 (zu "_frozen_importlib_external._LoaderBasics.is_package#opaque"),ze P "create_module" 200 (zu "_frozen_importlib_external._LoaderBasics.create_module#opaque"),ze P "exec_module" 201 (zu "_frozen_importlib_external._LoaderBasics.exec_module#opaque"),ze P "load_module" 202 (zu "_frozen_importlib_external._LoaderBasics.load_module#opaque"),ze P "__static_attributes__" 203 (zr 17),ze P "__dict__" 205 (zr 18),ze P "__weakref__" 207 (zr 19)]::zk (zt "type") "_LoaderBasics" [zt "object"] [zr 16,zt "object"] 15 true [] [zr 27] false #[]::z1::zf "getset_descriptor" [zs "__dict__" 204,zr 16,zu "function.__dict__",zu "function.__dict__#set"]::zf "getset_descriptor" [zs "__weakref__" 206,zr 16,zu "ExceptionGroup.__weakref__",zN]::⟨.none,none,(.seq #[zi 15,(.str (zJ ["\x06Ä\n__module__\x06Â\x1a_frozen_import","lib_external\x06Å\x0f__firstlineno__","\x04Ã\x00ϩ\x06Æ\x07__doc__\t;_frozen_import","lib_external._LoaderBasics.__d","oc__:str#opaque\x06Ç\nis_package\t:","_frozen_importlib_external._Lo","aderBasics.is_package#opaque\x06È","\x0dcreate_module\t=_frozen_import","lib_external._LoaderBasics.cre","ate_module#opaque\x06É\x0bexec_modul","e\t;_frozen_importlib_external.","_LoaderBasics.exec_module#opaq","ue\x06Ê\x0bload_module\t;_frozen_impo","rtlib_external._LoaderBasics.l","oad_module#opaque\x06Ë\x15__static_a","ttributes__\x04\x00\x00\x11\x06Í\x08__dict__\x04\x00\x00\x12","\x06Ï\x0b__weakref__\x04\x00\x00\x13"]) 0),zT,zT,zs "" 208,zi 21,(.str (zJ ["\x06×\n__module__\x06Ó\x1a_frozen_import","lib_external\x06Ø\x0f__firstlineno__","\x04Ô\x00Ҙ\x06Ù\x07__doc__\t8_frozen_import","lib_external.FileLoader.__doc_","_:str#opaque\x06Ú\x08__init__\t5_froz","en_importlib_external.FileLoad","er.__init__#opaque\x06Û\x06__eq__\t3_","frozen_importlib_external.File","Loader.__eq__#opaque\x06Ü\x08__hash_","_\t5_frozen_importlib_external.","FileLoader.__hash__#opaque\x06Ý\x0bl","oad_module\t8_frozen_importlib_","external.FileLoader.load_modul","e#opaque\x06Þ\x0cget_filename\t9_froz","en_importlib_external.FileLoad","er.get_filename#opaque\x06ß\x08get_d","ata\t5_frozen_importlib_externa","l.FileLoader.get_data#opaque\x06à","\x13get_resource_reader\t@_frozen_","importlib_external.FileLoader.","get_resource_reader#opaque\x06á\x15_","_static_attributes__\x04\x00\x00\x17\x06ã\x08__d","ict__\x04\x00\x00\x18\x06å\x0b__weakref__\x04\x00\x00\x19"]) 0),zT,zT,zs "" 230,zi 26,(.str (zJ ["\x06ì\n__module__\x06è\x1a_frozen_import","lib_external\x06í\x0f__firstlineno__","\x04é\x00Ԑ\x06î\x07__doc__\tA_frozen_import","lib_external.ExtensionFileLoad","er.__doc__:str#opaque\x06ï\x08__init","__\t>_frozen_importlib_external",".ExtensionFileLoader.__init__#","opaque\x06ð\x06__eq__\t<_frozen_impor","tlib_external.ExtensionFileLoa","der.__eq__#opaque\x06ñ\x08__hash__\t>","_frozen_importlib_external.Ext","ensionFileLoader.__hash__#opaq","ue\x06ò\x0dcreate_module\tC_frozen_im","portlib_external.ExtensionFile","Loader.create_module#opaque\x06ó\x0b","exec_module\tA_frozen_importlib","_external.ExtensionFileLoader.","exec_module#opaque\x06ô\nis_packag","e\t@_frozen_importlib_external.","ExtensionFileLoader.is_package","#opaque\x06õ\x08get_code\t>_frozen_im","portlib_external.ExtensionFile","Loader.get_code#opaque\x06ö\nget_s","ource\t@_frozen_importlib_exter","nal.ExtensionFileLoader.get_so","urce#opaque\x06÷\x0cget_filename\tB_f","rozen_importlib_external.Exten","sionFileLoader.get_filename#op","aque\x06ø\x15__static_attributes__\x04\x00","\x00\x1c"]) 0),zT,zT,zs "" 249,zi 32,(.str (zJ ["\x06Ď\n__module__\x06Ą\x11_frozen_import","lib\x06ď\x0f__firstlineno__\x04ą\x00Ȳ\x06Đ\x07__","doc__\t/_frozen_importlib.Modul","eSpec.__doc__:str#opaque\x06đ\x08__i","nit__\t,_frozen_importlib.Modul","eSpec.__init__#opaque\x06Ē\x08__repr","__\t,_frozen_importlib.ModuleSp","ec.__repr__#opaque\x06ē\x06__eq__\t*_","frozen_importlib.ModuleSpec.__","eq__#opaque\x06Ĕ\x06cached\t*_frozen_","importlib.ModuleSpec.cached#op","aque\x06ĕ\x06parent\t*_frozen_importl","ib.ModuleSpec.parent#opaque\x06Ė\x0c","has_location\t0_frozen_importli","b.ModuleSpec.has_location#opaq","ue\x06ė\x15__static_attributes__\x04\x00\x00\"","\x06ę\x08__dict__\x04\x00\x00#\x06ě\x0b__weakref__\x04","\x00\x00$\x06Ĝ\x08__hash__\x00"]) 0),zT,zT,zs "" 285] 3),#[]⟩::zd 13 [ze P "__module__" 215 (zs "_frozen_importlib_external" 211),ze P "__firstlineno__" 216 (zj 1176 212),ze P "__doc__" 217 (zu "_frozen_importlib_external.FileLoader.__doc__:str#opaque"),ze P "__init__" 218 (zu "_frozen_importlib_external.FileLoader.__init__#opaque"),ze P "__eq__" 219 (zu "_frozen_importlib_external.FileLoader.__eq__#opaque"),ze P "__hash__" 220 (zu "_frozen_importlib_external.FileLoader.__hash__#opaque"),ze P "load_module" 221 (zu "_frozen_importlib_external.FileLoader.load_module#opaque"),ze P "get_filename" 222 (zu "_frozen_importlib_external.FileLoader.get_filename#opaque"),ze P "get_data" 223 (zu "_frozen_importlib_external.FileLoader.get_data#opaque"),ze P "get_resource_reader" 224 (zu "_frozen_importlib_external.FileLoader.get_resource_reader#opaque"),ze P "__static_attributes__" 225 (zr 23),ze P "__dict__" 227 (zr 24),ze P "__weakref__" 229 (zr 25)]::zk (zt "type") "FileLoader" [zt "object"] [zr 22,zt "object"] 21 true [] [zr 27] false #[]::zw 213 ["name","path"]::zf "getset_descriptor" [zs "__dict__" 226,zr 22,zu "function.__dict__",zu "function.__dict__#set"]::zf "getset_descriptor" [zs "__weakref__" 228,zr 22,zu "ExceptionGroup.__weakref__",zN]::zd 13 [ze P "__module__" 236 (zs "_frozen_importlib_external" 232),ze P "__firstlineno__" 237 (zj 1296 233),ze P "__doc__" 238 (zu "_frozen_importlib_external.ExtensionFileLoader.__doc__:str#opaque"),ze P "__init__" 239 (zu "_frozen_importlib_external.ExtensionFileLoader.__init__#opaque"),ze P "__eq__" 240 (zu "_frozen_importlib_external.ExtensionFileLoader.__eq__#opaque"),ze P "__hash__" 241 (zu "_frozen_importlib_external.ExtensionFileLoader.__hash__#opaque"),ze P "create_module" 242 (zu "_frozen_importlib_external.ExtensionFileLoader.create_module#opaque"),ze P "exec_module" 243 (zu "_frozen_importlib_external.ExtensionFileLoader.exec_module#opaque"),ze P "is_package" 244 (zu "_frozen_importlib_external.ExtensionFileLoader.is_package#opaque"),ze P "get_code" 245 (zu "_frozen_importlib_external.ExtensionFileLoader.get_code#opaque"),ze P "get_source" 246 (zu "_frozen_importlib_external.ExtensionFileLoader.get_source#opaque"),ze P "get_filename" 247 (zu "_frozen_importlib_external.ExtensionFileLoader.get_filename#opaque"),ze P "__static_attributes__" 248 (zr 28)]::zk (zt "type") "ExtensionFileLoader" [zr 22,zr 16] [zr 27,zr 22,zr 16,zt "object"] 26 true [] [] false #[]::zw 234 ["name","path"]::⟨(zr 27),some 14,.plain,#[]⟩::⟨(zt "list"),none,(.seq #[] 0),#[]⟩::zd 9 [ze P "name" 251 (zs "_struct" 250),ze P "loader" 252 (zr 29),ze P "origin" 253 (.str (zJ ["/nix/store/wj1f56qky4pmjc7l0r6","b6l7whnnw7hp6-python3-3.13.15/","lib/python3.13/lib-dynload/_st","ruct.cpython-313-x86_64-linux-","gnu.so"]) 189),ze P "loader_state" 254 zN,ze P "submodule_search_locations" 255 zN,ze P "_uninitialized_submodules" 256 (zr 30),ze P "_set_fileattr" 257 zT,ze P "_cached" 258 zN,ze P "_initializing" 286 zF]::zd 13 [ze P "__module__" 270 (zs "_frozen_importlib" 260),ze P "__firstlineno__" 271 (zj 562 261),ze P "__doc__" 272 (zu "_frozen_importlib.ModuleSpec.__doc__:str#opaque"),ze P "__init__" 273 (zu "_frozen_importlib.ModuleSpec.__init__#opaque"),ze P "__repr__" 274 (zu "_frozen_importlib.ModuleSpec.__repr__#opaque"),ze P "__eq__" 275 (zu "_frozen_importlib.ModuleSpec.__eq__#opaque"),ze P "cached" 276 (zu "_frozen_importlib.ModuleSpec.cached#opaque"),ze P "parent" 277 (zu "_frozen_importlib.ModuleSpec.parent#opaque"),ze P "has_location" 278 (zu "_frozen_importlib.ModuleSpec.has_location#opaque"),ze P "__static_attributes__" 279 (zr 34),ze P "__dict__" 281 (zr 35),ze P "__weakref__" 283 (zr 36),ze P "__hash__" 284 zN]::zk (zt "type") "ModuleSpec" [zt "object"] [zr 33,zt "object"] 32 true [] [] false #[]::zw 262 ["_cached","_set_fileattr","_uninitialized_submodules","loader","loader_state","name","origin","submodule_search_locations"]::zf "getset_descriptor" [zs "__dict__" 280,zr 33,zu "function.__dict__",zu "function.__dict__#set"]::zf "getset_descriptor" [zs "__weakref__" 282,zr 33,zu "ExceptionGroup.__weakref__",zN]::⟨(zr 33),some 31,.plain,#[]⟩::⟨.none,none,(.seq #[zi 12,(.str (zJ ["\x06Ģ\x08__name__\x06ġ\x07_struct\x06ģ\x07__doc_","_\t\x1a_struct.__doc__:str#opaque\x06","ĥ\x0b__package__\x06Ĥ\x00\x06Ħ\n__loader__\x04","\x00\x00\x1d\x06ħ\x08__spec__\x04\x00\x00%\x06Ĩ\x0b_clearcac","he\t\x13_struct._clearcache\x06ĩ\x08calc","size\t\x10_struct.calcsize\x06Ī\x0biter_","unpack\t\x13_struct.iter_unpack\x06ī\x04","pack\t\x0c_struct.pack\x06Ĭ\tpack_into","\t\x11_struct.pack_into\x06ĭ\x06unpack\t\x0e","_struct.unpack\x06Į\x0bunpack_from\t\x13","_struct.unpack_from\x06į\x08__file__","\x06½~/nix/store/wj1f56qky4pmjc7l","0r6b6l7whnnw7hp6-python3-3.13.","15/lib/python3.13/lib-dynload/","_struct.cpython-313-x86_64-lin","ux-gnu.so\x06İ\x06Struct\x08\x0e_struct.St","ruct\x06Ĳ\x05error\x08\x0cstruct.error"]) 0),zT,zF,zs "_struct" 308] 0),#[]⟩::z1::zx [2,0,48,6,0,55,8,0,68,10,0,81,13,0,88,18,0,95,24,0,102,68,0,155,98,0,191,100,0,196,103,0,203,107,0,222,110,0,236,115,0,258,126,0,295,131,0,317,149,0,362,158,0,369,160,0,376,163,0,384,182,0,392,185,0,399,192,0,407,206,0,414,210,0,421,237,0,444,366,0,552,420,0,657,531,0,751,558,0,811,585,0,833,774,0,1077,822,0,1175,848,0,1235,916,0,1305,918,0,1310,920,0,1317,927,0,1324,929,0,1331,933,0,1336,941,0,1343,959,0,1350,963,0,1357,972,0,1364,977,0,1371,992,0,1376,1000,0,1381]::zc "<module>" "<module>" 326 1 0 0 0 0 39 false 325 40 zN zN zN zN 329::zl 41 3 3 (zs "__main__" 164) 0::z1::z0::zw 334 ["k"]::z1::zm (bu 1) "_wall" "_wall" 331 2 1 0 0 3 43 true 325 44 0 45 46 47 335 0 48 (zs "__main__" 164) (zq [zt "Exception"]::zf "builtin_function_or_method" [zu "type.__prepare__",zt "type"]::zd 4 [ze P "__module__" 347 yg,ze P "__qualname__" 349 (zs "CorruptRecordError" 348),ze P "__firstlineno__" 351 (zj 6 350),ze P "__static_attributes__" 352 (zr 57)]::z1::z0::zc "CorruptRecordError" "CorruptRecordError" 342 6 0 0 0 0 53 false 325 54 zN zN zN zN 345::zl 55 3 52 yg 0::z1::zd 3 [ze P "__module__" 347 yg,ze P "__firstlineno__" 351 (zj 6 350),ze P "__static_attributes__" 352 (zr 57),ze P "__weakref__" 354 (zr 60),ze P "__doc__" 355 zN]::zk (zt "type") "CorruptRecordError" [zt "Exception"] [zr 59,zt "Exception",zt "BaseException",zt "object"] 58 true [] [] false #[(some (zr 50)),none,(some (zs "CorruptRecordError" 340)),(some (zs "CorruptRecordError" 348)),(some (zu "Exception.__new__")),(some zT)]::[])
noncomputable def hf1 (P:Params):List Obj:=zf "getset_descriptor" [zs "__weakref__" 353,zr 59,zu "ExceptionGroup.__weakref__",zN]::zf "super" [zr 59,zr 59,zr 59]::zf "builtin_function_or_method" [zu "object.__init_subclass__",zr 59]::zq [zt "Exception"]::zf "builtin_function_or_method" [zu "type.__prepare__",zt "type"]::zd 4 [ze P "__module__" 367 yg,ze P "__qualname__" 369 (zs "UnsupportedCodecError" 368),ze P "__firstlineno__" 371 (zj 8 370),ze P "__static_attributes__" 372 (zr 70)]::z1::z0::zc "UnsupportedCodecError" "UnsupportedCodecError" 362 8 0 0 0 0 66 false 325 67 zN zN zN zN 365::zl 68 3 65 yg 0::z1::zd 3 [ze P "__module__" 367 yg,ze P "__firstlineno__" 371 (zj 8 370),ze P "__static_attributes__" 372 (zr 70),ze P "__weakref__" 374 (zr 73),ze P "__doc__" 375 zN]::zk (zt "type") "UnsupportedCodecError" [zt "Exception"] [zr 72,zt "Exception",zt "BaseException",zt "object"] 71 true [] [] false #[(some (zr 63)),none,(some (zs "UnsupportedCodecError" 360)),(some (zs "UnsupportedCodecError" 368)),(some (zu "Exception.__new__")),(some zT)]::zf "getset_descriptor" [zs "__weakref__" 373,zr 72,zu "ExceptionGroup.__weakref__",zN]::zf "super" [zr 72,zr 72,zr 72]::zf "builtin_function_or_method" [zu "object.__init_subclass__",zr 72]::z1::z0::z1::z1::zm (bu 5) "has_gzip" "has_gzip" 380 10 0 0 0 3 76 true 325 77 0 78 79 80 383 0 81 yg (z1::z0::zw 391 ["it"]::z1::zm (bu 7) "_pull" "_pull" 388 13 1 0 0 3 83 true 325 84 0 85 86 87 392 0 88 yd (z1::z0::zw 398 ["a","b"]::z1::zm (bu 8) "_same" "_same" 395 18 2 0 0 3 90 true 325 91 0 92 93 94 400 0 95 yd (z1::zf "builtin_function_or_method" [zu "type.__prepare__",zt "type"]::zd 9 [ze P "__module__" 410 yd,ze P "__qualname__" 412 (zs "groupby" 411),ze P "__firstlineno__" 414 (zj 24 413),ze P "__slots__" 425 (zr 104),ze P "__init__" 434 (zr 112),ze P "__iter__" 441 (zr 119),ze P "_step" 451 (zr 126),ze P "__next__" 459 (zr 133),ze P "__static_attributes__" 470 (zr 134)]::z1::zx [27,4,111,39,4,118,42,4,125,55,4,132]::zc "groupby" "groupby" 405 24 0 0 0 0 100 false 325 101 zN zN zN zN 408::zl 102 3 99 yd 0::zw 415 ["_keyfunc","_it","_has_tgtkey","_tgtkey","_has_currkey","_currkey","_has_currvalue","_currvalue","_currgrouper","_serial"]::zq [zN]::z1::z0::zw 429 ["self","iterable","key"]::z1::zm (ak 9 1) "groupby.__init__" "__init__" 426 27 3 0 0 3 106 true 325 107 0 108 109 110 432 105 111 yd (z1::z0::zw 438 ["self"]::z1::zm (ak 9 2) "groupby.__iter__" "__iter__" 435 39 1 0 0 3 113 true 325 114 0 115 116 117 439 0 118 yd ([])))))
noncomputable def hf2 (P:Params):List Obj:=z1::z0::zw 445 ["self","more","newvalue","newkey"]::z1::zm (ak 9 3) "groupby._step" "_step" 442 42 1 0 0 3 120 true 325 121 0 122 123 124 449 0 125 yd (z1::z0::zw 455 ["self","grouper"]::z1::zm (ak 9 4) "groupby.__next__" "__next__" 452 55 1 0 0 3 127 true 325 128 0 129 130 131 457 0 132 yd (zw 460 ["_currgrouper","_currkey","_currvalue","_has_currkey","_has_currvalue","_has_tgtkey","_it","_keyfunc","_serial","_tgtkey"]::⟨(zt "list"),none,(.seq #[zs "_keyfunc" 415,zs "_it" 416,zs "_has_tgtkey" 417,zs "_tgtkey" 418,zs "_has_currkey" 419,zs "_currkey" 420,zs "_has_currvalue" 421,zs "_currvalue" 422,zs "_currgrouper" 423,zs "_serial" 424] 1),#[]⟩::zd 12 [ze P "__module__" 410 yd,ze P "__firstlineno__" 414 (zj 24 413),ze P "__slots__" 425 (zr 104),ze P "__init__" 434 (zr 112),ze P "__iter__" 441 (zr 119),ze P "_step" 451 (zr 126),ze P "__next__" 459 (zr 133),ze P "__static_attributes__" 470 (zr 134),ze P "_currgrouper" 472 (zr 138),ze P "_currkey" 474 (zr 139),ze P "_currvalue" 476 (zr 140),ze P "_has_currkey" 478 (zr 141),ze P "_has_currvalue" 480 (zr 142),ze P "_has_tgtkey" 482 (zr 143),ze P "_it" 484 (zr 144),ze P "_keyfunc" 486 (zr 145),ze P "_serial" 488 (zr 146),ze P "_tgtkey" 490 (zr 147),ze P "__doc__" 491 zN]::zk (zt "type") "groupby" [zt "object"] [zr 137,zt "object"] 136 false [(S "_currgrouper"),(S "_currkey"),(S "_currvalue"),(S "_has_currkey"),(S "_has_currvalue"),(S "_has_tgtkey"),(S "_it"),(S "_keyfunc"),(S "_serial"),(S "_tgtkey")] [] false #[none,none,(some (zs "groupby" 403)),(some (zs "groupby" 411)),(some (zu "object.__new__")),(some zF)]::zf "member_descriptor" [zs "_currgrouper" 471,zr 137,zu "proto.slot",zu "proto.slot#set",zi 9]::zf "member_descriptor" [zs "_currkey" 473,zr 137,zu "proto.slot",zu "proto.slot#set",zi 8]::zf "member_descriptor" [zs "_currvalue" 475,zr 137,zu "proto.slot",zu "proto.slot#set",zi 7]::zf "member_descriptor" [zs "_has_currkey" 477,zr 137,zu "proto.slot",zu "proto.slot#set",zi 6]::zf "member_descriptor" [zs "_has_currvalue" 479,zr 137,zu "proto.slot",zu "proto.slot#set",zi 5]::zf "member_descriptor" [zs "_has_tgtkey" 481,zr 137,zu "proto.slot",zu "proto.slot#set",zi 4]::zf "member_descriptor" [zs "_it" 483,zr 137,zu "proto.slot",zu "proto.slot#set",zi 3]::zf "member_descriptor" [zs "_keyfunc" 485,zr 137,zu "proto.slot",zu "proto.slot#set",zi 2]::zf "member_descriptor" [zs "_serial" 487,zr 137,zu "proto.slot",zu "proto.slot#set",zi 1]::zf "member_descriptor" [zs "_tgtkey" 489,zr 137,zu "proto.slot",zu "proto.slot#set",zi 0]::zf "super" [zr 137,zr 137,zr 137]::zf "builtin_function_or_method" [zu "object.__init_subclass__",zr 137]::z1::zf "builtin_function_or_method" [zu "type.__prepare__",zt "type"]::zd 8 [ze P "__module__" 501 yd,ze P "__qualname__" 503 (zs "_grouper" 502),ze P "__firstlineno__" 505 (zj 68 504),ze P "__slots__" 509 (zr 157),ze P "__init__" 518 (zr 164),ze P "__iter__" 525 (zr 171),ze P "__next__" 534 (zr 178),ze P "__static_attributes__" 538 (zr 179)]::z1::zx [71,4,163,80,4,170,83,4,177]::zc "_grouper" "_grouper" 496 68 0 0 0 0 153 false 325 154 zN zN zN zN 499::zl 155 3 152 yd 0::zw 506 ["_parent","_tgtkey","_number"]::z1::z0::zw 513 ["self","parent","tgtkey"]::z1::zm (ak 10 1) "_grouper.__init__" "__init__" 510 71 3 3 0 3 158 true 325 159 0 160 161 162 516 0 163 yd (z1::z0::zw 522 ["self"]::z1::zm (ak 10 2) "_grouper.__iter__" "__iter__" 519 80 1 0 0 3 165 true 325 166 0 167 168 169 523 0 170 yd (z1::z0::zw 529 ["self","gbo","r"]::z1::zm (ak 10 3) "_grouper.__next__" "__next__" 526 83 1 0 0 3 172 true 325 173 0 174 175 176 532 0 177 yd (zw 535 ["_number","_parent","_tgtkey"]::[])))))
noncomputable def hf3 (P:Params):List Obj:=⟨(zt "list"),none,(.seq #[zs "_parent" 506,zs "_tgtkey" 507,zs "_number" 508] 1),#[]⟩::zd 5 [ze P "__module__" 501 yd,ze P "__firstlineno__" 505 (zj 68 504),ze P "__slots__" 509 (zr 157),ze P "__init__" 518 (zr 164),ze P "__iter__" 525 (zr 171),ze P "__next__" 534 (zr 178),ze P "__static_attributes__" 538 (zr 179),ze P "_number" 540 (zr 183),ze P "_parent" 542 (zr 184),ze P "_tgtkey" 544 (zr 185),ze P "__doc__" 545 zN]::zk (zt "type") "_grouper" [zt "object"] [zr 182,zt "object"] 181 false [(S "_number"),(S "_parent"),(S "_tgtkey")] [] false #[none,none,(some (zs "_grouper" 494)),(some (zs "_grouper" 502)),(some (zu "object.__new__")),(some zF)]::zf "member_descriptor" [zs "_number" 539,zr 182,zu "proto.slot",zu "proto.slot#set",zi 2]::zf "member_descriptor" [zs "_parent" 541,zr 182,zu "proto.slot",zu "proto.slot#set",zi 1]::zf "member_descriptor" [zs "_tgtkey" 543,zr 182,zu "proto.slot",zu "proto.slot#set",zi 0]::zf "super" [zr 182,zr 182,zr 182]::zf "builtin_function_or_method" [zu "object.__init_subclass__",zr 182]::z1::z0::zm (bu 12) "gzip_encode" "gzip_encode" 550 98 1 0 0 3 188 true 325 189 0 0 0 190 553 0 191 (zs "kafka.outside" 548) (z1::z0::zm (bu 13) "gzip_decode" "gzip_decode" 556 100 1 0 0 3 193 true 325 194 0 0 0 195 559 0 196 (zs "kafka.outside" 548) (zq [zt "type"]::zf "builtin_function_or_method" [zu "type.__prepare__",zt "type"]::zd 5 [ze P "__module__" 571 yh,ze P "__qualname__" 573 (zs "ABCMeta" 572),ze P "__firstlineno__" 575 (zj 103 574),ze P "register" 583 (zr 211),ze P "__static_attributes__" 584 (zr 212)]::z1::zx [105,4,210]::zc "ABCMeta" "ABCMeta" 566 103 0 0 0 0 201 false 325 202 zN zN zN zN 569::zl 203 3 200 yh 0::z1::z0::zw 579 ["cls","subclass"]::z1::zm (ak 15 0) "ABCMeta.register" "register" 576 105 2 0 0 3 205 true 325 206 0 207 208 209 581 0 210 yh (z1::zd 2 [ze P "__module__" 571 yh,ze P "__firstlineno__" 575 (zj 103 574),ze P "register" 583 (zr 211),ze P "__static_attributes__" 584 (zr 212),ze P "__doc__" 585 zN]::zk (zt "type") "ABCMeta" [zt "type"] [zr 214,zt "type",zt "object"] 213 true [] [] false #[(some (zr 198)),none,(some (zs "ABCMeta" 564)),(some (zs "ABCMeta" 572)),(some (zu "type.__new__")),(some zT)]::zf "super" [zr 214,zr 214,zr 214]::zf "builtin_function_or_method" [zu "object.__init_subclass__",zr 214]::z1::zf "builtin_function_or_method" [zu "type.__prepare__",zr 214]::zd 5 [ze P "__module__" 595 yh,ze P "__qualname__" 597 (zs "ABC" 596),ze P "__firstlineno__" 599 (zj 107 598),ze P "__slots__" 600 (zr 224),ze P "__static_attributes__" 601 (zr 225)]::z1::z0::zc "ABC" "ABC" 590 107 0 0 0 0 220 false 325 221 zN zN zN zN 593::zl 222 3 219 yh 0::z1::z1::⟨(zt "list"),none,(.seq #[] 0),#[]⟩::zd 2 [ze P "__module__" 595 yh,ze P "__firstlineno__" 599 (zj 107 598),ze P "__slots__" 600 (zr 224),ze P "__static_attributes__" 601 (zr 225),ze P "__doc__" 602 zN]::zk (zr 214) "ABC" [zt "object"] [zr 228,zt "object"] 227 false [] [zr 247,zr 284,zr 306,zr 349] false #[none,none,(some (zs "ABC" 588)),(some (zs "ABC" 596)),(some (zu "object.__new__")),(some zF)]::zf "super" [zr 228,zr 228,zr 228]::zf "builtin_function_or_method" [zu "object.__init_subclass__",zr 228]::zq [zr 228]::zf "builtin_function_or_method" [zu "type.__prepare__",zr 214]::zd 5 [ze P "__module__" 614 yc,ze P "__qualname__" 616 (zs "ABCRecord" 615),ze P "__firstlineno__" 618 (zj 110 617),ze P "validate_crc" 625 (zr 244),ze P "__static_attributes__" 626 (zr 245)]::z1::zx [112,4,243]::zc "ABCRecord" "ABCRecord" 609 110 0 0 0 0 234 false 325 235 zN zN zN zN 612::zl 236 3 233 yc 0::z1::z0::[])))
noncomputable def hf4 (P:Params):List Obj:=zw 622 ["self"]::z1::zm (ak 18 0) "ABCRecord.validate_crc" "validate_crc" 619 112 1 0 0 3 238 true 325 239 0 240 241 242 623 0 243 yc (z1::zd 5 [ze P "__module__" 614 yc,ze P "__firstlineno__" 618 (zj 110 617),ze P "validate_crc" 625 (zr 244),ze P "__static_attributes__" 626 (zr 245),ze P "__dict__" 628 (zr 248),ze P "__weakref__" 630 (zr 249),ze P "__doc__" 631 zN,ze P "__abstractmethods__" 638 (zr 252)]::zk (zr 214) "ABCRecord" [zr 228] [zr 247,zr 228,zt "object"] 246 true [] [zr 649,zr 1166] true #[(some (zr 231)),none,(some (zs "ABCRecord" 607)),(some (zs "ABCRecord" 615)),(some (zu "object.__new__")),(some zT)]::zf "getset_descriptor" [zs "__dict__" 627,zr 247,zu "function.__dict__",zu "function.__dict__#set"]::zf "getset_descriptor" [zs "__weakref__" 629,zr 247,zu "ExceptionGroup.__weakref__",zN]::zf "super" [zr 247,zr 247,zr 247]::zf "builtin_function_or_method" [zu "object.__init_subclass__",zr 247]::zw 634 ["validate_crc"]::zq [zr 228]::zf "builtin_function_or_method" [zu "type.__prepare__",zr 214]::zd 7 [ze P "__module__" 646 yc,ze P "__qualname__" 648 (zs "ABCRecordBatchBuilder" 647),ze P "__firstlineno__" 650 (zj 115 649),ze P "append" 662 (zr 267),ze P "size_in_bytes" 674 (zr 274),ze P "build" 681 (zr 281),ze P "__static_attributes__" 682 (zr 282)]::z1::zx [117,4,266,120,4,273,123,4,280]::zc "ABCRecordBatchBuilder" "ABCRecordBatchBuilder" 641 115 0 0 0 0 256 false 325 257 zN zN zN zN 644::zl 258 3 255 yc 0::zq [zN]::z1::z0::zw 654 ["self","offset","timestamp","key","value","headers"]::z1::zm (ak 20 0) "ABCRecordBatchBuilder.append" "append" 651 117 6 0 0 3 261 true 325 262 0 263 264 265 660 260 266 yc (z1::z0::zw 666 ["self","offset","timestamp","key","value","headers"]::z1::zm (ak 20 1) "ABCRecordBatchBuilder.size_in_bytes" "size_in_bytes" 663 120 6 0 0 3 268 true 325 269 0 270 271 272 672 0 273 yc (z1::z0::zw 678 ["self"]::z1::zm (ak 20 2) "ABCRecordBatchBuilder.build" "build" 675 123 1 0 0 3 275 true 325 276 0 277 278 279 679 0 280 yc (z1::zd 5 [ze P "__module__" 646 yc,ze P "__firstlineno__" 650 (zj 115 649),ze P "append" 662 (zr 267),ze P "size_in_bytes" 674 (zr 274),ze P "build" 681 (zr 281),ze P "__static_attributes__" 682 (zr 282),ze P "__dict__" 684 (zr 285),ze P "__weakref__" 686 (zr 286),ze P "__doc__" 687 zN,ze P "__abstractmethods__" 696 (zr 289)]::zk (zr 214) "ABCRecordBatchBuilder" [zr 228] [zr 284,zr 228,zt "object"] 283 true [] [zr 743] true #[(some (zr 253)),none,(some (zs "ABCRecordBatchBuilder" 639)),(some (zs "ABCRecordBatchBuilder" 647)),(some (zu "object.__new__")),(some zT)]::zf "getset_descriptor" [zs "__dict__" 683,zr 284,zu "function.__dict__",zu "function.__dict__#set"]::zf "getset_descriptor" [zs "__weakref__" 685,zr 284,zu "ExceptionGroup.__weakref__",zN]::zf "super" [zr 284,zr 284,zr 284]::zf "builtin_function_or_method" [zu "object.__init_subclass__",zr 284]::zw 690 ["append","build","size_in_bytes"]::zq [zr 228]::zf "builtin_function_or_method" [zu "type.__prepare__",zr 214]::zd 5 [ze P "__module__" 704 yc,ze P "__qualname__" 706 (zs "ABCRecordBatch" 705),ze P "__firstlineno__" 708 (zj 126 707),ze P "__iter__" 715 (zr 303),ze P "__static_attributes__" 716 (zr 304)]::z1::zx [128,4,302]::zc "ABCRecordBatch" "ABCRecordBatch" 699 126 0 0 0 0 293 false 325 294 zN zN zN zN 702::zl 295 3 292 yc 0::z1::z0::zw 712 ["self"]::[]))))
noncomputable def hf5 (P:Params):List Obj:=z1::zm (ak 22 0) "ABCRecordBatch.__iter__" "__iter__" 709 128 1 0 0 3 297 true 325 298 0 299 300 301 713 0 302 yc (z1::zd 5 [ze P "__module__" 704 yc,ze P "__firstlineno__" 708 (zj 126 707),ze P "__iter__" 715 (zr 303),ze P "__static_attributes__" 716 (zr 304),ze P "__dict__" 718 (zr 307),ze P "__weakref__" 720 (zr 308),ze P "__doc__" 721 zN,ze P "__abstractmethods__" 728 (zr 311)]::zk (zr 214) "ABCRecordBatch" [zr 228] [zr 306,zr 228,zt "object"] 305 true [] [zr 544,zr 1069] true #[(some (zr 290)),none,(some (zs "ABCRecordBatch" 697)),(some (zs "ABCRecordBatch" 705)),(some (zu "object.__new__")),(some zT)]::zf "getset_descriptor" [zs "__dict__" 717,zr 306,zu "function.__dict__",zu "function.__dict__#set"]::zf "getset_descriptor" [zs "__weakref__" 719,zr 306,zu "ExceptionGroup.__weakref__",zN]::zf "super" [zr 306,zr 306,zr 306]::zf "builtin_function_or_method" [zu "object.__init_subclass__",zr 306]::zw 724 ["__iter__"]::zq [zr 228]::zf "builtin_function_or_method" [zu "type.__prepare__",zr 214]::zd 8 [ze P "__module__" 736 yc,ze P "__qualname__" 738 (zs "ABCRecords" 737),ze P "__firstlineno__" 740 (zj 131 739),ze P "__init__" 748 (zr 325),ze P "size_in_bytes" 755 (zr 332),ze P "next_batch" 762 (zr 339),ze P "has_next" 769 (zr 346),ze P "__static_attributes__" 770 (zr 347)]::z1::zx [133,4,324,136,4,331,139,4,338,142,4,345]::zc "ABCRecords" "ABCRecords" 731 131 0 0 0 0 315 false 325 316 zN zN zN zN 734::zl 317 3 314 yc 0::z1::z0::zw 744 ["self","buffer"]::z1::zm (ak 24 0) "ABCRecords.__init__" "__init__" 741 133 2 0 0 3 319 true 325 320 0 321 322 323 746 0 324 yc (z1::z0::zw 752 ["self"]::z1::zm (ak 24 1) "ABCRecords.size_in_bytes" "size_in_bytes" 749 136 1 0 0 3 326 true 325 327 0 328 329 330 753 0 331 yc (z1::z0::zw 759 ["self"]::z1::zm (ak 24 2) "ABCRecords.next_batch" "next_batch" 756 139 1 0 0 3 333 true 325 334 0 335 336 337 760 0 338 yc (z1::z0::zw 766 ["self"]::z1::zm (ak 24 3) "ABCRecords.has_next" "has_next" 763 142 1 0 0 3 340 true 325 341 0 342 343 344 767 0 345 yc (z1::zd 5 [ze P "__module__" 736 yc,ze P "__firstlineno__" 740 (zj 131 739),ze P "__init__" 748 (zr 325),ze P "size_in_bytes" 755 (zr 332),ze P "next_batch" 762 (zr 339),ze P "has_next" 769 (zr 346),ze P "__static_attributes__" 770 (zr 347),ze P "__dict__" 772 (zr 350),ze P "__weakref__" 774 (zr 351),ze P "__doc__" 775 zN,ze P "__abstractmethods__" 785 (zr 354)]::zk (zr 214) "ABCRecords" [zr 228] [zr 349,zr 228,zt "object"] 348 true [] [zr 1297] true #[(some (zr 312)),none,(some (zs "ABCRecords" 729)),(some (zs "ABCRecords" 737)),(some (zu "object.__new__")),(some zT)]::zf "getset_descriptor" [zs "__dict__" 771,zr 349,zu "function.__dict__",zu "function.__dict__#set"]::zf "getset_descriptor" [zs "__weakref__" 773,zr 349,zu "ExceptionGroup.__weakref__",zN]::zf "super" [zr 349,zr 349,zr 349]::zf "builtin_function_or_method" [zu "object.__init_subclass__",zr 349]::zw 778 ["__init__","has_next","next_batch","size_in_bytes"]::zq [zj 0 788,zj 4067132163 789,zj 3778769143 790,zj 324072436 791,zj 3348797215 792,zj 904991772 793,zj 648144872 794,zj 3570033899 795,zj 2329499855 796,zj 2024987596 797,zj 1809983544 798,zj 2575936315 799,zj 1296289744 800,zj 3207089363 801,zj 2893594407 802,zj 1578318884 803,zj 274646895 804,zj 3795141740 805,zj 4049975192 806,zj 51262619 807,zj 3619967088 808,zj 632279923 809,zj 922689671 810,zj 3298075524 811,zj 2592579488 812,zj 1760304291 813,zj 2075979607 814,zj 2312596564 815,zj 1562183871 816,zj 2943781820 817,zj 3156637768 818,zj 1313733451 819,zj 549293790 820,zj 3537243613 821,zj 3246849577 822,zj 871202090 823,zj 3878099393 824,zj 357341890 825,zj 102525238 826,zj 4101499445 827,zj 2858735121 828,zj 1477399826 829,zj 1264559846 830,zj 3107202533 831,zj 1845379342 832,zj 2677391885 833,zj 2361733625 834,zj 2125378298 835,zj 820201905 836,zj 3263744690 837,zj 3520608582 838,zj 598981189 839,zj 4151959214 840,zj 85089709 841,zj 373468761 842,zj 3827903834 843,zj 3124367742 844,zj 1213305469 845,zj 1526817161 846,zj 2842354314 847,zj 2107672161 848,zj 2412447074 849,zj 2627466902 850,zj 1861252501 851,zj 1098587580 852,zj 3004210879 853,zj 2688576843 854,zj 1378610760 855,zj 2262928035 856,zj 1955203488 857,zj 1742404180 858,zj 2511436119 859,zj 3416409459 860,zj 969524848 861,zj 714683780 862,zj 3639785095 863,zj 205050476 864,zj 4266873199 865,zj 3976438427 866,zj 526918040 867,zj 1361435347 868,zj 2739821008 869,zj 2954799652 870,zj 1114974503 871,zj 2529119692 872,zj 1691668175 873,zj 2005155131 874,zj 2247081528 875,zj 3690758684 876,zj 697762079 877,zj 986182379 878,zj 3366744552 879,zj 476452099 880,zj 3993867776 881,zj 4250756596 882,zj 255256311 883,zj 1640403810 884,zj 2477592673 885,zj 2164122517 886,zj 1922457750 887,zj 2791048317 888,zj 1412925310 889,zj 1197962378 890,zj 3037525897 891,zj 3944729517 892,zj 427051182 893,zj 170179418 894,zj 4165941337 895,zj 746937522 896,zj 3740196785 897,zj 3451792453 898,zj 1070968646 899,zj 1905808397 900,zj 2213795598 901,zj 2426610938 902,zj 1657317369 903,zj 3053634322 904,zj 1147748369 905,zj 1463399397 906,zj 2773627110 907,zj 4215344322 908,zj 153784257 909,zj 444234805 910,zj 3893493558 911,zj 1021025245 912,zj 3467647198 913,zj 3722505002 914,zj 797665321 915,zj 2197175160 916,zj 1889384571 917,zj 1674398607 918,zj 2443626636 919,zj 1164749927 920,zj 3070701412 921,zj 2757221520 922,zj 1446797203 923,zj 137323447 924,zj 4198817972 925,zj 3910406976 926,zj 461344835 927,zj 3484808360 928,zj 1037989803 929,zj 781091935 930,zj 3705997148 931,zj 2460548119 932,zj 1623424788 933,zj 1939049696 934,zj 2180517859 935,zj 1429367560 936,zj 2807687179 937,zj 3020495871 938,zj 1180866812 939,zj 410100952 940,zj 3927582683 941,zj 4182430767 942,zj 186734380 943,zj 3756733383 944,zj 763408580 945,zj 1053836080 946,zj 3434856499 947,zj 2722870694 948,zj 1344288421 949,zj 1131464017 950,zj 2971354706 951,zj 1708204729 952,zj 2545590714 953,zj 2229949006 954,zj 1988219213 955,zj 680717673 956,zj 3673779818 957,zj 3383336350 958,zj 1002577565 959,zj 4010310262 960,zj 493091189 961,zj 238226049 962,zj 4233660802 963,zj 2987750089 964,zj 1082061258 965,zj 1395524158 966,zj 2705686845 967,zj 1972364758 968,zj 2279892693 969,zj 2494862625 970,zj 1725896226 971,zj 952904198 972,zj 3399985413 973,zj 3656866545 974,zj 731699698 975,zj 4283874585 976,zj 222117402 977,zj 510512622 978,zj 3959836397 979,zj 3280807620 980,zj 837199303 981,zj 582374963 982,zj 3504198960 983,zj 68661723 984,zj 4135334616 985,zj 3844915500 986,zj 390545967 987,zj 1230274059 988,zj 3141532936 989,zj 2825850620 990,zj 1510247935 991,zj 2395924756 992,zj 2091215383 993,zj 1878366691 994,zj 2644384480 995,zj 3553878443 996,zj 565732008 997,zj 854102364 998,zj 3229815391 999,zj 340358836 1000,zj 3861050807 1001,zj 4117890627 1002,zj 119113024 1003,zj 1493875044 1004,zj 2875275879 1005,zj 3090270611 1006,zj 1247431312 1007,zj 2660249211 1008,zj 1828433272 1009,zj 2141937292 1010,zj 2378227087 1011,zj 3811616794 1012,zj 291187481 1013,zj 34330861 1014,zj 4032846830 1015,zj 615137029 1016,zj 3603020806 1017,zj 3314634738 1018,zj 939183345 1019,zj 1776939221 1020,zj 2609017814 1021,zj 2295496738 1022,zj 2058945313 1023,zj 2926798794 1024,zj 1545135305 1025,zj 1330124605 1026,zj 3173225534 1027,zj 4084100981 1028,zj 17165430 1029,zj 307568514 1030,zj 3762199681 1031,zj 888469610 1032,zj 3332340585 1033,zj 3587147933 1034,zj 665062302 1035,zj 2042050490 1036,zj 2346497209 1037,zj 2559330125 1038,zj 1793573966 1039,zj 3190661285 1040,zj 1279665062 1041,zj 1595330642 1042,zj 2910671697 1043]::zq [zr 355,zj 4294967295 1047]::z1::z0::zw 1052 ["crc","data","_TABLE","_M","buf","b"]::[])))))
noncomputable def hf6 (P:Params):List Obj:=z1::zm (bu 30) "crc_update" "crc_update" 1049 149 4 0 0 3 357 true 325 358 0 359 360 361 1058 356 362 yi (z1::z0::zw 1064 ["crc"]::z1::zm (bu 31) "crc_finalize" "crc_finalize" 1061 158 1 0 0 3 364 true 325 365 0 366 367 368 1065 0 369 yi (z1::z0::zw 1071 ["data"]::z1::zm (bu 32) "crc" "crc" 1068 160 1 0 0 3 371 true 325 372 0 373 374 375 1072 0 376 yi (zq [zj 0 1077]::z1::z0::zw 1081 ["buffer","pos","result","shift","b"]::z1::zm (bu 34) "decode_varint" "decode_varint" 1078 163 2 0 0 3 379 true 325 380 0 381 382 383 1086 378 384 (zs "kafka.record.util" 1075) (zq [zr 377]::z1::z0::zw 1093 ["memview","_crc32c"]::z1::zm (bu 36) "calc_crc32c" "calc_crc32c" 1090 182 2 0 0 3 387 true 325 388 0 389 390 391 1095 386 392 (zs "kafka.record.util" 1075) (z1::z0::zw 1103 ["data","t"]::z1::zm (bu 38) "_buffer" "_buffer" 1100 185 1 0 0 3 394 true 325 395 0 396 397 398 1105 0 399 (zs "binascii" 1098) (zq [zj 0 1108]::z1::z0::zw 1112 ["data","crc","bin_data","b","_"]::z1::zm (bu 39) "crc32" "crc32" 1109 192 2 2 0 3 402 true 325 403 0 404 405 406 1117 401 407 (zs "binascii" 1098) (z1::z0::zw 1125 ["memview","crc"]::z1::zm (bu 41) "calc_crc32" "calc_crc32" 1122 206 1 0 0 3 409 true 325 410 0 411 412 413 1127 0 414 (zs "kafka.record.util" 1120) (z1::zf "builtin_function_or_method" [zu "type.__prepare__",zt "type"]::zd 25 [ze P "__module__" 1139 ya,ze P "__qualname__" 1141 (zs "LegacyRecordBase" 1140),ze P "__firstlineno__" 1143 (zj 210 1142),ze P "HEADER_STRUCT_V0" 1146 (zr 423),ze P "HEADER_STRUCT_V1" 1149 (zr 424),ze P "LOG_OVERHEAD" 1152 (zj 12 1151),ze P "CRC_OFFSET" 1153 (zj 12 1151),ze P "MAGIC_OFFSET" 1157 (zj 16 1156),ze P "RECORD_OVERHEAD_V0" 1160 (zj 14 1159),ze P "RECORD_OVERHEAD_V1" 1163 (zj 22 1162),ze P "KEY_OFFSET_V0" 1166 (zj 18 1165),ze P "KEY_OFFSET_V1" 1169 (zj 26 1168),ze P "KEY_LENGTH" 1172 (zj 4 1171),ze P "VALUE_LENGTH" 1173 (zj 4 1171),ze P "CODEC_MASK" 1175 (zj 7 1174),ze P "CODEC_NONE" 1177 (zj 0 1176),ze P "CODEC_GZIP" 1179 (zj 1 1178),ze P "CODEC_SNAPPY" 1181 (zj 2 1180),ze P "CODEC_LZ4" 1183 (zj 3 1182),ze P "TIMESTAMP_TYPE_MASK" 1185 (zj 8 1184),ze P "LOG_APPEND_TIME" 1187 (zj 1 1186),ze P "CREATE_TIME" 1189 (zj 0 1188),ze P "NO_TIMESTAMP" 1192 (.int (-1) 1191),ze P "_assert_has_codec" 1202 (zr 431),ze P "__static_attributes__" 1203 (zr 432)]::z1::[]))))))))
noncomputable def hf7 (P:Params):List Obj:=zx [230,4,430]::zc "LegacyRecordBase" "LegacyRecordBase" 1134 210 0 0 0 0 419 false 325 420 zN zN zN zN 1137::zl 421 3 418 ya 0::zf "_struct.Struct" [(.bytes #[62,113,105,73,98,98] 1145)]::zf "_struct.Struct" [(.bytes #[62,113,105,73,98,98,113] 1148)]::z1::z0::zw 1196 ["self","compression_type","checker","name"]::z1::zm (ak 43 18) "LegacyRecordBase._assert_has_codec" "_assert_has_codec" 1193 230 2 0 0 3 425 true 325 426 0 427 428 429 1200 0 430 ya (z1::zd 4 [ze P "__module__" 1139 ya,ze P "__firstlineno__" 1143 (zj 210 1142),ze P "HEADER_STRUCT_V0" 1146 (zr 423),ze P "HEADER_STRUCT_V1" 1149 (zr 424),ze P "LOG_OVERHEAD" 1152 (zj 12 1151),ze P "CRC_OFFSET" 1153 (zj 12 1151),ze P "MAGIC_OFFSET" 1157 (zj 16 1156),ze P "RECORD_OVERHEAD_V0" 1160 (zj 14 1159),ze P "RECORD_OVERHEAD_V1" 1163 (zj 22 1162),ze P "KEY_OFFSET_V0" 1166 (zj 18 1165),ze P "KEY_OFFSET_V1" 1169 (zj 26 1168),ze P "KEY_LENGTH" 1172 (zj 4 1171),ze P "VALUE_LENGTH" 1173 (zj 4 1171),ze P "CODEC_MASK" 1175 (zj 7 1174),ze P "CODEC_NONE" 1177 (zj 0 1176),ze P "CODEC_GZIP" 1179 (zj 1 1178),ze P "CODEC_SNAPPY" 1181 (zj 2 1180),ze P "CODEC_LZ4" 1183 (zj 3 1182),ze P "TIMESTAMP_TYPE_MASK" 1185 (zj 8 1184),ze P "LOG_APPEND_TIME" 1187 (zj 1 1186),ze P "CREATE_TIME" 1189 (zj 0 1188),ze P "NO_TIMESTAMP" 1192 (.int (-1) 1191),ze P "_assert_has_codec" 1202 (zr 431),ze P "__static_attributes__" 1203 (zr 432),ze P "__dict__" 1205 (zr 435),ze P "__weakref__" 1207 (zr 436),ze P "__doc__" 1208 zN]::zk (zt "type") "LegacyRecordBase" [zt "object"] [zr 434,zt "object"] 433 true [] [zr 544,zr 743] false #[none,none,(some (zs "LegacyRecordBase" 1132)),(some (zs "LegacyRecordBase" 1140)),(some (zu "object.__new__")),(some zT)]::zf "getset_descriptor" [zs "__dict__" 1204,zr 434,zu "function.__dict__",zu "function.__dict__#set"]::zf "getset_descriptor" [zs "__weakref__" 1206,zr 434,zu "ExceptionGroup.__weakref__",zN]::zf "super" [zr 434,zr 434,zr 434]::zf "builtin_function_or_method" [zu "object.__init_subclass__",zr 434]::zq [zr 306,zr 434]::zf "builtin_function_or_method" [zu "type.__prepare__",zr 214]::zd 17 [ze P "__module__" 1218 ya,ze P "__qualname__" 1220 (zs "LegacyRecordBatch" 1219),ze P "__firstlineno__" 1222 (zj 237 1221),ze P "__init__" 1237 (zr 452),ze P "base_offset" 1245 (zr 460),ze P "size_in_bytes" 1253 (zr 468),ze P "timestamp_type" 1261 (zr 476),ze P "compression_type" 1269 (zr 484),ze P "magic" 1277 (zr 492),ze P "validate_crc" 1285 (zr 499),ze P "_decompress" 1299 (zr 506),ze P "_read_header" 1313 (zr 513),ze P "_read_all_headers" 1324 (zr 520),ze P "_read_key_value" 1336 (zr 527),ze P "_crc_bytes" 1345 (zr 534),ze P "__iter__" 1368 (zr 541),ze P "__static_attributes__" 1377 (zr 542)]::z1::zx [239,4,451,253,4,458,257,4,466,261,4,474,270,4,482,274,4,490,277,4,498,281,4,505,299,4,512,307,4,519,317,4,526,333,4,533,336,4,540]::zc "LegacyRecordBatch" "LegacyRecordBatch" 1213 237 0 0 0 0 442 false 325 443 zN zN zN zN 1216::zl 444 3 441 ya 0::z1::z0::zw 1226 ["self","buffer","magic","offset","length","crc","magic_","attrs","timestamp"]::z1::zm (ak 44 0) "LegacyRecordBatch.__init__" "__init__" 1223 239 3 0 0 3 446 true 325 447 0 448 449 450 1235 0 451 ya (z1::z0::zw 1241 ["self"]::z1::zm (ak 44 1) "LegacyRecordBatch.base_offset" "base_offset" 1238 252 1 0 0 3 453 true 325 454 0 455 456 457 1242 0 458 ya (zf "property" [zr 459,zN,zN,zN,zs "base_offset" 1245,zF]::z1::z0::zw 1249 ["self"]::z1::zm (ak 44 2) "LegacyRecordBatch.size_in_bytes" "size_in_bytes" 1246 256 1 0 0 3 461 true 325 462 0 463 464 465 1250 0 466 ya (zf "property" [zr 467,zN,zN,zN,zs "size_in_bytes" 1253,zF]::z1::z0::zw 1257 ["self"]::z1::zm (ak 44 3) "LegacyRecordBatch.timestamp_type" "timestamp_type" 1254 260 1 0 0 3 469 true 325 470 0 471 472 473 1258 0 474 ya (zf "property" [zr 475,zN,zN,zN,zs "timestamp_type" 1261,zF]::z1::z0::zw 1265 ["self"]::[])))))
noncomputable def hf8 (P:Params):List Obj:=z1::zm (ak 44 4) "LegacyRecordBatch.compression_type" "compression_type" 1262 269 1 0 0 3 477 true 325 478 0 479 480 481 1266 0 482 ya (zf "property" [zr 483,zN,zN,zN,zs "compression_type" 1269,zF]::z1::z0::zw 1273 ["self"]::z1::zm (ak 44 5) "LegacyRecordBatch.magic" "magic" 1270 273 1 0 0 3 485 true 325 486 0 487 488 489 1274 0 490 ya (zf "property" [zr 491,zN,zN,zN,zs "magic" 1277,zF]::z1::z0::zw 1281 ["self","crc"]::z1::zm (ak 44 6) "LegacyRecordBatch.validate_crc" "validate_crc" 1278 277 1 0 0 3 493 true 325 494 0 495 496 497 1283 0 498 ya (z1::z0::zw 1289 ["self","key_offset","pos","key_size","value_size","data","compression_type","uncompressed"]::z1::zm (ak 44 7) "LegacyRecordBatch._decompress" "_decompress" 1286 281 2 0 0 3 500 true 325 501 0 502 503 504 1297 0 505 ya (z1::z0::zw 1303 ["self","pos","offset","length","crc","magic_read","attrs","timestamp"]::z1::zm (ak 44 8) "LegacyRecordBatch._read_header" "_read_header" 1300 299 2 0 0 3 507 true 325 508 0 509 510 511 1311 0 512 ya (z1::z0::zw 1317 ["self","pos","msgs","buffer_len","header"]::z1::zm (ak 44 9) "LegacyRecordBatch._read_all_headers" "_read_all_headers" 1314 307 1 0 0 3 514 true 325 515 0 516 517 518 1322 0 519 ya (z1::z0::zw 1328 ["self","pos","key_size","key","value_size","value"]::z1::zm (ak 44 10) "LegacyRecordBatch._read_key_value" "_read_key_value" 1325 317 2 0 0 3 521 true 325 522 0 523 524 525 1334 0 526 ya (z1::z0::zw 1340 ["self","msg_pos","length"]::z1::zm (ak 44 11) "LegacyRecordBatch._crc_bytes" "_crc_bytes" 1337 333 3 0 0 3 528 true 325 529 0 530 531 532 1343 0 533 ya (z1::z0::zw 1349 ["self","key_offset","timestamp_type","headers","msg_header","_","absolute_base_offset","header","msg_pos","offset","length","crc","attrs","timestamp","key","value","crc_bytes"]::z1::zg (ak 44 12) "LegacyRecordBatch.__iter__"::[]))))))))
noncomputable def hf9 (P:Params):List Obj:=zc "__iter__" "LegacyRecordBatch.__iter__" 1346 336 1 0 0 35 535 true 325 536 zN (zr 537) (zr 538) (zr 539) 1366::zh (ak 44 12) "LegacyRecordBatch.__iter__" zN (zr 540) ya::zw 1369 ["_attributes","_buffer","_crc","_decompressed","_length","_magic","_offset","_timestamp"]::zd 2 [ze P "__module__" 1218 ya,ze P "__firstlineno__" 1222 (zj 237 1221),ze P "__init__" 1237 (zr 452),ze P "base_offset" 1245 (zr 460),ze P "size_in_bytes" 1253 (zr 468),ze P "timestamp_type" 1261 (zr 476),ze P "compression_type" 1269 (zr 484),ze P "magic" 1277 (zr 492),ze P "validate_crc" 1285 (zr 499),ze P "_decompress" 1299 (zr 506),ze P "_read_header" 1313 (zr 513),ze P "_read_all_headers" 1324 (zr 520),ze P "_read_key_value" 1336 (zr 527),ze P "_crc_bytes" 1345 (zr 534),ze P "__iter__" 1368 (zr 541),ze P "__static_attributes__" 1377 (zr 542),ze P "__doc__" 1378 zN]::zk (zr 214) "LegacyRecordBatch" [zr 306,zr 434] [zr 544,zr 306,zr 228,zr 434,zt "object"] 543 true [] [] false #[(some (zr 439)),none,(some (zs "LegacyRecordBatch" 1211)),(some (zs "LegacyRecordBatch" 1219)),(some (zu "object.__new__")),(some zT)]::zf "super" [zr 544,zr 544,zr 544]::zf "builtin_function_or_method" [zu "object.__init_subclass__",zr 544]::zq [zr 247]::zf "builtin_function_or_method" [zu "type.__prepare__",zr 214]::zd 16 [ze P "__module__" 1388 ya,ze P "__qualname__" 1390 (zs "LegacyRecord" 1389),ze P "__firstlineno__" 1392 (zj 366 1391),ze P "__init__" 1407 (zr 560),ze P "magic" 1415 (zr 568),ze P "offset" 1423 (zr 576),ze P "timestamp" 1431 (zr 584),ze P "timestamp_type" 1439 (zr 592),ze P "key" 1447 (zr 600),ze P "value" 1455 (zr 608),ze P "headers" 1463 (zr 616),ze P "checksum" 1471 (zr 624),ze P "validate_crc" 1479 (zr 631),ze P "size_in_bytes" 1487 (zr 639),ze P "__repr__" 1494 (zr 646),ze P "__static_attributes__" 1503 (zr 647)]::z1::zx [368,4,559,379,4,566,383,4,574,387,4,582,391,4,590,395,4,598,399,4,606,403,4,614,407,4,622,410,4,630,415,4,637,418,4,645]::zc "LegacyRecord" "LegacyRecord" 1383 366 0 0 0 0 550 false 325 551 zN zN zN zN 1386::zl 552 3 549 ya 0::z1::z0::zw 1396 ["self","magic","offset","timestamp","timestamp_type","key","value","crc","crc_bytes"]::z1::zm (ak 45 0) "LegacyRecord.__init__" "__init__" 1393 368 9 0 0 3 554 true 325 555 0 556 557 558 1405 0 559 ya (z1::z0::zw 1411 ["self"]::z1::zm (ak 45 1) "LegacyRecord.magic" "magic" 1408 378 1 0 0 3 561 true 325 562 0 563 564 565 1412 0 566 ya (zf "property" [zr 567,zN,zN,zN,zs "magic" 1415,zF]::z1::z0::zw 1419 ["self"]::z1::zm (ak 45 2) "LegacyRecord.offset" "offset" 1416 382 1 0 0 3 569 true 325 570 0 571 572 573 1420 0 574 ya (zf "property" [zr 575,zN,zN,zN,zs "offset" 1423,zF]::z1::z0::zw 1427 ["self"]::z1::zm (ak 45 3) "LegacyRecord.timestamp" "timestamp" 1424 386 1 0 0 3 577 true 325 578 0 579 580 581 1428 0 582 ya (zf "property" [zr 583,zN,zN,zN,zs "timestamp" 1431,zF]::z1::z0::zw 1435 ["self"]::z1::zm (ak 45 4) "LegacyRecord.timestamp_type" "timestamp_type" 1432 390 1 0 0 3 585 true 325 586 0 587 588 589 1436 0 590 ya (zf "property" [zr 591,zN,zN,zN,zs "timestamp_type" 1439,zF]::z1::z0::zw 1443 ["self"]::z1::zm (ak 45 5) "LegacyRecord.key" "key" 1440 394 1 0 0 3 593 true 325 594 0 595 596 597 1444 0 598 ya ([]))))))
noncomputable def MM (P:Params):List Obj:=zf "property" [zr 599,zN,zN,zN,zs "key" 1447,zF]::z1::z0::zw 1451 ["self"]::z1::zm (ak 45 6) "LegacyRecord.value" "value" 1448 398 1 0 0 3 601 true 325 602 0 603 604 605 1452 0 606 ya (zf "property" [zr 607,zN,zN,zN,zs "value" 1455,zF]::z1::z0::zw 1459 ["self"]::z1::zm (ak 45 7) "LegacyRecord.headers" "headers" 1456 402 1 0 0 3 609 true 325 610 0 611 612 613 1460 0 614 ya (zf "property" [zr 615,zN,zN,zN,zs "headers" 1463,zF]::z1::z0::zw 1467 ["self"]::z1::zm (ak 45 8) "LegacyRecord.checksum" "checksum" 1464 406 1 0 0 3 617 true 325 618 0 619 620 621 1468 0 622 ya (zf "property" [zr 623,zN,zN,zN,zs "checksum" 1471,zF]::z1::z0::zw 1475 ["self","crc"]::z1::zm (ak 45 9) "LegacyRecord.validate_crc" "validate_crc" 1472 410 1 0 0 3 625 true 325 626 0 627 628 629 1477 0 630 ya (z1::z0::zw 1483 ["self"]::z1::zm (ak 45 10) "LegacyRecord.size_in_bytes" "size_in_bytes" 1480 414 1 0 0 3 632 true 325 633 0 634 635 636 1484 0 637 ya (zf "property" [zr 638,zN,zN,zN,zs "size_in_bytes" 1487,zF]::z1::z0::zw 1491 ["self"]::z1::zm (ak 45 11) "LegacyRecord.__repr__" "__repr__" 1488 418 1 0 0 3 640 true 325 641 0 642 643 644 1492 0 645 ya (zw 1495 ["_crc","_crc_bytes","_key","_magic","_offset","_timestamp","_timestamp_type","_value"]::zd 2 [ze P "__module__" 1388 ya,ze P "__firstlineno__" 1392 (zj 366 1391),ze P "__init__" 1407 (zr 560),ze P "magic" 1415 (zr 568),ze P "offset" 1423 (zr 576),ze P "timestamp" 1431 (zr 584),ze P "timestamp_type" 1439 (zr 592),ze P "key" 1447 (zr 600),ze P "value" 1455 (zr 608),ze P "headers" 1463 (zr 616),ze P "checksum" 1471 (zr 624),ze P "validate_crc" 1479 (zr 631),ze P "size_in_bytes" 1487 (zr 639),ze P "__repr__" 1494 (zr 646),ze P "__static_attributes__" 1503 (zr 647),ze P "__doc__" 1504 zN]::zk (zr 214) "LegacyRecord" [zr 247] [zr 649,zr 247,zr 228,zt "object"] 648 true [] [] false #[(some (zr 547)),none,(some (zs "LegacyRecord" 1381)),(some (zs "LegacyRecord" 1389)),(some (zu "object.__new__")),(some zT)]::zf "super" [zr 649,zr 649,zr 649]::zf "builtin_function_or_method" [zu "object.__init_subclass__",zr 649]::zq [zr 284,zr 434]::zf "builtin_function_or_method" [zu "type.__prepare__",zr 214]::zd 14 [ze P "__module__" 1514 ya,ze P "__qualname__" 1516 (zs "LegacyRecordBatchBuilder" 1515),ze P "__firstlineno__" 1518 (zj 420 1517),ze P "__init__" 1528 (zr 665),ze P "append" 1543 (zr 673),ze P "_encode_msg" 1565 (zr 681),ze P "_maybe_compress" 1575 (zr 688),ze P "build" 1582 (zr 695),ze P "size" 1589 (zr 702),ze P "size_in_bytes" 1602 (zr 710),ze P "record_size" 1625 (zr 719),ze P "record_overhead" 1645 (zr 729),ze P "estimate_size_in_bytes" 1668 (zr 739),ze P "__static_attributes__" 1673 (zr 741)]::z1::zx [422,4,664,428,4,672,448,4,680,481,4,687,496,4,694,500,4,701,503,4,709,509,4,716,518,4,726,526,4,736]::zc "LegacyRecordBatchBuilder" "LegacyRecordBatchBuilder" 1509 420 0 0 0 0 655 false 325 656 zN zN zN zN 1512::zl 657 3 654 ya 0::z1::[]))))))
noncomputable def ML (P:Params):List Obj:=z0::zw 1522 ["self","magic","compression_type","batch_size"]::z1::zm (ak 46 0) "LegacyRecordBatchBuilder.__init__" "__init__" 1519 422 4 0 0 3 659 true 325 660 0 661 662 663 1526 0 664 ya (zq [zN]::z1::z0::zw 1532 ["self","offset","timestamp","key","value","headers","pos","size","crc"]::z1::zm (ak 46 1) "LegacyRecordBatchBuilder.append" "append" 1529 428 6 0 0 3 667 true 325 668 0 669 670 671 1541 666 672 ya (zq [zj 0 1544]::z1::z0::zw 1548 ["self","start_pos","offset","timestamp","key","value","attributes","magic","buf","pos","key_size","value_size","length","crc_data","crc"]::z1::zm (ak 46 2) "LegacyRecordBatchBuilder._encode_msg" "_encode_msg" 1545 448 7 0 0 3 675 true 325 676 0 677 678 679 1563 674 680 ya (z1::z0::zw 1569 ["self","data","compressed","size"]::z1::zm (ak 46 3) "LegacyRecordBatchBuilder._maybe_compress" "_maybe_compress" 1566 481 1 0 0 3 682 true 325 683 0 684 685 686 1573 0 687 ya (z1::z0::zw 1579 ["self"]::z1::zm (ak 46 4) "LegacyRecordBatchBuilder.build" "build" 1576 496 1 0 0 3 689 true 325 690 0 691 692 693 1580 0 694 ya (z1::z0::zw 1586 ["self"]::z1::zm (ak 46 5) "LegacyRecordBatchBuilder.size" "size" 1583 500 1 0 0 3 696 true 325 697 0 698 699 700 1587 0 701 ya (zq [zN]::z1::z0::zw 1593 ["self","offset","timestamp","key","value","headers","magic"]::z1::zm (ak 46 6) "LegacyRecordBatchBuilder.size_in_bytes" "size_in_bytes" 1590 503 6 0 0 3 704 true 325 705 0 706 707 708 1600 703 709 ya (z1::z0::zw 1606 ["cls","magic","key","value","message_size"]::z1::zg (ak 46 7) "LegacyRecordBatchBuilder.record_size"::zc "record_size" "LegacyRecordBatchBuilder.record_size" 1603 508 4 0 0 3 711 true 325 712 zN (zr 713) (zr 714) (zr 715) 1611::⟨(zt "function"),none,(.func (DS 720 (ak 46 7) (S "LegacyRecordBatchBuilder.record_size") zN (zr 716) ya)),#[]⟩::zd 5 [ze P "__module__" 1614 ya,ze P "__name__" 1617 (zs "record_size" 1616),ze P "__qualname__" 1620 (zs "LegacyRecordBatchBuilder.record_size" 1619),ze P "__doc__" 1622 zN,ze P "__annotations__" 1624 (zr 720)]::⟨(zt "classmethod"),some 718,(.fields #[zr 717,zF]),#[]⟩::[])))))))
noncomputable def MK (P:Params):List Obj:=zd 0 []::z1::z0::zw 1629 ["cls","magic"]::z1::zg (ak 46 8) "LegacyRecordBatchBuilder.record_overhead"::zc "record_overhead" "LegacyRecordBatchBuilder.record_overhead" 1626 517 2 0 0 3 721 true 325 722 zN (zr 723) (zr 724) (zr 725) 1631::⟨(zt "function"),none,(.func (DS 730 (ak 46 8) (S "LegacyRecordBatchBuilder.record_overhead") zN (zr 726) ya)),#[]⟩::zd 5 [ze P "__module__" 1634 ya,ze P "__name__" 1637 (zs "record_overhead" 1636),ze P "__qualname__" 1640 (zs "LegacyRecordBatchBuilder.record_overhead" 1639),ze P "__doc__" 1642 zN,ze P "__annotations__" 1644 (zr 730)]::⟨(zt "classmethod"),some 728,(.fields #[zr 727,zF]),#[]⟩::zd 0 []::z1::z0::zw 1649 ["cls","magic","compression_type","key","value"]::z1::⟨.none,none,(.func (DR (ak 46 9) (zJ ["LegacyRecordBatchBuilder.estim","ate_size_in_bytes"]))),#[]⟩::zf "code" [zs "estimate_size_in_bytes" 1646,(.str (zJ ["LegacyRecordBatchBuilder.estim","ate_size_in_bytes"]) 1647),zs "/claim/cut.py" 1648,zi 525,zi 5,zi 0,zi 0,zi 3,zr 731,zT,zi 325,zr 732,zN,zr 733,zr 734,zr 735,zi 1654,zi 525,zs "/claim/cut.py" 1655]::⟨(zt "function"),none,(.func (DS 740 (ak 46 9) (zJ ["LegacyRecordBatchBuilder.estim","ate_size_in_bytes"]) zN (zr 736) ya)),#[]⟩::zd 5 [ze P "__module__" 1657 ya,ze P "__name__" 1660 (zs "estimate_size_in_bytes" 1659),ze P "__qualname__" 1663 (.str (zJ ["LegacyRecordBatchBuilder.estim","ate_size_in_bytes"]) 1662),ze P "__doc__" 1665 zN,ze P "__annotations__" 1667 (zr 740)]::⟨(zt "classmethod"),some 738,(.fields #[zr 737,zF]),#[]⟩::zd 0 []::zw 1669 ["_batch_size","_buffer","_compression_type","_magic"]::zd 2 [ze P "__module__" 1514 ya,ze P "__firstlineno__" 1518 (zj 420 1517),ze P "__init__" 1528 (zr 665),ze P "append" 1543 (zr 673),ze P "_encode_msg" 1565 (zr 681),ze P "_maybe_compress" 1575 (zr 688),ze P "build" 1582 (zr 695),ze P "size" 1589 (zr 702),ze P "size_in_bytes" 1602 (zr 710),ze P "record_size" 1625 (zr 719),ze P "record_overhead" 1645 (zr 729),ze P "estimate_size_in_bytes" 1668 (zr 739),ze P "__static_attributes__" 1673 (zr 741),ze P "__doc__" 1674 zN]::zk (zr 214) "LegacyRecordBatchBuilder" [zr 284,zr 434] [zr 743,zr 284,zr 228,zr 434,zt "object"] 742 true [] [] false #[(some (zr 652)),none,(some (zs "LegacyRecordBatchBuilder" 1507)),(some (zs "LegacyRecordBatchBuilder" 1515)),(some (zu "object.__new__")),(some zT)]::zf "super" [zr 743,zr 743,zr 743]::zf "builtin_function_or_method" [zu "object.__init_subclass__",zr 743]::z1::zf "builtin_function_or_method" [zu "type.__prepare__",zt "type"]::zd 10 [ze P "__module__" 1684 ya,ze P "__qualname__" 1686 (zs "LegacyRecordMetadata" 1685),ze P "__firstlineno__" 1688 (zj 531 1687),ze P "__init__" 1699 (zr 759),ze P "offset" 1707 (zr 767),ze P "crc" 1715 (zr 775),ze P "size" 1723 (zr 783),ze P "timestamp" 1731 (zr 791),ze P "__repr__" 1738 (zr 798),ze P "__static_attributes__" 1743 (zr 799)]::z1::zx [533,4,758,540,4,765,544,4,773,548,4,781,552,4,789,555,4,797]::zc "LegacyRecordMetadata" "LegacyRecordMetadata" 1679 531 0 0 0 0 749 false 325 750 zN zN zN zN 1682::zl 751 3 748 ya 0::z1::z0::zw 1692 ["self","offset","crc","size","timestamp"]::z1::zm (ak 47 0) "LegacyRecordMetadata.__init__" "__init__" 1689 533 5 0 0 3 753 true 325 754 0 755 756 757 1697 0 758 ya (z1::z0::zw 1703 ["self"]::z1::zm (ak 47 1) "LegacyRecordMetadata.offset" "offset" 1700 539 1 0 0 3 760 true 325 761 0 762 763 764 1704 0 765 ya (zf "property" [zr 766,zN,zN,zN,zs "offset" 1707,zF]::z1::z0::zw 1711 ["self"]::z1::zm (ak 47 2) "LegacyRecordMetadata.crc" "crc" 1708 543 1 0 0 3 768 true 325 769 0 770 771 772 1712 0 773 ya (zf "property" [zr 774,zN,zN,zN,zs "crc" 1715,zF]::z1::z0::zw 1719 ["self"]::z1::[])))
noncomputable def MJ (P:Params):List Obj:=zm (ak 47 3) "LegacyRecordMetadata.size" "size" 1716 547 1 0 0 3 776 true 325 777 0 778 779 780 1720 0 781 ya (zf "property" [zr 782,zN,zN,zN,zs "size" 1723,zF]::z1::z0::zw 1727 ["self"]::z1::zm (ak 47 4) "LegacyRecordMetadata.timestamp" "timestamp" 1724 551 1 0 0 3 784 true 325 785 0 786 787 788 1728 0 789 ya (zf "property" [zr 790,zN,zN,zN,zs "timestamp" 1731,zF]::z1::z0::zw 1735 ["self"]::z1::zm (ak 47 5) "LegacyRecordMetadata.__repr__" "__repr__" 1732 555 1 0 0 3 792 true 325 793 0 794 795 796 1736 0 797 ya (zw 1739 ["_crc","_offset","_size","_timestamp"]::zd 4 [ze P "__module__" 1684 ya,ze P "__firstlineno__" 1688 (zj 531 1687),ze P "__init__" 1699 (zr 759),ze P "offset" 1707 (zr 767),ze P "crc" 1715 (zr 775),ze P "size" 1723 (zr 783),ze P "timestamp" 1731 (zr 791),ze P "__repr__" 1738 (zr 798),ze P "__static_attributes__" 1743 (zr 799),ze P "__dict__" 1745 (zr 802),ze P "__weakref__" 1747 (zr 803),ze P "__doc__" 1748 zN]::zk (zt "type") "LegacyRecordMetadata" [zt "object"] [zr 801,zt "object"] 800 true [] [] false #[none,none,(some (zs "LegacyRecordMetadata" 1677)),(some (zs "LegacyRecordMetadata" 1685)),(some (zu "object.__new__")),(some zT)]::zf "getset_descriptor" [zs "__dict__" 1744,zr 801,zu "function.__dict__",zu "function.__dict__#set"]::zf "getset_descriptor" [zs "__weakref__" 1746,zr 801,zu "ExceptionGroup.__weakref__",zN]::zf "super" [zr 801,zr 801,zr 801]::zf "builtin_function_or_method" [zu "object.__init_subclass__",zr 801]::z1::zf "builtin_function_or_method" [zu "type.__prepare__",zt "type"]::zd 23 [ze P "__module__" 1760 yb,ze P "__qualname__" 1762 (zs "DefaultRecordBase" 1761),ze P "__firstlineno__" 1764 (zj 558 1763),ze P "HEADER_STRUCT" 1767 (zr 813),ze P "ATTRIBUTES_OFFSET" 1770 (zj 21 1769),ze P "CRC_OFFSET" 1773 (zj 17 1772),ze P "AFTER_LEN_OFFSET" 1776 (zj 12 1775),ze P "CODEC_MASK" 1778 (zj 7 1777),ze P "CODEC_NONE" 1780 (zj 0 1779),ze P "CODEC_GZIP" 1782 (zj 1 1781),ze P "CODEC_SNAPPY" 1784 (zj 2 1783),ze P "CODEC_LZ4" 1786 (zj 3 1785),ze P "CODEC_ZSTD" 1788 (zj 4 1787),ze P "TIMESTAMP_TYPE_MASK" 1790 (zj 8 1789),ze P "TRANSACTIONAL_MASK" 1792 (zj 16 1791),ze P "CONTROL_MASK" 1794 (zj 32 1793),ze P "LOG_APPEND_TIME" 1796 (zj 1 1795),ze P "CREATE_TIME" 1798 (zj 0 1797),ze P "NO_PRODUCER_ID" 1801 (.int (-1) 1800),ze P "NO_SEQUENCE" 1804 (.int (-1) 1803),ze P "MAX_INT" 1806 (zj 2147483647 1805),ze P "_assert_has_codec" 1816 (zr 820),ze P "__static_attributes__" 1817 (zr 821)]::z1::zx [578,4,819]::zc "DefaultRecordBase" "DefaultRecordBase" 1755 558 0 0 0 0 809 false 325 810 zN zN zN zN 1758::zl 811 3 808 yb 0::zf "_struct.Struct" [(.bytes #[62,113,105,105,98,73,104,105,113,113,113,104,105,105] 1766)]::z1::z0::zw 1810 ["self","compression_type","checker","name"]::z1::zm (ak 49 18) "DefaultRecordBase._assert_has_codec" "_assert_has_codec" 1807 578 2 0 0 3 814 true 325 815 0 816 817 818 1814 0 819 yb (z1::zd 4 [ze P "__module__" 1760 yb,ze P "__firstlineno__" 1764 (zj 558 1763),ze P "HEADER_STRUCT" 1767 (zr 813),ze P "ATTRIBUTES_OFFSET" 1770 (zj 21 1769),ze P "CRC_OFFSET" 1773 (zj 17 1772),ze P "AFTER_LEN_OFFSET" 1776 (zj 12 1775),ze P "CODEC_MASK" 1778 (zj 7 1777),ze P "CODEC_NONE" 1780 (zj 0 1779),ze P "CODEC_GZIP" 1782 (zj 1 1781),ze P "CODEC_SNAPPY" 1784 (zj 2 1783),ze P "CODEC_LZ4" 1786 (zj 3 1785),ze P "CODEC_ZSTD" 1788 (zj 4 1787),ze P "TIMESTAMP_TYPE_MASK" 1790 (zj 8 1789),ze P "TRANSACTIONAL_MASK" 1792 (zj 16 1791),ze P "CONTROL_MASK" 1794 (zj 32 1793),ze P "LOG_APPEND_TIME" 1796 (zj 1 1795),ze P "CREATE_TIME" 1798 (zj 0 1797),ze P "NO_PRODUCER_ID" 1801 (.int (-1) 1800),ze P "NO_SEQUENCE" 1804 (.int (-1) 1803),ze P "MAX_INT" 1806 (zj 2147483647 1805),ze P "_assert_has_codec" 1816 (zr 820),ze P "__static_attributes__" 1817 (zr 821),ze P "__dict__" 1819 (zr 824),ze P "__weakref__" 1821 (zr 825),ze P "__doc__" 1822 zN]::zk (zt "type") "DefaultRecordBase" [zt "object"] [zr 823,zt "object"] 822 true [] [zr 1069] false #[none,none,(some (zs "DefaultRecordBase" 1753)),(some (zs "DefaultRecordBase" 1761)),(some (zu "object.__new__")),(some zT)]::zf "getset_descriptor" [zs "__dict__" 1818,zr 823,zu "function.__dict__",zu "function.__dict__#set"]::zf "getset_descriptor" [zs "__weakref__" 1820,zr 823,zu "ExceptionGroup.__weakref__",zN]::zf "super" [zr 823,zr 823,zr 823]::zf "builtin_function_or_method" [zu "object.__init_subclass__",zr 823]::zq [zr 823,zr 306]::zf "builtin_function_or_method" [zu "type.__prepare__",zr 214]::zd 34 [ze P "__module__" 1832 yb,ze P "__qualname__" 1834 (zs "DefaultRecordBatch" 1833),ze P "__firstlineno__" 1836 (zj 585 1835),ze P "__init__" 1844 (zr 841),ze P "base_offset" 1852 (zr 849),ze P "size_in_bytes" 1860 (zr 857),ze P "leader_epoch" 1868 (zr 865),ze P "magic" 1876 (zr 873),ze P "crc" 1884 (zr 881),ze P "attributes" 1892 (zr 889),ze P "last_offset_delta" 1900 (zr 897),ze P "last_offset" 1908 (zr 905),ze P "next_offset" 1916 (zr 913),ze P "compression_type" 1924 (zr 921),ze P "timestamp_type" 1932 (zr 929),ze P "is_transactional" 1940 (zr 937),ze P "is_control_batch" 1948 (zr 945),ze P "first_timestamp" 1956 (zr 953),ze P "max_timestamp" 1964 (zr 961),ze P "producer_id" 1972 (zr 969),ze P "has_producer_id" 1979 (zr 976),ze P "producer_epoch" 1987 (zr 984),ze P "base_sequence" 1995 (zr 992),ze P "has_sequence" 2003 (zr 1000),ze P "last_sequence" 2011 (zr 1008),ze P "_increment_sequence" 2020 (zr 1015),ze P "records_count" 2028 (zr 1023),ze P "_maybe_uncompress" 2038 (zr 1030),ze P "_read_msg" 2065 (zr 1038),ze P "__iter__" 2072 (zr 1045),ze P "__next__" 2081 (zr 1052),ze P "validate_crc" 2091 (zr 1059),ze P "__str__" 2098 (zr 1066),ze P "__static_attributes__" 2105 (zr 1067)]::z1::zx [587,4,840,596,4,847,600,4,855,604,4,863,608,4,871,612,4,879,616,4,887,620,4,895,624,4,903,628,4,911,632,4,919,636,4,927,640,4,935,644,4,943,648,4,951,652,4,959,656,4,967,659,4,975,663,4,982,667,4,990,671,4,998,675,4,1006,678,4,1014,682,4,1021,685,4,1029,697,4,1037,748,4,1044,752,4,1051,765,4,1058,772,4,1065]::zc "DefaultRecordBatch" "DefaultRecordBatch" 1827 585 0 0 0 0 831 false 325 832 zN zN zN zN 1830::zl 833 3 830 yb 0::z1::z0::zw 1840 ["self","buffer"]::z1::zg (ak 50 0) "DefaultRecordBatch.__init__"::[]))))
noncomputable def MI (P:Params):List Obj:=zc "__init__" "DefaultRecordBatch.__init__" 1837 587 2 0 0 3 835 true 325 836 zN (zr 837) (zr 838) (zr 839) 1842::zh (ak 50 0) "DefaultRecordBatch.__init__" zN (zr 840) yb::z1::z0::zw 1848 ["self"]::z1::zm (ak 50 1) "DefaultRecordBatch.base_offset" "base_offset" 1845 595 1 0 0 3 842 true 325 843 0 844 845 846 1849 0 847 yb (zf "property" [zr 848,zN,zN,zN,zs "base_offset" 1852,zF]::z1::z0::zw 1856 ["self"]::z1::zm (ak 50 2) "DefaultRecordBatch.size_in_bytes" "size_in_bytes" 1853 599 1 0 0 3 850 true 325 851 0 852 853 854 1857 0 855 yb (zf "property" [zr 856,zN,zN,zN,zs "size_in_bytes" 1860,zF]::z1::z0::zw 1864 ["self"]::z1::zm (ak 50 3) "DefaultRecordBatch.leader_epoch" "leader_epoch" 1861 603 1 0 0 3 858 true 325 859 0 860 861 862 1865 0 863 yb (zf "property" [zr 864,zN,zN,zN,zs "leader_epoch" 1868,zF]::z1::z0::zw 1872 ["self"]::z1::zm (ak 50 4) "DefaultRecordBatch.magic" "magic" 1869 607 1 0 0 3 866 true 325 867 0 868 869 870 1873 0 871 yb (zf "property" [zr 872,zN,zN,zN,zs "magic" 1876,zF]::z1::z0::zw 1880 ["self"]::z1::zm (ak 50 5) "DefaultRecordBatch.crc" "crc" 1877 611 1 0 0 3 874 true 325 875 0 876 877 878 1881 0 879 yb (zf "property" [zr 880,zN,zN,zN,zs "crc" 1884,zF]::z1::z0::zw 1888 ["self"]::z1::zm (ak 50 6) "DefaultRecordBatch.attributes" "attributes" 1885 615 1 0 0 3 882 true 325 883 0 884 885 886 1889 0 887 yb (zf "property" [zr 888,zN,zN,zN,zs "attributes" 1892,zF]::z1::z0::zw 1896 ["self"]::z1::zm (ak 50 7) "DefaultRecordBatch.last_offset_delta" "last_offset_delta" 1893 619 1 0 0 3 890 true 325 891 0 892 893 894 1897 0 895 yb (zf "property" [zr 896,zN,zN,zN,zs "last_offset_delta" 1900,zF]::z1::z0::[])))))))
noncomputable def MH (P:Params):List Obj:=zw 1904 ["self"]::z1::zm (ak 50 8) "DefaultRecordBatch.last_offset" "last_offset" 1901 623 1 0 0 3 898 true 325 899 0 900 901 902 1905 0 903 yb (zf "property" [zr 904,zN,zN,zN,zs "last_offset" 1908,zF]::z1::z0::zw 1912 ["self"]::z1::zm (ak 50 9) "DefaultRecordBatch.next_offset" "next_offset" 1909 627 1 0 0 3 906 true 325 907 0 908 909 910 1913 0 911 yb (zf "property" [zr 912,zN,zN,zN,zs "next_offset" 1916,zF]::z1::z0::zw 1920 ["self"]::z1::zm (ak 50 10) "DefaultRecordBatch.compression_type" "compression_type" 1917 631 1 0 0 3 914 true 325 915 0 916 917 918 1921 0 919 yb (zf "property" [zr 920,zN,zN,zN,zs "compression_type" 1924,zF]::z1::z0::zw 1928 ["self"]::z1::zm (ak 50 11) "DefaultRecordBatch.timestamp_type" "timestamp_type" 1925 635 1 0 0 3 922 true 325 923 0 924 925 926 1929 0 927 yb (zf "property" [zr 928,zN,zN,zN,zs "timestamp_type" 1932,zF]::z1::z0::zw 1936 ["self"]::z1::zm (ak 50 12) "DefaultRecordBatch.is_transactional" "is_transactional" 1933 639 1 0 0 3 930 true 325 931 0 932 933 934 1937 0 935 yb (zf "property" [zr 936,zN,zN,zN,zs "is_transactional" 1940,zF]::z1::z0::zw 1944 ["self"]::z1::zm (ak 50 13) "DefaultRecordBatch.is_control_batch" "is_control_batch" 1941 643 1 0 0 3 938 true 325 939 0 940 941 942 1945 0 943 yb (zf "property" [zr 944,zN,zN,zN,zs "is_control_batch" 1948,zF]::z1::z0::zw 1952 ["self"]::z1::zm (ak 50 14) "DefaultRecordBatch.first_timestamp" "first_timestamp" 1949 647 1 0 0 3 946 true 325 947 0 948 949 950 1953 0 951 yb (zf "property" [zr 952,zN,zN,zN,zs "first_timestamp" 1956,zF]::z1::z0::zw 1960 ["self"]::z1::zg (ak 50 15) "DefaultRecordBatch.max_timestamp"::zc "max_timestamp" "DefaultRecordBatch.max_timestamp" 1957 651 1 0 0 3 954 true 325 955 zN (zr 956) (zr 957) (zr 958) 1961::[])))))))
noncomputable def MG (P:Params):List Obj:=zh (ak 50 15) "DefaultRecordBatch.max_timestamp" zN (zr 959) yb::zf "property" [zr 960,zN,zN,zN,zs "max_timestamp" 1964,zF]::z1::z0::zw 1968 ["self"]::z1::zm (ak 50 16) "DefaultRecordBatch.producer_id" "producer_id" 1965 655 1 0 0 3 962 true 325 963 0 964 965 966 1969 0 967 yb (zf "property" [zr 968,zN,zN,zN,zs "producer_id" 1972,zF]::z1::z0::zw 1976 ["self"]::z1::zm (ak 50 17) "DefaultRecordBatch.has_producer_id" "has_producer_id" 1973 659 1 0 0 3 970 true 325 971 0 972 973 974 1977 0 975 yb (z1::z0::zw 1983 ["self"]::z1::zm (ak 50 18) "DefaultRecordBatch.producer_epoch" "producer_epoch" 1980 662 1 0 0 3 977 true 325 978 0 979 980 981 1984 0 982 yb (zf "property" [zr 983,zN,zN,zN,zs "producer_epoch" 1987,zF]::z1::z0::zw 1991 ["self"]::z1::zm (ak 50 19) "DefaultRecordBatch.base_sequence" "base_sequence" 1988 666 1 0 0 3 985 true 325 986 0 987 988 989 1992 0 990 yb (zf "property" [zr 991,zN,zN,zN,zs "base_sequence" 1995,zF]::z1::z0::zw 1999 ["self"]::z1::zm (ak 50 20) "DefaultRecordBatch.has_sequence" "has_sequence" 1996 670 1 0 0 3 993 true 325 994 0 995 996 997 2000 0 998 yb (zf "property" [zr 999,zN,zN,zN,zs "has_sequence" 2003,zF]::z1::z0::zw 2007 ["self"]::z1::zm (ak 50 21) "DefaultRecordBatch.last_sequence" "last_sequence" 2004 674 1 0 0 3 1001 true 325 1002 0 1003 1004 1005 2008 0 1006 yb (zf "property" [zr 1007,zN,zN,zN,zs "last_sequence" 2011,zF]::z1::z0::zw 2015 ["self","base","increment"]::z1::zm (ak 50 22) "DefaultRecordBatch._increment_sequence" "_increment_sequence" 2012 678 3 0 0 3 1009 true 325 1010 0 1011 1012 1013 2018 0 1014 yb (z1::z0::zw 2024 ["self"]::z1::[])))))))
noncomputable def MF (P:Params):List Obj:=zm (ak 50 23) "DefaultRecordBatch.records_count" "records_count" 2021 681 1 0 0 3 1016 true 325 1017 0 1018 1019 1020 2025 0 1021 yb (zf "property" [zr 1022,zN,zN,zN,zs "records_count" 2028,zF]::z1::z0::zw 2032 ["self","compression_type","data","uncompressed"]::z1::zm (ak 50 24) "DefaultRecordBatch._maybe_uncompress" "_maybe_uncompress" 2029 685 1 0 0 3 1024 true 325 1025 0 1026 1027 1028 2036 0 1029 yb (zq [zr 385]::z1::z0::zw 2042 ["self","decode_varint","buffer","pos","length","start_pos","_","ts_delta","timestamp","offset_delta","offset","key_len","key","value_len","value","header_count","headers","h_key_len","h_key","h_value_len","h_value"]::z1::zm (ak 50 25) "DefaultRecordBatch._read_msg" "_read_msg" 2039 697 2 0 0 3 1032 true 325 1033 0 1034 1035 1036 2063 1031 1037 yb (z1::z0::zw 2069 ["self"]::z1::zm (ak 50 26) "DefaultRecordBatch.__iter__" "__iter__" 2066 748 1 0 0 3 1039 true 325 1040 0 1041 1042 1043 2070 0 1044 yb (z1::z0::zw 2076 ["self","msg","err"]::z1::zm (ak 50 27) "DefaultRecordBatch.__next__" "__next__" 2073 752 1 0 0 3 1046 true 325 1047 0 1048 1049 1050 2079 0 1051 yb (z1::z0::zw 2085 ["self","crc","data_view","verify_crc"]::z1::zm (ak 50 28) "DefaultRecordBatch.validate_crc" "validate_crc" 2082 765 1 0 0 3 1053 true 325 1054 0 1055 1056 1057 2089 0 1058 yb (z1::z0::zw 2095 ["self"]::z1::zm (ak 50 29) "DefaultRecordBatch.__str__" "__str__" 2092 772 1 0 0 3 1060 true 325 1061 0 1062 1063 1064 2096 0 1065 yb (zw 2099 ["_buffer","_decompressed","_header_data","_next_record_index","_num_records","_pos"]::zd 2 [ze P "__module__" 1832 yb,ze P "__firstlineno__" 1836 (zj 585 1835),ze P "__init__" 1844 (zr 841),ze P "base_offset" 1852 (zr 849),ze P "size_in_bytes" 1860 (zr 857),ze P "leader_epoch" 1868 (zr 865),ze P "magic" 1876 (zr 873),ze P "crc" 1884 (zr 881),ze P "attributes" 1892 (zr 889),ze P "last_offset_delta" 1900 (zr 897),ze P "last_offset" 1908 (zr 905),ze P "next_offset" 1916 (zr 913),ze P "compression_type" 1924 (zr 921),ze P "timestamp_type" 1932 (zr 929),ze P "is_transactional" 1940 (zr 937),ze P "is_control_batch" 1948 (zr 945),ze P "first_timestamp" 1956 (zr 953),ze P "max_timestamp" 1964 (zr 961),ze P "producer_id" 1972 (zr 969),ze P "has_producer_id" 1979 (zr 976),ze P "producer_epoch" 1987 (zr 984),ze P "base_sequence" 1995 (zr 992),ze P "has_sequence" 2003 (zr 1000),ze P "last_sequence" 2011 (zr 1008),ze P "_increment_sequence" 2020 (zr 1015),ze P "records_count" 2028 (zr 1023),ze P "_maybe_uncompress" 2038 (zr 1030),ze P "_read_msg" 2065 (zr 1038),ze P "__iter__" 2072 (zr 1045),ze P "__next__" 2081 (zr 1052),ze P "validate_crc" 2091 (zr 1059),ze P "__str__" 2098 (zr 1066),ze P "__static_attributes__" 2105 (zr 1067),ze P "__doc__" 2106 zN]::zk (zr 214) "DefaultRecordBatch" [zr 823,zr 306] [zr 1069,zr 823,zr 306,zr 228,zt "object"] 1068 true [] [] false #[(some (zr 828)),none,(some (zs "DefaultRecordBatch" 1825)),(some (zs "DefaultRecordBatch" 1833)),(some (zu "object.__new__")),(some zT)]::zf "super" [zr 1069,zr 1069,zr 1069]::zf "builtin_function_or_method" [zu "object.__init_subclass__",zr 1069]::zq [zr 247]::zf "builtin_function_or_method" [zu "type.__prepare__",zr 214]::zd 15 [ze P "__module__" 2116 yb,ze P "__qualname__" 2118 (zs "DefaultRecord" 2117),ze P "__firstlineno__" 2120 (zj 774 2119),ze P "__init__" 2134 (zr 1085),ze P "size_in_bytes" 2142 (zr 1093),ze P "offset" 2150 (zr 1101),ze P "timestamp" 2158 (zr 1109),ze P "timestamp_type" 2166 (zr 1117),ze P "key" 2174 (zr 1125),ze P "value" 2182 (zr 1133),ze P "headers" 2190 (zr 1141),ze P "checksum" 2198 (zr 1149),ze P "validate_crc" 2205 (zr 1156),ze P "__repr__" 2212 (zr 1163),ze P "__static_attributes__" 2220 (zr 1164)]::z1::zx [776,4,1084,786,4,1091,790,4,1099,794,4,1107,798,4,1115,802,4,1123,806,4,1131,810,4,1139,814,4,1147,817,4,1155,820,4,1162]::zc "DefaultRecord" "DefaultRecord" 2111 774 0 0 0 0 1075 false 325 1076 zN zN zN zN 2114::zl 1077 3 1074 yb 0::z1::[])))))))
noncomputable def ME (P:Params):List Obj:=z0::zw 2124 ["self","size_in_bytes","offset","timestamp","timestamp_type","key","value","headers"]::z1::zm (ak 51 0) "DefaultRecord.__init__" "__init__" 2121 776 8 0 0 3 1079 true 325 1080 0 1081 1082 1083 2132 0 1084 yb (z1::z0::zw 2138 ["self"]::z1::zm (ak 51 1) "DefaultRecord.size_in_bytes" "size_in_bytes" 2135 785 1 0 0 3 1086 true 325 1087 0 1088 1089 1090 2139 0 1091 yb (zf "property" [zr 1092,zN,zN,zN,zs "size_in_bytes" 2142,zF]::z1::z0::zw 2146 ["self"]::z1::zm (ak 51 2) "DefaultRecord.offset" "offset" 2143 789 1 0 0 3 1094 true 325 1095 0 1096 1097 1098 2147 0 1099 yb (zf "property" [zr 1100,zN,zN,zN,zs "offset" 2150,zF]::z1::z0::zw 2154 ["self"]::z1::zm (ak 51 3) "DefaultRecord.timestamp" "timestamp" 2151 793 1 0 0 3 1102 true 325 1103 0 1104 1105 1106 2155 0 1107 yb (zf "property" [zr 1108,zN,zN,zN,zs "timestamp" 2158,zF]::z1::z0::zw 2162 ["self"]::z1::zm (ak 51 4) "DefaultRecord.timestamp_type" "timestamp_type" 2159 797 1 0 0 3 1110 true 325 1111 0 1112 1113 1114 2163 0 1115 yb (zf "property" [zr 1116,zN,zN,zN,zs "timestamp_type" 2166,zF]::z1::z0::zw 2170 ["self"]::z1::zm (ak 51 5) "DefaultRecord.key" "key" 2167 801 1 0 0 3 1118 true 325 1119 0 1120 1121 1122 2171 0 1123 yb (zf "property" [zr 1124,zN,zN,zN,zs "key" 2174,zF]::z1::z0::zw 2178 ["self"]::z1::zm (ak 51 6) "DefaultRecord.value" "value" 2175 805 1 0 0 3 1126 true 325 1127 0 1128 1129 1130 2179 0 1131 yb (zf "property" [zr 1132,zN,zN,zN,zs "value" 2182,zF]::z1::z0::zw 2186 ["self"]::z1::zg (ak 51 7) "DefaultRecord.headers"::zc "headers" "DefaultRecord.headers" 2183 809 1 0 0 3 1134 true 325 1135 zN (zr 1136) (zr 1137) (zr 1138) 2187::[])))))))
noncomputable def MD (P:Params):List Obj:=zh (ak 51 7) "DefaultRecord.headers" zN (zr 1139) yb::zf "property" [zr 1140,zN,zN,zN,zs "headers" 2190,zF]::z1::z0::zw 2194 ["self"]::z1::zm (ak 51 8) "DefaultRecord.checksum" "checksum" 2191 813 1 0 0 3 1142 true 325 1143 0 1144 1145 1146 2195 0 1147 yb (zf "property" [zr 1148,zN,zN,zN,zs "checksum" 2198,zF]::z1::z0::zw 2202 ["self"]::z1::zm (ak 51 9) "DefaultRecord.validate_crc" "validate_crc" 2199 817 1 0 0 3 1150 true 325 1151 0 1152 1153 1154 2203 0 1155 yb (z1::z0::zw 2209 ["self"]::z1::zm (ak 51 10) "DefaultRecord.__repr__" "__repr__" 2206 820 1 0 0 3 1157 true 325 1158 0 1159 1160 1161 2210 0 1162 yb (zw 2213 ["_headers","_key","_offset","_size_in_bytes","_timestamp","_timestamp_type","_value"]::zd 2 [ze P "__module__" 2116 yb,ze P "__firstlineno__" 2120 (zj 774 2119),ze P "__init__" 2134 (zr 1085),ze P "size_in_bytes" 2142 (zr 1093),ze P "offset" 2150 (zr 1101),ze P "timestamp" 2158 (zr 1109),ze P "timestamp_type" 2166 (zr 1117),ze P "key" 2174 (zr 1125),ze P "value" 2182 (zr 1133),ze P "headers" 2190 (zr 1141),ze P "checksum" 2198 (zr 1149),ze P "validate_crc" 2205 (zr 1156),ze P "__repr__" 2212 (zr 1163),ze P "__static_attributes__" 2220 (zr 1164),ze P "__doc__" 2221 zN]::zk (zr 214) "DefaultRecord" [zr 247] [zr 1166,zr 247,zr 228,zt "object"] 1165 true [] [zr 1227] false #[(some (zr 1072)),none,(some (zs "DefaultRecord" 2109)),(some (zs "DefaultRecord" 2117)),(some (zu "object.__new__")),(some zT)]::zf "super" [zr 1166,zr 1166,zr 1166]::zf "builtin_function_or_method" [zu "object.__init_subclass__",zr 1166]::zq [zr 1166]::zf "builtin_function_or_method" [zu "type.__prepare__",zr 214]::zd 12 [ze P "__module__" 2231 yb,ze P "__qualname__" 2233 (zs "ControlRecord" 2232),ze P "__firstlineno__" 2235 (zj 822 2234),ze P "KEY_STRUCT" 2238 (zr 1177),ze P "__init__" 2253 (zr 1185),ze P "version" 2261 (zr 1193),ze P "type" 2269 (zr 1201),ze P "abort" 2277 (zr 1209),ze P "commit" 2285 (zr 1217),ze P "__repr__" 2292 (zr 1224),ze P "__static_attributes__" 2295 (zr 1225),ze P "__classcell__" 2296 (zr 1172)]::⟨(zt "cell"),none,(.cell (some (zr 1227))),#[]⟩::z1::zx [825,4,1184,830,4,1191,834,4,1199,838,4,1207,842,4,1215,845,4,1223]::zc "ControlRecord" "ControlRecord" 2226 822 0 0 0 0 1173 false 325 1174 zN zN zN zN 2229::zl 1175 3 1171 yb 0::zf "_struct.Struct" [(.bytes #[62,104,104] 2237)]::zq [zr 1172]::zw 2242 ["__class__"]::z0::zw 2243 ["self","size_in_bytes","offset","timestamp","timestamp_type","key","value","headers"]::z1::zg (ak 52 1) "ControlRecord.__init__"::zc "__init__" "ControlRecord.__init__" 2239 825 8 0 0 3 1179 true 325 1180 zN (zr 1181) (zr 1182) (zr 1183) 2251::⟨(zt "function"),none,(.func (bf (ak 52 1) (S "ControlRecord.__init__") zN (zr 1184) yb [((S "__class__"),1172)] (zr 1178))),#[]⟩::z1::z0::zw 2257 ["self"]::z1::zm (ak 52 2) "ControlRecord.version" "version" 2254 829 1 0 0 3 1186 true 325 1187 0 1188 1189 1190 2258 0 1191 yb (zf "property" [zr 1192,zN,zN,zN,zs "version" 2261,zF]::z1::z0::zw 2265 ["self"]::z1::zg (ak 52 3) "ControlRecord.type"::zc "type" "ControlRecord.type" 2262 833 1 0 0 3 1194 true 325 1195 zN (zr 1196) (zr 1197) (zr 1198) 2266::[]))))
noncomputable def MC (P:Params):List Obj:=zh (ak 52 3) "ControlRecord.type" zN (zr 1199) yb::zf "property" [zr 1200,zN,zN,zN,zs "type" 2269,zF]::z1::z0::zw 2273 ["self"]::z1::zm (ak 52 4) "ControlRecord.abort" "abort" 2270 837 1 0 0 3 1202 true 325 1203 0 1204 1205 1206 2274 0 1207 yb (zf "property" [zr 1208,zN,zN,zN,zs "abort" 2277,zF]::z1::z0::zw 2281 ["self"]::z1::zm (ak 52 5) "ControlRecord.commit" "commit" 2278 841 1 0 0 3 1210 true 325 1211 0 1212 1213 1214 2282 0 1215 yb (zf "property" [zr 1216,zN,zN,zN,zs "commit" 2285,zF]::z1::z0::zw 2289 ["self"]::z1::zm (ak 52 6) "ControlRecord.__repr__" "__repr__" 2286 845 1 0 0 3 1218 true 325 1219 0 1220 1221 1222 2290 0 1223 yb (zw 2293 ["_type","_version"]::zd 3 [ze P "__module__" 2231 yb,ze P "__firstlineno__" 2235 (zj 822 2234),ze P "KEY_STRUCT" 2238 (zr 1177),ze P "__init__" 2253 (zr 1185),ze P "version" 2261 (zr 1193),ze P "type" 2269 (zr 1201),ze P "abort" 2277 (zr 1209),ze P "commit" 2285 (zr 1217),ze P "__repr__" 2292 (zr 1224),ze P "__static_attributes__" 2295 (zr 1225),ze P "__doc__" 2297 zN]::zk (zr 214) "ControlRecord" [zr 1166] [zr 1227,zr 1166,zr 247,zr 228,zt "object"] 1226 true [] [] false #[(some (zr 1169)),none,(some (zs "ControlRecord" 2224)),(some (zs "ControlRecord" 2232)),(some (zu "object.__new__")),(some zT)]::zf "super" [zr 1227,zr 1227,zr 1227]::zf "builtin_function_or_method" [zu "object.__init_subclass__",zr 1227]::zq [zr 349]::zf "builtin_function_or_method" [zu "type.__prepare__",zr 214]::zd 16 [ze P "__module__" 2309 yf,ze P "__qualname__" 2311 (zs "MemoryRecords" 2310),ze P "__firstlineno__" 2313 (zj 848 2312),ze P "LENGTH_OFFSET" 2316 (zj 8 2315),ze P "LOG_OVERHEAD" 2319 (zj 12 2318),ze P "MAGIC_OFFSET" 2322 (zj 16 2321),ze P "MIN_SLICE" 2325 (zj 26 2324),ze P "__init__" 2333 (zr 1243),ze P "size_in_bytes" 2340 (zr 1250),ze P "valid_bytes" 2349 (zr 1257),ze P "_cache_next" 2364 (zr 1265),ze P "has_next" 2371 (zr 1272),ze P "next_batch" 2382 (zr 1280),ze P "__iter__" 2389 (zr 1287),ze P "__next__" 2396 (zr 1294),ze P "__static_attributes__" 2401 (zr 1295)]::z1::zx [854,4,1242,861,4,1249,864,4,1256,874,4,1264,892,4,1271,895,4,1279,908,4,1286,911,4,1293]::zc "MemoryRecords" "MemoryRecords" 2304 848 0 0 0 0 1233 false 325 1234 zN zN zN zN 2307::zl 1235 3 1232 yf 0::z1::z0::zw 2329 ["self","bytes_data"]::z1::zm (ak 54 4) "MemoryRecords.__init__" "__init__" 2326 854 2 0 0 3 1237 true 325 1238 0 1239 1240 1241 2331 0 1242 yf (z1::z0::zw 2337 ["self"]::z1::zm (ak 54 5) "MemoryRecords.size_in_bytes" "size_in_bytes" 2334 861 1 0 0 3 1244 true 325 1245 0 1246 1247 1248 2338 0 1249 yf (z1::z0::zw 2344 ["self","next_slice","pos"]::z1::zm (ak 54 6) "MemoryRecords.valid_bytes" "valid_bytes" 2341 864 1 0 0 3 1251 true 325 1252 0 1253 1254 1255 2347 0 1256 yf (zq [zj 8 2315,zj 12 2318]::z1::[]))))))
noncomputable def MB (P:Params):List Obj:=z0::zw 2353 ["self","len_offset","log_overhead","buffer","buffer_len","pos","remaining","length","slice_end"]::z1::zm (ak 54 7) "MemoryRecords._cache_next" "_cache_next" 2350 874 3 0 0 3 1259 true 325 1260 0 1261 1262 1263 2362 1258 1264 yf (z1::z0::zw 2368 ["self"]::z1::zm (ak 54 8) "MemoryRecords.has_next" "has_next" 2365 892 1 0 0 3 1266 true 325 1267 0 1268 1269 1270 2369 0 1271 yf (zq [zj 26 2324,zj 16 2321]::z1::z0::zw 2375 ["self","_min_slice","_magic_offset","next_slice","magic"]::z1::zm (ak 54 9) "MemoryRecords.next_batch" "next_batch" 2372 895 3 0 0 3 1274 true 325 1275 0 1276 1277 1278 2380 1273 1279 yf (z1::z0::zw 2386 ["self"]::z1::zm (ak 54 10) "MemoryRecords.__iter__" "__iter__" 2383 908 1 0 0 3 1281 true 325 1282 0 1283 1284 1285 2387 0 1286 yf (z1::z0::zw 2393 ["self"]::z1::zm (ak 54 11) "MemoryRecords.__next__" "__next__" 2390 911 1 0 0 3 1288 true 325 1289 0 1290 1291 1292 2394 0 1293 yf (zw 2397 ["_buffer","_next_slice","_pos","_remaining_bytes"]::zd 2 [ze P "__module__" 2309 yf,ze P "__firstlineno__" 2313 (zj 848 2312),ze P "LENGTH_OFFSET" 2316 (zj 8 2315),ze P "LOG_OVERHEAD" 2319 (zj 12 2318),ze P "MAGIC_OFFSET" 2322 (zj 16 2321),ze P "MIN_SLICE" 2325 (zj 26 2324),ze P "__init__" 2333 (zr 1243),ze P "size_in_bytes" 2340 (zr 1250),ze P "valid_bytes" 2349 (zr 1257),ze P "_cache_next" 2364 (zr 1265),ze P "has_next" 2371 (zr 1272),ze P "next_batch" 2382 (zr 1280),ze P "__iter__" 2389 (zr 1287),ze P "__next__" 2396 (zr 1294),ze P "__static_attributes__" 2401 (zr 1295),ze P "__doc__" 2402 zN]::zk (zr 214) "MemoryRecords" [zr 349] [zr 1297,zr 349,zr 228,zt "object"] 1296 true [] [] false #[(some (zr 1230)),none,(some (zs "MemoryRecords" 2302)),(some (zs "MemoryRecords" 2310)),(some (zu "object.__new__")),(some zT)]::zf "super" [zr 1297,zr 1297,zr 1297]::zf "builtin_function_or_method" [zu "object.__init_subclass__",zr 1297]::z1::z0::z1::z1::zm (bu 56) "_law_times" "_law_times" 2407 916 0 0 0 3 1300 true 325 1301 0 1302 1303 1304 2410 0 1305 ye (z1::z0::zm (bu 57) "_law_fixed" "_law_fixed" 2413 918 2 0 0 3 1307 true 325 1308 0 0 0 1309 2416 0 1310 ye (z1::z0::zw 2422 ["value","rest","row"]::z1::zm (bu 58) "_law_number" "_law_number" 2419 920 1 0 0 3 1312 true 325 1313 0 1314 1315 1316 2425 0 1317 ye (z1::[]))))))))
noncomputable def MA (P:Params):List Obj:=z0::zw 2431 ["data"]::z1::zm (bu 59) "_law_data" "_law_data" 2428 927 1 0 0 3 1319 true 325 1320 0 1321 1322 1323 2432 0 1324 ye (z1::z0::zw 2438 ["number"]::z1::zm (bu 60) "_law_piece" "_law_piece" 2435 929 1 0 0 3 1326 true 325 1327 0 1328 1329 1330 2439 0 1331 ye (z1::z0::zm (bu 61) "_law_squeezed" "_law_squeezed" 2442 933 1 0 0 3 1333 true 325 1334 0 0 0 1335 2445 0 1336 ye (z1::z0::zw 2451 ["rest","base","squeezed","late","body","told","place","more","when","key","value","headers","laid","text","data"]::z1::zm (bu 62) "_law_batch" "_law_batch" 2448 941 1 0 0 3 1338 true 325 1339 0 1340 1341 1342 2466 0 1343 ye (z1::z0::zw 2472 ["base","kind","count","body","row"]::z1::zm (bu 63) "_law_head" "_law_head" 2469 959 4 0 0 3 1345 true 325 1346 0 1347 1348 1349 2477 0 1350 ye (z1::z0::zw 2483 ["rest","body","told","place","version","kind","laid"]::z1::zm (bu 64) "_law_markers" "_law_markers" 2480 963 1 0 0 3 1352 true 325 1353 0 1354 1355 1356 2490 0 1357 ye (z1::z0::zw 2496 ["form","offset","kind","when","key","value","row","data"]::z1::zm (bu 65) "_law_message" "_law_message" 2493 972 6 0 0 3 1359 true 325 1360 0 1361 1362 1363 2504 0 1364 ye (z1::z0::zw 2510 ["form","rest","base","count","late","body","told","place","more","when","key","value","offset"]::z1::zm (bu 66) "_law_old" "_law_old" 2507 977 2 0 0 3 1366 true 325 1367 0 1368 1369 1370 2523 0 1371 ye (z1::z0::zm (bu 67) "_law_records" "_law_records" 2526 992 1 0 0 3 1373 true 325 1374 0 0 0 1375 2529 0 1376 ye (z1::z0::[])))))))))
noncomputable def Mz (P:Params):List Obj:=zm (bu 68) "law" "law" 2532 1000 1 0 0 3 1378 true 325 1379 0 0 0 1380 2535 0 1381 ye ([])
noncomputable def qo (P:Params):List Obj:=hf0 P++(hf1 P++(hf2 P++(hf3 P++(hf4 P++(hf5 P++(hf6 P++(hf7 P++(hf8 P++(hf9 P++(MM P++(ML P++(MK P++(MJ P++(MI P++(MH P++(MG P++(MF P++(ME P++(MD P++(MC P++(MB P++(MA P++(Mz P)))))))))))))))))))))))
noncomputable def Kas:List Addr:=[2,3,58,59,81,82,196,197,213,214,227,228,246,247,305,306,348,349,378,384,385,423,424,430,431,433,434,451,452,458,459,460,466,467,468,474,475,476,482,483,484,490,491,492,505,506,512,513,519,520,526,527,533,534,540,541,543,544,559,560,574,575,576,582,583,584,598,599,600,606,607,608,614,615,616,648,649,813,819,820,822,823,840,841,847,848,849,855,856,857,871,872,873,887,888,889,919,920,921,927,928,929,943,944,945,951,952,953,959,960,961,1029,1030,1031,1037,1038,1044,1045,1051,1052,1068,1069,1084,1085,1099,1100,1101,1107,1108,1109,1123,1124,1125,1131,1132,1133,1139,1140,1141,1165,1166,1172,1177,1178,1184,1185,1191,1192,1193,1207,1208,1209,1215,1216,1217,1226,1227,1242,1243,1249,1250,1256,1257,1258,1264,1265,1271,1272,1273,1279,1280,1286,1287,1293,1294,1296,1297,1305,1306,1310,1311,1317,1318,1324,1325,1331,1332,1336,1337,1343,1344,1350,1351,1357,1358,1364,1365,1371,1372,1376,1377,1381,1382]
noncomputable def N3:List (Params→List Obj):=[hf0,hf1,hf2,hf3,hf4,hf5,hf6,hf7,hf8,hf9,MM,ML,MK,MJ,MI,MH,MG,MF,ME,MD,MC,MB,MA,Mz]
noncomputable def hat (P:Params) (a:Addr):Obj:=(((N3[a/60]?).getD fun _=>[]) P)[a%60]?.getD default
noncomputable def K (P:Params):Frag:=Kas.map fun a=>(a,hat P a)
noncomputable abbrev eg:OpenRow:=PySem.Challenge.rw_ll0030_01.row
noncomputable abbrev fP:ClaimW:=eg.toRowW.claim
section
open PySem.W.X
noncomputable def ev:List Obj→List Obj
 |[]=>[]
 |[a]=>[a]
 |a::_::l=>a::ev l
noncomputable def bt:Nat→List Obj→BT
 |0,_=>.nil
 |_,[]=>.nil
 |k+1,x::xs=>.node x (bt k (ev xs)) (bt k (ev xs.tail))
noncomputable abbrev uZ:List PySem.Stmt:=behindTheImports pw
noncomputable def j6:Env:={scope:=pw.main.scope,locals:=mainNs,globals:=mainNs,cells:=[],code:=.ref 41,frame:=some 42}
noncomputable abbrev aj:Code:=.body uZ j6
noncomputable abbrev q0:Pos:=⟨0,0,0,0⟩
noncomputable def zeA (P:Params):List DictEntry:=[ze P "impor\x74.loaded._struct" 188 zT,ent P (zJ ["class._frozen_importlib_extern","al._LoaderBasics"]) 193 (zr 16),ze P "watched.impor\x74" 209 (zr 20),ent P (zJ ["class._frozen_importlib_extern","al.FileLoader"]) 210 (zr 22),ent P (zJ ["class._frozen_importlib_extern","al.ExtensionFileLoader"]) 231 (zr 27),ze P "class._frozen_importlib.ModuleSpec" 259 (zr 33),ze P "sys.modules.booked-epoch" 288 (zi 3),ze P "class.struct.error" 305 (zt "struct.error"),ze P "impor\x74.later-laid._struct" 307 zT,ze P "watched.library" 309 (zr 38),ze P "watched.library-objects" 0 (zs "\x0d" 0)]
noncomputable def zeB (P:Params):List DictEntry:=[ze P "__name__" 165 (zs "__main__" 164),ze P "__doc__" 166 zN,ze P "__package__" 167 zN,ze P "__loader__" 168 (zu "__main__.__loader__#opaque"),ze P "__spec__" 169 zN,ze P "__annotations__" 170 (zr 6),ze P "__builtins__" 171 (zr 4),ze P "__file__" 173 (zs "/claim/cut.py" 172),ze P "__cached__" 174 zN,ze P "Struct" 315 (zt "_struct.Struct"),ze P "calcsize" 318 (zu "_struct.calcsize"),ze P "pack_into" 321 (zu "_struct.pack_into"),ze P "unpack_from" 324 (zu "_struct.unpack_from")]
noncomputable def zeC (P:Params):List DictEntry:=[ze P "__doc__" 166 zN,ze P "__package__" 167 zN,ze P "__loader__" 168 (zu "__main__.__loader__#opaque"),ze P "__spec__" 169 zN,ze P "__annotations__" 170 (zr 6),ze P "__builtins__" 171 (zr 4),ze P "__file__" 173 (zs "/claim/cut.py" 172),ze P "__cached__" 174 zN,ze P "Struct" 315 (zt "_struct.Struct"),ze P "calcsize" 318 (zu "_struct.calcsize"),ze P "pack_into" 321 (zu "_struct.pack_into"),ze P "unpack_from" 324 (zu "_struct.unpack_from"),ze P "_wall" 337 (zr 49),ze P "CorruptRecordError" 359 (zr 59),ze P "UnsupportedCodecError" 379 (zr 72),ze P "has_gzip" 385 (zr 82),ze P "_pull" 394 (zr 89),ze P "_same" 402 (zr 96),ze P "groupby" 493 (zr 137),ze P "_grouper" 547 (zr 182),ze P "gzip_encode" 555 (zr 192),ze P "gzip_decode" 561 (zr 197),ze P "ABCMeta" 587 (zr 214),ze P "ABC" 604 (zr 228),ze P "ABCRecord" 633 (zr 247),ze P "ABCRecordBatchBuilder" 689 (zr 284),ze P "ABCRecordBatch" 723 (zr 306),ze P "ABCRecords" 777 (zr 349),ze P "CRC_TABLE" 1044 (zr 355),ze P "CRC_INIT" 1046 (zj 0 1045),ze P "_MASK" 1048 (zj 4294967295 1047),ze P "crc_update" 1060 (zr 363),ze P "crc_finalize" 1067 (zr 370),ze P "crc" 1074 (zr 377),ze P "decode_varint" 1088 (zr 385),ze P "_crc32c" 1089 (zr 377),ze P "calc_crc32c" 1097 (zr 393),ze P "_buffer" 1107 (zr 400),ze P "crc32" 1119 (zr 408),ze P "calc_crc32" 1129 (zr 415),ze P "LegacyRecordBase" 1210 (zr 434),ze P "LegacyRecordBatch" 1380 (zr 544),ze P "LegacyRecord" 1506 (zr 649),ze P "LegacyRecordBatchBuilder" 1676 (zr 743),ze P "LegacyRecordMetadata" 1750 (zr 801)]
noncomputable def trE (P:Params):BT:=((((bt 12 ((qo P).take 39)).set 2 fun _=>⟨.none,none,(.dict (zeA P).toArray 11),#[]⟩).set 3 fun _=>⟨(zt "dict"),none,(.dict (zeB P).toArray 13),#[]⟩).set 12 fun _=>⟨(zt "dict"),none,(.dict #[ze P "__name__" 290 (zs "_struct" 289),ze P "__doc__" 291 (zu "_struct.__doc__:str#opaque"),ze P "__package__" 293 (zs "" 292),ze P "__loader__" 294 (zr 29),ze P "__spec__" 295 (zr 37),ze P "_clearcache" 296 (zu "_struct._clearcache"),ze P "calcsize" 297 (zu "_struct.calcsize"),ze P "iter_unpack" 298 (zu "_struct.iter_unpack"),ze P "pack" 299 (zu "_struct.pack"),ze P "pack_into" 300 (zu "_struct.pack_into"),ze P "unpack" 301 (zu "_struct.unpack"),ze P "unpack_from" 302 (zu "_struct.unpack_from"),ze P "__file__" 303 (.str (zJ ["/nix/store/wj1f56qky4pmjc7l0r6","b6l7whnnw7hp6-python3-3.13.15/","lib/python3.13/lib-dynload/_st","ruct.cpython-313-x86_64-linux-","gnu.so"]) 189),ze P "Struct" 304 (zt "_struct.Struct"),ze P "error" 306 (zt "struct.error")] 15),#[]⟩)
noncomputable def XE (w:World) (os:OsState):SharedT:=⟨trE w.params,39,{},#[],{},325,os⟩
noncomputable def trS (P:Params):BT:=(((bt 12 ((qo P).take 39)).set 2 fun _=>⟨.none,none,(.dict (zeA P).toArray 11),#[]⟩).set 3 fun _=>⟨(zt "dict"),none,(.dict (zeB P).toArray 13),#[]⟩)
noncomputable def XS (w:World) (os:OsState):SharedT:=⟨trS w.params,39,{},#[],{},325,os⟩
noncomputable def tr0 (P:Params):BT:=((((bt 12 ((qo P).take 43)).set 2 fun _=>⟨.none,none,(.dict (zeA P).toArray 11),#[]⟩).set 3 fun _=>⟨(zt "dict"),none,(.dict (zeB P).toArray 13),#[]⟩).set 40 fun _=>⟨.none,none,(.fields #[]),#[]⟩)
noncomputable def X0 (w:World) (os:OsState):SharedT:=⟨tr0 w.params,43,{},#[],{},331,os⟩
noncomputable abbrev LN:Pos:=⟨0,0,0,0⟩
noncomputable def tr1 (P:Params):BT:=(((((((bt 12 ((qo P).take 312)).set 3 fun _=>⟨(zt "dict"),none,(.dict (ze P "__name__" 165 (zs "kafka.record.abc" 605)::(zeC P).take 27).toArray 28),#[]⟩).set 40 fun _=>⟨.none,none,(.fields #[(zi 2),(zi 0),(zr 48),(zi 6),(zi 0),(zr 55),(zi 8),(zi 0),(zr 68),(zi 10),(zi 0),(zr 81),(zi 13),(zi 0),(zr 88),(zi 18),(zi 0),(zr 95),(zi 24),(zi 0),(zr 102),(zi 68),(zi 0),(zr 155),(zi 98),(zi 0),(zr 191),(zi 100),(zi 0),(zr 196),(zi 103),(zi 0),(zr 203),(zi 107),(zi 0),(zr 222),(zi 110),(zi 0),(zr 236),(zi 115),(zi 0),(zr 258),(zi 126),(zi 0),(zr 295)]),#[]⟩).set 228 fun _=>⟨(zr 214),none,(.cls {name:=(S "ABC"),bases:=[(zt "object")],mro:=[(zr 228),(zt "object")],ns:=227,qualname:=(S "ABC"),hasDict:=false,slotNames:=[],subclasses:=[(zr 247),(zr 284),(zr 306)],abstract:=false,collection:=none,hasDel:=false}),#[none,none,(some (zs "ABC" 588)),(some (zs "ABC" 596)),(some (zu "object.__new__")),(some zF)]⟩).set 247 fun _=>⟨(zr 214),none,(.cls {name:=(S "ABCRecord"),bases:=[(zr 228)],mro:=[(zr 247),(zr 228),(zt "object")],ns:=246,qualname:=(S "ABCRecord"),hasDict:=true,slotNames:=[],subclasses:=[],abstract:=true,collection:=none,hasDel:=false}),#[(some (zr 231)),none,(some (zs "ABCRecord" 607)),(some (zs "ABCRecord" 615)),(some (zu "object.__new__")),(some zT)]⟩).set 284 fun _=>⟨(zr 214),none,(.cls {name:=(S "ABCRecordBatchBuilder"),bases:=[(zr 228)],mro:=[(zr 284),(zr 228),(zt "object")],ns:=283,qualname:=(S "ABCRecordBatchBuilder"),hasDict:=true,slotNames:=[],subclasses:=[],abstract:=true,collection:=none,hasDel:=false}),#[(some (zr 253)),none,(some (zs "ABCRecordBatchBuilder" 639)),(some (zs "ABCRecordBatchBuilder" 647)),(some (zu "object.__new__")),(some zT)]⟩).set 306 fun _=>⟨(zr 214),none,(.cls {name:=(S "ABCRecordBatch"),bases:=[(zr 228)],mro:=[(zr 306),(zr 228),(zt "object")],ns:=305,qualname:=(S "ABCRecordBatch"),hasDict:=true,slotNames:=[],subclasses:=[],abstract:=true,collection:=none,hasDel:=false}),#[(some (zr 290)),none,(some (zs "ABCRecordBatch" 697)),(some (zs "ABCRecordBatch" 705)),(some (zu "object.__new__")),(some zT)]⟩)
noncomputable def X1 (w:World) (os:OsState):SharedT:=⟨tr1 w.params,312,{},#[],{},729,os⟩
noncomputable abbrev LM:Pos:=⟨130,0,130,34⟩
noncomputable def tr2 (P:Params):BT:=((((((((bt 12 ((qo P).take 547)).set 3 fun _=>⟨(zt "dict"),none,(.dict (ze P "__name__" 165 (zs "kafka.record.legacy_records" 1130)::(zeC P).take 42).toArray 43),#[]⟩).set 40 fun _=>⟨.none,none,(.fields #[(zi 2),(zi 0),(zr 48),(zi 6),(zi 0),(zr 55),(zi 8),(zi 0),(zr 68),(zi 10),(zi 0),(zr 81),(zi 13),(zi 0),(zr 88),(zi 18),(zi 0),(zr 95),(zi 24),(zi 0),(zr 102),(zi 68),(zi 0),(zr 155),(zi 98),(zi 0),(zr 191),(zi 100),(zi 0),(zr 196),(zi 103),(zi 0),(zr 203),(zi 107),(zi 0),(zr 222),(zi 110),(zi 0),(zr 236),(zi 115),(zi 0),(zr 258),(zi 126),(zi 0),(zr 295),(zi 131),(zi 0),(zr 317),(zi 149),(zi 0),(zr 362),(zi 158),(zi 0),(zr 369),(zi 160),(zi 0),(zr 376),(zi 163),(zi 0),(zr 384),(zi 182),(zi 0),(zr 392),(zi 185),(zi 0),(zr 399),(zi 192),(zi 0),(zr 407),(zi 206),(zi 0),(zr 414),(zi 210),(zi 0),(zr 421),(zi 237),(zi 0),(zr 444)]),#[]⟩).set 247 fun _=>⟨(zr 214),none,(.cls {name:=(S "ABCRecord"),bases:=[(zr 228)],mro:=[(zr 247),(zr 228),(zt "object")],ns:=246,qualname:=(S "ABCRecord"),hasDict:=true,slotNames:=[],subclasses:=[],abstract:=true,collection:=none,hasDel:=false}),#[(some (zr 231)),none,(some (zs "ABCRecord" 607)),(some (zs "ABCRecord" 615)),(some (zu "object.__new__")),(some zT)]⟩).set 284 fun _=>⟨(zr 214),none,(.cls {name:=(S "ABCRecordBatchBuilder"),bases:=[(zr 228)],mro:=[(zr 284),(zr 228),(zt "object")],ns:=283,qualname:=(S "ABCRecordBatchBuilder"),hasDict:=true,slotNames:=[],subclasses:=[],abstract:=true,collection:=none,hasDel:=false}),#[(some (zr 253)),none,(some (zs "ABCRecordBatchBuilder" 639)),(some (zs "ABCRecordBatchBuilder" 647)),(some (zu "object.__new__")),(some zT)]⟩).set 306 fun _=>⟨(zr 214),none,(.cls {name:=(S "ABCRecordBatch"),bases:=[(zr 228)],mro:=[(zr 306),(zr 228),(zt "object")],ns:=305,qualname:=(S "ABCRecordBatch"),hasDict:=true,slotNames:=[],subclasses:=[(zr 544)],abstract:=true,collection:=none,hasDel:=false}),#[(some (zr 290)),none,(some (zs "ABCRecordBatch" 697)),(some (zs "ABCRecordBatch" 705)),(some (zu "object.__new__")),(some zT)]⟩).set 349 fun _=>⟨(zr 214),none,(.cls {name:=(S "ABCRecords"),bases:=[(zr 228)],mro:=[(zr 349),(zr 228),(zt "object")],ns:=348,qualname:=(S "ABCRecords"),hasDict:=true,slotNames:=[],subclasses:=[],abstract:=true,collection:=none,hasDel:=false}),#[(some (zr 312)),none,(some (zs "ABCRecords" 729)),(some (zs "ABCRecords" 737)),(some (zu "object.__new__")),(some zT)]⟩).set 434 fun _=>⟨(zt "type"),none,(.cls {name:=(S "LegacyRecordBase"),bases:=[(zt "object")],mro:=[(zr 434),(zt "object")],ns:=433,qualname:=(S "LegacyRecordBase"),hasDict:=true,slotNames:=[],subclasses:=[(zr 544)],abstract:=false,collection:=none,hasDel:=false}),#[none,none,(some (zs "LegacyRecordBase" 1132)),(some (zs "LegacyRecordBase" 1140)),(some (zu "object.__new__")),(some zT)]⟩)
noncomputable def X2 (w:World) (os:OsState):SharedT:=⟨tr2 w.params,547,{},#[],{},1381,os⟩
noncomputable abbrev LL:Pos:=⟨237,0,365,124⟩
noncomputable def tr3 (P:Params):BT:=((((((bt 12 ((qo P).take 806)).set 3 fun _=>⟨(zt "dict"),none,(.dict (ze P "__name__" 165 (zs "kafka.record.default_records" 1751)::zeC P).toArray 46),#[]⟩).set 40 fun _=>⟨.none,none,(.fields #[(zi 2),(zi 0),(zr 48),(zi 6),(zi 0),(zr 55),(zi 8),(zi 0),(zr 68),(zi 10),(zi 0),(zr 81),(zi 13),(zi 0),(zr 88),(zi 18),(zi 0),(zr 95),(zi 24),(zi 0),(zr 102),(zi 68),(zi 0),(zr 155),(zi 98),(zi 0),(zr 191),(zi 100),(zi 0),(zr 196),(zi 103),(zi 0),(zr 203),(zi 107),(zi 0),(zr 222),(zi 110),(zi 0),(zr 236),(zi 115),(zi 0),(zr 258),(zi 126),(zi 0),(zr 295),(zi 131),(zi 0),(zr 317),(zi 149),(zi 0),(zr 362),(zi 158),(zi 0),(zr 369),(zi 160),(zi 0),(zr 376),(zi 163),(zi 0),(zr 384),(zi 182),(zi 0),(zr 392),(zi 185),(zi 0),(zr 399),(zi 192),(zi 0),(zr 407),(zi 206),(zi 0),(zr 414),(zi 210),(zi 0),(zr 421),(zi 237),(zi 0),(zr 444),(zi 366),(zi 0),(zr 552),(zi 420),(zi 0),(zr 657),(zi 531),(zi 0),(zr 751)]),#[]⟩).set 247 fun _=>⟨(zr 214),none,(.cls {name:=(S "ABCRecord"),bases:=[(zr 228)],mro:=[(zr 247),(zr 228),(zt "object")],ns:=246,qualname:=(S "ABCRecord"),hasDict:=true,slotNames:=[],subclasses:=[(zr 649)],abstract:=true,collection:=none,hasDel:=false}),#[(some (zr 231)),none,(some (zs "ABCRecord" 607)),(some (zs "ABCRecord" 615)),(some (zu "object.__new__")),(some zT)]⟩).set 306 fun _=>⟨(zr 214),none,(.cls {name:=(S "ABCRecordBatch"),bases:=[(zr 228)],mro:=[(zr 306),(zr 228),(zt "object")],ns:=305,qualname:=(S "ABCRecordBatch"),hasDict:=true,slotNames:=[],subclasses:=[(zr 544)],abstract:=true,collection:=none,hasDel:=false}),#[(some (zr 290)),none,(some (zs "ABCRecordBatch" 697)),(some (zs "ABCRecordBatch" 705)),(some (zu "object.__new__")),(some zT)]⟩).set 349 fun _=>⟨(zr 214),none,(.cls {name:=(S "ABCRecords"),bases:=[(zr 228)],mro:=[(zr 349),(zr 228),(zt "object")],ns:=348,qualname:=(S "ABCRecords"),hasDict:=true,slotNames:=[],subclasses:=[],abstract:=true,collection:=none,hasDel:=false}),#[(some (zr 312)),none,(some (zs "ABCRecords" 729)),(some (zs "ABCRecords" 737)),(some (zu "object.__new__")),(some zT)]⟩)
noncomputable def X3 (w:World) (os:OsState):SharedT:=⟨tr3 w.params,806,{},#[],{},1753,os⟩
noncomputable abbrev LK:Pos:=⟨557,0,557,8⟩
noncomputable def tr4 (P:Params):BT:=(((((bt 12 ((qo P).take 1072)).set 3 fun _=>⟨(zt "dict"),none,(.dict (ze P "__name__" 165 (zs "kafka.record.default_records" 1751)::zeC P++[ze P "DefaultRecordBase" 1824 (zr 823),ze P "DefaultRecordBatch" 2108 (zr 1069)]).toArray 48),#[]⟩).set 40 fun _=>⟨.none,none,(.fields #[(zi 2),(zi 0),(zr 48),(zi 6),(zi 0),(zr 55),(zi 8),(zi 0),(zr 68),(zi 10),(zi 0),(zr 81),(zi 13),(zi 0),(zr 88),(zi 18),(zi 0),(zr 95),(zi 24),(zi 0),(zr 102),(zi 68),(zi 0),(zr 155),(zi 98),(zi 0),(zr 191),(zi 100),(zi 0),(zr 196),(zi 103),(zi 0),(zr 203),(zi 107),(zi 0),(zr 222),(zi 110),(zi 0),(zr 236),(zi 115),(zi 0),(zr 258),(zi 126),(zi 0),(zr 295),(zi 131),(zi 0),(zr 317),(zi 149),(zi 0),(zr 362),(zi 158),(zi 0),(zr 369),(zi 160),(zi 0),(zr 376),(zi 163),(zi 0),(zr 384),(zi 182),(zi 0),(zr 392),(zi 185),(zi 0),(zr 399),(zi 192),(zi 0),(zr 407),(zi 206),(zi 0),(zr 414),(zi 210),(zi 0),(zr 421),(zi 237),(zi 0),(zr 444),(zi 366),(zi 0),(zr 552),(zi 420),(zi 0),(zr 657),(zi 531),(zi 0),(zr 751),(zi 558),(zi 0),(zr 811),(zi 585),(zi 0),(zr 833)]),#[]⟩).set 247 fun _=>⟨(zr 214),none,(.cls {name:=(S "ABCRecord"),bases:=[(zr 228)],mro:=[(zr 247),(zr 228),(zt "object")],ns:=246,qualname:=(S "ABCRecord"),hasDict:=true,slotNames:=[],subclasses:=[(zr 649)],abstract:=true,collection:=none,hasDel:=false}),#[(some (zr 231)),none,(some (zs "ABCRecord" 607)),(some (zs "ABCRecord" 615)),(some (zu "object.__new__")),(some zT)]⟩).set 349 fun _=>⟨(zr 214),none,(.cls {name:=(S "ABCRecords"),bases:=[(zr 228)],mro:=[(zr 349),(zr 228),(zt "object")],ns:=348,qualname:=(S "ABCRecords"),hasDict:=true,slotNames:=[],subclasses:=[],abstract:=true,collection:=none,hasDel:=false}),#[(some (zr 312)),none,(some (zs "ABCRecords" 729)),(some (zs "ABCRecords" 737)),(some (zu "object.__new__")),(some zT)]⟩)
noncomputable def X4 (w:World) (os:OsState):SharedT:=⟨tr4 w.params,1072,{},#[],{},2109,os⟩
noncomputable abbrev LJ:Pos:=⟨585,0,773,418⟩
noncomputable def tr5 (P:Params):BT:=(bt 12 ((qo P).take 1383))
noncomputable def X5 (w:World) (os:OsState):SharedT:=⟨tr5 w.params,1383,{},#[],{},2538,os⟩
noncomputable abbrev LH:Pos:=⟨1000,0,1056,15⟩
noncomputable def Ly:List PySem.Stmt:=(uZ.drop 0).take 23
noncomputable def Lx:List PySem.Stmt:=(uZ.drop 23).take 21
noncomputable def Lw:List PySem.Stmt:=(uZ.drop 44).take 4
noncomputable def Lv:List PySem.Stmt:=(uZ.drop 48).take 2
noncomputable def Lu:List PySem.Stmt:=(uZ.drop 50).take 18
theorem JY (w:World):(fun os=>topGo treeTable pw w 39 (some (.ref 6)) 12 (XS w os).abs (topStub pw))=fun os=>some ((X0 w os).abs,⟨denote treeTable aj,aj,q0,[topFrame q0]⟩):=by kernel_rfl
noncomputable abbrev osE:OsState:=(start (opening pw)).1.os
theorem KA (w:World):(importEnds treeTable (opening pw) w 1200 (start (opening pw)).1 (start (opening pw)).2).map (fun s=>(s.heap.objs.toList,s.heap.life,s.gens,s.drawn,s.toks))=some ((trE w.params).list 39,{},#[],{},325):=by
 rw [Fast.te10274390034422433532,Fast.te14364793385576792824,Fast.te1435165496053646825];kernel_rfl
theorem DQ (w:World) (os:OsState):fenceModules? pw (XE w os).abs=some (XS w os).abs:=by kernel_rfl
theorem FJ (w:World):(fencedOpening treeTable pw w 28810).map (fun s=>(s.heap,s.gens,s.drawn,s.toks))=some (absHeap (trS w.params) 39 {},#[],{},325):=by
 obtain ⟨s,h,e⟩:=Option.map_eq_some_iff.mp (KA w);have h:importEnds treeTable (opening pw) w 28810 (start (opening pw)).1 (start (opening pw)).2=some s:=importEnds_mono 27610 _ _ _ _ h
 have e:s=(XE w s.os).abs:=by
  obtain ⟨⟨⟨objs⟩,life⟩,gens,drawn,toks,os⟩:=s;simp only [Prod.mk.injEq] at e;obtain ⟨e1,e2,e3,e4,e5⟩:=e;subst e1 e2 e3 e4 e5
  rfl
 unfold fencedOpening;rw [h]
 show (fenceModules? pw s).map _=_
 rw [e,DQ]
 rfl
theorem EN (w:World):(fun os=>segRun treeTable pw w 39 (some (.ref 6)) 1 1 (X0 w os).abs (blockOf uZ j6 aj q0 [topFrame q0]))=fun os=>some (.next,(X0 w os).abs,aj,LN):=by kernel_rfl
theorem J3 (w:World):(fun os=>segRunT treeTable pw w 39 (some (.ref 6)) 1 2946 (X0 w os) (piecesOf Ly j6 aj LN [topFrame q0]))=fun os=>some (.next,X1 w os,aj,LM):=by rw [Fast.te10110043849684766642,Fast.te14364793385576792824];kernel_rfl
theorem J2 (w:World):(fun os=>segRunT treeTable pw w 39 (some (.ref 6)) 1 2664 (X1 w os) (piecesOf Lx j6 aj LM [topFrame q0]))=fun os=>some (.next,X2 w os,aj,LL):=by rw [Fast.te10110043849684766642,Fast.te14364793385576792824];kernel_rfl
theorem J1 (w:World):(fun os=>segRunT treeTable pw w 39 (some (.ref 6)) 1 2857 (X2 w os) (piecesOf Lw j6 aj LL [topFrame q0]))=fun os=>some (.next,X3 w os,aj,LK):=by rw [Fast.te10110043849684766642,Fast.te14364793385576792824];kernel_rfl
theorem J0 (w:World):(fun os=>segRunT treeTable pw w 39 (some (.ref 6)) 1 2954 (X3 w os) (piecesOf Lv j6 aj LK [topFrame q0]))=fun os=>some (.next,X4 w os,aj,LJ):=by rw [Fast.te10110043849684766642,Fast.te14364793385576792824];kernel_rfl
theorem JZ (w:World):(fun os=>segRunT treeTable pw w 39 (some (.ref 6)) 1 2926 (X4 w os) (piecesOf Lu j6 aj LJ [topFrame q0]))=fun os=>some (.next,X5 w os,aj,LH):=by rw [Fast.te10110043849684766642,Fast.te14364793385576792824];kernel_rfl
theorem KI (w:World):(fun os=>topRun treeTable pw w 39 (some (.ref 6)) 2 (X5 w os).abs ⟨doneF .next,aj,LH,[topFrame q0]⟩)=fun os=>some (X5 w os).abs:=by kernel_rfl
end
section
open PySem.W.X
theorem Fi:uZ=Ly++(Lx++(Lw++(Lv++(Lu++[])))):=by kernel_rfl
noncomputable def Ls:Nat:=12+(1+(2946+(2664+(2857+(2954+(2926+2))))))
theorem JS (w:World) (os:OsState):topRun treeTable pw w 39 (some (.ref 6)) Ls (XS w os).abs (topStub pw)=some (X5 w os).abs:=by
 have h:=piece_app (rest:=[]) (segRun_of (congrFun (JZ w) os)) (piece_nil (congrFun (KI w) os));have h:=piece_app (segRun_of (congrFun (J0 w) os)) h;have h:=piece_app (segRun_of (congrFun (J1 w) os)) h;have h:=piece_app (segRun_of (congrFun (J2 w) os)) h;have h:=piece_app (segRun_of (congrFun (J3 w) os)) h;rw [← Fi] at h;exact go_top (congrFun (JY w) os) (piece_block (congrFun (EN w) os) h)
noncomputable abbrev zvq:Program:=view pw [0,1,3,4,5,7,8,9,10,12,13,15,16,18,20,22,24,27,28,29,31,32,35,38,41,43,44,45,46,47,49,50,51,52,54,56,57,58,59,60,61,62,63,64,65,66,67,68]
noncomputable abbrev zvl:List Str:=[S "groupby",S "_grouper",S "ABC",S "ABCRecordBatchBuilder",S "crc_update",S "decode_varint",S "_crc32c",S "calc_crc32c",S "crc32",S "LegacyRecordBase",S "LegacyRecordBatch",S "LegacyRecord",S "LegacyRecordBatchBuilder",S "LegacyRecordMetadata",S "DefaultRecordBase",S "DefaultRecordBatch",S "DefaultRecord",S "ControlRecord",S "MemoryRecords"]
noncomputable abbrev fy:Hook:=kHook Mine.K Mine.Kas (fun _=>by kernel_rfl)
noncomputable def Dl (s:Shared):Bool:=xlAt zvq [] s&&recOk (RowW.records eg.toRowW) s
theorem Fq (w:World):((absHeap (trS w.params) 39 {}).isNs mainGlobals&&(#[]:Array GenState).size==0,(absHeap (trS w.params) 39 {}).objs.size,(absHeap (trS w.params) 39 {}).nsMap mainGlobals "__annotations__")=(true,39,some (.ref 6)):=by kernel_rfl
theorem Rs {α β:Type} {a c d:Bool} {o o':α} {v v':β} (h1:a=true) (h2:b=true) (h3:c=true) (h4:d=true) (h5:o=o') (h6:v=v'):((a&&b&&c&&d),o,v)=(true,o',v'):=by subst h1 h2 h3 h4 h5 h6;rfl
theorem Ry (w:World):staticsOk (importedModules pw.main.body) (absHeap (trS w.params) 39 {}) (absHeap (tr5 w.params) 1383 {})=true:=by kernel_rfl
theorem Rx (w:World):namesBound pw (absHeap (tr5 w.params) 1383 {})=true:=by kernel_rfl
theorem Rw (w:World) (os:OsState):gensDone (X5 w os).abs=true:=by kernel_rfl
theorem Rv (w:World):laidKept (absHeap (trS w.params) 39 {}) (absHeap (tr5 w.params) 1383 {})=true:=by kernel_rfl
theorem Ru (w:World) (os:OsState):openSeen zvq zvl (importedModules pw.main.body) Dl true (X5 w os).abs=openGood zvq zvl:=by kernel_rfl
theorem Rt (w:World) (os:OsState):fy.obs (X5 w os).abs=fy.val w:=by kernel_rfl
theorem Da (w:World):(fun os=>((staticsOk (importedModules pw.main.body) (absHeap (trS w.params) 39 {}) (absHeap (tr5 w.params) 1383 {})&&namesBound pw (absHeap (tr5 w.params) 1383 {})&&gensDone (X5 w os).abs&&laidKept (absHeap (trS w.params) 39 {}) (absHeap (tr5 w.params) 1383 {})),
  openSeen zvq zvl (importedModules pw.main.body) Dl true (X5 w os).abs,fy.obs (X5 w os).abs))=fun _=>(true,openGood zvq zvl,fy.val w) :=
 funext fun os=>Rs (Ry w) (Rx w) (Rw w os) (Rv w) (Ru w os) (Rt w os)
theorem Gs:LeftO pw zvq zvl Dl fy.obs fy.val 28810:=LeftO.of_pieces (H₀:=fun P=>absHeap (trS P) 39 {}) (H₁:=fun P=>absHeap (tr5 P) 1383 {}) (gs₀:=#[]) (gs₁:=#[]) (d₀:={}) (d₁:={}) (k₀:=325) (k₁:=2538) (M:=Ls) FJ Fq JS (by kernel_rfl) Da
end
theorem wW {k:List (Code×Pos)→Sem PySem.Fin} {c:Code} {p:Pos} (hz:s.asleep):∀ {n o s'},schedN (denote table) prog w n (.single s ⟨.stack k,c,p,[]⟩)=.halted o s'→∃ m,schedN (denote table) prog w m (.single s ⟨k [(c,p)],c,p,[]⟩)=.halted o s'
 |0,_,_,h=>by cases h
 |n+1,o,s',h=>by
  rcases sstep_single (denote table) prog w s ⟨.stack k,c,p,[]⟩ rfl hz with e|e
  ·have e':sstep (denote table) prog w (.single s ⟨.stack k,c,p,[]⟩)=.go (.single s ⟨k [(c,p)],c,p,[]⟩):=e;unfold schedN at h;rw [e'] at h;exact ⟨n,h⟩
  ·cases e
theorem D4 {α β:Type} {P P':Nat→α→β→Prop} {R:α→β→Prop} (k:∀ {n o s},P n o s→∃ m,P' m o s):(∃ n o s,P n o s∧R o s)→∃ n o s,P' n o s∧R o s:=fun ⟨_,o,s,p,r⟩=>(k p).imp fun _ q=>⟨o,s,q,r⟩
theorem qK {c:ClaimW} {k:List Value→List (Code×Pos)→Sem PySem.Fin} {w free gens kept} (z:s.asleep) (h:c.CallFrom (fun vs=>⟨.stack (k vs),.builtin "claim.caller" {},default,[]⟩) w free gens kept s):c.CallFrom (fun vs=>⟨k vs [(.builtin "claim.caller" {},default)],.builtin "claim.caller" {},default,[]⟩) w free gens kept s :=
 fun args a1 a2 ord a3=>(h args a1 a2 ord a3).imp fun vs=>Exists.imp fun s2 q=>⟨q.1,D4 (wW (Shared.asleep_of_life (layAllW_rest _ _ _ q.1).2.2.2 z)) q.2⟩
theorem xf {c:ClaimW} {k:List Value→List (Code×Pos)→Sem PySem.Fin} (h:c.HoldsOpenBy (fun vs=>⟨.stack (k vs),.builtin "claim.caller" {},default,[]⟩) defs keeps writes):c.HoldsOpenBy (fun vs=>⟨k vs [(.builtin "claim.caller" {},default)],.builtin "claim.caller" {},default,[]⟩) defs keeps writes :=
 ⟨h.1,h.2.1,fun w=>⟨(h.2.2 w).1,fun s hs=>((h.2.2 w).2 s hs).imp fun _ q=>⟨q.1,q.2.1,q.2.2.imp fun _ g=>⟨g.1,g.2.1,g.2.2.1,g.2.2.2.1,qK (Shared.asleep_of_life (g.1.2.1.trans (fence_lifeW q.1)) (show AfterImport (opening c.prog) w s from hs).life) g.2.2.2.2⟩⟩⟩⟩
noncomputable def mu (st:List (Code×Pos)):Bool:=st.all fun x=>!dJ x.1
theorem vO {Γ:PySem.Ctx} {p:Pos} (h:mu ((Γ.code,p)::Γ.below)=true):Af Γ:=by
 have h':=List.all_eq_true.mp h;exact ⟨by have:=h' (Γ.code,p) (.head _);simpa using this,fun x hx=>by have:=h' x (.tail _ hx);simpa using this⟩
noncomputable def Ac (f:Value) (vs:List Value):Sem Value:=.stack fun st=>if mu st=true then PySem.call f vs else pure (.bool true)
theorem Bn (h:wpN M A (PySem.call f vs) Q E s) (ht:Q (.bool true) s):wpAny M A (Ac f vs) Q E s:=fun Γ p hΓ=>by
 refine (?_:Sem.wp M Γ (if mu ((Γ.code,p)::Γ.below)=true then PySem.call f vs else pure (.bool true)) _ _ p s)
 by_cases hb:mu ((Γ.code,p)::Γ.below)=true
 ·rw [if_pos hb];exact h Γ p hΓ (vO hb)
 ·rw [if_neg hb];exact ht
theorem Hy (h:wpAny M A (Ac f vs) Q E s):wpN M A (PySem.call f vs) Q E s:=fun Γ p hΓ hN=>by
 have z:Sem.wp M Γ (if mu ((Γ.code,p)::Γ.below)=true then PySem.call f vs else pure (.bool true)) (fun a _ s'=>Q a s') (fun e _ s'=>E e s') p s:=h Γ p hΓ
 have hb:mu ((Γ.code,p)::Γ.below)=true:=List.all_eq_true.mpr fun x hx=>by
  rcases List.mem_cons.mp hx with rfl|hx
  ·rw [hN.1];rfl
  ·rw [hN.2 x hx];rfl
 rw [if_pos hb] at z;exact z
noncomputable def pH (name:Str) (vs:List Value) (st:List (Code×Pos)):Sem PySem.Fin:=if mu st=true then (do match ← nsGet mainNs name with
   |some f=>do ret (← PySem.call f vs)
   |none=>unsupported "claim.caller:no-such-global") else pure (.done (.ret (.bool true)))
theorem Aj {mg:Str→Option Value} (hg:s.heap.Ns mainGlobals mg) (hf:mg name=some f) (h:wpAny (model prog w) A (Ac f vs) (fun v s'=>Q (.done (.ret v)) s') E s) :
  wpAny (model prog w) A (.stack (pH name vs)) Q E s:=fun Γ p hΓ=>by
 have z:Sem.wp (model prog w) Γ (if mu ((Γ.code,p)::Γ.below)=true then PySem.call f vs else pure (.bool true)) (fun v _ s'=>Q (.done (.ret v)) s') (fun e _ s'=>E e s') p s:=h Γ p hΓ;refine (?_:Sem.wp (model prog w) Γ (pH name vs ((Γ.code,p)::Γ.below)) _ _ p s);unfold pH
 by_cases hb:mu ((Γ.code,p)::Γ.below)=true
 ·rw [if_pos hb]
  have g:wpN (model prog w) A (do match ← nsGet mainNs name with
   |some f=>do ret (← PySem.call f vs)
   |none=>unsupported "claim.caller:no-such-global") Q E s:=Pi (wpAny_nsGet hg (by rw [hf];exact bh (jd (Hy h) (fun _ _ x=>a9 x) fun _ _ x=>x)))
  exact g Γ p hΓ (vO hb)
 ·rw [if_neg hb] at z ⊢;exact z
theorem wR:(fun vs=>(⟨pH name vs [(.builtin "claim.caller" {},default)],.builtin "claim.caller" {},default,[]⟩:Thread))=callStub name:=by
 funext vs
 unfold callStub pH;rw [if_pos (by decide +kernel)]
 rfl
abbrev Lj (q:Program) (loose:List Str) (XP:(Str→Option Value)→Heap→Prop) (YP:World→Heap→Prop) (r:RowW) (d:DefRec) (kwd:List (Str×PySem.Expr)):Prop :=
 ∀ (w:World) (s0 sA:Shared) (mg mb:Str→Option Value),Ground q loose r.records XP w s0 mg mb sA.heap→YP w sA.heap→∀ (a:Addr) (o:Obj) (pm cd doc dV kV:Value),sA.heap.get? a=some o →
  o.data=.func {docDef d.name d.params d.body d.scope pm cd doc with defaults:=dV,kwdefaults:=kV}→sA.heap.CodeRec cd d.name→Dflts mg sA.heap d.params kwd dV kV→mg d.name=some (.ref a)→sA.gens=#[] →
  ∀ (args:List WData) (vals:List Value) (as:List Addr),r.claim.pre args=true→WData.layableAll args=true→Laid r.records w s0 sA args vals as →
   GoodWG r.claim (classAt s0.heap) (ExcName.means s0.heap) args sA (.ok (.ret (.bool true))) sA ∧
   wpN (model r.prog w) callerA (PySem.call (.ref a) vals) (fun v s'=>GoodWG r.claim (classAt s0.heap) (ExcName.means s0.heap) args sA (.ok (.ret v)) s')
    (fun e s'=>GoodWG r.claim (classAt s0.heap) (ExcName.means s0.heap) args sA (.error e) s') sA
theorem Rq {r:OpenRow} {Xt:Shared→Bool} {XP:(Str→Option Value)→Heap→Prop} {α:Type} {Yf:Shared→α} {Ya:World→α} {YP:World→Heap→Prop} {d:DefRec} {kwd:List (Str×PySem.Expr)} {N:Nat}
  (left:LeftO r.prog q loose Xt Yf Ya N) (hY:∀ w s,Yf s=Ya w→YP w s.heap) (hYk:∀ w h h',YP w h→(∀ b o,h.get? b=some o→h'.get? b=some o)→YP w h')
  (hX:∀ s,Xt s=true→XP (s.heap.nsMap mainGlobals) s.heap) (hXk:∀ mg h h',XP mg h→(∀ b o,h.get? b=some o→h'.get? b=some o)→XP mg h')
  (hdef:defOf q r.name=some (d,kwd)) (hp:r.prog.theDef r.name=some (d.params,d.body,d.scope)) (hk:kwWritten? d.params.kwonlyargs d.params.kw_defaults=some kwd) (hRf:∀ s,Xt s=true→RecFacts r.records s.heap) (hwr:(!r.writes||r.records.isEmpty)=true)
  (k1:r.wellSaid=true) (ok:(chainsOk q&&opensWell r.prog&&(frees r.toRowW&&r.within.isEmpty))=true) (hb:r.prog.bare) (hw:r.toRowW.promised)
  (call:Lj q loose XP YP r.toRowW d kwd):r.Holds:=by
 refine ⟨k1,hw,?_⟩
 have z:=xf (c:=r.toRowW.claim) (k:=pH r.name) (defs:=if r.pinned then [r.name] else []) (keeps:=r.keeps) (writes:=r.writes) (open_anyG (r:=r.toRowW) (run:=Ac) (tree:=fun vs=>.stack (pH r.name vs)) left hY hYk hX hXk hRf hwr ok hb hw
  (fun vs w s mg f Q E hg hf h=>Aj hg hf h) (fun w s hg G n hn=>?_) fun w s0 sA mg mb G Y args vs as hpre hlay L low=>?_)
 ·rw [wR] at z;exact z
 ·obtain rfl:n=r.name:=by split at hn<;>simp_all
  exact pinned_of_view hg G hdef hp hk
 ·refine rt (G.fn hdef) fun a o pm cd doc dV kV h1 h2 h3 h4 h5=>?_;have c:=call w s0 sA mg mb G Y a o pm cd doc dV kV h2 h3 h4 h5 (defOf_name hdef▸h1) L.gens args vs as hpre hlay L;exact ⟨.ref a,h1,Bn c.2 c.1⟩
def HQ:Prop:=∀ (w:World) (s0 sA:Shared) (mg mb:Str→Option Value) (a:Addr) (args:List WData) (vals:List Value) (as:List Addr),Laid eg.toRowW.records w s0 sA args vals as→(K w.params).In sA.heap→sA.heap.Ns mainGlobals mg→mg (S "law")=some (.ref a) →
  sA.heap.NoLimit→sA.heap.Ns builtinsNs mb→(∀ x:Str,x≠"__name__"→mb x=bootBuiltins x)→fP.pre args=true →
  GoodWG fP (classAt s0.heap) (ExcName.means s0.heap) args sA (.ok (.ret (.bool true))) sA ∧
  wpN (model eg.prog w) callerA (PySem.call (.ref a) vals) (fun v s'=>GoodWG fP (classAt s0.heap) (ExcName.means s0.heap) args sA (.ok (.ret v)) s')
   (fun e s'=>GoodWG fP (classAt s0.heap) (ExcName.means s0.heap) args sA (.error e) s') sA
section
open PySem.W.X
theorem QZ (hwalk:HQ):PySem.Challenge.rw_ll0030_01.Holds:=by
 w_on;refine holds_law Ft fun said=>?_
 refine Rq (q:=zvq) (loose:=zvl) (Xt:=Dl) (XP:=XL zvq []) (Yf:=fy.obs) (Ya:=fy.val) (YP:=fy.says) (N:=28810) Gs fy.of fy.keeps (fun s e=>xl_of s (Bool.and_eq_true_iff.mp e).1) XL.keeps (by rfl) (by rfl) (by rfl) (fun s e=>recFacts_of (Bool.and_eq_true_iff.mp e).2) (by rfl) (by first|assumption|decide +kernel) (by decide +kernel) ⟨rfl,rfl,rfl,rfl,rfl,by decide +kernel⟩ ?hw ?hc
 case hw=>w_witness2
 case hc =>
  intro w s0 sA mg mb G Y fa o pm cd doc dV kV ho hd hcd hD hmg hg args vals as hpre hlay L;exact hwalk w s0 sA mg mb fa args vals as L (kIn_of Y) G.T.g hmg G.T.nolimit G.T.b G.T.builtins hpre
end
noncomputable def gEs (P:Params):Array DictEntry:=match (K P).lookup 3 with
 |some ⟨_,_,.dict es _,_⟩=>es
 |_=>#[]
theorem KG (P:Params):∃ o n,(K P).lookup 3=some o∧o.data=.dict (gEs P) n:=⟨_,_,rfl,rfl⟩
noncomputable def Fj (es:List DictEntry):Bool:=es.all fun e=>match e.key with|.str _ _=>true|_=>false
theorem DL (P:Params):StrKeys (gEs P):=by
 have h:Fj (gEs P).toList=true:=by kernel_rfl
 intro e he;have:=List.all_eq_true.mp h e (Array.mem_toList_iff.mpr he);revert this
 cases e.key<;>intro q<;>first|exact ⟨_,_,rfl⟩|cases q
noncomputable def uE:List (Str×Value):=[(S "len",.builtin "len"),(S "range",.type "range"),(S "bytes",.type "bytes"),(S "bytearray",.type "bytearray"),(S "isinstance",.builtin "isinstance"),(S "int",.type "int"),(S "bool",.type "bool"),
 (S "zip",.type "zip"),(S "list",.type "list"),(S "StopIteration",.type "StopIteration"),(S "ValueError",.type "ValueError"),(S "IndexError",.type "IndexError"),(S "super",.type "super")]
structure ah (x:Cx):Prop where
 prog:x.prog=pw
 inn:∀ a o,(K x.w.params).lookup a=some o→x.P a=some (o,false)
 lim:∃ o,x.P cStatics=some (o,false)∧∀ h:Heap,h.get? cStatics=some o→h.NoLimit
 blt:∃ o mb,x.P builtinsNs=some (o,false)∧(∀ h:Heap,h.get? builtinsNs=some o→h.Ns builtinsNs mb)∧∀ p∈uE,mb p.1=some p.2
theorem ah.le (b:ah x) (le:x.le x'):ah x' where
 prog:=by rw [le.1.1];exact b.prog
 inn a o e:=by
  have w:x'.w=x.w:=by rw [le.1.1]
  rw [w] at e;exact le.2 _ _ (b.inn a o e)
 lim:=let ⟨o,a,c⟩:=b.lim;⟨o,le.2 _ _ a,c⟩
 blt:=let ⟨o,mb,a,c⟩:=b.blt;⟨o,mb,le.2 _ _ a,c⟩
theorem ah.X (b:ah x) {H O s} (R:az x H O s):(K x.w.params).In s.heap:=fun a o e=>R.hard (b.inn a o e)
theorem ah.ns (b:ah x) {H O s} (R:az x H O s):s.heap.Ns mainGlobals (fun y=>nsFind (gEs x.w.params) y):=by
 refine bj (KG x.w.params) fun o n e d=>?_;exact ⟨o,_,n,R.hard (b.inn _ _ e),d,DL _,fun _=>rfl⟩
theorem ah.glob (b:ah x) {v:Value} (e:∀ P,nsFind (gEs P) y=some v):Nv x y v:=fun H O s R=>⟨_,b.ns R,e _⟩
theorem ah.bltn (b:ah x) {v:Value} (e:∀ P,nsFind (gEs P) y=.none) (m:(y,v)∈uE):Ny x y v:=fun H O s R =>
 let ⟨o,mb,p,q,r⟩:=b.blt;⟨_,mb,b.ns R,e _,q _ (R.hard p),r _ m⟩
noncomputable def A4 (P:Params) (f:Addr):Option Data:=((K P).lookup f).map (·.data)
theorem ah.fn (b:ah x) (e:∀ P,A4 P f=some (.func fd)) (c:∀ P,codeIn (K P) fd.code fd.qualname=true):E1 x f fd:=⟨fun H O s R=>by
 refine al (Option.map_eq_some_iff.mp (e x.w.params)) fun ob q e=>?_;refine ⟨⟨_,b.X R _ _ q,e⟩,?_,codeRec_of (b.X R) (c _)⟩;refine al b.lim fun o a l=>?_;exact l _ (R.hard a)⟩
theorem ah.keep (b:ah x) {v:Value} (e:∀ P,keepIn (K P) v=true):nq x v:=fun H O s R=>by
 exact keeps_K (e x.w.params) s.heap (b.X R)
section
noncomputable def sel {α:Type} (g:Str→Option α) (names:List (Str×NameKind)):List (Str×α):=names.filterMap fun p=>if p.2=.free then (g p.1).map (p.1,·) else .none
section
variable {α:Type} {g:Str→Option α} {n:Str} {k:NameKind} {r names:List (Str×NameKind)} {d:α}
theorem B9 (h:k≠.free):sel g ((n,k)::r)=sel g r:=List.filterMap_cons_none (if_neg h)
theorem tS (h:g n=some d):sel g ((n,.free)::r)=(n,d)::sel g r:=List.filterMap_cons_some ((if_pos rfl).trans (Cg (Option.map (n,·)) h))
theorem w6 {G:Prop} (no:sel g ((n,k)::r)=sel g r→G) (yes:∀ d,k=.free→g n=some d→sel g ((n,k)::r)=(n,d)::sel g r→G):G:=by
 by_cases q:k=.free
 ·subst q
  cases e:g n with
  |none=>exact no (List.filterMap_cons_none ((if_pos rfl).trans (Cg (Option.map (n,·)) e)))
  |some d=>exact yes d rfl e (tS e)
 ·exact no (B9 q)
theorem za (h:(y,d)∈sel g names):(y,NameKind.free)∈names∧g y=some d:=by
 induction names with
 |nil=>exact (List.not_mem_nil h).elim
 |cons p r ih =>
  refine w6 (g:=g) (n:=p.1) (k:=p.2) (r:=r) (fun e=>?_) fun d' q e' e=>?_
  ·exact ⟨.tail _ (ih (e▸h)).1,(ih (e▸h)).2⟩
  ·refine (List.mem_cons.mp (e▸h)).elim (fun z=>?_) fun z=>⟨.tail _ (ih z).1,(ih z).2⟩;obtain ⟨rfl,rfl⟩:=Prod.mk.inj z;exact ⟨q▸.head _,e'⟩
theorem Ca:((sel g names).map (·.1)).Sublist (names.map (·.1)):=by
 induction names with
 |nil=>exact .slnil
 |cons p r ih=>exact w6 (g:=g) (n:=p.1) (k:=p.2) (r:=r) (fun e=>e▸.cons _ ih) fun d' _ _ e=>e▸.cons_cons _ ih
theorem JR (e:g y=some d) (h:names.lookup y=some .free):lk (sel g names) y=some d:=by
 induction names with
 |nil=>exact aS h rfl
 |cons p r ih =>
  rw [List.lookup_cons] at h
  by_cases q:(y==p.1)=true
  ·rw [q] at h;obtain ⟨n,k⟩:=p;obtain rfl:y=n:=beq_iff_eq.mp q;obtain rfl:k=.free:=Option.some.inj h;exact tS e▸bv
  ·rw [Bool.eq_false_iff.mpr q] at h;exact w6 (g:=g) (n:=p.1) (k:=p.2) (r:=r) (fun e=>e▸ih h) fun d' _ _ e=>e▸Po (fun z=>q (by rw [z];exact beq_self_eq_true _)) (ih h)
end
noncomputable def bL (env:Env) (names:List (Str×NameKind)) (acc:List (Str×Addr)):List (Str×Addr):=(sel (fun y=>env.cells.lookup y) names).reverse++acc
noncomputable def uv (env:Env) (names:List (Str×NameKind)):Bool:=names.all fun p=>p.2 != .free||(env.cells.lookup p.1).isSome
theorem rz (env:Env) (names:List (Str×NameKind)):∀ (acc:List (Str×Addr)),uv env names=true →
  (forIn names acc fun (x:Str×NameKind) (cs:List (Str×Addr))=>if (x.2==.free)=true then (do let a ← cellOf env x.1;pure (ForInStep.yield ((x.1,a)::cs))) else pure (ForInStep.yield cs))=(pure (bL env names acc):Sem _):=by
 induction names with
 |nil=>exact fun _ _=>rfl
 |cons p r ih =>
  intro acc h;obtain ⟨n,k⟩:=p;have h:=Bool.and_eq_true_iff.mp (List.all_cons.symm.trans h);rw [List.forIn_cons]
  by_cases q:k=.free
  ·subst q;obtain ⟨a,e⟩:=Option.isSome_iff_exists.mp h.1;have ec:cellOf env n=pure a:=by unfold cellOf;rw [e]
   have z:bL env ((n,.free)::r) acc=bL env r ((n,a)::acc):=by unfold bL;rw [tS e,List.reverse_cons,List.append_assoc];rfl
   rw [z,← ih _ h.2];exact (Cg (·>>=_) (Cg (·>>=_) ec)).trans rfl
  ·have z:bL env ((n,k)::r) acc=bL env r acc:=by unfold bL;rw [B9 q]
   rw [z,← ih _ h.2];exact (Cg (·>>=_) (if_neg fun z=>q (beq_iff_eq.mp z))).trans rfl
theorem c8 (h:uv env scope.names=true):closureFor scope env=pure (bL env scope.names []) :=
 Eq.trans rfl (Cg (fun t=>t>>=fun cs=>pure cs) (rz env scope.names [] h))
theorem yq {names:List (Str×NameKind)} {y b} (h:(y,b)∈bL env names []):env.cells.lookup y=some b:=(za (List.mem_reverse.mp ((List.mem_append.mp h).elim id fun z=>(List.not_mem_nil z).elim))).2
noncomputable def cU (names:List (Str×NameKind)) (loc:Loc):Loc:=sel (lk loc) names
theorem tf {names:List (Str×NameKind)} {y d} (h:lk (cU names loc) y=some d):lk loc y=some d∧(y,NameKind.free)∈names:=(za (De h)).symm
theorem Gq (e:lk loc y=some d) {names:List (Str×NameKind)} (h:names.lookup y=some .free):lk (cU names loc) y=some d:=JR e h
structure dw (env:Env) (scope:Scope):Prop where
 kind:scope.kind=.function
 nocell:∀ y∈scope.names,y.2≠.cell
 loc:∀ y∈scope.names,y.2=.local→scope.names.lookup y.1=some .local
 clos:uv env scope.names=true
 free:∀ y∈scope.names,y.2=.free→scope.names.lookup y.1=some .free∧(env.kindOf y.1=some .cell∨env.kindOf y.1=some .free)
 nd:(scope.names.map (·.1)).Nodup
theorem Pw {names:List (Str×NameKind)} {y b} (nd:(names.map (·.1)).Nodup) (h:(y,NameKind.free)∈names) (e:env.cells.lookup y=some b):(bL env names []).lookup y=some b:=by
 unfold bL;rw [List.append_nil];refine lookup_of_mem_nodup ?_ (List.mem_reverse.mpr ?_)
 ·rw [List.map_reverse];exact List.pairwise_reverse.mpr ((nd.sublist Ca).imp Ne.symm)
 ·exact List.mem_filterMap.mpr ⟨_,h,(if_pos rfl).trans (Cg (Option.map (y,·)) e)⟩
theorem xy {φ:Str→NameKind→NameKind} (l:List (Str×NameKind)):(l.map fun p=>(p.1,φ p.1 p.2)).lookup y=(l.lookup y).map (φ y):=by
 induction l with
 |nil=>rfl
 |cons p r ih =>
  rw [List.map_cons,List.lookup_cons,List.lookup_cons,ih]
  by_cases q:(y==p.1)=true
  ·rw [q,beq_iff_eq.mp q];rfl
  ·rw [Bool.eq_false_iff.mpr q]
theorem ql {names:List (Str×NameKind)} (h:names.lookup y=some .free) :
  (names.map fun (n,k)=>if (k==NameKind.free&&env.scope.kind==.function&&env.kindOf n==some .cell) then (n,NameKind.cell) else (n,k)).lookup y =
   some (if (env.scope.kind==.function&&env.kindOf y==some .cell)=true then .cell else .free):=by
 have e:(fun (x:Str×NameKind)=>match x with|(n,k)=>if (k==NameKind.free&&env.scope.kind==.function&&env.kindOf n==some .cell) then (n,NameKind.cell) else (n,k))=fun p=>(p.1,if (p.2==NameKind.free&&env.scope.kind==.function&&env.kindOf p.1==some .cell)=true then .cell else p.2):=funext fun p=>by
  obtain ⟨n,k⟩:=p;dsimp only
  split<;>rfl
 rw [e,xy (φ:=fun n k=>if (k==NameKind.free&&env.scope.kind==.function&&env.kindOf n==some .cell)=true then .cell else k),h]
 rfl
section
variable {K:D→Own→Prop}
noncomputable abbrev bC (c:Cc) (scope:Scope) (C:Addr) (x':Cx):Cc:=⟨x',c.A,compEnvC scope (bL c.env scope.names []) C c.env,false⟩
theorem Et (h:scope.names.lookup y=some .free):(compEnvC scope (bL c.env scope.names []) C c.env).kindOf y=some (if (c.env.scope.kind==.function&&c.env.kindOf y==some .cell)=true then .cell else .free):=ql h
theorem x8 {H H₀ s0 s O' C m x'} (ok:dw c.env scope) (R:ag c H₀ loc O s0) (le:(outer c s0.heap).le x') (T:az x' H O' s) (leH:H₀≤H) (nC:s.heap.Ns C m) (hH:H C=.none) (hP:x'.P C=.none) (hO:∀ p∈O',p.1≠C) :
  ag (bC c scope C x') H (cU scope.names loc) O' s:=by
 have cell:∀ y b,c.env.cells.lookup y=some b→∃ ob,x'.P b=some ob∧b≠C∧∀ v,s0.heap.IsCell b v→s.heap.IsCell b v:=fun y b e =>
  (jH R (bQ e)).elim fun o z=>z.elim fun b' z=>have z':=le.2 _ _ z
   ⟨_,z',fun q=>aS z' ((Cg x'.P q).trans hP),fun v hv=>gK hv fun o e=>al ((cJ R).hP _ _ _ z) fun o1 e1 k1=>al (T.hP _ _ _ z') fun o2 e2 k2=>⟨o2,e2,k2.data.trans (k1.data.symm.trans (Cg Obj.data (Option.some.inj (e1.symm.trans e))))⟩⟩
 have cl:=fun y b (h:(y,b)∈bL c.env scope.names [])=>yq h;refine ⟨T,⟨⟨m,nC,fun y d e k=>?_⟩,fun y d e k=>?_,fun y b h=>?_⟩,⟨hH,hP,hO,fun y b h=>?_,fun h=>Bool.noConfusion h,fun h=>Bool.noConfusion h⟩⟩
 ·rw [Et (ok.free _ (tf e).2 rfl).1] at k
  split at k<;>cases k
 ·have f:=tf e;exact dR (R.f.cl y d f.1 (ok.free _ f.2 rfl).2) fun cc v p q r=>⟨cc,v,Pw ok.nd f.2 p,dX (cell y cc p) fun _ _ _ w=>w _ q,r.mono leH⟩
 ·exact (R.f.cs y b (bQ (cl y b h))).elim fun v q=>⟨v,dX (cell y b (cl y b h)) fun _ _ _ w=>w _ q⟩
 ·exact dX (cell y b (cl y b h)) fun ob e ne _=>⟨T.dHP _ _ e,ne,fun p hp z=>aS e ((Cg x'.P z).symm.trans (T.dP p hp))⟩
noncomputable def jx (c:Cc) (ts:List PySem.Expr) (loc:Loc) (O:Own) (K:Bool→Own→Prop) (E:Value→Shared→Prop):Prop:=match ts with
 |[]=>K true O
 |t::r=>Tst c t loc O (fun z O₁=>if z=true then jx c r loc O₁ K E else K false O₁) E
theorem u3 (h:Q false s) (ts:List PySem.Expr) :
  wpAny M A (forIn ts false fun c r=>if r=true then do let ok ← PySem.isTrue c env (eval c env);pure (ForInStep.yield ok) else pure (ForInStep.yield r)) Q E s:=by
 induction ts with
 |nil=>exact Wp h
 |cons t r ih =>
  rw [List.forIn_cons];exact Wb (wpAny_ite_false rfl (Wp ih))
theorem rG {ts:List PySem.Expr}:∀ {loc:Loc} {O:Own} {K:Bool→Own→Prop} (h:jx c ts loc O K E) {H s} {Q:Bool→Shared→Prop} (R:ag c H loc O s)
  (q:∀ H' s' b O',K b O'→ag c H' loc O' s'→H≤H'→Q b s'),
  wpAny c.M c.A (forIn ts true fun t r=>if r=true then do let ok ← PySem.isTrue t c.env (eval t c.env);pure (ForInStep.yield ok) else pure (ForInStep.yield r)) Q E s:=by
 induction ts with
 |nil=>exact fun h _ _ _ R q=>Wp (q _ _ _ _ h R (Pr _))
 |cons t r ih =>
  intro loc O K h H s Q R q;rw [List.forIn_cons];refine Wb (wpAny_ite_true rfl (Wb (h H s _ R fun H₁ sA z O₁ h_1 R1 le1=>Wp ?_)))
  cases z with
  |true=>exact ih h_1 R1 fun H' s' b O' k R' le'=>q H' s' b O' k R' (Pt le1 le')
  |false=>exact u3 (q _ _ _ _ h_1 R1 le1) r
end
theorem Cx.le_refl (x:Cx):x.le x:=⟨⟨rfl,Pr _,fun _ _ e=>e⟩,fun _ _ e=>e⟩
theorem Cx.le.trans {y z:Cx} (a:x.le y) (b:y.le z):x.le z:=by
 refine ⟨⟨?_,Pt a.1.2.1 b.1.2.1,fun g st e=>b.1.2.2 _ _ (a.1.2.2 _ _ e)⟩,fun c ob e=>b.2 _ _ (a.2 _ _ e)⟩;rw [b.1.1,a.1.1]
theorem az.addO' (R:az x H O s) {ds vs n} (ho:o=⟨.type "list",.none,.seq (List.toArray vs) n,#[]⟩) (e:s.heap.get? a=some o) (rs:af H vs ds) (hH:H a=.none) (hO:∀ p∈O,p.1≠a) (hP:x.P a=.none):az x H ((a,.list ds)::O) s :=
 R.addO ⟨vs,n,ho▸e,rs⟩ hH hO hP
section
variable {aD aC it:Addr} {acc:List D} {H₀:PM} {O0:Own} {s0:Shared}
structure bV (x:Cx) (aD aC:Addr) (acc:List D) (H:PM) (O:Own) (s:Shared):Prop where
 T:az x H ((aD,.list acc)::O) s
 n:∃ m,s.heap.Ns aC m
 hC:H aC=.none
 oC:∀ p∈O,p.1≠aC
structure Ah (c:Cc) (s2:Shared) (aD aC:Addr):Prop where
 ne:aD≠aC
 pD:(outer c s2.heap).P aD=.none
 pC:(outer c s2.heap).P aC=.none
 cp:c.x.P aC=.none
 cl:aC≠c.env.locals
 cs:∀ y z,(y,z)∈c.env.cells→z≠aC
 nw:∀ b o,s2.heap.get? b=some o→aD≠b∧aC≠b
theorem vp {so:SO} (d:aD≠it) (o:∀ p∈O,p.1≠it):∀ p∈(aD,so)::O,p.1≠it:=fun p hp=>(List.mem_cons.mp hp).elim (fun e=>e▸d) (o p)
theorem fX (w:nv c H O it):(outer c s.heap).P it=.none:=jG w.p (fun hm=>by
 refine al (List.mem_map.mp hm) fun q hq e=>?_;exact w.cs q.1 q.2 hq e) w.l
theorem bV.moved (k:bV x aD aC acc H O s) (hit:H it=.none) (pI:x.P it=.none) (oit:∀ p∈O,p.1≠it) (dI:aD≠it) (cI:aC≠it) (kp:∀ b o,b≠it→s.heap.get? b=some o→s'.heap.get? b=some o)
  (hg:s'.gens=s.gens:=by rfl) (ho:s'.os=s.os:=by rfl) (hd:s'.drawn=s.drawn:=by rfl):bV x aD aC acc H O s' :=
 ⟨k.T.keepBut hit pI (vp dI oit) kp hg ho hd,k.n.elim fun m n=>n.elim fun o n=>n.elim fun es n=>n.elim fun ep n=>⟨m,o,es,ep,kp _ _ cI n.1,n.2⟩,k.hC,k.oC⟩
theorem bV.fix (k:bV x aD aC acc H O s) (hit:H it=.none) (oit:∀ p∈O,p.1≠it) (dI:aD≠it) (e:s.heap.get? it=some o):bV (x.fix it o) aD aC acc H O s :=
 ⟨k.T.fix hit (vp dI oit) e,k.n,k.hC,k.oC⟩
theorem bV.unfix (pI:x.P it=.none) (k:bV (x.fix it o) aD aC acc H O s):bV x aD aC acc H O s∧s.heap.get? it=some o∧H it=.none∧∀ p∈O,p.1≠it :=
 have q:=k.T.unfix pI
 ⟨⟨q.1,k.n,k.hC,k.oC⟩,q.2.1,q.2.2.1,fun p hp=>q.2.2.2 p (.tail _ hp)⟩
theorem bV.turn (k:bV x aD aC acc H O s) (ok:dw c.env scope) (R:ag c H₀ loc O0 s0) (lx:(outer c s0.heap).le x) (le:H₀≤H) (pD:x.P aD=.none) (pC:x.P aC=.none) (ne:aD≠aC) :
  ∃ ob,ag (bC c scope aC (x.fix aD ob)) H (cU scope.names loc) O s∧∀ H' O' s' l',ag (bC c scope aC (x.fix aD ob)) H' l' O' s'→H≤H'→bV x aD aC acc H' O' s':=by
 obtain ⟨vs,nn,eD,rsD⟩:=k.T.hO (aD,.list acc) (.head _);have oD:∀ p∈O,p.1≠aD:=fun p hp z=>(List.nodup_cons.mp k.T.nd).1 (z▸List.mem_map_of_mem (f:=(·.1)) hp);have T6:=(k.T.sub (O':=O) (.cons _ (List.Sublist.refl _))).fix (k.T.dH _ (.head _)) oD eD;obtain ⟨m,nC⟩:=k.n;refine ⟨_,x8 ok R (lx.trans (Cx.fix_le pD)) T6 le nC k.hC ((Cx.fix_ne (Ne.symm ne)).trans pC) k.oC,fun H' O' s' l' R' le'=>?_⟩;have q:=R'.t.unfix pD;exact ⟨q.1.addO' rfl q.2.1 (rsD.mono le') q.2.2.1 q.2.2.2 pD,R'.f.ns.elim fun m n=>⟨m,n.1⟩,R'.o.lH,R'.o.lO⟩
theorem yJ {v:Value} (T:az x H ((a,.list ds)::O) s) (rd:ac H v d) (hz:ds.length≤sizeLine)
  (q:∀ h',az x H ((a,.list (ds++[d]))::O) {s with heap:=h'}→Heap.SameBut a s.heap h'→Q .none {s with heap:=h'}):wpAny (model x.prog x.w) A (call (.builtin "list.append") [.ref a,v]) Q E s:=by
 obtain ⟨vs,n,e,rs⟩:=T.hO (a,.list ds) (.head _);refine wpAny_list_append_plain (hsz:=by rw [List.size_toArray,rs.length];exact hz) (⟨n,e⟩:s.heap.PlainList a vs.toArray) fun h' hl hs=>?_;obtain ⟨n',hl⟩:=hl;exact q h' (T.upd (s':={s with heap:=h'}) .head hs ⟨vs++[v],n',by rw [hl];simp,rs.append (.one rd)⟩) hs
theorem bV.app {v:Value} (k:bV x aD aC acc H O s) (ne:aD≠aC) (rd:ac H v e) (hz:acc.length≤sizeLine)
  (q:∀ h',bV x aD aC (acc++[e]) H O {s with heap:=h'}→Heap.SameBut aD s.heap h'→Q .none {s with heap:=h'}):wpAny (model x.prog x.w) A (call (.builtin "list.append") [.ref aD,v]) Q E s :=
 yJ k.T rd hz fun h' T hs=>q h' ⟨T,k.n.elim fun m n=>⟨m,n.sameBut hs (Ne.symm ne)⟩,k.hC,k.oC⟩ hs
theorem bV.done (k:bV (outer c s0.heap) aD aC acc H O s) (N:Ah c s0 aD aC) (R:ag c H₀ loc O0 s0) (le:H₀≤H) :
  ∃ H' m,ag c H' loc O s∧H₀≤H'∧ac H' (.ref aD) (.lst acc)∧s.heap.Ns aC m∧nv c H' O aC:=by
 refine ut (k.T.freeze .head) fun H5 le5 T5 rd same=>?_;obtain ⟨m,n⟩:=k.n;exact ⟨H5,m,Pm R T5 (Pt le le5),Pt le le5,rd,n,⟨(same _ (Ne.symm N.ne)).trans k.hC,N.cp,k.oC,N.cl,N.cs⟩⟩
theorem ky {G:Value→Env→Shared→Prop} (ok:dw c.env scope) (R:ag c H loc O s)
  (k:∀ aD aC h,Ah c s aD aC→bV (outer c s.heap) aD aC [] H O {s with heap:=h}→(∀ b o,s.heap.get? b=some o→h.get? b=some o)→∀ cenv:Env,cenv.locals=aC→({cenv with scope:=relabel scope c.env}:Env)=compEnvC scope (bL c.env scope.names []) aC c.env→G (.ref aD) cenv {s with heap:=h}) :
  wpAny c.M c.A (newList []) (fun acc s3=>wpAny c.M c.A (newFunctionEnv scope c.env.globals (bL c.env scope.names []) [] c.env.qual .none .none (some c.env)) (G acc) E s3) E s:=by
 refine wpAny_newObj_type (wpAny_newFunctionEnv ok.nocell (by intro y hy;simp at hy) (fun h_1 hns1 hsb1=>?_) ok.kind);dsimp only at hns1 hsb1 ⊢;generalize hD:s.heap.objs.size=aD at hns1 hsb1 ⊢;generalize hH2:s.heap.push {cls:=.type "list",dict:=.none,data:=.seq ([]:List Value).toArray}=H2 at hns1 hsb1 ⊢;have hC:H2.objs.size=aD+1:=by rw [← hH2,Heap.size_push,hD]
 generalize hC':H2.objs.size=aC at hns1 hsb1 ⊢;have eC:aC=aD+1:=hC'.symm.trans hC;have dAt:H2.get? aD=some ⟨.type "list",.none,.seq ([]:List Value).toArray 0,#[]⟩:=by rw [← hH2,← hD];exact Heap.get?_push_size _ rfl
 have up1:∀ b o,s.heap.get? b=some o→H2.get? b=some o:=fun b o e=>hH2▸Hp _ e;have up2:∀ b o,H2.get? b=some o→h_1.get? b=some o:=fun b o e=>hsb1.extBut b o (fun z=>by have q:=Heap.lt_size e;rw [z,hC'] at q;exact Nat.lt_irrefl _ q) (Heap.get?_push_of_some _ e);have up:∀ b o,s.heap.get? b=some o→h_1.get? b=some o:=fun b o e=>up2 b o (up1 b o e);have lt:∀ b o,s.heap.get? b=some o→b<aD:=fun b o e=>hD▸Heap.lt_size e
 have fr:∀ b,aD≤b→nv c H O b:=fun b hb=>by
  have hb':s.heap.objs.size≤b:=hD▸hb;exact ⟨R.t.noH hb',R.t.noP hb',fun p hp e=>Nat.not_lt.mpr hb' (e▸R.t.noO hp),Nat.ne_of_gt (Nat.lt_of_lt_of_le R.size.1 hb'),fun y z hm e=>Nat.not_lt.mpr hb' (e▸R.size.2 y z hm)⟩
 have fD:=fr aD (Nr _);have fC:=fr aC (eC▸Nat.le_succ _);have T0:az (outer c s.heap) H O {s with heap:=h_1}:=(cJ R).keeps (s':={s with heap:=h_1}) up
 exact k aD aC h_1 ⟨eC▸Nat.ne_of_lt (Nat.lt_succ_self _),fX fD,fX fC,fC.p,fC.l,fC.cs,fun b o e=>⟨Nat.ne_of_gt (lt _ _ e),Nat.ne_of_gt (Nat.lt_trans (lt _ _ e) (eC▸Nat.lt_succ_self _))⟩⟩
  ⟨T0.addO' rfl (up2 _ _ dAt) .nil fD.h fD.o (fX fD),⟨_,hns1⟩,fC.h,fC.o⟩ up _ rfl rfl
end
section
variable (p:Program) (w:World) (A:Around) (env:Env)
abbrev ctE (elt:PySem.Expr) (acc:Value) (J:Shared→Prop):Bool→Shared→Prop:=fun ok s3=>if ok=true then wpAny (model p w) A (eval elt env) (fun x s4=>wpAny (model p w) A (call (.builtin "list.append") [acc,x]) (fun _ s5=>J s5) (fun _ _=>False) s4) (fun _ _=>False) s3 else J s3
abbrev ctT (ifs:List PySem.Expr) (F:Bool→Shared→Prop):Shared→Prop:=fun s2 =>
 wpAny (model p w) A (forIn ifs true fun c r=>if r=true then do let ok ← PySem.isTrue c env (eval c env);pure (ForInStep.yield ok) else pure (ForInStep.yield r)) F (fun _ _=>False) s2
abbrev ctA (target:PySem.Expr) (it v:Value) (L:Shared→Prop):Shared→Prop:=fun sA=>wpAny (model p w) A (letOwnedTupleGo target it v) (fun _ sA=>wpAny (model p w) A (assign target env v) (fun _ s2=>L s2) (fun _ _=>False) sA) (fun _ _=>False) sA
abbrev ctN (target:PySem.Expr) (it:Value) (L N:Shared→Prop):Option Value→Shared→Prop:=fun r sA=>match r with
 |.none=>N sA
 |some v=>ctA p w A env target it v L sA
variable {p w A env}
theorem Es {elt acc J s} (h:wpAny (model p w) A (eval elt env) (fun x s4=>wpAny (model p w) A (call (.builtin "list.append") [acc,x]) (fun _ s5=>J s5) (fun _ _=>False) s4) (fun _ _=>False) s):ctE p w A env elt acc J true s:=(if_pos rfl:(if true=true then _ else _)=_).mpr h
theorem Bi {elt acc J s} (h:J s):ctE p w A env elt acc J false s:=(if_neg Bool.false_ne_true:(if false=true then _ else _)=_).mpr h
end
theorem wm (I:Nat→Shared→Prop)
  (turn:∀ n s,I n s→wpAny (model prog w) A (pyNext it) (ctN prog w A env target it (ctT prog w A env ifs (ctE prog w A env elt acc fun s=>∃ m,m<n∧I m s)) (R (.ok .next))) (fun _ _=>False) s)
  (n:Nat) (h:I n s) :
  codeAny (model prog w) A (.compLoop (.ListComp elt [⟨target,iter,ifs,0⟩] scope pos) 0 it acc env) R s:=by
 refine codeAny_loop rfl I (fun n s hI=>?_) n h;refine (?_:wpAny _ A ((compTurn (.ListComp elt [⟨target,iter,ifs,0⟩] scope pos) 0 it acc env).onRaise (fun x=>do noteFrame x env;theTreesLotGoes x)) _ _ s);refine wpAny_noted ?_;rw [compTurn_list];refine Wb (Ws (Wb (Wm (turn n s hI) (fun r sA h_1=>?_) fun _ _ h'=>h'.elim)))
 cases r with
 |none=>exact Wp h_1
 |some v =>
  refine Wb (Wm h_1 (fun _ sA h_1=>?_) fun _ _ h'=>h'.elim);refine Wb (Wm h_1 (fun _ s2 h_2=>Wb (Wm h_2 (fun ok s3 h_3=>?_) fun _ _ h'=>h'.elim)) fun _ _ h'=>h'.elim)
  cases ok with
  |false=>exact Wp ⟨rfl,h_3⟩
  |true =>
   exact Wb (Wb (Wm h_3 (fun x s4 h_4=>Wb (Wm h_4 (fun _ s5 h_5=>Wp (Wp ⟨rfl,h_5⟩)) fun _ _ h'=>h'.elim)) fun _ _ h'=>h'.elim))
def JD (c:Cc) (s2:Shared) (H:PM) (I:Nat→List D→Own→Prop) (At:Nat→Heap→Prop) (it:Addr) (ds:List D) (aD aC:Addr) (n:Nat) (s:Shared):Prop :=
 ∃ i acc H' O',(n=ds.length+1-i∧i≤ds.length∧I i acc O')∧H≤H'∧bV (outer c s2.heap) aD aC acc H' O' s∧At i s.heap∧H' it=.none∧∀ p∈O',p.1≠it
theorem tu {RR:Value→Addr→Result→Shared→Prop}
  (I:Nat→List D→Own→Prop) (ok:dw c.env scope) (R:ag c H loc O s2) (ps:Pass c.x c.A it ds H At) (at0:At 0 s2.heap) (aw:nv c H O it) (i0:I 0 [] O) (hsz:ds.length≤sizeLine)
  (hlen:∀ i acc O',I i acc O'→acc.length≤i)
  (step:∀ i d acc O',ds[i]? = some d→I i acc O'→∀ x',c.x.le x'→∀ C,Tgt (bC c scope C x') target d (cU scope.names loc) O' (fun l' O3=>jx (bC c scope C x') ifs l' O3 (fun z O4 =>
   if z=true then Ev (bC c scope C x') elt l' O4 (fun e O5=>I (i+1) (acc++[e]) O5) NoE else I (i+1) acc O4) NoE))
  (hRR:∀ D C H' s' acc O' m,I ds.length acc O'→ag c H' loc O' s'→H≤H'→ac H' (.ref D) (.lst acc)→s'.heap.Ns C m→nv c H' O' C→RR (.ref D) C (.ok .next) s') :
  wpAny c.M c.A (newList []) (fun acc s3=>wpAny c.M c.A (newFunctionEnv scope c.env.globals (bL c.env scope.names []) [] c.env.qual .none .none (some c.env)) (fun cenv s4 =>
   codeAny c.M c.A (.compStart (.ListComp elt [⟨target,iter,ifs,0⟩] scope pos) 0 (.ref it) acc {cenv with scope:=relabel scope c.env}) (RR acc cenv.locals) s4) E s3) E s2:=by
 obtain ⟨oI0,eI0⟩:=ps.there _ _ at0;have pI:(outer c s2.heap).P it=.none:=fX aw;have xO:=cq c s2.heap;refine ky ok R fun aD aC h N k₀ up cenv hl he=>?_;rw [he,hl];have dI:=(N.nw _ _ eI0).1;have cI:=(N.nw _ _ eI0).2;have at1:At 0 h:=ps.same _ _ _ at0 ((up _ _ eI0).trans eI0.symm);refine codeAny_compStart_list ?loop (ps.self _ _ _ at1 ?loop);refine wm (JD c s2 H I At it ds aD aC) (fun n s hI=>?_) (ds.length+1) ⟨0,[],H,O,⟨rfl,Nat.zero_le _,i0⟩,Pr _,k₀,at1,aw.h,aw.o⟩;refine wj hI fun i acc H3 O3 q le3 kC at3 hit oit=>?_;refine gB q fun hn hi i3=>?_;subst hn;have old:∀ a o,H a=some o→s.heap.get? a=some o:=fun a o e=>kC.T.hH _ _ (le3 _ _ e)
 by_cases hlt:i<ds.length
 ·have hd:ds[i]? = some ds[i]:=List.getElem?_eq_getElem hlt;generalize ds[i]=d at hd;refine ps.item i d s _ _ hd at3 old fun h' tk v at' sb rd=>?_;refine ps.go _ (i+1) _ _ _ _ at' ?_;obtain ⟨oI,eI⟩:=ps.there _ _ at';have k4:=(kC.moved (s':={s with heap:=h',toks:=tk}) hit pI oit dI cI fun b ob hb e=>(sb.2 b hb).trans e).fix hit oit dI eI;have lI:=xO.trans (Cx.fix_le (o:=oI) pI);refine al (k4.turn ok R (Cx.fix_le pI) le3 ((Cx.fix_ne dI).trans N.pD) ((Cx.fix_ne cI).trans N.pC) N.ne) fun ob F back=>?_;refine Wm (step i d acc O3 hd i3 _ (lI.trans (Cx.fix_le ((Cx.fix_ne dI).trans N.pD))) aC H3 _ _ v F (rd.mono le3) fun H6 s6 l6 O6 h_6 R6 le6=>?_) (fun _ _ x=>x) fun _ _ x=>x;refine Wm (rG h_6 (Q:=ctE c.x.prog c.x.w c.A (compEnvC scope (bL c.env scope.names []) aC c.env) elt (.ref aD) _) R6 fun H7 s7 b O7 hG R7 le7=>?_) (fun _ _ x=>x) fun _ _ x=>x
  have fin:∀ acc' H' O' s',I (i+1) acc' O'→H3≤H'→bV ((outer c s2.heap).fix it oI) aD aC acc' H' O' s'→∃ m,m<ds.length+1-i∧JD c s2 H I At it ds aD aC m s':=fun acc' H' O' s' hI le' k =>
   have q:=k.unfix pI
   ⟨ds.length+1-(i+1),tN hlt,i+1,acc',H',O',⟨rfl,hlt,hI⟩,Pt le3 le',q.1,ps.same _ _ _ at' (q.2.1.trans eI.symm),q.2.2⟩
  cases b with
  |true =>
   rw [if_pos rfl] at hG;refine Es (Wm (hG H7 s7 _ R7 fun H8 s8 v8 e O8 h_8 R8 le8 rH=>?_) (fun _ _ x=>x) fun _ _ x=>x);have leH:=Pt le6 (Pt le7 le8);exact (back H8 O8 s8 _ R8 leH).app N.ne rH (Nt (hlen i acc O3 i3) (Nt hi hsz)) fun h9 k9 _=>fin _ _ _ _ h_8 leH k9
  |false =>
   rw [if_neg Bool.false_ne_true] at hG;exact Bi (fin _ _ _ _ hG (Pt le6 le7) (back H7 O7 s7 _ R7 (Pt le6 le7)))
 ·obtain rfl:i=ds.length:=Nat.le_antisymm hi (Nat.not_lt.mp hlt);refine ps.stop s _ _ at3 old fun h' xb=>?_;refine qF ((kC.moved (s':={s with heap:=h'}) hit pI oit dI cI fun b ob hb e=>xb b ob hb e).done N R le3) fun H5 m RF le5 rd n w=>?_;exact hRR aD aC H5 _ acc O3 m i3 RF le5 rd n w
section
variable {K:D→Own→Prop}
structure nu (c:Cc) (loc:Loc) (O₁:Own) (scope:Scope) (target elt:PySem.Expr) (ifs:List PySem.Expr) (ds:List D) (I:Nat→List D→Own→Prop):Prop where
 i0:I 0 [] O₁
 sz:ds.length≤sizeLine
 len:∀ i acc O',I i acc O'→acc.length≤i
 step:∀ i d acc O',ds[i]? = some d→I i acc O'→∀ x',c.x.le x'→∀ C,Tgt (bC c scope C x') target d (cU scope.names loc) O' (fun l' O3=>jx (bC c scope C x') ifs l' O3 (fun z O4 =>
   if z=true then Ev (bC c scope C x') elt l' O4 (fun e O5=>I (i+1) (acc++[e]) O5) NoE else I (i+1) acc O4) NoE)
theorem jx.mono {ts:List PySem.Expr} {K K':Bool→Own→Prop} (k:∀ z O',K z O'→K' z O'):∀ {O},jx c ts loc O K E→jx c ts loc O K' E:=by
 induction ts with
 |nil=>exact fun h=>k _ _ h
 |cons t r ih=>exact fun h H s Q R q=>h H s Q R fun H' s' b O'' kb=>q H' s' b O'' (zQ ih (k _ _) kb)
theorem BX {p:D→Bool} {f:D→D} (hd:ds[i]? = some d) (h:p d=true):((ds.take (i+1)).filter p).map f=((ds.take i).filter p).map f++[f d]:=by
 rw [List.take_add_one,hd,List.filter_append,List.map_append];simp [h]
theorem Fd {p:D→Bool} {f:D→D} (hd:ds[i]? = some d) (h:p d=false):((ds.take (i+1)).filter p).map f=((ds.take i).filter p).map f:=by
 rw [List.take_add_one,hd,List.filter_append,List.map_append];simp [h]
theorem nR (p:D→Bool) (f:D→D) (sz:ds.length≤sizeLine)
  (step:∀ d,d∈ds→∀ x',c.x.le x'→∀ C,Tgt (bC c scope C x') target d (cU scope.names loc) O₁ (fun l' O3=>jx (bC c scope C x') ifs l' O3 (fun z O4=>z=p d ∧
   (z=true→Ev (bC c scope C x') elt l' O4 (fun e O5=>e=f d∧O5=O₁) NoE)∧(z=false→O4=O₁)) NoE)) :
  nu c loc O₁ scope target elt ifs ds (fun i acc O'=>acc=((ds.take i).filter p).map f∧O'=O₁) where
 i0:=⟨rfl,rfl⟩
 sz:=sz
 len i acc O' h:=by
  rw [h.1,List.length_map];exact Nt (List.length_filter_le _ _) (List.length_take_le _ _)
 step i d acc O' hd h x' le C:=by
  obtain ⟨rfl,rfl⟩:=h
  exact (step d (List.mem_of_getElem? hd) x' le C).mono fun l' O3 h_3=>jx.mono (fun z O4 hz=>by
   cases z with
   |true=>exact Dx ((hz.2.1 rfl).mono fun e O5 he=>⟨he.1▸(BX hd hz.1.symm).symm,he.2⟩)
   |false=>exact Dz ⟨(Fd hd hz.1.symm).symm,hz.2.2 rfl⟩) h_3
theorem g7 (f:D→D) (sz:ds.length≤sizeLine)
  (step:∀ d,d∈ds→∀ x',c.x.le x'→∀ C,Tgt (bC c scope C x') target d (cU scope.names loc) O₁ (fun l' O3=>Ev (bC c scope C x') elt l' O3 (fun e O5=>e=f d∧O5=O₁) NoE)) :
  nu c loc O₁ scope target elt [] ds (fun i acc O'=>acc=(ds.take i).map f∧O'=O₁):=by
 have z:=nR (c:=c) (loc:=loc) (ifs:=[]) (target:=target) (elt:=elt) (scope:=scope) (fun _=>true) f sz (O₁:=O₁) fun d hd x' le C H s Q v R rd q=>step d hd x' le C H s Q v R rd fun H' s' l' O' k=>q H' s' l' O' ⟨rfl,fun _=>k,fun e=>(by cases e)⟩;have e:∀ l:List D,l.filter (fun _=>true)=l:=fun l=>List.filter_eq_self.mpr fun _ _=>rfl;simp only [e] at z;exact z
theorem j4 {t:PySem.Expr} (p:D→Bool) (f:D→D) (sz:ds.length≤sizeLine)
  (step:∀ d,d∈ds→∀ x',c.x.le x'→∀ C,Tgt (bC c scope C x') target d (cU scope.names loc) O₁ (fun l' O3=>Tst (bC c scope C x') t l' O3 (fun z O4=>z=p d∧(z=true→Ev (bC c scope C x') elt l' O4 (fun e O5=>e=f d∧O5=O₁) NoE)∧(z=false→O4=O₁)) NoE)) :
  nu c loc O₁ scope target elt [t] ds (fun i acc O'=>acc=((ds.take i).filter p).map f∧O'=O₁) :=
 nR (c:=c) (loc:=loc) (ifs:=[t]) (target:=target) (elt:=elt) (scope:=scope) p f sz (O₁:=O₁) fun d hd x' le C H s Q v R rd q=>step d hd x' le C H s Q v R rd fun H' s' l' O' k=>q H' s' l' O' (fun H s Q R q=>k H s Q R fun H' s' b O'' kb=>q H' s' b O'' (by
  cases b with
  |true=>exact Dx kb
  |false=>exact Dz kb))
theorem Hk (ok:dw c.env scope)
  (h:Ev c iter loc O (fun d O₁=>∃ ds I,dn c d ds∧nu c loc O₁ scope target elt ifs ds I∧∀ acc O2,I ds.length acc O2→K (.lst acc) O2) E)
  (hs:∀ x,foldedSetIterable iter c.env x=pure x:=by intro _;rfl):Ev c (.ListComp elt [⟨target,iter,ifs,0⟩] scope pos) loc O K E:=fun H s Q R q=>by
 rw [eval_ListComp];refine wpAny_comprehension_free (use:=.none) rfl hs (c8 ok.clos) ok.kind ok.loc (h H s _ R fun H₁ sA v d O₁ h_1 R1 le1 rA=>?_);refine dR h_1 fun ds I hit k hK=>?_;refine hit loc O₁ H₁ sA v _ _ R1 rA fun o At hf ps at0=>?_;have wA:=R1.fresh;have R2:ag c H₁ loc O₁ {sA with heap:=sA.heap.push o}:=R1.keeps (s':={sA with heap:=sA.heap.push o}) fun b ob e=>Hp _ e;refine tu (RR:=fun acc C=>compPost c.M c.A E .none Q acc C) I ok R2 ps at0 wA k.i0 k.sz k.len k.step fun D C H' s' acc O' m hI R' le' rd nC aw=>?_;refine ⟨m,nC,fun h' sb=>q H' {s' with heap:=h'} _ _ O' (hK _ _ hI) (R'.keepBut (s':={s' with heap:=h'}) aw fun b ob hb e=>(sb.2 b hb).trans e) (Pt le1 le') rd⟩
theorem qA {pos p:Pos} (ok:dw c.env scope) (hf:ey c.env) (hk:c.env.kindOf y=some .local)
  (h:Ev c iter loc O (fun d O₁=>∃ ds I,dn c d ds∧nu c loc O₁ scope target elt ifs ds I∧∀ acc O2,I ds.length acc O2→KF .next ((y,.lst acc)::loc) O2) E)
  (hs:∀ x,foldedSetIterable iter c.env x=pure x:=by intro _;rfl)
  (hsw:swapsWith (.ListComp elt [⟨target,iter,ifs,0⟩] scope pos) (some (.Name y py)) p.line c.env=pure true:=by rfl):Ex c (.Assign [.Name y py] (.ListComp elt [⟨target,iter,ifs,0⟩] scope pos) p) loc O KF E:=fun H s Q R q=>by
 rw [exec_Assign_Name_used _ _ _ _ hsw];refine Wb (Ws (Wb ?_));refine (?_:wpAny _ c.A (do let _ ← comprehension (.ListComp elt [⟨target,iter,ifs,0⟩] scope pos) scope c.env _ (newList []) false (eval iter c.env) (some (assign (.Name y py) c.env))) _ _ s)
 refine Wb (Wm (wpAny_comprehension_free (use:=some (assign (.Name y py) c.env)) (Q:=fun _ s'=>Q .next s') rfl hs (c8 ok.clos) ok.kind ok.loc
  (h H s _ R fun H₁ sA v d O₁ h_1 R1 le1 rA=>?_)) (fun _ s' hq=>Wp (Wp hq)) fun _ _ e=>e)
 refine dR h_1 fun ds I hit k hK=>?_;refine hit loc O₁ H₁ sA v _ _ R1 rA fun o At hf' ps at0=>?_;have wA:=R1.fresh;have R2:ag c H₁ loc O₁ {sA with heap:=sA.heap.push o}:=R1.keeps (s':={sA with heap:=sA.heap.push o}) fun b ob e=>Hp _ e;refine tu (RR:=fun acc C=>compPost c.M c.A E (some (assign (.Name y py) c.env)) (fun _ s'=>Q .next s') acc C) I ok R2 ps at0 wA k.i0 k.sz k.len k.step fun D C H' s' acc O' m hI R' le' rd nC aw=>?_;refine (?_:wpAny _ c.A (assign (.Name y py) c.env (.ref D)) _ _ _);refine wpAny_assign_Name (wpAny_storeName_local hk R'.f.ns.choose_spec.1 (fun h' hn sb=>?_) (by rw [hf.kind];rfl));refine ⟨m,nC.sameBut sb aw.l,fun h'' sb'=>?_⟩;have R3:=ag.store (t:=s'.toks+1) R' rd hn sb hk;have R4:=R3.keepBut (s':={s' with heap:=h'',toks:=s'.toks+1}) aw fun b ob hb e=>(sb'.2 b hb).trans e;exact q H' _ _ .next _ O' (hK _ _ hI) R4 (Pt le1 le') .next
end
end
section
abbrev Hu (b:Bool) (p:Program) (w:World) (A:Around) (env:Env) (elt:PySem.Expr) (acc:Value) (J:Shared→Prop):Bool→Shared→Prop:=fun ok s3=>if ok=true then wpB b (model p w) A (eval elt env) (fun x s4=>wpAny (model p w) A (call (.builtin "list.append") [acc,x]) (fun _ s5=>J s5) (fun _ _=>False) s4) (fun _ _=>False) s3 else J s3
theorem Bj {elt acc J} (h:wpB b (model prog w) A (eval elt env) (fun x s4=>wpAny (model prog w) A (call (.builtin "list.append") [acc,x]) (fun _ s5=>J s5) (fun _ _=>False) s4) (fun _ _=>False) s):Hu b prog w A env elt acc J true s:=(if_pos rfl:(if true=true then _ else _)=_).mpr h
theorem x7 {elt acc J} (h:J s):Hu b prog w A env elt acc J false s:=(if_neg Bool.false_ne_true:(if false=true then _ else _)=_).mpr h
theorem yo (I:Nat→Shared→Prop)
  (turn:∀ n s,I n s→wpB b (model prog w) A (pyNext it) (ctN prog w A env target it (ctT prog w A env ifs (Hu b prog w A env elt acc fun s=>∃ m,m<n∧I m s)) (R (.ok .next))) (fun _ _=>False) s)
  (n:Nat) (h:I n s) :
  dY b (model prog w) A (.compLoop (.ListComp elt [⟨target,iter,ifs,0⟩] scope pos) 0 it acc env) R s:=by
 refine nS rfl rfl I (fun n s hI=>?_) n h;refine (?_:wpB b _ A ((compTurn (.ListComp elt [⟨target,iter,ifs,0⟩] scope pos) 0 it acc env).onRaise (fun x=>do noteFrame x env;theTreesLotGoes x)) _ _ s);refine mD ?_;rw [compTurn_list];refine av (Ws (bD (cn (turn n s hI) (fun r sA h_1=>?_) fun _ _ h'=>h'.elim)))
 cases r with
 |none=>exact ba h_1
 |some v =>
  refine av (Wm h_1 (fun _ sA h_1=>?_) fun _ _ h'=>h'.elim);refine av (Wm h_1 (fun _ s2 h_2=>av (Wm h_2 (fun ok s3 h_3=>?_) fun _ _ h'=>h'.elim)) fun _ _ h'=>h'.elim)
  cases ok with
  |false=>exact ba (.inl ⟨rfl,h_3⟩)
  |true =>
   exact bD (bD (cn h_3 (fun x s4 h_4=>av (Wm h_4 (fun _ s5 h_5=>ba (ba (.inl ⟨rfl,h_5⟩))) fun _ _ h'=>h'.elim)) fun _ _ h'=>h'.elim))
theorem pb
  (h0:dY b (model prog w) A (.compLoop (.ListComp elt [⟨target,iter,ifs,0⟩] scope pos) 0 it acc env) R s)
  (h:wpAny (model prog w) A (pyIter it) (fun it' s'=>dY b (model prog w) A (.compLoop (.ListComp elt [⟨target,iter,ifs,0⟩] scope pos) 0 it' acc env) R s') (fun _ _=>False) s) :
  dY b (model prog w) A (.compStart (.ListComp elt [⟨target,iter,ifs,0⟩] scope pos) 0 it acc env) R s:=by
 refine gD rfl ?_;refine (?_:wpB b _ _ ((compStart (.ListComp elt [⟨target,iter,ifs,0⟩] scope pos) 0 it acc env).onRaise (fun x=>do noteFrame x env;standAt theWindowsPlace)) _ _ s);refine uR ?_;skip;refine (?_:wpB b _ _ (ask>>=_) _ _ s);refine av (wpAny_askSetting ?_)
 split
 ·first
   |exact bD (ba (ba (And.intro rfl h0)))
   |exact ba (And.intro rfl h0)
 ·refine av (wpAny_rule ?_);refine (?_:wpB b _ _ (standAt iter.pos>>=_) _ _ s);exact av (Ws (av (Wm h (fun it' s' h'=>ba (And.intro rfl h')) fun _ _ x=>x.elim)))
def EW (b:Bool) (c:Cc) (loc:Loc) (scope:Scope) (target elt:PySem.Expr) (ifs:List PySem.Expr) (v:Value) (I:Nat→List D→Own→Prop) (F:List D→Own→Prop):Prop :=
 ∀ k acc O',I k acc O'→acc.length≤1000000∧∀ x',c.x.le x'→(∃ H l O s,ag c H l O s∧(outer c s.heap).le x')→∀ C,NxB b (bC c scope C x') target v (cU scope.names loc) O' (fun od O3=>match od with
  |.none=>F acc O3
  |some d=>Tgt (bC c scope C x') target d (cU scope.names loc) O3 (fun l' O4=>jx (bC c scope C x') ifs l' O4 (fun z O5 =>
    if z=true then EvB b (bC c scope C x') elt l' O5 (fun e O6=>∃ m:Nat,m<k∧I m (acc++[e]) O6) NoE else ∃ m:Nat,m<k∧I m acc O5) NoE))
section
variable {K:D→Own→Prop}
def yL (c:Cc) (s2:Shared) (H:PM) (I:Nat→List D→Own→Prop) (aD aC:Addr) (n:Nat) (s:Shared):Prop :=
 ∃ acc H' O',H≤H'∧I n acc O'∧bV (outer c s2.heap) aD aC acc H' O' s
theorem qH {v:Value} {RR:Value→Addr→Result→Shared→Prop}
  (I:Nat→List D→Own→Prop) {F:List D→Own→Prop} (ok:dw c.env scope) (R:ag c H loc O s2) (i0:I n [] O) (turn:EW b c loc scope target elt ifs v I F)
  (self:∀ x',c.x.le x'→bI x' c.A (fun vs=>pyIter (vs.headD .none)) [.stat v] O (fun d O'=>d=.stat v∧O'=O) NoE)
  (hRR:∀ D C H' s' acc O' m,F acc O'→ag c H' loc O' s'→H≤H'→ac H' (.ref D) (.lst acc)→s'.heap.Ns C m→nv c H' O' C→RR (.ref D) C (.ok .next) s') :
  wpAny c.M c.A (newList []) (fun acc s3=>wpAny c.M c.A (newFunctionEnv scope c.env.globals (bL c.env scope.names []) [] c.env.qual .none .none (some c.env)) (fun cenv s4 =>
   dY b c.M c.A (.compStart (.ListComp elt [⟨target,iter,ifs,0⟩] scope pos) 0 v acc {cenv with scope:=relabel scope c.env}) (RR acc cenv.locals) s4) E s3) E s2:=by
 have xO:=cq c s2.heap;refine ky ok R fun aD aC h N k₀ up cenv hl he=>?_;rw [he,hl]
 have loop:∀ (s:Shared),yL c s2 H I aD aC n s →
   dY b c.M c.A (.compLoop (.ListComp elt [⟨target,iter,ifs,0⟩] scope pos) 0 v (.ref aD) (compEnvC scope (bL c.env scope.names []) aC c.env)) (RR (.ref aD) aC) s:=fun s hI=>by
  refine yo (yL c s2 H I aD aC) (fun k s hI=>?_) n hI;obtain ⟨acc,H3,O3,le3,i3,kC⟩:=hI;obtain ⟨hz,turn⟩:=turn k acc O3 i3;refine al (kC.turn ok R (Cx.le_refl _) le3 N.pD N.pC N.ne) fun ob F back=>?_;have leX:=Cx.fix_le (o:=ob) N.pD;refine turn _ (xO.trans leX) ⟨_,_,_,_,R,leX⟩ aC H3 s _ F (fun H4 s4 O4 h_4 R4 le4=>?_) fun s4 u go=>go _ fun H4 s4 d O4 h_4 R4 le4 rd=>?_
  ·refine qF ((back H4 O4 s4 _ R4 le4).done N R (Pt le3 le4)) fun H5 m RF le5 rd n w=>?_;exact hRR aD aC H5 _ acc O4 m h_4 RF le5 rd n w
  ·refine Wm (h_4 H4 s4 _ u R4 rd fun H6 s6 l6 O6 h_6 R6 le6=>?_) (fun _ _ x=>x) fun _ _ x=>x;refine Wm (rG h_6 (Q:=Hu b c.x.prog c.x.w c.A (compEnvC scope (bL c.env scope.names []) aC c.env) elt (.ref aD) _) R6 fun H7 s7 bG O7 hG R7 le7=>?_) (fun _ _ x=>x) fun _ _ x=>x;have le467:=Pt le4 (Pt le6 le7)
   have fin:∀ acc' H' O' s',(∃ j:Nat,j<k∧I j acc' O')→H3≤H'→bV (outer c s2.heap) aD aC acc' H' O' s'→∃ m,m<k∧yL c s2 H I aD aC m s':=fun acc' H' O' s' hI le' k=>hI.elim fun j hI =>
    ⟨j,hI.1,acc',H',O',Pt le3 le',hI.2,k⟩
   cases bG with
   |true =>
    rw [if_pos rfl] at hG;refine Bj (cn (hG H7 s7 _ R7 fun H8 s8 v8 e O8 h_8 R8 le8 rH=>?_) (fun _ _ x=>x) fun _ _ x=>x);have leH:=Pt le467 le8;exact (back H8 O8 s8 _ R8 leH).app N.ne rH (Nat.le_trans hz (by rw [sizeLine_eq];exact Nat.le_of_ble_eq_true rfl)) fun h9 k9 _=>fin _ _ _ _ h_8 leH k9
   |false =>
    rw [if_neg Bool.false_ne_true] at hG;exact x7 (fin _ _ _ _ hG le467 (back H7 O7 s7 _ R7 le467))
 refine pb (loop _ ⟨[],H,O,Pr _,i0,k₀⟩) ?_;obtain ⟨vs,nn,eD,rsD⟩:=k₀.T.hO (aD,.list []) (.head _);obtain ⟨m,oC,esC,epC,eC,dC⟩:=k₀.n;have oD:∀ p∈O,p.1≠aD:=fun p hp z=>(List.nodup_cons.mp k₀.T.nd).1 (z▸List.mem_map_of_mem (f:=(·.1)) hp);have T7:=((k₀.T.sub (O':=O) (.cons _ (List.Sublist.refl _))).fix (k₀.T.dH _ (.head _)) oD eD).fix k₀.hC k₀.oC eC;generalize hob:(⟨.type "list",.none,.seq vs.toArray nn,#[]⟩:Obj)=ob at T7 eD;have pC':((outer c s2.heap).fix aD ob).P aC=.none:=(Cx.fix_ne (Ne.symm N.ne)).trans N.pC;refine Wm (self _ (xO.trans ((Cx.fix_le N.pD).trans (Cx.fix_le pC'))) H _ (fun it' s'=>dY b c.M c.A (.compLoop (.ListComp elt [⟨target,iter,ifs,0⟩] scope pos) 0 it' (.ref aD) (compEnvC scope (bL c.env scope.names []) aC c.env)) (RR (.ref aD) aC) s') [v] T7 (.one (.stat v)) fun H' s' v' d O' k T' le rd=>?_) (fun _ _ x=>x) fun _ _ x=>x;obtain ⟨rfl,rfl⟩:=k
 cases rd using ac.cStat
 refine nP (T'.unfix pC') fun T8 e1 e2 e3=>?_;refine nP (T8.unfix N.pD) fun T9 e4 e5 e6=>?_;exact loop s' ⟨[],H',_,le,i0,T9.addO' (ds:=[]) hob.symm e4 (rsD.mono le) e5 e6 N.pD,⟨m,oC,esC,epC,e1,dC⟩,e2,e3⟩
end
end
section
noncomputable abbrev gm:Heap:={objs:=#[]}
theorem nH (a:Addr):gm.get? a=.none:=by
 unfold Heap.get?;simp
noncomputable def mI (h:Heap) (L:Addr):List (Addr×Obj):=(List.range h.objs.size).filterMap fun a=>if a=L then .none else (h.get? a).map fun o=>(a,o)
theorem xa (e:h.get? a=some o) (ne:a≠L):(a,o)∈mI h L :=
 List.mem_filterMap.mpr ⟨a,List.mem_range.mpr (Heap.lt_size e),by rw [if_neg ne,e];rfl⟩
theorem pQ {p:Addr×Obj} (m:p∈mI h L):h.get? p.1=some p.2∧p.1≠L:=by
 refine al (List.mem_filterMap.mp m) fun a ha e=>?_
 split at e
 ·cases e
 ·rename_i ne;refine al (Option.map_eq_some_iff.mp e) fun o e1 e2=>?_;subst e2;exact ⟨e1,ne⟩
section
variable {K:D→Own→Prop}
theorem ag.fr {H s} (R:ag c H loc O s):∃ m,Fr gm c.env.locals s.heap m∧News gm c.env.locals s.heap (mI s.heap c.env.locals) ∧
  ∀ s':Shared,Fr gm c.env.locals s'.heap m→(∀ p∈mI s.heap c.env.locals,s'.heap.get? p.1=some p.2)→s'.gens=s.gens→s'.os=s.os→s'.drawn=s.drawn→ag c H loc O s':=by
 refine al R.f.ns fun m n r=>?_;refine ⟨m,⟨n,(fun b o e=>(nomatch ((nH b).symm.trans e))),Nat.zero_le _⟩,fun p hp=>⟨(pQ hp).1,(pQ hp).2,nH _⟩,fun s' F N hg ho hd=>?_⟩;have k:∀ b o,b≠c.env.locals→s.heap.get? b=some o→s'.heap.get? b=some o:=fun b o ne e=>N (b,o) (xa e ne);refine ⟨R.t.keepBut R.o.lH R.o.lP R.o.lO k hg ho hd,⟨⟨m,F.ns,r⟩,fun y d e q=>?_,fun y b e=>?_⟩,R.o⟩
 ·refine dR (R.f.cl y d e q) fun b v p q1 z=>?_;obtain ⟨o,e',r⟩:=q1;exact ⟨b,v,p,⟨o,k _ _ (R.o.cH _ _ (bQ p)).2.1 e',r⟩,z⟩
 ·obtain ⟨v,⟨o,e',r⟩⟩:=R.f.cs y b e;exact ⟨v,⟨o,k _ _ (R.o.cH _ _ e).2.1 e',r⟩⟩
theorem ag.fr_new {H s} (R:ag c H loc O s):∃ m,Fr gm c.env.locals s.heap m∧News gm c.env.locals s.heap (mI s.heap c.env.locals) ∧
  ∀ (s':Shared) (o:Obj),Fr gm c.env.locals s'.heap m→News gm c.env.locals s'.heap ((s.heap.objs.size,o)::mI s.heap c.env.locals)→s'.gens=s.gens→s'.os=s.os→s'.drawn=s.drawn →
   ag c (H.put s.heap.objs.size o) loc O s'∧H≤H.put s.heap.objs.size o:=by
 refine dX R.fr fun m F N k=>?_;refine ⟨m,F,N,fun s' o F' N' hg ho hd=>?_⟩;have R':=k s' F' (fun p hp=>(N' p (.tail _ hp)).1) hg ho hd;have f:=R.t.fresh;have z:=R.size;exact ⟨R'.addH (N' _ (.head _)).1 f.1 f.2.2 f.2.1 (Nat.ne_of_gt z.1) (fun y b q=>Nat.ne_of_lt (z.2 y b q)),Pp f.1⟩
theorem dQ {v ds} (hH:∀ a o,H a=some o→s.heap.get? a=some o) (r:ac H v (.lst ds)):∃ a vs n,v=.ref a∧s.heap.get? a=some ⟨.type "list",.none,.seq (List.toArray vs) n,#[]⟩∧af H vs ds:=by
 cases r using ac.cLst with|lst e rs=>exact ⟨_,_,_,rfl,hH _ _ e,rs⟩
theorem isl (e:h.get? a=some ⟨.type "list",.none,.seq (List.toArray vs) n,#[]⟩):h.IsList a vs.toArray:=⟨_,e,rfl,n,rfl⟩
theorem gu {v ds} (hH:∀ a o,H a=some o→s.heap.get? a=some o) (r:ac H v (.tup ds)):∃ a vs n,v=.ref a∧s.heap.get? a=some ⟨.type "tuple",.none,.seq (List.toArray vs) n,#[]⟩∧af H vs ds:=by
 cases r using ac.cTup with|tup e rs=>exact ⟨_,_,_,rfl,hH _ _ e,rs⟩
theorem kR (hsz:as.length+bs.length≤sizeLine) (h:K (.lst (as++bs)) O):Op c (fun vs=>binaryOp .Add (vs.headD .none) (vs.tail.headD .none)) [.lst as,.lst bs] loc O K E:=fun H s Q vs R rs q=>by
 refine ay rs fun v u a b=>?_;refine bK (dQ R.t.hH a) fun a va na q2 q3=>?_;obtain rfl:=q2;obtain ⟨ea,ra⟩:=q3;refine bK (dQ R.t.hH b) fun b vb nb q4 q5=>?_;obtain rfl:=q4;obtain ⟨eb,rb⟩:=q5;refine dX R.fr_new fun m F N k=>?_;refine add_lists (hsz:=by rw [ra.length,rb.length];exact hsz) F N (isl ea) (isl eb) fun h' F' N'=>?_;obtain ⟨R',le⟩:=k {s with heap:=h'} _ F' N' rfl rfl rfl;exact q _ _ _ _ _ h R' le (.lst Ph ((ra.append rb).mono le))
theorem FN (hsz:as.length*n≤2^24) (hn:(n:Int)<2^63) (h:K (.lst (List.replicate n as).flatten) O):Op c (fun vs=>binaryOp .Mult (vs.headD .none) (vs.tail.headD .none)) [.lst as,.int n] loc O K E:=fun H s Q vs R rs q=>by
 refine ay rs fun v u a b=>?_;refine bK (dQ R.t.hH a) fun a va na q6 q7=>?_;obtain rfl:=q6;obtain ⟨ea,ra⟩:=q7
 cases b using ac.cInt
 refine dX R.fr_new fun m F N k=>?_;refine mul_list F N ea (by lia) hn (by rw [List.size_toArray,ra.length];simpa using hsz) fun h' F' N'=>?_;obtain ⟨R',le⟩:=k {s with heap:=h'} _ F' N' rfl rfl rfl
 have e:List.foldl (fun x1 x2=>x1++x2) #[] (List.replicate (if va.toArray.isEmpty=true then 0 else ((n:Int)).toNat) va.toArray)=((List.replicate n va).flatten).toArray:=by
  have g:∀ (k:Nat) (acc:Array Value),List.foldl (fun x1 x2=>x1++x2) acc (List.replicate k va.toArray)=acc++((List.replicate k va).flatten).toArray:=by
   intro k
   induction k with
   |zero=>intro acc;simp
   |succ k ih=>intro acc;rw [List.replicate_succ,List.foldl_cons,ih,List.replicate_succ,List.flatten_cons,← List.append_toArray,Array.append_assoc]
  rw [g]
  cases va with
  |nil=>simp
  |cons x r=>simp
 rw [e] at R' le;refine q _ _ _ _ _ h R' le (.lst Ph ?_)
 have:∀ k:Nat,af H (List.replicate k va).flatten (List.replicate k as).flatten:=by
  intro k
  induction k with
  |zero=>simpa using af.nil
  |succ k ih=>rw [List.replicate_succ,List.flatten_cons,List.replicate_succ,List.flatten_cons];exact ra.append ih
 exact (this n).mono le
theorem FT {i j:Int} (hj:0<j) (hj':j≤2^64) (h:K (.int (i/j)) O):Op c (fun vs=>binaryOp .FloorDiv (vs.headD .none) (vs.tail.headD .none)) [.int i,.int j] loc O K E :=
 Ke hj (PyProof.noPylong_of_log2 (by
  have:j.natAbs≤2^64:=by lia
  have h2:=Nat.log2_lt (n:=j.natAbs) (k:=65) (by lia);have:=h2.mpr (by lia);lia)) h
theorem AI {j:Int} (hj:j=n) (hn:n≤1000) (h:K (.int (256^n)) O):Op c (fun vs=>binaryOp .Pow (vs.headD .none) (vs.tail.headD .none)) [.int 256,.int j] loc O K E:=by
 subst hj;refine Kb (by lia) ?_ (by simpa using h);have:Builtin.Int.intBits 256=9:=by decide +kernel
 rw [this];lia
theorem kO (h:∀ t u v,K (.obj (tY 0 n t u v)) O):Op c (fun vs=>call (.type "range") vs) [.int n] loc O K E:=fun H s Q vs R rs q=>by
 refine cG rs fun v a=>?_
 cases a using ac.cInt
 refine call_range_1 ?_;obtain ⟨R',le⟩:=R.push {cls:=.type "range",data:=.fields #[.int 0 s.toks,.int n _,.int 1 (s.toks+1)]} (s.toks+1+1);exact q _ _ _ _ _ (h _ _ _) R' le (.obj Ph)
theorem eG (hz:(ds.length:Int)<2^63) (h:K (.int ds.length) O):Op c (fun vs=>call (.builtin "len") vs) [.lst ds] loc O K E:=fun H s Q vs R rs q=>by
 refine cG rs fun v a=>?_;refine bK (dQ R.t.hH a) fun a va na q8 q9=>?_;obtain rfl:=q8;obtain ⟨ea,ra⟩:=q9;refine call_len_list (isl ea) (by rw [List.size_toArray,ra.length];exact hz) ?_;rw [List.size_toArray,ra.length];exact q _ _ _ _ _ h (R.tok _) (Pr _) (.int _ _)
theorem bJ (hz:l.length≤1099511627776) (h:K (.int l.length) O):Op c (fun vs=>call (.builtin "len") vs) [.bytes l] loc O K E:=fun H s Q vs R rs q=>by
 refine cG rs fun v a=>?_
 cases a using ac.cBytes
 refine len_bytes (by simpa using hz) ?_;rw [List.size_toArray];exact q _ _ _ _ _ h (R.tok _) (Pr _) (.int _ _)
theorem Fb (hz:(ds.length:Int)<2^63) (h:KB (!ds.isEmpty) O):Tru c (.lst ds) loc O KB E:=fun H s Q v R rd q=>by
 refine bK (dQ R.t.hH rd) fun a va na q10 q11=>?_;obtain rfl:=q10;obtain ⟨ea,ra⟩:=q11;refine wpAny_truthy_list (isl ea) (by rw [List.size_toArray,ra.length];exact hz) ?_
 have:(!(List.toArray va).isEmpty) = !ds.isEmpty:=by
  cases ra<;>rfl
 rw [this];exact q _ _ _ _ h (R.tok _) (Pr _)
noncomputable def bR (l:List Int):List UInt8:=l.map fun n=>n.toNat.toUInt8
theorem GJ {ns:List Int}:∀ {vs:List Value},af H vs (ns.map .int)→IntsAre vs ns:=by
 induction ns with
 |nil=>intro vs r;cases r using af.cNil;exact .nil
 |cons n ns ih=>intro vs r;refine bj (af.cons_iff r) fun v us q12 q13=>?_;obtain rfl:=q12;obtain ⟨a,b⟩:=q13;cases a using ac.cInt;exact .cons n _ (ih b)
theorem jo {ns:List Int} (hr:∀ n∈ns,0≤n∧n<256) (hz:ns.length≤sizeLine) (hh:c.A.handled=.none) (h:K (.bytes (bR ns)) O):Op c (fun vs=>call (.type "bytes") vs) [.lst (ns.map .int)] loc O K E:=fun H s Q vs R rs q=>by
 refine cG rs fun v a=>?_;refine bK (dQ R.t.hH a) fun a va na q14 q15=>?_;obtain rfl:=q14;obtain ⟨ea,ra⟩:=q15;refine call_bytes_ints (isl ea) (GJ ra) hr (by rw [ra.length,List.length_map];exact hz) hh fun h' t k kp=>?_;exact q _ _ _ _ _ h (R.keeps (s':={s with heap:=h',toks:=k}) kp) (Pr _) (.bytes _ _)
noncomputable def Sts (c:Cc) (ts:List (Value→Sem Unit)) (ds:List D) (loc:Loc) (O:Own) (KS:Loc→Own→Prop):Prop:=match ts,ds with
 |[],[]=>KS loc O
 |t::ts,d::ds=>St c t d loc O (fun l' O'=>Sts c ts ds l' O' KS) NoE
 |_,_=>False
theorem Fh {ts:List (Value→Sem Unit)}:∀ {ds:List D} {loc:Loc} {O:Own} {KS:Loc→Own→Prop} (h:Sts c ts ds loc O KS) {H s vs} {Q:Unit→Shared→Prop} (R:ag c H loc O s) (rs:af H vs ds)
  (q:∀ H' s' l' O',KS l' O'→ag c H' l' O' s'→H≤H'→Q () s'),wpAny c.M c.A (assignInOrder ts vs) Q NoE s:=by
 induction ts with
 |nil =>
  intro ds loc O KS h H s vs Q R rs q
  cases ds with
  |nil=>cases rs using af.cNil;exact Wp (q _ _ _ _ h R (Pr _))
  |cons d ds=>exact h.elim
 |cons t ts ih =>
  intro ds loc O KS h H s vs Q R rs q
  cases ds with
  |nil=>exact h.elim
  |cons d ds =>
   cases rs with
   |cons r rs =>
    skip;refine Wb (Wh ?_);refine Wm (h H s _ _ R r fun H₁ sA lA O₁ h_1 R1 le1=>?_) (fun _ _ x=>x) fun _ _ x=>x;exact ih h_1 R1 (rs.mono le1) fun H' s' l' O' k R' le'=>q H' s' l' O' k R' (Pt le1 le')
theorem y4 {x1:Nat} (hh:c.A.handled=.none) (h:Sts c ((assignEach elts c.env).map (·.2)) ds loc O KS)
  (hn:(assignEach elts c.env).length=ds.length) (hstar:(assignEach elts c.env).findIdx? (·.1)=.none):Tgt c (.Tuple elts x1 pos) (.tup ds) loc O KS:=fun H s Q v R rd q=>by
 refine bK (gu R.t.hH rd) fun a va na q16 q17=>?_;obtain rfl:=q16;obtain ⟨ea,ra⟩:=q17;refine wpAny_assign_Tuple hh ⟨_,ea,rfl,na,rfl⟩ (by rw [List.size_toArray,ra.length];exact hn) hstar fun h' xb=>?_;exact Fh h (R.keepBut (s':={s with heap:=h'}) R.fresh fun b o hb e=>xb b o hb e) ra q
end
end
section
section
variable {K:D→Own→Prop}
theorem jk {H s a ds} (R:ag c H loc O s) (m:(a,SO.list ds)∈O):∃ vs n,s.heap.get? a=some ⟨.type "list",.none,.seq (List.toArray vs) n,#[]⟩∧af H vs ds:=R.t.hO _ m
theorem da (m:(a,SO.list ds)∈O) (h:KM (.builtin "list.append") [.stat (.ref a)] O):GM c "append" (.stat (.ref a)) loc O KM E:=fun pl H s Q v R rd q=>by
 cases rd using ac.cStat
 refine bj (jk R m) fun vs n e rs=>?_;exact Calls.getMethod_list_append e rfl rfl (q _ _ _ _ _ _ h R (Pr _) (.one (.stat _)))
theorem cS (u:Upd a (.list ds) (.list (ds++[d])) O O') (hz:ds.length≤sizeLine) (h:K .none O'):Op c (fun vs=>call (.builtin "list.append") vs) [.stat (.ref a),d] loc O K E:=fun H s Q vs R rs q=>by
 refine ay rs fun v w r1 r2=>?_
 cases r1 using ac.cStat
 refine bj (jk R u.mem) fun vs n e rs=>?_;refine wpAny_list_append_plain (hsz:=by rw [List.size_toArray,rs.length];exact hz) (⟨n,e⟩:s.heap.PlainList a vs.toArray) fun h' hl hs=>?_;obtain ⟨n',hl⟩:=hl;have R':=R.upd (s':={s with heap:=h'}) u hs ⟨vs++[w],n',by rw [hl];simp,rs.append (.one r2)⟩;exact q _ _ _ _ _ h R' (Pr _) .none
theorem D9 (h:Ev c e loc O (fun d O₁=>∃ a ds O2,d=.stat (.ref a)∧Rem a (.list ds) O₁ O2∧K (.lst ds) O2) E):Ev c e loc O K E:=fun H s Q R q=>by
 refine h H s Q R fun H₁ sA v d O₁ h_1 R1 le1 rd=>?_;refine bK h_1 fun a ds O2 q1 q2=>?_;obtain rfl:=q1;obtain ⟨rm,k⟩:=q2;refine dX (R1.freeze rm) fun HB le2 R2 rd2=>?_
 cases rd using ac.cStat
 exact q _ _ _ _ _ k R2 (Pt le1 le2) rd2
theorem FW (m:(a,SO.list ds)∈O) (hsz:ds.length+bs.length≤sizeLine) (h:K (.lst (ds++bs)) O):Op c (fun vs=>binaryOp .Add (vs.headD .none) (vs.tail.headD .none)) [.stat (.ref a),.lst bs] loc O K E:=fun H s Q vs R rs q=>by
 refine ay rs fun v u r1 b=>?_
 cases r1 using ac.cStat
 refine bj (jk R m) fun va na ea ra=>?_;refine bK (dQ R.t.hH b) fun b vb nb q3 q4=>?_;obtain rfl:=q3;obtain ⟨eb,rb⟩:=q4;refine dX R.fr_new fun m F N k=>?_;refine add_lists (hsz:=by rw [ra.length,rb.length];exact hsz) F N (isl ea) (isl eb) fun h' F' N'=>?_;obtain ⟨R',le⟩:=k {s with heap:=h'} _ F' N' rfl rfl rfl;exact q _ _ _ _ _ h R' le (.lst Ph ((ra.append rb).mono le))
theorem y2 (m:(a,SO.list ds)∈O) (hz:(ds.length:Int)<2^63) (h:KB (!ds.isEmpty) O):Tru c (.stat (.ref a)) loc O KB E:=fun H s Q v R rd q=>by
 cases rd using ac.cStat
 refine bj (jk R m) fun va na ea ra=>?_;refine wpAny_truthy_list (isl ea) (by rw [List.size_toArray,ra.length];exact hz) ?_
 have:(!(List.toArray va).isEmpty) = !ds.isEmpty:=by
  cases ra<;>rfl
 rw [this];exact q _ _ _ _ h (R.tok _) (Pr _)
def Ag (c:Cc) (loc loc':Loc) (O O':Own):Prop:=∀ H s,ag c H loc O s→∃ H',H≤H'∧ag c H' loc' O' s
theorem dW (g:Ag c loc loc' O O') (h:Exs c ss loc' O' KF E):Exs c ss loc O KF E:=fun H s Q R q=>by
 refine al (g H s R) fun H₁ le R1=>?_;exact h H₁ s Q R1 fun H' s' f g l O'' k R' le'=>q H' s' f g l O'' k R' (Pt le le')
theorem bH {t:List Value→Sem Value} (h:∀ x',c.x.le x'→bI x' c.A t ds O (fun d O'=>d=r∧O'=O) E) (k:K r O):Op c t ds loc O K E :=
 cK fun x' le=>(h x' le).mono fun d O' e=>by rw [e.1,e.2];exact k
end
structure Rm (A:Around) (n:Nat):Prop where
 hh:A.handled=.none
 dp:A.depth+n<recursionLimit
theorem Rm.deeper {m:Nat} (r:Rm A n) (env:Env) (h:m+1≤n):Rm (A.deeper env) m:=⟨r.hh,by have:=r.dp;refine (?_:A.depth+1+m<_);lia⟩
theorem Rm.le {m:Nat} (r:Rm A n) (h:m≤n):Rm A m:=⟨r.hh,by have:=r.dp;lia⟩
noncomputable def aB (fd:FuncData):List PySem.Stmt:=match fd.body with|.stmts b=>b|_=>[]
noncomputable def ndB:List Str→Bool
 |[]=>true
 |x::r=>!r.contains x&&ndB r
theorem CV:∀ {l:List Str},ndB l=true→l.Nodup
 |[],_=>.nil
 |x::r,h=>by
  unfold ndB at h;simp only [Bool.and_eq_true,Bool.not_eq_true',List.contains_eq_mem,decide_eq_false_iff_not] at h;exact List.nodup_cons.mpr ⟨h.1,CV h.2⟩
noncomputable def qv (fd:FuncData) (names:List Str):Bool:=fd.closure.isEmpty&&(match fd.body with|.stmts _=>true|_=>false)&&!fd.scope.isCoroutine&&!fd.scope.isGenerator&&fd.scope.kind==.function &&
 names.all (fun n=>fd.scope.names.lookup n==some .local||fd.scope.names.lookup n==some .cell)&&ndB ((cellsFrom 0 fd.scope.names []).map (·.1))
theorem zY (h:qv fd names=true):Ln fd (aB fd) names:=by
 unfold qv at h;simp only [Bool.and_eq_true,Bool.not_eq_true',List.all_eq_true,Bool.or_eq_true,beq_iff_eq,List.isEmpty_iff] at h;obtain ⟨⟨⟨⟨⟨⟨h1,h2⟩,h3⟩,h4⟩,h5⟩,h6⟩,h7⟩:=h;refine ⟨h1,?_,h3,h4,h5,h6,CV h7⟩;unfold aB;revert h2
 cases fd.body<;>intro q<;>first|rfl|cases q
def Fin (K:D→Own→Prop) (d:D) (O:Own):Prop:=∃ O',O'.Sublist O∧K d O'
theorem He {K:D→Own→Prop} {d:D} (h:K d O):Fin K d O:=⟨O,List.Sublist.refl _,h⟩
theorem N4 {K:D→Own→Prop} {d:D} {p} (h:K d O):Fin K d (p::O):=⟨O,.cons _ (List.Sublist.refl _),h⟩
theorem bT {K:D→Own→Prop} {d:D} (h:K d O):pf (Fin K) (.ret d) O:=He h
theorem NC {K:D→Own→Prop} {d:D} {p} (h:K d O):pf (Fin K) (.ret d) (p::O):=N4 h
theorem au.drop {x A f ds O E} {K:D→Own→Prop} (h:au x A f ds O (Fin K) E):au x A f ds O K E:=fun H s Q vs R rs q qe=>h H s Q vs R rs (fun H' s' v d O' k R' le rd=>by
 obtain ⟨O3,sb,k⟩:=k;exact q H' s' v d O3 k (R'.sub sb) le rd) qe
abbrev kFn (K':D→Own→Prop):Fl→Loc→Own→Prop:=fun fl _ O'=>pf (Fin K') fl O'
noncomputable abbrev Hb (x:Cx) (A:Around) (fd:FuncData) (L f:Addr):Cc:=⟨x,A.deeper (callEnvC fd L f),callEnvC fd L f,true⟩
theorem aJ {f:Addr} {names:List Str} {dx:List D} (b:ah x)
  (hf:∀ P,A4 P f=some (.func fd)) (hc:∀ P,codeIn (K P) fd.code fd.qualname=true) (ok:qv fd names=true) (r:Rm A n) (extra:List Value)
  (hb:∀ P St (vs:List Value),vs.length=ds.length→peek (K P) St (bindArgs fd ⟨vs,[]⟩)=some (names.zip (vs++extra))) (hx:∀ H,af H extra dx) (loc:Loc) (hl:(names.zip (ds++dx)).reverse=loc)
  (h:∀ L,Exs (Hb x A fd L f) (aB fd) loc O (kFn K') (dT x A (callEnvC fd L f) E)) :
  au x A (.ref f) ds O K' E :=
 au.drop<|Ew (b.fn hf hc) (zY ok) (by have:=r.dp;lia) (fun H s vs R rs=>⟨H,vs++extra,Pr _,R,kp_binds (b.X R) fun St=>hb _ St vs rs.length,rs.append (hx H)⟩) (by subst hl;exact h)
theorem dG (b:ah x)
  (hf:∀ P,A4 P f=some (.func fd)) (hc:∀ P,codeIn (K P) fd.code fd.qualname=true) (ok:qv fd names=true) (r:Rm A n) (extra:List Value)
  (hb:∀ P St (vs:List Value),vs.length=ds.length→peek (K P) St (bindArgs fd ⟨vs,[]⟩)=some (names.zip (vs++extra))) (hx:∀ H,af H extra dx) (loc:Loc) (hl:(names.zip (ds++dx)).reverse=loc)
  (h:∀ L,Exs (Hb x A fd L f) (aB fd) loc O (kFn K') (dT x A (callEnvC fd L f) E)) :
  bI x A (fun vs=>call (.ref f) vs) ds O K' E:=(aJ b hf hc ok r extra hb hx loc hl h).call
end
section
abbrev EX (b:Array UInt8) (i:Nat) (v:Value):Prop:=∃ c u,b[i]? = some c∧v=.int (c.toNat:Int) u
theorem ui (hh:A.handled=.none) (b:Array UInt8) (t:Tok) (a:Addr) (res:Value) (cO:Nat) (hS:s.heap.get? a=some {cls:=.type "list",data:=.seq #[] cO})
  (hR:∀ h' tk acc' c',(∀ b o,b≠a→s.heap.get? b=some o→h'.get? b=some o)→h'.get? a=some {cls:=.type "list",dict:=.none,data:=.seq acc' c',slots:=#[]} →
   ItemsOf (EX b) acc' b.size→R (.ok (.ret res)) {s with heap:=h',toks:=tk}) (hn:b.size≤sizeLine) :
  wpAny (model prog w) A.in1 (Builtin.List.listExtendWith (.ref a) (.bytes b t) res)
   (fun fin s'=>match fin with|.done f=>R (.ok f) s'|.again c'=>c'.quiet=true∧codeAny (model prog w) A c' R s') (fun e s'=>R (.error e) s') s:=by
 have hSI:a≠s.heap.objs.size:=Nat.ne_of_lt (Heap.lt_size hS);have hSf:a∉[s.heap.objs.size]:=fun hm=>hSI (List.mem_singleton.mp hm);skip;refine Wb (wpAny_typeOf (T:="bytes") (v:=.bytes b t) rfl ?_);have h1:Builtin.List.listSameRef (.ref a) (.bytes b t)=false:=rfl;have h2:(Value.type "bytes"==Value.type "list")=false:=by decide
 have h3:(Value.type "bytes"==Value.type "tuple")=false:=by decide
 simp only [h1,h2,h3,Bool.or_false,Bool.false_eq_true,if_false];refine Wb (PySem.W.KBw.pyIter_bytes ?_);refine Wb (Wh ?_);skip;refine Wb (wpAny_specialOf (T:="bytes") (v:=.bytes b t) rfl FB.slot_bytes_len.lookup ?_)
 wp_delta
 refine wpAny_bind (wpAny_isInstance (T:="bytes") (v:=.bytes b t) (b:=true) rfl (by rw [isSubtype_type];kernel_rfl) ?_);refine (?_:wpAny _ _ (typeOf (Value.bytes b t)>>=_) _ _ _);refine Wb (wpAny_typeOf (T:="bytes") (v:=.bytes b t) rfl ?_);refine Wp ?_;rw [if_neg (by decide)];refine Wp ⟨plainId_quiet F.plain_extend_loop _,codeAny_extend_loopS (PySem.W.KBw.walks (A:=A.in1) hh s.heap.objs.size b t).toS hn _ hSf _ b.size 0 _ _ _ rfl (Nat.zero_le _) ⟨_,Hs _ rfl,rfl,rfl⟩ (Hp _ hS) (ItemsOf.nil _) fun s' acc' c' hm hS' hacc=>?_⟩;rw [Moved.eq_with hm];refine hR s'.heap s'.toks acc' c' (fun b ob hb e=>hm.heap b ob (fun hmem=>?_) (Hp _ e)) hS' hacc
 rcases List.mem_cons.mp hmem with e'|hmem
 ·exact hb e'
 ·exact absurd (Heap.lt_size e) (by rw [List.mem_singleton.mp hmem];exact Nat.lt_irrefl _)
theorem xH (hh:A.handled=.none) (b:Array UInt8) (t:Tok) (a:Addr) (hS:s.heap.get? a=some {cls:=.type "list",data:=.seq #[]})
  (hR:∀ h' tk acc' c',(∀ b o,b≠a→s.heap.get? b=some o→h'.get? b=some o)→h'.get? a=some {cls:=.type "list",dict:=.none,data:=.seq acc' c',slots:=#[]} →
   ItemsOf (EX b) acc' b.size→R (.ok (.ret .none)) {s with heap:=h',toks:=tk}) (hn:b.size≤sizeLine) :
  wpAny (model prog w) A.in1 (Builtin.«list.__init__» ⟨[.ref a,.bytes b t],[]⟩)
   (fun fin s'=>match fin with|.done f=>R (.ok f) s'|.again c'=>c'.quiet=true∧codeAny (model prog w) A c' R s') (fun e s'=>R (.error e) s') s:=by
 refine (?_:wpAny _ _ (do let old ← Builtin.List.listItems (.ref a);Builtin.List.listUpdate (.ref a) (fun _=>#[]);letGo old.toList.reverse;Builtin.List.listExtendWith (.ref a) (.bytes b t) .none) _ _ s);refine Wb ?_;skip;refine Wb (wpAny_seqItems hS rfl (Wp ?_));refine (?_:wpAny _ _ (updateSeq a (fun _=>#[])>>=fun _=>letGo (#[]:Array Value).toList.reverse>>=fun _=>Builtin.List.listExtendWith (.ref a) (.bytes b t) .none) _ _ s);refine Wb (wpAny_updateSeq hS rfl ?_);have hS2:=Heap.get?_update_self (Obj.mapSeq (fun _=>(#[]:Array Value))) hS rfl;refine Wb (wpAny_letGo ?_);refine ui (hn:=hn) hh b t a .none _ hS2 fun h' tk acc' c' hk hS' hacc=>?_;exact hR h' tk acc' c' (fun b o hb e=>hk b o hb ((Heap.get?_update_other _ _ (Ne.symm hb)).trans e)) hS' hacc
theorem pc (hh:A.handled=.none) (b:Array UInt8) (t:Tok)
  (hQ:∀ h' tk acc' c',(∀ b o,s.heap.get? b=some o→h'.get? b=some o) →
   h'.get? s.heap.objs.size=some {cls:=.type "list",dict:=.none,data:=.seq acc' c',slots:=#[]}→ItemsOf (EX b) acc' b.size→Q (.ref s.heap.objs.size) {s with heap:=h',toks:=tk}) (hn:b.size≤sizeLine) :
  wpAny (model prog w) A (call (.type "list") [.bytes b t]) Q E s:=by
 refine callType_codes (Q₁:=fun obj sA=>obj=.ref s.heap.objs.size∧sA={s with heap:=s.heap.push {cls:=.type "list",data:=.seq #[]}}) F.called_list (F.typeCall_list_1 _) F.entry_list_init
  (code_list_new _ ⟨rfl,rfl⟩) fun obj sA h_1=>?_
 obtain ⟨rfl,rfl⟩:=h_1;have hS:(s.heap.push {cls:=.type "list",data:=.seq #[]}).get? s.heap.objs.size=some {cls:=.type "list",data:=.seq #[]}:=Hs _ rfl;refine ⟨⟨_,hS,rfl⟩,F.args_list_init_2 _ _,xH (A:=A.in1) (hn:=hn) hh b t _ hS fun h' tk acc' c' hk hS' hacc=>?_⟩;exact ⟨rfl,hQ h' tk acc' c' (fun b o e=>hk b o (Nat.ne_of_lt (Heap.lt_size e)) (Hp _ e)) hS' hacc⟩
section
variable {K:D→Own→Prop}
noncomputable def fh (l:List UInt8):List Int:=l.map fun b=>(b.toNat:Int)
theorem xc (l:List UInt8):∀ (vs:List Value),vs.length=l.length→(∀ (j:Nat) (v:Value),vs[j]? = some v→∃ (c:UInt8) (u:Tok),l[j]? = some c∧v=Value.int (c.toNat:Int) u)→af H vs ((fh l).map D.int):=by
 induction l with
 |nil=>exact fun vs e _=>(List.length_eq_zero_iff.mp e)▸.nil
 |cons c l ih =>
  intro vs e h
  cases vs with
  |nil=>cases e
  |cons v vs =>
   refine bj (h 0 v rfl) fun c' u e1 q2=>?_;obtain rfl:=q2
   cases e1
   exact af.cons (ac.int _ _) (ih vs (Nat.succ.inj e) fun j v hj=>h (j+1) v hj)
theorem jZ (hz:l.length≤sizeLine) (hh:c.A.handled=.none) (h:K (.lst ((fh l).map D.int)) O):Op c (fun vs=>call (.type "list") vs) [.bytes l] loc O K E:=fun H s Q vs R rs q=>by
 refine cG rs fun v a=>?_
 cases a using ac.cBytes
 refine pc hh _ _ (fun h' tk acc' c' kp hS it=>?_) (by simpa using hz);have f:=R.fresh;have R':=(R.keeps (s':={s with heap:=h',toks:=tk}) kp).addH hS f.h f.o f.p f.l f.cs;refine q _ _ _ _ _ h R' (Pp f.h) (.lst (n:=c') (vs:=acc'.toList) (by simpa using Ph) ?_);refine xc l acc'.toList (by simpa using it.1) fun j v hj=>?_;refine bj (it.2 j v (by simpa using hj)) fun c u e1 e2=>?_;exact ⟨c,u,by simpa using e1,e2⟩
end
end
section
section
variable {K:D→Own→Prop} {value j7:PySem.Expr}
def dE (j7:PySem.Expr):Prop:=∀ o i,∃ ops,subscripted j7 false o i=operate ops (getItem o i)
noncomputable abbrev gv (value j7:PySem.Expr):List Value→Sem Value:=fun vs=>subscriptTail value j7 (vs.headD .none) (vs.tail.headD .none)
theorem jt (rs:af H vs ds) {k:Nat} (e:ds[k]? = some d):∃ v,(List.toArray vs)[k]? = some v∧ac H v d:=by
 refine al (rs.get e) fun v a b=>?_;exact ⟨v,by simpa using a,b⟩
theorem eH {k:Int} (so:dE j7) (h0:0≤k) (h1:k<2^63) (e:ds[k.toNat]? = some d) (h:K d O):Op c (gv value j7) [.lst ds,.int k] loc O K E:=fun H s Q vs R rs q=>by
 refine ay rs fun v u a b=>?_
 cases b using ac.cInt
 refine bK (dQ R.t.hH a) fun aa va na q1 q2=>?_;obtain rfl:=q1;obtain ⟨ea,ra⟩:=q2;refine al (jt ra e) fun x ex rx=>?_;obtain ⟨ops,hs⟩:=so (.ref aa) (.int k _);exact tail_any (isl ea).typeIs slot_list_getitem.lookup (wpAny_getItem_list (isl ea) h0 h1 ex (q _ _ _ _ _ h R (Pr _) rx)) hs
theorem pX {k:Int} (so:dE j7) (h0:k<0) (h1:-(ds.length:Int)≤k) (h2:-(2^63)≤k) (e:ds[(k+ds.length).toNat]? = some d) (h:K d O):Op c (gv value j7) [.lst ds,.int k] loc O K E:=fun H s Q vs R rs q=>by
 refine ay rs fun v u a b=>?_
 cases b using ac.cInt
 refine bK (dQ R.t.hH a) fun aa va na q3 q4=>?_;obtain rfl:=q3;obtain ⟨ea,ra⟩:=q4;refine al (jt ra e) fun x ex rx=>?_;obtain ⟨ops,hs⟩:=so (.ref aa) (.int k _);have sz:va.toArray.size=ds.length:=by rw [List.size_toArray,ra.length]
 exact tail_any (isl ea).typeIs slot_list_getitem.lookup (wpAny_getItem_list_neg (isl ea) h0 (by rw [sz];exact h1) h2 (by rw [sz];exact ex) (q _ _ _ _ _ h R (Pr _) rx)) hs
theorem xj {k:Int} (so:dE j7) (m:(a,SO.list ds)∈O) (h0:0≤k) (h1:k<2^63) (e:ds[k.toNat]? = some d) (h:K d O):Op c (gv value j7) [.stat (.ref a),.int k] loc O K E:=fun H s Q vs R rs q=>by
 refine ay rs fun v u a' b=>?_
 cases b using ac.cInt
 cases a' using ac.cStat
 refine bj (jk R m) fun va na ea ra=>?_;refine al (jt ra e) fun x ex rx=>?_;obtain ⟨ops,hs⟩:=so (.ref a) (.int k _);exact tail_any (isl ea).typeIs slot_list_getitem.lookup (wpAny_getItem_list (isl ea) h0 h1 ex (q _ _ _ _ _ h R (Pr _) rx)) hs
theorem jn {k:Int} (so:dE j7) (m:(a,SO.list ds)∈O) (h0:k<0) (h1:-(ds.length:Int)≤k) (h2:-(2^63)≤k) (e:ds[(k+ds.length).toNat]? = some d) (h:K d O):Op c (gv value j7) [.stat (.ref a),.int k] loc O K E:=fun H s Q vs R rs q=>by
 refine ay rs fun v u a' b=>?_
 cases b using ac.cInt
 cases a' using ac.cStat
 refine bj (jk R m) fun va na ea ra=>?_;refine al (jt ra e) fun x ex rx=>?_;obtain ⟨ops,hs⟩:=so (.ref a) (.int k _);have sz:va.toArray.size=ds.length:=by rw [List.size_toArray,ra.length]
 exact tail_any (isl ea).typeIs slot_list_getitem.lookup (wpAny_getItem_list_neg (isl ea) h0 (by rw [sz];exact h1) h2 (by rw [sz];exact ex) (q _ _ _ _ _ h R (Pr _) rx)) hs
theorem bP {k:Int} (so:dE j7) (h0:0≤k) (h1:k<2^63) (e:ds[k.toNat]? = some d) (h:K d O):Op c (gv value j7) [.tup ds,.int k] loc O K E:=fun H s Q vs R rs q=>by
 refine ay rs fun v u a b=>?_
 cases b using ac.cInt
 refine bK (gu R.t.hH a) fun aa va na q5 q6=>?_;obtain rfl:=q5;obtain ⟨ea,ra⟩:=q6;refine al (jt ra e) fun x ex rx=>?_;obtain ⟨ops,hs⟩:=so (.ref aa) (.int k _);have it:IsTup s.heap aa va.toArray:=⟨_,ea,rfl,na,rfl⟩
 have hlt:k.toNat<va.toArray.size:=by
  have:=(Array.getElem?_eq_some_iff.mp ex).1;exact this
 refine tail_any it.typeIs PySem.F.slot_tuple_getitem.lookup (getItem_tuple (j:=k.toNat) it (by lia) h1 ?_ ex (q _ _ _ _ _ h R (Pr _) rx)) hs;have:¬ k<0:=by lia
 simp [seqIndex?,this,h0]
 simpa using (by lia:k<(va.toArray.size:Int))
noncomputable abbrev sl2 (l u:Value):Obj:={cls:=.type "slice",data:=.fields #[l,u,.none]}
abbrev NR (a:D) (K:D→Own→Prop):D→Own→Prop:=fun b O2=>∃ i j,a=.int i∧b=.int j∧∀ t u,K (.obj (sl2 (.int i t) (.int j u))) O2
abbrev kSl (c:Cc) (hi:PySem.Expr) (loc:Loc) (K:D→Own→Prop) (E:Value→Shared→Prop):D→Own→Prop:=fun a O₁=>Ev c hi loc O₁ (NR a K) E
abbrev NQ (K:D→Own→Prop):D→Own→Prop:=fun a O₁=>∃ i,a=.int i∧∀ t,K (.obj (sl2 (.int i t) .none)) O₁
abbrev NO (K:D→Own→Prop):D→Own→Prop:=fun a O₁=>∃ i,a=.int i∧∀ t,K (.obj (sl2 .none (.int i t))) O₁
theorem we {lo hi:PySem.Expr} {p:Pos} (h:Ev c lo loc O (kSl c hi loc K E) E):Ev c (.Slice (some lo) (some hi) .none p) loc O K E:=fun H s Q R q=>by
 refine wpAny_Slice (h H s _ R fun H₁ sA vA d₁ O₁ h_1 R1 le1 rA=>h_1 H₁ sA _ R1 fun HB s2 vB dB O2 h_2 R2 le2 rB=>Wp ?_);refine bj h_2 fun i j q7 q8=>?_;obtain rfl:=q7;obtain ⟨rfl,k⟩:=q8
 cases rA using ac.cInt;cases rB using ac.cInt
 obtain ⟨R',le⟩:=R2.push (sl2 (.int i _) (.int j _)) s2.toks;exact q _ _ _ _ _ (k _ _) R' (Pt le1 (Pt le2 le)) (.obj Ph)
theorem rq {lo:PySem.Expr} {p:Pos} (h:Ev c lo loc O (NQ K) E):Ev c (.Slice (some lo) .none .none p) loc O K E:=fun H s Q R q=>by
 refine wpAny_Slice (h H s _ R fun H₁ sA vA d₁ O₁ h_1 R1 le1 rA=>Wp (Wp ?_));refine al h_1 fun i q10 k=>?_;obtain rfl:=q10
 cases rA using ac.cInt
 obtain ⟨R',le⟩:=R1.push (sl2 (.int i _) .none) sA.toks;exact q _ _ _ _ _ (k _) R' (Pt le1 le) (.obj Ph)
theorem j2 {p:Pos} (h:Ev c hi loc O (NO K) E):Ev c (.Slice .none (some hi) .none p) loc O K E:=fun H s Q R q=>by
 refine wpAny_Slice (Wp (h H s _ R fun H₁ sA vA d₁ O₁ h_1 R1 le1 rA=>Wp ?_));refine al h_1 fun i q11 k=>?_;obtain rfl:=q11
 cases rA using ac.cInt
 obtain ⟨R',le⟩:=R1.push (sl2 .none (.int i _)) sA.toks;exact q _ _ _ _ _ (k _) R' (Pt le1 le) (.obj Ph)
theorem pT {j:Nat}:PySem.W.KBy.picked l.toArray (some (i:Int)) (some (j:Int))=((l.drop i).take (j-i)).toArray:=by
 rw [PySem.W.KBc.picked_eq];simp only [Option.elim,clipAt_nat,List.size_toArray]
 congr 1
 by_cases h:i≤l.length
 ·rw [Nat.min_eq_left h]
  by_cases h2:j≤l.length
  ·rw [Nat.min_eq_left h2]
  ·rw [Nat.min_eq_right (Nat.le_of_not_le (by assumption)),List.take_of_length_le (by rw [List.length_drop];exact Nat.le_refl _),List.take_of_length_le (by rw [List.length_drop];exact Nat.sub_le_sub_right (Nat.le_of_not_le (by assumption)) _)]
 ·rw [Nat.min_eq_right (by lia:l.length≤i),List.drop_of_length_le (Nat.le_refl _),List.drop_of_length_le (by lia:l.length≤i)];simp
theorem di {j:Nat} (so:dE j7) (hz:l.length≤16777216) (h:K (.bytes ((l.drop i).take (j-i))) O):Op c (gv value j7) [.bytes l,.obj (sl2 (.int i t) (.int j u))] loc O K E:=fun H s Q vs R rs q=>by
 refine ay rs fun v w a b=>?_
 cases a using ac.cBytes
 cases b using ac.cObj
 rename_i tb sa eb;have hb:=R.t.hH _ _ eb;obtain ⟨ops,hs⟩:=so (.bytes l.toArray tb) (.ref sa)
 refine tail_any (typeIs_bytes _ _ _) FB.slot_bytes_getitem.lookup (getItem_meets (typeIs_bytes _ _ _) (by decide) FB.slot_bytes_getitem FB.entry_bytes_getitem (FB.args_bytes_getitem_2 _ _) (PySem.W.KBc.meets_slice2 _ _ _ (.int i t) (.int j u))
  ⟨⟨_,hb,rfl,rfl⟩,Nat.le_trans (PySem.W.KBc.size_picked_le _ _ _) (by rw [sizeLine_eq];simpa using hz),fun t' k=>?_⟩) hs
 rw [pT];exact q _ _ _ _ _ h (R.tok _) (Pr _) (.bytes _ _)
theorem t5 {j:Nat} (so:dE j7) (hz:ds.length≤sizeLine) (h:K (.lst ((ds.drop i).take (j-i))) O):Op c (gv value j7) [.lst ds,.obj (sl2 (.int i t) (.int j u))] loc O K E:=fun H s Q vs R rs q=>by
 refine ay rs fun v w a b=>?_;refine bK (dQ R.t.hH a) fun aa va na q12 q13=>?_;obtain rfl:=q12;obtain ⟨ea,ra⟩:=q13
 cases b using ac.cObj
 rename_i sa eb;have hb:=R.t.hH _ _ eb;obtain ⟨ops,hs⟩:=so (.ref aa) (.ref sa);refine tail_any (isl ea).typeIs slot_list_getitem.lookup (wpAny_getItem_list_slice (lo:=some (i:Int)) (hi:=some (j:Int)) (st:=.none) (isl ea) ⟨_,hb,rfl,rfl⟩ (.int i t) (.int j u) .none (by simp) ?_ (by rw [List.size_toArray,ra.length];exact hz)) hs
 have e:slicePick va.toArray (some (i:Int)) (some (j:Int)) .none=((va.drop i).take (j-i)).toArray:=by
  rw [slicePick_plain];simp only [Option.elim,clipAt_nat,List.size_toArray]
  congr 1
  by_cases h:i≤va.length
  ·rw [Nat.min_eq_left h]
   by_cases h2:j≤va.length
   ·rw [Nat.min_eq_left h2]
   ·rw [Nat.min_eq_right (Nat.le_of_not_le (by assumption)),List.take_of_length_le (by rw [List.length_drop];exact Nat.le_refl _),List.take_of_length_le (by rw [List.length_drop];exact Nat.sub_le_sub_right (Nat.le_of_not_le (by assumption)) _)]
  ·rw [Nat.min_eq_right (by lia:va.length≤i),List.drop_of_length_le (Nat.le_refl _),List.drop_of_length_le (by lia:va.length≤i)];simp
 rw [e];obtain ⟨R',le⟩:=R.push {cls:=.type "list",data:=.seq ((va.drop i).take (j-i)).toArray} s.toks;exact q _ _ _ _ _ h R' le (.lst Ph (((ra.drop i).take (j-i)).mono le))
end
end
section
section
variable {K:D→Own→Prop}
noncomputable def Lk (c:Cc) (ns:List Str) (ds:List D) (loc:Loc) (O:Own) (KS:Loc→Own→Prop):Prop:=match ns,ds with
 |[],[]=>KS loc O
 |n::ns,d::ds=>St c (storeName c.env n) d loc O (fun l' O'=>Lk c ns ds l' O' KS) NoE
 |_,_=>False
theorem B1 {ns:List (Str×Pos)}:∀ {ds:List D} {loc:Loc} {O:Own} {KS:Loc→Own→Prop} (_:Lk c (ns.map (·.1)) ds loc O KS),
  Sts c ((assignEach (ns.map fun p=>PySem.Expr.Name p.1 p.2) c.env).map (·.2)) ds loc O KS:=by
 induction ns with
 |nil =>
  intro ds loc O KS h
  cases ds with
  |nil=>exact h
  |cons d ds=>exact h.elim
 |cons p ns ih =>
  intro ds loc O KS h
  cases ds with
  |nil=>exact h.elim
  |cons d ds =>
   intro H s Q v R rd q;exact wpAny_assign_Name (h H s Q v R rd fun H' s' l' O' k=>q H' s' l' O' (ih k))
theorem Pv (ns:List (Str×Pos)) (env:Env):(assignEach (ns.map fun p=>PySem.Expr.Name p.1 p.2) env).findIdx? (·.1)=.none∧(assignEach (ns.map fun p=>PySem.Expr.Name p.1 p.2) env).length=ns.length:=by
 induction ns with
 |nil=>exact ⟨rfl,rfl⟩
 |cons p ns ih =>
  refine ⟨?_,Cg Nat.succ ih.2⟩;refine (List.findIdx?_cons (xs:=assignEach (ns.map fun p=>PySem.Expr.Name p.1 p.2) env)).trans ?_;exact (Cg (Option.map (·+1)) ih.1:_)
theorem gE (ns:List (Str×Pos)) {k:Nat} (hh:c.A.handled=.none) (hn:ns.length=ds.length) (h:Lk c (ns.map (·.1)) ds loc O KS) :
  Tgt c (.Tuple (ns.map fun p=>PySem.Expr.Name p.1 p.2) k pos) (.tup ds) loc O KS :=
 y4 hh (B1 h) ((Pv ns c.env).2.trans hn) (Pv ns c.env).1
abbrev kSt (c:Cc) (n:Str) (d:D) (KS:Loc→Own→Prop):Loc→Own→Prop:=fun l O=>St c (storeName c.env n) d l O KS NoE
abbrev Mf (c:Cc) (elts:List PySem.Expr) (k:Nat) (tpos:Pos) (loc:Loc) (KF:Fl→Loc→Own→Prop):D→Own→Prop:=fun d O₁=>Tgt c (.Tuple elts k tpos) d loc O₁ (kTo KF)
abbrev NM (c:Cc) (n1 n2:Str) (loc:Loc) (KF:Fl→Loc→Own→Prop):D→Own→Prop:=fun d O2=>∃ d1 d2,d=.tup [d1,d2]∧St c (storeName c.env n2) d2 loc O2 (kSt c n1 d1 (kTo KF)) NoE
abbrev NL (c:Cc) (n1 n2 n3:Str) (loc:Loc) (KF:Fl→Loc→Own→Prop):D→Own→Prop:=fun d O2=>∃ d1 d2 d3,d=.tup [d1,d2,d3]∧St c (storeName c.env n3) d3 loc O2 (kSt c n2 d2 (kSt c n1 d1 (kTo KF))) NoE
theorem QU (hh:c.A.handled=.none) (h:St c (storeName c.env n1) d1 loc O KS NoE):Tgt c (.Tuple [.Name n1 p1] k pos) (.tup [d1]) loc O KS:=gE [(n1,p1)] hh rfl h
theorem JJ (hh:c.A.handled=.none) (h:St c (storeName c.env n1) d1 loc O (kSt c n2 d2 KS) NoE):Tgt c (.Tuple [.Name n1 p1,.Name n2 p2] k pos) (.tup [d1,d2]) loc O KS:=gE [(n1,p1),(n2,p2)] hh rfl h
theorem QT (hh:c.A.handled=.none) (h:St c (storeName c.env n1) d1 loc O (kSt c n2 d2 (kSt c n3 d3 (kSt c n4 d4 KS))) NoE) :
  Tgt c (.Tuple [.Name n1 p1,.Name n2 p2,.Name n3 p3,.Name n4 p4] k pos) (.tup [d1,d2,d3,d4]) loc O KS:=gE [(n1,p1),(n2,p2),(n3,p3),(n4,p4)] hh rfl h
theorem NB (hh:c.A.handled=.none) (h:St c (storeName c.env n1) d1 loc O (kSt c n2 d2 (kSt c n3 d3 (kSt c n4 d4 (kSt c n5 d5 KS)))) NoE) :
  Tgt c (.Tuple [.Name n1 p1,.Name n2 p2,.Name n3 p3,.Name n4 p4,.Name n5 p5] k pos) (.tup [d1,d2,d3,d4,d5]) loc O KS:=gE [(n1,p1),(n2,p2),(n3,p3),(n4,p4),(n5,p5)] hh rfl h
theorem QS (hh:c.A.handled=.none) (h:St c (storeName c.env n1) d1 loc O (kSt c n2 d2 (kSt c n3 d3 (kSt c n4 d4 (kSt c n5 d5 (kSt c n6 d6 KS))))) NoE) :
  Tgt c (.Tuple [.Name n1 p1,.Name n2 p2,.Name n3 p3,.Name n4 p4,.Name n5 p5,.Name n6 p6] k pos) (.tup [d1,d2,d3,d4,d5,d6]) loc O KS:=gE [(n1,p1),(n2,p2),(n3,p3),(n4,p4),(n5,p5),(n6,p6)] hh rfl h
theorem rn (hs:swapsWithSole [.Tuple elts k tpos] value pos.line c.env=pure false) (hw:swappedStores [.Tuple elts k tpos] value c.env=pure .none)
  (h:Ev c value loc O (Mf c elts k tpos loc KF) E):Ex c (.Assign [.Tuple elts k tpos] value pos) loc O KF E:=fun H s Q R q =>
 Assign_Tuple (h H s _ R fun H₁ sA v d O₁ h_1 R1 le1 rd=>Wm (h_1 H₁ sA (fun _=>Q .next) v R1 rd fun H' s' l O' k R' le'=>q _ _ _ _ _ _ k R' (Pt le1 le') .next) (fun _ _ x=>x) fun _ _ x=>x.elim) hs hw
theorem Qb (hs:swapsWithSole [.Tuple [.Name n1 p1,.Name n2 p2] k tpos] (.Tuple [e1,e2] k' vpos) pos.line c.env=pure false) (hw:swappedStores [.Tuple [.Name n1 p1,.Name n2 p2] k tpos] (.Tuple [e1,e2] k' vpos) c.env=pure (some [n1,n2]))
  (hh:c.A.handled=.none) (h:Ev c (.Tuple [e1,e2] k' vpos) loc O (NM c n1 n2 loc KF) E) :
  Ex c (.Assign [.Tuple [.Name n1 p1,.Name n2 p2] k tpos] (.Tuple [e1,e2] k' vpos) pos) loc O KF E:=fun H s Q R q=>by
 refine Assign_Tuple_swapped (h H s _ R fun H₁ sA v d O₁ h_1 R1 le1 rd=>?_) hs hw;obtain ⟨d1,d2,rfl,h_1⟩:=h_1;obtain ⟨aa,va,na,rfl,ea,ra⟩:=gu R1.t.hH rd;obtain ⟨v1,v2,rfl,r1,r2⟩:=mK ra;refine unpackItems_tuple (items:=[v1,v2].toArray) hh ⟨_,ea,rfl,na,rfl⟩ fun h' xb=>?_;have R2:=R1.keepBut (s':={sA with heap:=h'}) R1.fresh fun b o hb e=>xb b o hb e;refine (?_:wpAny _ _ (assignInOrder [fun v=>bindName c.env n2 v,fun v=>bindName c.env n1 v] [v2,v1]) _ _ _);skip;refine Wb (Wh (wpAny_bindName ?_));refine Wm (h_1 H₁ _ _ v2 R2 r2 fun H3 s3 lC O3 h_3 R3 le3=>?_) (fun _ _ x=>x) fun _ _ x=>x.elim;skip;refine Wb (Wh (wpAny_bindName ?_));refine Wm (h_3 H3 s3 _ v1 R3 (r1.mono le3) fun H4 s4 l4 O4 h_4 R4 le4=>?_) (fun _ _ x=>x) fun _ _ x=>x.elim;exact Wp (q _ _ _ _ _ _ h_4 R4 (Pt le1 (Pt le3 le4)) .next)
theorem Qa (hs:swapsWithSole [.Tuple [.Name n1 p1,.Name n2 p2,.Name n3 p3] k tpos] (.Tuple [e1,e2,e3] k' vpos) pos.line c.env=pure false) (hw:swappedStores [.Tuple [.Name n1 p1,.Name n2 p2,.Name n3 p3] k tpos] (.Tuple [e1,e2,e3] k' vpos) c.env=pure (some [n1,n2,n3]))
  (hh:c.A.handled=.none) (h:Ev c (.Tuple [e1,e2,e3] k' vpos) loc O (NL c n1 n2 n3 loc KF) E) :
  Ex c (.Assign [.Tuple [.Name n1 p1,.Name n2 p2,.Name n3 p3] k tpos] (.Tuple [e1,e2,e3] k' vpos) pos) loc O KF E:=fun H s Q R q=>by
 refine Assign_Tuple_swapped (h H s _ R fun H₁ sA v d O₁ h_1 R1 le1 rd=>?_) hs hw;obtain ⟨d1,d2,d3,rfl,h_1⟩:=h_1;obtain ⟨aa,va,na,rfl,ea,ra⟩:=gu R1.t.hH rd;obtain ⟨v1,v2,v3,rfl,r1,r2,r3⟩:=nF ra;refine unpackItems_tuple (items:=[v1,v2,v3].toArray) hh ⟨_,ea,rfl,na,rfl⟩ fun h' xb=>?_;have R2:=R1.keepBut (s':={sA with heap:=h'}) R1.fresh fun b o hb e=>xb b o hb e;refine (?_:wpAny _ _ (assignInOrder [fun v=>bindName c.env n3 v,fun v=>bindName c.env n2 v,fun v=>bindName c.env n1 v] [v3,v2,v1]) _ _ _);skip;refine Wb (Wh (wpAny_bindName ?_));refine Wm (h_1 H₁ _ _ v3 R2 r3 fun H3 s3 lC O3 h_3 R3 le3=>?_) (fun _ _ x=>x) fun _ _ x=>x.elim;skip;refine Wb (Wh (wpAny_bindName ?_));refine Wm (h_3 H3 s3 _ v2 R3 (r2.mono le3) fun H4 s4 l4 O4 h_4 R4 le4=>?_) (fun _ _ x=>x) fun _ _ x=>x.elim;skip;refine Wb (Wh (wpAny_bindName ?_));refine Wm (h_4 H4 s4 _ v1 R4 (r1.mono (Pt le3 le4)) fun H5 s5 l5 O5 h_5 R5 le5=>?_) (fun _ _ x=>x) fun _ _ x=>x.elim;exact Wp (q _ _ _ _ _ _ h_5 R5 (Pt le1 (Pt le3 (Pt le4 le5))) .next)
theorem Qm {P:D→D→Prop} (h:P d1 d2):∃ a b,D.tup [d1,d2]=.tup [a,b]∧P a b:=⟨d1,d2,rfl,h⟩
theorem Ql {P:D→D→D→Prop} (h:P d1 d2 d3):∃ a b e,D.tup [d1,d2,d3]=.tup [a,b,e]∧P a b e:=⟨d1,d2,d3,rfl,h⟩
theorem rV {i:Int} (n:Nat) (e:i=n) (h:∀ t u v,K (.obj (tY 0 n t u v)) O):Op c (fun vs=>call (.type "range") vs) [.int i] loc O K E:=by
 subst e;exact kO h
theorem eK (e:lk loc y=some (.stat (.ref a))) (u:Rem a (.list ds) O O'):Ag c loc ((y,.lst ds)::loc) O O':=fun H s R=>by
 obtain ⟨H',le,R',rd⟩:=R.freeze u;refine ⟨H',le,R'.t,⟨?_,fun z d e' k=>?_,R'.f.cs⟩,R'.o⟩
 ·obtain ⟨m,n,r⟩:=R'.f.ns;refine ⟨m,n,fun z d e' k=>?_⟩
  by_cases q:y=z
  ·subst q;rw [bv] at e';cases e';obtain ⟨v,p,w⟩:=r y _ e k
   cases w using ac.cStat
   exact ⟨_,p,rd⟩
  ·rw [Po q rfl] at e';exact r z d e' k
 ·by_cases q:y=z
  ·subst q;rw [bv] at e';cases e';obtain ⟨b,v,p,r,w⟩:=R'.f.cl y _ e k
   cases w using ac.cStat
   exact ⟨b,_,p,r,rd⟩
  ·rw [Po q rfl] at e';exact R'.f.cl z d e' k
end
end
section
section
open PySem.Builtin PySem.Builtin._codecs PySem.Builtin.Str
theorem yj (u:Tok):codecArg "str.encode" "encode" "'encoding'" (some (.str (S "utf-8") u))=pure (some (S "utf-8")):=by kernel_rfl
theorem Ef (x:Str) (t u:Tok):«str.encode» ⟨[.str x t,.str (S "utf-8") u],[]⟩=(do
  let encoding ← codecArg "str.encode" "encode" "'encoding'" (some (.str (S "utf-8") u))
  let errors ← codecArg "str.encode" "encode" "'errors'" .none
  ret (← encodeRoad "str.encode" (.str x t) x (encoding.getD "utf-8") errors)):=by rfl
theorem Be {x:Str} {b:Array UInt8} (he:∀ t,encodeNarrow "str.encode" utf8Codec .none (.str x t) x=pure b) (hb:b.size≤100) :
  Meets («str.encode» ⟨[.str x t,.str (S "utf-8") u],[]⟩) (fun _ R s=>R (.ok (.ret (.bytes b s.toks))) {s with toks:=s.toks+1}):=.of_wp fun prog w A R s h=>by
 rw [Ef,yj];refine (?_:wpAny _ _ (encodeRoad "str.encode" (.str x t) x (S "utf-8") .none>>=fun r=>ret r) _ _ s);rw [encodeRoad_utf8,he];refine wpAny_bind (wpAny_bind (wpAny_pure (wpAny_mkBytes ?_ (by rw [sizeLine_eq];lia))));exact Wp ⟨_,rfl,h⟩
variable {K:D→Own→Prop}
theorem AX {x:Str} (h:KM (.builtin "str.encode") [.str x] O):Mine.GM c "encode" (.str x) loc O KM E:=fun pl H s Q v R rd q=>by
 cases rd using ac.cStr
 with_reducible exact PySem.GM.of (.str x _) (typeIs_str _ _ _) F.slot_str_encode F.type_str_encode PySem.GM.noRef (q _ _ _ _ _ _ h R (Pr _) (.one (.str _ _)))
theorem AN {x:Str} (l:List UInt8) (he:∀ t,encodeNarrow "str.encode" utf8Codec .none (.str x t) x=pure l.toArray) (hb:l.length≤100) (h:K (.bytes l) O):Op c (fun vs=>call (.builtin "str.encode") vs) [.str x,.str (S "utf-8")] loc O K E:=fun H s Q vs R rs q=>by
 refine ay rs fun v w a b=>?_
 cases a using ac.cStr;cases b using ac.cStr
 exact call_meets F.slot_str_encode (typeIs_str _ _ _) F.entry_str_encode (F.args_str_encode_2 _ _) (Be he (by simpa using hb)) (q _ _ _ _ _ h (R.tok _) (Pr _) (.bytes _ _))
end
section
variable {K:D→Own→Prop} {value j7:PySem.Expr}
theorem gf {j:Nat} (so:dE j7) (hz:ds.length≤sizeLine) (h:K (.lst (ds.take j)) O):Op c (gv value j7) [.lst ds,.obj (sl2 .none (.int j u))] loc O K E:=fun H s Q vs R rs q=>by
 refine ay rs fun v w a b=>?_;refine bK (dQ R.t.hH a) fun aa va na q1 q2=>?_;obtain rfl:=q1;obtain ⟨ea,ra⟩:=q2
 cases b using ac.cObj
 rename_i sa eb;have hb:=R.t.hH _ _ eb;obtain ⟨ops,hs⟩:=so (.ref aa) (.ref sa);refine tail_any (isl ea).typeIs slot_list_getitem.lookup (wpAny_getItem_list_slice (lo:=.none) (hi:=some (j:Int)) (st:=.none) (isl ea) ⟨_,hb,rfl,rfl⟩ .none (.int j u) .none (by simp) ?_ (by rw [List.size_toArray,ra.length];exact hz)) hs;rw [slicePick_upto'];obtain ⟨R',le⟩:=R.push {cls:=.type "list",data:=.seq (va.take j).toArray} s.toks;exact q _ _ _ _ _ h R' le (.lst Ph ((ra.take j).mono le))
end
end
section
noncomputable def gw (e:PySem.Expr):Bool:=!Nat.beq e.ctorIdx 22
theorem j8 (h:gw e=true):starEach (e::es) env=(false,eval e env)::starEach es env:=by
 cases e<;>first|rfl|exact (Bool.false_ne_true h).elim
theorem fW {p:Pos} {env:Env}:∀ {es:List PySem.Expr} (h:es.all gw=true),(backTo p (starEach es env)).any (·.1)=false
 |[],_=>rfl
 |e::es,h=>by
  rw [List.all_cons,Bool.and_eq_true] at h;have ih:=fW (p:=p) (env:=env) h.2;rw [j8 h.1]
  have k:∀ l:List (Bool×Sem Value),(backTo p l).any (·.1)=l.any (·.1):=by
   intro l
   induction l with
   |nil=>rfl
   |cons q l ih =>
    cases l with
    |nil=>rfl
    |cons q' l=>first|(simp only [backTo,List.any_cons] at ih ⊢;rw [ih])|simp_all [backTo]
  rw [k] at ih ⊢;rw [List.any_cons,ih]
  rfl
noncomputable def Cq (e:PySem.Expr):Bool:=!(Nat.beq e.ctorIdx 0||Nat.beq e.ctorIdx 3||Nat.beq e.ctorIdx 5||Nat.beq e.ctorIdx 15)
theorem wQ (h:Cq e=true):∀ whole,PySem.isTrue e env whole=(do let v ← whole;standAt e.pos;holding [v] (truthy v)):=by
 intro whole
 cases e<;>first|rfl|exact (Bool.false_ne_true h).elim
noncomputable def gV (e:PySem.Expr):Bool:=!(Nat.ble 8 e.ctorIdx&&Nat.ble e.ctorIdx 10)
theorem gF {t:Option PySem.Expr} (h:gV value=true):swapsWith value t n env=pure false:=by
 cases value<;>first|rfl|exact (Bool.false_ne_true h).elim
noncomputable def jq (e:PySem.Expr):Bool:=!Nat.beq e.ctorIdx 7
theorem fK (h:jq e=true):∀ x,foldedSetIterable e env x=pure x:=by
 intro x
 cases e<;>first|rfl|exact (Bool.false_ne_true h).elim
theorem tC (h:jq e=true):behindInMarks op e=false:=by
 cases e<;>first|rfl|exact (Bool.false_ne_true h).elim
noncomputable def Cr (e:PySem.Expr):Bool:=Nat.ble 19 e.ctorIdx&&Nat.ble e.ctorIdx 23&&!Nat.beq e.ctorIdx 22
theorem BC (o:PySem.Expr) (ho:Cr o=true) (name:Str) (p:Pos) (env:Env):eval (.Attribute o name p) env=(do
   let ov ← eval o env
   standAt p.atName
   let r ← holding [ov] (getAttr ov name true)
   letTemporaryGo o ov r
   pure r):=by
 cases o<;>first|exact (Bool.false_ne_true ho).elim|rfl
theorem Ar (h:gV value=true):swapsWithSole [.Tuple elts k tpos] value n env=pure false:=by
 cases value<;>first|rfl|exact (Bool.false_ne_true h).elim
noncomputable def HY (e:PySem.Expr):Bool:=!Nat.beq e.ctorIdx 25
theorem Aq (h:HY value=true):swappedStores [.Tuple elts k tpos] value env=pure .none:=by
 cases value<;>first|rfl|exact (Bool.false_ne_true h).elim
section
variable {K:D→Own→Prop}
def yM (x:Cx) (f:D) (KC:Value→Prop):Prop:=∃ v,f=.stat v∧nq x v∧KC v
abbrev Kw (c:Cc) (p:Pos) (args:List PySem.Expr) (loc:Loc) (O₁:Own) (K:D→Own→Prop) (E:Value→Shared→Prop):Value→Prop:=fun v=>Evs c p args loc O₁ (Dt c v loc K E) E
abbrev Kv (c:Cc) (p:Pos) (args:List PySem.Expr) (loc:Loc) (K:D→Own→Prop) (E:Value→Shared→Prop):D→Own→Prop:=fun f O₁=>yM c.x f (Kw c p args loc O₁ K E)
theorem Qf {v:Value} {KC:Value→Prop} (kp:nq x v) (h:KC v):yM x (.stat v) KC:=⟨v,rfl,kp,h⟩
theorem Qp {p0 args p} (hp:args.all gw=true) (h:Ev c (.Name y p0) loc O (Kv c p args loc K E) E):Ev c (.Call (.Name y p0) args [] p) loc O K E:=Hm h (fW hp)
theorem JG {o:PySem.Expr} {apos p:Pos} {pl:Sem Bool} (he:eval (.Call (.Attribute o name apos) args [] p) c.env=(do
   let ov ← eval o c.env
   standAt apos.atName
   let (f,first) ← holding [ov] (getMethod ov name pl)
   callWith p f first (backTo p (starEach args c.env)) (backToKw p (keywordEach [] c.env)))) (hp:args.all gw=true)
  (h:Ev c o loc O (Jf c name p args loc K E) E):Ev c (.Call (.Attribute o name apos) args [] p) loc O K E:=Hi h he (fW hp)
theorem BM {o:PySem.Expr} {p:Pos} (ho:Cr o=true) (h:Ev c o loc O (Jh c name loc K E) E):Ev c (.Attribute o name p) loc O K E:=uo h (BC o ho name p c.env)
theorem QI {l op r p} (hb:jq r=true) (h:Ev c l loc O (Dr c op r loc K E) E):Ev c (.Compare l [op] [r] p) loc O K E:=K6 h (tC hb)
theorem JF {l op r p} (hb:jq r=true) (h:Ev c l loc O (Dr c op r loc (Dp c loc KB E) E) E):Tst c (.Compare l [op] [r] p) loc O KB E:=yY h (tC hb)
theorem Qk (hw:Cq e=true) (h:Ev c e loc O (Dp c loc KB E) E):Tst c e loc O KB E:=E8 h (wQ hw)
theorem uV {KL:List D→Own→Prop} {p e es} (hs:gw e=true) (h:Ev c e loc O (Mt c p es loc KL E) E):Evs c p (e::es) loc O KL E:=wd h (j8 hs)
theorem Qn {e p} (hi:interactive c.env=false) (hs:gV e=true) (h:Ev c e loc O (Dq loc KF) E):Ex c (.Expr e p) loc O KF E:=Hg h hi (gF hs)
theorem bn {p' e p} (hs:gV e=true) (h:Ev c e loc O (GC c y loc KF E) E):Ex c (.Assign [.Name y p'] e p) loc O KF E:=Ba h (gF hs)
theorem Qo (ok:dw c.env scope) (hs:jq iter=true)
  (h:Ev c iter loc O (fun d O₁=>∃ ds I,dn c d ds∧nu c loc O₁ scope target elt ifs ds I∧∀ acc O2,I ds.length acc O2→K (.lst acc) O2) E):Ev c (.ListComp elt [⟨target,iter,ifs,0⟩] scope pos) loc O K E:=Hk ok h (fK hs)
theorem BN (hs:gV value=true) (hw:HY value=true)
  (h:Ev c value loc O (Mf c elts k tpos loc KF) E):Ex c (.Assign [.Tuple elts k tpos] value pos) loc O KF E:=rn (Ar hs) (Aq hw) h
theorem uU {target iter body orelse p} (I:Nat→Loc→Own→Prop) (hh:c.A.handled=.none) (hs:jq iter=true)
  (h:Ev c iter loc O (vX c target body orelse I loc KF) E):Ex c (.For target iter body orelse p) loc O KF E:=ul I hh h (fK hs)
end
end
noncomputable def N5:FuncData:=zn (bu 5) "has_gzip" 0 81 yg
noncomputable def DT:FuncData:=zn (bu 13) "gzip_decode" 0 196 (zs "kafka.outside" 548)
noncomputable def M7:FuncData:=zn (bu 34) "decode_varint" 378 384 (zs "kafka.record.util" 1075)
noncomputable def Jr:FuncData:=zn (ak 43 18) "LegacyRecordBase._assert_has_codec" 0 430 ya
noncomputable def Jq:FuncData:=zn (ak 44 0) "LegacyRecordBatch.__init__" 0 451 ya
noncomputable def M6:FuncData:=zn (ak 44 1) "LegacyRecordBatch.base_offset" 0 458 ya
noncomputable def M5:FuncData:=zn (ak 44 2) "LegacyRecordBatch.size_in_bytes" 0 466 ya
noncomputable def M4:FuncData:=zn (ak 44 3) "LegacyRecordBatch.timestamp_type" 0 474 ya
noncomputable def M3:FuncData:=zn (ak 44 4) "LegacyRecordBatch.compression_type" 0 482 ya
noncomputable def M2:FuncData:=zn (ak 44 5) "LegacyRecordBatch.magic" 0 490 ya
noncomputable def ti:FuncData:=zn (ak 44 7) "LegacyRecordBatch._decompress" 0 505 ya
noncomputable def Jp:FuncData:=zn (ak 44 8) "LegacyRecordBatch._read_header" 0 512 ya
noncomputable def Jo:FuncData:=zn (ak 44 9) "LegacyRecordBatch._read_all_headers" 0 519 ya
noncomputable def wc:FuncData:=zn (ak 44 10) "LegacyRecordBatch._read_key_value" 0 526 ya
noncomputable def MZ:FuncData:=zn (ak 44 11) "LegacyRecordBatch._crc_bytes" 0 533 ya
noncomputable def ar:FuncData:=zn (ak 44 12) "LegacyRecordBatch.__iter__" 0 540 ya
noncomputable def MY:FuncData:=zn (ak 45 0) "LegacyRecord.__init__" 0 559 ya
noncomputable def MX:FuncData:=zn (ak 45 2) "LegacyRecord.offset" 0 574 ya
noncomputable def MW:FuncData:=zn (ak 45 3) "LegacyRecord.timestamp" 0 582 ya
noncomputable def MV:FuncData:=zn (ak 45 5) "LegacyRecord.key" 0 598 ya
noncomputable def MU:FuncData:=zn (ak 45 6) "LegacyRecord.value" 0 606 ya
noncomputable def MT:FuncData:=zn (ak 45 7) "LegacyRecord.headers" 0 614 ya
noncomputable def Jn:FuncData:=zn (ak 49 18) "DefaultRecordBase._assert_has_codec" 0 819 yb
noncomputable def Jm:FuncData:=zn (ak 50 0) "DefaultRecordBatch.__init__" 0 840 yb
noncomputable def MS:FuncData:=zn (ak 50 1) "DefaultRecordBatch.base_offset" 0 847 yb
noncomputable def MR:FuncData:=zn (ak 50 2) "DefaultRecordBatch.size_in_bytes" 0 855 yb
noncomputable def MQ:FuncData:=zn (ak 50 4) "DefaultRecordBatch.magic" 0 871 yb
noncomputable def MP:FuncData:=zn (ak 50 6) "DefaultRecordBatch.attributes" 0 887 yb
noncomputable def Jl:FuncData:=zn (ak 50 10) "DefaultRecordBatch.compression_type" 0 919 yb
noncomputable def Jk:FuncData:=zn (ak 50 11) "DefaultRecordBatch.timestamp_type" 0 927 yb
noncomputable def Jj:FuncData:=zn (ak 50 13) "DefaultRecordBatch.is_control_batch" 0 943 yb
noncomputable def MO:FuncData:=zn (ak 50 14) "DefaultRecordBatch.first_timestamp" 0 951 yb
noncomputable def MN:FuncData:=zn (ak 50 15) "DefaultRecordBatch.max_timestamp" 0 959 yb
noncomputable def D3:FuncData:=zn (ak 50 24) "DefaultRecordBatch._maybe_uncompress" 0 1029 yb
noncomputable def fS:FuncData:=zn (ak 50 25) "DefaultRecordBatch._read_msg" 1031 1037 yb
noncomputable def D2:FuncData:=zn (ak 50 26) "DefaultRecordBatch.__iter__" 0 1044 yb
noncomputable def m5:FuncData:=zn (ak 50 27) "DefaultRecordBatch.__next__" 0 1051 yb
noncomputable def K4:FuncData:=zn (ak 51 0) "DefaultRecord.__init__" 0 1084 yb
noncomputable def K3:FuncData:=zn (ak 51 2) "DefaultRecord.offset" 0 1099 yb
noncomputable def K2:FuncData:=zn (ak 51 3) "DefaultRecord.timestamp" 0 1107 yb
noncomputable def K1:FuncData:=zn (ak 51 5) "DefaultRecord.key" 0 1123 yb
noncomputable def K0:FuncData:=zn (ak 51 6) "DefaultRecord.value" 0 1131 yb
noncomputable def KZ:FuncData:=zn (ak 51 7) "DefaultRecord.headers" 0 1139 yb
noncomputable def b9:FuncData:=bf (ak 52 1) (S "ControlRecord.__init__") .none (.ref 1184) (.str (S "kafka.record.default_records") 1751) [((S "__class__"),1172)] (.ref 1178)
noncomputable def KY:FuncData:=zn (ak 52 2) "ControlRecord.version" 0 1191 yb
noncomputable def KW:FuncData:=zn (ak 52 4) "ControlRecord.abort" 0 1207 yb
noncomputable def KV:FuncData:=zn (ak 52 5) "ControlRecord.commit" 0 1215 yb
noncomputable def D1:FuncData:=zn (ak 54 4) "MemoryRecords.__init__" 0 1242 yf
noncomputable def KU:FuncData:=zn (ak 54 5) "MemoryRecords.size_in_bytes" 0 1249 yf
noncomputable def xQ:FuncData:=zn (ak 54 6) "MemoryRecords.valid_bytes" 0 1256 yf
noncomputable def D0:FuncData:=zn (ak 54 7) "MemoryRecords._cache_next" 1258 1264 yf
noncomputable def KT:FuncData:=zn (ak 54 8) "MemoryRecords.has_next" 0 1271 yf
noncomputable def m4:FuncData:=zn (ak 54 9) "MemoryRecords.next_batch" 1273 1279 yf
noncomputable def KR:FuncData:=zn (ak 54 10) "MemoryRecords.__iter__" 0 1286 yf
noncomputable def qx:FuncData:=zn (ak 54 11) "MemoryRecords.__next__" 0 1293 yf
noncomputable def KQ:FuncData:=zn (bu 56) "_law_times" 0 1305 ye
noncomputable def KP:FuncData:=zn (bu 57) "_law_fixed" 0 1310 ye
noncomputable def KN:FuncData:=zn (bu 58) "_law_number" 0 1317 ye
noncomputable def DZ:FuncData:=zn (bu 59) "_law_data" 0 1324 ye
noncomputable def KJ:FuncData:=zn (bu 60) "_law_piece" 0 1331 ye
noncomputable def m3:FuncData:=zn (bu 61) "_law_squeezed" 0 1336 ye
noncomputable def DY:FuncData:=zn (bu 62) "_law_batch" 0 1343 ye
noncomputable def DX:FuncData:=zn (bu 63) "_law_head" 0 1350 ye
noncomputable def DW:FuncData:=zn (bu 64) "_law_markers" 0 1357 ye
noncomputable def DV:FuncData:=zn (bu 65) "_law_message" 0 1364 ye
noncomputable def DU:FuncData:=zn (bu 66) "_law_old" 0 1371 ye
noncomputable def kv:FuncData:=zn (bu 67) "_law_records" 0 1376 ye
noncomputable def aG:FuncData:=zn (bu 68) "law" 0 1381 ye
section
theorem xu (its:Array Value) (n k:Nat) (v:Value):∃ n',Obj.mapSeq (·.setIfInBounds k v) ⟨.type "list",.none,.seq its n,#[]⟩=⟨.type "list",.none,.seq (its.setIfInBounds k v) n',#[]⟩:=by
 skip;exact ⟨_,rfl⟩
theorem re {l:Addr} {items:Array Value} {k:Int} {v:Value} (ho:s.heap.get? l=some ⟨.type "list",.none,.seq items n,#[]⟩)
  (h0:0≤k) (hfit:k<2^63) (hn:k<items.size)
  (hQ:∀ h' n',h'.get? l=some ⟨.type "list",.none,.seq (items.setIfInBounds k.toNat v) n',#[]⟩→Heap.SameBut l s.heap h'→Q () {s with heap:=h'}) :
  wpAny (model prog w) A (setItem (.ref l) (.int k t) v) Q E s:=by
 have hl:s.heap.IsList l items:=⟨_,ho,rfl,n,rfl⟩;have hd:(⟨.type "list",.none,.seq items n,#[]⟩:Obj).data=.seq items n:=rfl;unfold setItem
 try with_reducible refine Wh ?_
 first|refine Wb (Wp ?_)|skip
 refine Wb (wpAny_sequenceKey hl.typeIs (by decide) ?_)
 refine Wb (wpAny_callSpecial?_slot (name:=Str.ofString "__setitem__") hl.typeIs slot_list_setitem
  (wpAny_call_entry slot_list_setitem hl.typeIs entry_list_setitem ?_ (args_list_setitem _ _ _)))
 refine (?_:wpAny _ _ (Builtin.List.listSubscript? (.int k t)>>=_) _ _ s);refine Wb (wpAny_listSubscript_int (fitsIndex_of h0 hfit) ?_);clear hfit;obtain ⟨j,rfl⟩:=Int.eq_ofNat_of_zero_le h0;have hj:j<items.size:=by lia
 have hx':items[j]? = some items[j]:=Array.getElem?_eq_getElem hj;refine (?_:wpAny _ _ ((seqItemAt l j>>=fun r=>pure (r.map (j,·)))>>=_) _ _ s);refine Wb (Wb (wpAny_seqItemAt ho hd (Wp ?_)));rw [hx'];refine (?_:wpAny _ _ (setSeqItemAt l j v>>=_) _ _ s);obtain ⟨n',hd'⟩:=xu items n j v
 have qo:(s.heap.update l (Obj.mapSeq (·.setIfInBounds j v))).get? l=some ⟨.type "list",.none,.seq (items.setIfInBounds j v) n',#[]⟩:=by
  rw [Heap.get?_update_self _ ho (by rw [hd'];rfl),hd']
 refine Wb (wpAny_setSeqItemAt ho hd ?_)
 first
  |exact Wb (Wp (Wp ⟨.none,rfl,Wp (hQ _ _ qo (Heap.SameBut.update ..))⟩))
  |exact Wp ⟨.none,rfl,Wp (hQ _ _ qo (Heap.SameBut.update ..))⟩
theorem af.set {vs ds} (rs:af H vs ds) (k:Nat) {v d} (r:ac H v d):af H (vs.set k v) (ds.set k d) :=
 rs.rec1 (m:=fun vs ds=>∀ k,af H (vs.set k v) (ds.set k d)) (fun _=>.nil) (fun _ _ _ _ a b ih k=>by
  cases k with
  |zero=>exact .cons r b
  |succ k=>exact .cons a (ih k)) k
theorem A9 {o i:PySem.Expr} (ha:∀ ov iv new,augStore i ov iv new=(do holding [new,ov,iv] (setItem ov iv new);release [new,ov,iv] [];pure .next))
  (h:Ev c o loc O (fun d O₁=>Ev c i loc O₁ (fun e O2=>∃ a ds k old,d=.stat (.ref a)∧e=.int k∧0≤k∧k<2^63∧(a,SO.list ds)∈O2∧ds[k.toNat]? = some old ∧
   Ev c value loc O2 (fun v O3=>Op c (fun vs=>inplaceOp op (vs.headD .none) (vs.tail.headD .none)) [old,v] loc O3 (fun r O4=>∃ ds' O5,Upd a (.list ds') (.list (ds'.set k.toNat r)) O4 O5∧k.toNat<ds'.length∧KF .next loc O5) E) E) E) E) :
  Ex c (.AugAssign (.Subscript o i pos') op value pos) loc O KF E:=fun H s Q R q=>by
 refine PyProof.Rows.wpAny_AugAssign_Subscript_any (h H s _ R fun H₁ sA ov d O₁ h_1 R1 le1 rA=>h_1 H₁ sA _ R1 fun HB s2 iv e O2 h_2 R2 le2 rB=>?_) ha;obtain ⟨a,ds,k,old,rfl,rfl,k0,k1,m,ho,h_2⟩:=h_2
 cases rA using ac.cStat
 cases rB using ac.cInt
 obtain ⟨vs,n,ea,ra⟩:=jk R2 m;obtain ⟨ovv,eo,ro⟩:=ra.get ho;refine wpAny_getItem_list (isl ea) k0 k1 (x:=ovv) (by simpa using eo) ?_;refine h_2 HB s2 _ R2 fun H3 s3 v dv O3 h_3 R3 le3 rC=>h_3 H3 s3 _ [ovv,v] R3 (.two (ro.mono le3) rC) fun H4 s4 r dr O4 h_4 R4 le4 r4=>?_;obtain ⟨ds',O5,u,hk,kf⟩:=h_4;obtain ⟨vs',n',ea',ra'⟩:=jk R4 u.mem;refine re ea' k0 k1 (by rw [List.size_toArray,ra'.length];lia) fun h' nn hl hs=>?_;have R5:=R4.upd (s':={s4 with heap:=h'}) u hs ⟨vs'.set k.toNat r,nn,by rw [hl];simp,ra'.set _ r4⟩;exact q _ _ _ _ _ _ kf R5 (Pt le1 (Pt le2 (Pt le3 le4))) .next
section
variable {K:D→Own→Prop}
theorem d0 {i j:Int} (h:K (.int (i+j)) O):Op c (fun vs=>inplaceOp .Add (vs.headD .none) (vs.tail.headD .none)) [.int i,.int j] loc O K E:=fun H s Q vs R rs q=>by
 refine ay rs fun v u a b=>?_
 cases a using ac.cInt;cases b using ac.cInt
 exact iadd_int (q _ _ _ _ _ h (R.tok _) (Pr _) (.int _ _))
theorem FP {i j:Int} (h:K (.int (i-j)) O):Op c (fun vs=>inplaceOp .Sub (vs.headD .none) (vs.tail.headD .none)) [.int i,.int j] loc O K E:=fun H s Q vs R rs q=>by
 refine ay rs fun v u a b=>?_
 cases a using ac.cInt;cases b using ac.cInt
 exact isub_int (q _ _ _ _ _ h (R.tok _) (Pr _) (.int _ _))
theorem FQ {i j:Int} (h:K (.int (Builtin.bitAnd i j)) O):Op c (fun vs=>inplaceOp .BitAnd (vs.headD .none) (vs.tail.headD .none)) [.int i,.int j] loc O K E:=fun H s Q vs R rs q=>by
 refine ay rs fun v u a b=>?_
 cases a using ac.cInt;cases b using ac.cInt
 exact iand_int (q _ _ _ _ _ h (R.tok _) (Pr _) (.int _ _))
theorem Kd {i j:Int} (h:K (.int (Builtin.bitOr i j)) O):Op c (fun vs=>inplaceOp .BitOr (vs.headD .none) (vs.tail.headD .none)) [.int i,.int j] loc O K E:=fun H s Q vs R rs q=>by
 refine ay rs fun v u a b=>?_
 cases a using ac.cInt;cases b using ac.cInt
 exact ior_int (q _ _ _ _ _ h (R.tok _) (Pr _) (.int _ _))
end
theorem wq (I:Nat→Shared→Prop)
  (turn:∀ n s,I n s→wpAny (model prog w) A (pyNext it) (fun r sA=>match r with
   |.none=>R (.ok .next) sA
   |some v=>wpAny (model prog w) A (letOwnedTupleGo t1 it v) (fun _ sA=>wpAny (model prog w) A (assign t1 env v) (fun _ s2 =>
     wpAny (model prog w) A (eval elt env) (fun x s4 =>
       wpAny (model prog w) A (call (.builtin "list.append") [acc,x]) (fun _ s5=>∃ m,m<n∧I m s5) (fun _ _=>False) s4) (fun _ _=>False) s2) (fun _ _=>False) sA) (fun _ _=>False) sA) (fun _ _=>False) s)
  (n:Nat) (h:I n s) :
  codeAny (model prog w) A (.compLoop (.ListComp elt [⟨t0,i0,[],0⟩,⟨t1,i1,[],0⟩] scope pos) 1 it acc env) R s:=by
 refine codeAny_loop rfl I (fun n s hI=>?_) n h;refine (?_:wpAny _ A ((compTurn (.ListComp elt [⟨t0,i0,[],0⟩,⟨t1,i1,[],0⟩] scope pos) 1 it acc env).onRaise (fun x=>do noteFrame x env;theTreesLotGoes x)) _ _ s);refine wpAny_noted ?_
 rw [show compTurn (.ListComp elt [⟨t0,i0,[],0⟩,⟨t1,i1,[],0⟩] scope pos) 1 it acc env=(standAt i1.pos>>=fun _=>pyNext it>>=fun r=>match r with
   |none=>pure (.done .next)
   |some v=>letOwnedTupleGo t1 it v>>=fun _=>assign t1 env v>>=fun _ =>
    (eval elt env>>=fun x=>call (.builtin "list.append") [acc,x]>>=fun _=>pure ())>>=fun _ =>
     again (.compLoop (.ListComp elt [⟨t0,i0,[],0⟩,⟨t1,i1,[],0⟩] scope pos) 1 it acc env)) from rfl]
 refine Wb (Ws (Wb (Wm (turn n s hI) (fun r sA h_1=>?_) fun _ _ h'=>h'.elim)))
 cases r with
 |none=>exact Wp h_1
 |some v =>
  refine Wb (Wm h_1 (fun _ sA h_1=>?_) fun _ _ h'=>h'.elim);refine Wb (Wm h_1 (fun _ s2 h_2=>?_) fun _ _ h'=>h'.elim);exact Wb (Wb (Wm h_2 (fun x s4 h_4=>Wb (Wm h_4 (fun _ s5 h_5=>Wp (Wp ⟨rfl,h_5⟩)) fun _ _ h'=>h'.elim)) fun _ _ h'=>h'.elim))
theorem wn (I:Nat→Shared→Prop) (hs:jq i1=true)
  (turn:∀ n s,I n s→wpAny (model prog w) A (pyNext it) (fun r sA=>match r with
   |.none=>R (.ok .next) sA
   |some v=>wpAny (model prog w) A (letOwnedTupleGo t0 it v) (fun _ sA=>wpAny (model prog w) A (assign t0 env v) (fun _ s2 =>
     wpAny (model prog w) A (eval i1 env) (fun x s3=>wpAny (model prog w) A (pyIter x) (fun it1 s4 =>
      codeAny (model prog w) A (.compStart (.ListComp elt [⟨t0,i0,[],0⟩,⟨t1,i1,[],0⟩] scope pos) 1 it1 acc env) (fun r s5=>r=.ok .next∧∃ m,m<n∧I m s5) s4) (fun _ _=>False) s3) (fun _ _=>False) s2) (fun _ _=>False) sA) (fun _ _=>False) sA) (fun _ _=>False) s)
  (n:Nat) (h:I n s) :
  codeAny (model prog w) A (.compLoop (.ListComp elt [⟨t0,i0,[],0⟩,⟨t1,i1,[],0⟩] scope pos) 0 it acc env) R s:=by
 refine codeAny_loop rfl I (fun n s hI=>?_) n h;refine (?_:wpAny _ A ((compTurn (.ListComp elt [⟨t0,i0,[],0⟩,⟨t1,i1,[],0⟩] scope pos) 0 it acc env).onRaise (fun x=>do noteFrame x env;theTreesLotGoes x)) _ _ s);refine wpAny_noted ?_
 rw [show compTurn (.ListComp elt [⟨t0,i0,[],0⟩,⟨t1,i1,[],0⟩] scope pos) 0 it acc env=(standAt i0.pos>>=fun _=>pyNext it>>=fun r=>match r with
   |none=>pure (.done .next)
   |some v=>letOwnedTupleGo t0 it v>>=fun _=>assign t0 env v>>=fun _=>(eval i1 env>>=fun x=>standAt i1.pos>>=fun _=>foldedSetIterable i1 env x>>=fun x=>holding [x] (pyIter x)>>=fun it1 =>
     runOwn (.compStart (.ListComp elt [⟨t0,i0,[],0⟩,⟨t1,i1,[],0⟩] scope pos) 1 it1 acc env) env>>=fun _=>again (.compLoop (.ListComp elt [⟨t0,i0,[],0⟩,⟨t1,i1,[],0⟩] scope pos) 0 it acc env))) from rfl]
 refine Wb (Ws (Wb (Wm (turn n s hI) (fun r sA h_1=>?_) fun _ _ h'=>h'.elim)))
 cases r with
 |none=>exact Wp h_1
 |some v =>
  refine Wb (Wm h_1 (fun _ sA h_1=>?_) fun _ _ h'=>h'.elim);refine Wb (Wm h_1 (fun _ s2 h_2=>?_) fun _ _ h'=>h'.elim);refine Wb (Wm h_2 (fun x s3 h_3=>Wb (Ws ?_)) fun _ _ h'=>h'.elim);refine Wb (Wq (fK hs x) ?_);refine Wb (Wh (Wm h_3 (fun it1 s4 h_4=>?_) fun _ _ h'=>h'.elim));refine Wb (wpAny_runOwn (codeAny_mono h_4 fun r s5 h_5=>?_));obtain ⟨rfl,h_5⟩:=h_5;exact Wp ⟨rfl,h_5⟩
end
section
theorem Pass.conv {A it ds H At} (p:Pass x A it ds H At) (hp:x'.prog=x.prog) (hw:x'.w=x.w):Pass x' A it ds H At where
 same:=p.same
 there:=p.there
 item:=by rw [hp,hw];exact p.item
 stop:=by rw [hp,hw];exact p.stop
 self:=by rw [hp,hw];exact p.self
 go:=by rw [hp,hw];exact p.go
section
variable {K:D→Own→Prop}
def E4 (x₀:Cx) (aD aC it1:Addr) (flat es:List D) (H₁:PM) (O:Own) (At:Nat→Heap→Prop) (n:Nat) (s:Shared):Prop :=
 ∃ j H',n=es.length+1-j∧j≤es.length∧H₁≤H'∧bV x₀ aD aC (flat++es.take j) H' O s∧At j s.heap∧H' it1=.none
theorem Eu (le:(outer c s0.heap).le x₀)
  (ok:dw c.env scope) (hfe:ey (compEnvC scope (bL c.env scope.names []) aC c.env)) (hk1:Env.kindOf (compEnvC scope (bL c.env scope.names []) aC c.env) y1=some .local) (hd1:(y1==("__debug__":Str))=false)
  (R:ag c H loc O s0) (ps:Pass x₀ c.A it1 es H₁ At) (pD:x₀.P aD=.none) (pC:x₀.P aC=.none) (ne:aD≠aC) (p1:x₀.P it1=.none) (dI:aD≠it1) (cI:aC≠it1) (hz:flat.length+es.length≤sizeLine) (leH:H≤H₁)
  (k:bV x₀ aD aC flat H₁ O sA) (at0:At 0 sA.heap) (h1:H₁ it1=.none) (o1:∀ p∈O,p.1≠it1)
  (q:∀ HB s2,bV x₀ aD aC (flat++es) HB O s2→H₁≤HB→R' (.ok .next) s2) :
  codeAny c.M c.A (.compLoop (.ListComp (.Name y1 p1') [⟨.Name y0 p0,i0,[],0⟩,⟨.Name y1 q1,.Name y0 p0',[],0⟩] scope pos) 1 (.ref it1) (.ref aD) (compEnvC scope (bL c.env scope.names []) aC c.env)) R' sA:=by
 have hM:model x₀.prog x₀.w=c.M:=by rw [le.1.1];rfl
 refine wq (E4 x₀ aD aC it1 flat es H₁ O At) (fun n s hI=>?_) (es.length+1) ⟨0,H₁,rfl,Nat.zero_le _,Pr _,by simpa using k,at0,h1⟩;refine tp hI fun j H3 hn hj le3 kC at3 hit=>?_;subst hn;have old:∀ a o,H₁ a=some o→s.heap.get? a=some o:=fun a o e=>kC.T.hH _ _ (le3 _ _ e)
 by_cases hlt:j<es.length
 ·have hd:es[j]? = some es[j]:=List.getElem?_eq_getElem hlt;generalize es[j]=d at hd;have it':=ps.item j d s;rw [hM] at it';refine it' _ _ hd at3 old fun h' tk v at' sb rd=>?_;have go':=ps.go;rw [hM] at go';refine go' _ (j+1) _ _ _ _ at' ?_;obtain ⟨oI,eI⟩:=ps.there _ _ at';have k4:=(kC.moved (s':={s with heap:=h',toks:=tk}) hit p1 o1 dI cI fun b ob hb e=>(sb.2 b hb).trans e).fix hit o1 dI eI;refine al (k4.turn ok R (le.trans (Cx.fix_le p1)) (Pt leH le3) ((Cx.fix_ne dI).trans pD) ((Cx.fix_ne cI).trans pC) ne) fun ob F back=>?_;generalize hx:(x₀.fix it1 oI).fix aD ob=x' at F back;have hM':(bC c scope aC x').M=c.M:=by rw [← hx];exact hM
  have z:St (bC c scope aC x') (storeName (bC c scope aC x').env y1) d (cU scope.names loc) O (fun l' O'=>l'=(y1,d)::cU scope.names loc∧O'=O) NoE:=wX ⟨rfl,rfl⟩ hfe hk1;have z':=z H3 _ (Q:=fun _ s'=>∃ H' ,ag (bC c scope aC x') H' ((y1,d)::cU scope.names loc) O s'∧H3≤H') v F (rd.mono le3) (fun H' s' l' O' k R9 le9=>by rw [k.1,k.2] at R9;exact ⟨H',R9,le9⟩);rw [hM'] at z';refine wpAny_assign_Name (Wm z' (fun _ s6 h_6=>?_) fun _ _ x=>x);refine al h_6 fun H6 R6 le6=>?_;have w:Ev (bC c scope aC x') (.Name y1 p1') ((y1,d)::cU scope.names loc) O (fun d' O'=>d'=d∧O'=O) NoE:=fT bv hfe hk1 ⟨rfl,rfl⟩ hd1;have w':=w H6 s6 (Q:=fun v s'=>∃ H',ag (bC c scope aC x') H' ((y1,d)::cU scope.names loc) O s'∧H6≤H'∧ac H' v d) R6 (fun H' s' v d' O' k R9 le9 rd9=>by rw [k.2] at R9;rw [k.1] at rd9;exact ⟨H',R9,le9,rd9⟩);rw [hM'] at w';refine Wm w' (fun u s7 hG=>?_) fun _ _ x=>x;refine dX hG fun H7 R7 le7 ru=>?_;have qG:=(back H7 O s7 _ R7 (Pt le6 le7)).unfix p1
  have ap:=qG.1.app (A:=c.A) (E:=fun _ _=>False) (Q:=fun _ s5=>∃ m,m<es.length+1-j∧E4 x₀ aD aC it1 flat es H₁ O At m s5) ne ru (by rw [List.length_append,List.length_take];lia) fun h_8 k8 hs =>
   ⟨es.length+1-(j+1),tN hlt,j+1,H7,rfl,hlt,Pt le3 (Pt le6 le7),by rw [List.take_add_one,hd];simpa using k8,ps.same _ _ _ (ps.same _ _ _ at' (qG.2.1.trans eI.symm)) (hs.2 it1 (Ne.symm dI)),qG.2.2.1⟩
  rw [hM] at ap;exact ap
 ·obtain rfl:j=es.length:=Nat.le_antisymm hj (Nat.not_lt.mp hlt);have st':=ps.stop s;rw [hM] at st';refine st' _ _ at3 old fun h' xb=>?_;rw [List.take_of_length_le (Nat.le_refl _)] at kC;exact q H3 _ (kC.moved (s':={s with heap:=h'}) hit p1 o1 dI cI fun b ob hb e=>xb b ob hb e) le3
theorem x9
  (h0:codeAny (model prog w) A (.compLoop (.ListComp elt [⟨t0,i0,[],0⟩,⟨t1,i1,[],0⟩] scope pos) 1 it acc env) R s)
  (h:wpAny (model prog w) A (pyIter it) (fun it' s'=>codeAny (model prog w) A (.compLoop (.ListComp elt [⟨t0,i0,[],0⟩,⟨t1,i1,[],0⟩] scope pos) 1 it' acc env) R s') (fun _ _=>False) s) :
  codeAny (model prog w) A (.compStart (.ListComp elt [⟨t0,i0,[],0⟩,⟨t1,i1,[],0⟩] scope pos) 1 it acc env) R s:=by
 refine codeAny_of_tree ?_;refine (?_:wpAny _ _ ((compStart (.ListComp elt [⟨t0,i0,[],0⟩,⟨t1,i1,[],0⟩] scope pos) 1 it acc env).onRaise (fun x=>do noteFrame x env;standAt theWindowsPlace)) _ _ s);refine wpAny_notedAt ?_;skip;refine (?_:wpAny _ _ (ask>>=_) _ _ s);refine Wb (wpAny_askSetting (wpAny_ite ?_))
 split
 ·first
   |exact Wb (Wp (Wp (And.intro rfl h0)))
   |exact Wp (And.intro rfl h0)
 ·refine Wb (wpAny_rule ?_);refine (?_:wpAny _ _ (standAt i1.pos>>=_) _ _ s);exact Wb (Ws (Wb (Wm h (fun it' s' h'=>Wp (And.intro rfl h')) fun _ _ x=>x.elim)))
theorem tg {ess:List (List D)} (h:ess[i]? = some es):(ess.take (i+1)).flatten=(ess.take i).flatten++es:=by
 rw [List.take_add_one,h];simp
theorem Hc {ess:List (List D)}:(ess.take i).flatten.length≤ess.flatten.length:=by
 have:ess.flatten=(ess.take i).flatten++(ess.drop i).flatten:=by rw [← List.flatten_append,List.take_append_drop]
 rw [this,List.length_append];lia
def E3 (c:Cc) (s2:Shared) (aD aC it:Addr) (ess:List (List D)) (H₁:PM) (O₁:Own) (At:Nat→Heap→Prop) (n:Nat) (s:Shared):Prop :=
 ∃ i H',n=ess.length+1-i∧i≤ess.length∧H₁≤H'∧bV (outer c s2.heap) aD aC (ess.take i).flatten H' O₁ s∧At i s.heap∧H' it=.none
theorem Ea (ok:dw c.env scope) (hs:jq i0=true) (hh:c.A.handled=.none)
  (hfe:∀ C,ey (compEnvC scope (bL c.env scope.names []) C c.env)) (hk0:∀ C,(compEnvC scope (bL c.env scope.names []) C c.env).kindOf y0=some .local) (hk1:∀ C,(compEnvC scope (bL c.env scope.names []) C c.env).kindOf y1=some .local)
  (k1:scope.names.lookup y1=some .local) (hd0:(y0==("__debug__":Str))=false) (hd1:(y1==("__debug__":Str))=false)
  (h:Ev c i0 loc O (fun d O₁=>∃ ess:List (List D),d=.lst (ess.map .lst)∧ess.flatten.length≤sizeLine∧K (.lst ess.flatten) O₁) E) :
  Ev c (.ListComp (.Name y1 p1') [⟨.Name y0 p0,i0,[],0⟩,⟨.Name y1 q1,.Name y0 p0',[],0⟩] scope pos) loc O K E:=fun H s Q R q=>by
 rw [eval_ListComp];refine wpAny_comprehension_free (use:=.none) rfl (fK hs) (c8 ok.clos) ok.kind ok.loc (h H s _ R fun H₁ sA v d O₁ h_1 R1 le1 rA=>?_);refine al h_1 fun ess q1 q2=>?_;obtain rfl:=q1;obtain ⟨hz,hK⟩:=q2;refine cC hh loc O₁ H₁ sA v _ _ R1 rA fun o At hf ps at0=>?_;have aw:=R1.fresh;generalize hit:sA.heap.objs.size=it at ps at0 aw ⊢;have R2:ag c H₁ loc O₁ {sA with heap:=sA.heap.push o}:=R1.keeps (s':={sA with heap:=sA.heap.push o}) fun b ob e=>Hp _ e;generalize hs2:({sA with heap:=sA.heap.push o}:Shared)=s2 at R2 ⊢;have at0:At 0 s2.heap:=by rw [← hs2];exact at0
 clear hf hs2 hit;obtain ⟨oI0,eI0⟩:=ps.there _ _ at0;have pI:(outer c s2.heap).P it=.none:=fX aw;have xO:=cq c s2.heap;refine ky ok R2 fun aD aC h N k₀ up cenv hl he=>?_;rw [he,hl];have dI:=(N.nw _ _ eI0).1;have cI:=(N.nw _ _ eI0).2;have at1:At 0 h:=ps.same _ _ _ at0 ((up _ _ eI0).trans eI0.symm);refine codeAny_compStart_list ?loop (ps.self _ _ _ at1 ?loop);refine wn (E3 c s2 aD aC it ess H₁ O₁ At) rfl (fun n s hI=>?_) (ess.length+1) ⟨0,H₁,rfl,Nat.zero_le _,Pr _,k₀,at1,aw.h⟩;refine tp hI fun i H3 hn hi le3 kC at3 hit3=>?_;subst hn;have old:∀ a o,H₁ a=some o→s.heap.get? a=some o:=fun a o e=>kC.T.hH _ _ (le3 _ _ e)
 by_cases hlt:i<ess.length
 ·have hes:ess[i]? = some ess[i]:=List.getElem?_eq_getElem hlt;generalize ess[i]=es at hes;have hd:(ess.map D.lst)[i]? = some (.lst es):=by rw [List.getElem?_map,hes];rfl
  have hzi:(ess.take i).flatten.length+es.length≤sizeLine:=by
   have:=Hc (ess:=ess) (i:=i+1);rw [tg hes,List.length_append] at this;lia
  refine ps.item i _ s _ _ hd at3 old fun h' tk v at' sb rd=>?_;refine ps.go _ (i+1) _ _ _ _ at' ?_;obtain ⟨oI,eI⟩:=ps.there _ _ at';have k4:=(kC.moved (s':={s with heap:=h',toks:=tk}) hit3 pI aw.o dI cI fun b ob hb e=>(sb.2 b hb).trans e).fix hit3 aw.o dI eI;have pD':((outer c s2.heap).fix it oI).P aD=.none:=(Cx.fix_ne dI).trans N.pD;have leI:(outer c s2.heap).le ((outer c s2.heap).fix it oI):=Cx.fix_le pI;refine al (k4.turn ok R2 leI le3 pD' ((Cx.fix_ne cI).trans N.pC) N.ne) fun ob F back=>?_;have z:St (bC c scope aC (((outer c s2.heap).fix it oI).fix aD ob)) (storeName (bC c scope aC (((outer c s2.heap).fix it oI).fix aD ob)).env y0) (.lst es) (cU scope.names loc) O₁ (fun l' O'=>l'=(y0,.lst es)::cU scope.names loc∧O'=O₁) NoE:=wX ⟨rfl,rfl⟩ (hfe _) (hk0 _);refine wpAny_assign_Name (z H3 _ _ v F (rd.mono le3) fun H6 s6 l6 O6 k6 R6 le6=>?_);rw [k6.1,k6.2] at R6;have w:Ev (bC c scope aC (((outer c s2.heap).fix it oI).fix aD ob)) (.Name y0 p0') ((y0,.lst es)::cU scope.names loc) O₁ (fun d' O'=>d'=.lst es∧O'=O₁) NoE:=fT bv (hfe _) (hk0 _) ⟨rfl,rfl⟩ hd0;refine w H6 s6 _ R6 fun H7 s7 u d7 O7 k7 R7 le7 ru=>?_;rw [k7.2] at R7;rw [k7.1] at ru;have il:dn (bC c scope aC (((outer c s2.heap).fix it oI).fix aD ob)) (.lst es) es:=cC hh;refine il _ O₁ H7 s7 u _ _ R7 ru fun o1 At1 hf1 ps1 at10=>?_;have aw1:=R7.fresh;have R8:=R7.keeps (s':={s7 with heap:=s7.heap.push o1}) fun b ob e=>Hp _ e;have k8:=back _ _ _ _ R8 (Pt le6 le7);have dN:aD≠s7.heap.objs.size:=Nat.ne_of_lt (Heap.lt_size (R7.t.hard Cx.fix_here));have cN:aC≠s7.heap.objs.size:=Ne.symm aw1.l;have pN:=aw1.p;generalize s7.heap.objs.size=it1 at *;have p1:((outer c s2.heap).fix it oI).P it1=.none:=(Cx.fix_ne (Ne.symm dN)).symm.trans pN
  have inn:codeAny c.M c.A (.compLoop (.ListComp (.Name y1 p1') [⟨.Name y0 p0,i0,[],0⟩,⟨.Name y1 q1,.Name y0 p0',[],0⟩] scope pos) 1 (.ref it1) (.ref aD) (compEnvC scope (bL c.env scope.names []) aC c.env)) (fun r s5=>r=.ok .next∧∃ m,m<ess.length+1-i∧E3 c s2 aD aC it ess H₁ O₁ At m s5) {s7 with heap:=s7.heap.push o1} :=
   Eu leI ok (hfe _) (hk1 _) hd1 R2 (ps1.conv rfl rfl) pD' ((Cx.fix_ne cI).trans N.pC) N.ne p1 dN cN hzi (Pt le3 (Pt le6 le7)) k8 at10 aw1.h aw1.o fun H9 s9 k9 le_9 =>
    have q:=k9.unfix pI
    ⟨rfl,ess.length+1-(i+1),tN hlt,i+1,H9,rfl,hlt,Pt le3 (Pt le6 (Pt le7 le_9)),by rw [tg hes];exact q.1,ps.same _ _ _ at' (q.2.1.trans eI.symm),q.2.2.1⟩
  exact x9 inn (ps1.self _ _ _ at10 inn)
 ·obtain rfl:i=ess.length:=Nat.le_antisymm hi (Nat.not_lt.mp hlt);have st':=ps.stop s;rw [List.length_map] at st';refine st' _ _ at3 old fun h' xb=>?_;rw [List.take_of_length_le (Nat.le_refl _)] at kC;refine qF ((kC.moved (s':={s with heap:=h'}) hit3 pI aw.o dI cI fun b ob hb e=>xb b ob hb e).done N R2 le3) fun H5 m RF le5 rd n w=>?_;exact ⟨m,n,fun h'' sb=>q H5 {s with heap:=h''} _ _ O₁ hK (RF.keepBut (s':={s with heap:=h''}) w fun b ob hb e=>(sb.2 b hb).trans e) (Pt le1 le5) rd⟩
end
theorem v0:Ag c loc loc ((ai,.list es)::(a,.list (pre++[.stat (.ref ai)]))::O) ((a,.list (pre++[.lst es]))::O):=fun H s R=>by
 refine dX (R.freeze .head) fun H' le R' rd=>?_;refine ⟨H',le,⟨⟨R'.t.gens,R'.t.os,R'.t.drawn,R'.t.hH,R'.t.hP,fun p hp=>?_,R'.t.nd,fun p hp=>?_,fun p hp=>?_,R'.t.dHP,R'.t.bare,R'.t.hB⟩,R'.f,⟨R'.o.lH,R'.o.lP,fun p hp=>?_,fun y b q=>⟨(R'.o.cH y b q).1,(R'.o.cH y b q).2.1,fun p hp=>?_⟩,R'.o.cP,R'.o.ca⟩⟩⟩
 ·rcases List.mem_cons.mp hp with rfl|hp
  ·obtain ⟨vs,n,e,rs⟩:=R'.t.hO _ (.head _);refine ⟨vs,n,e,?_⟩
   have:∀ (pre:List D) (vs:List Value),af H' vs (pre++[.stat (.ref ai)])→af H' vs (pre++[.lst es]):=by
    intro pre
    induction pre with
    |nil =>
     intro vs r
     cases r with
     |cons a b=>cases a using ac.cStat;cases b using af.cNil;exact .cons rd .nil
    |cons d pre ih =>
     intro vs r
     cases r with
     |cons a b=>exact .cons a (ih _ b)
   exact this pre vs rs
  ·exact R'.t.hO p (.tail _ hp)
 ·rcases List.mem_cons.mp hp with rfl|hp
  ·exact R'.t.dH (a,.list (pre++[.stat (.ref ai)])) (.head _)
  ·exact R'.t.dH p (.tail _ hp)
 ·rcases List.mem_cons.mp hp with rfl|hp
  ·exact R'.t.dP (a,.list (pre++[.stat (.ref ai)])) (.head _)
  ·exact R'.t.dP p (.tail _ hp)
 ·rcases List.mem_cons.mp hp with rfl|hp
  ·exact R'.o.lO (a,.list (pre++[.stat (.ref ai)])) (.head _)
  ·exact R'.o.lO p (.tail _ hp)
 ·rcases List.mem_cons.mp hp with rfl|hp
  ·exact (R'.o.cH y b q).2.2 (a,.list (pre++[.stat (.ref ai)])) (.head _)
  ·exact (R'.o.cH y b q).2.2 p (.tail _ hp)
end
section
open PySem.Builtin
theorem cA:Slot "bytearray" "__getitem__" "bytearray.__getitem__":=
 .of (owner:="bytearray") (n:="__getitem__") (by rw [typeLookup_type,builtinLookup_eq_fast];kernel_rfl) (by decide +kernel) (by decide +kernel) (by decide +kernel)
  (.inl (by decide +kernel)) (by rw [isSubtype_type];kernel_rfl)
theorem eP:entryFor table "bytearray.__getitem__"=some Builtin.«bytearray.__getitem__»:=entryFor_of_tree (by kernel_rfl)
theorem ft (a b:Value):argsOk "bytearray.__getitem__" ⟨[a,b],[]⟩:=by skip;kernel_rfl
theorem u7:Slot "bytearray" "__len__" "bytearray.__len__":=
 .of (owner:="bytearray") (n:="__len__") (by rw [typeLookup_type,builtinLookup_eq_fast];kernel_rfl) (by decide +kernel) (by decide +kernel) (by decide +kernel)
  (.inl (by decide +kernel)) (by rw [isSubtype_type];kernel_rfl)
theorem uq:entryFor table "bytearray.__len__"=some Builtin.«bytearray.__len__»:=entryFor_of_tree (by kernel_rfl)
theorem wH (a:Value):argsOk "bytearray.__len__" ⟨[a],[]⟩:=by skip;kernel_rfl
noncomputable abbrev baO (l:List UInt8) (n:Nat):Obj:=⟨.type "bytearray",.none,.bytearray l.toArray n,#[]⟩
theorem eR {Q:Array UInt8→Shared→Prop} (ho:s.heap.get? a=some (baO l n)) (h:Q l.toArray s):wpAny M A (Bytes.payload (.ref a)) Q E s:=by
 skip;exact Wb (Wb (wpAny_load ho (Wp (Wp h))))
theorem LF {i:Int} (h0:0≤i) (h1:i<l.length):(seqIndex? i l.toArray.size).bind (fun x=>l.toArray[x]?)=some (l.getD i.toNat 0):=by
 have hl:i.toNat<l.length:=by lia
 have:seqIndex? i l.toArray.size=some i.toNat:=by
  have hn:¬ i<0:=by lia
  simp [seqIndex?,hn,h0,h1]
 rw [this];simp [hl]
theorem Lf {i:Int}:Meets («bytearray.__getitem__» ⟨[.ref a,.int i u],[]⟩) (fun _ R s=>s.heap.get? a=some (baO l n)∧0≤i∧i<l.length∧l.length≤1099511627776∧R (.ok (.ret (.int (l.getD i.toNat 0).toNat s.toks))) {s with toks:=s.toks+1}):=.of_wp fun prog w A R s h=>by
 obtain ⟨ho,h0,h1,hz,h⟩:=h;refine (?_:wpAny _ _ (Bytes.subscript? (.int i u)>>=fun r=>_) _ _ s);refine Wb ?_;skip;refine Wb (wpAny_specialOf (typeIs_int s i u) F.slot_int_index.lookup ?_);refine (?_:wpAny _ _ (if (!Bytes.fitsIndex i)=true then _ else pure (some i)) _ _ s);have hr:Bytes.fitsIndex i=true:=by simp only [Bytes.fitsIndex,Bool.and_eq_true,decide_eq_true_eq];lia
 rw [hr];refine Wp ?_;skip;refine Wb (eR ho ?_);rw [LF h0 h1];exact Wb (wpAny_mkInt (Wp ⟨_,rfl,h⟩))
theorem HK:Meets («bytearray.__len__» ⟨[.ref a],[]⟩) (fun _ R s=>s.heap.get? a=some (baO l n)∧R (.ok (.ret (.int l.length s.toks))) {s with toks:=s.toks+1}):=.of_wp fun prog w A R s h=>by
 obtain ⟨ho,h⟩:=h;refine (?_:wpAny _ _ (Bytes.payload (.ref a)>>=fun r=>_) _ _ s);refine Wb (eR ho ?_);exact wpAny_bind (wpAny_mkInt (wpAny_pure ⟨_,rfl,by simpa using h⟩))
theorem tD {b:Addr} {lo hi:Option Int} (hl:IsPart vl lo) (hu:IsPart vu hi) :
  Meets («bytearray.__getitem__» ⟨[.ref a,.ref b],[]⟩) (fun _ R s=>s.heap.get? a=some (baO l n)∧s.heap.IsSliceOf b vl vu .none∧(PySem.W.KBy.picked l.toArray lo hi).size≤sizeLine ∧
   R (.ok (.ret (.ref s.heap.objs.size))) {s with heap:=s.heap.push {cls:=.type "bytearray",data:=.bytearray (PySem.W.KBy.picked l.toArray lo hi)}}):=by
 refine .of_wp fun prog w A R s hS=>?_;obtain ⟨ha,⟨o,ho,hc,hd⟩,hsz,h⟩:=hS;have hT:s.TypeIs (.ref b) "slice":=⟨o,ho,hc⟩;refine (?_:wpAny _ _ (Bytes.subscript? (.ref b)>>=fun r=>_) _ _ s);refine Wb ?_;skip;refine Wb (wpAny_specialOf hT slice_no_index (Wp ?_));skip;refine Wb (wpAny_typeOf hT ?_);refine (?_:wpAny _ _ (Bytes.sliceParts (.ref b)>>=fun r=>_) _ _ s);refine Wb ?_;skip;refine Wb (wpAny_field (x:=.none) ho hd rfl ?_)
 kby_none
 refine wpAny_ite (PySem.W.KBy.ite_no (Bool.false_ne_true:¬ ((Value.none==rawInt 0)=true)) ?_);refine Wb (wpAny_field (x:=vl) ho hd rfl ?_)
 have go:wpAny (model prog w) A.in1 (sliceIndices (rawPart lo) (rawPart hi) (rawPart .none) l.toArray.size) (fun r s'=>r=sliceBounds lo hi .none l.toArray.size∧s'=s) (fun _ _=>False) s :=
  Wq (sliceIndices_raw lo hi .none l.toArray.size (fun e=>nomatch e)) ⟨rfl,rfl⟩
 cases hl<;>cases hu<;>(first
  |(kby_none;(refine Wb (wpAny_field (x:=.none) ho hd rfl ?_));kby_none)
  |(kby_none;(refine Wb (wpAny_field (x:=.int _ _) ho hd rfl ?_));kby_int)
  |(kby_int;(refine Wb (wpAny_field (x:=.none) ho hd rfl ?_));kby_none)
  |(kby_int;(refine Wb (wpAny_field (x:=.int _ _) ho hd rfl ?_));kby_int))<;>refine Wp ?_
 all_goals
  skip;refine Wb (eR ha ?_);refine Wb (Wm go (fun r s' hr=>?_) fun _ _ e=>e.elim);obtain ⟨hr1,hr2⟩:=hr;subst hr1 hr2;refine Wb ?_;skip;exact wpAny_newObj_type (Wp ⟨_,rfl,h⟩) hsz
section
variable {K:D→Own→Prop} {value j7:PySem.Expr}
theorem mw {v l} (hH:∀ a o,H a=some o→s.heap.get? a=some o) (r:ac H v (.barr l)):∃ a n,v=.ref a∧s.heap.get? a=some (baO l n):=by
 cases r using ac.cBarr with|barr e=>exact ⟨_,_,rfl,hH _ _ e⟩
theorem vD {k:Int} (so:dE j7) (hz:l.length≤1099511627776) (h0:0≤k) (h1:k<l.length) (h:K (.int (l.getD k.toNat 0).toNat) O):Op c (gv value j7) [.barr l,.int k] loc O K E:=fun H s Q vs R rs q=>by
 refine ay rs fun v u a b=>?_
 cases b using ac.cInt
 obtain ⟨aa,n,rfl,ea⟩:=mw R.t.hH a;obtain ⟨ops,hs⟩:=so (.ref aa) (.int k _);have hT:s.TypeIs (.ref aa) "bytearray":=⟨_,ea,rfl⟩;exact tail_any hT cA.lookup (getItem_meets hT (by decide) cA eP (ft _ _) (Lf (l:=l) (n:=n)) ⟨ea,h0,h1,hz,q _ _ _ _ _ h (R.tok _) (Pr _) (.int _ _)⟩) hs
theorem rj {j:Nat} (so:dE j7) (hz:l.length≤16777216) (h:K (.barr ((l.drop i).take (j-i))) O):Op c (gv value j7) [.barr l,.obj (sl2 (.int i t) (.int j u))] loc O K E:=fun H s Q vs R rs q=>by
 refine ay rs fun v w a b=>?_;obtain ⟨aa,n,rfl,ea⟩:=mw R.t.hH a
 cases b using ac.cObj
 rename_i sa eb;have hb:=R.t.hH _ _ eb;obtain ⟨ops,hs⟩:=so (.ref aa) (.ref sa);have hT:s.TypeIs (.ref aa) "bytearray":=⟨_,ea,rfl⟩
 refine tail_any hT cA.lookup (getItem_meets hT (by decide) cA eP (ft _ _) (tD (l:=l) (n:=n) (.int (i:Int) t) (.int (j:Int) u))
  ⟨ea,⟨_,hb,rfl,rfl⟩,Nat.le_trans (PySem.W.KBc.size_picked_le _ _ _) (by rw [sizeLine_eq];simpa using hz),?_⟩) hs
 rw [pT];obtain ⟨R',le⟩:=R.push {cls:=.type "bytearray",data:=.bytearray ((l.drop i).take (j-i)).toArray} s.toks;exact q _ _ _ _ _ h R' le (.barr Ph)
theorem vi:PySem.W.KBy.picked l.toArray (some (i:Int)) .none=(l.drop i).toArray:=by
 rw [PySem.W.KBc.picked_eq];simp only [Option.elim,clipAt_nat,List.size_toArray]
 congr 1
 by_cases h:i≤l.length
 ·rw [Nat.min_eq_left h,List.take_of_length_le (by rw [List.length_drop];exact Nat.le_refl _)]
 ·rw [Nat.min_eq_right (by lia:l.length≤i),List.drop_of_length_le (Nat.le_refl _),List.drop_of_length_le (by lia:l.length≤i)];simp
theorem kh (so:dE j7) (hz:l.length≤16777216) (h:K (.barr (l.drop i)) O):Op c (gv value j7) [.barr l,.obj (sl2 (.int i t) .none)] loc O K E:=fun H s Q vs R rs q=>by
 refine ay rs fun v w a b=>?_;obtain ⟨aa,n,rfl,ea⟩:=mw R.t.hH a
 cases b using ac.cObj
 rename_i sa eb;have hb:=R.t.hH _ _ eb;obtain ⟨ops,hs⟩:=so (.ref aa) (.ref sa);have hT:s.TypeIs (.ref aa) "bytearray":=⟨_,ea,rfl⟩
 refine tail_any hT cA.lookup (getItem_meets hT (by decide) cA eP (ft _ _) (tD (l:=l) (n:=n) (.int (i:Int) t) .none)
  ⟨ea,⟨_,hb,rfl,rfl⟩,Nat.le_trans (PySem.W.KBc.size_picked_le _ _ _) (by rw [sizeLine_eq];simpa using hz),?_⟩) hs
 rw [vi];obtain ⟨R',le⟩:=R.push {cls:=.type "bytearray",data:=.bytearray (l.drop i).toArray} s.toks;exact q _ _ _ _ _ h R' le (.barr Ph)
theorem vz (hz:l.length≤1099511627776) (h:K (.int l.length) O):Op c (fun vs=>call (.builtin "len") vs) [.barr l] loc O K E:=fun H s Q vs R rs q=>by
 refine cG rs fun v a=>?_;obtain ⟨aa,n,rfl,ea⟩:=mw R.t.hH a;have hT:s.TypeIs (.ref aa) "bytearray":=⟨_,ea,rfl⟩;exact call_len_meets hT u7 uq (wH _) (HK (l:=l) (n:=n)) (by lia) (by lia) (fun Q' h'=>⟨ea,h'⟩) (q _ _ _ _ _ h (R.tok _) (Pr _) (.int _ _))
end
end
theorem qR (x y:Nat):Builtin.bitAnd (x:Int) (y:Int)=((x &&& y:Nat):Int):=by
 unfold Builtin.bitAnd;simp
theorem BA (x y:Nat):Builtin.bitOr (x:Int) (y:Int)=((x ||| y:Nat):Int):=by
 unfold Builtin.bitOr Builtin.bitAnd Builtin.bitNot;have h1:decide (0≤-(x:Int)-1)=false:=by rw [decide_eq_false_iff_not];lia
 have h2:decide (0≤-(y:Int)-1)=false:=by rw [decide_eq_false_iff_not];lia
 rw [h1,h2];simp only;have e1:(-(-(x:Int)-1)-1).toNat=x:=by lia
 have e2:(-(-(y:Int)-1)-1).toNat=y:=by lia
 rw [e1,e2];lia
theorem wy {x y s:Nat} (h:x<2^s):Builtin.bitOr (x:Int) ((y:Int)*2^s)=(x:Int)+y*2^s:=by
 have e:(y:Int)*2^s=((y*2^s:Nat):Int):=by
  rw [Int.natCast_mul,Int.natCast_pow];rfl
 rw [e,BA];have:=Nat.two_pow_add_eq_or_of_lt h y;rw [Nat.or_comm,Nat.mul_comm y,← this];lia
theorem Lg:∀ x:_root_.Fin 256,(((x.val:Nat) &&& 129:Nat)=0↔x.val<128∧x.val%2=0):=by decide +kernel
theorem Lh:∀ x:_root_.Fin 256,(((x.val:Nat) &&& 128:Nat)=0↔x.val<128):=by decide +kernel
theorem tB {x:Int} (h:0≤x):Builtin.bitXor x (-1) = -x-1:=by
 rw [bitXor_and];unfold Builtin.bitAnd Builtin.bitNot;have h1:decide (0≤x)=true:=by simpa using h
 have h2:decide (0≤(-1:Int))=false:=by decide
 rw [h1,h2];simp;lia
section
open PySem.Builtin PySem.Builtin.Struct
noncomputable def aO (f:Format) (b:Array UInt8) (start:Nat) (c:Struct.Code):Int :=
 let n:=natOf f.bigEndian (b.extract (start+c.offset+0*c.size) (start+c.offset+(0+1)*c.size))
 if c.char.isLower&&n ≥ 2^(8*c.size-1) then (n:Int)-2^(8*c.size) else n
noncomputable def cB (c:Struct.Code):Bool:=c.count==1&&(c.char=='q'||c.char=='i'||c.char=='I'||c.char=='b'||c.char=='h')
theorem A3 {α:Type} {init:α} {f:Nat→α→Sem (ForInStep α)}:(forIn [:1] init f:Sem α)=(f 0 init>>=fun r=>match r with|.done b=>pure b|.yield b=>pure b):=by
 first
 |rfl
 |(simp [Std.Legacy.Range.forIn_eq_forIn_range',Std.Legacy.Range.size];done)
 |(rw [Std.Legacy.Range.forIn_eq_forIn_range'];rfl)
 |(rw [Std.Range.forIn_eq_forIn_range'];rfl)
theorem tv {val:Struct.Code→Int} {g:Struct.Code→Array Value→Sem (ForInStep (Array Value))}
  (hg:∀ c out s (Q:ForInStep (Array Value)→Shared→Prop),cB c=true→Q (.yield (out.push (.int (val c) s.toks))) {s with toks:=s.toks+1}→wpAny M A (g c out) Q E s) :
  ∀ (cs:List Struct.Code) (out:Array Value) (ns:List Int) (s:Shared) (Q:Array Value→Shared→Prop),cs.all cB=true→IntsAre out.toList ns→(∀ out' tk,IntsAre out'.toList (ns++cs.map val)→Q out' {s with toks:=tk}) →
   wpAny M A (forIn cs out g) Q E s
 |[],out,ns,s,Q,_,hi,q=>wpAny_pure (by have:=q out s.toks (by simpa using hi);exact this)
 |c::cs,out,ns,s,Q,hc,hi,q=>by
  rw [List.all_cons,Bool.and_eq_true] at hc;rw [List.forIn_cons];refine Wb (hg c out s _ hc.1 ?_);refine tv hg cs (out.push (.int (val c) s.toks)) (ns++[val c]) _ Q hc.2 ?_ fun out' tk h=>?_
  ·rw [Array.toList_push];exact hi.append (.cons _ _ .nil)
  ·exact q out' tk (by simpa using h)
theorem ge {id:String} {b:Array UInt8} {start:Nat} (hp:f.codes.all cB=true)
  (h:∀ vs tk,IntsAre vs (f.codes.map (aO f b start))→Q (.ref s.heap.objs.size) {s with heap:=s.heap.push {cls:=.type "tuple",data:=.seq vs.toArray},toks:=tk}) (hz:f.codes.length≤100) :
  wpAny M A (Struct.unpacked id f b start) Q E s:=by
 skip;refine Wb (tv (val:=aO f b start) (fun c out s Q hc q=>?_) f.codes #[] [] s _ hp .nil fun out' tk hi=>?_)
 ·obtain ⟨ch,cnt,off,sz⟩:=c;unfold cB at hc;simp only [Bool.and_eq_true,Bool.or_eq_true,beq_iff_eq] at hc;obtain ⟨rfl,hc⟩:=hc
  rcases hc with (((rfl|rfl)|rfl)|rfl)|rfl<;>(refine wpAny_bind ?_;skip;rw [A3];exact wpAny_bind (wpAny_bind (wpAny_mkInt (wpAny_pure (wpAny_pure (wpAny_pure q))))))
 ·refine wpAny_newObj_type ?_ ?_
  ·have:=h out'.toList tk (by simpa using hi)
   simpa using this
  ·have hs:=hi.length;simp only [List.nil_append,List.length_map] at hs;refine (?_:(List.toArray out'.toList).size≤sizeLine);rw [List.size_toArray,hs,sizeLine_eq];lia
theorem Bz (b:Array UInt8) (t:Tok):Bytes.bytesLike "_struct.unpack_from" (.bytes b t)=pure b:=by
 skip
 kernel_rfl
theorem By (b:Array UInt8) (t:Tok):Bytes.bytesLike "_struct.Struct.unpack_from" (.bytes b t)=pure b:=by
 skip
 kernel_rfl
theorem Bx (b:Array UInt8) (t:Tok):Bytes.bytesLike "_struct.Struct.unpack" (.bytes b t)=pure b:=by
 skip
 kernel_rfl
noncomputable def fI:Format:=⟨true,false,[⟨'i',1,0,4⟩],4,1⟩
noncomputable def fB:Format:=⟨true,false,[⟨'b',1,0,1⟩],1,1⟩
noncomputable def fHH:Format:=⟨true,false,[⟨'h',1,0,2⟩,⟨'h',1,2,2⟩],4,2⟩
noncomputable def fV0:Format:=⟨true,false,[⟨'q',1,0,8⟩,⟨'i',1,8,4⟩,⟨'I',1,12,4⟩,⟨'b',1,16,1⟩,⟨'b',1,17,1⟩],18,5⟩
noncomputable def fV1:Format:=⟨true,false,[⟨'q',1,0,8⟩,⟨'i',1,8,4⟩,⟨'I',1,12,4⟩,⟨'b',1,16,1⟩,⟨'b',1,17,1⟩,⟨'q',1,18,8⟩],26,6⟩
noncomputable def fV2:Format:=⟨true,false,[⟨'q',1,0,8⟩,⟨'i',1,8,4⟩,⟨'i',1,12,4⟩,⟨'b',1,16,1⟩,⟨'I',1,17,4⟩,⟨'h',1,21,2⟩,⟨'i',1,23,4⟩,⟨'q',1,27,8⟩,⟨'q',1,35,8⟩,⟨'q',1,43,8⟩,⟨'h',1,51,2⟩,⟨'i',1,53,4⟩,⟨'i',1,57,4⟩],61,13⟩
theorem C7 (t:Tok):Struct.moduleFormat (.str (S ">i") t)=pure fI:=by kernel_rfl
theorem NI (t:Tok):Struct.moduleFormat (.str (S ">b") t)=pure fB:=by kernel_rfl
theorem LP:Struct.parse #[62,113,105,73,98,98]=pure fV0:=by kernel_rfl
theorem LO:Struct.parse #[62,113,105,73,98,98,113]=pure fV1:=by kernel_rfl
theorem HV:Struct.parse #[62,113,105,105,98,73,104,105,113,113,113,104,105,105]=pure fV2:=by kernel_rfl
theorem LQ:Struct.parse #[62,104,104]=pure fHH:=by kernel_rfl
theorem ke {len:Nat} {off:Int} (h0:0≤off) (h1:off+f.size≤len):Struct.placeIn "unpack_from" "unpacking" "not enough data to unpack" f len off=pure off.toNat:=by
 unfold Struct.placeIn;have:¬ off<0:=by lia
 simp only [this,if_false];rw [if_neg (by lia)]
noncomputable def dh (f:Format) (l:List UInt8) (start:Nat):List Int:=f.codes.map (aO f l.toArray start)
theorem qY {id:String} {fm:Sem Format} {off:Int} (hb:∀ b t,Bytes.bytesLike id (.bytes b t)=pure b) (hf:fm=pure f)
  (hp:f.codes.all cB=true) (hz:f.codes.length≤100) (h0:0≤off) (h1:off+f.size≤l.length) (hl:l.length≤16777216)
  (h:∀ vs tk,IntsAre vs (dh f l off.toNat)→Q (.done (.ret (.ref s.heap.objs.size))) {s with heap:=s.heap.push {cls:=.type "tuple",data:=.seq vs.toArray},toks:=tk}) :
  wpAny M A (Struct.unpackFrom id fm (.bytes l.toArray t) (some (.int off u))) Q E s:=by
 unfold Struct.unpackFrom;rw [hb,hf];refine Wb (Wp ?_);dsimp only;refine Wb (m:=Bytes.indexHeld [Value.bytes l.toArray t] (.int off u)) ?_;have ih:Bytes.indexHeld [Value.bytes l.toArray t] (.int off u)=asIndex (.int off u):=by rfl
 rw [ih];unfold asIndex;refine Wb (Wq (a:=some off) rfl (Wp ?_));have hfit:Bytes.fitsIndex off=true:=by simp only [Bytes.fitsIndex,Bool.and_eq_true,decide_eq_true_eq];lia
 rw [hfit];refine Wb (Wp ?_);refine Wb (Wp ?_);refine Wb (Wp ?_);rw [ke h0 (by simpa using h1)];refine Wb (Wp ?_);refine Wb (ge hp (fun vs tk hi=>?_) hz);exact Wp (h vs tk hi)
theorem Eb:entryFor table "_struct.unpack_from"=some Builtin.«_struct.unpack_from»:=entryFor_of_tree (by kernel_rfl)
theorem HL (a b c:Value):argsOk "_struct.unpack_from" ⟨[a,b,c],[]⟩:=by skip;kernel_rfl
theorem E7 (x:Str) (t:Tok) (b:Array UInt8) (u:Tok) (off:Int) (w:Tok):«_struct.unpack_from» ⟨[.str x t,.bytes b u,.int off w],[]⟩ =
  (Struct.moduleFormat (.str x t)>>=fun f=>Struct.unpackFrom "_struct.unpack_from" (pure f) (.bytes b u) (some (.int off w))):=by rfl
section
variable {K:D→Own→Prop}
theorem gP {ns:List Int} (h:IntsAre vs ns):af H vs (ns.map .int):=by
 induction h with
 |nil=>exact .nil
 |cons n t _ ih=>exact .cons (.int n t) ih
theorem cR {x:Str} {off:Int} (hm:∀ t,Struct.moduleFormat (.str x t)=pure f) (hp:f.codes.all cB=true) (hz:f.codes.length≤100) (h0:0≤off) (h1:off+f.size≤l.length) (hl:l.length≤16777216)
  (h:K (.tup ((dh f l off.toNat).map .int)) O):Op c (fun vs=>call (.builtin "_struct.unpack_from") vs) [.str x,.bytes l,.int off] loc O K E:=fun H s Q vs R rs q=>by
 refine Cl rs fun v u w r1 r2 r3=>?_
 cases r1 using ac.cStr;cases r2 using ac.cBytes;cases r3 using ac.cInt
 refine Calls.call_function_entry (by kernel_rfl) (by kernel_rfl) Eb (HL _ _ _) ?_;rw [E7,hm];refine Wb (Wp ?_);refine qY Bz rfl hp hz h0 h1 hl fun vs tk hi=>⟨_,rfl,?_⟩;obtain ⟨R',le⟩:=R.push {cls:=.type "tuple",data:=.seq vs.toArray} tk;exact q _ _ _ _ _ h R' le (.tup Ph ((gP hi).mono le))
end
end
section
set_option compiler.extract_closed false
theorem gA {A B:Prop} (a:z=true→A) (b:z=false→B):if z=true then A else B:=by
 cases z with
 |true=>exact (if_pos rfl).symm▸a rfl
 |false=>simpa using b rfl
theorem xD {A B:Prop} (a:A):if true=true then A else B:=by simpa using a
theorem xF {A B:Prop} (b:B):if false=true then A else B:=by simpa using b
noncomputable def rK (names:List (Str×NameKind)):Bool:=names.all fun p=>p.2 != .cell&&(p.2 != .local||names.lookup p.1==some .local)&&(p.2 != .free||names.lookup p.1==some .free)
noncomputable def v6 (env:Env) (names:List (Str×NameKind)):Bool:=names.all fun p=>p.2 != .free||(env.kindOf p.1==some .cell||env.kindOf p.1==some .free)
noncomputable def ua:List Str→Bool
 |[]=>true
 |x::r=>!r.contains x&&ua r
theorem HZ:∀ {l:List Str},ua l=true→l.Nodup
 |[],_=>.nil
 |x::r,h=>by
  unfold ua at h;simp only [Bool.and_eq_true,Bool.not_eq_true',List.contains_eq_mem,decide_eq_false_iff_not] at h;exact List.nodup_cons.mpr ⟨h.1,HZ h.2⟩
noncomputable def vc (env:Env) (scope:Scope):Bool:=scope.kind==.function&&rK scope.names&&v6 env scope.names&&ua (scope.names.map (·.1))&&uv env scope.names
theorem kG (h:vc env scope=true):dw env scope:=by
 unfold vc rK v6 at h;simp only [Bool.and_eq_true,List.all_eq_true,Bool.or_eq_true,beq_iff_eq,bne_iff_ne,ne_eq] at h;obtain ⟨⟨⟨⟨h1,h2⟩,h3⟩,h4⟩,h5⟩:=h;refine ⟨h1,fun y hy=>(h2 y hy).1.1,fun y hy e=>?_,h5,fun y hy e=>⟨?_,?_⟩,HZ h4⟩
 ·rcases (h2 y hy).1.2 with q|q
  ·exact absurd e q
  ·exact q
 ·rcases (h2 y hy).2 with q|q
  ·exact absurd e q
  ·exact q
 ·rcases h3 y hy with q|q
  ·exact absurd e q
  ·exact q
class bU (y:Str) (v:outParam Value):Prop where
 h:∀ P,nsFind (gEs P) y=some v
class eV (y:Str) (v:outParam Value):Prop where
 n:∀ P,nsFind (gEs P) y=.none
 m:(y,v)∈uE
noncomputable def vS (k:NameKind) (env:Env) (y:Str):Bool:=env.kindOf y==some k&&(env.scope.kind==.function&&(env.globals==mainGlobals&&(env.builtins==builtinsNs&&(!(y==("__debug__":Str))&&!(y==("__classdict__":Str))))))
structure Pb (k:NameKind) (env:Env) (y:Str):Prop where
 k:env.kindOf y=some k
 f:ey env
 d:(y==("__debug__":Str))=false
 c:(y==("__classdict__":Str))=false
theorem bE {k:NameKind} (h:vS k env y=true):Pb k env y:=by
 unfold vS at h;simp only [Bool.and_eq_true,beq_iff_eq,Bool.not_eq_true'] at h;exact ⟨h.1,⟨h.2.1,h.2.2.1,h.2.2.2.1⟩,h.2.2.2.2.1,h.2.2.2.2.2⟩
section
variable {K:D→Own→Prop}
theorem QX {p v} [g:bU y v] (b:ah c.x) (t:vS .globalImplicit c.env y=true) (h:K (.stat v) O):Ev c (.Name y p) loc O K E:=Hj (b.glob g.h) (bE t).f (bE t).k h (bE t).d
theorem QY {p v} [g:eV y v] (b:ah c.x) (t:vS .globalImplicit c.env y=true) (h:K (.stat v) O):Ev c (.Name y p) loc O K E:=Hn (b.bltn g.n g.m) (bE t).f (bE t).k h (bE t).d
end
noncomputable def Rj:List (Str×Value):=[(S "has_gzip",.ref 82),(S "gzip_decode",.ref 197),(S "decode_varint",.ref 385),(S "_law_times",.ref 1306),(S "_law_fixed",.ref 1311),(S "_law_number",.ref 1318),(S "_law_data",.ref 1325),(S "_law_piece",.ref 1332),(S "_law_squeezed",.ref 1337),(S "_law_batch",.ref 1344),(S "_law_head",.ref 1351),(S "_law_markers",.ref 1358),(S "_law_message",.ref 1365),(S "_law_old",.ref 1372),(S "_law_records",.ref 1377),(S "CorruptRecordError",.ref 59),(S "LegacyRecordBatch",.ref 544),(S "LegacyRecord",.ref 649),(S "DefaultRecordBatch",.ref 1069),(S "DefaultRecord",.ref 1166),(S "ControlRecord",.ref 1227),(S "MemoryRecords",.ref 1297),(S "unpack_from",.builtin "_struct.unpack_from")]
theorem Rl (P:Params):(Rj.map fun p=>nsFind (gEs P) p.1)=Rj.map fun p=>some p.2:=by kernel_rfl
theorem Rh {v:Value} (i:Nat) (e:Rj[i]? = some (y,v)):bU y v:=⟨fun P=>by
 have q:=Cg (·[i]?) (Rl P);simp only [List.getElem?_map,e,Option.map_some,Option.some.injEq] at q;exact q⟩
noncomputable def Rk:List (Str×Value):=[(S "len",.builtin "len"),(S "range",.type "range"),(S "bytes",.type "bytes"),(S "bytearray",.type "bytearray"),(S "isinstance",.builtin "isinstance"),(S "int",.type "int"),(S "bool",.type "bool"),(S "zip",.type "zip"),(S "list",.type "list"),(S "StopIteration",.type "StopIteration"),(S "super",.type "super")]
theorem Ro (P:Params):(Rk.map fun p=>nsFind (gEs P) p.1)=Rk.map fun _=>none:=by kernel_rfl
theorem Rn:∀ p∈Rk,p∈uE:=by decide +kernel
theorem Ri {v:Value} (i:Nat) (e:Rk[i]? = some (y,v)):eV y v :=
 ⟨fun P=>by
  have q:=Cg (·[i]?) (Ro P);simp only [List.getElem?_map,e,Option.map_some,Option.some.injEq] at q;exact q,Rn _ (List.mem_of_getElem? e)⟩
instance:eV (S "len") (.builtin "len"):=Ri 0 rfl
instance:eV (S "range") (.type "range"):=Ri 1 rfl
instance:eV (S "bytes") (.type "bytes"):=Ri 2 rfl
instance:eV (S "bytearray") (.type "bytearray"):=Ri 3 rfl
instance:eV (S "isinstance") (.builtin "isinstance"):=Ri 4 rfl
instance:eV (S "int") (.type "int"):=Ri 5 rfl
instance:eV (S "bool") (.type "bool"):=Ri 6 rfl
instance:eV (S "zip") (.type "zip"):=Ri 7 rfl
instance:eV (S "list") (.type "list"):=Ri 8 rfl
instance:eV (S "StopIteration") (.type "StopIteration"):=Ri 9 rfl
instance:eV (S "super") (.type "super"):=Ri 10 rfl
instance:bU (S "has_gzip") (.ref 82):=Rh 0 rfl
instance:bU (S "gzip_decode") (.ref 197):=Rh 1 rfl
instance:bU (S "decode_varint") (.ref 385):=Rh 2 rfl
instance:bU (S "_law_times") (.ref 1306):=Rh 3 rfl
instance:bU (S "_law_fixed") (.ref 1311):=Rh 4 rfl
instance:bU (S "_law_number") (.ref 1318):=Rh 5 rfl
instance:bU (S "_law_data") (.ref 1325):=Rh 6 rfl
instance:bU (S "_law_piece") (.ref 1332):=Rh 7 rfl
instance:bU (S "_law_squeezed") (.ref 1337):=Rh 8 rfl
instance:bU (S "_law_batch") (.ref 1344):=Rh 9 rfl
instance:bU (S "_law_head") (.ref 1351):=Rh 10 rfl
instance:bU (S "_law_markers") (.ref 1358):=Rh 11 rfl
instance:bU (S "_law_message") (.ref 1365):=Rh 12 rfl
instance:bU (S "_law_old") (.ref 1372):=Rh 13 rfl
instance:bU (S "_law_records") (.ref 1377):=Rh 14 rfl
instance:bU (S "CorruptRecordError") (.ref 59):=Rh 15 rfl
instance:bU (S "LegacyRecordBatch") (.ref 544):=Rh 16 rfl
instance:bU (S "LegacyRecord") (.ref 649):=Rh 17 rfl
instance:bU (S "DefaultRecordBatch") (.ref 1069):=Rh 18 rfl
instance:bU (S "DefaultRecord") (.ref 1166):=Rh 19 rfl
instance:bU (S "ControlRecord") (.ref 1227):=Rh 20 rfl
instance:bU (S "MemoryRecords") (.ref 1297):=Rh 21 rfl
instance:bU (S "unpack_from") (.builtin "_struct.unpack_from"):=Rh 22 rfl
noncomputable def qw (fd:FuncData):Bool:=fd.scope.kind==.function&&fd.globals==mainGlobals&&fd.builtins==builtinsNs
theorem PK (h:qw fd=true):ey (callEnvC fd L f):=by
 unfold qw at h;simp only [Bool.and_eq_true,beq_iff_eq] at h;exact ⟨h.1.1,h.1.2,h.2⟩
theorem xN {cl:List (Str×Addr)} (h:qw fd=true) (k:scope.kind=.function):ey (compEnvC scope cl C (callEnvC fd L f)) :=
 have q:=PK (L:=L) (f:=f) h
 ⟨k,q.glob,q.blt⟩
theorem tc {cl:List (Str×Addr)} {k:Option NameKind} (h:(relabel scope (callEnvC fd 0 0)).names.lookup y=k):(compEnvC scope cl C (callEnvC fd L f)).kindOf y=k:=h
theorem P0 {names:List (Str×NameKind)} (h:names.lookup y=some .free) (e:lk loc y=some d):lk (cU names loc) y=some d:=Gq e h
section
variable {K:D→Own→Prop}
noncomputable def Lp (env:Env) (y:Str):Bool:=vS .local env y||vS .cell env y
theorem QH {p d} (e:lk loc y=some d) (t:Lp c.env y=true) (h:K d O):Ev c (.Name y p) loc O K E :=
 (Bool.or_eq_true_iff.mp t).elim (fun t=>fT e (bE t).f (bE t).k h (bE t).d) fun t=>Hl e (bE t).f (bE t).k h (bE t).d
theorem Qd (t:vS .local c.env y=true) (h:KS ((y,d)::loc) O):St c (storeName c.env y) d loc O KS E:=wX h (bE t).f (bE t).k
theorem BK {b:Addr} (t:vS .cell c.env y=true) (hc:c.env.cells.lookup y=some b) (hw:c.own=true) (h:KS ((y,d)::loc) O):St c (storeName c.env y) d loc O KS E:=Fk h (bE t).f (bE t).k hc hw
theorem Qe (e:lk loc y=some d) (t:Lp c.env y=true) (h:K d O):Nm c y loc O K E :=
 (Bool.or_eq_true_iff.mp t).elim (fun t=>Kj e (bE t).f (bE t).k h) fun t=>Ge e (bE t).f (bE t).k h
theorem wP {B:Prop} (a:nq x f) (b:B):nq x f∧B:=⟨a,b⟩
theorem cr (r:D) (h:Ev c e loc O (fun d O'=>d=r∧O'=O) E) (k:K r O):Ev c e loc O K E:=h.mono fun d O' q=>by rw [q.1,q.2];exact k
theorem op_to {t:List Value→Sem Value} (r:D) (h:Op c t ds loc O (fun d O'=>d=r∧O'=O) E) (k:K r O):Op c t ds loc O K E:=h.mono fun d O' q=>by rw [q.1,q.2];exact k
theorem QQ {B:Prop} (a:Nat.ble ds.length sizeLine=true) (b:B):ds.length≤sizeLine∧B:=⟨Nat.le_of_ble_eq_true a,b⟩
theorem QG {e es p} (h:Evs c p (e::es) loc O (fun ds O₁=>ds.length≤sizeLine∧K (.lst ds) O₁) E):Ev c (.List (e::es) p) loc O K E:=D8 h
theorem gN {p} (h:K (.lst []) O):Ev c (.List [] p) loc O K E:=D8 (jP ⟨Nat.zero_le _,h⟩)
theorem gM {p} (h:∀ a,K (.stat (.ref a)) ((a,.list [])::O)):Ev c (.List [] p) loc O K E:=um (jP ⟨Nat.zero_le _,h⟩)
theorem QR (hs:∀ u,d≠.stat u) (h:K (.bool d.isNone) O):Op c (fun vs=>compareOp .Is (vs.headD .none) (vs.tail.headD .none)) [d,.none] loc O K E:=LS hs h
end
theorem Cm (hd:((List.range n).map fun (i:Nat)=>D.int (i:Int))[i]? = some d):i<n∧D.int (i:Int)=d:=by
 rw [List.getElem?_map] at hd;obtain ⟨j,q1,q2⟩:=Option.map_eq_some_iff.mp hd;obtain ⟨hj,q3⟩:=List.getElem?_eq_some_iff.mp q1;rw [List.length_range] at hj;rw [List.getElem_range] at q3;subst q3;exact ⟨hj,q2⟩
def Ext (l0 l:Loc):Prop:=∀ y d,lk l0 y=some d→lk l y=some d
theorem Ext.lk {l0 l:Loc} {y d} (h:Ext l0 l) (e:Mine.lk l0 y=some d):Mine.lk l y=some d:=h y d e
theorem Ext.nil {l:Loc}:Ext [] l:=fun y d e=>by cases e
theorem Ext.cons {l r:Loc} {y d} (e:Mine.lk l y=some d) (h:Ext r l):Ext ((y,d)::r) l:=fun z d' k=>by
 by_cases q:y=z
 ·subst q;rw [bv] at k;cases k;exact e
 ·rw [Po q rfl] at k;exact h z d' k
noncomputable def zL (l:Loc) (y:Str):Bool:=l.all fun p=>!(p.1==y)
theorem vN:∀ {l:Loc},zL l y=true→Mine.lk l y≠some d
 |[],_,e=>by cases e
 |(z,d')::l,n,e=>by
  unfold zL at n;rw [List.all_cons,Bool.and_eq_true] at n;rw [Po (fun q=>by simp [q] at n) rfl] at e;exact vN n.2 e
theorem Ext.skip {l0 l:Loc} {y d} (n:zL l0 y=true) (h:Ext l0 l):Ext l0 ((y,d)::l):=fun z d' k =>
 Po (fun q=>vN n (q▸k)) (h z d' k)
theorem QV:true=true:=rfl
theorem QW:false=false:=rfl
noncomputable def D.ns:D→Bool|.stat _=>false|_=>true
theorem QO {d:D} (h:d.ns=true):∀ u,d≠.stat u:=fun u e=>by subst e;exact Bool.false_ne_true h
theorem Qz {v:Value} (b:ah x) (e:(fun P=>keepIn (K P) v)=fun _=>true):nq x v:=b.keep fun P=>congrFun e P
theorem walks:True:=by
 k_with"K"=>with_unfolding_all first|refine QV|refine QW|kernel_rfl!
 k_with"L"=>first|with_unfolding_all refine rfl|((repeat first|((with_reducible apply PZ);k_extra"K")|((with_reducible apply Dd);k_extra"K")|((with_reducible apply Jd);k_extra"K")|((with_reducible apply P0);k_extra"K"));first|with_reducible assumption|with_reducible refine bv|((with_reducible apply Ext.lk);(with_reducible assumption);k_extra"L"))
 k_with"EX"=>repeat with_reducible first|assumption|refine Ext.nil|(refine Ext.skip ?_ ?_;k_extra"K")|refine Ext.cons (by k_extra"L") ?_
 k_with"A"=>with_reducible assumption
 k_with"R"=>with_unfolding_all refine rfl
 k_with"h"=>first|assumption|refine Rm.hh (by assumption)
 k_with"B"=>repeat with_reducible first|assumption|refine bc|refine bp|refine Qx|apply aI
 k_with"ME"=>repeat first|((with_reducible refine (?_:Ev _ _ _ _ _ _));first|(with_reducible first|refine QD ?_|refine K5 ?_|refine QE ?_|refine QC ?_|refine Qi ?_|refine Qj ?_|refine Qc ?_|refine QP ?_|refine QB ?_|refine QG ?_)|((with_reducible first|refine QI ?_ ?_|refine Qp ?_ ?_|refine BM ?_ ?_);refine rfl)|((with_reducible first|refine QX ?_ ?_ ?_|refine QY ?_ ?_ ?_);assumption;k_extra"K")|((with_reducible refine QH (by k_extra"L") ?_ ?_);k_extra"K")|((with_reducible refine Qo ?_ ?_ ?_);refine kG (by k_extra"K");refine rfl)|((with_reducible refine JG (by k_extra"R") ?_ ?_);refine rfl))|((with_reducible refine (?_:Op _ _ _ _ _ _ _));first|(with_reducible first|refine Qw ?_|refine Qr ?_|refine LT ?_|refine Qv ?_|refine Qq ?_|refine QJ ?_|refine QK ?_|refine QL ?_|refine QM ?_|refine QN ?_|refine Qt ?_|refine Qu ?_)|((with_reducible first|refine Qs ?_ ?_|refine Kc ?_ ?_);refine of_decide_eq_true (by k_extra"K"))|((with_reducible refine FT ?_ ?_ ?_);refine of_decide_eq_true (by k_extra"K");refine of_decide_eq_true (by k_extra"K"))|((with_reducible first|refine QR ?_ ?_|refine CC ?_ ?_);refine QO (by k_extra"K")))|((with_reducible refine (?_:Evs _ _ _ _ _ _ _));first|(with_reducible refine jP ?_)|((with_reducible refine uV ?_ ?_);refine rfl))|((with_reducible refine (?_:Ex _ _ _ _ _ _));first|(with_reducible first|refine qz ?_|refine uk ?_|refine Qh ?_|refine QA ?_|refine PW ?_)|((with_reducible refine bn ?_ ?_);refine rfl)|((with_reducible first|refine Qb ?_ ?_ ?_ ?_|refine Qa ?_ ?_ ?_ ?_);refine rfl;refine rfl;k_extra"h")|((with_reducible first|refine Qn ?_ ?_ ?_|refine BN ?_ ?_ ?_);refine rfl;refine rfl))|((with_reducible refine (?_:St _ _ _ _ _ _ _));first|((with_reducible refine Qd ?_ ?_);k_extra"K")|((with_reducible refine BK ?_ ?_ ?_ ?_);k_extra"K";refine rfl;refine rfl))|((with_reducible refine (?_:Tst _ _ _ _ _ _));first|(with_reducible first|refine E9 ?_|refine pG ?_)|((with_reducible first|refine JF ?_ ?_|refine Qk ?_ ?_);refine rfl))|(with_reducible first|refine bl ?_|refine BU ?_|refine Qg ?_|refine Qm ?_|refine Ql ?_|refine xD ?_|refine xF ?_)|((with_reducible first|refine Qf ?_ ?_|refine wP ?_ ?_);first|refine fz|refine wk|refine Qz (by assumption) (by k_extra"K"))|((with_reducible refine QQ ?_ ?_);k_extra"R")|((with_reducible refine Qe (by k_extra"L") ?_ ?_);k_extra"K")|((with_reducible refine (?_:All _ _ _ _ _ _ _));first|(with_reducible first|refine hU ?_|refine nW ?_|refine yK ?_|refine hJ ?_))|((with_reducible refine (?_:Tgt _ _ _ _ _ _));first|(with_reducible refine PY ?_)|((with_reducible first|refine QU ?_ ?_|refine JJ ?_ ?_|refine QT ?_ ?_|refine NB ?_ ?_|refine QS ?_ ?_);k_extra"h"))
 k_with"MM"=>k_extra"ME";repeat ((with_reducible refine ad ?_);k_extra"ME")
 k_with"M"=>with_reducible first|assumption|refine List.mem_cons_self|repeat first|assumption|refine List.mem_cons_self|apply List.mem_cons_of_mem
 k_with"H"=>first|with_reducible refine rfl|with_reducible assumption|refine fJ|refine mX|k_extra"R"
 k_with"U"=>repeat with_reducible first|refine Upd.head|apply Upd.tail
 k_with"P"=>repeat first|with_reducible refine wN.here|with_reducible refine wN.nil|((with_reducible apply wN.there);refine of_decide_eq_true (by k_extra"K"))
 k_with"N"=>first|with_unfolding_all refine rfl|((repeat first|((with_reducible refine PZ ?_ ?_);k_extra"K")|((with_reducible refine Dd ?_ ?_);k_extra"K")|((with_reducible refine Jd ?_ ?_);k_extra"K"));refine Qy)
 k_with"AT"=>first|((with_reducible refine (?_:Op _ _ _ _ _ _ _));first|(with_reducible first|refine jI (by k_extra"A") (by k_extra"M") (by k_extra"M") (by k_extra"L") (by k_extra"H") ?_|refine BL (by k_extra"A") (by k_extra"M") (by k_extra"M") (by k_extra"N") ?_|refine PX (by k_extra"A") (by k_extra"M") (by k_extra"M") (by k_extra"N") ?_|refine CE (by k_extra"A") (by k_extra"M") (by k_extra"M") (by k_extra"A") (by k_extra"L") (by k_extra"H") ?_))|(with_reducible refine zX (by k_extra"A") (by k_extra"M") (by k_extra"M") (by k_extra"N") ?_)|((with_reducible refine vq ?_ ?_);refine rfl)|(with_reducible refine QF (by k_extra"A") (by k_extra"M") (by k_extra"U") (by k_extra"P") (by k_extra"R") ?_)
 k_with"MX"=>k_extra"MM";repeat (k_extra"AT";k_extra"MM")
 k_with"S"=>first|(with_reducible first|refine Wp ?_|refine Wb ?_|refine Wh ?_|refine Ws ?_|refine wpAny_point ?_|refine wpAny_rule ?_|refine wpAny_letGo ?_|refine wpAny_mkInt' ?_|refine wpAny_mkStr' ?_|refine wpAny_fresh' ?_|refine wpAny_alloc' ?_|refine wpAny_attempt ?_|refine wpAny_throw ?_|refine Wq (by assumption) ?_|refine wpAny_typeOf (by assumption) ?_|refine wpAny_specialOf_val (by assumption) (by assumption) ?_|refine wpAny_specialOf (by assumption) (by assumption) ?_|refine wpAny_isInstance_val (by assumption) (by assumption) ?_|refine wpAny_isInstance (by assumption) (by assumption) ?_|refine wpAny_call ?_|refine wpAny_runValue ?_|refine wpAny_run ?_)|((with_reducible first|refine (?_:wpAny _ _ (load _) _ _ _)|refine (?_:wpAny _ _ (update _ _) _ _ _)|refine (?_:wpAny _ _ (loadPart _ _) _ _ _)|refine (?_:wpAny _ _ (updatePart _ _ _) _ _ _)|refine (?_:wpAny _ _ handled _ _ _)|refine (?_:wpAny _ _ (@ite _ _ ?_ _ _) _ _ _));wp_step)|wp_delta|with_reducible_and_instances refine Wp ?_|with_reducible_and_instances refine Wb ?_
 trivial
end
section
open PySem.Builtin.ObjectAttr
theorem AZ {h:Int} {x:Str} {v:Value}:getL x (⟨h,.str x t,v⟩::es)=some (some v):=by simp [getL,Value.isStr,List.find?_cons]
theorem xL {h:Int} {x:Str} {v:Value} (q:x≠name):getL name (⟨h,.str x t,v⟩::es)=getL name es:=by
 have k:(Value.str x t).isStr name=false:=beq_false_of_ne q;unfold getL;rw [List.find?_cons,List.any_cons];rw [k]
 rfl
theorem bY.get (a:bY H es fs):(∀ d,lk fs name=some d→∃ v,getL name es=some (some v)∧ac H v d)∧(lk fs name=.none→getL name es=some .none):=by
 induction a with
 |nil=>exact ⟨fun d e=>(Option.some_ne_none _ (e:none=some d).symm).elim,fun _=>rfl⟩
 |cons r a ih =>
  rename_i h x t v d es fs
  by_cases q:x=name
  ·subst q;exact ⟨fun d' e=>⟨v,AZ,Option.some.inj (bv.symm.trans e)▸r⟩,fun e=>(Option.some_ne_none _ (bv.symm.trans e)).elim⟩
  ·rw [xL q];exact ⟨fun d' e=>ih.1 d' ((Po q rfl).symm.trans e),fun e=>ih.2 ((Po q rfl).symm.trans e)⟩
theorem bY.some (a:bY H es fs):(getL name es).isSome=true:=by
 cases e:lk fs name with
 |none=>rw [a.get.2 e];rfl
 |some d=>refine al (a.get.1 d e) fun v q _=>?_;rw [q];rfl
class inductive wN (name:Str) (d:D):List (Str×D)→List (Str×D)→Prop
 |nil:wN name d [] [(name,d)]
 |here {d₀ r}:wN name d ((name,d₀)::r) ((name,d)::r)
 |there {y e r r'}:y≠name→wN name d r r'→wN name d ((y,e)::r) ((y,e)::r')
theorem wN.are {v:Value} {hsh:Int}:∀ {es fs fs'},wN name d fs fs'→bY H es fs→ac H v d→bY H (putL name hsh (.str name t) v es) fs':=by
 intro es fs fs' p a r
 induction p generalizing es with
 |nil=>cases a;exact .cons r .nil
 |here=>cases a with
  |cons r' a=>unfold putL;rw [if_pos (by simp [Value.isStr])];exact .cons r a
 |there q p ih=>cases a with
  |cons r' a=>unfold putL;rw [if_neg (by simpa [Value.isStr] using q)];exact .cons r' (ih a)
noncomputable def gn:D→Bool
 |.stat v=>handedIn v
 |_=>true
theorem te {v:Value} (r:ac H v d) (h:gn d=true):handedIn v=true:=by
 cases r<;>first|rfl|exact h
noncomputable def EP (K:Frag) (C:Addr):Bool:=plainGet K C (S "")&&hasDictIn K C&&findIn K (.ref C) "__setattr__"==some (some (.builtin "object.__setattr__"))&&plainOver K C
noncomputable def Cy (K:Frag) (C:Addr) (name:Str):Bool:=findIn K (.ref C) name==some .none
noncomputable def Jx (K:Frag) (C:Addr) (name:Str) (a:Value):Bool:=findIn K (.ref C) name==some (some a)&&specialIn K a "__get__"==some none&&handedIn a&&!copiedNames.contains name
noncomputable def Cn (K:Frag) (C:Addr) (name:Str) (f:Addr):Bool:=findIn K (.ref C) name==some (some (.ref (f+1)))&&(specialIn K (.ref (f+1)) "__get__"==some (some (.builtin "property.__get__"))&&(takesIn K (.ref (f+1))==some true&&(recIn K (f+1) "property").bind List.head?==some (.ref f)))
noncomputable def C8 (K:Frag) (C:Addr) (name:Str) (f:Addr):Bool:=findIn K (.ref C) name==some (some (.ref f))&&isFn K (.ref f)
class Pk (C:Addr):Prop where
 h:∀ P,EP (K P) C=true
class aQ (C:Addr) (name:Str):Prop where
 h:∀ P,Cy (K P) C name=true
class c9 (C:Addr) (name:Str) (v:outParam Value):Prop where
 h:∀ P,Jx (K P) C name v=true
class be (C:Addr) (name:Str) (f:outParam Addr):Prop where
 h:∀ P,Cn (K P) C name f=true
class dz (C:Addr) (name:Str) (f:outParam Addr):Prop where
 h:∀ P,C8 (K P) C name f=true
theorem Pk.is (C:Addr) [ok:Pk C] (P:Params):plainGet (K P) C (S "")=true∧hasDictIn (K P) C=true∧findIn (K P) (.ref C) "__setattr__"=some (some (.builtin "object.__setattr__"))∧plainOver (K P) C=true:=by
 have o:=ok.h P;unfold EP at o;simp only [Bool.and_eq_true,beq_iff_eq] at o;exact ⟨o.1.1.1,o.1.1.2,o.1.2,o.2⟩
theorem rc {K:Frag} {x C dx:Addr} {v:Value}
  (X:K.In s.heap) (hx:s.heap.get? x=some (instObj C dx)) (hdx:s.heap.get? dx=some (dictOf es n)) (hp:plainOver K C=true) (ht:takerIn K C name=some .none) (hh:hasDictIn K C=true) (hl:(getL name es).isSome=true)
  (hz:∀ hsh t,(putL name hsh (.str name t) v es).length≤1000)
  (h:∀ h' hsh t n',Heap.SameBut dx s.heap h'→h'.get? dx=some (dictOf (putL name hsh (.str name t) v es) n')→R (.ok (.ret .none)) {s with heap:=h',toks:=s.toks+1}) :
  codeAny (model prog w) A (.call (.builtin "object.__setattr__") ⟨[.ref x,.str name tk,v],[]⟩) R s:=by
 have I:InstAt s.heap x (instObj C dx) C (some (dictOf es n)):=⟨hx,rfl,rfl,hdx⟩;refine osa_open X I hp ht fun b=>?_;refine al (any_some hh) fun cd hc hd'=>?_;skip;refine Wb (Wp (Wb (Wb (wpAny_loadPart hx (Wb ((looks_clsIn X hc).here ?_))))));rw [hd'];refine Wp (a:=some dx) (Wb (Wp (Wb ?_)));skip;refine Wb (Wb (wpAny_askSetting (Wp (Wb (wpAny_mkText (Wb (wpAny_loadPart hdx ?_)))))))
 have cc:(!es.any (·.key.isStr name)&&es.any (·.refKey))=false:=by
  unfold getL at hl
  split at hl
  ·rename_i en he;rw [List.any_eq_true.mpr ⟨en,List.mem_of_find?_eq_some he,List.find?_some he⟩];rfl
  ·split at hl
   ·cases hl
   ·rename_i z;rw [Bool.not_eq_true] at z;rw [z,Bool.and_false]
 have cc':(!es.toArray.any (·.key.isStr name)&&es.toArray.any (·.refKey))=false:=by
  rw [← Array.any_toList,← Array.any_toList];exact cc
 dsimp only;rw [aRefKeyMayBeTheName_at,cc'];refine wpAny_updatePart hdx ?_;have e:=putName_dict name (PyData.keyHash w.params name) (.str name s.toks) v es n;have D':=Heap.get?_update_self (h:=s.heap) (Obj.putName name (PyData.keyHash w.params name) (.str name s.toks) v) hdx (by rw [e];rfl);rw [e] at D';have hz':=hz (PyData.keyHash w.params name) s.toks;refine wpAny_bind (wpAny_lookBehind D' (pastItsLine_dict (by rw [List.size_toArray,sizeLine_eq];lia)) ?_);exact Wp (h _ _ _ _ (Heap.SameBut.update ..) D')
theorem u8 {K:Frag} {x C dx:Addr} {v:Value}
  (X:K.In s.heap) (hx:s.heap.get? x=some (instObj C dx)) (hdx:s.heap.get? dx=some (dictOf es n)) (hs:findIn K (.ref C) "__setattr__"=some (some (.builtin "object.__setattr__"))) (hp:plainOver K C=true) (ht:takerIn K C name=some .none) (hh:hasDictIn K C=true) (hl:(getL name es).isSome=true)
  (hz:∀ hsh t,(putL name hsh (.str name t) v es).length≤1000)
  (h:∀ h' hsh t n',Heap.SameBut dx s.heap h'→h'.get? dx=some (dictOf (putL name hsh (.str name t) v es) n')→Q () {s with heap:=h',toks:=s.toks+2}) :
  wpAny (model prog w) A (setAttr (.ref x) name v) Q E s:=by
 have I:InstAt s.heap x (instObj C dx) C (some (dictOf es n)):=⟨hx,rfl,rfl,hdx⟩;exact set_plain X I hs (rc (s:={s with toks:=s.toks+1}) X hx hdx hp ht hh hl hz h)
theorem fA {H s x C dx fs} (R:ag c H loc O s) (m1:(x,SO.inst C dx)∈O) (m2:(dx,SO.attrs fs)∈O):∃ es n,InstAt s.heap x (instObj C dx) C (some (dictOf es n))∧bY H es fs:=by
 obtain ⟨es,n,e,a⟩:=R.t.hO _ m2;exact ⟨es,n,⟨R.t.hO _ m1,rfl,rfl,e⟩,a⟩
theorem jI {x C dx:Addr} (b:ah c.x) (m1:(x,SO.inst C dx)∈O) (m2:(dx,SO.attrs fs)∈O) (e:lk fs name=some d) [cb:Pk C] [ok:aQ C name] (hd:gn d=true) (h:K' d O):Op c (fun vs=>getAttr (vs.headD .none) name true) [.stat (.ref x)] loc O K' E:=fun H s Q vs R rs q=>by
 refine cG rs fun v a=>?_
 cases a using ac.cStat
 refine bj (fA R m1 m2) fun es n I at'=>?_;refine al (at'.get.1 d e) fun v hv rv=>?_;have ha:=ok.h c.x.w.params;unfold Cy at ha;simp only [beq_iff_eq] at ha;refine gB (Pk.is C c.x.w.params) fun o1 o2 _=>?_;refine get_value (b.X R.t) I (plainGet_of o1).1 (findObj_own o2 ha rfl (by rw [lookIn_dict];exact hv)) (te rv hd) (q _ _ _ _ _ h (R.tok _) (Pr _) rv)
theorem jJ {x C dx:Addr} {v:Value} (b:ah c.x) (m1:(x,SO.inst C dx)∈O) (m2:(dx,SO.attrs fs)∈O) (e:lk fs name=.none) [cb:Pk C] [ok:c9 C name v] (rd:∀ H,ac H v d) (h:K' d O):Op c (fun vs=>getAttr (vs.headD .none) name true) [.stat (.ref x)] loc O K' E:=fun H s Q vs R rs q=>by
 refine cG rs fun u a=>?_
 cases a using ac.cStat
 refine bj (fA R m1 m2) fun es n I at'=>?_;have hv:=at'.get.2 e;have o:=ok.h c.x.w.params;unfold Jx at o;simp only [Bool.and_eq_true,beq_iff_eq,Bool.not_eq_true'] at o;obtain ⟨⟨⟨o3,o4⟩,o5⟩,o6⟩:=o;refine gB (Pk.is C c.x.w.params) fun o1 o2 _=>?_;exact get_value (b.X R.t) I (plainGet_of o1).1 (findObj_cls o2 o3 o4 o5 o6 (by rw [lookIn_dict];exact hv)) o5 (q _ _ _ _ _ h (R.tok _) (Pr _) (rd _))
theorem aW {x C dx f:Addr} (b:ah c.x) (m1:(x,SO.inst C dx)∈O) (m2:(dx,SO.attrs fs)∈O) [cb:Pk C] [ok:be C name f] (hd:gn d=true)
  (hc:∀ x',c.x.le x'→au x' c.A.in1 (.ref f) [.stat (.ref x)] O (fun d' O'=>d'=d∧O'=O) NoE) (h:K' d O):Op c (fun vs=>getAttr (vs.headD .none) name true) [.stat (.ref x)] loc O K' E:=fun H s Q vs R rs q=>by
 refine cG rs fun u a=>?_
 cases a using ac.cStat
 refine bj (fA R m1 m2) fun es n I at'=>?_;have o:=ok.h c.x.w.params;refine gB (Pk.is C c.x.w.params) fun o1 o2 _=>?_;unfold Cn at o;simp only [Bool.and_eq_true,beq_iff_eq] at o;refine nP o fun ha o3 o4 o5=>?_;refine al (Option.bind_eq_some_iff.mp o5) fun l hp e=>?_
 obtain ⟨rest,rfl⟩:∃ rest,l=.ref f::rest:=by
  cases l with
  |nil=>cases e
  |cons a r=>exact ⟨r,by rw [Option.some.inj e]⟩
 have X:=b.X R.t
 refine get_bind X I (plainGet_of o1).1 (findObj_data (by refine al (any_some o2) fun cd hc _=>?_;rw [hc];rfl) ha o3 o4) (plainGet_of o1).2
  (wpAny_call (prop_get (s:={s with toks:=s.toks+1}) X hp ?_))
 have R1:=R.tok (s.toks+1);refine hc (outer c s.heap) (cq c s.heap) H {s with toks:=s.toks+1} _ [.ref x] (cJ R1) (.one (.stat _)) (fun H' s' v d' O' k T le rd=>?_) fun _ _ z=>z.elim;obtain ⟨rfl,rfl⟩:=k;refine (?_:wpAny (model c.x.prog c.x.w) c.A (handedOut v) Q E s');rw [handedOut_of (te rd hd)];exact Wp (q _ _ _ _ _ h (Pm R1 T le) le rd)
theorem zX {x C dx f:Addr} (b:ah c.x) (m1:(x,SO.inst C dx)∈O) (m2:(dx,SO.attrs fs)∈O) (e:lk fs name=.none) [cb:Pk C] [ok:dz C name f] (h:KM (.ref f) [.stat (.ref x)] O):GM c name (.stat (.ref x)) loc O KM E:=fun pl H s Q v R rd q=>by
 cases rd using ac.cStat
 refine bj (fA R m1 m2) fun es n I at'=>?_;have o:=ok.h c.x.w.params;unfold C8 at o;simp only [Bool.and_eq_true,beq_iff_eq] at o;obtain ⟨o2,o3⟩:=o;obtain ⟨o1,_⟩:=Pk.is C c.x.w.params;exact method_fn (b.X R.t) I (plainGet_of o1).1 (plainGet_of o1).2 o2 (beq_iff_eq.mp o3) (by refine (?_:(lookIn name (dictOf es n)).map _=_);rw [lookIn_dict,at'.get.2 e];rfl) (q _ _ _ _ _ _ h R (Pr _) (.one (.stat _)))
theorem FI {x C dx:Addr} {KO:Own→Prop} (b:ah c.x) (m1:(x,SO.inst C dx)∈O) (pa:wN name d fs fs') (hz:Nat.ble fs'.length 900=true) (u:Upd dx (.attrs fs) (.attrs fs') O O') [cb:Pk C] [ok:aQ C name] (h:KO O'):OpU c (fun vs=>setAttr (vs.headD .none) name (vs.tail.headD .none)) [.stat (.ref x),d] loc O KO E:=fun H s Q vs R rs q=>by
 refine ay rs fun v w r1 r2=>?_
 cases r1 using ac.cStat
 obtain ⟨es,n,e,a⟩:=R.t.hO _ u.mem;have ha:=ok.h c.x.w.params;unfold Cy at ha;simp only [beq_iff_eq] at ha;refine nP (Pk.is C c.x.w.params) fun _ o2 o3 o4=>?_;refine u8 (v:=w) (b.X R.t) (R.t.hO _ m1) e o3 o4 (by unfold takerIn;rw [ha];rfl) o2 a.some (fun hsh t=>?_) fun h' hsh t n' sb D'=>?_
 ·rw [(pa.are (hsh:=hsh) (t:=t) a r2).length];have:=Nat.le_of_ble_eq_true hz;lia
 ·exact q _ _ _ h (ag.upd (s':={s with heap:=h',toks:=s.toks+2}) R u sb ⟨_,_,D',pa.are a r2⟩) (Pr _)
end
noncomputable def Q7:List Addr:=[544,649,1069,1166,1227,1297]
theorem Rc (P:Params):(Q7.all fun p=>EP (K P) p)=true:=by kernel_rfl
theorem Q4 {C:Addr} (i:Nat) (e:Q7[i]? = some C):Pk C:=⟨fun P=>List.all_eq_true.mp (Rc P) _ (List.mem_of_getElem? e)⟩
noncomputable def Q9:List (Addr×Str):=[(544,S "_buffer"),(544,S "_magic"),(544,S "_offset"),(544,S "_length"),(544,S "_crc"),(544,S "_timestamp"),(544,S "_attributes"),(544,S "_decompressed"),(649,S "_magic"),(649,S "_offset"),(649,S "_timestamp"),(649,S "_timestamp_type"),(649,S "_key"),(649,S "_value"),(649,S "_crc"),(649,S "_crc_bytes"),(1069,S "_buffer"),(1069,S "_header_data"),(1069,S "_pos"),(1069,S "_num_records"),(1069,S "_next_record_index"),(1069,S "_decompressed"),(1166,S "_size_in_bytes"),(1166,S "_offset"),(1166,S "_timestamp"),(1166,S "_timestamp_type"),(1166,S "_key"),(1166,S "_value"),(1166,S "_headers"),(1227,S "_size_in_bytes"),(1227,S "_offset"),(1227,S "_timestamp"),(1227,S "_timestamp_type"),(1227,S "_key"),(1227,S "_value"),(1227,S "_headers"),(1227,S "_version"),(1227,S "_type"),(1297,S "_buffer"),(1297,S "_pos"),(1297,S "_next_slice"),(1297,S "_remaining_bytes")]
theorem Rd (P:Params):(Q9.all fun p=>Cy (K P) p.1 p.2)=true:=by kernel_rfl
theorem Q1 {C:Addr} (i:Nat) (e:Q9[i]? = some (C,y)):aQ C y:=⟨fun P=>List.all_eq_true.mp (Rd P) _ (List.mem_of_getElem? e)⟩
noncomputable def Rb:List (Addr×Str×Value):=[(544,S "LOG_OVERHEAD",.int 12 1151),(544,S "MAGIC_OFFSET",.int 16 1156),(544,S "KEY_OFFSET_V0",.int 18 1165),(544,S "KEY_OFFSET_V1",.int 26 1168),(544,S "KEY_LENGTH",.int 4 1171),(544,S "VALUE_LENGTH",.int 4 1171),(544,S "CODEC_MASK",.int 7 1174),(544,S "CODEC_GZIP",.int 1 1178),(544,S "TIMESTAMP_TYPE_MASK",.int 8 1184),(544,S "LOG_APPEND_TIME",.int 1 1186),(544,S "HEADER_STRUCT_V0",.ref 423),(544,S "HEADER_STRUCT_V1",.ref 424),(1069,S "HEADER_STRUCT",.ref 813),(1069,S "AFTER_LEN_OFFSET",.int 12 1775),(1069,S "CODEC_MASK",.int 7 1777),(1069,S "CODEC_NONE",.int 0 1779),(1069,S "CODEC_GZIP",.int 1 1781),(1069,S "TIMESTAMP_TYPE_MASK",.int 8 1789),(1069,S "CONTROL_MASK",.int 32 1793),(1069,S "LOG_APPEND_TIME",.int 1 1795),(1227,S "KEY_STRUCT",.ref 1177),(1297,S "LOG_OVERHEAD",.int 12 2318)]
theorem Re (P:Params):(Rb.all fun p=>Jx (K P) p.1 p.2.1 p.2.2)=true:=by kernel_rfl
theorem Q2 {C:Addr} {v:Value} (i:Nat) (e:Rb[i]? = some (C,y,v)):c9 C y v:=⟨fun P=>List.all_eq_true.mp (Re P) _ (List.mem_of_getElem? e)⟩
noncomputable def Q5:List (Addr×Str×Addr):=[(544,S "base_offset",459),(544,S "size_in_bytes",467),(544,S "timestamp_type",475),(544,S "compression_type",483),(544,S "magic",491),(649,S "offset",575),(649,S "timestamp",583),(649,S "key",599),(649,S "value",607),(649,S "headers",615),(1069,S "base_offset",848),(1069,S "size_in_bytes",856),(1069,S "magic",872),(1069,S "attributes",888),(1069,S "compression_type",920),(1069,S "timestamp_type",928),(1069,S "is_control_batch",944),(1069,S "first_timestamp",952),(1069,S "max_timestamp",960),(1166,S "offset",1100),(1166,S "timestamp",1108),(1166,S "key",1124),(1166,S "value",1132),(1166,S "headers",1140),(1227,S "offset",1100),(1227,S "timestamp",1108),(1227,S "key",1124),(1227,S "value",1132),(1227,S "headers",1140),(1227,S "version",1192),(1227,S "commit",1216),(1227,S "abort",1208)]
theorem Q8 (P:Params):(Q5.all fun p=>Cn (K P) p.1 p.2.1 p.2.2)=true:=by kernel_rfl
theorem Q0 {C:Addr} {f:Addr} (i:Nat) (e:Q5[i]? = some (C,y,f)):be C y f:=⟨fun P=>List.all_eq_true.mp (Q8 P) _ (List.mem_of_getElem? e)⟩
noncomputable def Q6:List (Addr×Str×Addr):=[(544,S "_read_header",513),(544,S "_decompress",506),(544,S "_assert_has_codec",431),(544,S "_read_all_headers",520),(544,S "_read_key_value",527),(544,S "_crc_bytes",534),(1069,S "_assert_has_codec",820),(1069,S "_maybe_uncompress",1030),(1069,S "_read_msg",1038),(1297,S "_cache_next",1265),(1297,S "size_in_bytes",1250),(1297,S "valid_bytes",1257),(1297,S "has_next",1272),(1297,S "next_batch",1280)]
theorem Ra (P:Params):(Q6.all fun p=>C8 (K P) p.1 p.2.1 p.2.2)=true:=by kernel_rfl
theorem Q3 {C:Addr} {f:Addr} (i:Nat) (e:Q6[i]? = some (C,y,f)):dz C y f:=⟨fun P=>List.all_eq_true.mp (Ra P) _ (List.mem_of_getElem? e)⟩
instance:Pk 544:=Q4 0 rfl
instance:aQ 544 (S "_buffer"):=Q1 0 rfl
instance:aQ 544 (S "_magic"):=Q1 1 rfl
instance:aQ 544 (S "_offset"):=Q1 2 rfl
instance:aQ 544 (S "_length"):=Q1 3 rfl
instance:aQ 544 (S "_crc"):=Q1 4 rfl
instance:aQ 544 (S "_timestamp"):=Q1 5 rfl
instance:aQ 544 (S "_attributes"):=Q1 6 rfl
instance:aQ 544 (S "_decompressed"):=Q1 7 rfl
instance:c9 544 (S "LOG_OVERHEAD") (.int (12) 1151):=Q2 0 rfl
instance:c9 544 (S "MAGIC_OFFSET") (.int (16) 1156):=Q2 1 rfl
instance:c9 544 (S "KEY_OFFSET_V0") (.int (18) 1165):=Q2 2 rfl
instance:c9 544 (S "KEY_OFFSET_V1") (.int (26) 1168):=Q2 3 rfl
instance:c9 544 (S "KEY_LENGTH") (.int (4) 1171):=Q2 4 rfl
instance:c9 544 (S "VALUE_LENGTH") (.int (4) 1171):=Q2 5 rfl
instance:c9 544 (S "CODEC_MASK") (.int (7) 1174):=Q2 6 rfl
instance:c9 544 (S "CODEC_GZIP") (.int (1) 1178):=Q2 7 rfl
instance:c9 544 (S "TIMESTAMP_TYPE_MASK") (.int (8) 1184):=Q2 8 rfl
instance:c9 544 (S "LOG_APPEND_TIME") (.int (1) 1186):=Q2 9 rfl
instance:c9 544 (S "HEADER_STRUCT_V0") (.ref 423):=Q2 10 rfl
instance:c9 544 (S "HEADER_STRUCT_V1") (.ref 424):=Q2 11 rfl
instance:be 544 (S "base_offset") 459:=Q0 0 rfl
instance:be 544 (S "size_in_bytes") 467:=Q0 1 rfl
instance:be 544 (S "timestamp_type") 475:=Q0 2 rfl
instance:be 544 (S "compression_type") 483:=Q0 3 rfl
instance:be 544 (S "magic") 491:=Q0 4 rfl
instance:dz 544 (S "_read_header") 513:=Q3 0 rfl
instance:dz 544 (S "_decompress") 506:=Q3 1 rfl
instance:dz 544 (S "_assert_has_codec") 431:=Q3 2 rfl
instance:dz 544 (S "_read_all_headers") 520:=Q3 3 rfl
instance:dz 544 (S "_read_key_value") 527:=Q3 4 rfl
instance:dz 544 (S "_crc_bytes") 534:=Q3 5 rfl
instance:Pk 649:=Q4 1 rfl
instance:aQ 649 (S "_magic"):=Q1 8 rfl
instance:aQ 649 (S "_offset"):=Q1 9 rfl
instance:aQ 649 (S "_timestamp"):=Q1 10 rfl
instance:aQ 649 (S "_timestamp_type"):=Q1 11 rfl
instance:aQ 649 (S "_key"):=Q1 12 rfl
instance:aQ 649 (S "_value"):=Q1 13 rfl
instance:aQ 649 (S "_crc"):=Q1 14 rfl
instance:aQ 649 (S "_crc_bytes"):=Q1 15 rfl
instance:be 649 (S "offset") 575:=Q0 5 rfl
instance:be 649 (S "timestamp") 583:=Q0 6 rfl
instance:be 649 (S "key") 599:=Q0 7 rfl
instance:be 649 (S "value") 607:=Q0 8 rfl
instance:be 649 (S "headers") 615:=Q0 9 rfl
instance:Pk 1069:=Q4 2 rfl
instance:aQ 1069 (S "_buffer"):=Q1 16 rfl
instance:aQ 1069 (S "_header_data"):=Q1 17 rfl
instance:aQ 1069 (S "_pos"):=Q1 18 rfl
instance:aQ 1069 (S "_num_records"):=Q1 19 rfl
instance:aQ 1069 (S "_next_record_index"):=Q1 20 rfl
instance:aQ 1069 (S "_decompressed"):=Q1 21 rfl
instance:c9 1069 (S "HEADER_STRUCT") (.ref 813):=Q2 12 rfl
instance:c9 1069 (S "AFTER_LEN_OFFSET") (.int (12) 1775):=Q2 13 rfl
instance:c9 1069 (S "CODEC_MASK") (.int (7) 1777):=Q2 14 rfl
instance:c9 1069 (S "CODEC_NONE") (.int (0) 1779):=Q2 15 rfl
instance:c9 1069 (S "CODEC_GZIP") (.int (1) 1781):=Q2 16 rfl
instance:c9 1069 (S "TIMESTAMP_TYPE_MASK") (.int (8) 1789):=Q2 17 rfl
instance:c9 1069 (S "CONTROL_MASK") (.int (32) 1793):=Q2 18 rfl
instance:c9 1069 (S "LOG_APPEND_TIME") (.int (1) 1795):=Q2 19 rfl
instance:be 1069 (S "base_offset") 848:=Q0 10 rfl
instance:be 1069 (S "size_in_bytes") 856:=Q0 11 rfl
instance:be 1069 (S "magic") 872:=Q0 12 rfl
instance:be 1069 (S "attributes") 888:=Q0 13 rfl
instance:be 1069 (S "compression_type") 920:=Q0 14 rfl
instance:be 1069 (S "timestamp_type") 928:=Q0 15 rfl
instance:be 1069 (S "is_control_batch") 944:=Q0 16 rfl
instance:be 1069 (S "first_timestamp") 952:=Q0 17 rfl
instance:be 1069 (S "max_timestamp") 960:=Q0 18 rfl
instance:dz 1069 (S "_assert_has_codec") 820:=Q3 6 rfl
instance:dz 1069 (S "_maybe_uncompress") 1030:=Q3 7 rfl
instance:dz 1069 (S "_read_msg") 1038:=Q3 8 rfl
instance:Pk 1166:=Q4 3 rfl
instance:aQ 1166 (S "_size_in_bytes"):=Q1 22 rfl
instance:aQ 1166 (S "_offset"):=Q1 23 rfl
instance:aQ 1166 (S "_timestamp"):=Q1 24 rfl
instance:aQ 1166 (S "_timestamp_type"):=Q1 25 rfl
instance:aQ 1166 (S "_key"):=Q1 26 rfl
instance:aQ 1166 (S "_value"):=Q1 27 rfl
instance:aQ 1166 (S "_headers"):=Q1 28 rfl
instance:be 1166 (S "offset") 1100:=Q0 19 rfl
instance:be 1166 (S "timestamp") 1108:=Q0 20 rfl
instance:be 1166 (S "key") 1124:=Q0 21 rfl
instance:be 1166 (S "value") 1132:=Q0 22 rfl
instance:be 1166 (S "headers") 1140:=Q0 23 rfl
instance:Pk 1227:=Q4 4 rfl
instance:aQ 1227 (S "_size_in_bytes"):=Q1 29 rfl
instance:aQ 1227 (S "_offset"):=Q1 30 rfl
instance:aQ 1227 (S "_timestamp"):=Q1 31 rfl
instance:aQ 1227 (S "_timestamp_type"):=Q1 32 rfl
instance:aQ 1227 (S "_key"):=Q1 33 rfl
instance:aQ 1227 (S "_value"):=Q1 34 rfl
instance:aQ 1227 (S "_headers"):=Q1 35 rfl
instance:aQ 1227 (S "_version"):=Q1 36 rfl
instance:aQ 1227 (S "_type"):=Q1 37 rfl
instance:c9 1227 (S "KEY_STRUCT") (.ref 1177):=Q2 20 rfl
instance:be 1227 (S "offset") 1100:=Q0 24 rfl
instance:be 1227 (S "timestamp") 1108:=Q0 25 rfl
instance:be 1227 (S "key") 1124:=Q0 26 rfl
instance:be 1227 (S "value") 1132:=Q0 27 rfl
instance:be 1227 (S "headers") 1140:=Q0 28 rfl
instance:be 1227 (S "version") 1192:=Q0 29 rfl
instance:be 1227 (S "commit") 1216:=Q0 30 rfl
instance:be 1227 (S "abort") 1208:=Q0 31 rfl
instance:Pk 1297:=Q4 5 rfl
instance:aQ 1297 (S "_buffer"):=Q1 38 rfl
instance:aQ 1297 (S "_pos"):=Q1 39 rfl
instance:aQ 1297 (S "_next_slice"):=Q1 40 rfl
instance:aQ 1297 (S "_remaining_bytes"):=Q1 41 rfl
instance:c9 1297 (S "LOG_OVERHEAD") (.int (12) 2318):=Q2 21 rfl
instance:dz 1297 (S "_cache_next") 1265:=Q3 9 rfl
instance:dz 1297 (S "size_in_bytes") 1250:=Q3 10 rfl
instance:dz 1297 (S "valid_bytes") 1257:=Q3 11 rfl
instance:dz 1297 (S "has_next") 1272:=Q3 12 rfl
instance:dz 1297 (S "next_batch") 1280:=Q3 13 rfl
section
open PySem.Builtin PySem.Builtin.Struct
theorem jf:Slot "_struct.Struct" "unpack_from" "_struct.Struct.unpack_from":=
 .of (owner:="_struct.Struct") (n:="unpack_from") (by rw [typeLookup_type,builtinLookup_eq_fast];kernel_rfl) (by decide +kernel) (by decide +kernel) (by decide +kernel)
  (.inr (by decide +kernel)) (by rw [isSubtype_type];kernel_rfl)
theorem u6:Slot "_struct.Struct" "unpack" "_struct.Struct.unpack":=
 .of (owner:="_struct.Struct") (n:="unpack") (by rw [typeLookup_type,builtinLookup_eq_fast];kernel_rfl) (by decide +kernel) (by decide +kernel) (by decide +kernel)
  (.inr (by decide +kernel)) (by rw [isSubtype_type];kernel_rfl)
theorem tm:entryFor table "_struct.Struct.unpack_from"=some Builtin.«_struct.Struct.unpack_from»:=entryFor_of_tree (by kernel_rfl)
theorem Bb:entryFor table "_struct.Struct.unpack"=some Builtin.«_struct.Struct.unpack»:=entryFor_of_tree (by kernel_rfl)
theorem ES (a b c:Value):argsOk "_struct.Struct.unpack_from" ⟨[a,b,c],[]⟩:=by skip;kernel_rfl
theorem BD (a b:Value):argsOk "_struct.Struct.unpack_from" ⟨[a,b],[]⟩:=by skip;kernel_rfl
theorem ER (a b:Value):argsOk "_struct.Struct.unpack" ⟨[a,b],[]⟩:=by skip;kernel_rfl
theorem pE:typeOf (.builtin "_struct.Struct.unpack_from")=pure (.type "method_descriptor"):=by refine (?_:builtinType _=_);rw [builtinType_eq_fast];kernel_rfl
theorem BQ:typeOf (.builtin "_struct.Struct.unpack")=pure (.type "method_descriptor"):=by refine (?_:builtinType _=_);rw [builtinType_eq_fast];kernel_rfl
theorem kL:PlainAttrs "_struct.Struct":=⟨⟨"_struct.Struct.__getattribute__",by rw [typeLookup_type,builtinLookup_eq_fast];kernel_rfl,by decide +kernel⟩,by rw [typeLookup_type,builtinLookup_eq_fast];kernel_rfl⟩
theorem mE:typeOf (.builtin "_struct.Struct.size")=pure (.type "getset_descriptor"):=by refine (?_:builtinType _=_);rw [builtinType_eq_fast];kernel_rfl
theorem Gp:typeLookup (.type "_struct.Struct") "size"=pure (some (.builtin "_struct.Struct.size")):=by rw [typeLookup_type,builtinLookup_eq_fast];kernel_rfl
theorem PJ:Slot "bytearray" "__buffer__" "bytearray.__buffer__":=
 .of (owner:="bytearray") (n:="__buffer__") (by rw [typeLookup_type,builtinLookup_eq_fast];kernel_rfl) (by decide +kernel) (by decide +kernel) (by decide +kernel)
  (.inl (by decide +kernel)) (by rw [isSubtype_type];kernel_rfl)
theorem gy:typeLookup (.type "bytearray") "__release_buffer__"=pure (some (.builtin "bytearray.__release_buffer__")):=by rw [typeLookup_type,builtinLookup_eq_fast];kernel_rfl
theorem Pz:isSubtype (.type "bytearray") (.type "bytearray")=pure true:=by rw [isSubtype_type];kernel_rfl
section
variable {M:Model}
theorem tZ {name id:String} (hT:s.TypeIs (.ref a) "bytearray") (lk:typeLookup (.type "bytearray") (S name)=pure (some (.builtin id))) (he:id.endsWith ("."++name)=true) (hd:id.dropRight (name.length+1)="bytearray") (h:Q true s):wpAny M A (Bytes.slotIsOwn (.ref a) name) Q E s:=by
 skip;refine Wb (wpAny_specialOf hT lk ?_);dsimp only;rw [he];simp only [Bool.not_true,Bool.false_eq_true,if_false];rw [hd];exact wpAny_isInstance hT Pz h
theorem jF (ho:s.heap.get? a=some (baO l n)) (h:Q false s):wpAny M A (Bytes.ownRelease (.ref a)) Q E s:=by
 skip;exact Wb (tZ ⟨_,ho,rfl⟩ gy (by decide +kernel) (by decide +kernel) (Wp h))
theorem uA {id:String} {Q:Array UInt8→Shared→Prop} (ho:s.heap.get? a=some (baO l n)) (h:Q l.toArray s):wpAny M A (Bytes.bytesLike id (.ref a)) Q E s:=by
 have hT:s.TypeIs (.ref a) "bytearray":=⟨_,ho,rfl⟩;have f1:=PJ.lookup;have f2:=gy;have hp:∀ {Q':Array UInt8→Shared→Prop} {E'},Q' l.toArray s→wpAny M A (Bytes.payload (.ref a)) Q' E' s:=fun hq=>eR ho hq;have ho1:∀ {Q':Bool→Shared→Prop} {E'},Q' true s→wpAny M A (Bytes.slotIsOwn (.ref a) "__buffer__") Q' E' s:=fun hq=>tZ hT PJ.lookup (by decide +kernel) (by decide +kernel) hq;have ho2:∀ {Q':Bool→Shared→Prop} {E'},Q' false s→wpAny M A (Bytes.ownRelease (.ref a)) Q' E' s:=fun hq=>jF ho hq;skip
 repeat (any_goals (first|assumption|(with_reducible refine hp ?_)|(with_reducible refine ho1 ?_)|(with_reducible refine ho2 ?_)|k_extra"S"))
end
def gH (K:Frag) (a:Addr) (b:Array UInt8):Prop:=∃ t,K.lookup a=some ⟨.type "_struct.Struct",.none,.fields #[.bytes b t],#[]⟩
theorem kF:Slot "_struct.Struct" "__getattribute__" "_struct.Struct.__getattribute__":=.of (owner:="_struct.Struct") (n:="__getattribute__") (by rw [typeLookup_type,builtinLookup_eq_fast];kernel_rfl) (by decide +kernel) (by decide +kernel) (by decide +kernel)
  (.inl (by decide +kernel)) (by rw [isSubtype_type];kernel_rfl)
theorem Bc:entryFor table "_struct.Struct.__getattribute__"=some Builtin.«object.__getattribute__» :=
 entryFor_alias (id':="object.__getattribute__") (by rw [fastTable_eq_tree];kernel_rfl) (by decide +kernel) (by decide +kernel) (by rw [fastTable_eq_tree];kernel_rfl)
theorem ET (a b:Value):argsOk "_struct.Struct.__getattribute__" ⟨[a,b],[]⟩:=by skip;kernel_rfl
theorem xX:entryFor table "_struct.Struct.size"=some Builtin.«_struct.Struct.size»:=entryFor_of_tree (by kernel_rfl)
theorem wV:isSubtype (.type "_struct.Struct") (.type (".".intercalate ("_struct.Struct.size".cutAt '.').dropLast))=pure true:=by
 rw [isSubtype_type];kernel_rfl
theorem gG {K:Frag} {b:Array UInt8} (X:K.In h) (e:gH K a b):∃ t sl,h.get? a=some ⟨.type "_struct.Struct",.none,.fields #[.bytes b t],sl⟩:=e.elim fun t q=>⟨t,#[],X _ _ q⟩
section
variable {M:Model}
theorem jO {b:Array UInt8} {sl:Array (Option Value)} {Q:Array UInt8×Format→Shared→Prop} (ho:s.heap.get? a=some ⟨.type "_struct.Struct",.none,.fields #[.bytes b t],sl⟩) (hp:Struct.parse b=pure f) (h:Q (b,f) s):wpAny M A (Struct.structFormat (.ref a)) Q E s:=by
 skip;refine Wb (wpAny_field (x:=.bytes b t) ho rfl rfl ?_);rw [if_neg (by intro q;cases q)];refine Wb ?_;skip;refine Wb (Wp (Wp ?_));rw [hp];exact Wb (Wp (Wp h))
end
theorem B0 (a:Value) (b:Array UInt8) (u:Tok) (off:Int) (w:Tok):«_struct.Struct.unpack_from» ⟨[a,.bytes b u,.int off w],[]⟩ =
  Struct.unpackFrom "_struct.Struct.unpack_from" (do return (← structFormat a).2) (.bytes b u) (some (.int off w)):=by rfl
theorem Ao (a b:Value):«_struct.Struct.unpack_from» ⟨[a,b],[]⟩=Struct.unpackFrom "_struct.Struct.unpack_from" (do return (← structFormat a).2) b .none:=by rfl
theorem BZ (a b:Value):«_struct.Struct.unpack» ⟨[a,b],[]⟩=Struct.unpackExact "_struct.Struct.unpack" (do return (← structFormat a).2) b:=by rfl
section
variable {M:Model}
theorem pz {id:String} {fm:Sem Format} {off:Int} (hb:∀ b t,Bytes.bytesLike id (.bytes b t)=pure b) (hf:∀ (Q':Format→Shared→Prop),Q' f s→wpAny M A fm Q' E s)
  (hp:f.codes.all cB=true) (hz:f.codes.length≤100) (h0:0≤off) (h1:off+f.size≤l.length) (hl:l.length≤16777216)
  (h:∀ vs tk,IntsAre vs (dh f l off.toNat)→Q (.done (.ret (.ref s.heap.objs.size))) {s with heap:=s.heap.push {cls:=.type "tuple",data:=.seq vs.toArray},toks:=tk}) :
  wpAny M A (Struct.unpackFrom id fm (.bytes l.toArray t) (some (.int off u))) Q E s:=by
 unfold Struct.unpackFrom;rw [hb];refine Wb (Wp ?_);dsimp only;refine Wb (m:=Bytes.indexHeld [Value.bytes l.toArray t] (.int off u)) ?_;have ih:Bytes.indexHeld [Value.bytes l.toArray t] (.int off u)=asIndex (.int off u):=by rfl
 rw [ih];unfold asIndex;refine Wb (Wq (a:=some off) rfl (Wp ?_));have hfit:Bytes.fitsIndex off=true:=by simp only [Bytes.fitsIndex,Bool.and_eq_true,decide_eq_true_eq];lia
 rw [hfit];refine Wb (Wp ?_);refine Wb (hf _ ?_);refine Wb (Wp ?_);rw [ke h0 (by simpa using h1)];refine Wb (Wp ?_);refine Wb (ge hp (fun vs tk hi=>?_) hz);exact Wp (h vs tk hi)
theorem PO {id:String} {fm:Sem Format} {v:Value} (hb:∀ (Q':Array UInt8→Shared→Prop),Q' l.toArray s→wpAny M A (Bytes.bytesLike id v) Q' E s) (hf:∀ (Q':Format→Shared→Prop),Q' f s→wpAny M A fm Q' E s)
  (hp:f.codes.all cB=true) (hz:f.codes.length≤100) (h1:f.size≤l.length)
  (h:∀ vs tk,IntsAre vs (dh f l 0)→Q (.done (.ret (.ref s.heap.objs.size))) {s with heap:=s.heap.push {cls:=.type "tuple",data:=.seq vs.toArray},toks:=tk}) :
  wpAny M A (Struct.unpackFrom id fm v .none) Q E s:=by
 skip;refine Wb (hb _ ?_);dsimp only;refine Wb (Wp ?_);refine Wb (hf _ ?_);refine Wb (Wp ?_);rw [ke (by decide) (by simpa using h1)];refine Wb (Wp ?_);refine Wb (ge hp (fun vs tk hi=>?_) hz);exact Wp (h vs tk hi)
theorem pB {id:String} {fm:Sem Format} {v:Value} (hb:∀ (Q':Array UInt8→Shared→Prop),Q' l.toArray s→wpAny M A (Bytes.bytesLike id v) Q' E s) (hf:∀ (Q':Format→Shared→Prop),Q' f s→wpAny M A fm Q' E s)
  (hp:f.codes.all cB=true) (hz:f.codes.length≤100) (h1:l.length=f.size)
  (h:∀ vs tk,IntsAre vs (dh f l 0)→Q (.done (.ret (.ref s.heap.objs.size))) {s with heap:=s.heap.push {cls:=.type "tuple",data:=.seq vs.toArray},toks:=tk}) :
  wpAny M A (Struct.unpackExact id fm v) Q E s:=by
 skip;refine Wb (hb _ ?_);refine Wb (hf _ ?_);rw [if_neg (by simp [h1])];refine Wb (ge hp (fun vs tk hi=>?_) hz);exact Wp (h vs tk hi)
end
theorem jN {b:Array UInt8} {id:String} (B:ah c.x) (ha:∀ P,gH (K P) a b) (slot:Slot "_struct.Struct" name id) (ty:typeOf (.builtin id)=pure (.type "method_descriptor")) (h:KM (.builtin id) [.stat (.ref a)] O):Mine.GM c name (.stat (.ref a)) loc O KM E:=fun pl H s Q v R rd q=>by
 cases rd using ac.cStat
 refine ur (gG (B.X R.t) (ha _)) fun t sl ho=>?_;exact getMethod_builtin ⟨_,ho,rfl⟩ kL slot ty (fun a' e=>by cases e;exact ⟨_,ho,rfl⟩) (q _ _ _ _ _ _ h R (Pr _) (.one (.stat _)))
theorem CA {b:Array UInt8} {off:Int} (B:ah c.x) (ha:∀ P,gH (K P) a b) (hf:Struct.parse b=pure f) (hp:f.codes.all cB=true) (hz:f.codes.length≤100) (h0:0≤off) (h1:off+f.size≤l.length) (hl:l.length≤16777216)
  (h:K' (.tup ((dh f l off.toNat).map .int)) O):Op c (fun vs=>call (.builtin "_struct.Struct.unpack_from") vs) [.stat (.ref a),.bytes l,.int off] loc O K' E:=fun H s Q vs R rs q=>by
 refine Cl rs fun v u w r1 r2 r3=>?_
 cases r1 using ac.cStat;cases r2 using ac.cBytes;cases r3 using ac.cInt
 refine ur (gG (B.X R.t) (ha _)) fun t sl ho=>?_;have hT:s.TypeIs (.ref a) "_struct.Struct":=⟨_,ho,rfl⟩;refine wpAny_call_entry jf hT tm ?_ (ES _ _ _);rw [B0];refine pz By (fun Q' hq=>Wb (jO ho hf (Wp hq))) hp hz h0 h1 hl fun vs tk hi=>⟨_,rfl,?_⟩;obtain ⟨R',le⟩:=R.push {cls:=.type "tuple",data:=.seq vs.toArray} tk;exact q _ _ _ _ _ h R' le (.tup Ph ((gP hi).mono le))
theorem vx {b:Array UInt8} (B:ah c.x) (ha:∀ P,gH (K P) a b) (hf:Struct.parse b=pure f) (hp:f.codes.all cB=true) (hz:f.codes.length≤100) (h1:f.size≤l.length) (hl:l.length≤16777216)
  (h:K' (.tup ((dh f l 0).map .int)) O):Op c (fun vs=>call (.builtin "_struct.Struct.unpack_from") vs) [.stat (.ref a),.barr l] loc O K' E:=fun H s Q vs R rs q=>by
 refine ay rs fun v u r1 r2=>?_
 cases r1 using ac.cStat
 refine bj (mw R.t.hH r2) fun aa n q1 eb=>?_;obtain rfl:=q1;refine ur (gG (B.X R.t) (ha _)) fun t sl ho=>?_;have hT:s.TypeIs (.ref a) "_struct.Struct":=⟨_,ho,rfl⟩;refine wpAny_call_entry jf hT tm ?_ (BD _ _);rw [Ao];refine PO (fun Q' hq=>uA eb hq) (fun Q' hq=>Wb (jO ho hf (Wp hq))) hp hz h1 fun vs tk hi=>⟨_,rfl,?_⟩;obtain ⟨R',le⟩:=R.push {cls:=.type "tuple",data:=.seq vs.toArray} tk;exact q _ _ _ _ _ h R' le (.tup Ph ((gP hi).mono le))
theorem J9 {b:Array UInt8} (B:ah c.x) (ha:∀ P,gH (K P) a b) (hf:Struct.parse b=pure f) (hp:f.codes.all cB=true) (hz:f.codes.length≤100) (h1:l.length=f.size)
  (h:K' (.tup ((dh f l 0).map .int)) O):Op c (fun vs=>call (.builtin "_struct.Struct.unpack") vs) [.stat (.ref a),.bytes l] loc O K' E:=fun H s Q vs R rs q=>by
 refine ay rs fun v u r1 r2=>?_
 cases r1 using ac.cStat;cases r2 using ac.cBytes
 refine ur (gG (B.X R.t) (ha _)) fun t sl ho=>?_;have hT:s.TypeIs (.ref a) "_struct.Struct":=⟨_,ho,rfl⟩;refine wpAny_call_entry u6 hT Bb ?_ (ER _ _);rw [BZ];refine pB (fun Q' hq=>by rw [Bx];exact wpAny_pure hq) (fun Q' hq=>wpAny_bind (jO ho hf (wpAny_pure hq))) hp hz h1 fun vs tk hi=>⟨_,rfl,?_⟩;obtain ⟨R',le⟩:=R.push {cls:=.type "tuple",data:=.seq vs.toArray} tk;exact q _ _ _ _ _ h R' le (.tup Ph ((gP hi).mono le))
section
variable {g:Array GenState} {d:Drawn} {t:Nat} {os:OsState} {b:Array UInt8} {f:Format} {tk:Tok} {sl:Array (Option Value)}
theorem B7 (ho:h.get? a=some ⟨.type "_struct.Struct",.none,.fields #[.bytes b tk],sl⟩) (hf:Struct.parse b=pure f) (hq:R (.ok (.ret (.int f.size t))) ⟨h,g,d,t+1,os⟩) :
  codeAny (model prog w) A (.call (.builtin "getset_descriptor.__get__") ⟨[.builtin "_struct.Struct.size",.ref a,.type "_struct.Struct"],[]⟩) R ⟨h,g,d,t,os⟩:=by
 have hT:(⟨h,g,d,t,os⟩:Shared).TypeIs (.ref a) "_struct.Struct":=⟨_,ho,rfl⟩;have hT5:(⟨h,g,d,t,os⟩:Shared).TypeIs (.builtin "_struct.Struct.size") "getset_descriptor":=mE;have f8:=wV;refine codeAny_call_builtin F.slot_gs_get.plain F.entry_gs_get (F.slot_gs_get.check _ _ _ _ _ _ _ _ hT5 (F.args_gs_get _ _ _) ?_)
 repeat (any_goals (first|assumption|k_extra"S"))
 refine ⟨Code.quiet_builtin _ (by decide +kernel),codeAny_builtin xX ?_⟩;skip;refine Wb (wpAny_field (x:=.bytes b tk) ho rfl rfl ?_);rw [if_neg (by intro q;cases q)];refine Wb (jO ho hf ?_);exact Wb (wpAny_mkInt (Wp hq))
theorem w4 (ho:h.get? a=some ⟨.type "_struct.Struct",.none,.fields #[.bytes b tk],sl⟩) (hf:Struct.parse b=pure f) (hq:Q (.done (.ret (.int f.size t))) ⟨h,g,d,t+1,os⟩) :
  wpAny (model prog w) A (Builtin.«object.__getattribute__» ⟨[.ref a,.str "size" tn],[]⟩) Q E ⟨h,g,d,t,os⟩:=by
 have hT:(⟨h,g,d,t,os⟩:Shared).TypeIs (.ref a) "_struct.Struct":=⟨_,ho,rfl⟩;have hT5:(⟨h,g,d,t,os⟩:Shared).TypeIs (.builtin "_struct.Struct.size") "getset_descriptor":=mE;have f4:=Gp;have f5:=mE;have f6:=F.slot_gs_get.lookup;have f7:=F.slot_gs_set.lookup
 repeat (any_goals (first|assumption|k_extra"S"))
 refine B7 ho hf ?_
 repeat (any_goals (first|assumption|k_extra"S"))
theorem Fp (ho:h.get? a=some ⟨.type "_struct.Struct",.none,.fields #[.bytes b tk],sl⟩) (hf:Struct.parse b=pure f)
  (hq:Q (.int f.size (t+1)) ⟨h,g,d,t+2,os⟩):wpAny (model prog w) A (getAttr (.ref a) "size" true) Q E ⟨h,g,d,t,os⟩:=by
 have hT:∀ t',(⟨h,g,d,t',os⟩:Shared).TypeIs (.ref a) "_struct.Struct":=fun _=>⟨_,ho,rfl⟩;have f2:=kF.lookup;have f3:=kF.bind (.ref a);skip
 repeat (any_goals (first|assumption|exact hT _|k_extra"S"))
 refine codeAny_call_builtin kF.plain Bc (kF.check _ _ _ _ _ _ _ _ (hT _) (ET _ _) (w4 ho hf ?_))
 repeat (any_goals (first|assumption|k_extra"S"))
end
theorem FK {b:Array UInt8} (B:ah c.x) (ha:∀ P,gH (K P) a b) (hf:Struct.parse b=pure f)
  (h:K' (.int f.size) O):Op c (fun vs=>getAttr (vs.headD .none) "size" true) [.stat (.ref a)] loc O K' E:=fun H s Q vs R rs q=>by
 refine cG rs fun v r1=>?_
 cases r1 using ac.cStat
 refine ur (gG (B.X R.t) (ha _)) fun t sl ho=>?_;have R':=R.tok (s.toks+2);obtain ⟨hp,g,d,tk,os⟩:=s;exact Fp ho hf (q _ _ _ _ _ h R' (Pr _) (.int _ _))
end
section
open PySem.Builtin
section
variable {α β:Type} {M:Model}
theorem mm {α:Type} {b:Prop} [Decidable b] {t:b→α} {e:¬ b→α} {x:α} (h:¬ b) (k:e h=x):dite b t e=x:=(dif_neg h).trans k
theorem xS {v:Value} (h:Q false s):wpN M A (Bytes.exported v) Q E s:=fun Γ p hΓ hN=>by
 have key:∀ (f:Code×Pos→Bool),(∀ x,dJ x.1=false→f x=false)→((Γ.code,p)::Γ.below).any f=false:=fun f hf=>by
  rw [List.any_eq_false];intro x hx;rw [hf x (by rcases List.mem_cons.mp hx with rfl|hx;exact hN.1;exact hN.2 x hx)];exact Bool.false_ne_true
 skip;refine (?_:Q (((Γ.code,p)::Γ.below).any _) s);rw [key _ ?_]
 ·exact h
 ·rintro ⟨c,pp⟩ hc
  cases c
  case builtin id args =>
   rw [show dJ (.builtin id args)=(Bytes.decodersThatHold.contains id||["bytearray.__contains__","bytearray.__mod__","bytearray.__rmod__","_struct.pack_into.held","bytearray.find.held"].contains id) from rfl,Bool.or_eq_false_iff] at hc
   have ne:∀ i,i∈["bytearray.__contains__","bytearray.__mod__","bytearray.__rmod__","_struct.pack_into.held","bytearray.find.held"]→¬ id=i:=fun i hi e=>by
    rw [e,List.contains_iff_mem.mpr hi] at hc;exact absurd hc.2 (Bool.false_ne_true ∘ Eq.symm)
   delta Bytes.exported.match_1
   refine mm (ne _ (.head _)) (mm (ne _ (.tail _ (.head _))) (mm (ne _ (.tail _ (.tail _ (.head _)))) (mm (ne _ (.tail _ (.tail _ (.tail _ (.head _))))) (mm (ne _ (.tail _ (.tail _ (.tail _ (.tail _ (.head _)))))) ?_))));obtain ⟨pos,kw⟩:=args
   cases pos with
   |nil=>rfl
   |cons u r=>exact (Cg (_&&·) hc.1).trans (Bool.and_false _)
  all_goals rfl
end
theorem gC {id:String} {args:Args} {b:Builtin} (hd:dJ (.builtin id args)=false) (hb:entryFor table id=some b)
  (h:wpN (model prog w) (A.under (.builtin id args)) (b args) (fun fin s'=>match fin with|.done f=>R (.ok f) s'|.again c'=>c'.quiet=true∧ek (model prog w) A c' R s') (fun e s'=>R (.error e) s') s) :
  ek (model prog w) A (.builtin id args) R s:=by
 refine cL hd ?_;refine (?_:wpN _ _ (match entryFor table id with|some b=>b args|none=>unsupported ((withoutEnding? id "#data").getD id)) _ _ s);rw [hb];exact h
theorem kz {id:String} {args:Args} {b:Builtin} (hd:dJ (.builtin id args)=false) (hq:plainId id=true) (hb:entryFor table id=some b)
  (h:wpAny (model prog w) A.in1 (checkBuiltinCall id args) (fun _ sA=>wpN (model prog w) A.in1 (b args)
   (fun fin s'=>match fin with|.done f=>R (.ok f) s'|.again c'=>c'.quiet=true∧ek (model prog w) A c' R s') (fun e s'=>R (.error e) s') sA)
   (fun e s'=>R (.error e) s') s):ek (model prog w) A (.call (.builtin id) args) R s:=by
 refine cL rfl ?_;refine (?_:wpN _ A.in1 (do checkBuiltinCall id args;again (.builtin id args)) _ _ s);exact Pi (wpAny_mono h (fun _ sA h_1=>a9 (And.intro (plainId_quiet hq args) (gC hd hb (by rw [Around.under_plainId hq args];exact h_1)))) fun _ _ h'=>h')
theorem EQ:mroOf (.type "bytearray")=pure [.type "bytearray",.type "object"]:=by rw [mroOf_type];kernel_rfl
theorem Px:typeLookup (.type "bytearray") "__new__"=pure (some (.builtin "bytearray.__new__")):=by rw [typeLookup_type,builtinLookup_eq_fast];kernel_rfl
theorem eu:Slot "bytearray" "__init__" "bytearray.__init__":=.of (owner:="bytearray") (n:="__init__") (by rw [typeLookup_type,builtinLookup_eq_fast];kernel_rfl) (by decide +kernel) (by decide +kernel) (by decide +kernel)
 (.inl (by decide +kernel)) (by rw [isSubtype_type];kernel_rfl)
theorem jT:TypeCalled "bytearray" "bytearray.__new__" "bytearray.__init__":=
 ⟨by decide +kernel,by decide +kernel,⟨_,_,EQ⟩,madeBy_type EQ Px (by decide +kernel),by decide +kernel,by rw [isSubtype_type];kernel_rfl,eu⟩
theorem wE (a:Value):checkTypeCall "bytearray" ⟨[a],[]⟩=pure ():=by kernel_rfl
theorem yH (a:Value):checkBuiltinCall "bytearray.__new__" ⟨[.type "bytearray",a],[]⟩=pure ():=by kernel_rfl
theorem uC:entryFor table "bytearray.__new__"=some Builtin.«list.__new__»:=entryFor_alias (id':="list.__new__") (by rw [fastTable_eq_tree];kernel_rfl) (by decide +kernel) (by decide +kernel) (by rw [fastTable_eq_tree];kernel_rfl)
theorem mv:plainId "bytearray.__new__"=true:=by decide +kernel
theorem uB:("bytearray.__new__".splitOn ".__new__").headD ""="bytearray":=Cg (·.headD "") split_bytearray
theorem wF {v:Value} (h:Q₁ (.ref s.heap.objs.size) {s with heap:=s.heap.push (baO [] 0)}) :
  codeAny (model prog w) A (.call (.builtin "bytearray.__new__") ⟨[.type "bytearray",v],[]⟩) (wants Q₁ E) s:=by
 refine codeAny_of_tree ?_;refine (?_:wpAny _ A.in1 (do checkBuiltinCall "bytearray.__new__" ⟨[.type "bytearray",v],[]⟩;again (.builtin "bytearray.__new__" ⟨[.type "bytearray",v],[]⟩)) _ _ s);refine Wb (Wq (yH v) (Wp ⟨plainId_quiet mv _,codeAny_builtin_stack uC rfl fun p st=>?_⟩));rw [Around.under_plainId mv _];have hsub:=Pz;have hown:=uB;obtain ⟨hp,g,d,tk,os⟩:=s;simp only [hown]
 repeat k_extra"S"
 exact h
theorem x6 {i:String} {args:Args} (h:(Bytes.decodersThatHold.contains i||["bytearray.__contains__","bytearray.__mod__","bytearray.__rmod__","_struct.pack_into.held","bytearray.find.held"].contains i)=false):dJ (.builtin i args)=false:=h
theorem Py:entryFor table "bytearray.__init__"=some Builtin.«bytearray.__init__»:=entryFor_of_tree (by kernel_rfl)
theorem wG (a b:Value):argsOk "bytearray.__init__" ⟨[a,b],[]⟩:=by skip;kernel_rfl
theorem qa:typeLookup (.type "bytes") "__index__"=pure none:=by rw [typeLookup_type,builtinLookup_eq_fast];kernel_rfl
theorem EM {b:Array UInt8}:Bytes.buffer? "bytearray.__init__" (.bytes b t) true=pure (some b):=by
 skip
 kernel_rfl
theorem uD (v:Value):Bytes.bindOptional "bytearray.__init__" "bytearray" ["source","encoding","errors"] [v] []=pure [some v,none,none]:=by kernel_rfl
theorem uM {f:Array UInt8→Array UInt8} (ho:s.heap.get? a=some (baO l n)) (e:f l.toArray=l'.toArray) (hz:l'.length≤16777216) (h:∀ h',Heap.SameBut a s.heap h'→h'.get? a=some (baO l' n)→Q () {s with heap:=h'}):wpAny M A (Bytes.write (.ref a) f) Q E s:=by
 skip;refine Wb (wpAny_load ho ?_);skip;refine Wb (wpAny_update ho ?_)
 have e':Obj.mapBytearray f (baO l n)=baO l' n:=by
  refine (?_:(⟨.type "bytearray",.none,.bytearray (f l.toArray) n,#[]⟩:Obj)=_);rw [e]
 have D:=Heap.get?_update_self (h:=s.heap) (Obj.mapBytearray f) ho (by rw [e'];rfl);rw [e'] at D;refine wpAny_lookBehind D (by refine (?_:(if l'.toArray.size > sizeLine then some "bytearray:memory" else .none)=.none);exact if_neg (by rw [sizeLine_eq,List.size_toArray];lia)) (h _ (Heap.SameBut.update ..) D)
theorem yI (ho:s.heap.get? a=some (baO [] 0)) (hl:l.length≤16777216) (hq:∀ h',Heap.SameBut a s.heap h'→h'.get? a=some (baO l 0)→Q (.done (.ret .none)) {s with heap:=h'}) :
  wpN (model prog w) A («bytearray.__init__» ⟨[.ref a,.bytes l.toArray t],[]⟩) Q E s:=by
 skip;skip;refine Pi (jF ho ?_);refine aV (by decide) ?_;refine Pi (Wq (uD _) ?_);skip;refine Pi (Wq (a:=()) rfl ?_);refine Pi (Wq (a:=()) rfl ?_);refine bh ?_;refine (?_:wpN _ _ (Bytes.exported (.ref a)>>=_) _ _ _);refine bh (xS ?_);refine Pi ?_;skip;refine Wb (wpAny_load ho (Wp (a9 ?_)));refine aV (by decide) ?_;refine Pi (uM (l':=[]) ho rfl (by simp) fun h_1 sb1 hoA=>?_);refine Pi (Wq (a:=.none) rfl ?_);refine aV (by simp) ?_;refine bh (aV (by simp) (aV (by simp) (a9 ?_)));refine Pi (wpAny_specialOf (typeIs_bytes _ _ _) qa ?_);refine aV (by simp) ?_;refine Pi (Wq EM ?_);skip;refine Pi (wpAny_rule ?_);refine Pi (uM (l':=l) hoA rfl hl fun h_2 sb2 hoB=>?_);exact a9 (hq h_2 (sb1.trans sb2) hoB)
theorem Hw (hl:l.length≤16777216)
  (hq:∀ h',(∀ b o,s.heap.get? b=some o→h'.get? b=some o)→h'.get? s.heap.objs.size=some (baO l 0)→Q (.ref s.heap.objs.size) {s with heap:=h'}):wpN (model prog w) A (call (.type "bytearray") [.bytes l.toArray t]) Q E s:=by
 refine ur jT.mro fun c tl hmro=>?_;have hmade:=jT.made;have hsub:=jT.sub;have hct:=wE (.bytes l.toArray t);refine eY (cL rfl ?_);refine (?_:wpN _ _ (callAny (.type "bytearray") _) _ _ _);refine a9 ⟨Code.quiet_builtin _ (by decide +kernel),gC (x6 (by decide +kernel)) F.entry_type_call ?_⟩;rw [Around.under_plain (weight_type_call_type "bytearray" [.bytes l.toArray t] []) rfl];unfold Builtin.«type.__call__»;dsimp only;refine aV (by decide +kernel) ?_;refine aV (by have:=jT.canCreate;rw [this];decide) ?_;refine Pi (Wq hct ?_);refine Pi (Wq hmro ?_);refine aV (by simp) ?_;refine Pi (Wq hmade ?_);skip;refine Pi (Wp ?_);refine bh (cD (eY (qI (codeAny_mono (wF (E:=E) (Q₁:=fun u s'=>u=.ref s.heap.objs.size∧s'={s with heap:=s.heap.push (baO [] 0)}) ⟨rfl,rfl⟩) fun r sA hr=>?_))))
 cases r with
 |error e=>exact hr
 |ok fl =>
  cases fl with
  |ret obj =>
   obtain ⟨rfl,rfl⟩:=hr;have hT:({s with heap:=s.heap.push (baO [] 0)}:Shared).TypeIs (.ref s.heap.objs.size) "bytearray":=⟨_,Hs _ rfl,rfl⟩;refine Pi (wpAny_isInstance hT hsub ?_);refine aV (by decide) ?_;refine bh (cD ?_);skip;refine Pi (wpAny_specialOf hT eu.lookup ?_);skip;refine cD ?_;refine Pi (Wq (eu.bind _) ?_);skip;refine bh (eY (kz (x6 (by decide +kernel)) eu.plain Py (eu.check _ _ _ _ _ _ _ _ hT (wG _ _) ?_)));refine yI (s:={s with heap:=s.heap.push (baO [] 0)}) (Hs _ rfl) hl fun h' sb ho=>?_;refine a9 ?_;skip;refine aV (by decide) ?_;exact a9 (hq h' (fun b o e=>sb.extBut b o (Nat.ne_of_lt (Heap.lt_size e)) (Hp _ e)) ho)
  |_=>exact hr.elim
end
section
def EvN (c:Cc) (e:PySem.Expr) (loc:Loc) (O:Own) (K:D→Own→Prop) (E:Value→Shared→Prop):Prop :=
 ∀ H s Q,ag c H loc O s→(∀ H' s' v d O',K d O'→ag c H' loc O' s'→H≤H'→ac H' v d→Q v s')→wpN c.M c.A (eval e c.env) Q E s
def OpN (c:Cc) (t:List Value→Sem Value) (ds:List D) (loc:Loc) (O:Own) (K:D→Own→Prop) (E:Value→Shared→Prop):Prop :=
 ∀ H s Q vs,ag c H loc O s→af H vs ds→(∀ H' s' v d O',K d O'→ag c H' loc O' s'→H≤H'→ac H' v d→Q v s')→wpN c.M c.A (t vs) Q E s
def ExN (c:Cc) (st:PySem.Stmt) (loc:Loc) (O:Own) (K:Fl→Loc→Own→Prop) (E:Value→Shared→Prop):Prop :=
 ∀ H s Q,ag c H loc O s→(∀ H' s' f g loc' O',K g loc' O'→ag c H' loc' O' s'→H≤H'→jB H' f g→Q f s')→wpN c.M c.A (exec st c.env) Q E s
def ph (c:Cc) (ss:List PySem.Stmt) (loc:Loc) (O:Own) (K:Fl→Loc→Own→Prop) (E:Value→Shared→Prop):Prop :=
 ∀ H s Q,ag c H loc O s→(∀ H' s' f g loc' O',K g loc' O'→ag c H' loc' O' s'→H≤H'→jB H' f g→Q f s')→wpN c.M c.A (execs ss c.env) Q E s
def yN (x:Cx) (A:Around) (t:List Value→Sem Value) (ds:List D) (O:Own) (K:D→Own→Prop) (E:Value→Shared→Prop):Prop :=
 ∀ H s Q vs,az x H O s→af H vs ds→(∀ H' s' v d O',K d O'→az x H' O' s'→H≤H'→ac H' v d→Q v s')→wpN (model x.prog x.w) A (t vs) Q E s
def aY (x:Cx) (A:Around) (f:Value) (ds:List D) (O:Own) (K:D→Own→Prop) (E:Value→Shared→Prop):Prop :=
 ∀ H s (R:Result→Shared→Prop) vs,az x H O s→af H vs ds→(∀ H' s' v d O',K d O'→az x H' O' s'→H≤H'→ac H' v d→R (.ok (.ret v)) s')→(∀ e s',E e s'→R (.error e) s')→ek (model x.prog x.w) A (.call f ⟨vs,[]⟩) R s
theorem aY.call {f:Value} {K:D→Own→Prop} (h:aY x A f ds O K E):yN x A (fun vs=>call f vs) ds O K E:=fun H s Q vs R rs q =>
 eY (h H s _ vs R rs (fun H' s' v d O' k R' le rd=>q H' s' v d O' k R' le rd) fun _ _ z=>z)
theorem aY.drop {x A f ds O E} {K:D→Own→Prop} (h:aY x A f ds O (Fin K) E):aY x A f ds O K E:=fun H s Q vs R rs q qe=>h H s Q vs R rs (fun H' s' v d O' k R' le rd=>by
 obtain ⟨O3,sb,k⟩:=k;exact q H' s' v d O3 k (R'.sub sb) le rd) qe
section
variable {M:Model}
theorem uO {α:Type} {m:Sem α} {Q:α→Shared→Prop} (h:wpN M A m Q E s):wpN M A (m.keep vs) Q E s:=fun Γ p hΓ hN=>by rw [Sem.wp_keep];exact h Γ p hΓ hN
theorem cwm {k:Keeper} {h1 h2 h3 h4:Unit→Sem Value} {h5:Keeper→Bool→Sem Value} (hb:b=false) (hk:k=.frame∨k=.machine∨k=.boundFrame) (q2:wpN M A (h2 ()) Q E s) (q4:wpN M A (h4 ()) Q E s) (q3:wpN M A (h3 ()) Q E s):wpN M A (PySem.callWith.match_1 (fun _ _=>Sem Value) k b h1 h2 h3 h4 h5) Q E s:=by
 subst hb
 rcases hk with rfl|rfl|rfl
 ·exact q2
 ·exact q4
 ·exact q3
theorem Dy {β:Type} {c:Prop} [Decidable c] {x y:Sem β} {Q:β→Shared→Prop} (h1:wpN M A x Q E s) (h2:wpN M A y Q E s):wpN M A (if c then x else y) Q E s:=by
 by_cases h:c
 ·rw [if_pos h];exact h1
 ·rw [if_neg h];exact h2
theorem Bm {P:Heap→Prop} {args:List (Bool×Sem Value)} (hplain:args.any (·.1)=false)
  (hk:∀ h,P h→∃ k,(k=Keeper.frame∨k=Keeper.machine∨k=Keeper.boundFrame)∧Looks M h (keeperOf f) k)
  (h:wpAny M A (evalArgs f true args []) (fun a sA=>P sA.heap∧wpN M A (call f (first++a.pos) a.kw) Q E sA) E s):wpN M A (callWith pos f first args []) Q E s:=by
 skip;refine bh (cD (jc (Wm h (fun a sA h_1=>?_) fun _ _ x=>x)));refine Pi (Ws ?_);refine al (hk _ h_1.1) fun k hk' L=>?_;have hp2:(args.any (·.1)||([]:List (Option Str×Sem Value)).any (·.1.isNone))=false:=by rw [hplain];rfl
 refine Pi (L.here ?_)
 have tail:∀ {t:Sem Value},wpN M A t Q E sA→wpN M A (t>>=fun r=>holding [r] point>>=fun _=>pure r) Q E sA :=
  fun ht=>bh (jd ht (fun r s2 hr=>Pi (Wh (wpAny_point (a9 hr)))) fun _ _ x=>x)
 refine cwm hp2 hk' ?_ (tail h_1.2) ?_
 ·exact Dy (tail h_1.2) (tail (uO h_1.2))
 ·exact Dy (tail h_1.2) (tail (uO h_1.2))
end
section
variable {K:D→Own→Prop}
abbrev Mj (c:Cc) (ss:List PySem.Stmt) (KF:Fl→Loc→Own→Prop) (E:Value→Shared→Prop):Fl→Loc→Own→Prop:=fun f loc1 O₁=>match f with|.next=>ph c ss loc1 O₁ KF E|g=>KF g loc1 O₁
abbrev Mp (c:Cc) (b o:List PySem.Stmt) (loc:Loc) (KF:Fl→Loc→Own→Prop) (E:Value→Shared→Prop):Bool→Own→Prop:=fun z O₁=>if z=true then ph c b loc O₁ KF E else ph c o loc O₁ KF E
abbrev zP (c:Cc) (f:Value) (dsA:List D) (loc:Loc) (K:D→Own→Prop) (E:Value→Shared→Prop):List D→Own→Prop:=fun ds O₁=>OpN c (fun vs=>call f vs) (dsA++ds) loc O₁ K E
abbrev GB (c:Cc) (f:Value) (loc:Loc) (K:D→Own→Prop) (E:Value→Shared→Prop):List D→Own→Prop:=fun ds O₁=>OpN c (fun vs=>call f vs) ds loc O₁ K E
abbrev GA (c:Cc) (p:Pos) (args:List PySem.Expr) (loc:Loc) (O₁:Own) (K:D→Own→Prop) (E:Value→Shared→Prop):Value→Prop:=fun v=>Evs c p args loc O₁ (GB c v loc K E) E
abbrev Gz (c:Cc) (p:Pos) (args:List PySem.Expr) (loc:Loc) (K:D→Own→Prop) (E:Value→Shared→Prop):D→Own→Prop:=fun f O₁=>yM c.x f (GA c p args loc O₁ K E)
abbrev Gy (c:Cc) (p:Pos) (args:List PySem.Expr) (loc:Loc) (K:D→Own→Prop) (E:Value→Shared→Prop):Value→List D→Own→Prop:=fun f dsA O2=>nq c.x f∧Evs c p args loc O2 (zP c f dsA loc K E) E
abbrev Kt (c:Cc) (name:Str) (p:Pos) (args:List PySem.Expr) (loc:Loc) (K:D→Own→Prop) (E:Value→Shared→Prop):D→Own→Prop:=fun d O₁=>Mine.GM c name d loc O₁ (Gy c p args loc K E) E
theorem dy {st} (h:Ex c st loc O KF E):ExN c st loc O KF E:=fun H s Q R q=>jc (h H s Q R q)
theorem fF (h:Exs c ss loc O KF E):ph c ss loc O KF E:=fun H s Q R q=>jc (h H s Q R q)
theorem aE {st ss} (h:ExN c st loc O (Mj c ss KF E) E):ph c (st::ss) loc O KF E:=fun H s Q R q=>by
 rw [execs_cons];refine bh (h H s _ R fun H₁ sA f g lA O₁ h_1 R1 le1 fi=>?_)
 cases fi with
 |next=>exact h_1 H₁ sA Q R1 fun H' s' f g l O' k R' le' fi=>q H' s' f g l O' k R' (Pt le1 le') fi
 |brk=>exact a9 (q _ _ _ _ _ _ h_1 R1 le1 .brk)
 |cont=>exact a9 (q _ _ _ _ _ _ h_1 R1 le1 .cont)
 |ret r=>exact a9 (q _ _ _ _ _ _ h_1 R1 le1 (.ret r))
theorem gI (h:KF .next loc O):ph c [] loc O KF E:=fF (bl h)
theorem m6 {t b o p} (h:Tst c t loc O (Mp c b o loc KF E) E):ExN c (.If t b o p) loc O KF E:=fun H s Q R q=>by
 rw [exec_If];refine Pi (Ws (Pi (h H s _ R fun H₁ sA z O₁ h_1 R1 le1=>?_)));dsimp only [Mp] at h_1 ⊢
 by_cases e:z=true
 ·rw [if_pos e] at h_1 ⊢;exact h_1 H₁ sA Q R1 fun H' s' f g l O' k R' le' fi=>q H' s' f g l O' k R' (Pt le1 le') fi
 ·rw [if_neg e] at h_1 ⊢;exact h_1 H₁ sA Q R1 fun H' s' f g l O' k R' le' fi=>q H' s' f g l O' k R' (Pt le1 le') fi
theorem z5 {e p} (h:EvN c e loc O (Mm loc KF) E):ExN c (.Return (some e) p) loc O KF E:=fun H s Q R q=>by
 rw [exec_Return_some];exact Pi (Ws (bh (h H s _ R fun H₁ sA v d O₁ h_1 R1 le1 rd=>a9 (q _ _ _ _ _ _ h_1 R1 le1 (.ret rd)))))
theorem D5 {e p} (hs:gV e=true) (h:EvN c e loc O (Dq loc KF) E) (hi:interactive c.env=false:=by rfl):ExN c (.Expr e p) loc O KF E:=fun H s Q R q=>by
 rw [exec_Expr _ _ _ hi (gF hs)];exact Pi (Ws (bh (h H s _ R fun H₁ sA v d O₁ h_1 R1 le1 _=>jc (wpAny_dropValue (q _ _ _ _ _ _ h_1 R1 le1 .next)))))
theorem xW {p' e p} (hs:gV e=true) (h:EvN c e loc O (GC c y loc KF E) E):ExN c (.Assign [.Name y p'] e p) loc O KF E:=fun H s Q R q=>by
 rw [exec_Assign_Name _ _ _ _ _ (gF hs)];refine Pi (Ws (bh (h H s _ R fun H₁ sA v d O₁ h_1 R1 le1 rd=>?_)));refine Pi (Ws (Pi (wpAny_bindName (h_1 H₁ sA _ v R1 rd fun H' s' l O' k R' le'=>?_))));exact a9 (q _ _ _ _ _ _ k R' (Pt le1 le') .next)
theorem nN {o:PySem.Expr} {p' p:Pos} (hs:gV e=true) (h:EvN c e loc O (Ks c o name loc KF E) E) :
  ExN c (.Assign [.Attribute o name p'] e p) loc O KF E:=fun H s Q R q=>by
 rw [plainObj_exec_Assign_Attribute _ _ _ _ _ (gF hs)];refine Pi (Ws (bh (h H s _ R fun H₁ sA v d O₁ h_1 R1 le1 rA=>?_)));rw [assign_Attribute];refine Pi (Wb (Wh (h_1 H₁ sA _ R1 fun HB s2 ov t O2 h_2 R2 le2 rB=>?_)));refine Wb (Ws (Wb (Wh ?_)));refine Wm (h_2 HB s2 (fun _ s'=>wpN c.M c.A (pure Flow.next) Q E s') [ov,v] R2 (.two rB (rA.mono le2)) fun H' s' O' k R' le'=>a9 (q _ _ _ _ _ _ k R' (Pt le1 (Pt le2 le')) .next)) (fun _ s' z=>wpAny_release z) fun _ _ z=>z
theorem mr {p:Pos} {H s Q} (R:ag c H loc O s) (rA:af H first dsA) (kp:nq c.x f)
  (h:Evs c p args loc O (zP c f dsA loc K E) E) (hp:args.all gw=true)
  (q:∀ H' s' v d O',K d O'→ag c H' loc O' s'→H≤H'→ac H' v d→Q v s'):wpN c.M c.A (callWith p f first (backTo p (starEach args c.env)) []) Q E s:=by
 refine Bm (P:=fun h=>∃ k,(k=Keeper.frame∨k=Keeper.machine∨k=Keeper.boundFrame)∧Looks c.M h (keeperOf f) k) (fW hp) (fun _ z=>z) (gp (fW hp) ?_);refine h H s _ R fun H₁ sA vs ds O₁ k₁ R1 le1 rs=>⟨kp _ _ _ R1.t,?_⟩;exact k₁ H₁ sA Q (first++vs) R1 ((rA.mono le1).append rs) fun H' s' v d O' k R' le rd=>q H' s' v d O' k R' (Pt le1 le) rd
theorem jv {p0 args p} (hp:args.all gw=true) (h:Ev c (.Name y p0) loc O (Gz c p args loc K E) E):EvN c (.Call (.Name y p0) args [] p) loc O K E:=fun H s Q R q=>by
 refine (?_:wpN _ _ (do callWith p (← eval (.Name y p0) c.env) [] (backTo p (starEach args c.env)) (backToKw p (keywordEach [] c.env))) Q E s);refine Pi (h H s _ R fun H₁ sA f d O₁ h_1 R1 le1 rA=>?_);obtain ⟨v,rfl,kp,h_1⟩:=h_1
 cases rA using ac.cStat
 exact mr R1 .nil kp h_1 hp fun H' s' v d O' k R' le rd=>q H' s' v d O' k R' (Pt le1 le) rd
theorem qC {o:PySem.Expr} {apos p:Pos} {pl:Sem Bool} (he:eval (.Call (.Attribute o name apos) args [] p) c.env=(do
   let ov ← eval o c.env
   standAt apos.atName
   let (f,first) ← holding [ov] (getMethod ov name pl)
   callWith p f first (backTo p (starEach args c.env)) (backToKw p (keywordEach [] c.env)))) (hp:args.all gw=true)
  (h:Ev c o loc O (Kt c name p args loc K E) E):EvN c (.Call (.Attribute o name apos) args [] p) loc O K E:=fun H s Q R q=>by
 rw [he];refine Pi (h H s _ R fun H₁ sA v d O₁ h_1 R1 le1 rA=>?_);refine Pi (Ws (Pi (Wh ?_)));refine h_1 pl H₁ sA _ v R1 rA fun HB s2 f first dsA O2 h_2 R2 le2 rB=>?_
 exact mr R2 rB h_2.1 h_2.2 hp fun H' s' v d O' k R' le rd=>q H' s' v d O' k R' (Pt le1 (Pt le2 le)) rd
theorem gj {t ds} (h:∀ x',c.x.le x'→yN x' c.A t ds O K E):OpN c t ds loc O K E:=fun H s Q vs R rs q =>
 h (outer c s.heap) (cq c s.heap) H s Q vs (cJ R) rs fun H' s' v d O' k T le rd=>q H' s' v d O' k (Pm R T le) le rd
theorem CJ (hl:l.length≤16777216) (h:K (.barr l) O):OpN c (fun vs=>call (.type "bytearray") vs) [.bytes l] loc O K E:=fun H s Q vs R rs q=>by
 refine cG rs fun v r1=>?_
 cases r1 using ac.cBytes
 refine Hw hl fun h' k ho=>?_;have f:=R.t.fresh;have z:=R.size;have R':=R.keeps (s':={s with heap:=h'}) k;exact q _ _ _ _ _ h (R'.addH ho f.1 f.2.2 f.2.1 (Nat.ne_of_gt z.1) fun y b e=>Nat.ne_of_lt (z.2 y b e)) (Pp f.1) (.barr Ph)
end
theorem mFn {d:Data} {h1:FuncData→Sem PySem.Fin} {h2:Array Value→Sem PySem.Fin} {h3:Data→Sem PySem.Fin} (e:d=.func fd) (q:wpN M A (h1 fd) Q E s):wpN M A (PySem.callAny.match_6 (fun _=>Sem PySem.Fin) d h1 h2 h3) Q E s:=by subst e;exact q
theorem LY {v:Value} {c:Addr} {h1:Unit→Sem PySem.Fin} (e:v=.ref c) (q:wpAny M A (h2 (.ref c)) Q E s):wpAny M A (PySem.callFunction.match_4 (fun _=>Sem PySem.Fin) v h1 h2) Q E s:=by subst e;exact q
theorem NJ {g c:Bool} {h1 h2 h3 h4:Unit→Sem PySem.Fin} (e:g=false) (e':c=false) (q:wpAny M A (h1 ()) Q E s):wpAny M A (PySem.callFunction.match_9 (fun _ _=>Sem PySem.Fin) g c h1 h2 h3 h4) Q E s:=by subst e;subst e';exact q
theorem jW {args:Args} (hroom:A.depth<recursionLimit) (ho:s.heap.get? a=some o)
  (hd':o.data=.func fd) (hco:fd.scope.isCoroutine=false) (hgen:fd.scope.isGenerator=false) (hbody:fd.body=.stmts body) (hcd:s.heap.CodeRec fd.code fd.qualname)
  (h:wpAny (model prog w) A.in1 (bindArgs fd args) (fun binds sA =>
   wpAny (model prog w) A.in1 (newFunctionEnv fd.scope fd.globals fd.closure binds (fd.qualname++".<locals>.") (some a) fd.code none fd.builtins)
    (fun env s2=>s2.heap.NoLimit∧ek (model prog w) A (.func body env) R s2) (fun e s'=>R (.error e) s') sA) (fun e s'=>R (.error e) s') s) :
  ek (model prog w) A (.call (.ref a) args) R s:=by
 refine cL rfl ?_;refine (?_:wpN _ A.in1 (callAny (.ref a) args) _ _ s);refine Pi (wpAny_load ho (mFn hd' ?_));obtain ⟨c,oc,vs,tq,hc,hoc,hdc,hq⟩:=hcd;refine jc (LY hc (Wb (wpAny_field hoc hdc hq (Wb (Wp ?_)))));refine Wb (Wm h (fun binds sA h_1=>?_) fun _ _ z=>z);refine Wb (Wm h_1 (fun env s2 h_2=>?_) fun _ _ z=>z);exact wpAny_bind (wpAny_enterFrame h_2.1 hroom (NJ hgen hco (wpAny_pure ⟨by rw [hbody];rfl,by rw [hbody];exact h_2.2⟩)))
theorem yl {body env}
  (h:wpN (model prog w) (A.deeper env) (execs body env) (fun f s'=>R (.ok (.ret (match f with|.ret v=>v|_=>.none))) s')
   (fun e s'=>wpAny (model prog w) (A.deeper env) (leaving env e) (fun _ s''=>R (.error e) s'') (fun e' s''=>R (.error e') s'') s') s) :
  ek (model prog w) A (.func body env) R s:=by
 refine cL rfl ?_;refine (?_:wpN _ (A.deeper env) (do point;match ← (execs body env).onRaise (leaving env) with|.ret v=>ret v|_=>ret .none) _ _ s);refine Pi (wpAny_point (bh (uN (jd h (fun f s' h'=>?_) fun _ _ h'=>jc h'))))
 cases f<;>exact a9 h'
theorem Bl {f:Addr} {body:List PySem.Stmt} {names:List Str} {ds':List D} {K:D→Own→Prop}
  (fa:E1 x f fd) (ok:Ln fd body names) (room:A.depth<recursionLimit)
  (hb:∀ H s vs,az x H O s→af H vs ds→∃ H' vs',H≤H'∧az x H' O s∧BindsTo s fd ⟨vs,[]⟩ (names.zip vs')∧af H' vs' ds')
  (h:∀ L,ph ⟨x,A.deeper (callEnvC fd L f),callEnvC fd L f,true⟩ body (names.zip ds').reverse O (fun fl _ O'=>pf K fl O') (dT x A (callEnvC fd L f) E)) :
  aY x A (.ref f) ds O K E:=fun H s Q vs R rs q qe=>by
 refine gB (fa.at' _ _ _ R) fun q1 hlim hcd=>?_;refine al q1 fun o ho hd=>?_;refine jR (hb H s vs R rs) fun H' vs' le R' hbind rs'=>?_;refine jW room ho hd ok.co ok.gen ok.body hcd (hbind _ _ _ _ ?_);rw [ok.closure];refine wpAny_newFunctionEnv_cells ok.kind (wz ok.names) fun env he s' X=>?_;subst he;refine ⟨hlim.keeps X.toInCall.keep,yl ?_⟩;have RF:=qE (A:=A.deeper (callEnvC fd s.heap.objs.size f)) ok.names ok.nd R' rs' X;refine jd (h s.heap.objs.size H' s' (fun fl s'=>Q (.ok (.ret (match fl with|.ret v=>v|_=>.none))) s') RF fun H₁ sA fl g l O₁ k R1 le1 fi=>?_) (fun fl s' hq=>hq) fun e s' hl=>Wm (hl:dT _ _ _ _ _ _) (fun _ _ z=>qe _ _ z) fun _ _ z=>qe _ _ z;obtain ⟨d,z⟩:=pP (P:=fun v d=>Q (.ok (.ret v)) sA) fi k fun v d k r=>q _ _ _ _ _ k R1.t (Pt le le1) r;exact z
theorem fR {f:Addr} {names:List Str} {dx:List D} (b:ah x)
  (hf:∀ P,A4 P f=some (.func fd)) (hc:∀ P,codeIn (K P) fd.code fd.qualname=true) (ok:qv fd names=true) (r:Rm A n) (extra:List Value)
  (hb:∀ P St (vs:List Value),vs.length=ds.length→peek (K P) St (bindArgs fd ⟨vs,[]⟩)=some (names.zip (vs++extra))) (hx:∀ H,af H extra dx) (loc:Loc) (hl:(names.zip (ds++dx)).reverse=loc)
  (h:∀ L,ph ⟨x,A.deeper (callEnvC fd L f),callEnvC fd L f,true⟩ (aB fd) loc O (fun fl _ O'=>pf (Fin K') fl O') (dT x A (callEnvC fd L f) E)) :
  aY x A (.ref f) ds O K' E :=
 aY.drop<|Bl (b.fn hf hc) (zY ok) (by have:=r.dp;lia) (fun H s vs R rs=>⟨H,vs++extra,Pr _,R,kp_binds (b.X R) fun St=>hb _ St vs rs.length,rs.append (hx H)⟩) (by subst hl;exact h)
end
section
noncomputable def xw (K:Frag) (C fI:Addr):Bool:=makesIn K C&&findIn K (.ref C) "__init__"==some (some (.ref fI))&&typeIn K (.ref fI)==some (.type "function")
class jy (C:Addr) (f:outParam Addr):Prop where
 h:∀ P,xw (K P) C f=true
structure MkA (A A':Around):Prop where
 hh:A'.handled=A.handled
 dp:A'.depth=A.depth+1
 fr:A'.frames=A.frames
theorem C6:MkA A (A.under (.builtin "type.__call__" ⟨.ref C::vs,[]⟩)):=by
 refine ⟨rfl,?_,rfl⟩;refine (?_:A.depth+(Code.builtin "type.__call__" ⟨.ref C::vs,[]⟩).weight=_)
 rfl
theorem MkA.rm {m:Nat} (k:MkA A A') (r:Rm A n) (h:m+1≤n):Rm A' m:=⟨k.hh.trans r.hh,by have:=r.dp;rw [k.dp];lia⟩
theorem az.two (R:az x H O s):az x H ((s.heap.objs.size+1,.inst C s.heap.objs.size)::(s.heap.objs.size,.attrs [])::O) {s with heap:=(s.heap.push emptyDict).push (instObj C s.heap.objs.size)}:=by
 have k:∀ b o,s.heap.get? b=some o→((s.heap.push emptyDict).push (instObj C s.heap.objs.size)).get? b=some o:=fun b o e=>Hp _ (Hp _ e);have sz:(s.heap.push emptyDict).objs.size=s.heap.objs.size+1:=Heap.size_push _ _;have f:=R.fresh;have R1:=R.keeps (s':={s with heap:=(s.heap.push emptyDict).push (instObj C s.heap.objs.size)}) k;have e1:((s.heap.push emptyDict).push (instObj C s.heap.objs.size)).get? s.heap.objs.size=some emptyDict:=Hp _ (Hs _ rfl);have e2:((s.heap.push emptyDict).push (instObj C s.heap.objs.size)).get? (s.heap.objs.size+1)=some (instObj C s.heap.objs.size):=by rw [← sz];exact Heap.get?_push_size _ rfl
 have big:∀ a,s.heap.objs.size≤a→H a=.none∧x.P a=.none∧∀ p∈O,p.1≠a:=fun a ha=>by
  refine ⟨?_,?_,fun p hp e=>?_⟩
  ·cases q:H a with
   |none=>rfl
   |some o=>exact absurd (Heap.lt_size (R.hH _ _ q)) (Nat.not_lt.mpr ha)
  ·cases q:x.P a with
   |none=>rfl
   |some o=>obtain ⟨o,b⟩:=o;refine al (R.hP _ _ _ q) fun o' e _=>?_;exact absurd (Heap.lt_size e) (Nat.not_lt.mpr ha)
  ·obtain ⟨o,e'⟩:=(R.hO p hp).there;rw [e] at e';exact absurd (Heap.lt_size e') (Nat.not_lt.mpr ha)
 have b0:=big _ (Nr _);have b1:=big _ (Nat.le_succ s.heap.objs.size);have R2:=R1.addO (a:=s.heap.objs.size) (so:=.attrs []) ⟨[],0,e1,.nil⟩ b0.1 b0.2.2 b0.2.1;refine R2.addO (a:=s.heap.objs.size+1) (so:=.inst C s.heap.objs.size) e2 b1.1 (fun p hp=>?_) b1.2.1
 rcases List.mem_cons.mp hp with rfl|hp
 ·exact Nat.ne_of_lt (Nat.lt_succ_self _)
 ·exact b1.2.2 p hp
theorem fV {C fI:Addr} (b:ah x) [ok:jy C fI]
  (h:∀ A' xA dx,MkA A A'→au x A' (.ref fI) (.stat (.ref xA)::ds) ((xA,.inst C dx)::(dx,.attrs [])::O) (fun d O'=>d=.none∧K' (.stat (.ref xA)) O') E):au x A (.ref C) ds O K' E:=fun H s R vs T rs q qe=>by
 have o:=ok.h x.w.params;unfold xw at o;simp only [Bool.and_eq_true,beq_iff_eq] at o;obtain ⟨⟨o1,o2⟩,o3⟩:=o;have X:=b.X T;have T':=T.two (C:=C);obtain ⟨hh,g,d,t,os⟩:=s;refine make_core (makes_of X o1) (looks_findIn X o2) (fun self=>bind_fn X self o3) (.inl rfl) ?_;refine h _ (hh.objs.size+1) hh.objs.size C6 H _ _ (.ref (hh.objs.size+1)::vs) T' (.cons (.stat _) rs) (fun H' s' v d' O' k R' le rd=>?_) fun e s' z=>qe _ _ z;obtain ⟨rfl,k⟩:=k
 cases rd using ac.cNone
 exact ⟨rfl,q _ _ _ _ _ k R' le (.stat _)⟩
section
open PySem.Builtin
theorem ja {id:String} {args:Args} {b:Builtin} (hd:dJ (.builtin id args)=false) (hq:(Code.builtin id args).quiet=true) (hb:entryFor table id=some b)
  (h:wpAny (model prog w) A.in1 (checkBuiltinCall id args) (fun _ sA=>wpN (model prog w) (A.under (.builtin id args)) (b args)
   (fun fin s'=>match fin with|.done f=>R (.ok f) s'|.again c'=>c'.quiet=true∧ek (model prog w) A c' R s') (fun e s'=>R (.error e) s') sA)
   (fun e s'=>R (.error e) s') s):ek (model prog w) A (.call (.builtin id) args) R s:=by
 refine cL rfl ?_;refine (?_:wpN _ A.in1 (do checkBuiltinCall id args;again (.builtin id args)) _ _ s);exact Pi (Wm h (fun _ sA h_1=>a9 (And.intro hq (gC hd hb h_1))) fun _ _ h'=>h')
theorem xv {C:Addr} {rest:List Value} {fI:Addr} {g:Array GenState} {d:Drawn} {t:Nat} {os:OsState} {K:Frag} (X:K.In h) (o1:makesIn K C=true) (o2:findIn K (.ref C) "__init__"=some (some (.ref fI))) (o3:typeIn K (.ref fI)=some (.type "function"))
  (hq:ek (model prog w) (A.under (.builtin "type.__call__" ⟨.ref C::rest,[]⟩)) (.call (.ref fI) ⟨.ref (h.objs.size+1)::rest,[]⟩) (InitBack (h.objs.size+1) R) ⟨(h.push emptyDict).push (instObj C h.objs.size),g,d,t,os⟩) :
  ek (model prog w) A (.call (.ref C) ⟨rest,[]⟩) R ⟨h,g,d,t,os⟩:=by
 have Y:=makes_of (M:=model prog w) X o1;have Y':=Y;obtain ⟨⟨oc,od,cd,sl,hC,e1,e2,e4⟩,made,base,self,top,call,typ⟩:=Y;refine cL rfl ?_;refine (?_:wpN _ _ (callAny (.ref C) _) _ _ _);refine jc ?_;refine nd_load hC ?_;refine (?_:wpAny _ _ (callAny.viaDunder (.ref C) _) _ _ _);skip;refine Wb (call.at ?_);dsimp only;rw [tc_bind];refine Wb (Wp (Wb (Wp ?_)));refine Wp (a:=Fin.again (.call (.builtin "type.__call__") ⟨.ref C::rest,[]⟩)) (And.intro rfl ?_);refine ja (x6 (by decide +kernel)) (Code.quiet_builtin _ (by decide +kernel)) entry_typeCall ?_
 with_reducible refine check_slot tc_kind tc_split typ (tc_args _ _ _) ?_
 unfold Builtin.«type.__call__»;dsimp only;refine aV (by simp) ?_;have hm:Looks (model prog w) h (mroOf (.ref C)) cd.mro:=((Looks.ld (part:=none) hC).andThen .now).andThen .now;refine Pi (hm.at ?_);refine aV (by rw [e4];decide) ?_;refine Pi (made.at ?_);skip;refine Pi (Wp ?_);refine bh (cD (eY (qI ?_)));refine new_K Y' (looks_findIn X o2) (.inl rfl) ?_;have k:∀ b o,h.get? b=some o→((h.push emptyDict).push (instObj C h.objs.size)).get? b=some o:=fun b o e=>Hp _ (Hp _ e);have hx:((h.push emptyDict).push (instObj C h.objs.size)).get? (h.objs.size+1)=some (instObj C h.objs.size):=by heap_get
 have t1:Looks (model prog w) ((h.push emptyDict).push (instObj C h.objs.size)) (typeOf (.ref (h.objs.size+1))) (.ref C):=(Looks.ld hx).andThen .now;have s1:=self.keeps k;have i1:=(looks_findIn (M:=model prog w) X o2).keeps k;have b1:=(bind_fn (M:=model prog w) X (.ref (h.objs.size+1)) o3).keeps k;skip;refine Pi (Wb (t1.at (s1.at ?_)));refine aV (by decide) ?_;refine bh (cD ?_);skip;refine Pi (Wb (t1.at (i1.at ?_)));skip;refine cD ?_;refine Pi (b1.at ?_);skip;refine bh (eY (yk hq fun r s' z=>?_))
 rcases r with e|(v|_|_|_)<;>first|exact z|exact z.elim|skip
 obtain ⟨rfl,z⟩:=z;refine a9 ?_;skip;refine aV (by decide) ?_;exact a9 z
end
theorem wr {C fI:Addr} (b:ah x) [ok:jy C fI]
  (h:∀ A' xA dx,MkA A A'→aY x A' (.ref fI) (.stat (.ref xA)::ds) ((xA,.inst C dx)::(dx,.attrs [])::O) (fun d O'=>d=.none∧K' (.stat (.ref xA)) O') E):aY x A (.ref C) ds O K' E:=fun H s R vs T rs q qe=>by
 have o:=ok.h x.w.params;unfold xw at o;simp only [Bool.and_eq_true,beq_iff_eq] at o;obtain ⟨⟨o1,o2⟩,o3⟩:=o;have X:=b.X T;have T':=T.two (C:=C);obtain ⟨hh,g,d,t,os⟩:=s;refine xv X o1 o2 o3 ?_;refine h _ (hh.objs.size+1) hh.objs.size C6 H _ _ (.ref (hh.objs.size+1)::vs) T' (.cons (.stat _) rs) (fun H' s' v d' O' k R' le rd=>?_) fun e s' z=>qe _ _ z;obtain ⟨rfl,k⟩:=k
 cases rd using ac.cNone
 exact ⟨rfl,q _ _ _ _ _ k R' le (.stat _)⟩
instance:jy 544 452:=⟨fun P=>by kernel_rfl⟩
instance:jy 649 560:=⟨fun P=>by kernel_rfl⟩
instance:jy 1069 841:=⟨fun P=>by kernel_rfl⟩
instance:jy 1166 1085:=⟨fun P=>by kernel_rfl⟩
instance:jy 1227 1185:=⟨fun P=>by kernel_rfl⟩
instance:jy 1297 1243:=⟨fun P=>by kernel_rfl⟩
end
section
noncomputable abbrev iL (l:List Int):D:=.lst (l.map .int)
theorem bw {A B:Prop} (e:z=true) (a:A):if z=true then A else B:=by subst e;exact a
theorem aT {A B:Prop} (e:z=false) (b:B):if z=true then A else B:=by subst e;exact b
theorem ite_no {A B:Prop} (e:z=false) (b:B):if z=true then A else B:=by subst e;exact b
theorem xE {A B:Prop} (e:z=false) (a:A):if (!z)=true then A else B:=by subst e;exact a
theorem uf {A B:Prop} (e:z=true) (b:B):if (!z)=true then A else B:=by subst e;exact b
theorem jM {p:Prop} [Decidable p] {A B:Prop} (a:p→A) (b:¬p→B):if decide p=true then A else B:=by
 by_cases h:p
 ·rw [if_pos (decide_eq_true h)];exact a h
 ·rw [if_neg (fun z=>h (of_decide_eq_true z))];exact b h
theorem eW {x y:Int} {A B:Prop} (a:x=y→A) (b:¬x=y→B):if (x==y)=true then A else B:=by
 by_cases h:x=y
 ·rw [if_pos (beq_iff_eq.mpr h)];exact a h
 ·rw [if_neg (fun z=>h (beq_iff_eq.mp z))];exact b h
theorem tL {a b a' b':Int} (e:a=a') (f:b=b'):D.tup [.int a,.int b]=D.tup [.int a',.int b']:=by rw [e,f]
theorem e9 {α:Type} {f:α→List Int} {n:Nat}:∀ {l:List α} (h:∀ a∈l,(f a).length≤n),(l.flatMap f).length≤n*l.length
 |[],_=>by simp
 |a::l,h=>by
  have h1:=h a (.head _);have h2:=e9 (l:=l) fun b hb=>h b (.tail _ hb);rw [List.flatMap_cons,List.length_append,List.length_cons,Nat.mul_succ];lia
theorem Qx {α:Type} {x:α}:[x].length≤1:=Nr 1
theorem mf (k:Nat) {A B:Prop} (a:n=k→A) (b:¬n=k→B):if ((n:Int)==(k:Int))=true then A else B:=eW (fun h=>a (by lia)) fun h=>b (by lia)
theorem qk (h:n≤1000000):-2^62≤(n:Int)∧(n:Int)<2^62:=by lia
theorem y9 {α:Type} (a:α) {G:Prop} (k:∀ m,m=a→G):G:=k a rfl
theorem aI {α:Type} {l r:List α} {m:Nat} (a:l.length≤n) (b:r.length≤m):(l++r).length≤n+m:=by rw [List.length_append];exact Nat.add_le_add a b
theorem AE {f:Nat→D} (e:d=f i):(List.range i).map f++[d]=(List.range (i+1)).map f:=by rw [List.range_succ,List.map_append,e];rfl
theorem zO {a b:Int} (ha:a.natAbs<2^70) (hb:b.natAbs<2^70):IntMulOk a b:=by
 have f:∀ x:Int,x.natAbs<2^70→Builtin.Int.intBits x≤71:=fun x hx=>by
  unfold Builtin.Int.intBits
  split
  ·lia
  ·by_cases z:x.natAbs=0
   ·rw [z];decide
   ·have:=(Nat.log2_lt z).mpr hx;lia
 exact mulOk_of_bits (f a ha) (f b hb) (by decide)
theorem t3 {f:Nat→D} (e:d=f i):(a,SO.list ((List.range i).map f++[d]))::O=(a,SO.list ((List.range (i+1)).map f))::O:=by rw [AE e]
theorem CY {k:Int} (h:i≤1000000) (hk:decide (k.natAbs<2^70)=true):IntMulOk i k:=zO (by lia) (of_decide_eq_true hk)
theorem qb {k:Int} (h:i≤1000000) (hk:decide (k.natAbs<2^70)=true):IntMulOk k i:=zO (of_decide_eq_true hk) (by lia)
theorem CZ {a k:Int} {n:Int} (h:decide (0<n∧n≤1000000)=true) (hk:decide (k.natAbs<2^70)=true):IntMulOk k (a%n):=by
 have h:=of_decide_eq_true h;have h1:=Int.emod_nonneg a (Int.ne_of_gt h.1);have h2:=Int.emod_lt_of_pos a h.1;exact zO (of_decide_eq_true hk) (by lia)
abbrev IO (I:Nat→Loc→Prop) (OO:Nat→Own):Nat→Loc→Own→Prop:=fun i l O'=>I i l∧O'=OO i
section
variable {K:D→Own→Prop}
theorem bg {l r:List Int} {m:Nat} (a:l.length≤n) (b:r.length≤m) (hs:Nat.ble (n+m) 16777216=true) (h:K (iL (l++r)) O):Op c (fun vs=>binaryOp .Add (vs.headD .none) (vs.tail.headD .none)) [iL l,iL r] loc O K E :=
 kR (by rw [List.length_map,List.length_map,sizeLine_eq];exact Nat.le_trans (Nat.add_le_add a b) (Nat.le_of_ble_eq_true hs)) (by rw [← List.map_append];exact h)
theorem kQ {l:List Int} (a:l.length≤n) (hs:Nat.ble n 1000000000=true) (h:K (.int l.length) O):Op c (fun vs=>call (.builtin "len") vs) [iL l] loc O K E:=by
 have hs:=Nat.le_of_ble_eq_true hs;exact eG (by rw [List.length_map];lia) (by rw [List.length_map];exact h)
theorem t6 {l:List D} {m:Nat} (e:l.length=m) (a:m≤n) (hs:Nat.ble n 1000000000=true) (h:K (.int m) O):Op c (fun vs=>call (.builtin "len") vs) [.lst l] loc O K E:=by
 have hs:=Nat.le_of_ble_eq_true hs;subst e;exact eG (by lia) h
theorem e7 {i j r:Int} (e:i+j=r) (h:K (.int r) O):Op c (fun vs=>inplaceOp .Add (vs.headD .none) (vs.tail.headD .none)) [.int i,.int j] loc O K E:=d0 (e▸h)
theorem mZ {u v:Tok} {I:Nat→Loc→Prop} {OO:Nat→Own} (hn:n≤1000000) (hh:c.A.handled=.none) (h0:I 0 loc)
  (turn:∀ (i:Nat) l x',i<n→I i l→c.x.le x'→Tgt {c with x:=x'} tgt (.int i) l (OO i) (kFt {c with x:=x'} body (IO I OO) i KF))
  (out:∀ l,I n l→Exs c orelse l (OO n) KF NoE):vX c tgt body orelse (IO I OO) loc KF (.obj (tY 0 n t u v)) (OO 0):=by
 refine ⟨_,ku (by lia) hh,⟨h0,rfl⟩,fun i d l O2 hd hI x' le=>?_,fun l O2 hI=>?_⟩
 ·obtain ⟨hi,rfl⟩:=Cm hd;obtain ⟨hI,rfl⟩:=hI;exact turn i l x' hi hI le
 ·obtain ⟨hI,rfl⟩:=hI;rw [List.length_map,List.length_range] at hI;rw [List.length_map,List.length_range];exact out l hI
theorem DM {α:Type} {f:α→D} {hs:List α} {I:Nat→Loc→Prop} {OO:Nat→Own} (it:dn c d (hs.map f)) (h0:I 0 loc)
  (turn:∀ (i:Nat) h l x',hs[i]? = some h→I i l→c.x.le x'→Tgt {c with x:=x'} tgt (f h) l (OO i) (kFt {c with x:=x'} body (IO I OO) i KF))
  (out:∀ l,I hs.length l→Exs c orelse l (OO hs.length) KF NoE):vX c tgt body orelse (IO I OO) loc KF d (OO 0):=by
 refine ⟨_,it,⟨h0,rfl⟩,fun i d l O2 hd hI x' le=>?_,fun l O2 hI=>?_⟩
 ·rw [List.getElem?_map] at hd;obtain ⟨h,hq,rfl⟩:=Option.map_eq_some_iff.mp hd;obtain ⟨hI,rfl⟩:=hI;exact turn i h l x' hq hI le
 ·obtain ⟨hI,rfl⟩:=hI;rw [List.length_map] at hI ⊢;exact out l hI
abbrev WI {σ:Type} (μ:σ→Nat) (I:σ→Loc→Prop) (OO:σ→Own):Nat→Loc→Own→Prop:=fun n l O'=>∃ s,n=μ s∧I s l∧O'=OO s
theorem uT {σ:Type} {t:PySem.Expr} {p:Pos} (μ:σ→Nat) (I:σ→Loc→Prop) (OO:σ→Own) (s:σ) (h0:I s loc)
  (turn:∀ s l,I s l→Tst c t l (OO s) (kWt c body orelse (WI μ I OO) (μ s) l KF) NoE):Ex c (.While t body orelse p) loc (OO s) KF E:=by
 refine mi (WI μ I OO) (μ s) ⟨s,rfl,h0,rfl⟩ ?_
 rintro n l O' ⟨s,rfl,hI,rfl⟩
 exact turn s l hI
abbrev IOS {σ:Type} (I:Nat→σ→Loc→Prop) (OO:Nat→σ→Own):Nat→Loc→Own→Prop:=fun i l O'=>∃ s,I i s l∧O'=OO i s
theorem Ha {σ:Type} {α:Type} {f:α→D} {hs:List α} {I:Nat→σ→Loc→Prop} {OO:Nat→σ→Own} (it:dn c d (hs.map f)) (s:σ) (h0:I 0 s loc)
  (turn:∀ (i:Nat) h s l x',hs[i]? = some h→I i s l→c.x.le x'→Tgt {c with x:=x'} tgt (f h) l (OO i s) (kFt {c with x:=x'} body (IOS I OO) i KF))
  (out:∀ s l,I hs.length s l→Exs c orelse l (OO hs.length s) KF NoE):vX c tgt body orelse (IOS I OO) loc KF d (OO 0 s):=by
 refine ⟨_,it,⟨s,h0,rfl⟩,fun i d l O2 hd hI x' le=>?_,fun l O2 hI=>?_⟩
 ·rw [List.getElem?_map] at hd;obtain ⟨h,hq,rfl⟩:=Option.map_eq_some_iff.mp hd;obtain ⟨s,hI,rfl⟩:=hI;exact turn i h s l x' hq hI le
 ·obtain ⟨s,hI,rfl⟩:=hI;rw [List.length_map] at hI ⊢;exact out s l hI
theorem g6 {st:PySem.Stmt} (P:Loc→Prop) (h:Ex c st loc O (fun f l O2=>f=.next∧P l∧O2=O') E) (k:∀ l,P l→KF .next l O'):Ex c st loc O KF E:=fun H s Q R q=>h H s Q R fun H' s' f g l O2 a=>q H' s' f g l O2 (by rw [a.1,a.2.2];exact k l a.2.1)
end
end
section
noncomputable abbrev wT:D:=iL [0,-1,1000,1099511627777]
theorem HA (b:ah x) (r:Rm A 1):bI x A (fun vs=>call (.ref 1306) vs) [] O (fun d O'=>d=wT∧O'=O) E:=by
 refine dG (fd:=KQ) (names:=[]) (dx:=[]) b (fun P=>by kernel_rfl) (fun P=>by kernel_rfl) (by decide +kernel) r [] ?_ (fun _=>.nil) [] rfl fun L=>?_
 ·intro P St;exact bM (by kernel_rfl)
 refine ad ?_;k_extra"MM";refine bT ?_;exact ⟨rfl,rfl⟩
noncomputable def am (v:Int) (n:Nat):List Int:=(List.range n).map fun (k:Nat)=>v/256^(n-1-k)%256
theorem AF {j:Nat} (h:j≤8):(256:Int)^j≤2^64:=by
 have h1:256^j≤256^8:=Nat.pow_le_pow_right (by decide) h;have h2:((256^j:Nat):Int)≤((256^8:Nat):Int):=Int.ofNat_le.mpr h1;rw [Int.natCast_pow,Int.natCast_pow] at h2;exact Int.le_trans h2 (by decide)
noncomputable def D.toN:D→Nat
 |.int k=>k.toNat
 |_=>0
theorem A5 {k:Nat} (h:k<n):(n:Int)-1-(k:Nat)=((n-1-k:Nat):Int):=by
 obtain ⟨d,rfl⟩:=Nat.exists_eq_add_of_lt h;rw [Nat.add_sub_cancel,Nat.add_sub_cancel_left];lia
theorem A6:D.lst ((((List.range n).map fun (i:Nat)=>D.int (i:Int)).map fun d=>.int (v/256^(n-1-d.toN)%256)))=iL (am v n):=by
 rw [iL,am,List.map_map,List.map_map];rfl
theorem HC (b:ah x) (r:Rm A 1) (hn:n≤8):bI x A (fun vs=>call (.ref 1311) vs) [.int v,.int n] O (fun d O'=>d=iL (am v n)∧O'=O) E:=by
 refine dG (fd:=KP) (names:=[S "value",S "size"]) (dx:=[]) b (fun P=>by kernel_rfl) (fun P=>by kernel_rfl) (by decide +kernel) r [] ?_ (fun _=>.nil) [(S "size",.int n),(S "value",.int v)] rfl fun L=>?_
 ·intro P St;exact aH fun _=>aH fun _=>bM (by kernel_rfl)
 refine ad ?_;k_extra"MM";refine kO fun t u w=>?_;refine ⟨_,_,ku (by lia) r.hh,g7 (fun d=>.int (v/256^(n-1-d.toN)%256)) (by rw [List.length_map,List.length_range,sizeLine_eq];exact Nat.le_trans hn (by decide)) ?_,?_⟩
 ·intro d hd x' le C;refine al (List.mem_map.mp hd) fun k hk q1=>?_;obtain rfl:=q1;have hk:=List.mem_range.mp hk;have b':ah x':=b.le le;k_extra"MM";refine AI (n:=n-1-k) (A5 hk) (by lia) ?_;refine FT (Int.pow_pos (by decide)) (AF (j:=n-1-k) (by lia)) ?_;k_extra"MM";exact ⟨rfl,rfl⟩
 ·intro acc O2 h;refine bT ⟨?_,h.2⟩;rw [h.1,List.take_of_length_le (Nat.le_refl _)];exact A6
noncomputable def ci (fuel:Nat) (r:Int):List Int:=match fuel with
 |0=>[r]
 |f+1=>if 128≤r then (128+r%128)::ci f (r/128) else [r]
noncomputable def zig (v:Int):Int:=if 0≤v then 2*v else -2*v-1
noncomputable def aR (v:Int):List Int:=ci 9 (zig v)
theorem mC:0≤zig v:=by unfold zig;split<;>lia
theorem tH (h0:-2^62≤v) (h1:v<2^62):zig v<2^63:=by unfold zig;split<;>lia
structure rD (v:Int) (a:Addr) (s:Int×List Int×Nat) (l:Loc):Prop where
 x:Ext [(S "rest",.int s.1),(S "row",.stat (.ref a))] l
 q0:0≤s.1
 all:s.2.1++ci s.2.2 s.1=aR v
 hi:s.1<128^s.2.2*2
 len:s.2.1.length+s.2.2=9
theorem rD.room {v a q acc k l} (I:rD v a (q,acc,k) l):acc.length≤9:=Nat.le_of_add_right_le (Nat.le_of_eq I.len)
theorem rD.pos {v a q acc k l} (I:rD v a (q,acc,k) l) (h:128≤q):k-1+1=k:=by
 cases k with
 |zero=>have:=I.hi;simp at this;lia
 |succ k=>rfl
theorem rD.next {v a q acc k l l'} (I:rD v a (q,acc,k) l) (h:128≤q) (x:Ext [(S "rest",.int (q/128)),(S "row",.stat (.ref a))] l'):rD v a (q/128,acc++[128+q%128],k-1) l':=by
 have e:=I.pos h;have all:acc++ci k q=aR v:=I.all;have hi:q<128^k*2:=I.hi;have len:acc.length+k=9:=I.len;rw [← e] at all hi len;refine ⟨x,(by lia:0≤q/128),?_,?_,?_⟩
 ·rw [ci,if_pos h] at all;refine (?_:acc++[128+q%128]++ci (k-1) (q/128)=_);rw [List.append_assoc];exact all
 ·rw [Int.pow_succ] at hi;refine (?_:q/128<128^(k-1)*2);lia
 ·refine (?_:(acc++[_]).length+(k-1)=9);rw [List.length_append,← len];exact Nat.add_right_comm acc.length 1 (k-1)
theorem rD.done {v a q acc k l} (I:rD v a (q,acc,k) l) (h:¬128≤q):D.lst (acc.map .int++[.int q])=iL (aR v):=by
 have e:ci k q=[q]:=by
  cases k with
  |zero=>rfl
  |succ k=>rw [ci,if_neg h]
 have all:acc++ci k q=aR v:=I.all;rw [← all,e,iL,List.map_append];rfl
theorem DA {acc:List Int} {n:Int}:(a,SO.list (acc.map .int++[.int n]))::O=(a,.list ((acc++[n]).map .int))::O:=by rw [List.map_append];rfl
theorem LW {k:Int} (h0:-2^62≤v) (h1:v<2^62) (hk:decide (k.natAbs<2^70)=true):IntMulOk k v:=zO (of_decide_eq_true hk) (by lia)
theorem EF (b:ah x) (r:Rm A 1) (h0:-2^62≤v) (h1:v<2^62):bI x A (fun vs=>call (.ref 1318) vs) [.int v] O (fun d O'=>d=iL (aR v)∧O'=O) E:=by
 refine dG (fd:=KN) (names:=[S "value"]) (dx:=[]) b (fun P=>by kernel_rfl) (fun P=>by kernel_rfl) (by decide +kernel) r [] ?_ (fun _=>.nil) [(S "value",.int v)] rfl fun L=>?_
 ·intro P St;exact aH fun _=>bM (by kernel_rfl)
 refine ad ?_;k_extra"MM";refine cr (.int (zig v)) ?_ ?_
 ·refine cu ?_;k_extra"MM";refine jM ?_ ?_<;>intro h
  ·k_extra"MM";exact fM (LW h0 h1 rfl) ⟨Cg D.int (if_pos h).symm,rfl⟩
  ·k_extra"MM";refine fM (LW h0 h1 rfl) ?_;k_extra"MM";exact ⟨Cg D.int (if_neg h).symm,rfl⟩
 k_extra"MM";refine gM fun a=>?_;k_extra"MM";refine uT (fun s:Int×List Int×Nat=>s.2.2) (rD v a) (fun s=>(a,.list (s.2.1.map .int))::O) (zig v,[],9) ⟨by k_extra"EX",mC,rfl,Int.lt_trans (tH h0 h1) (by decide:(2:Int)^63<128^9*2),rfl⟩ ?_
 rintro ⟨q,acc,k⟩ l I
 have X:Ext [(S "rest",.int q),(S "row",.stat (.ref a))] l:=I.x;k_extra"MM";refine jM ?_ ?_<;>intro h
 ·k_extra"MM";refine da (.head _) ?_;k_extra"MM";refine cS .head (by rw [List.length_map,sizeLine_eq];exact Nat.le_trans I.room (by decide)) ?_;k_extra"MM";exact ⟨k-1,Nat.lt_of_succ_le (Nat.le_of_eq (I.pos h)),(q/128,acc++[128+q%128],k-1),rfl,I.next h (by k_extra"EX"),DA⟩
 ·k_extra"MM";refine FW (.head _) (by rw [List.length_map,sizeLine_eq];exact Nat.le_trans (Nat.add_le_add_right I.room 1) (by decide)) ?_;exact NC ⟨I.done h,rfl⟩
theorem r5:∀ (k:Nat) (r:Int),(ci k r).length≤k+1
 |0,r=>by simp [ci]
 |k+1,r=>by
  unfold ci
  split
  ·have:=r5 k (r/128);rw [List.length_cons];lia
  ·simp
theorem bp:(aR v).length≤10:=r5 9 _
theorem aA:(am v n).length=n:=by simp [am]
theorem bc:(am v n).length≤n:=Nat.le_of_eq aA
section
variable {K:D→Own→Prop}
theorem ki (b:ah c.x) (r:Rm c.A 1) (h:-2^62≤v∧v<2^62) (k:K (iL (aR v)) O):Op c (fun vs=>call (.ref 1318) vs) [.int v] loc O K E:=bH (fun x' le=>EF (b.le le) r h.1 h.2) k
theorem vw (b:ah c.x) (r:Rm c.A 1) (k:K wT O):Op c (fun vs=>call (.ref 1306) vs) [] loc O K E:=bH (fun x' le=>HA (b.le le) r) k
theorem c6 (n:Nat) (b:ah c.x) (r:Rm c.A 1) (k:K (iL (am v n)) O) (h:Nat.ble n 8=true:=by exact rfl):Op c (fun vs=>call (.ref 1311) vs) [.int v,.int n] loc O K E:=bH (fun x' le=>HC (b.le le) r (Nat.le_of_ble_eq_true h)) k
end
end
section
noncomputable abbrev pD:Option (List UInt8)→D
 |.none=>.none
 |some l=>.bytes l
noncomputable def br:Option (List UInt8)→List Int
 |.none=>aR (-1)
 |some l=>aR l.length++fh l
theorem pn (h:l.length≤n):(fh l).length≤n:=by rw [fh,List.length_map];exact h
theorem Ld {p:Option (List UInt8)} (b:ah x) (r:Rm A 2) (hp:∀ l,p=some l→l.length≤1000000):bI x A (fun vs=>call (.ref 1325) vs) [pD p] O (fun d O'=>d=iL (br p)∧O'=O) E:=by
 refine dG (fd:=DZ) (names:=[S "data"]) (dx:=[]) b (fun P=>by kernel_rfl) (fun P=>by kernel_rfl) (by decide +kernel) r [] ?_ (fun _=>.nil) [(S "data",pD p)] rfl fun L=>?_
 ·intro P St;exact aH fun _=>bM (by kernel_rfl)
 have r':=r.deeper (callEnvC DZ L 1325) (m:=1) (by decide);refine ad ?_
 cases p with
 |none =>
  k_extra"MM";refine cu ?_;k_extra"MM";refine xD ?_;k_extra"MM";exact ki b r' (by decide) (bT ⟨rfl,rfl⟩)
 |some l =>
  have hl:=hp l rfl;k_extra"MM";refine cu ?_;k_extra"MM";refine xF ?_;k_extra"MM";refine bJ (by lia) ?_;k_extra"MM";refine ki b r' (qk hl) ?_;k_extra"MM";refine jZ (by rw [sizeLine_eq];lia) r'.hh ?_;k_extra"MM";exact bg (r:=fh l) bp (pn hl) rfl (bT ⟨rfl,rfl⟩)
noncomputable def aP (n:Int):Option (List UInt8):=if n%4=0 then .none else some (List.replicate (if n%4=1 then 0 else if n%4=2 then 1 else 9) (n/4%256).toNat.toUInt8)
noncomputable def mL (n:Int):Nat:=if n%4=1 then 0 else if n%4=2 then 1 else 9
theorem rR {n:Int}:mL n≤9:=by unfold mL;split;decide;split<;>decide
theorem Cs {n:Int} (h:¬n%4=0):D.bytes (bR (List.replicate (mL n) (n/4%256)))=pD (aP n):=by
 unfold aP;rw [if_neg h,bR,List.map_replicate]
 first|done|rfl
theorem DO {α:Type} {k:Nat} {a:α}:(List.replicate k [a]).flatten=List.replicate k a:=by
 induction k with
 |zero=>rfl
 |succ k ih=>rw [List.replicate_succ,List.flatten_cons,ih];rfl
section
variable {K:D→Own→Prop}
theorem AJ {n:Int} (so:dE j7) (h:¬n%4=0) (k:K (.int (mL n:Nat)) O):Op c (gv value j7) [.lst [.int 0,.int 1,.int 9],.int (n%4-1)] loc O K E:=by
 refine eH so (by lia) (by lia) (d:=.int (mL n:Nat)) ?_ k;unfold mL;have:n%4=1∨n%4=2∨n%4=3:=by lia
 rcases this with e|e|e<;>rw [e]<;>rfl
theorem pj (hn:n≤1000) (h:K (iL (List.replicate n v)) O):Op c (fun vs=>binaryOp .Mult (vs.headD .none) (vs.tail.headD .none)) [.lst [.int v],.int n] loc O K E :=
 FN (by rw [List.length_singleton];lia) (by lia) (by rw [DO,← List.map_replicate];exact h)
theorem FL {k:Int} (hk:0≤k∧k≤1000) (h:K (iL (List.replicate k.toNat v)) O):Op c (fun vs=>binaryOp .Mult (vs.headD .none) (vs.tail.headD .none)) [.lst [.int v],.int k] loc O K E:=by
 obtain ⟨n,rfl⟩:=Int.eq_ofNat_of_zero_le hk.1;exact pj (Int.ofNat_le.mp hk.2) h
end
theorem JU {k:Nat} {a:Int}:∀ m∈List.replicate k (a%256),0≤m∧m<256:=fun m h=>by rw [List.eq_of_mem_replicate h];exact ⟨Int.emod_nonneg _ (by decide),Int.emod_lt_of_pos _ (by decide)⟩
theorem PF {n:Int} (b:ah x) (r:Rm A 1):bI x A (fun vs=>call (.ref 1332) vs) [.int n] O (fun d O'=>d=pD (aP n)∧O'=O) E:=by
 refine dG (fd:=KJ) (names:=[S "number"]) (dx:=[]) b (fun P=>by kernel_rfl) (fun P=>by kernel_rfl) (by decide +kernel) r [] ?_ (fun _=>.nil) [(S "number",.int n)] rfl fun L=>?_
 ·intro P St;exact aH fun _=>bM (by kernel_rfl)
 refine ad ?_;k_extra"MM";refine eW ?_ ?_<;>intro h
 ·k_extra"MM";exact bT ⟨by unfold aP;rw [if_pos h],rfl⟩
 ·k_extra"MM";refine AJ (fun _ _=>⟨_,rfl⟩) h ?_;k_extra"MM";refine pj (Nt rR (by decide)) ?_;k_extra"MM";refine jo JU (by rw [List.length_replicate,sizeLine_eq];exact Nat.le_trans rR (by decide)) r.hh ?_;exact bT ⟨Cs h,rfl⟩
noncomputable def cT (base kind count:Int) (body:List Int):List Int :=
 am base 8++am (49+body.length) 4++am count 4++[2]++am 0 4++am kind 2++am 70 4++am 1000 8++am 2000 8++am (-1) 8++am (-1) 2++am (-1) 4++am count 4++body
theorem GQ {base kind count:Int} {body:List Int}:am base 8++am (49+body.length) 4++am count 4++[2]++am 0 4++am kind 2++am 70 4++am 1000 8++am 2000 8++am (-1) 8++am (-1) 2++am (-1) 4++am count 4++body=cT base kind count body:=rfl
theorem Lc {base kind count:Int} {body:List Int} (b:ah x) (r:Rm A 2) (hb:body.length≤1000000):bI x A (fun vs=>call (.ref 1351) vs) [.int base,.int kind,.int count,iL body] O (fun d O'=>d=iL (cT base kind count body)∧O'=O) E:=by
 refine dG (fd:=DX) (names:=[S "base",S "kind",S "count",S "body"]) (dx:=[]) b (fun P=>by kernel_rfl) (fun P=>by kernel_rfl) (by decide +kernel) r [] ?_ (fun _=>.nil) [(S "body",iL body),(S "count",.int count),(S "kind",.int kind),(S "base",.int base)] rfl fun L=>?_
 ·intro P St;exact aH fun _=>aH fun _=>aH fun _=>aH fun _=>bM (by kernel_rfl)
 have r':=r.deeper (callEnvC DX L 1351) (m:=1) (by decide);refine ad ?_;k_extra"MM"
 repeat first
  |(refine c6 8 b r' ?_;k_extra"MM")
  |(refine c6 4 b r' ?_;k_extra"MM")
  |(refine c6 2 b r' ?_;k_extra"MM")
  |(refine kQ hb rfl ?_;k_extra"MM")
  |(refine bg (r:=[2]) (by k_extra"B") (by k_extra"B") (by exact rfl) ?_;k_extra"MM")
  |(refine bg (by k_extra"B") (by k_extra"B") (by exact rfl) ?_;k_extra"MM")
 exact bT ⟨Cg iL GQ,rfl⟩
section
variable {K:D→Own→Prop}
theorem pk {p:Option (List UInt8)} (b:ah c.x) (r:Rm c.A 2) (h:∀ l,p=some l→l.length≤9) (k:K (iL (br p)) O):Op c (fun vs=>call (.ref 1325) vs) [pD p] loc O K E:=bH (fun x' le=>Ld (b.le le) r fun l e=>Nt (h l e) (by decide)) k
theorem CH (b:ah c.x) (r:Rm c.A 2) (h:∀ m,some l=some m→m.length≤9) (k:K (iL (br (some l))) O):Op c (fun vs=>call (.ref 1325) vs) [.bytes l] loc O K E:=pk (p:=some l) b r h k
theorem kP {n:Int} (b:ah c.x) (r:Rm c.A 1) (k:K (pD (aP n)) O):Op c (fun vs=>call (.ref 1332) vs) [.int n] loc O K E:=bH (fun x' le=>PF (b.le le) r) k
theorem zB {base kind count:Int} {body:List Int} (b:ah c.x) (r:Rm c.A 2) (hb:body.length≤1000000) (k:K (iL (cT base kind count body)) O):Op c (fun vs=>call (.ref 1351) vs) [.int base,.int kind,.int count,iL body] loc O K E:=bH (fun x' le=>Lc (b.le le) r hb) k
end
end
noncomputable def dM:Option (List UInt8)→List Int
 |.none=>am (-1) 4
 |some l=>am l.length 4++fh l
noncomputable def dO (form kind when:Int):List Int:=[0,0,0,0,form,kind]++(if form=1 then am when 8 else [])
noncomputable def cY (form offset kind when:Int) (key value:Option (List UInt8)):List Int :=
 am offset 8++am ((dO form kind when++dM key++dM value).length:Nat) 4++(dO form kind when++dM key++dM value)
theorem km {form kind when:Int}:(dO form kind when).length≤14:=by
 unfold dO;split<;>simp [aA]
theorem pi {p:Option (List UInt8)} (h:∀ l,p=some l→l.length≤n):(dM p).length≤n+4:=by
 cases p with
 |none=>exact Nt bc (Nat.le_add_left 4 n)
 |some l=>exact Nt (aI bc (pn (h l rfl))) (Nat.le_of_eq (Nat.add_comm 4 n))
theorem Cz {p:Option (List UInt8)} (h:∀ l,p=some l→l.length≤1000000):(dM p).length≤1000004:=pi h
noncomputable def jr (form kind when:Int) (key value:Option (List UInt8)) (i:Nat):List Int:=dO form kind when++([key,value].take i).flatMap dM
theorem xr {form kind when:Int} {key value p:Option (List UInt8)} (e:[key,value][i]? = some p):jr form kind when key value i++dM p=jr form kind when key value (i+1):=by
 unfold jr;rw [List.take_add_one,e,Option.toList_some,List.flatMap_append,List.append_assoc,List.flatMap_singleton]
theorem AT {form kind when offset:Int}:am offset 8++am (jr form kind when key value 2).length 4++jr form kind when key value 2=cY form offset kind when key value:=by
 have e:jr form kind when key value 2=dO form kind when++dM key++dM value:=by
  unfold jr;rw [List.append_assoc];exact Cg _ (Cg (dM key++·) (List.append_nil _))
 unfold cY;rw [e]
theorem mU {form kind when:Int} (hp:∀ p∈[key,value],∀ l,p=some l→l.length≤1000000):(jr form kind when key value i).length≤14+2000008 :=
 aI km (Nt (e9 (n:=1000004) fun p m=>Cz (hp p (List.mem_of_mem_take m))) (Nat.mul_le_mul_left 1000004 (m:=2) (List.length_take_le' _ _)))
theorem Bq {form offset kind when:Int} (b:ah x) (r:Rm A 2) (hk:∀ l,key=some l→l.length≤1000000) (hv:∀ l,value=some l→l.length≤1000000) :
  bI x A (fun vs=>call (.ref 1365) vs) [.int form,.int offset,.int kind,.int when,pD key,pD value] O (fun d O'=>d=iL (cY form offset kind when key value)∧O'=O) E:=by
 have hp:∀ p∈[key,value],∀ l,p=some l→l.length≤1000000:=fun p m=>by
  rcases List.mem_cons.mp m with rfl|m
  ·exact hk
  ·rw [List.mem_singleton.mp m];exact hv
 refine dG (fd:=DV) (names:=[S "form",S "offset",S "kind",S "when",S "key",S "value"]) (dx:=[]) b (fun P=>by kernel_rfl) (fun P=>by kernel_rfl) (by decide +kernel) r [] ?_ (fun _=>.nil)
  [(S "value",pD value),(S "key",pD key),(S "when",.int when),(S "kind",.int kind),(S "offset",.int offset),(S "form",.int form)] rfl fun L=>?_
 ·intro P St;exact aH fun _=>aH fun _=>aH fun _=>aH fun _=>aH fun _=>aH fun _=>bM (by kernel_rfl)
 have r':=r.deeper (callEnvC DV L 1365) (m:=1) (by decide);refine ad (bn rfl (cr (iL (jr form kind when key value 0)) ?_ ?_))
 ·k_extra"MM";refine cr (iL (if form=1 then am when 8 else [])) ?_ ?_
  ·refine cu ?_;k_extra"MM";refine eW ?_ ?_<;>intro h
   ·k_extra"MM";exact c6 8 b r' ⟨Cg iL (if_pos h).symm,rfl⟩
   ·exact gN ⟨(Cg iL (if_neg h).symm:iL []=iL (if form=1 then am when 8 else [])),rfl⟩
  exact bg (l:=[0,0,0,0,form,kind]) (Nr 6) (n:=6) (m:=8) (by split;exact bc;exact Nat.zero_le _) rfl ⟨Cg iL (List.append_nil _).symm,rfl⟩
 k_extra"MM";refine ul (IO (fun i=>Ext [(S "row",iL (jr form kind when key value i)),(S "offset",.int offset)]) fun _=>O) r'.hh ?_;k_extra"MM";refine DM (f:=pD) (hs:=[key,value]) (Du r'.hh) (by k_extra"EX") (fun i p l x' hi X le=>?_) (fun l X=>?_)
 ·have b':ah x':=b.le le;have hpl:=hp p (List.mem_of_getElem? hi);k_extra"ME";refine ad (bn rfl (cr (iL (jr form kind when key value (i+1))) ?_ ?_))
  ·k_extra"MM";refine cr (iL (dM p)) ?_ ?_
   ·refine cu ?_
    cases p with
    |none =>
     k_extra"MM";refine xD ?_;k_extra"MM";exact c6 4 b' r' ⟨rfl,rfl⟩
    |some q =>
     have hq:=hpl q rfl;k_extra"MM";refine xF ?_;k_extra"MM";refine bJ (by lia) ?_;k_extra"MM";refine c6 4 b' r' ?_;k_extra"MM";refine jZ (by rw [sizeLine_eq];lia) r'.hh ?_;k_extra"MM";exact bg (r:=fh q) bc (pn hq) rfl ⟨rfl,rfl⟩
   exact bg (mU hp) (pi hpl) rfl ⟨Cg iL (xr hi),rfl⟩
  k_extra"MM";exact ⟨by k_extra"EX",rfl⟩
 ·k_extra"MM";refine c6 8 b r' ?_;k_extra"MM";refine kQ (mU hp) rfl ?_;k_extra"MM";refine c6 4 b r' ?_;k_extra"MM";refine bg bc bc rfl ?_;k_extra"MM";exact bg (aI bc bc) (mU hp) rfl (bT ⟨Cg iL AT,rfl⟩)
noncomputable def fj (rest:Int) (place:Nat):List Int:=[0,0,2*(place:Int),8]++am (rest/2%5) 2++am ((rest/10+place)%3) 2++[1,0]
noncomputable def ef (rest:Int) (n:Nat):List Int:=(List.range n).flatMap fun p=>aR (fj rest p).length++fj rest p
noncomputable def kq (rest:Int) (place:Nat):D:=.tup [.int (9+(place:Int)),.int 1000,.bytes (bR (am (rest/2%5) 2++am ((rest/10+place)%3) 2)),.none,.lst [],.int (rest/2%5),.bool ((rest/10+(place:Int))%3==1),.bool ((rest/10+(place:Int))%3==0)]
noncomputable def mkN (rest:Int):Nat:=(1+rest%2).toNat
theorem gW:(fj rest p).length=10:=by simp [fj,aA]
theorem nI:ef rest (n+1)=ef rest n++aR (fj rest n).length++fj rest n:=by
 unfold ef;rw [List.range_succ,List.flatMap_append];simp
theorem qd {rest:Int}:∀ {n:Nat},(ef rest n).length≤20*n
 |0=>by simp [ef]
 |n+1=>by
  rw [nI,List.length_append,List.length_append,gW];have:=bp (v:=((10:Nat):Int));have:=qd (rest:=rest) (n:=n);lia
theorem PG:∀ m∈am v n,0≤m∧m<256:=by
 intro m hm;unfold am at hm;refine al (List.mem_map.mp hm) fun k _ q1=>?_;obtain rfl:=q1;lia
theorem mV:(fj rest p).length≤10:=Nat.le_of_eq gW
theorem qc:mkN rest≤2:=by unfold mkN;lia
theorem Kl:1+rest%2=(mkN rest:Nat):=by unfold mkN;lia
theorem jL (h:i≤2):(ef rest i).length≤40:=Nt qd (Nat.mul_le_mul_left 20 h)
theorem A7 {u:Int} {m:Nat}:∀ k∈am v n++am u m,0≤k∧k<256:=fun k h=>(List.mem_append.mp h).elim (PG k) (PG k)
noncomputable abbrev Ma (rest:Int) (a:Addr) (i:Nat):Loc:=[(S "body",iL (ef rest i)),(S "rest",.int rest),(S "told",.stat (.ref a))]
theorem Br (b:ah x) (r:Rm A 3):bI x A (fun vs=>call (.ref 1358) vs) [.int rest] O
  (fun d O'=>d=.tup [iL (cT 9 48 (mkN rest) (ef rest (mkN rest))),.int 9,.int 0,.lst ((List.range (mkN rest)).map (kq rest))]∧O'=O) E:=by
 refine dG (fd:=DW) (names:=[S "rest"]) (dx:=[]) b (fun P=>by kernel_rfl) (fun P=>by kernel_rfl) (by decide +kernel) r [] ?_ (fun _=>.nil) [(S "rest",.int rest)] rfl fun L=>?_
 ·intro P St;exact aH fun _=>bM (by kernel_rfl)
 have r':=r.deeper (callEnvC DW L 1358) (m:=2) (by decide);have r1:=r'.le (m:=1) (by decide);refine ad ?_;k_extra"MM";refine gN ?_;k_extra"MM";refine gM fun a=>?_;k_extra"MM";refine ul (IO (fun i=>Ext (Ma rest a i)) fun i=>(a,.list ((List.range i).map (kq rest)))::O) r'.hh ?_;k_extra"MM";refine rV (mkN rest) Kl fun t u v=>?_;refine mZ (Nt qc (by decide)) r'.hh (.cons (by k_extra"L":lk _ (S "body")=some (D.lst [])) (by k_extra"EX")) (fun i l x' hi X le=>?_) (fun l X=>?_)
 ·have b':ah x':=b.le le;have hi2:i≤2:=Nt (Nat.le_of_lt hi) qc;k_extra"ME";refine ad ?_;k_extra"ME";refine ad (bn rfl (cr (iL (fj rest i)) ?_ ?_))
  ·k_extra"MM";refine fM (qb (Nt hi2 (by decide)) rfl) ?_;k_extra"MM";refine c6 2 b' r1 ?_;k_extra"MM";refine bg (l:=[0,0,2*(i:Int),8]) (Nr 4) bc rfl ?_;k_extra"MM";refine c6 2 b' r1 ?_;k_extra"MM";refine bg (aI (Nr 4) bc) bc rfl ?_;k_extra"MM";exact bg (r:=[1,0]) (aI (aI (Nr 4) bc) bc) (Nr 2) rfl ⟨rfl,rfl⟩
  k_extra"ME";refine ad (bn rfl (cr (iL (ef rest (i+1))) ?_ ?_))
  ·k_extra"MM";refine kQ mV rfl ?_;k_extra"MM";refine ki b' r1 (qk (Nt mV (by decide))) ?_;k_extra"MM";refine bg (jL hi2) bp rfl ?_;k_extra"MM";exact bg (aI (jL hi2) bp) mV rfl ⟨Cg iL nI.symm,rfl⟩
  k_extra"MM";refine da (.head _) ?_;k_extra"MM";refine c6 2 b' r1 ?_;k_extra"MM";refine c6 2 b' r1 ?_;k_extra"MM";refine bg bc bc rfl ?_;k_extra"MM";refine jo A7 (by rw [sizeLine_eq];exact Nat.le_trans (aI bc bc) (by decide)) r'.hh ?_;k_extra"MM";refine gN ?_;k_extra"MM";refine cS .head (by rw [List.length_map,List.length_range,sizeLine_eq];exact Nat.le_trans hi2 (by decide)) ?_;k_extra"MM";exact ⟨by k_extra"EX",t3 rfl⟩
 ·refine dW (eK (y:=S "told") (X.lk (by k_extra"L")) .head) ?_;k_extra"MM";refine t6 ((List.length_map _).trans List.length_range) qc rfl ?_;k_extra"MM";refine zB b r' (Nt (jL qc) (by decide)) ?_;k_extra"MM";exact bT ⟨rfl,rfl⟩
section
noncomputable def dF (runs:List (Int×Int)) (o:Int):List (Int×Int):=match runs.getLast? with
 |some (n,b)=>if b=o then runs.dropLast++[(n+1,b)] else runs++[(1,o)]
 |.none=>[(1,o)]
noncomputable def rle (row:List Int):List (Int×Int):=row.foldl dF []
noncomputable def sqL (row:List Int):List Int:=(rle row).flatMap fun p=>[p.1,p.2]
noncomputable abbrev rT (p:Int×Int):D:=.lst [.int p.1,.int p.2]
theorem vg {row:List Int} {o:Int} (h:row[i]? = some o):rle (row.take (i+1))=dF (rle (row.take i)) o:=by
 unfold rle;rw [List.take_add_one,h,List.foldl_append];rfl
theorem tV {row:List Int}:(rle row).length≤row.length:=by
 have h2:∀ (row:List Int) (runs:List (Int×Int)),(row.foldl dF runs).length≤runs.length+row.length:=by
  intro row
  induction row with
  |nil=>intro runs;simp
  |cons o row ih =>
   intro runs;rw [List.foldl_cons];refine Nt (ih _) ?_
   have:(dF runs o).length≤runs.length+1:=by
    unfold dF
    cases e:runs.getLast? with
    |none=>simp
    |some p =>
     obtain ⟨n,b⟩:=p;dsimp only;have ne:runs≠[]:=fun z=>by subst z;cases e
     have:=List.length_pos_iff.mpr ne
     split<;>simp<;>lia
   rw [List.length_cons];lia
 have:=h2 row [];simp only [List.length_nil,Nat.zero_add] at this;exact this
noncomputable abbrev SqS:=Option (List (Int×Int)×Int×Int×Addr)
noncomputable abbrev tP (pre:List (Int×Int)) (ai:Addr):List D:=pre.map rT++[.stat (.ref ai)]
noncomputable abbrev sqO (a:Addr) (O:Own):SqS→Own
 |.none=>(a,.list [])::O
 |some (pre,n,b,ai)=>(ai,.list [.int n,.int b])::(a,.list (tP pre ai))::O
noncomputable def sqR:SqS→List (Int×Int)
 |.none=>[]
 |some (pre,n,b,_)=>pre++[(n,b)]
structure SqI (row:List Int) (a:Addr) (i:Nat) (s:SqS) (l:Loc):Prop where
 x:lk l (S "runs")=some (.stat (.ref a))
 e:rle (row.take i)=sqR s
section
variable {row:List Int} {ai:Addr} {l l':Loc} {o n b:Int} {pre:List (Int×Int)}
theorem JT:(rle (row.take i)).length≤row.length:=Nt tV (List.length_take_le' _ _)
theorem SqI.room (I:SqI row a i (some (pre,n,b,ai)) l):pre.length≤row.length:=by
 have h:=JT (row:=row) (i:=i);rw [I.e,sqR,List.length_append] at h;exact Nt (Nat.le_add_right _ _) h
theorem B5 (h:pre.length≤row.length) (hz:row.length≤1000000):(tP pre ai).length≤1000001:=by
 rw [List.length_append,List.length_map];exact Nat.add_le_add_right (Nat.le_trans h hz) 1
theorem y8:(tP pre ai)[(-1+((tP pre ai).length:Int)).toNat]? = some (.stat (.ref ai)):=by
 have e:(-1+((tP pre ai).length:Int)).toNat=(pre.map rT).length:=by rw [List.length_append,List.length_singleton];lia
 rw [e,List.getElem?_append_right (Nat.le_refl _),Nat.sub_self];rfl
theorem B4:-((tP pre ai).length:Int)≤-1:=by rw [List.length_append,List.length_singleton];lia
theorem Lz:(!(tP pre ai).isEmpty)=true:=by cases pre<;>rfl
theorem SqI.first (I:SqI row a i .none l) (ho:row[i]? = some o) (x:lk l' (S "runs")=some (.stat (.ref a))):SqI row a (i+1) (some ([],1,o,ai)) l':=⟨x,by rw [vg ho,I.e];rfl⟩
theorem SqI.step (I:SqI row a i (some (pre,n,b,ai)) l) (ho:row[i]? = some o):rle (row.take (i+1))=if b=o then pre++[(n+1,b)] else pre++[(n,b)]++[(1,o)]:=by
 rw [vg ho,I.e,sqR,dF,List.getLast?_concat];refine (?_:(if b=o then (pre++[(n,b)]).dropLast++_ else _)=_);rw [List.dropLast_concat]
theorem SqI.same (I:SqI row a i (some (pre,n,b,ai)) l) (ho:row[i]? = some o) (h:b=o) (x:lk l' (S "runs")=some (.stat (.ref a))):SqI row a (i+1) (some (pre,n+1,b,ai)) l':=⟨x,(I.step ho).trans (if_pos h)⟩
theorem SqI.new (I:SqI row a i (some (pre,n,b,ai)) l) (ho:row[i]? = some o) (h:¬b=o) (x:lk l' (S "runs")=some (.stat (.ref a))):SqI row a (i+1) (some (pre++[(n,b)],1,o,a2)) l':=⟨x,(I.step ho).trans (if_neg h)⟩
theorem JQ:(a2,SO.list [.int 1,q])::(a,SO.list (pre.map rT++[rT (n,b)]++[.stat (.ref a2)]))::O=(a2,SO.list [.int 1,q])::(a,.list (tP (pre++[(n,b)]) a2))::O:=by rw [tP,List.map_append];rfl
theorem B3 {rs:List (Int×Int)}:(rs.map rT)=(rs.map fun p=>[D.int p.1,.int p.2]).map .lst:=by rw [List.map_map];rfl
theorem tO:∀ {rs:List (Int×Int)},((rs.map fun p=>[D.int p.1,D.int p.2]).flatten)=(rs.flatMap fun p=>[p.1,p.2]).map .int
 |[]=>rfl
 |p::rs=>by rw [List.map_cons,List.flatten_cons,tO,List.flatMap_cons,List.map_append];rfl
theorem Fm (hz:row.length≤1000000):((rle row).map fun p=>[D.int p.1,D.int p.2]).flatten.length≤sizeLine:=by
 rw [tO,List.length_map,sizeLine_eq];exact Nt (e9 (f:=fun p:Int×Int=>[p.1,p.2]) (n:=2) fun _ _=>Nr 2) (Nt (Nat.mul_le_mul_left 2 (Nt tV hz)) (by decide))
end
theorem y6 {row:List Int} {K:D→Own→Prop} (b:ah x) (hh:(A.deeper (callEnvC m3 L 1337)).handled=.none) (hz:row.length≤1000000) (g:lk loc (S "runs")=some (.lst ((rle row).map rT))) (h:K (iL (sqL row)) O) :
  Exs (Hb x A m3 L 1337) ((aB m3).drop 2) loc O (kFn K) (dT x A (callEnvC m3 L 1337) E):=by
 refine ad ?_;k_extra"ME";refine Ea (kG (by kernel_rfl)) rfl hh (fun C=>xN (by kernel_rfl) rfl) (fun C=>tc (by decide +kernel)) (fun C=>tc (by decide +kernel)) (by decide +kernel) (by kernel_rfl) (by kernel_rfl) ?_;k_extra"ME";refine ⟨(rle row).map fun p=>[.int p.1,.int p.2],Cg D.lst B3,Fm hz,?_⟩;rw [tO];exact bT h
theorem qM {row:List Int} (b:ah x) (r:Rm A 1) (hz:row.length≤1000000):bI x A (fun vs=>call (.ref 1337) vs) [iL row] O (fun d O'=>d=iL (sqL row)∧O'=O) E:=by
 refine dG (fd:=m3) (names:=[S "row"]) (dx:=[]) b (fun P=>by kernel_rfl) (fun P=>by kernel_rfl) (by decide +kernel) r [] ?_ (fun _=>.nil) [(S "row",iL row)] rfl fun L=>?_
 ·intro P St;exact aH fun _=>bM (by kernel_rfl)
 have hh:=(r.deeper (callEnvC m3 L 1337) (m:=0) (by decide)).hh;refine ad ?_;k_extra"MM";refine gM fun a=>?_;k_extra"MM";refine uU (IOS (SqI row a) fun _=>sqO a O) hh rfl ?_;k_extra"ME";refine Ha (I:=SqI row a) (OO:=fun _=>sqO a O) (f:=D.int) (hs:=row) (cC hh) (Option.none:SqS) ⟨by k_extra"L",rfl⟩ (fun i o s l x' ho I le=>?_) (fun s l I=>?_)
 ·have b':ah x':=b.le le;have e1:=I.x
  rcases s with _|⟨pre,n,bb,ai⟩
  ·k_extra"MM";refine y2 (.head _) (by decide) ?_;refine xF ?_;k_extra"MM";refine da (.head _) ?_;refine wP fz ?_;refine uV rfl ?_;refine um ?_;k_extra"MM";intro ai;k_extra"MM";refine cS (.tail .head) (by decide) ?_;k_extra"MM";exact ⟨some ([],1,o,ai),I.first ho (by k_extra"L"),rfl⟩
  ·have hd:=B5 (ai:=ai) I.room hz;k_extra"MM";refine y2 (.tail _ (.head _)) (Int.lt_of_le_of_lt (Int.ofNat_le.mpr hd) (by decide)) ?_;refine bw Lz ?_;k_extra"MM";refine jn (fun _ _=>⟨_,rfl⟩) (.tail _ (.head _)) (by decide) B4 (by decide) y8 ?_;k_extra"MM";refine xj (fun _ _=>⟨_,rfl⟩) (.head _) (by decide) (by decide) (d:=.int bb) rfl ?_;k_extra"MM";refine eW ?_ ?_<;>intro h
   ·k_extra"MM";refine A9 (fun _ _ _=>rfl) ?_;k_extra"MM";refine jn (fun _ _=>⟨_,rfl⟩) (.tail _ (.head _)) (by decide) B4 (by decide) y8 ?_;k_extra"MM";refine ⟨ai,_,0,.int n,rfl,rfl,by decide,by decide,.head _,rfl,?_⟩;k_extra"MM";refine d0 ?_;refine ⟨_,_,.head,Nat.zero_lt_succ 1,?_⟩;k_extra"MM";exact ⟨some (pre,n+1,bb,ai),I.same ho h (by k_extra"L"),rfl⟩
   ·refine dW v0 ?_;k_extra"MM";refine da (.head _) ?_;refine wP fz ?_;refine uV rfl ?_;refine um ?_;k_extra"MM";intro a2;k_extra"MM";refine cS (.tail .head) (by rw [List.length_append,List.length_map,sizeLine_eq];exact Nat.le_trans (Nat.add_le_add_right (Nat.le_trans I.room hz) 1) (by decide)) ?_;k_extra"MM";exact ⟨some (pre++[(n,bb)],1,o,a2),I.new ho h (by k_extra"L"),JQ⟩
 ·have e:rle row=sqR s:=by have:=I.e;rwa [List.take_of_length_le (Nr _)] at this
  rcases s with _|⟨pre,n,bb,ai⟩
  ·exact dW (eK I.x .head) (bl (y6 b hh hz (e▸bv) ⟨rfl,rfl⟩))
  ·refine dW v0 (dW (eK I.x .head) (bl (y6 b hh hz ?_ ⟨rfl,rfl⟩)));rw [e,sqR,List.map_append];exact bv
end
section
noncomputable def bi (n:Int):Int:=if n%4=0 then 0 else if n%4=1 then -1 else if n%4=2 then 1000 else 1099511627777
noncomputable def fE (more:Int):List (Str×List UInt8×Option (List UInt8)):=([(S "é",[195,169],aP (more/4)),(S "",[],some [118])]:List _).take (more%3).toNat
noncomputable def qq (more:Int):D:=.lst ((fE more).map fun h=>.tup [.str h.1,pD h.2.2])
noncomputable def rg (more:Int) (place:Nat):List Int :=
 [0]++aR (bi more-1000)++aR (place*70)++br (aP (more/4))++br (aP (more/16))++aR (fE more).length++(fE more).flatMap fun h=>br (some h.2.1)++br h.2.2
noncomputable def Fz (more:Int) (place:Nat):List Int :=
 [0]++aR (bi more-1000)++aR (place*70)++br (aP (more/4))++br (aP (more/16))++aR (fE more).length
noncomputable def Pj (rest:Int) (place:Nat):Int:=rest/36+5*place
noncomputable def fq (rest:Int):Nat:=(rest/12%3).toNat
noncomputable def cy (rest:Int):Int:=if rest%3=0 then 0 else if rest%3=1 then 7 else 1099511627776
noncomputable def cf (rest:Int) (n:Nat):List Int:=(List.range n).flatMap fun p=>aR (rg (Pj rest p) p).length++rg (Pj rest p) p
noncomputable def dK (rest:Int) (place:Nat):D:=.tup [.int (cy rest+(place:Int)*70),.int (if rest/6%2=1 then 2000 else bi (Pj rest place)),pD (aP (Pj rest place/4)),pD (aP (Pj rest place/16)),qq (Pj rest place)]
noncomputable def gt (rest:Int):List Int:=cT (cy rest) (rest/3%2+8*(rest/6%2)) (fq rest) (if rest/3%2=1 then sqL (cf rest (fq rest)) else cf rest (fq rest))
theorem aU {n:Int}:∀ l,aP n=some l→l.length≤9:=by
 intro l h;unfold aP at h
 split at h
 ·cases h
 ·cases h
  rw [List.length_replicate]
  split<;>(try split)<;>lia
theorem c7 {p:Option (List UInt8)} (h:∀ l,p=some l→l.length≤9):(br p).length≤19:=by
 cases p with
 |none=>exact Nt bp (by decide)
 |some l =>
  have:=h l rfl;have:=bp (v:=l.length);simp [br,fh];lia
theorem qp {more:Int}:(fE more).length≤2:=by skip;exact Nat.le_trans (List.length_take_le' _ _) (by simp)
theorem vh {more:Int} {place:Nat}:(Fz more place).length≤80 :=
 Nt (aI (aI (aI (aI (aI (Nr 1) bp) bp) (c7 aU)) (c7 aU)) bp) (by decide)
theorem Al {n:Int}:-1≤bi n∧bi n≤1099511627777:=by unfold bi;(split<;>(try split)<;>(try split))<;>lia
open PySem.Builtin PySem.Builtin._codecs in
theorem zS {more:Int} {h:Str×List UInt8×Option (List UInt8)} (m:h∈fE more):(∀ t,encodeNarrow "str.encode" utf8Codec .none (.str h.1 t) h.1=pure h.2.1.toArray)∧h.2.1.length≤9∧(∀ l,h.2.2=some l→l.length≤9):=by
 have m:=List.mem_of_mem_take m
 rcases List.mem_cons.mp m with rfl|m
 ·exact ⟨fun t=>by kernel_rfl,Nat.le_of_ble_eq_true rfl,fun l e=>aU l e⟩
 ·rcases List.mem_cons.mp m with rfl|m
  ·exact ⟨fun t=>by kernel_rfl,by decide,fun l e=>by cases e;decide⟩
  ·cases m
noncomputable abbrev DH (h:Str×List UInt8×Option (List UInt8)):List Int:=br (some h.2.1)++br h.2.2
theorem zU {more:Int} {k:Nat}:(((fE more).take k).flatMap DH).length≤76:=by
 have h:=e9 (f:=DH) (n:=38) (l:=(fE more).take k) fun a ha=>by
  refine gB (zS (List.mem_of_mem_take ha)) fun _ h2 h3=>?_;have e1:=c7 (p:=some a.2.1) (fun l e=>by cases e;exact h2);have e2:=c7 h3;rw [List.length_append];lia
 have:=qp (more:=more);have:((fE more).take k).length≤2:=Nt (List.length_take_le' _ _) this;lia
theorem wY {row:List Int}:(sqL row).length≤2*row.length:=Nt (e9 (f:=fun p:Int×Int=>[p.1,p.2]) (n:=2) fun _ _=>Nr 2) (Nat.mul_le_mul_left 2 tV)
theorem Fy {more:Int} {place:Nat}:rg more place=Fz more place++(fE more).flatMap DH:=rfl
theorem Ch {more:Int} {place:Nat}:(rg more place).length≤156:=by
 rw [Fy,List.length_append];have h1:=vh (more:=more) (place:=place);have h2:=zU (more:=more) (k:=(fE more).length);rw [List.take_of_length_le (Nat.le_refl _)] at h2;lia
theorem mt:cf rest (n+1)=cf rest n++aR (rg (Pj rest n) n).length++rg (Pj rest n) n:=by
 unfold cf;rw [List.range_succ,List.flatMap_append];simp
theorem nV {rest:Int}:∀ {n:Nat},(cf rest n).length≤166*n
 |0=>by simp [cf]
 |n+1=>by
  rw [mt,List.length_append,List.length_append];have h1:=bp (v:=((rg (Pj rest n) n).length:Nat));have h2:=Ch (more:=Pj rest n) (place:=n);have h3:=nV (rest:=rest) (n:=n);lia
noncomputable def mJ (more:Int) (i k:Nat):List Int:=Fz more i++((fE more).take k).flatMap DH
theorem jj {more:Int} {k:Nat}:(mJ more i k).length≤156:=aI vh zU
theorem AB {more:Int}:Fz more i=mJ more i 0:=by unfold mJ;simp
theorem AC {more:Int} {k:Nat} {h:Str×List UInt8×Option (List UInt8)} (e:(fE more)[k]? = some h):mJ more i k++br (some h.2.1)++br h.2.2=mJ more i (k+1):=by
 unfold mJ;rw [List.take_add_one,e,Option.toList_some,List.flatMap_append,List.append_assoc,List.append_assoc];simp [DH]
theorem Cj {more:Int}:mJ more i (fE more).length=rg more i:=by
 unfold mJ;rw [List.take_of_length_le (Nat.le_refl _)];rfl
theorem EO {more:Int} (em:more=Pj rest i):cf rest i++aR ((mJ more i (fE more).length).length:Nat)++mJ more i (fE more).length=cf rest (i+1):=by
 subst em;rw [Cj,mt]
theorem ms:fq rest≤2:=by unfold fq;lia
theorem HJ:rest/12%3=(fq rest:Nat):=by unfold fq;lia
theorem PN (h:i≤2):(cf rest i).length≤332:=Nt nV (Nat.mul_le_mul_left 166 h)
noncomputable def nh (rest:Int):List Int:=if rest/3%2=1 then sqL (cf rest (fq rest)) else cf rest (fq rest)
theorem qU:(nh rest).length≤664:=by
 have h:=PN (rest:=rest) (ms (rest:=rest));have h2:=wY (row:=cf rest (fq rest));unfold nh;split<;>lia
theorem Fc {n:Int}:-2^62≤bi n-1000∧bi n-1000<2^62:=by
 have:=Al (n:=n);lia
theorem J7 (h:i≤2):-2^62≤(i:Int)*70∧(i:Int)*70<2^62:=by lia
section
variable {K:D→Own→Prop}
theorem FU {n:Int} (so:dE j7) (h:K (.int (cy n)) O):Op c (gv value j7) [.lst [.int 0,.int 7,.int 1099511627776],.int (n%3)] loc O K E:=by
 refine eH so (by lia) (by lia) (d:=.int (cy n)) ?_ h;unfold cy;have:n%3=0∨n%3=1∨n%3=2:=by lia
 rcases this with e|e|e<;>rw [e]<;>rfl
theorem zI {n:Int} (so:dE j7) (h:K (.int (bi n)) O):Op c (gv value j7) [wT,.int (n%4)] loc O K E:=by
 refine eH so (by lia) (by lia) (d:=.int (bi n)) ?_ h;unfold bi;have:n%4=0∨n%4=1∨n%4=2∨n%4=3:=by lia
 rcases this with e|e|e|e<;>rw [e]<;>rfl
theorem FR {n:Int} (so:dE j7) (h:K (qq n) O):Op c (gv value j7) [.lst [.tup [.str (S "é"),pD (aP (n/4))],.tup [.str (S ""),.bytes [118]]],.obj (sl2 .none (.int (n%3) u))] loc O K E:=by
 have ej:n%3=((n%3).toNat:Int):=by lia
 have e:qq n=.lst ([D.tup [.str (S "é"),pD (aP (n/4))],.tup [.str (S ""),.bytes [118]]].take (n%3).toNat):=by
  unfold qq fE;rw [List.map_take]
  rfl
 rw [e] at h;rw [ej];exact gf so (by simp [sizeLine_eq]) h
end
noncomputable abbrev N2 (h:Str×List UInt8×Option (List UInt8)):D:=.tup [.str h.1,pD h.2.2]
open PySem.Builtin PySem.Builtin._codecs in
theorem qs {more:Int} {k:Nat} {h:Str×List UInt8×Option (List UInt8)} (e:(fE more)[k]? = some h):(∀ t,encodeNarrow "str.encode" utf8Codec .none (.str h.1 t) h.1=pure h.2.1.toArray)∧h.2.1.length≤9∧(∀ l,h.2.2=some l→l.length≤9):=zS (List.mem_of_getElem? e)
theorem qr {more:Int} {k:Nat} {h:Str×List UInt8×Option (List UInt8)} (e:(fE more)[k]? = some h):∀ m,some h.2.1=some m→m.length≤9:=fun m q=>by cases q;exact (qs e).2.1
noncomputable abbrev Jc (rest:Int) (a:Addr) (i:Nat):Loc:=[(S "body",iL (cf rest i)),(S "rest",.int rest),(S "base",.int (cy rest)),(S "squeezed",.int (rest/3%2)),(S "late",.int (rest/6%2)),(S "told",.stat (.ref a))]
noncomputable abbrev Mc (rest more:Int) (i:Nat) (a:Addr) (k:Nat):Loc:=(S "laid",iL (mJ more i k))::(S "when",.int (bi more))::(S "key",pD (aP (more/4)))::(S "value",pD (aP (more/16)))::(S "headers",qq more)::(S "place",.int i)::Jc rest a i
noncomputable abbrev Mb (rest:Int):Loc:=[(S "body",iL (nh rest)),(S "base",.int (cy rest)),(S "squeezed",.int (rest/3%2)),(S "late",.int (rest/6%2)),(S "told",.lst ((List.range (fq rest)).map (dK rest)))]
theorem Ad (b:ah x) (r:Rm A 3):bI x A (fun vs=>call (.ref 1344) vs) [.int rest] O
  (fun d O'=>d=.tup [iL (gt rest),.int (cy rest),.int (rest/3%2),.lst ((List.range (fq rest)).map (dK rest))]∧O'=O) E:=by
 refine dG (fd:=DY) (names:=[S "rest"]) (dx:=[]) b (fun P=>by kernel_rfl) (fun P=>by kernel_rfl) (by decide +kernel) r [] ?_ (fun _=>.nil) [(S "rest",.int rest)] rfl fun L=>?_
 ·intro P St;exact aH fun _=>bM (by kernel_rfl)
 have r':=r.deeper (callEnvC DY L 1344) (m:=2) (by decide);have r1:=r'.le (m:=1) (by decide);refine ad ?_;k_extra"MM";refine FU (fun _ _=>⟨_,rfl⟩) ?_;k_extra"MM";refine gN ?_;k_extra"MM";refine gM fun a=>?_;k_extra"MM";refine ul (IO (fun i=>Ext (Jc rest a i)) fun i=>(a,.list ((List.range i).map (dK rest)))::O) r'.hh ?_;k_extra"MM";refine rV (fq rest) HJ fun t u v=>?_;refine mZ (Nt ms (by decide)) r'.hh (.cons (by k_extra"L":lk _ (S "body")=some (D.lst [])) (by k_extra"EX")) (fun i l x' hi X le=>?_) (fun l X=>?_)
 ·have b':ah x':=b.le le;have hi2:i≤2:=Nt (Nat.le_of_lt hi) ms;refine y9 (Pj rest i) fun more em=>?_;k_extra"ME";refine ad (bn rfl (cr (.int more) ?_ ?_))
  ·k_extra"MM";refine fM (qb (Nt hi2 (by decide)) rfl) ?_;k_extra"MM";exact ⟨Cg D.int em.symm,rfl⟩
  k_extra"MM";refine vw b' r1 ?_;k_extra"MM";refine zI (fun _ _=>⟨_,rfl⟩) ?_;k_extra"MM";refine kP b' r1 ?_;k_extra"MM";refine kP b' r1 ?_;k_extra"MM";refine j2 ?_;k_extra"MM";refine ⟨_,rfl,fun t=>FR (fun _ _=>⟨_,rfl⟩) ?_⟩;k_extra"ME";refine (?_:Exs _ _ _ _ _ _)
  with_reducible refine ad (bn ?_ (cr (iL (mJ more i 0)) ?_ ?_))
  ·rfl
  ·k_extra"MM";refine ki b' r1 Fc ?_;k_extra"MM";refine bg (l:=[0]) (Nr 1) bp rfl ?_;k_extra"MM";refine fM (CY (Nt hi2 (by decide)) rfl) ?_;k_extra"MM";refine ki b' r1 (J7 hi2) ?_;k_extra"MM";refine bg (aI (Nr 1) bp) bp rfl ?_;k_extra"MM";refine pk b' r' aU ?_;k_extra"MM";refine bg (aI (aI (Nr 1) bp) bp) (c7 aU) rfl ?_;k_extra"MM";refine pk b' r' aU ?_;k_extra"MM";refine bg (aI (aI (aI (Nr 1) bp) bp) (c7 aU)) (c7 aU) rfl ?_;k_extra"MM";refine t6 (List.length_map _) qp rfl ?_;k_extra"MM";refine ki b' r1 (qk (Nt qp (by decide))) ?_;k_extra"MM";refine bg (aI (aI (aI (aI (Nr 1) bp) bp) (c7 aU)) (c7 aU)) bp rfl ?_;exact ⟨Cg iL AB,rfl⟩
  k_extra"MM";refine uU (IO (fun k=>Ext (Mc rest more i a k)) fun _=>(a,.list ((List.range i).map (dK rest)))::O) r'.hh rfl ?_;k_extra"ME";refine DM (f:=N2) (hs:=fE more) (cC r'.hh) (by k_extra"EX") (fun k h l x'' hh Y le'=>?_) (fun l Y=>?_)
  ·have b'':ah x'':=b'.le le';k_extra"ME";refine ad (bn rfl (cr (iL (mJ more i (k+1))) ?_ ?_))
   ·k_extra"MM";refine AX ?_;k_extra"MM";refine AN h.2.1 (qs hh).1 (Nt (qs hh).2.1 (by decide)) ?_;k_extra"MM";refine CH b'' r' (qr hh) ?_;k_extra"MM";refine bg jj (c7 (qr hh)) rfl ?_;k_extra"MM";refine pk b'' r' (qs hh).2.2 ?_;k_extra"MM";refine bg (aI jj (c7 (qr hh))) (c7 (qs hh).2.2) rfl ?_;exact ⟨Cg iL (AC hh),rfl⟩
   k_extra"MM";exact ⟨by k_extra"EX",rfl⟩
  ·k_extra"ME";refine ad (bn rfl (cr (iL (cf rest (i+1))) ?_ ?_))
   ·k_extra"MM";refine kQ jj rfl ?_;k_extra"MM";refine ki b' r1 (qk (Nt jj (by decide))) ?_;k_extra"MM";refine bg (PN hi2) bp rfl ?_;k_extra"MM";refine bg (aI (PN hi2) bp) jj rfl ?_;exact ⟨Cg iL (EO em),rfl⟩
   k_extra"MM";refine da (.head _) ?_;k_extra"MM";refine fM (CY (Nt hi2 (by decide)) rfl) ?_;k_extra"MM";refine cr (.int (if rest/6%2=1 then 2000 else bi more)) ?_ ?_
   ·refine cu ?_;k_extra"MM";refine eW ?_ ?_<;>intro h
    ·k_extra"MM";exact ⟨Cg D.int (if_pos h).symm,rfl⟩
    ·k_extra"MM";exact ⟨Cg D.int (if_neg h).symm,rfl⟩
   k_extra"MM";refine cS .head (by rw [List.length_map,List.length_range,sizeLine_eq];exact Nat.le_trans hi2 (by decide)) ?_;k_extra"MM";exact ⟨by k_extra"EX",t3 (by subst em;rfl)⟩
 ·refine dW (eK (y:=S "told") (X.lk (by k_extra"L")) .head) ?_;k_extra"ME";refine ad (g6 (O':=O) (Ext (Mb rest)) ?_ fun l Y=>?_)
  ·k_extra"ME";refine eW ?_ ?_<;>intro h
   ·k_extra"ME";refine ad (bn rfl (cr (iL (nh rest)) ?_ ?_))
    ·k_extra"MM";exact bH (fun x' le=>qM (b.le le) r1 (Nt (PN ms) (by decide))) ⟨Cg iL (if_pos h).symm,rfl⟩
    k_extra"MM";exact ⟨rfl,by k_extra"EX",rfl⟩
   ·k_extra"ME";have e:iL (cf rest (fq rest))=iL (nh rest):=Cg iL (if_neg h).symm;exact ⟨rfl,.cons (e▸(by k_extra"L":lk _ (S "body")=some (iL (cf rest (fq rest))))) (by k_extra"EX"),rfl⟩
  ·k_extra"MM";refine fM (CZ rfl rfl) ?_;k_extra"MM";refine t6 ((List.length_map _).trans List.length_range) ms rfl ?_;k_extra"MM";refine zB b r' (Nt qU (by decide)) ?_;k_extra"MM";exact bT ⟨rfl,rfl⟩
end
section
noncomputable def ax (rest:Int):Int:=if rest%3=0 then 3 else if rest%3=1 then 20 else 1099511627776
noncomputable def bZ (rest:Int):Nat:=(1+rest/3%2).toNat
noncomputable def aX (rest:Int) (place:Nat):Int:=rest/6+5*place
noncomputable def d8 (form rest:Int) (place:Nat):List Int:=cY form (if bZ rest=1 then ax rest else 4*place) 0 (bi (aX rest place)) (aP (aX rest place/4)) (aP (aX rest place/16))
noncomputable def bz (form rest:Int) (n:Nat):List Int:=(List.range n).flatMap (d8 form rest)
noncomputable def kj (form rest:Int) (place:Nat):Int:=if bZ rest=1 then ax rest else 4*place+(if form=1∧3<ax rest then ax rest-4 else 0)
noncomputable def gR (form rest:Int) (place:Nat):D:=if form=0 then .none else .int (if rest/5%2=1∧bZ rest=2 then 5 else bi (aX rest place))
noncomputable def cx (form rest:Int) (place:Nat):D:=.tup [.int (kj form rest place),gR form rest place,pD (aP (aX rest place/4)),pD (aP (aX rest place/16)),.lst []]
noncomputable def d9 (rest:Int):Option (List UInt8):=if rest/2%2=0 then .none else some [97]
noncomputable def cM (form rest:Int):List Int:=if bZ rest=1 then bz form rest 1 else cY form (ax rest) (1+8*(rest/5%2)) 5 (d9 rest) (some (bR (sqL (bz form rest 2))))
noncomputable def de (rest:Int):Int:=if bZ rest=1 then 0 else 1
theorem vP {form offset kind when:Int} (hk:∀ l,key=some l→l.length≤9) (hv:∀ l,value=some l→l.length≤9):(cY form offset kind when key value).length≤52 :=
 aI (aI bc bc) (aI (aI km (pi hk)) (pi hv))
theorem xm {form:Int} {place:Nat}:(d8 form rest place).length≤52:=vP (fun l h=>aU l h) (fun l h=>aU l h)
theorem jp {form:Int}:(bz form rest n).length≤52*n:=by
 have:=e9 (f:=d8 form rest) (n:=52) (l:=List.range n) fun _ _=>xm
 simpa [bz] using this
theorem gS {form:Int}:bz form rest (n+1)=bz form rest n++d8 form rest n:=by
 unfold bz;rw [List.range_succ,List.flatMap_append];simp
def okL (l:List Int):Prop:=∀ n∈l,0≤n∧n<256
theorem CM {form more:Int} (em:more=aX rest i):bz form rest i++cY form (if bZ rest=1 then ax rest else 4*(i:Int)) 0 (bi more) (aP (more/4)) (aP (more/16))=bz form rest (i+1):=by
 subst em;rw [gS];rfl
theorem F0:1+rest/3%2=(bZ rest:Nat):=by unfold bZ;lia
theorem pZ:bZ rest=1∨bZ rest=2:=by unfold bZ;lia
theorem zG:bZ rest≤2:=pZ.elim (fun e=>Nt (Nat.le_of_eq e) (by decide)) Nat.le_of_eq
theorem gT {form:Int} (h:i≤2):(bz form rest i).length≤104:=Nt jp (Nat.mul_le_mul_left 52 h)
theorem kT {form:Int}:(sqL (bz form rest 2)).length≤208:=Nt wY (Nat.mul_le_mul_left 2 (gT (Nr 2)))
theorem xl {form:Int} (h:bZ rest=1):ax rest=kj form rest i:=(if_pos h).symm
theorem xk {form:Int} (h:¬bZ rest=1):4*(i:Int)+(if form=1∧3<ax rest then ax rest-4 else 0)=kj form rest i:=(if_neg h).symm
theorem t8 {form:Int} (h:form=0):D.none=gR form rest i:=(if_pos h).symm
theorem t7 {form more:Int} (em:more=aX rest i) (h:¬form=0):D.int (if rest/5%2=1∧bZ rest=2 then 5 else bi more)=gR form rest i:=by subst em;exact (if_neg h).symm
theorem AP:∀ l,d9 rest=some l→l.length≤1000000:=by
 intro l e;unfold d9 at e
 split at e<;>cases e
 decide
theorem Ga {l:List Int} (h:l.length≤n) (hs:n≤1000000):∀ m,some (bR l)=some m→m.length≤1000000:=fun m e=>by
 cases e
 rw [bR,List.length_map];exact Nt h hs
theorem FY {form:Int} (h:bZ rest=1):D.tup [iL (bz form rest (bZ rest)),.int (ax rest),.int 0,.lst ((List.range (bZ rest)).map (cx form rest))]=.tup [iL (cM form rest),.int (ax rest),.int (de rest),.lst ((List.range (bZ rest)).map (cx form rest))]:=by
 rw [cM,de,if_pos h,if_pos h,h]
theorem FX {form:Int} (h:¬bZ rest=1):D.tup [iL (cY form (ax rest) (1+8*(rest/5%2)) 5 (d9 rest) (some (bR (sqL (bz form rest 2))))),.int (ax rest),.int 1,.lst ((List.range (bZ rest)).map (cx form rest))]=.tup [iL (cM form rest),.int (ax rest),.int (de rest),.lst ((List.range (bZ rest)).map (cx form rest))]:=by
 rw [cM,de,if_neg h,if_neg h]
section
variable {K:D→Own→Prop}
theorem xh {n:Int} (so:dE j7) (h:K (.int (ax n)) O):Op c (gv value j7) [.lst [.int 3,.int 20,.int 1099511627776],.int (n%3)] loc O K E:=by
 refine eH so (by lia) (by lia) (d:=.int (ax n)) ?_ h;unfold ax;have:n%3=0∨n%3=1∨n%3=2:=by lia
 rcases this with e|e|e<;>rw [e]<;>rfl
theorem AK {n:Int} (so:dE j7) (h:K (pD (d9 n)) O):Op c (gv value j7) [.lst [.none,.bytes [97]],.int (n/2%2)] loc O K E:=by
 refine eH so (by lia) (by lia) (d:=pD (d9 n)) ?_ h;unfold d9;have:n/2%2=0∨n/2%2=1:=by lia
 rcases this with e|e<;>rw [e]<;>rfl
theorem pW {form offset kind when:Int} (b:ah c.x) (r:Rm c.A 2) (hk:∀ l,key=some l→l.length≤1000000) (hv:∀ l,value=some l→l.length≤1000000) (k:K (iL (cY form offset kind when key value)) O) :
  Op c (fun vs=>call (.ref 1365) vs) [.int form,.int offset,.int kind,.int when,pD key,pD value] loc O K E:=bH (fun x' le=>Bq (b.le le) r hk hv) k
theorem vy {form offset kind when:Int} (b:ah c.x) (r:Rm c.A 2) (hk:∀ l,key=some l→l.length≤1000000) (hv:∀ m,some l=some m→m.length≤1000000) (k:K (iL (cY form offset kind when key (some l))) O) :
  Op c (fun vs=>call (.ref 1365) vs) [.int form,.int offset,.int kind,.int when,pD key,.bytes l] loc O K E:=pW (value:=some l) b r hk hv k
end
noncomputable abbrev Dc (form rest:Int) (a:Addr) (i:Nat):Loc:=[(S "body",iL (bz form rest i)),(S "form",.int form),(S "rest",.int rest),(S "base",.int (ax rest)),(S "count",.int (bZ rest)),(S "late",.int (rest/5%2)),(S "told",.stat (.ref a))]
theorem Nl {form:Int} (b:ah x) (r:Rm A 3) (hsq:okL (sqL (bz form rest 2))):bI x A (fun vs=>call (.ref 1372) vs) [.int form,.int rest] O
  (fun d O'=>d=.tup [iL (cM form rest),.int (ax rest),.int (de rest),.lst ((List.range (bZ rest)).map (cx form rest))]∧O'=O) E:=by
 refine dG (fd:=DU) (names:=[S "form",S "rest"]) (dx:=[]) b (fun P=>by kernel_rfl) (fun P=>by kernel_rfl) (by decide +kernel) r [] ?_ (fun _=>.nil) [(S "rest",.int rest),(S "form",.int form)] rfl fun L=>?_
 ·intro P St;exact aH fun _=>aH fun _=>bM (by kernel_rfl)
 have r':=r.deeper (callEnvC DU L 1372) (m:=2) (by decide);have r1:=r'.le (m:=1) (by decide);refine ad ?_;k_extra"ME";refine xh (fun _ _=>⟨_,rfl⟩) ?_;k_extra"ME";refine ad (bn rfl (cr (.int (bZ rest)) ?_ ?_))
 ·k_extra"MM";exact ⟨Cg D.int F0,rfl⟩
 k_extra"MM";refine gN ?_;k_extra"MM";refine gM fun a=>?_;k_extra"MM";refine uU (IO (fun i=>Ext (Dc form rest a i)) fun i=>(a,.list ((List.range i).map (cx form rest)))::O) r'.hh rfl ?_;k_extra"ME";refine kO fun t u v=>?_;refine mZ (Nt zG (by decide)) r'.hh (.cons (by k_extra"L":lk _ (S "body")=some (D.lst [])) (by k_extra"EX")) (fun i l x' hi X le=>?_) (fun l X=>?_)
 ·have b':ah x':=b.le le;have hi2:i≤2:=Nt (Nat.le_of_lt hi) zG;refine y9 (aX rest i) fun more em=>?_;k_extra"ME";refine ad (bn rfl (cr (.int more) ?_ ?_))
  ·k_extra"MM";refine fM (qb (Nt hi2 (by decide)) rfl) ?_;k_extra"MM";exact ⟨Cg D.int em.symm,rfl⟩
  k_extra"MM";refine vw b' r1 ?_;k_extra"MM";refine zI (fun _ _=>⟨_,rfl⟩) ?_;k_extra"MM";refine kP b' r1 ?_;k_extra"MM";refine kP b' r1 ?_;k_extra"ME";refine ad (bn rfl (cr (iL (bz form rest (i+1))) ?_ ?_))
  ·k_extra"MM";refine cr (.int (if bZ rest=1 then ax rest else 4*i)) ?_ ?_
   ·refine cu ?_;k_extra"MM";refine mf 1 (fun h=>?_) (fun h=>?_)
    ·k_extra"MM";exact ⟨Cg D.int (if_pos h).symm,rfl⟩
    ·k_extra"MM";exact fM (qb (Nt hi2 (by decide)) rfl) ⟨Cg D.int (if_neg h).symm,rfl⟩
   k_extra"MM";refine pW b' r' (fun l h=>Nt (aU l h) (by decide)) (fun l h=>Nt (aU l h) (by decide)) ?_;k_extra"MM";exact bg (gT hi2) (vP aU aU) rfl ⟨Cg iL (CM em),rfl⟩
  k_extra"ME";refine ad (bn rfl (cr (.int (kj form rest i)) ?_ ?_))
  ·refine cu ?_;k_extra"MM";refine mf 1 (fun h=>?_) (fun h=>?_)
   ·k_extra"MM";exact ⟨Cg D.int (xl h),rfl⟩
   ·k_extra"MM";refine fM (qb (Nt hi2 (by decide)) rfl) ?_;k_extra"MM";refine cr (.int (if form=1∧3<ax rest then ax rest-4 else 0)) ?_ ?_
    ·refine cu ?_;k_extra"MM";refine eW ?_ ?_<;>intro h1
     ·k_extra"MM";refine jM ?_ ?_<;>intro h2
      ·k_extra"MM";exact ⟨Cg D.int (if_pos ⟨h1,h2⟩).symm,rfl⟩
      ·k_extra"MM";exact ⟨Cg D.int (if_neg fun z=>h2 z.2).symm,rfl⟩
     ·k_extra"MM";exact ⟨Cg D.int (if_neg fun z=>h1 z.1).symm,rfl⟩
    k_extra"MM";exact ⟨Cg D.int (xk h),rfl⟩
  k_extra"MM";refine da (.head _) ?_;k_extra"MM";refine cr (gR form rest i) ?_ ?_
  ·refine cu ?_;k_extra"MM";refine eW ?_ ?_<;>intro h
   ·k_extra"MM";exact ⟨t8 h,rfl⟩
   ·refine cr (.int (if rest/5%2=1∧bZ rest=2 then 5 else bi more)) ?_ ⟨t7 em h,rfl⟩;refine cu ?_;k_extra"MM";refine eW ?_ ?_<;>intro h1
    ·k_extra"MM";refine mf 2 (fun h2=>?_) (fun h2=>?_)
     ·k_extra"MM";exact ⟨Cg D.int (if_pos ⟨h1,h2⟩).symm,rfl⟩
     ·k_extra"MM";exact ⟨Cg D.int (if_neg fun z=>h2 z.2).symm,rfl⟩
    ·k_extra"MM";exact ⟨Cg D.int (if_neg fun z=>h1 z.1).symm,rfl⟩
  k_extra"MM";refine gN ?_;k_extra"MM";refine cS .head (by rw [List.length_map,List.length_range,sizeLine_eq];exact Nat.le_trans hi2 (by decide)) ?_;k_extra"MM";exact ⟨by k_extra"EX",t3 (by subst em;rfl)⟩
 ·refine dW (eK (y:=S "told") (X.lk (by k_extra"L")) .head) ?_;k_extra"MM";refine mf 1 (fun h=>?_) (fun h=>?_)
  ·k_extra"MM";exact bT ⟨FY h,rfl⟩
  ·have X:Ext (Dc form rest a 2) l:=(pZ.resolve_left h)▸X;k_extra"MM";refine fM (CZ rfl rfl) ?_;k_extra"MM";refine AK (fun _ _=>⟨_,rfl⟩) ?_;k_extra"MM";refine bH (fun x' le=>qM (b.le le) r1 (Nt (gT (Nr 2)) (by decide))) ?_;k_extra"MM";refine jo hsq (by rw [sizeLine_eq];exact Nat.le_trans kT (by decide)) r'.hh ?_;k_extra"MM";refine vy b r' AP (Ga kT (by decide)) ?_;k_extra"MM";exact bT ⟨FX h,rfl⟩
end
section
theorem mS {k:Nat} {r:Int} (h:r<128):ci k r=[r]:=by
 cases k with
 |zero=>rfl
 |succ k=>unfold ci;rw [if_neg (by lia)]
theorem p9 {k:Nat} {r:Int} (h:128≤r):ci (k+1) r=(128+r%128)::ci k (r/128):=by
 conv=>lhs;unfold ci
 rw [if_pos h]
theorem uL (h:zig v%2=0):zig v/2=v:=by unfold zig at *;split at h<;>split<;>lia
theorem yP (h:zig v%2=1):-(zig v/2)-1=v:=by unfold zig at *;split at h<;>split<;>lia
def aq (l:List UInt8) (p:Nat) (ns:List Int):Prop:=∀ i n,ns[i]? = some n→l[p+i]? = some n.toNat.toUInt8∧0≤n∧n<256
theorem BP {n:Int} (h0:0≤n) (h1:n<256):((n.toNat.toUInt8).toNat:Int)=n:=by
 rw [Nat.toUInt8_eq,UInt8.toNat_ofNat',Nat.mod_eq_of_lt (by lia),Int.toNat_of_nonneg h0]
theorem aq.head {n:Int} {ns:List Int} (h:aq l p (n::ns)):p<l.length∧((l.getD p 0).toNat:Int)=n∧0≤n∧n<256:=by
 refine gB (h 0 n rfl) fun a b c=>?_;have hl:p<l.length:=(List.getElem?_eq_some_iff.mp a).1;refine ⟨hl,?_,b,c⟩;rw [List.getD_eq_getElem?_getD,show l[p]? = some n.toNat.toUInt8 from a];exact BP b c
theorem aq.tail {n:Int} {ns:List Int} (h:aq l p (n::ns)):aq l (p+1) ns:=fun i m e=>by
 have:=h (i+1) m (by simpa using e);rw [(by lia:p+1+i=p+(i+1))];exact this
theorem Ae {k:Nat} {P:Prop} [Decidable P] (h:k=0↔P):(((k:Nat):Int) != 0) = !decide P:=by
 by_cases q:P
 ·rw [h.mpr q];simp [q]
 ·have:k≠0:=fun z=>q (h.mp z);simp [q];lia
theorem ni {n:Int} (h0:0≤n) (h1:n<256):(Builtin.bitAnd n 129 != 0) = !decide (n<128∧n%2=0):=by
 obtain ⟨k,rfl⟩:=Int.eq_ofNat_of_zero_le h0;have hk:k<256:=by lia
 rw [show (129:Int)=((129:Nat):Int) from rfl,qR];exact Ae ((Lg ⟨k,hk⟩).trans ⟨fun h=>⟨Int.ofNat_lt.mpr h.1,Cg Nat.cast h.2⟩,fun h=>⟨Int.ofNat_lt.mp h.1,Int.ofNat.inj h.2⟩⟩)
theorem tF {n:Int} (h0:0≤n) (h1:n<256):(Builtin.bitAnd n 128 != 0) = !decide (n<128):=by
 obtain ⟨k,rfl⟩:=Int.eq_ofNat_of_zero_le h0;have hk:k<256:=by lia
 rw [show (128:Int)=((128:Nat):Int) from rfl,qR];refine Ae ((Lh ⟨k,hk⟩).trans ?_);refine (?_:k<128↔_);lia
theorem Cp (j:Nat):(2:Int)^(7*j)=128^j:=by
 rw [Int.pow_mul];rfl
theorem Lq:Builtin.bitXor (zig v/2) (-Builtin.bitAnd (zig v) 1)=v:=by
 rw [bitAnd_m1];have z0:=mC (v:=v);have:zig v%2=0∨zig v%2=1:=by lia
 rcases this with h|h
 ·rw [h,show (-(0:Int))=0 from rfl,bitXor_zero,uL h]
 ·rw [h,tB (by lia),yP h]
theorem C4 {z:Int} {j:Nat} (hz:0≤z):z%128^j+z/128^j%128*128^j=z%128^(j+1):=by
 obtain ⟨n,rfl⟩:=Int.eq_ofNat_of_zero_le hz;have h:=Nat.mod_mul (a:=128^j) (b:=128) (x:=n);have e:((128:Int)^j)=((128^j:Nat):Int):=by rw [Int.natCast_pow];rfl
 have e':((128:Int)^(j+1))=((128^j*128:Nat):Int):=by rw [Int.pow_succ,e];rfl
 rw [e',e];have h2:((n%(128^j*128):Nat):Int)=((n%128^j+128^j*(n/128^j%128):Nat):Int):=by rw [h]
 rw [← Int.natCast_emod,← Int.natCast_emod,← Int.natCast_ediv];rw [show (128:Int)=((128:Nat):Int) from rfl,← Int.natCast_emod,← Int.natCast_mul,← Int.natCast_add,h,Nat.mul_comm (128^j)]
theorem Pf {z y:Int} {j:Nat} (hz:0≤z) (hy:0≤y):Builtin.bitOr (z%128^j) (y*2^(7*j))=z%128^j+y*128^j:=by
 obtain ⟨yn,rfl⟩:=Int.eq_ofNat_of_zero_le hy;have hp:(0:Int)<128^j:=Int.pow_pos (by decide);have h0:0≤z%128^j:=Int.emod_nonneg _ (Int.ne_of_gt hp);have h1:z%128^j<128^j:=Int.emod_lt_of_pos _ hp;obtain ⟨k,hk⟩:=Int.eq_ofNat_of_zero_le h0;rw [hk] at h1 ⊢
 have hlt:k<2^(7*j):=by
  rw [← Cp] at h1;have:((2^(7*j):Nat):Int)=2^(7*j):=by rw [Int.natCast_pow];rfl
  rw [← this] at h1;exact Int.ofNat_lt.mp h1
 rw [wy hlt,Cp]
theorem EU {n:Int} (h0:0≤n) (h:n<128) (e:n%2=0):(Builtin.bitAnd n 129 != 0)=false:=by rw [ni h0 (by lia)];simp [h,e]
theorem EV {n:Int} (h0:0≤n) (h1:n<256) (h:¬n%2=0):(Builtin.bitAnd n 129 != 0)=true:=by rw [ni h0 h1];simp [h]
theorem wI {n:Int} (h0:0≤n) (h:n<128):(Builtin.bitAnd n 128 != 0)=false:=by rw [tF h0 (by lia)];simp [h]
theorem BF {z:Int}:(Builtin.bitAnd (128+z%128) 129 != 0)=true:=by rw [ni (by lia) (by lia)];simp;lia
theorem tE {z:Int}:(Builtin.bitAnd (128+z%128) 128 != 0)=true:=by rw [tF (by lia) (by lia)];simp;lia
theorem Jb {z:Int}:Builtin.bitAnd (128+z%128) 127=z%128:=by rw [bitAnd_m7];lia
theorem LZ {z:Int} (h0:0≤z) (h:z<128):Builtin.bitAnd z 127=z:=by rw [bitAnd_m7];lia
theorem Li {z:Int} (h0:0≤z) (h:z<128):z.natAbs<2^64:=by lia
theorem HM {z:Int}:(z%128).natAbs<2^64:=by lia
theorem L0 {z:Int} (h:z<128):z<256:=by lia
theorem E5 (h:¬zig v%2=0):Builtin.bitXor (zig v/2) (Builtin.bitNot 0)=v:=by
 have z0:=mC (v:=v);rw [(by decide:(Builtin.bitNot 0:Int) = -1),tB (by lia),yP (by lia)]
theorem vL (h:zig v<128):aR v=[zig v]:=mS h
theorem rZ (h:128≤zig v):aR v=(128+zig v%128)::ci 8 (zig v/128):=p9 h
theorem z8 (h:zig v<128):(p:Int)+1=((p+(aR v).length:Nat):Int):=by rw [vL h];rfl
theorem PR {j:Nat} {r:Int} (hb:128≤zig v) (h:r<128) (e:j+(ci (9-j) r).length=1+(ci 8 (zig v/128)).length):((p+j:Nat):Int)+1=((p+(aR v).length:Nat):Int):=by
 rw [mS h] at e;rw [rZ hb,List.length_cons];simp at e ⊢;lia
theorem H0 {j:Nat} {r:Int} (hj:j+1≤8) (hb:128≤r):ci (9-j) r=(128+r%128)::ci (9-(j+1)) (r/128):=by
 rw [((Nat.sub_add_cancel (Nat.le_sub_of_add_le (Nat.le_trans (Nat.le_of_eq (Nat.add_comm 1 j)) (Nat.le_succ_of_le hj)))).symm:9-j=9-(j+1)+1)];exact p9 hb
theorem wl {z:Int} {j:Nat}:z/128^j/128=z/128^(j+1):=by
 rw [Int.pow_succ,Int.ediv_ediv_of_nonneg (Int.le_of_lt (Int.pow_pos (by decide)))]
theorem J8 {z:Int} {j:Nat} (z0:0≤z) (h:0≤z/128^j):Builtin.bitOr (z%128^j) (z/128^j*2^(7*j))=z:=by
 rw [Pf z0 h,Int.mul_comm (z/128^j)];exact Int.emod_add_mul_ediv z (128^j)
theorem FH {z:Int} {j:Nat} (z0:0≤z):Builtin.bitOr (z%128^j) (z/128^j%128*2^(7*j))=z%128^(j+1):=by
 rw [Pf z0 (by lia)];exact C4 z0
theorem Fo {z:Int} {j:Nat} (z1:z<2^63) (j9:j≤9) (hb:128≤z/128^j):j+1≤8:=by
 by_cases h:j+1≤8
 ·exact h
 ·have hq:128*128^j≤z:=(Int.le_ediv_iff_mul_le (c:=128^j) (Int.pow_pos (by decide))).mp hb;have:j=8∨j=9:=by lia
  rcases this with rfl|rfl<;>lia
theorem NH {j:Nat} (h:j+1≤8):decide ((64:Int)≤((7*(j+1):Nat):Int))=false:=by simp;lia
theorem CX {j:Nat} (h:n+j=10) (hj:j+1≤8):n-1<n∧n-1+(j+1)=10:=by
 cases n with
 |zero=>lia
 |succ n=>exact ⟨Nat.lt_succ_self n,(Nat.succ_add_eq_add_succ n j).symm.trans h⟩
theorem HT {j:Nat} (h:j≤9):7*j≤1000000:=by lia
section
variable {K:D→Own→Prop}
theorem gh {n:Int} {ns:List Int} (so:dE j7) (hz:l.length≤16777216) (h:aq l p (n::ns)) (k:K (.int n) O):Op c (gv value j7) [.barr l,.int (p:Nat)] loc O K E:=by
 refine vD so (by lia) (by lia) (by have:=h.head.1;lia) ?_;rw [show ((p:Int)).toNat=p from rfl,h.head.2.1];exact k
theorem zz {i i':Int} {k:Nat} (e:i=i') (hi:i'.natAbs<2^64) (hk:k≤1000000) (h:K (.int (i'*2^k)) O):Op c (fun vs=>binaryOp .LShift (vs.headD .none) (vs.tail.headD .none)) [.int i,.int (k:Nat)] loc O K E:=by
 rw [e];exact Ka (by lia) (by lia) hi h
theorem zA {i j r:Int} (e:Builtin.bitOr i j=r) (h:K (.int r) O):Op c (fun vs=>inplaceOp .BitOr (vs.headD .none) (vs.tail.headD .none)) [.int i,.int j] loc O K E:=Kd (e▸h)
theorem CD {i j r:Int} (e:Builtin.bitAnd i j=r) (h:K (.int r) O):Op c (fun vs=>inplaceOp .BitAnd (vs.headD .none) (vs.tail.headD .none)) [.int i,.int j] loc O K E:=FQ (e▸h)
end
noncomputable abbrev Db (l:List UInt8) (p:Nat) (v:Int) (j:Nat):Loc:=[(S "buffer",.barr l),(S "pos",.int ((p+j:Nat):Int)),(S "result",.int (zig v%128^j)),(S "shift",.int (7*j:Nat))]
structure HN (l:List UInt8) (p:Nat) (v:Int) (O:Own) (j:Nat) (l':Loc) (O':Own):Prop where
 j9:j≤9
 x:Ext (Db l p v j) l'
 o:O'=O
 laid:aq l (p+j) (ci (9-j) (zig v/128^j))
 len:j+(ci (9-j) (zig v/128^j)).length=1+(ci 8 (zig v/128)).length
theorem HN.next {l p v O O' j l' l''} (V:HN l p v O j l' O') (hj:j+1≤8) (hb:128≤zig v/128^j) (hl:aq l (p+j) ((128+zig v/128^j%128)::ci (9-(j+1)) (zig v/128^j/128))) (x:Ext (Db l p v (j+1)) l''):HN l p v O (j+1) l'' O' :=
 ⟨Nt hj (by decide),x,V.o,wl (z:=zig v) (j:=j)▸hl.tail,by
  have e:=V.len;rw [H0 hj hb,List.length_cons,wl] at e;lia⟩
abbrev Kx (l:List UInt8) (p:Nat) (v:Int) (O:Own):Nat→Loc→Own→Prop:=fun n l' O'=>∃ j:Nat,n+j=10∧HN l p v O j l' O'
theorem Ey (b:ah x) (r:Rm A 1) (h0:-2^62≤v) (h1:v<2^62) (hz:l.length≤16777216) (hl:aq l p (aR v)) :
  bI x A (fun vs=>call (.ref 385) vs) [.barr l,.int p] O (fun d O'=>d=.tup [.int v,.int ((p+(aR v).length:Nat):Int)]∧O'=O) E:=by
 have z0:=mC (v:=v);have z1:=tH h0 h1;refine dG (fd:=M7) (names:=[S "buffer",S "pos"]) (dx:=[]) b (fun P=>by kernel_rfl) (fun P=>by kernel_rfl) (by decide +kernel) r [] ?_ (fun _=>.nil) [(S "pos",.int p),(S "buffer",.barr l)] rfl fun L=>?_
 ·intro P St;exact aH fun _=>aH fun _=>bM (by kernel_rfl)
 refine ad ?_;k_extra"MM"
 by_cases hs:zig v<128
 ·refine gh (fun _ _=>⟨_,rfl⟩) hz (vL hs▸hl) ?_;k_extra"MM"
  by_cases hp:zig v%2=0
  ·refine xE (EU z0 hs hp) ?_;k_extra"MM";exact bT ⟨tL (uL hp) (z8 hs),rfl⟩
  ·refine uf (EV z0 (L0 hs) hp) ?_;k_extra"MM";refine xE (wI z0 hs) ?_;k_extra"MM";exact bT ⟨tL (E5 hp) (z8 hs),rfl⟩
 ·have hb0:=Int.not_lt.mp hs;have hl0:aq l p ((128+zig v%128)::ci 8 (zig v/128)):=rZ hb0▸hl;refine gh (fun _ _=>⟨_,rfl⟩) hz hl0 ?_;k_extra"MM";refine uf BF ?_;k_extra"MM";refine uf tE ?_;k_extra"MM";refine CD Jb ?_;k_extra"MM";refine e7 (r:=((p+1:Nat):Int)) rfl ?_;k_extra"MM";refine mi (Kx l p v O) 9 ?_ ?_
  ·exact ⟨1,rfl,by decide,.cons (by k_extra"L") (.cons (by k_extra"L") (.cons (by k_extra"L":lk _ (S "result")=some (D.int (zig v%128))) (.cons (by k_extra"L":lk _ (S "shift")=some (D.int 7)) .nil))),rfl,hl0.tail,rfl⟩
  ·intro n l' O' h;refine al h fun j hn V=>?_;have X:=V.x;k_extra"MM";refine xD ?_;k_extra"MM";have hr0:0≤zig v/128^j:=Int.ediv_nonneg z0 (Int.le_of_lt (Int.pow_pos (by decide)))
   by_cases hb:zig v/128^j<128
   ·refine gh (fun _ _=>⟨_,rfl⟩) hz (mS hb▸V.laid) ?_;k_extra"MM";refine zz (LZ hr0 hb) (Li hr0 hb) (HT V.j9) ?_;k_extra"MM";refine zA (J8 z0 hr0) ?_;k_extra"MM";refine d0 ?_;k_extra"MM";refine xE (wI hr0 hb) ?_;k_extra"MM";exact bT ⟨tL Lq (PR hb0 hb V.len),V.o⟩
   ·have hb:=Int.not_lt.mp hb;have hj:=Fo z1 V.j9 hb;have hl':=H0 hj hb▸V.laid;refine gh (fun _ _=>⟨_,rfl⟩) hz hl' ?_;k_extra"MM";refine zz Jb HM (HT V.j9) ?_;k_extra"MM";refine zA (FH z0) ?_;k_extra"MM";refine e7 (r:=((p+(j+1):Nat):Int)) rfl ?_;k_extra"MM";refine uf tE ?_;k_extra"MM";refine e7 (r:=((7*(j+1):Nat):Int)) rfl ?_;k_extra"MM";refine ite_no (NH hj) ?_;k_extra"MM";exact ⟨n-1,(CX hn hj).1,j+1,(CX hn hj).2,V.next hj hb hl' (by k_extra"EX")⟩
end
section
open PySem.Builtin
theorem qj:typeLookup (.type "bytes") "__bytes__"=pure (some (.builtin "bytes.__bytes__")):=by rw [typeLookup_type,builtinLookup_eq_fast];kernel_rfl
theorem vU:typeLookup (.type "bytearray") "__bytes__"=pure none:=by rw [typeLookup_type,builtinLookup_eq_fast];kernel_rfl
theorem vT:typeLookup (.type "bytearray") "__index__"=pure none:=by rw [typeLookup_type,builtinLookup_eq_fast];kernel_rfl
theorem pd {l:Array UInt8} (hQ:Q (.bytes l t) s) :
  codeAny (model prog w) A (.call (.builtin "bytes.__new__") ⟨[.type "bytes",.bytes l t],[]⟩) (wants Q E) s:=by
 refine codeAny_of_tree ?_;refine (?_:wpAny _ A.in1 (do checkBuiltinCall "bytes.__new__" ⟨[.type "bytes",.bytes l t],[]⟩;again (.builtin "bytes.__new__" ⟨[.type "bytes",.bytes l t],[]⟩)) _ _ s);refine Wb (Wq (F.bm_newCall _) (Wp ⟨plainId_quiet F.bm_plain _,codeAny_builtin F.bm_entry ?_⟩));rw [Around.under_plainId F.bm_plain _];have hT:s.TypeIs (.bytes l t) "bytes":=typeIs_bytes _ _ _;have f1:=F.bm_sub;have f2:=F.bm_bind (.bytes l t);have f3:=qj;obtain ⟨hp,g,d,tk,os⟩:=s;skip
 repeat (any_goals (first|assumption|k_extra"S"))
theorem nZ {l:Array UInt8} (hQ:Q (.bytes l t) s):wpAny (model prog w) A (call (.type "bytes") [.bytes l t]) Q E s:=by
 refine callType_codes (Q₁:=fun obj sA=>sA.TypeIs obj "bytes"∧Q obj sA) F.bm_called (F.bm_typeCall _) F.entry_object_init (pd ⟨typeIs_bytes _ _ _,hQ⟩) fun obj sA h_1=>?_;exact ⟨h_1.1,F.args_object_init_2 obj _,object_init_meets F.bm_called.init.lookup F.bm_called.made (by decide) prog w A.in1 _ sA ⟨h_1.1,rfl,h_1.2⟩⟩
theorem Le {id:String} {Q:Option (Array UInt8)→Shared→Prop} (ho:s.heap.get? a=some (baO l n)) (h:Q (some l.toArray) s):wpAny (model prog w) A (Bytes.buffer? id (.ref a) full) Q E s:=by
 have hT:s.TypeIs (.ref a) "bytearray":=⟨_,ho,rfl⟩;have f1:=PJ.lookup;have f2:=gy;have hp:∀ {Q':Array UInt8→Shared→Prop} {E'},Q' l.toArray s→wpAny (model prog w) A (Bytes.payload (.ref a)) Q' E' s:=fun hq=>eR ho hq;have ho1:∀ {Q':Bool→Shared→Prop} {E'},Q' true s→wpAny (model prog w) A (Bytes.slotIsOwn (.ref a) "__buffer__") Q' E' s:=fun hq=>tZ hT PJ.lookup (by decide +kernel) (by decide +kernel) hq;have ho2:∀ {Q':Bool→Shared→Prop} {E'},Q' false s→wpAny (model prog w) A (Bytes.ownRelease (.ref a)) Q' E' s:=fun hq=>jF ho hq;skip
 repeat (any_goals (first|assumption|(with_reducible refine hp ?_)|(with_reducible refine ho1 ?_)|(with_reducible refine ho2 ?_)|k_extra"S"))
theorem uz (ho:s.heap.get? a=some (baO l n)) (hz:l.length≤16777216) (hQ:∀ t k,Q (.bytes l.toArray t) {s with toks:=k}) :
  codeAny (model prog w) A (.call (.builtin "bytes.__new__") ⟨[.type "bytes",.ref a],[]⟩) (wants Q E) s:=by
 refine codeAny_of_tree ?_;refine (?_:wpAny _ A.in1 (do checkBuiltinCall "bytes.__new__" ⟨[.type "bytes",.ref a],[]⟩;again (.builtin "bytes.__new__" ⟨[.type "bytes",.ref a],[]⟩)) _ _ s);refine Wb (Wq (F.bm_newCall _) (Wp ⟨plainId_quiet F.bm_plain _,codeAny_builtin F.bm_entry ?_⟩));rw [Around.under_plainId F.bm_plain _];have hT:s.TypeIs (.ref a) "bytearray":=⟨_,ho,rfl⟩;have f1:=F.bm_sub;have f2:=F.bm_bind (.ref a);have f3:=vU;have f4:=vT;have hb:∀ {Q':Option (Array UInt8)→Shared→Prop} {E'},Q' (some l.toArray) s→wpAny (model prog w) A.in1 (Bytes.buffer? "bytes.__new__" (.ref a) true) Q' E' s:=fun hq=>Le ho hq
 have hs:∀ {Q':Option Str→Shared→Prop} {E'},Q' .none s→wpAny (model prog w) A.in1 (asStr? (.ref a)) Q' E' s:=fun hq=>by
  skip;refine Wb (wpAny_load ho ?_);exact Wp hq
 skip
 repeat (any_goals (first|assumption|(with_reducible refine hb ?_)|(with_reducible refine hs ?_)|k_extra"S"))
 rw [if_neg (by rw [sizeLine_eq,List.size_toArray];lia)];refine Wb (wpAny_fresh (Wp ?_));have hq:=hQ s.toks (s.toks+1)
 repeat (any_goals (first|assumption|k_extra"S"))
theorem ww (ho:s.heap.get? a=some (baO l n)) (hz:l.length≤16777216) (hQ:∀ t k,Q (.bytes l.toArray t) {s with toks:=k}):wpAny (model prog w) A (call (.type "bytes") [.ref a]) Q E s:=by
 refine callType_codes (Q₁:=fun obj sA=>sA.TypeIs obj "bytes"∧Q obj sA) F.bm_called (F.bm_typeCall _) F.entry_object_init (uz ho hz fun t k=>⟨typeIs_bytes _ _ _,hQ t k⟩) fun obj sA h_1=>?_;exact ⟨h_1.1,F.args_object_init_2 obj _,object_init_meets F.bm_called.init.lookup F.bm_called.made (by decide) prog w A.in1 _ sA ⟨h_1.1,rfl,h_1.2⟩⟩
theorem pY (h:K' (.bytes l) O):Op c (fun vs=>call (.type "bytes") vs) [.bytes l] loc O K' E:=fun H s Q vs R rs q=>by
 refine cG rs fun v r1=>?_
 cases r1 using ac.cBytes
 exact nZ (q _ _ _ _ _ h R (Pr _) (.bytes _ _))
theorem gi (hz:l.length≤16777216) (h:K' (.bytes l) O):Op c (fun vs=>call (.type "bytes") vs) [.barr l] loc O K' E:=fun H s Q vs R rs q=>by
 refine cG rs fun v r1=>?_;refine bj (mw R.t.hH r1) fun aa n q1 ea=>?_;obtain rfl:=q1;exact ww ea hz fun t k=>q _ _ _ _ _ h (R.tok _) (Pr _) (.bytes _ _)
theorem PH {i:Int} (h:K' (.bool (i != 0)) O):Op c (fun vs=>call (.type "bool") vs) [.int i] loc O K' E:=fun H s Q vs R rs q=>by
 refine cG rs fun v r1=>?_
 cases r1 using ac.cInt
 exact call_bool_int (q _ _ _ _ _ h R (Pr _) (.bool _))
theorem vC (h:K' (.int (if b then 1 else 0)) O):Op c (fun vs=>call (.type "int") vs) [.bool b] loc O K' E:=fun H s Q vs R rs q=>by
 refine cG rs fun v r1=>?_
 cases r1 using ac.cBool
 exact call_int_bool (q _ _ _ _ _ h (R.tok _) (Pr _) (.int _ _))
theorem AM {p:Option (List UInt8)} (B:ah c.x) (h:K' (.bool false) O):Op c (fun vs=>call (.builtin "isinstance") vs) [pD p,.stat (.type "bytearray")] loc O K' E:=fun H s Q vs R rs q=>by
 refine ay rs fun v u r1 r2=>?_
 cases r2 using ac.cStat
 cases p with
 |none =>
  cases r1 using ac.cNone
  exact kia_one kitx_none (B.X R.t) trivial (b:=false) (by kernel_rfl) (by intro e;cases e) fun tk=>q _ _ _ _ _ h (R.tok _) (Pr _) (.bool _)
 |some l =>
  cases r1 using ac.cBytes
  exact kia_one kitx_bytes (B.X R.t) trivial (b:=false) (by kernel_rfl) (by intro e;cases e) fun tk=>q _ _ _ _ _ h (R.tok _) (Pr _) (.bool _)
noncomputable def zR (K:Frag) (D C:Addr) (b:Bool):Bool:=plainGet K D "__class__"&&hasDictIn K D&&findIn K (.ref D) "__class__"==some (some (.builtin "object.__class__"))&&specialIn K (.builtin "object.__class__") "__get__"==some (some (.builtin "getset_descriptor.__get__")) &&
 takesIn K (.builtin "object.__class__")==some true&&mroIn K D (.type "object")==some true&&kitOne K (.ref D) (.ref C)==some b
theorem xi {x D' dx C:Addr} (B:ah c.x) (m1:(x,SO.inst D' dx)∈O) (m2:(dx,SO.attrs fs)∈O) (ok:∀ P,zR (K P) D' C b=true) (h:K' (.bool b) O):Op c (fun vs=>call (.builtin "isinstance") vs) [.stat (.ref x),.stat (.ref C)] loc O K' E:=fun H s Q vs R rs q=>by
 refine ay rs fun v u r1 r2=>?_
 cases r1 using ac.cStat;cases r2 using ac.cStat
 refine bj (fA R m1 m2) fun es n I at'=>?_;have o:=ok c.x.w.params;unfold zR at o;simp only [Bool.and_eq_true,beq_iff_eq] at o;obtain ⟨⟨⟨⟨⟨⟨o1,o2⟩,o3⟩,o4⟩,o5⟩,o6⟩,o7⟩:=o;exact kia_one (kitx_own o1 o2 o3 o4 o5 o6) (B.X R.t) I o7 (by intro e;cases e) fun tk=>q _ _ _ _ _ h (R.tok _) (Pr _) (.bool _)
end
section
open PySem.Builtin
theorem jg:Slot "bytearray" "decode" "bytearray.decode":=
 .of (owner:="bytearray") (n:="decode") (by rw [typeLookup_type,builtinLookup_eq_fast];kernel_rfl) (by decide +kernel) (by decide +kernel) (by decide +kernel)
  (.inr (by decide +kernel)) (by rw [isSubtype_type];kernel_rfl)
theorem n9:entryFor table "bytearray.decode"=some Builtin.«bytearray.decode»:=entryFor_of_tree (by kernel_rfl)
theorem qV (a b:Value):argsOk "bytearray.decode" ⟨[a,b],[]⟩:=by skip;kernel_rfl
theorem pF:typeOf (.builtin "bytearray.decode")=pure (.type "method_descriptor"):=by refine (?_:builtinType _=_);rw [builtinType_eq_fast];kernel_rfl
theorem rh:PlainAttrs "bytearray":=⟨⟨"bytearray.__getattribute__",by rw [typeLookup_type,builtinLookup_eq_fast];kernel_rfl,by decide +kernel⟩,by rw [typeLookup_type,builtinLookup_eq_fast];kernel_rfl⟩
theorem Em (i:String) (v:Value):Bytes.bindOptional i "decode" ["encoding","errors"] [v] []=pure [some v,none]:=by kernel_rfl
theorem Bg (i:String) (t:Tok):Bytes.checkCodecArg i "decode" "encoding" (some (.str (S "utf-8") t))=pure ():=by kernel_rfl
theorem Ek (i:String) (l:List UInt8) (held:List Value):_codecs.decodeRoad i l.toArray (Str.ofString "utf-8") none held=(_codecs.runDecoder i _codecs.utf8Decoder none true l.toArray 0 held>>=fun r=>mkStr ⟨r.1⟩):=by kernel_rfl
theorem Ej {k:Nat} {x:Str} (ho:s.heap.get? a=some (baO l n)) (hd:∀ i held,_codecs.runDecoder i _codecs.utf8Decoder none true l.toArray 0 held=pure (x.cps,k)) (hx:x.length≤100) (hQ:Q (.str x s.toks) {s with toks:=s.toks+1}) :
  wpAny (model prog w) A (call (.builtin "_codecs.decode.text") [.ref a,.str (Str.ofString "utf-8") t1,.none,.str (Str.ofString "bytearray.decode") t2]) Q E s:=by
 refine Calls.call_function_entry KBd.kind_text KBd.plain_text KBd.entry_text (KBd.args_text _ _ _ _) ?_;refine Wb (m:=Bytes.bytesLike "bytearray.decode" (.ref a)) (uA ho ?_);refine Wb ?_;refine Wb (uA ho (Wp ?_));refine Wb (m:=_codecs.decodeRoad _ _ _ _ _) ?_;rw [Ek];refine Wb (Wq (hd _ _) ?_);exact wpAny_mkStr (Wp ⟨_,rfl,hQ⟩) (Nt hx (by decide))
theorem En {k:Nat} {x:Str} (ho:s.heap.get? a=some (baO l n)) (hd:l.toArray.isEmpty=false→∀ i held,_codecs.runDecoder i _codecs.utf8Decoder none true l.toArray 0 held=pure (x.cps,k)) (hl:l.toArray.isEmpty=true→S ""=x) (hx:x.length≤100) (hQ:∀ t k,Q (.str x t) {s with toks:=k}) :
  wpAny (model prog w) A (call (.builtin "bytearray.decode") [.ref a,.str (S "utf-8") t]) Q E s:=by
 have hT:s.TypeIs (.ref a) "bytearray":=⟨_,ho,rfl⟩;refine wpAny_call_entry jg hT n9 ?_ (qV _ _);refine Wb (m:=Bytes.bindOptional _ _ _ _ _) (Wq (Em _ _) ?_);refine Wb (m:=Bytes.checkCodecArg _ _ _ _) (Wq (Bg _ t) ?_);refine Wb (m:=Bytes.checkCodecArg _ _ _ _) (Wq (a:=()) rfl ?_);refine wpAny_ite_true (by decide +kernel) ?_;refine Wb (m:=Bytes.ownRelease _) (jF ho (wpAny_ite_false rfl ?_));refine Wb (wpAny_specialOf hT PJ.lookup ?_);refine Wb (m:=Bytes.slotIsOwn _ _) (tZ hT PJ.lookup (by decide +kernel) (by decide +kernel) (wpAny_ite_false rfl ?_));refine Wb (m:=Bytes.payload _) (eR ho ?_)
 cases he:l.toArray.isEmpty with
 |true =>
  refine wpAny_ite_true rfl (Wb (wpAny_rule ?_));refine Wb (wpAny_mkStr (Wp ⟨_,rfl,?_⟩) (by decide));rw [← hl he] at hQ;exact hQ _ _
 |false =>
  refine wpAny_ite_false rfl ?_;refine Wb (wpAny_mkStr ?_ (by decide));refine Wb (Wb (Wq (a:=some (S "utf-8")) rfl (wpAny_mkStr ?_ (by decide))));refine Wb (Wp ?_);refine Wb (wpAny_mkStr ?_ (by decide +kernel));refine Wb (Ej (s:={s with toks:=s.toks+1+1+1}) ho (hd he) hx ?_);exact Wp ⟨_,rfl,hQ _ _⟩
theorem AY (h:KM (.builtin "bytearray.decode") [.barr l] O):Mine.GM c "decode" (.barr l) loc O KM E:=fun pl H s Q v R rd q=>by
 refine bj (mw R.t.hH rd) fun aa n q1 ea=>?_;obtain rfl:=q1;exact getMethod_builtin ⟨_,ea,rfl⟩ rh jg pF (fun a' e=>by cases e;exact ⟨_,ea,rfl⟩) (q _ _ _ _ _ _ h R (Pr _) (.one rd))
theorem LG (i:String) (held:List Value):_codecs.runDecoder i _codecs.utf8Decoder none true [195,169].toArray 0 held=pure ((S "é").cps,2):=by kernel_rfl
theorem vF (h:K' (.str (S "é")) O):Op c (fun vs=>call (.builtin "bytearray.decode") vs) [.barr [195,169],.str (S "utf-8")] loc O K' E:=fun H s Q vs R rs q=>by
 refine ay rs fun v u r1 r2=>?_;refine bj (mw R.t.hH r1) fun aa n q2 ea=>?_;obtain rfl:=q2
 cases r2 using ac.cStr
 exact En ea (fun _=>LG) (fun h=>Bool.noConfusion h) (by decide) fun t k=>q _ _ _ _ _ h (R.tok _) (Pr _) (.str _ _)
theorem vG (h:K' (.str (S "")) O):Op c (fun vs=>call (.builtin "bytearray.decode") vs) [.barr [],.str (S "utf-8")] loc O K' E:=fun H s Q vs R rs q=>by
 refine ay rs fun v u r1 r2=>?_;refine bj (mw R.t.hH r1) fun aa n q3 ea=>?_;obtain rfl:=q3
 cases r2 using ac.cStr
 exact En (k:=0) ea (fun h=>Bool.noConfusion h) (fun _=>rfl) (by decide) fun t k=>q _ _ _ _ _ h (R.tok _) (Pr _) (.str _ _)
end
section
open PySem.Builtin
theorem jY {K:D→Own→Prop} (h:K .none O):pf (Fin K) .next O:=He h
noncomputable abbrev oI:Option Int→D
 |.none=>.none
 |some n=>.int n
theorem mX {p:Option Int}:gn (oI p)=true:=by cases p<;>rfl
theorem Ni {f g:Struct.Format} (h:f.bigEndian=g.bigEndian):aO f=aO g:=by funext a b c;unfold aO;rw [h]
theorem fJ {p:Option (List UInt8)}:gn (pD p)=true:=by cases p<;>rfl
theorem Rm.in1 (r:Rm A n):Rm A.in1 n:=⟨r.hh,r.dp⟩
class cw (f:Addr) (fd:outParam FuncData) (name:outParam Str):Prop where
 at':∀ P,A4 P f=some (.func fd)
 code:∀ P,codeIn (K P) fd.code fd.qualname=true
 ok:qv fd [S "self"]=true
 bind:∀ P St v,peek (K P) St (bindArgs fd ⟨[v],[]⟩)=some [(S "self",v)]
 body:∃ p1 p2 p3,aB fd=[.Return (some (.Attribute (.Name (S "self") p1) name p2)) p3]
 env:qw fd=true
 kind:fd.scope.names.lookup (S "self")=some .local
instance:cw 459 M6 (S "_offset"):=⟨fun P=>by kernel_rfl,fun P=>by kernel_rfl,by decide +kernel,fun P St v=>by kernel_rfl,⟨_,_,_,rfl⟩,by kernel_rfl,by kernel_rfl⟩
instance:cw 491 M2 (S "_magic"):=⟨fun P=>by kernel_rfl,fun P=>by kernel_rfl,by decide +kernel,fun P St v=>by kernel_rfl,⟨_,_,_,rfl⟩,by kernel_rfl,by kernel_rfl⟩
instance:cw 575 MX (S "_offset"):=⟨fun P=>by kernel_rfl,fun P=>by kernel_rfl,by decide +kernel,fun P St v=>by kernel_rfl,⟨_,_,_,rfl⟩,by kernel_rfl,by kernel_rfl⟩
instance:cw 583 MW (S "_timestamp"):=⟨fun P=>by kernel_rfl,fun P=>by kernel_rfl,by decide +kernel,fun P St v=>by kernel_rfl,⟨_,_,_,rfl⟩,by kernel_rfl,by kernel_rfl⟩
instance:cw 599 MV (S "_key"):=⟨fun P=>by kernel_rfl,fun P=>by kernel_rfl,by decide +kernel,fun P St v=>by kernel_rfl,⟨_,_,_,rfl⟩,by kernel_rfl,by kernel_rfl⟩
instance:cw 607 MU (S "_value"):=⟨fun P=>by kernel_rfl,fun P=>by kernel_rfl,by decide +kernel,fun P St v=>by kernel_rfl,⟨_,_,_,rfl⟩,by kernel_rfl,by kernel_rfl⟩
instance:cw 1100 K3 (S "_offset"):=⟨fun P=>by kernel_rfl,fun P=>by kernel_rfl,by decide +kernel,fun P St v=>by kernel_rfl,⟨_,_,_,rfl⟩,by kernel_rfl,by kernel_rfl⟩
instance:cw 1108 K2 (S "_timestamp"):=⟨fun P=>by kernel_rfl,fun P=>by kernel_rfl,by decide +kernel,fun P St v=>by kernel_rfl,⟨_,_,_,rfl⟩,by kernel_rfl,by kernel_rfl⟩
instance:cw 1124 K1 (S "_key"):=⟨fun P=>by kernel_rfl,fun P=>by kernel_rfl,by decide +kernel,fun P St v=>by kernel_rfl,⟨_,_,_,rfl⟩,by kernel_rfl,by kernel_rfl⟩
instance:cw 1132 K0 (S "_value"):=⟨fun P=>by kernel_rfl,fun P=>by kernel_rfl,by decide +kernel,fun P St v=>by kernel_rfl,⟨_,_,_,rfl⟩,by kernel_rfl,by kernel_rfl⟩
instance:cw 1140 KZ (S "_headers"):=⟨fun P=>by kernel_rfl,fun P=>by kernel_rfl,by decide +kernel,fun P St v=>by kernel_rfl,⟨_,_,_,rfl⟩,by kernel_rfl,by kernel_rfl⟩
instance:cw 1192 KY (S "_version"):=⟨fun P=>by kernel_rfl,fun P=>by kernel_rfl,by decide +kernel,fun P St v=>by kernel_rfl,⟨_,_,_,rfl⟩,by kernel_rfl,by kernel_rfl⟩
theorem yt {C dx p f:Addr} (b:ah x) (r:Rm A 1) [sp:cw f fd name] [cb:Pk C] [ok:aQ C name]
  (m1:(p,SO.inst C dx)∈O) (m2:(dx,SO.attrs fs)∈O) (e:lk fs name=some d) (hd:gn d=true):au x A (.ref f) [.stat (.ref p)] O (fun d' O'=>d'=d∧O'=O) E:=by
 refine aJ (fd:=fd) (names:=[S "self"]) (dx:=[]) b sp.at' sp.code sp.ok r [] ?_ (fun _=>.nil) [(S "self",.stat (.ref p))] rfl fun L=>?_
 ·intro P St;exact aH fun v=>bM (sp.bind P St v)
 obtain ⟨p1,p2,p3,e'⟩:=sp.body;rw [e'];refine ad (uk (uo ?_));refine fT bv (PK sp.env) sp.kind ?_ rfl;refine jI b m1 m2 e hd ?_;exact bT ⟨rfl,rfl⟩
theorem CE {x C dx f:Addr} (b:ah c.x) (m1:(x,SO.inst C dx)∈O) (m2:(dx,SO.attrs fs)∈O) [cb:Pk C] [ok:be C name f] [sp:cw f fd name'] [ok':aQ C name'] (r:Rm c.A (n+1)) (e:lk fs name'=some d) (hd:gn d=true) (h:K' d O) :
  Op c (fun vs=>getAttr (vs.headD .none) name true) [.stat (.ref x)] loc O K' E :=
 aW b m1 m2 hd (fun x' le=>yt (b.le le) ((r.le (Nat.le_add_left 1 n)).in1) m1 m2 e hd) h
theorem yU {lo hi:PySem.Expr} {p:Pos} (h:Ev c lo loc O (kSl c hi loc K' E) E):Ev c (.Slice (some lo) (some hi) .none p) loc O K' E:=we h
theorem vq {o:PySem.Expr} {p' p:Pos} (hs:gV e=true) (h:Ev c e loc O (Ks c o name loc KF E) E):Ex c (.Assign [.Attribute o name p'] e p) loc O KF E:=xT h (gF hs)
theorem QF {x C dx:Addr} {KO:Own→Prop} (b:ah c.x) (m1:(x,SO.inst C dx)∈O) (u:Upd dx (.attrs fs) (.attrs fs') O O') (pa:wN name d fs fs') (hz:Nat.ble fs'.length 900=true) [cb:Pk C] [ok:aQ C name] (h:KO O') :
  OpU c (fun vs=>setAttr (vs.headD .none) name (vs.tail.headD .none)) [.stat (.ref x),d] loc O KO E:=FI b m1 pa hz u h
abbrev Mh (a:D) (K:D→Own→Prop):D→Own→Prop:=fun b O2=>∃ i j:Nat,a=.int i∧b=.int j∧∀ t u,K (.obj (sl2 (.int i t) (.int j u))) O2
abbrev NP (c:Cc) (hi:PySem.Expr) (loc:Loc) (K:D→Own→Prop) (E:Value→Shared→Prop):D→Own→Prop:=fun a O₁=>Ev c hi loc O₁ (Mh a K) E
theorem eZ {lo hi:PySem.Expr} {p:Pos} (h:Ev c lo loc O (NP c hi loc K' E) E):Ev c (.Slice (some lo) (some hi) .none p) loc O K' E :=
 we (h.mono fun a O₁ q=>q.mono fun b O2 ⟨i,j,e1,e2,k⟩=>⟨i,j,e1,e2,k⟩)
theorem BL {x C dx:Addr} {i:Int} (b:ah c.x) (m1:(x,SO.inst C dx)∈O) (m2:(dx,SO.attrs fs)∈O) (e:lk fs name=.none) [cb:Pk C] [ok:c9 C name (.int i t)] (h:K' (.int i) O):Op c (fun vs=>getAttr (vs.headD .none) name true) [.stat (.ref x)] loc O K' E:=jJ b m1 m2 e (fun _=>.int _ _) h
theorem PX {x C dx:Addr} (b:ah c.x) (m1:(x,SO.inst C dx)∈O) (m2:(dx,SO.attrs fs)∈O) (e:lk fs name=.none) [cb:Pk C] [ok:c9 C name (.ref a)] (h:K' (.stat (.ref a)) O):Op c (fun vs=>getAttr (vs.headD .none) name true) [.stat (.ref x)] loc O K' E:=jJ b m1 m2 e (fun _=>.stat _) h
theorem dc {t:List Value→Sem Value} (h:∀ x',c.x.le x'→bI x' c.A t ds O (fun d O2=>d=r∧O2=O') E) (k:K' r O'):Op c t ds loc O K' E :=
 cK fun x' le=>(h x' le).mono fun d O2 q=>by rw [q.1,q.2];exact k
end
section
noncomputable def cW (l:List UInt8) (pos:Int) (sl:Option (List UInt8)) (rem:Option Int):List (Str×D) :=
 [(S "_buffer",.bytes l),(S "_pos",.int pos),(S "_next_slice",pD sl),(S "_remaining_bytes",oI rem)]
theorem yw {pos sl rem m dm} (b:ah x) (r:Rm A 1) (m1:(m,SO.inst 1297 dm)∈O) (m2:(dm,SO.attrs (cW l pos sl rem))∈O) (hl:l.length≤16777216) :
  au x A (.ref 1250) [.stat (.ref m)] O (fun d O'=>d=.int l.length∧O'=O) E:=by
 refine aJ (fd:=KU) (names:=[S "self"]) (dx:=[]) b (fun P=>by kernel_rfl) (fun P=>by kernel_rfl) (by decide +kernel) r [] ?_ (fun _=>.nil) [(S "self",.stat (.ref m))] rfl fun L=>?_
 ·intro P St;exact aH fun _=>bM (by kernel_rfl)
 unfold cW at m2;refine ad ?_;k_extra"MX";refine bJ (by lia) ?_;exact bT ⟨rfl,rfl⟩
theorem ng {pos sl rem m dm} (b:ah x) (r:Rm A 1) (m1:(m,SO.inst 1297 dm)∈O) (m2:(dm,SO.attrs (cW l pos sl rem))∈O) :
  au x A (.ref 1272) [.stat (.ref m)] O (fun d O'=>d=.bool sl.isSome∧O'=O) E:=by
 refine aJ (fd:=KT) (names:=[S "self"]) (dx:=[]) b (fun P=>by kernel_rfl) (fun P=>by kernel_rfl) (by decide +kernel) r [] ?_ (fun _=>.nil) [(S "self",.stat (.ref m))] rfl fun L=>?_
 ·intro P St;exact aH fun _=>bM (by kernel_rfl)
 unfold cW at m2;refine ad ?_;k_extra"MX";refine CC (by cases sl<;>(intro u q;cases q)) ?_;exact bT ⟨by cases sl<;>rfl,rfl⟩
noncomputable def fw (l:List UInt8) (pos:Nat):Int:=aO fI l.toArray (pos+8) ⟨'i',1,0,4⟩
noncomputable def aN (l:List UInt8) (pos:Nat):Option Nat:=if l.length<pos+12 then .none else if (l.length:Int)<pos+12+fw l pos then .none else some (pos+12+(fw l pos).toNat)
def dA (l:List UInt8) (pos:Nat):Prop:=pos≤l.length∧(pos+12≤l.length→0≤fw l pos)
noncomputable def bX (l:List UInt8) (pos:Nat):Nat:=match aN l pos with|.none=>pos|some e=>e
noncomputable def ce (l:List UInt8) (pos:Nat):Option (List UInt8):=match aN l pos with|.none=>.none|some e=>some ((l.drop pos).take (e-pos))
noncomputable def cv (l:List UInt8) (pos:Nat) (rem:Option Int):Option Int:=match aN l pos with|.none=>some ((l.length:Int)-pos)|some e=>rem
noncomputable abbrev ux (l:List UInt8) (pos:Nat) (rem:Option Int) (m dm:Addr) (O:Own):Own:=(m,SO.inst 1297 dm)::(dm,SO.attrs (cW l (bX l pos) (ce l pos) (cv l pos rem)))::O
theorem qL {pos:Nat} {rem:Option Int} (e:aN l pos=.none):(m,SO.inst 1297 dm)::(dm,SO.attrs (cW l pos .none (some ((l.length:Int)-pos))))::O=ux l pos rem m dm O:=by
 unfold ux bX ce cv;rw [e]
theorem yr {pos q:Nat} {rem:Option Int} (e:aN l pos=some q):(m,SO.inst 1297 dm)::(dm,SO.attrs (cW l q (some ((l.drop pos).take (q-pos))) rem))::O=ux l pos rem m dm O:=by
 unfold ux bX ce cv;rw [e]
section
variable {pos:Nat}
noncomputable abbrev wi (l:List UInt8) (pos:Nat):Nat:=pos+12+(fw l pos).toNat
theorem CU (h:(l.length:Int)-pos<12):aN l pos=.none:=if_pos (by lia)
theorem Gf (h:¬(l.length:Int)-pos<12):pos+12≤l.length:=by lia
theorem xZ (h:0≤fw l pos):(pos:Int)+12+fw l pos=((wi l pos:Nat):Int):=by skip;lia
theorem Gg (h0:pos+12≤l.length) (hn:0≤fw l pos) (h:(l.length:Int)<(wi l pos:Nat)):aN l pos=.none:=by
 rw [← xZ hn] at h;unfold aN;rw [if_neg (Nat.not_lt.mpr h0),if_pos h]
theorem LV (h0:pos+12≤l.length) (hn:0≤fw l pos) (h:¬(l.length:Int)<(wi l pos:Nat)):aN l pos=some (wi l pos):=by
 rw [← xZ hn] at h;unfold aN;rw [if_neg (Nat.not_lt.mpr h0),if_neg h]
end
theorem pt {pos:Nat} {sl rem m dm} (b:ah x) (r:Rm A 1) (hl:l.length≤16777216) (hp:dA l pos) :
  au x A (.ref 1265) [.stat (.ref m)] ((m,SO.inst 1297 dm)::(dm,SO.attrs (cW l pos sl rem))::O)
   (fun d O'=>d=.none∧O'=(m,SO.inst 1297 dm)::(dm,SO.attrs (cW l (bX l pos) (ce l pos) (cv l pos rem)))::O) E:=by
 refine aJ (fd:=D0) (names:=[S "self",S "len_offset",S "log_overhead"]) (dx:=[.int 8,.int 12]) b (fun P=>by kernel_rfl) (fun P=>by kernel_rfl) (by decide +kernel) r [.int 8 2315,.int 12 2318] ?_ (fun _=>.cons (.int _ _) (.one (.int _ _))) [(S "log_overhead",.int 12),(S "len_offset",.int 8),(S "self",.stat (.ref m))] rfl fun L=>?_
 ·intro P St;exact aH fun _=>bM (by kernel_rfl)
 unfold cW;have r':=r.deeper (callEnvC D0 L 1265) (m:=0) (by decide);refine ad ?_;k_extra"MX";refine bJ (by lia) ?_;k_extra"MX";refine jM ?_ ?_<;>intro h
 ·k_extra"MX";exact bT ⟨rfl,qL (CU h)⟩
 ·have h0:=Gf h;have hn:=hp.2 h0;k_extra"MX";refine cR C7 (by decide +kernel) (by decide) (by lia) (by refine (?_:(pos:Int)+8+(4:Nat)≤_);lia) hl ?_;rw [show (dh fI l ((pos:Int)+8).toNat).map D.int=[.int (fw l pos)] from rfl];k_extra"ME";refine ad (bn rfl (cr (.int (wi l pos:Nat)) ?_ ?_))
  ·k_extra"MX";exact ⟨Cg D.int (xZ hn),rfl⟩
  k_extra"MX";refine jM ?_ ?_<;>intro h
  ·k_extra"MX";exact bT ⟨rfl,qL (Gg h0 hn h)⟩
  ·k_extra"MX";refine yU ?_;k_extra"MX";refine ⟨pos,_,rfl,rfl,fun t u=>?_⟩;refine di (fun _ _=>⟨_,rfl⟩) hl ?_;k_extra"MX";refine pY ?_;k_extra"MX";exact jY ⟨rfl,yr (LV h0 hn h)⟩
class inductive fc (l:List UInt8):Nat→Nat→Nat→Prop
 |stop {p:_}:dA l p→aN l p=.none→fc l 0 p p
 |more {n p e q:_}:dA l p→aN l p=some e→fc l n e q→fc l (n+1) p q
abbrev Ky (l:List UInt8) (pos q:Nat) (sl:Option (List UInt8)) (m dm:Addr) (O:Own):Nat→Loc→Own→Prop:=fun k l' O'=>lk l' (S "self")=some (.stat (.ref m))∧lk l' (S "next_slice")=some (pD sl)∧lk l' (S "pos")=some (.int pos)∧∃ p sl' rem',O'=(m,SO.inst 1297 dm)::(dm,SO.attrs [(S "_buffer",.bytes l),(S "_pos",.int (p:Nat)),(S "_next_slice",pD sl'),(S "_remaining_bytes",oI rem')])::O∧((rem'=.none∧∃ k',k=k'+1∧fc l k' p q)∨(rem'=some ((l.length:Int)-q)))
theorem Hz {pos q:Nat} {sl m dm} (b:ah x) (r:Rm A 2) (hl:l.length≤16777216) (hc:fc l n pos q) :
  au x A (.ref 1257) [.stat (.ref m)] ((m,SO.inst 1297 dm)::(dm,SO.attrs (cW l pos sl .none))::O)
   (fun d O'=>d=.int q∧O'=(m,SO.inst 1297 dm)::(dm,SO.attrs (cW l pos sl (some ((l.length:Int)-q))))::O) E:=by
 refine aJ (fd:=xQ) (names:=[S "self"]) (dx:=[]) b (fun P=>by kernel_rfl) (fun P=>by kernel_rfl) (by decide +kernel) r [] ?_ (fun _=>.nil) [(S "self",.stat (.ref m))] rfl fun L=>?_
 ·intro P St;exact aH fun _=>bM (by kernel_rfl)
 skip;have r':=r.deeper (callEnvC xQ L 1257) (m:=1) (by decide);refine ad ?_;k_extra"MX";refine bw rfl ?_;k_extra"MX";refine mi (Ky l pos q sl m dm O) (n+1) ?_ ?_
 ·exact ⟨by k_extra"L",by k_extra"L",by k_extra"L",pos,sl,.none,rfl,.inl ⟨rfl,n,rfl,hc⟩⟩
 ·rintro k l' O' ⟨g0,g1,g2,p,sl',rem',rfl,h⟩
  rcases h with ⟨rfl,k',rfl,hc⟩|rfl
  ·k_extra"MX";refine bw rfl ?_;k_extra"MX"
   cases hc with
   |stop h1 h2 =>
    refine dc (fun x' le=>(pt (b.le le) r' hl h1).call) ?_;refine bl ?_;refine ⟨0,by lia,g0,g1,g2,_,_,_,rfl,.inr ?_⟩;unfold cv;rw [h2]
   |more h1 h2 h3 =>
    refine dc (fun x' le=>(pt (b.le le) r' hl h1).call) ?_;refine bl ?_;refine ⟨_,Nat.lt_succ_self _,g0,g1,g2,_,_,_,rfl,.inl ⟨?_,_,rfl,?_⟩⟩
    ·unfold cv;rw [h2]
    ·unfold bX;rw [h2];exact h3
  ·k_extra"MX";refine aT rfl ?_;k_extra"MX";refine bJ (by lia) ?_;k_extra"MX";exact bT ⟨Cg D.int (Int.sub_sub_self _ _),rfl⟩
theorem Ez {pos:Int} {q:Nat} {sl m dm} (b:ah x) (r:Rm A 2) (hl:l.length≤16777216) (m1:(m,SO.inst 1297 dm)∈O) (m2:(dm,SO.attrs (cW l pos sl (some ((l.length:Int)-q))))∈O) :
  au x A (.ref 1257) [.stat (.ref m)] O (fun d O'=>d=.int q∧O'=O) E:=by
 refine aJ (fd:=xQ) (names:=[S "self"]) (dx:=[]) b (fun P=>by kernel_rfl) (fun P=>by kernel_rfl) (by decide +kernel) r [] ?_ (fun _=>.nil) [(S "self",.stat (.ref m))] rfl fun L=>?_
 ·intro P St;exact aH fun _=>bM (by kernel_rfl)
 unfold cW at m2;refine ad ?_;k_extra"MX";refine aT rfl ?_;k_extra"MX";refine bJ (by lia) ?_;k_extra"MX";exact bT ⟨Cg D.int (Int.sub_sub_self _ _),rfl⟩
theorem yy {m dm} (b:ah x) (r:Rm A 2) (hl:l.length≤16777216) (hp:dA l 0) :
  au x A (.ref 1243) [.stat (.ref m),.bytes l] ((m,SO.inst 1297 dm)::(dm,SO.attrs [])::O)
   (fun d O'=>d=.none∧O'=(m,SO.inst 1297 dm)::(dm,SO.attrs (cW l (bX l 0) (ce l 0) (cv l 0 .none)))::O) E:=by
 refine aJ (fd:=D1) (names:=[S "self",S "bytes_data"]) (dx:=[]) b (fun P=>by kernel_rfl) (fun P=>by kernel_rfl) (by decide +kernel) r [] ?_ (fun _=>.nil) [(S "bytes_data",.bytes l),(S "self",.stat (.ref m))] rfl fun L=>?_
 ·intro P St;exact aH fun _=>aH fun _=>bM (by kernel_rfl)
 have r':=r.deeper (callEnvC D1 L 1243) (m:=1) (by decide);refine ad ?_;k_extra"MX";refine dc (fun x' le=>(pt (pos:=0) (sl:=.none) (rem:=.none) (b.le le) r' hl hp).call) ?_;k_extra"MX";exact jY ⟨rfl,rfl⟩
end
noncomputable def hv (l:List UInt8) (p:Nat):Nat→Int
 |0=>aO fV1 l.toArray p ⟨'q',1,0,8⟩
 |1=>aO fV1 l.toArray p ⟨'i',1,8,4⟩
 |2=>aO fV1 l.toArray p ⟨'I',1,12,4⟩
 |3=>aO fV1 l.toArray p ⟨'b',1,16,1⟩
 |4=>aO fV1 l.toArray p ⟨'b',1,17,1⟩
 |_=>aO fV1 l.toArray p ⟨'q',1,18,8⟩
noncomputable def hts (one:Bool) (l:List UInt8) (p:Nat):Option Int:=match one with|true=>some (hv l p 5)|false=>.none
noncomputable def hN (one:Bool):Nat:=match one with|true=>26|false=>18
noncomputable def mg (one:Bool):Int:=match one with|true=>1|false=>0
theorem NA {l p}:(dh fV0 l p).map D.int=[.int (hv l p 0),.int (hv l p 1),.int (hv l p 2),.int (hv l p 3),.int (hv l p 4)]:=by unfold dh;rw [Ni (f:=fV0) (g:=fV1) rfl];rfl
theorem Nz {l p}:(dh fV1 l p).map D.int=[.int (hv l p 0),.int (hv l p 1),.int (hv l p 2),.int (hv l p 3),.int (hv l p 4),.int (hv l p 5)]:=rfl
noncomputable def xJ (one:Bool) (l:List UInt8) (p:Nat):D:=.tup [.int (hv l p 0),.int (hv l p 1),.int (hv l p 2),.int (hv l p 3),.int (hv l p 4),oI (hts one l p)]
noncomputable def bk (buf:List UInt8) (one:Bool) (off len crc:Int) (ts:Option Int) (att:Int) (dec:Bool):List (Str×D) :=
 [(S "_buffer",.bytes buf),(S "_magic",.int (mg one)),(S "_offset",.int off),(S "_length",.int len),(S "_crc",.int crc),(S "_timestamp",oI ts),(S "_attributes",.int att),(S "_decompressed",.bool dec)]
theorem EB {m dm fs} (b:ah x) (r:Rm A 1) (m1:(m,SO.inst 544 dm)∈O) (m2:(dm,SO.attrs fs)∈O) (e0:lk fs (S "_buffer")=some (.bytes l)) (e1:lk fs (S "_magic")=some (.int (mg one)))
  (n0:lk fs (S "HEADER_STRUCT_V0")=.none) (n1:lk fs (S "HEADER_STRUCT_V1")=.none) (hl:l.length≤16777216) (hp:p+hN one≤l.length) :
  au x A (.ref 513) [.stat (.ref m),.int p] O (fun d O'=>d=xJ one l p∧O'=O) E:=by
 refine aJ (fd:=Jp) (names:=[S "self",S "pos"]) (dx:=[]) b (fun P=>by kernel_rfl) (fun P=>by kernel_rfl) (by decide +kernel) r [] ?_ (fun _=>.nil) [(S "pos",.int p),(S "self",.stat (.ref m))] rfl fun L=>?_
 ·intro P St;exact aH fun _=>aH fun _=>bM (by kernel_rfl)
 have r':=r.deeper (callEnvC Jp L 513) (m:=0) (by decide);refine ad ?_;k_extra"MM";refine jI b m1 m2 e1 rfl ?_;k_extra"MM"
 cases one with
 |false =>
  refine bw rfl ?_;k_extra"MM";refine jJ b m1 m2 n0 (fun _=>.stat _) ?_;refine jN (b:=#[62,113,105,73,98,98]) b (fun P=>⟨1145,by kernel_rfl⟩) jf pE ?_;k_extra"MM";refine jI b m1 m2 e0 rfl ?_;k_extra"MM";refine CA b (fun P=>⟨1145,by kernel_rfl⟩) LP (by decide +kernel) (by decide) (by lia) (by refine (?_:(p:Int)+(18:Nat)≤_);have:hN false=18:=rfl;lia) hl ?_;rw [Int.toNat_natCast,NA];k_extra"MM";exact bT ⟨rfl,rfl⟩
 |true =>
  refine aT rfl ?_;k_extra"MM";refine jJ b m1 m2 n1 (fun _=>.stat _) ?_;refine jN (b:=#[62,113,105,73,98,98,113]) b (fun P=>⟨1148,by kernel_rfl⟩) jf pE ?_;k_extra"MM";refine jI b m1 m2 e0 rfl ?_;k_extra"MM";refine CA b (fun P=>⟨1148,by kernel_rfl⟩) LO (by decide +kernel) (by decide) (by lia) (by refine (?_:(p:Int)+(26:Nat)≤_);have:hN true=26:=rfl;lia) hl ?_;rw [Int.toNat_natCast,Nz];k_extra"MM";exact bT ⟨rfl,rfl⟩
theorem yA {m dm} (b:ah x) (r:Rm A 2) (hl:l.length≤16777216) (hp:hN one≤l.length) (h1:hv l 0 1=l.length-12) (h3:hv l 0 3=mg one) :
  au x A (.ref 452) [.stat (.ref m),.bytes l,.int (mg one)] ((m,SO.inst 544 dm)::(dm,SO.attrs [])::O)
   (fun d O'=>d=.none∧O'=(m,SO.inst 544 dm)::(dm,SO.attrs (bk l one (hv l 0 0) (hv l 0 1) (hv l 0 2) (hts one l 0) (hv l 0 4) false))::O) E:=by
 refine aJ (fd:=Jq) (names:=[S "self",S "buffer",S "magic"]) (dx:=[]) b (fun P=>by kernel_rfl) (fun P=>by kernel_rfl) (by decide +kernel) r [] ?_ (fun _=>.nil) [(S "magic",.int (mg one)),(S "buffer",.bytes l),(S "self",.stat (.ref m))] rfl fun L=>?_
 ·intro P St;exact aH fun _=>aH fun _=>aH fun _=>bM (by kernel_rfl)
 have r':=r.deeper (callEnvC Jq L 452) (m:=1) (by decide);skip;refine ad ?_;k_extra"MX";refine pY ?_;k_extra"MX";refine bH (fun x' le=>(EB (l:=l) (one:=one) (p:=0) (b.le le) r' (by k_extra"M") (by k_extra"M") (by k_extra"L") (by k_extra"L") (by k_extra"N") (by k_extra"N") hl (by lia)).call) ?_;unfold xJ;k_extra"MX";refine bJ (by lia) ?_;k_extra"MX";refine ⟨by simp [h1],?_⟩;k_extra"MX";refine ⟨by simp [h3],?_⟩;k_extra"MX";exact jY ⟨rfl,rfl⟩
theorem yz {one off len crc ts att dec m dm} (b:ah x) (r:Rm A 1) (m1:(m,SO.inst 544 dm)∈O) (m2:(dm,SO.attrs (bk l one off len crc ts att dec))∈O) :
  au x A (.ref 467) [.stat (.ref m)] O (fun d O'=>d=.int (len+12)∧O'=O) E:=by
 refine aJ (fd:=M5) (names:=[S "self"]) (dx:=[]) b (fun P=>by kernel_rfl) (fun P=>by kernel_rfl) (by decide +kernel) r [] ?_ (fun _=>.nil) [(S "self",.stat (.ref m))] rfl fun L=>?_
 ·intro P St;exact aH fun _=>bM (by kernel_rfl)
 unfold bk at m2;refine ad ?_;k_extra"MX";exact bT ⟨rfl,rfl⟩
noncomputable def ttI (one:Bool) (att:Int):Option Int:=match one with|false=>.none|true=>if Builtin.bitAnd att 8=0 then some 0 else some 1
theorem wu {one off len crc ts att dec m dm} (b:ah x) (r:Rm A 1) (m1:(m,SO.inst 544 dm)∈O) (m2:(dm,SO.attrs (bk l one off len crc ts att dec))∈O) :
  au x A (.ref 475) [.stat (.ref m)] O (fun d O'=>d=oI (ttI one att)∧O'=O) E:=by
 refine aJ (fd:=M4) (names:=[S "self"]) (dx:=[]) b (fun P=>by kernel_rfl) (fun P=>by kernel_rfl) (by decide +kernel) r [] ?_ (fun _=>.nil) [(S "self",.stat (.ref m))] rfl fun L=>?_
 ·intro P St;exact aH fun _=>bM (by kernel_rfl)
 unfold bk at m2;refine ad ?_;k_extra"MX"
 cases one with
 |false =>
  refine bw rfl ?_;k_extra"MX";exact bT ⟨rfl,rfl⟩
 |true =>
  refine aT rfl ?_;k_extra"MX";refine gA ?_ ?_<;>intro h
  ·k_extra"MX";refine bT ?_;exact ⟨by simp at h;simp [ttI,h],rfl⟩
  ·k_extra"MX";refine bT ?_;exact ⟨by simp at h;simp [ttI,h],rfl⟩
theorem g8 {one off len crc ts att dec m dm} (b:ah x) (r:Rm A 1) (m1:(m,SO.inst 544 dm)∈O) (m2:(dm,SO.attrs (bk l one off len crc ts att dec))∈O) :
  au x A (.ref 483) [.stat (.ref m)] O (fun d O'=>d=.int (Builtin.bitAnd att 7)∧O'=O) E:=by
 refine aJ (fd:=M3) (names:=[S "self"]) (dx:=[]) b (fun P=>by kernel_rfl) (fun P=>by kernel_rfl) (by decide +kernel) r [] ?_ (fun _=>.nil) [(S "self",.stat (.ref m))] rfl fun L=>?_
 ·intro P St;exact aH fun _=>bM (by kernel_rfl)
 unfold bk at m2;refine ad ?_;k_extra"MX";exact bT ⟨rfl,rfl⟩
noncomputable def Kz (l:List UInt8) (p:Nat):Int:=aO fI l.toArray p ⟨'i',1,0,4⟩
noncomputable def aK:Option (List UInt8)→Nat
 |.none=>0
 |some k=>k.length
structure bS (l:List UInt8) (p:Nat) (d:Option (List UInt8)):Prop where
 room:p+4+aK d≤l.length
 no:d=.none→Kz l p = -1
 size:∀ k,d=some k→Kz l p=k.length
 octets:∀ k,d=some k→(l.drop (p+4)).take k.length=k
theorem yX {l p} {q:Int} (e:q=(p:Nat)):(dh fI l q.toNat).map D.int=[.int (Kz l p)]:=by subst e;rw [Int.toNat_natCast];rfl
theorem Jy {one off len crc ts att dec m dm} (b:ah x) (r:Rm A 1) (m1:(m,SO.inst 544 dm)∈O) (m2:(dm,SO.attrs (bk l one off len crc ts att dec))∈O) (hl:l.length≤16777216)
  (fk:bS l p key) (fv:bS l (p+4+aK key) val) :
  au x A (.ref 527) [.stat (.ref m),.int p] O (fun d O'=>d=.tup [pD key,pD val]∧O'=O) E:=by
 refine aJ (fd:=wc) (names:=[S "self",S "pos"]) (dx:=[]) b (fun P=>by kernel_rfl) (fun P=>by kernel_rfl) (by decide +kernel) r [] ?_ (fun _=>.nil) [(S "pos",.int p),(S "self",.stat (.ref m))] rfl fun L=>?_
 ·intro P St;exact aH fun _=>aH fun _=>bM (by kernel_rfl)
 unfold bk at m2;have kr:=fk.room;have vr:=fv.room;refine ad ?_;k_extra"MX";refine cR C7 (by decide +kernel) (by decide) (by lia) (by refine (?_:(p:Int)+(4:Nat)≤_);lia) hl ?_;rw [yX (p:=p) (by lia)];k_extra"MX";refine bP (fun _ _=>⟨_,rfl⟩) (by decide) (by decide) rfl ?_;k_extra"MX";refine d0 ?_;k_extra"MX";rw [(by lia:(p:Int)+4=((p+4:Nat):Int))]
 have key_end:∀ loc',lk loc' (S "self")=some (.stat (.ref m))→lk loc' (S "pos")=some (.int ((p+4+aK key:Nat):Int))→lk loc' (S "key")=some (pD key) →
   Exs ⟨x,A.deeper (callEnvC wc L 527),callEnvC wc L 527,true⟩ ((aB wc).drop 3) loc' O (fun fl _ O'=>pf (Fin fun d O'=>d=.tup [pD key,pD val]∧O'=O) fl O') (dT x A (callEnvC wc L 527) E):=fun loc' g0 g1 g2=>by
  refine ad ?_;k_extra"MX";refine cR C7 (by decide +kernel) (by decide) (by lia) (by refine (?_:((p+4+aK key:Nat):Int)+(4:Nat)≤_);lia) hl ?_;rw [yX (p:=p+4+aK key) rfl];k_extra"MX";refine bP (fun _ _=>⟨_,rfl⟩) (by decide) (by decide) rfl ?_;k_extra"MX";refine d0 ?_;k_extra"MX"
  cases val with
  |none =>
   rw [fv.no rfl];refine bw rfl ?_;k_extra"MX";exact bT ⟨rfl,rfl⟩
  |some v =>
   rw [fv.size v rfl];refine aT (by simp) ?_;k_extra"MX";refine eZ ?_;k_extra"MX";refine ⟨p+4+aK key+4,p+4+aK key+4+v.length,Cg D.int (by lia),Cg D.int (by lia),fun t u=>?_⟩;refine di (fun _ _=>⟨_,rfl⟩) hl ?_;rw [Nat.add_sub_cancel_left,fv.octets v rfl];k_extra"MX";exact bT ⟨rfl,rfl⟩
 cases key with
 |none =>
  rw [fk.no rfl];refine bw rfl ?_;refine ad ?_;k_extra"ME";exact key_end _ (by k_extra"L") (by k_extra"L":lk _ (S "pos")=some (D.int ((p+4:Nat):Int))) (by k_extra"L":lk _ (S "key")=some D.none)
 |some v =>
  rw [fk.size v rfl];refine aT (by simp) ?_;k_extra"MX";refine eZ ?_;k_extra"MX";refine ⟨p+4,p+4+v.length,rfl,Cg D.int (by lia),fun t u=>?_⟩;refine di (fun _ _=>⟨_,rfl⟩) hl ?_;rw [Nat.add_sub_cancel_left,fk.octets v rfl];k_extra"MX";refine d0 ?_;k_extra"ME";exact key_end _ (by k_extra"L") (by k_extra"L":lk _ (S "pos")=some (D.int (((p+4:Nat):Int)+(v.length:Int)))) (by k_extra"L":lk _ (S "key")=some (D.bytes v))
noncomputable def mW (one:Bool) (off:Int) (ts tt:Option Int) (key val:Option (List UInt8)) (crc:Int) (cb:List UInt8):List (Str×D) :=
 [(S "_magic",.int (mg one)),(S "_offset",.int off),(S "_timestamp",oI ts),(S "_timestamp_type",oI tt),(S "_key",pD key),(S "_value",pD val),(S "_crc",.int crc),(S "_crc_bytes",.bytes cb)]
theorem Np (b:ah x) (r:Rm A 1):au x A (.ref 82) [] O (fun d O'=>d=.bool true∧O'=O) E:=by
 refine aJ (fd:=N5) (names:=[]) (dx:=[]) b (fun P=>by kernel_rfl) (fun P=>by kernel_rfl) (by decide +kernel) r [] ?_ (fun _=>.nil) [] rfl fun L=>?_
 ·intro P St;exact bM (by kernel_rfl)
 refine ad ?_;k_extra"MX";exact bT ⟨rfl,rfl⟩
theorem EL {one off len crc ts att dec m dm} (b:ah x) (r:Rm A 2) (m1:(m,SO.inst 544 dm)∈O) (m2:(dm,SO.attrs (bk l one off len crc ts att dec))∈O) :
  au x A (.ref 431) [.stat (.ref m),.int 1] O (fun d O'=>d=.none∧O'=O) E:=by
 refine aJ (fd:=Jr) (names:=[S "self",S "compression_type"]) (dx:=[]) b (fun P=>by kernel_rfl) (fun P=>by kernel_rfl) (by decide +kernel) r [] ?_ (fun _=>.nil) [(S "compression_type",.int 1),(S "self",.stat (.ref m))] rfl fun L=>?_
 ·intro P St;exact aH fun _=>aH fun _=>bM (by kernel_rfl)
 have r':=r.deeper (callEnvC Jr L 431) (m:=1) (by decide);unfold bk at m2;refine ad ?_;k_extra"MX";refine bw rfl ?_;k_extra"MX";refine bH (fun x' le=>(Np (b.le le) r').call) ?_;k_extra"MX";refine aT rfl ?_;k_extra"MX";exact jY ⟨rfl,rfl⟩
theorem EJ {one off len crc ts att dec m dm} (b:ah x) (r:Rm A 1) (m1:(m,SO.inst 544 dm)∈O) (m2:(dm,SO.attrs (bk l one off len crc ts att dec))∈O) (hl:l.length≤16777216) :
  au x A (.ref 534) [.stat (.ref m),.int p,.int n] O (fun d O'=>d=.bytes ((l.drop (p+16)).take (n-4))∧O'=O) E:=by
 refine aJ (fd:=MZ) (names:=[S "self",S "msg_pos",S "length"]) (dx:=[]) b (fun P=>by kernel_rfl) (fun P=>by kernel_rfl) (by decide +kernel) r [] ?_ (fun _=>.nil) [(S "length",.int n),(S "msg_pos",.int p),(S "self",.stat (.ref m))] rfl fun L=>?_
 ·intro P St;exact aH fun _=>aH fun _=>aH fun _=>bM (by kernel_rfl)
 unfold bk at m2;refine ad ?_;k_extra"MX";refine eZ ?_;k_extra"MX";refine ⟨p+16,p+12+n,rfl,rfl,fun t u=>?_⟩;refine di (fun _ _=>⟨_,rfl⟩) hl ?_;rw [(by lia:p+12+n-(p+16)=n-4)];exact bT ⟨rfl,rfl⟩
theorem wt {one off ts tt key val crc cb m dm} (b:ah x) (r:Rm A 1) :
  au x A (.ref 560) [.stat (.ref m),.int (mg one),.int off,oI ts,oI tt,pD key,pD val,.int crc,.bytes cb] ((m,SO.inst 649 dm)::(dm,SO.attrs [])::O)
   (fun d O'=>d=.none∧O'=(m,SO.inst 649 dm)::(dm,SO.attrs (mW one off ts tt key val crc cb))::O) E:=by
 refine aJ (fd:=MY) (names:=[S "self",S "magic",S "offset",S "timestamp",S "timestamp_type",S "key",S "value",S "crc",S "crc_bytes"]) (dx:=[]) b (fun P=>by kernel_rfl) (fun P=>by kernel_rfl) (by decide +kernel) r [] ?_ (fun _=>.nil)
  [(S "crc_bytes",.bytes cb),(S "crc",.int crc),(S "value",pD val),(S "key",pD key),(S "timestamp_type",oI tt),(S "timestamp",oI ts),(S "offset",.int off),(S "magic",.int (mg one)),(S "self",.stat (.ref m))] rfl fun L=>?_
 ·intro P St;exact aH fun _=>aH fun _=>aH fun _=>aH fun _=>aH fun _=>aH fun _=>aH fun _=>aH fun _=>aH fun _=>bM (by kernel_rfl)
 skip;refine ad ?_;k_extra"MX";exact jY ⟨rfl,rfl⟩
theorem qO (b:ah x) (r:Rm A 1):au x A (.ref 615) [.stat (.ref m)] O (fun d O'=>d=.lst []∧O'=O) E:=by
 refine aJ (fd:=MT) (names:=[S "self"]) (dx:=[]) b (fun P=>by kernel_rfl) (fun P=>by kernel_rfl) (by decide +kernel) r [] ?_ (fun _=>.nil) [(S "self",.stat (.ref m))] rfl fun L=>?_
 ·intro P St;exact aH fun _=>bM (by kernel_rfl)
 refine ad ?_;k_extra"MX";refine gN ?_;exact bT ⟨rfl,rfl⟩
class inductive pg (one:Bool) (l:List UInt8):Nat→List Nat→Prop
 |nil:pg one l l.length []
 |cons {p n ps}:p+hN one≤l.length→hv l p 1=(n:Nat)→pg one l (p+12+n) ps→pg one l p (p::ps)
theorem pg.le {one l p ps}:pg one l p ps→p≤l.length
 |.nil=>Nr _
 |.cons h _ _=>by lia
noncomputable def j0 (one:Bool) (l:List UInt8) (ps:List Nat):List D:=ps.map fun p=>.tup [xJ one l p,.int p]
def NE (one:Bool) (l:List UInt8) (ps:List Nat) (m dm:Addr) (O:Own) (a:Addr) (k:Nat) (loc:Loc) (O':Own):Prop :=
 ∃ ds todo p,ps=ds++todo∧k=todo.length∧pg one l p todo∧lk loc (S "self")=some (.stat (.ref m))∧lk loc (S "msgs")=some (.stat (.ref a))∧lk loc (S "buffer_len")=some (.int l.length)∧lk loc (S "pos")=some (.int (p:Nat))∧O'=(a,.list (j0 one l ds))::O
theorem Nk {ps:List Nat} {one off len crc ts att dec m dm} (b:ah x) (r:Rm A 2) (m1:(m,SO.inst 544 dm)∈O) (m2:(dm,SO.attrs (bk l one off len crc ts att dec))∈O) (hl:l.length≤16777216) (hm:pg one l 0 ps) (hz:ps.length≤1000) :
  au x A (.ref 520) [.stat (.ref m)] O (fun d O'=>d=.lst (j0 one l ps)∧O'=O) E:=by
 refine aJ (fd:=Jo) (names:=[S "self"]) (dx:=[]) b (fun P=>by kernel_rfl) (fun P=>by kernel_rfl) (by decide +kernel) r [] ?_ (fun _=>.nil) [(S "self",.stat (.ref m))] rfl fun L=>?_
 ·intro P St;exact aH fun _=>bM (by kernel_rfl)
 have r':=r.deeper (callEnvC Jo L 520) (m:=1) (by decide);unfold bk at m2;refine ad ?_;k_extra"MX";refine gM fun a=>?_;k_extra"MX";refine bJ (by lia) ?_;k_extra"MX";refine mi (NE one l ps m dm O a) ps.length ?_ ?_
 ·exact ⟨[],ps,0,rfl,rfl,hm,by k_extra"L",by k_extra"L",by k_extra"L",(by k_extra"L":lk _ (S "pos")=some (D.int 0)),rfl⟩
 ·rintro k l' O' ⟨ds,todo,p,e,rfl,hm',g0,g1,g2,g3,rfl⟩
  k_extra"MX"
  cases hm' with
  |nil =>
   refine aT (by simp) ?_;k_extra"ME";refine ad (uk ?_);refine D9 ?_;k_extra"MX";refine ⟨a,_,O,rfl,.head,?_⟩;refine bT ⟨?_,rfl⟩;rw [e,List.append_nil]
  |cons h1 h2 h3 =>
   have hle:=h3.le;have:1≤hN one:=by cases one<;>decide
   refine bw (by simp;lia) ?_;k_extra"MX";refine bH (fun x' le=>(EB (l:=l) (one:=one) (p:=p) (b.le le) r' (by k_extra"M") (by k_extra"M") (by k_extra"L") (by k_extra"L") (by k_extra"N") (by k_extra"N") hl h1).call) ?_;k_extra"MX";refine da (.head _) ?_;k_extra"MX";refine cS .head ?_ ?_
   ·have:ds.length≤ps.length:=by rw [e,List.length_append];lia
    simp only [j0,List.length_map,sizeLine_eq];lia
   k_extra"MX";skip;refine bP (fun _ _=>⟨_,rfl⟩) (by decide) (by decide) rfl ?_;k_extra"MX";refine d0 ?_;k_extra"MX";refine ⟨_,Nat.lt_succ_self _,ds++[p],_,p+12+_,?_,rfl,h3,by k_extra"L",by k_extra"L",by k_extra"L",?_,?_⟩
   ·rw [e];simp
   ·refine bv.trans ?_;rw [h2];exact congrArg (fun z=>some (D.int z)) (by lia)
   ·simp [j0,xJ]
section
class Ps (f:Addr) (fd:outParam FuncData) (k:outParam Nat):Prop where
 at':∀ P,A4 P f=some (.func fd)
 code:∀ P,codeIn (K P) fd.code fd.qualname=true
 ok:qv fd [S "self"]=true
 bind:∀ P St v,peek (K P) St (bindArgs fd ⟨[v],[]⟩)=some [(S "self",v)]
 body:∃ p1 p2 p3 p4 p5 p6,aB fd=[.Return (some (.Subscript (.Attribute (.Name (S "self") p1) (S "_header_data") p2) (.Constant (.int k) p3 p4) p5)) p6]
 env:qw fd=true
 kind:fd.scope.names.lookup (S "self")=some .local
instance:Ps 848 MS 0:=⟨fun P=>by kernel_rfl,fun P=>by kernel_rfl,by decide +kernel,fun P St v=>by kernel_rfl,⟨_,_,_,_,_,_,rfl⟩,by kernel_rfl,by kernel_rfl⟩
instance:Ps 872 MQ 3:=⟨fun P=>by kernel_rfl,fun P=>by kernel_rfl,by decide +kernel,fun P St v=>by kernel_rfl,⟨_,_,_,_,_,_,rfl⟩,by kernel_rfl,by kernel_rfl⟩
instance:Ps 888 MP 5:=⟨fun P=>by kernel_rfl,fun P=>by kernel_rfl,by decide +kernel,fun P St v=>by kernel_rfl,⟨_,_,_,_,_,_,rfl⟩,by kernel_rfl,by kernel_rfl⟩
instance:Ps 952 MO 7:=⟨fun P=>by kernel_rfl,fun P=>by kernel_rfl,by decide +kernel,fun P St v=>by kernel_rfl,⟨_,_,_,_,_,_,rfl⟩,by kernel_rfl,by kernel_rfl⟩
instance:Ps 960 MN 8:=⟨fun P=>by kernel_rfl,fun P=>by kernel_rfl,by decide +kernel,fun P St v=>by kernel_rfl,⟨_,_,_,_,_,_,rfl⟩,by kernel_rfl,by kernel_rfl⟩
noncomputable def cj (buf:List UInt8) (hd:List Int) (pos num idx:Int) (dec:Bool):List (Str×D) :=
 [(S "_buffer",.barr buf),(S "_header_data",.tup (hd.map .int)),(S "_pos",.int pos),(S "_num_records",.int num),(S "_next_record_index",.int idx),(S "_decompressed",.bool dec)]
theorem xK {hd:List Int} {k:Nat} (h:hd[k]? = some v):(hd.map D.int)[((k:Int)).toNat]? = some (.int v):=by rw [Int.toNat_natCast,List.getElem?_map,h];rfl
section
variable {hd:List Int} {pos:Int} {dec:Bool}
theorem EI {k:Nat} (b:ah x) (r:Rm A 1) [sp:Ps f fd k] (m1:(m,SO.inst 1069 dm)∈O) (m2:(dm,SO.attrs (cj buf hd pos num idx dec))∈O) (hk:hd[k]? = some v) (hz:(k:Int)<2^63) :
  au x A (.ref f) [.stat (.ref m)] O (fun d' O'=>d'=.int v∧O'=O) E:=by
 refine aJ (fd:=fd) (names:=[S "self"]) (dx:=[]) b sp.at' sp.code sp.ok r [] ?_ (fun _=>.nil) [(S "self",.stat (.ref m))] rfl fun L=>?_
 ·intro P St;exact aH fun v=>bM (sp.bind P St v)
 refine Eg sp.body fun p1 p2 p3 p4 p5 p6 e'=>?_;rw [e'];unfold cj at m2;refine ad (uk (K5 (uo ?_)));refine fT bv (PK sp.env) sp.kind ?_ rfl;k_extra"MX";refine bP (fun _ _=>⟨_,rfl⟩) (by lia) hz (xK hk) ?_;exact bT ⟨rfl,rfl⟩
theorem e8 {k:Nat} (b:ah c.x) (m1:(m,SO.inst 1069 dm)∈O) (m2:(dm,SO.attrs (cj buf hd pos num idx dec))∈O) [ok:be 1069 name f] [sp:Ps f fd k] (r:Rm c.A (n+1)) (hk:hd[k]? = some v) (hz:(k:Int)<2^63) (h:K' (.int v) O) :
  Op c (fun vs=>getAttr (vs.headD .none) name true) [.stat (.ref m)] loc O K' E :=
 aW b m1 m2 rfl (fun x' le=>EI (b.le le) ((r.le (Nat.le_add_left 1 n)).in1) m1 m2 hk hz) h
theorem yB (b:ah x) (r:Rm A 1) (m1:(m,SO.inst 1069 dm)∈O) (m2:(dm,SO.attrs (cj buf hd pos num idx dec))∈O) (hk:hd[1]? = some v) :
  au x A (.ref 856) [.stat (.ref m)] O (fun d' O'=>d'=.int (v+12)∧O'=O) E:=by
 refine aJ (fd:=MR) (names:=[S "self"]) (dx:=[]) b (fun P=>by kernel_rfl) (fun P=>by kernel_rfl) (by decide +kernel) r [] ?_ (fun _=>.nil) [(S "self",.stat (.ref m))] rfl fun L=>?_
 ·intro P St;exact aH fun _=>bM (by kernel_rfl)
 unfold cj at m2;refine ad ?_;k_extra"MX";refine bP (fun _ _=>⟨_,rfl⟩) (by lia) (by decide) (xK hk) ?_;k_extra"MX";exact bT ⟨rfl,rfl⟩
theorem qQ (b:ah x) (r:Rm A 2) (m1:(m,SO.inst 1069 dm)∈O) (m2:(dm,SO.attrs (cj buf hd pos num idx dec))∈O) (hk:hd[5]? = some v) :
  au x A (.ref 920) [.stat (.ref m)] O (fun d' O'=>d'=.int (Builtin.bitAnd v 7)∧O'=O) E:=by
 refine aJ (fd:=Jl) (names:=[S "self"]) (dx:=[]) b (fun P=>by kernel_rfl) (fun P=>by kernel_rfl) (by decide +kernel) r [] ?_ (fun _=>.nil) [(S "self",.stat (.ref m))] rfl fun L=>?_
 ·intro P St;exact aH fun _=>bM (by kernel_rfl)
 have r':=r.deeper (callEnvC Jl L 920) (m:=1) (by decide);have m2':=m2;unfold cj at m2';refine ad ?_;k_extra"MM";refine e8 b m1 m2 r' hk (by decide) ?_;k_extra"MX";exact bT ⟨rfl,rfl⟩
theorem qP (b:ah x) (r:Rm A 2) (m1:(m,SO.inst 1069 dm)∈O) (m2:(dm,SO.attrs (cj buf hd pos num idx dec))∈O) (hk:hd[5]? = some v) :
  au x A (.ref 928) [.stat (.ref m)] O (fun d' O'=>d'=.int (if Builtin.bitAnd v 8=0 then 0 else 1)∧O'=O) E:=by
 refine aJ (fd:=Jk) (names:=[S "self"]) (dx:=[]) b (fun P=>by kernel_rfl) (fun P=>by kernel_rfl) (by decide +kernel) r [] ?_ (fun _=>.nil) [(S "self",.stat (.ref m))] rfl fun L=>?_
 ·intro P St;exact aH fun _=>bM (by kernel_rfl)
 have r':=r.deeper (callEnvC Jk L 928) (m:=1) (by decide);have m2':=m2;unfold cj at m2';refine ad ?_;k_extra"MM";refine e8 b m1 m2 r' hk (by decide) ?_;k_extra"MX";refine PH ?_;k_extra"MX";refine vC ?_;refine bT ?_;refine ⟨?_,rfl⟩
 by_cases h:Builtin.bitAnd v 8=0<;>simp [h]
theorem Bu (b:ah x) (r:Rm A 2) (m1:(m,SO.inst 1069 dm)∈O) (m2:(dm,SO.attrs (cj buf hd pos num idx dec))∈O) (hk:hd[5]? = some v) :
  au x A (.ref 944) [.stat (.ref m)] O (fun d' O'=>d'=.bool (Builtin.bitAnd v 32 != 0)∧O'=O) E:=by
 refine aJ (fd:=Jj) (names:=[S "self"]) (dx:=[]) b (fun P=>by kernel_rfl) (fun P=>by kernel_rfl) (by decide +kernel) r [] ?_ (fun _=>.nil) [(S "self",.stat (.ref m))] rfl fun L=>?_
 ·intro P St;exact aH fun _=>bM (by kernel_rfl)
 have r':=r.deeper (callEnvC Jj L 944) (m:=1) (by decide);have m2':=m2;unfold cj at m2';refine ad ?_;k_extra"MM";refine e8 b m1 m2 r' hk (by decide) ?_;k_extra"MX";refine PH ?_;refine bT ?_;exact ⟨rfl,rfl⟩
noncomputable def fU (size off ts:Int) (tt:Int) (key val:Option (List UInt8)) (hs:List D):List (Str×D) :=
 [(S "_size_in_bytes",.int size),(S "_offset",.int off),(S "_timestamp",.int ts),(S "_timestamp_type",.int tt),(S "_key",pD key),(S "_value",pD val),(S "_headers",.lst hs)]
theorem nU {size off ts tt:Int} (b:ah x) (r:Rm A 1) [Pk C] [aQ C (S "_size_in_bytes")] [aQ C (S "_offset")] [aQ C (S "_timestamp")] [aQ C (S "_timestamp_type")] [aQ C (S "_key")] [aQ C (S "_value")] [aQ C (S "_headers")] :
  au x A (.ref 1085) [.stat (.ref m),.int size,.int off,.int ts,.int tt,pD key,pD val,.lst hs] ((m,SO.inst C dm)::(dm,SO.attrs [])::O)
   (fun d O'=>d=.none∧O'=(m,SO.inst C dm)::(dm,SO.attrs (fU size off ts tt key val hs))::O) E:=by
 refine aJ (fd:=K4) (names:=[S "self",S "size_in_bytes",S "offset",S "timestamp",S "timestamp_type",S "key",S "value",S "headers"]) (dx:=[]) b (fun P=>by kernel_rfl) (fun P=>by kernel_rfl) (by decide +kernel) r [] ?_ (fun _=>.nil)
  [(S "headers",.lst hs),(S "value",pD val),(S "key",pD key),(S "timestamp_type",.int tt),(S "timestamp",.int ts),(S "offset",.int off),(S "size_in_bytes",.int size),(S "self",.stat (.ref m))] rfl fun L=>?_
 ·intro P St;exact aH fun _=>aH fun _=>aH fun _=>aH fun _=>aH fun _=>aH fun _=>aH fun _=>aH fun _=>bM (by kernel_rfl)
 skip;refine ad ?_;k_extra"MX";exact jY ⟨rfl,rfl⟩
theorem wv (b:ah x) (r:Rm A 1) (m1:(m,SO.inst 1227 dm)∈O) (m2:(dm,SO.attrs fs)∈O) (e:lk fs (S "_type")=some (.int v)) :
  au x A (.ref 1208) [.stat (.ref m)] O (fun d' O'=>d'=.bool (v==0)∧O'=O) E:=by
 refine aJ (fd:=KW) (names:=[S "self"]) (dx:=[]) b (fun P=>by kernel_rfl) (fun P=>by kernel_rfl) (by decide +kernel) r [] ?_ (fun _=>.nil) [(S "self",.stat (.ref m))] rfl fun L=>?_
 ·intro P St;exact aH fun _=>bM (by kernel_rfl)
 refine ad ?_;k_extra"MX";exact bT ⟨rfl,rfl⟩
theorem uy (b:ah x) (r:Rm A 1) (m1:(m,SO.inst 1227 dm)∈O) (m2:(dm,SO.attrs fs)∈O) (e:lk fs (S "_type")=some (.int v)) :
  au x A (.ref 1216) [.stat (.ref m)] O (fun d' O'=>d'=.bool (v==1)∧O'=O) E:=by
 refine aJ (fd:=KV) (names:=[S "self"]) (dx:=[]) b (fun P=>by kernel_rfl) (fun P=>by kernel_rfl) (by decide +kernel) r [] ?_ (fun _=>.nil) [(S "self",.stat (.ref m))] rfl fun L=>?_
 ·intro P St;exact aH fun _=>bM (by kernel_rfl)
 refine ad ?_;k_extra"MX";exact bT ⟨rfl,rfl⟩
end
end
section
section
variable {K:D→Own→Prop}
theorem Jt (h:EvN c e loc O K E):EvB true c e loc O K E:=fun H s Q R q=>yQ (h H s Q R q)
theorem Js {st} (h:ExB true c st loc O KF E):ExN c st loc O KF E:=fun H s Q R q=>Lo (h H s Q R q)
theorem NxB.g {target v} {K:Option D→Own→Prop} {K':Option D→Cx→Own→Prop} (le:c.x.le x) (h:NxB b (c.at x) target v loc O K) (k:∀ od O',K od O'→K' od x O'):NxG b c x target v loc O K':=fun H s Q R q1 q2=>by
 have hM:(c.at x).M=c.M:=by show model x.prog x.w=model c.x.prog c.x.w;rw [le.1.1]
 have z:=h H s Q R (fun H' s' O' z R' l'=>q1 H' s' x O' (k _ _ z) le R' l') fun s' u go=>q2 s' u fun Q' q'=>by
  have y:=go Q' fun H' s'' d O' z R' l' rd=>q' H' s'' d x O' (k _ _ z) le R' l' rd;rw [hM] at y;exact y
 rw [hM] at z;exact z
theorem ag.down {H s} (le:c.x.le x) (R:ag (c.at x) H loc O s):ag c H loc O s:=⟨R.t.down le,R.f,⟨R.o.lH,(by
 cases q:c.x.P c.env.locals with
 |none=>rfl
 |some ob=>have:=R.o.lP;rw [show (c.at x).x.P (c.at x).env.locals=some ob from le.2 _ _ q] at this;cases this),R.o.lO,R.o.cH,fun hw y a e k=>(by
 cases q:c.x.P a with
 |none=>rfl
 |some ob=>have:=R.o.cP hw y a e k;rw [show (c.at x).x.P a=some ob from le.2 _ _ q] at this;cases this),R.o.ca⟩⟩
abbrev NW (I:Value→Nat→Cx→Loc→Own→Prop) (w:Value) (k:Nat) (x:Cx) (KF:Fl→Loc→Own→Prop):Fl→Loc→Own→Prop:=fun f l5 O5=>match f with
 |.next|.cont=>∃ m:Nat,m<k∧I w m x l5 O5
 |.brk=>KF .next l5 O5
 |.ret d=>KF (.ret d) l5 O5
abbrev NU (b:Bool) (c:Cc) (body:List PySem.Stmt) (I:Value→Nat→Cx→Loc→Own→Prop) (w:Value) (k:Nat) (x:Cx) (KF:Fl→Loc→Own→Prop):Loc→Own→Prop:=fun l' O4=>Pq b (c.at x) body l' O4 (NW I w k x KF) NoE
abbrev NV (b:Bool) (c:Cc) (target:PySem.Expr) (body orelse:List PySem.Stmt) (I:Value→Nat→Cx→Loc→Own→Prop) (w:Value) (k:Nat) (l:Loc) (KF:Fl→Loc→Own→Prop):Option D→Cx→Own→Prop:=fun od x O3=>match od with
 |.none=>Pq b (c.at x) orelse l O3 KF NoE
 |some d=>Tgt (c.at x) target d l O3 (NU b c body I w k x KF)
def ItI (c:Cc) (HB:PM) (I:Value→Nat→Cx→Loc→Own→Prop) (w:Value) (n:Nat) (s:Shared):Prop:=∃ H' x l O',HB≤H'∧c.x.le x∧I w n x l O'∧ag (c.at x) H' l O' s
theorem Hh {target iter body orelse p} (hs:∀ x,foldedSetIterable iter c.env x=pure x) (I:Value→Nat→Cx→Loc→Own→Prop)
  (h:Ev c iter loc O (fun d O₁=>∀ H s Q v,ag c H loc O₁ s→ac H v d→(∀ H' s' w n x' O2,c.x.le x'→I w n x' loc O2→ag (c.at x') H' loc O2 s'→H≤H' →
   (∀ k x l O',c.x.le x→I w k x l O'→NxG b c x target w l O' (NV b c target body orelse I w k l KF))→Q w s')→wpB b c.M c.A (pyIter v) Q E s) E):ExB b c (.For target iter body orelse p) loc O KF E:=fun H s Q R q=>by
 refine yT (h H s _ R fun H₁ sA v d O₁ h_1 R1 le1 rA=>h_1 H₁ sA _ v R1 rA fun HB s2 w n xB O2 lx2 iB R2 le2 turn=>?_) hs;have le0:=Pt le1 le2;have hM:∀ x,c.x.le x→(c.at x).M=c.M:=fun x le=>by show model x.prog x.w=model c.x.prog c.x.w;rw [le.1.1]
 refine tw (ItI c HB I w) (fun k s3 hI=>?_) n ⟨HB,xB,loc,O2,Pr _,lx2,iB,R2⟩;obtain ⟨H3,x3,lC,O3,le3,lx3,i3,R3⟩:=hI;refine turn k x3 lC O3 lx3 i3 H3 s3 _ R3 (fun H4 s4 x4 O4 h_4 lx4 R4 le4=>?_) fun s4 u go=>?_
 ·have z:=h_4 H4 s4 _ R4 fun H' s' f g l O' k R' le' fi=>q H' s' f g l O' k (R'.down lx4) (Pt le0 (Pt le3 (Pt le4 le'))) fi;rw [hM _ lx4] at z;exact cn z (fun _ _ x=>x) fun _ _ x=>x
 ·refine go _ fun H4 s4 d x4 O4 h_4 lx4 R4 le4 rd=>?_
  have z:=h_4 H4 s4 (fun _ s2=>wpB b (model c.x.prog c.x.w) c.A (execs body c.env) (JX (fun s3=>∃ m,m<k∧ItI c HB I w m s3) Q) (fun _ _=>False) s2) u R4 rd fun H5 s5 l5 O5 h_5 R5 le5=>by
   have z:=h_5 H5 s5 (JX (fun s3=>∃ m,m<k∧ItI c HB I w m s3) Q) R5 fun H6 s6 f g l6 O6 h_6 R6 le6 fi=>by
    have leH:=Pt le3 (Pt le4 (Pt le5 le6));have on:(∃ m,m<k∧I w m x4 l6 O6)→∃ m,m<k∧ItI c HB I w m s6:=fun h=>h.elim fun m h=>⟨m,h.1,H6,x4,l6,O6,leH,lx4,h.2,R6⟩
    cases fi with
    |next=>exact on h_6
    |cont=>exact on h_6
    |brk=>exact q _ _ _ _ _ _ h_6 (R6.down lx4) (Pt le0 leH) .next
    |ret r=>exact q _ _ _ _ _ _ h_6 (R6.down lx4) (Pt le0 leH) (.ret r)
   rw [hM _ lx4] at z;exact z
  rw [hM _ lx4] at z;exact z
theorem uQ {α:Type} {z:Prop} [Decidable z] {k:PUnit→Sem α} {Q:α→Shared→Prop} (h:wpB b M A (k ()) Q E s):wpB b M A (if z then (standAt pos>>=k) else k ()) Q E s:=by
 split
 ·exact av (Ws h)
 ·exact h
theorem Go {α:Type} {Q:α→Shared→Prop} {h1:Comprehension→List Comprehension→Sem α} {h2:Comprehension→List Comprehension→Sem α} {h3:Bool→List Comprehension→Sem α} (e:cs=g::gs) (q:wpB b M A (h2 g gs) Q E s):wpB b M A (PySem.comprehension.match_1 (fun _ _=>Sem α) false cs h1 h2 h3) Q E s:=by subst e;exact q
theorem PU {M:Model} {Q:Value→Shared→Prop} {l l2:List Value} {g1 g2:Sem Unit} {code:Code} {acc:Value} {cenv:Env} {use:Option (Value→Sem Unit)} (h:dY b M A code (compPost M A E use Q acc cenv.locals) s)
  (go1:∀ s' m E' (Q':Unit→Shared→Prop),s'.heap.Ns cenv.locals m→(∀ h',Heap.SameBut cenv.locals s'.heap h'→Q' () {s' with heap:=h'})→wpAny M A g1 Q' E' s')
  (go2:∀ s' m E' (Q':Unit→Shared→Prop),s'.heap.Ns cenv.locals m→(∀ h',Heap.SameBut cenv.locals s'.heap h'→Q' () {s' with heap:=h'})→wpAny M A g2 Q' E' s') :
  wpB b M A (holding [.ref cenv.locals] ((holding l (run code)).attempt>>=fun r=>PySem.comprehension.match_3 (fun _ _=>Sem Value) r use (fun _=>holding [acc] g1>>=fun _=>pure acc)
   (fun _ u=>rule "comprehension.stores-exchanged">>=fun _=>holding l2 (u acc)>>=fun _=>g2>>=fun _=>pure .none) (fun x _=>holding [x] g1>>=fun _=>passOn "comprehension.variables-let-go" x cenv))) Q E s:=by
 refine ga (bD (uS (ga (yR (ym h fun r s' hr=>?_)))))
 cases r with
 |ok f =>
  cases use with
  |none=>exact al hr fun m hn hr=>av (Wh (go1 s' m _ _ hn fun h' hs'=>ba (hr h' hs')))
  |some u=>exact av (wpAny_rule (av (Wh (Wm hr (fun _ s'' hr'=>al hr' fun m hn hr'=>av (go2 s'' m _ _ hn fun h' hs'=>ba (hr' h' hs'))) fun _ _ h'=>h'))))
 |error x =>
  have hr':∃ m,s'.heap.Ns cenv.locals m∧∀ h',Heap.SameBut cenv.locals s'.heap h'→∀ cenv':Env,cenv'.locals=cenv.locals→wpAny M A (passOn "comprehension.variables-let-go" x cenv':Sem Value) (fun _ _=>False) E {s' with heap:=h'}:=by cases use<;>exact hr
  exact al hr' fun m hn hr=>av (Wh (go1 s' m _ _ hn fun h' hs'=>dg (Wm (hr h' hs' _ rfl) (fun _ _ f=>f.elim) fun _ _ y=>y)))
theorem gc {newAcc first:Sem Value} {cl:List (Str×Addr)} {use:Option (Value→Sem Unit)}
  (hcl:clausesOf e=g::gs) (hs:∀ x,foldedSetIterable g.iter env x=pure x) (hclos:closureFor scope env=pure cl)
  (hkind:scope.kind=.function) (hnames:∀ x∈scope.names,x.2=.local→scope.names.lookup x.1=some .local)
  (h:wpAny (model prog w) A first (fun x sA=>wpAny (model prog w) A (pyIter x) (fun it s2=>wpAny (model prog w) A newAcc (fun acc s3 =>
   wpAny (model prog w) A (newFunctionEnv scope env.globals cl [] env.qual none .none (some env)) (fun cenv s4 =>
    dY b (model prog w) A (.compStart e 0 it acc {cenv with scope:=relabel scope env}) (compPost (model prog w) A E use Q acc cenv.locals) s4) E s3) E s2) E sA) E s) :
  wpB b (model prog w) A (comprehension e scope env pos newAcc false first use) Q E s:=by
 unfold comprehension;refine av (Wm h (fun x sA h_1=>?_) fun _ _ h'=>h');refine av (Ws (Go hcl (av (Wq (hs x) (av (Wh (Wm h_1 (fun it s2 h_2=>?_) fun _ _ h'=>h')))))));refine uQ (av (Wm h_2 (fun acc s3 h_3=>av (Wq hclos (av (Wm h_3 (fun cenv s4 h_4=>?_) fun _ _ h'=>h')))) fun _ _ h'=>h'))
 have hv:∀ x∈(scope.names.filter fun x=>(x.2==.local||x.2==.cell)&&x.1 != (".0":Str)).reverse,x.2=.local →
   Env.kindOf {cenv with scope:=relabel scope env} x.1=some .local:=fun x hx hl=>lookup_relabel_local (hnames x (List.mem_filter.mp (List.mem_reverse.mp hx)).1 hl)
 exact PU h_4 (fun s' m _ _ hn k=>wpAny_comp_letGo (cenv:={cenv with scope:=relabel scope env}) hkind _ s' m hv hn fun h' m' _ hs'=>k h' hs')
  fun s' m _ _ hn k=>wpAny_comp_letGo (cenv:={cenv with scope:=relabel scope env}) hkind _ s' m (fun x hx=>(List.mem_append.mp hx).elim (fun h1=>hv x (List.mem_of_mem_drop h1)) fun h1=>hv x (List.mem_of_mem_take h1)) hn fun h' m' _ hs'=>k h' hs'
theorem wf (ok:dw c.env scope) (hs:jq iter=true)
  (h:Ev c iter loc O (fun d O₁=>Op c (fun vs=>pyIter (vs.headD .none)) [d] loc O₁ (fun it O2=>∃ (v:Value) (n:Nat) (I:Nat→List D→Own→Prop),it=.stat v∧I n [] O2 ∧
   (∀ x',c.x.le x'→bI x' c.A (fun vs=>pyIter (vs.headD .none)) [.stat v] O2 (fun d O'=>d=.stat v∧O'=O2) NoE)∧EW b c loc scope target elt ifs v I (fun acc O3=>K (.lst acc) O3)) E) E) :
  EvB b c (.ListComp elt [⟨target,iter,ifs,0⟩] scope pos) loc O K E:=fun H s Q R q=>by
 rw [eval_ListComp];refine gc (use:=.none) rfl (fK hs) (c8 ok.clos) ok.kind ok.loc (h H s _ R fun H₁ sA v d O₁ h_1 R1 le1 rA=>h_1 H₁ sA _ [v] R1 (.one rA) fun HB s2 vB dB O2 h_2 R2 le2 rB=>?_);refine bK h_2 fun w n I q1 q2=>?_;obtain rfl:=q1;refine gB q2 fun i0 self turn=>?_
 cases rB using ac.cStat
 have le0:=Pt le1 le2;refine qH (RR:=fun acc C=>compPost c.M c.A E .none Q acc C) I ok R2 i0 turn self fun D C H' s' acc O' m hF R' le' rd nC aw=>?_;exact ⟨m,nC,fun h' sb=>q H' {s' with heap:=h'} _ _ O' hF (R'.keepBut (s':={s' with heap:=h'}) aw fun b ob hb e=>(sb.2 b hb).trans e) (Pt le0 le') rd⟩
theorem n8 {pos p:Pos} (ok:dw c.env scope) (hf:ey c.env) (hk:c.env.kindOf y=some .local) (hs:jq iter=true)
  (hsw:swapsWith (.ListComp elt [⟨target,iter,ifs,0⟩] scope pos) (some (.Name y py)) p.line c.env=pure true)
  (h:Ev c iter loc O (fun d O₁=>Op c (fun vs=>pyIter (vs.headD .none)) [d] loc O₁ (fun it O2=>∃ (v:Value) (n:Nat) (I:Nat→List D→Own→Prop),it=.stat v∧I n [] O2 ∧
   (∀ x',c.x.le x'→bI x' c.A (fun vs=>pyIter (vs.headD .none)) [.stat v] O2 (fun d O'=>d=.stat v∧O'=O2) NoE)∧EW b c loc scope target elt ifs v I (fun acc O3=>KF .next ((y,.lst acc)::loc) O3)) E) E) :
  ExB b c (.Assign [.Name y py] (.ListComp elt [⟨target,iter,ifs,0⟩] scope pos) p) loc O KF E:=fun H s Q R q=>by
 rw [exec_Assign_Name_used _ _ _ _ hsw];refine av (Ws (bD ?_))
 show wpB b _ c.A (do let _ ← comprehension (.ListComp elt [⟨target,iter,ifs,0⟩] scope pos) scope c.env _ (newList []) false (eval iter c.env) (some (assign (.Name y py) c.env))) _ _ s
 refine bD (cn (gc (use:=some (assign (.Name y py) c.env)) (Q:=fun _ s'=>Q .next s') rfl (fK hs) (c8 ok.clos) ok.kind ok.loc
  (h H s _ R fun H₁ sA v d O₁ h_1 R1 le1 rA=>h_1 H₁ sA _ [v] R1 (.one rA) fun HB s2 vB dB O2 h_2 R2 le2 rB=>?_)) (fun _ s' hq=>ba (ba hq)) fun _ _ e=>e)
 refine bK h_2 fun w n I q3 q4=>?_;obtain rfl:=q3;refine gB q4 fun i0 self turn=>?_
 cases rB using ac.cStat
 have le0:=Pt le1 le2;refine qH (RR:=fun acc C=>compPost c.M c.A E (some (assign (.Name y py) c.env)) (fun _ s'=>Q .next s') acc C) I ok R2 i0 turn self fun D C H' s' acc O' m hF R' le' rd nC aw=>?_
 show wpAny _ c.A (assign (.Name y py) c.env (.ref D)) _ _ _
 refine wpAny_assign_Name (wpAny_storeName_local hk R'.f.ns.choose_spec.1 (fun h' hn sb=>?_) (by rw [hf.kind];rfl));refine ⟨m,nC.sameBut sb aw.l,fun h'' sb'=>?_⟩;have R3:=ag.store (t:=s'.toks+1) R' rd hn sb hk;have R4:=R3.keepBut (s':={s' with heap:=h'',toks:=s'.toks+1}) aw fun b ob hb e=>(sb'.2 b hb).trans e;exact q H' _ _ .next _ O' hF R4 (Pt le0 le') .next
end
end
theorem vW {P:Addr→Prop} {L L':Own} (e:L'.map (·.1)=L.map (·.1)) (h:∀ p∈L,P p.1):∀ p∈L',P p.1:=fun p hp=>by
 have m:p.1∈L'.map (·.1):=List.mem_map_of_mem hp;rw [e] at m;exact al (List.mem_map.mp m) fun q hq (z:q.1=p.1)=>z▸h q hq
theorem td {F F':Own} (hk:F'.map (·.1)=F.map (·.1)):(F'++O).map (·.1)=(F++O).map (·.1):=by rw [List.map_append,List.map_append,hk]
theorem AQ {F:Own} (h:∀ p∈F++O,p.1≠a):a∉F.map (·.1):=fun hm=>al (List.mem_map.mp hm) fun q hq e=>h q (List.mem_append_left _ hq) e
theorem az.apH {x H O s} (R:az x H O s) (e:H a=some o):∀ p∈O,p.1≠a:=fun p hp z=>aS e ((Cg H z).symm.trans (R.dH p hp))
theorem az.apP {x H O s} (R:az x H O s) {o} (e:x.P a=some o):∀ p∈O,p.1≠a:=fun p hp z=>aS e ((Cg x.P z).symm.trans (R.dP p hp))
theorem az.same {x H} (R:az x H (F++O) s) (keep:∀ b o,b∉F.map (·.1)→s.heap.get? b=some o→s'.heap.get? b=some o):∀ p∈O,jb H s'.heap p.1 p.2:=fun p hp =>
 have z:=R.hO p (List.mem_append_right _ hp)
 z.there.elim fun o e=>z.same ((keep _ _ (fun hm=>(List.nodup_append.mp (List.map_append▸R.nd)).2.2 _ hm _ (List.mem_map_of_mem hp) rfl) e).trans e.symm)
theorem az.turn {F F':Own} (R:az x H (F++O) s) (hk:F'.map (·.1)=F.map (·.1)) (keep:∀ b o,b∉F.map (·.1)→s.heap.get? b=some o→s'.heap.get? b=some o)
  (hF:∀ p∈F',jb H s'.heap p.1 p.2) (hg:s'.gens=s.gens:=by rfl) (ho:s'.os=s.os:=by rfl) (hd:s'.drawn=s.drawn:=by rfl):az x H (F'++O) s' :=
 ⟨fun g st e=>hg▸R.gens g st e,ho.trans R.os,hd.trans R.drawn,fun a o e=>keep _ _ (AQ (R.apH e)) (R.hH a o e),fun a o b e=>al (R.hP a o b e) fun o' e' r=>⟨o',keep _ _ (AQ (R.apP e)) e',r⟩,
  List.forall_mem_append.mpr ⟨hF,R.same keep⟩,td hk▸R.nd,vW (P:=fun a=>H a=.none) (td hk) R.dH,vW (P:=fun a=>x.P a=.none) (td hk) R.dP,R.dHP,hg▸R.bare,R.hB⟩
theorem Pl.out {env H loc} {F:Own} {h':Heap} (f:Pl env H loc h) (keep:∀ b o,b∉F.map (·.1)→h.get? b=some o→h'.get? b=some o) (hl:∀ p∈F++O,p.1≠env.locals) (hc:∀ y c,(y,c)∈env.cells→∀ p∈F++O,p.1≠c):Pl env H loc h' :=
 f.to (Pr _) (fun m n=>t9 n fun o e=>⟨o,keep _ _ (AQ hl) e,rfl⟩) (fun b v y hm n=>gK n fun o e=>⟨o,keep _ _ (AQ (hc y b hm)) e,rfl⟩) fun _ _=>bQ
theorem ag.turn {F F':Own} (R:ag c H loc (F++O) s) (hk:F'.map (·.1)=F.map (·.1)) (keep:∀ b o,b∉F.map (·.1)→s.heap.get? b=some o→s'.heap.get? b=some o)
  (hF:∀ p∈F',jb H s'.heap p.1 p.2) (hg:s'.gens=s.gens:=by rfl) (ho:s'.os=s.os:=by rfl) (hd:s'.drawn=s.drawn:=by rfl):ag c H loc (F'++O) s' :=
 ⟨R.t.turn hk keep hF hg ho hd,R.f.out keep R.o.lO fun y b e=>(R.o.cH y b e).2.2,⟨R.o.lH,R.o.lP,vW (P:=(·≠c.env.locals)) (td hk) R.o.lO,fun y b z=>gB (R.o.cH y b z) fun i j k=>⟨i,j,vW (P:=(·≠b)) (td hk) k⟩,R.o.cP,R.o.ca⟩⟩
structure mA (H:PM) (f:Nat→Obj→Prop) (ds:List D):Prop where
 item:∀ (prog:Program) (w:World) (A:Around) (E:Value→Shared→Prop) (s:Shared) (Q:Value→Shared→Prop) (it:Addr) (k:Nat) (d:D),(∃ o,s.heap.get? it=some o∧f k o)→(∀ a o,H a=some o→s.heap.get? a=some o)→ds[k]? = some d →
  (∀ h' tk v,(∃ o,h'.get? it=some o∧f (k+1) o)→Heap.SameBut it s.heap h'→ac H v d→Q v {s with heap:=h',toks:=tk})→wpAny (model prog w) A (Builtin.SmallTypes.nextOf (.ref it)) Q E s
 stop:∀ (prog:Program) (w:World) (A:Around) (E:Value→Shared→Prop) (s:Shared) (Q:Value→Shared→Prop) (it:Addr) (k:Nat),A.handled=.none→(∃ o,s.heap.get? it=some o∧f k o)→(∀ a o,H a=some o→s.heap.get? a=some o)→ds[k]? = .none →
  (∀ h' e,Heap.ExtBut it s.heap h'→(∃ o,h'.get? e=some o∧o.cls=.type "StopIteration")→E (.ref e) {s with heap:=h'})→wpAny (model prog w) A (Builtin.SmallTypes.nextOf (.ref it)) Q E s
theorem mA.next (I:mA H f ds) {k:Nat} (hh:A.handled=.none) (ho:∃ o,s.heap.get? it=some o∧f k o) (hH:∀ a o,H a=some o→s.heap.get? a=some o)
  (q:∀ d,ds[k]? = some d→∀ h' tk v,(∃ o,h'.get? it=some o∧f (k+1) o)→Heap.SameBut it s.heap h'→ac H v d→Q v {s with heap:=h',toks:=tk})
  (qe:ds[k]? = .none→∀ h' e,Heap.ExtBut it s.heap h'→(∃ o,h'.get? e=some o∧o.cls=.type "StopIteration")→E (.ref e) {s with heap:=h'}):wpAny (model prog w) A (Builtin.SmallTypes.nextOf (.ref it)) Q E s:=by
 cases e:ds[k]? with
 |none=>exact I.stop _ _ _ _ _ _ _ _ hh ho hH e (qe e)
 |some d=>exact I.item _ _ _ _ _ _ _ _ _ ho hH e (q d e)
structure uJ (z TI TO i1 i2:Addr):Prop where
 TIz:TI≠z
 TOz:TO≠z
 i1z:i1≠z
 i2z:i2≠z
 TOi1:TO≠i1
 TOi2:TO≠i2
 i12:i1≠i2
 TITO:TI≠TO
 TIi1:TI≠i1
 TIi2:TI≠i2
theorem uJ.of {l:List Addr} (h:(z::TI::TO::i1::i2::l).Nodup):uJ z TI TO i1 i2:=by
 have h1:=List.nodup_cons.mp h;have h2:=List.nodup_cons.mp h1.2;have h3:=List.nodup_cons.mp h2.2;have h4:=List.nodup_cons.mp h3.2;exact ⟨fun e=>h1.1 (e▸.head _),fun e=>h1.1 (e▸.tail _ (.head _)),fun e=>h1.1 (e▸.tail _ (.tail _ (.head _))),fun e=>h1.1 (e▸.tail _ (.tail _ (.tail _ (.head _)))),fun e=>h3.1 (e▸.head _),fun e=>h3.1 (e▸.tail _ (.head _)),fun e=>h4.1 (e▸.head _),fun e=>h2.1 (e▸.head _),fun e=>h2.1 (e▸.tail _ (.head _)),fun e=>h2.1 (e▸.tail _ (.tail _ (.head _)))⟩
theorem BJ {m:Value} (hz:IsZip h z TI TO m) (hoe:h.get? e=some oe) (hc:oe.cls=.type "StopIteration"):e≠z:=fun x=>by
 subst x;rw [hz] at hoe
 cases hoe
 simp at hc
theorem BI {f1 f2:Nat→Obj→Prop} {ds1 ds2:List D} {z TI TO i1 i2:Addr} {k:Nat} {a b:Value} {Q:Value→Shared→Prop} (hh:A.handled=.none) (I1:mA H f1 ds1) (I2:mA H f2 ds2) (Ap:uJ z TI TO i1 i2)
  (hz:IsZip s.heap z TI TO .none) (hTI:IsPair s.heap TI (.ref i1) (.ref i2)) (hTO:IsPair s.heap TO a b) (h1:∃ o,s.heap.get? i1=some o∧f1 k o) (h2:∃ o,s.heap.get? i2=some o∧f2 k o)
  (hH:∀ a o,H a=some o→s.heap.get? a=some o) (hne:∀ a o,H a=some o→a≠z∧a≠TO∧a≠i1∧a≠i2)
  (hQ:∀ d1 d2,ds1[k]? = some d1→ds2[k]? = some d2→∀ h' tk x y,IsZip h' z TI TO (rawInt s.heap.objs.size)→IsPair h' TO x y→(∃ o,h'.get? i1=some o∧f1 (k+1) o)→(∃ o,h'.get? i2=some o∧f2 (k+1) o)→IsPair h' s.heap.objs.size x y→ac H x d1→ac H y d2 →
   (∀ c o,c≠z→c≠TO→c≠i1→c≠i2→s.heap.get? c=some o→h'.get? c=some o)→Q (.ref s.heap.objs.size) {s with heap:=h',toks:=tk})
  (hE:ds1[k]? = .none∨ds2[k]? = .none→∀ h' tk e,(∀ c o,c≠z→c≠TO→c≠i1→c≠i2→s.heap.get? c=some o→h'.get? c=some o)→(∃ o,h'.get? e=some o∧o.cls=.type "StopIteration")→E (.ref e) {s with heap:=h',toks:=tk}) :
  wpAny (model prog w) A (Builtin.«zip.__next__» ⟨[.ref z],[]⟩) (fun fin s'=>∃ v,fin=.done (.ret v)∧Q v s') E s:=by
 refine Wb (m:=field _ _) (wpAny_field hz rfl (x:=.bool false) rfl ?_);refine Wb (m:=field _ _) (wpAny_field hz rfl (x:=.ref TI) rfl ?_);refine Wb (wpAny_seqItems hTI rfl ?_);refine Wb (m:=Builtin.SmallTypes.ownedTupleIsFree _) (Wb (m:=field _ _) (wpAny_field hz rfl (x:=.none) rfl (Wp (wpAny_ite_true rfl ?_))));refine Wb (wpAny_rule ?_);refine Wb (wpAny_field hz rfl (x:=.ref TO) rfl ?_);refine wpAny_bind (wpAny_setField_rec hz (by simp) fun h_1 hz1 hs1=>?_);replace hz1:IsZip h_1 z TI TO .ellipsis:=hz1;refine Wb ?_;simp only [List.zipIdx_cons,List.zipIdx_nil,List.forIn_cons,List.forIn_nil];have up1:=fun c o (c1:c≠z) e=>hs1.extBut c o c1 e;refine Wb (Wb (wpAny_onRaise ?_));refine Wb (m:=Builtin.SmallTypes.nextOf _) (I1.next hh (al h1 fun o e r=>⟨o,up1 _ _ Ap.i1z e,r⟩) (fun a o e=>up1 _ _ (hne a o e).1 (hH a o e)) (fun d1 e1 h_2 tk2 x h1B hs2 rx=>Wp ?_) fun e1 h_2 e hs2 he=>?_)
 ·have hTO2:IsPair h_2 TO a b:=hs2.extBut _ _ Ap.TOi1 (up1 _ _ Ap.TOz hTO);refine Wb (wpAny_seqItems hTO2 rfl ?_);refine Wb (wpAny_updateSeq_pair hTO2 fun h_3 hTO3 hs3=>?_);replace hTO3:IsPair h_3 TO x b:=hTO3;refine Wb (wpAny_letGo (Wp ?_));have up3:=fun c o (c1:c≠z) (c2:c≠TO) (c3:c≠i1) e=>hs3.extBut c o c2 (hs2.extBut _ _ c3 (up1 _ _ c1 e));refine Wb (Wb (wpAny_onRaise ?_));refine Wb (m:=Builtin.SmallTypes.nextOf _) (I2.next hh (al h2 fun o e r=>⟨o,up3 _ _ Ap.i2z Ap.TOi2.symm Ap.i12.symm e,r⟩) (fun a o e=>nP (hne a o e) fun n1 n2 n3 _=>up3 _ _ n1 n2 n3 (hH a o e)) (fun d2 e2 h_4 tk4 y h24 hs4 ry=>Wp ?_) fun e2 h_4 e hs4 he=>?_)
  ·have hTO4:IsPair h_4 TO x b:=hs4.extBut _ _ Ap.TOi2 hTO3;refine Wb (wpAny_seqItems hTO4 rfl ?_);refine Wb (wpAny_updateSeq_pair hTO4 fun h_5 hTO5 hs5=>?_);replace hTO5:IsPair h_5 TO x y:=hTO5;refine Wb (wpAny_letGo (Wp (Wp ?_)));refine Wb (wpAny_seqItems hTO5 rfl ?_);refine Wb (wpAny_newTuple ?_);have hsz:h_5.objs.size=s.heap.objs.size:=hs5.1.trans (hs4.1.trans (hs3.1.trans (hs2.1.trans hs1.1)));have hz5:IsZip h_5 z TI TO .ellipsis:=hs5.extBut _ _ Ap.TOz.symm (hs4.extBut _ _ Ap.i2z.symm (hs3.extBut _ _ Ap.TOz.symm (hs2.extBut _ _ Ap.i1z.symm hz1)));have hzlt:h_5.objs.size≠z:=Nat.ne_of_gt (Heap.lt_size hz5);refine Wb (m:=Builtin.SmallTypes.ownedTupleHandOut _ _) ?_;refine wpAny_bind (wpAny_setField_rec (Heap.get?_push_of_some _ hz5) (by simp) fun hG hz7 hs7=>?_);refine wpAny_setField_rec hz7 (by simp) fun h_8 hz8 hs8=>wpAny_pure ⟨_,rfl,?_⟩;have up:=fun c o (c1:c≠z) e=>hs8.extBut c o c1 (hs7.extBut _ _ c1 e);have hT8:IsPair h_8 h_5.objs.size x y:=up _ _ hzlt (Hs _ rfl);have up:=fun c o (c1:c≠z) (e:h_5.get? c=some o)=>up c o c1 (Hp _ e);refine (?_:Q (.ref h_5.objs.size) _);rw [hsz] at hT8 ⊢;exact hQ d1 d2 e1 e2 h_8 tk4 x y (hsz▸hz8) (up _ _ Ap.TOz hTO5) (al h1B fun o e r=>⟨o,up _ _ Ap.i1z (hs5.extBut _ _ Ap.TOi1.symm (hs4.extBut _ _ Ap.i12 (hs3.extBut _ _ Ap.TOi1.symm e))),r⟩) (al h24 fun o e r=>⟨o,up _ _ Ap.i2z (hs5.extBut _ _ Ap.TOi2.symm e),r⟩) hT8 rx ry fun c o c1 c2 c3 c4 e=>up c o c1 (hs5.extBut _ _ c2 (hs4.extBut _ _ c4 (up3 c o c1 c2 c3 e)))
  ·refine al he fun oe hoe hce=>?_;have hz4:IsZip h_4 z TI TO .ellipsis:=hs4 _ _ Ap.i2z.symm (hs3.extBut _ _ Ap.TOz.symm (hs2.extBut _ _ Ap.i1z.symm hz1));exact wpAny_setField_rec hz4 (by simp) fun h_5 _ hs5=>hE (.inr e2) h_5 _ e (fun c o c1 c2 c3 c4 x=>hs5.extBut _ _ c1 (hs4 _ _ c4 (up3 c o c1 c2 c3 x))) ⟨oe,hs5.extBut _ _ (BJ hz4 hoe hce) hoe,hce⟩
 ·refine al he fun oe hoe hce=>?_;have hz2:IsZip h_2 z TI TO .ellipsis:=hs2 _ _ Ap.i1z.symm hz1;exact wpAny_setField_rec hz2 (by simp) fun h_3 _ hs3=>hE (.inl e1) h_3 _ e (fun c o c1 _ c3 _ x=>hs3.extBut _ _ c1 (hs2 _ _ c3 (up1 _ _ c1 x))) ⟨oe,hs3.extBut _ _ (BJ hz2 hoe hce) hoe,hce⟩
theorem ag.lose {F:Own} (R:ag c H loc (F++O) s) (keep:∀ b o,b∉F.map (·.1)→s.heap.get? b=some o→s'.heap.get? b=some o)
  (hg:s'.gens=s.gens:=by rfl) (ho:s'.os=s.os:=by rfl) (hd:s'.drawn=s.drawn:=by rfl):ag c H loc O s' :=
 have S:=R.sub (O':=O) (List.sublist_append_right F O)
 ⟨⟨fun g st e=>hg▸R.t.gens g st e,ho.trans R.t.os,hd.trans R.t.drawn,fun a o e=>keep _ _ (AQ (R.t.apH e)) (R.t.hH a o e),fun a o b e=>al (R.t.hP a o b e) fun o' e' r=>⟨o',keep _ _ (AQ (R.t.apP e)) e',r⟩,R.t.same keep,S.t.nd,S.t.dH,S.t.dP,R.t.dHP,hg▸R.t.bare,R.t.hB⟩,
  R.f.out keep R.o.lO fun y b e=>(R.o.cH y b e).2.2,S.o⟩
noncomputable def pv (z TI TO i1 i2:Addr) (f1 f2:Obj→Prop) (r1 r2:List (Value×D)):Own :=
 [(z,.raw (fun o=>o={cls:=.type "zip",dict:=.none,data:=.fields #[.none,.bool false,.bool false,.ref TI,.ref TO],slots:=#[]}) []),(TI,.raw (fun o=>o={cls:=.type "tuple",data:=.seq #[.ref i1,.ref i2]}) []),
  (TO,.raw (fun o=>∃ a b,o={cls:=.type "tuple",data:=.seq #[a,b]}) []),(i1,.raw f1 r1),(i2,.raw f2 r2)]
theorem NG {c z TI TO i1 i2:Addr} (h:c∉[z,TI,TO,i1,i2]):c≠z∧c≠TO∧c≠i1∧c≠i2:=⟨fun e=>h (e▸.head _),fun e=>h (e▸.tail _ (.tail _ (.head _))),fun e=>h (e▸.tail _ (.tail _ (.tail _ (.head _)))),fun e=>h (e▸.tail _ (.tail _ (.tail _ (.tail _ (.head _)))))⟩
theorem CS {r1 r2:List (Value×D)} {f1 f2:Nat→Obj→Prop} {ds1 ds2:List D} {z TI TO i1 i2:Addr} {k:Nat} {K:Option D→Own→Prop} {elts:List PySem.Expr} {x1} {pos:Pos} (hh:c.A.handled=.none) (I1:∀ H,(∀ p∈r1,ac H p.1 p.2)→mA H f1 ds1) (I2:∀ H,(∀ p∈r2,ac H p.1 p.2)→mA H f2 ds2)
  (h0:ds1[k]? = .none∨ds2[k]? = .none→K .none O) (h1:∀ d1 d2,ds1[k]? = some d1→ds2[k]? = some d2→K (some (.tup [d1,d2])) (pv z TI TO i1 i2 (f1 (k+1)) (f2 (k+1)) r1 r2++O)) :
  NxB b c (.Tuple elts x1 pos) (.ref z) loc (pv z TI TO i1 i2 (f1 k) (f2 k) r1 r2++O) K:=fun H s Q R q0 q1=>dg<|by
 have at':=List.forall_mem_cons.mp R.t.hO;refine dX at'.1 fun oz hz ez _=>?_;have at':=List.forall_mem_cons.mp at'.2;refine dX at'.1 fun oT hTI eT _=>?_;have at':=List.forall_mem_cons.mp at'.2;refine dX at'.1 fun oO hTO eO _=>?_;have at':=List.forall_mem_cons.mp at'.2;refine dX at'.1 fun o1 e1' e1'' k1=>?_;refine dX (List.forall_mem_cons.mp at'.2).1 fun o2 e2' e2'' k2=>?_;subst ez;subst eT;obtain ⟨a,b,rfl⟩:=eO;have Ap:uJ z TI TO i1 i2:=.of R.t.nd
 have hd:∀ p o,H p=some o→p≠z∧p≠TO∧p≠i1∧p≠i2:=fun p o e =>
  have n:=R.t.apH e
  ⟨Ne.symm (n _ (.head _)),Ne.symm (n _ (.tail _ (.tail _ (.head _)))),Ne.symm (n _ (.tail _ (.tail _ (.tail _ (.head _))))),Ne.symm (n _ (.tail _ (.tail _ (.tail _ (.tail _ (.head _))))))⟩
 have hT:s.TypeIs (.ref z) "zip":=⟨_,hz,rfl⟩;have keysOut:∀ {c:Addr},c∉[z,TI,TO,i1,i2]→c≠z∧c≠TO∧c≠i1∧c≠i2:=NG
 refine Wb (wpAny_attempt (wpAny_callSpecial?_slot (name:=Str.ofString "__next__") hT F.slot_zip_next
   (wpAny_call_entry F.slot_zip_next hT F.entry_zip_next (BI hh (I1 H k1) (I2 H k2) Ap hz hTI hTO ⟨o1,e1',e1''⟩ ⟨o2,e2',e2''⟩ R.t.hH hd (fun d1 d2 e1 e2 h' tk x y a1 a2 a3 a4 a5 rx ry hk=>Wp ?_) fun hend h' tk e hk he=>?_) (F.args_zip_next_1 _))))
 ·refine q1 _ _ fun Q' q'=>?_;refine wpAny_letOwnedTupleGo_zip a1 fun h_2 hz2 hs2=>?_;have no:∀ p∈([]:List (Value×D)),ac H p.1 p.2:=fun _ h=>(List.not_mem_nil h).elim
  have R':ag c H loc (pv z TI TO i1 i2 (f1 (k+1)) (f2 (k+1)) r1 r2++O) {s with heap:=h_2,toks:=tk} :=
   R.turn (s':={s with heap:=h_2,toks:=tk}) rfl (fun b o hb e=>nP (keysOut hb) fun n1 n2 n3 n4=>hs2.extBut _ _ n1 (hk b o n1 n2 n3 n4 e)) (List.forall_mem_cons.mpr ⟨⟨_,hz2,rfl,no⟩,
    List.forall_mem_cons.mpr ⟨⟨_,hs2.extBut _ _ Ap.TIz (hk _ _ Ap.TIz Ap.TITO Ap.TIi1 Ap.TIi2 hTI),rfl,no⟩,List.forall_mem_cons.mpr ⟨⟨_,hs2.extBut _ _ Ap.TOz a2,⟨x,y,rfl⟩,no⟩,
    List.forall_mem_cons.mpr ⟨al a3 fun o e r=>⟨o,hs2.extBut _ _ Ap.i1z e,r,k1⟩,List.forall_mem_cons.mpr ⟨al a4 fun o e r=>⟨o,hs2.extBut _ _ Ap.i2z e,r,k2⟩,fun _ h=>(List.not_mem_nil h).elim⟩⟩⟩⟩⟩)
  have fr:=R.fresh;have R'':=R'.addH (a:=s.heap.objs.size) (hs2.extBut _ _ (Nat.ne_of_gt (Heap.lt_size hz)) a5) fr.h (vW (P:=(·≠s.heap.objs.size)) (td (F:=pv z TI TO i1 i2 (f1 k) (f2 k) r1 r2) rfl) fr.o) fr.p fr.l fr.cs;have leT:=Pp (o:={cls:=.type "tuple",data:=.seq #[x,y]}) fr.h;exact q' _ _ _ _ (h1 d1 d2 e1 e2) R'' leT (.tup Ph (.two (rx.mono leT) (ry.mono leT)))
 ·refine al he fun o ho hc=>?_;refine Wb (wpAny_isInstance (T:="StopIteration") (b:=true) ⟨o,ho,hc⟩ isSubtype_stop ?_);exact Wp (q0 H _ O (h0 hend) (R.lose (s':={s with heap:=h',toks:=tk}) fun b o hb e=>nP (keysOut hb) fun n1 n2 n3 n4=>hk b o n1 n2 n3 n4 e) (Pr _))
def gY (l:Addr) (k:Nat) (o:Obj):Prop:=o.cls=.type "list_iterator"∧o.data=.fields #[.ref l,.int k 0]
def g9 (b:List UInt8) (t:Tok) (k:Nat) (o:Obj):Prop:=o.cls=.type "bytes_iterator"∧o.data=.fields #[.bytes b.toArray t,.int k 0]
theorem xG {l:Addr} (e:H l=some ⟨.type "list",.none,.seq (List.toArray vs) n,#[]⟩) (rs:af H vs ds):mA H (gY l) ds where
 item prog w A E s Q it k d ho hH hd q:=by
  refine al ho fun o e1 q12=>?_;obtain ⟨e2,e3⟩:=q12;refine al (rs.get hd) fun v hv rd=>?_;exact wpAny_nextOf_list_item ⟨o,e1,e2,e3⟩ ⟨_,hH _ _ e,rfl,n,rfl⟩ (by simpa using hv) fun h' ⟨o',a1,a2,a3⟩ sb=>q h' _ v ⟨o',a1,a2,a3⟩ sb rd
 stop prog w A E s Q it k hh ho hH hd q:=by
  refine al ho fun o e1 q13=>?_;obtain ⟨e2,e3⟩:=q13;refine wpAny_nextOf_list_end hh ⟨o,e1,e2,e3⟩ ⟨_,hH _ _ e,rfl,n,rfl⟩ ?_ q;rw [List.getElem?_eq_none_iff] at hd;simp only [List.getElem?_toArray,List.getElem?_eq_none_iff];rw [rs.length];exact hd
theorem nJ:mA H (g9 l t) (l.map fun b=>D.int b.toNat) where
 item prog w A E s Q it k d ho hH hd q:=by
  refine al ho fun o ho q14=>?_;obtain ⟨hc,hd'⟩:=q14;rw [List.getElem?_map] at hd;refine al (Option.map_eq_some_iff.mp hd) fun c hx q15=>?_;obtain rfl:=q15;have hT:s.TypeIs (.ref it) "bytes_iterator":=⟨o,ho,hc⟩;skip;refine Wb (wpAny_callSpecial?_slot (name:=PySem.Str.ofString "__next__") hT KBw.slot_next (wpAny_call_entry KBw.slot_next hT KBw.entry_next ?_ (KBw.args_next _)));refine (?_:wpAny _ _ (field (.ref it) 0>>=_) _ _ s);refine Wb (wpAny_field ho hd' (x:=.bytes l.toArray t) rfl ?_);refine (?_:wpAny _ _ (if (Value.bytes l.toArray t==Value.none)=true then _ else _) _ _ s);rw [if_neg (show ¬ ((Value.bytes l.toArray t==Value.none)=true) from Bool.false_ne_true)];refine (?_:wpAny _ _ (field (.ref it) 1>>=_) _ _ s);refine Wb (wpAny_field ho hd' (x:=.int k 0) rfl ?_);refine Wb (Wq (a:=l.toArray) rfl ?_);have hx':l.toArray[k]? = some c:=by simpa using hx
  simp only [Int.toNat_natCast,hx'];refine wpAny_bind (wpAny_setField ho hd' (by simp) (wpAny_bind (wpAny_mkInt (wpAny_pure ⟨_,rfl,wpAny_pure (q _ _ _ ?_ (Heap.SameBut.update ..) (.int _ _))⟩))))
  exact ⟨_,Heap.get?_update_self _ ho (Obj.isFreed_of_fields (Obj.data_mapFields hd' _)),(Obj.cls_mapFields ..).trans hc,by
   rw [Obj.data_mapFields hd'];simp [rawInt]⟩
 stop prog w A E s Q it k hh ho hH hd q:=by
  refine al ho fun o ho q16=>?_;obtain ⟨hc,hd'⟩:=q16;have hT:s.TypeIs (.ref it) "bytes_iterator":=⟨o,ho,hc⟩;skip;refine Wb (wpAny_callSpecial?_slot (name:=PySem.Str.ofString "__next__") hT KBw.slot_next (wpAny_call_entry KBw.slot_next hT KBw.entry_next ?_ (KBw.args_next _)));refine (?_:wpAny _ _ (field (.ref it) 0>>=_) _ _ s);refine Wb (wpAny_field ho hd' (x:=.bytes l.toArray t) rfl ?_);refine (?_:wpAny _ _ (if (Value.bytes l.toArray t==Value.none)=true then _ else _) _ _ s);rw [if_neg (show ¬ ((Value.bytes l.toArray t==Value.none)=true) from Bool.false_ne_true)];refine (?_:wpAny _ _ (field (.ref it) 1>>=_) _ _ s);refine Wb (wpAny_field ho hd' (x:=.int k 0) rfl ?_);refine Wb (Wq (a:=l.toArray) rfl ?_);have hx':l.toArray[k]? = .none:=by simpa using hd
  simp only [Int.toNat_natCast,hx'];refine wpAny_bind (wpAny_rule (wpAny_bind (wpAny_setField ho hd' (by simp) ?_)));refine (?_:wpAny _ _ (newExc (.type "StopIteration") []>>=_) _ _ _);refine Wb ?_;simp only [newExc,newTuple];refine Wb (wpAny_newObj_type ?_ (by size_fits));refine wpAny_bind (m:=firstArgMember _ _) (wpAny_of_eq (a:=Value.none) (by first|rfl|(simp only [firstArgMember];rfl)) ?_);refine wpAny_newObj_type ?_ (by size_fits);simp only [raiseNew];refine Wb (wpAny_handled ?_)
  first|rw [(hh:A.in1.handled=none)]|rw [hh]
  refine Wb (Wp (wpAny_throw ?_));exact q _ _ (((Heap.SameBut.update ..).extBut.push _).push _) ⟨_,Hs _ rfl,rfl⟩
noncomputable abbrev HG (h:Heap) (b1:Array UInt8) (t1:Tok):Heap:=h.push {cls:=.type "bytes_iterator",data:=.fields #[.bytes b1 t1,.int 0 0]}
noncomputable abbrev HF (h:Heap) (b1 b2:Array UInt8) (t1 t2:Tok):Heap:=(HG h b1 t1).push {cls:=.type "bytes_iterator",data:=.fields #[.bytes b2 t2,.int 0 0]}
noncomputable abbrev HE (h:Heap) (b1 b2:Array UInt8) (t1 t2:Tok):Heap:=(HF h b1 b2 t1 t2).push {cls:=.type "tuple",data:=.seq #[.ref h.objs.size,.ref (HG h b1 t1).objs.size]}
noncomputable abbrev HD (h:Heap) (b1 b2:Array UInt8) (t1 t2:Tok):Heap:=(HE h b1 b2 t1 t2).push {cls:=.type "tuple",data:=.seq #[.none,.none]}
noncomputable abbrev Bv (h:Heap) (b1 b2:Array UInt8) (t1 t2:Tok):Heap:=(HD h b1 b2 t1 t2).push {cls:=.type "zip",data:=.fields #[.none,.bool false,.bool false,.ref (HF h b1 b2 t1 t2).objs.size,.ref (HE h b1 b2 t1 t2).objs.size]}
theorem n7 (b1 b2:Array UInt8) (t1 t2:Tok) :
  Meets (Builtin.«zip.__new__» ⟨[.type "zip",.bytes b1 t1,.bytes b2 t2],[]⟩) (fun _ R s=>R (.ok (.ret (.ref (HD s.heap b1 b2 t1 t2).objs.size))) {s with heap:=Bv s.heap b1 b2 t1 t2}) :=
 .of_wp fun prog w A R s h=>by
  obtain ⟨hp,g,d,tk,os⟩:=s;have hsub:=sub_zip
  repeat first|((with_reducible refine (?_:wpAny _ _ (pyIter _) _ _ _));with_reducible apply KBw.pyIter_bytes)|k_extra"S"
  exact ⟨_,rfl,h⟩
theorem ag.news (R:ag c H loc O s) (nd:(F.map (·.1)).Nodup) (h:∀ p∈F,nv c H O p.1∧jb H s.heap p.1 p.2):ag c H loc (F++O) s:=by
 induction F with
 |nil=>exact R
 |cons p F ih =>
  have w:=h p (.head _);exact (ih (ndM nd).2 fun q hq=>h q (.tail _ hq)).addO w.2 w.1.h (List.forall_mem_append.mpr ⟨CT (ndM nd).1,w.1.o⟩) w.1.p w.1.l fun y b e=>Ne.symm (w.1.cs y b e)
theorem ag.beyond (R:ag c H loc O s) (h:s.heap.objs.size≤a):nv c H O a :=
 ⟨R.t.noH h,R.t.noP h,fun p hp e=>Nat.not_lt.mpr h (e▸R.t.noO hp),Nat.ne_of_gt (Nat.lt_of_lt_of_le R.size.1 h),fun y b e z=>Nat.not_lt.mpr h (z▸R.size.2 y b e)⟩
theorem Kh (n:Nat):[n+4,n+2,n+3,n,n+1].Nodup:=by simp
theorem uK (R:ag c H loc O s) (kp:∀ a o,s.heap.get? a=some o→h'.get? a=some o)
  (hz:IsZip h' (s.heap.objs.size+4) (s.heap.objs.size+2) (s.heap.objs.size+3) .none) (hTI:IsPair h' (s.heap.objs.size+2) (.ref s.heap.objs.size) (.ref (s.heap.objs.size+1))) (hTO:IsPair h' (s.heap.objs.size+3) .none .none)
  (h1:∃ o,h'.get? s.heap.objs.size=some o∧f1 o∧∀ p∈r1,ac H p.1 p.2) (h2:∃ o,h'.get? (s.heap.objs.size+1)=some o∧f2 o∧∀ p∈r2,ac H p.1 p.2) :
  ag c H loc (pv (s.heap.objs.size+4) (s.heap.objs.size+2) (s.heap.objs.size+3) s.heap.objs.size (s.heap.objs.size+1) f1 f2 r1 r2++O) {s with heap:=h'}:=by
 refine (R.keeps (s':={s with heap:=h'}) kp).news (Kh _) ?_;have aw:=fun a (h:s.heap.objs.size≤a)=>R.beyond h;have no:∀ p∈([]:List (Value×D)),ac H p.1 p.2:=fun _ h=>(List.not_mem_nil h).elim
 exact List.forall_mem_cons.mpr ⟨⟨aw _ (Nat.le_add_right _ _),_,hz,rfl,no⟩,List.forall_mem_cons.mpr ⟨⟨aw _ (Nat.le_add_right _ _),_,hTI,rfl,no⟩,List.forall_mem_cons.mpr ⟨⟨aw _ (Nat.le_add_right _ _),_,hTO,⟨_,_,rfl⟩,no⟩,
  List.forall_mem_cons.mpr ⟨⟨aw _ (Nr _),h1⟩,List.forall_mem_cons.mpr ⟨⟨aw _ (Nat.le_add_right _ _),h2⟩,fun _ h=>(List.not_mem_nil h).elim⟩⟩⟩⟩⟩
theorem t4 (h:∀ z TI TO i1 i2 t1 t2,K' (.stat (.ref z)) (pv z TI TO i1 i2 (g9 l1 t1 0) (g9 l2 t2 0) [] []++O)):Op c (fun vs=>call (.type "zip") vs) [.bytes l1,.bytes l2] loc O K' E:=fun H s Q vs R rs q=>by
 refine ay rs fun v u r1 r2=>?_
 cases r1 using ac.cBytes;cases r2 using ac.cBytes
 rename_i t1 t2;refine callType_new F.called_zip (by decide) (F.typeCall_zip_2 _ _) (F.newCall_zip_2 _ _) (fun obj=>F.args_object_init_3 obj _ _) F.entry_zip_new (n7 l1.toArray l2.toArray t1 t2) ?_;have z1:(HG s.heap l1.toArray t1).objs.size=s.heap.objs.size+1:=Heap.size_push ..;have z2:(HF s.heap l1.toArray l2.toArray t1 t2).objs.size=s.heap.objs.size+2:=by rw [Heap.size_push,z1]
 have z3:(HE s.heap l1.toArray l2.toArray t1 t2).objs.size=s.heap.objs.size+3:=by rw [Heap.size_push,z2]
 have z4:(HD s.heap l1.toArray l2.toArray t1 t2).objs.size=s.heap.objs.size+4:=by rw [Heap.size_push,z3]
 have g5:(Bv s.heap l1.toArray l2.toArray t1 t2).get? (HD s.heap l1.toArray l2.toArray t1 t2).objs.size=some _:=Hs _ rfl;have g4:(Bv s.heap l1.toArray l2.toArray t1 t2).get? (HE s.heap l1.toArray l2.toArray t1 t2).objs.size=some _:=Hp _ (Hs _ rfl);have g3:(Bv s.heap l1.toArray l2.toArray t1 t2).get? (HF s.heap l1.toArray l2.toArray t1 t2).objs.size=some _:=Hp _ (Hp _ (Hs _ rfl));have g2:(Bv s.heap l1.toArray l2.toArray t1 t2).get? (HG s.heap l1.toArray t1).objs.size=some _:=Hp _ (Hp _ (Hp _ (Hs _ rfl)));have g1:(Bv s.heap l1.toArray l2.toArray t1 t2).get? s.heap.objs.size=some _:=Hp _ (Hp _ (Hp _ (Hp _ (Hs _ rfl))));refine (?_:_∧_);rw [z2,z3,z4] at g5;rw [z1,z2] at g3;rw [z3] at g4;rw [z1] at g2;rw [z4];have R':=uK (f1:=g9 l1 t1 0) (f2:=g9 l2 t2 0) (r1:=[]) (r2:=[]) R (fun c o x=>Hp _ (Hp _ (Hp _ (Hp _ (Hp _ x))))) g5 g3 g4 ⟨_,g1,⟨rfl,rfl⟩,fun _ h=>(List.not_mem_nil h).elim⟩ ⟨_,g2,⟨rfl,rfl⟩,fun _ h=>(List.not_mem_nil h).elim⟩;exact ⟨⟨_,g5,rfl⟩,q _ _ _ _ _ (h _ _ _ _ _ t1 t2) R' (Pr _) (.stat _)⟩
theorem vv (h:∀ l1 l2 z TI TO i1 i2,K' (.stat (.ref z)) (pv z TI TO i1 i2 (gY l1 0) (gY l2 0) [(.ref l1,.lst ds1)] [(.ref l2,.lst ds2)]++O)):Op c (fun vs=>call (.type "zip") vs) [.lst ds1,.lst ds2] loc O K' E:=fun H s Q vs R rs q=>by
 refine ay rs fun v u r1 r2=>?_;have rr1:=r1;have rr2:=r2
 cases r1 using ac.cLst with
 |lst e1 rs1 =>
  cases r2 using ac.cLst with
  |lst e2 rs2 =>
   refine call_zip_2 ⟨_,R.t.hH _ _ e1,rfl,_,rfl⟩ ⟨_,R.t.hH _ _ e2,rfl,_,rfl⟩ fun h' hz hTI hTO a1 a2 sz kp=>?_;obtain ⟨o1,b1,b2⟩:=a1;obtain ⟨o2,b3,b4⟩:=a2;have R':=uK (f1:=gY _ 0) (f2:=gY _ 0) (r1:=[(_,.lst ds1)]) (r2:=[(_,.lst ds2)]) R kp hz hTI hTO ⟨o1,b1,b2,fun p hp=>by rw [List.mem_singleton] at hp;subst hp;exact rr1⟩ ⟨o2,b3,b4,fun p hp=>by rw [List.mem_singleton] at hp;subst hp;exact rr2⟩;exact q _ _ _ _ _ (h _ _ _ _ _ _ _) R' (Pr _) (.stat _)
theorem j1 {l:Addr} (H:PM) (h:∀ p∈[(Value.ref l,D.lst ds)],ac H p.1 p.2):mA H (gY l) ds :=
 ((h _ (.head _)).inv:∃ a n vs,Value.ref l=.ref a∧H a=some ⟨.type "list",.none,.seq (List.toArray vs) n,#[]⟩∧af H vs ds).elim fun a q=>q.elim fun n q=>q.elim fun vs q=>by
  obtain ⟨e,h,rs⟩:=q;obtain rfl:=Value.ref.inj e;exact xG h rs
theorem me:bI x A (fun vs=>pyIter (vs.headD .none)) [.stat (.ref z)] (pv z TI TO i1 i2 f1 f2 r1 r2++O) (fun d O'=>d=.stat (.ref z)∧O'=pv z TI TO i1 i2 f1 f2 r1 r2++O) E:=fun H s Q vs R rs q=>by
 refine cG rs fun v r=>?_
 cases r using ac.cStat
 obtain ⟨_,hz,rfl,_⟩:=R.hO (z,_) (List.mem_append_left _ (.head _));exact wpAny_pyIter_zip hz (q _ _ _ _ _ ⟨rfl,rfl⟩ R (Pr _) (.stat _))
section
open PySem.Builtin
noncomputable def fb:List UInt8→List UInt8
 |a::_::r=>a::fb r
 |[a]=>[a]
 |[]=>[]
noncomputable def xo:List UInt8→List UInt8
 |[]=>[]
 |_::r=>fb r
theorem nO:∀ l:List UInt8,(List.range ((l.length+1)/2)).filterMap (fun k=>l[2*k]?)=fb l
 |[]=>rfl
 |[a]=>by simp [fb,List.range_succ]
 |a::b::r=>by
  have e:((a::b::r).length+1)/2=(r.length+1)/2+1:=Nat.add_div_right (r.length+1) (z:=2) (by decide);rw [e,List.range_succ_eq_map,List.filterMap_cons];refine (?_:a::_=a::_)
  congr 1
  rw [List.filterMap_map,← nO r]
  congr 1
theorem JM (h:i≤n):((if (i:Int)<(n:Int) then ((n:Int)-i+2-1)/2 else 0):Int).toNat=(n-i+1)/2:=by
 obtain ⟨k,rfl⟩:=Nat.exists_eq_add_of_le h;rw [Nat.add_sub_cancel_left,Int.natCast_add,(by lia:(i:Int)+k-i=k)]
 by_cases hk:k=0
 ·subst hk;rw [if_neg (by simp)];rfl
 ·rw [if_pos (by lia)];exact congrArg Int.toNat (congrArg (·/2) (Int.add_sub_assoc (k:Int) 2 1))
theorem nA (h:i≤l.length):Bytes.sliced l.toArray i l.length 2=(fb (l.drop i)).toArray:=by
 unfold Bytes.sliced sliceRange;rw [← nO,List.length_drop]
 have e:((if (2:Int) > 0 then (if (i:Int)<(l.length:Int) then ((l.length:Int)-i+2-1)/2 else 0) else (if (i:Int) > (l.length:Int) then ((i:Int)-l.length-2-1)/(-2) else 0)):Int).toNat=(l.length-i+1)/2:=by
  rw [if_pos (by decide)];exact JM h
 simp only [e,List.filterMap_map]
 congr 1
 congr 1
 funext k
 show l.toArray[((i:Int)+2*(k:Int)).toNat]? = (l.drop i)[2*k]?
 rw [List.getElem?_drop,show ((i:Int)+2*(k:Int)).toNat=i+2*k from rfl];simp
theorem Ei (l:List UInt8):fb (l.drop (min 1 l.length))=xo l:=by cases l<;>simp [xo,fb]
theorem tj:∀ l:List UInt8,(fb l).length≤l.length
 |[]=>Nr _
 |[_]=>Nr _
 |_::_::r=>by have:=tj r;simp only [fb,List.length_cons];lia
noncomputable abbrev sl3 (l u st:Value):Obj:={cls:=.type "slice",data:=.fields #[l,u,st]}
theorem qh (l:List UInt8) (t:Tok) (a:Addr) {lo:Value} {p:Option Int} (tt:Tok) (hl:IsPart lo p) (hb:sliceBounds p none (some 2) l.length=((i:Int),(l.length:Int),2)) (hi:i≤l.length) (hz:l.length≤16777216) :
  Meets («bytes.__getitem__» ⟨[.bytes l.toArray t,.ref a],[]⟩) (fun _ R s=>s.heap.IsSliceOf a lo .none (.int 2 tt)∧∀ t' k,R (.ok (.ret (.bytes (fb (l.drop i)).toArray t'))) {s with toks:=k}):=by
 refine .of_wp fun prog w A R s hS=>?_;obtain ⟨⟨o,ho,hc,hd⟩,h⟩:=hS;have hT:s.TypeIs (.ref a) "slice":=⟨o,ho,hc⟩;refine (?_:wpAny _ _ (Bytes.payload (.bytes l.toArray t)>>=fun r=>_) _ _ s);refine Wb (Wq (a:=l.toArray) rfl ?_);refine (?_:wpAny _ _ (Bytes.subscript? (.ref a)>>=fun r=>_) _ _ s);refine Wb ?_;skip;refine Wb (wpAny_specialOf hT slice_no_index (Wp ?_));refine Wb (wpAny_typeOf hT ?_);refine (?_:wpAny _ _ (Bytes.sliceParts (.ref a)>>=fun r=>_) _ _ s);refine Wb ?_;skip;refine Wb (wpAny_field (x:=.int 2 tt) ho hd rfl ?_)
 kby_int
 refine wpAny_ite (KBy.ite_no (by decide:¬ ((rawInt 2==rawInt 0)=true)) ?_);refine Wb (wpAny_field (x:=lo) ho hd rfl ?_)
 have go:wpAny (model prog w) A.in1 (sliceIndices (rawPart p) (rawPart none) (rawPart (some 2)) l.toArray.size) (fun r s'=>r=((i:Int),(l.length:Int),(2:Int))∧s'=s) (fun _ _=>False) s :=
  Wq (sliceIndices_raw p none (some 2) l.toArray.size (by decide)) ⟨hb,rfl⟩
 have hsz:(fb (l.drop i)).toArray.size≤sizeLine:=by
  have:=tj (l.drop i);rw [List.length_drop] at this;rw [sizeLine_eq];simp only [List.size_toArray];lia
 cases hl
 ·kby_none
  refine Wb (wpAny_field (x:=.none) ho hd rfl ?_)
  kby_none
  refine Wp ?_;refine Wb (Wm go (fun r s' hr=>?_) fun _ _ e=>e.elim);obtain ⟨rfl,rfl⟩:=hr;refine wpAny_ite (KBy.ite_no (by simp) ?_);rw [nA hi];exact Wb (wpAny_mkBytes (Wp ⟨_,rfl,h _ _⟩) hsz)
 ·kby_int
  refine Wb (wpAny_field (x:=.none) ho hd rfl ?_)
  kby_none
  refine Wp ?_;refine Wb (Wm go (fun r s' hr=>?_) fun _ _ e=>e.elim);obtain ⟨rfl,rfl⟩:=hr;refine wpAny_ite (KBy.ite_no (by simp) ?_);rw [nA hi];exact Wb (wpAny_mkBytes (Wp ⟨_,rfl,h _ _⟩) hsz)
section
variable {value j7:PySem.Expr}
theorem rp {st:PySem.Expr} {p:Pos} (h:Ev c st loc O (fun a O₁=>∃ i,a=.int i∧∀ t,K' (.obj (sl3 .none .none (.int i t))) O₁) E):Ev c (.Slice .none .none (some st) p) loc O K' E:=fun H s Q R q=>by
 refine wpAny_Slice (Wp (Wp (h H s _ R fun H₁ sA vA d₁ O₁ h_1 R1 le1 rA=>?_)));refine al h_1 fun i q4 k=>?_;obtain rfl:=q4
 cases rA using ac.cInt
 obtain ⟨R',le⟩:=R1.push (sl3 .none .none (.int i _)) sA.toks;exact q _ _ _ _ _ (k _) R' (Pt le1 le) (.obj Ph)
theorem kx {lo st:PySem.Expr} {p:Pos} (h:Ev c lo loc O (fun a O₁=>Ev c st loc O₁ (fun b O2=>∃ i j,a=.int i∧b=.int j∧∀ t u,K' (.obj (sl3 (.int i t) .none (.int j u))) O2) E) E):Ev c (.Slice (some lo) .none (some st) p) loc O K' E:=fun H s Q R q=>by
 refine wpAny_Slice (h H s _ R fun H₁ sA vA d₁ O₁ h_1 R1 le1 rA=>Wp (h_1 H₁ sA _ R1 fun HB s2 vB dB O2 h_2 R2 le2 rB=>?_));refine bj h_2 fun i j q5 q6=>?_;obtain rfl:=q5;obtain ⟨rfl,k⟩:=q6
 cases rA using ac.cInt;cases rB using ac.cInt
 obtain ⟨R',le⟩:=R2.push (sl3 (.int i _) .none (.int j _)) s2.toks;exact q _ _ _ _ _ (k _ _) R' (Pt le1 (Pt le2 le)) (.obj Ph)
theorem CF (so:dE j7) (hz:l.length≤16777216) (h:K' (.bytes (fb l)) O):Op c (gv value j7) [.bytes l,.obj (sl3 .none .none (.int 2 t))] loc O K' E:=fun H s Q vs R rs q=>by
 refine ay rs fun v w a b=>?_
 cases a using ac.cBytes
 cases b using ac.cObj
 rename_i tb sa eb;have hb:=R.t.hH _ _ eb;obtain ⟨ops,hs⟩:=so (.bytes l.toArray tb) (.ref sa)
 refine tail_any (typeIs_bytes _ _ _) FB.slot_bytes_getitem.lookup (getItem_meets (typeIs_bytes _ _ _) (by decide) FB.slot_bytes_getitem FB.entry_bytes_getitem (FB.args_bytes_getitem_2 _ _) (qh l tb sa (i:=0) t .none rfl (Nat.zero_le _) hz)
  ⟨⟨_,hb,rfl,rfl⟩,fun t' k=>?_⟩) hs
 exact q _ _ _ _ _ h (R.tok _) (Pr _) (.bytes _ _)
theorem Gj:∀ n:Nat,max 0 (min 1 (n:Int))=((min 1 n:Nat):Int)
 |0=>rfl
 |n+1=>by rw [Nat.min_eq_left (Nat.le_add_left 1 n),Int.min_eq_left (show (1:Int)≤((n+1:Nat):Int) from Int.ofNat_le.mpr (Nat.le_add_left 1 n))];rfl
theorem FM (so:dE j7) (hz:l.length≤16777216) (h:K' (.bytes (xo l)) O):Op c (gv value j7) [.bytes l,.obj (sl3 (.int 1 u) .none (.int 2 t))] loc O K' E:=fun H s Q vs R rs q=>by
 refine ay rs fun v w a b=>?_
 cases a using ac.cBytes
 cases b using ac.cObj
 rename_i tb sa eb;have hb:=R.t.hH _ _ eb;obtain ⟨ops,hs⟩:=so (.bytes l.toArray tb) (.ref sa)
 have hbd:sliceBounds (some 1) none (some 2) l.length=(((min 1 l.length:Nat):Int),(l.length:Int),2):=by
  refine (?_:(max 0 (min 1 (l.length:Int)),(l.length:Int),(2:Int))=_);refine Prod.ext ?_ rfl;exact Gj l.length
 refine tail_any (typeIs_bytes _ _ _) FB.slot_bytes_getitem.lookup (getItem_meets (typeIs_bytes _ _ _) (by decide) FB.slot_bytes_getitem FB.entry_bytes_getitem (FB.args_bytes_getitem_2 _ _) (qh l tb sa (i:=min 1 l.length) t (.int 1 u) hbd (Nat.min_le_right _ _) hz)
  ⟨⟨_,hb,rfl,rfl⟩,fun t' k=>?_⟩) hs
 rw [Ei];exact q _ _ _ _ _ h (R.tok _) (Pr _) (.bytes _ _)
end
end
section
open PySem.Builtin
theorem JK (i:String) (b:Array UInt8) (t:Tok):Bytes.takeBufferQuiet? i (.bytes b t) 0=pure (some (b,none)):=by
 unfold Bytes.takeBufferQuiet?
 have:Bytes.takeBuffer? i (.bytes b t) 0=pure (some (b,none)):=by
  unfold Bytes.takeBuffer?
  kernel_rfl
 rw [this]
 rfl
theorem heap_b (b:Array UInt8) (t:Tok):(Value.bytes b t).onHeap=false:=rfl
theorem rI:Slot "bytes" "join" "bytes.join":=
 .of (owner:="bytes") (n:="join") (by rw [typeLookup_type,builtinLookup_eq_fast];kernel_rfl) (by decide +kernel) (by decide +kernel) (by decide +kernel)
  (.inr (by decide +kernel)) (by rw [isSubtype_type];kernel_rfl)
theorem xY:entryFor table "bytes.join"=some Builtin.«bytes.join»:=entryFor_of_tree (by kernel_rfl)
theorem BE (a b:Value):argsOk "bytes.join" ⟨[a,b],[]⟩:=by unfold argsOk;kernel_rfl
theorem Ai:typeOf (.builtin "bytes.join")=pure (.type "method_descriptor"):=by show builtinType _=_;rw [builtinType_eq_fast];kernel_rfl
theorem A2 {σ:Type} {f:Nat→σ→Sem (ForInStep σ)} (I:Nat→σ→Shared→Prop) {Q:σ→Shared→Prop} {st:σ}
  (turn:∀ i st s,i<n→I i st s→wpAny M A (f i st) (fun r s'=>∃ st',r=.yield st'∧I (i+1) st' s') E s) (h0:I 0 st s) (q:∀ st s,I n st s→Q st s):wpAny M A (forIn [:n] st f) Q E s:=by
 have key:∀ (m k:Nat) (st:σ) (s:Shared),k+m=n→I k st s→wpAny M A (forIn (List.range' k m) st f) Q E s:=by
  intro m
  induction m with
  |zero=>intro k st s e h;exact wpAny_pure (q _ _ (by rw [Nat.add_zero] at e;rw [← e];exact h))
  |succ m ih =>
   intro k st s e h;rw [List.range'_succ,List.forIn_cons];refine Wb (Wm (turn k st s (by lia) h) (fun r s' hr=>?_) fun _ _ x=>x);refine al hr fun st' q1 h'=>?_;obtain rfl:=q1;exact ih (k+1) st' s' (by lia) h'
 have e:(forIn [:n] st f:Sem σ)=forIn (List.range' 0 n) st f:=by
  simp [Std.Legacy.Range.forIn_eq_forIn_range',Std.Legacy.Range.size]
 rw [e];exact key n 0 st s (by lia) h0
theorem jm {α:Type} {Q:α→Shared→Prop} {xs:Array Value} {h1:Value→Sem α} {h2:Array Value→Sem α} (h:xs.size≠1) (k:wpAny M A (h2 xs) Q E s):wpAny M A (PySem.Builtin.Bytes.joinM.match_1 (fun _=>Sem α) xs h1 h2) Q E s:=by
 unfold PySem.Builtin.Bytes.joinM.match_1;rw [dif_neg h];exact k
class inductive jC:List Value→List (List UInt8)→Prop
 |nil:jC [] []
 |cons (l:List UInt8) (t:Tok) {vs ls}:jC vs ls→jC (.bytes l.toArray t::vs) (l::ls)
theorem jC.one {vs ls} (h:jC vs ls) (e:ls.length=1):∃ l t,vs=[.bytes l.toArray t]∧ls=[l]:=by
 induction h with
 |nil=>cases e
 |cons l t r _=>cases r with
  |nil=>exact ⟨_,_,rfl,rfl⟩
  |cons=>cases e
theorem jC.length {vs ls} (h:jC vs ls):vs.length=ls.length:=by induction h with|nil=>rfl|cons _ _ _ ih=>simp [ih]
theorem jC.get {vs ls} (h:jC vs ls):∀ {i:Nat} {l},ls[i]? = some l→∃ t,vs[i]? = some (.bytes l.toArray t):=by
 induction h with
 |nil=>intro i l e;simp at e
 |cons l t r ih =>
  intro i l' e
  cases i with
  |zero=>simp at e;subst e;exact ⟨t,rfl⟩
  |succ i=>simpa using ih (by simpa using e)
theorem xC (ls:List (List UInt8)):Bytes.joined #[] (ls.map List.toArray)=ls.flatten.toArray:=by
 unfold Bytes.joined
 have key:∀ (ls:List (List UInt8)) (k:Nat) (acc:Array UInt8),(((ls.map List.toArray).zipIdx k).foldl (fun out (x:Array UInt8×Nat)=>(if x.2 > 0 then out++(#[]:Array UInt8) else out)++x.1) acc)=acc++ls.flatten.toArray:=by
  intro ls
  induction ls with
  |nil=>intro k acc;simp
  |cons l r ih =>
   intro k acc;rw [List.map_cons,List.zipIdx_cons,List.foldl_cons,ih];have:(if k > 0 then acc++(#[]:Array UInt8) else acc)=acc:=by split<;>simp
   simp
 have:=key ls 0 #[]
 simpa using this
theorem vV {v:List Value}:∀ (taken:List (Value×Option Value)) {s:Shared},(∀ p∈taken,∃ b t',p=(Value.bytes b t',none))→Q () s→wpAny M A (Bytes.joinLetGo taken v) Q E s
 |[],s,_,h=>Wp h
 |p::r,s,hp,h=>by
  refine ur (hp p (.head _)) fun b t' q2=>?_;obtain rfl:=q2;unfold Bytes.joinLetGo;refine Wb (wpAny_letGo ?_);exact vV r (fun q hq=>hp q (.tail _ hq)) h
abbrev My (s:Shared) (ls:List (List UInt8)) (i:Nat) (st:Array (Array UInt8)×List (Value×Option Value)) (s':Shared):Prop:=s'=s∧st.1.toList=(ls.take i).map List.toArray∧∀ p∈st.2,∃ b t',p=(.bytes b t',none)
theorem Ki {l:List (Value×Option Value)} (e2:∀ p∈l,∃ b t',p=(Value.bytes b t',none)):(l.any fun x=>x.1.onHeap)=false:=by
 rw [List.any_eq_false];intro p hp;refine ur (e2 p hp) fun b t' q9=>?_;obtain rfl:=q9;exact Bool.false_ne_true
theorem GE {ps:Array (Array UInt8)} {ls:List (List UInt8)} (e:ps.toList=ls.map List.toArray) (hz:ls.flatten.length≤16777216):¬ Bytes.tooLong (ps.foldl (fun x1 x2=>x1+x2.size) ((#[]:Array UInt8).size*(ps.size-1)))=true:=by
 have hsum:∀ (l:List (Array UInt8)) (k:Nat),l.foldl (fun x1 x2=>x1+x2.size) k=k+(l.map (·.size)).sum:=fun l=>by
  induction l with
  |nil=>intro k;simp
  |cons a r ih=>intro k;rw [List.foldl_cons,ih];simp;lia
 rw [← Array.foldl_toList,hsum,e]
 have e3:((ls.map List.toArray).map (·.size)).sum=ls.flatten.length:=by
  rw [List.length_flatten,List.map_map];rfl
 rw [e3];unfold Bytes.tooLong;simp only [Array.size_empty,Nat.zero_mul,Nat.zero_add,decide_eq_true_eq,sizeLine_eq];lia
theorem GD {ls:List (List UInt8)} (ho:s.heap.get? a=some ⟨.type "list",.none,.seq (List.toArray vs) n,#[]⟩) (hv:jC vs ls) (hz:ls.flatten.length≤16777216)
  (hQ:∀ t' k,Q (.bytes ls.flatten.toArray t') {s with toks:=k}):wpAny (model prog w) A (call (.builtin "bytes.join") [.bytes #[] t,.ref a]) Q E s:=by
 have hT:s.TypeIs (.bytes #[] t) "bytes":=typeIs_bytes _ _ _;have hL:s.TypeIs (.ref a) "list":=⟨_,ho,rfl⟩;refine wpAny_call_entry rI hT xY ?_ (BE _ _);refine Wb (m:=selfAndOne _ _) (Wq (a:=(Value.bytes #[] t,Value.ref a)) rfl ?_);refine wpAny_ite_true rfl (Wb (m:=Bytes.joinItems _) (Wb (m:=typeOf _) (wpAny_typeOf hL (wpAny_ite_true rfl (Wp ?_)))));refine Wb (wpAny_seqItems ho rfl ?_);refine wpAny_ite_true rfl ?_
 by_cases h1:ls.length=1
 ·refine bj (hv.one h1) fun l t' q3 q4=>?_;obtain rfl:=q3;obtain rfl:=q4;refine Wb (m:=typeOf _) (wpAny_typeOf (typeIs_bytes _ _ _) (wpAny_ite_true rfl (Wb (wpAny_rule (Wp ⟨_,rfl,?_⟩)))));have:=hQ t' s.toks;simp only [List.flatten_cons,List.flatten_nil,List.append_nil] at this;exact this
 ·refine jm (by rw [List.size_toArray,hv.length];exact h1) ?_;refine wpAny_bind (A2 (n:=vs.toArray.size) (I:=My s ls) (fun i st s' hi h=>?_) ⟨rfl,by simp,fun _ h=>(List.not_mem_nil h).elim⟩ fun st s' h=>?_)
  ·refine gB h fun q e1 e2=>?_;obtain rfl:=q;have hi':i<ls.length:=by rw [List.size_toArray,hv.length] at hi;exact hi
   obtain ⟨tx,ex⟩:=hv.get (List.getElem?_eq_getElem hi');have gx:vs.toArray.getD i Value.none=.bytes (ls[i]).toArray tx:=by simp [Array.getD_eq_getD_getElem?,ex]
   refine Wb (wpAny_seqItems ho rfl ?_);refine wpAny_ite_false (decide_eq_false (by rw [Ki e2];exact Bool.false_ne_true)) ?_;refine Wb (Wh ?_);refine wpAny_of_eq (a:=some ((ls[i]).toArray,none)) (by rw [gx];exact JK _ _ _) ?_;refine Wb (wpAny_seqItems ho rfl ?_);refine wpAny_ite_false (decide_eq_false (by simp)) ?_;refine Wp ⟨_,rfl,rfl,?_,fun p hp=>?_⟩
   ·exact (Array.toList_push ..).trans (by rw [e1,List.take_add_one,List.getElem?_eq_getElem hi',List.map_append];rfl)
   ·rcases List.mem_append.mp hp with hp|hp
    ·exact e2 p hp
    ·rw [List.mem_singleton] at hp;exact ⟨_,_,hp.trans (by rw [gx])⟩
  ·refine gB h fun q e1 e2=>?_;obtain rfl:=q;have e1':st.1.toList=ls.map List.toArray:=by rw [e1,List.size_toArray,hv.length,List.take_of_length_le (Nat.le_refl _)]
   have hj:Bytes.joined #[] st.1.toList=ls.flatten.toArray:=by rw [e1'];exact xC ls
   refine Wb (Wq (a:=#[]) rfl (wpAny_ite_false (decide_eq_false (GE e1' hz)) ?_));refine wpAny_bind (wpAny_mkBytes ?_ (by rw [hj,sizeLine_eq];simpa using hz));refine Wb (Wh (wpAny_point ?_));refine Wb (vV st.2 e2 (Wp ⟨_,rfl,?_⟩));rw [hj];exact hQ _ _
theorem PV {ls:List (List UInt8)}:∀ {vs:List Value},af H vs (ls.map .bytes)→jC vs ls:=by
 induction ls with
 |nil=>intro vs r;cases r using af.cNil;exact .nil
 |cons l ls ih=>intro vs r;refine bj (af.cons_iff r) fun v us q11 q12=>?_;obtain rfl:=q11;obtain ⟨a,b⟩:=q12;cases a using ac.cBytes;exact .cons l _ (ih b)
theorem GZ (h:KM (.builtin "bytes.join") [.bytes l] O):Mine.GM c "join" (.bytes l) loc O KM E:=fun pl H s Q v R rd q=>by
 cases rd using ac.cBytes
 with_reducible exact getMethod_builtin (typeIs_bytes _ _ _) FB.plainAttrs_bytes rI Ai (fun a' e=>by cases e) (q _ _ _ _ _ _ h R (Pr _) (.one (.bytes _ _)))
theorem FO {ls:List (List UInt8)} (hz:ls.flatten.length≤16777216) (h:K' (.bytes ls.flatten) O):Op c (fun vs=>call (.builtin "bytes.join") vs) [.bytes [],.lst (ls.map .bytes)] loc O K' E:=fun H s Q vs R rs q=>by
 refine ay rs fun v u r1 r2=>?_
 cases r1 using ac.cBytes
 cases r2 using ac.cLst with
 |lst e rs' =>
  exact GD (R.t.hH _ _ e) (PV rs') hz fun t' k=>q _ _ _ _ _ h (R.tok _) (Pr _) (.bytes _ _)
end
def BH (x:Cx) (env:Env):Prop:=env.scope.kind≠.module∧∃ L o,env.frame=some L∧x.P L=some (o,true)∧∀ vs,o.data≠.fields vs
def aF (x:Cx) (A:Around):Prop:=∃ l,A.frames=some l∧∀ env∈l,BH x env
theorem BH.le {env} (le:x.le x') (h:BH x env):BH x' env:=let ⟨a,L,o,b,c,d⟩:=h;⟨a,L,o,b,le.2 _ _ c,d⟩
theorem aF.le {A} (le:x.le x') (h:aF x A):aF x' A:=let ⟨l,a,b⟩:=h;⟨l,a,fun env hm=>(b env hm).le le⟩
theorem aF.deeper {A} {env} (h:aF x A) (e:BH x env):aF x (A.deeper env):=let ⟨l,a,b⟩:=h;⟨env::l,by refine (?_:A.frames.map (env::·)=_);rw [a];rfl,fun v hm=>by
 rcases List.mem_cons.mp hm with rfl|hm
 ·exact e
 ·exact b v hm⟩
def Cov (x:Cx) (H:PM) (O:Own) (h_0 B:Heap) (l:List Env):Prop:=∀ b o,h_0.get? b=some o→(H b≠.none∨x.P b≠.none∨∃ p∈O,p.1=b)→(∀ env∈l,env.frame≠some b)→B.get? b=some o
theorem tW {l:List Env} (R:az x H O s0) (cov:Cov x H O s0.heap B l) (fr:∀ env∈l,BH x env) (st:B.StaysIn s.heap) (up:s0.heap.UpToSlots s.heap)
  (hg:s.gens=s0.gens) (ho:s.os=s0.os) (hd:s.drawn=s0.drawn):az x H O s:=by
 have isP:∀ env∈l,∀ b,env.frame=some b→∃ o,x.P b=some (o,true)∧∀ vs,o.data≠.fields vs:=fun env hm b e=>by
  obtain ⟨_,L,o,e1,e2,e3⟩:=fr env hm;rw [e] at e1;cases e1;exact ⟨o,e2,e3⟩
 refine ⟨fun g st e=>hg▸R.gens g st e,ho.trans R.os,hd.trans R.drawn,fun a o e=>?_,fun a o k e=>?_,fun p hp=>?_,R.nd,R.dH,R.dP,R.dHP,hg▸R.bare,R.hB⟩
 ·refine st _ _ (cov a o (R.hH _ _ e) (.inl (by rw [e];exact Option.some_ne_none _)) fun env hm q=>?_);refine al (isP env hm a q) fun o' e' _=>?_;rw [R.dHP _ _ e'] at e;cases e
 ·refine al (R.hP a o k e) fun o' e' kk=>?_
  by_cases q:∃ env∈l,env.frame=some a
  ·refine al q fun env hm q=>?_;refine al (isP env hm a q) fun oB e_2 nf=>?_;rw [e] at e_2;cases e_2;obtain ⟨sl,e3⟩:=up a o' e' (by rw [kk.data];exact nf);exact ⟨_,e3,kk.trans (.inr ⟨rfl,sl,rfl⟩)⟩
  ·exact ⟨o',st _ _ (cov a o' e' (.inr (.inl (by rw [e];exact Option.some_ne_none _))) fun env hm z=>q ⟨env,hm,z⟩),kk⟩
 ·have z:=R.hO p hp;obtain ⟨o,e⟩:=z.there;refine z.same ((st _ _ (cov p.1 o e (.inr (.inr ⟨p,hp,rfl⟩)) fun env hm q=>?_)).trans e.symm);refine al (isP env hm p.1 q) fun o' e' _=>?_;rw [R.dP p hp] at e';cases e'
structure eS (x:Cx) (A:Around) (O:Own) (cls:Value) (e:Value) (s:Shared):Prop where
 ex:∃ H a B s0 l a0,e=.ref a∧A.frames=some l∧az x H O s0∧Cov x H O s0.heap B l∧Heap.FlyingW B l a cls a0 s.heap∧s0.heap.UpToSlots s.heap∧s.gens=s0.gens∧s.os=s0.os∧s.drawn=s0.drawn
theorem eS.there {x A O cls e s} (h:eS x A O cls e s):∃ a o,e=.ref a∧s.heap.get? a=some o∧o.cls=cls:=by
 refine m8 h.ex fun H a B s0 l a0 q1 q2=>?_;obtain rfl:=q1;refine K7 q2 fun _ _ _ fl _=>?_;refine al fl.there fun o e c=>?_;exact ⟨a,o,rfl,e,c⟩
theorem eS.rep {x A O cls e s} (fr:aF x A) (h:eS x A O cls e s):∃ H,az x H O s:=by
 refine m8 h.ex fun H a B s0 l a0 q3 q4=>?_;obtain rfl:=q3;refine tr q4 fun hl R cov fl up g o d=>?_;obtain ⟨l',hl',fr⟩:=fr;rw [hl] at hl';cases hl';exact ⟨H,tW R cov fr fl.1 up g o d⟩
theorem gz (fr:aF x A) (hf:env.frame=some env.locals) (hk:env.scope.kind≠.module)
  (R:ag ⟨x,A.deeper env,env,own⟩ H loc O s0) (hx:Heap.MadeExcOf s0.heap h' e cls args) (hE:∀ s,eS x A O cls (.ref e) s→E (.ref e) s):dT x A env E (.ref e) {s0 with heap:=h'}:=by
 obtain ⟨l,hl,fr⟩:=fr;refine al R.f.ns fun m q5 _=>?_;obtain ⟨oL,es,ep,eL,dL⟩:=q5;have dL:=dL.1
 have isP:∀ v∈l,∃ L o o',v.frame=some L∧x.P L=some (o,true)∧s0.heap.get? L=some o'∧(∀ vs,o'.data≠.fields vs):=fun v hm=>by
  obtain ⟨_,L,o,e1,e2,e3⟩:=fr v hm;refine al (R.t.hP _ _ _ e2) fun o' e' kk=>?_;exact ⟨L,o,o',e1,e2,e',by rw [kk.data];exact e3⟩
 have hin:∀ v∈env::l,∀ b,v.frame=some b→b∈(env::l).filterMap (·.frame):=fun v hm b hb=>List.mem_filterMap.mpr ⟨v,hm,hb⟩
 have ff:∀ l':List Env,(∀ v∈l',v∈l)→s0.heap.FunFrames (hideAll s0.heap ((env::l).filterMap (·.frame))) l':=fun l'=>by
  induction l' with
  |nil=>intro _;trivial
  |cons v r ih =>
   intro hm;refine Eh (isP v (hm v (.head _))) fun L o o' e1 e2 e3 e4=>?_;exact ⟨(fr v (hm v (.head _))).1,⟨L,o',e1,hideAll_none _ (hin v (.tail _ (hm v (.head _))) L e1),e3,e4⟩,ih fun u hu=>hm u (.tail _ hu)⟩
 refine wpAny_leaves_madeW (h:=s0.heap) (base:=hideAll s0.heap ((env::l).filterMap (·.frame))) (outer:=l) (L:=env.locals) (by refine (?_:A.frames.map (env::·)=_);rw [hl];rfl) hf (fun b o q=>of_hideAll _ q)
  ⟨hk,⟨env.locals,oL,hf,hideAll_none _ (hin env (.head _) _ hf),eL,by rw [dL];intro vs;exact nofun⟩,ff l fun _ h=>h⟩ hx fun h'' t fl ta bt up=>?_
 have cov:Cov x H O s0.heap (hideAll s0.heap ((env::l).filterMap (·.frame))) l:=fun b o q hb hn=>hideAll_get _ q fun hm=>by
  refine al (List.mem_filterMap.mp hm) fun v hv e=>?_
  rcases List.mem_cons.mp hv with rfl|hv
  ·rw [hf] at e;cases e
   rcases hb with hb|hb|⟨p,hp,hb⟩
   ·exact hb R.o.lH
   ·exact hb R.o.lP
   ·exact R.o.lO p hp hb
  ·exact hn v hv e
 exact hE _ ⟨H,e,_,s0,l,_,rfl,hl,R.t,cov,fl,(Heap.UpToSlots.of_keeps hx.keeps).trans up,rfl,rfl,rfl⟩
def cF (c:Cc):Prop:=aF c.x c.A∨∃ A,c.A=A.deeper c.env∧aF c.x A∧c.env.frame=some c.env.locals∧c.env.scope.kind≠.module
theorem cF.outer {H loc O s} (h:cF c) (R:ag c H loc O s):aF (outer c s.heap) c.A:=by
 rcases h with h|⟨A,e,h,hf,hk⟩
 ·exact h.le (cq c s.heap)
 ·rw [e];refine al R.f.ns fun m q6 _=>?_;obtain ⟨oL,es,ep,eL,dL⟩:=q6;refine (h.le (cq c s.heap)).deeper ⟨hk,_,oL,hf,?_,by rw [dL.1];intro vs;exact nofun⟩;rw [mM R.o.lP,eL];rfl
theorem cF.body (h:aF x A) (hk:fd.scope.kind=.function):cF ⟨x,A.deeper (callEnvC fd L f),callEnvC fd L f,own⟩ :=
 .inr ⟨A,rfl,h,rfl,by refine (?_:fd.scope.kind≠_);rw [hk];decide⟩
noncomputable def df:List UInt8→List UInt8
 |n::b::r=>List.replicate n.toNat b++df r
 |_=>[]
noncomputable def kI:List UInt8→List (List UInt8)
 |n::b::r=>List.replicate n.toNat b::kI r
 |_=>[]
theorem kd:∀ l:List UInt8,(kI l).flatten=df l
 |[]=>rfl
 |[_]=>rfl
 |n::b::r=>by refine (?_:List.replicate n.toNat b++(kI r).flatten=_);rw [kd r];rfl
theorem mH:∀ l:List UInt8,(kI l).length=l.length/2
 |[]=>rfl
 |[_]=>by simp [kI]
 |n::b::r=>by refine (?_:(kI r).length+1=_);rw [mH r];exact (Nat.add_div_right r.length (z:=2) (by decide)).symm
theorem jQ:∀ (l:List UInt8) (k:Nat),(fb l)[k]? = l[2*k]?
 |[],k=>by simp [fb]
 |[a],k=>by cases k<;>simp [fb]
 |a::b::r,0=>rfl
 |a::b::r,k+1=>by
  refine (?_:(fb r)[k]? = _);rw [jQ r k,show 2*(k+1)=2*k+1+1 from rfl,List.getElem?_cons_succ,List.getElem?_cons_succ]
theorem vK (l:List UInt8) (k:Nat):(xo l)[k]? = l[2*k+1]?:=by
 cases l with
 |nil=>simp [xo]
 |cons a r=>rw [xo,jQ,List.getElem?_cons_succ]
theorem rL:∀ (l:List UInt8) (k:Nat) (n b:UInt8),l[2*k]? = some n→l[2*k+1]? = some b→(kI l)[k]? = some (List.replicate n.toNat b)
 |[],k,n,b,h,_=>by simp at h
 |[a],k,n,b,_,h=>by simp at h
 |x::y::r,0,n,b,h1,h2=>by simp at h1 h2;subst h1;subst h2;rfl
 |x::y::r,k+1,n,b,h1,h2=>by
  rw [show 2*(k+1)=2*k+1+1 from rfl,List.getElem?_cons_succ,List.getElem?_cons_succ] at h1;rw [show 2*(k+1)+1=2*k+1+1+1 from rfl,List.getElem?_cons_succ,List.getElem?_cons_succ] at h2;exact rL r k n b h1 h2
theorem zW {j:Nat} (h:n≤2*j+1):n/2≤j:=by lia
theorem Fw {b:UInt8} {k:Nat}:∀ m∈List.replicate k ((b.toNat:Nat):Int),0≤m∧m<256:=fun m h=>by rw [List.eq_of_mem_replicate h];exact ⟨Int.natCast_nonneg _,Int.ofNat_lt.mpr b.toNat_lt⟩
theorem CR {b:UInt8} {k:Nat}:bR (List.replicate k ((b.toNat:Nat):Int))=List.replicate k b:=by simp [bR]
theorem BO {k j:Nat} (e1:k+j=n+1) (h:2*j+1<n):k-1<k∧k-1+(j+1)=n+1∧2*(j+1)≤n+1:=by
 cases k with
 |zero=>lia
 |succ k=>exact ⟨Nat.lt_succ_self k,(Nat.succ_add_eq_add_succ k j).symm.trans e1,Nat.le_succ_of_le h⟩
theorem mF {K:Bool→Own→Prop} (h:K true O):jx c [] loc O K E:=h
theorem EA (b:ah x) (r:Rm A 1) (hl:l.length≤1000000) (hz:(df l).length≤16777216):au x A (.ref 197) [.bytes l] O (fun d O'=>d=.bytes (df l)∧O'=O) E:=by
 refine aJ (fd:=DT) (names:=[S "data"]) (dx:=[]) b (fun P=>by kernel_rfl) (fun P=>by kernel_rfl) (by decide +kernel) r [] ?_ (fun _=>.nil) [(S "data",.bytes l)] rfl fun L=>?_
 ·intro P St;exact aH fun _=>bM (by kernel_rfl)
 have r':=r.deeper (callEnvC DT L 197) (m:=0) (by decide);refine ad ?_;k_extra"MX";refine GZ ?_;refine wP fz ?_;refine uV rfl ?_;refine cr (.lst ((kI l).map .bytes)) (M9 (wf (kG (by kernel_rfl)) rfl ?_)) ?_
 ·k_extra"MX";refine rp ?_;k_extra"MX";refine ⟨2,rfl,fun t=>?_⟩;refine CF (fun _ _=>⟨_,rfl⟩) (Nt hl (by decide)) ?_;k_extra"MX";refine kx ?_;k_extra"MX";refine ⟨1,2,rfl,rfl,fun t u=>?_⟩;refine FM (fun _ _=>⟨_,rfl⟩) (Nt hl (by decide)) ?_;k_extra"MX";refine t4 fun z TI TO i1 i2 t1 t2=>?_;refine dc (fun x' le=>me) ?_;refine ⟨.ref z,l.length+1,fun k acc O'=>∃ j,k+j=l.length+1∧2*j≤l.length+1∧acc=((kI l).take j).map .bytes∧O'=pv z TI TO i1 i2 (g9 (fb l) t1 j) (g9 (xo l) t2 j) [] []++O,rfl,⟨0,rfl,Nat.zero_le _,rfl,rfl⟩,fun x' le=>me,?_⟩
  rintro k acc O' ⟨j,e1,e2,rfl,rfl⟩
  refine ⟨by rw [List.length_map];exact Nat.le_trans (List.length_take_le' _ _) (Nat.le_trans (Nat.le_of_eq (mH l)) (Nat.le_trans (Nat.div_le_self _ _) (Nat.le_trans hl (by decide)))),fun x' le _ C=>?_⟩;have hh:(A.deeper (callEnvC DT L 197)).handled=.none:=r'.hh;refine CS hh (fun H _=>nJ) (fun H _=>nJ) (fun hn=>?_) fun d1 d2 g1 g2=>?_
  ·refine ⟨?_,rfl⟩;rw [List.take_of_length_le];rw [mH]
   rcases hn with hn|hn
   ·rw [List.getElem?_map,Option.map_eq_none_iff,jQ,List.getElem?_eq_none_iff] at hn;exact zW (Nat.le_succ_of_le hn)
   ·rw [List.getElem?_map,Option.map_eq_none_iff,vK,List.getElem?_eq_none_iff] at hn;exact zW hn
  ·rw [List.getElem?_map,jQ] at g1;rw [List.getElem?_map,vK] at g2;refine al (Option.map_eq_some_iff.mp g1) fun n q1 q1=>?_;obtain rfl:=q1;refine al (Option.map_eq_some_iff.mp g2) fun bb q2 q2=>?_;obtain rfl:=q2;have n1:=n.toNat_lt;have B':ah x':=b.le ((le:x.le x'));k_extra"MM";refine mF (bw rfl (m7 ?_));k_extra"MM";refine pj (Nat.le_of_lt (Nat.lt_trans n1 (by decide))) ?_;k_extra"MM";refine jo Fw (by rw [List.length_replicate,sizeLine_eq];exact Nat.le_of_lt (Nat.lt_trans n1 (by decide))) hh ?_;have st:=BO e1 (List.getElem?_eq_some_iff.mp q2).1;refine ⟨k-1,st.1,j+1,st.2.1,st.2.2,?_,rfl⟩;rw [CR,List.take_add_one,rL l j n bb q1 q2,List.map_append]
   rfl
 ·k_extra"MX";refine FO (by rw [kd];exact hz) ?_;rw [kd];exact bT ⟨rfl,rfl⟩
theorem yD (b:ah x) (r:Rm A 1) (hl:l.length≤16777216) (h61:61≤l.length) (hn:(dh fV2 l 0)[12]? = some num) :
  aY x A (.ref 841) [.stat (.ref m),.bytes l] ((m,SO.inst 1069 dm)::(dm,SO.attrs [])::O)
   (fun d O'=>d=.none∧O'=(m,SO.inst 1069 dm)::(dm,SO.attrs (cj l (dh fV2 l 0) 61 num 0 false))::O) E:=by
 refine fR (fd:=Jm) (names:=[S "self",S "buffer"]) (dx:=[]) b (fun P=>by kernel_rfl) (fun P=>by kernel_rfl) (by decide +kernel) r [] ?_ (fun _=>.nil) [(S "buffer",.bytes l),(S "self",.stat (.ref m))] rfl fun L=>?_
 ·intro P St;exact aH fun _=>aH fun _=>bM (by kernel_rfl)
 have r':=r.deeper (callEnvC Jm L 841) (m:=0) (by decide);skip;refine aE (nN rfl (jv rfl ?_));k_extra"MM";refine CJ hl ?_;k_extra"MX";refine fF (ad ?_);k_extra"MX";refine jN (b:=#[62,113,105,105,98,73,104,105,113,113,113,104,105,105]) b (fun P=>⟨1766,by kernel_rfl⟩) jf pE ?_;k_extra"MX";refine vx b (fun P=>⟨1766,by kernel_rfl⟩) HV (by decide +kernel) (by decide) h61 hl ?_;k_extra"MX";refine FK (b:=#[62,113,105,105,98,73,104,105,113,113,113,104,105,105]) b (fun P=>⟨1766,by kernel_rfl⟩) HV ?_;k_extra"MX";refine bP (fun _ _=>⟨_,rfl⟩) (by lia) (by decide) (xK hn) ?_;k_extra"MX";exact jY ⟨rfl,rfl⟩
theorem EK (b:ah x) (r:Rm A 2) (m1:(m,SO.inst 1069 dm)∈O) (m2:(dm,SO.attrs fs)∈O) (e:lk fs (S "CODEC_GZIP")=.none) :
  au x A (.ref 820) [.stat (.ref m),.int 1] O (fun d O'=>d=.none∧O'=O) E:=by
 refine aJ (fd:=Jn) (names:=[S "self",S "compression_type"]) (dx:=[]) b (fun P=>by kernel_rfl) (fun P=>by kernel_rfl) (by decide +kernel) r [] ?_ (fun _=>.nil) [(S "compression_type",.int 1),(S "self",.stat (.ref m))] rfl fun L=>?_
 ·intro P St;exact aH fun _=>aH fun _=>bM (by kernel_rfl)
 have r':=r.deeper (callEnvC Jn L 820) (m:=1) (by decide);refine ad ?_;k_extra"MM";refine BL b m1 m2 e ?_;k_extra"MX";refine bw rfl ?_;k_extra"MX";refine bH (fun x' le=>(Np (b.le le) r').call) ?_;k_extra"MX";refine aT rfl ?_;k_extra"MX";exact jY ⟨rfl,rfl⟩
noncomputable def qX (sq:Bool) (buf:List UInt8) (pos:Nat):List UInt8:=match sq with|true=>df (buf.drop pos)|false=>buf
noncomputable def tJ (sq:Bool) (pos:Nat):Nat:=match sq with|true=>0|false=>pos
theorem Nj {hd:List Int} {pos:Nat} (b:ah x) (r:Rm A 4) (hl:buf.length≤1000000) (h5:hd[5]? = some v) (hv:Builtin.bitAnd v 7=if sq=true then 1 else 0) (hz:(df (buf.drop pos)).length≤16777216) :
  aY x A (.ref 1030) [.stat (.ref m)] ((m,SO.inst 1069 dm)::(dm,SO.attrs (cj buf hd pos num idx false))::O)
   (fun d O'=>d=.none∧O'=(m,SO.inst 1069 dm)::(dm,SO.attrs (cj (qX sq buf pos) hd (tJ sq pos) num idx true))::O) E:=by
 refine fR (fd:=D3) (names:=[S "self"]) (dx:=[]) b (fun P=>by kernel_rfl) (fun P=>by kernel_rfl) (by decide +kernel) r [] ?_ (fun _=>.nil) [(S "self",.stat (.ref m))] rfl fun L=>?_
 ·intro P St;exact aH fun _=>bM (by kernel_rfl)
 have r':=r.deeper (callEnvC D3 L 1030) (m:=3) (by decide);unfold cj;refine aE (m6 ?_);k_extra"MX";refine bw rfl ?_;refine aE (dy ?_);k_extra"MX";refine aW b (.head _) (.tail _ (.head _)) rfl (fun x' le=>qQ (buf:=buf) (hd:=hd) (pos:=pos) (num:=num) (idx:=idx) (dec:=false) (b.le le) (r'.le (by decide)).in1 (.head _) (.tail _ (.head _)) h5) ?_;k_extra"MX";refine aE (m6 ?_);rw [hv]
 cases sq with
 |false =>
  k_extra"MX";refine aT rfl ?_;refine gI ?_;refine gI ?_;refine fF (ad ?_);k_extra"MX";exact jY ⟨rfl,rfl⟩
 |true =>
  k_extra"MX";refine bw rfl ?_;refine aE (dy ?_);k_extra"MX";refine bH (fun x' le=>(EK (b.le le) (r'.le (by decide)) (.head _) (.tail _ (.head _)) (by k_extra"N")).call) ?_;k_extra"MX";refine aE (dy ?_);k_extra"MX";refine rq ?_;k_extra"MX";refine ⟨pos,rfl,fun t=>?_⟩;refine kh (fun _ _=>⟨_,rfl⟩) (by lia) ?_;k_extra"MX";refine gi (by rw [List.length_drop];lia) ?_;k_extra"MX";refine aE (dy ?_);k_extra"MX";refine bw rfl ?_;k_extra"MX";refine bH (fun x' le=>(EA (b.le le) (r'.le (by decide)) (by rw [List.length_drop];lia) hz).call) ?_;k_extra"MX";refine aE (nN rfl (jv rfl ?_));k_extra"MX";refine CJ hz ?_;k_extra"MX";refine fF (ad ?_);k_extra"MX";refine gI ?_;refine fF (ad ?_);k_extra"MX";exact jY ⟨rfl,rfl⟩
noncomputable def Gk (l:List UInt8):Int:=aO fB l.toArray 16 ⟨'b',1,0,1⟩
theorem Lr {l}:(dh fB l ((16:Int)).toNat).map D.int=[.int (Gk l)]:=rfl
inductive ew (sl:List UInt8):Addr→List (Str×D)→Prop
 |old (one:Bool):hN one≤sl.length→hv sl 0 1=sl.length-12→hv sl 0 3=mg one→Gk sl=mg one→ew sl 544 (bk sl one (hv sl 0 0) (hv sl 0 1) (hv sl 0 2) (hts one sl 0) (hv sl 0 4) false)
 |new (num:Int):61≤sl.length→(dh fV2 sl 0)[12]? = some num→Gk sl=2→ew sl 1069 (cj sl (dh fV2 sl 0) 61 num 0 false)
theorem au.mono {x A f ds O E} {K:D→Own→Prop} (h:au x A f ds O K E) (k:∀ d O',K d O'→K' d O'):au x A f ds O K' E:=fun H s R vs T rs q qe=>h H s R vs T rs (fun H' s' v d O' z=>q H' s' v d O' (k _ _ z)) qe
theorem aY.mono {x A f ds O E} {K:D→Own→Prop} (h:aY x A f ds O K E) (k:∀ d O',K d O'→K' d O'):aY x A f ds O K' E:=fun H s R vs T rs q qe=>h H s R vs T rs (fun H' s' v d O' z=>q H' s' v d O' (k _ _ z)) qe
theorem au.N {x A f ds O E} {K:D→Own→Prop} (h:au x A f ds O K E):aY x A f ds O K E:=fun H s R vs T rs q qe=>qI (h H s R vs T rs q qe)
theorem Bp (b:ah x) (r:Rm A 1) (m1:(m,SO.inst 1297 dm)∈O) (m2:(dm,SO.attrs (cW l pos .none rem))∈O):au x A (.ref 1280) [.stat (.ref m)] O (fun d O'=>d=.none∧O'=O) E:=by
 refine aJ (fd:=m4) (names:=[S "self",S "_min_slice",S "_magic_offset"]) (dx:=[.int 26,.int 16]) b (fun P=>by kernel_rfl) (fun P=>by kernel_rfl) (by decide +kernel) r [.int 26 2324,.int 16 2321] ?_ (fun _=>.cons (.int _ _) (.one (.int _ _))) [(S "_magic_offset",.int 16),(S "_min_slice",.int 26),(S "self",.stat (.ref m))] rfl fun L=>?_
 ·intro P St;exact aH fun _=>bM (by kernel_rfl)
 unfold cW at m2;refine ad ?_;k_extra"MX";refine bw rfl ?_;k_extra"MX";exact bT ⟨rfl,rfl⟩
theorem Nn {pos:Nat} (b:ah x) (r:Rm A 4) (hl:l.length≤16777216) (hp:dA l pos) (hs:sl.length≤16777216) (h26:26≤sl.length) (ib:ew sl C fs) :
  aY x A (.ref 1280) [.stat (.ref m)] ((m,SO.inst 1297 dm)::(dm,SO.attrs (cW l pos (some sl) rem))::O)
   (fun d O'=>∃ bx bdx,d=.stat (.ref bx)∧O'=(bx,SO.inst C bdx)::(bdx,SO.attrs fs)::(m,SO.inst 1297 dm)::(dm,SO.attrs (cW l (bX l pos) (ce l pos) (cv l pos rem)))::O) E:=by
 refine fR (fd:=m4) (names:=[S "self",S "_min_slice",S "_magic_offset"]) (dx:=[.int 26,.int 16]) b (fun P=>by kernel_rfl) (fun P=>by kernel_rfl) (by decide +kernel) r [.int 26 2324,.int 16 2321] ?_ (fun _=>.cons (.int _ _) (.one (.int _ _))) [(S "_magic_offset",.int 16),(S "_min_slice",.int 26),(S "self",.stat (.ref m))] rfl fun L=>?_
 ·intro P St;exact aH fun _=>bM (by kernel_rfl)
 have r':=r.deeper (callEnvC m4 L 1280) (m:=3) (by decide);refine aE (dy ?_);skip;k_extra"MX";refine aE (m6 ?_);k_extra"MX";refine aT rfl ?_;refine gI ?_;refine aE (m6 ?_);k_extra"MX";refine bJ (by lia) ?_;k_extra"MX";refine aT (by simp;lia) ?_;refine gI ?_;refine aE (dy ?_);k_extra"MX";refine dc (fun x' le=>(pt (b.le le) (r'.le (by decide)) hl hp).call) ?_;k_extra"MX";refine aE (dy ?_);k_extra"MX";refine cR NI (by decide +kernel) (by decide) (by decide) (by refine (?_:(16:Int)+(1:Nat)≤_);lia) hs ?_;rw [Lr];k_extra"MX";refine aE (m6 ?_)
 cases ib with
 |old one h1 h2 h3 h4 =>
  rw [h4];k_extra"MX";refine bw (by cases one<;>rfl) ?_;refine fF (ad ?_);k_extra"MX";refine cK fun x' le=>au.call (fV (b.le le) fun A' bx bdx k=>(yA (b.le le) (k.rm r' (by lia)) hs h1 h2 h3).mono fun d O' h=>⟨h.1,?_⟩);exact bT ⟨bx,bdx,rfl,h.2⟩
 |new num h1 h2 h3 =>
  rw [h3];k_extra"MX";refine aT rfl ?_;refine aE (z5 (jv rfl ?_));k_extra"MX";refine gj fun x' le=>aY.call (wr (b.le le) fun A' bx bdx k=>(yD (b.le le) (k.rm r' (by lia)) hs h1 h2).mono fun d O' h=>⟨h.1,?_⟩);exact bT ⟨bx,bdx,rfl,h.2⟩
theorem zZ (b:ah c.x) (hf:ey c.env) (hk:c.env.kindOf (S "StopIteration")=some .globalImplicit) (hh:c.A.handled=.none)
  (h:∀ H s h' e,ag c H loc O s→Heap.MadeExcOf s.heap h' e (.type "StopIteration") []→E (.ref e) {s with heap:=h'}):Ex c (.Raise (some (.Name (S "StopIteration") np)) .none pos) loc O KF E:=fun H s Q R q=>by
 have g:eV (S "StopIteration") (.type "StopIteration"):=inferInstance;refine jR (b.bltn g.n g.m _ _ _ R.t) fun mg mb n e n' e'=>?_;refine owsi_raiseC hh (Name_function_global hf.kind hk (loadGlobal_builtin (hf.glob▸n) e (hf.blt▸n') e' ⟨rfl,rfl⟩) (by kernel_rfl)) fun h' e' hm=>h H s h' e' R ?_;exact ⟨hm.keeps,hm.new,hm.there⟩
theorem yv (b:ah x) (r:Rm A 2) (fr:aF x A) (m1:(m,SO.inst 1297 dm)∈O) (m2:(dm,SO.attrs (cW l pos .none rem))∈O) :
  au x A (.ref 1294) [.stat (.ref m)] O (fun _ _=>False) (eS x A O (.type "StopIteration")):=by
 refine aJ (fd:=qx) (names:=[S "self"]) (dx:=[]) b (fun P=>by kernel_rfl) (fun P=>by kernel_rfl) (by decide +kernel) r [] ?_ (fun _=>.nil) [(S "self",.stat (.ref m))] rfl fun L=>?_
 ·intro P St;exact aH fun _=>bM (by kernel_rfl)
 have r':=r.deeper (callEnvC qx L 1294) (m:=1) (by decide);have m2':=m2;unfold cW at m2';refine ad ?_;k_extra"MX";refine bH (fun x' le=>(ng (b.le le) r' m1 m2).call) ?_;k_extra"MX";refine bw rfl ?_;refine ad ?_;refine zZ b (PK (by kernel_rfl)) (by kernel_rfl) r'.hh fun H s h' e R hm=>?_;exact gz fr rfl (by refine (?_:qx.scope.kind≠_);decide +kernel) R hm fun s z=>z
theorem yx {pos:Nat} (b:ah x) (r:Rm A 5) (hl:l.length≤16777216) (hp:dA l pos) (hs:sl.length≤16777216) (h26:26≤sl.length) (ib:ew sl C fs) :
  aY x A (.ref 1294) [.stat (.ref m)] ((m,SO.inst 1297 dm)::(dm,SO.attrs (cW l pos (some sl) rem))::O)
   (fun d O'=>∃ bx bdx,d=.stat (.ref bx)∧O'=(bx,SO.inst C bdx)::(bdx,SO.attrs fs)::(m,SO.inst 1297 dm)::(dm,SO.attrs (cW l (bX l pos) (ce l pos) (cv l pos rem)))::O) E:=by
 refine fR (fd:=qx) (names:=[S "self"]) (dx:=[]) b (fun P=>by kernel_rfl) (fun P=>by kernel_rfl) (by decide +kernel) r [] ?_ (fun _=>.nil) [(S "self",.stat (.ref m))] rfl fun L=>?_
 ·intro P St;exact aH fun _=>bM (by kernel_rfl)
 have r':=r.deeper (callEnvC qx L 1294) (m:=4) (by decide);refine aE (m6 ?_);skip;k_extra"MX";refine bH (fun x' le=>(ng (sl:=some sl) (b.le le) (r'.le (by decide)) (.head _) (.tail _ (.head _))).call) ?_;k_extra"MX";refine aT rfl ?_;refine gI ?_;refine aE (z5 (qC (by with_unfolding_all rfl) rfl ?_));k_extra"MX";refine gj fun x' le=>aY.call (aY.mono (Nn (b.le le) r' hl hp hs h26 ib) fun d O' h=>?_);refine bj h fun bx bdx q1 q2=>?_;obtain rfl:=q1;obtain rfl:=q2;exact bT ⟨bx,bdx,rfl,rfl⟩
theorem KH (h:∀ T t' k,Q (.str T t') {s with toks:=k}) :
  wpAny (model prog w) A (call (.builtin "str.format") [.str (S "Record size is less than the minimum record overhead ({})") t,.int 14 u]) Q E s:=by
 refine' KFm.call_k ?kfmF ?kfmg ?kfmm (h _)
 case kfmF=>kfm_eq
 case kfmg=>exact KFm.args_2 _ _
 case kfmm =>
  apply KPc.meets_of;intro _ _ _ _ _ _ _;refine Wb (Wq (a:=(_,_,_)) rfl ?_);refine Wb (m:=Builtin.Str.buildString _ _ _ _ _ _ _) (Wb ?_);rw [KPc.range_list];refine KFm.start ?_;intro _ _
  kfm_turns
noncomputable abbrev uj:List Value:=[.type "Exception",.type "BaseException",.type "object"]
noncomputable abbrev cN:Str:=S "CorruptRecordError"
noncomputable abbrev Jw:Obj:=excClassObj cN cN 59 58 [.type "Exception"] uj true [] [] false .none .none (some (.ref 50)) .none (some (.str cN 340)) (some (.str cN 348)) (some (.bool true)) "Exception.__new__"
theorem uu {P:Params} (X:(K P).In h):h.get? 59=some Jw∧h.Ns 58 (h.nsMap 58)∧h.nsMap 58 "__init__"=none∧OwnTail h uj uj :=
 ⟨X 59 Jw (by kernel_rfl),.of_isNs (isNs_of_in X (by kernel_rfl)),nsMap_none_of_in X (by kernel_rfl) (by kernel_rfl),tail_of_in X (by kernel_rfl)⟩
theorem Hv (P:Params):∃ ob,(K P).lookup 58=some ob:=Option.isSome_iff_exists.mp (by kernel_rfl)
theorem AW {x:Str} (h:KM (.builtin "str.format") [.str x] O):Mine.GM c "format" (.str x) loc O KM E:=fun pl H s Q v R rd q=>by
 cases rd using ac.cStr
 with_reducible exact KFm.method (q _ _ _ _ _ _ h R (Pr _) (.one (.str _ _)))
theorem vE (h:∀ T,K' (.str T) O):Op c (fun vs=>call (.builtin "str.format") vs) [.str (S "Record size is less than the minimum record overhead ({})"),.int 14] loc O K' E:=fun H s Q vs R rs q=>by
 refine ay rs fun v u r1 r2=>?_
 cases r1 using ac.cStr;cases r2 using ac.cInt
 exact KH fun T t' k=>q _ _ _ _ _ (h T) (R.tok _) (Pr _) (.str _ _)
theorem xU (b:ah c.x) (hf:ey c.env) (hk:c.env.kindOf (S "CorruptRecordError")=some .globalImplicit) (hh:c.A.handled=.none) (hp:[e_0].all gw=true)
  (h:Ev c e_0 loc O (fun d O₁=>∀ H s h' e v,ag c H loc O₁ s→Heap.MadeExcOf s.heap h' e (.ref 59) [v]→E (.ref e) {s with heap:=h'}) E):Ex c (.Raise (some (.Call (.Name (S "CorruptRecordError") np) [e_0] [] cpos)) .none pos) loc O KF E:=fun H s Q R q=>by
 have g:bU (S "CorruptRecordError") (.ref 59):=inferInstance;obtain ⟨mg,n,e⟩:=b.glob g.h _ _ _ R.t;obtain ⟨ob,hob⟩:=Hv c.x.w.params;obtain ⟨hC,hN,hni,T⟩:=uu (b.X R.t)
 refine wpAny_Raise_call_subT (C:=59) (nm:=cN) (q:=cN) (N:=58) (bs:=[.type "Exception"]) (bm:=uj) (hdct:=true) (sn:=[]) (sub:=[]) (ab:=false) (col:=.none) (dd:=.none) (k0:=some (.ref 50)) (k1:=.none) (k2:=some (.str cN 340)) (k3:=some (.str cN 348)) (k5:=some (.bool true))
  F.excBase_Exception (mN:=s.heap.nsMap 58) (T.hasType F.excBase_Exception.hasBase) hh (fW hp) hni (Name_function_global hf.kind hk (loadGlobal_global (hf.glob▸n) e ⟨rfl,?_⟩) (by kernel_rfl))
 have ev:Evs c cpos [e_0] loc O (fun ds O₁=>∃ d,ds=[d]∧∀ H s h' e v,ag c H loc O₁ s→Heap.MadeExcOf s.heap h' e (.ref 59) [v]→E (.ref e) {s with heap:=h'}) E:=by
  refine uV (by simpa using hp) (h.mono fun d O₁ k=>jP ⟨d,rfl,k⟩)
 refine gp (fW hp) (ev H s _ R fun H₁ sA vs ds O₁ k R1 le rs=>?_);obtain ⟨d,rfl,k⟩:=k;refine cG rs fun v r1=>?_;obtain ⟨hC1,hN1,_,T1⟩:=uu (b.X R1.t)
 have e1:sA.heap.nsMap 58=s.heap.nsMap 58:=by
  unfold Heap.nsMap;rw [b.X R1.t _ _ hob,b.X R.t _ _ hob]
 exact ⟨rfl,by rw [sizeLine_eq];exact Nat.le_of_ble_eq_true rfl,hC1,e1▸hN1,T1,fun h' e' hm=>k H₁ sA h' e' v R1 hm⟩
theorem yu (b:ah x) (r:Rm A 1) (fr:aF x A) (m1:(m,SO.inst 1297 dm)∈O) (m2:(dm,SO.attrs (cW l pos (some sl) rem))∈O) (hs:sl.length<26) :
  au x A (.ref 1280) [.stat (.ref m)] O (fun _ _=>False) (eS x A O (.ref 59)):=by
 refine aJ (fd:=m4) (names:=[S "self",S "_min_slice",S "_magic_offset"]) (dx:=[.int 26,.int 16]) b (fun P=>by kernel_rfl) (fun P=>by kernel_rfl) (by decide +kernel) r [.int 26 2324,.int 16 2321] ?_ (fun _=>.cons (.int _ _) (.one (.int _ _))) [(S "_magic_offset",.int 16),(S "_min_slice",.int 26),(S "self",.stat (.ref m))] rfl fun L=>?_
 ·intro P St;exact aH fun _=>bM (by kernel_rfl)
 have r':=r.deeper (callEnvC m4 L 1280) (m:=0) (by decide);have m2':=m2;unfold cW at m2';refine ad ?_;k_extra"MX";refine aT rfl ?_;k_extra"MX";refine bJ (by omega) ?_;k_extra"MX";refine bw (by simp;omega) ?_;refine ad ?_;refine xU b (PK (by kernel_rfl)) (by kernel_rfl) r'.hh rfl ?_;k_extra"MX";refine AW ?_;k_extra"MX";refine vE fun T=>?_;intro H s h' e v R hm;exact gz fr rfl (by refine (?_:m4.scope.kind≠_);decide +kernel) R hm fun s z=>z
noncomputable def mY:Bool→List UInt8
 |true=>[195,169]
 |false=>[]
noncomputable def GU:Bool→Str
 |true=>S "é"
 |false=>S ""
noncomputable abbrev jA:=List (Bool×Option (List UInt8))
noncomputable def fQ:jA→List Int
 |[]=>[]
 |(t,d)::r=>br (some (mY t))++(br d++fQ r)
noncomputable def cX (hs:jA):List D:=hs.map fun p=>.tup [.str (GU p.1),pD p.2]
noncomputable def eE (ts off:Int) (key val:Option (List UInt8)) (hs:jA):List Int:=aR 0++(aR ts++(aR off++(br key++(br val++(aR hs.length++fQ hs)))))
theorem aq.left {a b:List Int} (h:aq l p (a++b)):aq l p a:=fun i n e=>h i n (by rw [List.getElem?_append_left (List.getElem?_eq_some_iff.mp e).1];exact e)
theorem aq.right {a b:List Int} (h:aq l p (a++b)):aq l (p+a.length) b:=fun i n e=>by
 have:=h (a.length+i) n (by rw [List.getElem?_append_right (by lia),Nat.add_sub_cancel_left];exact e);rw [Nat.add_assoc];exact this
theorem aq.octets (h:aq l p (fh k)):(l.drop p).take k.length=k:=by
 apply List.ext_getElem?;intro i
 by_cases hi:i<k.length
 ·rw [List.getElem?_take_of_lt hi,List.getElem?_drop,List.getElem?_eq_getElem hi];have:=(h i (k[i].toNat:Int) (by simp [fh,hi])).1;rw [this];simp
 ·rw [List.getElem?_eq_none (by lia:k.length≤i),List.getElem?_eq_none];rw [List.length_take];lia
theorem aq.room {a:List Int} (h:aq l p a) (hp:p≤l.length):p+a.length≤l.length:=by
 by_cases h0:a.length=0
 ·lia
 ·have hi:a.length-1<a.length:=by lia
  have:=(h (a.length-1) a[a.length-1] (List.getElem?_eq_getElem hi)).1;have:=(List.getElem?_eq_some_iff.mp this).1;lia
theorem kY:(fh k).length=k.length:=by simp [fh]
theorem A8 {h_0:ExceptHandler} {hs:List ExceptHandler} (h:Exs c body loc O (Ml c orelse KF E) NoE):Ex c (.Try body (h_0::hs) orelse [] pos) loc O KF E:=fun H s Q R q=>by
 refine wpAny_Try_except (Wm (h H s (fun f sA=>match f with|.next=>wpAny c.M c.A (execs orelse c.env) Q E sA|f=>Q f sA) R fun H₁ sA f g lA O₁ k R1 le1 fi=>?_) (fun _ _ z=>z) fun _ _ z=>z.elim)
 cases fi with
 |next=>exact k H₁ sA Q R1 fun H' s' f g l O' k R' le' fi=>q H' s' f g l O' k R' (Pt le1 le') fi
 |brk=>exact q _ _ _ _ _ _ k R1 le1 .brk
 |cont=>exact q _ _ _ _ _ _ k R1 le1 .cont
 |ret r=>exact q _ _ _ _ _ _ k R1 le1 (.ret r)
theorem xV {o value:PySem.Expr}
  (h:Ev c o loc O (fun t O₁=>Op c (fun vs=>getAttr (vs.headD .none) attr true) [t] loc O₁ (fun a O2=>Ev c value loc O2 (fun v O3=>Op c (fun vs=>inplaceOp op (vs.headD .none) (vs.tail.headD .none)) [a,v] loc O3
   (fun d O4=>OpU c (fun vs=>setAttr (vs.headD .none) attr (vs.tail.headD .none)) [t,d] loc O4 (fun O5=>KF .next loc O5) E) E) E) E) E):Ex c (.AugAssign (.Attribute o attr tpos) op value pos) loc O KF E:=fun H s Q R q=>by
 refine wpAny_AugAssign_AttributeAny (h H s _ R fun H₁ sA ov t O₁ h_1 R1 le1 rA=>h_1 H₁ sA _ [ov] R1 (.one rA) fun HB s2 old a O2 h_2 R2 le2 rB=>h_2 HB s2 _ R2 fun H3 s3 v d O3 h_3 R3 le3 rC =>
  h_3 H3 s3 _ [old,v] R3 (.two (rB.mono le3) rC) fun H4 s4 nw dD O4 h_4 R4 le4 r4=>h_4 H4 s4 _ [ov,nw] R4 (.two (rA.mono (Pt le2 (Pt le3 le4))) r4) fun H' s' O' k R' le' =>
   q _ _ _ _ _ _ k R' (Pt le1 (Pt le2 (Pt le3 (Pt le4 le')))) .next)
section
structure cV where
 (buf:List UInt8) (hd:List Int) (pos:Nat) (num idx base att first mx ts off:Int) (key val:Option (List UInt8)) (hs:jA)
noncomputable def cV.len (i:cV):Nat:=(eE i.ts i.off i.key i.val i.hs).length
noncomputable def cV.tt (i:cV):Int:=if Builtin.bitAnd i.att 8=0 then 0 else 1
noncomputable def cV.when (i:cV):Int:=if i.tt=1 then i.mx else i.first+i.ts
noncomputable def cV.p1 (i:cV):Nat:=i.pos+(aR i.len).length
noncomputable def cV.endp (i:cV):Nat:=i.p1+i.len
noncomputable def cV.args (i:cV):List D:=[.int i.len,.int (i.base+i.off),.int i.when,.int i.tt,pD i.key,pD i.val,.lst (cX i.hs)]
structure uG (i:cV):Prop where
 hl:i.buf.length≤16777216
 h0:i.hd[0]? = some i.base
 h5:i.hd[5]? = some i.att
 h7:i.hd[7]? = some i.first
 h8:i.hd[8]? = some i.mx
 la:aq i.buf i.pos (aR i.len++eE i.ts i.off i.key i.val i.hs)
 hp:i.pos≤i.buf.length
 t0:-2^62≤i.ts
 t1:i.ts<2^62
 o0:-2^62≤i.off
 o1:i.off<2^62
 hz:i.hs.length≤1000
structure At (l:List UInt8) (e p:Nat) (ns:List Int):Prop where
 laid:aq l p ns
 le:p≤l.length
 fin:p+ns.length=e
theorem At.skip {l e p} {a b:List Int} (h:At l e p (a++b)):At l e (p+a.length) b:=⟨h.laid.right,h.laid.left.room h.le,by have:=h.fin;rw [List.length_append] at this;lia⟩
theorem At.skipB {l e p} {d:List UInt8} {b:List Int} (h:At l e p (fh d++b)):At l e (p+d.length) b:=kY (k:=d)▸h.skip
theorem At.data {l e p} {d:List UInt8} {b:List Int} (h:At l e p (br (some d)++b)):At l e p (aR d.length++(fh d++b)):=List.append_assoc (aR d.length) (fh d) b▸h
theorem At.small {l e p} {d:List UInt8} {b:List Int} (hl:l.length≤16777216) (h:At l e p (br (some d)++b)):d.length≤16777216:=by
 have:=h.laid.left.right.room (h.laid.left.left.room h.le);rw [kY] at this;lia
noncomputable def x5:Option (List UInt8)→Int
 |.none=>-1
 |some d=>d.length
noncomputable def Ju:Option (List UInt8)→List Int
 |.none=>[]
 |some d=>fh d
theorem Eo {d:Option (List UInt8)}:br d=aR (x5 d)++Ju d:=by cases d with|none=>exact (List.append_nil _).symm|some d=>rfl
theorem At.opt {l e p} {d:Option (List UInt8)} {b:List Int} (h:At l e p (br d++b)):At l e p (aR (x5 d)++(Ju d++b)):=by rw [Eo,List.append_assoc] at h;exact h
theorem At.ok {l e p} {d:Option (List UInt8)} {b:List Int} (hl:l.length≤16777216) (h:At l e p (br d++b)):-2^62≤x5 d∧x5 d<2^62:=by
 cases d with
 |none=>exact ⟨by decide,by decide⟩
 |some d=>have:=h.small hl;exact ⟨by refine (?_:-2^62≤(d.length:Int));lia,by refine (?_:(d.length:Int)<2^62);lia⟩
theorem pS {d:List UInt8}:((p+(aR d.length).length:Nat):Int)+(d.length:Nat)=((p+(br (some d)).length:Nat):Int):=by
 rw [br,List.length_append,kY];lia
theorem zM:decide ((n:Int)<0)=false:=by simp
theorem ub:decide ((0:Int)≤n)=true:=by simp
theorem Co:((n+1:Nat):Int)-1=(n:Nat):=by lia
theorem N8:(((n+1:Nat):Int) != 0)=true:=by simp;lia
theorem GT {t:Bool}:-2^62≤((mY t).length:Int)∧((mY t).length:Int)<2^62:=by cases t<;>decide
theorem dt {e:Nat} {b:List Int} (B:ah c.x) (r:Rm c.A 1) (hl:l.length≤16777216) (hv:-2^62≤v∧v<2^62) (a:At l e p (aR v++b)) (k:K' (.tup [.int v,.int ((p+(aR v).length:Nat):Int)]) O) :
  Op c (fun vs=>call (.ref 385) vs) [.barr l,.int (p:Nat)] loc O K' E:=bH (fun x' le=>Ey (B.le le) r hv.1 hv.2 hl a.laid.left) k
theorem gQ {value j7:PySem.Expr} {d:List UInt8} {e:Nat} {b:List Int} {u:Tok} (so:dE j7) (hl:l.length≤16777216) (a:At l e p (fh d++b)) (k:K' (.barr d) O):Op c (gv value j7) [.barr l,.obj (sl2 (.int p t) (.int (p+d.length:Nat) u))] loc O K' E :=
 rj so hl (by rw [Nat.add_sub_cancel_left,a.laid.left.octets];exact k)
theorem CB {i j r:Int} (e:i-j=r) (h:K' (.int r) O):Op c (fun vs=>inplaceOp .Sub (vs.headD .none) (vs.tail.headD .none)) [.int i,.int j] loc O K' E:=FP (e▸h)
theorem FS {t:Bool} (k:K' (.str (GU t)) O):Op c (fun vs=>call (.builtin "bytearray.decode") vs) [.barr (mY t),.str (S "utf-8")] loc O K' E:=by
 cases t with
 |true=>exact vF k
 |false=>exact vG k
section
variable {i:cV}
noncomputable abbrev RdO (i:cV) (m dm:Addr) (O:Own) (p:Nat):Own:=(m,SO.inst 1069 dm)::(dm,SO.attrs (cj i.buf i.hd p i.num i.idx true))::O
noncomputable abbrev rdL (i:cV) (m:Addr):Loc:=[(S "self",.stat (.ref m)),(S "buffer",.barr i.buf),(S "decode_varint",.stat (.ref 385)),(S "length",.int i.len),(S "start_pos",.int i.p1),(S "offset",.int (i.base+i.off)),(S "timestamp",.int i.when)]
noncomputable abbrev hdL (i:cV) (m a:Addr):Loc:=(S "key",pD i.key)::(S "value",pD i.val)::(S "headers",.stat (.ref a))::rdL i m
def HO (x:Cx) (A:Around) (L:Addr) (z:Bool) (i:cV) (m dm:Addr) (O:Own) (K:D→Own→Prop) (E:Value→Shared→Prop):Prop :=
 ∀ x',x.le x'→bI x' (A.deeper (callEnvC fS L 1038)) (fun vs=>call (.ref (if z=true then 1227 else 1166)) vs) i.args (RdO i m dm O i.endp) K (dT x A (callEnvC fS L 1038) E)
abbrev RdX (n:Nat) (x:Cx) (A:Around) (L:Addr) (i:cV) (m dm:Addr) (O:Own) (K:D→Own→Prop) (E:Value→Shared→Prop) (loc:Loc):Prop :=
 Exs (Hb x A fS L 1038) ((aB fS).drop n) loc (RdO i m dm O i.pos) (kFn K) (dT x A (callEnvC fS L 1038) E)
theorem FA {i:cV}:(((i.endp:Nat):Int)-(i.p1:Nat) != (i.len:Nat))=false:=by simp [cV.endp];lia
theorem EE {K:D→Own→Prop} {z:Bool} (b:ah x) (r:Rm (A.deeper (callEnvC fS L 1038)) 3) (k:uG i) (hz:(Builtin.bitAnd i.att 32 != 0)=z)
  (g:Ext ((S "pos",.int i.endp)::(S "key",pD i.key)::(S "value",pD i.val)::(S "headers",.lst (cX i.hs))::rdL i m) loc) (mk:HO x A L z i m dm O K E):RdX 17 x A L i m dm O K E loc:=by
 refine ad ?_;k_extra"MX";refine aT FA ?_;refine bl ?_;refine ad ?_;unfold RdO cj;k_extra"MX";refine aW b (.head _) (.tail _ (.head _)) rfl (fun x' le=>Bu (buf:=i.buf) (hd:=i.hd) (pos:=i.endp) (num:=i.num) (idx:=i.idx) (dec:=true) (b.le le) (r.le (by decide)).in1 (.head _) (.tail _ (.head _)) k.h5) ?_;k_extra"MX"
 cases z with
 |true =>
  refine bw hz ?_;k_extra"MX";refine aW b (.head _) (.tail _ (.head _)) rfl (fun x' le=>qP (buf:=i.buf) (hd:=i.hd) (pos:=i.endp) (num:=i.num) (idx:=i.idx) (dec:=true) (b.le le) (r.le (by decide)).in1 (.head _) (.tail _ (.head _)) k.h5) ?_;k_extra"MX";exact cK fun x' le=>bI.mono (mk x' le) fun d O' h=>He h
 |false =>
  refine aT hz ?_;k_extra"MX";refine aW b (.head _) (.tail _ (.head _)) rfl (fun x' le=>qP (buf:=i.buf) (hd:=i.hd) (pos:=i.endp) (num:=i.num) (idx:=i.idx) (dec:=true) (b.le le) (r.le (by decide)).in1 (.head _) (.tail _ (.head _)) k.h5) ?_;k_extra"MX";exact cK fun x' le=>bI.mono (mk x' le) fun d O' h=>He h
structure HdI (i:cV) (m a:Addr) (s:jA×jA×Nat) (l:Loc):Prop where
 e:i.hs=s.1++s.2.1
 x:Ext ((S "header_count",.int (s.2.1.length:Nat))::(S "pos",.int (s.2.2:Nat))::hdL i m a) l
 at':At i.buf i.endp s.2.2 (fQ s.2.1)
theorem DG {i:cV} {ds r:jA} (e:i.hs=ds++r) (hz:i.hs.length≤1000):(cX ds).length≤sizeLine:=by
 rw [cX,List.length_map,sizeLine_eq];have:ds.length≤i.hs.length:=by rw [e,List.length_append];exact Nat.le_add_right _ _
 lia
theorem DF {ds:jA} {t:Bool} {d:Option (List UInt8)}:(a,SO.list (cX ds++[.tup [.str (GU t),pD d]]))::O=(a,SO.list (cX (ds++[(t,d)])))::O:=by rw [cX,cX,List.map_append];rfl
theorem Bo {K:D→Own→Prop} {z:Bool} (b:ah x) (r:Rm (A.deeper (callEnvC fS L 1038)) 3) (k:uG i) (hz:(Builtin.bitAnd i.att 32 != 0)=z)
  (g:Ext ((S "pos",.int (p:Nat))::(S "key",pD i.key)::(S "value",pD i.val)::rdL i m) loc) (a0:At i.buf i.endp p (aR i.hs.length++fQ i.hs)) (mk:HO x A L z i m dm O K E):RdX 13 x A L i m dm O K E loc:=by
 have hl:=k.hl;have r1:=r.le (m:=1) (by decide);refine ad ?_;k_extra"MX";refine dt b r1 hl (qk (Nt k.hz (by decide))) a0 ?_;k_extra"MX";refine ite_no zM ?_;k_extra"MX";refine gM fun a=>?_;k_extra"ME";refine ad ?_;refine uT (fun s:jA×jA×Nat=>s.2.1.length) (HdI i m a) (fun s=>(a,.list (cX s.1))::RdO i m dm O i.pos) ([],i.hs,p+(aR i.hs.length).length) ⟨rfl,by k_extra"EX",a0.skip⟩ ?_
 rintro ⟨ds,todo,q⟩ l I
 cases todo with
 |nil =>
  have X:=I.x;k_extra"MX";refine ite_no rfl ?_;refine bl ?_;refine dW (eK (y:=S "headers") (X.lk (by k_extra"L")) .head) ?_;have hq:q=i.endp:=I.at'.fin;have he:ds=i.hs:=(List.append_nil ds).symm.trans I.e.symm;exact EE b r k hz (.cons (hq▸(by k_extra"L":lk _ (S "pos")=some (D.int (q:Nat)))) (.cons (by k_extra"L") (.cons (by k_extra"L") (.cons (he▸bv) (by k_extra"EX"))))) mk
 |cons hh todo =>
  obtain ⟨t,d⟩:=hh;have X:Ext ((S "header_count",.int ((todo.length+1:Nat):Int))::(S "pos",.int (q:Nat))::hdL i m a) l:=I.x;have a1:At i.buf i.endp q (br (some (mY t))++(br d++fQ todo)):=I.at';have a2:=a1.data.skip.skipB;k_extra"MX";refine bw N8 ?_;k_extra"MX";refine dt b r1 hl GT a1.data ?_;k_extra"MX";refine ite_no zM ?_;k_extra"MX";refine eZ ?_;k_extra"MX";refine ⟨_,_,rfl,rfl,fun _ _=>gQ (fun _ _=>⟨_,rfl⟩) hl a1.data.skip ?_⟩;refine AY ?_;k_extra"MX";refine FS ?_;k_extra"MX";refine e7 (r:=((q+(aR (mY t).length).length+(mY t).length:Nat):Int)) rfl ?_;k_extra"MX";refine dt b r1 hl (a2.ok hl) a2.opt ?_;k_extra"ME";refine y9 (q+(aR (mY t).length).length+(mY t).length) fun q2 e2=>?_;refine ad (g6 (O':=(a,.list (cX ds))::RdO i m dm O i.pos) (Ext ((S "pos",.int (q2+(br d).length:Nat))::(S "h_value",pD d)::(S "h_key",.str (GU t))::(S "header_count",.int ((todo.length+1:Nat):Int))::hdL i m a)) ?_ fun l3 Y=>?_)
  ·subst e2
   cases d with
   |none =>
    k_extra"MX";refine ite_no rfl ?_;k_extra"MX";exact ⟨rfl,.cons (by k_extra"L":lk _ (S "pos")=some (D.int ((q+(aR (mY t).length).length+(mY t).length+(aR (x5 .none)).length:Nat):Int))) (by k_extra"EX"),rfl⟩
   |some v =>
    k_extra"MX";refine bw ub ?_;k_extra"MX";refine eZ ?_;k_extra"MX";refine ⟨_,_,rfl,rfl,fun _ _=>gQ (fun _ _=>⟨_,rfl⟩) hl a2.data.skip ?_⟩;k_extra"MX";refine gi (a2.small hl) ?_;k_extra"MX";refine e7 pS ?_;k_extra"MX";exact ⟨rfl,by k_extra"EX",rfl⟩
  ·k_extra"MX";refine da (.head _) ?_;k_extra"MX";refine cS .head (DG I.e k.hz) ?_;k_extra"MX";refine CB (r:=(todo.length:Nat)) Co ?_;k_extra"MX";exact ⟨todo.length,Nat.lt_succ_self _,(ds++[(t,d)],todo,q2+(br d).length),rfl,⟨I.e.trans (List.append_cons ds (t,d) todo),by k_extra"EX",e2▸a2.skip⟩,DF⟩
theorem EC {K:D→Own→Prop} {z:Bool} (b:ah x) (r:Rm (A.deeper (callEnvC fS L 1038)) 3) (k:uG i) (hz:(Builtin.bitAnd i.att 32 != 0)=z)
  (g:Ext ((S "pos",.int (p:Nat))::(S "key",pD i.key)::rdL i m) loc) (a0:At i.buf i.endp p (br i.val++(aR i.hs.length++fQ i.hs))) (mk:HO x A L z i m dm O K E):RdX 11 x A L i m dm O K E loc:=by
 have hl:=k.hl;refine ad ?_;k_extra"MX";refine dt b (r.le (by decide):Rm _ 1) hl (a0.ok hl) a0.opt ?_;k_extra"ME";refine ad (g6 (O':=RdO i m dm O i.pos) (Ext ((S "pos",.int (p+(br i.val).length:Nat))::(S "key",pD i.key)::(S "value",pD i.val)::rdL i m)) ?_ fun l3 Y=>Bo b r k hz Y a0.skip mk);revert a0;generalize i.val=d;intro a0
 cases d with
 |none =>
  k_extra"MX";refine ite_no rfl ?_;k_extra"MX";exact ⟨rfl,.cons (by k_extra"L":lk _ (S "pos")=some (D.int ((p+(aR (x5 .none)).length:Nat):Int))) (by k_extra"EX"),rfl⟩
 |some v =>
  k_extra"MX";refine bw ub ?_;k_extra"MX";refine eZ ?_;k_extra"MX";refine ⟨_,_,rfl,rfl,fun _ _=>gQ (fun _ _=>⟨_,rfl⟩) hl a0.data.skip ?_⟩;k_extra"MX";refine gi (a0.small hl) ?_;k_extra"MX";refine e7 pS ?_;k_extra"MX";exact ⟨rfl,by k_extra"EX",rfl⟩
theorem ED {K:D→Own→Prop} {z:Bool} (b:ah x) (r:Rm (A.deeper (callEnvC fS L 1038)) 3) (k:uG i) (hz:(Builtin.bitAnd i.att 32 != 0)=z)
  (g:Ext ((S "pos",.int (p:Nat))::rdL i m) loc) (a0:At i.buf i.endp p (br i.key++(br i.val++(aR i.hs.length++fQ i.hs)))) (mk:HO x A L z i m dm O K E):RdX 9 x A L i m dm O K E loc:=by
 have hl:=k.hl;refine ad ?_;k_extra"MX";refine dt b (r.le (by decide):Rm _ 1) hl (a0.ok hl) a0.opt ?_;k_extra"ME";refine ad (g6 (O':=RdO i m dm O i.pos) (Ext ((S "pos",.int (p+(br i.key).length:Nat))::(S "key",pD i.key)::rdL i m)) ?_ fun l3 Y=>EC b r k hz Y a0.skip mk);revert a0;generalize i.key=d;intro a0
 cases d with
 |none =>
  k_extra"MX";refine ite_no rfl ?_;k_extra"MX";exact ⟨rfl,.cons (by k_extra"L":lk _ (S "pos")=some (D.int ((p+(aR (x5 .none)).length:Nat):Int))) (by k_extra"EX"),rfl⟩
 |some v =>
  k_extra"MX";refine bw ub ?_;k_extra"MX";refine eZ ?_;k_extra"MX";refine ⟨_,_,rfl,rfl,fun _ _=>gQ (fun _ _=>⟨_,rfl⟩) hl a0.data.skip ?_⟩;k_extra"MX";refine gi (a0.small hl) ?_;k_extra"MX";refine e7 pS ?_;k_extra"MX";exact ⟨rfl,by k_extra"EX",rfl⟩
end
end
section
theorem Pe {i:cV} (k:uG i):At i.buf i.endp i.pos (aR i.len++eE i.ts i.off i.key i.val i.hs):=⟨k.la,k.hp,by rw [List.length_append,← Nat.add_assoc];rfl⟩
theorem JW {i:cV} (k:uG i):-2^62≤(i.len:Int)∧(i.len:Int)<2^62:=by
 have:=(Pe k).skip.laid.room (Pe k).skip.le;have hl:=k.hl;have:i.len≤16777216:=by refine (?_:(eE i.ts i.off i.key i.val i.hs).length≤_);lia
 constructor<;>lia
section
variable {i:cV}
theorem xg {e q:Nat} {b:List Int} (h:p+(aR v).length=q) (B:ah c.x) (r:Rm c.A 1) (hl:l.length≤16777216) (hv:-2^62≤v∧v<2^62) (a:At l e p (aR v++b)) (k:K' (.tup [.int v,.int (q:Nat)]) O) :
  Op c (fun vs=>call (.ref 385) vs) [.barr l,.int (p:Nat)] loc O K' E:=dt B r hl hv a (h▸k)
noncomputable abbrev ND (i:cV) (m:Addr):Loc:=[(S "self",.stat (.ref m)),(S "buffer",.barr i.buf),(S "decode_varint",.stat (.ref 385)),(S "length",.int i.len),(S "start_pos",.int i.p1)]
theorem Lb {K:D→Own→Prop} {z:Bool} (b:ah x) (r:Rm A 4) (k:uG i) (hz:(Builtin.bitAnd i.att 32 != 0)=z)
  (mk:∀ x' A' E',x.le x'→Rm A' 3→bI x' A' (fun vs=>call (.ref (if z=true then 1227 else 1166)) vs) i.args (RdO i m dm O i.endp) K E') :
  au x A (.ref 1038) [.stat (.ref m)] (RdO i m dm O i.pos) K E:=by
 refine aJ (fd:=fS) (names:=[S "self",S "decode_varint"]) (dx:=[.stat (.ref 385)]) b (fun P=>by kernel_rfl) (fun P=>by kernel_rfl) (by decide +kernel) r [.ref 385] ?_ (fun _=>.one (.stat _)) [(S "decode_varint",.stat (.ref 385)),(S "self",.stat (.ref m))] rfl fun L=>?_
 ·intro P St;exact aH fun _=>bM (by kernel_rfl)
 have r':=r.deeper (callEnvC fS L 1038) (m:=3) (by decide);have r1:=r'.le (m:=1) (by decide);have hl:=k.hl;have a1:At i.buf i.endp i.p1 (aR 0++(aR i.ts++(aR i.off++(br i.key++(br i.val++(aR i.hs.length++fQ i.hs)))))):=(Pe k).skip;have a2:=a1.skip;have a3:=a2.skip;refine ad ?_;skip;k_extra"MX";refine xg (q:=i.p1) rfl b r1 hl (JW k) (Pe k) ?_;k_extra"MX";refine dt b r1 hl ⟨by decide,by decide⟩ a1 ?_;k_extra"MX";refine dt b r1 hl ⟨k.t0,k.t1⟩ a2 ?_;k_extra"ME";refine ad (g6 (O':=RdO i m dm O i.pos) (Ext ((S "timestamp",.int i.when)::(S "pos",.int (i.p1+(aR 0).length+(aR i.ts).length:Nat))::ND i m)) ?_ fun l3 Y=>?_)
 ·k_extra"MX";refine aW b (.head _) (.tail _ (.head _)) rfl (fun x' le=>qP (buf:=i.buf) (hd:=i.hd) (pos:=i.pos) (num:=i.num) (idx:=i.idx) (dec:=true) (b.le le) (r'.le (by decide)).in1 (.head _) (.tail _ (.head _)) k.h5) ?_;k_extra"MX";refine eW ?_ ?_<;>intro h
  ·refine ad (bn rfl (cr (.int i.when) ?_ ?_))
   ·k_extra"MX";exact e8 (buf:=i.buf) (hd:=i.hd) (pos:=i.pos) (num:=i.num) (idx:=i.idx) (dec:=true) b (.head _) (.tail _ (.head _)) r1 k.h8 (by decide) ⟨Cg D.int (if_pos h).symm,rfl⟩
   k_extra"MX";exact ⟨rfl,by k_extra"EX",rfl⟩
  ·refine ad (bn rfl (cr (.int i.when) ?_ ?_))
   ·k_extra"MX";refine e8 (buf:=i.buf) (hd:=i.hd) (pos:=i.pos) (num:=i.num) (idx:=i.idx) (dec:=true) b (.head _) (.tail _ (.head _)) r1 k.h7 (by decide) ?_;k_extra"MX";exact ⟨Cg D.int (if_neg h).symm,rfl⟩
   k_extra"MX";exact ⟨rfl,by k_extra"EX",rfl⟩
 ·k_extra"MX";refine dt b r1 hl ⟨k.o0,k.o1⟩ a3 ?_;k_extra"ME";refine ad ?_;k_extra"MX";refine e8 (buf:=i.buf) (hd:=i.hd) (pos:=i.pos) (num:=i.num) (idx:=i.idx) (dec:=true) b (.head _) (.tail _ (.head _)) r1 k.h0 (by decide) ?_;k_extra"ME";exact ED b r' k hz (by k_extra"EX") a3.skip fun x' le=>mk x' _ _ le r'
end
end
section
section
variable {i:cV}
def kB (C:Addr) (fs:List (Str×D)) (O:Own) (d:D) (O':Own):Prop:=∃ rx rdx,d=.stat (.ref rx)∧O'=(rx,SO.inst C rdx)::(rdx,SO.attrs fs)::O
noncomputable def cV.fs (i:cV):List (Str×D):=fU i.len (i.base+i.off) i.when i.tt i.key i.val (cX i.hs)
theorem EG (b:ah x) (r:Rm A 2):bI x A (fun vs=>call (.ref 1166) vs) i.args O (kB 1166 i.fs O) E :=
 au.call (fV b fun A' rx rdx k=>(nU b (k.rm r (by lia))).mono fun d O' h=>⟨h.1,rx,rdx,rfl,h.2⟩)
theorem Bt {hd:List Int} (b:ah x) (r:Rm A 1) (fr:aF x A) (m1:(m,SO.inst 1069 dm)∈O) (m2:(dm,SO.attrs (cj buf hd (buf.length:Nat) num idx true))∈O) (hl:buf.length≤16777216) (hi:num≤idx) :
  au x A (.ref 1052) [.stat (.ref m)] O (fun _ _=>False) (eS x A O (.type "StopIteration")):=by
 refine aJ (fd:=m5) (names:=[S "self"]) (dx:=[]) b (fun P=>by kernel_rfl) (fun P=>by kernel_rfl) (by decide +kernel) r [] ?_ (fun _=>.nil) [(S "self",.stat (.ref m))] rfl fun L=>?_
 ·intro P St;exact aH fun _=>bM (by kernel_rfl)
 have r':=r.deeper (callEnvC m5 L 1052) (m:=0) (by decide);unfold cj at m2;refine ad ?_;k_extra"MX";refine bw (by simpa using hi) ?_;k_extra"MX";refine vz (by lia) ?_;k_extra"MX";refine aT (by simp) ?_;k_extra"ME";refine ad ?_;refine zZ b (PK (by kernel_rfl)) (by kernel_rfl) r'.hh fun H s h' e R hm=>?_;exact gz fr rfl (by refine (?_:m5.scope.kind≠_);decide +kernel) R hm fun s z=>z
theorem N7 (b:ah x) (r:Rm A 5) (k:uG i) (hz:(Builtin.bitAnd i.att 32 != 0)=z) (hi:i.idx<i.num)
  (mk:∀ x' A' E',x.le x'→Rm A' 3→bI x' A' (fun vs=>call (.ref (if z=true then 1227 else 1166)) vs) i.args (RdO i m dm O i.endp) (kB C fs (RdO i m dm O i.endp)) E') :
  au x A (.ref 1052) [.stat (.ref m)] (RdO i m dm O i.pos) (kB C fs (RdO {i with idx:=i.idx+1} m dm O i.endp)) E:=by
 refine aJ (fd:=m5) (names:=[S "self"]) (dx:=[]) b (fun P=>by kernel_rfl) (fun P=>by kernel_rfl) (by decide +kernel) r [] ?_ (fun _=>.nil) [(S "self",.stat (.ref m))] rfl fun L=>?_
 ·intro P St;exact aH fun _=>bM (by kernel_rfl)
 have r':=r.deeper (callEnvC m5 L 1052) (m:=4) (by decide)
 have rd:∀ x',x.le x'→bI x' (A.deeper (callEnvC m5 L 1052)) (fun vs=>call (.ref 1038) vs) [.stat (.ref m)] (RdO i m dm O i.pos) (kB C fs (RdO i m dm O i.endp)) NoE:=fun x' le =>
  (Lb (b.le le) r' k hz fun x'' A' E' le' rr=>mk x'' A' E' (le.trans le') rr).call
 unfold RdO at rd;unfold RdO;refine ad ?_;unfold cj at rd ⊢;k_extra"MX";refine aT (by simpa using hi) ?_;refine bl ?_;refine ad (A8 ?_);refine ad ?_;k_extra"MX";refine cK fun x' le=>bI.mono (rd x' le) fun d O' h=>?_;obtain ⟨rx,rdx,rfl,rfl⟩:=h;k_extra"MX";refine xV ?_;k_extra"MX";refine d0 ?_;k_extra"MX";refine bT ?_;exact ⟨rx,rdx,rfl,rfl⟩
end
end
theorem yC {hd:List Int} {pos:Nat} (b:ah x) (r:Rm A 5) (hl:buf.length≤1000000) (h5:hd[5]? = some v) (hv:Builtin.bitAnd v 7=if sq=true then 1 else 0) (hz:(df (buf.drop pos)).length≤16777216) :
  aY x A (.ref 1045) [.stat (.ref m)] ((m,SO.inst 1069 dm)::(dm,SO.attrs (cj buf hd pos num idx false))::O)
   (fun d O'=>d=.stat (.ref m)∧O'=(m,SO.inst 1069 dm)::(dm,SO.attrs (cj (qX sq buf pos) hd (tJ sq pos) num idx true))::O) E:=by
 refine fR (fd:=D2) (names:=[S "self"]) (dx:=[]) b (fun P=>by kernel_rfl) (fun P=>by kernel_rfl) (by decide +kernel) r [] ?_ (fun _=>.nil) [(S "self",.stat (.ref m))] rfl fun L=>?_
 ·intro P St;exact aH fun _=>bM (by kernel_rfl)
 have r':=r.deeper (callEnvC D2 L 1045) (m:=4) (by decide);refine aE (D5 rfl (qC (by with_unfolding_all rfl) rfl ?_));k_extra"MM";refine zX b (.head _) (.tail _ (.head _)) (by skip;k_extra"N") ?_;k_extra"MM";refine gj fun x' le=>aY.call (aY.mono (Nj (b.le le) r' hl h5 hv hz) fun d O' h=>?_);obtain ⟨rfl,rfl⟩:=h;refine fF (ad ?_);k_extra"MX";exact bT ⟨rfl,rfl⟩
theorem qN (b:ah x) (r:Rm A 1):au x A (.ref 1287) [.stat (.ref m)] O (fun d O'=>d=.stat (.ref m)∧O'=O) E:=by
 refine aJ (fd:=KR) (names:=[S "self"]) (dx:=[]) b (fun P=>by kernel_rfl) (fun P=>by kernel_rfl) (by decide +kernel) r [] ?_ (fun _=>.nil) [(S "self",.stat (.ref m))] rfl fun L=>?_
 ·intro P St;exact aH fun _=>bM (by kernel_rfl)
 refine ad ?_;k_extra"MX";exact bT ⟨rfl,rfl⟩
noncomputable def wZ (K:Frag) (C:Addr) (name:Str) (f:Addr):Bool:=findIn K (.ref C) name==some (some (.ref f))&&typeIn K (.ref f)==some (.type "function")
class fY (C:Addr) (name:Str) (f:outParam Addr):Prop where
 h:∀ P,wZ (K P) C name f=true
instance:fY 1069 (S "__next__") 1052:=⟨fun P=>by kernel_rfl⟩
instance:fY 1069 (S "__iter__") 1045:=⟨fun P=>by kernel_rfl⟩
instance:fY 1297 (S "__next__") 1294:=⟨fun P=>by kernel_rfl⟩
instance:fY 1297 (S "__iter__") 1287:=⟨fun P=>by kernel_rfl⟩
instance:fY 544 (S "__iter__") 541:=⟨fun P=>by kernel_rfl⟩
theorem jD (h:wZ (K P) C name f=true):findIn (K P) (.ref C) name=some (some (.ref f))∧typeIn (K P) (.ref f)=some (.type "function"):=by
 unfold wZ at h
 simpa only [Bool.and_eq_true,beq_iff_eq] using h
noncomputable def mO (c:Cc) (h:Heap) (H:PM):Cx:={outer c h with B:=H}
theorem jl (R:ag c H loc O s):az (mO c s.heap H) H O s :=
 have T:=cJ R
 ⟨T.gens,T.os,T.drawn,T.hH,T.hP,T.hO,T.nd,T.dH,T.dP,T.dHP,T.bare,Pr _⟩
theorem cQ (R:ag c H loc O s):(outer c s.heap).le (mO c s.heap H):=⟨⟨rfl,R.t.hB,fun _ _ e=>e⟩,fun _ _ e=>e⟩
theorem xp {KO:Option D→Own→Prop} (b:ah c.x) (up:cF c) [nx:fY C (S "__next__") f] (m1:(m,SO.inst C dm)∈O) (m2:(dm,SO.attrs fs)∈O)
  (h:∀ x',c.x.le x'→aF x' c.A→aY x' c.A (.ref f) [.stat (.ref m)] O (fun d O'=>KO (some d) O') (fun e s=>∃ O',KO .none O'∧eS x' c.A O' (.type "StopIteration") e s)):NxB true c (.Name y py) (.ref m) loc O KO:=fun H s Q R q0 q1=>yQ<|by
 refine bj (fA R m1 m2) fun es n I at'=>?_;obtain ⟨o1,o2⟩:=jD (nx.h c.x.w.params);have X:=b.X R.t;have le:=(cq c s.heap).trans (cQ R);have z:=h _ le ((up.outer R).le (cQ R)) H s;skip;refine bh (uP ?_);skip;refine Pi (Wb (I.type.at ((looks_findIn X o1).at ?_)));skip;refine cD ?_;refine Pi ((bind_fn X (.ref m) o2).at ?_);skip;refine bh (eY (z _ [.ref m] (jl R) (.one (.stat _)) (fun H' s' v d O' k T' le' rd=>?_) fun e s' hz=>?_))
 ·refine a9 ?_;refine a9 ?_;refine q1 _ _ fun Q' q'=>?_;have R':=Pm R (T'.down (cQ R)) le';exact Wp (q' H' s' d O' k R' le' rd)
 ·refine al hz fun O' k th=>?_;refine bj th.there fun a o q1 q2=>?_;obtain rfl:=q1;obtain ⟨ho,hc⟩:=q2;obtain ⟨H',T'⟩:=th.rep ((up.outer R).le (cQ R));refine Pi (wpAny_isInstance (T:="StopIteration") (b:=true) ⟨o,ho,hc⟩ isSubtype_stop ?_);exact a9 (q0 H' _ O' k (Pm R (T'.down (cQ R)) T'.hB) T'.hB)
theorem Dv (b:ah c.x) [it:fY C (S "__iter__") f] [nx:fY C (S "__next__") fn] (m1:(m,SO.inst C dm)∈O) (m2:(dm,SO.attrs fs)∈O) (m1':(m,SO.inst C dm)∈O₁)
  (h:∀ x',c.x.le x'→aY x' c.A (.ref f) [.stat (.ref m)] O (fun d O'=>d=.stat (.ref m)∧O'=O₁) E) (k:K' (.stat (.ref m)) O₁):OpN c (fun vs=>pyIter (vs.headD .none)) [.stat (.ref m)] loc O K' E:=fun H s Q vs R rs q=>by
 refine cG rs fun v r1=>?_
 cases r1 using ac.cStat
 refine bj (fA R m1 m2) fun es n I at'=>?_;obtain ⟨o1,o2⟩:=jD (it.h c.x.w.params);obtain ⟨n1,n2⟩:=jD (nx.h c.x.w.params);have X:=b.X R.t;have z:=h _ (cq c s.heap) H s
 have fin:wpN c.M c.A (call (.ref f) [.ref m]>>=fun v=>pure (some v)) (fun r s'=>∃ H',r=some (.ref m)∧ag c H' loc O₁ s'∧H≤H') E s :=
  bh (eY (z _ [.ref m] (cJ R) (.one (.stat _)) (fun H' s' v d O' kk T' le' rd=>by
   obtain ⟨rfl,rfl⟩:=kk
   cases rd using ac.cStat
   exact a9 ⟨H',rfl,Pm R T' le',le'⟩) fun e s' hz=>hz))
 have one:∀ refuse:Sem Value,wpN c.M c.A (callSpecialIfBoundUnlessNone? (.ref m) "__iter__" refuse) (fun r s'=>∃ H',r=some (.ref m)∧ag c H' loc O₁ s'∧H≤H') E s:=by
  intro refuse;simp only [callSpecialIfBoundUnlessNone?,bindSpecialIfBound?];refine cD (Pi (Wb (Wb (I.type.here ((looks_findIn X o1).here ?_)))))
  have fin2:wpN c.M c.A (if (Value.ref f==Value.none)=true then (refuse>>=fun v=>pure (some v)) else (call (.ref f) [.ref m]>>=fun v=>pure (some v))) (fun r s'=>∃ H',r=some (.ref m)∧ag c H' loc O₁ s'∧H≤H') E s:=by
   rw [if_neg (show ¬ ((Value.ref f==Value.none)=true) from Bool.false_ne_true)];exact fin
  refine Wb (wpAny_askSetting (wpAny_ite ?_))
  split
  ·exact Wb ((bind_fn X _ o2).here (Wp (by exact fin2)))
  ·exact wpAny_tryCatch (Wb ((bind_fn X _ o2).here (Wp (by exact fin2))))
 skip;refine Pi (Wb (I.type.here ((looks_findIn X o1).here ?_)));refine (?_:wpN c.M c.A (callSpecialIfBoundUnlessNone? (.ref m) "__iter__" _>>=_) Q E s);refine bh (jd (one _) (fun r s' hr=>?_) fun _ _ z=>z);refine al hr fun H' q4 q5=>?_;obtain rfl:=q4;obtain ⟨R',le'⟩:=q5;have t1:Looks c.M s'.heap (typeOf (.ref m)) (.ref C):=(Looks.ld (R'.t.hO _ m1')).andThen .now;refine Pi (Wb (t1.here ((looks_findIn (b.X R'.t) n1).here ?_)));exact a9 (q H' s' _ _ _ k R' le' (.stat _))

section
def wJ (b:Bool) (c:Cc) (e:PySem.Expr) (loc:Loc) (O:Own) (K:Bool→Own→Prop) (E:Value→Shared→Prop):Prop :=
 ∀ H s Q,ag c H loc O s→(∀ H' s' z O',K z O'→ag c H' loc O' s'→H≤H'→Q z s')→wpB b c.M c.A (PySem.isTrue e c.env (eval e c.env)) Q E s
section
variable {K:D→Own→Prop}
abbrev Mn (b:Bool) (c:Cc) (e_2:PySem.Expr) (loc:Loc) (KB:Bool→Own→Prop) (E:Value→Shared→Prop):Bool→Own→Prop:=fun z O₁=>if z=true then KB true O₁ else wJ b c e_2 loc O₁ KB E
abbrev Mr (b:Bool) (c:Cc) (y o:List PySem.Stmt) (loc:Loc) (KF:Fl→Loc→Own→Prop) (E:Value→Shared→Prop):Bool→Own→Prop:=fun z O₁=>if z=true then Pq b c y loc O₁ KF E else Pq b c o loc O₁ KF E
abbrev Mk (b:Bool) (c:Cc) (ss:List PySem.Stmt) (KF:Fl→Loc→Own→Prop) (E:Value→Shared→Prop):Fl→Loc→Own→Prop:=fun f loc1 O₁=>match f with|.next=>Pq b c ss loc1 O₁ KF E|g=>KF g loc1 O₁
theorem yZ (h:Tst c e loc O KB E):wJ b c e loc O KB E:=fun H s Q R q=>dg (h H s Q R q)
theorem BS {l op r p} (h:EvB b c l loc O (Dr c op r loc (Dp c loc KB E) E) E) (hb:behindInMarks op r=false):wJ b c (.Compare l [op] [r] p) loc O KB E:=fun H s Q R q=>by
 rw [isTrue_Compare1];refine bD (h H s _ R fun H₁ sA vA d₁ O₁ h_1 R1 le1 rA=>dg ?_)
 have rest:wpAny c.M c.A (eval r c.env) (fun b s2=>wpAny c.M c.A (compareOp op vA b) (fun c' s3=>wpAny c.M c.A (truthy c') Q E s3) E s2) E sA :=
  h_1 H₁ sA _ R1 fun HB s2 vB dB O2 h_2 R2 le2 rB=>h_2 HB s2 _ [vA,vB] R2 (.two (rA.mono le2) rB) fun H3 s3 v d O' k R' le' rd=>k H3 s3 _ v R' rd fun H' s' b O'' kb R'' le''=>q H' s' b O'' kb R'' (Pt le1 (Pt le2 (Pt le' le'')))
 intro Γ p' hΓ;simp only [markedBehindIn_of_false hb,Sem.wp_bind',Sem.wp_holding,Sem.wp_cmd_standAt,Sem.wp_operate];exact Sem.wp_mono c.M Γ _ (fun b _ s2 h_2=>Sem.wp_mono c.M Γ _ (fun c p_3 s3 h_3=>h_3 Γ p_3 hΓ) (fun _ _ _ h'=>h') _ _ (h_2 Γ _ hΓ)) (fun _ _ _ h'=>h') _ _ (rest Γ p' hΓ)
theorem Fa {eA e_2 p} (h:wJ b c eA loc O (Mn b c e_2 loc KB E) E):wJ b c (.BoolOp .Or [eA,e_2] p) loc O KB E:=fun H s Q R q=>by
 rw [arm_isTrue_BoolOp];refine (?_:wpB b c.M c.A (do match BoolOp.Or,← PySem.isTrue eA c.env (eval eA c.env) with|.And,false=>pure false|.Or,true=>pure true|_,_=>allTrue .Or [e_2] c.env) Q E s);refine bD (h H s _ R fun H₁ sA z O₁ h_1 R1 le1=>?_);dsimp only [Mn] at h_1
 cases z with
 |true =>
  rw [if_pos rfl] at h_1;exact ba (q _ _ _ _ h_1 R1 le1)
 |false =>
  rw [if_neg (by decide)] at h_1;refine (?_:wpB b c.M c.A (do match BoolOp.Or,← PySem.isTrue e_2 c.env (eval e_2 c.env) with|.And,false=>pure false|.Or,true=>pure true|_,_=>allTrue .Or [] c.env) Q E sA);refine bD (h_1 H₁ sA _ R1 fun HB s2 z O2 h_2 R2 le2=>?_)
  cases z with
  |true=>exact ba (q _ _ _ _ h_2 R2 (Pt le1 le2))
  |false=>exact ba (q _ _ _ _ h_2 R2 (Pt le1 le2))
theorem D6 {t y o p} (h:wJ b c t loc O (Mr b c y o loc KF E) E):ExB b c (.If t y o p) loc O KF E:=fun H s Q R q=>by
 rw [exec_If];refine av (Ws (bD (h H s _ R fun H₁ sA z O₁ h_1 R1 le1=>?_)));dsimp only [Mr] at h_1 ⊢
 cases z with
 |true =>
  rw [if_pos rfl] at h_1;exact h_1 H₁ sA Q R1 fun H' s' f g l O' k R' le' fi=>q H' s' f g l O' k R' (Pt le1 le') fi
 |false =>
  rw [if_neg (by decide)] at h_1;exact h_1 H₁ sA Q R1 fun H' s' f g l O' k R' le' fi=>q H' s' f g l O' k R' (Pt le1 le') fi
theorem bF {st ss} (h:ExB b c st loc O (Mk b c ss KF E) E):Pq b c (st::ss) loc O KF E:=fun H s Q R q=>by
 rw [execs_cons];refine bD (h H s _ R fun H₁ sA f g lA O₁ h_1 R1 le1 fi=>?_)
 cases fi with
 |next=>exact h_1 H₁ sA Q R1 fun H' s' f g l O' k R' le' fi=>q H' s' f g l O' k R' (Pt le1 le') fi
 |brk=>exact ba (q _ _ _ _ _ _ h_1 R1 le1 .brk)
 |cont=>exact ba (q _ _ _ _ _ _ h_1 R1 le1 .cont)
 |ret r=>exact ba (q _ _ _ _ _ _ h_1 R1 le1 (.ret r))
theorem eh (h:KF .next loc O):Pq b c [] loc O KF E:=pq (bl h)
theorem fp {st} (h:Ex c st loc O KF E):ExB b c st loc O KF E:=fun H s Q R q=>dg (h H s Q R q)
theorem M8 {st} (h:ExN c st loc O KF E):ExB true c st loc O KF E:=fun H s Q R q=>yQ (h H s Q R q)
end
end
section
open PySem.SeqAt
class inductive dl:Nat→D→Prop
 |none {n:_}:dl n .none
 |bool {n:_} (b):dl n (.bool b)
 |int {n:_} (i):dl n (.int i)
 |str {n:_} (x):dl n (.str x)
 |bytes {n:_} (l):dl n (.bytes l)
 |tup {n ds:_}:(∀ d∈ds,dl n d)→dl (n+1) (.tup ds)
 |lst {n ds:_}:(∀ d∈ds,dl n d)→dl (n+1) (.lst ds)
theorem PS (l:List UInt8) (t u:Tok):EqAt A s (.bytes l.toArray t) (.bytes l.toArray u) true:=fun prog w E Q hq=>by
 skip;refine Wh ?_;refine wpAny_ite_split (fun hab=>?_) (fun _=>?_)
 ·exact Wb (wpAny_rule (Wp hq))
 ·refine Wb (PySem.W.eq_bytes ?_:wpAny (model prog w) A (compareOp .Eq (.bytes l.toArray t) (.bytes l.toArray u)) _ E s);refine wpAny_truthy_bool ?_
  simpa using hq
theorem uF (n:Nat):(List.range n).all (fun _=>true)=true:=List.all_eq_true.mpr fun _ _=>rfl
theorem kH (r:af H vs ds) (q:af H us ds):vs.toArray.size=us.toArray.size:=r.length.trans q.length.symm
theorem kJ (r:af H vs ds) (q:af H us ds) {j:Nat} (h1:j<vs.toArray.size) (h2:j<us.toArray.size):∃ d,d∈ds∧ac H vs.toArray[j] d∧ac H us.toArray[j] d:=by
 have hj:j<ds.length:=r.length▸h1;obtain ⟨w1,g1,q1⟩:=r.get (List.getElem?_eq_getElem hj);obtain ⟨w2,g2,q2⟩:=q.get (List.getElem?_eq_getElem hj);have f1:vs.toArray[j]=w1:=(List.getElem?_eq_some_iff.mp g1).2;have f2:us.toArray[j]=w2:=(List.getElem?_eq_some_iff.mp g2).2;exact ⟨ds[j],List.getElem_mem hj,by rw [f1];exact q1,by rw [f2];exact q2⟩
theorem z7 (hH:∀ a o,H a=some o→s.heap.get? a=some o) (sd:dl n d):∀ {A:Around} {v u:Value},A.units+n<cLine→ac H v d→ac H u d→EqAt A s v u true:=by
 induction sd with
 |none=>intro A v u _ r1 r2;cases r1 using ac.cNone;cases r2 using ac.cNone;exact EqAt.same _
 |bool b=>intro A v u _ r1 r2;cases r1 using ac.cBool;cases r2 using ac.cBool;exact EqAt.same _
 |int i=>intro A v u _ r1 r2;cases r1 using ac.cInt;cases r2 using ac.cInt;rename_i t t';have:=EqAt.int_int (A:=A) (s:=s) i t i t';simpa using this
 |str x=>intro A v u _ r1 r2;cases r1 using ac.cStr;cases r2 using ac.cStr;rename_i t t';have:=EqAt.str_str (A:=A) (s:=s) x t x t';simpa using this
 |bytes l=>intro A v u _ r1 r2;cases r1 using ac.cBytes;cases r2 using ac.cBytes;exact PS l _ _
 |@tup n ds h ih =>
  intro A v u hu r1 r2;refine bK (gu hH r1) fun a1 vs1 n1 q1 x1=>?_;refine bK (gu hH r2) fun a2 vs2 n2 q2 x2=>?_;subst q1 q2
  by_cases q:a1=a2
  ·subst q;exact EqAt.same _
  ·refine EqAt.of_refs q ?_
   have z:=RcAt.tuples (A:=A) (s:=s) (e:=fun _=>true) ⟨_,x1.1,rfl,n1,rfl⟩ ⟨_,x2.1,rfl,n2,rfl⟩ (Nat.lt_of_le_of_lt (Nat.le_add_right _ _) hu) fun j h1 h2 =>
    (kJ x1.2 x2.2 h1 h2).elim fun d k=>ih d k.1 (Nat.lt_of_le_of_lt (Nat.le_of_eq (Nat.add_right_comm A.units 1 n)) hu) k.2.1 k.2.2
   rw [kH x1.2 x2.2,Nat.min_self,uF,beq_self_eq_true] at z;exact z
 |@lst n ds h ih =>
  intro A v u hu r1 r2;refine bK (dQ hH r1) fun a1 vs1 n1 q1 x1=>?_;refine bK (dQ hH r2) fun a2 vs2 n2 q2 x2=>?_;subst q1 q2
  by_cases q:a1=a2
  ·subst q;exact EqAt.same _
  ·refine EqAt.of_refs q ?_
   have z:=RcAt.lists (A:=A) (s:=s) (e:=fun _=>true) ⟨_,x1.1,rfl,n1,rfl⟩ ⟨_,x2.1,rfl,n2,rfl⟩ (kH x1.2 x2.2) (Nat.lt_of_le_of_lt (Nat.le_add_right _ _) hu) fun j h1 h2 =>
    (kJ x1.2 x2.2 h1 h2).elim fun d k=>ih d k.1 (Nat.lt_of_le_of_lt (Nat.le_of_eq (Nat.add_right_comm A.units 1 n)) hu) k.2.1 k.2.2
   rw [uF] at z;exact z
theorem AL (sd:∀ d∈ds,dl n d) (hu:c.A.units+n+1<cLine) (h:K' (.bool false) O):Op c (fun vs=>compareOp .NotEq (vs.headD .none) (vs.tail.headD .none)) [.tup ds,.tup ds] loc O K' E:=fun H s Q vs R rs q=>by
 refine ay rs fun v u r1 r2=>?_;refine bK (gu R.t.hH r1) fun a1 vs1 n1 q1 x1=>?_;refine bK (gu R.t.hH r2) fun a2 vs2 n2 q2 x2=>?_;subst q1 q2
 have z:=RcNeAt.tuples (A:=c.A) (s:=s) (e:=fun _=>true) ⟨_,x1.1,rfl,n1,rfl⟩ ⟨_,x2.1,rfl,n2,rfl⟩ (Nat.lt_of_le_of_lt (Nt (Nat.le_add_right _ n) (Nat.le_add_right _ 1)) hu) fun j h1 h2 =>
  (kJ x1.2 x2.2 h1 h2).elim fun d k=>z7 R.t.hH (sd d k.1) (Nat.lt_of_le_of_lt (Nat.le_of_eq (Nat.add_right_comm c.A.units 1 n)) hu) k.2.1 k.2.2
 rw [kH x1.2 x2.2,Nat.min_self,uF,beq_self_eq_true] at z;exact z c.x.prog c.x.w E Q (q _ _ _ _ _ h R (Pr _) (.bool false))
theorem mP (sd:∀ d∈ds,dl n d) (hu:c.A.units+n+1<cLine) (h:K' (.bool false) O):Op c (fun vs=>compareOp .NotEq (vs.headD .none) (vs.tail.headD .none)) [.lst ds,.lst ds] loc O K' E:=fun H s Q vs R rs q=>by
 refine ay rs fun v u r1 r2=>?_;refine bK (dQ R.t.hH r1) fun a1 vs1 n1 q1 x1=>?_;refine bK (dQ R.t.hH r2) fun a2 vs2 n2 q2 x2=>?_;subst q1 q2
 have z:=RcNeAt.lists (A:=c.A) (s:=s) (e:=fun _=>true) ⟨_,x1.1,rfl,n1,rfl⟩ ⟨_,x2.1,rfl,n2,rfl⟩ (kH x1.2 x2.2) (Nat.lt_of_le_of_lt (Nt (Nat.le_add_right _ n) (Nat.le_add_right _ 1)) hu) fun j h1 h2 =>
  (kJ x1.2 x2.2 h1 h2).elim fun d k=>z7 R.t.hH (sd d k.1) (Nat.lt_of_le_of_lt (Nat.le_of_eq (Nat.add_right_comm c.A.units 1 n)) hu) k.2.1 k.2.2
 rw [uF] at z;exact z c.x.prog c.x.w E Q (q _ _ _ _ _ h R (Pr _) (.bool false))
end
def wK (c:Cc) (loc:Loc) (O:Own) (cls:Value) (e:Value) (s:Shared):Prop:=∃ H₀ s0,ag c H₀ loc O s0∧eS (mO c s0.heap H₀) c.A O cls e s
theorem AH {t:List Value→Sem Value} (up:cF c) (h:∀ x',c.x.le x'→aF x' c.A→bI x' c.A t ds O (fun _ _=>False) (eS x' c.A O cls)):Op c t ds loc O K' (wK c loc O cls):=fun H s Q vs R rs q=>by
 have le:=(cq c s.heap).trans (cQ R);refine Wm (h _ le ((up.outer R).le (cQ R)) H s (fun _ _=>False) vs (jl R) rs fun _ _ _ _ _ z=>z.elim) (fun _ _ z=>z.elim) fun e s' z=>⟨H,s,R,z⟩
theorem qy {bO:PySem.Stmt} (b:ah c.x) (hf:ey c.env) (hk:c.env.kindOf (S "CorruptRecordError")=some .globalImplicit)
  (hA:c.A=A₀.deeper c.env) (fr:aF c.x A₀) (hfr:c.env.frame=some c.env.locals) (hm:c.env.scope.kind≠.module)
  (h:∀ x',c.x.le x'→Exs {c with x:=x'} body loc O (fun _ _ _=>False) (wK {c with x:=x'} loc O (.ref 59)))
  (k:∀ e,Exs {c with A:=c.A.mark (some e)} (bO::suite) loc O KF NoE):Ex c (.Try body [.ExceptHandler (some (.Name (S "CorruptRecordError") np)) .none (bO::suite) hpos] orelse [] pos) loc O KF E:=fun H s Q R q=>by
 have lx:c.x.le {c.x with B:=H}:=⟨⟨rfl,R.t.hB,fun _ _ e=>e⟩,fun _ _ e=>e⟩;have R1:ag {c with x:={c.x with B:=H}} H loc O s:=⟨⟨R.t.gens,R.t.os,R.t.drawn,R.t.hH,R.t.hP,R.t.hO,R.t.nd,R.t.dH,R.t.dP,R.t.dHP,R.t.bare,Pr _⟩,R.f,⟨R.o.lH,R.o.lP,R.o.lO,R.o.cH,R.o.cP,R.o.ca⟩⟩;refine wpAny_Try_except (Wm (h _ lx H s (fun _ _=>False) R1 fun _ _ _ _ _ _ z=>z.elim) (fun _ _ z=>z.elim) fun e sA th=>?_);obtain ⟨H₀,s0,R0,th⟩:=th;refine m8 th.ex fun H₁ a B s2 l a0 q1 q2=>?_;obtain rfl:=q1;refine tr q2 fun hl T cov fl up g o d=>?_;have R0':ag c H₀ loc O s0:=R0.down lx;have frU:cF c:=.inr ⟨A₀,hA,fr,hfr,hm⟩;have fk:=((frU.outer R0').le (cQ R0'));obtain ⟨l',hl',fr'⟩:=fk;have hl0:c.A.frames=some l:=hl;rw [hl0] at hl';cases hl';obtain ⟨l₀,hlO,_⟩:=fr
 have el:l=c.env::l₀:=by
  have:c.A.frames=some (c.env::l₀):=by rw [hA];refine (?_:A₀.frames.map (c.env::·)=_);rw [hlO];rfl
  rw [hl0] at this;cases this;rfl
 subst el;refine wpAny_looks_onW hl0 hfr fl fun h_4 held sm4=>?_;refine wpAny_landsW held fun h_5 fl5 sm5=>?_;have T5:az (mO c s0.heap H₀) H₁ O {sA with heap:=h_5}:=tW T cov fr' fl5.1 ((up.trans sm4).trans sm5) g o d;have leB:H≤H₁:=Pt (Pt R0.t.hB (Pr _)) T5.hB;have R5:ag c H₁ loc O {sA with heap:=h_5}:=Pm R0' (T5.down (cQ R0')) T5.hB;refine al fl5.there fun ob hob hobc=>?_;have gl:bU (S "CorruptRecordError") (.ref 59):=inferInstance;refine al (b.glob gl.h _ _ _ R5.t) fun mg n e=>?_;refine nP (uu (b.X R5.t)) fun hC hN hni TL=>?_;refine wpAny_handleBy_cons (codeAny_handlers_test (Name_function_global hf.kind hk (loadGlobal_global (hf.glob▸n) e ?_) (by kernel_rfl))) (by intro q;cases q);refine wpAny_excMatches_sub_self hC hob hobc (TL.hasType F.excBase_Exception.hasBase) (codeAny_handlers_suite ?_);refine lands_againW fl5 fun h_6 fl6 sm6=>?_;have T6:az (mO c s0.heap H₀) H₁ O {sA with heap:=h_6}:=tW T cov fr' fl6.1 (((up.trans sm4).trans sm5).trans sm6) g o d;have R6:ag c H₁ loc O {sA with heap:=h_6}:=Pm R0' (T6.down (cQ R0')) T6.hB;have R7:ag {c with A:=c.A.mark (some (.ref a))} H₁ loc O {sA with heap:=h_6}:=⟨R6.t,R6.f,R6.o⟩;refine Wm (k (.ref a) H₁ _ Q R7 fun H' s' f g' loc' O' kk R' le' fi=>q H' s' f g' loc' O' kk ⟨R'.t,R'.f,R'.o⟩ (Pt leB le') fi) (fun f s' z=>z) fun _ _ z=>z.elim
theorem Nq {v:List UInt8} {one off len crc ts att dec} (b:ah x) (r:Rm A 4) (m1:(m,SO.inst 544 dm)∈O) (m2:(dm,SO.attrs (bk l one off len crc ts att dec))∈O) (hl:l.length≤1000000)
  (fk:bS l p key) (fv:bS l (p+4+aK key) (some v)) (ha:Builtin.bitAnd att 7=1) (hz:(df v).length≤16777216) :
  au x A (.ref 506) [.stat (.ref m),.int p] O (fun d O'=>d=.bytes (df v)∧O'=O) E:=by
 refine aJ (fd:=ti) (names:=[S "self",S "key_offset"]) (dx:=[]) b (fun P=>by kernel_rfl) (fun P=>by kernel_rfl) (by decide +kernel) r [] ?_ (fun _=>.nil) [(S "key_offset",.int p),(S "self",.stat (.ref m))] rfl fun L=>?_
 ·intro P St;exact aH fun _=>aH fun _=>bM (by kernel_rfl)
 have r':=r.deeper (callEnvC ti L 506) (m:=3) (by decide);have m2':=m2;unfold bk at m2';have kr:=fk.room;have vr:=fv.room;rw [show aK (some v)=v.length from rfl] at vr
 have tail:∀ loc',lk loc' (S "self")=some (.stat (.ref m))→lk loc' (S "pos")=some (.int ((p+4+aK key:Nat):Int)) →
   Exs ⟨x,A.deeper (callEnvC ti L 506),callEnvC ti L 506,true⟩ ((aB ti).drop 4) loc' O (fun fl _ O'=>pf (Fin fun d O'=>d=.bytes (df v)∧O'=O) fl O') (dT x A (callEnvC ti L 506) E):=fun loc' g0 g1=>by
  refine ad ?_;k_extra"MX";refine cR C7 (by decide +kernel) (by decide) (by lia) (by show ((p+4+aK key:Nat):Int)+(4:Nat)≤_;lia) (by lia) ?_;rw [yX (p:=p+4+aK key) rfl,fv.size v rfl];k_extra"MX";refine bP (fun _ _=>⟨_,rfl⟩) (by decide) (by decide) rfl ?_;k_extra"MX";refine d0 ?_;k_extra"MX";refine aT (by simp) ?_;k_extra"MX";refine eZ ?_;k_extra"MX";refine ⟨p+4+aK key+4,p+4+aK key+4+v.length,Cg D.int (by lia),Cg D.int (by lia),fun _ _=>?_⟩;refine di (fun _ _=>⟨_,rfl⟩) (by lia) ?_;rw [Nat.add_sub_cancel_left,fv.octets v rfl];k_extra"MX";refine aW b m1 m2 rfl (fun x' le=>g8 (b.le le) (r'.le (by decide)).in1 m1 m2) ?_;rw [ha];k_extra"MX";refine bH (fun x' le=>(EL (b.le le) (r'.le (by decide)) m1 m2).call) ?_;k_extra"MX";refine bw rfl ?_;k_extra"MX";refine bH (fun x' le=>(EA (b.le le) (r'.le (by decide)) (by lia) hz).call) ?_;k_extra"MX";exact bT ⟨rfl,rfl⟩
 refine ad ?_;k_extra"MX";refine cR C7 (by decide +kernel) (by decide) (by lia) (by refine (?_:(p:Int)+(4:Nat)≤_);lia) (by lia) ?_;rw [yX (p:=p) (by lia)];k_extra"MX";refine bP (fun _ _=>⟨_,rfl⟩) (by decide) (by decide) rfl ?_;k_extra"MX";refine d0 ?_;k_extra"MX";rw [(by lia:(p:Int)+4=((p+4:Nat):Int))]
 cases key with
 |none =>
  rw [fk.no rfl];refine aT rfl ?_;refine bl ?_;exact tail _ (by k_extra"L") (by k_extra"L":lk _ (S "pos")=some (D.int ((p+4:Nat):Int)))
 |some kk =>
  rw [fk.size kk rfl];refine bw (by simp) ?_;refine ad ?_;k_extra"ME";refine d0 ?_;k_extra"ME";exact tail _ (by k_extra"L") (by k_extra"L":lk _ (S "pos")=some (D.int (((p+4:Nat):Int)+(kk.length:Int))))
theorem y5 {o:PySem.Expr} {p:Pos} (h:Ev c o loc O (fun t O₁=>OpU c (fun vs=>setAttr (vs.headD .none) name (vs.tail.headD .none)) [t,d] loc O₁ (fun O2=>KS loc O2) NoE) NoE) :
  St c (fun v=>assign (.Attribute o name p) c.env v) d loc O KS NoE:=fun H s Q v R rd q=>by
 refine (?_:wpAny c.M c.A (assign (.Attribute o name p) c.env v) Q NoE s);rw [assign_Attribute];refine Wb (Wh (h H s _ R fun HB s2 ov t O2 h_2 R2 le2 rB=>?_));refine Wb (Ws (Wb (Wh ?_)));refine Wm (h_2 HB s2 (fun _ s'=>Q () s') [ov,v] R2 (.two rB (rd.mono le2)) fun H' s' O' k R' le'=>q _ _ _ _ k R' (Pt le2 le')) (fun _ s' z=>wpAny_release z) fun _ _ z=>z
theorem Am {k:Nat} (hh:c.A.handled=.none) (h:Ev c o1 loc O (fun t O₁=>OpU c (fun vs=>setAttr (vs.headD .none) n1 (vs.tail.headD .none)) [t,d1] loc O₁
   (fun O2=>Ev c o2 loc O2 (fun t O3=>OpU c (fun vs=>setAttr (vs.headD .none) n2 (vs.tail.headD .none)) [t,d2] loc O3 (fun O4=>KS loc O4) NoE) NoE) NoE) NoE):Tgt c (.Tuple [.Attribute o1 n1 p1,.Attribute o2 n2 p2] k pos) (.tup [d1,d2]) loc O KS:=by
 refine y4 hh ?_ rfl rfl;refine (?_:St c (fun v=>assign (.Attribute o1 n1 p1) c.env v) d1 loc O (fun l' O'=>St c (fun v=>assign (.Attribute o2 n2 p2) c.env v) d2 l' O' (fun l O=>KS l O) NoE) NoE);exact y5 (h.mono fun t O₁ z H s Q vs R rs q=>z H s Q vs R rs fun H' s' O' z'=>q H' s' O' (y5 z'))
noncomputable def aM (fd:FuncData) (L a:Addr):Env:=newEnv fd.scope L fd.globals fd.closure (fd.qualname++".<locals>.") (some a) fd.code none fd.builtins
theorem rE:∀ (names:List Str) {vs ds} (rs:af H vs ds) (a:List (Str×Value)) (b:List (Str×D)),(∀ y d,lk b y=some d→∃ v,a.lookup y=some v∧ac H v d) →
  ∀ y d,lk ((names.zip ds).reverse++b) y=some d→∃ v,((names.zip vs).reverse++a).lookup y=some v∧ac H v d
 |[],_,_,_,a,b,h=>by simpa using h
 |n::ns,_,_,.nil,a,b,h=>by simpa using h
 |n::ns,_,_,.cons (v:=v) (d:=d) r rs,a,b,h=>by
  simp only [List.zip_cons_cons,List.reverse_cons,List.append_assoc,List.singleton_append];refine rE ns rs ((n,v)::a) ((n,d)::b) fun y d' e=>?_
  by_cases q:n=y
  ·subst q;rw [bv] at e;cases e;exact ⟨v,by simp [List.lookup_cons],r⟩
  ·rw [Po q rfl] at e;refine al (h y d' e) fun u e1 e2=>?_;refine ⟨u,?_,e2⟩;rw [List.lookup_cons];have:(y==n)=false:=by simpa using Ne.symm q
   rw [this];exact e1
theorem qD {f:Addr} {names:List Str} {h':Heap} {tk:Nat}
  (hn:∀ n∈names,fd.scope.names.lookup n=some .local) (R:az x H O s) (rs:af H vs ds) (hnc:∀ p∈fd.scope.names,p.2≠.cell)
  (hcl:∀ y b,(y,b)∈fd.closure→∃ ob,x.P b=some ob∧∀ H O s,az x H O s→∃ v,s.heap.IsCell b v)
  (ns:h'.Ns s.heap.objs.size (fun y=>(names.zip vs).reverse.lookup y)) (kp:∀ b o,s.heap.get? b=some o→h'.get? b=some o) :
  ag ⟨x,A,aM fd s.heap.objs.size f,false⟩ H (names.zip ds).reverse O {s with heap:=h',toks:=tk}:=by
 have R':=R.keeps (s':={s with heap:=h',toks:=tk}) kp;have fr:=R.fresh;have kn:∀ y,(aM fd s.heap.objs.size f).kindOf y=fd.scope.names.lookup y:=fun _=>rfl;refine ⟨R',⟨⟨_,ns,fun y d e _=>?_⟩,fun y d e k=>?_,fun y b e=>?_⟩,⟨fr.1,fr.2.1,fr.2.2,fun y b e=>?_,fun h=>(by cases h),fun h=>(by cases h)⟩⟩
 ·have z:=rE names rs [] [] (fun y d e=>by cases e) y d (by simpa using e)
  simpa using z
 ·have hm:=qi _ _ e;rw [kn,hn y hm] at k
  rcases k with k|k<;>cases k
 ·refine al (hcl y b e) fun ob _ hc=>?_;obtain ⟨v,hv⟩:=hc _ _ _ R;exact ⟨v,hv.keeps kp⟩
 ·refine al (hcl y b e) fun ob hp hc=>?_;obtain ⟨v,o,ho,_⟩:=hc _ _ _ R;refine ⟨R.dHP _ _ hp,Nat.ne_of_lt (Heap.lt_size ho),fun p hp' q=>?_⟩;have:=R.dP p hp';rw [q,hp] at this;cases this
theorem Bk {f:Addr} {body:List PySem.Stmt} {names:List Str} {ds':List D} {K:D→Own→Prop}
  (fa:E1 x f fd) (hbody:fd.body=.stmts body) (hco:fd.scope.isCoroutine=false) (hgen:fd.scope.isGenerator=false) (hkind:fd.scope.kind=.function) (hn:∀ n∈names,fd.scope.names.lookup n=some .local) (hnc:∀ p∈fd.scope.names,p.2≠.cell) (room:A.depth<recursionLimit)
  (hcl:∀ y b,(y,b)∈fd.closure→∃ ob,x.P b=some ob∧∀ H O s,az x H O s→∃ v,s.heap.IsCell b v)
  (hb:∀ H s vs,az x H O s→af H vs ds→∃ H' vs',H≤H'∧az x H' O s∧BindsTo s fd ⟨vs,[]⟩ (names.zip vs')∧af H' vs' ds')
  (h:∀ L H s (Q:Flow→Shared→Prop),ag ⟨x,A.deeper (aM fd L f),aM fd L f,false⟩ H (names.zip ds').reverse O s →
   (∀ H' s' fl g loc' O',pf K g O'→ag ⟨x,A.deeper (aM fd L f),aM fd L f,false⟩ H' loc' O' s'→H≤H'→jB H' fl g→Q fl s') →
   PySem.wpAt (model x.prog x.w) (A.deeper (aM fd L f)) (.func body (aM fd L f)) (execs body (aM fd L f)) Q (dT x A (aM fd L f) E) s) :
  au x A (.ref f) ds O K E:=fun H s Q vs R rs q qe=>by
 refine gB (fa.at' _ _ _ R) fun q1 hlim hcd=>?_;refine al q1 fun o ho hd=>?_;refine jR (hb H s vs R rs) fun H' vs' le R' hbind rs'=>?_;refine codeAny_call_function room ho hd hco hgen hbody hcd (hbind _ _ _ _ ?_);refine wpAny_newFunctionEnv hnc (fun y hy=>hn _ (List.of_mem_zip hy).1) (fun h' hns hsb=>?_) hkind;have kp:∀ b o,s.heap.get? b=some o→h'.get? b=some o:=fun b o e=>hsb.extBut b o (Nat.ne_of_lt (Heap.lt_size e)) (Hp _ e);refine ⟨hlim.keeps kp,ks_codeAny_funcAt ?_⟩;have RF:=qD (f:=f) (A:=A.deeper (aM fd s.heap.objs.size f)) (tk:=s.toks+(names.zip vs').length) hn R' rs' hnc hcl hns kp;refine ks_wpAt_mono (h s.heap.objs.size H' _ (fun fl s'=>Q (.ok (.ret (match fl with|.ret v=>v|_=>.none))) s') RF fun H₁ sA fl g l O₁ k R1 le1 fi=>?_) (fun _ _ z=>z) fun e s' hl=>Wm (hl:dT _ _ _ _ _ _) (fun _ _ z=>qe _ _ z) fun _ _ z=>qe _ _ z;obtain ⟨d,z⟩:=pP (P:=fun v d=>Q (.ok (.ret v)) sA) fi k fun v d k r=>q _ _ _ _ _ k R1.t (Pt le le1) r;exact z
noncomputable def jS (f:Addr) (v:Value):SO:=.raw (fun o=>o={cls:=.type "method",dict:=.none,data:=.fields #[.ref f,v],slots:=#[]}) []
theorem CI (hm:(a,jS f (.ref m))∈O)
  (h:∀ x',c.x.le x'→au x' c.A (.ref f) (.stat (.ref m)::ds) O K' E):Op c (fun vs=>call (.ref a) vs) ds loc O K' E:=fun H s Q vs R rs q=>by
 obtain ⟨o,ho,e,_⟩:=R.t.hO _ hm;refine wpAny_call (ks_codeAny_call_bound (e▸ho) (h _ (cq c s.heap) H s _ (.ref m::vs) (cJ R) (.cons (.stat _) rs) (fun H' s' v d O' k T le rd=>?_) fun _ _ z=>z));exact q H' s' v d O' k (Pm R T le) le rd
theorem B2 {H s}
  (b:ah x) (R:ag ⟨x,A,aM b9 L 1185,false⟩ H loc O s) (el:lk loc (S "self")=some (.stat (.ref m))) (m1:(m,SO.inst 1227 dm)∈O)
  {pl:Sem Bool} (he:eval (.Call (.Attribute (.Call (.Name (S "super") p0) [] [] p1) (S "__init__") p2) args [] p3) (aM b9 L 1185)=(do
   let ov ← attributeBase (.Call (.Name (S "super") p0) [] [] p1) (S "__init__") (aM b9 L 1185) (eval (.Call (.Name (S "super") p0) [] [] p1) (aM b9 L 1185))
   standAt p2.atName
   let (f,first) ← holding [ov] (getMethod ov (S "__init__") pl)
   callWith p3 f first (backTo p3 (starEach args (aM b9 L 1185))) []))
  (hp:(backTo p3 (starEach args (aM b9 L 1185))).any (·.1)=false)
  (h:∀ a,Evs ⟨x,A,aM b9 L 1185,false⟩ p3 args loc ((a,jS 1085 (.ref m))::O) (fun ds O₁=>(a,jS 1085 (.ref m))∈O₁∧∀ x',x.le x'→au x' A (.ref 1085) (.stat (.ref m)::ds) O₁ K' E) E)
  (q:∀ H' s' v d O',K' d O'→ag ⟨x,A,aM b9 L 1185,false⟩ H' loc O' s'→H≤H'→ac H' v d→Q v s') :
  PySem.wpAt (model x.prog x.w) A (.func body (aM b9 L 1185)) (eval (.Call (.Attribute (.Call (.Name (S "super") p0) [] [] p1) (S "__init__") p2) args [] p3) (aM b9 L 1185)) Q E s:=by
 have X:=b.X R.t;refine jR ((b.bltn (y:=S "super") (v:=.type "super") (fun P=>by kernel_rfl) (by decide +kernel)) _ _ _ R.t) fun mg mb n1 e1 n2 e2=>?_;refine al R.f.ns fun ml nl rl=>?_;refine al (rl (S "self") _ el rfl) fun vm em rm=>?_
 cases rm using ac.cStat
 have hm:=R.t.hO _ m1;have hme:s.heap.get? m=some (instObj 1227 dm):=hm;obtain ⟨oD,cdD,hD,hDt⟩:∃ oD cd,s.heap.get? 1227=some oD∧oD.data=.cls cd:=⟨_,_,X _ _ (rfl:(K x.w.params).lookup 1227=some _),rfl⟩;obtain ⟨of,hof,hoc⟩:∃ of,s.heap.get? 1085=some of∧of.cls=.type "function":=⟨_,X _ _ (rfl:(K x.w.params).lookup 1085=some _),rfl⟩;have hno:∀ M,Looks M s.heap (opaqueClassAbove (.ref 1227)) .none:=fun M=>looks_opaque X (by kernel_rfl:nsIn (K x.w.params) cStatics "thirdparty.any"=some .none);have ho85:(K x.w.params).lookup 1185=some _:=rfl;have hoc84:(K x.w.params).lookup 1184=some _:=rfl;have k72:s.heap.IsCell 1172 (some (.ref 1227)):=⟨_,X _ _ (rfl:(K x.w.params).lookup 1172=some _),rfl⟩;refine ks_wpAt_MethodCall (he:=he) ?_;refine ks_wpAt_super_base (f:=1185) (cc:=1184) (env:=aM b9 L 1185) rfl rfl rfl rfl (X _ _ ho85) rfl rfl rfl (X _ _ hoc84) rfl rfl ?_ ?_ ?_
 ·rw [b.prog];kernel_rfl
 ·rw [b.prog];kernel_rfl
 refine ks_loadName_global rfl rfl (loadGlobal_builtin (env:=aM b9 L 1185) n1 e1 n2 e2 ⟨rfl,?_⟩);refine wpAny_loadName_free rfl rfl rfl k72 ?_;refine wpAny_loadName_local rfl rfl nl em ?_;refine ks_wpAny_isType_cls hD hDt ⟨rfl,?_⟩;obtain ⟨hh,g,d,t,os⟩:=s;refine ks_wpAny_call_super hD hDt hme rfl (fun c=>by rintro ⟨⟩) (looks_mroIn X (by kernel_rfl)) fun h' hso kp=>?_;have R1:ag ⟨x,A,aM b9 L 1185,false⟩ H loc O ⟨h',g,d,t,os⟩:=R.keeps (s':=⟨h',g,d,t,os⟩) kp;have XA:=b.X R1.t;have hno1:∀ M,Looks M h' (opaqueClassAbove (.ref 1227)) .none:=fun M=>looks_opaque XA (by kernel_rfl:nsIn (K x.w.params) cStatics "thirdparty.any"=some .none);refine ks_wpAny_getMethod_super hso (hno1 _) (l₀:=[.ref 1227,.ref 1166,.ref 247,.ref 228,.type "object"]) (l:=[.ref 1166,.ref 247,.ref 228,.type "object"]) ?_ (by decide +kernel) XA (f:=1085) (by kernel_rfl) (kp _ _ hof) hoc ?_ rfl ?_
 ·exact fun A Q E s k q=>Wb ((looks_clsIn XA (rfl:clsIn (K x.w.params) 1227=some _)) A _ E s k (Wp q))
 ·rintro rfl
  have:=X _ _ (rfl:(K x.w.params).lookup 1227=some _);rw [hme] at this;cases this
 have R2:=R1.pushO {cls:=.type "method",data:=.fields #[.ref 1085,.ref m]} (t+1) (jS 1085 (.ref m)) fun h_2 e=>⟨_,e,rfl,fun p hp=>by cases hp⟩;refine callWith_of (P:=MethP (K x.w.params) h'.objs.size 1085 (.ref m)) (by rw [hp];rfl) (keeps_M (by kernel_rfl)) (gp hp ?_);refine h _ _ _ _ R2 fun H3 s3 vs ds O3 kC R3 le3 rs=>⟨?_,?_⟩
 ·obtain ⟨o,ho,e,_⟩:=R3.t.hO _ kC.1;subst e;exact ⟨ho,b.X R3.t⟩
 ·exact CI kC.1 kC.2 H3 s3 Q vs R3 rs fun H' s' v d O' k R' le rd=>q H' s' v d O' k R' (Pt le3 le) rd
theorem az.perm (R:az x H O s) (p:O.Perm O'):az x H O' s where
 gens:=R.gens
 os:=R.os
 drawn:=R.drawn
 hH:=R.hH
 hP:=R.hP
 hO q hq:=R.hO q (p.mem_iff.mpr hq)
 nd:=(p.map (·.1)).nodup_iff.mp R.nd
 dH q hq:=R.dH q (p.mem_iff.mpr hq)
 dP q hq:=R.dP q (p.mem_iff.mpr hq)
 dHP:=R.dHP
 bare:=R.bare
 hB:=R.hB
theorem ag.perm (R:ag c H loc O s) (p:O.Perm O'):ag c H loc O' s :=
 ⟨R.t.perm p,R.f,⟨R.o.lH,R.o.lP,fun q hq=>R.o.lO q (p.mem_iff.mpr hq),fun y b e=>⟨(R.o.cH y b e).1,(R.o.cH y b e).2.1,fun q hq=>(R.o.cH y b e).2.2 q (p.mem_iff.mpr hq)⟩,R.o.cP,R.o.ca⟩⟩
theorem au.perm {x A f ds E} {K:D→Own→Prop} (h:au x A f ds O K E) (p:O'.Perm O):au x A f ds O' K E:=fun H s Q vs R rs q qe=>h H s Q vs (R.perm p) rs q qe
noncomputable def mq (size off ts tt:Int) (key:List UInt8) (val:Option (List UInt8)) (hs:List D) (ver ty:Int):List (Str×D):=fU size off ts tt (some key) val hs++[(S "_version",.int ver),(S "_type",.int ty)]
theorem DN (L:Addr):ey (aM b9 L 1185):=⟨rfl,rfl,rfl⟩
theorem Ht {size off ts tt ver ty:Int} (b:ah x) (r':Rm A 1) (hk:key.length=4) (un:dh fHH key 0=[ver,ty]) :
  Exs ⟨x,A,aM b9 L 1185,false⟩ ((aB b9).drop 1) [(S "headers",.lst hs),(S "value",pD val),(S "key",pD (some key)),(S "timestamp_type",.int tt),(S "timestamp",.int ts),(S "offset",.int off),(S "size_in_bytes",.int size),(S "self",.stat (.ref m))]
   ((m,SO.inst 1227 dm)::(dm,SO.attrs (fU size off ts tt (some key) val hs))::O)
   (fun fl _ O'=>pf (fun d O'=>d=.none∧O'=(m,SO.inst 1227 dm)::(dm,SO.attrs (mq size off ts tt key val hs ver ty))::O) fl O') E:=by
 have fe:=DN L;unfold mq fU;refine ad (BN rfl rfl (JG (by with_unfolding_all exact rfl) rfl ?_));refine BM rfl (fT (by k_extra"L") fe rfl ?_);k_extra"AT";refine jN (b:=#[62,104,104]) b (fun P=>⟨2237,by kernel_rfl⟩) u6 BQ ⟨fz,?_⟩;refine uV rfl (BM rfl (fT (by k_extra"L") fe rfl ?_));k_extra"AT";refine jP ?_;refine J9 b (fun P=>⟨2237,by kernel_rfl⟩) LQ (by decide +kernel) (by decide) (by rw [hk];rfl) ?_;rw [un];refine Am r'.hh (fT (by k_extra"L") fe rfl ?_);k_extra"AT";refine fT (by k_extra"L") fe rfl ?_;k_extra"AT";refine bl ?_;exact ⟨rfl,rfl⟩
theorem yE {size off ts tt ver ty:Int} (b:ah x) (r:Rm A 2) (hk:key.length=4) (un:dh fHH key 0=[ver,ty]) :
  au x A (.ref 1185) [.stat (.ref m),.int size,.int off,.int ts,.int tt,pD (some key),pD val,.lst hs] ((m,SO.inst 1227 dm)::(dm,SO.attrs [])::O)
   (fun d O'=>d=.none∧O'=(m,SO.inst 1227 dm)::(dm,SO.attrs (mq size off ts tt key val hs ver ty))::O) E:=by
 have fa:E1 x 1185 b9:=b.fn (fun P=>by kernel_rfl) (fun P=>by kernel_rfl)
 refine Bk (fd:=b9) (body:=aB b9) (names:=[S "self",S "size_in_bytes",S "offset",S "timestamp",S "timestamp_type",S "key",S "value",S "headers"]) fa rfl rfl rfl rfl (fun n hn=>by simp only [List.mem_cons,List.not_mem_nil,or_false] at hn;rcases hn with rfl|rfl|rfl|rfl|rfl|rfl|rfl|rfl<;>rfl) (fun p hp q=>?nc) (by have:=r.dp;lia) ?_
  (fun H s vs R rs=>⟨H,vs++[],Pr _,R,kp_binds (b.X R) fun St=>?_,rs.append .nil⟩) fun L H s Q RF q=>?_
 case nc=>exact absurd (List.all_eq_true.mp (by kernel_rfl:(b9.scope.names.all fun p=>!(p.2==.cell))=true) p hp) (by simp [q])
 ·intro y c hc
  obtain ⟨rfl,rfl⟩:y=S "__class__"∧c=1172:=by
   rcases List.mem_cons.mp hc with h|h
   ·exact ⟨Cg Prod.fst h,Cg Prod.snd h⟩
   ·cases h
  exact ⟨_,b.inn _ _ rfl,fun H O s R=>⟨_,_,b.X R _ _ rfl,rfl⟩⟩
 ·have:=rs.length;exact NK this (aH fun _=>aH fun _=>aH fun _=>aH fun _=>aH fun _=>aH fun _=>aH fun _=>aH fun _=>bM (by kernel_rfl))
 have r':Rm (A.deeper (aM b9 L 1185)) 1:=Rm.deeper r (aM b9 L 1185) (m:=1) (by decide);have fe:=DN L;replace RF:ag ⟨x,A.deeper (aM b9 L 1185),aM b9 L 1185,false⟩ H [(S "headers",.lst hs),(S "value",pD val),(S "key",pD (some key)),(S "timestamp_type",.int tt),(S "timestamp",.int ts),(S "offset",.int off),(S "size_in_bytes",.int size),(S "self",.stat (.ref m))] ((m,SO.inst 1227 dm)::(dm,SO.attrs [])::O) s:=RF;refine ks_wpAt_execs_cons (ks_wpAt_Expr_any (B2 (K':=fun d O'=>d=.none∧∃ a,O'=(m,SO.inst 1227 dm)::(dm,SO.attrs (fU size off ts tt (some key) val hs))::(a,jS 1085 (.ref m))::O) b RF (by k_extra"L") (.head _) (by with_unfolding_all rfl) (by with_unfolding_all rfl) (fun a=>?_) (fun H' s' v d O' k R' le rd=>?_)))
 ·repeat (refine wd (fT (by k_extra"L") fe rfl ?_) (by with_unfolding_all rfl))
  refine jP ⟨.head _,fun x' le=>?_⟩;refine (au.perm (nU (O:=(a,jS 1085 (.ref m))::O) (b.le le) (r'.le (by decide))) ?_).mono fun d O' h=>⟨h.1,a,h.2⟩;exact (List.Perm.swap _ _ _).trans (.cons _ (.swap _ _ _))
 ·obtain ⟨rfl,a,rfl⟩:=k;replace R':=R'.sub (O':=(m,SO.inst 1227 dm)::(dm,SO.attrs (fU size off ts tt (some key) val hs))::O) (.cons_cons _ (.cons_cons _ (.cons _ (.refl _))));refine wpAt_of_wpAny (Ht b r' hk un _ _ _ R' fun HB s2 fl g loc' O' k R2 le2 fi=>q HB s2 fl g loc' O' k R2 (Pt le le2) fi)
noncomputable def cV.ctl (i:cV) (key:List UInt8) (ver ty:Int):List (Str×D):=mq i.len (i.base+i.off) i.when i.tt key i.val (cX i.hs) ver ty
theorem EH {i:cV} {ver ty:Int} (b:ah x) (r:Rm A 3) (e:i.key=some key) (hk:key.length=4) (un:dh fHH key 0=[ver,ty]) :
  bI x A (fun vs=>call (.ref 1227) vs) i.args O (kB 1227 (i.ctl key ver ty) O) E:=by
 unfold cV.args;rw [e];exact au.call (fV b fun A' rx rdx k=>(yE b (k.rm r (by lia)) hk un).mono fun d O' h=>⟨h.1,rx,rdx,rfl,h.2⟩)
section
def fu (M:Model) (A:Around) (Rr:Result→Shared→Prop) (Z:Value→Shared→GenState→Prop) (c:Code) (t:Sem PySem.Fin) (fs:List Frame) (s:Shared):Prop :=
 ∀ Γ p,Γ.code=c→Γ.Woken A→∃ e s',Runs M Γ p t fs s e s'∧(e.quiet=true∧match e with
  |.ret r=>Rr r s'
  |.susp v _ _ _ _ _ _=>Z v s' e.genState)
def nY (M:Model) (A:Around) (Rr:Result→Shared→Prop) (Z:Value→Shared→GenState→Prop) (gs:GenState) (r:Resume) (s:Shared):Prop:=match gs with
 |.fresh c=>r=.send .none∧fu M A Rr Z c (M.den c) [] s
 |.suspended k _ c _ fs _=>fu M A Rr Z c (k r) fs s
 |_=>False
section
variable {M:Model} {c:Code} {fs:List Frame}
theorem fG {α:Type} {m:Sem α} {K:α→Sem PySem.Fin} {H:Value→Sem PySem.Fin} (h:wpAny M (A.over c fs) m (fun a s'=>fu M A Rr Z c (K a) fs s') (fun _ _=>False) s):fu M A Rr Z c (m.wrap K H gd lv) fs s:=by
 rintro Γ p rfl w
 exact runs_wrap_of_wp K H gd lv m (h (Γ.over fs) p (w.over fs)) (fun a p' s' k=>k Γ p' rfl w) fun _ _ _ k=>k.elim
theorem dq {α β:Type} {m:Sem α} {K:α→Sem β} {K':β→Sem PySem.Fin} {H:Value→Sem PySem.Fin} (h:wpAny M (A.over c fs) m (fun a s'=>fu M A Rr Z c ((K a).wrap K' H gd lv) fs s') (fun _ _=>False) s):fu M A Rr Z c ((m>>=K).wrap K' H gd lv) fs s:=by
 rw [Sem.bind_eq_wrap',Sem.wrap_wrap];exact fG h
theorem pK (hq:c'.quiet=true) (h:fu M A Rr Z c' (M.den c') fs s):fu M A Rr Z c (.pure (.again c')) fs s:=by
 rintro Γ p rfl w
 refine bj (h (Γ.goto c') p rfl (w.goto c')) fun e s' r k=>?_;exact ⟨e,s',Runs.head (c₁:=c') (fun _ _ x=>.again hq x) r,k⟩
theorem Ax {h g l} {k:Result→Sem PySem.Fin} (hc:∀ p,fu M A Rr Z c' (M.den c') (.ret k h g l c p []::fs) s):fu M A Rr Z c (.call c' h g l k) fs s:=by
 rintro Γ p rfl w
 refine bj (hc p (Γ.goto c') p rfl (w.goto c')) fun e s' r q=>?_;exact ⟨e,s',runs_call_seg r,q⟩
theorem Aw {k h g l c₁ pA kp} (r:Result) (hk:fu M A Rr Z c₁ (k r) fs s):fu M A Rr Z c (leafOf r) (.ret k h g l c₁ pA kp::fs) s:=by
 rintro Γ p rfl w
 refine bj (hk (Γ.goto c₁) pA rfl (w.goto c₁)) fun e s' q z=>?_;exact ⟨e,s',Runs.pop r q,z⟩
theorem Cb (r:Result) (h:Rr r s):fu M A Rr Z c (leafOf r) [] s:=by
 rintro Γ p rfl _
 exact ⟨.ret r,s,Runs.leaf r,rfl,h⟩
theorem w7 {v g l} {k:Resume→Sem PySem.Fin} (hfs:splitAtGen fs=.none) (hg:g=false) (hfg:fs.any Frame.guarded=false) (h:∀ p,Z v s (.suspended k l c p fs (g||fs.any Frame.guarded))):fu M A Rr Z c (.yield v g l k) fs s:=by
 rintro Γ p rfl _
 exact ⟨_,s,Runs.yield' fs hfs,by simp [End.quiet,hg,hfg],h p⟩
theorem qW {g:Nat} {r:Resume} {l:List Value} {α:Type} {k:GenResult→Sem α} {Q:α→Shared→Prop} (hg:s.gens[g]? = some gs)
  (go:nY M A (fun x sA=>wpAny M A (k (End.ret x).result) Q E (sA.setGen g .finished)) (fun v sA gs'=>gs'.bare=true→wpAny M A (k (.yielded v)) Q E (sA.setGen g gs')) gs r (s.setGen g .running)):wpAny M A (.resume g r l k) Q E s:=by
 intro Γ p hΓ;rw [Sem.wp_resume]
 have fin:∀ (e:End) (sA:Shared),(e.quiet=true∧match e with
   |.ret x=>wpAny M A (k (End.ret x).result) Q E (sA.setGen g .finished)
   |.susp v _ _ _ _ _ _=>e.genState.bare=true→wpAny M A (k (.yielded v)) Q E (sA.setGen g e.genState))→Sem.wp M Γ (k e.result) (fun a _ s'=>Q a s') (fun e _ s'=>E e s') p (sA.setGen g e.genState):=by
  rintro (x|⟨v,g_0,l₀,k₀,cO,pO,fs0⟩) sA ⟨hq,z⟩
  ·exact z Γ p hΓ
  ·exact z (End.bare_of_quiet hq) Γ p hΓ
 cases gs with
 |fresh cO =>
  obtain ⟨rfl,go⟩:=go;refine bj (go (Γ.wake cO p) p rfl (hΓ.wake cO p)) fun e sA hr z=>?_;exact ⟨_,_,by unfold Wakes;rw [hg];exact ⟨e,sA,hr,z.1,rfl,rfl⟩,fin e sA z⟩
 |suspended k₀ l₀ cO pO fs0 cl =>
  refine bj (go (Γ.wake cO p) pO rfl (hΓ.wake cO p)) fun e sA hr z=>?_;exact ⟨_,_,by unfold Wakes;rw [hg];exact ⟨e,sA,hr,z.1,rfl,rfl⟩,fin e sA z⟩
 |running=>exact go.elim
 |finished=>exact go.elim
end
theorem nG {g:Nat} {Q:Option Value→Shared→Prop} (hh:A.handled=.none) (hl:s.heap.NoLimit) (hroom:A.depth<recursionLimit) (hg:s.heap.IsGen a g) (hgs:s.gens[g]? = some gs)
  (go:nY (model prog w) A.in1 (fun r sA=>r=.ok (.ret .none)∧∀ h',(∀ b o,sA.heap.get? b=some o→h'.get? b=some o)→Q .none {sA.setGen g .finished with heap:=h'})
   (fun v sA gs'=>gs'.bare=true→Q (some v) (sA.setGen g gs')) gs (.send .none) (s.setGen g .running)):wpAny (model prog w) A (pyNext (.ref a)) Q E s:=by
 skip;refine Wb (wpAny_attempt (wpAny_callSpecial?_slot (name:=Str.ofString "__next__") hg.typeIs slot_gen_next (wpAny_call_entry slot_gen_next hg.typeIs entry_gen_next ?_ (args_gen_next _))));refine (?_:wpAny _ A.in1 (Builtin.Generator.genWake (.ref a) (.send .none)) _ _ s);skip;refine Wb (Wh (wpAny_genNumber hg (Wb (wpAny_genState hgs ?_))))
 have mono:∀ (Rr Rr':Result→Shared→Prop) (Z Z':Value→Shared→GenState→Prop),(∀ r sA,Rr r sA→Rr' r sA)→(∀ v sA gs',Z v sA gs'→Z' v sA gs')→nY (model prog w) A.in1 Rr Z gs (.send .none) (s.setGen g .running)→nY (model prog w) A.in1 Rr' Z' gs (.send .none) (s.setGen g .running):=by
  intro Rr Rr' Z Z' h1 h2 z
  have seg:∀ c t fs s,fu (model prog w) A.in1 Rr Z c t fs s→fu (model prog w) A.in1 Rr' Z' c t fs s:=fun c t fs s y Γ p hc hw=>by
   refine dR (y Γ p hc hw) fun e s' r q k=>?_;refine ⟨e,s',r,q,?_⟩
   cases e with
   |ret r=>exact h1 _ _ k
   |susp=>exact h2 _ _ _ k
  cases gs with
  |fresh=>exact ⟨z.1,seg _ _ _ _ z.2⟩
  |suspended=>exact seg _ _ _ _ z
  |running=>exact z.elim
  |finished=>exact z.elim
 cases gs with
 |running=>exact go.elim
 |finished=>exact go.elim
 |_ =>
  refine Wb (wpAny_roomToWake hl hroom ?_);refine (?_:wpAny _ A.in1 (.resume g (.send .none) [] _) _ _ s);refine qW hgs (mono _ _ _ _ (fun x sA hx=>?_) (fun v sA gs' z hb=>?_) go)
  ·obtain ⟨rfl,hp⟩:=hx;refine (?_:wpAny _ A.in1 (newExc (.type "StopIteration") []>>=_) _ _ _);refine Wb ?_;simp only [newExc,newTuple];refine Wb (wpAny_newObj_type ?_ (by size_fits));refine wpAny_bind (m:=firstArgMember _ _) (wpAny_of_eq (a:=Value.none) (by first|rfl|(simp only [firstArgMember];rfl)) ?_);refine wpAny_newObj_type ?_ (by size_fits);simp only [raiseNew];refine Wb (Wb (wpAny_handled ?_))
   first|rw [(hh:A.in1.handled=none)]|rw [hh]
   refine wpAny_throw ?_;refine Wb (wpAny_isInstance (T:="StopIteration") (b:=true) ⟨_,Hs _ rfl,rfl⟩ isSubtype_stop ?_);exact Wp (hp _ fun b o hb=>Hp _ (Hp _ hb))
  ·exact Wp ⟨v,rfl,Wp (z hb)⟩
end
section
def GX (c:Cc) (A₀:Around) (Rr:Result→Shared→Prop) (Z:Value→Shared→GenState→Prop) (code:Code) (fs:List Frame) (t:Sem PySem.Fin) (loc:Loc) (O:Own):Prop:=∀ H s,ag c H loc O s→fu c.M A₀ Rr Z code t fs s
theorem ag.around {H loc O s} (R:ag c H loc O s):ag {c with A:=A'} H loc O s:=⟨R.t,R.f,R.o⟩
noncomputable def gX (l:Addr) (ds:List D) (i:Nat):SO:=.raw (gY l i) [(.ref l,.lst ds)]
noncomputable def fO (env:Env) (K:Flow→Sem PySem.Fin) (Hx:Value→Sem PySem.Fin) (gd:Bool→Bool) (lv:List Value→List Value) (code:Code) (p:Pos):Frame :=
 .ret (fun r=>((match r with|.ok f=>(.pure f:Sem Flow)|.error e=>.raise e).onRaise fun (x:Value)=>do
    if (← field x 1)==Value.none then unsupported "frame.own-activation:exception-without-traceback"
    setFlight x env.frame).wrap K Hx gd lv) .none (gd false) (lv []) code p []
noncomputable def Jz (target:PySem.Expr) (it:Value) (body orelse:List PySem.Stmt) (env:Env):Flow→Sem PySem.Fin
 |.next|.cont=>.pure (.again (.forLoop target it body orelse env))
 |.brk=>.pure (.done .next)
 |.ret v=>.pure (.done (.ret v))
section
variable {code:Code} {fs:List Frame} {K:Flow→Sem PySem.Fin} {Hx:Value→Sem PySem.Fin} {gd:Bool→Bool} {lv:List Value→List Value}
theorem bW {st:PySem.Stmt} {rest:List PySem.Stmt} (h:GX c A₀ Rr Z code fs ((exec st c.env).wrap (fun f=>match f with|.next=>(execs rest c.env).wrap K Hx gd lv|f=>K f) Hx gd lv) loc O):GX c A₀ Rr Z code fs ((execs (st::rest) c.env).wrap K Hx gd lv) loc O:=by
 rw [execs_cons_wrap];exact h
theorem qt (h:GX c A₀ Rr Z code fs (K .next) loc O):GX c A₀ Rr Z code fs ((execs [] c.env).wrap K Hx gd lv) loc O:=h
theorem cZ (hA:c.A=A₀.over code fs) {st:PySem.Stmt} (h:Ex c st loc O (fun f l O'=>f=.next∧GX c A₀ Rr Z code fs (K .next) l O') NoE):GX c A₀ Rr Z code fs ((exec st c.env).wrap K Hx gd lv) loc O:=fun H s R=>by
 refine fG ?_;rw [← hA];refine h H s _ R fun H' s' f g l O' k R' le fi=>?_;obtain ⟨rfl,k⟩:=k
 cases fi using jB.cNext
 exact k H' s' R'
theorem Ji (hA:c.A=A₀.over code fs) {t:PySem.Expr} {b o:List PySem.Stmt} {p:Pos} (h:Tst c t loc O (fun z O₁=>if z=true then GX c A₀ Rr Z code fs ((execs b c.env).wrap K Hx gd lv) loc O₁ else GX c A₀ Rr Z code fs ((execs o c.env).wrap K Hx gd lv) loc O₁) NoE) :
  GX c A₀ Rr Z code fs ((exec (.If t b o p) c.env).wrap K Hx gd lv) loc O:=fun H s R=>by
 rw [exec_If];refine dq (Ws (dq ?_));rw [← hA];refine h H s _ R fun H' s' z O' k R' le=>?_
 cases z with
 |true=>rw [if_pos rfl] at k;exact k H' s' R'
 |false=>rw [if_neg Bool.false_ne_true] at k;exact k H' s' R'
theorem vZ (hA:c.A=A₀.over code fs) {yp p:Pos} (hfs:splitAtGen fs=.none) (hgd:gd false=false) (hfg:fs.any Frame.guarded=false) (hco:c.env.scope.isCoroutine=false) (hi:interactive c.env=false)
  (h:Ev c e loc O (fun d O'=>∀ H s v,ag c H loc O' s→ac H v d→∀ gs:GenState,gs.bare=true→(∀ (A:Around) (Rr':Result→Shared→Prop) Z' s',fu c.M A Rr' Z' code (K .next) fs s'→nY c.M A Rr' Z' gs (.send .none) s')→Z v s gs) NoE) :
  GX c A₀ Rr Z code fs ((exec (.Expr (.Yield (some e) yp) p) c.env).wrap K Hx gd lv) loc O:=fun H s R=>by
 rw [exec_Expr c.env _ p hi rfl];refine (?_:fu c.M A₀ Rr Z code (.at p fun _=>((eval e c.env>>=fun v=>(standAt yp>>=fun _=>yieldOut c.env v))>>=fun x=>dropValue (.Yield (some e) yp) p x).wrap K Hx gd lv) fs s);have hy:∀ v,yieldOut c.env v=yieldValue v:=fun v=>by simp only [yieldOut,hco,Bool.false_eq_true,if_false]
 simp only [hy];refine fG (m:=standAt p) (K:=fun _=>_) (H:=.raise) (gd:=id) (lv:=id) (Ws ?_);rw [Sem.bind_eq_wrap',Sem.bind_eq_wrap',Sem.wrap_wrap,Sem.wrap_wrap];refine fG ?_;rw [← hA];refine h H s _ R fun H' s' v d O' k R' le rd=>?_;refine fG (m:=standAt yp) (K:=fun _=>_) (H:=.raise) (gd:=id) (lv:=id) (Ws ?_);refine w7 hfs hgd hfg fun p'=>k H' s' v R' rd _ ?_ fun A Rr' Z' s2 z=>?_
 ·refine (?_:(!(gd false||fs.any Frame.guarded))=true);rw [hgd,hfg];rfl
 ·exact z
theorem KD (hA:c.A=A₀.over code fs) {p:Pos} (hs:jq iter=true)
  (h:Ev c iter loc O (fun d O₁=>∃ ds,d=.lst ds∧∀ it l p',GX {c with A:=A₀.over (.forLoop target (.ref it) body orelse c.env) (fO c.env K Hx gd lv code p'::fs)} A₀ Rr Z (.forLoop target (.ref it) body orelse c.env) (fO c.env K Hx gd lv code p'::fs)
   (c.M.den (.forLoop target (.ref it) body orelse c.env)) loc ((it,gX l ds 0)::O₁)) NoE):GX c A₀ Rr Z code fs ((exec (.For target iter body orelse p) c.env).wrap K Hx gd lv) loc O:=fun H s R=>by
 rw [exec_For];refine dq (Ws (dq ?_));rw [← hA];refine h H s _ R fun H₁ sA v d O₁ h_1 R1 le1 rd=>?_;obtain ⟨ds,rfl,h_1⟩:=h_1;have hs':=fK (env:=c.env) hs v;refine dq ?_;rw [← hA];refine Wq hs' ?_;refine dq (Ws (dq ?_));rw [← hA];refine Wh ?_;have rd':=rd
 cases rd using ac.cLst with
 |lst e rs =>
  rename_i a n vs;refine wpAny_pyIter_list ⟨_,R1.t.hH _ _ e,rfl,n,rfl⟩ ?_;have R2:=R1.pushO {cls:=.type "list_iterator",data:=.fields #[.ref a,.int 0 0]} sA.toks (gX a ds 0) fun h' e'=>⟨_,e',⟨rfl,rfl⟩,fun q hq=>by rw [List.mem_singleton] at hq;subst hq;exact rd'⟩;exact Ax fun p'=>h_1 _ _ p' _ _ R2.around
theorem GV {it l:Addr} (hA:c.A=A₀.over (.forLoop target (.ref it) body orelse c.env) fs) (hd:ds[i]? = some d) (hc:code=.forLoop target (.ref it) body orelse c.env)
  (u:Upd it (gX l ds i) (gX l ds (i+1)) O O₁)
  (h:Tgt c target d loc O₁ (fun l' O'=>∀ Hx',GX c A₀ Rr Z code fs ((execs body c.env).wrap (Jz target (.ref it) body orelse c.env) Hx' id id) l' O')):GX c A₀ Rr Z code fs (c.M.den (.forLoop target (.ref it) body orelse c.env)) loc O:=fun H s R=>by
 subst hc;refine (?_:fu c.M A₀ Rr Z _ ((forTurn target (.ref it) body orelse c.env).onRaise (fun x=>do noteFrame x c.env;theTreesLotGoes x)) fs s);skip;rw [Sem.onRaise_eq_wrap];refine dq (Ws (dq ?_));rw [← hA];obtain ⟨o,ho,fo,fr⟩:=R.t.hO _ u.mem;have rl:=fr _ (.head _)
 obtain ⟨v,hv,rd⟩:∃ v:Value,(∃ n vs,H l=some ⟨.type "list",.none,.seq (List.toArray vs) n,#[]⟩∧vs[i]? = some v)∧ac H v d:=by
  cases rl with
  |lst e rs=>obtain ⟨v,hv,rd⟩:=rs.get hd;exact ⟨v,⟨_,_,e,hv⟩,rd⟩
 obtain ⟨n,vs,e,hv⟩:=hv;refine wpAny_onRaise (wpAny_pyNext_list_item (items:=vs.toArray) ⟨o,ho,fo.1,fo.2⟩ ⟨_,R.t.hH _ _ e,rfl,n,rfl⟩ (by simpa using hv) fun h' at' sb=>?_);obtain ⟨o',ho',c',d'⟩:=at';have R1:=R.upd (s':={s with heap:=h'}) u sb ⟨o',ho',⟨c',d'⟩,fr⟩;refine dq ?_;rw [← hA];refine mh (it:=it) ho' c' (by decide) ?_;refine dq ?_;rw [← hA];refine h H _ _ v R1 rd fun HB s2 l_2 O2 k R2 le2=>?_;refine (?_:fu _ _ _ _ _ (Sem.wrap _ _ _ _ (execs body c.env>>=_)) fs s2);rw [Sem.bind_eq_wrap',Sem.wrap_wrap,Sem.wrap_congr (execs body c.env) _ _ (K':=Jz target (.ref it) body orelse c.env) (H':=_) (fun f=>by cases f<;>rfl) (fun e=>rfl)];exact k _ HB s2 R2
theorem GW {it l:Addr} {p:Pos} (hA:c.A=A₀.over (.forLoop target (.ref it) body [] c.env) (fO c.env K Hx gd lv code p::fs)) (hh:c.A.handled=.none) (hi:ds[i]? = .none)
  (h:GX c A₀ Rr Z code fs (K .next) loc O):GX c A₀ Rr Z (.forLoop target (.ref it) body [] c.env) (fO c.env K Hx gd lv code p::fs) (c.M.den (.forLoop target (.ref it) body [] c.env)) loc ((it,gX l ds i)::O):=fun H s R=>by
 refine (?_:fu c.M A₀ Rr Z _ ((forTurn target (.ref it) body [] c.env).onRaise (fun x=>do noteFrame x c.env;theTreesLotGoes x)) _ s);skip;rw [Sem.onRaise_eq_wrap];refine dq (Ws (dq ?_));rw [← hA];obtain ⟨o,ho,fo,fr⟩:=R.t.hO _ (.head _);have rl:=fr _ (.head _)
 cases rl with
 |lst e rs =>
  rename_i n vs;refine wpAny_onRaise (wpAny_pyNext_list_end (items:=vs.toArray) hh ⟨o,ho,fo.1,fo.2⟩ ⟨_,R.t.hH _ _ e,rfl,n,rfl⟩ ?_ fun h' xb=>?_)
  ·rw [List.getElem?_eq_none_iff] at hi;simp only [List.getElem?_toArray,List.getElem?_eq_none_iff];rw [rs.length];exact hi
  have R1:=ag.lose (F:=[(it,gX l ds i)]) (s':={s with heap:=h'}) R fun b o hb e'=>xb b o (fun q=>hb (by rw [q];exact .head _)) e';exact pK rfl (Aw (.ok .next) (h H _ R1))
end
end
section
noncomputable abbrev Rec:=Addr×List (Str×D)
noncomputable def wM (b:Bool) (c:Cc) (target:PySem.Expr) (w:Value):List Rec→Cx→Own→Prop
 |[]=>fun x own=>∀ loc T,NxG b c x target w loc (own++T) fun od x' O'=>od=.none∧∃ own',O'=own'++T
 |y::ys=>fun x own=>∀ loc T,NxG b c x target w loc (own++T) fun od x' O'=>∃ rx rdx own',od=some (.stat (.ref rx))∧O'=own'++(rx,SO.inst y.1 rdx)::(rdx,SO.attrs y.2)::T∧wM b c target w ys x' own'
noncomputable def eX (x₀:Cx) (A₀:Around) (env:Env):List Rec→Cx→Own→(Result→Shared→Prop)→(Value→Shared→GenState→Prop)→Prop
 |[]=>fun x T Rr Z=>∀ H3 s' loc' own',ag ⟨x,A₀,env,true⟩ H3 loc' (own'++T) s'→Rr (.ok (.ret .none)) s'
 |y::ys=>fun x T Rr Z=>∀ H3 s' gs' loc' rx rdx own',ag ⟨x,A₀,env,true⟩ H3 loc' (own'++(rx,SO.inst y.1 rdx)::(rdx,SO.attrs y.2)::T) s'→gs'.bare=true →
   (∀ x' T' s2,x₀.le x'→H3≤x'.B→ag ⟨x',A₀,env,true⟩ x'.B loc' (own'++T') s2→∀ Rr' Z',eX x₀ A₀ env ys x' T' Rr' Z'→nY (model x'.prog x'.w) A₀ Rr' Z' gs' (.send .none) s2)→Z (.ref rx) s' gs'
def E0 (x₀:Cx) (A₀:Around) (env:Env) (ys:List Rec) (gs:GenState) (H:PM) (loc:Loc) (own:Own):Prop :=
 ∀ x T s,x₀.le x→H≤x.B→ag ⟨x,A₀,env,true⟩ x.B loc (own++T) s→∀ Rr Z,eX x₀ A₀ env ys x T Rr Z→nY (model x.prog x.w) A₀ Rr Z gs (.send .none) s
noncomputable def gL (x₀:Cx) (L:Addr) (oL:Obj) (g:Nat) (gs:GenState) (B:PM):Cx:={x₀ with P:=fun b=>if b=L then some (oL,false) else x₀.P b,gens:=fun i=>if i=g then some gs else x₀.gens i,B:=B}
noncomputable def pL (c:Cc) (h:Heap) (H:PM) (g:Nat):Cx:={mO c h H with gens:=fun i=>if i=g then some .running else c.x.gens i}
theorem qu {L oL g gs B} (hL:x₀.P L=.none) (hg:x₀.gens g=.none) (hB:x₀.B≤B):x₀.le (gL x₀ L oL g gs B):=⟨⟨rfl,hB,fun i st e=>by
 refine (?_:(if i=g then _ else _)=_);rw [if_neg (fun q=>by rw [q,hg] at e;cases e)];exact e⟩,fun a ob e=>by
 refine (?_:(if a=L then _ else _)=_);rw [if_neg (fun q=>by rw [q,hL] at e;cases e)];exact e⟩
theorem Pl.only (F:Pl env H loc h) (hc:env.cells=[]) (e:h'.get? env.locals=h.get? env.locals):Pl env H loc h' where
 ns:=by
  refine al F.ns fun m q1 z=>?_;obtain ⟨o,es,ep,q,r⟩:=q1;exact ⟨m,⟨o,es,ep,e.trans q,r⟩,z⟩
 cl y d e' k:=by
  refine bj (F.cl y d e' k) fun b v p _=>?_;rw [hc] at p;cases p
 cs y b hm:=by rw [hc] at hm;cases hm
theorem ka {g:Nat} {x:GenState} (hi:i≠g):(s.setGen g x).gens[i]? = s.gens[i]?:=by
 skip;exact Array.getElem?_setIfInBounds_ne (Ne.symm hi)
theorem jh {g:Nat} {x:GenState} (b:AllBare s.gens) (h:x.bare=true):AllBare (s.setGen g x).gens:=fun y hy=>by
 unfold Shared.setGen at hy
 rcases Array.mem_or_eq_of_mem_setIfInBounds hy with q|rfl
 ·exact b y q
 ·exact h
theorem ag.genUp {g:Nat} (R:ag c H loc O s) (hL:s.heap.get? L=some oL) (h1:H L=.none) (h2:∀ p∈O,p.1≠L) (h3:c.x.P L=.none) (h4:L≠c.env.locals) (h5:c.env.cells=[])
  (hb:gs.bare=true) (hg:s.gens[g]? = some gr) (hx:c.x.gens g=.none):ag (c.at (gL c.x L oL g gs H)) H loc O (s.setGen g gs):=by
 refine ⟨⟨fun i st e=>?_,R.t.os,R.t.drawn,R.t.hH,fun a o f e=>?_,R.t.hO,R.t.nd,R.t.dH,fun p hp=>?_,fun a ob e=>?_,jh R.t.bare hb,Pr _⟩,R.f.keeps fun b o e=>e,⟨R.o.lH,?_,R.o.lO,fun y b hm=>?_,fun _ y b hm=>?_,R.o.ca⟩⟩
 ·replace e:(if i=g then some gs else c.x.gens i)=some st:=e
  by_cases q:i=g
  ·rw [if_pos q] at e;cases e;subst q;exact setGen_self hg
  ·rw [if_neg q] at e;rw [ka q];exact R.t.gens _ _ e
 ·replace e:(if a=L then some (oL,false) else c.x.P a)=some (o,f):=e
  by_cases q:a=L
  ·rw [if_pos q] at e;cases e;subst q;exact ⟨_,hL,.inl rfl⟩
  ·rw [if_neg q] at e;exact R.t.hP _ _ _ e
 ·refine (?_:(if p.1=L then some (oL,false) else c.x.P p.1)=.none);rw [if_neg (h2 p hp)];exact R.t.dP p hp
 ·replace e:(if a=L then some (oL,false) else c.x.P a)=some ob:=e
  by_cases q:a=L
  ·rw [q];exact h1
  ·rw [if_neg q] at e;exact R.t.dHP _ _ e
 ·refine (?_:(if c.env.locals=L then some (oL,false) else c.x.P c.env.locals)=.none);rw [if_neg (Ne.symm h4)];exact R.o.lP
 ·replace hm:(y,b)∈c.env.cells:=hm;rw [h5] at hm;cases hm
 ·replace hm:(y,b)∈c.env.cells:=hm;rw [h5] at hm;cases hm
section
variable {g:Nat} {py:Pos}
structure uI (c:Cc) (x₀:Cx) (env:Env) (a L:Addr) (g:Nat):Prop where
 base:ah x₀
 le:c.x.le x₀
 cells:c.env.cells=[]
 ecells:env.cells=[]
 loc:env.locals=L
 hh:c.A.handled=.none
 room:c.A.depth<recursionLimit
 obj:∃ o nm qn,x₀.P a=some (o,false)∧o.cls=.type "generator"∧o.data=.fields #[.int g 0,nm,qn]∧o.slots=#[]
 PL:x₀.P L=.none
 gs:x₀.gens g=.none
theorem DK (F:uI c x₀ env a L g) (hF:∀ h:Heap,h.get? L=some oL→Pl env B lg h) (R:ag (c.at (gL x₀ L oL g gs B)) H loc O s) (hB:x₀.B≤B) :
  ag (c.at x₀) H loc O s∧x₀.le (pL (c.at x₀) s.heap H g)∧s.gens[g]? = some gs∧ag ⟨pL (c.at x₀) s.heap H g,c.A.in1,env,true⟩ H lg O (s.setGen g .running)∧s.heap.IsGen a g∧L≠c.env.locals:=by
 have le:=qu (oL:=oL) (gs:=gs) F.PL F.gs hB;have R0:ag (c.at x₀) H loc O s:=ag.down (c:=c.at x₀) (x:=gL x₀ L oL g gs B) le R;have PL:(gL x₀ L oL g gs B).P L=some (oL,false):=by refine (?_:(if L=L then _ else _)=_);rw [if_pos rfl]
 have nL:L≠c.env.locals:=fun q=>by
  have:=R.o.lP;rw [(q.symm:(c.at (gL x₀ L oL g gs B)).env.locals=L),(PL:(c.at (gL x₀ L oL g gs B)).x.P L=some (oL,false))] at this;cases this
 have hgs:s.gens[g]? = some gs:=R.t.gens g gs (by refine (?_:(if g=g then _ else _)=_);rw [if_pos rfl]);have T:=jl R0
 have lx:x₀.le (pL (c.at x₀) s.heap H g):=by
  have l1:=(cq (c.at x₀) s.heap).trans (cQ R0);refine ⟨⟨rfl,l1.1.2.1,fun i st e=>?_⟩,l1.2⟩;refine (?_:(if i=g then _ else _)=_);rw [if_neg (fun q=>by rw [q,F.gs] at e;cases e)];exact e
 refine ⟨R0,lx,hgs,⟨⟨fun i st e=>?_,T.os,T.drawn,T.hH,T.hP,T.hO,T.nd,T.dH,T.dP,T.dHP,jh T.bare rfl,T.hB⟩,?_,⟨?_,?_,?_,?_,?_,?_⟩⟩,?_,nL⟩
 ·replace e:(if i=g then some GenState.running else x₀.gens i)=some st:=e
  by_cases q:i=g
  ·rw [if_pos q] at e;cases e;subst q;exact setGen_self hgs
  ·rw [if_neg q] at e;rw [ka q];exact R0.t.gens _ _ e
 ·exact ((hF s.heap (R.t.hard PL)).mono R.t.hB).keeps fun b o e=>e
 ·refine (?_:H env.locals=.none);rw [F.loc];exact R.t.dHP _ _ PL
 ·refine (?_:(pL (c.at x₀) s.heap H g).P env.locals=.none);rw [F.loc];exact jG (c:=c.at x₀) F.PL (by refine (?_:L∉c.env.cells.map (·.2));rw [F.cells];exact List.not_mem_nil) nL
 ·intro p hp q;have:=R.t.dP p hp;rw [q] at this;rw [show (c.at (gL x₀ L oL g gs B)).x.P env.locals=some (oL,false) from by rw [F.loc];exact PL] at this;cases this
 ·intro y b hm;replace hm:(y,b)∈env.cells:=hm;rw [F.ecells] at hm;cases hm
 ·intro _ y b hm;replace hm:(y,b)∈env.cells:=hm;rw [F.ecells] at hm;cases hm
 ·intro _;refine (?_:env.cells.Pairwise _);rw [F.ecells];exact .nil
 ·refine bK F.obj fun o nm qn p q=>?_;exact ⟨o,nm,qn,R0.t.hard p,q⟩
theorem G0 (F:uI c x₀ env a L g) (hB:x₀.B≤H) (nL:L≠c.env.locals) (R0:ag (c.at x₀) H loc O s) (R':ag ⟨pL (c.at x₀) s.heap H g,c.A.in1,env,true⟩ H3 lg O' s') (hb:gs'.bare=true) :
  ∃ oL,(∀ h:Heap,h.get? L=some oL→Pl env H3 lg h)∧c.x.le (gL x₀ L oL g gs' H3)∧x₀.B≤H3∧ag (c.at (gL x₀ L oL g gs' H3)) H3 loc O' (s'.setGen g gs'):=by
 have hle:H≤H3:=R'.t.hB
 have lx:(outer (c.at x₀) s.heap).le (pL (c.at x₀) s.heap H g):=⟨⟨rfl,R0.t.hB,fun i st e=>by
  refine (?_:(if i=g then _ else _)=_);rw [if_neg (fun q=>by rw [q] at e;replace e:x₀.gens g=some st:=e;rw [F.gs] at e;cases e)];exact e⟩,fun _ _ e=>e⟩
 have R1:ag (c.at x₀) H3 loc O' s':=Pm R0 (R'.t.down lx) hle;refine al R'.f.ns fun m q2 z=>?_;obtain ⟨oL,es,ep,hL,r⟩:=q2;replace hL:s'.heap.get? L=some oL:=by rw [← F.loc];exact hL
 refine ⟨oL,fun h e=>R'.f.only F.ecells (by rw [F.loc];exact e.trans hL.symm),F.le.trans (qu F.PL F.gs (Pt hB hle)),Pt hB hle,?_⟩;have hr:s'.gens[g]? = some .running:=R'.t.gens g _ (by refine (?_:(if g=g then _ else _)=_);rw [if_pos rfl]);exact ag.genUp R1 hL (by rw [← F.loc];exact R'.o.lH) (fun p hp=>by rw [← F.loc];exact R'.o.lO p hp) F.PL nL F.cells hb hr F.gs
theorem az.setGen {H O s} {g:Nat} (R:az x H O s) (hx:x.gens g=.none) (hb:gs.bare=true):az x H O (s.setGen g gs) :=
 ⟨fun i st e=>by rw [ka (fun q=>by rw [q,hx] at e;cases e)];exact R.gens i st e,R.os,R.drawn,R.hH,R.hP,R.hO,R.nd,R.dH,R.dP,R.dHP,jh R.bare hb,R.hB⟩
theorem rO (F:uI c x₀ env a L g):∀ (ys:List Rec) (gs:GenState) (oL:Obj) (B:PM) (lg:Loc) (own:Own),x₀.B≤B→(∀ h:Heap,h.get? L=some oL→Pl env B lg h)→E0 x₀ c.A.in1 env ys gs B lg own →
  wM b c (.Name y py) (.ref a) ys (gL x₀ L oL g gs B) own
 |[],gs,oL,B,lg,own,hB,hF,run=>fun loc T H s Q R q0 q1=>by
  refine Ab (DK F hF R hB) fun R0 lx hgs RF ig nL=>?_;refine al F.base.lim fun oc hc lim=>?_;have hM:model x₀.prog x₀.w=c.M:=by rw [F.le.1.1]
  refine dg ?_;refine (?_:wpAny c.M c.A _ _ _ _);rw [← hM];have hl:s.heap.NoLimit:=lim _ (R0.t.hard hc);refine nG F.hh hl F.room ig hgs ?_;refine run _ T _ lx R.t.hB RF _ _ fun H3 s' loc' own' R'=>⟨rfl,fun h' kp=>?_⟩
  have l1:(outer (c.at x₀) s.heap).le (pL (c.at x₀) s.heap H g):=⟨⟨rfl,R0.t.hB,fun i st e=>by
   refine (?_:(if i=g then _ else _)=_);rw [if_neg (fun q=>by rw [q] at e;replace e:x₀.gens g=some st:=e;rw [F.gs] at e;cases e)];exact e⟩,fun _ _ e=>e⟩
  have R1:ag (c.at x₀) H3 loc (own'++T) s':=Pm R0 (R'.t.down l1) R'.t.hB;have R2:ag (c.at x₀) H3 loc (own'++T) (s'.setGen g .finished):=⟨R1.t.setGen F.gs rfl,R1.f.keeps fun b o e=>e,R1.o⟩;exact q0 H3 _ x₀ _ ⟨rfl,own',rfl⟩ F.le (R2.keeps (s':={s'.setGen g .finished with heap:=h'}) kp) R'.t.hB
 |y::ys,gs,oL,B,lg,own,hB,hF,run=>fun loc T H s Q R q0 q1=>by
  refine Ab (DK F hF R hB) fun R0 lx hgs RF ig nL=>?_;refine al F.base.lim fun oc hc lim=>?_;have hM:model x₀.prog x₀.w=c.M:=by rw [F.le.1.1]
  refine dg ?_;refine (?_:wpAny c.M c.A _ _ _ _);rw [← hM];have hl:s.heap.NoLimit:=lim _ (R0.t.hard hc);refine nG F.hh hl F.room ig hgs ?_;refine run _ T _ lx R.t.hB RF _ _ fun H3 s' gs' loc' rx rdx own' R' hb run' _=>?_;refine ut (G0 F (Pt hB R.t.hB) nL R0 R' hb) fun oL' hF' le' hB' R2=>?_;refine q1 _ _ fun Q' q'=>Wp (q' H3 _ (.stat (.ref rx)) (gL x₀ L oL' g gs' H3) _ ⟨rx,rdx,own',rfl,rfl,rO F ys gs' oL' H3 loc' own' hB' hF' run'⟩ le' R2 R'.t.hB (.stat _))
end
end
theorem u9 {g:Nat} (h:s.gens[g]? = some gs):s.setGen g gs=s:=by
 skip;obtain ⟨hh,gens,d,t,os⟩:=s;replace h:gens[g]? = some gs:=h;obtain ⟨hl,e⟩:=Array.getElem?_eq_some_iff.mp h;refine (?_:(⟨hh,gens.setIfInBounds g gs,d,t,os⟩:Shared)=_)
 congr 1
 apply Array.ext_getElem?;intro i;rw [Array.getElem?_setIfInBounds]
 by_cases q:g=i
 ·subst q;rw [if_pos rfl,if_pos hl,h]
 ·rw [if_neg q]
theorem ag.pushGen {H s} (R:ag c H loc O s) (hb:gs.bare=true):ag c H loc O {s with gens:=s.gens.push gs}:=by
 refine ⟨⟨fun i st e=>?_,R.t.os,R.t.drawn,R.t.hH,R.t.hP,R.t.hO,R.t.nd,R.t.dH,R.t.dP,R.t.dHP,R.t.bare.push hb,R.t.hB⟩,R.f,R.o⟩;have:=R.t.gens i st e;obtain ⟨hl,e'⟩:=Array.getElem?_eq_some_iff.mp this;refine (?_:(s.gens.push gs)[i]? = some st);rw [Array.getElem?_push_lt hl,e']
theorem xd {H s} (b:ah c.x) [it:fY C (S "__iter__") f] (m1:(m,SO.inst C dm)∈O) (m2:(dm,SO.attrs fs)∈O) (R:ag c H loc O s)
  (h:codeAny c.M c.A (.call (.ref f) ⟨[.ref m],[]⟩) (fun r s'=>∃ a,r=.ok (.ret (.ref a))∧s'.TypeIs (.ref a) "generator"∧Q (.ref a) s') s):wpAny c.M c.A (pyIter (.ref m)) Q E s:=by
 refine bj (fA R m1 m2) fun es n I at'=>?_;obtain ⟨o1,o2⟩:=jD (it.h c.x.w.params);have X:=b.X R.t
 have fin:wpAny c.M c.A (call (.ref f) [.ref m]>>=fun v=>pure (some v)) (fun r s'=>∃ a,r=some (.ref a)∧s'.TypeIs (.ref a) "generator"∧Q (.ref a) s') E s :=
  Wb (wpAny_call (codeAny_mono h fun r s' hr=>by
   refine al hr fun a q1 k=>?_;obtain rfl:=q1;exact Wp ⟨a,rfl,k⟩))
 have one:∀ refuse:Sem Value,wpAny c.M c.A (callSpecialIfBoundUnlessNone? (.ref m) "__iter__" refuse) (fun r s'=>∃ a,r=some (.ref a)∧s'.TypeIs (.ref a) "generator"∧Q (.ref a) s') E s:=by
  intro refuse;simp only [callSpecialIfBoundUnlessNone?,bindSpecialIfBound?];refine Wh (Wb (Wb (Wb (I.type.here ((looks_findIn X o1).here ?_)))))
  have fin2:wpAny c.M c.A (if (Value.ref f==Value.none)=true then (refuse>>=fun v=>pure (some v)) else (call (.ref f) [.ref m]>>=fun v=>pure (some v))) (fun r s'=>∃ a,r=some (.ref a)∧s'.TypeIs (.ref a) "generator"∧Q (.ref a) s') E s:=by
   rw [if_neg (show ¬ ((Value.ref f==Value.none)=true) from Bool.false_ne_true)];exact fin
  refine Wb (wpAny_askSetting (wpAny_ite ?_))
  split
  ·exact Wb ((bind_fn X _ o2).here (Wp (by exact fin2)))
  ·exact wpAny_tryCatch (Wb ((bind_fn X _ o2).here (Wp (by exact fin2))))
 skip;refine Wb (Wb (I.type.here ((looks_findIn X o1).here ?_)));refine (?_:wpAny c.M c.A (callSpecialIfBoundUnlessNone? (.ref m) "__iter__" _>>=_) Q E s);refine Wb (Wm (one _) (fun r s' hr=>?_) fun _ _ z=>z);refine al hr fun a q2 q3=>?_;obtain rfl:=q2;obtain ⟨hT,k⟩:=q3;refine (?_:wpAny c.M c.A (specialOf (.ref a) "__next__">>=_) Q E s');refine Wb (wpAny_specialOf hT slot_gen_next.lookup ?_);exact Wp k
theorem Dw {H s} (b:ah c.x) (r:Rm c.A 1) (hce:c.env.cells=[]) (m1:(m,SO.inst 544 dm)∈O) (m2:(dm,SO.attrs fs)∈O) (R:ag c H loc O s)
  (h:∀ s' a L g oL x₀,uI c x₀ (callEnvC ar L 541) a L g→x₀.B=c.x.B→(∀ h:Heap,h.get? L=some oL→Pl (callEnvC ar L 541) H [(S "self",.stat (.ref m))] h) →
   ag (c.at (gL x₀ L oL g (.fresh (.func (aB ar) (callEnvC ar L 541))) H)) H loc O s'→Q (.ref a) s'):wpAny c.M c.A (pyIter (.ref m)) Q E s:=by
 refine xd b m1 m2 R ?_;refine gB ((b.fn (f:=541) (fd:=ar) (fun P=>by kernel_rfl) (fun P=>by kernel_rfl)).at' _ _ _ R.t) fun q4 hlim hcd=>?_;refine al q4 fun o ho hd=>?_;have bt:BindsTo s ar ⟨[.ref m],[]⟩ [(S "self",.ref m)]:=kp_binds (b.X R.t) fun St=>by kernel_rfl
 refine codeAny_call_generator (fd:=ar) (body:=aB ar) (by have:=r.dp;lia) ho hd rfl rfl rfl hcd (bt _ _ _ _ ?_);refine wpAny_newFunctionEnv (by decide +kernel) (fun y hy=>?_) (fun h' hns hsb=>?_) rfl
 ·rw [List.mem_singleton] at hy;subst hy;rfl
 have kp:∀ b o,s.heap.get? b=some o→h'.get? b=some o:=fun b o e=>hsb.extBut b o (Nat.ne_of_lt (Heap.lt_size e)) (Hp _ e);refine ⟨hlim.keeps kp,?_⟩;have R':=R.keeps (s':={s with heap:=h'}) kp;have RK:=qD (x:=c.x) (A:=c.A) (f:=541) (fd:=ar) (names:=[S "self"]) (ds:=[.stat (.ref m)]) (vs:=[.ref m]) (tk:=s.toks+[(S "self",Value.ref m)].length) (by decide +kernel) R.t (.one (.stat _)) (by decide +kernel) (fun y b hm=>by cases hm) hns kp;refine al RK.f.ns fun ml q5 zl=>?_;obtain ⟨oL,es,ep,hL,rl⟩:=q5;have fL:=R.fresh;have szL:s.heap.objs.size<h'.objs.size:=Heap.lt_size hL
 let gO:Obj:={cls:=.type "generator",data:=.fields #[.int s.gens.size 0,.str ar.name (s.toks+1),.str ar.qualname (s.toks+1+1)]}
 have Rp:=(R.keeps (s':={s with heap:=h'.push gO,toks:=s.toks+1+1+1}) fun b o e=>Hp _ (kp b o e)).pushGen (gs:=.fresh (.func (aB ar) (callEnvC ar s.heap.objs.size 541))) rfl;have hgO:(h'.push gO).get? h'.objs.size=some gO:=Hs _ rfl;have wa:nv c H O h'.objs.size:=R.beyond (Nat.le_of_lt szL)
 have hgs:c.x.gens s.gens.size=.none:=by
  cases q:c.x.gens s.gens.size with
  |none=>rfl
  |some st =>
   obtain ⟨hl,_⟩:=Array.getElem?_eq_some_iff.mp (R.t.gens _ _ q);exact absurd hl (Nat.lt_irrefl _)
 have Rf:=Rp.fix wa hgO
 have hPL:(c.x.fix h'.objs.size gO).P s.heap.objs.size=.none:=by
  refine (?_:(if s.heap.objs.size=h'.objs.size then _ else _)=_);rw [if_neg (Nat.ne_of_lt szL)];exact fL.p
 have hgg:(s.gens.push (GenState.fresh (.func (aB ar) (callEnvC ar s.heap.objs.size 541))))[s.gens.size]? = some (.fresh (.func (aB ar) (callEnvC ar s.heap.objs.size 541))):=by simp
 have Rg:=ag.genUp (c:=c.fix h'.objs.size gO) (L:=s.heap.objs.size) (oL:=oL) Rf (Hp _ hL) fL.h fL.o hPL fL.l hce (gs:=.fresh (.func (aB ar) (callEnvC ar s.heap.objs.size 541))) rfl hgg hgs;refine ⟨_,rfl,⟨_,hgO,rfl⟩,h _ h'.objs.size s.heap.objs.size s.gens.size oL (c.x.fix h'.objs.size gO) ⟨b.le (Cx.fix_le wa.p),Cx.fix_le wa.p,hce,rfl,rfl,r.hh,by have:=r.dp;lia,⟨gO,_,_,Cx.fix_here,rfl,rfl,rfl⟩,hPL,hgs⟩ rfl (fun h e=>?_) ?_⟩
 ·refine Pl.only (h:=h') RK.f rfl (e.trans ?_);exact hL.symm
 ·have e:=u9 (s:={s with heap:=h'.push gO,toks:=s.toks+1+1+1,gens:=s.gens.push (GenState.fresh (.func (aB ar) (callEnvC ar s.heap.objs.size 541)))}) hgg;rw [e] at Rg;exact Rg
section
noncomputable def xz:Flow→Sem PySem.Fin:=fun f=>.pure (.done (.ret (match f with|.ret v=>v|_=>.none)))
theorem GY (h:∀ Hx,GX c A₀ Rr Z (.func body c.env) [] ((execs body c.env).wrap xz Hx id id) loc O) (R:ag c H loc O s):fu c.M A₀ Rr Z (.func body c.env) (c.M.den (.func body c.env)) [] s:=by
 refine (?_:fu _ A₀ Rr Z _ (.point [] fun _=>((execs body c.env).onRaise (leaving c.env))>>=_) [] s);refine fG (m:=point) (K:=fun _=>_) (H:=.raise) (gd:=id) (lv:=fun _=>[]) (wpAny_point ?_);rw [Sem.onRaise_eq_wrap,Sem.bind_eq_wrap',Sem.wrap_wrap];rw [Sem.wrap_congr (execs body c.env) _ _ (K':=xz) (H':=fun e=>(leaving c.env e).wrap (fun _=>.raise e) .raise id id) (fun f=>by cases f<;>rfl) (fun e=>by rw [Sem.bind_eq_wrap,Sem.wrap_wrap];rfl)];exact h _ H s R
theorem DJ {code:Code} (h:∀ H s,ag c H loc O s→Rr (.ok (.ret .none)) s):GX c A₀ Rr Z code [] (xz .next) loc O:=fun H s R=>Cb (.ok (.ret .none)) (h H s R)
theorem pM (r:Rm A₀ (n+1)):Rm (A₀.over (.func body env) []) n:=⟨r.hh,by
 have:=r.dp;refine (?_:A₀.depth+frameCount []+(Code.func body env).weight+n<_);have e:(Code.func body env).weight=1:=rfl;rw [e];simp [frameCount];lia⟩
theorem vf {t:PySem.Expr} {K Hx gd lv p} (r:Rm A₀ (n+1)):Rm (A₀.over (.forLoop t it body orelse env) [fO env' K Hx gd lv (.func B env) p]) n:=⟨by
 refine (?_:(marksOver [fO env' K Hx gd lv (.func B env) p] (A₀.handled,A₀.handled)).1=_);rw [r.hh];rfl,by
 have:=r.dp;refine (?_:A₀.depth+frameCount [(Code.func B env,p)]+(Code.forLoop t it body orelse env).weight+n<_);have e:(Code.func B env).weight=1:=rfl;have e':(Code.forLoop t it body orelse env).weight=0:=rfl;rw [e',frameCount_cons,e];simp [frameCount];lia⟩
theorem tA {one off ts tt key val crc cb} (b:ah x) (r:Rm A 2):bI x A (fun vs=>call (.ref 649) vs) [.int (mg one),.int off,oI ts,oI tt,pD key,pD val,.int crc,.bytes cb] O (kB 649 (mW one off ts tt key val crc cb) O) E :=
 au.call (fV b fun A' rx rdx k=>(wt b (k.rm r (by lia))).mono fun d O' h=>⟨h.1,rx,rdx,rfl,h.2⟩)
section
variable {T:Own} {one:Bool} {off len:Int}
theorem kM (a b:Addr×SO) (F:Own):(a::b::(F++T)).Perm (F++a::b::T):=List.perm_append_comm_assoc [a,b] F T
theorem pR {C:Addr} {fs:List (Str×D)} {ys:List Rec} {code:Code} {frs:List Frame} {t:Sem PySem.Fin} {own:Own} {rx rdx:Addr} (le:x₀.le x) (P:eX x₀ A₀ env ((C,fs)::ys) x T Rr Z)
  (R:ag ⟨x,A,env,true⟩ H loc (own++(rx,SO.inst C rdx)::(rdx,SO.attrs fs)::T) s) {gs:GenState} (hb:gs.bare=true) (go:∀ (A:Around) (Rr':Result→Shared→Prop) Z' s',fu (model x.prog x.w) A Rr' Z' code t frs s'→nY (model x.prog x.w) A Rr' Z' gs (.send .none) s')
  (next:∀ x' T' Rr' Z',x₀.le x'→eX x₀ A₀ env ys x' T' Rr' Z'→GX ⟨x',A,env,true⟩ A₀ Rr' Z' code frs t loc (own++T')):Z (.ref rx) s gs:=by
 refine P H s gs loc rx rdx own ⟨R.t,R.f,R.o⟩ hb fun x' T' s2 le' hB R' Rr' Z' P'=>?_;have e:model x'.prog x'.w=model x.prog x.w:=by rw [le'.1.1,le.1.1]
 rw [e];refine go A₀ Rr' Z' s2 ?_;rw [← e];exact next x' T' Rr' Z' le' P' _ s2 ⟨R'.t,R'.f,R'.o⟩
theorem A1 {key val:Option (List UInt8)} (b:ah x) (le0:x₀.le x) (r:Rm A₀ 4) (hl:l.length≤16777216) (ha:Builtin.bitAnd att 7=0) (h12:12≤l.length) (fk:bS l (hN one) key) (fv:bS l (hN one+4+aK key) val)
  (P:eX x₀ A₀ (callEnvC ar L 541) [(649,mW one off ts (ttI one att) key val crc ((l.drop (0+16)).take (l.length-12-4)))] x T Rr Z) (Hx:Value→Sem PySem.Fin) :
  GX ⟨x,A₀.over (.func (aB ar) (callEnvC ar L 541)) [],callEnvC ar L 541,true⟩ A₀ Rr Z (.func (aB ar) (callEnvC ar L 541)) [] ((execs (aB ar) (callEnvC ar L 541)).wrap xz Hx id id)
   [(S "self",.stat (.ref m))] ((m,SO.inst 544 dm)::(dm,SO.attrs (bk l one off len crc ts att false))::T):=by
 have r':Rm (A₀.over (.func (aB ar) (callEnvC ar L 541)) []) 3:=pM r;obtain ⟨O,hO⟩:∃ O,O=(m,SO.inst 544 dm)::(dm,SO.attrs (bk l one off len crc ts att false))::T:=⟨_,rfl⟩;rw [← hO];have m1:(m,SO.inst 544 dm)∈O:=hO▸.head _;have m2:(dm,SO.attrs (bk l one off len crc ts att false))∈O:=hO▸.tail _ (.head _);have m2':=m2;unfold bk at m2'
 have tail:∀ loc,lk loc (S "self")=some (.stat (.ref m))→lk loc (S "key_offset")=some (.int (hN one:Nat))→GX ⟨x,A₀.over (.func (aB ar) (callEnvC ar L 541)) [],callEnvC ar L 541,true⟩ A₀ Rr Z (.func (aB ar) (callEnvC ar L 541)) [] ((execs ((aB ar).drop 1) (callEnvC ar L 541)).wrap xz Hx id id)
   loc O:=fun loc g0 g1=>by
  refine bW (cZ rfl ?_);k_extra"MX";refine aW b m1 m2 mX (fun x' le=>wu (b.le le) (r'.le (by decide)).in1 m1 m2) ?_;k_extra"MX";refine ⟨rfl,?_⟩;refine bW (Ji rfl ?_);k_extra"MX";refine aW b m1 m2 rfl (fun x' le=>g8 (b.le le) (r'.le (by decide)).in1 m1 m2) ?_;rw [ha];k_extra"MX";refine aT (by simp) ?_;refine bW (cZ rfl ?_);k_extra"MX";refine bH (fun x' le=>(Jy (b.le le) (r'.le (by decide)) m1 m2 hl fk fv).call) ?_;k_extra"MX";refine ⟨rfl,?_⟩;refine bW (cZ rfl ?_);k_extra"MX";refine bJ (by lia) ?_;k_extra"MX";rw [(by lia:((l.length:Int)-12)=((l.length-12:Nat):Int))];refine bH (fun x' le=>(EJ (p:=0) (l:=l) (one:=one) (b.le le) (r'.le (by decide)) m1 m2 hl).call) ?_;k_extra"MX";refine ⟨rfl,?_⟩;refine bW (vZ rfl rfl rfl rfl rfl rfl ?_);k_extra"MX";refine cK fun x' le=>bI.mono (tA (b.le le) (r'.le (by decide))) fun d O' h=>?_;obtain ⟨rx,rdx,rfl,rfl⟩:=h;intro H s v R rd gs hb go
  cases rd using ac.cStat
  subst hO;refine pR (x₀:=x₀) (own:=[(m,SO.inst 544 dm),(dm,SO.attrs (bk l one off len crc ts att false))]) le0 P (R.perm (kM _ _ [_,_])) hb go fun x' T' Rr' Z' le' P'=>?_;refine qt ?_;refine qt ?_;exact DJ fun H s R=>P' H s _ _ ⟨R.t,R.f,R.o⟩
 refine bW (cZ rfl ?_);k_extra"MX"
 cases one with
 |false =>
  refine aT rfl ?_;k_extra"MX";exact ⟨rfl,tail _ (by k_extra"L") bv⟩
 |true =>
  refine bw rfl ?_;k_extra"MX";exact ⟨rfl,tail _ (by k_extra"L") bv⟩
end
end
section
structure hV where
 p:Nat
 n:Nat
 key:Option (List UInt8)
 val:Option (List UInt8)
structure tG (one:Bool) (l:List UInt8) (i:hV):Prop where
 len:hv l i.p 1=(i.n:Nat)
 att:Builtin.bitAnd (hv l i.p 4) 7=0
 fk:bS l (i.p+hN one) i.key
 fv:bS l (i.p+hN one+4+aK i.key) i.val
noncomputable def u5 (one:Bool) (l:List UInt8) (abs:Int) (ts tt:Option Int) (i:hV):Rec :=
 (649,mW one (if 0≤abs then hv l i.p 0+abs else hv l i.p 0) (if tt=some 1 then ts else hts one l i.p) tt i.key i.val (hv l i.p 2) ((l.drop (i.p+16)).take (i.n-4)))
noncomputable def xq (one:Bool) (l:List UInt8) (p:Nat):D:=.tup [xJ one l p,.int p]
noncomputable def HS:PySem.Stmt:=match ((aB ar)[2]?:Option PySem.Stmt) with
 |some (PySem.Stmt.If _ b _ _)=>(b[3]?).getD (.Pass default)
 |_=>.Pass default
noncomputable def kE:PySem.Expr:=match HS with|.For t _ _ _ _=>t|_=>.Constant .none 0 default
noncomputable def tQ:List PySem.Stmt:=match HS with|.For _ _ b _ _=>b|_=>[]
theorem CG {K:D→Own→Prop} {o:Option Int} {j:Int} (h:K (.bool (o==some j)) O):Op c (fun vs=>compareOp .Eq (vs.headD .none) (vs.tail.headD .none)) [oI o,.int j] loc O K E:=by
 cases o with
 |some i=>exact LT h
 |none =>
  intro H s Q vs R rs q;refine ay rs fun v u r1 r2=>?_
  cases r1 using ac.cNone;cases r2 using ac.cInt
  exact EqNone.eq_none_int (q _ _ _ _ _ h R (Pr _) (.bool false))
section
variable {one:Bool} {off len:Int}
noncomputable def B6 (A₀:Around) (L it:Addr) (K:Flow→Sem PySem.Fin) (Hx:Value→Sem PySem.Fin) (gd:Bool→Bool) (lv:List Value→List Value) (p:Pos) (x:Cx):Cc :=
 ⟨x,A₀.over (.forLoop kE (.ref it) tQ [] (callEnvC ar L 541)) [fO (callEnvC ar L 541) K Hx gd lv (.func (aB ar) (callEnvC ar L 541)) p],callEnvC ar L 541,true⟩
noncomputable abbrev LA (one:Bool) (att abs:Int) (m:Addr):Loc:=[(S "self",.stat (.ref m)),(S "key_offset",.int (hN one:Nat)),(S "timestamp_type",oI (ttI one att)),(S "absolute_base_offset",.int abs)]
noncomputable abbrev LC (one:Bool) (att abs off:Int) (ts:Option Int) (m:Addr) (l:List UInt8) (i:hV):Loc:=(S "timestamp",oI (if ttI one att=some 1 then ts else hts one l i.p))::(S "length",.int (i.n:Nat))::(S "offset",.int off)::(S "msg_pos",.int (i.p:Nat))::(S "crc",.int (hv l i.p 2))::LA one att abs m
theorem A0 {K:Flow→Sem PySem.Fin} {Hx:Value→Sem PySem.Fin} {gd:Bool→Bool} {lv:List Value→List Value} {p:Pos} {it la:Addr} {abs:Int} (hgd:gd false=false) (bO:ah x₀) (hl:l.length≤16777216) (r:Rm A₀ 4)
  (hK:∀ x' T' Rr' Z' loc',eX x₀ A₀ (callEnvC ar L 541) [] x' T' Rr' Z'→GX (B6 A₀ L it K Hx gd lv p x') A₀ Rr' Z' (.func (aB ar) (callEnvC ar L 541)) [] (K .next) loc' ((m,SO.inst 544 dm)::(dm,SO.attrs (bk l one off len crc ts att true))::T'))
  (todo:List hV):∀ (k:Nat) (x:Cx) (T:Own) Rr Z (loc:Loc),x₀.le x→ds.drop k=todo.map (fun i=>xq one l i.p)→(∀ i∈todo,tG one l i) →
   lk loc (S "self")=some (.stat (.ref m))→lk loc (S "key_offset")=some (.int (hN one:Nat))→lk loc (S "timestamp_type")=some (oI (ttI one att))→lk loc (S "absolute_base_offset")=some (.int abs) →
   eX x₀ A₀ (callEnvC ar L 541) (todo.map (u5 one l abs ts (ttI one att))) x T Rr Z →
   GX (B6 A₀ L it K Hx gd lv p x) A₀ Rr Z (.forLoop kE (.ref it) tQ [] (callEnvC ar L 541)) [fO (callEnvC ar L 541) K Hx gd lv (.func (aB ar) (callEnvC ar L 541)) p]
    ((model x.prog x.w).den (.forLoop kE (.ref it) tQ [] (callEnvC ar L 541))) loc ((it,gX la ds k)::(m,SO.inst 544 dm)::(dm,SO.attrs (bk l one off len crc ts att true))::T):=by
 induction todo with
 |nil =>
  intro k x T Rr Z loc le0 hd hin g0 g1 g2 g3 P;refine GW (c:=B6 A₀ L it K Hx gd lv p x) rfl (by refine (?_:(A₀.over _ _).handled=_);exact (vf (n:=3) r).hh) ?_ ?_
  ·rw [List.getElem?_eq_none_iff];exact List.drop_eq_nil_iff.mp hd
  ·exact hK x T Rr Z loc P
 |cons i todo ih =>
  intro k x T Rr Z loc le0 hd hin g0 g1 g2 g3 P;have b:=bO.le le0;have im:=hin i (.head _)
  have hd0:ds[k]? = some (xq one l i.p):=by
   have:=Cg (·[0]?) hd
   simpa using this
  have hd1:ds.drop (k+1)=todo.map (fun i=>xq one l i.p):=by
   rw [← List.drop_drop,hd];rfl
  have r':Rm (A₀.over (.forLoop kE (.ref it) tQ [] (callEnvC ar L 541)) [fO (callEnvC ar L 541) K Hx gd lv (.func (aB ar) (callEnvC ar L 541)) p]) 3:=vf r;have X:Ext (LA one att abs m) loc:=.cons g0 (.cons g1 (.cons g2 (.cons g3 .nil)));refine GV (c:=B6 A₀ L it K Hx gd lv p x) rfl hd0 rfl .head ?_;refine y9 ((it,gX la ds (k+1))::(m,SO.inst 544 dm)::(dm,SO.attrs (bk l one off len crc ts att true))::T) fun O hO=>?_;rw [← hO];have m1:(m,SO.inst 544 dm)∈O:=hO▸.tail _ (.head _);have m2:(dm,SO.attrs (bk l one off len crc ts att true))∈O:=hO▸.tail _ (.tail _ (.head _));have m2':=m2;unfold bk at m2';unfold B6 xq xJ;refine JJ r'.hh ?_;k_extra"MX";intro Hx';refine bW (cZ rfl ?_);k_extra"MX";refine ⟨rfl,bW (cZ rfl ?_)⟩;k_extra"MX";rw [im.att];refine ⟨rfl,rfl,bW (cZ rfl (g6 (O':=O) (Ext (LC one att abs (hv l i.p 0) ts m l i)) ?_ fun l1 Y=>⟨rfl,bW (cZ rfl (g6 (O':=O) (Ext (LC one att abs (if 0≤abs then hv l i.p 0+abs else hv l i.p 0) ts m l i)) ?_ fun l2 W=>⟨rfl,bW (cZ rfl ?_)⟩))⟩))⟩
  ·k_extra"MX";refine CG ?_;k_extra"MX";refine gA ?_ ?_<;>intro h
   ·k_extra"MX";exact ⟨rfl,.cons (by rw [if_pos (by simpa using h)];k_extra"L") (.cons (by rw [← im.len];k_extra"L") (by k_extra"EX")),rfl⟩
   ·k_extra"MX";exact ⟨rfl,.cons (by rw [if_neg (by simpa using h)];k_extra"L") (.cons (by rw [← im.len];k_extra"L") (by k_extra"EX")),rfl⟩
  ·k_extra"MX";refine jM ?_ ?_<;>intro h
   ·k_extra"MX";refine e7 (r:=if 0≤abs then hv l i.p 0+abs else hv l i.p 0) (if_pos h).symm ?_;k_extra"MX";exact ⟨rfl,by k_extra"EX",rfl⟩
   ·k_extra"MX";exact ⟨rfl,.cons (by k_extra"L") (.cons (by k_extra"L") (.cons (by rw [if_neg h];k_extra"L") (by k_extra"EX"))),rfl⟩
  ·k_extra"MX";rw [(rfl:((i.p:Int)+(hN one:Nat))=((i.p+hN one:Nat):Int))];refine bH (fun x' le=>(Jy (b.le le) (r'.le (by decide)) m1 m2 hl im.fk im.fv).call) ?_;k_extra"MX";refine ⟨rfl,bW (cZ rfl ?_)⟩;k_extra"MX";refine bH (fun x' le=>(EJ (b.le le) (r'.le (by decide)) m1 m2 hl).call) ?_;k_extra"MX";refine ⟨rfl,bW (vZ rfl rfl rfl ?_ rfl rfl ?_)⟩
   ·refine (?_:([fO _ _ _ _ _ _ _].any Frame.guarded)=false);simp [fO,Frame.guarded,hgd]
   k_extra"MX";refine cK fun x' le=>bI.mono (tA (b.le le) (r'.le (by decide))) fun d O' h=>?_;obtain ⟨rx,rdx,rfl,rfl⟩:=h;intro H s v R rd gs hb go
   cases rd using ac.cStat
   subst hO;refine pR (x₀:=x₀) (own:=[(it,gX la ds (k+1)),(m,SO.inst 544 dm),(dm,SO.attrs (bk l one off len crc ts att true))]) le0 P (R.perm (kM _ _ [_,_,_])) hb go fun x' T' Rr' Z' le' P'=>?_;refine qt ?_;intro H s R;refine pK rfl (ih (k+1) x' T' Rr' Z' _ le' hd1 (fun j hj=>hin j (.tail _ hj)) ?_ ?_ ?_ ?_ P' H s R)<;>k_extra"L"
end
end
section
noncomputable def LD:List PySem.Stmt:=match ((aB ar)[2]?:Option PySem.Stmt) with
 |some (PySem.Stmt.If _ b _ _)=>b
 |_=>[]
noncomputable def js (one:Bool) (off:Int) (l:List UInt8) (j:hV):Int:=match one with|true=>off-hv l j.p 0|false=>-1
theorem AR {is:List hV} (h:is.getLast? = some j):0<is.length∧(j0 one l (is.map (·.p)))[((-1:Int)+((j0 one l (is.map (·.p))).length:Nat)).toNat]? = some (xq one l j.p):=by
 rw [List.getLast?_eq_getElem?] at h;obtain ⟨hl,e⟩:=List.getElem?_eq_some_iff.mp h;refine ⟨Nat.zero_lt_of_lt hl,?_⟩;unfold j0;rw [List.length_map,List.length_map,show ((-1:Int)+(is.length:Nat)).toNat=is.length-1 from (congrArg Int.toNat (Int.add_comm (-1) is.length)).trans (Int.toNat_sub is.length 1),List.getElem?_map,List.getElem?_map,h]
 rfl
section
variable {T:Own} {one:Bool} {off len:Int}
noncomputable def Fn (A₀:Around) (L:Addr) (x:Cx):Cc:=⟨x,A₀.over (.func (aB ar) (callEnvC ar L 541)) [],callEnvC ar L 541,true⟩
theorem xM {K:Flow→Sem PySem.Fin} {Hx:Value→Sem PySem.Fin} {is:List hV} {j:hV} (b:ah x) (bO:ah x₀) (le0:x₀.le x) (r:Rm A₀ 4) (hl:l.length≤16777216) (hj:is.getLast? = some j) (hm:pg one l 0 (is.map (·.p))) (hz:is.length≤1000) (hin:∀ i∈is,tG one l i)
  (hK:∀ x' T' Rr' Z' loc',eX x₀ A₀ (callEnvC ar L 541) [] x' T' Rr' Z'→GX (Fn A₀ L x') A₀ Rr' Z' (.func (aB ar) (callEnvC ar L 541)) [] (K .next) loc' ((m,SO.inst 544 dm)::(dm,SO.attrs (bk l one off len crc ts att true))::T'))
  (P:eX x₀ A₀ (callEnvC ar L 541) (is.map (u5 one l (js one off l j) ts (ttI one att))) x T Rr Z) (g0:lk loc (S "self")=some (.stat (.ref m))) (g1:lk loc (S "key_offset")=some (.int (hN one:Nat))) (g2:lk loc (S "timestamp_type")=some (oI (ttI one att))) :
  GX (Fn A₀ L x) A₀ Rr Z (.func (aB ar) (callEnvC ar L 541)) [] ((execs (LD.drop 1) (callEnvC ar L 541)).wrap K Hx id id) loc ((m,SO.inst 544 dm)::(dm,SO.attrs (bk l one off len crc ts att true))::T):=by
 have r':Rm (A₀.over (.func (aB ar) (callEnvC ar L 541)) []) 3:=pM r;obtain ⟨O,hO⟩:∃ O,O=(m,SO.inst 544 dm)::(dm,SO.attrs (bk l one off len crc ts att true))::T:=⟨_,rfl⟩;rw [← hO];have m1:(m,SO.inst 544 dm)∈O:=hO▸.head _;have m2:(dm,SO.attrs (bk l one off len crc ts att true))∈O:=hO▸.tail _ (.head _);have m2':=m2;unfold bk at m2';unfold Fn;refine bW (cZ rfl ?_);k_extra"MX";refine bH (fun x' le=>(Nk (b.le le) (r'.le (by decide)) m1 m2 hl hm (by rw [List.length_map];exact hz)).call) ?_;k_extra"MX";refine ⟨rfl,bW (cZ rfl ?_)⟩
 have loop:∀ loc,lk loc (S "self")=some (.stat (.ref m))→lk loc (S "key_offset")=some (.int (hN one:Nat))→lk loc (S "timestamp_type")=some (oI (ttI one att))→lk loc (S "headers")=some (.lst (j0 one l (is.map (·.p))))→lk loc (S "absolute_base_offset")=some (.int (js one off l j)) →
   GX (Fn A₀ L x) A₀ Rr Z (.func (aB ar) (callEnvC ar L 541)) [] ((execs (LD.drop 3) (callEnvC ar L 541)).wrap K Hx id id) loc O:=fun loc f0 f1 f2 f3 f4=>by
  refine bW (KD rfl rfl ?_);skip;k_extra"MX";refine ⟨_,rfl,fun it la p'=>?_⟩;subst hO;refine A0 (abs:=js one off l j) rfl bO hl r (fun x' T' Rr' Z' loc' P'=>?_) is 0 x T Rr Z loc le0 ?_ hin f0 f1 f2 f4 P
  ·intro H s R;exact qt (hK x' T' Rr' Z' loc' P') H s ⟨R.t,R.f,R.o⟩
  ·unfold j0 xq;rw [List.map_map];rfl
 k_extra"MX";obtain ⟨hp,hlast⟩:=AR (one:=one) (l:=l) hj
 cases one with
 |false =>
  refine aT rfl ?_;k_extra"MX";exact ⟨rfl,loop _ (by k_extra"L") (by k_extra"L") (by k_extra"L") (by k_extra"L") bv⟩
 |true =>
  refine bw rfl ?_;k_extra"MX";refine pX (fun _ _=>⟨_,rfl⟩) (by decide) (by unfold j0;rw [List.length_map,List.length_map];lia) (by decide) hlast ?_;unfold xq xJ;k_extra"MX";refine bP (fun _ _=>⟨_,rfl⟩) (by decide) (by decide) rfl ?_;k_extra"MX";exact ⟨rfl,loop _ (by k_extra"L") (by k_extra"L") (by k_extra"L") (by k_extra"L") bv⟩
theorem uh {wkey:Option (List UInt8)} {v:List UInt8} {is:List hV} {j:hV} (b:ah x) (bO:ah x₀) (le0:x₀.le x) (r:Rm A₀ 6) (hl:l.length≤1000000) (ha:Builtin.bitAnd att 7=1) (fk:bS l (hN one) wkey) (fv:bS l (hN one+4+aK wkey) (some v))
  (hu:(df v).length≤16777216) (hj:is.getLast? = some j) (hm:pg one (df v) 0 (is.map (·.p))) (hz:is.length≤1000) (hin:∀ i∈is,tG one (df v) i)
  (P:eX x₀ A₀ (callEnvC ar L 541) (is.map (u5 one (df v) (js one off (df v) j) ts (ttI one att))) x T Rr Z) (Hx:Value→Sem PySem.Fin) :
  GX ⟨x,A₀.over (.func (aB ar) (callEnvC ar L 541)) [],callEnvC ar L 541,true⟩ A₀ Rr Z (.func (aB ar) (callEnvC ar L 541)) [] ((execs (aB ar) (callEnvC ar L 541)).wrap xz Hx id id)
   [(S "self",.stat (.ref m))] ((m,SO.inst 544 dm)::(dm,SO.attrs (bk l one off len crc ts att false))::T):=by
 have r':Rm (A₀.over (.func (aB ar) (callEnvC ar L 541)) []) 5:=pM r
 have tail:∀ loc,lk loc (S "self")=some (.stat (.ref m))→lk loc (S "key_offset")=some (.int (hN one:Nat))→GX ⟨x,A₀.over (.func (aB ar) (callEnvC ar L 541)) [],callEnvC ar L 541,true⟩ A₀ Rr Z (.func (aB ar) (callEnvC ar L 541)) [] ((execs ((aB ar).drop 1) (callEnvC ar L 541)).wrap xz Hx id id)
   loc ((m,SO.inst 544 dm)::(dm,SO.attrs (bk l one off len crc ts att false))::T):=fun loc g0 g1=>by
  have m1:(m,SO.inst 544 dm)∈(m,SO.inst 544 dm)::(dm,SO.attrs (bk l one off len crc ts att false))::T:=.head _;have m2:(dm,SO.attrs (bk l one off len crc ts att false))∈(m,SO.inst 544 dm)::(dm,SO.attrs (bk l one off len crc ts att false))::T:=.tail _ (.head _);refine bW (cZ rfl ?_);unfold bk;k_extra"MX";refine aW b m1 m2 mX (fun x' le=>wu (b.le le) (r'.le (by decide)).in1 m1 m2) ?_;k_extra"MX";refine ⟨rfl,?_⟩;refine bW (Ji rfl ?_);k_extra"MX";refine aW b m1 m2 rfl (fun x' le=>g8 (b.le le) (r'.le (by decide)).in1 m1 m2) ?_;rw [ha];k_extra"MX";refine bw (by simp) ?_;refine bW (cZ rfl ?_);k_extra"MX";refine bw rfl ?_;k_extra"MX";refine bH (fun x' le=>(Nq (b.le le) (r'.le (by decide)) m1 m2 hl fk fv ha hu).call) ?_;k_extra"MX";refine ⟨rfl,?_⟩;refine xM b bO le0 (r.le (by decide)) hu hj hm hz hin (fun x' T' Rr' Z' loc' P'=>?_) P (by k_extra"L") (by k_extra"L") bv;refine qt ?_;exact DJ fun H s R=>P' H s _ [_,_] ⟨R.t,R.f,R.o⟩
 have m1:(m,SO.inst 544 dm)∈(m,SO.inst 544 dm)::(dm,SO.attrs (bk l one off len crc ts att false))::T:=.head _;refine bW (cZ rfl ?_);skip;k_extra"MX"
 cases one with
 |false =>
  refine aT rfl ?_;k_extra"MX";exact ⟨rfl,tail _ (by k_extra"L") bv⟩
 |true =>
  refine bw rfl ?_;k_extra"MX";exact ⟨rfl,tail _ (by k_extra"L") bv⟩
end
end
section
def EZ (b:Bool) (c:Cc) (target:PySem.Expr) (m:Addr) (own:Own) (ys:List Rec):Prop:=∀ loc T H s Q E,ag c H loc (own++T) s →
 (∀ H' s' w x' own',c.x.le x'→ag (c.at x') H' loc (own'++T) s'→H≤H'→wM b c target w ys x' own'→Q w s')→wpB b c.M c.A (pyIter (.ref m)) Q E s
inductive jz (one:Bool) (l:List UInt8) (off crc:Int) (ts:Option Int) (att:Int):List Rec→Prop
 |plain {key val}:Builtin.bitAnd att 7=0→bS l (hN one) key→bS l (hN one+4+aK key) val →
   jz one l off crc ts att [(649,mW one off ts (ttI one att) key val crc ((l.drop (0+16)).take (l.length-12-4)))]
 |squeezed {wkey v} {is:List hV} {j:hV}:Builtin.bitAnd att 7=1→bS l (hN one) wkey→bS l (hN one+4+aK wkey) (some v)→(df v).length≤16777216→is.getLast? = some j→pg one (df v) 0 (is.map (·.p))→is.length≤1000→(∀ i∈is,tG one (df v) i) →
   jz one l off crc ts att (is.map (u5 one (df v) (js one off (df v) j) ts (ttI one att)))
section
variable {py:Pos}
theorem Gr {l one off len crc ts att ys} (bO:ah x₀) (r:Rm A₀ 6) (hl:l.length≤1000000) (h12:12≤l.length) (g:jz one l off crc ts att ys) :
  E0 x₀ A₀ (callEnvC ar L 541) ys (.fresh (.func (aB ar) (callEnvC ar L 541))) H [(S "self",.stat (.ref m))] [(m,SO.inst 544 dm),(dm,SO.attrs (bk l one off len crc ts att false))]:=fun x T s le hB RF Rr Z P=>by
 refine ⟨rfl,?_⟩;refine GY (c:=⟨x,A₀.over (.func (aB ar) (callEnvC ar L 541)) [],callEnvC ar L 541,true⟩) (fun Hx=>?_) ⟨RF.t,RF.f,RF.o⟩
 cases g with
 |plain ha fk fv=>exact A1 (bO.le le) le (r.le (by decide)) (by lia) ha h12 fk fv P Hx
 |squeezed ha fk fv hu hj hm hz hin=>exact uh (bO.le le) bO le r hl ha fk fv hu hj hm hz hin P Hx
theorem AU {l one off len crc ts att ys} (bx:ah c.x) (r:Rm c.A 7) (hce:c.env.cells=[]) (hl:l.length≤1000000) (h12:12≤l.length) (g:jz one l off crc ts att ys) :
  EZ b c (.Name y py) m [(m,SO.inst 544 dm),(dm,SO.attrs (bk l one off len crc ts att false))] ys:=fun loc T H s Q E R q=>by
 refine dg (Dw bx (r.le (by decide)) hce (.head _) (.tail _ (.head _)) R fun s' a L g' oL x₀ F eB hF R'=>?_);have hB:x₀.B≤H:=by rw [eB];exact R.t.hB
 have z:=Gr (m:=m) (dm:=dm) (len:=len) (x₀:=x₀) (A₀:=c.A.in1) (L:=L) (H:=H) F.base (r.in1.le (by lia)) hl h12 g;exact q H s' _ _ _ (F.le.trans (qu F.PL F.gs hB)) R' (Pr _) (rO F ys _ oL H _ _ hB hF z)
end
structure dS where
 (ts off:Int) (key val:Option (List UInt8)) (hs:jA)
structure mB where
 (hd:List Int) (num base att first mx:Int)
noncomputable def mB.rd (B:mB) (buf:List UInt8) (pos:Nat) (idx:Int) (r:dS):cV:=⟨buf,B.hd,pos,B.num,idx,B.base,B.att,B.first,B.mx,r.ts,r.off,r.key,r.val,r.hs⟩
noncomputable def dS.lay (r:dS):List Int:=aR (eE r.ts r.off r.key r.val r.hs).length++eE r.ts r.off r.key r.val r.hs
noncomputable def m9 (k:Option (List UInt8)):Int:=(dh fHH (k.getD []) 0).getD 0 0
noncomputable def nQ (k:Option (List UInt8)):Int:=(dh fHH (k.getD []) 0).getD 1 0
noncomputable def cV.made (i:cV):Rec:=if Builtin.bitAnd i.att 32 != 0 then (1227,i.ctl (i.key.getD []) (m9 i.key) (nQ i.key)) else (1166,i.fs)
theorem JI:dh fHH k 0=[(dh fHH k 0).getD 0 0,(dh fHH k 0).getD 1 0]:=rfl
structure wL (B:mB) (r:dS):Prop where
 t0:-2^62≤r.ts
 t1:r.ts<2^62
 o0:-2^62≤r.off
 o1:r.off<2^62
 hz:r.hs.length≤1000
 ctl:(Builtin.bitAnd B.att 32 != 0)=true→∃ k,r.key=some k∧k.length=4
structure JE (B:mB) (buf:List UInt8):Prop where
 hl:buf.length≤16777216
 h0:B.hd[0]? = some B.base
 h5:B.hd[5]? = some B.att
 h7:B.hd[7]? = some B.first
 h8:B.hd[8]? = some B.mx
noncomputable def pr (B:mB) (buf:List UInt8):Nat→Int→List dS→List Rec
 |_,_,[]=>[]
 |pos,idx,r::rs=>(B.rd buf pos idx r).made::pr B buf (pos+r.lay.length) (idx+1) rs
section
variable {py:Pos}
theorem au.permK {x A f ds E} {K:D→Own→Prop} (h:au x A f ds O K E) (k:∀ d O',K d O'→∃ O'',O'.Perm O''∧K' d O''):au x A f ds O K' E:=fun H s Q vs R rs q qe=>h H s Q vs R rs (fun H' s' v d O' z R' le rd=>by
 refine al (k d O' z) fun O'' p z'=>?_;exact q H' s' v d O'' z' (R'.perm p) le rd) qe
theorem rP {B:mB} (bx:ah c.x) (up:cF c) (r:Rm c.A 6) (bo:JE B buf):∀ (rs:List dS) (pos:Nat) (idx:Int),(∀ r∈rs,wL B r)→aq buf pos (rs.flatMap dS.lay)→pos+(rs.flatMap dS.lay).length=buf.length→B.num=idx+rs.length →
  wM true c (.Name y py) (.ref m) (pr B buf pos idx rs) c.x [(m,SO.inst 1069 dm),(dm,SO.attrs (cj buf B.hd pos B.num idx true))]
 |[],pos,idx,ok,la,hp,hn=>fun loc T=>by
  have e:pos=buf.length:=by simpa using hp
  subst e;refine NxB.g (x:=c.x) (Cx.le_refl _) (xp (KO:=fun od O'=>od=.none∧O'=[(m,SO.inst 1069 dm),(dm,SO.attrs (cj buf B.hd (buf.length:Nat) B.num idx true))]++T) bx up (.head _) (.tail _ (.head _)) fun x' le fr=>?_) fun od O' h=>⟨h.1,_,h.2⟩;have hn':B.num≤idx:=by rw [hn];simp
  refine au.N ?_;intro H s Q vs R rs q qe;exact Bt (bx.le le) (r.le (by decide)) fr (.head _) (.tail _ (.head _)) bo.hl hn' H s Q vs R rs (fun _ _ _ _ _ z=>z.elim) fun e s z=>qe e s ⟨_,⟨rfl,rfl⟩,z⟩
 |rd::rs,pos,idx,ok,la,hp,hn=>fun loc T=>by
  have ok0:=ok rd (.head _);rw [List.flatMap_cons] at la hp;rw [List.length_append] at hp;have la0:=la.left;have la1:=la.right
  have hlay:(B.rd buf pos idx rd).endp=pos+rd.lay.length:=by
   refine (?_:pos+_+_=_);unfold dS.lay;rw [List.length_append,Nat.add_assoc];rfl
  have ko:uG (B.rd buf pos idx rd):=⟨bo.hl,bo.h0,bo.h5,bo.h7,bo.h8,la0,by refine (?_:pos≤buf.length);lia,ok0.t0,ok0.t1,ok0.o0,ok0.o1,ok0.hz⟩;have ih:=rP bx up r bo rs (pos+rd.lay.length) (idx+1) (fun r hr=>ok r (.tail _ hr)) la1 (by lia) (by rw [hn,List.length_cons];lia)
  have hi:(B.rd buf pos idx rd).idx<(B.rd buf pos idx rd).num:=by
   refine (?_:idx<B.num);rw [hn,List.length_cons];lia
  refine NxB.g (x:=c.x) (Cx.le_refl _) (xp (KO:=fun od O'=>∃ rx rdx,od=some (.stat (.ref rx))∧O'=[(m,SO.inst 1069 dm),(dm,SO.attrs (cj buf B.hd ((pos+rd.lay.length:Nat):Int) B.num (idx+1) true))]++(rx,SO.inst (B.rd buf pos idx rd).made.1 rdx)::(rdx,SO.attrs (B.rd buf pos idx rd).made.2)::T)
   bx up (.head _) (.tail _ (.head _)) fun x' le fr=>?_) fun od O' h=>?_
  ·refine au.N (au.permK (K:=kB (B.rd buf pos idx rd).made.1 (B.rd buf pos idx rd).made.2 (RdO {B.rd buf pos idx rd with idx:=(B.rd buf pos idx rd).idx+1} m dm T (B.rd buf pos idx rd).endp)) ?_ fun d O' h=>?_)
   ·refine N7 (i:=B.rd buf pos idx rd) (z:=Builtin.bitAnd B.att 32 != 0) (bx.le le) (r.le (by decide)) ko rfl hi fun x'' A' E' le' r''=>?_
    by_cases hz:(Builtin.bitAnd B.att 32 != 0)=true
    ·refine al (ok0.ctl hz) fun k e1 e2=>?_
     have er:(B.rd buf pos idx rd).made=(1227,(B.rd buf pos idx rd).ctl k (m9 (some k)) (nQ (some k))):=by
      unfold cV.made;rw [if_pos (show (Builtin.bitAnd (B.rd buf pos idx rd).att 32 != 0)=true from hz),show (B.rd buf pos idx rd).key=some k from e1]
      rfl
     rw [er,if_pos hz];exact EH ((bx.le le).le le') r'' e1 e2 JI
    ·have er:(B.rd buf pos idx rd).made=(1166,(B.rd buf pos idx rd).fs):=by
      unfold cV.made;rw [if_neg (show ¬ (Builtin.bitAnd (B.rd buf pos idx rd).att 32 != 0)=true from hz)]
     rw [er,if_neg hz];exact EG ((bx.le le).le le') (r''.le (by decide))
   ·obtain ⟨rx,rdx,rfl,rfl⟩:=h;refine ⟨_,kM _ _ [_,_],rx,rdx,rfl,?_⟩;rw [hlay]
    rfl
  ·refine bj h fun rx rdx q1 q2=>?_;obtain rfl:=q1;obtain rfl:=q2;exact ⟨rx,rdx,_,rfl,rfl,ih⟩
structure E2 (B:mB) (buf:List UInt8) (pos:Nat) (sq:Bool) (rs:List dS):Prop where
 hl:buf.length≤1000000
 hv:Builtin.bitAnd B.att 7=if sq=true then 1 else 0
 hz:(df (buf.drop pos)).length≤16777216
 bo:JE B (qX sq buf pos)
 ok:∀ r∈rs,wL B r
 la:aq (qX sq buf pos) (tJ sq pos) (rs.flatMap dS.lay)
 hp:tJ sq pos+(rs.flatMap dS.lay).length=(qX sq buf pos).length
 hn:B.num=rs.length
theorem Bf {pos:Nat} {rs:List dS} (bx:ah c.x) (up:cF c) (r:Rm c.A 6) (k:E2 B buf pos sq rs) :
  EZ true c (.Name y py) m [(m,SO.inst 1069 dm),(dm,SO.attrs (cj buf B.hd pos B.num 0 false))] (pr B (qX sq buf pos) (tJ sq pos) 0 rs):=fun loc T H s Q E R q=>by
 refine yQ (Dv (K':=fun d O'=>d=.stat (.ref m)∧O'=[(m,SO.inst 1069 dm),(dm,SO.attrs (cj (qX sq buf pos) B.hd (tJ sq pos) B.num 0 true))]++T) bx (.head _) (.tail _ (.head _)) (.head _) (fun x' le=>yC (bx.le le) (r.le (by decide)) k.hl k.bo.h5 k.hv k.hz) ⟨rfl,rfl⟩ H s Q [.ref m] R (.one (.stat _)) fun H' s' v d O' kk R' le rd=>?_);obtain ⟨rfl,rfl⟩:=kk
 cases rd using ac.cStat
 exact q H' s' _ c.x _ (Cx.le_refl _) R' le (rP bx up r k.bo rs _ 0 k.ok k.la k.hp (by rw [k.hn];lia))
end
end
noncomputable def ug (K:Frag) (D C M:Addr):Bool:=plainGet K D "__class__"&&hasDictIn K D&&findIn K (.ref D) "__class__"==some (some (.builtin "object.__class__"))&&specialIn K (.builtin "object.__class__") "__get__"==some (some (.builtin "getset_descriptor.__get__")) &&
 takesIn K (.builtin "object.__class__")==some true&&mroIn K D (.type "object")==some true&&typeIn K (.ref C)==some (.ref M)&&instIn K (.ref C) (.type "tuple")==some false&&specialIn K (.ref C) "__instancecheck__"==some (some (.builtin "type.__instancecheck__")) &&
 instIn K (.ref C) (.type "type")==some true&&mroIn K D (.ref C)==some false&&D != C
theorem GK:builtinKind "type.__instancecheck__"=some .method:=by decide +kernel
theorem DB:splitId "type.__instancecheck__"=some ("type","__instancecheck__"):=by decide +kernel
theorem GN (self:Value):bindSpecial (.builtin "type.__instancecheck__") self=pure (.builtin "type.__instancecheck__",[self]):=by
 have ht:typeOf (.builtin "type.__instancecheck__")=pure (.type "method_descriptor"):=by refine (?_:builtinType _=_);rw [builtinType_eq_fast];kernel_rfl
 exact (Cg (·>>=_) ht).trans rfl
theorem GO (a b:Value):argsOk "type.__instancecheck__" ⟨[a,b],[]⟩:=by skip;kernel_rfl
theorem DC:plainId "type.__instancecheck__"=true:=by decide +kernel
theorem Ec:entryFor table "type.__instancecheck__"=some Builtin.«type.__instancecheck__»:=entryFor_of_tree (by kernel_rfl)
theorem uw {i owner n:String} {rest:List Value} {kw:List (Str×Value)}
  (hk:builtinKind i=some .method) (hs:splitId i=some (owner,n)) (hi:Looks M s.heap (isInstance self (.type owner)) true) (ha:argsOk i ⟨self::rest,kw⟩) (q:Q () s) :
  wpAny M A (checkBuiltinCall i ⟨self::rest,kw⟩) Q E s:=by
 unfold checkBuiltinCall;rw [hk,hs];refine Wb (hi.here (wpAny_ite_false rfl ?_));revert ha;unfold argsOk
 cases Manifest.signature? i with
 |none=>exact fun _=>Wp q
 |some sig=>exact fun ha=>Wq (a:=()) ha q
theorem GL {K:Frag} {x D C:Addr} (X:K.In s.heap) (I:InstAt s.heap x ox D (some od)) (Z:KitX K (.ref x) (.ref D) (fun h=>InstAt h x ox D (some od)))
  (p4:instIn K (.ref C) (.type "type")=some true) (p5:mroIn K D (.ref C)=some false) (q:Q (.bool false) {s with toks:=s.toks+1}):wpAny (model prog w) A (call (.builtin "type.__instancecheck__") [.ref C,.ref x]) Q E s:=by
 refine wpAny_call (codeAny_call_builtin (id:="type.__instancecheck__") (args:=⟨[.ref C,.ref x],[]⟩) DC Ec ?_);have ck:=looks_instIn (M:=model prog w) X p4;refine uw (i:="type.__instancecheck__") (self:=.ref C) (rest:=[.ref x]) (kw:=[]) (owner:="type") (n:="__instancecheck__") GK DB ck (GO (.ref C) (.ref x)) ?_;obtain ⟨hh,g,d,t,os⟩:=s;skip;have LI:Looks (model prog w) hh (isInstance (.ref x) (.ref C)) false:=I.type.andThen (looks_mroIn X p5);refine Wb (LI.at (wpAny_ite_false rfl ?_));refine Wb (Z.ca X I ?_);refine Wb ((Z.it _ _ X I).at (wpAny_ite_true rfl ?_));refine Wb (I.type.at ?_);exact wpAny_ite_false (by simp) (wpAny_pure q)
theorem jw {a:Bool} {G:Prop} (o:(a&&b)=true) (q:a=true→b=true→G):G:=by
 cases a
 ·cases o
 ·exact q rfl o
theorem Nu {a c d e f g h i j k l:Bool} {G:Prop} (o:(a&&b&&c&&d&&e&&f&&g&&h&&i&&j&&k&&l)=true) (q:a=true→b=true→c=true→d=true→e=true→f=true→g=true→h=true→i=true→j=true→k=true→l=true→G):G:=by
 refine jw o fun o l=>jw o fun o k=>jw o fun o j=>jw o fun o i=>jw o fun o h=>jw o fun o g=>jw o fun o f=>jw o fun o e=>jw o fun o d=>jw o fun o c=>jw o fun a b=>q a b c d e f g h i j k l
theorem JV {b:Addr} (h:(a != b)=true):decide ((Value.ref a==Value.ref b)=true)=false:=decide_eq_false fun q=>by
 have e:a=b:=Value.ref.inj (beq_iff_eq.mp q);rw [e] at h;simp at h
theorem Ce (a:Addr) (t:String):decide ((Value.ref a==Value.type t)=true)=false:=decide_eq_false fun q=>by cases beq_iff_eq.mp q
theorem PB {x D' dx C M:Addr} (B:ah c.x) (hu:c.A.units+1<cLine) (m1:(x,SO.inst D' dx)∈O) (m2:(dx,SO.attrs fs)∈O) (ok:∀ P,ug (K P) D' C M=true) (h:K' (.bool false) O):Op c (fun vs=>call (.builtin "isinstance") vs) [.stat (.ref x),.stat (.ref C)] loc O K' E:=fun H s Q vs R rs q=>by
 refine ay rs fun v u r1 r2=>?_
 cases r1 using ac.cStat;cases r2 using ac.cStat
 refine bj (fA R m1 m2) fun es n I at'=>?_;have o:=ok c.x.w.params;refine Nu o fun o1 o2 o3 o4 o5 o6 p1 p2 p3 p4 p5 p6=>?_;have X:=B.X R.t;have Z:=kitx_own (x:=x) (ox:=instObj D' dx) (od:=dictOf es n) o1 o2 (eq_of_beq o3) (eq_of_beq o4) (eq_of_beq o5) (eq_of_beq o6);obtain ⟨hh,g,d,t,os⟩:=s;refine call_isinstance_of ?_ (by intro e;cases e);skip;refine Wb (I.type.at (wpAny_ite_false (JV p6) ?_));refine Wb ((looks_typeIn X (eq_of_beq p1)).at (wpAny_ite_false (Ce _ _) ?_));refine Wb (m:=Builtin.Builtins.unionMembers (.ref C)) (Wb (m:=typeOf _) ((looks_typeIn X (eq_of_beq p1)).at (wpAny_ite_false (Ce _ _) (Wp ?_))));refine Wb ((looks_instIn X (eq_of_beq p2)).at (wpAny_ite_false rfl ?_));refine Wb (wpAny_cRoom (show c.A.in1.units<cLine from hu) ?_);refine Wb (Wb ((looks_specialIn X (eq_of_beq p3)).at ?_));refine Wh (Wb (Wq (GN _) ?_));refine Wb (GL X I Z (eq_of_beq p4) (eq_of_beq p5) ?_);refine Wp ?_;refine Wb (wpAny_rule (Wb (Wh ?_)));refine Wp (a:=false) ?_;refine Wb (wpAny_letGo ?_);exact Wp (q _ _ _ _ _ h (R.tok _) (Pr _) (.bool _))
theorem GF:∀ P,ug (K P) 1166 1227 214=true:=fun P=>by kernel_rfl
theorem GH:∀ P,ug (K P) 649 1227 214=true:=fun P=>by kernel_rfl
theorem GI:∀ P,zR (K P) 1227 1227 true=true:=fun P=>by kernel_rfl
section
theorem FV {K:D→Own→Prop} {as bs:List D} (h1:as≠[]) (h2:bs≠[]) (hsz:as.length+bs.length≤sizeLine) (h:K (.tup (as++bs)) O):Op c (fun vs=>binaryOp .Add (vs.headD .none) (vs.tail.headD .none)) [.tup as,.tup bs] loc O K E:=fun H s Q vs R rs q=>by
 refine ay rs fun v u a b=>?_;refine bK (gu R.t.hH a) fun a va na q1 q2=>?_;obtain rfl:=q1;obtain ⟨ea,ra⟩:=q2;refine bK (gu R.t.hH b) fun b vb nb q3 q4=>?_;obtain rfl:=q3;obtain ⟨eb,rb⟩:=q4;have n1:¬ va.toArray.isEmpty=true:=fun e=>h1 (List.length_eq_zero_iff.mp (by rw [← ra.length];simpa using e));have n2:¬ vb.toArray.isEmpty=true:=fun e=>h2 (List.length_eq_zero_iff.mp (by rw [← rb.length];simpa using e));refine P.add_tuple ea eb n1 n2 ?_ (by rw [List.size_toArray,List.size_toArray,ra.length,rb.length];exact hsz);have e:va.toArray++vb.toArray=(va++vb).toArray:=by simp
 rw [e];obtain ⟨R',le⟩:=R.push {cls:=.type "tuple",data:=.seq (va++vb).toArray} s.toks;exact q _ _ _ _ _ h R' le (.tup Ph ((ra.append rb).mono le))
def nt (y:Rec) (name:Str) (d:D):Prop:=∀ (c:Cc) (loc:Loc) (O:Own) (K':D→Own→Prop) (E:Value→Shared→Prop) (rx rdx:Addr),ah c.x→Rm c.A 2→(rx,SO.inst y.1 rdx)∈O→(rdx,SO.attrs y.2)∈O→K' d O →
 Op c (fun vs=>getAttr (vs.headD .none) name true) [.stat (.ref rx)] loc O K' E
structure aZ where
 (off:Int) (ts:Option Int) (key val:Option (List UInt8)) (hs:jA) (ctl:Option (Int×Int))
noncomputable def aZ.row (t:aZ):List D:=[.int t.off,oI t.ts,pD t.key,pD t.val,.lst (cX t.hs)]
noncomputable def aZ.ext (t:aZ):List D:=match t.ctl with
 |.none=>[]
 |some (v,ty)=>[.int v,.bool (ty==1),.bool (ty==0)]
noncomputable def aZ.d (t:aZ):D:=.tup (t.row++t.ext)
structure kA (y:Rec) (t:aZ):Prop where
 off:nt y (S "offset") (.int t.off)
 ts:nt y (S "timestamp") (oI t.ts)
 key:nt y (S "key") (pD t.key)
 val:nt y (S "value") (pD t.val)
 hs:nt y (S "headers") (.lst (cX t.hs))
 isi:(t.ctl.isSome=true∧∀ P,zR (K P) y.1 1227 true=true)∨(t.ctl.isSome=false∧∃ M,∀ P,ug (K P) y.1 1227 M=true)
 ctl:∀ v ty,t.ctl=some (v,ty)→nt y (S "version") (.int v)∧nt y (S "commit") (.bool (ty==1))∧nt y (S "abort") (.bool (ty==0))
 hz:t.hs.length≤1000
theorem PA {y:Rec} {t:aZ} (B:ah c.x) (hu:c.A.units+1<cLine) (k:kA y t) (m1:(rx,SO.inst y.1 rdx)∈O) (m2:(rdx,SO.attrs y.2)∈O) (h:K' (.bool t.ctl.isSome) O) :
  Op c (fun vs=>call (.builtin "isinstance") vs) [.stat (.ref rx),.stat (.ref 1227)] loc O K' E:=by
 rcases k.isi with ⟨e,ok⟩|⟨e,M,ok⟩
 ·rw [e] at h;exact xi B m1 m2 ok h
 ·rw [e] at h;exact PB B hu m1 m2 ok h
noncomputable def Ck:PySem.Stmt:=((aB kv)[1]?).getD (.Pass default)
noncomputable def zp:List PySem.Stmt:=match Ck with|.For _ _ b _ _=>b|_=>[]
section
variable {REST:Own} {rx rdx:Addr}
noncomputable def Fx:PySem.Expr:=match (zp[0]?:Option PySem.Stmt) with|some (PySem.Stmt.If t _ _ _)=>t|_=>.Constant .none 0 default
theorem Cf {y:Rec} {t:aZ} (b:ah x) (r:Rm A 6) (hu:A.units+2<cLine) (k:kA y t) (m1:(rx,SO.inst y.1 rdx)∈O) (m2:(rdx,SO.attrs y.2)∈O) (g1:lk loc (S "one")=some (.stat (.ref rx))) :
  Tst ⟨x,A,callEnvC kv L 1377,true⟩ Fx loc O (fun z O'=>z=false∧O'=O) NoE:=by
 have r2:Rm A 2:=r.le (by decide);have hz:=k.hz;refine JF ?_ ?_
 ·rfl
 k_extra"MX";refine k.key _ _ _ _ _ _ _ b r2 m1 m2 ?_;k_extra"MX";refine k.val _ _ _ _ _ _ _ b r2 m1 m2 ?_;k_extra"MX";refine k.hs _ _ _ _ _ _ _ b r2 m1 m2 ?_;refine ⟨cX t.hs,_,cC r.hh,g7 (fun d=>match d with|.tup [_,d]=>d|d=>d) (by simp only [cX,List.length_map,sizeLine_eq];omega) ?_,?_⟩
 ·intro d hd x' le C;refine al (List.mem_map.mp hd) fun p hp q5=>?_;obtain rfl:=q5;refine JJ r.hh ?_;k_extra"MX";exact ⟨rfl,rfl⟩
 rintro acc O2 ⟨rfl,rfl⟩
 rw [List.take_of_length_le (Nat.le_refl _)];have e:(cX t.hs).map (fun d=>match d with|.tup [_,d]=>d|d=>d)=t.hs.map (fun p=>pD p.2):=by unfold cX;rw [List.map_map];rfl
 rw [e];refine kR (by simp only [List.length_cons,List.length_nil,List.length_map,sizeLine_eq];omega) ?_
 have ae:∀ d∈[pD t.key,pD t.val]++t.hs.map (fun p=>pD p.2),∃ p,d=pD p:=by
  intro d hd
  rcases List.mem_append.mp hd with hd|hd
  ·rcases List.mem_cons.mp hd with rfl|hd
   ·exact ⟨_,rfl⟩
   ·rw [List.mem_singleton] at hd;exact ⟨_,hd⟩
  ·refine al (List.mem_map.mp hd) fun p _ q6=>?_;obtain rfl:=q6;exact ⟨_,rfl⟩
 generalize hl:[pD t.key,pD t.val]++t.hs.map (fun p=>pD p.2)=l at ae ⊢;have hlen:l.length≤1002:=by rw [← hl];simp only [List.length_append,List.length_cons,List.length_nil,List.length_map];omega
 refine ⟨l,_,cC r.hh,j4 (fun _=>false) id (by rw [sizeLine_eq];omega) ?_,?_⟩
 ·intro d hd x' le C;obtain ⟨p,rfl⟩:=ae d hd;have b':ah x':=b.le le;k_extra"MX";refine AM b' ?_;k_extra"MX";refine ⟨rfl,fun h=>?_,fun _=>rfl⟩
  cases h
 rintro acc O2 ⟨rfl,rfl⟩
 have e2:∀ l:List D,l.filter (fun _=>false)=[]:=fun l=>List.filter_eq_nil_iff.mpr (fun _ _=>Bool.false_ne_true);rw [e2,List.map_nil];k_extra"MX";refine gN ?_;refine mP (n:=0) (fun d hd=>by cases hd) (ny 1 hu (by decide)) ?_;k_extra"MX";exact ⟨rfl,rfl⟩
theorem PQ {y:Rec} {t:aZ} (b:ah x) (r:Rm A 6) (hu:A.units+2<cLine) (k:kA y t) (hz:ds.length≤1000) (g0:lk loc (S "told")=some (.stat (.ref a))) (g1:lk loc (S "one")=some (.stat (.ref rx))) :
  Exs ⟨x,A,callEnvC kv L 1377,true⟩ zp loc ((a,.list ds)::(rx,SO.inst y.1 rdx)::(rdx,SO.attrs y.2)::REST)
   (fun f l O'=>f=.next∧lk l (S "told")=some (.stat (.ref a))∧O'=(a,.list (ds++[t.d]))::(rx,SO.inst y.1 rdx)::(rdx,SO.attrs y.2)::REST) NoE:=by
 obtain ⟨O,hO⟩:∃ O,O=(a,SO.list ds)::(rx,SO.inst y.1 rdx)::(rdx,SO.attrs y.2)::REST:=⟨_,rfl⟩;rw [← hO];have m0:(a,SO.list ds)∈O:=hO▸.head _;have m1:(rx,SO.inst y.1 rdx)∈O:=hO▸.tail _ (.head _);have m2:(rdx,SO.attrs y.2)∈O:=hO▸.tail _ (.tail _ (.head _));have r2:Rm A 2:=r.le (by decide);refine ad (qz fun H s Q R q=>Cf b r hu k m1 m2 g1 H s Q R fun H' s' z O' hz'=>q H' s' z O' ?_);obtain ⟨rfl,rfl⟩:=hz';refine aT rfl (bl (ad ?_));clear q R;k_extra"MX";refine k.off _ _ _ _ _ _ _ b r2 m1 m2 ?_;k_extra"MX";refine k.ts _ _ _ _ _ _ _ b r2 m1 m2 ?_;k_extra"MX";refine k.key _ _ _ _ _ _ _ b r2 m1 m2 ?_;k_extra"MX";refine k.val _ _ _ _ _ _ _ b r2 m1 m2 ?_;k_extra"MX";refine k.hs _ _ _ _ _ _ _ b r2 m1 m2 ?_;k_extra"MX";refine da m0 ?_;k_extra"MX";refine cu ?_;k_extra"MX";refine PA b (ny 1 hu (by decide)) k m1 m2 ?_;k_extra"MX"
 cases hc:t.ctl with
 |none =>
  refine aT rfl ?_;k_extra"MX";subst hO;refine cS (ds:=ds) .head (by rw [sizeLine_eq];omega) ?_;refine bl ⟨rfl,by k_extra"L",?_⟩;unfold aZ.d aZ.ext;rw [hc]
  rfl
 |some p =>
  obtain ⟨v,ty⟩:=p;refine gB (k.ctl v ty hc) fun k1 k2 k3=>?_;refine bw rfl ?_;k_extra"MX";refine k1 _ _ _ _ _ _ _ b r2 m1 m2 ?_;k_extra"MX";refine k2 _ _ _ _ _ _ _ b r2 m1 m2 ?_;k_extra"MX";refine k3 _ _ _ _ _ _ _ b r2 m1 m2 ?_;k_extra"MX";refine FV (by simp) (by simp) (by rw [sizeLine_eq];simp) ?_;k_extra"MX";subst hO;refine cS (ds:=ds) .head (by rw [sizeLine_eq];omega) ?_;refine bl ⟨rfl,by k_extra"L",?_⟩;unfold aZ.d aZ.ext;rw [hc]
  rfl
end
end
theorem cE [Pk C] [be C name f] [cw f fd name'] [aQ C name'] (e:lk fs name'=some d) (hd:gn d=true):nt (C,fs) name d :=
 fun c loc O K' E rx rdx b r m1 m2 h=>CE (n:=1) b m1 m2 r e hd h
theorem BV {size off ts tt:Int} (hz:hs.length≤1000):kA (1166,fU size off ts tt key val (cX hs)) ⟨off,some ts,key,val,hs,.none⟩ where
 off:=cE (name':=S "_offset") (by skip;k_extra"L") rfl
 ts:=cE (name':=S "_timestamp") (d:=.int ts) (by skip;k_extra"L") rfl
 key:=cE (name':=S "_key") (by skip;k_extra"L") fJ
 val:=cE (name':=S "_value") (by skip;k_extra"L") fJ
 hs:=cE (name':=S "_headers") (by skip;k_extra"L") rfl
 isi:=.inr ⟨rfl,214,GF⟩
 ctl v ty e:=by cases e
 hz:=hz
theorem BW {size off ts tt ver ty:Int} (hz:hs.length≤1000):kA (1227,mq size off ts tt key val (cX hs) ver ty) ⟨off,some ts,some key,val,hs,some (ver,ty)⟩ where
 off:=cE (name':=S "_offset") (by skip;simp only [List.cons_append,List.nil_append];k_extra"L") rfl
 ts:=cE (name':=S "_timestamp") (d:=.int ts) (by unfold mq fU;simp only [List.cons_append,List.nil_append];k_extra"L") rfl
 key:=cE (name':=S "_key") (by skip;simp only [List.cons_append,List.nil_append];k_extra"L") fJ
 val:=cE (name':=S "_value") (by skip;simp only [List.cons_append,List.nil_append];k_extra"L") fJ
 hs:=cE (name':=S "_headers") (by skip;simp only [List.cons_append,List.nil_append];k_extra"L") rfl
 isi:=.inl ⟨rfl,GI⟩
 ctl v t e:=by
  cases e
  have et:lk (mq size off ts tt key val (cX hs) ver ty) (S "_type")=some (.int ty):=by unfold mq fU;simp only [List.cons_append,List.nil_append];k_extra"L"
  refine ⟨cE (name':=S "_version") (by unfold mq fU;simp only [List.cons_append,List.nil_append];k_extra"L") rfl,?_,?_⟩
  ·exact fun c loc O K' E rx rdx b r m1 m2 h=>aW b m1 m2 rfl (fun x' le=>uy (b.le le) (r.le (by decide)).in1 m1 m2 et) h
  ·exact fun c loc O K' E rx rdx b r m1 m2 h=>aW b m1 m2 rfl (fun x' le=>wv (b.le le) (r.le (by decide)).in1 m1 m2 et) h
 hz:=hz
theorem u1 {one off ts tt key val crc cb}:kA (649,mW one off ts tt key val crc cb) ⟨off,ts,key,val,[],.none⟩ where
 off:=cE (name':=S "_offset") (by skip;k_extra"L") rfl
 ts:=cE (name':=S "_timestamp") (by skip;k_extra"L") mX
 key:=cE (name':=S "_key") (by skip;k_extra"L") fJ
 val:=cE (name':=S "_value") (by skip;k_extra"L") fJ
 hs c loc O K' E rx rdx b r m1 m2 h:=aW b m1 m2 rfl (fun x' le=>qO (b.le le) (r.le (by decide)).in1) h
 isi:=.inr ⟨rfl,214,GH⟩
 ctl v ty e:=by cases e
 hz:=by simp
theorem Pq.perm {ss loc E} (h:Pq b c ss loc O' KF E) (p:O.Perm O'):Pq b c ss loc O KF E:=fun H s Q R q=>h H s Q (R.perm p) q
theorem Exs.permK {ss loc E} (h:Exs c ss loc O' KF E) (p:O.Perm O'):Exs c ss loc O KF E:=fun H s Q R q=>h H s Q (R.perm p) q
theorem NxG.perm {x target w loc} {K:Option D→Cx→Own→Prop} (h:NxG b c x target w loc O' K) (p:O.Perm O'):NxG b c x target w loc O K:=fun H s Q R q0 q1=>h H s Q (R.perm p) q0 q1
theorem NxG.mono {x target w loc} {K K':Option D→Cx→Own→Prop} (h:NxG b c x target w loc O K) (k:∀ od x' O',c.x.le x'→K od x' O'→K' od x' O'):NxG b c x target w loc O K':=fun H s Q R q0 q1 =>
 h H s Q R (fun H' s' x' O' z le R' l=>q0 H' s' x' O' (k _ _ _ le z) le R' l) fun s' u go=>q1 s' u fun Q' q'=>go Q' fun H' s'' d x' O' z le R' l rd=>q' H' s'' d x' O' (k _ _ _ le z) le R' l rd
theorem vj (a b c:Addr×SO) (F W O:Own):(F++b::c::(W++a::O)).Perm (a::b::c::(F++(W++O))):=by
 refine (kM b c F).symm.trans ?_
 have h:(F++(W++a::O)).Perm (a::(F++(W++O))):=by
  rw [← List.append_assoc,← List.append_assoc];exact List.perm_middle
 refine ((h.cons c).cons b).trans ?_;exact ((List.Perm.swap a c _).cons b).trans (.swap a b _)
class inductive nX:List Rec→List aZ→Prop
 |nil:nX [] []
 |cons {y t ys ts}:kA y t→nX ys ts→nX (y::ys) (t::ts)
def N9 (b:Bool) (c:Cc) (target:PySem.Expr) (ts:List aZ) (a:Addr) (O0:Own) (w:Value) (k:Nat) (x:Cx) (l:Loc) (O':Own):Prop :=
 ∃ todo tt done own W,k=todo.length∧ts=done++tt∧nX todo tt∧wM b c target w todo x own∧lk l (S "told")=some (.stat (.ref a))∧O'.Perm (own++(W++(a,SO.list (done.map aZ.d))::O0))
noncomputable def HU:Pos:=match Ck with|.For (.Name _ p) _ _ _ _=>p|_=>default
noncomputable def zo (x:Cx) (A:Around) (L:Addr):Cc:=⟨x,A.deeper (callEnvC kv L 1377),callEnvC kv L 1377,true⟩
theorem tz {ts:List aZ} (bx:ah x) (r:Rm A 8) (hu:A.units+6<cLine) (g:∀ L py,EZ true (zo x A L) (.Name (S "one") py) m own ys) (ht:nX ys ts) (hz:ts.length≤1000) :
  aY x A (.ref 1377) [.stat (.ref m)] (own++O0) (fun d O'=>d=.lst (ts.map aZ.d)∧O'=O0) E:=by
 refine fR (fd:=kv) (names:=[S "batch"]) (dx:=[]) bx (fun P=>by kernel_rfl) (fun P=>by kernel_rfl) (by decide +kernel) r [] ?_ (fun _=>.nil) [(S "batch",.stat (.ref m))] rfl fun L=>?_
 ·intro P St;exact aH fun _=>bM (by kernel_rfl)
 have r':=r.deeper (callEnvC kv L 1377) (m:=7) (by decide);refine aE (dy ?_);k_extra"MX";refine gM fun a=>?_;k_extra"MX";refine aE (Js (Hh (fK rfl) (N9 true (zo x A L) (.Name (S "one") HU) ts a O0) ?_));k_extra"MX";intro H s Q v R rd q
 cases rd using ac.cStat
 refine g L HU _ ((a,.list [])::O0) H s Q _ (R.perm ?_) fun H' s' w x' own' le R' l' run=>?_
 ·exact List.perm_middle.symm
 refine q H' s' w ys.length x' _ le ⟨ys,ts,[],own',[],rfl,rfl,ht,run,by k_extra"L",.refl _⟩ R' l' fun k xA lA O₁ le1 hI=>?_;obtain ⟨todo,tt,done,own1,W,rfl,et,h2,run1,g0,pm⟩:=hI;refine NxG.perm ?_ pm
 cases h2 with
 |nil =>
  refine NxG.mono (run1 lA _) fun od xB O2 le2 h=>?_;obtain ⟨rfl,own2,rfl⟩:=h;rw [List.append_nil] at et;subst et;refine eh ?_;refine fF ((Exs.permK (O':=(a,SO.list (ts.map aZ.d))::(own2++(W++O0))) ?_ ?_))
  ·refine ad (uk ?_);refine D9 ?_;k_extra"MX";refine ⟨a,_,_,rfl,.head,?_⟩;exact ⟨O0,(List.sublist_append_right _ _).trans (List.sublist_append_right _ _),rfl,rfl⟩
  ·rw [← List.append_assoc,← List.append_assoc];exact List.perm_middle
 |@cons y t todo tt h3 h4 =>
  refine NxG.mono (run1 lA _) fun od xB O2 le2 h=>?_;refine bK h fun rx rdx own2 q2 q3=>?_;obtain rfl:=q2;obtain ⟨rfl,run2⟩:=q3;have hd:(done.map aZ.d).length≤1000:=by rw [List.length_map];rw [et,List.length_append] at hz;omega
  k_extra"MX";refine Pq.perm (O':=(a,SO.list (done.map aZ.d))::(rx,SO.inst y.1 rdx)::(rdx,SO.attrs y.2)::(own2++(W++O0))) (pq ?_) ?_
  ·refine Exs.mono (PQ (bx.le le2) (r'.le (by decide)) (ny 5 hu (by decide)) h3 hd (by k_extra"L") bv) fun f l5 O5 h=>?_;obtain ⟨rfl,g1,rfl⟩:=h;refine ⟨todo.length,Nat.lt_succ_self _,todo,tt,done++[t],own2,(rx,SO.inst y.1 rdx)::(rdx,SO.attrs y.2)::W,rfl,by rw [et];simp,h4,run2,g1,?_⟩;rw [List.map_append];exact (vj _ _ _ _ _ _).symm
  ·exact vj _ _ _ _ _ _
structure jV (C:Addr) (fs:List (Str×D)) (size form base code:Int) (ts:List aZ):Prop where
 size:nt (C,fs) (S "size_in_bytes") (.int size)
 form:nt (C,fs) (S "magic") (.int form)
 base:nt (C,fs) (S "base_offset") (.int base)
 code:nt (C,fs) (S "compression_type") (.int code)
 recs:∀ (x:Cx) (A:Around) (m dm:Addr) (O0:Own) (E:Value→Shared→Prop),ah x→aF x A→Rm A 8→A.units+6<cLine →
  aY x A (.ref 1377) [.stat (.ref m)] ((m,SO.inst C dm)::(dm,SO.attrs fs)::O0) (fun d O'=>d=.lst (ts.map aZ.d)∧O'=O0) E
noncomputable def md (one:Bool) (l:List UInt8) (abs:Int) (ts tt:Option Int) (i:hV):aZ:=⟨if 0≤abs then hv l i.p 0+abs else hv l i.p 0,if tt=some 1 then ts else hts one l i.p,i.key,i.val,[],.none⟩
theorem y3 {one l abs ts tt}:∀ is:List hV,nX (is.map (u5 one l abs ts tt)) (is.map (md one l abs ts tt))
 |[]=>.nil
 |i::is=>.cons u1 (y3 is)
inductive jU (one:Bool) (l:List UInt8) (off crc:Int) (ts:Option Int) (att:Int):List aZ→Prop
 |plain {key val}:Builtin.bitAnd att 7=0→bS l (hN one) key→bS l (hN one+4+aK key) val→jU one l off crc ts att [⟨off,ts,key,val,[],.none⟩]
 |squeezed {wkey v} {is:List hV} {j:hV}:Builtin.bitAnd att 7=1→bS l (hN one) wkey→bS l (hN one+4+aK wkey) (some v)→(df v).length≤16777216→is.getLast? = some j→pg one (df v) 0 (is.map (·.p))→is.length≤1000→(∀ i∈is,tG one (df v) i) →
   jU one l off crc ts att (is.map (md one (df v) (js one off (df v) j) ts (ttI one att)))
theorem jU.gives {one l off crc ts att tl} (h:jU one l off crc ts att tl):∃ ys,jz one l off crc ts att ys∧nX ys tl∧tl.length≤1000:=by
 cases h with
 |plain a b c=>exact ⟨_,.plain a b c,.cons u1 .nil,by simp⟩
 |squeezed a b c d e f g h=>exact ⟨_,.squeezed a b c d e f g h,y3 _,by rw [List.length_map];exact g⟩
theorem HH {one l off len crc ts att tl} (hl:l.length≤1000000) (h12:12≤l.length) (k:jU one l off crc ts att tl):jV 544 (bk l one off len crc ts att false) (len+12) (mg one) off (Builtin.bitAnd att 7) tl where
 size c loc O K' E rx rdx b r m1 m2 h:=aW b m1 m2 rfl (fun x' le=>yz (b.le le) (r.le (by decide)).in1 m1 m2) h
 form:=cE (name':=S "_magic") (by skip;k_extra"L") rfl
 base:=cE (name':=S "_offset") (by skip;k_extra"L") rfl
 code c loc O K' E rx rdx b r m1 m2 h:=aW b m1 m2 rfl (fun x' le=>g8 (b.le le) (r.le (by decide)).in1 m1 m2) h
 recs x A m dm O0 E b fr r hu:=by
  refine dX k.gives fun ys g t hz=>?_;exact tz (own:=[(m,SO.inst 544 dm),(dm,SO.attrs (bk l one off len crc ts att false))]) b r hu (fun L py=>AU (c:=zo x A L) b (r.deeper _ (by lia)) rfl hl h12 g) t hz
noncomputable def ei (B:mB) (r:dS):aZ:=⟨B.base+r.off,some (if (if Builtin.bitAnd B.att 8=0 then (0:Int) else 1)=1 then B.mx else B.first+r.ts),r.key,r.val,r.hs,if (Builtin.bitAnd B.att 32 != 0)=true then some (m9 r.key,nQ r.key) else .none⟩
theorem u2:∀ (rs:List dS) (pos:Nat) (idx:Int),(∀ r∈rs,wL B r)→nX (pr B buf pos idx rs) (rs.map (ei B))
 |[],_,_,_=>.nil
 |r::rs,pos,idx,ok=>by
  refine .cons ?_ (u2 rs _ _ fun r hr=>ok r (.tail _ hr));have ok0:=ok r (.head _);unfold cV.made ei
  by_cases h:(Builtin.bitAnd B.att 32 != 0)=true
  ·rw [if_pos (show (Builtin.bitAnd (B.rd buf pos idx r).att 32 != 0)=true from h),if_pos h];refine al (ok0.ctl h) fun k e1 e2=>?_;have e1':(B.rd buf pos idx r).key=some k:=e1;rw [e1',e1];exact BW ok0.hz
  ·rw [if_neg (show ¬ (Builtin.bitAnd (B.rd buf pos idx r).att 32 != 0)=true from h),if_neg h];exact BV ok0.hz
theorem HI {pos:Nat} {rs:List dS} {v1 v3:Int} (k:E2 B buf pos sq rs) (hz:rs.length≤1000) (h1:B.hd[1]? = some v1) (h3:B.hd[3]? = some v3) :
  jV 1069 (cj buf B.hd pos B.num 0 false) (v1+12) v3 B.base (Builtin.bitAnd B.att 7) (rs.map (ei B)) where
 size c loc O K' E rx rdx b r m1 m2 h:=aW b m1 m2 rfl (fun x' le=>yB (b.le le) (r.le (by decide)).in1 m1 m2 h1) h
 form c loc O K' E rx rdx b r m1 m2 h:=e8 (n:=1) b m1 m2 r h3 (by decide) h
 base c loc O K' E rx rdx b r m1 m2 h:=e8 (n:=1) b m1 m2 r k.bo.h0 (by decide) h
 code c loc O K' E rx rdx b r m1 m2 h:=aW b m1 m2 rfl (fun x' le=>qQ (b.le le) r.in1 m1 m2 k.bo.h5) h
 recs x A m dm O0 E b fr r hu:=tz (own:=[(m,SO.inst 1069 dm),(dm,SO.attrs (cj buf B.hd pos B.num 0 false))]) b r hu (fun L py=>Bf (c:=zo x A L) b (cF.body fr rfl) (r.deeper _ (by lia)) k) (u2 rs _ _ k.ok) (by rw [List.length_map];exact hz)
structure Pc where
 (laid:List Int) (form base code:Int) (told:List D)
noncomputable def fg (n:Int):Pc :=
 if n%5=0∨n%5=4 then ⟨gt (n/5),2,cy (n/5),n/5/3%2,(List.range (fq (n/5))).map (dK (n/5))⟩
 else if n%5=3 then ⟨cT 9 48 (mkN (n/5)) (ef (n/5) (mkN (n/5))),2,9,0,(List.range (mkN (n/5))).map (kq (n/5))⟩
 else ⟨cM (n%5-1) (n/5),n%5-1,ax (n/5),de (n/5),(List.range (bZ (n/5))).map (cx (n%5-1) (n/5))⟩
noncomputable def pcs (sc:List Int):List Pc:=((sc.drop 1).take 2++[0,8409,207]).map fg
noncomputable def cg (ps:List Pc):List Int:=ps.flatMap (·.laid)
noncomputable def pcD (e:Nat) (p:Pc):D:=.tup [.int e,.int p.form,.int p.base,.int p.code,.lst p.told]
noncomputable def eF:Nat→List Pc→List D
 |_,[]=>[]
 |a,p::ps=>pcD (a+p.laid.length) p::eF (a+p.laid.length) ps
theorem w8 {p:Pc}:cg (ps++[p])=cg ps++p.laid:=by simp [cg]
theorem rS {p:Pc}:∀ {ps:List Pc} {a:Nat},eF a (ps++[p])=eF a ps++[pcD (a+(cg ps).length+p.laid.length) p]
 |[],a=>by simp [eF,cg]
 |q::ps,a=>by
  refine (?_:pcD _ q::eF _ (ps++[p])=_);rw [rS (ps:=ps)];simp only [eF,List.cons_append,cg,List.flatMap_cons,List.length_append,Nat.add_assoc]
theorem kN:∀ {ps:List Pc} {a:Nat},(eF a ps).length=ps.length
 |[],_=>rfl
 |_::ps,_=>by simp [eF,kN (ps:=ps)]
theorem eJ {b k c:Int} {body:List Int}:(cT b k c body).length=61+body.length:=by unfold cT;simp only [List.length_append,aA,List.length_cons,List.length_nil]
theorem CQ:(dM (d9 rest)).length≤5:=by unfold d9;split;exact Nt bc (by decide);exact aI (m:=1) bc (by decide)
theorem F9 {l:List Int}:(bR l).length=l.length:=List.length_map _
theorem vn {n:Int}:(fg n).laid.length≤1000:=by
 unfold fg
 split
 ·refine (?_:(cT _ _ _ (nh _)).length≤_);rw [eJ];exact Nt (Nat.add_le_add_left qU 61) (by decide)
 ·split
  ·refine (?_:(cT _ _ _ _).length≤_);rw [eJ];exact Nt (Nat.add_le_add_left (jL qc) 61) (by decide)
  ·refine (?_:(cM _ _).length≤_);unfold cM
   split
   ·exact Nt (gT (by decide)) (by decide)
   ·have h6:(dM (some (bR (sqL (bz (n%5-1) (n/5) 2))))).length≤212:=aI (m:=208) bc (pn (by rw [F9];exact kT));exact Nt (aI (aI bc bc) (aI (aI km CQ) h6)) (by decide)
theorem rM:∀ (ps:List Pc),(∀ p∈ps,∃ n,p=fg n)→(cg ps).length≤1000*ps.length
 |[],_=>by simp [cg]
 |p::ps,h=>by
  have ih:=rM ps fun q hq=>h q (.tail _ hq);obtain ⟨n,rfl⟩:=h p (.head _);have:=vn (n:=n);simp only [cg,List.flatMap_cons,List.length_append,List.length_cons] at ih ⊢;lia
noncomputable def bN (sc:List Int):Int:=match sc with|[]=>0|n::_=>n
noncomputable def db (sc:List Int):Bool:=bN sc/5%2==1
noncomputable def dZ (sc:List Int):List Int:=if db sc=true then [1,2,3,4,5,6,7,8,0,0,0,bN sc/10%14]++List.replicate (bN sc/10%14).toNat 9 else List.replicate (bN sc/10%12).toNat 0
noncomputable def a6 (sc:List Int):List Int:=cg (pcs sc)++dZ sc
def Dm (sc:List Int) (ps:List Pc) (a:Addr) (O:Own) (i:Nat) (loc:Loc) (O':Own):Prop :=
 lk loc (S "first")=some (.int (bN sc))∧lk loc (S "row")=some (iL (cg (ps.take i)))∧lk loc (S "pieces")=some (.stat (.ref a))∧O'=(a,.list (eF 0 (ps.take i)))::O
noncomputable def ed (sc:List Int):List Int:=(sc.drop 1).take 2++[0,8409,207]
theorem jK:(ed sc).length≤5:=by
 have:=List.length_take_le 2 (sc.drop 1);unfold ed;simp only [List.length_append,List.length_cons,List.length_nil];lia
noncomputable def Do:PySem.Stmt:=((aB aG)[3]?).getD (.Pass default)
noncomputable def Gx:List PySem.Stmt:=match Do with|.For _ _ b _ _=>b|_=>[]
theorem vk {n:Int} (h:(ed sc)[i]? = some n):(pcs sc).take (i+1)=(pcs sc).take i++[fg n]:=by
 have e:(pcs sc)[i]? = some (fg n):=by
  refine (?_:((ed sc).map fg)[i]? = _);rw [List.getElem?_map,h];rfl
 rw [List.take_add_one,e];rfl
theorem tT:(cg ((pcs sc).take i)).length≤5000:=by
 have h1:=rM ((pcs sc).take i) fun p hp=>by
  refine al (List.mem_map.mp (List.mem_of_mem_take hp)) fun n _ q1=>?_;obtain rfl:=q1;exact ⟨n,rfl⟩
 have h2:((pcs sc).take i).length≤5:=by
  refine Nt (List.length_take_le' _ _) ?_;refine (?_:((ed sc).map fg).length≤5);rw [List.length_map];exact jK
 exact Nt h1 (Nat.mul_le_mul_left 1000 h2)
noncomputable abbrev uY (p:Pc) (sc:List Int) (a:Addr) (i:Nat):Loc:=[(S "laid",iL p.laid),(S "form",.int p.form),(S "base",.int p.base),(S "code",.int p.code),(S "told",.lst p.told),(S "first",.int (bN sc)),(S "row",iL (cg ((pcs sc).take i))),(S "pieces",.stat (.ref a))]
theorem ve {n:Int} (hn:(ed sc)[i]? = some n):cg ((pcs sc).take i)++(fg n).laid=cg ((pcs sc).take (i+1)):=by rw [vk hn,w8]
theorem FD {n:Int} (hn:(ed sc)[i]? = some n):(a,SO.list (eF 0 ((pcs sc).take i)++[.tup [.int ((cg ((pcs sc).take (i+1))).length:Nat),.int (fg n).form,.int (fg n).base,.int (fg n).code,.lst (fg n).told]]))::O=(a,.list (eF 0 ((pcs sc).take (i+1))))::O:=by
 rw [← ve hn,vk hn,rS,List.length_append,Nat.zero_add];rfl
theorem Ct:(eF 0 ((pcs sc).take i)).length≤sizeLine:=by
 rw [kN,sizeLine_eq];exact Nt (List.length_take_le' i (pcs sc)) (Nt (Nat.le_of_eq (List.length_map _)) (Nt jK (by decide)))
theorem Dh (b:ah x') (r:Rm A 6) (hok:∀ n:Int,n%5≠0→n%5≠4→n%5≠3→okL (sqL (bz (n%5-1) (n/5) 2))) {n:Int} {l:Loc} (hn:(ed sc)[i]? = some n) (hI:Dm sc (pcs sc) a O i l O')
  (k:∀ l O',Dm sc (pcs sc) a O (i+1) l O'→KF .next l O'):Exs ⟨x',A,callEnvC aG L 1382,true⟩ Gx ((S "number",.int n)::l) O' KF NoE:=by
 obtain ⟨f0,f1,f2,rfl⟩:=hI;have hr:=tT (sc:=sc) (i:=i);refine ad ?_;k_extra"ME";refine ad ?_;k_extra"ME";refine ad (g6 (O':=(a,.list (eF 0 ((pcs sc).take i)))::O) (Ext (uY (fg n) sc a i)) ?_ fun l2 Y=>?_)
 ·k_extra"ME"
  by_cases h0:n%5=0
  ·refine bw (beq_iff_eq.mpr h0) (bw rfl ?_);have e:(⟨gt (n/5),2,cy (n/5),n/5/3%2,(List.range (fq (n/5))).map (dK (n/5))⟩:Pc)=fg n:=(if_pos (.inl h0)).symm;k_extra"MX";refine bH (fun x' le=>Ad (b.le le) (r.le (by decide))) ?_;k_extra"MX";exact ⟨rfl,e▸(by k_extra"EX":Ext (uY ⟨gt (n/5),2,cy (n/5),n/5/3%2,(List.range (fq (n/5))).map (dK (n/5))⟩ sc a i) _),rfl⟩
  refine aT (beq_eq_false_iff_ne.mpr h0) ?_;k_extra"MX"
  by_cases h4:n%5=4
  ·refine bw (beq_iff_eq.mpr h4) (bw rfl ?_);have e:(⟨gt (n/5),2,cy (n/5),n/5/3%2,(List.range (fq (n/5))).map (dK (n/5))⟩:Pc)=fg n:=(if_pos (.inr h4)).symm;k_extra"MX";refine bH (fun x' le=>Ad (b.le le) (r.le (by decide))) ?_;k_extra"MX";exact ⟨rfl,e▸(by k_extra"EX":Ext (uY ⟨gt (n/5),2,cy (n/5),n/5/3%2,(List.range (fq (n/5))).map (dK (n/5))⟩ sc a i) _),rfl⟩
  refine aT (beq_eq_false_iff_ne.mpr h4) ?_;k_extra"MX";have h04:¬ (n%5=0∨n%5=4):=fun h=>h.elim h0 h4
  by_cases h3:n%5=3
  ·refine bw (beq_iff_eq.mpr h3) ?_;have e:(⟨cT 9 48 (mkN (n/5)) (ef (n/5) (mkN (n/5))),2,9,0,(List.range (mkN (n/5))).map (kq (n/5))⟩:Pc)=fg n:=((if_neg h04).trans (if_pos h3)).symm;k_extra"MX";refine bH (fun x' le=>Br (b.le le) (r.le (by decide))) ?_;k_extra"MX";exact ⟨rfl,e▸(by k_extra"EX":Ext (uY ⟨cT 9 48 (mkN (n/5)) (ef (n/5) (mkN (n/5))),2,9,0,(List.range (mkN (n/5))).map (kq (n/5))⟩ sc a i) _),rfl⟩
  refine aT (beq_eq_false_iff_ne.mpr h3) ?_;have e:(⟨cM (n%5-1) (n/5),n%5-1,ax (n/5),de (n/5),(List.range (bZ (n/5))).map (cx (n%5-1) (n/5))⟩:Pc)=fg n:=((if_neg h04).trans (if_neg h3)).symm;k_extra"MX";refine bH (fun x' le=>Nl (b.le le) (r.le (by decide)) (hok n h0 h4 h3)) ?_;k_extra"MX";exact ⟨rfl,e▸(by k_extra"EX":Ext (uY ⟨cM (n%5-1) (n/5),n%5-1,ax (n/5),de (n/5),(List.range (bZ (n/5))).map (cx (n%5-1) (n/5))⟩ sc a i) _),rfl⟩
 ·refine ad (bn rfl (cr (iL (cg ((pcs sc).take (i+1)))) ?_ ?_))
  ·k_extra"MX";exact bg hr vn rfl ⟨Cg iL (ve hn),rfl⟩
  k_extra"MX";refine da (.head _) ?_;k_extra"MX";refine kQ tT rfl ?_;k_extra"MX";refine cS .head Ct ?_;k_extra"MX";exact k _ _ ⟨by k_extra"L",by k_extra"L",by k_extra"L",FD hn⟩
theorem Gw (b:ah x) (r:Rm A 6) (hok:∀ n:Int,n%5≠0→n%5≠4→n%5≠3→okL (sqL (bz (n%5-1) (n/5) 2))) (g0:lk loc (S "first")=some (.int (bN sc))) (g1:lk loc (S "row")=some (iL [])) (g2:lk loc (S "pieces")=some (.stat (.ref a)))
  (g3:lk loc (S "script")=some (.lst (sc.map .int))) (hz:sc.length≤1000) (k:∀ l O',Dm sc (pcs sc) a O (ed sc).length l O'→KF .next l O') :
  Ex ⟨x,A,callEnvC aG L 1382,true⟩ Do loc ((a,.list [])::O) KF E:=by
 refine uU (Dm sc (pcs sc) a O) r.hh rfl ?_;k_extra"MX";refine yU ?_;k_extra"MX";refine ⟨1,3,rfl,rfl,fun t u=>?_⟩;refine t5 (fun _ _=>⟨_,rfl⟩) (by rw [List.length_map,sizeLine_eq];lia) ?_;k_extra"MX";refine kR (by have:=List.length_take_le (3-1) ((sc.map D.int).drop 1);simp only [List.length_cons,List.length_nil,sizeLine_eq];lia) ?_;have e:((sc.map D.int).drop 1).take (3-1)++[D.int 0,.int 8409,.int 207]=(ed sc).map .int:=by unfold ed;simp [List.map_drop,List.map_take]
 rw [e];refine ⟨_,cC r.hh,⟨g0,g1,g2,rfl⟩,?_,?_⟩
 ·intro i d l O' hd hI x' le;rw [List.getElem?_map] at hd;refine al (Option.map_eq_some_iff.mp hd) fun n hn q2=>?_;obtain rfl:=q2;k_extra"ME";exact Dh (KF:=fun f l O4=>match f with|.next|.cont=>Dm sc (pcs sc) a O (i+1) l O4|.brk=>KF .next l O4|.ret d=>KF (.ret d) l O4) (b.le le) r hok hn hI fun l O' h=>h
 ·intro l O' hI;rw [List.length_map] at hI;exact bl (k l O' hI)
noncomputable abbrev Md (sc:List Int):Loc:=[(S "first",.int (bN sc)),(S "row",iL (a6 sc)),(S "pieces",.lst (eF 0 (pcs sc))),(S "short",.bool (db sc))]
abbrev nk (sc:List Int) (loc:Loc):Prop:=Ext (Md sc) loc
noncomputable def jX (sc:List Int):List Int:=if db sc=true then [1,2,3,4,5,6,7,8,0,0,0,bN sc/10%14]++List.replicate (bN sc/10%14).toNat 9 else []
noncomputable def nz (sc:List Int):Nat:=if db sc=true then 0 else (bN sc/10%12).toNat
theorem m14 {n:Int}:0≤n%14∧n%14≤1000:=by lia
theorem xx {n:Int}:(n%14).toNat≤14:=by lia
theorem m12 {n:Int}:n%12=((n%12).toNat:Nat):=by lia
theorem u4:nz sc≤12:=by unfold nz;split<;>lia
theorem BY:(jX sc).length≤26:=by
 unfold jX
 split
 ·exact aI (n:=12) (m:=14) (Nat.le_refl 12) (by rw [List.length_replicate];exact xx)
 ·exact Nat.zero_le _
theorem Fg:jX sc++List.replicate (nz sc) 0=dZ sc:=by
 unfold jX nz dZ
 split
 ·exact List.append_nil _
 ·exact List.nil_append _
theorem Fu:cg (pcs sc)++jX sc++List.replicate (nz sc) 0=a6 sc:=by rw [List.append_assoc,Fg];rfl
theorem Kr {n:Int}:(n%12).toNat≤12:=by lia
theorem Ff:(dZ sc).length≤30:=by
 unfold dZ
 split
 ·exact Nat.le_trans (aI (n:=12) (m:=14) (Nat.le_refl 12) (by rw [List.length_replicate];exact xx)) (by decide)
 ·rw [List.length_replicate];exact Nat.le_trans Kr (by decide)
noncomputable abbrev NF (sc:List Int) (row:List Int):Loc:=[(S "row",iL row),(S "pieces",.lst (eF 0 (pcs sc))),(S "first",.int (bN sc)),(S "short",.bool (db sc))]
theorem xR (g:Ag c loc loc' O O') (h:ph c ss loc' O' KF E):ph c ss loc O KF E:=fun H s Q R q=>by
 refine al (g H s R) fun H₁ le R1=>?_;exact h H₁ s Q R1 fun H' s' f g l O'' k R' le'=>q H' s' f g l O'' k R' (Pt le le')
theorem Gv (b:ah x) (r:Rm A 6) (hok:∀ n:Int,n%5≠0→n%5≠4→n%5≠3→okL (sqL (bz (n%5-1) (n/5) 2))) (hz:sc.length≤1000)
  (k:∀ loc,nk sc loc→ph ⟨x,A,callEnvC aG L 1382,true⟩ ((aB aG).drop 8) loc O KF E):ph ⟨x,A,callEnvC aG L 1382,true⟩ (aB aG) [(S "script",.lst (sc.map .int))] O KF E:=by
 refine aE (dy (bn rfl (cr (.int (bN sc)) ?_ ?_)))
 ·k_extra"MX";refine cu ?_;k_extra"MX";refine Fb (by rw [List.length_map];exact Int.ofNat_lt.mpr (Nat.lt_of_le_of_lt hz (by decide))) ?_
  cases sc with
  |nil =>
   refine aT rfl ?_;k_extra"MX";exact ⟨rfl,rfl⟩
  |cons n sc =>
   refine bw rfl ?_;k_extra"MX";exact eH (fun _ _=>⟨_,rfl⟩) (by decide) (by decide) rfl ⟨rfl,rfl⟩
 k_extra"MX";refine aE (dy ?_);k_extra"MX";refine gN ?_;k_extra"MX";refine aE (dy ?_);k_extra"MX";refine gM fun a=>?_;k_extra"MX";refine aE (dy (Gw (a:=a) b r hok (by k_extra"L") (by k_extra"L":lk _ (S "row")=some (D.lst [])) (by k_extra"L") (by k_extra"L") hz fun l O' hI=>?_));obtain ⟨f0,f1,f2,rfl⟩:=hI;have ht:(pcs sc).take (ed sc).length=pcs sc:=List.take_of_length_le (by refine (?_:((ed sc).map fg).length≤_);rw [List.length_map];exact Nat.le_refl _);have hrow:(cg (pcs sc)).length≤5000:=ht▸tT (sc:=sc) (i:=(ed sc).length);rw [ht] at f1 ⊢;refine xR (eK f2 .head) ?_;refine aE (dy (bn rfl (cr (.bool (db sc)) ?_ ?_)))
 ·k_extra"MX";exact ⟨rfl,rfl⟩
 k_extra"MX";refine aE (dy (g6 (O':=O) (Ext (NF sc (cg (pcs sc)++jX sc))) ?_ fun l2 Y=>?_))
 ·k_extra"ME";refine gA ?_ ?_<;>intro h
  ·refine ad (bn rfl (cr (iL (cg (pcs sc)++jX sc)) ?_ ?_))
   ·k_extra"MX";refine bg (r:=[1,2,3,4,5,6,7,8,0,0,0,bN sc/10%14]) hrow (Nr 12) rfl ?_;k_extra"MX";refine FL m14 ?_;k_extra"MX";exact bg (m:=14) (aI hrow (Nat.le_refl 12)) (by rw [List.length_replicate];exact xx) rfl ⟨congrArg iL (by rw [jX,if_pos h,List.append_assoc]),rfl⟩
   k_extra"MX";exact ⟨rfl,by k_extra"EX",rfl⟩
  ·k_extra"MX";have e:cg (pcs sc)=cg (pcs sc)++jX sc:=by rw [jX,if_neg (by rw [h];decide),List.append_nil]
   exact ⟨rfl,.cons (e▸(by k_extra"L":lk _ (S "row")=some (iL (cg (pcs sc))))) (by k_extra"EX"),rfl⟩
 ·refine aE (dy (bn rfl (cr (.int (nz sc:Nat)) ?_ ?_)))
  ·refine cu ?_;k_extra"MX";refine gA ?_ ?_<;>intro h
   ·k_extra"MX";exact ⟨by rw [nz,if_pos h];rfl,rfl⟩
   ·k_extra"MX";exact ⟨by rw [nz,if_neg (by rw [h];decide),← m12],rfl⟩
  k_extra"MX";refine aE (dy (bn rfl (cr (iL (a6 sc)) ?_ ?_)))
  ·k_extra"MX";refine pj (Nt u4 (by decide)) ?_;k_extra"MX";exact bg (m:=12) (aI hrow BY) (by rw [List.length_replicate];exact u4) rfl ⟨congrArg iL Fu,rfl⟩
  k_extra"MX";exact k _ (by k_extra"EX")
section
structure cm where
 (fin:Nat) (form base code:Int) (ts:List aZ)
noncomputable def cm.d (s:cm):D:=.tup [.int s.fin,.int s.form,.int s.base,.int s.code,.lst (s.ts.map aZ.d)]
class inductive pe (buf:List UInt8):Nat→List cm→Nat→Prop
 |nil {p:_}:pe buf p [] p
 |cons {p e:Nat} {C fs form base code ts rest q:_}:dA buf p→aN buf p=some e→p+26≤e→ew ((buf.drop p).take (e-p)) C fs→jV C fs ((e:Int)-p) form base code ts→pe buf e rest q→pe buf p (⟨e,form,base,code,ts⟩::rest) q
noncomputable def qg (buf:List UInt8) (p:Nat) (rem:Option Int):List (Str×D):=cW buf (bX buf p:Nat) (ce buf p) rem
structure eU (buf:List UInt8) (v7 p:Nat) (rem:Option Int):Prop where
 ch:∃ n,fc buf n p v7
 rem:rem=.none∨rem=some ((buf.length:Int)-v7)
theorem fc.head {l n p q} (h:fc l n p q):dA l p:=by cases h<;>assumption
theorem fc.next {l n p q} (h:fc l n p q):∃ m,fc l m (bX l p) q:=by
 cases h with
 |stop h e=>exact ⟨0,by unfold bX;rw [e];exact .stop h e⟩
 |more h e c=>exact ⟨_,by unfold bX;rw [e];exact c⟩
theorem fc.end {l n p q} (h:fc l n p q) (e:aN l p=.none):q=p:=by
 cases h with
 |stop _ _=>rfl
 |more _ e' _=>rw [e] at e';cases e'
theorem eU.next {v7 e:Nat} {rem} (h:eU buf v7 p rem) (he:aN buf p=some e):eU buf v7 e (cv buf e rem):=by
 obtain ⟨n,c⟩:=h.ch
 cases c with
 |stop _ e'=>rw [he] at e';cases e'
 |more _ e' c =>
  rw [he] at e';cases e';refine ⟨⟨_,c⟩,?_⟩;unfold cv
  cases q:aN buf e with
  |none=>exact .inr (by rw [c.end q])
  |some e=>exact h.rem
theorem eU.first {v7:Nat} (c:fc buf n 0 v7):eU buf v7 0 (cv buf 0 .none):=by
 refine ⟨⟨_,c⟩,?_⟩;unfold cv
 cases q:aN buf 0 with
 |none=>exact .inr (by rw [c.end q])
 |some e=>exact .inl rfl
section
variable {v7:Nat} {rem:Option Int}
noncomputable def cz (m dm:Addr) (buf:List UInt8) (p:Nat) (rem:Option Int) (O:Own):Own:=(m,SO.inst 1297 dm)::(dm,SO.attrs (qg buf p rem))::O
theorem ud (b:ah x) (r:Rm A 2) (hl:buf.length≤16777216) (h:eU buf v7 p rem):au x A (.ref 1257) [.stat (.ref m)] (cz m dm buf p rem O)
  (fun d O'=>d=.int v7∧O'=cz m dm buf p (some ((buf.length:Int)-v7)) O) E:=by
 rcases h.rem with rfl|rfl
 ·obtain ⟨n,c⟩:=h.ch;obtain ⟨k,c'⟩:=c.next;exact Hz b r hl c'
 ·exact Ez b r hl (.head _) (.tail _ (.head _))
theorem Kn (b:ah x) (r:Rm A 1) (hl:buf.length≤16777216):au x A (.ref 1250) [.stat (.ref m)] (cz m dm buf p rem O) (fun d O'=>d=.int buf.length∧O'=cz m dm buf p rem O) E:=yw b r (.head _) (.tail _ (.head _)) hl
theorem C9 (b:ah x) (r:Rm A 1):au x A (.ref 1272) [.stat (.ref m)] (cz m dm buf p rem O) (fun d O'=>d=.bool (aN buf p).isSome∧O'=cz m dm buf p rem O) E :=
 (ng b r (.head _) (.tail _ (.head _))).mono fun d O' h=>⟨by rw [h.1];unfold ce;cases aN buf p<;>rfl,h.2⟩
theorem Ko (b:ah x) (r:Rm A 1) (e:aN buf p=.none):au x A (.ref 1280) [.stat (.ref m)] (cz m dm buf p rem O) (fun d O'=>d=.none∧O'=cz m dm buf p rem O) E:=by
 have es:ce buf p=.none:=by unfold ce;rw [e]
 unfold cz qg;rw [es];exact Bp b r (.head _) (.tail _ (.head _))
theorem JL {e:Nat} (h:e<p+26):e-p<26:=by lia
theorem Gl (b:ah x) (r:Rm A 1) (fr:aF x A) {e:Nat} (he:aN buf p=some e) (hs:e<p+26):au x A (.ref 1280) [.stat (.ref m)] (cz m dm buf p rem O) (fun _ _=>False) (eS x A (cz m dm buf p rem O) (.ref 59)):=by
 have es:ce buf p=some ((buf.drop p).take (e-p)):=by unfold ce;rw [he]
 unfold cz qg;rw [es];refine yu b r fr (.head _) (.tail _ (.head _)) ?_;rw [List.length_take];exact Nat.lt_of_le_of_lt (Nat.min_le_left _ _) (JL hs)
def JC (m dm:Addr) (buf:List UInt8) (e:Nat) (rem:Option Int) (C:Addr) (fs:List (Str×D)) (O:Own) (d:D) (O':Own):Prop:=∃ bx bdx,d=.stat (.ref bx)∧O'=(bx,SO.inst C bdx)::(bdx,SO.attrs fs)::cz m dm buf e (cv buf e rem) O
theorem rJ {e:Nat} (he:aN buf p=some e):p≤e∧e≤buf.length:=by
 unfold aN at he
 split at he
 ·cases he
 ·split at he
  ·cases he
  ·cases he
   rename_i h1 h2
   constructor<;>lia
theorem Kp {e:Nat} (b:ah x) (r:Rm A 4) (hl:buf.length≤16777216) (h:eU buf v7 p rem) (he:aN buf p=some e) (h26:p+26≤e) (ib:ew ((buf.drop p).take (e-p)) C fs) :
  aY x A (.ref 1280) [.stat (.ref m)] (cz m dm buf p rem O) (JC m dm buf e rem C fs O) E:=by
 have es:ce buf p=some ((buf.drop p).take (e-p)):=by unfold ce;rw [he]
 have ep:bX buf p=e:=by unfold bX;rw [he]
 obtain ⟨n,c⟩:=(h.next he).ch;obtain ⟨l1,l2⟩:=rJ he;have ln:((buf.drop p).take (e-p)).length=e-p:=by rw [List.length_take,List.length_drop];lia
 unfold cz qg;rw [es,ep];exact Nn b r hl c.head (by rw [ln];lia) (by rw [ln];lia) ib
theorem Gn {e:Nat} (b:ah x) (r:Rm A 5) (hl:buf.length≤16777216) (h:eU buf v7 p rem) (he:aN buf p=some e) (h26:p+26≤e) (ib:ew ((buf.drop p).take (e-p)) C fs) :
  aY x A (.ref 1294) [.stat (.ref m)] (cz m dm buf p rem O) (JC m dm buf e rem C fs O) E:=by
 have es:ce buf p=some ((buf.drop p).take (e-p)):=by unfold ce;rw [he]
 have ep:bX buf p=e:=by unfold bX;rw [he]
 obtain ⟨n,c⟩:=(h.next he).ch;obtain ⟨l1,l2⟩:=rJ he;have ln:((buf.drop p).take (e-p)).length=e-p:=by rw [List.length_take,List.length_drop];lia
 unfold cz qg;rw [es,ep];exact yx b r hl c.head (by rw [ln];lia) (by rw [ln];lia) ib
theorem Gm (b:ah x) (r:Rm A 2) (fr:aF x A) (e:aN buf p=.none):au x A (.ref 1294) [.stat (.ref m)] (cz m dm buf p rem O) (fun _ _=>False) (eS x A (cz m dm buf p rem O) (.type "StopIteration")):=by
 have es:ce buf p=.none:=by unfold ce;rw [e]
 unfold cz qg;rw [es];exact yv b r fr (.head _) (.tail _ (.head _))
theorem Kq (b:ah x) (r:Rm A 3) (hl:buf.length≤16777216) (h0:dA buf 0):au x A (.ref 1297) [.bytes buf] O (fun d O'=>∃ m dm,d=.stat (.ref m)∧O'=cz m dm buf 0 (cv buf 0 .none) O) E :=
 fV b fun A' m dm k=>(yy b (k.rm r (by lia)) hl h0).mono fun d O' h=>⟨h.1,m,dm,rfl,h.2⟩
end
end
section
noncomputable def aL (sc:List Int) (c:Nat):List UInt8:=bR ((a6 sc).take c)
noncomputable def du (sc:List Int) (c:Nat):Bool:=db sc&&c==(a6 sc).length
noncomputable def j3 (c:Nat) (d:D):Bool:=match d with|.tup (.int e::_)=>decide (e≤c)|_=>false
structure fx (sc:List Int) (c:Nat) (steps:List cm) (q v7:Nat):Prop where
 le:c≤(a6 sc).length
 run:pe (aL sc c) 0 steps q
 ins:∀ d∈eF 0 (pcs sc),∃ e f b k t,d=.tup [.int (e:Nat),f,b,k,t]
 few:(eF 0 (pcs sc)).filter (j3 c)=steps.map cm.d
 ch:∃ n,fc (aL sc c) n q v7
 last:if du sc c=true then ∃ e,aN (aL sc c) q=some e∧e<q+26 else aN (aL sc c) q=.none
 val:v7=if du sc c=true then c else q
noncomputable def La:PySem.Stmt:=((aB aG)[8]?).getD (.Pass default)
noncomputable def gq:List PySem.Stmt:=match La with|.For _ _ b _ _=>b|_=>[]
noncomputable def BR:List PySem.Stmt:=match (gq[5]?:Option PySem.Stmt) with|some (PySem.Stmt.For _ _ b _ _)=>b|_=>[]
noncomputable abbrev Jv (sc:List Int) (c v7:Nat) (steps:List cm) (m:Addr):Loc:=(S "cut",.int c)::(S "memory",.stat (.ref m))::(S "inside",.lst (steps.map cm.d))::(S "valid",.int v7)::Md sc
abbrev hW (sc:List Int) (c v7:Nat) (steps:List cm) (m:Addr) (loc:Loc):Prop:=Ext (Jv sc c v7 steps m) loc
theorem dU:(a6 sc).length≤5030:=by
 have h1:=tT (sc:=sc) (i:=(ed sc).length);rw [(List.take_of_length_le (by show ((ed sc).map fg).length≤_;rw [List.length_map];exact Nat.le_refl _):(pcs sc).take (ed sc).length=pcs sc)] at h1;exact aI h1 Ff
theorem eQ {c:Nat} (h:c≤(a6 sc).length):(aL sc c).length=c:=by
 unfold aL bR;rw [List.length_map,List.length_take];lia
section
variable {c q v7:Nat} {steps:List cm} {rem:Option Int}
theorem hW.set (h:hW sc c v7 steps m loc) (n:zL (Jv sc c v7 steps m) y=true):hW sc c v7 steps m ((y,d)::loc):=h.skip n
theorem rk (b:ah cc.x) [ok:dz 1297 name f] (e:lk (qg (aL sc c) p rem) name=.none) (h:KM (.ref f) [.stat (.ref m)] (cz m dm (aL sc c) p rem O)) :
  Mine.GM cc name (.stat (.ref m)) loc (cz m dm (aL sc c) p rem O) KM E:=zX b (.head _) (.tail _ (.head _)) e h
theorem tM (b:ah x) (hh:A'.handled=.none) (hle:c≤(a6 sc).length) (g1:lk loc (S "row")=some (iL (a6 sc))) (g3:lk loc (S "short")=some (.bool (db sc))) (g4:lk loc (S "cut")=some (.int c)) (k:KB (du sc c) O) :
  Tst ⟨x,A',callEnvC aG L 1382,true⟩ (.BoolOp .And [.Name (S "short") p1,.Compare (.Name (S "cut") p2) [.Eq] [.Call (.Name (S "len") p3) [.Name (S "row") p4] [] p5] p6] p7) loc O KB E:=by
 have hrow:=dU (sc:=sc);have k':KB (db sc&&(c==(a6 sc).length)) O:=k;refine pG (hU ?_);k_extra"MX";refine gA ?_ ?_<;>intro h
 ·refine hU ?_;k_extra"MX";refine eG (by rw [List.length_map];lia) ?_;k_extra"MX";rw [h,Bool.true_and] at k';rw [List.length_map,show ((c:Int)==((a6 sc).length:Nat))=(c==(a6 sc).length) by rw [Bool.eq_iff_iff,beq_iff_eq,beq_iff_eq];lia]
  by_cases e:(c==(a6 sc).length)=true
  ·rw [e] at k' ⊢;exact bw rfl (nW k')
  ·rw [Bool.not_eq_true] at e;rw [e] at k' ⊢;exact aT rfl k'
 ·rw [h,Bool.false_and] at k';exact k'
theorem Ng (b:ah x) (r:Rm A 6) (k:fx sc c steps q v7) (g:hW sc c v7 steps m loc) (h:eU (aL sc c) v7 p rem)
  (fin:∀ rem',eU (aL sc c) v7 p rem'→KF .next loc (cz m dm (aL sc c) p rem' O)):Ex ⟨x,A.deeper (callEnvC aG L 1382),callEnvC aG L 1382,true⟩ ((gq[3]?).getD (.Pass default)) loc (cz m dm (aL sc c) p rem O) KF E:=by
 have r':=r.deeper (callEnvC aG L 1382) (m:=5) (by decide);have hl:=eQ k.le;have hrow:=dU (sc:=sc);have hle:=k.le;refine qz ?_;k_extra"MX";refine rk b (by skip;k_extra"N") ?_;k_extra"MX";refine dc (fun x' le=>(Kn (b.le le) (r'.le (by decide)) (by lia)).call) ?_;rw [hl];k_extra"MX";refine aT (by simp) ?_;refine yK ?_;k_extra"MX";refine gA ?_ ?_<;>intro hf
 ·refine hU ?_;k_extra"MX";refine rk b (by skip;k_extra"N") ?_;k_extra"MX";refine dc (fun x' le=>(ud (b.le le) (r'.le (by decide)) (by lia) h).call) ?_;k_extra"MX";refine aT (by simp) (aT rfl (hJ (aT rfl (bl (fin _ ⟨h.ch,.inr rfl⟩)))))
 ·refine aT rfl (hJ (aT rfl (bl (fin _ h))))
theorem Nc (b:ah x) (r:Rm A 6) (k:fx sc c steps q v7) (g:hW sc c v7 steps m loc) (h:eU (aL sc c) v7 p rem)
  (fin:∀ rem',KF .next loc (cz m dm (aL sc c) p rem' O)):Ex ⟨x,A.deeper (callEnvC aG L 1382),callEnvC aG L 1382,true⟩ ((gq[6]?).getD (.Pass default)) loc (cz m dm (aL sc c) p rem O) KF E:=by
 have r':=r.deeper (callEnvC aG L 1382) (m:=5) (by decide);have hl:=eQ k.le;have hrow:=dU (sc:=sc);have hle:=k.le;refine qz ?_;k_extra"MX";refine rk b (by skip;k_extra"N") ?_;k_extra"MX";refine dc (fun x' le=>(ud (b.le le) (r'.le (by decide)) (by lia) h).call) ?_;k_extra"MX";exact aT (by simp) (bl (fin _))
theorem K8 (b:ah x) (r:Rm A 6) (fr:aF x A) (k:fx sc c steps q v7) (g:hW sc c v7 steps m loc) (h:eU (aL sc c) v7 q rem)
  (fin:∀ l,hW sc c v7 steps m l→KF .next l (cz m dm (aL sc c) q rem O)):Exs ⟨x,A.deeper (callEnvC aG L 1382),callEnvC aG L 1382,true⟩ BR loc (cz m dm (aL sc c) q rem O) KF NoE:=by
 have r':=r.deeper (callEnvC aG L 1382) (m:=5) (by decide);have hl:=eQ k.le;have hrow:=dU (sc:=sc);have hle:=k.le;have g':=g;have last:=k.last;refine ad (qz (tM b r'.hh k.le (by k_extra"L") (by k_extra"L") (by k_extra"L") ?_));refine gA ?_ ?_<;>intro hs
 ·rw [if_pos hs] at last;refine al last fun e he he26=>?_;refine ad ?_;k_extra"ME";refine ad (qy (A₀:=A) b (PK (by kernel_rfl)) (by kernel_rfl) rfl fr rfl (by refine (?_:aG.scope.kind≠_);decide +kernel) (fun x' le=>?_) fun ex=>?_)
  ·have b':ah x':=b.le le;refine ad ?_;k_extra"ME";refine rk b' (by skip;k_extra"N") ?_;k_extra"ME";exact AH (cF.body (fr.le le) rfl) fun x'' le' fr'=>(Gl ((b.le le).le le') (r'.le (by decide)) fr' he he26).call
  refine ad ?_;k_extra"ME";refine ad (qz ?_);k_extra"MX";refine aT rfl (yK ?_);k_extra"MX";refine rk b (by skip;k_extra"N") ?_;k_extra"MX";refine dc (fun x' le=>(C9 (b.le le) (r'.le (by decide))).call) ?_;rw [he];k_extra"MX";exact aT rfl (hJ (aT rfl (bl (bl (bl (fin _ ((g'.set rfl).set rfl)))))))
 ·rw [if_neg (by rw [hs];decide)] at last;refine ad (qz ?_);k_extra"MX";refine rk b (by skip;k_extra"N") ?_;k_extra"MX";refine dc (fun x' le=>(C9 (b.le le) (r'.le (by decide))).call) ?_;rw [last];k_extra"MX";refine aT rfl (yK ?_);k_extra"MX";refine rk b (by skip;k_extra"N") ?_;k_extra"MX";refine dc (fun x' le=>(Ko (b.le le) (r'.le (by decide)) last).call) ?_;k_extra"MX";refine aT rfl (hJ (aT rfl (bl (bl (bl (fin _ g'))))))
end
end
section
abbrev N1 (sc:List Int) (c v7 q:Nat) (steps:List cm) (m dm:Addr) (rem:Option Int) (O:Own):Nat→Loc→Own→Prop:=fun i l O'=>hW sc c v7 steps m l∧O'=cz m dm (aL sc c) q rem O
section
variable {c q v7:Nat} {steps:List cm} {rem:Option Int}
theorem Nd (b:ah x) (r:Rm A 6) (fr:aF x A) (k:fx sc c steps q v7) (g:hW sc c v7 steps m loc) (h:eU (aL sc c) v7 q rem)
  (fin:∀ l,hW sc c v7 steps m l→KF .next l (cz m dm (aL sc c) q rem O)):Ex ⟨x,A.deeper (callEnvC aG L 1382),callEnvC aG L 1382,true⟩ ((gq[5]?).getD (.Pass default)) loc (cz m dm (aL sc c) q rem O) KF E:=by
 have r':=r.deeper (callEnvC aG L 1382) (m:=5) (by decide);refine uU (N1 sc c v7 q steps m dm rem O) r'.hh rfl ?_;k_extra"MX";refine kO (n:=2) fun t u w=>?_;refine ⟨_,ku (n:=2) (by decide) r'.hh,⟨g,rfl⟩,?_,?_⟩
 ·rintro i d l O' hd ⟨g',rfl⟩ x' le
  k_extra"ME";exact K8 (KF:=fun f l O4=>match f with|.next|.cont=>hW sc c v7 steps m l∧O4=cz m dm (aL sc c) q rem O|.brk=>KF .next l O4|.ret d=>KF (.ret d) l O4) (b.le le) r (fr.le le) k (g'.set rfl) h fun l gl=>⟨gl,rfl⟩
 ·rintro l O' ⟨g',rfl⟩
  exact bl (fin l g')
noncomputable def tK:D→D
 |.tup (e::_)=>e
 |d=>d
theorem pe.chain {q v7:Nat} (h:pe buf p steps q) (ch:∃ n,fc buf n q v7):∃ n,fc buf n p v7:=by
 induction h with
 |nil=>exact ch
 |cons h1 h2 _ _ _ _ ih=>obtain ⟨n,c⟩:=ih ch;exact ⟨n+1,.more h1 h2 c⟩
theorem pe.last {q:Nat} (h:pe buf p steps q):(D.int (p:Nat)::steps.map (fun s=>D.int (s.fin:Nat)))[steps.length]? = some (.int (q:Nat)):=by
 induction h with
 |nil=>rfl
 |cons h1 h2 _ _ _ _ ih=>exact ih
theorem fx.steps_len (k:fx sc c steps q v7):steps.length≤5:=by
 have h:=Cg List.length k.few;rw [List.length_map] at h;have h2:=List.length_filter_le (j3 c) (eF 0 (pcs sc));rw [kN] at h2
 have h5:(pcs sc).length≤5:=by
  refine (?_:((ed sc).map fg).length≤5);rw [List.length_map];exact jK
 lia
theorem Nh (b:ah x) (r:Rm A 6) (k:fx sc c steps q v7) (hrow:okL (a6 sc)) (g:nk sc loc) (g4:lk loc (S "cut")=some (.int c))
  (fin:∀ m dm rem l,hW sc c v7 steps m l→eU (aL sc c) v7 0 rem→Pq true ⟨x,A.deeper (callEnvC aG L 1382),callEnvC aG L 1382,true⟩ (gq.drop 3) l (cz m dm (aL sc c) 0 rem O) KF E):Pq true ⟨x,A.deeper (callEnvC aG L 1382),callEnvC aG L 1382,true⟩ gq loc O KF E:=by
 have r':=r.deeper (callEnvC aG L 1382) (m:=5) (by decide);have hl:=eQ k.le;have hr:=dU (sc:=sc);have hle:=k.le;have gg:=g;refine bF (fp ?_);k_extra"MX";refine j2 ?_;k_extra"MX";refine ⟨c,rfl,fun t=>?_⟩;refine gf (fun _ _=>⟨_,rfl⟩) (by rw [List.length_map,sizeLine_eq];lia) ?_;k_extra"MX";have e0:((a6 sc).map D.int).take c=((a6 sc).take c).map .int:=by rw [List.map_take]
 rw [e0];refine jo (fun n hn=>hrow n (List.mem_of_mem_take hn)) (by rw [List.length_take,sizeLine_eq];lia) r'.hh ?_;k_extra"MX";obtain ⟨nch,ch⟩:=k.ch
 have h0:dA (aL sc c) 0:=by
  cases hrun:steps with
  |nil=>have:=k.run;rw [hrun] at this;cases this;exact ch.head
  |cons s rest=>have:=k.run;rw [hrun] at this;cases this;assumption
 refine cK fun x' le=>bI.mono ((Kq (buf:=aL sc c) (b.le le) (r'.le (by decide)) (by lia) h0).call) fun d O' h=>?_;obtain ⟨m,dm,rfl,rfl⟩:=h;k_extra"MX";refine bF (fp (qA (kG (by kernel_rfl)) (PK (by kernel_rfl)) (by kernel_rfl) ?_ (fK rfl) rfl));k_extra"MX";refine ⟨eF 0 (pcs sc),_,cC r'.hh,j4 (j3 c) id (by rw [kN,sizeLine_eq];have h5:(pcs sc).length≤5:=by {show ((ed sc).map fg).length≤5;rw [List.length_map];exact jK};lia) ?_,?_⟩
 ·intro d hd x' le C;obtain ⟨e,f,bb,kk,t,rfl⟩:=k.ins d hd;have b':ah x':=b.le le;k_extra"MX";refine bP (fun _ _=>⟨_,rfl⟩) (by decide) (by decide) rfl ?_;k_extra"MX";exact ⟨rfl,fun _=>by k_extra"MX";exact ⟨rfl,rfl⟩,fun _=>rfl⟩
 rintro acc O2 ⟨rfl,rfl⟩
 rw [List.take_of_length_le (Nat.le_refl _),List.map_id,k.few];refine bF (fp ?_);k_extra"MX";refine cu (tM b r'.hh k.le (by k_extra"L") (by k_extra"L") (by k_extra"L") ?_);have hval:=k.val;obtain ⟨n0,ch0⟩:=k.run.chain k.ch;have hst:=k.steps_len;refine gA ?_ ?_<;>intro hs
 ·rw [if_pos hs] at hval;subst hval;k_extra"ME";exact fin m dm _ _ (by k_extra"EX") (eU.first ch0)
 ·rw [if_neg (by rw [hs];decide)] at hval;k_extra"MX";refine ⟨steps.map cm.d,_,cC r'.hh,g7 tK (by rw [List.length_map,sizeLine_eq];lia) ?_,?_⟩
  ·intro d hd x' le C;obtain ⟨s,hs',rfl⟩:=List.mem_map.mp hd;skip;k_extra"MX";refine bP (fun _ _=>⟨_,rfl⟩) (by decide) (by decide) rfl ?_;exact ⟨rfl,rfl⟩
  rintro acc O2 ⟨rfl,rfl⟩
  rw [List.take_of_length_le (Nat.le_refl _),List.map_map];refine kR (by simp only [List.length_cons,List.length_nil,List.length_map,sizeLine_eq];lia) ?_;k_extra"MX";refine pX (d:=.int (q:Nat)) (fun _ _=>⟨_,rfl⟩) (by decide) (by simp only [List.length_append,List.length_cons,List.length_nil,List.length_map];lia) (by decide) ?_ ?_
  ·have hlast:=k.run.last;have e:∀ n:Nat,n=steps.length+1→((-1:Int)+(n:Nat)).toNat=steps.length:=by intro n hn;lia
   rw [e _ (by simp only [List.length_append,List.length_cons,List.length_nil,List.length_map];lia)];exact hlast
  rw [← hval];k_extra"ME";exact fin m dm _ _ (by k_extra"EX") (eU.first ch0)
end
end
section
theorem kS {K:D→Own→Prop} {t ds} (up:cF c) (h:∀ x',c.x.le x'→aF x' c.A→yN x' c.A t ds O K E):OpN c t ds loc O K E:=fun H s Q vs R rs q =>
 h (outer c s.heap) (cq c s.heap) (up.outer R) H s Q vs (cJ R) rs fun H' s' v d O' k T le rd=>q H' s' v d O' k (Pm R T le) le rd
theorem mG {p:Option (List UInt8)}:dl n (pD p):=by cases p;exact .none;exact .bytes _
theorem As {o:Option Int}:dl n (oI o):=by cases o;exact .none;exact .int _
theorem nB (t:aZ):dl 3 t.d:=by
 skip;refine .tup fun d hd=>?_
 rcases List.mem_append.mp hd with hd|hd
 ·unfold aZ.row at hd;simp only [List.mem_cons,List.not_mem_nil,or_false] at hd
  rcases hd with rfl|rfl|rfl|rfl|rfl
  ·exact .int _
  ·exact As
  ·exact mG
  ·exact mG
  ·refine .lst fun d hd=>?_;refine al (List.mem_map.mp hd) fun p _ q1=>?_;obtain rfl:=q1;refine .tup fun d hd=>?_;simp only [List.mem_cons,List.not_mem_nil,or_false] at hd
   rcases hd with rfl|rfl
   ·exact .str _
   ·exact mG
 ·unfold aZ.ext at hd
  split at hd
  ·cases hd
  ·simp only [List.mem_cons,List.not_mem_nil,or_false] at hd
   rcases hd with rfl|rfl|rfl
   ·exact .int _
   ·exact .bool _
   ·exact .bool _
noncomputable def Er:PySem.Stmt:=(gq[4]?).getD (.Pass default)
noncomputable def JB:List PySem.Stmt:=match Er with|.If _ b _ _=>b|_=>[]
noncomputable def JA:List PySem.Stmt:=match Er with|.If _ _ b _=>b|_=>[]
noncomputable def Kf:PySem.Stmt:=(JA[1]?).getD (.Pass default)
noncomputable def zE:List PySem.Stmt:=match Kf with|.For _ _ b _ _=>b|_=>[]
section
variable {c q v7:Nat} {steps:List cm} {rem:Option Int}
def HP (sc:List Int) (c q v7:Nat) (steps:List cm) (m dm:Addr) (O:Own) (i:Nat) (loc:Loc) (O':Own):Prop :=
 hW sc c v7 steps m loc∧∃ p rem,lk loc (S "begin")=some (.int (p:Nat))∧O'=cz m dm (aL sc c) p rem O∧eU (aL sc c) v7 p rem∧pe (aL sc c) p (steps.drop i) q
theorem CK {s:cm} (b:ah x) (r:Rm A 10) (fr:aF x A) (hu:A.units+20<cLine) (k:fx sc c steps q v7) (hs:steps[i]? = some s) (h:HP sc c q v7 steps m dm O i loc O')
  (fin:∀ l O',HP sc c q v7 steps m dm O (i+1) l O'→KF .next l O') :
  Pq true ⟨x,A.deeper (callEnvC aG L 1382),callEnvC aG L 1382,true⟩ zE ((S "due",.lst (s.ts.map aZ.d))::(S "code",.int s.code)::(S "base",.int s.base)::(S "form",.int s.form)::(S "end",.int s.fin)::loc) O' KF NoE:=by
 have r':=r.deeper (callEnvC aG L 1382) (m:=9) (by decide);have hl:=eQ k.le;have hr:=dU (sc:=sc);have hle:=k.le;obtain ⟨g,p,rem,gb,rfl,mp,run⟩:=h
 have hd:steps.drop i=s::steps.drop (i+1):=by
  obtain ⟨hi,e⟩:=List.getElem?_eq_some_iff.mp hs;rw [List.drop_eq_getElem_cons hi,e]
 rw [hd] at run
 cases run with
 |@cons _ e C fs form base code ts rest _ h1 h2 h3 h4 h5 h6 =>
  refine bF (fp ?_);k_extra"MX";refine rk b (by skip;k_extra"N") ?_;k_extra"MX";refine dc (fun x' le=>(C9 (b.le le) (r'.le (by decide))).call) ?_;rw [h2];k_extra"MX";refine aT rfl (bl ?_);refine bF (M8 (xW rfl (qC (by with_unfolding_all rfl) rfl ?_)));k_extra"MX";refine rk b (by skip;k_extra"N") ?_;k_extra"MX";refine gj fun x' le=>aY.call (aY.mono (Kp (b.le le) (r'.le (by decide)) (by lia) mp h2 h3 h4) fun d O' hh=>?_);obtain ⟨bx,bdx,rfl,rfl⟩:=hh;k_extra"MX";have r2:Rm (A.deeper (callEnvC aG L 1382)) 2:=r'.le (by decide);refine bF (fp ?_);k_extra"MX";refine h5.size _ _ _ _ _ _ _ b r2 (.head _) (.tail _ (.head _)) ?_;k_extra"MX";refine h5.form _ _ _ _ _ _ _ b r2 (.head _) (.tail _ (.head _)) ?_;k_extra"MX";refine h5.base _ _ _ _ _ _ _ b r2 (.head _) (.tail _ (.head _)) ?_;k_extra"MX";refine h5.code _ _ _ _ _ _ _ b r2 (.head _) (.tail _ (.head _)) ?_;k_extra"MX";refine AL (n:=0) (fun d hd=>?_) (ny 4 hu (by decide)) ?_
  ·simp only [List.mem_cons,List.not_mem_nil,or_false] at hd
   rcases hd with rfl|rfl|rfl|rfl<;>exact .int _
  k_extra"MX";refine bF (D6 (Fa (BS (Jt (jv rfl ?_)) rfl)));k_extra"MX";refine kS (cF.body fr rfl) fun x' le fr'=>aY.call (aY.mono (h5.recs x' _ bx bdx _ _ (b.le le) fr' (r'.le (by decide)) (ny 9 hu (by decide))) fun d O' hh=>?_);obtain ⟨rfl,rfl⟩:=hh;k_extra"MX";refine mP (n:=3) (fun d hd=>by refine al (List.mem_map.mp hd) fun t _ q3=>?_;obtain rfl:=q3;exact nB t) (ny 7 hu (by decide)) ?_;have mp':=mp.next h2
  have fin':∀ rem',eU (aL sc c) v7 e rem'→Pq true ⟨x,A.deeper (callEnvC aG L 1382),callEnvC aG L 1382,true⟩ (zE.drop 4) ((S "batch",.stat (.ref bx))::(S "due",.lst (ts.map aZ.d))::(S "code",.int code)::(S "base",.int base)::(S "form",.int form)::(S "end",.int e)::loc)
    (cz m dm (aL sc c) e rem' O) KF NoE:=fun rem' hm=>by
   refine bF (fp ?_);k_extra"MX";refine eh (fin _ _ ⟨(by k_extra"EX"),e,rem',bv,rfl,hm,h6⟩)
  k_extra"MX";refine yZ (pG (hU ?_));k_extra"MX";refine gA ?_ ?_<;>intro hf
  ·refine hU ?_;k_extra"MX";refine rk b (by skip;k_extra"N") ?_;k_extra"MX";refine dc (fun x' le=>(ud (b.le le) (r'.le (by decide)) (by lia) mp').call) ?_;k_extra"MX";exact aT (by simp) (aT rfl (eh (fin' _ ⟨mp'.ch,.inr rfl⟩)))
  ·exact aT rfl (eh (fin' _ mp'))
theorem Ep (b:ah x) (r:Rm A 10) (fr:aF x A) (hu:A.units+20<cLine) (k:fx sc c steps q v7) (g:hW sc c v7 steps m loc) (mp:eU (aL sc c) v7 0 rem)
  (fin:∀ l rem',hW sc c v7 steps m l→eU (aL sc c) v7 q rem'→KF .next l (cz m dm (aL sc c) q rem' O)) :
  Pq true ⟨x,A.deeper (callEnvC aG L 1382),callEnvC aG L 1382,true⟩ JA loc (cz m dm (aL sc c) 0 rem O) KF NoE:=by
 have r':=r.deeper (callEnvC aG L 1382) (m:=9) (by decide);have g':=g;refine bF (fp ?_);k_extra"MX";refine bF (qB (HP sc c q v7 steps m dm O) (fK rfl) ?_);k_extra"MX";refine ⟨steps.map cm.d,cC r'.hh,⟨g'.set rfl,0,rem,bv,rfl,mp,k.run⟩,?_,?_⟩
 ·intro i d l O' hd hI x' le;rw [List.getElem?_map] at hd;refine al (Option.map_eq_some_iff.mp hd) fun s hs q4=>?_;obtain rfl:=q4;skip;refine NB r'.hh ?_;k_extra"ME";exact CK (KF:=fun f l O4=>match f with|.next|.cont=>HP sc c q v7 steps m dm O (i+1) l O4|.brk=>_|.ret d=>_) (b.le le) r (fr.le le) hu k hs hI fun l O' h=>h
 ·rintro l O' ⟨gl,p,rem',gb,rfl,mp',run⟩
  rw [List.length_map,List.drop_length] at run
  cases run
  exact eh (eh (fin l rem' gl mp'))
end
end
section
def HR (b:Bool) (c:Cc) (p:Pos) (es:List PySem.Expr) (loc:Loc) (O:Own) (K:List D→Own→Prop) (E:Value→Shared→Prop):Prop :=
 ∀ H s Q,ag c H loc O s→(∀ H' s' vs ds O',K ds O'→ag c H' loc O' s'→H≤H'→af H' vs ds→Q vs s')→wpB b c.M c.A (spliced (backTo p (starEach es c.env))) Q E s
section
variable {KL:List D→Own→Prop} {K:D→Own→Prop}
theorem qZ {x:Sem Value} {r:List (Bool×Sem Value)} {Q:List Value→Shared→Prop}
  (h:wpB b M A x (fun v sA=>wpB b M A (spliced r) (fun vs s2=>Q (v::vs) s2) E sA) E s):wpB b M A (spliced ((false,x)::r)) Q E s:=by
 skip;refine bD (cn h (fun v sA h_1=>?_) fun _ _ e=>e);refine av (Wp ?_);exact bD (ga (cn h_1 (fun vs s2 h_2=>dg (Wp h_2)) fun _ _ e=>e))
theorem D7 {p} (h:KL [] O):HR b c p [] loc O KL E:=fun H s Q R q=>dg (jP h H s Q R q)
theorem gJ {p e es} (hs:gw e=true) (h:EvB b c e loc O (fun d O₁=>HR b c p es loc O₁ (Jg d KL) E) E):HR b c p (e::es) loc O KL E:=fun H s Q R q=>by
 rw [j8 hs];exact qZ (h H s _ R fun H₁ sA vA d₁ O₁ h_1 R1 le1 rA=>h_1 H₁ sA _ R1 fun HB s2 vs ds O2 h_2 R2 le2 rs=>q HB s2 _ _ O2 h_2 R2 (Pt le1 le2) (.cons (rA.mono le2) rs))
theorem Ho {es k p} (h:HR b c p es loc O (Me K) E):EvB b c (.Tuple es k p) loc O K E:=fun H s Q R q=>by
 rw [arm_eval_Tuple];refine av (wpAny_standAt (bD (h H s _ R fun H₁ sA vs ds O₁ h_1 R1 le1 rs=>dg (wpAny_newTuple ?_ (by rw [rs.length];exact h_1.1)))));obtain ⟨R',le'⟩:=R1.push {cls:=.type "tuple",data:=.seq vs.toArray} sA.toks;exact q _ _ _ _ _ h_1.2 R' (Pt le1 le') (.tup Ph (rs.mono le'))
end
theorem qJ (b:ah x) [it:fY C (S "__iter__") f] [nx:fY C (S "__next__") fn] (m1:(m,SO.inst C dm)∈O) (m2:(dm,SO.attrs fs)∈O) (m1':(m,SO.inst C dm)∈O₁)
  (h:au x A (.ref f) [.stat (.ref m)] O (fun d O'=>d=.stat (.ref m)∧O'=O₁) E):bI x A (fun vs=>pyIter (vs.headD .none)) [.stat (.ref m)] O (fun d O'=>d=.stat (.ref m)∧O'=O₁) E:=fun H s Q vs R rs q=>by
 refine cG rs fun v r1=>?_
 cases r1 using ac.cStat
 obtain ⟨es,n,e,a⟩:=R.hO _ m2;have I:W.InstAt s.heap m (instObj C dm) C (some (dictOf es n)):=⟨R.hO _ m1,rfl,rfl,e⟩;obtain ⟨o1,o2⟩:=jD (it.h x.w.params);obtain ⟨n1,n2⟩:=jD (nx.h x.w.params);have X:=b.X R
 have fin:wpAny (model x.prog x.w) A (call (.ref f) [.ref m]>>=fun v=>pure (some v)) (fun r s'=>∃ H',r=some (.ref m)∧az x H' O₁ s'∧H≤H') E s :=
  Wb (wpAny_call (h H s _ [.ref m] R (.one (.stat _)) (fun H' s' v d O' kk T' le' rd=>by
   obtain ⟨rfl,rfl⟩:=kk
   cases rd using ac.cStat
   exact Wp ⟨H',rfl,T',le'⟩) fun e s' hz=>hz))
 have one:∀ refuse:Sem Value,wpAny (model x.prog x.w) A (callSpecialIfBoundUnlessNone? (.ref m) "__iter__" refuse) (fun r s'=>∃ H',r=some (.ref m)∧az x H' O₁ s'∧H≤H') E s:=by
  intro refuse;simp only [callSpecialIfBoundUnlessNone?,bindSpecialIfBound?];refine Wh (Wb (Wb (Wb (I.type.here ((looks_findIn X o1).here ?_)))))
  have fin2:wpAny (model x.prog x.w) A (if (Value.ref f==Value.none)=true then (refuse>>=fun v=>pure (some v)) else (call (.ref f) [.ref m]>>=fun v=>pure (some v))) (fun r s'=>∃ H',r=some (.ref m)∧az x H' O₁ s'∧H≤H') E s:=by
   rw [if_neg (show ¬ ((Value.ref f==Value.none)=true) from Bool.false_ne_true)];exact fin
  refine Wb (wpAny_askSetting (wpAny_ite ?_))
  split
  ·exact Wb ((bind_fn X _ o2).here (Wp (by exact fin2)))
  ·exact wpAny_tryCatch (Wb ((bind_fn X _ o2).here (Wp (by exact fin2))))
 refine (?_:wpAny _ _ (pyIter (.ref m)) _ _ _);skip;refine Wb (Wb (I.type.here ((looks_findIn X o1).here ?_)));refine (?_:wpAny _ _ (callSpecialIfBoundUnlessNone? (.ref m) "__iter__" _>>=_) Q E s);refine Wb (Wm (one _) (fun r s' hr=>?_) fun _ _ z=>z);obtain ⟨H',rfl,R',le'⟩:=hr;have t1:Looks (model x.prog x.w) s'.heap (typeOf (.ref m)) (.ref C):=(Looks.ld (R'.hO _ m1')).andThen .now;refine Wb (Wb (t1.here ((looks_findIn (b.X R') n1).here ?_)));exact Wp (q H' s' _ _ _ ⟨rfl,rfl⟩ R' le' (.stat _))
end
section
noncomputable def Fv (p:Nat) (s:cm):D:=.tup [.int ((s.fin:Int)-p),.int s.form,.int s.base,.int s.code,.lst (s.ts.map aZ.d)]
noncomputable def ji:Nat→List cm→List D
 |_,[]=>[]
 |p,s::r=>Fv p s::ji s.fin r
theorem jE:∀ {p:Nat} {l:List cm},(ji p l).length=l.length
 |_,[]=>rfl
 |_,_::l=>by simp [ji,jE (l:=l)]
section
variable {c q v7:Nat} {steps:List cm} {rem:Option Int}
def Pa (sc:List Int) (c q v7:Nat) (steps:List cm) (m dm:Addr) (O:Own) (k:Nat) (acc:List D) (O':Own):Prop :=
 ∃ todo p rem,k=todo.length∧acc++ji p todo=ji 0 steps∧pe (aL sc c) p todo q∧eU (aL sc c) v7 p rem∧O'=cz m dm (aL sc c) p rem O
theorem PT (b:ah x) (r:Rm A 10) (fr:aF x A) (hu:A.units+20<cLine) (k:fx sc c steps q v7) (hsh:du sc c=false) (g5:lk loc (S "memory")=some (.stat (.ref m))) (mp:eU (aL sc c) v7 0 rem)
  (fin:∀ rem',eU (aL sc c) v7 q rem'→KF .next ((S "told",.lst (ji 0 steps))::loc) (cz m dm (aL sc c) q rem' O)) :
  ExB true ⟨x,A.deeper (callEnvC aG L 1382),callEnvC aG L 1382,true⟩ ((JB[0]?).getD (.Pass default)) loc (cz m dm (aL sc c) 0 rem O) KF NoE:=by
 have r':=r.deeper (callEnvC aG L 1382) (m:=9) (by decide);have hl:=eQ k.le;have hr:=dU (sc:=sc);have hle:=k.le;have hst:=k.steps_len;have last:=k.last;rw [if_neg (by rw [hsh];decide)] at last;refine n8 (kG (by kernel_rfl)) (PK (by kernel_rfl)) (by kernel_rfl) rfl rfl ?_;k_extra"MX";refine cK fun x' le=>bI.mono (qJ (b.le le) (.head _) (.tail _ (.head _)) (.head _) (qN (b.le le) (r'.le (by decide)))) fun d O' hh=>?_;obtain ⟨rfl,rfl⟩:=hh;refine ⟨.ref m,steps.length,Pa sc c q v7 steps m dm O,rfl,⟨steps,0,rem,rfl,rfl,k.run,mp,rfl⟩,fun x' le=>qJ (b.le le) (.head _) (.tail _ (.head _)) (.head _) (qN (b.le le) (r'.le (by decide))),?_⟩
 rintro n acc O' ⟨todo,p,rem',rfl,eq,run,mp',rfl⟩
 have hacc:acc.length≤5:=by
  have:=Cg List.length eq;rw [List.length_append,jE,jE] at this;lia
 refine ⟨by lia,fun xA le1 hx C=>?_⟩;refine Hq hx fun H₀ l₀ O0 s0 R0 lx=>?_;have fr1:aF xA (A.deeper (callEnvC aG L 1382)):=((cF.body fr rfl).outer R0).le lx;have bA:ah xA:=b.le le1;refine xp bA (.inl fr1) (.head _) (.tail _ (.head _)) fun xB le2 fr2=>?_;have bB:ah xB:=bA.le le2
 cases run with
 |nil =>
  refine au.N fun H s Q vs R rs q' qe=>?_;refine Gm bB (r'.le (by decide)) fr2 last H s Q vs R rs (fun _ _ _ _ _ z=>z.elim) fun e s z=>qe e s ⟨_,?_,z⟩;simp only [ji,List.append_nil] at eq;rw [eq];exact fin rem' mp'
 |@cons _ e C' fs form base code ts rest _ h1 h2 h3 h4 h5 h6 =>
  refine aY.mono (Gn bB (r'.le (by decide)) (by lia) mp' h2 h3 h4) fun d O' hh=>?_;obtain ⟨bx,bdx,rfl,rfl⟩:=hh;have r2:Rm (A.deeper (callEnvC aG L 1382)) 2:=r'.le (by decide);k_extra"MX";refine mF (bw rfl (Ho (gJ rfl (m7 ?_))));k_extra"MX";refine h5.size _ _ _ _ _ _ _ bA r2 (.head _) (.tail _ (.head _)) ?_;refine gJ rfl (m7 ?_);k_extra"MX";refine h5.form _ _ _ _ _ _ _ bA r2 (.head _) (.tail _ (.head _)) ?_;refine gJ rfl (m7 ?_);k_extra"MX";refine h5.base _ _ _ _ _ _ _ bA r2 (.head _) (.tail _ (.head _)) ?_;refine gJ rfl (m7 ?_);k_extra"MX";refine h5.code _ _ _ _ _ _ _ bA r2 (.head _) (.tail _ (.head _)) ?_;refine gJ rfl (Jt (jv rfl ?_));k_extra"MX";refine kS (.inl fr1) fun x3 le3 fr3=>aY.call (aY.mono (h5.recs x3 _ bx bdx _ _ (bA.le le3) fr3 (r'.le (by decide)) (ny 9 hu (by decide))) fun d O' hh=>?_);obtain ⟨rfl,rfl⟩:=hh;refine D7 ⟨by rw [sizeLine_eq];simp,rest.length,Nat.lt_succ_self _,rest,e,_,rfl,?_,h6,mp'.next h2,rfl⟩;rw [← eq];simp [ji,Fv]
end
end
section
theorem vd:∀ (steps:List cm) (p j:Nat) (s:cm) (d:D),steps[j]? = some s→(D.int (p:Nat)::steps.map (fun s=>D.int (s.fin:Nat)))[j]? = some d→∃ e:Nat,d=.int e∧(ji p steps)[j]? = some (Fv e s)
 |t::steps,p,0,s,d,h1,h2=>by
  simp only [List.getElem?_cons_zero,Option.some.injEq] at h1 h2;subst h1;subst h2;exact ⟨p,rfl,rfl⟩
 |t::steps,p,j+1,s,d,h1,h2=>by
  simp only [List.getElem?_cons_succ] at h1 h2;exact vd steps t.fin j s d h1 h2
section
variable {c q v7:Nat} {steps:List cm} {rem:Option Int}
theorem w5 {s:cm}:dl 5 (Fv p s):=by
 skip;refine .tup fun d hd=>?_;simp only [List.mem_cons,List.not_mem_nil,or_false] at hd
 rcases hd with rfl|rfl|rfl|rfl|rfl
 ·exact .int _
 ·exact .int _
 ·exact .int _
 ·exact .int _
 ·exact .lst fun d hd=>by refine al (List.mem_map.mp hd) fun t _ q1=>?_;obtain rfl:=q1;exact nB t
theorem nE:∀ {p:Nat} {l:List cm},∀ d∈ji p l,dl 5 d
 |_,[],d,hd=>by cases hd
 |p,s::l,d,hd=>by
  rcases List.mem_cons.mp hd with rfl|hd
  ·exact w5
  ·exact nE d hd
theorem K9 (b:ah x) (r:Rm A 10) (fr:aF x A) (hu:A.units+20<cLine) (k:fx sc c steps q v7) (hsh:du sc c=false) (g:hW sc c v7 steps m loc) (mp:eU (aL sc c) v7 0 rem)
  (fin:∀ l rem',hW sc c v7 steps m l→eU (aL sc c) v7 q rem'→KF .next l (cz m dm (aL sc c) q rem' O)) :
  Pq true ⟨x,A.deeper (callEnvC aG L 1382),callEnvC aG L 1382,true⟩ JB loc (cz m dm (aL sc c) 0 rem O) KF NoE:=by
 have r':=r.deeper (callEnvC aG L 1382) (m:=9) (by decide);have hst:=k.steps_len;have g':=g;refine bF (PT b r fr hu k hsh (by k_extra"L") mp fun rem' mp'=>?_);refine bF (fp ?_);k_extra"MX";refine ⟨steps.map cm.d,_,cC r'.hh,g7 tK (by rw [List.length_map,sizeLine_eq];lia) ?_,?_⟩
 ·intro d hd x' le C;refine al (List.mem_map.mp hd) fun s hs' q2=>?_;obtain rfl:=q2;skip;k_extra"MX";refine bP (fun _ _=>⟨_,rfl⟩) (by decide) (by decide) rfl ?_;exact ⟨rfl,rfl⟩
 rintro acc O2 ⟨rfl,rfl⟩
 rw [List.take_of_length_le (Nat.le_refl _),List.map_map];refine kR (by simp only [List.length_cons,List.length_nil,List.length_map,sizeLine_eq];lia) ?_;have ee:[D.int 0]++steps.map (tK ∘ cm.d)=D.int ((0:Nat):Int)::steps.map (fun s=>D.int (s.fin:Nat)):=rfl;rw [ee];k_extra"MX";refine bF (fp (qz (yY ?_ (by kernel_rfl))));refine fT (by k_extra"L") (PK (by kernel_rfl)) (by kernel_rfl) ?_;refine M9 (wf (kG (by kernel_rfl)) rfl ?_);k_extra"MX";refine vv fun l1 l2 z TI TO i1 i2=>?_;refine dc (fun x' le=>me) ?_;refine ⟨.ref z,steps.length+1,fun k acc O'=>∃ j,k+j=steps.length+1∧acc=(ji 0 steps).take j∧O'=pv z TI TO i1 i2 (gY l1 j) (gY l2 j) _ _++cz m dm (aL sc c) q rem' O,rfl,⟨0,rfl,rfl,rfl⟩,fun x' le=>me,?_⟩
 rintro n acc O' ⟨j,e1,rfl,rfl⟩
 refine ⟨by rw [List.length_take];lia,fun xA le1 _ C=>?_⟩;refine CS r'.hh (fun H h=>j1 H h) (fun H h=>j1 H h) (fun hn=>?_) fun d1 d2 h1 h2=>?_
 ·have hj:steps.length≤j:=by
   rcases hn with hn|hn
   ·rw [List.getElem?_eq_none_iff,List.length_cons,List.length_map] at hn;lia
   ·rw [List.getElem?_eq_none_iff,List.length_map] at hn;exact hn
  rw [List.take_of_length_le (by rw [jE];exact hj)];refine mP (n:=5) nE (ny 9 hu (by decide)) ?_;refine BU (aT rfl (bl (eh ?_)));exact fin _ _ ((g'.set rfl).set rfl) mp'
 ·rw [List.getElem?_map] at h2;refine al (Option.map_eq_some_iff.mp h2) fun s hs q3=>?_;obtain rfl:=q3;refine al (vd steps 0 j s d1 hs h1) fun e q4 hrow=>?_;obtain rfl:=q4;have hj:j<steps.length:=(List.getElem?_eq_some_iff.mp hs).1;skip;refine JJ r'.hh ?_;k_extra"MX";refine mF (bw rfl (m7 ?_));k_extra"MX"
  repeat (refine bP (fun _ _=>⟨_,rfl⟩) (by decide) (by decide) rfl ?_;k_extra"MX")
  refine ⟨steps.length-j,by lia,j+1,by lia,?_,rfl⟩;rw [List.take_add_one,hrow]
  rfl
end
end
section
theorem Pq.dropO {ss loc O E} (h:Pq b c ss loc O (fun f l O'=>∃ O3,O3.Sublist O'∧KF f l O3) E):Pq b c ss loc O KF E:=fun H s Q R q=>h H s Q R fun H' s' f g l O' k R' le fi=>by
 refine al k fun O3 sb k=>?_;exact q H' s' f g l O3 k (R'.sub sb) le fi
section
variable {c q v7:Nat} {steps:List cm} {rem:Option Int}
theorem Nf (b:ah x) (r:Rm A 10) (fr:aF x A) (hu:A.units+20<cLine) (k:fx sc c steps q v7) (g:hW sc c v7 steps m loc) (mp:eU (aL sc c) v7 0 rem)
  (fin:∀ l rem',hW sc c v7 steps m l→eU (aL sc c) v7 q rem'→KF .next l (cz m dm (aL sc c) q rem' O)) :
  ExB true ⟨x,A.deeper (callEnvC aG L 1382),callEnvC aG L 1382,true⟩ Er loc (cz m dm (aL sc c) 0 rem O) KF NoE:=by
 have r':=r.deeper (callEnvC aG L 1382) (m:=9) (by decide);have g':=g;refine D6 (yZ (pG (hU ?_)));k_extra"MX";refine gA ?_ ?_<;>intro hf
 ·refine hU (E9 (tM b r'.hh k.le (by k_extra"L") (by k_extra"L") (by k_extra"L") ?_))
  by_cases hs:du sc c=true
  ·rw [hs];exact aT rfl (aT rfl (Ep b r fr hu k g' mp fin))
  ·rw [Bool.not_eq_true] at hs;rw [hs];exact bw rfl (nW (bw rfl (K9 b r fr hu k hs g' mp fin)))
 ·exact aT rfl (Ep b r fr hu k g' mp fin)
theorem Hr (b:ah x) (r:Rm A 10) (fr:aF x A) (hu:A.units+20<cLine) (k:fx sc c steps q v7) (hrow:okL (a6 sc)) (g:nk sc loc) (g4:lk loc (S "cut")=some (.int c))
  (fin:∀ l,nk sc l→KF .next l O):Pq true ⟨x,A.deeper (callEnvC aG L 1382),callEnvC aG L 1382,true⟩ gq loc O KF NoE:=by
 refine Pq.dropO (Nh b (r.le (by decide)) k hrow g g4 fun m dm rem l gl mp=>?_);refine bF (fp (Ng b (r.le (by decide)) k gl mp fun rem' mp'=>?_));refine bF (Nf b r fr hu k gl mp' fun l_2 rem2 gl2 mp2=>?_);refine bF (fp (Nd b (r.le (by decide)) fr k gl2 mp2 fun lC gl3=>?_));refine bF (fp (Nc b (r.le (by decide)) k gl3 mp2 fun rem3=>?_));exact eh ⟨O,.cons _ (.cons _ (.refl _)),fin _ (by k_extra"EX")⟩
theorem JP {p:Pos} (h:St cc (storeName cc.env y) d loc O KS NoE):Tgt cc (.Name y p) d loc O KS:=fun H s Q v R rd q=>wpAny_assign_Name (h H s Q v R rd q)
theorem No (b:ah x) (r:Rm A 12) (fr:aF x A) (hu:A.units+30<cLine) (hz:sc.length≤1000) (hrow:okL (a6 sc)) (hpos:0<(a6 sc).length) (hok:∀ n:Int,n%5≠0→n%5≠4→n%5≠3→okL (sqL (bz (n%5-1) (n/5) 2)))
  (hcut:∀ c,c≤(a6 sc).length→∃ steps q v7,fx sc c steps q v7) :
  aY x A (.ref 1382) [.lst (sc.map .int)] O (fun d O'=>d=.bool true∧O'=O) E:=by
 refine fR (fd:=aG) (names:=[S "script"]) (dx:=[]) b (fun P=>by kernel_rfl) (fun P=>by kernel_rfl) (by decide +kernel) r [] ?_ (fun _=>.nil) [(S "script",.lst (sc.map .int))] rfl fun L=>?_
 ·intro P St;exact aH fun _=>bM (by kernel_rfl)
 have r':=r.deeper (callEnvC aG L 1382) (m:=11) (by decide);have hr:=dU (sc:=sc);refine Gv b (r'.le (by decide)) hok hz fun loc g=>?_;refine aE (Js (qB (fun i l O'=>nk sc l∧O'=O) (fK rfl) ?_));have g':=g;k_extra"MX";refine eG (by rw [List.length_map];lia) ?_;k_extra"MX";refine eG (by rw [List.length_map];lia) ?_;k_extra"MX";refine eG (by rw [List.length_map];lia) ?_;k_extra"MX";refine Kc (by lia) ?_;k_extra"MX";rw [List.length_map];refine ⟨_,cC r'.hh,⟨g',rfl⟩,?_,?_⟩
 ·rintro i d l O' hd ⟨gl,rfl⟩ x' le
  obtain ⟨c,hc,rfl⟩:∃ c:Nat,c≤(a6 sc).length∧d=.int c:=by
   have hm:=List.mem_of_getElem? hd;simp only [List.mem_cons,List.not_mem_nil,or_false] at hm
   rcases hm with rfl|rfl|rfl
   ·exact ⟨_,Nr _,rfl⟩
   ·exact ⟨(a6 sc).length-1,by lia,Cg D.int (by lia)⟩
   ·have h1:=Int.emod_nonneg (bN sc/3) (b:=((a6 sc).length:Int)+1) (by lia);have h2:=Int.emod_lt_of_pos (bN sc/3) (b:=((a6 sc).length:Int)+1) (by lia);exact ⟨(bN sc/3%(((a6 sc).length:Int)+1)).toNat,by lia,Cg D.int (by lia)⟩
  refine Na (hcut c hc) fun steps q v7 k=>?_;refine JP (BK (by kernel_rfl) rfl rfl ?_);exact Hr (KF:=fun f l O4=>match f with|.next|.cont=>nk sc l∧O4=O'|.brk=>_|.ret d=>_) (b.le le) (r.le (by decide)) (fr.le le) (by lia) k hrow (by k_extra"EX") bv fun l gl=>⟨gl,rfl⟩
 ·rintro l O' ⟨gl,rfl⟩
  refine eh (fF (ad ?_));k_extra"MX";exact bT ⟨rfl,rfl⟩
end
end
section
open PySem.Builtin PySem.Builtin.Struct
noncomputable def qT (l:List UInt8):Nat:=l.foldl (fun a b=>a*256+b.toNat) 0
theorem yF {b:UInt8}:qT (l++[b])=qT l*256+b.toNat:=by simp [qT,List.foldl_append]
theorem aq.raw {ns:List Int} (h:aq l p ns):(l.drop p).take ns.length=bR ns:=by
 apply List.ext_getElem?;intro i;unfold bR;rw [List.getElem?_take,List.getElem?_map]
 split
 ·rename_i hi;rw [List.getElem?_drop];have e:=List.getElem?_eq_getElem hi;rw [(h i _ e).1,e];rfl
 ·rename_i hi;rw [List.getElem?_eq_none_iff.mpr (by lia)];rfl
theorem r9 {ns:List Int} (ok:okL ns) (h:(l.drop p).take ns.length=bR ns):aq l p ns:=fun i n e=>by
 have hi:i<ns.length:=(List.getElem?_eq_some_iff.mp e).1;have z:=Cg (·[i]?) h;simp only [List.getElem?_take,if_pos hi,List.getElem?_drop,bR,List.getElem?_map,e,Option.map_some] at z;have:=ok n (List.mem_of_getElem? e);exact ⟨z,this.1,this.2⟩
theorem xP:am v (n+1)=am (v/256) n++[v%256]:=by
 unfold am;rw [List.range_succ,List.map_append]
 congr 1
 ·apply List.map_congr_left;intro k hk;have hk:=List.mem_range.mp hk;rw [Int.ediv_ediv_of_nonneg (by lia)]
  congr 2
  rw [(by rw [Nat.add_sub_cancel,Nat.sub_right_comm,Nat.sub_add_cancel (Nat.sub_pos_of_lt hk)]:n+1-1-k=(n-1-k)+1),Int.pow_succ,Int.mul_comm]
 ·simp
theorem bq:∀ {v:Int},okL (am v n):=by
 intro v m hm;unfold am at hm;refine al (List.mem_map.mp hm) fun k _ q1=>?_;obtain rfl:=q1;lia
theorem wC:∀ {n:Nat} {v:Int},(qT (bR (am v n)):Int)=v%256^n
 |0,v=>by simp [am,bR,qT,Int.emod_one]
 |n+1,v=>by
  rw [xP];unfold bR;rw [List.map_append,List.map_cons,List.map_nil,yF];have ih:=wC (n:=n) (v:=v/256);unfold bR at ih;have h:(((v%256).toNat.toUInt8).toNat:Int)=v%256:=BP (Int.emod_nonneg v (by decide)) (Int.emod_lt_of_pos v (by decide))
  push_cast
  rw [ih,h,Int.pow_succ,Int.mul_comm (256^n) 256,Int.emod_def (v/256),Int.emod_def v (256*256^n),← Int.ediv_ediv_of_nonneg (by decide:(0:Int)≤256),Int.mul_assoc];generalize (256:Int)^n*(v/256/256^n)=t;lia
theorem CW {a:Array UInt8}:natOf true a=qT a.toList:=by
 unfold natOf Memoryview.littleEndian qT;simp
theorem j5 {off:Nat} {ch:Char} (hb:f.bigEndian=true) (h:aq l (p+off) (am v n)):aO f l.toArray p ⟨ch,1,off,n⟩=if ch.isLower&&(v%256^n).toNat ≥ 2^(8*n-1) then v%256^n-2^(8*n) else v%256^n:=by
 have e:natOf f.bigEndian (l.toArray.extract (p+off+0*n) (p+off+(0+1)*n))=(v%256^n).toNat:=by
  rw [hb,CW]
  have e1:(l.toArray.extract (p+off+0*n) (p+off+(0+1)*n)).toList=bR (am v n):=by
   have hr:=h.raw;rw [aA] at hr;rw [← hr];simp
  rw [e1];have:=wC (n:=n) (v:=v);lia
 have hp:(0:Int)≤v%256^n:=Int.emod_nonneg _ (by have:(0:Int)<256^n:=Int.pow_pos (by decide);lia);unfold aO;simp only [e]
 split<;>lia
theorem Fs {H:Int} (hH:0<H) (h0:-H≤v) (h1:v<H):(v%(2*H)=v∧0≤v)∨(v%(2*H)=v+2*H∧v<0):=by
 by_cases hv:0≤v
 ·exact .inl ⟨Int.emod_eq_of_lt hv (by lia),hv⟩
 ·refine .inr ⟨?_,Int.not_le.mp hv⟩;rw [← Int.add_emod_right];exact Int.emod_eq_of_lt (by lia) (by lia)
theorem yV {off:Nat} {ch:Char} (hn:0<n) (hc:ch.isLower=true) (hb:f.bigEndian=true) (h:aq l (p+off) (am v n)) (h0:-2^(8*n-1)≤v) (h1:v<2^(8*n-1)):aO f l.toArray p ⟨ch,1,off,n⟩=v:=by
 rw [j5 hb h,hc,Bool.true_and]
 have e2:(2:Int)^(8*n)=2*2^(8*n-1):=by
  rw [(by lia:8*n=8*n-1+1),Int.pow_succ,Int.mul_comm];rfl
 have e1:(256:Int)^n=2*2^(8*n-1):=by rw [← e2,Int.pow_mul];rfl
 have e3:((2^(8*n-1):Nat):Int)=2^(8*n-1):=by rw [Int.natCast_pow];rfl
 rw [e1,e2];have hp:(0:Int)<2^(8*n-1):=Int.pow_pos (by decide);have s:=Fs hp h0 h1;rw [← e3] at s h0 h1 ⊢;generalize 2^(8*n-1)=H at s h0 h1 ⊢
 rcases s with ⟨s,hv⟩|⟨s,hv⟩<;>rw [s]
 ·rw [if_neg (by rw [decide_eq_true_eq];lia)]
 ·rw [if_pos (by rw [decide_eq_true_eq];lia)];lia
theorem rF {off:Nat} (hb:f.bigEndian=true) (h:aq l (p+off) (am v 8)) (h0:-2^63≤v) (h1:v<2^63):aO f l.toArray p ⟨'q',1,off,8⟩=v:=yV (by decide) (by decide) hb h h0 h1
theorem je {off:Nat} (hb:f.bigEndian=true) (h:aq l (p+off) (am v 4)) (h0:-2^31≤v) (h1:v<2^31):aO f l.toArray p ⟨'i',1,off,4⟩=v:=yV (by decide) (by decide) hb h h0 h1
theorem yW {off:Nat} (hb:f.bigEndian=true) (h:aq l (p+off) (am v 2)) (h0:-2^15≤v) (h1:v<2^15):aO f l.toArray p ⟨'h',1,off,2⟩=v:=yV (by decide) (by decide) hb h h0 h1
theorem Hd (h0:0≤v) (h1:v<256):am v 1=[v]:=by
 have:v%256=v:=by lia
 simp [am,this]
theorem uW {off:Nat} (hb:f.bigEndian=true) (h:aq l (p+off) [v]) (h0:0≤v) (h1:v<128):aO f l.toArray p ⟨'b',1,off,1⟩=v :=
 yV (by decide) (by decide) hb (Hd h0 (Int.lt_trans h1 (by decide))▸h) (Int.le_trans (by decide) h0) h1
end
structure nr (l:List UInt8) (p:Nat) (b k c:Int) (body:List Int):Prop where
 f0:aq l (p+0) (am b 8)
 f1:aq l (p+8) (am (49+body.length) 4)
 f2:aq l (p+12) (am c 4)
 f3:aq l (p+16) [2]
 f4:aq l (p+17) (am 0 4)
 f5:aq l (p+21) (am k 2)
 f6:aq l (p+23) (am 70 4)
 f7:aq l (p+27) (am 1000 8)
 f8:aq l (p+35) (am 2000 8)
 f9:aq l (p+43) (am (-1) 8)
 f10:aq l (p+51) (am (-1) 2)
 f11:aq l (p+53) (am (-1) 4)
 f12:aq l (p+57) (am c 4)
 f13:aq l (p+61) body
theorem nM {b k c:Int} {body:List Int}:cT b k c body=am b 8++(am (49+body.length) 4++(am c 4++([2]++(am 0 4++(am k 2++(am 70 4++(am 1000 8++(am 2000 8++(am (-1) 8++(am (-1) 2++(am (-1) 4++(am c 4++body)))))))))))):=by
 unfold cT;simp only [List.append_assoc]
theorem aq.rf {b:List Int} (h:aq l p (am v n++b)):aq l (p+n) b:=aA (v:=v) (n:=n)▸h.right
theorem GR {b k c:Int} {body:List Int} (h:aq l p (cT b k c body)):nr l p b k c body:=by
 rw [nM] at h;have r3:aq l (p+17) _:=h.rf.rf.rf.right;have r8:=r3.rf.rf.rf.rf.rf;exact ⟨h.left,h.rf.left,h.rf.rf.left,h.rf.rf.rf.left,r3.left,r3.rf.left,r3.rf.rf.left,r3.rf.rf.rf.left,r3.rf.rf.rf.rf.left,r8.left,r8.rf.left,r8.rf.rf.left,r8.rf.rf.rf.left,r8.rf.rf.rf.rf⟩
theorem nr.unp {b k c:Int} {body:List Int} (h:nr l 0 b k c body) (b0:-2^63≤b) (b1:b<2^63) (k0:0≤k) (k1:k<2^15) (c0:0≤c) (c1:c<2^31) (hz:body.length≤1000000) :
  dh fV2 l 0=[b,49+body.length,c,2,0,k,70,1000,2000,-1,-1,-1,c]:=by
 have e4:aO fV2 l.toArray 0 ⟨'I',1,17,4⟩=0:=by
  rw [j5 rfl h.f4];simp [(by decide:('I':Char).isLower=false)]
 skip
 show [aO fV2 l.toArray 0 ⟨'q',1,0,8⟩,aO fV2 l.toArray 0 ⟨'i',1,8,4⟩,aO fV2 l.toArray 0 ⟨'i',1,12,4⟩,aO fV2 l.toArray 0 ⟨'b',1,16,1⟩,aO fV2 l.toArray 0 ⟨'I',1,17,4⟩,aO fV2 l.toArray 0 ⟨'h',1,21,2⟩,aO fV2 l.toArray 0 ⟨'i',1,23,4⟩,
  aO fV2 l.toArray 0 ⟨'q',1,27,8⟩,aO fV2 l.toArray 0 ⟨'q',1,35,8⟩,aO fV2 l.toArray 0 ⟨'q',1,43,8⟩,aO fV2 l.toArray 0 ⟨'h',1,51,2⟩,aO fV2 l.toArray 0 ⟨'i',1,53,4⟩,aO fV2 l.toArray 0 ⟨'i',1,57,4⟩]=_
 rw [e4,rF rfl h.f0 b0 b1,je rfl h.f1 (by lia) (by lia),je rfl h.f2 (by lia) (by lia),uW rfl h.f3 (by decide) (by decide),yW rfl h.f5 (by lia) (by lia),je rfl h.f6 (by decide) (by decide),
  rF rfl h.f7 (by decide) (by decide),rF rfl h.f8 (by decide) (by decide),rF rfl h.f9 (by decide) (by decide),yW rfl h.f10 (by decide) (by decide),je rfl h.f11 (by decide) (by decide),je rfl h.f12 (by lia) (by lia)]
theorem nr.mg {b k c:Int} {body:List Int} (h:nr l 0 b k c body):Gk l=2:=by
 have f:=h.f3;skip;exact uW (off:=0) rfl f (by decide) (by decide)
noncomputable def eM (rs:List (Int×Int)):List Int:=rs.flatMap fun p=>List.replicate p.1.toNat p.2
theorem Pu {rs:List (Int×Int)} {o:Int} (h:∀ p∈rs,1≤p.1):eM (dF rs o)=eM rs++[o]∧∀ p∈dF rs o,1≤p.1:=by
 rcases List.eq_nil_or_concat rs with rfl|⟨pre,⟨n,b⟩,rfl⟩
 ·exact ⟨rfl,by simp [dF]⟩
 ·have hn:1≤n:=h (n,b) (by simp);unfold dF;simp only [List.concat_eq_append,List.getLast?_append,List.getLast?_singleton,Option.some_or,List.dropLast_concat] at h ⊢
  split
  ·rename_i hb;subst hb
   constructor
   ·unfold eM;simp only [List.flatMap_append,List.flatMap_cons,List.flatMap_nil,List.append_nil,List.append_assoc]
    congr 1
    rw [(by lia:(n+1).toNat=n.toNat+1),List.replicate_succ']
   ·intro p hp
    rcases List.mem_append.mp hp with hp|hp
    ·exact h p (List.mem_append_left _ hp)
    ·rw [List.mem_singleton] at hp;subst hp;refine (?_:1≤n+1);lia
  ·constructor
   ·unfold eM;simp
   ·intro p hp
    rcases List.mem_append.mp hp with hp|hp
    ·exact h p hp
    ·rw [List.mem_singleton] at hp;subst hp;exact Int.le_refl _
theorem gZ {α:Type} {f:α→List Int} {a:α}:∀ {l:List α},a∈l→(f a).length≤(l.flatMap f).length
 |b::l,h=>by
  rw [List.flatMap_cons,List.length_append]
  rcases List.mem_cons.mp h with rfl|h
  ·lia
  ·have:=gZ (f:=f) h;lia
theorem w9 {row:List Int}:eM (rle row)=row∧∀ p∈rle row,1≤p.1:=by
 have key:∀ (row:List Int) (rs:List (Int×Int)),(∀ p∈rs,1≤p.1)→eM (row.foldl dF rs)=eM rs++row∧∀ p∈row.foldl dF rs,1≤p.1:=by
  intro row
  induction row with
  |nil=>intro rs h;exact ⟨by simp,h⟩
  |cons o row ih =>
   intro rs h;obtain ⟨h1,h2⟩:=Pu (o:=o) h;obtain ⟨h3,h4⟩:=ih _ h2;exact ⟨by rw [List.foldl_cons,h3,h1,List.append_assoc];rfl,h4⟩
 have:=key row [] (by simp)
 simpa [rle,eM] using this
theorem px:∀ (rs:List (Int×Int)),(∀ p∈rs,0≤p.1∧p.1<256)→df (bR (rs.flatMap fun p=>[p.1,p.2]))=bR (eM rs)
 |[],_=>rfl
 |(n,b)::rs,h=>by
  have ih:=px rs fun p hp=>h p (.tail _ hp);have hn:=h (n,b) (.head _);unfold bR eM at ih ⊢;simp only [List.flatMap_cons,List.map_append,List.map_cons,List.map_nil,List.cons_append,List.nil_append,df,List.map_replicate] at ih ⊢;rw [ih]
  congr 2
  exact Int.ofNat.inj ((BP hn.1 hn.2).trans (Int.toNat_of_nonneg hn.1).symm)
theorem qf {rs:List (Int×Int)} {p:Int×Int} (hp:p∈rs) (h1:1≤p.1):p.2∈eM rs∧p.1.toNat≤(eM rs).length:=by
 unfold eM
 constructor
 ·exact List.mem_flatMap.mpr ⟨p,hp,List.mem_replicate.mpr ⟨by lia,rfl⟩⟩
 ·have:=gZ (f:=fun p:Int×Int=>List.replicate p.1.toNat p.2) hp
  simpa using this
theorem y7 {row:List Int} (ok:okL row) (hz:row.length≤255):okL (sqL row)∧df (bR (sqL row))=bR row:=by
 obtain ⟨h1,h2⟩:=w9 (row:=row)
 have h3:∀ p∈rle row,0≤p.1∧p.1<256:=fun p hp=>by
  have a:=h2 p hp;have b:=(qf hp a).2;rw [h1] at b;lia
 constructor
 ·intro n hn;unfold sqL at hn;refine al (List.mem_flatMap.mp hn) fun p hp hn=>?_;simp only [List.mem_cons,List.not_mem_nil,or_false] at hn
  rcases hn with rfl|rfl
  ·exact h3 p hp
  ·have:=(qf hp (h2 p hp)).1;rw [h1] at this;exact ok _ this
 ·unfold sqL;rw [px _ h3,h1]
theorem uX:∀ (l:List UInt8),(df l).length≤255*l.length
 |[]=>by simp [df]
 |[a]=>by simp [df]
 |n::b::r=>by
  have ih:=uX r;have hn:n.toNat<256:=n.toNat_lt;refine (?_:(List.replicate n.toNat b++df r).length≤_);rw [List.length_append,List.length_replicate];simp only [List.length_cons];lia
theorem ao {a b:List Int} (h1:okL a) (h2:okL b):okL (a++b):=fun n hn=>(List.mem_append.mp hn).elim (h1 n) (h2 n)
theorem zH:okL []:=fun n hn=>by cases hn
theorem gk {α:Type} {f:α→List Int} {l:List α} (h:∀ a∈l,okL (f a)):okL (l.flatMap f):=fun n hn=>by
 refine al (List.mem_flatMap.mp hn) fun a ha hn=>?_;exact h a ha n hn
theorem vJ:okL (fh k):=fun n hn=>by
 refine al (List.mem_map.mp hn) fun b _ q1=>?_;obtain rfl:=q1;have:=b.toNat_lt;refine (?_:(0:Int)≤(b.toNat:Int)∧(b.toNat:Int)<256);lia
theorem p8:∀ (k:Nat) (r:Int),0≤r→r<128^(k+1)→okL (ci k r)∧∀ j:Nat,1≤j→r<128^j→(ci k r).length≤j
 |0,r,h0,h1=>by
  refine ⟨fun n hn=>?_,fun j hj _=>by simpa [ci] using hj⟩;simp only [ci,List.mem_singleton] at hn;subst hn;lia
 |k+1,r,h0,h1=>by
  have hd:r/128<128^(k+1):=by
   rw [Int.pow_succ] at h1;exact Int.ediv_lt_of_lt_mul (by decide) h1
  obtain ⟨a,b⟩:=p8 k (r/128) (by lia) hd;unfold ci
  split
  ·rename_i hr;refine ⟨fun n hn=>?_,fun j hj hl=>?_⟩
   ·rcases List.mem_cons.mp hn with rfl|hn
    ·lia
    ·exact a n hn
   ·cases j with
    |zero=>lia
    |succ j =>
     cases j with
     |zero=>simp at hl;lia
     |succ j =>
      have:=b (j+1) (by lia) (by rw [Int.pow_succ] at hl;exact Int.ediv_lt_of_lt_mul (by decide) hl);rw [List.length_cons];lia
  ·rename_i hr;refine ⟨fun n hn=>?_,fun j hj _=>by simpa using hj⟩;simp only [List.mem_singleton] at hn;subst hn;lia
theorem kZ (h0:-2^62≤v) (h1:v<2^62):okL (aR v):=by
 refine (p8 9 (zig v) mC ?_).1;have:=tH h0 h1;have e:(128:Int)^(9+1)=1180591620717411303424:=by decide
 rw [e];lia
theorem po {j:Nat} (h0:-2^62≤v) (h1:v<2^62) (hj:1≤j) (h:zig v<128^j):(aR v).length≤j:=by
 refine (p8 9 (zig v) mC ?_).2 j hj h;have:=tH h0 h1;have e:(128:Int)^(9+1)=1180591620717411303424:=by decide
 rw [e];lia
structure nj (P:Pc):Prop where
 ok:okL P.laid
 lo:26≤P.laid.length
 hi:P.laid.length≤1000
 len:∀ l p,aq l p (P.laid.take 12)→fw l p=(P.laid.length:Int)-12
 bat:∃ C fs ts,ew (bR P.laid) C fs∧jV C fs P.laid.length P.form P.base P.code ts∧P.told=ts.map aZ.d
theorem dj {l:List Int}:(bR l).length=l.length:=by simp [bR]
theorem kX {l:List Int} (ok:okL l):aq (bR l) 0 l:=r9 ok (by rw [List.drop_zero,List.take_of_length_le (by rw [dj];exact Nat.le_refl _)])
theorem DD {b k c:Int} {body:List Int}:(cT b k c body).take 12=am b 8++am (49+body.length) 4:=by
 rw [nM,← List.append_assoc,List.take_append_of_le_length (by rw [List.length_append,aA,aA];decide),List.take_of_length_le (by rw [List.length_append,aA,aA];decide)]
theorem GP {b k c:Int} {body:List Int} (ok:okL body):okL (cT b k c body):=by
 have h2:okL [2]:=fun n hn=>by rw [List.mem_singleton] at hn;subst hn;decide
 exact ao (ao (ao (ao (ao (ao (ao (ao (ao (ao (ao (ao (ao bq bq) bq) h2) bq) bq) bq) bq) bq) bq) bq) bq) bq) ok
theorem xI {b k c:Int} {body:List Int} (hz:body.length≤510) (h:aq l p ((cT b k c body).take 12)):fw l p=((cT b k c body).length:Int)-12:=by
 rw [DD] at h;unfold fw;rw [je (off:=0) (v:=49+body.length) rfl h.rf (by lia) (by lia),eJ];lia
theorem JH {raw body:List Int} (hbody:body=if sq=true then sqL raw else raw) (okr:okL raw) (su:df (bR (sqL raw))=bR raw) (hbd:sl.drop 61=bR body) (h13:aq sl 61 body) (hlen:sl.length=61+body.length) :
  aq (qX sq sl 61) (tJ sq 61) raw∧tJ sq 61+raw.length=(qX sq sl 61).length:=by
 cases sq with
 |true =>
  have e:qX true sl 61=bR raw:=by
   refine (?_:df (sl.drop 61)=_);rw [hbd,hbody,if_pos rfl,su]
  rw [e];exact ⟨kX okr,by rw [dj];exact Nat.zero_add _⟩
 |false =>
  have e:body=raw:=hbody;subst e;exact ⟨h13,hlen.symm⟩
theorem E6:tJ sq 61≤61:=by cases sq<;>decide
theorem FG {b k:Int} {rs:List dS} {raw body:List Int} (hraw:raw=rs.flatMap dS.lay) (hbody:body=if sq=true then sqL raw else raw) (okr:okL raw) (hz:raw.length≤255) (lb:body.length≤510)
  (hk:Builtin.bitAnd k 7=if sq=true then 1 else 0) (k0:0≤k) (k1:k<2^15) (b0:-2^62≤b) (b1:b<2^62) (hrs:rs.length≤100) (hsl:sl=bR (cT b k rs.length body)) (okh:okL (cT b k rs.length body))
  (hrec:∀ r∈rs,wL ⟨dh fV2 sl 0,rs.length,b,k,1000,2000⟩ r):ew sl 1069 (cj sl (dh fV2 sl 0) (61:Nat) rs.length 0 false) ∧
   jV 1069 (cj sl (dh fV2 sl 0) (61:Nat) rs.length 0 false) ((cT b k rs.length body).length:Int) 2 b (if sq=true then 1 else 0) (rs.map (ei ⟨dh fV2 sl 0,rs.length,b,k,1000,2000⟩)):=by
 have hat:nr sl 0 b k rs.length body:=GR (hsl▸kX okh);have hlen:sl.length=61+body.length:=by rw [hsl,dj,eJ]
 have hunp:=hat.unp (by lia) (by lia) k0 k1 (by lia) (by lia) (by lia);have h13:aq sl 61 body:=by have:=hat.f13;rwa [Nat.zero_add] at this
 have hbd:sl.drop 61=bR body:=by
  have:=h13.raw
  rwa [List.take_of_length_le (by rw [List.length_drop];lia)] at this
 have u:=JH hbody okr (y7 okr hz).2 hbd h13 hlen;refine ⟨ew.new (rs.length:Int) (by lia) (by rw [hunp];rfl) hat.mg,?_⟩
 have dk:E2 ⟨dh fV2 sl 0,rs.length,b,k,1000,2000⟩ sl 61 sq rs:=by
  refine ⟨by lia,hk,?_,⟨?_,by rw [hunp];rfl,by rw [hunp];rfl,by rw [hunp];rfl,by rw [hunp];rfl⟩,hrec,by rw [← hraw];exact u.1,by rw [← hraw];exact u.2,rfl⟩
  ·have:=uX (sl.drop 61);rw [List.length_drop] at this;lia
  ·rw [← u.2];have:=E6 (sq:=sq);lia
 have bt:=HI dk (by lia) (v1:=49+body.length) (v3:=2) (by rw [hunp];rfl) (by rw [hunp];rfl);rw [show ((49:Int)+body.length+12)=((cT b k rs.length body).length:Int) by rw [eJ];lia,(hk:Builtin.bitAnd (mB.mk (dh fV2 sl 0) rs.length b k 1000 2000).att 7=if sq=true then (1:Int) else 0)] at bt;exact bt
theorem Cv {b k form code:Int} {rs:List dS} {raw body:List Int} (hraw:raw=rs.flatMap dS.lay) (hbody:body=if sq=true then sqL raw else raw) (okr:okL raw) (hz:raw.length≤255)
  (hk:Builtin.bitAnd k 7=if sq=true then 1 else 0) (k0:0≤k) (k1:k<2^15) (b0:-2^62≤b) (b1:b<2^62) (hrs:rs.length≤100)
  (hrec:∀ r∈rs,wL ⟨dh fV2 (bR (cT b k rs.length body)) 0,rs.length,b,k,1000,2000⟩ r) (hcode:code=if sq=true then 1 else 0) (hform:form=2)
  (htold:told=rs.map fun r=>(ei ⟨dh fV2 (bR (cT b k rs.length body)) 0,rs.length,b,k,1000,2000⟩ r).d):nj ⟨cT b k rs.length body,form,b,code,told⟩:=by
 subst hform hcode
 have okb:okL body:=by
  rw [hbody];split
  ·exact (y7 okr hz).1
  ·exact okr
 have lb:body.length≤510:=by
  have:=wY (row:=raw);rw [hbody];split<;>lia
 have okh:=GP (b:=b) (k:=k) (c:=rs.length) okb;have h:=FG hraw hbody okr hz lb hk k0 k1 b0 b1 hrs rfl okh hrec;exact ⟨okh,by rw [eJ];lia,by rw [eJ];lia,fun l p=>xI lb,1069,_,_,h.1,h.2,by rw [htold,List.map_map];rfl⟩
noncomputable def hdH (more:Int):jA:=([(true,aP (more/4)),(false,some [118])]:jA).take (more%3).toNat
noncomputable def tX (rest:Int) (p:Nat):dS:=⟨bi (Pj rest p)-1000,(p:Int)*70,aP (Pj rest p/4),aP (Pj rest p/16),hdH (Pj rest p)⟩
theorem Kg:aR 0=[0]:=by decide
theorem LX (more:Int):(more%3).toNat=0∨(more%3).toNat=1∨(more%3).toNat=2:=by lia
theorem Ci {more:Int}:rg more p=eE (bi more-1000) ((p:Int)*70) (aP (more/4)) (aP (more/16)) (hdH more):=by
 unfold rg eE;rw [Kg]
 have h:(fE more).length=(hdH more).length∧((fE more).flatMap fun h=>br (some h.2.1)++br h.2.2)=fQ (hdH more):=by
  unfold fE hdH
  rcases LX more with e|e|e<;>rw [e]<;>simp [fQ,mY]
 rw [h.1,h.2];simp only [List.append_assoc]
theorem wD:cf rest n=((List.range n).map (tX rest)).flatMap dS.lay:=by
 unfold cf;rw [List.flatMap_map]
 congr 1
 funext p
 refine (?_:aR _++_=aR _++_);rw [Ci]
 rfl
theorem kD (n:Int):-1≤bi n∧bi n≤1099511627777:=by unfold bi;(split<;>(try split)<;>(try split))<;>lia
theorem GS {more:Int} {q:Bool×Option (List UInt8)} (h:q∈hdH more):∀ l,q.2=some l→l.length≤9:=by
 have:=List.mem_of_mem_take h;simp only [List.mem_cons,List.not_mem_nil,or_false] at this
 rcases this with rfl|rfl
 ·exact aU
 ·intro l e;cases e;decide
theorem mn {p:Option (List UInt8)} (h:∀ l,p=some l→l.length≤9):okL (br p)∧(br p).length≤10:=by
 cases p with
 |none=>exact ⟨kZ (by decide) (by decide),by decide⟩
 |some l =>
  have hl:=h l rfl;refine ⟨ao (kZ (by lia) (by lia)) vJ,?_⟩;have:(aR (l.length:Nat)).length≤1:=po (by lia) (by lia) (by decide) (by unfold zig;rw [if_pos (by lia)];lia);refine (?_:(aR _++fh l).length≤_);rw [List.length_append,kY];lia
theorem vY:∀ {hs:jA},(∀ q∈hs,∀ l,q.2=some l→l.length≤9)→okL (fQ hs)∧(fQ hs).length≤20*hs.length
 |[],_=>⟨zH,by simp [fQ]⟩
 |(t,d)::hs,h=>by
  obtain ⟨a,b⟩:=vY (hs:=hs) fun q hq=>h q (.tail _ hq);have h1:=mn (p:=some (mY t)) (fun l e=>by cases e;cases t<;>decide);have h2:=mn (p:=d) (h (t,d) (.head _));refine ⟨ao h1.1 (ao h2.1 a),?_⟩;refine (?_:(br _++(br d++fQ hs)).length≤_);simp only [List.length_append,List.length_cons];lia
theorem zV {more:Int}:(hdH more).length≤2:=List.length_take_le' _ _
theorem PI (h:n≤8000):okL (aR (n:Nat))∧(aR (n:Nat)).length≤2:=by
 have z2:(128:Int)^2=16384:=by decide
 exact ⟨kZ (by lia) (by lia),po (by lia) (by lia) (by decide) (by rw [z2];unfold zig;split<;>lia)⟩
theorem zK (h:n≤60):okL (aR (n:Nat))∧(aR (n:Nat)).length≤1:=by
 have z1:(128:Int)^1=128:=by decide
 exact ⟨kZ (by lia) (by lia),po (by lia) (by lia) (by decide) (by rw [z1];unfold zig;split<;>lia)⟩
theorem Gc {ts:Int} (t0:-1001≤ts) (t1:ts≤1099511627777):okL (aR ts)∧(aR ts).length≤6:=by
 have z6:(128:Int)^6=4398046511104:=by decide
 exact ⟨kZ (by lia) (by lia),po (by lia) (by lia) (by decide) (by rw [z6];unfold zig;split<;>lia)⟩
theorem AA {ts:Int} {off:Nat} {hs:jA} (t0:-1001≤ts) (t1:ts≤1099511627777) (o1:off≤8000) (hk:∀ l,key=some l→l.length≤9) (hv:∀ l,val=some l→l.length≤9) (hh:∀ q∈hs,∀ l,q.2=some l→l.length≤9) (hz:hs.length≤2) :
  okL (eE ts (off:Nat) key val hs)∧(eE ts (off:Nat) key val hs).length≤70:=by
 have k1:=mn hk;have k2:=mn hv;have k3:=vY hh;have l0:=zK (n:=0) (by decide);have l1:=Gc t0 t1;have l2:=PI o1;have l3:=zK (Nt hz (by decide))
 exact ⟨ao l0.1 (ao l1.1 (ao l2.1 (ao k1.1 (ao k2.1 (ao l3.1 k3.1))))),
  Nt (aI l0.2 (aI l1.2 (aI l2.2 (aI k1.2 (aI k2.2 (aI l3.2 (Nt k3.2 (Nat.mul_le_mul_left 20 hz)))))))) (by decide)⟩
theorem F8:(p:Int)*70=((p*70:Nat):Int):=(Int.natCast_mul p 70).symm
theorem PP (hp:p<2):okL (tX rest p).lay∧(tX rest p).lay.length≤72:=by
 have ht:=kD (Pj rest p);have h:=AA (ts:=bi (Pj rest p)-1000) (off:=p*70) (key:=aP (Pj rest p/4)) (val:=aP (Pj rest p/16)) (hs:=hdH (Pj rest p)) (by lia) (by lia) (by lia) aU aU (fun q hq=>GS hq) zV;unfold dS.lay tX;dsimp only;rw [F8];have l2:=PI (Nt h.2 (by decide));exact ⟨ao l2.1 h.1,aI l2.2 h.2⟩
theorem yG:∀ {n:Nat},n≤2→okL (((List.range n).map (tX rest)).flatMap dS.lay)∧(((List.range n).map (tX rest)).flatMap dS.lay).length≤72*n:=by
 intro n hn
 constructor
 ·refine gk fun r hr=>?_;refine al (List.mem_map.mp hr) fun p hp q1=>?_;obtain rfl:=q1;exact (PP (by have:=List.mem_range.mp hp;lia)).1
 ·have:=e9 (f:=dS.lay) (n:=72) (l:=(List.range n).map (tX rest)) fun r hr=>by
   refine al (List.mem_map.mp hr) fun p hp q2=>?_;obtain rfl:=q2;exact (PP (by have:=List.mem_range.mp hp;lia)).2
  rw [List.length_map,List.length_range] at this;exact this
theorem BB (rest:Int):0≤cy rest∧cy rest≤1099511627776:=by unfold cy;(split<;>(try split))<;>lia
theorem DE {more:Int}:qq more=.lst (cX (hdH more)):=by
 unfold qq cX fE hdH
 rcases LX more with e|e|e<;>rw [e]<;>rfl
theorem wS (h:(Builtin.bitAnd B.att 32 != 0)=false):(ei B r).d=.tup [.int (B.base+r.off),.int (if (if Builtin.bitAnd B.att 8=0 then (0:Int) else 1)=1 then B.mx else B.first+r.ts),pD r.key,pD r.val,.lst (cX r.hs)]:=by
 unfold ei aZ.d aZ.row aZ.ext;simp only [h,Bool.false_eq_true,if_false,List.append_nil]
theorem PE {s l:Int} (hs:s=0∨s=1) (hl:l=0∨l=1):Builtin.bitAnd (s+8*l) 7=s∧(Builtin.bitAnd (s+8*l) 8=0↔l=0)∧(Builtin.bitAnd (s+8*l) 32 != 0)=false:=by
 rcases hs with rfl|rfl<;>rcases hl with rfl|rfl<;>decide
theorem J6 (rest:Int):nj ⟨gt rest,2,cy rest,rest/3%2,(List.range (fq rest)).map (dK rest)⟩:=by
 have hn:fq rest≤2:=by unfold fq;lia
 obtain ⟨okb,hb⟩:=yG (rest:=rest) hn;have hbase:=BB rest;have hs:rest/3%2=0∨rest/3%2=1:=by lia
 have hlt:rest/6%2=0∨rest/6%2=1:=by lia
 refine gB (PE hs hlt) fun a7 a8 a32=>?_;have e:(fq rest:Int)=(((List.range (fq rest)).map (tX rest)).length:Nat):=by rw [List.length_map,List.length_range]
 unfold gt;rw [e,wD];refine Cv (sq:=decide (rest/3%2=1)) rfl ?_ okb (by lia) ?_ (by lia) (by lia) (by lia) (by lia) (by rw [List.length_map,List.length_range];lia) ?_ ?_ rfl ?_
 ·by_cases h:rest/3%2=1<;>simp [h]
 ·rw [a7];rcases hs with h|h<;>simp [h]
 ·intro r hr;refine al (List.mem_map.mp hr) fun p hp q3=>?_;obtain rfl:=q3;have hp:=List.mem_range.mp hp;have ht:=kD (Pj rest p);refine ⟨?_,?_,?_,?_,?_,?_⟩
  ·refine (?_:_≤bi _-1000);lia
  ·refine (?_:bi _-1000<_);lia
  ·refine (?_:_≤(p:Int)*70);lia
  ·refine (?_:(p:Int)*70<_);lia
  ·exact Nt zV (by decide)
  ·intro h;have h':(Builtin.bitAnd (rest/3%2+8*(rest/6%2)) 32 != 0)=true:=h;rw [a32] at h';cases h'
 ·rcases hs with h|h<;>simp [h]
 ·rw [List.map_map];refine List.map_congr_left fun p hp=>?_;refine (?_:dK rest p=(ei _ (tX rest p)).d);rw [wS a32];unfold dK;rw [DE]
  have et:(if (if Builtin.bitAnd (rest/3%2+8*(rest/6%2)) 8=0 then (0:Int) else 1)=1 then (2000:Int) else 1000+(bi (Pj rest p)-1000))=if rest/6%2=1 then 2000 else bi (Pj rest p):=by
   rcases hlt with h|h
   ·rw [if_pos (a8.mpr h),if_neg (by decide),if_neg (by lia)];lia
   ·have h8:¬ Builtin.bitAnd (rest/3%2+8*(rest/6%2)) 8=0:=fun z=>by have:=a8.mp z;lia
    rw [if_neg h8,if_pos rfl,if_pos h]
  refine (?_:_=D.tup [D.int (cy rest+(p:Int)*70),D.int (if (if Builtin.bitAnd (rest/3%2+8*(rest/6%2)) 8=0 then (0:Int) else 1)=1 then (2000:Int) else 1000+(bi (Pj rest p)-1000)),pD _,pD _,.lst _]);rw [et]
  rfl
noncomputable def fN (rest:Int) (p:Nat):List UInt8:=bR (am (rest/2%5) 2++am ((rest/10+p)%3) 2)
noncomputable def mkD (rest:Int) (p:Nat):dS:=⟨0,p,some (fN rest p),.none,[]⟩
theorem rY:∀ {l:List Int},okL l→fh (bR l)=l
 |[],_=>rfl
 |n::l,h=>by
  have h0:=h n (.head _);have ih:=rY (l:=l) fun m hm=>h m (.tail _ hm);unfold fh bR at ih ⊢;rw [List.map_cons,List.map_cons,ih]
  congr 1
  rw [Nat.toUInt8_eq,UInt8.toNat_ofNat'];lia
theorem vQ:okL (am (rest/2%5) 2++am ((rest/10+p)%3) 2):=ao bq bq
theorem r6:(fN rest p).length=4:=by unfold fN;rw [dj,List.length_append,aA,aA]
theorem LU (h:p<2):aR (p:Int)=[2*(p:Int)]:=by
 rcases (by lia:p=0∨p=1) with rfl|rfl<;>decide
theorem C5 (hp:p<2):fj rest p=eE 0 p (some (fN rest p)) .none []:=by
 unfold eE;rw [show br (some (fN rest p))=aR ((fN rest p).length:Nat)++fh (fN rest p) from rfl,show br .none=aR (-1) from rfl,Kg,LU hp,r6,show aR ((4:Nat):Int)=[8] by decide,show aR (-1)=[1] by decide];unfold fN;rw [rY vQ,show ((([]:jA).length:Nat):Int)=0 from rfl,Kg];unfold fj fQ;simp only [List.append_assoc,List.cons_append,List.nil_append]
theorem Ja (rest:Int):mkN rest≤2:=by unfold mkN;lia
theorem ju {α:Type} {f g:α→List Int}:∀ {l:List α},(∀ a∈l,f a=g a)→l.flatMap f=l.flatMap g
 |[],_=>rfl
 |a::l,h=>by rw [List.flatMap_cons,List.flatMap_cons,h a (.head _),ju fun b hb=>h b (.tail _ hb)]
theorem xt:ef rest (mkN rest)=((List.range (mkN rest)).map (mkD rest)).flatMap dS.lay:=by
 have hn:=Ja rest;skip;rw [List.flatMap_map];refine ju fun p hp=>?_;have hp:=List.mem_range.mp hp;refine (?_:aR _++_=aR _++_);rw [C5 (by lia)]
 rfl
theorem Ak (h:(Builtin.bitAnd B.att 32 != 0)=true):(ei B r).d=.tup [.int (B.base+r.off),.int (if (if Builtin.bitAnd B.att 8=0 then (0:Int) else 1)=1 then B.mx else B.first+r.ts),pD r.key,pD r.val,.lst (cX r.hs),.int (m9 r.key),.bool (nQ r.key==1),.bool (nQ r.key==0)]:=by
 unfold ei aZ.d aZ.row aZ.ext;simp only [h,if_true]
 rfl
theorem Kk:m9 (some (fN rest p))=rest/2%5∧nQ (some (fN rest p))=(rest/10+p)%3:=by
 have h:=kX (vQ (rest:=rest) (p:=p));have hr:=h.right;rw [aA] at hr;exact ⟨yW (f:=fHH) (off:=0) rfl h.left (by lia) (by lia),yW (f:=fHH) (p:=0) (off:=2) rfl (by unfold fN;simpa using hr) (by lia) (by lia)⟩
theorem Km (hp:p<2):okL (mkD rest p).lay∧(mkD rest p).lay.length=11:=by
 have e:(mkD rest p).lay=[20]++fj rest p:=by
  refine (?_:aR _++_=_);rw [show eE (mkD rest p).ts (mkD rest p).off (mkD rest p).key (mkD rest p).val (mkD rest p).hs=fj rest p from (C5 hp).symm,gW]
  congr 1
 rw [e];refine ⟨?_,by rw [List.length_append,gW];rfl⟩;have h1:okL [20]:=fun n hn=>by rw [List.mem_singleton] at hn;subst hn;decide
 have h2:okL [0,0,2*(p:Int),8]:=fun n hn=>by
  simp only [List.mem_cons,List.not_mem_nil,or_false] at hn
  rcases hn with rfl|rfl|rfl|rfl<;>lia
 have h3:okL [1,0]:=fun n hn=>by
  simp only [List.mem_cons,List.not_mem_nil,or_false] at hn
  rcases hn with rfl|rfl<;>lia
 exact ao h1 (ao (ao (ao h2 bq) bq) h3)
theorem LR (rest:Int):nj ⟨cT 9 48 (mkN rest) (ef rest (mkN rest)),2,9,0,(List.range (mkN rest)).map (kq rest)⟩:=by
 have hn:=Ja rest;have e:(mkN rest:Int)=(((List.range (mkN rest)).map (mkD rest)).length:Nat):=by rw [List.length_map,List.length_range]
 have a32:(Builtin.bitAnd 48 32 != 0)=true:=by decide
 have hm:∀ r∈(List.range (mkN rest)).map (mkD rest),okL r.lay∧r.lay.length=11:=fun r hr=>by
  refine al (List.mem_map.mp hr) fun p hp q1=>?_;obtain rfl:=q1;have hp:=List.mem_range.mp hp;exact Km (by lia)
 have hf:=e9 (f:=dS.lay) (n:=11) (l:=(List.range (mkN rest)).map (mkD rest)) fun r hr=>by rw [(hm r hr).2];exact Nat.le_refl _
 rw [List.length_map,List.length_range] at hf;rw [e,xt];refine Cv (sq:=false) rfl rfl (gk fun r hr=>(hm r hr).1) (by lia) (by decide) (by decide) (by decide) (by decide) (by decide) (by rw [List.length_map,List.length_range];lia) ?_ rfl rfl ?_
 ·intro r hr;refine al (List.mem_map.mp hr) fun p hp q2=>?_;obtain rfl:=q2;have hp:=List.mem_range.mp hp;refine ⟨?_,?_,?_,?_,?_,?_⟩
  ·refine (?_:_≤(0:Int));lia
  ·refine (?_:(0:Int)<_);lia
  ·refine (?_:_≤(p:Int));lia
  ·refine (?_:(p:Int)<_);lia
  ·refine (?_:0≤_);lia
  ·exact fun _=>⟨_,rfl,r6⟩
 ·rw [List.map_map];refine List.map_congr_left fun p hp=>?_;refine (?_:kq rest p=(ei _ (mkD rest p)).d);rw [Ak a32];have:=Kk (rest:=rest) (p:=p);skip;refine (?_:_=D.tup [D.int (9+(p:Int)),D.int (if (if Builtin.bitAnd 48 8=0 then (0:Int) else 1)=1 then (2000:Int) else 1000+0),pD (some (fN rest p)),pD .none,.lst (cX []),.int (m9 (some (fN rest p))),.bool (nQ (some (fN rest p))==1),.bool (nQ (some (fN rest p))==0)]);rw [this.1,this.2]
  rfl
noncomputable def ri (one:Bool) (w:Int):Option Int:=match one with|true=>some w|false=>.none
structure EY (one:Bool) (l:List UInt8) (p:Nat) (off kind when:Int) (key val:Option (List UInt8)):Prop where
 room:p+hN one+8+aK key+aK val≤l.length
 h0:hv l p 0=off
 h1:hv l p 1=((hN one-4+aK key+aK val:Nat):Int)
 h3:hv l p 3=mg one
 h4:hv l p 4=kind
 ts:hts one l p=ri one when
 fk:bS l (p+hN one) key
 fv:bS l (p+hN one+4+aK key) val
 m:aq l (p+16) [mg one]
theorem aq.room1 {a:List Int} (h:aq l p a) (ha:0<a.length):p+a.length≤l.length:=by
 cases a with
 |nil=>cases ha
 |cons n a=>exact h.room (Nat.le_of_lt h.head.1)
theorem fH:(dM d).length=4+aK d:=by
 cases d with
 |none=>simp [dM,aA,aK]
 |some k=>simp [dM,aA,aK,fh]
theorem wb (h:aq l p (dM d)) (hz:∀ k,d=some k→k.length≤1000000):bS l p d:=by
 have rm:p+4+aK d≤l.length:=by
  have:=h.room1 (by rw [fH];lia);rw [fH] at this;lia
 cases d with
 |none=>exact ⟨rm,fun _=>je (f:=fI) (off:=0) rfl h (by decide) (by decide),fun _ e=>(by cases e),fun _ e=>(by cases e)⟩
 |some k =>
  have hk:=hz k rfl;have hr:aq l (p+4) (fh k):=by have:=h.right;rwa [aA] at this
  refine ⟨rm,fun e=>(by cases e),fun k' e=>?_,fun k' e=>?_⟩
  ·cases e;exact je (f:=fI) (off:=0) rfl h.left (by lia) (by lia)
  ·cases e;exact hr.octets
theorem tU {kind when:Int}:dO (mg one) kind when=am 0 4++([mg one]++([kind]++(if one=true then am when 8 else []))):=by
 have e:am 0 4=[0,0,0,0]:=by decide
 rw [e]
 cases one<;>rfl
theorem rU (h:∀ k,d=some k→k.length≤1000000):aK d≤1000000:=by
 cases d with
 |none=>exact Nat.zero_le _
 |some k=>exact h k rfl
theorem Pd {kind when:Int}:(dO (mg one) kind when).length+12=hN one:=by rw [tU];cases one<;>simp [aA,hN]
theorem DI:18≤hN one∧hN one≤26:=by cases one<;>decide
theorem wx {kind when:Int}:(dO (mg one) kind when++dM key++dM val).length=hN one-4+aK key+aK val:=by
 have:=Pd (one:=one) (kind:=kind) (when:=when);rw [List.length_append,List.length_append,fH,fH];lia
theorem HX {kind when:Int}:p+12+(dO (mg one) kind when).length=p+hN one:=by
 rw [← Pd (kind:=kind) (when:=when)];lia
theorem C0 {off kind when:Int} (h:aq l p (cY (mg one) off kind when key val)) (o0:-2^63≤off) (o1:off<2^63) (k0:0≤kind) (k1:kind<128) (w0:-2^63≤when) (w1:when<2^63)
  (hk:∀ k,key=some k→k.length≤1000000) (hl:∀ k,val=some k→k.length≤1000000):EY one l p off kind when key val:=by
 have zk:=rU hk;have zv:=rU hl;have hN26:=DI (one:=one);unfold cY at h;rw [wx] at h;have hz:=h.room1 (by rw [List.length_append,List.length_append,aA];exact Nat.lt_of_lt_of_le (by decide) (Nat.le_trans (Nat.le_add_right 8 _) (Nat.le_add_right _ _)));rw [List.length_append,List.length_append,aA,aA,wx] at hz
 have b2:aq l (p+12) (dO (mg one) kind when++dM key++dM val):=by
  have:=h.right
  rwa [List.length_append,aA,aA] at this
 have b3:aq l (p+hN one) (dM key):=by
  have:=b2.left.right
  rwa [HX] at this
 have b4:aq l (p+hN one+4+aK key) (dM val):=by
  have:=b2.right
  rwa [List.length_append,fH,← Nat.add_assoc,HX,← Nat.add_assoc] at this
 have c4:aq l (p+16) ([mg one]++([kind]++(if one=true then am when 8 else []))):=(tU (one:=one) (kind:=kind) (when:=when)▸b2.left.left:aq l (p+12) (am 0 4++_)).rf;have c5:aq l (p+17) ([kind]++(if one=true then am when 8 else [])):=c4.right;refine ⟨by lia,rF (f:=fV1) (off:=0) rfl h.left.left o0 o1,je (f:=fV1) rfl h.left.rf (by lia) (by lia),uW (f:=fV1) (off:=16) rfl c4.left (by cases one<;>decide) (by cases one<;>decide),uW (f:=fV1) (off:=17) rfl c5.left k0 k1,?_,wb b3 hk,wb b4 hl,c4.left⟩
 cases one with
 |false=>rfl
 |true=>exact Cg some (rF (f:=fV1) (off:=18) rfl (c5.right:aq l (p+18) (am when 8)) w0 w1)
theorem mT {off kind when:Int}:(cY (mg one) off kind when key val).length=hN one+8+aK key+aK val:=by
 have eN:(dO (mg one) kind when).length+12=hN one:=by rw [tU];cases one<;>simp [aA,hN]
 unfold cY;simp only [List.length_append,aA,fH];lia
theorem Pg:okL (dM d):=by
 cases d with
 |none=>exact bq
 |some k=>exact ao bq vJ
theorem uc {off kind when:Int} (k0:0≤kind) (k1:kind<256):okL (cY (mg one) off kind when key val):=by
 unfold cY;rw [tU];have h1:okL [mg one]:=fun n hn=>by rw [List.mem_singleton] at hn;subst hn;cases one<;>decide
 have h2:okL [kind]:=fun n hn=>by rw [List.mem_singleton] at hn;subst hn;exact ⟨k0,k1⟩
 have h3:okL (if one=true then am when 8 else []):=by (split;exact bq;exact zH)
 exact ao (ao bq bq) (ao (ao (ao bq (ao h1 (ao h2 h3))) Pg) Pg)
section
theorem Gi {f off kind when:Int}:(cY f off kind when key val).take 12=am off 8++am ((dO f kind when++dM key++dM val).length:Nat) 4:=by
 unfold cY;rw [List.take_append_of_le_length (by rw [List.length_append,aA,aA];decide),List.take_of_length_le (by rw [List.length_append,aA,aA];decide)]
theorem C3 {f off kind when:Int}:(cY f off kind when key val).length=12+(dO f kind when++dM key++dM val).length:=by
 unfold cY;rw [List.length_append,List.length_append,aA,aA]
theorem AS {f off kind when:Int} (hz:(cY f off kind when key val).length≤1000) (h:aq l p ((cY f off kind when key val).take 12)):fw l p=((cY f off kind when key val).length:Int)-12:=by
 rw [Gi] at h;rw [C3] at hz ⊢;unfold fw;rw [je (off:=0) (v:=((dO f kind when++dM key++dM val).length:Nat)) rfl h.rf (by lia) (by lia)];lia
theorem AG (hz:aK key+aK val≤900):(∀ k,key=some k→k.length≤1000000)∧(∀ k,val=some k→k.length≤1000000) :=
 ⟨fun k e=>by subst e;exact Nt (Nt (Nat.le_add_right _ _) hz) (by decide),fun k e=>by subst e;exact Nt (Nt (Nat.le_add_left _ _) hz) (by decide)⟩
theorem Gh {off kind when:Int} (hz:aK key+aK val≤900):26≤(cY (mg one) off kind when key val).length∧(cY (mg one) off kind when key val).length≤1000∧hN one≤(cY (mg one) off kind when key val).length:=by
 have:=DI (one:=one);rw [mT];lia
theorem Cw {off kind when code form:Int} (o0:-2^63≤off) (o1:off<2^63) (k0:0≤kind) (k1:kind<128) (w0:-2^63≤when) (w1:when<2^63) (hz:aK key+aK val≤900) (hform:form=mg one)
  (kt:∀ l,l=bR (cY form off kind when key val)→EY one l 0 off kind when key val→∀ crc,jU one l off crc (ri one when) kind tl) (hcode:code=Builtin.bitAnd kind 7) (htold:told=tl.map aZ.d):nj ⟨cY form off kind when key val,form,off,code,told⟩:=by
 subst hform;have hkl:=AG hz;have bd:=Gh (one:=one) (off:=off) (kind:=kind) (when:=when) hz;have ok:=uc (one:=one) (off:=off) (when:=when) (key:=key) (val:=val) k0 (Int.lt_trans k1 (by decide));have M:=C0 (kX ok) o0 o1 k0 k1 w0 w1 hkl.1 hkl.2
 have e1:hv (bR (cY (mg one) off kind when key val)) 0 1+12=((cY (mg one) off kind when key val).length:Int):=by
  have hN:=DI (one:=one);rw [M.h1,mT];lia
 refine ⟨ok,bd.1,bd.2.1,fun l p=>AS bd.2.1,544,_,tl,ew.old one (by rw [dj];exact bd.2.2) (by rw [dj];lia) M.h3 (uW (f:=fB) (off:=0) rfl M.m (by cases one<;>decide) (by cases one<;>decide)),?_,htold⟩;have b:=HH (len:=hv (bR (cY (mg one) off kind when key val)) 0 1) (l:=bR (cY (mg one) off kind when key val)) (by rw [dj];exact Nat.le_trans bd.2.1 (by decide)) (by rw [dj];exact Nat.le_trans (by decide:12≤26) bd.1) (kt _ rfl M (hv (bR (cY (mg one) off kind when key val)) 0 2));rw [e1] at b;refine (?_:jV 544 (bk (bR (cY (mg one) off kind when key val)) _ _ _ _ _ _ _) ((cY (mg one) off kind when key val).length:Int) (mg one) off code tl);rw [M.h0,M.ts,M.h4,hcode];exact b
theorem rQ {n:Int}:aK (aP n)≤9:=by
 cases h:aP n with
 |none=>exact Nat.zero_le _
 |some l=>exact aU l h
theorem u0 {t:aZ} (h:t.ctl=.none) (hh:t.hs=[]):t.d=.tup [.int t.off,oI t.ts,pD t.key,pD t.val,.lst []]:=by
 unfold aZ.d aZ.row aZ.ext;rw [h,hh]
 rfl
theorem mR (rest:Int):3≤ax rest∧ax rest≤1099511627776∧(ax rest=3∨20≤ax rest):=by unfold ax;(split<;>(try split))<;>lia
theorem Gb {w:Int}:oI (ri one w)=if mg one=0 then D.none else .int w:=by cases one<;>rfl
theorem FF (h1:bZ rest=1):nj ⟨cM (mg one) rest,mg one,ax rest,de rest,(List.range (bZ rest)).map (cx (mg one) rest)⟩:=by
 have hb:=mR rest;have ht:=kD (aX rest 0)
 have e:cM (mg one) rest=cY (mg one) (ax rest) 0 (bi (aX rest 0)) (aP (aX rest 0/4)) (aP (aX rest 0/16)):=by
  unfold cM;rw [if_pos h1];refine (?_:(List.range 1).flatMap _=_);rw [show List.range 1=[0] from rfl,List.flatMap_cons,List.flatMap_nil,List.append_nil];unfold d8;rw [if_pos h1]
 have z1:=rQ (n:=aX rest 0/4);have z2:=rQ (n:=aX rest 0/16);rw [e,h1];refine Cw (tl:=[⟨ax rest,ri one (bi (aX rest 0)),aP (aX rest 0/4),aP (aX rest 0/16),[],.none⟩]) (by lia) (by lia) (by decide) (by decide) (by lia) (by lia) (by lia) rfl (fun l el M crc=>.plain (by decide) (by have:=M.fk;rwa [Nat.zero_add] at this) (by have:=M.fv;rwa [Nat.zero_add] at this)) ?_ ?_
 ·unfold de;rw [if_pos h1];decide
 ·refine (?_:[cx _ _ 0]=[aZ.d _]);rw [u0 rfl rfl,Gb];unfold cx kj gR;rw [if_pos h1];have:¬ (rest/5%2=1∧bZ rest=2):=fun h=>by lia
  simp only [if_neg this]
noncomputable def hZ (one:Bool) (rest:Int) (p at_:Nat):hV:=⟨at_,hN one-4+aK (aP (aX rest p/4))+aK (aP (aX rest p/16)),aP (aX rest p/4),aP (aX rest p/16)⟩
theorem Je {f:Int} (h:f=0∨f=1):Builtin.bitAnd (1+8*f) 7=1∧(Builtin.bitAnd (1+8*f) 8=0↔f=0):=by rcases h with rfl|rfl<;>decide
section
variable {one:Bool} {at_ q:Nat} {B:List UInt8} {i1:hV}
abbrev my (one:Bool) (rest:Int) (B:List UInt8) (p at_:Nat):Prop:=EY one B at_ (4*(p:Nat)) 0 (bi (aX rest p)) (aP (aX rest p/4)) (aP (aX rest p/16))
theorem mQ (n1:¬bZ rest=1):d8 (mg one) rest p=cY (mg one) (4*p) 0 (bi (aX rest p)) (aP (aX rest p/4)) (aP (aX rest p/16)):=by unfold d8;rw [if_neg n1]
theorem vI (n1:¬bZ rest=1):(d8 (mg one) rest p).length=12+(hZ one rest p at_).n:=by
 have hN:4≤hN one:=by cases one<;>decide
 rw [mQ n1,mT];refine (?_:_=12+(_-4+_+_));lia
theorem rW (n1:¬bZ rest=1):okL (d8 (mg one) rest p):=by rw [mQ n1];exact uc (by decide) (by decide)
theorem CP (n1:¬bZ rest=1) (h:aq B q (d8 (mg one) rest p)) (hp:p≤1):my one rest B p q:=by
 rw [mQ n1] at h;have ht:=kD (aX rest p);exact C0 h (by lia) (by lia) (by decide) (by decide) (by lia) (by lia) (fun k e=>Nt (aU k e) (by decide)) (fun k e=>Nt (aU k e) (by decide))
theorem CO (M:my one rest B p at_):tG one B (hZ one rest p at_):=⟨M.h1,by refine (?_:Builtin.bitAnd (hv B at_ 4) 7=0);rw [M.h4];decide,M.fk,M.fv⟩
theorem FZ (n1:¬bZ rest=1) (e1:hv B i1.p 0=4*((1:Nat):Int)):kj (mg one) rest p=if 0≤js one (ax rest) B i1 then 4*((p:Nat):Int)+js one (ax rest) B i1 else 4*((p:Nat):Int):=by
 have hb:=mR rest;unfold kj;rw [if_neg n1]
 cases one with
 |false=>simp [js,mg]
 |true =>
  refine (?_:4*(p:Int)+(if mg true=1∧3<ax rest then ax rest-4 else 0)=if 0≤ax rest-hv B i1.p 0 then 4*(p:Int)+(ax rest-hv B i1.p 0) else 4*(p:Int));rw [e1]
  rcases hb.2.2 with hb3|hb3
  ·rw [if_neg (fun h=>by lia),if_neg (by lia)];lia
  ·rw [if_pos ⟨rfl,by lia⟩,if_pos (by lia)];rfl
theorem ks:rest/5%2=0∨rest/5%2=1:=by lia
theorem CL (h2:bZ rest=2):gR (mg one) rest p=oI (if ttI one (1+8*(rest/5%2))=some 1 then ri one 5 else ri one (bi (aX rest p))):=by
 unfold gR
 cases one with
 |false=>simp [mg,ttI,ri,oI]
 |true =>
  rw [if_neg (by decide:¬ mg true=0)];have b8:=(Je (ks (rest:=rest))).2
  rcases ks (rest:=rest) with h|h
  ·rw [if_neg (fun z=>by lia),show ttI true (1+8*(rest/5%2))=some 0 from if_pos (b8.mpr h)];rfl
  ·rw [if_pos ⟨h,h2⟩,show ttI true (1+8*(rest/5%2))=some 1 from if_neg (fun z=>by have:=b8.mp z;lia)];rfl
theorem vH (h2:bZ rest=2) (e1:hv B i1.p 0=4*((1:Nat):Int)) (M:my one rest B p at_):cx (mg one) rest p=(md one B (js one (ax rest) B i1) (ri one 5) (ttI one (1+8*(rest/5%2))) (hZ one rest p at_)).d:=by
 have e0:hv B (hZ one rest p at_).p 0=4*(p:Nat):=M.h0;have e2:hts one B (hZ one rest p at_).p=ri one (bi (aX rest p)):=M.ts;rw [u0 rfl rfl];unfold cx md;dsimp only;rw [e0,e2,FZ (by lia) e1,CL h2]
 rfl
theorem AO (h2:bZ rest=2) (M0:my one rest B 0 0) (M1:my one rest B 1 q):(List.range 2).map (cx (mg one) rest)=([hZ one rest 0 0,hZ one rest 1 q].map (md one B (js one (ax rest) B (hZ one rest 1 q)) (ri one 5) (ttI one (1+8*(rest/5%2))))).map aZ.d:=by
 rw [show List.range 2=[0,1] from rfl];simp only [List.map_cons,List.map_nil];rw [vH (i1:=hZ one rest 1 q) h2 M1.h0 M0,vH (i1:=hZ one rest 1 q) h2 M1.h0 M1]
theorem CN (l0:q=12+(hZ one rest 0 0).n) (lB:B.length=q+(12+(hZ one rest 1 q).n)) (M0:my one rest B 0 0) (M1:my one rest B 1 q):pg one B 0 [0,q]:=by
 have r0:=M0.room;have r1:=M1.room;refine .cons (n:=(hZ one rest 0 0).n) (by refine (?_:0+hN one≤_);lia) M0.h1 ?_;rw [(by lia:0+12+(hZ one rest 0 0).n=q)];refine .cons (n:=(hZ one rest 1 q).n) (by refine (?_:q+hN one≤_);lia) M1.h1 ?_;rw [(by lia:q+12+(hZ one rest 1 q).n=B.length)];exact .nil
end
theorem xn:aK (d9 rest)≤1:=by unfold d9;split<;>decide
theorem J4 {q:Nat} (h2:bZ rest=2) (u:df sq=B) (hz:sq.length≤208) (hB:B.length≤104) (l0:q=12+(hZ one rest 0 0).n) (lB:B.length=q+(12+(hZ one rest 1 q).n)) (M0:my one rest B 0 0) (M1:my one rest B 1 q) :
  nj ⟨cY (mg one) (ax rest) (1+8*(rest/5%2)) 5 (d9 rest) (some sq),mg one,ax rest,de rest,(List.range 2).map (cx (mg one) rest)⟩:=by
 subst u;have hb:=mR rest;have hf:=ks (rest:=rest);have b7:=(Je hf).1;have kk:=xn (rest:=rest);refine Cw (by lia) (by lia) (by lia) (by lia) (by decide) (by decide) (by lia:aK (d9 rest)+sq.length≤900) rfl (fun l el M crc=>?_) ?_ (AO h2 M0 M1)
 ·have fk:=M.fk;have fv:=M.fv;rw [Nat.zero_add] at fk fv;refine .squeezed b7 fk fv (Nt hB (by decide)) rfl (CN l0 lB M0 M1) (by decide:2≤1000) ?_;intro i hi
  rcases List.mem_cons.mp hi with rfl|hi
  ·exact CO M0
  ·rw [List.mem_singleton.mp hi];exact CO M1
 ·unfold de;rw [if_neg (by lia),b7]
theorem FE (h2:bZ rest=2):nj ⟨cM (mg one) rest,mg one,ax rest,de rest,(List.range (bZ rest)).map (cx (mg one) rest)⟩:=by
 have n1:¬ bZ rest=1:=by lia
 have e:cM (mg one) rest=cY (mg one) (ax rest) (1+8*(rest/5%2)) 5 (d9 rest) (some (bR (sqL (bz (mg one) rest 2)))):=if_neg n1
 have eb:bz (mg one) rest 2=d8 (mg one) rest 0++d8 (mg one) rest 1:=by
  rw [gS,gS]
  rfl
 have okb:okL (bz (mg one) rest 2):=by rw [eb];exact ao (rW n1) (rW n1)
 have lb:=jp (form:=mg one) (rest:=rest) (n:=2);have la:=kX okb;rw [eb] at la;have M1:=la.right;rw [Nat.zero_add] at M1;rw [e,h2];refine J4 (q:=(d8 (mg one) rest 0).length) h2 (y7 okb (by lia)).2 (by rw [dj];exact kT) (by rw [dj];exact lb) (vI n1) (by rw [dj,eb,List.length_append,vI (p:=1) (at_:=(d8 (mg one) rest 0).length) n1]) (eb▸CP n1 la.left (by decide)) (eb▸CP n1 M1 (by decide))
theorem J5:nj ⟨cM (mg one) rest,mg one,ax rest,de rest,(List.range (bZ rest)).map (cx (mg one) rest)⟩:=by
 rcases (show bZ rest=1∨bZ rest=2 by unfold bZ;lia) with h|h
 ·exact FF h
 ·exact FE h
theorem HW (n:Int):nj (fg n):=by
 unfold fg
 split
 ·exact J6 _
 ·split
  ·exact LR _
  ·rcases (show n%5-1=mg true∨n%5-1=mg false by simp only [mg];lia) with h|h<;>rw [h]<;>exact J5
theorem hok (n:Int) (h0:n%5≠0) (h4:n%5≠4) (h3:n%5≠3):okL (sqL (bz (n%5-1) (n/5) 2)):=by
 have lb:=jp (form:=n%5-1) (rest:=n/5) (n:=2);refine (y7 ?_ (by lia)).1
 rcases (show n%5-1=mg true∨n%5-1=mg false by simp only [mg];lia) with h|h<;>rw [h]<;>exact gk fun p _=>by skip;exact uc (by decide) (by decide)
end
section
structure Pre (buf:List UInt8) (c a:Nat) (rest:List Int):Prop where
 len:buf.length=c
 le:a≤c
 ok:okL rest
 at_:buf.drop a=bR (rest.take (c-a))
theorem Pre.laid {c a:Nat} {m r:List Int} (h:Pre buf c a (m++r)) (hm:m.length≤c-a):(buf.drop a).take m.length=bR m:=by
 rw [h.at_];unfold bR;rw [← List.map_take,List.take_take,Nat.min_eq_left hm,List.take_append_of_le_length (Nat.le_refl _),List.take_length]
theorem Pre.lay {c a:Nat} {m r:List Int} (h:Pre buf c a (m++r)) (hm:m.length≤c-a):aq buf a m:=r9 (fun n hn=>h.ok n (List.mem_append_left _ hn)) (h.laid hm)
theorem Pre.next {c a:Nat} {m r:List Int} (h:Pre buf c a (m++r)) (hm:a+m.length≤c):Pre buf c (a+m.length) r where
 len:=h.len
 le:=hm
 ok n hn:=h.ok n (List.mem_append_right _ hn)
 at_:=by
  rw [← List.drop_drop,h.at_];unfold bR;rw [← List.map_drop,List.drop_take,List.drop_left,Nat.sub_sub]
theorem v9 {c:Nat}:∀ {ps:List Pc} {a:Nat},c<a→(eF a ps).filter (j3 c)=[]
 |[],_,_=>rfl
 |p::ps,a,h=>by
  refine (?_:(pcD (a+p.laid.length) p::eF (a+p.laid.length) ps).filter _=[]);rw [List.filter_cons_of_neg (by refine (?_:¬ decide (((a+p.laid.length:Nat):Int)≤c)=true);simp only [decide_eq_true_eq];lia)];exact v9 (by lia)
theorem mj {a:Nat} (h:buf.length<a+12) (ha:a≤buf.length):dA buf a∧aN buf a=.none:=⟨⟨ha,fun h'=>by lia⟩,by unfold aN;rw [if_pos h]⟩
theorem z9 {a k:Nat} (h:a+12≤buf.length) (hk:fw buf a=k):dA buf a∧aN buf a=if buf.length<a+12+k then .none else some (a+12+k):=by
 refine ⟨⟨by lia,fun _=>by lia⟩,?_⟩;unfold aN;rw [if_neg (by lia),hk]
 by_cases h':buf.length<a+12+k
 ·rw [if_pos h',if_pos (by lia)]
 ·rw [if_neg h',if_neg (by lia),Int.toNat_natCast]
theorem wg {c e:Nat} {p:Pc}:j3 c (pcD e p)=decide ((e:Int)≤c):=rfl
theorem Hf {c a:Nat} {p:Pc} (h:a+p.laid.length≤c):(eF a (p::ps)).filter (j3 c)=pcD (a+p.laid.length) p::(eF (a+p.laid.length) ps).filter (j3 c) :=
 List.filter_cons_of_pos (by rw [wg];exact decide_eq_true (Int.ofNat_le.mpr h))
theorem DP {c a:Nat} {p:Pc} (h:c<a+p.laid.length):(eF a (p::ps)).filter (j3 c)=[] :=
 (List.filter_cons_of_neg (by rw [wg];exact fun z=>Nat.not_le.mpr h (Int.ofNat_le.mp (of_decide_eq_true z)))).trans (v9 h)
theorem Ed {a:Nat} {p:Pc} (k:nj p) (hl:aq buf a (p.laid.take 12)) (h:a+12≤buf.length):dA buf a∧aN buf a=if buf.length<a+p.laid.length then .none else some (a+p.laid.length):=by
 have lo:=k.lo;have ll:=k.len buf a hl;have e:=z9 (buf:=buf) (a:=a) (k:=p.laid.length-12) h (by lia);rw [(by lia:a+12+(p.laid.length-12)=a+p.laid.length)] at e;exact e
theorem Pre.head {c a:Nat} {p:Pc} {r:List Int} (h:Pre buf c a (p.laid++r)) (k:nj p) (hc:a+12≤c):aq buf a (p.laid.take 12):=by
 have e:p.laid++r=p.laid.take 12++(p.laid.drop 12++r):=by rw [← List.append_assoc,List.take_append_drop]
 rw [e] at h;exact h.lay (Nt (List.length_take_le _ _) (Nat.le_sub_of_add_le' hc))
theorem JO {a:Nat}:a+n-a=n:=Nat.add_sub_cancel_left a n
theorem JN {a:Nat}:((a+n:Nat):Int)-(a:Nat)=(n:Nat):=by lia
theorem Cd {c:Nat} {tail:List Int}:∀ (ps:List Pc) (a:Nat),(∀ p∈ps,nj p)→Pre buf c a (cg ps++tail)→∃ steps q,pe buf a steps q∧(eF a ps).filter (j3 c)=steps.map cm.d ∧
  ((c<a+(cg ps).length∧dA buf q∧aN buf q=.none)∨(q=a+(cg ps).length∧Pre buf c q tail))
 |[],a,_,h=>⟨[],a,.nil,rfl,.inr ⟨rfl,h⟩⟩
 |p::ps,a,ok,h=>by
  have k:=ok p (.head _);have lo:=k.lo;have e:cg (p::ps)=p.laid++cg ps:=rfl;rw [e,List.append_assoc] at h;have hl:=h.len
  by_cases hc:a+p.laid.length≤c
  ·refine dR (Cd ps (a+p.laid.length) (fun p' hp=>ok p' (.tail _ hp)) (h.next hc)) fun steps q hr hf hq=>?_;refine Aa k.bat fun C fs ts i b ht=>?_;have hw:=h.laid (Nat.le_sub_of_add_le' hc);have h12:a+12≤c:=by lia
   have en:=Ed k (h.head k h12) (hl▸h12);rw [hl,if_neg (Nat.not_lt.mpr hc)] at en;refine ⟨⟨a+p.laid.length,p.form,p.base,p.code,ts⟩::steps,q,.cons (C:=C) (fs:=fs) en.1 en.2 (by lia) ?_ ?_ hr,?_,?_⟩
   ·rw [JO,hw];exact i
   ·rw [JN];exact b
   ·rw [Hf hc,hf,List.map_cons,pcD,ht];rfl
   ·rw [e,List.length_append,← Nat.add_assoc];exact hq
  ·refine ⟨[],a,.nil,DP (Nat.not_le.mp hc),.inl ⟨?_,?_⟩⟩
   ·rw [e,List.length_append];exact Nat.lt_of_lt_of_le (Nat.not_le.mp hc) (Nat.add_le_add_left (Nat.le_add_right _ _) a)
   ·by_cases h12:a+12≤c
    ·have en:=Ed k (h.head k h12) (hl▸h12);rw [hl,if_pos (Nat.not_le.mp hc)] at en;exact en
    ·exact mj (by rw [hl];exact Nat.not_le.mp h12) (hl▸h.le)
theorem pU:∀ (ps:List Pc) (a:Nat),∀ d∈eF a ps,∃ e f b k t,d=.tup [.int ((e:Nat):Int),f,b,k,t]
 |p::ps,a,d,h=>by
  rcases List.mem_cons.mp h with rfl|h
  ·exact ⟨_,_,_,_,_,rfl⟩
  ·exact pU ps _ d h
theorem Cu:∀ p∈pcs sc,nj p:=fun p hp=>by
 refine al (List.mem_map.mp hp) fun n _ q1=>?_;obtain rfl:=q1;exact HW n
theorem Fe:okL (dZ sc):=by
 have hm:0≤bN sc/10%14∧bN sc/10%14<256:=by lia
 unfold dZ
 split
 ·refine ao (fun n hn=>?_) fun n hn=>?_
  ·simp only [List.mem_cons,List.not_mem_nil,or_false] at hn
   rcases hn with rfl|rfl|rfl|rfl|rfl|rfl|rfl|rfl|rfl|rfl|rfl|rfl<;>first|decide|exact hm
  ·rw [(List.mem_replicate.mp hn).2];decide
 ·intro n hn;rw [(List.mem_replicate.mp hn).2];decide
theorem rN:okL (a6 sc):=ao (gk fun p hp=>(Cu p hp).ok) Fe
theorem FC:0<(cg (pcs sc)).length:=by
 have hm:fg 0∈pcs sc:=List.mem_map.mpr ⟨0,List.mem_append_right _ (.head _),rfl⟩;have:=gZ (f:=fun p:Pc=>p.laid) hm;have lo:=(HW 0).lo;unfold cg;lia
theorem Az:0<(a6 sc).length:=by
 have:=FC (sc:=sc);unfold a6;rw [List.length_append];lia
theorem Av {b0 b1 b2 b3 b4 b5 b6 b7 m:Int} {q:Nat} (h:aq l q [b0,b1,b2,b3,b4,b5,b6,b7,0,0,0,m]) (m0:0≤m) (m1:m<256):fw l q=m:=by
 have hr:aq l (q+8+0) (am m 4):=by
  have:=aq.right (a:=[b0,b1,b2,b3,b4,b5,b6,b7]) (b:=[0,0,0,m]) h
  have e:am m 4=[0,0,0,m]:=by
   skip;have h1:m/256=0:=by lia
   have h2:m/65536=0:=by lia
   have h3:m/16777216=0:=by lia
   have h4:m%256=m:=by lia
   refine (?_:[m/256^3%256,m/256^2%256,m/256^1%256,m/256^0%256]=_);rw [(by decide:(256:Int)^3=16777216),(by decide:(256:Int)^2=65536),(by decide:(256:Int)^1=256),(by decide:(256:Int)^0=1),h1,h2,h3,Int.ediv_one,h4]
   rfl
  rw [e];exact this
 exact je (f:=fI) (off:=0) rfl hr (by lia) (by lia)
section
variable {c q m:Nat} {steps:List cm}
theorem pJ (h:c<(a6 sc).length):du sc c=false:=by
 unfold du;rw [beq_eq_false_iff_ne.mpr (Nat.ne_of_lt h),Bool.and_false]
theorem Au (h:¬db sc=true):du sc c=false:=by unfold du;rw [Bool.eq_false_iff.mpr h];rfl
theorem B8 (h:db sc=true) (e:c=(a6 sc).length):du sc c=true:=by unfold du;rw [h,beq_iff_eq.mpr e];rfl
theorem mo (hc:c≤(a6 sc).length) (ns:du sc c=false) (hr:pe (aL sc c) 0 steps q) (hf:(eF 0 (pcs sc)).filter (j3 c)=steps.map cm.d) (h:dA (aL sc c) q∧aN (aL sc c) q=.none):∃ steps q v7,fx sc c steps q v7:=by
 refine ⟨steps,q,q,hc,hr,pU _ 0,hf,⟨0,.stop h.1 h.2⟩,?_,?_⟩<;>rw [ns]
 ·rw [if_neg (by decide)];exact h.2
 ·rw [if_neg (by decide)]
theorem wU (h:db sc=true):∃ m:Nat,m<14∧dZ sc=[1,2,3,4,5,6,7,8,0,0,0,(m:Int)]++List.replicate m 9:=by
 have hm:0≤bN sc/10%14∧bN sc/10%14<14:=by lia
 refine ⟨(bN sc/10%14).toNat,by lia,?_⟩;unfold dZ;rw [if_pos h,Int.toNat_of_nonneg hm.1]
theorem An (h:¬db sc=true):(dZ sc).length≤11:=by
 unfold dZ;rw [if_neg h,List.length_replicate];lia
theorem Bd (hm:m<14) (hlen:(aL sc c).length=c) (h12:q+12≤c) (T:Pre (aL sc c) c q ([1,2,3,4,5,6,7,8,0,0,0,(m:Int)]++List.replicate m 9)):dA (aL sc c) q∧aN (aL sc c) q=if c<q+12+m then .none else some (q+12+m):=by
 have h:=z9 (buf:=aL sc c) (a:=q) (k:=m) (by rw [hlen];exact h12) (Av (T.lay (Nat.le_sub_of_add_le' h12)) (Int.natCast_nonneg m) (by lia));rw [hlen] at h;exact h
theorem Ay (hall:(a6 sc).length=q+(dZ sc).length) (ht:dZ sc=[1,2,3,4,5,6,7,8,0,0,0,(m:Int)]++List.replicate m 9):(a6 sc).length=q+12+m:=by
 rw [hall,ht,List.length_append,List.length_replicate];exact (Nat.add_assoc q 12 m).symm
end
theorem Bh (sc:List Int) (c:Nat) (hc:c≤(a6 sc).length):∃ steps q v7,fx sc c steps q v7:=by
 have hlen:(aL sc c).length=c:=eQ hc;have hall:(a6 sc).length=(cg (pcs sc)).length+(dZ sc).length:=by unfold a6;rw [List.length_append]
 refine dR (Cd (pcs sc) 0 Cu ⟨hlen,Nat.zero_le _,rN,rfl⟩) fun steps q hr hf hq=>?_
 rcases hq with ⟨hlt,h⟩|⟨hq,T⟩
 ·exact mo hc (pJ (by lia)) hr hf h
 ·rw [Nat.zero_add] at hq;rw [← hq] at hall
  by_cases hs:db sc=true
  ·refine al (wU hs) fun m hm ht=>?_;have hn:=Ay hall ht
   by_cases h12:q+12≤c
   ·have h:=Bd hm hlen h12 (ht▸T)
    by_cases hc':c<q+12+m
    ·rw [if_pos hc'] at h;exact mo hc (pJ (hn▸hc')) hr hf h
    ·have e:c=q+12+m:=Nat.le_antisymm (hn▸hc) (Nat.le_of_not_lt hc');rw [if_neg hc',← e] at h;have g:=mj (buf:=aL sc c) (a:=c) (by lia) (by lia);refine ⟨steps,q,c,hc,hr,pU _ 0,hf,⟨1,.more h.1 h.2 (.stop g.1 g.2)⟩,?_,?_⟩<;>rw [B8 hs (e.trans hn.symm)]
     ·rw [if_pos rfl];exact ⟨c,h.2,by lia⟩
     ·rw [if_pos rfl]
   ·exact mo hc (pJ (by lia)) hr hf (mj (by lia) (by rw [hlen];exact T.le))
  ·have ht:=An hs;exact mo hc (Au hs) hr hf (mj (by lia) (by rw [hlen];exact T.le))
theorem Bs (b:ah x) (r:Rm A 12) (fr:aF x A) (hu:A.units+30<cLine) (hz:sc.length≤1000) :
  aY x A (.ref 1382) [.lst (sc.map .int)] O (fun d O'=>d=.bool true∧O'=O) E:=No b r fr hu hz rN Az hok (Bh sc)
end
section
open PySem.W.X
theorem qm {R:WRecords}:∀ {xs:List WData},WShape.hasItems R xs .int=true→∃ ns:List Int,xs=ofPys (ns.map PyData.int)
 |[],_=>⟨[],rfl⟩
 |d::xs,h=>by
  have h':WShape.has R d .int=true∧WShape.hasItems R xs .int=true:=Bool.and_eq_true_iff.mp h;obtain ⟨i,rfl⟩:=hasW_int h'.1;obtain ⟨ns,rfl⟩:=qm h'.2;exact ⟨i::ns,rfl⟩
theorem rX:∀ {ns:List Int},(ofPys (ns.map PyData.int)).length=ns.length
 |[]=>rfl
 |n::ns=>by refine (?_:(ofPys _).length+1=ns.length+1);rw [rX]
theorem Dk {args:List WData} (h:fP.pre args=true):∃ ns:List Int,args=[ofPy (PyData.list (ns.map PyData.int))]∧ns.length≤63:=by
 obtain ⟨hs,hp⟩:=pre_splitW h;refine bj (hasAllW_cons hs) fun d r q1 q2=>?_;obtain rfl:=q1;obtain ⟨hd,hr⟩:=q2;obtain rfl:=hasAllW_nil hr;refine al (hasW_list hd) fun xs q3 hx=>?_;obtain rfl:=q3;obtain ⟨ns,rfl⟩:=qm hx;refine ⟨ns,rfl,?_⟩;have hl:=rX (ns:=ns);have hp:WTm.holds eg.records (.and (.not (.lt (.lit (.int (63:Nat))) (.len (.arg 0)))) (.lit (.bool true))) {args:=[.list (ofPys (ns.map PyData.int))]}=true:=hp;refine Decidable.byContradiction fun hn=>?_;have hlt:((63:Nat):Int)<((ofPys (ns.map PyData.int)).length:Int):=by rw [hl];lia
 have e:W.less? (.int ((63:Nat):Int)) (.int ((ofPys (ns.map PyData.int)).length:Int))=some (decide (((63:Nat):Int)<((ofPys (ns.map PyData.int)).length:Int))):=rfl;rw [decide_eq_true hlt] at e;simp only [WTm.holds,WTm.value,List.getElem?_cons_zero] at hp;rw [e] at hp
 cases hp
def yO (R:WRecords) (cl:Str→Option Addr) (h:Heap) (vs:List Value):List WData→Prop
 |[]=>vs=[]
 |d::ds=>∃ v us a b,vs=v::us∧ReadsW R cl h v d a∧ReadsAllW R cl h us ds b
theorem pu {R:WRecords} {cl:Str→Option Addr} {ds:List WData} {as:List Addr} (r:ReadsAllW R cl h vs ds as):yO R cl h vs ds:=by
 cases r with
 |nil=>exact rfl
 |cons a b=>exact ⟨_,_,_,_,rfl,a,b⟩
def Ll (R:WRecords) (cl:Str→Option Addr) (h:Heap) (v:Value):WData→Prop
 |.int i=>∃ t,v=.int i t
 |.list xs=>∃ a o vs n as,v=.ref a∧h.get? a=some o∧o.cls=.type "list"∧o.data=.seq vs n∧ReadsAllW R cl h vs.toList xs as
 |_=>True
theorem zD {R:WRecords} {cl:Str→Option Addr} {v:Value} {d:WData} {as:List Addr} (r:ReadsW R cl h v d as):Ll R cl h v d:=by
 cases r with
 |int i t=>exact ⟨t,rfl⟩
 |list a b c d=>exact ⟨_,_,_,_,_,rfl,a,b,c,d⟩
 |_=>exact trivial
theorem AV {R:WRecords} {cl:Str→Option Addr} {ns:List Int}:∀ {vs:List Value} {as:List Addr},ReadsAllW R cl h vs (ofPys (ns.map PyData.int)) as→af H vs (ns.map D.int):=by
 induction ns with
 |nil =>
  intro vs as r;have e:vs=[]:=pu r;subst e;exact .nil
 |cons n ns ih =>
  intro vs as r;obtain ⟨v,us,a,b,e,r1,r2⟩:yO R cl h vs (.int n::ofPys (ns.map PyData.int)):=pu r;obtain ⟨t,e'⟩:∃ t,v=.int n t:=zD r1;subst e;subst e';exact .cons (.int n _) (ih r2)
noncomputable def Dn (h:Heap) (la:Addr):PM:=fun b=>if b=la then h.get? la else .none
noncomputable def PD (w:World) (s:Shared) (la:Addr):Cx:=⟨pw,w,fun b=>if b=la then .none else (s.heap.get? b).map (·,false),fun _=>.none,s.os,s.drawn,fun _=>.none⟩
theorem ue {la b:Addr} (h:b≠la) (e:s.heap.get? b=some o):(PD w s la).P b=some (o,false):=by
 refine (?_:(if b=la then _ else _)=_);rw [if_neg h,e];rfl
theorem Bw:∀ p∈uE,p.1≠("__name__":Str)∧bootBuiltins p.1=some p.2:=by decide +kernel
noncomputable def Gd (l:Frag):Bool:=l.all fun p=>match p.2.cls with|.type t=>t !="list"|_=>true
theorem BG (P:Params):Gd (K P)=true:=by kernel_rfl
theorem vR {α:Type}:∀ {l:List (Nat×α)} {a:Nat} {o:α},l.lookup a=some o→(a,o)∈l
 |(b,q)::l,a,o,e=>by
  rw [List.lookup_cons] at e
  by_cases h:(a==b)=true
  ·rw [h] at e
   cases e
   rw [beq_iff_eq] at h;subst h;exact .head _
  ·rw [Bool.eq_false_iff.mpr h] at e;exact .tail _ (vR e)
theorem Lm {P:Params} (e:(K P).lookup a=some o):o.cls≠.type "list":=fun h=>by
 have m:(a,o)∈K P:=vR e;have:=List.all_eq_true.mp (BG P) _ m;rw [h] at this
 cases this
theorem Di {args:List WData}:fP.post args (.bool true) args=true:=postW_of (r:=eg.toRowW) (X:=true) (by kernel_rfl) (by kernel_rfl) rfl
theorem Dg {ns:List Int} {as:List Addr} (L:Laid eg.toRowW.records w s0 sA [ofPy (PyData.list (ns.map PyData.int))] vals as) :
  ∃ la vs,vals=[.ref la]∧sA.heap.get? la=some {cls:=.type "list",data:=.seq (List.toArray vs)}∧∀ H,af H vs (ns.map D.int):=by
 obtain ⟨v,us,a,b,e,r1,r2⟩:yO _ _ _ vals (ofPy (PyData.list (ns.map PyData.int))::[]):=pu L.reads;have e2:us=[]:=pu r2;obtain ⟨la,o,its,n,bs,e3,ho,hc,hd,hr⟩:∃ a o vs n as,v=.ref a∧_∧_∧_∧_:=zD r1;subst e2;subst e3;subst e;refine ⟨la,its.toList,rfl,?_,fun H=>AV hr⟩;have:=script_obj L ⟨_,ho,hc,_,hd⟩;rw [this]
theorem Dj {mb:Str→Option Value} (KX:(K w.params).In s.heap) (hob:s.heap.get? la=some o) (hc:o.cls=.type "list") (hq:∀ es n,o.data≠.dict es n) (hl:s.heap.NoLimit) (hb:s.heap.Ns builtinsNs mb) (hbs:∀ x:Str,x≠"__name__"→mb x=bootBuiltins x):ah (PD w s la):=by
 have nK:∀ b o',(K w.params).lookup b=some o'→b≠la:=fun b o' e q=>by
  have:=KX b o' e;rw [q,hob] at this;exact Lm e (Option.some.inj this▸hc)
 have nD:∀ b m,s.heap.Ns b m→b≠la:=fun b m n q=>by
  obtain ⟨o',es,ep,ho,hd,_⟩:=n;rw [q,hob] at ho;exact hq _ _ (Option.some.inj ho▸hd)
 refine ⟨rfl,fun b o e=>ue (nK b o e) (KX b o e),?_,?_⟩
 ·obtain ⟨mc,n,e⟩:=hl;have hn:=nD _ _ n;obtain ⟨o,es,ep,ho,hd,hk,hf⟩:=n;exact ⟨o,ue hn ho,fun h q=>⟨mc,⟨o,es,ep,q,hd,hk,hf⟩,e⟩⟩
 ·have hn:=nD _ _ hb;obtain ⟨o,es,ep,ho,hd,hk,hf⟩:=hb
  exact ⟨o,mb,ue hn ho,fun h q=>⟨o,es,ep,q,hd,hk,hf⟩,fun p hp=>by
   have:=Bw p hp;rw [hbs _ this.1];exact this.2⟩
theorem Gu (hg:s.gens=#[]):az (PD w s la) (Dn s.heap la) [] s:=by
 refine ⟨fun _ _ e=>(Option.some_ne_none _ e.symm).elim,rfl,rfl,fun b o e=>?_,fun b o q e=>?_,fun _ h=>(List.not_mem_nil h).elim,.nil,fun _ h=>(List.not_mem_nil h).elim,fun _ h=>(List.not_mem_nil h).elim,fun b ob e=>?_,.of_eq hg,fun _ _ e=>(Option.some_ne_none _ e.symm).elim⟩
 ·have e':(if b=la then s.heap.get? la else .none)=some o:=e
  by_cases q:b=la
  ·rw [if_pos q] at e';rw [q];exact e'
  ·rw [if_neg q] at e';exact (Option.some_ne_none _ e'.symm).elim
 ·have e':(if b=la then .none else (s.heap.get? b).map (·,false))=some (o,q):=e
  by_cases h:b=la
  ·rw [if_pos h] at e';exact (Option.some_ne_none _ e'.symm).elim
  ·rw [if_neg h] at e';refine al (Option.map_eq_some_iff.mp e') fun o' h1 h2=>?_;have h2:=Prod.mk.inj h2;rw [← h2.1,← h2.2];exact ⟨_,h1,.rfl'⟩
 ·have e':(if b=la then .none else (s.heap.get? b).map (·,false))=some ob:=e;refine (?_:(if b=la then s.heap.get? la else .none)=.none)
  by_cases h:b=la
  ·rw [if_pos h] at e';exact (Option.some_ne_none _ e'.symm).elim
  ·rw [if_neg h]
theorem Df:HQ:=fun w s0 sA mg mb a args vals as L KX hg hm hl hb hbs hpre=>by
 refine al (Dk hpre) fun ns q4 hz=>?_;obtain rfl:=q4;refine dR (Dg L) fun la its q5 hob hits=>?_;obtain rfl:=q5;have B:ah (PD w sA la):=Dj KX hob rfl (fun _ _ e=>nomatch e) hl hb hbs;have R:az (PD w sA la) (Dn sA.heap la) [] sA:=Gu L.gens;have rd:ac (Dn sA.heap la) (.ref la) (.lst (ns.map D.int)):=.lst (vs:=its) (n:=0) (by refine (?_:(if la=la then sA.heap.get? la else .none)=_);rw [if_pos rfl];exact hob) (hits _)
 have ha:a=1382:=by
  have:=hg.agree (B.ns R) (S "law");rw [hm] at this;have e:nsFind (gEs w.params) (S "law")=some (.ref 1382):=by kernel_rfl
  rw [show nsFind (gEs (PD w sA la).w.params) (S "law")=some (.ref 1382) from e] at this
  cases this;rfl
 subst ha
 have good:∀ s',OldK sA.heap s'.heap→s'.os=sA.os→AllBare s'.gens→GoodWG fP (classAt s0.heap) (ExcName.means s0.heap) [ofPy (PyData.list (ns.map PyData.int))] sA (.ok (.ret (.bool true))) s':=fun s' h1 h2 h3 =>
  ⟨.inl ⟨_,.bool true,[],rfl,fun _=>rfl,.bool true,Di,fun _=>⟨.nil,fun _ h=>by cases h⟩⟩,h1,h2,h3⟩
 refine ⟨good _ (.refl _) rfl (.of_eq L.gens),?_⟩;have fr:aF (PD w sA la) callerA:=⟨[],rfl,fun _ h=>by cases h⟩;have rm:Rm callerA 12:=⟨rfl,by decide +kernel⟩;refine (Bs B rm fr (by decide +kernel) (by lia)).call (Dn sA.heap la) sA _ _ R (.one rd) (fun H' s' v d O' k R' le rd'=>?_);obtain ⟨rfl,rfl⟩:=k
 cases rd' using ac.cBool
 refine good _ (.of_keep fun b o e=>?_) R'.os R'.bare
 by_cases h:b=la
 ·subst h;have:Dn sA.heap b b=some o:=by refine (?_:(if b=b then sA.heap.get? b else .none)=_);rw [if_pos rfl];exact e
  exact R'.hH _ _ (le _ _ this)
 ·exact R'.hard (ue h e)
end
theorem law_holds:PySem.Challenge.rw_ll0030_01.Holds:=QZ Df
end Mine
theorem PySem.Challenge.cw_ll0030_01_holds : PySem.Challenge.rw_ll0030_01.Holds := by
  exact Mine.law_holds
