/-
Part 1 of 6 of the proof; what is proved stands in the last part.
-/
import Derived.Test.YtijgloklmiokhaaGreatDoorProg
import Derived.WalkKit
import Derived.WalkSpells
import Derived.WalkLawsBesides
import Derived.Outline
import Derived.Handy
import Derived.Laws.Externs
import Derived.BigRegion
import Derived.BigQuiet
import Derived.Deep.QuietTactic
import Derived.StillTailTactics
import Derived.Laws.BitsAllLaws
import Derived.Lib.Hide
import Derived.Deep.DeepCutAuto
import Derived.Deep.CutRange
import Derived.Deep.CutBlock
import Derived.Deep.RegionHeld3
import Derived.Laws.CopyRow
import Derived.Lib.Mul64
import Derived.Lib.BitFns
import Derived.Laws.Strings
import Derived.LaidEqlPtr
import Derived.Laws.MakeOwn
import Derived.OrdersHeld
import Derived.Lib.AppendZeros
import Derived.StillTail
import Derived.Lib.EndianBits
import Derived.ArgAppend
import Derived.Deep.MidRow
import Derived.Deep.WholeRow
import Derived.Great.BuildSlice
import Derived.ChangeKeysEq
import Derived.ProofKit
import Derived.LaidMore
import Derived.OpenShut
import Derived.Stop.Joined
import Derived.Stop.LaidErr
import Derived.SevenTiedAt
import Derived.Laws.ResultCell
import Derived.ReadAgain
import Derived.ChangeOld
import Derived.ChangeBook
import Derived.Deep.Slices
import Derived.Test.YtijgloklmiokhaaGreatDoorRows
import Derived.Test.YtijgloklmiokhaaGreatDoorCards
import Derived.Test.YtijgloklmiokhaaGreatDoorTie
set_option linter.unusedSimpArgs false
set_option linter.unusedVariables false
namespace Go.Proofs.YtijgloklmiokhaaGreatDoor
open Go.RowKit
structure Fr (T:Nat->Nat->Prop) (w w':World):Prop where
 os:w'.os=w.os
 tape:w'.tape=w.tape
 output:w'.output=w.output
 size:w.heap.size<=w'.heap.size
 block:∀k,k < w.heap.size->(∀o,¬T k o)->w'.heap[k]?=w.heap[k]?
 cell:∀k o,k < w.heap.size->¬T k o->w'.cell? ⟨k,o,none⟩=w.cell? ⟨k,o,none⟩
 frozen:∀k o,k < w.heap.size->w'.frozen? ⟨k,o,none⟩=w.frozen? ⟨k,o,none⟩
def NoT:Nat->Nat->Prop:=fun _ _=>False
def Rng (b o n:Nat):Nat->Nat->Prop:=fun k j=>k=b/\o<=j/\j < o+n
def Or2 (S T:Nat->Nat->Prop):Nat->Nat->Prop:=fun k j=>S k j\/T k j
theorem Fr.refl (T:Nat->Nat->Prop) (w:World):Fr T w w:=⟨rfl,rfl,rfl,Nat.le_refl _,fun _ _ _=>rfl,fun _ _ _ _=>rfl,fun _ _ _=>rfl⟩
theorem Fr.trans {T:Nat->Nat->Prop} {a b c:World} (h:Fr T a b) (k:Fr T b c):Fr T a c:=
 ⟨k.os.trans h.os,k.tape.trans h.tape,k.output.trans h.output,Nat.le_trans h.size k.size,
  fun i hi n=>(k.block i (Nat.lt_of_lt_of_le hi h.size) n).trans (h.block i hi n),
  fun i o hi n=>(k.cell i o (Nat.lt_of_lt_of_le hi h.size) n).trans (h.cell i o hi n),
  fun i o hi=>(k.frozen i o (Nat.lt_of_lt_of_le hi h.size)).trans (h.frozen i o hi)⟩
theorem Fr.mono {S T:Nat->Nat->Prop} {w w':World} (h:Fr S w w') (hs:∀k o,k < w.heap.size->S k o->T k o):Fr T w w':=
 ⟨h.os,h.tape,h.output,h.size,fun k hk n=>h.block k hk fun o ho=>n o (hs k o hk ho),fun k o hk n=>h.cell k o hk fun ho=>n (hs k o hk ho),h.frozen⟩
theorem Fr.drewN {T:Nat->Nat->Prop} {a w:World} (h:Fr T a w) (n:Nat):Fr T a (w.drewN n):=h.trans ⟨rfl,rfl,rfl,Nat.le_refl _,fun _ _ _=>rfl,fun _ _ _ _=>rfl,fun _ _ _=>rfl⟩
theorem Fr.drew {T:Nat->Nat->Prop} {a w:World} (h:Fr T a w):Fr T a w.drew:=h.trans ⟨rfl,rfl,rfl,Nat.le_refl _,fun _ _ _=>rfl,fun _ _ _ _=>rfl,fun _ _ _=>rfl⟩
theorem Fr.below {B:Nat} {w w':World} (h:Below B w w') (hB:w.heap.size<=B):Fr NoT w w':=
 ⟨h.os,h.tape,h.output,h.size,fun k hk _=>h.block k (Nat.lt_of_lt_of_le hk hB),fun k _ hk _=>h.cell (p:=⟨k,_,none⟩) (Nat.lt_of_lt_of_le hk hB),fun k _ hk=>h.frozen (p:=⟨k,_,none⟩) (Nat.lt_of_lt_of_le hk hB)⟩
theorem Fr.alloc {T:Nat->Nat->Prop} {a w:World} (h:Fr T a w) (o:Obj):Fr T a (w.alloc o):=
 h.trans ((Fr.below (B:=w.heap.size) ((Below.refl _ _).alloc (Nat.le_refl _) o) (Nat.le_refl _)).mono fun _ _ _ f=>f.elim)
theorem Fr.setCell {T:Nat->Nat->Prop} {a w:World} (h:Fr T a w) {b o:Nat} (ht:b < a.heap.size->T b o) (v:Value):Fr T a (w.setCell ⟨b,o,none⟩ v):=by
 refine ⟨h.os,h.tape,h.output,Nat.le_trans h.size (by simp [World.setCell]),fun k hk n=>?_,fun k j hk n=>?_,fun k j hk=>?_⟩
 ·rw [Below.heap_setCell _ _ _ _ (fun e=>by have e:k=b:=e;subst e;exact n o (ht hk)),h.block k hk n]
 ·rw [World.cell?_setCell_other _ _ _ _ (by intro e;injection e with e1 e2;subst e1;subst e2;exact n (ht hk)),h.cell k j hk n]
 rw [World.frozen?_setCell,h.frozen k j hk]
theorem Fr.someCell {T:Nat->Nat->Prop} {w w':World} (h:Fr T w w') {k o:Nat} {v:Value} (hc:w.cell? ⟨k,o,none⟩=some v) (n:¬T k o):w'.cell? ⟨k,o,none⟩=some v:=
 (h.cell k o (World.block_lt_of_cell? w _ hc) n).trans hc
abbrev Env:=List (Nat × Value)
def lk:Env->Nat->Option Value
 | [],_=>none
 | (k,v)::l,j=>bif Nat.beq k j then some v else lk l j
def ov (l:Env):Operand->Option Value
 | .tmp k=>lk l k
 | .const v=>some v
 | .global g=>some (.pointer (some ⟨g,0,none⟩))
 | .func f=>some (.func (.func f) #[] #[])
structure Hd (a:Act) (N:Nat) (ds:List Deferred) (l:Env):Prop where
 sz:a.tmps.size=N
 df:a.defers=ds
 g:∀k v,lk l k=some v->a.eval (.tmp k)=v
theorem Hd.o {a:Act} {N:Nat} {ds:List Deferred} {l:Env} {x:Operand} {v:Value} (H:Hd a N ds l) (h:ov l x=some v):a.eval x=v:=by
 cases x with
 | tmp k=>exact H.g k v h
 | const c=>exact Option.some.inj h
 | global g=>exact Option.some.inj h
 | func f=>exact Option.some.inj h
theorem Hd.put {a:Act} {N:Nat} {ds:List Deferred} {l:Env} (H:Hd a N ds l) {d:Nat} (v:Value) (h:Nat.blt d N=true):Hd (a.put (some d) v) N ds ((d,v)::l):=by
 refine ⟨by rw [<-H.sz];simp [Act.put],H.df,fun k u hk=>?_⟩
 have hd:d < a.tmps.size:=by rw [H.sz];simpa using h
 unfold lk at hk
 cases hb:Nat.beq d k with
 | true=>
   rw [hb] at hk
   have e:=Option.some.inj hk
   have:=Nat.eq_of_beq_eq_true hb
   subst this
   simp [Act.put,Act.eval,Array.getD_eq_getD_getElem?,hd,e]
 | false=>
   rw [hb] at hk
   have hne:d≠k:=Nat.ne_of_beq_eq_false hb
   rw [<-H.g k u hk]
   simp [Act.put,Act.eval,Array.getD_eq_getD_getElem?,hne]
def SubL:Env->Env->Prop
 | [],_=>True
 | (k,v)::r,l=>lk l k=some v/\SubL r l
theorem SubL.get {r l:Env} (h:SubL r l) {k:Nat} {v:Value} (hk:lk r k=some v):lk l k=some v:=by
 induction r with
 | nil=>cases hk
 | cons p r ih=>
   obtain ⟨j,u⟩:=p
   unfold lk at hk
   cases hb:Nat.beq j k with
   | true=>
     rw [hb] at hk
     have e:=Option.some.inj hk
     have:=Nat.eq_of_beq_eq_true hb
     subst this;subst e
     exact h.1
   | false=>rw [hb] at hk;exact ih h.2 hk
theorem Hd.sub {a:Act} {N:Nat} {ds:List Deferred} {l:Env} (H:Hd a N ds l) {r:Env} (h:SubL r l):Hd a N ds r:=⟨H.sz,H.df,fun _ _ hk=>H.g _ _ (h.get hk)⟩
def pick (l:Env):List Nat->Env
 | []=> []
 | k::ks=>match lk l k with
   | some v=>(k,v)::pick l ks
   | none=>pick l ks
theorem pick_sub (l:Env):∀ks,SubL (pick l ks) l:=by
 intro ks
 induction ks with
 | nil=>trivial
 | cons k ks ih=>
   unfold pick
   cases h:lk l k with
   | some v=>exact ⟨h,ih⟩
   | none=>exact ih
theorem Hd.pick {a:Act} {N:Nat} {ds:List Deferred} {l:Env} (H:Hd a N ds l) (ks:List Nat):Hd a N ds (YtijgloklmiokhaaGreatDoor.pick l ks):=H.sub (pick_sub l ks)
def args0:Nat->List Value->Env
 | _, []=> []
 | k,v::vs=>(k,v)::args0 (k+1) vs
theorem args0_lk:∀(vs:List Value) (k j:Nat) (v:Value),lk (args0 k vs) j=some v->k<=j/\vs[j - k]?=some v:=by
 intro vs
 induction vs with
 | nil=>intro k j v h;cases h
 | cons u vs ih=>
   intro k j v h
   unfold args0 lk at h
   cases hb:Nat.beq k j with
   | true=>
     rw [hb] at h
     have:=Nat.eq_of_beq_eq_true hb
     subst this
     simp at h ⊢;exact h
   | false=>
     rw [hb] at h
     have hne:k≠j:=Nat.ne_of_beq_eq_false hb
     obtain ⟨h1,h2⟩:=ih _ _ _ h
     refine ⟨by omega,?_⟩
     rw [show j - k=(j - (k+1))+1 by omega]
     simpa using h2
theorem enter_hd (vs:List Value) (n:Nat) (h:vs.length<=n):Hd { tmps:=vs.toArray++Array.replicate (n - vs.toArray.size) undef,defers:= []} n [] (args0 0 vs):=by
 refine ⟨by simp;omega,rfl,fun k v hk=>?_⟩
 obtain ⟨_,h2⟩:=args0_lk _ _ _ _ hk
 have hlt:k < vs.length:=by
  rcases Nat.lt_or_ge k vs.length with h' | h'
  ·exact h'
  simp [List.getElem?_eq_none h'] at h2
 simp only [Nat.sub_zero] at h2
 simp only [Act.eval,Array.getD_eq_getD_getElem?]
 rw [Array.getElem?_append_left (by simpa using hlt)]
 simp [h2]
variable {P:Program}
theorem Qd {f:FuncId} {fn:Func} {c:Code} {vs:List Value} {w:World} {R:Ending->World->Prop} (hf:P.funcs[f]?=some fn) (hb:fn.body=some c) (hn:Nat.ble vs.length fn.ntmps=true)
 (h:∀a:Act,Hd a fn.ntmps [] (args0 0 vs)->c.wp P (bodyPost P fn R) a w):Calls P f vs.toArray w R:=
 calls_of_wp hf hb (h _ (enter_hd vs fn.ntmps (by simpa using hn)))
theorem enterD {f:FuncId} {fn:Func} {c:Code} {vs:List Value} {w:World} {R:Ending->World->Prop} (hf:P.funcs[f]?=some fn) (hb:fn.body=some c) (hn:Nat.ble vs.length fn.ntmps=true)
 (h:∀a:Act,Hd a fn.ntmps [] (args0 0 vs)->c.wp P (bodyPostD P fn R) a w):Calls P f vs.toArray w R:=
 calls_of_wp_defers hf hb (h _ (enter_hd vs fn.ntmps (by simpa using hn)))
section
variable {ops:Array Oper} {Q:Exit->Act->World->Prop} {a:Act} {w w':World} {rest:List Oper} {op:Op} {d:Nat} {ty:TypeId} {pos:String} {after:Array Edge} {g:Nat} {b c:Bool} {N:Nat} {ds:List Deferred} {l:Env} {v:Value}
theorem wl (H:Hd a N ds l) (hr:(execOp a.eval ⟨some d,op,ty,pos,after,none⟩).run P w=.ok (.value v) w') (hd:Nat.blt d N=true)
 (h:∀a',Hd a' N ds ((d,v)::l)->wpList P ops Q rest a' w'):wpList P ops Q (⟨some d,op,ty,pos,after,none⟩::rest) a w:=
 wpList_plain rfl fun K hK=>by unfold Oper.wp;rw [hr];exact hK _ _ (h _ (H.put v hd))
theorem wls (H:Hd a N ds l) (hr:(execOp a.eval ⟨none,op,ty,pos,after,none⟩).run P w=.ok .skip w') (h:Hd a N ds l->wpList P ops Q rest a w'):wpList P ops Q (⟨none,op,ty,pos,after,none⟩::rest) a w:=
 wpList_plain rfl fun K hK=>by unfold Oper.wp;rw [hr];exact hK _ _ (h H)
theorem wlv (H:Hd a N ds l) (hr:(execOp a.eval ⟨none,op,ty,pos,after,none⟩).run P w=.ok (.value v) w') (h:Hd a N ds l->wpList P ops Q rest a w'):wpList P ops Q (⟨none,op,ty,pos,after,none⟩::rest) a w:=
 wpList_plain rfl fun K hK=>by unfold Oper.wp;rw [hr];exact hK _ _ (h H)
theorem wlc {f:FuncId} {args:Array Value} {R:Ending->World->Prop} (H:Hd a N ds l) (hr:(execOp a.eval ⟨some d,op,ty,pos,after,none⟩).run P w=.ok (.enter f args) w)
 (hc:Calls P f args w R) (hd:Nat.blt d N=true) (h:∀e w',R e w'->∃v,e=.returned v/\∀a',Hd a' N ds ((d,v)::l)->wpList P ops Q rest a' w'):wpList P ops Q (⟨some d,op,ty,pos,after,none⟩::rest) a w:=
 wpList_plain rfl fun K hK=>by
  unfold Oper.wp;rw [hr]
  exact hc.mono fun e w' hR=>by obtain ⟨v,rfl,h'⟩:=h e w' hR;exact hK _ _ (h' _ (H.put v hd))
theorem wld {dd:Deferred} (H:Hd a N ds l) (hr:(execOp a.eval ⟨none,op,ty,pos,after,none⟩).run P w=.ok (.defer dd) w')
 (h:∀a',Hd a' N (dd::ds) l->wpList P ops Q rest a' w'):wpList P ops Q (⟨none,op,ty,pos,after,none⟩::rest) a w:=
 wpList_plain rfl fun K hK=>by
  unfold Oper.wp;rw [hr]
  exact hK _ _ (h _ ⟨H.sz,by simp [Act.put,H.df],fun k v hk=>H.g k v hk⟩)
theorem yield_of {og:Oper} {t:Nat} (H:Hd a N ds l) (ho:ops[g]?=some og) (ht:og.dst=some t) (hb:lk l t=some (.bool b)) (hN:Nat.blt t N=true):yielded ops a.tmps g=some b:=by
 have h1:t < a.tmps.size:=by rw [H.sz];simpa using hN
 have h2:=H.g _ _ hb
 simp only [Act.eval,Array.getD_eq_getD_getElem?,Array.getElem?_eq_getElem h1,Option.getD_some] at h2
 simp [yielded,ho,ht,h1,h2]
theorem wanted_yes {o og:Oper} {t:Nat} (H:Hd a N ds l) (hg:o.guard=some (g,b)) (ho:ops[g]?=some og) (ht:og.dst=some t) (hb:lk l t=some (.bool b)) (hN:Nat.blt t N=true):Region.wanted o (yielded ops a.tmps)=true:=by
 simp [Region.wanted,hg,yield_of H ho ht hb hN]
theorem wanted_no {o og:Oper} {t:Nat} (H:Hd a N ds l) (hg:o.guard=some (g,b)) (ho:ops[g]?=some og) (ht:og.dst=some t) (hb:lk l t=some (.bool (!b))) (hN:Nat.blt t N=true):Region.wanted o (yielded ops a.tmps)=false:=by
 simp [Region.wanted,hg,yield_of H ho ht hb hN]
theorem wlg {og:Oper} {t:Nat} (H:Hd a N ds l) (hr:(execOp a.eval ⟨some d,op,ty,pos,after,some (g,b)⟩).run P w=.ok (.value v) w') (hd:Nat.blt d N=true)
 (ho:ops[g]?=some og) (ht:og.dst=some t) (hb:lk l t=some (.bool b)) (hN:Nat.blt t N=true)
 (h:∀a',Hd a' N ds ((d,v)::l)->wpList P ops Q rest a' w'):wpList P ops Q (⟨some d,op,ty,pos,after,some (g,b)⟩::rest) a w:=by
 unfold wpList
 rw [if_pos (wanted_yes H rfl ho ht hb hN)]
 exact .inl (by unfold Oper.wp;rw [hr];exact h _ (H.put v hd))
theorem wlgc {f:FuncId} {args:Array Value} {R:Ending->World->Prop} {og:Oper} {t:Nat} (H:Hd a N ds l) (hr:(execOp a.eval ⟨some d,op,ty,pos,after,some (g,b)⟩).run P w=.ok (.enter f args) w) (hd:Nat.blt d N=true)
 (hc:Calls P f args w R) (ho:ops[g]?=some og) (ht:og.dst=some t) (hb:lk l t=some (.bool b)) (hN:Nat.blt t N=true)
 (h:∀e w',R e w'->∃v,e=.returned v/\∀a',Hd a' N ds ((d,v)::l)->wpList P ops Q rest a' w'):wpList P ops Q (⟨some d,op,ty,pos,after,some (g,b)⟩::rest) a w:=by
 unfold wpList
 rw [if_pos (wanted_yes H rfl ho ht hb hN)]
 refine .inl (by unfold Oper.wp;rw [hr];exact hc.mono fun e w' hR=>by obtain ⟨v,rfl,h'⟩:=h e w' hR;exact h' _ (H.put v hd))
theorem wlx {og:Oper} {t:Nat} (H:Hd a N ds l) (hd:Nat.blt d N=true)
 (ho:ops[g]?=some og) (ht:og.dst=some t) (hb:lk l t=some (.bool (!b))) (hN:Nat.blt t N=true)
 (h:∀a',Hd a' N ds ((d,undef)::l)->wpList P ops Q rest a' w):wpList P ops Q (⟨some d,op,ty,pos,after,some (g,b)⟩::rest) a w:=by
 unfold wpList
 rw [if_neg (by rw [wanted_no H rfl ho ht hb hN];simp)]
 exact h _ (H.put undef hd)
end
section
variable {ops:Array Oper} {Q:Act->Prop} {a:Act} {w w':World} {rest:List Oper} {op:Op} {d:Nat} {ty:TypeId} {pos:String} {after:Array Edge} {g:Nat} {b c:Bool} {N:Nat} {ds:List Deferred} {l:Env} {v:Value}
def Cd (w:World):World->Prop:=fun w'=>∃n,w'=w.drewN n
variable {C:World->Prop}
theorem qwant {o:Oper} (hw:Region.wanted o (yielded ops a.tmps)=true) (h:∀K:Act->Prop,(∀a,wpQuiet P ops C Q rest a->K a)->o.quiet P a C K):wpQuiet P ops C Q (o::rest) a:=
 wpQuiet_step fun K hK=>by rw [if_pos hw];exact h K hK
theorem qskip {o:Oper} (hw:Region.wanted o (yielded ops a.tmps)=false) (h:wpQuiet P ops C Q rest (a.put o.dst undef)):wpQuiet P ops C Q (o::rest) a:=
 wpQuiet_step fun K hK=>by rw [if_neg (by simp [hw])];exact hK _ h
theorem qnone {o:Oper} (hg:o.guard=none) (h:∀K:Act->Prop,(∀a,wpQuiet P ops C Q rest a->K a)->o.quiet P a C K):wpQuiet P ops C Q (o::rest) a:=
 qwant (by simp [Region.wanted,hg]) h
theorem wq (H:Hd a N ds l) (hr:∀w',Cd w w'->(execOp a.eval ⟨some d,op,ty,pos,after,none⟩).run P w'=.ok (.value v) w') (hd:Nat.blt d N=true)
 (h:∀a',Hd a' N ds ((d,v)::l)->wpQuiet P ops (Cd w) Q rest a'):wpQuiet P ops (Cd w) Q (⟨some d,op,ty,pos,after,none⟩::rest) a:=
 qnone rfl fun K hK=>⟨v,fun w' hw=>by unfold Oper.quietAt;rw [hr w' hw];exact ⟨rfl,rfl⟩,hK _ (h _ (H.put v hd))⟩
theorem wqc {f:FuncId} {args:Array Value} (H:Hd a N ds l) (hr:∀w',Cd w w'->(execOp a.eval ⟨some d,op,ty,pos,after,none⟩).run P w'=.ok (.enter f args) w')
 (hc:∀w',Cd w w'->Calls P f args w' fun e w''=>e=.returned v/\Cd w w'') (hd:Nat.blt d N=true)
 (h:∀a',Hd a' N ds ((d,v)::l)->wpQuiet P ops (Cd w) Q rest a'):wpQuiet P ops (Cd w) Q (⟨some d,op,ty,pos,after,none⟩::rest) a:=
 qnone rfl fun K hK=>⟨v,fun w' hw=>by unfold Oper.quietAt;rw [hr w' hw];exact ⟨rfl,hc w' hw⟩,hK _ (h _ (H.put v hd))⟩
theorem wqg {og:Oper} {t:Nat} (H:Hd a N ds l) (hr:∀w',Cd w w'->(execOp a.eval ⟨some d,op,ty,pos,after,some (g,b)⟩).run P w'=.ok (.value v) w') (hd:Nat.blt d N=true)
 (ho:ops[g]?=some og) (ht:og.dst=some t) (hb:lk l t=some (.bool b)) (hN:Nat.blt t N=true)
 (h:∀a',Hd a' N ds ((d,v)::l)->wpQuiet P ops (Cd w) Q rest a'):wpQuiet P ops (Cd w) Q (⟨some d,op,ty,pos,after,some (g,b)⟩::rest) a:=
 qwant (wanted_yes H rfl ho ht hb hN) fun K hK=>⟨v,fun w' hw=>by unfold Oper.quietAt;rw [hr w' hw];exact ⟨rfl,rfl⟩,hK _ (h _ (H.put v hd))⟩
theorem wqx {og:Oper} {t:Nat} (H:Hd a N ds l) (hd:Nat.blt d N=true)
 (ho:ops[g]?=some og) (ht:og.dst=some t) (hb:lk l t=some (.bool (!b))) (hN:Nat.blt t N=true)
 (h:∀a',Hd a' N ds ((d,undef)::l)->wpQuiet P ops (Cd w) Q rest a'):wpQuiet P ops (Cd w) Q (⟨some d,op,ty,pos,after,some (g,b)⟩::rest) a:=
 qskip (wanted_no H rfl ho ht hb hN) (h _ (H.put undef hd))
theorem Qr {id:Nat} {Q:Exit->Act->World->Prop} {a:Act} {w:World} {ls:List Oper} (hm:P.follows .mixedOrders=true) (hB:Region.lexB .any ls.toArray=true)
 (h:wpQuiet P ls.toArray (Cd w) (fun a'=>∀w',Cd w w'->Q .normal a' w') ls a):(Code.region id ls.toArray true).wp P Q a w:=wp_region_quiet_lit hm hB h
theorem wqe {K:Act->World->Prop} {Q:Exit->Act->World->Prop} (h:∀w',Cd w w'->K a w'):wpQuiet P ops (Cd w) (fun a'=>∀w',Cd w w'->Exit.then K Q .normal a' w') [] a:=h
end
namespace Ez
section
variable {a:Act} {N:Nat} {ds:List Deferred} {l:Env} {w:World} {d:Option Nat} {ty:TypeId} {pos:String} {after:Array Edge} {g:Option (Nat × Bool)}
theorem mv (H:Hd a N ds l) {x:Operand} {v:Value} (h:ov l x=some v):(execOp a.eval ⟨d,.move x,ty,pos,after,g⟩).run Tryz.prog w=.ok (.value v) w:=by
 have e:=H.o h
 subst e;rfl
theorem asn (H:Hd a N ds l) {x:Operand} {v:Value} (h:ov l x=some v):(execOp a.eval ⟨d,.assign x,ty,pos,after,g⟩).run Tryz.prog w=.ok (.value v) w:=by
 have e:=H.o h
 subst e;rfl
theorem pkT (H:Hd a N ds l) {c x y:Operand} {v:Value} (hc:ov l c=some (.bool true)) (h:ov l x=some v):(execOp a.eval ⟨d,.pick c x y,ty,pos,after,g⟩).run Tryz.prog w=.ok (.value v) w:=by
 have e:=H.o h
 have ec:=H.o hc
 simp only [execOp,e,ec];go_simp
theorem pkF (H:Hd a N ds l) {c x y:Operand} {v:Value} (hc:ov l c=some (.bool false)) (h:ov l y=some v):(execOp a.eval ⟨d,.pick c x y,ty,pos,after,g⟩).run Tryz.prog w=.ok (.value v) w:=by
 have e:=H.o h
 have ec:=H.o hc
 simp only [execOp,e,ec];go_simp
theorem nc (H:Hd a N ds l) {x:Operand} {A:Addr} (h:ov l x=some (.pointer (some A))):(execOp a.eval ⟨d,.nilCheck x,ty,pos,after,g⟩).run Tryz.prog w=.ok (.value (.pointer (some A))) w:=by
 have e:=H.o h
 simp only [execOp,e];go_simp
theorem ext0 (H:Hd a N ds l) {x:Operand} {u v:Value} (h:ov l x=some (.tuple #[u,v])):(execOp a.eval ⟨d,.extract x 0,ty,pos,after,g⟩).run Tryz.prog w=.ok (.value u) w:=by
 have e:=H.o h
 simp only [execOp,e];go_simp
theorem ext1 (H:Hd a N ds l) {x:Operand} {u v:Value} (h:ov l x=some (.tuple #[u,v])):(execOp a.eval ⟨d,.extract x 1,ty,pos,after,g⟩).run Tryz.prog w=.ok (.value v) w:=by
 have e:=H.o h
 simp only [execOp,e];go_simp
theorem extN (H:Hd a N ds l) {x:Operand} {vs:Array Value} {v:Value} {i:Nat} (h:ov l x=some (.tuple vs)) (hv:vs[i]?=some v):(execOp a.eval ⟨d,.extract x i,ty,pos,after,g⟩).run Tryz.prog w=.ok (.value v) w:=by
 have e:=H.o h
 simp only [execOp,e];go_simp
theorem addW (H:Hd a N ds l) {x y:Operand} {k:IntKind} {n m r:Int} {t u:TypeId} (h:ov l x=some (.int k n)) (h':ov l y=some (.int k m)) (hr:k.wrap (n+m)=r):(execOp a.eval ⟨d,.binOp .add t x y u,ty,pos,after,g⟩).run Tryz.prog w=.ok (.value (.int k r)) w:=by
 have e:=H.o h
 have e':=H.o h'
 subst hr
 simp only [execOp,e,e'];go_simp
theorem addI (H:Hd a N ds l) {x y:Operand} {n m r:Int} {t u:TypeId} (h:ov l x=some (.int .i64 n)) (h':ov l y=some (.int .i64 m)) (hr:n+m=r) (hb:-9223372036854775808<=r/\r < 9223372036854775808):(execOp a.eval ⟨d,.binOp .add t x y u,ty,pos,after,g⟩).run Tryz.prog w=.ok (.value (.int .i64 r)) w:=
 addW H h h' (by rw [hr];exact IntWalk.i64_in _ (by omega))
theorem addU (H:Hd a N ds l) {x y:Operand} {n m r:Int} {t u:TypeId} (h:ov l x=some (.int .u64 n)) (h':ov l y=some (.int .u64 m)) (hr:(n+m) % 18446744073709551616=r):(execOp a.eval ⟨d,.binOp .add t x y u,ty,pos,after,g⟩).run Tryz.prog w=.ok (.value (.int .u64 r)) w:=
 addW H h h' (by rw [IntKind.wrap_u64];exact hr)
theorem addU32 (H:Hd a N ds l) {x y:Operand} {n m r:Int} {t u:TypeId} (h:ov l x=some (.int .u32 n)) (h':ov l y=some (.int .u32 m)) (hr:(n+m) % 4294967296=r):(execOp a.eval ⟨d,.binOp .add t x y u,ty,pos,after,g⟩).run Tryz.prog w=.ok (.value (.int .u32 r)) w:=
 addW H h h' (by rw [IntKind.wrap_u32'];exact hr)
theorem addU8 (H:Hd a N ds l) {x y:Operand} {n m r:Int} {t u:TypeId} (h:ov l x=some (.int .u8 n)) (h':ov l y=some (.int .u8 m)) (hr:(n+m) % 256=r):(execOp a.eval ⟨d,.binOp .add t x y u,ty,pos,after,g⟩).run Tryz.prog w=.ok (.value (.int .u8 r)) w:=
 addW H h h' (by rw [IntKind.wrap_u8'];exact hr)
theorem subW (H:Hd a N ds l) {x y:Operand} {k:IntKind} {n m r:Int} {t u:TypeId} (h:ov l x=some (.int k n)) (h':ov l y=some (.int k m)) (hr:k.wrap (n - m)=r):(execOp a.eval ⟨d,.binOp .sub t x y u,ty,pos,after,g⟩).run Tryz.prog w=.ok (.value (.int k r)) w:=by
 have e:=H.o h
 have e':=H.o h'
 subst hr
 simp only [execOp,e,e'];go_simp
theorem subI (H:Hd a N ds l) {x y:Operand} {n m r:Int} {t u:TypeId} (h:ov l x=some (.int .i64 n)) (h':ov l y=some (.int .i64 m)) (hr:n - m=r) (hb:-9223372036854775808<=r/\r < 9223372036854775808):(execOp a.eval ⟨d,.binOp .sub t x y u,ty,pos,after,g⟩).run Tryz.prog w=.ok (.value (.int .i64 r)) w:=
 subW H h h' (by rw [hr];exact IntWalk.i64_in _ (by omega))
theorem subU (H:Hd a N ds l) {x y:Operand} {n m r:Int} {t u:TypeId} (h:ov l x=some (.int .u64 n)) (h':ov l y=some (.int .u64 m)) (hr:(n - m) % 18446744073709551616=r):(execOp a.eval ⟨d,.binOp .sub t x y u,ty,pos,after,g⟩).run Tryz.prog w=.ok (.value (.int .u64 r)) w:=
 subW H h h' (by rw [IntKind.wrap_u64];exact hr)
theorem subU8 (H:Hd a N ds l) {x y:Operand} {n m r:Int} {t u:TypeId} (h:ov l x=some (.int .u8 n)) (h':ov l y=some (.int .u8 m)) (hr:(n - m) % 256=r):(execOp a.eval ⟨d,.binOp .sub t x y u,ty,pos,after,g⟩).run Tryz.prog w=.ok (.value (.int .u8 r)) w:=
 subW H h h' (by rw [IntKind.wrap_u8'];exact hr)
theorem mulW (H:Hd a N ds l) {x y:Operand} {k:IntKind} {n m r:Int} {t u:TypeId} (h:ov l x=some (.int k n)) (h':ov l y=some (.int k m)) (hr:k.wrap (n*m)=r):(execOp a.eval ⟨d,.binOp .mul t x y u,ty,pos,after,g⟩).run Tryz.prog w=.ok (.value (.int k r)) w:=by
 have e:=H.o h
 have e':=H.o h'
 subst hr
 simp only [execOp,e,e'];go_simp
theorem mulI (H:Hd a N ds l) {x y:Operand} {n m r:Int} {t u:TypeId} (h:ov l x=some (.int .i64 n)) (h':ov l y=some (.int .i64 m)) (hr:n*m=r) (hb:-9223372036854775808<=r/\r < 9223372036854775808):(execOp a.eval ⟨d,.binOp .mul t x y u,ty,pos,after,g⟩).run Tryz.prog w=.ok (.value (.int .i64 r)) w:=
 mulW H h h' (by rw [hr];exact IntWalk.i64_in _ (by omega))
theorem mulU (H:Hd a N ds l) {x y:Operand} {n m r:Int} {t u:TypeId} (h:ov l x=some (.int .u64 n)) (h':ov l y=some (.int .u64 m)) (hr:(n*m) % 18446744073709551616=r):(execOp a.eval ⟨d,.binOp .mul t x y u,ty,pos,after,g⟩).run Tryz.prog w=.ok (.value (.int .u64 r)) w:=
 mulW H h h' (by rw [IntKind.wrap_u64];exact hr)
theorem mulU32 (H:Hd a N ds l) {x y:Operand} {n m r:Int} {t u:TypeId} (h:ov l x=some (.int .u32 n)) (h':ov l y=some (.int .u32 m)) (hr:(n*m) % 4294967296=r):(execOp a.eval ⟨d,.binOp .mul t x y u,ty,pos,after,g⟩).run Tryz.prog w=.ok (.value (.int .u32 r)) w:=
 mulW H h h' (by rw [IntKind.wrap_u32'];exact hr)
theorem lss (H:Hd a N ds l) {x y:Operand} {k:IntKind} {n m:Int} {r:Bool} {t u:TypeId} (h:ov l x=some (.int k n)) (h':ov l y=some (.int k m)) (hr:(decide (n < m))=r):(execOp a.eval ⟨d,.binOp .lss t x y u,ty,pos,after,g⟩).run Tryz.prog w=.ok (.value (.bool r)) w:=by
 have e:=H.o h
 have e':=H.o h'
 subst hr
 have q:(execOp a.eval ⟨d,.binOp .lss t x y u,ty,pos,after,g⟩)=(do let _ <-eqGuard .lss t x y (.int k n) (.int k m);let v <-binOp .lss t (.int k n) (.int k m);pure (.value v)):=by simp only [execOp,e,e',bind_assoc]
 rw [q]
 simp [eqGuard,binOp,Op.intCmp,bne,BEq.beq]
theorem leq (H:Hd a N ds l) {x y:Operand} {k:IntKind} {n m:Int} {r:Bool} {t u:TypeId} (h:ov l x=some (.int k n)) (h':ov l y=some (.int k m)) (hr:(decide (n<=m))=r):(execOp a.eval ⟨d,.binOp .leq t x y u,ty,pos,after,g⟩).run Tryz.prog w=.ok (.value (.bool r)) w:=by
 have e:=H.o h
 have e':=H.o h'
 subst hr
 have q:(execOp a.eval ⟨d,.binOp .leq t x y u,ty,pos,after,g⟩)=(do let _ <-eqGuard .leq t x y (.int k n) (.int k m);let v <-binOp .leq t (.int k n) (.int k m);pure (.value v)):=by simp only [execOp,e,e',bind_assoc]
 rw [q]
 simp [eqGuard,binOp,Op.intCmp,bne,BEq.beq]
theorem gtr (H:Hd a N ds l) {x y:Operand} {k:IntKind} {n m:Int} {r:Bool} {t u:TypeId} (h:ov l x=some (.int k n)) (h':ov l y=some (.int k m)) (hr:(decide (m < n))=r):(execOp a.eval ⟨d,.binOp .gtr t x y u,ty,pos,after,g⟩).run Tryz.prog w=.ok (.value (.bool r)) w:=by
 have e:=H.o h
 have e':=H.o h'
 subst hr
 have q:(execOp a.eval ⟨d,.binOp .gtr t x y u,ty,pos,after,g⟩)=(do let _ <-eqGuard .gtr t x y (.int k n) (.int k m);let v <-binOp .gtr t (.int k n) (.int k m);pure (.value v)):=by simp only [execOp,e,e',bind_assoc]
 rw [q]
 simp [eqGuard,binOp,Op.intCmp,bne,BEq.beq]
theorem geq (H:Hd a N ds l) {x y:Operand} {k:IntKind} {n m:Int} {r:Bool} {t u:TypeId} (h:ov l x=some (.int k n)) (h':ov l y=some (.int k m)) (hr:(decide (m<=n))=r):(execOp a.eval ⟨d,.binOp .geq t x y u,ty,pos,after,g⟩).run Tryz.prog w=.ok (.value (.bool r)) w:=by
 have e:=H.o h
 have e':=H.o h'
 subst hr
 have q:(execOp a.eval ⟨d,.binOp .geq t x y u,ty,pos,after,g⟩)=(do let _ <-eqGuard .geq t x y (.int k n) (.int k m);let v <-binOp .geq t (.int k n) (.int k m);pure (.value v)):=by simp only [execOp,e,e',bind_assoc]
 rw [q]
 simp [eqGuard,binOp,Op.intCmp,bne,BEq.beq]
theorem eql (H:Hd a N ds l) {x y:Operand} {k:IntKind} {n m:Int} {r:Bool} {t u:TypeId} (h:ov l x=some (.int k n)) (h':ov l y=some (.int k m)) (hr:(decide (n=m))=r):(execOp a.eval ⟨d,.binOp .eql t x y u,ty,pos,after,g⟩).run Tryz.prog w=.ok (.value (.bool r)) w:=by
 have e:=H.o h
 have e':=H.o h'
 subst hr
 have q:(execOp a.eval ⟨d,.binOp .eql t x y u,ty,pos,after,g⟩)=(do let _ <-eqGuard .eql t x y (.int k n) (.int k m);let v <-binOp .eql t (.int k n) (.int k m);pure (.value v)):=by simp only [execOp,e,e',bind_assoc]
 rw [q]
 simp [eqGuard,binOp,Op.intCmp,bne,BEq.beq]
theorem neq (H:Hd a N ds l) {x y:Operand} {k:IntKind} {n m:Int} {r:Bool} {t u:TypeId} (h:ov l x=some (.int k n)) (h':ov l y=some (.int k m)) (hr:(!decide (n=m))=r):(execOp a.eval ⟨d,.binOp .neq t x y u,ty,pos,after,g⟩).run Tryz.prog w=.ok (.value (.bool r)) w:=by
 have e:=H.o h
 have e':=H.o h'
 subst hr
 have q:(execOp a.eval ⟨d,.binOp .neq t x y u,ty,pos,after,g⟩)=(do let _ <-eqGuard .neq t x y (.int k n) (.int k m);let v <-binOp .neq t (.int k n) (.int k m);pure (.value v)):=by simp only [execOp,e,e',bind_assoc]
 rw [q]
 simp [eqGuard,binOp,Op.intCmp,bne,BEq.beq]
theorem shlW (H:Hd a N ds l) {x y:Operand} {k k':IntKind} {n m r:Int} {t u:TypeId} (h:ov l x=some (.int k n)) (h':ov l y=some (.int k' m)) (hm:0<=m) (hr:k.wrap (n*2 ^ (min m.toNat k.bits))=r):(execOp a.eval ⟨d,.binOp .shl t x y u,ty,pos,after,g⟩).run Tryz.prog w=.ok (.value (.int k r)) w:=by
 have e:=H.o h
 have e':=H.o h'
 subst hr
 have hm':¬m < 0:=by omega
 have q:(execOp a.eval ⟨d,.binOp .shl t x y u,ty,pos,after,g⟩)=(do let _ <-eqGuard .shl t x y (.int k n) (.int k' m);let v <-binOp .shl t (.int k n) (.int k' m);pure (.value v)):=by simp only [execOp,e,e',bind_assoc]
 rw [q]
 simp [eqGuard,binOp,Op.shift,hm']
theorem shrW (H:Hd a N ds l) {x y:Operand} {k k':IntKind} {n m r:Int} {t u:TypeId} (h:ov l x=some (.int k n)) (h':ov l y=some (.int k' m)) (hm:0<=m) (hr:n.fdiv (2 ^ (min m.toNat k.bits))=r):(execOp a.eval ⟨d,.binOp .shr t x y u,ty,pos,after,g⟩).run Tryz.prog w=.ok (.value (.int k r)) w:=by
 have e:=H.o h
 have e':=H.o h'
 subst hr
 have hm':¬m < 0:=by omega
 have q:(execOp a.eval ⟨d,.binOp .shr t x y u,ty,pos,after,g⟩)=(do let _ <-eqGuard .shr t x y (.int k n) (.int k' m);let v <-binOp .shr t (.int k n) (.int k' m);pure (.value v)):=by simp only [execOp,e,e',bind_assoc]
 rw [q]
 simp [eqGuard,binOp,Op.shift,hm']
theorem quo (H:Hd a N ds l) {x y:Operand} {k:IntKind} {n m r:Int} {t u:TypeId} (h:ov l x=some (.int k n)) (h':ov l y=some (.int k m)) (hn:0<=n) (hm:0 < m) (hw:k.wrap (n / m)=n / m) (hr:n / m=r):(execOp a.eval ⟨d,.binOp .quo t x y u,ty,pos,after,g⟩).run Tryz.prog w=.ok (.value (.int k r)) w:=by
 have e:=H.o h
 have e':=H.o h'
 subst hr
 have hm':¬m=0:=by omega
 have et:n.tdiv m=n / m:=Int.tdiv_eq_ediv_of_nonneg hn
 have q:(execOp a.eval ⟨d,.binOp .quo t x y u,ty,pos,after,g⟩)=(do let _ <-eqGuard .quo t x y (.int k n) (.int k m);let v <-binOp .quo t (.int k n) (.int k m);pure (.value v)):=by simp only [execOp,e,e',bind_assoc]
 rw [q]
 simp [eqGuard,binOp,Op.intDiv,hm',et,hw]
theorem rem (H:Hd a N ds l) {x y:Operand} {k:IntKind} {n m r:Int} {t u:TypeId} (h:ov l x=some (.int k n)) (h':ov l y=some (.int k m)) (hn:0<=n) (hm:0 < m) (hr:n % m=r):(execOp a.eval ⟨d,.binOp .rem t x y u,ty,pos,after,g⟩).run Tryz.prog w=.ok (.value (.int k r)) w:=by
 have e:=H.o h
 have e':=H.o h'
 subst hr
 have hm':¬m=0:=by omega
 have et:n.tmod m=n % m:=Int.tmod_eq_emod_of_nonneg hn
 have q:(execOp a.eval ⟨d,.binOp .rem t x y u,ty,pos,after,g⟩)=(do let _ <-eqGuard .rem t x y (.int k n) (.int k m);let v <-binOp .rem t (.int k n) (.int k m);pure (.value v)):=by simp only [execOp,e,e',bind_assoc]
 rw [q]
 simp [eqGuard,binOp,Op.intDiv,hm',et]
theorem and (H:Hd a N ds l) {x y:Operand} {k:IntKind} {n m r:Int} {t u:TypeId} (h:ov l x=some (.int k n)) (h':ov l y=some (.int k m)) (hr:bits .and k n m=r):(execOp a.eval ⟨d,.binOp .and t x y u,ty,pos,after,g⟩).run Tryz.prog w=.ok (.value (.int k r)) w:=by
 have e:=H.o h
 have e':=H.o h'
 subst hr
 simp only [execOp,e,e'];go_simp
theorem or (H:Hd a N ds l) {x y:Operand} {k:IntKind} {n m r:Int} {t u:TypeId} (h:ov l x=some (.int k n)) (h':ov l y=some (.int k m)) (hr:bits .or k n m=r):(execOp a.eval ⟨d,.binOp .or t x y u,ty,pos,after,g⟩).run Tryz.prog w=.ok (.value (.int k r)) w:=by
 have e:=H.o h
 have e':=H.o h'
 subst hr
 simp only [execOp,e,e'];go_simp
theorem xor (H:Hd a N ds l) {x y:Operand} {k:IntKind} {n m r:Int} {t u:TypeId} (h:ov l x=some (.int k n)) (h':ov l y=some (.int k m)) (hr:bits .xor k n m=r):(execOp a.eval ⟨d,.binOp .xor t x y u,ty,pos,after,g⟩).run Tryz.prog w=.ok (.value (.int k r)) w:=by
 have e:=H.o h
 have e':=H.o h'
 subst hr
 simp only [execOp,e,e'];go_simp
theorem andNot (H:Hd a N ds l) {x y:Operand} {k:IntKind} {n m r:Int} {t u:TypeId} (h:ov l x=some (.int k n)) (h':ov l y=some (.int k m)) (hr:bits .andNot k n m=r):(execOp a.eval ⟨d,.binOp .andNot t x y u,ty,pos,after,g⟩).run Tryz.prog w=.ok (.value (.int k r)) w:=by
 have e:=H.o h
 have e':=H.o h'
 subst hr
 simp only [execOp,e,e'];go_simp
theorem not (H:Hd a N ds l) {x:Operand} {b r:Bool} {t:TypeId} (h:ov l x=some (.bool b)) (hr:(!b)=r):(execOp a.eval ⟨d,.unOp .not t x,ty,pos,after,g⟩).run Tryz.prog w=.ok (.value (.bool r)) w:=by
 have e:=H.o h
 subst hr
 simp only [execOp,e];rfl
theorem eqb (H:Hd a N ds l) {x y:Operand} {b c r:Bool} {u:TypeId} (h:ov l x=some (.bool b)) (h':ov l y=some (.bool c)) (hr:(b==c)=r):(execOp a.eval ⟨d,.binOp .eql 4 x y u,ty,pos,after,g⟩).run Tryz.prog w=.ok (.value (.bool r)) w:=by
 have e:=H.o h
 have e':=H.o h'
 subst hr
 simp only [execOp,e,e']
 cases b <;> cases c <;> go_simp
theorem neb (H:Hd a N ds l) {x y:Operand} {b c r:Bool} {u:TypeId} (h:ov l x=some (.bool b)) (h':ov l y=some (.bool c)) (hr:(b !=c)=r):(execOp a.eval ⟨d,.binOp .neq 4 x y u,ty,pos,after,g⟩).run Tryz.prog w=.ok (.value (.bool r)) w:=by
 have e:=H.o h
 have e':=H.o h'
 subst hr
 simp only [execOp,e,e']
 cases b <;> cases c <;> go_simp
theorem call (H:Hd a N ds l) {f:FuncId} {xs:Array Operand} {vs:List Value} {ts:Array TypeId} (hx:xs.toList.map (ov l)=vs.map some) (hF:(callFunc f vs.toArray).run Tryz.prog w=.ok (.enter f vs.toArray) w):
 (execOp a.eval ⟨d,.call { callee:=.value (.func f),args:=xs,argTypes:=ts},ty,pos,after,g⟩).run Tryz.prog w=.ok (.enter f vs.toArray) w:=by
 have hm:xs.map a.eval=vs.toArray:=by
  apply Array.toList_inj.mp
  simp only [Array.toList_map]
  revert hx;generalize xs.toList=L;intro hx
  induction L generalizing vs with
  | nil=>cases vs <;> simp_all
  | cons y ys ih=>
    cases vs with
    | nil=>simp at hx
    | cons v vs=>
      simp only [List.map_cons,List.cons.injEq] at hx ⊢
      have h2:ys.map a.eval=vs:=by
       have:∀(L:List Operand) (vs:List Value),L.map (ov l)=vs.map some->L.map a.eval=vs:=by
        intro L;induction L with
        | nil=>intro vs h;cases vs <;> simp_all
        | cons y ys ih=>
          intro vs h
          cases vs with
          | nil=>simp at h
          | cons v vs=>simp only [List.map_cons,List.cons.injEq] at h ⊢;exact ⟨H.o h.1,ih vs h.2⟩
       exact this ys vs hx.2
      exact ⟨H.o hx.1,by simpa using h2⟩
 simp only [execOp];go_simp
theorem len22 (H:Hd a N ds l) {x:Operand} {q:Option Addr} {n c:Nat} (h:ov l x=some (.slice q n c)):(execOp a.eval ⟨d,.call { callee:=.builtin .len,args:=#[x],argTypes:=#[22]},ty,pos,after,g⟩).run Tryz.prog w=.ok (.value (.int .i64 n)) w:=by
 have e:=H.o h
 revert e;generalize a.eval=ρ;intro e
 simp only [execOp];go_simp
theorem len65 (H:Hd a N ds l) {x:Operand} {q:Option Addr} {n c:Nat} (h:ov l x=some (.slice q n c)):(execOp a.eval ⟨d,.call { callee:=.builtin .len,args:=#[x],argTypes:=#[65]},ty,pos,after,g⟩).run Tryz.prog w=.ok (.value (.int .i64 n)) w:=by
 have e:=H.o h
 revert e;generalize a.eval=ρ;intro e
 simp only [execOp];go_simp
theorem len79 (H:Hd a N ds l) {x:Operand} {q:Option Addr} {n c:Nat} (h:ov l x=some (.slice q n c)):(execOp a.eval ⟨d,.call { callee:=.builtin .len,args:=#[x],argTypes:=#[79]},ty,pos,after,g⟩).run Tryz.prog w=.ok (.value (.int .i64 n)) w:=by
 have e:=H.o h
 revert e;generalize a.eval=ρ;intro e
 simp only [execOp];go_simp
theorem cap79 (H:Hd a N ds l) {x:Operand} {q:Option Addr} {n c:Nat} (h:ov l x=some (.slice q n c)):(execOp a.eval ⟨d,.call { callee:=.builtin .cap,args:=#[x],argTypes:=#[79]},ty,pos,after,g⟩).run Tryz.prog w=.ok (.value (.int .i64 c)) w:=by
 have e:=H.o h
 revert e;generalize a.eval=ρ;intro e
 simp only [execOp];go_simp
theorem len80 (H:Hd a N ds l) {x:Operand} {q:Option Addr} {n c:Nat} (h:ov l x=some (.slice q n c)):(execOp a.eval ⟨d,.call { callee:=.builtin .len,args:=#[x],argTypes:=#[80]},ty,pos,after,g⟩).run Tryz.prog w=.ok (.value (.int .i64 n)) w:=by
 have e:=H.o h
 revert e;generalize a.eval=ρ;intro e
 simp only [execOp];go_simp
theorem cap80 (H:Hd a N ds l) {x:Operand} {q:Option Addr} {n c:Nat} (h:ov l x=some (.slice q n c)):(execOp a.eval ⟨d,.call { callee:=.builtin .cap,args:=#[x],argTypes:=#[80]},ty,pos,after,g⟩).run Tryz.prog w=.ok (.value (.int .i64 c)) w:=by
 have e:=H.o h
 revert e;generalize a.eval=ρ;intro e
 simp only [execOp];go_simp
end
end Ez
theorem ty3:Tryz.prog.underlying 3=some (.int .i64):=by kernel_rfl
theorem ty5:Tryz.prog.underlying 5=some (.int .u8):=by kernel_rfl
theorem ty28:Tryz.prog.underlying 28=some (.int .u64):=by kernel_rfl
theorem ty33:Tryz.prog.underlying 33=some (.int .u32):=by kernel_rfl
theorem ty54:Tryz.prog.underlying 54=some (.int .u64):=by kernel_rfl
theorem ty103:Tryz.prog.underlying 103=some (.int .u64):=by kernel_rfl
theorem ty2:Tryz.prog.underlying 2=some (.int .i64):=by kernel_rfl
namespace Ez
section
variable {a:Act} {N:Nat} {ds:List Deferred} {l:Env} {w:World} {d:Option Nat} {ty:TypeId} {pos:String} {after:Array Edge} {g:Option (Nat × Bool)}
theorem cv (H:Hd a N ds l) {x:Operand} {s t:TypeId} {k0 k:IntKind} {n r:Int} {ds':TypeDesc} (h:ov l x=some (.int k0 n)) (hs:Tryz.prog.underlying s=some ds') (hd:Tryz.prog.underlying t=some (.int k)) (hr:k.wrap n=r):(execOp a.eval ⟨d,.convert s t x,ty,pos,after,g⟩).run Tryz.prog w=.ok (.value (.int k r)) w:=by
 have e:=H.o h
 subst hr
 have hk:Tryz.prog.intKind t=k:=by simp [Program.intKind,hd]
 have q:=run_convert_int (P:=Tryz.prog) w s t k0 n (by rw [hs];rfl) (by rw [hk];exact hd)
 rw [hk] at q
 simp only [execOp,e,Sem.run_bind,q,Result.andThen];rfl
theorem ix65 (H:Hd a N ds l) {x y:Operand} {b o n c:Nat} {k:IntKind} {i:Int} (h:ov l x=some (.slice (some ⟨b,o,none⟩) n c)) (h':ov l y=some (.int k i)) (j:Nat) (hj:i=(j:Int)) (hn:j < n):(execOp a.eval ⟨d,.indexAddr 65 x y,ty,pos,after,g⟩).run Tryz.prog w=.ok (.value (.pointer (some ⟨b,o+j,none⟩))) w:=by
 have e:=H.o h
 have e':=H.o h'
 subst hj
 have h1:(0:Int)<=(j:Int)/\(j:Int) < (n:Int):=by omega
 simp only [execOp,e,e']
 go_simp
 try (intro hle;exact absurd hle (by omega))
theorem slH65 (H:Hd a N ds l) {x y:Operand} {q:Option Addr} {n c:Nat} {k:IntKind} {i:Int} (h:ov l x=some (.slice q n c)) (h':ov l y=some (.int k i)) (j:Nat) (hj:i=(j:Int)) (hn:j<=c):(execOp a.eval ⟨d,.slice 65 x none (some y) none,ty,pos,after,g⟩).run Tryz.prog w=.ok (.value (.slice q j c)) w:=by
 have e:=H.o h
 have e':=H.o h'
 subst hj
 have e1:sliced q 0 (j:Int).toNat c 1=.slice q j c:=by
  simp only [sliced]
  cases q with
  | none=>simp
  | some A=>obtain ⟨b,o,s⟩:=A;simp only [Option.map,Addr.add];split <;> simp_all
 have q1:=run_slice_h (P:=Tryz.prog) w 65 q n c (by kernel_rfl) k (j:Int) (by omega) (by omega)
 simp only [execOp,e,e',Option.map]
 go_simp
 all_goals (try simp [sliced])
 all_goals (cases q <;> simp [Addr.add])
theorem ix79 (H:Hd a N ds l) {x y:Operand} {b o n c:Nat} {k:IntKind} {i:Int} (h:ov l x=some (.slice (some ⟨b,o,none⟩) n c)) (h':ov l y=some (.int k i)) (j:Nat) (hj:i=(j:Int)) (hn:j < n):(execOp a.eval ⟨d,.indexAddr 79 x y,ty,pos,after,g⟩).run Tryz.prog w=.ok (.value (.pointer (some ⟨b,o+j,none⟩))) w:=by
 have e:=H.o h
 have e':=H.o h'
 subst hj
 have h1:(0:Int)<=(j:Int)/\(j:Int) < (n:Int):=by omega
 simp only [execOp,e,e']
 go_simp
 try (intro hle;exact absurd hle (by omega))
theorem slH79 (H:Hd a N ds l) {x y:Operand} {q:Option Addr} {n c:Nat} {k:IntKind} {i:Int} (h:ov l x=some (.slice q n c)) (h':ov l y=some (.int k i)) (j:Nat) (hj:i=(j:Int)) (hn:j<=c):(execOp a.eval ⟨d,.slice 79 x none (some y) none,ty,pos,after,g⟩).run Tryz.prog w=.ok (.value (.slice q j c)) w:=by
 have e:=H.o h
 have e':=H.o h'
 subst hj
 have e1:sliced q 0 (j:Int).toNat c 1=.slice q j c:=by
  simp only [sliced]
  cases q with
  | none=>simp
  | some A=>obtain ⟨b,o,s⟩:=A;simp only [Option.map,Addr.add];split <;> simp_all
 have q1:=run_slice_h (P:=Tryz.prog) w 79 q n c (by kernel_rfl) k (j:Int) (by omega) (by omega)
 simp only [execOp,e,e',Option.map]
 go_simp
 all_goals (try simp [sliced])
 all_goals (cases q <;> simp [Addr.add])
theorem ix80 (H:Hd a N ds l) {x y:Operand} {b o n c:Nat} {k:IntKind} {i:Int} (h:ov l x=some (.slice (some ⟨b,o,none⟩) n c)) (h':ov l y=some (.int k i)) (j:Nat) (hj:i=(j:Int)) (hn:j < n):(execOp a.eval ⟨d,.indexAddr 80 x y,ty,pos,after,g⟩).run Tryz.prog w=.ok (.value (.pointer (some ⟨b,o+j,none⟩))) w:=by
 have e:=H.o h
 have e':=H.o h'
 subst hj
 have h1:(0:Int)<=(j:Int)/\(j:Int) < (n:Int):=by omega
 simp only [execOp,e,e']
 go_simp
 try (intro hle;exact absurd hle (by omega))
theorem slH80 (H:Hd a N ds l) {x y:Operand} {q:Option Addr} {n c:Nat} {k:IntKind} {i:Int} (h:ov l x=some (.slice q n c)) (h':ov l y=some (.int k i)) (j:Nat) (hj:i=(j:Int)) (hn:j<=c):(execOp a.eval ⟨d,.slice 80 x none (some y) none,ty,pos,after,g⟩).run Tryz.prog w=.ok (.value (.slice q j c)) w:=by
 have e:=H.o h
 have e':=H.o h'
 subst hj
 have e1:sliced q 0 (j:Int).toNat c 1=.slice q j c:=by
  simp only [sliced]
  cases q with
  | none=>simp
  | some A=>obtain ⟨b,o,s⟩:=A;simp only [Option.map,Addr.add];split <;> simp_all
 have q1:=run_slice_h (P:=Tryz.prog) w 80 q n c (by kernel_rfl) k (j:Int) (by omega) (by omega)
 simp only [execOp,e,e',Option.map]
 go_simp
 all_goals (try simp [sliced])
 all_goals (cases q <;> simp [Addr.add])
theorem slLH65 (H:Hd a N ds l) {x y z:Operand} {b o n c:Nat} {k k':IntKind} {i i':Int} (h:ov l x=some (.slice (some ⟨b,o,none⟩) n c)) (h':ov l y=some (.int k i)) (h'':ov l z=some (.int k' i')) (j j':Nat) (hj:i=(j:Int)) (hj':i'=(j':Int)) (hn:j<=j') (hn':j'<=c) (o' m' c':Nat) (ho:(if j < c then o+j else o)=o') (hm:j' - j=m') (hc:c - j=c'):
 (execOp a.eval ⟨d,.slice 65 x (some y) (some z) none,ty,pos,after,g⟩).run Tryz.prog w=.ok (.value (.slice (some ⟨b,o',none⟩) m' c')) w:=by
 have e:=H.o h
 have e':=H.o h'
 have e'':=H.o h''
 subst hj;subst hj';subst ho;subst hm;subst hc
 have q1:=run_slice_lh (P:=Tryz.prog) w 65 (some ⟨b,o,none⟩) n c (by kernel_rfl) k k' (j:Int) (j':Int) (by omega) (by omega) (by omega)
 have e1:sliced (some ⟨b,o,none⟩) (j:Int).toNat (j':Int).toNat c 1=.slice (some ⟨b,(if j < c then o+j else o),none⟩) (j' - j) (c - j):=by
  simp only [sliced,Int.toNat_natCast]
  by_cases hlt:j < c
  ·rw [if_neg (by omega),if_pos hlt];simp [Addr.add]
  rw [if_pos (by omega),if_neg hlt]
 have q2:(Instr.sliceAt 65 (.slice (some ⟨b,o,none⟩) n c) (some (.int k (j:Int))) (some (.int k' (j':Int))) none).run Tryz.prog w=.ok (.slice (some ⟨b,(if j < c then o+j else o),none⟩) (j' - j) (c - j)) w:=by
  rw [<-e1]
  go_simp
  all_goals (try simp [sliced,Addr.add])
  all_goals (try omega)
 simp only [execOp,e,e',e'',Option.map,Sem.run_bind,q2,Result.andThen];rfl
theorem slL65 (H:Hd a N ds l) {x y:Operand} {b o n c:Nat} {k:IntKind} {i:Int} (h:ov l x=some (.slice (some ⟨b,o,none⟩) n c)) (h':ov l y=some (.int k i)) (j:Nat) (hj:i=(j:Int)) (hn:j<=n) (hnc:n<=c) (o' m' c':Nat) (ho:(if j < c then o+j else o)=o') (hm:n - j=m') (hc:c - j=c'):
 (execOp a.eval ⟨d,.slice 65 x (some y) none none,ty,pos,after,g⟩).run Tryz.prog w=.ok (.value (.slice (some ⟨b,o',none⟩) m' c')) w:=by
 have e:=H.o h
 have e':=H.o h'
 subst hj;subst ho;subst hm;subst hc
 have e1:sliced (some ⟨b,o,none⟩) (j:Int).toNat n c 1=.slice (some ⟨b,(if j < c then o+j else o),none⟩) (n - j) (c - j):=by
  simp only [sliced,Int.toNat_natCast]
  by_cases hlt:j < c
  ·rw [if_neg (by omega),if_pos hlt];simp [Addr.add]
  rw [if_pos (by omega),if_neg hlt]
 have q2:(Instr.sliceAt 65 (.slice (some ⟨b,o,none⟩) n c) (some (.int k (j:Int))) none none).run Tryz.prog w=.ok (.slice (some ⟨b,(if j < c then o+j else o),none⟩) (n - j) (c - j)) w:=by
  rw [<-e1]
  have h1:(0:Int)<=(j:Int)/\(j:Int)<=(n:Int):=by omega
  go_simp
  all_goals (try simp [sliced,Addr.add])
  all_goals (try omega)
 simp only [execOp,e,e',Option.map,Sem.run_bind,q2,Result.andThen];rfl
theorem slL79 (H:Hd a N ds l) {x y:Operand} {b o n c:Nat} {k:IntKind} {i:Int} (h:ov l x=some (.slice (some ⟨b,o,none⟩) n c)) (h':ov l y=some (.int k i)) (j:Nat) (hj:i=(j:Int)) (hn:j<=n) (hnc:n<=c) (o' m' c':Nat) (ho:(if j < c then o+j else o)=o') (hm:n - j=m') (hc:c - j=c'):
 (execOp a.eval ⟨d,.slice 79 x (some y) none none,ty,pos,after,g⟩).run Tryz.prog w=.ok (.value (.slice (some ⟨b,o',none⟩) m' c')) w:=by
 have e:=H.o h
 have e':=H.o h'
 subst hj;subst ho;subst hm;subst hc
 have e1:sliced (some ⟨b,o,none⟩) (j:Int).toNat n c 1=.slice (some ⟨b,(if j < c then o+j else o),none⟩) (n - j) (c - j):=by
  simp only [sliced,Int.toNat_natCast]
  by_cases hlt:j < c
  ·rw [if_neg (by omega),if_pos hlt];simp [Addr.add]
  rw [if_pos (by omega),if_neg hlt]
 have q2:(Instr.sliceAt 79 (.slice (some ⟨b,o,none⟩) n c) (some (.int k (j:Int))) none none).run Tryz.prog w=.ok (.slice (some ⟨b,(if j < c then o+j else o),none⟩) (n - j) (c - j)) w:=by
  rw [<-e1]
  have h1:(0:Int)<=(j:Int)/\(j:Int)<=(n:Int):=by omega
  go_simp
  all_goals (try simp [sliced,Addr.add])
  all_goals (try omega)
 simp only [execOp,e,e',Option.map,Sem.run_bind,q2,Result.andThen];rfl
theorem slLH80 (H:Hd a N ds l) {x y z:Operand} {b o n c:Nat} {k k':IntKind} {i i':Int} (h:ov l x=some (.slice (some ⟨b,o,none⟩) n c)) (h':ov l y=some (.int k i)) (h'':ov l z=some (.int k' i')) (j j':Nat) (hj:i=(j:Int)) (hj':i'=(j':Int)) (hn:j<=j') (hn':j'<=c) (o' m' c':Nat) (ho:(if j < c then o+j else o)=o') (hm:j' - j=m') (hc:c - j=c'):
 (execOp a.eval ⟨d,.slice 80 x (some y) (some z) none,ty,pos,after,g⟩).run Tryz.prog w=.ok (.value (.slice (some ⟨b,o',none⟩) m' c')) w:=by
 have e:=H.o h
 have e':=H.o h'
 have e'':=H.o h''
 subst hj;subst hj';subst ho;subst hm;subst hc
 have q1:=run_slice_lh (P:=Tryz.prog) w 80 (some ⟨b,o,none⟩) n c (by kernel_rfl) k k' (j:Int) (j':Int) (by omega) (by omega) (by omega)
 have e1:sliced (some ⟨b,o,none⟩) (j:Int).toNat (j':Int).toNat c 1=.slice (some ⟨b,(if j < c then o+j else o),none⟩) (j' - j) (c - j):=by
  simp only [sliced,Int.toNat_natCast]
  by_cases hlt:j < c
  ·rw [if_neg (by omega),if_pos hlt];simp [Addr.add]
  rw [if_pos (by omega),if_neg hlt]
 have q2:(Instr.sliceAt 80 (.slice (some ⟨b,o,none⟩) n c) (some (.int k (j:Int))) (some (.int k' (j':Int))) none).run Tryz.prog w=.ok (.slice (some ⟨b,(if j < c then o+j else o),none⟩) (j' - j) (c - j)) w:=by
  rw [<-e1]
  go_simp
  all_goals (try simp [sliced,Addr.add])
  all_goals (try omega)
 simp only [execOp,e,e',e'',Option.map,Sem.run_bind,q2,Result.andThen];rfl
theorem slL80 (H:Hd a N ds l) {x y:Operand} {b o n c:Nat} {k:IntKind} {i:Int} (h:ov l x=some (.slice (some ⟨b,o,none⟩) n c)) (h':ov l y=some (.int k i)) (j:Nat) (hj:i=(j:Int)) (hn:j<=n) (hnc:n<=c) (o' m' c':Nat) (ho:(if j < c then o+j else o)=o') (hm:n - j=m') (hc:c - j=c'):
 (execOp a.eval ⟨d,.slice 80 x (some y) none none,ty,pos,after,g⟩).run Tryz.prog w=.ok (.value (.slice (some ⟨b,o',none⟩) m' c')) w:=by
 have e:=H.o h
 have e':=H.o h'
 subst hj;subst ho;subst hm;subst hc
 have e1:sliced (some ⟨b,o,none⟩) (j:Int).toNat n c 1=.slice (some ⟨b,(if j < c then o+j else o),none⟩) (n - j) (c - j):=by
  simp only [sliced,Int.toNat_natCast]
  by_cases hlt:j < c
  ·rw [if_neg (by omega),if_pos hlt];simp [Addr.add]
  rw [if_pos (by omega),if_neg hlt]
 have q2:(Instr.sliceAt 80 (.slice (some ⟨b,o,none⟩) n c) (some (.int k (j:Int))) none none).run Tryz.prog w=.ok (.slice (some ⟨b,(if j < c then o+j else o),none⟩) (n - j) (c - j)) w:=by
  rw [<-e1]
  have h1:(0:Int)<=(j:Int)/\(j:Int)<=(n:Int):=by omega
  go_simp
  all_goals (try simp [sliced,Addr.add])
  all_goals (try omega)
 simp only [execOp,e,e',Option.map,Sem.run_bind,q2,Result.andThen];rfl
theorem ld103 (H:Hd a N ds l) {x:Operand} {A:Addr} {v:Value} (h:ov l x=some (.pointer (some A))) (hc:w.cell? A=some v):(execOp a.eval ⟨d,.load 103 x,ty,pos,after,g⟩).run Tryz.prog w=.ok (.value v) w:=by
 have e:=H.o h
 simp only [execOp,e];go_simp
theorem st103 (H:Hd a N ds l) {x y:Operand} {A:Addr} {u v:Value} (h:ov l x=some (.pointer (some A))) (h':ov l y=some v) (hv:v.oneCell'=true) (hc:w.cell? A=some u) (hf:w.frozen? A=false):(execOp a.eval ⟨d,.store 103 x y,ty,pos,after,g⟩).run Tryz.prog w=.ok .skip (w.setCell A v):=by
 have e:=H.o h
 have e':=H.o h'
 have q:=run_store Tryz.prog w A v .plain hv
 rw [hc] at q
 simp only [hf] at q
 simp only [execOp,e,e']
 cases v <;> first | (simp [Value.oneCell'] at hv;done) | (go_simp;done)
theorem ld4 (H:Hd a N ds l) {x:Operand} {A:Addr} {v:Value} (h:ov l x=some (.pointer (some A))) (hc:w.cell? A=some v):(execOp a.eval ⟨d,.load 4 x,ty,pos,after,g⟩).run Tryz.prog w=.ok (.value v) w:=by
 have e:=H.o h
 simp only [execOp,e];go_simp
theorem st4 (H:Hd a N ds l) {x y:Operand} {A:Addr} {u v:Value} (h:ov l x=some (.pointer (some A))) (h':ov l y=some v) (hv:v.oneCell'=true) (hc:w.cell? A=some u) (hf:w.frozen? A=false):(execOp a.eval ⟨d,.store 4 x y,ty,pos,after,g⟩).run Tryz.prog w=.ok .skip (w.setCell A v):=by
 have e:=H.o h
 have e':=H.o h'
 have q:=run_store Tryz.prog w A v .plain hv
 rw [hc] at q
 simp only [hf] at q
 simp only [execOp,e,e']
 cases v <;> first | (simp [Value.oneCell'] at hv;done) | (go_simp;done)
theorem ld3 (H:Hd a N ds l) {x:Operand} {A:Addr} {v:Value} (h:ov l x=some (.pointer (some A))) (hc:w.cell? A=some v):(execOp a.eval ⟨d,.load 3 x,ty,pos,after,g⟩).run Tryz.prog w=.ok (.value v) w:=by
 have e:=H.o h
 simp only [execOp,e];go_simp
theorem st3 (H:Hd a N ds l) {x y:Operand} {A:Addr} {u v:Value} (h:ov l x=some (.pointer (some A))) (h':ov l y=some v) (hv:v.oneCell'=true) (hc:w.cell? A=some u) (hf:w.frozen? A=false):(execOp a.eval ⟨d,.store 3 x y,ty,pos,after,g⟩).run Tryz.prog w=.ok .skip (w.setCell A v):=by
 have e:=H.o h
 have e':=H.o h'
 have q:=run_store Tryz.prog w A v .plain hv
 rw [hc] at q
 simp only [hf] at q
 simp only [execOp,e,e']
 cases v <;> first | (simp [Value.oneCell'] at hv;done) | (go_simp;done)
theorem ld5 (H:Hd a N ds l) {x:Operand} {A:Addr} {v:Value} (h:ov l x=some (.pointer (some A))) (hc:w.cell? A=some v):(execOp a.eval ⟨d,.load 5 x,ty,pos,after,g⟩).run Tryz.prog w=.ok (.value v) w:=by
 have e:=H.o h
 simp only [execOp,e];go_simp
theorem st5 (H:Hd a N ds l) {x y:Operand} {A:Addr} {u v:Value} (h:ov l x=some (.pointer (some A))) (h':ov l y=some v) (hv:v.oneCell'=true) (hc:w.cell? A=some u) (hf:w.frozen? A=false):(execOp a.eval ⟨d,.store 5 x y,ty,pos,after,g⟩).run Tryz.prog w=.ok .skip (w.setCell A v):=by
 have e:=H.o h
 have e':=H.o h'
 have q:=run_store Tryz.prog w A v .plain hv
 rw [hc] at q
 simp only [hf] at q
 simp only [execOp,e,e']
 cases v <;> first | (simp [Value.oneCell'] at hv;done) | (go_simp;done)
theorem ld28 (H:Hd a N ds l) {x:Operand} {A:Addr} {v:Value} (h:ov l x=some (.pointer (some A))) (hc:w.cell? A=some v):(execOp a.eval ⟨d,.load 28 x,ty,pos,after,g⟩).run Tryz.prog w=.ok (.value v) w:=by
 have e:=H.o h
 simp only [execOp,e];go_simp
theorem st28 (H:Hd a N ds l) {x y:Operand} {A:Addr} {u v:Value} (h:ov l x=some (.pointer (some A))) (h':ov l y=some v) (hv:v.oneCell'=true) (hc:w.cell? A=some u) (hf:w.frozen? A=false):(execOp a.eval ⟨d,.store 28 x y,ty,pos,after,g⟩).run Tryz.prog w=.ok .skip (w.setCell A v):=by
 have e:=H.o h
 have e':=H.o h'
 have q:=run_store Tryz.prog w A v .plain hv
 rw [hc] at q
 simp only [hf] at q
 simp only [execOp,e,e']
 cases v <;> first | (simp [Value.oneCell'] at hv;done) | (go_simp;done)
theorem ld33 (H:Hd a N ds l) {x:Operand} {A:Addr} {v:Value} (h:ov l x=some (.pointer (some A))) (hc:w.cell? A=some v):(execOp a.eval ⟨d,.load 33 x,ty,pos,after,g⟩).run Tryz.prog w=.ok (.value v) w:=by
 have e:=H.o h
 simp only [execOp,e];go_simp
theorem st33 (H:Hd a N ds l) {x y:Operand} {A:Addr} {u v:Value} (h:ov l x=some (.pointer (some A))) (h':ov l y=some v) (hv:v.oneCell'=true) (hc:w.cell? A=some u) (hf:w.frozen? A=false):(execOp a.eval ⟨d,.store 33 x y,ty,pos,after,g⟩).run Tryz.prog w=.ok .skip (w.setCell A v):=by
 have e:=H.o h
 have e':=H.o h'
 have q:=run_store Tryz.prog w A v .plain hv
 rw [hc] at q
 simp only [hf] at q
 simp only [execOp,e,e']
 cases v <;> first | (simp [Value.oneCell'] at hv;done) | (go_simp;done)
theorem ld80 (H:Hd a N ds l) {x:Operand} {A:Addr} {v:Value} (h:ov l x=some (.pointer (some A))) (hc:w.cell? A=some v):(execOp a.eval ⟨d,.load 80 x,ty,pos,after,g⟩).run Tryz.prog w=.ok (.value v) w:=by
 have e:=H.o h
 simp only [execOp,e];go_simp
theorem st80 (H:Hd a N ds l) {x y:Operand} {A:Addr} {u v:Value} (h:ov l x=some (.pointer (some A))) (h':ov l y=some v) (hv:v.oneCell'=true) (hc:w.cell? A=some u) (hf:w.frozen? A=false):(execOp a.eval ⟨d,.store 80 x y,ty,pos,after,g⟩).run Tryz.prog w=.ok .skip (w.setCell A v):=by
 have e:=H.o h
 have e':=H.o h'
 have q:=run_store Tryz.prog w A v .plain hv
 rw [hc] at q
 simp only [hf] at q
 simp only [execOp,e,e']
 cases v <;> first | (simp [Value.oneCell'] at hv;done) | (go_simp;done)
theorem ld79 (H:Hd a N ds l) {x:Operand} {A:Addr} {v:Value} (h:ov l x=some (.pointer (some A))) (hc:w.cell? A=some v):(execOp a.eval ⟨d,.load 79 x,ty,pos,after,g⟩).run Tryz.prog w=.ok (.value v) w:=by
 have e:=H.o h
 simp only [execOp,e];go_simp
theorem st79 (H:Hd a N ds l) {x y:Operand} {A:Addr} {u v:Value} (h:ov l x=some (.pointer (some A))) (h':ov l y=some v) (hv:v.oneCell'=true) (hc:w.cell? A=some u) (hf:w.frozen? A=false):(execOp a.eval ⟨d,.store 79 x y,ty,pos,after,g⟩).run Tryz.prog w=.ok .skip (w.setCell A v):=by
 have e:=H.o h
 have e':=H.o h'
 have q:=run_store Tryz.prog w A v .plain hv
 rw [hc] at q
 simp only [hf] at q
 simp only [execOp,e,e']
 cases v <;> first | (simp [Value.oneCell'] at hv;done) | (go_simp;done)
theorem ld146 (H:Hd a N ds l) {x:Operand} {A:Addr} {v:Value} (h:ov l x=some (.pointer (some A))) (hc:w.cell? A=some v):(execOp a.eval ⟨d,.load 146 x,ty,pos,after,g⟩).run Tryz.prog w=.ok (.value v) w:=by
 have e:=H.o h
 simp only [execOp,e];go_simp
theorem ld154 (H:Hd a N ds l) {x:Operand} {A:Addr} {v:Value} (h:ov l x=some (.pointer (some A))) (hc:w.cell? A=some v):(execOp a.eval ⟨d,.load 154 x,ty,pos,after,g⟩).run Tryz.prog w=.ok (.value v) w:=by
 have e:=H.o h
 simp only [execOp,e];go_simp
theorem st154 (H:Hd a N ds l) {x y:Operand} {A:Addr} {u v:Value} (h:ov l x=some (.pointer (some A))) (h':ov l y=some v) (hv:v.oneCell'=true) (hc:w.cell? A=some u) (hf:w.frozen? A=false):(execOp a.eval ⟨d,.store 154 x y,ty,pos,after,g⟩).run Tryz.prog w=.ok .skip (w.setCell A v):=by
 have e:=H.o h
 have e':=H.o h'
 have q:=run_store Tryz.prog w A v .plain hv
 rw [hc] at q
 simp only [hf] at q
 simp only [execOp,e,e']
 cases v <;> first | (simp [Value.oneCell'] at hv;done) | (go_simp;done)
theorem ld2 (H:Hd a N ds l) {x:Operand} {A:Addr} {v:Value} (h:ov l x=some (.pointer (some A))) (hc:w.cell? A=some v):(execOp a.eval ⟨d,.load 2 x,ty,pos,after,g⟩).run Tryz.prog w=.ok (.value v) w:=by
 have e:=H.o h
 simp only [execOp,e];go_simp
theorem st2 (H:Hd a N ds l) {x y:Operand} {A:Addr} {u v:Value} (h:ov l x=some (.pointer (some A))) (h':ov l y=some v) (hv:v.oneCell'=true) (hc:w.cell? A=some u) (hf:w.frozen? A=false):(execOp a.eval ⟨d,.store 2 x y,ty,pos,after,g⟩).run Tryz.prog w=.ok .skip (w.setCell A v):=by
 have e:=H.o h
 have e':=H.o h'
 have q:=run_store Tryz.prog w A v .plain hv
 rw [hc] at q
 simp only [hf] at q
 simp only [execOp,e,e']
 cases v <;> first | (simp [Value.oneCell'] at hv;done) | (go_simp;done)
theorem ld9 (H:Hd a N ds l) {x:Operand} {A:Addr} {v:Value} (h:ov l x=some (.pointer (some A))) (hc:w.cell? A=some v):(execOp a.eval ⟨d,.load 9 x,ty,pos,after,g⟩).run Tryz.prog w=.ok (.value v) w:=by
 have e:=H.o h
 simp only [execOp,e];go_simp
theorem fa82_0 (H:Hd a N ds l) {x:Operand} {b o:Nat} (h:ov l x=some (.pointer (some ⟨b,o,none⟩))):(execOp a.eval ⟨d,.fieldAddr 82 x 0,ty,pos,after,g⟩).run Tryz.prog w=.ok (.value (.pointer (some ⟨b,o,none⟩))) w:=by
 have e:=H.o h
 simp only [execOp,e];go_simp
theorem fa82_1 (H:Hd a N ds l) {x:Operand} {b o:Nat} (h:ov l x=some (.pointer (some ⟨b,o,none⟩))):(execOp a.eval ⟨d,.fieldAddr 82 x 1,ty,pos,after,g⟩).run Tryz.prog w=.ok (.value (.pointer (some ⟨b,o+1,none⟩))) w:=by
 have e:=H.o h
 simp only [execOp,e];go_simp
theorem fa35_0 (H:Hd a N ds l) {x:Operand} {b o:Nat} (h:ov l x=some (.pointer (some ⟨b,o,none⟩))):(execOp a.eval ⟨d,.fieldAddr 35 x 0,ty,pos,after,g⟩).run Tryz.prog w=.ok (.value (.pointer (some ⟨b,o,none⟩))) w:=by
 have e:=H.o h
 simp only [execOp,e];go_simp
theorem fa35_1 (H:Hd a N ds l) {x:Operand} {b o:Nat} (h:ov l x=some (.pointer (some ⟨b,o,none⟩))):(execOp a.eval ⟨d,.fieldAddr 35 x 1,ty,pos,after,g⟩).run Tryz.prog w=.ok (.value (.pointer (some ⟨b,o+1,none⟩))) w:=by
 have e:=H.o h
 simp only [execOp,e];go_simp
theorem fa35_2 (H:Hd a N ds l) {x:Operand} {b o:Nat} (h:ov l x=some (.pointer (some ⟨b,o,none⟩))):(execOp a.eval ⟨d,.fieldAddr 35 x 2,ty,pos,after,g⟩).run Tryz.prog w=.ok (.value (.pointer (some ⟨b,o+2,none⟩))) w:=by
 have e:=H.o h
 simp only [execOp,e];go_simp
theorem fa35_3 (H:Hd a N ds l) {x:Operand} {b o:Nat} (h:ov l x=some (.pointer (some ⟨b,o,none⟩))):(execOp a.eval ⟨d,.fieldAddr 35 x 3,ty,pos,after,g⟩).run Tryz.prog w=.ok (.value (.pointer (some ⟨b,o+3,none⟩))) w:=by
 have e:=H.o h
 simp only [execOp,e];go_simp
theorem fa35_4 (H:Hd a N ds l) {x:Operand} {b o:Nat} (h:ov l x=some (.pointer (some ⟨b,o,none⟩))):(execOp a.eval ⟨d,.fieldAddr 35 x 4,ty,pos,after,g⟩).run Tryz.prog w=.ok (.value (.pointer (some ⟨b,o+4,none⟩))) w:=by
 have e:=H.o h
 simp only [execOp,e];go_simp
theorem fa35_5 (H:Hd a N ds l) {x:Operand} {b o:Nat} (h:ov l x=some (.pointer (some ⟨b,o,none⟩))):(execOp a.eval ⟨d,.fieldAddr 35 x 5,ty,pos,after,g⟩).run Tryz.prog w=.ok (.value (.pointer (some ⟨b,o+5,none⟩))) w:=by
 have e:=H.o h
 simp only [execOp,e];go_simp
theorem fa44_0 (H:Hd a N ds l) {x:Operand} {b o:Nat} (h:ov l x=some (.pointer (some ⟨b,o,none⟩))):(execOp a.eval ⟨d,.fieldAddr 44 x 0,ty,pos,after,g⟩).run Tryz.prog w=.ok (.value (.pointer (some ⟨b,o,none⟩))) w:=by
 have e:=H.o h
 simp only [execOp,e];go_simp
theorem fa152_0 (H:Hd a N ds l) {x:Operand} {b o:Nat} (h:ov l x=some (.pointer (some ⟨b,o,none⟩))):(execOp a.eval ⟨d,.fieldAddr 152 x 0,ty,pos,after,g⟩).run Tryz.prog w=.ok (.value (.pointer (some ⟨b,o,none⟩))) w:=by
 have e:=H.o h
 simp only [execOp,e];go_simp
theorem fa152_1 (H:Hd a N ds l) {x:Operand} {b o:Nat} (h:ov l x=some (.pointer (some ⟨b,o,none⟩))):(execOp a.eval ⟨d,.fieldAddr 152 x 1,ty,pos,after,g⟩).run Tryz.prog w=.ok (.value (.pointer (some ⟨b,o+1,none⟩))) w:=by
 have e:=H.o h
 simp only [execOp,e];go_simp
theorem fa152_2 (H:Hd a N ds l) {x:Operand} {b o:Nat} (h:ov l x=some (.pointer (some ⟨b,o,none⟩))):(execOp a.eval ⟨d,.fieldAddr 152 x 2,ty,pos,after,g⟩).run Tryz.prog w=.ok (.value (.pointer (some ⟨b,o+2,none⟩))) w:=by
 have e:=H.o h
 simp only [execOp,e];go_simp
theorem fa156_0 (H:Hd a N ds l) {x:Operand} {b o:Nat} (h:ov l x=some (.pointer (some ⟨b,o,none⟩))):(execOp a.eval ⟨d,.fieldAddr 156 x 0,ty,pos,after,g⟩).run Tryz.prog w=.ok (.value (.pointer (some ⟨b,o,none⟩))) w:=by
 have e:=H.o h
 simp only [execOp,e];go_simp
theorem fa175_0 (H:Hd a N ds l) {x:Operand} {b o:Nat} (h:ov l x=some (.pointer (some ⟨b,o,none⟩))):(execOp a.eval ⟨d,.fieldAddr 175 x 0,ty,pos,after,g⟩).run Tryz.prog w=.ok (.value (.pointer (some ⟨b,o,none⟩))) w:=by
 have e:=H.o h
 simp only [execOp,e];go_simp
theorem al82:(execOp a.eval ⟨d,.alloc 82,ty,pos,after,g⟩).run Tryz.prog w=.ok (.value (.pointer (some ⟨w.heap.size,0,none⟩))) (w.alloc (.cells #[.bool false,.slice none 0 0] 82)):=by
 simp only [execOp];go_simp
end
end Ez
section
variable {P:Program} {K:Act->World->Prop} {Q:Exit->Act->World->Prop} {a:Act} {w:World} {i j:Nat}
theorem thn (h:K a w):Exit.then K Q .normal a w:=h
theorem thx (h:Q (.exit i) a w):Exit.then K Q (.exit i) a w:=h
theorem thr (h:Q .ret a w):Exit.then K Q .ret a w:=h
theorem bxe (h:Q .normal a w):Exit.inBlock i Q (.exit i) a w:=by simp only [Exit.inBlock,if_true];exact h
theorem bxn (hij:Nat.beq j i=false) (h:Q (.exit j) a w):Exit.inBlock i Q (.exit j) a w:=by
 have:j≠i:=Nat.ne_of_beq_eq_false hij
 simp only [Exit.inBlock,if_neg this];exact h
theorem bn (h:Q .normal a w):Exit.inBlock i Q .normal a w:=h
theorem bret (h:Q .ret a w):Exit.inBlock i Q .ret a w:=h
theorem bp {c:List PanicEntry} (h:Q (.panic c) a w):Exit.inBlock i Q (.panic c) a w:=h
theorem Jf {x y:Code} (J:Act->World->Prop) (h:x.wp P (Exit.then J Q) a w) (h':∀a w,J a w->y.wp P Q a w):(Code.seq x y).wp P Q a w:=by
 refine wp_seq (wp_mono h fun e a' w' hq=>?_)
 cases e with
 | normal=>exact h' _ _ hq
 | _=>exact hq
theorem Qo {c:Code} (I:Nat->Act->World->Prop) (n:Nat) (h0:I n a w)
 (round:∀n a w,I n a w->c.wp P (Exit.then (fun a' w'=>∃m,m < n/\I m a' w') Q) a w):(Code.loop c).wp P Q a w:=by
 have key:∀a w,(∃n,I n a w)->∃n,I n a w/\∀m,m < n->¬I m a w:=by
  intro a w ⟨n,hn⟩
  induction n using Nat.strongRecOn with
  | _ n ih=>
    by_cases h:∃m,m < n/\I m a w
    ·obtain ⟨m,hm,hI⟩:=h
     exact ih m hm hI
    exact ⟨n,hn,fun m hm hI=>h ⟨m,hm,hI⟩⟩
 have:=Classical.propDecidable
 let μ:Act->World->Nat:=fun a w=>if h:∃n,I n a w then (key a w h).choose else 0
 refine wp_loop (fun a w=>∃n,I n a w) μ ⟨n,h0⟩ fun a w hI=>?_
 have e:μ a w=(key a w hI).choose:=dif_pos hI
 have hs:=(key a w hI).choose_spec
 refine wp_mono (round _ a w hs.1) fun e' a' w' hq=>?_
 cases e' with
 | normal=>
   obtain ⟨m,hm,hI'⟩:=hq
   refine ⟨⟨m,hI'⟩,?_⟩
   have e2:μ a' w'=(key a' w' ⟨m,hI'⟩).choose:=dif_pos (⟨m,hI'⟩:∃n,I n a' w')
   have hs2:=(key a' w' ⟨m,hI'⟩).choose_spec
   rw [e,e2]
   refine Nat.lt_of_le_of_lt ?_ hm
   exact Nat.le_of_not_lt fun hlt=>hs2.2 m hlt hI'
 | _=>exact hq
variable {fn:Func} {R:Ending->World->Prop} {N:Nat} {l:Env} {t u s:Tmp} {v x y:Value}
theorem rt1 (H:Hd a N [] l) (h:fn.results=#[.tmp t]) (hv:lk l t=some v) (hR:R (.returned v) w):bodyPost P fn R .ret a w:=
 ⟨H.df,v,(by rw [<-H.g _ _ hv];exact results_tmp h _ _ _),hR⟩
theorem rt2 (H:Hd a N [] l) (h:fn.results=#[.tmp t,.tmp u]) (hv:lk l t=some v) (hx:lk l u=some x) (hR:R (.returned (.tuple #[v,x])) w):bodyPost P fn R .ret a w:=
 ⟨H.df,_,(by rw [<-H.g _ _ hv,<-H.g _ _ hx];exact results_tmp2 h _ _ _),hR⟩
theorem rt0 (H:Hd a N [] l) (h:fn.results=#[]) (hR:R (.returned (.tuple #[])) w):bodyPost P fn R .ret a w:=⟨H.df,_,results_none h _ _ _,hR⟩
theorem rtn0 (H:Hd a N [] l) (h:fn.results=#[]) (hR:R (.returned (.tuple #[])) w):bodyPost P fn R .normal a w:=⟨H.df,_,results_none h _ _ _,hR⟩
theorem callF {f:FuncId} {fn:Func} (hf:P.funcs[f]?=some fn) (hn:(fn.name== "runtime.NumGoroutine")=false) (hb:fn.body.isNone=false) (args:Array Value) (w:World):(callFunc f args).run P w=.ok (.enter f args) w:=by
 have h1:fn.name≠ "runtime.NumGoroutine":=by simpa using hn
 simp [callFunc,hf,h1]
 intro h;rw [h] at hb;simp at hb
end
theorem Qf {P:Program} {f:FuncId} {fn:Func} (hf:P.funcs[f]?=some fn) (h:(!(fn.name== "runtime.NumGoroutine") && fn.body.isSome)=true) (args:Array Value) (w:World):(callFunc f args).run P w=.ok (.enter f args) w:=by
 simp only [Bool.and_eq_true,Bool.not_eq_true'] at h
 exact callF hf h.1 (by rw [Option.isNone_eq_false_iff];exact h.2) args w
abbrev CF (f:FuncId):Prop:=∀(args:Array Value) (w:World),(callFunc f args).run Tryz.prog w=.ok (.enter f args) w
theorem cf5:CF 5:=Qf Tryz.func5 (by kernel_rfl)
theorem cf6:CF 6:=Qf Tryz.func6 (by kernel_rfl)
theorem cf7:CF 7:=Qf Tryz.func7 (by kernel_rfl)
theorem cf9:CF 9:=Qf Tryz.func9 (by kernel_rfl)
theorem cf11:CF 11:=Qf Tryz.func11 (by kernel_rfl)
theorem cf12:CF 12:=Qf Tryz.func12 (by kernel_rfl)
theorem cf13:CF 13:=Qf Tryz.func13 (by kernel_rfl)
theorem cf14:CF 14:=Qf Tryz.func14 (by kernel_rfl)
theorem cf15:CF 15:=Qf Tryz.func15 (by kernel_rfl)
theorem cf16:CF 16:=Qf Tryz.func16 (by kernel_rfl)
theorem cf17:CF 17:=Qf Tryz.func17 (by kernel_rfl)
theorem cf18:CF 18:=Qf Tryz.func18 (by kernel_rfl)
theorem cf24:CF 24:=Qf Tryz.func24 (by kernel_rfl)
theorem cf25:CF 25:=Qf Tryz.func25 (by kernel_rfl)
theorem cf26:CF 26:=Qf Tryz.func26 (by kernel_rfl)
theorem cf27:CF 27:=Qf Tryz.func27 (by kernel_rfl)
theorem cf28:CF 28:=Qf Tryz.func28 (by kernel_rfl)
theorem cf29:CF 29:=Qf Tryz.func29 (by kernel_rfl)
theorem cf30:CF 30:=Qf Tryz.func30 (by kernel_rfl)
theorem cf31:CF 31:=Qf Tryz.func31 (by kernel_rfl)
theorem cf32:CF 32:=Qf Tryz.func32 (by kernel_rfl)
theorem cf33:CF 33:=Qf Tryz.func33 (by kernel_rfl)
theorem cf34:CF 34:=Qf Tryz.func34 (by kernel_rfl)
theorem cf35:CF 35:=Qf Tryz.func35 (by kernel_rfl)
theorem cf36:CF 36:=Qf Tryz.func36 (by kernel_rfl)
theorem cf37:CF 37:=Qf Tryz.func37 (by kernel_rfl)
theorem cf38:CF 38:=Qf Tryz.func38 (by kernel_rfl)
theorem cf39:CF 39:=Qf Tryz.func39 (by kernel_rfl)
theorem cf40:CF 40:=Qf Tryz.func40 (by kernel_rfl)
theorem cf41:CF 41:=Qf Tryz.func41 (by kernel_rfl)
theorem cf42:CF 42:=Qf Tryz.func42 (by kernel_rfl)
theorem cf43:CF 43:=Qf Tryz.func43 (by kernel_rfl)
theorem cf44:CF 44:=Qf Tryz.func44 (by kernel_rfl)
theorem cf45:CF 45:=Qf Tryz.func45 (by kernel_rfl)
theorem cf48:CF 48:=Qf Tryz.func48 (by kernel_rfl)
theorem cf49:CF 49:=Qf Tryz.func49 (by kernel_rfl)
theorem cf50:CF 50:=Qf Tryz.func50 (by kernel_rfl)
theorem cf51:CF 51:=Qf Tryz.func51 (by kernel_rfl)
theorem cf52:CF 52:=Qf Tryz.func52 (by kernel_rfl)
theorem cf53:CF 53:=Qf Tryz.func53 (by kernel_rfl)
theorem cf54:CF 54:=Qf Tryz.func54 (by kernel_rfl)
theorem cf58:CF 58:=Qf Tryz.func58 (by kernel_rfl)
theorem cf59:CF 59:=Qf Tryz.func59 (by kernel_rfl)
theorem cf60:CF 60:=Qf Tryz.func60 (by kernel_rfl)
theorem cf61:CF 61:=Qf Tryz.func61 (by kernel_rfl)
theorem cf62:CF 62:=Qf Tryz.func62 (by kernel_rfl)
theorem cf63:CF 63:=Qf Tryz.func63 (by kernel_rfl)
theorem cf69:CF 69:=Qf Tryz.func69 (by kernel_rfl)
theorem cf72:CF 72:=Qf Tryz.func72 (by kernel_rfl)
theorem cf73:CF 73:=Qf Tryz.func73 (by kernel_rfl)
theorem cf74:CF 74:=Qf Tryz.func74 (by kernel_rfl)
theorem cf75:CF 75:=Qf Tryz.func75 (by kernel_rfl)
theorem cf76:CF 76:=Qf Tryz.func76 (by kernel_rfl)
theorem cf77:CF 77:=Qf Tryz.func77 (by kernel_rfl)
theorem cf78:CF 78:=Qf Tryz.func78 (by kernel_rfl)
theorem cf79:CF 79:=Qf Tryz.func79 (by kernel_rfl)
theorem cf80:CF 80:=Qf Tryz.func80 (by kernel_rfl)
theorem cf82:CF 82:=Qf Tryz.func82 (by kernel_rfl)
theorem cf83:CF 83:=Qf Tryz.func83 (by kernel_rfl)
theorem cf84:CF 84:=Qf Tryz.func84 (by kernel_rfl)
theorem cf85:CF 85:=Qf Tryz.func85 (by kernel_rfl)
theorem cf86:CF 86:=Qf Tryz.func86 (by kernel_rfl)
theorem cf87:CF 87:=Qf Tryz.func87 (by kernel_rfl)
theorem cf88:CF 88:=Qf Tryz.func88 (by kernel_rfl)
theorem cf89:CF 89:=Qf Tryz.func89 (by kernel_rfl)
theorem cf90:CF 90:=Qf Tryz.func90 (by kernel_rfl)
theorem cf91:CF 91:=Qf Tryz.func91 (by kernel_rfl)
theorem cf92:CF 92:=Qf Tryz.func92 (by kernel_rfl)
theorem cf93:CF 93:=Qf Tryz.func93 (by kernel_rfl)
theorem cf94:CF 94:=Qf Tryz.func94 (by kernel_rfl)
theorem cf96:CF 96:=Qf Tryz.func96 (by kernel_rfl)
theorem cf97:CF 97:=Qf Tryz.func97 (by kernel_rfl)
theorem cf98:CF 98:=Qf Tryz.func98 (by kernel_rfl)
theorem cf99:CF 99:=Qf Tryz.func99 (by kernel_rfl)
theorem cf100:CF 100:=Qf Tryz.func100 (by kernel_rfl)
theorem cf101:CF 101:=Qf Tryz.func101 (by kernel_rfl)
theorem cf102:CF 102:=Qf Tryz.func102 (by kernel_rfl)
theorem cf103:CF 103:=Qf Tryz.func103 (by kernel_rfl)
theorem cf104:CF 104:=Qf Tryz.func104 (by kernel_rfl)
theorem cf105:CF 105:=Qf Tryz.func105 (by kernel_rfl)
theorem cf106:CF 106:=Qf Tryz.func106 (by kernel_rfl)
theorem cf107:CF 107:=Qf Tryz.func107 (by kernel_rfl)
theorem cf109:CF 109:=Qf Tryz.func109 (by kernel_rfl)
theorem cf110:CF 110:=Qf Tryz.func110 (by kernel_rfl)
theorem cf111:CF 111:=Qf Tryz.func111 (by kernel_rfl)
theorem cf112:CF 112:=Qf Tryz.func112 (by kernel_rfl)
theorem cf113:CF 113:=Qf Tryz.func113 (by kernel_rfl)
theorem cf114:CF 114:=Qf Tryz.func114 (by kernel_rfl)
theorem cf115:CF 115:=Qf Tryz.func115 (by kernel_rfl)
theorem cf116:CF 116:=Qf Tryz.func116 (by kernel_rfl)
theorem cf117:CF 117:=Qf Tryz.func117 (by kernel_rfl)
theorem cf118:CF 118:=Qf Tryz.func118 (by kernel_rfl)
theorem cf119:CF 119:=Qf Tryz.func119 (by kernel_rfl)
theorem cf120:CF 120:=Qf Tryz.func120 (by kernel_rfl)
theorem cf121:CF 121:=Qf Tryz.func121 (by kernel_rfl)
theorem cf122:CF 122:=Qf Tryz.func122 (by kernel_rfl)
theorem cf123:CF 123:=Qf Tryz.func123 (by kernel_rfl)
theorem cf124:CF 124:=Qf Tryz.func124 (by kernel_rfl)
theorem cf125:CF 125:=Qf Tryz.func125 (by kernel_rfl)
theorem cf126:CF 126:=Qf Tryz.func126 (by kernel_rfl)
theorem cf127:CF 127:=Qf Tryz.func127 (by kernel_rfl)
theorem cf128:CF 128:=Qf Tryz.func128 (by kernel_rfl)
theorem cf129:CF 129:=Qf Tryz.func129 (by kernel_rfl)
theorem cf130:CF 130:=Qf Tryz.func130 (by kernel_rfl)
theorem cf131:CF 131:=Qf Tryz.func131 (by kernel_rfl)
theorem cf132:CF 132:=Qf Tryz.func132 (by kernel_rfl)
theorem cf133:CF 133:=Qf Tryz.func133 (by kernel_rfl)
theorem cf134:CF 134:=Qf Tryz.func134 (by kernel_rfl)
theorem cf136:CF 136:=Qf Tryz.func136 (by kernel_rfl)
theorem cf137:CF 137:=Qf Tryz.func137 (by kernel_rfl)
theorem cf138:CF 138:=Qf Tryz.func138 (by kernel_rfl)
theorem cf140:CF 140:=Qf Tryz.func140 (by kernel_rfl)
theorem cf143:CF 143:=Qf Tryz.func143 (by kernel_rfl)
theorem cf144:CF 144:=Qf Tryz.func144 (by kernel_rfl)
theorem cf145:CF 145:=Qf Tryz.func145 (by kernel_rfl)
theorem cf146:CF 146:=Qf Tryz.func146 (by kernel_rfl)
theorem cf147:CF 147:=Qf Tryz.func147 (by kernel_rfl)
theorem cf148:CF 148:=Qf Tryz.func148 (by kernel_rfl)
theorem cf150:CF 150:=Qf Tryz.func150 (by kernel_rfl)
theorem cf151:CF 151:=Qf Tryz.func151 (by kernel_rfl)
theorem cf152:CF 152:=Qf Tryz.func152 (by kernel_rfl)
theorem cf153:CF 153:=Qf Tryz.func153 (by kernel_rfl)
theorem cf154:CF 154:=Qf Tryz.func154 (by kernel_rfl)
theorem cf156:CF 156:=Qf Tryz.func156 (by kernel_rfl)
theorem cf157:CF 157:=Qf Tryz.func157 (by kernel_rfl)
theorem cf158:CF 158:=Qf Tryz.func158 (by kernel_rfl)
theorem cf159:CF 159:=Qf Tryz.func159 (by kernel_rfl)
theorem cf166:CF 166:=Qf Tryz.func166 (by kernel_rfl)
theorem cf168:CF 168:=Qf Tryz.func168 (by kernel_rfl)
theorem cf169:CF 169:=Qf Tryz.func169 (by kernel_rfl)
theorem cf170:CF 170:=Qf Tryz.func170 (by kernel_rfl)
theorem cf172:CF 172:=Qf Tryz.func172 (by kernel_rfl)
theorem cf173:CF 173:=Qf Tryz.func173 (by kernel_rfl)
theorem cf174:CF 174:=Qf Tryz.func174 (by kernel_rfl)
theorem cf176:CF 176:=Qf Tryz.func176 (by kernel_rfl)
theorem cf178:CF 178:=Qf Tryz.func178 (by kernel_rfl)
theorem cf179:CF 179:=Qf Tryz.func179 (by kernel_rfl)
section
variable {ops:Array Oper} {Q:Exit->Act->World->Prop} {a:Act} {w w':World} {rest:List Oper} {d:Nat} {ty:TypeId} {pos:String} {after:Array Edge} {g:Nat} {b c:Bool} {N:Nat} {ds:List Deferred} {l:Env} {v:Value} {f:FuncId} {vs:List Value} {R:Ending->World->Prop} {xs:Array Operand} {ts:Array TypeId}
theorem wk (H:Hd a N ds l) (hF:∀args w,(callFunc f args).run Tryz.prog w=.ok (.enter f args) w) (hc:Calls Tryz.prog f vs.toArray w R) (hx:xs.toList.map (ov l)=vs.map some) (hd:Nat.blt d N=true)
 (h:∀e w',R e w'->∃v,e=.returned v/\∀a',Hd a' N ds ((d,v)::l)->wpList Tryz.prog ops Q rest a' w'):wpList Tryz.prog ops Q (⟨some d,.call { callee:=.value (.func f),args:=xs,argTypes:=ts},ty,pos,after,none⟩::rest) a w:=
 wlc H (Ez.call H hx (hF _ _)) hc hd h
theorem wkg {og:Oper} {t:Nat} (H:Hd a N ds l) (hF:∀args w,(callFunc f args).run Tryz.prog w=.ok (.enter f args) w) (hc:Calls Tryz.prog f vs.toArray w R) (hx:xs.toList.map (ov l)=vs.map some) (hd:Nat.blt d N=true)
 (ho:ops[g]?=some og) (ht:og.dst=some t) (hb:lk l t=some (.bool b)) (hN:Nat.blt t N=true)
 (h:∀e w',R e w'->∃v,e=.returned v/\∀a',Hd a' N ds ((d,v)::l)->wpList Tryz.prog ops Q rest a' w'):wpList Tryz.prog ops Q (⟨some d,.call { callee:=.value (.func f),args:=xs,argTypes:=ts},ty,pos,after,some (g,b)⟩::rest) a w:=
 wlgc H (Ez.call H hx (hF _ _)) hd hc ho ht hb hN h
variable {Qq:Act->Prop}
theorem wkq (H:Hd a N ds l) (hF:∀args w,(callFunc f args).run Tryz.prog w=.ok (.enter f args) w) (hc:∀w',Cd w w'->Calls Tryz.prog f vs.toArray w' fun e w''=>e=.returned v/\Cd w w'') (hx:xs.toList.map (ov l)=vs.map some) (hd:Nat.blt d N=true)
 (h:∀a',Hd a' N ds ((d,v)::l)->wpQuiet Tryz.prog ops (Cd w) Qq rest a'):wpQuiet Tryz.prog ops (Cd w) Qq (⟨some d,.call { callee:=.value (.func f),args:=xs,argTypes:=ts},ty,pos,after,none⟩::rest) a:=
 wqc H (fun _ _=>Ez.call H hx (hF _ _)) hc hd h
theorem quietOf (hc:∀w,Calls Tryz.prog f vs.toArray w fun e w'=>e=.returned v/\w=w'):∀w',Cd w w'->Calls Tryz.prog f vs.toArray w' fun e w''=>e=.returned v/\Cd w w'':=
 fun w' hw=>(hc w').mono fun _ _ ⟨h,e⟩=>⟨h,e▸hw⟩
end
theorem Qb:Tryz.prog.follows .mixedOrders=true:=by kernel_rfl
theorem Cd.cell {w w':World} (h:Cd w w') {A:Addr} {v:Value} (hc:w.cell? A=some v):w'.cell? A=some v:=by
 obtain ⟨n,rfl⟩:=h;exact hc
theorem Cd.fr {w w':World} (h:Cd w w') (T:Nat->Nat->Prop):Fr T w w':=by
 obtain ⟨n,rfl⟩:=h;exact (Fr.refl T w).drewN n
theorem Cd.heap {w w':World} (h:Cd w w'):w'.heap=w.heap:=by
 obtain ⟨n,rfl⟩:=h;rfl
def U64 (x:Int):Prop:=0<=x/\x < 18446744073709551616
structure Wk (w:World) (b c:Nat) (X:Nat->Int):Prop where
 blk:w.heap[b]?=some (.cells (Array.ofFn fun j:Fin c=>Value.int .u64 (X j)) 103 (0,0))
 u:∀j,j < c->U64 (X j)
 m:c<=9223372036854775807
def Bl (b:Nat):Nat->Nat->Prop:=fun k _=>k=b
def up (X:Nat->Int) (i:Nat) (v:Int):Nat->Int:=fun j=>if j=i then v else X j
theorem Qz (X:Nat->Int) (i:Nat) (v:Int):up X i v i=v:=by simp [up]
theorem Qx {X:Nat->Int} {i j:Nat} {v:Int} (h:j≠i):up X i v j=X j:=by simp [up,h]
theorem Wk.lt {w:World} {b c:Nat} {X:Nat->Int} (h:Wk w b c X):b < w.heap.size:=by
 have:=h.blk
 rcases Nat.lt_or_ge b w.heap.size with h' | h'
 ·exact h'
 rw [Array.getElem?_eq_none h'] at this;cases this
theorem Wk.cell {w:World} {b c:Nat} {X:Nat->Int} (h:Wk w b c X) {j:Nat} (hj:j < c):w.cell? ⟨b,j,none⟩=some (.int .u64 (X j)):=by
 simp [World.cell?,h.blk,hj]
theorem Wk.fz {w:World} {b c:Nat} {X:Nat->Int} (h:Wk w b c X) (j:Nat):w.frozen? ⟨b,j,none⟩=false:=by
 simp [World.frozen?,h.blk]
theorem Wk.set {w:World} {b c:Nat} {X:Nat->Int} (h:Wk w b c X) {j:Nat} (hj:j < c) {v:Int} (hv:U64 v):Wk (w.setCell ⟨b,j,none⟩ (.int .u64 v)) b c (up X j v):=by
 refine ⟨?_,fun k hk=>?_,h.m⟩
 ·have hb:=h.lt
  have hg:=h.blk
  rw [Array.getElem?_eq_getElem hb] at hg
  simp only [World.setCell]
  rw [Array.getElem?_modify]
  simp only [if_true,h.blk,Option.map_some]
  congr 2
  apply Array.ext
  ·simp
  intro i h1 h2
  simp only [Option.isSome_none,Bool.false_eq_true,if_false,Array.getElem_ofFn,up]
  by_cases e:j=i
  ·subst e;simp
  rw [Array.getElem_setIfInBounds_ne (by simpa using h2) e,if_neg (Ne.symm e)];simp
 by_cases e:k=j
 ·subst e;rw [Qz];exact hv
 rw [Qx e];exact h.u k hk
theorem Wk.fr {w w':World} {b c:Nat} {X:Nat->Int} {T:Nat->Nat->Prop} (h:Wk w b c X) (hF:Fr T w w') (hT:∀o,¬T b o):Wk w' b c X:=
 ⟨(hF.block b h.lt hT).trans h.blk,h.u,h.m⟩
theorem Wk.other {w:World} {b c:Nat} {X:Nat->Int} (h:Wk w b c X) {p:Addr} (hp:b≠p.block) (v:Value):Wk (w.setCell p v) b c X:=
 ⟨by rw [Below.heap_setCell _ _ _ _ hp];exact h.blk,h.u,h.m⟩
theorem Wk.heq {w w':World} {b c:Nat} {X:Nat->Int} (h:Wk w b c X) (hh:w'.heap=w.heap):Wk w' b c X:=⟨by rw [hh];exact h.blk,h.u,h.m⟩
theorem Wk.inj {w:World} {b c d:Nat} {X Y:Nat->Int} (h:Wk w b c X) (h':Wk w b d Y):c=d/\∀j,j < c->X j=Y j:=by
 have e:=h.blk.symm.trans h'.blk
 simp only [Option.some.injEq,Obj.cells.injEq,and_true] at e
 have hs:c=d:=by have:=congrArg Array.size e;simpa using this
 subst hs
 refine ⟨rfl,fun j hj=>?_⟩
 have:=congrArg (fun A:Array Value=>A[j]?) e
 simpa [hj] using this
theorem Wk.ext {w:World} {b c:Nat} {X Y:Nat->Int} (h:Wk w b c X) (e:∀j,j < c->Y j=X j):Wk w b c Y:=
 ⟨by rw [h.blk];congr 2;apply Array.ext (by simp);intro i h1 h2;simp at h1;simp [e i h1],fun j hj=>by rw [e j hj];exact h.u j hj,h.m⟩
theorem Fr.bl {w:World} {b j:Nat} (v:Value):Fr (Bl b) w (w.setCell ⟨b,j,none⟩ v):=(Fr.refl (Bl b) w).setCell (b:=b) (o:=j) (fun _=>rfl) v
theorem Wk.read {w0 w:World} {bx cx ox bz cz oz i:Nat} {X Z Z':Nat->Int} (hx:Wk w0 bx cx X) (hz0:Wk w0 bz cz Z) (hz:Wk w bz cz Z') (hF:Fr (Bl bz) w0 w)
 (hal:bx=bz->ox=oz) (hout:∀k,oz+i<=k->Z' k=Z k) (hi:ox+i < cx):w.cell? ⟨bx,ox+i,none⟩=some (.int .u64 (X (ox+i))):=by
 by_cases e:bx=bz
 ·have eo:=hal e
  subst e;subst eo
  obtain ⟨ec,eX⟩:=hx.inj hz0
  subst ec
  rw [hz.cell hi,hout _ (Nat.le_refl _),eX _ hi]
 exact (hx.fr hF (fun _ h=>e h)).cell hi
def BB:Int:=18446744073709551616
def nv (X:Nat->Int):Nat->Int
 | 0=>0
 | n+1=>nv X n+X n*BB ^ n
def nvo (X:Nat->Int) (o n:Nat):Int:=nv (fun i=>X (o+i)) n
theorem Qm (X:Nat->Int) (n:Nat):nvo X 0 n=nv X n:=by simp [nvo]
theorem BB_pos:0 < BB:=by decide
theorem Q3 (n:Nat):0 < BB ^ n:=Int.pow_pos BB_pos
theorem Ja {X Y:Nat->Int}:∀n,(∀j,j < n->X j=Y j)->nv X n=nv Y n
 | 0,_=>rfl
 | n+1,h=>by simp only [nv];rw [Ja n (fun j hj=>h j (by omega)),h n (by omega)]
theorem Q4 {X Y:Nat->Int} {o o' n:Nat} (h:∀j,j < n->X (o+j)=Y (o'+j)):nvo X o n=nvo Y o' n:=Ja n h
theorem Q5 {X:Nat->Int}:∀n,(∀j,j < n->U64 (X j))->0<=nv X n
 | 0,_=>by simp [nv]
 | n+1,h=>by
   simp only [nv]
   have h1:=Q5 n (fun j hj=>h j (by omega))
   have h2:=Int.mul_nonneg (h n (by omega)).1 (Int.le_of_lt (Q3 n))
   omega
theorem Kn {X:Nat->Int}:∀n,(∀j,j < n->U64 (X j))->nv X n < BB ^ n
 | 0,_=>by simp [nv]
 | n+1,h=>by
   simp only [nv]
   have h1:=Kn n (fun j hj=>h j (by omega))
   have h2:X n*BB ^ n<=(BB - 1)*BB ^ n:=Int.mul_le_mul_of_nonneg_right (by have:=(h n (by omega)).2;unfold BB;omega) (Int.le_of_lt (Q3 n))
   have h3:BB ^ (n+1)=BB ^ n*BB:=Int.pow_succ ..
   have h4:(BB - 1)*BB ^ n=BB ^ n*BB - BB ^ n:=by rw [Int.sub_mul,Int.mul_comm BB];omega
   omega
theorem Qk (X:Nat->Int) (o n:Nat):nvo X o (n+1)=nvo X o n+X (o+n)*BB ^ n:=rfl
theorem J1 {X:Nat->Int} {o n:Nat} (h:∀j,j < n->U64 (X (o+j))):0<=nvo X o n:=Q5 n h
theorem nvo_lt {X:Nat->Int} {o n:Nat} (h:∀j,j < n->U64 (X (o+j))):nvo X o n < BB ^ n:=Kn n h
theorem Jd (X:Nat->Int) (o n:Nat):∀m,nvo X o (n+m)=nvo X o n+nvo X (o+n) m*BB ^ n
 | 0=>by simp [nvo,nv]
 | m+1=>by
   rw [<-Nat.add_assoc,Qk,Jd X o n m,Qk,Int.add_mul,Int.pow_add,Nat.add_assoc]
   rw [Int.mul_assoc,Int.mul_comm (BB ^ m) (BB ^ n),Int.add_assoc]
namespace Ez
section
variable {a:Act} {N:Nat} {ds:List Deferred} {l:Env} {w:World} {d:Option Nat} {ty:TypeId} {pos:String} {after:Array Edge} {g:Option (Nat × Bool)}
theorem shrU (H:Hd a N ds l) {x y:Operand} {k k':IntKind} {n m r:Int} {t u:TypeId} (h:ov l x=some (.int k n)) (h':ov l y=some (.int k' m)) (c:Nat) (hm:m=(c:Int)) (hc:c<=k.bits) (hr:n / 2 ^ c=r):(execOp a.eval ⟨d,.binOp .shr t x y u,ty,pos,after,g⟩).run Tryz.prog w=.ok (.value (.int k r)) w:=by
 subst hm
 refine shrW H h h' (by omega) ?_
 rw [Int.toNat_natCast,Nat.min_eq_left hc,<-hr]
 exact Int.fdiv_eq_ediv_of_nonneg _ (Int.le_of_lt (Int.pow_pos (by decide)))
theorem shlU (H:Hd a N ds l) {x y:Operand} {k':IntKind} {n m r:Int} {t u:TypeId} (h:ov l x=some (.int .u64 n)) (h':ov l y=some (.int k' m)) (c:Nat) (hm:m=(c:Int)) (hc:c<=64) (hr:n*2 ^ c % 18446744073709551616=r):(execOp a.eval ⟨d,.binOp .shl t x y u,ty,pos,after,g⟩).run Tryz.prog w=.ok (.value (.int .u64 r)) w:=by
 subst hm
 refine shlW H h h' (by omega) ?_
 rw [Int.toNat_natCast,Nat.min_eq_left (show c<=IntKind.u64.bits from hc),<-hr,IntKind.wrap_u64]
theorem shlU32 (H:Hd a N ds l) {x y:Operand} {k':IntKind} {n m r:Int} {t u:TypeId} (h:ov l x=some (.int .u32 n)) (h':ov l y=some (.int k' m)) (c:Nat) (hm:m=(c:Int)) (hc:c<=32) (hr:n*2 ^ c % 4294967296=r):(execOp a.eval ⟨d,.binOp .shl t x y u,ty,pos,after,g⟩).run Tryz.prog w=.ok (.value (.int .u32 r)) w:=by
 subst hm
 refine shlW H h h' (by omega) ?_
 rw [Int.toNat_natCast,Nat.min_eq_left (show c<=IntKind.u32.bits from hc),<-hr,IntKind.wrap_u32']
theorem andM (H:Hd a N ds l) {x y:Operand} {n r:Int} {t u:TypeId} (c:Nat) (hc:c < 64) (h:ov l x=some (.int .u64 n)) (h':ov l y=some (.int .u64 (2 ^ c - 1))) (hn:U64 n) (hr:n % 2 ^ c=r):(execOp a.eval ⟨d,.binOp .and t x y u,ty,pos,after,g⟩).run Tryz.prog w=.ok (.value (.int .u64 r)) w:=by
 refine Ez.and H h h' ?_
 obtain ⟨n,rfl⟩:=Int.eq_ofNat_of_zero_le hn.1
 have h2:=hn.2
 have hp:2 ^ c<=2 ^ 63:=Nat.pow_le_pow_right (by decide) (by omega)
 have h1:1<=2 ^ c:=Nat.one_le_two_pow
 have e:(2:Int) ^ c - 1=((2 ^ c - 1:Nat):Int):=by rw [Int.natCast_sub h1];simp
 rw [e,u64_and_nat n (2 ^ c - 1) (by omega) (by omega),Nat.and_two_pow_sub_one_eq_mod,<-hr]
 simp
theorem eqlP (H:Hd a N ds l) {x y:Operand} {A B:Addr} {r:Bool} {u tp te:TypeId} {ti:TypeInfo} {ca cb:Array Value} {ta tb:TypeId} (h:ov l x=some (.pointer (some A))) (h':ov l y=some (.pointer (some B))) (hp:Tryz.prog.underlying tp=some (.pointer te)) (hte:Tryz.prog.info? te=some ti) (hsz:ti.size≠0)
 (ha:w.heap[A.block]?=some (.cells ca ta (0,0))) (hb:w.heap[B.block]?=some (.cells cb tb (0,0))) (hr:decide (A=B)=r):(execOp a.eval ⟨d,.binOp .eql tp x y u,ty,pos,after,g⟩).run Tryz.prog w=.ok (.value (.bool r)) w:=by
 have e:=H.o h
 have e':=H.o h'
 subst hr
 have q0:(binOp .eql tp (.pointer (some A)) (.pointer (some B))).run Tryz.prog w=.ok (.bool (decide (A=B))) w:=by
  by_cases hab:A=B
  ·subst hab;rw [run_eql_ptr_same w A hp hte];simp
  rw [run_eql_ptr_other w hp hte hsz hab ha hb];simp [hab]
 have q:(execOp a.eval ⟨d,.binOp .eql tp x y u,ty,pos,after,g⟩)=(do let _ <-eqGuard .eql tp x y (.pointer (some A)) (.pointer (some B));let v <-binOp .eql tp (.pointer (some A)) (.pointer (some B));pure (.value v)):=by simp only [execOp,e,e',bind_assoc]
 rw [q]
 simp [eqGuard,q0,Result.andThen]
theorem run_neq_of_eql {tp:TypeId} {x y:Value} {b:Bool} (hx:∃A,x=.pointer (some A)) (hy:∃B,y=.pointer (some B)) (h:(binOp .eql tp x y).run Tryz.prog w=.ok (.bool b) w):(binOp .neq tp x y).run Tryz.prog w=.ok (.bool (!b)) w:=by
 obtain ⟨A,rfl⟩:=hx
 obtain ⟨B,rfl⟩:=hy
 simp only [binOp,Sem.run_bind] at h ⊢
 cases h1:(Op.equal tp (.pointer (some A)) (.pointer (some B))).run Tryz.prog w with
 | ok v w'=>
   rw [h1] at h
   simp only [Result.andThen,Sem.run_pure,Result.ok.injEq,Value.bool.injEq] at h ⊢
   exact ⟨by rw [h.1],h.2⟩
 | halt e w'=>rw [h1] at h;simp [Result.andThen] at h
theorem neqP (H:Hd a N ds l) {x y:Operand} {A B:Addr} {r:Bool} {u tp te:TypeId} {ti:TypeInfo} {ca cb:Array Value} {ta tb:TypeId} (h:ov l x=some (.pointer (some A))) (h':ov l y=some (.pointer (some B))) (hp:Tryz.prog.underlying tp=some (.pointer te)) (hte:Tryz.prog.info? te=some ti) (hsz:ti.size≠0)
 (ha:w.heap[A.block]?=some (.cells ca ta (0,0))) (hb:w.heap[B.block]?=some (.cells cb tb (0,0))) (hr:(!decide (A=B))=r):(execOp a.eval ⟨d,.binOp .neq tp x y u,ty,pos,after,g⟩).run Tryz.prog w=.ok (.value (.bool r)) w:=by
 have e:=H.o h
 have e':=H.o h'
 subst hr
 have q0:(binOp .eql tp (.pointer (some A)) (.pointer (some B))).run Tryz.prog w=.ok (.bool (decide (A=B))) w:=by
  by_cases hab:A=B
  ·subst hab;rw [run_eql_ptr_same w A hp hte];simp
  rw [run_eql_ptr_other w hp hte hsz hab ha hb];simp [hab]
 have q1:=run_neq_of_eql (w:=w) ⟨A,rfl⟩ ⟨B,rfl⟩ q0
 have q:(execOp a.eval ⟨d,.binOp .neq tp x y u,ty,pos,after,g⟩)=(do let _ <-eqGuard .neq tp x y (.pointer (some A)) (.pointer (some B));let v <-binOp .neq tp (.pointer (some A)) (.pointer (some B));pure (.value v)):=by simp only [execOp,e,e',bind_assoc]
 rw [q]
 simp [eqGuard,q1,Result.andThen]
end
end Ez
theorem setRow_fr {w:World} {g:Nat} (arr:Array Value):Fr (Bl g) w (w.setRow g arr):=by
 refine ⟨rfl,rfl,rfl,by simp [World.setRow],fun k hk n=>?_,fun k o hk n=>?_,fun k o hk=>?_⟩
 ·have:¬g=k:=fun e=>n 0 e.symm
  simp [World.setRow,Array.getElem?_modify,this]
 ·have:¬g=k:=fun e=>n e.symm
  simp [World.setRow,World.cell?,Array.getElem?_modify,this]
 by_cases e:g=k
 ·subst e
  simp only [World.setRow,World.frozen?,Array.getElem?_modify,if_true]
  cases h:w.heap[g]? with
  | none=>rfl
  | some o=>cases o <;> rfl
 simp [World.setRow,World.frozen?,Array.getElem?_modify,e]
def cp (Z:Nat->Int) (oz:Nat) (X:Nat->Int) (ox n:Nat):Nat->Int:=fun k=>if oz<=k/\k < oz+n then X (ox+(k - oz)) else Z k
theorem cp_in {Z:Nat->Int} {oz:Nat} {X:Nat->Int} {ox n j:Nat} (h:j < n):cp Z oz X ox n (oz+j)=X (ox+j):=by
 simp [cp,h]
theorem cp_out {Z:Nat->Int} {oz:Nat} {X:Nat->Int} {ox n k:Nat} (h:k < oz\/oz+n<=k):cp Z oz X ox n k=Z k:=by
 unfold cp;rw [if_neg (by omega)]
theorem run_copyW {w:World} {bz oz dl dc bx ox sl sc cz cx:Nat} {Z X:Nat->Int} {ty:TypeId} {T:TypeId} (hT:T=79\/T=80) {T':TypeId} (hz:Wk w bz cz Z) (hx:Wk w bx cx X) (n:Nat) (hn:n=Nat.min sl dl) (lz:oz+n<=cz) (lx:ox+n<=cx):
 ∃w',(Builtin.copy_ #[T,T'] ty #[.slice (some ⟨bz,oz,none⟩) dl dc,.slice (some ⟨bx,ox,none⟩) sl sc]).run Tryz.prog w=.ok (.int .i64 n) w'/\Wk w' bz cz (cp Z oz X ox n)/\Fr (Bl bz) w w':=by
 have hu:Tryz.prog.underlying T=some (.slice 103):=by rcases hT with rfl | rfl <;> kernel_rfl
 have hs:(Tryz.prog.info? 103).map (·.size)=some 1:=by kernel_rfl
 have key:=run_copy_row Tryz.prog w T T' ty 103 bz oz dl dc ⟨bx,ox,none⟩ sl sc (Array.ofFn fun j:Fin cz=>Value.int .u64 (Z j)) 103 ((List.range n).map fun j=>Value.int .u64 (X (ox+j))) hu hs hz.blk (by simpa using hn)
  (fun j v hv=>by
   have hj:j < n:=by
    rcases Nat.lt_or_ge j n with h | h
    ·exact h
    rw [List.getElem?_eq_none (by simpa using h)] at hv;cases hv
   have hadd:(⟨bx,ox,none⟩:Addr).add j=⟨bx,ox+j,none⟩:=by unfold Addr.add;split <;> simp_all
   rw [hadd,hx.cell (by omega)]
   simpa [hj] using hv) (by simpa using lz) (by intro v hv;simp at hv;obtain ⟨j,_,rfl⟩:=hv;rfl)
 rw [List.length_map,List.length_range] at key
 refine ⟨_,key,⟨?_,fun j hj=>?_,hz.m⟩,setRow_fr _⟩
 ·have hlt:=hz.lt
  simp only [World.setRow,Array.getElem?_modify,if_true,hz.blk,Option.map_some]
  refine congrArg (fun A=>some (Obj.cells A 103 (0,0))) ?_
  apply Array.ext
  ·simp;omega
  intro i h1 h2
  simp only [Array.size_ofFn] at h2
  simp only [List.getElem_toArray,Array.getElem_ofFn,cp]
  simp only [List.getElem_append,List.length_append,List.length_take,List.length_map,List.length_range,Array.length_toList,Array.size_ofFn]
  by_cases c1:oz<=i/\i < oz+n
  ·rw [if_pos c1,dif_pos (by omega),dif_neg (by omega)]
   have e:i - min oz cz=i - oz:=by omega
   simp [e]
  rw [if_neg c1]
  by_cases c2:i < oz
  ·rw [dif_pos (by omega),dif_pos (by omega)];simp
  rw [dif_neg (by omega)]
  have e:oz+n+(i - (min oz cz+n))=i:=by omega
  simp [e]
 unfold cp
 split
 ·exact hx.u _ (by omega)
 exact hz.u _ hj
theorem Ez.copyW {a:Act} {N:Nat} {ds:List Deferred} {l:Env} {w:World} {d:Option Nat} {ty:TypeId} {pos:String} {after:Array Edge} {g:Option (Nat × Bool)} (H:Hd a N ds l) {x y:Operand}
 {bz oz dl dc bx ox sl sc cz cx:Nat} {Z X:Nat->Int} {T T':TypeId} (h:ov l x=some (.slice (some ⟨bz,oz,none⟩) dl dc)) (h':ov l y=some (.slice (some ⟨bx,ox,none⟩) sl sc)) (hT:T=79\/T=80) (hz:Wk w bz cz Z) (hx:Wk w bx cx X) (n:Nat) (hn:n=Nat.min sl dl) (lz:oz+n<=cz) (lx:ox+n<=cx):
 ∃w',(execOp a.eval ⟨d,.call { callee:=.builtin .copy,args:=#[x,y],argTypes:=#[T,T']},ty,pos,after,g⟩).run Tryz.prog w=.ok (.value (.int .i64 n)) w'/\Wk w' bz cz (cp Z oz X ox n)/\Fr (Bl bz) w w':=by
 obtain ⟨w',h1,h2,h3⟩:=run_copyW (ty:=ty) (T':=T') (dc:=dc) (sc:=sc) hT hz hx n hn lz lx
 refine ⟨w',?_,h2,h3⟩
 have e:=H.o h
 have e':=H.o h'
 revert e e';generalize a.eval=ρ;intro e e'
 simp only [execOp];go_simp
section
variable {P:Program} {ops:Array Oper} {Q:Act->Prop} {a:Act} {w w':World} {rest:List Oper} {op:Op} {d:Nat} {ty:TypeId} {pos:String} {after:Array Edge} {g:Nat} {b c:Bool} {N:Nat} {ds:List Deferred} {l:Env} {v:Value}
theorem wst (H:Hd a N ds l) (hr:(execOp a.eval ⟨some d,op,ty,pos,after,none⟩).run P w=.ok (.value v) w) (hd:Nat.blt d N=true)
 (h:∀a',Hd a' N ds ((d,v)::l)->wpStill P ops w Q rest a'):wpStill P ops w Q (⟨some d,op,ty,pos,after,none⟩::rest) a:=by
 refine wpStill_step (fun K hK=>?_)
 have hw:Region.wanted (⟨some d,op,ty,pos,after,none⟩:Oper) (yielded ops a.tmps)=true:=by simp [Region.wanted]
 rw [if_pos hw]
 unfold Oper.still
 rw [hr,Oper.stillUpon_value]
 exact hK _ (h _ (H.put v hd))
theorem yield_undef {og:Oper} {t:Nat} {u:Value} (H:Hd a N ds l) (ho:ops[g]?=some og) (ht:og.dst=some t) (hb:lk l t=some u) (hu:∀b,u≠.bool b) (hN:Nat.blt t N=true):yielded ops a.tmps g=none:=by
 have h1:t < a.tmps.size:=by rw [H.sz];simpa using hN
 have h2:=H.g _ _ hb
 simp only [Act.eval,Array.getD_eq_getD_getElem?,Array.getElem?_eq_getElem h1,Option.getD_some] at h2
 simp only [yielded,ho,Option.bind_some,ht,Array.getElem?_eq_getElem h1,h2]
 cases u <;> first | rfl | exact absurd rfl (hu _)
theorem wlu {Q:Exit->Act->World->Prop} {og:Oper} {t:Nat} {u:Value} (H:Hd a N ds l) (hd:Nat.blt d N=true)
 (ho:ops[g]?=some og) (ht:og.dst=some t) (hb:lk l t=some u) (hu:∀b,u≠.bool b) (hN:Nat.blt t N=true)
 (h:∀a',Hd a' N ds ((d,undef)::l)->wpList P ops Q rest a' w):wpList P ops Q (⟨some d,op,ty,pos,after,some (g,b)⟩::rest) a w:=by
 unfold wpList
 have hw:Region.wanted (⟨some d,op,ty,pos,after,some (g,b)⟩:Oper) (yielded ops a.tmps)=false:=by simp [Region.wanted,yield_undef H ho ht hb hu hN]
 rw [if_neg (by rw [hw];simp)]
 exact h _ (H.put undef hd)
theorem Cd.refl (w:World):Cd w w:=⟨0,rfl⟩
theorem Cd.trans {w w1 w2:World} (h:Cd w w1) (h':Cd w1 w2):Cd w w2:=by
 obtain ⟨n,rfl⟩:=h
 obtain ⟨m,rfl⟩:=h'
 exact ⟨n+m,by rw [World.drewN_drewN]⟩
theorem wste (h:Q a):wpStill P ops w Q [] a:=h
theorem Jw {id:Nat} {Q:Exit->Act->World->Prop} {a:Act} {w:World} (l1 l2:List Oper) (hm:P.follows .mixedOrders=true) (hB:Region.lexTailB .any (l1++l2).toArray l1.length=true)
 (h:∀w1,Cd w w1->wpStill P (l1++l2).toArray w1 (fun a'=>wpList P (l1++l2).toArray Q l2 a' w1) l1 a):(Code.region id (l1++l2).toArray true).wp P Q a w:=by
 refine wp_region_still_tail l1.length hm hB ?_
 have:=h { w with drawn:=w.drawn+1} ⟨1,rfl⟩
 simpa using this
end
def keys:Env->List Nat
 | []=> []
 | (k,_)::l=>k::keys l
section
variable {P:Program} {ops:Array Oper} {Q:Exit->Act->World->Prop} {w w':World} {rest:List Oper} {op:Op} {d:Nat} {ty:TypeId} {pos:String} {after:Array Edge} {N:Nat} {ds:List Deferred} {l:Env} {v:Value}
theorem kL (hr:∀a,Hd a N ds l->(execOp a.eval ⟨some d,op,ty,pos,after,none⟩).run P w=.ok (.value v) w') (hd:Nat.blt d N=true) (h:∀a,Hd a N ds ((d,v)::l)->wpList P ops Q rest a w'):∀a,Hd a N ds l->wpList P ops Q (⟨some d,op,ty,pos,after,none⟩::rest) a w:=fun a H=>wl H (hr a H) hd h
theorem kM {x:Operand} (hx:ov l x=some v) (hd:Nat.blt d N=true) (h:∀a,Hd a N ds ((d,v)::l)->wpList Tryz.prog ops Q rest a w):∀a,Hd a N ds l->wpList Tryz.prog ops Q (⟨some d,.move x,ty,pos,after,none⟩::rest) a w:=kL (fun _ H=>Ez.mv H hx) hd h
theorem kA {x:Operand} (hx:ov l x=some v) (hd:Nat.blt d N=true) (h:∀a,Hd a N ds ((d,v)::l)->wpList Tryz.prog ops Q rest a w):∀a,Hd a N ds l->wpList Tryz.prog ops Q (⟨some d,.assign x,ty,pos,after,none⟩::rest) a w:=kL (fun _ H=>Ez.asn H hx) hd h
theorem kN {x:Operand} {A:Addr} (hx:ov l x=some (.pointer (some A))) (hd:Nat.blt d N=true) (h:∀a,Hd a N ds ((d,.pointer (some A))::l)->wpList Tryz.prog ops Q rest a w):∀a,Hd a N ds l->wpList Tryz.prog ops Q (⟨some d,.nilCheck x,ty,pos,after,none⟩::rest) a w:=kL (fun _ H=>Ez.nc H hx) hd h
theorem kP {G:Act->Prop} {l:Env} (r:Env) (e:pick l (keys r)=r) (h:∀a,Hd a N ds r->G a):∀a,Hd a N ds l->G a:=fun a H=>h a (e▸H.pick (keys r))
theorem kW {K:Act->World->Prop} (h:∀a,Hd a N ds l->K a w):∀a,Hd a N ds l->wpList P ops (Exit.then K Q) [] a w:=h
theorem kS {x y:Code} (h:∀a,Hd a N ds l->x.wp P (Exit.then (y.wp P Q) Q) a w):∀a,Hd a N ds l->(Code.seq x y).wp P Q a w:=fun a H=>wp_seq (h a H)
theorem kR {id:Nat} (ls:List Oper) (h:∀a,Hd a N ds l->wpList P ls.toArray Q ls a w):∀a,Hd a N ds l->(Code.region id ls.toArray false).wp P Q a w:=fun a H=>wp_region_lit (h a H)
end
section
variable {ops:Array Oper} {Q:Act->Prop} {w:World} {rest:List Oper} {op:Op} {d:Nat} {ty:TypeId} {pos:String} {after:Array Edge} {N:Nat} {ds:List Deferred} {l:Env} {v:Value}
theorem jL (hr:∀a,Hd a N ds l->∀w',Cd w w'->(execOp a.eval ⟨some d,op,ty,pos,after,none⟩).run Tryz.prog w'=.ok (.value v) w') (hd:Nat.blt d N=true) (h:∀a,Hd a N ds ((d,v)::l)->wpQuiet Tryz.prog ops (Cd w) Q rest a):∀a,Hd a N ds l->wpQuiet Tryz.prog ops (Cd w) Q (⟨some d,op,ty,pos,after,none⟩::rest) a:=fun a H=>wq H (hr a H) hd h
theorem jM {x:Operand} (hx:ov l x=some v) (hd:Nat.blt d N=true) (h:∀a,Hd a N ds ((d,v)::l)->wpQuiet Tryz.prog ops (Cd w) Q rest a):∀a,Hd a N ds l->wpQuiet Tryz.prog ops (Cd w) Q (⟨some d,.move x,ty,pos,after,none⟩::rest) a:=jL (fun _ H _ _=>Ez.mv H hx) hd h
theorem jA {x:Operand} (hx:ov l x=some v) (hd:Nat.blt d N=true) (h:∀a,Hd a N ds ((d,v)::l)->wpQuiet Tryz.prog ops (Cd w) Q rest a):∀a,Hd a N ds l->wpQuiet Tryz.prog ops (Cd w) Q (⟨some d,.assign x,ty,pos,after,none⟩::rest) a:=jL (fun _ H _ _=>Ez.asn H hx) hd h
theorem jN {x:Operand} {A:Addr} (hx:ov l x=some (.pointer (some A))) (hd:Nat.blt d N=true) (h:∀a,Hd a N ds ((d,.pointer (some A))::l)->wpQuiet Tryz.prog ops (Cd w) Q rest a):∀a,Hd a N ds l->wpQuiet Tryz.prog ops (Cd w) Q (⟨some d,.nilCheck x,ty,pos,after,none⟩::rest) a:=jL (fun _ H _ _=>Ez.nc H hx) hd h
end
section
variable {P:Program} {ops:Array Oper} {Q:Exit->Act->World->Prop} {w w':World} {rest:List Oper} {op:Op} {d:Nat} {ty:TypeId} {pos:String} {after:Array Edge} {N:Nat} {ds:List Deferred} {l:Env} {v:Value} {g t:Nat} {b:Bool} {og:Oper}
theorem kG (hr:∀a,Hd a N ds l->(execOp a.eval ⟨some d,op,ty,pos,after,some (g,b)⟩).run P w=.ok (.value v) w') (hd:Nat.blt d N=true) (ho:ops[g]?=some og) (ht:og.dst=some t) (hb:lk l t=some (.bool b)) (hN:Nat.blt t N=true) (h:∀a,Hd a N ds ((d,v)::l)->wpList P ops Q rest a w'):∀a,Hd a N ds l->wpList P ops Q (⟨some d,op,ty,pos,after,some (g,b)⟩::rest) a w:=fun a H=>wlg H (hr a H) hd ho ht hb hN h
theorem kX (hd:Nat.blt d N=true) (ho:ops[g]?=some og) (ht:og.dst=some t) (hb:lk l t=some (.bool (!b))) (hN:Nat.blt t N=true) (h:∀a,Hd a N ds ((d,undef)::l)->wpList P ops Q rest a w):∀a,Hd a N ds l->wpList P ops Q (⟨some d,op,ty,pos,after,some (g,b)⟩::rest) a w:=fun a H=>wlx H hd ho ht hb hN h
end
section
variable {ops:Array Oper} {Q:Act->Prop} {w:World} {rest:List Oper} {op:Op} {d:Nat} {ty:TypeId} {pos:String} {after:Array Edge} {N:Nat} {ds:List Deferred} {l:Env} {v:Value}
theorem iL (hr:∀a,Hd a N ds l->(execOp a.eval ⟨some d,op,ty,pos,after,none⟩).run Tryz.prog w=.ok (.value v) w) (hd:Nat.blt d N=true) (h:∀a,Hd a N ds ((d,v)::l)->wpStill Tryz.prog ops w Q rest a):∀a,Hd a N ds l->wpStill Tryz.prog ops w Q (⟨some d,op,ty,pos,after,none⟩::rest) a:=fun a H=>wst H (hr a H) hd h
end
abbrev Sq:=@wp_seq
abbrev Co:=@World.cell?_setCell_other
abbrev Cs:=@wp_cond_split
abbrev Mr:=@Int.mul_le_mul_of_nonneg_right
abbrev Ml:=@Int.mul_le_mul_of_nonneg_left
abbrev Df:=@of_decide_eq_false
abbrev Dt:=@of_decide_eq_true
abbrev Cf:=@wp_cond_false
abbrev Ct:=@wp_cond_true
abbrev El:=@Int.emod_lt_of_pos
abbrev En:=@Int.emod_nonneg
abbrev Wn:=@wpList_nil
abbrev Wr:=@wp_ret
abbrev Wk0:=@wp_skip
abbrev Wb:=@wp_block
abbrev Eo:=@Int.eq_ofNat_of_zero_le
abbrev Bl0:=@World.block_lt_of_cell?
abbrev Dm:=@Int.dvd_mul_of_dvd_right
abbrev Mn:=@Int.mul_nonneg
abbrev We:=@wp_exit
abbrev Wu:=@IntKind.wrap_u64
abbrev Wv:=@IntKind.wrap_u32'
theorem Rl {P:Program} {Q:Exit->Act->World->Prop} {a:Act} {w:World} {id:Nat} (l:List Oper) (h:wpList P l.toArray Q l a w):(Code.region id l.toArray false).wp P Q a w:=wp_region_lit h
abbrev pz (b:Nat):Value:=.pointer (some ⟨b,0,none⟩)
namespace Ez
section
variable {a:Act} {N:Nat} {ds:List Deferred} {l:Env} {w:World} {d:Option Nat} {ty:TypeId} {pos:String} {after:Array Edge} {g:Option (Nat × Bool)}
theorem add64 (H:Hd a N ds l) {x y z:Operand} {n m c:Int} {ts:Array TypeId} (h:ov l x=some (.int .u64 n)) (h':ov l y=some (.int .u64 m)) (h'':ov l z=some (.int .u64 c)) (hn:U64 n) (hm:U64 m) (hc:0<=c/\c<=1):
 (execOp a.eval ⟨d,.call { callee:=.value (.func 66),args:=#[x,y,z],argTypes:=ts},ty,pos,after,g⟩).run Tryz.prog w=.ok (.value (.tuple #[.int .u64 ((n+m+c) % 18446744073709551616),.int .u64 ((n+m+c) / 18446744073709551616)])) w:=by
 have e:=H.o h
 have e':=H.o h'
 have e'':=H.o h''
 have ef:∀k,a.eval (.func k)=.func (.func k) #[] #[]:=fun _=>rfl
 revert e e' e'' ef;generalize a.eval=ρ;intro e e' e'' ef
 have q:(callFunc 66 #[.int .u64 n,.int .u64 m,.int .u64 c]).run Tryz.prog w=.ok (.value (.tuple #[.int .u64 ((n+m+c) % 18446744073709551616),.int .u64 ((n+m+c) / 18446744073709551616)])) w:=by
  rw [run_callFunc_extern Tryz.func66 (by kernel_rfl) (by kernel_rfl) (by kernel_rfl) (e:=add64Entry) (by kernel_rfl),run_add64 n m c hn.1 hm.1 hc.1 hc.2];rfl
 simp only [execOp];go_simp
def sub64E:Array Value->Sem Value:=fun args=>do
 let (x,y,b) <-Extern.MathBitsCarry.three "Sub64" args
 pure (Extern.MathBitsCarry.pair ((x+Extern.MathBitsCarry.m64 - y - b) % Extern.MathBitsCarry.m64) (if x < y+b then 1 else 0))
theorem run_sub64E (x y b:Nat) (hx:x < 18446744073709551616) (hy:y < 18446744073709551616) (hb:b<=1) (w:World):
 (sub64E #[.int .u64 x,.int .u64 y,.int .u64 b]).run Tryz.prog w=
  .ok (.tuple #[.int .u64 (((x:Int) - y - b) % 18446744073709551616),.int .u64 (if (x:Int) < y+b then 1 else 0)]) w:=by
 have key:(sub64E #[.int .u64 x,.int .u64 y,.int .u64 b]).run Tryz.prog w=
  .ok (.tuple #[.int .u64 (((x+18446744073709551616 - y - b) % 18446744073709551616:Nat):Int),.int .u64 ((if x < y+b then 1 else 0:Nat):Int)]) w:=by
  have:b=0\/b=1:=by omega
  rcases this with rfl | rfl <;> rfl
 have e1:(((x+18446744073709551616 - y - b) % 18446744073709551616:Nat):Int)=((x:Int) - y - b) % 18446744073709551616:=by omega
 have e2:((if x < y+b then 1 else 0:Nat):Int)=if (x:Int) < y+b then 1 else 0:=by split <;> split <;> omega
 rw [key,e1,e2]
theorem sub64 (H:Hd a N ds l) {x y z:Operand} {n m c:Int} {ts:Array TypeId} (h:ov l x=some (.int .u64 n)) (h':ov l y=some (.int .u64 m)) (h'':ov l z=some (.int .u64 c)) (hn:U64 n) (hm:U64 m) (hc:0<=c/\c<=1):
 (execOp a.eval ⟨d,.call { callee:=.value (.func 64),args:=#[x,y,z],argTypes:=ts},ty,pos,after,g⟩).run Tryz.prog w=.ok (.value (.tuple #[.int .u64 ((n - m - c) % 18446744073709551616),.int .u64 (if n < m+c then 1 else 0)])) w:=by
 obtain ⟨n,rfl⟩:=Eo hn.1
 obtain ⟨m,rfl⟩:=Eo hm.1
 obtain ⟨c,rfl⟩:=Eo hc.1
 have e:=H.o h
 have e':=H.o h'
 have e'':=H.o h''
 have ef:∀k,a.eval (.func k)=.func (.func k) #[] #[]:=fun _=>rfl
 revert e e' e'' ef;generalize a.eval=ρ;intro e e' e'' ef
 have q:(callFunc 64 #[.int .u64 n,.int .u64 m,.int .u64 c]).run Tryz.prog w=.ok (.value (.tuple #[.int .u64 (((n:Int) - m - c) % 18446744073709551616),.int .u64 (if (n:Int) < m+c then 1 else 0)])) w:=by
  have h1:=hn.2;have h2:=hm.2;have h3:=hc.2
  rw [run_callFunc_extern Tryz.func64 (by kernel_rfl) (by kernel_rfl) (by kernel_rfl) (e:=sub64E) (by kernel_rfl),run_sub64E n m c (by omega) (by omega) (by omega)];rfl
 simp only [execOp];go_simp
end
end Ez
theorem bitsAdd (x y c:Int) (hx:U64 x) (hy:U64 y) (hc:0<=c/\c<=1) (w:World):
 Calls Tryz.prog 124 #[.int .u64 x,.int .u64 y,.int .u64 c] w fun e w'=>e=.returned (.tuple #[.int .u64 ((x+y+c) % 18446744073709551616),.int .u64 ((x+y+c) / 18446744073709551616)])/\w=w':=by
 refine Qd (vs:= [.int .u64 x,.int .u64 y,.int .u64 c]) Tryz.func124 rfl rfl ?_
 intro a H
 replace H:Hd a 35 [] [(0,.int .u64 x),(1,.int .u64 y),(2,.int .u64 c)]:=H
 refine Sq (Rl [_,_] (wl H (Ez.asn H rfl) rfl (kA rfl rfl (kW (kS ?_)))));clear H a;intro a H
 refine Cf (H.o rfl) (Wk0 (thn (Sq (Rl [_,_,_,_,_,_,_,_,_] (wl H (Ez.mv H rfl) rfl (kM rfl rfl (kM rfl rfl (kL (fun a H=>Ez.add64 H rfl rfl rfl hx hy hc) rfl (kM rfl rfl (kL (fun a H=>Ez.ext0 H rfl) rfl (kL (fun a H=>Ez.ext1 H rfl) rfl (kA rfl rfl (kA rfl rfl (kP [(6,_),(7,_),(10,_),(11,_)] rfl (kW (kS (kR [_,_,_,_] (kM rfl rfl (kM rfl rfl (kA rfl rfl (kA rfl rfl (kP [(6,_),(7,_)] rfl (kW ?_)))))))))))))))))))))));clear H a;intro a H
 refine Wr ?_
 refine rt2 H rfl rfl rfl ?_
 exact ⟨rfl,rfl⟩
theorem bitsSub (x y c:Int) (hx:U64 x) (hy:U64 y) (hc:0<=c/\c<=1) (w:World):
 Calls Tryz.prog 126 #[.int .u64 x,.int .u64 y,.int .u64 c] w fun e w'=>e=.returned (.tuple #[.int .u64 ((x - y - c) % 18446744073709551616),.int .u64 (if x < y+c then 1 else 0)])/\w=w':=by
 refine Qd (vs:= [.int .u64 x,.int .u64 y,.int .u64 c]) Tryz.func126 rfl rfl ?_
 intro a H
 replace H:Hd a 35 [] [(0,.int .u64 x),(1,.int .u64 y),(2,.int .u64 c)]:=H
 refine Sq (Rl [_,_] (wl H (Ez.asn H rfl) rfl (kA rfl rfl (kW (kS ?_)))));clear H a;intro a H
 refine Cf (H.o rfl) (Wk0 (thn (Sq (Rl [_,_,_,_,_,_,_,_,_] (wl H (Ez.mv H rfl) rfl (kM rfl rfl (kM rfl rfl (kL (fun a H=>Ez.sub64 H rfl rfl rfl hx hy hc) rfl (kM rfl rfl (kL (fun a H=>Ez.ext0 H rfl) rfl (kL (fun a H=>Ez.ext1 H rfl) rfl (kA rfl rfl (kA rfl rfl (kP [(6,_),(7,_),(10,_),(11,_)] rfl (kW (kS (kR [_,_,_,_] (kM rfl rfl (kM rfl rfl (kA rfl rfl (kA rfl rfl (kP [(6,_),(7,_)] rfl (kW ?_)))))))))))))))))))))));clear H a;intro a H
 refine Wr ?_
 refine rt2 H rfl rfl rfl ?_
 exact ⟨rfl,rfl⟩
theorem Jc (Z:Nat->Int) (o i k:Nat) (v:Int) (h:o+i<=k):nvo (up Z k v) o i=nvo Z o i:=Q4 fun j hj=>Qx (by omega)
theorem add_step {z x y c s c' P X Y:Int} (h:z+c*P=x+y) (hs:s+c'*BB=X+Y+c):z+s*P+c'*(P*BB)=x+X*P+(y+Y*P):=by
 have e:(s+c'*BB)*P=(X+Y+c)*P:=by rw [hs]
 simp only [Int.add_mul] at e
 rw [Int.mul_comm P BB,<-Int.mul_assoc]
 omega
theorem sub_step {z x y c s c' P X Y:Int} (h:z - c*P=x - y) (hs:s - c'*BB=X - Y - c):z+s*P - c'*(P*BB)=x+X*P - (y+Y*P):=by
 have e:(s - c'*BB)*P=(X - Y - c)*P:=by rw [hs]
 simp only [Int.sub_mul] at e
 rw [Int.mul_comm P BB,<-Int.mul_assoc]
 omega
theorem addVVg (bz oz cz bx ox cx by_ oy cy n mz mx my:Nat) (Z X Y:Nat->Int) (w:World) (hz:Wk w bz cz Z) (hx:Wk w bx cx X) (hy:Wk w by_ cy Y)
 (halx:bx=bz->ox=oz) (haly:by_=bz->oy=oz) (lz:oz+n<=cz) (lx:ox+n<=cx) (ly:oy+n<=cy) (hn:n < 1000000000):
 Calls Tryz.prog 123 #[.slice (some ⟨bz,oz,none⟩) n mz,.slice (some ⟨bx,ox,none⟩) n mx,.slice (some ⟨by_,oy,none⟩) n my] w fun e w'=>∃(c:Int) (Z':Nat->Int),e=.returned (.int .u64 c)/\Wk w' bz cz Z'/\(∀k,(k < oz\/oz+n<=k)->Z' k=Z k)/\nvo Z' oz n+c*BB ^ n=nvo X ox n+nvo Y oy n/\(0<=c/\c<=1)/\Fr (Bl bz) w w':=by
 obtain ⟨w0,hw0⟩:∃w0,w0=w:=⟨w,rfl⟩
 rw [<-hw0]
 rw [<-hw0] at hz hx hy
 clear hw0 w
 refine Qd (vs:= [.slice (some ⟨bz,oz,none⟩) n mz,.slice (some ⟨bx,ox,none⟩) n mx,.slice (some ⟨by_,oy,none⟩) n my]) Tryz.func123 rfl rfl ?_
 intro a H
 replace H:Hd a 47 [] [(0,.slice (some ⟨bz,oz,none⟩) n mz),(1,.slice (some ⟨bx,ox,none⟩) n mx),(2,.slice (some ⟨by_,oy,none⟩) n my)]:=H
 refine Sq (Rl [_] (wl H (Ez.asn H rfl) rfl (kW (kS (kS (kR [_,_,_,_,_,_,_,_,_,_,_,_] (kM rfl rfl (kL (fun a H=>Ez.len79 H rfl) rfl (kM rfl rfl (kL (fun a H=>Ez.len79 H rfl) rfl (kL (fun a H=>Ez.neq (r:=false) H rfl rfl (by simp)) rfl (kM rfl rfl (kG (fun a H=>Ez.mv H rfl) rfl rfl rfl rfl rfl (kG (fun a H=>Ez.len79 H rfl) rfl rfl rfl rfl rfl (kG (fun a H=>Ez.mv H rfl) rfl rfl rfl rfl rfl (kG (fun a H=>Ez.len79 H rfl) rfl rfl rfl rfl rfl (kG (fun a H=>Ez.neq (r:=false) H rfl rfl (by simp)) rfl rfl rfl rfl rfl (kL (fun a H=>Ez.pkF H rfl rfl) rfl (kP [(0,_),(1,_),(2,_),(6,_),(21,_)] rfl (kW ?_))))))))))))))))))));clear H a;intro a H
 refine Cf (H.o rfl) (Wk0 (thn (Sq (Sq (Rl [_,_,_] (wl H (Ez.mv H rfl) rfl (kL (fun a H=>Ez.len79 H rfl) rfl (kM rfl rfl (kP [(0,_),(1,_),(2,_),(6,_),(24,_),(25,_)] rfl (kW ?_))))))))));clear H a;intro a H
 refine Wb ?_
 refine Qo (fun mm a w=>∃(i:Nat) (c:Int) (Z':Nat->Int),mm=n - i/\i<=n/\Hd a 47 [] [(0,.slice (some ⟨bz,oz,none⟩) n mz),(1,.slice (some ⟨bx,ox,none⟩) n mx),(2,.slice (some ⟨by_,oy,none⟩) n my),(6,.int .u64 c),(24,.int .i64 n),(25,.int .i64 i)]/\Wk w bz cz Z'/\(∀k,(k < oz\/oz+i<=k)->Z' k=Z k)/\nvo Z' oz i+c*BB ^ i=nvo X ox i+nvo Y oy i/\(0<=c/\c<=1)/\Fr (Bl bz) w0 w) (n) ?_ ?_
 ·exact ⟨0,0,Z,rfl,Nat.zero_le _,H,hz,fun _ _=>rfl,by simp [nvo,nv],by decide,Fr.refl _ _⟩
 clear H a
 intro mm a w hI
 obtain ⟨i,c,Z',rfl,hi,H,hz',hout,hsum,hc,hF⟩:=hI
 refine Sq (Rl [_] (wl H (Ez.lss H rfl rfl (rfl)) rfl (kW (kS ?_))));clear H a;intro a H
 refine Cs (H.o rfl) (fun hb=>?_) (fun hb=>?_)
 ·have hlt:i < n:=by simpa using hb
  refine Wk0 (thn (Sq (Wb (Sq (Rl [_,_] (wl H (Ez.mv H rfl) rfl (kA rfl rfl (kP [(0,_),(1,_),(2,_),(6,_),(7,_),(24,_),(25,_)] rfl (kW (kS ?_))))))))));clear H a;intro a H
  have hx1:=Wk.read (i:=i) hx hz hz' hF halx (fun k hk=>hout k (.inr hk)) (by omega)
  have hy1:=Wk.read (i:=i) hy hz hz' hF haly (fun k hk=>hout k (.inr hk)) (by omega)
  have ux:=hx.u (ox+i) (by omega)
  have uy:=hy.u (oy+i) (by omega)
  refine Qr (ls:= [_,_,_,_,_,_,_,_,_,_,_,_,_,_,_]) Qb (by kernel_rfl) (wq H (fun w2 hw2=>Ez.mv H rfl) rfl (jM rfl rfl (jL (fun a H w2 hw2=>Ez.ix79 H rfl rfl _ rfl (by omega)) rfl (jL (fun a H w2 hw2=>Ez.ld103 H rfl (hw2.cell hx1)) rfl (jM rfl rfl (jM rfl rfl (jL (fun a H w2 hw2=>Ez.ix79 H rfl rfl _ rfl (by omega)) rfl (jL (fun a H w2 hw2=>Ez.ld103 H rfl (hw2.cell hy1)) rfl (jM rfl rfl ?_)))))))));clear H a;intro a H
  refine wkq H cf124 (quietOf (bitsAdd (X (ox+i)) (Y (oy+i)) c ux uy hc)) rfl rfl ?_;clear H a;intro a H
  refine wq H (fun w2 hw2=>Ez.mv H rfl) rfl (jL (fun a H w2 hw2=>Ez.ext0 H rfl) rfl (jL (fun a H w2 hw2=>Ez.ext1 H rfl) rfl (jA rfl rfl (jA rfl rfl ?_))));clear H a;intro a H
  refine wqe ?_
  intro w1 hw
  have hz1:=hz'.heq hw.heap
  have hF1:=hF.trans (hw.fr _)
  clear hw
  unfold U64 at ux uy
  refine kP [(0,_),(1,_),(2,_),(6,_),(7,_),(8,_),(9,_),(24,_),(25,_)] rfl (kS (kR [_,_,_,_,_] (kM rfl rfl (kM rfl rfl (kM rfl rfl (kL (fun a H=>Ez.ix79 H rfl rfl _ rfl (by omega)) rfl ?_)))))) a H;clear H a;intro a H
  refine wls H (Ez.st103 H rfl rfl rfl (hz1.cell (by omega)) (hz1.fz _)) ?_;clear H;intro H
  refine kP [(0,_),(1,_),(2,_),(6,_),(9,_),(24,_),(25,_)] rfl (kW (kR [_,_] (kM rfl rfl (kA rfl rfl (kP [(0,_),(1,_),(2,_),(6,_),(24,_),(25,_)] rfl ?_))))) a H;clear H a;intro a H
  refine Wn ?_
  refine bn (thn (Rl [_,_] (wl H (Ez.addI (r:=((i+1:Nat):Int)) H rfl rfl (by omega) (by omega)) rfl (kM rfl rfl (kP [(0,_),(1,_),(2,_),(6,_),(24,_),(25,_)] rfl (kW (kP [(0,_),(1,_),(2,_),(6,_),(24,_),(25,_)] rfl ?_)))))));clear H a;intro a H
  refine ⟨n - (i+1),by omega,i+1,_,up Z' (oz+i) _,rfl,by omega,H,hz1.set (by omega) (by unfold U64;omega),fun k hk=>(Qx (by omega)).trans (hout k (by omega)),?_,?_,hF1.trans (Fr.bl _)⟩
  rw [Qk,Jc _ _ _ _ _ (Nat.le_refl _),Qz,Qk,Qk,Int.pow_succ]
  exact add_step hsum (by unfold BB;omega)
  omega
 have hge:i=n:=by have:¬i < n:=by simpa using hb
                  omega
 subst hge
 refine We (thx (thx (bxe (thn (Wr ?_)))))
 refine rt1 H rfl rfl ?_
 exact ⟨c,Z',rfl,hz',hout,hsum,hc,hF⟩
theorem subVVg (bz oz cz bx ox cx by_ oy cy n mz mx my:Nat) (Z X Y:Nat->Int) (w:World) (hz:Wk w bz cz Z) (hx:Wk w bx cx X) (hy:Wk w by_ cy Y)
 (halx:bx=bz->ox=oz) (haly:by_=bz->oy=oz) (lz:oz+n<=cz) (lx:ox+n<=cx) (ly:oy+n<=cy) (hn:n < 1000000000):
 Calls Tryz.prog 125 #[.slice (some ⟨bz,oz,none⟩) n mz,.slice (some ⟨bx,ox,none⟩) n mx,.slice (some ⟨by_,oy,none⟩) n my] w fun e w'=>∃(c:Int) (Z':Nat->Int),e=.returned (.int .u64 c)/\Wk w' bz cz Z'/\(∀k,(k < oz\/oz+n<=k)->Z' k=Z k)/\nvo Z' oz n - c*BB ^ n=nvo X ox n - nvo Y oy n/\(0<=c/\c<=1)/\Fr (Bl bz) w w':=by
 obtain ⟨w0,hw0⟩:∃w0,w0=w:=⟨w,rfl⟩
 rw [<-hw0]
 rw [<-hw0] at hz hx hy
 clear hw0 w
 refine Qd (vs:= [.slice (some ⟨bz,oz,none⟩) n mz,.slice (some ⟨bx,ox,none⟩) n mx,.slice (some ⟨by_,oy,none⟩) n my]) Tryz.func125 rfl rfl ?_
 intro a H
 replace H:Hd a 47 [] [(0,.slice (some ⟨bz,oz,none⟩) n mz),(1,.slice (some ⟨bx,ox,none⟩) n mx),(2,.slice (some ⟨by_,oy,none⟩) n my)]:=H
 refine Sq (Rl [_] (wl H (Ez.asn H rfl) rfl (kW (kS (kS (kR [_,_,_,_,_,_,_,_,_,_,_,_] (kM rfl rfl (kL (fun a H=>Ez.len79 H rfl) rfl (kM rfl rfl (kL (fun a H=>Ez.len79 H rfl) rfl (kL (fun a H=>Ez.neq (r:=false) H rfl rfl (by simp)) rfl (kM rfl rfl (kG (fun a H=>Ez.mv H rfl) rfl rfl rfl rfl rfl (kG (fun a H=>Ez.len79 H rfl) rfl rfl rfl rfl rfl (kG (fun a H=>Ez.mv H rfl) rfl rfl rfl rfl rfl (kG (fun a H=>Ez.len79 H rfl) rfl rfl rfl rfl rfl (kG (fun a H=>Ez.neq (r:=false) H rfl rfl (by simp)) rfl rfl rfl rfl rfl (kL (fun a H=>Ez.pkF H rfl rfl) rfl (kP [(0,_),(1,_),(2,_),(6,_),(21,_)] rfl (kW ?_))))))))))))))))))));clear H a;intro a H
 refine Cf (H.o rfl) (Wk0 (thn (Sq (Sq (Rl [_,_,_] (wl H (Ez.mv H rfl) rfl (kL (fun a H=>Ez.len79 H rfl) rfl (kM rfl rfl (kP [(0,_),(1,_),(2,_),(6,_),(24,_),(25,_)] rfl (kW ?_))))))))));clear H a;intro a H
 refine Wb ?_
 refine Qo (fun mm a w=>∃(i:Nat) (c:Int) (Z':Nat->Int),mm=n - i/\i<=n/\Hd a 47 [] [(0,.slice (some ⟨bz,oz,none⟩) n mz),(1,.slice (some ⟨bx,ox,none⟩) n mx),(2,.slice (some ⟨by_,oy,none⟩) n my),(6,.int .u64 c),(24,.int .i64 n),(25,.int .i64 i)]/\Wk w bz cz Z'/\(∀k,(k < oz\/oz+i<=k)->Z' k=Z k)/\nvo Z' oz i - c*BB ^ i=nvo X ox i - nvo Y oy i/\(0<=c/\c<=1)/\Fr (Bl bz) w0 w) (n) ?_ ?_
 ·exact ⟨0,0,Z,rfl,Nat.zero_le _,H,hz,fun _ _=>rfl,by simp [nvo,nv],by decide,Fr.refl _ _⟩
 clear H a
 intro mm a w hI
 obtain ⟨i,c,Z',rfl,hi,H,hz',hout,hsum,hc,hF⟩:=hI
 refine Sq (Rl [_] (wl H (Ez.lss H rfl rfl (rfl)) rfl (kW (kS ?_))));clear H a;intro a H
 refine Cs (H.o rfl) (fun hb=>?_) (fun hb=>?_)
 ·have hlt:i < n:=by simpa using hb
  refine Wk0 (thn (Sq (Wb (Sq (Rl [_,_] (wl H (Ez.mv H rfl) rfl (kA rfl rfl (kP [(0,_),(1,_),(2,_),(6,_),(7,_),(24,_),(25,_)] rfl (kW (kS ?_))))))))));clear H a;intro a H
  have hx1:=Wk.read (i:=i) hx hz hz' hF halx (fun k hk=>hout k (.inr hk)) (by omega)
  have hy1:=Wk.read (i:=i) hy hz hz' hF haly (fun k hk=>hout k (.inr hk)) (by omega)
  have ux:=hx.u (ox+i) (by omega)
  have uy:=hy.u (oy+i) (by omega)
  refine Qr (ls:= [_,_,_,_,_,_,_,_,_,_,_,_,_,_,_]) Qb (by kernel_rfl) (wq H (fun w2 hw2=>Ez.mv H rfl) rfl (jM rfl rfl (jL (fun a H w2 hw2=>Ez.ix79 H rfl rfl _ rfl (by omega)) rfl (jL (fun a H w2 hw2=>Ez.ld103 H rfl (hw2.cell hx1)) rfl (jM rfl rfl (jM rfl rfl (jL (fun a H w2 hw2=>Ez.ix79 H rfl rfl _ rfl (by omega)) rfl (jL (fun a H w2 hw2=>Ez.ld103 H rfl (hw2.cell hy1)) rfl (jM rfl rfl ?_)))))))));clear H a;intro a H
  refine wkq H cf126 (quietOf (bitsSub (X (ox+i)) (Y (oy+i)) c ux uy hc)) rfl rfl ?_;clear H a;intro a H
  refine wq H (fun w2 hw2=>Ez.mv H rfl) rfl (jL (fun a H w2 hw2=>Ez.ext0 H rfl) rfl (jL (fun a H w2 hw2=>Ez.ext1 H rfl) rfl (jA rfl rfl (jA rfl rfl ?_))));clear H a;intro a H
  refine wqe ?_
  intro w1 hw
  have hz1:=hz'.heq hw.heap
  have hF1:=hF.trans (hw.fr _)
  clear hw
  unfold U64 at ux uy
  refine kP [(0,_),(1,_),(2,_),(6,_),(7,_),(8,_),(9,_),(24,_),(25,_)] rfl (kS (kR [_,_,_,_,_] (kM rfl rfl (kM rfl rfl (kM rfl rfl (kL (fun a H=>Ez.ix79 H rfl rfl _ rfl (by omega)) rfl ?_)))))) a H;clear H a;intro a H
  refine wls H (Ez.st103 H rfl rfl rfl (hz1.cell (by omega)) (hz1.fz _)) ?_;clear H;intro H
  refine kP [(0,_),(1,_),(2,_),(6,_),(9,_),(24,_),(25,_)] rfl (kW (kR [_,_] (kM rfl rfl (kA rfl rfl (kP [(0,_),(1,_),(2,_),(6,_),(24,_),(25,_)] rfl ?_))))) a H;clear H a;intro a H
  refine Wn ?_
  refine bn (thn (Rl [_,_] (wl H (Ez.addI (r:=((i+1:Nat):Int)) H rfl rfl (by omega) (by omega)) rfl (kM rfl rfl (kP [(0,_),(1,_),(2,_),(6,_),(24,_),(25,_)] rfl (kW (kP [(0,_),(1,_),(2,_),(6,_),(24,_),(25,_)] rfl ?_)))))));clear H a;intro a H
  refine ⟨n - (i+1),by omega,i+1,_,up Z' (oz+i) _,rfl,by omega,H,hz1.set (by omega) (by unfold U64;omega),fun k hk=>(Qx (by omega)).trans (hout k (by omega)),?_,?_,hF1.trans (Fr.bl _)⟩
  rw [Qk,Jc _ _ _ _ _ (Nat.le_refl _),Qz,Qk,Qk,Int.pow_succ]
  exact sub_step hsum (by unfold BB;split <;> omega)
  split <;> omega
 have hge:i=n:=by have:¬i < n:=by simpa using hb
                  omega
 subst hge
 refine We (thx (thx (bxe (thn (Wr ?_)))))
 refine rt1 H rfl rfl ?_
 exact ⟨c,Z',rfl,hz',hout,hsum,hc,hF⟩
theorem addVV (bz oz cz bx ox cx by_ oy cy n mz mx my:Nat) (Z X Y:Nat->Int) (w:World) (hz:Wk w bz cz Z) (hx:Wk w bx cx X) (hy:Wk w by_ cy Y)
 (halx:bx=bz->ox=oz) (haly:by_=bz->oy=oz) (lz:oz+n<=cz) (lx:ox+n<=cx) (ly:oy+n<=cy) (hn:n < 1000000000):
 Calls Tryz.prog 109 #[.slice (some ⟨bz,oz,none⟩) n mz,.slice (some ⟨bx,ox,none⟩) n mx,.slice (some ⟨by_,oy,none⟩) n my] w fun e w'=>∃(c:Int) (Z':Nat->Int),e=.returned (.int .u64 c)/\Wk w' bz cz Z'/\(∀k,(k < oz\/oz+n<=k)->Z' k=Z k)/\nvo Z' oz n+c*BB ^ n=nvo X ox n+nvo Y oy n/\(0<=c/\c<=1)/\Fr (Bl bz) w w':=by
 refine Qd (vs:= [.slice (some ⟨bz,oz,none⟩) n mz,.slice (some ⟨bx,ox,none⟩) n mx,.slice (some ⟨by_,oy,none⟩) n my]) Tryz.func109 rfl rfl ?_
 intro a H
 replace H:Hd a 11 [] [(0,.slice (some ⟨bz,oz,none⟩) n mz),(1,.slice (some ⟨bx,ox,none⟩) n mx),(2,.slice (some ⟨by_,oy,none⟩) n my)]:=H
 refine Sq (Rl [_] (wl H (Ez.asn H rfl) rfl (kW (kS (kR [_,_,_,_,_] (kM rfl rfl (kM rfl rfl (kM rfl rfl ?_))))))));clear H a;intro a H
 refine wk H cf123 (addVVg bz oz cz bx ox cx by_ oy cy n mz mx my Z X Y w hz hx hy halx haly lz lx ly hn) rfl rfl ?_
 rintro _ w1 ⟨c,Z',rfl,h1,h2,h3,h4,h5⟩
 refine ⟨_,rfl,?_⟩;clear H a;intro a H
 refine wl H (Ez.asn H rfl) rfl (kP [(6,_)] rfl (kW ?_));clear H a;intro a H
 refine Wr ?_
 refine rt1 H rfl rfl ?_
 exact ⟨c,Z',rfl,h1,h2,h3,h4,h5⟩
theorem subVV (bz oz cz bx ox cx by_ oy cy n mz mx my:Nat) (Z X Y:Nat->Int) (w:World) (hz:Wk w bz cz Z) (hx:Wk w bx cx X) (hy:Wk w by_ cy Y)
 (halx:bx=bz->ox=oz) (haly:by_=bz->oy=oz) (lz:oz+n<=cz) (lx:ox+n<=cx) (ly:oy+n<=cy) (hn:n < 1000000000):
 Calls Tryz.prog 111 #[.slice (some ⟨bz,oz,none⟩) n mz,.slice (some ⟨bx,ox,none⟩) n mx,.slice (some ⟨by_,oy,none⟩) n my] w fun e w'=>∃(c:Int) (Z':Nat->Int),e=.returned (.int .u64 c)/\Wk w' bz cz Z'/\(∀k,(k < oz\/oz+n<=k)->Z' k=Z k)/\nvo Z' oz n - c*BB ^ n=nvo X ox n - nvo Y oy n/\(0<=c/\c<=1)/\Fr (Bl bz) w w':=by
 refine Qd (vs:= [.slice (some ⟨bz,oz,none⟩) n mz,.slice (some ⟨bx,ox,none⟩) n mx,.slice (some ⟨by_,oy,none⟩) n my]) Tryz.func111 rfl rfl ?_
 intro a H
 replace H:Hd a 11 [] [(0,.slice (some ⟨bz,oz,none⟩) n mz),(1,.slice (some ⟨bx,ox,none⟩) n mx),(2,.slice (some ⟨by_,oy,none⟩) n my)]:=H
 refine Sq (Rl [_] (wl H (Ez.asn H rfl) rfl (kW (kS (kR [_,_,_,_,_] (kM rfl rfl (kM rfl rfl (kM rfl rfl ?_))))))));clear H a;intro a H
 refine wk H cf125 (subVVg bz oz cz bx ox cx by_ oy cy n mz mx my Z X Y w hz hx hy halx haly lz lx ly hn) rfl rfl ?_
 rintro _ w1 ⟨c,Z',rfl,h1,h2,h3,h4,h5⟩
 refine ⟨_,rfl,?_⟩;clear H a;intro a H
 refine wl H (Ez.asn H rfl) rfl (kP [(6,_)] rfl (kW ?_));clear H a;intro a H
 refine Wr ?_
 refine rt1 H rfl rfl ?_
 exact ⟨c,Z',rfl,h1,h2,h3,h4,h5⟩
theorem half_mul {a b:Int} (ha:0<=a/\a < 4294967296) (hb:0<=b/\b < 4294967296):0<=a*b/\a*b<=18446744065119617025:=by
 refine ⟨Mn ha.1 hb.1,?_⟩
 have:=Int.mul_le_mul (show a<=4294967295 by omega) (show b<=4294967295 by omega) hb.1 (by decide)
 omega
theorem halves {x:Int} (hx:U64 x):∃x0 x1:Int,x=x1*4294967296+x0/\(0<=x0/\x0 < 4294967296)/\(0<=x1/\x1 < 4294967296):=
 ⟨x % 4294967296,x / 4294967296,by omega,by omega,by unfold U64 at hx;omega⟩
theorem prod_halves {x y x0 x1 y0 y1:Int} (hx:x=x1*4294967296+x0) (hy:y=y1*4294967296+y0):x*y=x1*y1*18446744073709551616+(x1*y0+x0*y1)*4294967296+x0*y0:=by
 subst hx;subst hy
 simp only [Int.add_mul,Int.mul_add]
 rw [show x1*4294967296*(y1*4294967296)=x1*y1*18446744073709551616 by rw [show x1*4294967296*(y1*4294967296)=x1*y1*(4294967296*4294967296) by ac_rfl];rfl,
  show x0*(y1*4294967296)=x0*y1*4294967296 by ac_rfl,show x1*4294967296*y0=x1*y0*4294967296 by ac_rfl]
 omega
theorem bitsMul64 (x y:Int) (hx:U64 x) (hy:U64 y) (w:World):
 Calls Tryz.prog 178 #[.int .u64 x,.int .u64 y] w fun e w'=>e=.returned (.tuple #[.int .u64 (x*y / 18446744073709551616),.int .u64 (x*y % 18446744073709551616)])/\w=w':=by
 obtain ⟨x0,x1,ex,bx0,bx1⟩:=halves hx
 obtain ⟨y0,y1,ey,by0,by1⟩:=halves hy
 have hxy:=prod_halves ex ey
 obtain ⟨p,hp⟩:∃p,p=x0*y0:=⟨_,rfl⟩
 obtain ⟨q,hq⟩:∃q,q=x1*y0:=⟨_,rfl⟩
 obtain ⟨r,hr⟩:∃r,r=x0*y1:=⟨_,rfl⟩
 obtain ⟨s,hs⟩:∃s,s=x1*y1:=⟨_,rfl⟩
 have bp:=half_mul bx0 by0
 have bq:=half_mul bx1 by0
 have br:=half_mul bx0 by1
 have bs:=half_mul bx1 by1
 rw [<-hp,<-hq,<-hr,<-hs] at hxy
 rw [<-hp] at bp;rw [<-hq] at bq;rw [<-hr] at br;rw [<-hs] at bs
 refine Qd (vs:= [.int .u64 x,.int .u64 y]) Tryz.func178 rfl rfl ?_
 intro a H
 replace H:Hd a 51 [] [(0,.int .u64 x),(1,.int .u64 y)]:=H
 refine Sq (Rl [_,_] (wl H (Ez.asn H rfl) rfl (kA rfl rfl (kW (kS (kR [_,_,_] (kM rfl rfl (kL (fun a H=>Ez.andM (r:=x0) H 32 (by decide) rfl rfl hx (by omega)) rfl (kA rfl rfl (kP [(0,_),(1,_),(4,_),(5,_),(6,_)] rfl (kW (kS (kR [_,_,_] (kM rfl rfl (kL (fun a H=>Ez.shrU (r:=x1) H rfl rfl 32 rfl (by decide) (by omega)) rfl (kA rfl rfl (kP [(0,_),(1,_),(4,_),(5,_),(6,_),(7,_)] rfl (kW (kS (kR [_,_,_] (kM rfl rfl (kL (fun a H=>Ez.andM (r:=y0) H 32 (by decide) rfl rfl hy (by omega)) rfl (kA rfl rfl (kP [(0,_),(1,_),(4,_),(5,_),(6,_),(7,_),(8,_)] rfl (kW (kS (kR [_,_,_] ?_)))))))))))))))))))))))))));clear H a;intro a H
 refine wl H (Ez.mv H rfl) rfl (kL (fun a H=>Ez.shrU (r:=y1) H rfl rfl 32 rfl (by decide) (by omega)) rfl (kA rfl rfl (kP [(0,_),(1,_),(4,_),(5,_),(6,_),(7,_),(8,_),(9,_)] rfl (kW (kS (kR [_,_,_,_] (kM rfl rfl (kM rfl rfl (kL (fun a H=>Ez.mulU (r:=p) H rfl rfl (by omega)) rfl (kA rfl rfl (kP [(0,_),(1,_),(4,_),(5,_),(6,_),(7,_),(8,_),(9,_),(10,_)] rfl (kW (kS (kR [_,_,_,_,_,_,_] (kM rfl rfl (kM rfl rfl (kL (fun a H=>Ez.mulU (r:=q) H rfl rfl (by omega)) rfl (kM rfl rfl (kL (fun a H=>Ez.shrU (r:=p / 4294967296) H rfl rfl 32 rfl (by decide) (by omega)) rfl (kL (fun a H=>Ez.addU (r:=q+p / 4294967296) H rfl rfl (by omega)) rfl (kA rfl rfl (kP [(0,_),(1,_),(4,_),(5,_),(6,_),(7,_),(9,_),(11,_)] rfl (kW (kS (kR [_,_,_] (kM rfl rfl (kL (fun a H=>Ez.andM (r:=(q+p / 4294967296) % 4294967296) H 32 (by decide) rfl rfl (by unfold U64;omega) (by omega)) rfl ?_)))))))))))))))))))))))))));clear H a;intro a H
 refine wl H (Ez.asn H rfl) rfl (kP [(0,_),(1,_),(4,_),(5,_),(6,_),(7,_),(9,_),(11,_),(12,_)] rfl (kW (kS (kR [_,_,_] (kM rfl rfl (kL (fun a H=>Ez.shrU (r:=(q+p / 4294967296) / 4294967296) H rfl rfl 32 rfl (by decide) (by omega)) rfl (kA rfl rfl (kP [(0,_),(1,_),(4,_),(5,_),(6,_),(7,_),(9,_),(12,_),(13,_)] rfl (kW (kS (kR [_,_,_,_,_,_] (kM rfl rfl (kM rfl rfl (kM rfl rfl (kL (fun a H=>Ez.mulU (r:=r) H rfl rfl (by omega)) rfl (kL (fun a H=>Ez.addU (r:=(q+p / 4294967296) % 4294967296+r) H rfl rfl (by omega)) rfl (kA rfl rfl (kP [(0,_),(1,_),(4,_),(5,_),(7,_),(9,_),(12,_),(13,_)] rfl (kW (kS (kR [_,_,_,_,_,_,_,_,_] (kM rfl rfl (kM rfl rfl (kL (fun a H=>Ez.mulU (r:=s) H rfl rfl (by omega)) rfl (kM rfl rfl (kL (fun a H=>Ez.addU (r:=s+(q+p / 4294967296) / 4294967296) H rfl rfl (by omega)) rfl (kM rfl rfl ?_)))))))))))))))))))))))))));clear H a;intro a H
 refine wl H (Ez.shrU (r:=((q+p / 4294967296) % 4294967296+r) / 4294967296) H rfl rfl 32 rfl (by decide) (by omega)) rfl (kL (fun a H=>Ez.addU (r:=s+(q+p / 4294967296) / 4294967296+((q+p / 4294967296) % 4294967296+r) / 4294967296) H rfl rfl (by omega)) rfl (kA rfl rfl (kP [(0,_),(1,_),(4,_),(5,_)] rfl (kW (kS (kR [_,_,_,_] (kM rfl rfl (kM rfl rfl (kL (fun a H=>Ez.mulU H rfl rfl rfl) rfl (kA rfl rfl (kP [(4,_),(5,_)] rfl (kW ?_))))))))))));clear H a;intro a H
 refine Wr ?_
 refine rt2 H rfl rfl rfl ?_
 refine ⟨?_,rfl⟩
 rw [show s+(q+p / 4294967296) / 4294967296+((q+p / 4294967296) % 4294967296+r) / 4294967296=x*y / 18446744073709551616 by rw [hxy];omega]
theorem bitsMul (x y:Int) (hx:U64 x) (hy:U64 y) (w:World):
 Calls Tryz.prog 169 #[.int .u64 x,.int .u64 y] w fun e w'=>e=.returned (.tuple #[.int .u64 (x*y / 18446744073709551616),.int .u64 (x*y % 18446744073709551616)])/\w=w':=by
 refine Qd (vs:= [.int .u64 x,.int .u64 y]) Tryz.func169 rfl rfl ?_
 intro a H
 replace H:Hd a 30 [] [(0,.int .u64 x),(1,.int .u64 y)]:=H
 refine Sq (Rl [_,_] (wl H (Ez.asn H rfl) rfl (kA rfl rfl (kW (kS ?_)))));clear H a;intro a H
 refine Cf (H.o rfl) (Wk0 (thn (Sq (Rl [_,_,_,_,_,_,_,_] (wl H (Ez.mv H rfl) rfl (kM rfl rfl ?_))))));clear H a;intro a H
 refine wk H cf178 (bitsMul64 x y hx hy w) rfl rfl ?_
 rintro _ w1 ⟨rfl,rfl⟩
 refine ⟨_,rfl,?_⟩;clear H a;intro a H
 refine wl H (Ez.mv H rfl) rfl (kL (fun a H=>Ez.ext0 H rfl) rfl (kL (fun a H=>Ez.ext1 H rfl) rfl (kA rfl rfl (kA rfl rfl (kP [(4,_),(5,_),(8,_),(9,_)] rfl (kW (kS (kR [_,_,_,_] (kM rfl rfl (kM rfl rfl (kA rfl rfl (kA rfl rfl (kP [(4,_),(5,_)] rfl (kW ?_))))))))))))));clear H a;intro a H
 refine Wr ?_
 refine rt2 H rfl rfl rfl ?_
 exact ⟨rfl,rfl⟩
theorem mulWW (x y:Int) (hx:U64 x) (hy:U64 y) (w:World):
 Calls Tryz.prog 153 #[.int .u64 x,.int .u64 y] w fun e w'=>e=.returned (.tuple #[.int .u64 (x*y / 18446744073709551616),.int .u64 (x*y % 18446744073709551616)])/\w=w':=by
 refine Qd (vs:= [.int .u64 x,.int .u64 y]) Tryz.func153 rfl rfl ?_
 intro a H
 replace H:Hd a 16 [] [(0,.int .u64 x),(1,.int .u64 y)]:=H
 refine Sq (Rl [_,_] (wl H (Ez.asn H rfl) rfl (kA rfl rfl (kW (kS (kR [_,_,_,_,_,_,_,_] (kM rfl rfl (kM rfl rfl ?_))))))));clear H a;intro a H
 refine wk H cf169 (bitsMul x y hx hy w) rfl rfl ?_
 rintro _ w1 ⟨rfl,rfl⟩
 refine ⟨_,rfl,?_⟩;clear H a;intro a H
 refine wl H (Ez.mv H rfl) rfl (kL (fun a H=>Ez.ext0 H rfl) rfl (kL (fun a H=>Ez.ext1 H rfl) rfl (kA rfl rfl (kA rfl rfl (kP [(4,_),(5,_),(6,_),(7,_)] rfl (kW (kS (kR [_,_,_,_] (kM rfl rfl (kM rfl rfl (kA rfl rfl (kA rfl rfl (kP [(4,_),(5,_)] rfl (kW ?_))))))))))))));clear H a;intro a H
 refine Wr ?_
 refine rt2 H rfl rfl rfl ?_
 exact ⟨rfl,rfl⟩
theorem mul_lt64 {x y:Int} (hx:U64 x) (hy:U64 y):0<=x*y/\x*y<=340282366920938463426481119284349108225:=by
 refine ⟨Mn hx.1 hy.1,?_⟩
 have:=Int.mul_le_mul (show x<=18446744073709551615 by have:=hx.2;omega) (show y<=18446744073709551615 by have:=hy.2;omega) hy.1 (by decide)
 omega
theorem mulAddWWW (x y c:Int) (hx:U64 x) (hy:U64 y) (hc:U64 c) (w:World):
 Calls Tryz.prog 173 #[.int .u64 x,.int .u64 y,.int .u64 c] w fun e w'=>e=.returned (.tuple #[.int .u64 ((x*y+c) / 18446744073709551616),.int .u64 ((x*y+c) % 18446744073709551616)])/\w=w':=by
 have hxy:=mul_lt64 hx hy
 refine Qd (vs:= [.int .u64 x,.int .u64 y,.int .u64 c]) Tryz.func173 rfl rfl ?_
 intro a H
 replace H:Hd a 27 [] [(0,.int .u64 x),(1,.int .u64 y),(2,.int .u64 c)]:=H
 refine Sq (Rl [_,_] (wl H (Ez.asn H rfl) rfl (kA rfl rfl (kW (kS (kR [_,_,_,_,_,_,_,_] (kM rfl rfl (kM rfl rfl ?_))))))));clear H a;intro a H
 refine wk H cf169 (bitsMul x y hx hy w) rfl rfl ?_
 rintro _ w1 ⟨rfl,rfl⟩
 refine ⟨_,rfl,?_⟩;clear H a;intro a H
 refine wl H (Ez.mv H rfl) rfl (kL (fun a H=>Ez.ext0 H rfl) rfl (kL (fun a H=>Ez.ext1 H rfl) rfl (kA rfl rfl (kA rfl rfl (kP [(2,_),(6,_),(7,_),(8,_),(9,_)] rfl (kW (kS (kR [_] (kA rfl rfl (kW (kS (kR [_,_,_,_,_,_,_,_] (kM rfl rfl (kM rfl rfl ?_))))))))))))));clear H a;intro a H
 refine wk H cf124 (bitsAdd (x*y % 18446744073709551616) c 0 (by unfold U64;omega) hc (by decide) w) rfl rfl ?_
 rintro _ w1 ⟨rfl,rfl⟩
 refine ⟨_,rfl,?_⟩;clear H a;intro a H
 refine wl H (Ez.mv H rfl) rfl (kL (fun a H=>Ez.ext0 H rfl) rfl (kL (fun a H=>Ez.ext1 H rfl) rfl (kA rfl rfl (kA rfl rfl (kP [(6,_),(7,_),(8,_),(9,_),(10,_)] rfl (kW (kS (kR [_,_,_,_,_,_] (kM rfl rfl (kM rfl rfl (kL (fun a H=>Ez.addU (r:=(x*y+c) / 18446744073709551616) H rfl rfl (by (unfold U64 at hc;omega))) rfl (kM rfl rfl (kA rfl rfl (kA rfl rfl (kP [(6,_),(7,_)] rfl (kW ?_))))))))))))))));clear H a;intro a H
 refine Wr ?_
 refine rt2 H rfl rfl rfl ?_
 refine ⟨?_,rfl⟩
 rw [show (x*y % 18446744073709551616+c+0) % 18446744073709551616=(x*y+c) % 18446744073709551616 by omega]
theorem mul_step {z x c s c' P X Y r:Int} (h:z+c*P=x*Y+r) (hs:s+c'*BB=X*Y+c):z+s*P+c'*(P*BB)=(x+X*P)*Y+r:=by
 have e:(s+c'*BB)*P=(X*Y+c)*P:=by rw [hs]
 simp only [Int.add_mul] at e ⊢
 rw [Int.mul_comm P BB,<-Int.mul_assoc,show X*P*Y=X*Y*P by ac_rfl]
 omega
theorem mulAddVWWg (bz oz cz bx ox cx n mz mx:Nat) (Z X:Nat->Int) (y r:Int) (w:World) (hz:Wk w bz cz Z) (hx:Wk w bx cx X)
 (halx:bx=bz->ox=oz) (lz:oz+n<=cz) (lx:ox+n<=cx) (hn:n < 1000000000) (hy:U64 y) (hr:U64 r):
 Calls Tryz.prog 158 #[.slice (some ⟨bz,oz,none⟩) n mz,.slice (some ⟨bx,ox,none⟩) n mx,.int .u64 y,.int .u64 r] w fun e w'=>∃(c:Int) (Z':Nat->Int),e=.returned (.int .u64 c)/\Wk w' bz cz Z'/\(∀k,(k < oz\/oz+n<=k)->Z' k=Z k)/\nvo Z' oz n+c*BB ^ n=nvo X ox n*y+r/\U64 c/\Fr (Bl bz) w w':=by
 obtain ⟨w0,hw0⟩:∃w0,w0=w:=⟨w,rfl⟩
 rw [<-hw0]
 rw [<-hw0] at hz hx
 clear hw0 w
 refine Qd (vs:= [.slice (some ⟨bz,oz,none⟩) n mz,.slice (some ⟨bx,ox,none⟩) n mx,.int .u64 y,.int .u64 r]) Tryz.func158 rfl rfl ?_
 intro a H
 replace H:Hd a 36 [] [(0,.slice (some ⟨bz,oz,none⟩) n mz),(1,.slice (some ⟨bx,ox,none⟩) n mx),(2,.int .u64 y),(3,.int .u64 r)]:=H
 refine Sq (Rl [_] (wl H (Ez.asn H rfl) rfl (kW (kS (kS (kR [_,_,_,_,_] (kM rfl rfl (kL (fun a H=>Ez.len79 H rfl) rfl (kM rfl rfl (kL (fun a H=>Ez.len79 H rfl) rfl (kL (fun a H=>Ez.neq (r:=false) H rfl rfl (by simp)) rfl (kP [(0,_),(1,_),(2,_),(3,_),(8,_),(14,_)] rfl (kW ?_)))))))))))));clear H a;intro a H
 refine Cf (H.o rfl) (Wk0 (thn (Sq (Rl [_,_] (wl H (Ez.mv H rfl) rfl (kA rfl rfl (kP [(0,_),(1,_),(2,_),(8,_)] rfl (kW (kS (kS (kR [_,_,_] (kM rfl rfl (kL (fun a H=>Ez.len79 H rfl) rfl (kM rfl rfl (kP [(0,_),(1,_),(2,_),(8,_),(18,_),(19,_)] rfl (kW ?_))))))))))))))));clear H a;intro a H
 refine Wb ?_
 refine Qo (fun mm a w=>∃(i:Nat) (c:Int) (Z':Nat->Int),mm=n - i/\i<=n/\Hd a 36 [] [(0,.slice (some ⟨bz,oz,none⟩) n mz),(1,.slice (some ⟨bx,ox,none⟩) n mx),(2,.int .u64 y),(8,.int .u64 c),(18,.int .i64 n),(19,.int .i64 i)]/\Wk w bz cz Z'/\(∀k,(k < oz\/oz+i<=k)->Z' k=Z k)/\nvo Z' oz i+c*BB ^ i=nvo X ox i*y+r/\U64 c/\Fr (Bl bz) w0 w) (n) ?_ ?_
 ·exact ⟨0,r,Z,rfl,Nat.zero_le _,H,hz,fun _ _=>rfl,by simp [nvo,nv],hr,Fr.refl _ _⟩
 clear H a
 intro mm a w hI
 obtain ⟨i,c,Z',rfl,hi,H,hz',hout,hsum,hc,hF⟩:=hI
 refine Sq (Rl [_] (wl H (Ez.lss H rfl rfl (rfl)) rfl (kW (kS ?_))));clear H a;intro a H
 refine Cs (H.o rfl) (fun hb=>?_) (fun hb=>?_)
 ·have hlt:i < n:=by simpa using hb
  refine Wk0 (thn (Sq (Wb (Sq (Rl [_,_] (wl H (Ez.mv H rfl) rfl (kA rfl rfl (kP [(0,_),(1,_),(2,_),(8,_),(9,_),(18,_),(19,_)] rfl (kW ?_)))))))));clear H a;intro a H
  have hx1:=Wk.read (i:=i) hx hz hz' hF halx (fun k hk=>hout k (.inr hk)) (by omega)
  have ux:=hx.u (ox+i) (by omega)
  refine Rl [_,_,_,_,_,_,_,_,_,_,_,_,_,_,_] (wl H (Ez.mv H rfl) rfl (kM rfl rfl (kM rfl rfl (kM rfl rfl (kL (fun a H=>Ez.ix79 H rfl rfl _ rfl (by omega)) rfl (kL (fun a H=>Ez.ld103 H rfl (hx1)) rfl (kM rfl rfl (kM rfl rfl ?_))))))));clear H a;intro a H
  refine wk H cf173 (mulAddWWW (X (ox+i)) y c ux hy hc _) rfl rfl ?_
  rintro _ w1 ⟨rfl,rfl⟩
  refine ⟨_,rfl,?_⟩;clear H a;intro a H
  refine wl H (Ez.mv H rfl) rfl (kL (fun a H=>Ez.ext0 H rfl) rfl (kL (fun a H=>Ez.ext1 H rfl) rfl (kA rfl rfl (kL (fun a H=>Ez.ix79 H rfl rfl _ rfl (by omega)) rfl ?_))));clear H a;intro a H
  refine wls H (Ez.st103 H rfl rfl rfl (hz'.cell (by omega)) (hz'.fz _)) ?_;clear H;intro H
  replace H:Hd a 36 [] [(0,_),(1,_),(2,_),(8,_),(18,_),(19,_)]:=H.pick [0,1,2,8,18,19]
  refine Wn ?_
  refine bn (thn (Rl [_,_] (wl H (Ez.addI (r:=((i+1:Nat):Int)) H rfl rfl (by omega) (by omega)) rfl (kM rfl rfl (kP [(0,_),(1,_),(2,_),(8,_),(18,_),(19,_)] rfl (kW (kP [(0,_),(1,_),(2,_),(8,_),(18,_),(19,_)] rfl ?_)))))));clear H a;intro a H
  have hxy:=mul_lt64 ux hy
  unfold U64 at hc
  refine ⟨n - (i+1),by omega,i+1,_,up Z' (oz+i) _,rfl,by omega,H,hz'.set (by omega) (by unfold U64;omega),fun k hk=>(Qx (by omega)).trans (hout k (by omega)),?_,by unfold U64;omega,hF.trans (Fr.bl _)⟩
  rw [Qk,Jc _ _ _ _ _ (Nat.le_refl _),Qz,Qk,Int.pow_succ]
  exact mul_step hsum (by unfold BB;omega)
 have hge:i=n:=by have:¬i < n:=by simpa using hb
                  omega
 subst hge
 refine We (thx (thx (bxe (thn (Wr ?_)))))
 refine rt1 H rfl rfl ?_
 exact ⟨c,Z',rfl,hz',hout,hsum,hc,hF⟩
theorem mulAddVWW (bz oz cz bx ox cx n mz mx:Nat) (Z X:Nat->Int) (y r:Int) (w:World) (hz:Wk w bz cz Z) (hx:Wk w bx cx X)
 (halx:bx=bz->ox=oz) (lz:oz+n<=cz) (lx:ox+n<=cx) (hn:n < 1000000000) (hy:U64 y) (hr:U64 r):
 Calls Tryz.prog 138 #[.slice (some ⟨bz,oz,none⟩) n mz,.slice (some ⟨bx,ox,none⟩) n mx,.int .u64 y,.int .u64 r] w fun e w'=>∃(c:Int) (Z':Nat->Int),e=.returned (.int .u64 c)/\Wk w' bz cz Z'/\(∀k,(k < oz\/oz+n<=k)->Z' k=Z k)/\nvo Z' oz n+c*BB ^ n=nvo X ox n*y+r/\U64 c/\Fr (Bl bz) w w':=by
 refine Qd (vs:= [.slice (some ⟨bz,oz,none⟩) n mz,.slice (some ⟨bx,ox,none⟩) n mx,.int .u64 y,.int .u64 r]) Tryz.func138 rfl rfl ?_
 intro a H
 replace H:Hd a 14 [] [(0,.slice (some ⟨bz,oz,none⟩) n mz),(1,.slice (some ⟨bx,ox,none⟩) n mx),(2,.int .u64 y),(3,.int .u64 r)]:=H
 refine Sq (Rl [_] (wl H (Ez.asn H rfl) rfl (kW (kS (kR [_,_,_,_,_,_] (kM rfl rfl (kM rfl rfl (kM rfl rfl (kM rfl rfl ?_)))))))));clear H a;intro a H
 refine wk H cf158 (mulAddVWWg bz oz cz bx ox cx n mz mx Z X y r w hz hx halx lz lx hn hy hr) rfl rfl ?_
 rintro _ w1 ⟨c,Z',rfl,h1,h2,h3,h4,h5⟩
 refine ⟨_,rfl,?_⟩;clear H a;intro a H
 refine wl H (Ez.asn H rfl) rfl (kP [(8,_)] rfl (kW ?_));clear H a;intro a H
 refine Wr ?_
 refine rt1 H rfl rfl ?_
 exact ⟨c,Z',rfl,h1,h2,h3,h4,h5⟩
theorem Ez.ixS {a:Act} {N:Nat} {ds:List Deferred} {l:Env} {w:World} {d:Option Nat} {ty:TypeId} {pos:String} {after:Array Edge} {g:Option (Nat × Bool)} (H:Hd a N ds l) {x y:Operand} {s:ByteArray} {k:IntKind} {b:Nat} (f:Nat->Nat)
 (h:ov l x=some (.string s)) (h':ov l y=some (.int k b)) (hall:(List.range 256).all (fun n=>decide ((s.data[n]?).map UInt8.toNat=some (f n)))=true) (hb:b < 256):(execOp a.eval ⟨d,.index 9 x y,ty,pos,after,g⟩).run Tryz.prog w=.ok (.value (.int .u8 (f b))) w:=by
 have e:=H.o h
 have e':=H.o h'
 have hq:(s.data[b]?).map UInt8.toNat=some (f b):=by simpa using List.all_eq_true.1 hall b (List.mem_range.2 hb)
 have hs:b < s.data.size:=by
  rcases Nat.lt_or_ge b s.data.size with h | h
  ·exact h
  rw [Array.getElem?_eq_none h] at hq;cases hq
 have hv:(s.data[b]).toNat=f b:=by rw [Array.getElem?_eq_getElem hs] at hq;simpa using hq
 have hs':b < s.size:=hs
 have hi:(Instr.index 9 (.string s) (.int k b)).run Tryz.prog w=.ok (.int .u8 (f b)) w:=by
  rw [run_index_string w 9 s k b (by kernel_rfl)]
  have h1:(0:Int)<=(b:Int)/\(b:Int) < (s.size:Int):=by omega
  simp only [h1,if_true,Int.toNat_natCast,and_self]
  rw [<-hv]
  simp [hs',hs]
  try rfl
 simp only [execOp,e,e',Sem.run_bind,hi,Result.andThen];rfl
theorem bitLen8:∀n:Fin 256,0 < n.val->1<=Lib.bitLen n.val/\2 ^ (Lib.bitLen n.val - 1)<=n.val:=by decide+kernel
theorem bitLen8':∀n:Fin 256,n.val < 2 ^ (Lib.bitLen n.val)/\Lib.bitLen n.val<=8/\(n.val=0->Lib.bitLen n.val=0):=by decide+kernel
theorem shift_step {v x n:Nat} (S s:Nat) (hS:S=2 ^ s) (h1:v*2 ^ n<=x) (h2:x < (v+1)*2 ^ n):(v / S)*2 ^ (n+s)<=x/\x < (v / S+1)*2 ^ (n+s):=by
 subst hS
 have hp:0 < 2 ^ s:=Nat.pow_pos (by decide)
 have e1:v / 2 ^ s*2 ^ s<=v:=Nat.div_mul_le_self _ _
 have e2:v+1<=(v / 2 ^ s+1)*2 ^ s:=by
  have:=Nat.lt_div_mul_add hp (a:=v)
  rw [Nat.add_mul];omega
 rw [Nat.pow_add,Nat.mul_comm (2 ^ n),<-Nat.mul_assoc,<-Nat.mul_assoc]
 exact ⟨Nat.le_trans (Nat.mul_le_mul_right _ e1) h1,Nat.lt_of_lt_of_le h2 (Nat.mul_le_mul_right _ e2)⟩
theorem bit_low {v n L x:Nat} (hL:1<=L) (h:2 ^ (L - 1)<=v) (h1:v*2 ^ n<=x):2 ^ (n+L - 1)<=x:=by
 rw [show n+L - 1=(L - 1)+n by omega,Nat.pow_add]
 exact Nat.le_trans (Nat.mul_le_mul_right _ h) h1
theorem bit_high {v n L x:Nat} (h:v < 2 ^ L) (h2:x < (v+1)*2 ^ n):x < 2 ^ (n+L):=by
 rw [Nat.add_comm,Nat.pow_add]
 exact Nat.lt_of_lt_of_le h2 (Nat.mul_le_mul_right _ h)
theorem len64 (x:Nat) (hx:x < 18446744073709551616) (w:World):
 Calls Tryz.prog 172 #[.int .u64 x] w fun e w'=>∃L:Nat,e=.returned (.int .i64 L)/\L<=64/\(x=0->L=0)/\(0 < x->1<=L/\2 ^ (L - 1)<=x/\x < 2 ^ L)/\w=w':=by
 obtain ⟨w0,hw0⟩:∃w0,w0=w:=⟨w,rfl⟩
 rw [<-hw0]
 clear hw0 w
 refine Qd (vs:= [.int .u64 x]) Tryz.func172 rfl rfl ?_
 intro a H
 replace H:Hd a 25 [] [(0,.int .u64 x)]:=H
 refine Sq (Rl [_] (wl H (Ez.asn H rfl) rfl (kW ?_)));clear H a;intro a H
 refine Jf (fun a w=>∃(v n:Nat),Hd a 25 [] [(0,.int .u64 v),(2,.int .i64 n)]/\v < 4294967296/\(n=0\/n=32)/\(n=0\/0 < v)/\v*2 ^ n<=x/\x < (v+1)*2 ^ n/\w0=w) ?_ ?_
 ·refine Sq (Rl [_,_] (wl H (Ez.mv H rfl) rfl (kL (fun a H=>Ez.geq H rfl rfl (rfl)) rfl (kP [(0,_),(2,_),(4,_)] rfl (kW ?_)))));clear H a;intro a H
  refine Cs (H.o rfl) (fun hb=>?_) (fun hb=>?_)
  ·refine Sq (Rl [_,_,_] (wl H (Ez.mv H rfl) rfl (kL (fun a H=>Ez.shrU (r:=((x / 4294967296:Nat):Int)) H rfl rfl 32 rfl (by decide) (by omega)) rfl (kA rfl rfl (kP [(0,_),(2,_)] rfl (kW (kR [_] (kA rfl rfl (kW (kP [(0,_),(2,_)] rfl ?_))))))))));clear H a;intro a H
   simp at hb
   first | exact ⟨x / 4294967296,32,H,by omega,by omega,by omega,by omega,by omega,rfl⟩ | exact ⟨x,0,H,by omega,by omega,by omega,by omega,by omega,rfl⟩
  refine Wk0 (thn ?_)
  replace H:Hd a 25 [] [(0,_),(2,_)]:=H.pick [0,2]
  simp at hb
  first | exact ⟨x / 4294967296,32,H,by omega,by omega,by omega,by omega,by omega,rfl⟩ | exact ⟨x,0,H,by omega,by omega,by omega,by omega,by omega,rfl⟩
 clear H a
 intro a w hJ
 obtain ⟨v,n,H,hv,hn,hz,h1,h2,rfl⟩:=hJ
 refine Jf (fun a w=>∃(v n:Nat),Hd a 25 [] [(0,.int .u64 v),(2,.int .i64 n)]/\v < 65536/\(n=0\/n=16\/n=32\/n=48)/\(n=0\/0 < v)/\v*2 ^ n<=x/\x < (v+1)*2 ^ n/\w0=w) ?_ ?_
 ·refine Sq (Rl [_,_] (wl H (Ez.mv H rfl) rfl (kL (fun a H=>Ez.geq H rfl rfl (rfl)) rfl (kP [(0,_),(2,_),(8,_)] rfl (kW ?_)))));clear H a;intro a H
  refine Cs (H.o rfl) (fun hb=>?_) (fun hb=>?_)
  ·refine Sq (Rl [_,_,_] (wl H (Ez.mv H rfl) rfl (kL (fun a H=>Ez.shrU (r:=((v / 65536:Nat):Int)) H rfl rfl 16 rfl (by decide) (by omega)) rfl (kA rfl rfl (kP [(0,_),(2,_)] rfl (kW (kR [_,_,_] (kM rfl rfl (kL (fun a H=>Ez.addI (r:=((n+16:Nat):Int)) H rfl rfl (by omega) (by omega)) rfl (kA rfl rfl (kP [(0,_),(2,_)] rfl (kW (kP [(0,_),(2,_)] rfl ?_)))))))))))));clear H a;intro a H
   simp at hb
   first | (obtain ⟨k1,k2⟩:=shift_step 65536 16 (by decide) h1 h2;exact ⟨v / 65536,n+16,H,by omega,by omega,by omega,k1,k2,rfl⟩) | exact ⟨v,n,H,by omega,by omega,hz,h1,h2,rfl⟩
  refine Wk0 (thn ?_)
  replace H:Hd a 25 [] [(0,_),(2,_)]:=H.pick [0,2]
  simp at hb
  first | (obtain ⟨k1,k2⟩:=shift_step 65536 16 (by decide) h1 h2;exact ⟨v / 65536,n+16,H,by omega,by omega,by omega,k1,k2,rfl⟩) | exact ⟨v,n,H,by omega,by omega,hz,h1,h2,rfl⟩
 clear H a
 intro a w hJ
 obtain ⟨v,n,H,hv,hn,hz,h1,h2,rfl⟩:=hJ
 refine Jf (fun a w=>∃(v n:Nat),Hd a 25 [] [(0,.int .u64 v),(2,.int .i64 n)]/\v < 256/\(n=0\/n=8\/n=16\/n=24\/n=32\/n=40\/n=48\/n=56)/\(n=0\/0 < v)/\v*2 ^ n<=x/\x < (v+1)*2 ^ n/\w0=w) ?_ ?_
 ·refine Sq (Rl [_,_] (wl H (Ez.mv H rfl) rfl (kL (fun a H=>Ez.geq H rfl rfl (rfl)) rfl (kP [(0,_),(2,_),(14,_)] rfl (kW ?_)))));clear H a;intro a H
  refine Cs (H.o rfl) (fun hb=>?_) (fun hb=>?_)
  ·refine Sq (Rl [_,_,_] (wl H (Ez.mv H rfl) rfl (kL (fun a H=>Ez.shrU (r:=((v / 256:Nat):Int)) H rfl rfl 8 rfl (by decide) (by omega)) rfl (kA rfl rfl (kP [(0,_),(2,_)] rfl (kW (kR [_,_,_] (kM rfl rfl (kL (fun a H=>Ez.addI (r:=((n+8:Nat):Int)) H rfl rfl (by omega) (by omega)) rfl (kA rfl rfl (kP [(0,_),(2,_)] rfl (kW (kP [(0,_),(2,_)] rfl ?_)))))))))))));clear H a;intro a H
   simp at hb
   first | (obtain ⟨k1,k2⟩:=shift_step 256 8 (by decide) h1 h2;exact ⟨v / 256,n+8,H,by omega,by omega,by omega,k1,k2,rfl⟩) | exact ⟨v,n,H,by omega,by omega,hz,h1,h2,rfl⟩
  refine Wk0 (thn ?_)
  replace H:Hd a 25 [] [(0,_),(2,_)]:=H.pick [0,2]
  simp at hb
  first | (obtain ⟨k1,k2⟩:=shift_step 256 8 (by decide) h1 h2;exact ⟨v / 256,n+8,H,by omega,by omega,by omega,k1,k2,rfl⟩) | exact ⟨v,n,H,by omega,by omega,hz,h1,h2,rfl⟩
 clear H a
 intro a w hJ
 obtain ⟨v,n,H,hv,hn,hz,h1,h2,rfl⟩:=hJ
 refine Sq ?_
 have b2:=bitLen8' ⟨v,hv⟩
 have b1:=bitLen8 ⟨v,hv⟩
 simp only at b1 b2
 have hn56:n<=56:=by omega
 refine Rl [_,_,_,_,_,_,_] (wl H (Ez.mv H rfl) rfl (kM rfl rfl (kL (fun a H=>Ez.cv (r:=(v:Int)) H rfl ty28 ty5 (by (rw [IntKind.wrap_u8'];omega))) rfl (kL (fun a H=>Ez.ixS (b:=v) H Lib.bitLen rfl rfl (by kernel_rfl) hv) rfl (kL (fun a H=>Ez.cv (r:=(Lib.bitLen v:Int)) H rfl ty5 ty3 (by (rw [IntKind.wrap_i64];omega))) rfl (kL (fun a H=>Ez.addI (r:=((n+Lib.bitLen v:Nat):Int)) H rfl rfl (by omega) (by omega)) rfl (kA rfl rfl (kP [(2,_)] rfl (kW ?_)))))))));clear H a;intro a H
 refine Wr ?_
 refine rt1 H rfl rfl ?_
 refine ⟨n+Lib.bitLen v,rfl,by omega,fun h0=>?_,fun h0=>?_,rfl⟩
 ·subst h0
  have hv0:v=0:=by
   rcases Nat.eq_zero_or_pos v with h | h
   ·exact h
   have:0 < v*2 ^ n:=Nat.mul_pos h (Nat.pow_pos (by decide))
   omega
  rw [b2.2.2 hv0];omega
 have hv0:0 < v:=by
  rcases Nat.eq_zero_or_pos v with h | h
  ·have hn0:n=0:=by omega
   subst h;subst hn0;simp at h2;omega
  exact h
 obtain ⟨c1,c2⟩:=b1 hv0
 exact ⟨by omega,bit_low c1 c2 h1,bit_high b2.1 h2⟩
theorem bitsLen (x:Nat) (hx:x < 18446744073709551616) (w:World):
 Calls Tryz.prog 157 #[.int .u64 x] w fun e w'=>∃L:Nat,e=.returned (.int .i64 L)/\L<=64/\(x=0->L=0)/\(0 < x->1<=L/\2 ^ (L - 1)<=x/\x < 2 ^ L)/\w=w':=by
 refine Qd (vs:= [.int .u64 x]) Tryz.func157 rfl rfl ?_
 intro a H
 replace H:Hd a 8 [] [(0,.int .u64 x)]:=H
 refine Sq (Rl [_] (wl H (Ez.asn H rfl) rfl (kW (kS ?_))));clear H a;intro a H
 refine Cf (H.o rfl) (Wk0 (thn (Sq (Rl [_,_,_] (wl H (Ez.mv H rfl) rfl ?_)))));clear H a;intro a H
 refine wk H cf172 (len64 x hx w) rfl rfl ?_
 rintro _ w1 ⟨L,rfl,h1,h2,h3,rfl⟩
 refine ⟨_,rfl,?_⟩;clear H a;intro a H
 refine wl H (Ez.asn H rfl) rfl (kP [(2,_)] rfl (kW ?_));clear H a;intro a H
 refine Wr ?_
 refine rt1 H rfl rfl ?_
 exact ⟨L,rfl,h1,h2,h3,rfl⟩
def Lz (x s:Nat):Prop:=s < 64/\9223372036854775808<=x*2 ^ s/\x*2 ^ s < 18446744073709551616
theorem lz_of_len {x L:Nat} (h:L<=64) (h1:1<=L) (h2:2 ^ (L - 1)<=x) (h3:x < 2 ^ L):Lz x (64 - L):=by
 refine ⟨by omega,?_,?_⟩
 ·have:=Nat.mul_le_mul_right (2 ^ (64 - L)) h2
  rw [<-Nat.pow_add,show L - 1+(64 - L)=63 by omega] at this
  exact this
 have:=(Nat.mul_lt_mul_right (a:=2 ^ (64 - L)) (Nat.pow_pos (by decide))).2 h3
 rw [<-Nat.pow_add,show L+(64 - L)=64 by omega] at this
 exact this
theorem leadingZeros (x:Nat) (hx:x < 18446744073709551616) (hx0:0 < x) (w:World):
 Calls Tryz.prog 137 #[.int .u64 x] w fun e w'=>∃s:Nat,e=.returned (.int .i64 s)/\Lz x s/\w=w':=by
 refine Qd (vs:= [.int .u64 x]) Tryz.func137 rfl rfl ?_
 intro a H
 replace H:Hd a 6 [] [(0,.int .u64 x)]:=H
 refine Sq (Rl [_] (wl H (Ez.asn H rfl) rfl (kW (kS (kR [_,_,_,_] (kM rfl rfl ?_))))));clear H a;intro a H
 refine wk H cf157 (bitsLen x hx w) rfl rfl ?_
 rintro _ w1 ⟨L,rfl,h1,h2,h3,rfl⟩
 refine ⟨_,rfl,?_⟩;clear H a;intro a H
 obtain ⟨k1,k2,k3⟩:=h3 hx0
 refine wl H (Ez.subI (r:=((64 - L:Nat):Int)) H rfl rfl (by omega) (by omega)) rfl (kA rfl rfl (kP [(2,_)] rfl (kW ?_)));clear H a;intro a H
 refine Wr ?_
 refine rt1 H rfl rfl ?_
 exact ⟨_,rfl,lz_of_len h1 k1 k2 k3,rfl⟩
theorem leadingZeros64 (x:Nat) (hx:x < 18446744073709551616) (hx0:0 < x) (w:World):
 Calls Tryz.prog 176 #[.int .u64 x] w fun e w'=>∃s:Nat,e=.returned (.int .i64 s)/\Lz x s/\w=w':=by
 refine Qd (vs:= [.int .u64 x]) Tryz.func176 rfl rfl ?_
 intro a H
 replace H:Hd a 6 [] [(0,.int .u64 x)]:=H
 refine Sq (Rl [_] (wl H (Ez.asn H rfl) rfl (kW (kS (kR [_,_,_,_] (kM rfl rfl ?_))))));clear H a;intro a H
 refine wk H cf172 (len64 x hx w) rfl rfl ?_
 rintro _ w1 ⟨L,rfl,h1,h2,h3,rfl⟩
 refine ⟨_,rfl,?_⟩;clear H a;intro a H
 obtain ⟨k1,k2,k3⟩:=h3 hx0
 refine wl H (Ez.subI (r:=((64 - L:Nat):Int)) H rfl rfl (by omega) (by omega)) rfl (kA rfl rfl (kP [(2,_)] rfl (kW ?_)));clear H a;intro a H
 refine Wr ?_
 refine rt1 H rfl rfl ?_
 exact ⟨_,rfl,lz_of_len h1 k1 k2 k3,rfl⟩
theorem nlz (x:Nat) (hx:x < 18446744073709551616) (hx0:0 < x) (w:World):
 Calls Tryz.prog 120 #[.int .u64 x] w fun e w'=>∃s:Nat,e=.returned (.int .u64 s)/\Lz x s/\w=w':=by
 refine Qd (vs:= [.int .u64 x]) Tryz.func120 rfl rfl ?_
 intro a H
 replace H:Hd a 6 [] [(0,.int .u64 x)]:=H
 refine Sq (Rl [_] (wl H (Ez.asn H rfl) rfl (kW (kS (kR [_,_,_,_] (kM rfl rfl ?_))))));clear H a;intro a H
 refine wk H cf137 (leadingZeros x hx hx0 w) rfl rfl ?_
 rintro _ w1 ⟨s,rfl,h1,rfl⟩
 refine ⟨_,rfl,?_⟩;clear H a;intro a H
 refine wl H (Ez.cv (r:=(s:Int)) H rfl ty3 ty54 (by (rw [Wu];have:=h1.1;omega))) rfl (kA rfl rfl (kP [(2,_)] rfl (kW ?_)));clear H a;intro a H
 refine Wr ?_
 refine rt1 H rfl rfl ?_
 exact ⟨_,rfl,h1,rfl⟩
section
set_option maxRecDepth 8000
theorem Wk.blk2 {w0 w:World} {bx cx bz cz:Nat} {X Z:Nat->Int} (hx:Wk w0 bx cx X) (hF:Fr (Bl bz) w0 w) (hz:Wk w bz cz Z):w.heap[bx]?=some (.cells (if bx=bz then Array.ofFn fun j:Fin cz=>Value.int .u64 (Z j) else Array.ofFn fun j:Fin cx=>Value.int .u64 (X j)) 103 (0,0)):=by
 by_cases e:bx=bz
 ·subst e;rw [if_pos rfl];exact hz.blk
 rw [if_neg e];exact (hx.fr hF (fun _ h=>e h)).blk
theorem addmul_step {z x y c s c' P X Y m r:Int} (h:z+c*P=x+y*m+r) (hs:s+c'*BB=Y*m+X+c):z+s*P+c'*(P*BB)=x+X*P+(y+Y*P)*m+r:=by
 have e:(s+c'*BB)*P=(Y*m+X+c)*P:=by rw [hs]
 simp only [Int.add_mul] at e ⊢
 rw [Int.mul_comm P BB,<-Int.mul_assoc,show Y*P*m=Y*m*P by ac_rfl]
 omega
theorem addMulVVWWg (bz oz cz bx ox cx by_ oy cy n mz mx my:Nat) (Z X Y:Nat->Int) (m r:Int) (w:World) (hz:Wk w bz cz Z) (hx:Wk w bx cx X) (hy:Wk w by_ cy Y)
 (halx:bx=bz->ox=oz) (haly:by_=bz->oy=oz) (lz:oz+n<=cz) (lx:ox+n<=cx) (ly:oy+n<=cy) (hn:n < 1000000000) (hm:U64 m) (hr:U64 r):
 Calls Tryz.prog 179 #[.slice (some ⟨bz,oz,none⟩) n mz,.slice (some ⟨bx,ox,none⟩) n mx,.slice (some ⟨by_,oy,none⟩) n my,.int .u64 m,.int .u64 r] w fun e w'=>∃(c:Int) (Z':Nat->Int),e=.returned (.int .u64 c)/\Wk w' bz cz Z'/\(∀k,(k < oz\/oz+n<=k)->Z' k=Z k)/\nvo Z' oz n+c*BB ^ n=nvo X ox n+nvo Y oy n*m+r/\U64 c/\Fr (Bl bz) w w':=by
 obtain ⟨w0,hw0⟩:∃w0,w0=w:=⟨w,rfl⟩
 rw [<-hw0]
 rw [<-hw0] at hz hx hy
 clear hw0 w
 refine Qd (vs:= [.slice (some ⟨bz,oz,none⟩) n mz,.slice (some ⟨bx,ox,none⟩) n mx,.slice (some ⟨by_,oy,none⟩) n my,.int .u64 m,.int .u64 r]) Tryz.func179 rfl rfl ?_
 intro a H
 replace H:Hd a 63 [] [(0,.slice (some ⟨bz,oz,none⟩) n mz),(1,.slice (some ⟨bx,ox,none⟩) n mx),(2,.slice (some ⟨by_,oy,none⟩) n my),(3,.int .u64 m),(4,.int .u64 r)]:=H
 refine Sq (Rl [_] (wl H (Ez.asn H rfl) rfl (kW (kS (kS (kR [_,_,_,_,_,_,_,_,_,_,_,_] (kM rfl rfl (kL (fun a H=>Ez.len79 H rfl) rfl (kM rfl rfl (kL (fun a H=>Ez.len79 H rfl) rfl (kL (fun a H=>Ez.neq (r:=false) H rfl rfl (by simp)) rfl (kM rfl rfl (kG (fun a H=>Ez.mv H rfl) rfl rfl rfl rfl rfl (kG (fun a H=>Ez.len79 H rfl) rfl rfl rfl rfl rfl (kG (fun a H=>Ez.mv H rfl) rfl rfl rfl rfl rfl (kG (fun a H=>Ez.len79 H rfl) rfl rfl rfl rfl rfl (kG (fun a H=>Ez.neq (r:=false) H rfl rfl (by simp)) rfl rfl rfl rfl rfl (kL (fun a H=>Ez.pkF H rfl rfl) rfl (kP [(0,_),(1,_),(2,_),(3,_),(4,_),(10,_),(27,_)] rfl (kW ?_))))))))))))))))))));clear H a;intro a H
 refine Cf (H.o rfl) (Wk0 (thn (Sq (Rl [_,_] (wl H (Ez.mv H rfl) rfl (kA rfl rfl (kP [(0,_),(1,_),(2,_),(3,_),(10,_)] rfl (kW (kS (kS (kR [_,_,_] (kM rfl rfl (kL (fun a H=>Ez.len79 H rfl) rfl (kM rfl rfl (kP [(0,_),(1,_),(2,_),(3,_),(10,_),(31,_),(32,_)] rfl (kW ?_))))))))))))))));clear H a;intro a H
 refine Wb ?_
 refine Qo (fun mm a w=>∃(i:Nat) (c:Int) (Z':Nat->Int),mm=n - i/\i<=n/\Hd a 63 [] [(0,.slice (some ⟨bz,oz,none⟩) n mz),(1,.slice (some ⟨bx,ox,none⟩) n mx),(2,.slice (some ⟨by_,oy,none⟩) n my),(3,.int .u64 m),(10,.int .u64 c),(31,.int .i64 n),(32,.int .i64 i)]/\Wk w bz cz Z'/\(∀k,(k < oz\/oz+i<=k)->Z' k=Z k)/\nvo Z' oz i+c*BB ^ i=nvo X ox i+nvo Y oy i*m+r/\U64 c/\Fr (Bl bz) w0 w) (n) ?_ ?_
 ·replace H:Hd a 63 [] [(0,_),(1,_),(2,_),(3,_),(10,_),(31,_),(32,_)]:=H.pick [0,1,2,3,10,31,32]
  exact ⟨0,r,Z,rfl,Nat.zero_le _,H,hz,fun _ _=>rfl,by simp [nvo,nv],hr,Fr.refl _ _⟩
 clear H a
 intro mm a w hI
 obtain ⟨i,c,Z',rfl,hi,H,hz',hout,hsum,hc,hF⟩:=hI
 refine Sq (Rl [_] (wl H (Ez.lss H rfl rfl (rfl)) rfl (kW (kS ?_))));clear H a;intro a H
 refine Cs (H.o rfl) (fun hb=>?_) (fun hb=>?_)
 ·have hlt:i < n:=by simpa using hb
  refine Wk0 (thn (Sq (Wb (Sq (Rl [_,_] (wl H (Ez.mv H rfl) rfl (kA rfl rfl (kP [(0,_),(1,_),(2,_),(3,_),(10,_),(11,_),(31,_),(32,_)] rfl (kW (kS ?_))))))))));clear H a;intro a H
  have hx1:=Wk.read (i:=i) hx hz hz' hF halx (fun k hk=>hout k (.inr hk)) (by omega)
  have hy1:=Wk.read (i:=i) hy hz hz' hF haly (fun k hk=>hout k (.inr hk)) (by omega)
  have ux:=hx.u (ox+i) (by omega)
  have uy:=hy.u (oy+i) (by omega)
  have hxy:=mul_lt64 uy hm
  refine Qr (ls:= [_,_,_,_,_,_,_,_,_,_,_,_,_,_,_]) Qb (by kernel_rfl) (wq H (fun w2 hw2=>Ez.mv H rfl) rfl (jM rfl rfl (jL (fun a H w2 hw2=>Ez.ix79 H rfl rfl _ rfl (by omega)) rfl (jL (fun a H w2 hw2=>Ez.ld103 H rfl (hw2.cell hy1)) rfl (jM rfl rfl (jM rfl rfl (jM rfl rfl (jL (fun a H w2 hw2=>Ez.ix79 H rfl rfl _ rfl (by omega)) rfl (jL (fun a H w2 hw2=>Ez.ld103 H rfl (hw2.cell hx1)) rfl ?_)))))))));clear H a;intro a H
  refine wkq H cf173 (quietOf (mulAddWWW (Y (oy+i)) m (X (ox+i)) uy hm ux)) rfl rfl ?_;clear H a;intro a H
  refine wq H (fun w2 hw2=>Ez.mv H rfl) rfl (jL (fun a H w2 hw2=>Ez.ext0 H rfl) rfl (jL (fun a H w2 hw2=>Ez.ext1 H rfl) rfl (jA rfl rfl (jA rfl rfl ?_))));clear H a;intro a H
  refine wqe ?_
  intro w1 hw
  have hz1:=hz'.heq hw.heap
  have hF1:=hF.trans (hw.fr _)
  clear hw
  unfold U64 at ux uy hc
  refine kP [(0,_),(1,_),(2,_),(3,_),(10,_),(11,_),(12,_),(13,_),(31,_),(32,_)] rfl (kS (kR [_,_,_,_,_,_,_,_] (kM rfl rfl (kM rfl rfl ?_)))) a H;clear H a;intro a H
  refine wk H cf124 (bitsAdd ((Y (oy+i)*m+X (ox+i)) % 18446744073709551616) c 0 (by unfold U64;omega) hc (by decide) _) rfl rfl ?_
  rintro _ w1 ⟨rfl,rfl⟩
  refine ⟨_,rfl,?_⟩;clear H a;intro a H
  refine wl H (Ez.mv H rfl) rfl (kL (fun a H=>Ez.ext0 H rfl) rfl (kL (fun a H=>Ez.ext1 H rfl) rfl (kA rfl rfl (kA rfl rfl (kP [(0,_),(1,_),(2,_),(3,_),(10,_),(11,_),(12,_),(14,_),(15,_),(31,_),(32,_)] rfl (kW (kS (kR [_,_,_,_,_,_,_] (kM rfl rfl (kM rfl rfl (kM rfl rfl (kM rfl rfl (kA rfl rfl (kL (fun a H=>Ez.ix79 H rfl rfl _ rfl (by omega)) rfl ?_))))))))))))));clear H a;intro a H
  refine wls H (Ez.st103 H rfl rfl rfl (hz1.cell (by omega)) (hz1.fz _)) ?_;clear H;intro H
  refine kP [(0,_),(1,_),(2,_),(3,_),(10,_),(12,_),(31,_),(32,_)] rfl (kW (kR [_,_,_,_] (kM rfl rfl (kM rfl rfl (kL (fun a H=>Ez.addU (r:=(Y (oy+i)*m+X (ox+i)+c) / 18446744073709551616) H rfl rfl (by omega)) rfl (kA rfl rfl (kP [(0,_),(1,_),(2,_),(3,_),(10,_),(31,_),(32,_)] rfl ?_))))))) a H;clear H a;intro a H
  refine Wn ?_
  refine bn (thn (Rl [_,_] (wl H (Ez.addI (r:=((i+1:Nat):Int)) H rfl rfl (by omega) (by omega)) rfl (kM rfl rfl (kP [(0,_),(1,_),(2,_),(3,_),(10,_),(31,_),(32,_)] rfl (kW (kP [(0,_),(1,_),(2,_),(3,_),(10,_),(31,_),(32,_)] rfl ?_)))))));clear H a;intro a H
  refine ⟨n - (i+1),by omega,i+1,_,up Z' (oz+i) _,rfl,by omega,H,hz1.set (by omega) (by unfold U64;omega),fun k hk=>(Qx (by omega)).trans (hout k (by omega)),?_,by unfold U64;omega,hF1.trans (Fr.bl _)⟩
  rw [Qk,Jc _ _ _ _ _ (Nat.le_refl _),Qz,Qk,Qk,Int.pow_succ]
  exact addmul_step hsum (by unfold BB;omega)
 have hge:i=n:=by have:¬i < n:=by simpa using hb
                  omega
 subst hge
 refine We (thx (thx (bxe (thn (Wr ?_)))))
 refine rt1 H rfl rfl ?_
 exact ⟨c,Z',rfl,hz',hout,hsum,hc,hF⟩
theorem addMulVVWW (bz oz cz bx ox cx by_ oy cy n mz mx my:Nat) (Z X Y:Nat->Int) (m r:Int) (w:World) (hz:Wk w bz cz Z) (hx:Wk w bx cx X) (hy:Wk w by_ cy Y)
 (halx:bx=bz->ox=oz) (haly:by_=bz->oy=oz) (lz:oz+n<=cz) (lx:ox+n<=cx) (ly:oy+n<=cy) (hn:n < 1000000000) (hm:U64 m) (hr:U64 r):
 Calls Tryz.prog 174 #[.slice (some ⟨bz,oz,none⟩) n mz,.slice (some ⟨bx,ox,none⟩) n mx,.slice (some ⟨by_,oy,none⟩) n my,.int .u64 m,.int .u64 r] w fun e w'=>∃(c:Int) (Z':Nat->Int),e=.returned (.int .u64 c)/\Wk w' bz cz Z'/\(∀k,(k < oz\/oz+n<=k)->Z' k=Z k)/\nvo Z' oz n+c*BB ^ n=nvo X ox n+nvo Y oy n*m+r/\U64 c/\Fr (Bl bz) w w':=by
 refine Qd (vs:= [.slice (some ⟨bz,oz,none⟩) n mz,.slice (some ⟨bx,ox,none⟩) n mx,.slice (some ⟨by_,oy,none⟩) n my,.int .u64 m,.int .u64 r]) Tryz.func174 rfl rfl ?_
 intro a H
 replace H:Hd a 17 [] [(0,.slice (some ⟨bz,oz,none⟩) n mz),(1,.slice (some ⟨bx,ox,none⟩) n mx),(2,.slice (some ⟨by_,oy,none⟩) n my),(3,.int .u64 m),(4,.int .u64 r)]:=H
 refine Sq (Rl [_] (wl H (Ez.asn H rfl) rfl (kW (kS (kR [_,_,_,_,_,_,_] (kM rfl rfl (kM rfl rfl (kM rfl rfl (kM rfl rfl (kM rfl rfl ?_))))))))));clear H a;intro a H
 refine wk H cf179 (addMulVVWWg bz oz cz bx ox cx by_ oy cy n mz mx my Z X Y m r w hz hx hy halx haly lz lx ly hn hm hr) rfl rfl ?_
 rintro _ w1 ⟨c,Z',rfl,h1,h2,h3,h4,h5⟩
 refine ⟨_,rfl,?_⟩;clear H a;intro a H
 refine wl H (Ez.asn H rfl) rfl (kP [(10,_)] rfl (kW ?_));clear H a;intro a H
 refine Wr ?_
 refine rt1 H rfl rfl ?_
 exact ⟨c,Z',rfl,h1,h2,h3,h4,h5⟩
theorem ptrFacts:Tryz.prog.underlying 118=some (.pointer 103):=by kernel_rfl
theorem info103:∃i,Tryz.prog.info? 103=some i/\i.size≠0:=by
 have h:(Tryz.prog.info? 103).map (·.size)=some 1:=by kernel_rfl
 cases hi:Tryz.prog.info? 103 with
 | none=>rw [hi] at h;cases h
 | some i=>rw [hi] at h;exact ⟨i,rfl,by simp only [Option.map_some,Option.some.injEq] at h;omega⟩
theorem Kb {Z' X:Nat->Int} {oz ox i n:Nat} (hi:i < n) (hr:∀k,i < k->k < n->Z' (oz+k)=X (ox+k)):nvo Z' oz n=nvo Z' oz i+Z' (oz+i)*BB ^ i+(nvo X ox n - nvo X ox (i+1)):=by
 obtain ⟨m,rfl⟩:∃m,n=i+1+m:=⟨n - (i+1),by omega⟩
 have e:nvo Z' (oz+(i+1)) m=nvo X (ox+(i+1)) m:=Q4 fun j hj=>by
  have:=hr (i+1+j) (by omega) (by omega)
  rw [show oz+(i+1)+j=oz+(i+1+j) by omega,show ox+(i+1)+j=ox+(i+1+j) by omega];exact this
 rw [Jd,Jd X,Qk,e]
 omega
theorem rest_of {w0:World} {bx cx bz cz oz ox i n:Nat} {X Z Z':Nat->Int} (hx:Wk w0 bx cx X) (hz:Wk w0 bz cz Z) (halx:bx=bz->ox=oz) (lx:ox+n<=cx)
 (hout:∀k,oz+i < k->Z' k=Z k) (he:bx=bz):∀k,i < k->k < n->Z' (oz+k)=X (ox+k):=by
 intro k h1 h2
 have eo:=halx he
 subst he;subst eo
 obtain ⟨ec,eX⟩:=hx.inj hz
 subst ec
 rw [hout _ (by omega),eX _ (by omega)]
theorem addVW (bz oz cz bx ox cx n mz mx:Nat) (Z X:Nat->Int) (y:Int) (w:World) (hz:Wk w bz cz Z) (hx:Wk w bx cx X) (hy:U64 y)
 (halx:bx=bz->ox=oz) (lz:oz+n<=cz) (lx:ox+n<=cx) (hn:n < 1000000000) (hn1:1<=n) (hmz:n<=mz) (hmx:n<=mx):
 Calls Tryz.prog 110 #[.slice (some ⟨bz,oz,none⟩) n mz,.slice (some ⟨bx,ox,none⟩) n mx,.int .u64 y] w fun e w'=>∃(c:Int) (Z':Nat->Int),e=.returned (.int .u64 c)/\Wk w' bz cz Z'/\(∀k,(k < oz\/oz+n<=k)->Z' k=Z k)/\nvo Z' oz n+c*BB ^ n=nvo X ox n+y/\(0<=c/\c<=1)/\Fr (Bl bz) w w':=by
 obtain ⟨w0,hw0⟩:∃w0,w0=w:=⟨w,rfl⟩
 rw [<-hw0]
 rw [<-hw0] at hz hx
 clear hw0 w
 have ux:=hx.u ox (by omega)
 have hx0:=hx.cell (j:=ox) (by omega)
 refine Qd (vs:= [.slice (some ⟨bz,oz,none⟩) n mz,.slice (some ⟨bx,ox,none⟩) n mx,.int .u64 y]) Tryz.func110 rfl rfl ?_
 intro a H
 replace H:Hd a 78 [] [(0,.slice (some ⟨bz,oz,none⟩) n mz),(1,.slice (some ⟨bx,ox,none⟩) n mx),(2,.int .u64 y)]:=H
 refine Sq (Rl [_] (wl H (Ez.asn H rfl) rfl (kW (kS (kS (kR [_,_,_,_,_] (kM rfl rfl (kL (fun a H=>Ez.len79 H rfl) rfl (kM rfl rfl (kL (fun a H=>Ez.len79 H rfl) rfl (kL (fun a H=>Ez.neq (r:=false) H rfl rfl (by simp)) rfl (kP [(0,_),(1,_),(2,_),(6,_),(15,_)] rfl (kW ?_)))))))))))));clear H a;intro a H
 refine Cf (H.o rfl) (Wk0 (thn (Sq (Sq (Rl [_,_,_] (wl H (Ez.mv H rfl) rfl (kL (fun a H=>Ez.len79 H rfl) rfl (kL (fun a H=>Ez.eql (r:=false) H rfl rfl (by (simp;omega))) rfl (kP [(0,_),(1,_),(2,_),(6,_),(19,_)] rfl (kW ?_))))))))));clear H a;intro a H
 refine Cf (H.o rfl) (Wk0 (thn (Sq (Rl [_,_,_,_,_,_,_,_,_,_] (wl H (Ez.mv H rfl) rfl (kL (fun a H=>Ez.ix79 H rfl rfl 0 rfl (by omega)) rfl (kL (fun a H=>Ez.ld103 H rfl (hx0)) rfl (kM rfl rfl ?_))))))));clear H a;intro a H
 refine wk H cf124 (bitsAdd (X ox) y 0 ux hy (by decide) w0) rfl rfl ?_
 rintro _ w1 ⟨rfl,rfl⟩
 refine ⟨_,rfl,?_⟩;clear H a;intro a H
 refine wl H (Ez.mv H rfl) rfl (kL (fun a H=>Ez.ext0 H rfl) rfl (kL (fun a H=>Ez.ext1 H rfl) rfl (kA rfl rfl (kA rfl rfl (kP [(0,_),(1,_),(6,_),(7,_),(8,_)] rfl (kW (kS (kR [_,_,_,_] (kM rfl rfl (kM rfl rfl (kL (fun a H=>Ez.ix79 H rfl rfl 0 rfl (by omega)) rfl ?_)))))))))));clear H a;intro a H
 refine wls H (Ez.st103 H rfl rfl rfl (hz.cell (by omega)) (hz.fz _)) ?_;clear H;intro H
 refine kP [(0,_),(1,_),(6,_),(8,_)] rfl (kW ?_) a H;clear H a;intro a H
 have hz1:=hz.set (j:=oz) (by omega) (v:=(X ox+y+0) % 18446744073709551616) (by unfold U64;omega)
 have hF1:Fr (Bl bz) w0 (w0.setCell ⟨bz,oz,none⟩ (.int .u64 ((X ox+y+0) % 18446744073709551616))):=Fr.bl _
 generalize w0.setCell ⟨bz,oz,none⟩ (.int .u64 ((X ox+y+0) % 18446744073709551616))=w1 at hz1 hF1 ⊢
 have ho1:∀k,k≠oz->up Z oz ((X ox+y+0) % 18446744073709551616) k=Z k:=fun k hk=>Qx hk
 have hv1:=Qz Z oz ((X ox+y+0) % 18446744073709551616)
 generalize up Z oz ((X ox+y+0) % 18446744073709551616)=Z1 at hz1 ho1 hv1
 unfold U64 at ux hy
 refine Sq (Sq (Rl [_,_] (wl H (Ez.mv H rfl) rfl (kL (fun a H=>Ez.eql H rfl rfl (rfl)) rfl (kP [(0,_),(1,_),(6,_),(33,_)] rfl (kW ?_))))));clear H a;intro a H
 refine Cs (H.o rfl) (fun hb=>?_) (fun hb=>?_)
 ·have hcc:X ox+y < 18446744073709551616:=by simp at hb;omega
  refine Sq (Sq ?_)
  obtain ⟨i103,hi103,hs103⟩:=info103
  refine Qr (ls:= [_,_,_,_,_]) Qb (by kernel_rfl) (wq H (fun w2 hw2=>Ez.mv H rfl) rfl (jL (fun a H w2 hw2=>Ez.ix79 H rfl rfl 0 rfl (by omega)) rfl (jM rfl rfl (jL (fun a H w2 hw2=>Ez.ix79 H rfl rfl 0 rfl (by omega)) rfl (jL (fun a H w2 hw2=>Ez.neqP H rfl rfl ptrFacts hi103 hs103 (by rw [hw2.heap];exact hz1.blk) (by rw [hw2.heap];exact (hx.blk2 hF1 hz1)) rfl) rfl ?_)))));clear H a;intro a H
  refine wqe ?_
  intro w1 hw
  have hz2:=hz1.heq hw.heap
  have hF2:=hF1.trans (hw.fr _)
  clear hw
  replace H:Hd a 78 [] [(0,_),(1,_),(6,_),(38,_)]:=H.pick [0,1,6,38]
  refine Cs (H.o rfl) (fun hq=>?_) (fun hq=>?_)
  ·have hne:bx≠bz:=by intro e;have:=halx e;subst e;subst this;simp at hq
   refine Jw [_,_,_,_] [_] Qb (by kernel_rfl) ?_
   intro w1 hw
   have hz3:=hz2.heq hw.heap
   have hF3:=hF2.trans (hw.fr _)
   clear hw
   have hx3:=hx.fr hF3 (fun _ h=>hne h)
   refine wst H (Ez.mv H rfl) rfl (iL (fun a H=>Ez.slL79 H rfl rfl 1 rfl (by omega) (by omega) _ _ _ rfl rfl rfl) rfl (iL (fun a H=>Ez.mv H rfl) rfl (iL (fun a H=>Ez.slL79 H rfl rfl 1 rfl (by omega) (by omega) _ _ _ rfl rfl rfl) rfl ?_)));clear H a;intro a H
   refine wste ?_
   obtain ⟨w4,e4,hz4,hF4⟩:=Ez.copyW (x:=.tmp 40) (y:=.tmp 42) (T:=79) (T':=79) (d:=some 43) (ty:=3) (pos:=_) (after:=_) (g:=none) H rfl rfl (.inl rfl) hz3 hx3 (n - 1) (by simp) (by split <;> omega) (by split <;> omega)
   refine wl H (e4) rfl ?_;clear e4 H a;intro a H
   refine kP [(0,_),(1,_),(6,_)] rfl (kW (kS (kR [_] (kA rfl rfl (kW ?_))))) a H;clear H a;intro a H
   refine Wr (thr ?_)
   refine rt1 H rfl rfl ?_
   refine ⟨0,_,rfl,hz4,fun k hk=>?_,?_,by decide,hF3.trans hF4⟩
   ·rw [cp_out (by split <;> omega),ho1 k (by omega)]
   rw [Kb (X:=X) (ox:=ox) (i:=0) (n:=n) (by omega) (fun k h1 h2=>?_),cp_out (by split <;> omega),(show Z1 (oz+0)=_ from hv1)]
   ·simp [nvo,nv];omega
   have e1:(if 1 < mz then oz+1 else oz)=oz+1:=if_pos (by omega)
   have e2:(if 1 < mx then ox+1 else ox)=ox+1:=if_pos (by omega)
   rw [e1,e2,show oz+k=oz+1+(k - 1) by omega,cp_in (by omega),show ox+1+(k - 1)=ox+k by omega]
  have heq:bx=bz:=by simp at hq;exact hq.1.symm
  refine Wk0 (thn (Sq (Rl [_] (wl H (Ez.asn H rfl) rfl (kP [(0,_),(1,_),(6,_)] rfl (kW ?_))))));clear H a;intro a H
  refine Wr (thr ?_)
  refine rt1 H rfl rfl ?_
  refine ⟨0,_,rfl,hz2,fun k hk=>ho1 k (by omega),?_,by decide,hF2⟩
  rw [Kb (X:=X) (ox:=ox) (i:=0) (n:=n) (by omega) (rest_of (i:=0) hx hz halx lx (fun k hk=>ho1 k (by omega)) heq),Nat.add_zero,hv1]
  simp [nvo,nv];omega
 have hcc:18446744073709551616<=X ox+y:=by simp at hb;omega
 refine Wk0 (thn (Sq (Sq (Rl [_] (wl H (Ez.asn H rfl) rfl (kP [(0,_),(1,_),(6,_),(9,_)] rfl (kW ?_)))))));clear H a;intro a H
 refine Wb ?_
 refine Qo (fun mm a w=>∃(i:Nat) (Z':Nat->Int),mm=n - i/\1<=i/\i<=n/\Hd a 78 [] [(0,.slice (some ⟨bz,oz,none⟩) n mz),(1,.slice (some ⟨bx,ox,none⟩) n mx),(9,.int .i64 i)]/\Wk w bz cz Z'/\(∀k,(k < oz\/oz+i<=k)->Z' k=Z k)/\nvo Z' oz i+BB ^ i=nvo X ox i+y/\Fr (Bl bz) w0 w) (n - 1) ?_ ?_
 ·replace H:Hd a 78 [] [(0,_),(1,_),(9,_)]:=H.pick [0,1,9]
  exact ⟨1,Z1,rfl,by omega,by omega,H,hz1,fun k hk=>ho1 k (by omega),by simp [nvo,nv,hv1];unfold BB;omega,hF1⟩
 clear H a
 intro mm a w hI
 clear hz1 hF1 ho1 hv1
 obtain ⟨i,Z',rfl,h1i,hi,H,hz1,hout,hsum,hF1⟩:=hI
 refine Sq (Sq (Rl [_,_,_,_] (wl H (Ez.mv H rfl) rfl (kM rfl rfl (kL (fun a H=>Ez.len79 H rfl) rfl (kL (fun a H=>Ez.lss H rfl rfl (rfl)) rfl (kP [(0,_),(1,_),(9,_),(47,_)] rfl (kW ?_))))))));clear H a;intro a H
 refine Cs (H.o rfl) (fun hb2=>?_) (fun hb2=>?_)
 ·have hlt:i < n:=by simpa using hb2
  refine Wk0 (thn (Sq (Wb (Sq ?_))))
  have hx1:=Wk.read (i:=i) hx hz hz1 hF1 halx (fun k hk=>hout k (.inr hk)) (by omega)
  have uxi:=hx.u (ox+i) (by omega)
  unfold U64 at uxi
  refine Rl [_,_,_,_,_] (wl H (Ez.mv H rfl) rfl (kM rfl rfl (kL (fun a H=>Ez.ix79 H rfl rfl _ rfl (by omega)) rfl (kL (fun a H=>Ez.ld103 H rfl (hx1)) rfl (kA rfl rfl (kP [(0,_),(1,_),(9,_),(10,_)] rfl (kW (kS (kS (kR [_,_] (kM rfl rfl (kL (fun a H=>Ez.neq H rfl rfl (rfl)) rfl (kP [(0,_),(1,_),(9,_),(10,_),(55,_)] rfl (kW ?_))))))))))))));clear H a;intro a H
  refine Cs (H.o rfl) (fun hb3=>?_) (fun hb3=>?_)
  ·have hmx:X (ox+i)≠18446744073709551615:=by simpa using hb3
   refine Sq (Rl [_,_,_,_,_,_] (wl H (Ez.mv H rfl) rfl (kM rfl rfl (kM rfl rfl (kL (fun a H=>Ez.addU (r:=X (ox+i)+1) H rfl rfl (by omega)) rfl (kL (fun a H=>Ez.ix79 H rfl rfl _ rfl (by omega)) rfl ?_))))));clear H a;intro a H
   refine wls H (Ez.st103 H rfl rfl rfl (hz1.cell (by omega)) (hz1.fz _)) ?_;clear H;intro H
   refine kP [(0,_),(1,_),(9,_)] rfl (kW ?_) a H;clear H a;intro a H
   have hz5:=hz1.set (j:=oz+i) (by omega) (v:=X (ox+i)+1) (by unfold U64;omega)
   have hF5:=hF1.trans (Fr.bl (b:=bz) (j:=oz+i) (.int .u64 (X (ox+i)+1)))
   have ho5:∀k,k≠oz+i->up Z' (oz+i) (X (ox+i)+1) k=Z' k:=fun k hk=>Qx hk
   have hv5:=Qz Z' (oz+i) (X (ox+i)+1)
   have hn5:=Jc Z' oz i (oz+i) (X (ox+i)+1) (Nat.le_refl _)
   generalize up Z' (oz+i) (X (ox+i)+1)=Z5 at hz5 ho5 hv5 hn5
   generalize World.setCell _ ⟨bz,oz+i,none⟩ (.int .u64 (X (ox+i)+1))=w5 at hz5 hF5 ⊢
   obtain ⟨i103,hi103,hs103⟩:=info103
   refine Sq (Sq (Qr (ls:= [_,_,_,_,_]) Qb (by kernel_rfl) (wq H (fun w2 hw2=>Ez.mv H rfl) rfl (jL (fun a H w2 hw2=>Ez.ix79 H rfl rfl 0 rfl (by omega)) rfl (jM rfl rfl (jL (fun a H w2 hw2=>Ez.ix79 H rfl rfl 0 rfl (by omega)) rfl (jL (fun a H w2 hw2=>Ez.neqP H rfl rfl ptrFacts hi103 hs103 (by rw [hw2.heap];exact hz5.blk) (by rw [hw2.heap];exact (hx.blk2 hF5 hz5)) rfl) rfl ?_)))))));clear H a;intro a H
   refine wqe ?_
   intro w1 hw
   have hz6:=hz5.heq hw.heap
   have hF6:=hF5.trans (hw.fr _)
   clear hw
   replace H:Hd a 78 [] [(0,_),(1,_),(9,_),(65,_)]:=H.pick [0,1,9,65]
   refine Cs (H.o rfl) (fun hq=>?_) (fun hq=>?_)
   ·have hne:bx≠bz:=by intro e;have:=halx e;subst e;subst this;simp at hq
    refine Jw [_,_,_,_,_,_,_,_] [_] Qb (by kernel_rfl) ?_
    intro w1 hw
    have hz7:=hz6.heq hw.heap
    have hF7:=hF6.trans (hw.fr _)
    clear hw
    have hx7:=hx.fr hF7 (fun _ h=>hne h)
    refine wst H (Ez.mv H rfl) rfl (iL (fun a H=>Ez.mv H rfl) rfl (iL (fun a H=>Ez.addI (r:=((i+1:Nat):Int)) H rfl rfl (by omega) (by omega)) rfl (iL (fun a H=>Ez.slL79 H rfl rfl (i+1) rfl (by omega) (by omega) _ _ _ rfl rfl rfl) rfl (iL (fun a H=>Ez.mv H rfl) rfl (iL (fun a H=>Ez.mv H rfl) rfl (iL (fun a H=>Ez.addI (r:=((i+1:Nat):Int)) H rfl rfl (by omega) (by omega)) rfl (iL (fun a H=>Ez.slL79 H rfl rfl (i+1) rfl (by omega) (by omega) _ _ _ rfl rfl rfl) rfl ?_)))))));clear H a;intro a H
    refine wste ?_
    obtain ⟨w8,e8,hz8,hF8⟩:=Ez.copyW (x:=.tmp 69) (y:=.tmp 73) (T:=79) (T':=79) (d:=some 74) (ty:=3) (pos:=_) (after:=_) (g:=none) H rfl rfl (.inl rfl) hz7 hx7 (n - (i+1)) (by simp) (by split <;> omega) (by split <;> omega)
    refine wl H (e8) rfl ?_;clear e8 H a;intro a H
    refine kP [(0,_),(1,_),(9,_)] rfl (kW (kS (kR [_] (kA rfl rfl (kW ?_))))) a H;clear H a;intro a H
    refine Wr (thr (bret (thr (thr (bret (thr ?_))))))
    refine rt1 H rfl rfl ?_
    refine ⟨0,_,rfl,hz8,fun k hk=>?_,?_,by decide,hF7.trans hF8⟩
    ·rw [cp_out (by split <;> omega),ho5 k (by omega),hout k (by omega)]
    have hc:∀k,k < i+1->cp Z5 (if i+1 < mz then oz+(i+1) else oz) X (if i+1 < mx then ox+(i+1) else ox) (n - (i+1)) (oz+k)=Z5 (oz+k):=fun k hk=>cp_out (by split <;> omega)
    rw [Kb (X:=X) (ox:=ox) (i:=i) (n:=n) (by omega) (fun k h1 h2=>?_),hc i (by omega),hv5,Q4 (Y:=Z5) (o':=oz) (fun j hj=>hc j (by omega)),hn5,Qk X]
    ·rw [Int.add_mul,Int.one_mul];omega
    have e1:(if i+1 < mz then oz+(i+1) else oz)=oz+(i+1):=if_pos (by omega)
    have e2:(if i+1 < mx then ox+(i+1) else ox)=ox+(i+1):=if_pos (by omega)
    rw [e1,e2,show oz+k=oz+(i+1)+(k - (i+1)) by omega,cp_in (by omega),show ox+(i+1)+(k - (i+1))=ox+k by omega]
   have heq:bx=bz:=by simp at hq;exact hq.1.symm
   refine Wk0 (thn (Sq (Rl [_] (wl H (Ez.asn H rfl) rfl (kP [(0,_),(1,_),(6,_),(9,_)] rfl (kW ?_))))));clear H a;intro a H
   refine Wr (thr (bret (thr (thr (bret (thr ?_))))))
   refine rt1 H rfl rfl ?_
   refine ⟨0,_,rfl,hz6,fun k hk=>(ho5 k (by omega)).trans (hout k (by omega)),?_,by decide,hF6⟩
   rw [Kb (X:=X) (ox:=ox) (i:=i) (n:=n) (by omega) (rest_of (i:=i) hx hz halx lx (fun k hk=>(ho5 k (by omega)).trans (hout k (by omega))) heq),hv5,hn5,Qk X]
   rw [Int.add_mul,Int.one_mul];omega
  have hmax:X (ox+i)=18446744073709551615:=by simpa using hb3
  refine Wk0 (thn (Rl [_,_,_,_] (wl H (Ez.mv H rfl) rfl (kM rfl rfl (kL (fun a H=>Ez.ix79 H rfl rfl _ rfl (by omega)) rfl ?_)))));clear H a;intro a H
  refine wls H (Ez.st103 H rfl rfl rfl (hz1.cell (by omega)) (hz1.fz _)) ?_;clear H;intro H
  replace H:Hd a 78 [] [(0,_),(1,_),(9,_)]:=H.pick [0,1,9]
  refine Wn ?_
  refine bn (thn (Rl [_,_,_] (wl H (Ez.mv H rfl) rfl (kL (fun a H=>Ez.addI (r:=((i+1:Nat):Int)) H rfl rfl (by omega) (by omega)) rfl (kA rfl rfl (kP [(0,_),(1,_),(9,_)] rfl (kW (kP [(0,_),(1,_),(9,_)] rfl ?_))))))));clear H a;intro a H
  refine ⟨n - (i+1),by omega,i+1,_,rfl,by omega,by omega,H,hz1.set (j:=oz+i) (by omega) (by unfold U64;omega),fun k hk=>(Qx (by omega)).trans (hout k (by omega)),?_,hF1.trans (Fr.bl _)⟩
  rw [Qk,Jc _ _ _ _ _ (Nat.le_refl _),Qz,Qk,Int.pow_succ,hmax]
  have:BB ^ i*BB=18446744073709551615*BB ^ i+BB ^ i:=by unfold BB;omega
  omega
 have hge:i=n:=by have:¬i < n:=by simpa using hb2
                  omega
 subst hge
 refine We (thx (thx (bxe (thn (Sq (Rl [_] (wl H (Ez.asn H rfl) rfl (kP [(6,_)] rfl (kW ?_)))))))));clear H a;intro a H
 refine Wr ?_
 refine rt1 H rfl rfl ?_
 exact ⟨1,Z',rfl,hz1,hout,by rw [Int.one_mul];exact hsum,by decide,hF1⟩
theorem subVW (bz oz cz bx ox cx n mz mx:Nat) (Z X:Nat->Int) (y:Int) (w:World) (hz:Wk w bz cz Z) (hx:Wk w bx cx X) (hy:U64 y)
 (halx:bx=bz->ox=oz) (lz:oz+n<=cz) (lx:ox+n<=cx) (hn:n < 1000000000) (hn1:1<=n) (hmz:n<=mz) (hmx:n<=mx):
 Calls Tryz.prog 112 #[.slice (some ⟨bz,oz,none⟩) n mz,.slice (some ⟨bx,ox,none⟩) n mx,.int .u64 y] w fun e w'=>∃(c:Int) (Z':Nat->Int),e=.returned (.int .u64 c)/\Wk w' bz cz Z'/\(∀k,(k < oz\/oz+n<=k)->Z' k=Z k)/\nvo Z' oz n - c*BB ^ n=nvo X ox n - y/\(0<=c/\c<=1)/\Fr (Bl bz) w w':=by
 obtain ⟨w0,hw0⟩:∃w0,w0=w:=⟨w,rfl⟩
 rw [<-hw0]
 rw [<-hw0] at hz hx
 clear hw0 w
 have ux:=hx.u ox (by omega)
 have hx0:=hx.cell (j:=ox) (by omega)
 refine Qd (vs:= [.slice (some ⟨bz,oz,none⟩) n mz,.slice (some ⟨bx,ox,none⟩) n mx,.int .u64 y]) Tryz.func112 rfl rfl ?_
 intro a H
 replace H:Hd a 78 [] [(0,.slice (some ⟨bz,oz,none⟩) n mz),(1,.slice (some ⟨bx,ox,none⟩) n mx),(2,.int .u64 y)]:=H
 refine Sq (Rl [_] (wl H (Ez.asn H rfl) rfl (kW (kS (kS (kR [_,_,_,_,_] (kM rfl rfl (kL (fun a H=>Ez.len79 H rfl) rfl (kM rfl rfl (kL (fun a H=>Ez.len79 H rfl) rfl (kL (fun a H=>Ez.neq (r:=false) H rfl rfl (by simp)) rfl (kP [(0,_),(1,_),(2,_),(6,_),(15,_)] rfl (kW ?_)))))))))))));clear H a;intro a H
 refine Cf (H.o rfl) (Wk0 (thn (Sq (Sq (Rl [_,_,_] (wl H (Ez.mv H rfl) rfl (kL (fun a H=>Ez.len79 H rfl) rfl (kL (fun a H=>Ez.eql (r:=false) H rfl rfl (by (simp;omega))) rfl (kP [(0,_),(1,_),(2,_),(6,_),(19,_)] rfl (kW ?_))))))))));clear H a;intro a H
 refine Cf (H.o rfl) (Wk0 (thn (Sq (Rl [_,_,_,_,_,_,_,_,_,_] (wl H (Ez.mv H rfl) rfl (kL (fun a H=>Ez.ix79 H rfl rfl 0 rfl (by omega)) rfl (kL (fun a H=>Ez.ld103 H rfl (hx0)) rfl (kM rfl rfl ?_))))))));clear H a;intro a H
 refine wk H cf126 (bitsSub (X ox) y 0 ux hy (by decide) w0) rfl rfl ?_
 rintro _ w1 ⟨rfl,rfl⟩
 refine ⟨_,rfl,?_⟩;clear H a;intro a H
 refine wl H (Ez.mv H rfl) rfl (kL (fun a H=>Ez.ext0 H rfl) rfl (kL (fun a H=>Ez.ext1 H rfl) rfl (kA rfl rfl (kA rfl rfl (kP [(0,_),(1,_),(6,_),(7,_),(8,_)] rfl (kW (kS (kR [_,_,_,_] (kM rfl rfl (kM rfl rfl (kL (fun a H=>Ez.ix79 H rfl rfl 0 rfl (by omega)) rfl ?_)))))))))));clear H a;intro a H
 refine wls H (Ez.st103 H rfl rfl rfl (hz.cell (by omega)) (hz.fz _)) ?_;clear H;intro H
 refine kP [(0,_),(1,_),(6,_),(8,_)] rfl (kW ?_) a H;clear H a;intro a H
 have hz1:=hz.set (j:=oz) (by omega) (v:=(X ox - y - 0) % 18446744073709551616) (by unfold U64;omega)
 have hF1:Fr (Bl bz) w0 (w0.setCell ⟨bz,oz,none⟩ (.int .u64 ((X ox - y - 0) % 18446744073709551616))):=Fr.bl _
 generalize w0.setCell ⟨bz,oz,none⟩ (.int .u64 ((X ox - y - 0) % 18446744073709551616))=w1 at hz1 hF1 ⊢
 have ho1:∀k,k≠oz->up Z oz ((X ox - y - 0) % 18446744073709551616) k=Z k:=fun k hk=>Qx hk
 have hv1:=Qz Z oz ((X ox - y - 0) % 18446744073709551616)
 generalize up Z oz ((X ox - y - 0) % 18446744073709551616)=Z1 at hz1 ho1 hv1
 unfold U64 at ux hy
 refine Sq (Sq (Rl [_,_] (wl H (Ez.mv H rfl) rfl (kL (fun a H=>Ez.eql H rfl rfl (rfl)) rfl (kP [(0,_),(1,_),(6,_),(33,_)] rfl (kW ?_))))));clear H a;intro a H
 refine Cs (H.o rfl) (fun hb=>?_) (fun hb=>?_)
 ·have hcc:y<=X ox:=by simp at hb;omega
  refine Sq (Sq ?_)
  obtain ⟨i103,hi103,hs103⟩:=info103
  refine Qr (ls:= [_,_,_,_,_]) Qb (by kernel_rfl) (wq H (fun w2 hw2=>Ez.mv H rfl) rfl (jL (fun a H w2 hw2=>Ez.ix79 H rfl rfl 0 rfl (by omega)) rfl (jM rfl rfl (jL (fun a H w2 hw2=>Ez.ix79 H rfl rfl 0 rfl (by omega)) rfl (jL (fun a H w2 hw2=>Ez.neqP H rfl rfl ptrFacts hi103 hs103 (by rw [hw2.heap];exact hz1.blk) (by rw [hw2.heap];exact (hx.blk2 hF1 hz1)) rfl) rfl ?_)))));clear H a;intro a H
  refine wqe ?_
  intro w1 hw
  have hz2:=hz1.heq hw.heap
  have hF2:=hF1.trans (hw.fr _)
  clear hw
  replace H:Hd a 78 [] [(0,_),(1,_),(6,_),(38,_)]:=H.pick [0,1,6,38]
  refine Cs (H.o rfl) (fun hq=>?_) (fun hq=>?_)
  ·have hne:bx≠bz:=by intro e;have:=halx e;subst e;subst this;simp at hq
   refine Jw [_,_,_,_] [_] Qb (by kernel_rfl) ?_
   intro w1 hw
   have hz3:=hz2.heq hw.heap
   have hF3:=hF2.trans (hw.fr _)
   clear hw
   have hx3:=hx.fr hF3 (fun _ h=>hne h)
   refine wst H (Ez.mv H rfl) rfl (iL (fun a H=>Ez.slL79 H rfl rfl 1 rfl (by omega) (by omega) _ _ _ rfl rfl rfl) rfl (iL (fun a H=>Ez.mv H rfl) rfl (iL (fun a H=>Ez.slL79 H rfl rfl 1 rfl (by omega) (by omega) _ _ _ rfl rfl rfl) rfl ?_)));clear H a;intro a H
   refine wste ?_
   obtain ⟨w4,e4,hz4,hF4⟩:=Ez.copyW (x:=.tmp 40) (y:=.tmp 42) (T:=79) (T':=79) (d:=some 43) (ty:=3) (pos:=_) (after:=_) (g:=none) H rfl rfl (.inl rfl) hz3 hx3 (n - 1) (by simp) (by split <;> omega) (by split <;> omega)
   refine wl H (e4) rfl ?_;clear e4 H a;intro a H
   refine kP [(0,_),(1,_),(6,_)] rfl (kW (kS (kR [_] (kA rfl rfl (kW ?_))))) a H;clear H a;intro a H
   refine Wr (thr ?_)
   refine rt1 H rfl rfl ?_
   refine ⟨0,_,rfl,hz4,fun k hk=>?_,?_,by decide,hF3.trans hF4⟩
   ·rw [cp_out (by split <;> omega),ho1 k (by omega)]
   rw [Kb (X:=X) (ox:=ox) (i:=0) (n:=n) (by omega) (fun k h1 h2=>?_),cp_out (by split <;> omega),(show Z1 (oz+0)=_ from hv1)]
   ·simp [nvo,nv];omega
   have e1:(if 1 < mz then oz+1 else oz)=oz+1:=if_pos (by omega)
   have e2:(if 1 < mx then ox+1 else ox)=ox+1:=if_pos (by omega)
   rw [e1,e2,show oz+k=oz+1+(k - 1) by omega,cp_in (by omega),show ox+1+(k - 1)=ox+k by omega]
  have heq:bx=bz:=by simp at hq;exact hq.1.symm
  refine Wk0 (thn (Sq (Rl [_] (wl H (Ez.asn H rfl) rfl (kP [(0,_),(1,_),(6,_)] rfl (kW ?_))))));clear H a;intro a H
  refine Wr (thr ?_)
  refine rt1 H rfl rfl ?_
  refine ⟨0,_,rfl,hz2,fun k hk=>ho1 k (by omega),?_,by decide,hF2⟩
  rw [Kb (X:=X) (ox:=ox) (i:=0) (n:=n) (by omega) (rest_of (i:=0) hx hz halx lx (fun k hk=>ho1 k (by omega)) heq),Nat.add_zero,hv1]
  simp [nvo,nv];omega
 have hcc:X ox < y:=by simp at hb;omega
 refine Wk0 (thn (Sq (Sq (Rl [_] (wl H (Ez.asn H rfl) rfl (kP [(0,_),(1,_),(6,_),(9,_)] rfl (kW ?_)))))));clear H a;intro a H
 refine Wb ?_
 refine Qo (fun mm a w=>∃(i:Nat) (Z':Nat->Int),mm=n - i/\1<=i/\i<=n/\Hd a 78 [] [(0,.slice (some ⟨bz,oz,none⟩) n mz),(1,.slice (some ⟨bx,ox,none⟩) n mx),(9,.int .i64 i)]/\Wk w bz cz Z'/\(∀k,(k < oz\/oz+i<=k)->Z' k=Z k)/\nvo Z' oz i - BB ^ i=nvo X ox i - y/\Fr (Bl bz) w0 w) (n - 1) ?_ ?_
 ·replace H:Hd a 78 [] [(0,_),(1,_),(9,_)]:=H.pick [0,1,9]
  exact ⟨1,Z1,rfl,by omega,by omega,H,hz1,fun k hk=>ho1 k (by omega),by simp [nvo,nv,hv1];unfold BB;omega,hF1⟩
 clear H a
 intro mm a w hI
 clear hz1 hF1 ho1 hv1
 obtain ⟨i,Z',rfl,h1i,hi,H,hz1,hout,hsum,hF1⟩:=hI
 refine Sq (Sq (Rl [_,_,_,_] (wl H (Ez.mv H rfl) rfl (kM rfl rfl (kL (fun a H=>Ez.len79 H rfl) rfl (kL (fun a H=>Ez.lss H rfl rfl (rfl)) rfl (kP [(0,_),(1,_),(9,_),(47,_)] rfl (kW ?_))))))));clear H a;intro a H
 refine Cs (H.o rfl) (fun hb2=>?_) (fun hb2=>?_)
 ·have hlt:i < n:=by simpa using hb2
  refine Wk0 (thn (Sq (Wb (Sq ?_))))
  have hx1:=Wk.read (i:=i) hx hz hz1 hF1 halx (fun k hk=>hout k (.inr hk)) (by omega)
  have uxi:=hx.u (ox+i) (by omega)
  unfold U64 at uxi
  refine Rl [_,_,_,_,_] (wl H (Ez.mv H rfl) rfl (kM rfl rfl (kL (fun a H=>Ez.ix79 H rfl rfl _ rfl (by omega)) rfl (kL (fun a H=>Ez.ld103 H rfl (hx1)) rfl (kA rfl rfl (kP [(0,_),(1,_),(9,_),(10,_)] rfl (kW (kS (kS (kR [_,_] (kM rfl rfl (kL (fun a H=>Ez.neq H rfl rfl (rfl)) rfl (kP [(0,_),(1,_),(9,_),(10,_),(55,_)] rfl (kW ?_))))))))))))));clear H a;intro a H
  refine Cs (H.o rfl) (fun hb3=>?_) (fun hb3=>?_)
  ·have hmx:X (ox+i)≠0:=by simpa using hb3
   refine Sq (Rl [_,_,_,_,_,_] (wl H (Ez.mv H rfl) rfl (kM rfl rfl (kM rfl rfl (kL (fun a H=>Ez.subU (r:=X (ox+i) - 1) H rfl rfl (by omega)) rfl (kL (fun a H=>Ez.ix79 H rfl rfl _ rfl (by omega)) rfl ?_))))));clear H a;intro a H
   refine wls H (Ez.st103 H rfl rfl rfl (hz1.cell (by omega)) (hz1.fz _)) ?_;clear H;intro H
   refine kP [(0,_),(1,_),(9,_)] rfl (kW ?_) a H;clear H a;intro a H
   have hz5:=hz1.set (j:=oz+i) (by omega) (v:=X (ox+i) - 1) (by unfold U64;omega)
   have hF5:=hF1.trans (Fr.bl (b:=bz) (j:=oz+i) (.int .u64 (X (ox+i) - 1)))
   have ho5:∀k,k≠oz+i->up Z' (oz+i) (X (ox+i) - 1) k=Z' k:=fun k hk=>Qx hk
   have hv5:=Qz Z' (oz+i) (X (ox+i) - 1)
   have hn5:=Jc Z' oz i (oz+i) (X (ox+i) - 1) (Nat.le_refl _)
   generalize up Z' (oz+i) (X (ox+i) - 1)=Z5 at hz5 ho5 hv5 hn5
   generalize World.setCell _ ⟨bz,oz+i,none⟩ (.int .u64 (X (ox+i) - 1))=w5 at hz5 hF5 ⊢
   obtain ⟨i103,hi103,hs103⟩:=info103
   refine Sq (Sq (Qr (ls:= [_,_,_,_,_]) Qb (by kernel_rfl) (wq H (fun w2 hw2=>Ez.mv H rfl) rfl (jL (fun a H w2 hw2=>Ez.ix79 H rfl rfl 0 rfl (by omega)) rfl (jM rfl rfl (jL (fun a H w2 hw2=>Ez.ix79 H rfl rfl 0 rfl (by omega)) rfl (jL (fun a H w2 hw2=>Ez.neqP H rfl rfl ptrFacts hi103 hs103 (by rw [hw2.heap];exact hz5.blk) (by rw [hw2.heap];exact (hx.blk2 hF5 hz5)) rfl) rfl ?_)))))));clear H a;intro a H
   refine wqe ?_
   intro w1 hw
   have hz6:=hz5.heq hw.heap
   have hF6:=hF5.trans (hw.fr _)
   clear hw
   replace H:Hd a 78 [] [(0,_),(1,_),(9,_),(65,_)]:=H.pick [0,1,9,65]
   refine Cs (H.o rfl) (fun hq=>?_) (fun hq=>?_)
   ·have hne:bx≠bz:=by intro e;have:=halx e;subst e;subst this;simp at hq
    refine Jw [_,_,_,_,_,_,_,_] [_] Qb (by kernel_rfl) ?_
    intro w1 hw
    have hz7:=hz6.heq hw.heap
    have hF7:=hF6.trans (hw.fr _)
    clear hw
    have hx7:=hx.fr hF7 (fun _ h=>hne h)
    refine wst H (Ez.mv H rfl) rfl (iL (fun a H=>Ez.mv H rfl) rfl (iL (fun a H=>Ez.addI (r:=((i+1:Nat):Int)) H rfl rfl (by omega) (by omega)) rfl (iL (fun a H=>Ez.slL79 H rfl rfl (i+1) rfl (by omega) (by omega) _ _ _ rfl rfl rfl) rfl (iL (fun a H=>Ez.mv H rfl) rfl (iL (fun a H=>Ez.mv H rfl) rfl (iL (fun a H=>Ez.addI (r:=((i+1:Nat):Int)) H rfl rfl (by omega) (by omega)) rfl (iL (fun a H=>Ez.slL79 H rfl rfl (i+1) rfl (by omega) (by omega) _ _ _ rfl rfl rfl) rfl ?_)))))));clear H a;intro a H
    refine wste ?_
    obtain ⟨w8,e8,hz8,hF8⟩:=Ez.copyW (x:=.tmp 69) (y:=.tmp 73) (T:=79) (T':=79) (d:=some 74) (ty:=3) (pos:=_) (after:=_) (g:=none) H rfl rfl (.inl rfl) hz7 hx7 (n - (i+1)) (by simp) (by split <;> omega) (by split <;> omega)
    refine wl H (e8) rfl ?_;clear e8 H a;intro a H
    refine kP [(0,_),(1,_),(9,_)] rfl (kW (kS (kR [_] (kA rfl rfl (kW ?_))))) a H;clear H a;intro a H
    refine Wr (thr (bret (thr (thr (bret (thr ?_))))))
    refine rt1 H rfl rfl ?_
    refine ⟨0,_,rfl,hz8,fun k hk=>?_,?_,by decide,hF7.trans hF8⟩
    ·rw [cp_out (by split <;> omega),ho5 k (by omega),hout k (by omega)]
    have hc:∀k,k < i+1->cp Z5 (if i+1 < mz then oz+(i+1) else oz) X (if i+1 < mx then ox+(i+1) else ox) (n - (i+1)) (oz+k)=Z5 (oz+k):=fun k hk=>cp_out (by split <;> omega)
    rw [Kb (X:=X) (ox:=ox) (i:=i) (n:=n) (by omega) (fun k h1 h2=>?_),hc i (by omega),hv5,Q4 (Y:=Z5) (o':=oz) (fun j hj=>hc j (by omega)),hn5,Qk X]
    ·rw [Int.sub_mul,Int.one_mul];omega
    have e1:(if i+1 < mz then oz+(i+1) else oz)=oz+(i+1):=if_pos (by omega)
    have e2:(if i+1 < mx then ox+(i+1) else ox)=ox+(i+1):=if_pos (by omega)
    rw [e1,e2,show oz+k=oz+(i+1)+(k - (i+1)) by omega,cp_in (by omega),show ox+(i+1)+(k - (i+1))=ox+k by omega]
   have heq:bx=bz:=by simp at hq;exact hq.1.symm
   refine Wk0 (thn (Sq (Rl [_] (wl H (Ez.asn H rfl) rfl (kP [(0,_),(1,_),(6,_),(9,_)] rfl (kW ?_))))));clear H a;intro a H
   refine Wr (thr (bret (thr (thr (bret (thr ?_))))))
   refine rt1 H rfl rfl ?_
   refine ⟨0,_,rfl,hz6,fun k hk=>(ho5 k (by omega)).trans (hout k (by omega)),?_,by decide,hF6⟩
   rw [Kb (X:=X) (ox:=ox) (i:=i) (n:=n) (by omega) (rest_of (i:=i) hx hz halx lx (fun k hk=>(ho5 k (by omega)).trans (hout k (by omega))) heq),hv5,hn5,Qk X]
   rw [Int.sub_mul,Int.one_mul];omega
  have hmax:X (ox+i)=0:=by simpa using hb3
  refine Wk0 (thn (Rl [_,_,_,_] (wl H (Ez.mv H rfl) rfl (kM rfl rfl (kL (fun a H=>Ez.ix79 H rfl rfl _ rfl (by omega)) rfl ?_)))));clear H a;intro a H
  refine wls H (Ez.st103 H rfl rfl rfl (hz1.cell (by omega)) (hz1.fz _)) ?_;clear H;intro H
  replace H:Hd a 78 [] [(0,_),(1,_),(9,_)]:=H.pick [0,1,9]
  refine Wn ?_
  refine bn (thn (Rl [_,_,_] (wl H (Ez.mv H rfl) rfl (kL (fun a H=>Ez.addI (r:=((i+1:Nat):Int)) H rfl rfl (by omega) (by omega)) rfl (kA rfl rfl (kP [(0,_),(1,_),(9,_)] rfl (kW (kP [(0,_),(1,_),(9,_)] rfl ?_))))))));clear H a;intro a H
  refine ⟨n - (i+1),by omega,i+1,_,rfl,by omega,by omega,H,hz1.set (j:=oz+i) (by omega) (by unfold U64;omega),fun k hk=>(Qx (by omega)).trans (hout k (by omega)),?_,hF1.trans (Fr.bl _)⟩
  rw [Qk,Jc _ _ _ _ _ (Nat.le_refl _),Qz,Qk,Int.pow_succ,hmax]
  have:BB ^ i*BB=18446744073709551615*BB ^ i+BB ^ i:=by unfold BB;omega
  omega
 have hge:i=n:=by have:¬i < n:=by simpa using hb2
                  omega
 subst hge
 refine We (thx (thx (bxe (thn (Sq (Rl [_] (wl H (Ez.asn H rfl) rfl (kP [(6,_)] rfl (kW ?_)))))))));clear H a;intro a H
 refine Wr ?_
 refine rt1 H rfl rfl ?_
 exact ⟨1,Z',rfl,hz1,hout,by rw [Int.one_mul];exact hsum,by decide,hF1⟩
end
section
set_option maxRecDepth 8000
theorem lohi {x S R:Int} (hx:U64 x) (hS:0 < S) (hR:0 < R) (hSR:S*R=18446744073709551616):x*S % 18446744073709551616=x % R*S/\(0<=x / R/\x / R < S)/\x*S=x % R*S+x / R*18446744073709551616/\(0<=x % R*S/\x % R*S+S<=18446744073709551616):=by
 have e1:x / R*R+x % R=x:=by rw [Int.mul_comm];exact Int.mul_ediv_add_emod x R
 have e0:0<=x % R:=En _ (by omega)
 have e2:x % R < R:=El _ hR
 have e3:0<=x / R:=Int.ediv_nonneg hx.1 (Int.le_of_lt hR)
 have e4:x / R < S:=Int.ediv_lt_of_lt_mul hR (by rw [hSR];exact hx.2)
 have e5:x*S=x % R*S+x / R*18446744073709551616:=by
  have:(x / R*R+x % R)*S=x*S:=by rw [e1]
  rw [Int.add_mul,show x / R*R*S=x / R*(S*R) by ac_rfl,hSR] at this
  omega
 have e6:0<=x % R*S:=Mn e0 (Int.le_of_lt hS)
 have e7:(x % R+1)*S<=R*S:=Mr (by omega) (Int.le_of_lt hS)
 rw [Int.add_mul,Int.one_mul,Int.mul_comm R S,hSR] at e7
 exact ⟨by rw [e5];omega,⟨e3,e4⟩,e5,e6,e7⟩
theorem orJ {x y:Int} (s:Nat) (hs:s<=64) (hx:U64 x) (hx0:x % 2 ^ s=0) (hy:0<=y/\y < 2 ^ s):bits .or .u64 x y=x+y:=by
 have hy2:y < 18446744073709551616:=by
  have h:(2:Nat) ^ s<=2 ^ 64:=Nat.pow_le_pow_right (by decide) hs
  have h2:((2:Int) ^ s)=((2 ^ s:Nat):Int):=by simp
  rw [h2] at hy;omega
 obtain ⟨x,rfl⟩:=Eo hx.1
 obtain ⟨y,rfl⟩:=Eo hy.1
 have h1:=hx.2
 have h2:((2:Int) ^ s)=((2 ^ s:Nat):Int):=by simp
 rw [h2] at hx0 hy
 rw [u64_or_nat x y (by omega) (by omega),nat_join s x y (by omega) (by omega)]
 omega
theorem orJ' {x y:Int} (s:Nat) (hs:s<=64) (hx:U64 x) (hx0:x % 2 ^ s=0) (hy:0<=y/\y < 2 ^ s):bits .or .u64 y x=y+x:=by
 have hy2:y < 18446744073709551616:=by
  have h:(2:Nat) ^ s<=2 ^ 64:=Nat.pow_le_pow_right (by decide) hs
  have h2:((2:Int) ^ s)=((2 ^ s:Nat):Int):=by simp
  rw [h2] at hy;omega
 obtain ⟨x,rfl⟩:=Eo hx.1
 obtain ⟨y,rfl⟩:=Eo hy.1
 have h1:=hx.2
 have h2:((2:Int) ^ s)=((2 ^ s:Nat):Int):=by simp
 rw [h2] at hx0 hy
 rw [u64_or_nat y x (by omega) (by omega),Nat.or_comm,nat_join s x y (by omega) (by omega)]
 omega
theorem pow_split {s:Nat} (h:s<=64):(2:Int) ^ s*2 ^ (64 - s)=18446744073709551616:=by
 rw [<-Int.pow_add,show s+(64 - s)=64 by omega];rfl
theorem Jo (s:Nat):(0:Int) < 2 ^ s:=Int.pow_pos (by decide)
theorem lsh_sum {X Z:Nat->Int} {ox oz:Nat} {S R:Int} (hS:0 < S) (hR:0 < R) (hSR:S*R=18446744073709551616):∀n,(∀k,k < n->U64 (X (ox+k)))->
 (∀k,k < n->Z (oz+k)=X (ox+k)*S % 18446744073709551616+if k=0 then 0 else X (ox+(k - 1)) / R)->0 < n->nvo Z oz n+X (ox+(n - 1)) / R*BB ^ n=nvo X ox n*S
 | 0,_,_,h=>absurd h (by omega)
 | 1,hx,hz,_=>by
   have h:=lohi (hx 0 (by omega)) hS hR hSR
   have hz0:=hz 0 (by omega)
   simp only [if_true,Nat.add_zero] at hz0 h
   simp only [nvo,nv,Nat.add_zero,Int.zero_add,Int.pow_zero,Int.mul_one,hz0,Nat.sub_self]
   rw [h.1,h.2.2.1,show BB ^ 1=18446744073709551616 by decide]
   omega
 | n+2,hx,hz,_=>by
   have ih:=lsh_sum (X:=X) (Z:=Z) (ox:=ox) (oz:=oz) hS hR hSR (n+1) (fun k hk=>hx k (by omega)) (fun k hk=>hz k (by omega)) (by omega)
   have h:=lohi (hx (n+1) (by omega)) hS hR hSR
   have hzn:=hz (n+1) (by omega)
   rw [if_neg (by omega),show n+1 - 1=n by omega] at hzn
   simp only [show n+1 - 1=n by omega] at ih
   rw [Qk,Qk X,hzn,show n+2 - 1=n+1 by omega]
   simp only [Int.add_mul]
   rw [show X (ox+(n+1))*BB ^ (n+1)*S=X (ox+(n+1))*S*BB ^ (n+1) by ac_rfl,h.1,h.2.2.1,<-ih]
   simp only [Int.add_mul]
   rw [show BB ^ (n+2)=BB ^ (n+1)*BB from Int.pow_succ ..,show X (ox+(n+1)) / R*(BB ^ (n+1)*BB)=X (ox+(n+1)) / R*18446744073709551616*BB ^ (n+1) by unfold BB;ac_rfl]
   omega
theorem rsh_sum {X Z:Nat->Int} {ox oz:Nat} {S R:Int} (hS:0 < S) (hR:0 < R) (hSR:R*S=18446744073709551616):∀n,(∀k,k<=n->U64 (X (ox+k)))->
 (∀k,k < n->Z (oz+k)=X (ox+k) / S+X (ox+(k+1))*R % 18446744073709551616)->nvo Z oz n*S+X ox % S=nvo X ox n+X (ox+n) % S*BB ^ n
 | 0,_,_=>by simp [nvo,nv]
 | n+1,hx,hz=>by
   have ih:=rsh_sum (X:=X) (Z:=Z) (ox:=ox) (oz:=oz) hS hR hSR n (fun k hk=>hx k (by omega)) (fun k hk=>hz k (by omega))
   have h:=lohi (hx (n+1) (by omega)) hR hS hSR
   have e1:X (ox+n) / S*S+X (ox+n) % S=X (ox+n):=by rw [Int.mul_comm];exact Int.mul_ediv_add_emod _ S
   rw [Qk,Qk X,hz n (by omega),h.1]
   have e2:(X (ox+n) / S+X (ox+(n+1)) % S*R)*BB ^ n*S=X (ox+n) / S*S*BB ^ n+X (ox+(n+1)) % S*BB ^ (n+1):=by
    rw [Int.add_mul,Int.add_mul,show X (ox+n) / S*BB ^ n*S=X (ox+n) / S*S*BB ^ n by ac_rfl,show X (ox+(n+1)) % S*R*BB ^ n*S=X (ox+(n+1)) % S*(BB ^ n*(R*S)) by ac_rfl,hSR,Int.pow_succ]
    rfl
   have e3:X (ox+n)*BB ^ n=X (ox+n) / S*S*BB ^ n+X (ox+n) % S*BB ^ n:=by rw [<-Int.add_mul,e1]
   rw [Int.add_mul,e2,e3]
   omega
theorem Wk.read2 {w0 w:World} {bx cx bz cz oz ox k:Nat} {X Z Z':Nat->Int} (hx:Wk w0 bx cx X) (hz0:Wk w0 bz cz Z) (hz:Wk w bz cz Z') (hF:Fr (Bl bz) w0 w)
 (hal:bx=bz->ox=oz) (hout:∀j,j=oz+k->Z' j=Z j) (hi:ox+k < cx):w.cell? ⟨bx,ox+k,none⟩=some (.int .u64 (X (ox+k))):=by
 by_cases e:bx=bz
 ·have eo:=hal e
  subst e;subst eo
  obtain ⟨ec,eX⟩:=hx.inj hz0
  subst ec
  rw [hz.cell hi,hout _ rfl,eX _ hi]
 exact (hx.fr hF (fun _ h=>e h)).cell hi
theorem lshVUg (bz oz cz bx ox cx n mz mx s:Nat) (Z X:Nat->Int) (w:World) (hz:Wk w bz cz Z) (hx:Wk w bx cx X)
 (halx:bx=bz->ox=oz) (lz:oz+n<=cz) (lx:ox+n<=cx) (hn:n < 1000000000) (hn1:1<=n) (hs1:1<=s) (hs:s<=63):
 Calls Tryz.prog 152 #[.slice (some ⟨bz,oz,none⟩) n mz,.slice (some ⟨bx,ox,none⟩) n mx,.int .u64 s] w fun e w'=>∃(c:Int) (Z':Nat->Int),e=.returned (.int .u64 c)/\Wk w' bz cz Z'/\(∀k,(k < oz\/oz+n<=k)->Z' k=Z k)/\nvo Z' oz n+c*BB ^ n=nvo X ox n*2 ^ s/\(0<=c/\c < 2 ^ s)/\Fr (Bl bz) w w':=by
 obtain ⟨w0,hw0⟩:∃w0,w0=w:=⟨w,rfl⟩
 rw [<-hw0]
 rw [<-hw0] at hz hx
 clear hw0 w
 have hSR:=pow_split (s:=s) (by omega)
 have pS:=Jo s
 have pR:=Jo (64 - s)
 have b64:IntKind.u64.bits=64:=rfl
 refine Qd (vs:= [.slice (some ⟨bz,oz,none⟩) n mz,.slice (some ⟨bx,ox,none⟩) n mx,.int .u64 s]) Tryz.func152 rfl rfl ?_
 intro a H
 replace H:Hd a 68 [] [(0,.slice (some ⟨bz,oz,none⟩) n mz),(1,.slice (some ⟨bx,ox,none⟩) n mx),(2,.int .u64 s)]:=H
 refine Sq (Rl [_] (wl H (Ez.asn H rfl) rfl (kW (kS (kS (kR [_,_,_,_,_] (kM rfl rfl (kL (fun a H=>Ez.len79 H rfl) rfl (kM rfl rfl (kL (fun a H=>Ez.len79 H rfl) rfl (kL (fun a H=>Ez.neq (r:=false) H rfl rfl (by simp)) rfl (kP [(0,_),(1,_),(2,_),(6,_),(13,_)] rfl (kW ?_)))))))))))));clear H a;intro a H
 refine Cf (H.o rfl) (Wk0 (thn (Sq (Sq (Rl [_,_] (wl H (Ez.mv H rfl) rfl (kL (fun a H=>Ez.eql (r:=false) H rfl rfl (by (simp;omega))) rfl (kP [(0,_),(1,_),(2,_),(6,_),(16,_)] rfl (kW ?_)))))))));clear H a;intro a H
 refine Cf (H.o rfl) (Wk0 (thn (Sq (Sq (Rl [_,_,_] (wl H (Ez.mv H rfl) rfl (kL (fun a H=>Ez.len79 H rfl) rfl (kL (fun a H=>Ez.eql (r:=false) H rfl rfl (by (simp;omega))) rfl (kP [(0,_),(1,_),(2,_),(6,_),(22,_)] rfl (kW ?_))))))))));clear H a;intro a H
 refine Cf (H.o rfl) (Wk0 (thn (Sq (Rl [_,_,_] (wl H (Ez.mv H rfl) rfl (kL (fun a H=>Ez.andM (r:=(s:Int)) H 6 (by decide) rfl rfl (by unfold U64;omega) (by omega)) rfl (kA rfl rfl (kP [(0,_),(1,_),(2,_),(6,_)] rfl (kW (kS (kR [_,_,_] (kM rfl rfl (kL (fun a H=>Ez.subU (r:=((64 - s:Nat):Int)) H rfl rfl (by omega)) rfl (kA rfl rfl (kP [(0,_),(1,_),(2,_),(6,_),(7,_)] rfl (kW (kS (kR [_,_,_] (kM rfl rfl (kL (fun a H=>Ez.andM (r:=((64 - s:Nat):Int)) H 6 (by decide) rfl rfl (by unfold U64;omega) (by omega)) rfl (kA rfl rfl (kP [(0,_),(1,_),(2,_),(6,_),(7,_)] rfl (kW (kS ?_))))))))))))))))))))))));clear H a;intro a H
 have hxn:=hx.cell (j:=ox+(n - 1)) (by omega)
 have uxn:=hx.u (ox+(n - 1)) (by omega)
 refine Rl [_,_,_,_,_,_,_,_,_] (wl H (Ez.mv H rfl) rfl (kM rfl rfl (kL (fun a H=>Ez.len79 H rfl) rfl (kL (fun a H=>Ez.subI (r:=((n - 1:Nat):Int)) H rfl rfl (by omega) (by omega)) rfl (kL (fun a H=>Ez.ix79 H rfl rfl (n - 1) rfl (by omega)) rfl (kL (fun a H=>Ez.ld103 H rfl (hxn)) rfl (kM rfl rfl (kL (fun a H=>Ez.shrU H rfl rfl (64 - s) rfl (by omega) rfl) rfl (kA rfl rfl (kP [(0,_),(1,_),(2,_),(6,_),(7,_)] rfl (kW (kS (kS (kR [_,_,_,_] (kM rfl rfl (kL (fun a H=>Ez.len79 H rfl) rfl (kL (fun a H=>Ez.subI (r:=((n - 1:Nat):Int)) H rfl rfl (by omega) (by omega)) rfl (kA rfl rfl (kP [(0,_),(1,_),(2,_),(6,_),(7,_),(8,_)] rfl (kW ?_))))))))))))))))))));clear H a;intro a H
 refine Wb ?_
 refine Qo (fun mm a w=>∃(i:Nat) (Z':Nat->Int),mm=i/\i < n/\Hd a 68 [] [(0,.slice (some ⟨bz,oz,none⟩) n mz),(1,.slice (some ⟨bx,ox,none⟩) n mx),(2,.int .u64 s),(6,.int .u64 (X (ox+(n - 1)) / 2 ^ (64 - s))),(7,.int .u64 ((64 - s:Nat):Int)),(8,.int .i64 i)]/\Wk w bz cz Z'/\(∀k,(k < oz\/oz+n<=k\/k<=oz+i)->Z' k=Z k)/\(∀k,i < k->k < n->Z' (oz+k)=X (ox+k)*2 ^ s % 18446744073709551616+X (ox+(k - 1)) / 2 ^ (64 - s))/\Fr (Bl bz) w0 w) (n - 1) ?_ ?_
 ·replace H:Hd a 68 [] [(0,_),(1,_),(2,_),(6,_),(7,_),(8,_)]:=H.pick [0,1,2,6,7,8]
  exact ⟨n - 1,Z,rfl,by omega,H,hz,fun _ _=>rfl,fun k h1 h2=>by omega,Fr.refl _ _⟩
 clear H a
 intro mm a w hI
 obtain ⟨i,Z',rfl,hi,H,hz1,hout,hin,hF1⟩:=hI
 refine Sq (Sq (Rl [_,_] (wl H (Ez.mv H rfl) rfl (kL (fun a H=>Ez.gtr H rfl rfl (rfl)) rfl (kP [(0,_),(1,_),(2,_),(6,_),(7,_),(8,_),(41,_)] rfl (kW ?_))))));clear H a;intro a H
 refine Cs (H.o rfl) (fun hb=>?_) (fun hb=>?_)
 ·have hlt:0 < mm:=by simpa using hb
  refine Wk0 (thn (Sq (Wb ?_)))
  have hx1:=Wk.read2 hx hz hz1 hF1 halx (k:=mm) (fun j hj=>hout j (by omega)) (by omega)
  have hx2:=Wk.read2 hx hz hz1 hF1 halx (k:=mm - 1) (fun j hj=>hout j (by omega)) (by omega)
  have ux1:=hx.u (ox+mm) (by omega)
  have ux2:=hx.u (ox+(mm - 1)) (by omega)
  have l1:=lohi ux1 pS pR hSR
  have l2:=lohi ux2 pS pR hSR
  have uo:U64 (X (ox+mm)*2 ^ s % 18446744073709551616+X (ox+(mm - 1)) / 2 ^ (64 - s)):=by unfold U64;rw [l1.1];omega
  have ej:bits .or .u64 (X (ox+mm)*2 ^ s % 18446744073709551616) (X (ox+(mm - 1)) / 2 ^ (64 - s))=X (ox+mm)*2 ^ s % 18446744073709551616+X (ox+(mm - 1)) / 2 ^ (64 - s):=
   orJ s (by omega) (by unfold U64;omega) (by rw [l1.1];exact Int.mul_emod_left _ _) l2.2.1
  refine Jw [_,_,_,_,_,_,_,_,_,_,_,_,_,_,_,_] [_,_] Qb (by kernel_rfl) ?_
  intro w1 hw
  have hz2:=hz1.heq hw.heap
  have hF2:=hF1.trans (hw.fr _)
  have hx1:=hw.cell hx1
  have hx2:=hw.cell hx2
  clear hw
  refine wst H (Ez.mv H rfl) rfl (iL (fun a H=>Ez.mv H rfl) rfl (iL (fun a H=>Ez.mv H rfl) rfl (iL (fun a H=>Ez.mv H rfl) rfl (iL (fun a H=>Ez.ix79 H rfl rfl mm rfl (by omega)) rfl (iL (fun a H=>Ez.ld103 H rfl (hx1)) rfl (iL (fun a H=>Ez.mv H rfl) rfl (iL (fun a H=>Ez.shlU H rfl rfl s rfl (by omega) rfl) rfl (iL (fun a H=>Ez.mv H rfl) rfl (iL (fun a H=>Ez.mv H rfl) rfl (iL (fun a H=>Ez.subI (r:=((mm - 1:Nat):Int)) H rfl rfl (by omega) (by omega)) rfl (iL (fun a H=>Ez.ix79 H rfl rfl (mm - 1) rfl (by omega)) rfl (iL (fun a H=>Ez.ld103 H rfl (hx2)) rfl (iL (fun a H=>Ez.mv H rfl) rfl (iL (fun a H=>Ez.shrU H rfl rfl (64 - s) rfl (by omega) rfl) rfl (iL (fun a H=>Ez.or H rfl rfl (ej)) rfl ?_)))))))))))))));clear H a;intro a H
  refine wste ?_
  refine wl H (Ez.ix79 H rfl rfl mm rfl (by omega)) rfl ?_;clear H a;intro a H
  refine wls H (Ez.st103 H rfl rfl rfl (hz2.cell (by omega)) (hz2.fz _)) ?_;clear H;intro H
  replace H:Hd a 68 [] [(0,_),(1,_),(2,_),(6,_),(7,_),(8,_)]:=H.pick [0,1,2,6,7,8]
  refine Wn ?_
  refine bn (thn (Rl [_,_,_] (wl H (Ez.mv H rfl) rfl (kL (fun a H=>Ez.subI (r:=((mm - 1:Nat):Int)) H rfl rfl (by omega) (by omega)) rfl (kA rfl rfl (kP [(0,_),(1,_),(2,_),(6,_),(7,_),(8,_)] rfl (kW (kP [(0,_),(1,_),(2,_),(6,_),(7,_),(8,_)] rfl ?_))))))));clear H a;intro a H
  refine ⟨mm - 1,by omega,mm - 1,up Z' (oz+mm) _,rfl,by omega,H,hz2.set (by omega) uo,fun k hk=>(Qx (by omega)).trans (hout k (by omega)),fun k h1 h2=>?_,hF2.trans (Fr.bl _)⟩
  by_cases e:k=mm
  ·subst e;rw [Qz,show k - 1=k - 1 from rfl]
  rw [Qx (by omega)];exact hin k (by omega) h2
 have hge:mm=0:=Nat.eq_zero_of_not_pos (by simpa using hb)
 subst hge
 refine We (thx (thx (bxe (thn (Sq ?_)))))
 have hx1:=Wk.read2 hx hz hz1 hF1 halx (k:=0) (fun j hj=>hout j (by omega)) (by omega)
 have ux1:=hx.u ox (by omega)
 have l1:=lohi ux1 pS pR hSR
 have uo:U64 (X (ox+0)*2 ^ s % 18446744073709551616):=by unfold U64;omega
 refine Rl [_,_,_,_,_,_,_,_] (wl H (Ez.mv H rfl) rfl (kM rfl rfl (kL (fun a H=>Ez.ix79 H rfl rfl 0 rfl (by omega)) rfl (kL (fun a H=>Ez.ld103 H rfl (hx1)) rfl (kM rfl rfl (kL (fun a H=>Ez.shlU H rfl rfl s rfl (by omega) rfl) rfl (kL (fun a H=>Ez.ix79 H rfl rfl 0 rfl (by omega)) rfl ?_)))))));clear H a;intro a H
 refine wls H (Ez.st103 H rfl rfl rfl (hz1.cell (by omega)) (hz1.fz _)) ?_;clear H;intro H
 refine kP [(6,_)] rfl (kW ?_) a H;clear H a;intro a H
 refine Wr ?_
 refine rt1 H rfl rfl ?_
 have lN:=lohi uxn pS pR hSR
 refine ⟨_,up Z' (oz+0) _,rfl,hz1.set (by omega) uo,fun k hk=>(Qx (by omega)).trans (hout k (by omega)),?_,lN.2.1,hF1.trans (Fr.bl _)⟩
 refine lsh_sum pS pR hSR n (fun k hk=>hx.u _ (by omega)) (fun k hk=>?_) (by omega)
 by_cases e:k=0
 ·subst e;rw [Qz,if_pos rfl];omega
 rw [Qx (by omega),if_neg e];exact hin k (by omega) hk
theorem lshVU (bz oz cz bx ox cx n mz mx s:Nat) (Z X:Nat->Int) (w:World) (hz:Wk w bz cz Z) (hx:Wk w bx cx X)
 (halx:bx=bz->ox=oz) (lz:oz+n<=cz) (lx:ox+n<=cx) (hn:n < 1000000000) (hn1:1<=n) (hs1:1<=s) (hs:s<=63):
 Calls Tryz.prog 133 #[.slice (some ⟨bz,oz,none⟩) n mz,.slice (some ⟨bx,ox,none⟩) n mx,.int .u64 s] w fun e w'=>∃(c:Int) (Z':Nat->Int),e=.returned (.int .u64 c)/\Wk w' bz cz Z'/\(∀k,(k < oz\/oz+n<=k)->Z' k=Z k)/\nvo Z' oz n+c*BB ^ n=nvo X ox n*2 ^ s/\(0<=c/\c < 2 ^ s)/\Fr (Bl bz) w w':=by
 refine Qd (vs:= [.slice (some ⟨bz,oz,none⟩) n mz,.slice (some ⟨bx,ox,none⟩) n mx,.int .u64 s]) Tryz.func133 rfl rfl ?_
 intro a H
 replace H:Hd a 11 [] [(0,.slice (some ⟨bz,oz,none⟩) n mz),(1,.slice (some ⟨bx,ox,none⟩) n mx),(2,.int .u64 s)]:=H
 refine Sq (Rl [_] (wl H (Ez.asn H rfl) rfl (kW (kS (kR [_,_,_,_,_] (kM rfl rfl (kM rfl rfl (kM rfl rfl ?_))))))));clear H a;intro a H
 refine wk H cf152 (lshVUg bz oz cz bx ox cx n mz mx s Z X w hz hx halx lz lx hn hn1 hs1 hs) rfl rfl ?_
 rintro _ w1 ⟨c,Z',rfl,h1,h2,h3,h4,h5⟩
 refine ⟨_,rfl,?_⟩;clear H a;intro a H
 refine wl H (Ez.asn H rfl) rfl (kP [(6,_)] rfl (kW ?_));clear H a;intro a H
 refine Wr ?_
 refine rt1 H rfl rfl ?_
 exact ⟨c,Z',rfl,h1,h2,h3,h4,h5⟩
theorem rshVUg (bz oz cz bx ox cx n mz mx s:Nat) (Z X:Nat->Int) (w:World) (hz:Wk w bz cz Z) (hx:Wk w bx cx X)
 (halx:bx=bz->ox=oz) (lz:oz+n<=cz) (lx:ox+n<=cx) (hn:n < 1000000000) (hn1:1<=n) (hs1:1<=s) (hs:s<=63):
 Calls Tryz.prog 156 #[.slice (some ⟨bz,oz,none⟩) n mz,.slice (some ⟨bx,ox,none⟩) n mx,.int .u64 s] w fun e w'=>∃(c:Int) (Z':Nat->Int),e=.returned (.int .u64 c)/\Wk w' bz cz Z'/\(∀k,(k < oz\/oz+n<=k)->Z' k=Z k)/\nvo Z' oz n*2 ^ s+X ox % 2 ^ s=nvo X ox n/\Fr (Bl bz) w w':=by
 obtain ⟨w0,hw0⟩:∃w0,w0=w:=⟨w,rfl⟩
 rw [<-hw0]
 rw [<-hw0] at hz hx
 clear hw0 w
 have hSR:=pow_split (s:=s) (by omega)
 have pS:=Jo s
 have pR:=Jo (64 - s)
 have b64:IntKind.u64.bits=64:=rfl
 refine Qd (vs:= [.slice (some ⟨bz,oz,none⟩) n mz,.slice (some ⟨bx,ox,none⟩) n mx,.int .u64 s]) Tryz.func156 rfl rfl ?_
 intro a H
 replace H:Hd a 71 [] [(0,.slice (some ⟨bz,oz,none⟩) n mz),(1,.slice (some ⟨bx,ox,none⟩) n mx),(2,.int .u64 s)]:=H
 refine Sq (Rl [_] (wl H (Ez.asn H rfl) rfl (kW (kS (kS (kR [_,_,_,_,_] (kM rfl rfl (kL (fun a H=>Ez.len79 H rfl) rfl (kM rfl rfl (kL (fun a H=>Ez.len79 H rfl) rfl (kL (fun a H=>Ez.neq (r:=false) H rfl rfl (by simp)) rfl (kP [(0,_),(1,_),(2,_),(6,_),(13,_)] rfl (kW ?_)))))))))))));clear H a;intro a H
 refine Cf (H.o rfl) (Wk0 (thn (Sq (Sq (Rl [_,_] (wl H (Ez.mv H rfl) rfl (kL (fun a H=>Ez.eql (r:=false) H rfl rfl (by (simp;omega))) rfl (kP [(0,_),(1,_),(2,_),(6,_),(16,_)] rfl (kW ?_)))))))));clear H a;intro a H
 refine Cf (H.o rfl) (Wk0 (thn (Sq (Sq (Rl [_,_,_] (wl H (Ez.mv H rfl) rfl (kL (fun a H=>Ez.len79 H rfl) rfl (kL (fun a H=>Ez.eql (r:=false) H rfl rfl (by (simp;omega))) rfl (kP [(0,_),(1,_),(2,_),(6,_),(22,_)] rfl (kW ?_))))))))));clear H a;intro a H
 refine Cf (H.o rfl) (Wk0 (thn (Sq (Rl [_,_,_] (wl H (Ez.mv H rfl) rfl (kL (fun a H=>Ez.andM (r:=(s:Int)) H 6 (by decide) rfl rfl (by unfold U64;omega) (by omega)) rfl (kA rfl rfl (kP [(0,_),(1,_),(2,_),(6,_)] rfl (kW (kS (kR [_,_,_] (kM rfl rfl (kL (fun a H=>Ez.subU (r:=((64 - s:Nat):Int)) H rfl rfl (by omega)) rfl (kA rfl rfl (kP [(0,_),(1,_),(2,_),(6,_),(7,_)] rfl (kW (kS (kR [_,_,_] (kM rfl rfl (kL (fun a H=>Ez.andM (r:=((64 - s:Nat):Int)) H 6 (by decide) rfl rfl (by unfold U64;omega) (by omega)) rfl (kA rfl rfl (kP [(0,_),(1,_),(2,_),(6,_),(7,_)] rfl (kW (kS ?_))))))))))))))))))))))));clear H a;intro a H
 have hxn:=hx.cell (j:=ox+0) (by omega)
 refine Rl [_,_,_,_,_,_] (wl H (Ez.mv H rfl) rfl (kL (fun a H=>Ez.ix79 H rfl rfl 0 rfl (by omega)) rfl (kL (fun a H=>Ez.ld103 H rfl (hxn)) rfl (kM rfl rfl (kL (fun a H=>Ez.shlU H rfl rfl (64 - s) rfl (by omega) rfl) rfl (kA rfl rfl (kP [(0,_),(1,_),(2,_),(6,_),(7,_)] rfl (kW (kS (kS (kR [_] (kA rfl rfl (kW ?_)))))))))))));clear H a;intro a H
 refine Wb ?_
 refine Qo (fun mm a w=>∃(i:Nat) (c:Int) (Z':Nat->Int),mm=n - i/\1<=i/\i<=n/\Hd a 71 [] [(0,.slice (some ⟨bz,oz,none⟩) n mz),(1,.slice (some ⟨bx,ox,none⟩) n mx),(2,.int .u64 s),(6,.int .u64 c),(7,.int .u64 ((64 - s:Nat):Int)),(8,.int .i64 i)]/\Wk w bz cz Z'/\(∀k,(k < oz\/oz+(i - 1)<=k)->Z' k=Z k)/\(∀k,k < i - 1->Z' (oz+k)=X (ox+k) / 2 ^ s+X (ox+(k+1))*2 ^ (64 - s) % 18446744073709551616)/\Fr (Bl bz) w0 w) (n - 1) ?_ ?_
 ·replace H:Hd a 71 [] [(0,_),(1,_),(2,_),(6,_),(7,_),(8,_)]:=H.pick [0,1,2,6,7,8]
  exact ⟨1,_,Z,rfl,by omega,by omega,H,hz,fun _ _=>rfl,fun k h1=>by omega,Fr.refl _ _⟩
 clear H a
 intro mm a w hI
 obtain ⟨i,c,Z',rfl,h1i,hi,H,hz1,hout,hin,hF1⟩:=hI
 refine Sq (Sq (Rl [_,_,_,_] (wl H (Ez.mv H rfl) rfl (kM rfl rfl (kL (fun a H=>Ez.len79 H rfl) rfl (kL (fun a H=>Ez.lss H rfl rfl (rfl)) rfl (kP [(0,_),(1,_),(2,_),(6,_),(7,_),(8,_),(37,_)] rfl (kW ?_))))))));clear H a;intro a H
 refine Cs (H.o rfl) (fun hb=>?_) (fun hb=>?_)
 ·have hlt:i < n:=by simpa using hb
  refine Wk0 (thn (Sq (Wb ?_)))
  have hx1:=Wk.read2 hx hz hz1 hF1 halx (k:=i - 1) (fun j hj=>hout j (by omega)) (by omega)
  have hx2:=Wk.read2 hx hz hz1 hF1 halx (k:=i) (fun j hj=>hout j (by omega)) (by omega)
  have ux1:=hx.u (ox+(i - 1)) (by omega)
  have ux2:=hx.u (ox+i) (by omega)
  have l1:=lohi ux1 pR pS (by rw [Int.mul_comm];exact hSR)
  have l2:=lohi ux2 pR pS (by rw [Int.mul_comm];exact hSR)
  have uo:U64 (X (ox+(i - 1)) / 2 ^ s+X (ox+i)*2 ^ (64 - s) % 18446744073709551616):=by unfold U64;rw [l2.1];omega
  have ej:bits .or .u64 (X (ox+(i - 1)) / 2 ^ s) (X (ox+i)*2 ^ (64 - s) % 18446744073709551616)=X (ox+(i - 1)) / 2 ^ s+X (ox+i)*2 ^ (64 - s) % 18446744073709551616:=
   orJ' (64 - s) (by omega) (by unfold U64;omega) (by rw [l2.1];exact Int.mul_emod_left _ _) l1.2.1
  refine Jw [_,_,_,_,_,_,_,_,_,_,_,_,_,_,_,_,_] [_,_] Qb (by kernel_rfl) ?_
  intro w1 hw
  have hz2:=hz1.heq hw.heap
  have hF2:=hF1.trans (hw.fr _)
  have hx1:=hw.cell hx1
  have hx2:=hw.cell hx2
  clear hw
  refine wst H (Ez.mv H rfl) rfl (iL (fun a H=>Ez.mv H rfl) rfl (iL (fun a H=>Ez.subI (r:=((i - 1:Nat):Int)) H rfl rfl (by omega) (by omega)) rfl (iL (fun a H=>Ez.mv H rfl) rfl (iL (fun a H=>Ez.mv H rfl) rfl (iL (fun a H=>Ez.subI (r:=((i - 1:Nat):Int)) H rfl rfl (by omega) (by omega)) rfl (iL (fun a H=>Ez.ix79 H rfl rfl (i - 1) rfl (by omega)) rfl (iL (fun a H=>Ez.ld103 H rfl (hx1)) rfl (iL (fun a H=>Ez.mv H rfl) rfl (iL (fun a H=>Ez.shrU H rfl rfl s rfl (by omega) rfl) rfl (iL (fun a H=>Ez.mv H rfl) rfl (iL (fun a H=>Ez.mv H rfl) rfl (iL (fun a H=>Ez.ix79 H rfl rfl i rfl (by omega)) rfl (iL (fun a H=>Ez.ld103 H rfl (hx2)) rfl (iL (fun a H=>Ez.mv H rfl) rfl (iL (fun a H=>Ez.shlU H rfl rfl (64 - s) rfl (by omega) rfl) rfl (iL (fun a H=>Ez.or H rfl rfl (ej)) rfl ?_))))))))))))))));clear H a;intro a H
  refine wste ?_
  refine wl H (Ez.ix79 H rfl rfl (i - 1) rfl (by omega)) rfl ?_;clear H a;intro a H
  refine wls H (Ez.st103 H rfl rfl rfl (hz2.cell (by omega)) (hz2.fz _)) ?_;clear H;intro H
  replace H:Hd a 71 [] [(0,_),(1,_),(2,_),(6,_),(7,_),(8,_)]:=H.pick [0,1,2,6,7,8]
  refine Wn ?_
  refine bn (thn (Rl [_,_,_] (wl H (Ez.mv H rfl) rfl (kL (fun a H=>Ez.addI (r:=((i+1:Nat):Int)) H rfl rfl (by omega) (by omega)) rfl (kA rfl rfl (kP [(0,_),(1,_),(2,_),(6,_),(7,_),(8,_)] rfl (kW (kP [(0,_),(1,_),(2,_),(6,_),(7,_),(8,_)] rfl ?_))))))));clear H a;intro a H
  refine ⟨n - (i+1),by omega,i+1,c,up Z' (oz+(i - 1)) _,rfl,by omega,by omega,H,hz2.set (by omega) uo,fun k hk=>(Qx (by omega)).trans (hout k (by omega)),fun k h1=>?_,hF2.trans (Fr.bl _)⟩
  by_cases e:k=i - 1
  ·subst e;rw [Qz,show i - 1+1=i by omega]
  rw [Qx (by omega)];exact hin k (by omega)
 have hge0:¬i < n:=by simpa using hb
 have hge:i=n:=by omega
 subst hge
 refine We (thx (thx (bxe (thn (Sq ?_)))))
 have hx1:=Wk.read2 hx hz hz1 hF1 halx (k:=i - 1) (fun j hj=>hout j (by omega)) (by omega)
 have ux1:=hx.u (ox+(i - 1)) (by omega)
 have l1:=lohi ux1 pR pS (by rw [Int.mul_comm];exact hSR)
 have uo:U64 (X (ox+(i - 1)) / 2 ^ s):=by unfold U64 at ux1 ⊢;exact ⟨Int.ediv_nonneg ux1.1 (Int.le_of_lt pS),Int.lt_of_le_of_lt (Int.ediv_le_self _ ux1.1) ux1.2⟩
 refine Rl [_,_,_,_,_,_,_,_,_,_,_,_,_,_] (wl H (Ez.mv H rfl) rfl (kM rfl rfl (kL (fun a H=>Ez.len79 H rfl) rfl (kL (fun a H=>Ez.subI (r:=((i - 1:Nat):Int)) H rfl rfl (by omega) (by omega)) rfl (kM rfl rfl (kM rfl rfl (kL (fun a H=>Ez.len79 H rfl) rfl (kL (fun a H=>Ez.subI (r:=((i - 1:Nat):Int)) H rfl rfl (by omega) (by omega)) rfl (kL (fun a H=>Ez.ix79 H rfl rfl (i - 1) rfl (by omega)) rfl (kL (fun a H=>Ez.ld103 H rfl (hx1)) rfl (kM rfl rfl (kL (fun a H=>Ez.shrU H rfl rfl s rfl (by omega) rfl) rfl (kL (fun a H=>Ez.ix79 H rfl rfl (i - 1) rfl (by omega)) rfl ?_)))))))))))));clear H a;intro a H
 refine wls H (Ez.st103 H rfl rfl rfl (hz1.cell (by omega)) (hz1.fz _)) ?_;clear H;intro H
 refine kP [(6,_)] rfl (kW ?_) a H;clear H a;intro a H
 refine Wr ?_
 refine rt1 H rfl rfl ?_
 refine ⟨_,up Z' (oz+(i - 1)) _,rfl,hz1.set (by omega) uo,fun k hk=>(Qx (by omega)).trans (hout k (by omega)),?_,hF1.trans (Fr.bl _)⟩
 have hs1:=rsh_sum (X:=X) (Z:=Z') (ox:=ox) (oz:=oz) pS pR (by rw [Int.mul_comm];exact hSR) (i - 1) (fun k hk=>hx.u _ (by omega)) hin
 have ei:i=i - 1+1:=by omega
 have e1:X (ox+(i - 1)) / 2 ^ s*2 ^ s+X (ox+(i - 1)) % 2 ^ s=X (ox+(i - 1)):=by rw [Int.mul_comm];exact Int.mul_ediv_add_emod _ _
 generalize i - 1=m at*
 subst ei
 rw [Qk,Qk X,Qz,Jc _ _ _ _ _ (Nat.le_refl _)]
 have e3:X (ox+m)*BB ^ m=X (ox+m) / 2 ^ s*2 ^ s*BB ^ m+X (ox+m) % 2 ^ s*BB ^ m:=by rw [<-Int.add_mul,e1]
 rw [Int.add_mul,e3,show X (ox+m) / 2 ^ s*BB ^ m*2 ^ s=X (ox+m) / 2 ^ s*2 ^ s*BB ^ m by ac_rfl]
 omega
theorem rshVU (bz oz cz bx ox cx n mz mx s:Nat) (Z X:Nat->Int) (w:World) (hz:Wk w bz cz Z) (hx:Wk w bx cx X)
 (halx:bx=bz->ox=oz) (lz:oz+n<=cz) (lx:ox+n<=cx) (hn:n < 1000000000) (hn1:1<=n) (hs1:1<=s) (hs:s<=63):
 Calls Tryz.prog 136 #[.slice (some ⟨bz,oz,none⟩) n mz,.slice (some ⟨bx,ox,none⟩) n mx,.int .u64 s] w fun e w'=>∃(c:Int) (Z':Nat->Int),e=.returned (.int .u64 c)/\Wk w' bz cz Z'/\(∀k,(k < oz\/oz+n<=k)->Z' k=Z k)/\nvo Z' oz n*2 ^ s+X ox % 2 ^ s=nvo X ox n/\Fr (Bl bz) w w':=by
 refine Qd (vs:= [.slice (some ⟨bz,oz,none⟩) n mz,.slice (some ⟨bx,ox,none⟩) n mx,.int .u64 s]) Tryz.func136 rfl rfl ?_
 intro a H
 replace H:Hd a 11 [] [(0,.slice (some ⟨bz,oz,none⟩) n mz),(1,.slice (some ⟨bx,ox,none⟩) n mx),(2,.int .u64 s)]:=H
 refine Sq (Rl [_] (wl H (Ez.asn H rfl) rfl (kW (kS (kR [_,_,_,_,_] (kM rfl rfl (kM rfl rfl (kM rfl rfl ?_))))))));clear H a;intro a H
 refine wk H cf156 (rshVUg bz oz cz bx ox cx n mz mx s Z X w hz hx halx lz lx hn hn1 hs1 hs) rfl rfl ?_
 rintro _ w1 ⟨c,Z',rfl,h1,h2,h3,h4⟩
 refine ⟨_,rfl,?_⟩;clear H a;intro a H
 refine wl H (Ez.asn H rfl) rfl (kP [(6,_)] rfl (kW ?_));clear H a;intro a H
 refine Wr ?_
 refine rt1 H rfl rfl ?_
 exact ⟨c,Z',rfl,h1,h2,h3,h4⟩
end
section
set_option maxRecDepth 8000
theorem wqq {n m:Int} (h0:0<=n) (h1:n < 18446744073709551616) (hm:0 < m):IntKind.u64.wrap (n / m)=n / m:=by
 have a1:=Int.ediv_nonneg h0 (Int.le_of_lt hm)
 have a2:=Int.ediv_le_self m h0
 rw [Wu];omega
structure QE (u v1 v0 d q q1 r:Int):Prop where
 eq:q1*v1+r=u
 r0:0<=r
 le:q<=q1
 hi:q1<=4294967297
structure QP (u v1 v0 d q Y:Int):Prop where
 hY:Y=v1*4294967296+v0
 h1:2147483648<=v1/\v1 < 4294967296
 h0:0<=v0/\v0 < 4294967296
 hu:0<=u/\u < Y
 hd:0<=d/\d < 4294967296
 lo:q*Y<=u*4294967296+d
 up:u*4294967296+d < (q+1)*Y
 q0:0<=q
 qb:q < 4294967296
theorem QP.of {u v1 v0 d Y:Int} (hY:Y=v1*4294967296+v0) (h1:2147483648<=v1/\v1 < 4294967296) (h0:0<=v0/\v0 < 4294967296) (hu:0<=u/\u < Y) (hd:0<=d/\d < 4294967296):QP u v1 v0 d ((u*4294967296+d) / Y) Y:=by
 have hp:0 < Y:=by omega
 refine ⟨hY,h1,h0,hu,hd,Int.ediv_mul_le _ (by omega),Int.lt_ediv_add_one_mul_self _ hp,Int.ediv_nonneg (by omega) (by omega),Int.ediv_lt_of_lt_mul hp ?_⟩
 have:=Ml (show u+1<=Y by omega) (show (0:Int)<=4294967296 by decide)
 omega
theorem prodY {q v1 v0 Y:Int} (hY:Y=v1*4294967296+v0):q*Y=q*v1*4294967296+q*v0:=by
 rw [hY,Int.mul_add,<-Int.mul_assoc]
theorem QP.init {u v1 v0 d q Y:Int} (h:QP u v1 v0 d q Y):QE u v1 v0 d q (u / v1) (u - u / v1*v1):=by
 obtain ⟨hY,h1,h0,hu,hd,lo,up,q0,qb⟩:=h
 have e1:u / v1*v1+u % v1=u:=by rw [Int.mul_comm];exact Int.mul_ediv_add_emod _ _
 have e2:=En u (show v1≠0 by omega)
 refine ⟨by omega,by omega,?_,?_⟩
 ·refine Int.le_ediv_of_mul_le (by omega) ?_
  have:=prodY (q:=q) hY
  have p0:=Mn q0 h0.1
  omega
 have:u / v1 < 4294967298:=Int.ediv_lt_of_lt_mul (by omega) (by omega)
 omega
theorem QE.step {u v1 v0 d q Y q1 r:Int} (p:QP u v1 v0 d q Y) (h:QE u v1 v0 d q q1 r) (hc:4294967296<=q1\/4294967296*r+d < q1*v0):QE u v1 v0 d q (q1 - 1) (r+v1):=by
 obtain ⟨hY,h1,h0,hu,hd,lo,up,q0,qb⟩:=p
 obtain ⟨eq,r0,le,hi⟩:=h
 refine ⟨by rw [Int.sub_mul,Int.one_mul];omega,by omega,?_,by omega⟩
 rcases hc with hc | hc
 ·omega
 have e:=prodY (q:=q1) hY
 have:q*Y < q1*Y:=by omega
 have:=Int.lt_of_mul_lt_mul_right this (by omega)
 omega
theorem QE.exit1 {u v1 v0 d q Y q1 r:Int} (p:QP u v1 v0 d q Y) (h:QE u v1 v0 d q q1 r) (hc:q1*v0<=4294967296*r+d):q1=q:=by
 obtain ⟨hY,h1,h0,hu,hd,lo,up,q0,qb⟩:=p
 obtain ⟨eq,r0,le,hi⟩:=h
 have e:=prodY (q:=q1) hY
 have:q1*Y < (q+1)*Y:=by omega
 have:=Int.lt_of_mul_lt_mul_right this (by omega)
 omega
theorem QE.exit2 {u v1 v0 d q Y q1 r:Int} (p:QP u v1 v0 d q Y) (h:QE u v1 v0 d q q1 r) (hq:q1<=4294967296) (hc:4294967296<=r):q1=q:=by
 refine h.exit1 p ?_
 obtain ⟨hY,h1,h0,hu,hd,lo,up,q0,qb⟩:=p
 obtain ⟨eq,r0,le,hi⟩:=h
 have:=Int.mul_le_mul hq (show v0<=4294967295 by omega) h0.1 (by decide)
 omega
theorem div_end {N y P q1 q0 r1 r0 u d1 d0 Y:Int} (hP:0 < P) (hy:0 < y) (hY:Y=y*P) (h1:u*4294967296+d1=q1*Y+r1) (h0:r1*4294967296+d0=q0*Y+r0) (hr:0<=r0/\r0 < Y)
 (hU:N*P=u*18446744073709551616+(d1*4294967296+d0)):q1*4294967296+q0=N / y/\r0 / P=N % y:=by
 have e1:N*P=(q1*4294967296+q0)*Y+r0:=by
  rw [Int.add_mul,show q1*4294967296*Y=q1*Y*4294967296 by ac_rfl]
  omega
 have e2:r0=(N - (q1*4294967296+q0)*y)*P:=by
  rw [Int.sub_mul,e1,hY,<-Int.mul_assoc];omega
 have e3:0<=N - (q1*4294967296+q0)*y:=by
  rcases Int.lt_or_le (N - (q1*4294967296+q0)*y) 0 with h | h
  ·have:=Int.mul_neg_of_neg_of_pos h hP;omega
  exact h
 have e4:N - (q1*4294967296+q0)*y < y:=by
  have:(N - (q1*4294967296+q0)*y)*P < y*P:=by rw [<-e2,<-hY];exact hr.2
  exact Int.lt_of_mul_lt_mul_right this (by omega)
 have e5:N=y*(q1*4294967296+q0)+(N - (q1*4294967296+q0)*y):=by rw [Int.mul_comm y];omega
 have e6:(N - (q1*4294967296+q0)*y)=N % y/\(q1*4294967296+q0)=N / y:=by
  have hq:N / y=q1*4294967296+q0:=by
   rw [e5,Int.mul_comm y,Int.add_comm,Int.add_mul_ediv_right _ _ (by omega),Int.ediv_eq_zero_of_lt (by omega) (by omega)];omega
  have:=Int.mul_ediv_add_emod N y
  rw [hq,Int.mul_comm y] at this
  exact ⟨by omega,hq.symm⟩
 refine ⟨e6.2,?_⟩
 rw [e2,Int.mul_ediv_cancel _ (by omega),e6.1]
theorem greaterThan (a1 a2 b1 b2:Int) (ha1:U64 a1) (ha2:U64 a2) (hb1:U64 b1) (hb2:U64 b2) (w:World):
 Calls Tryz.prog 154 #[.int .u64 a1,.int .u64 a2,.int .u64 b1,.int .u64 b2] w fun e w'=>e=.returned (.bool (decide (b1*18446744073709551616+b2 < a1*18446744073709551616+a2)))/\w=w':=by
 refine Qd (vs:= [.int .u64 a1,.int .u64 a2,.int .u64 b1,.int .u64 b2]) Tryz.func154 rfl rfl ?_
 intro a H
 replace H:Hd a 22 [] [(0,.int .u64 a1),(1,.int .u64 a2),(2,.int .u64 b1),(3,.int .u64 b2)]:=H
 refine Sq (Rl [_] (wl H (Ez.asn H rfl) rfl (kW (kS ?_))));clear H a;intro a H
 rcases Int.lt_trichotomy b1 a1 with hq | hq | hq
 ·refine Rl [_,_,_,_,_,_,_,_,_,_,_,_,_,_] (wl H (Ez.mv H rfl) rfl (kM rfl rfl (kL (fun a H=>Ez.gtr (r:=true) H rfl rfl (by (simp;omega))) rfl (kM rfl rfl (kX rfl rfl rfl rfl rfl (kX rfl rfl rfl rfl rfl (kX rfl rfl rfl rfl rfl (kX rfl rfl rfl rfl rfl ?_))))))));clear H a;intro a H
  refine wlu H rfl rfl rfl rfl (by intro b hb;cases hb) rfl ?_;clear H a;intro a H
  refine wlu H rfl rfl rfl rfl (by intro b hb;cases hb) rfl ?_;clear H a;intro a H
  refine wlu H rfl rfl rfl rfl (by intro b hb;cases hb) rfl ?_;clear H a;intro a H
  refine wlx H rfl rfl rfl rfl rfl (kL (fun a H=>Ez.pkT H rfl rfl) rfl (kA rfl rfl (kP [(8,_)] rfl (kW ?_))));clear H a;intro a H
  refine Wr ?_
  refine rt1 H rfl rfl ?_
  unfold U64 at ha1 ha2 hb1 hb2
  exact ⟨by rw [decide_eq_true (by omega)],rfl⟩
 ·refine Rl [_,_,_,_,_,_,_,_,_,_,_,_,_,_] (wl H (Ez.mv H rfl) rfl (kM rfl rfl (kL (fun a H=>Ez.gtr (r:=false) H rfl rfl (by (simp;omega))) rfl (kM rfl rfl (kG (fun a H=>Ez.mv H rfl) rfl rfl rfl rfl rfl (kG (fun a H=>Ez.mv H rfl) rfl rfl rfl rfl rfl (kG (fun a H=>Ez.eql (r:=true) H rfl rfl (by (simp;omega))) rfl rfl rfl rfl rfl (kG (fun a H=>Ez.mv H rfl) rfl rfl rfl rfl rfl (kG (fun a H=>Ez.mv H rfl) rfl rfl rfl rfl rfl (kG (fun a H=>Ez.mv H rfl) rfl rfl rfl rfl rfl (kG (fun a H=>Ez.gtr H rfl rfl (rfl)) rfl rfl rfl rfl rfl (kG (fun a H=>Ez.pkT H rfl rfl) rfl rfl rfl rfl rfl (kL (fun a H=>Ez.pkF H rfl rfl) rfl (kA rfl rfl (kP [(8,_)] rfl (kW ?_))))))))))))))));clear H a;intro a H
  refine Wr ?_
  refine rt1 H rfl rfl ?_
  subst hq
  refine ⟨?_,rfl⟩
  congr 2
  exact decide_eq_decide.2 (by omega)
 refine Rl [_,_,_,_,_,_,_,_,_,_,_,_,_,_] (wl H (Ez.mv H rfl) rfl (kM rfl rfl (kL (fun a H=>Ez.gtr (r:=false) H rfl rfl (by (simp;omega))) rfl (kM rfl rfl (kG (fun a H=>Ez.mv H rfl) rfl rfl rfl rfl rfl (kG (fun a H=>Ez.mv H rfl) rfl rfl rfl rfl rfl (kG (fun a H=>Ez.eql (r:=false) H rfl rfl (by (simp;omega))) rfl rfl rfl rfl rfl (kG (fun a H=>Ez.mv H rfl) rfl rfl rfl rfl rfl (kX rfl rfl rfl rfl rfl (kX rfl rfl rfl rfl rfl (kX rfl rfl rfl rfl rfl (kG (fun a H=>Ez.pkF H rfl rfl) rfl rfl rfl rfl rfl (kL (fun a H=>Ez.pkF H rfl rfl) rfl (kA rfl rfl (kP [(8,_)] rfl (kW ?_))))))))))))))));clear H a;intro a H
 refine Wr ?_
 refine rt1 H rfl rfl ?_
 unfold U64 at ha1 ha2 hb1 hb2
 exact ⟨by rw [decide_eq_false (by omega)],rfl⟩
set_option maxHeartbeats 2000000 in
theorem bitsDiv64 (hi lo:Int) (yn:Nat) (hhi:U64 hi) (hlo:U64 lo) (hy:U64 yn) (hlt:hi < yn) (w:World):
 Calls Tryz.prog 168 #[.int .u64 hi,.int .u64 lo,.int .u64 yn] w fun e w'=>e=.returned (.tuple #[.int .u64 ((hi*18446744073709551616+lo) / yn),.int .u64 ((hi*18446744073709551616+lo) % yn)])/\Cd w w':=by
 obtain ⟨w0,hw0⟩:∃w0,w0=w:=⟨w,rfl⟩
 rw [<-hw0]
 clear hw0 w
 have b64:IntKind.u64.bits=64:=rfl
 have hy1:=hy.2
 have hhi0:=hhi.1
 refine Qd (vs:= [.int .u64 hi,.int .u64 lo,.int .u64 yn]) Tryz.func168 rfl rfl ?_
 intro a H
 replace H:Hd a 135 [] [(0,.int .u64 hi),(1,.int .u64 lo),(2,.int .u64 yn)]:=H
 refine Sq (Rl [_,_] (wl H (Ez.asn H rfl) rfl (kA rfl rfl (kW (kS (kS (kR [_,_] (kM rfl rfl (kL (fun a H=>Ez.eql (r:=false) H rfl rfl (by (simp;omega))) rfl (kP [(0,_),(1,_),(2,_),(6,_),(7,_),(20,_)] rfl (kW ?_)))))))))));clear H a;intro a H
 refine Cf (H.o rfl) (Wk0 (thn (Sq (Sq (Rl [_,_,_] (wl H (Ez.mv H rfl) rfl (kM rfl rfl (kL (fun a H=>Ez.leq (r:=false) H rfl rfl (by (simp;omega))) rfl (kP [(0,_),(1,_),(2,_),(6,_),(7,_),(24,_)] rfl (kW ?_))))))))));clear H a;intro a H
 refine Cf (H.o rfl) (Wk0 (thn (Sq (Sq (Rl [_,_] (wl H (Ez.mv H rfl) rfl (kL (fun a H=>Ez.eql H rfl rfl (rfl)) rfl (kP [(0,_),(1,_),(2,_),(6,_),(7,_),(27,_)] rfl (kW ?_)))))))));clear H a;intro a H
 refine Cs (H.o rfl) (fun hh=>?_) (fun hh=>?_)
 ·have hh0:hi=0:=by simpa using hh
  refine Sq (Qr (ls:= [_,_,_,_,_,_,_,_]) Qb (by kernel_rfl) (wq H (fun w2 hw2=>Ez.mv H rfl) rfl (jM rfl rfl (jL (fun a H w2 hw2=>Ez.quo H rfl rfl hlo.1 (by omega) (wqq hlo.1 hlo.2 (by omega)) rfl) rfl (jM rfl rfl (jM rfl rfl (jL (fun a H w2 hw2=>Ez.rem H rfl rfl hlo.1 (by omega) rfl) rfl (jA rfl rfl (jA rfl rfl ?_)))))))));clear H a;intro a H
  refine wqe ?_
  intro w1 hw
  skip
  replace H:Hd a 135 [] [(0,_),(1,_),(2,_),(6,_),(7,_)]:=H.pick [0,1,2,6,7]
  refine Wr (thr ?_)
  refine rt2 H rfl rfl rfl ?_
  subst hh0
  rw [Int.zero_mul,Int.zero_add]
  exact ⟨rfl,hw⟩
 have hh0:hi≠0:=by simpa using hh
 refine Wk0 (thn (Sq (Rl [_,_,_,_] (wl H (Ez.mv H rfl) rfl ?_))));clear H a;intro a H
 refine wk H cf176 (leadingZeros64 yn (by omega) (by omega) w0) rfl rfl ?_
 rintro _ w1 ⟨s,rfl,hs,rfl⟩
 refine ⟨_,rfl,?_⟩;clear H a;intro a H
 obtain ⟨hs1,hs2,hs3⟩:=hs
 obtain ⟨P,hP⟩:∃P:Int,P=2 ^ s:=⟨_,rfl⟩
 obtain ⟨R,hR⟩:∃R:Int,R=2 ^ (64 - s):=⟨_,rfl⟩
 have hPp:0 < P:=by rw [hP];exact Jo s
 have hRp:0 < R:=by rw [hR];exact Jo _
 have hPR:P*R=18446744073709551616:=by rw [hP,hR];exact pow_split (by omega)
 obtain ⟨Y,hY⟩:∃Y:Int,Y=yn*P:=⟨_,rfl⟩
 have hYn:Y=((yn*2 ^ s:Nat):Int):=by rw [hY,hP];simp
 have hYb:9223372036854775808<=Y/\Y < 18446744073709551616:=by omega
 have hl:=lohi hlo hPp hRp hPR
 have hhi2:hi*P+P<=Y:=by
  have:=Mr (show hi+1<=yn by omega) (Int.le_of_lt hPp)
  rw [Int.add_mul,Int.one_mul] at this;omega
 have hhP:0<=hi*P:=Mn hhi.1 (Int.le_of_lt hPp)
 obtain ⟨v1,hv1⟩:∃v1,v1=Y / 4294967296:=⟨_,rfl⟩
 obtain ⟨v0,hv0⟩:∃v0,v0=Y % 4294967296:=⟨_,rfl⟩
 obtain ⟨u,hu⟩:∃u,u=hi*P+lo / R:=⟨_,rfl⟩
 obtain ⟨L,hL⟩:∃L,L=lo*P % 18446744073709551616:=⟨_,rfl⟩
 obtain ⟨d1,hd1⟩:∃d1,d1=L / 4294967296:=⟨_,rfl⟩
 obtain ⟨d0,hd0⟩:∃d0,d0=L % 4294967296:=⟨_,rfl⟩
 have bv1:2147483648<=v1/\v1 < 4294967296:=by omega
 have bv0:0<=v0/\v0 < 4294967296:=by omega
 have bu:0<=u/\u < Y:=by omega
 have bL:0<=L/\L < 18446744073709551616:=by omega
 have bd1:0<=d1/\d1 < 4294967296:=by omega
 have bd0:0<=d0/\d0 < 4294967296:=by omega
 have hYv:Y=v1*4294967296+v0:=by omega
 have QP1:=QP.of hYv bv1 bv0 bu bd1
 have hej:bits .or .u64 (hi*P) (lo / R)=u:=by
  rw [hu,hP];refine orJ s (by omega) ?_ (by rw [<-hP];exact Int.mul_emod_left _ _) ?_
  ·rw [<-hP];unfold U64;omega
  rw [<-hP];exact hl.2.1
 obtain ⟨q,hq⟩:∃q,q=(u*4294967296+d1) / Y:=⟨_,rfl⟩
 rw [<-hq] at QP1
 refine wl H (Ez.cv (r:=(s:Int)) H rfl ty3 ty54 (by (rw [Wu];omega))) rfl (kA rfl rfl (kP [(0,_),(1,_),(2,_),(6,_),(7,_),(8,_)] rfl (kW (kS (kR [_,_,_,_] (kM rfl rfl (kM rfl rfl (kL (fun a H=>Ez.shlU H rfl rfl s rfl (by omega) (show (yn:Int)*2 ^ s % 18446744073709551616=Y by rw [<-hP,<-hY];omega)) rfl (kA rfl rfl (kP [(0,_),(1,_),(2,_),(6,_),(7,_),(8,_)] rfl (kW (kS (kR [_,_,_] (kM rfl rfl (kL (fun a H=>Ez.shrU (r:=v1) H rfl rfl 32 rfl (by decide) (by omega)) rfl (kA rfl rfl (kP [(0,_),(1,_),(2,_),(6,_),(7,_),(8,_),(9,_)] rfl (kW (kS (kR [_,_,_] (kM rfl rfl (kL (fun a H=>Ez.andM (r:=v0) H 32 (by decide) rfl rfl (by unfold U64;omega) (by omega)) rfl (kA rfl rfl (kP [(0,_),(1,_),(2,_),(6,_),(7,_),(8,_),(9,_),(10,_)] rfl (kW (kS (kR [_,_,_,_,_,_,_,_,_] ?_)))))))))))))))))))))))))));clear H a;intro a H
 refine wl H (Ez.mv H rfl) rfl (kM rfl rfl (kL (fun a H=>Ez.shlU H rfl rfl s rfl (by omega) (show hi*2 ^ s % 18446744073709551616=hi*P by rw [<-hP];omega)) rfl (kM rfl rfl (kM rfl rfl (kL (fun a H=>Ez.subU (r:=((64 - s:Nat):Int)) H rfl rfl (by omega)) rfl (kL (fun a H=>Ez.shrU H rfl rfl (64 - s) rfl (by omega) (show lo / 2 ^ (64 - s)=lo / R by rw [hR])) rfl (kL (fun a H=>Ez.or H rfl rfl (hej)) rfl (kA rfl rfl (kP [(1,_),(2,_),(6,_),(7,_),(8,_),(9,_),(10,_),(11,_)] rfl (kW (kS (kR [_,_,_,_] (kM rfl rfl (kM rfl rfl (kL (fun a H=>Ez.shlU H rfl rfl s rfl (by omega) (show lo*2 ^ s % 18446744073709551616=L by rw [<-hP,hL])) rfl (kA rfl rfl (kP [(2,_),(6,_),(7,_),(8,_),(9,_),(10,_),(11,_),(12,_)] rfl (kW (kS (kR [_,_,_] (kM rfl rfl (kL (fun a H=>Ez.shrU (r:=d1) H rfl rfl 32 rfl (by decide) (by omega)) rfl (kA rfl rfl (kP [(2,_),(6,_),(7,_),(8,_),(9,_),(10,_),(11,_),(12,_),(13,_)] rfl (kW (kS (kR [_,_,_] ?_)))))))))))))))))))))))))));clear H a;intro a H
 refine wl H (Ez.mv H rfl) rfl (kL (fun a H=>Ez.andM (r:=d0) H 32 (by decide) rfl rfl (by unfold U64;omega) (by omega)) rfl (kA rfl rfl (kP [(2,_),(6,_),(7,_),(8,_),(9,_),(10,_),(11,_),(13,_),(14,_)] rfl (kW (kS (kR [_,_,_,_] (kM rfl rfl (kM rfl rfl (kL (fun a H=>Ez.quo H rfl rfl bu.1 (by omega) (wqq bu.1 (by omega) (by omega)) rfl) rfl (kA rfl rfl (kP [(2,_),(6,_),(7,_),(8,_),(9,_),(10,_),(11,_),(13,_),(14,_),(15,_)] rfl (kW (kS (kR [_,_,_,_,_,_] (kM rfl rfl (kM rfl rfl (kM rfl rfl (kL (fun a H=>Ez.mulU (r:=u / v1*v1) H rfl rfl (by have e0:=QP1.init;have e1:=e0.eq;have e2:=e0.r0;have e3:=Mn (Int.ediv_nonneg bu.1 (show (0:Int)<=v1 by omega)) (show (0:Int)<=v1 by omega);omega)) rfl (kL (fun a H=>Ez.subU (r:=u - u / v1*v1) H rfl rfl (by have e0:=QP1.init;have e1:=e0.eq;have e2:=e0.r0;have e3:=Mn (Int.ediv_nonneg bu.1 (show (0:Int)<=v1 by omega)) (show (0:Int)<=v1 by omega);omega)) rfl (kA rfl rfl (kP [(2,_),(6,_),(7,_),(8,_),(9,_),(10,_),(11,_),(13,_),(14,_),(15,_),(16,_)] rfl (kW ?_))))))))))))))))))))));clear H a;intro a H
 refine Jf (fun a w=>Hd a 135 [] [(2,.int .u64 Y),(8,.int .u64 (s:Int)),(9,.int .u64 v1),(10,.int .u64 v0),(11,.int .u64 u),(13,.int .u64 d1),(14,.int .u64 d0),(15,.int .u64 q)]/\w0=w) ?_ ?_
 ·refine Wb ?_
  refine Qo (fun mm a w=>∃q1 r:Int,mm=q1.toNat/\Hd a 135 [] [(2,.int .u64 Y),(8,.int .u64 (s:Int)),(9,.int .u64 v1),(10,.int .u64 v0),(11,.int .u64 u),(13,.int .u64 d1),(14,.int .u64 d0),(15,.int .u64 q1),(16,.int .u64 r)]/\QE u v1 v0 d1 q q1 r/\r < 4294967296/\w0=w) ((u / v1).toNat) ?_ ?_
  ·replace H:Hd a 135 [] [(2,_),(8,_),(9,_),(10,_),(11,_),(13,_),(14,_),(15,_),(16,_)]:=H.pick [2,8,9,10,11,13,14,15,16]
   exact ⟨_,_,rfl,H,QP1.init,by have e0:=QP1.init;have e1:=e0.eq;have e2:=El u (show 0 < v1 by omega);have e3:=Int.mul_ediv_add_emod u v1;rw [Int.mul_comm v1] at e3;omega,rfl⟩
  clear H a
  intro mm a w hI
  obtain ⟨q1,r,rfl,H,hE,hrb,rfl⟩:=hI
  have q1n:0<=q1:=by have:=QP1.q0;have:=hE.le;omega
  have q1h:=hE.hi
  have rn:=hE.r0
  refine Sq (Sq ?_)
  by_cases hbq:4294967296<=q1
  ·refine Rl [_,_,_,_,_,_,_,_,_,_,_,_] (wl H (Ez.mv H rfl) rfl (kL (fun a H=>Ez.geq (r:=true) H rfl rfl (by (simp;omega))) rfl (kM rfl rfl (kX rfl rfl rfl rfl rfl (kX rfl rfl rfl rfl rfl (kX rfl rfl rfl rfl rfl (kX rfl rfl rfl rfl rfl (kX rfl rfl rfl rfl rfl (kX rfl rfl rfl rfl rfl (kX rfl rfl rfl rfl rfl (kX rfl rfl rfl rfl rfl (kL (fun a H=>Ez.pkT H rfl rfl) rfl (kP [(2,_),(8,_),(9,_),(10,_),(11,_),(13,_),(14,_),(15,_),(16,_),(78,_)] rfl (kW ?_))))))))))))));clear H a;intro a H
   have hcnd:4294967296<=q1\/4294967296*r+d1 < q1*v0:=.inl hbq
   refine Ct (H.o rfl) (Wk0 (thn (Wb (Sq ?_))))
   have q1p:1<=q1:=by
    rcases hcnd with hc | hc
    ·omega
    rcases Int.lt_or_le q1 1 with h | h
    ·have:q1=0:=by omega
     subst this;simp at hc;omega
    exact h
   refine Rl [_,_,_] (wl H (Ez.mv H rfl) rfl (kL (fun a H=>Ez.subU (r:=q1 - 1) H rfl rfl (by omega)) rfl (kA rfl rfl (kP [(2,_),(8,_),(9,_),(10,_),(11,_),(13,_),(14,_),(15,_),(16,_)] rfl (kW (kS (kR [_,_,_,_] (kM rfl rfl (kM rfl rfl (kL (fun a H=>Ez.addU (r:=r+v1) H rfl rfl (by omega)) rfl (kA rfl rfl (kP [(2,_),(8,_),(9,_),(10,_),(11,_),(13,_),(14,_),(15,_),(16,_)] rfl (kW (kS (kR [_,_] (kM rfl rfl (kL (fun a H=>Ez.geq H rfl rfl (rfl)) rfl (kP [(2,_),(8,_),(9,_),(10,_),(11,_),(13,_),(14,_),(15,_),(16,_),(85,_)] rfl (kW ?_)))))))))))))))))));clear H a;intro a H
   refine Cs (H.o rfl) (fun hb9=>?_) (fun hb9=>?_)
   ·have hge:4294967296<=r+v1:=by simpa using hb9
    refine We (bxn rfl (thx (bxe (thn ?_))))
    replace H:Hd a 135 [] [(2,_),(8,_),(9,_),(10,_),(11,_),(13,_),(14,_),(15,_)]:=H.pick [2,8,9,10,11,13,14,15]
    first | (have e9:=hE.exit1 QP1 hcn;subst e9;exact ⟨H,rfl⟩) | (have e9:=(hE.step QP1 hcnd).exit2 QP1 (by omega) hge;rw [e9] at H;exact ⟨H,rfl⟩)
   have hlt9:r+v1 < 4294967296:=by have:=Df hb9;omega
   refine Wk0 (bn (thn ?_))
   replace H:Hd a 135 [] [(2,_),(8,_),(9,_),(10,_),(11,_),(13,_),(14,_),(15,_),(16,_)]:=H.pick [2,8,9,10,11,13,14,15,16]
   have hE2:=hE.step QP1 hcnd
   exact ⟨(q1 - 1).toNat,by omega,q1 - 1,r+v1,rfl,H,hE2,by omega,rfl⟩
  refine Rl [_,_,_,_,_,_,_,_,_,_,_,_] (wl H (Ez.mv H rfl) rfl (kL (fun a H=>Ez.geq (r:=false) H rfl rfl (by (simp;omega))) rfl (kM rfl rfl (kG (fun a H=>Ez.mv H rfl) rfl rfl rfl rfl rfl (kG (fun a H=>Ez.mv H rfl) rfl rfl rfl rfl rfl ?_)))));clear H a;intro a H
  have hm0:=half_mul (a:=q1) (b:=v0) (by omega) bv0
  refine wlg H (Ez.mulU (r:=q1*v0) H rfl rfl (by omega)) rfl rfl rfl rfl rfl (kG (fun a H=>Ez.mv H rfl) rfl rfl rfl rfl rfl (kG (fun a H=>Ez.mulU (r:=4294967296*r) H rfl rfl (by omega)) rfl rfl rfl rfl rfl (kG (fun a H=>Ez.mv H rfl) rfl rfl rfl rfl rfl (kG (fun a H=>Ez.addU (r:=4294967296*r+d1) H rfl rfl (by omega)) rfl rfl rfl rfl rfl (kG (fun a H=>Ez.gtr H rfl rfl (rfl)) rfl rfl rfl rfl rfl (kL (fun a H=>Ez.pkF H rfl rfl) rfl (kP [(2,_),(8,_),(9,_),(10,_),(11,_),(13,_),(14,_),(15,_),(16,_),(78,_)] rfl (kW ?_))))))));clear H a;intro a H
  refine Cs (H.o rfl) (fun hb=>?_) (fun hb=>?_)
  ·have hcnd:4294967296<=q1\/4294967296*r+d1 < q1*v0:=.inr (by simpa using hb)
   refine Wk0 (thn (Wb (Sq ?_)))
   have q1p:1<=q1:=by
    rcases hcnd with hc | hc
    ·omega
    rcases Int.lt_or_le q1 1 with h | h
    ·have:q1=0:=by omega
     subst this;simp at hc;omega
    exact h
   refine Rl [_,_,_] (wl H (Ez.mv H rfl) rfl (kL (fun a H=>Ez.subU (r:=q1 - 1) H rfl rfl (by omega)) rfl (kA rfl rfl (kP [(2,_),(8,_),(9,_),(10,_),(11,_),(13,_),(14,_),(15,_),(16,_)] rfl (kW (kS (kR [_,_,_,_] (kM rfl rfl (kM rfl rfl (kL (fun a H=>Ez.addU (r:=r+v1) H rfl rfl (by omega)) rfl (kA rfl rfl (kP [(2,_),(8,_),(9,_),(10,_),(11,_),(13,_),(14,_),(15,_),(16,_)] rfl (kW (kS (kR [_,_] (kM rfl rfl (kL (fun a H=>Ez.geq H rfl rfl (rfl)) rfl (kP [(2,_),(8,_),(9,_),(10,_),(11,_),(13,_),(14,_),(15,_),(16,_),(85,_)] rfl (kW ?_)))))))))))))))))));clear H a;intro a H
   refine Cs (H.o rfl) (fun hb9=>?_) (fun hb9=>?_)
   ·have hge:4294967296<=r+v1:=by simpa using hb9
    refine We (bxn rfl (thx (bxe (thn ?_))))
    replace H:Hd a 135 [] [(2,_),(8,_),(9,_),(10,_),(11,_),(13,_),(14,_),(15,_)]:=H.pick [2,8,9,10,11,13,14,15]
    first | (have e9:=hE.exit1 QP1 hcn;subst e9;exact ⟨H,rfl⟩) | (have e9:=(hE.step QP1 hcnd).exit2 QP1 (by omega) hge;rw [e9] at H;exact ⟨H,rfl⟩)
   have hlt9:r+v1 < 4294967296:=by have:=Df hb9;omega
   refine Wk0 (bn (thn ?_))
   replace H:Hd a 135 [] [(2,_),(8,_),(9,_),(10,_),(11,_),(13,_),(14,_),(15,_),(16,_)]:=H.pick [2,8,9,10,11,13,14,15,16]
   have hE2:=hE.step QP1 hcnd
   exact ⟨(q1 - 1).toNat,by omega,q1 - 1,r+v1,rfl,H,hE2,by omega,rfl⟩
  have hcn:q1*v0<=4294967296*r+d1:=by have:=Df hb;omega
  refine We (thx (thx (bxe (thn ?_))))
  replace H:Hd a 135 [] [(2,_),(8,_),(9,_),(10,_),(11,_),(13,_),(14,_),(15,_)]:=H.pick [2,8,9,10,11,13,14,15]
  first | (have e9:=hE.exit1 QP1 hcn;subst e9;exact ⟨H,rfl⟩) | (have e9:=(hE.step QP1 hcnd).exit2 QP1 (by omega) hge;rw [e9] at H;exact ⟨H,rfl⟩)
 clear H a
 intro a w hJ
 obtain ⟨H,rfl⟩:=hJ
 obtain ⟨r1,hr1⟩:∃r1,r1=u*4294967296+d1 - q*Y:=⟨_,rfl⟩
 have br1:0<=r1/\r1 < Y:=by have e1:=QP1.lo;have e2:=QP1.up;rw [Int.add_mul,Int.one_mul] at e2;omega
 have bq:0<=q/\q < 4294967296:=⟨QP1.q0,QP1.qb⟩
 have QP2:=QP.of hYv bv1 bv0 br1 bd0
 obtain ⟨p,hp⟩:∃p,p=(r1*4294967296+d0) / Y:=⟨_,rfl⟩
 rw [<-hp] at QP2
 refine Sq (Rl [_,_,_,_,_,_,_,_,_] (wl H (Ez.mv H rfl) rfl (kL (fun a H=>Ez.mulU H rfl rfl rfl) rfl (kM rfl rfl (kL (fun a H=>Ez.addU H rfl rfl rfl) rfl (kM rfl rfl (kM rfl rfl (kL (fun a H=>Ez.mulU H rfl rfl rfl) rfl (kL (fun a H=>Ez.subU (r:=r1) H rfl rfl (by omega)) rfl (kA rfl rfl (kP [(2,_),(8,_),(9,_),(10,_),(14,_),(15,_),(17,_)] rfl (kW (kS (kR [_,_,_,_] (kM rfl rfl (kM rfl rfl (kL (fun a H=>Ez.quo H rfl rfl br1.1 (by omega) (wqq br1.1 (by omega) (by omega)) rfl) rfl (kA rfl rfl (kP [(2,_),(8,_),(9,_),(10,_),(14,_),(15,_),(17,_),(18,_)] rfl (kW (kS (kR [_,_,_,_,_,_] (kM rfl rfl (kM rfl rfl (kM rfl rfl (kL (fun a H=>Ez.mulU (r:=r1 / v1*v1) H rfl rfl (by have e0:=QP2.init;have e1:=e0.eq;have e2:=e0.r0;have e3:=Mn (Int.ediv_nonneg br1.1 (show (0:Int)<=v1 by omega)) (show (0:Int)<=v1 by omega);omega)) rfl (kL (fun a H=>Ez.subU (r:=r1 - r1 / v1*v1) H rfl rfl (by have e0:=QP2.init;have e1:=e0.eq;have e2:=e0.r0;have e3:=Mn (Int.ediv_nonneg br1.1 (show (0:Int)<=v1 by omega)) (show (0:Int)<=v1 by omega);omega)) rfl ?_)))))))))))))))))))))))))));clear H a;intro a H
 refine wl H (Ez.asn H rfl) rfl (kP [(2,_),(8,_),(9,_),(10,_),(14,_),(15,_),(16,_),(17,_),(18,_)] rfl (kW ?_));clear H a;intro a H
 refine Jf (fun a w=>Hd a 135 [] [(2,.int .u64 Y),(8,.int .u64 (s:Int)),(14,.int .u64 d0),(15,.int .u64 q),(17,.int .u64 r1),(18,.int .u64 p)]/\w0=w) ?_ ?_
 ·refine Wb ?_
  refine Qo (fun mm a w=>∃q1 r:Int,mm=q1.toNat/\Hd a 135 [] [(2,.int .u64 Y),(8,.int .u64 (s:Int)),(9,.int .u64 v1),(10,.int .u64 v0),(14,.int .u64 d0),(15,.int .u64 q),(16,.int .u64 r),(17,.int .u64 r1),(18,.int .u64 q1)]/\QE r1 v1 v0 d0 p q1 r/\r < 4294967296/\w0=w) ((r1 / v1).toNat) ?_ ?_
  ·replace H:Hd a 135 [] [(2,_),(8,_),(9,_),(10,_),(14,_),(15,_),(16,_),(17,_),(18,_)]:=H.pick [2,8,9,10,14,15,16,17,18]
   exact ⟨_,_,rfl,H,QP2.init,by have e0:=QP2.init;have e1:=e0.eq;have e2:=El r1 (show 0 < v1 by omega);have e3:=Int.mul_ediv_add_emod r1 v1;rw [Int.mul_comm v1] at e3;omega,rfl⟩
  clear H a
  intro mm a w hI
  obtain ⟨q1,r,rfl,H,hE,hrb,rfl⟩:=hI
  have q1n:0<=q1:=by have:=QP2.q0;have:=hE.le;omega
  have q1h:=hE.hi
  have rn:=hE.r0
  refine Sq (Sq ?_)
  by_cases hbq:4294967296<=q1
  ·refine Rl [_,_,_,_,_,_,_,_,_,_,_,_] (wl H (Ez.mv H rfl) rfl (kL (fun a H=>Ez.geq (r:=true) H rfl rfl (by (simp;omega))) rfl (kM rfl rfl (kX rfl rfl rfl rfl rfl (kX rfl rfl rfl rfl rfl (kX rfl rfl rfl rfl rfl (kX rfl rfl rfl rfl rfl (kX rfl rfl rfl rfl rfl (kX rfl rfl rfl rfl rfl (kX rfl rfl rfl rfl rfl (kX rfl rfl rfl rfl rfl (kL (fun a H=>Ez.pkT H rfl rfl) rfl (kP [(2,_),(8,_),(9,_),(10,_),(14,_),(15,_),(16,_),(17,_),(18,_),(113,_)] rfl (kW ?_))))))))))))));clear H a;intro a H
   have hcnd:4294967296<=q1\/4294967296*r+d0 < q1*v0:=.inl hbq
   refine Ct (H.o rfl) (Wk0 (thn (Wb (Sq ?_))))
   have q1p:1<=q1:=by
    rcases hcnd with hc | hc
    ·omega
    rcases Int.lt_or_le q1 1 with h | h
    ·have:q1=0:=by omega
     subst this;simp at hc;omega
    exact h
   refine Rl [_,_,_] (wl H (Ez.mv H rfl) rfl (kL (fun a H=>Ez.subU (r:=q1 - 1) H rfl rfl (by omega)) rfl (kA rfl rfl (kP [(2,_),(8,_),(9,_),(10,_),(14,_),(15,_),(16,_),(17,_),(18,_)] rfl (kW (kS (kR [_,_,_,_] (kM rfl rfl (kM rfl rfl (kL (fun a H=>Ez.addU (r:=r+v1) H rfl rfl (by omega)) rfl (kA rfl rfl (kP [(2,_),(8,_),(9,_),(10,_),(14,_),(15,_),(16,_),(17,_),(18,_)] rfl (kW (kS (kR [_,_] (kM rfl rfl (kL (fun a H=>Ez.geq H rfl rfl (rfl)) rfl (kP [(2,_),(8,_),(9,_),(10,_),(14,_),(15,_),(16,_),(17,_),(18,_),(120,_)] rfl (kW ?_)))))))))))))))))));clear H a;intro a H
   refine Cs (H.o rfl) (fun hb9=>?_) (fun hb9=>?_)
   ·have hge:4294967296<=r+v1:=by simpa using hb9
    refine We (bxn rfl (thx (bxe (thn ?_))))
    replace H:Hd a 135 [] [(2,_),(8,_),(14,_),(15,_),(17,_),(18,_)]:=H.pick [2,8,14,15,17,18]
    first | (have e9:=hE.exit1 QP2 hcn;subst e9;exact ⟨H,rfl⟩) | (have e9:=(hE.step QP2 hcnd).exit2 QP2 (by omega) hge;rw [e9] at H;exact ⟨H,rfl⟩)
   have hlt9:r+v1 < 4294967296:=by have:=Df hb9;omega
   refine Wk0 (bn (thn ?_))
   replace H:Hd a 135 [] [(2,_),(8,_),(9,_),(10,_),(14,_),(15,_),(16,_),(17,_),(18,_)]:=H.pick [2,8,9,10,14,15,16,17,18]
   have hE2:=hE.step QP2 hcnd
   exact ⟨(q1 - 1).toNat,by omega,q1 - 1,r+v1,rfl,H,hE2,by omega,rfl⟩
  refine Rl [_,_,_,_,_,_,_,_,_,_,_,_] (wl H (Ez.mv H rfl) rfl (kL (fun a H=>Ez.geq (r:=false) H rfl rfl (by (simp;omega))) rfl (kM rfl rfl (kG (fun a H=>Ez.mv H rfl) rfl rfl rfl rfl rfl (kG (fun a H=>Ez.mv H rfl) rfl rfl rfl rfl rfl ?_)))));clear H a;intro a H
  have hm0:=half_mul (a:=q1) (b:=v0) (by omega) bv0
  refine wlg H (Ez.mulU (r:=q1*v0) H rfl rfl (by omega)) rfl rfl rfl rfl rfl (kG (fun a H=>Ez.mv H rfl) rfl rfl rfl rfl rfl (kG (fun a H=>Ez.mulU (r:=4294967296*r) H rfl rfl (by omega)) rfl rfl rfl rfl rfl (kG (fun a H=>Ez.mv H rfl) rfl rfl rfl rfl rfl (kG (fun a H=>Ez.addU (r:=4294967296*r+d0) H rfl rfl (by omega)) rfl rfl rfl rfl rfl (kG (fun a H=>Ez.gtr H rfl rfl (rfl)) rfl rfl rfl rfl rfl (kL (fun a H=>Ez.pkF H rfl rfl) rfl (kP [(2,_),(8,_),(9,_),(10,_),(14,_),(15,_),(16,_),(17,_),(18,_),(113,_)] rfl (kW ?_))))))));clear H a;intro a H
  refine Cs (H.o rfl) (fun hb=>?_) (fun hb=>?_)
  ·have hcnd:4294967296<=q1\/4294967296*r+d0 < q1*v0:=.inr (by simpa using hb)
   refine Wk0 (thn (Wb (Sq ?_)))
   have q1p:1<=q1:=by
    rcases hcnd with hc | hc
    ·omega
    rcases Int.lt_or_le q1 1 with h | h
    ·have:q1=0:=by omega
     subst this;simp at hc;omega
    exact h
   refine Rl [_,_,_] (wl H (Ez.mv H rfl) rfl (kL (fun a H=>Ez.subU (r:=q1 - 1) H rfl rfl (by omega)) rfl (kA rfl rfl (kP [(2,_),(8,_),(9,_),(10,_),(14,_),(15,_),(16,_),(17,_),(18,_)] rfl (kW (kS (kR [_,_,_,_] (kM rfl rfl (kM rfl rfl (kL (fun a H=>Ez.addU (r:=r+v1) H rfl rfl (by omega)) rfl (kA rfl rfl (kP [(2,_),(8,_),(9,_),(10,_),(14,_),(15,_),(16,_),(17,_),(18,_)] rfl (kW (kS (kR [_,_] (kM rfl rfl (kL (fun a H=>Ez.geq H rfl rfl (rfl)) rfl (kP [(2,_),(8,_),(9,_),(10,_),(14,_),(15,_),(16,_),(17,_),(18,_),(120,_)] rfl (kW ?_)))))))))))))))))));clear H a;intro a H
   refine Cs (H.o rfl) (fun hb9=>?_) (fun hb9=>?_)
   ·have hge:4294967296<=r+v1:=by simpa using hb9
    refine We (bxn rfl (thx (bxe (thn ?_))))
    replace H:Hd a 135 [] [(2,_),(8,_),(14,_),(15,_),(17,_),(18,_)]:=H.pick [2,8,14,15,17,18]
    first | (have e9:=hE.exit1 QP2 hcn;subst e9;exact ⟨H,rfl⟩) | (have e9:=(hE.step QP2 hcnd).exit2 QP2 (by omega) hge;rw [e9] at H;exact ⟨H,rfl⟩)
   have hlt9:r+v1 < 4294967296:=by have:=Df hb9;omega
   refine Wk0 (bn (thn ?_))
   replace H:Hd a 135 [] [(2,_),(8,_),(9,_),(10,_),(14,_),(15,_),(16,_),(17,_),(18,_)]:=H.pick [2,8,9,10,14,15,16,17,18]
   have hE2:=hE.step QP2 hcnd
   exact ⟨(q1 - 1).toNat,by omega,q1 - 1,r+v1,rfl,H,hE2,by omega,rfl⟩
  have hcn:q1*v0<=4294967296*r+d0:=by have:=Df hb;omega
  refine We (thx (thx (bxe (thn ?_))))
  replace H:Hd a 135 [] [(2,_),(8,_),(14,_),(15,_),(17,_),(18,_)]:=H.pick [2,8,14,15,17,18]
  first | (have e9:=hE.exit1 QP2 hcn;subst e9;exact ⟨H,rfl⟩) | (have e9:=(hE.step QP2 hcnd).exit2 QP2 (by omega) hge;rw [e9] at H;exact ⟨H,rfl⟩)
 clear H a
 intro a w hJ
 obtain ⟨H,rfl⟩:=hJ
 obtain ⟨r0,hr0⟩:∃r0,r0=r1*4294967296+d0 - p*Y:=⟨_,rfl⟩
 have br0:0<=r0/\r0 < Y:=by have e1:=QP2.lo;have e2:=QP2.up;rw [Int.add_mul,Int.one_mul] at e2;omega
 have bp:0<=p/\p < 4294967296:=⟨QP2.q0,QP2.qb⟩
 refine Sq (Rl [_,_,_,_,_,_,_,_,_,_,_,_,_,_,_,_] (wl H (Ez.mv H rfl) rfl (kL (fun a H=>Ez.mulU H rfl rfl rfl) rfl (kM rfl rfl (kL (fun a H=>Ez.addU (r:=q*4294967296+p) H rfl rfl (by omega)) rfl (kM rfl rfl (kL (fun a H=>Ez.mulU H rfl rfl rfl) rfl (kM rfl rfl (kL (fun a H=>Ez.addU H rfl rfl rfl) rfl (kM rfl rfl (kM rfl rfl (kL (fun a H=>Ez.mulU H rfl rfl rfl) rfl (kL (fun a H=>Ez.subU (r:=r0) H rfl rfl (by omega)) rfl (kM rfl rfl (kL (fun a H=>Ez.shrU H rfl rfl s rfl (by omega) (show r0 / 2 ^ s=r0 / P by rw [hP])) rfl (kA rfl rfl (kA rfl rfl (kP [(6,_),(7,_)] rfl (kW ?_)))))))))))))))))));clear H a;intro a H
 refine Wr ?_
 refine rt2 H rfl rfl rfl ?_
 refine ⟨?_,Cd.refl _⟩
 obtain ⟨e1,e2⟩:=div_end (N:=hi*18446744073709551616+lo) (y:=yn) (P:=P) (q1:=q) (q0:=p) (r1:=r1) (r0:=r0) (u:=u) (d1:=d1) (d0:=d0) (Y:=Y) hPp (by omega) hY (by omega) (by omega) br0 (by rw [Int.add_mul,show hi*18446744073709551616*P=hi*P*18446744073709551616 by ac_rfl];omega)
 rw [e1,e2]
theorem bitsDiv (hi lo:Int) (yn:Nat) (hhi:U64 hi) (hlo:U64 lo) (hy:U64 yn) (hlt:hi < yn) (w:World):
 Calls Tryz.prog 145 #[.int .u64 hi,.int .u64 lo,.int .u64 yn] w fun e w'=>e=.returned (.tuple #[.int .u64 ((hi*18446744073709551616+lo) / yn),.int .u64 ((hi*18446744073709551616+lo) % yn)])/\Cd w w':=by
 refine Qd (vs:= [.int .u64 hi,.int .u64 lo,.int .u64 yn]) Tryz.func145 rfl rfl ?_
 intro a H
 replace H:Hd a 19 [] [(0,.int .u64 hi),(1,.int .u64 lo),(2,.int .u64 yn)]:=H
 refine Sq (Rl [_,_] (wl H (Ez.asn H rfl) rfl (kA rfl rfl (kW (kS (kR [_,_,_,_,_,_,_,_,_] (kM rfl rfl (kM rfl rfl (kM rfl rfl ?_)))))))));clear H a;intro a H
 refine wk H cf168 (bitsDiv64 hi lo yn hhi hlo hy hlt w) rfl rfl ?_
 rintro _ w1 ⟨rfl,hw⟩
 refine ⟨_,rfl,?_⟩;clear H a;intro a H
 refine wl H (Ez.mv H rfl) rfl (kL (fun a H=>Ez.ext0 H rfl) rfl (kL (fun a H=>Ez.ext1 H rfl) rfl (kA rfl rfl (kA rfl rfl (kP [(6,_),(7,_),(8,_),(9,_)] rfl (kW (kS (kR [_,_,_,_] (kM rfl rfl (kM rfl rfl (kA rfl rfl (kA rfl rfl (kP [(6,_),(7,_)] rfl (kW ?_))))))))))))));clear H a;intro a H
 refine Wr ?_
 refine rt2 H rfl rfl rfl ?_
 exact ⟨rfl,hw⟩
end
section
set_option maxRecDepth 8000
theorem Lz.uniq {x s t:Nat} (h:Lz x s) (h':Lz x t):s=t:=by
 have key:∀{a b:Nat},Lz x a->Lz x b->a < b->False:=by
  intro a b ha hb hlt
  have e:x*2 ^ b=x*2 ^ a*2 ^ (b - a):=by rw [Nat.mul_assoc,<-Nat.pow_add,show a+(b - a)=b by omega]
  have h2:2<=2 ^ (b - a):=by have:=Nat.pow_le_pow_right (show 0 < 2 by decide) (show 1<=b - a by omega);simpa using this
  have h3:=Nat.mul_le_mul_left (x*2 ^ a) h2
  have:=ha.2.1;have:=hb.2.2
  omega
 rcases Nat.lt_trichotomy s t with h1 | h1 | h1
 ·exact (key h h' h1).elim
 ·exact h1
 exact (key h' h h1).elim
def RP (y:Nat) (m:Int):Prop:=U64 m/\∀s,Lz y s->(m+18446744073709551616)*(y*2 ^ s:Nat)<=340282366920938463463374607431768211455/\340282366920938463463374607431768211455 < (m+18446744073709551616+1)*(y*2 ^ s:Nat)
theorem Ez.not64 {a:Act} {N:Nat} {ds:List Deferred} {l:Env} {w:World} {d:Option Nat} {ty:TypeId} {pos:String} {after:Array Edge} {g:Option (Nat × Bool)} (H:Hd a N ds l) {x:Operand} {n:Int} (h:ov l x=some (.int .u64 n)) (hn:U64 n):
 (execOp a.eval ⟨d,.unOp .xor 54 x,ty,pos,after,g⟩).run Tryz.prog w=.ok (.value (.int .u64 (18446744073709551615 - n))) w:=by
 have e:=H.o h
 have h2:=hn.2
 obtain ⟨n,rfl⟩:=Eo hn.1
 have e3:(BitVec.ofInt 64 18446744073709551615 ^^^ BitVec.ofInt 64 (n:Int)).toNat=18446744073709551615 - n:=by
  rw [show BitVec.ofInt 64 18446744073709551615=BitVec.allOnes 64 by decide,BitVec.allOnes_xor,BitVec.toNat_not,ofInt_u64 n (by omega)]
 have e2:IntKind.u64.wrap ((18446744073709551615 - n:Nat):Int)=18446744073709551615 - n:=by rw [Wu];omega
 have e1:(Op.unary .xor (.int .u64 n)).run Tryz.prog w=.ok (.int .u64 (18446744073709551615 - n)) w:=by
  have e4:(Op.unary .xor (.int .u64 n)).run Tryz.prog w=.ok (.int .u64 (IntKind.u64.wrap ((BitVec.ofInt 64 18446744073709551615 ^^^ BitVec.ofInt 64 (n:Int)).toNat:Int))) w:=rfl
  rw [e4,e3,e2]
 simp only [execOp,e,Sem.run_bind,e1,Result.andThen];rfl
theorem reciprocalWord (y:Nat) (hy:y < 18446744073709551616) (hy0:0 < y) (w:World):
 Calls Tryz.prog 146 #[.int .u64 y] w fun e w'=>∃m:Int,e=.returned (.int .u64 m)/\RP y m/\Cd w w':=by
 refine Qd (vs:= [.int .u64 y]) Tryz.func146 rfl rfl ?_
 intro a H
 replace H:Hd a 22 [] [(0,.int .u64 y)]:=H
 refine Sq (Rl [_] (wl H (Ez.asn H rfl) rfl (kW (kS (kR [_,_,_,_,_] (kM rfl rfl (kM rfl rfl ?_)))))));clear H a;intro a H
 refine wk H cf120 (nlz y hy hy0 w) rfl rfl ?_
 rintro _ w1 ⟨s,rfl,hs,rfl⟩
 refine ⟨_,rfl,?_⟩;clear H a;intro a H
 obtain ⟨hs1,hs2,hs3⟩:=id hs
 obtain ⟨D,hD⟩:∃D:Nat,D=y*2 ^ s:=⟨_,rfl⟩
 have b64:IntKind.u64.bits=64:=rfl
 have eD:(y:Int)*2 ^ s=(D:Int):=by rw [hD];simp
 refine wl H (Ez.shlU H rfl rfl s rfl (by omega) (show (y:Int)*2 ^ s % 18446744073709551616=(D:Int) by rw [eD];omega)) rfl (kA rfl rfl (kP [(2,_),(3,_)] rfl (kW (kS (kR [_,_,_] (kM rfl rfl (kL (fun a H=>Ez.not64 H rfl (by unfold U64;omega)) rfl (kA rfl rfl (kP [(2,_),(3,_),(4,_)] rfl (kW (kS (kR [_] (kA rfl rfl (kW (kS (kR [_,_,_,_,_,_,_,_,_] (kM rfl rfl (kM rfl rfl (kM rfl rfl ?_)))))))))))))))))));clear H a;intro a H
 refine wk H cf145 (bitsDiv (18446744073709551615 - D) 18446744073709551615 D (by unfold U64;omega) (by unfold U64;omega) (by unfold U64;omega) (by omega) w) rfl rfl ?_
 rintro _ w1 ⟨rfl,hw⟩
 refine ⟨_,rfl,?_⟩;clear H a;intro a H
 refine wl H (Ez.mv H rfl) rfl (kL (fun a H=>Ez.ext0 H rfl) rfl (kL (fun a H=>Ez.ext1 H rfl) rfl (kA rfl rfl (kA rfl rfl (kP [(2,_),(6,_)] rfl (kW (kS (kR [_,_] (kM rfl rfl (kA rfl rfl (kP [(2,_)] rfl (kW ?_))))))))))));clear H a;intro a H
 refine Wr ?_
 refine rt1 H rfl rfl ?_
 refine ⟨_,rfl,⟨?_,fun t ht=>?_⟩,hw⟩
 ·have e1:=Int.ediv_nonneg (show (0:Int)<=(18446744073709551615 - D)*18446744073709551616+18446744073709551615 by omega) (show (0:Int)<=D by omega)
  have e2:((18446744073709551615 - D)*18446744073709551616+18446744073709551615:Int) / D < 18446744073709551616:=Int.ediv_lt_of_lt_mul (by omega) (by omega)
  exact ⟨e1,e2⟩
 have:=ht.uniq hs
 subst this
 rw [<-hD]
 have e1:=Int.ediv_mul_le ((18446744073709551615 - D)*18446744073709551616+18446744073709551615:Int) (show (D:Int)≠0 by omega)
 have e2:=Int.lt_ediv_add_one_mul_self ((18446744073709551615 - D)*18446744073709551616+18446744073709551615:Int) (show (0:Int) < D by omega)
 generalize ((18446744073709551615 - D)*18446744073709551616+18446744073709551615:Int) / D=m at e1 e2 ⊢
 simp only [Int.add_mul,Int.one_mul] at e2 ⊢
 omega
theorem div_scale {N y P q r:Int} (hP:0 < P) (hy:0 < y) (h:N*P=q*(y*P)+r) (hr:0<=r/\r < y*P):q=N / y/\r / P=N % y:=by
 have e2:r=(N - q*y)*P:=by rw [Int.sub_mul,h,<-Int.mul_assoc];omega
 have e3:0<=N - q*y:=by
  rcases Int.lt_or_le (N - q*y) 0 with h' | h'
  ·have:=Int.mul_neg_of_neg_of_pos h' hP;omega
  exact h'
 have e4:N - q*y < y:=by
  have:(N - q*y)*P < y*P:=by rw [<-e2];exact hr.2
  exact Int.lt_of_mul_lt_mul_right this (by omega)
 have e5:N=y*q+(N - q*y):=by rw [Int.mul_comm y];omega
 have hq:N / y=q:=by
  rw [e5,Int.mul_comm y,Int.add_comm,Int.add_mul_ediv_right _ _ (by omega),Int.ediv_eq_zero_of_lt (by omega) (by omega)];omega
 have:=Int.mul_ediv_add_emod N y
 rw [hq,Int.mul_comm y] at this
 refine ⟨hq.symm,?_⟩
 rw [e2,Int.mul_ediv_cancel _ (by omega)];omega
theorem recip_guess {m X1 X0 d T:Int} (hd:9223372036854775808<=d/\d < 18446744073709551616) (hX1:0<=X1/\X1 < d) (hX0:U64 X0) (hm:0<=m)
 (h1:(m+18446744073709551616)*d<=340282366920938463463374607431768211455) (h2:340282366920938463463374607431768211455 < (m+18446744073709551616+1)*d)
 (t1:T*18446744073709551616<=m*X1+X1*18446744073709551616+X0) (t2:m*X1+X1*18446744073709551616+X0 < (T+1)*18446744073709551616):
 0<=X1*18446744073709551616+X0 - d*T/\X1*18446744073709551616+X0 - d*T < 18446744073709551616+d:=by
 obtain ⟨x0,x1⟩:=hX0
 have a1:=Mr h1 hX1.1
 have a2:=Mr t1 (show 0<=d by omega)
 have a3:=Ml (show d<=18446744073709551616 by omega) x0
 have a4:=Mr (show 340282366920938463463374607431768211456<=(m+18446744073709551616+1)*d by omega) hX1.1
 have a5:=Mr (show m*X1+X1*18446744073709551616+X0+1<=(T+1)*18446744073709551616 by omega) (show 0<=d by omega)
 have a6:=Ml (show X1<=18446744073709551616 by omega) (show 0<=d by omega)
 have a7:=Mr (show X0<=18446744073709551616 by omega) (show 0<=18446744073709551616 - d by omega)
 have s1:(m+18446744073709551616)*d*X1=m*X1*d+18446744073709551616*(d*X1):=by rw [Int.add_mul,Int.add_mul,show m*d*X1=m*X1*d by ac_rfl,Int.mul_assoc 18446744073709551616]
 have s2:T*18446744073709551616*d=18446744073709551616*(d*T):=by ac_rfl
 have s3:(m*X1+X1*18446744073709551616+X0)*d=m*X1*d+18446744073709551616*(d*X1)+X0*d:=by
  rw [Int.add_mul,Int.add_mul,show X1*18446744073709551616*d=18446744073709551616*(d*X1) by ac_rfl]
 have s4:(m+18446744073709551616+1)*d*X1=m*X1*d+18446744073709551616*(d*X1)+d*X1:=by
  rw [Int.add_mul (m+18446744073709551616),Int.add_mul,s1,Int.one_mul]
 have s5:(m*X1+X1*18446744073709551616+X0+1)*d=m*X1*d+18446744073709551616*(d*X1)+X0*d+d:=by rw [Int.add_mul _ 1,s3,Int.one_mul]
 have s6:(T+1)*18446744073709551616*d=18446744073709551616*(d*T)+18446744073709551616*d:=by
  rw [Int.add_mul,Int.add_mul,s2];omega
 have s7:X0*(18446744073709551616 - d)=18446744073709551616*X0 - X0*d:=by rw [Int.mul_sub,Int.mul_comm X0]
 have s8:X0*18446744073709551616=18446744073709551616*X0:=Int.mul_comm ..
 have s9:d*18446744073709551616=18446744073709551616*d:=Int.mul_comm ..
 constructor <;> omega
set_option maxHeartbeats 2000000 in
theorem divWW (x1 x0 m:Int) (y:Nat) (hx1:U64 x1) (hx0:U64 x0) (hy:y < 18446744073709551616) (hlt:x1 < y) (hm:RP y m) (w:World):
 Calls Tryz.prog 147 #[.int .u64 x1,.int .u64 x0,.int .u64 y,.int .u64 m] w fun e w'=>e=.returned (.tuple #[.int .u64 ((x1*18446744073709551616+x0) / y),.int .u64 ((x1*18446744073709551616+x0) % y)])/\w=w':=by
 obtain ⟨w0,hw0⟩:∃w0,w0=w:=⟨w,rfl⟩
 rw [<-hw0]
 clear hw0 w
 have b64:IntKind.u64.bits=64:=rfl
 have hx10:=hx1.1
 refine Qd (vs:= [.int .u64 x1,.int .u64 x0,.int .u64 y,.int .u64 m]) Tryz.func147 rfl rfl ?_
 intro a H
 replace H:Hd a 100 [] [(0,.int .u64 x1),(1,.int .u64 x0),(2,.int .u64 y),(3,.int .u64 m)]:=H
 refine Sq (Rl [_,_] (wl H (Ez.asn H rfl) rfl (kA rfl rfl (kW (kS (kR [_,_,_] (kM rfl rfl ?_)))))));clear H a;intro a H
 refine wk H cf120 (nlz y (by omega) (by omega) w0) rfl rfl ?_
 rintro _ w1 ⟨s,rfl,hs,rfl⟩
 refine ⟨_,rfl,?_⟩;clear H a;intro a H
 obtain ⟨hs1,hs2,hs3⟩:=id hs
 obtain ⟨P,hP⟩:∃P:Int,P=2 ^ s:=⟨_,rfl⟩
 obtain ⟨R,hR⟩:∃R:Int,R=2 ^ (64 - s):=⟨_,rfl⟩
 have hPp:0 < P:=by rw [hP];exact Jo s
 have hRp:0 < R:=by rw [hR];exact Jo _
 have hPR:P*R=18446744073709551616:=by rw [hP,hR];exact pow_split (by omega)
 obtain ⟨d,hd⟩:∃d:Int,d=y*P:=⟨_,rfl⟩
 have hdn:d=((y*2 ^ s:Nat):Int):=by rw [hd,hP];simp
 have bd:9223372036854775808<=d/\d < 18446744073709551616:=by omega
 obtain ⟨um,hm2⟩:=hm
 obtain ⟨m1,m2⟩:=hm2 s hs
 rw [<-hdn] at m1 m2
 have hl:=lohi hx0 hPp hRp hPR
 have hhi2:x1*P+P<=d:=by
  have:=Mr (show x1+1<=y by omega) (Int.le_of_lt hPp)
  rw [Int.add_mul,Int.one_mul] at this;omega
 have hhP:0<=x1*P:=Mn hx1.1 (Int.le_of_lt hPp)
 obtain ⟨X1,hX1⟩:∃X1,X1=x1*P+x0 / R:=⟨_,rfl⟩
 obtain ⟨X0,hX0⟩:∃X0,X0=x0*P % 18446744073709551616:=⟨_,rfl⟩
 have bX1:0<=X1/\X1 < d:=by omega
 have bX0:U64 X0:=by unfold U64;omega
 have hU:(x1*18446744073709551616+x0)*P=X1*18446744073709551616+X0:=by rw [Int.add_mul,show x1*18446744073709551616*P=x1*P*18446744073709551616 by ac_rfl];omega
 have hej:bits .or .u64 (x1*P) (x0 / R)=X1:=by
  rw [hX1,hP];refine orJ s (by omega) ?_ (by rw [<-hP];exact Int.mul_emod_left _ _) ?_
  ·rw [<-hP];unfold U64;omega
  rw [<-hP];exact hl.2.1
 have bm:=mul_lt64 um (show U64 X1 by unfold U64;omega)
 obtain ⟨p,hp⟩:∃p,p=m*X1:=⟨_,rfl⟩
 rw [<-hp] at bm
 obtain ⟨T,hT⟩:∃T,T=(p+X1*18446744073709551616+X0) / 18446744073709551616:=⟨_,rfl⟩
 have hg:=recip_guess (T:=T) bd bX1 bX0 um.1 m1 m2 (by rw [<-hp];omega) (by rw [<-hp];omega)
 have bTd:0<=T/\T < 18446744073709551616:=by
  refine ⟨by unfold U64 at bX0;omega,?_⟩
  have:d*T < d*18446744073709551616:=by unfold U64 at bX0;omega
  exact Int.lt_of_mul_lt_mul_left this (by omega)
 have bdT:=mul_lt64 (show U64 d by unfold U64;omega) (show U64 T from bTd)
 obtain ⟨f,hf⟩:∃f,f=d*T:=⟨_,rfl⟩
 rw [<-hf] at hg bdT
 obtain ⟨r,hr⟩:∃r,r=X1*18446744073709551616+X0 - f:=⟨_,rfl⟩
 rw [<-hr] at hg
 refine wl H (Ez.asn H rfl) rfl (kP [(0,_),(1,_),(2,_),(3,_),(8,_),(9,_),(10,_)] rfl (kW ?_));clear H a;intro a H
 refine Jf (fun a w=>Hd a 100 [] [(0,.int .u64 X1),(1,.int .u64 X0),(2,.int .u64 d),(3,.int .u64 m),(10,.int .u64 s)]/\w0=w) ?_ ?_
 ·refine Sq (Rl [_,_] (wl H (Ez.mv H rfl) rfl (kL (fun a H=>Ez.neq H rfl rfl (rfl)) rfl (kP [(0,_),(1,_),(2,_),(3,_),(8,_),(9,_),(10,_),(26,_)] rfl (kW ?_)))));clear H a;intro a H
  refine Cs (H.o rfl) (fun hb=>?_) (fun hb=>?_)
  ·have hs0:s≠0:=by simp at hb;omega
   refine Sq (Rl [_,_,_,_,_,_,_,_,_] (wl H (Ez.mv H rfl) rfl (kM rfl rfl (kL (fun a H=>Ez.shlU H rfl rfl s rfl (by omega) (show x1*2 ^ s % 18446744073709551616=x1*P by rw [<-hP];omega)) rfl (kM rfl rfl (kM rfl rfl (kL (fun a H=>Ez.subU (r:=((64 - s:Nat):Int)) H rfl rfl (by omega)) rfl (kL (fun a H=>Ez.shrU H rfl rfl (64 - s) rfl (by omega) (show x0 / 2 ^ (64 - s)=x0 / R by rw [hR])) rfl (kL (fun a H=>Ez.or H rfl rfl (hej)) rfl (kA rfl rfl (kP [(0,_),(1,_),(2,_),(3,_),(8,_),(9,_),(10,_)] rfl (kW (kS (kR [_,_,_,_] (kM rfl rfl (kM rfl rfl (kL (fun a H=>Ez.shlU H rfl rfl s rfl (by omega) (show x0*2 ^ s % 18446744073709551616=X0 by rw [<-hP,hX0])) rfl (kA rfl rfl (kP [(0,_),(1,_),(2,_),(3,_),(8,_),(9,_),(10,_)] rfl (kW (kR [_,_,_,_] (kM rfl rfl (kM rfl rfl (kL (fun a H=>Ez.shlU H rfl rfl s rfl (by omega) (show (y:Int)*2 ^ s % 18446744073709551616=d by rw [<-hP,<-hd];omega)) rfl (kA rfl rfl (kP [(0,_),(1,_),(2,_),(3,_),(8,_),(9,_),(10,_)] rfl (kW ?_)))))))))))))))))))))))))));clear H a;intro a H
   replace H:Hd a 100 [] [(0,_),(1,_),(2,_),(3,_),(10,_)]:=H.pick [0,1,2,3,10]
   first | exact ⟨H,rfl⟩ | (subst hs0;have eP:P=1:=hP.trans rfl;have eR:R=18446744073709551616:=hR.trans (by decide);have u0:=hx0.1;have u1:=hx0.2;have e1:X1=x1:=(by rw [hX1,eP,eR,Int.mul_one,Int.ediv_eq_zero_of_lt u0 u1,Int.add_zero]);have e0:x0*P=x0:=(by rw [eP,Int.mul_one]);have e2:X0=x0:=(by omega);have e3:d=y:=(by rw [hd,eP,Int.mul_one]);rw [e1,e2,e3];exact ⟨H,rfl⟩)
  have hs0:s=0:=by simp at hb;omega
  refine Wk0 (thn ?_)
  replace H:Hd a 100 [] [(0,_),(1,_),(2,_),(3,_),(10,_)]:=H.pick [0,1,2,3,10]
  first | exact ⟨H,rfl⟩ | (subst hs0;have eP:P=1:=hP.trans rfl;have eR:R=18446744073709551616:=hR.trans (by decide);have u0:=hx0.1;have u1:=hx0.2;have e1:X1=x1:=(by rw [hX1,eP,eR,Int.mul_one,Int.ediv_eq_zero_of_lt u0 u1,Int.add_zero]);have e0:x0*P=x0:=(by rw [eP,Int.mul_one]);have e2:X0=x0:=(by omega);have e3:d=y:=(by rw [hd,eP,Int.mul_one]);rw [e1,e2,e3];exact ⟨H,rfl⟩)
 clear H a
 intro a w hJ
 obtain ⟨H,rfl⟩:=hJ
 refine Sq (Rl [_,_] (wl H (Ez.mv H rfl) rfl (kA rfl rfl (kP [(0,_),(1,_),(3,_),(10,_),(11,_)] rfl (kW (kS (kR [_,_,_,_,_,_,_,_] (kM rfl rfl (kM rfl rfl ?_)))))))));clear H a;intro a H
 refine wk H cf169 (bitsMul m X1 um (by unfold U64;omega) w0) rfl rfl ?_
 rintro _ w1 ⟨rfl,rfl⟩
 refine ⟨_,rfl,?_⟩;clear H a;intro a H
 refine wl H (Ez.mv H rfl) rfl (kL (fun a H=>Ez.ext0 H rfl) rfl (kL (fun a H=>Ez.ext1 H rfl) rfl (kA rfl rfl (kA rfl rfl (kP [(0,_),(1,_),(10,_),(11,_),(12,_),(13,_)] rfl (kW ?_))))));clear H a;intro a H
 rw [<-hp] at H
 refine Sq (Rl [_,_,_,_,_,_,_,_] (wl H (Ez.mv H rfl) rfl (kM rfl rfl ?_)));clear H a;intro a H
 refine wk H cf124 (bitsAdd (p % 18446744073709551616) X0 0 (by unfold U64;omega) bX0 (by decide) w0) rfl rfl ?_
 rintro _ w1 ⟨rfl,rfl⟩
 refine ⟨_,rfl,?_⟩;clear H a;intro a H
 refine wl H (Ez.mv H rfl) rfl (kL (fun a H=>Ez.ext0 H rfl) rfl (kL (fun a H=>Ez.ext1 H rfl) rfl (kA rfl rfl (kA rfl rfl (kP [(0,_),(1,_),(10,_),(11,_),(12,_),(15,_)] rfl (kW (kS (kR [_,_,_,_,_,_,_,_] (kM rfl rfl (kM rfl rfl (kM rfl rfl ?_)))))))))));clear H a;intro a H
 refine wk H cf124 (bitsAdd (p / 18446744073709551616) X1 ((p % 18446744073709551616+X0+0) / 18446744073709551616) (by unfold U64;omega) (by unfold U64;omega) (by unfold U64 at bX0;omega) w0) rfl rfl ?_
 rintro _ w1 ⟨rfl,rfl⟩
 refine ⟨_,rfl,?_⟩;clear H a;intro a H
 refine wl H (Ez.mv H rfl) rfl (kL (fun a H=>Ez.ext0 H rfl) rfl (kL (fun a H=>Ez.ext1 H rfl) rfl (kA rfl rfl (kP [(0,_),(1,_),(10,_),(11,_),(12,_)] rfl (kW ?_)))));clear H a;intro a H
 rw [show (p / 18446744073709551616+X1+(p % 18446744073709551616+X0+0) / 18446744073709551616) % 18446744073709551616=T by unfold U64 at bX0;omega] at H
 refine Sq (Rl [_,_] (wl H (Ez.mv H rfl) rfl (kA rfl rfl (kP [(0,_),(1,_),(10,_),(11,_),(16,_)] rfl (kW (kS (kR [_,_,_,_,_,_,_,_] (kM rfl rfl (kM rfl rfl ?_)))))))));clear H a;intro a H
 refine wk H cf169 (bitsMul d T (by unfold U64;omega) bTd w0) rfl rfl ?_
 rintro _ w1 ⟨rfl,rfl⟩
 refine ⟨_,rfl,?_⟩;clear H a;intro a H
 refine wl H (Ez.mv H rfl) rfl (kL (fun a H=>Ez.ext0 H rfl) rfl (kL (fun a H=>Ez.ext1 H rfl) rfl (kA rfl rfl (kA rfl rfl (kP [(0,_),(1,_),(10,_),(11,_),(16,_),(17,_),(18,_)] rfl (kW ?_))))));clear H a;intro a H
 rw [<-hf] at H
 refine Sq (Rl [_,_,_,_,_,_,_,_] (wl H (Ez.mv H rfl) rfl (kM rfl rfl ?_)));clear H a;intro a H
 refine wk H cf126 (bitsSub X0 (f % 18446744073709551616) 0 bX0 (by unfold U64;omega) (by decide) w0) rfl rfl ?_
 rintro _ w1 ⟨rfl,rfl⟩
 refine ⟨_,rfl,?_⟩;clear H a;intro a H
 refine wl H (Ez.mv H rfl) rfl (kL (fun a H=>Ez.ext0 H rfl) rfl (kL (fun a H=>Ez.ext1 H rfl) rfl (kA rfl rfl (kA rfl rfl (kP [(0,_),(10,_),(11,_),(16,_),(17,_),(19,_),(20,_)] rfl (kW (kS (kR [_,_,_,_,_,_,_,_,_] (kM rfl rfl (kM rfl rfl (kM rfl rfl ?_)))))))))));clear H a;intro a H
 refine wk H cf126 (bitsSub X1 (f / 18446744073709551616) (if X0 < f % 18446744073709551616+0 then 1 else 0) (by unfold U64;omega) (by unfold U64;omega) (by split <;> decide) w0) rfl rfl ?_
 rintro _ w1 ⟨rfl,rfl⟩
 refine ⟨_,rfl,?_⟩;clear H a;intro a H
 refine wl H (Ez.mv H rfl) rfl (kL (fun a H=>Ez.ext0 H rfl) rfl (kL (fun a H=>Ez.ext1 H rfl) rfl (kA rfl rfl (kA rfl rfl (kP [(10,_),(11,_),(16,_),(19,_),(21,_)] rfl (kW ?_))))));clear H a;intro a H
 rw [show (X1 - f / 18446744073709551616 - (if X0 < f % 18446744073709551616+0 then 1 else 0)) % 18446744073709551616=r / 18446744073709551616 by unfold U64 at bX0;split <;> omega,show (X0 - f % 18446744073709551616 - 0) % 18446744073709551616=r % 18446744073709551616 by unfold U64 at bX0;omega] at H
 refine Jf (fun a w=>∃T' r',Hd a 100 [] [(10,.int .u64 s),(11,.int .u64 d),(16,.int .u64 T'),(19,.int .u64 r')]/\d*T'+r'=X1*18446744073709551616+X0/\0<=r'/\r' < d+d/\0<=T'/\r' < 18446744073709551616/\w0=w) ?_ ?_
 ·refine Sq (Rl [_,_] (wl H (Ez.mv H rfl) rfl (kL (fun a H=>Ez.neq H rfl rfl (rfl)) rfl (kP [(10,_),(11,_),(16,_),(19,_),(82,_)] rfl (kW ?_)))));clear H a;intro a H
  refine Cs (H.o rfl) (fun hb=>?_) (fun hb=>?_)
  ·have hr1:18446744073709551616<=r:=by simp at hb;omega
   have bT1:T+1 < 18446744073709551616:=by
    have:d*(T+1) < d*18446744073709551616:=by rw [Int.mul_add,<-hf];unfold U64 at bX0;omega
    exact Int.lt_of_mul_lt_mul_left this (by omega)
   refine Sq (Rl [_,_,_] (wl H (Ez.mv H rfl) rfl (kL (fun a H=>Ez.addU (r:=T+1) H rfl rfl (by omega)) rfl (kA rfl rfl (kP [(10,_),(11,_),(16,_),(19,_)] rfl (kW (kR [_,_,_,_] (kM rfl rfl (kM rfl rfl (kL (fun a H=>Ez.subU (r:=r - d) H rfl rfl (by omega)) rfl (kA rfl rfl (kP [(10,_),(11,_),(16,_),(19,_)] rfl (kW (kP [(10,_),(11,_),(16,_),(19,_)] rfl ?_))))))))))))));clear H a;intro a H
   first | exact ⟨T+1,r - d,H,by rw [Int.mul_add,<-hf];omega,by omega,by omega,by omega,by omega,rfl⟩ | (rw [show r % 18446744073709551616=r by omega] at H;exact ⟨T,r,H,by rw [<-hf];omega,by omega,by omega,by omega,by omega,rfl⟩)
  have hr1:r < 18446744073709551616:=by simp at hb;omega
  refine Wk0 (thn ?_)
  replace H:Hd a 100 [] [(10,_),(11,_),(16,_),(19,_)]:=H.pick [10,11,16,19]
  first | exact ⟨T+1,r - d,H,by rw [Int.mul_add,<-hf];omega,by omega,by omega,by omega,by omega,rfl⟩ | (rw [show r % 18446744073709551616=r by omega] at H;exact ⟨T,r,H,by rw [<-hf];omega,by omega,by omega,by omega,by omega,rfl⟩)
 clear H a
 intro a w hJ
 obtain ⟨T',r',H,hT',hr0,hr2,hTn,hrB,rfl⟩:=hJ
 have bT2:T' < 18446744073709551616:=by
  have:d*T' < d*18446744073709551616:=by unfold U64 at bX0;omega
  exact Int.lt_of_mul_lt_mul_left this (by omega)
 refine Jf (fun a w=>∃T' r',Hd a 100 [] [(10,.int .u64 s),(16,.int .u64 T'),(19,.int .u64 r')]/\T'*d+r'=X1*18446744073709551616+X0/\(0<=r'/\r' < d)/\w0=w) ?_ ?_
 ·refine Sq (Rl [_,_,_] (wl H (Ez.mv H rfl) rfl (kM rfl rfl (kL (fun a H=>Ez.geq H rfl rfl (rfl)) rfl (kP [(10,_),(11,_),(16,_),(19,_),(90,_)] rfl (kW ?_))))));clear H a;intro a H
  refine Cs (H.o rfl) (fun hb=>?_) (fun hb=>?_)
  ·have hr3:d<=r':=by simpa using hb
   have bT3:T'+1 < 18446744073709551616:=by
    have:d*(T'+1) < d*18446744073709551616:=by rw [Int.mul_add];unfold U64 at bX0;omega
    exact Int.lt_of_mul_lt_mul_left this (by omega)
   refine Sq (Rl [_,_,_] (wl H (Ez.mv H rfl) rfl (kL (fun a H=>Ez.addU (r:=T'+1) H rfl rfl (by omega)) rfl (kA rfl rfl (kP [(10,_),(11,_),(16,_),(19,_)] rfl (kW (kR [_,_,_,_] (kM rfl rfl (kM rfl rfl (kL (fun a H=>Ez.subU (r:=r' - d) H rfl rfl (by omega)) rfl (kA rfl rfl (kP [(10,_),(16,_),(19,_)] rfl (kW (kP [(10,_),(16,_),(19,_)] rfl ?_))))))))))))));clear H a;intro a H
   first | exact ⟨T'+1,r' - d,H,by rw [Int.mul_comm,Int.mul_add];omega,by omega,rfl⟩ | exact ⟨T',r',H,by rw [Int.mul_comm];omega,by omega,rfl⟩
  have hr3:r' < d:=by have:=Df hb;omega
  refine Wk0 (thn ?_)
  replace H:Hd a 100 [] [(10,_),(16,_),(19,_)]:=H.pick [10,16,19]
  first | exact ⟨T'+1,r' - d,H,by rw [Int.mul_comm,Int.mul_add];omega,by omega,rfl⟩ | exact ⟨T',r',H,by rw [Int.mul_comm];omega,by omega,rfl⟩
 clear H a
 intro a w hJ
 obtain ⟨T',r',H,hT',hr0,rfl⟩:=hJ
 refine Sq (Rl [_,_,_,_,_,_] (wl H (Ez.mv H rfl) rfl (kM rfl rfl (kM rfl rfl (kL (fun a H=>Ez.shrU H rfl rfl s rfl (by omega) (show r' / 2 ^ s=r' / P by rw [hP])) rfl (kA rfl rfl (kA rfl rfl (kP [(8,_),(9,_)] rfl (kW ?_)))))))));clear H a;intro a H
 refine Wr ?_
 refine rt2 H rfl rfl rfl ?_
 obtain ⟨e1,e2⟩:=div_scale (N:=x1*18446744073709551616+x0) (y:=y) (P:=P) (q:=T') (r:=r') hPp (by omega) (by rw [hU,<-hd];omega) (by rw [<-hd];exact hr0)
 rw [e1,e2]
 exact ⟨rfl,rfl⟩
theorem nvo_cons (X:Nat->Int) (o m:Nat):nvo X o (m+1)=X o+BB*nvo X (o+1) m:=by
 have h:nvo X o 1=X o:=by simp [nvo,nv]
 rw [Nat.add_comm,Jd X o 1 m,h,show BB ^ 1=BB by decide,Int.mul_comm]
theorem divq {r x y:Int} (hr:0<=r/\r < y) (hx:U64 x):U64 ((r*18446744073709551616+x) / y)/\(0<=(r*18446744073709551616+x) % y/\(r*18446744073709551616+x) % y < y)/\(r*18446744073709551616+x) / y*y+(r*18446744073709551616+x) % y=r*18446744073709551616+x:=by
 obtain ⟨x0,x1⟩:=hx
 refine ⟨⟨Int.ediv_nonneg (by omega) (by omega),Int.ediv_lt_of_lt_mul (by omega) ?_⟩,⟨En _ (by omega),El _ (by omega)⟩,by rw [Int.mul_comm];exact Int.mul_ediv_add_emod _ _⟩
 have:=Ml (show r+1<=y by omega) (show (0:Int)<=18446744073709551616 by decide)
 omega
theorem divWVW (bz oz cz bx ox cx n mz mx y:Nat) (Z X:Nat->Int) (xn:Int) (w:World) (hz:Wk w bz cz Z) (hx:Wk w bx cx X)
 (halx:bx=bz->ox=oz) (lz:oz+n<=cz) (lx:ox+n<=cx) (hn:n < 1000000000) (hn1:1<=n) (hy:y < 18446744073709551616) (hxn:0<=xn/\xn < y):
 Calls Tryz.prog 128 #[.slice (some ⟨bz,oz,none⟩) n mz,.int .u64 xn,.slice (some ⟨bx,ox,none⟩) n mx,.int .u64 y] w fun e w'=>∃(r:Int) (Z':Nat->Int),e=.returned (.int .u64 r)/\Wk w' bz cz Z'/\(∀k,(k < oz\/oz+n<=k)->Z' k=Z k)/\xn*BB ^ n+nvo X ox n=nvo Z' oz n*y+r/\(0<=r/\r < y)/\Fr (Bl bz) w w':=by
 obtain ⟨w0,hw0⟩:∃w0,w0=w:=⟨w,rfl⟩
 rw [<-hw0]
 rw [<-hw0] at hz hx
 clear hw0 w
 refine Qd (vs:= [.slice (some ⟨bz,oz,none⟩) n mz,.int .u64 xn,.slice (some ⟨bx,ox,none⟩) n mx,.int .u64 y]) Tryz.func128 rfl rfl ?_
 intro a H
 replace H:Hd a 54 [] [(0,.slice (some ⟨bz,oz,none⟩) n mz),(1,.int .u64 xn),(2,.slice (some ⟨bx,ox,none⟩) n mx),(3,.int .u64 y)]:=H
 refine Sq (Rl [_] (wl H (Ez.asn H rfl) rfl (kW (kS (kR [_,_] (kM rfl rfl (kA rfl rfl (kP [(0,_),(2,_),(3,_),(8,_)] rfl (kW (kS (kS ?_)))))))))));clear H a;intro a H
 by_cases hn2:n=1
 ·refine Rl [_,_,_] (wl H (Ez.mv H rfl) rfl (kL (fun a H=>Ez.len79 H rfl) rfl (kL (fun a H=>Ez.eql (r:=true) H rfl rfl (by (simp;omega))) rfl (kP [(0,_),(2,_),(3,_),(8,_),(16,_)] rfl (kW ?_)))));clear H a;intro a H
  refine Ct (H.o rfl) (Sq ?_)
  subst hn2
  have hx0:=hx.cell (j:=ox+0) (by omega)
  have ux:=hx.u (ox+0) (by omega)
  have hq:=divq hxn ux
  refine Rl [_,_,_,_,_,_,_,_,_,_,_] (wl H (Ez.mv H rfl) rfl (kM rfl rfl (kL (fun a H=>Ez.ix79 H rfl rfl 0 rfl (by omega)) rfl (kL (fun a H=>Ez.ld103 H rfl (hx0)) rfl (kM rfl rfl ?_)))));clear H a;intro a H
  refine wk H cf145 (bitsDiv xn (X (ox+0)) y (by unfold U64;omega) ux (by unfold U64;omega) (by omega) w0) rfl rfl ?_
  rintro _ w1 ⟨rfl,hcd⟩
  refine ⟨_,rfl,?_⟩;clear H a;intro a H
  have hz1:=hz.heq hcd.heap
  refine wl H (Ez.mv H rfl) rfl (kL (fun a H=>Ez.ext0 H rfl) rfl (kL (fun a H=>Ez.ext1 H rfl) rfl (kA rfl rfl (kA rfl rfl (kP [(0,_),(2,_),(3,_),(8,_),(9,_),(10,_)] rfl (kW (kS (kR [_,_,_,_] (kM rfl rfl (kM rfl rfl (kL (fun a H=>Ez.ix79 H rfl rfl 0 rfl (by omega)) rfl ?_)))))))))));clear H a;intro a H
  refine wls H (Ez.st103 H rfl rfl rfl (hz1.cell (by omega)) (hz1.fz _)) ?_;clear H;intro H
  refine kP [(0,_),(2,_),(3,_),(8,_),(10,_)] rfl (kW (kS (kR [_,_] (kM rfl rfl (kA rfl rfl (kP [(0,_),(2,_),(3,_),(8,_)] rfl (kW ?_))))))) a H;clear H a;intro a H
  refine Wr (thr ?_)
  refine rt1 H rfl rfl ?_
  refine ⟨_,up Z (oz+0) _,rfl,hz1.set (by omega) hq.1,fun k hk=>Qx (by omega),?_,hq.2.1,(hcd.fr _).trans (Fr.bl _)⟩
  simp only [nvo,nv,Qz,Int.zero_add,Int.pow_zero,Int.mul_one]
  rw [show BB ^ 1=18446744073709551616 by decide]
  omega
 refine Rl [_,_,_] (wl H (Ez.mv H rfl) rfl (kL (fun a H=>Ez.len79 H rfl) rfl (kL (fun a H=>Ez.eql (r:=false) H rfl rfl (by (simp;omega))) rfl (kP [(0,_),(2,_),(3,_),(8,_),(16,_)] rfl (kW ?_)))));clear H a;intro a H
 refine Cf (H.o rfl) (Wk0 (thn (Sq (Rl [_,_,_] (wl H (Ez.mv H rfl) rfl ?_)))));clear H a;intro a H
 refine wk H cf146 (reciprocalWord y hy (by omega) w0) rfl rfl ?_
 rintro _ w1 ⟨m,rfl,hm,hcd⟩
 refine ⟨_,rfl,?_⟩;clear H a;intro a H
 refine wl H (Ez.asn H rfl) rfl (kP [(0,_),(2,_),(3,_),(8,_),(11,_)] rfl (kW (kS (kS (kR [_,_,_,_] (kM rfl rfl (kL (fun a H=>Ez.len79 H rfl) rfl (kL (fun a H=>Ez.subI (r:=((n:Int) - 1)) H rfl rfl (by omega) (by omega)) rfl (kA rfl rfl (kP [(0,_),(2,_),(3,_),(8,_),(11,_),(12,_)] rfl (kW ?_)))))))))));clear H a;intro a H
 refine Wb ?_
 refine Qo (fun mm a w=>∃(k:Nat) (r:Int) (Z':Nat->Int),mm=k/\k<=n/\Hd a 54 [] [(0,.slice (some ⟨bz,oz,none⟩) n mz),(2,.slice (some ⟨bx,ox,none⟩) n mx),(3,.int .u64 y),(8,.int .u64 r),(11,.int .u64 m),(12,.int .i64 ((k:Int) - 1))]/\Wk w bz cz Z'/\(∀j,(j < oz+k\/oz+n<=j)->Z' j=Z j)/\xn*BB ^ (n - k)+nvo X (ox+k) (n - k)=nvo Z' (oz+k) (n - k)*y+r/\(0<=r/\r < y)/\Fr (Bl bz) w0 w) (n) ?_ ?_
 ·replace H:Hd a 54 [] [(0,_),(2,_),(3,_),(8,_),(11,_),(12,_)]:=H.pick [0,2,3,8,11,12]
  exact ⟨n,xn,Z,rfl,Nat.le_refl _,H,hz.heq hcd.heap,fun _ _=>rfl,by simp [nvo,nv],hxn,hcd.fr _⟩
 clear H a
 intro mm a w hI
 clear hcd
 obtain ⟨k,r,Z',rfl,hk,H,hz1,hout,hsum,hr,hF⟩:=hI
 refine Sq (Sq (Rl [_,_] (wl H (Ez.mv H rfl) rfl (kL (fun a H=>Ez.geq H rfl rfl (rfl)) rfl (kP [(0,_),(2,_),(3,_),(8,_),(11,_),(12,_),(36,_)] rfl (kW ?_))))));clear H a;intro a H
 refine Cs (H.o rfl) (fun hb=>?_) (fun hb=>?_)
 ·have hk1:1<=mm:=by simp at hb;omega
  refine Wk0 (thn (Sq (Wb ?_)))
  have hx1:=Wk.read2 hx hz hz1 hF halx (k:=mm - 1) (fun j hj=>hout j (by omega)) (by omega)
  have ux:=hx.u (ox+(mm - 1)) (by omega)
  have hq:=divq hr ux
  refine Rl [_,_,_,_,_,_,_,_,_,_,_,_,_,_,_,_] (wl H (Ez.mv H rfl) rfl (kM rfl rfl (kM rfl rfl (kM rfl rfl (kM rfl rfl (kL (fun a H=>Ez.ix79 H rfl rfl (mm - 1) (by omega) (by omega)) rfl (kL (fun a H=>Ez.ld103 H rfl (hx1)) rfl (kM rfl rfl (kM rfl rfl ?_)))))))));clear H a;intro a H
  refine wk H cf147 (divWW r (X (ox+(mm - 1))) m y (by unfold U64;omega) ux hy hr.2 hm _) rfl rfl ?_
  rintro _ w1 ⟨rfl,rfl⟩
  refine ⟨_,rfl,?_⟩;clear H a;intro a H
  refine wl H (Ez.mv H rfl) rfl (kL (fun a H=>Ez.ext0 H rfl) rfl (kL (fun a H=>Ez.ext1 H rfl) rfl (kL (fun a H=>Ez.ix79 H rfl rfl (mm - 1) (by omega) (by omega)) rfl ?_)));clear H a;intro a H
  refine wls H (Ez.st103 H rfl rfl rfl (hz1.cell (by omega)) (hz1.fz _)) ?_;clear H;intro H
  refine wl H (Ez.asn H rfl) rfl (kP [(0,_),(2,_),(3,_),(8,_),(11,_),(12,_)] rfl ?_);clear H a;intro a H
  refine Wn ?_
  refine bn (thn (Rl [_,_,_] (wl H (Ez.mv H rfl) rfl (kL (fun a H=>Ez.subI (r:=(mm:Int) - 1 - 1) H rfl rfl (by omega) (by omega)) rfl (kA rfl rfl (kP [(0,_),(2,_),(3,_),(8,_),(11,_),(12,_)] rfl (kW (kP [(0,_),(2,_),(3,_),(8,_),(11,_),(12,_)] rfl ?_))))))));clear H a;intro a H
  refine ⟨mm - 1,by omega,mm - 1,_,up Z' (oz+(mm - 1)) _,rfl,by omega,by rw [show ((mm - 1:Nat):Int) - 1=(mm:Int) - 1 - 1 by omega];exact H,hz1.set (by omega) hq.1,fun j hj=>(Qx (by omega)).trans (hout j (by omega)),?_,hq.2.1,hF.trans (Fr.bl _)⟩
  have em:n - (mm - 1)=n - mm+1:=by omega
  have ez:nvo (up Z' (oz+(mm - 1)) ((r*18446744073709551616+X (ox+(mm - 1))) / y)) (oz+(mm - 1)+1) (n - mm)=nvo Z' (oz+mm) (n - mm):=Q4 fun j hj=>by rw [Qx (by omega),show oz+(mm - 1)+1+j=oz+mm+j by omega]
  rw [em,nvo_cons,nvo_cons,Qz,ez,Int.pow_succ,show ox+(mm - 1)+1=ox+mm by omega]
  rw [Int.add_mul,show xn*(BB ^ (n - mm)*BB)=BB*(xn*BB ^ (n - mm)) by ac_rfl,show BB*nvo Z' (oz+mm) (n - mm)*y=BB*(nvo Z' (oz+mm) (n - mm)*y) by ac_rfl]
  generalize xn*BB ^ (n - mm)=A at hsum ⊢
  unfold BB
  omega
 have hk1:mm=0:=by simp at hb;omega
 subst hk1
 refine We (thx (thx (bxe (thn (Sq (Rl [_,_] (wl H (Ez.mv H rfl) rfl (kA rfl rfl (kP [(8,_)] rfl (kW ?_))))))))));clear H a;intro a H
 refine Wr ?_
 refine rt1 H rfl rfl ?_
 exact ⟨r,Z',rfl,hz1,fun k hk=>hout k (by omega),by simpa using hsum,hr,hF⟩
end
section
set_option maxRecDepth 8000
def TQ (q:Option Addr):Nat->Nat->Prop:=fun k _=>∃o,q=some ⟨k,o,none⟩
theorem Qt {b o k j:Nat}:TQ (some ⟨b,o,none⟩) k j↔k=b:=by
 constructor
 ·rintro ⟨o',h⟩;injection h with h;injection h with h;exact h.symm
 rintro rfl;exact ⟨o,rfl⟩
theorem Q9 {k j:Nat}:¬TQ none k j:=by rintro ⟨o,h⟩;cases h
def Sl (w:World) (q:Option Addr) (n c:Nat) (X:Nat->Int):Prop:=
 (q=none/\n=0/\c=0)\/(∃b,q=some ⟨b,0,none⟩/\n<=c/\0 < c/\Wk w b c X)
def Own (w:World) (q q':Option Addr):Prop:=∀k j,TQ q' k j->TQ q k j\/w.heap.size<=k
theorem Own.refl (w:World) (q:Option Addr):Own w q q:=fun _ _ h=>.inl h
theorem Own.nilq (w:World) (q:Option Addr):Own w q none:=fun _ _ h=>(Q9 h).elim
theorem Own.trans {w w':World} {q q' q'':Option Addr} (h:Own w q q') (h':Own w' q' q'') (hs:w.heap.size<=w'.heap.size):Own w q q'':=fun k j hk=>by
 rcases h' k j hk with h1 | h1
 ·exact h k j h1
 exact .inr (Nat.le_trans hs h1)
theorem Own.new (w:World) (q:Option Addr) {b:Nat} (hb:w.heap.size<=b):Own w q (some ⟨b,0,none⟩):=fun k j hk=>by
 rw [Qt] at hk;subst hk;exact .inr hb
theorem Sl.nil (w:World) (X:Nat->Int):Sl w none 0 0 X:=.inl ⟨rfl,rfl,rfl⟩
theorem Sl.le {w:World} {q:Option Addr} {n c:Nat} {X:Nat->Int} (h:Sl w q n c X):n<=c:=by
 rcases h with ⟨_,h1,h2⟩ | ⟨b,_,h1,_⟩ <;> omega
theorem Sl.blk {w:World} {q:Option Addr} {n c:Nat} {X:Nat->Int} (h:Sl w q n c X) (hn:0 < c):∃b,q=some ⟨b,0,none⟩/\n<=c/\Wk w b c X:=by
 rcases h with ⟨_,h1,h2⟩ | ⟨b,h0,h1,_,h2⟩
 ·omega
 exact ⟨b,h0,h1,h2⟩
theorem Sl.of {w:World} {b n c:Nat} {X:Nat->Int} (h:Wk w b c X) (hn:n<=c) (hc:0 < c):Sl w (some ⟨b,0,none⟩) n c X:=.inr ⟨b,rfl,hn,hc,h⟩
theorem Sl.cut {w:World} {q:Option Addr} {n c m:Nat} {X:Nat->Int} (h:Sl w q n c X) (hm:m<=c):Sl w q m c X:=by
 rcases h with ⟨h0,h1,h2⟩ | ⟨b,h0,h1,hc,h2⟩
 ·exact .inl ⟨h0,by omega,h2⟩
 exact .inr ⟨b,h0,hm,hc,h2⟩
theorem Sl.fr {w w':World} {q:Option Addr} {n c:Nat} {X:Nat->Int} {T:Nat->Nat->Prop} (h:Sl w q n c X) (hF:Fr T w w') (hT:∀k j o,TQ q k j->¬T k o):Sl w' q n c X:=by
 rcases h with h | ⟨b,h0,h1,hc,h2⟩
 ·exact .inl h
 exact .inr ⟨b,h0,h1,hc,h2.fr hF fun o=>hT b 0 o (by rw [h0];exact Qt.2 rfl)⟩
theorem Sl.frN {w w':World} {q:Option Addr} {n c:Nat} {X:Nat->Int} (h:Sl w q n c X) (hF:Fr NoT w w'):Sl w' q n c X:=h.fr hF fun _ _ _ _ f=>f
theorem Sl.u {w:World} {q:Option Addr} {n c:Nat} {X:Nat->Int} (h:Sl w q n c X) {j:Nat} (hj:j < c):U64 (X j):=by
 obtain ⟨b,_,_,h1⟩:=h.blk (by omega)
 exact h1.u j hj
theorem Sl.lt {w:World} {q:Option Addr} {n c:Nat} {X:Nat->Int} (h:Sl w q n c X) {k j:Nat} (hk:TQ q k j):k < w.heap.size:=by
 rcases h with ⟨h0,_⟩ | ⟨b,h0,_,_,h2⟩
 ·rw [h0] at hk;exact (Q9 hk).elim
 rw [h0,Qt] at hk;subst hk;exact h2.lt
theorem Fr.noT {T:Nat->Nat->Prop} {w w':World} (h:Fr NoT w w'):Fr T w w':=h.mono fun _ _ _ f=>f.elim
theorem Fr.own {w w':World} {q q':Option Addr} (h:Fr (TQ q') w w') (ho:Own w q q'):Fr (TQ q) w w':=h.mono fun k j hk ht=>by
 rcases ho k j ht with h1 | h1
 ·exact h1
 omega
theorem Fr.blq {w w':World} {b o:Nat} (h:Fr (Bl b) w w'):Fr (TQ (some ⟨b,o,none⟩)) w w':=h.mono fun k j _ ht=>Qt.2 ht
def Nm (X:Nat->Int) (n:Nat):Prop:=n=0\/X (n - 1)≠0
theorem word_info:∃i,Tryz.prog.info? 103=some i/\i.zero=some (.int .u64 0)/\i.bytes=8/\i.size=1:=by
 have h:(Tryz.prog.info? 103).map (fun i=>(i.zero,i.bytes,i.size))=some (some (.int .u64 0),8,1):=by kernel_rfl
 cases hi:Tryz.prog.info? 103 with
 | none=>rw [hi] at h;cases h
 | some i=>rw [hi] at h;simp only [Option.map_some,Option.some.injEq,Prod.mk.injEq] at h;exact ⟨i,rfl,h⟩
theorem madeW (n:Nat):madeCells #[Value.int .u64 0] n=Array.ofFn fun j:Fin n=>Value.int .u64 ((fun _=>0:Nat->Int) j):=by
 apply Array.ext
 ·rw [size_madeCells,Array.size_ofFn]
 intro i h1 h2
 simp only [madeCells,Array.getElem_map,Array.getElem_range,Array.getElem_ofFn]
 show #[Value.int .u64 0][i % 1]! =_
 rw [Nat.mod_one];rfl
theorem Wk.made (w:World) (n:Nat) (hn:n<=9223372036854775807):Wk (w.alloc (.cells (Array.ofFn fun j:Fin n=>Value.int .u64 ((fun _=>0:Nat->Int) j)) 103)) w.heap.size n (fun _=>0):=
 ⟨(by show (w.heap.push _)[w.heap.size]?=_;rw [Array.getElem?_push_size]),fun _ _=>⟨by decide,by decide⟩,hn⟩
section
variable {a:Act} {N:Nat} {ds:List Deferred} {l:Env} {w:World} {d:Option Nat} {ty:TypeId} {pos:String} {after:Array Edge} {g:Option (Nat × Bool)}
theorem Ez.mk80 (H:Hd a N ds l) {x y:Operand} {i j:Int} (h:ov l x=some (.int .i64 i)) (h':ov l y=some (.int .i64 j)) (n c:Nat) (hi:i=(n:Int)) (hj:j=(c:Int)) (hnc:n<=c) (hc:c < 10000000000):
 (execOp a.eval ⟨d,.makeSlice 80 x y,ty,pos,after,g⟩).run Tryz.prog w=.ok (.value (.slice (some ⟨w.heap.size,0,none⟩) n c)) (w.alloc (.cells (Array.ofFn fun j:Fin c=>Value.int .u64 ((fun _=>0:Nat->Int) j)) 103)):=by
 have e:=H.o h
 have e':=H.o h'
 subst hi;subst hj
 obtain ⟨ti,h1,h2,h3,h4⟩:=word_info
 have q:=run_make (P:=Tryz.prog) w 80 103 ti (.int .u64 0) (by kernel_rfl) h1 h2 .i64 .i64 (n:Int) (c:Int) (by omega) (by omega) (by rw [h3];omega) (by omega)
 rw [h4,Nat.mul_one,Int.toNat_natCast,Int.toNat_natCast,show (Value.int .u64 0).cells=#[Value.int .u64 0] from rfl,madeW] at q
 simp only [execOp,e,e',Sem.run_bind,q,Result.andThen];rfl
theorem run_clearW {b o n c' c:Nat} {X:Nat->Int} {T:TypeId} (hT:T=79\/T=80) (hz:Wk w b c X) (h:o+n<=c) (hn:0 < n):
 ∃w',(Builtin.clear_ #[T] ty #[.slice (some ⟨b,o,none⟩) n c']).run Tryz.prog w=.ok (.tuple #[]) w'/\Wk w' b c (cp X o (fun _=>0) 0 n)/\Fr (Bl b) w w':=by
 have hu:Tryz.prog.underlying T=some (.slice 103):=by rcases hT with rfl | rfl <;> kernel_rfl
 obtain ⟨ti,h1,h2,h3,h4⟩:=word_info
 obtain ⟨m,rfl⟩:∃m,n=m+1:=⟨n - 1,by omega⟩
 have hzc:(Builtin.zeroCells #[Value.int .u64 0] (m+1)).toList=List.replicate (m+1) (Value.int .u64 0):=by
  apply List.ext_getElem
  ·simp [Builtin.zeroCells]
  intro i h1 h2
  simp only [Builtin.zeroCells,Array.getElem_toList,Array.getElem_map,Array.getElem_range,List.getElem_replicate]
  show #[Value.int .u64 0][i % 1]! =_
  rw [Nat.mod_one];rfl
 have key:=run_storeCells_at Tryz.prog b o 103 (List.replicate (m+1) (Value.int .u64 0)) 0 (Array.ofFn fun j:Fin c=>Value.int .u64 (X j)) w hz.blk (by simpa using h) (by intro v hv;rw [List.mem_replicate] at hv;rw [hv.2];rfl)
 rw [List.length_replicate] at key
 obtain ⟨arr,harr⟩:∃arr,arr=(List.take (o+0) (Array.ofFn fun j:Fin c=>Value.int .u64 (X j)).toList++List.replicate (m+1) (Value.int .u64 0)++List.drop (o+0+(m+1)) (Array.ofFn fun j:Fin c=>Value.int .u64 (X j)).toList).toArray:=⟨_,rfl⟩
 rw [<-harr] at key
 have hrun:(Builtin.clear_ #[T] ty #[.slice (some ⟨b,o,none⟩) (m+1) c']).run Tryz.prog w=.ok (.tuple #[]) (w.setRow b arr):=by
  simp [Builtin.clear_,run_underlying hu,zeroValue,h1,h2,typeInfo,Value.cells,hzc,key]
 refine ⟨w.setRow b arr,hrun,⟨?_,fun j hj=>?_,hz.m⟩,setRow_fr _⟩
 ·simp only [World.setRow,Array.getElem?_modify,if_true,hz.blk,Option.map_some]
  refine congrArg (fun A=>some (Obj.cells A 103 (0,0))) ?_
  rw [harr]
  apply Array.ext
  ·simp;omega
  intro i h1 h2
  simp only [Array.size_ofFn] at h2
  simp only [List.getElem_toArray,Array.getElem_ofFn,cp]
  simp only [List.getElem_append,List.length_append,List.length_take,List.length_replicate,Array.length_toList,Array.size_ofFn]
  by_cases c1:o<=i/\i < o+(m+1)
  ·rw [if_pos c1,dif_pos (by omega),dif_neg (by omega)]
   simp
  rw [if_neg c1]
  by_cases c2:i < o
  ·rw [dif_pos (by omega),dif_pos (by omega)];simp
  rw [dif_neg (by omega)]
  have e:o+(m+1)+(i - (min o c+(m+1)))=i:=by omega
  simp [e]
 unfold cp
 split
 ·show U64 0
  exact ⟨by decide,by decide⟩
 exact hz.u _ hj
theorem Ez.clearW (H:Hd a N ds l) {x:Operand} {b o n c' c:Nat} {X:Nat->Int} {T:TypeId} (h:ov l x=some (.slice (some ⟨b,o,none⟩) n c')) (hT:T=79\/T=80) (hz:Wk w b c X) (hb:o+n<=c) (hn:0 < n):
 ∃w',(execOp a.eval ⟨d,.call { callee:=.builtin .clear,args:=#[x],argTypes:=#[T]},ty,pos,after,g⟩).run Tryz.prog w=.ok (.value (.tuple #[])) w'/\Wk w' b c (cp X o (fun _=>0) 0 n)/\Fr (Bl b) w w':=by
 obtain ⟨w',h1,h2,h3⟩:=run_clearW (w:=w) (ty:=ty) (c':=c') hT hz hb hn
 refine ⟨w',?_,h2,h3⟩
 have e:=H.o h
 revert e;generalize a.eval=ρ;intro e
 simp only [execOp];go_simp
end
end
end Go.Proofs.YtijgloklmiokhaaGreatDoor
