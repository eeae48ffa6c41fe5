/- Part 3 of the proof of the readers and the guards. No conditions. -/
import Derived.Laws.Tables
import Derived.Laws.CopyOwn
import Derived.Deep.OwnRows
import Derived.Test.YtmdpodeegdjkeaaGreatDoorU0
import Derived.Test.YtmdpodeegdjkeaaGreatDoorU2
set_option maxRecDepth 100000
set_option maxHeartbeats 3200000
namespace Go.Proofs.YtmdpodeegdjkeaaGreatDoor
open Go Go.RowKit Go.Lib Tryz
def z16:Array Value:=#[.int .u8 0,.int .u8 0,.int .u8 0,.int .u8 0,.int .u8 0,.int .u8 0,.int .u8 0,.int .u8 0,.int .u8 0,.int .u8 0,.int .u8 0,.int .u8 0,.int .u8 0,.int .u8 0,.int .u8 0,.int .u8 0]
def uid (bs:List UInt8):Value:=.agg (bs.map u8).toArray
theorem At_.below {w w' w'':World} {r:Nat} {s:Value} {D:List UInt8} {i j B:Nat} (h:At_ w w' r s D j) (h0:Buf w r s D i) (hb:Below B w' w'') (hB:w.heap.size<=B):At_ w w'' r s D j:=by
 have hb':∀ k,k < w.heap.size->w''.heap[k]? = w'.heap[k]? := fun k hk=>hb.block k (Nat.lt_of_lt_of_le hk hB)
 have hk:Kept (Only r) w w'':=⟨hb.os.trans h.kept.os,hb.tape.trans h.kept.tape,hb.output.trans h.kept.output,Nat.le_trans h.kept.size hb.size,fun k hk hn=>(hb' k hk).trans (h.kept.block k hk hn)⟩;refine ⟨⟨(hb' r h0.lt).trans h.buf.blk,?_,h.buf.le,h.buf.small,?_,h.buf.ne⟩,hk⟩
 ·obtain ⟨a,c,e,hc,hm,hB⟩:=h.buf.bytes;refine ⟨a,c,e,hc,hm,?_⟩
  rcases hB with rfl | ⟨b,off,rfl,hne,hB⟩
  ·exact .inl rfl
  ·rcases D with _ | ⟨x,l⟩
   ·exact .inl rfl
   ·refine .inr ⟨b,off,rfl,hne,fun j y hy => ?_⟩;have hlt:b < w.heap.size:=h0.mem_lt e (by simp);exact (World.cell?_of_block (hb' b hlt)).trans (hB j y hy)
 ·obtain ⟨v,hv,hc⟩:=h0.eof;exact ⟨v,hv,hk.cell hc (fun e=>h0.ne e.symm)⟩
theorem Blk.setRow_ {w:World} {g:Nat} {t:TypeId} {cs:Array Value} (h:Blk w g t cs) (cs':Array Value):Blk (w.setRow g cs') g t cs':=setRow_heap w g _ _ t _ h
theorem u8_all (bs:List UInt8):∀ v ∈ bs.map u8,v.oneCell'=true:=by intro u hu;obtain ⟨x,_,rfl⟩:=List.mem_map.1 hu;rfl
theorem xpx (bs:List UInt8):(bs.map u8).toArray.all (·.oneCell')=true:=by
 rw [Array.all_eq_true_iff_forall_mem];intro u hu;exact u8_all bs u (by simpa using hu)
theorem uuid_src {W:World} {g off k n:Nat} {D:List UInt8} (hc:∀ j x,j < n->D[k+j]? = some x->W.cell? ⟨g,off+j,none⟩=some (.int .u8 x.toNat)) :
    ∀ j v,((sub D k n).map u8)[j]? = some v->W.cell? ((⟨g,off,none⟩:Addr).add j)=some v:=by
  intro j v hv;rw [gM] at hv
  cases hx:(sub D k n)[j]? with
  | none=>rw [hx] at hv;cases hv
  | some x =>
    rw [hx] at hv;simp at hv;subst hv;unfold sub at hx;rw [List.getElem?_take] at hx
    split at hx
    . rw [List.getElem?_drop] at hx
      rw [Addr.add_lit];exact hc j x (by omega) hx
    . cases hx
theorem uuid_spl {W:World} {g:Nat} {t:TypeId} {bs:List UInt8} (h:W.heap[g]? = some (.cells (splice z16.toList 0 (bs.map u8)).toArray t (0,0))) (hl:bs.length=16):W.heap[g]? = some (.cells (bs.map u8).toArray t (0,0)):=by
 rw [h]
 congr
 simp [splice,z16,hl]
theorem xmM (r:Nat) (s:Value) (D:List UInt8) (i:Nat) (w:World) (h:Buf w r s D i) (hc:D[i]? = some 152) (hl:i+17<=D.length) :
  Calls prog 125 #[.pointer (some ⟨r,0,none⟩)] w fun e w'=>e = .returned (.tuple #[uid (sub D (i+1) 16),.nilIface])/\At_ w w' r s D (i+17):=by
 have hne:r < w.heap.size:=h.lt;have hk0:Kept (Only r) w ((w.alloc (.cells z16 112)).alloc (.cells z16 112)):=((kR _ w).alloc _).alloc _;have hb0:Buf ((w.alloc (.cells z16 112)).alloc (.cells z16 112)) r s D i:=h.nope (((kR Nope w).alloc _).alloc _);have hn1:(w.alloc (.cells z16 112)).heap.size=w.heap.size+1:=by simp
 have H0:=hid (aI ((Blk.new w 112 z16).alloc (.cells z16 112)) (aI (hn1 ▸ Blk.new (w.alloc (.cells z16 112)) 112 z16) (show At_ w _ r s D i from ⟨hb0,hk0⟩)));have HN:=hid hne;have HB:=hid h;have HX:=hid (aI hc hl);clear h hk0 hb0 hne hc hl hn1;go_enter func125,ntmps125;have hu:(prog.info? 5).map (fun i=>i.size)=some 1:=by kernel_rfl
 have hu2:(prog.info? 112).map (fun i=>i.size)=some 16:=by kernel_rfl
 have hL:(sub D (i+1) 16).length=16:=xgx D (i+1) 16 HX.out.2;have HL:=hid hL;have HU:=hid hu2;have HI:=hid hu;clear hu hu2 hL;go_wp2_with (first | (go_at_call 160;go_must (refine (xaa r s D i _ _ H0.out.2.2.buf (by exact HX.out.1)).mono ?_;rintro e w1 ⟨rfl,hA⟩;have H1:=hid (aI (H0.out.1.kept hA.kept (fun e=>absurd e (Nat.ne_of_gt HN.out))) (aI (H0.out.2.1.kept hA.kept (fun e=>absurd e (Nat.ne_of_gt (Nat.lt_succ_of_lt HN.out)))) (H0.out.2.2.trans hA)));clear hA)) | (go_at_call 161;go_must (refine (xbd r s D (i+1) _ 16 H1.out.2.2.buf (by have:=HX.out.2;omega) (by omega)).mono ?_;rintro e w2 ⟨v,b,rfl,rfl,⟨g,off,c4,rfl,hg,hgc,hcm,hcell⟩,hA⟩;have H2:=hid (aI (H1.out.1.kept hA.kept (fun e=>absurd e (Nat.ne_of_gt HN.out))) (aI (H1.out.2.1.kept hA.kept (fun e=>absurd e (Nat.ne_of_gt (Nat.lt_succ_of_lt HN.out)))) (H1.out.2.2.trans hA)));have HS:=hid hcell;clear hA hcell)) | (refine wpList_copy_splice rfl (.tmp 31) (.tmp 32) 26 26 rfl 5 underlying26 (by exact HI.out) (some ⟨w.heap.size+1,0,none⟩) (some ⟨g,off,none⟩) 16 16 16 c4 rfl rfl (w.heap.size+1) 0 z16.toList 112 (by exact H2.out.2.1) ((sub D (i+1) 16).map u8) (by rw [lM,HL.out];rfl) (fun _=>⟨rfl,_,rfl,by exact uuid_src HS.out⟩) (by rw [lM,HL.out];decide) (by exact u8_all _) (w.heap.size+1) w2 (Below.refl _ _) (Nat.le_refl _) ?_;intro w3 hg3 hb3;have H3:=hid (aI hg3.out hb3);clear hg3 hb3) | (refine wpList_load_row rfl 112 (.tmp 4) rfl (w.heap.size+1) rfl 112 ((sub D (i+1) 16).map u8).toArray (0,0) _ (by exact uuid_spl H3.out.1 HL.out) underlying112 rfl (by rw [HU.out,List.size_toArray,lM,HL.out]) ?_) | (refine wpList_store_row rfl 112 (.tmp 2) (.tmp 34) rfl w.heap.size ((sub D (i+1) 16).map u8).toArray rfl rfl 112 z16 (by exact (H3.out.2.block _ (Nat.lt_succ_self _)).trans H2.out.1) (by rw [HU.out,List.size_toArray,lM,HL.out]) (by show 16=_;rw [List.size_toArray,lM,HL.out]) (by exact xpx _) ?_))
 (try simp only [Exit.inBlock,Exit.then])
 have hB2:Blk (w3.setRow w.heap.size ((sub D (i+1) 16).map u8).toArray) w.heap.size 112 _:=Blk.setRow_ ((H3.out.2.block _ (Nat.lt_succ_self _)).trans H2.out.1) _;have hld:=run_loadVar_row (P:=prog) _ w.heap.size 112 112 _ _ _ hB2 underlying112 rfl (by rw [HU.out,List.size_toArray,lM,HL.out]);refine bodyPost_ret (v:=.tuple #[uid (sub D (i+1) 16),.nilIface]) ?_ rfl ⟨rfl,?_⟩
 ·rw [results_cell_tmp rfl];simp only [Array.getD_eq_getD_getElem?,gt,gz,gs,Option.getD_some,asAddr,Sem.run_pure,Result.andThen_ok];rw [hld]
  rfl
 ·exact (H2.out.2.2.below HB.out H3.out.2 (Nat.le_succ _)).below HB.out (below_setRow (Below.refl w.heap.size _) (Nat.le_refl _) _) (Nat.le_refl _)
section
section
variable (r:Nat) (s:Value) (D:List UInt8) (i:Nat) (w:World)
theorem xmg (h:Buf w r s D i) (hc:D[i]? = some 64):Calls prog 53 #[.pointer (some ⟨r,0,none⟩)] w fun e w'=>e = .returned (.tuple #[.nilIface,.nilIface])/\At_ w w' r s D (i+1):=by
 have H0:=hid (aI h hc);clear h hc;go_enter func53,ntmps53;go_wp2_with (first | (go_at_call 109;go_must (refine (xev r s D i _ H0.out.1 H0.out.2).mono ?_;rintro e w1 ⟨rfl,hA⟩;have H1:=hid hA;clear hA)));go_ret2;exact ⟨rfl,H1.out⟩
theorem xct (c:UInt8) (hcc:c=86\/c=65\/c=66) (h:Buf w r s D i) (hc:D[i]? = some c) (R:Value->Value->World->Prop) (hr:∀ W,At_ w W r s D i->Calls prog 112 #[.pointer (some ⟨r,0,none⟩)] W (xac R)) :
  Calls prog 53 #[.pointer (some ⟨r,0,none⟩)] w (xac fun y e w'=>∃ x,y = .iface 4 x/\R x e w'):=by
 have H0:=hid (aI h hc);have HR:=hid hr;clear h hc hr
 rcases hcc with rfl | rfl | rfl
 all_goals
  go_enter func53,ntmps53;go_wp2_with (first | (go_at_call 109;go_must (refine (xan r s D i _ _ H0.out.1 H0.out.2 (by decide)).mono ?_;rintro e w1 ⟨rfl,hA⟩;have H1:=hid hA;clear hA)) | (go_at_call 110;go_must (refine (xap r s D i _ _ H1.out.buf H0.out.2).mono ?_;rintro e w2 ⟨rfl,k2,rfl⟩;have H2:=hid (H1.out.drewN k2);clear H1)) | (go_at_call 112;go_must (refine (HR.out _ H2.out).mono ?_;rintro e w3 ⟨x,y,rfl,hR⟩;have H3:=hid hR;clear hR)));go_ret2;exact ⟨_,_,rfl,_,rfl,H3.out⟩
theorem xee (c:UInt8) (hcc:c=80) (h:Buf w r s D i) (hc:D[i]? = some c) (R:Value->Value->World->Prop) (hr:∀ W,At_ w W r s D i->Calls prog 113 #[.pointer (some ⟨r,0,none⟩)] W (xac R)) :
  Calls prog 53 #[.pointer (some ⟨r,0,none⟩)] w (xac fun y e w'=>∃ x,y = .iface 5 x/\R x e w'):=by
 have H0:=hid (aI h hc);have HR:=hid hr;clear h hc hr
 rcases hcc with rfl
 all_goals
  go_enter func53,ntmps53;go_wp2_with (first | (go_at_call 109;go_must (refine (xan r s D i _ _ H0.out.1 H0.out.2 (by decide)).mono ?_;rintro e w1 ⟨rfl,hA⟩;have H1:=hid hA;clear hA)) | (go_at_call 110;go_must (refine (xap r s D i _ _ H1.out.buf H0.out.2).mono ?_;rintro e w2 ⟨rfl,k2,rfl⟩;have H2:=hid (H1.out.drewN k2);clear H1)) | (go_at_call 113;go_must (refine (HR.out _ H2.out).mono ?_;rintro e w3 ⟨x,y,rfl,hR⟩;have H3:=hid hR;clear hR)));go_ret2;exact ⟨_,_,rfl,_,rfl,H3.out⟩
theorem xdH (c:UInt8) (hcc:c=96) (h:Buf w r s D i) (hc:D[i]? = some c) (R:Value->Value->World->Prop) (hr:∀ W,At_ w W r s D i->Calls prog 114 #[.pointer (some ⟨r,0,none⟩)] W (xac R)) :
  Calls prog 53 #[.pointer (some ⟨r,0,none⟩)] w (xac fun y e w'=>∃ x,y = .iface 100 x/\R x e w'):=by
 have H0:=hid (aI h hc);have HR:=hid hr;clear h hc hr
 rcases hcc with rfl
 all_goals
  go_enter func53,ntmps53;go_wp2_with (first | (go_at_call 109;go_must (refine (xan r s D i _ _ H0.out.1 H0.out.2 (by decide)).mono ?_;rintro e w1 ⟨rfl,hA⟩;have H1:=hid hA;clear hA)) | (go_at_call 110;go_must (refine (xap r s D i _ _ H1.out.buf H0.out.2).mono ?_;rintro e w2 ⟨rfl,k2,rfl⟩;have H2:=hid (H1.out.drewN k2);clear H1)) | (go_at_call 114;go_must (refine (HR.out _ H2.out).mono ?_;rintro e w3 ⟨x,y,rfl,hR⟩;have H3:=hid hR;clear hR)));go_ret2;exact ⟨_,_,rfl,_,rfl,H3.out⟩
theorem xbI (c:UInt8) (hcc:c=112\/c=82\/c=67) (h:Buf w r s D i) (hc:D[i]? = some c) (R:Value->Value->World->Prop) (hr:∀ W,At_ w W r s D i->Calls prog 115 #[.pointer (some ⟨r,0,none⟩)] W (xac R)) :
  Calls prog 53 #[.pointer (some ⟨r,0,none⟩)] w (xac fun y e w'=>∃ x,y = .iface 101 x/\R x e w'):=by
 have H0:=hid (aI h hc);have HR:=hid hr;clear h hc hr
 rcases hcc with rfl | rfl | rfl
 all_goals
  go_enter func53,ntmps53;go_wp2_with (first | (go_at_call 109;go_must (refine (xan r s D i _ _ H0.out.1 H0.out.2 (by decide)).mono ?_;rintro e w1 ⟨rfl,hA⟩;have H1:=hid hA;clear hA)) | (go_at_call 110;go_must (refine (xap r s D i _ _ H1.out.buf H0.out.2).mono ?_;rintro e w2 ⟨rfl,k2,rfl⟩;have H2:=hid (H1.out.drewN k2);clear H1)) | (go_at_call 115;go_must (refine (HR.out _ H2.out).mono ?_;rintro e w3 ⟨x,y,rfl,hR⟩;have H3:=hid hR;clear hR)));go_ret2;exact ⟨_,_,rfl,_,rfl,H3.out⟩
theorem xbO (c:UInt8) (hcc:c=128\/c=83\/c=68) (h:Buf w r s D i) (hc:D[i]? = some c) (R:Value->Value->World->Prop) (hr:∀ W,At_ w W r s D i->Calls prog 116 #[.pointer (some ⟨r,0,none⟩)] W (xac R)) :
  Calls prog 53 #[.pointer (some ⟨r,0,none⟩)] w (xac fun y e w'=>∃ x,y = .iface 22 x/\R x e w'):=by
 have H0:=hid (aI h hc);have HR:=hid hr;clear h hc hr
 rcases hcc with rfl | rfl | rfl
 all_goals
  go_enter func53,ntmps53;go_wp2_with (first | (go_at_call 109;go_must (refine (xan r s D i _ _ H0.out.1 H0.out.2 (by decide)).mono ?_;rintro e w1 ⟨rfl,hA⟩;have H1:=hid hA;clear hA)) | (go_at_call 110;go_must (refine (xap r s D i _ _ H1.out.buf H0.out.2).mono ?_;rintro e w2 ⟨rfl,k2,rfl⟩;have H2:=hid (H1.out.drewN k2);clear H1)) | (go_at_call 116;go_must (refine (HR.out _ H2.out).mono ?_;rintro e w3 ⟨x,y,rfl,hR⟩;have H3:=hid hR;clear hR)));go_ret2;exact ⟨_,_,rfl,_,rfl,H3.out⟩
theorem xec (c:UInt8) (hcc:c=81) (h:Buf w r s D i) (hc:D[i]? = some c) (R:Value->Value->World->Prop) (hr:∀ W,At_ w W r s D i->Calls prog 117 #[.pointer (some ⟨r,0,none⟩)] W (xac R)) :
  Calls prog 53 #[.pointer (some ⟨r,0,none⟩)] w (xac fun y e w'=>∃ x,y = .iface 102 x/\R x e w'):=by
 have H0:=hid (aI h hc);have HR:=hid hr;clear h hc hr
 rcases hcc with rfl
 all_goals
  go_enter func53,ntmps53;go_wp2_with (first | (go_at_call 109;go_must (refine (xan r s D i _ _ H0.out.1 H0.out.2 (by decide)).mono ?_;rintro e w1 ⟨rfl,hA⟩;have H1:=hid hA;clear hA)) | (go_at_call 110;go_must (refine (xap r s D i _ _ H1.out.buf H0.out.2).mono ?_;rintro e w2 ⟨rfl,k2,rfl⟩;have H2:=hid (H1.out.drewN k2);clear H1)) | (go_at_call 117;go_must (refine (HR.out _ H2.out).mono ?_;rintro e w3 ⟨x,y,rfl,hR⟩;have H3:=hid hR;clear hR)));go_ret2;exact ⟨_,_,rfl,_,rfl,H3.out⟩
theorem xeb (c:UInt8) (hcc:c=97) (h:Buf w r s D i) (hc:D[i]? = some c) (R:Value->Value->World->Prop) (hr:∀ W,At_ w W r s D i->Calls prog 118 #[.pointer (some ⟨r,0,none⟩)] W (xac R)) :
  Calls prog 53 #[.pointer (some ⟨r,0,none⟩)] w (xac fun y e w'=>∃ x,y = .iface 103 x/\R x e w'):=by
 have H0:=hid (aI h hc);have HR:=hid hr;clear h hc hr
 rcases hcc with rfl
 all_goals
  go_enter func53,ntmps53;go_wp2_with (first | (go_at_call 109;go_must (refine (xan r s D i _ _ H0.out.1 H0.out.2 (by decide)).mono ?_;rintro e w1 ⟨rfl,hA⟩;have H1:=hid hA;clear hA)) | (go_at_call 110;go_must (refine (xap r s D i _ _ H1.out.buf H0.out.2).mono ?_;rintro e w2 ⟨rfl,k2,rfl⟩;have H2:=hid (H1.out.drewN k2);clear H1)) | (go_at_call 118;go_must (refine (HR.out _ H2.out).mono ?_;rintro e w3 ⟨x,y,rfl,hR⟩;have H3:=hid hR;clear hR)));go_ret2;exact ⟨_,_,rfl,_,rfl,H3.out⟩
theorem xcl (c:UInt8) (hcc:c=113\/c=84) (h:Buf w r s D i) (hc:D[i]? = some c) (R:Value->Value->World->Prop) (hr:∀ W,At_ w W r s D i->Calls prog 119 #[.pointer (some ⟨r,0,none⟩)] W (xac R)) :
  Calls prog 53 #[.pointer (some ⟨r,0,none⟩)] w (xac fun y e w'=>∃ x,y = .iface 21 x/\R x e w'):=by
 have H0:=hid (aI h hc);have HR:=hid hr;clear h hc hr
 rcases hcc with rfl | rfl
 all_goals
  go_enter func53,ntmps53;go_wp2_with (first | (go_at_call 109;go_must (refine (xan r s D i _ _ H0.out.1 H0.out.2 (by decide)).mono ?_;rintro e w1 ⟨rfl,hA⟩;have H1:=hid hA;clear hA)) | (go_at_call 110;go_must (refine (xap r s D i _ _ H1.out.buf H0.out.2).mono ?_;rintro e w2 ⟨rfl,k2,rfl⟩;have H2:=hid (H1.out.drewN k2);clear H1)) | (go_at_call 119;go_must (refine (HR.out _ H2.out).mono ?_;rintro e w3 ⟨x,y,rfl,hR⟩;have H3:=hid hR;clear hR)));go_ret2;exact ⟨_,_,rfl,_,rfl,H3.out⟩
theorem xcs (c:UInt8) (hcc:c=129\/c=85) (h:Buf w r s D i) (hc:D[i]? = some c) (R:Value->Value->World->Prop) (hr:∀ W,At_ w W r s D i->Calls prog 120 #[.pointer (some ⟨r,0,none⟩)] W (xac R)) :
  Calls prog 53 #[.pointer (some ⟨r,0,none⟩)] w (xac fun y e w'=>∃ x,y = .iface 2 x/\R x e w'):=by
 have H0:=hid (aI h hc);have HR:=hid hr;clear h hc hr
 rcases hcc with rfl | rfl
 all_goals
  go_enter func53,ntmps53;go_wp2_with (first | (go_at_call 109;go_must (refine (xan r s D i _ _ H0.out.1 H0.out.2 (by decide)).mono ?_;rintro e w1 ⟨rfl,hA⟩;have H1:=hid hA;clear hA)) | (go_at_call 110;go_must (refine (xap r s D i _ _ H1.out.buf H0.out.2).mono ?_;rintro e w2 ⟨rfl,k2,rfl⟩;have H2:=hid (H1.out.drewN k2);clear H1)) | (go_at_call 120;go_must (refine (HR.out _ H2.out).mono ?_;rintro e w3 ⟨x,y,rfl,hR⟩;have H3:=hid hR;clear hR)));go_ret2;exact ⟨_,_,rfl,_,rfl,H3.out⟩
theorem xed (c:UInt8) (hcc:c=114) (h:Buf w r s D i) (hc:D[i]? = some c) (R:Value->Value->World->Prop) (hr:∀ W,At_ w W r s D i->Calls prog 121 #[.pointer (some ⟨r,0,none⟩)] W (xac R)) :
  Calls prog 53 #[.pointer (some ⟨r,0,none⟩)] w (xac fun y e w'=>∃ x,y = .iface 104 x/\R x e w'):=by
 have H0:=hid (aI h hc);have HR:=hid hr;clear h hc hr
 rcases hcc with rfl
 all_goals
  go_enter func53,ntmps53;go_wp2_with (first | (go_at_call 109;go_must (refine (xan r s D i _ _ H0.out.1 H0.out.2 (by decide)).mono ?_;rintro e w1 ⟨rfl,hA⟩;have H1:=hid hA;clear hA)) | (go_at_call 110;go_must (refine (xap r s D i _ _ H1.out.buf H0.out.2).mono ?_;rintro e w2 ⟨rfl,k2,rfl⟩;have H2:=hid (H1.out.drewN k2);clear H1)) | (go_at_call 121;go_must (refine (HR.out _ H2.out).mono ?_;rintro e w3 ⟨x,y,rfl,hR⟩;have H3:=hid hR;clear hR)));go_ret2;exact ⟨_,_,rfl,_,rfl,H3.out⟩
theorem xdI (c:UInt8) (hcc:c=130) (h:Buf w r s D i) (hc:D[i]? = some c) (R:Value->Value->World->Prop) (hr:∀ W,At_ w W r s D i->Calls prog 122 #[.pointer (some ⟨r,0,none⟩)] W (xac R)) :
  Calls prog 53 #[.pointer (some ⟨r,0,none⟩)] w (xac fun y e w'=>∃ x,y = .iface 106 x/\R x e w'):=by
 have H0:=hid (aI h hc);have HR:=hid hr;clear h hc hr
 rcases hcc with rfl
 all_goals
  go_enter func53,ntmps53;go_wp2_with (first | (go_at_call 109;go_must (refine (xan r s D i _ _ H0.out.1 H0.out.2 (by decide)).mono ?_;rintro e w1 ⟨rfl,hA⟩;have H1:=hid hA;clear hA)) | (go_at_call 110;go_must (refine (xap r s D i _ _ H1.out.buf H0.out.2).mono ?_;rintro e w2 ⟨rfl,k2,rfl⟩;have H2:=hid (H1.out.drewN k2);clear H1)) | (go_at_call 122;go_must (refine (HR.out _ H2.out).mono ?_;rintro e w3 ⟨x,y,rfl,hR⟩;have H3:=hid hR;clear hR)));go_ret2;exact ⟨_,_,rfl,_,rfl,H3.out⟩
theorem xdJ (c:UInt8) (hcc:c=160\/c=176) (h:Buf w r s D i) (hc:D[i]? = some c) (R:Value->Value->World->Prop) (hr:∀ W,At_ w W r s D i->Calls prog 123 #[.pointer (some ⟨r,0,none⟩)] W (xac R)) :
  Calls prog 53 #[.pointer (some ⟨r,0,none⟩)] w (xac fun y e w'=>∃ x,y = .iface 26 x/\R x e w'):=by
 have H0:=hid (aI h hc);have HR:=hid hr;clear h hc hr
 rcases hcc with rfl | rfl
 all_goals
  go_enter func53,ntmps53;go_wp2_with (first | (go_at_call 109;go_must (refine (xan r s D i _ _ H0.out.1 H0.out.2 (by decide)).mono ?_;rintro e w1 ⟨rfl,hA⟩;have H1:=hid hA;clear hA)) | (go_at_call 110;go_must (refine (xap r s D i _ _ H1.out.buf H0.out.2).mono ?_;rintro e w2 ⟨rfl,k2,rfl⟩;have H2:=hid (H1.out.drewN k2);clear H1)) | (go_at_call 123;go_must (refine (HR.out _ H2.out).mono ?_;rintro e w3 ⟨x,y,rfl,hR⟩;have H3:=hid hR;clear hR)));go_ret2;exact ⟨_,_,rfl,_,rfl,H3.out⟩
theorem xdL (c:UInt8) (hcc:c=161\/c=177\/c=163\/c=179) (h:Buf w r s D i) (hc:D[i]? = some c) (R:Value->Value->World->Prop) (hr:∀ W,At_ w W r s D i->Calls prog 107 #[.pointer (some ⟨r,0,none⟩)] W (xac R)) :
  Calls prog 53 #[.pointer (some ⟨r,0,none⟩)] w (xac fun y e w'=>∃ x,y = .iface 9 x/\R x e w'):=by
 have H0:=hid (aI h hc);have HR:=hid hr;clear h hc hr
 rcases hcc with rfl | rfl | rfl | rfl
 all_goals
  go_enter func53,ntmps53;go_wp2_with (first | (go_at_call 109;go_must (refine (xan r s D i _ _ H0.out.1 H0.out.2 (by decide)).mono ?_;rintro e w1 ⟨rfl,hA⟩;have H1:=hid hA;clear hA)) | (go_at_call 110;go_must (refine (xap r s D i _ _ H1.out.buf H0.out.2).mono ?_;rintro e w2 ⟨rfl,k2,rfl⟩;have H2:=hid (H1.out.drewN k2);clear H1)) | (go_at_call 107;go_must (refine (HR.out _ H2.out).mono ?_;rintro e w3 ⟨x,y,rfl,hR⟩;have H3:=hid hR;clear hR)));go_ret2;exact ⟨_,_,rfl,_,rfl,H3.out⟩
theorem xcW (c:UInt8) (hcc:c=131) (h:Buf w r s D i) (hc:D[i]? = some c) (R:Value->Value->World->Prop) (hr:∀ W,At_ w W r s D i->Calls prog 124 #[.pointer (some ⟨r,0,none⟩)] W (xac R)) :
  Calls prog 53 #[.pointer (some ⟨r,0,none⟩)] w (xac fun y e w'=>∃ x,y = .iface 109 x/\R x e w'):=by
 have H0:=hid (aI h hc);have HR:=hid hr;clear h hc hr
 rcases hcc with rfl
 all_goals
  go_enter func53,ntmps53;go_wp2_with (first | (go_at_call 109;go_must (refine (xan r s D i _ _ H0.out.1 H0.out.2 (by decide)).mono ?_;rintro e w1 ⟨rfl,hA⟩;have H1:=hid hA;clear hA)) | (go_at_call 110;go_must (refine (xap r s D i _ _ H1.out.buf H0.out.2).mono ?_;rintro e w2 ⟨rfl,k2,rfl⟩;have H2:=hid (H1.out.drewN k2);clear H1)) | (go_at_call 124;go_must (refine (HR.out _ H2.out).mono ?_;rintro e w3 ⟨x,y,rfl,hR⟩;have H3:=hid hR;clear hR)));go_ret2;exact ⟨_,_,rfl,_,rfl,H3.out⟩
theorem xer (c:UInt8) (hcc:c=152) (h:Buf w r s D i) (hc:D[i]? = some c) (R:Value->Value->World->Prop) (hr:∀ W,At_ w W r s D i->Calls prog 125 #[.pointer (some ⟨r,0,none⟩)] W (xac R)) :
  Calls prog 53 #[.pointer (some ⟨r,0,none⟩)] w (xac fun y e w'=>∃ x,y = .iface 112 x/\R x e w'):=by
 have H0:=hid (aI h hc);have HR:=hid hr;clear h hc hr
 rcases hcc with rfl
 all_goals
  go_enter func53,ntmps53;go_wp2_with (first | (go_at_call 109;go_must (refine (xan r s D i _ _ H0.out.1 H0.out.2 (by decide)).mono ?_;rintro e w1 ⟨rfl,hA⟩;have H1:=hid hA;clear hA)) | (go_at_call 110;go_must (refine (xap r s D i _ _ H1.out.buf H0.out.2).mono ?_;rintro e w2 ⟨rfl,k2,rfl⟩;have H2:=hid (H1.out.drewN k2);clear H1)) | (go_at_call 125;go_must (refine (HR.out _ H2.out).mono ?_;rintro e w3 ⟨x,y,rfl,hR⟩;have H3:=hid hR;clear hR)));go_ret2;exact ⟨_,_,rfl,_,rfl,H3.out⟩
theorem xdb (c:UInt8) (hcc:c=224\/c=240) (h:Buf w r s D i) (hc:D[i]? = some c) (R:Value->Value->World->Prop) (hr:∀ W,At_ w W r s D i->Calls prog 126 #[.pointer (some ⟨r,0,none⟩)] W (xac R)) :
  Calls prog 53 #[.pointer (some ⟨r,0,none⟩)] w (xac fun y e w'=>R y e w'):=by
 have H0:=hid (aI h hc);have HR:=hid hr;clear h hc hr
 rcases hcc with rfl | rfl
 all_goals
  go_enter func53,ntmps53;go_wp2_with (first | (go_at_call 109;go_must (refine (xan r s D i _ _ H0.out.1 H0.out.2 (by decide)).mono ?_;rintro e w1 ⟨rfl,hA⟩;have H1:=hid hA;clear hA)) | (go_at_call 110;go_must (refine (xap r s D i _ _ H1.out.buf H0.out.2).mono ?_;rintro e w2 ⟨rfl,k2,rfl⟩;have H2:=hid (H1.out.drewN k2);clear H1)) | (go_at_call 126;go_must (refine (HR.out _ H2.out).mono ?_;rintro e w3 ⟨x,y,rfl,hR⟩;have H3:=hid hR;clear hR)));go_ret2;exact ⟨_,_,rfl,H3.out⟩
theorem xdy (c:UInt8) (hcc:c=69\/c=192\/c=208) (h:Buf w r s D i) (hc:D[i]? = some c) (R:Value->Value->World->Prop) (hr:∀ W,At_ w W r s D i->Calls prog 127 #[.pointer (some ⟨r,0,none⟩)] W (xac R)) :
  Calls prog 53 #[.pointer (some ⟨r,0,none⟩)] w (xac fun y e w'=>R y e w'):=by
 have H0:=hid (aI h hc);have HR:=hid hr;clear h hc hr
 rcases hcc with rfl | rfl | rfl
 all_goals
  go_enter func53,ntmps53;go_wp2_with (first | (go_at_call 109;go_must (refine (xan r s D i _ _ H0.out.1 H0.out.2 (by decide)).mono ?_;rintro e w1 ⟨rfl,hA⟩;have H1:=hid hA;clear hA)) | (go_at_call 110;go_must (refine (xap r s D i _ _ H1.out.buf H0.out.2).mono ?_;rintro e w2 ⟨rfl,k2,rfl⟩;have H2:=hid (H1.out.drewN k2);clear H1)) | (go_at_call 127;go_must (refine (HR.out _ H2.out).mono ?_;rintro e w3 ⟨x,y,rfl,hR⟩;have H3:=hid hR;clear hR)));go_ret2;exact ⟨_,_,rfl,H3.out⟩
theorem xdK (c:UInt8) (hcc:c=193\/c=209) (h:Buf w r s D i) (hc:D[i]? = some c) (R:Value->Value->World->Prop) (hr:∀ W,At_ w W r s D i->Calls prog 128 #[.pointer (some ⟨r,0,none⟩)] W (xac R)) :
  Calls prog 53 #[.pointer (some ⟨r,0,none⟩)] w (xac fun y e w'=>R y e w'):=by
 have H0:=hid (aI h hc);have HR:=hid hr;clear h hc hr
 rcases hcc with rfl | rfl
 all_goals
  go_enter func53,ntmps53;go_wp2_with (first | (go_at_call 109;go_must (refine (xan r s D i _ _ H0.out.1 H0.out.2 (by decide)).mono ?_;rintro e w1 ⟨rfl,hA⟩;have H1:=hid hA;clear hA)) | (go_at_call 110;go_must (refine (xap r s D i _ _ H1.out.buf H0.out.2).mono ?_;rintro e w2 ⟨rfl,k2,rfl⟩;have H2:=hid (H1.out.drewN k2);clear H1)) | (go_at_call 128;go_must (refine (HR.out _ H2.out).mono ?_;rintro e w3 ⟨x,y,rfl,hR⟩;have H3:=hid hR;clear hR)));go_ret2;exact ⟨_,_,rfl,H3.out⟩
end
end
end Go.Proofs.YtmdpodeegdjkeaaGreatDoor
section
namespace Go.Proofs.YtmdpodeegdjkeaaGreatDoor
inductive Same:V->V->Prop
 | mk {a b:V}:a.kind=b.kind->a.num=b.num->a.text=b.text->a.kids.length=b.kids.length->a.desc.length=b.desc.length ->
   (∀ (i:Nat) (x y:V),a.kids[i]? = some x->b.kids[i]? = some y->Same x y)->(∀ (x y:V),a.desc[0]? = some x->b.desc[0]? = some y->Same x y)->Same a b
inductive xao:V->V->Prop
 | leaf {a b:V}:a.kind≠21->a.kind≠22->Same a b->xao a b
 | list {a b:V}:a.kind=21->b.kind=21->a.kids.length=b.kids.length->a.desc=[]->b.desc=[]->(∀ (i:Nat) (x y:V),a.kids[i]? = some x->b.kids[i]? = some y->xao x y)->xao a b
 | map {a b:V} (j:Nat->Nat) (k x:Nat->V):a.kind=22->b.kind=22->a.kids.length=b.kids.length->a.desc=[]->b.desc=[] ->
   (∀ (i:Nat) (u:V),a.kids[2*i]? = some u->2*i+1 < a.kids.length->b.kids[2*j i]? = some (k i)/\b.kids[2*j i+1]? = some (x i)/\Same u (k i)) ->
   (∀ (i:Nat) (u:V),a.kids[2*i+1]? = some u->xao u (x i))->xao a b
def asRead (v:V):V :=
 .mk (if v.kind=20 then 19 else v.kind) v.num v.text (if v.kind=23 then v.kids else v.kids.attach.map fun k=>asRead k.1) v.of_ v.desc
termination_by SizeOf.sizeOf v
decreasing_by exact V.sizeOf_kid k.2
theorem xbj (v:V):asRead v = .mk (if v.kind=20 then 19 else v.kind) v.num v.text (if v.kind=23 then v.kids else v.kids.map asRead) v.of_ v.desc:=by
 rw [asRead];congr 1;split <;> simp
def xce (k:Int):Prop:=(1<=k/\k<=9)\/k=16\/k=17\/k=19\/k=20
def xaK (k:Int):Prop:=(1<=k/\k<=11)\/(16<=k/\k<=20)
end Go.Proofs.YtmdpodeegdjkeaaGreatDoor
end
namespace Go.Proofs.YtmdpodeegdjkeaaGreatDoor
open Go Go.RowKit Go.Lib Tryz
section
def sint (n:Int):Int:=if n < 9223372036854775808 then n else n - 18446744073709551616
def raw (v:V):Value :=
 if v.kind=1 then .bool (decide (v.num≠0)) else if v.kind=2 then .int .u8 v.num else if v.kind=3 then .int .u16 v.num else if v.kind=4 then .int .u32 v.num
 else if v.kind=5 then .int .u64 v.num else if v.kind=6 then .int .i8 (sint v.num) else if v.kind=7 then .int .i16 (sint v.num) else if v.kind=8 then .int .i32 (sint v.num)
 else if v.kind=9 then .int .i64 (sint v.num) else if v.kind=10 then .float .f32 v.num.toNat else if v.kind=11 then .float .f64 v.num.toNat
 else if v.kind=16 then tm (sint v.num) else if v.kind=17 then uid (bytesOf v.text) else .string v.text
def rtype (k:Int):TypeId :=
 if k=1 then 4 else if k=2 then 5 else if k=3 then 100 else if k=4 then 101 else if k=5 then 22 else if k=6 then 102 else if k=7 then 103 else if k=8 then 21
 else if k=9 then 2 else if k=10 then 104 else if k=11 then 106 else if k=16 then 109 else if k=17 then 112 else 9
def xdE (k:Int):TypeId :=
 if k=1 then 113 else if k=2 then 115 else if k=3 then 118 else if k=4 then 121 else if k=5 then 124 else if k=6 then 127 else if k=7 then 130 else if k=8 then 133
 else if k=9 then 136 else if k=10 then 139 else if k=11 then 142 else if k=16 then 144 else if k=17 then 147 else 153
def xdD (k:Int):Nat:=if k=16 then 2 else if k=17 then 16 else 1
def xaj (k:Int):Prop:=(1<=k/\k<=11)\/k=16\/k=17\/k=19
def MapAt (w:World) (b:Nat) (es:List (Value × Value)):Prop :=
 ∃ arr clock,w.heap[b]? = some (.map arr clock)/\arr.toList.map (fun e=>(e.key,e.val))=es/\(∀ x ∈ arr.toList,x.born < clock)/\(arr.toList.map (·.born)).Nodup
namespace MapAt
variable {M:Nat->Prop} {w w':World} {b:Nat} {es:List (Value × Value)}
theorem lt (h:MapAt w b es):b < w.heap.size:=by obtain ⟨_,_,h,_⟩:=h;exact block_lt h
theorem keep (h:MapAt w b es) (hk:Kept M w w') (hb:¬ M b):MapAt w' b es:=by
 obtain ⟨arr,clock,h,h2⟩:=h;exact ⟨arr,clock,hk.obj h hb,h2⟩
theorem new (w:World):MapAt (w.alloc (.map #[] 0)) w.heap.size []:=⟨#[],0,heap_alloc_new w _,rfl,by simp,by simp⟩
end MapAt
inductive AnyV (S:Nat->Prop) (w:World):Value->V->Prop
 | null {v:V}:v.kind=0->AnyV S w .nilIface v
 | scal {v:V}:xaj v.kind->AnyV S w (.iface (rtype v.kind) (raw v)) v
 | bin {v:V} {s:Value}:v.kind=18->BSl S w s (bytesOf v.text)->AnyV S w (.iface 26 s) v
 | list {v:V} {s:Value} {xs:List Value}:v.kind=21->CSl S w 1 s v.kids.length xs->(∀ (i:Nat) (x:Value) (k:V),xs[i]? = some x->v.kids[i]? = some k->AnyV S w x k)->AnyV S w (.iface 76 s) v
 | map {v:V} {b:Nat} {es:List (Value × Value)} (j l:Nat->Nat):v.kind=22->S b->MapAt w b es->es.length*2=v.kids.length->(∀ i,i < es.length->j i < es.length)->(∀ p,p < es.length->l p < es.length/\j (l p)=p) ->
   (∀ (i:Nat) (e:Value × Value) (k:V),es[i]? = some e->v.kids[2*j i]? = some k->AnyV S w e.1 k)->(∀ (i:Nat) (e:Value × Value) (k:V),es[i]? = some e->v.kids[2*j i+1]? = some k->AnyV S w e.2 k)->AnyV S w (.iface 70 (.map (some b))) v
 | mapS {v:V} {b:Nat} {es:List (Value × Value)} (j l:Nat->Nat):v.kind=22->S b->MapAt w b es->es.length*2=v.kids.length->(∀ i,i < es.length->j i < es.length)->(∀ p,p < es.length->l p < es.length/\j (l p)=p) ->
   (∀ (i:Nat) (e:Value × Value) (k:V),es[i]? = some e->v.kids[2*j i]? = some k->k.kind=19/\e.1 = .string k.text)->(∀ (i:Nat) (e:Value × Value) (k:V),es[i]? = some e->v.kids[2*j i+1]? = some k->AnyV S w e.2 k)->AnyV S w (.iface 84 (.map (some b))) v
 | arr {v k0:V} {s:Value}:v.kind=23->v.kids[0]? = some k0->xaj k0.kind->CSl S w (xdD k0.kind) s v.kids.length (v.kids.flatMap fun k=>(raw k).cells.toList)->AnyV S w (.iface (xdE k0.kind) s) v
 | arrB {v k0:V} {s:Value} {xs:List Value}:v.kind=23->v.kids[0]? = some k0->k0.kind=18->CSl S w 1 s v.kids.length xs->(∀ (i:Nat) (x:Value) (k:V),xs[i]? = some x->v.kids[i]? = some k->BSl S w x (bytesOf k.text))->AnyV S w (.iface 150 s) v
theorem CSl.keep {S M:Nat->Prop} {w w':World} {size n:Nat} {s:Value} {xs:List Value} (h:CSl S w size s n xs) (hk:Kept M w w') (hS:∀ b,b < w.heap.size->S b->¬ M b):CSl S w' size s n xs:=by
 obtain ⟨hl,a,cap,rfl,hc,hm,h⟩:=h;refine ⟨hl,a,cap,rfl,hc,hm,?_⟩
 rcases h with rfl | ⟨b,off,rfl,hb,h⟩
 ·exact .inl rfl
 ·exact .inr ⟨b,off,rfl,hb,fun j x hx=>hk.cell (h j x hx) (hS b (World.block_lt_of_cell? w _ (h j x hx)) hb)⟩
theorem CSl.mono {S S':Nat->Prop} {w:World} {size n:Nat} {s:Value} {xs:List Value} (h:CSl S w size s n xs) (hS:∀ b,S b->S' b):CSl S' w size s n xs:=by
 obtain ⟨hl,a,cap,rfl,hc,hm,h⟩:=h;refine ⟨hl,a,cap,rfl,hc,hm,?_⟩
 rcases h with rfl | ⟨b,off,rfl,hb,h⟩
 ·exact .inl rfl
 ·exact .inr ⟨b,off,rfl,hS b hb,h⟩
namespace AnyV
theorem form {S:Nat->Prop} {w:World} {x:Value} {v:V} (h:AnyV S w x v):x = .nilIface\/∃ T y,x = .iface T y:=by
 cases h <;> first | exact .inl rfl | exact .inr ⟨_,_,rfl⟩
variable {S S' M:Nat->Prop} {w w':World} {x:Value} {v:V}
theorem keep (h:AnyV S w x v) (hk:Kept M w w') (hS:∀ b,b < w.heap.size->S b->¬ M b):AnyV S w' x v:=by
 induction h with
 | null h=>exact .null h
 | scal h=>exact .scal h
 | bin h hb=>exact .bin h (hb.keep hk hS)
 | list h hs _ ih=>exact .list h (hs.keep hk hS) ih
 | map j l h hb hm h1 h2 h3 _ _ ih1 ih2=>exact .map j l h hb (hm.keep hk (hS _ hm.lt hb)) h1 h2 h3 ih1 ih2
 | mapS j l h hb hm h1 h2 h3 h4 _ ih=>exact .mapS j l h hb (hm.keep hk (hS _ hm.lt hb)) h1 h2 h3 h4 ih
 | arr h h0 h1 hs=>exact .arr h h0 h1 (hs.keep hk hS)
 | arrB h h0 h1 hs h2=>exact .arrB h h0 h1 (hs.keep hk hS) fun i x k hx hk'=>(h2 i x k hx hk').keep hk hS
theorem mono (h:AnyV S w x v) (hS:∀ b,S b->S' b):AnyV S' w x v:=by
 induction h with
 | null h=>exact .null h
 | scal h=>exact .scal h
 | bin h hb=>exact .bin h (hb.mono fun b _=>hS b)
 | list h hs _ ih=>exact .list h (hs.mono hS) ih
 | map j l h hb hm h1 h2 h3 _ _ ih1 ih2=>exact .map j l h (hS _ hb) hm h1 h2 h3 ih1 ih2
 | mapS j l h hb hm h1 h2 h3 h4 _ ih=>exact .mapS j l h (hS _ hb) hm h1 h2 h3 h4 ih
 | arr h h0 h1 hs=>exact .arr h h0 h1 (hs.mono hS)
 | arrB h h0 h1 hs h2=>exact .arrB h h0 h1 (hs.mono hS) fun i x k hx hk'=>(h2 i x k hx hk').mono fun b _=>hS b
end AnyV
end
def xaf (w:World):Nat->Prop:=fun b=>w.heap.size<=b
def Reads (r:Nat) (s:Value) (D:List UInt8) (l:List V) (pos:Nat->Nat):Prop :=
 ∀ k v,l[k]? = some v->∀ W,Buf W r s D (pos k)->Calls prog 53 #[.pointer (some ⟨r,0,none⟩)] W (xac fun x e W'=>e = .nilIface/\AnyV (xaf W) W' x v/\At_ W W' r s D (pos (k+1)))
theorem info_any:(prog.info? 20).map (fun i=>(i.zero,i.size,i.bytes))=some (some .nilIface,1,16):=by kernel_rfl
structure LInv (w0:World) (r:Nat) (s:Value) (D:List UInt8) (p:Nat) (t:TypeId) (g:Nat) (l:List V) (pos:Nat->Nat) (k:Nat) (w:World):Prop where
 at_:At_ w0 w r s D (pos k)
 cell:Blk w p t #[.slice none 0 0]
 big:w0.heap.size<=g
 bigp:w0.heap.size<=p
 ne:p < g
 row:∃ cs,Blk w g 20 cs/\cs.size=l.length/\∀ (i:Nat) (x:Value) (v:V),i < k->cs[i]? = some x->l[i]? = some v->AnyV (fun b=>g < b) w x v
theorem LInv.step {w0 w w1:World} {r:Nat} {s:Value} {D:List UInt8} {i0 p:Nat} {t:TypeId} {g:Nat} {l:List V} {pos:Nat->Nat} {k:Nat} {x:Value} {v:V}
  (h:LInv w0 r s D p t g l pos k w) (h0:Buf w0 r s D i0) (hv:l[k]? = some v) (hA:At_ w w1 r s D (pos (k+1))) (hx:AnyV (xaf w) w1 x v) :
  (∃ u,w1.cell? ⟨g,k,none⟩=some u)/\w1.frozen? ⟨g,k,none⟩=false/\LInv w0 r s D p t g l pos (k+1) (w1.setCell ⟨g,k,none⟩ x):=by
 obtain ⟨cs,hb,hs,hcs⟩:=h.row;have hgr:g≠r:=fun e=>by have:=h0.lt;have:=h.big;omega
 have hpr:p≠r:=fun e=>by have:=h0.lt;have:=h.bigp;omega
 have hb1:=hb.kept hA.kept hgr;have hk:k < l.length:=(gi.1 hv).1;have hkr:Kept (Only r) w w1:=hA.kept;have hks:Kept (Only g) w1 (w1.setCell ⟨g,k,none⟩ x):=(kR _ _).set1 k x;refine ⟨?_,hb1.frozen k,⟨(h.at_.trans hA).setNew h0 h.big x,?_,h.big,h.bigp,h.ne,?_⟩⟩
 ·rw [hb1.cell k];exact ⟨_,Array.getElem?_eq_getElem (by omega)⟩
 ·exact (h.cell.kept hA.kept hpr).kept hks (fun e=>absurd (show p=g from e) (Nat.ne_of_lt h.ne))
 ·refine ⟨_,hb1.set_ k x,by simpa using hs,fun i y u hi hy hu => ?_⟩
  rcases Nat.lt_or_ge i k with hlt | hge
  ·rw [Array.getElem?_setIfInBounds,if_neg (by omega)] at hy;have:=(hcs i y u hlt hy hu).keep hkr (fun b _ hg he=>by have h1:b=r:=he;have:=h0.lt;have:=h.big;have h3:g < b:=hg;omega);exact this.keep hks (fun b _ hg he=>by have h1:b=g:=he;have h3:g < b:=hg;omega)
  ·obtain rfl:i=k:=by omega
   rw [Array.getElem?_setIfInBounds,if_pos rfl,if_pos (by omega)] at hy;cases hy;rw [hv] at hu;cases hu;refine (hx.mono fun b hbb => ?_).keep hks (fun b _ hg he=>by have h1:b=g:=he;have h3:g < b:=hg;omega);have h2:w.heap.size<=b:=hbb;have:=hb.lt
   show g < b
   omega
theorem LInv.start {w0 w:World} {r:Nat} {s:Value} {D:List UInt8} {p:Nat} {t:TypeId} {l:List V} {pos:Nat->Nat}
  (hA:At_ w0 w r s D (pos 0)) (hb:Blk w p t #[.slice none 0 0]) (hp:w0.heap.size<=p):LInv w0 r s D p t w.heap.size l pos 0 (w.alloc (.cells (madeCells #[.nilIface] l.length) 20)) :=
 ⟨hA.nope ((kR _ _).alloc _),hb.alloc _,hA.kept.size,hp,hb.lt,_,Blk.new _ _ _,by simp [madeCells],fun i x v hi=>by omega⟩
def xdM (w0:World) (r:Nat) (s:Value) (D:List UInt8) (j p:Nat) (t:TypeId) (l:List V) (w':World):Prop :=
 At_ w0 w' r s D j/\∃ v xs,Blk w' p t #[v]/\CSl (xaf w0) w' 1 v l.length xs/\∀ (i:Nat) (x:Value) (k:V),xs[i]? = some x->l[i]? = some k->AnyV (xaf w0) w' x k
theorem LInv.done {w0 w:World} {r:Nat} {s:Value} {D:List UInt8} {i0 p:Nat} {t:TypeId} {g:Nat} {l:List V} {pos:Nat->Nat}
  (h:LInv w0 r s D p t g l pos l.length w) (h0:Buf w0 r s D i0) (hl:l.length<=maxLen) :
  xdM w0 r s D (pos l.length) p t l (w.setCell ⟨p,0,none⟩ (.slice (some ⟨g,0,none⟩) l.length l.length)):=by
 obtain ⟨cs,hb,hs,hcs⟩:=h.row;have hks:∀ u,Kept (Only p) w (w.setCell ⟨p,0,none⟩ u):=fun u=>(kR _ _).set1 0 u
 have hbg:=hb.kept (hks (.slice (some ⟨g,0,none⟩) l.length l.length)) (fun e=>absurd (show g=p from e) (Nat.ne_of_gt h.ne));refine ⟨h.at_.setNew h0 h.bigp _,_,cs.toList,by simpa using h.cell.set_ 0 (.slice (some ⟨g,0,none⟩) l.length l.length),⟨by simpa using hs,some ⟨g,0,none⟩,l.length,rfl,Nat.le_refl _,hl,.inr ⟨g,0,rfl,h.big,fun j u hu => ?_⟩⟩,fun i x k hx hk => ?_⟩
 ·rw [hbg.cell,Nat.zero_add];simpa using hu
 ·have hi:i < l.length:=(gi.1 hk).1;refine ((hcs i x k hi (by simpa using hx) hk).keep (hks _) (fun b _ hg he => ?_)).mono (fun b hg => ?_)
  ·have h1:b=p:=he;have h3:g < b:=hg;have:=h.ne;omega
  ·have h3:g < b:=hg;have:=h.big;show w0.heap.size<=b;omega
theorem xnd (w0 w:World) (r:Nat) (s:Value) (D:List UInt8) (i0 i p:Nat) (t:TypeId) (l:List V) (pos:Nat->Nat) (h0:Buf w0 r s D i0) (hA:At_ w0 w r s D i) (hp:w0.heap.size<=p) (hc:Blk w p t #[.slice none 0 0])
  (hz:0 < l.length) (hn:l.length<=65536) (hle:pos 0+l.length<=D.length)
  (hH:∀ W,Buf W r s D i->Calls prog 104 #[.pointer (some ⟨r,0,none⟩)] W fun e W'=>e = .returned (.tuple #[.int .i64 l.length,.nilIface])/\At_ W W' r s D (pos 0)) (hR:Reads r s D l pos) :
  Calls prog 45 #[.pointer (some ⟨p,0,none⟩),.pointer (some ⟨r,0,none⟩)] w (Gives fun e w'=>e = .nilIface/\xdM w0 r s D (pos l.length) p t l w'):=by
 obtain ⟨i1,hi,hz0,hz1,hz2⟩:=info_parts info_any;obtain ⟨n,hnn⟩:∃ n,l.length=n:=⟨_,rfl⟩
 have HL:=hid hnn;have HB:=hid h0;have HA:=hid (aI hA (aI hc hp));have HH:=hid hH;have HR:=hid hR;have hpr:p≠r:=fun e=>by have:=h0.lt;omega
 have HP:=hid hpr;rw [hnn] at hz hn hle;have hz':(0:Int) < (n:Int):=by omega
 have hle':(n:Int)<=(D.length:Int) - (pos 0:Int):=by omega
 have HLE:=hid hle;clear h0 hA hp hc hH hR hnn hpr hle;go_enter func45,ntmps45;go_wp2_with (first | (go_at_call 104;go_must (refine (HH.out _ HA.out.1.buf).mono ?_;rw [HL.out];rintro e w1 ⟨rfl,hA1⟩;have H1:=hid (HA.out.1.trans hA1);have hB1:=HA.out.2.1.kept hA1.kept HP.out;have H1B:=hid hB1;clear hA1 hB1)) | (go_at_call 105;go_must (refine (xaY r s D (pos 0) _ H1.out.buf).mono ?_;rintro e w2 ⟨rfl,k2,rfl⟩;have H2:=hid (H1.out.drewN k2);have H2B:=hid (H1B.out.drewN k2);have c2:w1.cell? ⟨p,0,none⟩=some (.slice none 0 0):=H1B.out.cell 0)) | (at_make;go_must (refine wpList_make_row _ rfl (.tmp 29) (.tmp 29) 76 rfl 20 i1 .nilIface underlying76 hi hz0 hz1 rfl .i64 .i64 n rfl rfl (by rw [hz2];omega) (by omega) ?_)));have HI:=hid (LInv.start (l:=l) (pos:=pos) H2.out H2B.out HA.out.2.2);rw [HL.out] at HI;generalize hW:(w1.drewN k2).alloc (.cells (madeCells #[.nilIface] n) 20)=W at HI ⊢;change Hid (LInv w0 r s D p t w1.heap.size l pos 0 W) at HI;obtain ⟨g,hg⟩:∃ g,w1.heap.size=g:=⟨_,rfl⟩
 rw [hg] at HI ⊢;clear hW hg H1 H1B H2 H2B c2
 go_loopw [36] (fun c w'=>∃ k:Nat,k<=n/\c = .int .i64 k/\Hid (LInv w0 r s D p t g l pos k w')) (fun c _=>n - (RowKit.intOf c).toNat)
 case atStart=>exact ⟨0,by omega,rfl,HI⟩
 case round =>
  obtain ⟨k,hk,rfl,HI⟩:=hrel
  by_cases hkn:k < n
  ·have hkn':(k:Int) < (n:Int):=by omega
   have hk0:(0:Int)<=(k:Int):=by omega
   obtain ⟨v,hv⟩:∃ v,l[k]? = some v:=⟨l[k]'(by rw [HL.out];exact hkn),ge _⟩
   have HV:=hid hv;have e1:IntKind.i64.wrap ((k:Int)+1)=(k:Int)+1:=IntWalk.i64_in _ (by omega);clear hv;go_wp2_with ((go_at_call 53;go_must (refine (HR.out k v HV.out _ HI.out.at_.buf).mono ?_;rintro e w3 ⟨x,y,rfl,rfl,hx,hA3⟩;have hst:=HI.out.step HB.out HV.out hA3 hx;obtain ⟨⟨u,c3⟩,f3,hI3⟩:=hst;have HI3:=hid hI3;have hf:=hx.form;clear hx hA3 hI3;rcases hf with rfl | ⟨T,z,rfl⟩)))
   all_goals
    go_roundw
    case rel=>exact ⟨k+1,by omega,by go_num,HI3⟩
    case measure=>simp [RowKit.intOf];omega
  ·obtain rfl:k=n:=by omega
   have c4:=HI.out.cell.cell 0;have f4:=HI.out.cell.frozen 0;have hlt:¬ (k:Int) < (k:Int):=by omega
   have hd:=LInv.done (l:=l) (pos:=pos) (by rw [HL.out];exact HI.out) HB.out (by rw [HL.out];unfold maxLen;omega);rw [HL.out] at hd;have HD:=hid hd;clear hd;go_wp2_with (fail);go_ret;refine ⟨_,rfl,rfl,?_⟩;rw [HL.out];exact HD.out
theorem xfA (w0 w:World) (r:Nat) (s:Value) (D:List UInt8) (i0 i p:Nat) (t:TypeId) (j:Nat) (h0:Buf w0 r s D i0) (hA:At_ w0 w r s D i) (hp:w0.heap.size<=p) (hc:Blk w p t #[.slice none 0 0])
  (hH:∀ W,Buf W r s D i->Calls prog 104 #[.pointer (some ⟨r,0,none⟩)] W fun e W'=>e = .returned (.tuple #[.int .i64 0,.nilIface])/\At_ W W' r s D j) :
  Calls prog 45 #[.pointer (some ⟨p,0,none⟩),.pointer (some ⟨r,0,none⟩)] w (Gives fun e w'=>e = .nilIface/\xdM w0 r s D j p t [] w'):=by
 have HB:=hid h0;have HA:=hid (aI hA (aI hc hp));have HH:=hid hH;have hpr:p≠r:=fun e=>by have:=h0.lt;omega
 have HP:=hid hpr;clear h0 hA hp hc hH hpr;go_enter func45,ntmps45;go_wp2_with (first | (go_at_call 104;go_must (refine (HH.out _ HA.out.1.buf).mono ?_;rintro e w1 ⟨rfl,hA1⟩;have hle:=hA1.buf.le;have hle':(0:Int)<=(D.length:Int) - (j:Int):=(by omega);have H1:=hid (HA.out.1.trans hA1);have hB1:=HA.out.2.1.kept hA1.kept HP.out;have H1B:=hid hB1;clear hA1 hB1 hle)) | (go_at_call 105;go_must (refine (xaY r s D j _ H1.out.buf).mono ?_;rintro e w2 ⟨rfl,k2,rfl⟩;have H2:=hid (H1.out.drewN k2);have H2B:=hid (H1B.out.drewN k2);have c2:w1.cell? ⟨p,0,none⟩=some (.slice none 0 0):=H1B.out.cell 0;have f2:w1.frozen? ⟨p,0,none⟩=false:=H1B.out.frozen 0)))
 go_loopw [36] (fun c w'=>c = .int .i64 0/\w'=w1.drewN k2) (fun _ _=>0)
 case atStart=>exact ⟨rfl,rfl⟩
 case round =>
  obtain ⟨rfl,rfl⟩:=hrel;go_wp2_with (fail);go_ret;exact ⟨_,rfl,rfl,H2.out.setNew HB.out HA.out.2.2 _,_,[],by simpa using H2B.out.set_ 0 (.slice none 0 0),⟨by simp,none,0,rfl,Nat.le_refl _,by unfold maxLen;omega,.inl rfl⟩,by simp⟩
theorem xdM.toAny {w0 w:World} {r:Nat} {s:Value} {D:List UInt8} {j p:Nat} {t:TypeId} {l:List V} (h:xdM w0 r s D j p t l w) :
  ∃ u,w.cell? ⟨p,0,none⟩=some u/\(∃ a n c,u = .slice a n c)/\∀ v:V,v.kind=21->v.kids=l->AnyV (xaf w0) w (.iface 76 u) v:=by
 obtain ⟨_,u,xs,hb,hc,he⟩:=h;refine ⟨u,by rw [hb.cell 0];rfl,?_,fun v hk hl => ?_⟩
 ·obtain ⟨_,a,c,rfl,_⟩:=hc;exact ⟨_,_,_,rfl⟩
 ·subst hl;exact .list hk hc he
theorem xfp (w:World) (r:Nat) (s:Value) (D:List UInt8) (i j:Nat) (l:List V) (h:Buf w r s D i)
  (hL:∀ W p,At_ w W r s D i->w.heap.size<=p->Blk W p 76 #[.slice none 0 0]->Calls prog 45 #[.pointer (some ⟨p,0,none⟩),.pointer (some ⟨r,0,none⟩)] W (Gives fun e w'=>e = .nilIface/\xdM w r s D j p 76 l w')) :
  Calls prog 127 #[.pointer (some ⟨r,0,none⟩)] w (xac fun x e w'=>e = .nilIface/\(∀ v:V,v.kind=21->v.kids=l->AnyV (xaf w) w' x v)/\At_ w w' r s D j):=by
 have H0:=hid (hL (w.alloc (.cells #[.slice none 0 0] 76)) w.heap.size ((At_.refl h).nope ((kR _ _).alloc _)) (Nat.le_refl _) (Blk.new _ _ _));clear h hL;go_enter func127,ntmps127;go_wp2_with (go_at_call 45;go_must (refine (H0.out).mono ?_;rintro e w1 ⟨_,rfl,rfl,hP⟩;obtain ⟨u,c1,⟨a,n,c,rfl⟩,hv⟩:=hP.toAny;have H1:=hid (aI hv hP.1);clear hP hv));go_ret2;exact ⟨_,_,rfl,rfl,H1.out.1,H1.out.2⟩
end Go.Proofs.YtmdpodeegdjkeaaGreatDoor
