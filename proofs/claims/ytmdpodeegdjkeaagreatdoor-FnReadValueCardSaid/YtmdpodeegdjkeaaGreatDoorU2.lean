/- Part 2 of the proof of the readers and the guards. No conditions. -/
import Derived.Deep.RegionWith
import Derived.Laws.ResultCell
import Derived.Test.YtmdpodeegdjkeaaGreatDoorU0
import Derived.Test.YtmdpodeegdjkeaaGreatDoorU1
set_option maxRecDepth 100000
set_option maxHeartbeats 3200000
namespace Go.Proofs.YtmdpodeegdjkeaaGreatDoor
open Go Go.RowKit Go.Lib Tryz
section
theorem BSl.len' {S:Nat->Prop} {w:World} {v:Value} {D:List UInt8} {i n:Nat} (_hb:BSl S w v ((D.drop i).take n)):((D.drop i).take n).length<=D.length:=by simp;omega
section
variable (r:Nat) (s:Value) (D:List UInt8) (i:Nat) (w:World)
theorem four {W:World} {g off k:Nat} {D:List UInt8} {x0 x1 x2 x3:UInt8} {n:Nat} (h0:D[k]? = some x0) (h1:D[k+1]? = some x1) (h2:D[k+2]? = some x2) (h3:D[k+3]? = some x3)
  (hc:∀ j x,j < n+4->D[k+j]? = some x->W.cell? ⟨g,off+j,none⟩=some (.int .u8 x.toNat)):∀ j x,[x0,x1,x2,x3][j]? = some x->W.cell? ⟨g,off+j,none⟩=some (.int .u8 x.toNat):=by
 intro j x hx
 match j,hx with
 | 0,hx=>exact hc 0 x (by omega) (by simpa using h0.trans hx)
 | 1,hx=>exact hc 1 x (by omega) (h1.trans hx)
 | 2,hx=>exact hc 2 x (by omega) (h2.trans hx)
 | 3,hx=>exact hc 3 x (by omega) (h3.trans hx)
 | j+4,hx=>simp at hx
theorem ReadString_4 (c x0 x1 x2 x3:UInt8) (hcc:c=0xb1\/c=0xb3) (h:Buf w r s D i) (hc:D[i]? = some c) (h0:D[i+1]? = some x0) (h1:D[i+2]? = some x1) (h2:D[i+3]? = some x2) (h3:D[i+4]? = some x3) (hl:i+5+Lib.beNat [x0,x1,x2,x3]<=D.length) :
  Calls prog 107 #[.pointer (some ⟨r,0,none⟩)] w fun e w'=>e = .returned (.tuple #[.string ⟨(sub D (i+5) (Lib.beNat [x0,x1,x2,x3])).toArray⟩,.nilIface])/\At_ w w' r s D (i+5+Lib.beNat [x0,x1,x2,x3]):=by
 rcases hcc with rfl | rfl
 all_goals
  have ht:=xaa r s D i w _ h hc;have HT:=hid ht;have hb:=xba x0 x1 x2 x3;generalize hN:Lib.beNat [x0,x1,x2,x3]=N at *;have HN:=hid hN;have hx1:(N:Int)<=4294967295:=by omega
  have hx2:(0:Int)<=N:=by omega
  have HX:=hid (aI h0 (aI h1 (aI h2 (aI h3 hl))));clear ht h hc h0 h1 h2 h3 hl hN hb;go_enter func107,ntmps107;go_wp2_with ((go_at_call 160;go_must (refine HT.out.mono ?_;rintro e w1 ⟨rfl,hA1⟩;have H1:=hid hA1;clear hA1)));go_wp2_with ((go_at_call 161;go_must (refine (xbd r s D (i+1) _ 4 H1.out.buf (by have:=HX.out.2.2.2.1;have:=HX.out.2.2.2.2;have:=(gi.1 HX.out.2.2.2.1).1;omega) (by omega)).mono ?_;rintro e w2 ⟨v,b,rfl,rfl,⟨g,off,c4,rfl,hg,hgc,hcm,hcell⟩,hA2⟩;have HC4:=hid (aI hg (aI hgc (aI hcm hcell)));have H2:=hid (H1.out.trans hA2);clear hA2 hg hgc hcm hcell)));go_wp2_with ((go_at_call 162;go_must (refine (xfl _ g off 4 c4 x0 x1 x2 x3 (by omega) (by exact four HX.out.1 HX.out.2.1 HX.out.2.2.1 HX.out.2.2.2.1 HC4.out.2.2.2)).mono ?_;rw [HN.out];rintro e w5 ⟨rfl,hK5⟩;have H5:=hid (H2.out.nope hK5);clear hK5)));go_wp2_with ((go_at_call 161;go_must (refine (xcP r s D (i+1+4) _ N H5.out.buf (by exact HX.out.2.2.2.2)).mono ?_;rintro e w3 ⟨v,b,rfl,rfl,hB,hA3⟩;have hcv:=xbe 26 9 5 underlying26 underlying5 underlying9 hB;have H3:=hid (H5.out.trans hA3);clear hA3 hB)));go_ret2;exact ⟨rfl,H3.out⟩
theorem xgx (D:List UInt8) (i n:Nat) (h:i+n<=D.length):(sub D i n).length=n:=by unfold sub;simp;omega
theorem xcS {r:Nat} {s:Value} {D:List UInt8} {j:Nat} {w w3 w4:World} {v4:Value} {bs:List UInt8} (hA:At_ w w3 r s D j) (hown:w4.ownsRow w.heap.size 5 1 v4 (0+bs.length) ([] ++ bs.map u8)) (hg:w3.grownBy w4 none) :
  BSl (fun b=>w.heap.size<=b) w4 v4 bs/\At_ w w4 r s D j:=by
 have hk:Kept Nope w3 w4:=(kR Nope w3).grown hg (fun k hk=>by cases hk);refine ⟨?_,hA.nope hk⟩;have h1:w4.ownsRow w.heap.size 5 1 v4 bs.length (bs.map u8):=by simpa using hown
 exact (BSl.ofOwn h1).mono fun b _ hb=>(h1.lt b hb).1
theorem xkU (c x0:UInt8) (hcc:c=0xa0) (h:Buf w r s D i) (hc:D[i]? = some c) (h0:D[i+1]? = some x0) (hl:i+2+x0.toNat<=D.length) (hz:0 < x0.toNat) :
  Calls prog 123 #[.pointer (some ⟨r,0,none⟩)] w (xac fun v e w'=>e = .nilIface/\BSl (fun b=>w.heap.size<=b) w' v (sub D (i+2) x0.toNat)/\At_ w w' r s D (i+2+x0.toNat)):=by
 subst hcc;have ht:=xaa r s D i w _ h hc;have HT:=hid ht;have hx0:=x0.toNat_lt;have hx1:(x0.toNat:Int)<=255:=by omega
 have hx2:(0:Int)<=x0.toNat:=by omega
 have hpos:((x0.toNat:Int) == 0)=false:=by rw [beq_eq_false_iff_ne];omega
 have HX:=hid hl;have HZ:=hid h0;obtain ⟨i0,hi,hz0,hz1,hz2⟩:=info_parts xdQ;clear ht h hc h0 hl hz;go_enter func123,ntmps123;go_wp2_with ((go_at_call 160;go_must (refine HT.out.mono ?_;rintro e w1 ⟨rfl,hA1⟩;have H1:=hid hA1;clear hA1)));go_wp2_with ((go_at_call 54;go_must (refine (xax r s D (i+1) _ x0 H1.out.buf (by exact HZ.out)).mono ?_;rintro e w2 ⟨rfl,hA2⟩;have H2:=hid (H1.out.trans hA2);clear hA2)));go_wp2_with (first | (go_at_call 161;go_must (refine (xcP r s D (i+1+1) _ x0.toNat H2.out.buf (by have:=HX.out;omega)).mono ?_;rintro e w3 ⟨v,b,rfl,rfl,hB,hA3⟩;have HB3:=hid hB;have hL:=hB.len';have HL:=hid hL;have H3:=hid (H2.out.trans hA3);clear hA3 hB hL)) | (at_builtin;go_must (refine xae _ rfl (.const (.slice none 0 0)) (.tmp 61) _ rfl w.heap.size 5 i0 _ 1 1 underlying26 hi hz0 hz1 hz2 rfl (by omega) (.slice none 0 0) 0 [] rfl ⟨by simp,.inl ⟨rfl,rfl⟩⟩ _ v _ _ rfl HB3.out.toC (by intro u hu;obtain ⟨x,_,rfl⟩:=List.mem_map.1 hu;rfl) (by have hl3:=H3.out.buf.small;have hl4:=HL.out;simp only [maxLen];omega) (by have hl3:=H3.out.buf.small;have hl4:=HL.out;omega) H3.out.kept.size ?_;intro v4 w4 hown hg4 hl4;have H4:=hid (aI hown (aI hg4 hl4));clear hown hg4 hl4)));go_ret2;have h4:=xcS H3.out H4.out.1 (by simpa [Value.ownBlock] using H4.out.2.1);exact ⟨_,_,rfl,rfl,h4.1,h4.2⟩
theorem xgI (c:UInt8) (hcc:c=0xa0) (h:Buf w r s D i) (hc:D[i]? = some c) (h0:D[i+1]? = some 0) :
  Calls prog 123 #[.pointer (some ⟨r,0,none⟩)] w (xac fun v e w'=>e = .nilIface/\BSl (fun b=>w.heap.size<=b) w' v []/\At_ w w' r s D (i+2)):=by
 subst hcc;have ht:=xaa r s D i w _ h hc;have HT:=hid ht;have HZ:=hid h0;have hmk:∀ W:World,(Instr.makeSlice 26 (.int .i64 0) (.int .i64 0)).run prog W = .ok (.slice (some ⟨W.heap.size,0,none⟩) 0 0) (W.alloc (.cells #[] 5)):=fun _=>by kernel_rfl
 clear ht h hc h0;go_enter func123,ntmps123;go_wp2_with ((go_at_call 160;go_must (refine HT.out.mono ?_;rintro e w1 ⟨rfl,hA1⟩;have H1:=hid hA1;clear hA1)));go_wp2_with ((go_at_call 54;go_must (refine (xax r s D (i+1) _ 0 H1.out.buf (by exact HZ.out)).mono ?_;rintro e w2 ⟨rfl,hA2⟩;have H2:=hid (H1.out.trans hA2);clear hA2)));go_ret2;refine ⟨_,_,rfl,rfl,?_,H2.out.nope ((kR Nope _).alloc _)⟩;exact BSl.nil _ _ (by simp [maxLen])
theorem xkT (c x0 x1 x2 x3:UInt8) (hcc:c=0xb0) (h:Buf w r s D i) (hc:D[i]? = some c) (h0:D[i+1]? = some x0) (h1:D[i+2]? = some x1) (h2:D[i+3]? = some x2) (h3:D[i+4]? = some x3) (hl:i+5+Lib.beNat [x0,x1,x2,x3]<=D.length) (hz:0 < Lib.beNat [x0,x1,x2,x3]) :
  Calls prog 123 #[.pointer (some ⟨r,0,none⟩)] w (xac fun v e w'=>e = .nilIface/\BSl (fun b=>w.heap.size<=b) w' v (sub D (i+5) (Lib.beNat [x0,x1,x2,x3]))/\At_ w w' r s D (i+5+Lib.beNat [x0,x1,x2,x3])):=by
 subst hcc;have ht:=xaa r s D i w _ h hc;have HT:=hid ht;have hb:=xba x0 x1 x2 x3;generalize hN:Lib.beNat [x0,x1,x2,x3]=N at *;have HN:=hid hN;have hx1:(N:Int)<=4294967295:=by omega
 have hx2:(0:Int)<=N:=by omega
 have hpos:((N:Int) == 0)=false:=by rw [beq_eq_false_iff_ne];omega
 have HX:=hid (aI h0 (aI h1 (aI h2 (aI h3 hl))));obtain ⟨i0,hi,hz0,hz1,hz2⟩:=info_parts xdQ;clear ht h hc h0 h1 h2 h3 hl hN hb hz;go_enter func123,ntmps123;go_wp2_with ((go_at_call 160;go_must (refine HT.out.mono ?_;rintro e w1 ⟨rfl,hA1⟩;have H1:=hid hA1;clear hA1)));go_wp2_with ((go_at_call 161;go_must (refine (xbd r s D (i+1) _ 4 H1.out.buf (by have:=HX.out.2.2.2.1;have:=HX.out.2.2.2.2;have:=(gi.1 HX.out.2.2.2.1).1;omega) (by omega)).mono ?_;rintro e w2 ⟨v,b,rfl,rfl,⟨g,off,c4,rfl,hg,hgc,hcm,hcell⟩,hA2⟩;have HC4:=hid (aI hg (aI hgc (aI hcm hcell)));have H2:=hid (H1.out.trans hA2);clear hA2 hg hgc hcm hcell)));go_wp2_with ((go_at_call 162;go_must (refine (xfl _ g off 4 c4 x0 x1 x2 x3 (by omega) (by exact four HX.out.1 HX.out.2.1 HX.out.2.2.1 HX.out.2.2.2.1 HC4.out.2.2.2)).mono ?_;rw [HN.out];rintro e w5 ⟨rfl,hK5⟩;have H5:=hid (H2.out.nope hK5);clear hK5)));go_wp2_with (first | (go_at_call 161;go_must (refine (xcP r s D (i+1+4) _ N H5.out.buf (by exact HX.out.2.2.2.2)).mono ?_;rintro e w3 ⟨v,b,rfl,rfl,hB,hA3⟩;have HB3:=hid hB;have hL:=hB.len';have HL:=hid hL;have H3:=hid (H5.out.trans hA3);clear hA3 hB hL)) | (at_builtin;go_must (refine xae _ rfl (.const (.slice none 0 0)) (.tmp 61) _ rfl w.heap.size 5 i0 _ 1 1 underlying26 hi hz0 hz1 hz2 rfl (by omega) (.slice none 0 0) 0 [] rfl ⟨by simp,.inl ⟨rfl,rfl⟩⟩ _ v _ _ rfl HB3.out.toC (by intro u hu;obtain ⟨x,_,rfl⟩:=List.mem_map.1 hu;rfl) (by have hl3:=H3.out.buf.small;have hl4:=HL.out;simp only [maxLen];omega) (by have hl3:=H3.out.buf.small;have hl4:=HL.out;omega) H3.out.kept.size ?_;intro v4 w4 hown hg4 hl4;have H4:=hid (aI hown (aI hg4 hl4));clear hown hg4 hl4)));go_ret2;have h4:=xcS H3.out H4.out.1 (by simpa [Value.ownBlock] using H4.out.2.1);exact ⟨_,_,rfl,rfl,h4.1,h4.2⟩
theorem xgG (c x0 x1 x2 x3:UInt8) (hcc:c=0xb0) (h:Buf w r s D i) (hc:D[i]? = some c) (h0:D[i+1]? = some x0) (h1:D[i+2]? = some x1) (h2:D[i+3]? = some x2) (h3:D[i+4]? = some x3) (hz:Lib.beNat [x0,x1,x2,x3]=0) :
  Calls prog 123 #[.pointer (some ⟨r,0,none⟩)] w (xac fun v e w'=>e = .nilIface/\BSl (fun b=>w.heap.size<=b) w' v []/\At_ w w' r s D (i+5)):=by
 subst hcc;have ht:=xaa r s D i w _ h hc;have HT:=hid ht;have HN:=hid hz;have HX:=hid (aI h0 (aI h1 (aI h2 (aI h3 trivial))));have hmk:∀ W:World,(Instr.makeSlice 26 (.int .i64 0) (.int .i64 0)).run prog W = .ok (.slice (some ⟨W.heap.size,0,none⟩) 0 0) (W.alloc (.cells #[] 5)):=fun _=>by kernel_rfl
 clear ht h hc h0 h1 h2 h3 hz;go_enter func123,ntmps123;go_wp2_with ((go_at_call 160;go_must (refine HT.out.mono ?_;rintro e w1 ⟨rfl,hA1⟩;have H1:=hid hA1;clear hA1)));go_wp2_with ((go_at_call 161;go_must (refine (xbd r s D (i+1) _ 4 H1.out.buf (by have:=(gi.1 HX.out.2.2.2.1).1;omega) (by omega)).mono ?_;rintro e w2 ⟨v,b,rfl,rfl,⟨g,off,c4,rfl,hg,hgc,hcm,hcell⟩,hA2⟩;have HC4:=hid (aI hg (aI hgc (aI hcm hcell)));have H2:=hid (H1.out.trans hA2);clear hA2 hg hgc hcm hcell)));go_wp2_with ((go_at_call 162;go_must (refine (xfl _ g off 4 c4 x0 x1 x2 x3 (by omega) (by exact four HX.out.1 HX.out.2.1 HX.out.2.2.1 HX.out.2.2.2.1 HC4.out.2.2.2)).mono ?_;rw [HN.out];rintro e w5 ⟨rfl,hK5⟩;have H5:=hid (H2.out.nope hK5);clear hK5)));go_ret2;refine ⟨_,_,rfl,rfl,?_,H5.out.nope ((kR Nope _).alloc _)⟩;exact BSl.nil _ _ (by simp [maxLen])
end
end
section
theorem At_.drew {w w':World} {r:Nat} {s:Value} {D:List UInt8} {j:Nat} (h:At_ w w' r s D j):At_ w w'.drew r s D j:=h.drewN 1
section
variable (r:Nat) (s:Value) (D:List UInt8) (i:Nat) (w:World)
theorem xho (x0 x1:UInt8) (h:Buf w r s D i) (hc:D[i]? = some 192) (h0:D[i+1]? = some x0) (h1:D[i+2]? = some x1) (hl:i+2+x0.toNat<=D.length) (hm:x1.toNat+1<=x0.toNat) :
  Calls prog 104 #[.pointer (some ⟨r,0,none⟩)] w fun e w'=>e = .returned (.tuple #[.int .i64 x1.toNat,.nilIface])/\At_ w w' r s D (i+3):=by
  have ht:=xaa r s D i w _ h hc;have HT:=hid ht;have hx0:=x0.toNat_lt;have hx1:=x1.toNat_lt;have HX:=hid (aI h0 h1);have hle:=h.le;have hsm:=h.small;clear ht h hc h0 h1;have e1:IntKind.i64.wrap ((D.length:Int) - ↑(i+1) - 1)=(D.length:Int) - ↑(i+1) - 1:=IntWalk.i64_in _ (by omega);go_enter func104,ntmps104;go_wp2_with ((go_at_call 160;go_must (refine HT.out.mono ?_;rintro e w1 ⟨rfl,hA1⟩;have H1:=hid hA1;clear hA1)));go_wp2_with ((go_at_call 105;go_must (refine (xaY r s D (i+1) _ H1.out.buf).mono ?_;rintro e w2 ⟨rfl,k2,rfl⟩;have H2:=hid (H1.out.drewN k2))));go_wp2_with ((go_at_call 161;go_must (refine (xbd r s D (i+1) _ 2 H2.out.buf (by omega) (by omega)).mono ?_;rintro e w3 ⟨v,b,rfl,rfl,⟨g,off,c4,rfl,hg,hgc,hcm,hcell⟩,hA2⟩;have q0:=hcell 0 x0 (by omega) (by exact HX.out.1);have q1:=hcell 1 x1 (by omega) (by exact HX.out.2);rw [Nat.add_zero] at q0;clear hcell;have H3:=hid (H2.out.trans hA2);clear hA2 hg hcm)));go_ret2;exact ⟨rfl,H3.out⟩
theorem xgL (x0 x1:UInt8) (h:Buf w r s D i) (hc:D[i]? = some 224) (h0:D[i+1]? = some x0) (h1:D[i+2]? = some x1) (hl:i+2+x0.toNat<=D.length) (hm:x1.toNat+1<=x0.toNat) :
  Calls prog 183 #[.pointer (some ⟨r,0,none⟩)] w fun e w'=>e = .returned (.tuple #[.int .i64 x1.toNat,.nilIface])/\At_ w w' r s D (i+3):=by
  have ht:=xaa r s D i w _ h hc;have HT:=hid ht;have hx0:=x0.toNat_lt;have hx1:=x1.toNat_lt;have HX:=hid (aI h0 h1);have hle:=h.le;have hsm:=h.small;clear ht h hc h0 h1;have e1:IntKind.i64.wrap ((D.length:Int) - ↑(i+1) - 1)=(D.length:Int) - ↑(i+1) - 1:=IntWalk.i64_in _ (by omega);go_enter func183,ntmps183;go_wp2_with ((go_at_call 160;go_must (refine HT.out.mono ?_;rintro e w1 ⟨rfl,hA1⟩;have H1:=hid hA1;clear hA1)));go_wp2_with ((go_at_call 105;go_must (refine (xaY r s D (i+1) _ H1.out.buf).mono ?_;rintro e w2 ⟨rfl,k2,rfl⟩;have H2:=hid (H1.out.drewN k2))));go_wp2_with ((go_at_call 161;go_must (refine (xbd r s D (i+1) _ 2 H2.out.buf (by omega) (by omega)).mono ?_;rintro e w3 ⟨v,b,rfl,rfl,⟨g,off,c4,rfl,hg,hgc,hcm,hcell⟩,hA2⟩;have q0:=hcell 0 x0 (by omega) (by exact HX.out.1);have q1:=hcell 1 x1 (by omega) (by exact HX.out.2);rw [Nat.add_zero] at q0;clear hcell;have H3:=hid (H2.out.trans hA2);clear hA2 hg hcm)));go_ret2;exact ⟨rfl,H3.out⟩
end
end
section
section
variable (r:Nat) (s:Value) (D:List UInt8) (i:Nat) (w:World)
theorem eight {W:World} {g off k:Nat} {D:List UInt8} {x0 x1 x2 x3 x4 x5 x6 x7:UInt8} (h:D[k]? = some x0/\D[k+1]? = some x1/\D[k+2]? = some x2/\D[k+3]? = some x3/\D[k+4]? = some x4/\D[k+5]? = some x5/\D[k+6]? = some x6/\D[k+7]? = some x7)
  (hc:∀ j x,j < 8->D[k+j]? = some x->W.cell? ⟨g,off+j,none⟩=some (.int .u8 x.toNat)) :
  (∀ j x,[x0,x1,x2,x3][j]? = some x->W.cell? ⟨g,off+j,none⟩=some (.int .u8 x.toNat))/\(∀ j x,[x4,x5,x6,x7][j]? = some x->W.cell? ⟨g,off+4+j,none⟩=some (.int .u8 x.toNat))/\W.cell? ⟨g,off+7,none⟩=some (.int .u8 x7.toNat):=by
 obtain ⟨h0,h1,h2,h3,h4,h5,h6,h7⟩:=h;refine ⟨four (n:=4) h0 h1 h2 h3 hc,?_,hc 7 x7 (by omega) h7⟩;refine four (k:=k+4) (D:=D) (n:=0) h4 h5 h6 h7 (fun j x hj hx => ?_);rw [Nat.add_assoc];exact hc _ _ (by omega) (by rw [<- Nat.add_assoc];exact hx)
theorem xhn (x0 x1 x2 x3 x4 x5 x6 x7:UInt8) (h:Buf w r s D i) (hc:D[i]? = some 208) (h0:D[i+1]? = some x0/\D[i+2]? = some x1/\D[i+3]? = some x2/\D[i+4]? = some x3/\D[i+5]? = some x4/\D[i+6]? = some x5/\D[i+7]? = some x6/\D[i+8]? = some x7) (hl:i+5+Lib.beNat [x0,x1,x2,x3]<=D.length) (hm:Lib.beNat [x4,x5,x6,x7]+4<=Lib.beNat [x0,x1,x2,x3]) (hk:Lib.beNat [x4,x5,x6,x7]<=65536) :
  Calls prog 104 #[.pointer (some ⟨r,0,none⟩)] w fun e w'=>e = .returned (.tuple #[.int .i64 (Lib.beNat [x4,x5,x6,x7]),.nilIface])/\At_ w w' r s D (i+9):=by
  have ht:=xaa r s D i w _ h hc;have HT:=hid ht;have hb:=xba x0 x1 x2 x3;have hb':=xba x4 x5 x6 x7;generalize hN:Lib.beNat [x0,x1,x2,x3]=N at *;generalize hM:Lib.beNat [x4,x5,x6,x7]=M at *;have HN:=hid (aI hN hM);have hx1:(N:Int)<=4294967295:=by omega
  have hx2:(0:Int)<=N:=by omega
  have hx3:(M:Int)<=4294967295:=by omega
  have hx4:(0:Int)<=M:=by omega
  have HX:=hid h0;have hle:=h.le;have hsm:=h.small;have hi9:=(gi.1 h0.2.2.2.2.2.2.2).1;clear ht h hc h0 hN hM hb hb';have e1:IntKind.i64.wrap ((D.length:Int) - ↑(i+1) - 4)=(D.length:Int) - ↑(i+1) - 4:=IntWalk.i64_in _ (by omega);have e2:IntKind.i64.wrap ((N:Int) - 4)=(N:Int) - 4:=IntWalk.i64_in _ (by omega);go_enter func104,ntmps104;go_wp2_with ((go_at_call 160;go_must (refine HT.out.mono ?_;rintro e w1 ⟨rfl,hA1⟩;have H1:=hid hA1;clear hA1)));go_wp2_with ((go_at_call 105;go_must (refine (xaY r s D (i+1) _ H1.out.buf).mono ?_;rintro e w2 ⟨rfl,k2,rfl⟩;have H2:=hid (H1.out.drewN k2))));go_wp2_with ((go_at_call 161;go_must (refine (xbd r s D (i+1) _ 8 H2.out.buf (by omega) (by omega)).mono ?_;rintro e w3 ⟨v,b,rfl,rfl,⟨g,off,c4,rfl,hg,hgc,hcm,hcell⟩,hA2⟩;have HQ:=hid (eight HX.out hcell);have q7:=HQ.out.2.2;have hc48:¬ c4=4:=(by omega);have hc8:(8:Int)<=(c4:Int):=(by omega);have hc44:(4:Int)<=(c4:Int):=(by omega);clear hcell;have H3:=hid (H2.out.trans hA2);clear hA2 hg hcm)));refine wp_region_tail 3 (by kernel_rfl) (by kernel_rfl) (fun K hK => ?_);simp only [List.take_succ_cons,List.take_zero,List.drop_succ_cons,List.drop_zero] at hK ⊢
  repeat still_step
  refine wpStill_nil (hK _ ?_);clear hK K;go_wp2_with ((go_at_call 162;go_must (refine (xfl _ g off 4 c4 x0 x1 x2 x3 (by omega) (by exact HQ.out.1)).mono ?_;rw [HN.out.1];rintro e w5 ⟨rfl,hK5⟩;have HQ5:=hid (fun j x hx=>hK5.cell (HQ.out.2.1 j x hx) (fun h=>h));have H5:=hid (H3.out.drew.nope hK5);clear hK5)));refine wp_region_tail 3 (by kernel_rfl) (by kernel_rfl) (fun K hK => ?_);simp only [List.take_succ_cons,List.take_zero,List.drop_succ_cons,List.drop_zero] at hK ⊢
  repeat still_step
  refine wpStill_nil (hK _ ?_);clear hK K;go_wp2_with ((go_at_call 162;go_must (refine (xfl _ g (off+4) 4 (c4 - 4) x4 x5 x6 x7 (by omega) (by exact HQ5.out)).mono ?_;rw [HN.out.2];rintro e w6 ⟨rfl,hK6⟩;have H6:=hid (H5.out.drew.nope hK6);clear hK6)));go_ret2;exact ⟨rfl,H6.out⟩
theorem xgK (x0 x1 x2 x3 x4 x5 x6 x7:UInt8) (h:Buf w r s D i) (hc:D[i]? = some 240) (h0:D[i+1]? = some x0/\D[i+2]? = some x1/\D[i+3]? = some x2/\D[i+4]? = some x3/\D[i+5]? = some x4/\D[i+6]? = some x5/\D[i+7]? = some x6/\D[i+8]? = some x7) (hl:i+5+Lib.beNat [x0,x1,x2,x3]<=D.length) (hm:Lib.beNat [x4,x5,x6,x7]+4<=Lib.beNat [x0,x1,x2,x3]) (hk:Lib.beNat [x4,x5,x6,x7]<=65536) :
  Calls prog 183 #[.pointer (some ⟨r,0,none⟩)] w fun e w'=>e = .returned (.tuple #[.int .i64 (Lib.beNat [x4,x5,x6,x7]),.nilIface])/\At_ w w' r s D (i+9):=by
  have ht:=xaa r s D i w _ h hc;have HT:=hid ht;have hb:=xba x0 x1 x2 x3;have hb':=xba x4 x5 x6 x7;generalize hN:Lib.beNat [x0,x1,x2,x3]=N at *;generalize hM:Lib.beNat [x4,x5,x6,x7]=M at *;have HN:=hid (aI hN hM);have hx1:(N:Int)<=4294967295:=by omega
  have hx2:(0:Int)<=N:=by omega
  have hx3:(M:Int)<=4294967295:=by omega
  have hx4:(0:Int)<=M:=by omega
  have HX:=hid h0;have hle:=h.le;have hsm:=h.small;have hi9:=(gi.1 h0.2.2.2.2.2.2.2).1;clear ht h hc h0 hN hM hb hb';have e1:IntKind.i64.wrap ((D.length:Int) - ↑(i+1) - 4)=(D.length:Int) - ↑(i+1) - 4:=IntWalk.i64_in _ (by omega);have e2:IntKind.i64.wrap ((N:Int) - 4)=(N:Int) - 4:=IntWalk.i64_in _ (by omega);go_enter func183,ntmps183;go_wp2_with ((go_at_call 160;go_must (refine HT.out.mono ?_;rintro e w1 ⟨rfl,hA1⟩;have H1:=hid hA1;clear hA1)));go_wp2_with ((go_at_call 105;go_must (refine (xaY r s D (i+1) _ H1.out.buf).mono ?_;rintro e w2 ⟨rfl,k2,rfl⟩;have H2:=hid (H1.out.drewN k2))));go_wp2_with ((go_at_call 161;go_must (refine (xbd r s D (i+1) _ 8 H2.out.buf (by omega) (by omega)).mono ?_;rintro e w3 ⟨v,b,rfl,rfl,⟨g,off,c4,rfl,hg,hgc,hcm,hcell⟩,hA2⟩;have HQ:=hid (eight HX.out hcell);have q7:=HQ.out.2.2;have hc48:¬ c4=4:=(by omega);have hc8:(8:Int)<=(c4:Int):=(by omega);have hc44:(4:Int)<=(c4:Int):=(by omega);clear hcell;have H3:=hid (H2.out.trans hA2);clear hA2 hg hcm)));refine wp_region_tail 3 (by kernel_rfl) (by kernel_rfl) (fun K hK => ?_);simp only [List.take_succ_cons,List.take_zero,List.drop_succ_cons,List.drop_zero] at hK ⊢
  repeat still_step
  refine wpStill_nil (hK _ ?_);clear hK K;go_wp2_with ((go_at_call 162;go_must (refine (xfl _ g off 4 c4 x0 x1 x2 x3 (by omega) (by exact HQ.out.1)).mono ?_;rw [HN.out.1];rintro e w5 ⟨rfl,hK5⟩;have HQ5:=hid (fun j x hx=>hK5.cell (HQ.out.2.1 j x hx) (fun h=>h));have H5:=hid (H3.out.drew.nope hK5);clear hK5)));refine wp_region_tail 3 (by kernel_rfl) (by kernel_rfl) (fun K hK => ?_);simp only [List.take_succ_cons,List.take_zero,List.drop_succ_cons,List.drop_zero] at hK ⊢
  repeat still_step
  refine wpStill_nil (hK _ ?_);clear hK K;go_wp2_with ((go_at_call 162;go_must (refine (xfl _ g (off+4) 4 (c4 - 4) x4 x5 x6 x7 (by omega) (by exact HQ5.out)).mono ?_;rw [HN.out.2];rintro e w6 ⟨rfl,hK6⟩;have H6:=hid (H5.out.drew.nope hK6);clear hK6)));go_ret2;exact ⟨rfl,H6.out⟩
end
end
section
section
variable (r:Nat) (s:Value) (D:List UInt8) (i:Nat) (w:World)
theorem xdU (h:Buf w r s D i) (hc:D[i]? = some 69) :
  Calls prog 104 #[.pointer (some ⟨r,0,none⟩)] w fun e w'=>e = .returned (.tuple #[.int .i64 0,.nilIface])/\At_ w w' r s D (i+1):=by
  have ht:=xaa r s D i w _ h hc;have HT:=hid ht;have hle:=h.le;have hsm:=h.small;clear ht h hc;go_enter func104,ntmps104;go_wp2_with ((go_at_call 160;go_must (refine HT.out.mono ?_;rintro e w1 ⟨rfl,hA1⟩;have H1:=hid hA1;clear hA1)));go_wp2_with ((go_at_call 105;go_must (refine (xaY r s D (i+1) _ H1.out.buf).mono ?_;rintro e w2 ⟨rfl,k2,rfl⟩;have H2:=hid (H1.out.drewN k2))));go_ret2;exact ⟨rfl,H2.out⟩
theorem xgE (x0 x1:UInt8) (h:Buf w r s D i) (h0:D[i]? = some x0) (h1:D[i+1]? = some x1) (hl:i+1+x0.toNat<=D.length) (hm:x1.toNat+1<=x0.toNat) :
  Calls prog 152 #[.pointer (some ⟨r,0,none⟩)] w fun e w'=>e = .returned (.tuple #[.int .u32 x1.toNat,.nilIface])/\At_ w w' r s D (i+2):=by
  have HB:=hid h;have hx0:=x0.toNat_lt;have hx1:=x1.toNat_lt;have HX:=hid (aI h0 h1);have hle:=h.le;have hsm:=h.small;clear h h0 h1;have e1:IntKind.i64.wrap ((D.length:Int) - ↑i - 1)=(D.length:Int) - ↑i - 1:=IntWalk.i64_in _ (by omega);go_enter func152,ntmps152;go_wp2_with ((go_at_call 105;go_must (refine (xaY r s D i _ HB.out).mono ?_;rintro e w2 ⟨rfl,k2,rfl⟩;have H2:=hid ((At_.refl HB.out).drewN k2))));go_wp2_with ((go_at_call 161;go_must (refine (xbd r s D (i) _ 2 H2.out.buf (by omega) (by omega)).mono ?_;rintro e w3 ⟨v,b,rfl,rfl,⟨g,off,c4,rfl,hg,hgc,hcm,hcell⟩,hA2⟩;have q0:=hcell 0 x0 (by omega) (by exact HX.out.1);have q1:=hcell 1 x1 (by omega) (by exact HX.out.2);rw [Nat.add_zero] at q0;clear hcell;have H3:=hid (H2.out.trans hA2);clear hA2 hg hcm)));go_wp2_with ((go_at_call 105;go_must (refine (xaY r s D (i+2) _ H3.out.buf).mono ?_;rintro e w7 ⟨rfl,k7,rfl⟩;have H7:=hid (H3.out.drewN k7))));go_ret2;exact ⟨rfl,H7.out⟩
theorem xfS (x0 x1 x2 x3 x4 x5 x6 x7:UInt8) (h:Buf w r s D i) (h0:D[i]? = some x0/\D[i+1]? = some x1/\D[i+2]? = some x2/\D[i+3]? = some x3/\D[i+4]? = some x4/\D[i+5]? = some x5/\D[i+6]? = some x6/\D[i+7]? = some x7) (hl:i+4+Lib.beNat [x0,x1,x2,x3]<=D.length) (hm:Lib.beNat [x4,x5,x6,x7]+4<=Lib.beNat [x0,x1,x2,x3]) (hk:Lib.beNat [x4,x5,x6,x7]<=65536) :
  Calls prog 153 #[.pointer (some ⟨r,0,none⟩)] w fun e w'=>e = .returned (.tuple #[.int .u32 (Lib.beNat [x4,x5,x6,x7]),.nilIface])/\At_ w w' r s D (i+8):=by
  have HB:=hid h;have hb:=xba x0 x1 x2 x3;have hb':=xba x4 x5 x6 x7;generalize hN:Lib.beNat [x0,x1,x2,x3]=N at *;generalize hM:Lib.beNat [x4,x5,x6,x7]=M at *;have HN:=hid (aI hN hM);have hx1:(N:Int)<=4294967295:=by omega
  have hx2:(0:Int)<=N:=by omega
  have hx3:(M:Int)<=4294967295:=by omega
  have hx4:(0:Int)<=M:=by omega
  have HX:=hid h0;have hle:=h.le;have hsm:=h.small;have hi9:=(gi.1 h0.2.2.2.2.2.2.2).1;clear h h0 hN hM hb hb';have e1:IntKind.i64.wrap ((D.length:Int) - ↑i - 4)=(D.length:Int) - ↑i - 4:=IntWalk.i64_in _ (by omega);go_enter func153,ntmps153;go_wp2_with ((go_at_call 105;go_must (refine (xaY r s D i _ HB.out).mono ?_;rintro e w2 ⟨rfl,k2,rfl⟩;have H2:=hid ((At_.refl HB.out).drewN k2))));go_wp2_with ((go_at_call 161;go_must (refine (xbd r s D (i) _ 8 H2.out.buf (by omega) (by omega)).mono ?_;rintro e w3 ⟨v,b,rfl,rfl,⟨g,off,c4,rfl,hg,hgc,hcm,hcell⟩,hA2⟩;have HQ:=hid (eight HX.out hcell);have q7:=HQ.out.2.2;have hc48:¬ c4=4:=(by omega);have hc8:(8:Int)<=(c4:Int):=(by omega);have hc44:(4:Int)<=(c4:Int):=(by omega);clear hcell;have H3:=hid (H2.out.trans hA2);clear hA2 hg hcm)));refine wp_region_tail 3 (by kernel_rfl) (by kernel_rfl) (fun K hK => ?_);simp only [List.take_succ_cons,List.take_zero,List.drop_succ_cons,List.drop_zero] at hK ⊢
  repeat still_step
  refine wpStill_nil (hK _ ?_);clear hK K;go_wp2_with ((go_at_call 162;go_must (refine (xfl _ g off 4 c4 x0 x1 x2 x3 (by omega) (by exact HQ.out.1)).mono ?_;rw [HN.out.1];rintro e w5 ⟨rfl,hK5⟩;have HQ5:=hid (fun j x hx=>hK5.cell (HQ.out.2.1 j x hx) (fun h=>h));have H5:=hid (H3.out.drew.nope hK5);clear hK5)));refine wp_region_tail 3 (by kernel_rfl) (by kernel_rfl) (fun K hK => ?_);simp only [List.take_succ_cons,List.take_zero,List.drop_succ_cons,List.drop_zero] at hK ⊢
  repeat still_step
  refine wpStill_nil (hK _ ?_);clear hK K;go_wp2_with (first | (go_at_call 162;go_must (refine (xfl _ g (off+4) 4 (c4 - 4) x4 x5 x6 x7 (by omega) (by exact HQ5.out)).mono ?_;rw [HN.out.2];rintro e w6 ⟨rfl,hK6⟩;have H6:=hid (H5.out.drew.nope hK6);clear hK6)) | (go_at_call 105;go_must (refine (xaY r s D (i+8) _ H6.out.buf).mono ?_;rintro e w7 ⟨rfl,k7,rfl⟩;have H7:=hid (H6.out.drewN k7))));go_ret2;exact ⟨rfl,H7.out⟩
theorem xfQ (n j:Nat) (h:Buf w r s D i) (hc:D[i]? = some 193)
  (hh:∀ W,Buf W r s D (i+1)->Calls prog 152 #[.pointer (some ⟨r,0,none⟩)] W fun e W'=>e = .returned (.tuple #[.int .u32 n,.nilIface])/\At_ W W' r s D j) :
  Calls prog 100 #[.pointer (some ⟨r,0,none⟩)] w fun e w'=>e = .returned (.tuple #[.int .u32 n,.nilIface])/\At_ w w' r s D j:=by
  have ht:=xap r s D i w _ h hc;have HT:=hid ht;have HB:=hid h;have HC:=hid hc;have HH:=hid hh;clear ht h hc hh;go_enter func100,ntmps100;go_wp2_with (first | (go_at_call 110;go_must (refine HT.out.mono ?_;rintro e w1 ⟨rfl,k1,rfl⟩;have H1:=hid ((At_.refl HB.out).drewN k1))) | (go_at_call 54;go_must (refine (xax r s D i _ _ H1.out.buf (by exact HC.out)).mono ?_;rintro e w2 ⟨rfl,hA2⟩;have H2:=hid (H1.out.trans hA2);clear hA2)) | (go_at_call 152;go_must (refine (HH.out _ H2.out.buf).mono ?_;rintro e w3 ⟨rfl,hA3⟩;have H3:=hid (H2.out.trans hA3);clear hA3)));go_ret2;exact ⟨rfl,H3.out⟩
theorem xfw (n j:Nat) (h:Buf w r s D i) (hc:D[i]? = some 209)
  (hh:∀ W,Buf W r s D (i+1)->Calls prog 153 #[.pointer (some ⟨r,0,none⟩)] W fun e W'=>e = .returned (.tuple #[.int .u32 n,.nilIface])/\At_ W W' r s D j) :
  Calls prog 100 #[.pointer (some ⟨r,0,none⟩)] w fun e w'=>e = .returned (.tuple #[.int .u32 n,.nilIface])/\At_ w w' r s D j:=by
  have ht:=xap r s D i w _ h hc;have HT:=hid ht;have HB:=hid h;have HC:=hid hc;have HH:=hid hh;clear ht h hc hh;go_enter func100,ntmps100;go_wp2_with (first | (go_at_call 110;go_must (refine HT.out.mono ?_;rintro e w1 ⟨rfl,k1,rfl⟩;have H1:=hid ((At_.refl HB.out).drewN k1))) | (go_at_call 54;go_must (refine (xax r s D i _ _ H1.out.buf (by exact HC.out)).mono ?_;rintro e w2 ⟨rfl,hA2⟩;have H2:=hid (H1.out.trans hA2);clear hA2)) | (go_at_call 153;go_must (refine (HH.out _ H2.out.buf).mono ?_;rintro e w3 ⟨rfl,hA3⟩;have H3:=hid (H2.out.trans hA3);clear hA3)));go_ret2;exact ⟨rfl,H3.out⟩
theorem xev (h:Buf w r s D i) (hc:D[i]? = some 64) :
  Calls prog 109 #[.pointer (some ⟨r,0,none⟩)] w fun e w'=>e = .returned (.bool true)/\At_ w w' r s D (i+1):=by
  have hlt:=(gi.1 hc).1;have h0:(D.drop i)[0]? = some 64:=by simpa using hc
  have HX:=hid h0;have HB:=hid h;have hlt':(i:Int) < (D.length:Int):=by omega
  clear h hc h0;go_enter func109,ntmps109;go_wp2_with (first | (go_at_call 105;go_must (refine (xaY r s D i _ HB.out).mono ?_;rintro e w1 ⟨rfl,k1,rfl⟩;have H1:=hid ((At_.refl HB.out).drewN k1))) | (go_at_call 34;go_must (refine (xbJ r s D i _ H1.out.buf).mono ?_;rintro e w2 ⟨v,rfl,hB,k2,rfl⟩;obtain ⟨g,off,c4,rfl,_,hgc,hcm,q0⟩:=hB.at_ HX.out;rw [Nat.add_zero] at q0;have q1:w.cell? ⟨g,off,none⟩=some (.int .u8 64):=q0;clear q0;have H2:=hid ((At_.refl HB.out).drewN (k1+k2));clear hB)) | (go_at_call 165;go_must (refine (Skip_any r s D i _ 1 H2.out.buf (by omega)).mono ?_;rintro e w3 ⟨rfl,hA3⟩;have H3:=hid (H2.out.trans hA3);clear hA3)));go_ret;exact ⟨rfl,H3.out⟩
theorem xan (c:UInt8) (h:Buf w r s D i) (hc:D[i]? = some c) (hn:c≠64) :
  Calls prog 109 #[.pointer (some ⟨r,0,none⟩)] w fun e w'=>e = .returned (.bool false)/\At_ w w' r s D i:=by
  have n0:¬ (c.toNat:Int)=64:=fun e=>hn (UInt8.toNat.inj (Int.ofNat.inj e))
  have hlt:=(gi.1 hc).1;have h0:(D.drop i)[0]? = some c:=by simpa using hc
  have HX:=hid h0;have HB:=hid h;have hlt':(i:Int) < (D.length:Int):=by omega
  clear h hc h0 hn;go_enter func109,ntmps109;go_wp2_with (first | (go_at_call 105;go_must (refine (xaY r s D i _ HB.out).mono ?_;rintro e w1 ⟨rfl,k1,rfl⟩;have H1:=hid ((At_.refl HB.out).drewN k1))) | (go_at_call 34;go_must (refine (xbJ r s D i _ H1.out.buf).mono ?_;rintro e w2 ⟨v,rfl,hB,k2,rfl⟩;obtain ⟨g,off,c4,rfl,_,hgc,hcm,q0⟩:=hB.at_ HX.out;rw [Nat.add_zero] at q0;have q1:w.cell? ⟨g,off,none⟩=some (.int .u8 c.toNat):=q0;clear q0;have H2:=hid ((At_.refl HB.out).drewN (k1+k2));clear hB)));go_ret;exact ⟨rfl,H2.out⟩
end
end
theorem xde {fn:Func} {p:Tmp} {ty:TypeId} (h:fn.results = #[.cell p ty]) (tmps:Array Value) (P:Program) (w:World) :
  (results fn tmps).run P w=((asAddr (tmps.getD p undef)).run P w).andThen fun a w₁=>((loadVar ty a).run P w₁).andThen fun v w₂ => .ok v w₂:=by
 simp only [results,h];simp [Sem.run_bind,Result.andThen]
 rcases Sem.run P (asAddr (tmps[p]?.getD undef)) w with ⟨a,w1⟩ | ⟨h,w1⟩
 ·simp only
  rcases Sem.run P (loadVar ty a) w1 with ⟨b,w2⟩ | ⟨h,w2⟩ <;> rfl
 ·rfl
def tm (ms:Int):Value:=.agg #[.int .i64 (ms / 1000),.int .i64 (ms % 1000*1000000)]
theorem Buf.mem_lt {w:World} {r:Nat} {s:Value} {D:List UInt8} {i:Nat} (h:Buf w r s D i) {b off n c:Nat} (hs:s = .slice (some ⟨b,off,none⟩) n c) (hD:D≠[]):b < w.heap.size:=by
 obtain ⟨a,c',e,_,_,hb⟩:=h.bytes
 rcases hb with hb | ⟨b',off',rfl,_,hb⟩
 ·exact absurd hb hD
 ·rw [hs] at e;injection e with e1 e2 e3
  injection e1 with e1
  injection e1 with e1 e4
  subst e1;obtain ⟨x,l,rfl⟩:∃ x l,D=x :: l:=by cases D with | nil=>exact absurd rfl hD | cons x l=>exact ⟨x,l,rfl⟩
  exact World.block_lt_of_cell? w _ (hb 0 x rfl)
theorem At_.setNew {w w':World} {r:Nat} {s:Value} {D:List UInt8} {i j:Nat} (h:At_ w w' r s D j) (h0:Buf w r s D i) {p:Addr} (hp:w.heap.size<=p.block) (u:Value):At_ w (w'.setCell p u) r s D j:=by
 have hk:=h.kept.setCell (p:=p) (.inr hp) u;refine ⟨⟨h.buf.blk.far (Nat.ne_of_lt (Nat.lt_of_lt_of_le h0.lt hp)) u,?_,h.buf.le,h.buf.small,?_,h.buf.ne⟩,hk⟩
 ·obtain ⟨a,c,e,hc,hm,hb⟩:=h.buf.bytes;refine ⟨a,c,e,hc,hm,?_⟩
  rcases hb with rfl | ⟨b,off,rfl,hne,hb⟩
  ·exact .inl rfl
  ·rcases D with _ | ⟨x,l⟩
   ·exact .inl rfl
   ·refine .inr ⟨b,off,rfl,hne,fun j y hy => ?_⟩;have hlt:b < w.heap.size:=h0.mem_lt e (by simp);exact (World.cell?_of_block (Below.heap_setCell w' p u b (by omega))).trans (hb j y hy)
 ·obtain ⟨v,hv,hc⟩:=h0.eof;exact ⟨v,hv,hk.cell hc (fun e=>h0.ne e.symm)⟩
theorem At_pos (a b:Int) (w:World) (hb:0<=b) (hb':b < 1000000000) :
  Calls prog 185 #[.int .i64 a,.int .i64 b] w fun e w'=>e = .returned (.agg #[.int .i64 a,.int .i64 b])/\Kept Nope w w':=by
 have h1:¬ b < 0:=by omega
 have h2:¬ 1000000000<=b:=by omega
 go_enter func185,ntmps185;go_wp2
 (try simp only [Exit.inBlock,Exit.then])
 refine bodyPost_ret (v:=.agg #[.int .i64 a,.int .i64 b]) ?_ rfl ⟨rfl,(kR _ w).alloc _⟩;rw [xde rfl];go_simp
theorem At_neg (a b:Int) (w:World) (hb:b < 0) (hb':-1000000000 < b) (ha:-9223372036854775000<=a) (ha':a<=9223372036854775000) :
  Calls prog 185 #[.int .i64 a,.int .i64 b] w fun e w'=>e = .returned (.agg #[.int .i64 (a - 1),.int .i64 (b+1000000000)])/\Kept Nope w w':=by
 have h2:b.tdiv 1000000000=0:=by
  rw [<- Int.neg_neg b,Int.neg_tdiv,Int.tdiv_eq_ediv_of_nonneg (by omega)];omega
 have e1:IntKind.i64.wrap (a - 1)=a - 1:=IntWalk.i64_in _ (by omega);have e2:IntKind.i64.wrap (b+1000000000)=b+1000000000:=IntWalk.i64_in _ (by omega);have e3:IntKind.i64.wrap a=a:=IntWalk.i64_in _ (by omega);have e4:IntKind.i64.wrap b=b:=IntWalk.i64_in _ (by omega);go_enter func185,ntmps185;go_wp2
 (try simp only [Exit.inBlock,Exit.then])
 refine bodyPost_ret (v:=.agg #[.int .i64 (a - 1),.int .i64 (b+1000000000)]) ?_ rfl ⟨rfl,(kR _ w).alloc _⟩;rw [xde rfl];go_simp
theorem xis (ms:Int) (w:World) (h0:-9223372036854775808<=ms) (h1:ms<=9223372036854775807) :
  Calls prog 180 #[.int .i64 ms] w fun e w'=>e = .returned (tm ms)/\Kept Nope w w':=by
 have hr:-1000 < ms.tmod 1000/\ms.tmod 1000 < 1000:=by
  rcases Int.lt_or_le ms 0 with h | h
  ·rw [<- Int.neg_neg ms,Int.neg_tmod,Int.tmod_eq_emod_of_nonneg (by omega)];omega
  ·rw [Int.tmod_eq_emod_of_nonneg h];omega
 have hm:ms=1000*ms.tdiv 1000+ms.tmod 1000:=by rw [Int.mul_tdiv_add_tmod]
 obtain ⟨q,hq⟩:∃ q,ms.tdiv 1000=q:=⟨_,rfl⟩
 obtain ⟨m,hmm⟩:∃ m,ms.tmod 1000=m:=⟨_,rfl⟩
 rw [hq,hmm] at hm;rw [hmm] at hr;have e1:IntKind.i64.wrap q=q:=IntWalk.i64_in _ (by omega);have e2:IntKind.i64.wrap (m*1000000)=m*1000000:=IntWalk.i64_in _ (by omega);have e3:IntKind.i64.wrap m=m:=IntWalk.i64_in _ (by omega)
 have ht:tm ms=if 0<=m then .agg #[.int .i64 q,.int .i64 (m*1000000)] else .agg #[.int .i64 (q - 1),.int .i64 (m*1000000+1000000000)]:=by
  unfold tm
  split
  ·rw [show ms / 1000=q by omega,show ms % 1000=m by omega]
  ·rw [show ms / 1000=q - 1 by omega,show ms % 1000*1000000=m*1000000+1000000000 by omega]
 have HA:Hid (∀ W,Calls prog 185 #[.int .i64 q,.int .i64 (m*1000000)] W fun e w'=>e = .returned (tm ms)/\Kept Nope W w'):=by
  refine hid fun W => ?_
  by_cases hn:0<=m
  ·rw [if_pos hn] at ht;rw [ht];exact At_pos q (m*1000000) W (by omega) (by omega)
  ·rw [if_neg hn] at ht;rw [ht];exact At_neg q (m*1000000) W (by omega) (by omega) (by omega) (by omega)
 have HT:Hid (∃ a b,tm ms = .agg #[.int .i64 a,.int .i64 b]):=hid ⟨_,_,rfl⟩;generalize tm ms=T at *;obtain ⟨a,b,rfl⟩:=HT.out;clear hm ht hr HT;go_enter func180,ntmps180;go_wp2_with (go_at_call 185;go_must (refine (HA.out _).mono ?_;rintro e w1 ⟨rfl,hK⟩;have hB:=(Blk.new w 109 #[.int .i64 0,.int .i64 0]).kept hK (fun h=>h);have c0:=hB.cell 0;have c1:=hB.cell 1;have f0:=hB.frozen 0;have f1:=hB.frozen 1;have H1:=hid (aI hB hK);clear hB hK))
 (try simp only [Exit.inBlock,Exit.then])
 have hB2:=(H1.out.1.set_ 0 (.int .i64 a)).set_ 1 (.int .i64 b);have hld:=run_loadVar_row (P:=prog) _ w.heap.size 109 109 _ _ _ hB2 underlying109 rfl (by kernel_rfl);refine bodyPost_ret (v:=.agg #[.int .i64 a,.int .i64 b]) ?_ rfl ⟨rfl,?_⟩
 ·rw [xde rfl];simp only [Array.getD_eq_getD_getElem?,gt,gz,gs,Option.getD_some,asAddr,Sem.run_pure,Result.andThen_ok];rw [hld]
  rfl
 ·have hk:=((kR Nope w).alloc (.cells #[.int .i64 0,.int .i64 0] 109)).trans' H1.out.2;exact (hk.setCell (p:=⟨w.heap.size,0,none⟩) (.inr (Nat.le_refl _)) _).setCell (p:=⟨w.heap.size,1,none⟩) (.inr (Nat.le_refl _)) _
theorem UTC_any (a b:Int) (w:World) :
  Calls prog 186 #[.agg #[.int .i64 a,.int .i64 b]] w fun e w'=>e = .returned (.agg #[.int .i64 a,.int .i64 b])/\Kept Nope w w':=by
 go_enter func186,ntmps186;go_wp2
 (try simp only [Exit.inBlock,Exit.then])
 refine bodyPost_ret (v:=.agg #[.int .i64 a,.int .i64 b]) ?_ rfl ⟨rfl,?_⟩
 ·rw [xde rfl];go_simp
 ·exact ((kR Nope w).alloc _).alloc _
theorem xhj (r:Nat) (s:Value) (D:List UInt8) (i:Nat) (w:World) (x0 x1 x2 x3 x4 x5 x6 x7:UInt8) (h:Buf w r s D i) (hc:D[i]? = some 131) (h0:D[i+1]? = some x0) (h1:D[i+2]? = some x1) (h2:D[i+3]? = some x2) (h3:D[i+4]? = some x3) (h4:D[i+5]? = some x4) (h5:D[i+6]? = some x5) (h6:D[i+7]? = some x6) (h7:D[i+8]? = some x7) :
  Calls prog 124 #[.pointer (some ⟨r,0,none⟩)] w fun e w'=>e = .returned (.tuple #[tm (sg 64 (Lib.beNat [x0,x1,x2,x3,x4,x5,x6,x7])),.nilIface])/\At_ w w' r s D (i+9):=by
 have hne:r≠w.heap.size:=Nat.ne_of_lt h.lt;have hk0:Kept (Only r) w (w.alloc (.cells #[.int .i64 0,.int .i64 0] 109)):=(kR _ w).alloc _;have hb0:Buf (w.alloc (.cells #[.int .i64 0,.int .i64 0] 109)) r s D i:=h.nope ((kR Nope w).alloc _);have H0:=hid (aI (Blk.new w 109 #[.int .i64 0,.int .i64 0]) (show At_ w (w.alloc (.cells #[.int .i64 0,.int .i64 0] 109)) r s D i from ⟨hb0,hk0⟩));have HN:=hid hne;have HB:=hid h;have hb:=xeF x0 x1 x2 x3 x4 x5 x6 x7;have hsg:=xoa _ hb;have hsr:-9223372036854775808<=sg 64 (Lib.beNat [x0,x1,x2,x3,x4,x5,x6,x7])/\sg 64 (Lib.beNat [x0,x1,x2,x3,x4,x5,x6,x7])<=9223372036854775807:=by unfold sg;split <;> omega
 have HX:=hid (aI hc (aI h0 (aI h1 (aI h2 (aI h3 (aI h4 (aI h5 (aI h6 h7))))))));obtain ⟨a,b,ht⟩:∃ a b,tm (sg 64 (Lib.beNat [x0,x1,x2,x3,x4,x5,x6,x7])) = .agg #[.int .i64 a,.int .i64 b]:=⟨_,_,rfl⟩
 rw [ht];have HT:=hid ht;clear hc h0 h1 h2 h3 h4 h5 h6 h7 ht hb;clear h hk0 hb0 hne;go_enter func124,ntmps124;go_wp2_with (first | (go_at_call 160;go_must (refine (xaa r s D i _ _ H0.out.2.buf (by exact HX.out.1)).mono ?_;rintro e w1 ⟨rfl,hA⟩;have H1:=hid (aI (H0.out.1.kept hA.kept (fun e=>HN.out e.symm)) (H0.out.2.trans hA));clear hA)) | (go_at_call 177;go_must (refine (xcN r s D (i+1) _ x0 x1 x2 x3 x4 x5 x6 x7 H1.out.2.buf (by exact HX.out.2.1) (by exact HX.out.2.2.1) (by exact HX.out.2.2.2.1) (by exact HX.out.2.2.2.2.1) (by exact HX.out.2.2.2.2.2.1) (by exact HX.out.2.2.2.2.2.2.1) (by exact HX.out.2.2.2.2.2.2.2.1) (by exact HX.out.2.2.2.2.2.2.2.2)).mono ?_;rintro e w2 ⟨rfl,hA⟩;have H2:=hid (aI (H1.out.1.kept hA.kept (fun e=>HN.out e.symm)) (H1.out.2.trans hA));clear hA)) | (go_at_call 180;go_must (refine (xis (sg 64 (Lib.beNat [x0,x1,x2,x3,x4,x5,x6,x7])) _ (by omega) (by omega)).mono ?_;rw [HT.out];rintro e w3 ⟨rfl,hK3⟩;have hB:=H2.out.1.kept hK3 (fun h=>h);have c0:=hB.cell 0;have c1:=hB.cell 1;have f0:=hB.frozen 0;have f1:=hB.frozen 1;have H3:=hid (aI hB (H2.out.2.nope hK3));clear hB hK3)))
 (try simp only [Exit.inBlock,Exit.then])
 have hB2:=(H3.out.1.set_ 0 (.int .i64 a)).set_ 1 (.int .i64 b);have hld:=run_loadVar_row (P:=prog) _ w.heap.size 109 109 _ _ _ hB2 underlying109 rfl (by kernel_rfl);refine bodyPost_ret (v:=.tuple #[.agg #[.int .i64 a,.int .i64 b],.nilIface]) ?_ rfl ?_
 ·rw [results_cell_tmp rfl];simp only [Array.getD_eq_getD_getElem?,gt,gz,gs,Option.getD_some,asAddr,Sem.run_pure,Result.andThen_ok];rw [hld]
  rfl
 ·have hf:=(H3.out.2.setNew HB.out (p:=⟨w.heap.size,0,none⟩) (Nat.le_refl _) (.int .i64 a)).setNew HB.out (p:=⟨w.heap.size,1,none⟩) (Nat.le_refl _) (.int .i64 b);exact ⟨rfl,hf⟩
end Go.Proofs.YtmdpodeegdjkeaaGreatDoor
