/- Part 9 of the proof of the readers and the guards. No conditions. -/
import Derived.Maps.Own
import Derived.Test.YtmdpodeegdjkeaaGreatDoorU0
import Derived.Test.YtmdpodeegdjkeaaGreatDoorU1
import Derived.Test.YtmdpodeegdjkeaaGreatDoorU5
import Derived.Test.YtmdpodeegdjkeaaGreatDoorU6
import Derived.Test.YtmdpodeegdjkeaaGreatDoorU8
set_option maxRecDepth 100000
set_option maxHeartbeats 3200000
namespace Go.Proofs.YtmdpodeegdjkeaaGreatDoor
open Go Go.RowKit Go.Lib Tryz
abbrev NoAs (T a:TypeId) (v z:Value):Prop:=∀ W:World,(Instr.typeAssert (.iface T v) 20 a true).run prog W = .ok (.tuple #[z,.bool false]) W
theorem mno {T:TypeId} (hT:T ∈ xej) (v:Value):NoAs T 69 v (.pointer none)/\NoAs T 164 v (.int .u64 0)/\NoAs T 349 v (.pointer none)/\NoAs T 223 v (.pointer none)/\NoAs T 224 v (.pointer none)/\NoAs T 226 v (.pointer none)/\NoAs T 227 v (.pointer none)/\NoAs T 3 v (.int .i64 0)/\NoAs T 160 v (.pointer none)/\NoAs T 219 v (.pointer none)/\NoAs T 220 v (.pointer none)/\NoAs T 221 v (.pointer none)/\NoAs T 222 v (.pointer none)/\NoAs T 104 v (.float .f32 0)/\NoAs T 228 v (.pointer none)/\NoAs T 106 v (.float .f64 0)/\NoAs T 229 v (.pointer none)/\NoAs T 230 v (.pointer none)/\NoAs T 26 v (.slice none 0 0)/\NoAs T 68 v (.pointer none)/\NoAs T 70 v (.map none)/\NoAs T 266 v (.pointer none)/\NoAs T 84 v (.map none)/\NoAs T 267 v (.pointer none)/\NoAs T 80 v (.map none)/\NoAs T 268 v (.pointer none)/\NoAs T 360 v (.map none)/\NoAs T 361 v (.pointer none)/\NoAs T 232 v (.pointer none)/\NoAs T 127 v (.slice none 0 0)/\NoAs T 233 v (.pointer none)/\NoAs T 118 v (.slice none 0 0)/\NoAs T 235 v (.pointer none)/\NoAs T 130 v (.slice none 0 0)/\NoAs T 237 v (.pointer none)/\NoAs T 121 v (.slice none 0 0)/\NoAs T 239 v (.pointer none)/\NoAs T 133 v (.slice none 0 0)/\NoAs T 241 v (.pointer none)/\NoAs T 124 v (.slice none 0 0)/\NoAs T 243 v (.pointer none)/\NoAs T 136 v (.slice none 0 0)/\NoAs T 245 v (.pointer none)/\NoAs T 139 v (.slice none 0 0)/\NoAs T 247 v (.pointer none)/\NoAs T 142 v (.slice none 0 0)/\NoAs T 249 v (.pointer none)/\NoAs T 113 v (.slice none 0 0)/\NoAs T 251 v (.pointer none)/\NoAs T 153 v (.slice none 0 0)/\NoAs T 253 v (.pointer none)/\NoAs T 156 v (.slice none 0 0)/\NoAs T 255 v (.pointer none)/\NoAs T 150 v (.slice none 0 0)/\NoAs T 257 v (.pointer none)/\NoAs T 144 v (.slice none 0 0)/\NoAs T 259 v (.pointer none)/\NoAs T 147 v (.slice none 0 0)/\NoAs T 263 v (.pointer none)/\NoAs T 76 v (.slice none 0 0)/\NoAs T 265 v (.pointer none)/\NoAs T 323 v (.slice none 0 0)/\NoAs T 261 v (.pointer none):=by
 simp only [xej,List.mem_cons,List.mem_nil_iff,or_false] at hT
 rcases hT with rfl | rfl | rfl | rfl | rfl | rfl | rfl | rfl | rfl | rfl | rfl | rfl
 all_goals exact ⟨fun W=>by kernel_rfl,fun W=>by kernel_rfl,fun W=>by kernel_rfl,fun W=>by kernel_rfl,fun W=>by kernel_rfl,fun W=>by kernel_rfl,fun W=>by kernel_rfl,fun W=>by kernel_rfl,fun W=>by kernel_rfl,fun W=>by kernel_rfl,fun W=>by kernel_rfl,fun W=>by kernel_rfl,fun W=>by kernel_rfl,fun W=>by kernel_rfl,fun W=>by kernel_rfl,fun W=>by kernel_rfl,fun W=>by kernel_rfl,fun W=>by kernel_rfl,fun W=>by kernel_rfl,fun W=>by kernel_rfl,fun W=>by kernel_rfl,fun W=>by kernel_rfl,fun W=>by kernel_rfl,fun W=>by kernel_rfl,fun W=>by kernel_rfl,fun W=>by kernel_rfl,fun W=>by kernel_rfl,fun W=>by kernel_rfl,fun W=>by kernel_rfl,fun W=>by kernel_rfl,fun W=>by kernel_rfl,fun W=>by kernel_rfl,fun W=>by kernel_rfl,fun W=>by kernel_rfl,fun W=>by kernel_rfl,fun W=>by kernel_rfl,fun W=>by kernel_rfl,fun W=>by kernel_rfl,fun W=>by kernel_rfl,fun W=>by kernel_rfl,fun W=>by kernel_rfl,fun W=>by kernel_rfl,fun W=>by kernel_rfl,fun W=>by kernel_rfl,fun W=>by kernel_rfl,fun W=>by kernel_rfl,fun W=>by kernel_rfl,fun W=>by kernel_rfl,fun W=>by kernel_rfl,fun W=>by kernel_rfl,fun W=>by kernel_rfl,fun W=>by kernel_rfl,fun W=>by kernel_rfl,fun W=>by kernel_rfl,fun W=>by kernel_rfl,fun W=>by kernel_rfl,fun W=>by kernel_rfl,fun W=>by kernel_rfl,fun W=>by kernel_rfl,fun W=>by kernel_rfl,fun W=>by kernel_rfl,fun W=>by kernel_rfl,fun W=>by kernel_rfl⟩
theorem xiw (base:Nat) (w:World) (r n:Nat) (t:ByteArray) (h:WB base w r n) (hn:n<=1000) (ht:t.size<=131072) (hv:Lib.validD (bytesOf t)=true) (hT:Tabs w) :
  Calls prog 202 #[.pointer (some ⟨r,0,none⟩),.string t] w (xcG base w r (n+5+t.size)):=by
 have HW:=hid (aI h (aI hT (aI hv ht)));clear h hT hv;go_enter func202,ntmps202
 by_cases hs:t.size < 256
 ·have hs1:(t.size:Int) < 256:=by omega
  go_wp2_with (first | (go_at_call 254;go_must (refine (xeT base _ r (n+2) t (by omega) H2.out.1 (by omega)).mono ?_;rintro e w3 ⟨rfl,hw3,hk3⟩;have H3:=hid (aI hw3 (H2.out.2.trans hk3));clear hw3 hk3)) | (go_at_call 197;go_must (refine (xcZ base _ r n _ _ (BSl.lit [_,_] (two_in _ _ (by decide) (by omega)) (by simp)) (by simp) ((HW.out.1.nope H1.out).nope ((kR Nope _).alloc _)) (by omega)).mono ?_;rintro e w2 ⟨rfl,hw2,hk2⟩;have H2:=hid (aI hw2 ((WK.of (H1.out.trans' ((kR Nope _).alloc _))).trans hk2));clear hw2 hk2)) | (go_at_call 189;go_must (refine (xjA t _ (by unfold maxLen;omega) HW.out.2.1).mono ?_;rintro e w1 ⟨rfl,hk1⟩;rw [HW.out.2.2.1];have H1:=hid hk1;clear hk1)));go_ret;exact ⟨rfl,H3.out.1.mono (by omega),H3.out.2⟩
 ·obtain ⟨m,hm⟩:∃ m:Int,(t.size:Int)=m:=⟨_,rfl⟩
  have hs1:¬ m < 256:=by omega
  have hq:decide (m < 4294967295)=true:=by rw [decide_eq_true_eq];omega
  have hwm:IntKind.u64.wrap m=m:=by simp only [IntKind.wrap,IntKind.bits,IntKind.signed];simp;omega
  clear ht hs;go_wp2_with (first | (go_at_call 254;go_must (refine (xeT base _ r (n+1+4) t (by have:=HW.out.2.2.2;omega) H3.out.1 (by omega)).mono ?_;rintro e w4 ⟨rfl,hw4,hk4⟩;have H4:=hid (aI hw4 (H3.out.2.trans hk4));clear hw4 hk4)) | (go_at_call 253;go_must (refine (xdC base _ r (n+1) _ H2.out.1 (by omega)).mono ?_;rintro e w3 ⟨rfl,hw3,hk3⟩;have H3:=hid (aI hw3 (H2.out.2.trans hk3));clear hw3 hk3)) | (go_at_call 193;go_must (refine (xbs base _ r n _ (by decide) (HW.out.1.nope H1.out) (by omega)).mono ?_;rintro e w2 ⟨rfl,hw2,hk2⟩;have H2:=hid (aI hw2 ((WK.of H1.out).trans hk2));clear hw2 hk2)) | (go_at_call 189;go_must (refine (xjA t _ (by have:=HW.out.2.2.2;unfold maxLen;omega) HW.out.2.1).mono ?_;rintro e w1 ⟨rfl,hk1⟩;rw [HW.out.2.2.1];have H1:=hid hk1;clear hk1)));go_ret;exact ⟨rfl,H4.out.1.mono (by omega),H4.out.2⟩
theorem xmk (base:Nat) (w:World) (r n:Nat) (h:WB base w r n) (hn:n<=1000) (x:Bool):Calls prog 154 #[.pointer (some ⟨r,0,none⟩),.iface 4 (.bool x)] w (xcG base w r (n+9)):=by
 have HW:=hid h;clear h;have fy:=fun W=>xfG (.bool x) W
 cases x
 all_goals
  go_enter func154,ntmps154;go_wp2_with (go_at_call 193;go_must (refine (xbs base _ r n _ (by decide) HW.out (by omega)).mono ?_;rintro e w1 ⟨rfl,hw1,hk1⟩;have H1:=hid (aI hw1 hk1);clear hw1 hk1));go_ret;exact ⟨rfl,H1.out.1.mono (by omega),H1.out.2⟩
theorem xnQ (base:Nat) (w:World) (r n:Nat) (h:WB base w r n) (hn:n<=1000) (x:Int):Calls prog 154 #[.pointer (some ⟨r,0,none⟩),.iface 22 (.int .u64 x)] w (xcG base w r (n+9)):=by
 have HW:=hid h;clear h;have f_bool:=fun W=>xad (T:=22) (.int .u64 x) W (by decide)
 have fy:=fun W=>xjl (.int .u64 x) W
 obtain ⟨q1,q2,q3,-⟩:=mno (T:=22) (by decide) (.int .u64 x);go_enter func154,ntmps154;go_wp2_with (first | (go_at_call 194;go_must (refine (xit base _ r n _ HW.out hn).mono ?_;rintro e w1 ⟨rfl,hw1,hk1⟩;have H1:=hid (aI hw1 hk1);clear hw1 hk1)));go_ret;exact ⟨rfl,H1.out.1.mono (by omega),H1.out.2⟩
theorem xnR (base:Nat) (w:World) (r n:Nat) (h:WB base w r n) (hn:n<=1000) (x:Int):Calls prog 154 #[.pointer (some ⟨r,0,none⟩),.iface 101 (.int .u32 x)] w (xcG base w r (n+9)):=by
 have HW:=hid h;clear h;have f_bool:=fun W=>xad (T:=101) (.int .u32 x) W (by decide)
 have f_u64:=fun W=>xak (T:=101) (.int .u32 x) W (by decide)
 have fy:=fun W=>xjm (.int .u32 x) W
 obtain ⟨q1,q2,q3,q5,-⟩:=mno (T:=101) (by decide) (.int .u32 x);go_enter func154,ntmps154;go_wp2_with (first | (go_at_call 195;go_must (refine (xiu base _ r n _ HW.out hn).mono ?_;rintro e w1 ⟨rfl,hw1,hk1⟩;have H1:=hid (aI hw1 hk1);clear hw1 hk1)));go_ret;exact ⟨rfl,H1.out.1.mono (by omega),H1.out.2⟩
theorem xnS (base:Nat) (w:World) (r n:Nat) (h:WB base w r n) (hn:n<=1000) (x:Int):Calls prog 154 #[.pointer (some ⟨r,0,none⟩),.iface 100 (.int .u16 x)] w (xcG base w r (n+9)):=by
 have HW:=hid h;clear h;have f_bool:=fun W=>xad (T:=100) (.int .u16 x) W (by decide)
 have f_u64:=fun W=>xak (T:=100) (.int .u16 x) W (by decide)
 have f_u32:=fun W=>xal (T:=100) (.int .u16 x) W (by decide)
 have fy:=fun W=>xjn (.int .u16 x) W
 obtain ⟨q1,q2,q3,q5,q7,-⟩:=mno (T:=100) (by decide) (.int .u16 x);go_enter func154,ntmps154;go_wp2_with (first | (go_at_call 196;go_must (refine (xeS base _ r (n+1) _ H1.out.1 (by omega)).mono ?_;rintro e w3 ⟨rfl,hw3,hk3⟩;have H3:=hid (aI hw3 (H1.out.2.trans hk3));clear hw3 hk3)) | (go_at_call 193;go_must (refine (xbs base _ r n _ (by decide) HW.out (by omega)).mono ?_;rintro e w1 ⟨rfl,hw1,hk1⟩;have H1:=hid (aI hw1 hk1);clear hw1 hk1)));go_ret;exact ⟨rfl,H3.out.1.mono (by omega),H3.out.2⟩
theorem xpk (base:Nat) (w:World) (r n:Nat) (h:WB base w r n) (hn:n<=1000) (x:Int) (hx:0<=x/\x < 256):Calls prog 154 #[.pointer (some ⟨r,0,none⟩),.iface 5 (.int .u8 x)] w (xcG base w r (n+9)):=by
 have HW:=hid h;clear h;have f_bool:=fun W=>xad (T:=5) (.int .u8 x) W (by decide)
 have f_u64:=fun W=>xak (T:=5) (.int .u8 x) W (by decide)
 have f_u32:=fun W=>xal (T:=5) (.int .u8 x) W (by decide)
 have f_u16:=fun W=>xam (T:=5) (.int .u8 x) W (by decide)
 have fy:=fun W=>xlF (.int .u8 x) W
 obtain ⟨q1,q2,q3,q5,q7,q9,-⟩:=mno (T:=5) (by decide) (.int .u8 x);go_enter func154,ntmps154;go_wp2_with (first | (go_at_call 197;go_must (refine (xcZ base _ r n _ _ (BSl.lit [_,_] (two_in _ _ (by decide) hx) (by simp)) (by simp) (HW.out.nope ((kR Nope w).alloc _)) (by omega)).mono ?_;rintro e w2 ⟨rfl,hw2,hk2⟩;have H2:=hid (aI hw2 ((WK.of ((kR Nope w).alloc _)).trans hk2));clear hw2 hk2)));go_ret;exact ⟨rfl,H2.out.1.mono (by simp),H2.out.2⟩
theorem xpl (base:Nat) (w:World) (r n:Nat) (h:WB base w r n) (hn:n<=1000) (x:Int):Calls prog 154 #[.pointer (some ⟨r,0,none⟩),.iface 102 (.int .i8 x)] w (xcG base w r (n+9)):=by
 have HW:=hid h;clear h;have f_bool:=fun W=>xad (T:=102) (.int .i8 x) W (by decide)
 have f_u64:=fun W=>xak (T:=102) (.int .i8 x) W (by decide)
 have f_u32:=fun W=>xal (T:=102) (.int .i8 x) W (by decide)
 have f_u16:=fun W=>xam (T:=102) (.int .i8 x) W (by decide)
 have f_u8:=fun W=>xas (T:=102) (.int .i8 x) W (by decide)
 have fy:=fun W=>xlJ (.int .i8 x) W
 obtain ⟨q1,q2,q3,q5,q7,q9,q11,q12,q13,-⟩:=mno (T:=102) (by decide) (.int .i8 x);go_enter func154,ntmps154;go_wp2_with (first | (go_at_call 197;go_must (refine (xcZ base _ r n _ _ (BSl.lit [_,IntKind.u8.wrap _] (xhL _ _ (by decide)) (by simp)) (by simp) (HW.out.nope ((kR Nope w).alloc _)) (by omega)).mono ?_;rintro e w2 ⟨rfl,hw2,hk2⟩;have H2:=hid (aI hw2 ((WK.of ((kR Nope w).alloc _)).trans hk2));clear hw2 hk2)));go_ret;exact ⟨rfl,H2.out.1.mono (by simp),H2.out.2⟩
theorem xnV (base:Nat) (w:World) (r n:Nat) (h:WB base w r n) (hn:n<=1000) (x:Int):Calls prog 154 #[.pointer (some ⟨r,0,none⟩),.iface 103 (.int .i16 x)] w (xcG base w r (n+9)):=by
 have HW:=hid h;clear h;have f_bool:=fun W=>xad (T:=103) (.int .i16 x) W (by decide)
 have f_u64:=fun W=>xak (T:=103) (.int .i16 x) W (by decide)
 have f_u32:=fun W=>xal (T:=103) (.int .i16 x) W (by decide)
 have f_u16:=fun W=>xam (T:=103) (.int .i16 x) W (by decide)
 have f_u8:=fun W=>xas (T:=103) (.int .i16 x) W (by decide)
 have f_i8:=fun W=>xaF (T:=103) (.int .i16 x) W (by decide)
 have fy:=fun W=>xjq (.int .i16 x) W
 obtain ⟨q1,q2,q3,q5,q7,q9,q11,q12,q13,q15,-⟩:=mno (T:=103) (by decide) (.int .i16 x);go_enter func154,ntmps154;go_wp2_with (first | (go_at_call 196;go_must (refine (xeS base _ r (n+1) _ H1.out.1 (by omega)).mono ?_;rintro e w3 ⟨rfl,hw3,hk3⟩;have H3:=hid (aI hw3 (H1.out.2.trans hk3));clear hw3 hk3)) | (go_at_call 193;go_must (refine (xbs base _ r n _ (by decide) HW.out (by omega)).mono ?_;rintro e w1 ⟨rfl,hw1,hk1⟩;have H1:=hid (aI hw1 hk1);clear hw1 hk1)));go_ret;exact ⟨rfl,H3.out.1.mono (by omega),H3.out.2⟩
theorem xnU (base:Nat) (w:World) (r n:Nat) (h:WB base w r n) (hn:n<=1000) (x:Int):Calls prog 154 #[.pointer (some ⟨r,0,none⟩),.iface 21 (.int .i32 x)] w (xcG base w r (n+9)):=by
 have HW:=hid h;clear h;have f_bool:=fun W=>xad (T:=21) (.int .i32 x) W (by decide)
 have f_u64:=fun W=>xak (T:=21) (.int .i32 x) W (by decide)
 have f_u32:=fun W=>xal (T:=21) (.int .i32 x) W (by decide)
 have f_u16:=fun W=>xam (T:=21) (.int .i32 x) W (by decide)
 have f_u8:=fun W=>xas (T:=21) (.int .i32 x) W (by decide)
 have f_i8:=fun W=>xaF (T:=21) (.int .i32 x) W (by decide)
 have f_i16:=fun W=>xav (T:=21) (.int .i32 x) W (by decide)
 have fy:=fun W=>xjp (.int .i32 x) W
 obtain ⟨q1,q2,q3,q5,q7,q9,q11,q12,q13,q15,q17,-⟩:=mno (T:=21) (by decide) (.int .i32 x);go_enter func154,ntmps154;go_wp2_with (first | (go_at_call 199;go_must (refine (xjw base _ r n _ HW.out hn).mono ?_;rintro e w1 ⟨rfl,hw1,hk1⟩;have H1:=hid (aI hw1 hk1);clear hw1 hk1)));go_ret;exact ⟨rfl,H1.out.1.mono (by omega),H1.out.2⟩
theorem xnT (base:Nat) (w:World) (r n:Nat) (h:WB base w r n) (hn:n<=1000) (x:Int):Calls prog 154 #[.pointer (some ⟨r,0,none⟩),.iface 2 (.int .i64 x)] w (xcG base w r (n+9)):=by
 have HW:=hid h;clear h;have f_bool:=fun W=>xad (T:=2) (.int .i64 x) W (by decide)
 have f_u64:=fun W=>xak (T:=2) (.int .i64 x) W (by decide)
 have f_u32:=fun W=>xal (T:=2) (.int .i64 x) W (by decide)
 have f_u16:=fun W=>xam (T:=2) (.int .i64 x) W (by decide)
 have f_u8:=fun W=>xas (T:=2) (.int .i64 x) W (by decide)
 have f_i8:=fun W=>xaF (T:=2) (.int .i64 x) W (by decide)
 have f_i16:=fun W=>xav (T:=2) (.int .i64 x) W (by decide)
 have f_i32:=fun W=>xaC (T:=2) (.int .i64 x) W (by decide)
 have fy:=fun W=>xjo (.int .i64 x) W
 obtain ⟨q1,q2,q3,q5,q7,q9,q11,q12,q13,q15,q17,q19,-⟩:=mno (T:=2) (by decide) (.int .i64 x);go_enter func154,ntmps154;go_wp2_with (first | (go_at_call 198;go_must (refine (xjv base _ r n _ HW.out hn).mono ?_;rintro e w1 ⟨rfl,hw1,hk1⟩;have H1:=hid (aI hw1 hk1);clear hw1 hk1)));go_ret;exact ⟨rfl,H1.out.1.mono (by omega),H1.out.2⟩
theorem xiO (base:Nat) (w:World) (r n:Nat) (h:WB base w r n) (hn:n<=1000) (t:ByteArray) (ht:t.size<=131072) (hv:Lib.validD (bytesOf t)=true) (hT:Tabs w):Calls prog 154 #[.pointer (some ⟨r,0,none⟩),.iface 9 (.string t)] w (xcG base w r (n+5+t.size)):=by
 have HW:=hid h;clear h;have HS:=hid (aI ht (aI hv hT));clear hv hT;have f_bool:=fun W=>xad (T:=9) (.string t) W (by decide)
 have f_u64:=fun W=>xak (T:=9) (.string t) W (by decide)
 have f_u32:=fun W=>xal (T:=9) (.string t) W (by decide)
 have f_u16:=fun W=>xam (T:=9) (.string t) W (by decide)
 have f_u8:=fun W=>xas (T:=9) (.string t) W (by decide)
 have f_i8:=fun W=>xaF (T:=9) (.string t) W (by decide)
 have f_i16:=fun W=>xav (T:=9) (.string t) W (by decide)
 have f_i32:=fun W=>xaC (T:=9) (.string t) W (by decide)
 have f_i64:=fun W=>xaH (T:=9) (.string t) W (by decide)
 have fy:=fun W=>xdh (.string t) W
 obtain ⟨q1,q2,q3,q5,q7,q9,q11,q12,q13,q15,q17,q19,q21,q22,q23,q24,q25,-⟩:=mno (T:=9) (by decide) (.string t);go_enter func154,ntmps154;go_wp2_with (first | (go_at_call 202;go_must (refine (xiw base _ r n t HW.out hn HS.out.1 HS.out.2.1 HS.out.2.2).mono ?_;rintro e w1 ⟨rfl,hw1,hk1⟩;have H1:=hid (aI hw1 hk1);clear hw1 hk1)));go_ret;exact ⟨rfl,H1.out.1.mono (by omega),H1.out.2⟩
theorem xmm (base:Nat) (w:World) (r n:Nat) (h:WB base w r n) (hn:n<=1000) (a b ms:Int) (hm:wrap64 (wrap64 (a*1000)+b.tdiv 1000000)=ms) (hb:0<=b/\b < 1000000000):Calls prog 154 #[.pointer (some ⟨r,0,none⟩),.iface 109 (.agg #[.int .i64 a,.int .i64 b])] w (xcG base w r (n+9)):=by
 have HW:=hid h;clear h;have HM:=hid (aI hm hb);clear hm hb;have f_bool:=fun W=>xad (T:=109) (.agg #[.int .i64 a,.int .i64 b]) W (by decide)
 have f_u64:=fun W=>xak (T:=109) (.agg #[.int .i64 a,.int .i64 b]) W (by decide)
 have f_u32:=fun W=>xal (T:=109) (.agg #[.int .i64 a,.int .i64 b]) W (by decide)
 have f_u16:=fun W=>xam (T:=109) (.agg #[.int .i64 a,.int .i64 b]) W (by decide)
 have f_u8:=fun W=>xas (T:=109) (.agg #[.int .i64 a,.int .i64 b]) W (by decide)
 have f_i8:=fun W=>xaF (T:=109) (.agg #[.int .i64 a,.int .i64 b]) W (by decide)
 have f_i16:=fun W=>xav (T:=109) (.agg #[.int .i64 a,.int .i64 b]) W (by decide)
 have f_i32:=fun W=>xaC (T:=109) (.agg #[.int .i64 a,.int .i64 b]) W (by decide)
 have f_i64:=fun W=>xaH (T:=109) (.agg #[.int .i64 a,.int .i64 b]) W (by decide)
 have f_string:=fun W=>xar (T:=109) (.agg #[.int .i64 a,.int .i64 b]) W (by decide)
 have fy:=fun W=>xih (.agg #[.int .i64 a,.int .i64 b]) W
 obtain ⟨q1,q2,q3,q5,q7,q9,q11,q12,q13,q15,q17,q19,q21,q22,q23,q24,q25,q27,q28,q29,q30,q31,q32,q33,q34,q35,q36,q37,-⟩:=mno (T:=109) (by decide) (.agg #[.int .i64 a,.int .i64 b]);go_enter func154,ntmps154;go_wp2_with (first | (go_at_call 205;go_must (refine (xgu base _ r n a b ms (HW.out.nope ((kR Nope w).alloc _)) hn HM.out.1 HM.out.2).mono ?_;rintro e w1 ⟨rfl,hw1,hk1⟩;have H1:=hid (aI hw1 ((WK.of ((kR Nope w).alloc _)).trans hk1));clear hw1 hk1)));go_ret;exact ⟨rfl,H1.out.1.mono (by omega),H1.out.2⟩
theorem xbh (S:Nat->Prop) (w:World) (s:Value) (bs:List UInt8) (hs:BSl S w s bs) (hl:bs.length<=1099511627776) :
  Calls prog 31 #[s] w (Gives fun x w'=>BSl (fun b=>w.heap.size<=b) w' x bs/\Kept Nope w w'):=by
 obtain ⟨i1,hi,hz0,hz1,hz2⟩:=info_parts xdQ;have HS:=hid hs;have HL:=hid hl;have hown0:(w.alloc (.cells #[] 5)).ownsRow w.heap.size 5 1 (.slice (some ⟨w.heap.size,0,none⟩) 0 0) 0 []:=World.ownsRow_made w #[] 0 (Nat.le_refl _) (by simp [maxLen]) rfl;have HO:=hid hown0;obtain ⟨a,c,rfl,_⟩:=hs;clear hl hown0;go_enter func31,ntmps31;go_wp2_with (at_builtin;go_must (refine xae _ rfl (.tmp 3) (.tmp 4) 26 rfl w.heap.size 5 i1 _ 1 1 underlying26 hi hz0 hz1 hz2 rfl (by omega) _ _ _ rfl HO.out S _ _ _ rfl (HS.out.keep ((kR Nope w).alloc _) (fun _ _ _ h=>h)).toC (by intro u hu;obtain ⟨x,_,rfl⟩:=List.mem_map.1 hu;rfl) (by have:=HL.out;simp only [maxLen];omega) (by have:=HL.out;omega) (by rw [World.size_alloc];omega) ?_;intro v4 w4 hown hgrow hblk;have HN:=hid (aI hown (aI hgrow hblk));clear hown hgrow hblk));go_ret;have h1:=HN.out.1;rw [Nat.zero_add,List.nil_append] at h1;refine ⟨_,rfl,(BSl.ofOwn h1).mono fun b _ hb=>(h1.lt b hb).1,?_⟩;have hg:(w.alloc (.cells #[] 5)).grownBy w4 (some w.heap.size):=HN.out.2.1;exact ((kR Nope w).alloc _).grown hg fun k hk => .inr (by injection hk with hk;omega)
theorem sixteen {bs:List UInt8} (h:bs.length=16):∃ b0 b1 b2 b3 b4 b5 b6 b7 b8 b9 b10 b11 b12 b13 b14 b15:UInt8,bs=[b0,b1,b2,b3,b4,b5,b6,b7,b8,b9,b10,b11,b12,b13,b14,b15]:=by
 match bs,h with
 | [b0,b1,b2,b3,b4,b5,b6,b7,b8,b9,b10,b11,b12,b13,b14,b15],_=>exact ⟨b0,b1,b2,b3,b4,b5,b6,b7,b8,b9,b10,b11,b12,b13,b14,b15,rfl⟩
theorem BSl.blk {w:World} {g:Nat} {t:TypeId} {bs:List UInt8} (h:Blk w g t (bs.map u8).toArray) (hl:bs.length<=1000):BSl Any_ w (.slice (some ⟨g,0,none⟩) bs.length bs.length) bs:=by
 refine ⟨_,bs.length,rfl,Nat.le_refl _,by unfold maxLen;omega,.inr ⟨g,0,rfl,trivial,fun j x hx => ?_⟩⟩;rw [h.cell,Nat.zero_add,gt,gM,hx]
 rfl
theorem xix (base:Nat) (w:World) (r n:Nat) (bs:List UInt8) (h:WB base w r n) (hn:n<=1000) (hl:bs.length=16):Calls prog 313 #[uid bs,.pointer (some ⟨r,0,none⟩)] w (xcG base w r (n+17)):=by
 have hnr:w.heap.size≠r:=by obtain ⟨_,_,_,hb,_,hbr⟩:=h;have:=hb.lt;omega
 obtain ⟨b0,b1,b2,b3,b4,b5,b6,b7,b8,b9,b10,b11,b12,b13,b14,b15,rfl⟩:=sixteen hl;have HW:=hid (aI (h.nope ((kR Nope w).alloc (.cells ([b0,b1,b2,b3,b4,b5,b6,b7,b8,b9,b10,b11,b12,b13,b14,b15].map u8).toArray 112))) (aI (Blk.new w 112 ([b0,b1,b2,b3,b4,b5,b6,b7,b8,b9,b10,b11,b12,b13,b14,b15].map u8).toArray) hnr));clear h hl hnr;unfold uid;simp only [List.map_cons,List.map_nil];unfold u8;go_enter func313,ntmps313;go_wp2_with (first | (go_at_call 197;go_must (refine (xcZ base _ r (n+1) _ [b0,b1,b2,b3,b4,b5,b6,b7,b8,b9,b10,b11,b12,b13,b14,b15] (BSl.blk (HW.out.2.1.wk H1.out.2 HW.out.2.2 (by decide)) (by simp)) (by simp) H1.out.1 (by omega)).mono ?_;rintro e w2 ⟨rfl,hw2,hk2⟩;have H2:=hid (aI hw2 ((WK.of ((kR Nope w).alloc _)).trans (H1.out.2.trans hk2)));clear hw2 hk2)) | (go_at_call 193;go_must (refine (xbs base _ r n _ (by decide) HW.out.1 (by omega)).mono ?_;rintro e w1 ⟨rfl,hw1,hk1⟩;have H1:=hid (aI hw1 hk1);clear hw1 hk1)));go_ret;exact ⟨rfl,H2.out.1.mono (by simp),H2.out.2⟩
theorem xlL (v:Value) (W:World):(Instr.typeAssert (.iface 112 v) 20 364 true).run prog W = .ok (.tuple #[.iface 112 v,.bool true]) W:=by kernel_rfl
theorem xmK (v:Value) (W:World):(method 563 112 v "Marshal").run prog W = .ok (313,v) W:=by kernel_rfl
set_option maxHeartbeats 6400000 in
theorem xml (base:Nat) (w:World) (r n:Nat) (bs:List UInt8) (h:WB base w r n) (hn:n<=1000) (hl:bs.length=16):Calls prog 154 #[.pointer (some ⟨r,0,none⟩),.iface 112 (uid bs)] w (xcG base w r (n+17)):=by
 have HW:=hid (aI h hl);clear h hl;have f_bool:=fun W=>xad (T:=112) (uid bs) W (by decide)
 have f_u64:=fun W=>xak (T:=112) (uid bs) W (by decide)
 have f_u32:=fun W=>xal (T:=112) (uid bs) W (by decide)
 have f_u16:=fun W=>xam (T:=112) (uid bs) W (by decide)
 have f_u8:=fun W=>xas (T:=112) (uid bs) W (by decide)
 have f_i8:=fun W=>xaF (T:=112) (uid bs) W (by decide)
 have f_i16:=fun W=>xav (T:=112) (uid bs) W (by decide)
 have f_i32:=fun W=>xaC (T:=112) (uid bs) W (by decide)
 have f_i64:=fun W=>xaH (T:=112) (uid bs) W (by decide)
 have f_string:=fun W=>xar (T:=112) (uid bs) W (by decide)
 have f_Time:=fun W=>xaJ (T:=112) (uid bs) W (by decide)
 obtain ⟨q1,q2,q3,q5,q7,q9,q11,q12,q13,q15,q17,q19,q21,q22,q23,q24,q25,q27,q28,q29,q30,q31,q32,q33,q34,q35,q36,q37,q39,q40,q41,q42,q43,q44,q45,q46,q47,q48,q49,q50,q51,q52,q53,q54,q55,q56,q57,q58,q59,q60,q61,q62,q63,q64,q65,q66,q67,q68,q69,q70,q71,q72,q73⟩:=mno (T:=112) (by decide) (uid bs);have fm:=fun W=>xlL (uid bs) W
 go_enter func154,ntmps154;have fq:=fun W=>xmK (uid bs) W
 go_wp2_with (go_at_call 313;go_must (refine (xix base _ r n bs HW.out.1 hn HW.out.2).mono ?_;rintro e w1 ⟨rfl,hw1,hk1⟩;have H1:=hid (aI hw1 hk1);clear hw1 hk1));go_ret;exact ⟨rfl,H1.out.1,H1.out.2⟩
def xbE (w:World) (v:V):Value->Value->World->Prop:=fun y b w'=>b = .bool true/\Kept Nope w w'/\∃ v',VAgg (xaf w) w' y v'/\xao v v'
def xkk (v:V):Prop:=∀ (W:World) (x:Value),Tabs W->AnyV Any_ W x v->Calls prog 33 #[x] W (xac (xbE W v))
def xpm (w:World) (l:List V):Value->Value->World->Prop:=fun y b w'=>b = .bool true/\Kept Nope w w'/\∃ l',VSl (xaf w) w' y l'/\l'.length=l.length/\∀ (i:Nat) (x x':V),l[i]? = some x->l'[i]? = some x'->xao x x'
theorem CSl.one_six {W:World} (a:Lay) {g:Nat} (hg:W.heap.size=g):CSl Any_ (W.alloc (.cells a.cells.toArray 25)) 6 (.slice (some ⟨g,0,none⟩) 1 1) 1 a.cells:=by
 subst hg;refine ⟨rfl,_,1,rfl,Nat.le_refl _,by decide,.inr ⟨W.heap.size,0,rfl,trivial,fun j u hu => ?_⟩⟩;rw [(Blk.new W 25 a.cells.toArray).cell,Nat.zero_add]
 simpa using hu
theorem xll (w:World) (s:Value) (l:List V) (xs:List Value) (hs:CSl Any_ w 1 s l.length xs) (hx:∀ (i:Nat) (x:Value) (k:V),xs[i]? = some x->l[i]? = some k->AnyV Any_ w x k) (hn:l.length<=1000) (hT:Tabs w) (ih:∀ k ∈ l,xkk k) :
  Calls prog 46 #[s] w (xac (xpm w l)):=by
 obtain ⟨i1,hi,hz0,hz1,hz2⟩:=info_parts xbc;have HI:=hid ih;have HT:=hid hT;clear hT;have HX:=hid hx;have HS:=hid hs;obtain ⟨hlx,A,c,rfl,hnc,hcm,hc⟩:=hs;have HLX:=hid hlx;have HC:=hid hc;clear hx hc hlx ih;unfold maxLen at hcm;obtain ⟨n,hnn⟩:∃ n,l.length=n:=⟨_,rfl⟩
 have HL:=hid hnn;rw [hnn] at hn hnc ⊢;clear hnn;go_enter func46,ntmps46;go_wp2
 go_loopw [4,11] (fun o c w'=>∃ (k:Nat) (la:List Lay),k<=n/\c = .int .i64 k/\Hid (Kept Nope w w'/\Row6 w (fun b=>b < w.heap.size) w' o la/\la.length=k/\∀ (i:Nat) (x:V) (a:Lay),l[i]? = some x->la[i]? = some a->xao x a.v)) (fun _ c _=>n - (RowKit.intOf c).toNat)
 case atStart=>exact ⟨0,[],by omega,rfl,hid ⟨kR _ _,Row6.nil _ _ _,rfl,fun i x a _ h=>by simp at h⟩⟩
 case round =>
  obtain ⟨k,la,hk,rfl,HR⟩:=hrel;obtain ⟨po,co,ho⟩:=HR.out.2.1.form;subst ho
  by_cases hkn:k < n
  ·have hkn':(k:Int) < (n:Int):=by omega
   have hk0:(0:Int)<=(k:Int):=by omega
   have e1:IntKind.i64.wrap ((k:Int)+1)=(k:Int)+1:=IntWalk.i64_in _ (by omega);obtain ⟨v,hv⟩:∃ v,l[k]? = some v:=⟨l[k]'(by rw [HL.out];exact hkn),ge _⟩
   obtain ⟨x,hx⟩:∃ x,xs[k]? = some x:=⟨xs[k]'(by rw [HLX.out,HL.out];omega),ge _⟩
   obtain ⟨b,off,rfl,_,hcell⟩:∃ b off,A=some ⟨b,off,none⟩/\True/\∀ j u,xs[j]? = some u->w.cell? ⟨b,off+j,none⟩=some u:=by
    rcases HC.out with h0 | ⟨b,off,h1,_,h2⟩
    ·rw [HL.out] at h0;omega
    ·exact ⟨b,off,h1,trivial,h2⟩
   have cx:wr.cell? ⟨b,off+k,none⟩=some x:=HR.out.1.cell (hcell k x hx) (fun h=>h);have hvx:=(HX.out k x v hx hv).keep HR.out.1 (fun _ _ _ h=>h);have HV:=hid (aI hv hvx);have hf:=hvx.form;clear hcell hx hv hvx
   rcases hf with rfl | ⟨T,z,rfl⟩
   all_goals
    go_wp2_with (first | (go_at_call 33;go_must (refine (HI.out v (gm HV.out.1) _ _ (HT.out.nope HR.out.1) HV.out.2).mono ?_;rintro e w3 ⟨y,b3,rfl,rfl,hk3,v',hv3,hlo⟩;obtain ⟨ks,ds,rfl,g1⟩:=hv3;have g2:=g1.2.1.form;have g3:=g1.2.2.form;obtain ⟨pk,ck,rfl,_⟩:=g2;obtain ⟨pd,cd,rfl,_⟩:=g3;have HA:=hid (show (Lay.mk v' _ _).Ok (xaf wr) w3 from g1);have HLO:=hid hlo;have HK3:=hid hk3;have HROW:=hid (HR.out.2.1.nope ((hk3.alloc (.cells (Lay.mk v' (.slice pk v'.kids.length ck) (.slice pd v'.desc.length cd)).cells.toArray 25)).alloc (.cells (Lay.mk v' (.slice pk v'.kids.length ck) (.slice pd v'.desc.length cd)).cells.toArray 25)));clear hk3 g1 hlo;unfold vagg)) | (at_builtin;go_must (refine xae _ rfl (.tmp 22) (.tmp 24) 23 rfl w.heap.size 25 i1 _ 6 88 underlying23 hi hz0 hz1 hz2 rfl (by decide) _ _ _ rfl HROW.out.own Any_ _ 1 (Lay.mk v' (.slice pk v'.kids.length ck) (.slice pd v'.desc.length cd)).cells rfl (CSl.one_six (W:=w3.alloc _) _ (by simp)) HA.out.one (by have:=HR.out.2.2.1;unfold maxLen;omega) (by have:=HR.out.2.2.1;omega) (by have h1:=HR.out.1.size;have h2:=HK3.out.size;simp;omega) ?_;intro v4 w4 hown hgrow hblk;have HN:=hid (aI hown (aI hgrow hblk));clear hown hgrow hblk)));go_roundw
    case rel =>
     have hka:=(HK3.out.alloc (.cells (Lay.mk v' (.slice pk v'.kids.length ck) (.slice pd v'.desc.length cd)).cells.toArray 25)).alloc (.cells (Lay.mk v' (.slice pk v'.kids.length ck) (.slice pd v'.desc.length cd)).cells.toArray 25);have hkb:=((kR Nope w3).alloc (.cells (Lay.mk v' (.slice pk v'.kids.length ck) (.slice pd v'.desc.length cd)).cells.toArray 25)).alloc (.cells (Lay.mk v' (.slice pk v'.kids.length ck) (.slice pd v'.desc.length cd)).cells.toArray 25);have hrow:∀ b,(Value.slice po la.length co).ownBlock=some b->w.heap.size<=b/\b < wr.heap.size:=fun b hb=>HR.out.2.1.own.lt b hb
     have hA2:=HA.out.keep hkb (fun _ _ _ h=>h);have hp:=HROW.out.push (hA2.mono fun b _ hb=>⟨fun e=>by have:=(hrow b e).2;have h3:wr.heap.size<=b:=hb;omega,fun h=>by have h3:wr.heap.size<=b:=hb;have:=HR.out.1.size;omega⟩) HN.out.1 HN.out.2.1 HN.out.2.2;have hg:Kept (fun b=>(Value.slice po la.length co).ownBlock=some b) _ _:=⟨HN.out.2.1.os,HN.out.2.1.tape,HN.out.2.1.output,HN.out.2.1.size,fun k hk hn=>HN.out.2.1.block k hk (fun e=>hn e.symm)⟩;have hall:=(HR.out.1.trans' hka).trans hg (fun b hb e=>by have:=(hrow b e).1;omega);refine ⟨k+1,la ++ [Lay.mk v' (.slice pk v'.kids.length ck) (.slice pd v'.desc.length cd)],by omega,by go_num,hid ⟨hall,hp,by rw [lA,HR.out.2.2.1];rfl,fun i x' a hi ha => ?_⟩⟩;rw [List.getElem?_append] at ha
     split at ha
     ·exact HR.out.2.2.2 i x' a hi ha
     ·next hge =>
      have hlt:i - la.length < 1:=by have:=(gi.1 ha).1;simpa using this
      have he:i=k:=by have:=HR.out.2.2.1;omega
      subst he;have h1:=HV.out.1;rw [hi] at h1;cases h1;have h2:i - la.length=0:=by omega
      rw [h2] at ha;simp at ha;subst ha;exact HLO.out
    case measure=>simp [RowKit.intOf];omega
  ·obtain rfl:k=n:=by omega
   have hlt:¬ (k:Int) < (k:Int):=by omega
   go_wp2;go_ret2;refine ⟨_,_,rfl,rfl,HR.out.1,la.map Lay.v,HR.out.2.1.above,by rw [lM,HR.out.2.2.1,HL.out],fun i x x' hi hx' => ?_⟩;rw [gM] at hx';obtain ⟨a,ha,rfl⟩:=Option.map_eq_some_iff.1 hx';exact HR.out.2.2.2 i x a hi ha
theorem Bytes_wb (base:Nat) (w:World) (r n:Nat) (h:WB base w r n) (hn:n<=1000000):Calls prog 34 #[.pointer (some ⟨r,0,none⟩)] w (Gives fun v w'=>(∃ bs,bs.length<=n/\BSl Any_ w v bs)/\Drew w w'):=by
 obtain ⟨x,D,hl,hb,hr,hbr⟩:=h;obtain ⟨i,hi⟩:∃ i:Nat,i=0:=⟨_,rfl⟩
 have hle:i<=D.length:=by omega
 have c1:w.cell? ⟨r,1,none⟩=some (.int .i64 i):=by rw [hi];exact hb.cell 1
 have hB:BSl Any_ w x D:=hr.bsl.mono fun _ _ _=>trivial
 obtain ⟨a,c,rfl,hc,hm,_⟩:=hr.bsl;have c0:w.cell? ⟨r,0,none⟩=some (.slice a D.length c):=hb.cell 0;have hcut:=hB.from_ hle;have HL:=hid (show (D.drop i).length<=n by rw [List.length_drop];omega);unfold maxLen at hm;clear hb hr hB hi hl
 by_cases hci:c=i
 ·subst hci;rw [if_pos rfl] at hcut;have H:=hid hcut;clear hcut;go_enter func34,ntmps34;go_wp2;go_quiet (fail);go_wp2;go_ret;have hz:D.length - c=0:=by omega
  exact ⟨_,rfl,⟨_,HL.out,by simpa [hz] using H.out⟩,_,rfl⟩
 ·rw [if_neg hci] at hcut;have H:=hid hcut;clear hcut;go_enter func34,ntmps34;go_wp2;go_quiet (fail);go_wp2;go_ret;exact ⟨_,rfl,⟨_,HL.out,H.out⟩,_,rfl⟩
def MarIH (x:Value):Prop:=∀ W:World,Tabs W->Calls prog 101 #[x] W (xac fun y b w'=>b = .bool true/\Kept Nope W w'/\∃ bs,bs.length<=200000/\BSl (xaf W) w' y bs)
theorem xlf (T:TypeId) (z:Value) (hM:∀ (base:Nat) (W:World) (r:Nat),WB base W r 0->Tabs W->Calls prog 154 #[.pointer (some ⟨r,0,none⟩),.iface T z] W (xcG base W r 200000)):MarIH (.iface T z):=by
 intro w hT;have hw0:WB w.heap.size (w.alloc (.cells #[.slice none 0 0,.int .i64 0] 92)) w.heap.size 0:=⟨_,[],Nat.le_refl _,Blk.new _ _ _,BRow.nil _ _,Nat.le_refl _⟩;have HM:=hid (aI hM (aI hw0 (hT.alloc (.cells #[.slice none 0 0,.int .i64 0] 92))));clear hM hw0 hT;go_enter func101,ntmps101;go_wp2_with (first | (go_at_call 31;go_must (refine (xbh Any_ _ _ bs2 H2.out.2.1 (by omega)).mono ?_;rintro e w3 ⟨y,rfl,hy,hk3⟩;have H3:=hid (aI hy hk3);obtain ⟨py,cy,rfl,_⟩:=hy;clear hk3)) | (go_at_call 34;go_must (refine (Bytes_wb _ _ _ 200000 H1.out.1 (by omega)).mono ?_;rintro e w2 ⟨v,rfl,⟨bs2,hl2,hv⟩,k2,rfl⟩;have H2:=hid (aI hl2 (aI (hv.keep ((kR Nope w1).drewN k2) (fun _ _ _ h=>h)) ((kR Nope w1).drewN k2)));obtain ⟨pv,cv,rfl,_⟩:=hv)) | (go_at_call 154;go_must (refine (HM.out.1 w.heap.size _ _ HM.out.2.1 HM.out.2.2).mono ?_;rintro e w1 ⟨rfl,hw1,hk1⟩;have H1:=hid (aI hw1 (Kept.ofNew ((((kR Nope w).alloc _).nope).trans' (hk1.above (Nat.le_refl _))) (fun i hi=>hi)));clear hw1 hk1)));go_ret2;refine ⟨_,_,rfl,rfl,H1.out.2.trans' (H2.out.2.2.trans' H3.out.2),bs2,H2.out.1,H3.out.1.mono fun b _ hb => ?_⟩;have h1:(w1.drewN k2).heap.size<=b:=hb;have h2:=(H1.out.2.trans' H2.out.2.2).size
 show w.heap.size<=b
 omega
theorem Same.symm {a b:V} (h:Same a b):Same b a:=by
 induction h with
 | mk h0 h1 h2 h3 h4 _ _ ih1 ih2=>exact .mk h0.symm h1.symm h2.symm h3.symm h4.symm (fun i x y hx hy=>ih1 i y x hy hx) (fun x y hx hy=>ih2 y x hy hx)
theorem AnyV.key {S:Nat->Prop} {w:World} {x:Value} {v:V} (h:AnyV S w x v) (hk:xbn v.kind):x = .iface (rtype v.kind) (raw v):=by
 unfold xbn at hk
 cases h with
 | scal _=>rfl
 | null h=>omega
 | bin h=>omega
 | list h=>omega
 | map j l h=>omega
 | mapS j l h=>omega
 | arr h=>omega
 | arrB h=>omega
def KeyOk (v:V):Prop:=xbn v.kind/\(v.kind=17->v.text.size=16)
theorem ck_uuid (bs:List UInt8) (h:bs.length=16) (W:World):(Instr.checkKey false 10000 20 (.iface 112 (uid bs))).run prog W = .ok () W:=by
 match bs,h with
 | [x0,x1,x2,x3,x4,x5,x6,x7,x8,x9,x10,x11,x12,x13,x14,x15],_=>show _=_;kernel_rfl
theorem xlr {v:V} (h:KeyOk v) (W:World):(Instr.checkKey false 10000 20 (.iface (rtype v.kind) (raw v))).run prog W = .ok () W:=by
 obtain ⟨h,hu⟩:=h;have e:v.kind=1\/v.kind=2\/v.kind=3\/v.kind=4\/v.kind=5\/v.kind=6\/v.kind=7\/v.kind=8\/v.kind=9\/v.kind=16\/v.kind=17\/v.kind=19:=by unfold xbn at h;omega
 unfold raw
 rcases e with h0 | h0 | h0 | h0 | h0 | h0 | h0 | h0 | h0 | h0 | h0 | h0 <;> (simp only [h0,rtype,↓reduceIte,Int.reduceEq])
 ·(show _=_;kernel_rfl)
 ·(show _=_;kernel_rfl)
 ·(show _=_;kernel_rfl)
 ·(show _=_;kernel_rfl)
 ·(show _=_;kernel_rfl)
 ·(show _=_;kernel_rfl)
 ·(show _=_;kernel_rfl)
 ·(show _=_;kernel_rfl)
 ·(show _=_;kernel_rfl)
 ·(unfold tm;show _=_;kernel_rfl)
 ·exact ck_uuid _ (by rw [bytesOf_length];exact hu h0) W
 ·(show _=_;kernel_rfl)
structure MInv (w0:World) (r:Nat) (s:Value) (D:List UInt8) (p:Nat) (t:TypeId) (b:Nat) (l:List V) (pos:Nat->Nat) (k:Nat) (w:World):Prop where
 at_:At_ w0 w r s D (pos (2*k))
 cell:Blk w p t #[.map none]
 big:w0.heap.size<=b
 bigp:w0.heap.size<=p
 ne:p < b
 row:∃ es,MapAt w b es/\es.length=k/\(∀ (i:Nat) (e:Value × Value) (u:V),es[i]? = some e->l[2*i]? = some u->AnyV (fun c=>b < c) w e.1 u)/\(∀ (i:Nat) (e:Value × Value) (u:V),es[i]? = some e->l[2*i+1]? = some u->AnyV (fun c=>b < c) w e.2 u)
theorem MInv.start {w0 w:World} {r:Nat} {s:Value} {D:List UInt8} {p:Nat} {t:TypeId} {l:List V} {pos:Nat->Nat}
  (hA:At_ w0 w r s D (pos 0)) (hb:Blk w p t #[.map none]) (hp:w0.heap.size<=p):MInv w0 r s D p t w.heap.size l pos 0 (w.alloc (.map #[] 0)) :=
 ⟨hA.nope ((kR _ _).alloc _),hb.alloc _,hA.kept.size,hp,hb.lt,[],MapAt.new _,rfl,fun i e u he=>by simp at he,fun i e u he=>by simp at he⟩
structure MMid (w0:World) (r:Nat) (s:Value) (D:List UInt8) (p:Nat) (t:TypeId) (b:Nat) (l:List V) (pos:Nat->Nat) (k:Nat) (x y:Value) (u v:V) (w:World):Prop where
 at_:At_ w0 w r s D (pos (2*(k+1)))
 cell:Blk w p t #[.map none]
 big:w0.heap.size<=b
 bigp:w0.heap.size<=p
 ne:p < b
 key:AnyV (fun c=>b < c) w x u
 val:AnyV (fun c=>b < c) w y v
 row:∃ es,MapAt w b es/\es.length=k/\(∀ (i:Nat) (e:Value × Value) (u:V),es[i]? = some e->l[2*i]? = some u->AnyV (fun c=>b < c) w e.1 u)/\(∀ (i:Nat) (e:Value × Value) (u:V),es[i]? = some e->l[2*i+1]? = some u->AnyV (fun c=>b < c) w e.2 u)
theorem MInv.mid {w0 w w1 w2:World} {r:Nat} {s:Value} {D:List UInt8} {i0 p:Nat} {t:TypeId} {b:Nat} {l:List V} {pos:Nat->Nat} {k:Nat} {x y:Value} {u v:V}
  (h:MInv w0 r s D p t b l pos k w) (h0:Buf w0 r s D i0) (hA:At_ w w1 r s D (pos (2*k+1))) (hx:AnyV (xaf w) w1 x u) (hA2:At_ w1 w2 r s D (pos (2*k+1+1))) (hy:AnyV (xaf w1) w2 y v) :
  MMid w0 r s D p t b l pos k x y u v w2:=by
 obtain ⟨es,hm,hl,h1,h2⟩:=h.row;have hr:r < w0.heap.size:=h0.lt;have hpr:¬ Only r p:=fun e=>by have e':p=r:=e;have:=h.bigp;omega
 have hbr:¬ Only r b:=fun e=>by have e':b=r:=e;have:=h.big;omega
 have hS:∀ c:Nat,b < c->¬ Only r c:=fun c hc e=>by have e':c=r:=e;have:=h.big;omega
 have hbw:b < w.heap.size:=hm.lt;have hk:=hA.kept.trans' hA2.kept;refine ⟨h.at_.trans (hA.trans hA2),h.cell.kept hk hpr,h.big,h.bigp,h.ne,?_,?_,es,hm.keep hk hbr,hl,fun i e z he hz=>(h1 i e z he hz).keep hk fun c _ hc=>hS c hc,fun i e z he hz=>(h2 i e z he hz).keep hk fun c _ hc=>hS c hc⟩
 ·refine (hx.mono fun c hc => ?_).keep hA2.kept fun c _ hc=>hS c hc
  have hc':w.heap.size<=c:=hc
  show b < c;omega
 ·refine hy.mono fun c hc => ?_
  have hc':w1.heap.size<=c:=hc;have:=hA.kept.size
  show b < c;omega
theorem MMid.step {w0 w w':World} {r:Nat} {s:Value} {D:List UInt8} {i0 p:Nat} {t:TypeId} {b:Nat} {l:List V} {pos:Nat->Nat} {k:Nat} {x y:Value} {u v:V} {es:List (Value × Value)}
  (h:MMid w0 r s D p t b l pos k x y u v w) (h0:Buf w0 r s D i0) (hu:l[2*k]? = some u) (hv:l[2*k+1]? = some v) (he:MapAt w b es) (hes:MapAt w' b (es ++ [(x,y)])) (hk:Kept (Only b) w w') :
  MInv w0 r s D p t b l pos (k+1) w':=by
 obtain ⟨es',hm,hl,h1,h2⟩:=h.row
 obtain rfl:es'=es:=by
  obtain ⟨a1,c1,g1,e1,_⟩:=hm;obtain ⟨a2,c2,g2,e2,_⟩:=he;rw [g1] at g2;cases g2;rw [<- e1,<- e2]
 have hpb:¬ Only b p:=fun e=>by have e':p=b:=e;have:=h.ne;omega
 have hS:∀ c:Nat,b < c->¬ Only b c:=fun c hc e=>by have e':c=b:=e;omega
 have hbelow:RowKit.Below w0.heap.size w w':=⟨hk.os,hk.tape,hk.output,hk.size,fun c hc=>hk.block c (Nat.lt_of_lt_of_le hc h.at_.kept.size) (fun e=>by have e':c=b:=e;have:=h.big;omega)⟩;refine ⟨h.at_.below h0 hbelow (Nat.le_refl _),h.cell.kept hk hpb,h.big,h.bigp,h.ne,_,hes,by simp [hl],fun i e z hi hz => ?_,fun i e z hi hz => ?_⟩
 ·rcases Nat.lt_or_ge i es'.length with hlt | hge
  ·rw [List.getElem?_append_left hlt] at hi;exact (h1 i e z hi hz).keep hk fun c _ hc=>hS c hc
  ·have hi':i < (es' ++ [(x,y)]).length:=(gi.1 hi).1;obtain rfl:i=k:=by simp at hi';omega
   rw [List.getElem?_append_right hge,<- hl] at hi;simp at hi;subst hi;rw [hu] at hz;cases hz;exact h.key.keep hk fun c _ hc=>hS c hc
 ·rcases Nat.lt_or_ge i es'.length with hlt | hge
  ·rw [List.getElem?_append_left hlt] at hi;exact (h2 i e z hi hz).keep hk fun c _ hc=>hS c hc
  ·have hi':i < (es' ++ [(x,y)]).length:=(gi.1 hi).1;obtain rfl:i=k:=by simp at hi';omega
   rw [List.getElem?_append_right hge,<- hl] at hi;simp at hi;subst hi;rw [hv] at hz;cases hz;exact h.val.keep hk fun c _ hc=>hS c hc
structure xgs (l:List V):Prop where
 ok:∀ (i:Nat) (u:V),l[2*i]? = some u->KeyOk u
 ne:∀ (i j:Nat) (u u':V),i < j->l[2*i]? = some u->l[2*j]? = some u'->Ne_ (.iface (rtype u'.kind) (raw u')) (.iface (rtype u.kind) (raw u))
theorem MMid.fresh {w0 w:World} {r:Nat} {s:Value} {D:List UInt8} {p:Nat} {t:TypeId} {b:Nat} {l:List V} {pos:Nat->Nat} {k:Nat} {x y:Value} {u v:V}
  (h:MMid w0 r s D p t b l pos k x y u v w) (hu:l[2*k]? = some u) (hK:xgs l) (hkl:∀ i,i < k->∃ z,l[2*i]? = some z):∃ es,MapAt w b es/\xeN 20 (.iface (rtype u.kind) (raw u)) es:=by
 obtain ⟨es,hm,hl,h1,h2⟩:=h.row;refine ⟨es,hm,xeN.any fun e he => ?_⟩;obtain ⟨i,hi⟩:=List.mem_iff_getElem?.1 he;have hi':i < es.length:=(gi.1 hi).1;obtain ⟨z,hz⟩:=hkl i (by omega);rw [(h1 i e z hi hz).key (hK.ok i z hz).1];exact hK.ne i k z u (by omega) hz hu
theorem xcG.mono {base:Nat} {w:World} {r n m:Nat} {e:Ending} {w':World} (h:xcG base w r n e w') (hm:n<=m):xcG base w r m e w':=⟨h.1,h.2.1.mono hm,h.2.2⟩
theorem xpP {k:V} (hk:xbn k.kind) (t:Tidy k) (hv:k.kind=19->Lib.validD (bytesOf k.text)=true):MarIH (.iface (rtype k.kind) (raw k)):=by
 have hp:=t.pos;have e1:k.kind=1\/k.kind=2\/k.kind=3\/k.kind=4\/k.kind=5\/k.kind=6\/k.kind=7\/k.kind=8\/k.kind=9\/k.kind=16\/k.kind=17\/k.kind=19:=by unfold xbn at hk;omega
 unfold rtype raw
 rcases e1 with h | h | h | h | h | h | h | h | h | h | h | h
 all_goals simp only [h,if_true,Int.reduceEq,if_false]
 all_goals refine xlf _ _ fun base W r hW hT => ?_
 ·exact (xmk base W r 0 hW (by omega) _).mono fun _ _ h=>h.mono (by omega)
 ·exact (xpk base W r 0 hW (by omega) _ ⟨hp.1,t.n1 h⟩).mono fun _ _ h=>h.mono (by omega)
 ·exact (xnS base W r 0 hW (by omega) _).mono fun _ _ h=>h.mono (by omega)
 ·exact (xnR base W r 0 hW (by omega) _).mono fun _ _ h=>h.mono (by omega)
 ·exact (xnQ base W r 0 hW (by omega) _).mono fun _ _ h=>h.mono (by omega)
 ·exact (xpl base W r 0 hW (by omega) _).mono fun _ _ h=>h.mono (by omega)
 ·exact (xnV base W r 0 hW (by omega) _).mono fun _ _ h=>h.mono (by omega)
 ·exact (xnU base W r 0 hW (by omega) _).mono fun _ _ h=>h.mono (by omega)
 ·exact (xnT base W r 0 hW (by omega) _).mono fun _ _ h=>h.mono (by omega)
 ·have hs:-9223372036854775808<=sint k.num/\sint k.num<=9223372036854775807:=by unfold sint;split <;> omega
  exact (xmm base W r 0 hW (by omega) _ _ _ (xgN _ hs.1 hs.2) ⟨by omega,by omega⟩).mono fun _ _ h=>h.mono (by omega)
 ·exact (xml base W r 0 (bytesOf k.text) hW (by omega) (by rw [bytesOf_length];exact t.uuid h)).mono fun _ _ h=>h.mono (by omega)
 ·have hz:=t.size;exact (xiO base W r 0 hW (by omega) _ hz (hv h) hT).mono fun _ _ h=>h.mono (by omega)
end Go.Proofs.YtmdpodeegdjkeaaGreatDoor
